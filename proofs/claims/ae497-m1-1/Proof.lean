import JvmDerived
import JvmDerived.Pilot.@@N@@Statement
import JvmDerived.Pilot.@@N@@Code
set_option linter.unusedVariables false
set_option linter.unusedSimpArgs false
namespace Jvm.Pilot.@@N@@
open Jvm Jvm.ClassFile Sem Op Lib Jvm.Free Jvm.Stand Jvm.LawKit Jvm.RoadKit Bundle Jvm.Pilot.@@N@@.Jvm.D
/-- from the state A the body comes to its end as Q says -/
def own_Fin (tb : Tables) (e : Env) (below : List Frame) (s : State) (Q : Option Value → Heap → List Loc → Prop) (kc ks : Nat) (A : State) : Prop :=
  ∃ s₂ o, Steps tb e below A s₂ ∧ s₂.status = .running ∧ Ended s₂ below o ∧ ∃ v L, o = .returned v ∧ Q v s₂.heap L ∧ FrameEnd s o s₂ L kc ks
theorem own_G (tb : Tables) (e : Env) (below : List Frame) (s : State) (Q : Option Value → Heap → List Loc → Prop) (kc ks : Nat) :
    ∃ G : State → Prop, (∀ {A B : State}, (∀ t, Steps tb e below B t → Steps tb e below A t) → G B → G A) ∧ (∀ A, own_Fin tb e below s Q kc ks A → G A) ∧ (∀ A, G A → own_Fin tb e below s Q kc ks A) :=
  ⟨own_Fin tb e below s Q kc ks, fun h k => by obtain ⟨s₂, o, h1, r⟩ := k; exact ⟨s₂, o, h _ h1, r⟩, fun _ h => h, fun _ h => h⟩
theorem own_ret {p : Program} {l : Launch} {e : Env} {R : Room} {s : State} {m : MethodId} {args : Array Value} {below : List Frame} {meth : Method} {c : Code} {T : State} {locs : List Loc} {cells slots : Nat} {Q : Option Value → Heap → List Loc → Prop} {kc ks : Nat} {A : State} {v : Option Value}
    (X : Stand p l e R s m args below meth c T locs cells slots) (hlk : meth.locks = false) (hv : meth.sig.returnType = none → v = none) (hQ : Q v T.heap locs) (hc : cells ≤ kc) (hs : slots ≤ ks)
    (st : ∀ fs, (∀ (f : JFrame) (acts : List Action), f.method = m → f.locked = none → f.entered = [] → (doReturn e (T.setTop f) acts v).1 = T.setFrames fs) → Steps p.tables e below A (T.setFrames fs)) : own_Fin p.tables e below s Q kc ks A := by
  obtain ⟨fs, hr, hrun, hended, hW, hsame⟩ := X.leave hv hlk
  exact ⟨_, _, st fs hr, hrun, hended, _, _, rfl, hQ, ⟨_, rfl⟩, hW, hsame.mono hc hs⟩
theorem own_old {Z : State} {n0 : Nat} {h : Heap} (O : Old Z n0 h) : n0 ≤ h.size := O.1 ▸ O.2.1
theorem own_cat {v : Value} (h : v.isRef = true) : v.category = 1 := by rcases ref_cases h with rfl | ⟨a, rfl⟩ <;> rfl
theorem own_mvM {Z s : State} {a0 args : Array Value} {own host : String} {index : Nat} {y : MethodName} (hZ : Z.Warmed39 s.vm) (w : (Jvm.Cond.methodLinkNest own index y host).before a0 Z = true) : (Jvm.Cond.methodLinkNest own index y host).before args s = true := (Cond.methodLinkNest_wide hZ w :)
theorem own_ne_arv {Z : State} {h : Heap} {a b : Addr} {C : String} {a0 : Array Value} {n : Nat} {k : ClassId} {ty : FieldType} {z : Int32} {vs : List Value} {d : Value} (E : Exa Z h a C) (wi : (Jvm.Cond.instantiable C n).before a0 Z = true) (A : Arv Z h b k ty z vs d) : a ≠ b := by
  obtain ⟨c, A, -⟩ := A
  exact ne_arr E wi A
theorem own_narB (x : Int32) : nar .byte x.toInt8.toInt32 = x.toInt8.toInt32 := by
  refine Int32.toInt_inj.mp ?_
  have h1 := c_i2b x
  have h2 := c_i2b x.toInt8.toInt32
  show (x.toInt8.toInt32.toInt8.toInt32).toInt = _
  omega
theorem own_narC (x : Int32) : nar .char x.toUInt32.toUInt16.toUInt32.toInt32 = x.toUInt32.toUInt16.toUInt32.toInt32 := by
  refine Int32.toInt_inj.mp ?_
  have h1 := c_i2c x
  have h2 := c_i2c x.toUInt32.toUInt16.toUInt32.toInt32
  show (x.toUInt32.toUInt16.toUInt32.toInt32.toUInt32.toUInt16.toUInt32.toInt32).toInt = _
  omega
theorem own_exa {s : State} {args : Array Value} {t : Term} {K : String} (h : (Jvm.Cond.exactly t K).value args s none s [] = some true) : ∃ a, t.eval args s none [] s = some (.ref a) ∧ Exa s s.heap a K := by
  obtain ⟨a, c', cell, k, e1, e2, e3, e4, e5, e6, e7⟩ := Cond.exactly_spec (Cond.before_iff.mpr h)
  exact ⟨a, e1, Exa.start e1 h⟩
theorem own_fint {s : State} {args : Array Value} {t : Term} {C n d : String} {a : Addr} {k : Int32} (ht : t.eval args s none [] s = some (.ref a)) (h : (Jvm.Cond.eq (.field t C n d) (.int k)).value args s none s [] = some true) : Fld s s.heap a C n d (.int k) := by
  refine Fld.start ?_
  rw [← fld_at ht]
  have hk : (Term.int k).eval args s none [] s = some (.int k) := rfl
  cases q : (Term.field t C n d).eval args s none [] s with
  | none => simp [Cond.value, q] at h
  | some v => cases v <;> simp [Cond.value, q, hk] at h; rw [h]
theorem own_flong {s : State} {args : Array Value} {t : Term} {C n d : String} {a : Addr} {k : Int64} (ht : t.eval args s none [] s = some (.ref a)) (h : (Jvm.Cond.eq (.field t C n d) (.long k)).value args s none s [] = some true) : Fld s s.heap a C n d (.long k) := by
  refine Fld.start ?_
  rw [← fld_at ht]
  have hk : (Term.long k).eval args s none [] s = some (.long k) := rfl
  cases q : (Term.field t C n d).eval args s none [] s with
  | none => simp [Cond.value, q] at h
  | some v => cases v <;> simp [Cond.value, q, hk] at h; rw [h]
def own_gc (x0 x1 : Int32) : Int32 := ((((x0 &&& (255 : Int32)) <<< ((0 : Int32) &&& 31)) ||| ((x1 &&& (255 : Int32)) <<< ((8 : Int32) &&& 31))).toUInt32.toUInt16.toUInt32.toInt32)
theorem own_gc_put (c : Int32) (h1 : ¬ (c < (0 : Int32))) (h2 : ¬ ((65535 : Int32) < c)) : own_gc ((c >>> ((0 : Int32) &&& 31)).toInt8.toInt32) ((c >>> ((8 : Int32) &&& 31)).toInt8.toInt32) = c := by
  refine Int32.toInt_inj.mp ?_
  rw [Int32.lt_iff_toInt_lt] at h1 h2
  have e0 : (0 : Int32).toInt = 0 := by decide
  have e1 : (65535 : Int32).toInt = 65535 := by decide
  have a0 := c_ishr c 0 0 (by decide)
  have a1 := c_ishr c 8 8 (by decide)
  have b0 := c_i2b (c >>> ((0 : Int32) &&& 31))
  have b1 := c_i2b (c >>> ((8 : Int32) &&& 31))
  have m0 := c_mask ((c >>> ((0 : Int32) &&& 31)).toInt8.toInt32) 255 8 (by decide) (by decide)
  have m1 := c_mask ((c >>> ((8 : Int32) &&& 31)).toInt8.toInt32) 255 8 (by decide) (by decide)
  have s0 := c_ishl (((c >>> ((0 : Int32) &&& 31)).toInt8.toInt32) &&& (255 : Int32)) 0 0 (by decide)
  have s1 := c_ishl (((c >>> ((8 : Int32) &&& 31)).toInt8.toInt32) &&& (255 : Int32)) 8 8 (by decide)
  have r0 := rng32 ((((c >>> ((0 : Int32) &&& 31)).toInt8.toInt32) &&& (255 : Int32)) <<< ((0 : Int32) &&& 31))
  have r1 := rng32 ((((c >>> ((8 : Int32) &&& 31)).toInt8.toInt32) &&& (255 : Int32)) <<< ((8 : Int32) &&& 31))
  have o := c_or' ((((c >>> ((0 : Int32) &&& 31)).toInt8.toInt32) &&& (255 : Int32)) <<< ((0 : Int32) &&& 31)) ((((c >>> ((8 : Int32) &&& 31)).toInt8.toInt32) &&& (255 : Int32)) <<< ((8 : Int32) &&& 31)) 8 (by decide) 256 (by decide) (by omega) (by omega) (by omega)
  have r2 := rng32 (((((c >>> ((0 : Int32) &&& 31)).toInt8.toInt32) &&& (255 : Int32)) <<< ((0 : Int32) &&& 31)) ||| ((((c >>> ((8 : Int32) &&& 31)).toInt8.toInt32) &&& (255 : Int32)) <<< ((8 : Int32) &&& 31)))
  have w := c_i2c (((((c >>> ((0 : Int32) &&& 31)).toInt8.toInt32) &&& (255 : Int32)) <<< ((0 : Int32) &&& 31)) ||| ((((c >>> ((8 : Int32) &&& 31)).toInt8.toInt32) &&& (255 : Int32)) <<< ((8 : Int32) &&& 31)))
  show (((((((c >>> ((0 : Int32) &&& 31)).toInt8.toInt32) &&& (255 : Int32)) <<< ((0 : Int32) &&& 31)) ||| ((((c >>> ((8 : Int32) &&& 31)).toInt8.toInt32) &&& (255 : Int32)) <<< ((8 : Int32) &&& 31))).toUInt32.toUInt16.toUInt32.toInt32)).toInt = c.toInt
  omega
theorem own_c2 (c : Int32) (h1 : ¬ (c < (0 : Int32))) (h2 : ¬ ((65535 : Int32) < c)) : (c.toUInt32.toUInt16.toUInt32.toInt32) = c := by
  refine Int32.toInt_inj.mp ?_
  rw [Int32.lt_iff_toInt_lt] at h1 h2
  have e0 : (0 : Int32).toInt = 0 := by decide
  have e1 : (65535 : Int32).toInt = 65535 := by decide
  have w := c_i2c c
  omega
theorem own_not0 {s : State} {args : Array Value} {t : Term} {x : Int32} (ev : t.eval args s none [] s = some (.int x)) (h : (Jvm.Cond.not (.eq t (.int 0))).value args s none s [] = some true) : ¬ (x = (0 : Int32)) := by
  intro q
  subst q
  have k : (Term.int 0).eval args s none [] s = some (.int 0) := rfl
  simp [Cond.value, ev, k] at h
theorem own_isref {s : State} {args : Array Value} {t : Term} (h : (Jvm.Cond.isRef t).value args s none s [] = some true) : ∃ v, t.eval args s none [] s = some v ∧ v.isRef = true := by
  cases q : t.eval args s none [] s with
  | none => simp [Cond.value, q] at h
  | some v => refine ⟨v, rfl, ?_⟩; cases v <;> simp [Cond.value, q, Value.isRef] at h ⊢
theorem ef_0 (m : MethodId) (x0 : Int32)  : entryFrame m #[(.int x0)] 1 = mkF m 0 #[.val (.int x0)] [] := by first | (simp [entryFrame, mkF, argsToLocals, Value.category]; done) | rfl
theorem pn_0 : plainName "java/lang/StringLatin1" = true := by first | (simp [plainName, overriddenIn]; done) | decide +kernel
theorem d4_0 : decode jdk_43_method_3_code 0 = .ok (.iload_n 0, 1) := by decide +kernel
theorem d4_1 : decode jdk_43_method_3_code 1 = .ok (.sipush 255, 3) := by decide +kernel
theorem d4_4 : decode jdk_43_method_3_code 4 = .ok (.if_icmp .gt 7, 3) := by decide +kernel
theorem d4_11 : decode jdk_43_method_3_code 11 = .ok (.iconst 0, 1) := by decide +kernel
theorem d4_12 : decode jdk_43_method_3_code 12 = .ok (.ireturn, 1) := by decide +kernel
theorem d4_7 : decode jdk_43_method_3_code 7 = .ok (.iconst 1, 1) := by decide +kernel
theorem d4_8 : decode jdk_43_method_3_code 8 = .ok (.goto 4, 3) := by decide +kernel
def Q_canC (Z : State) (c : Int32) (h0 : Heap) (n0 : Nat) (v : Option Value) (h : Heap) (L : List Loc) : Prop := v = some (.int (if (255 : Int32) < c then (0 : Int32) else (1 : Int32))) ∧ Fr n0 L ∧ h = h0
set_option maxRecDepth 65536 in
set_option maxHeartbeats 40000000 in
theorem rm_canC (l : Launch) (Z : State) (a0 : Array Value) (hw : ∀ d ∈ tables_1, d.before a0 Z = true) (ws : List Jvm.Cond) (c : Int32) (h0 : Heap) (n0 : Nat) (O0 : Old Z n0 h0)  :
    MetFree l (⟨"java/lang/StringLatin1", "canEncode", "(C)Z"⟩ : MethodName) (head1 (Jvm.Cond.code (⟨"java/lang/StringLatin1", "canEncode", "(C)Z"⟩ : MethodName) jdk_43_method_3_code 1 (some .boolean) :: ws) ({ frames := 0, cells := 0, slots := 0, locals := 0 } : Room)) (fun aV U => aV = #[(.int c)] ∧ Z.Warmed39 U.vm ∧ U.heap = h0) (fun _ _ _ _ _ => True) (fun _ U o U' => ∃ v L, o = .returned v ∧ Q_canC Z c h0 n0 v U'.heap L ∧ FrameEnd U o U' L ({ frames := 0, cells := 0, slots := 0, locals := 0 } : Room).cells ({ frames := 0, cells := 0, slots := 0, locals := 0 } : Room).slots) := by
  refine MetFree.of_bodySF (plainFor_of_name pn_0) hisR ?_
  intro pr_ en_ st_ me_ args below meth_ co_ s₁ Bd hml0 hP hK
  obtain ⟨rfl, hZ, hh⟩ := hP
  have hx := Bd.exec
  have hby := Bd.bytes
  have hml : co_.maxLocals = 1 := hml0
  have hown : st_.vm.findClass "java/lang/StringLatin1" = some me_.cls := findClass_of_methodNamed Bd.named
  have hnm := (name_of_methodNamed Bd.named Bd.method).1
  have X0 : Stand pr_ l en_ ({ frames := 0, cells := 0, slots := 0, locals := 0 } : Room) st_ me_ #[(.int c)] below meth_ co_ s₁ [] 0 0 := Stand.of_body Bd
  have e0 : s₁.heap = h0 := by rw [← hh, Bd.state]; rfl
  have N0 := Fr.nil n0
  have K0 := Keep.refl h0 []
  obtain ⟨G, gv, gf, gb⟩ := own_G pr_.tables en_ below st_ (Q_canC Z c h0 n0) ({ frames := 0, cells := 0, slots := 0, locals := 0 } : Room).cells ({ frames := 0, cells := 0, slots := 0, locals := 0 } : Room).slots
  show own_Fin pr_.tables en_ below st_ (Q_canC Z c h0 n0) ({ frames := 0, cells := 0, slots := 0, locals := 0 } : Room).cells ({ frames := 0, cells := 0, slots := 0, locals := 0 } : Room).slots (s₁.setTop (entryFrame me_ #[(.int c)] 1))
  refine gb _ (gv (fun tQ kQ => castTop (ef_0 me_ c) kQ) ?_)
  show G (s₁.setTop (mkF me_ 0 #[.val (.int c)] []))
  refine gv (fun tQ kQ => XS.iloadN X0.here hx rfl (hb hby d4_0) rfl kQ) ?_
  show G (s₁.setTop (mkF me_ 1 #[.val (.int c)] [(.int c)]))
  refine gv (fun tQ kQ => XS.sipush X0.here hx rfl (hb hby d4_1) kQ) ?_
  show G (s₁.setTop (mkF me_ 4 #[.val (.int c)] [(.int (255 : Int32)), (.int c)]))
  by_cases hc1 : (255 : Int32) < c
  · refine gv (fun tQ kQ => XS.icmpYes X0.here hx rfl (pc0 := 4) (pc' := 11) rfl (hb hby d4_4) rfl (tlt hc1).2.2.1 (by decide) (by decide) kQ) ?_
    show G (s₁.setTop (mkF me_ 11 #[.val (.int c)] []))
    refine gv (fun tQ kQ => XS.iconst X0.here hx rfl (hb hby d4_11) kQ) ?_
    show G (s₁.setTop (mkF me_ 12 #[.val (.int c)] [(.int (0 : Int32))]))
    refine gf _ (own_ret X0 Bd.notSynchronized (v := some (.int (0 : Int32))) (fun h => by rw [Bd.returns] at h; cases h) ?_ (by decide) (by decide) (fun fs hr => retN X0 hx (t := .boolean) Bd.returns (by simp) (hb hby d4_12) hr))
    show Q_canC Z c h0 n0 _ s₁.heap _
    rw [e0]
    exact ⟨(by rw [if_pos hc1]), N0, rfl⟩
  · refine gv (fun tQ kQ => XS.icmpNo X0.here hx rfl (hb hby d4_4) rfl (flt hc1).2.2.1 kQ) ?_
    show G (s₁.setTop (mkF me_ 7 #[.val (.int c)] []))
    refine gv (fun tQ kQ => XS.iconst X0.here hx rfl (hb hby d4_7) kQ) ?_
    show G (s₁.setTop (mkF me_ 8 #[.val (.int c)] [(.int (1 : Int32))]))
    refine gv (fun tQ kQ => XS.goto X0.here hx rfl (pc0 := 8) (pc' := 12) rfl (hb hby d4_8) (by decide) (by decide) kQ) ?_
    show G (s₁.setTop (mkF me_ 12 #[.val (.int c)] [(.int (1 : Int32))]))
    refine gf _ (own_ret X0 Bd.notSynchronized (v := some (.int (1 : Int32))) (fun h => by rw [Bd.returns] at h; cases h) ?_ (by decide) (by decide) (fun fs hr => retN X0 hx (t := .boolean) Bd.returns (by simp) (hb hby d4_12) hr))
    show Q_canC Z c h0 n0 _ s₁.heap _
    rw [e0]
    exact ⟨(by rw [if_neg hc1]), N0, rfl⟩
theorem d5_0 : decode jdk_43_method_46_code 0 = .ok (.iconst 1, 1) := by decide +kernel
theorem d5_1 : decode jdk_43_method_46_code 1 = .ok (.newarray .byte, 2) := by decide +kernel
theorem d5_3 : decode jdk_43_method_46_code 3 = .ok (.dup, 1) := by decide +kernel
theorem d5_4 : decode jdk_43_method_46_code 4 = .ok (.iconst 0, 1) := by decide +kernel
theorem d5_5 : decode jdk_43_method_46_code 5 = .ok (.iload_n 0, 1) := by decide +kernel
theorem d5_6 : decode jdk_43_method_46_code 6 = .ok (.i2b, 1) := by decide +kernel
theorem d5_7 : decode jdk_43_method_46_code 7 = .ok (.bastore, 1) := by decide +kernel
theorem d5_8 : decode jdk_43_method_46_code 8 = .ok (.areturn, 1) := by decide +kernel
def Q_toB (Z : State) (c : Int32) (h0 : Heap) (n0 : Nat) (v : Option Value) (h : Heap) (L : List Loc) : Prop := ∃ (b : Addr), ∃ (k : ClassId), v = some (.ref b) ∧ Fr n0 L ∧ Keep h0 h [] ∧ h0.size ≤ b ∧ (Arv Z h b k .byte (1 : Int32) [(.int (c.toInt8.toInt32))] (.int (0 : Int32)))
set_option maxRecDepth 65536 in
set_option maxHeartbeats 40000000 in
theorem rm_toB (l : Launch) (Z : State) (a0 : Array Value) (hw : ∀ d ∈ tables_1, d.before a0 Z = true) (ws : List Jvm.Cond) (c : Int32) (h0 : Heap) (n0 : Nat) (O0 : Old Z n0 h0)  :
    MetFree l (⟨"java/lang/StringLatin1", "toBytes", "(C)[B"⟩ : MethodName) (head1 (Jvm.Cond.code (⟨"java/lang/StringLatin1", "toBytes", "(C)[B"⟩ : MethodName) jdk_43_method_46_code 1 (some (.array .byte)) :: ws) ({ frames := 0, cells := 1, slots := 1, locals := 0 } : Room)) (fun aV U => aV = #[(.int c)] ∧ Z.Warmed39 U.vm ∧ U.heap = h0) (fun _ _ _ _ _ => True) (fun _ U o U' => ∃ v L, o = .returned v ∧ Q_toB Z c h0 n0 v U'.heap L ∧ FrameEnd U o U' L ({ frames := 0, cells := 1, slots := 1, locals := 0 } : Room).cells ({ frames := 0, cells := 1, slots := 1, locals := 0 } : Room).slots) := by
  refine MetFree.of_bodySF (plainFor_of_name pn_0) hisR ?_
  intro pr_ en_ st_ me_ args below meth_ co_ s₁ Bd hml0 hP hK
  obtain ⟨rfl, hZ, hh⟩ := hP
  have hx := Bd.exec
  have hby := Bd.bytes
  have hml : co_.maxLocals = 1 := hml0
  have hown : st_.vm.findClass "java/lang/StringLatin1" = some me_.cls := findClass_of_methodNamed Bd.named
  have hnm := (name_of_methodNamed Bd.named Bd.method).1
  have X0 : Stand pr_ l en_ ({ frames := 0, cells := 1, slots := 1, locals := 0 } : Room) st_ me_ #[(.int c)] below meth_ co_ s₁ [] 0 0 := Stand.of_body Bd
  have e0 : s₁.heap = h0 := by rw [← hh, Bd.state]; rfl
  have N0 := Fr.nil n0
  have K0 := Keep.refl h0 []
  obtain ⟨G, gv, gf, gb⟩ := own_G pr_.tables en_ below st_ (Q_toB Z c h0 n0) ({ frames := 0, cells := 1, slots := 1, locals := 0 } : Room).cells ({ frames := 0, cells := 1, slots := 1, locals := 0 } : Room).slots
  show own_Fin pr_.tables en_ below st_ (Q_toB Z c h0 n0) ({ frames := 0, cells := 1, slots := 1, locals := 0 } : Room).cells ({ frames := 0, cells := 1, slots := 1, locals := 0 } : Room).slots (s₁.setTop (entryFrame me_ #[(.int c)] 1))
  refine gb _ (gv (fun tQ kQ => castTop (ef_0 me_ c) kQ) ?_)
  show G (s₁.setTop (mkF me_ 0 #[.val (.int c)] []))
  refine gv (fun tQ kQ => XS.iconst X0.here hx rfl (hb hby d5_0) kQ) ?_
  show G (s₁.setTop (mkF me_ 1 #[.val (.int c)] [(.int (1 : Int32))]))
  obtain ⟨T2, h2, k2, X2, e2, E2, A2, st2⟩ := newP X0 hx hZ (hw _ (List.mem_of_getElem? (i := 23) rfl)) e0 (g := (mkF me_ 1 #[.val (.int c)] [(.int (1 : Int32))])) rfl (hb hby d5_1) rfl (by decide) (cap := 1) (by decide) (by decide) (by decide) (by decide)
  obtain ⟨b2, g2⟩ : ∃ z, z = h0.size := ⟨_, rfl⟩
  rw [← g2] at A2 st2
  refine gv st2 ?_
  have g3 : n0 ≤ b2 := Nat.le_trans (own_old O0) (Nat.le_of_eq g2.symm)
  have z4 : h0.size ≤ b2 := Nat.le_trans K0.1 (Nat.le_of_eq g2.symm)
  have O5 := O0.ext E2
  have K6 := K0.ext E2
  have V2 : Arv Z h2 b2 k2 .byte (1 : Int32) [(.int (0 : Int32))] (.int (0 : Int32)) := (Arv.new A2 (by decide)).pad (pad_rep [] (.int (0 : Int32)) 1)
  show G (T2.setTop (mkF me_ 3 #[.val (.int c)] [(.ref b2)]))
  refine gv (fun tQ kQ => XS.dup X2.here hx rfl (hb hby d5_3) rfl rfl kQ) ?_
  show G (T2.setTop (mkF me_ 4 #[.val (.int c)] [(.ref b2), (.ref b2)]))
  refine gv (fun tQ kQ => XS.iconst X2.here hx rfl (hb hby d5_4) kQ) ?_
  show G (T2.setTop (mkF me_ 5 #[.val (.int c)] [(.int (0 : Int32)), (.ref b2), (.ref b2)]))
  refine gv (fun tQ kQ => XS.iloadN X2.here hx rfl (hb hby d5_5) rfl kQ) ?_
  show G (T2.setTop (mkF me_ 6 #[.val (.int c)] [(.int c), (.int (0 : Int32)), (.ref b2), (.ref b2)]))
  refine gv (fun tQ kQ => XS.i2b X2.here hx rfl (hb hby d5_6) rfl kQ) ?_
  show G (T2.setTop (mkF me_ 7 #[.val (.int c)] [(.int (c.toInt8.toInt32)), (.int (0 : Int32)), (.ref b2), (.ref b2)]))
  obtain ⟨cl7, Ar7, q7, S7, n7, H7, G7⟩ := (id V2)
  have in7 : ¬ ((0 : Int32) < 0 ∨ cl7.slots.size ≤ ((0 : Int32)).toNatClampNeg) := inb_of S7 ⟨by decide, by decide⟩
  obtain ⟨T7, h7, X7, e7, W7, st7⟩ := stB X2 hx hZ e2 Ar7 (j := (0 : Int32)) in7 (g := (mkF me_ 7 #[.val (.int c)] [(.int (c.toInt8.toInt32)), (.int (0 : Int32)), (.ref b2), (.ref b2)])) rfl rfl (hb hby d5_7)
  have W7 : Wr h2 h7 b2 ((0 : Int32)).toNatClampNeg (.int (c.toInt8.toInt32)) := by have z := W7; rw [(own_narB _)] at z; exact z
  refine gv st7 ?_
  have O9 := O5.wr W7 g3
  have K10 := K6.wr W7 (Or.inr z4)
  have N11 := Fr.snoc X7 N0 g3
  have f8 : Arv Z h7 b2 k2 .byte (1 : Int32) [(.int (c.toInt8.toInt32))] (.int (0 : Int32)) := Arv.set Ar7 q7 S7 n7 H7 G7 (fits_nar_byte _) W7 0 rfl (Nat.le_of_ble_eq_true rfl)
  show G (T7.setTop (mkF me_ 8 #[.val (.int c)] [(.ref b2)]))
  refine gf _ (own_ret X7 Bd.notSynchronized (v := some (.ref b2)) (fun h => by rw [Bd.returns] at h; cases h) ?_ (by decide) (by decide) (fun fs hr => retOut X7 hx (t := (.array .byte)) Bd.returns rfl (Or.inr (Or.inr (Or.inr (Or.inr ⟨rfl, rfl, rfl⟩)))) (hb hby d5_8) hr))
  show Q_toB Z c h0 n0 _ T7.heap _
  rw [e7]
  exact ⟨b2, k2, rfl, N11, K10, z4, f8⟩
theorem ef_1 (m : MethodId) (x0 : Addr) (x1 : Addr) (x2 : Int32)  : entryFrame m #[(.ref x0), (.ref x1), (.int x2)] 3 = mkF m 0 #[.val (.ref x0), .val (.ref x1), .val (.int x2)] [] := by first | (simp [entryFrame, mkF, argsToLocals, Value.category]; done) | rfl
theorem pn_1 : plainName "java/lang/String" = true := by first | (simp [plainName, overriddenIn]; done) | decide +kernel
theorem d6_0 : decode jdk_42_method_151_code 0 = .ok (.aload_n 0, 1) := by decide +kernel
theorem d6_1 : decode jdk_42_method_151_code 1 = .ok (.invokespecial 1, 3) := by decide +kernel
theorem d6_4 : decode jdk_42_method_151_code 4 = .ok (.aload_n 0, 1) := by decide +kernel
theorem d6_5 : decode jdk_42_method_151_code 5 = .ok (.aload_n 1, 1) := by decide +kernel
theorem d6_6 : decode jdk_42_method_151_code 6 = .ok (.putfield 9, 3) := by decide +kernel
theorem d6_9 : decode jdk_42_method_151_code 9 = .ok (.aload_n 0, 1) := by decide +kernel
theorem d6_10 : decode jdk_42_method_151_code 10 = .ok (.iload_n 2, 1) := by decide +kernel
theorem d6_11 : decode jdk_42_method_151_code 11 = .ok (.putfield 15, 3) := by decide +kernel
theorem d6_14 : decode jdk_42_method_151_code 14 = .ok (.return_, 1) := by decide +kernel
def Q_sbb0 (Z : State) (a : Addr) (b : Addr) (h0 : Heap) (n0 : Nat) (v : Option Value) (h : Heap) (L : List Loc) : Prop := v = none ∧ Fr n0 L ∧ Keep h0 h [a] ∧ (Exa Z h a "java/lang/String") ∧ (Fld Z h a "java/lang/String" "value" "[B" (.ref b)) ∧ (Fld Z h a "java/lang/String" "coder" "B" (.int (0 : Int32)))
set_option maxRecDepth 65536 in
set_option maxHeartbeats 40000000 in
theorem rm_sbb0 (l : Launch) (Z : State) (a0 : Array Value) (hw : ∀ d ∈ tables_1, d.before a0 Z = true) (ws : List Jvm.Cond) (a : Addr) (b : Addr) (h0 : Heap) (n0 : Nat) (O0 : Old Z n0 h0) (u0 : Exa Z h0 a "java/lang/String") (u1 : Fld Z h0 a "java/lang/String" "value" "[B" .null) (u2 : Fld Z h0 a "java/lang/String" "coder" "B" (.int (0 : Int32))) (u3 : n0 ≤ a) :
    MetFree l (⟨"java/lang/String", "<init>", "([BB)V"⟩ : MethodName) (head1 (Jvm.Cond.code (⟨"java/lang/String", "<init>", "([BB)V"⟩ : MethodName) jdk_42_method_151_code 3 none :: ws) ({ frames := 1, cells := 0, slots := 0, locals := 12 } : Room)) (fun aV U => aV = #[(.ref a), (.ref b), (.int (0 : Int32))] ∧ Z.Warmed39 U.vm ∧ U.heap = h0) (fun _ _ _ _ _ => True) (fun _ U o U' => ∃ v L, o = .returned v ∧ Q_sbb0 Z a b h0 n0 v U'.heap L ∧ FrameEnd U o U' L ({ frames := 1, cells := 0, slots := 0, locals := 12 } : Room).cells ({ frames := 1, cells := 0, slots := 0, locals := 12 } : Room).slots) := by
  refine MetFree.of_bodySF (plainFor_of_name pn_1) hisR ?_
  intro pr_ en_ st_ me_ args below meth_ co_ s₁ Bd hml0 hP hK
  obtain ⟨rfl, hZ, hh⟩ := hP
  have hx := Bd.exec
  have hby := Bd.bytes
  have hml : co_.maxLocals = 3 := hml0
  have hown : st_.vm.findClass "java/lang/String" = some me_.cls := findClass_of_methodNamed Bd.named
  have hnm := (name_of_methodNamed Bd.named Bd.method).1
  have X0 : Stand pr_ l en_ ({ frames := 1, cells := 0, slots := 0, locals := 12 } : Room) st_ me_ #[(.ref a), (.ref b), (.int (0 : Int32))] below meth_ co_ s₁ [] 0 0 := Stand.of_body Bd
  have e0 : s₁.heap = h0 := by rw [← hh, Bd.state]; rfl
  have N0 := Fr.nil n0
  have K0 := Keep.refl h0 [a]
  obtain ⟨G, gv, gf, gb⟩ := own_G pr_.tables en_ below st_ (Q_sbb0 Z a b h0 n0) ({ frames := 1, cells := 0, slots := 0, locals := 12 } : Room).cells ({ frames := 1, cells := 0, slots := 0, locals := 12 } : Room).slots
  show own_Fin pr_.tables en_ below st_ (Q_sbb0 Z a b h0 n0) ({ frames := 1, cells := 0, slots := 0, locals := 12 } : Room).cells ({ frames := 1, cells := 0, slots := 0, locals := 12 } : Room).slots (s₁.setTop (entryFrame me_ #[(.ref a), (.ref b), (.int (0 : Int32))] 3))
  refine gb _ (gv (fun tQ kQ => castTop (ef_1 me_ a b (0 : Int32)) kQ) ?_)
  show G (s₁.setTop (mkF me_ 0 #[.val (.ref a), .val (.ref b), .val (.int (0 : Int32))] []))
  refine gv (fun tQ kQ => XS.aloadN X0.here hx rfl (hb hby d6_0) rfl rfl kQ) ?_
  show G (s₁.setTop (mkF me_ 1 #[.val (.ref a), .val (.ref b), .val (.int (0 : Int32))] [(.ref a)]))
  obtain ⟨T12, X12, e12, st12⟩ := initO X0 hx hZ hown (hw _ (List.mem_of_getElem? (i := 28) rfl)) (hw _ (List.mem_of_getElem? (i := 29) rfl)) (hw _ (List.mem_of_getElem? (i := 30) rfl)) e0 (g := (mkF me_ 1 #[.val (.ref a), .val (.ref b), .val (.int (0 : Int32))] [(.ref a)])) rfl (by rw [hml]; rfl) rfl (hb hby d6_1) (by decide) (W := 0) (by show 2 * 0 + _ ≤ _; exact Nat.le_of_eq rfl) (by decide)
  refine gv st12 ?_
  show G (T12.setTop (mkF me_ 4 #[.val (.ref a), .val (.ref b), .val (.int (0 : Int32))] []))
  refine gv (fun tQ kQ => XS.aloadN X12.here hx rfl (hb hby d6_4) rfl rfl kQ) ?_
  show G (T12.setTop (mkF me_ 5 #[.val (.ref a), .val (.ref b), .val (.int (0 : Int32))] [(.ref a)]))
  refine gv (fun tQ kQ => XS.aloadN X12.here hx rfl (hb hby d6_5) rfl rfl kQ) ?_
  show G (T12.setTop (mkF me_ 6 #[.val (.ref a), .val (.ref b), .val (.int (0 : Int32))] [(.ref b), (.ref a)]))
  obtain ⟨T13, h13, X13, e13, W13, st13⟩ := putF X12 hx hZ hown (host := "") (Or.inl (hw _ (List.mem_of_getElem? (i := 31) rfl))) Via.refl e12 u1 u0 (Or.inr ⟨(hw _ (List.mem_of_getElem? (i := 32) rfl)), rfl, hnm⟩) (hw _ (List.mem_of_getElem? (i := 19) rfl)) (ty := (.array .byte)) (by decide) rfl rfl (g := (mkF me_ 6 #[.val (.ref a), .val (.ref b), .val (.int (0 : Int32))] [(.ref b), (.ref a)])) rfl rfl (hb hby d6_6)
  refine gv st13 ?_
  have f15 : Exa Z h13 a "java/lang/String" := u0.wr W13
  have f16 : Fld Z h13 a "java/lang/String" "coder" "B" (.int (0 : Int32)) := u2.other W13 (Or.inr (slot_ne (Or.inr (hw _ (List.mem_of_getElem? (i := 34) rfl))) (Or.inr (hw _ (List.mem_of_getElem? (i := 32) rfl))) (by decide) (t := .byte) (t' := (.array .byte)) (by decide) (by decide)))
  have O17 := O0.wr W13 u3
  have K18 := K0.wr W13 (Or.inl (List.mem_of_getElem? (i := 0) rfl))
  have N19 := Fr.snoc X13 N0 u3
  have f14 : Fld Z h13 a "java/lang/String" "value" "[B" (.ref b) := u1.same W13
  show G (T13.setTop (mkF me_ 9 #[.val (.ref a), .val (.ref b), .val (.int (0 : Int32))] []))
  refine gv (fun tQ kQ => XS.aloadN X13.here hx rfl (hb hby d6_9) rfl rfl kQ) ?_
  show G (T13.setTop (mkF me_ 10 #[.val (.ref a), .val (.ref b), .val (.int (0 : Int32))] [(.ref a)]))
  refine gv (fun tQ kQ => XS.iloadN X13.here hx rfl (hb hby d6_10) rfl kQ) ?_
  show G (T13.setTop (mkF me_ 11 #[.val (.ref a), .val (.ref b), .val (.int (0 : Int32))] [(.int (0 : Int32)), (.ref a)]))
  obtain ⟨T20, h20, X20, e20, W20, st20⟩ := putFN X13 hx hZ hown (hw _ (List.mem_of_getElem? (i := 33) rfl)) Via.refl e13 f16 f15 (Or.inr ⟨(hw _ (List.mem_of_getElem? (i := 34) rfl)), rfl, hnm⟩) (hw _ (List.mem_of_getElem? (i := 19) rfl)) (ty := .byte) (v' := (.int (0 : Int32))) (by decide) rfl rfl (g := (mkF me_ 11 #[.val (.ref a), .val (.ref b), .val (.int (0 : Int32))] [(.int (0 : Int32)), (.ref a)])) rfl rfl (hb hby d6_11)
  refine gv st20 ?_
  have f22 : Exa Z h20 a "java/lang/String" := f15.wr W20
  have f23 : Fld Z h20 a "java/lang/String" "value" "[B" (.ref b) := f14.other W20 (Or.inr (slot_ne (Or.inr (hw _ (List.mem_of_getElem? (i := 32) rfl))) (Or.inr (hw _ (List.mem_of_getElem? (i := 34) rfl))) (by decide) (t := (.array .byte)) (t' := .byte) (by decide) (by decide)))
  have O24 := O17.wr W20 u3
  have K25 := K18.wr W20 (Or.inl (List.mem_of_getElem? (i := 0) rfl))
  have N26 := Fr.snoc X20 N19 u3
  have f21 : Fld Z h20 a "java/lang/String" "coder" "B" (.int (0 : Int32)) := f16.same W20
  show G (T20.setTop (mkF me_ 14 #[.val (.ref a), .val (.ref b), .val (.int (0 : Int32))] []))
  refine gf _ (own_ret X20 Bd.notSynchronized (v := none) (fun _ => rfl) ?_ (by decide) (by decide) (fun fs hr => X20.returnOut hx Bd.returns (hb hby d6_14) hr))
  show Q_sbb0 Z a b h0 n0 _ T20.heap _
  rw [e20]
  exact ⟨rfl, N26, K25, f22, f23, f21⟩
def Q_sbb1 (Z : State) (a : Addr) (b : Addr) (h0 : Heap) (n0 : Nat) (v : Option Value) (h : Heap) (L : List Loc) : Prop := v = none ∧ Fr n0 L ∧ Keep h0 h [a] ∧ (Exa Z h a "java/lang/String") ∧ (Fld Z h a "java/lang/String" "value" "[B" (.ref b)) ∧ (Fld Z h a "java/lang/String" "coder" "B" (.int (1 : Int32)))
set_option maxRecDepth 65536 in
set_option maxHeartbeats 40000000 in
theorem rm_sbb1 (l : Launch) (Z : State) (a0 : Array Value) (hw : ∀ d ∈ tables_1, d.before a0 Z = true) (ws : List Jvm.Cond) (a : Addr) (b : Addr) (h0 : Heap) (n0 : Nat) (O0 : Old Z n0 h0) (u0 : Exa Z h0 a "java/lang/String") (u1 : Fld Z h0 a "java/lang/String" "value" "[B" .null) (u2 : Fld Z h0 a "java/lang/String" "coder" "B" (.int (0 : Int32))) (u3 : n0 ≤ a) :
    MetFree l (⟨"java/lang/String", "<init>", "([BB)V"⟩ : MethodName) (head1 (Jvm.Cond.code (⟨"java/lang/String", "<init>", "([BB)V"⟩ : MethodName) jdk_42_method_151_code 3 none :: ws) ({ frames := 1, cells := 0, slots := 0, locals := 12 } : Room)) (fun aV U => aV = #[(.ref a), (.ref b), (.int (1 : Int32))] ∧ Z.Warmed39 U.vm ∧ U.heap = h0) (fun _ _ _ _ _ => True) (fun _ U o U' => ∃ v L, o = .returned v ∧ Q_sbb1 Z a b h0 n0 v U'.heap L ∧ FrameEnd U o U' L ({ frames := 1, cells := 0, slots := 0, locals := 12 } : Room).cells ({ frames := 1, cells := 0, slots := 0, locals := 12 } : Room).slots) := by
  refine MetFree.of_bodySF (plainFor_of_name pn_1) hisR ?_
  intro pr_ en_ st_ me_ args below meth_ co_ s₁ Bd hml0 hP hK
  obtain ⟨rfl, hZ, hh⟩ := hP
  have hx := Bd.exec
  have hby := Bd.bytes
  have hml : co_.maxLocals = 3 := hml0
  have hown : st_.vm.findClass "java/lang/String" = some me_.cls := findClass_of_methodNamed Bd.named
  have hnm := (name_of_methodNamed Bd.named Bd.method).1
  have X0 : Stand pr_ l en_ ({ frames := 1, cells := 0, slots := 0, locals := 12 } : Room) st_ me_ #[(.ref a), (.ref b), (.int (1 : Int32))] below meth_ co_ s₁ [] 0 0 := Stand.of_body Bd
  have e0 : s₁.heap = h0 := by rw [← hh, Bd.state]; rfl
  have N0 := Fr.nil n0
  have K0 := Keep.refl h0 [a]
  obtain ⟨G, gv, gf, gb⟩ := own_G pr_.tables en_ below st_ (Q_sbb1 Z a b h0 n0) ({ frames := 1, cells := 0, slots := 0, locals := 12 } : Room).cells ({ frames := 1, cells := 0, slots := 0, locals := 12 } : Room).slots
  show own_Fin pr_.tables en_ below st_ (Q_sbb1 Z a b h0 n0) ({ frames := 1, cells := 0, slots := 0, locals := 12 } : Room).cells ({ frames := 1, cells := 0, slots := 0, locals := 12 } : Room).slots (s₁.setTop (entryFrame me_ #[(.ref a), (.ref b), (.int (1 : Int32))] 3))
  refine gb _ (gv (fun tQ kQ => castTop (ef_1 me_ a b (1 : Int32)) kQ) ?_)
  show G (s₁.setTop (mkF me_ 0 #[.val (.ref a), .val (.ref b), .val (.int (1 : Int32))] []))
  refine gv (fun tQ kQ => XS.aloadN X0.here hx rfl (hb hby d6_0) rfl rfl kQ) ?_
  show G (s₁.setTop (mkF me_ 1 #[.val (.ref a), .val (.ref b), .val (.int (1 : Int32))] [(.ref a)]))
  obtain ⟨T27, X27, e27, st27⟩ := initO X0 hx hZ hown (hw _ (List.mem_of_getElem? (i := 28) rfl)) (hw _ (List.mem_of_getElem? (i := 29) rfl)) (hw _ (List.mem_of_getElem? (i := 30) rfl)) e0 (g := (mkF me_ 1 #[.val (.ref a), .val (.ref b), .val (.int (1 : Int32))] [(.ref a)])) rfl (by rw [hml]; rfl) rfl (hb hby d6_1) (by decide) (W := 0) (by show 2 * 0 + _ ≤ _; exact Nat.le_of_eq rfl) (by decide)
  refine gv st27 ?_
  show G (T27.setTop (mkF me_ 4 #[.val (.ref a), .val (.ref b), .val (.int (1 : Int32))] []))
  refine gv (fun tQ kQ => XS.aloadN X27.here hx rfl (hb hby d6_4) rfl rfl kQ) ?_
  show G (T27.setTop (mkF me_ 5 #[.val (.ref a), .val (.ref b), .val (.int (1 : Int32))] [(.ref a)]))
  refine gv (fun tQ kQ => XS.aloadN X27.here hx rfl (hb hby d6_5) rfl rfl kQ) ?_
  show G (T27.setTop (mkF me_ 6 #[.val (.ref a), .val (.ref b), .val (.int (1 : Int32))] [(.ref b), (.ref a)]))
  obtain ⟨T28, h28, X28, e28, W28, st28⟩ := putF X27 hx hZ hown (host := "") (Or.inl (hw _ (List.mem_of_getElem? (i := 31) rfl))) Via.refl e27 u1 u0 (Or.inr ⟨(hw _ (List.mem_of_getElem? (i := 32) rfl)), rfl, hnm⟩) (hw _ (List.mem_of_getElem? (i := 19) rfl)) (ty := (.array .byte)) (by decide) rfl rfl (g := (mkF me_ 6 #[.val (.ref a), .val (.ref b), .val (.int (1 : Int32))] [(.ref b), (.ref a)])) rfl rfl (hb hby d6_6)
  refine gv st28 ?_
  have f30 : Exa Z h28 a "java/lang/String" := u0.wr W28
  have f31 : Fld Z h28 a "java/lang/String" "coder" "B" (.int (0 : Int32)) := u2.other W28 (Or.inr (slot_ne (Or.inr (hw _ (List.mem_of_getElem? (i := 34) rfl))) (Or.inr (hw _ (List.mem_of_getElem? (i := 32) rfl))) (by decide) (t := .byte) (t' := (.array .byte)) (by decide) (by decide)))
  have O32 := O0.wr W28 u3
  have K33 := K0.wr W28 (Or.inl (List.mem_of_getElem? (i := 0) rfl))
  have N34 := Fr.snoc X28 N0 u3
  have f29 : Fld Z h28 a "java/lang/String" "value" "[B" (.ref b) := u1.same W28
  show G (T28.setTop (mkF me_ 9 #[.val (.ref a), .val (.ref b), .val (.int (1 : Int32))] []))
  refine gv (fun tQ kQ => XS.aloadN X28.here hx rfl (hb hby d6_9) rfl rfl kQ) ?_
  show G (T28.setTop (mkF me_ 10 #[.val (.ref a), .val (.ref b), .val (.int (1 : Int32))] [(.ref a)]))
  refine gv (fun tQ kQ => XS.iloadN X28.here hx rfl (hb hby d6_10) rfl kQ) ?_
  show G (T28.setTop (mkF me_ 11 #[.val (.ref a), .val (.ref b), .val (.int (1 : Int32))] [(.int (1 : Int32)), (.ref a)]))
  obtain ⟨T35, h35, X35, e35, W35, st35⟩ := putFN X28 hx hZ hown (hw _ (List.mem_of_getElem? (i := 33) rfl)) Via.refl e28 f31 f30 (Or.inr ⟨(hw _ (List.mem_of_getElem? (i := 34) rfl)), rfl, hnm⟩) (hw _ (List.mem_of_getElem? (i := 19) rfl)) (ty := .byte) (v' := (.int (1 : Int32))) (by decide) rfl rfl (g := (mkF me_ 11 #[.val (.ref a), .val (.ref b), .val (.int (1 : Int32))] [(.int (1 : Int32)), (.ref a)])) rfl rfl (hb hby d6_11)
  refine gv st35 ?_
  have f37 : Exa Z h35 a "java/lang/String" := f30.wr W35
  have f38 : Fld Z h35 a "java/lang/String" "value" "[B" (.ref b) := f29.other W35 (Or.inr (slot_ne (Or.inr (hw _ (List.mem_of_getElem? (i := 32) rfl))) (Or.inr (hw _ (List.mem_of_getElem? (i := 34) rfl))) (by decide) (t := (.array .byte)) (t' := .byte) (by decide) (by decide)))
  have O39 := O32.wr W35 u3
  have K40 := K33.wr W35 (Or.inl (List.mem_of_getElem? (i := 0) rfl))
  have N41 := Fr.snoc X35 N34 u3
  have f36 : Fld Z h35 a "java/lang/String" "coder" "B" (.int (1 : Int32)) := f31.same W35
  show G (T35.setTop (mkF me_ 14 #[.val (.ref a), .val (.ref b), .val (.int (1 : Int32))] []))
  refine gf _ (own_ret X35 Bd.notSynchronized (v := none) (fun _ => rfl) ?_ (by decide) (by decide) (fun fs hr => X35.returnOut hx Bd.returns (hb hby d6_14) hr))
  show Q_sbb1 Z a b h0 n0 _ T35.heap _
  rw [e35]
  exact ⟨rfl, N41, K40, f37, f38, f36⟩
theorem d3_0 : decode jdk_42_method_139_code 0 = .ok (.getstatic 38, 3) := by decide +kernel
theorem d3_3 : decode jdk_42_method_139_code 3 = .ok (.ifCond .eq 23, 3) := by decide +kernel
theorem d3_6 : decode jdk_42_method_139_code 6 = .ok (.iload_n 0, 1) := by decide +kernel
theorem d3_7 : decode jdk_42_method_139_code 7 = .ok (.invokestatic 1015, 3) := by decide +kernel
theorem pd_0 : parseMethodDescriptor "(C)Z" = some ⟨[.char], some .boolean⟩ := by decide +kernel
theorem d3_10 : decode jdk_42_method_139_code 10 = .ok (.ifCond .eq 16, 3) := by decide +kernel
theorem d3_13 : decode jdk_42_method_139_code 13 = .ok (.new 10, 3) := by decide +kernel
theorem d3_16 : decode jdk_42_method_139_code 16 = .ok (.dup, 1) := by decide +kernel
theorem d3_17 : decode jdk_42_method_139_code 17 = .ok (.iload_n 0, 1) := by decide +kernel
theorem d3_18 : decode jdk_42_method_139_code 18 = .ok (.invokestatic 1018, 3) := by decide +kernel
theorem pd_1 : parseMethodDescriptor "(C)[B" = some ⟨[.char], some (.array .byte)⟩ := by decide +kernel
theorem d3_21 : decode jdk_42_method_139_code 21 = .ok (.iconst 0, 1) := by decide +kernel
theorem d3_22 : decode jdk_42_method_139_code 22 = .ok (.invokespecial 209, 3) := by decide +kernel
theorem pd_2 : parseMethodDescriptor "([BB)V" = some ⟨[(.array .byte), .byte], none⟩ := by decide +kernel
theorem d3_25 : decode jdk_42_method_139_code 25 = .ok (.areturn, 1) := by decide +kernel
def Q_voL (Z : State) (c : Int32) (cs : Int32) (h0 : Heap) (n0 : Nat) (v : Option Value) (h : Heap) (L : List Loc) : Prop := ∃ (s : Addr), ∃ (b : Addr), ∃ (k : ClassId), v = some (.ref s) ∧ Fr n0 L ∧ Keep h0 h [] ∧ h0.size ≤ s ∧ h0.size ≤ b ∧ s ≠ b ∧ (Exa Z h s "java/lang/String") ∧ (Fld Z h s "java/lang/String" "coder" "B" (.int (0 : Int32))) ∧ (Fld Z h s "java/lang/String" "value" "[B" (.ref b)) ∧ (Arv Z h b k .byte (1 : Int32) [(.int (c.toInt8.toInt32))] (.int (0 : Int32)))
set_option maxRecDepth 65536 in
set_option maxHeartbeats 40000000 in
theorem rm_voL (l : Launch) (Z : State) (a0 : Array Value) (hw : ∀ d ∈ tables_1, d.before a0 Z = true) (ws : List Jvm.Cond) (c : Int32) (cs : Int32) (h0 : Heap) (n0 : Nat) (O0 : Old Z n0 h0) (u0 : Sta Z Z.heap "java/lang/String" "COMPACT_STRINGS" "Z" (.int cs)) (u1 : ¬ (cs = (0 : Int32))) (u2 : ¬ ((255 : Int32) < c)) :
    MetFree l (⟨"java/lang/String", "valueOf", "(C)Ljava/lang/String;"⟩ : MethodName) (head1 (Jvm.Cond.code (⟨"java/lang/String", "valueOf", "(C)Ljava/lang/String;"⟩ : MethodName) jdk_42_method_139_code 1 (some (.object "java/lang/String")) :: ws) ({ frames := 2, cells := 2, slots := 5, locals := 27 } : Room)) (fun aV U => aV = #[(.int c)] ∧ Z.Warmed39 U.vm ∧ U.heap = h0) (fun _ _ _ _ _ => True) (fun _ U o U' => ∃ v L, o = .returned v ∧ Q_voL Z c cs h0 n0 v U'.heap L ∧ FrameEnd U o U' L ({ frames := 2, cells := 2, slots := 5, locals := 27 } : Room).cells ({ frames := 2, cells := 2, slots := 5, locals := 27 } : Room).slots) := by
  refine MetFree.of_bodySF (plainFor_of_name pn_1) hisR ?_
  intro pr_ en_ st_ me_ args below meth_ co_ s₁ Bd hml0 hP hK
  obtain ⟨rfl, hZ, hh⟩ := hP
  have hx := Bd.exec
  have hby := Bd.bytes
  have hml : co_.maxLocals = 1 := hml0
  have hown : st_.vm.findClass "java/lang/String" = some me_.cls := findClass_of_methodNamed Bd.named
  have hnm := (name_of_methodNamed Bd.named Bd.method).1
  have X0 : Stand pr_ l en_ ({ frames := 2, cells := 2, slots := 5, locals := 27 } : Room) st_ me_ #[(.int c)] below meth_ co_ s₁ [] 0 0 := Stand.of_body Bd
  have e0 : s₁.heap = h0 := by rw [← hh, Bd.state]; rfl
  have N0 := Fr.nil n0
  have K0 := Keep.refl h0 []
  obtain ⟨G, gv, gf, gb⟩ := own_G pr_.tables en_ below st_ (Q_voL Z c cs h0 n0) ({ frames := 2, cells := 2, slots := 5, locals := 27 } : Room).cells ({ frames := 2, cells := 2, slots := 5, locals := 27 } : Room).slots
  show own_Fin pr_.tables en_ below st_ (Q_voL Z c cs h0 n0) ({ frames := 2, cells := 2, slots := 5, locals := 27 } : Room).cells ({ frames := 2, cells := 2, slots := 5, locals := 27 } : Room).slots (s₁.setTop (entryFrame me_ #[(.int c)] 1))
  refine gb _ (gv (fun tQ kQ => castTop (ef_0 me_ c) kQ) ?_)
  show G (s₁.setTop (mkF me_ 0 #[.val (.int c)] []))
  obtain ⟨T42, X42, e42, st42⟩ := getS2 X0 hx hZ hown (host := "") (Or.inl (hw _ (List.mem_of_getElem? (i := 13) rfl))) Via.refl e0 (u0.ext O0.2) (g := (mkF me_ 0 #[.val (.int c)] [])) rfl (hb hby d3_0)
  refine gv st42 ?_
  show G (T42.setTop (mkF me_ 3 #[.val (.int c)] [(.int cs)]))
  refine gv (fun tQ kQ => XS.ifNo X42.here hx rfl (hb hby d3_3) rfl ((if0 _ _).trans (feq u1).1) kQ) ?_
  show G (T42.setTop (mkF me_ 6 #[.val (.int c)] []))
  refine gv (fun tQ kQ => XS.iloadN X42.here hx rfl (hb hby d3_6) rfl kQ) ?_
  show G (T42.setTop (mkF me_ 7 #[.val (.int c)] [(.int c)]))
  obtain ⟨_, _, ⟨T43, L43, k43, n43⟩, -, X43, ⟨Lc43, hQ43, l43, y43, z43⟩, st43⟩ := Jvm.LawKit.callS X42 hx (y := (⟨"java/lang/StringLatin1", "canEncode", "(C)Z"⟩ : MethodName)) hown (mvT hZ (hw _ (List.mem_of_getElem? (i := 14) rfl))) (mvT hZ (hw _ (List.mem_of_getElem? (i := 15) rfl))) (mvT hZ (hw _ (List.mem_of_getElem? (i := 16) rfl))) (mvT hZ (hw _ (List.mem_of_getElem? (i := 17) rfl))) (by decide) (backOf (W := 0) (rm_canC l Z a0 hw [] c h0 n0 O0 ) hZ (hw _ (List.mem_of_getElem? (i := 17) rfl)) (hw _ (List.mem_of_getElem? (i := 16) rfl)) (by decide) (by decide)) (g := (mkF me_ 7 #[.val (.int c)] [(.int c)])) rfl (by rw [hml]; rfl) (argsL := [(.int c)]) (rest := []) (lenOf pd_0 rfl) rfl (by show 2 * 0 + _ ≤ _; exact Nat.le_of_eq rfl) (hb hby d3_7) (fun _ _ => ⟨rfl, e42, (by decide : 0 + 0 ≤ _), (by decide : 0 + 0 ≤ _)⟩)
  dsimp only [Pt.U, Pt.locs, Pt.cells, Pt.slots] at X43 l43 y43 z43 st43 hQ43
  subst l43 y43 z43
  obtain ⟨rfl, Nq43, eq43⟩ := hQ43
  have N44 := Fr.app N0 Nq43
  rw [if_neg u2] at st43
  refine gv st43 ?_
  show G (T43.setTop (mkF me_ 10 #[.val (.int c)] [(.int (1 : Int32))]))
  refine gv (fun tQ kQ => XS.ifNo X43.here hx rfl (hb hby d3_10) rfl ((if0 _ _).trans (feq (by decide : ¬ ((1 : Int32) = (0 : Int32)))).1) kQ) ?_
  show G (T43.setTop (mkF me_ 13 #[.val (.int c)] []))
  obtain ⟨T45, h45, X45, e45, E45, A45, D45, -, st45⟩ := newO X43 hx hZ hown (hw _ (List.mem_of_getElem? (i := 18) rfl)) (hw _ (List.mem_of_getElem? (i := 19) rfl)) (hw _ (List.mem_of_getElem? (i := 11) rfl)) eq43 (g := (mkF me_ 13 #[.val (.int c)] [])) rfl (hb hby d3_13) (by decide) (by decide)
  obtain ⟨b45, g45⟩ : ∃ z, z = h0.size := ⟨_, rfl⟩
  rw [← g45] at A45 D45 st45
  refine gv st45 ?_
  have g46 : n0 ≤ b45 := Nat.le_trans (own_old O0) (Nat.le_of_eq g45.symm)
  have z47 : h0.size ≤ b45 := Nat.le_trans K0.1 (Nat.le_of_eq g45.symm)
  have O48 := O0.ext E45
  have K49 := K0.ext E45
  have f50 : Fld Z h45 b45 "java/lang/String" "value" "[B" .null := D45 (Or.inr (hw _ (List.mem_of_getElem? (i := 32) rfl))) (ty := (.array .byte)) (by decide)
  have f51 : Fld Z h45 b45 "java/lang/String" "coder" "B" (.int (0 : Int32)) := D45 (Or.inr (hw _ (List.mem_of_getElem? (i := 34) rfl))) (ty := .byte) (by decide)
  show G (T45.setTop (mkF me_ 16 #[.val (.int c)] [(.ref b45)]))
  refine gv (fun tQ kQ => XS.dup X45.here hx rfl (hb hby d3_16) rfl rfl kQ) ?_
  show G (T45.setTop (mkF me_ 17 #[.val (.int c)] [(.ref b45), (.ref b45)]))
  refine gv (fun tQ kQ => XS.iloadN X45.here hx rfl (hb hby d3_17) rfl kQ) ?_
  show G (T45.setTop (mkF me_ 18 #[.val (.int c)] [(.int c), (.ref b45), (.ref b45)]))
  obtain ⟨_, _, ⟨T52, L52, k52, n52⟩, -, X52, ⟨Lc52, hQ52, l52, y52, z52⟩, st52⟩ := Jvm.LawKit.callS X45 hx (y := (⟨"java/lang/StringLatin1", "toBytes", "(C)[B"⟩ : MethodName)) hown (mvT hZ (hw _ (List.mem_of_getElem? (i := 20) rfl))) (mvT hZ (hw _ (List.mem_of_getElem? (i := 21) rfl))) (mvT hZ (hw _ (List.mem_of_getElem? (i := 16) rfl))) (mvT hZ (hw _ (List.mem_of_getElem? (i := 22) rfl))) (by decide) (backOf (W := 2) (rm_toB l Z a0 hw [] c h45 n0 O48 ) hZ (hw _ (List.mem_of_getElem? (i := 22) rfl)) (hw _ (List.mem_of_getElem? (i := 16) rfl)) (by decide) (by decide)) (g := (mkF me_ 18 #[.val (.int c)] [(.int c), (.ref b45), (.ref b45)])) rfl (by rw [hml]; rfl) (argsL := [(.int c)]) (rest := [(.ref b45), (.ref b45)]) (lenOf pd_1 rfl) rfl (by show 2 * 0 + _ ≤ _; exact Nat.le_of_eq rfl) (hb hby d3_18) (fun _ _ => ⟨rfl, e45, (by decide : 1 + 1 ≤ _), (by decide : 4 + 1 ≤ _)⟩)
  dsimp only [Pt.U, Pt.locs, Pt.cells, Pt.slots] at X52 l52 y52 z52 st52 hQ52
  subst l52 y52 z52
  obtain ⟨b_52, k_52, rfl, Nq52, Kq52, w52_0, w52_1⟩ := hQ52
  have N53 := Fr.app N44 Nq52
  obtain ⟨h52, e52⟩ : ∃ z, T52.heap = z := ⟨_, rfl⟩
  rw [e52] at Kq52 w52_1
  have ne54 : b45 ≠ b_52 := Nat.ne_of_lt (Nat.lt_of_lt_of_le A45.lt w52_0)
  have g55 : n0 ≤ b_52 := Nat.le_trans (own_old O48) w52_0
  have z56 : h0.size ≤ b_52 := Nat.le_trans K49.1 w52_0
  have f57 : Exa Z h52 b45 "java/lang/String" := A45.keep Kq52
  have f58 : Fld Z h52 b45 "java/lang/String" "value" "[B" .null := f50.keep Kq52 nin0
  have f59 : Fld Z h52 b45 "java/lang/String" "coder" "B" (.int (0 : Int32)) := f51.keep Kq52 nin0
  have O60 := O48.keep Kq52 all0
  have K61 := K49.trans Kq52 all0
  refine gv st52 ?_
  show G (T52.setTop (mkF me_ 21 #[.val (.int c)] [(.ref b_52), (.ref b45), (.ref b45)]))
  refine gv (fun tQ kQ => XS.iconst X52.here hx rfl (hb hby d3_21) kQ) ?_
  show G (T52.setTop (mkF me_ 22 #[.val (.int c)] [(.int (0 : Int32)), (.ref b_52), (.ref b45), (.ref b45)]))
  obtain ⟨_, _, ⟨T62, L62, k62, n62⟩, -, X62, ⟨Lc62, hQ62, l62, y62, z62⟩, st62⟩ := X52.specialBack hx (y := (⟨"java/lang/String", "<init>", "([BB)V"⟩ : MethodName)) rfl hown (mvT hZ (hw _ (List.mem_of_getElem? (i := 24) rfl))) (mvT hZ (hw _ (List.mem_of_getElem? (i := 25) rfl))) (mvT hZ (hw _ (List.mem_of_getElem? (i := 27) rfl))) (by decide) (backOf (W := 1) (rm_sbb0 l Z a0 hw [] b45 b_52 h52 n0 O60 f57 f58 f59 g46) hZ (hw _ (List.mem_of_getElem? (i := 27) rfl)) (hw _ (List.mem_of_getElem? (i := 11) rfl)) (by decide) (by decide)) (g := (mkF me_ 22 #[.val (.int c)] [(.int (0 : Int32)), (.ref b_52), (.ref b45), (.ref b45)])) rfl (by rw [hml]; rfl) (Steps.refl _) (a := b45) (argsL := [(.ref b_52), (.int (0 : Int32))]) (rest := [(.ref b45)]) (lenOf pd_2 rfl) rfl (by show 2 * 0 + _ ≤ _; exact Nat.le_of_eq rfl) (hb hby d3_22) (fun _ _ => ⟨rfl, e52, (by decide : 2 + 0 ≤ _), (by decide : 5 + 0 ≤ _)⟩)
  dsimp only [Pt.U, Pt.locs, Pt.cells, Pt.slots] at X62 l62 y62 z62 st62 hQ62
  subst l62 y62 z62
  obtain ⟨rfl, Nq62, Kq62, w62_0, w62_1, w62_2⟩ := hQ62
  have N63 := Fr.app N53 Nq62
  obtain ⟨h62, e62⟩ : ∃ z, T62.heap = z := ⟨_, rfl⟩
  rw [e62] at Kq62 w62_0 w62_1 w62_2
  have f64 : Exa Z h62 b45 "java/lang/String" := f57.keep Kq62
  have f65 : Arv Z h62 b_52 k_52 .byte (1 : Int32) [(.int (c.toInt8.toInt32))] (.int (0 : Int32)) := w52_1.keep Kq62 (ninS (Ne.symm ne54) nin0)
  have O66 := O60.keep Kq62 (allS g46 all0)
  have K67 := K61.trans Kq62 (allS (Or.inr z47) all0)
  refine gv (fun tQ kQ => st62.trans kQ) ?_
  show G (T62.setTop (mkF me_ 25 #[.val (.int c)] [(.ref b45)]))
  refine gf _ (own_ret X62 Bd.notSynchronized (v := some (.ref b45)) (fun h => by rw [Bd.returns] at h; cases h) ?_ (by decide) (by decide) (fun fs hr => retOut X62 hx (t := (.object "java/lang/String")) Bd.returns rfl (Or.inr (Or.inr (Or.inr (Or.inr ⟨rfl, rfl, rfl⟩)))) (hb hby d3_25) hr))
  show Q_voL Z c cs h0 n0 _ T62.heap _
  rw [e62]
  exact ⟨b45, b_52, k_52, rfl, N63, K67, z47, z56, ne54, w62_0, w62_2, w62_1, f65⟩
theorem ef_2 (m : MethodId) (x0 : Addr) (x1 : Int32) (x2 : Int32)  : entryFrame m #[(.ref x0), (.int x1), (.int x2)] 3 = mkF m 0 #[.val (.ref x0), .val (.int x1), .val (.int x2)] [] := by first | (simp [entryFrame, mkF, argsToLocals, Value.category]; done) | rfl
theorem pn_2 : plainName "java/lang/StringUTF16" = true := by first | (simp [plainName, overriddenIn]; done) | decide +kernel
theorem d20_0 : decode jdk_52_method_4_code 0 = .ok (.getstatic 44, 3) := by decide +kernel
theorem d20_3 : decode jdk_52_method_4_code 3 = .ok (.ifCond .ne 25, 3) := by decide +kernel
theorem d20_28 : decode jdk_52_method_4_code 28 = .ok (.iload_n 1, 1) := by decide +kernel
theorem d20_29 : decode jdk_52_method_4_code 29 = .ok (.iconst 1, 1) := by decide +kernel
theorem d20_30 : decode jdk_52_method_4_code 30 = .ok (.ishl, 1) := by decide +kernel
theorem d20_31 : decode jdk_52_method_4_code 31 = .ok (.istore_n 1, 1) := by decide +kernel
theorem d20_32 : decode jdk_52_method_4_code 32 = .ok (.aload_n 0, 1) := by decide +kernel
theorem d20_33 : decode jdk_52_method_4_code 33 = .ok (.iload_n 1, 1) := by decide +kernel
theorem d20_34 : decode jdk_52_method_4_code 34 = .ok (.iinc 1 1, 3) := by decide +kernel
theorem d20_37 : decode jdk_52_method_4_code 37 = .ok (.iload_n 2, 1) := by decide +kernel
theorem d20_38 : decode jdk_52_method_4_code 38 = .ok (.getstatic 59, 3) := by decide +kernel
theorem d20_41 : decode jdk_52_method_4_code 41 = .ok (.ishr, 1) := by decide +kernel
theorem d20_42 : decode jdk_52_method_4_code 42 = .ok (.i2b, 1) := by decide +kernel
theorem d20_43 : decode jdk_52_method_4_code 43 = .ok (.bastore, 1) := by decide +kernel
theorem d20_44 : decode jdk_52_method_4_code 44 = .ok (.aload_n 0, 1) := by decide +kernel
theorem d20_45 : decode jdk_52_method_4_code 45 = .ok (.iload_n 1, 1) := by decide +kernel
theorem d20_46 : decode jdk_52_method_4_code 46 = .ok (.iload_n 2, 1) := by decide +kernel
theorem d20_47 : decode jdk_52_method_4_code 47 = .ok (.getstatic 63, 3) := by decide +kernel
theorem d20_50 : decode jdk_52_method_4_code 50 = .ok (.ishr, 1) := by decide +kernel
theorem d20_51 : decode jdk_52_method_4_code 51 = .ok (.i2b, 1) := by decide +kernel
theorem d20_52 : decode jdk_52_method_4_code 52 = .ok (.bastore, 1) := by decide +kernel
theorem d20_53 : decode jdk_52_method_4_code 53 = .ok (.return_, 1) := by decide +kernel
def Q_put2_0 (Z : State) (b : Addr) (c : Int32) (k : ClassId) (x0 : Int32) (x1 : Int32) (h0 : Heap) (n0 : Nat) (v : Option Value) (h : Heap) (L : List Loc) : Prop := v = none ∧ Fr n0 L ∧ Keep h0 h [b] ∧ (Arv Z h b k .byte (2 : Int32) [(.int ((c >>> ((0 : Int32) &&& 31)).toInt8.toInt32)), (.int ((c >>> ((8 : Int32) &&& 31)).toInt8.toInt32))] (.int (0 : Int32)))
set_option maxRecDepth 65536 in
set_option maxHeartbeats 40000000 in
theorem rm_put2_0 (l : Launch) (Z : State) (a0 : Array Value) (hw : ∀ d ∈ tables_1, d.before a0 Z = true) (ws : List Jvm.Cond) (b : Addr) (c : Int32) (k : ClassId) (x0 : Int32) (x1 : Int32) (h0 : Heap) (n0 : Nat) (O0 : Old Z n0 h0) (u0 : Sta Z Z.heap "java/lang/StringUTF16" "$assertionsDisabled" "Z" (.int (1 : Int32))) (u1 : Sta Z Z.heap "java/lang/StringUTF16" "HI_BYTE_SHIFT" "I" (.int (0 : Int32))) (u2 : Sta Z Z.heap "java/lang/StringUTF16" "LO_BYTE_SHIFT" "I" (.int (8 : Int32))) (u3 : Arv Z h0 b k .byte (2 : Int32) [(.int x0), (.int x1)] (.int (0 : Int32))) (u4 : n0 ≤ b) :
    MetFree l (⟨"java/lang/StringUTF16", "putChar", "([BII)V"⟩ : MethodName) (head1 (Jvm.Cond.code (⟨"java/lang/StringUTF16", "putChar", "([BII)V"⟩ : MethodName) jdk_52_method_4_code 3 none :: ws) ({ frames := 0, cells := 0, slots := 0, locals := 0 } : Room)) (fun aV U => aV = #[(.ref b), (.int (0 : Int32)), (.int c)] ∧ Z.Warmed39 U.vm ∧ U.heap = h0) (fun _ _ _ _ _ => True) (fun _ U o U' => ∃ v L, o = .returned v ∧ Q_put2_0 Z b c k x0 x1 h0 n0 v U'.heap L ∧ FrameEnd U o U' L ({ frames := 0, cells := 0, slots := 0, locals := 0 } : Room).cells ({ frames := 0, cells := 0, slots := 0, locals := 0 } : Room).slots) := by
  refine MetFree.of_bodySF (plainFor_of_name pn_2) hisR ?_
  intro pr_ en_ st_ me_ args below meth_ co_ s₁ Bd hml0 hP hK
  obtain ⟨rfl, hZ, hh⟩ := hP
  have hx := Bd.exec
  have hby := Bd.bytes
  have hml : co_.maxLocals = 3 := hml0
  have hown : st_.vm.findClass "java/lang/StringUTF16" = some me_.cls := findClass_of_methodNamed Bd.named
  have hnm := (name_of_methodNamed Bd.named Bd.method).1
  have X0 : Stand pr_ l en_ ({ frames := 0, cells := 0, slots := 0, locals := 0 } : Room) st_ me_ #[(.ref b), (.int (0 : Int32)), (.int c)] below meth_ co_ s₁ [] 0 0 := Stand.of_body Bd
  have e0 : s₁.heap = h0 := by rw [← hh, Bd.state]; rfl
  have N0 := Fr.nil n0
  have K0 := Keep.refl h0 [b]
  obtain ⟨G, gv, gf, gb⟩ := own_G pr_.tables en_ below st_ (Q_put2_0 Z b c k x0 x1 h0 n0) ({ frames := 0, cells := 0, slots := 0, locals := 0 } : Room).cells ({ frames := 0, cells := 0, slots := 0, locals := 0 } : Room).slots
  show own_Fin pr_.tables en_ below st_ (Q_put2_0 Z b c k x0 x1 h0 n0) ({ frames := 0, cells := 0, slots := 0, locals := 0 } : Room).cells ({ frames := 0, cells := 0, slots := 0, locals := 0 } : Room).slots (s₁.setTop (entryFrame me_ #[(.ref b), (.int (0 : Int32)), (.int c)] 3))
  refine gb _ (gv (fun tQ kQ => castTop (ef_2 me_ b (0 : Int32) c) kQ) ?_)
  show G (s₁.setTop (mkF me_ 0 #[.val (.ref b), .val (.int (0 : Int32)), .val (.int c)] []))
  obtain ⟨T68, X68, e68, st68⟩ := getS2 X0 hx hZ hown (host := "") (Or.inl (hw _ (List.mem_of_getElem? (i := 86) rfl))) Via.refl e0 (u0.ext O0.2) (g := (mkF me_ 0 #[.val (.ref b), .val (.int (0 : Int32)), .val (.int c)] [])) rfl (hb hby d20_0)
  refine gv st68 ?_
  show G (T68.setTop (mkF me_ 3 #[.val (.ref b), .val (.int (0 : Int32)), .val (.int c)] [(.int (1 : Int32))]))
  refine gv (fun tQ kQ => XS.ifYes X68.here hx rfl (pc0 := 3) (pc' := 28) rfl (hb hby d20_3) rfl ((if0 _ _).trans (feq (by decide : ¬ ((1 : Int32) = (0 : Int32)))).2) (by decide) (by decide) kQ) ?_
  show G (T68.setTop (mkF me_ 28 #[.val (.ref b), .val (.int (0 : Int32)), .val (.int c)] []))
  refine gv (fun tQ kQ => XS.iloadN X68.here hx rfl (hb hby d20_28) rfl kQ) ?_
  show G (T68.setTop (mkF me_ 29 #[.val (.ref b), .val (.int (0 : Int32)), .val (.int c)] [(.int (0 : Int32))]))
  refine gv (fun tQ kQ => XS.iconst X68.here hx rfl (hb hby d20_29) kQ) ?_
  show G (T68.setTop (mkF me_ 30 #[.val (.ref b), .val (.int (0 : Int32)), .val (.int c)] [(.int (1 : Int32)), (.int (0 : Int32))]))
  refine gv (fun tQ kQ => XS.ishl X68.here hx rfl (hb hby d20_30) rfl kQ) ?_
  show G (T68.setTop (mkF me_ 31 #[.val (.ref b), .val (.int (0 : Int32)), .val (.int c)] [(.int ((0 : Int32) <<< ((1 : Int32) &&& 31)))]))
  rw [(by decide : ((0 : Int32) <<< ((1 : Int32) &&& 31)) = (0 : Int32))]
  show G (T68.setTop (mkF me_ 31 #[.val (.ref b), .val (.int (0 : Int32)), .val (.int c)] [(.int (0 : Int32))]))
  refine gv (fun tQ kQ => XS.istoreN X68.here hx rfl (hb hby d20_31) rfl (l' := #[.val (.ref b), .val (.int (0 : Int32)), .val (.int c)]) rfl kQ) ?_
  show G (T68.setTop (mkF me_ 32 #[.val (.ref b), .val (.int (0 : Int32)), .val (.int c)] []))
  refine gv (fun tQ kQ => XS.aloadN X68.here hx rfl (hb hby d20_32) rfl rfl kQ) ?_
  show G (T68.setTop (mkF me_ 33 #[.val (.ref b), .val (.int (0 : Int32)), .val (.int c)] [(.ref b)]))
  refine gv (fun tQ kQ => XS.iloadN X68.here hx rfl (hb hby d20_33) rfl kQ) ?_
  show G (T68.setTop (mkF me_ 34 #[.val (.ref b), .val (.int (0 : Int32)), .val (.int c)] [(.int (0 : Int32)), (.ref b)]))
  refine gv (fun tQ kQ => XS.iinc X68.here hx rfl (hb hby d20_34) rfl (l' := #[.val (.ref b), .val (.int ((0 : Int32) + (1 : Int32))), .val (.int c)]) rfl kQ) ?_
  show G (T68.setTop (mkF me_ 37 #[.val (.ref b), .val (.int ((0 : Int32) + (1 : Int32))), .val (.int c)] [(.int (0 : Int32)), (.ref b)]))
  rw [(by decide : ((0 : Int32) + (1 : Int32)) = (1 : Int32))]
  show G (T68.setTop (mkF me_ 37 #[.val (.ref b), .val (.int (1 : Int32)), .val (.int c)] [(.int (0 : Int32)), (.ref b)]))
  refine gv (fun tQ kQ => XS.iloadN X68.here hx rfl (hb hby d20_37) rfl kQ) ?_
  show G (T68.setTop (mkF me_ 38 #[.val (.ref b), .val (.int (1 : Int32)), .val (.int c)] [(.int c), (.int (0 : Int32)), (.ref b)]))
  obtain ⟨T69, X69, e69, st69⟩ := getS2 X68 hx hZ hown (host := "") (Or.inl (hw _ (List.mem_of_getElem? (i := 87) rfl))) Via.refl e68 (u1.ext O0.2) (g := (mkF me_ 38 #[.val (.ref b), .val (.int (1 : Int32)), .val (.int c)] [(.int c), (.int (0 : Int32)), (.ref b)])) rfl (hb hby d20_38)
  refine gv st69 ?_
  show G (T69.setTop (mkF me_ 41 #[.val (.ref b), .val (.int (1 : Int32)), .val (.int c)] [(.int (0 : Int32)), (.int c), (.int (0 : Int32)), (.ref b)]))
  refine gv (fun tQ kQ => XS.ishr X69.here hx rfl (hb hby d20_41) rfl kQ) ?_
  show G (T69.setTop (mkF me_ 42 #[.val (.ref b), .val (.int (1 : Int32)), .val (.int c)] [(.int (c >>> ((0 : Int32) &&& 31))), (.int (0 : Int32)), (.ref b)]))
  refine gv (fun tQ kQ => XS.i2b X69.here hx rfl (hb hby d20_42) rfl kQ) ?_
  show G (T69.setTop (mkF me_ 43 #[.val (.ref b), .val (.int (1 : Int32)), .val (.int c)] [(.int ((c >>> ((0 : Int32) &&& 31)).toInt8.toInt32)), (.int (0 : Int32)), (.ref b)]))
  obtain ⟨cl70, Ar70, q70, S70, n70, H70, G70⟩ := (id u3)
  have in70 : ¬ ((0 : Int32) < 0 ∨ cl70.slots.size ≤ ((0 : Int32)).toNatClampNeg) := inb_of S70 ⟨by decide, by decide⟩
  obtain ⟨T70, h70, X70, e70, W70, st70⟩ := stB X69 hx hZ e69 Ar70 (j := (0 : Int32)) in70 (g := (mkF me_ 43 #[.val (.ref b), .val (.int (1 : Int32)), .val (.int c)] [(.int ((c >>> ((0 : Int32) &&& 31)).toInt8.toInt32)), (.int (0 : Int32)), (.ref b)])) rfl rfl (hb hby d20_43)
  have W70 : Wr h0 h70 b ((0 : Int32)).toNatClampNeg (.int ((c >>> ((0 : Int32) &&& 31)).toInt8.toInt32)) := by have z := W70; rw [(own_narB _)] at z; exact z
  refine gv st70 ?_
  have O72 := O0.wr W70 u4
  have K73 := K0.wr W70 (Or.inl (List.mem_of_getElem? (i := 0) rfl))
  have N74 := Fr.snoc X70 N0 u4
  have f71 : Arv Z h70 b k .byte (2 : Int32) [(.int ((c >>> ((0 : Int32) &&& 31)).toInt8.toInt32)), (.int x1)] (.int (0 : Int32)) := Arv.set Ar70 q70 S70 n70 H70 G70 (fits_nar_byte _) W70 0 rfl (Nat.le_of_ble_eq_true rfl)
  show G (T70.setTop (mkF me_ 44 #[.val (.ref b), .val (.int (1 : Int32)), .val (.int c)] []))
  refine gv (fun tQ kQ => XS.aloadN X70.here hx rfl (hb hby d20_44) rfl rfl kQ) ?_
  show G (T70.setTop (mkF me_ 45 #[.val (.ref b), .val (.int (1 : Int32)), .val (.int c)] [(.ref b)]))
  refine gv (fun tQ kQ => XS.iloadN X70.here hx rfl (hb hby d20_45) rfl kQ) ?_
  show G (T70.setTop (mkF me_ 46 #[.val (.ref b), .val (.int (1 : Int32)), .val (.int c)] [(.int (1 : Int32)), (.ref b)]))
  refine gv (fun tQ kQ => XS.iloadN X70.here hx rfl (hb hby d20_46) rfl kQ) ?_
  show G (T70.setTop (mkF me_ 47 #[.val (.ref b), .val (.int (1 : Int32)), .val (.int c)] [(.int c), (.int (1 : Int32)), (.ref b)]))
  obtain ⟨T75, X75, e75, st75⟩ := getS2 X70 hx hZ hown (host := "") (Or.inl (hw _ (List.mem_of_getElem? (i := 88) rfl))) Via.refl e70 (u2.ext O72.2) (g := (mkF me_ 47 #[.val (.ref b), .val (.int (1 : Int32)), .val (.int c)] [(.int c), (.int (1 : Int32)), (.ref b)])) rfl (hb hby d20_47)
  refine gv st75 ?_
  show G (T75.setTop (mkF me_ 50 #[.val (.ref b), .val (.int (1 : Int32)), .val (.int c)] [(.int (8 : Int32)), (.int c), (.int (1 : Int32)), (.ref b)]))
  refine gv (fun tQ kQ => XS.ishr X75.here hx rfl (hb hby d20_50) rfl kQ) ?_
  show G (T75.setTop (mkF me_ 51 #[.val (.ref b), .val (.int (1 : Int32)), .val (.int c)] [(.int (c >>> ((8 : Int32) &&& 31))), (.int (1 : Int32)), (.ref b)]))
  refine gv (fun tQ kQ => XS.i2b X75.here hx rfl (hb hby d20_51) rfl kQ) ?_
  show G (T75.setTop (mkF me_ 52 #[.val (.ref b), .val (.int (1 : Int32)), .val (.int c)] [(.int ((c >>> ((8 : Int32) &&& 31)).toInt8.toInt32)), (.int (1 : Int32)), (.ref b)]))
  obtain ⟨cl76, Ar76, q76, S76, n76, H76, G76⟩ := (id f71)
  have in76 : ¬ ((1 : Int32) < 0 ∨ cl76.slots.size ≤ ((1 : Int32)).toNatClampNeg) := inb_of S76 ⟨by decide, by decide⟩
  obtain ⟨T76, h76, X76, e76, W76, st76⟩ := stB X75 hx hZ e75 Ar76 (j := (1 : Int32)) in76 (g := (mkF me_ 52 #[.val (.ref b), .val (.int (1 : Int32)), .val (.int c)] [(.int ((c >>> ((8 : Int32) &&& 31)).toInt8.toInt32)), (.int (1 : Int32)), (.ref b)])) rfl rfl (hb hby d20_52)
  have W76 : Wr h70 h76 b ((1 : Int32)).toNatClampNeg (.int ((c >>> ((8 : Int32) &&& 31)).toInt8.toInt32)) := by have z := W76; rw [(own_narB _)] at z; exact z
  refine gv st76 ?_
  have O78 := O72.wr W76 u4
  have K79 := K73.wr W76 (Or.inl (List.mem_of_getElem? (i := 0) rfl))
  have N80 := Fr.snoc X76 N74 u4
  have f77 : Arv Z h76 b k .byte (2 : Int32) [(.int ((c >>> ((0 : Int32) &&& 31)).toInt8.toInt32)), (.int ((c >>> ((8 : Int32) &&& 31)).toInt8.toInt32))] (.int (0 : Int32)) := Arv.set Ar76 q76 S76 n76 H76 G76 (fits_nar_byte _) W76 1 rfl (Nat.le_of_ble_eq_true rfl)
  show G (T76.setTop (mkF me_ 53 #[.val (.ref b), .val (.int (1 : Int32)), .val (.int c)] []))
  refine gf _ (own_ret X76 Bd.notSynchronized (v := none) (fun _ => rfl) ?_ (by decide) (by decide) (fun fs hr => X76.returnOut hx Bd.returns (hb hby d20_53) hr))
  show Q_put2_0 Z b c k x0 x1 h0 n0 _ T76.heap _
  rw [e76]
  exact ⟨rfl, N80, K79, f77⟩
theorem ef_3 (m : MethodId) (x0 : Int32)  : entryFrame m #[(.int x0)] 2 = mkF m 0 #[.val (.int x0), .unset] [] := by first | (simp [entryFrame, mkF, argsToLocals, Value.category]; done) | rfl
theorem d19_0 : decode jdk_52_method_24_code 0 = .ok (.iconst 2, 1) := by decide +kernel
theorem d19_1 : decode jdk_52_method_24_code 1 = .ok (.newarray .byte, 2) := by decide +kernel
theorem d19_3 : decode jdk_52_method_24_code 3 = .ok (.astore_n 1, 1) := by decide +kernel
theorem d19_4 : decode jdk_52_method_24_code 4 = .ok (.aload_n 1, 1) := by decide +kernel
theorem d19_5 : decode jdk_52_method_24_code 5 = .ok (.iconst 0, 1) := by decide +kernel
theorem d19_6 : decode jdk_52_method_24_code 6 = .ok (.iload_n 0, 1) := by decide +kernel
theorem d19_7 : decode jdk_52_method_24_code 7 = .ok (.invokestatic 111, 3) := by decide +kernel
theorem pd_3 : parseMethodDescriptor "([BII)V" = some ⟨[(.array .byte), .int, .int], none⟩ := by decide +kernel
theorem d19_10 : decode jdk_52_method_24_code 10 = .ok (.aload_n 1, 1) := by decide +kernel
theorem d19_11 : decode jdk_52_method_24_code 11 = .ok (.areturn, 1) := by decide +kernel
def Q_toBU (Z : State) (c : Int32) (h0 : Heap) (n0 : Nat) (v : Option Value) (h : Heap) (L : List Loc) : Prop := ∃ (b : Addr), ∃ (k : ClassId), v = some (.ref b) ∧ Fr n0 L ∧ Keep h0 h [] ∧ h0.size ≤ b ∧ (Arv Z h b k .byte (2 : Int32) [(.int ((c >>> ((0 : Int32) &&& 31)).toInt8.toInt32)), (.int ((c >>> ((8 : Int32) &&& 31)).toInt8.toInt32))] (.int (0 : Int32)))
set_option maxRecDepth 65536 in
set_option maxHeartbeats 40000000 in
theorem rm_toBU (l : Launch) (Z : State) (a0 : Array Value) (hw : ∀ d ∈ tables_1, d.before a0 Z = true) (ws : List Jvm.Cond) (c : Int32) (h0 : Heap) (n0 : Nat) (O0 : Old Z n0 h0) (u0 : Sta Z Z.heap "java/lang/StringUTF16" "$assertionsDisabled" "Z" (.int (1 : Int32))) (u1 : Sta Z Z.heap "java/lang/StringUTF16" "HI_BYTE_SHIFT" "I" (.int (0 : Int32))) (u2 : Sta Z Z.heap "java/lang/StringUTF16" "LO_BYTE_SHIFT" "I" (.int (8 : Int32))) :
    MetFree l (⟨"java/lang/StringUTF16", "toBytes", "(C)[B"⟩ : MethodName) (head1 (Jvm.Cond.code (⟨"java/lang/StringUTF16", "toBytes", "(C)[B"⟩ : MethodName) jdk_52_method_24_code 2 (some (.array .byte)) :: ws) ({ frames := 1, cells := 1, slots := 2, locals := 14 } : Room)) (fun aV U => aV = #[(.int c)] ∧ Z.Warmed39 U.vm ∧ U.heap = h0) (fun _ _ _ _ _ => True) (fun _ U o U' => ∃ v L, o = .returned v ∧ Q_toBU Z c h0 n0 v U'.heap L ∧ FrameEnd U o U' L ({ frames := 1, cells := 1, slots := 2, locals := 14 } : Room).cells ({ frames := 1, cells := 1, slots := 2, locals := 14 } : Room).slots) := by
  refine MetFree.of_bodySF (plainFor_of_name pn_2) hisR ?_
  intro pr_ en_ st_ me_ args below meth_ co_ s₁ Bd hml0 hP hK
  obtain ⟨rfl, hZ, hh⟩ := hP
  have hx := Bd.exec
  have hby := Bd.bytes
  have hml : co_.maxLocals = 2 := hml0
  have hown : st_.vm.findClass "java/lang/StringUTF16" = some me_.cls := findClass_of_methodNamed Bd.named
  have hnm := (name_of_methodNamed Bd.named Bd.method).1
  have X0 : Stand pr_ l en_ ({ frames := 1, cells := 1, slots := 2, locals := 14 } : Room) st_ me_ #[(.int c)] below meth_ co_ s₁ [] 0 0 := Stand.of_body Bd
  have e0 : s₁.heap = h0 := by rw [← hh, Bd.state]; rfl
  have N0 := Fr.nil n0
  have K0 := Keep.refl h0 []
  obtain ⟨G, gv, gf, gb⟩ := own_G pr_.tables en_ below st_ (Q_toBU Z c h0 n0) ({ frames := 1, cells := 1, slots := 2, locals := 14 } : Room).cells ({ frames := 1, cells := 1, slots := 2, locals := 14 } : Room).slots
  show own_Fin pr_.tables en_ below st_ (Q_toBU Z c h0 n0) ({ frames := 1, cells := 1, slots := 2, locals := 14 } : Room).cells ({ frames := 1, cells := 1, slots := 2, locals := 14 } : Room).slots (s₁.setTop (entryFrame me_ #[(.int c)] 2))
  refine gb _ (gv (fun tQ kQ => castTop (ef_3 me_ c) kQ) ?_)
  show G (s₁.setTop (mkF me_ 0 #[.val (.int c), .unset] []))
  refine gv (fun tQ kQ => XS.iconst X0.here hx rfl (hb hby d19_0) kQ) ?_
  show G (s₁.setTop (mkF me_ 1 #[.val (.int c), .unset] [(.int (2 : Int32))]))
  obtain ⟨T81, h81, k81, X81, e81, E81, A81, st81⟩ := newP X0 hx hZ (hw _ (List.mem_of_getElem? (i := 23) rfl)) e0 (g := (mkF me_ 1 #[.val (.int c), .unset] [(.int (2 : Int32))])) rfl (hb hby d19_1) rfl (by decide) (cap := 2) (by decide) (by decide) (by decide) (by decide)
  obtain ⟨b81, g81⟩ : ∃ z, z = h0.size := ⟨_, rfl⟩
  rw [← g81] at A81 st81
  refine gv st81 ?_
  have g82 : n0 ≤ b81 := Nat.le_trans (own_old O0) (Nat.le_of_eq g81.symm)
  have z83 : h0.size ≤ b81 := Nat.le_trans K0.1 (Nat.le_of_eq g81.symm)
  have O84 := O0.ext E81
  have K85 := K0.ext E81
  have V81 : Arv Z h81 b81 k81 .byte (2 : Int32) [(.int (0 : Int32)), (.int (0 : Int32))] (.int (0 : Int32)) := (Arv.new A81 (by decide)).pad (pad_rep [] (.int (0 : Int32)) 2)
  show G (T81.setTop (mkF me_ 3 #[.val (.int c), .unset] [(.ref b81)]))
  refine gv (fun tQ kQ => XS.astoreN X81.here hx rfl (hb hby d19_3) rfl rfl (l' := #[.val (.int c), .val (.ref b81)]) rfl kQ) ?_
  show G (T81.setTop (mkF me_ 4 #[.val (.int c), .val (.ref b81)] []))
  refine gv (fun tQ kQ => XS.aloadN X81.here hx rfl (hb hby d19_4) rfl rfl kQ) ?_
  show G (T81.setTop (mkF me_ 5 #[.val (.int c), .val (.ref b81)] [(.ref b81)]))
  refine gv (fun tQ kQ => XS.iconst X81.here hx rfl (hb hby d19_5) kQ) ?_
  show G (T81.setTop (mkF me_ 6 #[.val (.int c), .val (.ref b81)] [(.int (0 : Int32)), (.ref b81)]))
  refine gv (fun tQ kQ => XS.iloadN X81.here hx rfl (hb hby d19_6) rfl kQ) ?_
  show G (T81.setTop (mkF me_ 7 #[.val (.int c), .val (.ref b81)] [(.int c), (.int (0 : Int32)), (.ref b81)]))
  obtain ⟨_, _, ⟨T86, L86, k86, n86⟩, -, X86, ⟨Lc86, hQ86, l86, y86, z86⟩, st86⟩ := Jvm.LawKit.callS X81 hx (y := (⟨"java/lang/StringUTF16", "putChar", "([BII)V"⟩ : MethodName)) hown (mvT hZ (hw _ (List.mem_of_getElem? (i := 83) rfl))) (mvT hZ (hw _ (List.mem_of_getElem? (i := 84) rfl))) (mvT hZ (hw _ (List.mem_of_getElem? (i := 81) rfl))) (mvT hZ (hw _ (List.mem_of_getElem? (i := 85) rfl))) (by decide) (backOf (W := 0) (rm_put2_0 l Z a0 hw [] b81 c k81 (0 : Int32) (0 : Int32) h81 n0 O84 u0 u1 u2 V81 g82) hZ (hw _ (List.mem_of_getElem? (i := 85) rfl)) (hw _ (List.mem_of_getElem? (i := 81) rfl)) (by decide) (by decide)) (g := (mkF me_ 7 #[.val (.int c), .val (.ref b81)] [(.int c), (.int (0 : Int32)), (.ref b81)])) rfl (by rw [hml]; rfl) (argsL := [(.ref b81), (.int (0 : Int32)), (.int c)]) (rest := []) (lenOf pd_3 rfl) rfl (by show 2 * 0 + _ ≤ _; exact Nat.le_of_eq rfl) (hb hby d19_7) (fun _ _ => ⟨rfl, e81, (by decide : 1 + 0 ≤ _), (by decide : 2 + 0 ≤ _)⟩)
  dsimp only [Pt.U, Pt.locs, Pt.cells, Pt.slots] at X86 l86 y86 z86 st86 hQ86
  subst l86 y86 z86
  obtain ⟨rfl, Nq86, Kq86, w86_0⟩ := hQ86
  have N87 := Fr.app N0 Nq86
  obtain ⟨h86, e86⟩ : ∃ z, T86.heap = z := ⟨_, rfl⟩
  rw [e86] at Kq86 w86_0
  have O88 := O84.keep Kq86 (allS g82 all0)
  have K89 := K85.trans Kq86 (allS (Or.inr z83) all0)
  refine gv st86 ?_
  show G (T86.setTop (mkF me_ 10 #[.val (.int c), .val (.ref b81)] []))
  refine gv (fun tQ kQ => XS.aloadN X86.here hx rfl (hb hby d19_10) rfl rfl kQ) ?_
  show G (T86.setTop (mkF me_ 11 #[.val (.int c), .val (.ref b81)] [(.ref b81)]))
  refine gf _ (own_ret X86 Bd.notSynchronized (v := some (.ref b81)) (fun h => by rw [Bd.returns] at h; cases h) ?_ (by decide) (by decide) (fun fs hr => retOut X86 hx (t := (.array .byte)) Bd.returns rfl (Or.inr (Or.inr (Or.inr (Or.inr ⟨rfl, rfl, rfl⟩)))) (hb hby d19_11) hr))
  show Q_toBU Z c h0 n0 _ T86.heap _
  rw [e86]
  exact ⟨b81, k81, rfl, N87, K89, z83, w86_0⟩
theorem d3_26 : decode jdk_42_method_139_code 26 = .ok (.new 10, 3) := by decide +kernel
theorem d3_29 : decode jdk_42_method_139_code 29 = .ok (.dup, 1) := by decide +kernel
theorem d3_30 : decode jdk_42_method_139_code 30 = .ok (.iload_n 0, 1) := by decide +kernel
theorem d3_31 : decode jdk_42_method_139_code 31 = .ok (.invokestatic 1021, 3) := by decide +kernel
theorem d3_34 : decode jdk_42_method_139_code 34 = .ok (.iconst 1, 1) := by decide +kernel
theorem d3_35 : decode jdk_42_method_139_code 35 = .ok (.invokespecial 209, 3) := by decide +kernel
theorem d3_38 : decode jdk_42_method_139_code 38 = .ok (.areturn, 1) := by decide +kernel
def Q_voU (Z : State) (c : Int32) (cs : Int32) (h0 : Heap) (n0 : Nat) (v : Option Value) (h : Heap) (L : List Loc) : Prop := ∃ (s : Addr), ∃ (b : Addr), ∃ (k : ClassId), v = some (.ref s) ∧ Fr n0 L ∧ Keep h0 h [] ∧ h0.size ≤ s ∧ h0.size ≤ b ∧ s ≠ b ∧ (Exa Z h s "java/lang/String") ∧ (Fld Z h s "java/lang/String" "coder" "B" (.int (1 : Int32))) ∧ (Fld Z h s "java/lang/String" "value" "[B" (.ref b)) ∧ (Arv Z h b k .byte (2 : Int32) [(.int ((c >>> ((0 : Int32) &&& 31)).toInt8.toInt32)), (.int ((c >>> ((8 : Int32) &&& 31)).toInt8.toInt32))] (.int (0 : Int32)))
set_option maxRecDepth 65536 in
set_option maxHeartbeats 40000000 in
theorem rm_voU (l : Launch) (Z : State) (a0 : Array Value) (hw : ∀ d ∈ tables_1, d.before a0 Z = true) (ws : List Jvm.Cond) (c : Int32) (cs : Int32) (h0 : Heap) (n0 : Nat) (O0 : Old Z n0 h0) (u0 : Sta Z Z.heap "java/lang/String" "COMPACT_STRINGS" "Z" (.int cs)) (u1 : ¬ (cs = (0 : Int32))) (u2 : Sta Z Z.heap "java/lang/StringUTF16" "$assertionsDisabled" "Z" (.int (1 : Int32))) (u3 : Sta Z Z.heap "java/lang/StringUTF16" "HI_BYTE_SHIFT" "I" (.int (0 : Int32))) (u4 : Sta Z Z.heap "java/lang/StringUTF16" "LO_BYTE_SHIFT" "I" (.int (8 : Int32))) (u5 : (255 : Int32) < c) :
    MetFree l (⟨"java/lang/String", "valueOf", "(C)Ljava/lang/String;"⟩ : MethodName) (head1 (Jvm.Cond.code (⟨"java/lang/String", "valueOf", "(C)Ljava/lang/String;"⟩ : MethodName) jdk_42_method_139_code 1 (some (.object "java/lang/String")) :: ws) ({ frames := 2, cells := 2, slots := 6, locals := 29 } : Room)) (fun aV U => aV = #[(.int c)] ∧ Z.Warmed39 U.vm ∧ U.heap = h0) (fun _ _ _ _ _ => True) (fun _ U o U' => ∃ v L, o = .returned v ∧ Q_voU Z c cs h0 n0 v U'.heap L ∧ FrameEnd U o U' L ({ frames := 2, cells := 2, slots := 6, locals := 29 } : Room).cells ({ frames := 2, cells := 2, slots := 6, locals := 29 } : Room).slots) := by
  refine MetFree.of_bodySF (plainFor_of_name pn_1) hisR ?_
  intro pr_ en_ st_ me_ args below meth_ co_ s₁ Bd hml0 hP hK
  obtain ⟨rfl, hZ, hh⟩ := hP
  have hx := Bd.exec
  have hby := Bd.bytes
  have hml : co_.maxLocals = 1 := hml0
  have hown : st_.vm.findClass "java/lang/String" = some me_.cls := findClass_of_methodNamed Bd.named
  have hnm := (name_of_methodNamed Bd.named Bd.method).1
  have X0 : Stand pr_ l en_ ({ frames := 2, cells := 2, slots := 6, locals := 29 } : Room) st_ me_ #[(.int c)] below meth_ co_ s₁ [] 0 0 := Stand.of_body Bd
  have e0 : s₁.heap = h0 := by rw [← hh, Bd.state]; rfl
  have N0 := Fr.nil n0
  have K0 := Keep.refl h0 []
  obtain ⟨G, gv, gf, gb⟩ := own_G pr_.tables en_ below st_ (Q_voU Z c cs h0 n0) ({ frames := 2, cells := 2, slots := 6, locals := 29 } : Room).cells ({ frames := 2, cells := 2, slots := 6, locals := 29 } : Room).slots
  show own_Fin pr_.tables en_ below st_ (Q_voU Z c cs h0 n0) ({ frames := 2, cells := 2, slots := 6, locals := 29 } : Room).cells ({ frames := 2, cells := 2, slots := 6, locals := 29 } : Room).slots (s₁.setTop (entryFrame me_ #[(.int c)] 1))
  refine gb _ (gv (fun tQ kQ => castTop (ef_0 me_ c) kQ) ?_)
  show G (s₁.setTop (mkF me_ 0 #[.val (.int c)] []))
  obtain ⟨T90, X90, e90, st90⟩ := getS2 X0 hx hZ hown (host := "") (Or.inl (hw _ (List.mem_of_getElem? (i := 13) rfl))) Via.refl e0 (u0.ext O0.2) (g := (mkF me_ 0 #[.val (.int c)] [])) rfl (hb hby d3_0)
  refine gv st90 ?_
  show G (T90.setTop (mkF me_ 3 #[.val (.int c)] [(.int cs)]))
  refine gv (fun tQ kQ => XS.ifNo X90.here hx rfl (hb hby d3_3) rfl ((if0 _ _).trans (feq u1).1) kQ) ?_
  show G (T90.setTop (mkF me_ 6 #[.val (.int c)] []))
  refine gv (fun tQ kQ => XS.iloadN X90.here hx rfl (hb hby d3_6) rfl kQ) ?_
  show G (T90.setTop (mkF me_ 7 #[.val (.int c)] [(.int c)]))
  obtain ⟨_, _, ⟨T91, L91, k91, n91⟩, -, X91, ⟨Lc91, hQ91, l91, y91, z91⟩, st91⟩ := Jvm.LawKit.callS X90 hx (y := (⟨"java/lang/StringLatin1", "canEncode", "(C)Z"⟩ : MethodName)) hown (mvT hZ (hw _ (List.mem_of_getElem? (i := 14) rfl))) (mvT hZ (hw _ (List.mem_of_getElem? (i := 15) rfl))) (mvT hZ (hw _ (List.mem_of_getElem? (i := 16) rfl))) (mvT hZ (hw _ (List.mem_of_getElem? (i := 17) rfl))) (by decide) (backOf (W := 0) (rm_canC l Z a0 hw [] c h0 n0 O0 ) hZ (hw _ (List.mem_of_getElem? (i := 17) rfl)) (hw _ (List.mem_of_getElem? (i := 16) rfl)) (by decide) (by decide)) (g := (mkF me_ 7 #[.val (.int c)] [(.int c)])) rfl (by rw [hml]; rfl) (argsL := [(.int c)]) (rest := []) (lenOf pd_0 rfl) rfl (by show 2 * 0 + _ ≤ _; exact Nat.le_of_eq rfl) (hb hby d3_7) (fun _ _ => ⟨rfl, e90, (by decide : 0 + 0 ≤ _), (by decide : 0 + 0 ≤ _)⟩)
  dsimp only [Pt.U, Pt.locs, Pt.cells, Pt.slots] at X91 l91 y91 z91 st91 hQ91
  subst l91 y91 z91
  obtain ⟨rfl, Nq91, eq91⟩ := hQ91
  have N92 := Fr.app N0 Nq91
  rw [if_pos u5] at st91
  refine gv st91 ?_
  show G (T91.setTop (mkF me_ 10 #[.val (.int c)] [(.int (0 : Int32))]))
  refine gv (fun tQ kQ => XS.ifYes X91.here hx rfl (pc0 := 10) (pc' := 26) rfl (hb hby d3_10) rfl ((if0 _ _).trans (teq (by decide : (0 : Int32) = (0 : Int32))).1) (by decide) (by decide) kQ) ?_
  show G (T91.setTop (mkF me_ 26 #[.val (.int c)] []))
  obtain ⟨T93, h93, X93, e93, E93, A93, D93, -, st93⟩ := newO X91 hx hZ hown (hw _ (List.mem_of_getElem? (i := 18) rfl)) (hw _ (List.mem_of_getElem? (i := 19) rfl)) (hw _ (List.mem_of_getElem? (i := 11) rfl)) eq91 (g := (mkF me_ 26 #[.val (.int c)] [])) rfl (hb hby d3_26) (by decide) (by decide)
  obtain ⟨b93, g93⟩ : ∃ z, z = h0.size := ⟨_, rfl⟩
  rw [← g93] at A93 D93 st93
  refine gv st93 ?_
  have g94 : n0 ≤ b93 := Nat.le_trans (own_old O0) (Nat.le_of_eq g93.symm)
  have z95 : h0.size ≤ b93 := Nat.le_trans K0.1 (Nat.le_of_eq g93.symm)
  have O96 := O0.ext E93
  have K97 := K0.ext E93
  have f98 : Fld Z h93 b93 "java/lang/String" "value" "[B" .null := D93 (Or.inr (hw _ (List.mem_of_getElem? (i := 32) rfl))) (ty := (.array .byte)) (by decide)
  have f99 : Fld Z h93 b93 "java/lang/String" "coder" "B" (.int (0 : Int32)) := D93 (Or.inr (hw _ (List.mem_of_getElem? (i := 34) rfl))) (ty := .byte) (by decide)
  show G (T93.setTop (mkF me_ 29 #[.val (.int c)] [(.ref b93)]))
  refine gv (fun tQ kQ => XS.dup X93.here hx rfl (hb hby d3_29) rfl rfl kQ) ?_
  show G (T93.setTop (mkF me_ 30 #[.val (.int c)] [(.ref b93), (.ref b93)]))
  refine gv (fun tQ kQ => XS.iloadN X93.here hx rfl (hb hby d3_30) rfl kQ) ?_
  show G (T93.setTop (mkF me_ 31 #[.val (.int c)] [(.int c), (.ref b93), (.ref b93)]))
  obtain ⟨_, _, ⟨T100, L100, k100, n100⟩, -, X100, ⟨Lc100, hQ100, l100, y100, z100⟩, st100⟩ := Jvm.LawKit.callS X93 hx (y := (⟨"java/lang/StringUTF16", "toBytes", "(C)[B"⟩ : MethodName)) hown (mvT hZ (hw _ (List.mem_of_getElem? (i := 79) rfl))) (mvT hZ (hw _ (List.mem_of_getElem? (i := 80) rfl))) (mvT hZ (hw _ (List.mem_of_getElem? (i := 81) rfl))) (mvT hZ (hw _ (List.mem_of_getElem? (i := 82) rfl))) (by decide) (backOf (W := 2) (rm_toBU l Z a0 hw [] c h93 n0 O96 u2 u3 u4) hZ (hw _ (List.mem_of_getElem? (i := 82) rfl)) (hw _ (List.mem_of_getElem? (i := 81) rfl)) (by decide) (by decide)) (g := (mkF me_ 31 #[.val (.int c)] [(.int c), (.ref b93), (.ref b93)])) rfl (by rw [hml]; rfl) (argsL := [(.int c)]) (rest := [(.ref b93), (.ref b93)]) (lenOf pd_1 rfl) rfl (by show 2 * 0 + _ ≤ _; exact Nat.le_of_eq rfl) (hb hby d3_31) (fun _ _ => ⟨rfl, e93, (by decide : 1 + 1 ≤ _), (by decide : 4 + 2 ≤ _)⟩)
  dsimp only [Pt.U, Pt.locs, Pt.cells, Pt.slots] at X100 l100 y100 z100 st100 hQ100
  subst l100 y100 z100
  obtain ⟨b_100, k_100, rfl, Nq100, Kq100, w100_0, w100_1⟩ := hQ100
  have N101 := Fr.app N92 Nq100
  obtain ⟨h100, e100⟩ : ∃ z, T100.heap = z := ⟨_, rfl⟩
  rw [e100] at Kq100 w100_1
  have ne102 : b93 ≠ b_100 := Nat.ne_of_lt (Nat.lt_of_lt_of_le A93.lt w100_0)
  have g103 : n0 ≤ b_100 := Nat.le_trans (own_old O96) w100_0
  have z104 : h0.size ≤ b_100 := Nat.le_trans K97.1 w100_0
  have f105 : Exa Z h100 b93 "java/lang/String" := A93.keep Kq100
  have f106 : Fld Z h100 b93 "java/lang/String" "value" "[B" .null := f98.keep Kq100 nin0
  have f107 : Fld Z h100 b93 "java/lang/String" "coder" "B" (.int (0 : Int32)) := f99.keep Kq100 nin0
  have O108 := O96.keep Kq100 all0
  have K109 := K97.trans Kq100 all0
  refine gv st100 ?_
  show G (T100.setTop (mkF me_ 34 #[.val (.int c)] [(.ref b_100), (.ref b93), (.ref b93)]))
  refine gv (fun tQ kQ => XS.iconst X100.here hx rfl (hb hby d3_34) kQ) ?_
  show G (T100.setTop (mkF me_ 35 #[.val (.int c)] [(.int (1 : Int32)), (.ref b_100), (.ref b93), (.ref b93)]))
  obtain ⟨_, _, ⟨T110, L110, k110, n110⟩, -, X110, ⟨Lc110, hQ110, l110, y110, z110⟩, st110⟩ := X100.specialBack hx (y := (⟨"java/lang/String", "<init>", "([BB)V"⟩ : MethodName)) rfl hown (mvT hZ (hw _ (List.mem_of_getElem? (i := 24) rfl))) (mvT hZ (hw _ (List.mem_of_getElem? (i := 25) rfl))) (mvT hZ (hw _ (List.mem_of_getElem? (i := 27) rfl))) (by decide) (backOf (W := 1) (rm_sbb1 l Z a0 hw [] b93 b_100 h100 n0 O108 f105 f106 f107 g94) hZ (hw _ (List.mem_of_getElem? (i := 27) rfl)) (hw _ (List.mem_of_getElem? (i := 11) rfl)) (by decide) (by decide)) (g := (mkF me_ 35 #[.val (.int c)] [(.int (1 : Int32)), (.ref b_100), (.ref b93), (.ref b93)])) rfl (by rw [hml]; rfl) (Steps.refl _) (a := b93) (argsL := [(.ref b_100), (.int (1 : Int32))]) (rest := [(.ref b93)]) (lenOf pd_2 rfl) rfl (by show 2 * 0 + _ ≤ _; exact Nat.le_of_eq rfl) (hb hby d3_35) (fun _ _ => ⟨rfl, e100, (by decide : 2 + 0 ≤ _), (by decide : 6 + 0 ≤ _)⟩)
  dsimp only [Pt.U, Pt.locs, Pt.cells, Pt.slots] at X110 l110 y110 z110 st110 hQ110
  subst l110 y110 z110
  obtain ⟨rfl, Nq110, Kq110, w110_0, w110_1, w110_2⟩ := hQ110
  have N111 := Fr.app N101 Nq110
  obtain ⟨h110, e110⟩ : ∃ z, T110.heap = z := ⟨_, rfl⟩
  rw [e110] at Kq110 w110_0 w110_1 w110_2
  have f112 : Exa Z h110 b93 "java/lang/String" := f105.keep Kq110
  have f113 : Arv Z h110 b_100 k_100 .byte (2 : Int32) [(.int ((c >>> ((0 : Int32) &&& 31)).toInt8.toInt32)), (.int ((c >>> ((8 : Int32) &&& 31)).toInt8.toInt32))] (.int (0 : Int32)) := w100_1.keep Kq110 (ninS (Ne.symm ne102) nin0)
  have O114 := O108.keep Kq110 (allS g94 all0)
  have K115 := K109.trans Kq110 (allS (Or.inr z95) all0)
  refine gv (fun tQ kQ => st110.trans kQ) ?_
  show G (T110.setTop (mkF me_ 38 #[.val (.int c)] [(.ref b93)]))
  refine gf _ (own_ret X110 Bd.notSynchronized (v := some (.ref b93)) (fun h => by rw [Bd.returns] at h; cases h) ?_ (by decide) (by decide) (fun fs hr => retOut X110 hx (t := (.object "java/lang/String")) Bd.returns rfl (Or.inr (Or.inr (Or.inr (Or.inr ⟨rfl, rfl, rfl⟩)))) (hb hby d3_38) hr))
  show Q_voU Z c cs h0 n0 _ T110.heap _
  rw [e110]
  exact ⟨b93, b_100, k_100, rfl, N111, K115, z95, z104, ne102, w110_0, w110_2, w110_1, f113⟩
theorem ef_4 (m : MethodId) (x0 : Addr)  : entryFrame m #[(.ref x0)] 1 = mkF m 0 #[.val (.ref x0)] [] := by first | (simp [entryFrame, mkF, argsToLocals, Value.category]; done) | rfl
theorem d11_0 : decode jdk_42_method_154_code 0 = .ok (.getstatic 38, 3) := by decide +kernel
theorem d11_3 : decode jdk_42_method_154_code 3 = .ok (.ifCond .eq 14, 3) := by decide +kernel
theorem d11_6 : decode jdk_42_method_154_code 6 = .ok (.aload_n 0, 1) := by decide +kernel
theorem d11_7 : decode jdk_42_method_154_code 7 = .ok (.getfield 15, 3) := by decide +kernel
theorem d11_10 : decode jdk_42_method_154_code 10 = .ok (.ifCond .ne 7, 3) := by decide +kernel
theorem d11_13 : decode jdk_42_method_154_code 13 = .ok (.iconst 1, 1) := by decide +kernel
theorem d11_14 : decode jdk_42_method_154_code 14 = .ok (.goto 4, 3) := by decide +kernel
theorem d11_18 : decode jdk_42_method_154_code 18 = .ok (.ireturn, 1) := by decide +kernel
def Q_isL0 (Z : State) (a : Addr) (cs : Int32) (h0 : Heap) (n0 : Nat) (v : Option Value) (h : Heap) (L : List Loc) : Prop := v = some (.int (1 : Int32)) ∧ Fr n0 L ∧ h = h0
set_option maxRecDepth 65536 in
set_option maxHeartbeats 40000000 in
theorem rm_isL0 (l : Launch) (Z : State) (a0 : Array Value) (hw : ∀ d ∈ tables_1, d.before a0 Z = true) (ws : List Jvm.Cond) (a : Addr) (cs : Int32) (h0 : Heap) (n0 : Nat) (O0 : Old Z n0 h0) (u0 : Sta Z Z.heap "java/lang/String" "COMPACT_STRINGS" "Z" (.int cs)) (u1 : ¬ (cs = (0 : Int32))) (u2 : Fld Z h0 a "java/lang/String" "coder" "B" (.int (0 : Int32))) :
    MetFree l (⟨"java/lang/String", "isLatin1", "()Z"⟩ : MethodName) (head1 (Jvm.Cond.code (⟨"java/lang/String", "isLatin1", "()Z"⟩ : MethodName) jdk_42_method_154_code 1 (some .boolean) :: ws) ({ frames := 0, cells := 0, slots := 0, locals := 0 } : Room)) (fun aV U => aV = #[(.ref a)] ∧ Z.Warmed39 U.vm ∧ U.heap = h0) (fun _ _ _ _ _ => True) (fun _ U o U' => ∃ v L, o = .returned v ∧ Q_isL0 Z a cs h0 n0 v U'.heap L ∧ FrameEnd U o U' L ({ frames := 0, cells := 0, slots := 0, locals := 0 } : Room).cells ({ frames := 0, cells := 0, slots := 0, locals := 0 } : Room).slots) := by
  refine MetFree.of_bodySF (plainFor_of_name pn_1) hisR ?_
  intro pr_ en_ st_ me_ args below meth_ co_ s₁ Bd hml0 hP hK
  obtain ⟨rfl, hZ, hh⟩ := hP
  have hx := Bd.exec
  have hby := Bd.bytes
  have hml : co_.maxLocals = 1 := hml0
  have hown : st_.vm.findClass "java/lang/String" = some me_.cls := findClass_of_methodNamed Bd.named
  have hnm := (name_of_methodNamed Bd.named Bd.method).1
  have X0 : Stand pr_ l en_ ({ frames := 0, cells := 0, slots := 0, locals := 0 } : Room) st_ me_ #[(.ref a)] below meth_ co_ s₁ [] 0 0 := Stand.of_body Bd
  have e0 : s₁.heap = h0 := by rw [← hh, Bd.state]; rfl
  have N0 := Fr.nil n0
  have K0 := Keep.refl h0 []
  obtain ⟨G, gv, gf, gb⟩ := own_G pr_.tables en_ below st_ (Q_isL0 Z a cs h0 n0) ({ frames := 0, cells := 0, slots := 0, locals := 0 } : Room).cells ({ frames := 0, cells := 0, slots := 0, locals := 0 } : Room).slots
  show own_Fin pr_.tables en_ below st_ (Q_isL0 Z a cs h0 n0) ({ frames := 0, cells := 0, slots := 0, locals := 0 } : Room).cells ({ frames := 0, cells := 0, slots := 0, locals := 0 } : Room).slots (s₁.setTop (entryFrame me_ #[(.ref a)] 1))
  refine gb _ (gv (fun tQ kQ => castTop (ef_4 me_ a) kQ) ?_)
  show G (s₁.setTop (mkF me_ 0 #[.val (.ref a)] []))
  obtain ⟨T116, X116, e116, st116⟩ := getS2 X0 hx hZ hown (host := "") (Or.inl (hw _ (List.mem_of_getElem? (i := 13) rfl))) Via.refl e0 (u0.ext O0.2) (g := (mkF me_ 0 #[.val (.ref a)] [])) rfl (hb hby d11_0)
  refine gv st116 ?_
  show G (T116.setTop (mkF me_ 3 #[.val (.ref a)] [(.int cs)]))
  refine gv (fun tQ kQ => XS.ifNo X116.here hx rfl (hb hby d11_3) rfl ((if0 _ _).trans (feq u1).1) kQ) ?_
  show G (T116.setTop (mkF me_ 6 #[.val (.ref a)] []))
  refine gv (fun tQ kQ => XS.aloadN X116.here hx rfl (hb hby d11_6) rfl rfl kQ) ?_
  show G (T116.setTop (mkF me_ 7 #[.val (.ref a)] [(.ref a)]))
  obtain ⟨T117, X117, e117, st117⟩ := getF X116 hx hZ hown (host := "") (Or.inl (hw _ (List.mem_of_getElem? (i := 33) rfl))) Via.refl e116 u2 (g := (mkF me_ 7 #[.val (.ref a)] [(.ref a)])) rfl rfl (hb hby d11_7)
  refine gv st117 ?_
  show G (T117.setTop (mkF me_ 10 #[.val (.ref a)] [(.int (0 : Int32))]))
  refine gv (fun tQ kQ => XS.ifNo X117.here hx rfl (hb hby d11_10) rfl ((if0 _ _).trans (teq (by decide : (0 : Int32) = (0 : Int32))).2) kQ) ?_
  show G (T117.setTop (mkF me_ 13 #[.val (.ref a)] []))
  refine gv (fun tQ kQ => XS.iconst X117.here hx rfl (hb hby d11_13) kQ) ?_
  show G (T117.setTop (mkF me_ 14 #[.val (.ref a)] [(.int (1 : Int32))]))
  refine gv (fun tQ kQ => XS.goto X117.here hx rfl (pc0 := 14) (pc' := 18) rfl (hb hby d11_14) (by decide) (by decide) kQ) ?_
  show G (T117.setTop (mkF me_ 18 #[.val (.ref a)] [(.int (1 : Int32))]))
  refine gf _ (own_ret X117 Bd.notSynchronized (v := some (.int (1 : Int32))) (fun h => by rw [Bd.returns] at h; cases h) ?_ (by decide) (by decide) (fun fs hr => retN X117 hx (t := .boolean) Bd.returns (by simp) (hb hby d11_18) hr))
  show Q_isL0 Z a cs h0 n0 _ T117.heap _
  rw [e117]
  exact ⟨rfl, N0, rfl⟩
theorem d13_0 : decode jdk_42_method_152_code 0 = .ok (.getstatic 38, 3) := by decide +kernel
theorem d13_3 : decode jdk_42_method_152_code 3 = .ok (.ifCond .eq 10, 3) := by decide +kernel
theorem d13_6 : decode jdk_42_method_152_code 6 = .ok (.aload_n 0, 1) := by decide +kernel
theorem d13_7 : decode jdk_42_method_152_code 7 = .ok (.getfield 15, 3) := by decide +kernel
theorem d13_10 : decode jdk_42_method_152_code 10 = .ok (.goto 4, 3) := by decide +kernel
theorem d13_14 : decode jdk_42_method_152_code 14 = .ok (.ireturn, 1) := by decide +kernel
def Q_coder0 (Z : State) (a : Addr) (cs : Int32) (h0 : Heap) (n0 : Nat) (v : Option Value) (h : Heap) (L : List Loc) : Prop := v = some (.int (0 : Int32)) ∧ Fr n0 L ∧ h = h0
set_option maxRecDepth 65536 in
set_option maxHeartbeats 40000000 in
theorem rm_coder0 (l : Launch) (Z : State) (a0 : Array Value) (hw : ∀ d ∈ tables_1, d.before a0 Z = true) (ws : List Jvm.Cond) (a : Addr) (cs : Int32) (h0 : Heap) (n0 : Nat) (O0 : Old Z n0 h0) (u0 : Sta Z Z.heap "java/lang/String" "COMPACT_STRINGS" "Z" (.int cs)) (u1 : ¬ (cs = (0 : Int32))) (u2 : Fld Z h0 a "java/lang/String" "coder" "B" (.int (0 : Int32))) :
    MetFree l (⟨"java/lang/String", "coder", "()B"⟩ : MethodName) (head1 (Jvm.Cond.code (⟨"java/lang/String", "coder", "()B"⟩ : MethodName) jdk_42_method_152_code 1 (some .byte) :: ws) ({ frames := 0, cells := 0, slots := 0, locals := 0 } : Room)) (fun aV U => aV = #[(.ref a)] ∧ Z.Warmed39 U.vm ∧ U.heap = h0) (fun _ _ _ _ _ => True) (fun _ U o U' => ∃ v L, o = .returned v ∧ Q_coder0 Z a cs h0 n0 v U'.heap L ∧ FrameEnd U o U' L ({ frames := 0, cells := 0, slots := 0, locals := 0 } : Room).cells ({ frames := 0, cells := 0, slots := 0, locals := 0 } : Room).slots) := by
  refine MetFree.of_bodySF (plainFor_of_name pn_1) hisR ?_
  intro pr_ en_ st_ me_ args below meth_ co_ s₁ Bd hml0 hP hK
  obtain ⟨rfl, hZ, hh⟩ := hP
  have hx := Bd.exec
  have hby := Bd.bytes
  have hml : co_.maxLocals = 1 := hml0
  have hown : st_.vm.findClass "java/lang/String" = some me_.cls := findClass_of_methodNamed Bd.named
  have hnm := (name_of_methodNamed Bd.named Bd.method).1
  have X0 : Stand pr_ l en_ ({ frames := 0, cells := 0, slots := 0, locals := 0 } : Room) st_ me_ #[(.ref a)] below meth_ co_ s₁ [] 0 0 := Stand.of_body Bd
  have e0 : s₁.heap = h0 := by rw [← hh, Bd.state]; rfl
  have N0 := Fr.nil n0
  have K0 := Keep.refl h0 []
  obtain ⟨G, gv, gf, gb⟩ := own_G pr_.tables en_ below st_ (Q_coder0 Z a cs h0 n0) ({ frames := 0, cells := 0, slots := 0, locals := 0 } : Room).cells ({ frames := 0, cells := 0, slots := 0, locals := 0 } : Room).slots
  show own_Fin pr_.tables en_ below st_ (Q_coder0 Z a cs h0 n0) ({ frames := 0, cells := 0, slots := 0, locals := 0 } : Room).cells ({ frames := 0, cells := 0, slots := 0, locals := 0 } : Room).slots (s₁.setTop (entryFrame me_ #[(.ref a)] 1))
  refine gb _ (gv (fun tQ kQ => castTop (ef_4 me_ a) kQ) ?_)
  show G (s₁.setTop (mkF me_ 0 #[.val (.ref a)] []))
  obtain ⟨T118, X118, e118, st118⟩ := getS2 X0 hx hZ hown (host := "") (Or.inl (hw _ (List.mem_of_getElem? (i := 13) rfl))) Via.refl e0 (u0.ext O0.2) (g := (mkF me_ 0 #[.val (.ref a)] [])) rfl (hb hby d13_0)
  refine gv st118 ?_
  show G (T118.setTop (mkF me_ 3 #[.val (.ref a)] [(.int cs)]))
  refine gv (fun tQ kQ => XS.ifNo X118.here hx rfl (hb hby d13_3) rfl ((if0 _ _).trans (feq u1).1) kQ) ?_
  show G (T118.setTop (mkF me_ 6 #[.val (.ref a)] []))
  refine gv (fun tQ kQ => XS.aloadN X118.here hx rfl (hb hby d13_6) rfl rfl kQ) ?_
  show G (T118.setTop (mkF me_ 7 #[.val (.ref a)] [(.ref a)]))
  obtain ⟨T119, X119, e119, st119⟩ := getF X118 hx hZ hown (host := "") (Or.inl (hw _ (List.mem_of_getElem? (i := 33) rfl))) Via.refl e118 u2 (g := (mkF me_ 7 #[.val (.ref a)] [(.ref a)])) rfl rfl (hb hby d13_7)
  refine gv st119 ?_
  show G (T119.setTop (mkF me_ 10 #[.val (.ref a)] [(.int (0 : Int32))]))
  refine gv (fun tQ kQ => XS.goto X119.here hx rfl (pc0 := 10) (pc' := 14) rfl (hb hby d13_10) (by decide) (by decide) kQ) ?_
  show G (T119.setTop (mkF me_ 14 #[.val (.ref a)] [(.int (0 : Int32))]))
  refine gf _ (own_ret X119 Bd.notSynchronized (v := some (.int (0 : Int32))) (fun h => by rw [Bd.returns] at h; cases h) ?_ (by decide) (by decide) (fun fs hr => retN X119 hx (t := .byte) Bd.returns (by simp) (hb hby d13_14) hr))
  show Q_coder0 Z a cs h0 n0 _ T119.heap _
  rw [e119]
  exact ⟨rfl, N0, rfl⟩
theorem d12_0 : decode jdk_42_method_54_code 0 = .ok (.aload_n 0, 1) := by decide +kernel
theorem d12_1 : decode jdk_42_method_54_code 1 = .ok (.getfield 9, 3) := by decide +kernel
theorem d12_4 : decode jdk_42_method_54_code 4 = .ok (.arraylength, 1) := by decide +kernel
theorem d12_5 : decode jdk_42_method_54_code 5 = .ok (.aload_n 0, 1) := by decide +kernel
theorem d12_6 : decode jdk_42_method_54_code 6 = .ok (.invokevirtual 335, 3) := by decide +kernel
theorem pd_4 : parseMethodDescriptor "()B" = some ⟨[], some .byte⟩ := by decide +kernel
theorem d12_9 : decode jdk_42_method_54_code 9 = .ok (.ishr, 1) := by decide +kernel
theorem d12_10 : decode jdk_42_method_54_code 10 = .ok (.ireturn, 1) := by decide +kernel
def Q_len0_1 (Z : State) (a : Addr) (b : Addr) (k : ClassId) (cs : Int32) (x0 : Int32) (h0 : Heap) (n0 : Nat) (v : Option Value) (h : Heap) (L : List Loc) : Prop := v = some (.int (1 : Int32)) ∧ Fr n0 L ∧ h = h0
set_option maxRecDepth 65536 in
set_option maxHeartbeats 40000000 in
theorem rm_len0_1 (l : Launch) (Z : State) (a0 : Array Value) (hw : ∀ d ∈ tables_1, d.before a0 Z = true) (ws : List Jvm.Cond) (a : Addr) (b : Addr) (k : ClassId) (cs : Int32) (x0 : Int32) (h0 : Heap) (n0 : Nat) (O0 : Old Z n0 h0) (u0 : Sta Z Z.heap "java/lang/String" "COMPACT_STRINGS" "Z" (.int cs)) (u1 : ¬ (cs = (0 : Int32))) (u2 : Exa Z h0 a "java/lang/String") (u3 : Fld Z h0 a "java/lang/String" "coder" "B" (.int (0 : Int32))) (u4 : Fld Z h0 a "java/lang/String" "value" "[B" (.ref b)) (u5 : Arv Z h0 b k .byte (1 : Int32) [(.int x0)] (.int (0 : Int32))) :
    MetFree l (⟨"java/lang/String", "length", "()I"⟩ : MethodName) (head1 (Jvm.Cond.code (⟨"java/lang/String", "length", "()I"⟩ : MethodName) jdk_42_method_54_code 1 (some .int) :: ws) ({ frames := 1, cells := 0, slots := 0, locals := 13 } : Room)) (fun aV U => aV = #[(.ref a)] ∧ Z.Warmed39 U.vm ∧ U.heap = h0) (fun _ _ _ _ _ => True) (fun _ U o U' => ∃ v L, o = .returned v ∧ Q_len0_1 Z a b k cs x0 h0 n0 v U'.heap L ∧ FrameEnd U o U' L ({ frames := 1, cells := 0, slots := 0, locals := 13 } : Room).cells ({ frames := 1, cells := 0, slots := 0, locals := 13 } : Room).slots) := by
  refine MetFree.of_bodySF (plainFor_of_name pn_1) hisR ?_
  intro pr_ en_ st_ me_ args below meth_ co_ s₁ Bd hml0 hP hK
  obtain ⟨rfl, hZ, hh⟩ := hP
  have hx := Bd.exec
  have hby := Bd.bytes
  have hml : co_.maxLocals = 1 := hml0
  have hown : st_.vm.findClass "java/lang/String" = some me_.cls := findClass_of_methodNamed Bd.named
  have hnm := (name_of_methodNamed Bd.named Bd.method).1
  have X0 : Stand pr_ l en_ ({ frames := 1, cells := 0, slots := 0, locals := 13 } : Room) st_ me_ #[(.ref a)] below meth_ co_ s₁ [] 0 0 := Stand.of_body Bd
  have e0 : s₁.heap = h0 := by rw [← hh, Bd.state]; rfl
  have N0 := Fr.nil n0
  have K0 := Keep.refl h0 []
  obtain ⟨G, gv, gf, gb⟩ := own_G pr_.tables en_ below st_ (Q_len0_1 Z a b k cs x0 h0 n0) ({ frames := 1, cells := 0, slots := 0, locals := 13 } : Room).cells ({ frames := 1, cells := 0, slots := 0, locals := 13 } : Room).slots
  show own_Fin pr_.tables en_ below st_ (Q_len0_1 Z a b k cs x0 h0 n0) ({ frames := 1, cells := 0, slots := 0, locals := 13 } : Room).cells ({ frames := 1, cells := 0, slots := 0, locals := 13 } : Room).slots (s₁.setTop (entryFrame me_ #[(.ref a)] 1))
  refine gb _ (gv (fun tQ kQ => castTop (ef_4 me_ a) kQ) ?_)
  show G (s₁.setTop (mkF me_ 0 #[.val (.ref a)] []))
  refine gv (fun tQ kQ => XS.aloadN X0.here hx rfl (hb hby d12_0) rfl rfl kQ) ?_
  show G (s₁.setTop (mkF me_ 1 #[.val (.ref a)] [(.ref a)]))
  obtain ⟨T120, X120, e120, st120⟩ := getF X0 hx hZ hown (host := "") (Or.inl (hw _ (List.mem_of_getElem? (i := 31) rfl))) Via.refl e0 u4 (g := (mkF me_ 1 #[.val (.ref a)] [(.ref a)])) rfl rfl (hb hby d12_1)
  refine gv st120 ?_
  show G (T120.setTop (mkF me_ 4 #[.val (.ref a)] [(.ref b)]))
  obtain ⟨cl121, Ar121, -, S121, n121, -, -⟩ := (id u5)
  refine gv (X120.arraylength hx (by rw [e120]; exact Ar121.1) (State.isArrayOf_alike hZ.alike Ar121.2.1) (g := (mkF me_ 4 #[.val (.ref a)] [(.ref b)])) rfl rfl (hb hby d12_4)) ?_
  rw [len_of S121 n121]
  show G (T120.setTop (mkF me_ 5 #[.val (.ref a)] [(.int (1 : Int32))]))
  refine gv (fun tQ kQ => XS.aloadN X120.here hx rfl (hb hby d12_5) rfl rfl kQ) ?_
  show G (T120.setTop (mkF me_ 6 #[.val (.ref a)] [(.ref a), (.int (1 : Int32))]))
  obtain ⟨cq122, kq122, q122a, q122b, q122c⟩ := isOf hZ e120 u2
  obtain ⟨_, _, ⟨T122, L122, k122, n122⟩, -, X122, ⟨Lc122, hQ122, l122, y122, z122⟩, st122⟩ := X120.virtualBack hx (y := (⟨"java/lang/String", "coder", "()B"⟩ : MethodName)) (z := (⟨"java/lang/String", "coder", "()B"⟩ : MethodName)) hown (mvT hZ (hw _ (List.mem_of_getElem? (i := 58) rfl))) (mvT hZ (hw _ (List.mem_of_getElem? (i := 59) rfl))) (notFace_of_selects (args := #[]) (mvT hZ (hw _ (List.mem_of_getElem? (i := 61) rfl)))) (mvT hZ (hw _ (List.mem_of_getElem? (i := 61) rfl))) (mvT hZ (hw _ (List.mem_of_getElem? (i := 60) rfl))) (by decide) (backOf (W := 1) (rm_coder0 l Z a0 hw [] a cs h0 n0 O0 u0 u1 u3) hZ (hw _ (List.mem_of_getElem? (i := 62) rfl)) (hw _ (List.mem_of_getElem? (i := 11) rfl)) (by decide) (by decide)) q122a q122c (g := (mkF me_ 6 #[.val (.ref a)] [(.ref a), (.int (1 : Int32))])) rfl (by rw [hml]; rfl) (Steps.refl _) (argsL := []) (rest := [(.int (1 : Int32))]) (lenOf pd_4 rfl) rfl (by show 2 * 0 + _ ≤ _; exact Nat.le_of_eq rfl) (hb hby d12_6) (fun _ _ => ⟨rfl, e120, (by decide : 0 + 0 ≤ _), (by decide : 0 + 0 ≤ _)⟩)
  dsimp only [Pt.U, Pt.locs, Pt.cells, Pt.slots] at X122 l122 y122 z122 st122 hQ122
  subst l122 y122 z122
  obtain ⟨rfl, Nq122, eq122⟩ := hQ122
  have N123 := Fr.app N0 Nq122
  refine gv (fun tQ kQ => st122.trans kQ) ?_
  show G (T122.setTop (mkF me_ 9 #[.val (.ref a)] [(.int (0 : Int32)), (.int (1 : Int32))]))
  refine gv (fun tQ kQ => XS.ishr X122.here hx rfl (hb hby d12_9) rfl kQ) ?_
  show G (T122.setTop (mkF me_ 10 #[.val (.ref a)] [(.int ((1 : Int32) >>> ((0 : Int32) &&& 31)))]))
  rw [(by decide : ((1 : Int32) >>> ((0 : Int32) &&& 31)) = (1 : Int32))]
  show G (T122.setTop (mkF me_ 10 #[.val (.ref a)] [(.int (1 : Int32))]))
  refine gf _ (own_ret X122 Bd.notSynchronized (v := some (.int (1 : Int32))) (fun h => by rw [Bd.returns] at h; cases h) ?_ (by decide) (by decide) (fun fs hr => retOut X122 hx (t := .int) Bd.returns rfl (Or.inl ⟨rfl, Or.inl rfl, _, rfl⟩) (hb hby d12_10) hr))
  show Q_len0_1 Z a b k cs x0 h0 n0 _ T122.heap _
  rw [eq122]
  exact ⟨rfl, N123, rfl⟩
theorem d11_17 : decode jdk_42_method_154_code 17 = .ok (.iconst 0, 1) := by decide +kernel
def Q_isL1 (Z : State) (a : Addr) (cs : Int32) (h0 : Heap) (n0 : Nat) (v : Option Value) (h : Heap) (L : List Loc) : Prop := v = some (.int (0 : Int32)) ∧ Fr n0 L ∧ h = h0
set_option maxRecDepth 65536 in
set_option maxHeartbeats 40000000 in
theorem rm_isL1 (l : Launch) (Z : State) (a0 : Array Value) (hw : ∀ d ∈ tables_1, d.before a0 Z = true) (ws : List Jvm.Cond) (a : Addr) (cs : Int32) (h0 : Heap) (n0 : Nat) (O0 : Old Z n0 h0) (u0 : Sta Z Z.heap "java/lang/String" "COMPACT_STRINGS" "Z" (.int cs)) (u1 : ¬ (cs = (0 : Int32))) (u2 : Fld Z h0 a "java/lang/String" "coder" "B" (.int (1 : Int32))) :
    MetFree l (⟨"java/lang/String", "isLatin1", "()Z"⟩ : MethodName) (head1 (Jvm.Cond.code (⟨"java/lang/String", "isLatin1", "()Z"⟩ : MethodName) jdk_42_method_154_code 1 (some .boolean) :: ws) ({ frames := 0, cells := 0, slots := 0, locals := 0 } : Room)) (fun aV U => aV = #[(.ref a)] ∧ Z.Warmed39 U.vm ∧ U.heap = h0) (fun _ _ _ _ _ => True) (fun _ U o U' => ∃ v L, o = .returned v ∧ Q_isL1 Z a cs h0 n0 v U'.heap L ∧ FrameEnd U o U' L ({ frames := 0, cells := 0, slots := 0, locals := 0 } : Room).cells ({ frames := 0, cells := 0, slots := 0, locals := 0 } : Room).slots) := by
  refine MetFree.of_bodySF (plainFor_of_name pn_1) hisR ?_
  intro pr_ en_ st_ me_ args below meth_ co_ s₁ Bd hml0 hP hK
  obtain ⟨rfl, hZ, hh⟩ := hP
  have hx := Bd.exec
  have hby := Bd.bytes
  have hml : co_.maxLocals = 1 := hml0
  have hown : st_.vm.findClass "java/lang/String" = some me_.cls := findClass_of_methodNamed Bd.named
  have hnm := (name_of_methodNamed Bd.named Bd.method).1
  have X0 : Stand pr_ l en_ ({ frames := 0, cells := 0, slots := 0, locals := 0 } : Room) st_ me_ #[(.ref a)] below meth_ co_ s₁ [] 0 0 := Stand.of_body Bd
  have e0 : s₁.heap = h0 := by rw [← hh, Bd.state]; rfl
  have N0 := Fr.nil n0
  have K0 := Keep.refl h0 []
  obtain ⟨G, gv, gf, gb⟩ := own_G pr_.tables en_ below st_ (Q_isL1 Z a cs h0 n0) ({ frames := 0, cells := 0, slots := 0, locals := 0 } : Room).cells ({ frames := 0, cells := 0, slots := 0, locals := 0 } : Room).slots
  show own_Fin pr_.tables en_ below st_ (Q_isL1 Z a cs h0 n0) ({ frames := 0, cells := 0, slots := 0, locals := 0 } : Room).cells ({ frames := 0, cells := 0, slots := 0, locals := 0 } : Room).slots (s₁.setTop (entryFrame me_ #[(.ref a)] 1))
  refine gb _ (gv (fun tQ kQ => castTop (ef_4 me_ a) kQ) ?_)
  show G (s₁.setTop (mkF me_ 0 #[.val (.ref a)] []))
  obtain ⟨T124, X124, e124, st124⟩ := getS2 X0 hx hZ hown (host := "") (Or.inl (hw _ (List.mem_of_getElem? (i := 13) rfl))) Via.refl e0 (u0.ext O0.2) (g := (mkF me_ 0 #[.val (.ref a)] [])) rfl (hb hby d11_0)
  refine gv st124 ?_
  show G (T124.setTop (mkF me_ 3 #[.val (.ref a)] [(.int cs)]))
  refine gv (fun tQ kQ => XS.ifNo X124.here hx rfl (hb hby d11_3) rfl ((if0 _ _).trans (feq u1).1) kQ) ?_
  show G (T124.setTop (mkF me_ 6 #[.val (.ref a)] []))
  refine gv (fun tQ kQ => XS.aloadN X124.here hx rfl (hb hby d11_6) rfl rfl kQ) ?_
  show G (T124.setTop (mkF me_ 7 #[.val (.ref a)] [(.ref a)]))
  obtain ⟨T125, X125, e125, st125⟩ := getF X124 hx hZ hown (host := "") (Or.inl (hw _ (List.mem_of_getElem? (i := 33) rfl))) Via.refl e124 u2 (g := (mkF me_ 7 #[.val (.ref a)] [(.ref a)])) rfl rfl (hb hby d11_7)
  refine gv st125 ?_
  show G (T125.setTop (mkF me_ 10 #[.val (.ref a)] [(.int (1 : Int32))]))
  refine gv (fun tQ kQ => XS.ifYes X125.here hx rfl (pc0 := 10) (pc' := 17) rfl (hb hby d11_10) rfl ((if0 _ _).trans (feq (by decide : ¬ ((1 : Int32) = (0 : Int32)))).2) (by decide) (by decide) kQ) ?_
  show G (T125.setTop (mkF me_ 17 #[.val (.ref a)] []))
  refine gv (fun tQ kQ => XS.iconst X125.here hx rfl (hb hby d11_17) kQ) ?_
  show G (T125.setTop (mkF me_ 18 #[.val (.ref a)] [(.int (0 : Int32))]))
  refine gf _ (own_ret X125 Bd.notSynchronized (v := some (.int (0 : Int32))) (fun h => by rw [Bd.returns] at h; cases h) ?_ (by decide) (by decide) (fun fs hr => retN X125 hx (t := .boolean) Bd.returns (by simp) (hb hby d11_18) hr))
  show Q_isL1 Z a cs h0 n0 _ T125.heap _
  rw [e125]
  exact ⟨rfl, N0, rfl⟩
def Q_coder1 (Z : State) (a : Addr) (cs : Int32) (h0 : Heap) (n0 : Nat) (v : Option Value) (h : Heap) (L : List Loc) : Prop := v = some (.int (1 : Int32)) ∧ Fr n0 L ∧ h = h0
set_option maxRecDepth 65536 in
set_option maxHeartbeats 40000000 in
theorem rm_coder1 (l : Launch) (Z : State) (a0 : Array Value) (hw : ∀ d ∈ tables_1, d.before a0 Z = true) (ws : List Jvm.Cond) (a : Addr) (cs : Int32) (h0 : Heap) (n0 : Nat) (O0 : Old Z n0 h0) (u0 : Sta Z Z.heap "java/lang/String" "COMPACT_STRINGS" "Z" (.int cs)) (u1 : ¬ (cs = (0 : Int32))) (u2 : Fld Z h0 a "java/lang/String" "coder" "B" (.int (1 : Int32))) :
    MetFree l (⟨"java/lang/String", "coder", "()B"⟩ : MethodName) (head1 (Jvm.Cond.code (⟨"java/lang/String", "coder", "()B"⟩ : MethodName) jdk_42_method_152_code 1 (some .byte) :: ws) ({ frames := 0, cells := 0, slots := 0, locals := 0 } : Room)) (fun aV U => aV = #[(.ref a)] ∧ Z.Warmed39 U.vm ∧ U.heap = h0) (fun _ _ _ _ _ => True) (fun _ U o U' => ∃ v L, o = .returned v ∧ Q_coder1 Z a cs h0 n0 v U'.heap L ∧ FrameEnd U o U' L ({ frames := 0, cells := 0, slots := 0, locals := 0 } : Room).cells ({ frames := 0, cells := 0, slots := 0, locals := 0 } : Room).slots) := by
  refine MetFree.of_bodySF (plainFor_of_name pn_1) hisR ?_
  intro pr_ en_ st_ me_ args below meth_ co_ s₁ Bd hml0 hP hK
  obtain ⟨rfl, hZ, hh⟩ := hP
  have hx := Bd.exec
  have hby := Bd.bytes
  have hml : co_.maxLocals = 1 := hml0
  have hown : st_.vm.findClass "java/lang/String" = some me_.cls := findClass_of_methodNamed Bd.named
  have hnm := (name_of_methodNamed Bd.named Bd.method).1
  have X0 : Stand pr_ l en_ ({ frames := 0, cells := 0, slots := 0, locals := 0 } : Room) st_ me_ #[(.ref a)] below meth_ co_ s₁ [] 0 0 := Stand.of_body Bd
  have e0 : s₁.heap = h0 := by rw [← hh, Bd.state]; rfl
  have N0 := Fr.nil n0
  have K0 := Keep.refl h0 []
  obtain ⟨G, gv, gf, gb⟩ := own_G pr_.tables en_ below st_ (Q_coder1 Z a cs h0 n0) ({ frames := 0, cells := 0, slots := 0, locals := 0 } : Room).cells ({ frames := 0, cells := 0, slots := 0, locals := 0 } : Room).slots
  show own_Fin pr_.tables en_ below st_ (Q_coder1 Z a cs h0 n0) ({ frames := 0, cells := 0, slots := 0, locals := 0 } : Room).cells ({ frames := 0, cells := 0, slots := 0, locals := 0 } : Room).slots (s₁.setTop (entryFrame me_ #[(.ref a)] 1))
  refine gb _ (gv (fun tQ kQ => castTop (ef_4 me_ a) kQ) ?_)
  show G (s₁.setTop (mkF me_ 0 #[.val (.ref a)] []))
  obtain ⟨T126, X126, e126, st126⟩ := getS2 X0 hx hZ hown (host := "") (Or.inl (hw _ (List.mem_of_getElem? (i := 13) rfl))) Via.refl e0 (u0.ext O0.2) (g := (mkF me_ 0 #[.val (.ref a)] [])) rfl (hb hby d13_0)
  refine gv st126 ?_
  show G (T126.setTop (mkF me_ 3 #[.val (.ref a)] [(.int cs)]))
  refine gv (fun tQ kQ => XS.ifNo X126.here hx rfl (hb hby d13_3) rfl ((if0 _ _).trans (feq u1).1) kQ) ?_
  show G (T126.setTop (mkF me_ 6 #[.val (.ref a)] []))
  refine gv (fun tQ kQ => XS.aloadN X126.here hx rfl (hb hby d13_6) rfl rfl kQ) ?_
  show G (T126.setTop (mkF me_ 7 #[.val (.ref a)] [(.ref a)]))
  obtain ⟨T127, X127, e127, st127⟩ := getF X126 hx hZ hown (host := "") (Or.inl (hw _ (List.mem_of_getElem? (i := 33) rfl))) Via.refl e126 u2 (g := (mkF me_ 7 #[.val (.ref a)] [(.ref a)])) rfl rfl (hb hby d13_7)
  refine gv st127 ?_
  show G (T127.setTop (mkF me_ 10 #[.val (.ref a)] [(.int (1 : Int32))]))
  refine gv (fun tQ kQ => XS.goto X127.here hx rfl (pc0 := 10) (pc' := 14) rfl (hb hby d13_10) (by decide) (by decide) kQ) ?_
  show G (T127.setTop (mkF me_ 14 #[.val (.ref a)] [(.int (1 : Int32))]))
  refine gf _ (own_ret X127 Bd.notSynchronized (v := some (.int (1 : Int32))) (fun h => by rw [Bd.returns] at h; cases h) ?_ (by decide) (by decide) (fun fs hr => retN X127 hx (t := .byte) Bd.returns (by simp) (hb hby d13_14) hr))
  show Q_coder1 Z a cs h0 n0 _ T127.heap _
  rw [e127]
  exact ⟨rfl, N0, rfl⟩
def Q_len1_1 (Z : State) (a : Addr) (b : Addr) (k : ClassId) (cs : Int32) (x0 : Int32) (x1 : Int32) (h0 : Heap) (n0 : Nat) (v : Option Value) (h : Heap) (L : List Loc) : Prop := v = some (.int (1 : Int32)) ∧ Fr n0 L ∧ h = h0
set_option maxRecDepth 65536 in
set_option maxHeartbeats 40000000 in
theorem rm_len1_1 (l : Launch) (Z : State) (a0 : Array Value) (hw : ∀ d ∈ tables_1, d.before a0 Z = true) (ws : List Jvm.Cond) (a : Addr) (b : Addr) (k : ClassId) (cs : Int32) (x0 : Int32) (x1 : Int32) (h0 : Heap) (n0 : Nat) (O0 : Old Z n0 h0) (u0 : Sta Z Z.heap "java/lang/String" "COMPACT_STRINGS" "Z" (.int cs)) (u1 : ¬ (cs = (0 : Int32))) (u2 : Exa Z h0 a "java/lang/String") (u3 : Fld Z h0 a "java/lang/String" "coder" "B" (.int (1 : Int32))) (u4 : Fld Z h0 a "java/lang/String" "value" "[B" (.ref b)) (u5 : Arv Z h0 b k .byte (2 : Int32) [(.int x0), (.int x1)] (.int (0 : Int32))) :
    MetFree l (⟨"java/lang/String", "length", "()I"⟩ : MethodName) (head1 (Jvm.Cond.code (⟨"java/lang/String", "length", "()I"⟩ : MethodName) jdk_42_method_54_code 1 (some .int) :: ws) ({ frames := 1, cells := 0, slots := 0, locals := 13 } : Room)) (fun aV U => aV = #[(.ref a)] ∧ Z.Warmed39 U.vm ∧ U.heap = h0) (fun _ _ _ _ _ => True) (fun _ U o U' => ∃ v L, o = .returned v ∧ Q_len1_1 Z a b k cs x0 x1 h0 n0 v U'.heap L ∧ FrameEnd U o U' L ({ frames := 1, cells := 0, slots := 0, locals := 13 } : Room).cells ({ frames := 1, cells := 0, slots := 0, locals := 13 } : Room).slots) := by
  refine MetFree.of_bodySF (plainFor_of_name pn_1) hisR ?_
  intro pr_ en_ st_ me_ args below meth_ co_ s₁ Bd hml0 hP hK
  obtain ⟨rfl, hZ, hh⟩ := hP
  have hx := Bd.exec
  have hby := Bd.bytes
  have hml : co_.maxLocals = 1 := hml0
  have hown : st_.vm.findClass "java/lang/String" = some me_.cls := findClass_of_methodNamed Bd.named
  have hnm := (name_of_methodNamed Bd.named Bd.method).1
  have X0 : Stand pr_ l en_ ({ frames := 1, cells := 0, slots := 0, locals := 13 } : Room) st_ me_ #[(.ref a)] below meth_ co_ s₁ [] 0 0 := Stand.of_body Bd
  have e0 : s₁.heap = h0 := by rw [← hh, Bd.state]; rfl
  have N0 := Fr.nil n0
  have K0 := Keep.refl h0 []
  obtain ⟨G, gv, gf, gb⟩ := own_G pr_.tables en_ below st_ (Q_len1_1 Z a b k cs x0 x1 h0 n0) ({ frames := 1, cells := 0, slots := 0, locals := 13 } : Room).cells ({ frames := 1, cells := 0, slots := 0, locals := 13 } : Room).slots
  show own_Fin pr_.tables en_ below st_ (Q_len1_1 Z a b k cs x0 x1 h0 n0) ({ frames := 1, cells := 0, slots := 0, locals := 13 } : Room).cells ({ frames := 1, cells := 0, slots := 0, locals := 13 } : Room).slots (s₁.setTop (entryFrame me_ #[(.ref a)] 1))
  refine gb _ (gv (fun tQ kQ => castTop (ef_4 me_ a) kQ) ?_)
  show G (s₁.setTop (mkF me_ 0 #[.val (.ref a)] []))
  refine gv (fun tQ kQ => XS.aloadN X0.here hx rfl (hb hby d12_0) rfl rfl kQ) ?_
  show G (s₁.setTop (mkF me_ 1 #[.val (.ref a)] [(.ref a)]))
  obtain ⟨T128, X128, e128, st128⟩ := getF X0 hx hZ hown (host := "") (Or.inl (hw _ (List.mem_of_getElem? (i := 31) rfl))) Via.refl e0 u4 (g := (mkF me_ 1 #[.val (.ref a)] [(.ref a)])) rfl rfl (hb hby d12_1)
  refine gv st128 ?_
  show G (T128.setTop (mkF me_ 4 #[.val (.ref a)] [(.ref b)]))
  obtain ⟨cl129, Ar129, -, S129, n129, -, -⟩ := (id u5)
  refine gv (X128.arraylength hx (by rw [e128]; exact Ar129.1) (State.isArrayOf_alike hZ.alike Ar129.2.1) (g := (mkF me_ 4 #[.val (.ref a)] [(.ref b)])) rfl rfl (hb hby d12_4)) ?_
  rw [len_of S129 n129]
  show G (T128.setTop (mkF me_ 5 #[.val (.ref a)] [(.int (2 : Int32))]))
  refine gv (fun tQ kQ => XS.aloadN X128.here hx rfl (hb hby d12_5) rfl rfl kQ) ?_
  show G (T128.setTop (mkF me_ 6 #[.val (.ref a)] [(.ref a), (.int (2 : Int32))]))
  obtain ⟨cq130, kq130, q130a, q130b, q130c⟩ := isOf hZ e128 u2
  obtain ⟨_, _, ⟨T130, L130, k130, n130⟩, -, X130, ⟨Lc130, hQ130, l130, y130, z130⟩, st130⟩ := X128.virtualBack hx (y := (⟨"java/lang/String", "coder", "()B"⟩ : MethodName)) (z := (⟨"java/lang/String", "coder", "()B"⟩ : MethodName)) hown (mvT hZ (hw _ (List.mem_of_getElem? (i := 58) rfl))) (mvT hZ (hw _ (List.mem_of_getElem? (i := 59) rfl))) (notFace_of_selects (args := #[]) (mvT hZ (hw _ (List.mem_of_getElem? (i := 61) rfl)))) (mvT hZ (hw _ (List.mem_of_getElem? (i := 61) rfl))) (mvT hZ (hw _ (List.mem_of_getElem? (i := 60) rfl))) (by decide) (backOf (W := 1) (rm_coder1 l Z a0 hw [] a cs h0 n0 O0 u0 u1 u3) hZ (hw _ (List.mem_of_getElem? (i := 62) rfl)) (hw _ (List.mem_of_getElem? (i := 11) rfl)) (by decide) (by decide)) q130a q130c (g := (mkF me_ 6 #[.val (.ref a)] [(.ref a), (.int (2 : Int32))])) rfl (by rw [hml]; rfl) (Steps.refl _) (argsL := []) (rest := [(.int (2 : Int32))]) (lenOf pd_4 rfl) rfl (by show 2 * 0 + _ ≤ _; exact Nat.le_of_eq rfl) (hb hby d12_6) (fun _ _ => ⟨rfl, e128, (by decide : 0 + 0 ≤ _), (by decide : 0 + 0 ≤ _)⟩)
  dsimp only [Pt.U, Pt.locs, Pt.cells, Pt.slots] at X130 l130 y130 z130 st130 hQ130
  subst l130 y130 z130
  obtain ⟨rfl, Nq130, eq130⟩ := hQ130
  have N131 := Fr.app N0 Nq130
  refine gv (fun tQ kQ => st130.trans kQ) ?_
  show G (T130.setTop (mkF me_ 9 #[.val (.ref a)] [(.int (1 : Int32)), (.int (2 : Int32))]))
  refine gv (fun tQ kQ => XS.ishr X130.here hx rfl (hb hby d12_9) rfl kQ) ?_
  show G (T130.setTop (mkF me_ 10 #[.val (.ref a)] [(.int ((2 : Int32) >>> ((1 : Int32) &&& 31)))]))
  rw [(by decide : ((2 : Int32) >>> ((1 : Int32) &&& 31)) = (1 : Int32))]
  show G (T130.setTop (mkF me_ 10 #[.val (.ref a)] [(.int (1 : Int32))]))
  refine gf _ (own_ret X130 Bd.notSynchronized (v := some (.int (1 : Int32))) (fun h => by rw [Bd.returns] at h; cases h) ?_ (by decide) (by decide) (fun fs hr => retOut X130 hx (t := .int) Bd.returns rfl (Or.inl ⟨rfl, Or.inl rfl, _, rfl⟩) (hb hby d12_10) hr))
  show Q_len1_1 Z a b k cs x0 x1 h0 n0 _ T130.heap _
  rw [eq130]
  exact ⟨rfl, N131, rfl⟩
theorem d15_0 : decode jdk_43_method_4_code 0 = .ok (.iload_n 0, 1) := by decide +kernel
theorem d15_1 : decode jdk_43_method_4_code 1 = .ok (.ifCond .lt 14, 3) := by decide +kernel
theorem d15_4 : decode jdk_43_method_4_code 4 = .ok (.iload_n 0, 1) := by decide +kernel
theorem d15_5 : decode jdk_43_method_4_code 5 = .ok (.sipush 255, 3) := by decide +kernel
theorem d15_8 : decode jdk_43_method_4_code 8 = .ok (.if_icmp .gt 7, 3) := by decide +kernel
theorem d15_11 : decode jdk_43_method_4_code 11 = .ok (.iconst 1, 1) := by decide +kernel
theorem d15_12 : decode jdk_43_method_4_code 12 = .ok (.goto 4, 3) := by decide +kernel
theorem d15_16 : decode jdk_43_method_4_code 16 = .ok (.ireturn, 1) := by decide +kernel
def Q_canI63 (Z : State)  (h0 : Heap) (n0 : Nat) (v : Option Value) (h : Heap) (L : List Loc) : Prop := v = some (.int (1 : Int32)) ∧ Fr n0 L ∧ h = h0
set_option maxRecDepth 65536 in
set_option maxHeartbeats 40000000 in
theorem rm_canI63 (l : Launch) (Z : State) (a0 : Array Value) (hw : ∀ d ∈ tables_1, d.before a0 Z = true) (ws : List Jvm.Cond)  (h0 : Heap) (n0 : Nat) (O0 : Old Z n0 h0)  :
    MetFree l (⟨"java/lang/StringLatin1", "canEncode", "(I)Z"⟩ : MethodName) (head1 (Jvm.Cond.code (⟨"java/lang/StringLatin1", "canEncode", "(I)Z"⟩ : MethodName) jdk_43_method_4_code 1 (some .boolean) :: ws) ({ frames := 0, cells := 0, slots := 0, locals := 0 } : Room)) (fun aV U => aV = #[(.int (63 : Int32))] ∧ Z.Warmed39 U.vm ∧ U.heap = h0) (fun _ _ _ _ _ => True) (fun _ U o U' => ∃ v L, o = .returned v ∧ Q_canI63 Z  h0 n0 v U'.heap L ∧ FrameEnd U o U' L ({ frames := 0, cells := 0, slots := 0, locals := 0 } : Room).cells ({ frames := 0, cells := 0, slots := 0, locals := 0 } : Room).slots) := by
  refine MetFree.of_bodySF (plainFor_of_name pn_0) hisR ?_
  intro pr_ en_ st_ me_ args below meth_ co_ s₁ Bd hml0 hP hK
  obtain ⟨rfl, hZ, hh⟩ := hP
  have hx := Bd.exec
  have hby := Bd.bytes
  have hml : co_.maxLocals = 1 := hml0
  have hown : st_.vm.findClass "java/lang/StringLatin1" = some me_.cls := findClass_of_methodNamed Bd.named
  have hnm := (name_of_methodNamed Bd.named Bd.method).1
  have X0 : Stand pr_ l en_ ({ frames := 0, cells := 0, slots := 0, locals := 0 } : Room) st_ me_ #[(.int (63 : Int32))] below meth_ co_ s₁ [] 0 0 := Stand.of_body Bd
  have e0 : s₁.heap = h0 := by rw [← hh, Bd.state]; rfl
  have N0 := Fr.nil n0
  have K0 := Keep.refl h0 []
  obtain ⟨G, gv, gf, gb⟩ := own_G pr_.tables en_ below st_ (Q_canI63 Z  h0 n0) ({ frames := 0, cells := 0, slots := 0, locals := 0 } : Room).cells ({ frames := 0, cells := 0, slots := 0, locals := 0 } : Room).slots
  show own_Fin pr_.tables en_ below st_ (Q_canI63 Z  h0 n0) ({ frames := 0, cells := 0, slots := 0, locals := 0 } : Room).cells ({ frames := 0, cells := 0, slots := 0, locals := 0 } : Room).slots (s₁.setTop (entryFrame me_ #[(.int (63 : Int32))] 1))
  refine gb _ (gv (fun tQ kQ => castTop (ef_0 me_ (63 : Int32)) kQ) ?_)
  show G (s₁.setTop (mkF me_ 0 #[.val (.int (63 : Int32))] []))
  refine gv (fun tQ kQ => XS.iloadN X0.here hx rfl (hb hby d15_0) rfl kQ) ?_
  show G (s₁.setTop (mkF me_ 1 #[.val (.int (63 : Int32))] [(.int (63 : Int32))]))
  refine gv (fun tQ kQ => XS.ifNo X0.here hx rfl (hb hby d15_1) rfl ((if0 _ _).trans (flt (by decide : ¬ ((63 : Int32) < (0 : Int32)))).1) kQ) ?_
  show G (s₁.setTop (mkF me_ 4 #[.val (.int (63 : Int32))] []))
  refine gv (fun tQ kQ => XS.iloadN X0.here hx rfl (hb hby d15_4) rfl kQ) ?_
  show G (s₁.setTop (mkF me_ 5 #[.val (.int (63 : Int32))] [(.int (63 : Int32))]))
  refine gv (fun tQ kQ => XS.sipush X0.here hx rfl (hb hby d15_5) kQ) ?_
  show G (s₁.setTop (mkF me_ 8 #[.val (.int (63 : Int32))] [(.int (255 : Int32)), (.int (63 : Int32))]))
  refine gv (fun tQ kQ => XS.icmpNo X0.here hx rfl (hb hby d15_8) rfl (flt (by decide : ¬ ((255 : Int32) < (63 : Int32)))).2.2.1 kQ) ?_
  show G (s₁.setTop (mkF me_ 11 #[.val (.int (63 : Int32))] []))
  refine gv (fun tQ kQ => XS.iconst X0.here hx rfl (hb hby d15_11) kQ) ?_
  show G (s₁.setTop (mkF me_ 12 #[.val (.int (63 : Int32))] [(.int (1 : Int32))]))
  refine gv (fun tQ kQ => XS.goto X0.here hx rfl (pc0 := 12) (pc' := 16) rfl (hb hby d15_12) (by decide) (by decide) kQ) ?_
  show G (s₁.setTop (mkF me_ 16 #[.val (.int (63 : Int32))] [(.int (1 : Int32))]))
  refine gf _ (own_ret X0 Bd.notSynchronized (v := some (.int (1 : Int32))) (fun h => by rw [Bd.returns] at h; cases h) ?_ (by decide) (by decide) (fun fs hr => retN X0 hx (t := .boolean) Bd.returns (by simp) (hb hby d15_16) hr))
  show Q_canI63 Z  h0 n0 _ s₁.heap _
  rw [e0]
  exact ⟨rfl, N0, rfl⟩
def Q_canI42 (Z : State)  (h0 : Heap) (n0 : Nat) (v : Option Value) (h : Heap) (L : List Loc) : Prop := v = some (.int (1 : Int32)) ∧ Fr n0 L ∧ h = h0
set_option maxRecDepth 65536 in
set_option maxHeartbeats 40000000 in
theorem rm_canI42 (l : Launch) (Z : State) (a0 : Array Value) (hw : ∀ d ∈ tables_1, d.before a0 Z = true) (ws : List Jvm.Cond)  (h0 : Heap) (n0 : Nat) (O0 : Old Z n0 h0)  :
    MetFree l (⟨"java/lang/StringLatin1", "canEncode", "(I)Z"⟩ : MethodName) (head1 (Jvm.Cond.code (⟨"java/lang/StringLatin1", "canEncode", "(I)Z"⟩ : MethodName) jdk_43_method_4_code 1 (some .boolean) :: ws) ({ frames := 0, cells := 0, slots := 0, locals := 0 } : Room)) (fun aV U => aV = #[(.int (42 : Int32))] ∧ Z.Warmed39 U.vm ∧ U.heap = h0) (fun _ _ _ _ _ => True) (fun _ U o U' => ∃ v L, o = .returned v ∧ Q_canI42 Z  h0 n0 v U'.heap L ∧ FrameEnd U o U' L ({ frames := 0, cells := 0, slots := 0, locals := 0 } : Room).cells ({ frames := 0, cells := 0, slots := 0, locals := 0 } : Room).slots) := by
  refine MetFree.of_bodySF (plainFor_of_name pn_0) hisR ?_
  intro pr_ en_ st_ me_ args below meth_ co_ s₁ Bd hml0 hP hK
  obtain ⟨rfl, hZ, hh⟩ := hP
  have hx := Bd.exec
  have hby := Bd.bytes
  have hml : co_.maxLocals = 1 := hml0
  have hown : st_.vm.findClass "java/lang/StringLatin1" = some me_.cls := findClass_of_methodNamed Bd.named
  have hnm := (name_of_methodNamed Bd.named Bd.method).1
  have X0 : Stand pr_ l en_ ({ frames := 0, cells := 0, slots := 0, locals := 0 } : Room) st_ me_ #[(.int (42 : Int32))] below meth_ co_ s₁ [] 0 0 := Stand.of_body Bd
  have e0 : s₁.heap = h0 := by rw [← hh, Bd.state]; rfl
  have N0 := Fr.nil n0
  have K0 := Keep.refl h0 []
  obtain ⟨G, gv, gf, gb⟩ := own_G pr_.tables en_ below st_ (Q_canI42 Z  h0 n0) ({ frames := 0, cells := 0, slots := 0, locals := 0 } : Room).cells ({ frames := 0, cells := 0, slots := 0, locals := 0 } : Room).slots
  show own_Fin pr_.tables en_ below st_ (Q_canI42 Z  h0 n0) ({ frames := 0, cells := 0, slots := 0, locals := 0 } : Room).cells ({ frames := 0, cells := 0, slots := 0, locals := 0 } : Room).slots (s₁.setTop (entryFrame me_ #[(.int (42 : Int32))] 1))
  refine gb _ (gv (fun tQ kQ => castTop (ef_0 me_ (42 : Int32)) kQ) ?_)
  show G (s₁.setTop (mkF me_ 0 #[.val (.int (42 : Int32))] []))
  refine gv (fun tQ kQ => XS.iloadN X0.here hx rfl (hb hby d15_0) rfl kQ) ?_
  show G (s₁.setTop (mkF me_ 1 #[.val (.int (42 : Int32))] [(.int (42 : Int32))]))
  refine gv (fun tQ kQ => XS.ifNo X0.here hx rfl (hb hby d15_1) rfl ((if0 _ _).trans (flt (by decide : ¬ ((42 : Int32) < (0 : Int32)))).1) kQ) ?_
  show G (s₁.setTop (mkF me_ 4 #[.val (.int (42 : Int32))] []))
  refine gv (fun tQ kQ => XS.iloadN X0.here hx rfl (hb hby d15_4) rfl kQ) ?_
  show G (s₁.setTop (mkF me_ 5 #[.val (.int (42 : Int32))] [(.int (42 : Int32))]))
  refine gv (fun tQ kQ => XS.sipush X0.here hx rfl (hb hby d15_5) kQ) ?_
  show G (s₁.setTop (mkF me_ 8 #[.val (.int (42 : Int32))] [(.int (255 : Int32)), (.int (42 : Int32))]))
  refine gv (fun tQ kQ => XS.icmpNo X0.here hx rfl (hb hby d15_8) rfl (flt (by decide : ¬ ((255 : Int32) < (42 : Int32)))).2.2.1 kQ) ?_
  show G (s₁.setTop (mkF me_ 11 #[.val (.int (42 : Int32))] []))
  refine gv (fun tQ kQ => XS.iconst X0.here hx rfl (hb hby d15_11) kQ) ?_
  show G (s₁.setTop (mkF me_ 12 #[.val (.int (42 : Int32))] [(.int (1 : Int32))]))
  refine gv (fun tQ kQ => XS.goto X0.here hx rfl (pc0 := 12) (pc' := 16) rfl (hb hby d15_12) (by decide) (by decide) kQ) ?_
  show G (s₁.setTop (mkF me_ 16 #[.val (.int (42 : Int32))] [(.int (1 : Int32))]))
  refine gf _ (own_ret X0 Bd.notSynchronized (v := some (.int (1 : Int32))) (fun h => by rw [Bd.returns] at h; cases h) ?_ (by decide) (by decide) (fun fs hr => retN X0 hx (t := .boolean) Bd.returns (by simp) (hb hby d15_16) hr))
  show Q_canI42 Z  h0 n0 _ s₁.heap _
  rw [e0]
  exact ⟨rfl, N0, rfl⟩
theorem ef_5 (m : MethodId) (x0 : Int32) (x1 : Int32)  : entryFrame m #[(.int x0), (.int x1)] 2 = mkF m 0 #[.val (.int x0), .val (.int x1)] [] := by first | (simp [entryFrame, mkF, argsToLocals, Value.category]; done) | rfl
theorem d16_0 : decode jdk_29_method_65_code 0 = .ok (.iload_n 0, 1) := by decide +kernel
theorem d16_1 : decode jdk_29_method_65_code 1 = .ok (.iload_n 1, 1) := by decide +kernel
theorem d16_2 : decode jdk_29_method_65_code 2 = .ok (.if_icmp .lt 7, 3) := by decide +kernel
theorem d16_5 : decode jdk_29_method_65_code 5 = .ok (.iload_n 0, 1) := by decide +kernel
theorem d16_6 : decode jdk_29_method_65_code 6 = .ok (.goto 4, 3) := by decide +kernel
theorem d16_10 : decode jdk_29_method_65_code 10 = .ok (.ireturn, 1) := by decide +kernel
def Q_max_0_0 (Z : State)  (h0 : Heap) (n0 : Nat) (v : Option Value) (h : Heap) (L : List Loc) : Prop := v = some (.int (0 : Int32)) ∧ Fr n0 L ∧ h = h0
set_option maxRecDepth 65536 in
set_option maxHeartbeats 40000000 in
theorem rm_max_0_0 (l : Launch) (Z : State) (a0 : Array Value) (hw : ∀ d ∈ tables_1, d.before a0 Z = true) (ws : List Jvm.Cond)  (h0 : Heap) (n0 : Nat) (O0 : Old Z n0 h0)  :
    MetFree l (⟨"java/lang/Math", "max", "(II)I"⟩ : MethodName) (head1 (Jvm.Cond.code (⟨"java/lang/Math", "max", "(II)I"⟩ : MethodName) jdk_29_method_65_code 2 (some .int) :: ws) ({ frames := 0, cells := 0, slots := 0, locals := 0 } : Room)) (fun aV U => aV = #[(.int (0 : Int32)), (.int (0 : Int32))] ∧ Z.Warmed39 U.vm ∧ U.heap = h0) (fun _ _ _ _ _ => True) (fun _ U o U' => ∃ v L, o = .returned v ∧ Q_max_0_0 Z  h0 n0 v U'.heap L ∧ FrameEnd U o U' L ({ frames := 0, cells := 0, slots := 0, locals := 0 } : Room).cells ({ frames := 0, cells := 0, slots := 0, locals := 0 } : Room).slots) := by
  refine MetFree.of_bodySF (Jvm.Free.JP.mathPlain rfl (by decide +kernel)) hisR ?_
  intro pr_ en_ st_ me_ args below meth_ co_ s₁ Bd hml0 hP hK
  obtain ⟨rfl, hZ, hh⟩ := hP
  have hx := Bd.exec
  have hby := Bd.bytes
  have hml : co_.maxLocals = 2 := hml0
  have hown : st_.vm.findClass "java/lang/Math" = some me_.cls := findClass_of_methodNamed Bd.named
  have hnm := (name_of_methodNamed Bd.named Bd.method).1
  have X0 : Stand pr_ l en_ ({ frames := 0, cells := 0, slots := 0, locals := 0 } : Room) st_ me_ #[(.int (0 : Int32)), (.int (0 : Int32))] below meth_ co_ s₁ [] 0 0 := Stand.of_body Bd
  have e0 : s₁.heap = h0 := by rw [← hh, Bd.state]; rfl
  have N0 := Fr.nil n0
  have K0 := Keep.refl h0 []
  obtain ⟨G, gv, gf, gb⟩ := own_G pr_.tables en_ below st_ (Q_max_0_0 Z  h0 n0) ({ frames := 0, cells := 0, slots := 0, locals := 0 } : Room).cells ({ frames := 0, cells := 0, slots := 0, locals := 0 } : Room).slots
  show own_Fin pr_.tables en_ below st_ (Q_max_0_0 Z  h0 n0) ({ frames := 0, cells := 0, slots := 0, locals := 0 } : Room).cells ({ frames := 0, cells := 0, slots := 0, locals := 0 } : Room).slots (s₁.setTop (entryFrame me_ #[(.int (0 : Int32)), (.int (0 : Int32))] 2))
  refine gb _ (gv (fun tQ kQ => castTop (ef_5 me_ (0 : Int32) (0 : Int32)) kQ) ?_)
  show G (s₁.setTop (mkF me_ 0 #[.val (.int (0 : Int32)), .val (.int (0 : Int32))] []))
  refine gv (fun tQ kQ => XS.iloadN X0.here hx rfl (hb hby d16_0) rfl kQ) ?_
  show G (s₁.setTop (mkF me_ 1 #[.val (.int (0 : Int32)), .val (.int (0 : Int32))] [(.int (0 : Int32))]))
  refine gv (fun tQ kQ => XS.iloadN X0.here hx rfl (hb hby d16_1) rfl kQ) ?_
  show G (s₁.setTop (mkF me_ 2 #[.val (.int (0 : Int32)), .val (.int (0 : Int32))] [(.int (0 : Int32)), (.int (0 : Int32))]))
  refine gv (fun tQ kQ => XS.icmpNo X0.here hx rfl (hb hby d16_2) rfl (flt (by decide : ¬ ((0 : Int32) < (0 : Int32)))).1 kQ) ?_
  show G (s₁.setTop (mkF me_ 5 #[.val (.int (0 : Int32)), .val (.int (0 : Int32))] []))
  refine gv (fun tQ kQ => XS.iloadN X0.here hx rfl (hb hby d16_5) rfl kQ) ?_
  show G (s₁.setTop (mkF me_ 6 #[.val (.int (0 : Int32)), .val (.int (0 : Int32))] [(.int (0 : Int32))]))
  refine gv (fun tQ kQ => XS.goto X0.here hx rfl (pc0 := 6) (pc' := 10) rfl (hb hby d16_6) (by decide) (by decide) kQ) ?_
  show G (s₁.setTop (mkF me_ 10 #[.val (.int (0 : Int32)), .val (.int (0 : Int32))] [(.int (0 : Int32))]))
  refine gf _ (own_ret X0 Bd.notSynchronized (v := some (.int (0 : Int32))) (fun h => by rw [Bd.returns] at h; cases h) ?_ (by decide) (by decide) (fun fs hr => retOut X0 hx (t := .int) Bd.returns rfl (Or.inl ⟨rfl, Or.inl rfl, _, rfl⟩) (hb hby d16_10) hr))
  show Q_max_0_0 Z  h0 n0 _ s₁.heap _
  rw [e0]
  exact ⟨rfl, N0, rfl⟩
theorem d17_0 : decode jdk_29_method_69_code 0 = .ok (.iload_n 0, 1) := by decide +kernel
theorem d17_1 : decode jdk_29_method_69_code 1 = .ok (.iload_n 1, 1) := by decide +kernel
theorem d17_2 : decode jdk_29_method_69_code 2 = .ok (.if_icmp .gt 7, 3) := by decide +kernel
theorem d17_5 : decode jdk_29_method_69_code 5 = .ok (.iload_n 0, 1) := by decide +kernel
theorem d17_6 : decode jdk_29_method_69_code 6 = .ok (.goto 4, 3) := by decide +kernel
theorem d17_10 : decode jdk_29_method_69_code 10 = .ok (.ireturn, 1) := by decide +kernel
def Q_min_1_1 (Z : State)  (h0 : Heap) (n0 : Nat) (v : Option Value) (h : Heap) (L : List Loc) : Prop := v = some (.int (1 : Int32)) ∧ Fr n0 L ∧ h = h0
set_option maxRecDepth 65536 in
set_option maxHeartbeats 40000000 in
theorem rm_min_1_1 (l : Launch) (Z : State) (a0 : Array Value) (hw : ∀ d ∈ tables_1, d.before a0 Z = true) (ws : List Jvm.Cond)  (h0 : Heap) (n0 : Nat) (O0 : Old Z n0 h0)  :
    MetFree l (⟨"java/lang/Math", "min", "(II)I"⟩ : MethodName) (head1 (Jvm.Cond.code (⟨"java/lang/Math", "min", "(II)I"⟩ : MethodName) jdk_29_method_69_code 2 (some .int) :: ws) ({ frames := 0, cells := 0, slots := 0, locals := 0 } : Room)) (fun aV U => aV = #[(.int (1 : Int32)), (.int (1 : Int32))] ∧ Z.Warmed39 U.vm ∧ U.heap = h0) (fun _ _ _ _ _ => True) (fun _ U o U' => ∃ v L, o = .returned v ∧ Q_min_1_1 Z  h0 n0 v U'.heap L ∧ FrameEnd U o U' L ({ frames := 0, cells := 0, slots := 0, locals := 0 } : Room).cells ({ frames := 0, cells := 0, slots := 0, locals := 0 } : Room).slots) := by
  refine MetFree.of_bodySF (Jvm.Free.JP.mathPlain rfl (by decide +kernel)) hisR ?_
  intro pr_ en_ st_ me_ args below meth_ co_ s₁ Bd hml0 hP hK
  obtain ⟨rfl, hZ, hh⟩ := hP
  have hx := Bd.exec
  have hby := Bd.bytes
  have hml : co_.maxLocals = 2 := hml0
  have hown : st_.vm.findClass "java/lang/Math" = some me_.cls := findClass_of_methodNamed Bd.named
  have hnm := (name_of_methodNamed Bd.named Bd.method).1
  have X0 : Stand pr_ l en_ ({ frames := 0, cells := 0, slots := 0, locals := 0 } : Room) st_ me_ #[(.int (1 : Int32)), (.int (1 : Int32))] below meth_ co_ s₁ [] 0 0 := Stand.of_body Bd
  have e0 : s₁.heap = h0 := by rw [← hh, Bd.state]; rfl
  have N0 := Fr.nil n0
  have K0 := Keep.refl h0 []
  obtain ⟨G, gv, gf, gb⟩ := own_G pr_.tables en_ below st_ (Q_min_1_1 Z  h0 n0) ({ frames := 0, cells := 0, slots := 0, locals := 0 } : Room).cells ({ frames := 0, cells := 0, slots := 0, locals := 0 } : Room).slots
  show own_Fin pr_.tables en_ below st_ (Q_min_1_1 Z  h0 n0) ({ frames := 0, cells := 0, slots := 0, locals := 0 } : Room).cells ({ frames := 0, cells := 0, slots := 0, locals := 0 } : Room).slots (s₁.setTop (entryFrame me_ #[(.int (1 : Int32)), (.int (1 : Int32))] 2))
  refine gb _ (gv (fun tQ kQ => castTop (ef_5 me_ (1 : Int32) (1 : Int32)) kQ) ?_)
  show G (s₁.setTop (mkF me_ 0 #[.val (.int (1 : Int32)), .val (.int (1 : Int32))] []))
  refine gv (fun tQ kQ => XS.iloadN X0.here hx rfl (hb hby d17_0) rfl kQ) ?_
  show G (s₁.setTop (mkF me_ 1 #[.val (.int (1 : Int32)), .val (.int (1 : Int32))] [(.int (1 : Int32))]))
  refine gv (fun tQ kQ => XS.iloadN X0.here hx rfl (hb hby d17_1) rfl kQ) ?_
  show G (s₁.setTop (mkF me_ 2 #[.val (.int (1 : Int32)), .val (.int (1 : Int32))] [(.int (1 : Int32)), (.int (1 : Int32))]))
  refine gv (fun tQ kQ => XS.icmpNo X0.here hx rfl (hb hby d17_2) rfl (flt (by decide : ¬ ((1 : Int32) < (1 : Int32)))).2.2.1 kQ) ?_
  show G (s₁.setTop (mkF me_ 5 #[.val (.int (1 : Int32)), .val (.int (1 : Int32))] []))
  refine gv (fun tQ kQ => XS.iloadN X0.here hx rfl (hb hby d17_5) rfl kQ) ?_
  show G (s₁.setTop (mkF me_ 6 #[.val (.int (1 : Int32)), .val (.int (1 : Int32))] [(.int (1 : Int32))]))
  refine gv (fun tQ kQ => XS.goto X0.here hx rfl (pc0 := 6) (pc' := 10) rfl (hb hby d17_6) (by decide) (by decide) kQ) ?_
  show G (s₁.setTop (mkF me_ 10 #[.val (.int (1 : Int32)), .val (.int (1 : Int32))] [(.int (1 : Int32))]))
  refine gf _ (own_ret X0 Bd.notSynchronized (v := some (.int (1 : Int32))) (fun h => by rw [Bd.returns] at h; cases h) ?_ (by decide) (by decide) (fun fs hr => retOut X0 hx (t := .int) Bd.returns rfl (Or.inl ⟨rfl, Or.inl rfl, _, rfl⟩) (hb hby d17_10) hr))
  show Q_min_1_1 Z  h0 n0 _ s₁.heap _
  rw [e0]
  exact ⟨rfl, N0, rfl⟩
theorem d24_0 : decode jdk_52_method_6_code 0 = .ok (.aload_n 0, 1) := by decide +kernel
theorem d24_1 : decode jdk_52_method_6_code 1 = .ok (.arraylength, 1) := by decide +kernel
theorem d24_2 : decode jdk_52_method_6_code 2 = .ok (.iconst 1, 1) := by decide +kernel
theorem d24_3 : decode jdk_52_method_6_code 3 = .ok (.ishr, 1) := by decide +kernel
theorem d24_4 : decode jdk_52_method_6_code 4 = .ok (.ireturn, 1) := by decide +kernel
def Q_ulen (Z : State) (b : Addr) (k : ClassId) (x0 : Int32) (x1 : Int32) (h0 : Heap) (n0 : Nat) (v : Option Value) (h : Heap) (L : List Loc) : Prop := v = some (.int (1 : Int32)) ∧ Fr n0 L ∧ h = h0
set_option maxRecDepth 65536 in
set_option maxHeartbeats 40000000 in
theorem rm_ulen (l : Launch) (Z : State) (a0 : Array Value) (hw : ∀ d ∈ tables_1, d.before a0 Z = true) (ws : List Jvm.Cond) (b : Addr) (k : ClassId) (x0 : Int32) (x1 : Int32) (h0 : Heap) (n0 : Nat) (O0 : Old Z n0 h0) (u0 : Arv Z h0 b k .byte (2 : Int32) [(.int x0), (.int x1)] (.int (0 : Int32))) :
    MetFree l (⟨"java/lang/StringUTF16", "length", "([B)I"⟩ : MethodName) (head1 (Jvm.Cond.code (⟨"java/lang/StringUTF16", "length", "([B)I"⟩ : MethodName) jdk_52_method_6_code 1 (some .int) :: ws) ({ frames := 0, cells := 0, slots := 0, locals := 0 } : Room)) (fun aV U => aV = #[(.ref b)] ∧ Z.Warmed39 U.vm ∧ U.heap = h0) (fun _ _ _ _ _ => True) (fun _ U o U' => ∃ v L, o = .returned v ∧ Q_ulen Z b k x0 x1 h0 n0 v U'.heap L ∧ FrameEnd U o U' L ({ frames := 0, cells := 0, slots := 0, locals := 0 } : Room).cells ({ frames := 0, cells := 0, slots := 0, locals := 0 } : Room).slots) := by
  refine MetFree.of_bodySF (plainFor_of_name pn_2) hisR ?_
  intro pr_ en_ st_ me_ args below meth_ co_ s₁ Bd hml0 hP hK
  obtain ⟨rfl, hZ, hh⟩ := hP
  have hx := Bd.exec
  have hby := Bd.bytes
  have hml : co_.maxLocals = 1 := hml0
  have hown : st_.vm.findClass "java/lang/StringUTF16" = some me_.cls := findClass_of_methodNamed Bd.named
  have hnm := (name_of_methodNamed Bd.named Bd.method).1
  have X0 : Stand pr_ l en_ ({ frames := 0, cells := 0, slots := 0, locals := 0 } : Room) st_ me_ #[(.ref b)] below meth_ co_ s₁ [] 0 0 := Stand.of_body Bd
  have e0 : s₁.heap = h0 := by rw [← hh, Bd.state]; rfl
  have N0 := Fr.nil n0
  have K0 := Keep.refl h0 []
  obtain ⟨G, gv, gf, gb⟩ := own_G pr_.tables en_ below st_ (Q_ulen Z b k x0 x1 h0 n0) ({ frames := 0, cells := 0, slots := 0, locals := 0 } : Room).cells ({ frames := 0, cells := 0, slots := 0, locals := 0 } : Room).slots
  show own_Fin pr_.tables en_ below st_ (Q_ulen Z b k x0 x1 h0 n0) ({ frames := 0, cells := 0, slots := 0, locals := 0 } : Room).cells ({ frames := 0, cells := 0, slots := 0, locals := 0 } : Room).slots (s₁.setTop (entryFrame me_ #[(.ref b)] 1))
  refine gb _ (gv (fun tQ kQ => castTop (ef_4 me_ b) kQ) ?_)
  show G (s₁.setTop (mkF me_ 0 #[.val (.ref b)] []))
  refine gv (fun tQ kQ => XS.aloadN X0.here hx rfl (hb hby d24_0) rfl rfl kQ) ?_
  show G (s₁.setTop (mkF me_ 1 #[.val (.ref b)] [(.ref b)]))
  obtain ⟨cl132, Ar132, -, S132, n132, -, -⟩ := (id u0)
  refine gv (X0.arraylength hx (by rw [e0]; exact Ar132.1) (State.isArrayOf_alike hZ.alike Ar132.2.1) (g := (mkF me_ 1 #[.val (.ref b)] [(.ref b)])) rfl rfl (hb hby d24_1)) ?_
  rw [len_of S132 n132]
  show G (s₁.setTop (mkF me_ 2 #[.val (.ref b)] [(.int (2 : Int32))]))
  refine gv (fun tQ kQ => XS.iconst X0.here hx rfl (hb hby d24_2) kQ) ?_
  show G (s₁.setTop (mkF me_ 3 #[.val (.ref b)] [(.int (1 : Int32)), (.int (2 : Int32))]))
  refine gv (fun tQ kQ => XS.ishr X0.here hx rfl (hb hby d24_3) rfl kQ) ?_
  show G (s₁.setTop (mkF me_ 4 #[.val (.ref b)] [(.int ((2 : Int32) >>> ((1 : Int32) &&& 31)))]))
  rw [(by decide : ((2 : Int32) >>> ((1 : Int32) &&& 31)) = (1 : Int32))]
  show G (s₁.setTop (mkF me_ 4 #[.val (.ref b)] [(.int (1 : Int32))]))
  refine gf _ (own_ret X0 Bd.notSynchronized (v := some (.int (1 : Int32))) (fun h => by rw [Bd.returns] at h; cases h) ?_ (by decide) (by decide) (fun fs hr => retOut X0 hx (t := .int) Bd.returns rfl (Or.inl ⟨rfl, Or.inl rfl, _, rfl⟩) (hb hby d24_4) hr))
  show Q_ulen Z b k x0 x1 h0 n0 _ s₁.heap _
  rw [e0]
  exact ⟨rfl, N0, rfl⟩
theorem ef_6 (m : MethodId) (x0 : Int32) (x1 : Int32) (x2 : Int32) (x3 : Value) (hc3 : x3.isRef = true) : entryFrame m #[(.int x0), (.int x1), (.int x2), x3] 4 = mkF m 0 #[.val (.int x0), .val (.int x1), .val (.int x2), .val x3] [] := by rcases ref_cases hc3 with rfl | ⟨y3, rfl⟩ <;> first | (simp [entryFrame, mkF, argsToLocals, Value.category]; done) | rfl
theorem pn_3 : plainName "jdk/internal/util/Preconditions" = true := by first | (simp [plainName, overriddenIn]; done) | decide +kernel
theorem d26_0 : decode jdk_41_method_12_code 0 = .ok (.iload_n 0, 1) := by decide +kernel
theorem d26_1 : decode jdk_41_method_12_code 1 = .ok (.ifCond .lt 13, 3) := by decide +kernel
theorem d26_4 : decode jdk_41_method_12_code 4 = .ok (.iload_n 0, 1) := by decide +kernel
theorem d26_5 : decode jdk_41_method_12_code 5 = .ok (.iload_n 1, 1) := by decide +kernel
theorem d26_6 : decode jdk_41_method_12_code 6 = .ok (.if_icmp .gt 8, 3) := by decide +kernel
theorem d26_9 : decode jdk_41_method_12_code 9 = .ok (.iload_n 1, 1) := by decide +kernel
theorem d26_10 : decode jdk_41_method_12_code 10 = .ok (.iload_n 2, 1) := by decide +kernel
theorem d26_11 : decode jdk_41_method_12_code 11 = .ok (.if_icmp .le 11, 3) := by decide +kernel
theorem d26_22 : decode jdk_41_method_12_code 22 = .ok (.iload_n 0, 1) := by decide +kernel
theorem d26_23 : decode jdk_41_method_12_code 23 = .ok (.ireturn, 1) := by decide +kernel
def Q_cfti (Z : State) (fmt : Value) (h0 : Heap) (n0 : Nat) (v : Option Value) (h : Heap) (L : List Loc) : Prop := v = some (.int (0 : Int32)) ∧ Fr n0 L ∧ h = h0
set_option maxRecDepth 65536 in
set_option maxHeartbeats 40000000 in
theorem rm_cfti (l : Launch) (Z : State) (a0 : Array Value) (hw : ∀ d ∈ tables_1, d.before a0 Z = true) (ws : List Jvm.Cond) (fmt : Value) (h0 : Heap) (n0 : Nat) (O0 : Old Z n0 h0) (u0 : fmt.isRef = true) :
    MetFree l (⟨"jdk/internal/util/Preconditions", "checkFromToIndex", "(IIILjava/util/function/BiFunction;)I"⟩ : MethodName) (head1 (Jvm.Cond.code (⟨"jdk/internal/util/Preconditions", "checkFromToIndex", "(IIILjava/util/function/BiFunction;)I"⟩ : MethodName) jdk_41_method_12_code 4 (some .int) :: ws) ({ frames := 0, cells := 0, slots := 0, locals := 0 } : Room)) (fun aV U => aV = #[(.int (0 : Int32)), (.int (1 : Int32)), (.int (1 : Int32)), fmt] ∧ Z.Warmed39 U.vm ∧ U.heap = h0) (fun _ _ _ _ _ => True) (fun _ U o U' => ∃ v L, o = .returned v ∧ Q_cfti Z fmt h0 n0 v U'.heap L ∧ FrameEnd U o U' L ({ frames := 0, cells := 0, slots := 0, locals := 0 } : Room).cells ({ frames := 0, cells := 0, slots := 0, locals := 0 } : Room).slots) := by
  refine MetFree.of_bodySF (plainFor_of_name pn_3) hisR ?_
  intro pr_ en_ st_ me_ args below meth_ co_ s₁ Bd hml0 hP hK
  obtain ⟨rfl, hZ, hh⟩ := hP
  have hx := Bd.exec
  have hby := Bd.bytes
  have hml : co_.maxLocals = 4 := hml0
  have hown : st_.vm.findClass "jdk/internal/util/Preconditions" = some me_.cls := findClass_of_methodNamed Bd.named
  have hnm := (name_of_methodNamed Bd.named Bd.method).1
  have X0 : Stand pr_ l en_ ({ frames := 0, cells := 0, slots := 0, locals := 0 } : Room) st_ me_ #[(.int (0 : Int32)), (.int (1 : Int32)), (.int (1 : Int32)), fmt] below meth_ co_ s₁ [] 0 0 := Stand.of_body Bd
  have e0 : s₁.heap = h0 := by rw [← hh, Bd.state]; rfl
  have N0 := Fr.nil n0
  have K0 := Keep.refl h0 []
  obtain ⟨G, gv, gf, gb⟩ := own_G pr_.tables en_ below st_ (Q_cfti Z fmt h0 n0) ({ frames := 0, cells := 0, slots := 0, locals := 0 } : Room).cells ({ frames := 0, cells := 0, slots := 0, locals := 0 } : Room).slots
  show own_Fin pr_.tables en_ below st_ (Q_cfti Z fmt h0 n0) ({ frames := 0, cells := 0, slots := 0, locals := 0 } : Room).cells ({ frames := 0, cells := 0, slots := 0, locals := 0 } : Room).slots (s₁.setTop (entryFrame me_ #[(.int (0 : Int32)), (.int (1 : Int32)), (.int (1 : Int32)), fmt] 4))
  refine gb _ (gv (fun tQ kQ => castTop (ef_6 me_ (0 : Int32) (1 : Int32) (1 : Int32) fmt u0) kQ) ?_)
  show G (s₁.setTop (mkF me_ 0 #[.val (.int (0 : Int32)), .val (.int (1 : Int32)), .val (.int (1 : Int32)), .val fmt] []))
  refine gv (fun tQ kQ => XS.iloadN X0.here hx rfl (hb hby d26_0) rfl kQ) ?_
  show G (s₁.setTop (mkF me_ 1 #[.val (.int (0 : Int32)), .val (.int (1 : Int32)), .val (.int (1 : Int32)), .val fmt] [(.int (0 : Int32))]))
  refine gv (fun tQ kQ => XS.ifNo X0.here hx rfl (hb hby d26_1) rfl ((if0 _ _).trans (flt (by decide : ¬ ((0 : Int32) < (0 : Int32)))).1) kQ) ?_
  show G (s₁.setTop (mkF me_ 4 #[.val (.int (0 : Int32)), .val (.int (1 : Int32)), .val (.int (1 : Int32)), .val fmt] []))
  refine gv (fun tQ kQ => XS.iloadN X0.here hx rfl (hb hby d26_4) rfl kQ) ?_
  show G (s₁.setTop (mkF me_ 5 #[.val (.int (0 : Int32)), .val (.int (1 : Int32)), .val (.int (1 : Int32)), .val fmt] [(.int (0 : Int32))]))
  refine gv (fun tQ kQ => XS.iloadN X0.here hx rfl (hb hby d26_5) rfl kQ) ?_
  show G (s₁.setTop (mkF me_ 6 #[.val (.int (0 : Int32)), .val (.int (1 : Int32)), .val (.int (1 : Int32)), .val fmt] [(.int (1 : Int32)), (.int (0 : Int32))]))
  refine gv (fun tQ kQ => XS.icmpNo X0.here hx rfl (hb hby d26_6) rfl (flt (by decide : ¬ ((1 : Int32) < (0 : Int32)))).2.2.1 kQ) ?_
  show G (s₁.setTop (mkF me_ 9 #[.val (.int (0 : Int32)), .val (.int (1 : Int32)), .val (.int (1 : Int32)), .val fmt] []))
  refine gv (fun tQ kQ => XS.iloadN X0.here hx rfl (hb hby d26_9) rfl kQ) ?_
  show G (s₁.setTop (mkF me_ 10 #[.val (.int (0 : Int32)), .val (.int (1 : Int32)), .val (.int (1 : Int32)), .val fmt] [(.int (1 : Int32))]))
  refine gv (fun tQ kQ => XS.iloadN X0.here hx rfl (hb hby d26_10) rfl kQ) ?_
  show G (s₁.setTop (mkF me_ 11 #[.val (.int (0 : Int32)), .val (.int (1 : Int32)), .val (.int (1 : Int32)), .val fmt] [(.int (1 : Int32)), (.int (1 : Int32))]))
  refine gv (fun tQ kQ => XS.icmpYes X0.here hx rfl (pc0 := 11) (pc' := 22) rfl (hb hby d26_11) rfl (flt (by decide : ¬ ((1 : Int32) < (1 : Int32)))).2.2.2 (by decide) (by decide) kQ) ?_
  show G (s₁.setTop (mkF me_ 22 #[.val (.int (0 : Int32)), .val (.int (1 : Int32)), .val (.int (1 : Int32)), .val fmt] []))
  refine gv (fun tQ kQ => XS.iloadN X0.here hx rfl (hb hby d26_22) rfl kQ) ?_
  show G (s₁.setTop (mkF me_ 23 #[.val (.int (0 : Int32)), .val (.int (1 : Int32)), .val (.int (1 : Int32)), .val fmt] [(.int (0 : Int32))]))
  refine gf _ (own_ret X0 Bd.notSynchronized (v := some (.int (0 : Int32))) (fun h => by rw [Bd.returns] at h; cases h) ?_ (by decide) (by decide) (fun fs hr => retOut X0 hx (t := .int) Bd.returns rfl (Or.inl ⟨rfl, Or.inl rfl, _, rfl⟩) (hb hby d26_23) hr))
  show Q_cfti Z fmt h0 n0 _ s₁.heap _
  rw [e0]
  exact ⟨rfl, N0, rfl⟩
theorem ef_7 (m : MethodId) (x0 : Int32) (x1 : Int32) (x2 : Int32)  : entryFrame m #[(.int x0), (.int x1), (.int x2)] 3 = mkF m 0 #[.val (.int x0), .val (.int x1), .val (.int x2)] [] := by first | (simp [entryFrame, mkF, argsToLocals, Value.category]; done) | rfl
theorem d25_0 : decode jdk_42_method_158_code 0 = .ok (.iload_n 0, 1) := by decide +kernel
theorem d25_1 : decode jdk_42_method_158_code 1 = .ok (.iload_n 1, 1) := by decide +kernel
theorem d25_2 : decode jdk_42_method_158_code 2 = .ok (.iload_n 2, 1) := by decide +kernel
theorem d25_3 : decode jdk_42_method_158_code 3 = .ok (.getstatic 1053, 3) := by decide +kernel
theorem d25_6 : decode jdk_42_method_158_code 6 = .ok (.invokestatic 1062, 3) := by decide +kernel
theorem pd_5 : parseMethodDescriptor "(IIILjava/util/function/BiFunction;)I" = some ⟨[.int, .int, .int, (.object "java/util/function/BiFunction")], some .int⟩ := by decide +kernel
theorem d25_9 : decode jdk_42_method_158_code 9 = .ok (.pop, 1) := by decide +kernel
theorem d25_10 : decode jdk_42_method_158_code 10 = .ok (.return_, 1) := by decide +kernel
def Q_cbe (Z : State) (fmt : Value) (h0 : Heap) (n0 : Nat) (v : Option Value) (h : Heap) (L : List Loc) : Prop := v = none ∧ Fr n0 L ∧ h = h0
set_option maxRecDepth 65536 in
set_option maxHeartbeats 40000000 in
theorem rm_cbe (l : Launch) (Z : State) (a0 : Array Value) (hw : ∀ d ∈ tables_1, d.before a0 Z = true) (ws : List Jvm.Cond) (fmt : Value) (h0 : Heap) (n0 : Nat) (O0 : Old Z n0 h0) (u0 : fmt.isRef = true) (u1 : Sta Z Z.heap "jdk/internal/util/Preconditions" "SIOOBE_FORMATTER" "Ljava/util/function/BiFunction;" fmt) :
    MetFree l (⟨"java/lang/String", "checkBoundsBeginEnd", "(III)V"⟩ : MethodName) (head1 (Jvm.Cond.code (⟨"java/lang/String", "checkBoundsBeginEnd", "(III)V"⟩ : MethodName) jdk_42_method_158_code 3 none :: ws) ({ frames := 1, cells := 0, slots := 0, locals := 15 } : Room)) (fun aV U => aV = #[(.int (0 : Int32)), (.int (1 : Int32)), (.int (1 : Int32))] ∧ Z.Warmed39 U.vm ∧ U.heap = h0) (fun _ _ _ _ _ => True) (fun _ U o U' => ∃ v L, o = .returned v ∧ Q_cbe Z fmt h0 n0 v U'.heap L ∧ FrameEnd U o U' L ({ frames := 1, cells := 0, slots := 0, locals := 15 } : Room).cells ({ frames := 1, cells := 0, slots := 0, locals := 15 } : Room).slots) := by
  refine MetFree.of_bodySF (plainFor_of_name pn_1) hisR ?_
  intro pr_ en_ st_ me_ args below meth_ co_ s₁ Bd hml0 hP hK
  obtain ⟨rfl, hZ, hh⟩ := hP
  have hx := Bd.exec
  have hby := Bd.bytes
  have hml : co_.maxLocals = 3 := hml0
  have hown : st_.vm.findClass "java/lang/String" = some me_.cls := findClass_of_methodNamed Bd.named
  have hnm := (name_of_methodNamed Bd.named Bd.method).1
  have X0 : Stand pr_ l en_ ({ frames := 1, cells := 0, slots := 0, locals := 15 } : Room) st_ me_ #[(.int (0 : Int32)), (.int (1 : Int32)), (.int (1 : Int32))] below meth_ co_ s₁ [] 0 0 := Stand.of_body Bd
  have e0 : s₁.heap = h0 := by rw [← hh, Bd.state]; rfl
  have N0 := Fr.nil n0
  have K0 := Keep.refl h0 []
  obtain ⟨G, gv, gf, gb⟩ := own_G pr_.tables en_ below st_ (Q_cbe Z fmt h0 n0) ({ frames := 1, cells := 0, slots := 0, locals := 15 } : Room).cells ({ frames := 1, cells := 0, slots := 0, locals := 15 } : Room).slots
  show own_Fin pr_.tables en_ below st_ (Q_cbe Z fmt h0 n0) ({ frames := 1, cells := 0, slots := 0, locals := 15 } : Room).cells ({ frames := 1, cells := 0, slots := 0, locals := 15 } : Room).slots (s₁.setTop (entryFrame me_ #[(.int (0 : Int32)), (.int (1 : Int32)), (.int (1 : Int32))] 3))
  refine gb _ (gv (fun tQ kQ => castTop (ef_7 me_ (0 : Int32) (1 : Int32) (1 : Int32)) kQ) ?_)
  show G (s₁.setTop (mkF me_ 0 #[.val (.int (0 : Int32)), .val (.int (1 : Int32)), .val (.int (1 : Int32))] []))
  refine gv (fun tQ kQ => XS.iloadN X0.here hx rfl (hb hby d25_0) rfl kQ) ?_
  show G (s₁.setTop (mkF me_ 1 #[.val (.int (0 : Int32)), .val (.int (1 : Int32)), .val (.int (1 : Int32))] [(.int (0 : Int32))]))
  refine gv (fun tQ kQ => XS.iloadN X0.here hx rfl (hb hby d25_1) rfl kQ) ?_
  show G (s₁.setTop (mkF me_ 2 #[.val (.int (0 : Int32)), .val (.int (1 : Int32)), .val (.int (1 : Int32))] [(.int (1 : Int32)), (.int (0 : Int32))]))
  refine gv (fun tQ kQ => XS.iloadN X0.here hx rfl (hb hby d25_2) rfl kQ) ?_
  show G (s₁.setTop (mkF me_ 3 #[.val (.int (0 : Int32)), .val (.int (1 : Int32)), .val (.int (1 : Int32))] [(.int (1 : Int32)), (.int (1 : Int32)), (.int (0 : Int32))]))
  obtain ⟨T133, X133, e133, st133⟩ := getS2 X0 hx hZ hown (host := "") (Or.inl (hw _ (List.mem_of_getElem? (i := 107) rfl))) Via.refl e0 (u1.ext O0.2) (g := (mkF me_ 3 #[.val (.int (0 : Int32)), .val (.int (1 : Int32)), .val (.int (1 : Int32))] [(.int (1 : Int32)), (.int (1 : Int32)), (.int (0 : Int32))])) rfl (hb hby d25_3)
  refine gv st133 ?_
  show G (T133.setTop (mkF me_ 6 #[.val (.int (0 : Int32)), .val (.int (1 : Int32)), .val (.int (1 : Int32))] [fmt, (.int (1 : Int32)), (.int (1 : Int32)), (.int (0 : Int32))]))
  obtain ⟨_, _, ⟨T134, L134, k134, n134⟩, -, X134, ⟨Lc134, hQ134, l134, y134, z134⟩, st134⟩ := Jvm.LawKit.callS X133 hx (y := (⟨"jdk/internal/util/Preconditions", "checkFromToIndex", "(IIILjava/util/function/BiFunction;)I"⟩ : MethodName)) hown (mvT hZ (hw _ (List.mem_of_getElem? (i := 109) rfl))) (mvT hZ (hw _ (List.mem_of_getElem? (i := 110) rfl))) (mvT hZ (hw _ (List.mem_of_getElem? (i := 108) rfl))) (mvT hZ (hw _ (List.mem_of_getElem? (i := 111) rfl))) (by decide) (backOf (W := 0) (rm_cfti l Z a0 hw [] fmt h0 n0 O0 u0) hZ (hw _ (List.mem_of_getElem? (i := 111) rfl)) (hw _ (List.mem_of_getElem? (i := 108) rfl)) (by decide) (by decide)) (g := (mkF me_ 6 #[.val (.int (0 : Int32)), .val (.int (1 : Int32)), .val (.int (1 : Int32))] [fmt, (.int (1 : Int32)), (.int (1 : Int32)), (.int (0 : Int32))])) rfl (by rw [hml]; rfl) (argsL := [(.int (0 : Int32)), (.int (1 : Int32)), (.int (1 : Int32)), fmt]) (rest := []) (lenOf pd_5 rfl) rfl (by show 2 * 0 + _ ≤ _; exact Nat.le_of_eq rfl) (hb hby d25_6) (fun _ _ => ⟨rfl, e133, (by decide : 0 + 0 ≤ _), (by decide : 0 + 0 ≤ _)⟩)
  dsimp only [Pt.U, Pt.locs, Pt.cells, Pt.slots] at X134 l134 y134 z134 st134 hQ134
  subst l134 y134 z134
  obtain ⟨rfl, Nq134, eq134⟩ := hQ134
  have N135 := Fr.app N0 Nq134
  refine gv st134 ?_
  show G (T134.setTop (mkF me_ 9 #[.val (.int (0 : Int32)), .val (.int (1 : Int32)), .val (.int (1 : Int32))] [(.int (0 : Int32))]))
  refine gv (fun tQ kQ => XS.pop X134.here hx rfl (hb hby d25_9) rfl rfl kQ) ?_
  show G (T134.setTop (mkF me_ 10 #[.val (.int (0 : Int32)), .val (.int (1 : Int32)), .val (.int (1 : Int32))] []))
  refine gf _ (own_ret X134 Bd.notSynchronized (v := none) (fun _ => rfl) ?_ (by decide) (by decide) (fun fs hr => X134.returnOut hx Bd.returns (hb hby d25_10) hr))
  show Q_cbe Z fmt h0 n0 _ T134.heap _
  rw [eq134]
  exact ⟨rfl, N135, rfl⟩
theorem ef_8 (m : MethodId) (x0 : Int32) (x1 : Int32) (x2 : Addr)  : entryFrame m #[(.int x0), (.int x1), (.ref x2)] 3 = mkF m 0 #[.val (.int x0), .val (.int x1), .val (.ref x2)] [] := by first | (simp [entryFrame, mkF, argsToLocals, Value.category]; done) | rfl
theorem d23_0 : decode jdk_52_method_93_code 0 = .ok (.iload_n 0, 1) := by decide +kernel
theorem d23_1 : decode jdk_52_method_93_code 1 = .ok (.iload_n 1, 1) := by decide +kernel
theorem d23_2 : decode jdk_52_method_93_code 2 = .ok (.aload_n 2, 1) := by decide +kernel
theorem d23_3 : decode jdk_52_method_93_code 3 = .ok (.invokestatic 48, 3) := by decide +kernel
theorem pd_6 : parseMethodDescriptor "([B)I" = some ⟨[(.array .byte)], some .int⟩ := by decide +kernel
theorem d23_6 : decode jdk_52_method_93_code 6 = .ok (.invokestatic 241, 3) := by decide +kernel
theorem pd_7 : parseMethodDescriptor "(III)V" = some ⟨[.int, .int, .int], none⟩ := by decide +kernel
theorem d23_9 : decode jdk_52_method_93_code 9 = .ok (.return_, 1) := by decide +kernel
def Q_ucbe (Z : State) (b : Addr) (k : ClassId) (x0 : Int32) (x1 : Int32) (fmt : Value) (h0 : Heap) (n0 : Nat) (v : Option Value) (h : Heap) (L : List Loc) : Prop := v = none ∧ Fr n0 L ∧ h = h0
set_option maxRecDepth 65536 in
set_option maxHeartbeats 40000000 in
theorem rm_ucbe (l : Launch) (Z : State) (a0 : Array Value) (hw : ∀ d ∈ tables_1, d.before a0 Z = true) (ws : List Jvm.Cond) (b : Addr) (k : ClassId) (x0 : Int32) (x1 : Int32) (fmt : Value) (h0 : Heap) (n0 : Nat) (O0 : Old Z n0 h0) (u0 : fmt.isRef = true) (u1 : Sta Z Z.heap "jdk/internal/util/Preconditions" "SIOOBE_FORMATTER" "Ljava/util/function/BiFunction;" fmt) (u2 : Arv Z h0 b k .byte (2 : Int32) [(.int x0), (.int x1)] (.int (0 : Int32))) :
    MetFree l (⟨"java/lang/StringUTF16", "checkBoundsBeginEnd", "(II[B)V"⟩ : MethodName) (head1 (Jvm.Cond.code (⟨"java/lang/StringUTF16", "checkBoundsBeginEnd", "(II[B)V"⟩ : MethodName) jdk_52_method_93_code 3 none :: ws) ({ frames := 2, cells := 0, slots := 0, locals := 29 } : Room)) (fun aV U => aV = #[(.int (0 : Int32)), (.int (1 : Int32)), (.ref b)] ∧ Z.Warmed39 U.vm ∧ U.heap = h0) (fun _ _ _ _ _ => True) (fun _ U o U' => ∃ v L, o = .returned v ∧ Q_ucbe Z b k x0 x1 fmt h0 n0 v U'.heap L ∧ FrameEnd U o U' L ({ frames := 2, cells := 0, slots := 0, locals := 29 } : Room).cells ({ frames := 2, cells := 0, slots := 0, locals := 29 } : Room).slots) := by
  refine MetFree.of_bodySF (plainFor_of_name pn_2) hisR ?_
  intro pr_ en_ st_ me_ args below meth_ co_ s₁ Bd hml0 hP hK
  obtain ⟨rfl, hZ, hh⟩ := hP
  have hx := Bd.exec
  have hby := Bd.bytes
  have hml : co_.maxLocals = 3 := hml0
  have hown : st_.vm.findClass "java/lang/StringUTF16" = some me_.cls := findClass_of_methodNamed Bd.named
  have hnm := (name_of_methodNamed Bd.named Bd.method).1
  have X0 : Stand pr_ l en_ ({ frames := 2, cells := 0, slots := 0, locals := 29 } : Room) st_ me_ #[(.int (0 : Int32)), (.int (1 : Int32)), (.ref b)] below meth_ co_ s₁ [] 0 0 := Stand.of_body Bd
  have e0 : s₁.heap = h0 := by rw [← hh, Bd.state]; rfl
  have N0 := Fr.nil n0
  have K0 := Keep.refl h0 []
  obtain ⟨G, gv, gf, gb⟩ := own_G pr_.tables en_ below st_ (Q_ucbe Z b k x0 x1 fmt h0 n0) ({ frames := 2, cells := 0, slots := 0, locals := 29 } : Room).cells ({ frames := 2, cells := 0, slots := 0, locals := 29 } : Room).slots
  show own_Fin pr_.tables en_ below st_ (Q_ucbe Z b k x0 x1 fmt h0 n0) ({ frames := 2, cells := 0, slots := 0, locals := 29 } : Room).cells ({ frames := 2, cells := 0, slots := 0, locals := 29 } : Room).slots (s₁.setTop (entryFrame me_ #[(.int (0 : Int32)), (.int (1 : Int32)), (.ref b)] 3))
  refine gb _ (gv (fun tQ kQ => castTop (ef_8 me_ (0 : Int32) (1 : Int32) b) kQ) ?_)
  show G (s₁.setTop (mkF me_ 0 #[.val (.int (0 : Int32)), .val (.int (1 : Int32)), .val (.ref b)] []))
  refine gv (fun tQ kQ => XS.iloadN X0.here hx rfl (hb hby d23_0) rfl kQ) ?_
  show G (s₁.setTop (mkF me_ 1 #[.val (.int (0 : Int32)), .val (.int (1 : Int32)), .val (.ref b)] [(.int (0 : Int32))]))
  refine gv (fun tQ kQ => XS.iloadN X0.here hx rfl (hb hby d23_1) rfl kQ) ?_
  show G (s₁.setTop (mkF me_ 2 #[.val (.int (0 : Int32)), .val (.int (1 : Int32)), .val (.ref b)] [(.int (1 : Int32)), (.int (0 : Int32))]))
  refine gv (fun tQ kQ => XS.aloadN X0.here hx rfl (hb hby d23_2) rfl rfl kQ) ?_
  show G (s₁.setTop (mkF me_ 3 #[.val (.int (0 : Int32)), .val (.int (1 : Int32)), .val (.ref b)] [(.ref b), (.int (1 : Int32)), (.int (0 : Int32))]))
  obtain ⟨_, _, ⟨T136, L136, k136, n136⟩, -, X136, ⟨Lc136, hQ136, l136, y136, z136⟩, st136⟩ := Jvm.LawKit.callS X0 hx (y := (⟨"java/lang/StringUTF16", "length", "([B)I"⟩ : MethodName)) hown (mvT hZ (hw _ (List.mem_of_getElem? (i := 101) rfl))) (mvT hZ (hw _ (List.mem_of_getElem? (i := 102) rfl))) (mvT hZ (hw _ (List.mem_of_getElem? (i := 81) rfl))) (mvT hZ (hw _ (List.mem_of_getElem? (i := 103) rfl))) (by decide) (backOf (W := 2) (rm_ulen l Z a0 hw [] b k x0 x1 h0 n0 O0 u2) hZ (hw _ (List.mem_of_getElem? (i := 103) rfl)) (hw _ (List.mem_of_getElem? (i := 81) rfl)) (by decide) (by decide)) (g := (mkF me_ 3 #[.val (.int (0 : Int32)), .val (.int (1 : Int32)), .val (.ref b)] [(.ref b), (.int (1 : Int32)), (.int (0 : Int32))])) rfl (by rw [hml]; rfl) (argsL := [(.ref b)]) (rest := [(.int (1 : Int32)), (.int (0 : Int32))]) (lenOf pd_6 rfl) rfl (by show 2 * 0 + _ ≤ _; exact Nat.le_of_eq rfl) (hb hby d23_3) (fun _ _ => ⟨rfl, e0, (by decide : 0 + 0 ≤ _), (by decide : 0 + 0 ≤ _)⟩)
  dsimp only [Pt.U, Pt.locs, Pt.cells, Pt.slots] at X136 l136 y136 z136 st136 hQ136
  subst l136 y136 z136
  obtain ⟨rfl, Nq136, eq136⟩ := hQ136
  have N137 := Fr.app N0 Nq136
  refine gv st136 ?_
  show G (T136.setTop (mkF me_ 6 #[.val (.int (0 : Int32)), .val (.int (1 : Int32)), .val (.ref b)] [(.int (1 : Int32)), (.int (1 : Int32)), (.int (0 : Int32))]))
  obtain ⟨_, _, ⟨T138, L138, k138, n138⟩, -, X138, ⟨Lc138, hQ138, l138, y138, z138⟩, st138⟩ := Jvm.LawKit.callS X136 hx (y := (⟨"java/lang/String", "checkBoundsBeginEnd", "(III)V"⟩ : MethodName)) hown (mvT hZ (hw _ (List.mem_of_getElem? (i := 104) rfl))) (mvT hZ (hw _ (List.mem_of_getElem? (i := 105) rfl))) (mvT hZ (hw _ (List.mem_of_getElem? (i := 11) rfl))) (mvT hZ (hw _ (List.mem_of_getElem? (i := 106) rfl))) (by decide) (backOf (W := 0) (rm_cbe l Z a0 hw [] fmt h0 n0 O0 u0 u1) hZ (hw _ (List.mem_of_getElem? (i := 106) rfl)) (hw _ (List.mem_of_getElem? (i := 11) rfl)) (by decide) (by decide)) (g := (mkF me_ 6 #[.val (.int (0 : Int32)), .val (.int (1 : Int32)), .val (.ref b)] [(.int (1 : Int32)), (.int (1 : Int32)), (.int (0 : Int32))])) rfl (by rw [hml]; rfl) (argsL := [(.int (0 : Int32)), (.int (1 : Int32)), (.int (1 : Int32))]) (rest := []) (lenOf pd_7 rfl) rfl (by show 2 * 0 + _ ≤ _; exact Nat.le_of_eq rfl) (hb hby d23_6) (fun _ _ => ⟨rfl, eq136, (by decide : 0 + 0 ≤ _), (by decide : 0 + 0 ≤ _)⟩)
  dsimp only [Pt.U, Pt.locs, Pt.cells, Pt.slots] at X138 l138 y138 z138 st138 hQ138
  subst l138 y138 z138
  obtain ⟨rfl, Nq138, eq138⟩ := hQ138
  have N139 := Fr.app N137 Nq138
  refine gv st138 ?_
  show G (T138.setTop (mkF me_ 9 #[.val (.int (0 : Int32)), .val (.int (1 : Int32)), .val (.ref b)] []))
  refine gf _ (own_ret X138 Bd.notSynchronized (v := none) (fun _ => rfl) ?_ (by decide) (by decide) (fun fs hr => X138.returnOut hx Bd.returns (hb hby d23_9) hr))
  show Q_ucbe Z b k x0 x1 fmt h0 n0 _ T138.heap _
  rw [eq138]
  exact ⟨rfl, N139, rfl⟩
theorem ef_9 (m : MethodId) (x0 : Addr) (x1 : Int32)  : entryFrame m #[(.ref x0), (.int x1)] 2 = mkF m 0 #[.val (.ref x0), .val (.int x1)] [] := by first | (simp [entryFrame, mkF, argsToLocals, Value.category]; done) | rfl
theorem d28_0 : decode jdk_52_method_5_code 0 = .ok (.getstatic 44, 3) := by decide +kernel
theorem d28_3 : decode jdk_52_method_5_code 3 = .ok (.ifCond .ne 25, 3) := by decide +kernel
theorem d28_28 : decode jdk_52_method_5_code 28 = .ok (.iload_n 1, 1) := by decide +kernel
theorem d28_29 : decode jdk_52_method_5_code 29 = .ok (.iconst 1, 1) := by decide +kernel
theorem d28_30 : decode jdk_52_method_5_code 30 = .ok (.ishl, 1) := by decide +kernel
theorem d28_31 : decode jdk_52_method_5_code 31 = .ok (.istore_n 1, 1) := by decide +kernel
theorem d28_32 : decode jdk_52_method_5_code 32 = .ok (.aload_n 0, 1) := by decide +kernel
theorem d28_33 : decode jdk_52_method_5_code 33 = .ok (.iload_n 1, 1) := by decide +kernel
theorem d28_34 : decode jdk_52_method_5_code 34 = .ok (.iinc 1 1, 3) := by decide +kernel
theorem d28_37 : decode jdk_52_method_5_code 37 = .ok (.baload, 1) := by decide +kernel
theorem d28_38 : decode jdk_52_method_5_code 38 = .ok (.sipush 255, 3) := by decide +kernel
theorem d28_41 : decode jdk_52_method_5_code 41 = .ok (.iand, 1) := by decide +kernel
theorem d28_42 : decode jdk_52_method_5_code 42 = .ok (.getstatic 59, 3) := by decide +kernel
theorem d28_45 : decode jdk_52_method_5_code 45 = .ok (.ishl, 1) := by decide +kernel
theorem d28_46 : decode jdk_52_method_5_code 46 = .ok (.aload_n 0, 1) := by decide +kernel
theorem d28_47 : decode jdk_52_method_5_code 47 = .ok (.iload_n 1, 1) := by decide +kernel
theorem d28_48 : decode jdk_52_method_5_code 48 = .ok (.baload, 1) := by decide +kernel
theorem d28_49 : decode jdk_52_method_5_code 49 = .ok (.sipush 255, 3) := by decide +kernel
theorem d28_52 : decode jdk_52_method_5_code 52 = .ok (.iand, 1) := by decide +kernel
theorem d28_53 : decode jdk_52_method_5_code 53 = .ok (.getstatic 63, 3) := by decide +kernel
theorem d28_56 : decode jdk_52_method_5_code 56 = .ok (.ishl, 1) := by decide +kernel
theorem d28_57 : decode jdk_52_method_5_code 57 = .ok (.ior, 1) := by decide +kernel
theorem d28_58 : decode jdk_52_method_5_code 58 = .ok (.i2c, 1) := by decide +kernel
theorem d28_59 : decode jdk_52_method_5_code 59 = .ok (.ireturn, 1) := by decide +kernel
def Q_getc (Z : State) (b : Addr) (k : ClassId) (x0 : Int32) (x1 : Int32) (w : Int32) (h0 : Heap) (n0 : Nat) (v : Option Value) (h : Heap) (L : List Loc) : Prop := v = some (.int w) ∧ Fr n0 L ∧ h = h0
set_option maxRecDepth 65536 in
set_option maxHeartbeats 40000000 in
theorem rm_getc (l : Launch) (Z : State) (a0 : Array Value) (hw : ∀ d ∈ tables_1, d.before a0 Z = true) (ws : List Jvm.Cond) (b : Addr) (k : ClassId) (x0 : Int32) (x1 : Int32) (w : Int32) (h0 : Heap) (n0 : Nat) (O0 : Old Z n0 h0) (u0 : own_gc x0 x1 = w) (u1 : Sta Z Z.heap "java/lang/StringUTF16" "$assertionsDisabled" "Z" (.int (1 : Int32))) (u2 : Sta Z Z.heap "java/lang/StringUTF16" "HI_BYTE_SHIFT" "I" (.int (0 : Int32))) (u3 : Sta Z Z.heap "java/lang/StringUTF16" "LO_BYTE_SHIFT" "I" (.int (8 : Int32))) (u4 : Arv Z h0 b k .byte (2 : Int32) [(.int x0), (.int x1)] (.int (0 : Int32))) :
    MetFree l (⟨"java/lang/StringUTF16", "getChar", "([BI)C"⟩ : MethodName) (head1 (Jvm.Cond.code (⟨"java/lang/StringUTF16", "getChar", "([BI)C"⟩ : MethodName) jdk_52_method_5_code 2 (some .char) :: ws) ({ frames := 0, cells := 0, slots := 0, locals := 0 } : Room)) (fun aV U => aV = #[(.ref b), (.int (0 : Int32))] ∧ Z.Warmed39 U.vm ∧ U.heap = h0) (fun _ _ _ _ _ => True) (fun _ U o U' => ∃ v L, o = .returned v ∧ Q_getc Z b k x0 x1 w h0 n0 v U'.heap L ∧ FrameEnd U o U' L ({ frames := 0, cells := 0, slots := 0, locals := 0 } : Room).cells ({ frames := 0, cells := 0, slots := 0, locals := 0 } : Room).slots) := by
  refine MetFree.of_bodySF (plainFor_of_name pn_2) hisR ?_
  intro pr_ en_ st_ me_ args below meth_ co_ s₁ Bd hml0 hP hK
  obtain ⟨rfl, hZ, hh⟩ := hP
  have hx := Bd.exec
  have hby := Bd.bytes
  have hml : co_.maxLocals = 2 := hml0
  have hown : st_.vm.findClass "java/lang/StringUTF16" = some me_.cls := findClass_of_methodNamed Bd.named
  have hnm := (name_of_methodNamed Bd.named Bd.method).1
  have X0 : Stand pr_ l en_ ({ frames := 0, cells := 0, slots := 0, locals := 0 } : Room) st_ me_ #[(.ref b), (.int (0 : Int32))] below meth_ co_ s₁ [] 0 0 := Stand.of_body Bd
  have e0 : s₁.heap = h0 := by rw [← hh, Bd.state]; rfl
  have N0 := Fr.nil n0
  have K0 := Keep.refl h0 []
  obtain ⟨G, gv, gf, gb⟩ := own_G pr_.tables en_ below st_ (Q_getc Z b k x0 x1 w h0 n0) ({ frames := 0, cells := 0, slots := 0, locals := 0 } : Room).cells ({ frames := 0, cells := 0, slots := 0, locals := 0 } : Room).slots
  show own_Fin pr_.tables en_ below st_ (Q_getc Z b k x0 x1 w h0 n0) ({ frames := 0, cells := 0, slots := 0, locals := 0 } : Room).cells ({ frames := 0, cells := 0, slots := 0, locals := 0 } : Room).slots (s₁.setTop (entryFrame me_ #[(.ref b), (.int (0 : Int32))] 2))
  refine gb _ (gv (fun tQ kQ => castTop (ef_9 me_ b (0 : Int32)) kQ) ?_)
  show G (s₁.setTop (mkF me_ 0 #[.val (.ref b), .val (.int (0 : Int32))] []))
  obtain ⟨T140, X140, e140, st140⟩ := getS2 X0 hx hZ hown (host := "") (Or.inl (hw _ (List.mem_of_getElem? (i := 86) rfl))) Via.refl e0 (u1.ext O0.2) (g := (mkF me_ 0 #[.val (.ref b), .val (.int (0 : Int32))] [])) rfl (hb hby d28_0)
  refine gv st140 ?_
  show G (T140.setTop (mkF me_ 3 #[.val (.ref b), .val (.int (0 : Int32))] [(.int (1 : Int32))]))
  refine gv (fun tQ kQ => XS.ifYes X140.here hx rfl (pc0 := 3) (pc' := 28) rfl (hb hby d28_3) rfl ((if0 _ _).trans (feq (by decide : ¬ ((1 : Int32) = (0 : Int32)))).2) (by decide) (by decide) kQ) ?_
  show G (T140.setTop (mkF me_ 28 #[.val (.ref b), .val (.int (0 : Int32))] []))
  refine gv (fun tQ kQ => XS.iloadN X140.here hx rfl (hb hby d28_28) rfl kQ) ?_
  show G (T140.setTop (mkF me_ 29 #[.val (.ref b), .val (.int (0 : Int32))] [(.int (0 : Int32))]))
  refine gv (fun tQ kQ => XS.iconst X140.here hx rfl (hb hby d28_29) kQ) ?_
  show G (T140.setTop (mkF me_ 30 #[.val (.ref b), .val (.int (0 : Int32))] [(.int (1 : Int32)), (.int (0 : Int32))]))
  refine gv (fun tQ kQ => XS.ishl X140.here hx rfl (hb hby d28_30) rfl kQ) ?_
  show G (T140.setTop (mkF me_ 31 #[.val (.ref b), .val (.int (0 : Int32))] [(.int ((0 : Int32) <<< ((1 : Int32) &&& 31)))]))
  rw [(by decide : ((0 : Int32) <<< ((1 : Int32) &&& 31)) = (0 : Int32))]
  show G (T140.setTop (mkF me_ 31 #[.val (.ref b), .val (.int (0 : Int32))] [(.int (0 : Int32))]))
  refine gv (fun tQ kQ => XS.istoreN X140.here hx rfl (hb hby d28_31) rfl (l' := #[.val (.ref b), .val (.int (0 : Int32))]) rfl kQ) ?_
  show G (T140.setTop (mkF me_ 32 #[.val (.ref b), .val (.int (0 : Int32))] []))
  refine gv (fun tQ kQ => XS.aloadN X140.here hx rfl (hb hby d28_32) rfl rfl kQ) ?_
  show G (T140.setTop (mkF me_ 33 #[.val (.ref b), .val (.int (0 : Int32))] [(.ref b)]))
  refine gv (fun tQ kQ => XS.iloadN X140.here hx rfl (hb hby d28_33) rfl kQ) ?_
  show G (T140.setTop (mkF me_ 34 #[.val (.ref b), .val (.int (0 : Int32))] [(.int (0 : Int32)), (.ref b)]))
  refine gv (fun tQ kQ => XS.iinc X140.here hx rfl (hb hby d28_34) rfl (l' := #[.val (.ref b), .val (.int ((0 : Int32) + (1 : Int32)))]) rfl kQ) ?_
  show G (T140.setTop (mkF me_ 37 #[.val (.ref b), .val (.int ((0 : Int32) + (1 : Int32)))] [(.int (0 : Int32)), (.ref b)]))
  rw [(by decide : ((0 : Int32) + (1 : Int32)) = (1 : Int32))]
  show G (T140.setTop (mkF me_ 37 #[.val (.ref b), .val (.int (1 : Int32))] [(.int (0 : Int32)), (.ref b)]))
  obtain ⟨cl141, Ar141, q141, S141, n141, H141, G141⟩ := (id u4)
  have in141 : ¬ ((0 : Int32) < 0 ∨ cl141.slots.size ≤ ((0 : Int32)).toNatClampNeg) := inb_of S141 ⟨by decide, by decide⟩
  refine gv (X140.baloadBytes hx (j := (0 : Int32)) (v := (.int x0)) (by rw [e140]; exact Ar141.1) (State.isArrayOf_alike hZ.alike Ar141.2.1) Ar141.2.2 in141 (Has.at H141 in141 rfl) (g := (mkF me_ 37 #[.val (.ref b), .val (.int (1 : Int32))] [(.int (0 : Int32)), (.ref b)])) rfl rfl (hb hby d28_37)) ?_
  show G (T140.setTop (mkF me_ 38 #[.val (.ref b), .val (.int (1 : Int32))] [(.int x0)]))
  refine gv (fun tQ kQ => XS.sipush X140.here hx rfl (hb hby d28_38) kQ) ?_
  show G (T140.setTop (mkF me_ 41 #[.val (.ref b), .val (.int (1 : Int32))] [(.int (255 : Int32)), (.int x0)]))
  refine gv (fun tQ kQ => XS.iand X140.here hx rfl (hb hby d28_41) rfl kQ) ?_
  show G (T140.setTop (mkF me_ 42 #[.val (.ref b), .val (.int (1 : Int32))] [(.int (x0 &&& (255 : Int32)))]))
  obtain ⟨T142, X142, e142, st142⟩ := getS2 X140 hx hZ hown (host := "") (Or.inl (hw _ (List.mem_of_getElem? (i := 87) rfl))) Via.refl e140 (u2.ext O0.2) (g := (mkF me_ 42 #[.val (.ref b), .val (.int (1 : Int32))] [(.int (x0 &&& (255 : Int32)))])) rfl (hb hby d28_42)
  refine gv st142 ?_
  show G (T142.setTop (mkF me_ 45 #[.val (.ref b), .val (.int (1 : Int32))] [(.int (0 : Int32)), (.int (x0 &&& (255 : Int32)))]))
  refine gv (fun tQ kQ => XS.ishl X142.here hx rfl (hb hby d28_45) rfl kQ) ?_
  show G (T142.setTop (mkF me_ 46 #[.val (.ref b), .val (.int (1 : Int32))] [(.int ((x0 &&& (255 : Int32)) <<< ((0 : Int32) &&& 31)))]))
  refine gv (fun tQ kQ => XS.aloadN X142.here hx rfl (hb hby d28_46) rfl rfl kQ) ?_
  show G (T142.setTop (mkF me_ 47 #[.val (.ref b), .val (.int (1 : Int32))] [(.ref b), (.int ((x0 &&& (255 : Int32)) <<< ((0 : Int32) &&& 31)))]))
  refine gv (fun tQ kQ => XS.iloadN X142.here hx rfl (hb hby d28_47) rfl kQ) ?_
  show G (T142.setTop (mkF me_ 48 #[.val (.ref b), .val (.int (1 : Int32))] [(.int (1 : Int32)), (.ref b), (.int ((x0 &&& (255 : Int32)) <<< ((0 : Int32) &&& 31)))]))
  obtain ⟨cl143, Ar143, q143, S143, n143, H143, G143⟩ := (id u4)
  have in143 : ¬ ((1 : Int32) < 0 ∨ cl143.slots.size ≤ ((1 : Int32)).toNatClampNeg) := inb_of S143 ⟨by decide, by decide⟩
  refine gv (X142.baloadBytes hx (j := (1 : Int32)) (v := (.int x1)) (by rw [e142]; exact Ar143.1) (State.isArrayOf_alike hZ.alike Ar143.2.1) Ar143.2.2 in143 (Has.at H143 in143 rfl) (g := (mkF me_ 48 #[.val (.ref b), .val (.int (1 : Int32))] [(.int (1 : Int32)), (.ref b), (.int ((x0 &&& (255 : Int32)) <<< ((0 : Int32) &&& 31)))])) rfl rfl (hb hby d28_48)) ?_
  show G (T142.setTop (mkF me_ 49 #[.val (.ref b), .val (.int (1 : Int32))] [(.int x1), (.int ((x0 &&& (255 : Int32)) <<< ((0 : Int32) &&& 31)))]))
  refine gv (fun tQ kQ => XS.sipush X142.here hx rfl (hb hby d28_49) kQ) ?_
  show G (T142.setTop (mkF me_ 52 #[.val (.ref b), .val (.int (1 : Int32))] [(.int (255 : Int32)), (.int x1), (.int ((x0 &&& (255 : Int32)) <<< ((0 : Int32) &&& 31)))]))
  refine gv (fun tQ kQ => XS.iand X142.here hx rfl (hb hby d28_52) rfl kQ) ?_
  show G (T142.setTop (mkF me_ 53 #[.val (.ref b), .val (.int (1 : Int32))] [(.int (x1 &&& (255 : Int32))), (.int ((x0 &&& (255 : Int32)) <<< ((0 : Int32) &&& 31)))]))
  obtain ⟨T144, X144, e144, st144⟩ := getS2 X142 hx hZ hown (host := "") (Or.inl (hw _ (List.mem_of_getElem? (i := 88) rfl))) Via.refl e142 (u3.ext O0.2) (g := (mkF me_ 53 #[.val (.ref b), .val (.int (1 : Int32))] [(.int (x1 &&& (255 : Int32))), (.int ((x0 &&& (255 : Int32)) <<< ((0 : Int32) &&& 31)))])) rfl (hb hby d28_53)
  refine gv st144 ?_
  show G (T144.setTop (mkF me_ 56 #[.val (.ref b), .val (.int (1 : Int32))] [(.int (8 : Int32)), (.int (x1 &&& (255 : Int32))), (.int ((x0 &&& (255 : Int32)) <<< ((0 : Int32) &&& 31)))]))
  refine gv (fun tQ kQ => XS.ishl X144.here hx rfl (hb hby d28_56) rfl kQ) ?_
  show G (T144.setTop (mkF me_ 57 #[.val (.ref b), .val (.int (1 : Int32))] [(.int ((x1 &&& (255 : Int32)) <<< ((8 : Int32) &&& 31))), (.int ((x0 &&& (255 : Int32)) <<< ((0 : Int32) &&& 31)))]))
  refine gv (fun tQ kQ => XS.ior X144.here hx rfl (hb hby d28_57) rfl kQ) ?_
  show G (T144.setTop (mkF me_ 58 #[.val (.ref b), .val (.int (1 : Int32))] [(.int (((x0 &&& (255 : Int32)) <<< ((0 : Int32) &&& 31)) ||| ((x1 &&& (255 : Int32)) <<< ((8 : Int32) &&& 31))))]))
  refine gv (fun tQ kQ => XS.i2c X144.here hx rfl (hb hby d28_58) rfl kQ) ?_
  show G (T144.setTop (mkF me_ 59 #[.val (.ref b), .val (.int (1 : Int32))] [(.int ((((x0 &&& (255 : Int32)) <<< ((0 : Int32) &&& 31)) ||| ((x1 &&& (255 : Int32)) <<< ((8 : Int32) &&& 31))).toUInt32.toUInt16.toUInt32.toInt32))]))
  refine gf _ (own_ret X144 Bd.notSynchronized (v := some (.int ((((x0 &&& (255 : Int32)) <<< ((0 : Int32) &&& 31)) ||| ((x1 &&& (255 : Int32)) <<< ((8 : Int32) &&& 31))).toUInt32.toUInt16.toUInt32.toInt32))) (fun h => by rw [Bd.returns] at h; cases h) ?_ (by decide) (by decide) (fun fs hr => retN X144 hx (t := .char) Bd.returns (by simp) (hb hby d28_59) (by rw [(own_narC _)]; exact hr)))
  show Q_getc Z b k x0 x1 w h0 n0 _ T144.heap _
  rw [e144]
  exact ⟨(congrArg (fun z => some (Value.int z)) u0), N0, rfl⟩
theorem ef_10 (m : MethodId) (x0 : Addr) (x1 : Int32) (x2 : Int32) (x3 : Int32)  : entryFrame m #[(.ref x0), (.int x1), (.int x2), (.int x3)] 6 = mkF m 0 #[.val (.ref x0), .val (.int x1), .val (.int x2), .val (.int x3), .unset, .unset] [] := by first | (simp [entryFrame, mkF, argsToLocals, Value.category]; done) | rfl
theorem d18_0 : decode jdk_43_method_23_code 0 = .ok (.iload_n 1, 1) := by decide +kernel
theorem d18_1 : decode jdk_43_method_23_code 1 = .ok (.i2b, 1) := by decide +kernel
theorem d18_2 : decode jdk_43_method_23_code 2 = .ok (.istore 4, 2) := by decide +kernel
theorem d18_4 : decode jdk_43_method_23_code 4 = .ok (.iload_n 2, 1) := by decide +kernel
theorem d18_5 : decode jdk_43_method_23_code 5 = .ok (.istore 5, 2) := by decide +kernel
theorem d18_7 : decode jdk_43_method_23_code 7 = .ok (.iload 5, 2) := by decide +kernel
theorem d18_9 : decode jdk_43_method_23_code 9 = .ok (.iload_n 3, 1) := by decide +kernel
theorem d18_10 : decode jdk_43_method_23_code 10 = .ok (.if_icmp .ge 21, 3) := by decide +kernel
theorem d18_13 : decode jdk_43_method_23_code 13 = .ok (.aload_n 0, 1) := by decide +kernel
theorem d18_14 : decode jdk_43_method_23_code 14 = .ok (.iload 5, 2) := by decide +kernel
theorem d18_16 : decode jdk_43_method_23_code 16 = .ok (.baload, 1) := by decide +kernel
theorem d18_17 : decode jdk_43_method_23_code 17 = .ok (.iload 4, 2) := by decide +kernel
theorem d18_19 : decode jdk_43_method_23_code 19 = .ok (.if_icmp .ne 6, 3) := by decide +kernel
theorem d18_22 : decode jdk_43_method_23_code 22 = .ok (.iload 5, 2) := by decide +kernel
theorem d18_24 : decode jdk_43_method_23_code 24 = .ok (.ireturn, 1) := by decide +kernel
theorem d18_25 : decode jdk_43_method_23_code 25 = .ok (.iinc 5 1, 3) := by decide +kernel
theorem d18_28 : decode jdk_43_method_23_code 28 = .ok (.goto (-21), 3) := by decide +kernel
theorem d18_31 : decode jdk_43_method_23_code 31 = .ok (.iconst (-1), 1) := by decide +kernel
theorem d18_32 : decode jdk_43_method_23_code 32 = .ok (.ireturn, 1) := by decide +kernel
def Q_l1ioc63 (Z : State) (b : Addr) (k : ClassId) (x : Int32) (h0 : Heap) (n0 : Nat) (v : Option Value) (h : Heap) (L : List Loc) : Prop := v = some (.int (if x = (63 : Int32) then (0 : Int32) else (-1 : Int32))) ∧ Fr n0 L ∧ h = h0
set_option maxRecDepth 65536 in
set_option maxHeartbeats 40000000 in
theorem rm_l1ioc63 (l : Launch) (Z : State) (a0 : Array Value) (hw : ∀ d ∈ tables_1, d.before a0 Z = true) (ws : List Jvm.Cond) (b : Addr) (k : ClassId) (x : Int32) (h0 : Heap) (n0 : Nat) (O0 : Old Z n0 h0) (u0 : Arv Z h0 b k .byte (1 : Int32) [(.int x)] (.int (0 : Int32))) :
    MetFree l (⟨"java/lang/StringLatin1", "indexOfChar", "([BIII)I"⟩ : MethodName) (head1 (Jvm.Cond.code (⟨"java/lang/StringLatin1", "indexOfChar", "([BIII)I"⟩ : MethodName) jdk_43_method_23_code 6 (some .int) :: ws) ({ frames := 0, cells := 0, slots := 0, locals := 0 } : Room)) (fun aV U => aV = #[(.ref b), (.int (63 : Int32)), (.int (0 : Int32)), (.int (1 : Int32))] ∧ Z.Warmed39 U.vm ∧ U.heap = h0) (fun _ _ _ _ _ => True) (fun _ U o U' => ∃ v L, o = .returned v ∧ Q_l1ioc63 Z b k x h0 n0 v U'.heap L ∧ FrameEnd U o U' L ({ frames := 0, cells := 0, slots := 0, locals := 0 } : Room).cells ({ frames := 0, cells := 0, slots := 0, locals := 0 } : Room).slots) := by
  refine MetFree.of_bodySF (plainFor_of_name pn_0) hisR ?_
  intro pr_ en_ st_ me_ args below meth_ co_ s₁ Bd hml0 hP hK
  obtain ⟨rfl, hZ, hh⟩ := hP
  have hx := Bd.exec
  have hby := Bd.bytes
  have hml : co_.maxLocals = 6 := hml0
  have hown : st_.vm.findClass "java/lang/StringLatin1" = some me_.cls := findClass_of_methodNamed Bd.named
  have hnm := (name_of_methodNamed Bd.named Bd.method).1
  have X0 : Stand pr_ l en_ ({ frames := 0, cells := 0, slots := 0, locals := 0 } : Room) st_ me_ #[(.ref b), (.int (63 : Int32)), (.int (0 : Int32)), (.int (1 : Int32))] below meth_ co_ s₁ [] 0 0 := Stand.of_body Bd
  have e0 : s₁.heap = h0 := by rw [← hh, Bd.state]; rfl
  have N0 := Fr.nil n0
  have K0 := Keep.refl h0 []
  obtain ⟨G, gv, gf, gb⟩ := own_G pr_.tables en_ below st_ (Q_l1ioc63 Z b k x h0 n0) ({ frames := 0, cells := 0, slots := 0, locals := 0 } : Room).cells ({ frames := 0, cells := 0, slots := 0, locals := 0 } : Room).slots
  show own_Fin pr_.tables en_ below st_ (Q_l1ioc63 Z b k x h0 n0) ({ frames := 0, cells := 0, slots := 0, locals := 0 } : Room).cells ({ frames := 0, cells := 0, slots := 0, locals := 0 } : Room).slots (s₁.setTop (entryFrame me_ #[(.ref b), (.int (63 : Int32)), (.int (0 : Int32)), (.int (1 : Int32))] 6))
  refine gb _ (gv (fun tQ kQ => castTop (ef_10 me_ b (63 : Int32) (0 : Int32) (1 : Int32)) kQ) ?_)
  show G (s₁.setTop (mkF me_ 0 #[.val (.ref b), .val (.int (63 : Int32)), .val (.int (0 : Int32)), .val (.int (1 : Int32)), .unset, .unset] []))
  refine gv (fun tQ kQ => XS.iloadN X0.here hx rfl (hb hby d18_0) rfl kQ) ?_
  show G (s₁.setTop (mkF me_ 1 #[.val (.ref b), .val (.int (63 : Int32)), .val (.int (0 : Int32)), .val (.int (1 : Int32)), .unset, .unset] [(.int (63 : Int32))]))
  refine gv (fun tQ kQ => XS.i2b X0.here hx rfl (hb hby d18_1) rfl kQ) ?_
  show G (s₁.setTop (mkF me_ 2 #[.val (.ref b), .val (.int (63 : Int32)), .val (.int (0 : Int32)), .val (.int (1 : Int32)), .unset, .unset] [(.int ((63 : Int32).toInt8.toInt32))]))
  rw [(by decide : ((63 : Int32).toInt8.toInt32) = (63 : Int32))]
  show G (s₁.setTop (mkF me_ 2 #[.val (.ref b), .val (.int (63 : Int32)), .val (.int (0 : Int32)), .val (.int (1 : Int32)), .unset, .unset] [(.int (63 : Int32))]))
  refine gv (fun tQ kQ => XS.istore X0.here hx rfl (hb hby d18_2) rfl (l' := #[.val (.ref b), .val (.int (63 : Int32)), .val (.int (0 : Int32)), .val (.int (1 : Int32)), .val (.int (63 : Int32)), .unset]) rfl kQ) ?_
  show G (s₁.setTop (mkF me_ 4 #[.val (.ref b), .val (.int (63 : Int32)), .val (.int (0 : Int32)), .val (.int (1 : Int32)), .val (.int (63 : Int32)), .unset] []))
  refine gv (fun tQ kQ => XS.iloadN X0.here hx rfl (hb hby d18_4) rfl kQ) ?_
  show G (s₁.setTop (mkF me_ 5 #[.val (.ref b), .val (.int (63 : Int32)), .val (.int (0 : Int32)), .val (.int (1 : Int32)), .val (.int (63 : Int32)), .unset] [(.int (0 : Int32))]))
  refine gv (fun tQ kQ => XS.istore X0.here hx rfl (hb hby d18_5) rfl (l' := #[.val (.ref b), .val (.int (63 : Int32)), .val (.int (0 : Int32)), .val (.int (1 : Int32)), .val (.int (63 : Int32)), .val (.int (0 : Int32))]) rfl kQ) ?_
  show G (s₁.setTop (mkF me_ 7 #[.val (.ref b), .val (.int (63 : Int32)), .val (.int (0 : Int32)), .val (.int (1 : Int32)), .val (.int (63 : Int32)), .val (.int (0 : Int32))] []))
  refine gv (fun tQ kQ => XS.iload X0.here hx rfl (hb hby d18_7) rfl kQ) ?_
  show G (s₁.setTop (mkF me_ 9 #[.val (.ref b), .val (.int (63 : Int32)), .val (.int (0 : Int32)), .val (.int (1 : Int32)), .val (.int (63 : Int32)), .val (.int (0 : Int32))] [(.int (0 : Int32))]))
  refine gv (fun tQ kQ => XS.iloadN X0.here hx rfl (hb hby d18_9) rfl kQ) ?_
  show G (s₁.setTop (mkF me_ 10 #[.val (.ref b), .val (.int (63 : Int32)), .val (.int (0 : Int32)), .val (.int (1 : Int32)), .val (.int (63 : Int32)), .val (.int (0 : Int32))] [(.int (1 : Int32)), (.int (0 : Int32))]))
  refine gv (fun tQ kQ => XS.icmpNo X0.here hx rfl (hb hby d18_10) rfl (tlt (by decide : (0 : Int32) < (1 : Int32))).2.1 kQ) ?_
  show G (s₁.setTop (mkF me_ 13 #[.val (.ref b), .val (.int (63 : Int32)), .val (.int (0 : Int32)), .val (.int (1 : Int32)), .val (.int (63 : Int32)), .val (.int (0 : Int32))] []))
  refine gv (fun tQ kQ => XS.aloadN X0.here hx rfl (hb hby d18_13) rfl rfl kQ) ?_
  show G (s₁.setTop (mkF me_ 14 #[.val (.ref b), .val (.int (63 : Int32)), .val (.int (0 : Int32)), .val (.int (1 : Int32)), .val (.int (63 : Int32)), .val (.int (0 : Int32))] [(.ref b)]))
  refine gv (fun tQ kQ => XS.iload X0.here hx rfl (hb hby d18_14) rfl kQ) ?_
  show G (s₁.setTop (mkF me_ 16 #[.val (.ref b), .val (.int (63 : Int32)), .val (.int (0 : Int32)), .val (.int (1 : Int32)), .val (.int (63 : Int32)), .val (.int (0 : Int32))] [(.int (0 : Int32)), (.ref b)]))
  obtain ⟨cl145, Ar145, q145, S145, n145, H145, G145⟩ := (id u0)
  have in145 : ¬ ((0 : Int32) < 0 ∨ cl145.slots.size ≤ ((0 : Int32)).toNatClampNeg) := inb_of S145 ⟨by decide, by decide⟩
  refine gv (X0.baloadBytes hx (j := (0 : Int32)) (v := (.int x)) (by rw [e0]; exact Ar145.1) (State.isArrayOf_alike hZ.alike Ar145.2.1) Ar145.2.2 in145 (Has.at H145 in145 rfl) (g := (mkF me_ 16 #[.val (.ref b), .val (.int (63 : Int32)), .val (.int (0 : Int32)), .val (.int (1 : Int32)), .val (.int (63 : Int32)), .val (.int (0 : Int32))] [(.int (0 : Int32)), (.ref b)])) rfl rfl (hb hby d18_16)) ?_
  show G (s₁.setTop (mkF me_ 17 #[.val (.ref b), .val (.int (63 : Int32)), .val (.int (0 : Int32)), .val (.int (1 : Int32)), .val (.int (63 : Int32)), .val (.int (0 : Int32))] [(.int x)]))
  refine gv (fun tQ kQ => XS.iload X0.here hx rfl (hb hby d18_17) rfl kQ) ?_
  show G (s₁.setTop (mkF me_ 19 #[.val (.ref b), .val (.int (63 : Int32)), .val (.int (0 : Int32)), .val (.int (1 : Int32)), .val (.int (63 : Int32)), .val (.int (0 : Int32))] [(.int (63 : Int32)), (.int x)]))
  by_cases hc146 : x = (63 : Int32)
  · refine gv (fun tQ kQ => XS.icmpNo X0.here hx rfl (hb hby d18_19) rfl (teq hc146).2 kQ) ?_
    show G (s₁.setTop (mkF me_ 22 #[.val (.ref b), .val (.int (63 : Int32)), .val (.int (0 : Int32)), .val (.int (1 : Int32)), .val (.int (63 : Int32)), .val (.int (0 : Int32))] []))
    refine gv (fun tQ kQ => XS.iload X0.here hx rfl (hb hby d18_22) rfl kQ) ?_
    show G (s₁.setTop (mkF me_ 24 #[.val (.ref b), .val (.int (63 : Int32)), .val (.int (0 : Int32)), .val (.int (1 : Int32)), .val (.int (63 : Int32)), .val (.int (0 : Int32))] [(.int (0 : Int32))]))
    refine gf _ (own_ret X0 Bd.notSynchronized (v := some (.int (0 : Int32))) (fun h => by rw [Bd.returns] at h; cases h) ?_ (by decide) (by decide) (fun fs hr => retOut X0 hx (t := .int) Bd.returns rfl (Or.inl ⟨rfl, Or.inl rfl, _, rfl⟩) (hb hby d18_24) hr))
    show Q_l1ioc63 Z b k x h0 n0 _ s₁.heap _
    rw [e0]
    exact ⟨(by rw [if_pos hc146]), N0, rfl⟩
  · refine gv (fun tQ kQ => XS.icmpYes X0.here hx rfl (pc0 := 19) (pc' := 25) rfl (hb hby d18_19) rfl (feq hc146).2 (by decide) (by decide) kQ) ?_
    show G (s₁.setTop (mkF me_ 25 #[.val (.ref b), .val (.int (63 : Int32)), .val (.int (0 : Int32)), .val (.int (1 : Int32)), .val (.int (63 : Int32)), .val (.int (0 : Int32))] []))
    refine gv (fun tQ kQ => XS.iinc X0.here hx rfl (hb hby d18_25) rfl (l' := #[.val (.ref b), .val (.int (63 : Int32)), .val (.int (0 : Int32)), .val (.int (1 : Int32)), .val (.int (63 : Int32)), .val (.int ((0 : Int32) + (1 : Int32)))]) rfl kQ) ?_
    show G (s₁.setTop (mkF me_ 28 #[.val (.ref b), .val (.int (63 : Int32)), .val (.int (0 : Int32)), .val (.int (1 : Int32)), .val (.int (63 : Int32)), .val (.int ((0 : Int32) + (1 : Int32)))] []))
    rw [(by decide : ((0 : Int32) + (1 : Int32)) = (1 : Int32))]
    show G (s₁.setTop (mkF me_ 28 #[.val (.ref b), .val (.int (63 : Int32)), .val (.int (0 : Int32)), .val (.int (1 : Int32)), .val (.int (63 : Int32)), .val (.int (1 : Int32))] []))
    refine gv (fun tQ kQ => XS.goto X0.here hx rfl (pc0 := 28) (pc' := 7) rfl (hb hby d18_28) (by decide) (by decide) kQ) ?_
    show G (s₁.setTop (mkF me_ 7 #[.val (.ref b), .val (.int (63 : Int32)), .val (.int (0 : Int32)), .val (.int (1 : Int32)), .val (.int (63 : Int32)), .val (.int (1 : Int32))] []))
    refine gv (fun tQ kQ => XS.iload X0.here hx rfl (hb hby d18_7) rfl kQ) ?_
    show G (s₁.setTop (mkF me_ 9 #[.val (.ref b), .val (.int (63 : Int32)), .val (.int (0 : Int32)), .val (.int (1 : Int32)), .val (.int (63 : Int32)), .val (.int (1 : Int32))] [(.int (1 : Int32))]))
    refine gv (fun tQ kQ => XS.iloadN X0.here hx rfl (hb hby d18_9) rfl kQ) ?_
    show G (s₁.setTop (mkF me_ 10 #[.val (.ref b), .val (.int (63 : Int32)), .val (.int (0 : Int32)), .val (.int (1 : Int32)), .val (.int (63 : Int32)), .val (.int (1 : Int32))] [(.int (1 : Int32)), (.int (1 : Int32))]))
    refine gv (fun tQ kQ => XS.icmpYes X0.here hx rfl (pc0 := 10) (pc' := 31) rfl (hb hby d18_10) rfl (flt (by decide : ¬ ((1 : Int32) < (1 : Int32)))).2.1 (by decide) (by decide) kQ) ?_
    show G (s₁.setTop (mkF me_ 31 #[.val (.ref b), .val (.int (63 : Int32)), .val (.int (0 : Int32)), .val (.int (1 : Int32)), .val (.int (63 : Int32)), .val (.int (1 : Int32))] []))
    refine gv (fun tQ kQ => XS.iconst X0.here hx rfl (hb hby d18_31) kQ) ?_
    show G (s₁.setTop (mkF me_ 32 #[.val (.ref b), .val (.int (63 : Int32)), .val (.int (0 : Int32)), .val (.int (1 : Int32)), .val (.int (63 : Int32)), .val (.int (1 : Int32))] [(.int (-1 : Int32))]))
    refine gf _ (own_ret X0 Bd.notSynchronized (v := some (.int (-1 : Int32))) (fun h => by rw [Bd.returns] at h; cases h) ?_ (by decide) (by decide) (fun fs hr => retOut X0 hx (t := .int) Bd.returns rfl (Or.inl ⟨rfl, Or.inl rfl, _, rfl⟩) (hb hby d18_32) hr))
    show Q_l1ioc63 Z b k x h0 n0 _ s₁.heap _
    rw [e0]
    exact ⟨(by rw [if_neg hc146]), N0, rfl⟩
theorem ef_11 (m : MethodId) (x0 : Addr) (x1 : Int32) (x2 : Int32) (x3 : Int32)  : entryFrame m #[(.ref x0), (.int x1), (.int x2), (.int x3)] 4 = mkF m 0 #[.val (.ref x0), .val (.int x1), .val (.int x2), .val (.int x3)] [] := by first | (simp [entryFrame, mkF, argsToLocals, Value.category]; done) | rfl
theorem d14_0 : decode jdk_43_method_22_code 0 = .ok (.iload_n 1, 1) := by decide +kernel
theorem d14_1 : decode jdk_43_method_22_code 1 = .ok (.invokestatic 88, 3) := by decide +kernel
theorem pd_8 : parseMethodDescriptor "(I)Z" = some ⟨[.int], some .boolean⟩ := by decide +kernel
theorem d14_4 : decode jdk_43_method_22_code 4 = .ok (.ifCond .ne 5, 3) := by decide +kernel
theorem d14_9 : decode jdk_43_method_22_code 9 = .ok (.iload_n 2, 1) := by decide +kernel
theorem d14_10 : decode jdk_43_method_22_code 10 = .ok (.iconst 0, 1) := by decide +kernel
theorem d14_11 : decode jdk_43_method_22_code 11 = .ok (.invokestatic 92, 3) := by decide +kernel
theorem pd_9 : parseMethodDescriptor "(II)I" = some ⟨[.int, .int], some .int⟩ := by decide +kernel
theorem d14_14 : decode jdk_43_method_22_code 14 = .ok (.istore_n 2, 1) := by decide +kernel
theorem d14_15 : decode jdk_43_method_22_code 15 = .ok (.iload_n 3, 1) := by decide +kernel
theorem d14_16 : decode jdk_43_method_22_code 16 = .ok (.aload_n 0, 1) := by decide +kernel
theorem d14_17 : decode jdk_43_method_22_code 17 = .ok (.arraylength, 1) := by decide +kernel
theorem d14_18 : decode jdk_43_method_22_code 18 = .ok (.invokestatic 38, 3) := by decide +kernel
theorem d14_21 : decode jdk_43_method_22_code 21 = .ok (.istore_n 3, 1) := by decide +kernel
theorem d14_22 : decode jdk_43_method_22_code 22 = .ok (.iload_n 2, 1) := by decide +kernel
theorem d14_23 : decode jdk_43_method_22_code 23 = .ok (.iload_n 3, 1) := by decide +kernel
theorem d14_24 : decode jdk_43_method_22_code 24 = .ok (.if_icmp .lt 5, 3) := by decide +kernel
theorem d14_29 : decode jdk_43_method_22_code 29 = .ok (.aload_n 0, 1) := by decide +kernel
theorem d14_30 : decode jdk_43_method_22_code 30 = .ok (.iload_n 1, 1) := by decide +kernel
theorem d14_31 : decode jdk_43_method_22_code 31 = .ok (.iload_n 2, 1) := by decide +kernel
theorem d14_32 : decode jdk_43_method_22_code 32 = .ok (.iload_n 3, 1) := by decide +kernel
theorem d14_33 : decode jdk_43_method_22_code 33 = .ok (.invokestatic 95, 3) := by decide +kernel
theorem pd_10 : parseMethodDescriptor "([BIII)I" = some ⟨[(.array .byte), .int, .int, .int], some .int⟩ := by decide +kernel
theorem d14_36 : decode jdk_43_method_22_code 36 = .ok (.ireturn, 1) := by decide +kernel
def Q_l1io63 (Z : State) (b : Addr) (k : ClassId) (x : Int32) (h0 : Heap) (n0 : Nat) (v : Option Value) (h : Heap) (L : List Loc) : Prop := v = some (.int (if x = (63 : Int32) then (0 : Int32) else (-1 : Int32))) ∧ Fr n0 L ∧ h = h0
set_option maxRecDepth 65536 in
set_option maxHeartbeats 40000000 in
theorem rm_l1io63 (l : Launch) (Z : State) (a0 : Array Value) (hw : ∀ d ∈ tables_1, d.before a0 Z = true) (ws : List Jvm.Cond) (b : Addr) (k : ClassId) (x : Int32) (h0 : Heap) (n0 : Nat) (O0 : Old Z n0 h0) (u0 : Arv Z h0 b k .byte (1 : Int32) [(.int x)] (.int (0 : Int32))) :
    MetFree l (⟨"java/lang/StringLatin1", "indexOf", "([BIII)I"⟩ : MethodName) (head1 (Jvm.Cond.code (⟨"java/lang/StringLatin1", "indexOf", "([BIII)I"⟩ : MethodName) jdk_43_method_22_code 4 (some .int) :: ws) ({ frames := 1, cells := 0, slots := 0, locals := 17 } : Room)) (fun aV U => aV = #[(.ref b), (.int (63 : Int32)), (.int (0 : Int32)), (.int (1 : Int32))] ∧ Z.Warmed39 U.vm ∧ U.heap = h0) (fun _ _ _ _ _ => True) (fun _ U o U' => ∃ v L, o = .returned v ∧ Q_l1io63 Z b k x h0 n0 v U'.heap L ∧ FrameEnd U o U' L ({ frames := 1, cells := 0, slots := 0, locals := 17 } : Room).cells ({ frames := 1, cells := 0, slots := 0, locals := 17 } : Room).slots) := by
  refine MetFree.of_bodySF (plainFor_of_name pn_0) hisR ?_
  intro pr_ en_ st_ me_ args below meth_ co_ s₁ Bd hml0 hP hK
  obtain ⟨rfl, hZ, hh⟩ := hP
  have hx := Bd.exec
  have hby := Bd.bytes
  have hml : co_.maxLocals = 4 := hml0
  have hown : st_.vm.findClass "java/lang/StringLatin1" = some me_.cls := findClass_of_methodNamed Bd.named
  have hnm := (name_of_methodNamed Bd.named Bd.method).1
  have X0 : Stand pr_ l en_ ({ frames := 1, cells := 0, slots := 0, locals := 17 } : Room) st_ me_ #[(.ref b), (.int (63 : Int32)), (.int (0 : Int32)), (.int (1 : Int32))] below meth_ co_ s₁ [] 0 0 := Stand.of_body Bd
  have e0 : s₁.heap = h0 := by rw [← hh, Bd.state]; rfl
  have N0 := Fr.nil n0
  have K0 := Keep.refl h0 []
  obtain ⟨G, gv, gf, gb⟩ := own_G pr_.tables en_ below st_ (Q_l1io63 Z b k x h0 n0) ({ frames := 1, cells := 0, slots := 0, locals := 17 } : Room).cells ({ frames := 1, cells := 0, slots := 0, locals := 17 } : Room).slots
  show own_Fin pr_.tables en_ below st_ (Q_l1io63 Z b k x h0 n0) ({ frames := 1, cells := 0, slots := 0, locals := 17 } : Room).cells ({ frames := 1, cells := 0, slots := 0, locals := 17 } : Room).slots (s₁.setTop (entryFrame me_ #[(.ref b), (.int (63 : Int32)), (.int (0 : Int32)), (.int (1 : Int32))] 4))
  refine gb _ (gv (fun tQ kQ => castTop (ef_11 me_ b (63 : Int32) (0 : Int32) (1 : Int32)) kQ) ?_)
  show G (s₁.setTop (mkF me_ 0 #[.val (.ref b), .val (.int (63 : Int32)), .val (.int (0 : Int32)), .val (.int (1 : Int32))] []))
  refine gv (fun tQ kQ => XS.iloadN X0.here hx rfl (hb hby d14_0) rfl kQ) ?_
  show G (s₁.setTop (mkF me_ 1 #[.val (.ref b), .val (.int (63 : Int32)), .val (.int (0 : Int32)), .val (.int (1 : Int32))] [(.int (63 : Int32))]))
  obtain ⟨_, _, ⟨T147, L147, k147, n147⟩, -, X147, ⟨Lc147, hQ147, l147, y147, z147⟩, st147⟩ := Jvm.LawKit.callS X0 hx (y := (⟨"java/lang/StringLatin1", "canEncode", "(I)Z"⟩ : MethodName)) hown (mvT hZ (hw _ (List.mem_of_getElem? (i := 66) rfl))) (mvT hZ (hw _ (List.mem_of_getElem? (i := 67) rfl))) (mvT hZ (hw _ (List.mem_of_getElem? (i := 16) rfl))) (mvT hZ (hw _ (List.mem_of_getElem? (i := 68) rfl))) (by decide) (backOf (W := 0) (rm_canI63 l Z a0 hw []  h0 n0 O0 ) hZ (hw _ (List.mem_of_getElem? (i := 68) rfl)) (hw _ (List.mem_of_getElem? (i := 16) rfl)) (by decide) (by decide)) (g := (mkF me_ 1 #[.val (.ref b), .val (.int (63 : Int32)), .val (.int (0 : Int32)), .val (.int (1 : Int32))] [(.int (63 : Int32))])) rfl (by rw [hml]; rfl) (argsL := [(.int (63 : Int32))]) (rest := []) (lenOf pd_8 rfl) rfl (by show 2 * 0 + _ ≤ _; exact Nat.le_of_eq rfl) (hb hby d14_1) (fun _ _ => ⟨rfl, e0, (by decide : 0 + 0 ≤ _), (by decide : 0 + 0 ≤ _)⟩)
  dsimp only [Pt.U, Pt.locs, Pt.cells, Pt.slots] at X147 l147 y147 z147 st147 hQ147
  subst l147 y147 z147
  obtain ⟨rfl, Nq147, eq147⟩ := hQ147
  have N148 := Fr.app N0 Nq147
  refine gv st147 ?_
  show G (T147.setTop (mkF me_ 4 #[.val (.ref b), .val (.int (63 : Int32)), .val (.int (0 : Int32)), .val (.int (1 : Int32))] [(.int (1 : Int32))]))
  refine gv (fun tQ kQ => XS.ifYes X147.here hx rfl (pc0 := 4) (pc' := 9) rfl (hb hby d14_4) rfl ((if0 _ _).trans (feq (by decide : ¬ ((1 : Int32) = (0 : Int32)))).2) (by decide) (by decide) kQ) ?_
  show G (T147.setTop (mkF me_ 9 #[.val (.ref b), .val (.int (63 : Int32)), .val (.int (0 : Int32)), .val (.int (1 : Int32))] []))
  refine gv (fun tQ kQ => XS.iloadN X147.here hx rfl (hb hby d14_9) rfl kQ) ?_
  show G (T147.setTop (mkF me_ 10 #[.val (.ref b), .val (.int (63 : Int32)), .val (.int (0 : Int32)), .val (.int (1 : Int32))] [(.int (0 : Int32))]))
  refine gv (fun tQ kQ => XS.iconst X147.here hx rfl (hb hby d14_10) kQ) ?_
  show G (T147.setTop (mkF me_ 11 #[.val (.ref b), .val (.int (63 : Int32)), .val (.int (0 : Int32)), .val (.int (1 : Int32))] [(.int (0 : Int32)), (.int (0 : Int32))]))
  obtain ⟨_, _, ⟨T149, L149, k149, n149⟩, -, X149, ⟨Lc149, hQ149, l149, y149, z149⟩, st149⟩ := Jvm.LawKit.callS X147 hx (y := (⟨"java/lang/Math", "max", "(II)I"⟩ : MethodName)) hown (mvT hZ (hw _ (List.mem_of_getElem? (i := 69) rfl))) (mvT hZ (hw _ (List.mem_of_getElem? (i := 70) rfl))) (mvT hZ (hw _ (List.mem_of_getElem? (i := 71) rfl))) (mvT hZ (hw _ (List.mem_of_getElem? (i := 72) rfl))) (by decide) (backOf (W := 0) (rm_max_0_0 l Z a0 hw []  h0 n0 O0 ) hZ (hw _ (List.mem_of_getElem? (i := 72) rfl)) (hw _ (List.mem_of_getElem? (i := 71) rfl)) (by decide) (by decide)) (g := (mkF me_ 11 #[.val (.ref b), .val (.int (63 : Int32)), .val (.int (0 : Int32)), .val (.int (1 : Int32))] [(.int (0 : Int32)), (.int (0 : Int32))])) rfl (by rw [hml]; rfl) (argsL := [(.int (0 : Int32)), (.int (0 : Int32))]) (rest := []) (lenOf pd_9 rfl) rfl (by show 2 * 0 + _ ≤ _; exact Nat.le_of_eq rfl) (hb hby d14_11) (fun _ _ => ⟨rfl, eq147, (by decide : 0 + 0 ≤ _), (by decide : 0 + 0 ≤ _)⟩)
  dsimp only [Pt.U, Pt.locs, Pt.cells, Pt.slots] at X149 l149 y149 z149 st149 hQ149
  subst l149 y149 z149
  obtain ⟨rfl, Nq149, eq149⟩ := hQ149
  have N150 := Fr.app N148 Nq149
  refine gv st149 ?_
  show G (T149.setTop (mkF me_ 14 #[.val (.ref b), .val (.int (63 : Int32)), .val (.int (0 : Int32)), .val (.int (1 : Int32))] [(.int (0 : Int32))]))
  refine gv (fun tQ kQ => XS.istoreN X149.here hx rfl (hb hby d14_14) rfl (l' := #[.val (.ref b), .val (.int (63 : Int32)), .val (.int (0 : Int32)), .val (.int (1 : Int32))]) rfl kQ) ?_
  show G (T149.setTop (mkF me_ 15 #[.val (.ref b), .val (.int (63 : Int32)), .val (.int (0 : Int32)), .val (.int (1 : Int32))] []))
  refine gv (fun tQ kQ => XS.iloadN X149.here hx rfl (hb hby d14_15) rfl kQ) ?_
  show G (T149.setTop (mkF me_ 16 #[.val (.ref b), .val (.int (63 : Int32)), .val (.int (0 : Int32)), .val (.int (1 : Int32))] [(.int (1 : Int32))]))
  refine gv (fun tQ kQ => XS.aloadN X149.here hx rfl (hb hby d14_16) rfl rfl kQ) ?_
  show G (T149.setTop (mkF me_ 17 #[.val (.ref b), .val (.int (63 : Int32)), .val (.int (0 : Int32)), .val (.int (1 : Int32))] [(.ref b), (.int (1 : Int32))]))
  obtain ⟨cl151, Ar151, -, S151, n151, -, -⟩ := (id u0)
  refine gv (X149.arraylength hx (by rw [eq149]; exact Ar151.1) (State.isArrayOf_alike hZ.alike Ar151.2.1) (g := (mkF me_ 17 #[.val (.ref b), .val (.int (63 : Int32)), .val (.int (0 : Int32)), .val (.int (1 : Int32))] [(.ref b), (.int (1 : Int32))])) rfl rfl (hb hby d14_17)) ?_
  rw [len_of S151 n151]
  show G (T149.setTop (mkF me_ 18 #[.val (.ref b), .val (.int (63 : Int32)), .val (.int (0 : Int32)), .val (.int (1 : Int32))] [(.int (1 : Int32)), (.int (1 : Int32))]))
  obtain ⟨_, _, ⟨T152, L152, k152, n152⟩, -, X152, ⟨Lc152, hQ152, l152, y152, z152⟩, st152⟩ := Jvm.LawKit.callS X149 hx (y := (⟨"java/lang/Math", "min", "(II)I"⟩ : MethodName)) hown (mvT hZ (hw _ (List.mem_of_getElem? (i := 73) rfl))) (mvT hZ (hw _ (List.mem_of_getElem? (i := 74) rfl))) (mvT hZ (hw _ (List.mem_of_getElem? (i := 71) rfl))) (mvT hZ (hw _ (List.mem_of_getElem? (i := 75) rfl))) (by decide) (backOf (W := 0) (rm_min_1_1 l Z a0 hw []  h0 n0 O0 ) hZ (hw _ (List.mem_of_getElem? (i := 75) rfl)) (hw _ (List.mem_of_getElem? (i := 71) rfl)) (by decide) (by decide)) (g := (mkF me_ 18 #[.val (.ref b), .val (.int (63 : Int32)), .val (.int (0 : Int32)), .val (.int (1 : Int32))] [(.int (1 : Int32)), (.int (1 : Int32))])) rfl (by rw [hml]; rfl) (argsL := [(.int (1 : Int32)), (.int (1 : Int32))]) (rest := []) (lenOf pd_9 rfl) rfl (by show 2 * 0 + _ ≤ _; exact Nat.le_of_eq rfl) (hb hby d14_18) (fun _ _ => ⟨rfl, eq149, (by decide : 0 + 0 ≤ _), (by decide : 0 + 0 ≤ _)⟩)
  dsimp only [Pt.U, Pt.locs, Pt.cells, Pt.slots] at X152 l152 y152 z152 st152 hQ152
  subst l152 y152 z152
  obtain ⟨rfl, Nq152, eq152⟩ := hQ152
  have N153 := Fr.app N150 Nq152
  refine gv st152 ?_
  show G (T152.setTop (mkF me_ 21 #[.val (.ref b), .val (.int (63 : Int32)), .val (.int (0 : Int32)), .val (.int (1 : Int32))] [(.int (1 : Int32))]))
  refine gv (fun tQ kQ => XS.istoreN X152.here hx rfl (hb hby d14_21) rfl (l' := #[.val (.ref b), .val (.int (63 : Int32)), .val (.int (0 : Int32)), .val (.int (1 : Int32))]) rfl kQ) ?_
  show G (T152.setTop (mkF me_ 22 #[.val (.ref b), .val (.int (63 : Int32)), .val (.int (0 : Int32)), .val (.int (1 : Int32))] []))
  refine gv (fun tQ kQ => XS.iloadN X152.here hx rfl (hb hby d14_22) rfl kQ) ?_
  show G (T152.setTop (mkF me_ 23 #[.val (.ref b), .val (.int (63 : Int32)), .val (.int (0 : Int32)), .val (.int (1 : Int32))] [(.int (0 : Int32))]))
  refine gv (fun tQ kQ => XS.iloadN X152.here hx rfl (hb hby d14_23) rfl kQ) ?_
  show G (T152.setTop (mkF me_ 24 #[.val (.ref b), .val (.int (63 : Int32)), .val (.int (0 : Int32)), .val (.int (1 : Int32))] [(.int (1 : Int32)), (.int (0 : Int32))]))
  refine gv (fun tQ kQ => XS.icmpYes X152.here hx rfl (pc0 := 24) (pc' := 29) rfl (hb hby d14_24) rfl (tlt (by decide : (0 : Int32) < (1 : Int32))).1 (by decide) (by decide) kQ) ?_
  show G (T152.setTop (mkF me_ 29 #[.val (.ref b), .val (.int (63 : Int32)), .val (.int (0 : Int32)), .val (.int (1 : Int32))] []))
  refine gv (fun tQ kQ => XS.aloadN X152.here hx rfl (hb hby d14_29) rfl rfl kQ) ?_
  show G (T152.setTop (mkF me_ 30 #[.val (.ref b), .val (.int (63 : Int32)), .val (.int (0 : Int32)), .val (.int (1 : Int32))] [(.ref b)]))
  refine gv (fun tQ kQ => XS.iloadN X152.here hx rfl (hb hby d14_30) rfl kQ) ?_
  show G (T152.setTop (mkF me_ 31 #[.val (.ref b), .val (.int (63 : Int32)), .val (.int (0 : Int32)), .val (.int (1 : Int32))] [(.int (63 : Int32)), (.ref b)]))
  refine gv (fun tQ kQ => XS.iloadN X152.here hx rfl (hb hby d14_31) rfl kQ) ?_
  show G (T152.setTop (mkF me_ 32 #[.val (.ref b), .val (.int (63 : Int32)), .val (.int (0 : Int32)), .val (.int (1 : Int32))] [(.int (0 : Int32)), (.int (63 : Int32)), (.ref b)]))
  refine gv (fun tQ kQ => XS.iloadN X152.here hx rfl (hb hby d14_32) rfl kQ) ?_
  show G (T152.setTop (mkF me_ 33 #[.val (.ref b), .val (.int (63 : Int32)), .val (.int (0 : Int32)), .val (.int (1 : Int32))] [(.int (1 : Int32)), (.int (0 : Int32)), (.int (63 : Int32)), (.ref b)]))
  obtain ⟨_, _, ⟨T154, L154, k154, n154⟩, -, X154, ⟨Lc154, hQ154, l154, y154, z154⟩, st154⟩ := Jvm.LawKit.callS X152 hx (y := (⟨"java/lang/StringLatin1", "indexOfChar", "([BIII)I"⟩ : MethodName)) hown (mvT hZ (hw _ (List.mem_of_getElem? (i := 76) rfl))) (mvT hZ (hw _ (List.mem_of_getElem? (i := 77) rfl))) (mvT hZ (hw _ (List.mem_of_getElem? (i := 16) rfl))) (mvT hZ (hw _ (List.mem_of_getElem? (i := 78) rfl))) (by decide) (backOf (W := 0) (rm_l1ioc63 l Z a0 hw [] b k x h0 n0 O0 u0) hZ (hw _ (List.mem_of_getElem? (i := 78) rfl)) (hw _ (List.mem_of_getElem? (i := 16) rfl)) (by decide) (by decide)) (g := (mkF me_ 33 #[.val (.ref b), .val (.int (63 : Int32)), .val (.int (0 : Int32)), .val (.int (1 : Int32))] [(.int (1 : Int32)), (.int (0 : Int32)), (.int (63 : Int32)), (.ref b)])) rfl (by rw [hml]; rfl) (argsL := [(.ref b), (.int (63 : Int32)), (.int (0 : Int32)), (.int (1 : Int32))]) (rest := []) (lenOf pd_10 rfl) rfl (by show 2 * 0 + _ ≤ _; exact Nat.le_of_eq rfl) (hb hby d14_33) (fun _ _ => ⟨rfl, eq152, (by decide : 0 + 0 ≤ _), (by decide : 0 + 0 ≤ _)⟩)
  dsimp only [Pt.U, Pt.locs, Pt.cells, Pt.slots] at X154 l154 y154 z154 st154 hQ154
  subst l154 y154 z154
  obtain ⟨rfl, Nq154, eq154⟩ := hQ154
  have N155 := Fr.app N153 Nq154
  by_cases hb156 : x = (63 : Int32)
  · rw [if_pos hb156] at st154
    refine gv st154 ?_
    show G (T154.setTop (mkF me_ 36 #[.val (.ref b), .val (.int (63 : Int32)), .val (.int (0 : Int32)), .val (.int (1 : Int32))] [(.int (0 : Int32))]))
    refine gf _ (own_ret X154 Bd.notSynchronized (v := some (.int (0 : Int32))) (fun h => by rw [Bd.returns] at h; cases h) ?_ (by decide) (by decide) (fun fs hr => retOut X154 hx (t := .int) Bd.returns rfl (Or.inl ⟨rfl, Or.inl rfl, _, rfl⟩) (hb hby d14_36) hr))
    show Q_l1io63 Z b k x h0 n0 _ T154.heap _
    rw [eq154]
    exact ⟨(by rw [if_pos hb156]), N155, rfl⟩
  · skip
    rw [if_neg hb156] at st154
    refine gv st154 ?_
    show G (T154.setTop (mkF me_ 36 #[.val (.ref b), .val (.int (63 : Int32)), .val (.int (0 : Int32)), .val (.int (1 : Int32))] [(.int (-1 : Int32))]))
    refine gf _ (own_ret X154 Bd.notSynchronized (v := some (.int (-1 : Int32))) (fun h => by rw [Bd.returns] at h; cases h) ?_ (by decide) (by decide) (fun fs hr => retOut X154 hx (t := .int) Bd.returns rfl (Or.inl ⟨rfl, Or.inl rfl, _, rfl⟩) (hb hby d14_36) hr))
    show Q_l1io63 Z b k x h0 n0 _ T154.heap _
    rw [eq154]
    exact ⟨(by rw [if_neg hb156]), N155, rfl⟩
theorem ef_12 (m : MethodId) (x0 : Addr) (x1 : Int32) (x2 : Int32) (x3 : Int32)  : entryFrame m #[(.ref x0), (.int x1), (.int x2), (.int x3)] 5 = mkF m 0 #[.val (.ref x0), .val (.int x1), .val (.int x2), .val (.int x3), .unset] [] := by first | (simp [entryFrame, mkF, argsToLocals, Value.category]; done) | rfl
theorem d27_0 : decode jdk_52_method_48_code 0 = .ok (.iload_n 2, 1) := by decide +kernel
theorem d27_1 : decode jdk_52_method_48_code 1 = .ok (.istore 4, 2) := by decide +kernel
theorem d27_3 : decode jdk_52_method_48_code 3 = .ok (.iload 4, 2) := by decide +kernel
theorem d27_5 : decode jdk_52_method_48_code 5 = .ok (.iload_n 3, 1) := by decide +kernel
theorem d27_6 : decode jdk_52_method_48_code 6 = .ok (.if_icmp .ge 22, 3) := by decide +kernel
theorem d27_9 : decode jdk_52_method_48_code 9 = .ok (.aload_n 0, 1) := by decide +kernel
theorem d27_10 : decode jdk_52_method_48_code 10 = .ok (.iload 4, 2) := by decide +kernel
theorem d27_12 : decode jdk_52_method_48_code 12 = .ok (.invokestatic 71, 3) := by decide +kernel
theorem pd_11 : parseMethodDescriptor "([BI)C" = some ⟨[(.array .byte), .int], some .char⟩ := by decide +kernel
theorem d27_15 : decode jdk_52_method_48_code 15 = .ok (.iload_n 1, 1) := by decide +kernel
theorem d27_16 : decode jdk_52_method_48_code 16 = .ok (.if_icmp .ne 6, 3) := by decide +kernel
theorem d27_19 : decode jdk_52_method_48_code 19 = .ok (.iload 4, 2) := by decide +kernel
theorem d27_21 : decode jdk_52_method_48_code 21 = .ok (.ireturn, 1) := by decide +kernel
theorem d27_22 : decode jdk_52_method_48_code 22 = .ok (.iinc 4 1, 3) := by decide +kernel
theorem d27_25 : decode jdk_52_method_48_code 25 = .ok (.goto (-22), 3) := by decide +kernel
theorem d27_28 : decode jdk_52_method_48_code 28 = .ok (.iconst (-1), 1) := by decide +kernel
theorem d27_29 : decode jdk_52_method_48_code 29 = .ok (.ireturn, 1) := by decide +kernel
def Q_uiou63 (Z : State) (b : Addr) (k : ClassId) (x0 : Int32) (x1 : Int32) (w : Int32) (h0 : Heap) (n0 : Nat) (v : Option Value) (h : Heap) (L : List Loc) : Prop := v = some (.int (if w = (63 : Int32) then (0 : Int32) else (-1 : Int32))) ∧ Fr n0 L ∧ h = h0
set_option maxRecDepth 65536 in
set_option maxHeartbeats 40000000 in
theorem rm_uiou63 (l : Launch) (Z : State) (a0 : Array Value) (hw : ∀ d ∈ tables_1, d.before a0 Z = true) (ws : List Jvm.Cond) (b : Addr) (k : ClassId) (x0 : Int32) (x1 : Int32) (w : Int32) (h0 : Heap) (n0 : Nat) (O0 : Old Z n0 h0) (u0 : own_gc x0 x1 = w) (u1 : Sta Z Z.heap "java/lang/StringUTF16" "$assertionsDisabled" "Z" (.int (1 : Int32))) (u2 : Sta Z Z.heap "java/lang/StringUTF16" "HI_BYTE_SHIFT" "I" (.int (0 : Int32))) (u3 : Sta Z Z.heap "java/lang/StringUTF16" "LO_BYTE_SHIFT" "I" (.int (8 : Int32))) (u4 : Arv Z h0 b k .byte (2 : Int32) [(.int x0), (.int x1)] (.int (0 : Int32))) :
    MetFree l (⟨"java/lang/StringUTF16", "indexOfCharUnsafe", "([BIII)I"⟩ : MethodName) (head1 (Jvm.Cond.code (⟨"java/lang/StringUTF16", "indexOfCharUnsafe", "([BIII)I"⟩ : MethodName) jdk_52_method_48_code 5 (some .int) :: ws) ({ frames := 1, cells := 0, slots := 0, locals := 13 } : Room)) (fun aV U => aV = #[(.ref b), (.int (63 : Int32)), (.int (0 : Int32)), (.int (1 : Int32))] ∧ Z.Warmed39 U.vm ∧ U.heap = h0) (fun _ _ _ _ _ => True) (fun _ U o U' => ∃ v L, o = .returned v ∧ Q_uiou63 Z b k x0 x1 w h0 n0 v U'.heap L ∧ FrameEnd U o U' L ({ frames := 1, cells := 0, slots := 0, locals := 13 } : Room).cells ({ frames := 1, cells := 0, slots := 0, locals := 13 } : Room).slots) := by
  refine MetFree.of_bodySF (plainFor_of_name pn_2) hisR ?_
  intro pr_ en_ st_ me_ args below meth_ co_ s₁ Bd hml0 hP hK
  obtain ⟨rfl, hZ, hh⟩ := hP
  have hx := Bd.exec
  have hby := Bd.bytes
  have hml : co_.maxLocals = 5 := hml0
  have hown : st_.vm.findClass "java/lang/StringUTF16" = some me_.cls := findClass_of_methodNamed Bd.named
  have hnm := (name_of_methodNamed Bd.named Bd.method).1
  have X0 : Stand pr_ l en_ ({ frames := 1, cells := 0, slots := 0, locals := 13 } : Room) st_ me_ #[(.ref b), (.int (63 : Int32)), (.int (0 : Int32)), (.int (1 : Int32))] below meth_ co_ s₁ [] 0 0 := Stand.of_body Bd
  have e0 : s₁.heap = h0 := by rw [← hh, Bd.state]; rfl
  have N0 := Fr.nil n0
  have K0 := Keep.refl h0 []
  obtain ⟨G, gv, gf, gb⟩ := own_G pr_.tables en_ below st_ (Q_uiou63 Z b k x0 x1 w h0 n0) ({ frames := 1, cells := 0, slots := 0, locals := 13 } : Room).cells ({ frames := 1, cells := 0, slots := 0, locals := 13 } : Room).slots
  show own_Fin pr_.tables en_ below st_ (Q_uiou63 Z b k x0 x1 w h0 n0) ({ frames := 1, cells := 0, slots := 0, locals := 13 } : Room).cells ({ frames := 1, cells := 0, slots := 0, locals := 13 } : Room).slots (s₁.setTop (entryFrame me_ #[(.ref b), (.int (63 : Int32)), (.int (0 : Int32)), (.int (1 : Int32))] 5))
  refine gb _ (gv (fun tQ kQ => castTop (ef_12 me_ b (63 : Int32) (0 : Int32) (1 : Int32)) kQ) ?_)
  show G (s₁.setTop (mkF me_ 0 #[.val (.ref b), .val (.int (63 : Int32)), .val (.int (0 : Int32)), .val (.int (1 : Int32)), .unset] []))
  refine gv (fun tQ kQ => XS.iloadN X0.here hx rfl (hb hby d27_0) rfl kQ) ?_
  show G (s₁.setTop (mkF me_ 1 #[.val (.ref b), .val (.int (63 : Int32)), .val (.int (0 : Int32)), .val (.int (1 : Int32)), .unset] [(.int (0 : Int32))]))
  refine gv (fun tQ kQ => XS.istore X0.here hx rfl (hb hby d27_1) rfl (l' := #[.val (.ref b), .val (.int (63 : Int32)), .val (.int (0 : Int32)), .val (.int (1 : Int32)), .val (.int (0 : Int32))]) rfl kQ) ?_
  show G (s₁.setTop (mkF me_ 3 #[.val (.ref b), .val (.int (63 : Int32)), .val (.int (0 : Int32)), .val (.int (1 : Int32)), .val (.int (0 : Int32))] []))
  refine gv (fun tQ kQ => XS.iload X0.here hx rfl (hb hby d27_3) rfl kQ) ?_
  show G (s₁.setTop (mkF me_ 5 #[.val (.ref b), .val (.int (63 : Int32)), .val (.int (0 : Int32)), .val (.int (1 : Int32)), .val (.int (0 : Int32))] [(.int (0 : Int32))]))
  refine gv (fun tQ kQ => XS.iloadN X0.here hx rfl (hb hby d27_5) rfl kQ) ?_
  show G (s₁.setTop (mkF me_ 6 #[.val (.ref b), .val (.int (63 : Int32)), .val (.int (0 : Int32)), .val (.int (1 : Int32)), .val (.int (0 : Int32))] [(.int (1 : Int32)), (.int (0 : Int32))]))
  refine gv (fun tQ kQ => XS.icmpNo X0.here hx rfl (hb hby d27_6) rfl (tlt (by decide : (0 : Int32) < (1 : Int32))).2.1 kQ) ?_
  show G (s₁.setTop (mkF me_ 9 #[.val (.ref b), .val (.int (63 : Int32)), .val (.int (0 : Int32)), .val (.int (1 : Int32)), .val (.int (0 : Int32))] []))
  refine gv (fun tQ kQ => XS.aloadN X0.here hx rfl (hb hby d27_9) rfl rfl kQ) ?_
  show G (s₁.setTop (mkF me_ 10 #[.val (.ref b), .val (.int (63 : Int32)), .val (.int (0 : Int32)), .val (.int (1 : Int32)), .val (.int (0 : Int32))] [(.ref b)]))
  refine gv (fun tQ kQ => XS.iload X0.here hx rfl (hb hby d27_10) rfl kQ) ?_
  show G (s₁.setTop (mkF me_ 12 #[.val (.ref b), .val (.int (63 : Int32)), .val (.int (0 : Int32)), .val (.int (1 : Int32)), .val (.int (0 : Int32))] [(.int (0 : Int32)), (.ref b)]))
  obtain ⟨_, _, ⟨T157, L157, k157, n157⟩, -, X157, ⟨Lc157, hQ157, l157, y157, z157⟩, st157⟩ := Jvm.LawKit.callS X0 hx (y := (⟨"java/lang/StringUTF16", "getChar", "([BI)C"⟩ : MethodName)) hown (mvT hZ (hw _ (List.mem_of_getElem? (i := 115) rfl))) (mvT hZ (hw _ (List.mem_of_getElem? (i := 116) rfl))) (mvT hZ (hw _ (List.mem_of_getElem? (i := 81) rfl))) (mvT hZ (hw _ (List.mem_of_getElem? (i := 117) rfl))) (by decide) (backOf (W := 0) (rm_getc l Z a0 hw [] b k x0 x1 w h0 n0 O0 u0 u1 u2 u3 u4) hZ (hw _ (List.mem_of_getElem? (i := 117) rfl)) (hw _ (List.mem_of_getElem? (i := 81) rfl)) (by decide) (by decide)) (g := (mkF me_ 12 #[.val (.ref b), .val (.int (63 : Int32)), .val (.int (0 : Int32)), .val (.int (1 : Int32)), .val (.int (0 : Int32))] [(.int (0 : Int32)), (.ref b)])) rfl (by rw [hml]; rfl) (argsL := [(.ref b), (.int (0 : Int32))]) (rest := []) (lenOf pd_11 rfl) rfl (by show 2 * 0 + _ ≤ _; exact Nat.le_of_eq rfl) (hb hby d27_12) (fun _ _ => ⟨rfl, e0, (by decide : 0 + 0 ≤ _), (by decide : 0 + 0 ≤ _)⟩)
  dsimp only [Pt.U, Pt.locs, Pt.cells, Pt.slots] at X157 l157 y157 z157 st157 hQ157
  subst l157 y157 z157
  obtain ⟨rfl, Nq157, eq157⟩ := hQ157
  have N158 := Fr.app N0 Nq157
  refine gv st157 ?_
  show G (T157.setTop (mkF me_ 15 #[.val (.ref b), .val (.int (63 : Int32)), .val (.int (0 : Int32)), .val (.int (1 : Int32)), .val (.int (0 : Int32))] [(.int w)]))
  refine gv (fun tQ kQ => XS.iloadN X157.here hx rfl (hb hby d27_15) rfl kQ) ?_
  show G (T157.setTop (mkF me_ 16 #[.val (.ref b), .val (.int (63 : Int32)), .val (.int (0 : Int32)), .val (.int (1 : Int32)), .val (.int (0 : Int32))] [(.int (63 : Int32)), (.int w)]))
  by_cases hc159 : w = (63 : Int32)
  · refine gv (fun tQ kQ => XS.icmpNo X157.here hx rfl (hb hby d27_16) rfl (teq hc159).2 kQ) ?_
    show G (T157.setTop (mkF me_ 19 #[.val (.ref b), .val (.int (63 : Int32)), .val (.int (0 : Int32)), .val (.int (1 : Int32)), .val (.int (0 : Int32))] []))
    refine gv (fun tQ kQ => XS.iload X157.here hx rfl (hb hby d27_19) rfl kQ) ?_
    show G (T157.setTop (mkF me_ 21 #[.val (.ref b), .val (.int (63 : Int32)), .val (.int (0 : Int32)), .val (.int (1 : Int32)), .val (.int (0 : Int32))] [(.int (0 : Int32))]))
    refine gf _ (own_ret X157 Bd.notSynchronized (v := some (.int (0 : Int32))) (fun h => by rw [Bd.returns] at h; cases h) ?_ (by decide) (by decide) (fun fs hr => retOut X157 hx (t := .int) Bd.returns rfl (Or.inl ⟨rfl, Or.inl rfl, _, rfl⟩) (hb hby d27_21) hr))
    show Q_uiou63 Z b k x0 x1 w h0 n0 _ T157.heap _
    rw [eq157]
    exact ⟨(by rw [if_pos hc159]), N158, rfl⟩
  · refine gv (fun tQ kQ => XS.icmpYes X157.here hx rfl (pc0 := 16) (pc' := 22) rfl (hb hby d27_16) rfl (feq hc159).2 (by decide) (by decide) kQ) ?_
    show G (T157.setTop (mkF me_ 22 #[.val (.ref b), .val (.int (63 : Int32)), .val (.int (0 : Int32)), .val (.int (1 : Int32)), .val (.int (0 : Int32))] []))
    refine gv (fun tQ kQ => XS.iinc X157.here hx rfl (hb hby d27_22) rfl (l' := #[.val (.ref b), .val (.int (63 : Int32)), .val (.int (0 : Int32)), .val (.int (1 : Int32)), .val (.int ((0 : Int32) + (1 : Int32)))]) rfl kQ) ?_
    show G (T157.setTop (mkF me_ 25 #[.val (.ref b), .val (.int (63 : Int32)), .val (.int (0 : Int32)), .val (.int (1 : Int32)), .val (.int ((0 : Int32) + (1 : Int32)))] []))
    rw [(by decide : ((0 : Int32) + (1 : Int32)) = (1 : Int32))]
    show G (T157.setTop (mkF me_ 25 #[.val (.ref b), .val (.int (63 : Int32)), .val (.int (0 : Int32)), .val (.int (1 : Int32)), .val (.int (1 : Int32))] []))
    refine gv (fun tQ kQ => XS.goto X157.here hx rfl (pc0 := 25) (pc' := 3) rfl (hb hby d27_25) (by decide) (by decide) kQ) ?_
    show G (T157.setTop (mkF me_ 3 #[.val (.ref b), .val (.int (63 : Int32)), .val (.int (0 : Int32)), .val (.int (1 : Int32)), .val (.int (1 : Int32))] []))
    refine gv (fun tQ kQ => XS.iload X157.here hx rfl (hb hby d27_3) rfl kQ) ?_
    show G (T157.setTop (mkF me_ 5 #[.val (.ref b), .val (.int (63 : Int32)), .val (.int (0 : Int32)), .val (.int (1 : Int32)), .val (.int (1 : Int32))] [(.int (1 : Int32))]))
    refine gv (fun tQ kQ => XS.iloadN X157.here hx rfl (hb hby d27_5) rfl kQ) ?_
    show G (T157.setTop (mkF me_ 6 #[.val (.ref b), .val (.int (63 : Int32)), .val (.int (0 : Int32)), .val (.int (1 : Int32)), .val (.int (1 : Int32))] [(.int (1 : Int32)), (.int (1 : Int32))]))
    refine gv (fun tQ kQ => XS.icmpYes X157.here hx rfl (pc0 := 6) (pc' := 28) rfl (hb hby d27_6) rfl (flt (by decide : ¬ ((1 : Int32) < (1 : Int32)))).2.1 (by decide) (by decide) kQ) ?_
    show G (T157.setTop (mkF me_ 28 #[.val (.ref b), .val (.int (63 : Int32)), .val (.int (0 : Int32)), .val (.int (1 : Int32)), .val (.int (1 : Int32))] []))
    refine gv (fun tQ kQ => XS.iconst X157.here hx rfl (hb hby d27_28) kQ) ?_
    show G (T157.setTop (mkF me_ 29 #[.val (.ref b), .val (.int (63 : Int32)), .val (.int (0 : Int32)), .val (.int (1 : Int32)), .val (.int (1 : Int32))] [(.int (-1 : Int32))]))
    refine gf _ (own_ret X157 Bd.notSynchronized (v := some (.int (-1 : Int32))) (fun h => by rw [Bd.returns] at h; cases h) ?_ (by decide) (by decide) (fun fs hr => retOut X157 hx (t := .int) Bd.returns rfl (Or.inl ⟨rfl, Or.inl rfl, _, rfl⟩) (hb hby d27_29) hr))
    show Q_uiou63 Z b k x0 x1 w h0 n0 _ T157.heap _
    rw [eq157]
    exact ⟨(by rw [if_neg hc159]), N158, rfl⟩
theorem d22_0 : decode jdk_52_method_47_code 0 = .ok (.iload_n 2, 1) := by decide +kernel
theorem d22_1 : decode jdk_52_method_47_code 1 = .ok (.iload_n 3, 1) := by decide +kernel
theorem d22_2 : decode jdk_52_method_47_code 2 = .ok (.aload_n 0, 1) := by decide +kernel
theorem d22_3 : decode jdk_52_method_47_code 3 = .ok (.invokestatic 96, 3) := by decide +kernel
theorem pd_12 : parseMethodDescriptor "(II[B)V" = some ⟨[.int, .int, (.array .byte)], none⟩ := by decide +kernel
theorem d22_6 : decode jdk_52_method_47_code 6 = .ok (.aload_n 0, 1) := by decide +kernel
theorem d22_7 : decode jdk_52_method_47_code 7 = .ok (.iload_n 1, 1) := by decide +kernel
theorem d22_8 : decode jdk_52_method_47_code 8 = .ok (.iload_n 2, 1) := by decide +kernel
theorem d22_9 : decode jdk_52_method_47_code 9 = .ok (.iload_n 3, 1) := by decide +kernel
theorem d22_10 : decode jdk_52_method_47_code 10 = .ok (.invokestatic 244, 3) := by decide +kernel
theorem d22_13 : decode jdk_52_method_47_code 13 = .ok (.ireturn, 1) := by decide +kernel
def Q_uioc63 (Z : State) (b : Addr) (k : ClassId) (x0 : Int32) (x1 : Int32) (w : Int32) (fmt : Value) (h0 : Heap) (n0 : Nat) (v : Option Value) (h : Heap) (L : List Loc) : Prop := v = some (.int (if w = (63 : Int32) then (0 : Int32) else (-1 : Int32))) ∧ Fr n0 L ∧ h = h0
set_option maxRecDepth 65536 in
set_option maxHeartbeats 40000000 in
theorem rm_uioc63 (l : Launch) (Z : State) (a0 : Array Value) (hw : ∀ d ∈ tables_1, d.before a0 Z = true) (ws : List Jvm.Cond) (b : Addr) (k : ClassId) (x0 : Int32) (x1 : Int32) (w : Int32) (fmt : Value) (h0 : Heap) (n0 : Nat) (O0 : Old Z n0 h0) (u0 : own_gc x0 x1 = w) (u1 : Sta Z Z.heap "java/lang/StringUTF16" "$assertionsDisabled" "Z" (.int (1 : Int32))) (u2 : Sta Z Z.heap "java/lang/StringUTF16" "HI_BYTE_SHIFT" "I" (.int (0 : Int32))) (u3 : Sta Z Z.heap "java/lang/StringUTF16" "LO_BYTE_SHIFT" "I" (.int (8 : Int32))) (u4 : fmt.isRef = true) (u5 : Sta Z Z.heap "jdk/internal/util/Preconditions" "SIOOBE_FORMATTER" "Ljava/util/function/BiFunction;" fmt) (u6 : Arv Z h0 b k .byte (2 : Int32) [(.int x0), (.int x1)] (.int (0 : Int32))) :
    MetFree l (⟨"java/lang/StringUTF16", "indexOfChar", "([BIII)I"⟩ : MethodName) (head1 (Jvm.Cond.code (⟨"java/lang/StringUTF16", "indexOfChar", "([BIII)I"⟩ : MethodName) jdk_52_method_47_code 4 (some .int) :: ws) ({ frames := 3, cells := 0, slots := 0, locals := 43 } : Room)) (fun aV U => aV = #[(.ref b), (.int (63 : Int32)), (.int (0 : Int32)), (.int (1 : Int32))] ∧ Z.Warmed39 U.vm ∧ U.heap = h0) (fun _ _ _ _ _ => True) (fun _ U o U' => ∃ v L, o = .returned v ∧ Q_uioc63 Z b k x0 x1 w fmt h0 n0 v U'.heap L ∧ FrameEnd U o U' L ({ frames := 3, cells := 0, slots := 0, locals := 43 } : Room).cells ({ frames := 3, cells := 0, slots := 0, locals := 43 } : Room).slots) := by
  refine MetFree.of_bodySF (plainFor_of_name pn_2) hisR ?_
  intro pr_ en_ st_ me_ args below meth_ co_ s₁ Bd hml0 hP hK
  obtain ⟨rfl, hZ, hh⟩ := hP
  have hx := Bd.exec
  have hby := Bd.bytes
  have hml : co_.maxLocals = 4 := hml0
  have hown : st_.vm.findClass "java/lang/StringUTF16" = some me_.cls := findClass_of_methodNamed Bd.named
  have hnm := (name_of_methodNamed Bd.named Bd.method).1
  have X0 : Stand pr_ l en_ ({ frames := 3, cells := 0, slots := 0, locals := 43 } : Room) st_ me_ #[(.ref b), (.int (63 : Int32)), (.int (0 : Int32)), (.int (1 : Int32))] below meth_ co_ s₁ [] 0 0 := Stand.of_body Bd
  have e0 : s₁.heap = h0 := by rw [← hh, Bd.state]; rfl
  have N0 := Fr.nil n0
  have K0 := Keep.refl h0 []
  obtain ⟨G, gv, gf, gb⟩ := own_G pr_.tables en_ below st_ (Q_uioc63 Z b k x0 x1 w fmt h0 n0) ({ frames := 3, cells := 0, slots := 0, locals := 43 } : Room).cells ({ frames := 3, cells := 0, slots := 0, locals := 43 } : Room).slots
  show own_Fin pr_.tables en_ below st_ (Q_uioc63 Z b k x0 x1 w fmt h0 n0) ({ frames := 3, cells := 0, slots := 0, locals := 43 } : Room).cells ({ frames := 3, cells := 0, slots := 0, locals := 43 } : Room).slots (s₁.setTop (entryFrame me_ #[(.ref b), (.int (63 : Int32)), (.int (0 : Int32)), (.int (1 : Int32))] 4))
  refine gb _ (gv (fun tQ kQ => castTop (ef_11 me_ b (63 : Int32) (0 : Int32) (1 : Int32)) kQ) ?_)
  show G (s₁.setTop (mkF me_ 0 #[.val (.ref b), .val (.int (63 : Int32)), .val (.int (0 : Int32)), .val (.int (1 : Int32))] []))
  refine gv (fun tQ kQ => XS.iloadN X0.here hx rfl (hb hby d22_0) rfl kQ) ?_
  show G (s₁.setTop (mkF me_ 1 #[.val (.ref b), .val (.int (63 : Int32)), .val (.int (0 : Int32)), .val (.int (1 : Int32))] [(.int (0 : Int32))]))
  refine gv (fun tQ kQ => XS.iloadN X0.here hx rfl (hb hby d22_1) rfl kQ) ?_
  show G (s₁.setTop (mkF me_ 2 #[.val (.ref b), .val (.int (63 : Int32)), .val (.int (0 : Int32)), .val (.int (1 : Int32))] [(.int (1 : Int32)), (.int (0 : Int32))]))
  refine gv (fun tQ kQ => XS.aloadN X0.here hx rfl (hb hby d22_2) rfl rfl kQ) ?_
  show G (s₁.setTop (mkF me_ 3 #[.val (.ref b), .val (.int (63 : Int32)), .val (.int (0 : Int32)), .val (.int (1 : Int32))] [(.ref b), (.int (1 : Int32)), (.int (0 : Int32))]))
  obtain ⟨_, _, ⟨T160, L160, k160, n160⟩, -, X160, ⟨Lc160, hQ160, l160, y160, z160⟩, st160⟩ := Jvm.LawKit.callS X0 hx (y := (⟨"java/lang/StringUTF16", "checkBoundsBeginEnd", "(II[B)V"⟩ : MethodName)) hown (mvT hZ (hw _ (List.mem_of_getElem? (i := 98) rfl))) (mvT hZ (hw _ (List.mem_of_getElem? (i := 99) rfl))) (mvT hZ (hw _ (List.mem_of_getElem? (i := 81) rfl))) (mvT hZ (hw _ (List.mem_of_getElem? (i := 100) rfl))) (by decide) (backOf (W := 0) (rm_ucbe l Z a0 hw [] b k x0 x1 fmt h0 n0 O0 u4 u5 u6) hZ (hw _ (List.mem_of_getElem? (i := 100) rfl)) (hw _ (List.mem_of_getElem? (i := 81) rfl)) (by decide) (by decide)) (g := (mkF me_ 3 #[.val (.ref b), .val (.int (63 : Int32)), .val (.int (0 : Int32)), .val (.int (1 : Int32))] [(.ref b), (.int (1 : Int32)), (.int (0 : Int32))])) rfl (by rw [hml]; rfl) (argsL := [(.int (0 : Int32)), (.int (1 : Int32)), (.ref b)]) (rest := []) (lenOf pd_12 rfl) rfl (by show 2 * 0 + _ ≤ _; exact Nat.le_of_eq rfl) (hb hby d22_3) (fun _ _ => ⟨rfl, e0, (by decide : 0 + 0 ≤ _), (by decide : 0 + 0 ≤ _)⟩)
  dsimp only [Pt.U, Pt.locs, Pt.cells, Pt.slots] at X160 l160 y160 z160 st160 hQ160
  subst l160 y160 z160
  obtain ⟨rfl, Nq160, eq160⟩ := hQ160
  have N161 := Fr.app N0 Nq160
  refine gv st160 ?_
  show G (T160.setTop (mkF me_ 6 #[.val (.ref b), .val (.int (63 : Int32)), .val (.int (0 : Int32)), .val (.int (1 : Int32))] []))
  refine gv (fun tQ kQ => XS.aloadN X160.here hx rfl (hb hby d22_6) rfl rfl kQ) ?_
  show G (T160.setTop (mkF me_ 7 #[.val (.ref b), .val (.int (63 : Int32)), .val (.int (0 : Int32)), .val (.int (1 : Int32))] [(.ref b)]))
  refine gv (fun tQ kQ => XS.iloadN X160.here hx rfl (hb hby d22_7) rfl kQ) ?_
  show G (T160.setTop (mkF me_ 8 #[.val (.ref b), .val (.int (63 : Int32)), .val (.int (0 : Int32)), .val (.int (1 : Int32))] [(.int (63 : Int32)), (.ref b)]))
  refine gv (fun tQ kQ => XS.iloadN X160.here hx rfl (hb hby d22_8) rfl kQ) ?_
  show G (T160.setTop (mkF me_ 9 #[.val (.ref b), .val (.int (63 : Int32)), .val (.int (0 : Int32)), .val (.int (1 : Int32))] [(.int (0 : Int32)), (.int (63 : Int32)), (.ref b)]))
  refine gv (fun tQ kQ => XS.iloadN X160.here hx rfl (hb hby d22_9) rfl kQ) ?_
  show G (T160.setTop (mkF me_ 10 #[.val (.ref b), .val (.int (63 : Int32)), .val (.int (0 : Int32)), .val (.int (1 : Int32))] [(.int (1 : Int32)), (.int (0 : Int32)), (.int (63 : Int32)), (.ref b)]))
  obtain ⟨_, _, ⟨T162, L162, k162, n162⟩, -, X162, ⟨Lc162, hQ162, l162, y162, z162⟩, st162⟩ := Jvm.LawKit.callS X160 hx (y := (⟨"java/lang/StringUTF16", "indexOfCharUnsafe", "([BIII)I"⟩ : MethodName)) hown (mvT hZ (hw _ (List.mem_of_getElem? (i := 112) rfl))) (mvT hZ (hw _ (List.mem_of_getElem? (i := 113) rfl))) (mvT hZ (hw _ (List.mem_of_getElem? (i := 81) rfl))) (mvT hZ (hw _ (List.mem_of_getElem? (i := 114) rfl))) (by decide) (backOf (W := 0) (rm_uiou63 l Z a0 hw [] b k x0 x1 w h0 n0 O0 u0 u1 u2 u3 u6) hZ (hw _ (List.mem_of_getElem? (i := 114) rfl)) (hw _ (List.mem_of_getElem? (i := 81) rfl)) (by decide) (by decide)) (g := (mkF me_ 10 #[.val (.ref b), .val (.int (63 : Int32)), .val (.int (0 : Int32)), .val (.int (1 : Int32))] [(.int (1 : Int32)), (.int (0 : Int32)), (.int (63 : Int32)), (.ref b)])) rfl (by rw [hml]; rfl) (argsL := [(.ref b), (.int (63 : Int32)), (.int (0 : Int32)), (.int (1 : Int32))]) (rest := []) (lenOf pd_10 rfl) rfl (by show 2 * 0 + _ ≤ _; exact Nat.le_of_eq rfl) (hb hby d22_10) (fun _ _ => ⟨rfl, eq160, (by decide : 0 + 0 ≤ _), (by decide : 0 + 0 ≤ _)⟩)
  dsimp only [Pt.U, Pt.locs, Pt.cells, Pt.slots] at X162 l162 y162 z162 st162 hQ162
  subst l162 y162 z162
  obtain ⟨rfl, Nq162, eq162⟩ := hQ162
  have N163 := Fr.app N161 Nq162
  by_cases hb164 : w = (63 : Int32)
  · rw [if_pos hb164] at st162
    refine gv st162 ?_
    show G (T162.setTop (mkF me_ 13 #[.val (.ref b), .val (.int (63 : Int32)), .val (.int (0 : Int32)), .val (.int (1 : Int32))] [(.int (0 : Int32))]))
    refine gf _ (own_ret X162 Bd.notSynchronized (v := some (.int (0 : Int32))) (fun h => by rw [Bd.returns] at h; cases h) ?_ (by decide) (by decide) (fun fs hr => retOut X162 hx (t := .int) Bd.returns rfl (Or.inl ⟨rfl, Or.inl rfl, _, rfl⟩) (hb hby d22_13) hr))
    show Q_uioc63 Z b k x0 x1 w fmt h0 n0 _ T162.heap _
    rw [eq162]
    exact ⟨(by rw [if_pos hb164]), N163, rfl⟩
  · skip
    rw [if_neg hb164] at st162
    refine gv st162 ?_
    show G (T162.setTop (mkF me_ 13 #[.val (.ref b), .val (.int (63 : Int32)), .val (.int (0 : Int32)), .val (.int (1 : Int32))] [(.int (-1 : Int32))]))
    refine gf _ (own_ret X162 Bd.notSynchronized (v := some (.int (-1 : Int32))) (fun h => by rw [Bd.returns] at h; cases h) ?_ (by decide) (by decide) (fun fs hr => retOut X162 hx (t := .int) Bd.returns rfl (Or.inl ⟨rfl, Or.inl rfl, _, rfl⟩) (hb hby d22_13) hr))
    show Q_uioc63 Z b k x0 x1 w fmt h0 n0 _ T162.heap _
    rw [eq162]
    exact ⟨(by rw [if_neg hb164]), N163, rfl⟩
theorem d21_0 : decode jdk_52_method_40_code 0 = .ok (.iload_n 2, 1) := by decide +kernel
theorem d21_1 : decode jdk_52_method_40_code 1 = .ok (.iconst 0, 1) := by decide +kernel
theorem d21_2 : decode jdk_52_method_40_code 2 = .ok (.invokestatic 224, 3) := by decide +kernel
theorem d21_5 : decode jdk_52_method_40_code 5 = .ok (.istore_n 2, 1) := by decide +kernel
theorem d21_6 : decode jdk_52_method_40_code 6 = .ok (.iload_n 3, 1) := by decide +kernel
theorem d21_7 : decode jdk_52_method_40_code 7 = .ok (.aload_n 0, 1) := by decide +kernel
theorem d21_8 : decode jdk_52_method_40_code 8 = .ok (.arraylength, 1) := by decide +kernel
theorem d21_9 : decode jdk_52_method_40_code 9 = .ok (.iconst 1, 1) := by decide +kernel
theorem d21_10 : decode jdk_52_method_40_code 10 = .ok (.ishr, 1) := by decide +kernel
theorem d21_11 : decode jdk_52_method_40_code 11 = .ok (.invokestatic 183, 3) := by decide +kernel
theorem d21_14 : decode jdk_52_method_40_code 14 = .ok (.istore_n 3, 1) := by decide +kernel
theorem d21_15 : decode jdk_52_method_40_code 15 = .ok (.iload_n 2, 1) := by decide +kernel
theorem d21_16 : decode jdk_52_method_40_code 16 = .ok (.iload_n 3, 1) := by decide +kernel
theorem d21_17 : decode jdk_52_method_40_code 17 = .ok (.if_icmp .lt 5, 3) := by decide +kernel
theorem d21_22 : decode jdk_52_method_40_code 22 = .ok (.iload_n 1, 1) := by decide +kernel
theorem d21_23 : decode jdk_52_method_40_code 23 = .ok (.ldc 227, 2) := by decide +kernel
theorem d21_25 : decode jdk_52_method_40_code 25 = .ok (.if_icmp .ge 11, 3) := by decide +kernel
theorem d21_28 : decode jdk_52_method_40_code 28 = .ok (.aload_n 0, 1) := by decide +kernel
theorem d21_29 : decode jdk_52_method_40_code 29 = .ok (.iload_n 1, 1) := by decide +kernel
theorem d21_30 : decode jdk_52_method_40_code 30 = .ok (.iload_n 2, 1) := by decide +kernel
theorem d21_31 : decode jdk_52_method_40_code 31 = .ok (.iload_n 3, 1) := by decide +kernel
theorem d21_32 : decode jdk_52_method_40_code 32 = .ok (.invokestatic 228, 3) := by decide +kernel
theorem d21_35 : decode jdk_52_method_40_code 35 = .ok (.ireturn, 1) := by decide +kernel
def Q_uio63 (Z : State) (b : Addr) (k : ClassId) (x0 : Int32) (x1 : Int32) (w : Int32) (fmt : Value) (h0 : Heap) (n0 : Nat) (v : Option Value) (h : Heap) (L : List Loc) : Prop := v = some (.int (if w = (63 : Int32) then (0 : Int32) else (-1 : Int32))) ∧ Fr n0 L ∧ h = h0
set_option maxRecDepth 65536 in
set_option maxHeartbeats 40000000 in
theorem rm_uio63 (l : Launch) (Z : State) (a0 : Array Value) (hw : ∀ d ∈ tables_1, d.before a0 Z = true) (ws : List Jvm.Cond) (b : Addr) (k : ClassId) (x0 : Int32) (x1 : Int32) (w : Int32) (fmt : Value) (h0 : Heap) (n0 : Nat) (O0 : Old Z n0 h0) (u0 : own_gc x0 x1 = w) (u1 : Sta Z Z.heap "java/lang/StringUTF16" "$assertionsDisabled" "Z" (.int (1 : Int32))) (u2 : Sta Z Z.heap "java/lang/StringUTF16" "HI_BYTE_SHIFT" "I" (.int (0 : Int32))) (u3 : Sta Z Z.heap "java/lang/StringUTF16" "LO_BYTE_SHIFT" "I" (.int (8 : Int32))) (u4 : fmt.isRef = true) (u5 : Sta Z Z.heap "jdk/internal/util/Preconditions" "SIOOBE_FORMATTER" "Ljava/util/function/BiFunction;" fmt) (u6 : Arv Z h0 b k .byte (2 : Int32) [(.int x0), (.int x1)] (.int (0 : Int32))) :
    MetFree l (⟨"java/lang/StringUTF16", "indexOf", "([BIII)I"⟩ : MethodName) (head1 (Jvm.Cond.code (⟨"java/lang/StringUTF16", "indexOf", "([BIII)I"⟩ : MethodName) jdk_52_method_40_code 4 (some .int) :: ws) ({ frames := 4, cells := 0, slots := 0, locals := 58 } : Room)) (fun aV U => aV = #[(.ref b), (.int (63 : Int32)), (.int (0 : Int32)), (.int (1 : Int32))] ∧ Z.Warmed39 U.vm ∧ U.heap = h0) (fun _ _ _ _ _ => True) (fun _ U o U' => ∃ v L, o = .returned v ∧ Q_uio63 Z b k x0 x1 w fmt h0 n0 v U'.heap L ∧ FrameEnd U o U' L ({ frames := 4, cells := 0, slots := 0, locals := 58 } : Room).cells ({ frames := 4, cells := 0, slots := 0, locals := 58 } : Room).slots) := by
  refine MetFree.of_bodySF (plainFor_of_name pn_2) hisR ?_
  intro pr_ en_ st_ me_ args below meth_ co_ s₁ Bd hml0 hP hK
  obtain ⟨rfl, hZ, hh⟩ := hP
  have hx := Bd.exec
  have hby := Bd.bytes
  have hml : co_.maxLocals = 4 := hml0
  have hown : st_.vm.findClass "java/lang/StringUTF16" = some me_.cls := findClass_of_methodNamed Bd.named
  have hnm := (name_of_methodNamed Bd.named Bd.method).1
  have X0 : Stand pr_ l en_ ({ frames := 4, cells := 0, slots := 0, locals := 58 } : Room) st_ me_ #[(.ref b), (.int (63 : Int32)), (.int (0 : Int32)), (.int (1 : Int32))] below meth_ co_ s₁ [] 0 0 := Stand.of_body Bd
  have e0 : s₁.heap = h0 := by rw [← hh, Bd.state]; rfl
  have N0 := Fr.nil n0
  have K0 := Keep.refl h0 []
  obtain ⟨G, gv, gf, gb⟩ := own_G pr_.tables en_ below st_ (Q_uio63 Z b k x0 x1 w fmt h0 n0) ({ frames := 4, cells := 0, slots := 0, locals := 58 } : Room).cells ({ frames := 4, cells := 0, slots := 0, locals := 58 } : Room).slots
  show own_Fin pr_.tables en_ below st_ (Q_uio63 Z b k x0 x1 w fmt h0 n0) ({ frames := 4, cells := 0, slots := 0, locals := 58 } : Room).cells ({ frames := 4, cells := 0, slots := 0, locals := 58 } : Room).slots (s₁.setTop (entryFrame me_ #[(.ref b), (.int (63 : Int32)), (.int (0 : Int32)), (.int (1 : Int32))] 4))
  refine gb _ (gv (fun tQ kQ => castTop (ef_11 me_ b (63 : Int32) (0 : Int32) (1 : Int32)) kQ) ?_)
  show G (s₁.setTop (mkF me_ 0 #[.val (.ref b), .val (.int (63 : Int32)), .val (.int (0 : Int32)), .val (.int (1 : Int32))] []))
  refine gv (fun tQ kQ => XS.iloadN X0.here hx rfl (hb hby d21_0) rfl kQ) ?_
  show G (s₁.setTop (mkF me_ 1 #[.val (.ref b), .val (.int (63 : Int32)), .val (.int (0 : Int32)), .val (.int (1 : Int32))] [(.int (0 : Int32))]))
  refine gv (fun tQ kQ => XS.iconst X0.here hx rfl (hb hby d21_1) kQ) ?_
  show G (s₁.setTop (mkF me_ 2 #[.val (.ref b), .val (.int (63 : Int32)), .val (.int (0 : Int32)), .val (.int (1 : Int32))] [(.int (0 : Int32)), (.int (0 : Int32))]))
  obtain ⟨_, _, ⟨T165, L165, k165, n165⟩, -, X165, ⟨Lc165, hQ165, l165, y165, z165⟩, st165⟩ := Jvm.LawKit.callS X0 hx (y := (⟨"java/lang/Math", "max", "(II)I"⟩ : MethodName)) hown (mvT hZ (hw _ (List.mem_of_getElem? (i := 92) rfl))) (mvT hZ (hw _ (List.mem_of_getElem? (i := 70) rfl))) (mvT hZ (hw _ (List.mem_of_getElem? (i := 71) rfl))) (mvT hZ (hw _ (List.mem_of_getElem? (i := 72) rfl))) (by decide) (backOf (W := 0) (rm_max_0_0 l Z a0 hw []  h0 n0 O0 ) hZ (hw _ (List.mem_of_getElem? (i := 72) rfl)) (hw _ (List.mem_of_getElem? (i := 71) rfl)) (by decide) (by decide)) (g := (mkF me_ 2 #[.val (.ref b), .val (.int (63 : Int32)), .val (.int (0 : Int32)), .val (.int (1 : Int32))] [(.int (0 : Int32)), (.int (0 : Int32))])) rfl (by rw [hml]; rfl) (argsL := [(.int (0 : Int32)), (.int (0 : Int32))]) (rest := []) (lenOf pd_9 rfl) rfl (by show 2 * 0 + _ ≤ _; exact Nat.le_of_eq rfl) (hb hby d21_2) (fun _ _ => ⟨rfl, e0, (by decide : 0 + 0 ≤ _), (by decide : 0 + 0 ≤ _)⟩)
  dsimp only [Pt.U, Pt.locs, Pt.cells, Pt.slots] at X165 l165 y165 z165 st165 hQ165
  subst l165 y165 z165
  obtain ⟨rfl, Nq165, eq165⟩ := hQ165
  have N166 := Fr.app N0 Nq165
  refine gv st165 ?_
  show G (T165.setTop (mkF me_ 5 #[.val (.ref b), .val (.int (63 : Int32)), .val (.int (0 : Int32)), .val (.int (1 : Int32))] [(.int (0 : Int32))]))
  refine gv (fun tQ kQ => XS.istoreN X165.here hx rfl (hb hby d21_5) rfl (l' := #[.val (.ref b), .val (.int (63 : Int32)), .val (.int (0 : Int32)), .val (.int (1 : Int32))]) rfl kQ) ?_
  show G (T165.setTop (mkF me_ 6 #[.val (.ref b), .val (.int (63 : Int32)), .val (.int (0 : Int32)), .val (.int (1 : Int32))] []))
  refine gv (fun tQ kQ => XS.iloadN X165.here hx rfl (hb hby d21_6) rfl kQ) ?_
  show G (T165.setTop (mkF me_ 7 #[.val (.ref b), .val (.int (63 : Int32)), .val (.int (0 : Int32)), .val (.int (1 : Int32))] [(.int (1 : Int32))]))
  refine gv (fun tQ kQ => XS.aloadN X165.here hx rfl (hb hby d21_7) rfl rfl kQ) ?_
  show G (T165.setTop (mkF me_ 8 #[.val (.ref b), .val (.int (63 : Int32)), .val (.int (0 : Int32)), .val (.int (1 : Int32))] [(.ref b), (.int (1 : Int32))]))
  obtain ⟨cl167, Ar167, -, S167, n167, -, -⟩ := (id u6)
  refine gv (X165.arraylength hx (by rw [eq165]; exact Ar167.1) (State.isArrayOf_alike hZ.alike Ar167.2.1) (g := (mkF me_ 8 #[.val (.ref b), .val (.int (63 : Int32)), .val (.int (0 : Int32)), .val (.int (1 : Int32))] [(.ref b), (.int (1 : Int32))])) rfl rfl (hb hby d21_8)) ?_
  rw [len_of S167 n167]
  show G (T165.setTop (mkF me_ 9 #[.val (.ref b), .val (.int (63 : Int32)), .val (.int (0 : Int32)), .val (.int (1 : Int32))] [(.int (2 : Int32)), (.int (1 : Int32))]))
  refine gv (fun tQ kQ => XS.iconst X165.here hx rfl (hb hby d21_9) kQ) ?_
  show G (T165.setTop (mkF me_ 10 #[.val (.ref b), .val (.int (63 : Int32)), .val (.int (0 : Int32)), .val (.int (1 : Int32))] [(.int (1 : Int32)), (.int (2 : Int32)), (.int (1 : Int32))]))
  refine gv (fun tQ kQ => XS.ishr X165.here hx rfl (hb hby d21_10) rfl kQ) ?_
  show G (T165.setTop (mkF me_ 11 #[.val (.ref b), .val (.int (63 : Int32)), .val (.int (0 : Int32)), .val (.int (1 : Int32))] [(.int ((2 : Int32) >>> ((1 : Int32) &&& 31))), (.int (1 : Int32))]))
  rw [(by decide : ((2 : Int32) >>> ((1 : Int32) &&& 31)) = (1 : Int32))]
  show G (T165.setTop (mkF me_ 11 #[.val (.ref b), .val (.int (63 : Int32)), .val (.int (0 : Int32)), .val (.int (1 : Int32))] [(.int (1 : Int32)), (.int (1 : Int32))]))
  obtain ⟨_, _, ⟨T168, L168, k168, n168⟩, -, X168, ⟨Lc168, hQ168, l168, y168, z168⟩, st168⟩ := Jvm.LawKit.callS X165 hx (y := (⟨"java/lang/Math", "min", "(II)I"⟩ : MethodName)) hown (mvT hZ (hw _ (List.mem_of_getElem? (i := 93) rfl))) (mvT hZ (hw _ (List.mem_of_getElem? (i := 74) rfl))) (mvT hZ (hw _ (List.mem_of_getElem? (i := 71) rfl))) (mvT hZ (hw _ (List.mem_of_getElem? (i := 75) rfl))) (by decide) (backOf (W := 0) (rm_min_1_1 l Z a0 hw []  h0 n0 O0 ) hZ (hw _ (List.mem_of_getElem? (i := 75) rfl)) (hw _ (List.mem_of_getElem? (i := 71) rfl)) (by decide) (by decide)) (g := (mkF me_ 11 #[.val (.ref b), .val (.int (63 : Int32)), .val (.int (0 : Int32)), .val (.int (1 : Int32))] [(.int (1 : Int32)), (.int (1 : Int32))])) rfl (by rw [hml]; rfl) (argsL := [(.int (1 : Int32)), (.int (1 : Int32))]) (rest := []) (lenOf pd_9 rfl) rfl (by show 2 * 0 + _ ≤ _; exact Nat.le_of_eq rfl) (hb hby d21_11) (fun _ _ => ⟨rfl, eq165, (by decide : 0 + 0 ≤ _), (by decide : 0 + 0 ≤ _)⟩)
  dsimp only [Pt.U, Pt.locs, Pt.cells, Pt.slots] at X168 l168 y168 z168 st168 hQ168
  subst l168 y168 z168
  obtain ⟨rfl, Nq168, eq168⟩ := hQ168
  have N169 := Fr.app N166 Nq168
  refine gv st168 ?_
  show G (T168.setTop (mkF me_ 14 #[.val (.ref b), .val (.int (63 : Int32)), .val (.int (0 : Int32)), .val (.int (1 : Int32))] [(.int (1 : Int32))]))
  refine gv (fun tQ kQ => XS.istoreN X168.here hx rfl (hb hby d21_14) rfl (l' := #[.val (.ref b), .val (.int (63 : Int32)), .val (.int (0 : Int32)), .val (.int (1 : Int32))]) rfl kQ) ?_
  show G (T168.setTop (mkF me_ 15 #[.val (.ref b), .val (.int (63 : Int32)), .val (.int (0 : Int32)), .val (.int (1 : Int32))] []))
  refine gv (fun tQ kQ => XS.iloadN X168.here hx rfl (hb hby d21_15) rfl kQ) ?_
  show G (T168.setTop (mkF me_ 16 #[.val (.ref b), .val (.int (63 : Int32)), .val (.int (0 : Int32)), .val (.int (1 : Int32))] [(.int (0 : Int32))]))
  refine gv (fun tQ kQ => XS.iloadN X168.here hx rfl (hb hby d21_16) rfl kQ) ?_
  show G (T168.setTop (mkF me_ 17 #[.val (.ref b), .val (.int (63 : Int32)), .val (.int (0 : Int32)), .val (.int (1 : Int32))] [(.int (1 : Int32)), (.int (0 : Int32))]))
  refine gv (fun tQ kQ => XS.icmpYes X168.here hx rfl (pc0 := 17) (pc' := 22) rfl (hb hby d21_17) rfl (tlt (by decide : (0 : Int32) < (1 : Int32))).1 (by decide) (by decide) kQ) ?_
  show G (T168.setTop (mkF me_ 22 #[.val (.ref b), .val (.int (63 : Int32)), .val (.int (0 : Int32)), .val (.int (1 : Int32))] []))
  refine gv (fun tQ kQ => XS.iloadN X168.here hx rfl (hb hby d21_22) rfl kQ) ?_
  show G (T168.setTop (mkF me_ 23 #[.val (.ref b), .val (.int (63 : Int32)), .val (.int (0 : Int32)), .val (.int (1 : Int32))] [(.int (63 : Int32))]))
  refine gv (X168.ldcInt hx hown (mvT hZ (hw _ (List.mem_of_getElem? (i := 94) rfl))) (g := (mkF me_ 23 #[.val (.ref b), .val (.int (63 : Int32)), .val (.int (0 : Int32)), .val (.int (1 : Int32))] [(.int (63 : Int32))])) rfl (hb hby d21_23)) ?_
  show G (T168.setTop (mkF me_ 25 #[.val (.ref b), .val (.int (63 : Int32)), .val (.int (0 : Int32)), .val (.int (1 : Int32))] [(.int (65536 : Int32)), (.int (63 : Int32))]))
  refine gv (fun tQ kQ => XS.icmpNo X168.here hx rfl (hb hby d21_25) rfl (tlt (by decide : (63 : Int32) < (65536 : Int32))).2.1 kQ) ?_
  show G (T168.setTop (mkF me_ 28 #[.val (.ref b), .val (.int (63 : Int32)), .val (.int (0 : Int32)), .val (.int (1 : Int32))] []))
  refine gv (fun tQ kQ => XS.aloadN X168.here hx rfl (hb hby d21_28) rfl rfl kQ) ?_
  show G (T168.setTop (mkF me_ 29 #[.val (.ref b), .val (.int (63 : Int32)), .val (.int (0 : Int32)), .val (.int (1 : Int32))] [(.ref b)]))
  refine gv (fun tQ kQ => XS.iloadN X168.here hx rfl (hb hby d21_29) rfl kQ) ?_
  show G (T168.setTop (mkF me_ 30 #[.val (.ref b), .val (.int (63 : Int32)), .val (.int (0 : Int32)), .val (.int (1 : Int32))] [(.int (63 : Int32)), (.ref b)]))
  refine gv (fun tQ kQ => XS.iloadN X168.here hx rfl (hb hby d21_30) rfl kQ) ?_
  show G (T168.setTop (mkF me_ 31 #[.val (.ref b), .val (.int (63 : Int32)), .val (.int (0 : Int32)), .val (.int (1 : Int32))] [(.int (0 : Int32)), (.int (63 : Int32)), (.ref b)]))
  refine gv (fun tQ kQ => XS.iloadN X168.here hx rfl (hb hby d21_31) rfl kQ) ?_
  show G (T168.setTop (mkF me_ 32 #[.val (.ref b), .val (.int (63 : Int32)), .val (.int (0 : Int32)), .val (.int (1 : Int32))] [(.int (1 : Int32)), (.int (0 : Int32)), (.int (63 : Int32)), (.ref b)]))
  obtain ⟨_, _, ⟨T170, L170, k170, n170⟩, -, X170, ⟨Lc170, hQ170, l170, y170, z170⟩, st170⟩ := Jvm.LawKit.callS X168 hx (y := (⟨"java/lang/StringUTF16", "indexOfChar", "([BIII)I"⟩ : MethodName)) hown (mvT hZ (hw _ (List.mem_of_getElem? (i := 95) rfl))) (mvT hZ (hw _ (List.mem_of_getElem? (i := 96) rfl))) (mvT hZ (hw _ (List.mem_of_getElem? (i := 81) rfl))) (mvT hZ (hw _ (List.mem_of_getElem? (i := 97) rfl))) (by decide) (backOf (W := 0) (rm_uioc63 l Z a0 hw [] b k x0 x1 w fmt h0 n0 O0 u0 u1 u2 u3 u4 u5 u6) hZ (hw _ (List.mem_of_getElem? (i := 97) rfl)) (hw _ (List.mem_of_getElem? (i := 81) rfl)) (by decide) (by decide)) (g := (mkF me_ 32 #[.val (.ref b), .val (.int (63 : Int32)), .val (.int (0 : Int32)), .val (.int (1 : Int32))] [(.int (1 : Int32)), (.int (0 : Int32)), (.int (63 : Int32)), (.ref b)])) rfl (by rw [hml]; rfl) (argsL := [(.ref b), (.int (63 : Int32)), (.int (0 : Int32)), (.int (1 : Int32))]) (rest := []) (lenOf pd_10 rfl) rfl (by show 2 * 0 + _ ≤ _; exact Nat.le_of_eq rfl) (hb hby d21_32) (fun _ _ => ⟨rfl, eq168, (by decide : 0 + 0 ≤ _), (by decide : 0 + 0 ≤ _)⟩)
  dsimp only [Pt.U, Pt.locs, Pt.cells, Pt.slots] at X170 l170 y170 z170 st170 hQ170
  subst l170 y170 z170
  obtain ⟨rfl, Nq170, eq170⟩ := hQ170
  have N171 := Fr.app N169 Nq170
  by_cases hb172 : w = (63 : Int32)
  · rw [if_pos hb172] at st170
    refine gv st170 ?_
    show G (T170.setTop (mkF me_ 35 #[.val (.ref b), .val (.int (63 : Int32)), .val (.int (0 : Int32)), .val (.int (1 : Int32))] [(.int (0 : Int32))]))
    refine gf _ (own_ret X170 Bd.notSynchronized (v := some (.int (0 : Int32))) (fun h => by rw [Bd.returns] at h; cases h) ?_ (by decide) (by decide) (fun fs hr => retOut X170 hx (t := .int) Bd.returns rfl (Or.inl ⟨rfl, Or.inl rfl, _, rfl⟩) (hb hby d21_35) hr))
    show Q_uio63 Z b k x0 x1 w fmt h0 n0 _ T170.heap _
    rw [eq170]
    exact ⟨(by rw [if_pos hb172]), N171, rfl⟩
  · skip
    rw [if_neg hb172] at st170
    refine gv st170 ?_
    show G (T170.setTop (mkF me_ 35 #[.val (.ref b), .val (.int (63 : Int32)), .val (.int (0 : Int32)), .val (.int (1 : Int32))] [(.int (-1 : Int32))]))
    refine gf _ (own_ret X170 Bd.notSynchronized (v := some (.int (-1 : Int32))) (fun h => by rw [Bd.returns] at h; cases h) ?_ (by decide) (by decide) (fun fs hr => retOut X170 hx (t := .int) Bd.returns rfl (Or.inl ⟨rfl, Or.inl rfl, _, rfl⟩) (hb hby d21_35) hr))
    show Q_uio63 Z b k x0 x1 w fmt h0 n0 _ T170.heap _
    rw [eq170]
    exact ⟨(by rw [if_neg hb172]), N171, rfl⟩
theorem d10_0 : decode jdk_42_method_80_code 0 = .ok (.aload_n 0, 1) := by decide +kernel
theorem d10_1 : decode jdk_42_method_80_code 1 = .ok (.invokevirtual 492, 3) := by decide +kernel
theorem pd_13 : parseMethodDescriptor "()Z" = some ⟨[], some .boolean⟩ := by decide +kernel
theorem d10_4 : decode jdk_42_method_80_code 4 = .ok (.ifCond .eq 19, 3) := by decide +kernel
theorem d10_7 : decode jdk_42_method_80_code 7 = .ok (.aload_n 0, 1) := by decide +kernel
theorem d10_8 : decode jdk_42_method_80_code 8 = .ok (.getfield 9, 3) := by decide +kernel
theorem d10_11 : decode jdk_42_method_80_code 11 = .ok (.iload_n 1, 1) := by decide +kernel
theorem d10_12 : decode jdk_42_method_80_code 12 = .ok (.iload_n 2, 1) := by decide +kernel
theorem d10_13 : decode jdk_42_method_80_code 13 = .ok (.aload_n 0, 1) := by decide +kernel
theorem d10_14 : decode jdk_42_method_80_code 14 = .ok (.invokevirtual 505, 3) := by decide +kernel
theorem pd_14 : parseMethodDescriptor "()I" = some ⟨[], some .int⟩ := by decide +kernel
theorem d10_17 : decode jdk_42_method_80_code 17 = .ok (.invokestatic 637, 3) := by decide +kernel
theorem d10_20 : decode jdk_42_method_80_code 20 = .ok (.goto 16, 3) := by decide +kernel
theorem d10_36 : decode jdk_42_method_80_code 36 = .ok (.ireturn, 1) := by decide +kernel
def Q_io2L63 (Z : State) (a : Addr) (b : Addr) (k : ClassId) (cs : Int32) (x : Int32) (h0 : Heap) (n0 : Nat) (v : Option Value) (h : Heap) (L : List Loc) : Prop := v = some (.int (if x = (63 : Int32) then (0 : Int32) else (-1 : Int32))) ∧ Fr n0 L ∧ h = h0
set_option maxRecDepth 65536 in
set_option maxHeartbeats 40000000 in
theorem rm_io2L63 (l : Launch) (Z : State) (a0 : Array Value) (hw : ∀ d ∈ tables_1, d.before a0 Z = true) (ws : List Jvm.Cond) (a : Addr) (b : Addr) (k : ClassId) (cs : Int32) (x : Int32) (h0 : Heap) (n0 : Nat) (O0 : Old Z n0 h0) (u0 : Sta Z Z.heap "java/lang/String" "COMPACT_STRINGS" "Z" (.int cs)) (u1 : ¬ (cs = (0 : Int32))) (u2 : Exa Z h0 a "java/lang/String") (u3 : Fld Z h0 a "java/lang/String" "coder" "B" (.int (0 : Int32))) (u4 : Fld Z h0 a "java/lang/String" "value" "[B" (.ref b)) (u5 : Arv Z h0 b k .byte (1 : Int32) [(.int x)] (.int (0 : Int32))) :
    MetFree l (⟨"java/lang/String", "indexOf", "(II)I"⟩ : MethodName) (head1 (Jvm.Cond.code (⟨"java/lang/String", "indexOf", "(II)I"⟩ : MethodName) jdk_42_method_80_code 3 (some .int) :: ws) ({ frames := 2, cells := 0, slots := 0, locals := 32 } : Room)) (fun aV U => aV = #[(.ref a), (.int (63 : Int32)), (.int (0 : Int32))] ∧ Z.Warmed39 U.vm ∧ U.heap = h0) (fun _ _ _ _ _ => True) (fun _ U o U' => ∃ v L, o = .returned v ∧ Q_io2L63 Z a b k cs x h0 n0 v U'.heap L ∧ FrameEnd U o U' L ({ frames := 2, cells := 0, slots := 0, locals := 32 } : Room).cells ({ frames := 2, cells := 0, slots := 0, locals := 32 } : Room).slots) := by
  refine MetFree.of_bodySF (plainFor_of_name pn_1) hisR ?_
  intro pr_ en_ st_ me_ args below meth_ co_ s₁ Bd hml0 hP hK
  obtain ⟨rfl, hZ, hh⟩ := hP
  have hx := Bd.exec
  have hby := Bd.bytes
  have hml : co_.maxLocals = 3 := hml0
  have hown : st_.vm.findClass "java/lang/String" = some me_.cls := findClass_of_methodNamed Bd.named
  have hnm := (name_of_methodNamed Bd.named Bd.method).1
  have X0 : Stand pr_ l en_ ({ frames := 2, cells := 0, slots := 0, locals := 32 } : Room) st_ me_ #[(.ref a), (.int (63 : Int32)), (.int (0 : Int32))] below meth_ co_ s₁ [] 0 0 := Stand.of_body Bd
  have e0 : s₁.heap = h0 := by rw [← hh, Bd.state]; rfl
  have N0 := Fr.nil n0
  have K0 := Keep.refl h0 []
  obtain ⟨G, gv, gf, gb⟩ := own_G pr_.tables en_ below st_ (Q_io2L63 Z a b k cs x h0 n0) ({ frames := 2, cells := 0, slots := 0, locals := 32 } : Room).cells ({ frames := 2, cells := 0, slots := 0, locals := 32 } : Room).slots
  show own_Fin pr_.tables en_ below st_ (Q_io2L63 Z a b k cs x h0 n0) ({ frames := 2, cells := 0, slots := 0, locals := 32 } : Room).cells ({ frames := 2, cells := 0, slots := 0, locals := 32 } : Room).slots (s₁.setTop (entryFrame me_ #[(.ref a), (.int (63 : Int32)), (.int (0 : Int32))] 3))
  refine gb _ (gv (fun tQ kQ => castTop (ef_2 me_ a (63 : Int32) (0 : Int32)) kQ) ?_)
  show G (s₁.setTop (mkF me_ 0 #[.val (.ref a), .val (.int (63 : Int32)), .val (.int (0 : Int32))] []))
  refine gv (fun tQ kQ => XS.aloadN X0.here hx rfl (hb hby d10_0) rfl rfl kQ) ?_
  show G (s₁.setTop (mkF me_ 1 #[.val (.ref a), .val (.int (63 : Int32)), .val (.int (0 : Int32))] [(.ref a)]))
  obtain ⟨cq173, kq173, q173a, q173b, q173c⟩ := isOf hZ e0 u2
  obtain ⟨_, _, ⟨T173, L173, k173, n173⟩, -, X173, ⟨Lc173, hQ173, l173, y173, z173⟩, st173⟩ := X0.virtualBack hx (y := (⟨"java/lang/String", "isLatin1", "()Z"⟩ : MethodName)) (z := (⟨"java/lang/String", "isLatin1", "()Z"⟩ : MethodName)) hown (mvT hZ (hw _ (List.mem_of_getElem? (i := 48) rfl))) (mvT hZ (hw _ (List.mem_of_getElem? (i := 49) rfl))) (notFace_of_selects (args := #[]) (mvT hZ (hw _ (List.mem_of_getElem? (i := 51) rfl)))) (mvT hZ (hw _ (List.mem_of_getElem? (i := 51) rfl))) (mvT hZ (hw _ (List.mem_of_getElem? (i := 50) rfl))) (by decide) (backOf (W := 0) (rm_isL0 l Z a0 hw [] a cs h0 n0 O0 u0 u1 u3) hZ (hw _ (List.mem_of_getElem? (i := 52) rfl)) (hw _ (List.mem_of_getElem? (i := 11) rfl)) (by decide) (by decide)) q173a q173c (g := (mkF me_ 1 #[.val (.ref a), .val (.int (63 : Int32)), .val (.int (0 : Int32))] [(.ref a)])) rfl (by rw [hml]; rfl) (Steps.refl _) (argsL := []) (rest := []) (lenOf pd_13 rfl) rfl (by show 2 * 0 + _ ≤ _; exact Nat.le_of_eq rfl) (hb hby d10_1) (fun _ _ => ⟨rfl, e0, (by decide : 0 + 0 ≤ _), (by decide : 0 + 0 ≤ _)⟩)
  dsimp only [Pt.U, Pt.locs, Pt.cells, Pt.slots] at X173 l173 y173 z173 st173 hQ173
  subst l173 y173 z173
  obtain ⟨rfl, Nq173, eq173⟩ := hQ173
  have N174 := Fr.app N0 Nq173
  refine gv (fun tQ kQ => st173.trans kQ) ?_
  show G (T173.setTop (mkF me_ 4 #[.val (.ref a), .val (.int (63 : Int32)), .val (.int (0 : Int32))] [(.int (1 : Int32))]))
  refine gv (fun tQ kQ => XS.ifNo X173.here hx rfl (hb hby d10_4) rfl ((if0 _ _).trans (feq (by decide : ¬ ((1 : Int32) = (0 : Int32)))).1) kQ) ?_
  show G (T173.setTop (mkF me_ 7 #[.val (.ref a), .val (.int (63 : Int32)), .val (.int (0 : Int32))] []))
  refine gv (fun tQ kQ => XS.aloadN X173.here hx rfl (hb hby d10_7) rfl rfl kQ) ?_
  show G (T173.setTop (mkF me_ 8 #[.val (.ref a), .val (.int (63 : Int32)), .val (.int (0 : Int32))] [(.ref a)]))
  obtain ⟨T175, X175, e175, st175⟩ := getF X173 hx hZ hown (host := "") (Or.inl (hw _ (List.mem_of_getElem? (i := 31) rfl))) Via.refl eq173 u4 (g := (mkF me_ 8 #[.val (.ref a), .val (.int (63 : Int32)), .val (.int (0 : Int32))] [(.ref a)])) rfl rfl (hb hby d10_8)
  refine gv st175 ?_
  show G (T175.setTop (mkF me_ 11 #[.val (.ref a), .val (.int (63 : Int32)), .val (.int (0 : Int32))] [(.ref b)]))
  refine gv (fun tQ kQ => XS.iloadN X175.here hx rfl (hb hby d10_11) rfl kQ) ?_
  show G (T175.setTop (mkF me_ 12 #[.val (.ref a), .val (.int (63 : Int32)), .val (.int (0 : Int32))] [(.int (63 : Int32)), (.ref b)]))
  refine gv (fun tQ kQ => XS.iloadN X175.here hx rfl (hb hby d10_12) rfl kQ) ?_
  show G (T175.setTop (mkF me_ 13 #[.val (.ref a), .val (.int (63 : Int32)), .val (.int (0 : Int32))] [(.int (0 : Int32)), (.int (63 : Int32)), (.ref b)]))
  refine gv (fun tQ kQ => XS.aloadN X175.here hx rfl (hb hby d10_13) rfl rfl kQ) ?_
  show G (T175.setTop (mkF me_ 14 #[.val (.ref a), .val (.int (63 : Int32)), .val (.int (0 : Int32))] [(.ref a), (.int (0 : Int32)), (.int (63 : Int32)), (.ref b)]))
  obtain ⟨cq176, kq176, q176a, q176b, q176c⟩ := isOf hZ e175 u2
  obtain ⟨_, _, ⟨T176, L176, k176, n176⟩, -, X176, ⟨Lc176, hQ176, l176, y176, z176⟩, st176⟩ := X175.virtualBack hx (y := (⟨"java/lang/String", "length", "()I"⟩ : MethodName)) (z := (⟨"java/lang/String", "length", "()I"⟩ : MethodName)) hown (mvT hZ (hw _ (List.mem_of_getElem? (i := 53) rfl))) (mvT hZ (hw _ (List.mem_of_getElem? (i := 54) rfl))) (notFace_of_selects (args := #[]) (mvT hZ (hw _ (List.mem_of_getElem? (i := 56) rfl)))) (mvT hZ (hw _ (List.mem_of_getElem? (i := 56) rfl))) (mvT hZ (hw _ (List.mem_of_getElem? (i := 55) rfl))) (by decide) (backOf (W := 3) (rm_len0_1 l Z a0 hw [] a b k cs x h0 n0 O0 u0 u1 u2 u3 u4 u5) hZ (hw _ (List.mem_of_getElem? (i := 57) rfl)) (hw _ (List.mem_of_getElem? (i := 11) rfl)) (by decide) (by decide)) q176a q176c (g := (mkF me_ 14 #[.val (.ref a), .val (.int (63 : Int32)), .val (.int (0 : Int32))] [(.ref a), (.int (0 : Int32)), (.int (63 : Int32)), (.ref b)])) rfl (by rw [hml]; rfl) (Steps.refl _) (argsL := []) (rest := [(.int (0 : Int32)), (.int (63 : Int32)), (.ref b)]) (lenOf pd_14 rfl) rfl (by show 2 * 0 + _ ≤ _; exact Nat.le_of_eq rfl) (hb hby d10_14) (fun _ _ => ⟨rfl, e175, (by decide : 0 + 0 ≤ _), (by decide : 0 + 0 ≤ _)⟩)
  dsimp only [Pt.U, Pt.locs, Pt.cells, Pt.slots] at X176 l176 y176 z176 st176 hQ176
  subst l176 y176 z176
  obtain ⟨rfl, Nq176, eq176⟩ := hQ176
  have N177 := Fr.app N174 Nq176
  refine gv (fun tQ kQ => st176.trans kQ) ?_
  show G (T176.setTop (mkF me_ 17 #[.val (.ref a), .val (.int (63 : Int32)), .val (.int (0 : Int32))] [(.int (1 : Int32)), (.int (0 : Int32)), (.int (63 : Int32)), (.ref b)]))
  obtain ⟨_, _, ⟨T178, L178, k178, n178⟩, -, X178, ⟨Lc178, hQ178, l178, y178, z178⟩, st178⟩ := Jvm.LawKit.callS X176 hx (y := (⟨"java/lang/StringLatin1", "indexOf", "([BIII)I"⟩ : MethodName)) hown (mvT hZ (hw _ (List.mem_of_getElem? (i := 63) rfl))) (mvT hZ (hw _ (List.mem_of_getElem? (i := 64) rfl))) (mvT hZ (hw _ (List.mem_of_getElem? (i := 16) rfl))) (mvT hZ (hw _ (List.mem_of_getElem? (i := 65) rfl))) (by decide) (backOf (W := 0) (rm_l1io63 l Z a0 hw [] b k x h0 n0 O0 u5) hZ (hw _ (List.mem_of_getElem? (i := 65) rfl)) (hw _ (List.mem_of_getElem? (i := 16) rfl)) (by decide) (by decide)) (g := (mkF me_ 17 #[.val (.ref a), .val (.int (63 : Int32)), .val (.int (0 : Int32))] [(.int (1 : Int32)), (.int (0 : Int32)), (.int (63 : Int32)), (.ref b)])) rfl (by rw [hml]; rfl) (argsL := [(.ref b), (.int (63 : Int32)), (.int (0 : Int32)), (.int (1 : Int32))]) (rest := []) (lenOf pd_10 rfl) rfl (by show 2 * 0 + _ ≤ _; exact Nat.le_of_eq rfl) (hb hby d10_17) (fun _ _ => ⟨rfl, eq176, (by decide : 0 + 0 ≤ _), (by decide : 0 + 0 ≤ _)⟩)
  dsimp only [Pt.U, Pt.locs, Pt.cells, Pt.slots] at X178 l178 y178 z178 st178 hQ178
  subst l178 y178 z178
  obtain ⟨rfl, Nq178, eq178⟩ := hQ178
  have N179 := Fr.app N177 Nq178
  by_cases hb180 : x = (63 : Int32)
  · rw [if_pos hb180] at st178
    refine gv st178 ?_
    show G (T178.setTop (mkF me_ 20 #[.val (.ref a), .val (.int (63 : Int32)), .val (.int (0 : Int32))] [(.int (0 : Int32))]))
    refine gv (fun tQ kQ => XS.goto X178.here hx rfl (pc0 := 20) (pc' := 36) rfl (hb hby d10_20) (by decide) (by decide) kQ) ?_
    show G (T178.setTop (mkF me_ 36 #[.val (.ref a), .val (.int (63 : Int32)), .val (.int (0 : Int32))] [(.int (0 : Int32))]))
    refine gf _ (own_ret X178 Bd.notSynchronized (v := some (.int (0 : Int32))) (fun h => by rw [Bd.returns] at h; cases h) ?_ (by decide) (by decide) (fun fs hr => retOut X178 hx (t := .int) Bd.returns rfl (Or.inl ⟨rfl, Or.inl rfl, _, rfl⟩) (hb hby d10_36) hr))
    show Q_io2L63 Z a b k cs x h0 n0 _ T178.heap _
    rw [eq178]
    exact ⟨(by rw [if_pos hb180]), N179, rfl⟩
  · skip
    rw [if_neg hb180] at st178
    refine gv st178 ?_
    show G (T178.setTop (mkF me_ 20 #[.val (.ref a), .val (.int (63 : Int32)), .val (.int (0 : Int32))] [(.int (-1 : Int32))]))
    refine gv (fun tQ kQ => XS.goto X178.here hx rfl (pc0 := 20) (pc' := 36) rfl (hb hby d10_20) (by decide) (by decide) kQ) ?_
    show G (T178.setTop (mkF me_ 36 #[.val (.ref a), .val (.int (63 : Int32)), .val (.int (0 : Int32))] [(.int (-1 : Int32))]))
    refine gf _ (own_ret X178 Bd.notSynchronized (v := some (.int (-1 : Int32))) (fun h => by rw [Bd.returns] at h; cases h) ?_ (by decide) (by decide) (fun fs hr => retOut X178 hx (t := .int) Bd.returns rfl (Or.inl ⟨rfl, Or.inl rfl, _, rfl⟩) (hb hby d10_36) hr))
    show Q_io2L63 Z a b k cs x h0 n0 _ T178.heap _
    rw [eq178]
    exact ⟨(by rw [if_neg hb180]), N179, rfl⟩
theorem d10_23 : decode jdk_42_method_80_code 23 = .ok (.aload_n 0, 1) := by decide +kernel
theorem d10_24 : decode jdk_42_method_80_code 24 = .ok (.getfield 9, 3) := by decide +kernel
theorem d10_27 : decode jdk_42_method_80_code 27 = .ok (.iload_n 1, 1) := by decide +kernel
theorem d10_28 : decode jdk_42_method_80_code 28 = .ok (.iload_n 2, 1) := by decide +kernel
theorem d10_29 : decode jdk_42_method_80_code 29 = .ok (.aload_n 0, 1) := by decide +kernel
theorem d10_30 : decode jdk_42_method_80_code 30 = .ok (.invokevirtual 505, 3) := by decide +kernel
theorem d10_33 : decode jdk_42_method_80_code 33 = .ok (.invokestatic 640, 3) := by decide +kernel
def Q_io2U63 (Z : State) (a : Addr) (b : Addr) (k : ClassId) (cs : Int32) (x0 : Int32) (x1 : Int32) (w : Int32) (fmt : Value) (h0 : Heap) (n0 : Nat) (v : Option Value) (h : Heap) (L : List Loc) : Prop := v = some (.int (if w = (63 : Int32) then (0 : Int32) else (-1 : Int32))) ∧ Fr n0 L ∧ h = h0
set_option maxRecDepth 65536 in
set_option maxHeartbeats 40000000 in
theorem rm_io2U63 (l : Launch) (Z : State) (a0 : Array Value) (hw : ∀ d ∈ tables_1, d.before a0 Z = true) (ws : List Jvm.Cond) (a : Addr) (b : Addr) (k : ClassId) (cs : Int32) (x0 : Int32) (x1 : Int32) (w : Int32) (fmt : Value) (h0 : Heap) (n0 : Nat) (O0 : Old Z n0 h0) (u0 : own_gc x0 x1 = w) (u1 : Sta Z Z.heap "java/lang/String" "COMPACT_STRINGS" "Z" (.int cs)) (u2 : ¬ (cs = (0 : Int32))) (u3 : Sta Z Z.heap "java/lang/StringUTF16" "$assertionsDisabled" "Z" (.int (1 : Int32))) (u4 : Sta Z Z.heap "java/lang/StringUTF16" "HI_BYTE_SHIFT" "I" (.int (0 : Int32))) (u5 : Sta Z Z.heap "java/lang/StringUTF16" "LO_BYTE_SHIFT" "I" (.int (8 : Int32))) (u6 : fmt.isRef = true) (u7 : Sta Z Z.heap "jdk/internal/util/Preconditions" "SIOOBE_FORMATTER" "Ljava/util/function/BiFunction;" fmt) (u8 : Exa Z h0 a "java/lang/String") (u9 : Fld Z h0 a "java/lang/String" "coder" "B" (.int (1 : Int32))) (u10 : Fld Z h0 a "java/lang/String" "value" "[B" (.ref b)) (u11 : Arv Z h0 b k .byte (2 : Int32) [(.int x0), (.int x1)] (.int (0 : Int32))) :
    MetFree l (⟨"java/lang/String", "indexOf", "(II)I"⟩ : MethodName) (head1 (Jvm.Cond.code (⟨"java/lang/String", "indexOf", "(II)I"⟩ : MethodName) jdk_42_method_80_code 3 (some .int) :: ws) ({ frames := 5, cells := 0, slots := 0, locals := 73 } : Room)) (fun aV U => aV = #[(.ref a), (.int (63 : Int32)), (.int (0 : Int32))] ∧ Z.Warmed39 U.vm ∧ U.heap = h0) (fun _ _ _ _ _ => True) (fun _ U o U' => ∃ v L, o = .returned v ∧ Q_io2U63 Z a b k cs x0 x1 w fmt h0 n0 v U'.heap L ∧ FrameEnd U o U' L ({ frames := 5, cells := 0, slots := 0, locals := 73 } : Room).cells ({ frames := 5, cells := 0, slots := 0, locals := 73 } : Room).slots) := by
  refine MetFree.of_bodySF (plainFor_of_name pn_1) hisR ?_
  intro pr_ en_ st_ me_ args below meth_ co_ s₁ Bd hml0 hP hK
  obtain ⟨rfl, hZ, hh⟩ := hP
  have hx := Bd.exec
  have hby := Bd.bytes
  have hml : co_.maxLocals = 3 := hml0
  have hown : st_.vm.findClass "java/lang/String" = some me_.cls := findClass_of_methodNamed Bd.named
  have hnm := (name_of_methodNamed Bd.named Bd.method).1
  have X0 : Stand pr_ l en_ ({ frames := 5, cells := 0, slots := 0, locals := 73 } : Room) st_ me_ #[(.ref a), (.int (63 : Int32)), (.int (0 : Int32))] below meth_ co_ s₁ [] 0 0 := Stand.of_body Bd
  have e0 : s₁.heap = h0 := by rw [← hh, Bd.state]; rfl
  have N0 := Fr.nil n0
  have K0 := Keep.refl h0 []
  obtain ⟨G, gv, gf, gb⟩ := own_G pr_.tables en_ below st_ (Q_io2U63 Z a b k cs x0 x1 w fmt h0 n0) ({ frames := 5, cells := 0, slots := 0, locals := 73 } : Room).cells ({ frames := 5, cells := 0, slots := 0, locals := 73 } : Room).slots
  show own_Fin pr_.tables en_ below st_ (Q_io2U63 Z a b k cs x0 x1 w fmt h0 n0) ({ frames := 5, cells := 0, slots := 0, locals := 73 } : Room).cells ({ frames := 5, cells := 0, slots := 0, locals := 73 } : Room).slots (s₁.setTop (entryFrame me_ #[(.ref a), (.int (63 : Int32)), (.int (0 : Int32))] 3))
  refine gb _ (gv (fun tQ kQ => castTop (ef_2 me_ a (63 : Int32) (0 : Int32)) kQ) ?_)
  show G (s₁.setTop (mkF me_ 0 #[.val (.ref a), .val (.int (63 : Int32)), .val (.int (0 : Int32))] []))
  refine gv (fun tQ kQ => XS.aloadN X0.here hx rfl (hb hby d10_0) rfl rfl kQ) ?_
  show G (s₁.setTop (mkF me_ 1 #[.val (.ref a), .val (.int (63 : Int32)), .val (.int (0 : Int32))] [(.ref a)]))
  obtain ⟨cq181, kq181, q181a, q181b, q181c⟩ := isOf hZ e0 u8
  obtain ⟨_, _, ⟨T181, L181, k181, n181⟩, -, X181, ⟨Lc181, hQ181, l181, y181, z181⟩, st181⟩ := X0.virtualBack hx (y := (⟨"java/lang/String", "isLatin1", "()Z"⟩ : MethodName)) (z := (⟨"java/lang/String", "isLatin1", "()Z"⟩ : MethodName)) hown (mvT hZ (hw _ (List.mem_of_getElem? (i := 48) rfl))) (mvT hZ (hw _ (List.mem_of_getElem? (i := 49) rfl))) (notFace_of_selects (args := #[]) (mvT hZ (hw _ (List.mem_of_getElem? (i := 51) rfl)))) (mvT hZ (hw _ (List.mem_of_getElem? (i := 51) rfl))) (mvT hZ (hw _ (List.mem_of_getElem? (i := 50) rfl))) (by decide) (backOf (W := 0) (rm_isL1 l Z a0 hw [] a cs h0 n0 O0 u1 u2 u9) hZ (hw _ (List.mem_of_getElem? (i := 52) rfl)) (hw _ (List.mem_of_getElem? (i := 11) rfl)) (by decide) (by decide)) q181a q181c (g := (mkF me_ 1 #[.val (.ref a), .val (.int (63 : Int32)), .val (.int (0 : Int32))] [(.ref a)])) rfl (by rw [hml]; rfl) (Steps.refl _) (argsL := []) (rest := []) (lenOf pd_13 rfl) rfl (by show 2 * 0 + _ ≤ _; exact Nat.le_of_eq rfl) (hb hby d10_1) (fun _ _ => ⟨rfl, e0, (by decide : 0 + 0 ≤ _), (by decide : 0 + 0 ≤ _)⟩)
  dsimp only [Pt.U, Pt.locs, Pt.cells, Pt.slots] at X181 l181 y181 z181 st181 hQ181
  subst l181 y181 z181
  obtain ⟨rfl, Nq181, eq181⟩ := hQ181
  have N182 := Fr.app N0 Nq181
  refine gv (fun tQ kQ => st181.trans kQ) ?_
  show G (T181.setTop (mkF me_ 4 #[.val (.ref a), .val (.int (63 : Int32)), .val (.int (0 : Int32))] [(.int (0 : Int32))]))
  refine gv (fun tQ kQ => XS.ifYes X181.here hx rfl (pc0 := 4) (pc' := 23) rfl (hb hby d10_4) rfl ((if0 _ _).trans (teq (by decide : (0 : Int32) = (0 : Int32))).1) (by decide) (by decide) kQ) ?_
  show G (T181.setTop (mkF me_ 23 #[.val (.ref a), .val (.int (63 : Int32)), .val (.int (0 : Int32))] []))
  refine gv (fun tQ kQ => XS.aloadN X181.here hx rfl (hb hby d10_23) rfl rfl kQ) ?_
  show G (T181.setTop (mkF me_ 24 #[.val (.ref a), .val (.int (63 : Int32)), .val (.int (0 : Int32))] [(.ref a)]))
  obtain ⟨T183, X183, e183, st183⟩ := getF X181 hx hZ hown (host := "") (Or.inl (hw _ (List.mem_of_getElem? (i := 31) rfl))) Via.refl eq181 u10 (g := (mkF me_ 24 #[.val (.ref a), .val (.int (63 : Int32)), .val (.int (0 : Int32))] [(.ref a)])) rfl rfl (hb hby d10_24)
  refine gv st183 ?_
  show G (T183.setTop (mkF me_ 27 #[.val (.ref a), .val (.int (63 : Int32)), .val (.int (0 : Int32))] [(.ref b)]))
  refine gv (fun tQ kQ => XS.iloadN X183.here hx rfl (hb hby d10_27) rfl kQ) ?_
  show G (T183.setTop (mkF me_ 28 #[.val (.ref a), .val (.int (63 : Int32)), .val (.int (0 : Int32))] [(.int (63 : Int32)), (.ref b)]))
  refine gv (fun tQ kQ => XS.iloadN X183.here hx rfl (hb hby d10_28) rfl kQ) ?_
  show G (T183.setTop (mkF me_ 29 #[.val (.ref a), .val (.int (63 : Int32)), .val (.int (0 : Int32))] [(.int (0 : Int32)), (.int (63 : Int32)), (.ref b)]))
  refine gv (fun tQ kQ => XS.aloadN X183.here hx rfl (hb hby d10_29) rfl rfl kQ) ?_
  show G (T183.setTop (mkF me_ 30 #[.val (.ref a), .val (.int (63 : Int32)), .val (.int (0 : Int32))] [(.ref a), (.int (0 : Int32)), (.int (63 : Int32)), (.ref b)]))
  obtain ⟨cq184, kq184, q184a, q184b, q184c⟩ := isOf hZ e183 u8
  obtain ⟨_, _, ⟨T184, L184, k184, n184⟩, -, X184, ⟨Lc184, hQ184, l184, y184, z184⟩, st184⟩ := X183.virtualBack hx (y := (⟨"java/lang/String", "length", "()I"⟩ : MethodName)) (z := (⟨"java/lang/String", "length", "()I"⟩ : MethodName)) hown (mvT hZ (hw _ (List.mem_of_getElem? (i := 53) rfl))) (mvT hZ (hw _ (List.mem_of_getElem? (i := 54) rfl))) (notFace_of_selects (args := #[]) (mvT hZ (hw _ (List.mem_of_getElem? (i := 56) rfl)))) (mvT hZ (hw _ (List.mem_of_getElem? (i := 56) rfl))) (mvT hZ (hw _ (List.mem_of_getElem? (i := 55) rfl))) (by decide) (backOf (W := 3) (rm_len1_1 l Z a0 hw [] a b k cs x0 x1 h0 n0 O0 u1 u2 u8 u9 u10 u11) hZ (hw _ (List.mem_of_getElem? (i := 57) rfl)) (hw _ (List.mem_of_getElem? (i := 11) rfl)) (by decide) (by decide)) q184a q184c (g := (mkF me_ 30 #[.val (.ref a), .val (.int (63 : Int32)), .val (.int (0 : Int32))] [(.ref a), (.int (0 : Int32)), (.int (63 : Int32)), (.ref b)])) rfl (by rw [hml]; rfl) (Steps.refl _) (argsL := []) (rest := [(.int (0 : Int32)), (.int (63 : Int32)), (.ref b)]) (lenOf pd_14 rfl) rfl (by show 2 * 0 + _ ≤ _; exact Nat.le_of_eq rfl) (hb hby d10_30) (fun _ _ => ⟨rfl, e183, (by decide : 0 + 0 ≤ _), (by decide : 0 + 0 ≤ _)⟩)
  dsimp only [Pt.U, Pt.locs, Pt.cells, Pt.slots] at X184 l184 y184 z184 st184 hQ184
  subst l184 y184 z184
  obtain ⟨rfl, Nq184, eq184⟩ := hQ184
  have N185 := Fr.app N182 Nq184
  refine gv (fun tQ kQ => st184.trans kQ) ?_
  show G (T184.setTop (mkF me_ 33 #[.val (.ref a), .val (.int (63 : Int32)), .val (.int (0 : Int32))] [(.int (1 : Int32)), (.int (0 : Int32)), (.int (63 : Int32)), (.ref b)]))
  obtain ⟨_, _, ⟨T186, L186, k186, n186⟩, -, X186, ⟨Lc186, hQ186, l186, y186, z186⟩, st186⟩ := Jvm.LawKit.callS X184 hx (y := (⟨"java/lang/StringUTF16", "indexOf", "([BIII)I"⟩ : MethodName)) hown (mvT hZ (hw _ (List.mem_of_getElem? (i := 89) rfl))) (mvT hZ (hw _ (List.mem_of_getElem? (i := 90) rfl))) (mvT hZ (hw _ (List.mem_of_getElem? (i := 81) rfl))) (mvT hZ (hw _ (List.mem_of_getElem? (i := 91) rfl))) (by decide) (backOf (W := 0) (rm_uio63 l Z a0 hw [] b k x0 x1 w fmt h0 n0 O0 u0 u3 u4 u5 u6 u7 u11) hZ (hw _ (List.mem_of_getElem? (i := 91) rfl)) (hw _ (List.mem_of_getElem? (i := 81) rfl)) (by decide) (by decide)) (g := (mkF me_ 33 #[.val (.ref a), .val (.int (63 : Int32)), .val (.int (0 : Int32))] [(.int (1 : Int32)), (.int (0 : Int32)), (.int (63 : Int32)), (.ref b)])) rfl (by rw [hml]; rfl) (argsL := [(.ref b), (.int (63 : Int32)), (.int (0 : Int32)), (.int (1 : Int32))]) (rest := []) (lenOf pd_10 rfl) rfl (by show 2 * 0 + _ ≤ _; exact Nat.le_of_eq rfl) (hb hby d10_33) (fun _ _ => ⟨rfl, eq184, (by decide : 0 + 0 ≤ _), (by decide : 0 + 0 ≤ _)⟩)
  dsimp only [Pt.U, Pt.locs, Pt.cells, Pt.slots] at X186 l186 y186 z186 st186 hQ186
  subst l186 y186 z186
  obtain ⟨rfl, Nq186, eq186⟩ := hQ186
  have N187 := Fr.app N185 Nq186
  by_cases hb188 : w = (63 : Int32)
  · rw [if_pos hb188] at st186
    refine gv st186 ?_
    show G (T186.setTop (mkF me_ 36 #[.val (.ref a), .val (.int (63 : Int32)), .val (.int (0 : Int32))] [(.int (0 : Int32))]))
    refine gf _ (own_ret X186 Bd.notSynchronized (v := some (.int (0 : Int32))) (fun h => by rw [Bd.returns] at h; cases h) ?_ (by decide) (by decide) (fun fs hr => retOut X186 hx (t := .int) Bd.returns rfl (Or.inl ⟨rfl, Or.inl rfl, _, rfl⟩) (hb hby d10_36) hr))
    show Q_io2U63 Z a b k cs x0 x1 w fmt h0 n0 _ T186.heap _
    rw [eq186]
    exact ⟨(by rw [if_pos hb188]), N187, rfl⟩
  · skip
    rw [if_neg hb188] at st186
    refine gv st186 ?_
    show G (T186.setTop (mkF me_ 36 #[.val (.ref a), .val (.int (63 : Int32)), .val (.int (0 : Int32))] [(.int (-1 : Int32))]))
    refine gf _ (own_ret X186 Bd.notSynchronized (v := some (.int (-1 : Int32))) (fun h => by rw [Bd.returns] at h; cases h) ?_ (by decide) (by decide) (fun fs hr => retOut X186 hx (t := .int) Bd.returns rfl (Or.inl ⟨rfl, Or.inl rfl, _, rfl⟩) (hb hby d10_36) hr))
    show Q_io2U63 Z a b k cs x0 x1 w fmt h0 n0 _ T186.heap _
    rw [eq186]
    exact ⟨(by rw [if_neg hb188]), N187, rfl⟩
theorem d9_0 : decode jdk_42_method_79_code 0 = .ok (.aload_n 0, 1) := by decide +kernel
theorem d9_1 : decode jdk_42_method_79_code 1 = .ok (.iload_n 1, 1) := by decide +kernel
theorem d9_2 : decode jdk_42_method_79_code 2 = .ok (.iconst 0, 1) := by decide +kernel
theorem d9_3 : decode jdk_42_method_79_code 3 = .ok (.invokevirtual 633, 3) := by decide +kernel
theorem d9_6 : decode jdk_42_method_79_code 6 = .ok (.ireturn, 1) := by decide +kernel
def Q_io1L63 (Z : State) (a : Addr) (b : Addr) (k : ClassId) (cs : Int32) (x : Int32) (h0 : Heap) (n0 : Nat) (v : Option Value) (h : Heap) (L : List Loc) : Prop := v = some (.int (if x = (63 : Int32) then (0 : Int32) else (-1 : Int32))) ∧ Fr n0 L ∧ h = h0
set_option maxRecDepth 65536 in
set_option maxHeartbeats 40000000 in
theorem rm_io1L63 (l : Launch) (Z : State) (a0 : Array Value) (hw : ∀ d ∈ tables_1, d.before a0 Z = true) (ws : List Jvm.Cond) (a : Addr) (b : Addr) (k : ClassId) (cs : Int32) (x : Int32) (h0 : Heap) (n0 : Nat) (O0 : Old Z n0 h0) (u0 : Sta Z Z.heap "java/lang/String" "COMPACT_STRINGS" "Z" (.int cs)) (u1 : ¬ (cs = (0 : Int32))) (u2 : Exa Z h0 a "java/lang/String") (u3 : Fld Z h0 a "java/lang/String" "coder" "B" (.int (0 : Int32))) (u4 : Fld Z h0 a "java/lang/String" "value" "[B" (.ref b)) (u5 : Arv Z h0 b k .byte (1 : Int32) [(.int x)] (.int (0 : Int32))) :
    MetFree l (⟨"java/lang/String", "indexOf", "(I)I"⟩ : MethodName) (head1 (Jvm.Cond.code (⟨"java/lang/String", "indexOf", "(I)I"⟩ : MethodName) jdk_42_method_79_code 2 (some .int) :: ws) ({ frames := 3, cells := 0, slots := 0, locals := 46 } : Room)) (fun aV U => aV = #[(.ref a), (.int (63 : Int32))] ∧ Z.Warmed39 U.vm ∧ U.heap = h0) (fun _ _ _ _ _ => True) (fun _ U o U' => ∃ v L, o = .returned v ∧ Q_io1L63 Z a b k cs x h0 n0 v U'.heap L ∧ FrameEnd U o U' L ({ frames := 3, cells := 0, slots := 0, locals := 46 } : Room).cells ({ frames := 3, cells := 0, slots := 0, locals := 46 } : Room).slots) := by
  refine MetFree.of_bodySF (plainFor_of_name pn_1) hisR ?_
  intro pr_ en_ st_ me_ args below meth_ co_ s₁ Bd hml0 hP hK
  obtain ⟨rfl, hZ, hh⟩ := hP
  have hx := Bd.exec
  have hby := Bd.bytes
  have hml : co_.maxLocals = 2 := hml0
  have hown : st_.vm.findClass "java/lang/String" = some me_.cls := findClass_of_methodNamed Bd.named
  have hnm := (name_of_methodNamed Bd.named Bd.method).1
  have X0 : Stand pr_ l en_ ({ frames := 3, cells := 0, slots := 0, locals := 46 } : Room) st_ me_ #[(.ref a), (.int (63 : Int32))] below meth_ co_ s₁ [] 0 0 := Stand.of_body Bd
  have e0 : s₁.heap = h0 := by rw [← hh, Bd.state]; rfl
  have N0 := Fr.nil n0
  have K0 := Keep.refl h0 []
  obtain ⟨G, gv, gf, gb⟩ := own_G pr_.tables en_ below st_ (Q_io1L63 Z a b k cs x h0 n0) ({ frames := 3, cells := 0, slots := 0, locals := 46 } : Room).cells ({ frames := 3, cells := 0, slots := 0, locals := 46 } : Room).slots
  show own_Fin pr_.tables en_ below st_ (Q_io1L63 Z a b k cs x h0 n0) ({ frames := 3, cells := 0, slots := 0, locals := 46 } : Room).cells ({ frames := 3, cells := 0, slots := 0, locals := 46 } : Room).slots (s₁.setTop (entryFrame me_ #[(.ref a), (.int (63 : Int32))] 2))
  refine gb _ (gv (fun tQ kQ => castTop (ef_9 me_ a (63 : Int32)) kQ) ?_)
  show G (s₁.setTop (mkF me_ 0 #[.val (.ref a), .val (.int (63 : Int32))] []))
  refine gv (fun tQ kQ => XS.aloadN X0.here hx rfl (hb hby d9_0) rfl rfl kQ) ?_
  show G (s₁.setTop (mkF me_ 1 #[.val (.ref a), .val (.int (63 : Int32))] [(.ref a)]))
  refine gv (fun tQ kQ => XS.iloadN X0.here hx rfl (hb hby d9_1) rfl kQ) ?_
  show G (s₁.setTop (mkF me_ 2 #[.val (.ref a), .val (.int (63 : Int32))] [(.int (63 : Int32)), (.ref a)]))
  refine gv (fun tQ kQ => XS.iconst X0.here hx rfl (hb hby d9_2) kQ) ?_
  show G (s₁.setTop (mkF me_ 3 #[.val (.ref a), .val (.int (63 : Int32))] [(.int (0 : Int32)), (.int (63 : Int32)), (.ref a)]))
  obtain ⟨cq189, kq189, q189a, q189b, q189c⟩ := isOf hZ e0 u2
  obtain ⟨_, _, ⟨T189, L189, k189, n189⟩, -, X189, ⟨Lc189, hQ189, l189, y189, z189⟩, st189⟩ := X0.virtualBack hx (y := (⟨"java/lang/String", "indexOf", "(II)I"⟩ : MethodName)) (z := (⟨"java/lang/String", "indexOf", "(II)I"⟩ : MethodName)) hown (mvT hZ (hw _ (List.mem_of_getElem? (i := 43) rfl))) (mvT hZ (hw _ (List.mem_of_getElem? (i := 44) rfl))) (notFace_of_selects (args := #[]) (mvT hZ (hw _ (List.mem_of_getElem? (i := 46) rfl)))) (mvT hZ (hw _ (List.mem_of_getElem? (i := 46) rfl))) (mvT hZ (hw _ (List.mem_of_getElem? (i := 45) rfl))) (by decide) (backOf (W := 0) (rm_io2L63 l Z a0 hw [] a b k cs x h0 n0 O0 u0 u1 u2 u3 u4 u5) hZ (hw _ (List.mem_of_getElem? (i := 47) rfl)) (hw _ (List.mem_of_getElem? (i := 11) rfl)) (by decide) (by decide)) q189a q189c (g := (mkF me_ 3 #[.val (.ref a), .val (.int (63 : Int32))] [(.int (0 : Int32)), (.int (63 : Int32)), (.ref a)])) rfl (by rw [hml]; rfl) (Steps.refl _) (argsL := [(.int (63 : Int32)), (.int (0 : Int32))]) (rest := []) (lenOf pd_9 rfl) rfl (by show 2 * 0 + _ ≤ _; exact Nat.le_of_eq rfl) (hb hby d9_3) (fun _ _ => ⟨rfl, e0, (by decide : 0 + 0 ≤ _), (by decide : 0 + 0 ≤ _)⟩)
  dsimp only [Pt.U, Pt.locs, Pt.cells, Pt.slots] at X189 l189 y189 z189 st189 hQ189
  subst l189 y189 z189
  obtain ⟨rfl, Nq189, eq189⟩ := hQ189
  have N190 := Fr.app N0 Nq189
  by_cases hb191 : x = (63 : Int32)
  · rw [if_pos hb191] at st189
    refine gv (fun tQ kQ => st189.trans kQ) ?_
    show G (T189.setTop (mkF me_ 6 #[.val (.ref a), .val (.int (63 : Int32))] [(.int (0 : Int32))]))
    refine gf _ (own_ret X189 Bd.notSynchronized (v := some (.int (0 : Int32))) (fun h => by rw [Bd.returns] at h; cases h) ?_ (by decide) (by decide) (fun fs hr => retOut X189 hx (t := .int) Bd.returns rfl (Or.inl ⟨rfl, Or.inl rfl, _, rfl⟩) (hb hby d9_6) hr))
    show Q_io1L63 Z a b k cs x h0 n0 _ T189.heap _
    rw [eq189]
    exact ⟨(by rw [if_pos hb191]), N190, rfl⟩
  · skip
    rw [if_neg hb191] at st189
    refine gv (fun tQ kQ => st189.trans kQ) ?_
    show G (T189.setTop (mkF me_ 6 #[.val (.ref a), .val (.int (63 : Int32))] [(.int (-1 : Int32))]))
    refine gf _ (own_ret X189 Bd.notSynchronized (v := some (.int (-1 : Int32))) (fun h => by rw [Bd.returns] at h; cases h) ?_ (by decide) (by decide) (fun fs hr => retOut X189 hx (t := .int) Bd.returns rfl (Or.inl ⟨rfl, Or.inl rfl, _, rfl⟩) (hb hby d9_6) hr))
    show Q_io1L63 Z a b k cs x h0 n0 _ T189.heap _
    rw [eq189]
    exact ⟨(by rw [if_neg hb191]), N190, rfl⟩
def Q_io1U63 (Z : State) (a : Addr) (b : Addr) (k : ClassId) (cs : Int32) (x0 : Int32) (x1 : Int32) (w : Int32) (fmt : Value) (h0 : Heap) (n0 : Nat) (v : Option Value) (h : Heap) (L : List Loc) : Prop := v = some (.int (if w = (63 : Int32) then (0 : Int32) else (-1 : Int32))) ∧ Fr n0 L ∧ h = h0
set_option maxRecDepth 65536 in
set_option maxHeartbeats 40000000 in
theorem rm_io1U63 (l : Launch) (Z : State) (a0 : Array Value) (hw : ∀ d ∈ tables_1, d.before a0 Z = true) (ws : List Jvm.Cond) (a : Addr) (b : Addr) (k : ClassId) (cs : Int32) (x0 : Int32) (x1 : Int32) (w : Int32) (fmt : Value) (h0 : Heap) (n0 : Nat) (O0 : Old Z n0 h0) (u0 : own_gc x0 x1 = w) (u1 : Sta Z Z.heap "java/lang/String" "COMPACT_STRINGS" "Z" (.int cs)) (u2 : ¬ (cs = (0 : Int32))) (u3 : Sta Z Z.heap "java/lang/StringUTF16" "$assertionsDisabled" "Z" (.int (1 : Int32))) (u4 : Sta Z Z.heap "java/lang/StringUTF16" "HI_BYTE_SHIFT" "I" (.int (0 : Int32))) (u5 : Sta Z Z.heap "java/lang/StringUTF16" "LO_BYTE_SHIFT" "I" (.int (8 : Int32))) (u6 : fmt.isRef = true) (u7 : Sta Z Z.heap "jdk/internal/util/Preconditions" "SIOOBE_FORMATTER" "Ljava/util/function/BiFunction;" fmt) (u8 : Exa Z h0 a "java/lang/String") (u9 : Fld Z h0 a "java/lang/String" "coder" "B" (.int (1 : Int32))) (u10 : Fld Z h0 a "java/lang/String" "value" "[B" (.ref b)) (u11 : Arv Z h0 b k .byte (2 : Int32) [(.int x0), (.int x1)] (.int (0 : Int32))) :
    MetFree l (⟨"java/lang/String", "indexOf", "(I)I"⟩ : MethodName) (head1 (Jvm.Cond.code (⟨"java/lang/String", "indexOf", "(I)I"⟩ : MethodName) jdk_42_method_79_code 2 (some .int) :: ws) ({ frames := 6, cells := 0, slots := 0, locals := 87 } : Room)) (fun aV U => aV = #[(.ref a), (.int (63 : Int32))] ∧ Z.Warmed39 U.vm ∧ U.heap = h0) (fun _ _ _ _ _ => True) (fun _ U o U' => ∃ v L, o = .returned v ∧ Q_io1U63 Z a b k cs x0 x1 w fmt h0 n0 v U'.heap L ∧ FrameEnd U o U' L ({ frames := 6, cells := 0, slots := 0, locals := 87 } : Room).cells ({ frames := 6, cells := 0, slots := 0, locals := 87 } : Room).slots) := by
  refine MetFree.of_bodySF (plainFor_of_name pn_1) hisR ?_
  intro pr_ en_ st_ me_ args below meth_ co_ s₁ Bd hml0 hP hK
  obtain ⟨rfl, hZ, hh⟩ := hP
  have hx := Bd.exec
  have hby := Bd.bytes
  have hml : co_.maxLocals = 2 := hml0
  have hown : st_.vm.findClass "java/lang/String" = some me_.cls := findClass_of_methodNamed Bd.named
  have hnm := (name_of_methodNamed Bd.named Bd.method).1
  have X0 : Stand pr_ l en_ ({ frames := 6, cells := 0, slots := 0, locals := 87 } : Room) st_ me_ #[(.ref a), (.int (63 : Int32))] below meth_ co_ s₁ [] 0 0 := Stand.of_body Bd
  have e0 : s₁.heap = h0 := by rw [← hh, Bd.state]; rfl
  have N0 := Fr.nil n0
  have K0 := Keep.refl h0 []
  obtain ⟨G, gv, gf, gb⟩ := own_G pr_.tables en_ below st_ (Q_io1U63 Z a b k cs x0 x1 w fmt h0 n0) ({ frames := 6, cells := 0, slots := 0, locals := 87 } : Room).cells ({ frames := 6, cells := 0, slots := 0, locals := 87 } : Room).slots
  show own_Fin pr_.tables en_ below st_ (Q_io1U63 Z a b k cs x0 x1 w fmt h0 n0) ({ frames := 6, cells := 0, slots := 0, locals := 87 } : Room).cells ({ frames := 6, cells := 0, slots := 0, locals := 87 } : Room).slots (s₁.setTop (entryFrame me_ #[(.ref a), (.int (63 : Int32))] 2))
  refine gb _ (gv (fun tQ kQ => castTop (ef_9 me_ a (63 : Int32)) kQ) ?_)
  show G (s₁.setTop (mkF me_ 0 #[.val (.ref a), .val (.int (63 : Int32))] []))
  refine gv (fun tQ kQ => XS.aloadN X0.here hx rfl (hb hby d9_0) rfl rfl kQ) ?_
  show G (s₁.setTop (mkF me_ 1 #[.val (.ref a), .val (.int (63 : Int32))] [(.ref a)]))
  refine gv (fun tQ kQ => XS.iloadN X0.here hx rfl (hb hby d9_1) rfl kQ) ?_
  show G (s₁.setTop (mkF me_ 2 #[.val (.ref a), .val (.int (63 : Int32))] [(.int (63 : Int32)), (.ref a)]))
  refine gv (fun tQ kQ => XS.iconst X0.here hx rfl (hb hby d9_2) kQ) ?_
  show G (s₁.setTop (mkF me_ 3 #[.val (.ref a), .val (.int (63 : Int32))] [(.int (0 : Int32)), (.int (63 : Int32)), (.ref a)]))
  obtain ⟨cq192, kq192, q192a, q192b, q192c⟩ := isOf hZ e0 u8
  obtain ⟨_, _, ⟨T192, L192, k192, n192⟩, -, X192, ⟨Lc192, hQ192, l192, y192, z192⟩, st192⟩ := X0.virtualBack hx (y := (⟨"java/lang/String", "indexOf", "(II)I"⟩ : MethodName)) (z := (⟨"java/lang/String", "indexOf", "(II)I"⟩ : MethodName)) hown (mvT hZ (hw _ (List.mem_of_getElem? (i := 43) rfl))) (mvT hZ (hw _ (List.mem_of_getElem? (i := 44) rfl))) (notFace_of_selects (args := #[]) (mvT hZ (hw _ (List.mem_of_getElem? (i := 46) rfl)))) (mvT hZ (hw _ (List.mem_of_getElem? (i := 46) rfl))) (mvT hZ (hw _ (List.mem_of_getElem? (i := 45) rfl))) (by decide) (backOf (W := 0) (rm_io2U63 l Z a0 hw [] a b k cs x0 x1 w fmt h0 n0 O0 u0 u1 u2 u3 u4 u5 u6 u7 u8 u9 u10 u11) hZ (hw _ (List.mem_of_getElem? (i := 47) rfl)) (hw _ (List.mem_of_getElem? (i := 11) rfl)) (by decide) (by decide)) q192a q192c (g := (mkF me_ 3 #[.val (.ref a), .val (.int (63 : Int32))] [(.int (0 : Int32)), (.int (63 : Int32)), (.ref a)])) rfl (by rw [hml]; rfl) (Steps.refl _) (argsL := [(.int (63 : Int32)), (.int (0 : Int32))]) (rest := []) (lenOf pd_9 rfl) rfl (by show 2 * 0 + _ ≤ _; exact Nat.le_of_eq rfl) (hb hby d9_3) (fun _ _ => ⟨rfl, e0, (by decide : 0 + 0 ≤ _), (by decide : 0 + 0 ≤ _)⟩)
  dsimp only [Pt.U, Pt.locs, Pt.cells, Pt.slots] at X192 l192 y192 z192 st192 hQ192
  subst l192 y192 z192
  obtain ⟨rfl, Nq192, eq192⟩ := hQ192
  have N193 := Fr.app N0 Nq192
  by_cases hb194 : w = (63 : Int32)
  · rw [if_pos hb194] at st192
    refine gv (fun tQ kQ => st192.trans kQ) ?_
    show G (T192.setTop (mkF me_ 6 #[.val (.ref a), .val (.int (63 : Int32))] [(.int (0 : Int32))]))
    refine gf _ (own_ret X192 Bd.notSynchronized (v := some (.int (0 : Int32))) (fun h => by rw [Bd.returns] at h; cases h) ?_ (by decide) (by decide) (fun fs hr => retOut X192 hx (t := .int) Bd.returns rfl (Or.inl ⟨rfl, Or.inl rfl, _, rfl⟩) (hb hby d9_6) hr))
    show Q_io1U63 Z a b k cs x0 x1 w fmt h0 n0 _ T192.heap _
    rw [eq192]
    exact ⟨(by rw [if_pos hb194]), N193, rfl⟩
  · skip
    rw [if_neg hb194] at st192
    refine gv (fun tQ kQ => st192.trans kQ) ?_
    show G (T192.setTop (mkF me_ 6 #[.val (.ref a), .val (.int (63 : Int32))] [(.int (-1 : Int32))]))
    refine gf _ (own_ret X192 Bd.notSynchronized (v := some (.int (-1 : Int32))) (fun h => by rw [Bd.returns] at h; cases h) ?_ (by decide) (by decide) (fun fs hr => retOut X192 hx (t := .int) Bd.returns rfl (Or.inl ⟨rfl, Or.inl rfl, _, rfl⟩) (hb hby d9_6) hr))
    show Q_io1U63 Z a b k cs x0 x1 w fmt h0 n0 _ T192.heap _
    rw [eq192]
    exact ⟨(by rw [if_neg hb194]), N193, rfl⟩
def Q_l1ioc42 (Z : State) (b : Addr) (k : ClassId) (x : Int32) (h0 : Heap) (n0 : Nat) (v : Option Value) (h : Heap) (L : List Loc) : Prop := v = some (.int (if x = (42 : Int32) then (0 : Int32) else (-1 : Int32))) ∧ Fr n0 L ∧ h = h0
set_option maxRecDepth 65536 in
set_option maxHeartbeats 40000000 in
theorem rm_l1ioc42 (l : Launch) (Z : State) (a0 : Array Value) (hw : ∀ d ∈ tables_1, d.before a0 Z = true) (ws : List Jvm.Cond) (b : Addr) (k : ClassId) (x : Int32) (h0 : Heap) (n0 : Nat) (O0 : Old Z n0 h0) (u0 : Arv Z h0 b k .byte (1 : Int32) [(.int x)] (.int (0 : Int32))) :
    MetFree l (⟨"java/lang/StringLatin1", "indexOfChar", "([BIII)I"⟩ : MethodName) (head1 (Jvm.Cond.code (⟨"java/lang/StringLatin1", "indexOfChar", "([BIII)I"⟩ : MethodName) jdk_43_method_23_code 6 (some .int) :: ws) ({ frames := 0, cells := 0, slots := 0, locals := 0 } : Room)) (fun aV U => aV = #[(.ref b), (.int (42 : Int32)), (.int (0 : Int32)), (.int (1 : Int32))] ∧ Z.Warmed39 U.vm ∧ U.heap = h0) (fun _ _ _ _ _ => True) (fun _ U o U' => ∃ v L, o = .returned v ∧ Q_l1ioc42 Z b k x h0 n0 v U'.heap L ∧ FrameEnd U o U' L ({ frames := 0, cells := 0, slots := 0, locals := 0 } : Room).cells ({ frames := 0, cells := 0, slots := 0, locals := 0 } : Room).slots) := by
  refine MetFree.of_bodySF (plainFor_of_name pn_0) hisR ?_
  intro pr_ en_ st_ me_ args below meth_ co_ s₁ Bd hml0 hP hK
  obtain ⟨rfl, hZ, hh⟩ := hP
  have hx := Bd.exec
  have hby := Bd.bytes
  have hml : co_.maxLocals = 6 := hml0
  have hown : st_.vm.findClass "java/lang/StringLatin1" = some me_.cls := findClass_of_methodNamed Bd.named
  have hnm := (name_of_methodNamed Bd.named Bd.method).1
  have X0 : Stand pr_ l en_ ({ frames := 0, cells := 0, slots := 0, locals := 0 } : Room) st_ me_ #[(.ref b), (.int (42 : Int32)), (.int (0 : Int32)), (.int (1 : Int32))] below meth_ co_ s₁ [] 0 0 := Stand.of_body Bd
  have e0 : s₁.heap = h0 := by rw [← hh, Bd.state]; rfl
  have N0 := Fr.nil n0
  have K0 := Keep.refl h0 []
  obtain ⟨G, gv, gf, gb⟩ := own_G pr_.tables en_ below st_ (Q_l1ioc42 Z b k x h0 n0) ({ frames := 0, cells := 0, slots := 0, locals := 0 } : Room).cells ({ frames := 0, cells := 0, slots := 0, locals := 0 } : Room).slots
  show own_Fin pr_.tables en_ below st_ (Q_l1ioc42 Z b k x h0 n0) ({ frames := 0, cells := 0, slots := 0, locals := 0 } : Room).cells ({ frames := 0, cells := 0, slots := 0, locals := 0 } : Room).slots (s₁.setTop (entryFrame me_ #[(.ref b), (.int (42 : Int32)), (.int (0 : Int32)), (.int (1 : Int32))] 6))
  refine gb _ (gv (fun tQ kQ => castTop (ef_10 me_ b (42 : Int32) (0 : Int32) (1 : Int32)) kQ) ?_)
  show G (s₁.setTop (mkF me_ 0 #[.val (.ref b), .val (.int (42 : Int32)), .val (.int (0 : Int32)), .val (.int (1 : Int32)), .unset, .unset] []))
  refine gv (fun tQ kQ => XS.iloadN X0.here hx rfl (hb hby d18_0) rfl kQ) ?_
  show G (s₁.setTop (mkF me_ 1 #[.val (.ref b), .val (.int (42 : Int32)), .val (.int (0 : Int32)), .val (.int (1 : Int32)), .unset, .unset] [(.int (42 : Int32))]))
  refine gv (fun tQ kQ => XS.i2b X0.here hx rfl (hb hby d18_1) rfl kQ) ?_
  show G (s₁.setTop (mkF me_ 2 #[.val (.ref b), .val (.int (42 : Int32)), .val (.int (0 : Int32)), .val (.int (1 : Int32)), .unset, .unset] [(.int ((42 : Int32).toInt8.toInt32))]))
  rw [(by decide : ((42 : Int32).toInt8.toInt32) = (42 : Int32))]
  show G (s₁.setTop (mkF me_ 2 #[.val (.ref b), .val (.int (42 : Int32)), .val (.int (0 : Int32)), .val (.int (1 : Int32)), .unset, .unset] [(.int (42 : Int32))]))
  refine gv (fun tQ kQ => XS.istore X0.here hx rfl (hb hby d18_2) rfl (l' := #[.val (.ref b), .val (.int (42 : Int32)), .val (.int (0 : Int32)), .val (.int (1 : Int32)), .val (.int (42 : Int32)), .unset]) rfl kQ) ?_
  show G (s₁.setTop (mkF me_ 4 #[.val (.ref b), .val (.int (42 : Int32)), .val (.int (0 : Int32)), .val (.int (1 : Int32)), .val (.int (42 : Int32)), .unset] []))
  refine gv (fun tQ kQ => XS.iloadN X0.here hx rfl (hb hby d18_4) rfl kQ) ?_
  show G (s₁.setTop (mkF me_ 5 #[.val (.ref b), .val (.int (42 : Int32)), .val (.int (0 : Int32)), .val (.int (1 : Int32)), .val (.int (42 : Int32)), .unset] [(.int (0 : Int32))]))
  refine gv (fun tQ kQ => XS.istore X0.here hx rfl (hb hby d18_5) rfl (l' := #[.val (.ref b), .val (.int (42 : Int32)), .val (.int (0 : Int32)), .val (.int (1 : Int32)), .val (.int (42 : Int32)), .val (.int (0 : Int32))]) rfl kQ) ?_
  show G (s₁.setTop (mkF me_ 7 #[.val (.ref b), .val (.int (42 : Int32)), .val (.int (0 : Int32)), .val (.int (1 : Int32)), .val (.int (42 : Int32)), .val (.int (0 : Int32))] []))
  refine gv (fun tQ kQ => XS.iload X0.here hx rfl (hb hby d18_7) rfl kQ) ?_
  show G (s₁.setTop (mkF me_ 9 #[.val (.ref b), .val (.int (42 : Int32)), .val (.int (0 : Int32)), .val (.int (1 : Int32)), .val (.int (42 : Int32)), .val (.int (0 : Int32))] [(.int (0 : Int32))]))
  refine gv (fun tQ kQ => XS.iloadN X0.here hx rfl (hb hby d18_9) rfl kQ) ?_
  show G (s₁.setTop (mkF me_ 10 #[.val (.ref b), .val (.int (42 : Int32)), .val (.int (0 : Int32)), .val (.int (1 : Int32)), .val (.int (42 : Int32)), .val (.int (0 : Int32))] [(.int (1 : Int32)), (.int (0 : Int32))]))
  refine gv (fun tQ kQ => XS.icmpNo X0.here hx rfl (hb hby d18_10) rfl (tlt (by decide : (0 : Int32) < (1 : Int32))).2.1 kQ) ?_
  show G (s₁.setTop (mkF me_ 13 #[.val (.ref b), .val (.int (42 : Int32)), .val (.int (0 : Int32)), .val (.int (1 : Int32)), .val (.int (42 : Int32)), .val (.int (0 : Int32))] []))
  refine gv (fun tQ kQ => XS.aloadN X0.here hx rfl (hb hby d18_13) rfl rfl kQ) ?_
  show G (s₁.setTop (mkF me_ 14 #[.val (.ref b), .val (.int (42 : Int32)), .val (.int (0 : Int32)), .val (.int (1 : Int32)), .val (.int (42 : Int32)), .val (.int (0 : Int32))] [(.ref b)]))
  refine gv (fun tQ kQ => XS.iload X0.here hx rfl (hb hby d18_14) rfl kQ) ?_
  show G (s₁.setTop (mkF me_ 16 #[.val (.ref b), .val (.int (42 : Int32)), .val (.int (0 : Int32)), .val (.int (1 : Int32)), .val (.int (42 : Int32)), .val (.int (0 : Int32))] [(.int (0 : Int32)), (.ref b)]))
  obtain ⟨cl195, Ar195, q195, S195, n195, H195, G195⟩ := (id u0)
  have in195 : ¬ ((0 : Int32) < 0 ∨ cl195.slots.size ≤ ((0 : Int32)).toNatClampNeg) := inb_of S195 ⟨by decide, by decide⟩
  refine gv (X0.baloadBytes hx (j := (0 : Int32)) (v := (.int x)) (by rw [e0]; exact Ar195.1) (State.isArrayOf_alike hZ.alike Ar195.2.1) Ar195.2.2 in195 (Has.at H195 in195 rfl) (g := (mkF me_ 16 #[.val (.ref b), .val (.int (42 : Int32)), .val (.int (0 : Int32)), .val (.int (1 : Int32)), .val (.int (42 : Int32)), .val (.int (0 : Int32))] [(.int (0 : Int32)), (.ref b)])) rfl rfl (hb hby d18_16)) ?_
  show G (s₁.setTop (mkF me_ 17 #[.val (.ref b), .val (.int (42 : Int32)), .val (.int (0 : Int32)), .val (.int (1 : Int32)), .val (.int (42 : Int32)), .val (.int (0 : Int32))] [(.int x)]))
  refine gv (fun tQ kQ => XS.iload X0.here hx rfl (hb hby d18_17) rfl kQ) ?_
  show G (s₁.setTop (mkF me_ 19 #[.val (.ref b), .val (.int (42 : Int32)), .val (.int (0 : Int32)), .val (.int (1 : Int32)), .val (.int (42 : Int32)), .val (.int (0 : Int32))] [(.int (42 : Int32)), (.int x)]))
  by_cases hc196 : x = (42 : Int32)
  · refine gv (fun tQ kQ => XS.icmpNo X0.here hx rfl (hb hby d18_19) rfl (teq hc196).2 kQ) ?_
    show G (s₁.setTop (mkF me_ 22 #[.val (.ref b), .val (.int (42 : Int32)), .val (.int (0 : Int32)), .val (.int (1 : Int32)), .val (.int (42 : Int32)), .val (.int (0 : Int32))] []))
    refine gv (fun tQ kQ => XS.iload X0.here hx rfl (hb hby d18_22) rfl kQ) ?_
    show G (s₁.setTop (mkF me_ 24 #[.val (.ref b), .val (.int (42 : Int32)), .val (.int (0 : Int32)), .val (.int (1 : Int32)), .val (.int (42 : Int32)), .val (.int (0 : Int32))] [(.int (0 : Int32))]))
    refine gf _ (own_ret X0 Bd.notSynchronized (v := some (.int (0 : Int32))) (fun h => by rw [Bd.returns] at h; cases h) ?_ (by decide) (by decide) (fun fs hr => retOut X0 hx (t := .int) Bd.returns rfl (Or.inl ⟨rfl, Or.inl rfl, _, rfl⟩) (hb hby d18_24) hr))
    show Q_l1ioc42 Z b k x h0 n0 _ s₁.heap _
    rw [e0]
    exact ⟨(by rw [if_pos hc196]), N0, rfl⟩
  · refine gv (fun tQ kQ => XS.icmpYes X0.here hx rfl (pc0 := 19) (pc' := 25) rfl (hb hby d18_19) rfl (feq hc196).2 (by decide) (by decide) kQ) ?_
    show G (s₁.setTop (mkF me_ 25 #[.val (.ref b), .val (.int (42 : Int32)), .val (.int (0 : Int32)), .val (.int (1 : Int32)), .val (.int (42 : Int32)), .val (.int (0 : Int32))] []))
    refine gv (fun tQ kQ => XS.iinc X0.here hx rfl (hb hby d18_25) rfl (l' := #[.val (.ref b), .val (.int (42 : Int32)), .val (.int (0 : Int32)), .val (.int (1 : Int32)), .val (.int (42 : Int32)), .val (.int ((0 : Int32) + (1 : Int32)))]) rfl kQ) ?_
    show G (s₁.setTop (mkF me_ 28 #[.val (.ref b), .val (.int (42 : Int32)), .val (.int (0 : Int32)), .val (.int (1 : Int32)), .val (.int (42 : Int32)), .val (.int ((0 : Int32) + (1 : Int32)))] []))
    rw [(by decide : ((0 : Int32) + (1 : Int32)) = (1 : Int32))]
    show G (s₁.setTop (mkF me_ 28 #[.val (.ref b), .val (.int (42 : Int32)), .val (.int (0 : Int32)), .val (.int (1 : Int32)), .val (.int (42 : Int32)), .val (.int (1 : Int32))] []))
    refine gv (fun tQ kQ => XS.goto X0.here hx rfl (pc0 := 28) (pc' := 7) rfl (hb hby d18_28) (by decide) (by decide) kQ) ?_
    show G (s₁.setTop (mkF me_ 7 #[.val (.ref b), .val (.int (42 : Int32)), .val (.int (0 : Int32)), .val (.int (1 : Int32)), .val (.int (42 : Int32)), .val (.int (1 : Int32))] []))
    refine gv (fun tQ kQ => XS.iload X0.here hx rfl (hb hby d18_7) rfl kQ) ?_
    show G (s₁.setTop (mkF me_ 9 #[.val (.ref b), .val (.int (42 : Int32)), .val (.int (0 : Int32)), .val (.int (1 : Int32)), .val (.int (42 : Int32)), .val (.int (1 : Int32))] [(.int (1 : Int32))]))
    refine gv (fun tQ kQ => XS.iloadN X0.here hx rfl (hb hby d18_9) rfl kQ) ?_
    show G (s₁.setTop (mkF me_ 10 #[.val (.ref b), .val (.int (42 : Int32)), .val (.int (0 : Int32)), .val (.int (1 : Int32)), .val (.int (42 : Int32)), .val (.int (1 : Int32))] [(.int (1 : Int32)), (.int (1 : Int32))]))
    refine gv (fun tQ kQ => XS.icmpYes X0.here hx rfl (pc0 := 10) (pc' := 31) rfl (hb hby d18_10) rfl (flt (by decide : ¬ ((1 : Int32) < (1 : Int32)))).2.1 (by decide) (by decide) kQ) ?_
    show G (s₁.setTop (mkF me_ 31 #[.val (.ref b), .val (.int (42 : Int32)), .val (.int (0 : Int32)), .val (.int (1 : Int32)), .val (.int (42 : Int32)), .val (.int (1 : Int32))] []))
    refine gv (fun tQ kQ => XS.iconst X0.here hx rfl (hb hby d18_31) kQ) ?_
    show G (s₁.setTop (mkF me_ 32 #[.val (.ref b), .val (.int (42 : Int32)), .val (.int (0 : Int32)), .val (.int (1 : Int32)), .val (.int (42 : Int32)), .val (.int (1 : Int32))] [(.int (-1 : Int32))]))
    refine gf _ (own_ret X0 Bd.notSynchronized (v := some (.int (-1 : Int32))) (fun h => by rw [Bd.returns] at h; cases h) ?_ (by decide) (by decide) (fun fs hr => retOut X0 hx (t := .int) Bd.returns rfl (Or.inl ⟨rfl, Or.inl rfl, _, rfl⟩) (hb hby d18_32) hr))
    show Q_l1ioc42 Z b k x h0 n0 _ s₁.heap _
    rw [e0]
    exact ⟨(by rw [if_neg hc196]), N0, rfl⟩
def Q_l1io42 (Z : State) (b : Addr) (k : ClassId) (x : Int32) (h0 : Heap) (n0 : Nat) (v : Option Value) (h : Heap) (L : List Loc) : Prop := v = some (.int (if x = (42 : Int32) then (0 : Int32) else (-1 : Int32))) ∧ Fr n0 L ∧ h = h0
set_option maxRecDepth 65536 in
set_option maxHeartbeats 40000000 in
theorem rm_l1io42 (l : Launch) (Z : State) (a0 : Array Value) (hw : ∀ d ∈ tables_1, d.before a0 Z = true) (ws : List Jvm.Cond) (b : Addr) (k : ClassId) (x : Int32) (h0 : Heap) (n0 : Nat) (O0 : Old Z n0 h0) (u0 : Arv Z h0 b k .byte (1 : Int32) [(.int x)] (.int (0 : Int32))) :
    MetFree l (⟨"java/lang/StringLatin1", "indexOf", "([BIII)I"⟩ : MethodName) (head1 (Jvm.Cond.code (⟨"java/lang/StringLatin1", "indexOf", "([BIII)I"⟩ : MethodName) jdk_43_method_22_code 4 (some .int) :: ws) ({ frames := 1, cells := 0, slots := 0, locals := 17 } : Room)) (fun aV U => aV = #[(.ref b), (.int (42 : Int32)), (.int (0 : Int32)), (.int (1 : Int32))] ∧ Z.Warmed39 U.vm ∧ U.heap = h0) (fun _ _ _ _ _ => True) (fun _ U o U' => ∃ v L, o = .returned v ∧ Q_l1io42 Z b k x h0 n0 v U'.heap L ∧ FrameEnd U o U' L ({ frames := 1, cells := 0, slots := 0, locals := 17 } : Room).cells ({ frames := 1, cells := 0, slots := 0, locals := 17 } : Room).slots) := by
  refine MetFree.of_bodySF (plainFor_of_name pn_0) hisR ?_
  intro pr_ en_ st_ me_ args below meth_ co_ s₁ Bd hml0 hP hK
  obtain ⟨rfl, hZ, hh⟩ := hP
  have hx := Bd.exec
  have hby := Bd.bytes
  have hml : co_.maxLocals = 4 := hml0
  have hown : st_.vm.findClass "java/lang/StringLatin1" = some me_.cls := findClass_of_methodNamed Bd.named
  have hnm := (name_of_methodNamed Bd.named Bd.method).1
  have X0 : Stand pr_ l en_ ({ frames := 1, cells := 0, slots := 0, locals := 17 } : Room) st_ me_ #[(.ref b), (.int (42 : Int32)), (.int (0 : Int32)), (.int (1 : Int32))] below meth_ co_ s₁ [] 0 0 := Stand.of_body Bd
  have e0 : s₁.heap = h0 := by rw [← hh, Bd.state]; rfl
  have N0 := Fr.nil n0
  have K0 := Keep.refl h0 []
  obtain ⟨G, gv, gf, gb⟩ := own_G pr_.tables en_ below st_ (Q_l1io42 Z b k x h0 n0) ({ frames := 1, cells := 0, slots := 0, locals := 17 } : Room).cells ({ frames := 1, cells := 0, slots := 0, locals := 17 } : Room).slots
  show own_Fin pr_.tables en_ below st_ (Q_l1io42 Z b k x h0 n0) ({ frames := 1, cells := 0, slots := 0, locals := 17 } : Room).cells ({ frames := 1, cells := 0, slots := 0, locals := 17 } : Room).slots (s₁.setTop (entryFrame me_ #[(.ref b), (.int (42 : Int32)), (.int (0 : Int32)), (.int (1 : Int32))] 4))
  refine gb _ (gv (fun tQ kQ => castTop (ef_11 me_ b (42 : Int32) (0 : Int32) (1 : Int32)) kQ) ?_)
  show G (s₁.setTop (mkF me_ 0 #[.val (.ref b), .val (.int (42 : Int32)), .val (.int (0 : Int32)), .val (.int (1 : Int32))] []))
  refine gv (fun tQ kQ => XS.iloadN X0.here hx rfl (hb hby d14_0) rfl kQ) ?_
  show G (s₁.setTop (mkF me_ 1 #[.val (.ref b), .val (.int (42 : Int32)), .val (.int (0 : Int32)), .val (.int (1 : Int32))] [(.int (42 : Int32))]))
  obtain ⟨_, _, ⟨T197, L197, k197, n197⟩, -, X197, ⟨Lc197, hQ197, l197, y197, z197⟩, st197⟩ := Jvm.LawKit.callS X0 hx (y := (⟨"java/lang/StringLatin1", "canEncode", "(I)Z"⟩ : MethodName)) hown (mvT hZ (hw _ (List.mem_of_getElem? (i := 66) rfl))) (mvT hZ (hw _ (List.mem_of_getElem? (i := 67) rfl))) (mvT hZ (hw _ (List.mem_of_getElem? (i := 16) rfl))) (mvT hZ (hw _ (List.mem_of_getElem? (i := 68) rfl))) (by decide) (backOf (W := 0) (rm_canI42 l Z a0 hw []  h0 n0 O0 ) hZ (hw _ (List.mem_of_getElem? (i := 68) rfl)) (hw _ (List.mem_of_getElem? (i := 16) rfl)) (by decide) (by decide)) (g := (mkF me_ 1 #[.val (.ref b), .val (.int (42 : Int32)), .val (.int (0 : Int32)), .val (.int (1 : Int32))] [(.int (42 : Int32))])) rfl (by rw [hml]; rfl) (argsL := [(.int (42 : Int32))]) (rest := []) (lenOf pd_8 rfl) rfl (by show 2 * 0 + _ ≤ _; exact Nat.le_of_eq rfl) (hb hby d14_1) (fun _ _ => ⟨rfl, e0, (by decide : 0 + 0 ≤ _), (by decide : 0 + 0 ≤ _)⟩)
  dsimp only [Pt.U, Pt.locs, Pt.cells, Pt.slots] at X197 l197 y197 z197 st197 hQ197
  subst l197 y197 z197
  obtain ⟨rfl, Nq197, eq197⟩ := hQ197
  have N198 := Fr.app N0 Nq197
  refine gv st197 ?_
  show G (T197.setTop (mkF me_ 4 #[.val (.ref b), .val (.int (42 : Int32)), .val (.int (0 : Int32)), .val (.int (1 : Int32))] [(.int (1 : Int32))]))
  refine gv (fun tQ kQ => XS.ifYes X197.here hx rfl (pc0 := 4) (pc' := 9) rfl (hb hby d14_4) rfl ((if0 _ _).trans (feq (by decide : ¬ ((1 : Int32) = (0 : Int32)))).2) (by decide) (by decide) kQ) ?_
  show G (T197.setTop (mkF me_ 9 #[.val (.ref b), .val (.int (42 : Int32)), .val (.int (0 : Int32)), .val (.int (1 : Int32))] []))
  refine gv (fun tQ kQ => XS.iloadN X197.here hx rfl (hb hby d14_9) rfl kQ) ?_
  show G (T197.setTop (mkF me_ 10 #[.val (.ref b), .val (.int (42 : Int32)), .val (.int (0 : Int32)), .val (.int (1 : Int32))] [(.int (0 : Int32))]))
  refine gv (fun tQ kQ => XS.iconst X197.here hx rfl (hb hby d14_10) kQ) ?_
  show G (T197.setTop (mkF me_ 11 #[.val (.ref b), .val (.int (42 : Int32)), .val (.int (0 : Int32)), .val (.int (1 : Int32))] [(.int (0 : Int32)), (.int (0 : Int32))]))
  obtain ⟨_, _, ⟨T199, L199, k199, n199⟩, -, X199, ⟨Lc199, hQ199, l199, y199, z199⟩, st199⟩ := Jvm.LawKit.callS X197 hx (y := (⟨"java/lang/Math", "max", "(II)I"⟩ : MethodName)) hown (mvT hZ (hw _ (List.mem_of_getElem? (i := 69) rfl))) (mvT hZ (hw _ (List.mem_of_getElem? (i := 70) rfl))) (mvT hZ (hw _ (List.mem_of_getElem? (i := 71) rfl))) (mvT hZ (hw _ (List.mem_of_getElem? (i := 72) rfl))) (by decide) (backOf (W := 0) (rm_max_0_0 l Z a0 hw []  h0 n0 O0 ) hZ (hw _ (List.mem_of_getElem? (i := 72) rfl)) (hw _ (List.mem_of_getElem? (i := 71) rfl)) (by decide) (by decide)) (g := (mkF me_ 11 #[.val (.ref b), .val (.int (42 : Int32)), .val (.int (0 : Int32)), .val (.int (1 : Int32))] [(.int (0 : Int32)), (.int (0 : Int32))])) rfl (by rw [hml]; rfl) (argsL := [(.int (0 : Int32)), (.int (0 : Int32))]) (rest := []) (lenOf pd_9 rfl) rfl (by show 2 * 0 + _ ≤ _; exact Nat.le_of_eq rfl) (hb hby d14_11) (fun _ _ => ⟨rfl, eq197, (by decide : 0 + 0 ≤ _), (by decide : 0 + 0 ≤ _)⟩)
  dsimp only [Pt.U, Pt.locs, Pt.cells, Pt.slots] at X199 l199 y199 z199 st199 hQ199
  subst l199 y199 z199
  obtain ⟨rfl, Nq199, eq199⟩ := hQ199
  have N200 := Fr.app N198 Nq199
  refine gv st199 ?_
  show G (T199.setTop (mkF me_ 14 #[.val (.ref b), .val (.int (42 : Int32)), .val (.int (0 : Int32)), .val (.int (1 : Int32))] [(.int (0 : Int32))]))
  refine gv (fun tQ kQ => XS.istoreN X199.here hx rfl (hb hby d14_14) rfl (l' := #[.val (.ref b), .val (.int (42 : Int32)), .val (.int (0 : Int32)), .val (.int (1 : Int32))]) rfl kQ) ?_
  show G (T199.setTop (mkF me_ 15 #[.val (.ref b), .val (.int (42 : Int32)), .val (.int (0 : Int32)), .val (.int (1 : Int32))] []))
  refine gv (fun tQ kQ => XS.iloadN X199.here hx rfl (hb hby d14_15) rfl kQ) ?_
  show G (T199.setTop (mkF me_ 16 #[.val (.ref b), .val (.int (42 : Int32)), .val (.int (0 : Int32)), .val (.int (1 : Int32))] [(.int (1 : Int32))]))
  refine gv (fun tQ kQ => XS.aloadN X199.here hx rfl (hb hby d14_16) rfl rfl kQ) ?_
  show G (T199.setTop (mkF me_ 17 #[.val (.ref b), .val (.int (42 : Int32)), .val (.int (0 : Int32)), .val (.int (1 : Int32))] [(.ref b), (.int (1 : Int32))]))
  obtain ⟨cl201, Ar201, -, S201, n201, -, -⟩ := (id u0)
  refine gv (X199.arraylength hx (by rw [eq199]; exact Ar201.1) (State.isArrayOf_alike hZ.alike Ar201.2.1) (g := (mkF me_ 17 #[.val (.ref b), .val (.int (42 : Int32)), .val (.int (0 : Int32)), .val (.int (1 : Int32))] [(.ref b), (.int (1 : Int32))])) rfl rfl (hb hby d14_17)) ?_
  rw [len_of S201 n201]
  show G (T199.setTop (mkF me_ 18 #[.val (.ref b), .val (.int (42 : Int32)), .val (.int (0 : Int32)), .val (.int (1 : Int32))] [(.int (1 : Int32)), (.int (1 : Int32))]))
  obtain ⟨_, _, ⟨T202, L202, k202, n202⟩, -, X202, ⟨Lc202, hQ202, l202, y202, z202⟩, st202⟩ := Jvm.LawKit.callS X199 hx (y := (⟨"java/lang/Math", "min", "(II)I"⟩ : MethodName)) hown (mvT hZ (hw _ (List.mem_of_getElem? (i := 73) rfl))) (mvT hZ (hw _ (List.mem_of_getElem? (i := 74) rfl))) (mvT hZ (hw _ (List.mem_of_getElem? (i := 71) rfl))) (mvT hZ (hw _ (List.mem_of_getElem? (i := 75) rfl))) (by decide) (backOf (W := 0) (rm_min_1_1 l Z a0 hw []  h0 n0 O0 ) hZ (hw _ (List.mem_of_getElem? (i := 75) rfl)) (hw _ (List.mem_of_getElem? (i := 71) rfl)) (by decide) (by decide)) (g := (mkF me_ 18 #[.val (.ref b), .val (.int (42 : Int32)), .val (.int (0 : Int32)), .val (.int (1 : Int32))] [(.int (1 : Int32)), (.int (1 : Int32))])) rfl (by rw [hml]; rfl) (argsL := [(.int (1 : Int32)), (.int (1 : Int32))]) (rest := []) (lenOf pd_9 rfl) rfl (by show 2 * 0 + _ ≤ _; exact Nat.le_of_eq rfl) (hb hby d14_18) (fun _ _ => ⟨rfl, eq199, (by decide : 0 + 0 ≤ _), (by decide : 0 + 0 ≤ _)⟩)
  dsimp only [Pt.U, Pt.locs, Pt.cells, Pt.slots] at X202 l202 y202 z202 st202 hQ202
  subst l202 y202 z202
  obtain ⟨rfl, Nq202, eq202⟩ := hQ202
  have N203 := Fr.app N200 Nq202
  refine gv st202 ?_
  show G (T202.setTop (mkF me_ 21 #[.val (.ref b), .val (.int (42 : Int32)), .val (.int (0 : Int32)), .val (.int (1 : Int32))] [(.int (1 : Int32))]))
  refine gv (fun tQ kQ => XS.istoreN X202.here hx rfl (hb hby d14_21) rfl (l' := #[.val (.ref b), .val (.int (42 : Int32)), .val (.int (0 : Int32)), .val (.int (1 : Int32))]) rfl kQ) ?_
  show G (T202.setTop (mkF me_ 22 #[.val (.ref b), .val (.int (42 : Int32)), .val (.int (0 : Int32)), .val (.int (1 : Int32))] []))
  refine gv (fun tQ kQ => XS.iloadN X202.here hx rfl (hb hby d14_22) rfl kQ) ?_
  show G (T202.setTop (mkF me_ 23 #[.val (.ref b), .val (.int (42 : Int32)), .val (.int (0 : Int32)), .val (.int (1 : Int32))] [(.int (0 : Int32))]))
  refine gv (fun tQ kQ => XS.iloadN X202.here hx rfl (hb hby d14_23) rfl kQ) ?_
  show G (T202.setTop (mkF me_ 24 #[.val (.ref b), .val (.int (42 : Int32)), .val (.int (0 : Int32)), .val (.int (1 : Int32))] [(.int (1 : Int32)), (.int (0 : Int32))]))
  refine gv (fun tQ kQ => XS.icmpYes X202.here hx rfl (pc0 := 24) (pc' := 29) rfl (hb hby d14_24) rfl (tlt (by decide : (0 : Int32) < (1 : Int32))).1 (by decide) (by decide) kQ) ?_
  show G (T202.setTop (mkF me_ 29 #[.val (.ref b), .val (.int (42 : Int32)), .val (.int (0 : Int32)), .val (.int (1 : Int32))] []))
  refine gv (fun tQ kQ => XS.aloadN X202.here hx rfl (hb hby d14_29) rfl rfl kQ) ?_
  show G (T202.setTop (mkF me_ 30 #[.val (.ref b), .val (.int (42 : Int32)), .val (.int (0 : Int32)), .val (.int (1 : Int32))] [(.ref b)]))
  refine gv (fun tQ kQ => XS.iloadN X202.here hx rfl (hb hby d14_30) rfl kQ) ?_
  show G (T202.setTop (mkF me_ 31 #[.val (.ref b), .val (.int (42 : Int32)), .val (.int (0 : Int32)), .val (.int (1 : Int32))] [(.int (42 : Int32)), (.ref b)]))
  refine gv (fun tQ kQ => XS.iloadN X202.here hx rfl (hb hby d14_31) rfl kQ) ?_
  show G (T202.setTop (mkF me_ 32 #[.val (.ref b), .val (.int (42 : Int32)), .val (.int (0 : Int32)), .val (.int (1 : Int32))] [(.int (0 : Int32)), (.int (42 : Int32)), (.ref b)]))
  refine gv (fun tQ kQ => XS.iloadN X202.here hx rfl (hb hby d14_32) rfl kQ) ?_
  show G (T202.setTop (mkF me_ 33 #[.val (.ref b), .val (.int (42 : Int32)), .val (.int (0 : Int32)), .val (.int (1 : Int32))] [(.int (1 : Int32)), (.int (0 : Int32)), (.int (42 : Int32)), (.ref b)]))
  obtain ⟨_, _, ⟨T204, L204, k204, n204⟩, -, X204, ⟨Lc204, hQ204, l204, y204, z204⟩, st204⟩ := Jvm.LawKit.callS X202 hx (y := (⟨"java/lang/StringLatin1", "indexOfChar", "([BIII)I"⟩ : MethodName)) hown (mvT hZ (hw _ (List.mem_of_getElem? (i := 76) rfl))) (mvT hZ (hw _ (List.mem_of_getElem? (i := 77) rfl))) (mvT hZ (hw _ (List.mem_of_getElem? (i := 16) rfl))) (mvT hZ (hw _ (List.mem_of_getElem? (i := 78) rfl))) (by decide) (backOf (W := 0) (rm_l1ioc42 l Z a0 hw [] b k x h0 n0 O0 u0) hZ (hw _ (List.mem_of_getElem? (i := 78) rfl)) (hw _ (List.mem_of_getElem? (i := 16) rfl)) (by decide) (by decide)) (g := (mkF me_ 33 #[.val (.ref b), .val (.int (42 : Int32)), .val (.int (0 : Int32)), .val (.int (1 : Int32))] [(.int (1 : Int32)), (.int (0 : Int32)), (.int (42 : Int32)), (.ref b)])) rfl (by rw [hml]; rfl) (argsL := [(.ref b), (.int (42 : Int32)), (.int (0 : Int32)), (.int (1 : Int32))]) (rest := []) (lenOf pd_10 rfl) rfl (by show 2 * 0 + _ ≤ _; exact Nat.le_of_eq rfl) (hb hby d14_33) (fun _ _ => ⟨rfl, eq202, (by decide : 0 + 0 ≤ _), (by decide : 0 + 0 ≤ _)⟩)
  dsimp only [Pt.U, Pt.locs, Pt.cells, Pt.slots] at X204 l204 y204 z204 st204 hQ204
  subst l204 y204 z204
  obtain ⟨rfl, Nq204, eq204⟩ := hQ204
  have N205 := Fr.app N203 Nq204
  by_cases hb206 : x = (42 : Int32)
  · rw [if_pos hb206] at st204
    refine gv st204 ?_
    show G (T204.setTop (mkF me_ 36 #[.val (.ref b), .val (.int (42 : Int32)), .val (.int (0 : Int32)), .val (.int (1 : Int32))] [(.int (0 : Int32))]))
    refine gf _ (own_ret X204 Bd.notSynchronized (v := some (.int (0 : Int32))) (fun h => by rw [Bd.returns] at h; cases h) ?_ (by decide) (by decide) (fun fs hr => retOut X204 hx (t := .int) Bd.returns rfl (Or.inl ⟨rfl, Or.inl rfl, _, rfl⟩) (hb hby d14_36) hr))
    show Q_l1io42 Z b k x h0 n0 _ T204.heap _
    rw [eq204]
    exact ⟨(by rw [if_pos hb206]), N205, rfl⟩
  · skip
    rw [if_neg hb206] at st204
    refine gv st204 ?_
    show G (T204.setTop (mkF me_ 36 #[.val (.ref b), .val (.int (42 : Int32)), .val (.int (0 : Int32)), .val (.int (1 : Int32))] [(.int (-1 : Int32))]))
    refine gf _ (own_ret X204 Bd.notSynchronized (v := some (.int (-1 : Int32))) (fun h => by rw [Bd.returns] at h; cases h) ?_ (by decide) (by decide) (fun fs hr => retOut X204 hx (t := .int) Bd.returns rfl (Or.inl ⟨rfl, Or.inl rfl, _, rfl⟩) (hb hby d14_36) hr))
    show Q_l1io42 Z b k x h0 n0 _ T204.heap _
    rw [eq204]
    exact ⟨(by rw [if_neg hb206]), N205, rfl⟩
def Q_uiou42 (Z : State) (b : Addr) (k : ClassId) (x0 : Int32) (x1 : Int32) (w : Int32) (h0 : Heap) (n0 : Nat) (v : Option Value) (h : Heap) (L : List Loc) : Prop := v = some (.int (if w = (42 : Int32) then (0 : Int32) else (-1 : Int32))) ∧ Fr n0 L ∧ h = h0
set_option maxRecDepth 65536 in
set_option maxHeartbeats 40000000 in
theorem rm_uiou42 (l : Launch) (Z : State) (a0 : Array Value) (hw : ∀ d ∈ tables_1, d.before a0 Z = true) (ws : List Jvm.Cond) (b : Addr) (k : ClassId) (x0 : Int32) (x1 : Int32) (w : Int32) (h0 : Heap) (n0 : Nat) (O0 : Old Z n0 h0) (u0 : own_gc x0 x1 = w) (u1 : Sta Z Z.heap "java/lang/StringUTF16" "$assertionsDisabled" "Z" (.int (1 : Int32))) (u2 : Sta Z Z.heap "java/lang/StringUTF16" "HI_BYTE_SHIFT" "I" (.int (0 : Int32))) (u3 : Sta Z Z.heap "java/lang/StringUTF16" "LO_BYTE_SHIFT" "I" (.int (8 : Int32))) (u4 : Arv Z h0 b k .byte (2 : Int32) [(.int x0), (.int x1)] (.int (0 : Int32))) :
    MetFree l (⟨"java/lang/StringUTF16", "indexOfCharUnsafe", "([BIII)I"⟩ : MethodName) (head1 (Jvm.Cond.code (⟨"java/lang/StringUTF16", "indexOfCharUnsafe", "([BIII)I"⟩ : MethodName) jdk_52_method_48_code 5 (some .int) :: ws) ({ frames := 1, cells := 0, slots := 0, locals := 13 } : Room)) (fun aV U => aV = #[(.ref b), (.int (42 : Int32)), (.int (0 : Int32)), (.int (1 : Int32))] ∧ Z.Warmed39 U.vm ∧ U.heap = h0) (fun _ _ _ _ _ => True) (fun _ U o U' => ∃ v L, o = .returned v ∧ Q_uiou42 Z b k x0 x1 w h0 n0 v U'.heap L ∧ FrameEnd U o U' L ({ frames := 1, cells := 0, slots := 0, locals := 13 } : Room).cells ({ frames := 1, cells := 0, slots := 0, locals := 13 } : Room).slots) := by
  refine MetFree.of_bodySF (plainFor_of_name pn_2) hisR ?_
  intro pr_ en_ st_ me_ args below meth_ co_ s₁ Bd hml0 hP hK
  obtain ⟨rfl, hZ, hh⟩ := hP
  have hx := Bd.exec
  have hby := Bd.bytes
  have hml : co_.maxLocals = 5 := hml0
  have hown : st_.vm.findClass "java/lang/StringUTF16" = some me_.cls := findClass_of_methodNamed Bd.named
  have hnm := (name_of_methodNamed Bd.named Bd.method).1
  have X0 : Stand pr_ l en_ ({ frames := 1, cells := 0, slots := 0, locals := 13 } : Room) st_ me_ #[(.ref b), (.int (42 : Int32)), (.int (0 : Int32)), (.int (1 : Int32))] below meth_ co_ s₁ [] 0 0 := Stand.of_body Bd
  have e0 : s₁.heap = h0 := by rw [← hh, Bd.state]; rfl
  have N0 := Fr.nil n0
  have K0 := Keep.refl h0 []
  obtain ⟨G, gv, gf, gb⟩ := own_G pr_.tables en_ below st_ (Q_uiou42 Z b k x0 x1 w h0 n0) ({ frames := 1, cells := 0, slots := 0, locals := 13 } : Room).cells ({ frames := 1, cells := 0, slots := 0, locals := 13 } : Room).slots
  show own_Fin pr_.tables en_ below st_ (Q_uiou42 Z b k x0 x1 w h0 n0) ({ frames := 1, cells := 0, slots := 0, locals := 13 } : Room).cells ({ frames := 1, cells := 0, slots := 0, locals := 13 } : Room).slots (s₁.setTop (entryFrame me_ #[(.ref b), (.int (42 : Int32)), (.int (0 : Int32)), (.int (1 : Int32))] 5))
  refine gb _ (gv (fun tQ kQ => castTop (ef_12 me_ b (42 : Int32) (0 : Int32) (1 : Int32)) kQ) ?_)
  show G (s₁.setTop (mkF me_ 0 #[.val (.ref b), .val (.int (42 : Int32)), .val (.int (0 : Int32)), .val (.int (1 : Int32)), .unset] []))
  refine gv (fun tQ kQ => XS.iloadN X0.here hx rfl (hb hby d27_0) rfl kQ) ?_
  show G (s₁.setTop (mkF me_ 1 #[.val (.ref b), .val (.int (42 : Int32)), .val (.int (0 : Int32)), .val (.int (1 : Int32)), .unset] [(.int (0 : Int32))]))
  refine gv (fun tQ kQ => XS.istore X0.here hx rfl (hb hby d27_1) rfl (l' := #[.val (.ref b), .val (.int (42 : Int32)), .val (.int (0 : Int32)), .val (.int (1 : Int32)), .val (.int (0 : Int32))]) rfl kQ) ?_
  show G (s₁.setTop (mkF me_ 3 #[.val (.ref b), .val (.int (42 : Int32)), .val (.int (0 : Int32)), .val (.int (1 : Int32)), .val (.int (0 : Int32))] []))
  refine gv (fun tQ kQ => XS.iload X0.here hx rfl (hb hby d27_3) rfl kQ) ?_
  show G (s₁.setTop (mkF me_ 5 #[.val (.ref b), .val (.int (42 : Int32)), .val (.int (0 : Int32)), .val (.int (1 : Int32)), .val (.int (0 : Int32))] [(.int (0 : Int32))]))
  refine gv (fun tQ kQ => XS.iloadN X0.here hx rfl (hb hby d27_5) rfl kQ) ?_
  show G (s₁.setTop (mkF me_ 6 #[.val (.ref b), .val (.int (42 : Int32)), .val (.int (0 : Int32)), .val (.int (1 : Int32)), .val (.int (0 : Int32))] [(.int (1 : Int32)), (.int (0 : Int32))]))
  refine gv (fun tQ kQ => XS.icmpNo X0.here hx rfl (hb hby d27_6) rfl (tlt (by decide : (0 : Int32) < (1 : Int32))).2.1 kQ) ?_
  show G (s₁.setTop (mkF me_ 9 #[.val (.ref b), .val (.int (42 : Int32)), .val (.int (0 : Int32)), .val (.int (1 : Int32)), .val (.int (0 : Int32))] []))
  refine gv (fun tQ kQ => XS.aloadN X0.here hx rfl (hb hby d27_9) rfl rfl kQ) ?_
  show G (s₁.setTop (mkF me_ 10 #[.val (.ref b), .val (.int (42 : Int32)), .val (.int (0 : Int32)), .val (.int (1 : Int32)), .val (.int (0 : Int32))] [(.ref b)]))
  refine gv (fun tQ kQ => XS.iload X0.here hx rfl (hb hby d27_10) rfl kQ) ?_
  show G (s₁.setTop (mkF me_ 12 #[.val (.ref b), .val (.int (42 : Int32)), .val (.int (0 : Int32)), .val (.int (1 : Int32)), .val (.int (0 : Int32))] [(.int (0 : Int32)), (.ref b)]))
  obtain ⟨_, _, ⟨T207, L207, k207, n207⟩, -, X207, ⟨Lc207, hQ207, l207, y207, z207⟩, st207⟩ := Jvm.LawKit.callS X0 hx (y := (⟨"java/lang/StringUTF16", "getChar", "([BI)C"⟩ : MethodName)) hown (mvT hZ (hw _ (List.mem_of_getElem? (i := 115) rfl))) (mvT hZ (hw _ (List.mem_of_getElem? (i := 116) rfl))) (mvT hZ (hw _ (List.mem_of_getElem? (i := 81) rfl))) (mvT hZ (hw _ (List.mem_of_getElem? (i := 117) rfl))) (by decide) (backOf (W := 0) (rm_getc l Z a0 hw [] b k x0 x1 w h0 n0 O0 u0 u1 u2 u3 u4) hZ (hw _ (List.mem_of_getElem? (i := 117) rfl)) (hw _ (List.mem_of_getElem? (i := 81) rfl)) (by decide) (by decide)) (g := (mkF me_ 12 #[.val (.ref b), .val (.int (42 : Int32)), .val (.int (0 : Int32)), .val (.int (1 : Int32)), .val (.int (0 : Int32))] [(.int (0 : Int32)), (.ref b)])) rfl (by rw [hml]; rfl) (argsL := [(.ref b), (.int (0 : Int32))]) (rest := []) (lenOf pd_11 rfl) rfl (by show 2 * 0 + _ ≤ _; exact Nat.le_of_eq rfl) (hb hby d27_12) (fun _ _ => ⟨rfl, e0, (by decide : 0 + 0 ≤ _), (by decide : 0 + 0 ≤ _)⟩)
  dsimp only [Pt.U, Pt.locs, Pt.cells, Pt.slots] at X207 l207 y207 z207 st207 hQ207
  subst l207 y207 z207
  obtain ⟨rfl, Nq207, eq207⟩ := hQ207
  have N208 := Fr.app N0 Nq207
  refine gv st207 ?_
  show G (T207.setTop (mkF me_ 15 #[.val (.ref b), .val (.int (42 : Int32)), .val (.int (0 : Int32)), .val (.int (1 : Int32)), .val (.int (0 : Int32))] [(.int w)]))
  refine gv (fun tQ kQ => XS.iloadN X207.here hx rfl (hb hby d27_15) rfl kQ) ?_
  show G (T207.setTop (mkF me_ 16 #[.val (.ref b), .val (.int (42 : Int32)), .val (.int (0 : Int32)), .val (.int (1 : Int32)), .val (.int (0 : Int32))] [(.int (42 : Int32)), (.int w)]))
  by_cases hc209 : w = (42 : Int32)
  · refine gv (fun tQ kQ => XS.icmpNo X207.here hx rfl (hb hby d27_16) rfl (teq hc209).2 kQ) ?_
    show G (T207.setTop (mkF me_ 19 #[.val (.ref b), .val (.int (42 : Int32)), .val (.int (0 : Int32)), .val (.int (1 : Int32)), .val (.int (0 : Int32))] []))
    refine gv (fun tQ kQ => XS.iload X207.here hx rfl (hb hby d27_19) rfl kQ) ?_
    show G (T207.setTop (mkF me_ 21 #[.val (.ref b), .val (.int (42 : Int32)), .val (.int (0 : Int32)), .val (.int (1 : Int32)), .val (.int (0 : Int32))] [(.int (0 : Int32))]))
    refine gf _ (own_ret X207 Bd.notSynchronized (v := some (.int (0 : Int32))) (fun h => by rw [Bd.returns] at h; cases h) ?_ (by decide) (by decide) (fun fs hr => retOut X207 hx (t := .int) Bd.returns rfl (Or.inl ⟨rfl, Or.inl rfl, _, rfl⟩) (hb hby d27_21) hr))
    show Q_uiou42 Z b k x0 x1 w h0 n0 _ T207.heap _
    rw [eq207]
    exact ⟨(by rw [if_pos hc209]), N208, rfl⟩
  · refine gv (fun tQ kQ => XS.icmpYes X207.here hx rfl (pc0 := 16) (pc' := 22) rfl (hb hby d27_16) rfl (feq hc209).2 (by decide) (by decide) kQ) ?_
    show G (T207.setTop (mkF me_ 22 #[.val (.ref b), .val (.int (42 : Int32)), .val (.int (0 : Int32)), .val (.int (1 : Int32)), .val (.int (0 : Int32))] []))
    refine gv (fun tQ kQ => XS.iinc X207.here hx rfl (hb hby d27_22) rfl (l' := #[.val (.ref b), .val (.int (42 : Int32)), .val (.int (0 : Int32)), .val (.int (1 : Int32)), .val (.int ((0 : Int32) + (1 : Int32)))]) rfl kQ) ?_
    show G (T207.setTop (mkF me_ 25 #[.val (.ref b), .val (.int (42 : Int32)), .val (.int (0 : Int32)), .val (.int (1 : Int32)), .val (.int ((0 : Int32) + (1 : Int32)))] []))
    rw [(by decide : ((0 : Int32) + (1 : Int32)) = (1 : Int32))]
    show G (T207.setTop (mkF me_ 25 #[.val (.ref b), .val (.int (42 : Int32)), .val (.int (0 : Int32)), .val (.int (1 : Int32)), .val (.int (1 : Int32))] []))
    refine gv (fun tQ kQ => XS.goto X207.here hx rfl (pc0 := 25) (pc' := 3) rfl (hb hby d27_25) (by decide) (by decide) kQ) ?_
    show G (T207.setTop (mkF me_ 3 #[.val (.ref b), .val (.int (42 : Int32)), .val (.int (0 : Int32)), .val (.int (1 : Int32)), .val (.int (1 : Int32))] []))
    refine gv (fun tQ kQ => XS.iload X207.here hx rfl (hb hby d27_3) rfl kQ) ?_
    show G (T207.setTop (mkF me_ 5 #[.val (.ref b), .val (.int (42 : Int32)), .val (.int (0 : Int32)), .val (.int (1 : Int32)), .val (.int (1 : Int32))] [(.int (1 : Int32))]))
    refine gv (fun tQ kQ => XS.iloadN X207.here hx rfl (hb hby d27_5) rfl kQ) ?_
    show G (T207.setTop (mkF me_ 6 #[.val (.ref b), .val (.int (42 : Int32)), .val (.int (0 : Int32)), .val (.int (1 : Int32)), .val (.int (1 : Int32))] [(.int (1 : Int32)), (.int (1 : Int32))]))
    refine gv (fun tQ kQ => XS.icmpYes X207.here hx rfl (pc0 := 6) (pc' := 28) rfl (hb hby d27_6) rfl (flt (by decide : ¬ ((1 : Int32) < (1 : Int32)))).2.1 (by decide) (by decide) kQ) ?_
    show G (T207.setTop (mkF me_ 28 #[.val (.ref b), .val (.int (42 : Int32)), .val (.int (0 : Int32)), .val (.int (1 : Int32)), .val (.int (1 : Int32))] []))
    refine gv (fun tQ kQ => XS.iconst X207.here hx rfl (hb hby d27_28) kQ) ?_
    show G (T207.setTop (mkF me_ 29 #[.val (.ref b), .val (.int (42 : Int32)), .val (.int (0 : Int32)), .val (.int (1 : Int32)), .val (.int (1 : Int32))] [(.int (-1 : Int32))]))
    refine gf _ (own_ret X207 Bd.notSynchronized (v := some (.int (-1 : Int32))) (fun h => by rw [Bd.returns] at h; cases h) ?_ (by decide) (by decide) (fun fs hr => retOut X207 hx (t := .int) Bd.returns rfl (Or.inl ⟨rfl, Or.inl rfl, _, rfl⟩) (hb hby d27_29) hr))
    show Q_uiou42 Z b k x0 x1 w h0 n0 _ T207.heap _
    rw [eq207]
    exact ⟨(by rw [if_neg hc209]), N208, rfl⟩
def Q_uioc42 (Z : State) (b : Addr) (k : ClassId) (x0 : Int32) (x1 : Int32) (w : Int32) (fmt : Value) (h0 : Heap) (n0 : Nat) (v : Option Value) (h : Heap) (L : List Loc) : Prop := v = some (.int (if w = (42 : Int32) then (0 : Int32) else (-1 : Int32))) ∧ Fr n0 L ∧ h = h0
set_option maxRecDepth 65536 in
set_option maxHeartbeats 40000000 in
theorem rm_uioc42 (l : Launch) (Z : State) (a0 : Array Value) (hw : ∀ d ∈ tables_1, d.before a0 Z = true) (ws : List Jvm.Cond) (b : Addr) (k : ClassId) (x0 : Int32) (x1 : Int32) (w : Int32) (fmt : Value) (h0 : Heap) (n0 : Nat) (O0 : Old Z n0 h0) (u0 : own_gc x0 x1 = w) (u1 : Sta Z Z.heap "java/lang/StringUTF16" "$assertionsDisabled" "Z" (.int (1 : Int32))) (u2 : Sta Z Z.heap "java/lang/StringUTF16" "HI_BYTE_SHIFT" "I" (.int (0 : Int32))) (u3 : Sta Z Z.heap "java/lang/StringUTF16" "LO_BYTE_SHIFT" "I" (.int (8 : Int32))) (u4 : fmt.isRef = true) (u5 : Sta Z Z.heap "jdk/internal/util/Preconditions" "SIOOBE_FORMATTER" "Ljava/util/function/BiFunction;" fmt) (u6 : Arv Z h0 b k .byte (2 : Int32) [(.int x0), (.int x1)] (.int (0 : Int32))) :
    MetFree l (⟨"java/lang/StringUTF16", "indexOfChar", "([BIII)I"⟩ : MethodName) (head1 (Jvm.Cond.code (⟨"java/lang/StringUTF16", "indexOfChar", "([BIII)I"⟩ : MethodName) jdk_52_method_47_code 4 (some .int) :: ws) ({ frames := 3, cells := 0, slots := 0, locals := 43 } : Room)) (fun aV U => aV = #[(.ref b), (.int (42 : Int32)), (.int (0 : Int32)), (.int (1 : Int32))] ∧ Z.Warmed39 U.vm ∧ U.heap = h0) (fun _ _ _ _ _ => True) (fun _ U o U' => ∃ v L, o = .returned v ∧ Q_uioc42 Z b k x0 x1 w fmt h0 n0 v U'.heap L ∧ FrameEnd U o U' L ({ frames := 3, cells := 0, slots := 0, locals := 43 } : Room).cells ({ frames := 3, cells := 0, slots := 0, locals := 43 } : Room).slots) := by
  refine MetFree.of_bodySF (plainFor_of_name pn_2) hisR ?_
  intro pr_ en_ st_ me_ args below meth_ co_ s₁ Bd hml0 hP hK
  obtain ⟨rfl, hZ, hh⟩ := hP
  have hx := Bd.exec
  have hby := Bd.bytes
  have hml : co_.maxLocals = 4 := hml0
  have hown : st_.vm.findClass "java/lang/StringUTF16" = some me_.cls := findClass_of_methodNamed Bd.named
  have hnm := (name_of_methodNamed Bd.named Bd.method).1
  have X0 : Stand pr_ l en_ ({ frames := 3, cells := 0, slots := 0, locals := 43 } : Room) st_ me_ #[(.ref b), (.int (42 : Int32)), (.int (0 : Int32)), (.int (1 : Int32))] below meth_ co_ s₁ [] 0 0 := Stand.of_body Bd
  have e0 : s₁.heap = h0 := by rw [← hh, Bd.state]; rfl
  have N0 := Fr.nil n0
  have K0 := Keep.refl h0 []
  obtain ⟨G, gv, gf, gb⟩ := own_G pr_.tables en_ below st_ (Q_uioc42 Z b k x0 x1 w fmt h0 n0) ({ frames := 3, cells := 0, slots := 0, locals := 43 } : Room).cells ({ frames := 3, cells := 0, slots := 0, locals := 43 } : Room).slots
  show own_Fin pr_.tables en_ below st_ (Q_uioc42 Z b k x0 x1 w fmt h0 n0) ({ frames := 3, cells := 0, slots := 0, locals := 43 } : Room).cells ({ frames := 3, cells := 0, slots := 0, locals := 43 } : Room).slots (s₁.setTop (entryFrame me_ #[(.ref b), (.int (42 : Int32)), (.int (0 : Int32)), (.int (1 : Int32))] 4))
  refine gb _ (gv (fun tQ kQ => castTop (ef_11 me_ b (42 : Int32) (0 : Int32) (1 : Int32)) kQ) ?_)
  show G (s₁.setTop (mkF me_ 0 #[.val (.ref b), .val (.int (42 : Int32)), .val (.int (0 : Int32)), .val (.int (1 : Int32))] []))
  refine gv (fun tQ kQ => XS.iloadN X0.here hx rfl (hb hby d22_0) rfl kQ) ?_
  show G (s₁.setTop (mkF me_ 1 #[.val (.ref b), .val (.int (42 : Int32)), .val (.int (0 : Int32)), .val (.int (1 : Int32))] [(.int (0 : Int32))]))
  refine gv (fun tQ kQ => XS.iloadN X0.here hx rfl (hb hby d22_1) rfl kQ) ?_
  show G (s₁.setTop (mkF me_ 2 #[.val (.ref b), .val (.int (42 : Int32)), .val (.int (0 : Int32)), .val (.int (1 : Int32))] [(.int (1 : Int32)), (.int (0 : Int32))]))
  refine gv (fun tQ kQ => XS.aloadN X0.here hx rfl (hb hby d22_2) rfl rfl kQ) ?_
  show G (s₁.setTop (mkF me_ 3 #[.val (.ref b), .val (.int (42 : Int32)), .val (.int (0 : Int32)), .val (.int (1 : Int32))] [(.ref b), (.int (1 : Int32)), (.int (0 : Int32))]))
  obtain ⟨_, _, ⟨T210, L210, k210, n210⟩, -, X210, ⟨Lc210, hQ210, l210, y210, z210⟩, st210⟩ := Jvm.LawKit.callS X0 hx (y := (⟨"java/lang/StringUTF16", "checkBoundsBeginEnd", "(II[B)V"⟩ : MethodName)) hown (mvT hZ (hw _ (List.mem_of_getElem? (i := 98) rfl))) (mvT hZ (hw _ (List.mem_of_getElem? (i := 99) rfl))) (mvT hZ (hw _ (List.mem_of_getElem? (i := 81) rfl))) (mvT hZ (hw _ (List.mem_of_getElem? (i := 100) rfl))) (by decide) (backOf (W := 0) (rm_ucbe l Z a0 hw [] b k x0 x1 fmt h0 n0 O0 u4 u5 u6) hZ (hw _ (List.mem_of_getElem? (i := 100) rfl)) (hw _ (List.mem_of_getElem? (i := 81) rfl)) (by decide) (by decide)) (g := (mkF me_ 3 #[.val (.ref b), .val (.int (42 : Int32)), .val (.int (0 : Int32)), .val (.int (1 : Int32))] [(.ref b), (.int (1 : Int32)), (.int (0 : Int32))])) rfl (by rw [hml]; rfl) (argsL := [(.int (0 : Int32)), (.int (1 : Int32)), (.ref b)]) (rest := []) (lenOf pd_12 rfl) rfl (by show 2 * 0 + _ ≤ _; exact Nat.le_of_eq rfl) (hb hby d22_3) (fun _ _ => ⟨rfl, e0, (by decide : 0 + 0 ≤ _), (by decide : 0 + 0 ≤ _)⟩)
  dsimp only [Pt.U, Pt.locs, Pt.cells, Pt.slots] at X210 l210 y210 z210 st210 hQ210
  subst l210 y210 z210
  obtain ⟨rfl, Nq210, eq210⟩ := hQ210
  have N211 := Fr.app N0 Nq210
  refine gv st210 ?_
  show G (T210.setTop (mkF me_ 6 #[.val (.ref b), .val (.int (42 : Int32)), .val (.int (0 : Int32)), .val (.int (1 : Int32))] []))
  refine gv (fun tQ kQ => XS.aloadN X210.here hx rfl (hb hby d22_6) rfl rfl kQ) ?_
  show G (T210.setTop (mkF me_ 7 #[.val (.ref b), .val (.int (42 : Int32)), .val (.int (0 : Int32)), .val (.int (1 : Int32))] [(.ref b)]))
  refine gv (fun tQ kQ => XS.iloadN X210.here hx rfl (hb hby d22_7) rfl kQ) ?_
  show G (T210.setTop (mkF me_ 8 #[.val (.ref b), .val (.int (42 : Int32)), .val (.int (0 : Int32)), .val (.int (1 : Int32))] [(.int (42 : Int32)), (.ref b)]))
  refine gv (fun tQ kQ => XS.iloadN X210.here hx rfl (hb hby d22_8) rfl kQ) ?_
  show G (T210.setTop (mkF me_ 9 #[.val (.ref b), .val (.int (42 : Int32)), .val (.int (0 : Int32)), .val (.int (1 : Int32))] [(.int (0 : Int32)), (.int (42 : Int32)), (.ref b)]))
  refine gv (fun tQ kQ => XS.iloadN X210.here hx rfl (hb hby d22_9) rfl kQ) ?_
  show G (T210.setTop (mkF me_ 10 #[.val (.ref b), .val (.int (42 : Int32)), .val (.int (0 : Int32)), .val (.int (1 : Int32))] [(.int (1 : Int32)), (.int (0 : Int32)), (.int (42 : Int32)), (.ref b)]))
  obtain ⟨_, _, ⟨T212, L212, k212, n212⟩, -, X212, ⟨Lc212, hQ212, l212, y212, z212⟩, st212⟩ := Jvm.LawKit.callS X210 hx (y := (⟨"java/lang/StringUTF16", "indexOfCharUnsafe", "([BIII)I"⟩ : MethodName)) hown (mvT hZ (hw _ (List.mem_of_getElem? (i := 112) rfl))) (mvT hZ (hw _ (List.mem_of_getElem? (i := 113) rfl))) (mvT hZ (hw _ (List.mem_of_getElem? (i := 81) rfl))) (mvT hZ (hw _ (List.mem_of_getElem? (i := 114) rfl))) (by decide) (backOf (W := 0) (rm_uiou42 l Z a0 hw [] b k x0 x1 w h0 n0 O0 u0 u1 u2 u3 u6) hZ (hw _ (List.mem_of_getElem? (i := 114) rfl)) (hw _ (List.mem_of_getElem? (i := 81) rfl)) (by decide) (by decide)) (g := (mkF me_ 10 #[.val (.ref b), .val (.int (42 : Int32)), .val (.int (0 : Int32)), .val (.int (1 : Int32))] [(.int (1 : Int32)), (.int (0 : Int32)), (.int (42 : Int32)), (.ref b)])) rfl (by rw [hml]; rfl) (argsL := [(.ref b), (.int (42 : Int32)), (.int (0 : Int32)), (.int (1 : Int32))]) (rest := []) (lenOf pd_10 rfl) rfl (by show 2 * 0 + _ ≤ _; exact Nat.le_of_eq rfl) (hb hby d22_10) (fun _ _ => ⟨rfl, eq210, (by decide : 0 + 0 ≤ _), (by decide : 0 + 0 ≤ _)⟩)
  dsimp only [Pt.U, Pt.locs, Pt.cells, Pt.slots] at X212 l212 y212 z212 st212 hQ212
  subst l212 y212 z212
  obtain ⟨rfl, Nq212, eq212⟩ := hQ212
  have N213 := Fr.app N211 Nq212
  by_cases hb214 : w = (42 : Int32)
  · rw [if_pos hb214] at st212
    refine gv st212 ?_
    show G (T212.setTop (mkF me_ 13 #[.val (.ref b), .val (.int (42 : Int32)), .val (.int (0 : Int32)), .val (.int (1 : Int32))] [(.int (0 : Int32))]))
    refine gf _ (own_ret X212 Bd.notSynchronized (v := some (.int (0 : Int32))) (fun h => by rw [Bd.returns] at h; cases h) ?_ (by decide) (by decide) (fun fs hr => retOut X212 hx (t := .int) Bd.returns rfl (Or.inl ⟨rfl, Or.inl rfl, _, rfl⟩) (hb hby d22_13) hr))
    show Q_uioc42 Z b k x0 x1 w fmt h0 n0 _ T212.heap _
    rw [eq212]
    exact ⟨(by rw [if_pos hb214]), N213, rfl⟩
  · skip
    rw [if_neg hb214] at st212
    refine gv st212 ?_
    show G (T212.setTop (mkF me_ 13 #[.val (.ref b), .val (.int (42 : Int32)), .val (.int (0 : Int32)), .val (.int (1 : Int32))] [(.int (-1 : Int32))]))
    refine gf _ (own_ret X212 Bd.notSynchronized (v := some (.int (-1 : Int32))) (fun h => by rw [Bd.returns] at h; cases h) ?_ (by decide) (by decide) (fun fs hr => retOut X212 hx (t := .int) Bd.returns rfl (Or.inl ⟨rfl, Or.inl rfl, _, rfl⟩) (hb hby d22_13) hr))
    show Q_uioc42 Z b k x0 x1 w fmt h0 n0 _ T212.heap _
    rw [eq212]
    exact ⟨(by rw [if_neg hb214]), N213, rfl⟩
def Q_uio42 (Z : State) (b : Addr) (k : ClassId) (x0 : Int32) (x1 : Int32) (w : Int32) (fmt : Value) (h0 : Heap) (n0 : Nat) (v : Option Value) (h : Heap) (L : List Loc) : Prop := v = some (.int (if w = (42 : Int32) then (0 : Int32) else (-1 : Int32))) ∧ Fr n0 L ∧ h = h0
set_option maxRecDepth 65536 in
set_option maxHeartbeats 40000000 in
theorem rm_uio42 (l : Launch) (Z : State) (a0 : Array Value) (hw : ∀ d ∈ tables_1, d.before a0 Z = true) (ws : List Jvm.Cond) (b : Addr) (k : ClassId) (x0 : Int32) (x1 : Int32) (w : Int32) (fmt : Value) (h0 : Heap) (n0 : Nat) (O0 : Old Z n0 h0) (u0 : own_gc x0 x1 = w) (u1 : Sta Z Z.heap "java/lang/StringUTF16" "$assertionsDisabled" "Z" (.int (1 : Int32))) (u2 : Sta Z Z.heap "java/lang/StringUTF16" "HI_BYTE_SHIFT" "I" (.int (0 : Int32))) (u3 : Sta Z Z.heap "java/lang/StringUTF16" "LO_BYTE_SHIFT" "I" (.int (8 : Int32))) (u4 : fmt.isRef = true) (u5 : Sta Z Z.heap "jdk/internal/util/Preconditions" "SIOOBE_FORMATTER" "Ljava/util/function/BiFunction;" fmt) (u6 : Arv Z h0 b k .byte (2 : Int32) [(.int x0), (.int x1)] (.int (0 : Int32))) :
    MetFree l (⟨"java/lang/StringUTF16", "indexOf", "([BIII)I"⟩ : MethodName) (head1 (Jvm.Cond.code (⟨"java/lang/StringUTF16", "indexOf", "([BIII)I"⟩ : MethodName) jdk_52_method_40_code 4 (some .int) :: ws) ({ frames := 4, cells := 0, slots := 0, locals := 58 } : Room)) (fun aV U => aV = #[(.ref b), (.int (42 : Int32)), (.int (0 : Int32)), (.int (1 : Int32))] ∧ Z.Warmed39 U.vm ∧ U.heap = h0) (fun _ _ _ _ _ => True) (fun _ U o U' => ∃ v L, o = .returned v ∧ Q_uio42 Z b k x0 x1 w fmt h0 n0 v U'.heap L ∧ FrameEnd U o U' L ({ frames := 4, cells := 0, slots := 0, locals := 58 } : Room).cells ({ frames := 4, cells := 0, slots := 0, locals := 58 } : Room).slots) := by
  refine MetFree.of_bodySF (plainFor_of_name pn_2) hisR ?_
  intro pr_ en_ st_ me_ args below meth_ co_ s₁ Bd hml0 hP hK
  obtain ⟨rfl, hZ, hh⟩ := hP
  have hx := Bd.exec
  have hby := Bd.bytes
  have hml : co_.maxLocals = 4 := hml0
  have hown : st_.vm.findClass "java/lang/StringUTF16" = some me_.cls := findClass_of_methodNamed Bd.named
  have hnm := (name_of_methodNamed Bd.named Bd.method).1
  have X0 : Stand pr_ l en_ ({ frames := 4, cells := 0, slots := 0, locals := 58 } : Room) st_ me_ #[(.ref b), (.int (42 : Int32)), (.int (0 : Int32)), (.int (1 : Int32))] below meth_ co_ s₁ [] 0 0 := Stand.of_body Bd
  have e0 : s₁.heap = h0 := by rw [← hh, Bd.state]; rfl
  have N0 := Fr.nil n0
  have K0 := Keep.refl h0 []
  obtain ⟨G, gv, gf, gb⟩ := own_G pr_.tables en_ below st_ (Q_uio42 Z b k x0 x1 w fmt h0 n0) ({ frames := 4, cells := 0, slots := 0, locals := 58 } : Room).cells ({ frames := 4, cells := 0, slots := 0, locals := 58 } : Room).slots
  show own_Fin pr_.tables en_ below st_ (Q_uio42 Z b k x0 x1 w fmt h0 n0) ({ frames := 4, cells := 0, slots := 0, locals := 58 } : Room).cells ({ frames := 4, cells := 0, slots := 0, locals := 58 } : Room).slots (s₁.setTop (entryFrame me_ #[(.ref b), (.int (42 : Int32)), (.int (0 : Int32)), (.int (1 : Int32))] 4))
  refine gb _ (gv (fun tQ kQ => castTop (ef_11 me_ b (42 : Int32) (0 : Int32) (1 : Int32)) kQ) ?_)
  show G (s₁.setTop (mkF me_ 0 #[.val (.ref b), .val (.int (42 : Int32)), .val (.int (0 : Int32)), .val (.int (1 : Int32))] []))
  refine gv (fun tQ kQ => XS.iloadN X0.here hx rfl (hb hby d21_0) rfl kQ) ?_
  show G (s₁.setTop (mkF me_ 1 #[.val (.ref b), .val (.int (42 : Int32)), .val (.int (0 : Int32)), .val (.int (1 : Int32))] [(.int (0 : Int32))]))
  refine gv (fun tQ kQ => XS.iconst X0.here hx rfl (hb hby d21_1) kQ) ?_
  show G (s₁.setTop (mkF me_ 2 #[.val (.ref b), .val (.int (42 : Int32)), .val (.int (0 : Int32)), .val (.int (1 : Int32))] [(.int (0 : Int32)), (.int (0 : Int32))]))
  obtain ⟨_, _, ⟨T215, L215, k215, n215⟩, -, X215, ⟨Lc215, hQ215, l215, y215, z215⟩, st215⟩ := Jvm.LawKit.callS X0 hx (y := (⟨"java/lang/Math", "max", "(II)I"⟩ : MethodName)) hown (mvT hZ (hw _ (List.mem_of_getElem? (i := 92) rfl))) (mvT hZ (hw _ (List.mem_of_getElem? (i := 70) rfl))) (mvT hZ (hw _ (List.mem_of_getElem? (i := 71) rfl))) (mvT hZ (hw _ (List.mem_of_getElem? (i := 72) rfl))) (by decide) (backOf (W := 0) (rm_max_0_0 l Z a0 hw []  h0 n0 O0 ) hZ (hw _ (List.mem_of_getElem? (i := 72) rfl)) (hw _ (List.mem_of_getElem? (i := 71) rfl)) (by decide) (by decide)) (g := (mkF me_ 2 #[.val (.ref b), .val (.int (42 : Int32)), .val (.int (0 : Int32)), .val (.int (1 : Int32))] [(.int (0 : Int32)), (.int (0 : Int32))])) rfl (by rw [hml]; rfl) (argsL := [(.int (0 : Int32)), (.int (0 : Int32))]) (rest := []) (lenOf pd_9 rfl) rfl (by show 2 * 0 + _ ≤ _; exact Nat.le_of_eq rfl) (hb hby d21_2) (fun _ _ => ⟨rfl, e0, (by decide : 0 + 0 ≤ _), (by decide : 0 + 0 ≤ _)⟩)
  dsimp only [Pt.U, Pt.locs, Pt.cells, Pt.slots] at X215 l215 y215 z215 st215 hQ215
  subst l215 y215 z215
  obtain ⟨rfl, Nq215, eq215⟩ := hQ215
  have N216 := Fr.app N0 Nq215
  refine gv st215 ?_
  show G (T215.setTop (mkF me_ 5 #[.val (.ref b), .val (.int (42 : Int32)), .val (.int (0 : Int32)), .val (.int (1 : Int32))] [(.int (0 : Int32))]))
  refine gv (fun tQ kQ => XS.istoreN X215.here hx rfl (hb hby d21_5) rfl (l' := #[.val (.ref b), .val (.int (42 : Int32)), .val (.int (0 : Int32)), .val (.int (1 : Int32))]) rfl kQ) ?_
  show G (T215.setTop (mkF me_ 6 #[.val (.ref b), .val (.int (42 : Int32)), .val (.int (0 : Int32)), .val (.int (1 : Int32))] []))
  refine gv (fun tQ kQ => XS.iloadN X215.here hx rfl (hb hby d21_6) rfl kQ) ?_
  show G (T215.setTop (mkF me_ 7 #[.val (.ref b), .val (.int (42 : Int32)), .val (.int (0 : Int32)), .val (.int (1 : Int32))] [(.int (1 : Int32))]))
  refine gv (fun tQ kQ => XS.aloadN X215.here hx rfl (hb hby d21_7) rfl rfl kQ) ?_
  show G (T215.setTop (mkF me_ 8 #[.val (.ref b), .val (.int (42 : Int32)), .val (.int (0 : Int32)), .val (.int (1 : Int32))] [(.ref b), (.int (1 : Int32))]))
  obtain ⟨cl217, Ar217, -, S217, n217, -, -⟩ := (id u6)
  refine gv (X215.arraylength hx (by rw [eq215]; exact Ar217.1) (State.isArrayOf_alike hZ.alike Ar217.2.1) (g := (mkF me_ 8 #[.val (.ref b), .val (.int (42 : Int32)), .val (.int (0 : Int32)), .val (.int (1 : Int32))] [(.ref b), (.int (1 : Int32))])) rfl rfl (hb hby d21_8)) ?_
  rw [len_of S217 n217]
  show G (T215.setTop (mkF me_ 9 #[.val (.ref b), .val (.int (42 : Int32)), .val (.int (0 : Int32)), .val (.int (1 : Int32))] [(.int (2 : Int32)), (.int (1 : Int32))]))
  refine gv (fun tQ kQ => XS.iconst X215.here hx rfl (hb hby d21_9) kQ) ?_
  show G (T215.setTop (mkF me_ 10 #[.val (.ref b), .val (.int (42 : Int32)), .val (.int (0 : Int32)), .val (.int (1 : Int32))] [(.int (1 : Int32)), (.int (2 : Int32)), (.int (1 : Int32))]))
  refine gv (fun tQ kQ => XS.ishr X215.here hx rfl (hb hby d21_10) rfl kQ) ?_
  show G (T215.setTop (mkF me_ 11 #[.val (.ref b), .val (.int (42 : Int32)), .val (.int (0 : Int32)), .val (.int (1 : Int32))] [(.int ((2 : Int32) >>> ((1 : Int32) &&& 31))), (.int (1 : Int32))]))
  rw [(by decide : ((2 : Int32) >>> ((1 : Int32) &&& 31)) = (1 : Int32))]
  show G (T215.setTop (mkF me_ 11 #[.val (.ref b), .val (.int (42 : Int32)), .val (.int (0 : Int32)), .val (.int (1 : Int32))] [(.int (1 : Int32)), (.int (1 : Int32))]))
  obtain ⟨_, _, ⟨T218, L218, k218, n218⟩, -, X218, ⟨Lc218, hQ218, l218, y218, z218⟩, st218⟩ := Jvm.LawKit.callS X215 hx (y := (⟨"java/lang/Math", "min", "(II)I"⟩ : MethodName)) hown (mvT hZ (hw _ (List.mem_of_getElem? (i := 93) rfl))) (mvT hZ (hw _ (List.mem_of_getElem? (i := 74) rfl))) (mvT hZ (hw _ (List.mem_of_getElem? (i := 71) rfl))) (mvT hZ (hw _ (List.mem_of_getElem? (i := 75) rfl))) (by decide) (backOf (W := 0) (rm_min_1_1 l Z a0 hw []  h0 n0 O0 ) hZ (hw _ (List.mem_of_getElem? (i := 75) rfl)) (hw _ (List.mem_of_getElem? (i := 71) rfl)) (by decide) (by decide)) (g := (mkF me_ 11 #[.val (.ref b), .val (.int (42 : Int32)), .val (.int (0 : Int32)), .val (.int (1 : Int32))] [(.int (1 : Int32)), (.int (1 : Int32))])) rfl (by rw [hml]; rfl) (argsL := [(.int (1 : Int32)), (.int (1 : Int32))]) (rest := []) (lenOf pd_9 rfl) rfl (by show 2 * 0 + _ ≤ _; exact Nat.le_of_eq rfl) (hb hby d21_11) (fun _ _ => ⟨rfl, eq215, (by decide : 0 + 0 ≤ _), (by decide : 0 + 0 ≤ _)⟩)
  dsimp only [Pt.U, Pt.locs, Pt.cells, Pt.slots] at X218 l218 y218 z218 st218 hQ218
  subst l218 y218 z218
  obtain ⟨rfl, Nq218, eq218⟩ := hQ218
  have N219 := Fr.app N216 Nq218
  refine gv st218 ?_
  show G (T218.setTop (mkF me_ 14 #[.val (.ref b), .val (.int (42 : Int32)), .val (.int (0 : Int32)), .val (.int (1 : Int32))] [(.int (1 : Int32))]))
  refine gv (fun tQ kQ => XS.istoreN X218.here hx rfl (hb hby d21_14) rfl (l' := #[.val (.ref b), .val (.int (42 : Int32)), .val (.int (0 : Int32)), .val (.int (1 : Int32))]) rfl kQ) ?_
  show G (T218.setTop (mkF me_ 15 #[.val (.ref b), .val (.int (42 : Int32)), .val (.int (0 : Int32)), .val (.int (1 : Int32))] []))
  refine gv (fun tQ kQ => XS.iloadN X218.here hx rfl (hb hby d21_15) rfl kQ) ?_
  show G (T218.setTop (mkF me_ 16 #[.val (.ref b), .val (.int (42 : Int32)), .val (.int (0 : Int32)), .val (.int (1 : Int32))] [(.int (0 : Int32))]))
  refine gv (fun tQ kQ => XS.iloadN X218.here hx rfl (hb hby d21_16) rfl kQ) ?_
  show G (T218.setTop (mkF me_ 17 #[.val (.ref b), .val (.int (42 : Int32)), .val (.int (0 : Int32)), .val (.int (1 : Int32))] [(.int (1 : Int32)), (.int (0 : Int32))]))
  refine gv (fun tQ kQ => XS.icmpYes X218.here hx rfl (pc0 := 17) (pc' := 22) rfl (hb hby d21_17) rfl (tlt (by decide : (0 : Int32) < (1 : Int32))).1 (by decide) (by decide) kQ) ?_
  show G (T218.setTop (mkF me_ 22 #[.val (.ref b), .val (.int (42 : Int32)), .val (.int (0 : Int32)), .val (.int (1 : Int32))] []))
  refine gv (fun tQ kQ => XS.iloadN X218.here hx rfl (hb hby d21_22) rfl kQ) ?_
  show G (T218.setTop (mkF me_ 23 #[.val (.ref b), .val (.int (42 : Int32)), .val (.int (0 : Int32)), .val (.int (1 : Int32))] [(.int (42 : Int32))]))
  refine gv (X218.ldcInt hx hown (mvT hZ (hw _ (List.mem_of_getElem? (i := 94) rfl))) (g := (mkF me_ 23 #[.val (.ref b), .val (.int (42 : Int32)), .val (.int (0 : Int32)), .val (.int (1 : Int32))] [(.int (42 : Int32))])) rfl (hb hby d21_23)) ?_
  show G (T218.setTop (mkF me_ 25 #[.val (.ref b), .val (.int (42 : Int32)), .val (.int (0 : Int32)), .val (.int (1 : Int32))] [(.int (65536 : Int32)), (.int (42 : Int32))]))
  refine gv (fun tQ kQ => XS.icmpNo X218.here hx rfl (hb hby d21_25) rfl (tlt (by decide : (42 : Int32) < (65536 : Int32))).2.1 kQ) ?_
  show G (T218.setTop (mkF me_ 28 #[.val (.ref b), .val (.int (42 : Int32)), .val (.int (0 : Int32)), .val (.int (1 : Int32))] []))
  refine gv (fun tQ kQ => XS.aloadN X218.here hx rfl (hb hby d21_28) rfl rfl kQ) ?_
  show G (T218.setTop (mkF me_ 29 #[.val (.ref b), .val (.int (42 : Int32)), .val (.int (0 : Int32)), .val (.int (1 : Int32))] [(.ref b)]))
  refine gv (fun tQ kQ => XS.iloadN X218.here hx rfl (hb hby d21_29) rfl kQ) ?_
  show G (T218.setTop (mkF me_ 30 #[.val (.ref b), .val (.int (42 : Int32)), .val (.int (0 : Int32)), .val (.int (1 : Int32))] [(.int (42 : Int32)), (.ref b)]))
  refine gv (fun tQ kQ => XS.iloadN X218.here hx rfl (hb hby d21_30) rfl kQ) ?_
  show G (T218.setTop (mkF me_ 31 #[.val (.ref b), .val (.int (42 : Int32)), .val (.int (0 : Int32)), .val (.int (1 : Int32))] [(.int (0 : Int32)), (.int (42 : Int32)), (.ref b)]))
  refine gv (fun tQ kQ => XS.iloadN X218.here hx rfl (hb hby d21_31) rfl kQ) ?_
  show G (T218.setTop (mkF me_ 32 #[.val (.ref b), .val (.int (42 : Int32)), .val (.int (0 : Int32)), .val (.int (1 : Int32))] [(.int (1 : Int32)), (.int (0 : Int32)), (.int (42 : Int32)), (.ref b)]))
  obtain ⟨_, _, ⟨T220, L220, k220, n220⟩, -, X220, ⟨Lc220, hQ220, l220, y220, z220⟩, st220⟩ := Jvm.LawKit.callS X218 hx (y := (⟨"java/lang/StringUTF16", "indexOfChar", "([BIII)I"⟩ : MethodName)) hown (mvT hZ (hw _ (List.mem_of_getElem? (i := 95) rfl))) (mvT hZ (hw _ (List.mem_of_getElem? (i := 96) rfl))) (mvT hZ (hw _ (List.mem_of_getElem? (i := 81) rfl))) (mvT hZ (hw _ (List.mem_of_getElem? (i := 97) rfl))) (by decide) (backOf (W := 0) (rm_uioc42 l Z a0 hw [] b k x0 x1 w fmt h0 n0 O0 u0 u1 u2 u3 u4 u5 u6) hZ (hw _ (List.mem_of_getElem? (i := 97) rfl)) (hw _ (List.mem_of_getElem? (i := 81) rfl)) (by decide) (by decide)) (g := (mkF me_ 32 #[.val (.ref b), .val (.int (42 : Int32)), .val (.int (0 : Int32)), .val (.int (1 : Int32))] [(.int (1 : Int32)), (.int (0 : Int32)), (.int (42 : Int32)), (.ref b)])) rfl (by rw [hml]; rfl) (argsL := [(.ref b), (.int (42 : Int32)), (.int (0 : Int32)), (.int (1 : Int32))]) (rest := []) (lenOf pd_10 rfl) rfl (by show 2 * 0 + _ ≤ _; exact Nat.le_of_eq rfl) (hb hby d21_32) (fun _ _ => ⟨rfl, eq218, (by decide : 0 + 0 ≤ _), (by decide : 0 + 0 ≤ _)⟩)
  dsimp only [Pt.U, Pt.locs, Pt.cells, Pt.slots] at X220 l220 y220 z220 st220 hQ220
  subst l220 y220 z220
  obtain ⟨rfl, Nq220, eq220⟩ := hQ220
  have N221 := Fr.app N219 Nq220
  by_cases hb222 : w = (42 : Int32)
  · rw [if_pos hb222] at st220
    refine gv st220 ?_
    show G (T220.setTop (mkF me_ 35 #[.val (.ref b), .val (.int (42 : Int32)), .val (.int (0 : Int32)), .val (.int (1 : Int32))] [(.int (0 : Int32))]))
    refine gf _ (own_ret X220 Bd.notSynchronized (v := some (.int (0 : Int32))) (fun h => by rw [Bd.returns] at h; cases h) ?_ (by decide) (by decide) (fun fs hr => retOut X220 hx (t := .int) Bd.returns rfl (Or.inl ⟨rfl, Or.inl rfl, _, rfl⟩) (hb hby d21_35) hr))
    show Q_uio42 Z b k x0 x1 w fmt h0 n0 _ T220.heap _
    rw [eq220]
    exact ⟨(by rw [if_pos hb222]), N221, rfl⟩
  · skip
    rw [if_neg hb222] at st220
    refine gv st220 ?_
    show G (T220.setTop (mkF me_ 35 #[.val (.ref b), .val (.int (42 : Int32)), .val (.int (0 : Int32)), .val (.int (1 : Int32))] [(.int (-1 : Int32))]))
    refine gf _ (own_ret X220 Bd.notSynchronized (v := some (.int (-1 : Int32))) (fun h => by rw [Bd.returns] at h; cases h) ?_ (by decide) (by decide) (fun fs hr => retOut X220 hx (t := .int) Bd.returns rfl (Or.inl ⟨rfl, Or.inl rfl, _, rfl⟩) (hb hby d21_35) hr))
    show Q_uio42 Z b k x0 x1 w fmt h0 n0 _ T220.heap _
    rw [eq220]
    exact ⟨(by rw [if_neg hb222]), N221, rfl⟩
def Q_io2L42 (Z : State) (a : Addr) (b : Addr) (k : ClassId) (cs : Int32) (x : Int32) (h0 : Heap) (n0 : Nat) (v : Option Value) (h : Heap) (L : List Loc) : Prop := v = some (.int (if x = (42 : Int32) then (0 : Int32) else (-1 : Int32))) ∧ Fr n0 L ∧ h = h0
set_option maxRecDepth 65536 in
set_option maxHeartbeats 40000000 in
theorem rm_io2L42 (l : Launch) (Z : State) (a0 : Array Value) (hw : ∀ d ∈ tables_1, d.before a0 Z = true) (ws : List Jvm.Cond) (a : Addr) (b : Addr) (k : ClassId) (cs : Int32) (x : Int32) (h0 : Heap) (n0 : Nat) (O0 : Old Z n0 h0) (u0 : Sta Z Z.heap "java/lang/String" "COMPACT_STRINGS" "Z" (.int cs)) (u1 : ¬ (cs = (0 : Int32))) (u2 : Exa Z h0 a "java/lang/String") (u3 : Fld Z h0 a "java/lang/String" "coder" "B" (.int (0 : Int32))) (u4 : Fld Z h0 a "java/lang/String" "value" "[B" (.ref b)) (u5 : Arv Z h0 b k .byte (1 : Int32) [(.int x)] (.int (0 : Int32))) :
    MetFree l (⟨"java/lang/String", "indexOf", "(II)I"⟩ : MethodName) (head1 (Jvm.Cond.code (⟨"java/lang/String", "indexOf", "(II)I"⟩ : MethodName) jdk_42_method_80_code 3 (some .int) :: ws) ({ frames := 2, cells := 0, slots := 0, locals := 32 } : Room)) (fun aV U => aV = #[(.ref a), (.int (42 : Int32)), (.int (0 : Int32))] ∧ Z.Warmed39 U.vm ∧ U.heap = h0) (fun _ _ _ _ _ => True) (fun _ U o U' => ∃ v L, o = .returned v ∧ Q_io2L42 Z a b k cs x h0 n0 v U'.heap L ∧ FrameEnd U o U' L ({ frames := 2, cells := 0, slots := 0, locals := 32 } : Room).cells ({ frames := 2, cells := 0, slots := 0, locals := 32 } : Room).slots) := by
  refine MetFree.of_bodySF (plainFor_of_name pn_1) hisR ?_
  intro pr_ en_ st_ me_ args below meth_ co_ s₁ Bd hml0 hP hK
  obtain ⟨rfl, hZ, hh⟩ := hP
  have hx := Bd.exec
  have hby := Bd.bytes
  have hml : co_.maxLocals = 3 := hml0
  have hown : st_.vm.findClass "java/lang/String" = some me_.cls := findClass_of_methodNamed Bd.named
  have hnm := (name_of_methodNamed Bd.named Bd.method).1
  have X0 : Stand pr_ l en_ ({ frames := 2, cells := 0, slots := 0, locals := 32 } : Room) st_ me_ #[(.ref a), (.int (42 : Int32)), (.int (0 : Int32))] below meth_ co_ s₁ [] 0 0 := Stand.of_body Bd
  have e0 : s₁.heap = h0 := by rw [← hh, Bd.state]; rfl
  have N0 := Fr.nil n0
  have K0 := Keep.refl h0 []
  obtain ⟨G, gv, gf, gb⟩ := own_G pr_.tables en_ below st_ (Q_io2L42 Z a b k cs x h0 n0) ({ frames := 2, cells := 0, slots := 0, locals := 32 } : Room).cells ({ frames := 2, cells := 0, slots := 0, locals := 32 } : Room).slots
  show own_Fin pr_.tables en_ below st_ (Q_io2L42 Z a b k cs x h0 n0) ({ frames := 2, cells := 0, slots := 0, locals := 32 } : Room).cells ({ frames := 2, cells := 0, slots := 0, locals := 32 } : Room).slots (s₁.setTop (entryFrame me_ #[(.ref a), (.int (42 : Int32)), (.int (0 : Int32))] 3))
  refine gb _ (gv (fun tQ kQ => castTop (ef_2 me_ a (42 : Int32) (0 : Int32)) kQ) ?_)
  show G (s₁.setTop (mkF me_ 0 #[.val (.ref a), .val (.int (42 : Int32)), .val (.int (0 : Int32))] []))
  refine gv (fun tQ kQ => XS.aloadN X0.here hx rfl (hb hby d10_0) rfl rfl kQ) ?_
  show G (s₁.setTop (mkF me_ 1 #[.val (.ref a), .val (.int (42 : Int32)), .val (.int (0 : Int32))] [(.ref a)]))
  obtain ⟨cq223, kq223, q223a, q223b, q223c⟩ := isOf hZ e0 u2
  obtain ⟨_, _, ⟨T223, L223, k223, n223⟩, -, X223, ⟨Lc223, hQ223, l223, y223, z223⟩, st223⟩ := X0.virtualBack hx (y := (⟨"java/lang/String", "isLatin1", "()Z"⟩ : MethodName)) (z := (⟨"java/lang/String", "isLatin1", "()Z"⟩ : MethodName)) hown (mvT hZ (hw _ (List.mem_of_getElem? (i := 48) rfl))) (mvT hZ (hw _ (List.mem_of_getElem? (i := 49) rfl))) (notFace_of_selects (args := #[]) (mvT hZ (hw _ (List.mem_of_getElem? (i := 51) rfl)))) (mvT hZ (hw _ (List.mem_of_getElem? (i := 51) rfl))) (mvT hZ (hw _ (List.mem_of_getElem? (i := 50) rfl))) (by decide) (backOf (W := 0) (rm_isL0 l Z a0 hw [] a cs h0 n0 O0 u0 u1 u3) hZ (hw _ (List.mem_of_getElem? (i := 52) rfl)) (hw _ (List.mem_of_getElem? (i := 11) rfl)) (by decide) (by decide)) q223a q223c (g := (mkF me_ 1 #[.val (.ref a), .val (.int (42 : Int32)), .val (.int (0 : Int32))] [(.ref a)])) rfl (by rw [hml]; rfl) (Steps.refl _) (argsL := []) (rest := []) (lenOf pd_13 rfl) rfl (by show 2 * 0 + _ ≤ _; exact Nat.le_of_eq rfl) (hb hby d10_1) (fun _ _ => ⟨rfl, e0, (by decide : 0 + 0 ≤ _), (by decide : 0 + 0 ≤ _)⟩)
  dsimp only [Pt.U, Pt.locs, Pt.cells, Pt.slots] at X223 l223 y223 z223 st223 hQ223
  subst l223 y223 z223
  obtain ⟨rfl, Nq223, eq223⟩ := hQ223
  have N224 := Fr.app N0 Nq223
  refine gv (fun tQ kQ => st223.trans kQ) ?_
  show G (T223.setTop (mkF me_ 4 #[.val (.ref a), .val (.int (42 : Int32)), .val (.int (0 : Int32))] [(.int (1 : Int32))]))
  refine gv (fun tQ kQ => XS.ifNo X223.here hx rfl (hb hby d10_4) rfl ((if0 _ _).trans (feq (by decide : ¬ ((1 : Int32) = (0 : Int32)))).1) kQ) ?_
  show G (T223.setTop (mkF me_ 7 #[.val (.ref a), .val (.int (42 : Int32)), .val (.int (0 : Int32))] []))
  refine gv (fun tQ kQ => XS.aloadN X223.here hx rfl (hb hby d10_7) rfl rfl kQ) ?_
  show G (T223.setTop (mkF me_ 8 #[.val (.ref a), .val (.int (42 : Int32)), .val (.int (0 : Int32))] [(.ref a)]))
  obtain ⟨T225, X225, e225, st225⟩ := getF X223 hx hZ hown (host := "") (Or.inl (hw _ (List.mem_of_getElem? (i := 31) rfl))) Via.refl eq223 u4 (g := (mkF me_ 8 #[.val (.ref a), .val (.int (42 : Int32)), .val (.int (0 : Int32))] [(.ref a)])) rfl rfl (hb hby d10_8)
  refine gv st225 ?_
  show G (T225.setTop (mkF me_ 11 #[.val (.ref a), .val (.int (42 : Int32)), .val (.int (0 : Int32))] [(.ref b)]))
  refine gv (fun tQ kQ => XS.iloadN X225.here hx rfl (hb hby d10_11) rfl kQ) ?_
  show G (T225.setTop (mkF me_ 12 #[.val (.ref a), .val (.int (42 : Int32)), .val (.int (0 : Int32))] [(.int (42 : Int32)), (.ref b)]))
  refine gv (fun tQ kQ => XS.iloadN X225.here hx rfl (hb hby d10_12) rfl kQ) ?_
  show G (T225.setTop (mkF me_ 13 #[.val (.ref a), .val (.int (42 : Int32)), .val (.int (0 : Int32))] [(.int (0 : Int32)), (.int (42 : Int32)), (.ref b)]))
  refine gv (fun tQ kQ => XS.aloadN X225.here hx rfl (hb hby d10_13) rfl rfl kQ) ?_
  show G (T225.setTop (mkF me_ 14 #[.val (.ref a), .val (.int (42 : Int32)), .val (.int (0 : Int32))] [(.ref a), (.int (0 : Int32)), (.int (42 : Int32)), (.ref b)]))
  obtain ⟨cq226, kq226, q226a, q226b, q226c⟩ := isOf hZ e225 u2
  obtain ⟨_, _, ⟨T226, L226, k226, n226⟩, -, X226, ⟨Lc226, hQ226, l226, y226, z226⟩, st226⟩ := X225.virtualBack hx (y := (⟨"java/lang/String", "length", "()I"⟩ : MethodName)) (z := (⟨"java/lang/String", "length", "()I"⟩ : MethodName)) hown (mvT hZ (hw _ (List.mem_of_getElem? (i := 53) rfl))) (mvT hZ (hw _ (List.mem_of_getElem? (i := 54) rfl))) (notFace_of_selects (args := #[]) (mvT hZ (hw _ (List.mem_of_getElem? (i := 56) rfl)))) (mvT hZ (hw _ (List.mem_of_getElem? (i := 56) rfl))) (mvT hZ (hw _ (List.mem_of_getElem? (i := 55) rfl))) (by decide) (backOf (W := 3) (rm_len0_1 l Z a0 hw [] a b k cs x h0 n0 O0 u0 u1 u2 u3 u4 u5) hZ (hw _ (List.mem_of_getElem? (i := 57) rfl)) (hw _ (List.mem_of_getElem? (i := 11) rfl)) (by decide) (by decide)) q226a q226c (g := (mkF me_ 14 #[.val (.ref a), .val (.int (42 : Int32)), .val (.int (0 : Int32))] [(.ref a), (.int (0 : Int32)), (.int (42 : Int32)), (.ref b)])) rfl (by rw [hml]; rfl) (Steps.refl _) (argsL := []) (rest := [(.int (0 : Int32)), (.int (42 : Int32)), (.ref b)]) (lenOf pd_14 rfl) rfl (by show 2 * 0 + _ ≤ _; exact Nat.le_of_eq rfl) (hb hby d10_14) (fun _ _ => ⟨rfl, e225, (by decide : 0 + 0 ≤ _), (by decide : 0 + 0 ≤ _)⟩)
  dsimp only [Pt.U, Pt.locs, Pt.cells, Pt.slots] at X226 l226 y226 z226 st226 hQ226
  subst l226 y226 z226
  obtain ⟨rfl, Nq226, eq226⟩ := hQ226
  have N227 := Fr.app N224 Nq226
  refine gv (fun tQ kQ => st226.trans kQ) ?_
  show G (T226.setTop (mkF me_ 17 #[.val (.ref a), .val (.int (42 : Int32)), .val (.int (0 : Int32))] [(.int (1 : Int32)), (.int (0 : Int32)), (.int (42 : Int32)), (.ref b)]))
  obtain ⟨_, _, ⟨T228, L228, k228, n228⟩, -, X228, ⟨Lc228, hQ228, l228, y228, z228⟩, st228⟩ := Jvm.LawKit.callS X226 hx (y := (⟨"java/lang/StringLatin1", "indexOf", "([BIII)I"⟩ : MethodName)) hown (mvT hZ (hw _ (List.mem_of_getElem? (i := 63) rfl))) (mvT hZ (hw _ (List.mem_of_getElem? (i := 64) rfl))) (mvT hZ (hw _ (List.mem_of_getElem? (i := 16) rfl))) (mvT hZ (hw _ (List.mem_of_getElem? (i := 65) rfl))) (by decide) (backOf (W := 0) (rm_l1io42 l Z a0 hw [] b k x h0 n0 O0 u5) hZ (hw _ (List.mem_of_getElem? (i := 65) rfl)) (hw _ (List.mem_of_getElem? (i := 16) rfl)) (by decide) (by decide)) (g := (mkF me_ 17 #[.val (.ref a), .val (.int (42 : Int32)), .val (.int (0 : Int32))] [(.int (1 : Int32)), (.int (0 : Int32)), (.int (42 : Int32)), (.ref b)])) rfl (by rw [hml]; rfl) (argsL := [(.ref b), (.int (42 : Int32)), (.int (0 : Int32)), (.int (1 : Int32))]) (rest := []) (lenOf pd_10 rfl) rfl (by show 2 * 0 + _ ≤ _; exact Nat.le_of_eq rfl) (hb hby d10_17) (fun _ _ => ⟨rfl, eq226, (by decide : 0 + 0 ≤ _), (by decide : 0 + 0 ≤ _)⟩)
  dsimp only [Pt.U, Pt.locs, Pt.cells, Pt.slots] at X228 l228 y228 z228 st228 hQ228
  subst l228 y228 z228
  obtain ⟨rfl, Nq228, eq228⟩ := hQ228
  have N229 := Fr.app N227 Nq228
  by_cases hb230 : x = (42 : Int32)
  · rw [if_pos hb230] at st228
    refine gv st228 ?_
    show G (T228.setTop (mkF me_ 20 #[.val (.ref a), .val (.int (42 : Int32)), .val (.int (0 : Int32))] [(.int (0 : Int32))]))
    refine gv (fun tQ kQ => XS.goto X228.here hx rfl (pc0 := 20) (pc' := 36) rfl (hb hby d10_20) (by decide) (by decide) kQ) ?_
    show G (T228.setTop (mkF me_ 36 #[.val (.ref a), .val (.int (42 : Int32)), .val (.int (0 : Int32))] [(.int (0 : Int32))]))
    refine gf _ (own_ret X228 Bd.notSynchronized (v := some (.int (0 : Int32))) (fun h => by rw [Bd.returns] at h; cases h) ?_ (by decide) (by decide) (fun fs hr => retOut X228 hx (t := .int) Bd.returns rfl (Or.inl ⟨rfl, Or.inl rfl, _, rfl⟩) (hb hby d10_36) hr))
    show Q_io2L42 Z a b k cs x h0 n0 _ T228.heap _
    rw [eq228]
    exact ⟨(by rw [if_pos hb230]), N229, rfl⟩
  · skip
    rw [if_neg hb230] at st228
    refine gv st228 ?_
    show G (T228.setTop (mkF me_ 20 #[.val (.ref a), .val (.int (42 : Int32)), .val (.int (0 : Int32))] [(.int (-1 : Int32))]))
    refine gv (fun tQ kQ => XS.goto X228.here hx rfl (pc0 := 20) (pc' := 36) rfl (hb hby d10_20) (by decide) (by decide) kQ) ?_
    show G (T228.setTop (mkF me_ 36 #[.val (.ref a), .val (.int (42 : Int32)), .val (.int (0 : Int32))] [(.int (-1 : Int32))]))
    refine gf _ (own_ret X228 Bd.notSynchronized (v := some (.int (-1 : Int32))) (fun h => by rw [Bd.returns] at h; cases h) ?_ (by decide) (by decide) (fun fs hr => retOut X228 hx (t := .int) Bd.returns rfl (Or.inl ⟨rfl, Or.inl rfl, _, rfl⟩) (hb hby d10_36) hr))
    show Q_io2L42 Z a b k cs x h0 n0 _ T228.heap _
    rw [eq228]
    exact ⟨(by rw [if_neg hb230]), N229, rfl⟩
def Q_io2U42 (Z : State) (a : Addr) (b : Addr) (k : ClassId) (cs : Int32) (x0 : Int32) (x1 : Int32) (w : Int32) (fmt : Value) (h0 : Heap) (n0 : Nat) (v : Option Value) (h : Heap) (L : List Loc) : Prop := v = some (.int (if w = (42 : Int32) then (0 : Int32) else (-1 : Int32))) ∧ Fr n0 L ∧ h = h0
set_option maxRecDepth 65536 in
set_option maxHeartbeats 40000000 in
theorem rm_io2U42 (l : Launch) (Z : State) (a0 : Array Value) (hw : ∀ d ∈ tables_1, d.before a0 Z = true) (ws : List Jvm.Cond) (a : Addr) (b : Addr) (k : ClassId) (cs : Int32) (x0 : Int32) (x1 : Int32) (w : Int32) (fmt : Value) (h0 : Heap) (n0 : Nat) (O0 : Old Z n0 h0) (u0 : own_gc x0 x1 = w) (u1 : Sta Z Z.heap "java/lang/String" "COMPACT_STRINGS" "Z" (.int cs)) (u2 : ¬ (cs = (0 : Int32))) (u3 : Sta Z Z.heap "java/lang/StringUTF16" "$assertionsDisabled" "Z" (.int (1 : Int32))) (u4 : Sta Z Z.heap "java/lang/StringUTF16" "HI_BYTE_SHIFT" "I" (.int (0 : Int32))) (u5 : Sta Z Z.heap "java/lang/StringUTF16" "LO_BYTE_SHIFT" "I" (.int (8 : Int32))) (u6 : fmt.isRef = true) (u7 : Sta Z Z.heap "jdk/internal/util/Preconditions" "SIOOBE_FORMATTER" "Ljava/util/function/BiFunction;" fmt) (u8 : Exa Z h0 a "java/lang/String") (u9 : Fld Z h0 a "java/lang/String" "coder" "B" (.int (1 : Int32))) (u10 : Fld Z h0 a "java/lang/String" "value" "[B" (.ref b)) (u11 : Arv Z h0 b k .byte (2 : Int32) [(.int x0), (.int x1)] (.int (0 : Int32))) :
    MetFree l (⟨"java/lang/String", "indexOf", "(II)I"⟩ : MethodName) (head1 (Jvm.Cond.code (⟨"java/lang/String", "indexOf", "(II)I"⟩ : MethodName) jdk_42_method_80_code 3 (some .int) :: ws) ({ frames := 5, cells := 0, slots := 0, locals := 73 } : Room)) (fun aV U => aV = #[(.ref a), (.int (42 : Int32)), (.int (0 : Int32))] ∧ Z.Warmed39 U.vm ∧ U.heap = h0) (fun _ _ _ _ _ => True) (fun _ U o U' => ∃ v L, o = .returned v ∧ Q_io2U42 Z a b k cs x0 x1 w fmt h0 n0 v U'.heap L ∧ FrameEnd U o U' L ({ frames := 5, cells := 0, slots := 0, locals := 73 } : Room).cells ({ frames := 5, cells := 0, slots := 0, locals := 73 } : Room).slots) := by
  refine MetFree.of_bodySF (plainFor_of_name pn_1) hisR ?_
  intro pr_ en_ st_ me_ args below meth_ co_ s₁ Bd hml0 hP hK
  obtain ⟨rfl, hZ, hh⟩ := hP
  have hx := Bd.exec
  have hby := Bd.bytes
  have hml : co_.maxLocals = 3 := hml0
  have hown : st_.vm.findClass "java/lang/String" = some me_.cls := findClass_of_methodNamed Bd.named
  have hnm := (name_of_methodNamed Bd.named Bd.method).1
  have X0 : Stand pr_ l en_ ({ frames := 5, cells := 0, slots := 0, locals := 73 } : Room) st_ me_ #[(.ref a), (.int (42 : Int32)), (.int (0 : Int32))] below meth_ co_ s₁ [] 0 0 := Stand.of_body Bd
  have e0 : s₁.heap = h0 := by rw [← hh, Bd.state]; rfl
  have N0 := Fr.nil n0
  have K0 := Keep.refl h0 []
  obtain ⟨G, gv, gf, gb⟩ := own_G pr_.tables en_ below st_ (Q_io2U42 Z a b k cs x0 x1 w fmt h0 n0) ({ frames := 5, cells := 0, slots := 0, locals := 73 } : Room).cells ({ frames := 5, cells := 0, slots := 0, locals := 73 } : Room).slots
  show own_Fin pr_.tables en_ below st_ (Q_io2U42 Z a b k cs x0 x1 w fmt h0 n0) ({ frames := 5, cells := 0, slots := 0, locals := 73 } : Room).cells ({ frames := 5, cells := 0, slots := 0, locals := 73 } : Room).slots (s₁.setTop (entryFrame me_ #[(.ref a), (.int (42 : Int32)), (.int (0 : Int32))] 3))
  refine gb _ (gv (fun tQ kQ => castTop (ef_2 me_ a (42 : Int32) (0 : Int32)) kQ) ?_)
  show G (s₁.setTop (mkF me_ 0 #[.val (.ref a), .val (.int (42 : Int32)), .val (.int (0 : Int32))] []))
  refine gv (fun tQ kQ => XS.aloadN X0.here hx rfl (hb hby d10_0) rfl rfl kQ) ?_
  show G (s₁.setTop (mkF me_ 1 #[.val (.ref a), .val (.int (42 : Int32)), .val (.int (0 : Int32))] [(.ref a)]))
  obtain ⟨cq231, kq231, q231a, q231b, q231c⟩ := isOf hZ e0 u8
  obtain ⟨_, _, ⟨T231, L231, k231, n231⟩, -, X231, ⟨Lc231, hQ231, l231, y231, z231⟩, st231⟩ := X0.virtualBack hx (y := (⟨"java/lang/String", "isLatin1", "()Z"⟩ : MethodName)) (z := (⟨"java/lang/String", "isLatin1", "()Z"⟩ : MethodName)) hown (mvT hZ (hw _ (List.mem_of_getElem? (i := 48) rfl))) (mvT hZ (hw _ (List.mem_of_getElem? (i := 49) rfl))) (notFace_of_selects (args := #[]) (mvT hZ (hw _ (List.mem_of_getElem? (i := 51) rfl)))) (mvT hZ (hw _ (List.mem_of_getElem? (i := 51) rfl))) (mvT hZ (hw _ (List.mem_of_getElem? (i := 50) rfl))) (by decide) (backOf (W := 0) (rm_isL1 l Z a0 hw [] a cs h0 n0 O0 u1 u2 u9) hZ (hw _ (List.mem_of_getElem? (i := 52) rfl)) (hw _ (List.mem_of_getElem? (i := 11) rfl)) (by decide) (by decide)) q231a q231c (g := (mkF me_ 1 #[.val (.ref a), .val (.int (42 : Int32)), .val (.int (0 : Int32))] [(.ref a)])) rfl (by rw [hml]; rfl) (Steps.refl _) (argsL := []) (rest := []) (lenOf pd_13 rfl) rfl (by show 2 * 0 + _ ≤ _; exact Nat.le_of_eq rfl) (hb hby d10_1) (fun _ _ => ⟨rfl, e0, (by decide : 0 + 0 ≤ _), (by decide : 0 + 0 ≤ _)⟩)
  dsimp only [Pt.U, Pt.locs, Pt.cells, Pt.slots] at X231 l231 y231 z231 st231 hQ231
  subst l231 y231 z231
  obtain ⟨rfl, Nq231, eq231⟩ := hQ231
  have N232 := Fr.app N0 Nq231
  refine gv (fun tQ kQ => st231.trans kQ) ?_
  show G (T231.setTop (mkF me_ 4 #[.val (.ref a), .val (.int (42 : Int32)), .val (.int (0 : Int32))] [(.int (0 : Int32))]))
  refine gv (fun tQ kQ => XS.ifYes X231.here hx rfl (pc0 := 4) (pc' := 23) rfl (hb hby d10_4) rfl ((if0 _ _).trans (teq (by decide : (0 : Int32) = (0 : Int32))).1) (by decide) (by decide) kQ) ?_
  show G (T231.setTop (mkF me_ 23 #[.val (.ref a), .val (.int (42 : Int32)), .val (.int (0 : Int32))] []))
  refine gv (fun tQ kQ => XS.aloadN X231.here hx rfl (hb hby d10_23) rfl rfl kQ) ?_
  show G (T231.setTop (mkF me_ 24 #[.val (.ref a), .val (.int (42 : Int32)), .val (.int (0 : Int32))] [(.ref a)]))
  obtain ⟨T233, X233, e233, st233⟩ := getF X231 hx hZ hown (host := "") (Or.inl (hw _ (List.mem_of_getElem? (i := 31) rfl))) Via.refl eq231 u10 (g := (mkF me_ 24 #[.val (.ref a), .val (.int (42 : Int32)), .val (.int (0 : Int32))] [(.ref a)])) rfl rfl (hb hby d10_24)
  refine gv st233 ?_
  show G (T233.setTop (mkF me_ 27 #[.val (.ref a), .val (.int (42 : Int32)), .val (.int (0 : Int32))] [(.ref b)]))
  refine gv (fun tQ kQ => XS.iloadN X233.here hx rfl (hb hby d10_27) rfl kQ) ?_
  show G (T233.setTop (mkF me_ 28 #[.val (.ref a), .val (.int (42 : Int32)), .val (.int (0 : Int32))] [(.int (42 : Int32)), (.ref b)]))
  refine gv (fun tQ kQ => XS.iloadN X233.here hx rfl (hb hby d10_28) rfl kQ) ?_
  show G (T233.setTop (mkF me_ 29 #[.val (.ref a), .val (.int (42 : Int32)), .val (.int (0 : Int32))] [(.int (0 : Int32)), (.int (42 : Int32)), (.ref b)]))
  refine gv (fun tQ kQ => XS.aloadN X233.here hx rfl (hb hby d10_29) rfl rfl kQ) ?_
  show G (T233.setTop (mkF me_ 30 #[.val (.ref a), .val (.int (42 : Int32)), .val (.int (0 : Int32))] [(.ref a), (.int (0 : Int32)), (.int (42 : Int32)), (.ref b)]))
  obtain ⟨cq234, kq234, q234a, q234b, q234c⟩ := isOf hZ e233 u8
  obtain ⟨_, _, ⟨T234, L234, k234, n234⟩, -, X234, ⟨Lc234, hQ234, l234, y234, z234⟩, st234⟩ := X233.virtualBack hx (y := (⟨"java/lang/String", "length", "()I"⟩ : MethodName)) (z := (⟨"java/lang/String", "length", "()I"⟩ : MethodName)) hown (mvT hZ (hw _ (List.mem_of_getElem? (i := 53) rfl))) (mvT hZ (hw _ (List.mem_of_getElem? (i := 54) rfl))) (notFace_of_selects (args := #[]) (mvT hZ (hw _ (List.mem_of_getElem? (i := 56) rfl)))) (mvT hZ (hw _ (List.mem_of_getElem? (i := 56) rfl))) (mvT hZ (hw _ (List.mem_of_getElem? (i := 55) rfl))) (by decide) (backOf (W := 3) (rm_len1_1 l Z a0 hw [] a b k cs x0 x1 h0 n0 O0 u1 u2 u8 u9 u10 u11) hZ (hw _ (List.mem_of_getElem? (i := 57) rfl)) (hw _ (List.mem_of_getElem? (i := 11) rfl)) (by decide) (by decide)) q234a q234c (g := (mkF me_ 30 #[.val (.ref a), .val (.int (42 : Int32)), .val (.int (0 : Int32))] [(.ref a), (.int (0 : Int32)), (.int (42 : Int32)), (.ref b)])) rfl (by rw [hml]; rfl) (Steps.refl _) (argsL := []) (rest := [(.int (0 : Int32)), (.int (42 : Int32)), (.ref b)]) (lenOf pd_14 rfl) rfl (by show 2 * 0 + _ ≤ _; exact Nat.le_of_eq rfl) (hb hby d10_30) (fun _ _ => ⟨rfl, e233, (by decide : 0 + 0 ≤ _), (by decide : 0 + 0 ≤ _)⟩)
  dsimp only [Pt.U, Pt.locs, Pt.cells, Pt.slots] at X234 l234 y234 z234 st234 hQ234
  subst l234 y234 z234
  obtain ⟨rfl, Nq234, eq234⟩ := hQ234
  have N235 := Fr.app N232 Nq234
  refine gv (fun tQ kQ => st234.trans kQ) ?_
  show G (T234.setTop (mkF me_ 33 #[.val (.ref a), .val (.int (42 : Int32)), .val (.int (0 : Int32))] [(.int (1 : Int32)), (.int (0 : Int32)), (.int (42 : Int32)), (.ref b)]))
  obtain ⟨_, _, ⟨T236, L236, k236, n236⟩, -, X236, ⟨Lc236, hQ236, l236, y236, z236⟩, st236⟩ := Jvm.LawKit.callS X234 hx (y := (⟨"java/lang/StringUTF16", "indexOf", "([BIII)I"⟩ : MethodName)) hown (mvT hZ (hw _ (List.mem_of_getElem? (i := 89) rfl))) (mvT hZ (hw _ (List.mem_of_getElem? (i := 90) rfl))) (mvT hZ (hw _ (List.mem_of_getElem? (i := 81) rfl))) (mvT hZ (hw _ (List.mem_of_getElem? (i := 91) rfl))) (by decide) (backOf (W := 0) (rm_uio42 l Z a0 hw [] b k x0 x1 w fmt h0 n0 O0 u0 u3 u4 u5 u6 u7 u11) hZ (hw _ (List.mem_of_getElem? (i := 91) rfl)) (hw _ (List.mem_of_getElem? (i := 81) rfl)) (by decide) (by decide)) (g := (mkF me_ 33 #[.val (.ref a), .val (.int (42 : Int32)), .val (.int (0 : Int32))] [(.int (1 : Int32)), (.int (0 : Int32)), (.int (42 : Int32)), (.ref b)])) rfl (by rw [hml]; rfl) (argsL := [(.ref b), (.int (42 : Int32)), (.int (0 : Int32)), (.int (1 : Int32))]) (rest := []) (lenOf pd_10 rfl) rfl (by show 2 * 0 + _ ≤ _; exact Nat.le_of_eq rfl) (hb hby d10_33) (fun _ _ => ⟨rfl, eq234, (by decide : 0 + 0 ≤ _), (by decide : 0 + 0 ≤ _)⟩)
  dsimp only [Pt.U, Pt.locs, Pt.cells, Pt.slots] at X236 l236 y236 z236 st236 hQ236
  subst l236 y236 z236
  obtain ⟨rfl, Nq236, eq236⟩ := hQ236
  have N237 := Fr.app N235 Nq236
  by_cases hb238 : w = (42 : Int32)
  · rw [if_pos hb238] at st236
    refine gv st236 ?_
    show G (T236.setTop (mkF me_ 36 #[.val (.ref a), .val (.int (42 : Int32)), .val (.int (0 : Int32))] [(.int (0 : Int32))]))
    refine gf _ (own_ret X236 Bd.notSynchronized (v := some (.int (0 : Int32))) (fun h => by rw [Bd.returns] at h; cases h) ?_ (by decide) (by decide) (fun fs hr => retOut X236 hx (t := .int) Bd.returns rfl (Or.inl ⟨rfl, Or.inl rfl, _, rfl⟩) (hb hby d10_36) hr))
    show Q_io2U42 Z a b k cs x0 x1 w fmt h0 n0 _ T236.heap _
    rw [eq236]
    exact ⟨(by rw [if_pos hb238]), N237, rfl⟩
  · skip
    rw [if_neg hb238] at st236
    refine gv st236 ?_
    show G (T236.setTop (mkF me_ 36 #[.val (.ref a), .val (.int (42 : Int32)), .val (.int (0 : Int32))] [(.int (-1 : Int32))]))
    refine gf _ (own_ret X236 Bd.notSynchronized (v := some (.int (-1 : Int32))) (fun h => by rw [Bd.returns] at h; cases h) ?_ (by decide) (by decide) (fun fs hr => retOut X236 hx (t := .int) Bd.returns rfl (Or.inl ⟨rfl, Or.inl rfl, _, rfl⟩) (hb hby d10_36) hr))
    show Q_io2U42 Z a b k cs x0 x1 w fmt h0 n0 _ T236.heap _
    rw [eq236]
    exact ⟨(by rw [if_neg hb238]), N237, rfl⟩
def Q_io1L42 (Z : State) (a : Addr) (b : Addr) (k : ClassId) (cs : Int32) (x : Int32) (h0 : Heap) (n0 : Nat) (v : Option Value) (h : Heap) (L : List Loc) : Prop := v = some (.int (if x = (42 : Int32) then (0 : Int32) else (-1 : Int32))) ∧ Fr n0 L ∧ h = h0
set_option maxRecDepth 65536 in
set_option maxHeartbeats 40000000 in
theorem rm_io1L42 (l : Launch) (Z : State) (a0 : Array Value) (hw : ∀ d ∈ tables_1, d.before a0 Z = true) (ws : List Jvm.Cond) (a : Addr) (b : Addr) (k : ClassId) (cs : Int32) (x : Int32) (h0 : Heap) (n0 : Nat) (O0 : Old Z n0 h0) (u0 : Sta Z Z.heap "java/lang/String" "COMPACT_STRINGS" "Z" (.int cs)) (u1 : ¬ (cs = (0 : Int32))) (u2 : Exa Z h0 a "java/lang/String") (u3 : Fld Z h0 a "java/lang/String" "coder" "B" (.int (0 : Int32))) (u4 : Fld Z h0 a "java/lang/String" "value" "[B" (.ref b)) (u5 : Arv Z h0 b k .byte (1 : Int32) [(.int x)] (.int (0 : Int32))) :
    MetFree l (⟨"java/lang/String", "indexOf", "(I)I"⟩ : MethodName) (head1 (Jvm.Cond.code (⟨"java/lang/String", "indexOf", "(I)I"⟩ : MethodName) jdk_42_method_79_code 2 (some .int) :: ws) ({ frames := 3, cells := 0, slots := 0, locals := 46 } : Room)) (fun aV U => aV = #[(.ref a), (.int (42 : Int32))] ∧ Z.Warmed39 U.vm ∧ U.heap = h0) (fun _ _ _ _ _ => True) (fun _ U o U' => ∃ v L, o = .returned v ∧ Q_io1L42 Z a b k cs x h0 n0 v U'.heap L ∧ FrameEnd U o U' L ({ frames := 3, cells := 0, slots := 0, locals := 46 } : Room).cells ({ frames := 3, cells := 0, slots := 0, locals := 46 } : Room).slots) := by
  refine MetFree.of_bodySF (plainFor_of_name pn_1) hisR ?_
  intro pr_ en_ st_ me_ args below meth_ co_ s₁ Bd hml0 hP hK
  obtain ⟨rfl, hZ, hh⟩ := hP
  have hx := Bd.exec
  have hby := Bd.bytes
  have hml : co_.maxLocals = 2 := hml0
  have hown : st_.vm.findClass "java/lang/String" = some me_.cls := findClass_of_methodNamed Bd.named
  have hnm := (name_of_methodNamed Bd.named Bd.method).1
  have X0 : Stand pr_ l en_ ({ frames := 3, cells := 0, slots := 0, locals := 46 } : Room) st_ me_ #[(.ref a), (.int (42 : Int32))] below meth_ co_ s₁ [] 0 0 := Stand.of_body Bd
  have e0 : s₁.heap = h0 := by rw [← hh, Bd.state]; rfl
  have N0 := Fr.nil n0
  have K0 := Keep.refl h0 []
  obtain ⟨G, gv, gf, gb⟩ := own_G pr_.tables en_ below st_ (Q_io1L42 Z a b k cs x h0 n0) ({ frames := 3, cells := 0, slots := 0, locals := 46 } : Room).cells ({ frames := 3, cells := 0, slots := 0, locals := 46 } : Room).slots
  show own_Fin pr_.tables en_ below st_ (Q_io1L42 Z a b k cs x h0 n0) ({ frames := 3, cells := 0, slots := 0, locals := 46 } : Room).cells ({ frames := 3, cells := 0, slots := 0, locals := 46 } : Room).slots (s₁.setTop (entryFrame me_ #[(.ref a), (.int (42 : Int32))] 2))
  refine gb _ (gv (fun tQ kQ => castTop (ef_9 me_ a (42 : Int32)) kQ) ?_)
  show G (s₁.setTop (mkF me_ 0 #[.val (.ref a), .val (.int (42 : Int32))] []))
  refine gv (fun tQ kQ => XS.aloadN X0.here hx rfl (hb hby d9_0) rfl rfl kQ) ?_
  show G (s₁.setTop (mkF me_ 1 #[.val (.ref a), .val (.int (42 : Int32))] [(.ref a)]))
  refine gv (fun tQ kQ => XS.iloadN X0.here hx rfl (hb hby d9_1) rfl kQ) ?_
  show G (s₁.setTop (mkF me_ 2 #[.val (.ref a), .val (.int (42 : Int32))] [(.int (42 : Int32)), (.ref a)]))
  refine gv (fun tQ kQ => XS.iconst X0.here hx rfl (hb hby d9_2) kQ) ?_
  show G (s₁.setTop (mkF me_ 3 #[.val (.ref a), .val (.int (42 : Int32))] [(.int (0 : Int32)), (.int (42 : Int32)), (.ref a)]))
  obtain ⟨cq239, kq239, q239a, q239b, q239c⟩ := isOf hZ e0 u2
  obtain ⟨_, _, ⟨T239, L239, k239, n239⟩, -, X239, ⟨Lc239, hQ239, l239, y239, z239⟩, st239⟩ := X0.virtualBack hx (y := (⟨"java/lang/String", "indexOf", "(II)I"⟩ : MethodName)) (z := (⟨"java/lang/String", "indexOf", "(II)I"⟩ : MethodName)) hown (mvT hZ (hw _ (List.mem_of_getElem? (i := 43) rfl))) (mvT hZ (hw _ (List.mem_of_getElem? (i := 44) rfl))) (notFace_of_selects (args := #[]) (mvT hZ (hw _ (List.mem_of_getElem? (i := 46) rfl)))) (mvT hZ (hw _ (List.mem_of_getElem? (i := 46) rfl))) (mvT hZ (hw _ (List.mem_of_getElem? (i := 45) rfl))) (by decide) (backOf (W := 0) (rm_io2L42 l Z a0 hw [] a b k cs x h0 n0 O0 u0 u1 u2 u3 u4 u5) hZ (hw _ (List.mem_of_getElem? (i := 47) rfl)) (hw _ (List.mem_of_getElem? (i := 11) rfl)) (by decide) (by decide)) q239a q239c (g := (mkF me_ 3 #[.val (.ref a), .val (.int (42 : Int32))] [(.int (0 : Int32)), (.int (42 : Int32)), (.ref a)])) rfl (by rw [hml]; rfl) (Steps.refl _) (argsL := [(.int (42 : Int32)), (.int (0 : Int32))]) (rest := []) (lenOf pd_9 rfl) rfl (by show 2 * 0 + _ ≤ _; exact Nat.le_of_eq rfl) (hb hby d9_3) (fun _ _ => ⟨rfl, e0, (by decide : 0 + 0 ≤ _), (by decide : 0 + 0 ≤ _)⟩)
  dsimp only [Pt.U, Pt.locs, Pt.cells, Pt.slots] at X239 l239 y239 z239 st239 hQ239
  subst l239 y239 z239
  obtain ⟨rfl, Nq239, eq239⟩ := hQ239
  have N240 := Fr.app N0 Nq239
  by_cases hb241 : x = (42 : Int32)
  · rw [if_pos hb241] at st239
    refine gv (fun tQ kQ => st239.trans kQ) ?_
    show G (T239.setTop (mkF me_ 6 #[.val (.ref a), .val (.int (42 : Int32))] [(.int (0 : Int32))]))
    refine gf _ (own_ret X239 Bd.notSynchronized (v := some (.int (0 : Int32))) (fun h => by rw [Bd.returns] at h; cases h) ?_ (by decide) (by decide) (fun fs hr => retOut X239 hx (t := .int) Bd.returns rfl (Or.inl ⟨rfl, Or.inl rfl, _, rfl⟩) (hb hby d9_6) hr))
    show Q_io1L42 Z a b k cs x h0 n0 _ T239.heap _
    rw [eq239]
    exact ⟨(by rw [if_pos hb241]), N240, rfl⟩
  · skip
    rw [if_neg hb241] at st239
    refine gv (fun tQ kQ => st239.trans kQ) ?_
    show G (T239.setTop (mkF me_ 6 #[.val (.ref a), .val (.int (42 : Int32))] [(.int (-1 : Int32))]))
    refine gf _ (own_ret X239 Bd.notSynchronized (v := some (.int (-1 : Int32))) (fun h => by rw [Bd.returns] at h; cases h) ?_ (by decide) (by decide) (fun fs hr => retOut X239 hx (t := .int) Bd.returns rfl (Or.inl ⟨rfl, Or.inl rfl, _, rfl⟩) (hb hby d9_6) hr))
    show Q_io1L42 Z a b k cs x h0 n0 _ T239.heap _
    rw [eq239]
    exact ⟨(by rw [if_neg hb241]), N240, rfl⟩
def Q_io1U42 (Z : State) (a : Addr) (b : Addr) (k : ClassId) (cs : Int32) (x0 : Int32) (x1 : Int32) (w : Int32) (fmt : Value) (h0 : Heap) (n0 : Nat) (v : Option Value) (h : Heap) (L : List Loc) : Prop := v = some (.int (if w = (42 : Int32) then (0 : Int32) else (-1 : Int32))) ∧ Fr n0 L ∧ h = h0
set_option maxRecDepth 65536 in
set_option maxHeartbeats 40000000 in
theorem rm_io1U42 (l : Launch) (Z : State) (a0 : Array Value) (hw : ∀ d ∈ tables_1, d.before a0 Z = true) (ws : List Jvm.Cond) (a : Addr) (b : Addr) (k : ClassId) (cs : Int32) (x0 : Int32) (x1 : Int32) (w : Int32) (fmt : Value) (h0 : Heap) (n0 : Nat) (O0 : Old Z n0 h0) (u0 : own_gc x0 x1 = w) (u1 : Sta Z Z.heap "java/lang/String" "COMPACT_STRINGS" "Z" (.int cs)) (u2 : ¬ (cs = (0 : Int32))) (u3 : Sta Z Z.heap "java/lang/StringUTF16" "$assertionsDisabled" "Z" (.int (1 : Int32))) (u4 : Sta Z Z.heap "java/lang/StringUTF16" "HI_BYTE_SHIFT" "I" (.int (0 : Int32))) (u5 : Sta Z Z.heap "java/lang/StringUTF16" "LO_BYTE_SHIFT" "I" (.int (8 : Int32))) (u6 : fmt.isRef = true) (u7 : Sta Z Z.heap "jdk/internal/util/Preconditions" "SIOOBE_FORMATTER" "Ljava/util/function/BiFunction;" fmt) (u8 : Exa Z h0 a "java/lang/String") (u9 : Fld Z h0 a "java/lang/String" "coder" "B" (.int (1 : Int32))) (u10 : Fld Z h0 a "java/lang/String" "value" "[B" (.ref b)) (u11 : Arv Z h0 b k .byte (2 : Int32) [(.int x0), (.int x1)] (.int (0 : Int32))) :
    MetFree l (⟨"java/lang/String", "indexOf", "(I)I"⟩ : MethodName) (head1 (Jvm.Cond.code (⟨"java/lang/String", "indexOf", "(I)I"⟩ : MethodName) jdk_42_method_79_code 2 (some .int) :: ws) ({ frames := 6, cells := 0, slots := 0, locals := 87 } : Room)) (fun aV U => aV = #[(.ref a), (.int (42 : Int32))] ∧ Z.Warmed39 U.vm ∧ U.heap = h0) (fun _ _ _ _ _ => True) (fun _ U o U' => ∃ v L, o = .returned v ∧ Q_io1U42 Z a b k cs x0 x1 w fmt h0 n0 v U'.heap L ∧ FrameEnd U o U' L ({ frames := 6, cells := 0, slots := 0, locals := 87 } : Room).cells ({ frames := 6, cells := 0, slots := 0, locals := 87 } : Room).slots) := by
  refine MetFree.of_bodySF (plainFor_of_name pn_1) hisR ?_
  intro pr_ en_ st_ me_ args below meth_ co_ s₁ Bd hml0 hP hK
  obtain ⟨rfl, hZ, hh⟩ := hP
  have hx := Bd.exec
  have hby := Bd.bytes
  have hml : co_.maxLocals = 2 := hml0
  have hown : st_.vm.findClass "java/lang/String" = some me_.cls := findClass_of_methodNamed Bd.named
  have hnm := (name_of_methodNamed Bd.named Bd.method).1
  have X0 : Stand pr_ l en_ ({ frames := 6, cells := 0, slots := 0, locals := 87 } : Room) st_ me_ #[(.ref a), (.int (42 : Int32))] below meth_ co_ s₁ [] 0 0 := Stand.of_body Bd
  have e0 : s₁.heap = h0 := by rw [← hh, Bd.state]; rfl
  have N0 := Fr.nil n0
  have K0 := Keep.refl h0 []
  obtain ⟨G, gv, gf, gb⟩ := own_G pr_.tables en_ below st_ (Q_io1U42 Z a b k cs x0 x1 w fmt h0 n0) ({ frames := 6, cells := 0, slots := 0, locals := 87 } : Room).cells ({ frames := 6, cells := 0, slots := 0, locals := 87 } : Room).slots
  show own_Fin pr_.tables en_ below st_ (Q_io1U42 Z a b k cs x0 x1 w fmt h0 n0) ({ frames := 6, cells := 0, slots := 0, locals := 87 } : Room).cells ({ frames := 6, cells := 0, slots := 0, locals := 87 } : Room).slots (s₁.setTop (entryFrame me_ #[(.ref a), (.int (42 : Int32))] 2))
  refine gb _ (gv (fun tQ kQ => castTop (ef_9 me_ a (42 : Int32)) kQ) ?_)
  show G (s₁.setTop (mkF me_ 0 #[.val (.ref a), .val (.int (42 : Int32))] []))
  refine gv (fun tQ kQ => XS.aloadN X0.here hx rfl (hb hby d9_0) rfl rfl kQ) ?_
  show G (s₁.setTop (mkF me_ 1 #[.val (.ref a), .val (.int (42 : Int32))] [(.ref a)]))
  refine gv (fun tQ kQ => XS.iloadN X0.here hx rfl (hb hby d9_1) rfl kQ) ?_
  show G (s₁.setTop (mkF me_ 2 #[.val (.ref a), .val (.int (42 : Int32))] [(.int (42 : Int32)), (.ref a)]))
  refine gv (fun tQ kQ => XS.iconst X0.here hx rfl (hb hby d9_2) kQ) ?_
  show G (s₁.setTop (mkF me_ 3 #[.val (.ref a), .val (.int (42 : Int32))] [(.int (0 : Int32)), (.int (42 : Int32)), (.ref a)]))
  obtain ⟨cq242, kq242, q242a, q242b, q242c⟩ := isOf hZ e0 u8
  obtain ⟨_, _, ⟨T242, L242, k242, n242⟩, -, X242, ⟨Lc242, hQ242, l242, y242, z242⟩, st242⟩ := X0.virtualBack hx (y := (⟨"java/lang/String", "indexOf", "(II)I"⟩ : MethodName)) (z := (⟨"java/lang/String", "indexOf", "(II)I"⟩ : MethodName)) hown (mvT hZ (hw _ (List.mem_of_getElem? (i := 43) rfl))) (mvT hZ (hw _ (List.mem_of_getElem? (i := 44) rfl))) (notFace_of_selects (args := #[]) (mvT hZ (hw _ (List.mem_of_getElem? (i := 46) rfl)))) (mvT hZ (hw _ (List.mem_of_getElem? (i := 46) rfl))) (mvT hZ (hw _ (List.mem_of_getElem? (i := 45) rfl))) (by decide) (backOf (W := 0) (rm_io2U42 l Z a0 hw [] a b k cs x0 x1 w fmt h0 n0 O0 u0 u1 u2 u3 u4 u5 u6 u7 u8 u9 u10 u11) hZ (hw _ (List.mem_of_getElem? (i := 47) rfl)) (hw _ (List.mem_of_getElem? (i := 11) rfl)) (by decide) (by decide)) q242a q242c (g := (mkF me_ 3 #[.val (.ref a), .val (.int (42 : Int32))] [(.int (0 : Int32)), (.int (42 : Int32)), (.ref a)])) rfl (by rw [hml]; rfl) (Steps.refl _) (argsL := [(.int (42 : Int32)), (.int (0 : Int32))]) (rest := []) (lenOf pd_9 rfl) rfl (by show 2 * 0 + _ ≤ _; exact Nat.le_of_eq rfl) (hb hby d9_3) (fun _ _ => ⟨rfl, e0, (by decide : 0 + 0 ≤ _), (by decide : 0 + 0 ≤ _)⟩)
  dsimp only [Pt.U, Pt.locs, Pt.cells, Pt.slots] at X242 l242 y242 z242 st242 hQ242
  subst l242 y242 z242
  obtain ⟨rfl, Nq242, eq242⟩ := hQ242
  have N243 := Fr.app N0 Nq242
  by_cases hb244 : w = (42 : Int32)
  · rw [if_pos hb244] at st242
    refine gv (fun tQ kQ => st242.trans kQ) ?_
    show G (T242.setTop (mkF me_ 6 #[.val (.ref a), .val (.int (42 : Int32))] [(.int (0 : Int32))]))
    refine gf _ (own_ret X242 Bd.notSynchronized (v := some (.int (0 : Int32))) (fun h => by rw [Bd.returns] at h; cases h) ?_ (by decide) (by decide) (fun fs hr => retOut X242 hx (t := .int) Bd.returns rfl (Or.inl ⟨rfl, Or.inl rfl, _, rfl⟩) (hb hby d9_6) hr))
    show Q_io1U42 Z a b k cs x0 x1 w fmt h0 n0 _ T242.heap _
    rw [eq242]
    exact ⟨(by rw [if_pos hb244]), N243, rfl⟩
  · skip
    rw [if_neg hb244] at st242
    refine gv (fun tQ kQ => st242.trans kQ) ?_
    show G (T242.setTop (mkF me_ 6 #[.val (.ref a), .val (.int (42 : Int32))] [(.int (-1 : Int32))]))
    refine gf _ (own_ret X242 Bd.notSynchronized (v := some (.int (-1 : Int32))) (fun h => by rw [Bd.returns] at h; cases h) ?_ (by decide) (by decide) (fun fs hr => retOut X242 hx (t := .int) Bd.returns rfl (Or.inl ⟨rfl, Or.inl rfl, _, rfl⟩) (hb hby d9_6) hr))
    show Q_io1U42 Z a b k cs x0 x1 w fmt h0 n0 _ T242.heap _
    rw [eq242]
    exact ⟨(by rw [if_neg hb244]), N243, rfl⟩
theorem pn_4 : plainName "com/example/hits_in_context/hitsincontext/model/TermPattern" = true := by first | (simp [plainName, overriddenIn]; done) | decide +kernel
theorem d8_0 : decode prog_43_method_2_code 0 = .ok (.aload_n 0, 1) := by decide +kernel
theorem d8_1 : decode prog_43_method_2_code 1 = .ok (.bipush 63, 2) := by decide +kernel
theorem d8_3 : decode prog_43_method_2_code 3 = .ok (.invokevirtual 41, 3) := by decide +kernel
theorem pd_15 : parseMethodDescriptor "(I)I" = some ⟨[.int], some .int⟩ := by decide +kernel
theorem d8_6 : decode prog_43_method_2_code 6 = .ok (.ifCond .ge 12, 3) := by decide +kernel
theorem d8_18 : decode prog_43_method_2_code 18 = .ok (.iconst 1, 1) := by decide +kernel
theorem d8_19 : decode prog_43_method_2_code 19 = .ok (.goto 4, 3) := by decide +kernel
theorem d8_23 : decode prog_43_method_2_code 23 = .ok (.ireturn, 1) := by decide +kernel
theorem d8_9 : decode prog_43_method_2_code 9 = .ok (.aload_n 0, 1) := by decide +kernel
theorem d8_10 : decode prog_43_method_2_code 10 = .ok (.bipush 42, 2) := by decide +kernel
theorem d8_12 : decode prog_43_method_2_code 12 = .ok (.invokevirtual 41, 3) := by decide +kernel
theorem d8_15 : decode prog_43_method_2_code 15 = .ok (.ifCond .lt 7, 3) := by decide +kernel
theorem d8_22 : decode prog_43_method_2_code 22 = .ok (.iconst 0, 1) := by decide +kernel
def Q_hwL (Z : State) (a : Addr) (b : Addr) (k : ClassId) (cs : Int32) (x : Int32) (h0 : Heap) (n0 : Nat) (v : Option Value) (h : Heap) (L : List Loc) : Prop := v = some (.int (if x = (63 : Int32) then (1 : Int32) else (if x = (42 : Int32) then (1 : Int32) else (0 : Int32)))) ∧ Fr n0 L ∧ h = h0
set_option maxRecDepth 65536 in
set_option maxHeartbeats 40000000 in
theorem rm_hwL (l : Launch) (Z : State) (a0 : Array Value) (hw : ∀ d ∈ tables_1, d.before a0 Z = true) (ws : List Jvm.Cond) (a : Addr) (b : Addr) (k : ClassId) (cs : Int32) (x : Int32) (h0 : Heap) (n0 : Nat) (O0 : Old Z n0 h0) (u0 : Sta Z Z.heap "java/lang/String" "COMPACT_STRINGS" "Z" (.int cs)) (u1 : ¬ (cs = (0 : Int32))) (u2 : Exa Z h0 a "java/lang/String") (u3 : Fld Z h0 a "java/lang/String" "coder" "B" (.int (0 : Int32))) (u4 : Fld Z h0 a "java/lang/String" "value" "[B" (.ref b)) (u5 : Arv Z h0 b k .byte (1 : Int32) [(.int x)] (.int (0 : Int32))) :
    MetFree l (⟨"com/example/hits_in_context/hitsincontext/model/TermPattern", "hasWildcard", "(Ljava/lang/String;)Z"⟩ : MethodName) (head1 (Jvm.Cond.code (⟨"com/example/hits_in_context/hitsincontext/model/TermPattern", "hasWildcard", "(Ljava/lang/String;)Z"⟩ : MethodName) prog_43_method_2_code 1 (some .boolean) :: ws) ({ frames := 4, cells := 0, slots := 0, locals := 59 } : Room)) (fun aV U => aV = #[(.ref a)] ∧ Z.Warmed39 U.vm ∧ U.heap = h0) (fun _ _ _ _ _ => True) (fun _ U o U' => ∃ v L, o = .returned v ∧ Q_hwL Z a b k cs x h0 n0 v U'.heap L ∧ FrameEnd U o U' L ({ frames := 4, cells := 0, slots := 0, locals := 59 } : Room).cells ({ frames := 4, cells := 0, slots := 0, locals := 59 } : Room).slots) := by
  refine MetFree.of_bodySF (plainFor_of_name pn_4) hisR ?_
  intro pr_ en_ st_ me_ args below meth_ co_ s₁ Bd hml0 hP hK
  obtain ⟨rfl, hZ, hh⟩ := hP
  have hx := Bd.exec
  have hby := Bd.bytes
  have hml : co_.maxLocals = 1 := hml0
  have hown : st_.vm.findClass "com/example/hits_in_context/hitsincontext/model/TermPattern" = some me_.cls := findClass_of_methodNamed Bd.named
  have hnm := (name_of_methodNamed Bd.named Bd.method).1
  have X0 : Stand pr_ l en_ ({ frames := 4, cells := 0, slots := 0, locals := 59 } : Room) st_ me_ #[(.ref a)] below meth_ co_ s₁ [] 0 0 := Stand.of_body Bd
  have e0 : s₁.heap = h0 := by rw [← hh, Bd.state]; rfl
  have N0 := Fr.nil n0
  have K0 := Keep.refl h0 []
  obtain ⟨G, gv, gf, gb⟩ := own_G pr_.tables en_ below st_ (Q_hwL Z a b k cs x h0 n0) ({ frames := 4, cells := 0, slots := 0, locals := 59 } : Room).cells ({ frames := 4, cells := 0, slots := 0, locals := 59 } : Room).slots
  show own_Fin pr_.tables en_ below st_ (Q_hwL Z a b k cs x h0 n0) ({ frames := 4, cells := 0, slots := 0, locals := 59 } : Room).cells ({ frames := 4, cells := 0, slots := 0, locals := 59 } : Room).slots (s₁.setTop (entryFrame me_ #[(.ref a)] 1))
  refine gb _ (gv (fun tQ kQ => castTop (ef_4 me_ a) kQ) ?_)
  show G (s₁.setTop (mkF me_ 0 #[.val (.ref a)] []))
  refine gv (fun tQ kQ => XS.aloadN X0.here hx rfl (hb hby d8_0) rfl rfl kQ) ?_
  show G (s₁.setTop (mkF me_ 1 #[.val (.ref a)] [(.ref a)]))
  refine gv (fun tQ kQ => XS.bipush X0.here hx rfl (hb hby d8_1) kQ) ?_
  show G (s₁.setTop (mkF me_ 3 #[.val (.ref a)] [(.int (63 : Int32)), (.ref a)]))
  obtain ⟨cq245, kq245, q245a, q245b, q245c⟩ := isOf hZ e0 u2
  obtain ⟨_, _, ⟨T245, L245, k245, n245⟩, -, X245, ⟨Lc245, hQ245, l245, y245, z245⟩, st245⟩ := X0.virtualBack hx (y := (⟨"java/lang/String", "indexOf", "(I)I"⟩ : MethodName)) (z := (⟨"java/lang/String", "indexOf", "(I)I"⟩ : MethodName)) hown (mvT hZ (hw _ (List.mem_of_getElem? (i := 38) rfl))) (mvT hZ (hw _ (List.mem_of_getElem? (i := 39) rfl))) (notFace_of_selects (args := #[]) (mvT hZ (hw _ (List.mem_of_getElem? (i := 41) rfl)))) (mvT hZ (hw _ (List.mem_of_getElem? (i := 41) rfl))) (mvT hZ (hw _ (List.mem_of_getElem? (i := 40) rfl))) (by decide) (backOf (W := 0) (rm_io1L63 l Z a0 hw [] a b k cs x h0 n0 O0 u0 u1 u2 u3 u4 u5) hZ (hw _ (List.mem_of_getElem? (i := 42) rfl)) (hw _ (List.mem_of_getElem? (i := 11) rfl)) (by decide) (by decide)) q245a q245c (g := (mkF me_ 3 #[.val (.ref a)] [(.int (63 : Int32)), (.ref a)])) rfl (by rw [hml]; rfl) (Steps.refl _) (argsL := [(.int (63 : Int32))]) (rest := []) (lenOf pd_15 rfl) rfl (by show 2 * 0 + _ ≤ _; exact Nat.le_of_eq rfl) (hb hby d8_3) (fun _ _ => ⟨rfl, e0, (by decide : 0 + 0 ≤ _), (by decide : 0 + 0 ≤ _)⟩)
  dsimp only [Pt.U, Pt.locs, Pt.cells, Pt.slots] at X245 l245 y245 z245 st245 hQ245
  subst l245 y245 z245
  obtain ⟨rfl, Nq245, eq245⟩ := hQ245
  have N246 := Fr.app N0 Nq245
  by_cases hb247 : x = (63 : Int32)
  · rw [if_pos hb247] at st245
    refine gv (fun tQ kQ => st245.trans kQ) ?_
    show G (T245.setTop (mkF me_ 6 #[.val (.ref a)] [(.int (0 : Int32))]))
    refine gv (fun tQ kQ => XS.ifYes X245.here hx rfl (pc0 := 6) (pc' := 18) rfl (hb hby d8_6) rfl ((if0 _ _).trans (flt (by decide : ¬ ((0 : Int32) < (0 : Int32)))).2.1) (by decide) (by decide) kQ) ?_
    show G (T245.setTop (mkF me_ 18 #[.val (.ref a)] []))
    refine gv (fun tQ kQ => XS.iconst X245.here hx rfl (hb hby d8_18) kQ) ?_
    show G (T245.setTop (mkF me_ 19 #[.val (.ref a)] [(.int (1 : Int32))]))
    refine gv (fun tQ kQ => XS.goto X245.here hx rfl (pc0 := 19) (pc' := 23) rfl (hb hby d8_19) (by decide) (by decide) kQ) ?_
    show G (T245.setTop (mkF me_ 23 #[.val (.ref a)] [(.int (1 : Int32))]))
    refine gf _ (own_ret X245 Bd.notSynchronized (v := some (.int (1 : Int32))) (fun h => by rw [Bd.returns] at h; cases h) ?_ (by decide) (by decide) (fun fs hr => retN X245 hx (t := .boolean) Bd.returns (by simp) (hb hby d8_23) hr))
    show Q_hwL Z a b k cs x h0 n0 _ T245.heap _
    rw [eq245]
    exact ⟨(by rw [if_pos hb247]), N246, rfl⟩
  · skip
    rw [if_neg hb247] at st245
    refine gv (fun tQ kQ => st245.trans kQ) ?_
    show G (T245.setTop (mkF me_ 6 #[.val (.ref a)] [(.int (-1 : Int32))]))
    refine gv (fun tQ kQ => XS.ifNo X245.here hx rfl (hb hby d8_6) rfl ((if0 _ _).trans (tlt (by decide : (-1 : Int32) < (0 : Int32))).2.1) kQ) ?_
    show G (T245.setTop (mkF me_ 9 #[.val (.ref a)] []))
    refine gv (fun tQ kQ => XS.aloadN X245.here hx rfl (hb hby d8_9) rfl rfl kQ) ?_
    show G (T245.setTop (mkF me_ 10 #[.val (.ref a)] [(.ref a)]))
    refine gv (fun tQ kQ => XS.bipush X245.here hx rfl (hb hby d8_10) kQ) ?_
    show G (T245.setTop (mkF me_ 12 #[.val (.ref a)] [(.int (42 : Int32)), (.ref a)]))
    obtain ⟨cq248, kq248, q248a, q248b, q248c⟩ := isOf hZ eq245 u2
    obtain ⟨_, _, ⟨T248, L248, k248, n248⟩, -, X248, ⟨Lc248, hQ248, l248, y248, z248⟩, st248⟩ := X245.virtualBack hx (y := (⟨"java/lang/String", "indexOf", "(I)I"⟩ : MethodName)) (z := (⟨"java/lang/String", "indexOf", "(I)I"⟩ : MethodName)) hown (mvT hZ (hw _ (List.mem_of_getElem? (i := 38) rfl))) (mvT hZ (hw _ (List.mem_of_getElem? (i := 39) rfl))) (notFace_of_selects (args := #[]) (mvT hZ (hw _ (List.mem_of_getElem? (i := 41) rfl)))) (mvT hZ (hw _ (List.mem_of_getElem? (i := 41) rfl))) (mvT hZ (hw _ (List.mem_of_getElem? (i := 40) rfl))) (by decide) (backOf (W := 0) (rm_io1L42 l Z a0 hw [] a b k cs x h0 n0 O0 u0 u1 u2 u3 u4 u5) hZ (hw _ (List.mem_of_getElem? (i := 42) rfl)) (hw _ (List.mem_of_getElem? (i := 11) rfl)) (by decide) (by decide)) q248a q248c (g := (mkF me_ 12 #[.val (.ref a)] [(.int (42 : Int32)), (.ref a)])) rfl (by rw [hml]; rfl) (Steps.refl _) (argsL := [(.int (42 : Int32))]) (rest := []) (lenOf pd_15 rfl) rfl (by show 2 * 0 + _ ≤ _; exact Nat.le_of_eq rfl) (hb hby d8_12) (fun _ _ => ⟨rfl, eq245, (by decide : 0 + 0 ≤ _), (by decide : 0 + 0 ≤ _)⟩)
    dsimp only [Pt.U, Pt.locs, Pt.cells, Pt.slots] at X248 l248 y248 z248 st248 hQ248
    subst l248 y248 z248
    obtain ⟨rfl, Nq248, eq248⟩ := hQ248
    have N249 := Fr.app N246 Nq248
    by_cases hb250 : x = (42 : Int32)
    · rw [if_pos hb250] at st248
      refine gv (fun tQ kQ => st248.trans kQ) ?_
      show G (T248.setTop (mkF me_ 15 #[.val (.ref a)] [(.int (0 : Int32))]))
      refine gv (fun tQ kQ => XS.ifNo X248.here hx rfl (hb hby d8_15) rfl ((if0 _ _).trans (flt (by decide : ¬ ((0 : Int32) < (0 : Int32)))).1) kQ) ?_
      show G (T248.setTop (mkF me_ 18 #[.val (.ref a)] []))
      refine gv (fun tQ kQ => XS.iconst X248.here hx rfl (hb hby d8_18) kQ) ?_
      show G (T248.setTop (mkF me_ 19 #[.val (.ref a)] [(.int (1 : Int32))]))
      refine gv (fun tQ kQ => XS.goto X248.here hx rfl (pc0 := 19) (pc' := 23) rfl (hb hby d8_19) (by decide) (by decide) kQ) ?_
      show G (T248.setTop (mkF me_ 23 #[.val (.ref a)] [(.int (1 : Int32))]))
      refine gf _ (own_ret X248 Bd.notSynchronized (v := some (.int (1 : Int32))) (fun h => by rw [Bd.returns] at h; cases h) ?_ (by decide) (by decide) (fun fs hr => retN X248 hx (t := .boolean) Bd.returns (by simp) (hb hby d8_23) hr))
      show Q_hwL Z a b k cs x h0 n0 _ T248.heap _
      rw [eq248]
      exact ⟨(by rw [if_neg hb247, if_pos hb250]), N249, rfl⟩
    · skip
      rw [if_neg hb250] at st248
      refine gv (fun tQ kQ => st248.trans kQ) ?_
      show G (T248.setTop (mkF me_ 15 #[.val (.ref a)] [(.int (-1 : Int32))]))
      refine gv (fun tQ kQ => XS.ifYes X248.here hx rfl (pc0 := 15) (pc' := 22) rfl (hb hby d8_15) rfl ((if0 _ _).trans (tlt (by decide : (-1 : Int32) < (0 : Int32))).1) (by decide) (by decide) kQ) ?_
      show G (T248.setTop (mkF me_ 22 #[.val (.ref a)] []))
      refine gv (fun tQ kQ => XS.iconst X248.here hx rfl (hb hby d8_22) kQ) ?_
      show G (T248.setTop (mkF me_ 23 #[.val (.ref a)] [(.int (0 : Int32))]))
      refine gf _ (own_ret X248 Bd.notSynchronized (v := some (.int (0 : Int32))) (fun h => by rw [Bd.returns] at h; cases h) ?_ (by decide) (by decide) (fun fs hr => retN X248 hx (t := .boolean) Bd.returns (by simp) (hb hby d8_23) hr))
      show Q_hwL Z a b k cs x h0 n0 _ T248.heap _
      rw [eq248]
      exact ⟨(by rw [if_neg hb247, if_neg hb250]), N249, rfl⟩
def Q_hwU (Z : State) (a : Addr) (b : Addr) (k : ClassId) (cs : Int32) (x0 : Int32) (x1 : Int32) (w : Int32) (fmt : Value) (h0 : Heap) (n0 : Nat) (v : Option Value) (h : Heap) (L : List Loc) : Prop := v = some (.int (if w = (63 : Int32) then (1 : Int32) else (if w = (42 : Int32) then (1 : Int32) else (0 : Int32)))) ∧ Fr n0 L ∧ h = h0
set_option maxRecDepth 65536 in
set_option maxHeartbeats 40000000 in
theorem rm_hwU (l : Launch) (Z : State) (a0 : Array Value) (hw : ∀ d ∈ tables_1, d.before a0 Z = true) (ws : List Jvm.Cond) (a : Addr) (b : Addr) (k : ClassId) (cs : Int32) (x0 : Int32) (x1 : Int32) (w : Int32) (fmt : Value) (h0 : Heap) (n0 : Nat) (O0 : Old Z n0 h0) (u0 : own_gc x0 x1 = w) (u1 : Sta Z Z.heap "java/lang/String" "COMPACT_STRINGS" "Z" (.int cs)) (u2 : ¬ (cs = (0 : Int32))) (u3 : Sta Z Z.heap "java/lang/StringUTF16" "$assertionsDisabled" "Z" (.int (1 : Int32))) (u4 : Sta Z Z.heap "java/lang/StringUTF16" "HI_BYTE_SHIFT" "I" (.int (0 : Int32))) (u5 : Sta Z Z.heap "java/lang/StringUTF16" "LO_BYTE_SHIFT" "I" (.int (8 : Int32))) (u6 : fmt.isRef = true) (u7 : Sta Z Z.heap "jdk/internal/util/Preconditions" "SIOOBE_FORMATTER" "Ljava/util/function/BiFunction;" fmt) (u8 : Exa Z h0 a "java/lang/String") (u9 : Fld Z h0 a "java/lang/String" "coder" "B" (.int (1 : Int32))) (u10 : Fld Z h0 a "java/lang/String" "value" "[B" (.ref b)) (u11 : Arv Z h0 b k .byte (2 : Int32) [(.int x0), (.int x1)] (.int (0 : Int32))) :
    MetFree l (⟨"com/example/hits_in_context/hitsincontext/model/TermPattern", "hasWildcard", "(Ljava/lang/String;)Z"⟩ : MethodName) (head1 (Jvm.Cond.code (⟨"com/example/hits_in_context/hitsincontext/model/TermPattern", "hasWildcard", "(Ljava/lang/String;)Z"⟩ : MethodName) prog_43_method_2_code 1 (some .boolean) :: ws) ({ frames := 7, cells := 0, slots := 0, locals := 100 } : Room)) (fun aV U => aV = #[(.ref a)] ∧ Z.Warmed39 U.vm ∧ U.heap = h0) (fun _ _ _ _ _ => True) (fun _ U o U' => ∃ v L, o = .returned v ∧ Q_hwU Z a b k cs x0 x1 w fmt h0 n0 v U'.heap L ∧ FrameEnd U o U' L ({ frames := 7, cells := 0, slots := 0, locals := 100 } : Room).cells ({ frames := 7, cells := 0, slots := 0, locals := 100 } : Room).slots) := by
  refine MetFree.of_bodySF (plainFor_of_name pn_4) hisR ?_
  intro pr_ en_ st_ me_ args below meth_ co_ s₁ Bd hml0 hP hK
  obtain ⟨rfl, hZ, hh⟩ := hP
  have hx := Bd.exec
  have hby := Bd.bytes
  have hml : co_.maxLocals = 1 := hml0
  have hown : st_.vm.findClass "com/example/hits_in_context/hitsincontext/model/TermPattern" = some me_.cls := findClass_of_methodNamed Bd.named
  have hnm := (name_of_methodNamed Bd.named Bd.method).1
  have X0 : Stand pr_ l en_ ({ frames := 7, cells := 0, slots := 0, locals := 100 } : Room) st_ me_ #[(.ref a)] below meth_ co_ s₁ [] 0 0 := Stand.of_body Bd
  have e0 : s₁.heap = h0 := by rw [← hh, Bd.state]; rfl
  have N0 := Fr.nil n0
  have K0 := Keep.refl h0 []
  obtain ⟨G, gv, gf, gb⟩ := own_G pr_.tables en_ below st_ (Q_hwU Z a b k cs x0 x1 w fmt h0 n0) ({ frames := 7, cells := 0, slots := 0, locals := 100 } : Room).cells ({ frames := 7, cells := 0, slots := 0, locals := 100 } : Room).slots
  show own_Fin pr_.tables en_ below st_ (Q_hwU Z a b k cs x0 x1 w fmt h0 n0) ({ frames := 7, cells := 0, slots := 0, locals := 100 } : Room).cells ({ frames := 7, cells := 0, slots := 0, locals := 100 } : Room).slots (s₁.setTop (entryFrame me_ #[(.ref a)] 1))
  refine gb _ (gv (fun tQ kQ => castTop (ef_4 me_ a) kQ) ?_)
  show G (s₁.setTop (mkF me_ 0 #[.val (.ref a)] []))
  refine gv (fun tQ kQ => XS.aloadN X0.here hx rfl (hb hby d8_0) rfl rfl kQ) ?_
  show G (s₁.setTop (mkF me_ 1 #[.val (.ref a)] [(.ref a)]))
  refine gv (fun tQ kQ => XS.bipush X0.here hx rfl (hb hby d8_1) kQ) ?_
  show G (s₁.setTop (mkF me_ 3 #[.val (.ref a)] [(.int (63 : Int32)), (.ref a)]))
  obtain ⟨cq251, kq251, q251a, q251b, q251c⟩ := isOf hZ e0 u8
  obtain ⟨_, _, ⟨T251, L251, k251, n251⟩, -, X251, ⟨Lc251, hQ251, l251, y251, z251⟩, st251⟩ := X0.virtualBack hx (y := (⟨"java/lang/String", "indexOf", "(I)I"⟩ : MethodName)) (z := (⟨"java/lang/String", "indexOf", "(I)I"⟩ : MethodName)) hown (mvT hZ (hw _ (List.mem_of_getElem? (i := 38) rfl))) (mvT hZ (hw _ (List.mem_of_getElem? (i := 39) rfl))) (notFace_of_selects (args := #[]) (mvT hZ (hw _ (List.mem_of_getElem? (i := 41) rfl)))) (mvT hZ (hw _ (List.mem_of_getElem? (i := 41) rfl))) (mvT hZ (hw _ (List.mem_of_getElem? (i := 40) rfl))) (by decide) (backOf (W := 0) (rm_io1U63 l Z a0 hw [] a b k cs x0 x1 w fmt h0 n0 O0 u0 u1 u2 u3 u4 u5 u6 u7 u8 u9 u10 u11) hZ (hw _ (List.mem_of_getElem? (i := 42) rfl)) (hw _ (List.mem_of_getElem? (i := 11) rfl)) (by decide) (by decide)) q251a q251c (g := (mkF me_ 3 #[.val (.ref a)] [(.int (63 : Int32)), (.ref a)])) rfl (by rw [hml]; rfl) (Steps.refl _) (argsL := [(.int (63 : Int32))]) (rest := []) (lenOf pd_15 rfl) rfl (by show 2 * 0 + _ ≤ _; exact Nat.le_of_eq rfl) (hb hby d8_3) (fun _ _ => ⟨rfl, e0, (by decide : 0 + 0 ≤ _), (by decide : 0 + 0 ≤ _)⟩)
  dsimp only [Pt.U, Pt.locs, Pt.cells, Pt.slots] at X251 l251 y251 z251 st251 hQ251
  subst l251 y251 z251
  obtain ⟨rfl, Nq251, eq251⟩ := hQ251
  have N252 := Fr.app N0 Nq251
  by_cases hb253 : w = (63 : Int32)
  · rw [if_pos hb253] at st251
    refine gv (fun tQ kQ => st251.trans kQ) ?_
    show G (T251.setTop (mkF me_ 6 #[.val (.ref a)] [(.int (0 : Int32))]))
    refine gv (fun tQ kQ => XS.ifYes X251.here hx rfl (pc0 := 6) (pc' := 18) rfl (hb hby d8_6) rfl ((if0 _ _).trans (flt (by decide : ¬ ((0 : Int32) < (0 : Int32)))).2.1) (by decide) (by decide) kQ) ?_
    show G (T251.setTop (mkF me_ 18 #[.val (.ref a)] []))
    refine gv (fun tQ kQ => XS.iconst X251.here hx rfl (hb hby d8_18) kQ) ?_
    show G (T251.setTop (mkF me_ 19 #[.val (.ref a)] [(.int (1 : Int32))]))
    refine gv (fun tQ kQ => XS.goto X251.here hx rfl (pc0 := 19) (pc' := 23) rfl (hb hby d8_19) (by decide) (by decide) kQ) ?_
    show G (T251.setTop (mkF me_ 23 #[.val (.ref a)] [(.int (1 : Int32))]))
    refine gf _ (own_ret X251 Bd.notSynchronized (v := some (.int (1 : Int32))) (fun h => by rw [Bd.returns] at h; cases h) ?_ (by decide) (by decide) (fun fs hr => retN X251 hx (t := .boolean) Bd.returns (by simp) (hb hby d8_23) hr))
    show Q_hwU Z a b k cs x0 x1 w fmt h0 n0 _ T251.heap _
    rw [eq251]
    exact ⟨(by rw [if_pos hb253]), N252, rfl⟩
  · skip
    rw [if_neg hb253] at st251
    refine gv (fun tQ kQ => st251.trans kQ) ?_
    show G (T251.setTop (mkF me_ 6 #[.val (.ref a)] [(.int (-1 : Int32))]))
    refine gv (fun tQ kQ => XS.ifNo X251.here hx rfl (hb hby d8_6) rfl ((if0 _ _).trans (tlt (by decide : (-1 : Int32) < (0 : Int32))).2.1) kQ) ?_
    show G (T251.setTop (mkF me_ 9 #[.val (.ref a)] []))
    refine gv (fun tQ kQ => XS.aloadN X251.here hx rfl (hb hby d8_9) rfl rfl kQ) ?_
    show G (T251.setTop (mkF me_ 10 #[.val (.ref a)] [(.ref a)]))
    refine gv (fun tQ kQ => XS.bipush X251.here hx rfl (hb hby d8_10) kQ) ?_
    show G (T251.setTop (mkF me_ 12 #[.val (.ref a)] [(.int (42 : Int32)), (.ref a)]))
    obtain ⟨cq254, kq254, q254a, q254b, q254c⟩ := isOf hZ eq251 u8
    obtain ⟨_, _, ⟨T254, L254, k254, n254⟩, -, X254, ⟨Lc254, hQ254, l254, y254, z254⟩, st254⟩ := X251.virtualBack hx (y := (⟨"java/lang/String", "indexOf", "(I)I"⟩ : MethodName)) (z := (⟨"java/lang/String", "indexOf", "(I)I"⟩ : MethodName)) hown (mvT hZ (hw _ (List.mem_of_getElem? (i := 38) rfl))) (mvT hZ (hw _ (List.mem_of_getElem? (i := 39) rfl))) (notFace_of_selects (args := #[]) (mvT hZ (hw _ (List.mem_of_getElem? (i := 41) rfl)))) (mvT hZ (hw _ (List.mem_of_getElem? (i := 41) rfl))) (mvT hZ (hw _ (List.mem_of_getElem? (i := 40) rfl))) (by decide) (backOf (W := 0) (rm_io1U42 l Z a0 hw [] a b k cs x0 x1 w fmt h0 n0 O0 u0 u1 u2 u3 u4 u5 u6 u7 u8 u9 u10 u11) hZ (hw _ (List.mem_of_getElem? (i := 42) rfl)) (hw _ (List.mem_of_getElem? (i := 11) rfl)) (by decide) (by decide)) q254a q254c (g := (mkF me_ 12 #[.val (.ref a)] [(.int (42 : Int32)), (.ref a)])) rfl (by rw [hml]; rfl) (Steps.refl _) (argsL := [(.int (42 : Int32))]) (rest := []) (lenOf pd_15 rfl) rfl (by show 2 * 0 + _ ≤ _; exact Nat.le_of_eq rfl) (hb hby d8_12) (fun _ _ => ⟨rfl, eq251, (by decide : 0 + 0 ≤ _), (by decide : 0 + 0 ≤ _)⟩)
    dsimp only [Pt.U, Pt.locs, Pt.cells, Pt.slots] at X254 l254 y254 z254 st254 hQ254
    subst l254 y254 z254
    obtain ⟨rfl, Nq254, eq254⟩ := hQ254
    have N255 := Fr.app N252 Nq254
    by_cases hb256 : w = (42 : Int32)
    · rw [if_pos hb256] at st254
      refine gv (fun tQ kQ => st254.trans kQ) ?_
      show G (T254.setTop (mkF me_ 15 #[.val (.ref a)] [(.int (0 : Int32))]))
      refine gv (fun tQ kQ => XS.ifNo X254.here hx rfl (hb hby d8_15) rfl ((if0 _ _).trans (flt (by decide : ¬ ((0 : Int32) < (0 : Int32)))).1) kQ) ?_
      show G (T254.setTop (mkF me_ 18 #[.val (.ref a)] []))
      refine gv (fun tQ kQ => XS.iconst X254.here hx rfl (hb hby d8_18) kQ) ?_
      show G (T254.setTop (mkF me_ 19 #[.val (.ref a)] [(.int (1 : Int32))]))
      refine gv (fun tQ kQ => XS.goto X254.here hx rfl (pc0 := 19) (pc' := 23) rfl (hb hby d8_19) (by decide) (by decide) kQ) ?_
      show G (T254.setTop (mkF me_ 23 #[.val (.ref a)] [(.int (1 : Int32))]))
      refine gf _ (own_ret X254 Bd.notSynchronized (v := some (.int (1 : Int32))) (fun h => by rw [Bd.returns] at h; cases h) ?_ (by decide) (by decide) (fun fs hr => retN X254 hx (t := .boolean) Bd.returns (by simp) (hb hby d8_23) hr))
      show Q_hwU Z a b k cs x0 x1 w fmt h0 n0 _ T254.heap _
      rw [eq254]
      exact ⟨(by rw [if_neg hb253, if_pos hb256]), N255, rfl⟩
    · skip
      rw [if_neg hb256] at st254
      refine gv (fun tQ kQ => st254.trans kQ) ?_
      show G (T254.setTop (mkF me_ 15 #[.val (.ref a)] [(.int (-1 : Int32))]))
      refine gv (fun tQ kQ => XS.ifYes X254.here hx rfl (pc0 := 15) (pc' := 22) rfl (hb hby d8_15) rfl ((if0 _ _).trans (tlt (by decide : (-1 : Int32) < (0 : Int32))).1) (by decide) (by decide) kQ) ?_
      show G (T254.setTop (mkF me_ 22 #[.val (.ref a)] []))
      refine gv (fun tQ kQ => XS.iconst X254.here hx rfl (hb hby d8_22) kQ) ?_
      show G (T254.setTop (mkF me_ 23 #[.val (.ref a)] [(.int (0 : Int32))]))
      refine gf _ (own_ret X254 Bd.notSynchronized (v := some (.int (0 : Int32))) (fun h => by rw [Bd.returns] at h; cases h) ?_ (by decide) (by decide) (fun fs hr => retN X254 hx (t := .boolean) Bd.returns (by simp) (hb hby d8_23) hr))
      show Q_hwU Z a b k cs x0 x1 w fmt h0 n0 _ T254.heap _
      rw [eq254]
      exact ⟨(by rw [if_neg hb253, if_neg hb256]), N255, rfl⟩
theorem d1_0 : decode prog_43_method_3_code 0 = .ok (.iload_n 0, 1) := by decide +kernel
theorem d1_1 : decode prog_43_method_3_code 1 = .ok (.bipush 63, 2) := by decide +kernel
theorem d1_3 : decode prog_43_method_3_code 3 = .ok (.if_icmp .eq 9, 3) := by decide +kernel
theorem d1_12 : decode prog_43_method_3_code 12 = .ok (.iconst 1, 1) := by decide +kernel
theorem d1_13 : decode prog_43_method_3_code 13 = .ok (.goto 4, 3) := by decide +kernel
theorem d1_17 : decode prog_43_method_3_code 17 = .ok (.ireturn, 1) := by decide +kernel
theorem d1_6 : decode prog_43_method_3_code 6 = .ok (.iload_n 0, 1) := by decide +kernel
theorem d1_7 : decode prog_43_method_3_code 7 = .ok (.bipush 42, 2) := by decide +kernel
theorem d1_9 : decode prog_43_method_3_code 9 = .ok (.if_icmp .ne 7, 3) := by decide +kernel
theorem d1_16 : decode prog_43_method_3_code 16 = .ok (.iconst 0, 1) := by decide +kernel
def Q_isw (Z : State) (n : Int32) (h0 : Heap) (n0 : Nat) (v : Option Value) (h : Heap) (L : List Loc) : Prop := v = some (.int (if n = (63 : Int32) then (1 : Int32) else (if n = (42 : Int32) then (1 : Int32) else (0 : Int32)))) ∧ Fr n0 L ∧ h = h0
set_option maxRecDepth 65536 in
set_option maxHeartbeats 40000000 in
theorem rm_isw (l : Launch) (Z : State) (a0 : Array Value) (hw : ∀ d ∈ tables_1, d.before a0 Z = true) (ws : List Jvm.Cond) (n : Int32) (h0 : Heap) (n0 : Nat) (O0 : Old Z n0 h0)  :
    MetFree l (⟨"com/example/hits_in_context/hitsincontext/model/TermPattern", "isWildcard", "(I)Z"⟩ : MethodName) (head1 (Jvm.Cond.code (⟨"com/example/hits_in_context/hitsincontext/model/TermPattern", "isWildcard", "(I)Z"⟩ : MethodName) prog_43_method_3_code 1 (some .boolean) :: ws) ({ frames := 0, cells := 0, slots := 0, locals := 0 } : Room)) (fun aV U => aV = #[(.int n)] ∧ Z.Warmed39 U.vm ∧ U.heap = h0) (fun _ _ _ _ _ => True) (fun _ U o U' => ∃ v L, o = .returned v ∧ Q_isw Z n h0 n0 v U'.heap L ∧ FrameEnd U o U' L ({ frames := 0, cells := 0, slots := 0, locals := 0 } : Room).cells ({ frames := 0, cells := 0, slots := 0, locals := 0 } : Room).slots) := by
  refine MetFree.of_bodySF (plainFor_of_name pn_4) hisR ?_
  intro pr_ en_ st_ me_ args below meth_ co_ s₁ Bd hml0 hP hK
  obtain ⟨rfl, hZ, hh⟩ := hP
  have hx := Bd.exec
  have hby := Bd.bytes
  have hml : co_.maxLocals = 1 := hml0
  have hown : st_.vm.findClass "com/example/hits_in_context/hitsincontext/model/TermPattern" = some me_.cls := findClass_of_methodNamed Bd.named
  have hnm := (name_of_methodNamed Bd.named Bd.method).1
  have X0 : Stand pr_ l en_ ({ frames := 0, cells := 0, slots := 0, locals := 0 } : Room) st_ me_ #[(.int n)] below meth_ co_ s₁ [] 0 0 := Stand.of_body Bd
  have e0 : s₁.heap = h0 := by rw [← hh, Bd.state]; rfl
  have N0 := Fr.nil n0
  have K0 := Keep.refl h0 []
  obtain ⟨G, gv, gf, gb⟩ := own_G pr_.tables en_ below st_ (Q_isw Z n h0 n0) ({ frames := 0, cells := 0, slots := 0, locals := 0 } : Room).cells ({ frames := 0, cells := 0, slots := 0, locals := 0 } : Room).slots
  show own_Fin pr_.tables en_ below st_ (Q_isw Z n h0 n0) ({ frames := 0, cells := 0, slots := 0, locals := 0 } : Room).cells ({ frames := 0, cells := 0, slots := 0, locals := 0 } : Room).slots (s₁.setTop (entryFrame me_ #[(.int n)] 1))
  refine gb _ (gv (fun tQ kQ => castTop (ef_0 me_ n) kQ) ?_)
  show G (s₁.setTop (mkF me_ 0 #[.val (.int n)] []))
  refine gv (fun tQ kQ => XS.iloadN X0.here hx rfl (hb hby d1_0) rfl kQ) ?_
  show G (s₁.setTop (mkF me_ 1 #[.val (.int n)] [(.int n)]))
  refine gv (fun tQ kQ => XS.bipush X0.here hx rfl (hb hby d1_1) kQ) ?_
  show G (s₁.setTop (mkF me_ 3 #[.val (.int n)] [(.int (63 : Int32)), (.int n)]))
  by_cases hc257 : n = (63 : Int32)
  · refine gv (fun tQ kQ => XS.icmpYes X0.here hx rfl (pc0 := 3) (pc' := 12) rfl (hb hby d1_3) rfl (teq hc257).1 (by decide) (by decide) kQ) ?_
    show G (s₁.setTop (mkF me_ 12 #[.val (.int n)] []))
    refine gv (fun tQ kQ => XS.iconst X0.here hx rfl (hb hby d1_12) kQ) ?_
    show G (s₁.setTop (mkF me_ 13 #[.val (.int n)] [(.int (1 : Int32))]))
    refine gv (fun tQ kQ => XS.goto X0.here hx rfl (pc0 := 13) (pc' := 17) rfl (hb hby d1_13) (by decide) (by decide) kQ) ?_
    show G (s₁.setTop (mkF me_ 17 #[.val (.int n)] [(.int (1 : Int32))]))
    refine gf _ (own_ret X0 Bd.notSynchronized (v := some (.int (1 : Int32))) (fun h => by rw [Bd.returns] at h; cases h) ?_ (by decide) (by decide) (fun fs hr => retN X0 hx (t := .boolean) Bd.returns (by simp) (hb hby d1_17) hr))
    show Q_isw Z n h0 n0 _ s₁.heap _
    rw [e0]
    exact ⟨(by rw [if_pos hc257]), N0, rfl⟩
  · refine gv (fun tQ kQ => XS.icmpNo X0.here hx rfl (hb hby d1_3) rfl (feq hc257).1 kQ) ?_
    show G (s₁.setTop (mkF me_ 6 #[.val (.int n)] []))
    refine gv (fun tQ kQ => XS.iloadN X0.here hx rfl (hb hby d1_6) rfl kQ) ?_
    show G (s₁.setTop (mkF me_ 7 #[.val (.int n)] [(.int n)]))
    refine gv (fun tQ kQ => XS.bipush X0.here hx rfl (hb hby d1_7) kQ) ?_
    show G (s₁.setTop (mkF me_ 9 #[.val (.int n)] [(.int (42 : Int32)), (.int n)]))
    by_cases hc258 : n = (42 : Int32)
    · refine gv (fun tQ kQ => XS.icmpNo X0.here hx rfl (hb hby d1_9) rfl (teq hc258).2 kQ) ?_
      show G (s₁.setTop (mkF me_ 12 #[.val (.int n)] []))
      refine gv (fun tQ kQ => XS.iconst X0.here hx rfl (hb hby d1_12) kQ) ?_
      show G (s₁.setTop (mkF me_ 13 #[.val (.int n)] [(.int (1 : Int32))]))
      refine gv (fun tQ kQ => XS.goto X0.here hx rfl (pc0 := 13) (pc' := 17) rfl (hb hby d1_13) (by decide) (by decide) kQ) ?_
      show G (s₁.setTop (mkF me_ 17 #[.val (.int n)] [(.int (1 : Int32))]))
      refine gf _ (own_ret X0 Bd.notSynchronized (v := some (.int (1 : Int32))) (fun h => by rw [Bd.returns] at h; cases h) ?_ (by decide) (by decide) (fun fs hr => retN X0 hx (t := .boolean) Bd.returns (by simp) (hb hby d1_17) hr))
      show Q_isw Z n h0 n0 _ s₁.heap _
      rw [e0]
      exact ⟨(by rw [if_neg hc257, if_pos hc258]), N0, rfl⟩
    · refine gv (fun tQ kQ => XS.icmpYes X0.here hx rfl (pc0 := 9) (pc' := 16) rfl (hb hby d1_9) rfl (feq hc258).2 (by decide) (by decide) kQ) ?_
      show G (s₁.setTop (mkF me_ 16 #[.val (.int n)] []))
      refine gv (fun tQ kQ => XS.iconst X0.here hx rfl (hb hby d1_16) kQ) ?_
      show G (s₁.setTop (mkF me_ 17 #[.val (.int n)] [(.int (0 : Int32))]))
      refine gf _ (own_ret X0 Bd.notSynchronized (v := some (.int (0 : Int32))) (fun h => by rw [Bd.returns] at h; cases h) ?_ (by decide) (by decide) (fun fs hr => retN X0 hx (t := .boolean) Bd.returns (by simp) (hb hby d1_17) hr))
      show Q_isw Z n h0 n0 _ s₁.heap _
      rw [e0]
      exact ⟨(by rw [if_neg hc257, if_neg hc258]), N0, rfl⟩
theorem ef_13 (m : MethodId) (x0 : Int32)  : entryFrame m #[(.int x0)] 4 = mkF m 0 #[.val (.int x0), .unset, .unset, .unset] [] := by first | (simp [entryFrame, mkF, argsToLocals, Value.category]; done) | rfl
theorem pn_5 : plainName "com/example/hits_in_context/hitsincontext/model/TermPatternIsWildcardPinLaw" = true := by first | (simp [plainName, overriddenIn]; done) | decide +kernel
theorem d2_0 : decode method_2_code 0 = .ok (.iload_n 0, 1) := by decide +kernel
theorem d2_1 : decode method_2_code 1 = .ok (.ifCond .lt 13, 3) := by decide +kernel
theorem d2_14 : decode method_2_code 14 = .ok (.iconst 0, 1) := by decide +kernel
theorem d2_15 : decode method_2_code 15 = .ok (.istore_n 1, 1) := by decide +kernel
theorem d2_16 : decode method_2_code 16 = .ok (.iload_n 0, 1) := by decide +kernel
theorem d2_17 : decode method_2_code 17 = .ok (.i2c, 1) := by decide +kernel
theorem d2_18 : decode method_2_code 18 = .ok (.istore_n 2, 1) := by decide +kernel
theorem d2_19 : decode method_2_code 19 = .ok (.iload_n 1, 1) := by decide +kernel
theorem d2_20 : decode method_2_code 20 = .ok (.ifCond .eq 17, 3) := by decide +kernel
theorem d2_37 : decode method_2_code 37 = .ok (.iconst 0, 1) := by decide +kernel
theorem d2_38 : decode method_2_code 38 = .ok (.istore_n 3, 1) := by decide +kernel
theorem d2_39 : decode method_2_code 39 = .ok (.iload_n 0, 1) := by decide +kernel
theorem d2_40 : decode method_2_code 40 = .ok (.invokestatic 20, 3) := by decide +kernel
theorem d2_43 : decode method_2_code 43 = .ok (.iload_n 3, 1) := by decide +kernel
theorem d2_44 : decode method_2_code 44 = .ok (.if_icmp .ne 7, 3) := by decide +kernel
theorem d2_51 : decode method_2_code 51 = .ok (.iconst 0, 1) := by decide +kernel
theorem d2_52 : decode method_2_code 52 = .ok (.ireturn, 1) := by decide +kernel
theorem d2_47 : decode method_2_code 47 = .ok (.iconst 1, 1) := by decide +kernel
theorem d2_48 : decode method_2_code 48 = .ok (.goto 4, 3) := by decide +kernel
theorem d2_4 : decode method_2_code 4 = .ok (.iload_n 0, 1) := by decide +kernel
theorem d2_5 : decode method_2_code 5 = .ok (.ldc 7, 2) := by decide +kernel
theorem d2_7 : decode method_2_code 7 = .ok (.if_icmp .gt 7, 3) := by decide +kernel
theorem d2_10 : decode method_2_code 10 = .ok (.iconst 1, 1) := by decide +kernel
theorem d2_11 : decode method_2_code 11 = .ok (.goto 4, 3) := by decide +kernel
theorem d2_23 : decode method_2_code 23 = .ok (.iload_n 2, 1) := by decide +kernel
theorem d2_24 : decode method_2_code 24 = .ok (.invokestatic 8, 3) := by decide +kernel
theorem pd_16 : parseMethodDescriptor "(C)Ljava/lang/String;" = some ⟨[.char], some (.object "java/lang/String")⟩ := by decide +kernel
theorem d2_27 : decode method_2_code 27 = .ok (.invokestatic 14, 3) := by decide +kernel
theorem pd_17 : parseMethodDescriptor "(Ljava/lang/String;)Z" = some ⟨[(.object "java/lang/String")], some .boolean⟩ := by decide +kernel
theorem d2_30 : decode method_2_code 30 = .ok (.ifCond .eq 7, 3) := by decide +kernel
theorem d2_33 : decode method_2_code 33 = .ok (.iconst 1, 1) := by decide +kernel
theorem d2_34 : decode method_2_code 34 = .ok (.goto 4, 3) := by decide +kernel
def Q_agr (Z : State) (n : Int32) (cs : Int32) (fmt : Value) (h0 : Heap) (n0 : Nat) (v : Option Value) (h : Heap) (L : List Loc) : Prop := v = some (.int (1 : Int32)) ∧ Fr n0 L ∧ Keep h0 h []
set_option maxRecDepth 65536 in
set_option maxHeartbeats 40000000 in
theorem rm_agr (l : Launch) (Z : State) (a0 : Array Value) (hw : ∀ d ∈ tables_1, d.before a0 Z = true) (ws : List Jvm.Cond) (n : Int32) (cs : Int32) (fmt : Value) (h0 : Heap) (n0 : Nat) (O0 : Old Z n0 h0) (u0 : Sta Z Z.heap "java/lang/String" "COMPACT_STRINGS" "Z" (.int cs)) (u1 : ¬ (cs = (0 : Int32))) (u2 : Sta Z Z.heap "java/lang/StringUTF16" "$assertionsDisabled" "Z" (.int (1 : Int32))) (u3 : Sta Z Z.heap "java/lang/StringUTF16" "HI_BYTE_SHIFT" "I" (.int (0 : Int32))) (u4 : Sta Z Z.heap "java/lang/StringUTF16" "LO_BYTE_SHIFT" "I" (.int (8 : Int32))) (u5 : fmt.isRef = true) (u6 : Sta Z Z.heap "jdk/internal/util/Preconditions" "SIOOBE_FORMATTER" "Ljava/util/function/BiFunction;" fmt) :
    MetFree l (⟨"com/example/hits_in_context/hitsincontext/model/TermPatternIsWildcardPinLaw", "agrees", "(I)Z"⟩ : MethodName) (head1 (Jvm.Cond.code (⟨"com/example/hits_in_context/hitsincontext/model/TermPatternIsWildcardPinLaw", "agrees", "(I)Z"⟩ : MethodName) method_2_code 4 (some .boolean) :: ws) ({ frames := 8, cells := 2, slots := 6, locals := 112 } : Room)) (fun aV U => aV = #[(.int n)] ∧ Z.Warmed39 U.vm ∧ U.heap = h0) (fun _ _ _ _ _ => True) (fun _ U o U' => ∃ v L, o = .returned v ∧ Q_agr Z n cs fmt h0 n0 v U'.heap L ∧ FrameEnd U o U' L ({ frames := 8, cells := 2, slots := 6, locals := 112 } : Room).cells ({ frames := 8, cells := 2, slots := 6, locals := 112 } : Room).slots) := by
  refine MetFree.of_bodySF (plainFor_of_name pn_5) hisR ?_
  intro pr_ en_ st_ me_ args below meth_ co_ s₁ Bd hml0 hP hK
  obtain ⟨rfl, hZ, hh⟩ := hP
  have hx := Bd.exec
  have hby := Bd.bytes
  have hml : co_.maxLocals = 4 := hml0
  have hown : st_.vm.findClass "com/example/hits_in_context/hitsincontext/model/TermPatternIsWildcardPinLaw" = some me_.cls := findClass_of_methodNamed Bd.named
  have hnm := (name_of_methodNamed Bd.named Bd.method).1
  have X0 : Stand pr_ l en_ ({ frames := 8, cells := 2, slots := 6, locals := 112 } : Room) st_ me_ #[(.int n)] below meth_ co_ s₁ [] 0 0 := Stand.of_body Bd
  have e0 : s₁.heap = h0 := by rw [← hh, Bd.state]; rfl
  have N0 := Fr.nil n0
  have K0 := Keep.refl h0 []
  obtain ⟨G, gv, gf, gb⟩ := own_G pr_.tables en_ below st_ (Q_agr Z n cs fmt h0 n0) ({ frames := 8, cells := 2, slots := 6, locals := 112 } : Room).cells ({ frames := 8, cells := 2, slots := 6, locals := 112 } : Room).slots
  show own_Fin pr_.tables en_ below st_ (Q_agr Z n cs fmt h0 n0) ({ frames := 8, cells := 2, slots := 6, locals := 112 } : Room).cells ({ frames := 8, cells := 2, slots := 6, locals := 112 } : Room).slots (s₁.setTop (entryFrame me_ #[(.int n)] 4))
  refine gb _ (gv (fun tQ kQ => castTop (ef_13 me_ n) kQ) ?_)
  show G (s₁.setTop (mkF me_ 0 #[.val (.int n), .unset, .unset, .unset] []))
  refine gv (fun tQ kQ => XS.iloadN X0.here hx rfl (hb hby d2_0) rfl kQ) ?_
  show G (s₁.setTop (mkF me_ 1 #[.val (.int n), .unset, .unset, .unset] [(.int n)]))
  by_cases hc259 : n < (0 : Int32)
  · refine gv (fun tQ kQ => XS.ifYes X0.here hx rfl (pc0 := 1) (pc' := 14) rfl (hb hby d2_1) rfl ((if0 _ _).trans (tlt hc259).1) (by decide) (by decide) kQ) ?_
    show G (s₁.setTop (mkF me_ 14 #[.val (.int n), .unset, .unset, .unset] []))
    refine gv (fun tQ kQ => XS.iconst X0.here hx rfl (hb hby d2_14) kQ) ?_
    show G (s₁.setTop (mkF me_ 15 #[.val (.int n), .unset, .unset, .unset] [(.int (0 : Int32))]))
    refine gv (fun tQ kQ => XS.istoreN X0.here hx rfl (hb hby d2_15) rfl (l' := #[.val (.int n), .val (.int (0 : Int32)), .unset, .unset]) rfl kQ) ?_
    show G (s₁.setTop (mkF me_ 16 #[.val (.int n), .val (.int (0 : Int32)), .unset, .unset] []))
    refine gv (fun tQ kQ => XS.iloadN X0.here hx rfl (hb hby d2_16) rfl kQ) ?_
    show G (s₁.setTop (mkF me_ 17 #[.val (.int n), .val (.int (0 : Int32)), .unset, .unset] [(.int n)]))
    refine gv (fun tQ kQ => XS.i2c X0.here hx rfl (hb hby d2_17) rfl kQ) ?_
    show G (s₁.setTop (mkF me_ 18 #[.val (.int n), .val (.int (0 : Int32)), .unset, .unset] [(.int (n.toUInt32.toUInt16.toUInt32.toInt32))]))
    refine gv (fun tQ kQ => XS.istoreN X0.here hx rfl (hb hby d2_18) rfl (l' := #[.val (.int n), .val (.int (0 : Int32)), .val (.int (n.toUInt32.toUInt16.toUInt32.toInt32)), .unset]) rfl kQ) ?_
    show G (s₁.setTop (mkF me_ 19 #[.val (.int n), .val (.int (0 : Int32)), .val (.int (n.toUInt32.toUInt16.toUInt32.toInt32)), .unset] []))
    refine gv (fun tQ kQ => XS.iloadN X0.here hx rfl (hb hby d2_19) rfl kQ) ?_
    show G (s₁.setTop (mkF me_ 20 #[.val (.int n), .val (.int (0 : Int32)), .val (.int (n.toUInt32.toUInt16.toUInt32.toInt32)), .unset] [(.int (0 : Int32))]))
    refine gv (fun tQ kQ => XS.ifYes X0.here hx rfl (pc0 := 20) (pc' := 37) rfl (hb hby d2_20) rfl ((if0 _ _).trans (teq (by decide : (0 : Int32) = (0 : Int32))).1) (by decide) (by decide) kQ) ?_
    show G (s₁.setTop (mkF me_ 37 #[.val (.int n), .val (.int (0 : Int32)), .val (.int (n.toUInt32.toUInt16.toUInt32.toInt32)), .unset] []))
    refine gv (fun tQ kQ => XS.iconst X0.here hx rfl (hb hby d2_37) kQ) ?_
    show G (s₁.setTop (mkF me_ 38 #[.val (.int n), .val (.int (0 : Int32)), .val (.int (n.toUInt32.toUInt16.toUInt32.toInt32)), .unset] [(.int (0 : Int32))]))
    refine gv (fun tQ kQ => XS.istoreN X0.here hx rfl (hb hby d2_38) rfl (l' := #[.val (.int n), .val (.int (0 : Int32)), .val (.int (n.toUInt32.toUInt16.toUInt32.toInt32)), .val (.int (0 : Int32))]) rfl kQ) ?_
    show G (s₁.setTop (mkF me_ 39 #[.val (.int n), .val (.int (0 : Int32)), .val (.int (n.toUInt32.toUInt16.toUInt32.toInt32)), .val (.int (0 : Int32))] []))
    refine gv (fun tQ kQ => XS.iloadN X0.here hx rfl (hb hby d2_39) rfl kQ) ?_
    show G (s₁.setTop (mkF me_ 40 #[.val (.int n), .val (.int (0 : Int32)), .val (.int (n.toUInt32.toUInt16.toUInt32.toInt32)), .val (.int (0 : Int32))] [(.int n)]))
    obtain ⟨_, _, ⟨T260, L260, k260, n260⟩, -, X260, ⟨Lc260, hQ260, l260, y260, z260⟩, st260⟩ := Jvm.LawKit.callS X0 hx (y := (⟨"com/example/hits_in_context/hitsincontext/model/TermPattern", "isWildcard", "(I)Z"⟩ : MethodName)) hown (mvT hZ (hw _ (List.mem_of_getElem? (i := 0) rfl))) (mvT hZ (hw _ (List.mem_of_getElem? (i := 1) rfl))) (mvT hZ (hw _ (List.mem_of_getElem? (i := 2) rfl))) (mvT hZ (hw _ (List.mem_of_getElem? (i := 3) rfl))) (by decide) (backOf (W := 0) (rm_isw l Z a0 hw [] n h0 n0 O0 ) hZ (hw _ (List.mem_of_getElem? (i := 3) rfl)) (hw _ (List.mem_of_getElem? (i := 2) rfl)) (by decide) (by decide)) (g := (mkF me_ 40 #[.val (.int n), .val (.int (0 : Int32)), .val (.int (n.toUInt32.toUInt16.toUInt32.toInt32)), .val (.int (0 : Int32))] [(.int n)])) rfl (by rw [hml]; rfl) (argsL := [(.int n)]) (rest := []) (lenOf pd_8 rfl) rfl (by show 2 * 0 + _ ≤ _; exact Nat.le_of_eq rfl) (hb hby d2_40) (fun _ _ => ⟨rfl, e0, (by decide : 0 + 0 ≤ _), (by decide : 0 + 0 ≤ _)⟩)
    dsimp only [Pt.U, Pt.locs, Pt.cells, Pt.slots] at X260 l260 y260 z260 st260 hQ260
    subst l260 y260 z260
    obtain ⟨rfl, Nq260, eq260⟩ := hQ260
    have N261 := Fr.app N0 Nq260
    by_cases hb262 : n = (63 : Int32)
    · rw [if_pos hb262] at st260
      refine gv st260 ?_
      show G (T260.setTop (mkF me_ 43 #[.val (.int n), .val (.int (0 : Int32)), .val (.int (n.toUInt32.toUInt16.toUInt32.toInt32)), .val (.int (0 : Int32))] [(.int (1 : Int32))]))
      refine gv (fun tQ kQ => XS.iloadN X260.here hx rfl (hb hby d2_43) rfl kQ) ?_
      show G (T260.setTop (mkF me_ 44 #[.val (.int n), .val (.int (0 : Int32)), .val (.int (n.toUInt32.toUInt16.toUInt32.toInt32)), .val (.int (0 : Int32))] [(.int (0 : Int32)), (.int (1 : Int32))]))
      refine gv (fun tQ kQ => XS.icmpYes X260.here hx rfl (pc0 := 44) (pc' := 51) rfl (hb hby d2_44) rfl (feq (by decide : ¬ ((1 : Int32) = (0 : Int32)))).2 (by decide) (by decide) kQ) ?_
      show G (T260.setTop (mkF me_ 51 #[.val (.int n), .val (.int (0 : Int32)), .val (.int (n.toUInt32.toUInt16.toUInt32.toInt32)), .val (.int (0 : Int32))] []))
      refine gv (fun tQ kQ => XS.iconst X260.here hx rfl (hb hby d2_51) kQ) ?_
      show G (T260.setTop (mkF me_ 52 #[.val (.int n), .val (.int (0 : Int32)), .val (.int (n.toUInt32.toUInt16.toUInt32.toInt32)), .val (.int (0 : Int32))] [(.int (0 : Int32))]))
      (exfalso; have := rng32 n; (try simp only [Int32.lt_iff_toInt_lt, Int64.lt_iff_toInt_lt, ← Int32.toInt_inj, ← Int64.toInt_inj, (by decide : (0 : Int32).toInt = 0), (by decide : (63 : Int32).toInt = 63)] at u1); (try simp only [Int32.lt_iff_toInt_lt, Int64.lt_iff_toInt_lt, ← Int32.toInt_inj, ← Int64.toInt_inj, (by decide : (0 : Int32).toInt = 0), (by decide : (63 : Int32).toInt = 63)] at u5); (try simp only [Int32.lt_iff_toInt_lt, Int64.lt_iff_toInt_lt, ← Int32.toInt_inj, ← Int64.toInt_inj, (by decide : (0 : Int32).toInt = 0), (by decide : (63 : Int32).toInt = 63)] at hc259); (try simp only [Int32.lt_iff_toInt_lt, Int64.lt_iff_toInt_lt, ← Int32.toInt_inj, ← Int64.toInt_inj, (by decide : (0 : Int32).toInt = 0), (by decide : (63 : Int32).toInt = 63)] at hb262); have := c_i2b n; omega)
    · skip
      by_cases hb263 : n = (42 : Int32)
      · rw [if_neg hb262, if_pos hb263] at st260
        refine gv st260 ?_
        show G (T260.setTop (mkF me_ 43 #[.val (.int n), .val (.int (0 : Int32)), .val (.int (n.toUInt32.toUInt16.toUInt32.toInt32)), .val (.int (0 : Int32))] [(.int (1 : Int32))]))
        refine gv (fun tQ kQ => XS.iloadN X260.here hx rfl (hb hby d2_43) rfl kQ) ?_
        show G (T260.setTop (mkF me_ 44 #[.val (.int n), .val (.int (0 : Int32)), .val (.int (n.toUInt32.toUInt16.toUInt32.toInt32)), .val (.int (0 : Int32))] [(.int (0 : Int32)), (.int (1 : Int32))]))
        refine gv (fun tQ kQ => XS.icmpYes X260.here hx rfl (pc0 := 44) (pc' := 51) rfl (hb hby d2_44) rfl (feq (by decide : ¬ ((1 : Int32) = (0 : Int32)))).2 (by decide) (by decide) kQ) ?_
        show G (T260.setTop (mkF me_ 51 #[.val (.int n), .val (.int (0 : Int32)), .val (.int (n.toUInt32.toUInt16.toUInt32.toInt32)), .val (.int (0 : Int32))] []))
        refine gv (fun tQ kQ => XS.iconst X260.here hx rfl (hb hby d2_51) kQ) ?_
        show G (T260.setTop (mkF me_ 52 #[.val (.int n), .val (.int (0 : Int32)), .val (.int (n.toUInt32.toUInt16.toUInt32.toInt32)), .val (.int (0 : Int32))] [(.int (0 : Int32))]))
        (exfalso; have := rng32 n; (try simp only [Int32.lt_iff_toInt_lt, Int64.lt_iff_toInt_lt, ← Int32.toInt_inj, ← Int64.toInt_inj, (by decide : (0 : Int32).toInt = 0), (by decide : (42 : Int32).toInt = 42), (by decide : (63 : Int32).toInt = 63)] at u1); (try simp only [Int32.lt_iff_toInt_lt, Int64.lt_iff_toInt_lt, ← Int32.toInt_inj, ← Int64.toInt_inj, (by decide : (0 : Int32).toInt = 0), (by decide : (42 : Int32).toInt = 42), (by decide : (63 : Int32).toInt = 63)] at u5); (try simp only [Int32.lt_iff_toInt_lt, Int64.lt_iff_toInt_lt, ← Int32.toInt_inj, ← Int64.toInt_inj, (by decide : (0 : Int32).toInt = 0), (by decide : (42 : Int32).toInt = 42), (by decide : (63 : Int32).toInt = 63)] at hc259); (try simp only [Int32.lt_iff_toInt_lt, Int64.lt_iff_toInt_lt, ← Int32.toInt_inj, ← Int64.toInt_inj, (by decide : (0 : Int32).toInt = 0), (by decide : (42 : Int32).toInt = 42), (by decide : (63 : Int32).toInt = 63)] at hb262); (try simp only [Int32.lt_iff_toInt_lt, Int64.lt_iff_toInt_lt, ← Int32.toInt_inj, ← Int64.toInt_inj, (by decide : (0 : Int32).toInt = 0), (by decide : (42 : Int32).toInt = 42), (by decide : (63 : Int32).toInt = 63)] at hb263); have := c_i2b n; omega)
      · skip
        rw [if_neg hb262, if_neg hb263] at st260
        refine gv st260 ?_
        show G (T260.setTop (mkF me_ 43 #[.val (.int n), .val (.int (0 : Int32)), .val (.int (n.toUInt32.toUInt16.toUInt32.toInt32)), .val (.int (0 : Int32))] [(.int (0 : Int32))]))
        refine gv (fun tQ kQ => XS.iloadN X260.here hx rfl (hb hby d2_43) rfl kQ) ?_
        show G (T260.setTop (mkF me_ 44 #[.val (.int n), .val (.int (0 : Int32)), .val (.int (n.toUInt32.toUInt16.toUInt32.toInt32)), .val (.int (0 : Int32))] [(.int (0 : Int32)), (.int (0 : Int32))]))
        refine gv (fun tQ kQ => XS.icmpNo X260.here hx rfl (hb hby d2_44) rfl (teq (by decide : (0 : Int32) = (0 : Int32))).2 kQ) ?_
        show G (T260.setTop (mkF me_ 47 #[.val (.int n), .val (.int (0 : Int32)), .val (.int (n.toUInt32.toUInt16.toUInt32.toInt32)), .val (.int (0 : Int32))] []))
        refine gv (fun tQ kQ => XS.iconst X260.here hx rfl (hb hby d2_47) kQ) ?_
        show G (T260.setTop (mkF me_ 48 #[.val (.int n), .val (.int (0 : Int32)), .val (.int (n.toUInt32.toUInt16.toUInt32.toInt32)), .val (.int (0 : Int32))] [(.int (1 : Int32))]))
        refine gv (fun tQ kQ => XS.goto X260.here hx rfl (pc0 := 48) (pc' := 52) rfl (hb hby d2_48) (by decide) (by decide) kQ) ?_
        show G (T260.setTop (mkF me_ 52 #[.val (.int n), .val (.int (0 : Int32)), .val (.int (n.toUInt32.toUInt16.toUInt32.toInt32)), .val (.int (0 : Int32))] [(.int (1 : Int32))]))
        refine gf _ (own_ret X260 Bd.notSynchronized (v := some (.int (1 : Int32))) (fun h => by rw [Bd.returns] at h; cases h) ?_ (by decide) (by decide) (fun fs hr => retN X260 hx (t := .boolean) Bd.returns (by simp) (hb hby d2_52) hr))
        show Q_agr Z n cs fmt h0 n0 _ T260.heap _
        rw [eq260]
        exact ⟨rfl, N261, K0⟩
  · refine gv (fun tQ kQ => XS.ifNo X0.here hx rfl (hb hby d2_1) rfl ((if0 _ _).trans (flt hc259).1) kQ) ?_
    show G (s₁.setTop (mkF me_ 4 #[.val (.int n), .unset, .unset, .unset] []))
    refine gv (fun tQ kQ => XS.iloadN X0.here hx rfl (hb hby d2_4) rfl kQ) ?_
    show G (s₁.setTop (mkF me_ 5 #[.val (.int n), .unset, .unset, .unset] [(.int n)]))
    refine gv (X0.ldcInt hx hown (mvT hZ (hw _ (List.mem_of_getElem? (i := 8) rfl))) (g := (mkF me_ 5 #[.val (.int n), .unset, .unset, .unset] [(.int n)])) rfl (hb hby d2_5)) ?_
    show G (s₁.setTop (mkF me_ 7 #[.val (.int n), .unset, .unset, .unset] [(.int (65535 : Int32)), (.int n)]))
    by_cases hc264 : (65535 : Int32) < n
    · refine gv (fun tQ kQ => XS.icmpYes X0.here hx rfl (pc0 := 7) (pc' := 14) rfl (hb hby d2_7) rfl (tlt hc264).2.2.1 (by decide) (by decide) kQ) ?_
      show G (s₁.setTop (mkF me_ 14 #[.val (.int n), .unset, .unset, .unset] []))
      refine gv (fun tQ kQ => XS.iconst X0.here hx rfl (hb hby d2_14) kQ) ?_
      show G (s₁.setTop (mkF me_ 15 #[.val (.int n), .unset, .unset, .unset] [(.int (0 : Int32))]))
      refine gv (fun tQ kQ => XS.istoreN X0.here hx rfl (hb hby d2_15) rfl (l' := #[.val (.int n), .val (.int (0 : Int32)), .unset, .unset]) rfl kQ) ?_
      show G (s₁.setTop (mkF me_ 16 #[.val (.int n), .val (.int (0 : Int32)), .unset, .unset] []))
      refine gv (fun tQ kQ => XS.iloadN X0.here hx rfl (hb hby d2_16) rfl kQ) ?_
      show G (s₁.setTop (mkF me_ 17 #[.val (.int n), .val (.int (0 : Int32)), .unset, .unset] [(.int n)]))
      refine gv (fun tQ kQ => XS.i2c X0.here hx rfl (hb hby d2_17) rfl kQ) ?_
      show G (s₁.setTop (mkF me_ 18 #[.val (.int n), .val (.int (0 : Int32)), .unset, .unset] [(.int (n.toUInt32.toUInt16.toUInt32.toInt32))]))
      refine gv (fun tQ kQ => XS.istoreN X0.here hx rfl (hb hby d2_18) rfl (l' := #[.val (.int n), .val (.int (0 : Int32)), .val (.int (n.toUInt32.toUInt16.toUInt32.toInt32)), .unset]) rfl kQ) ?_
      show G (s₁.setTop (mkF me_ 19 #[.val (.int n), .val (.int (0 : Int32)), .val (.int (n.toUInt32.toUInt16.toUInt32.toInt32)), .unset] []))
      refine gv (fun tQ kQ => XS.iloadN X0.here hx rfl (hb hby d2_19) rfl kQ) ?_
      show G (s₁.setTop (mkF me_ 20 #[.val (.int n), .val (.int (0 : Int32)), .val (.int (n.toUInt32.toUInt16.toUInt32.toInt32)), .unset] [(.int (0 : Int32))]))
      refine gv (fun tQ kQ => XS.ifYes X0.here hx rfl (pc0 := 20) (pc' := 37) rfl (hb hby d2_20) rfl ((if0 _ _).trans (teq (by decide : (0 : Int32) = (0 : Int32))).1) (by decide) (by decide) kQ) ?_
      show G (s₁.setTop (mkF me_ 37 #[.val (.int n), .val (.int (0 : Int32)), .val (.int (n.toUInt32.toUInt16.toUInt32.toInt32)), .unset] []))
      refine gv (fun tQ kQ => XS.iconst X0.here hx rfl (hb hby d2_37) kQ) ?_
      show G (s₁.setTop (mkF me_ 38 #[.val (.int n), .val (.int (0 : Int32)), .val (.int (n.toUInt32.toUInt16.toUInt32.toInt32)), .unset] [(.int (0 : Int32))]))
      refine gv (fun tQ kQ => XS.istoreN X0.here hx rfl (hb hby d2_38) rfl (l' := #[.val (.int n), .val (.int (0 : Int32)), .val (.int (n.toUInt32.toUInt16.toUInt32.toInt32)), .val (.int (0 : Int32))]) rfl kQ) ?_
      show G (s₁.setTop (mkF me_ 39 #[.val (.int n), .val (.int (0 : Int32)), .val (.int (n.toUInt32.toUInt16.toUInt32.toInt32)), .val (.int (0 : Int32))] []))
      refine gv (fun tQ kQ => XS.iloadN X0.here hx rfl (hb hby d2_39) rfl kQ) ?_
      show G (s₁.setTop (mkF me_ 40 #[.val (.int n), .val (.int (0 : Int32)), .val (.int (n.toUInt32.toUInt16.toUInt32.toInt32)), .val (.int (0 : Int32))] [(.int n)]))
      obtain ⟨_, _, ⟨T265, L265, k265, n265⟩, -, X265, ⟨Lc265, hQ265, l265, y265, z265⟩, st265⟩ := Jvm.LawKit.callS X0 hx (y := (⟨"com/example/hits_in_context/hitsincontext/model/TermPattern", "isWildcard", "(I)Z"⟩ : MethodName)) hown (mvT hZ (hw _ (List.mem_of_getElem? (i := 0) rfl))) (mvT hZ (hw _ (List.mem_of_getElem? (i := 1) rfl))) (mvT hZ (hw _ (List.mem_of_getElem? (i := 2) rfl))) (mvT hZ (hw _ (List.mem_of_getElem? (i := 3) rfl))) (by decide) (backOf (W := 0) (rm_isw l Z a0 hw [] n h0 n0 O0 ) hZ (hw _ (List.mem_of_getElem? (i := 3) rfl)) (hw _ (List.mem_of_getElem? (i := 2) rfl)) (by decide) (by decide)) (g := (mkF me_ 40 #[.val (.int n), .val (.int (0 : Int32)), .val (.int (n.toUInt32.toUInt16.toUInt32.toInt32)), .val (.int (0 : Int32))] [(.int n)])) rfl (by rw [hml]; rfl) (argsL := [(.int n)]) (rest := []) (lenOf pd_8 rfl) rfl (by show 2 * 0 + _ ≤ _; exact Nat.le_of_eq rfl) (hb hby d2_40) (fun _ _ => ⟨rfl, e0, (by decide : 0 + 0 ≤ _), (by decide : 0 + 0 ≤ _)⟩)
      dsimp only [Pt.U, Pt.locs, Pt.cells, Pt.slots] at X265 l265 y265 z265 st265 hQ265
      subst l265 y265 z265
      obtain ⟨rfl, Nq265, eq265⟩ := hQ265
      have N266 := Fr.app N0 Nq265
      by_cases hb267 : n = (63 : Int32)
      · rw [if_pos hb267] at st265
        refine gv st265 ?_
        show G (T265.setTop (mkF me_ 43 #[.val (.int n), .val (.int (0 : Int32)), .val (.int (n.toUInt32.toUInt16.toUInt32.toInt32)), .val (.int (0 : Int32))] [(.int (1 : Int32))]))
        refine gv (fun tQ kQ => XS.iloadN X265.here hx rfl (hb hby d2_43) rfl kQ) ?_
        show G (T265.setTop (mkF me_ 44 #[.val (.int n), .val (.int (0 : Int32)), .val (.int (n.toUInt32.toUInt16.toUInt32.toInt32)), .val (.int (0 : Int32))] [(.int (0 : Int32)), (.int (1 : Int32))]))
        refine gv (fun tQ kQ => XS.icmpYes X265.here hx rfl (pc0 := 44) (pc' := 51) rfl (hb hby d2_44) rfl (feq (by decide : ¬ ((1 : Int32) = (0 : Int32)))).2 (by decide) (by decide) kQ) ?_
        show G (T265.setTop (mkF me_ 51 #[.val (.int n), .val (.int (0 : Int32)), .val (.int (n.toUInt32.toUInt16.toUInt32.toInt32)), .val (.int (0 : Int32))] []))
        refine gv (fun tQ kQ => XS.iconst X265.here hx rfl (hb hby d2_51) kQ) ?_
        show G (T265.setTop (mkF me_ 52 #[.val (.int n), .val (.int (0 : Int32)), .val (.int (n.toUInt32.toUInt16.toUInt32.toInt32)), .val (.int (0 : Int32))] [(.int (0 : Int32))]))
        (exfalso; have := rng32 n; (try simp only [Int32.lt_iff_toInt_lt, Int64.lt_iff_toInt_lt, ← Int32.toInt_inj, ← Int64.toInt_inj, (by decide : (0 : Int32).toInt = 0), (by decide : (63 : Int32).toInt = 63), (by decide : (65535 : Int32).toInt = 65535)] at u1); (try simp only [Int32.lt_iff_toInt_lt, Int64.lt_iff_toInt_lt, ← Int32.toInt_inj, ← Int64.toInt_inj, (by decide : (0 : Int32).toInt = 0), (by decide : (63 : Int32).toInt = 63), (by decide : (65535 : Int32).toInt = 65535)] at u5); (try simp only [Int32.lt_iff_toInt_lt, Int64.lt_iff_toInt_lt, ← Int32.toInt_inj, ← Int64.toInt_inj, (by decide : (0 : Int32).toInt = 0), (by decide : (63 : Int32).toInt = 63), (by decide : (65535 : Int32).toInt = 65535)] at hc259); (try simp only [Int32.lt_iff_toInt_lt, Int64.lt_iff_toInt_lt, ← Int32.toInt_inj, ← Int64.toInt_inj, (by decide : (0 : Int32).toInt = 0), (by decide : (63 : Int32).toInt = 63), (by decide : (65535 : Int32).toInt = 65535)] at hc264); (try simp only [Int32.lt_iff_toInt_lt, Int64.lt_iff_toInt_lt, ← Int32.toInt_inj, ← Int64.toInt_inj, (by decide : (0 : Int32).toInt = 0), (by decide : (63 : Int32).toInt = 63), (by decide : (65535 : Int32).toInt = 65535)] at hb267); have := c_i2b n; omega)
      · skip
        by_cases hb268 : n = (42 : Int32)
        · rw [if_neg hb267, if_pos hb268] at st265
          refine gv st265 ?_
          show G (T265.setTop (mkF me_ 43 #[.val (.int n), .val (.int (0 : Int32)), .val (.int (n.toUInt32.toUInt16.toUInt32.toInt32)), .val (.int (0 : Int32))] [(.int (1 : Int32))]))
          refine gv (fun tQ kQ => XS.iloadN X265.here hx rfl (hb hby d2_43) rfl kQ) ?_
          show G (T265.setTop (mkF me_ 44 #[.val (.int n), .val (.int (0 : Int32)), .val (.int (n.toUInt32.toUInt16.toUInt32.toInt32)), .val (.int (0 : Int32))] [(.int (0 : Int32)), (.int (1 : Int32))]))
          refine gv (fun tQ kQ => XS.icmpYes X265.here hx rfl (pc0 := 44) (pc' := 51) rfl (hb hby d2_44) rfl (feq (by decide : ¬ ((1 : Int32) = (0 : Int32)))).2 (by decide) (by decide) kQ) ?_
          show G (T265.setTop (mkF me_ 51 #[.val (.int n), .val (.int (0 : Int32)), .val (.int (n.toUInt32.toUInt16.toUInt32.toInt32)), .val (.int (0 : Int32))] []))
          refine gv (fun tQ kQ => XS.iconst X265.here hx rfl (hb hby d2_51) kQ) ?_
          show G (T265.setTop (mkF me_ 52 #[.val (.int n), .val (.int (0 : Int32)), .val (.int (n.toUInt32.toUInt16.toUInt32.toInt32)), .val (.int (0 : Int32))] [(.int (0 : Int32))]))
          (exfalso; have := rng32 n; (try simp only [Int32.lt_iff_toInt_lt, Int64.lt_iff_toInt_lt, ← Int32.toInt_inj, ← Int64.toInt_inj, (by decide : (0 : Int32).toInt = 0), (by decide : (42 : Int32).toInt = 42), (by decide : (63 : Int32).toInt = 63), (by decide : (65535 : Int32).toInt = 65535)] at u1); (try simp only [Int32.lt_iff_toInt_lt, Int64.lt_iff_toInt_lt, ← Int32.toInt_inj, ← Int64.toInt_inj, (by decide : (0 : Int32).toInt = 0), (by decide : (42 : Int32).toInt = 42), (by decide : (63 : Int32).toInt = 63), (by decide : (65535 : Int32).toInt = 65535)] at u5); (try simp only [Int32.lt_iff_toInt_lt, Int64.lt_iff_toInt_lt, ← Int32.toInt_inj, ← Int64.toInt_inj, (by decide : (0 : Int32).toInt = 0), (by decide : (42 : Int32).toInt = 42), (by decide : (63 : Int32).toInt = 63), (by decide : (65535 : Int32).toInt = 65535)] at hc259); (try simp only [Int32.lt_iff_toInt_lt, Int64.lt_iff_toInt_lt, ← Int32.toInt_inj, ← Int64.toInt_inj, (by decide : (0 : Int32).toInt = 0), (by decide : (42 : Int32).toInt = 42), (by decide : (63 : Int32).toInt = 63), (by decide : (65535 : Int32).toInt = 65535)] at hc264); (try simp only [Int32.lt_iff_toInt_lt, Int64.lt_iff_toInt_lt, ← Int32.toInt_inj, ← Int64.toInt_inj, (by decide : (0 : Int32).toInt = 0), (by decide : (42 : Int32).toInt = 42), (by decide : (63 : Int32).toInt = 63), (by decide : (65535 : Int32).toInt = 65535)] at hb267); (try simp only [Int32.lt_iff_toInt_lt, Int64.lt_iff_toInt_lt, ← Int32.toInt_inj, ← Int64.toInt_inj, (by decide : (0 : Int32).toInt = 0), (by decide : (42 : Int32).toInt = 42), (by decide : (63 : Int32).toInt = 63), (by decide : (65535 : Int32).toInt = 65535)] at hb268); have := c_i2b n; omega)
        · skip
          rw [if_neg hb267, if_neg hb268] at st265
          refine gv st265 ?_
          show G (T265.setTop (mkF me_ 43 #[.val (.int n), .val (.int (0 : Int32)), .val (.int (n.toUInt32.toUInt16.toUInt32.toInt32)), .val (.int (0 : Int32))] [(.int (0 : Int32))]))
          refine gv (fun tQ kQ => XS.iloadN X265.here hx rfl (hb hby d2_43) rfl kQ) ?_
          show G (T265.setTop (mkF me_ 44 #[.val (.int n), .val (.int (0 : Int32)), .val (.int (n.toUInt32.toUInt16.toUInt32.toInt32)), .val (.int (0 : Int32))] [(.int (0 : Int32)), (.int (0 : Int32))]))
          refine gv (fun tQ kQ => XS.icmpNo X265.here hx rfl (hb hby d2_44) rfl (teq (by decide : (0 : Int32) = (0 : Int32))).2 kQ) ?_
          show G (T265.setTop (mkF me_ 47 #[.val (.int n), .val (.int (0 : Int32)), .val (.int (n.toUInt32.toUInt16.toUInt32.toInt32)), .val (.int (0 : Int32))] []))
          refine gv (fun tQ kQ => XS.iconst X265.here hx rfl (hb hby d2_47) kQ) ?_
          show G (T265.setTop (mkF me_ 48 #[.val (.int n), .val (.int (0 : Int32)), .val (.int (n.toUInt32.toUInt16.toUInt32.toInt32)), .val (.int (0 : Int32))] [(.int (1 : Int32))]))
          refine gv (fun tQ kQ => XS.goto X265.here hx rfl (pc0 := 48) (pc' := 52) rfl (hb hby d2_48) (by decide) (by decide) kQ) ?_
          show G (T265.setTop (mkF me_ 52 #[.val (.int n), .val (.int (0 : Int32)), .val (.int (n.toUInt32.toUInt16.toUInt32.toInt32)), .val (.int (0 : Int32))] [(.int (1 : Int32))]))
          refine gf _ (own_ret X265 Bd.notSynchronized (v := some (.int (1 : Int32))) (fun h => by rw [Bd.returns] at h; cases h) ?_ (by decide) (by decide) (fun fs hr => retN X265 hx (t := .boolean) Bd.returns (by simp) (hb hby d2_52) hr))
          show Q_agr Z n cs fmt h0 n0 _ T265.heap _
          rw [eq265]
          exact ⟨rfl, N266, K0⟩
    · refine gv (fun tQ kQ => XS.icmpNo X0.here hx rfl (hb hby d2_7) rfl (flt hc264).2.2.1 kQ) ?_
      show G (s₁.setTop (mkF me_ 10 #[.val (.int n), .unset, .unset, .unset] []))
      refine gv (fun tQ kQ => XS.iconst X0.here hx rfl (hb hby d2_10) kQ) ?_
      show G (s₁.setTop (mkF me_ 11 #[.val (.int n), .unset, .unset, .unset] [(.int (1 : Int32))]))
      refine gv (fun tQ kQ => XS.goto X0.here hx rfl (pc0 := 11) (pc' := 15) rfl (hb hby d2_11) (by decide) (by decide) kQ) ?_
      show G (s₁.setTop (mkF me_ 15 #[.val (.int n), .unset, .unset, .unset] [(.int (1 : Int32))]))
      refine gv (fun tQ kQ => XS.istoreN X0.here hx rfl (hb hby d2_15) rfl (l' := #[.val (.int n), .val (.int (1 : Int32)), .unset, .unset]) rfl kQ) ?_
      show G (s₁.setTop (mkF me_ 16 #[.val (.int n), .val (.int (1 : Int32)), .unset, .unset] []))
      refine gv (fun tQ kQ => XS.iloadN X0.here hx rfl (hb hby d2_16) rfl kQ) ?_
      show G (s₁.setTop (mkF me_ 17 #[.val (.int n), .val (.int (1 : Int32)), .unset, .unset] [(.int n)]))
      refine gv (fun tQ kQ => XS.i2c X0.here hx rfl (hb hby d2_17) rfl kQ) ?_
      show G (s₁.setTop (mkF me_ 18 #[.val (.int n), .val (.int (1 : Int32)), .unset, .unset] [(.int (n.toUInt32.toUInt16.toUInt32.toInt32))]))
      refine gv (fun tQ kQ => XS.istoreN X0.here hx rfl (hb hby d2_18) rfl (l' := #[.val (.int n), .val (.int (1 : Int32)), .val (.int (n.toUInt32.toUInt16.toUInt32.toInt32)), .unset]) rfl kQ) ?_
      show G (s₁.setTop (mkF me_ 19 #[.val (.int n), .val (.int (1 : Int32)), .val (.int (n.toUInt32.toUInt16.toUInt32.toInt32)), .unset] []))
      refine gv (fun tQ kQ => XS.iloadN X0.here hx rfl (hb hby d2_19) rfl kQ) ?_
      show G (s₁.setTop (mkF me_ 20 #[.val (.int n), .val (.int (1 : Int32)), .val (.int (n.toUInt32.toUInt16.toUInt32.toInt32)), .unset] [(.int (1 : Int32))]))
      refine gv (fun tQ kQ => XS.ifNo X0.here hx rfl (hb hby d2_20) rfl ((if0 _ _).trans (feq (by decide : ¬ ((1 : Int32) = (0 : Int32)))).1) kQ) ?_
      show G (s₁.setTop (mkF me_ 23 #[.val (.int n), .val (.int (1 : Int32)), .val (.int (n.toUInt32.toUInt16.toUInt32.toInt32)), .unset] []))
      rw [own_c2 n hc259 hc264]
      show G (s₁.setTop (mkF me_ 23 #[.val (.int n), .val (.int (1 : Int32)), .val (.int n), .unset] []))
      by_cases hf269 : (255 : Int32) < n
      · skip
        show G (s₁.setTop (mkF me_ 23 #[.val (.int n), .val (.int (1 : Int32)), .val (.int n), .unset] []))
        refine gv (fun tQ kQ => XS.iloadN X0.here hx rfl (hb hby d2_23) rfl kQ) ?_
        show G (s₁.setTop (mkF me_ 24 #[.val (.int n), .val (.int (1 : Int32)), .val (.int n), .unset] [(.int n)]))
        obtain ⟨_, _, ⟨T270, L270, k270, n270⟩, -, X270, ⟨Lc270, hQ270, l270, y270, z270⟩, st270⟩ := Jvm.LawKit.callS X0 hx (y := (⟨"java/lang/String", "valueOf", "(C)Ljava/lang/String;"⟩ : MethodName)) hown (mvT hZ (hw _ (List.mem_of_getElem? (i := 9) rfl))) (mvT hZ (hw _ (List.mem_of_getElem? (i := 10) rfl))) (mvT hZ (hw _ (List.mem_of_getElem? (i := 11) rfl))) (mvT hZ (hw _ (List.mem_of_getElem? (i := 12) rfl))) (by decide) (backOf (W := 0) (rm_voU l Z a0 hw [] n cs h0 n0 O0 u0 u1 u2 u3 u4 hf269) hZ (hw _ (List.mem_of_getElem? (i := 12) rfl)) (hw _ (List.mem_of_getElem? (i := 11) rfl)) (by decide) (by decide)) (g := (mkF me_ 24 #[.val (.int n), .val (.int (1 : Int32)), .val (.int n), .unset] [(.int n)])) rfl (by rw [hml]; rfl) (argsL := [(.int n)]) (rest := []) (lenOf pd_16 rfl) rfl (by show 2 * 0 + _ ≤ _; exact Nat.le_of_eq rfl) (hb hby d2_24) (fun _ _ => ⟨rfl, e0, (by decide : 0 + 2 ≤ _), (by decide : 0 + 6 ≤ _)⟩)
        dsimp only [Pt.U, Pt.locs, Pt.cells, Pt.slots] at X270 l270 y270 z270 st270 hQ270
        subst l270 y270 z270
        obtain ⟨s_270, b_270, k_270, rfl, Nq270, Kq270, w270_0, w270_1, w270_2, w270_3, w270_4, w270_5, w270_6⟩ := hQ270
        have N271 := Fr.app N0 Nq270
        obtain ⟨h270, e270⟩ : ∃ z, T270.heap = z := ⟨_, rfl⟩
        rw [e270] at Kq270 w270_3 w270_4 w270_5 w270_6
        have g272 : n0 ≤ s_270 := Nat.le_trans (own_old O0) w270_0
        have z273 : h0.size ≤ s_270 := Nat.le_trans K0.1 w270_0
        have g274 : n0 ≤ b_270 := Nat.le_trans (own_old O0) w270_1
        have z275 : h0.size ≤ b_270 := Nat.le_trans K0.1 w270_1
        have O276 := O0.keep Kq270 all0
        have K277 := K0.trans Kq270 all0
        refine gv st270 ?_
        show G (T270.setTop (mkF me_ 27 #[.val (.int n), .val (.int (1 : Int32)), .val (.int n), .unset] [(.ref s_270)]))
        obtain ⟨_, _, ⟨T278, L278, k278, n278⟩, -, X278, ⟨Lc278, hQ278, l278, y278, z278⟩, st278⟩ := Jvm.LawKit.callS X270 hx (y := (⟨"com/example/hits_in_context/hitsincontext/model/TermPattern", "hasWildcard", "(Ljava/lang/String;)Z"⟩ : MethodName)) hown (mvT hZ (hw _ (List.mem_of_getElem? (i := 35) rfl))) (mvT hZ (hw _ (List.mem_of_getElem? (i := 36) rfl))) (mvT hZ (hw _ (List.mem_of_getElem? (i := 2) rfl))) (mvT hZ (hw _ (List.mem_of_getElem? (i := 37) rfl))) (by decide) (backOf (W := 0) (rm_hwU l Z a0 hw [] s_270 b_270 k_270 cs ((n >>> ((0 : Int32) &&& 31)).toInt8.toInt32) ((n >>> ((8 : Int32) &&& 31)).toInt8.toInt32) n fmt h270 n0 O276 (own_gc_put n hc259 hc264) u0 u1 u2 u3 u4 u5 u6 w270_3 w270_4 w270_5 w270_6) hZ (hw _ (List.mem_of_getElem? (i := 37) rfl)) (hw _ (List.mem_of_getElem? (i := 2) rfl)) (by decide) (by decide)) (g := (mkF me_ 27 #[.val (.int n), .val (.int (1 : Int32)), .val (.int n), .unset] [(.ref s_270)])) rfl (by rw [hml]; rfl) (argsL := [(.ref s_270)]) (rest := []) (lenOf pd_17 rfl) rfl (by show 2 * 0 + _ ≤ _; exact Nat.le_of_eq rfl) (hb hby d2_27) (fun _ _ => ⟨rfl, e270, (by decide : 2 + 0 ≤ _), (by decide : 6 + 0 ≤ _)⟩)
        dsimp only [Pt.U, Pt.locs, Pt.cells, Pt.slots] at X278 l278 y278 z278 st278 hQ278
        subst l278 y278 z278
        obtain ⟨rfl, Nq278, eq278⟩ := hQ278
        have N279 := Fr.app N271 Nq278
        by_cases hb280 : n = (63 : Int32)
        · rw [if_pos hb280] at st278
          refine gv st278 ?_
          show G (T278.setTop (mkF me_ 30 #[.val (.int n), .val (.int (1 : Int32)), .val (.int n), .unset] [(.int (1 : Int32))]))
          refine gv (fun tQ kQ => XS.ifNo X278.here hx rfl (hb hby d2_30) rfl ((if0 _ _).trans (feq (by decide : ¬ ((1 : Int32) = (0 : Int32)))).1) kQ) ?_
          show G (T278.setTop (mkF me_ 33 #[.val (.int n), .val (.int (1 : Int32)), .val (.int n), .unset] []))
          refine gv (fun tQ kQ => XS.iconst X278.here hx rfl (hb hby d2_33) kQ) ?_
          show G (T278.setTop (mkF me_ 34 #[.val (.int n), .val (.int (1 : Int32)), .val (.int n), .unset] [(.int (1 : Int32))]))
          refine gv (fun tQ kQ => XS.goto X278.here hx rfl (pc0 := 34) (pc' := 38) rfl (hb hby d2_34) (by decide) (by decide) kQ) ?_
          show G (T278.setTop (mkF me_ 38 #[.val (.int n), .val (.int (1 : Int32)), .val (.int n), .unset] [(.int (1 : Int32))]))
          refine gv (fun tQ kQ => XS.istoreN X278.here hx rfl (hb hby d2_38) rfl (l' := #[.val (.int n), .val (.int (1 : Int32)), .val (.int n), .val (.int (1 : Int32))]) rfl kQ) ?_
          show G (T278.setTop (mkF me_ 39 #[.val (.int n), .val (.int (1 : Int32)), .val (.int n), .val (.int (1 : Int32))] []))
          refine gv (fun tQ kQ => XS.iloadN X278.here hx rfl (hb hby d2_39) rfl kQ) ?_
          show G (T278.setTop (mkF me_ 40 #[.val (.int n), .val (.int (1 : Int32)), .val (.int n), .val (.int (1 : Int32))] [(.int n)]))
          obtain ⟨_, _, ⟨T281, L281, k281, n281⟩, -, X281, ⟨Lc281, hQ281, l281, y281, z281⟩, st281⟩ := Jvm.LawKit.callS X278 hx (y := (⟨"com/example/hits_in_context/hitsincontext/model/TermPattern", "isWildcard", "(I)Z"⟩ : MethodName)) hown (mvT hZ (hw _ (List.mem_of_getElem? (i := 0) rfl))) (mvT hZ (hw _ (List.mem_of_getElem? (i := 1) rfl))) (mvT hZ (hw _ (List.mem_of_getElem? (i := 2) rfl))) (mvT hZ (hw _ (List.mem_of_getElem? (i := 3) rfl))) (by decide) (backOf (W := 0) (rm_isw l Z a0 hw [] n h270 n0 O276 ) hZ (hw _ (List.mem_of_getElem? (i := 3) rfl)) (hw _ (List.mem_of_getElem? (i := 2) rfl)) (by decide) (by decide)) (g := (mkF me_ 40 #[.val (.int n), .val (.int (1 : Int32)), .val (.int n), .val (.int (1 : Int32))] [(.int n)])) rfl (by rw [hml]; rfl) (argsL := [(.int n)]) (rest := []) (lenOf pd_8 rfl) rfl (by show 2 * 0 + _ ≤ _; exact Nat.le_of_eq rfl) (hb hby d2_40) (fun _ _ => ⟨rfl, eq278, (by decide : 2 + 0 ≤ _), (by decide : 6 + 0 ≤ _)⟩)
          dsimp only [Pt.U, Pt.locs, Pt.cells, Pt.slots] at X281 l281 y281 z281 st281 hQ281
          subst l281 y281 z281
          obtain ⟨rfl, Nq281, eq281⟩ := hQ281
          have N282 := Fr.app N279 Nq281
          rw [if_pos hb280] at st281
          refine gv st281 ?_
          show G (T281.setTop (mkF me_ 43 #[.val (.int n), .val (.int (1 : Int32)), .val (.int n), .val (.int (1 : Int32))] [(.int (1 : Int32))]))
          refine gv (fun tQ kQ => XS.iloadN X281.here hx rfl (hb hby d2_43) rfl kQ) ?_
          show G (T281.setTop (mkF me_ 44 #[.val (.int n), .val (.int (1 : Int32)), .val (.int n), .val (.int (1 : Int32))] [(.int (1 : Int32)), (.int (1 : Int32))]))
          refine gv (fun tQ kQ => XS.icmpNo X281.here hx rfl (hb hby d2_44) rfl (teq (by decide : (1 : Int32) = (1 : Int32))).2 kQ) ?_
          show G (T281.setTop (mkF me_ 47 #[.val (.int n), .val (.int (1 : Int32)), .val (.int n), .val (.int (1 : Int32))] []))
          refine gv (fun tQ kQ => XS.iconst X281.here hx rfl (hb hby d2_47) kQ) ?_
          show G (T281.setTop (mkF me_ 48 #[.val (.int n), .val (.int (1 : Int32)), .val (.int n), .val (.int (1 : Int32))] [(.int (1 : Int32))]))
          refine gv (fun tQ kQ => XS.goto X281.here hx rfl (pc0 := 48) (pc' := 52) rfl (hb hby d2_48) (by decide) (by decide) kQ) ?_
          show G (T281.setTop (mkF me_ 52 #[.val (.int n), .val (.int (1 : Int32)), .val (.int n), .val (.int (1 : Int32))] [(.int (1 : Int32))]))
          refine gf _ (own_ret X281 Bd.notSynchronized (v := some (.int (1 : Int32))) (fun h => by rw [Bd.returns] at h; cases h) ?_ (by decide) (by decide) (fun fs hr => retN X281 hx (t := .boolean) Bd.returns (by simp) (hb hby d2_52) hr))
          show Q_agr Z n cs fmt h0 n0 _ T281.heap _
          rw [eq281]
          exact ⟨rfl, N282, K277⟩
        · skip
          by_cases hb283 : n = (42 : Int32)
          · rw [if_neg hb280, if_pos hb283] at st278
            refine gv st278 ?_
            show G (T278.setTop (mkF me_ 30 #[.val (.int n), .val (.int (1 : Int32)), .val (.int n), .unset] [(.int (1 : Int32))]))
            refine gv (fun tQ kQ => XS.ifNo X278.here hx rfl (hb hby d2_30) rfl ((if0 _ _).trans (feq (by decide : ¬ ((1 : Int32) = (0 : Int32)))).1) kQ) ?_
            show G (T278.setTop (mkF me_ 33 #[.val (.int n), .val (.int (1 : Int32)), .val (.int n), .unset] []))
            refine gv (fun tQ kQ => XS.iconst X278.here hx rfl (hb hby d2_33) kQ) ?_
            show G (T278.setTop (mkF me_ 34 #[.val (.int n), .val (.int (1 : Int32)), .val (.int n), .unset] [(.int (1 : Int32))]))
            refine gv (fun tQ kQ => XS.goto X278.here hx rfl (pc0 := 34) (pc' := 38) rfl (hb hby d2_34) (by decide) (by decide) kQ) ?_
            show G (T278.setTop (mkF me_ 38 #[.val (.int n), .val (.int (1 : Int32)), .val (.int n), .unset] [(.int (1 : Int32))]))
            refine gv (fun tQ kQ => XS.istoreN X278.here hx rfl (hb hby d2_38) rfl (l' := #[.val (.int n), .val (.int (1 : Int32)), .val (.int n), .val (.int (1 : Int32))]) rfl kQ) ?_
            show G (T278.setTop (mkF me_ 39 #[.val (.int n), .val (.int (1 : Int32)), .val (.int n), .val (.int (1 : Int32))] []))
            refine gv (fun tQ kQ => XS.iloadN X278.here hx rfl (hb hby d2_39) rfl kQ) ?_
            show G (T278.setTop (mkF me_ 40 #[.val (.int n), .val (.int (1 : Int32)), .val (.int n), .val (.int (1 : Int32))] [(.int n)]))
            obtain ⟨_, _, ⟨T284, L284, k284, n284⟩, -, X284, ⟨Lc284, hQ284, l284, y284, z284⟩, st284⟩ := Jvm.LawKit.callS X278 hx (y := (⟨"com/example/hits_in_context/hitsincontext/model/TermPattern", "isWildcard", "(I)Z"⟩ : MethodName)) hown (mvT hZ (hw _ (List.mem_of_getElem? (i := 0) rfl))) (mvT hZ (hw _ (List.mem_of_getElem? (i := 1) rfl))) (mvT hZ (hw _ (List.mem_of_getElem? (i := 2) rfl))) (mvT hZ (hw _ (List.mem_of_getElem? (i := 3) rfl))) (by decide) (backOf (W := 0) (rm_isw l Z a0 hw [] n h270 n0 O276 ) hZ (hw _ (List.mem_of_getElem? (i := 3) rfl)) (hw _ (List.mem_of_getElem? (i := 2) rfl)) (by decide) (by decide)) (g := (mkF me_ 40 #[.val (.int n), .val (.int (1 : Int32)), .val (.int n), .val (.int (1 : Int32))] [(.int n)])) rfl (by rw [hml]; rfl) (argsL := [(.int n)]) (rest := []) (lenOf pd_8 rfl) rfl (by show 2 * 0 + _ ≤ _; exact Nat.le_of_eq rfl) (hb hby d2_40) (fun _ _ => ⟨rfl, eq278, (by decide : 2 + 0 ≤ _), (by decide : 6 + 0 ≤ _)⟩)
            dsimp only [Pt.U, Pt.locs, Pt.cells, Pt.slots] at X284 l284 y284 z284 st284 hQ284
            subst l284 y284 z284
            obtain ⟨rfl, Nq284, eq284⟩ := hQ284
            have N285 := Fr.app N279 Nq284
            rw [if_neg hb280, if_pos hb283] at st284
            refine gv st284 ?_
            show G (T284.setTop (mkF me_ 43 #[.val (.int n), .val (.int (1 : Int32)), .val (.int n), .val (.int (1 : Int32))] [(.int (1 : Int32))]))
            refine gv (fun tQ kQ => XS.iloadN X284.here hx rfl (hb hby d2_43) rfl kQ) ?_
            show G (T284.setTop (mkF me_ 44 #[.val (.int n), .val (.int (1 : Int32)), .val (.int n), .val (.int (1 : Int32))] [(.int (1 : Int32)), (.int (1 : Int32))]))
            refine gv (fun tQ kQ => XS.icmpNo X284.here hx rfl (hb hby d2_44) rfl (teq (by decide : (1 : Int32) = (1 : Int32))).2 kQ) ?_
            show G (T284.setTop (mkF me_ 47 #[.val (.int n), .val (.int (1 : Int32)), .val (.int n), .val (.int (1 : Int32))] []))
            refine gv (fun tQ kQ => XS.iconst X284.here hx rfl (hb hby d2_47) kQ) ?_
            show G (T284.setTop (mkF me_ 48 #[.val (.int n), .val (.int (1 : Int32)), .val (.int n), .val (.int (1 : Int32))] [(.int (1 : Int32))]))
            refine gv (fun tQ kQ => XS.goto X284.here hx rfl (pc0 := 48) (pc' := 52) rfl (hb hby d2_48) (by decide) (by decide) kQ) ?_
            show G (T284.setTop (mkF me_ 52 #[.val (.int n), .val (.int (1 : Int32)), .val (.int n), .val (.int (1 : Int32))] [(.int (1 : Int32))]))
            refine gf _ (own_ret X284 Bd.notSynchronized (v := some (.int (1 : Int32))) (fun h => by rw [Bd.returns] at h; cases h) ?_ (by decide) (by decide) (fun fs hr => retN X284 hx (t := .boolean) Bd.returns (by simp) (hb hby d2_52) hr))
            show Q_agr Z n cs fmt h0 n0 _ T284.heap _
            rw [eq284]
            exact ⟨rfl, N285, K277⟩
          · skip
            rw [if_neg hb280, if_neg hb283] at st278
            refine gv st278 ?_
            show G (T278.setTop (mkF me_ 30 #[.val (.int n), .val (.int (1 : Int32)), .val (.int n), .unset] [(.int (0 : Int32))]))
            refine gv (fun tQ kQ => XS.ifYes X278.here hx rfl (pc0 := 30) (pc' := 37) rfl (hb hby d2_30) rfl ((if0 _ _).trans (teq (by decide : (0 : Int32) = (0 : Int32))).1) (by decide) (by decide) kQ) ?_
            show G (T278.setTop (mkF me_ 37 #[.val (.int n), .val (.int (1 : Int32)), .val (.int n), .unset] []))
            refine gv (fun tQ kQ => XS.iconst X278.here hx rfl (hb hby d2_37) kQ) ?_
            show G (T278.setTop (mkF me_ 38 #[.val (.int n), .val (.int (1 : Int32)), .val (.int n), .unset] [(.int (0 : Int32))]))
            refine gv (fun tQ kQ => XS.istoreN X278.here hx rfl (hb hby d2_38) rfl (l' := #[.val (.int n), .val (.int (1 : Int32)), .val (.int n), .val (.int (0 : Int32))]) rfl kQ) ?_
            show G (T278.setTop (mkF me_ 39 #[.val (.int n), .val (.int (1 : Int32)), .val (.int n), .val (.int (0 : Int32))] []))
            refine gv (fun tQ kQ => XS.iloadN X278.here hx rfl (hb hby d2_39) rfl kQ) ?_
            show G (T278.setTop (mkF me_ 40 #[.val (.int n), .val (.int (1 : Int32)), .val (.int n), .val (.int (0 : Int32))] [(.int n)]))
            obtain ⟨_, _, ⟨T286, L286, k286, n286⟩, -, X286, ⟨Lc286, hQ286, l286, y286, z286⟩, st286⟩ := Jvm.LawKit.callS X278 hx (y := (⟨"com/example/hits_in_context/hitsincontext/model/TermPattern", "isWildcard", "(I)Z"⟩ : MethodName)) hown (mvT hZ (hw _ (List.mem_of_getElem? (i := 0) rfl))) (mvT hZ (hw _ (List.mem_of_getElem? (i := 1) rfl))) (mvT hZ (hw _ (List.mem_of_getElem? (i := 2) rfl))) (mvT hZ (hw _ (List.mem_of_getElem? (i := 3) rfl))) (by decide) (backOf (W := 0) (rm_isw l Z a0 hw [] n h270 n0 O276 ) hZ (hw _ (List.mem_of_getElem? (i := 3) rfl)) (hw _ (List.mem_of_getElem? (i := 2) rfl)) (by decide) (by decide)) (g := (mkF me_ 40 #[.val (.int n), .val (.int (1 : Int32)), .val (.int n), .val (.int (0 : Int32))] [(.int n)])) rfl (by rw [hml]; rfl) (argsL := [(.int n)]) (rest := []) (lenOf pd_8 rfl) rfl (by show 2 * 0 + _ ≤ _; exact Nat.le_of_eq rfl) (hb hby d2_40) (fun _ _ => ⟨rfl, eq278, (by decide : 2 + 0 ≤ _), (by decide : 6 + 0 ≤ _)⟩)
            dsimp only [Pt.U, Pt.locs, Pt.cells, Pt.slots] at X286 l286 y286 z286 st286 hQ286
            subst l286 y286 z286
            obtain ⟨rfl, Nq286, eq286⟩ := hQ286
            have N287 := Fr.app N279 Nq286
            rw [if_neg hb280, if_neg hb283] at st286
            refine gv st286 ?_
            show G (T286.setTop (mkF me_ 43 #[.val (.int n), .val (.int (1 : Int32)), .val (.int n), .val (.int (0 : Int32))] [(.int (0 : Int32))]))
            refine gv (fun tQ kQ => XS.iloadN X286.here hx rfl (hb hby d2_43) rfl kQ) ?_
            show G (T286.setTop (mkF me_ 44 #[.val (.int n), .val (.int (1 : Int32)), .val (.int n), .val (.int (0 : Int32))] [(.int (0 : Int32)), (.int (0 : Int32))]))
            refine gv (fun tQ kQ => XS.icmpNo X286.here hx rfl (hb hby d2_44) rfl (teq (by decide : (0 : Int32) = (0 : Int32))).2 kQ) ?_
            show G (T286.setTop (mkF me_ 47 #[.val (.int n), .val (.int (1 : Int32)), .val (.int n), .val (.int (0 : Int32))] []))
            refine gv (fun tQ kQ => XS.iconst X286.here hx rfl (hb hby d2_47) kQ) ?_
            show G (T286.setTop (mkF me_ 48 #[.val (.int n), .val (.int (1 : Int32)), .val (.int n), .val (.int (0 : Int32))] [(.int (1 : Int32))]))
            refine gv (fun tQ kQ => XS.goto X286.here hx rfl (pc0 := 48) (pc' := 52) rfl (hb hby d2_48) (by decide) (by decide) kQ) ?_
            show G (T286.setTop (mkF me_ 52 #[.val (.int n), .val (.int (1 : Int32)), .val (.int n), .val (.int (0 : Int32))] [(.int (1 : Int32))]))
            refine gf _ (own_ret X286 Bd.notSynchronized (v := some (.int (1 : Int32))) (fun h => by rw [Bd.returns] at h; cases h) ?_ (by decide) (by decide) (fun fs hr => retN X286 hx (t := .boolean) Bd.returns (by simp) (hb hby d2_52) hr))
            show Q_agr Z n cs fmt h0 n0 _ T286.heap _
            rw [eq286]
            exact ⟨rfl, N287, K277⟩
      · skip
        show G (s₁.setTop (mkF me_ 23 #[.val (.int n), .val (.int (1 : Int32)), .val (.int n), .unset] []))
        refine gv (fun tQ kQ => XS.iloadN X0.here hx rfl (hb hby d2_23) rfl kQ) ?_
        show G (s₁.setTop (mkF me_ 24 #[.val (.int n), .val (.int (1 : Int32)), .val (.int n), .unset] [(.int n)]))
        obtain ⟨_, _, ⟨T288, L288, k288, n288⟩, -, X288, ⟨Lc288, hQ288, l288, y288, z288⟩, st288⟩ := Jvm.LawKit.callS X0 hx (y := (⟨"java/lang/String", "valueOf", "(C)Ljava/lang/String;"⟩ : MethodName)) hown (mvT hZ (hw _ (List.mem_of_getElem? (i := 9) rfl))) (mvT hZ (hw _ (List.mem_of_getElem? (i := 10) rfl))) (mvT hZ (hw _ (List.mem_of_getElem? (i := 11) rfl))) (mvT hZ (hw _ (List.mem_of_getElem? (i := 12) rfl))) (by decide) (backOf (W := 0) (rm_voL l Z a0 hw [] n cs h0 n0 O0 u0 u1 hf269) hZ (hw _ (List.mem_of_getElem? (i := 12) rfl)) (hw _ (List.mem_of_getElem? (i := 11) rfl)) (by decide) (by decide)) (g := (mkF me_ 24 #[.val (.int n), .val (.int (1 : Int32)), .val (.int n), .unset] [(.int n)])) rfl (by rw [hml]; rfl) (argsL := [(.int n)]) (rest := []) (lenOf pd_16 rfl) rfl (by show 2 * 0 + _ ≤ _; exact Nat.le_of_eq rfl) (hb hby d2_24) (fun _ _ => ⟨rfl, e0, (by decide : 0 + 2 ≤ _), (by decide : 0 + 5 ≤ _)⟩)
        dsimp only [Pt.U, Pt.locs, Pt.cells, Pt.slots] at X288 l288 y288 z288 st288 hQ288
        subst l288 y288 z288
        obtain ⟨s_288, b_288, k_288, rfl, Nq288, Kq288, w288_0, w288_1, w288_2, w288_3, w288_4, w288_5, w288_6⟩ := hQ288
        have N289 := Fr.app N0 Nq288
        obtain ⟨h288, e288⟩ : ∃ z, T288.heap = z := ⟨_, rfl⟩
        rw [e288] at Kq288 w288_3 w288_4 w288_5 w288_6
        have g290 : n0 ≤ s_288 := Nat.le_trans (own_old O0) w288_0
        have z291 : h0.size ≤ s_288 := Nat.le_trans K0.1 w288_0
        have g292 : n0 ≤ b_288 := Nat.le_trans (own_old O0) w288_1
        have z293 : h0.size ≤ b_288 := Nat.le_trans K0.1 w288_1
        have O294 := O0.keep Kq288 all0
        have K295 := K0.trans Kq288 all0
        refine gv st288 ?_
        show G (T288.setTop (mkF me_ 27 #[.val (.int n), .val (.int (1 : Int32)), .val (.int n), .unset] [(.ref s_288)]))
        obtain ⟨_, _, ⟨T296, L296, k296, n296⟩, -, X296, ⟨Lc296, hQ296, l296, y296, z296⟩, st296⟩ := Jvm.LawKit.callS X288 hx (y := (⟨"com/example/hits_in_context/hitsincontext/model/TermPattern", "hasWildcard", "(Ljava/lang/String;)Z"⟩ : MethodName)) hown (mvT hZ (hw _ (List.mem_of_getElem? (i := 35) rfl))) (mvT hZ (hw _ (List.mem_of_getElem? (i := 36) rfl))) (mvT hZ (hw _ (List.mem_of_getElem? (i := 2) rfl))) (mvT hZ (hw _ (List.mem_of_getElem? (i := 37) rfl))) (by decide) (backOf (W := 0) (rm_hwL l Z a0 hw [] s_288 b_288 k_288 cs (n.toInt8.toInt32) h288 n0 O294 u0 u1 w288_3 w288_4 w288_5 w288_6) hZ (hw _ (List.mem_of_getElem? (i := 37) rfl)) (hw _ (List.mem_of_getElem? (i := 2) rfl)) (by decide) (by decide)) (g := (mkF me_ 27 #[.val (.int n), .val (.int (1 : Int32)), .val (.int n), .unset] [(.ref s_288)])) rfl (by rw [hml]; rfl) (argsL := [(.ref s_288)]) (rest := []) (lenOf pd_17 rfl) rfl (by show 2 * 0 + _ ≤ _; exact Nat.le_of_eq rfl) (hb hby d2_27) (fun _ _ => ⟨rfl, e288, (by decide : 2 + 0 ≤ _), (by decide : 5 + 0 ≤ _)⟩)
        dsimp only [Pt.U, Pt.locs, Pt.cells, Pt.slots] at X296 l296 y296 z296 st296 hQ296
        subst l296 y296 z296
        obtain ⟨rfl, Nq296, eq296⟩ := hQ296
        have N297 := Fr.app N289 Nq296
        by_cases hb298 : (n.toInt8.toInt32) = (63 : Int32)
        · rw [if_pos hb298] at st296
          refine gv st296 ?_
          show G (T296.setTop (mkF me_ 30 #[.val (.int n), .val (.int (1 : Int32)), .val (.int n), .unset] [(.int (1 : Int32))]))
          refine gv (fun tQ kQ => XS.ifNo X296.here hx rfl (hb hby d2_30) rfl ((if0 _ _).trans (feq (by decide : ¬ ((1 : Int32) = (0 : Int32)))).1) kQ) ?_
          show G (T296.setTop (mkF me_ 33 #[.val (.int n), .val (.int (1 : Int32)), .val (.int n), .unset] []))
          refine gv (fun tQ kQ => XS.iconst X296.here hx rfl (hb hby d2_33) kQ) ?_
          show G (T296.setTop (mkF me_ 34 #[.val (.int n), .val (.int (1 : Int32)), .val (.int n), .unset] [(.int (1 : Int32))]))
          refine gv (fun tQ kQ => XS.goto X296.here hx rfl (pc0 := 34) (pc' := 38) rfl (hb hby d2_34) (by decide) (by decide) kQ) ?_
          show G (T296.setTop (mkF me_ 38 #[.val (.int n), .val (.int (1 : Int32)), .val (.int n), .unset] [(.int (1 : Int32))]))
          refine gv (fun tQ kQ => XS.istoreN X296.here hx rfl (hb hby d2_38) rfl (l' := #[.val (.int n), .val (.int (1 : Int32)), .val (.int n), .val (.int (1 : Int32))]) rfl kQ) ?_
          show G (T296.setTop (mkF me_ 39 #[.val (.int n), .val (.int (1 : Int32)), .val (.int n), .val (.int (1 : Int32))] []))
          refine gv (fun tQ kQ => XS.iloadN X296.here hx rfl (hb hby d2_39) rfl kQ) ?_
          show G (T296.setTop (mkF me_ 40 #[.val (.int n), .val (.int (1 : Int32)), .val (.int n), .val (.int (1 : Int32))] [(.int n)]))
          obtain ⟨_, _, ⟨T299, L299, k299, n299⟩, -, X299, ⟨Lc299, hQ299, l299, y299, z299⟩, st299⟩ := Jvm.LawKit.callS X296 hx (y := (⟨"com/example/hits_in_context/hitsincontext/model/TermPattern", "isWildcard", "(I)Z"⟩ : MethodName)) hown (mvT hZ (hw _ (List.mem_of_getElem? (i := 0) rfl))) (mvT hZ (hw _ (List.mem_of_getElem? (i := 1) rfl))) (mvT hZ (hw _ (List.mem_of_getElem? (i := 2) rfl))) (mvT hZ (hw _ (List.mem_of_getElem? (i := 3) rfl))) (by decide) (backOf (W := 0) (rm_isw l Z a0 hw [] n h288 n0 O294 ) hZ (hw _ (List.mem_of_getElem? (i := 3) rfl)) (hw _ (List.mem_of_getElem? (i := 2) rfl)) (by decide) (by decide)) (g := (mkF me_ 40 #[.val (.int n), .val (.int (1 : Int32)), .val (.int n), .val (.int (1 : Int32))] [(.int n)])) rfl (by rw [hml]; rfl) (argsL := [(.int n)]) (rest := []) (lenOf pd_8 rfl) rfl (by show 2 * 0 + _ ≤ _; exact Nat.le_of_eq rfl) (hb hby d2_40) (fun _ _ => ⟨rfl, eq296, (by decide : 2 + 0 ≤ _), (by decide : 5 + 0 ≤ _)⟩)
          dsimp only [Pt.U, Pt.locs, Pt.cells, Pt.slots] at X299 l299 y299 z299 st299 hQ299
          subst l299 y299 z299
          obtain ⟨rfl, Nq299, eq299⟩ := hQ299
          have N300 := Fr.app N297 Nq299
          by_cases hb301 : n = (63 : Int32)
          · rw [if_pos hb301] at st299
            refine gv st299 ?_
            show G (T299.setTop (mkF me_ 43 #[.val (.int n), .val (.int (1 : Int32)), .val (.int n), .val (.int (1 : Int32))] [(.int (1 : Int32))]))
            refine gv (fun tQ kQ => XS.iloadN X299.here hx rfl (hb hby d2_43) rfl kQ) ?_
            show G (T299.setTop (mkF me_ 44 #[.val (.int n), .val (.int (1 : Int32)), .val (.int n), .val (.int (1 : Int32))] [(.int (1 : Int32)), (.int (1 : Int32))]))
            refine gv (fun tQ kQ => XS.icmpNo X299.here hx rfl (hb hby d2_44) rfl (teq (by decide : (1 : Int32) = (1 : Int32))).2 kQ) ?_
            show G (T299.setTop (mkF me_ 47 #[.val (.int n), .val (.int (1 : Int32)), .val (.int n), .val (.int (1 : Int32))] []))
            refine gv (fun tQ kQ => XS.iconst X299.here hx rfl (hb hby d2_47) kQ) ?_
            show G (T299.setTop (mkF me_ 48 #[.val (.int n), .val (.int (1 : Int32)), .val (.int n), .val (.int (1 : Int32))] [(.int (1 : Int32))]))
            refine gv (fun tQ kQ => XS.goto X299.here hx rfl (pc0 := 48) (pc' := 52) rfl (hb hby d2_48) (by decide) (by decide) kQ) ?_
            show G (T299.setTop (mkF me_ 52 #[.val (.int n), .val (.int (1 : Int32)), .val (.int n), .val (.int (1 : Int32))] [(.int (1 : Int32))]))
            refine gf _ (own_ret X299 Bd.notSynchronized (v := some (.int (1 : Int32))) (fun h => by rw [Bd.returns] at h; cases h) ?_ (by decide) (by decide) (fun fs hr => retN X299 hx (t := .boolean) Bd.returns (by simp) (hb hby d2_52) hr))
            show Q_agr Z n cs fmt h0 n0 _ T299.heap _
            rw [eq299]
            exact ⟨rfl, N300, K295⟩
          · skip
            by_cases hb302 : n = (42 : Int32)
            · rw [if_neg hb301, if_pos hb302] at st299
              refine gv st299 ?_
              show G (T299.setTop (mkF me_ 43 #[.val (.int n), .val (.int (1 : Int32)), .val (.int n), .val (.int (1 : Int32))] [(.int (1 : Int32))]))
              refine gv (fun tQ kQ => XS.iloadN X299.here hx rfl (hb hby d2_43) rfl kQ) ?_
              show G (T299.setTop (mkF me_ 44 #[.val (.int n), .val (.int (1 : Int32)), .val (.int n), .val (.int (1 : Int32))] [(.int (1 : Int32)), (.int (1 : Int32))]))
              refine gv (fun tQ kQ => XS.icmpNo X299.here hx rfl (hb hby d2_44) rfl (teq (by decide : (1 : Int32) = (1 : Int32))).2 kQ) ?_
              show G (T299.setTop (mkF me_ 47 #[.val (.int n), .val (.int (1 : Int32)), .val (.int n), .val (.int (1 : Int32))] []))
              refine gv (fun tQ kQ => XS.iconst X299.here hx rfl (hb hby d2_47) kQ) ?_
              show G (T299.setTop (mkF me_ 48 #[.val (.int n), .val (.int (1 : Int32)), .val (.int n), .val (.int (1 : Int32))] [(.int (1 : Int32))]))
              refine gv (fun tQ kQ => XS.goto X299.here hx rfl (pc0 := 48) (pc' := 52) rfl (hb hby d2_48) (by decide) (by decide) kQ) ?_
              show G (T299.setTop (mkF me_ 52 #[.val (.int n), .val (.int (1 : Int32)), .val (.int n), .val (.int (1 : Int32))] [(.int (1 : Int32))]))
              refine gf _ (own_ret X299 Bd.notSynchronized (v := some (.int (1 : Int32))) (fun h => by rw [Bd.returns] at h; cases h) ?_ (by decide) (by decide) (fun fs hr => retN X299 hx (t := .boolean) Bd.returns (by simp) (hb hby d2_52) hr))
              show Q_agr Z n cs fmt h0 n0 _ T299.heap _
              rw [eq299]
              exact ⟨rfl, N300, K295⟩
            · skip
              rw [if_neg hb301, if_neg hb302] at st299
              refine gv st299 ?_
              show G (T299.setTop (mkF me_ 43 #[.val (.int n), .val (.int (1 : Int32)), .val (.int n), .val (.int (1 : Int32))] [(.int (0 : Int32))]))
              refine gv (fun tQ kQ => XS.iloadN X299.here hx rfl (hb hby d2_43) rfl kQ) ?_
              show G (T299.setTop (mkF me_ 44 #[.val (.int n), .val (.int (1 : Int32)), .val (.int n), .val (.int (1 : Int32))] [(.int (1 : Int32)), (.int (0 : Int32))]))
              refine gv (fun tQ kQ => XS.icmpYes X299.here hx rfl (pc0 := 44) (pc' := 51) rfl (hb hby d2_44) rfl (feq (by decide : ¬ ((0 : Int32) = (1 : Int32)))).2 (by decide) (by decide) kQ) ?_
              show G (T299.setTop (mkF me_ 51 #[.val (.int n), .val (.int (1 : Int32)), .val (.int n), .val (.int (1 : Int32))] []))
              refine gv (fun tQ kQ => XS.iconst X299.here hx rfl (hb hby d2_51) kQ) ?_
              show G (T299.setTop (mkF me_ 52 #[.val (.int n), .val (.int (1 : Int32)), .val (.int n), .val (.int (1 : Int32))] [(.int (0 : Int32))]))
              (exfalso; have := rng32 n; (try simp only [Int32.lt_iff_toInt_lt, Int64.lt_iff_toInt_lt, ← Int32.toInt_inj, ← Int64.toInt_inj, (by decide : (0 : Int32).toInt = 0), (by decide : (255 : Int32).toInt = 255), (by decide : (42 : Int32).toInt = 42), (by decide : (63 : Int32).toInt = 63), (by decide : (65535 : Int32).toInt = 65535)] at u1); (try simp only [Int32.lt_iff_toInt_lt, Int64.lt_iff_toInt_lt, ← Int32.toInt_inj, ← Int64.toInt_inj, (by decide : (0 : Int32).toInt = 0), (by decide : (255 : Int32).toInt = 255), (by decide : (42 : Int32).toInt = 42), (by decide : (63 : Int32).toInt = 63), (by decide : (65535 : Int32).toInt = 65535)] at u5); (try simp only [Int32.lt_iff_toInt_lt, Int64.lt_iff_toInt_lt, ← Int32.toInt_inj, ← Int64.toInt_inj, (by decide : (0 : Int32).toInt = 0), (by decide : (255 : Int32).toInt = 255), (by decide : (42 : Int32).toInt = 42), (by decide : (63 : Int32).toInt = 63), (by decide : (65535 : Int32).toInt = 65535)] at hc259); (try simp only [Int32.lt_iff_toInt_lt, Int64.lt_iff_toInt_lt, ← Int32.toInt_inj, ← Int64.toInt_inj, (by decide : (0 : Int32).toInt = 0), (by decide : (255 : Int32).toInt = 255), (by decide : (42 : Int32).toInt = 42), (by decide : (63 : Int32).toInt = 63), (by decide : (65535 : Int32).toInt = 65535)] at hc264); (try simp only [Int32.lt_iff_toInt_lt, Int64.lt_iff_toInt_lt, ← Int32.toInt_inj, ← Int64.toInt_inj, (by decide : (0 : Int32).toInt = 0), (by decide : (255 : Int32).toInt = 255), (by decide : (42 : Int32).toInt = 42), (by decide : (63 : Int32).toInt = 63), (by decide : (65535 : Int32).toInt = 65535)] at hf269); (try simp only [Int32.lt_iff_toInt_lt, Int64.lt_iff_toInt_lt, ← Int32.toInt_inj, ← Int64.toInt_inj, (by decide : (0 : Int32).toInt = 0), (by decide : (255 : Int32).toInt = 255), (by decide : (42 : Int32).toInt = 42), (by decide : (63 : Int32).toInt = 63), (by decide : (65535 : Int32).toInt = 65535)] at hb298); (try simp only [Int32.lt_iff_toInt_lt, Int64.lt_iff_toInt_lt, ← Int32.toInt_inj, ← Int64.toInt_inj, (by decide : (0 : Int32).toInt = 0), (by decide : (255 : Int32).toInt = 255), (by decide : (42 : Int32).toInt = 42), (by decide : (63 : Int32).toInt = 63), (by decide : (65535 : Int32).toInt = 65535)] at hb301); (try simp only [Int32.lt_iff_toInt_lt, Int64.lt_iff_toInt_lt, ← Int32.toInt_inj, ← Int64.toInt_inj, (by decide : (0 : Int32).toInt = 0), (by decide : (255 : Int32).toInt = 255), (by decide : (42 : Int32).toInt = 42), (by decide : (63 : Int32).toInt = 63), (by decide : (65535 : Int32).toInt = 65535)] at hb302); have := c_i2b n; omega)
        · skip
          by_cases hb303 : (n.toInt8.toInt32) = (42 : Int32)
          · rw [if_neg hb298, if_pos hb303] at st296
            refine gv st296 ?_
            show G (T296.setTop (mkF me_ 30 #[.val (.int n), .val (.int (1 : Int32)), .val (.int n), .unset] [(.int (1 : Int32))]))
            refine gv (fun tQ kQ => XS.ifNo X296.here hx rfl (hb hby d2_30) rfl ((if0 _ _).trans (feq (by decide : ¬ ((1 : Int32) = (0 : Int32)))).1) kQ) ?_
            show G (T296.setTop (mkF me_ 33 #[.val (.int n), .val (.int (1 : Int32)), .val (.int n), .unset] []))
            refine gv (fun tQ kQ => XS.iconst X296.here hx rfl (hb hby d2_33) kQ) ?_
            show G (T296.setTop (mkF me_ 34 #[.val (.int n), .val (.int (1 : Int32)), .val (.int n), .unset] [(.int (1 : Int32))]))
            refine gv (fun tQ kQ => XS.goto X296.here hx rfl (pc0 := 34) (pc' := 38) rfl (hb hby d2_34) (by decide) (by decide) kQ) ?_
            show G (T296.setTop (mkF me_ 38 #[.val (.int n), .val (.int (1 : Int32)), .val (.int n), .unset] [(.int (1 : Int32))]))
            refine gv (fun tQ kQ => XS.istoreN X296.here hx rfl (hb hby d2_38) rfl (l' := #[.val (.int n), .val (.int (1 : Int32)), .val (.int n), .val (.int (1 : Int32))]) rfl kQ) ?_
            show G (T296.setTop (mkF me_ 39 #[.val (.int n), .val (.int (1 : Int32)), .val (.int n), .val (.int (1 : Int32))] []))
            refine gv (fun tQ kQ => XS.iloadN X296.here hx rfl (hb hby d2_39) rfl kQ) ?_
            show G (T296.setTop (mkF me_ 40 #[.val (.int n), .val (.int (1 : Int32)), .val (.int n), .val (.int (1 : Int32))] [(.int n)]))
            obtain ⟨_, _, ⟨T304, L304, k304, n304⟩, -, X304, ⟨Lc304, hQ304, l304, y304, z304⟩, st304⟩ := Jvm.LawKit.callS X296 hx (y := (⟨"com/example/hits_in_context/hitsincontext/model/TermPattern", "isWildcard", "(I)Z"⟩ : MethodName)) hown (mvT hZ (hw _ (List.mem_of_getElem? (i := 0) rfl))) (mvT hZ (hw _ (List.mem_of_getElem? (i := 1) rfl))) (mvT hZ (hw _ (List.mem_of_getElem? (i := 2) rfl))) (mvT hZ (hw _ (List.mem_of_getElem? (i := 3) rfl))) (by decide) (backOf (W := 0) (rm_isw l Z a0 hw [] n h288 n0 O294 ) hZ (hw _ (List.mem_of_getElem? (i := 3) rfl)) (hw _ (List.mem_of_getElem? (i := 2) rfl)) (by decide) (by decide)) (g := (mkF me_ 40 #[.val (.int n), .val (.int (1 : Int32)), .val (.int n), .val (.int (1 : Int32))] [(.int n)])) rfl (by rw [hml]; rfl) (argsL := [(.int n)]) (rest := []) (lenOf pd_8 rfl) rfl (by show 2 * 0 + _ ≤ _; exact Nat.le_of_eq rfl) (hb hby d2_40) (fun _ _ => ⟨rfl, eq296, (by decide : 2 + 0 ≤ _), (by decide : 5 + 0 ≤ _)⟩)
            dsimp only [Pt.U, Pt.locs, Pt.cells, Pt.slots] at X304 l304 y304 z304 st304 hQ304
            subst l304 y304 z304
            obtain ⟨rfl, Nq304, eq304⟩ := hQ304
            have N305 := Fr.app N297 Nq304
            by_cases hb306 : n = (63 : Int32)
            · rw [if_pos hb306] at st304
              refine gv st304 ?_
              show G (T304.setTop (mkF me_ 43 #[.val (.int n), .val (.int (1 : Int32)), .val (.int n), .val (.int (1 : Int32))] [(.int (1 : Int32))]))
              refine gv (fun tQ kQ => XS.iloadN X304.here hx rfl (hb hby d2_43) rfl kQ) ?_
              show G (T304.setTop (mkF me_ 44 #[.val (.int n), .val (.int (1 : Int32)), .val (.int n), .val (.int (1 : Int32))] [(.int (1 : Int32)), (.int (1 : Int32))]))
              refine gv (fun tQ kQ => XS.icmpNo X304.here hx rfl (hb hby d2_44) rfl (teq (by decide : (1 : Int32) = (1 : Int32))).2 kQ) ?_
              show G (T304.setTop (mkF me_ 47 #[.val (.int n), .val (.int (1 : Int32)), .val (.int n), .val (.int (1 : Int32))] []))
              refine gv (fun tQ kQ => XS.iconst X304.here hx rfl (hb hby d2_47) kQ) ?_
              show G (T304.setTop (mkF me_ 48 #[.val (.int n), .val (.int (1 : Int32)), .val (.int n), .val (.int (1 : Int32))] [(.int (1 : Int32))]))
              refine gv (fun tQ kQ => XS.goto X304.here hx rfl (pc0 := 48) (pc' := 52) rfl (hb hby d2_48) (by decide) (by decide) kQ) ?_
              show G (T304.setTop (mkF me_ 52 #[.val (.int n), .val (.int (1 : Int32)), .val (.int n), .val (.int (1 : Int32))] [(.int (1 : Int32))]))
              refine gf _ (own_ret X304 Bd.notSynchronized (v := some (.int (1 : Int32))) (fun h => by rw [Bd.returns] at h; cases h) ?_ (by decide) (by decide) (fun fs hr => retN X304 hx (t := .boolean) Bd.returns (by simp) (hb hby d2_52) hr))
              show Q_agr Z n cs fmt h0 n0 _ T304.heap _
              rw [eq304]
              exact ⟨rfl, N305, K295⟩
            · skip
              by_cases hb307 : n = (42 : Int32)
              · rw [if_neg hb306, if_pos hb307] at st304
                refine gv st304 ?_
                show G (T304.setTop (mkF me_ 43 #[.val (.int n), .val (.int (1 : Int32)), .val (.int n), .val (.int (1 : Int32))] [(.int (1 : Int32))]))
                refine gv (fun tQ kQ => XS.iloadN X304.here hx rfl (hb hby d2_43) rfl kQ) ?_
                show G (T304.setTop (mkF me_ 44 #[.val (.int n), .val (.int (1 : Int32)), .val (.int n), .val (.int (1 : Int32))] [(.int (1 : Int32)), (.int (1 : Int32))]))
                refine gv (fun tQ kQ => XS.icmpNo X304.here hx rfl (hb hby d2_44) rfl (teq (by decide : (1 : Int32) = (1 : Int32))).2 kQ) ?_
                show G (T304.setTop (mkF me_ 47 #[.val (.int n), .val (.int (1 : Int32)), .val (.int n), .val (.int (1 : Int32))] []))
                refine gv (fun tQ kQ => XS.iconst X304.here hx rfl (hb hby d2_47) kQ) ?_
                show G (T304.setTop (mkF me_ 48 #[.val (.int n), .val (.int (1 : Int32)), .val (.int n), .val (.int (1 : Int32))] [(.int (1 : Int32))]))
                refine gv (fun tQ kQ => XS.goto X304.here hx rfl (pc0 := 48) (pc' := 52) rfl (hb hby d2_48) (by decide) (by decide) kQ) ?_
                show G (T304.setTop (mkF me_ 52 #[.val (.int n), .val (.int (1 : Int32)), .val (.int n), .val (.int (1 : Int32))] [(.int (1 : Int32))]))
                refine gf _ (own_ret X304 Bd.notSynchronized (v := some (.int (1 : Int32))) (fun h => by rw [Bd.returns] at h; cases h) ?_ (by decide) (by decide) (fun fs hr => retN X304 hx (t := .boolean) Bd.returns (by simp) (hb hby d2_52) hr))
                show Q_agr Z n cs fmt h0 n0 _ T304.heap _
                rw [eq304]
                exact ⟨rfl, N305, K295⟩
              · skip
                rw [if_neg hb306, if_neg hb307] at st304
                refine gv st304 ?_
                show G (T304.setTop (mkF me_ 43 #[.val (.int n), .val (.int (1 : Int32)), .val (.int n), .val (.int (1 : Int32))] [(.int (0 : Int32))]))
                refine gv (fun tQ kQ => XS.iloadN X304.here hx rfl (hb hby d2_43) rfl kQ) ?_
                show G (T304.setTop (mkF me_ 44 #[.val (.int n), .val (.int (1 : Int32)), .val (.int n), .val (.int (1 : Int32))] [(.int (1 : Int32)), (.int (0 : Int32))]))
                refine gv (fun tQ kQ => XS.icmpYes X304.here hx rfl (pc0 := 44) (pc' := 51) rfl (hb hby d2_44) rfl (feq (by decide : ¬ ((0 : Int32) = (1 : Int32)))).2 (by decide) (by decide) kQ) ?_
                show G (T304.setTop (mkF me_ 51 #[.val (.int n), .val (.int (1 : Int32)), .val (.int n), .val (.int (1 : Int32))] []))
                refine gv (fun tQ kQ => XS.iconst X304.here hx rfl (hb hby d2_51) kQ) ?_
                show G (T304.setTop (mkF me_ 52 #[.val (.int n), .val (.int (1 : Int32)), .val (.int n), .val (.int (1 : Int32))] [(.int (0 : Int32))]))
                (exfalso; have := rng32 n; (try simp only [Int32.lt_iff_toInt_lt, Int64.lt_iff_toInt_lt, ← Int32.toInt_inj, ← Int64.toInt_inj, (by decide : (0 : Int32).toInt = 0), (by decide : (255 : Int32).toInt = 255), (by decide : (42 : Int32).toInt = 42), (by decide : (63 : Int32).toInt = 63), (by decide : (65535 : Int32).toInt = 65535)] at u1); (try simp only [Int32.lt_iff_toInt_lt, Int64.lt_iff_toInt_lt, ← Int32.toInt_inj, ← Int64.toInt_inj, (by decide : (0 : Int32).toInt = 0), (by decide : (255 : Int32).toInt = 255), (by decide : (42 : Int32).toInt = 42), (by decide : (63 : Int32).toInt = 63), (by decide : (65535 : Int32).toInt = 65535)] at u5); (try simp only [Int32.lt_iff_toInt_lt, Int64.lt_iff_toInt_lt, ← Int32.toInt_inj, ← Int64.toInt_inj, (by decide : (0 : Int32).toInt = 0), (by decide : (255 : Int32).toInt = 255), (by decide : (42 : Int32).toInt = 42), (by decide : (63 : Int32).toInt = 63), (by decide : (65535 : Int32).toInt = 65535)] at hc259); (try simp only [Int32.lt_iff_toInt_lt, Int64.lt_iff_toInt_lt, ← Int32.toInt_inj, ← Int64.toInt_inj, (by decide : (0 : Int32).toInt = 0), (by decide : (255 : Int32).toInt = 255), (by decide : (42 : Int32).toInt = 42), (by decide : (63 : Int32).toInt = 63), (by decide : (65535 : Int32).toInt = 65535)] at hc264); (try simp only [Int32.lt_iff_toInt_lt, Int64.lt_iff_toInt_lt, ← Int32.toInt_inj, ← Int64.toInt_inj, (by decide : (0 : Int32).toInt = 0), (by decide : (255 : Int32).toInt = 255), (by decide : (42 : Int32).toInt = 42), (by decide : (63 : Int32).toInt = 63), (by decide : (65535 : Int32).toInt = 65535)] at hf269); (try simp only [Int32.lt_iff_toInt_lt, Int64.lt_iff_toInt_lt, ← Int32.toInt_inj, ← Int64.toInt_inj, (by decide : (0 : Int32).toInt = 0), (by decide : (255 : Int32).toInt = 255), (by decide : (42 : Int32).toInt = 42), (by decide : (63 : Int32).toInt = 63), (by decide : (65535 : Int32).toInt = 65535)] at hb298); (try simp only [Int32.lt_iff_toInt_lt, Int64.lt_iff_toInt_lt, ← Int32.toInt_inj, ← Int64.toInt_inj, (by decide : (0 : Int32).toInt = 0), (by decide : (255 : Int32).toInt = 255), (by decide : (42 : Int32).toInt = 42), (by decide : (63 : Int32).toInt = 63), (by decide : (65535 : Int32).toInt = 65535)] at hb303); (try simp only [Int32.lt_iff_toInt_lt, Int64.lt_iff_toInt_lt, ← Int32.toInt_inj, ← Int64.toInt_inj, (by decide : (0 : Int32).toInt = 0), (by decide : (255 : Int32).toInt = 255), (by decide : (42 : Int32).toInt = 42), (by decide : (63 : Int32).toInt = 63), (by decide : (65535 : Int32).toInt = 65535)] at hb306); (try simp only [Int32.lt_iff_toInt_lt, Int64.lt_iff_toInt_lt, ← Int32.toInt_inj, ← Int64.toInt_inj, (by decide : (0 : Int32).toInt = 0), (by decide : (255 : Int32).toInt = 255), (by decide : (42 : Int32).toInt = 42), (by decide : (63 : Int32).toInt = 63), (by decide : (65535 : Int32).toInt = 65535)] at hb307); have := c_i2b n; omega)
          · skip
            rw [if_neg hb298, if_neg hb303] at st296
            refine gv st296 ?_
            show G (T296.setTop (mkF me_ 30 #[.val (.int n), .val (.int (1 : Int32)), .val (.int n), .unset] [(.int (0 : Int32))]))
            refine gv (fun tQ kQ => XS.ifYes X296.here hx rfl (pc0 := 30) (pc' := 37) rfl (hb hby d2_30) rfl ((if0 _ _).trans (teq (by decide : (0 : Int32) = (0 : Int32))).1) (by decide) (by decide) kQ) ?_
            show G (T296.setTop (mkF me_ 37 #[.val (.int n), .val (.int (1 : Int32)), .val (.int n), .unset] []))
            refine gv (fun tQ kQ => XS.iconst X296.here hx rfl (hb hby d2_37) kQ) ?_
            show G (T296.setTop (mkF me_ 38 #[.val (.int n), .val (.int (1 : Int32)), .val (.int n), .unset] [(.int (0 : Int32))]))
            refine gv (fun tQ kQ => XS.istoreN X296.here hx rfl (hb hby d2_38) rfl (l' := #[.val (.int n), .val (.int (1 : Int32)), .val (.int n), .val (.int (0 : Int32))]) rfl kQ) ?_
            show G (T296.setTop (mkF me_ 39 #[.val (.int n), .val (.int (1 : Int32)), .val (.int n), .val (.int (0 : Int32))] []))
            refine gv (fun tQ kQ => XS.iloadN X296.here hx rfl (hb hby d2_39) rfl kQ) ?_
            show G (T296.setTop (mkF me_ 40 #[.val (.int n), .val (.int (1 : Int32)), .val (.int n), .val (.int (0 : Int32))] [(.int n)]))
            obtain ⟨_, _, ⟨T308, L308, k308, n308⟩, -, X308, ⟨Lc308, hQ308, l308, y308, z308⟩, st308⟩ := Jvm.LawKit.callS X296 hx (y := (⟨"com/example/hits_in_context/hitsincontext/model/TermPattern", "isWildcard", "(I)Z"⟩ : MethodName)) hown (mvT hZ (hw _ (List.mem_of_getElem? (i := 0) rfl))) (mvT hZ (hw _ (List.mem_of_getElem? (i := 1) rfl))) (mvT hZ (hw _ (List.mem_of_getElem? (i := 2) rfl))) (mvT hZ (hw _ (List.mem_of_getElem? (i := 3) rfl))) (by decide) (backOf (W := 0) (rm_isw l Z a0 hw [] n h288 n0 O294 ) hZ (hw _ (List.mem_of_getElem? (i := 3) rfl)) (hw _ (List.mem_of_getElem? (i := 2) rfl)) (by decide) (by decide)) (g := (mkF me_ 40 #[.val (.int n), .val (.int (1 : Int32)), .val (.int n), .val (.int (0 : Int32))] [(.int n)])) rfl (by rw [hml]; rfl) (argsL := [(.int n)]) (rest := []) (lenOf pd_8 rfl) rfl (by show 2 * 0 + _ ≤ _; exact Nat.le_of_eq rfl) (hb hby d2_40) (fun _ _ => ⟨rfl, eq296, (by decide : 2 + 0 ≤ _), (by decide : 5 + 0 ≤ _)⟩)
            dsimp only [Pt.U, Pt.locs, Pt.cells, Pt.slots] at X308 l308 y308 z308 st308 hQ308
            subst l308 y308 z308
            obtain ⟨rfl, Nq308, eq308⟩ := hQ308
            have N309 := Fr.app N297 Nq308
            by_cases hb310 : n = (63 : Int32)
            · rw [if_pos hb310] at st308
              refine gv st308 ?_
              show G (T308.setTop (mkF me_ 43 #[.val (.int n), .val (.int (1 : Int32)), .val (.int n), .val (.int (0 : Int32))] [(.int (1 : Int32))]))
              refine gv (fun tQ kQ => XS.iloadN X308.here hx rfl (hb hby d2_43) rfl kQ) ?_
              show G (T308.setTop (mkF me_ 44 #[.val (.int n), .val (.int (1 : Int32)), .val (.int n), .val (.int (0 : Int32))] [(.int (0 : Int32)), (.int (1 : Int32))]))
              refine gv (fun tQ kQ => XS.icmpYes X308.here hx rfl (pc0 := 44) (pc' := 51) rfl (hb hby d2_44) rfl (feq (by decide : ¬ ((1 : Int32) = (0 : Int32)))).2 (by decide) (by decide) kQ) ?_
              show G (T308.setTop (mkF me_ 51 #[.val (.int n), .val (.int (1 : Int32)), .val (.int n), .val (.int (0 : Int32))] []))
              refine gv (fun tQ kQ => XS.iconst X308.here hx rfl (hb hby d2_51) kQ) ?_
              show G (T308.setTop (mkF me_ 52 #[.val (.int n), .val (.int (1 : Int32)), .val (.int n), .val (.int (0 : Int32))] [(.int (0 : Int32))]))
              (exfalso; have := rng32 n; (try simp only [Int32.lt_iff_toInt_lt, Int64.lt_iff_toInt_lt, ← Int32.toInt_inj, ← Int64.toInt_inj, (by decide : (0 : Int32).toInt = 0), (by decide : (255 : Int32).toInt = 255), (by decide : (42 : Int32).toInt = 42), (by decide : (63 : Int32).toInt = 63), (by decide : (65535 : Int32).toInt = 65535)] at u1); (try simp only [Int32.lt_iff_toInt_lt, Int64.lt_iff_toInt_lt, ← Int32.toInt_inj, ← Int64.toInt_inj, (by decide : (0 : Int32).toInt = 0), (by decide : (255 : Int32).toInt = 255), (by decide : (42 : Int32).toInt = 42), (by decide : (63 : Int32).toInt = 63), (by decide : (65535 : Int32).toInt = 65535)] at u5); (try simp only [Int32.lt_iff_toInt_lt, Int64.lt_iff_toInt_lt, ← Int32.toInt_inj, ← Int64.toInt_inj, (by decide : (0 : Int32).toInt = 0), (by decide : (255 : Int32).toInt = 255), (by decide : (42 : Int32).toInt = 42), (by decide : (63 : Int32).toInt = 63), (by decide : (65535 : Int32).toInt = 65535)] at hc259); (try simp only [Int32.lt_iff_toInt_lt, Int64.lt_iff_toInt_lt, ← Int32.toInt_inj, ← Int64.toInt_inj, (by decide : (0 : Int32).toInt = 0), (by decide : (255 : Int32).toInt = 255), (by decide : (42 : Int32).toInt = 42), (by decide : (63 : Int32).toInt = 63), (by decide : (65535 : Int32).toInt = 65535)] at hc264); (try simp only [Int32.lt_iff_toInt_lt, Int64.lt_iff_toInt_lt, ← Int32.toInt_inj, ← Int64.toInt_inj, (by decide : (0 : Int32).toInt = 0), (by decide : (255 : Int32).toInt = 255), (by decide : (42 : Int32).toInt = 42), (by decide : (63 : Int32).toInt = 63), (by decide : (65535 : Int32).toInt = 65535)] at hf269); (try simp only [Int32.lt_iff_toInt_lt, Int64.lt_iff_toInt_lt, ← Int32.toInt_inj, ← Int64.toInt_inj, (by decide : (0 : Int32).toInt = 0), (by decide : (255 : Int32).toInt = 255), (by decide : (42 : Int32).toInt = 42), (by decide : (63 : Int32).toInt = 63), (by decide : (65535 : Int32).toInt = 65535)] at hb298); (try simp only [Int32.lt_iff_toInt_lt, Int64.lt_iff_toInt_lt, ← Int32.toInt_inj, ← Int64.toInt_inj, (by decide : (0 : Int32).toInt = 0), (by decide : (255 : Int32).toInt = 255), (by decide : (42 : Int32).toInt = 42), (by decide : (63 : Int32).toInt = 63), (by decide : (65535 : Int32).toInt = 65535)] at hb303); (try simp only [Int32.lt_iff_toInt_lt, Int64.lt_iff_toInt_lt, ← Int32.toInt_inj, ← Int64.toInt_inj, (by decide : (0 : Int32).toInt = 0), (by decide : (255 : Int32).toInt = 255), (by decide : (42 : Int32).toInt = 42), (by decide : (63 : Int32).toInt = 63), (by decide : (65535 : Int32).toInt = 65535)] at hb310); have := c_i2b n; omega)
            · skip
              by_cases hb311 : n = (42 : Int32)
              · rw [if_neg hb310, if_pos hb311] at st308
                refine gv st308 ?_
                show G (T308.setTop (mkF me_ 43 #[.val (.int n), .val (.int (1 : Int32)), .val (.int n), .val (.int (0 : Int32))] [(.int (1 : Int32))]))
                refine gv (fun tQ kQ => XS.iloadN X308.here hx rfl (hb hby d2_43) rfl kQ) ?_
                show G (T308.setTop (mkF me_ 44 #[.val (.int n), .val (.int (1 : Int32)), .val (.int n), .val (.int (0 : Int32))] [(.int (0 : Int32)), (.int (1 : Int32))]))
                refine gv (fun tQ kQ => XS.icmpYes X308.here hx rfl (pc0 := 44) (pc' := 51) rfl (hb hby d2_44) rfl (feq (by decide : ¬ ((1 : Int32) = (0 : Int32)))).2 (by decide) (by decide) kQ) ?_
                show G (T308.setTop (mkF me_ 51 #[.val (.int n), .val (.int (1 : Int32)), .val (.int n), .val (.int (0 : Int32))] []))
                refine gv (fun tQ kQ => XS.iconst X308.here hx rfl (hb hby d2_51) kQ) ?_
                show G (T308.setTop (mkF me_ 52 #[.val (.int n), .val (.int (1 : Int32)), .val (.int n), .val (.int (0 : Int32))] [(.int (0 : Int32))]))
                (exfalso; have := rng32 n; (try simp only [Int32.lt_iff_toInt_lt, Int64.lt_iff_toInt_lt, ← Int32.toInt_inj, ← Int64.toInt_inj, (by decide : (0 : Int32).toInt = 0), (by decide : (255 : Int32).toInt = 255), (by decide : (42 : Int32).toInt = 42), (by decide : (63 : Int32).toInt = 63), (by decide : (65535 : Int32).toInt = 65535)] at u1); (try simp only [Int32.lt_iff_toInt_lt, Int64.lt_iff_toInt_lt, ← Int32.toInt_inj, ← Int64.toInt_inj, (by decide : (0 : Int32).toInt = 0), (by decide : (255 : Int32).toInt = 255), (by decide : (42 : Int32).toInt = 42), (by decide : (63 : Int32).toInt = 63), (by decide : (65535 : Int32).toInt = 65535)] at u5); (try simp only [Int32.lt_iff_toInt_lt, Int64.lt_iff_toInt_lt, ← Int32.toInt_inj, ← Int64.toInt_inj, (by decide : (0 : Int32).toInt = 0), (by decide : (255 : Int32).toInt = 255), (by decide : (42 : Int32).toInt = 42), (by decide : (63 : Int32).toInt = 63), (by decide : (65535 : Int32).toInt = 65535)] at hc259); (try simp only [Int32.lt_iff_toInt_lt, Int64.lt_iff_toInt_lt, ← Int32.toInt_inj, ← Int64.toInt_inj, (by decide : (0 : Int32).toInt = 0), (by decide : (255 : Int32).toInt = 255), (by decide : (42 : Int32).toInt = 42), (by decide : (63 : Int32).toInt = 63), (by decide : (65535 : Int32).toInt = 65535)] at hc264); (try simp only [Int32.lt_iff_toInt_lt, Int64.lt_iff_toInt_lt, ← Int32.toInt_inj, ← Int64.toInt_inj, (by decide : (0 : Int32).toInt = 0), (by decide : (255 : Int32).toInt = 255), (by decide : (42 : Int32).toInt = 42), (by decide : (63 : Int32).toInt = 63), (by decide : (65535 : Int32).toInt = 65535)] at hf269); (try simp only [Int32.lt_iff_toInt_lt, Int64.lt_iff_toInt_lt, ← Int32.toInt_inj, ← Int64.toInt_inj, (by decide : (0 : Int32).toInt = 0), (by decide : (255 : Int32).toInt = 255), (by decide : (42 : Int32).toInt = 42), (by decide : (63 : Int32).toInt = 63), (by decide : (65535 : Int32).toInt = 65535)] at hb298); (try simp only [Int32.lt_iff_toInt_lt, Int64.lt_iff_toInt_lt, ← Int32.toInt_inj, ← Int64.toInt_inj, (by decide : (0 : Int32).toInt = 0), (by decide : (255 : Int32).toInt = 255), (by decide : (42 : Int32).toInt = 42), (by decide : (63 : Int32).toInt = 63), (by decide : (65535 : Int32).toInt = 65535)] at hb303); (try simp only [Int32.lt_iff_toInt_lt, Int64.lt_iff_toInt_lt, ← Int32.toInt_inj, ← Int64.toInt_inj, (by decide : (0 : Int32).toInt = 0), (by decide : (255 : Int32).toInt = 255), (by decide : (42 : Int32).toInt = 42), (by decide : (63 : Int32).toInt = 63), (by decide : (65535 : Int32).toInt = 65535)] at hb310); (try simp only [Int32.lt_iff_toInt_lt, Int64.lt_iff_toInt_lt, ← Int32.toInt_inj, ← Int64.toInt_inj, (by decide : (0 : Int32).toInt = 0), (by decide : (255 : Int32).toInt = 255), (by decide : (42 : Int32).toInt = 42), (by decide : (63 : Int32).toInt = 63), (by decide : (65535 : Int32).toInt = 65535)] at hb311); have := c_i2b n; omega)
              · skip
                rw [if_neg hb310, if_neg hb311] at st308
                refine gv st308 ?_
                show G (T308.setTop (mkF me_ 43 #[.val (.int n), .val (.int (1 : Int32)), .val (.int n), .val (.int (0 : Int32))] [(.int (0 : Int32))]))
                refine gv (fun tQ kQ => XS.iloadN X308.here hx rfl (hb hby d2_43) rfl kQ) ?_
                show G (T308.setTop (mkF me_ 44 #[.val (.int n), .val (.int (1 : Int32)), .val (.int n), .val (.int (0 : Int32))] [(.int (0 : Int32)), (.int (0 : Int32))]))
                refine gv (fun tQ kQ => XS.icmpNo X308.here hx rfl (hb hby d2_44) rfl (teq (by decide : (0 : Int32) = (0 : Int32))).2 kQ) ?_
                show G (T308.setTop (mkF me_ 47 #[.val (.int n), .val (.int (1 : Int32)), .val (.int n), .val (.int (0 : Int32))] []))
                refine gv (fun tQ kQ => XS.iconst X308.here hx rfl (hb hby d2_47) kQ) ?_
                show G (T308.setTop (mkF me_ 48 #[.val (.int n), .val (.int (1 : Int32)), .val (.int n), .val (.int (0 : Int32))] [(.int (1 : Int32))]))
                refine gv (fun tQ kQ => XS.goto X308.here hx rfl (pc0 := 48) (pc' := 52) rfl (hb hby d2_48) (by decide) (by decide) kQ) ?_
                show G (T308.setTop (mkF me_ 52 #[.val (.int n), .val (.int (1 : Int32)), .val (.int n), .val (.int (0 : Int32))] [(.int (1 : Int32))]))
                refine gf _ (own_ret X308 Bd.notSynchronized (v := some (.int (1 : Int32))) (fun h => by rw [Bd.returns] at h; cases h) ?_ (by decide) (by decide) (fun fs hr => retN X308 hx (t := .boolean) Bd.returns (by simp) (hb hby d2_52) hr))
                show Q_agr Z n cs fmt h0 n0 _ T308.heap _
                rw [eq308]
                exact ⟨rfl, N309, K295⟩
theorem ef_14 (m : MethodId) (x0 : Int32) (x1 : Int32)  : entryFrame m #[(.int x0), (.int x1)] maxLocals = mkF m 0 #[.val (.int x0), .val (.int x1)] [] := by first | (simp [entryFrame, mkF, argsToLocals, Value.category, maxLocals]; done) | rfl
def Q0 (Z : State) (p0 : Int32) (p1 : Int32) (cs : Int32) (fmt : Value) (h0 : Heap) (n0 : Nat) (v : Option Value) (h : Heap) (L : List Loc) : Prop := v = some (.int (1 : Int32)) ∧ Fr n0 L
set_option maxRecDepth 65536 in
set_option maxHeartbeats 40000000 in
theorem rm0 (l : Launch) (Z : State) (a0 : Array Value) (hw : ∀ d ∈ tables_1, d.before a0 Z = true) (ws : List Jvm.Cond) (p0 : Int32) (p1 : Int32) (cs : Int32) (fmt : Value) (h0 : Heap) (n0 : Nat) (O0 : Old Z n0 h0) (u0 : Sta Z Z.heap "java/lang/String" "COMPACT_STRINGS" "Z" (.int cs)) (u1 : ¬ (cs = (0 : Int32))) (u2 : Sta Z Z.heap "java/lang/StringUTF16" "$assertionsDisabled" "Z" (.int (1 : Int32))) (u3 : Sta Z Z.heap "java/lang/StringUTF16" "HI_BYTE_SHIFT" "I" (.int (0 : Int32))) (u4 : Sta Z Z.heap "java/lang/StringUTF16" "LO_BYTE_SHIFT" "I" (.int (8 : Int32))) (u5 : fmt.isRef = true) (u6 : Sta Z Z.heap "jdk/internal/util/Preconditions" "SIOOBE_FORMATTER" "Ljava/util/function/BiFunction;" fmt) :
    MetFree l x (head1 (Jvm.Cond.code x code maxLocals ret :: ws) room_1) (fun aV U => aV = #[(.int p0), (.int p1)] ∧ Z.Warmed39 U.vm ∧ U.heap = h0) (fun _ _ _ _ _ => True) (fun _ U o U' => ∃ v L, o = .returned v ∧ Q0 Z p0 p1 cs fmt h0 n0 v U'.heap L ∧ FrameEnd U o U' L room_1.cells room_1.slots) := by
  refine MetFree.of_bodySF (plainFor_of_name pn_5) hisR ?_
  intro pr_ en_ st_ me_ args below meth_ co_ s₁ Bd hml0 hP hK
  obtain ⟨rfl, hZ, hh⟩ := hP
  have hx := Bd.exec
  have hby := Bd.bytes
  have hml : co_.maxLocals = 2 := hml0
  have hown : st_.vm.findClass "com/example/hits_in_context/hitsincontext/model/TermPatternIsWildcardPinLaw" = some me_.cls := findClass_of_methodNamed Bd.named
  have hnm := (name_of_methodNamed Bd.named Bd.method).1
  have X0 : Stand pr_ l en_ room_1 st_ me_ #[(.int p0), (.int p1)] below meth_ co_ s₁ [] 0 0 := Stand.of_body Bd
  have e0 : s₁.heap = h0 := by rw [← hh, Bd.state]; rfl
  have N0 := Fr.nil n0
  have K0 := Keep.refl h0 []
  obtain ⟨G, gv, gf, gb⟩ := own_G pr_.tables en_ below st_ (Q0 Z p0 p1 cs fmt h0 n0) room_1.cells room_1.slots
  show own_Fin pr_.tables en_ below st_ (Q0 Z p0 p1 cs fmt h0 n0) room_1.cells room_1.slots (s₁.setTop (entryFrame me_ #[(.int p0), (.int p1)] maxLocals))
  refine gb _ (gv (fun tQ kQ => castTop (ef_14 me_ p0 p1) kQ) ?_)
  show G (s₁.setTop (mkF me_ 0 #[.val (.int p0), .val (.int p1)] []))
  refine gv (fun tQ kQ => XS.bipush X0.here hx rfl (hb hby at_0) kQ) ?_
  show G (s₁.setTop (mkF me_ 2 #[.val (.int p0), .val (.int p1)] [(.int (63 : Int32))]))
  obtain ⟨_, _, ⟨T312, L312, k312, n312⟩, -, X312, ⟨Lc312, hQ312, l312, y312, z312⟩, st312⟩ := Jvm.LawKit.callS X0 hx (y := (⟨"com/example/hits_in_context/hitsincontext/model/TermPattern", "isWildcard", "(I)Z"⟩ : MethodName)) hown (mvT hZ (hw _ (List.mem_of_getElem? (i := 0) rfl))) (mvT hZ (hw _ (List.mem_of_getElem? (i := 1) rfl))) (mvT hZ (hw _ (List.mem_of_getElem? (i := 2) rfl))) (mvT hZ (hw _ (List.mem_of_getElem? (i := 3) rfl))) (by decide) (backOf (W := 0) (rm_isw l Z a0 hw [] (63 : Int32) h0 n0 O0 ) hZ (hw _ (List.mem_of_getElem? (i := 3) rfl)) (hw _ (List.mem_of_getElem? (i := 2) rfl)) (by decide) (by decide)) (g := (mkF me_ 2 #[.val (.int p0), .val (.int p1)] [(.int (63 : Int32))])) rfl (by rw [hml]; rfl) (argsL := [(.int (63 : Int32))]) (rest := []) (lenOf pd_8 rfl) rfl (by show 2 * 0 + _ ≤ _; exact Nat.le_of_eq rfl) (hb hby at_2) (fun _ _ => ⟨rfl, e0, (by decide : 0 + 0 ≤ _), (by decide : 0 + 0 ≤ _)⟩)
  dsimp only [Pt.U, Pt.locs, Pt.cells, Pt.slots] at X312 l312 y312 z312 st312 hQ312
  subst l312 y312 z312
  obtain ⟨rfl, Nq312, eq312⟩ := hQ312
  have N313 := Fr.app N0 Nq312
  rw [if_pos (by decide : (63 : Int32) = (63 : Int32))] at st312
  refine gv st312 ?_
  show G (T312.setTop (mkF me_ 5 #[.val (.int p0), .val (.int p1)] [(.int (1 : Int32))]))
  refine gv (fun tQ kQ => XS.ifYes X312.here hx rfl (pc0 := 5) (pc' := 10) rfl (hb hby at_5) rfl ((if0 _ _).trans (feq (by decide : ¬ ((1 : Int32) = (0 : Int32)))).2) (by decide) (by decide) kQ) ?_
  show G (T312.setTop (mkF me_ 10 #[.val (.int p0), .val (.int p1)] []))
  refine gv (fun tQ kQ => XS.bipush X312.here hx rfl (hb hby at_10) kQ) ?_
  show G (T312.setTop (mkF me_ 12 #[.val (.int p0), .val (.int p1)] [(.int (42 : Int32))]))
  obtain ⟨_, _, ⟨T314, L314, k314, n314⟩, -, X314, ⟨Lc314, hQ314, l314, y314, z314⟩, st314⟩ := Jvm.LawKit.callS X312 hx (y := (⟨"com/example/hits_in_context/hitsincontext/model/TermPattern", "isWildcard", "(I)Z"⟩ : MethodName)) hown (mvT hZ (hw _ (List.mem_of_getElem? (i := 0) rfl))) (mvT hZ (hw _ (List.mem_of_getElem? (i := 1) rfl))) (mvT hZ (hw _ (List.mem_of_getElem? (i := 2) rfl))) (mvT hZ (hw _ (List.mem_of_getElem? (i := 3) rfl))) (by decide) (backOf (W := 0) (rm_isw l Z a0 hw [] (42 : Int32) h0 n0 O0 ) hZ (hw _ (List.mem_of_getElem? (i := 3) rfl)) (hw _ (List.mem_of_getElem? (i := 2) rfl)) (by decide) (by decide)) (g := (mkF me_ 12 #[.val (.int p0), .val (.int p1)] [(.int (42 : Int32))])) rfl (by rw [hml]; rfl) (argsL := [(.int (42 : Int32))]) (rest := []) (lenOf pd_8 rfl) rfl (by show 2 * 0 + _ ≤ _; exact Nat.le_of_eq rfl) (hb hby at_12) (fun _ _ => ⟨rfl, eq312, (by decide : 0 + 0 ≤ _), (by decide : 0 + 0 ≤ _)⟩)
  dsimp only [Pt.U, Pt.locs, Pt.cells, Pt.slots] at X314 l314 y314 z314 st314 hQ314
  subst l314 y314 z314
  obtain ⟨rfl, Nq314, eq314⟩ := hQ314
  have N315 := Fr.app N313 Nq314
  rw [if_neg (by decide : ¬ ((42 : Int32) = (63 : Int32))), if_pos (by decide : (42 : Int32) = (42 : Int32))] at st314
  refine gv st314 ?_
  show G (T314.setTop (mkF me_ 15 #[.val (.int p0), .val (.int p1)] [(.int (1 : Int32))]))
  refine gv (fun tQ kQ => XS.ifYes X314.here hx rfl (pc0 := 15) (pc' := 20) rfl (hb hby at_15) rfl ((if0 _ _).trans (feq (by decide : ¬ ((1 : Int32) = (0 : Int32)))).2) (by decide) (by decide) kQ) ?_
  show G (T314.setTop (mkF me_ 20 #[.val (.int p0), .val (.int p1)] []))
  refine gv (fun tQ kQ => XS.iloadN X314.here hx rfl (hb hby at_20) rfl kQ) ?_
  show G (T314.setTop (mkF me_ 21 #[.val (.int p0), .val (.int p1)] [(.int p0)]))
  obtain ⟨_, _, ⟨T316, L316, k316, n316⟩, -, X316, ⟨Lc316, hQ316, l316, y316, z316⟩, st316⟩ := Jvm.LawKit.callS X314 hx (y := (⟨"com/example/hits_in_context/hitsincontext/model/TermPatternIsWildcardPinLaw", "agrees", "(I)Z"⟩ : MethodName)) hown (mvT hZ (hw _ (List.mem_of_getElem? (i := 4) rfl))) (mvT hZ (hw _ (List.mem_of_getElem? (i := 5) rfl))) (mvT hZ (hw _ (List.mem_of_getElem? (i := 6) rfl))) (mvT hZ (hw _ (List.mem_of_getElem? (i := 7) rfl))) (by decide) (backOf (W := 0) (rm_agr l Z a0 hw [] p0 cs fmt h0 n0 O0 u0 u1 u2 u3 u4 u5 u6) hZ (hw _ (List.mem_of_getElem? (i := 7) rfl)) (hw _ (List.mem_of_getElem? (i := 6) rfl)) (by decide) (by decide)) (g := (mkF me_ 21 #[.val (.int p0), .val (.int p1)] [(.int p0)])) rfl (by rw [hml]; rfl) (argsL := [(.int p0)]) (rest := []) (lenOf pd_8 rfl) rfl (by show 2 * 0 + _ ≤ _; exact Nat.le_of_eq rfl) (hb hby at_21) (fun _ _ => ⟨rfl, eq314, (by decide : 0 + 2 ≤ _), (by decide : 0 + 6 ≤ _)⟩)
  dsimp only [Pt.U, Pt.locs, Pt.cells, Pt.slots] at X316 l316 y316 z316 st316 hQ316
  subst l316 y316 z316
  obtain ⟨rfl, Nq316, Kq316⟩ := hQ316
  have N317 := Fr.app N315 Nq316
  obtain ⟨h316, e316⟩ : ∃ z, T316.heap = z := ⟨_, rfl⟩
  rw [e316] at Kq316
  have O318 := O0.keep Kq316 all0
  refine gv st316 ?_
  show G (T316.setTop (mkF me_ 24 #[.val (.int p0), .val (.int p1)] [(.int (1 : Int32))]))
  refine gv (fun tQ kQ => XS.ifNo X316.here hx rfl (hb hby at_24) rfl ((if0 _ _).trans (feq (by decide : ¬ ((1 : Int32) = (0 : Int32)))).1) kQ) ?_
  show G (T316.setTop (mkF me_ 27 #[.val (.int p0), .val (.int p1)] []))
  refine gv (fun tQ kQ => XS.iloadN X316.here hx rfl (hb hby at_27) rfl kQ) ?_
  show G (T316.setTop (mkF me_ 28 #[.val (.int p0), .val (.int p1)] [(.int p1)]))
  refine gv (X316.ldcInt hx hown (mvT hZ (hw _ (List.mem_of_getElem? (i := 8) rfl))) (g := (mkF me_ 28 #[.val (.int p0), .val (.int p1)] [(.int p1)])) rfl (hb hby at_28)) ?_
  show G (T316.setTop (mkF me_ 30 #[.val (.int p0), .val (.int p1)] [(.int (65535 : Int32)), (.int p1)]))
  refine gv (fun tQ kQ => XS.iand X316.here hx rfl (hb hby at_30) rfl kQ) ?_
  show G (T316.setTop (mkF me_ 31 #[.val (.int p0), .val (.int p1)] [(.int (p1 &&& (65535 : Int32)))]))
  obtain ⟨_, _, ⟨T319, L319, k319, n319⟩, -, X319, ⟨Lc319, hQ319, l319, y319, z319⟩, st319⟩ := Jvm.LawKit.callS X316 hx (y := (⟨"com/example/hits_in_context/hitsincontext/model/TermPatternIsWildcardPinLaw", "agrees", "(I)Z"⟩ : MethodName)) hown (mvT hZ (hw _ (List.mem_of_getElem? (i := 4) rfl))) (mvT hZ (hw _ (List.mem_of_getElem? (i := 5) rfl))) (mvT hZ (hw _ (List.mem_of_getElem? (i := 6) rfl))) (mvT hZ (hw _ (List.mem_of_getElem? (i := 7) rfl))) (by decide) (backOf (W := 0) (rm_agr l Z a0 hw [] (p1 &&& (65535 : Int32)) cs fmt h316 n0 O318 u0 u1 u2 u3 u4 u5 u6) hZ (hw _ (List.mem_of_getElem? (i := 7) rfl)) (hw _ (List.mem_of_getElem? (i := 6) rfl)) (by decide) (by decide)) (g := (mkF me_ 31 #[.val (.int p0), .val (.int p1)] [(.int (p1 &&& (65535 : Int32)))])) rfl (by rw [hml]; rfl) (argsL := [(.int (p1 &&& (65535 : Int32)))]) (rest := []) (lenOf pd_8 rfl) rfl (by show 2 * 0 + _ ≤ _; exact Nat.le_of_eq rfl) (hb hby at_31) (fun _ _ => ⟨rfl, e316, (by decide : 2 + 2 ≤ _), (by decide : 6 + 6 ≤ _)⟩)
  dsimp only [Pt.U, Pt.locs, Pt.cells, Pt.slots] at X319 l319 y319 z319 st319 hQ319
  subst l319 y319 z319
  obtain ⟨rfl, Nq319, Kq319⟩ := hQ319
  have N320 := Fr.app N317 Nq319
  obtain ⟨h319, e319⟩ : ∃ z, T319.heap = z := ⟨_, rfl⟩
  rw [e319] at Kq319
  have O321 := O318.keep Kq319 all0
  refine gv st319 ?_
  show G (T319.setTop (mkF me_ 34 #[.val (.int p0), .val (.int p1)] [(.int (1 : Int32))]))
  refine gv (fun tQ kQ => XS.ifNo X319.here hx rfl (hb hby at_34) rfl ((if0 _ _).trans (feq (by decide : ¬ ((1 : Int32) = (0 : Int32)))).1) kQ) ?_
  show G (T319.setTop (mkF me_ 37 #[.val (.int p0), .val (.int p1)] []))
  refine gv (fun tQ kQ => XS.iconst X319.here hx rfl (hb hby at_37) kQ) ?_
  show G (T319.setTop (mkF me_ 38 #[.val (.int p0), .val (.int p1)] [(.int (1 : Int32))]))
  refine gv (fun tQ kQ => XS.goto X319.here hx rfl (pc0 := 38) (pc' := 42) rfl (hb hby at_38) (by decide) (by decide) kQ) ?_
  show G (T319.setTop (mkF me_ 42 #[.val (.int p0), .val (.int p1)] [(.int (1 : Int32))]))
  refine gf _ (own_ret X319 Bd.notSynchronized (v := some (.int (1 : Int32))) (fun h => by rw [Bd.returns] at h; cases h) ?_ (by decide) (by decide) (fun fs hr => retN X319 hx (t := .boolean) Bd.returns (by simp) (hb hby at_42) hr))
  show Q0 Z p0 p1 cs fmt h0 n0 _ T319.heap _
  rw [e319]
  exact ⟨rfl, N320⟩
set_option maxRecDepth 65536 in
set_option maxHeartbeats 40000000 in
theorem comes_1 {Post : Tables → Env → Array Value → State → Outcome → State → Prop} (hpost : ∀ tb e args s v u, (limb_1_1.after args s (.returned v) u = true ∧ limb_1_2.after args s (.returned v) u = true ∧ True) → FrameEnd s (.returned v) u (Jvm.fieldLocs frame_1_writes args s ++ Jvm.arrayLocs frame_1_arrays args s ++ Jvm.staticLocs frame_1_statics s) 16 128 → Post tb e args s (.returned v) u) :
    ArmFor flags0 classFile x code maxLocals ret World_1 tables_1 room_1 Calls_1 rest_1 Pre_1 Post := by
  intro l hfl _ _ p e ha hc hk s m args below hf hA hF happ hP
  obtain ⟨hcalls, hrest, hpre⟩ := hP
  obtain ⟨-, -, -, hnamed, -, -, -, hat⟩ := (Spec.applies_iff hf).mp happ
  obtain ⟨hg, hn⟩ := and_e (Cond.before_iff.mp (show (Jvm.Cond.and given_1 narrow_1).before args s = true from hpre))
  obtain ⟨g1, g2⟩ := and_e hg
  obtain ⟨g3, g4⟩ := and_e g2
  obtain ⟨w0, w1, rfl⟩ : ∃ w0 w1 : Value, args = #[w0, w1] := by
    have hs : args.size = 2 := by simpa [Cond.value, given_1] using g1
    obtain ⟨L⟩ := args
    match L, hs with
    | [w0, w1], _ => exact ⟨w0, w1, rfl⟩
  have hw := fun d (hd : d ∈ tables_1) => atoms_spec (ws := Jvm.Cond.code x code maxLocals ret :: tables_1) hat d (List.mem_cons_of_mem _ hd)
  have hfit : Fit s := fun {y c} hc i hi => by
    obtain ⟨ha, rfl⟩ := Array.getElem?_eq_some_iff.mp hc
    have q := List.all_eq_true.mp ((Array.all_eq_true_iff_forall_mem.mp hF) _ (Array.getElem_mem ha)) i (List.mem_range.mpr hi)
    simpa [Array.getElem?_eq_getElem hi] using q
  obtain ⟨hsets, hown0⟩ := atoms_of _ (rest_1_c_eq ▸ (show rest_1_c.before _ s = true from hrest))
  obtain ⟨i0, ei0⟩ := is_v g3
  obtain rfl : w0 = (.int i0) := Option.some.inj ei0
  obtain ⟨i1, ei1⟩ := is_v g4
  obtain rfl : w1 = (.int i1) := Option.some.inj ei1
  obtain ⟨cs, ev_cs⟩ := is_v (Cond.before_iff.mp (hsets _ (List.mem_of_getElem? (i := 1) rfl)))
  have S_cs : Sta s s.heap "java/lang/String" "COMPACT_STRINGS" "Z" (.int cs) := Sta.start ev_cs (Or.inl (hsets _ (List.mem_of_getElem? (i := 0) rfl)))
  have n_cs : ¬ (cs = (0 : Int32)) := own_not0 ev_cs (Cond.before_iff.mp (hsets _ (List.mem_of_getElem? (i := 2) rfl)))
  have S_ad : Sta s s.heap "java/lang/StringUTF16" "$assertionsDisabled" "Z" (.int 1) := Sta.start (eqv_i (Term.int_eval 1) (Cond.before_iff.mp (hsets _ (List.mem_of_getElem? (i := 12) rfl)))) (Or.inl (hsets _ (List.mem_of_getElem? (i := 11) rfl)))
  have S_hi : Sta s s.heap "java/lang/StringUTF16" "HI_BYTE_SHIFT" "I" (.int 0) := Sta.start (eqv_i (Term.int_eval 0) (Cond.before_iff.mp (hsets _ (List.mem_of_getElem? (i := 15) rfl)))) (Or.inl (hsets _ (List.mem_of_getElem? (i := 14) rfl)))
  have S_lo : Sta s s.heap "java/lang/StringUTF16" "LO_BYTE_SHIFT" "I" (.int 8) := Sta.start (eqv_i (Term.int_eval 8) (Cond.before_iff.mp (hsets _ (List.mem_of_getElem? (i := 18) rfl)))) (Or.inl (hsets _ (List.mem_of_getElem? (i := 17) rfl)))
  obtain ⟨fmt, ev_fm, r_fm⟩ := own_isref (Cond.before_iff.mp (hsets _ (List.mem_of_getElem? (i := 8) rfl)))
  have S_fm : Sta s s.heap "jdk/internal/util/Preconditions" "SIOOBE_FORMATTER" "Ljava/util/function/BiFunction;" fmt := Sta.start ev_fm (Or.inl (hsets _ (List.mem_of_getElem? (i := 7) rfl)))
  obtain ⟨n, o, h1, h2, h3, _, L, rfl, ⟨rfl, N⟩, hq⟩ := rm0 l s _ hw tables_1 i0 i1 cs fmt s.heap s.heap.size (Old.start s) S_cs n_cs S_ad S_hi S_lo r_fm S_fm p e ha hc hk s m _ below hf ((Spec.applies_iff_loose hf).mp happ).1 ⟨rfl, State.Warmed39.refl s, rfl⟩ trivial
  refine ⟨n, _, h1, h2, h3, hpost _ _ _ _ _ _ ⟨Cond.after_iff.mpr rfl, Cond.after_iff.mpr (eq_i res_at (Term.int_eval (1)) rfl), trivial⟩ ⟨hq.1, hq.2.1, (hq.2.2.sift fun y hy => Or.inr (N y hy)).mono (by decide) (by decide)⟩⟩
theorem main_1_1 : Claimed_1_1 := comes_1 fun _ _ _ _ _ _ h hF => ⟨h.1, hF⟩
theorem main_1_2 : Claimed_1_2 := comes_1 fun _ _ _ _ _ _ h hF => ⟨h.2.1, hF⟩
end Jvm.Pilot.@@N@@
namespace Jvm.Pilot.@@N@@
open Jvm Jvm.ClassFile Sem Op Lib Jvm.Free Jvm.Stand Jvm.Pilot.@@N@@.Jvm.D
/-! MADE BY PROGRAM (witnessworld.py) out of the Statement's table words and the real class files: 19 classes; the members and pool entries that the words name. The judged class is class 1, her method 2. -/
namespace start1
open Jvm.ClassFile
def u (s : String) : CpInfo := .utf8 (stringToUtf16 s)
/-- a pool by its gaps: so many unusable entries, then the entry; so many at the end -/
def gap : Nat → List CpInfo → List CpInfo
  | 0, r => r
  | n + 1, r => .unusable :: gap n r
def poolList (es : List (Nat × CpInfo)) (last : Nat) : List CpInfo := es.foldr (fun e r => gap e.1 (e.2 :: r)) (gap last [])
def pool (es : List (Nat × CpInfo)) (last : Nat) : Array CpInfo := ⟨poolList es last⟩
def fileOf (pool : Array CpInfo) (this : Nat) (attrs : Array Attribute := #[]) (ms : Array MethodInfo := #[]) (fl : Nat := 33) (sup : Nat := 0) (ifs : Array Nat := #[]) (fds : Array FieldInfo := #[]) : ClassFile where
  minorVersion := 0
  majorVersion := 65
  constantPool := pool
  accessFlags := fl
  thisClass := this
  superClass := sup
  interfaces := ifs
  fields := fds
  methods := ms
  attributes := attrs
def plain (name : String) (sup : Option ClassId) : Class where
  name := name
  kind := .ordinary
  loader := none
  accessFlags := 33
  super := sup
  interfaces := #[]
  cf := none
  fields := #[]
  methods := #[]
  instanceTypes := #[]
  staticTypes := #[]
  resolved := #[]
  callSites := []
  init := .initialized
  statics := none
  mirror := none

def pool0 : Array CpInfo := pool [(5, u "<init>"), (0, u "()V"), (1, .class_ 10), (1, u "java/lang/Object")] 113

def k0c0 : Code := { maxStack := 0, maxLocals := 1, code := object_method_1_code, exceptionTable := #[], attributes := #[] }
def k0m0 : Method := { name := "<init>", desc := "()V", sig := { parameters := [], returnType := none }, accessFlags := 1, code := some k0c0 }
/-- java/lang/Object -/
def k0 : Class := { plain "java/lang/Object" none with
  accessFlags := 33
  interfaces := #[]
  cf := some (fileOf pool0 8 #[] #[{ accessFlags := 1, nameIndex := 5, descriptorIndex := 6, attributes := #[] }] 33 0 #[] #[])
  fields := #[]
  methods := #[k0m0]
  instanceTypes := #[]
  staticTypes := #[]
  resolved := Array.replicate 124 none
  statics := none }

def pool1 : Array CpInfo := pool [(2, .class_ 4), (1, u "java/lang/Object"), (0, u "<init>"), (0, u "()V"), (0, .integer 65535), (0, .methodref 9 10), (0, .class_ 11), (0, .nameAndType 12 13), (0, u "java/lang/String"), (0, u "valueOf"), (0, u "(C)Ljava/lang/String;"), (0, .methodref 15 16), (0, .class_ 17), (0, .nameAndType 18 19), (0, u "com/example/hits_in_context/hitsincontext/model/TermPattern"), (0, u "hasWildcard"), (0, u "(Ljava/lang/String;)Z"), (0, .methodref 15 21), (0, .nameAndType 22 23), (0, u "isWildcard"), (0, u "(I)Z"), (0, .methodref 25 26), (0, .class_ 27), (0, .nameAndType 28 23), (0, u "com/example/hits_in_context/hitsincontext/model/TermPatternIsWildcardPinLaw"), (0, u "agrees"), (3, u "law"), (0, u "(II)Z")] 2

def k1m0 : Method := { name := "<init>", desc := "()V", sig := { parameters := [], returnType := none }, accessFlags := 2, code := none }
def k1c1 : Code := { maxStack := 2, maxLocals := 4, code := method_2_code, exceptionTable := #[], attributes := #[] }
def k1m1 : Method := { name := "agrees", desc := "(I)Z", sig := { parameters := [.int], returnType := some .boolean }, accessFlags := 10, code := some k1c1 }
def k1c2 : Code := { maxStack := 2, maxLocals := 2, code := code, exceptionTable := #[], attributes := #[] }
def k1m2 : Method := { name := "law", desc := "(II)Z", sig := { parameters := [.int, .int], returnType := some .boolean }, accessFlags := 9, code := some k1c2 }
/-- com/example/hits_in_context/hitsincontext/model/TermPatternIsWildcardPinLaw -/
def k1 : Class := { plain "com/example/hits_in_context/hitsincontext/model/TermPatternIsWildcardPinLaw" (some 0) with
  accessFlags := 49
  interfaces := #[]
  cf := some (fileOf pool1 25 #[] #[{ accessFlags := 2, nameIndex := 5, descriptorIndex := 6, attributes := #[] }, { accessFlags := 10, nameIndex := 28, descriptorIndex := 23, attributes := #[] }, { accessFlags := 9, nameIndex := 32, descriptorIndex := 33, attributes := #[] }] 49 2 #[] #[])
  fields := #[]
  methods := #[k1m0, k1m1, k1m2]
  instanceTypes := #[]
  staticTypes := #[]
  resolved := Array.replicate 36 none
  statics := none }

def pool2 : Array CpInfo := pool [(2, .class_ 4), (1, u "java/lang/Object"), (3, .class_ 10), (1, u "com/example/hits_in_context/hitsincontext/model/TermPattern"), (0, u "hasWildcard"), (0, u "(Ljava/lang/String;)Z"), (11, u "word"), (0, u "Ljava/lang/String;"), (1, .class_ 29), (1, u "java/lang/String"), (0, u "codePoints"), (9, u "[I"), (0, .methodref 27 42), (0, .nameAndType 43 44), (0, u "indexOf"), (0, u "(I)I"), (6, u "isWildcard"), (0, u "(I)Z"), (4, u "ONE"), (0, u "C"), (2, u "ANY")] 25

def k2c0 : Code := { maxStack := 2, maxLocals := 1, code := prog_43_method_2_code, exceptionTable := #[], attributes := #[] }
def k2m0 : Method := { name := "hasWildcard", desc := "(Ljava/lang/String;)Z", sig := { parameters := [(.object "java/lang/String")], returnType := some .boolean }, accessFlags := 9, code := some k2c0 }
def k2c1 : Code := { maxStack := 2, maxLocals := 1, code := prog_43_method_3_code, exceptionTable := #[], attributes := #[] }
def k2m1 : Method := { name := "isWildcard", desc := "(I)Z", sig := { parameters := [.int], returnType := some .boolean }, accessFlags := 9, code := some k2c1 }
/-- com/example/hits_in_context/hitsincontext/model/TermPattern -/
def k2 : Class := { plain "com/example/hits_in_context/hitsincontext/model/TermPattern" (some 0) with
  accessFlags := 49
  interfaces := #[]
  cf := some (fileOf pool2 8 #[] #[{ accessFlags := 9, nameIndex := 11, descriptorIndex := 12, attributes := #[] }, { accessFlags := 9, nameIndex := 51, descriptorIndex := 52, attributes := #[] }] 49 2 #[] #[{ accessFlags := 25, nameIndex := 57, descriptorIndex := 58, attributes := #[] }, { accessFlags := 25, nameIndex := 61, descriptorIndex := 58, attributes := #[] }, { accessFlags := 18, nameIndex := 24, descriptorIndex := 25, attributes := #[] }, { accessFlags := 18, nameIndex := 30, descriptorIndex := 40, attributes := #[] }])
  fields := #[{ name := "ONE", type := .char, accessFlags := 25, slot := 0, constantValue := 0 }, { name := "ANY", type := .char, accessFlags := 25, slot := 1, constantValue := 0 }, { name := "word", type := (.object "java/lang/String"), accessFlags := 18, slot := 0, constantValue := 0 }, { name := "codePoints", type := (.array .int), accessFlags := 18, slot := 1, constantValue := 0 }]
  methods := #[k2m0, k2m1]
  instanceTypes := #[(.object "java/lang/String"), (.array .int)]
  staticTypes := #[.char, .char]
  resolved := Array.replicate 87 none
  statics := none }

def pool3 : Array CpInfo := pool [(1, .class_ 2), (0, u "java/io/Serializable"), (0, .class_ 4), (0, u "java/lang/Object")] 2

/-- java/io/Serializable -/
def k3 : Class := { plain "java/io/Serializable" (some 0) with
  accessFlags := 1537
  interfaces := #[]
  cf := some (fileOf pool3 1 #[] #[] 1537 3 #[] #[])
  fields := #[]
  methods := #[]
  instanceTypes := #[]
  staticTypes := #[]
  resolved := Array.replicate 7 none
  statics := none }

def pool4 : Array CpInfo := pool [(1, .class_ 2), (0, u "java/lang/Comparable"), (0, .class_ 4), (0, u "java/lang/Object")] 7

/-- java/lang/Comparable -/
def k4 : Class := { plain "java/lang/Comparable" (some 0) with
  accessFlags := 1537
  interfaces := #[]
  cf := some (fileOf pool4 1 #[] #[] 1537 3 #[] #[])
  fields := #[]
  methods := #[]
  instanceTypes := #[]
  staticTypes := #[]
  resolved := Array.replicate 12 none
  statics := none }

def pool5 : Array CpInfo := pool [(2, .class_ 4), (1, u "java/lang/CharSequence"), (42, .class_ 48), (0, u "java/lang/CharSequence$1CodePointIterator"), (10, .class_ 60), (0, u "java/lang/CharSequence$1CharIterator"), (5, .class_ 67), (0, u "java/lang/Object")] 63

/-- java/lang/CharSequence -/
def k5 : Class := { plain "java/lang/CharSequence" (some 0) with
  accessFlags := 1537
  interfaces := #[]
  cf := some (fileOf pool5 2 #[.nestMembers #[47, 59]] #[] 1537 66 #[] #[])
  fields := #[]
  methods := #[]
  instanceTypes := #[]
  staticTypes := #[]
  resolved := Array.replicate 131 none
  statics := none }

def pool6 : Array CpInfo := pool [(1, .class_ 2), (0, u "java/lang/constant/Constable"), (0, .class_ 4), (0, u "java/lang/Object")] 6

/-- java/lang/constant/Constable -/
def k6 : Class := { plain "java/lang/constant/Constable" (some 0) with
  accessFlags := 1537
  interfaces := #[]
  cf := some (fileOf pool6 1 #[] #[] 1537 3 #[] #[])
  fields := #[]
  methods := #[]
  instanceTypes := #[]
  staticTypes := #[]
  resolved := Array.replicate 11 none
  statics := none }

def pool7 : Array CpInfo := pool [(1, .class_ 2), (0, u "java/lang/constant/ConstantDesc"), (0, .class_ 4), (0, u "java/lang/Object")] 32

/-- java/lang/constant/ConstantDesc -/
def k7 : Class := { plain "java/lang/constant/ConstantDesc" (some 0) with
  accessFlags := 1537
  interfaces := #[]
  cf := some (fileOf pool7 1 #[] #[] 1537 3 #[] #[])
  fields := #[]
  methods := #[]
  instanceTypes := #[]
  staticTypes := #[]
  resolved := Array.replicate 37 none
  statics := none }

def pool8 : Array CpInfo := pool [(1, .methodref 2 3), (0, .class_ 4), (0, .nameAndType 5 6), (0, u "java/lang/Object"), (0, u "<init>"), (0, u "()V"), (2, .fieldref 10 11), (0, .class_ 12), (0, .nameAndType 13 14), (0, u "java/lang/String"), (0, u "value"), (0, u "[B"), (0, .fieldref 10 16), (0, .nameAndType 17 18), (0, u "coder"), (0, u "B"), (2, u "hash"), (0, u "I"), (2, u "hashIsZero"), (0, u "Z"), (11, .fieldref 10 39), (0, .nameAndType 40 26), (0, u "COMPACT_STRINGS"), (1, .class_ 44), (1, u "java/lang/StringUTF16"), (8, u "toBytes"), (53, .class_ 109), (1, u "java/lang/StringLatin1"), (32, u "()Z"), (66, .methodref 10 210), (0, .nameAndType 5 211), (0, u "([BB)V"), (122, u "()I"), (0, .methodref 10 336), (0, .nameAndType 17 337), (0, u "()B"), (31, u "(C)Z"), (122, .methodref 10 493), (0, .nameAndType 494 142), (0, u "isLatin1"), (10, .methodref 10 506), (0, .nameAndType 507 334), (0, u "length"), (5, u "checkFromToIndex"), (9, u "checkBoundsBeginEnd"), (0, u "(III)V"), (50, .class_ 576), (0, u "java/lang/CharSequence"), (22, u "CASE_INSENSITIVE_ORDER"), (0, u "Ljava/util/Comparator;"), (32, .methodref 10 634), (0, .nameAndType 635 636), (0, u "indexOf"), (0, u "(II)I"), (0, .methodref 107 638), (0, .nameAndType 635 639), (0, u "([BIII)I"), (0, .methodref 42 638), (124, u "(I)I"), (16, u "valueOf"), (0, u "(C)Ljava/lang/String;"), (231, .methodref 107 1016), (0, .nameAndType 1017 369), (0, u "canEncode"), (0, .methodref 107 1019), (0, .nameAndType 53 1020), (0, u "(C)[B"), (0, .methodref 42 1019), (31, .fieldref 1054 1055), (0, .class_ 1056), (0, .nameAndType 1057 1058), (0, u "jdk/internal/util/Preconditions"), (0, u "SIOOBE_FORMATTER"), (0, u "Ljava/util/function/BiFunction;"), (3, .methodref 1054 1063), (0, .nameAndType 513 1064), (0, u "(IIILjava/util/function/BiFunction;)I"), (36, u "serialPersistentFields"), (0, u "[Ljava/io/ObjectStreamField;"), (0, .class_ 1104), (0, u "java/lang/String$CaseInsensitiveComparator"), (1, .class_ 1107), (0, u "java/io/Serializable"), (0, .class_ 1109), (0, u "java/lang/Comparable"), (0, .class_ 1111), (0, u "java/lang/constant/Constable"), (0, .class_ 1113), (0, u "java/lang/constant/ConstantDesc"), (2, u "serialVersionUID"), (0, u "J"), (3, u "REPL"), (0, u "C"), (2, u "LATIN1"), (1, u "UTF16")] 323

def k8m0 : Method := { name := "<init>", desc := "()V", sig := { parameters := [], returnType := none }, accessFlags := 1, code := none }
def k8c1 : Code := { maxStack := 2, maxLocals := 1, code := jdk_42_method_54_code, exceptionTable := #[], attributes := #[] }
def k8m1 : Method := { name := "length", desc := "()I", sig := { parameters := [], returnType := some .int }, accessFlags := 1, code := some k8c1 }
def k8c2 : Code := { maxStack := 3, maxLocals := 2, code := jdk_42_method_79_code, exceptionTable := #[], attributes := #[] }
def k8m2 : Method := { name := "indexOf", desc := "(I)I", sig := { parameters := [.int], returnType := some .int }, accessFlags := 1, code := some k8c2 }
def k8c3 : Code := { maxStack := 4, maxLocals := 3, code := jdk_42_method_80_code, exceptionTable := #[], attributes := #[] }
def k8m3 : Method := { name := "indexOf", desc := "(II)I", sig := { parameters := [.int, .int], returnType := some .int }, accessFlags := 1, code := some k8c3 }
def k8c4 : Code := { maxStack := 4, maxLocals := 1, code := jdk_42_method_139_code, exceptionTable := #[], attributes := #[] }
def k8m4 : Method := { name := "valueOf", desc := "(C)Ljava/lang/String;", sig := { parameters := [.char], returnType := some (.object "java/lang/String") }, accessFlags := 9, code := some k8c4 }
def k8c5 : Code := { maxStack := 2, maxLocals := 3, code := jdk_42_method_151_code, exceptionTable := #[], attributes := #[] }
def k8m5 : Method := { name := "<init>", desc := "([BB)V", sig := { parameters := [(.array .byte), .byte], returnType := none }, accessFlags := 0, code := some k8c5 }
def k8c6 : Code := { maxStack := 1, maxLocals := 1, code := jdk_42_method_152_code, exceptionTable := #[], attributes := #[] }
def k8m6 : Method := { name := "coder", desc := "()B", sig := { parameters := [], returnType := some .byte }, accessFlags := 0, code := some k8c6 }
def k8c7 : Code := { maxStack := 1, maxLocals := 1, code := jdk_42_method_154_code, exceptionTable := #[], attributes := #[] }
def k8m7 : Method := { name := "isLatin1", desc := "()Z", sig := { parameters := [], returnType := some .boolean }, accessFlags := 0, code := some k8c7 }
def k8c8 : Code := { maxStack := 4, maxLocals := 3, code := jdk_42_method_158_code, exceptionTable := #[], attributes := #[] }
def k8m8 : Method := { name := "checkBoundsBeginEnd", desc := "(III)V", sig := { parameters := [.int, .int, .int], returnType := none }, accessFlags := 8, code := some k8c8 }
/-- java/lang/String -/
def k8 : Class := { plain "java/lang/String" (some 0) with
  accessFlags := 49
  interfaces := #[3, 4, 5, 6, 7]
  cf := some (fileOf pool8 10 #[.nestMembers #[1103]] #[{ accessFlags := 1, nameIndex := 5, descriptorIndex := 6, attributes := #[] }, { accessFlags := 1, nameIndex := 507, descriptorIndex := 334, attributes := #[] }, { accessFlags := 1, nameIndex := 635, descriptorIndex := 765, attributes := #[] }, { accessFlags := 1, nameIndex := 635, descriptorIndex := 636, attributes := #[] }, { accessFlags := 9, nameIndex := 782, descriptorIndex := 783, attributes := #[] }, { accessFlags := 0, nameIndex := 5, descriptorIndex := 211, attributes := #[] }, { accessFlags := 0, nameIndex := 17, descriptorIndex := 337, attributes := #[] }, { accessFlags := 0, nameIndex := 494, descriptorIndex := 142, attributes := #[] }, { accessFlags := 8, nameIndex := 523, descriptorIndex := 524, attributes := #[] }] 49 2 #[1106, 1108, 575, 1110, 1112] #[{ accessFlags := 18, nameIndex := 13, descriptorIndex := 14, attributes := #[] }, { accessFlags := 18, nameIndex := 17, descriptorIndex := 18, attributes := #[] }, { accessFlags := 2, nameIndex := 21, descriptorIndex := 22, attributes := #[] }, { accessFlags := 2, nameIndex := 25, descriptorIndex := 26, attributes := #[] }, { accessFlags := 26, nameIndex := 1116, descriptorIndex := 1117, attributes := #[] }, { accessFlags := 24, nameIndex := 40, descriptorIndex := 26, attributes := #[] }, { accessFlags := 26, nameIndex := 1101, descriptorIndex := 1102, attributes := #[] }, { accessFlags := 26, nameIndex := 1121, descriptorIndex := 1122, attributes := #[] }, { accessFlags := 25, nameIndex := 599, descriptorIndex := 600, attributes := #[] }, { accessFlags := 24, nameIndex := 1125, descriptorIndex := 18, attributes := #[] }, { accessFlags := 24, nameIndex := 1127, descriptorIndex := 18, attributes := #[] }])
  fields := #[{ name := "value", type := (.array .byte), accessFlags := 18, slot := 0, constantValue := 0 }, { name := "coder", type := .byte, accessFlags := 18, slot := 1, constantValue := 0 }, { name := "hash", type := .int, accessFlags := 2, slot := 2, constantValue := 0 }, { name := "hashIsZero", type := .boolean, accessFlags := 2, slot := 3, constantValue := 0 }, { name := "serialVersionUID", type := .long, accessFlags := 26, slot := 0, constantValue := 0 }, { name := "COMPACT_STRINGS", type := .boolean, accessFlags := 24, slot := 1, constantValue := 0 }, { name := "serialPersistentFields", type := (.array (.object "java/io/ObjectStreamField")), accessFlags := 26, slot := 2, constantValue := 0 }, { name := "REPL", type := .char, accessFlags := 26, slot := 3, constantValue := 0 }, { name := "CASE_INSENSITIVE_ORDER", type := (.object "java/util/Comparator"), accessFlags := 25, slot := 4, constantValue := 0 }, { name := "LATIN1", type := .byte, accessFlags := 24, slot := 5, constantValue := 0 }, { name := "UTF16", type := .byte, accessFlags := 24, slot := 6, constantValue := 0 }]
  methods := #[k8m0, k8m1, k8m2, k8m3, k8m4, k8m5, k8m6, k8m7, k8m8]
  instanceTypes := #[(.array .byte), .byte, .int, .boolean]
  staticTypes := #[.long, .boolean, (.array (.object "java/io/ObjectStreamField")), .char, (.object "java/util/Comparator"), .byte, .byte]
  resolved := Array.replicate 1451 none
  statics := some 0 }

def pool9 : Array CpInfo := pool [(4, .class_ 6), (1, u "java/lang/Object"), (0, u "<init>"), (0, u "()V"), (5, .class_ 16), (1, u "java/lang/StringLatin1"), (21, .methodref 39 40), (0, .class_ 41), (0, .nameAndType 42 43), (0, u "java/lang/Math"), (0, u "min"), (0, u "(II)I"), (44, .methodref 14 89), (0, .nameAndType 90 91), (0, u "canEncode"), (0, u "(I)Z"), (0, .methodref 39 93), (0, .nameAndType 94 43), (0, u "max"), (0, .methodref 14 96), (0, .nameAndType 97 98), (0, u "indexOfChar"), (0, u "([BIII)I"), (2, u "indexOf"), (3, u "(C)Z"), (15, u "$assertionsDisabled"), (0, u "Z"), (98, .class_ 223), (1, u "java/lang/StringLatin1$LinesSpliterator"), (156, u "toBytes"), (1, u "(C)[B"), (7, .class_ 391), (0, u "java/lang/StringLatin1$CharsSpliterator")] 3

def k9m0 : Method := { name := "<init>", desc := "()V", sig := { parameters := [], returnType := none }, accessFlags := 0, code := none }
def k9c1 : Code := { maxStack := 2, maxLocals := 1, code := jdk_43_method_3_code, exceptionTable := #[], attributes := #[] }
def k9m1 : Method := { name := "canEncode", desc := "(C)Z", sig := { parameters := [.char], returnType := some .boolean }, accessFlags := 9, code := some k9c1 }
def k9c2 : Code := { maxStack := 2, maxLocals := 1, code := jdk_43_method_4_code, exceptionTable := #[], attributes := #[] }
def k9m2 : Method := { name := "canEncode", desc := "(I)Z", sig := { parameters := [.int], returnType := some .boolean }, accessFlags := 9, code := some k9c2 }
def k9c3 : Code := { maxStack := 4, maxLocals := 4, code := jdk_43_method_22_code, exceptionTable := #[], attributes := #[] }
def k9m3 : Method := { name := "indexOf", desc := "([BIII)I", sig := { parameters := [(.array .byte), .int, .int, .int], returnType := some .int }, accessFlags := 9, code := some k9c3 }
def k9c4 : Code := { maxStack := 2, maxLocals := 6, code := jdk_43_method_23_code, exceptionTable := #[], attributes := #[] }
def k9m4 : Method := { name := "indexOfChar", desc := "([BIII)I", sig := { parameters := [(.array .byte), .int, .int, .int], returnType := some .int }, accessFlags := 10, code := some k9c4 }
def k9c5 : Code := { maxStack := 4, maxLocals := 1, code := jdk_43_method_46_code, exceptionTable := #[], attributes := #[] }
def k9m5 : Method := { name := "toBytes", desc := "(C)[B", sig := { parameters := [.char], returnType := some (.array .byte) }, accessFlags := 9, code := some k9c5 }
/-- java/lang/StringLatin1 -/
def k9 : Class := { plain "java/lang/StringLatin1" (some 0) with
  accessFlags := 48
  interfaces := #[]
  cf := some (fileOf pool9 14 #[.nestMembers #[390, 221]] #[{ accessFlags := 0, nameIndex := 7, descriptorIndex := 8, attributes := #[] }, { accessFlags := 9, nameIndex := 90, descriptorIndex := 105, attributes := #[] }, { accessFlags := 9, nameIndex := 90, descriptorIndex := 91, attributes := #[] }, { accessFlags := 9, nameIndex := 101, descriptorIndex := 98, attributes := #[] }, { accessFlags := 10, nameIndex := 97, descriptorIndex := 98, attributes := #[] }, { accessFlags := 9, nameIndex := 380, descriptorIndex := 382, attributes := #[] }] 48 4 #[] #[{ accessFlags := 4120, nameIndex := 121, descriptorIndex := 122, attributes := #[] }])
  fields := #[{ name := "$assertionsDisabled", type := .boolean, accessFlags := 4120, slot := 0, constantValue := 0 }]
  methods := #[k9m0, k9m1, k9m2, k9m3, k9m4, k9m5]
  instanceTypes := #[]
  staticTypes := #[.boolean]
  resolved := Array.replicate 395 none
  statics := none }

def pool10 : Array CpInfo := pool [(1, .class_ 2), (0, u "java/lang/Math"), (1, .class_ 6), (1, u "java/lang/Object"), (0, u "<init>"), (0, u "()V"), (89, .class_ 100), (1, u "java/lang/Math$RandomNumberGeneratorHolder"), (71, u "negativeZeroFloatBits"), (0, u "J"), (2, u "negativeZeroDoubleBits"), (21, u "max"), (2, u "min"), (43, u "$assertionsDisabled"), (0, u "Z"), (88, u "(II)I"), (2, u "twoToTheDoubleScaleDown"), (0, u "D"), (4, u "twoToTheDoubleScaleUp"), (9, u "E"), (3, u "PI"), (2, u "TAU"), (2, u "DEGREES_TO_RADIANS"), (0, u "RADIANS_TO_DEGREES")] 94

def k10m0 : Method := { name := "<init>", desc := "()V", sig := { parameters := [], returnType := none }, accessFlags := 2, code := none }
def k10c1 : Code := { maxStack := 2, maxLocals := 2, code := jdk_29_method_65_code, exceptionTable := #[], attributes := #[] }
def k10m1 : Method := { name := "max", desc := "(II)I", sig := { parameters := [.int, .int], returnType := some .int }, accessFlags := 9, code := some k10c1 }
def k10c2 : Code := { maxStack := 2, maxLocals := 2, code := jdk_29_method_69_code, exceptionTable := #[], attributes := #[] }
def k10m2 : Method := { name := "min", desc := "(II)I", sig := { parameters := [.int, .int], returnType := some .int }, accessFlags := 9, code := some k10c2 }
/-- java/lang/Math -/
def k10 : Class := { plain "java/lang/Math" (some 0) with
  accessFlags := 49
  interfaces := #[]
  cf := some (fileOf pool10 1 #[.nestMembers #[98]] #[{ accessFlags := 2, nameIndex := 7, descriptorIndex := 8, attributes := #[] }, { accessFlags := 9, nameIndex := 198, descriptorIndex := 335, attributes := #[] }, { accessFlags := 9, nameIndex := 201, descriptorIndex := 335, attributes := #[] }] 49 4 #[] #[{ accessFlags := 25, nameIndex := 354, descriptorIndex := 339, attributes := #[] }, { accessFlags := 25, nameIndex := 358, descriptorIndex := 339, attributes := #[] }, { accessFlags := 25, nameIndex := 361, descriptorIndex := 339, attributes := #[] }, { accessFlags := 26, nameIndex := 364, descriptorIndex := 339, attributes := #[] }, { accessFlags := 26, nameIndex := 365, descriptorIndex := 339, attributes := #[] }, { accessFlags := 26, nameIndex := 172, descriptorIndex := 173, attributes := #[] }, { accessFlags := 26, nameIndex := 176, descriptorIndex := 173, attributes := #[] }, { accessFlags := 8, nameIndex := 344, descriptorIndex := 339, attributes := #[] }, { accessFlags := 8, nameIndex := 338, descriptorIndex := 339, attributes := #[] }, { accessFlags := 4120, nameIndex := 245, descriptorIndex := 246, attributes := #[] }])
  fields := #[{ name := "E", type := .double, accessFlags := 25, slot := 0, constantValue := 0 }, { name := "PI", type := .double, accessFlags := 25, slot := 1, constantValue := 0 }, { name := "TAU", type := .double, accessFlags := 25, slot := 2, constantValue := 0 }, { name := "DEGREES_TO_RADIANS", type := .double, accessFlags := 26, slot := 3, constantValue := 0 }, { name := "RADIANS_TO_DEGREES", type := .double, accessFlags := 26, slot := 4, constantValue := 0 }, { name := "negativeZeroFloatBits", type := .long, accessFlags := 26, slot := 5, constantValue := 0 }, { name := "negativeZeroDoubleBits", type := .long, accessFlags := 26, slot := 6, constantValue := 0 }, { name := "twoToTheDoubleScaleUp", type := .double, accessFlags := 8, slot := 7, constantValue := 0 }, { name := "twoToTheDoubleScaleDown", type := .double, accessFlags := 8, slot := 8, constantValue := 0 }, { name := "$assertionsDisabled", type := .boolean, accessFlags := 4120, slot := 9, constantValue := 0 }]
  methods := #[k10m0, k10m1, k10m2]
  instanceTypes := #[]
  staticTypes := #[.double, .double, .double, .double, .double, .long, .long, .double, .double, .boolean]
  resolved := Array.replicate 460 none
  statics := none }

def pool11 : Array CpInfo := pool [(3, .class_ 4), (0, u "java/lang/String"), (1, .class_ 8), (1, u "java/lang/Object"), (0, u "<init>"), (0, u "()V"), (1, .class_ 14), (1, u "java/lang/StringUTF16"), (29, .fieldref 12 45), (0, .nameAndType 46 47), (0, u "$assertionsDisabled"), (0, u "Z"), (0, .methodref 12 49), (0, .nameAndType 50 51), (0, u "length"), (0, u "([B)I"), (7, .fieldref 12 60), (0, .nameAndType 61 62), (0, u "HI_BYTE_SHIFT"), (0, u "I"), (0, .fieldref 12 64), (0, .nameAndType 65 62), (0, u "LO_BYTE_SHIFT"), (5, .methodref 12 72), (0, .nameAndType 73 74), (0, u "getChar"), (0, u "([BI)C"), (21, .methodref 12 97), (0, .nameAndType 98 99), (0, u "checkBoundsBeginEnd"), (0, u "(II[B)V"), (11, .methodref 12 112), (0, .nameAndType 113 114), (0, u "putChar"), (0, u "([BII)V"), (6, u "toBytes"), (61, .methodref 184 185), (0, .class_ 186), (0, .nameAndType 187 188), (0, u "java/lang/Math"), (0, u "min"), (0, u "(II)I"), (35, .methodref 184 225), (0, .nameAndType 226 188), (0, u "max"), (0, .integer 65536), (0, .methodref 12 229), (0, .nameAndType 230 231), (0, u "indexOfChar"), (0, u "([BIII)I"), (9, .methodref 3 242), (0, .nameAndType 98 243), (0, u "(III)V"), (0, .methodref 12 245), (0, .nameAndType 246 231), (0, u "indexOfCharUnsafe"), (21, u "indexOf"), (100, .class_ 371), (1, u "java/lang/StringUTF16$LinesSpliterator"), (58, u "MAX_LENGTH"), (44, u "(C)[B"), (151, .class_ 628), (0, u "java/lang/StringUTF16$CodePointsSpliterator"), (0, .class_ 630), (0, u "java/lang/StringUTF16$CharsSpliterator")] 4

def k11m0 : Method := { name := "<init>", desc := "()V", sig := { parameters := [], returnType := none }, accessFlags := 0, code := none }
def k11c1 : Code := { maxStack := 4, maxLocals := 3, code := jdk_52_method_4_code, exceptionTable := #[], attributes := #[] }
def k11m1 : Method := { name := "putChar", desc := "([BII)V", sig := { parameters := [(.array .byte), .int, .int], returnType := none }, accessFlags := 8, code := some k11c1 }
def k11c2 : Code := { maxStack := 3, maxLocals := 2, code := jdk_52_method_5_code, exceptionTable := #[], attributes := #[] }
def k11m2 : Method := { name := "getChar", desc := "([BI)C", sig := { parameters := [(.array .byte), .int], returnType := some .char }, accessFlags := 8, code := some k11c2 }
def k11c3 : Code := { maxStack := 2, maxLocals := 1, code := jdk_52_method_6_code, exceptionTable := #[], attributes := #[] }
def k11m3 : Method := { name := "length", desc := "([B)I", sig := { parameters := [(.array .byte)], returnType := some .int }, accessFlags := 9, code := some k11c3 }
def k11c4 : Code := { maxStack := 3, maxLocals := 2, code := jdk_52_method_24_code, exceptionTable := #[], attributes := #[] }
def k11m4 : Method := { name := "toBytes", desc := "(C)[B", sig := { parameters := [.char], returnType := some (.array .byte) }, accessFlags := 9, code := some k11c4 }
def k11c5 : Code := { maxStack := 4, maxLocals := 4, code := jdk_52_method_40_code, exceptionTable := #[], attributes := #[] }
def k11m5 : Method := { name := "indexOf", desc := "([BIII)I", sig := { parameters := [(.array .byte), .int, .int, .int], returnType := some .int }, accessFlags := 9, code := some k11c5 }
def k11c6 : Code := { maxStack := 4, maxLocals := 4, code := jdk_52_method_47_code, exceptionTable := #[], attributes := #[] }
def k11m6 : Method := { name := "indexOfChar", desc := "([BIII)I", sig := { parameters := [(.array .byte), .int, .int, .int], returnType := some .int }, accessFlags := 10, code := some k11c6 }
def k11c7 : Code := { maxStack := 2, maxLocals := 5, code := jdk_52_method_48_code, exceptionTable := #[], attributes := #[] }
def k11m7 : Method := { name := "indexOfCharUnsafe", desc := "([BIII)I", sig := { parameters := [(.array .byte), .int, .int, .int], returnType := some .int }, accessFlags := 10, code := some k11c7 }
def k11c8 : Code := { maxStack := 3, maxLocals := 3, code := jdk_52_method_93_code, exceptionTable := #[], attributes := #[] }
def k11m8 : Method := { name := "checkBoundsBeginEnd", desc := "(II[B)V", sig := { parameters := [.int, .int, (.array .byte)], returnType := none }, accessFlags := 9, code := some k11c8 }
/-- java/lang/StringUTF16 -/
def k11 : Class := { plain "java/lang/StringUTF16" (some 0) with
  accessFlags := 48
  interfaces := #[]
  cf := some (fileOf pool11 12 #[.nestMembers #[627, 629, 369]] #[{ accessFlags := 0, nameIndex := 9, descriptorIndex := 10, attributes := #[] }, { accessFlags := 8, nameIndex := 113, descriptorIndex := 114, attributes := #[] }, { accessFlags := 8, nameIndex := 73, descriptorIndex := 74, attributes := #[] }, { accessFlags := 9, nameIndex := 50, descriptorIndex := 51, attributes := #[] }, { accessFlags := 9, nameIndex := 121, descriptorIndex := 475, attributes := #[] }, { accessFlags := 9, nameIndex := 268, descriptorIndex := 231, attributes := #[] }, { accessFlags := 10, nameIndex := 230, descriptorIndex := 231, attributes := #[] }, { accessFlags := 10, nameIndex := 246, descriptorIndex := 231, attributes := #[] }, { accessFlags := 9, nameIndex := 98, descriptorIndex := 99, attributes := #[] }] 48 6 #[] #[{ accessFlags := 26, nameIndex := 61, descriptorIndex := 62, attributes := #[] }, { accessFlags := 26, nameIndex := 65, descriptorIndex := 62, attributes := #[] }, { accessFlags := 24, nameIndex := 430, descriptorIndex := 62, attributes := #[] }, { accessFlags := 4120, nameIndex := 46, descriptorIndex := 47, attributes := #[] }])
  fields := #[{ name := "HI_BYTE_SHIFT", type := .int, accessFlags := 26, slot := 0, constantValue := 0 }, { name := "LO_BYTE_SHIFT", type := .int, accessFlags := 26, slot := 1, constantValue := 0 }, { name := "MAX_LENGTH", type := .int, accessFlags := 24, slot := 2, constantValue := 0 }, { name := "$assertionsDisabled", type := .boolean, accessFlags := 4120, slot := 3, constantValue := 0 }]
  methods := #[k11m0, k11m1, k11m2, k11m3, k11m4, k11m5, k11m6, k11m7, k11m8]
  instanceTypes := #[]
  staticTypes := #[.int, .int, .int, .boolean]
  resolved := Array.replicate 635 none
  statics := some 1 }

def pool12 : Array CpInfo := pool [(2, .class_ 4), (1, u "java/lang/Object"), (0, u "<init>"), (0, u "()V"), (17, .class_ 26), (1, u "jdk/internal/util/Preconditions"), (20, u "checkFromToIndex"), (7, .class_ 56), (0, u "jdk/internal/util/Preconditions$4"), (57, .class_ 115), (0, u "jdk/internal/util/Preconditions$1"), (7, u "SIOOBE_FORMATTER"), (0, u "Ljava/util/function/BiFunction;"), (0, .class_ 126), (0, u "jdk/internal/util/Preconditions$2"), (3, u "AIOOBE_FORMATTER"), (0, .class_ 132), (0, u "jdk/internal/util/Preconditions$3"), (3, u "IOOBE_FORMATTER"), (46, u "(IIILjava/util/function/BiFunction;)I")] 10

def k12m0 : Method := { name := "<init>", desc := "()V", sig := { parameters := [], returnType := none }, accessFlags := 1, code := none }
def k12c1 : Code := { maxStack := 4, maxLocals := 4, code := jdk_41_method_12_code, exceptionTable := #[], attributes := #[] }
def k12m1 : Method := { name := "checkFromToIndex", desc := "(IIILjava/util/function/BiFunction;)I", sig := { parameters := [.int, .int, .int, (.object "java/util/function/BiFunction")], returnType := some .int }, accessFlags := 9, code := some k12c1 }
/-- jdk/internal/util/Preconditions -/
def k12 : Class := { plain "jdk/internal/util/Preconditions" (some 0) with
  accessFlags := 33
  interfaces := #[]
  cf := some (fileOf pool12 24 #[.nestMembers #[55, 131, 125, 114]] #[{ accessFlags := 1, nameIndex := 5, descriptorIndex := 6, attributes := #[] }, { accessFlags := 9, nameIndex := 47, descriptorIndex := 183, attributes := #[] }] 33 2 #[] #[{ accessFlags := 25, nameIndex := 123, descriptorIndex := 124, attributes := #[] }, { accessFlags := 25, nameIndex := 130, descriptorIndex := 124, attributes := #[] }, { accessFlags := 25, nameIndex := 136, descriptorIndex := 124, attributes := #[] }])
  fields := #[{ name := "SIOOBE_FORMATTER", type := (.object "java/util/function/BiFunction"), accessFlags := 25, slot := 0, constantValue := 0 }, { name := "AIOOBE_FORMATTER", type := (.object "java/util/function/BiFunction"), accessFlags := 25, slot := 1, constantValue := 0 }, { name := "IOOBE_FORMATTER", type := (.object "java/util/function/BiFunction"), accessFlags := 25, slot := 2, constantValue := 0 }]
  methods := #[k12m0, k12m1]
  instanceTypes := #[]
  staticTypes := #[(.object "java/util/function/BiFunction"), (.object "java/util/function/BiFunction"), (.object "java/util/function/BiFunction")]
  resolved := Array.replicate 194 none
  statics := some 2 }

def pool13 : Array CpInfo := pool [(9, u "<init>"), (6, .class_ 18), (1, u "java/lang/Object"), (0, u "()V"), (1, .class_ 23), (1, u "jdk/internal/util/ArraysSupport"), (0, u "LOG2_ARRAY_LONG_INDEX_SCALE"), (0, u "I"), (2, u "U"), (0, u "Ljdk/internal/misc/Unsafe;"), (8, u "BIG_ENDIAN"), (0, u "Z"), (8, u "LOG2_BYTE_BIT_SIZE"), (4, u "LOG2_ARRAY_INT_INDEX_SCALE"), (54, u "JLA"), (0, u "Ljdk/internal/access/JavaLangAccess;"), (11, u "LOG2_ARRAY_BOOLEAN_INDEX_SCALE"), (9, u "LOG2_ARRAY_BYTE_INDEX_SCALE"), (5, u "LOG2_ARRAY_CHAR_INDEX_SCALE"), (5, u "LOG2_ARRAY_SHORT_INDEX_SCALE"), (18, u "LOG2_ARRAY_FLOAT_INDEX_SCALE"), (24, u "LOG2_ARRAY_DOUBLE_INDEX_SCALE"), (89, u "T_BOOLEAN"), (2, u "T_CHAR"), (1, u "T_FLOAT"), (1, u "T_DOUBLE"), (1, u "T_BYTE"), (1, u "T_SHORT"), (1, u "T_INT"), (1, u "T_LONG"), (1, u "SOFT_MAX_ARRAY_LENGTH")] 83

def k13m0 : Method := { name := "<init>", desc := "()V", sig := { parameters := [], returnType := none }, accessFlags := 2, code := none }
/-- jdk/internal/util/ArraysSupport -/
def k13 : Class := { plain "jdk/internal/util/ArraysSupport" (some 0) with
  accessFlags := 33
  interfaces := #[]
  cf := some (fileOf pool13 21 #[] #[{ accessFlags := 2, nameIndex := 9, descriptorIndex := 19, attributes := #[] }] 33 16 #[] #[{ accessFlags := 24, nameIndex := 28, descriptorIndex := 29, attributes := #[] }, { accessFlags := 26, nameIndex := 38, descriptorIndex := 39, attributes := #[] }, { accessFlags := 25, nameIndex := 121, descriptorIndex := 25, attributes := #[] }, { accessFlags := 25, nameIndex := 131, descriptorIndex := 25, attributes := #[] }, { accessFlags := 25, nameIndex := 137, descriptorIndex := 25, attributes := #[] }, { accessFlags := 25, nameIndex := 143, descriptorIndex := 25, attributes := #[] }, { accessFlags := 25, nameIndex := 53, descriptorIndex := 25, attributes := #[] }, { accessFlags := 25, nameIndex := 24, descriptorIndex := 25, attributes := #[] }, { accessFlags := 25, nameIndex := 162, descriptorIndex := 25, attributes := #[] }, { accessFlags := 25, nameIndex := 187, descriptorIndex := 25, attributes := #[] }, { accessFlags := 26, nameIndex := 48, descriptorIndex := 25, attributes := #[] }, { accessFlags := 25, nameIndex := 277, descriptorIndex := 25, attributes := #[] }, { accessFlags := 25, nameIndex := 280, descriptorIndex := 25, attributes := #[] }, { accessFlags := 25, nameIndex := 282, descriptorIndex := 25, attributes := #[] }, { accessFlags := 25, nameIndex := 284, descriptorIndex := 25, attributes := #[] }, { accessFlags := 25, nameIndex := 286, descriptorIndex := 25, attributes := #[] }, { accessFlags := 25, nameIndex := 288, descriptorIndex := 25, attributes := #[] }, { accessFlags := 25, nameIndex := 290, descriptorIndex := 25, attributes := #[] }, { accessFlags := 25, nameIndex := 292, descriptorIndex := 25, attributes := #[] }, { accessFlags := 26, nameIndex := 108, descriptorIndex := 109, attributes := #[] }, { accessFlags := 25, nameIndex := 294, descriptorIndex := 25, attributes := #[] }])
  fields := #[{ name := "U", type := (.object "jdk/internal/misc/Unsafe"), accessFlags := 24, slot := 0, constantValue := 0 }, { name := "BIG_ENDIAN", type := .boolean, accessFlags := 26, slot := 1, constantValue := 0 }, { name := "LOG2_ARRAY_BOOLEAN_INDEX_SCALE", type := .int, accessFlags := 25, slot := 2, constantValue := 0 }, { name := "LOG2_ARRAY_BYTE_INDEX_SCALE", type := .int, accessFlags := 25, slot := 3, constantValue := 0 }, { name := "LOG2_ARRAY_CHAR_INDEX_SCALE", type := .int, accessFlags := 25, slot := 4, constantValue := 0 }, { name := "LOG2_ARRAY_SHORT_INDEX_SCALE", type := .int, accessFlags := 25, slot := 5, constantValue := 0 }, { name := "LOG2_ARRAY_INT_INDEX_SCALE", type := .int, accessFlags := 25, slot := 6, constantValue := 0 }, { name := "LOG2_ARRAY_LONG_INDEX_SCALE", type := .int, accessFlags := 25, slot := 7, constantValue := 0 }, { name := "LOG2_ARRAY_FLOAT_INDEX_SCALE", type := .int, accessFlags := 25, slot := 8, constantValue := 0 }, { name := "LOG2_ARRAY_DOUBLE_INDEX_SCALE", type := .int, accessFlags := 25, slot := 9, constantValue := 0 }, { name := "LOG2_BYTE_BIT_SIZE", type := .int, accessFlags := 26, slot := 10, constantValue := 0 }, { name := "T_BOOLEAN", type := .int, accessFlags := 25, slot := 11, constantValue := 0 }, { name := "T_CHAR", type := .int, accessFlags := 25, slot := 12, constantValue := 0 }, { name := "T_FLOAT", type := .int, accessFlags := 25, slot := 13, constantValue := 0 }, { name := "T_DOUBLE", type := .int, accessFlags := 25, slot := 14, constantValue := 0 }, { name := "T_BYTE", type := .int, accessFlags := 25, slot := 15, constantValue := 0 }, { name := "T_SHORT", type := .int, accessFlags := 25, slot := 16, constantValue := 0 }, { name := "T_INT", type := .int, accessFlags := 25, slot := 17, constantValue := 0 }, { name := "T_LONG", type := .int, accessFlags := 25, slot := 18, constantValue := 0 }, { name := "JLA", type := (.object "jdk/internal/access/JavaLangAccess"), accessFlags := 26, slot := 19, constantValue := 0 }, { name := "SOFT_MAX_ARRAY_LENGTH", type := .int, accessFlags := 25, slot := 20, constantValue := 0 }]
  methods := #[k13m0]
  instanceTypes := #[]
  staticTypes := #[(.object "jdk/internal/misc/Unsafe"), .boolean, .int, .int, .int, .int, .int, .int, .int, .int, .int, .int, .int, .int, .int, .int, .int, .int, .int, (.object "jdk/internal/access/JavaLangAccess"), .int]
  resolved := Array.replicate 378 none
  statics := none }

def pool14 : Array CpInfo := pool [(1, u "java/lang/Cloneable"), (0, .class_ 1), (0, u "java/lang/Object"), (0, .class_ 3)] 3

/-- java/lang/Cloneable -/
def k14 : Class := { plain "java/lang/Cloneable" (some 0) with
  accessFlags := 1537
  interfaces := #[]
  cf := some (fileOf pool14 2 #[] #[] 1537 4 #[] #[])
  fields := #[]
  methods := #[]
  instanceTypes := #[]
  staticTypes := #[]
  resolved := Array.replicate 8 none
  statics := none }

/-- the primitive byte -/
def k15 : Class := { plain "byte" none with kind := .primitive 'B', accessFlags := 0x411 }
/-- [B -/
def k16 : Class := { plain "[B" (some 0) with kind := .array 15 .byte, interfaces := #[14, 3], accessFlags := 1041 }

/-- the primitive int -/
def k17 : Class := { plain "int" none with kind := .primitive 'I', accessFlags := 0x411 }
/-- [I -/
def k18 : Class := { plain "[I" (some 0) with kind := .array 17 .int, interfaces := #[14, 3], accessFlags := 1041 }

def heap : Heap := #[{ cls := 8, slots := #[.long 0, .int 1, .null, .int 0, .null, .int 0, .int 0], vm := .statics 8 },
  { cls := 11, slots := #[.int 0, .int 8, .int 0, .int 1], vm := .statics 11 },
  { cls := 12, slots := #[.null, .null, .null], vm := .statics 12 }]
def classes : Array Class := #[k0, k1, k2, k3, k4, k5, k6, k7, k8, k9, k10, k11, k12, k13, k14, k15, k16, k17, k18]
def interned : List (Array UInt16 × Addr) := []
def slotsUsed : Nat := 14
def theMethod : MethodId := ⟨1, 2⟩
def args0 : Array Value := #[.int 5, .int 63]
def aboutOver (below : List Frame) : State where
  vm := { classes := classes, interned := interned.toArray }
  heap := heap
  slotsUsed := slotsUsed
  threads := #[{ frames := .invoking theMethod args0 :: below }]
def below0 : List Frame := [.native { method := ⟨0, 0⟩, args := #[] }]
def about1 : State := aboutOver below0
def p0 : Program := .bare "" "" ""
def e0 : Env := launch0.env 0 0 0
theorem w_frames : about1.frames = Frame.invoking theMethod args0 :: below0 := rfl
set_option maxRecDepth 65536 in
theorem w_args : argsFit about1.vm theMethod args0 = true := by decide +kernel
set_option maxRecDepth 65536 in
theorem w_heap : heapFits about1 = true := by decide +kernel
set_option maxRecDepth 65536 in
theorem w_runnable : about1.curStatus? = some .runnable := by decide +kernel
set_option maxRecDepth 65536 in
theorem w_alone : about1.alone = true := by decide +kernel
set_option maxRecDepth 65536 in
theorem w_named : about1.methodNamed? x = some theMethod := by decide +kernel
set_option maxRecDepth 65536 in
theorem w_hears : about1.hears theMethod below0 = true := by decide +kernel
set_option maxRecDepth 65536 in
theorem w_ripe : about1.ripe theMethod args0 below0 = true := by decide +kernel
theorem w_running : about1.status = .running := rfl
set_option maxRecDepth 65536 in
theorem w_room : about1.hasRoom e0.platform room_1 = true :=
  launch0.hasRoom_least _ room_1 (by decide +kernel) (by decide +kernel) (by decide +kernel) (by decide +kernel) (by decide +kernel) (by decide +kernel)
theorem allAtoms_all (ts : List Jvm.Cond) (a : Array Jvm.Value) (st : Jvm.State) : (allAtoms ts).before a st = ts.all (fun c => c.before a st) := by
  induction ts with
  | nil => rfl
  | cons c t ih =>
    show (Jvm.Cond.and c (allAtoms t)).before a st = _
    rw [Jvm.Cond.before_and, ih, List.all_cons]
def words1 : List Jvm.Cond := Jvm.Cond.code x code maxLocals ret :: tables_1
/-- a 'code' word, met by the world's own term for the bytes: nothing is compared byte by byte -/
theorem code_word {y : MethodName} {bytes : ByteArray} {mx : Nat} {rt : Option FieldType} {a : Array Value} {s : State} {m : MethodId} {meth : Method} {c : Code} (h1 : s.methodNamed? y = some m) (h2 : s.vm.method? m = some meth) (h3 : meth.code = some c) (h4 : c.code = bytes)
    (h5 : (c.maxLocals == mx && c.exceptionTable.isEmpty && decide (c.maxStack ≤ mostOperands) && decide (meth.sig.returnType = rt) && !meth.locks && decide (parseMethodDescriptor y.desc = some meth.sig)) = true) : (Jvm.Cond.code y bytes mx rt).before a s = true := by
  simp only [Bool.and_eq_true, beq_iff_eq, Bool.not_eq_true', decide_eq_true_eq] at h5
  obtain ⟨⟨⟨⟨⟨g1, g2⟩, g3⟩, g4⟩, g5⟩, g6⟩ := h5
  simp [Cond.before, Cond.holds, Cond.value, h1, h2, h3, h4, g1, g2, g3, g4, g5, g6]
def isCode : Jvm.Cond → Bool
  | .code _ _ _ _ => true
  | _ => false
theorem all_split {L : List Jvm.Cond} {P : Jvm.Cond → Bool} (h1 : L.all (fun c => isCode c || P c) = true) (h2 : ∀ c ∈ L.filter isCode, P c = true) : L.all P = true := by
  refine List.all_eq_true.mpr fun c hc => ?_
  have h := List.all_eq_true.mp h1 c hc
  rcases Bool.eq_false_or_eq_true (isCode c) with hi | hi
  · exact h2 c (List.mem_filter.mpr ⟨hc, hi⟩)
  · simpa [hi] using h
set_option maxRecDepth 65536 in
theorem w_c0 : (Jvm.Cond.code x code maxLocals ret).before args0 about1 = true := code_word (m := ⟨1, 2⟩) (meth := k1m2) (c := k1c2) (by decide +kernel) rfl rfl rfl (by decide +kernel)
set_option maxRecDepth 65536 in
theorem w_c1 : (Jvm.Cond.code ({ cls := "com/example/hits_in_context/hitsincontext/model/TermPattern", name := "isWildcard", desc := "(I)Z" } : Jvm.MethodName) prog_43_method_3_code (1 : Nat) (Option.some Jvm.ClassFile.FieldType.boolean)).before args0 about1 = true := code_word (m := ⟨2, 1⟩) (meth := k2m1) (c := k2c1) (by decide +kernel) rfl rfl rfl (by decide +kernel)
set_option maxRecDepth 65536 in
theorem w_c2 : (Jvm.Cond.code ({ cls := "com/example/hits_in_context/hitsincontext/model/TermPatternIsWildcardPinLaw", name := "agrees", desc := "(I)Z" } : Jvm.MethodName) method_2_code (4 : Nat) (Option.some Jvm.ClassFile.FieldType.boolean)).before args0 about1 = true := code_word (m := ⟨1, 1⟩) (meth := k1m1) (c := k1c1) (by decide +kernel) rfl rfl rfl (by decide +kernel)
set_option maxRecDepth 65536 in
theorem w_c3 : (Jvm.Cond.code ({ cls := "java/lang/String", name := "valueOf", desc := "(C)Ljava/lang/String;" } : Jvm.MethodName) jdk_42_method_139_code (1 : Nat) (Option.some (Jvm.ClassFile.FieldType.object "java/lang/String"))).before args0 about1 = true := code_word (m := ⟨8, 4⟩) (meth := k8m4) (c := k8c4) (by decide +kernel) rfl rfl rfl (by decide +kernel)
set_option maxRecDepth 65536 in
theorem w_c4 : (Jvm.Cond.code ({ cls := "java/lang/StringLatin1", name := "canEncode", desc := "(C)Z" } : Jvm.MethodName) jdk_43_method_3_code (1 : Nat) (Option.some Jvm.ClassFile.FieldType.boolean)).before args0 about1 = true := code_word (m := ⟨9, 1⟩) (meth := k9m1) (c := k9c1) (by decide +kernel) rfl rfl rfl (by decide +kernel)
set_option maxRecDepth 65536 in
theorem w_c5 : (Jvm.Cond.code ({ cls := "java/lang/StringLatin1", name := "toBytes", desc := "(C)[B" } : Jvm.MethodName) jdk_43_method_46_code (1 : Nat) (Option.some (Jvm.ClassFile.FieldType.array Jvm.ClassFile.FieldType.byte))).before args0 about1 = true := code_word (m := ⟨9, 5⟩) (meth := k9m5) (c := k9c5) (by decide +kernel) rfl rfl rfl (by decide +kernel)
set_option maxRecDepth 65536 in
theorem w_c6 : (Jvm.Cond.code ({ cls := "java/lang/String", name := "<init>", desc := "([BB)V" } : Jvm.MethodName) jdk_42_method_151_code (3 : Nat) (Option.none : Option Jvm.ClassFile.FieldType)).before args0 about1 = true := code_word (m := ⟨8, 5⟩) (meth := k8m5) (c := k8c5) (by decide +kernel) rfl rfl rfl (by decide +kernel)
set_option maxRecDepth 65536 in
theorem w_c7 : (Jvm.Cond.code ({ cls := "java/lang/Object", name := "<init>", desc := "()V" } : Jvm.MethodName) object_method_1_code (1 : Nat) (Option.none : Option Jvm.ClassFile.FieldType)).before args0 about1 = true := code_word (m := ⟨0, 0⟩) (meth := k0m0) (c := k0c0) (by decide +kernel) rfl rfl rfl (by decide +kernel)
set_option maxRecDepth 65536 in
theorem w_c8 : (Jvm.Cond.code ({ cls := "com/example/hits_in_context/hitsincontext/model/TermPattern", name := "hasWildcard", desc := "(Ljava/lang/String;)Z" } : Jvm.MethodName) prog_43_method_2_code (1 : Nat) (Option.some Jvm.ClassFile.FieldType.boolean)).before args0 about1 = true := code_word (m := ⟨2, 0⟩) (meth := k2m0) (c := k2c0) (by decide +kernel) rfl rfl rfl (by decide +kernel)
set_option maxRecDepth 65536 in
theorem w_c9 : (Jvm.Cond.code ({ cls := "java/lang/String", name := "indexOf", desc := "(I)I" } : Jvm.MethodName) jdk_42_method_79_code (2 : Nat) (Option.some Jvm.ClassFile.FieldType.int)).before args0 about1 = true := code_word (m := ⟨8, 2⟩) (meth := k8m2) (c := k8c2) (by decide +kernel) rfl rfl rfl (by decide +kernel)
set_option maxRecDepth 65536 in
theorem w_c10 : (Jvm.Cond.code ({ cls := "java/lang/String", name := "indexOf", desc := "(II)I" } : Jvm.MethodName) jdk_42_method_80_code (3 : Nat) (Option.some Jvm.ClassFile.FieldType.int)).before args0 about1 = true := code_word (m := ⟨8, 3⟩) (meth := k8m3) (c := k8c3) (by decide +kernel) rfl rfl rfl (by decide +kernel)
set_option maxRecDepth 65536 in
theorem w_c11 : (Jvm.Cond.code ({ cls := "java/lang/String", name := "isLatin1", desc := "()Z" } : Jvm.MethodName) jdk_42_method_154_code (1 : Nat) (Option.some Jvm.ClassFile.FieldType.boolean)).before args0 about1 = true := code_word (m := ⟨8, 7⟩) (meth := k8m7) (c := k8c7) (by decide +kernel) rfl rfl rfl (by decide +kernel)
set_option maxRecDepth 65536 in
theorem w_c12 : (Jvm.Cond.code ({ cls := "java/lang/String", name := "length", desc := "()I" } : Jvm.MethodName) jdk_42_method_54_code (1 : Nat) (Option.some Jvm.ClassFile.FieldType.int)).before args0 about1 = true := code_word (m := ⟨8, 1⟩) (meth := k8m1) (c := k8c1) (by decide +kernel) rfl rfl rfl (by decide +kernel)
set_option maxRecDepth 65536 in
theorem w_c13 : (Jvm.Cond.code ({ cls := "java/lang/String", name := "coder", desc := "()B" } : Jvm.MethodName) jdk_42_method_152_code (1 : Nat) (Option.some Jvm.ClassFile.FieldType.byte)).before args0 about1 = true := code_word (m := ⟨8, 6⟩) (meth := k8m6) (c := k8c6) (by decide +kernel) rfl rfl rfl (by decide +kernel)
set_option maxRecDepth 65536 in
theorem w_c14 : (Jvm.Cond.code ({ cls := "java/lang/StringLatin1", name := "indexOf", desc := "([BIII)I" } : Jvm.MethodName) jdk_43_method_22_code (4 : Nat) (Option.some Jvm.ClassFile.FieldType.int)).before args0 about1 = true := code_word (m := ⟨9, 3⟩) (meth := k9m3) (c := k9c3) (by decide +kernel) rfl rfl rfl (by decide +kernel)
set_option maxRecDepth 65536 in
theorem w_c15 : (Jvm.Cond.code ({ cls := "java/lang/StringLatin1", name := "canEncode", desc := "(I)Z" } : Jvm.MethodName) jdk_43_method_4_code (1 : Nat) (Option.some Jvm.ClassFile.FieldType.boolean)).before args0 about1 = true := code_word (m := ⟨9, 2⟩) (meth := k9m2) (c := k9c2) (by decide +kernel) rfl rfl rfl (by decide +kernel)
set_option maxRecDepth 65536 in
theorem w_c16 : (Jvm.Cond.code ({ cls := "java/lang/Math", name := "max", desc := "(II)I" } : Jvm.MethodName) jdk_29_method_65_code (2 : Nat) (Option.some Jvm.ClassFile.FieldType.int)).before args0 about1 = true := code_word (m := ⟨10, 1⟩) (meth := k10m1) (c := k10c1) (by decide +kernel) rfl rfl rfl (by decide +kernel)
set_option maxRecDepth 65536 in
theorem w_c17 : (Jvm.Cond.code ({ cls := "java/lang/Math", name := "min", desc := "(II)I" } : Jvm.MethodName) jdk_29_method_69_code (2 : Nat) (Option.some Jvm.ClassFile.FieldType.int)).before args0 about1 = true := code_word (m := ⟨10, 2⟩) (meth := k10m2) (c := k10c2) (by decide +kernel) rfl rfl rfl (by decide +kernel)
set_option maxRecDepth 65536 in
theorem w_c18 : (Jvm.Cond.code ({ cls := "java/lang/StringLatin1", name := "indexOfChar", desc := "([BIII)I" } : Jvm.MethodName) jdk_43_method_23_code (6 : Nat) (Option.some Jvm.ClassFile.FieldType.int)).before args0 about1 = true := code_word (m := ⟨9, 4⟩) (meth := k9m4) (c := k9c4) (by decide +kernel) rfl rfl rfl (by decide +kernel)
set_option maxRecDepth 65536 in
theorem w_c19 : (Jvm.Cond.code ({ cls := "java/lang/StringUTF16", name := "toBytes", desc := "(C)[B" } : Jvm.MethodName) jdk_52_method_24_code (2 : Nat) (Option.some (Jvm.ClassFile.FieldType.array Jvm.ClassFile.FieldType.byte))).before args0 about1 = true := code_word (m := ⟨11, 4⟩) (meth := k11m4) (c := k11c4) (by decide +kernel) rfl rfl rfl (by decide +kernel)
set_option maxRecDepth 65536 in
theorem w_c20 : (Jvm.Cond.code ({ cls := "java/lang/StringUTF16", name := "putChar", desc := "([BII)V" } : Jvm.MethodName) jdk_52_method_4_code (3 : Nat) (Option.none : Option Jvm.ClassFile.FieldType)).before args0 about1 = true := code_word (m := ⟨11, 1⟩) (meth := k11m1) (c := k11c1) (by decide +kernel) rfl rfl rfl (by decide +kernel)
set_option maxRecDepth 65536 in
theorem w_c21 : (Jvm.Cond.code ({ cls := "java/lang/StringUTF16", name := "indexOf", desc := "([BIII)I" } : Jvm.MethodName) jdk_52_method_40_code (4 : Nat) (Option.some Jvm.ClassFile.FieldType.int)).before args0 about1 = true := code_word (m := ⟨11, 5⟩) (meth := k11m5) (c := k11c5) (by decide +kernel) rfl rfl rfl (by decide +kernel)
set_option maxRecDepth 65536 in
theorem w_c22 : (Jvm.Cond.code ({ cls := "java/lang/StringUTF16", name := "indexOfChar", desc := "([BIII)I" } : Jvm.MethodName) jdk_52_method_47_code (4 : Nat) (Option.some Jvm.ClassFile.FieldType.int)).before args0 about1 = true := code_word (m := ⟨11, 6⟩) (meth := k11m6) (c := k11c6) (by decide +kernel) rfl rfl rfl (by decide +kernel)
set_option maxRecDepth 65536 in
theorem w_c23 : (Jvm.Cond.code ({ cls := "java/lang/StringUTF16", name := "checkBoundsBeginEnd", desc := "(II[B)V" } : Jvm.MethodName) jdk_52_method_93_code (3 : Nat) (Option.none : Option Jvm.ClassFile.FieldType)).before args0 about1 = true := code_word (m := ⟨11, 8⟩) (meth := k11m8) (c := k11c8) (by decide +kernel) rfl rfl rfl (by decide +kernel)
set_option maxRecDepth 65536 in
theorem w_c24 : (Jvm.Cond.code ({ cls := "java/lang/StringUTF16", name := "length", desc := "([B)I" } : Jvm.MethodName) jdk_52_method_6_code (1 : Nat) (Option.some Jvm.ClassFile.FieldType.int)).before args0 about1 = true := code_word (m := ⟨11, 3⟩) (meth := k11m3) (c := k11c3) (by decide +kernel) rfl rfl rfl (by decide +kernel)
set_option maxRecDepth 65536 in
theorem w_c25 : (Jvm.Cond.code ({ cls := "java/lang/String", name := "checkBoundsBeginEnd", desc := "(III)V" } : Jvm.MethodName) jdk_42_method_158_code (3 : Nat) (Option.none : Option Jvm.ClassFile.FieldType)).before args0 about1 = true := code_word (m := ⟨8, 8⟩) (meth := k8m8) (c := k8c8) (by decide +kernel) rfl rfl rfl (by decide +kernel)
set_option maxRecDepth 65536 in
theorem w_c26 : (Jvm.Cond.code ({ cls := "jdk/internal/util/Preconditions", name := "checkFromToIndex", desc := "(IIILjava/util/function/BiFunction;)I" } : Jvm.MethodName) jdk_41_method_12_code (4 : Nat) (Option.some Jvm.ClassFile.FieldType.int)).before args0 about1 = true := code_word (m := ⟨12, 1⟩) (meth := k12m1) (c := k12c1) (by decide +kernel) rfl rfl rfl (by decide +kernel)
set_option maxRecDepth 65536 in
theorem w_c27 : (Jvm.Cond.code ({ cls := "java/lang/StringUTF16", name := "indexOfCharUnsafe", desc := "([BIII)I" } : Jvm.MethodName) jdk_52_method_48_code (5 : Nat) (Option.some Jvm.ClassFile.FieldType.int)).before args0 about1 = true := code_word (m := ⟨11, 7⟩) (meth := k11m7) (c := k11c7) (by decide +kernel) rfl rfl rfl (by decide +kernel)
set_option maxRecDepth 65536 in
theorem w_c28 : (Jvm.Cond.code ({ cls := "java/lang/StringUTF16", name := "getChar", desc := "([BI)C" } : Jvm.MethodName) jdk_52_method_5_code (2 : Nat) (Option.some Jvm.ClassFile.FieldType.char)).before args0 about1 = true := code_word (m := ⟨11, 2⟩) (meth := k11m2) (c := k11c2) (by decide +kernel) rfl rfl rfl (by decide +kernel)
def codes1 : List Jvm.Cond := [Jvm.Cond.code x code maxLocals ret, Jvm.Cond.code ({ cls := "com/example/hits_in_context/hitsincontext/model/TermPattern", name := "isWildcard", desc := "(I)Z" } : Jvm.MethodName) prog_43_method_3_code (1 : Nat) (Option.some Jvm.ClassFile.FieldType.boolean), Jvm.Cond.code ({ cls := "com/example/hits_in_context/hitsincontext/model/TermPatternIsWildcardPinLaw", name := "agrees", desc := "(I)Z" } : Jvm.MethodName) method_2_code (4 : Nat) (Option.some Jvm.ClassFile.FieldType.boolean), Jvm.Cond.code ({ cls := "java/lang/String", name := "valueOf", desc := "(C)Ljava/lang/String;" } : Jvm.MethodName) jdk_42_method_139_code (1 : Nat) (Option.some (Jvm.ClassFile.FieldType.object "java/lang/String")), Jvm.Cond.code ({ cls := "java/lang/StringLatin1", name := "canEncode", desc := "(C)Z" } : Jvm.MethodName) jdk_43_method_3_code (1 : Nat) (Option.some Jvm.ClassFile.FieldType.boolean), Jvm.Cond.code ({ cls := "java/lang/StringLatin1", name := "toBytes", desc := "(C)[B" } : Jvm.MethodName) jdk_43_method_46_code (1 : Nat) (Option.some (Jvm.ClassFile.FieldType.array Jvm.ClassFile.FieldType.byte)), Jvm.Cond.code ({ cls := "java/lang/String", name := "<init>", desc := "([BB)V" } : Jvm.MethodName) jdk_42_method_151_code (3 : Nat) (Option.none : Option Jvm.ClassFile.FieldType), Jvm.Cond.code ({ cls := "java/lang/Object", name := "<init>", desc := "()V" } : Jvm.MethodName) object_method_1_code (1 : Nat) (Option.none : Option Jvm.ClassFile.FieldType), Jvm.Cond.code ({ cls := "com/example/hits_in_context/hitsincontext/model/TermPattern", name := "hasWildcard", desc := "(Ljava/lang/String;)Z" } : Jvm.MethodName) prog_43_method_2_code (1 : Nat) (Option.some Jvm.ClassFile.FieldType.boolean), Jvm.Cond.code ({ cls := "java/lang/String", name := "indexOf", desc := "(I)I" } : Jvm.MethodName) jdk_42_method_79_code (2 : Nat) (Option.some Jvm.ClassFile.FieldType.int), Jvm.Cond.code ({ cls := "java/lang/String", name := "indexOf", desc := "(II)I" } : Jvm.MethodName) jdk_42_method_80_code (3 : Nat) (Option.some Jvm.ClassFile.FieldType.int), Jvm.Cond.code ({ cls := "java/lang/String", name := "isLatin1", desc := "()Z" } : Jvm.MethodName) jdk_42_method_154_code (1 : Nat) (Option.some Jvm.ClassFile.FieldType.boolean), Jvm.Cond.code ({ cls := "java/lang/String", name := "length", desc := "()I" } : Jvm.MethodName) jdk_42_method_54_code (1 : Nat) (Option.some Jvm.ClassFile.FieldType.int), Jvm.Cond.code ({ cls := "java/lang/String", name := "coder", desc := "()B" } : Jvm.MethodName) jdk_42_method_152_code (1 : Nat) (Option.some Jvm.ClassFile.FieldType.byte), Jvm.Cond.code ({ cls := "java/lang/StringLatin1", name := "indexOf", desc := "([BIII)I" } : Jvm.MethodName) jdk_43_method_22_code (4 : Nat) (Option.some Jvm.ClassFile.FieldType.int), Jvm.Cond.code ({ cls := "java/lang/StringLatin1", name := "canEncode", desc := "(I)Z" } : Jvm.MethodName) jdk_43_method_4_code (1 : Nat) (Option.some Jvm.ClassFile.FieldType.boolean), Jvm.Cond.code ({ cls := "java/lang/Math", name := "max", desc := "(II)I" } : Jvm.MethodName) jdk_29_method_65_code (2 : Nat) (Option.some Jvm.ClassFile.FieldType.int), Jvm.Cond.code ({ cls := "java/lang/Math", name := "min", desc := "(II)I" } : Jvm.MethodName) jdk_29_method_69_code (2 : Nat) (Option.some Jvm.ClassFile.FieldType.int), Jvm.Cond.code ({ cls := "java/lang/StringLatin1", name := "indexOfChar", desc := "([BIII)I" } : Jvm.MethodName) jdk_43_method_23_code (6 : Nat) (Option.some Jvm.ClassFile.FieldType.int), Jvm.Cond.code ({ cls := "java/lang/StringUTF16", name := "toBytes", desc := "(C)[B" } : Jvm.MethodName) jdk_52_method_24_code (2 : Nat) (Option.some (Jvm.ClassFile.FieldType.array Jvm.ClassFile.FieldType.byte)), Jvm.Cond.code ({ cls := "java/lang/StringUTF16", name := "putChar", desc := "([BII)V" } : Jvm.MethodName) jdk_52_method_4_code (3 : Nat) (Option.none : Option Jvm.ClassFile.FieldType), Jvm.Cond.code ({ cls := "java/lang/StringUTF16", name := "indexOf", desc := "([BIII)I" } : Jvm.MethodName) jdk_52_method_40_code (4 : Nat) (Option.some Jvm.ClassFile.FieldType.int), Jvm.Cond.code ({ cls := "java/lang/StringUTF16", name := "indexOfChar", desc := "([BIII)I" } : Jvm.MethodName) jdk_52_method_47_code (4 : Nat) (Option.some Jvm.ClassFile.FieldType.int), Jvm.Cond.code ({ cls := "java/lang/StringUTF16", name := "checkBoundsBeginEnd", desc := "(II[B)V" } : Jvm.MethodName) jdk_52_method_93_code (3 : Nat) (Option.none : Option Jvm.ClassFile.FieldType), Jvm.Cond.code ({ cls := "java/lang/StringUTF16", name := "length", desc := "([B)I" } : Jvm.MethodName) jdk_52_method_6_code (1 : Nat) (Option.some Jvm.ClassFile.FieldType.int), Jvm.Cond.code ({ cls := "java/lang/String", name := "checkBoundsBeginEnd", desc := "(III)V" } : Jvm.MethodName) jdk_42_method_158_code (3 : Nat) (Option.none : Option Jvm.ClassFile.FieldType), Jvm.Cond.code ({ cls := "jdk/internal/util/Preconditions", name := "checkFromToIndex", desc := "(IIILjava/util/function/BiFunction;)I" } : Jvm.MethodName) jdk_41_method_12_code (4 : Nat) (Option.some Jvm.ClassFile.FieldType.int), Jvm.Cond.code ({ cls := "java/lang/StringUTF16", name := "indexOfCharUnsafe", desc := "([BIII)I" } : Jvm.MethodName) jdk_52_method_48_code (5 : Nat) (Option.some Jvm.ClassFile.FieldType.int), Jvm.Cond.code ({ cls := "java/lang/StringUTF16", name := "getChar", desc := "([BI)C" } : Jvm.MethodName) jdk_52_method_5_code (2 : Nat) (Option.some Jvm.ClassFile.FieldType.char)]
set_option maxRecDepth 65536 in
theorem codes_eq : words1.filter isCode = codes1 := rfl
theorem w_codes : ∀ c ∈ words1.filter isCode, c.before args0 about1 = true := by
  rw [codes_eq]
  intro c hc
  simp only [codes1, List.mem_cons, List.not_mem_nil, or_false] at hc
  rcases hc with rfl | rfl | rfl | rfl | rfl | rfl | rfl | rfl | rfl | rfl | rfl | rfl | rfl | rfl | rfl | rfl | rfl | rfl | rfl | rfl | rfl | rfl | rfl | rfl | rfl | rfl | rfl | rfl | rfl
  · exact w_c0
  · exact w_c1
  · exact w_c2
  · exact w_c3
  · exact w_c4
  · exact w_c5
  · exact w_c6
  · exact w_c7
  · exact w_c8
  · exact w_c9
  · exact w_c10
  · exact w_c11
  · exact w_c12
  · exact w_c13
  · exact w_c14
  · exact w_c15
  · exact w_c16
  · exact w_c17
  · exact w_c18
  · exact w_c19
  · exact w_c20
  · exact w_c21
  · exact w_c22
  · exact w_c23
  · exact w_c24
  · exact w_c25
  · exact w_c26
  · exact w_c27
  · exact w_c28
set_option maxRecDepth 65536 in
theorem w_t1 : (words1.take 24).all (fun c => isCode c || c.before args0 about1) = true := by decide +kernel
set_option maxRecDepth 65536 in
theorem w_t2 : ((words1.drop 24).take 24).all (fun c => isCode c || c.before args0 about1) = true := by decide +kernel
set_option maxRecDepth 65536 in
theorem w_t3 : (((words1.drop 24).drop 24).take 24).all (fun c => isCode c || c.before args0 about1) = true := by decide +kernel
set_option maxRecDepth 65536 in
theorem w_t4 : ((((words1.drop 24).drop 24).drop 24).take 24).all (fun c => isCode c || c.before args0 about1) = true := by decide +kernel
set_option maxRecDepth 65536 in
theorem w_t5 : ((((words1.drop 24).drop 24).drop 24).drop 24).all (fun c => isCode c || c.before args0 about1) = true := by decide +kernel
theorem w_tables : (allAtoms (Jvm.Cond.code x code maxLocals ret :: tables_1)).before args0 about1 = true := by
  rw [allAtoms_all]
  show words1.all (fun c => c.before args0 about1) = true
  refine all_split ?_ w_codes
  rw [← List.take_append_drop 24 words1, List.all_append, w_t1, ← List.take_append_drop 24 (words1.drop 24), List.all_append, w_t2, ← List.take_append_drop 24 ((words1.drop 24).drop 24), List.all_append, w_t3, ← List.take_append_drop 24 (((words1.drop 24).drop 24).drop 24), List.all_append, w_t4, w_t5]
  rfl
set_option maxRecDepth 65536 in
theorem w_rest : rest_1_c.before args0 about1 = true := by decide +kernel
set_option maxRecDepth 65536 in
theorem w_case : (Jvm.Cond.and given_1 narrow_1).before args0 about1 = true := by decide +kernel
theorem w_applies : (headSpec (Jvm.Cond.code x code maxLocals ret :: tables_1) room_1).applies x e0.platform about1 = true :=
  (Spec.applies_iff w_frames).mpr ⟨w_running, w_runnable, w_alone, w_named, w_hears, w_ripe, w_room, w_tables⟩
theorem atStart : AtStart classFile x code maxLocals ret World_1 tables_1 room_1 Calls_1 rest_1 Pre_1 launch0 p0 e0 about1 theMethod args0 below0 :=
  ⟨lists_1, trivial, launch0.admits_env _ _ _, launch0.least_env, fairChoices_fair.cas, fairChoices_fair.clock, w_frames, w_args, w_heap, w_applies, trivial, w_rest, w_case⟩
end start1
theorem witness_1 : WitnessClaimed_1 := ⟨start1.p0, start1.e0, start1.about1, start1.theMethod, start1.args0, start1.below0, start1.atStart⟩
end Jvm.Pilot.@@N@@
