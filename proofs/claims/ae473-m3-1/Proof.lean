import JvmDerived
import JvmDerived.Pilot.@@N@@Statement
import JvmDerived.Pilot.@@N@@Code
set_option linter.unusedVariables false
set_option linter.unusedSimpArgs false
namespace Jvm.Pilot.@@N@@
open Jvm Jvm.ClassFile Sem Op Lib Jvm.Free Jvm.Stand Jvm.LawKit Jvm.RoadKit Bundle Jvm.Pilot.@@N@@.Jvm.D
/-- from the state A the body comes to its end as Q says -/
def own_Fin (tb : Tables) (e : Env) (below : List Frame) (s : State) (Q : Option Value → Heap → List Loc → Prop) (kc ks : Nat) (A : State) : Prop :=
  ∃ s₂ o, Steps tb e below A s₂ ∧ s₂.status = .running ∧ Ended s₂ below o ∧ ∃ v L, o = .returned v ∧ Q v s₂.heap L ∧ FrameEnd s o s₂ L kc ks
theorem own_G (tb : Tables) (e : Env) (below : List Frame) (s : State) (Q : Option Value → Heap → List Loc → Prop) (kc ks : Nat) :
    ∃ G : State → Prop, (∀ {A B : State}, (∀ t, Steps tb e below B t → Steps tb e below A t) → G B → G A) ∧ (∀ A, own_Fin tb e below s Q kc ks A → G A) ∧ (∀ A, G A → own_Fin tb e below s Q kc ks A) :=
  ⟨own_Fin tb e below s Q kc ks, fun h k => by obtain ⟨s₂, o, h1, r⟩ := k; exact ⟨s₂, o, h _ h1, r⟩, fun _ h => h, fun _ h => h⟩
theorem own_ret {p : Program} {l : Launch} {e : Env} {R : Room} {s : State} {m : MethodId} {args : Array Value} {below : List Frame} {meth : Method} {c : Code} {T : State} {locs : List Loc} {cells slots : Nat} {Q : Option Value → Heap → List Loc → Prop} {kc ks : Nat} {A : State} {v : Option Value}
    (X : Stand p l e R s m args below meth c T locs cells slots) (hlk : meth.locks = false) (hv : meth.sig.returnType = none → v = none) (hQ : Q v T.heap locs) (hc : cells ≤ kc) (hs : slots ≤ ks)
    (st : ∀ fs, (∀ (f : JFrame) (acts : List Action), f.method = m → f.locked = none → f.entered = [] → (doReturn e (T.setTop f) acts v).1 = T.setFrames fs) → Steps p.tables e below A (T.setFrames fs)) : own_Fin p.tables e below s Q kc ks A := by
  obtain ⟨fs, hr, hrun, hended, hW, hsame⟩ := X.leave hv hlk
  exact ⟨_, _, st fs hr, hrun, hended, _, _, rfl, hQ, ⟨_, rfl⟩, hW, hsame.mono hc hs⟩
theorem own_old {Z : State} {n0 : Nat} {h : Heap} (O : Old Z n0 h) : n0 ≤ h.size := O.1 ▸ O.2.1
theorem own_cat {v : Value} (h : v.isRef = true) : v.category = 1 := by rcases ref_cases h with rfl | ⟨a, rfl⟩ <;> rfl
theorem own_mvM {Z s : State} {a0 args : Array Value} {own host : String} {index : Nat} {y : MethodName} (hZ : Z.Warmed39 s.vm) (w : (Jvm.Cond.methodLinkNest own index y host).before a0 Z = true) : (Jvm.Cond.methodLinkNest own index y host).before args s = true := (Cond.methodLinkNest_wide hZ w :)
theorem own_ne_arv {Z : State} {h : Heap} {a b : Addr} {C : String} {a0 : Array Value} {n : Nat} {k : ClassId} {ty : FieldType} {z : Int32} {vs : List Value} {d : Value} (E : Exa Z h a C) (wi : (Jvm.Cond.instantiable C n).before a0 Z = true) (A : Arv Z h b k ty z vs d) : a ≠ b := by
  obtain ⟨c, A, -⟩ := A
  exact ne_arr E wi A
theorem own_narB (x : Int32) : nar .byte x.toInt8.toInt32 = x.toInt8.toInt32 := by
  refine Int32.toInt_inj.mp ?_
  have h1 := c_i2b x
  have h2 := c_i2b x.toInt8.toInt32
  show (x.toInt8.toInt32.toInt8.toInt32).toInt = _
  omega
theorem own_narC (x : Int32) : nar .char x.toUInt32.toUInt16.toUInt32.toInt32 = x.toUInt32.toUInt16.toUInt32.toInt32 := by
  refine Int32.toInt_inj.mp ?_
  have h1 := c_i2c x
  have h2 := c_i2c x.toUInt32.toUInt16.toUInt32.toInt32
  show (x.toUInt32.toUInt16.toUInt32.toInt32.toUInt32.toUInt16.toUInt32.toInt32).toInt = _
  omega
theorem own_exa {s : State} {args : Array Value} {t : Term} {K : String} (h : (Jvm.Cond.exactly t K).value args s none s [] = some true) : ∃ a, t.eval args s none [] s = some (.ref a) ∧ Exa s s.heap a K := by
  obtain ⟨a, c', cell, k, e1, e2, e3, e4, e5, e6, e7⟩ := Cond.exactly_spec (Cond.before_iff.mpr h)
  exact ⟨a, e1, Exa.start e1 h⟩
theorem own_fint {s : State} {args : Array Value} {t : Term} {C n d : String} {a : Addr} {k : Int32} (ht : t.eval args s none [] s = some (.ref a)) (h : (Jvm.Cond.eq (.field t C n d) (.int k)).value args s none s [] = some true) : Fld s s.heap a C n d (.int k) := by
  refine Fld.start ?_
  rw [← fld_at ht]
  have hk : (Term.int k).eval args s none [] s = some (.int k) := rfl
  cases q : (Term.field t C n d).eval args s none [] s with
  | none => simp [Cond.value, q] at h
  | some v => cases v <;> simp [Cond.value, q, hk] at h; rw [h]
theorem own_flong {s : State} {args : Array Value} {t : Term} {C n d : String} {a : Addr} {k : Int64} (ht : t.eval args s none [] s = some (.ref a)) (h : (Jvm.Cond.eq (.field t C n d) (.long k)).value args s none s [] = some true) : Fld s s.heap a C n d (.long k) := by
  refine Fld.start ?_
  rw [← fld_at ht]
  have hk : (Term.long k).eval args s none [] s = some (.long k) := rfl
  cases q : (Term.field t C n d).eval args s none [] s with
  | none => simp [Cond.value, q] at h
  | some v => cases v <;> simp [Cond.value, q, hk] at h; rw [h]
theorem own_not0 {s : State} {args : Array Value} {t : Term} {x : Int32} (ev : t.eval args s none [] s = some (.int x)) (h : (Jvm.Cond.not (.eq t (.int 0))).value args s none s [] = some true) : ¬ (x = (0 : Int32)) := by
  intro q
  subst q
  have k : (Term.int 0).eval args s none [] s = some (.int 0) := rfl
  simp [Cond.value, ev, k] at h
theorem own_isref {s : State} {args : Array Value} {t : Term} (h : (Jvm.Cond.isRef t).value args s none s [] = some true) : ∃ v, t.eval args s none [] s = some v ∧ v.isRef = true := by
  cases q : t.eval args s none [] s with
  | none => simp [Cond.value, q] at h
  | some v => refine ⟨v, rfl, ?_⟩; cases v <;> simp [Cond.value, q, Value.isRef] at h ⊢
theorem own_empty {s : State} (hf : Fit s) {args : Array Value} {t : Term} {ty : FieldType} (h4 : (Jvm.Cond.arrayOf t ty).value args s none s [] = some true) (h6 : (Jvm.Cond.eq (.length t) (.int 0)).value args s none s [] = some true) : ∃ (a : Addr) (k : ClassId), t.eval args s none [] s = some (.ref a) ∧ Arv s s.heap a k ty (0 : Int32) [] .null := by
  have e6 := eqv_i (Term.int_eval 0) h6
  obtain ⟨a, cell, ea, hat, -⟩ := Term.length_spec e6
  obtain ⟨c, A⟩ := Arr.start ea h4
  have hc := A.fin (Vm.Alike.refl _)
  have hl : c.slots.size < 2 ^ 31 := by
    rcases Nat.lt_or_ge c.slots.size (2 ^ 31) with q | q
    · exact q
    · simp [Term.eval, ea, hc, Nat.not_lt.mpr q] at e6
  have e8 := (len_f ea hc hl).symm.trans e6
  have e9 : c.slots.size.toInt32 = (0 : Int32) := by simpa using e8
  exact ⟨a, c.cls, ea, Arv.start hf A hl e9 (by decide) rfl trivial⟩
def own_EL : List (String × Nat) := [("java/lang/String", 7)]
theorem own_hEL {Z : State} {a0 : Array Value} (hw : ∀ d ∈ tables_1, d.before a0 Z = true) : EW Z a0 own_EL := (EW.cons (hw _ (List.mem_of_getElem? (i := 18) rfl)) (by decide) EW.nil)
theorem own_wS {Z : State} {a0 : Array Value} (hw : ∀ d ∈ tables_1, d.before a0 Z = true) : ∀ a ∈ Bundle.stringAtoms, a.before a0 Z = true := by
  intro a ha
  simp only [Bundle.stringAtoms, List.mem_cons, List.not_mem_nil, or_false] at ha
  rcases ha with rfl | rfl | rfl | rfl | rfl | rfl | rfl
  · exact (hw _ (List.mem_of_getElem? (i := 6) rfl))
  · exact (hw _ (List.mem_of_getElem? (i := 5) rfl))
  · exact (hw _ (List.mem_of_getElem? (i := 19) rfl))
  · exact (hw _ (List.mem_of_getElem? (i := 20) rfl))
  · exact (hw _ (List.mem_of_getElem? (i := 21) rfl))
  · exact (hw _ (List.mem_of_getElem? (i := 22) rfl))
  · exact (hw _ (List.mem_of_getElem? (i := 23) rfl))
/-- from the state A the body comes to its end as Q says; literals may have been made -/
def own_FinW (Z : State) (EL : List (String × Nat)) (tb : Tables) (e : Env) (below : List Frame) (s : State) (Q : Option Value → Heap → List Loc → Prop) (kc ks : Nat) (A : State) : Prop :=
  ∃ s₂ o, Steps tb e below A s₂ ∧ s₂.status = .running ∧ Ended s₂ below o ∧ ∃ v L, o = .returned v ∧ Q v s₂.heap L ∧ CHr Z EL s.vm s.heap s₂.vm s₂.heap ∧ ReturnedEndW s o s₂ L kc ks
theorem own_GW (Z : State) (EL : List (String × Nat)) (tb : Tables) (e : Env) (below : List Frame) (s : State) (Q : Option Value → Heap → List Loc → Prop) (kc ks : Nat) :
    ∃ G : State → Prop, (∀ {A B : State}, (∀ t, Steps tb e below B t → Steps tb e below A t) → G B → G A) ∧ (∀ A, own_FinW Z EL tb e below s Q kc ks A → G A) ∧ (∀ A, G A → own_FinW Z EL tb e below s Q kc ks A) :=
  ⟨own_FinW Z EL tb e below s Q kc ks, fun h k => by obtain ⟨s₂, o, h1, r⟩ := k; exact ⟨s₂, o, h _ h1, r⟩, fun _ h => h, fun _ h => h⟩
theorem own_retW {p : Program} {l : Launch} {e : Env} {R : Room} {s : State} {vm0 : Vm} {m : MethodId} {args : Array Value} {below : List Frame} {meth : Method} {c : Code} {T : State} {locs : List Loc} {cells slots : Nat} {Q : Option Value → Heap → List Loc → Prop} {kc ks k0 : Nat} {A : State} {v : Option Value} {Z : State} {EL : List (String × Nat)}
    (X : Stand p l e R (s.setVm vm0) m args below meth c T locs cells slots) (hlk : meth.locks = false) (hS : s.Since vm0 k0) (hk : k0 ≤ T.heap.size) (hv : meth.sig.returnType = none → v = none) (hQ : Q v T.heap locs) (hc : cells ≤ kc) (hs : slots ≤ ks) (hCR : CHr Z EL s.vm s.heap T.vm T.heap)
    (st : ∀ fs, (∀ (f : JFrame) (acts : List Action), f.method = m → f.locked = none → f.entered = [] → (doReturn e (T.setTop f) acts v).1 = T.setFrames fs) → Steps p.tables e below A (T.setFrames fs)) : own_FinW Z EL p.tables e below s Q kc ks A := by
  obtain ⟨fs, hr, hrun, hended, hW⟩ := X.leaveW hS hk hv hlk
  exact ⟨_, _, st fs hr, hrun, hended, _, _, rfl, hQ, hCR, hW.1, hW.2.1, hW.2.2.1, hW.2.2.2.mono hc hs⟩
theorem own_sf0 {Z : State} {EL : List (String × Nat)} {vm : Vm} {h : Heap} : ∀ x ∈ ([] : List Addr), x < h.size ∧ Safe Z EL vm h x := fun _ q => nomatch q
theorem own_sfS {Z : State} {EL : List (String × Nat)} {vm : Vm} {h : Heap} {x : Addr} {ws : List Addr} (lt : x < h.size) (n : Safe Z EL vm h x) (r : ∀ y ∈ ws, y < h.size ∧ Safe Z EL vm h y) : ∀ y ∈ x :: ws, y < h.size ∧ Safe Z EL vm h y := fun y q => by
  rcases List.mem_cons.mp q with rfl | q
  · exact ⟨lt, n⟩
  · exact r y q
theorem own_backH {l : Launch} {R : Room} {p : Program} {e : Env} {below : List Frame} {s : State} {args : Array Value} {Z : State} {a0 : Array Value} {EL : List (String × Nat)} {h : Heap} {vm0 : Vm} {xs : List Addr}
    {y : MethodName} {bytes : ByteArray} {maxL : Nat} {ret : Option FieldType} {rm : Room} {len W : Nat} {as' : Array Value} {Q : Option Value → Heap → List Loc → Prop}
    (hM : MetFree l y (head1 [Cond.code y bytes maxL ret] rm) (fun a U => a = as' ∧ Z.Warmed39 U.vm ∧ U.heap = h ∧ CHv Z EL U.vm h ∧ ∀ x ∈ xs, Safe Z EL U.vm h x) (fun _ _ _ _ _ => True) (fun _ U o U' => ∃ v L, o = .returned v ∧ Q v U'.heap L ∧ CHr Z EL U.vm U.heap U'.vm U'.heap ∧ ReturnedEndW U o U' L rm.cells rm.slots))
    (hZ : Z.Warmed39 vm0) (wc : (Cond.code y bytes maxL ret).before a0 Z = true) (wz : (Cond.initialized y.cls).before a0 Z = true) (hf : rm.frames + 1 ≤ R.frames) (hl : W + (maxL + 11) + rm.locals ≤ R.locals) (hEL : EW Z a0 EL) (H : CHv Z EL vm0 h) (hxs : ∀ x ∈ xs, x < h.size ∧ Safe Z EL vm0 h x) :
    BackS l R p e below (s.setVm vm0) args y len W (fun A a => a = as' ∧ A.U.heap = h ∧ A.cells + rm.cells ≤ R.cells ∧ A.slots + rm.slots ≤ R.slots)
      (fun A _ v B => ∃ L, Q v B.U.heap L ∧ B.locs = A.locs ++ L ∧ B.cells = A.cells + rm.cells ∧ B.slots = A.slots + rm.slots ∧ CHr Z EL vm0 h B.U.vm B.U.heap) := by
  refine BackS.of_freeW (bytes := bytes) (maxL := maxL) (ret := ret) (E := fun _ first o t L k n => k = rm.cells ∧ n = rm.slots ∧ (∃ v, o = .returned v ∧ Q v t.heap L) ∧ CHr Z EL first.vm first.heap t.vm t.heap) hM hf hl ?_ ?_ (fun _ _ _ _ _ _ _ _ _ => trivial) ?_ ?_
  · intro m meth c A a Y hp
    have hU : Z.Warmed39 A.U.vm := wtrans (s := s.setVm vm0) hZ Y.warmed
    refine ⟨?_, mv hU wc, mv hU wz, hp.2.2.1, hp.2.2.2⟩
    show (Cond.and _ .tt).before a A.U = true
    rw [Cond.before_and, mv hU wc]; rfl
  · intro m meth c A a g mk Y hp
    have B := CHv.at Y hZ hEL H
    exact ⟨hp.1, wtrans (s := s.setVm vm0) hZ Y.warmed, hp.2.1, B.1, fun x hx => B.safe (hxs x hx).1 (hxs x hx).2⟩
  · rintro _ _ _ _ ⟨v, L, h1, h2, h3, h4⟩
    exact ⟨L, _, _, h4, rfl, rfl, ⟨v, h1, h2⟩, h3⟩
  · rintro m meth c A a g mk v t L k n Y hp - - ⟨e1, e2, ⟨v', e3, e4⟩, e5⟩
    cases e3; subst e1 e2
    refine ⟨L, e4, rfl, rfl, rfl, (CHv.at Y hZ hEL H).trans ?_⟩
    rw [← hp.2.1]; exact e5
theorem own_and3 (a : Int32) : a &&& (3 : Int32) = (0 : Int32) ∨ a &&& (3 : Int32) = (1 : Int32) ∨ a &&& (3 : Int32) = (2 : Int32) ∨ a &&& (3 : Int32) = (3 : Int32) := by
  have h := c_mask a 3 2 (by decide) (by decide)
  have h1 : (a &&& (3 : Int32)).toInt = 0 ∨ (a &&& (3 : Int32)).toInt = 1 ∨ (a &&& (3 : Int32)).toInt = 2 ∨ (a &&& (3 : Int32)).toInt = 3 := by omega
  rcases h1 with q | q | q | q
  · exact Or.inl (Int32.toInt_inj.mp (by rw [q]; rfl))
  · exact Or.inr (Or.inl (Int32.toInt_inj.mp (by rw [q]; rfl)))
  · exact Or.inr (Or.inr (Or.inl (Int32.toInt_inj.mp (by rw [q]; rfl))))
  · exact Or.inr (Or.inr (Or.inr (Int32.toInt_inj.mp (by rw [q]; rfl))))
theorem own_lt255 (p : Int32) : ¬ ((255 : Int32) < ((p &&& (255 : Int32)).toUInt32.toUInt16.toUInt32.toInt32)) := by
  have h := c_mask p 255 8 (by decide) (by decide)
  have w := c_i2c (p &&& 255)
  have e : (255 : Int32).toInt = 255 := by decide
  rw [Int32.lt_iff_toInt_lt]; omega
theorem ef_0 (m : MethodId) (x0 : Int32)  : entryFrame m #[(.int x0)] 1 = mkF m 0 #[.val (.int x0)] [] := by first | (simp [entryFrame, mkF, argsToLocals, Value.category]; done) | rfl
theorem pn_0 : plainName "java/lang/StringLatin1" = true := by first | (simp [plainName, overriddenIn]; done) | decide +kernel
theorem d7_0 : decode jdk_43_method_3_code 0 = .ok (.iload_n 0, 1) := by decide +kernel
theorem d7_1 : decode jdk_43_method_3_code 1 = .ok (.sipush 255, 3) := by decide +kernel
theorem d7_4 : decode jdk_43_method_3_code 4 = .ok (.if_icmp .gt 7, 3) := by decide +kernel
theorem d7_11 : decode jdk_43_method_3_code 11 = .ok (.iconst 0, 1) := by decide +kernel
theorem d7_12 : decode jdk_43_method_3_code 12 = .ok (.ireturn, 1) := by decide +kernel
theorem d7_7 : decode jdk_43_method_3_code 7 = .ok (.iconst 1, 1) := by decide +kernel
theorem d7_8 : decode jdk_43_method_3_code 8 = .ok (.goto 4, 3) := by decide +kernel
def Q_canC (Z : State) (c : Int32) (h0 : Heap) (n0 : Nat) (v : Option Value) (h : Heap) (L : List Loc) : Prop := v = some (.int (if (255 : Int32) < c then (0 : Int32) else (1 : Int32))) ∧ Fr n0 L ∧ h = h0
set_option maxRecDepth 65536 in
set_option maxHeartbeats 40000000 in
theorem rm_canC (l : Launch) (Z : State) (a0 : Array Value) (hw : ∀ d ∈ tables_1, d.before a0 Z = true) (ws : List Jvm.Cond) (c : Int32) (h0 : Heap) (n0 : Nat) (O0 : Old Z n0 h0)  :
    MetFree l (⟨"java/lang/StringLatin1", "canEncode", "(C)Z"⟩ : MethodName) (head1 (Jvm.Cond.code (⟨"java/lang/StringLatin1", "canEncode", "(C)Z"⟩ : MethodName) jdk_43_method_3_code 1 (some .boolean) :: ws) ({ frames := 0, cells := 0, slots := 0, locals := 0 } : Room)) (fun aV U => aV = #[(.int c)] ∧ Z.Warmed39 U.vm ∧ U.heap = h0) (fun _ _ _ _ _ => True) (fun _ U o U' => ∃ v L, o = .returned v ∧ Q_canC Z c h0 n0 v U'.heap L ∧ FrameEnd U o U' L ({ frames := 0, cells := 0, slots := 0, locals := 0 } : Room).cells ({ frames := 0, cells := 0, slots := 0, locals := 0 } : Room).slots) := by
  refine MetFree.of_bodySF (plainFor_of_name pn_0) hisR ?_
  intro pr_ en_ st_ me_ args below meth_ co_ s₁ Bd hml0 hP hK
  obtain ⟨rfl, hZ, hh⟩ := hP
  have hx := Bd.exec
  have hby := Bd.bytes
  have hml : co_.maxLocals = 1 := hml0
  have hown : st_.vm.findClass "java/lang/StringLatin1" = some me_.cls := findClass_of_methodNamed Bd.named
  have hnm := (name_of_methodNamed Bd.named Bd.method).1
  have X0 : Stand pr_ l en_ ({ frames := 0, cells := 0, slots := 0, locals := 0 } : Room) st_ me_ #[(.int c)] below meth_ co_ s₁ [] 0 0 := Stand.of_body Bd
  have e0 : s₁.heap = h0 := by rw [← hh, Bd.state]; rfl
  have N0 := Fr.nil n0
  have K0 := Keep.refl h0 []
  obtain ⟨G, gv, gf, gb⟩ := own_G pr_.tables en_ below st_ (Q_canC Z c h0 n0) ({ frames := 0, cells := 0, slots := 0, locals := 0 } : Room).cells ({ frames := 0, cells := 0, slots := 0, locals := 0 } : Room).slots
  show own_Fin pr_.tables en_ below st_ (Q_canC Z c h0 n0) ({ frames := 0, cells := 0, slots := 0, locals := 0 } : Room).cells ({ frames := 0, cells := 0, slots := 0, locals := 0 } : Room).slots (s₁.setTop (entryFrame me_ #[(.int c)] 1))
  refine gb _ (gv (fun tQ kQ => castTop (ef_0 me_ c) kQ) ?_)
  show G (s₁.setTop (mkF me_ 0 #[.val (.int c)] []))
  refine gv (fun tQ kQ => XS.iloadN X0.here hx rfl (hb hby d7_0) rfl kQ) ?_
  show G (s₁.setTop (mkF me_ 1 #[.val (.int c)] [(.int c)]))
  refine gv (fun tQ kQ => XS.sipush X0.here hx rfl (hb hby d7_1) kQ) ?_
  show G (s₁.setTop (mkF me_ 4 #[.val (.int c)] [(.int (255 : Int32)), (.int c)]))
  by_cases hc1 : (255 : Int32) < c
  · refine gv (fun tQ kQ => XS.icmpYes X0.here hx rfl (pc0 := 4) (pc' := 11) rfl (hb hby d7_4) rfl (tlt hc1).2.2.1 (by decide) (by decide) kQ) ?_
    show G (s₁.setTop (mkF me_ 11 #[.val (.int c)] []))
    refine gv (fun tQ kQ => XS.iconst X0.here hx rfl (hb hby d7_11) kQ) ?_
    show G (s₁.setTop (mkF me_ 12 #[.val (.int c)] [(.int (0 : Int32))]))
    refine gf _ (own_ret X0 Bd.notSynchronized (v := some (.int (0 : Int32))) (fun h => by rw [Bd.returns] at h; cases h) ?_ (by decide) (by decide) (fun fs hr => retN X0 hx (t := .boolean) Bd.returns (by simp) (hb hby d7_12) hr))
    show Q_canC Z c h0 n0 _ s₁.heap _
    rw [e0]
    exact ⟨(by rw [if_pos hc1]), N0, rfl⟩
  · refine gv (fun tQ kQ => XS.icmpNo X0.here hx rfl (hb hby d7_4) rfl (flt hc1).2.2.1 kQ) ?_
    show G (s₁.setTop (mkF me_ 7 #[.val (.int c)] []))
    refine gv (fun tQ kQ => XS.iconst X0.here hx rfl (hb hby d7_7) kQ) ?_
    show G (s₁.setTop (mkF me_ 8 #[.val (.int c)] [(.int (1 : Int32))]))
    refine gv (fun tQ kQ => XS.goto X0.here hx rfl (pc0 := 8) (pc' := 12) rfl (hb hby d7_8) (by decide) (by decide) kQ) ?_
    show G (s₁.setTop (mkF me_ 12 #[.val (.int c)] [(.int (1 : Int32))]))
    refine gf _ (own_ret X0 Bd.notSynchronized (v := some (.int (1 : Int32))) (fun h => by rw [Bd.returns] at h; cases h) ?_ (by decide) (by decide) (fun fs hr => retN X0 hx (t := .boolean) Bd.returns (by simp) (hb hby d7_12) hr))
    show Q_canC Z c h0 n0 _ s₁.heap _
    rw [e0]
    exact ⟨(by rw [if_neg hc1]), N0, rfl⟩
theorem d8_0 : decode jdk_43_method_46_code 0 = .ok (.iconst 1, 1) := by decide +kernel
theorem d8_1 : decode jdk_43_method_46_code 1 = .ok (.newarray .byte, 2) := by decide +kernel
theorem d8_3 : decode jdk_43_method_46_code 3 = .ok (.dup, 1) := by decide +kernel
theorem d8_4 : decode jdk_43_method_46_code 4 = .ok (.iconst 0, 1) := by decide +kernel
theorem d8_5 : decode jdk_43_method_46_code 5 = .ok (.iload_n 0, 1) := by decide +kernel
theorem d8_6 : decode jdk_43_method_46_code 6 = .ok (.i2b, 1) := by decide +kernel
theorem d8_7 : decode jdk_43_method_46_code 7 = .ok (.bastore, 1) := by decide +kernel
theorem d8_8 : decode jdk_43_method_46_code 8 = .ok (.areturn, 1) := by decide +kernel
def Q_toB (Z : State) (c : Int32) (h0 : Heap) (n0 : Nat) (v : Option Value) (h : Heap) (L : List Loc) : Prop := ∃ (b : Addr), ∃ (k : ClassId), v = some (.ref b) ∧ Fr n0 L ∧ Keep h0 h [] ∧ h0.size ≤ b ∧ (Arv Z h b k .byte (1 : Int32) [(.int (c.toInt8.toInt32))] (.int (0 : Int32)))
set_option maxRecDepth 65536 in
set_option maxHeartbeats 40000000 in
theorem rm_toB (l : Launch) (Z : State) (a0 : Array Value) (hw : ∀ d ∈ tables_1, d.before a0 Z = true) (ws : List Jvm.Cond) (c : Int32) (h0 : Heap) (n0 : Nat) (O0 : Old Z n0 h0)  :
    MetFree l (⟨"java/lang/StringLatin1", "toBytes", "(C)[B"⟩ : MethodName) (head1 (Jvm.Cond.code (⟨"java/lang/StringLatin1", "toBytes", "(C)[B"⟩ : MethodName) jdk_43_method_46_code 1 (some (.array .byte)) :: ws) ({ frames := 0, cells := 1, slots := 1, locals := 0 } : Room)) (fun aV U => aV = #[(.int c)] ∧ Z.Warmed39 U.vm ∧ U.heap = h0) (fun _ _ _ _ _ => True) (fun _ U o U' => ∃ v L, o = .returned v ∧ Q_toB Z c h0 n0 v U'.heap L ∧ FrameEnd U o U' L ({ frames := 0, cells := 1, slots := 1, locals := 0 } : Room).cells ({ frames := 0, cells := 1, slots := 1, locals := 0 } : Room).slots) := by
  refine MetFree.of_bodySF (plainFor_of_name pn_0) hisR ?_
  intro pr_ en_ st_ me_ args below meth_ co_ s₁ Bd hml0 hP hK
  obtain ⟨rfl, hZ, hh⟩ := hP
  have hx := Bd.exec
  have hby := Bd.bytes
  have hml : co_.maxLocals = 1 := hml0
  have hown : st_.vm.findClass "java/lang/StringLatin1" = some me_.cls := findClass_of_methodNamed Bd.named
  have hnm := (name_of_methodNamed Bd.named Bd.method).1
  have X0 : Stand pr_ l en_ ({ frames := 0, cells := 1, slots := 1, locals := 0 } : Room) st_ me_ #[(.int c)] below meth_ co_ s₁ [] 0 0 := Stand.of_body Bd
  have e0 : s₁.heap = h0 := by rw [← hh, Bd.state]; rfl
  have N0 := Fr.nil n0
  have K0 := Keep.refl h0 []
  obtain ⟨G, gv, gf, gb⟩ := own_G pr_.tables en_ below st_ (Q_toB Z c h0 n0) ({ frames := 0, cells := 1, slots := 1, locals := 0 } : Room).cells ({ frames := 0, cells := 1, slots := 1, locals := 0 } : Room).slots
  show own_Fin pr_.tables en_ below st_ (Q_toB Z c h0 n0) ({ frames := 0, cells := 1, slots := 1, locals := 0 } : Room).cells ({ frames := 0, cells := 1, slots := 1, locals := 0 } : Room).slots (s₁.setTop (entryFrame me_ #[(.int c)] 1))
  refine gb _ (gv (fun tQ kQ => castTop (ef_0 me_ c) kQ) ?_)
  show G (s₁.setTop (mkF me_ 0 #[.val (.int c)] []))
  refine gv (fun tQ kQ => XS.iconst X0.here hx rfl (hb hby d8_0) kQ) ?_
  show G (s₁.setTop (mkF me_ 1 #[.val (.int c)] [(.int (1 : Int32))]))
  obtain ⟨T2, h2, k2, X2, e2, E2, A2, st2⟩ := newP X0 hx hZ (hw _ (List.mem_of_getElem? (i := 19) rfl)) e0 (g := (mkF me_ 1 #[.val (.int c)] [(.int (1 : Int32))])) rfl (hb hby d8_1) rfl (by decide) (cap := 1) (by decide) (by decide) (by decide) (by decide)
  obtain ⟨b2, g2⟩ : ∃ z, z = h0.size := ⟨_, rfl⟩
  rw [← g2] at A2 st2
  refine gv st2 ?_
  have g3 : n0 ≤ b2 := Nat.le_trans (own_old O0) (Nat.le_of_eq g2.symm)
  have z4 : h0.size ≤ b2 := Nat.le_trans K0.1 (Nat.le_of_eq g2.symm)
  have O5 := O0.ext E2
  have K6 := K0.ext E2
  have V2 : Arv Z h2 b2 k2 .byte (1 : Int32) [(.int (0 : Int32))] (.int (0 : Int32)) := (Arv.new A2 (by decide)).pad (pad_rep [] (.int (0 : Int32)) 1)
  show G (T2.setTop (mkF me_ 3 #[.val (.int c)] [(.ref b2)]))
  refine gv (fun tQ kQ => XS.dup X2.here hx rfl (hb hby d8_3) rfl rfl kQ) ?_
  show G (T2.setTop (mkF me_ 4 #[.val (.int c)] [(.ref b2), (.ref b2)]))
  refine gv (fun tQ kQ => XS.iconst X2.here hx rfl (hb hby d8_4) kQ) ?_
  show G (T2.setTop (mkF me_ 5 #[.val (.int c)] [(.int (0 : Int32)), (.ref b2), (.ref b2)]))
  refine gv (fun tQ kQ => XS.iloadN X2.here hx rfl (hb hby d8_5) rfl kQ) ?_
  show G (T2.setTop (mkF me_ 6 #[.val (.int c)] [(.int c), (.int (0 : Int32)), (.ref b2), (.ref b2)]))
  refine gv (fun tQ kQ => XS.i2b X2.here hx rfl (hb hby d8_6) rfl kQ) ?_
  show G (T2.setTop (mkF me_ 7 #[.val (.int c)] [(.int (c.toInt8.toInt32)), (.int (0 : Int32)), (.ref b2), (.ref b2)]))
  obtain ⟨cl7, Ar7, q7, S7, n7, H7, G7⟩ := (id V2)
  have in7 : ¬ ((0 : Int32) < 0 ∨ cl7.slots.size ≤ ((0 : Int32)).toNatClampNeg) := inb_of S7 ⟨by decide, by decide⟩
  obtain ⟨T7, h7, X7, e7, W7, st7⟩ := stB X2 hx hZ e2 Ar7 (j := (0 : Int32)) in7 (g := (mkF me_ 7 #[.val (.int c)] [(.int (c.toInt8.toInt32)), (.int (0 : Int32)), (.ref b2), (.ref b2)])) rfl rfl (hb hby d8_7)
  have W7 : Wr h2 h7 b2 ((0 : Int32)).toNatClampNeg (.int (c.toInt8.toInt32)) := by have z := W7; rw [(own_narB _)] at z; exact z
  refine gv st7 ?_
  have O9 := O5.wr W7 g3
  have K10 := K6.wr W7 (Or.inr z4)
  have N11 := Fr.snoc X7 N0 g3
  have f8 : Arv Z h7 b2 k2 .byte (1 : Int32) [(.int (c.toInt8.toInt32))] (.int (0 : Int32)) := Arv.set Ar7 q7 S7 n7 H7 G7 (fits_nar_byte _) W7 0 rfl (Nat.le_of_ble_eq_true rfl)
  show G (T7.setTop (mkF me_ 8 #[.val (.int c)] [(.ref b2)]))
  refine gf _ (own_ret X7 Bd.notSynchronized (v := some (.ref b2)) (fun h => by rw [Bd.returns] at h; cases h) ?_ (by decide) (by decide) (fun fs hr => retOut X7 hx (t := (.array .byte)) Bd.returns rfl (Or.inr (Or.inr (Or.inr (Or.inr ⟨rfl, rfl, rfl⟩)))) (hb hby d8_8) hr))
  show Q_toB Z c h0 n0 _ T7.heap _
  rw [e7]
  exact ⟨b2, k2, rfl, N11, K10, z4, f8⟩
theorem ef_1 (m : MethodId) (x0 : Addr) (x1 : Addr) (x2 : Int32)  : entryFrame m #[(.ref x0), (.ref x1), (.int x2)] 3 = mkF m 0 #[.val (.ref x0), .val (.ref x1), .val (.int x2)] [] := by first | (simp [entryFrame, mkF, argsToLocals, Value.category]; done) | rfl
theorem pn_1 : plainName "java/lang/String" = true := by first | (simp [plainName, overriddenIn]; done) | decide +kernel
theorem d9_0 : decode jdk_42_method_151_code 0 = .ok (.aload_n 0, 1) := by decide +kernel
theorem d9_1 : decode jdk_42_method_151_code 1 = .ok (.invokespecial 1, 3) := by decide +kernel
theorem d9_4 : decode jdk_42_method_151_code 4 = .ok (.aload_n 0, 1) := by decide +kernel
theorem d9_5 : decode jdk_42_method_151_code 5 = .ok (.aload_n 1, 1) := by decide +kernel
theorem d9_6 : decode jdk_42_method_151_code 6 = .ok (.putfield 9, 3) := by decide +kernel
theorem d9_9 : decode jdk_42_method_151_code 9 = .ok (.aload_n 0, 1) := by decide +kernel
theorem d9_10 : decode jdk_42_method_151_code 10 = .ok (.iload_n 2, 1) := by decide +kernel
theorem d9_11 : decode jdk_42_method_151_code 11 = .ok (.putfield 15, 3) := by decide +kernel
theorem d9_14 : decode jdk_42_method_151_code 14 = .ok (.return_, 1) := by decide +kernel
def Q_sbb0 (Z : State) (a : Addr) (b : Addr) (h0 : Heap) (n0 : Nat) (v : Option Value) (h : Heap) (L : List Loc) : Prop := v = none ∧ Fr n0 L ∧ Keep h0 h [a] ∧ (Exa Z h a "java/lang/String") ∧ (Fld Z h a "java/lang/String" "value" "[B" (.ref b)) ∧ (Fld Z h a "java/lang/String" "coder" "B" (.int (0 : Int32)))
set_option maxRecDepth 65536 in
set_option maxHeartbeats 40000000 in
theorem rm_sbb0 (l : Launch) (Z : State) (a0 : Array Value) (hw : ∀ d ∈ tables_1, d.before a0 Z = true) (ws : List Jvm.Cond) (a : Addr) (b : Addr) (h0 : Heap) (n0 : Nat) (O0 : Old Z n0 h0) (u0 : Exa Z h0 a "java/lang/String") (u1 : Fld Z h0 a "java/lang/String" "value" "[B" .null) (u2 : Fld Z h0 a "java/lang/String" "coder" "B" (.int (0 : Int32))) (u3 : n0 ≤ a) :
    MetFree l (⟨"java/lang/String", "<init>", "([BB)V"⟩ : MethodName) (head1 (Jvm.Cond.code (⟨"java/lang/String", "<init>", "([BB)V"⟩ : MethodName) jdk_42_method_151_code 3 none :: ws) ({ frames := 1, cells := 0, slots := 0, locals := 12 } : Room)) (fun aV U => aV = #[(.ref a), (.ref b), (.int (0 : Int32))] ∧ Z.Warmed39 U.vm ∧ U.heap = h0) (fun _ _ _ _ _ => True) (fun _ U o U' => ∃ v L, o = .returned v ∧ Q_sbb0 Z a b h0 n0 v U'.heap L ∧ FrameEnd U o U' L ({ frames := 1, cells := 0, slots := 0, locals := 12 } : Room).cells ({ frames := 1, cells := 0, slots := 0, locals := 12 } : Room).slots) := by
  refine MetFree.of_bodySF (plainFor_of_name pn_1) hisR ?_
  intro pr_ en_ st_ me_ args below meth_ co_ s₁ Bd hml0 hP hK
  obtain ⟨rfl, hZ, hh⟩ := hP
  have hx := Bd.exec
  have hby := Bd.bytes
  have hml : co_.maxLocals = 3 := hml0
  have hown : st_.vm.findClass "java/lang/String" = some me_.cls := findClass_of_methodNamed Bd.named
  have hnm := (name_of_methodNamed Bd.named Bd.method).1
  have X0 : Stand pr_ l en_ ({ frames := 1, cells := 0, slots := 0, locals := 12 } : Room) st_ me_ #[(.ref a), (.ref b), (.int (0 : Int32))] below meth_ co_ s₁ [] 0 0 := Stand.of_body Bd
  have e0 : s₁.heap = h0 := by rw [← hh, Bd.state]; rfl
  have N0 := Fr.nil n0
  have K0 := Keep.refl h0 [a]
  obtain ⟨G, gv, gf, gb⟩ := own_G pr_.tables en_ below st_ (Q_sbb0 Z a b h0 n0) ({ frames := 1, cells := 0, slots := 0, locals := 12 } : Room).cells ({ frames := 1, cells := 0, slots := 0, locals := 12 } : Room).slots
  show own_Fin pr_.tables en_ below st_ (Q_sbb0 Z a b h0 n0) ({ frames := 1, cells := 0, slots := 0, locals := 12 } : Room).cells ({ frames := 1, cells := 0, slots := 0, locals := 12 } : Room).slots (s₁.setTop (entryFrame me_ #[(.ref a), (.ref b), (.int (0 : Int32))] 3))
  refine gb _ (gv (fun tQ kQ => castTop (ef_1 me_ a b (0 : Int32)) kQ) ?_)
  show G (s₁.setTop (mkF me_ 0 #[.val (.ref a), .val (.ref b), .val (.int (0 : Int32))] []))
  refine gv (fun tQ kQ => XS.aloadN X0.here hx rfl (hb hby d9_0) rfl rfl kQ) ?_
  show G (s₁.setTop (mkF me_ 1 #[.val (.ref a), .val (.ref b), .val (.int (0 : Int32))] [(.ref a)]))
  obtain ⟨T12, X12, e12, st12⟩ := initO X0 hx hZ hown (hw _ (List.mem_of_getElem? (i := 15) rfl)) (hw _ (List.mem_of_getElem? (i := 16) rfl)) (hw _ (List.mem_of_getElem? (i := 17) rfl)) e0 (g := (mkF me_ 1 #[.val (.ref a), .val (.ref b), .val (.int (0 : Int32))] [(.ref a)])) rfl (by rw [hml]; rfl) rfl (hb hby d9_1) (by decide) (W := 0) (by show 2 * 0 + _ ≤ _; exact Nat.le_of_eq rfl) (by decide)
  refine gv st12 ?_
  show G (T12.setTop (mkF me_ 4 #[.val (.ref a), .val (.ref b), .val (.int (0 : Int32))] []))
  refine gv (fun tQ kQ => XS.aloadN X12.here hx rfl (hb hby d9_4) rfl rfl kQ) ?_
  show G (T12.setTop (mkF me_ 5 #[.val (.ref a), .val (.ref b), .val (.int (0 : Int32))] [(.ref a)]))
  refine gv (fun tQ kQ => XS.aloadN X12.here hx rfl (hb hby d9_5) rfl rfl kQ) ?_
  show G (T12.setTop (mkF me_ 6 #[.val (.ref a), .val (.ref b), .val (.int (0 : Int32))] [(.ref b), (.ref a)]))
  obtain ⟨T13, h13, X13, e13, W13, st13⟩ := putF X12 hx hZ hown (host := "") (Or.inl (hw _ (List.mem_of_getElem? (i := 24) rfl))) Via.refl e12 u1 u0 (Or.inr ⟨(hw _ (List.mem_of_getElem? (i := 20) rfl)), rfl, hnm⟩) (hw _ (List.mem_of_getElem? (i := 5) rfl)) (ty := (.array .byte)) (by decide) rfl rfl (g := (mkF me_ 6 #[.val (.ref a), .val (.ref b), .val (.int (0 : Int32))] [(.ref b), (.ref a)])) rfl rfl (hb hby d9_6)
  refine gv st13 ?_
  have f15 : Exa Z h13 a "java/lang/String" := u0.wr W13
  have f16 : Fld Z h13 a "java/lang/String" "coder" "B" (.int (0 : Int32)) := u2.other W13 (Or.inr (slot_ne (Or.inr (hw _ (List.mem_of_getElem? (i := 21) rfl))) (Or.inr (hw _ (List.mem_of_getElem? (i := 20) rfl))) (by decide) (t := .byte) (t' := (.array .byte)) (by decide) (by decide)))
  have O17 := O0.wr W13 u3
  have K18 := K0.wr W13 (Or.inl (List.mem_of_getElem? (i := 0) rfl))
  have N19 := Fr.snoc X13 N0 u3
  have f14 : Fld Z h13 a "java/lang/String" "value" "[B" (.ref b) := u1.same W13
  show G (T13.setTop (mkF me_ 9 #[.val (.ref a), .val (.ref b), .val (.int (0 : Int32))] []))
  refine gv (fun tQ kQ => XS.aloadN X13.here hx rfl (hb hby d9_9) rfl rfl kQ) ?_
  show G (T13.setTop (mkF me_ 10 #[.val (.ref a), .val (.ref b), .val (.int (0 : Int32))] [(.ref a)]))
  refine gv (fun tQ kQ => XS.iloadN X13.here hx rfl (hb hby d9_10) rfl kQ) ?_
  show G (T13.setTop (mkF me_ 11 #[.val (.ref a), .val (.ref b), .val (.int (0 : Int32))] [(.int (0 : Int32)), (.ref a)]))
  obtain ⟨T20, h20, X20, e20, W20, st20⟩ := putFN X13 hx hZ hown (hw _ (List.mem_of_getElem? (i := 25) rfl)) Via.refl e13 f16 f15 (Or.inr ⟨(hw _ (List.mem_of_getElem? (i := 21) rfl)), rfl, hnm⟩) (hw _ (List.mem_of_getElem? (i := 5) rfl)) (ty := .byte) (v' := (.int (0 : Int32))) (by decide) rfl rfl (g := (mkF me_ 11 #[.val (.ref a), .val (.ref b), .val (.int (0 : Int32))] [(.int (0 : Int32)), (.ref a)])) rfl rfl (hb hby d9_11)
  refine gv st20 ?_
  have f22 : Exa Z h20 a "java/lang/String" := f15.wr W20
  have f23 : Fld Z h20 a "java/lang/String" "value" "[B" (.ref b) := f14.other W20 (Or.inr (slot_ne (Or.inr (hw _ (List.mem_of_getElem? (i := 20) rfl))) (Or.inr (hw _ (List.mem_of_getElem? (i := 21) rfl))) (by decide) (t := (.array .byte)) (t' := .byte) (by decide) (by decide)))
  have O24 := O17.wr W20 u3
  have K25 := K18.wr W20 (Or.inl (List.mem_of_getElem? (i := 0) rfl))
  have N26 := Fr.snoc X20 N19 u3
  have f21 : Fld Z h20 a "java/lang/String" "coder" "B" (.int (0 : Int32)) := f16.same W20
  show G (T20.setTop (mkF me_ 14 #[.val (.ref a), .val (.ref b), .val (.int (0 : Int32))] []))
  refine gf _ (own_ret X20 Bd.notSynchronized (v := none) (fun _ => rfl) ?_ (by decide) (by decide) (fun fs hr => X20.returnOut hx Bd.returns (hb hby d9_14) hr))
  show Q_sbb0 Z a b h0 n0 _ T20.heap _
  rw [e20]
  exact ⟨rfl, N26, K25, f22, f23, f21⟩
theorem d6_0 : decode jdk_42_method_139_code 0 = .ok (.getstatic 38, 3) := by decide +kernel
theorem d6_3 : decode jdk_42_method_139_code 3 = .ok (.ifCond .eq 23, 3) := by decide +kernel
theorem d6_6 : decode jdk_42_method_139_code 6 = .ok (.iload_n 0, 1) := by decide +kernel
theorem d6_7 : decode jdk_42_method_139_code 7 = .ok (.invokestatic 1015, 3) := by decide +kernel
theorem pd_0 : parseMethodDescriptor "(C)Z" = some ⟨[.char], some .boolean⟩ := by decide +kernel
theorem d6_10 : decode jdk_42_method_139_code 10 = .ok (.ifCond .eq 16, 3) := by decide +kernel
theorem d6_13 : decode jdk_42_method_139_code 13 = .ok (.new 10, 3) := by decide +kernel
theorem d6_16 : decode jdk_42_method_139_code 16 = .ok (.dup, 1) := by decide +kernel
theorem d6_17 : decode jdk_42_method_139_code 17 = .ok (.iload_n 0, 1) := by decide +kernel
theorem d6_18 : decode jdk_42_method_139_code 18 = .ok (.invokestatic 1018, 3) := by decide +kernel
theorem pd_1 : parseMethodDescriptor "(C)[B" = some ⟨[.char], some (.array .byte)⟩ := by decide +kernel
theorem d6_21 : decode jdk_42_method_139_code 21 = .ok (.iconst 0, 1) := by decide +kernel
theorem d6_22 : decode jdk_42_method_139_code 22 = .ok (.invokespecial 209, 3) := by decide +kernel
theorem pd_2 : parseMethodDescriptor "([BB)V" = some ⟨[(.array .byte), .byte], none⟩ := by decide +kernel
theorem d6_25 : decode jdk_42_method_139_code 25 = .ok (.areturn, 1) := by decide +kernel
def Q_voL (Z : State) (c : Int32) (cs : Int32) (h0 : Heap) (n0 : Nat) (v : Option Value) (h : Heap) (L : List Loc) : Prop := ∃ (s : Addr), ∃ (b : Addr), ∃ (k : ClassId), v = some (.ref s) ∧ Fr n0 L ∧ Keep h0 h [] ∧ h0.size ≤ s ∧ h0.size ≤ b ∧ s ≠ b ∧ (Exa Z h s "java/lang/String") ∧ (Fld Z h s "java/lang/String" "coder" "B" (.int (0 : Int32))) ∧ (Fld Z h s "java/lang/String" "value" "[B" (.ref b)) ∧ (Arv Z h b k .byte (1 : Int32) [(.int (c.toInt8.toInt32))] (.int (0 : Int32)))
set_option maxRecDepth 65536 in
set_option maxHeartbeats 40000000 in
theorem rm_voL (l : Launch) (Z : State) (a0 : Array Value) (hw : ∀ d ∈ tables_1, d.before a0 Z = true) (ws : List Jvm.Cond) (c : Int32) (cs : Int32) (h0 : Heap) (n0 : Nat) (O0 : Old Z n0 h0) (u0 : Sta Z Z.heap "java/lang/String" "COMPACT_STRINGS" "Z" (.int cs)) (u1 : ¬ (cs = (0 : Int32))) (u2 : ¬ ((255 : Int32) < c)) :
    MetFree l (⟨"java/lang/String", "valueOf", "(C)Ljava/lang/String;"⟩ : MethodName) (head1 (Jvm.Cond.code (⟨"java/lang/String", "valueOf", "(C)Ljava/lang/String;"⟩ : MethodName) jdk_42_method_139_code 1 (some (.object "java/lang/String")) :: ws) ({ frames := 2, cells := 2, slots := 5, locals := 27 } : Room)) (fun aV U => aV = #[(.int c)] ∧ Z.Warmed39 U.vm ∧ U.heap = h0) (fun _ _ _ _ _ => True) (fun _ U o U' => ∃ v L, o = .returned v ∧ Q_voL Z c cs h0 n0 v U'.heap L ∧ FrameEnd U o U' L ({ frames := 2, cells := 2, slots := 5, locals := 27 } : Room).cells ({ frames := 2, cells := 2, slots := 5, locals := 27 } : Room).slots) := by
  refine MetFree.of_bodySF (plainFor_of_name pn_1) hisR ?_
  intro pr_ en_ st_ me_ args below meth_ co_ s₁ Bd hml0 hP hK
  obtain ⟨rfl, hZ, hh⟩ := hP
  have hx := Bd.exec
  have hby := Bd.bytes
  have hml : co_.maxLocals = 1 := hml0
  have hown : st_.vm.findClass "java/lang/String" = some me_.cls := findClass_of_methodNamed Bd.named
  have hnm := (name_of_methodNamed Bd.named Bd.method).1
  have X0 : Stand pr_ l en_ ({ frames := 2, cells := 2, slots := 5, locals := 27 } : Room) st_ me_ #[(.int c)] below meth_ co_ s₁ [] 0 0 := Stand.of_body Bd
  have e0 : s₁.heap = h0 := by rw [← hh, Bd.state]; rfl
  have N0 := Fr.nil n0
  have K0 := Keep.refl h0 []
  obtain ⟨G, gv, gf, gb⟩ := own_G pr_.tables en_ below st_ (Q_voL Z c cs h0 n0) ({ frames := 2, cells := 2, slots := 5, locals := 27 } : Room).cells ({ frames := 2, cells := 2, slots := 5, locals := 27 } : Room).slots
  show own_Fin pr_.tables en_ below st_ (Q_voL Z c cs h0 n0) ({ frames := 2, cells := 2, slots := 5, locals := 27 } : Room).cells ({ frames := 2, cells := 2, slots := 5, locals := 27 } : Room).slots (s₁.setTop (entryFrame me_ #[(.int c)] 1))
  refine gb _ (gv (fun tQ kQ => castTop (ef_0 me_ c) kQ) ?_)
  show G (s₁.setTop (mkF me_ 0 #[.val (.int c)] []))
  obtain ⟨T27, X27, e27, st27⟩ := getS2 X0 hx hZ hown (host := "") (Or.inl (hw _ (List.mem_of_getElem? (i := 34) rfl))) Via.refl e0 (u0.ext O0.2) (g := (mkF me_ 0 #[.val (.int c)] [])) rfl (hb hby d6_0)
  refine gv st27 ?_
  show G (T27.setTop (mkF me_ 3 #[.val (.int c)] [(.int cs)]))
  refine gv (fun tQ kQ => XS.ifNo X27.here hx rfl (hb hby d6_3) rfl ((if0 _ _).trans (feq u1).1) kQ) ?_
  show G (T27.setTop (mkF me_ 6 #[.val (.int c)] []))
  refine gv (fun tQ kQ => XS.iloadN X27.here hx rfl (hb hby d6_6) rfl kQ) ?_
  show G (T27.setTop (mkF me_ 7 #[.val (.int c)] [(.int c)]))
  obtain ⟨_, _, ⟨T28, L28, k28, n28⟩, -, X28, ⟨Lc28, hQ28, l28, y28, z28⟩, st28⟩ := Jvm.LawKit.callS X27 hx (y := (⟨"java/lang/StringLatin1", "canEncode", "(C)Z"⟩ : MethodName)) hown (mvT hZ (hw _ (List.mem_of_getElem? (i := 35) rfl))) (mvT hZ (hw _ (List.mem_of_getElem? (i := 36) rfl))) (mvT hZ (hw _ (List.mem_of_getElem? (i := 37) rfl))) (mvT hZ (hw _ (List.mem_of_getElem? (i := 38) rfl))) (by decide) (backOf (W := 0) (rm_canC l Z a0 hw [] c h0 n0 O0 ) hZ (hw _ (List.mem_of_getElem? (i := 38) rfl)) (hw _ (List.mem_of_getElem? (i := 37) rfl)) (by decide) (by decide)) (g := (mkF me_ 7 #[.val (.int c)] [(.int c)])) rfl (by rw [hml]; rfl) (argsL := [(.int c)]) (rest := []) (lenOf pd_0 rfl) rfl (by show 2 * 0 + _ ≤ _; exact Nat.le_of_eq rfl) (hb hby d6_7) (fun _ _ => ⟨rfl, e27, (by decide : 0 + 0 ≤ _), (by decide : 0 + 0 ≤ _)⟩)
  dsimp only [Pt.U, Pt.locs, Pt.cells, Pt.slots] at X28 l28 y28 z28 st28 hQ28
  subst l28 y28 z28
  obtain ⟨rfl, Nq28, eq28⟩ := hQ28
  have N29 := Fr.app N0 Nq28
  rw [if_neg u2] at st28
  refine gv st28 ?_
  show G (T28.setTop (mkF me_ 10 #[.val (.int c)] [(.int (1 : Int32))]))
  refine gv (fun tQ kQ => XS.ifNo X28.here hx rfl (hb hby d6_10) rfl ((if0 _ _).trans (feq (by decide : ¬ ((1 : Int32) = (0 : Int32)))).1) kQ) ?_
  show G (T28.setTop (mkF me_ 13 #[.val (.int c)] []))
  obtain ⟨T30, h30, X30, e30, E30, A30, D30, -, st30⟩ := newO X28 hx hZ hown (hw _ (List.mem_of_getElem? (i := 39) rfl)) (hw _ (List.mem_of_getElem? (i := 5) rfl)) (hw _ (List.mem_of_getElem? (i := 6) rfl)) eq28 (g := (mkF me_ 13 #[.val (.int c)] [])) rfl (hb hby d6_13) (by decide) (by decide)
  obtain ⟨b30, g30⟩ : ∃ z, z = h0.size := ⟨_, rfl⟩
  rw [← g30] at A30 D30 st30
  refine gv st30 ?_
  have g31 : n0 ≤ b30 := Nat.le_trans (own_old O0) (Nat.le_of_eq g30.symm)
  have z32 : h0.size ≤ b30 := Nat.le_trans K0.1 (Nat.le_of_eq g30.symm)
  have O33 := O0.ext E30
  have K34 := K0.ext E30
  have f35 : Fld Z h30 b30 "java/lang/String" "value" "[B" .null := D30 (Or.inr (hw _ (List.mem_of_getElem? (i := 20) rfl))) (ty := (.array .byte)) (by decide)
  have f36 : Fld Z h30 b30 "java/lang/String" "coder" "B" (.int (0 : Int32)) := D30 (Or.inr (hw _ (List.mem_of_getElem? (i := 21) rfl))) (ty := .byte) (by decide)
  show G (T30.setTop (mkF me_ 16 #[.val (.int c)] [(.ref b30)]))
  refine gv (fun tQ kQ => XS.dup X30.here hx rfl (hb hby d6_16) rfl rfl kQ) ?_
  show G (T30.setTop (mkF me_ 17 #[.val (.int c)] [(.ref b30), (.ref b30)]))
  refine gv (fun tQ kQ => XS.iloadN X30.here hx rfl (hb hby d6_17) rfl kQ) ?_
  show G (T30.setTop (mkF me_ 18 #[.val (.int c)] [(.int c), (.ref b30), (.ref b30)]))
  obtain ⟨_, _, ⟨T37, L37, k37, n37⟩, -, X37, ⟨Lc37, hQ37, l37, y37, z37⟩, st37⟩ := Jvm.LawKit.callS X30 hx (y := (⟨"java/lang/StringLatin1", "toBytes", "(C)[B"⟩ : MethodName)) hown (mvT hZ (hw _ (List.mem_of_getElem? (i := 40) rfl))) (mvT hZ (hw _ (List.mem_of_getElem? (i := 41) rfl))) (mvT hZ (hw _ (List.mem_of_getElem? (i := 37) rfl))) (mvT hZ (hw _ (List.mem_of_getElem? (i := 42) rfl))) (by decide) (backOf (W := 2) (rm_toB l Z a0 hw [] c h30 n0 O33 ) hZ (hw _ (List.mem_of_getElem? (i := 42) rfl)) (hw _ (List.mem_of_getElem? (i := 37) rfl)) (by decide) (by decide)) (g := (mkF me_ 18 #[.val (.int c)] [(.int c), (.ref b30), (.ref b30)])) rfl (by rw [hml]; rfl) (argsL := [(.int c)]) (rest := [(.ref b30), (.ref b30)]) (lenOf pd_1 rfl) rfl (by show 2 * 0 + _ ≤ _; exact Nat.le_of_eq rfl) (hb hby d6_18) (fun _ _ => ⟨rfl, e30, (by decide : 1 + 1 ≤ _), (by decide : 4 + 1 ≤ _)⟩)
  dsimp only [Pt.U, Pt.locs, Pt.cells, Pt.slots] at X37 l37 y37 z37 st37 hQ37
  subst l37 y37 z37
  obtain ⟨b_37, k_37, rfl, Nq37, Kq37, w37_0, w37_1⟩ := hQ37
  have N38 := Fr.app N29 Nq37
  obtain ⟨h37, e37⟩ : ∃ z, T37.heap = z := ⟨_, rfl⟩
  rw [e37] at Kq37 w37_1
  have ne39 : b30 ≠ b_37 := Nat.ne_of_lt (Nat.lt_of_lt_of_le A30.lt w37_0)
  have g40 : n0 ≤ b_37 := Nat.le_trans (own_old O33) w37_0
  have z41 : h0.size ≤ b_37 := Nat.le_trans K34.1 w37_0
  have f42 : Exa Z h37 b30 "java/lang/String" := A30.keep Kq37
  have f43 : Fld Z h37 b30 "java/lang/String" "value" "[B" .null := f35.keep Kq37 nin0
  have f44 : Fld Z h37 b30 "java/lang/String" "coder" "B" (.int (0 : Int32)) := f36.keep Kq37 nin0
  have O45 := O33.keep Kq37 all0
  have K46 := K34.trans Kq37 all0
  refine gv st37 ?_
  show G (T37.setTop (mkF me_ 21 #[.val (.int c)] [(.ref b_37), (.ref b30), (.ref b30)]))
  refine gv (fun tQ kQ => XS.iconst X37.here hx rfl (hb hby d6_21) kQ) ?_
  show G (T37.setTop (mkF me_ 22 #[.val (.int c)] [(.int (0 : Int32)), (.ref b_37), (.ref b30), (.ref b30)]))
  obtain ⟨_, _, ⟨T47, L47, k47, n47⟩, -, X47, ⟨Lc47, hQ47, l47, y47, z47⟩, st47⟩ := X37.specialBack hx (y := (⟨"java/lang/String", "<init>", "([BB)V"⟩ : MethodName)) rfl hown (mvT hZ (hw _ (List.mem_of_getElem? (i := 43) rfl))) (mvT hZ (hw _ (List.mem_of_getElem? (i := 44) rfl))) (mvT hZ (hw _ (List.mem_of_getElem? (i := 45) rfl))) (by decide) (backOf (W := 1) (rm_sbb0 l Z a0 hw [] b30 b_37 h37 n0 O45 f42 f43 f44 g31) hZ (hw _ (List.mem_of_getElem? (i := 45) rfl)) (hw _ (List.mem_of_getElem? (i := 6) rfl)) (by decide) (by decide)) (g := (mkF me_ 22 #[.val (.int c)] [(.int (0 : Int32)), (.ref b_37), (.ref b30), (.ref b30)])) rfl (by rw [hml]; rfl) (Steps.refl _) (a := b30) (argsL := [(.ref b_37), (.int (0 : Int32))]) (rest := [(.ref b30)]) (lenOf pd_2 rfl) rfl (by show 2 * 0 + _ ≤ _; exact Nat.le_of_eq rfl) (hb hby d6_22) (fun _ _ => ⟨rfl, e37, (by decide : 2 + 0 ≤ _), (by decide : 5 + 0 ≤ _)⟩)
  dsimp only [Pt.U, Pt.locs, Pt.cells, Pt.slots] at X47 l47 y47 z47 st47 hQ47
  subst l47 y47 z47
  obtain ⟨rfl, Nq47, Kq47, w47_0, w47_1, w47_2⟩ := hQ47
  have N48 := Fr.app N38 Nq47
  obtain ⟨h47, e47⟩ : ∃ z, T47.heap = z := ⟨_, rfl⟩
  rw [e47] at Kq47 w47_0 w47_1 w47_2
  have f49 : Exa Z h47 b30 "java/lang/String" := f42.keep Kq47
  have f50 : Arv Z h47 b_37 k_37 .byte (1 : Int32) [(.int (c.toInt8.toInt32))] (.int (0 : Int32)) := w37_1.keep Kq47 (ninS (Ne.symm ne39) nin0)
  have O51 := O45.keep Kq47 (allS g31 all0)
  have K52 := K46.trans Kq47 (allS (Or.inr z32) all0)
  refine gv (fun tQ kQ => st47.trans kQ) ?_
  show G (T47.setTop (mkF me_ 25 #[.val (.int c)] [(.ref b30)]))
  refine gf _ (own_ret X47 Bd.notSynchronized (v := some (.ref b30)) (fun h => by rw [Bd.returns] at h; cases h) ?_ (by decide) (by decide) (fun fs hr => retOut X47 hx (t := (.object "java/lang/String")) Bd.returns rfl (Or.inr (Or.inr (Or.inr (Or.inr ⟨rfl, rfl, rfl⟩)))) (hb hby d6_25) hr))
  show Q_voL Z c cs h0 n0 _ T47.heap _
  rw [e47]
  exact ⟨b30, b_37, k_37, rfl, N48, K52, z32, z41, ne39, w47_0, w47_2, w47_1, f50⟩
theorem ef_2 (m : MethodId) (x0 : Addr) (x1 : Int32) (x2 : Addr) (x3 : Int32) (x4 : Int32)  : entryFrame m #[(.ref x0), (.int x1), (.ref x2), (.int x3), (.int x4)] 7 = mkF m 0 #[.val (.ref x0), .val (.int x1), .val (.ref x2), .val (.int x3), .val (.int x4), .unset, .unset] [] := by first | (simp [entryFrame, mkF, argsToLocals, Value.category]; done) | rfl
theorem pn_2 : plainName "java/lang/StringUTF16" = true := by first | (simp [plainName, overriddenIn]; done) | decide +kernel
theorem d11_0 : decode jdk_52_method_21_code 0 = .ok (.iconst 0, 1) := by decide +kernel
theorem d11_1 : decode jdk_52_method_21_code 1 = .ok (.istore 5, 2) := by decide +kernel
theorem d11_3 : decode jdk_52_method_21_code 3 = .ok (.iload 5, 2) := by decide +kernel
theorem d11_5 : decode jdk_52_method_21_code 5 = .ok (.iload 4, 2) := by decide +kernel
theorem d11_7 : decode jdk_52_method_21_code 7 = .ok (.if_icmp .ge 37, 3) := by decide +kernel
theorem d11_10 : decode jdk_52_method_21_code 10 = .ok (.aload_n 0, 1) := by decide +kernel
theorem d11_11 : decode jdk_52_method_21_code 11 = .ok (.iload_n 1, 1) := by decide +kernel
theorem d11_12 : decode jdk_52_method_21_code 12 = .ok (.caload, 1) := by decide +kernel
theorem d11_13 : decode jdk_52_method_21_code 13 = .ok (.istore 6, 2) := by decide +kernel
theorem d11_15 : decode jdk_52_method_21_code 15 = .ok (.iload 6, 2) := by decide +kernel
theorem d11_17 : decode jdk_52_method_21_code 17 = .ok (.sipush 255, 3) := by decide +kernel
theorem d11_20 : decode jdk_52_method_21_code 20 = .ok (.if_icmp .le 6, 3) := by decide +kernel
theorem d11_26 : decode jdk_52_method_21_code 26 = .ok (.aload_n 2, 1) := by decide +kernel
theorem d11_27 : decode jdk_52_method_21_code 27 = .ok (.iload_n 3, 1) := by decide +kernel
theorem d11_28 : decode jdk_52_method_21_code 28 = .ok (.iload 6, 2) := by decide +kernel
theorem d11_30 : decode jdk_52_method_21_code 30 = .ok (.i2b, 1) := by decide +kernel
theorem d11_31 : decode jdk_52_method_21_code 31 = .ok (.bastore, 1) := by decide +kernel
theorem d11_32 : decode jdk_52_method_21_code 32 = .ok (.iinc 1 1, 3) := by decide +kernel
theorem d11_35 : decode jdk_52_method_21_code 35 = .ok (.iinc 3 1, 3) := by decide +kernel
theorem d11_38 : decode jdk_52_method_21_code 38 = .ok (.iinc 5 1, 3) := by decide +kernel
theorem d11_41 : decode jdk_52_method_21_code 41 = .ok (.goto (-38), 3) := by decide +kernel
theorem d11_44 : decode jdk_52_method_21_code 44 = .ok (.iload 4, 2) := by decide +kernel
theorem d11_46 : decode jdk_52_method_21_code 46 = .ok (.ireturn, 1) := by decide +kernel
def Q_cmp2 (Z : State) (d : Addr) (kd : ClassId) (b : Addr) (k : ClassId) (c0 : Int32) (c1 : Int32) (h0 : Heap) (n0 : Nat) (v : Option Value) (h : Heap) (L : List Loc) : Prop := v = some (.int (2 : Int32)) ∧ Fr n0 L ∧ Keep h0 h [b] ∧ (Arv Z h b k .byte (2 : Int32) [(.int (c0.toInt8.toInt32)), (.int (c1.toInt8.toInt32))] (.int (0 : Int32)))
set_option maxRecDepth 65536 in
set_option maxHeartbeats 40000000 in
theorem rm_cmp2 (l : Launch) (Z : State) (a0 : Array Value) (hw : ∀ d ∈ tables_1, d.before a0 Z = true) (ws : List Jvm.Cond) (d : Addr) (kd : ClassId) (b : Addr) (k : ClassId) (c0 : Int32) (c1 : Int32) (h0 : Heap) (n0 : Nat) (O0 : Old Z n0 h0) (u0 : ¬ ((255 : Int32) < c0)) (u1 : ¬ ((255 : Int32) < c1)) (u2 : Arv Z h0 d kd .char (2 : Int32) [(.int c0), (.int c1)] (.int (0 : Int32))) (u3 : Arv Z h0 b k .byte (2 : Int32) [(.int (0 : Int32)), (.int (0 : Int32))] (.int (0 : Int32))) (u4 : n0 ≤ b) (u5 : d ≠ b) :
    MetFree l (⟨"java/lang/StringUTF16", "compress", "([CI[BII)I"⟩ : MethodName) (head1 (Jvm.Cond.code (⟨"java/lang/StringUTF16", "compress", "([CI[BII)I"⟩ : MethodName) jdk_52_method_21_code 7 (some .int) :: ws) ({ frames := 0, cells := 0, slots := 0, locals := 0 } : Room)) (fun aV U => aV = #[(.ref d), (.int (0 : Int32)), (.ref b), (.int (0 : Int32)), (.int (2 : Int32))] ∧ Z.Warmed39 U.vm ∧ U.heap = h0) (fun _ _ _ _ _ => True) (fun _ U o U' => ∃ v L, o = .returned v ∧ Q_cmp2 Z d kd b k c0 c1 h0 n0 v U'.heap L ∧ FrameEnd U o U' L ({ frames := 0, cells := 0, slots := 0, locals := 0 } : Room).cells ({ frames := 0, cells := 0, slots := 0, locals := 0 } : Room).slots) := by
  refine MetFree.of_bodySF (plainFor_of_name pn_2) hisR ?_
  intro pr_ en_ st_ me_ args below meth_ co_ s₁ Bd hml0 hP hK
  obtain ⟨rfl, hZ, hh⟩ := hP
  have hx := Bd.exec
  have hby := Bd.bytes
  have hml : co_.maxLocals = 7 := hml0
  have hown : st_.vm.findClass "java/lang/StringUTF16" = some me_.cls := findClass_of_methodNamed Bd.named
  have hnm := (name_of_methodNamed Bd.named Bd.method).1
  have X0 : Stand pr_ l en_ ({ frames := 0, cells := 0, slots := 0, locals := 0 } : Room) st_ me_ #[(.ref d), (.int (0 : Int32)), (.ref b), (.int (0 : Int32)), (.int (2 : Int32))] below meth_ co_ s₁ [] 0 0 := Stand.of_body Bd
  have e0 : s₁.heap = h0 := by rw [← hh, Bd.state]; rfl
  have N0 := Fr.nil n0
  have K0 := Keep.refl h0 [b]
  obtain ⟨G, gv, gf, gb⟩ := own_G pr_.tables en_ below st_ (Q_cmp2 Z d kd b k c0 c1 h0 n0) ({ frames := 0, cells := 0, slots := 0, locals := 0 } : Room).cells ({ frames := 0, cells := 0, slots := 0, locals := 0 } : Room).slots
  show own_Fin pr_.tables en_ below st_ (Q_cmp2 Z d kd b k c0 c1 h0 n0) ({ frames := 0, cells := 0, slots := 0, locals := 0 } : Room).cells ({ frames := 0, cells := 0, slots := 0, locals := 0 } : Room).slots (s₁.setTop (entryFrame me_ #[(.ref d), (.int (0 : Int32)), (.ref b), (.int (0 : Int32)), (.int (2 : Int32))] 7))
  refine gb _ (gv (fun tQ kQ => castTop (ef_2 me_ d (0 : Int32) b (0 : Int32) (2 : Int32)) kQ) ?_)
  show G (s₁.setTop (mkF me_ 0 #[.val (.ref d), .val (.int (0 : Int32)), .val (.ref b), .val (.int (0 : Int32)), .val (.int (2 : Int32)), .unset, .unset] []))
  refine gv (fun tQ kQ => XS.iconst X0.here hx rfl (hb hby d11_0) kQ) ?_
  show G (s₁.setTop (mkF me_ 1 #[.val (.ref d), .val (.int (0 : Int32)), .val (.ref b), .val (.int (0 : Int32)), .val (.int (2 : Int32)), .unset, .unset] [(.int (0 : Int32))]))
  refine gv (fun tQ kQ => XS.istore X0.here hx rfl (hb hby d11_1) rfl (l' := #[.val (.ref d), .val (.int (0 : Int32)), .val (.ref b), .val (.int (0 : Int32)), .val (.int (2 : Int32)), .val (.int (0 : Int32)), .unset]) rfl kQ) ?_
  show G (s₁.setTop (mkF me_ 3 #[.val (.ref d), .val (.int (0 : Int32)), .val (.ref b), .val (.int (0 : Int32)), .val (.int (2 : Int32)), .val (.int (0 : Int32)), .unset] []))
  refine gv (fun tQ kQ => XS.iload X0.here hx rfl (hb hby d11_3) rfl kQ) ?_
  show G (s₁.setTop (mkF me_ 5 #[.val (.ref d), .val (.int (0 : Int32)), .val (.ref b), .val (.int (0 : Int32)), .val (.int (2 : Int32)), .val (.int (0 : Int32)), .unset] [(.int (0 : Int32))]))
  refine gv (fun tQ kQ => XS.iload X0.here hx rfl (hb hby d11_5) rfl kQ) ?_
  show G (s₁.setTop (mkF me_ 7 #[.val (.ref d), .val (.int (0 : Int32)), .val (.ref b), .val (.int (0 : Int32)), .val (.int (2 : Int32)), .val (.int (0 : Int32)), .unset] [(.int (2 : Int32)), (.int (0 : Int32))]))
  refine gv (fun tQ kQ => XS.icmpNo X0.here hx rfl (hb hby d11_7) rfl (tlt (by decide : (0 : Int32) < (2 : Int32))).2.1 kQ) ?_
  show G (s₁.setTop (mkF me_ 10 #[.val (.ref d), .val (.int (0 : Int32)), .val (.ref b), .val (.int (0 : Int32)), .val (.int (2 : Int32)), .val (.int (0 : Int32)), .unset] []))
  refine gv (fun tQ kQ => XS.aloadN X0.here hx rfl (hb hby d11_10) rfl rfl kQ) ?_
  show G (s₁.setTop (mkF me_ 11 #[.val (.ref d), .val (.int (0 : Int32)), .val (.ref b), .val (.int (0 : Int32)), .val (.int (2 : Int32)), .val (.int (0 : Int32)), .unset] [(.ref d)]))
  refine gv (fun tQ kQ => XS.iloadN X0.here hx rfl (hb hby d11_11) rfl kQ) ?_
  show G (s₁.setTop (mkF me_ 12 #[.val (.ref d), .val (.int (0 : Int32)), .val (.ref b), .val (.int (0 : Int32)), .val (.int (2 : Int32)), .val (.int (0 : Int32)), .unset] [(.int (0 : Int32)), (.ref d)]))
  obtain ⟨cl53, Ar53, q53, S53, n53, H53, G53⟩ := (id u2)
  have in53 : ¬ ((0 : Int32) < 0 ∨ cl53.slots.size ≤ ((0 : Int32)).toNatClampNeg) := inb_of S53 ⟨by decide, by decide⟩
  refine gv (X0.caload hx (j := (0 : Int32)) (v := (.int c0)) (by rw [e0]; exact Ar53.1) (State.isArrayOf_alike hZ.alike Ar53.2.1) Ar53.2.2 in53 (Has.at H53 in53 rfl) (g := (mkF me_ 12 #[.val (.ref d), .val (.int (0 : Int32)), .val (.ref b), .val (.int (0 : Int32)), .val (.int (2 : Int32)), .val (.int (0 : Int32)), .unset] [(.int (0 : Int32)), (.ref d)])) rfl rfl (hb hby d11_12)) ?_
  show G (s₁.setTop (mkF me_ 13 #[.val (.ref d), .val (.int (0 : Int32)), .val (.ref b), .val (.int (0 : Int32)), .val (.int (2 : Int32)), .val (.int (0 : Int32)), .unset] [(.int c0)]))
  refine gv (fun tQ kQ => XS.istore X0.here hx rfl (hb hby d11_13) rfl (l' := #[.val (.ref d), .val (.int (0 : Int32)), .val (.ref b), .val (.int (0 : Int32)), .val (.int (2 : Int32)), .val (.int (0 : Int32)), .val (.int c0)]) rfl kQ) ?_
  show G (s₁.setTop (mkF me_ 15 #[.val (.ref d), .val (.int (0 : Int32)), .val (.ref b), .val (.int (0 : Int32)), .val (.int (2 : Int32)), .val (.int (0 : Int32)), .val (.int c0)] []))
  refine gv (fun tQ kQ => XS.iload X0.here hx rfl (hb hby d11_15) rfl kQ) ?_
  show G (s₁.setTop (mkF me_ 17 #[.val (.ref d), .val (.int (0 : Int32)), .val (.ref b), .val (.int (0 : Int32)), .val (.int (2 : Int32)), .val (.int (0 : Int32)), .val (.int c0)] [(.int c0)]))
  refine gv (fun tQ kQ => XS.sipush X0.here hx rfl (hb hby d11_17) kQ) ?_
  show G (s₁.setTop (mkF me_ 20 #[.val (.ref d), .val (.int (0 : Int32)), .val (.ref b), .val (.int (0 : Int32)), .val (.int (2 : Int32)), .val (.int (0 : Int32)), .val (.int c0)] [(.int (255 : Int32)), (.int c0)]))
  refine gv (fun tQ kQ => XS.icmpYes X0.here hx rfl (pc0 := 20) (pc' := 26) rfl (hb hby d11_20) rfl (flt u0).2.2.2 (by decide) (by decide) kQ) ?_
  show G (s₁.setTop (mkF me_ 26 #[.val (.ref d), .val (.int (0 : Int32)), .val (.ref b), .val (.int (0 : Int32)), .val (.int (2 : Int32)), .val (.int (0 : Int32)), .val (.int c0)] []))
  refine gv (fun tQ kQ => XS.aloadN X0.here hx rfl (hb hby d11_26) rfl rfl kQ) ?_
  show G (s₁.setTop (mkF me_ 27 #[.val (.ref d), .val (.int (0 : Int32)), .val (.ref b), .val (.int (0 : Int32)), .val (.int (2 : Int32)), .val (.int (0 : Int32)), .val (.int c0)] [(.ref b)]))
  refine gv (fun tQ kQ => XS.iloadN X0.here hx rfl (hb hby d11_27) rfl kQ) ?_
  show G (s₁.setTop (mkF me_ 28 #[.val (.ref d), .val (.int (0 : Int32)), .val (.ref b), .val (.int (0 : Int32)), .val (.int (2 : Int32)), .val (.int (0 : Int32)), .val (.int c0)] [(.int (0 : Int32)), (.ref b)]))
  refine gv (fun tQ kQ => XS.iload X0.here hx rfl (hb hby d11_28) rfl kQ) ?_
  show G (s₁.setTop (mkF me_ 30 #[.val (.ref d), .val (.int (0 : Int32)), .val (.ref b), .val (.int (0 : Int32)), .val (.int (2 : Int32)), .val (.int (0 : Int32)), .val (.int c0)] [(.int c0), (.int (0 : Int32)), (.ref b)]))
  refine gv (fun tQ kQ => XS.i2b X0.here hx rfl (hb hby d11_30) rfl kQ) ?_
  show G (s₁.setTop (mkF me_ 31 #[.val (.ref d), .val (.int (0 : Int32)), .val (.ref b), .val (.int (0 : Int32)), .val (.int (2 : Int32)), .val (.int (0 : Int32)), .val (.int c0)] [(.int (c0.toInt8.toInt32)), (.int (0 : Int32)), (.ref b)]))
  obtain ⟨cl54, Ar54, q54, S54, n54, H54, G54⟩ := (id u3)
  have in54 : ¬ ((0 : Int32) < 0 ∨ cl54.slots.size ≤ ((0 : Int32)).toNatClampNeg) := inb_of S54 ⟨by decide, by decide⟩
  obtain ⟨T54, h54, X54, e54, W54, st54⟩ := stB X0 hx hZ e0 Ar54 (j := (0 : Int32)) in54 (g := (mkF me_ 31 #[.val (.ref d), .val (.int (0 : Int32)), .val (.ref b), .val (.int (0 : Int32)), .val (.int (2 : Int32)), .val (.int (0 : Int32)), .val (.int c0)] [(.int (c0.toInt8.toInt32)), (.int (0 : Int32)), (.ref b)])) rfl rfl (hb hby d11_31)
  have W54 : Wr h0 h54 b ((0 : Int32)).toNatClampNeg (.int (c0.toInt8.toInt32)) := by have z := W54; rw [(own_narB _)] at z; exact z
  refine gv st54 ?_
  have f56 : Arv Z h54 d kd .char (2 : Int32) [(.int c0), (.int c1)] (.int (0 : Int32)) := u2.other W54 u5
  have O57 := O0.wr W54 u4
  have K58 := K0.wr W54 (Or.inl (List.mem_of_getElem? (i := 0) rfl))
  have N59 := Fr.snoc X54 N0 u4
  have f55 : Arv Z h54 b k .byte (2 : Int32) [(.int (c0.toInt8.toInt32)), (.int (0 : Int32))] (.int (0 : Int32)) := Arv.set Ar54 q54 S54 n54 H54 G54 (fits_nar_byte _) W54 0 rfl (Nat.le_of_ble_eq_true rfl)
  show G (T54.setTop (mkF me_ 32 #[.val (.ref d), .val (.int (0 : Int32)), .val (.ref b), .val (.int (0 : Int32)), .val (.int (2 : Int32)), .val (.int (0 : Int32)), .val (.int c0)] []))
  refine gv (fun tQ kQ => XS.iinc X54.here hx rfl (hb hby d11_32) rfl (l' := #[.val (.ref d), .val (.int ((0 : Int32) + (1 : Int32))), .val (.ref b), .val (.int (0 : Int32)), .val (.int (2 : Int32)), .val (.int (0 : Int32)), .val (.int c0)]) rfl kQ) ?_
  show G (T54.setTop (mkF me_ 35 #[.val (.ref d), .val (.int ((0 : Int32) + (1 : Int32))), .val (.ref b), .val (.int (0 : Int32)), .val (.int (2 : Int32)), .val (.int (0 : Int32)), .val (.int c0)] []))
  rw [(by decide : ((0 : Int32) + (1 : Int32)) = (1 : Int32))]
  show G (T54.setTop (mkF me_ 35 #[.val (.ref d), .val (.int (1 : Int32)), .val (.ref b), .val (.int (0 : Int32)), .val (.int (2 : Int32)), .val (.int (0 : Int32)), .val (.int c0)] []))
  refine gv (fun tQ kQ => XS.iinc X54.here hx rfl (hb hby d11_35) rfl (l' := #[.val (.ref d), .val (.int (1 : Int32)), .val (.ref b), .val (.int ((0 : Int32) + (1 : Int32))), .val (.int (2 : Int32)), .val (.int (0 : Int32)), .val (.int c0)]) rfl kQ) ?_
  show G (T54.setTop (mkF me_ 38 #[.val (.ref d), .val (.int (1 : Int32)), .val (.ref b), .val (.int ((0 : Int32) + (1 : Int32))), .val (.int (2 : Int32)), .val (.int (0 : Int32)), .val (.int c0)] []))
  rw [(by decide : ((0 : Int32) + (1 : Int32)) = (1 : Int32))]
  show G (T54.setTop (mkF me_ 38 #[.val (.ref d), .val (.int (1 : Int32)), .val (.ref b), .val (.int (1 : Int32)), .val (.int (2 : Int32)), .val (.int (0 : Int32)), .val (.int c0)] []))
  refine gv (fun tQ kQ => XS.iinc X54.here hx rfl (hb hby d11_38) rfl (l' := #[.val (.ref d), .val (.int (1 : Int32)), .val (.ref b), .val (.int (1 : Int32)), .val (.int (2 : Int32)), .val (.int ((0 : Int32) + (1 : Int32))), .val (.int c0)]) rfl kQ) ?_
  show G (T54.setTop (mkF me_ 41 #[.val (.ref d), .val (.int (1 : Int32)), .val (.ref b), .val (.int (1 : Int32)), .val (.int (2 : Int32)), .val (.int ((0 : Int32) + (1 : Int32))), .val (.int c0)] []))
  rw [(by decide : ((0 : Int32) + (1 : Int32)) = (1 : Int32))]
  show G (T54.setTop (mkF me_ 41 #[.val (.ref d), .val (.int (1 : Int32)), .val (.ref b), .val (.int (1 : Int32)), .val (.int (2 : Int32)), .val (.int (1 : Int32)), .val (.int c0)] []))
  refine gv (fun tQ kQ => XS.goto X54.here hx rfl (pc0 := 41) (pc' := 3) rfl (hb hby d11_41) (by decide) (by decide) kQ) ?_
  show G (T54.setTop (mkF me_ 3 #[.val (.ref d), .val (.int (1 : Int32)), .val (.ref b), .val (.int (1 : Int32)), .val (.int (2 : Int32)), .val (.int (1 : Int32)), .val (.int c0)] []))
  refine gv (fun tQ kQ => XS.iload X54.here hx rfl (hb hby d11_3) rfl kQ) ?_
  show G (T54.setTop (mkF me_ 5 #[.val (.ref d), .val (.int (1 : Int32)), .val (.ref b), .val (.int (1 : Int32)), .val (.int (2 : Int32)), .val (.int (1 : Int32)), .val (.int c0)] [(.int (1 : Int32))]))
  refine gv (fun tQ kQ => XS.iload X54.here hx rfl (hb hby d11_5) rfl kQ) ?_
  show G (T54.setTop (mkF me_ 7 #[.val (.ref d), .val (.int (1 : Int32)), .val (.ref b), .val (.int (1 : Int32)), .val (.int (2 : Int32)), .val (.int (1 : Int32)), .val (.int c0)] [(.int (2 : Int32)), (.int (1 : Int32))]))
  refine gv (fun tQ kQ => XS.icmpNo X54.here hx rfl (hb hby d11_7) rfl (tlt (by decide : (1 : Int32) < (2 : Int32))).2.1 kQ) ?_
  show G (T54.setTop (mkF me_ 10 #[.val (.ref d), .val (.int (1 : Int32)), .val (.ref b), .val (.int (1 : Int32)), .val (.int (2 : Int32)), .val (.int (1 : Int32)), .val (.int c0)] []))
  refine gv (fun tQ kQ => XS.aloadN X54.here hx rfl (hb hby d11_10) rfl rfl kQ) ?_
  show G (T54.setTop (mkF me_ 11 #[.val (.ref d), .val (.int (1 : Int32)), .val (.ref b), .val (.int (1 : Int32)), .val (.int (2 : Int32)), .val (.int (1 : Int32)), .val (.int c0)] [(.ref d)]))
  refine gv (fun tQ kQ => XS.iloadN X54.here hx rfl (hb hby d11_11) rfl kQ) ?_
  show G (T54.setTop (mkF me_ 12 #[.val (.ref d), .val (.int (1 : Int32)), .val (.ref b), .val (.int (1 : Int32)), .val (.int (2 : Int32)), .val (.int (1 : Int32)), .val (.int c0)] [(.int (1 : Int32)), (.ref d)]))
  obtain ⟨cl60, Ar60, q60, S60, n60, H60, G60⟩ := (id f56)
  have in60 : ¬ ((1 : Int32) < 0 ∨ cl60.slots.size ≤ ((1 : Int32)).toNatClampNeg) := inb_of S60 ⟨by decide, by decide⟩
  refine gv (X54.caload hx (j := (1 : Int32)) (v := (.int c1)) (by rw [e54]; exact Ar60.1) (State.isArrayOf_alike hZ.alike Ar60.2.1) Ar60.2.2 in60 (Has.at H60 in60 rfl) (g := (mkF me_ 12 #[.val (.ref d), .val (.int (1 : Int32)), .val (.ref b), .val (.int (1 : Int32)), .val (.int (2 : Int32)), .val (.int (1 : Int32)), .val (.int c0)] [(.int (1 : Int32)), (.ref d)])) rfl rfl (hb hby d11_12)) ?_
  show G (T54.setTop (mkF me_ 13 #[.val (.ref d), .val (.int (1 : Int32)), .val (.ref b), .val (.int (1 : Int32)), .val (.int (2 : Int32)), .val (.int (1 : Int32)), .val (.int c0)] [(.int c1)]))
  refine gv (fun tQ kQ => XS.istore X54.here hx rfl (hb hby d11_13) rfl (l' := #[.val (.ref d), .val (.int (1 : Int32)), .val (.ref b), .val (.int (1 : Int32)), .val (.int (2 : Int32)), .val (.int (1 : Int32)), .val (.int c1)]) rfl kQ) ?_
  show G (T54.setTop (mkF me_ 15 #[.val (.ref d), .val (.int (1 : Int32)), .val (.ref b), .val (.int (1 : Int32)), .val (.int (2 : Int32)), .val (.int (1 : Int32)), .val (.int c1)] []))
  refine gv (fun tQ kQ => XS.iload X54.here hx rfl (hb hby d11_15) rfl kQ) ?_
  show G (T54.setTop (mkF me_ 17 #[.val (.ref d), .val (.int (1 : Int32)), .val (.ref b), .val (.int (1 : Int32)), .val (.int (2 : Int32)), .val (.int (1 : Int32)), .val (.int c1)] [(.int c1)]))
  refine gv (fun tQ kQ => XS.sipush X54.here hx rfl (hb hby d11_17) kQ) ?_
  show G (T54.setTop (mkF me_ 20 #[.val (.ref d), .val (.int (1 : Int32)), .val (.ref b), .val (.int (1 : Int32)), .val (.int (2 : Int32)), .val (.int (1 : Int32)), .val (.int c1)] [(.int (255 : Int32)), (.int c1)]))
  refine gv (fun tQ kQ => XS.icmpYes X54.here hx rfl (pc0 := 20) (pc' := 26) rfl (hb hby d11_20) rfl (flt u1).2.2.2 (by decide) (by decide) kQ) ?_
  show G (T54.setTop (mkF me_ 26 #[.val (.ref d), .val (.int (1 : Int32)), .val (.ref b), .val (.int (1 : Int32)), .val (.int (2 : Int32)), .val (.int (1 : Int32)), .val (.int c1)] []))
  refine gv (fun tQ kQ => XS.aloadN X54.here hx rfl (hb hby d11_26) rfl rfl kQ) ?_
  show G (T54.setTop (mkF me_ 27 #[.val (.ref d), .val (.int (1 : Int32)), .val (.ref b), .val (.int (1 : Int32)), .val (.int (2 : Int32)), .val (.int (1 : Int32)), .val (.int c1)] [(.ref b)]))
  refine gv (fun tQ kQ => XS.iloadN X54.here hx rfl (hb hby d11_27) rfl kQ) ?_
  show G (T54.setTop (mkF me_ 28 #[.val (.ref d), .val (.int (1 : Int32)), .val (.ref b), .val (.int (1 : Int32)), .val (.int (2 : Int32)), .val (.int (1 : Int32)), .val (.int c1)] [(.int (1 : Int32)), (.ref b)]))
  refine gv (fun tQ kQ => XS.iload X54.here hx rfl (hb hby d11_28) rfl kQ) ?_
  show G (T54.setTop (mkF me_ 30 #[.val (.ref d), .val (.int (1 : Int32)), .val (.ref b), .val (.int (1 : Int32)), .val (.int (2 : Int32)), .val (.int (1 : Int32)), .val (.int c1)] [(.int c1), (.int (1 : Int32)), (.ref b)]))
  refine gv (fun tQ kQ => XS.i2b X54.here hx rfl (hb hby d11_30) rfl kQ) ?_
  show G (T54.setTop (mkF me_ 31 #[.val (.ref d), .val (.int (1 : Int32)), .val (.ref b), .val (.int (1 : Int32)), .val (.int (2 : Int32)), .val (.int (1 : Int32)), .val (.int c1)] [(.int (c1.toInt8.toInt32)), (.int (1 : Int32)), (.ref b)]))
  obtain ⟨cl61, Ar61, q61, S61, n61, H61, G61⟩ := (id f55)
  have in61 : ¬ ((1 : Int32) < 0 ∨ cl61.slots.size ≤ ((1 : Int32)).toNatClampNeg) := inb_of S61 ⟨by decide, by decide⟩
  obtain ⟨T61, h61, X61, e61, W61, st61⟩ := stB X54 hx hZ e54 Ar61 (j := (1 : Int32)) in61 (g := (mkF me_ 31 #[.val (.ref d), .val (.int (1 : Int32)), .val (.ref b), .val (.int (1 : Int32)), .val (.int (2 : Int32)), .val (.int (1 : Int32)), .val (.int c1)] [(.int (c1.toInt8.toInt32)), (.int (1 : Int32)), (.ref b)])) rfl rfl (hb hby d11_31)
  have W61 : Wr h54 h61 b ((1 : Int32)).toNatClampNeg (.int (c1.toInt8.toInt32)) := by have z := W61; rw [(own_narB _)] at z; exact z
  refine gv st61 ?_
  have f63 : Arv Z h61 d kd .char (2 : Int32) [(.int c0), (.int c1)] (.int (0 : Int32)) := f56.other W61 u5
  have O64 := O57.wr W61 u4
  have K65 := K58.wr W61 (Or.inl (List.mem_of_getElem? (i := 0) rfl))
  have N66 := Fr.snoc X61 N59 u4
  have f62 : Arv Z h61 b k .byte (2 : Int32) [(.int (c0.toInt8.toInt32)), (.int (c1.toInt8.toInt32))] (.int (0 : Int32)) := Arv.set Ar61 q61 S61 n61 H61 G61 (fits_nar_byte _) W61 1 rfl (Nat.le_of_ble_eq_true rfl)
  show G (T61.setTop (mkF me_ 32 #[.val (.ref d), .val (.int (1 : Int32)), .val (.ref b), .val (.int (1 : Int32)), .val (.int (2 : Int32)), .val (.int (1 : Int32)), .val (.int c1)] []))
  refine gv (fun tQ kQ => XS.iinc X61.here hx rfl (hb hby d11_32) rfl (l' := #[.val (.ref d), .val (.int ((1 : Int32) + (1 : Int32))), .val (.ref b), .val (.int (1 : Int32)), .val (.int (2 : Int32)), .val (.int (1 : Int32)), .val (.int c1)]) rfl kQ) ?_
  show G (T61.setTop (mkF me_ 35 #[.val (.ref d), .val (.int ((1 : Int32) + (1 : Int32))), .val (.ref b), .val (.int (1 : Int32)), .val (.int (2 : Int32)), .val (.int (1 : Int32)), .val (.int c1)] []))
  rw [(by decide : ((1 : Int32) + (1 : Int32)) = (2 : Int32))]
  show G (T61.setTop (mkF me_ 35 #[.val (.ref d), .val (.int (2 : Int32)), .val (.ref b), .val (.int (1 : Int32)), .val (.int (2 : Int32)), .val (.int (1 : Int32)), .val (.int c1)] []))
  refine gv (fun tQ kQ => XS.iinc X61.here hx rfl (hb hby d11_35) rfl (l' := #[.val (.ref d), .val (.int (2 : Int32)), .val (.ref b), .val (.int ((1 : Int32) + (1 : Int32))), .val (.int (2 : Int32)), .val (.int (1 : Int32)), .val (.int c1)]) rfl kQ) ?_
  show G (T61.setTop (mkF me_ 38 #[.val (.ref d), .val (.int (2 : Int32)), .val (.ref b), .val (.int ((1 : Int32) + (1 : Int32))), .val (.int (2 : Int32)), .val (.int (1 : Int32)), .val (.int c1)] []))
  rw [(by decide : ((1 : Int32) + (1 : Int32)) = (2 : Int32))]
  show G (T61.setTop (mkF me_ 38 #[.val (.ref d), .val (.int (2 : Int32)), .val (.ref b), .val (.int (2 : Int32)), .val (.int (2 : Int32)), .val (.int (1 : Int32)), .val (.int c1)] []))
  refine gv (fun tQ kQ => XS.iinc X61.here hx rfl (hb hby d11_38) rfl (l' := #[.val (.ref d), .val (.int (2 : Int32)), .val (.ref b), .val (.int (2 : Int32)), .val (.int (2 : Int32)), .val (.int ((1 : Int32) + (1 : Int32))), .val (.int c1)]) rfl kQ) ?_
  show G (T61.setTop (mkF me_ 41 #[.val (.ref d), .val (.int (2 : Int32)), .val (.ref b), .val (.int (2 : Int32)), .val (.int (2 : Int32)), .val (.int ((1 : Int32) + (1 : Int32))), .val (.int c1)] []))
  rw [(by decide : ((1 : Int32) + (1 : Int32)) = (2 : Int32))]
  show G (T61.setTop (mkF me_ 41 #[.val (.ref d), .val (.int (2 : Int32)), .val (.ref b), .val (.int (2 : Int32)), .val (.int (2 : Int32)), .val (.int (2 : Int32)), .val (.int c1)] []))
  refine gv (fun tQ kQ => XS.goto X61.here hx rfl (pc0 := 41) (pc' := 3) rfl (hb hby d11_41) (by decide) (by decide) kQ) ?_
  show G (T61.setTop (mkF me_ 3 #[.val (.ref d), .val (.int (2 : Int32)), .val (.ref b), .val (.int (2 : Int32)), .val (.int (2 : Int32)), .val (.int (2 : Int32)), .val (.int c1)] []))
  refine gv (fun tQ kQ => XS.iload X61.here hx rfl (hb hby d11_3) rfl kQ) ?_
  show G (T61.setTop (mkF me_ 5 #[.val (.ref d), .val (.int (2 : Int32)), .val (.ref b), .val (.int (2 : Int32)), .val (.int (2 : Int32)), .val (.int (2 : Int32)), .val (.int c1)] [(.int (2 : Int32))]))
  refine gv (fun tQ kQ => XS.iload X61.here hx rfl (hb hby d11_5) rfl kQ) ?_
  show G (T61.setTop (mkF me_ 7 #[.val (.ref d), .val (.int (2 : Int32)), .val (.ref b), .val (.int (2 : Int32)), .val (.int (2 : Int32)), .val (.int (2 : Int32)), .val (.int c1)] [(.int (2 : Int32)), (.int (2 : Int32))]))
  refine gv (fun tQ kQ => XS.icmpYes X61.here hx rfl (pc0 := 7) (pc' := 44) rfl (hb hby d11_7) rfl (flt (by decide : ¬ ((2 : Int32) < (2 : Int32)))).2.1 (by decide) (by decide) kQ) ?_
  show G (T61.setTop (mkF me_ 44 #[.val (.ref d), .val (.int (2 : Int32)), .val (.ref b), .val (.int (2 : Int32)), .val (.int (2 : Int32)), .val (.int (2 : Int32)), .val (.int c1)] []))
  refine gv (fun tQ kQ => XS.iload X61.here hx rfl (hb hby d11_44) rfl kQ) ?_
  show G (T61.setTop (mkF me_ 46 #[.val (.ref d), .val (.int (2 : Int32)), .val (.ref b), .val (.int (2 : Int32)), .val (.int (2 : Int32)), .val (.int (2 : Int32)), .val (.int c1)] [(.int (2 : Int32))]))
  refine gf _ (own_ret X61 Bd.notSynchronized (v := some (.int (2 : Int32))) (fun h => by rw [Bd.returns] at h; cases h) ?_ (by decide) (by decide) (fun fs hr => retOut X61 hx (t := .int) Bd.returns rfl (Or.inl ⟨rfl, Or.inl rfl, _, rfl⟩) (hb hby d11_46) hr))
  show Q_cmp2 Z d kd b k c0 c1 h0 n0 _ T61.heap _
  rw [e61]
  exact ⟨rfl, N66, K65, f62⟩
theorem ef_3 (m : MethodId) (x0 : Addr) (x1 : Int32) (x2 : Int32)  : entryFrame m #[(.ref x0), (.int x1), (.int x2)] 6 = mkF m 0 #[.val (.ref x0), .val (.int x1), .val (.int x2), .unset, .unset, .unset] [] := by first | (simp [entryFrame, mkF, argsToLocals, Value.category]; done) | rfl
theorem d10_0 : decode jdk_52_method_16_code 0 = .ok (.iload_n 2, 1) := by decide +kernel
theorem d10_1 : decode jdk_52_method_16_code 1 = .ok (.newarray .byte, 2) := by decide +kernel
theorem d10_3 : decode jdk_52_method_16_code 3 = .ok (.astore_n 3, 1) := by decide +kernel
theorem d10_4 : decode jdk_52_method_16_code 4 = .ok (.aload_n 0, 1) := by decide +kernel
theorem d10_5 : decode jdk_52_method_16_code 5 = .ok (.iload_n 1, 1) := by decide +kernel
theorem d10_6 : decode jdk_52_method_16_code 6 = .ok (.aload_n 3, 1) := by decide +kernel
theorem d10_7 : decode jdk_52_method_16_code 7 = .ok (.iconst 0, 1) := by decide +kernel
theorem d10_8 : decode jdk_52_method_16_code 8 = .ok (.iload_n 2, 1) := by decide +kernel
theorem d10_9 : decode jdk_52_method_16_code 9 = .ok (.invokestatic 115, 3) := by decide +kernel
theorem pd_3 : parseMethodDescriptor "([CI[BII)I" = some ⟨[(.array .char), .int, (.array .byte), .int, .int], some .int⟩ := by decide +kernel
theorem d10_12 : decode jdk_52_method_16_code 12 = .ok (.istore 4, 2) := by decide +kernel
theorem d10_14 : decode jdk_52_method_16_code 14 = .ok (.iload 4, 2) := by decide +kernel
theorem d10_16 : decode jdk_52_method_16_code 16 = .ok (.iload_n 2, 1) := by decide +kernel
theorem d10_17 : decode jdk_52_method_16_code 17 = .ok (.if_icmp .eq 40, 3) := by decide +kernel
theorem d10_57 : decode jdk_52_method_16_code 57 = .ok (.aload_n 3, 1) := by decide +kernel
theorem d10_58 : decode jdk_52_method_16_code 58 = .ok (.areturn, 1) := by decide +kernel
def Q_cmpr2 (Z : State) (d : Addr) (kd : ClassId) (c0 : Int32) (c1 : Int32) (h0 : Heap) (n0 : Nat) (v : Option Value) (h : Heap) (L : List Loc) : Prop := ∃ (b : Addr), ∃ (k : ClassId), v = some (.ref b) ∧ Fr n0 L ∧ Keep h0 h [] ∧ h0.size ≤ b ∧ (Arv Z h b k .byte (2 : Int32) [(.int (c0.toInt8.toInt32)), (.int (c1.toInt8.toInt32))] (.int (0 : Int32)))
set_option maxRecDepth 65536 in
set_option maxHeartbeats 40000000 in
theorem rm_cmpr2 (l : Launch) (Z : State) (a0 : Array Value) (hw : ∀ d ∈ tables_1, d.before a0 Z = true) (ws : List Jvm.Cond) (d : Addr) (kd : ClassId) (c0 : Int32) (c1 : Int32) (h0 : Heap) (n0 : Nat) (O0 : Old Z n0 h0) (u0 : ¬ ((255 : Int32) < c0)) (u1 : ¬ ((255 : Int32) < c1)) (u2 : Arv Z h0 d kd .char (2 : Int32) [(.int c0), (.int c1)] (.int (0 : Int32))) :
    MetFree l (⟨"java/lang/StringUTF16", "compress", "([CII)[B"⟩ : MethodName) (head1 (Jvm.Cond.code (⟨"java/lang/StringUTF16", "compress", "([CII)[B"⟩ : MethodName) jdk_52_method_16_code 6 (some (.array .byte)) :: ws) ({ frames := 1, cells := 1, slots := 2, locals := 18 } : Room)) (fun aV U => aV = #[(.ref d), (.int (0 : Int32)), (.int (2 : Int32))] ∧ Z.Warmed39 U.vm ∧ U.heap = h0) (fun _ _ _ _ _ => True) (fun _ U o U' => ∃ v L, o = .returned v ∧ Q_cmpr2 Z d kd c0 c1 h0 n0 v U'.heap L ∧ FrameEnd U o U' L ({ frames := 1, cells := 1, slots := 2, locals := 18 } : Room).cells ({ frames := 1, cells := 1, slots := 2, locals := 18 } : Room).slots) := by
  refine MetFree.of_bodySF (plainFor_of_name pn_2) hisR ?_
  intro pr_ en_ st_ me_ args below meth_ co_ s₁ Bd hml0 hP hK
  obtain ⟨rfl, hZ, hh⟩ := hP
  have hx := Bd.exec
  have hby := Bd.bytes
  have hml : co_.maxLocals = 6 := hml0
  have hown : st_.vm.findClass "java/lang/StringUTF16" = some me_.cls := findClass_of_methodNamed Bd.named
  have hnm := (name_of_methodNamed Bd.named Bd.method).1
  have X0 : Stand pr_ l en_ ({ frames := 1, cells := 1, slots := 2, locals := 18 } : Room) st_ me_ #[(.ref d), (.int (0 : Int32)), (.int (2 : Int32))] below meth_ co_ s₁ [] 0 0 := Stand.of_body Bd
  have e0 : s₁.heap = h0 := by rw [← hh, Bd.state]; rfl
  have N0 := Fr.nil n0
  have K0 := Keep.refl h0 []
  obtain ⟨G, gv, gf, gb⟩ := own_G pr_.tables en_ below st_ (Q_cmpr2 Z d kd c0 c1 h0 n0) ({ frames := 1, cells := 1, slots := 2, locals := 18 } : Room).cells ({ frames := 1, cells := 1, slots := 2, locals := 18 } : Room).slots
  show own_Fin pr_.tables en_ below st_ (Q_cmpr2 Z d kd c0 c1 h0 n0) ({ frames := 1, cells := 1, slots := 2, locals := 18 } : Room).cells ({ frames := 1, cells := 1, slots := 2, locals := 18 } : Room).slots (s₁.setTop (entryFrame me_ #[(.ref d), (.int (0 : Int32)), (.int (2 : Int32))] 6))
  refine gb _ (gv (fun tQ kQ => castTop (ef_3 me_ d (0 : Int32) (2 : Int32)) kQ) ?_)
  show G (s₁.setTop (mkF me_ 0 #[.val (.ref d), .val (.int (0 : Int32)), .val (.int (2 : Int32)), .unset, .unset, .unset] []))
  refine gv (fun tQ kQ => XS.iloadN X0.here hx rfl (hb hby d10_0) rfl kQ) ?_
  show G (s₁.setTop (mkF me_ 1 #[.val (.ref d), .val (.int (0 : Int32)), .val (.int (2 : Int32)), .unset, .unset, .unset] [(.int (2 : Int32))]))
  obtain ⟨T67, h67, k67, X67, e67, E67, A67, st67⟩ := newP X0 hx hZ (hw _ (List.mem_of_getElem? (i := 19) rfl)) e0 (g := (mkF me_ 1 #[.val (.ref d), .val (.int (0 : Int32)), .val (.int (2 : Int32)), .unset, .unset, .unset] [(.int (2 : Int32))])) rfl (hb hby d10_1) rfl (by decide) (cap := 2) (by decide) (by decide) (by decide) (by decide)
  obtain ⟨b67, g67⟩ : ∃ z, z = h0.size := ⟨_, rfl⟩
  rw [← g67] at A67 st67
  refine gv st67 ?_
  have ne68 : d ≠ b67 := Nat.ne_of_lt (Nat.lt_of_lt_of_le u2.lt (Nat.le_of_eq g67.symm))
  have g69 : n0 ≤ b67 := Nat.le_trans (own_old O0) (Nat.le_of_eq g67.symm)
  have z70 : h0.size ≤ b67 := Nat.le_trans K0.1 (Nat.le_of_eq g67.symm)
  have f71 : Arv Z h67 d kd .char (2 : Int32) [(.int c0), (.int c1)] (.int (0 : Int32)) := u2.ext E67
  have O72 := O0.ext E67
  have K73 := K0.ext E67
  have V67 : Arv Z h67 b67 k67 .byte (2 : Int32) [(.int (0 : Int32)), (.int (0 : Int32))] (.int (0 : Int32)) := (Arv.new A67 (by decide)).pad (pad_rep [] (.int (0 : Int32)) 2)
  show G (T67.setTop (mkF me_ 3 #[.val (.ref d), .val (.int (0 : Int32)), .val (.int (2 : Int32)), .unset, .unset, .unset] [(.ref b67)]))
  refine gv (fun tQ kQ => XS.astoreN X67.here hx rfl (hb hby d10_3) rfl rfl (l' := #[.val (.ref d), .val (.int (0 : Int32)), .val (.int (2 : Int32)), .val (.ref b67), .unset, .unset]) rfl kQ) ?_
  show G (T67.setTop (mkF me_ 4 #[.val (.ref d), .val (.int (0 : Int32)), .val (.int (2 : Int32)), .val (.ref b67), .unset, .unset] []))
  refine gv (fun tQ kQ => XS.aloadN X67.here hx rfl (hb hby d10_4) rfl rfl kQ) ?_
  show G (T67.setTop (mkF me_ 5 #[.val (.ref d), .val (.int (0 : Int32)), .val (.int (2 : Int32)), .val (.ref b67), .unset, .unset] [(.ref d)]))
  refine gv (fun tQ kQ => XS.iloadN X67.here hx rfl (hb hby d10_5) rfl kQ) ?_
  show G (T67.setTop (mkF me_ 6 #[.val (.ref d), .val (.int (0 : Int32)), .val (.int (2 : Int32)), .val (.ref b67), .unset, .unset] [(.int (0 : Int32)), (.ref d)]))
  refine gv (fun tQ kQ => XS.aloadN X67.here hx rfl (hb hby d10_6) rfl rfl kQ) ?_
  show G (T67.setTop (mkF me_ 7 #[.val (.ref d), .val (.int (0 : Int32)), .val (.int (2 : Int32)), .val (.ref b67), .unset, .unset] [(.ref b67), (.int (0 : Int32)), (.ref d)]))
  refine gv (fun tQ kQ => XS.iconst X67.here hx rfl (hb hby d10_7) kQ) ?_
  show G (T67.setTop (mkF me_ 8 #[.val (.ref d), .val (.int (0 : Int32)), .val (.int (2 : Int32)), .val (.ref b67), .unset, .unset] [(.int (0 : Int32)), (.ref b67), (.int (0 : Int32)), (.ref d)]))
  refine gv (fun tQ kQ => XS.iloadN X67.here hx rfl (hb hby d10_8) rfl kQ) ?_
  show G (T67.setTop (mkF me_ 9 #[.val (.ref d), .val (.int (0 : Int32)), .val (.int (2 : Int32)), .val (.ref b67), .unset, .unset] [(.int (2 : Int32)), (.int (0 : Int32)), (.ref b67), (.int (0 : Int32)), (.ref d)]))
  obtain ⟨_, _, ⟨T74, L74, k74, n74⟩, -, X74, ⟨Lc74, hQ74, l74, y74, z74⟩, st74⟩ := Jvm.LawKit.callS X67 hx (y := (⟨"java/lang/StringUTF16", "compress", "([CI[BII)I"⟩ : MethodName)) hown (mvT hZ (hw _ (List.mem_of_getElem? (i := 50) rfl))) (mvT hZ (hw _ (List.mem_of_getElem? (i := 51) rfl))) (mvT hZ (hw _ (List.mem_of_getElem? (i := 48) rfl))) (mvT hZ (hw _ (List.mem_of_getElem? (i := 52) rfl))) (by decide) (backOf (W := 0) (rm_cmp2 l Z a0 hw [] d kd b67 k67 c0 c1 h67 n0 O72 u0 u1 f71 V67 g69 ne68) hZ (hw _ (List.mem_of_getElem? (i := 52) rfl)) (hw _ (List.mem_of_getElem? (i := 48) rfl)) (by decide) (by decide)) (g := (mkF me_ 9 #[.val (.ref d), .val (.int (0 : Int32)), .val (.int (2 : Int32)), .val (.ref b67), .unset, .unset] [(.int (2 : Int32)), (.int (0 : Int32)), (.ref b67), (.int (0 : Int32)), (.ref d)])) rfl (by rw [hml]; rfl) (argsL := [(.ref d), (.int (0 : Int32)), (.ref b67), (.int (0 : Int32)), (.int (2 : Int32))]) (rest := []) (lenOf pd_3 rfl) rfl (by show 2 * 0 + _ ≤ _; exact Nat.le_of_eq rfl) (hb hby d10_9) (fun _ _ => ⟨rfl, e67, (by decide : 1 + 0 ≤ _), (by decide : 2 + 0 ≤ _)⟩)
  dsimp only [Pt.U, Pt.locs, Pt.cells, Pt.slots] at X74 l74 y74 z74 st74 hQ74
  subst l74 y74 z74
  obtain ⟨rfl, Nq74, Kq74, w74_0⟩ := hQ74
  have N75 := Fr.app N0 Nq74
  obtain ⟨h74, e74⟩ : ∃ z, T74.heap = z := ⟨_, rfl⟩
  rw [e74] at Kq74 w74_0
  have f76 : Arv Z h74 d kd .char (2 : Int32) [(.int c0), (.int c1)] (.int (0 : Int32)) := f71.keep Kq74 (ninS ne68 nin0)
  have O77 := O72.keep Kq74 (allS g69 all0)
  have K78 := K73.trans Kq74 (allS (Or.inr z70) all0)
  refine gv st74 ?_
  show G (T74.setTop (mkF me_ 12 #[.val (.ref d), .val (.int (0 : Int32)), .val (.int (2 : Int32)), .val (.ref b67), .unset, .unset] [(.int (2 : Int32))]))
  refine gv (fun tQ kQ => XS.istore X74.here hx rfl (hb hby d10_12) rfl (l' := #[.val (.ref d), .val (.int (0 : Int32)), .val (.int (2 : Int32)), .val (.ref b67), .val (.int (2 : Int32)), .unset]) rfl kQ) ?_
  show G (T74.setTop (mkF me_ 14 #[.val (.ref d), .val (.int (0 : Int32)), .val (.int (2 : Int32)), .val (.ref b67), .val (.int (2 : Int32)), .unset] []))
  refine gv (fun tQ kQ => XS.iload X74.here hx rfl (hb hby d10_14) rfl kQ) ?_
  show G (T74.setTop (mkF me_ 16 #[.val (.ref d), .val (.int (0 : Int32)), .val (.int (2 : Int32)), .val (.ref b67), .val (.int (2 : Int32)), .unset] [(.int (2 : Int32))]))
  refine gv (fun tQ kQ => XS.iloadN X74.here hx rfl (hb hby d10_16) rfl kQ) ?_
  show G (T74.setTop (mkF me_ 17 #[.val (.ref d), .val (.int (0 : Int32)), .val (.int (2 : Int32)), .val (.ref b67), .val (.int (2 : Int32)), .unset] [(.int (2 : Int32)), (.int (2 : Int32))]))
  refine gv (fun tQ kQ => XS.icmpYes X74.here hx rfl (pc0 := 17) (pc' := 57) rfl (hb hby d10_17) rfl (teq (by decide : (2 : Int32) = (2 : Int32))).1 (by decide) (by decide) kQ) ?_
  show G (T74.setTop (mkF me_ 57 #[.val (.ref d), .val (.int (0 : Int32)), .val (.int (2 : Int32)), .val (.ref b67), .val (.int (2 : Int32)), .unset] []))
  refine gv (fun tQ kQ => XS.aloadN X74.here hx rfl (hb hby d10_57) rfl rfl kQ) ?_
  show G (T74.setTop (mkF me_ 58 #[.val (.ref d), .val (.int (0 : Int32)), .val (.int (2 : Int32)), .val (.ref b67), .val (.int (2 : Int32)), .unset] [(.ref b67)]))
  refine gf _ (own_ret X74 Bd.notSynchronized (v := some (.ref b67)) (fun h => by rw [Bd.returns] at h; cases h) ?_ (by decide) (by decide) (fun fs hr => retOut X74 hx (t := (.array .byte)) Bd.returns rfl (Or.inr (Or.inr (Or.inr (Or.inr ⟨rfl, rfl, rfl⟩)))) (hb hby d10_58) hr))
  show Q_cmpr2 Z d kd c0 c1 h0 n0 _ T74.heap _
  rw [e74]
  exact ⟨b67, k67, rfl, N75, K78, z70, w74_0⟩
theorem ef_4 (m : MethodId) (x0 : Addr) (x1 : Int32)  : entryFrame m #[(.ref x0), (.int x1)] 2 = mkF m 0 #[.val (.ref x0), .val (.int x1)] [] := by first | (simp [entryFrame, mkF, argsToLocals, Value.category]; done) | rfl
theorem d12_0 : decode jdk_52_method_15_code 0 = .ok (.iload_n 1, 1) := by decide +kernel
theorem d12_1 : decode jdk_52_method_15_code 1 = .ok (.aload_n 0, 1) := by decide +kernel
theorem d12_2 : decode jdk_52_method_15_code 2 = .ok (.arraylength, 1) := by decide +kernel
theorem d12_3 : decode jdk_52_method_15_code 3 = .ok (.isub, 1) := by decide +kernel
theorem d12_4 : decode jdk_52_method_15_code 4 = .ok (.bipush 31, 2) := by decide +kernel
theorem d12_6 : decode jdk_52_method_15_code 6 = .ok (.iushr, 1) := by decide +kernel
theorem d12_7 : decode jdk_52_method_15_code 7 = .ok (.i2b, 1) := by decide +kernel
theorem d12_8 : decode jdk_52_method_15_code 8 = .ok (.ireturn, 1) := by decide +kernel
def Q_cfal2 (Z : State) (b : Addr) (k : ClassId) (x0 : Int32) (x1 : Int32) (h0 : Heap) (n0 : Nat) (v : Option Value) (h : Heap) (L : List Loc) : Prop := v = some (.int (0 : Int32)) ∧ Fr n0 L ∧ h = h0
set_option maxRecDepth 65536 in
set_option maxHeartbeats 40000000 in
theorem rm_cfal2 (l : Launch) (Z : State) (a0 : Array Value) (hw : ∀ d ∈ tables_1, d.before a0 Z = true) (ws : List Jvm.Cond) (b : Addr) (k : ClassId) (x0 : Int32) (x1 : Int32) (h0 : Heap) (n0 : Nat) (O0 : Old Z n0 h0) (u0 : Arv Z h0 b k .byte (2 : Int32) [(.int x0), (.int x1)] (.int (0 : Int32))) :
    MetFree l (⟨"java/lang/StringUTF16", "coderFromArrayLen", "([BI)B"⟩ : MethodName) (head1 (Jvm.Cond.code (⟨"java/lang/StringUTF16", "coderFromArrayLen", "([BI)B"⟩ : MethodName) jdk_52_method_15_code 2 (some .byte) :: ws) ({ frames := 0, cells := 0, slots := 0, locals := 0 } : Room)) (fun aV U => aV = #[(.ref b), (.int (2 : Int32))] ∧ Z.Warmed39 U.vm ∧ U.heap = h0) (fun _ _ _ _ _ => True) (fun _ U o U' => ∃ v L, o = .returned v ∧ Q_cfal2 Z b k x0 x1 h0 n0 v U'.heap L ∧ FrameEnd U o U' L ({ frames := 0, cells := 0, slots := 0, locals := 0 } : Room).cells ({ frames := 0, cells := 0, slots := 0, locals := 0 } : Room).slots) := by
  refine MetFree.of_bodySF (plainFor_of_name pn_2) hisR ?_
  intro pr_ en_ st_ me_ args below meth_ co_ s₁ Bd hml0 hP hK
  obtain ⟨rfl, hZ, hh⟩ := hP
  have hx := Bd.exec
  have hby := Bd.bytes
  have hml : co_.maxLocals = 2 := hml0
  have hown : st_.vm.findClass "java/lang/StringUTF16" = some me_.cls := findClass_of_methodNamed Bd.named
  have hnm := (name_of_methodNamed Bd.named Bd.method).1
  have X0 : Stand pr_ l en_ ({ frames := 0, cells := 0, slots := 0, locals := 0 } : Room) st_ me_ #[(.ref b), (.int (2 : Int32))] below meth_ co_ s₁ [] 0 0 := Stand.of_body Bd
  have e0 : s₁.heap = h0 := by rw [← hh, Bd.state]; rfl
  have N0 := Fr.nil n0
  have K0 := Keep.refl h0 []
  obtain ⟨G, gv, gf, gb⟩ := own_G pr_.tables en_ below st_ (Q_cfal2 Z b k x0 x1 h0 n0) ({ frames := 0, cells := 0, slots := 0, locals := 0 } : Room).cells ({ frames := 0, cells := 0, slots := 0, locals := 0 } : Room).slots
  show own_Fin pr_.tables en_ below st_ (Q_cfal2 Z b k x0 x1 h0 n0) ({ frames := 0, cells := 0, slots := 0, locals := 0 } : Room).cells ({ frames := 0, cells := 0, slots := 0, locals := 0 } : Room).slots (s₁.setTop (entryFrame me_ #[(.ref b), (.int (2 : Int32))] 2))
  refine gb _ (gv (fun tQ kQ => castTop (ef_4 me_ b (2 : Int32)) kQ) ?_)
  show G (s₁.setTop (mkF me_ 0 #[.val (.ref b), .val (.int (2 : Int32))] []))
  refine gv (fun tQ kQ => XS.iloadN X0.here hx rfl (hb hby d12_0) rfl kQ) ?_
  show G (s₁.setTop (mkF me_ 1 #[.val (.ref b), .val (.int (2 : Int32))] [(.int (2 : Int32))]))
  refine gv (fun tQ kQ => XS.aloadN X0.here hx rfl (hb hby d12_1) rfl rfl kQ) ?_
  show G (s₁.setTop (mkF me_ 2 #[.val (.ref b), .val (.int (2 : Int32))] [(.ref b), (.int (2 : Int32))]))
  obtain ⟨cl79, Ar79, -, S79, n79, -, -⟩ := (id u0)
  refine gv (X0.arraylength hx (by rw [e0]; exact Ar79.1) (State.isArrayOf_alike hZ.alike Ar79.2.1) (g := (mkF me_ 2 #[.val (.ref b), .val (.int (2 : Int32))] [(.ref b), (.int (2 : Int32))])) rfl rfl (hb hby d12_2)) ?_
  rw [len_of S79 n79]
  show G (s₁.setTop (mkF me_ 3 #[.val (.ref b), .val (.int (2 : Int32))] [(.int (2 : Int32)), (.int (2 : Int32))]))
  refine gv (fun tQ kQ => XS.isub X0.here hx rfl (hb hby d12_3) rfl kQ) ?_
  show G (s₁.setTop (mkF me_ 4 #[.val (.ref b), .val (.int (2 : Int32))] [(.int ((2 : Int32) - (2 : Int32)))]))
  rw [(by decide : ((2 : Int32) - (2 : Int32)) = (0 : Int32))]
  show G (s₁.setTop (mkF me_ 4 #[.val (.ref b), .val (.int (2 : Int32))] [(.int (0 : Int32))]))
  refine gv (fun tQ kQ => XS.bipush X0.here hx rfl (hb hby d12_4) kQ) ?_
  show G (s₁.setTop (mkF me_ 6 #[.val (.ref b), .val (.int (2 : Int32))] [(.int (31 : Int32)), (.int (0 : Int32))]))
  refine gv (fun tQ kQ => XS.iushr X0.here hx rfl (hb hby d12_6) rfl kQ) ?_
  show G (s₁.setTop (mkF me_ 7 #[.val (.ref b), .val (.int (2 : Int32))] [(.int (((0 : Int32).toUInt32 >>> ((31 : Int32) &&& 31).toUInt32).toInt32))]))
  rw [(by decide : (((0 : Int32).toUInt32 >>> ((31 : Int32) &&& 31).toUInt32).toInt32) = (0 : Int32))]
  show G (s₁.setTop (mkF me_ 7 #[.val (.ref b), .val (.int (2 : Int32))] [(.int (0 : Int32))]))
  refine gv (fun tQ kQ => XS.i2b X0.here hx rfl (hb hby d12_7) rfl kQ) ?_
  show G (s₁.setTop (mkF me_ 8 #[.val (.ref b), .val (.int (2 : Int32))] [(.int ((0 : Int32).toInt8.toInt32))]))
  rw [(by decide : ((0 : Int32).toInt8.toInt32) = (0 : Int32))]
  show G (s₁.setTop (mkF me_ 8 #[.val (.ref b), .val (.int (2 : Int32))] [(.int (0 : Int32))]))
  refine gf _ (own_ret X0 Bd.notSynchronized (v := some (.int (0 : Int32))) (fun h => by rw [Bd.returns] at h; cases h) ?_ (by decide) (by decide) (fun fs hr => retN X0 hx (t := .byte) Bd.returns (by simp) (hb hby d12_8) hr))
  show Q_cfal2 Z b k x0 x1 h0 n0 _ s₁.heap _
  rw [e0]
  exact ⟨rfl, N0, rfl⟩
theorem ef_5 (m : MethodId) (x0 : Addr) (x1 : Addr) (x2 : Int32) (x3 : Int32)  : entryFrame m #[(.ref x0), (.ref x1), (.int x2), (.int x3), .null] 6 = mkF m 0 #[.val (.ref x0), .val (.ref x1), .val (.int x2), .val (.int x3), .val .null, .unset] [] := by first | (simp [entryFrame, mkF, argsToLocals, Value.category]; done) | rfl
theorem d3_0 : decode jdk_42_method_149_code 0 = .ok (.aload_n 0, 1) := by decide +kernel
theorem d3_1 : decode jdk_42_method_149_code 1 = .ok (.invokespecial 1, 3) := by decide +kernel
theorem d3_4 : decode jdk_42_method_149_code 4 = .ok (.iload_n 3, 1) := by decide +kernel
theorem d3_5 : decode jdk_42_method_149_code 5 = .ok (.ifCond .ne 22, 3) := by decide +kernel
theorem d3_27 : decode jdk_42_method_149_code 27 = .ok (.getstatic 38, 3) := by decide +kernel
theorem d3_30 : decode jdk_42_method_149_code 30 = .ok (.ifCond .eq 28, 3) := by decide +kernel
theorem d3_33 : decode jdk_42_method_149_code 33 = .ok (.aload_n 1, 1) := by decide +kernel
theorem d3_34 : decode jdk_42_method_149_code 34 = .ok (.iload_n 2, 1) := by decide +kernel
theorem d3_35 : decode jdk_42_method_149_code 35 = .ok (.iload_n 3, 1) := by decide +kernel
theorem d3_36 : decode jdk_42_method_149_code 36 = .ok (.invokestatic 177, 3) := by decide +kernel
theorem pd_4 : parseMethodDescriptor "([CII)[B" = some ⟨[(.array .char), .int, .int], some (.array .byte)⟩ := by decide +kernel
theorem d3_39 : decode jdk_42_method_149_code 39 = .ok (.astore 5, 2) := by decide +kernel
theorem d3_41 : decode jdk_42_method_149_code 41 = .ok (.aload_n 0, 1) := by decide +kernel
theorem d3_42 : decode jdk_42_method_149_code 42 = .ok (.aload 5, 2) := by decide +kernel
theorem d3_44 : decode jdk_42_method_149_code 44 = .ok (.iload_n 3, 1) := by decide +kernel
theorem d3_45 : decode jdk_42_method_149_code 45 = .ok (.invokestatic 47, 3) := by decide +kernel
theorem pd_5 : parseMethodDescriptor "([BI)B" = some ⟨[(.array .byte), .int], some .byte⟩ := by decide +kernel
theorem d3_48 : decode jdk_42_method_149_code 48 = .ok (.putfield 15, 3) := by decide +kernel
theorem d3_51 : decode jdk_42_method_149_code 51 = .ok (.aload_n 0, 1) := by decide +kernel
theorem d3_52 : decode jdk_42_method_149_code 52 = .ok (.aload 5, 2) := by decide +kernel
theorem d3_54 : decode jdk_42_method_149_code 54 = .ok (.putfield 9, 3) := by decide +kernel
theorem d3_57 : decode jdk_42_method_149_code 57 = .ok (.return_, 1) := by decide +kernel
def Q_sci2 (Z : State) (a : Addr) (d : Addr) (kd : ClassId) (c0 : Int32) (c1 : Int32) (cs : Int32) (h0 : Heap) (n0 : Nat) (v : Option Value) (h : Heap) (L : List Loc) : Prop := ∃ (b : Addr), ∃ (k : ClassId), v = none ∧ Fr n0 L ∧ Keep h0 h [a] ∧ h0.size ≤ b ∧ (Exa Z h a "java/lang/String") ∧ (Fld Z h a "java/lang/String" "coder" "B" (.int (0 : Int32))) ∧ (Fld Z h a "java/lang/String" "value" "[B" (.ref b)) ∧ (Arv Z h b k .byte (2 : Int32) [(.int (c0.toInt8.toInt32)), (.int (c1.toInt8.toInt32))] (.int (0 : Int32)))
set_option maxRecDepth 65536 in
set_option maxHeartbeats 40000000 in
theorem rm_sci2 (l : Launch) (Z : State) (a0 : Array Value) (hw : ∀ d ∈ tables_1, d.before a0 Z = true) (ws : List Jvm.Cond) (a : Addr) (d : Addr) (kd : ClassId) (c0 : Int32) (c1 : Int32) (cs : Int32) (h0 : Heap) (n0 : Nat) (O0 : Old Z n0 h0) (u0 : Sta Z Z.heap "java/lang/String" "COMPACT_STRINGS" "Z" (.int cs)) (u1 : ¬ (cs = (0 : Int32))) (u2 : ¬ ((255 : Int32) < c0)) (u3 : ¬ ((255 : Int32) < c1)) (u4 : Exa Z h0 a "java/lang/String") (u5 : Fld Z h0 a "java/lang/String" "value" "[B" .null) (u6 : Fld Z h0 a "java/lang/String" "coder" "B" (.int (0 : Int32))) (u7 : n0 ≤ a) (u8 : Arv Z h0 d kd .char (2 : Int32) [(.int c0), (.int c1)] (.int (0 : Int32))) (u9 : a ≠ d) :
    MetFree l (⟨"java/lang/String", "<init>", "([CIILjava/lang/Void;)V"⟩ : MethodName) (head1 (Jvm.Cond.code (⟨"java/lang/String", "<init>", "([CIILjava/lang/Void;)V"⟩ : MethodName) jdk_42_method_149_code 6 none :: ws) ({ frames := 2, cells := 1, slots := 2, locals := 35 } : Room)) (fun aV U => aV = #[(.ref a), (.ref d), (.int (0 : Int32)), (.int (2 : Int32)), .null] ∧ Z.Warmed39 U.vm ∧ U.heap = h0) (fun _ _ _ _ _ => True) (fun _ U o U' => ∃ v L, o = .returned v ∧ Q_sci2 Z a d kd c0 c1 cs h0 n0 v U'.heap L ∧ FrameEnd U o U' L ({ frames := 2, cells := 1, slots := 2, locals := 35 } : Room).cells ({ frames := 2, cells := 1, slots := 2, locals := 35 } : Room).slots) := by
  refine MetFree.of_bodySF (plainFor_of_name pn_1) hisR ?_
  intro pr_ en_ st_ me_ args below meth_ co_ s₁ Bd hml0 hP hK
  obtain ⟨rfl, hZ, hh⟩ := hP
  have hx := Bd.exec
  have hby := Bd.bytes
  have hml : co_.maxLocals = 6 := hml0
  have hown : st_.vm.findClass "java/lang/String" = some me_.cls := findClass_of_methodNamed Bd.named
  have hnm := (name_of_methodNamed Bd.named Bd.method).1
  have X0 : Stand pr_ l en_ ({ frames := 2, cells := 1, slots := 2, locals := 35 } : Room) st_ me_ #[(.ref a), (.ref d), (.int (0 : Int32)), (.int (2 : Int32)), .null] below meth_ co_ s₁ [] 0 0 := Stand.of_body Bd
  have e0 : s₁.heap = h0 := by rw [← hh, Bd.state]; rfl
  have N0 := Fr.nil n0
  have K0 := Keep.refl h0 [a]
  obtain ⟨G, gv, gf, gb⟩ := own_G pr_.tables en_ below st_ (Q_sci2 Z a d kd c0 c1 cs h0 n0) ({ frames := 2, cells := 1, slots := 2, locals := 35 } : Room).cells ({ frames := 2, cells := 1, slots := 2, locals := 35 } : Room).slots
  show own_Fin pr_.tables en_ below st_ (Q_sci2 Z a d kd c0 c1 cs h0 n0) ({ frames := 2, cells := 1, slots := 2, locals := 35 } : Room).cells ({ frames := 2, cells := 1, slots := 2, locals := 35 } : Room).slots (s₁.setTop (entryFrame me_ #[(.ref a), (.ref d), (.int (0 : Int32)), (.int (2 : Int32)), .null] 6))
  refine gb _ (gv (fun tQ kQ => castTop (ef_5 me_ a d (0 : Int32) (2 : Int32)) kQ) ?_)
  show G (s₁.setTop (mkF me_ 0 #[.val (.ref a), .val (.ref d), .val (.int (0 : Int32)), .val (.int (2 : Int32)), .val .null, .unset] []))
  refine gv (fun tQ kQ => XS.aloadN X0.here hx rfl (hb hby d3_0) rfl rfl kQ) ?_
  show G (s₁.setTop (mkF me_ 1 #[.val (.ref a), .val (.ref d), .val (.int (0 : Int32)), .val (.int (2 : Int32)), .val .null, .unset] [(.ref a)]))
  obtain ⟨T80, X80, e80, st80⟩ := initO X0 hx hZ hown (hw _ (List.mem_of_getElem? (i := 15) rfl)) (hw _ (List.mem_of_getElem? (i := 16) rfl)) (hw _ (List.mem_of_getElem? (i := 17) rfl)) e0 (g := (mkF me_ 1 #[.val (.ref a), .val (.ref d), .val (.int (0 : Int32)), .val (.int (2 : Int32)), .val .null, .unset] [(.ref a)])) rfl (by rw [hml]; rfl) rfl (hb hby d3_1) (by decide) (W := 0) (by show 2 * 0 + _ ≤ _; exact Nat.le_of_eq rfl) (by decide)
  refine gv st80 ?_
  show G (T80.setTop (mkF me_ 4 #[.val (.ref a), .val (.ref d), .val (.int (0 : Int32)), .val (.int (2 : Int32)), .val .null, .unset] []))
  refine gv (fun tQ kQ => XS.iloadN X80.here hx rfl (hb hby d3_4) rfl kQ) ?_
  show G (T80.setTop (mkF me_ 5 #[.val (.ref a), .val (.ref d), .val (.int (0 : Int32)), .val (.int (2 : Int32)), .val .null, .unset] [(.int (2 : Int32))]))
  refine gv (fun tQ kQ => XS.ifYes X80.here hx rfl (pc0 := 5) (pc' := 27) rfl (hb hby d3_5) rfl ((if0 _ _).trans (feq (by decide : ¬ ((2 : Int32) = (0 : Int32)))).2) (by decide) (by decide) kQ) ?_
  show G (T80.setTop (mkF me_ 27 #[.val (.ref a), .val (.ref d), .val (.int (0 : Int32)), .val (.int (2 : Int32)), .val .null, .unset] []))
  obtain ⟨T81, X81, e81, st81⟩ := getS2 X80 hx hZ hown (host := "") (Or.inl (hw _ (List.mem_of_getElem? (i := 34) rfl))) Via.refl e80 (u0.ext O0.2) (g := (mkF me_ 27 #[.val (.ref a), .val (.ref d), .val (.int (0 : Int32)), .val (.int (2 : Int32)), .val .null, .unset] [])) rfl (hb hby d3_27)
  refine gv st81 ?_
  show G (T81.setTop (mkF me_ 30 #[.val (.ref a), .val (.ref d), .val (.int (0 : Int32)), .val (.int (2 : Int32)), .val .null, .unset] [(.int cs)]))
  refine gv (fun tQ kQ => XS.ifNo X81.here hx rfl (hb hby d3_30) rfl ((if0 _ _).trans (feq u1).1) kQ) ?_
  show G (T81.setTop (mkF me_ 33 #[.val (.ref a), .val (.ref d), .val (.int (0 : Int32)), .val (.int (2 : Int32)), .val .null, .unset] []))
  refine gv (fun tQ kQ => XS.aloadN X81.here hx rfl (hb hby d3_33) rfl rfl kQ) ?_
  show G (T81.setTop (mkF me_ 34 #[.val (.ref a), .val (.ref d), .val (.int (0 : Int32)), .val (.int (2 : Int32)), .val .null, .unset] [(.ref d)]))
  refine gv (fun tQ kQ => XS.iloadN X81.here hx rfl (hb hby d3_34) rfl kQ) ?_
  show G (T81.setTop (mkF me_ 35 #[.val (.ref a), .val (.ref d), .val (.int (0 : Int32)), .val (.int (2 : Int32)), .val .null, .unset] [(.int (0 : Int32)), (.ref d)]))
  refine gv (fun tQ kQ => XS.iloadN X81.here hx rfl (hb hby d3_35) rfl kQ) ?_
  show G (T81.setTop (mkF me_ 36 #[.val (.ref a), .val (.ref d), .val (.int (0 : Int32)), .val (.int (2 : Int32)), .val .null, .unset] [(.int (2 : Int32)), (.int (0 : Int32)), (.ref d)]))
  obtain ⟨_, _, ⟨T82, L82, k82, n82⟩, -, X82, ⟨Lc82, hQ82, l82, y82, z82⟩, st82⟩ := Jvm.LawKit.callS X81 hx (y := (⟨"java/lang/StringUTF16", "compress", "([CII)[B"⟩ : MethodName)) hown (mvT hZ (hw _ (List.mem_of_getElem? (i := 46) rfl))) (mvT hZ (hw _ (List.mem_of_getElem? (i := 47) rfl))) (mvT hZ (hw _ (List.mem_of_getElem? (i := 48) rfl))) (mvT hZ (hw _ (List.mem_of_getElem? (i := 49) rfl))) (by decide) (backOf (W := 0) (rm_cmpr2 l Z a0 hw [] d kd c0 c1 h0 n0 O0 u2 u3 u8) hZ (hw _ (List.mem_of_getElem? (i := 49) rfl)) (hw _ (List.mem_of_getElem? (i := 48) rfl)) (by decide) (by decide)) (g := (mkF me_ 36 #[.val (.ref a), .val (.ref d), .val (.int (0 : Int32)), .val (.int (2 : Int32)), .val .null, .unset] [(.int (2 : Int32)), (.int (0 : Int32)), (.ref d)])) rfl (by rw [hml]; rfl) (argsL := [(.ref d), (.int (0 : Int32)), (.int (2 : Int32))]) (rest := []) (lenOf pd_4 rfl) rfl (by show 2 * 0 + _ ≤ _; exact Nat.le_of_eq rfl) (hb hby d3_36) (fun _ _ => ⟨rfl, e81, (by decide : 0 + 1 ≤ _), (by decide : 0 + 2 ≤ _)⟩)
  dsimp only [Pt.U, Pt.locs, Pt.cells, Pt.slots] at X82 l82 y82 z82 st82 hQ82
  subst l82 y82 z82
  obtain ⟨b_82, k_82, rfl, Nq82, Kq82, w82_0, w82_1⟩ := hQ82
  have N83 := Fr.app N0 Nq82
  obtain ⟨h82, e82⟩ : ∃ z, T82.heap = z := ⟨_, rfl⟩
  rw [e82] at Kq82 w82_1
  have ne84 : a ≠ b_82 := Nat.ne_of_lt (Nat.lt_of_lt_of_le u4.lt w82_0)
  have ne85 : d ≠ b_82 := Nat.ne_of_lt (Nat.lt_of_lt_of_le u8.lt w82_0)
  have g86 : n0 ≤ b_82 := Nat.le_trans (own_old O0) w82_0
  have z87 : h0.size ≤ b_82 := Nat.le_trans K0.1 w82_0
  have f88 : Exa Z h82 a "java/lang/String" := u4.keep Kq82
  have f89 : Fld Z h82 a "java/lang/String" "value" "[B" .null := u5.keep Kq82 nin0
  have f90 : Fld Z h82 a "java/lang/String" "coder" "B" (.int (0 : Int32)) := u6.keep Kq82 nin0
  have f91 : Arv Z h82 d kd .char (2 : Int32) [(.int c0), (.int c1)] (.int (0 : Int32)) := u8.keep Kq82 nin0
  have O92 := O0.keep Kq82 all0
  have K93 := K0.trans Kq82 all0
  refine gv st82 ?_
  show G (T82.setTop (mkF me_ 39 #[.val (.ref a), .val (.ref d), .val (.int (0 : Int32)), .val (.int (2 : Int32)), .val .null, .unset] [(.ref b_82)]))
  refine gv (fun tQ kQ => XS.astore X82.here hx rfl (hb hby d3_39) rfl rfl (l' := #[.val (.ref a), .val (.ref d), .val (.int (0 : Int32)), .val (.int (2 : Int32)), .val .null, .val (.ref b_82)]) rfl kQ) ?_
  show G (T82.setTop (mkF me_ 41 #[.val (.ref a), .val (.ref d), .val (.int (0 : Int32)), .val (.int (2 : Int32)), .val .null, .val (.ref b_82)] []))
  refine gv (fun tQ kQ => XS.aloadN X82.here hx rfl (hb hby d3_41) rfl rfl kQ) ?_
  show G (T82.setTop (mkF me_ 42 #[.val (.ref a), .val (.ref d), .val (.int (0 : Int32)), .val (.int (2 : Int32)), .val .null, .val (.ref b_82)] [(.ref a)]))
  refine gv (fun tQ kQ => XS.aload X82.here hx rfl (hb hby d3_42) rfl rfl kQ) ?_
  show G (T82.setTop (mkF me_ 44 #[.val (.ref a), .val (.ref d), .val (.int (0 : Int32)), .val (.int (2 : Int32)), .val .null, .val (.ref b_82)] [(.ref b_82), (.ref a)]))
  refine gv (fun tQ kQ => XS.iloadN X82.here hx rfl (hb hby d3_44) rfl kQ) ?_
  show G (T82.setTop (mkF me_ 45 #[.val (.ref a), .val (.ref d), .val (.int (0 : Int32)), .val (.int (2 : Int32)), .val .null, .val (.ref b_82)] [(.int (2 : Int32)), (.ref b_82), (.ref a)]))
  obtain ⟨_, _, ⟨T94, L94, k94, n94⟩, -, X94, ⟨Lc94, hQ94, l94, y94, z94⟩, st94⟩ := Jvm.LawKit.callS X82 hx (y := (⟨"java/lang/StringUTF16", "coderFromArrayLen", "([BI)B"⟩ : MethodName)) hown (mvT hZ (hw _ (List.mem_of_getElem? (i := 53) rfl))) (mvT hZ (hw _ (List.mem_of_getElem? (i := 54) rfl))) (mvT hZ (hw _ (List.mem_of_getElem? (i := 48) rfl))) (mvT hZ (hw _ (List.mem_of_getElem? (i := 55) rfl))) (by decide) (backOf (W := 1) (rm_cfal2 l Z a0 hw [] b_82 k_82 (c0.toInt8.toInt32) (c1.toInt8.toInt32) h82 n0 O92 w82_1) hZ (hw _ (List.mem_of_getElem? (i := 55) rfl)) (hw _ (List.mem_of_getElem? (i := 48) rfl)) (by decide) (by decide)) (g := (mkF me_ 45 #[.val (.ref a), .val (.ref d), .val (.int (0 : Int32)), .val (.int (2 : Int32)), .val .null, .val (.ref b_82)] [(.int (2 : Int32)), (.ref b_82), (.ref a)])) rfl (by rw [hml]; rfl) (argsL := [(.ref b_82), (.int (2 : Int32))]) (rest := [(.ref a)]) (lenOf pd_5 rfl) rfl (by show 2 * 0 + _ ≤ _; exact Nat.le_of_eq rfl) (hb hby d3_45) (fun _ _ => ⟨rfl, e82, (by decide : 1 + 0 ≤ _), (by decide : 2 + 0 ≤ _)⟩)
  dsimp only [Pt.U, Pt.locs, Pt.cells, Pt.slots] at X94 l94 y94 z94 st94 hQ94
  subst l94 y94 z94
  obtain ⟨rfl, Nq94, eq94⟩ := hQ94
  have N95 := Fr.app N83 Nq94
  refine gv st94 ?_
  show G (T94.setTop (mkF me_ 48 #[.val (.ref a), .val (.ref d), .val (.int (0 : Int32)), .val (.int (2 : Int32)), .val .null, .val (.ref b_82)] [(.int (0 : Int32)), (.ref a)]))
  obtain ⟨T96, h96, X96, e96, W96, st96⟩ := putFN X94 hx hZ hown (hw _ (List.mem_of_getElem? (i := 25) rfl)) Via.refl eq94 f90 f88 (Or.inr ⟨(hw _ (List.mem_of_getElem? (i := 21) rfl)), rfl, hnm⟩) (hw _ (List.mem_of_getElem? (i := 5) rfl)) (ty := .byte) (v' := (.int (0 : Int32))) (by decide) rfl rfl (g := (mkF me_ 48 #[.val (.ref a), .val (.ref d), .val (.int (0 : Int32)), .val (.int (2 : Int32)), .val .null, .val (.ref b_82)] [(.int (0 : Int32)), (.ref a)])) rfl rfl (hb hby d3_48)
  refine gv st96 ?_
  have f98 : Exa Z h96 a "java/lang/String" := f88.wr W96
  have f99 : Fld Z h96 a "java/lang/String" "value" "[B" .null := f89.other W96 (Or.inr (slot_ne (Or.inr (hw _ (List.mem_of_getElem? (i := 20) rfl))) (Or.inr (hw _ (List.mem_of_getElem? (i := 21) rfl))) (by decide) (t := (.array .byte)) (t' := .byte) (by decide) (by decide)))
  have f100 : Arv Z h96 d kd .char (2 : Int32) [(.int c0), (.int c1)] (.int (0 : Int32)) := f91.other W96 (Ne.symm u9)
  have f101 : Arv Z h96 b_82 k_82 .byte (2 : Int32) [(.int (c0.toInt8.toInt32)), (.int (c1.toInt8.toInt32))] (.int (0 : Int32)) := w82_1.other W96 (Ne.symm ne84)
  have O102 := O92.wr W96 u7
  have K103 := K93.wr W96 (Or.inl (List.mem_of_getElem? (i := 0) rfl))
  have N104 := Fr.snoc X96 N95 u7
  have f97 : Fld Z h96 a "java/lang/String" "coder" "B" (.int (0 : Int32)) := f90.same W96
  show G (T96.setTop (mkF me_ 51 #[.val (.ref a), .val (.ref d), .val (.int (0 : Int32)), .val (.int (2 : Int32)), .val .null, .val (.ref b_82)] []))
  refine gv (fun tQ kQ => XS.aloadN X96.here hx rfl (hb hby d3_51) rfl rfl kQ) ?_
  show G (T96.setTop (mkF me_ 52 #[.val (.ref a), .val (.ref d), .val (.int (0 : Int32)), .val (.int (2 : Int32)), .val .null, .val (.ref b_82)] [(.ref a)]))
  refine gv (fun tQ kQ => XS.aload X96.here hx rfl (hb hby d3_52) rfl rfl kQ) ?_
  show G (T96.setTop (mkF me_ 54 #[.val (.ref a), .val (.ref d), .val (.int (0 : Int32)), .val (.int (2 : Int32)), .val .null, .val (.ref b_82)] [(.ref b_82), (.ref a)]))
  obtain ⟨T105, h105, X105, e105, W105, st105⟩ := putF X96 hx hZ hown (host := "") (Or.inl (hw _ (List.mem_of_getElem? (i := 24) rfl))) Via.refl e96 f99 f98 (Or.inr ⟨(hw _ (List.mem_of_getElem? (i := 20) rfl)), rfl, hnm⟩) (hw _ (List.mem_of_getElem? (i := 5) rfl)) (ty := (.array .byte)) (by decide) rfl rfl (g := (mkF me_ 54 #[.val (.ref a), .val (.ref d), .val (.int (0 : Int32)), .val (.int (2 : Int32)), .val .null, .val (.ref b_82)] [(.ref b_82), (.ref a)])) rfl rfl (hb hby d3_54)
  refine gv st105 ?_
  have f107 : Exa Z h105 a "java/lang/String" := f98.wr W105
  have f108 : Fld Z h105 a "java/lang/String" "coder" "B" (.int (0 : Int32)) := f97.other W105 (Or.inr (slot_ne (Or.inr (hw _ (List.mem_of_getElem? (i := 21) rfl))) (Or.inr (hw _ (List.mem_of_getElem? (i := 20) rfl))) (by decide) (t := .byte) (t' := (.array .byte)) (by decide) (by decide)))
  have f109 : Arv Z h105 d kd .char (2 : Int32) [(.int c0), (.int c1)] (.int (0 : Int32)) := f100.other W105 (Ne.symm u9)
  have f110 : Arv Z h105 b_82 k_82 .byte (2 : Int32) [(.int (c0.toInt8.toInt32)), (.int (c1.toInt8.toInt32))] (.int (0 : Int32)) := f101.other W105 (Ne.symm ne84)
  have O111 := O102.wr W105 u7
  have K112 := K103.wr W105 (Or.inl (List.mem_of_getElem? (i := 0) rfl))
  have N113 := Fr.snoc X105 N104 u7
  have f106 : Fld Z h105 a "java/lang/String" "value" "[B" (.ref b_82) := f99.same W105
  show G (T105.setTop (mkF me_ 57 #[.val (.ref a), .val (.ref d), .val (.int (0 : Int32)), .val (.int (2 : Int32)), .val .null, .val (.ref b_82)] []))
  refine gf _ (own_ret X105 Bd.notSynchronized (v := none) (fun _ => rfl) ?_ (by decide) (by decide) (fun fs hr => X105.returnOut hx Bd.returns (hb hby d3_57) hr))
  show Q_sci2 Z a d kd c0 c1 cs h0 n0 _ T105.heap _
  rw [e105]
  exact ⟨b_82, k_82, rfl, N113, K112, z87, f107, f108, f106, f110⟩
theorem ef_6 (m : MethodId) (x0 : Addr) (x1 : Addr)  : entryFrame m #[(.ref x0), (.ref x1)] 2 = mkF m 0 #[.val (.ref x0), .val (.ref x1)] [] := by first | (simp [entryFrame, mkF, argsToLocals, Value.category]; done) | rfl
theorem d2_0 : decode jdk_42_method_3_code 0 = .ok (.aload_n 0, 1) := by decide +kernel
theorem d2_1 : decode jdk_42_method_3_code 1 = .ok (.aload_n 1, 1) := by decide +kernel
theorem d2_2 : decode jdk_42_method_3_code 2 = .ok (.iconst 0, 1) := by decide +kernel
theorem d2_3 : decode jdk_42_method_3_code 3 = .ok (.aload_n 1, 1) := by decide +kernel
theorem d2_4 : decode jdk_42_method_3_code 4 = .ok (.arraylength, 1) := by decide +kernel
theorem d2_5 : decode jdk_42_method_3_code 5 = .ok (.aconst_null, 1) := by decide +kernel
theorem d2_6 : decode jdk_42_method_3_code 6 = .ok (.invokespecial 27, 3) := by decide +kernel
theorem pd_6 : parseMethodDescriptor "([CIILjava/lang/Void;)V" = some ⟨[(.array .char), .int, .int, (.object "java/lang/Void")], none⟩ := by decide +kernel
theorem d2_9 : decode jdk_42_method_3_code 9 = .ok (.return_, 1) := by decide +kernel
def Q_sc2 (Z : State) (a : Addr) (d : Addr) (kd : ClassId) (c0 : Int32) (c1 : Int32) (cs : Int32) (h0 : Heap) (n0 : Nat) (v : Option Value) (h : Heap) (L : List Loc) : Prop := ∃ (b : Addr), ∃ (k : ClassId), v = none ∧ Fr n0 L ∧ Keep h0 h [a] ∧ h0.size ≤ b ∧ (Exa Z h a "java/lang/String") ∧ (Fld Z h a "java/lang/String" "coder" "B" (.int (0 : Int32))) ∧ (Fld Z h a "java/lang/String" "value" "[B" (.ref b)) ∧ (Arv Z h b k .byte (2 : Int32) [(.int (c0.toInt8.toInt32)), (.int (c1.toInt8.toInt32))] (.int (0 : Int32)))
set_option maxRecDepth 65536 in
set_option maxHeartbeats 40000000 in
theorem rm_sc2 (l : Launch) (Z : State) (a0 : Array Value) (hw : ∀ d ∈ tables_1, d.before a0 Z = true) (ws : List Jvm.Cond) (a : Addr) (d : Addr) (kd : ClassId) (c0 : Int32) (c1 : Int32) (cs : Int32) (h0 : Heap) (n0 : Nat) (O0 : Old Z n0 h0) (u0 : Sta Z Z.heap "java/lang/String" "COMPACT_STRINGS" "Z" (.int cs)) (u1 : ¬ (cs = (0 : Int32))) (u2 : ¬ ((255 : Int32) < c0)) (u3 : ¬ ((255 : Int32) < c1)) (u4 : Exa Z h0 a "java/lang/String") (u5 : Fld Z h0 a "java/lang/String" "value" "[B" .null) (u6 : Fld Z h0 a "java/lang/String" "coder" "B" (.int (0 : Int32))) (u7 : n0 ≤ a) (u8 : Arv Z h0 d kd .char (2 : Int32) [(.int c0), (.int c1)] (.int (0 : Int32))) (u9 : a ≠ d) :
    MetFree l (⟨"java/lang/String", "<init>", "([C)V"⟩ : MethodName) (head1 (Jvm.Cond.code (⟨"java/lang/String", "<init>", "([C)V"⟩ : MethodName) jdk_42_method_3_code 2 none :: ws) ({ frames := 3, cells := 1, slots := 2, locals := 52 } : Room)) (fun aV U => aV = #[(.ref a), (.ref d)] ∧ Z.Warmed39 U.vm ∧ U.heap = h0) (fun _ _ _ _ _ => True) (fun _ U o U' => ∃ v L, o = .returned v ∧ Q_sc2 Z a d kd c0 c1 cs h0 n0 v U'.heap L ∧ FrameEnd U o U' L ({ frames := 3, cells := 1, slots := 2, locals := 52 } : Room).cells ({ frames := 3, cells := 1, slots := 2, locals := 52 } : Room).slots) := by
  refine MetFree.of_bodySF (plainFor_of_name pn_1) hisR ?_
  intro pr_ en_ st_ me_ args below meth_ co_ s₁ Bd hml0 hP hK
  obtain ⟨rfl, hZ, hh⟩ := hP
  have hx := Bd.exec
  have hby := Bd.bytes
  have hml : co_.maxLocals = 2 := hml0
  have hown : st_.vm.findClass "java/lang/String" = some me_.cls := findClass_of_methodNamed Bd.named
  have hnm := (name_of_methodNamed Bd.named Bd.method).1
  have X0 : Stand pr_ l en_ ({ frames := 3, cells := 1, slots := 2, locals := 52 } : Room) st_ me_ #[(.ref a), (.ref d)] below meth_ co_ s₁ [] 0 0 := Stand.of_body Bd
  have e0 : s₁.heap = h0 := by rw [← hh, Bd.state]; rfl
  have N0 := Fr.nil n0
  have K0 := Keep.refl h0 [a]
  obtain ⟨G, gv, gf, gb⟩ := own_G pr_.tables en_ below st_ (Q_sc2 Z a d kd c0 c1 cs h0 n0) ({ frames := 3, cells := 1, slots := 2, locals := 52 } : Room).cells ({ frames := 3, cells := 1, slots := 2, locals := 52 } : Room).slots
  show own_Fin pr_.tables en_ below st_ (Q_sc2 Z a d kd c0 c1 cs h0 n0) ({ frames := 3, cells := 1, slots := 2, locals := 52 } : Room).cells ({ frames := 3, cells := 1, slots := 2, locals := 52 } : Room).slots (s₁.setTop (entryFrame me_ #[(.ref a), (.ref d)] 2))
  refine gb _ (gv (fun tQ kQ => castTop (ef_6 me_ a d) kQ) ?_)
  show G (s₁.setTop (mkF me_ 0 #[.val (.ref a), .val (.ref d)] []))
  refine gv (fun tQ kQ => XS.aloadN X0.here hx rfl (hb hby d2_0) rfl rfl kQ) ?_
  show G (s₁.setTop (mkF me_ 1 #[.val (.ref a), .val (.ref d)] [(.ref a)]))
  refine gv (fun tQ kQ => XS.aloadN X0.here hx rfl (hb hby d2_1) rfl rfl kQ) ?_
  show G (s₁.setTop (mkF me_ 2 #[.val (.ref a), .val (.ref d)] [(.ref d), (.ref a)]))
  refine gv (fun tQ kQ => XS.iconst X0.here hx rfl (hb hby d2_2) kQ) ?_
  show G (s₁.setTop (mkF me_ 3 #[.val (.ref a), .val (.ref d)] [(.int (0 : Int32)), (.ref d), (.ref a)]))
  refine gv (fun tQ kQ => XS.aloadN X0.here hx rfl (hb hby d2_3) rfl rfl kQ) ?_
  show G (s₁.setTop (mkF me_ 4 #[.val (.ref a), .val (.ref d)] [(.ref d), (.int (0 : Int32)), (.ref d), (.ref a)]))
  obtain ⟨cl114, Ar114, -, S114, n114, -, -⟩ := (id u8)
  refine gv (X0.arraylength hx (by rw [e0]; exact Ar114.1) (State.isArrayOf_alike hZ.alike Ar114.2.1) (g := (mkF me_ 4 #[.val (.ref a), .val (.ref d)] [(.ref d), (.int (0 : Int32)), (.ref d), (.ref a)])) rfl rfl (hb hby d2_4)) ?_
  rw [len_of S114 n114]
  show G (s₁.setTop (mkF me_ 5 #[.val (.ref a), .val (.ref d)] [(.int (2 : Int32)), (.int (0 : Int32)), (.ref d), (.ref a)]))
  refine gv (fun tQ kQ => XS.aconstNull X0.here hx rfl (hb hby d2_5) kQ) ?_
  show G (s₁.setTop (mkF me_ 6 #[.val (.ref a), .val (.ref d)] [.null, (.int (2 : Int32)), (.int (0 : Int32)), (.ref d), (.ref a)]))
  obtain ⟨_, _, ⟨T115, L115, k115, n115⟩, -, X115, ⟨Lc115, hQ115, l115, y115, z115⟩, st115⟩ := X0.specialBack hx (y := (⟨"java/lang/String", "<init>", "([CIILjava/lang/Void;)V"⟩ : MethodName)) rfl hown (mvT hZ (hw _ (List.mem_of_getElem? (i := 11) rfl))) (mvT hZ (hw _ (List.mem_of_getElem? (i := 12) rfl))) (mvT hZ (hw _ (List.mem_of_getElem? (i := 14) rfl))) (by decide) (backOf (W := 0) (rm_sci2 l Z a0 hw [] a d kd c0 c1 cs h0 n0 O0 u0 u1 u2 u3 u4 u5 u6 u7 u8 u9) hZ (hw _ (List.mem_of_getElem? (i := 14) rfl)) (hw _ (List.mem_of_getElem? (i := 6) rfl)) (by decide) (by decide)) (g := (mkF me_ 6 #[.val (.ref a), .val (.ref d)] [.null, (.int (2 : Int32)), (.int (0 : Int32)), (.ref d), (.ref a)])) rfl (by rw [hml]; rfl) (Steps.refl _) (a := a) (argsL := [(.ref d), (.int (0 : Int32)), (.int (2 : Int32)), .null]) (rest := []) (lenOf pd_6 rfl) rfl (by show 2 * 0 + _ ≤ _; exact Nat.le_of_eq rfl) (hb hby d2_6) (fun _ _ => ⟨rfl, e0, (by decide : 0 + 1 ≤ _), (by decide : 0 + 2 ≤ _)⟩)
  dsimp only [Pt.U, Pt.locs, Pt.cells, Pt.slots] at X115 l115 y115 z115 st115 hQ115
  subst l115 y115 z115
  obtain ⟨b_115, k_115, rfl, Nq115, Kq115, w115_0, w115_1, w115_2, w115_3, w115_4⟩ := hQ115
  have N116 := Fr.app N0 Nq115
  obtain ⟨h115, e115⟩ : ∃ z, T115.heap = z := ⟨_, rfl⟩
  rw [e115] at Kq115 w115_1 w115_2 w115_3 w115_4
  have ne117 : a ≠ b_115 := Nat.ne_of_lt (Nat.lt_of_lt_of_le u4.lt w115_0)
  have ne118 : d ≠ b_115 := Nat.ne_of_lt (Nat.lt_of_lt_of_le u8.lt w115_0)
  have g119 : n0 ≤ b_115 := Nat.le_trans (own_old O0) w115_0
  have z120 : h0.size ≤ b_115 := Nat.le_trans K0.1 w115_0
  have f121 : Exa Z h115 a "java/lang/String" := u4.keep Kq115
  have f122 : Arv Z h115 d kd .char (2 : Int32) [(.int c0), (.int c1)] (.int (0 : Int32)) := u8.keep Kq115 (ninS (Ne.symm u9) nin0)
  have O123 := O0.keep Kq115 (allS u7 all0)
  have K124 := K0.trans Kq115 (allS (Or.inl (List.mem_of_getElem? (i := 0) rfl)) all0)
  refine gv (fun tQ kQ => st115.trans kQ) ?_
  show G (T115.setTop (mkF me_ 9 #[.val (.ref a), .val (.ref d)] []))
  refine gf _ (own_ret X115 Bd.notSynchronized (v := none) (fun _ => rfl) ?_ (by decide) (by decide) (fun fs hr => X115.returnOut hx Bd.returns (hb hby d2_9) hr))
  show Q_sc2 Z a d kd c0 c1 cs h0 n0 _ T115.heap _
  rw [e115]
  exact ⟨b_115, k_115, rfl, N116, K124, z120, w115_1, w115_2, w115_3, w115_4⟩
def Q_cmp3 (Z : State) (d : Addr) (kd : ClassId) (b : Addr) (k : ClassId) (c0 : Int32) (c1 : Int32) (c2 : Int32) (h0 : Heap) (n0 : Nat) (v : Option Value) (h : Heap) (L : List Loc) : Prop := v = some (.int (3 : Int32)) ∧ Fr n0 L ∧ Keep h0 h [b] ∧ (Arv Z h b k .byte (3 : Int32) [(.int (c0.toInt8.toInt32)), (.int (c1.toInt8.toInt32)), (.int (c2.toInt8.toInt32))] (.int (0 : Int32)))
set_option maxRecDepth 65536 in
set_option maxHeartbeats 40000000 in
theorem rm_cmp3 (l : Launch) (Z : State) (a0 : Array Value) (hw : ∀ d ∈ tables_1, d.before a0 Z = true) (ws : List Jvm.Cond) (d : Addr) (kd : ClassId) (b : Addr) (k : ClassId) (c0 : Int32) (c1 : Int32) (c2 : Int32) (h0 : Heap) (n0 : Nat) (O0 : Old Z n0 h0) (u0 : ¬ ((255 : Int32) < c0)) (u1 : ¬ ((255 : Int32) < c1)) (u2 : ¬ ((255 : Int32) < c2)) (u3 : Arv Z h0 d kd .char (3 : Int32) [(.int c0), (.int c1), (.int c2)] (.int (0 : Int32))) (u4 : Arv Z h0 b k .byte (3 : Int32) [(.int (0 : Int32)), (.int (0 : Int32)), (.int (0 : Int32))] (.int (0 : Int32))) (u5 : n0 ≤ b) (u6 : d ≠ b) :
    MetFree l (⟨"java/lang/StringUTF16", "compress", "([CI[BII)I"⟩ : MethodName) (head1 (Jvm.Cond.code (⟨"java/lang/StringUTF16", "compress", "([CI[BII)I"⟩ : MethodName) jdk_52_method_21_code 7 (some .int) :: ws) ({ frames := 0, cells := 0, slots := 0, locals := 0 } : Room)) (fun aV U => aV = #[(.ref d), (.int (0 : Int32)), (.ref b), (.int (0 : Int32)), (.int (3 : Int32))] ∧ Z.Warmed39 U.vm ∧ U.heap = h0) (fun _ _ _ _ _ => True) (fun _ U o U' => ∃ v L, o = .returned v ∧ Q_cmp3 Z d kd b k c0 c1 c2 h0 n0 v U'.heap L ∧ FrameEnd U o U' L ({ frames := 0, cells := 0, slots := 0, locals := 0 } : Room).cells ({ frames := 0, cells := 0, slots := 0, locals := 0 } : Room).slots) := by
  refine MetFree.of_bodySF (plainFor_of_name pn_2) hisR ?_
  intro pr_ en_ st_ me_ args below meth_ co_ s₁ Bd hml0 hP hK
  obtain ⟨rfl, hZ, hh⟩ := hP
  have hx := Bd.exec
  have hby := Bd.bytes
  have hml : co_.maxLocals = 7 := hml0
  have hown : st_.vm.findClass "java/lang/StringUTF16" = some me_.cls := findClass_of_methodNamed Bd.named
  have hnm := (name_of_methodNamed Bd.named Bd.method).1
  have X0 : Stand pr_ l en_ ({ frames := 0, cells := 0, slots := 0, locals := 0 } : Room) st_ me_ #[(.ref d), (.int (0 : Int32)), (.ref b), (.int (0 : Int32)), (.int (3 : Int32))] below meth_ co_ s₁ [] 0 0 := Stand.of_body Bd
  have e0 : s₁.heap = h0 := by rw [← hh, Bd.state]; rfl
  have N0 := Fr.nil n0
  have K0 := Keep.refl h0 [b]
  obtain ⟨G, gv, gf, gb⟩ := own_G pr_.tables en_ below st_ (Q_cmp3 Z d kd b k c0 c1 c2 h0 n0) ({ frames := 0, cells := 0, slots := 0, locals := 0 } : Room).cells ({ frames := 0, cells := 0, slots := 0, locals := 0 } : Room).slots
  show own_Fin pr_.tables en_ below st_ (Q_cmp3 Z d kd b k c0 c1 c2 h0 n0) ({ frames := 0, cells := 0, slots := 0, locals := 0 } : Room).cells ({ frames := 0, cells := 0, slots := 0, locals := 0 } : Room).slots (s₁.setTop (entryFrame me_ #[(.ref d), (.int (0 : Int32)), (.ref b), (.int (0 : Int32)), (.int (3 : Int32))] 7))
  refine gb _ (gv (fun tQ kQ => castTop (ef_2 me_ d (0 : Int32) b (0 : Int32) (3 : Int32)) kQ) ?_)
  show G (s₁.setTop (mkF me_ 0 #[.val (.ref d), .val (.int (0 : Int32)), .val (.ref b), .val (.int (0 : Int32)), .val (.int (3 : Int32)), .unset, .unset] []))
  refine gv (fun tQ kQ => XS.iconst X0.here hx rfl (hb hby d11_0) kQ) ?_
  show G (s₁.setTop (mkF me_ 1 #[.val (.ref d), .val (.int (0 : Int32)), .val (.ref b), .val (.int (0 : Int32)), .val (.int (3 : Int32)), .unset, .unset] [(.int (0 : Int32))]))
  refine gv (fun tQ kQ => XS.istore X0.here hx rfl (hb hby d11_1) rfl (l' := #[.val (.ref d), .val (.int (0 : Int32)), .val (.ref b), .val (.int (0 : Int32)), .val (.int (3 : Int32)), .val (.int (0 : Int32)), .unset]) rfl kQ) ?_
  show G (s₁.setTop (mkF me_ 3 #[.val (.ref d), .val (.int (0 : Int32)), .val (.ref b), .val (.int (0 : Int32)), .val (.int (3 : Int32)), .val (.int (0 : Int32)), .unset] []))
  refine gv (fun tQ kQ => XS.iload X0.here hx rfl (hb hby d11_3) rfl kQ) ?_
  show G (s₁.setTop (mkF me_ 5 #[.val (.ref d), .val (.int (0 : Int32)), .val (.ref b), .val (.int (0 : Int32)), .val (.int (3 : Int32)), .val (.int (0 : Int32)), .unset] [(.int (0 : Int32))]))
  refine gv (fun tQ kQ => XS.iload X0.here hx rfl (hb hby d11_5) rfl kQ) ?_
  show G (s₁.setTop (mkF me_ 7 #[.val (.ref d), .val (.int (0 : Int32)), .val (.ref b), .val (.int (0 : Int32)), .val (.int (3 : Int32)), .val (.int (0 : Int32)), .unset] [(.int (3 : Int32)), (.int (0 : Int32))]))
  refine gv (fun tQ kQ => XS.icmpNo X0.here hx rfl (hb hby d11_7) rfl (tlt (by decide : (0 : Int32) < (3 : Int32))).2.1 kQ) ?_
  show G (s₁.setTop (mkF me_ 10 #[.val (.ref d), .val (.int (0 : Int32)), .val (.ref b), .val (.int (0 : Int32)), .val (.int (3 : Int32)), .val (.int (0 : Int32)), .unset] []))
  refine gv (fun tQ kQ => XS.aloadN X0.here hx rfl (hb hby d11_10) rfl rfl kQ) ?_
  show G (s₁.setTop (mkF me_ 11 #[.val (.ref d), .val (.int (0 : Int32)), .val (.ref b), .val (.int (0 : Int32)), .val (.int (3 : Int32)), .val (.int (0 : Int32)), .unset] [(.ref d)]))
  refine gv (fun tQ kQ => XS.iloadN X0.here hx rfl (hb hby d11_11) rfl kQ) ?_
  show G (s₁.setTop (mkF me_ 12 #[.val (.ref d), .val (.int (0 : Int32)), .val (.ref b), .val (.int (0 : Int32)), .val (.int (3 : Int32)), .val (.int (0 : Int32)), .unset] [(.int (0 : Int32)), (.ref d)]))
  obtain ⟨cl125, Ar125, q125, S125, n125, H125, G125⟩ := (id u3)
  have in125 : ¬ ((0 : Int32) < 0 ∨ cl125.slots.size ≤ ((0 : Int32)).toNatClampNeg) := inb_of S125 ⟨by decide, by decide⟩
  refine gv (X0.caload hx (j := (0 : Int32)) (v := (.int c0)) (by rw [e0]; exact Ar125.1) (State.isArrayOf_alike hZ.alike Ar125.2.1) Ar125.2.2 in125 (Has.at H125 in125 rfl) (g := (mkF me_ 12 #[.val (.ref d), .val (.int (0 : Int32)), .val (.ref b), .val (.int (0 : Int32)), .val (.int (3 : Int32)), .val (.int (0 : Int32)), .unset] [(.int (0 : Int32)), (.ref d)])) rfl rfl (hb hby d11_12)) ?_
  show G (s₁.setTop (mkF me_ 13 #[.val (.ref d), .val (.int (0 : Int32)), .val (.ref b), .val (.int (0 : Int32)), .val (.int (3 : Int32)), .val (.int (0 : Int32)), .unset] [(.int c0)]))
  refine gv (fun tQ kQ => XS.istore X0.here hx rfl (hb hby d11_13) rfl (l' := #[.val (.ref d), .val (.int (0 : Int32)), .val (.ref b), .val (.int (0 : Int32)), .val (.int (3 : Int32)), .val (.int (0 : Int32)), .val (.int c0)]) rfl kQ) ?_
  show G (s₁.setTop (mkF me_ 15 #[.val (.ref d), .val (.int (0 : Int32)), .val (.ref b), .val (.int (0 : Int32)), .val (.int (3 : Int32)), .val (.int (0 : Int32)), .val (.int c0)] []))
  refine gv (fun tQ kQ => XS.iload X0.here hx rfl (hb hby d11_15) rfl kQ) ?_
  show G (s₁.setTop (mkF me_ 17 #[.val (.ref d), .val (.int (0 : Int32)), .val (.ref b), .val (.int (0 : Int32)), .val (.int (3 : Int32)), .val (.int (0 : Int32)), .val (.int c0)] [(.int c0)]))
  refine gv (fun tQ kQ => XS.sipush X0.here hx rfl (hb hby d11_17) kQ) ?_
  show G (s₁.setTop (mkF me_ 20 #[.val (.ref d), .val (.int (0 : Int32)), .val (.ref b), .val (.int (0 : Int32)), .val (.int (3 : Int32)), .val (.int (0 : Int32)), .val (.int c0)] [(.int (255 : Int32)), (.int c0)]))
  refine gv (fun tQ kQ => XS.icmpYes X0.here hx rfl (pc0 := 20) (pc' := 26) rfl (hb hby d11_20) rfl (flt u0).2.2.2 (by decide) (by decide) kQ) ?_
  show G (s₁.setTop (mkF me_ 26 #[.val (.ref d), .val (.int (0 : Int32)), .val (.ref b), .val (.int (0 : Int32)), .val (.int (3 : Int32)), .val (.int (0 : Int32)), .val (.int c0)] []))
  refine gv (fun tQ kQ => XS.aloadN X0.here hx rfl (hb hby d11_26) rfl rfl kQ) ?_
  show G (s₁.setTop (mkF me_ 27 #[.val (.ref d), .val (.int (0 : Int32)), .val (.ref b), .val (.int (0 : Int32)), .val (.int (3 : Int32)), .val (.int (0 : Int32)), .val (.int c0)] [(.ref b)]))
  refine gv (fun tQ kQ => XS.iloadN X0.here hx rfl (hb hby d11_27) rfl kQ) ?_
  show G (s₁.setTop (mkF me_ 28 #[.val (.ref d), .val (.int (0 : Int32)), .val (.ref b), .val (.int (0 : Int32)), .val (.int (3 : Int32)), .val (.int (0 : Int32)), .val (.int c0)] [(.int (0 : Int32)), (.ref b)]))
  refine gv (fun tQ kQ => XS.iload X0.here hx rfl (hb hby d11_28) rfl kQ) ?_
  show G (s₁.setTop (mkF me_ 30 #[.val (.ref d), .val (.int (0 : Int32)), .val (.ref b), .val (.int (0 : Int32)), .val (.int (3 : Int32)), .val (.int (0 : Int32)), .val (.int c0)] [(.int c0), (.int (0 : Int32)), (.ref b)]))
  refine gv (fun tQ kQ => XS.i2b X0.here hx rfl (hb hby d11_30) rfl kQ) ?_
  show G (s₁.setTop (mkF me_ 31 #[.val (.ref d), .val (.int (0 : Int32)), .val (.ref b), .val (.int (0 : Int32)), .val (.int (3 : Int32)), .val (.int (0 : Int32)), .val (.int c0)] [(.int (c0.toInt8.toInt32)), (.int (0 : Int32)), (.ref b)]))
  obtain ⟨cl126, Ar126, q126, S126, n126, H126, G126⟩ := (id u4)
  have in126 : ¬ ((0 : Int32) < 0 ∨ cl126.slots.size ≤ ((0 : Int32)).toNatClampNeg) := inb_of S126 ⟨by decide, by decide⟩
  obtain ⟨T126, h126, X126, e126, W126, st126⟩ := stB X0 hx hZ e0 Ar126 (j := (0 : Int32)) in126 (g := (mkF me_ 31 #[.val (.ref d), .val (.int (0 : Int32)), .val (.ref b), .val (.int (0 : Int32)), .val (.int (3 : Int32)), .val (.int (0 : Int32)), .val (.int c0)] [(.int (c0.toInt8.toInt32)), (.int (0 : Int32)), (.ref b)])) rfl rfl (hb hby d11_31)
  have W126 : Wr h0 h126 b ((0 : Int32)).toNatClampNeg (.int (c0.toInt8.toInt32)) := by have z := W126; rw [(own_narB _)] at z; exact z
  refine gv st126 ?_
  have f128 : Arv Z h126 d kd .char (3 : Int32) [(.int c0), (.int c1), (.int c2)] (.int (0 : Int32)) := u3.other W126 u6
  have O129 := O0.wr W126 u5
  have K130 := K0.wr W126 (Or.inl (List.mem_of_getElem? (i := 0) rfl))
  have N131 := Fr.snoc X126 N0 u5
  have f127 : Arv Z h126 b k .byte (3 : Int32) [(.int (c0.toInt8.toInt32)), (.int (0 : Int32)), (.int (0 : Int32))] (.int (0 : Int32)) := Arv.set Ar126 q126 S126 n126 H126 G126 (fits_nar_byte _) W126 0 rfl (Nat.le_of_ble_eq_true rfl)
  show G (T126.setTop (mkF me_ 32 #[.val (.ref d), .val (.int (0 : Int32)), .val (.ref b), .val (.int (0 : Int32)), .val (.int (3 : Int32)), .val (.int (0 : Int32)), .val (.int c0)] []))
  refine gv (fun tQ kQ => XS.iinc X126.here hx rfl (hb hby d11_32) rfl (l' := #[.val (.ref d), .val (.int ((0 : Int32) + (1 : Int32))), .val (.ref b), .val (.int (0 : Int32)), .val (.int (3 : Int32)), .val (.int (0 : Int32)), .val (.int c0)]) rfl kQ) ?_
  show G (T126.setTop (mkF me_ 35 #[.val (.ref d), .val (.int ((0 : Int32) + (1 : Int32))), .val (.ref b), .val (.int (0 : Int32)), .val (.int (3 : Int32)), .val (.int (0 : Int32)), .val (.int c0)] []))
  rw [(by decide : ((0 : Int32) + (1 : Int32)) = (1 : Int32))]
  show G (T126.setTop (mkF me_ 35 #[.val (.ref d), .val (.int (1 : Int32)), .val (.ref b), .val (.int (0 : Int32)), .val (.int (3 : Int32)), .val (.int (0 : Int32)), .val (.int c0)] []))
  refine gv (fun tQ kQ => XS.iinc X126.here hx rfl (hb hby d11_35) rfl (l' := #[.val (.ref d), .val (.int (1 : Int32)), .val (.ref b), .val (.int ((0 : Int32) + (1 : Int32))), .val (.int (3 : Int32)), .val (.int (0 : Int32)), .val (.int c0)]) rfl kQ) ?_
  show G (T126.setTop (mkF me_ 38 #[.val (.ref d), .val (.int (1 : Int32)), .val (.ref b), .val (.int ((0 : Int32) + (1 : Int32))), .val (.int (3 : Int32)), .val (.int (0 : Int32)), .val (.int c0)] []))
  rw [(by decide : ((0 : Int32) + (1 : Int32)) = (1 : Int32))]
  show G (T126.setTop (mkF me_ 38 #[.val (.ref d), .val (.int (1 : Int32)), .val (.ref b), .val (.int (1 : Int32)), .val (.int (3 : Int32)), .val (.int (0 : Int32)), .val (.int c0)] []))
  refine gv (fun tQ kQ => XS.iinc X126.here hx rfl (hb hby d11_38) rfl (l' := #[.val (.ref d), .val (.int (1 : Int32)), .val (.ref b), .val (.int (1 : Int32)), .val (.int (3 : Int32)), .val (.int ((0 : Int32) + (1 : Int32))), .val (.int c0)]) rfl kQ) ?_
  show G (T126.setTop (mkF me_ 41 #[.val (.ref d), .val (.int (1 : Int32)), .val (.ref b), .val (.int (1 : Int32)), .val (.int (3 : Int32)), .val (.int ((0 : Int32) + (1 : Int32))), .val (.int c0)] []))
  rw [(by decide : ((0 : Int32) + (1 : Int32)) = (1 : Int32))]
  show G (T126.setTop (mkF me_ 41 #[.val (.ref d), .val (.int (1 : Int32)), .val (.ref b), .val (.int (1 : Int32)), .val (.int (3 : Int32)), .val (.int (1 : Int32)), .val (.int c0)] []))
  refine gv (fun tQ kQ => XS.goto X126.here hx rfl (pc0 := 41) (pc' := 3) rfl (hb hby d11_41) (by decide) (by decide) kQ) ?_
  show G (T126.setTop (mkF me_ 3 #[.val (.ref d), .val (.int (1 : Int32)), .val (.ref b), .val (.int (1 : Int32)), .val (.int (3 : Int32)), .val (.int (1 : Int32)), .val (.int c0)] []))
  refine gv (fun tQ kQ => XS.iload X126.here hx rfl (hb hby d11_3) rfl kQ) ?_
  show G (T126.setTop (mkF me_ 5 #[.val (.ref d), .val (.int (1 : Int32)), .val (.ref b), .val (.int (1 : Int32)), .val (.int (3 : Int32)), .val (.int (1 : Int32)), .val (.int c0)] [(.int (1 : Int32))]))
  refine gv (fun tQ kQ => XS.iload X126.here hx rfl (hb hby d11_5) rfl kQ) ?_
  show G (T126.setTop (mkF me_ 7 #[.val (.ref d), .val (.int (1 : Int32)), .val (.ref b), .val (.int (1 : Int32)), .val (.int (3 : Int32)), .val (.int (1 : Int32)), .val (.int c0)] [(.int (3 : Int32)), (.int (1 : Int32))]))
  refine gv (fun tQ kQ => XS.icmpNo X126.here hx rfl (hb hby d11_7) rfl (tlt (by decide : (1 : Int32) < (3 : Int32))).2.1 kQ) ?_
  show G (T126.setTop (mkF me_ 10 #[.val (.ref d), .val (.int (1 : Int32)), .val (.ref b), .val (.int (1 : Int32)), .val (.int (3 : Int32)), .val (.int (1 : Int32)), .val (.int c0)] []))
  refine gv (fun tQ kQ => XS.aloadN X126.here hx rfl (hb hby d11_10) rfl rfl kQ) ?_
  show G (T126.setTop (mkF me_ 11 #[.val (.ref d), .val (.int (1 : Int32)), .val (.ref b), .val (.int (1 : Int32)), .val (.int (3 : Int32)), .val (.int (1 : Int32)), .val (.int c0)] [(.ref d)]))
  refine gv (fun tQ kQ => XS.iloadN X126.here hx rfl (hb hby d11_11) rfl kQ) ?_
  show G (T126.setTop (mkF me_ 12 #[.val (.ref d), .val (.int (1 : Int32)), .val (.ref b), .val (.int (1 : Int32)), .val (.int (3 : Int32)), .val (.int (1 : Int32)), .val (.int c0)] [(.int (1 : Int32)), (.ref d)]))
  obtain ⟨cl132, Ar132, q132, S132, n132, H132, G132⟩ := (id f128)
  have in132 : ¬ ((1 : Int32) < 0 ∨ cl132.slots.size ≤ ((1 : Int32)).toNatClampNeg) := inb_of S132 ⟨by decide, by decide⟩
  refine gv (X126.caload hx (j := (1 : Int32)) (v := (.int c1)) (by rw [e126]; exact Ar132.1) (State.isArrayOf_alike hZ.alike Ar132.2.1) Ar132.2.2 in132 (Has.at H132 in132 rfl) (g := (mkF me_ 12 #[.val (.ref d), .val (.int (1 : Int32)), .val (.ref b), .val (.int (1 : Int32)), .val (.int (3 : Int32)), .val (.int (1 : Int32)), .val (.int c0)] [(.int (1 : Int32)), (.ref d)])) rfl rfl (hb hby d11_12)) ?_
  show G (T126.setTop (mkF me_ 13 #[.val (.ref d), .val (.int (1 : Int32)), .val (.ref b), .val (.int (1 : Int32)), .val (.int (3 : Int32)), .val (.int (1 : Int32)), .val (.int c0)] [(.int c1)]))
  refine gv (fun tQ kQ => XS.istore X126.here hx rfl (hb hby d11_13) rfl (l' := #[.val (.ref d), .val (.int (1 : Int32)), .val (.ref b), .val (.int (1 : Int32)), .val (.int (3 : Int32)), .val (.int (1 : Int32)), .val (.int c1)]) rfl kQ) ?_
  show G (T126.setTop (mkF me_ 15 #[.val (.ref d), .val (.int (1 : Int32)), .val (.ref b), .val (.int (1 : Int32)), .val (.int (3 : Int32)), .val (.int (1 : Int32)), .val (.int c1)] []))
  refine gv (fun tQ kQ => XS.iload X126.here hx rfl (hb hby d11_15) rfl kQ) ?_
  show G (T126.setTop (mkF me_ 17 #[.val (.ref d), .val (.int (1 : Int32)), .val (.ref b), .val (.int (1 : Int32)), .val (.int (3 : Int32)), .val (.int (1 : Int32)), .val (.int c1)] [(.int c1)]))
  refine gv (fun tQ kQ => XS.sipush X126.here hx rfl (hb hby d11_17) kQ) ?_
  show G (T126.setTop (mkF me_ 20 #[.val (.ref d), .val (.int (1 : Int32)), .val (.ref b), .val (.int (1 : Int32)), .val (.int (3 : Int32)), .val (.int (1 : Int32)), .val (.int c1)] [(.int (255 : Int32)), (.int c1)]))
  refine gv (fun tQ kQ => XS.icmpYes X126.here hx rfl (pc0 := 20) (pc' := 26) rfl (hb hby d11_20) rfl (flt u1).2.2.2 (by decide) (by decide) kQ) ?_
  show G (T126.setTop (mkF me_ 26 #[.val (.ref d), .val (.int (1 : Int32)), .val (.ref b), .val (.int (1 : Int32)), .val (.int (3 : Int32)), .val (.int (1 : Int32)), .val (.int c1)] []))
  refine gv (fun tQ kQ => XS.aloadN X126.here hx rfl (hb hby d11_26) rfl rfl kQ) ?_
  show G (T126.setTop (mkF me_ 27 #[.val (.ref d), .val (.int (1 : Int32)), .val (.ref b), .val (.int (1 : Int32)), .val (.int (3 : Int32)), .val (.int (1 : Int32)), .val (.int c1)] [(.ref b)]))
  refine gv (fun tQ kQ => XS.iloadN X126.here hx rfl (hb hby d11_27) rfl kQ) ?_
  show G (T126.setTop (mkF me_ 28 #[.val (.ref d), .val (.int (1 : Int32)), .val (.ref b), .val (.int (1 : Int32)), .val (.int (3 : Int32)), .val (.int (1 : Int32)), .val (.int c1)] [(.int (1 : Int32)), (.ref b)]))
  refine gv (fun tQ kQ => XS.iload X126.here hx rfl (hb hby d11_28) rfl kQ) ?_
  show G (T126.setTop (mkF me_ 30 #[.val (.ref d), .val (.int (1 : Int32)), .val (.ref b), .val (.int (1 : Int32)), .val (.int (3 : Int32)), .val (.int (1 : Int32)), .val (.int c1)] [(.int c1), (.int (1 : Int32)), (.ref b)]))
  refine gv (fun tQ kQ => XS.i2b X126.here hx rfl (hb hby d11_30) rfl kQ) ?_
  show G (T126.setTop (mkF me_ 31 #[.val (.ref d), .val (.int (1 : Int32)), .val (.ref b), .val (.int (1 : Int32)), .val (.int (3 : Int32)), .val (.int (1 : Int32)), .val (.int c1)] [(.int (c1.toInt8.toInt32)), (.int (1 : Int32)), (.ref b)]))
  obtain ⟨cl133, Ar133, q133, S133, n133, H133, G133⟩ := (id f127)
  have in133 : ¬ ((1 : Int32) < 0 ∨ cl133.slots.size ≤ ((1 : Int32)).toNatClampNeg) := inb_of S133 ⟨by decide, by decide⟩
  obtain ⟨T133, h133, X133, e133, W133, st133⟩ := stB X126 hx hZ e126 Ar133 (j := (1 : Int32)) in133 (g := (mkF me_ 31 #[.val (.ref d), .val (.int (1 : Int32)), .val (.ref b), .val (.int (1 : Int32)), .val (.int (3 : Int32)), .val (.int (1 : Int32)), .val (.int c1)] [(.int (c1.toInt8.toInt32)), (.int (1 : Int32)), (.ref b)])) rfl rfl (hb hby d11_31)
  have W133 : Wr h126 h133 b ((1 : Int32)).toNatClampNeg (.int (c1.toInt8.toInt32)) := by have z := W133; rw [(own_narB _)] at z; exact z
  refine gv st133 ?_
  have f135 : Arv Z h133 d kd .char (3 : Int32) [(.int c0), (.int c1), (.int c2)] (.int (0 : Int32)) := f128.other W133 u6
  have O136 := O129.wr W133 u5
  have K137 := K130.wr W133 (Or.inl (List.mem_of_getElem? (i := 0) rfl))
  have N138 := Fr.snoc X133 N131 u5
  have f134 : Arv Z h133 b k .byte (3 : Int32) [(.int (c0.toInt8.toInt32)), (.int (c1.toInt8.toInt32)), (.int (0 : Int32))] (.int (0 : Int32)) := Arv.set Ar133 q133 S133 n133 H133 G133 (fits_nar_byte _) W133 1 rfl (Nat.le_of_ble_eq_true rfl)
  show G (T133.setTop (mkF me_ 32 #[.val (.ref d), .val (.int (1 : Int32)), .val (.ref b), .val (.int (1 : Int32)), .val (.int (3 : Int32)), .val (.int (1 : Int32)), .val (.int c1)] []))
  refine gv (fun tQ kQ => XS.iinc X133.here hx rfl (hb hby d11_32) rfl (l' := #[.val (.ref d), .val (.int ((1 : Int32) + (1 : Int32))), .val (.ref b), .val (.int (1 : Int32)), .val (.int (3 : Int32)), .val (.int (1 : Int32)), .val (.int c1)]) rfl kQ) ?_
  show G (T133.setTop (mkF me_ 35 #[.val (.ref d), .val (.int ((1 : Int32) + (1 : Int32))), .val (.ref b), .val (.int (1 : Int32)), .val (.int (3 : Int32)), .val (.int (1 : Int32)), .val (.int c1)] []))
  rw [(by decide : ((1 : Int32) + (1 : Int32)) = (2 : Int32))]
  show G (T133.setTop (mkF me_ 35 #[.val (.ref d), .val (.int (2 : Int32)), .val (.ref b), .val (.int (1 : Int32)), .val (.int (3 : Int32)), .val (.int (1 : Int32)), .val (.int c1)] []))
  refine gv (fun tQ kQ => XS.iinc X133.here hx rfl (hb hby d11_35) rfl (l' := #[.val (.ref d), .val (.int (2 : Int32)), .val (.ref b), .val (.int ((1 : Int32) + (1 : Int32))), .val (.int (3 : Int32)), .val (.int (1 : Int32)), .val (.int c1)]) rfl kQ) ?_
  show G (T133.setTop (mkF me_ 38 #[.val (.ref d), .val (.int (2 : Int32)), .val (.ref b), .val (.int ((1 : Int32) + (1 : Int32))), .val (.int (3 : Int32)), .val (.int (1 : Int32)), .val (.int c1)] []))
  rw [(by decide : ((1 : Int32) + (1 : Int32)) = (2 : Int32))]
  show G (T133.setTop (mkF me_ 38 #[.val (.ref d), .val (.int (2 : Int32)), .val (.ref b), .val (.int (2 : Int32)), .val (.int (3 : Int32)), .val (.int (1 : Int32)), .val (.int c1)] []))
  refine gv (fun tQ kQ => XS.iinc X133.here hx rfl (hb hby d11_38) rfl (l' := #[.val (.ref d), .val (.int (2 : Int32)), .val (.ref b), .val (.int (2 : Int32)), .val (.int (3 : Int32)), .val (.int ((1 : Int32) + (1 : Int32))), .val (.int c1)]) rfl kQ) ?_
  show G (T133.setTop (mkF me_ 41 #[.val (.ref d), .val (.int (2 : Int32)), .val (.ref b), .val (.int (2 : Int32)), .val (.int (3 : Int32)), .val (.int ((1 : Int32) + (1 : Int32))), .val (.int c1)] []))
  rw [(by decide : ((1 : Int32) + (1 : Int32)) = (2 : Int32))]
  show G (T133.setTop (mkF me_ 41 #[.val (.ref d), .val (.int (2 : Int32)), .val (.ref b), .val (.int (2 : Int32)), .val (.int (3 : Int32)), .val (.int (2 : Int32)), .val (.int c1)] []))
  refine gv (fun tQ kQ => XS.goto X133.here hx rfl (pc0 := 41) (pc' := 3) rfl (hb hby d11_41) (by decide) (by decide) kQ) ?_
  show G (T133.setTop (mkF me_ 3 #[.val (.ref d), .val (.int (2 : Int32)), .val (.ref b), .val (.int (2 : Int32)), .val (.int (3 : Int32)), .val (.int (2 : Int32)), .val (.int c1)] []))
  refine gv (fun tQ kQ => XS.iload X133.here hx rfl (hb hby d11_3) rfl kQ) ?_
  show G (T133.setTop (mkF me_ 5 #[.val (.ref d), .val (.int (2 : Int32)), .val (.ref b), .val (.int (2 : Int32)), .val (.int (3 : Int32)), .val (.int (2 : Int32)), .val (.int c1)] [(.int (2 : Int32))]))
  refine gv (fun tQ kQ => XS.iload X133.here hx rfl (hb hby d11_5) rfl kQ) ?_
  show G (T133.setTop (mkF me_ 7 #[.val (.ref d), .val (.int (2 : Int32)), .val (.ref b), .val (.int (2 : Int32)), .val (.int (3 : Int32)), .val (.int (2 : Int32)), .val (.int c1)] [(.int (3 : Int32)), (.int (2 : Int32))]))
  refine gv (fun tQ kQ => XS.icmpNo X133.here hx rfl (hb hby d11_7) rfl (tlt (by decide : (2 : Int32) < (3 : Int32))).2.1 kQ) ?_
  show G (T133.setTop (mkF me_ 10 #[.val (.ref d), .val (.int (2 : Int32)), .val (.ref b), .val (.int (2 : Int32)), .val (.int (3 : Int32)), .val (.int (2 : Int32)), .val (.int c1)] []))
  refine gv (fun tQ kQ => XS.aloadN X133.here hx rfl (hb hby d11_10) rfl rfl kQ) ?_
  show G (T133.setTop (mkF me_ 11 #[.val (.ref d), .val (.int (2 : Int32)), .val (.ref b), .val (.int (2 : Int32)), .val (.int (3 : Int32)), .val (.int (2 : Int32)), .val (.int c1)] [(.ref d)]))
  refine gv (fun tQ kQ => XS.iloadN X133.here hx rfl (hb hby d11_11) rfl kQ) ?_
  show G (T133.setTop (mkF me_ 12 #[.val (.ref d), .val (.int (2 : Int32)), .val (.ref b), .val (.int (2 : Int32)), .val (.int (3 : Int32)), .val (.int (2 : Int32)), .val (.int c1)] [(.int (2 : Int32)), (.ref d)]))
  obtain ⟨cl139, Ar139, q139, S139, n139, H139, G139⟩ := (id f135)
  have in139 : ¬ ((2 : Int32) < 0 ∨ cl139.slots.size ≤ ((2 : Int32)).toNatClampNeg) := inb_of S139 ⟨by decide, by decide⟩
  refine gv (X133.caload hx (j := (2 : Int32)) (v := (.int c2)) (by rw [e133]; exact Ar139.1) (State.isArrayOf_alike hZ.alike Ar139.2.1) Ar139.2.2 in139 (Has.at H139 in139 rfl) (g := (mkF me_ 12 #[.val (.ref d), .val (.int (2 : Int32)), .val (.ref b), .val (.int (2 : Int32)), .val (.int (3 : Int32)), .val (.int (2 : Int32)), .val (.int c1)] [(.int (2 : Int32)), (.ref d)])) rfl rfl (hb hby d11_12)) ?_
  show G (T133.setTop (mkF me_ 13 #[.val (.ref d), .val (.int (2 : Int32)), .val (.ref b), .val (.int (2 : Int32)), .val (.int (3 : Int32)), .val (.int (2 : Int32)), .val (.int c1)] [(.int c2)]))
  refine gv (fun tQ kQ => XS.istore X133.here hx rfl (hb hby d11_13) rfl (l' := #[.val (.ref d), .val (.int (2 : Int32)), .val (.ref b), .val (.int (2 : Int32)), .val (.int (3 : Int32)), .val (.int (2 : Int32)), .val (.int c2)]) rfl kQ) ?_
  show G (T133.setTop (mkF me_ 15 #[.val (.ref d), .val (.int (2 : Int32)), .val (.ref b), .val (.int (2 : Int32)), .val (.int (3 : Int32)), .val (.int (2 : Int32)), .val (.int c2)] []))
  refine gv (fun tQ kQ => XS.iload X133.here hx rfl (hb hby d11_15) rfl kQ) ?_
  show G (T133.setTop (mkF me_ 17 #[.val (.ref d), .val (.int (2 : Int32)), .val (.ref b), .val (.int (2 : Int32)), .val (.int (3 : Int32)), .val (.int (2 : Int32)), .val (.int c2)] [(.int c2)]))
  refine gv (fun tQ kQ => XS.sipush X133.here hx rfl (hb hby d11_17) kQ) ?_
  show G (T133.setTop (mkF me_ 20 #[.val (.ref d), .val (.int (2 : Int32)), .val (.ref b), .val (.int (2 : Int32)), .val (.int (3 : Int32)), .val (.int (2 : Int32)), .val (.int c2)] [(.int (255 : Int32)), (.int c2)]))
  refine gv (fun tQ kQ => XS.icmpYes X133.here hx rfl (pc0 := 20) (pc' := 26) rfl (hb hby d11_20) rfl (flt u2).2.2.2 (by decide) (by decide) kQ) ?_
  show G (T133.setTop (mkF me_ 26 #[.val (.ref d), .val (.int (2 : Int32)), .val (.ref b), .val (.int (2 : Int32)), .val (.int (3 : Int32)), .val (.int (2 : Int32)), .val (.int c2)] []))
  refine gv (fun tQ kQ => XS.aloadN X133.here hx rfl (hb hby d11_26) rfl rfl kQ) ?_
  show G (T133.setTop (mkF me_ 27 #[.val (.ref d), .val (.int (2 : Int32)), .val (.ref b), .val (.int (2 : Int32)), .val (.int (3 : Int32)), .val (.int (2 : Int32)), .val (.int c2)] [(.ref b)]))
  refine gv (fun tQ kQ => XS.iloadN X133.here hx rfl (hb hby d11_27) rfl kQ) ?_
  show G (T133.setTop (mkF me_ 28 #[.val (.ref d), .val (.int (2 : Int32)), .val (.ref b), .val (.int (2 : Int32)), .val (.int (3 : Int32)), .val (.int (2 : Int32)), .val (.int c2)] [(.int (2 : Int32)), (.ref b)]))
  refine gv (fun tQ kQ => XS.iload X133.here hx rfl (hb hby d11_28) rfl kQ) ?_
  show G (T133.setTop (mkF me_ 30 #[.val (.ref d), .val (.int (2 : Int32)), .val (.ref b), .val (.int (2 : Int32)), .val (.int (3 : Int32)), .val (.int (2 : Int32)), .val (.int c2)] [(.int c2), (.int (2 : Int32)), (.ref b)]))
  refine gv (fun tQ kQ => XS.i2b X133.here hx rfl (hb hby d11_30) rfl kQ) ?_
  show G (T133.setTop (mkF me_ 31 #[.val (.ref d), .val (.int (2 : Int32)), .val (.ref b), .val (.int (2 : Int32)), .val (.int (3 : Int32)), .val (.int (2 : Int32)), .val (.int c2)] [(.int (c2.toInt8.toInt32)), (.int (2 : Int32)), (.ref b)]))
  obtain ⟨cl140, Ar140, q140, S140, n140, H140, G140⟩ := (id f134)
  have in140 : ¬ ((2 : Int32) < 0 ∨ cl140.slots.size ≤ ((2 : Int32)).toNatClampNeg) := inb_of S140 ⟨by decide, by decide⟩
  obtain ⟨T140, h140, X140, e140, W140, st140⟩ := stB X133 hx hZ e133 Ar140 (j := (2 : Int32)) in140 (g := (mkF me_ 31 #[.val (.ref d), .val (.int (2 : Int32)), .val (.ref b), .val (.int (2 : Int32)), .val (.int (3 : Int32)), .val (.int (2 : Int32)), .val (.int c2)] [(.int (c2.toInt8.toInt32)), (.int (2 : Int32)), (.ref b)])) rfl rfl (hb hby d11_31)
  have W140 : Wr h133 h140 b ((2 : Int32)).toNatClampNeg (.int (c2.toInt8.toInt32)) := by have z := W140; rw [(own_narB _)] at z; exact z
  refine gv st140 ?_
  have f142 : Arv Z h140 d kd .char (3 : Int32) [(.int c0), (.int c1), (.int c2)] (.int (0 : Int32)) := f135.other W140 u6
  have O143 := O136.wr W140 u5
  have K144 := K137.wr W140 (Or.inl (List.mem_of_getElem? (i := 0) rfl))
  have N145 := Fr.snoc X140 N138 u5
  have f141 : Arv Z h140 b k .byte (3 : Int32) [(.int (c0.toInt8.toInt32)), (.int (c1.toInt8.toInt32)), (.int (c2.toInt8.toInt32))] (.int (0 : Int32)) := Arv.set Ar140 q140 S140 n140 H140 G140 (fits_nar_byte _) W140 2 rfl (Nat.le_of_ble_eq_true rfl)
  show G (T140.setTop (mkF me_ 32 #[.val (.ref d), .val (.int (2 : Int32)), .val (.ref b), .val (.int (2 : Int32)), .val (.int (3 : Int32)), .val (.int (2 : Int32)), .val (.int c2)] []))
  refine gv (fun tQ kQ => XS.iinc X140.here hx rfl (hb hby d11_32) rfl (l' := #[.val (.ref d), .val (.int ((2 : Int32) + (1 : Int32))), .val (.ref b), .val (.int (2 : Int32)), .val (.int (3 : Int32)), .val (.int (2 : Int32)), .val (.int c2)]) rfl kQ) ?_
  show G (T140.setTop (mkF me_ 35 #[.val (.ref d), .val (.int ((2 : Int32) + (1 : Int32))), .val (.ref b), .val (.int (2 : Int32)), .val (.int (3 : Int32)), .val (.int (2 : Int32)), .val (.int c2)] []))
  rw [(by decide : ((2 : Int32) + (1 : Int32)) = (3 : Int32))]
  show G (T140.setTop (mkF me_ 35 #[.val (.ref d), .val (.int (3 : Int32)), .val (.ref b), .val (.int (2 : Int32)), .val (.int (3 : Int32)), .val (.int (2 : Int32)), .val (.int c2)] []))
  refine gv (fun tQ kQ => XS.iinc X140.here hx rfl (hb hby d11_35) rfl (l' := #[.val (.ref d), .val (.int (3 : Int32)), .val (.ref b), .val (.int ((2 : Int32) + (1 : Int32))), .val (.int (3 : Int32)), .val (.int (2 : Int32)), .val (.int c2)]) rfl kQ) ?_
  show G (T140.setTop (mkF me_ 38 #[.val (.ref d), .val (.int (3 : Int32)), .val (.ref b), .val (.int ((2 : Int32) + (1 : Int32))), .val (.int (3 : Int32)), .val (.int (2 : Int32)), .val (.int c2)] []))
  rw [(by decide : ((2 : Int32) + (1 : Int32)) = (3 : Int32))]
  show G (T140.setTop (mkF me_ 38 #[.val (.ref d), .val (.int (3 : Int32)), .val (.ref b), .val (.int (3 : Int32)), .val (.int (3 : Int32)), .val (.int (2 : Int32)), .val (.int c2)] []))
  refine gv (fun tQ kQ => XS.iinc X140.here hx rfl (hb hby d11_38) rfl (l' := #[.val (.ref d), .val (.int (3 : Int32)), .val (.ref b), .val (.int (3 : Int32)), .val (.int (3 : Int32)), .val (.int ((2 : Int32) + (1 : Int32))), .val (.int c2)]) rfl kQ) ?_
  show G (T140.setTop (mkF me_ 41 #[.val (.ref d), .val (.int (3 : Int32)), .val (.ref b), .val (.int (3 : Int32)), .val (.int (3 : Int32)), .val (.int ((2 : Int32) + (1 : Int32))), .val (.int c2)] []))
  rw [(by decide : ((2 : Int32) + (1 : Int32)) = (3 : Int32))]
  show G (T140.setTop (mkF me_ 41 #[.val (.ref d), .val (.int (3 : Int32)), .val (.ref b), .val (.int (3 : Int32)), .val (.int (3 : Int32)), .val (.int (3 : Int32)), .val (.int c2)] []))
  refine gv (fun tQ kQ => XS.goto X140.here hx rfl (pc0 := 41) (pc' := 3) rfl (hb hby d11_41) (by decide) (by decide) kQ) ?_
  show G (T140.setTop (mkF me_ 3 #[.val (.ref d), .val (.int (3 : Int32)), .val (.ref b), .val (.int (3 : Int32)), .val (.int (3 : Int32)), .val (.int (3 : Int32)), .val (.int c2)] []))
  refine gv (fun tQ kQ => XS.iload X140.here hx rfl (hb hby d11_3) rfl kQ) ?_
  show G (T140.setTop (mkF me_ 5 #[.val (.ref d), .val (.int (3 : Int32)), .val (.ref b), .val (.int (3 : Int32)), .val (.int (3 : Int32)), .val (.int (3 : Int32)), .val (.int c2)] [(.int (3 : Int32))]))
  refine gv (fun tQ kQ => XS.iload X140.here hx rfl (hb hby d11_5) rfl kQ) ?_
  show G (T140.setTop (mkF me_ 7 #[.val (.ref d), .val (.int (3 : Int32)), .val (.ref b), .val (.int (3 : Int32)), .val (.int (3 : Int32)), .val (.int (3 : Int32)), .val (.int c2)] [(.int (3 : Int32)), (.int (3 : Int32))]))
  refine gv (fun tQ kQ => XS.icmpYes X140.here hx rfl (pc0 := 7) (pc' := 44) rfl (hb hby d11_7) rfl (flt (by decide : ¬ ((3 : Int32) < (3 : Int32)))).2.1 (by decide) (by decide) kQ) ?_
  show G (T140.setTop (mkF me_ 44 #[.val (.ref d), .val (.int (3 : Int32)), .val (.ref b), .val (.int (3 : Int32)), .val (.int (3 : Int32)), .val (.int (3 : Int32)), .val (.int c2)] []))
  refine gv (fun tQ kQ => XS.iload X140.here hx rfl (hb hby d11_44) rfl kQ) ?_
  show G (T140.setTop (mkF me_ 46 #[.val (.ref d), .val (.int (3 : Int32)), .val (.ref b), .val (.int (3 : Int32)), .val (.int (3 : Int32)), .val (.int (3 : Int32)), .val (.int c2)] [(.int (3 : Int32))]))
  refine gf _ (own_ret X140 Bd.notSynchronized (v := some (.int (3 : Int32))) (fun h => by rw [Bd.returns] at h; cases h) ?_ (by decide) (by decide) (fun fs hr => retOut X140 hx (t := .int) Bd.returns rfl (Or.inl ⟨rfl, Or.inl rfl, _, rfl⟩) (hb hby d11_46) hr))
  show Q_cmp3 Z d kd b k c0 c1 c2 h0 n0 _ T140.heap _
  rw [e140]
  exact ⟨rfl, N145, K144, f141⟩
def Q_cmpr3 (Z : State) (d : Addr) (kd : ClassId) (c0 : Int32) (c1 : Int32) (c2 : Int32) (h0 : Heap) (n0 : Nat) (v : Option Value) (h : Heap) (L : List Loc) : Prop := ∃ (b : Addr), ∃ (k : ClassId), v = some (.ref b) ∧ Fr n0 L ∧ Keep h0 h [] ∧ h0.size ≤ b ∧ (Arv Z h b k .byte (3 : Int32) [(.int (c0.toInt8.toInt32)), (.int (c1.toInt8.toInt32)), (.int (c2.toInt8.toInt32))] (.int (0 : Int32)))
set_option maxRecDepth 65536 in
set_option maxHeartbeats 40000000 in
theorem rm_cmpr3 (l : Launch) (Z : State) (a0 : Array Value) (hw : ∀ d ∈ tables_1, d.before a0 Z = true) (ws : List Jvm.Cond) (d : Addr) (kd : ClassId) (c0 : Int32) (c1 : Int32) (c2 : Int32) (h0 : Heap) (n0 : Nat) (O0 : Old Z n0 h0) (u0 : ¬ ((255 : Int32) < c0)) (u1 : ¬ ((255 : Int32) < c1)) (u2 : ¬ ((255 : Int32) < c2)) (u3 : Arv Z h0 d kd .char (3 : Int32) [(.int c0), (.int c1), (.int c2)] (.int (0 : Int32))) :
    MetFree l (⟨"java/lang/StringUTF16", "compress", "([CII)[B"⟩ : MethodName) (head1 (Jvm.Cond.code (⟨"java/lang/StringUTF16", "compress", "([CII)[B"⟩ : MethodName) jdk_52_method_16_code 6 (some (.array .byte)) :: ws) ({ frames := 1, cells := 1, slots := 3, locals := 18 } : Room)) (fun aV U => aV = #[(.ref d), (.int (0 : Int32)), (.int (3 : Int32))] ∧ Z.Warmed39 U.vm ∧ U.heap = h0) (fun _ _ _ _ _ => True) (fun _ U o U' => ∃ v L, o = .returned v ∧ Q_cmpr3 Z d kd c0 c1 c2 h0 n0 v U'.heap L ∧ FrameEnd U o U' L ({ frames := 1, cells := 1, slots := 3, locals := 18 } : Room).cells ({ frames := 1, cells := 1, slots := 3, locals := 18 } : Room).slots) := by
  refine MetFree.of_bodySF (plainFor_of_name pn_2) hisR ?_
  intro pr_ en_ st_ me_ args below meth_ co_ s₁ Bd hml0 hP hK
  obtain ⟨rfl, hZ, hh⟩ := hP
  have hx := Bd.exec
  have hby := Bd.bytes
  have hml : co_.maxLocals = 6 := hml0
  have hown : st_.vm.findClass "java/lang/StringUTF16" = some me_.cls := findClass_of_methodNamed Bd.named
  have hnm := (name_of_methodNamed Bd.named Bd.method).1
  have X0 : Stand pr_ l en_ ({ frames := 1, cells := 1, slots := 3, locals := 18 } : Room) st_ me_ #[(.ref d), (.int (0 : Int32)), (.int (3 : Int32))] below meth_ co_ s₁ [] 0 0 := Stand.of_body Bd
  have e0 : s₁.heap = h0 := by rw [← hh, Bd.state]; rfl
  have N0 := Fr.nil n0
  have K0 := Keep.refl h0 []
  obtain ⟨G, gv, gf, gb⟩ := own_G pr_.tables en_ below st_ (Q_cmpr3 Z d kd c0 c1 c2 h0 n0) ({ frames := 1, cells := 1, slots := 3, locals := 18 } : Room).cells ({ frames := 1, cells := 1, slots := 3, locals := 18 } : Room).slots
  show own_Fin pr_.tables en_ below st_ (Q_cmpr3 Z d kd c0 c1 c2 h0 n0) ({ frames := 1, cells := 1, slots := 3, locals := 18 } : Room).cells ({ frames := 1, cells := 1, slots := 3, locals := 18 } : Room).slots (s₁.setTop (entryFrame me_ #[(.ref d), (.int (0 : Int32)), (.int (3 : Int32))] 6))
  refine gb _ (gv (fun tQ kQ => castTop (ef_3 me_ d (0 : Int32) (3 : Int32)) kQ) ?_)
  show G (s₁.setTop (mkF me_ 0 #[.val (.ref d), .val (.int (0 : Int32)), .val (.int (3 : Int32)), .unset, .unset, .unset] []))
  refine gv (fun tQ kQ => XS.iloadN X0.here hx rfl (hb hby d10_0) rfl kQ) ?_
  show G (s₁.setTop (mkF me_ 1 #[.val (.ref d), .val (.int (0 : Int32)), .val (.int (3 : Int32)), .unset, .unset, .unset] [(.int (3 : Int32))]))
  obtain ⟨T146, h146, k146, X146, e146, E146, A146, st146⟩ := newP X0 hx hZ (hw _ (List.mem_of_getElem? (i := 19) rfl)) e0 (g := (mkF me_ 1 #[.val (.ref d), .val (.int (0 : Int32)), .val (.int (3 : Int32)), .unset, .unset, .unset] [(.int (3 : Int32))])) rfl (hb hby d10_1) rfl (by decide) (cap := 3) (by decide) (by decide) (by decide) (by decide)
  obtain ⟨b146, g146⟩ : ∃ z, z = h0.size := ⟨_, rfl⟩
  rw [← g146] at A146 st146
  refine gv st146 ?_
  have ne147 : d ≠ b146 := Nat.ne_of_lt (Nat.lt_of_lt_of_le u3.lt (Nat.le_of_eq g146.symm))
  have g148 : n0 ≤ b146 := Nat.le_trans (own_old O0) (Nat.le_of_eq g146.symm)
  have z149 : h0.size ≤ b146 := Nat.le_trans K0.1 (Nat.le_of_eq g146.symm)
  have f150 : Arv Z h146 d kd .char (3 : Int32) [(.int c0), (.int c1), (.int c2)] (.int (0 : Int32)) := u3.ext E146
  have O151 := O0.ext E146
  have K152 := K0.ext E146
  have V146 : Arv Z h146 b146 k146 .byte (3 : Int32) [(.int (0 : Int32)), (.int (0 : Int32)), (.int (0 : Int32))] (.int (0 : Int32)) := (Arv.new A146 (by decide)).pad (pad_rep [] (.int (0 : Int32)) 3)
  show G (T146.setTop (mkF me_ 3 #[.val (.ref d), .val (.int (0 : Int32)), .val (.int (3 : Int32)), .unset, .unset, .unset] [(.ref b146)]))
  refine gv (fun tQ kQ => XS.astoreN X146.here hx rfl (hb hby d10_3) rfl rfl (l' := #[.val (.ref d), .val (.int (0 : Int32)), .val (.int (3 : Int32)), .val (.ref b146), .unset, .unset]) rfl kQ) ?_
  show G (T146.setTop (mkF me_ 4 #[.val (.ref d), .val (.int (0 : Int32)), .val (.int (3 : Int32)), .val (.ref b146), .unset, .unset] []))
  refine gv (fun tQ kQ => XS.aloadN X146.here hx rfl (hb hby d10_4) rfl rfl kQ) ?_
  show G (T146.setTop (mkF me_ 5 #[.val (.ref d), .val (.int (0 : Int32)), .val (.int (3 : Int32)), .val (.ref b146), .unset, .unset] [(.ref d)]))
  refine gv (fun tQ kQ => XS.iloadN X146.here hx rfl (hb hby d10_5) rfl kQ) ?_
  show G (T146.setTop (mkF me_ 6 #[.val (.ref d), .val (.int (0 : Int32)), .val (.int (3 : Int32)), .val (.ref b146), .unset, .unset] [(.int (0 : Int32)), (.ref d)]))
  refine gv (fun tQ kQ => XS.aloadN X146.here hx rfl (hb hby d10_6) rfl rfl kQ) ?_
  show G (T146.setTop (mkF me_ 7 #[.val (.ref d), .val (.int (0 : Int32)), .val (.int (3 : Int32)), .val (.ref b146), .unset, .unset] [(.ref b146), (.int (0 : Int32)), (.ref d)]))
  refine gv (fun tQ kQ => XS.iconst X146.here hx rfl (hb hby d10_7) kQ) ?_
  show G (T146.setTop (mkF me_ 8 #[.val (.ref d), .val (.int (0 : Int32)), .val (.int (3 : Int32)), .val (.ref b146), .unset, .unset] [(.int (0 : Int32)), (.ref b146), (.int (0 : Int32)), (.ref d)]))
  refine gv (fun tQ kQ => XS.iloadN X146.here hx rfl (hb hby d10_8) rfl kQ) ?_
  show G (T146.setTop (mkF me_ 9 #[.val (.ref d), .val (.int (0 : Int32)), .val (.int (3 : Int32)), .val (.ref b146), .unset, .unset] [(.int (3 : Int32)), (.int (0 : Int32)), (.ref b146), (.int (0 : Int32)), (.ref d)]))
  obtain ⟨_, _, ⟨T153, L153, k153, n153⟩, -, X153, ⟨Lc153, hQ153, l153, y153, z153⟩, st153⟩ := Jvm.LawKit.callS X146 hx (y := (⟨"java/lang/StringUTF16", "compress", "([CI[BII)I"⟩ : MethodName)) hown (mvT hZ (hw _ (List.mem_of_getElem? (i := 50) rfl))) (mvT hZ (hw _ (List.mem_of_getElem? (i := 51) rfl))) (mvT hZ (hw _ (List.mem_of_getElem? (i := 48) rfl))) (mvT hZ (hw _ (List.mem_of_getElem? (i := 52) rfl))) (by decide) (backOf (W := 0) (rm_cmp3 l Z a0 hw [] d kd b146 k146 c0 c1 c2 h146 n0 O151 u0 u1 u2 f150 V146 g148 ne147) hZ (hw _ (List.mem_of_getElem? (i := 52) rfl)) (hw _ (List.mem_of_getElem? (i := 48) rfl)) (by decide) (by decide)) (g := (mkF me_ 9 #[.val (.ref d), .val (.int (0 : Int32)), .val (.int (3 : Int32)), .val (.ref b146), .unset, .unset] [(.int (3 : Int32)), (.int (0 : Int32)), (.ref b146), (.int (0 : Int32)), (.ref d)])) rfl (by rw [hml]; rfl) (argsL := [(.ref d), (.int (0 : Int32)), (.ref b146), (.int (0 : Int32)), (.int (3 : Int32))]) (rest := []) (lenOf pd_3 rfl) rfl (by show 2 * 0 + _ ≤ _; exact Nat.le_of_eq rfl) (hb hby d10_9) (fun _ _ => ⟨rfl, e146, (by decide : 1 + 0 ≤ _), (by decide : 3 + 0 ≤ _)⟩)
  dsimp only [Pt.U, Pt.locs, Pt.cells, Pt.slots] at X153 l153 y153 z153 st153 hQ153
  subst l153 y153 z153
  obtain ⟨rfl, Nq153, Kq153, w153_0⟩ := hQ153
  have N154 := Fr.app N0 Nq153
  obtain ⟨h153, e153⟩ : ∃ z, T153.heap = z := ⟨_, rfl⟩
  rw [e153] at Kq153 w153_0
  have f155 : Arv Z h153 d kd .char (3 : Int32) [(.int c0), (.int c1), (.int c2)] (.int (0 : Int32)) := f150.keep Kq153 (ninS ne147 nin0)
  have O156 := O151.keep Kq153 (allS g148 all0)
  have K157 := K152.trans Kq153 (allS (Or.inr z149) all0)
  refine gv st153 ?_
  show G (T153.setTop (mkF me_ 12 #[.val (.ref d), .val (.int (0 : Int32)), .val (.int (3 : Int32)), .val (.ref b146), .unset, .unset] [(.int (3 : Int32))]))
  refine gv (fun tQ kQ => XS.istore X153.here hx rfl (hb hby d10_12) rfl (l' := #[.val (.ref d), .val (.int (0 : Int32)), .val (.int (3 : Int32)), .val (.ref b146), .val (.int (3 : Int32)), .unset]) rfl kQ) ?_
  show G (T153.setTop (mkF me_ 14 #[.val (.ref d), .val (.int (0 : Int32)), .val (.int (3 : Int32)), .val (.ref b146), .val (.int (3 : Int32)), .unset] []))
  refine gv (fun tQ kQ => XS.iload X153.here hx rfl (hb hby d10_14) rfl kQ) ?_
  show G (T153.setTop (mkF me_ 16 #[.val (.ref d), .val (.int (0 : Int32)), .val (.int (3 : Int32)), .val (.ref b146), .val (.int (3 : Int32)), .unset] [(.int (3 : Int32))]))
  refine gv (fun tQ kQ => XS.iloadN X153.here hx rfl (hb hby d10_16) rfl kQ) ?_
  show G (T153.setTop (mkF me_ 17 #[.val (.ref d), .val (.int (0 : Int32)), .val (.int (3 : Int32)), .val (.ref b146), .val (.int (3 : Int32)), .unset] [(.int (3 : Int32)), (.int (3 : Int32))]))
  refine gv (fun tQ kQ => XS.icmpYes X153.here hx rfl (pc0 := 17) (pc' := 57) rfl (hb hby d10_17) rfl (teq (by decide : (3 : Int32) = (3 : Int32))).1 (by decide) (by decide) kQ) ?_
  show G (T153.setTop (mkF me_ 57 #[.val (.ref d), .val (.int (0 : Int32)), .val (.int (3 : Int32)), .val (.ref b146), .val (.int (3 : Int32)), .unset] []))
  refine gv (fun tQ kQ => XS.aloadN X153.here hx rfl (hb hby d10_57) rfl rfl kQ) ?_
  show G (T153.setTop (mkF me_ 58 #[.val (.ref d), .val (.int (0 : Int32)), .val (.int (3 : Int32)), .val (.ref b146), .val (.int (3 : Int32)), .unset] [(.ref b146)]))
  refine gf _ (own_ret X153 Bd.notSynchronized (v := some (.ref b146)) (fun h => by rw [Bd.returns] at h; cases h) ?_ (by decide) (by decide) (fun fs hr => retOut X153 hx (t := (.array .byte)) Bd.returns rfl (Or.inr (Or.inr (Or.inr (Or.inr ⟨rfl, rfl, rfl⟩)))) (hb hby d10_58) hr))
  show Q_cmpr3 Z d kd c0 c1 c2 h0 n0 _ T153.heap _
  rw [e153]
  exact ⟨b146, k146, rfl, N154, K157, z149, w153_0⟩
def Q_cfal3 (Z : State) (b : Addr) (k : ClassId) (x0 : Int32) (x1 : Int32) (x2 : Int32) (h0 : Heap) (n0 : Nat) (v : Option Value) (h : Heap) (L : List Loc) : Prop := v = some (.int (0 : Int32)) ∧ Fr n0 L ∧ h = h0
set_option maxRecDepth 65536 in
set_option maxHeartbeats 40000000 in
theorem rm_cfal3 (l : Launch) (Z : State) (a0 : Array Value) (hw : ∀ d ∈ tables_1, d.before a0 Z = true) (ws : List Jvm.Cond) (b : Addr) (k : ClassId) (x0 : Int32) (x1 : Int32) (x2 : Int32) (h0 : Heap) (n0 : Nat) (O0 : Old Z n0 h0) (u0 : Arv Z h0 b k .byte (3 : Int32) [(.int x0), (.int x1), (.int x2)] (.int (0 : Int32))) :
    MetFree l (⟨"java/lang/StringUTF16", "coderFromArrayLen", "([BI)B"⟩ : MethodName) (head1 (Jvm.Cond.code (⟨"java/lang/StringUTF16", "coderFromArrayLen", "([BI)B"⟩ : MethodName) jdk_52_method_15_code 2 (some .byte) :: ws) ({ frames := 0, cells := 0, slots := 0, locals := 0 } : Room)) (fun aV U => aV = #[(.ref b), (.int (3 : Int32))] ∧ Z.Warmed39 U.vm ∧ U.heap = h0) (fun _ _ _ _ _ => True) (fun _ U o U' => ∃ v L, o = .returned v ∧ Q_cfal3 Z b k x0 x1 x2 h0 n0 v U'.heap L ∧ FrameEnd U o U' L ({ frames := 0, cells := 0, slots := 0, locals := 0 } : Room).cells ({ frames := 0, cells := 0, slots := 0, locals := 0 } : Room).slots) := by
  refine MetFree.of_bodySF (plainFor_of_name pn_2) hisR ?_
  intro pr_ en_ st_ me_ args below meth_ co_ s₁ Bd hml0 hP hK
  obtain ⟨rfl, hZ, hh⟩ := hP
  have hx := Bd.exec
  have hby := Bd.bytes
  have hml : co_.maxLocals = 2 := hml0
  have hown : st_.vm.findClass "java/lang/StringUTF16" = some me_.cls := findClass_of_methodNamed Bd.named
  have hnm := (name_of_methodNamed Bd.named Bd.method).1
  have X0 : Stand pr_ l en_ ({ frames := 0, cells := 0, slots := 0, locals := 0 } : Room) st_ me_ #[(.ref b), (.int (3 : Int32))] below meth_ co_ s₁ [] 0 0 := Stand.of_body Bd
  have e0 : s₁.heap = h0 := by rw [← hh, Bd.state]; rfl
  have N0 := Fr.nil n0
  have K0 := Keep.refl h0 []
  obtain ⟨G, gv, gf, gb⟩ := own_G pr_.tables en_ below st_ (Q_cfal3 Z b k x0 x1 x2 h0 n0) ({ frames := 0, cells := 0, slots := 0, locals := 0 } : Room).cells ({ frames := 0, cells := 0, slots := 0, locals := 0 } : Room).slots
  show own_Fin pr_.tables en_ below st_ (Q_cfal3 Z b k x0 x1 x2 h0 n0) ({ frames := 0, cells := 0, slots := 0, locals := 0 } : Room).cells ({ frames := 0, cells := 0, slots := 0, locals := 0 } : Room).slots (s₁.setTop (entryFrame me_ #[(.ref b), (.int (3 : Int32))] 2))
  refine gb _ (gv (fun tQ kQ => castTop (ef_4 me_ b (3 : Int32)) kQ) ?_)
  show G (s₁.setTop (mkF me_ 0 #[.val (.ref b), .val (.int (3 : Int32))] []))
  refine gv (fun tQ kQ => XS.iloadN X0.here hx rfl (hb hby d12_0) rfl kQ) ?_
  show G (s₁.setTop (mkF me_ 1 #[.val (.ref b), .val (.int (3 : Int32))] [(.int (3 : Int32))]))
  refine gv (fun tQ kQ => XS.aloadN X0.here hx rfl (hb hby d12_1) rfl rfl kQ) ?_
  show G (s₁.setTop (mkF me_ 2 #[.val (.ref b), .val (.int (3 : Int32))] [(.ref b), (.int (3 : Int32))]))
  obtain ⟨cl158, Ar158, -, S158, n158, -, -⟩ := (id u0)
  refine gv (X0.arraylength hx (by rw [e0]; exact Ar158.1) (State.isArrayOf_alike hZ.alike Ar158.2.1) (g := (mkF me_ 2 #[.val (.ref b), .val (.int (3 : Int32))] [(.ref b), (.int (3 : Int32))])) rfl rfl (hb hby d12_2)) ?_
  rw [len_of S158 n158]
  show G (s₁.setTop (mkF me_ 3 #[.val (.ref b), .val (.int (3 : Int32))] [(.int (3 : Int32)), (.int (3 : Int32))]))
  refine gv (fun tQ kQ => XS.isub X0.here hx rfl (hb hby d12_3) rfl kQ) ?_
  show G (s₁.setTop (mkF me_ 4 #[.val (.ref b), .val (.int (3 : Int32))] [(.int ((3 : Int32) - (3 : Int32)))]))
  rw [(by decide : ((3 : Int32) - (3 : Int32)) = (0 : Int32))]
  show G (s₁.setTop (mkF me_ 4 #[.val (.ref b), .val (.int (3 : Int32))] [(.int (0 : Int32))]))
  refine gv (fun tQ kQ => XS.bipush X0.here hx rfl (hb hby d12_4) kQ) ?_
  show G (s₁.setTop (mkF me_ 6 #[.val (.ref b), .val (.int (3 : Int32))] [(.int (31 : Int32)), (.int (0 : Int32))]))
  refine gv (fun tQ kQ => XS.iushr X0.here hx rfl (hb hby d12_6) rfl kQ) ?_
  show G (s₁.setTop (mkF me_ 7 #[.val (.ref b), .val (.int (3 : Int32))] [(.int (((0 : Int32).toUInt32 >>> ((31 : Int32) &&& 31).toUInt32).toInt32))]))
  rw [(by decide : (((0 : Int32).toUInt32 >>> ((31 : Int32) &&& 31).toUInt32).toInt32) = (0 : Int32))]
  show G (s₁.setTop (mkF me_ 7 #[.val (.ref b), .val (.int (3 : Int32))] [(.int (0 : Int32))]))
  refine gv (fun tQ kQ => XS.i2b X0.here hx rfl (hb hby d12_7) rfl kQ) ?_
  show G (s₁.setTop (mkF me_ 8 #[.val (.ref b), .val (.int (3 : Int32))] [(.int ((0 : Int32).toInt8.toInt32))]))
  rw [(by decide : ((0 : Int32).toInt8.toInt32) = (0 : Int32))]
  show G (s₁.setTop (mkF me_ 8 #[.val (.ref b), .val (.int (3 : Int32))] [(.int (0 : Int32))]))
  refine gf _ (own_ret X0 Bd.notSynchronized (v := some (.int (0 : Int32))) (fun h => by rw [Bd.returns] at h; cases h) ?_ (by decide) (by decide) (fun fs hr => retN X0 hx (t := .byte) Bd.returns (by simp) (hb hby d12_8) hr))
  show Q_cfal3 Z b k x0 x1 x2 h0 n0 _ s₁.heap _
  rw [e0]
  exact ⟨rfl, N0, rfl⟩
def Q_sci3 (Z : State) (a : Addr) (d : Addr) (kd : ClassId) (c0 : Int32) (c1 : Int32) (c2 : Int32) (cs : Int32) (h0 : Heap) (n0 : Nat) (v : Option Value) (h : Heap) (L : List Loc) : Prop := ∃ (b : Addr), ∃ (k : ClassId), v = none ∧ Fr n0 L ∧ Keep h0 h [a] ∧ h0.size ≤ b ∧ (Exa Z h a "java/lang/String") ∧ (Fld Z h a "java/lang/String" "coder" "B" (.int (0 : Int32))) ∧ (Fld Z h a "java/lang/String" "value" "[B" (.ref b)) ∧ (Arv Z h b k .byte (3 : Int32) [(.int (c0.toInt8.toInt32)), (.int (c1.toInt8.toInt32)), (.int (c2.toInt8.toInt32))] (.int (0 : Int32)))
set_option maxRecDepth 65536 in
set_option maxHeartbeats 40000000 in
theorem rm_sci3 (l : Launch) (Z : State) (a0 : Array Value) (hw : ∀ d ∈ tables_1, d.before a0 Z = true) (ws : List Jvm.Cond) (a : Addr) (d : Addr) (kd : ClassId) (c0 : Int32) (c1 : Int32) (c2 : Int32) (cs : Int32) (h0 : Heap) (n0 : Nat) (O0 : Old Z n0 h0) (u0 : Sta Z Z.heap "java/lang/String" "COMPACT_STRINGS" "Z" (.int cs)) (u1 : ¬ (cs = (0 : Int32))) (u2 : ¬ ((255 : Int32) < c0)) (u3 : ¬ ((255 : Int32) < c1)) (u4 : ¬ ((255 : Int32) < c2)) (u5 : Exa Z h0 a "java/lang/String") (u6 : Fld Z h0 a "java/lang/String" "value" "[B" .null) (u7 : Fld Z h0 a "java/lang/String" "coder" "B" (.int (0 : Int32))) (u8 : n0 ≤ a) (u9 : Arv Z h0 d kd .char (3 : Int32) [(.int c0), (.int c1), (.int c2)] (.int (0 : Int32))) (u10 : a ≠ d) :
    MetFree l (⟨"java/lang/String", "<init>", "([CIILjava/lang/Void;)V"⟩ : MethodName) (head1 (Jvm.Cond.code (⟨"java/lang/String", "<init>", "([CIILjava/lang/Void;)V"⟩ : MethodName) jdk_42_method_149_code 6 none :: ws) ({ frames := 2, cells := 1, slots := 3, locals := 35 } : Room)) (fun aV U => aV = #[(.ref a), (.ref d), (.int (0 : Int32)), (.int (3 : Int32)), .null] ∧ Z.Warmed39 U.vm ∧ U.heap = h0) (fun _ _ _ _ _ => True) (fun _ U o U' => ∃ v L, o = .returned v ∧ Q_sci3 Z a d kd c0 c1 c2 cs h0 n0 v U'.heap L ∧ FrameEnd U o U' L ({ frames := 2, cells := 1, slots := 3, locals := 35 } : Room).cells ({ frames := 2, cells := 1, slots := 3, locals := 35 } : Room).slots) := by
  refine MetFree.of_bodySF (plainFor_of_name pn_1) hisR ?_
  intro pr_ en_ st_ me_ args below meth_ co_ s₁ Bd hml0 hP hK
  obtain ⟨rfl, hZ, hh⟩ := hP
  have hx := Bd.exec
  have hby := Bd.bytes
  have hml : co_.maxLocals = 6 := hml0
  have hown : st_.vm.findClass "java/lang/String" = some me_.cls := findClass_of_methodNamed Bd.named
  have hnm := (name_of_methodNamed Bd.named Bd.method).1
  have X0 : Stand pr_ l en_ ({ frames := 2, cells := 1, slots := 3, locals := 35 } : Room) st_ me_ #[(.ref a), (.ref d), (.int (0 : Int32)), (.int (3 : Int32)), .null] below meth_ co_ s₁ [] 0 0 := Stand.of_body Bd
  have e0 : s₁.heap = h0 := by rw [← hh, Bd.state]; rfl
  have N0 := Fr.nil n0
  have K0 := Keep.refl h0 [a]
  obtain ⟨G, gv, gf, gb⟩ := own_G pr_.tables en_ below st_ (Q_sci3 Z a d kd c0 c1 c2 cs h0 n0) ({ frames := 2, cells := 1, slots := 3, locals := 35 } : Room).cells ({ frames := 2, cells := 1, slots := 3, locals := 35 } : Room).slots
  show own_Fin pr_.tables en_ below st_ (Q_sci3 Z a d kd c0 c1 c2 cs h0 n0) ({ frames := 2, cells := 1, slots := 3, locals := 35 } : Room).cells ({ frames := 2, cells := 1, slots := 3, locals := 35 } : Room).slots (s₁.setTop (entryFrame me_ #[(.ref a), (.ref d), (.int (0 : Int32)), (.int (3 : Int32)), .null] 6))
  refine gb _ (gv (fun tQ kQ => castTop (ef_5 me_ a d (0 : Int32) (3 : Int32)) kQ) ?_)
  show G (s₁.setTop (mkF me_ 0 #[.val (.ref a), .val (.ref d), .val (.int (0 : Int32)), .val (.int (3 : Int32)), .val .null, .unset] []))
  refine gv (fun tQ kQ => XS.aloadN X0.here hx rfl (hb hby d3_0) rfl rfl kQ) ?_
  show G (s₁.setTop (mkF me_ 1 #[.val (.ref a), .val (.ref d), .val (.int (0 : Int32)), .val (.int (3 : Int32)), .val .null, .unset] [(.ref a)]))
  obtain ⟨T159, X159, e159, st159⟩ := initO X0 hx hZ hown (hw _ (List.mem_of_getElem? (i := 15) rfl)) (hw _ (List.mem_of_getElem? (i := 16) rfl)) (hw _ (List.mem_of_getElem? (i := 17) rfl)) e0 (g := (mkF me_ 1 #[.val (.ref a), .val (.ref d), .val (.int (0 : Int32)), .val (.int (3 : Int32)), .val .null, .unset] [(.ref a)])) rfl (by rw [hml]; rfl) rfl (hb hby d3_1) (by decide) (W := 0) (by show 2 * 0 + _ ≤ _; exact Nat.le_of_eq rfl) (by decide)
  refine gv st159 ?_
  show G (T159.setTop (mkF me_ 4 #[.val (.ref a), .val (.ref d), .val (.int (0 : Int32)), .val (.int (3 : Int32)), .val .null, .unset] []))
  refine gv (fun tQ kQ => XS.iloadN X159.here hx rfl (hb hby d3_4) rfl kQ) ?_
  show G (T159.setTop (mkF me_ 5 #[.val (.ref a), .val (.ref d), .val (.int (0 : Int32)), .val (.int (3 : Int32)), .val .null, .unset] [(.int (3 : Int32))]))
  refine gv (fun tQ kQ => XS.ifYes X159.here hx rfl (pc0 := 5) (pc' := 27) rfl (hb hby d3_5) rfl ((if0 _ _).trans (feq (by decide : ¬ ((3 : Int32) = (0 : Int32)))).2) (by decide) (by decide) kQ) ?_
  show G (T159.setTop (mkF me_ 27 #[.val (.ref a), .val (.ref d), .val (.int (0 : Int32)), .val (.int (3 : Int32)), .val .null, .unset] []))
  obtain ⟨T160, X160, e160, st160⟩ := getS2 X159 hx hZ hown (host := "") (Or.inl (hw _ (List.mem_of_getElem? (i := 34) rfl))) Via.refl e159 (u0.ext O0.2) (g := (mkF me_ 27 #[.val (.ref a), .val (.ref d), .val (.int (0 : Int32)), .val (.int (3 : Int32)), .val .null, .unset] [])) rfl (hb hby d3_27)
  refine gv st160 ?_
  show G (T160.setTop (mkF me_ 30 #[.val (.ref a), .val (.ref d), .val (.int (0 : Int32)), .val (.int (3 : Int32)), .val .null, .unset] [(.int cs)]))
  refine gv (fun tQ kQ => XS.ifNo X160.here hx rfl (hb hby d3_30) rfl ((if0 _ _).trans (feq u1).1) kQ) ?_
  show G (T160.setTop (mkF me_ 33 #[.val (.ref a), .val (.ref d), .val (.int (0 : Int32)), .val (.int (3 : Int32)), .val .null, .unset] []))
  refine gv (fun tQ kQ => XS.aloadN X160.here hx rfl (hb hby d3_33) rfl rfl kQ) ?_
  show G (T160.setTop (mkF me_ 34 #[.val (.ref a), .val (.ref d), .val (.int (0 : Int32)), .val (.int (3 : Int32)), .val .null, .unset] [(.ref d)]))
  refine gv (fun tQ kQ => XS.iloadN X160.here hx rfl (hb hby d3_34) rfl kQ) ?_
  show G (T160.setTop (mkF me_ 35 #[.val (.ref a), .val (.ref d), .val (.int (0 : Int32)), .val (.int (3 : Int32)), .val .null, .unset] [(.int (0 : Int32)), (.ref d)]))
  refine gv (fun tQ kQ => XS.iloadN X160.here hx rfl (hb hby d3_35) rfl kQ) ?_
  show G (T160.setTop (mkF me_ 36 #[.val (.ref a), .val (.ref d), .val (.int (0 : Int32)), .val (.int (3 : Int32)), .val .null, .unset] [(.int (3 : Int32)), (.int (0 : Int32)), (.ref d)]))
  obtain ⟨_, _, ⟨T161, L161, k161, n161⟩, -, X161, ⟨Lc161, hQ161, l161, y161, z161⟩, st161⟩ := Jvm.LawKit.callS X160 hx (y := (⟨"java/lang/StringUTF16", "compress", "([CII)[B"⟩ : MethodName)) hown (mvT hZ (hw _ (List.mem_of_getElem? (i := 46) rfl))) (mvT hZ (hw _ (List.mem_of_getElem? (i := 47) rfl))) (mvT hZ (hw _ (List.mem_of_getElem? (i := 48) rfl))) (mvT hZ (hw _ (List.mem_of_getElem? (i := 49) rfl))) (by decide) (backOf (W := 0) (rm_cmpr3 l Z a0 hw [] d kd c0 c1 c2 h0 n0 O0 u2 u3 u4 u9) hZ (hw _ (List.mem_of_getElem? (i := 49) rfl)) (hw _ (List.mem_of_getElem? (i := 48) rfl)) (by decide) (by decide)) (g := (mkF me_ 36 #[.val (.ref a), .val (.ref d), .val (.int (0 : Int32)), .val (.int (3 : Int32)), .val .null, .unset] [(.int (3 : Int32)), (.int (0 : Int32)), (.ref d)])) rfl (by rw [hml]; rfl) (argsL := [(.ref d), (.int (0 : Int32)), (.int (3 : Int32))]) (rest := []) (lenOf pd_4 rfl) rfl (by show 2 * 0 + _ ≤ _; exact Nat.le_of_eq rfl) (hb hby d3_36) (fun _ _ => ⟨rfl, e160, (by decide : 0 + 1 ≤ _), (by decide : 0 + 3 ≤ _)⟩)
  dsimp only [Pt.U, Pt.locs, Pt.cells, Pt.slots] at X161 l161 y161 z161 st161 hQ161
  subst l161 y161 z161
  obtain ⟨b_161, k_161, rfl, Nq161, Kq161, w161_0, w161_1⟩ := hQ161
  have N162 := Fr.app N0 Nq161
  obtain ⟨h161, e161⟩ : ∃ z, T161.heap = z := ⟨_, rfl⟩
  rw [e161] at Kq161 w161_1
  have ne163 : a ≠ b_161 := Nat.ne_of_lt (Nat.lt_of_lt_of_le u5.lt w161_0)
  have ne164 : d ≠ b_161 := Nat.ne_of_lt (Nat.lt_of_lt_of_le u9.lt w161_0)
  have g165 : n0 ≤ b_161 := Nat.le_trans (own_old O0) w161_0
  have z166 : h0.size ≤ b_161 := Nat.le_trans K0.1 w161_0
  have f167 : Exa Z h161 a "java/lang/String" := u5.keep Kq161
  have f168 : Fld Z h161 a "java/lang/String" "value" "[B" .null := u6.keep Kq161 nin0
  have f169 : Fld Z h161 a "java/lang/String" "coder" "B" (.int (0 : Int32)) := u7.keep Kq161 nin0
  have f170 : Arv Z h161 d kd .char (3 : Int32) [(.int c0), (.int c1), (.int c2)] (.int (0 : Int32)) := u9.keep Kq161 nin0
  have O171 := O0.keep Kq161 all0
  have K172 := K0.trans Kq161 all0
  refine gv st161 ?_
  show G (T161.setTop (mkF me_ 39 #[.val (.ref a), .val (.ref d), .val (.int (0 : Int32)), .val (.int (3 : Int32)), .val .null, .unset] [(.ref b_161)]))
  refine gv (fun tQ kQ => XS.astore X161.here hx rfl (hb hby d3_39) rfl rfl (l' := #[.val (.ref a), .val (.ref d), .val (.int (0 : Int32)), .val (.int (3 : Int32)), .val .null, .val (.ref b_161)]) rfl kQ) ?_
  show G (T161.setTop (mkF me_ 41 #[.val (.ref a), .val (.ref d), .val (.int (0 : Int32)), .val (.int (3 : Int32)), .val .null, .val (.ref b_161)] []))
  refine gv (fun tQ kQ => XS.aloadN X161.here hx rfl (hb hby d3_41) rfl rfl kQ) ?_
  show G (T161.setTop (mkF me_ 42 #[.val (.ref a), .val (.ref d), .val (.int (0 : Int32)), .val (.int (3 : Int32)), .val .null, .val (.ref b_161)] [(.ref a)]))
  refine gv (fun tQ kQ => XS.aload X161.here hx rfl (hb hby d3_42) rfl rfl kQ) ?_
  show G (T161.setTop (mkF me_ 44 #[.val (.ref a), .val (.ref d), .val (.int (0 : Int32)), .val (.int (3 : Int32)), .val .null, .val (.ref b_161)] [(.ref b_161), (.ref a)]))
  refine gv (fun tQ kQ => XS.iloadN X161.here hx rfl (hb hby d3_44) rfl kQ) ?_
  show G (T161.setTop (mkF me_ 45 #[.val (.ref a), .val (.ref d), .val (.int (0 : Int32)), .val (.int (3 : Int32)), .val .null, .val (.ref b_161)] [(.int (3 : Int32)), (.ref b_161), (.ref a)]))
  obtain ⟨_, _, ⟨T173, L173, k173, n173⟩, -, X173, ⟨Lc173, hQ173, l173, y173, z173⟩, st173⟩ := Jvm.LawKit.callS X161 hx (y := (⟨"java/lang/StringUTF16", "coderFromArrayLen", "([BI)B"⟩ : MethodName)) hown (mvT hZ (hw _ (List.mem_of_getElem? (i := 53) rfl))) (mvT hZ (hw _ (List.mem_of_getElem? (i := 54) rfl))) (mvT hZ (hw _ (List.mem_of_getElem? (i := 48) rfl))) (mvT hZ (hw _ (List.mem_of_getElem? (i := 55) rfl))) (by decide) (backOf (W := 1) (rm_cfal3 l Z a0 hw [] b_161 k_161 (c0.toInt8.toInt32) (c1.toInt8.toInt32) (c2.toInt8.toInt32) h161 n0 O171 w161_1) hZ (hw _ (List.mem_of_getElem? (i := 55) rfl)) (hw _ (List.mem_of_getElem? (i := 48) rfl)) (by decide) (by decide)) (g := (mkF me_ 45 #[.val (.ref a), .val (.ref d), .val (.int (0 : Int32)), .val (.int (3 : Int32)), .val .null, .val (.ref b_161)] [(.int (3 : Int32)), (.ref b_161), (.ref a)])) rfl (by rw [hml]; rfl) (argsL := [(.ref b_161), (.int (3 : Int32))]) (rest := [(.ref a)]) (lenOf pd_5 rfl) rfl (by show 2 * 0 + _ ≤ _; exact Nat.le_of_eq rfl) (hb hby d3_45) (fun _ _ => ⟨rfl, e161, (by decide : 1 + 0 ≤ _), (by decide : 3 + 0 ≤ _)⟩)
  dsimp only [Pt.U, Pt.locs, Pt.cells, Pt.slots] at X173 l173 y173 z173 st173 hQ173
  subst l173 y173 z173
  obtain ⟨rfl, Nq173, eq173⟩ := hQ173
  have N174 := Fr.app N162 Nq173
  refine gv st173 ?_
  show G (T173.setTop (mkF me_ 48 #[.val (.ref a), .val (.ref d), .val (.int (0 : Int32)), .val (.int (3 : Int32)), .val .null, .val (.ref b_161)] [(.int (0 : Int32)), (.ref a)]))
  obtain ⟨T175, h175, X175, e175, W175, st175⟩ := putFN X173 hx hZ hown (hw _ (List.mem_of_getElem? (i := 25) rfl)) Via.refl eq173 f169 f167 (Or.inr ⟨(hw _ (List.mem_of_getElem? (i := 21) rfl)), rfl, hnm⟩) (hw _ (List.mem_of_getElem? (i := 5) rfl)) (ty := .byte) (v' := (.int (0 : Int32))) (by decide) rfl rfl (g := (mkF me_ 48 #[.val (.ref a), .val (.ref d), .val (.int (0 : Int32)), .val (.int (3 : Int32)), .val .null, .val (.ref b_161)] [(.int (0 : Int32)), (.ref a)])) rfl rfl (hb hby d3_48)
  refine gv st175 ?_
  have f177 : Exa Z h175 a "java/lang/String" := f167.wr W175
  have f178 : Fld Z h175 a "java/lang/String" "value" "[B" .null := f168.other W175 (Or.inr (slot_ne (Or.inr (hw _ (List.mem_of_getElem? (i := 20) rfl))) (Or.inr (hw _ (List.mem_of_getElem? (i := 21) rfl))) (by decide) (t := (.array .byte)) (t' := .byte) (by decide) (by decide)))
  have f179 : Arv Z h175 d kd .char (3 : Int32) [(.int c0), (.int c1), (.int c2)] (.int (0 : Int32)) := f170.other W175 (Ne.symm u10)
  have f180 : Arv Z h175 b_161 k_161 .byte (3 : Int32) [(.int (c0.toInt8.toInt32)), (.int (c1.toInt8.toInt32)), (.int (c2.toInt8.toInt32))] (.int (0 : Int32)) := w161_1.other W175 (Ne.symm ne163)
  have O181 := O171.wr W175 u8
  have K182 := K172.wr W175 (Or.inl (List.mem_of_getElem? (i := 0) rfl))
  have N183 := Fr.snoc X175 N174 u8
  have f176 : Fld Z h175 a "java/lang/String" "coder" "B" (.int (0 : Int32)) := f169.same W175
  show G (T175.setTop (mkF me_ 51 #[.val (.ref a), .val (.ref d), .val (.int (0 : Int32)), .val (.int (3 : Int32)), .val .null, .val (.ref b_161)] []))
  refine gv (fun tQ kQ => XS.aloadN X175.here hx rfl (hb hby d3_51) rfl rfl kQ) ?_
  show G (T175.setTop (mkF me_ 52 #[.val (.ref a), .val (.ref d), .val (.int (0 : Int32)), .val (.int (3 : Int32)), .val .null, .val (.ref b_161)] [(.ref a)]))
  refine gv (fun tQ kQ => XS.aload X175.here hx rfl (hb hby d3_52) rfl rfl kQ) ?_
  show G (T175.setTop (mkF me_ 54 #[.val (.ref a), .val (.ref d), .val (.int (0 : Int32)), .val (.int (3 : Int32)), .val .null, .val (.ref b_161)] [(.ref b_161), (.ref a)]))
  obtain ⟨T184, h184, X184, e184, W184, st184⟩ := putF X175 hx hZ hown (host := "") (Or.inl (hw _ (List.mem_of_getElem? (i := 24) rfl))) Via.refl e175 f178 f177 (Or.inr ⟨(hw _ (List.mem_of_getElem? (i := 20) rfl)), rfl, hnm⟩) (hw _ (List.mem_of_getElem? (i := 5) rfl)) (ty := (.array .byte)) (by decide) rfl rfl (g := (mkF me_ 54 #[.val (.ref a), .val (.ref d), .val (.int (0 : Int32)), .val (.int (3 : Int32)), .val .null, .val (.ref b_161)] [(.ref b_161), (.ref a)])) rfl rfl (hb hby d3_54)
  refine gv st184 ?_
  have f186 : Exa Z h184 a "java/lang/String" := f177.wr W184
  have f187 : Fld Z h184 a "java/lang/String" "coder" "B" (.int (0 : Int32)) := f176.other W184 (Or.inr (slot_ne (Or.inr (hw _ (List.mem_of_getElem? (i := 21) rfl))) (Or.inr (hw _ (List.mem_of_getElem? (i := 20) rfl))) (by decide) (t := .byte) (t' := (.array .byte)) (by decide) (by decide)))
  have f188 : Arv Z h184 d kd .char (3 : Int32) [(.int c0), (.int c1), (.int c2)] (.int (0 : Int32)) := f179.other W184 (Ne.symm u10)
  have f189 : Arv Z h184 b_161 k_161 .byte (3 : Int32) [(.int (c0.toInt8.toInt32)), (.int (c1.toInt8.toInt32)), (.int (c2.toInt8.toInt32))] (.int (0 : Int32)) := f180.other W184 (Ne.symm ne163)
  have O190 := O181.wr W184 u8
  have K191 := K182.wr W184 (Or.inl (List.mem_of_getElem? (i := 0) rfl))
  have N192 := Fr.snoc X184 N183 u8
  have f185 : Fld Z h184 a "java/lang/String" "value" "[B" (.ref b_161) := f178.same W184
  show G (T184.setTop (mkF me_ 57 #[.val (.ref a), .val (.ref d), .val (.int (0 : Int32)), .val (.int (3 : Int32)), .val .null, .val (.ref b_161)] []))
  refine gf _ (own_ret X184 Bd.notSynchronized (v := none) (fun _ => rfl) ?_ (by decide) (by decide) (fun fs hr => X184.returnOut hx Bd.returns (hb hby d3_57) hr))
  show Q_sci3 Z a d kd c0 c1 c2 cs h0 n0 _ T184.heap _
  rw [e184]
  exact ⟨b_161, k_161, rfl, N192, K191, z166, f186, f187, f185, f189⟩
def Q_sc3 (Z : State) (a : Addr) (d : Addr) (kd : ClassId) (c0 : Int32) (c1 : Int32) (c2 : Int32) (cs : Int32) (h0 : Heap) (n0 : Nat) (v : Option Value) (h : Heap) (L : List Loc) : Prop := ∃ (b : Addr), ∃ (k : ClassId), v = none ∧ Fr n0 L ∧ Keep h0 h [a] ∧ h0.size ≤ b ∧ (Exa Z h a "java/lang/String") ∧ (Fld Z h a "java/lang/String" "coder" "B" (.int (0 : Int32))) ∧ (Fld Z h a "java/lang/String" "value" "[B" (.ref b)) ∧ (Arv Z h b k .byte (3 : Int32) [(.int (c0.toInt8.toInt32)), (.int (c1.toInt8.toInt32)), (.int (c2.toInt8.toInt32))] (.int (0 : Int32)))
set_option maxRecDepth 65536 in
set_option maxHeartbeats 40000000 in
theorem rm_sc3 (l : Launch) (Z : State) (a0 : Array Value) (hw : ∀ d ∈ tables_1, d.before a0 Z = true) (ws : List Jvm.Cond) (a : Addr) (d : Addr) (kd : ClassId) (c0 : Int32) (c1 : Int32) (c2 : Int32) (cs : Int32) (h0 : Heap) (n0 : Nat) (O0 : Old Z n0 h0) (u0 : Sta Z Z.heap "java/lang/String" "COMPACT_STRINGS" "Z" (.int cs)) (u1 : ¬ (cs = (0 : Int32))) (u2 : ¬ ((255 : Int32) < c0)) (u3 : ¬ ((255 : Int32) < c1)) (u4 : ¬ ((255 : Int32) < c2)) (u5 : Exa Z h0 a "java/lang/String") (u6 : Fld Z h0 a "java/lang/String" "value" "[B" .null) (u7 : Fld Z h0 a "java/lang/String" "coder" "B" (.int (0 : Int32))) (u8 : n0 ≤ a) (u9 : Arv Z h0 d kd .char (3 : Int32) [(.int c0), (.int c1), (.int c2)] (.int (0 : Int32))) (u10 : a ≠ d) :
    MetFree l (⟨"java/lang/String", "<init>", "([C)V"⟩ : MethodName) (head1 (Jvm.Cond.code (⟨"java/lang/String", "<init>", "([C)V"⟩ : MethodName) jdk_42_method_3_code 2 none :: ws) ({ frames := 3, cells := 1, slots := 3, locals := 52 } : Room)) (fun aV U => aV = #[(.ref a), (.ref d)] ∧ Z.Warmed39 U.vm ∧ U.heap = h0) (fun _ _ _ _ _ => True) (fun _ U o U' => ∃ v L, o = .returned v ∧ Q_sc3 Z a d kd c0 c1 c2 cs h0 n0 v U'.heap L ∧ FrameEnd U o U' L ({ frames := 3, cells := 1, slots := 3, locals := 52 } : Room).cells ({ frames := 3, cells := 1, slots := 3, locals := 52 } : Room).slots) := by
  refine MetFree.of_bodySF (plainFor_of_name pn_1) hisR ?_
  intro pr_ en_ st_ me_ args below meth_ co_ s₁ Bd hml0 hP hK
  obtain ⟨rfl, hZ, hh⟩ := hP
  have hx := Bd.exec
  have hby := Bd.bytes
  have hml : co_.maxLocals = 2 := hml0
  have hown : st_.vm.findClass "java/lang/String" = some me_.cls := findClass_of_methodNamed Bd.named
  have hnm := (name_of_methodNamed Bd.named Bd.method).1
  have X0 : Stand pr_ l en_ ({ frames := 3, cells := 1, slots := 3, locals := 52 } : Room) st_ me_ #[(.ref a), (.ref d)] below meth_ co_ s₁ [] 0 0 := Stand.of_body Bd
  have e0 : s₁.heap = h0 := by rw [← hh, Bd.state]; rfl
  have N0 := Fr.nil n0
  have K0 := Keep.refl h0 [a]
  obtain ⟨G, gv, gf, gb⟩ := own_G pr_.tables en_ below st_ (Q_sc3 Z a d kd c0 c1 c2 cs h0 n0) ({ frames := 3, cells := 1, slots := 3, locals := 52 } : Room).cells ({ frames := 3, cells := 1, slots := 3, locals := 52 } : Room).slots
  show own_Fin pr_.tables en_ below st_ (Q_sc3 Z a d kd c0 c1 c2 cs h0 n0) ({ frames := 3, cells := 1, slots := 3, locals := 52 } : Room).cells ({ frames := 3, cells := 1, slots := 3, locals := 52 } : Room).slots (s₁.setTop (entryFrame me_ #[(.ref a), (.ref d)] 2))
  refine gb _ (gv (fun tQ kQ => castTop (ef_6 me_ a d) kQ) ?_)
  show G (s₁.setTop (mkF me_ 0 #[.val (.ref a), .val (.ref d)] []))
  refine gv (fun tQ kQ => XS.aloadN X0.here hx rfl (hb hby d2_0) rfl rfl kQ) ?_
  show G (s₁.setTop (mkF me_ 1 #[.val (.ref a), .val (.ref d)] [(.ref a)]))
  refine gv (fun tQ kQ => XS.aloadN X0.here hx rfl (hb hby d2_1) rfl rfl kQ) ?_
  show G (s₁.setTop (mkF me_ 2 #[.val (.ref a), .val (.ref d)] [(.ref d), (.ref a)]))
  refine gv (fun tQ kQ => XS.iconst X0.here hx rfl (hb hby d2_2) kQ) ?_
  show G (s₁.setTop (mkF me_ 3 #[.val (.ref a), .val (.ref d)] [(.int (0 : Int32)), (.ref d), (.ref a)]))
  refine gv (fun tQ kQ => XS.aloadN X0.here hx rfl (hb hby d2_3) rfl rfl kQ) ?_
  show G (s₁.setTop (mkF me_ 4 #[.val (.ref a), .val (.ref d)] [(.ref d), (.int (0 : Int32)), (.ref d), (.ref a)]))
  obtain ⟨cl193, Ar193, -, S193, n193, -, -⟩ := (id u9)
  refine gv (X0.arraylength hx (by rw [e0]; exact Ar193.1) (State.isArrayOf_alike hZ.alike Ar193.2.1) (g := (mkF me_ 4 #[.val (.ref a), .val (.ref d)] [(.ref d), (.int (0 : Int32)), (.ref d), (.ref a)])) rfl rfl (hb hby d2_4)) ?_
  rw [len_of S193 n193]
  show G (s₁.setTop (mkF me_ 5 #[.val (.ref a), .val (.ref d)] [(.int (3 : Int32)), (.int (0 : Int32)), (.ref d), (.ref a)]))
  refine gv (fun tQ kQ => XS.aconstNull X0.here hx rfl (hb hby d2_5) kQ) ?_
  show G (s₁.setTop (mkF me_ 6 #[.val (.ref a), .val (.ref d)] [.null, (.int (3 : Int32)), (.int (0 : Int32)), (.ref d), (.ref a)]))
  obtain ⟨_, _, ⟨T194, L194, k194, n194⟩, -, X194, ⟨Lc194, hQ194, l194, y194, z194⟩, st194⟩ := X0.specialBack hx (y := (⟨"java/lang/String", "<init>", "([CIILjava/lang/Void;)V"⟩ : MethodName)) rfl hown (mvT hZ (hw _ (List.mem_of_getElem? (i := 11) rfl))) (mvT hZ (hw _ (List.mem_of_getElem? (i := 12) rfl))) (mvT hZ (hw _ (List.mem_of_getElem? (i := 14) rfl))) (by decide) (backOf (W := 0) (rm_sci3 l Z a0 hw [] a d kd c0 c1 c2 cs h0 n0 O0 u0 u1 u2 u3 u4 u5 u6 u7 u8 u9 u10) hZ (hw _ (List.mem_of_getElem? (i := 14) rfl)) (hw _ (List.mem_of_getElem? (i := 6) rfl)) (by decide) (by decide)) (g := (mkF me_ 6 #[.val (.ref a), .val (.ref d)] [.null, (.int (3 : Int32)), (.int (0 : Int32)), (.ref d), (.ref a)])) rfl (by rw [hml]; rfl) (Steps.refl _) (a := a) (argsL := [(.ref d), (.int (0 : Int32)), (.int (3 : Int32)), .null]) (rest := []) (lenOf pd_6 rfl) rfl (by show 2 * 0 + _ ≤ _; exact Nat.le_of_eq rfl) (hb hby d2_6) (fun _ _ => ⟨rfl, e0, (by decide : 0 + 1 ≤ _), (by decide : 0 + 3 ≤ _)⟩)
  dsimp only [Pt.U, Pt.locs, Pt.cells, Pt.slots] at X194 l194 y194 z194 st194 hQ194
  subst l194 y194 z194
  obtain ⟨b_194, k_194, rfl, Nq194, Kq194, w194_0, w194_1, w194_2, w194_3, w194_4⟩ := hQ194
  have N195 := Fr.app N0 Nq194
  obtain ⟨h194, e194⟩ : ∃ z, T194.heap = z := ⟨_, rfl⟩
  rw [e194] at Kq194 w194_1 w194_2 w194_3 w194_4
  have ne196 : a ≠ b_194 := Nat.ne_of_lt (Nat.lt_of_lt_of_le u5.lt w194_0)
  have ne197 : d ≠ b_194 := Nat.ne_of_lt (Nat.lt_of_lt_of_le u9.lt w194_0)
  have g198 : n0 ≤ b_194 := Nat.le_trans (own_old O0) w194_0
  have z199 : h0.size ≤ b_194 := Nat.le_trans K0.1 w194_0
  have f200 : Exa Z h194 a "java/lang/String" := u5.keep Kq194
  have f201 : Arv Z h194 d kd .char (3 : Int32) [(.int c0), (.int c1), (.int c2)] (.int (0 : Int32)) := u9.keep Kq194 (ninS (Ne.symm u10) nin0)
  have O202 := O0.keep Kq194 (allS u8 all0)
  have K203 := K0.trans Kq194 (allS (Or.inl (List.mem_of_getElem? (i := 0) rfl)) all0)
  refine gv (fun tQ kQ => st194.trans kQ) ?_
  show G (T194.setTop (mkF me_ 9 #[.val (.ref a), .val (.ref d)] []))
  refine gf _ (own_ret X194 Bd.notSynchronized (v := none) (fun _ => rfl) ?_ (by decide) (by decide) (fun fs hr => X194.returnOut hx Bd.returns (hb hby d2_9) hr))
  show Q_sc3 Z a d kd c0 c1 c2 cs h0 n0 _ T194.heap _
  rw [e194]
  exact ⟨b_194, k_194, rfl, N195, K203, z199, w194_1, w194_2, w194_3, w194_4⟩
theorem d3_8 : decode jdk_42_method_149_code 8 = .ok (.aload_n 0, 1) := by decide +kernel
theorem d3_9 : decode jdk_42_method_149_code 9 = .ok (.ldc 7, 2) := by decide +kernel
theorem d3_11 : decode jdk_42_method_149_code 11 = .ok (.getfield 9, 3) := by decide +kernel
theorem d3_14 : decode jdk_42_method_149_code 14 = .ok (.putfield 9, 3) := by decide +kernel
theorem d3_17 : decode jdk_42_method_149_code 17 = .ok (.aload_n 0, 1) := by decide +kernel
theorem d3_18 : decode jdk_42_method_149_code 18 = .ok (.ldc 7, 2) := by decide +kernel
theorem d3_20 : decode jdk_42_method_149_code 20 = .ok (.getfield 15, 3) := by decide +kernel
theorem d3_23 : decode jdk_42_method_149_code 23 = .ok (.putfield 15, 3) := by decide +kernel
theorem d3_26 : decode jdk_42_method_149_code 26 = .ok (.return_, 1) := by decide +kernel
def Q_sci0 (Z : State) (a : Addr) (d : Addr) (kd : ClassId) (h0 : Heap) (n0 : Nat) (v : Option Value) (h : Heap) (L : List Loc) : Prop := ∃ (b : Addr), ∃ (k : ClassId), v = none ∧ Fr n0 L ∧ Keep h0 h [a] ∧ (Exa Z h a "java/lang/String") ∧ (Fld Z h a "java/lang/String" "coder" "B" (.int (0 : Int32))) ∧ (Fld Z h a "java/lang/String" "value" "[B" (.ref b)) ∧ (Arv Z h b k .byte (0 : Int32) [] (.int (0 : Int32)))
set_option maxRecDepth 65536 in
set_option maxHeartbeats 40000000 in
theorem rm_sci0 (l : Launch) (Z : State) (a0 : Array Value) (hw : ∀ d ∈ tables_1, d.before a0 Z = true) (ws : List Jvm.Cond) (a : Addr) (d : Addr) (kd : ClassId) (h0 : Heap) (n0 : Nat) (O0 : Old Z n0 h0) (u0 : Exa Z h0 a "java/lang/String") (u1 : Fld Z h0 a "java/lang/String" "value" "[B" .null) (u2 : Fld Z h0 a "java/lang/String" "coder" "B" (.int (0 : Int32))) (u3 : n0 ≤ a) (u4 : Arv Z h0 d kd .char (0 : Int32) [] (.int (0 : Int32))) :
    MetFree l (⟨"java/lang/String", "<init>", "([CIILjava/lang/Void;)V"⟩ : MethodName) (head1 (Jvm.Cond.code (⟨"java/lang/String", "<init>", "([CIILjava/lang/Void;)V"⟩ : MethodName) jdk_42_method_149_code 6 none :: ws) ({ frames := 1, cells := 4, slots := 8, locals := 12 } : Room)) (fun aV U => aV = #[(.ref a), (.ref d), (.int (0 : Int32)), (.int (0 : Int32)), .null] ∧ Z.Warmed39 U.vm ∧ U.heap = h0 ∧ CHv Z own_EL U.vm h0 ∧ ∀ x ∈ ([a] : List Addr), Safe Z own_EL U.vm h0 x) (fun _ _ _ _ _ => True) (fun _ U o U' => ∃ v L, o = .returned v ∧ Q_sci0 Z a d kd h0 n0 v U'.heap L ∧ CHr Z own_EL U.vm U.heap U'.vm U'.heap ∧ ReturnedEndW U o U' L ({ frames := 1, cells := 4, slots := 8, locals := 12 } : Room).cells ({ frames := 1, cells := 4, slots := 8, locals := 12 } : Room).slots) := by
  refine MetFree.of_bodySF (plainFor_of_name pn_1) hisR ?_
  intro pr_ en_ st_ me_ args below meth_ co_ s₁ Bd hml0 hP hK
  obtain ⟨rfl, hZ, hh, hCH, hSF⟩ := hP
  have hx := Bd.exec
  have hby := Bd.bytes
  have hEL := own_hEL hw
  have wS := own_wS hw
  have hml : co_.maxLocals = 6 := hml0
  have hown : st_.vm.findClass "java/lang/String" = some me_.cls := findClass_of_methodNamed Bd.named
  have hnm := (name_of_methodNamed Bd.named Bd.method).1
  have X0 : Stand pr_ l en_ ({ frames := 1, cells := 4, slots := 8, locals := 12 } : Room) (st_.setVm st_.vm) me_ #[(.ref a), (.ref d), (.int (0 : Int32)), (.int (0 : Int32)), .null] below meth_ co_ s₁ [] 0 0 := Stand.of_body Bd
  have e0 : s₁.heap = h0 := by rw [← hh, Bd.state]; rfl
  have N0 := Fr.nil n0
  have K0 := Keep.refl h0 [a]
  have hS : st_.Since st_.vm 0 := (State.WarmedH.refl st_).since 0
  have hk : 0 ≤ h0.size := Nat.zero_le _
  have CR : CHr Z own_EL st_.vm h0 st_.vm h0 := CHr.refl hCH
  have sf_a := hSF a (List.mem_of_getElem? (i := 0) rfl)
  obtain ⟨G, gv, gf, gb⟩ := own_GW Z own_EL pr_.tables en_ below st_ (Q_sci0 Z a d kd h0 n0) ({ frames := 1, cells := 4, slots := 8, locals := 12 } : Room).cells ({ frames := 1, cells := 4, slots := 8, locals := 12 } : Room).slots
  show own_FinW Z own_EL pr_.tables en_ below st_ (Q_sci0 Z a d kd h0 n0) ({ frames := 1, cells := 4, slots := 8, locals := 12 } : Room).cells ({ frames := 1, cells := 4, slots := 8, locals := 12 } : Room).slots (s₁.setTop (entryFrame me_ #[(.ref a), (.ref d), (.int (0 : Int32)), (.int (0 : Int32)), .null] 6))
  refine gb _ (gv (fun tQ kQ => castTop (ef_5 me_ a d (0 : Int32) (0 : Int32)) kQ) ?_)
  show G (s₁.setTop (mkF me_ 0 #[.val (.ref a), .val (.ref d), .val (.int (0 : Int32)), .val (.int (0 : Int32)), .val .null, .unset] []))
  refine gv (fun tQ kQ => XS.aloadN X0.here hx rfl (hb hby d3_0) rfl rfl kQ) ?_
  show G (s₁.setTop (mkF me_ 1 #[.val (.ref a), .val (.ref d), .val (.int (0 : Int32)), .val (.int (0 : Int32)), .val .null, .unset] [(.ref a)]))
  obtain ⟨T204, X204, e204, st204⟩ := initO X0 hx hZ hown (hw _ (List.mem_of_getElem? (i := 15) rfl)) (hw _ (List.mem_of_getElem? (i := 16) rfl)) (hw _ (List.mem_of_getElem? (i := 17) rfl)) e0 (g := (mkF me_ 1 #[.val (.ref a), .val (.ref d), .val (.int (0 : Int32)), .val (.int (0 : Int32)), .val .null, .unset] [(.ref a)])) rfl (by rw [hml]; rfl) rfl (hb hby d3_1) (by decide) (W := 0) (by show 2 * 0 + _ ≤ _; exact Nat.le_of_eq rfl) (by decide)
  refine gv st204 ?_
  show G (T204.setTop (mkF me_ 4 #[.val (.ref a), .val (.ref d), .val (.int (0 : Int32)), .val (.int (0 : Int32)), .val .null, .unset] []))
  refine gv (fun tQ kQ => XS.iloadN X204.here hx rfl (hb hby d3_4) rfl kQ) ?_
  show G (T204.setTop (mkF me_ 5 #[.val (.ref a), .val (.ref d), .val (.int (0 : Int32)), .val (.int (0 : Int32)), .val .null, .unset] [(.int (0 : Int32))]))
  refine gv (fun tQ kQ => XS.ifNo X204.here hx rfl (hb hby d3_5) rfl ((if0 _ _).trans (teq (by decide : (0 : Int32) = (0 : Int32))).2) kQ) ?_
  show G (T204.setTop (mkF me_ 8 #[.val (.ref a), .val (.ref d), .val (.int (0 : Int32)), .val (.int (0 : Int32)), .val .null, .unset] []))
  refine gv (fun tQ kQ => XS.aloadN X204.here hx rfl (hb hby d3_8) rfl rfl kQ) ?_
  show G (T204.setTop (mkF me_ 9 #[.val (.ref a), .val (.ref d), .val (.int (0 : Int32)), .val (.int (0 : Int32)), .val .null, .unset] [(.ref a)]))
  obtain ⟨a205, T205, h205, k205, b205, kc205, X205, e205, E205, hS, hk, hZ, hown, ES205, FC205, FV205, AV205, -, -, CRn205, L205, sn205, st205⟩ := ldcCH X204 hx hZ hown (hw _ (List.mem_of_getElem? (i := 18) rfl)) wS e204 hS hk hEL (List.mem_of_getElem? (i := 0) rfl) CR.1 (vs := []) (z := (0 : Int32)) ⟨by decide, by decide⟩ (by decide) (by decide) (g := (mkF me_ 9 #[.val (.ref a), .val (.ref d), .val (.int (0 : Int32)), .val (.int (0 : Int32)), .val .null, .unset] [(.ref a)])) rfl (hb hby d3_9) (n := 0) (by decide) (by decide) (by decide) (by decide)
  refine gv st205 ?_
  have sf206 := CRn205.safe u0.lt sf_a
  have f207 : Exa Z h205 a "java/lang/String" := u0.ext E205
  have f208 : Fld Z h205 a "java/lang/String" "value" "[B" .null := u1.ext E205
  have f209 : Fld Z h205 a "java/lang/String" "coder" "B" (.int (0 : Int32)) := u2.ext E205
  have f210 : Arv Z h205 d kd .char (0 : Int32) [] (.int (0 : Int32)) := u4.ext E205
  have O211 := O0.ext E205
  have K212 := K0.ext E205
  have CR := CR.trans CRn205
  have ne213 : a ≠ a205 := (sn205 a sf206).1
  have ne214 : a ≠ b205 := (sn205 a sf206).2
  show G (T205.setTop (mkF me_ 11 #[.val (.ref a), .val (.ref d), .val (.int (0 : Int32)), .val (.int (0 : Int32)), .val .null, .unset] [(.ref a205), (.ref a)]))
  obtain ⟨T215, X215, e215, st215⟩ := getF X205 hx hZ hown (host := "") (Or.inl (hw _ (List.mem_of_getElem? (i := 24) rfl))) Via.refl e205 FV205 (g := (mkF me_ 11 #[.val (.ref a), .val (.ref d), .val (.int (0 : Int32)), .val (.int (0 : Int32)), .val .null, .unset] [(.ref a205), (.ref a)])) rfl rfl (hb hby d3_11)
  refine gv st215 ?_
  show G (T215.setTop (mkF me_ 14 #[.val (.ref a), .val (.ref d), .val (.int (0 : Int32)), .val (.int (0 : Int32)), .val .null, .unset] [(.ref b205), (.ref a)]))
  obtain ⟨T216, h216, X216, e216, W216, st216⟩ := putF X215 hx hZ hown (host := "") (Or.inl (hw _ (List.mem_of_getElem? (i := 24) rfl))) Via.refl e215 f208 f207 (Or.inr ⟨(hw _ (List.mem_of_getElem? (i := 20) rfl)), rfl, hnm⟩) (hw _ (List.mem_of_getElem? (i := 5) rfl)) (ty := (.array .byte)) (by decide) rfl rfl (g := (mkF me_ 14 #[.val (.ref a), .val (.ref d), .val (.int (0 : Int32)), .val (.int (0 : Int32)), .val .null, .unset] [(.ref b205), (.ref a)])) rfl rfl (hb hby d3_14)
  refine gv st216 ?_
  have sf218 := Safe.wr W216 sf206 CR.1 sf206
  have CR := CR.trans (CHr.wr W216 sf206 CR.1)
  have hk := Nat.le_trans hk (Keep.of_wr W216).1
  have f219 : Exa Z h216 a "java/lang/String" := f207.wr W216
  have f220 : Fld Z h216 a "java/lang/String" "coder" "B" (.int (0 : Int32)) := f209.other W216 (Or.inr (slot_ne (Or.inr (hw _ (List.mem_of_getElem? (i := 21) rfl))) (Or.inr (hw _ (List.mem_of_getElem? (i := 20) rfl))) (by decide) (t := .byte) (t' := (.array .byte)) (by decide) (by decide)))
  have f221 : Arv Z h216 d kd .char (0 : Int32) [] (.int (0 : Int32)) := f210.other W216 (Ne.symm (own_ne_arv f207 (hw _ (List.mem_of_getElem? (i := 5) rfl)) f210))
  have f222 : Exa Z h216 a205 "java/lang/String" := ES205.wr W216
  have f223 : Fld Z h216 a205 "java/lang/String" "coder" "B" (.int (0 : Int32)) := FC205.other W216 (Or.inl (Ne.symm ne213))
  have f224 : Fld Z h216 a205 "java/lang/String" "value" "[B" (.ref b205) := FV205.other W216 (Or.inl (Ne.symm ne213))
  have f225 : Arv Z h216 b205 kc205 .byte (0 : Int32) [] (.int (0 : Int32)) := AV205.other W216 (Ne.symm ne214)
  have O226 := O211.wr W216 u3
  have K227 := K212.wr W216 (Or.inl (List.mem_of_getElem? (i := 0) rfl))
  have N228 := Fr.snoc X216 N0 u3
  have f217 : Fld Z h216 a "java/lang/String" "value" "[B" (.ref b205) := f208.same W216
  show G (T216.setTop (mkF me_ 17 #[.val (.ref a), .val (.ref d), .val (.int (0 : Int32)), .val (.int (0 : Int32)), .val .null, .unset] []))
  refine gv (fun tQ kQ => XS.aloadN X216.here hx rfl (hb hby d3_17) rfl rfl kQ) ?_
  show G (T216.setTop (mkF me_ 18 #[.val (.ref a), .val (.ref d), .val (.int (0 : Int32)), .val (.int (0 : Int32)), .val .null, .unset] [(.ref a)]))
  obtain ⟨a229, T229, h229, k229, b229, kc229, X229, e229, E229, hS, hk, hZ, hown, ES229, FC229, FV229, AV229, -, -, CRn229, L229, sn229, st229⟩ := ldcCH X216 hx hZ hown (hw _ (List.mem_of_getElem? (i := 18) rfl)) wS e216 hS hk hEL (List.mem_of_getElem? (i := 0) rfl) CR.1 (vs := []) (z := (0 : Int32)) ⟨by decide, by decide⟩ (by decide) (by decide) (g := (mkF me_ 18 #[.val (.ref a), .val (.ref d), .val (.int (0 : Int32)), .val (.int (0 : Int32)), .val .null, .unset] [(.ref a)])) rfl (hb hby d3_18) (n := 0) (by decide) (by decide) (by decide) (by decide)
  refine gv st229 ?_
  have sf230 := CRn229.safe f219.lt sf218
  have f231 : Exa Z h229 a "java/lang/String" := f219.ext E229
  have f232 : Fld Z h229 a "java/lang/String" "value" "[B" (.ref b205) := f217.ext E229
  have f233 : Fld Z h229 a "java/lang/String" "coder" "B" (.int (0 : Int32)) := f220.ext E229
  have f234 : Arv Z h229 d kd .char (0 : Int32) [] (.int (0 : Int32)) := f221.ext E229
  have f235 : Exa Z h229 a205 "java/lang/String" := f222.ext E229
  have f236 : Fld Z h229 a205 "java/lang/String" "coder" "B" (.int (0 : Int32)) := f223.ext E229
  have f237 : Fld Z h229 a205 "java/lang/String" "value" "[B" (.ref b205) := f224.ext E229
  have f238 : Arv Z h229 b205 kc205 .byte (0 : Int32) [] (.int (0 : Int32)) := f225.ext E229
  have O239 := O226.ext E229
  have K240 := K227.ext E229
  have CR := CR.trans CRn229
  have ne241 : a ≠ a229 := (sn229 a sf230).1
  have ne242 : a ≠ b229 := (sn229 a sf230).2
  show G (T229.setTop (mkF me_ 20 #[.val (.ref a), .val (.ref d), .val (.int (0 : Int32)), .val (.int (0 : Int32)), .val .null, .unset] [(.ref a229), (.ref a)]))
  obtain ⟨T243, X243, e243, st243⟩ := getF X229 hx hZ hown (host := "") (Or.inl (hw _ (List.mem_of_getElem? (i := 25) rfl))) Via.refl e229 FC229 (g := (mkF me_ 20 #[.val (.ref a), .val (.ref d), .val (.int (0 : Int32)), .val (.int (0 : Int32)), .val .null, .unset] [(.ref a229), (.ref a)])) rfl rfl (hb hby d3_20)
  refine gv st243 ?_
  show G (T243.setTop (mkF me_ 23 #[.val (.ref a), .val (.ref d), .val (.int (0 : Int32)), .val (.int (0 : Int32)), .val .null, .unset] [(.int (0 : Int32)), (.ref a)]))
  obtain ⟨T244, h244, X244, e244, W244, st244⟩ := putFN X243 hx hZ hown (hw _ (List.mem_of_getElem? (i := 25) rfl)) Via.refl e243 f233 f231 (Or.inr ⟨(hw _ (List.mem_of_getElem? (i := 21) rfl)), rfl, hnm⟩) (hw _ (List.mem_of_getElem? (i := 5) rfl)) (ty := .byte) (v' := (.int (0 : Int32))) (by decide) rfl rfl (g := (mkF me_ 23 #[.val (.ref a), .val (.ref d), .val (.int (0 : Int32)), .val (.int (0 : Int32)), .val .null, .unset] [(.int (0 : Int32)), (.ref a)])) rfl rfl (hb hby d3_23)
  refine gv st244 ?_
  have sf246 := Safe.wr W244 sf230 CR.1 sf230
  have CR := CR.trans (CHr.wr W244 sf230 CR.1)
  have hk := Nat.le_trans hk (Keep.of_wr W244).1
  have f247 : Exa Z h244 a "java/lang/String" := f231.wr W244
  have f248 : Fld Z h244 a "java/lang/String" "value" "[B" (.ref b205) := f232.other W244 (Or.inr (slot_ne (Or.inr (hw _ (List.mem_of_getElem? (i := 20) rfl))) (Or.inr (hw _ (List.mem_of_getElem? (i := 21) rfl))) (by decide) (t := (.array .byte)) (t' := .byte) (by decide) (by decide)))
  have f249 : Arv Z h244 d kd .char (0 : Int32) [] (.int (0 : Int32)) := f234.other W244 (Ne.symm (own_ne_arv f231 (hw _ (List.mem_of_getElem? (i := 5) rfl)) f234))
  have f250 : Exa Z h244 a205 "java/lang/String" := f235.wr W244
  have f251 : Fld Z h244 a205 "java/lang/String" "coder" "B" (.int (0 : Int32)) := f236.other W244 (Or.inl (Ne.symm ne213))
  have f252 : Fld Z h244 a205 "java/lang/String" "value" "[B" (.ref b205) := f237.other W244 (Or.inl (Ne.symm ne213))
  have f253 : Arv Z h244 b205 kc205 .byte (0 : Int32) [] (.int (0 : Int32)) := f238.other W244 (Ne.symm ne214)
  have f254 : Exa Z h244 a229 "java/lang/String" := ES229.wr W244
  have f255 : Fld Z h244 a229 "java/lang/String" "coder" "B" (.int (0 : Int32)) := FC229.other W244 (Or.inl (Ne.symm ne241))
  have f256 : Fld Z h244 a229 "java/lang/String" "value" "[B" (.ref b229) := FV229.other W244 (Or.inl (Ne.symm ne241))
  have f257 : Arv Z h244 b229 kc229 .byte (0 : Int32) [] (.int (0 : Int32)) := AV229.other W244 (Ne.symm ne242)
  have O258 := O239.wr W244 u3
  have K259 := K240.wr W244 (Or.inl (List.mem_of_getElem? (i := 0) rfl))
  have N260 := Fr.snoc X244 N228 u3
  have f245 : Fld Z h244 a "java/lang/String" "coder" "B" (.int (0 : Int32)) := f233.same W244
  show G (T244.setTop (mkF me_ 26 #[.val (.ref a), .val (.ref d), .val (.int (0 : Int32)), .val (.int (0 : Int32)), .val .null, .unset] []))
  refine gf _ (own_retW X244 Bd.notSynchronized hS (by rw [e244]; exact hk) (v := none) (fun _ => rfl) ?_ (by decide) (by decide) (by rw [hh, e244]; exact CR.trans (CHv.at X244 hZ hEL CR.1)) (fun fs hr => X244.returnOut hx Bd.returns (hb hby d3_26) hr))
  show Q_sci0 Z a d kd h0 n0 _ T244.heap _
  rw [e244]
  exact ⟨b205, kc205, rfl, N260, K259, f247, f245, f248, f253⟩
def Q_sc0 (Z : State) (a : Addr) (d : Addr) (kd : ClassId) (h0 : Heap) (n0 : Nat) (v : Option Value) (h : Heap) (L : List Loc) : Prop := ∃ (b : Addr), ∃ (k : ClassId), v = none ∧ Fr n0 L ∧ Keep h0 h [a] ∧ (Exa Z h a "java/lang/String") ∧ (Fld Z h a "java/lang/String" "coder" "B" (.int (0 : Int32))) ∧ (Fld Z h a "java/lang/String" "value" "[B" (.ref b)) ∧ (Arv Z h b k .byte (0 : Int32) [] (.int (0 : Int32)))
set_option maxRecDepth 65536 in
set_option maxHeartbeats 40000000 in
theorem rm_sc0 (l : Launch) (Z : State) (a0 : Array Value) (hw : ∀ d ∈ tables_1, d.before a0 Z = true) (ws : List Jvm.Cond) (a : Addr) (d : Addr) (kd : ClassId) (h0 : Heap) (n0 : Nat) (O0 : Old Z n0 h0) (u0 : Exa Z h0 a "java/lang/String") (u1 : Fld Z h0 a "java/lang/String" "value" "[B" .null) (u2 : Fld Z h0 a "java/lang/String" "coder" "B" (.int (0 : Int32))) (u3 : n0 ≤ a) (u4 : Arv Z h0 d kd .char (0 : Int32) [] (.int (0 : Int32))) :
    MetFree l (⟨"java/lang/String", "<init>", "([C)V"⟩ : MethodName) (head1 (Jvm.Cond.code (⟨"java/lang/String", "<init>", "([C)V"⟩ : MethodName) jdk_42_method_3_code 2 none :: ws) ({ frames := 2, cells := 4, slots := 8, locals := 29 } : Room)) (fun aV U => aV = #[(.ref a), (.ref d)] ∧ Z.Warmed39 U.vm ∧ U.heap = h0 ∧ CHv Z own_EL U.vm h0 ∧ ∀ x ∈ ([a] : List Addr), Safe Z own_EL U.vm h0 x) (fun _ _ _ _ _ => True) (fun _ U o U' => ∃ v L, o = .returned v ∧ Q_sc0 Z a d kd h0 n0 v U'.heap L ∧ CHr Z own_EL U.vm U.heap U'.vm U'.heap ∧ ReturnedEndW U o U' L ({ frames := 2, cells := 4, slots := 8, locals := 29 } : Room).cells ({ frames := 2, cells := 4, slots := 8, locals := 29 } : Room).slots) := by
  refine MetFree.of_bodySF (plainFor_of_name pn_1) hisR ?_
  intro pr_ en_ st_ me_ args below meth_ co_ s₁ Bd hml0 hP hK
  obtain ⟨rfl, hZ, hh, hCH, hSF⟩ := hP
  have hx := Bd.exec
  have hby := Bd.bytes
  have hEL := own_hEL hw
  have wS := own_wS hw
  have hml : co_.maxLocals = 2 := hml0
  have hown : st_.vm.findClass "java/lang/String" = some me_.cls := findClass_of_methodNamed Bd.named
  have hnm := (name_of_methodNamed Bd.named Bd.method).1
  have X0 : Stand pr_ l en_ ({ frames := 2, cells := 4, slots := 8, locals := 29 } : Room) (st_.setVm st_.vm) me_ #[(.ref a), (.ref d)] below meth_ co_ s₁ [] 0 0 := Stand.of_body Bd
  have e0 : s₁.heap = h0 := by rw [← hh, Bd.state]; rfl
  have N0 := Fr.nil n0
  have K0 := Keep.refl h0 [a]
  have hS : st_.Since st_.vm 0 := (State.WarmedH.refl st_).since 0
  have hk : 0 ≤ h0.size := Nat.zero_le _
  have CR : CHr Z own_EL st_.vm h0 st_.vm h0 := CHr.refl hCH
  have sf_a := hSF a (List.mem_of_getElem? (i := 0) rfl)
  obtain ⟨G, gv, gf, gb⟩ := own_GW Z own_EL pr_.tables en_ below st_ (Q_sc0 Z a d kd h0 n0) ({ frames := 2, cells := 4, slots := 8, locals := 29 } : Room).cells ({ frames := 2, cells := 4, slots := 8, locals := 29 } : Room).slots
  show own_FinW Z own_EL pr_.tables en_ below st_ (Q_sc0 Z a d kd h0 n0) ({ frames := 2, cells := 4, slots := 8, locals := 29 } : Room).cells ({ frames := 2, cells := 4, slots := 8, locals := 29 } : Room).slots (s₁.setTop (entryFrame me_ #[(.ref a), (.ref d)] 2))
  refine gb _ (gv (fun tQ kQ => castTop (ef_6 me_ a d) kQ) ?_)
  show G (s₁.setTop (mkF me_ 0 #[.val (.ref a), .val (.ref d)] []))
  refine gv (fun tQ kQ => XS.aloadN X0.here hx rfl (hb hby d2_0) rfl rfl kQ) ?_
  show G (s₁.setTop (mkF me_ 1 #[.val (.ref a), .val (.ref d)] [(.ref a)]))
  refine gv (fun tQ kQ => XS.aloadN X0.here hx rfl (hb hby d2_1) rfl rfl kQ) ?_
  show G (s₁.setTop (mkF me_ 2 #[.val (.ref a), .val (.ref d)] [(.ref d), (.ref a)]))
  refine gv (fun tQ kQ => XS.iconst X0.here hx rfl (hb hby d2_2) kQ) ?_
  show G (s₁.setTop (mkF me_ 3 #[.val (.ref a), .val (.ref d)] [(.int (0 : Int32)), (.ref d), (.ref a)]))
  refine gv (fun tQ kQ => XS.aloadN X0.here hx rfl (hb hby d2_3) rfl rfl kQ) ?_
  show G (s₁.setTop (mkF me_ 4 #[.val (.ref a), .val (.ref d)] [(.ref d), (.int (0 : Int32)), (.ref d), (.ref a)]))
  obtain ⟨cl261, Ar261, -, S261, n261, -, -⟩ := (id u4)
  refine gv (X0.arraylength hx (by rw [e0]; exact Ar261.1) (State.isArrayOf_alike hZ.alike Ar261.2.1) (g := (mkF me_ 4 #[.val (.ref a), .val (.ref d)] [(.ref d), (.int (0 : Int32)), (.ref d), (.ref a)])) rfl rfl (hb hby d2_4)) ?_
  rw [len_of S261 n261]
  show G (s₁.setTop (mkF me_ 5 #[.val (.ref a), .val (.ref d)] [(.int (0 : Int32)), (.int (0 : Int32)), (.ref d), (.ref a)]))
  refine gv (fun tQ kQ => XS.aconstNull X0.here hx rfl (hb hby d2_5) kQ) ?_
  show G (s₁.setTop (mkF me_ 6 #[.val (.ref a), .val (.ref d)] [.null, (.int (0 : Int32)), (.int (0 : Int32)), (.ref d), (.ref a)]))
  obtain ⟨_, _, ⟨T262, L262, k262, n262⟩, -, X262, hS262, hg262, ⟨Lc262, hQ262, l262, y262, z262, CRn262⟩, st262⟩ := X0.specialBackS hx (y := (⟨"java/lang/String", "<init>", "([CIILjava/lang/Void;)V"⟩ : MethodName)) rfl hown (mvT hZ (hw _ (List.mem_of_getElem? (i := 11) rfl))) (mvT hZ (hw _ (List.mem_of_getElem? (i := 12) rfl))) (mvT hZ (hw _ (List.mem_of_getElem? (i := 14) rfl))) (by decide) (own_backH (W := 0) (rm_sci0 l Z a0 hw [] a d kd h0 n0 O0 u0 u1 u2 u3 u4) hZ (hw _ (List.mem_of_getElem? (i := 14) rfl)) (hw _ (List.mem_of_getElem? (i := 6) rfl)) (by decide) (by decide) hEL CR.1 (own_sfS u0.lt sf_a own_sf0)) (g := (mkF me_ 6 #[.val (.ref a), .val (.ref d)] [.null, (.int (0 : Int32)), (.int (0 : Int32)), (.ref d), (.ref a)])) rfl (by rw [hml]; rfl) (Steps.refl _) (a := a) (argsL := [(.ref d), (.int (0 : Int32)), (.int (0 : Int32)), .null]) (rest := []) (lenOf pd_6 rfl) rfl (by show 2 * 0 + _ ≤ _; exact Nat.le_of_eq rfl) (hb hby d2_6) (fun _ _ => ⟨rfl, e0, (by decide : 0 + 4 ≤ _), (by decide : 0 + 8 ≤ _)⟩)
  dsimp only [Pt.U, Pt.locs, Pt.cells, Pt.slots] at X262 l262 y262 z262 st262 hQ262 hS262 hg262 CRn262
  subst l262 y262 z262
  have hS := foldS hS (by rw [e0]; exact hk) hS262 hg262
  have hZ : Z.Warmed39 T262.vm := State.Warmed39.trans (t := st_.setVm st_.vm) hZ hS262.1
  have hown : T262.vm.findClass "java/lang/String" = some me_.cls := by rw [hS262.1.alike.findClass]; exact hown
  have X262 : Stand pr_ l en_ _ (st_.setVm T262.vm) me_ _ below meth_ co_ T262 _ _ _ := X262
  obtain ⟨b_262, k_262, rfl, Nq262, Kq262, w262_0, w262_1, w262_2, w262_3⟩ := hQ262
  have N263 := Fr.app N0 Nq262
  obtain ⟨h262, e262⟩ : ∃ z, T262.heap = z := ⟨_, rfl⟩
  rw [e262] at Kq262 CRn262 w262_0 w262_1 w262_2 w262_3
  have sf264 := CRn262.safe u0.lt sf_a
  have CR := CR.trans CRn262
  obtain ⟨kk262, hkk262⟩ : ∃ z, z = T262.heap.size := ⟨_, rfl⟩
  rw [← hkk262] at hS
  have hk : kk262 ≤ h262.size := by rw [hkk262, e262]; exact Nat.le_refl _
  have f265 : Exa Z h262 a "java/lang/String" := u0.keep Kq262
  have f266 : Arv Z h262 d kd .char (0 : Int32) [] (.int (0 : Int32)) := u4.keep Kq262 (ninS (Ne.symm (own_ne_arv u0 (hw _ (List.mem_of_getElem? (i := 5) rfl)) u4)) nin0)
  have O267 := O0.keep Kq262 (allS u3 all0)
  have K268 := K0.trans Kq262 (allS (Or.inl (List.mem_of_getElem? (i := 0) rfl)) all0)
  refine gv (fun tQ kQ => st262.trans kQ) ?_
  show G (T262.setTop (mkF me_ 9 #[.val (.ref a), .val (.ref d)] []))
  refine gf _ (own_retW X262 Bd.notSynchronized hS (by rw [e262]; exact hk) (v := none) (fun _ => rfl) ?_ (by decide) (by decide) (by rw [hh, e262]; exact CR.trans (CHv.at X262 hZ hEL CR.1)) (fun fs hr => X262.returnOut hx Bd.returns (hb hby d2_9) hr))
  show Q_sc0 Z a d kd h0 n0 _ T262.heap _
  rw [e262]
  exact ⟨b_262, k_262, rfl, N263, K268, w262_0, w262_1, w262_2, w262_3⟩
theorem ef_7 (m : MethodId) (x0 : Int32) (x1 : Int32)  : entryFrame m #[(.int x0), (.int x1)] 5 = mkF m 0 #[.val (.int x0), .val (.int x1), .unset, .unset, .unset] [] := by first | (simp [entryFrame, mkF, argsToLocals, Value.category]; done) | rfl
theorem pn_3 : plainName "com/example/slot1/slot1/balance/OptionsStringPinLaw" = true := by first | (simp [plainName, overriddenIn]; done) | decide +kernel
theorem d1_0 : decode method_2_code 0 = .ok (.iload_n 1, 1) := by decide +kernel
theorem d1_1 : decode method_2_code 1 = .ok (.sipush 255, 3) := by decide +kernel
theorem d1_4 : decode method_2_code 4 = .ok (.iand, 1) := by decide +kernel
theorem d1_5 : decode method_2_code 5 = .ok (.i2c, 1) := by decide +kernel
theorem d1_6 : decode method_2_code 6 = .ok (.istore_n 2, 1) := by decide +kernel
theorem d1_7 : decode method_2_code 7 = .ok (.iload_n 1, 1) := by decide +kernel
theorem d1_8 : decode method_2_code 8 = .ok (.bipush 8, 2) := by decide +kernel
theorem d1_10 : decode method_2_code 10 = .ok (.iushr, 1) := by decide +kernel
theorem d1_11 : decode method_2_code 11 = .ok (.sipush 255, 3) := by decide +kernel
theorem d1_14 : decode method_2_code 14 = .ok (.iand, 1) := by decide +kernel
theorem d1_15 : decode method_2_code 15 = .ok (.i2c, 1) := by decide +kernel
theorem d1_16 : decode method_2_code 16 = .ok (.istore_n 3, 1) := by decide +kernel
theorem d1_17 : decode method_2_code 17 = .ok (.iload_n 1, 1) := by decide +kernel
theorem d1_18 : decode method_2_code 18 = .ok (.bipush 16, 2) := by decide +kernel
theorem d1_20 : decode method_2_code 20 = .ok (.iushr, 1) := by decide +kernel
theorem d1_21 : decode method_2_code 21 = .ok (.sipush 255, 3) := by decide +kernel
theorem d1_24 : decode method_2_code 24 = .ok (.iand, 1) := by decide +kernel
theorem d1_25 : decode method_2_code 25 = .ok (.i2c, 1) := by decide +kernel
theorem d1_26 : decode method_2_code 26 = .ok (.istore 4, 2) := by decide +kernel
theorem d1_28 : decode method_2_code 28 = .ok (.iload_n 0, 1) := by decide +kernel
theorem d1_29 : decode method_2_code 29 = .ok (.ifCond .ne 14, 3) := by decide +kernel
theorem d1_32 : decode method_2_code 32 = .ok (.new 7, 3) := by decide +kernel
theorem d1_35 : decode method_2_code 35 = .ok (.dup, 1) := by decide +kernel
theorem d1_36 : decode method_2_code 36 = .ok (.iconst 0, 1) := by decide +kernel
theorem d1_37 : decode method_2_code 37 = .ok (.newarray .char, 2) := by decide +kernel
theorem d1_39 : decode method_2_code 39 = .ok (.invokespecial 9, 3) := by decide +kernel
theorem pd_7 : parseMethodDescriptor "([C)V" = some ⟨[(.array .char)], none⟩ := by decide +kernel
theorem d1_42 : decode method_2_code 42 = .ok (.areturn, 1) := by decide +kernel
def Q_mk0 (Z : State) (q : Int32) (cs : Int32) (h0 : Heap) (n0 : Nat) (v : Option Value) (h : Heap) (L : List Loc) : Prop := ∃ (s : Addr), v = some (.ref s) ∧ Fr n0 L ∧ Keep h0 h [] ∧ (Exa Z h s "java/lang/String")
set_option maxRecDepth 65536 in
set_option maxHeartbeats 40000000 in
theorem rm_mk0 (l : Launch) (Z : State) (a0 : Array Value) (hw : ∀ d ∈ tables_1, d.before a0 Z = true) (ws : List Jvm.Cond) (q : Int32) (cs : Int32) (h0 : Heap) (n0 : Nat) (O0 : Old Z n0 h0) (u0 : Sta Z Z.heap "java/lang/String" "COMPACT_STRINGS" "Z" (.int cs)) (u1 : ¬ (cs = (0 : Int32))) :
    MetFree l (⟨"com/example/slot1/slot1/balance/OptionsStringPinLaw", "make", "(II)Ljava/lang/String;"⟩ : MethodName) (head1 (Jvm.Cond.code (⟨"com/example/slot1/slot1/balance/OptionsStringPinLaw", "make", "(II)Ljava/lang/String;"⟩ : MethodName) method_2_code 5 (some (.object "java/lang/String")) :: ws) ({ frames := 3, cells := 6, slots := 12, locals := 43 } : Room)) (fun aV U => aV = #[(.int (0 : Int32)), (.int q)] ∧ Z.Warmed39 U.vm ∧ U.heap = h0 ∧ CHv Z own_EL U.vm h0 ∧ ∀ x ∈ ([] : List Addr), Safe Z own_EL U.vm h0 x) (fun _ _ _ _ _ => True) (fun _ U o U' => ∃ v L, o = .returned v ∧ Q_mk0 Z q cs h0 n0 v U'.heap L ∧ CHr Z own_EL U.vm U.heap U'.vm U'.heap ∧ ReturnedEndW U o U' L ({ frames := 3, cells := 6, slots := 12, locals := 43 } : Room).cells ({ frames := 3, cells := 6, slots := 12, locals := 43 } : Room).slots) := by
  refine MetFree.of_bodySF (plainFor_of_name pn_3) hisR ?_
  intro pr_ en_ st_ me_ args below meth_ co_ s₁ Bd hml0 hP hK
  obtain ⟨rfl, hZ, hh, hCH, hSF⟩ := hP
  have hx := Bd.exec
  have hby := Bd.bytes
  have hEL := own_hEL hw
  have wS := own_wS hw
  have hml : co_.maxLocals = 5 := hml0
  have hown : st_.vm.findClass "com/example/slot1/slot1/balance/OptionsStringPinLaw" = some me_.cls := findClass_of_methodNamed Bd.named
  have hnm := (name_of_methodNamed Bd.named Bd.method).1
  have X0 : Stand pr_ l en_ ({ frames := 3, cells := 6, slots := 12, locals := 43 } : Room) (st_.setVm st_.vm) me_ #[(.int (0 : Int32)), (.int q)] below meth_ co_ s₁ [] 0 0 := Stand.of_body Bd
  have e0 : s₁.heap = h0 := by rw [← hh, Bd.state]; rfl
  have N0 := Fr.nil n0
  have K0 := Keep.refl h0 []
  have hS : st_.Since st_.vm 0 := (State.WarmedH.refl st_).since 0
  have hk : 0 ≤ h0.size := Nat.zero_le _
  have CR : CHr Z own_EL st_.vm h0 st_.vm h0 := CHr.refl hCH
  obtain ⟨G, gv, gf, gb⟩ := own_GW Z own_EL pr_.tables en_ below st_ (Q_mk0 Z q cs h0 n0) ({ frames := 3, cells := 6, slots := 12, locals := 43 } : Room).cells ({ frames := 3, cells := 6, slots := 12, locals := 43 } : Room).slots
  show own_FinW Z own_EL pr_.tables en_ below st_ (Q_mk0 Z q cs h0 n0) ({ frames := 3, cells := 6, slots := 12, locals := 43 } : Room).cells ({ frames := 3, cells := 6, slots := 12, locals := 43 } : Room).slots (s₁.setTop (entryFrame me_ #[(.int (0 : Int32)), (.int q)] 5))
  refine gb _ (gv (fun tQ kQ => castTop (ef_7 me_ (0 : Int32) q) kQ) ?_)
  show G (s₁.setTop (mkF me_ 0 #[.val (.int (0 : Int32)), .val (.int q), .unset, .unset, .unset] []))
  refine gv (fun tQ kQ => XS.iloadN X0.here hx rfl (hb hby d1_0) rfl kQ) ?_
  show G (s₁.setTop (mkF me_ 1 #[.val (.int (0 : Int32)), .val (.int q), .unset, .unset, .unset] [(.int q)]))
  refine gv (fun tQ kQ => XS.sipush X0.here hx rfl (hb hby d1_1) kQ) ?_
  show G (s₁.setTop (mkF me_ 4 #[.val (.int (0 : Int32)), .val (.int q), .unset, .unset, .unset] [(.int (255 : Int32)), (.int q)]))
  refine gv (fun tQ kQ => XS.iand X0.here hx rfl (hb hby d1_4) rfl kQ) ?_
  show G (s₁.setTop (mkF me_ 5 #[.val (.int (0 : Int32)), .val (.int q), .unset, .unset, .unset] [(.int (q &&& (255 : Int32)))]))
  refine gv (fun tQ kQ => XS.i2c X0.here hx rfl (hb hby d1_5) rfl kQ) ?_
  show G (s₁.setTop (mkF me_ 6 #[.val (.int (0 : Int32)), .val (.int q), .unset, .unset, .unset] [(.int ((q &&& (255 : Int32)).toUInt32.toUInt16.toUInt32.toInt32))]))
  refine gv (fun tQ kQ => XS.istoreN X0.here hx rfl (hb hby d1_6) rfl (l' := #[.val (.int (0 : Int32)), .val (.int q), .val (.int ((q &&& (255 : Int32)).toUInt32.toUInt16.toUInt32.toInt32)), .unset, .unset]) rfl kQ) ?_
  show G (s₁.setTop (mkF me_ 7 #[.val (.int (0 : Int32)), .val (.int q), .val (.int ((q &&& (255 : Int32)).toUInt32.toUInt16.toUInt32.toInt32)), .unset, .unset] []))
  refine gv (fun tQ kQ => XS.iloadN X0.here hx rfl (hb hby d1_7) rfl kQ) ?_
  show G (s₁.setTop (mkF me_ 8 #[.val (.int (0 : Int32)), .val (.int q), .val (.int ((q &&& (255 : Int32)).toUInt32.toUInt16.toUInt32.toInt32)), .unset, .unset] [(.int q)]))
  refine gv (fun tQ kQ => XS.bipush X0.here hx rfl (hb hby d1_8) kQ) ?_
  show G (s₁.setTop (mkF me_ 10 #[.val (.int (0 : Int32)), .val (.int q), .val (.int ((q &&& (255 : Int32)).toUInt32.toUInt16.toUInt32.toInt32)), .unset, .unset] [(.int (8 : Int32)), (.int q)]))
  refine gv (fun tQ kQ => XS.iushr X0.here hx rfl (hb hby d1_10) rfl kQ) ?_
  show G (s₁.setTop (mkF me_ 11 #[.val (.int (0 : Int32)), .val (.int q), .val (.int ((q &&& (255 : Int32)).toUInt32.toUInt16.toUInt32.toInt32)), .unset, .unset] [(.int ((q.toUInt32 >>> ((8 : Int32) &&& 31).toUInt32).toInt32))]))
  refine gv (fun tQ kQ => XS.sipush X0.here hx rfl (hb hby d1_11) kQ) ?_
  show G (s₁.setTop (mkF me_ 14 #[.val (.int (0 : Int32)), .val (.int q), .val (.int ((q &&& (255 : Int32)).toUInt32.toUInt16.toUInt32.toInt32)), .unset, .unset] [(.int (255 : Int32)), (.int ((q.toUInt32 >>> ((8 : Int32) &&& 31).toUInt32).toInt32))]))
  refine gv (fun tQ kQ => XS.iand X0.here hx rfl (hb hby d1_14) rfl kQ) ?_
  show G (s₁.setTop (mkF me_ 15 #[.val (.int (0 : Int32)), .val (.int q), .val (.int ((q &&& (255 : Int32)).toUInt32.toUInt16.toUInt32.toInt32)), .unset, .unset] [(.int (((q.toUInt32 >>> ((8 : Int32) &&& 31).toUInt32).toInt32) &&& (255 : Int32)))]))
  refine gv (fun tQ kQ => XS.i2c X0.here hx rfl (hb hby d1_15) rfl kQ) ?_
  show G (s₁.setTop (mkF me_ 16 #[.val (.int (0 : Int32)), .val (.int q), .val (.int ((q &&& (255 : Int32)).toUInt32.toUInt16.toUInt32.toInt32)), .unset, .unset] [(.int ((((q.toUInt32 >>> ((8 : Int32) &&& 31).toUInt32).toInt32) &&& (255 : Int32)).toUInt32.toUInt16.toUInt32.toInt32))]))
  refine gv (fun tQ kQ => XS.istoreN X0.here hx rfl (hb hby d1_16) rfl (l' := #[.val (.int (0 : Int32)), .val (.int q), .val (.int ((q &&& (255 : Int32)).toUInt32.toUInt16.toUInt32.toInt32)), .val (.int ((((q.toUInt32 >>> ((8 : Int32) &&& 31).toUInt32).toInt32) &&& (255 : Int32)).toUInt32.toUInt16.toUInt32.toInt32)), .unset]) rfl kQ) ?_
  show G (s₁.setTop (mkF me_ 17 #[.val (.int (0 : Int32)), .val (.int q), .val (.int ((q &&& (255 : Int32)).toUInt32.toUInt16.toUInt32.toInt32)), .val (.int ((((q.toUInt32 >>> ((8 : Int32) &&& 31).toUInt32).toInt32) &&& (255 : Int32)).toUInt32.toUInt16.toUInt32.toInt32)), .unset] []))
  refine gv (fun tQ kQ => XS.iloadN X0.here hx rfl (hb hby d1_17) rfl kQ) ?_
  show G (s₁.setTop (mkF me_ 18 #[.val (.int (0 : Int32)), .val (.int q), .val (.int ((q &&& (255 : Int32)).toUInt32.toUInt16.toUInt32.toInt32)), .val (.int ((((q.toUInt32 >>> ((8 : Int32) &&& 31).toUInt32).toInt32) &&& (255 : Int32)).toUInt32.toUInt16.toUInt32.toInt32)), .unset] [(.int q)]))
  refine gv (fun tQ kQ => XS.bipush X0.here hx rfl (hb hby d1_18) kQ) ?_
  show G (s₁.setTop (mkF me_ 20 #[.val (.int (0 : Int32)), .val (.int q), .val (.int ((q &&& (255 : Int32)).toUInt32.toUInt16.toUInt32.toInt32)), .val (.int ((((q.toUInt32 >>> ((8 : Int32) &&& 31).toUInt32).toInt32) &&& (255 : Int32)).toUInt32.toUInt16.toUInt32.toInt32)), .unset] [(.int (16 : Int32)), (.int q)]))
  refine gv (fun tQ kQ => XS.iushr X0.here hx rfl (hb hby d1_20) rfl kQ) ?_
  show G (s₁.setTop (mkF me_ 21 #[.val (.int (0 : Int32)), .val (.int q), .val (.int ((q &&& (255 : Int32)).toUInt32.toUInt16.toUInt32.toInt32)), .val (.int ((((q.toUInt32 >>> ((8 : Int32) &&& 31).toUInt32).toInt32) &&& (255 : Int32)).toUInt32.toUInt16.toUInt32.toInt32)), .unset] [(.int ((q.toUInt32 >>> ((16 : Int32) &&& 31).toUInt32).toInt32))]))
  refine gv (fun tQ kQ => XS.sipush X0.here hx rfl (hb hby d1_21) kQ) ?_
  show G (s₁.setTop (mkF me_ 24 #[.val (.int (0 : Int32)), .val (.int q), .val (.int ((q &&& (255 : Int32)).toUInt32.toUInt16.toUInt32.toInt32)), .val (.int ((((q.toUInt32 >>> ((8 : Int32) &&& 31).toUInt32).toInt32) &&& (255 : Int32)).toUInt32.toUInt16.toUInt32.toInt32)), .unset] [(.int (255 : Int32)), (.int ((q.toUInt32 >>> ((16 : Int32) &&& 31).toUInt32).toInt32))]))
  refine gv (fun tQ kQ => XS.iand X0.here hx rfl (hb hby d1_24) rfl kQ) ?_
  show G (s₁.setTop (mkF me_ 25 #[.val (.int (0 : Int32)), .val (.int q), .val (.int ((q &&& (255 : Int32)).toUInt32.toUInt16.toUInt32.toInt32)), .val (.int ((((q.toUInt32 >>> ((8 : Int32) &&& 31).toUInt32).toInt32) &&& (255 : Int32)).toUInt32.toUInt16.toUInt32.toInt32)), .unset] [(.int (((q.toUInt32 >>> ((16 : Int32) &&& 31).toUInt32).toInt32) &&& (255 : Int32)))]))
  refine gv (fun tQ kQ => XS.i2c X0.here hx rfl (hb hby d1_25) rfl kQ) ?_
  show G (s₁.setTop (mkF me_ 26 #[.val (.int (0 : Int32)), .val (.int q), .val (.int ((q &&& (255 : Int32)).toUInt32.toUInt16.toUInt32.toInt32)), .val (.int ((((q.toUInt32 >>> ((8 : Int32) &&& 31).toUInt32).toInt32) &&& (255 : Int32)).toUInt32.toUInt16.toUInt32.toInt32)), .unset] [(.int ((((q.toUInt32 >>> ((16 : Int32) &&& 31).toUInt32).toInt32) &&& (255 : Int32)).toUInt32.toUInt16.toUInt32.toInt32))]))
  refine gv (fun tQ kQ => XS.istore X0.here hx rfl (hb hby d1_26) rfl (l' := #[.val (.int (0 : Int32)), .val (.int q), .val (.int ((q &&& (255 : Int32)).toUInt32.toUInt16.toUInt32.toInt32)), .val (.int ((((q.toUInt32 >>> ((8 : Int32) &&& 31).toUInt32).toInt32) &&& (255 : Int32)).toUInt32.toUInt16.toUInt32.toInt32)), .val (.int ((((q.toUInt32 >>> ((16 : Int32) &&& 31).toUInt32).toInt32) &&& (255 : Int32)).toUInt32.toUInt16.toUInt32.toInt32))]) rfl kQ) ?_
  show G (s₁.setTop (mkF me_ 28 #[.val (.int (0 : Int32)), .val (.int q), .val (.int ((q &&& (255 : Int32)).toUInt32.toUInt16.toUInt32.toInt32)), .val (.int ((((q.toUInt32 >>> ((8 : Int32) &&& 31).toUInt32).toInt32) &&& (255 : Int32)).toUInt32.toUInt16.toUInt32.toInt32)), .val (.int ((((q.toUInt32 >>> ((16 : Int32) &&& 31).toUInt32).toInt32) &&& (255 : Int32)).toUInt32.toUInt16.toUInt32.toInt32))] []))
  refine gv (fun tQ kQ => XS.iloadN X0.here hx rfl (hb hby d1_28) rfl kQ) ?_
  show G (s₁.setTop (mkF me_ 29 #[.val (.int (0 : Int32)), .val (.int q), .val (.int ((q &&& (255 : Int32)).toUInt32.toUInt16.toUInt32.toInt32)), .val (.int ((((q.toUInt32 >>> ((8 : Int32) &&& 31).toUInt32).toInt32) &&& (255 : Int32)).toUInt32.toUInt16.toUInt32.toInt32)), .val (.int ((((q.toUInt32 >>> ((16 : Int32) &&& 31).toUInt32).toInt32) &&& (255 : Int32)).toUInt32.toUInt16.toUInt32.toInt32))] [(.int (0 : Int32))]))
  refine gv (fun tQ kQ => XS.ifNo X0.here hx rfl (hb hby d1_29) rfl ((if0 _ _).trans (teq (by decide : (0 : Int32) = (0 : Int32))).2) kQ) ?_
  show G (s₁.setTop (mkF me_ 32 #[.val (.int (0 : Int32)), .val (.int q), .val (.int ((q &&& (255 : Int32)).toUInt32.toUInt16.toUInt32.toInt32)), .val (.int ((((q.toUInt32 >>> ((8 : Int32) &&& 31).toUInt32).toInt32) &&& (255 : Int32)).toUInt32.toUInt16.toUInt32.toInt32)), .val (.int ((((q.toUInt32 >>> ((16 : Int32) &&& 31).toUInt32).toInt32) &&& (255 : Int32)).toUInt32.toUInt16.toUInt32.toInt32))] []))
  obtain ⟨T269, h269, X269, e269, E269, A269, D269, -, st269⟩ := newO X0 hx hZ hown (hw _ (List.mem_of_getElem? (i := 4) rfl)) (hw _ (List.mem_of_getElem? (i := 5) rfl)) (hw _ (List.mem_of_getElem? (i := 6) rfl)) e0 (g := (mkF me_ 32 #[.val (.int (0 : Int32)), .val (.int q), .val (.int ((q &&& (255 : Int32)).toUInt32.toUInt16.toUInt32.toInt32)), .val (.int ((((q.toUInt32 >>> ((8 : Int32) &&& 31).toUInt32).toInt32) &&& (255 : Int32)).toUInt32.toUInt16.toUInt32.toInt32)), .val (.int ((((q.toUInt32 >>> ((16 : Int32) &&& 31).toUInt32).toInt32) &&& (255 : Int32)).toUInt32.toUInt16.toUInt32.toInt32))] [])) rfl (hb hby d1_32) (by decide) (by decide)
  obtain ⟨b269, g269⟩ : ∃ z, z = h0.size := ⟨_, rfl⟩
  rw [← g269] at A269 D269 st269
  refine gv st269 ?_
  have g270 : n0 ≤ b269 := Nat.le_trans (own_old O0) (Nat.le_of_eq g269.symm)
  have z271 : h0.size ≤ b269 := Nat.le_trans K0.1 (Nat.le_of_eq g269.symm)
  have sf272 : Safe Z own_EL st_.vm h0 b269 := Safe.new (Nat.le_of_eq g269.symm)
  have sf273 := Safe.ext E269 CR.1 sf272
  have CR := CR.trans (CHr.ext E269 CR.1)
  have hk := Nat.le_trans hk E269.1
  have O274 := O0.ext E269
  have K275 := K0.ext E269
  have f276 : Fld Z h269 b269 "java/lang/String" "value" "[B" .null := D269 (Or.inr (hw _ (List.mem_of_getElem? (i := 20) rfl))) (ty := (.array .byte)) (by decide)
  have f277 : Fld Z h269 b269 "java/lang/String" "coder" "B" (.int (0 : Int32)) := D269 (Or.inr (hw _ (List.mem_of_getElem? (i := 21) rfl))) (ty := .byte) (by decide)
  show G (T269.setTop (mkF me_ 35 #[.val (.int (0 : Int32)), .val (.int q), .val (.int ((q &&& (255 : Int32)).toUInt32.toUInt16.toUInt32.toInt32)), .val (.int ((((q.toUInt32 >>> ((8 : Int32) &&& 31).toUInt32).toInt32) &&& (255 : Int32)).toUInt32.toUInt16.toUInt32.toInt32)), .val (.int ((((q.toUInt32 >>> ((16 : Int32) &&& 31).toUInt32).toInt32) &&& (255 : Int32)).toUInt32.toUInt16.toUInt32.toInt32))] [(.ref b269)]))
  refine gv (fun tQ kQ => XS.dup X269.here hx rfl (hb hby d1_35) rfl rfl kQ) ?_
  show G (T269.setTop (mkF me_ 36 #[.val (.int (0 : Int32)), .val (.int q), .val (.int ((q &&& (255 : Int32)).toUInt32.toUInt16.toUInt32.toInt32)), .val (.int ((((q.toUInt32 >>> ((8 : Int32) &&& 31).toUInt32).toInt32) &&& (255 : Int32)).toUInt32.toUInt16.toUInt32.toInt32)), .val (.int ((((q.toUInt32 >>> ((16 : Int32) &&& 31).toUInt32).toInt32) &&& (255 : Int32)).toUInt32.toUInt16.toUInt32.toInt32))] [(.ref b269), (.ref b269)]))
  refine gv (fun tQ kQ => XS.iconst X269.here hx rfl (hb hby d1_36) kQ) ?_
  show G (T269.setTop (mkF me_ 37 #[.val (.int (0 : Int32)), .val (.int q), .val (.int ((q &&& (255 : Int32)).toUInt32.toUInt16.toUInt32.toInt32)), .val (.int ((((q.toUInt32 >>> ((8 : Int32) &&& 31).toUInt32).toInt32) &&& (255 : Int32)).toUInt32.toUInt16.toUInt32.toInt32)), .val (.int ((((q.toUInt32 >>> ((16 : Int32) &&& 31).toUInt32).toInt32) &&& (255 : Int32)).toUInt32.toUInt16.toUInt32.toInt32))] [(.int (0 : Int32)), (.ref b269), (.ref b269)]))
  obtain ⟨T278, h278, k278, X278, e278, E278, A278, st278⟩ := newP X269 hx hZ (hw _ (List.mem_of_getElem? (i := 7) rfl)) e269 (g := (mkF me_ 37 #[.val (.int (0 : Int32)), .val (.int q), .val (.int ((q &&& (255 : Int32)).toUInt32.toUInt16.toUInt32.toInt32)), .val (.int ((((q.toUInt32 >>> ((8 : Int32) &&& 31).toUInt32).toInt32) &&& (255 : Int32)).toUInt32.toUInt16.toUInt32.toInt32)), .val (.int ((((q.toUInt32 >>> ((16 : Int32) &&& 31).toUInt32).toInt32) &&& (255 : Int32)).toUInt32.toUInt16.toUInt32.toInt32))] [(.int (0 : Int32)), (.ref b269), (.ref b269)])) rfl (hb hby d1_37) rfl (by decide) (cap := 0) (by decide) (by decide) (by decide) (by decide)
  obtain ⟨b278, g278⟩ : ∃ z, z = h269.size := ⟨_, rfl⟩
  rw [← g278] at A278 st278
  refine gv st278 ?_
  have ne279 : b269 ≠ b278 := Nat.ne_of_lt (Nat.lt_of_lt_of_le A269.lt (Nat.le_of_eq g278.symm))
  have g280 : n0 ≤ b278 := Nat.le_trans (own_old O274) (Nat.le_of_eq g278.symm)
  have z281 : h0.size ≤ b278 := Nat.le_trans K275.1 (Nat.le_of_eq g278.symm)
  have sf282 : Safe Z own_EL st_.vm h269 b278 := Safe.new (Nat.le_of_eq g278.symm)
  have f283 : Exa Z h278 b269 "java/lang/String" := A269.ext E278
  have f284 : Fld Z h278 b269 "java/lang/String" "value" "[B" .null := f276.ext E278
  have f285 : Fld Z h278 b269 "java/lang/String" "coder" "B" (.int (0 : Int32)) := f277.ext E278
  have sf286 := Safe.ext E278 CR.1 sf273
  have sf287 := Safe.ext E278 CR.1 sf282
  have CR := CR.trans (CHr.ext E278 CR.1)
  have hk := Nat.le_trans hk E278.1
  have O288 := O274.ext E278
  have K289 := K275.ext E278
  have V278 : Arv Z h278 b278 k278 .char (0 : Int32) [] (.int (0 : Int32)) := (Arv.new A278 (by decide)).pad (pad_rep [] (.int (0 : Int32)) 0)
  show G (T278.setTop (mkF me_ 39 #[.val (.int (0 : Int32)), .val (.int q), .val (.int ((q &&& (255 : Int32)).toUInt32.toUInt16.toUInt32.toInt32)), .val (.int ((((q.toUInt32 >>> ((8 : Int32) &&& 31).toUInt32).toInt32) &&& (255 : Int32)).toUInt32.toUInt16.toUInt32.toInt32)), .val (.int ((((q.toUInt32 >>> ((16 : Int32) &&& 31).toUInt32).toInt32) &&& (255 : Int32)).toUInt32.toUInt16.toUInt32.toInt32))] [(.ref b278), (.ref b269), (.ref b269)]))
  obtain ⟨_, _, ⟨T290, L290, k290, n290⟩, -, X290, hS290, hg290, ⟨Lc290, hQ290, l290, y290, z290, CRn290⟩, st290⟩ := X278.specialBackS hx (y := (⟨"java/lang/String", "<init>", "([C)V"⟩ : MethodName)) rfl hown (mvT hZ (hw _ (List.mem_of_getElem? (i := 8) rfl))) (mvT hZ (hw _ (List.mem_of_getElem? (i := 9) rfl))) (mvT hZ (hw _ (List.mem_of_getElem? (i := 10) rfl))) (by decide) (own_backH (W := 1) (rm_sc0 l Z a0 hw [] b269 b278 k278 h278 n0 O288 f283 f284 f285 g270 V278) hZ (hw _ (List.mem_of_getElem? (i := 10) rfl)) (hw _ (List.mem_of_getElem? (i := 6) rfl)) (by decide) (by decide) hEL CR.1 (own_sfS f283.lt sf286 own_sf0)) (g := (mkF me_ 39 #[.val (.int (0 : Int32)), .val (.int q), .val (.int ((q &&& (255 : Int32)).toUInt32.toUInt16.toUInt32.toInt32)), .val (.int ((((q.toUInt32 >>> ((8 : Int32) &&& 31).toUInt32).toInt32) &&& (255 : Int32)).toUInt32.toUInt16.toUInt32.toInt32)), .val (.int ((((q.toUInt32 >>> ((16 : Int32) &&& 31).toUInt32).toInt32) &&& (255 : Int32)).toUInt32.toUInt16.toUInt32.toInt32))] [(.ref b278), (.ref b269), (.ref b269)])) rfl (by rw [hml]; rfl) (Steps.refl _) (a := b269) (argsL := [(.ref b278)]) (rest := [(.ref b269)]) (lenOf pd_7 rfl) rfl (by show 2 * 0 + _ ≤ _; exact Nat.le_of_eq rfl) (hb hby d1_39) (fun _ _ => ⟨rfl, e278, (by decide : 2 + 4 ≤ _), (by decide : 4 + 8 ≤ _)⟩)
  dsimp only [Pt.U, Pt.locs, Pt.cells, Pt.slots] at X290 l290 y290 z290 st290 hQ290 hS290 hg290 CRn290
  subst l290 y290 z290
  have hS := foldS hS (by rw [e278]; exact hk) hS290 hg290
  have hZ : Z.Warmed39 T290.vm := State.Warmed39.trans (t := st_.setVm st_.vm) hZ hS290.1
  have hown : T290.vm.findClass "com/example/slot1/slot1/balance/OptionsStringPinLaw" = some me_.cls := by rw [hS290.1.alike.findClass]; exact hown
  have X290 : Stand pr_ l en_ _ (st_.setVm T290.vm) me_ _ below meth_ co_ T290 _ _ _ := X290
  obtain ⟨b_290, k_290, rfl, Nq290, Kq290, w290_0, w290_1, w290_2, w290_3⟩ := hQ290
  have N291 := Fr.app N0 Nq290
  obtain ⟨h290, e290⟩ : ∃ z, T290.heap = z := ⟨_, rfl⟩
  rw [e290] at Kq290 CRn290 w290_0 w290_1 w290_2 w290_3
  have sf292 := CRn290.safe f283.lt sf286
  have sf293 := CRn290.safe V278.lt sf287
  have CR := CR.trans CRn290
  obtain ⟨kk290, hkk290⟩ : ∃ z, z = T290.heap.size := ⟨_, rfl⟩
  rw [← hkk290] at hS
  have hk : kk290 ≤ h290.size := by rw [hkk290, e290]; exact Nat.le_refl _
  have f294 : Exa Z h290 b269 "java/lang/String" := f283.keep Kq290
  have f295 : Arv Z h290 b278 k278 .char (0 : Int32) [] (.int (0 : Int32)) := V278.keep Kq290 (ninS (Ne.symm ne279) nin0)
  have O296 := O288.keep Kq290 (allS g270 all0)
  have K297 := K289.trans Kq290 (allS (Or.inr z271) all0)
  refine gv (fun tQ kQ => st290.trans kQ) ?_
  show G (T290.setTop (mkF me_ 42 #[.val (.int (0 : Int32)), .val (.int q), .val (.int ((q &&& (255 : Int32)).toUInt32.toUInt16.toUInt32.toInt32)), .val (.int ((((q.toUInt32 >>> ((8 : Int32) &&& 31).toUInt32).toInt32) &&& (255 : Int32)).toUInt32.toUInt16.toUInt32.toInt32)), .val (.int ((((q.toUInt32 >>> ((16 : Int32) &&& 31).toUInt32).toInt32) &&& (255 : Int32)).toUInt32.toUInt16.toUInt32.toInt32))] [(.ref b269)]))
  refine gf _ (own_retW X290 Bd.notSynchronized hS (by rw [e290]; exact hk) (v := some (.ref b269)) (fun h => by rw [Bd.returns] at h; cases h) ?_ (by decide) (by decide) (by rw [hh, e290]; exact CR.trans (CHv.at X290 hZ hEL CR.1)) (fun fs hr => retOut X290 hx (t := (.object "java/lang/String")) Bd.returns rfl (Or.inr (Or.inr (Or.inr (Or.inr ⟨rfl, rfl, rfl⟩)))) (hb hby d1_42) hr))
  show Q_mk0 Z q cs h0 n0 _ T290.heap _
  rw [e290]
  exact ⟨b269, rfl, N291, K297, w290_0⟩
theorem d1_43 : decode method_2_code 43 = .ok (.iload_n 0, 1) := by decide +kernel
theorem d1_44 : decode method_2_code 44 = .ok (.iconst 1, 1) := by decide +kernel
theorem d1_45 : decode method_2_code 45 = .ok (.if_icmp .ne 8, 3) := by decide +kernel
theorem d1_48 : decode method_2_code 48 = .ok (.iload_n 2, 1) := by decide +kernel
theorem d1_49 : decode method_2_code 49 = .ok (.invokestatic 12, 3) := by decide +kernel
theorem pd_8 : parseMethodDescriptor "(C)Ljava/lang/String;" = some ⟨[.char], some (.object "java/lang/String")⟩ := by decide +kernel
theorem d1_52 : decode method_2_code 52 = .ok (.areturn, 1) := by decide +kernel
def Q_mk1 (Z : State) (q : Int32) (cs : Int32) (h0 : Heap) (n0 : Nat) (v : Option Value) (h : Heap) (L : List Loc) : Prop := ∃ (s : Addr), v = some (.ref s) ∧ Fr n0 L ∧ Keep h0 h [] ∧ (Exa Z h s "java/lang/String")
set_option maxRecDepth 65536 in
set_option maxHeartbeats 40000000 in
theorem rm_mk1 (l : Launch) (Z : State) (a0 : Array Value) (hw : ∀ d ∈ tables_1, d.before a0 Z = true) (ws : List Jvm.Cond) (q : Int32) (cs : Int32) (h0 : Heap) (n0 : Nat) (O0 : Old Z n0 h0) (u0 : Sta Z Z.heap "java/lang/String" "COMPACT_STRINGS" "Z" (.int cs)) (u1 : ¬ (cs = (0 : Int32))) :
    MetFree l (⟨"com/example/slot1/slot1/balance/OptionsStringPinLaw", "make", "(II)Ljava/lang/String;"⟩ : MethodName) (head1 (Jvm.Cond.code (⟨"com/example/slot1/slot1/balance/OptionsStringPinLaw", "make", "(II)Ljava/lang/String;"⟩ : MethodName) method_2_code 5 (some (.object "java/lang/String")) :: ws) ({ frames := 3, cells := 2, slots := 5, locals := 39 } : Room)) (fun aV U => aV = #[(.int (1 : Int32)), (.int q)] ∧ Z.Warmed39 U.vm ∧ U.heap = h0) (fun _ _ _ _ _ => True) (fun _ U o U' => ∃ v L, o = .returned v ∧ Q_mk1 Z q cs h0 n0 v U'.heap L ∧ FrameEnd U o U' L ({ frames := 3, cells := 2, slots := 5, locals := 39 } : Room).cells ({ frames := 3, cells := 2, slots := 5, locals := 39 } : Room).slots) := by
  refine MetFree.of_bodySF (plainFor_of_name pn_3) hisR ?_
  intro pr_ en_ st_ me_ args below meth_ co_ s₁ Bd hml0 hP hK
  obtain ⟨rfl, hZ, hh⟩ := hP
  have hx := Bd.exec
  have hby := Bd.bytes
  have hml : co_.maxLocals = 5 := hml0
  have hown : st_.vm.findClass "com/example/slot1/slot1/balance/OptionsStringPinLaw" = some me_.cls := findClass_of_methodNamed Bd.named
  have hnm := (name_of_methodNamed Bd.named Bd.method).1
  have X0 : Stand pr_ l en_ ({ frames := 3, cells := 2, slots := 5, locals := 39 } : Room) st_ me_ #[(.int (1 : Int32)), (.int q)] below meth_ co_ s₁ [] 0 0 := Stand.of_body Bd
  have e0 : s₁.heap = h0 := by rw [← hh, Bd.state]; rfl
  have N0 := Fr.nil n0
  have K0 := Keep.refl h0 []
  obtain ⟨G, gv, gf, gb⟩ := own_G pr_.tables en_ below st_ (Q_mk1 Z q cs h0 n0) ({ frames := 3, cells := 2, slots := 5, locals := 39 } : Room).cells ({ frames := 3, cells := 2, slots := 5, locals := 39 } : Room).slots
  show own_Fin pr_.tables en_ below st_ (Q_mk1 Z q cs h0 n0) ({ frames := 3, cells := 2, slots := 5, locals := 39 } : Room).cells ({ frames := 3, cells := 2, slots := 5, locals := 39 } : Room).slots (s₁.setTop (entryFrame me_ #[(.int (1 : Int32)), (.int q)] 5))
  refine gb _ (gv (fun tQ kQ => castTop (ef_7 me_ (1 : Int32) q) kQ) ?_)
  show G (s₁.setTop (mkF me_ 0 #[.val (.int (1 : Int32)), .val (.int q), .unset, .unset, .unset] []))
  refine gv (fun tQ kQ => XS.iloadN X0.here hx rfl (hb hby d1_0) rfl kQ) ?_
  show G (s₁.setTop (mkF me_ 1 #[.val (.int (1 : Int32)), .val (.int q), .unset, .unset, .unset] [(.int q)]))
  refine gv (fun tQ kQ => XS.sipush X0.here hx rfl (hb hby d1_1) kQ) ?_
  show G (s₁.setTop (mkF me_ 4 #[.val (.int (1 : Int32)), .val (.int q), .unset, .unset, .unset] [(.int (255 : Int32)), (.int q)]))
  refine gv (fun tQ kQ => XS.iand X0.here hx rfl (hb hby d1_4) rfl kQ) ?_
  show G (s₁.setTop (mkF me_ 5 #[.val (.int (1 : Int32)), .val (.int q), .unset, .unset, .unset] [(.int (q &&& (255 : Int32)))]))
  refine gv (fun tQ kQ => XS.i2c X0.here hx rfl (hb hby d1_5) rfl kQ) ?_
  show G (s₁.setTop (mkF me_ 6 #[.val (.int (1 : Int32)), .val (.int q), .unset, .unset, .unset] [(.int ((q &&& (255 : Int32)).toUInt32.toUInt16.toUInt32.toInt32))]))
  refine gv (fun tQ kQ => XS.istoreN X0.here hx rfl (hb hby d1_6) rfl (l' := #[.val (.int (1 : Int32)), .val (.int q), .val (.int ((q &&& (255 : Int32)).toUInt32.toUInt16.toUInt32.toInt32)), .unset, .unset]) rfl kQ) ?_
  show G (s₁.setTop (mkF me_ 7 #[.val (.int (1 : Int32)), .val (.int q), .val (.int ((q &&& (255 : Int32)).toUInt32.toUInt16.toUInt32.toInt32)), .unset, .unset] []))
  refine gv (fun tQ kQ => XS.iloadN X0.here hx rfl (hb hby d1_7) rfl kQ) ?_
  show G (s₁.setTop (mkF me_ 8 #[.val (.int (1 : Int32)), .val (.int q), .val (.int ((q &&& (255 : Int32)).toUInt32.toUInt16.toUInt32.toInt32)), .unset, .unset] [(.int q)]))
  refine gv (fun tQ kQ => XS.bipush X0.here hx rfl (hb hby d1_8) kQ) ?_
  show G (s₁.setTop (mkF me_ 10 #[.val (.int (1 : Int32)), .val (.int q), .val (.int ((q &&& (255 : Int32)).toUInt32.toUInt16.toUInt32.toInt32)), .unset, .unset] [(.int (8 : Int32)), (.int q)]))
  refine gv (fun tQ kQ => XS.iushr X0.here hx rfl (hb hby d1_10) rfl kQ) ?_
  show G (s₁.setTop (mkF me_ 11 #[.val (.int (1 : Int32)), .val (.int q), .val (.int ((q &&& (255 : Int32)).toUInt32.toUInt16.toUInt32.toInt32)), .unset, .unset] [(.int ((q.toUInt32 >>> ((8 : Int32) &&& 31).toUInt32).toInt32))]))
  refine gv (fun tQ kQ => XS.sipush X0.here hx rfl (hb hby d1_11) kQ) ?_
  show G (s₁.setTop (mkF me_ 14 #[.val (.int (1 : Int32)), .val (.int q), .val (.int ((q &&& (255 : Int32)).toUInt32.toUInt16.toUInt32.toInt32)), .unset, .unset] [(.int (255 : Int32)), (.int ((q.toUInt32 >>> ((8 : Int32) &&& 31).toUInt32).toInt32))]))
  refine gv (fun tQ kQ => XS.iand X0.here hx rfl (hb hby d1_14) rfl kQ) ?_
  show G (s₁.setTop (mkF me_ 15 #[.val (.int (1 : Int32)), .val (.int q), .val (.int ((q &&& (255 : Int32)).toUInt32.toUInt16.toUInt32.toInt32)), .unset, .unset] [(.int (((q.toUInt32 >>> ((8 : Int32) &&& 31).toUInt32).toInt32) &&& (255 : Int32)))]))
  refine gv (fun tQ kQ => XS.i2c X0.here hx rfl (hb hby d1_15) rfl kQ) ?_
  show G (s₁.setTop (mkF me_ 16 #[.val (.int (1 : Int32)), .val (.int q), .val (.int ((q &&& (255 : Int32)).toUInt32.toUInt16.toUInt32.toInt32)), .unset, .unset] [(.int ((((q.toUInt32 >>> ((8 : Int32) &&& 31).toUInt32).toInt32) &&& (255 : Int32)).toUInt32.toUInt16.toUInt32.toInt32))]))
  refine gv (fun tQ kQ => XS.istoreN X0.here hx rfl (hb hby d1_16) rfl (l' := #[.val (.int (1 : Int32)), .val (.int q), .val (.int ((q &&& (255 : Int32)).toUInt32.toUInt16.toUInt32.toInt32)), .val (.int ((((q.toUInt32 >>> ((8 : Int32) &&& 31).toUInt32).toInt32) &&& (255 : Int32)).toUInt32.toUInt16.toUInt32.toInt32)), .unset]) rfl kQ) ?_
  show G (s₁.setTop (mkF me_ 17 #[.val (.int (1 : Int32)), .val (.int q), .val (.int ((q &&& (255 : Int32)).toUInt32.toUInt16.toUInt32.toInt32)), .val (.int ((((q.toUInt32 >>> ((8 : Int32) &&& 31).toUInt32).toInt32) &&& (255 : Int32)).toUInt32.toUInt16.toUInt32.toInt32)), .unset] []))
  refine gv (fun tQ kQ => XS.iloadN X0.here hx rfl (hb hby d1_17) rfl kQ) ?_
  show G (s₁.setTop (mkF me_ 18 #[.val (.int (1 : Int32)), .val (.int q), .val (.int ((q &&& (255 : Int32)).toUInt32.toUInt16.toUInt32.toInt32)), .val (.int ((((q.toUInt32 >>> ((8 : Int32) &&& 31).toUInt32).toInt32) &&& (255 : Int32)).toUInt32.toUInt16.toUInt32.toInt32)), .unset] [(.int q)]))
  refine gv (fun tQ kQ => XS.bipush X0.here hx rfl (hb hby d1_18) kQ) ?_
  show G (s₁.setTop (mkF me_ 20 #[.val (.int (1 : Int32)), .val (.int q), .val (.int ((q &&& (255 : Int32)).toUInt32.toUInt16.toUInt32.toInt32)), .val (.int ((((q.toUInt32 >>> ((8 : Int32) &&& 31).toUInt32).toInt32) &&& (255 : Int32)).toUInt32.toUInt16.toUInt32.toInt32)), .unset] [(.int (16 : Int32)), (.int q)]))
  refine gv (fun tQ kQ => XS.iushr X0.here hx rfl (hb hby d1_20) rfl kQ) ?_
  show G (s₁.setTop (mkF me_ 21 #[.val (.int (1 : Int32)), .val (.int q), .val (.int ((q &&& (255 : Int32)).toUInt32.toUInt16.toUInt32.toInt32)), .val (.int ((((q.toUInt32 >>> ((8 : Int32) &&& 31).toUInt32).toInt32) &&& (255 : Int32)).toUInt32.toUInt16.toUInt32.toInt32)), .unset] [(.int ((q.toUInt32 >>> ((16 : Int32) &&& 31).toUInt32).toInt32))]))
  refine gv (fun tQ kQ => XS.sipush X0.here hx rfl (hb hby d1_21) kQ) ?_
  show G (s₁.setTop (mkF me_ 24 #[.val (.int (1 : Int32)), .val (.int q), .val (.int ((q &&& (255 : Int32)).toUInt32.toUInt16.toUInt32.toInt32)), .val (.int ((((q.toUInt32 >>> ((8 : Int32) &&& 31).toUInt32).toInt32) &&& (255 : Int32)).toUInt32.toUInt16.toUInt32.toInt32)), .unset] [(.int (255 : Int32)), (.int ((q.toUInt32 >>> ((16 : Int32) &&& 31).toUInt32).toInt32))]))
  refine gv (fun tQ kQ => XS.iand X0.here hx rfl (hb hby d1_24) rfl kQ) ?_
  show G (s₁.setTop (mkF me_ 25 #[.val (.int (1 : Int32)), .val (.int q), .val (.int ((q &&& (255 : Int32)).toUInt32.toUInt16.toUInt32.toInt32)), .val (.int ((((q.toUInt32 >>> ((8 : Int32) &&& 31).toUInt32).toInt32) &&& (255 : Int32)).toUInt32.toUInt16.toUInt32.toInt32)), .unset] [(.int (((q.toUInt32 >>> ((16 : Int32) &&& 31).toUInt32).toInt32) &&& (255 : Int32)))]))
  refine gv (fun tQ kQ => XS.i2c X0.here hx rfl (hb hby d1_25) rfl kQ) ?_
  show G (s₁.setTop (mkF me_ 26 #[.val (.int (1 : Int32)), .val (.int q), .val (.int ((q &&& (255 : Int32)).toUInt32.toUInt16.toUInt32.toInt32)), .val (.int ((((q.toUInt32 >>> ((8 : Int32) &&& 31).toUInt32).toInt32) &&& (255 : Int32)).toUInt32.toUInt16.toUInt32.toInt32)), .unset] [(.int ((((q.toUInt32 >>> ((16 : Int32) &&& 31).toUInt32).toInt32) &&& (255 : Int32)).toUInt32.toUInt16.toUInt32.toInt32))]))
  refine gv (fun tQ kQ => XS.istore X0.here hx rfl (hb hby d1_26) rfl (l' := #[.val (.int (1 : Int32)), .val (.int q), .val (.int ((q &&& (255 : Int32)).toUInt32.toUInt16.toUInt32.toInt32)), .val (.int ((((q.toUInt32 >>> ((8 : Int32) &&& 31).toUInt32).toInt32) &&& (255 : Int32)).toUInt32.toUInt16.toUInt32.toInt32)), .val (.int ((((q.toUInt32 >>> ((16 : Int32) &&& 31).toUInt32).toInt32) &&& (255 : Int32)).toUInt32.toUInt16.toUInt32.toInt32))]) rfl kQ) ?_
  show G (s₁.setTop (mkF me_ 28 #[.val (.int (1 : Int32)), .val (.int q), .val (.int ((q &&& (255 : Int32)).toUInt32.toUInt16.toUInt32.toInt32)), .val (.int ((((q.toUInt32 >>> ((8 : Int32) &&& 31).toUInt32).toInt32) &&& (255 : Int32)).toUInt32.toUInt16.toUInt32.toInt32)), .val (.int ((((q.toUInt32 >>> ((16 : Int32) &&& 31).toUInt32).toInt32) &&& (255 : Int32)).toUInt32.toUInt16.toUInt32.toInt32))] []))
  refine gv (fun tQ kQ => XS.iloadN X0.here hx rfl (hb hby d1_28) rfl kQ) ?_
  show G (s₁.setTop (mkF me_ 29 #[.val (.int (1 : Int32)), .val (.int q), .val (.int ((q &&& (255 : Int32)).toUInt32.toUInt16.toUInt32.toInt32)), .val (.int ((((q.toUInt32 >>> ((8 : Int32) &&& 31).toUInt32).toInt32) &&& (255 : Int32)).toUInt32.toUInt16.toUInt32.toInt32)), .val (.int ((((q.toUInt32 >>> ((16 : Int32) &&& 31).toUInt32).toInt32) &&& (255 : Int32)).toUInt32.toUInt16.toUInt32.toInt32))] [(.int (1 : Int32))]))
  refine gv (fun tQ kQ => XS.ifYes X0.here hx rfl (pc0 := 29) (pc' := 43) rfl (hb hby d1_29) rfl ((if0 _ _).trans (feq (by decide : ¬ ((1 : Int32) = (0 : Int32)))).2) (by decide) (by decide) kQ) ?_
  show G (s₁.setTop (mkF me_ 43 #[.val (.int (1 : Int32)), .val (.int q), .val (.int ((q &&& (255 : Int32)).toUInt32.toUInt16.toUInt32.toInt32)), .val (.int ((((q.toUInt32 >>> ((8 : Int32) &&& 31).toUInt32).toInt32) &&& (255 : Int32)).toUInt32.toUInt16.toUInt32.toInt32)), .val (.int ((((q.toUInt32 >>> ((16 : Int32) &&& 31).toUInt32).toInt32) &&& (255 : Int32)).toUInt32.toUInt16.toUInt32.toInt32))] []))
  refine gv (fun tQ kQ => XS.iloadN X0.here hx rfl (hb hby d1_43) rfl kQ) ?_
  show G (s₁.setTop (mkF me_ 44 #[.val (.int (1 : Int32)), .val (.int q), .val (.int ((q &&& (255 : Int32)).toUInt32.toUInt16.toUInt32.toInt32)), .val (.int ((((q.toUInt32 >>> ((8 : Int32) &&& 31).toUInt32).toInt32) &&& (255 : Int32)).toUInt32.toUInt16.toUInt32.toInt32)), .val (.int ((((q.toUInt32 >>> ((16 : Int32) &&& 31).toUInt32).toInt32) &&& (255 : Int32)).toUInt32.toUInt16.toUInt32.toInt32))] [(.int (1 : Int32))]))
  refine gv (fun tQ kQ => XS.iconst X0.here hx rfl (hb hby d1_44) kQ) ?_
  show G (s₁.setTop (mkF me_ 45 #[.val (.int (1 : Int32)), .val (.int q), .val (.int ((q &&& (255 : Int32)).toUInt32.toUInt16.toUInt32.toInt32)), .val (.int ((((q.toUInt32 >>> ((8 : Int32) &&& 31).toUInt32).toInt32) &&& (255 : Int32)).toUInt32.toUInt16.toUInt32.toInt32)), .val (.int ((((q.toUInt32 >>> ((16 : Int32) &&& 31).toUInt32).toInt32) &&& (255 : Int32)).toUInt32.toUInt16.toUInt32.toInt32))] [(.int (1 : Int32)), (.int (1 : Int32))]))
  refine gv (fun tQ kQ => XS.icmpNo X0.here hx rfl (hb hby d1_45) rfl (teq (by decide : (1 : Int32) = (1 : Int32))).2 kQ) ?_
  show G (s₁.setTop (mkF me_ 48 #[.val (.int (1 : Int32)), .val (.int q), .val (.int ((q &&& (255 : Int32)).toUInt32.toUInt16.toUInt32.toInt32)), .val (.int ((((q.toUInt32 >>> ((8 : Int32) &&& 31).toUInt32).toInt32) &&& (255 : Int32)).toUInt32.toUInt16.toUInt32.toInt32)), .val (.int ((((q.toUInt32 >>> ((16 : Int32) &&& 31).toUInt32).toInt32) &&& (255 : Int32)).toUInt32.toUInt16.toUInt32.toInt32))] []))
  refine gv (fun tQ kQ => XS.iloadN X0.here hx rfl (hb hby d1_48) rfl kQ) ?_
  show G (s₁.setTop (mkF me_ 49 #[.val (.int (1 : Int32)), .val (.int q), .val (.int ((q &&& (255 : Int32)).toUInt32.toUInt16.toUInt32.toInt32)), .val (.int ((((q.toUInt32 >>> ((8 : Int32) &&& 31).toUInt32).toInt32) &&& (255 : Int32)).toUInt32.toUInt16.toUInt32.toInt32)), .val (.int ((((q.toUInt32 >>> ((16 : Int32) &&& 31).toUInt32).toInt32) &&& (255 : Int32)).toUInt32.toUInt16.toUInt32.toInt32))] [(.int ((q &&& (255 : Int32)).toUInt32.toUInt16.toUInt32.toInt32))]))
  obtain ⟨_, _, ⟨T298, L298, k298, n298⟩, -, X298, ⟨Lc298, hQ298, l298, y298, z298⟩, st298⟩ := Jvm.LawKit.callS X0 hx (y := (⟨"java/lang/String", "valueOf", "(C)Ljava/lang/String;"⟩ : MethodName)) hown (mvT hZ (hw _ (List.mem_of_getElem? (i := 31) rfl))) (mvT hZ (hw _ (List.mem_of_getElem? (i := 32) rfl))) (mvT hZ (hw _ (List.mem_of_getElem? (i := 6) rfl))) (mvT hZ (hw _ (List.mem_of_getElem? (i := 33) rfl))) (by decide) (backOf (W := 0) (rm_voL l Z a0 hw [] ((q &&& (255 : Int32)).toUInt32.toUInt16.toUInt32.toInt32) cs h0 n0 O0 u0 u1 (own_lt255 _)) hZ (hw _ (List.mem_of_getElem? (i := 33) rfl)) (hw _ (List.mem_of_getElem? (i := 6) rfl)) (by decide) (by decide)) (g := (mkF me_ 49 #[.val (.int (1 : Int32)), .val (.int q), .val (.int ((q &&& (255 : Int32)).toUInt32.toUInt16.toUInt32.toInt32)), .val (.int ((((q.toUInt32 >>> ((8 : Int32) &&& 31).toUInt32).toInt32) &&& (255 : Int32)).toUInt32.toUInt16.toUInt32.toInt32)), .val (.int ((((q.toUInt32 >>> ((16 : Int32) &&& 31).toUInt32).toInt32) &&& (255 : Int32)).toUInt32.toUInt16.toUInt32.toInt32))] [(.int ((q &&& (255 : Int32)).toUInt32.toUInt16.toUInt32.toInt32))])) rfl (by rw [hml]; rfl) (argsL := [(.int ((q &&& (255 : Int32)).toUInt32.toUInt16.toUInt32.toInt32))]) (rest := []) (lenOf pd_8 rfl) rfl (by show 2 * 0 + _ ≤ _; exact Nat.le_of_eq rfl) (hb hby d1_49) (fun _ _ => ⟨rfl, e0, (by decide : 0 + 2 ≤ _), (by decide : 0 + 5 ≤ _)⟩)
  dsimp only [Pt.U, Pt.locs, Pt.cells, Pt.slots] at X298 l298 y298 z298 st298 hQ298
  subst l298 y298 z298
  obtain ⟨s_298, b_298, k_298, rfl, Nq298, Kq298, w298_0, w298_1, w298_2, w298_3, w298_4, w298_5, w298_6⟩ := hQ298
  have N299 := Fr.app N0 Nq298
  obtain ⟨h298, e298⟩ : ∃ z, T298.heap = z := ⟨_, rfl⟩
  rw [e298] at Kq298 w298_3 w298_4 w298_5 w298_6
  have g300 : n0 ≤ s_298 := Nat.le_trans (own_old O0) w298_0
  have z301 : h0.size ≤ s_298 := Nat.le_trans K0.1 w298_0
  have g302 : n0 ≤ b_298 := Nat.le_trans (own_old O0) w298_1
  have z303 : h0.size ≤ b_298 := Nat.le_trans K0.1 w298_1
  have O304 := O0.keep Kq298 all0
  have K305 := K0.trans Kq298 all0
  refine gv st298 ?_
  show G (T298.setTop (mkF me_ 52 #[.val (.int (1 : Int32)), .val (.int q), .val (.int ((q &&& (255 : Int32)).toUInt32.toUInt16.toUInt32.toInt32)), .val (.int ((((q.toUInt32 >>> ((8 : Int32) &&& 31).toUInt32).toInt32) &&& (255 : Int32)).toUInt32.toUInt16.toUInt32.toInt32)), .val (.int ((((q.toUInt32 >>> ((16 : Int32) &&& 31).toUInt32).toInt32) &&& (255 : Int32)).toUInt32.toUInt16.toUInt32.toInt32))] [(.ref s_298)]))
  refine gf _ (own_ret X298 Bd.notSynchronized (v := some (.ref s_298)) (fun h => by rw [Bd.returns] at h; cases h) ?_ (by decide) (by decide) (fun fs hr => retOut X298 hx (t := (.object "java/lang/String")) Bd.returns rfl (Or.inr (Or.inr (Or.inr (Or.inr ⟨rfl, rfl, rfl⟩)))) (hb hby d1_52) hr))
  show Q_mk1 Z q cs h0 n0 _ T298.heap _
  rw [e298]
  exact ⟨s_298, rfl, N299, K305, w298_3⟩
theorem d1_53 : decode method_2_code 53 = .ok (.iload_n 0, 1) := by decide +kernel
theorem d1_54 : decode method_2_code 54 = .ok (.iconst 2, 1) := by decide +kernel
theorem d1_55 : decode method_2_code 55 = .ok (.if_icmp .ne 22, 3) := by decide +kernel
theorem d1_58 : decode method_2_code 58 = .ok (.new 7, 3) := by decide +kernel
theorem d1_61 : decode method_2_code 61 = .ok (.dup, 1) := by decide +kernel
theorem d1_62 : decode method_2_code 62 = .ok (.iconst 2, 1) := by decide +kernel
theorem d1_63 : decode method_2_code 63 = .ok (.newarray .char, 2) := by decide +kernel
theorem d1_65 : decode method_2_code 65 = .ok (.dup, 1) := by decide +kernel
theorem d1_66 : decode method_2_code 66 = .ok (.iconst 0, 1) := by decide +kernel
theorem d1_67 : decode method_2_code 67 = .ok (.iload_n 2, 1) := by decide +kernel
theorem d1_68 : decode method_2_code 68 = .ok (.castore, 1) := by decide +kernel
theorem d1_69 : decode method_2_code 69 = .ok (.dup, 1) := by decide +kernel
theorem d1_70 : decode method_2_code 70 = .ok (.iconst 1, 1) := by decide +kernel
theorem d1_71 : decode method_2_code 71 = .ok (.iload_n 3, 1) := by decide +kernel
theorem d1_72 : decode method_2_code 72 = .ok (.castore, 1) := by decide +kernel
theorem d1_73 : decode method_2_code 73 = .ok (.invokespecial 9, 3) := by decide +kernel
theorem d1_76 : decode method_2_code 76 = .ok (.areturn, 1) := by decide +kernel
def Q_mk2 (Z : State) (q : Int32) (cs : Int32) (h0 : Heap) (n0 : Nat) (v : Option Value) (h : Heap) (L : List Loc) : Prop := ∃ (s : Addr), v = some (.ref s) ∧ Fr n0 L ∧ Keep h0 h [] ∧ (Exa Z h s "java/lang/String")
set_option maxRecDepth 65536 in
set_option maxHeartbeats 40000000 in
theorem rm_mk2 (l : Launch) (Z : State) (a0 : Array Value) (hw : ∀ d ∈ tables_1, d.before a0 Z = true) (ws : List Jvm.Cond) (q : Int32) (cs : Int32) (h0 : Heap) (n0 : Nat) (O0 : Old Z n0 h0) (u0 : Sta Z Z.heap "java/lang/String" "COMPACT_STRINGS" "Z" (.int cs)) (u1 : ¬ (cs = (0 : Int32))) :
    MetFree l (⟨"com/example/slot1/slot1/balance/OptionsStringPinLaw", "make", "(II)Ljava/lang/String;"⟩ : MethodName) (head1 (Jvm.Cond.code (⟨"com/example/slot1/slot1/balance/OptionsStringPinLaw", "make", "(II)Ljava/lang/String;"⟩ : MethodName) method_2_code 5 (some (.object "java/lang/String")) :: ws) ({ frames := 4, cells := 3, slots := 8, locals := 66 } : Room)) (fun aV U => aV = #[(.int (2 : Int32)), (.int q)] ∧ Z.Warmed39 U.vm ∧ U.heap = h0) (fun _ _ _ _ _ => True) (fun _ U o U' => ∃ v L, o = .returned v ∧ Q_mk2 Z q cs h0 n0 v U'.heap L ∧ FrameEnd U o U' L ({ frames := 4, cells := 3, slots := 8, locals := 66 } : Room).cells ({ frames := 4, cells := 3, slots := 8, locals := 66 } : Room).slots) := by
  refine MetFree.of_bodySF (plainFor_of_name pn_3) hisR ?_
  intro pr_ en_ st_ me_ args below meth_ co_ s₁ Bd hml0 hP hK
  obtain ⟨rfl, hZ, hh⟩ := hP
  have hx := Bd.exec
  have hby := Bd.bytes
  have hml : co_.maxLocals = 5 := hml0
  have hown : st_.vm.findClass "com/example/slot1/slot1/balance/OptionsStringPinLaw" = some me_.cls := findClass_of_methodNamed Bd.named
  have hnm := (name_of_methodNamed Bd.named Bd.method).1
  have X0 : Stand pr_ l en_ ({ frames := 4, cells := 3, slots := 8, locals := 66 } : Room) st_ me_ #[(.int (2 : Int32)), (.int q)] below meth_ co_ s₁ [] 0 0 := Stand.of_body Bd
  have e0 : s₁.heap = h0 := by rw [← hh, Bd.state]; rfl
  have N0 := Fr.nil n0
  have K0 := Keep.refl h0 []
  obtain ⟨G, gv, gf, gb⟩ := own_G pr_.tables en_ below st_ (Q_mk2 Z q cs h0 n0) ({ frames := 4, cells := 3, slots := 8, locals := 66 } : Room).cells ({ frames := 4, cells := 3, slots := 8, locals := 66 } : Room).slots
  show own_Fin pr_.tables en_ below st_ (Q_mk2 Z q cs h0 n0) ({ frames := 4, cells := 3, slots := 8, locals := 66 } : Room).cells ({ frames := 4, cells := 3, slots := 8, locals := 66 } : Room).slots (s₁.setTop (entryFrame me_ #[(.int (2 : Int32)), (.int q)] 5))
  refine gb _ (gv (fun tQ kQ => castTop (ef_7 me_ (2 : Int32) q) kQ) ?_)
  show G (s₁.setTop (mkF me_ 0 #[.val (.int (2 : Int32)), .val (.int q), .unset, .unset, .unset] []))
  refine gv (fun tQ kQ => XS.iloadN X0.here hx rfl (hb hby d1_0) rfl kQ) ?_
  show G (s₁.setTop (mkF me_ 1 #[.val (.int (2 : Int32)), .val (.int q), .unset, .unset, .unset] [(.int q)]))
  refine gv (fun tQ kQ => XS.sipush X0.here hx rfl (hb hby d1_1) kQ) ?_
  show G (s₁.setTop (mkF me_ 4 #[.val (.int (2 : Int32)), .val (.int q), .unset, .unset, .unset] [(.int (255 : Int32)), (.int q)]))
  refine gv (fun tQ kQ => XS.iand X0.here hx rfl (hb hby d1_4) rfl kQ) ?_
  show G (s₁.setTop (mkF me_ 5 #[.val (.int (2 : Int32)), .val (.int q), .unset, .unset, .unset] [(.int (q &&& (255 : Int32)))]))
  refine gv (fun tQ kQ => XS.i2c X0.here hx rfl (hb hby d1_5) rfl kQ) ?_
  show G (s₁.setTop (mkF me_ 6 #[.val (.int (2 : Int32)), .val (.int q), .unset, .unset, .unset] [(.int ((q &&& (255 : Int32)).toUInt32.toUInt16.toUInt32.toInt32))]))
  refine gv (fun tQ kQ => XS.istoreN X0.here hx rfl (hb hby d1_6) rfl (l' := #[.val (.int (2 : Int32)), .val (.int q), .val (.int ((q &&& (255 : Int32)).toUInt32.toUInt16.toUInt32.toInt32)), .unset, .unset]) rfl kQ) ?_
  show G (s₁.setTop (mkF me_ 7 #[.val (.int (2 : Int32)), .val (.int q), .val (.int ((q &&& (255 : Int32)).toUInt32.toUInt16.toUInt32.toInt32)), .unset, .unset] []))
  refine gv (fun tQ kQ => XS.iloadN X0.here hx rfl (hb hby d1_7) rfl kQ) ?_
  show G (s₁.setTop (mkF me_ 8 #[.val (.int (2 : Int32)), .val (.int q), .val (.int ((q &&& (255 : Int32)).toUInt32.toUInt16.toUInt32.toInt32)), .unset, .unset] [(.int q)]))
  refine gv (fun tQ kQ => XS.bipush X0.here hx rfl (hb hby d1_8) kQ) ?_
  show G (s₁.setTop (mkF me_ 10 #[.val (.int (2 : Int32)), .val (.int q), .val (.int ((q &&& (255 : Int32)).toUInt32.toUInt16.toUInt32.toInt32)), .unset, .unset] [(.int (8 : Int32)), (.int q)]))
  refine gv (fun tQ kQ => XS.iushr X0.here hx rfl (hb hby d1_10) rfl kQ) ?_
  show G (s₁.setTop (mkF me_ 11 #[.val (.int (2 : Int32)), .val (.int q), .val (.int ((q &&& (255 : Int32)).toUInt32.toUInt16.toUInt32.toInt32)), .unset, .unset] [(.int ((q.toUInt32 >>> ((8 : Int32) &&& 31).toUInt32).toInt32))]))
  refine gv (fun tQ kQ => XS.sipush X0.here hx rfl (hb hby d1_11) kQ) ?_
  show G (s₁.setTop (mkF me_ 14 #[.val (.int (2 : Int32)), .val (.int q), .val (.int ((q &&& (255 : Int32)).toUInt32.toUInt16.toUInt32.toInt32)), .unset, .unset] [(.int (255 : Int32)), (.int ((q.toUInt32 >>> ((8 : Int32) &&& 31).toUInt32).toInt32))]))
  refine gv (fun tQ kQ => XS.iand X0.here hx rfl (hb hby d1_14) rfl kQ) ?_
  show G (s₁.setTop (mkF me_ 15 #[.val (.int (2 : Int32)), .val (.int q), .val (.int ((q &&& (255 : Int32)).toUInt32.toUInt16.toUInt32.toInt32)), .unset, .unset] [(.int (((q.toUInt32 >>> ((8 : Int32) &&& 31).toUInt32).toInt32) &&& (255 : Int32)))]))
  refine gv (fun tQ kQ => XS.i2c X0.here hx rfl (hb hby d1_15) rfl kQ) ?_
  show G (s₁.setTop (mkF me_ 16 #[.val (.int (2 : Int32)), .val (.int q), .val (.int ((q &&& (255 : Int32)).toUInt32.toUInt16.toUInt32.toInt32)), .unset, .unset] [(.int ((((q.toUInt32 >>> ((8 : Int32) &&& 31).toUInt32).toInt32) &&& (255 : Int32)).toUInt32.toUInt16.toUInt32.toInt32))]))
  refine gv (fun tQ kQ => XS.istoreN X0.here hx rfl (hb hby d1_16) rfl (l' := #[.val (.int (2 : Int32)), .val (.int q), .val (.int ((q &&& (255 : Int32)).toUInt32.toUInt16.toUInt32.toInt32)), .val (.int ((((q.toUInt32 >>> ((8 : Int32) &&& 31).toUInt32).toInt32) &&& (255 : Int32)).toUInt32.toUInt16.toUInt32.toInt32)), .unset]) rfl kQ) ?_
  show G (s₁.setTop (mkF me_ 17 #[.val (.int (2 : Int32)), .val (.int q), .val (.int ((q &&& (255 : Int32)).toUInt32.toUInt16.toUInt32.toInt32)), .val (.int ((((q.toUInt32 >>> ((8 : Int32) &&& 31).toUInt32).toInt32) &&& (255 : Int32)).toUInt32.toUInt16.toUInt32.toInt32)), .unset] []))
  refine gv (fun tQ kQ => XS.iloadN X0.here hx rfl (hb hby d1_17) rfl kQ) ?_
  show G (s₁.setTop (mkF me_ 18 #[.val (.int (2 : Int32)), .val (.int q), .val (.int ((q &&& (255 : Int32)).toUInt32.toUInt16.toUInt32.toInt32)), .val (.int ((((q.toUInt32 >>> ((8 : Int32) &&& 31).toUInt32).toInt32) &&& (255 : Int32)).toUInt32.toUInt16.toUInt32.toInt32)), .unset] [(.int q)]))
  refine gv (fun tQ kQ => XS.bipush X0.here hx rfl (hb hby d1_18) kQ) ?_
  show G (s₁.setTop (mkF me_ 20 #[.val (.int (2 : Int32)), .val (.int q), .val (.int ((q &&& (255 : Int32)).toUInt32.toUInt16.toUInt32.toInt32)), .val (.int ((((q.toUInt32 >>> ((8 : Int32) &&& 31).toUInt32).toInt32) &&& (255 : Int32)).toUInt32.toUInt16.toUInt32.toInt32)), .unset] [(.int (16 : Int32)), (.int q)]))
  refine gv (fun tQ kQ => XS.iushr X0.here hx rfl (hb hby d1_20) rfl kQ) ?_
  show G (s₁.setTop (mkF me_ 21 #[.val (.int (2 : Int32)), .val (.int q), .val (.int ((q &&& (255 : Int32)).toUInt32.toUInt16.toUInt32.toInt32)), .val (.int ((((q.toUInt32 >>> ((8 : Int32) &&& 31).toUInt32).toInt32) &&& (255 : Int32)).toUInt32.toUInt16.toUInt32.toInt32)), .unset] [(.int ((q.toUInt32 >>> ((16 : Int32) &&& 31).toUInt32).toInt32))]))
  refine gv (fun tQ kQ => XS.sipush X0.here hx rfl (hb hby d1_21) kQ) ?_
  show G (s₁.setTop (mkF me_ 24 #[.val (.int (2 : Int32)), .val (.int q), .val (.int ((q &&& (255 : Int32)).toUInt32.toUInt16.toUInt32.toInt32)), .val (.int ((((q.toUInt32 >>> ((8 : Int32) &&& 31).toUInt32).toInt32) &&& (255 : Int32)).toUInt32.toUInt16.toUInt32.toInt32)), .unset] [(.int (255 : Int32)), (.int ((q.toUInt32 >>> ((16 : Int32) &&& 31).toUInt32).toInt32))]))
  refine gv (fun tQ kQ => XS.iand X0.here hx rfl (hb hby d1_24) rfl kQ) ?_
  show G (s₁.setTop (mkF me_ 25 #[.val (.int (2 : Int32)), .val (.int q), .val (.int ((q &&& (255 : Int32)).toUInt32.toUInt16.toUInt32.toInt32)), .val (.int ((((q.toUInt32 >>> ((8 : Int32) &&& 31).toUInt32).toInt32) &&& (255 : Int32)).toUInt32.toUInt16.toUInt32.toInt32)), .unset] [(.int (((q.toUInt32 >>> ((16 : Int32) &&& 31).toUInt32).toInt32) &&& (255 : Int32)))]))
  refine gv (fun tQ kQ => XS.i2c X0.here hx rfl (hb hby d1_25) rfl kQ) ?_
  show G (s₁.setTop (mkF me_ 26 #[.val (.int (2 : Int32)), .val (.int q), .val (.int ((q &&& (255 : Int32)).toUInt32.toUInt16.toUInt32.toInt32)), .val (.int ((((q.toUInt32 >>> ((8 : Int32) &&& 31).toUInt32).toInt32) &&& (255 : Int32)).toUInt32.toUInt16.toUInt32.toInt32)), .unset] [(.int ((((q.toUInt32 >>> ((16 : Int32) &&& 31).toUInt32).toInt32) &&& (255 : Int32)).toUInt32.toUInt16.toUInt32.toInt32))]))
  refine gv (fun tQ kQ => XS.istore X0.here hx rfl (hb hby d1_26) rfl (l' := #[.val (.int (2 : Int32)), .val (.int q), .val (.int ((q &&& (255 : Int32)).toUInt32.toUInt16.toUInt32.toInt32)), .val (.int ((((q.toUInt32 >>> ((8 : Int32) &&& 31).toUInt32).toInt32) &&& (255 : Int32)).toUInt32.toUInt16.toUInt32.toInt32)), .val (.int ((((q.toUInt32 >>> ((16 : Int32) &&& 31).toUInt32).toInt32) &&& (255 : Int32)).toUInt32.toUInt16.toUInt32.toInt32))]) rfl kQ) ?_
  show G (s₁.setTop (mkF me_ 28 #[.val (.int (2 : Int32)), .val (.int q), .val (.int ((q &&& (255 : Int32)).toUInt32.toUInt16.toUInt32.toInt32)), .val (.int ((((q.toUInt32 >>> ((8 : Int32) &&& 31).toUInt32).toInt32) &&& (255 : Int32)).toUInt32.toUInt16.toUInt32.toInt32)), .val (.int ((((q.toUInt32 >>> ((16 : Int32) &&& 31).toUInt32).toInt32) &&& (255 : Int32)).toUInt32.toUInt16.toUInt32.toInt32))] []))
  refine gv (fun tQ kQ => XS.iloadN X0.here hx rfl (hb hby d1_28) rfl kQ) ?_
  show G (s₁.setTop (mkF me_ 29 #[.val (.int (2 : Int32)), .val (.int q), .val (.int ((q &&& (255 : Int32)).toUInt32.toUInt16.toUInt32.toInt32)), .val (.int ((((q.toUInt32 >>> ((8 : Int32) &&& 31).toUInt32).toInt32) &&& (255 : Int32)).toUInt32.toUInt16.toUInt32.toInt32)), .val (.int ((((q.toUInt32 >>> ((16 : Int32) &&& 31).toUInt32).toInt32) &&& (255 : Int32)).toUInt32.toUInt16.toUInt32.toInt32))] [(.int (2 : Int32))]))
  refine gv (fun tQ kQ => XS.ifYes X0.here hx rfl (pc0 := 29) (pc' := 43) rfl (hb hby d1_29) rfl ((if0 _ _).trans (feq (by decide : ¬ ((2 : Int32) = (0 : Int32)))).2) (by decide) (by decide) kQ) ?_
  show G (s₁.setTop (mkF me_ 43 #[.val (.int (2 : Int32)), .val (.int q), .val (.int ((q &&& (255 : Int32)).toUInt32.toUInt16.toUInt32.toInt32)), .val (.int ((((q.toUInt32 >>> ((8 : Int32) &&& 31).toUInt32).toInt32) &&& (255 : Int32)).toUInt32.toUInt16.toUInt32.toInt32)), .val (.int ((((q.toUInt32 >>> ((16 : Int32) &&& 31).toUInt32).toInt32) &&& (255 : Int32)).toUInt32.toUInt16.toUInt32.toInt32))] []))
  refine gv (fun tQ kQ => XS.iloadN X0.here hx rfl (hb hby d1_43) rfl kQ) ?_
  show G (s₁.setTop (mkF me_ 44 #[.val (.int (2 : Int32)), .val (.int q), .val (.int ((q &&& (255 : Int32)).toUInt32.toUInt16.toUInt32.toInt32)), .val (.int ((((q.toUInt32 >>> ((8 : Int32) &&& 31).toUInt32).toInt32) &&& (255 : Int32)).toUInt32.toUInt16.toUInt32.toInt32)), .val (.int ((((q.toUInt32 >>> ((16 : Int32) &&& 31).toUInt32).toInt32) &&& (255 : Int32)).toUInt32.toUInt16.toUInt32.toInt32))] [(.int (2 : Int32))]))
  refine gv (fun tQ kQ => XS.iconst X0.here hx rfl (hb hby d1_44) kQ) ?_
  show G (s₁.setTop (mkF me_ 45 #[.val (.int (2 : Int32)), .val (.int q), .val (.int ((q &&& (255 : Int32)).toUInt32.toUInt16.toUInt32.toInt32)), .val (.int ((((q.toUInt32 >>> ((8 : Int32) &&& 31).toUInt32).toInt32) &&& (255 : Int32)).toUInt32.toUInt16.toUInt32.toInt32)), .val (.int ((((q.toUInt32 >>> ((16 : Int32) &&& 31).toUInt32).toInt32) &&& (255 : Int32)).toUInt32.toUInt16.toUInt32.toInt32))] [(.int (1 : Int32)), (.int (2 : Int32))]))
  refine gv (fun tQ kQ => XS.icmpYes X0.here hx rfl (pc0 := 45) (pc' := 53) rfl (hb hby d1_45) rfl (feq (by decide : ¬ ((2 : Int32) = (1 : Int32)))).2 (by decide) (by decide) kQ) ?_
  show G (s₁.setTop (mkF me_ 53 #[.val (.int (2 : Int32)), .val (.int q), .val (.int ((q &&& (255 : Int32)).toUInt32.toUInt16.toUInt32.toInt32)), .val (.int ((((q.toUInt32 >>> ((8 : Int32) &&& 31).toUInt32).toInt32) &&& (255 : Int32)).toUInt32.toUInt16.toUInt32.toInt32)), .val (.int ((((q.toUInt32 >>> ((16 : Int32) &&& 31).toUInt32).toInt32) &&& (255 : Int32)).toUInt32.toUInt16.toUInt32.toInt32))] []))
  refine gv (fun tQ kQ => XS.iloadN X0.here hx rfl (hb hby d1_53) rfl kQ) ?_
  show G (s₁.setTop (mkF me_ 54 #[.val (.int (2 : Int32)), .val (.int q), .val (.int ((q &&& (255 : Int32)).toUInt32.toUInt16.toUInt32.toInt32)), .val (.int ((((q.toUInt32 >>> ((8 : Int32) &&& 31).toUInt32).toInt32) &&& (255 : Int32)).toUInt32.toUInt16.toUInt32.toInt32)), .val (.int ((((q.toUInt32 >>> ((16 : Int32) &&& 31).toUInt32).toInt32) &&& (255 : Int32)).toUInt32.toUInt16.toUInt32.toInt32))] [(.int (2 : Int32))]))
  refine gv (fun tQ kQ => XS.iconst X0.here hx rfl (hb hby d1_54) kQ) ?_
  show G (s₁.setTop (mkF me_ 55 #[.val (.int (2 : Int32)), .val (.int q), .val (.int ((q &&& (255 : Int32)).toUInt32.toUInt16.toUInt32.toInt32)), .val (.int ((((q.toUInt32 >>> ((8 : Int32) &&& 31).toUInt32).toInt32) &&& (255 : Int32)).toUInt32.toUInt16.toUInt32.toInt32)), .val (.int ((((q.toUInt32 >>> ((16 : Int32) &&& 31).toUInt32).toInt32) &&& (255 : Int32)).toUInt32.toUInt16.toUInt32.toInt32))] [(.int (2 : Int32)), (.int (2 : Int32))]))
  refine gv (fun tQ kQ => XS.icmpNo X0.here hx rfl (hb hby d1_55) rfl (teq (by decide : (2 : Int32) = (2 : Int32))).2 kQ) ?_
  show G (s₁.setTop (mkF me_ 58 #[.val (.int (2 : Int32)), .val (.int q), .val (.int ((q &&& (255 : Int32)).toUInt32.toUInt16.toUInt32.toInt32)), .val (.int ((((q.toUInt32 >>> ((8 : Int32) &&& 31).toUInt32).toInt32) &&& (255 : Int32)).toUInt32.toUInt16.toUInt32.toInt32)), .val (.int ((((q.toUInt32 >>> ((16 : Int32) &&& 31).toUInt32).toInt32) &&& (255 : Int32)).toUInt32.toUInt16.toUInt32.toInt32))] []))
  obtain ⟨T306, h306, X306, e306, E306, A306, D306, -, st306⟩ := newO X0 hx hZ hown (hw _ (List.mem_of_getElem? (i := 4) rfl)) (hw _ (List.mem_of_getElem? (i := 5) rfl)) (hw _ (List.mem_of_getElem? (i := 6) rfl)) e0 (g := (mkF me_ 58 #[.val (.int (2 : Int32)), .val (.int q), .val (.int ((q &&& (255 : Int32)).toUInt32.toUInt16.toUInt32.toInt32)), .val (.int ((((q.toUInt32 >>> ((8 : Int32) &&& 31).toUInt32).toInt32) &&& (255 : Int32)).toUInt32.toUInt16.toUInt32.toInt32)), .val (.int ((((q.toUInt32 >>> ((16 : Int32) &&& 31).toUInt32).toInt32) &&& (255 : Int32)).toUInt32.toUInt16.toUInt32.toInt32))] [])) rfl (hb hby d1_58) (by decide) (by decide)
  obtain ⟨b306, g306⟩ : ∃ z, z = h0.size := ⟨_, rfl⟩
  rw [← g306] at A306 D306 st306
  refine gv st306 ?_
  have g307 : n0 ≤ b306 := Nat.le_trans (own_old O0) (Nat.le_of_eq g306.symm)
  have z308 : h0.size ≤ b306 := Nat.le_trans K0.1 (Nat.le_of_eq g306.symm)
  have O309 := O0.ext E306
  have K310 := K0.ext E306
  have f311 : Fld Z h306 b306 "java/lang/String" "value" "[B" .null := D306 (Or.inr (hw _ (List.mem_of_getElem? (i := 20) rfl))) (ty := (.array .byte)) (by decide)
  have f312 : Fld Z h306 b306 "java/lang/String" "coder" "B" (.int (0 : Int32)) := D306 (Or.inr (hw _ (List.mem_of_getElem? (i := 21) rfl))) (ty := .byte) (by decide)
  show G (T306.setTop (mkF me_ 61 #[.val (.int (2 : Int32)), .val (.int q), .val (.int ((q &&& (255 : Int32)).toUInt32.toUInt16.toUInt32.toInt32)), .val (.int ((((q.toUInt32 >>> ((8 : Int32) &&& 31).toUInt32).toInt32) &&& (255 : Int32)).toUInt32.toUInt16.toUInt32.toInt32)), .val (.int ((((q.toUInt32 >>> ((16 : Int32) &&& 31).toUInt32).toInt32) &&& (255 : Int32)).toUInt32.toUInt16.toUInt32.toInt32))] [(.ref b306)]))
  refine gv (fun tQ kQ => XS.dup X306.here hx rfl (hb hby d1_61) rfl rfl kQ) ?_
  show G (T306.setTop (mkF me_ 62 #[.val (.int (2 : Int32)), .val (.int q), .val (.int ((q &&& (255 : Int32)).toUInt32.toUInt16.toUInt32.toInt32)), .val (.int ((((q.toUInt32 >>> ((8 : Int32) &&& 31).toUInt32).toInt32) &&& (255 : Int32)).toUInt32.toUInt16.toUInt32.toInt32)), .val (.int ((((q.toUInt32 >>> ((16 : Int32) &&& 31).toUInt32).toInt32) &&& (255 : Int32)).toUInt32.toUInt16.toUInt32.toInt32))] [(.ref b306), (.ref b306)]))
  refine gv (fun tQ kQ => XS.iconst X306.here hx rfl (hb hby d1_62) kQ) ?_
  show G (T306.setTop (mkF me_ 63 #[.val (.int (2 : Int32)), .val (.int q), .val (.int ((q &&& (255 : Int32)).toUInt32.toUInt16.toUInt32.toInt32)), .val (.int ((((q.toUInt32 >>> ((8 : Int32) &&& 31).toUInt32).toInt32) &&& (255 : Int32)).toUInt32.toUInt16.toUInt32.toInt32)), .val (.int ((((q.toUInt32 >>> ((16 : Int32) &&& 31).toUInt32).toInt32) &&& (255 : Int32)).toUInt32.toUInt16.toUInt32.toInt32))] [(.int (2 : Int32)), (.ref b306), (.ref b306)]))
  obtain ⟨T313, h313, k313, X313, e313, E313, A313, st313⟩ := newP X306 hx hZ (hw _ (List.mem_of_getElem? (i := 7) rfl)) e306 (g := (mkF me_ 63 #[.val (.int (2 : Int32)), .val (.int q), .val (.int ((q &&& (255 : Int32)).toUInt32.toUInt16.toUInt32.toInt32)), .val (.int ((((q.toUInt32 >>> ((8 : Int32) &&& 31).toUInt32).toInt32) &&& (255 : Int32)).toUInt32.toUInt16.toUInt32.toInt32)), .val (.int ((((q.toUInt32 >>> ((16 : Int32) &&& 31).toUInt32).toInt32) &&& (255 : Int32)).toUInt32.toUInt16.toUInt32.toInt32))] [(.int (2 : Int32)), (.ref b306), (.ref b306)])) rfl (hb hby d1_63) rfl (by decide) (cap := 2) (by decide) (by decide) (by decide) (by decide)
  obtain ⟨b313, g313⟩ : ∃ z, z = h306.size := ⟨_, rfl⟩
  rw [← g313] at A313 st313
  refine gv st313 ?_
  have ne314 : b306 ≠ b313 := Nat.ne_of_lt (Nat.lt_of_lt_of_le A306.lt (Nat.le_of_eq g313.symm))
  have g315 : n0 ≤ b313 := Nat.le_trans (own_old O309) (Nat.le_of_eq g313.symm)
  have z316 : h0.size ≤ b313 := Nat.le_trans K310.1 (Nat.le_of_eq g313.symm)
  have f317 : Exa Z h313 b306 "java/lang/String" := A306.ext E313
  have f318 : Fld Z h313 b306 "java/lang/String" "value" "[B" .null := f311.ext E313
  have f319 : Fld Z h313 b306 "java/lang/String" "coder" "B" (.int (0 : Int32)) := f312.ext E313
  have O320 := O309.ext E313
  have K321 := K310.ext E313
  have V313 : Arv Z h313 b313 k313 .char (2 : Int32) [(.int (0 : Int32)), (.int (0 : Int32))] (.int (0 : Int32)) := (Arv.new A313 (by decide)).pad (pad_rep [] (.int (0 : Int32)) 2)
  show G (T313.setTop (mkF me_ 65 #[.val (.int (2 : Int32)), .val (.int q), .val (.int ((q &&& (255 : Int32)).toUInt32.toUInt16.toUInt32.toInt32)), .val (.int ((((q.toUInt32 >>> ((8 : Int32) &&& 31).toUInt32).toInt32) &&& (255 : Int32)).toUInt32.toUInt16.toUInt32.toInt32)), .val (.int ((((q.toUInt32 >>> ((16 : Int32) &&& 31).toUInt32).toInt32) &&& (255 : Int32)).toUInt32.toUInt16.toUInt32.toInt32))] [(.ref b313), (.ref b306), (.ref b306)]))
  refine gv (fun tQ kQ => XS.dup X313.here hx rfl (hb hby d1_65) rfl rfl kQ) ?_
  show G (T313.setTop (mkF me_ 66 #[.val (.int (2 : Int32)), .val (.int q), .val (.int ((q &&& (255 : Int32)).toUInt32.toUInt16.toUInt32.toInt32)), .val (.int ((((q.toUInt32 >>> ((8 : Int32) &&& 31).toUInt32).toInt32) &&& (255 : Int32)).toUInt32.toUInt16.toUInt32.toInt32)), .val (.int ((((q.toUInt32 >>> ((16 : Int32) &&& 31).toUInt32).toInt32) &&& (255 : Int32)).toUInt32.toUInt16.toUInt32.toInt32))] [(.ref b313), (.ref b313), (.ref b306), (.ref b306)]))
  refine gv (fun tQ kQ => XS.iconst X313.here hx rfl (hb hby d1_66) kQ) ?_
  show G (T313.setTop (mkF me_ 67 #[.val (.int (2 : Int32)), .val (.int q), .val (.int ((q &&& (255 : Int32)).toUInt32.toUInt16.toUInt32.toInt32)), .val (.int ((((q.toUInt32 >>> ((8 : Int32) &&& 31).toUInt32).toInt32) &&& (255 : Int32)).toUInt32.toUInt16.toUInt32.toInt32)), .val (.int ((((q.toUInt32 >>> ((16 : Int32) &&& 31).toUInt32).toInt32) &&& (255 : Int32)).toUInt32.toUInt16.toUInt32.toInt32))] [(.int (0 : Int32)), (.ref b313), (.ref b313), (.ref b306), (.ref b306)]))
  refine gv (fun tQ kQ => XS.iloadN X313.here hx rfl (hb hby d1_67) rfl kQ) ?_
  show G (T313.setTop (mkF me_ 68 #[.val (.int (2 : Int32)), .val (.int q), .val (.int ((q &&& (255 : Int32)).toUInt32.toUInt16.toUInt32.toInt32)), .val (.int ((((q.toUInt32 >>> ((8 : Int32) &&& 31).toUInt32).toInt32) &&& (255 : Int32)).toUInt32.toUInt16.toUInt32.toInt32)), .val (.int ((((q.toUInt32 >>> ((16 : Int32) &&& 31).toUInt32).toInt32) &&& (255 : Int32)).toUInt32.toUInt16.toUInt32.toInt32))] [(.int ((q &&& (255 : Int32)).toUInt32.toUInt16.toUInt32.toInt32)), (.int (0 : Int32)), (.ref b313), (.ref b313), (.ref b306), (.ref b306)]))
  obtain ⟨cl322, Ar322, q322, S322, n322, H322, G322⟩ := (id V313)
  have in322 : ¬ ((0 : Int32) < 0 ∨ cl322.slots.size ≤ ((0 : Int32)).toNatClampNeg) := inb_of S322 ⟨by decide, by decide⟩
  obtain ⟨T322, h322, X322, e322, W322, st322⟩ := stC X313 hx hZ e313 Ar322 (j := (0 : Int32)) in322 (g := (mkF me_ 68 #[.val (.int (2 : Int32)), .val (.int q), .val (.int ((q &&& (255 : Int32)).toUInt32.toUInt16.toUInt32.toInt32)), .val (.int ((((q.toUInt32 >>> ((8 : Int32) &&& 31).toUInt32).toInt32) &&& (255 : Int32)).toUInt32.toUInt16.toUInt32.toInt32)), .val (.int ((((q.toUInt32 >>> ((16 : Int32) &&& 31).toUInt32).toInt32) &&& (255 : Int32)).toUInt32.toUInt16.toUInt32.toInt32))] [(.int ((q &&& (255 : Int32)).toUInt32.toUInt16.toUInt32.toInt32)), (.int (0 : Int32)), (.ref b313), (.ref b313), (.ref b306), (.ref b306)])) rfl rfl (hb hby d1_68)
  have W322 : Wr h313 h322 b313 ((0 : Int32)).toNatClampNeg (.int ((q &&& (255 : Int32)).toUInt32.toUInt16.toUInt32.toInt32)) := by have z := W322; rw [(own_narC _)] at z; exact z
  refine gv st322 ?_
  have f324 : Exa Z h322 b306 "java/lang/String" := f317.wr W322
  have f325 : Fld Z h322 b306 "java/lang/String" "value" "[B" .null := f318.other W322 (Or.inl ne314)
  have f326 : Fld Z h322 b306 "java/lang/String" "coder" "B" (.int (0 : Int32)) := f319.other W322 (Or.inl ne314)
  have O327 := O320.wr W322 g315
  have K328 := K321.wr W322 (Or.inr z316)
  have N329 := Fr.snoc X322 N0 g315
  have f323 : Arv Z h322 b313 k313 .char (2 : Int32) [(.int ((q &&& (255 : Int32)).toUInt32.toUInt16.toUInt32.toInt32)), (.int (0 : Int32))] (.int (0 : Int32)) := Arv.set Ar322 q322 S322 n322 H322 G322 (fits_nar_char _) W322 0 rfl (Nat.le_of_ble_eq_true rfl)
  show G (T322.setTop (mkF me_ 69 #[.val (.int (2 : Int32)), .val (.int q), .val (.int ((q &&& (255 : Int32)).toUInt32.toUInt16.toUInt32.toInt32)), .val (.int ((((q.toUInt32 >>> ((8 : Int32) &&& 31).toUInt32).toInt32) &&& (255 : Int32)).toUInt32.toUInt16.toUInt32.toInt32)), .val (.int ((((q.toUInt32 >>> ((16 : Int32) &&& 31).toUInt32).toInt32) &&& (255 : Int32)).toUInt32.toUInt16.toUInt32.toInt32))] [(.ref b313), (.ref b306), (.ref b306)]))
  refine gv (fun tQ kQ => XS.dup X322.here hx rfl (hb hby d1_69) rfl rfl kQ) ?_
  show G (T322.setTop (mkF me_ 70 #[.val (.int (2 : Int32)), .val (.int q), .val (.int ((q &&& (255 : Int32)).toUInt32.toUInt16.toUInt32.toInt32)), .val (.int ((((q.toUInt32 >>> ((8 : Int32) &&& 31).toUInt32).toInt32) &&& (255 : Int32)).toUInt32.toUInt16.toUInt32.toInt32)), .val (.int ((((q.toUInt32 >>> ((16 : Int32) &&& 31).toUInt32).toInt32) &&& (255 : Int32)).toUInt32.toUInt16.toUInt32.toInt32))] [(.ref b313), (.ref b313), (.ref b306), (.ref b306)]))
  refine gv (fun tQ kQ => XS.iconst X322.here hx rfl (hb hby d1_70) kQ) ?_
  show G (T322.setTop (mkF me_ 71 #[.val (.int (2 : Int32)), .val (.int q), .val (.int ((q &&& (255 : Int32)).toUInt32.toUInt16.toUInt32.toInt32)), .val (.int ((((q.toUInt32 >>> ((8 : Int32) &&& 31).toUInt32).toInt32) &&& (255 : Int32)).toUInt32.toUInt16.toUInt32.toInt32)), .val (.int ((((q.toUInt32 >>> ((16 : Int32) &&& 31).toUInt32).toInt32) &&& (255 : Int32)).toUInt32.toUInt16.toUInt32.toInt32))] [(.int (1 : Int32)), (.ref b313), (.ref b313), (.ref b306), (.ref b306)]))
  refine gv (fun tQ kQ => XS.iloadN X322.here hx rfl (hb hby d1_71) rfl kQ) ?_
  show G (T322.setTop (mkF me_ 72 #[.val (.int (2 : Int32)), .val (.int q), .val (.int ((q &&& (255 : Int32)).toUInt32.toUInt16.toUInt32.toInt32)), .val (.int ((((q.toUInt32 >>> ((8 : Int32) &&& 31).toUInt32).toInt32) &&& (255 : Int32)).toUInt32.toUInt16.toUInt32.toInt32)), .val (.int ((((q.toUInt32 >>> ((16 : Int32) &&& 31).toUInt32).toInt32) &&& (255 : Int32)).toUInt32.toUInt16.toUInt32.toInt32))] [(.int ((((q.toUInt32 >>> ((8 : Int32) &&& 31).toUInt32).toInt32) &&& (255 : Int32)).toUInt32.toUInt16.toUInt32.toInt32)), (.int (1 : Int32)), (.ref b313), (.ref b313), (.ref b306), (.ref b306)]))
  obtain ⟨cl330, Ar330, q330, S330, n330, H330, G330⟩ := (id f323)
  have in330 : ¬ ((1 : Int32) < 0 ∨ cl330.slots.size ≤ ((1 : Int32)).toNatClampNeg) := inb_of S330 ⟨by decide, by decide⟩
  obtain ⟨T330, h330, X330, e330, W330, st330⟩ := stC X322 hx hZ e322 Ar330 (j := (1 : Int32)) in330 (g := (mkF me_ 72 #[.val (.int (2 : Int32)), .val (.int q), .val (.int ((q &&& (255 : Int32)).toUInt32.toUInt16.toUInt32.toInt32)), .val (.int ((((q.toUInt32 >>> ((8 : Int32) &&& 31).toUInt32).toInt32) &&& (255 : Int32)).toUInt32.toUInt16.toUInt32.toInt32)), .val (.int ((((q.toUInt32 >>> ((16 : Int32) &&& 31).toUInt32).toInt32) &&& (255 : Int32)).toUInt32.toUInt16.toUInt32.toInt32))] [(.int ((((q.toUInt32 >>> ((8 : Int32) &&& 31).toUInt32).toInt32) &&& (255 : Int32)).toUInt32.toUInt16.toUInt32.toInt32)), (.int (1 : Int32)), (.ref b313), (.ref b313), (.ref b306), (.ref b306)])) rfl rfl (hb hby d1_72)
  have W330 : Wr h322 h330 b313 ((1 : Int32)).toNatClampNeg (.int ((((q.toUInt32 >>> ((8 : Int32) &&& 31).toUInt32).toInt32) &&& (255 : Int32)).toUInt32.toUInt16.toUInt32.toInt32)) := by have z := W330; rw [(own_narC _)] at z; exact z
  refine gv st330 ?_
  have f332 : Exa Z h330 b306 "java/lang/String" := f324.wr W330
  have f333 : Fld Z h330 b306 "java/lang/String" "value" "[B" .null := f325.other W330 (Or.inl ne314)
  have f334 : Fld Z h330 b306 "java/lang/String" "coder" "B" (.int (0 : Int32)) := f326.other W330 (Or.inl ne314)
  have O335 := O327.wr W330 g315
  have K336 := K328.wr W330 (Or.inr z316)
  have N337 := Fr.snoc X330 N329 g315
  have f331 : Arv Z h330 b313 k313 .char (2 : Int32) [(.int ((q &&& (255 : Int32)).toUInt32.toUInt16.toUInt32.toInt32)), (.int ((((q.toUInt32 >>> ((8 : Int32) &&& 31).toUInt32).toInt32) &&& (255 : Int32)).toUInt32.toUInt16.toUInt32.toInt32))] (.int (0 : Int32)) := Arv.set Ar330 q330 S330 n330 H330 G330 (fits_nar_char _) W330 1 rfl (Nat.le_of_ble_eq_true rfl)
  show G (T330.setTop (mkF me_ 73 #[.val (.int (2 : Int32)), .val (.int q), .val (.int ((q &&& (255 : Int32)).toUInt32.toUInt16.toUInt32.toInt32)), .val (.int ((((q.toUInt32 >>> ((8 : Int32) &&& 31).toUInt32).toInt32) &&& (255 : Int32)).toUInt32.toUInt16.toUInt32.toInt32)), .val (.int ((((q.toUInt32 >>> ((16 : Int32) &&& 31).toUInt32).toInt32) &&& (255 : Int32)).toUInt32.toUInt16.toUInt32.toInt32))] [(.ref b313), (.ref b306), (.ref b306)]))
  obtain ⟨_, _, ⟨T338, L338, k338, n338⟩, -, X338, ⟨Lc338, hQ338, l338, y338, z338⟩, st338⟩ := X330.specialBack hx (y := (⟨"java/lang/String", "<init>", "([C)V"⟩ : MethodName)) rfl hown (mvT hZ (hw _ (List.mem_of_getElem? (i := 8) rfl))) (mvT hZ (hw _ (List.mem_of_getElem? (i := 9) rfl))) (mvT hZ (hw _ (List.mem_of_getElem? (i := 10) rfl))) (by decide) (backOf (W := 1) (rm_sc2 l Z a0 hw [] b306 b313 k313 ((q &&& (255 : Int32)).toUInt32.toUInt16.toUInt32.toInt32) ((((q.toUInt32 >>> ((8 : Int32) &&& 31).toUInt32).toInt32) &&& (255 : Int32)).toUInt32.toUInt16.toUInt32.toInt32) cs h330 n0 O335 u0 u1 (own_lt255 _) (own_lt255 _) f332 f333 f334 g307 f331 ne314) hZ (hw _ (List.mem_of_getElem? (i := 10) rfl)) (hw _ (List.mem_of_getElem? (i := 6) rfl)) (by decide) (by decide)) (g := (mkF me_ 73 #[.val (.int (2 : Int32)), .val (.int q), .val (.int ((q &&& (255 : Int32)).toUInt32.toUInt16.toUInt32.toInt32)), .val (.int ((((q.toUInt32 >>> ((8 : Int32) &&& 31).toUInt32).toInt32) &&& (255 : Int32)).toUInt32.toUInt16.toUInt32.toInt32)), .val (.int ((((q.toUInt32 >>> ((16 : Int32) &&& 31).toUInt32).toInt32) &&& (255 : Int32)).toUInt32.toUInt16.toUInt32.toInt32))] [(.ref b313), (.ref b306), (.ref b306)])) rfl (by rw [hml]; rfl) (Steps.refl _) (a := b306) (argsL := [(.ref b313)]) (rest := [(.ref b306)]) (lenOf pd_7 rfl) rfl (by show 2 * 0 + _ ≤ _; exact Nat.le_of_eq rfl) (hb hby d1_73) (fun _ _ => ⟨rfl, e330, (by decide : 2 + 1 ≤ _), (by decide : 6 + 2 ≤ _)⟩)
  dsimp only [Pt.U, Pt.locs, Pt.cells, Pt.slots] at X338 l338 y338 z338 st338 hQ338
  subst l338 y338 z338
  obtain ⟨b_338, k_338, rfl, Nq338, Kq338, w338_0, w338_1, w338_2, w338_3, w338_4⟩ := hQ338
  have N339 := Fr.app N337 Nq338
  obtain ⟨h338, e338⟩ : ∃ z, T338.heap = z := ⟨_, rfl⟩
  rw [e338] at Kq338 w338_1 w338_2 w338_3 w338_4
  have ne340 : b306 ≠ b_338 := Nat.ne_of_lt (Nat.lt_of_lt_of_le f332.lt w338_0)
  have ne341 : b313 ≠ b_338 := Nat.ne_of_lt (Nat.lt_of_lt_of_le f331.lt w338_0)
  have g342 : n0 ≤ b_338 := Nat.le_trans (own_old O335) w338_0
  have z343 : h0.size ≤ b_338 := Nat.le_trans K336.1 w338_0
  have f344 : Exa Z h338 b306 "java/lang/String" := f332.keep Kq338
  have f345 : Arv Z h338 b313 k313 .char (2 : Int32) [(.int ((q &&& (255 : Int32)).toUInt32.toUInt16.toUInt32.toInt32)), (.int ((((q.toUInt32 >>> ((8 : Int32) &&& 31).toUInt32).toInt32) &&& (255 : Int32)).toUInt32.toUInt16.toUInt32.toInt32))] (.int (0 : Int32)) := f331.keep Kq338 (ninS (Ne.symm ne314) nin0)
  have O346 := O335.keep Kq338 (allS g307 all0)
  have K347 := K336.trans Kq338 (allS (Or.inr z308) all0)
  refine gv (fun tQ kQ => st338.trans kQ) ?_
  show G (T338.setTop (mkF me_ 76 #[.val (.int (2 : Int32)), .val (.int q), .val (.int ((q &&& (255 : Int32)).toUInt32.toUInt16.toUInt32.toInt32)), .val (.int ((((q.toUInt32 >>> ((8 : Int32) &&& 31).toUInt32).toInt32) &&& (255 : Int32)).toUInt32.toUInt16.toUInt32.toInt32)), .val (.int ((((q.toUInt32 >>> ((16 : Int32) &&& 31).toUInt32).toInt32) &&& (255 : Int32)).toUInt32.toUInt16.toUInt32.toInt32))] [(.ref b306)]))
  refine gf _ (own_ret X338 Bd.notSynchronized (v := some (.ref b306)) (fun h => by rw [Bd.returns] at h; cases h) ?_ (by decide) (by decide) (fun fs hr => retOut X338 hx (t := (.object "java/lang/String")) Bd.returns rfl (Or.inr (Or.inr (Or.inr (Or.inr ⟨rfl, rfl, rfl⟩)))) (hb hby d1_76) hr))
  show Q_mk2 Z q cs h0 n0 _ T338.heap _
  rw [e338]
  exact ⟨b306, rfl, N339, K347, w338_1⟩
theorem d1_77 : decode method_2_code 77 = .ok (.new 7, 3) := by decide +kernel
theorem d1_80 : decode method_2_code 80 = .ok (.dup, 1) := by decide +kernel
theorem d1_81 : decode method_2_code 81 = .ok (.iconst 3, 1) := by decide +kernel
theorem d1_82 : decode method_2_code 82 = .ok (.newarray .char, 2) := by decide +kernel
theorem d1_84 : decode method_2_code 84 = .ok (.dup, 1) := by decide +kernel
theorem d1_85 : decode method_2_code 85 = .ok (.iconst 0, 1) := by decide +kernel
theorem d1_86 : decode method_2_code 86 = .ok (.iload_n 2, 1) := by decide +kernel
theorem d1_87 : decode method_2_code 87 = .ok (.castore, 1) := by decide +kernel
theorem d1_88 : decode method_2_code 88 = .ok (.dup, 1) := by decide +kernel
theorem d1_89 : decode method_2_code 89 = .ok (.iconst 1, 1) := by decide +kernel
theorem d1_90 : decode method_2_code 90 = .ok (.iload_n 3, 1) := by decide +kernel
theorem d1_91 : decode method_2_code 91 = .ok (.castore, 1) := by decide +kernel
theorem d1_92 : decode method_2_code 92 = .ok (.dup, 1) := by decide +kernel
theorem d1_93 : decode method_2_code 93 = .ok (.iconst 2, 1) := by decide +kernel
theorem d1_94 : decode method_2_code 94 = .ok (.iload 4, 2) := by decide +kernel
theorem d1_96 : decode method_2_code 96 = .ok (.castore, 1) := by decide +kernel
theorem d1_97 : decode method_2_code 97 = .ok (.invokespecial 9, 3) := by decide +kernel
theorem d1_100 : decode method_2_code 100 = .ok (.areturn, 1) := by decide +kernel
def Q_mk3 (Z : State) (q : Int32) (cs : Int32) (h0 : Heap) (n0 : Nat) (v : Option Value) (h : Heap) (L : List Loc) : Prop := ∃ (s : Addr), v = some (.ref s) ∧ Fr n0 L ∧ Keep h0 h [] ∧ (Exa Z h s "java/lang/String")
set_option maxRecDepth 65536 in
set_option maxHeartbeats 40000000 in
theorem rm_mk3 (l : Launch) (Z : State) (a0 : Array Value) (hw : ∀ d ∈ tables_1, d.before a0 Z = true) (ws : List Jvm.Cond) (q : Int32) (cs : Int32) (h0 : Heap) (n0 : Nat) (O0 : Old Z n0 h0) (u0 : Sta Z Z.heap "java/lang/String" "COMPACT_STRINGS" "Z" (.int cs)) (u1 : ¬ (cs = (0 : Int32))) :
    MetFree l (⟨"com/example/slot1/slot1/balance/OptionsStringPinLaw", "make", "(II)Ljava/lang/String;"⟩ : MethodName) (head1 (Jvm.Cond.code (⟨"com/example/slot1/slot1/balance/OptionsStringPinLaw", "make", "(II)Ljava/lang/String;"⟩ : MethodName) method_2_code 5 (some (.object "java/lang/String")) :: ws) ({ frames := 4, cells := 3, slots := 10, locals := 66 } : Room)) (fun aV U => aV = #[(.int (3 : Int32)), (.int q)] ∧ Z.Warmed39 U.vm ∧ U.heap = h0) (fun _ _ _ _ _ => True) (fun _ U o U' => ∃ v L, o = .returned v ∧ Q_mk3 Z q cs h0 n0 v U'.heap L ∧ FrameEnd U o U' L ({ frames := 4, cells := 3, slots := 10, locals := 66 } : Room).cells ({ frames := 4, cells := 3, slots := 10, locals := 66 } : Room).slots) := by
  refine MetFree.of_bodySF (plainFor_of_name pn_3) hisR ?_
  intro pr_ en_ st_ me_ args below meth_ co_ s₁ Bd hml0 hP hK
  obtain ⟨rfl, hZ, hh⟩ := hP
  have hx := Bd.exec
  have hby := Bd.bytes
  have hml : co_.maxLocals = 5 := hml0
  have hown : st_.vm.findClass "com/example/slot1/slot1/balance/OptionsStringPinLaw" = some me_.cls := findClass_of_methodNamed Bd.named
  have hnm := (name_of_methodNamed Bd.named Bd.method).1
  have X0 : Stand pr_ l en_ ({ frames := 4, cells := 3, slots := 10, locals := 66 } : Room) st_ me_ #[(.int (3 : Int32)), (.int q)] below meth_ co_ s₁ [] 0 0 := Stand.of_body Bd
  have e0 : s₁.heap = h0 := by rw [← hh, Bd.state]; rfl
  have N0 := Fr.nil n0
  have K0 := Keep.refl h0 []
  obtain ⟨G, gv, gf, gb⟩ := own_G pr_.tables en_ below st_ (Q_mk3 Z q cs h0 n0) ({ frames := 4, cells := 3, slots := 10, locals := 66 } : Room).cells ({ frames := 4, cells := 3, slots := 10, locals := 66 } : Room).slots
  show own_Fin pr_.tables en_ below st_ (Q_mk3 Z q cs h0 n0) ({ frames := 4, cells := 3, slots := 10, locals := 66 } : Room).cells ({ frames := 4, cells := 3, slots := 10, locals := 66 } : Room).slots (s₁.setTop (entryFrame me_ #[(.int (3 : Int32)), (.int q)] 5))
  refine gb _ (gv (fun tQ kQ => castTop (ef_7 me_ (3 : Int32) q) kQ) ?_)
  show G (s₁.setTop (mkF me_ 0 #[.val (.int (3 : Int32)), .val (.int q), .unset, .unset, .unset] []))
  refine gv (fun tQ kQ => XS.iloadN X0.here hx rfl (hb hby d1_0) rfl kQ) ?_
  show G (s₁.setTop (mkF me_ 1 #[.val (.int (3 : Int32)), .val (.int q), .unset, .unset, .unset] [(.int q)]))
  refine gv (fun tQ kQ => XS.sipush X0.here hx rfl (hb hby d1_1) kQ) ?_
  show G (s₁.setTop (mkF me_ 4 #[.val (.int (3 : Int32)), .val (.int q), .unset, .unset, .unset] [(.int (255 : Int32)), (.int q)]))
  refine gv (fun tQ kQ => XS.iand X0.here hx rfl (hb hby d1_4) rfl kQ) ?_
  show G (s₁.setTop (mkF me_ 5 #[.val (.int (3 : Int32)), .val (.int q), .unset, .unset, .unset] [(.int (q &&& (255 : Int32)))]))
  refine gv (fun tQ kQ => XS.i2c X0.here hx rfl (hb hby d1_5) rfl kQ) ?_
  show G (s₁.setTop (mkF me_ 6 #[.val (.int (3 : Int32)), .val (.int q), .unset, .unset, .unset] [(.int ((q &&& (255 : Int32)).toUInt32.toUInt16.toUInt32.toInt32))]))
  refine gv (fun tQ kQ => XS.istoreN X0.here hx rfl (hb hby d1_6) rfl (l' := #[.val (.int (3 : Int32)), .val (.int q), .val (.int ((q &&& (255 : Int32)).toUInt32.toUInt16.toUInt32.toInt32)), .unset, .unset]) rfl kQ) ?_
  show G (s₁.setTop (mkF me_ 7 #[.val (.int (3 : Int32)), .val (.int q), .val (.int ((q &&& (255 : Int32)).toUInt32.toUInt16.toUInt32.toInt32)), .unset, .unset] []))
  refine gv (fun tQ kQ => XS.iloadN X0.here hx rfl (hb hby d1_7) rfl kQ) ?_
  show G (s₁.setTop (mkF me_ 8 #[.val (.int (3 : Int32)), .val (.int q), .val (.int ((q &&& (255 : Int32)).toUInt32.toUInt16.toUInt32.toInt32)), .unset, .unset] [(.int q)]))
  refine gv (fun tQ kQ => XS.bipush X0.here hx rfl (hb hby d1_8) kQ) ?_
  show G (s₁.setTop (mkF me_ 10 #[.val (.int (3 : Int32)), .val (.int q), .val (.int ((q &&& (255 : Int32)).toUInt32.toUInt16.toUInt32.toInt32)), .unset, .unset] [(.int (8 : Int32)), (.int q)]))
  refine gv (fun tQ kQ => XS.iushr X0.here hx rfl (hb hby d1_10) rfl kQ) ?_
  show G (s₁.setTop (mkF me_ 11 #[.val (.int (3 : Int32)), .val (.int q), .val (.int ((q &&& (255 : Int32)).toUInt32.toUInt16.toUInt32.toInt32)), .unset, .unset] [(.int ((q.toUInt32 >>> ((8 : Int32) &&& 31).toUInt32).toInt32))]))
  refine gv (fun tQ kQ => XS.sipush X0.here hx rfl (hb hby d1_11) kQ) ?_
  show G (s₁.setTop (mkF me_ 14 #[.val (.int (3 : Int32)), .val (.int q), .val (.int ((q &&& (255 : Int32)).toUInt32.toUInt16.toUInt32.toInt32)), .unset, .unset] [(.int (255 : Int32)), (.int ((q.toUInt32 >>> ((8 : Int32) &&& 31).toUInt32).toInt32))]))
  refine gv (fun tQ kQ => XS.iand X0.here hx rfl (hb hby d1_14) rfl kQ) ?_
  show G (s₁.setTop (mkF me_ 15 #[.val (.int (3 : Int32)), .val (.int q), .val (.int ((q &&& (255 : Int32)).toUInt32.toUInt16.toUInt32.toInt32)), .unset, .unset] [(.int (((q.toUInt32 >>> ((8 : Int32) &&& 31).toUInt32).toInt32) &&& (255 : Int32)))]))
  refine gv (fun tQ kQ => XS.i2c X0.here hx rfl (hb hby d1_15) rfl kQ) ?_
  show G (s₁.setTop (mkF me_ 16 #[.val (.int (3 : Int32)), .val (.int q), .val (.int ((q &&& (255 : Int32)).toUInt32.toUInt16.toUInt32.toInt32)), .unset, .unset] [(.int ((((q.toUInt32 >>> ((8 : Int32) &&& 31).toUInt32).toInt32) &&& (255 : Int32)).toUInt32.toUInt16.toUInt32.toInt32))]))
  refine gv (fun tQ kQ => XS.istoreN X0.here hx rfl (hb hby d1_16) rfl (l' := #[.val (.int (3 : Int32)), .val (.int q), .val (.int ((q &&& (255 : Int32)).toUInt32.toUInt16.toUInt32.toInt32)), .val (.int ((((q.toUInt32 >>> ((8 : Int32) &&& 31).toUInt32).toInt32) &&& (255 : Int32)).toUInt32.toUInt16.toUInt32.toInt32)), .unset]) rfl kQ) ?_
  show G (s₁.setTop (mkF me_ 17 #[.val (.int (3 : Int32)), .val (.int q), .val (.int ((q &&& (255 : Int32)).toUInt32.toUInt16.toUInt32.toInt32)), .val (.int ((((q.toUInt32 >>> ((8 : Int32) &&& 31).toUInt32).toInt32) &&& (255 : Int32)).toUInt32.toUInt16.toUInt32.toInt32)), .unset] []))
  refine gv (fun tQ kQ => XS.iloadN X0.here hx rfl (hb hby d1_17) rfl kQ) ?_
  show G (s₁.setTop (mkF me_ 18 #[.val (.int (3 : Int32)), .val (.int q), .val (.int ((q &&& (255 : Int32)).toUInt32.toUInt16.toUInt32.toInt32)), .val (.int ((((q.toUInt32 >>> ((8 : Int32) &&& 31).toUInt32).toInt32) &&& (255 : Int32)).toUInt32.toUInt16.toUInt32.toInt32)), .unset] [(.int q)]))
  refine gv (fun tQ kQ => XS.bipush X0.here hx rfl (hb hby d1_18) kQ) ?_
  show G (s₁.setTop (mkF me_ 20 #[.val (.int (3 : Int32)), .val (.int q), .val (.int ((q &&& (255 : Int32)).toUInt32.toUInt16.toUInt32.toInt32)), .val (.int ((((q.toUInt32 >>> ((8 : Int32) &&& 31).toUInt32).toInt32) &&& (255 : Int32)).toUInt32.toUInt16.toUInt32.toInt32)), .unset] [(.int (16 : Int32)), (.int q)]))
  refine gv (fun tQ kQ => XS.iushr X0.here hx rfl (hb hby d1_20) rfl kQ) ?_
  show G (s₁.setTop (mkF me_ 21 #[.val (.int (3 : Int32)), .val (.int q), .val (.int ((q &&& (255 : Int32)).toUInt32.toUInt16.toUInt32.toInt32)), .val (.int ((((q.toUInt32 >>> ((8 : Int32) &&& 31).toUInt32).toInt32) &&& (255 : Int32)).toUInt32.toUInt16.toUInt32.toInt32)), .unset] [(.int ((q.toUInt32 >>> ((16 : Int32) &&& 31).toUInt32).toInt32))]))
  refine gv (fun tQ kQ => XS.sipush X0.here hx rfl (hb hby d1_21) kQ) ?_
  show G (s₁.setTop (mkF me_ 24 #[.val (.int (3 : Int32)), .val (.int q), .val (.int ((q &&& (255 : Int32)).toUInt32.toUInt16.toUInt32.toInt32)), .val (.int ((((q.toUInt32 >>> ((8 : Int32) &&& 31).toUInt32).toInt32) &&& (255 : Int32)).toUInt32.toUInt16.toUInt32.toInt32)), .unset] [(.int (255 : Int32)), (.int ((q.toUInt32 >>> ((16 : Int32) &&& 31).toUInt32).toInt32))]))
  refine gv (fun tQ kQ => XS.iand X0.here hx rfl (hb hby d1_24) rfl kQ) ?_
  show G (s₁.setTop (mkF me_ 25 #[.val (.int (3 : Int32)), .val (.int q), .val (.int ((q &&& (255 : Int32)).toUInt32.toUInt16.toUInt32.toInt32)), .val (.int ((((q.toUInt32 >>> ((8 : Int32) &&& 31).toUInt32).toInt32) &&& (255 : Int32)).toUInt32.toUInt16.toUInt32.toInt32)), .unset] [(.int (((q.toUInt32 >>> ((16 : Int32) &&& 31).toUInt32).toInt32) &&& (255 : Int32)))]))
  refine gv (fun tQ kQ => XS.i2c X0.here hx rfl (hb hby d1_25) rfl kQ) ?_
  show G (s₁.setTop (mkF me_ 26 #[.val (.int (3 : Int32)), .val (.int q), .val (.int ((q &&& (255 : Int32)).toUInt32.toUInt16.toUInt32.toInt32)), .val (.int ((((q.toUInt32 >>> ((8 : Int32) &&& 31).toUInt32).toInt32) &&& (255 : Int32)).toUInt32.toUInt16.toUInt32.toInt32)), .unset] [(.int ((((q.toUInt32 >>> ((16 : Int32) &&& 31).toUInt32).toInt32) &&& (255 : Int32)).toUInt32.toUInt16.toUInt32.toInt32))]))
  refine gv (fun tQ kQ => XS.istore X0.here hx rfl (hb hby d1_26) rfl (l' := #[.val (.int (3 : Int32)), .val (.int q), .val (.int ((q &&& (255 : Int32)).toUInt32.toUInt16.toUInt32.toInt32)), .val (.int ((((q.toUInt32 >>> ((8 : Int32) &&& 31).toUInt32).toInt32) &&& (255 : Int32)).toUInt32.toUInt16.toUInt32.toInt32)), .val (.int ((((q.toUInt32 >>> ((16 : Int32) &&& 31).toUInt32).toInt32) &&& (255 : Int32)).toUInt32.toUInt16.toUInt32.toInt32))]) rfl kQ) ?_
  show G (s₁.setTop (mkF me_ 28 #[.val (.int (3 : Int32)), .val (.int q), .val (.int ((q &&& (255 : Int32)).toUInt32.toUInt16.toUInt32.toInt32)), .val (.int ((((q.toUInt32 >>> ((8 : Int32) &&& 31).toUInt32).toInt32) &&& (255 : Int32)).toUInt32.toUInt16.toUInt32.toInt32)), .val (.int ((((q.toUInt32 >>> ((16 : Int32) &&& 31).toUInt32).toInt32) &&& (255 : Int32)).toUInt32.toUInt16.toUInt32.toInt32))] []))
  refine gv (fun tQ kQ => XS.iloadN X0.here hx rfl (hb hby d1_28) rfl kQ) ?_
  show G (s₁.setTop (mkF me_ 29 #[.val (.int (3 : Int32)), .val (.int q), .val (.int ((q &&& (255 : Int32)).toUInt32.toUInt16.toUInt32.toInt32)), .val (.int ((((q.toUInt32 >>> ((8 : Int32) &&& 31).toUInt32).toInt32) &&& (255 : Int32)).toUInt32.toUInt16.toUInt32.toInt32)), .val (.int ((((q.toUInt32 >>> ((16 : Int32) &&& 31).toUInt32).toInt32) &&& (255 : Int32)).toUInt32.toUInt16.toUInt32.toInt32))] [(.int (3 : Int32))]))
  refine gv (fun tQ kQ => XS.ifYes X0.here hx rfl (pc0 := 29) (pc' := 43) rfl (hb hby d1_29) rfl ((if0 _ _).trans (feq (by decide : ¬ ((3 : Int32) = (0 : Int32)))).2) (by decide) (by decide) kQ) ?_
  show G (s₁.setTop (mkF me_ 43 #[.val (.int (3 : Int32)), .val (.int q), .val (.int ((q &&& (255 : Int32)).toUInt32.toUInt16.toUInt32.toInt32)), .val (.int ((((q.toUInt32 >>> ((8 : Int32) &&& 31).toUInt32).toInt32) &&& (255 : Int32)).toUInt32.toUInt16.toUInt32.toInt32)), .val (.int ((((q.toUInt32 >>> ((16 : Int32) &&& 31).toUInt32).toInt32) &&& (255 : Int32)).toUInt32.toUInt16.toUInt32.toInt32))] []))
  refine gv (fun tQ kQ => XS.iloadN X0.here hx rfl (hb hby d1_43) rfl kQ) ?_
  show G (s₁.setTop (mkF me_ 44 #[.val (.int (3 : Int32)), .val (.int q), .val (.int ((q &&& (255 : Int32)).toUInt32.toUInt16.toUInt32.toInt32)), .val (.int ((((q.toUInt32 >>> ((8 : Int32) &&& 31).toUInt32).toInt32) &&& (255 : Int32)).toUInt32.toUInt16.toUInt32.toInt32)), .val (.int ((((q.toUInt32 >>> ((16 : Int32) &&& 31).toUInt32).toInt32) &&& (255 : Int32)).toUInt32.toUInt16.toUInt32.toInt32))] [(.int (3 : Int32))]))
  refine gv (fun tQ kQ => XS.iconst X0.here hx rfl (hb hby d1_44) kQ) ?_
  show G (s₁.setTop (mkF me_ 45 #[.val (.int (3 : Int32)), .val (.int q), .val (.int ((q &&& (255 : Int32)).toUInt32.toUInt16.toUInt32.toInt32)), .val (.int ((((q.toUInt32 >>> ((8 : Int32) &&& 31).toUInt32).toInt32) &&& (255 : Int32)).toUInt32.toUInt16.toUInt32.toInt32)), .val (.int ((((q.toUInt32 >>> ((16 : Int32) &&& 31).toUInt32).toInt32) &&& (255 : Int32)).toUInt32.toUInt16.toUInt32.toInt32))] [(.int (1 : Int32)), (.int (3 : Int32))]))
  refine gv (fun tQ kQ => XS.icmpYes X0.here hx rfl (pc0 := 45) (pc' := 53) rfl (hb hby d1_45) rfl (feq (by decide : ¬ ((3 : Int32) = (1 : Int32)))).2 (by decide) (by decide) kQ) ?_
  show G (s₁.setTop (mkF me_ 53 #[.val (.int (3 : Int32)), .val (.int q), .val (.int ((q &&& (255 : Int32)).toUInt32.toUInt16.toUInt32.toInt32)), .val (.int ((((q.toUInt32 >>> ((8 : Int32) &&& 31).toUInt32).toInt32) &&& (255 : Int32)).toUInt32.toUInt16.toUInt32.toInt32)), .val (.int ((((q.toUInt32 >>> ((16 : Int32) &&& 31).toUInt32).toInt32) &&& (255 : Int32)).toUInt32.toUInt16.toUInt32.toInt32))] []))
  refine gv (fun tQ kQ => XS.iloadN X0.here hx rfl (hb hby d1_53) rfl kQ) ?_
  show G (s₁.setTop (mkF me_ 54 #[.val (.int (3 : Int32)), .val (.int q), .val (.int ((q &&& (255 : Int32)).toUInt32.toUInt16.toUInt32.toInt32)), .val (.int ((((q.toUInt32 >>> ((8 : Int32) &&& 31).toUInt32).toInt32) &&& (255 : Int32)).toUInt32.toUInt16.toUInt32.toInt32)), .val (.int ((((q.toUInt32 >>> ((16 : Int32) &&& 31).toUInt32).toInt32) &&& (255 : Int32)).toUInt32.toUInt16.toUInt32.toInt32))] [(.int (3 : Int32))]))
  refine gv (fun tQ kQ => XS.iconst X0.here hx rfl (hb hby d1_54) kQ) ?_
  show G (s₁.setTop (mkF me_ 55 #[.val (.int (3 : Int32)), .val (.int q), .val (.int ((q &&& (255 : Int32)).toUInt32.toUInt16.toUInt32.toInt32)), .val (.int ((((q.toUInt32 >>> ((8 : Int32) &&& 31).toUInt32).toInt32) &&& (255 : Int32)).toUInt32.toUInt16.toUInt32.toInt32)), .val (.int ((((q.toUInt32 >>> ((16 : Int32) &&& 31).toUInt32).toInt32) &&& (255 : Int32)).toUInt32.toUInt16.toUInt32.toInt32))] [(.int (2 : Int32)), (.int (3 : Int32))]))
  refine gv (fun tQ kQ => XS.icmpYes X0.here hx rfl (pc0 := 55) (pc' := 77) rfl (hb hby d1_55) rfl (feq (by decide : ¬ ((3 : Int32) = (2 : Int32)))).2 (by decide) (by decide) kQ) ?_
  show G (s₁.setTop (mkF me_ 77 #[.val (.int (3 : Int32)), .val (.int q), .val (.int ((q &&& (255 : Int32)).toUInt32.toUInt16.toUInt32.toInt32)), .val (.int ((((q.toUInt32 >>> ((8 : Int32) &&& 31).toUInt32).toInt32) &&& (255 : Int32)).toUInt32.toUInt16.toUInt32.toInt32)), .val (.int ((((q.toUInt32 >>> ((16 : Int32) &&& 31).toUInt32).toInt32) &&& (255 : Int32)).toUInt32.toUInt16.toUInt32.toInt32))] []))
  obtain ⟨T348, h348, X348, e348, E348, A348, D348, -, st348⟩ := newO X0 hx hZ hown (hw _ (List.mem_of_getElem? (i := 4) rfl)) (hw _ (List.mem_of_getElem? (i := 5) rfl)) (hw _ (List.mem_of_getElem? (i := 6) rfl)) e0 (g := (mkF me_ 77 #[.val (.int (3 : Int32)), .val (.int q), .val (.int ((q &&& (255 : Int32)).toUInt32.toUInt16.toUInt32.toInt32)), .val (.int ((((q.toUInt32 >>> ((8 : Int32) &&& 31).toUInt32).toInt32) &&& (255 : Int32)).toUInt32.toUInt16.toUInt32.toInt32)), .val (.int ((((q.toUInt32 >>> ((16 : Int32) &&& 31).toUInt32).toInt32) &&& (255 : Int32)).toUInt32.toUInt16.toUInt32.toInt32))] [])) rfl (hb hby d1_77) (by decide) (by decide)
  obtain ⟨b348, g348⟩ : ∃ z, z = h0.size := ⟨_, rfl⟩
  rw [← g348] at A348 D348 st348
  refine gv st348 ?_
  have g349 : n0 ≤ b348 := Nat.le_trans (own_old O0) (Nat.le_of_eq g348.symm)
  have z350 : h0.size ≤ b348 := Nat.le_trans K0.1 (Nat.le_of_eq g348.symm)
  have O351 := O0.ext E348
  have K352 := K0.ext E348
  have f353 : Fld Z h348 b348 "java/lang/String" "value" "[B" .null := D348 (Or.inr (hw _ (List.mem_of_getElem? (i := 20) rfl))) (ty := (.array .byte)) (by decide)
  have f354 : Fld Z h348 b348 "java/lang/String" "coder" "B" (.int (0 : Int32)) := D348 (Or.inr (hw _ (List.mem_of_getElem? (i := 21) rfl))) (ty := .byte) (by decide)
  show G (T348.setTop (mkF me_ 80 #[.val (.int (3 : Int32)), .val (.int q), .val (.int ((q &&& (255 : Int32)).toUInt32.toUInt16.toUInt32.toInt32)), .val (.int ((((q.toUInt32 >>> ((8 : Int32) &&& 31).toUInt32).toInt32) &&& (255 : Int32)).toUInt32.toUInt16.toUInt32.toInt32)), .val (.int ((((q.toUInt32 >>> ((16 : Int32) &&& 31).toUInt32).toInt32) &&& (255 : Int32)).toUInt32.toUInt16.toUInt32.toInt32))] [(.ref b348)]))
  refine gv (fun tQ kQ => XS.dup X348.here hx rfl (hb hby d1_80) rfl rfl kQ) ?_
  show G (T348.setTop (mkF me_ 81 #[.val (.int (3 : Int32)), .val (.int q), .val (.int ((q &&& (255 : Int32)).toUInt32.toUInt16.toUInt32.toInt32)), .val (.int ((((q.toUInt32 >>> ((8 : Int32) &&& 31).toUInt32).toInt32) &&& (255 : Int32)).toUInt32.toUInt16.toUInt32.toInt32)), .val (.int ((((q.toUInt32 >>> ((16 : Int32) &&& 31).toUInt32).toInt32) &&& (255 : Int32)).toUInt32.toUInt16.toUInt32.toInt32))] [(.ref b348), (.ref b348)]))
  refine gv (fun tQ kQ => XS.iconst X348.here hx rfl (hb hby d1_81) kQ) ?_
  show G (T348.setTop (mkF me_ 82 #[.val (.int (3 : Int32)), .val (.int q), .val (.int ((q &&& (255 : Int32)).toUInt32.toUInt16.toUInt32.toInt32)), .val (.int ((((q.toUInt32 >>> ((8 : Int32) &&& 31).toUInt32).toInt32) &&& (255 : Int32)).toUInt32.toUInt16.toUInt32.toInt32)), .val (.int ((((q.toUInt32 >>> ((16 : Int32) &&& 31).toUInt32).toInt32) &&& (255 : Int32)).toUInt32.toUInt16.toUInt32.toInt32))] [(.int (3 : Int32)), (.ref b348), (.ref b348)]))
  obtain ⟨T355, h355, k355, X355, e355, E355, A355, st355⟩ := newP X348 hx hZ (hw _ (List.mem_of_getElem? (i := 7) rfl)) e348 (g := (mkF me_ 82 #[.val (.int (3 : Int32)), .val (.int q), .val (.int ((q &&& (255 : Int32)).toUInt32.toUInt16.toUInt32.toInt32)), .val (.int ((((q.toUInt32 >>> ((8 : Int32) &&& 31).toUInt32).toInt32) &&& (255 : Int32)).toUInt32.toUInt16.toUInt32.toInt32)), .val (.int ((((q.toUInt32 >>> ((16 : Int32) &&& 31).toUInt32).toInt32) &&& (255 : Int32)).toUInt32.toUInt16.toUInt32.toInt32))] [(.int (3 : Int32)), (.ref b348), (.ref b348)])) rfl (hb hby d1_82) rfl (by decide) (cap := 3) (by decide) (by decide) (by decide) (by decide)
  obtain ⟨b355, g355⟩ : ∃ z, z = h348.size := ⟨_, rfl⟩
  rw [← g355] at A355 st355
  refine gv st355 ?_
  have ne356 : b348 ≠ b355 := Nat.ne_of_lt (Nat.lt_of_lt_of_le A348.lt (Nat.le_of_eq g355.symm))
  have g357 : n0 ≤ b355 := Nat.le_trans (own_old O351) (Nat.le_of_eq g355.symm)
  have z358 : h0.size ≤ b355 := Nat.le_trans K352.1 (Nat.le_of_eq g355.symm)
  have f359 : Exa Z h355 b348 "java/lang/String" := A348.ext E355
  have f360 : Fld Z h355 b348 "java/lang/String" "value" "[B" .null := f353.ext E355
  have f361 : Fld Z h355 b348 "java/lang/String" "coder" "B" (.int (0 : Int32)) := f354.ext E355
  have O362 := O351.ext E355
  have K363 := K352.ext E355
  have V355 : Arv Z h355 b355 k355 .char (3 : Int32) [(.int (0 : Int32)), (.int (0 : Int32)), (.int (0 : Int32))] (.int (0 : Int32)) := (Arv.new A355 (by decide)).pad (pad_rep [] (.int (0 : Int32)) 3)
  show G (T355.setTop (mkF me_ 84 #[.val (.int (3 : Int32)), .val (.int q), .val (.int ((q &&& (255 : Int32)).toUInt32.toUInt16.toUInt32.toInt32)), .val (.int ((((q.toUInt32 >>> ((8 : Int32) &&& 31).toUInt32).toInt32) &&& (255 : Int32)).toUInt32.toUInt16.toUInt32.toInt32)), .val (.int ((((q.toUInt32 >>> ((16 : Int32) &&& 31).toUInt32).toInt32) &&& (255 : Int32)).toUInt32.toUInt16.toUInt32.toInt32))] [(.ref b355), (.ref b348), (.ref b348)]))
  refine gv (fun tQ kQ => XS.dup X355.here hx rfl (hb hby d1_84) rfl rfl kQ) ?_
  show G (T355.setTop (mkF me_ 85 #[.val (.int (3 : Int32)), .val (.int q), .val (.int ((q &&& (255 : Int32)).toUInt32.toUInt16.toUInt32.toInt32)), .val (.int ((((q.toUInt32 >>> ((8 : Int32) &&& 31).toUInt32).toInt32) &&& (255 : Int32)).toUInt32.toUInt16.toUInt32.toInt32)), .val (.int ((((q.toUInt32 >>> ((16 : Int32) &&& 31).toUInt32).toInt32) &&& (255 : Int32)).toUInt32.toUInt16.toUInt32.toInt32))] [(.ref b355), (.ref b355), (.ref b348), (.ref b348)]))
  refine gv (fun tQ kQ => XS.iconst X355.here hx rfl (hb hby d1_85) kQ) ?_
  show G (T355.setTop (mkF me_ 86 #[.val (.int (3 : Int32)), .val (.int q), .val (.int ((q &&& (255 : Int32)).toUInt32.toUInt16.toUInt32.toInt32)), .val (.int ((((q.toUInt32 >>> ((8 : Int32) &&& 31).toUInt32).toInt32) &&& (255 : Int32)).toUInt32.toUInt16.toUInt32.toInt32)), .val (.int ((((q.toUInt32 >>> ((16 : Int32) &&& 31).toUInt32).toInt32) &&& (255 : Int32)).toUInt32.toUInt16.toUInt32.toInt32))] [(.int (0 : Int32)), (.ref b355), (.ref b355), (.ref b348), (.ref b348)]))
  refine gv (fun tQ kQ => XS.iloadN X355.here hx rfl (hb hby d1_86) rfl kQ) ?_
  show G (T355.setTop (mkF me_ 87 #[.val (.int (3 : Int32)), .val (.int q), .val (.int ((q &&& (255 : Int32)).toUInt32.toUInt16.toUInt32.toInt32)), .val (.int ((((q.toUInt32 >>> ((8 : Int32) &&& 31).toUInt32).toInt32) &&& (255 : Int32)).toUInt32.toUInt16.toUInt32.toInt32)), .val (.int ((((q.toUInt32 >>> ((16 : Int32) &&& 31).toUInt32).toInt32) &&& (255 : Int32)).toUInt32.toUInt16.toUInt32.toInt32))] [(.int ((q &&& (255 : Int32)).toUInt32.toUInt16.toUInt32.toInt32)), (.int (0 : Int32)), (.ref b355), (.ref b355), (.ref b348), (.ref b348)]))
  obtain ⟨cl364, Ar364, q364, S364, n364, H364, G364⟩ := (id V355)
  have in364 : ¬ ((0 : Int32) < 0 ∨ cl364.slots.size ≤ ((0 : Int32)).toNatClampNeg) := inb_of S364 ⟨by decide, by decide⟩
  obtain ⟨T364, h364, X364, e364, W364, st364⟩ := stC X355 hx hZ e355 Ar364 (j := (0 : Int32)) in364 (g := (mkF me_ 87 #[.val (.int (3 : Int32)), .val (.int q), .val (.int ((q &&& (255 : Int32)).toUInt32.toUInt16.toUInt32.toInt32)), .val (.int ((((q.toUInt32 >>> ((8 : Int32) &&& 31).toUInt32).toInt32) &&& (255 : Int32)).toUInt32.toUInt16.toUInt32.toInt32)), .val (.int ((((q.toUInt32 >>> ((16 : Int32) &&& 31).toUInt32).toInt32) &&& (255 : Int32)).toUInt32.toUInt16.toUInt32.toInt32))] [(.int ((q &&& (255 : Int32)).toUInt32.toUInt16.toUInt32.toInt32)), (.int (0 : Int32)), (.ref b355), (.ref b355), (.ref b348), (.ref b348)])) rfl rfl (hb hby d1_87)
  have W364 : Wr h355 h364 b355 ((0 : Int32)).toNatClampNeg (.int ((q &&& (255 : Int32)).toUInt32.toUInt16.toUInt32.toInt32)) := by have z := W364; rw [(own_narC _)] at z; exact z
  refine gv st364 ?_
  have f366 : Exa Z h364 b348 "java/lang/String" := f359.wr W364
  have f367 : Fld Z h364 b348 "java/lang/String" "value" "[B" .null := f360.other W364 (Or.inl ne356)
  have f368 : Fld Z h364 b348 "java/lang/String" "coder" "B" (.int (0 : Int32)) := f361.other W364 (Or.inl ne356)
  have O369 := O362.wr W364 g357
  have K370 := K363.wr W364 (Or.inr z358)
  have N371 := Fr.snoc X364 N0 g357
  have f365 : Arv Z h364 b355 k355 .char (3 : Int32) [(.int ((q &&& (255 : Int32)).toUInt32.toUInt16.toUInt32.toInt32)), (.int (0 : Int32)), (.int (0 : Int32))] (.int (0 : Int32)) := Arv.set Ar364 q364 S364 n364 H364 G364 (fits_nar_char _) W364 0 rfl (Nat.le_of_ble_eq_true rfl)
  show G (T364.setTop (mkF me_ 88 #[.val (.int (3 : Int32)), .val (.int q), .val (.int ((q &&& (255 : Int32)).toUInt32.toUInt16.toUInt32.toInt32)), .val (.int ((((q.toUInt32 >>> ((8 : Int32) &&& 31).toUInt32).toInt32) &&& (255 : Int32)).toUInt32.toUInt16.toUInt32.toInt32)), .val (.int ((((q.toUInt32 >>> ((16 : Int32) &&& 31).toUInt32).toInt32) &&& (255 : Int32)).toUInt32.toUInt16.toUInt32.toInt32))] [(.ref b355), (.ref b348), (.ref b348)]))
  refine gv (fun tQ kQ => XS.dup X364.here hx rfl (hb hby d1_88) rfl rfl kQ) ?_
  show G (T364.setTop (mkF me_ 89 #[.val (.int (3 : Int32)), .val (.int q), .val (.int ((q &&& (255 : Int32)).toUInt32.toUInt16.toUInt32.toInt32)), .val (.int ((((q.toUInt32 >>> ((8 : Int32) &&& 31).toUInt32).toInt32) &&& (255 : Int32)).toUInt32.toUInt16.toUInt32.toInt32)), .val (.int ((((q.toUInt32 >>> ((16 : Int32) &&& 31).toUInt32).toInt32) &&& (255 : Int32)).toUInt32.toUInt16.toUInt32.toInt32))] [(.ref b355), (.ref b355), (.ref b348), (.ref b348)]))
  refine gv (fun tQ kQ => XS.iconst X364.here hx rfl (hb hby d1_89) kQ) ?_
  show G (T364.setTop (mkF me_ 90 #[.val (.int (3 : Int32)), .val (.int q), .val (.int ((q &&& (255 : Int32)).toUInt32.toUInt16.toUInt32.toInt32)), .val (.int ((((q.toUInt32 >>> ((8 : Int32) &&& 31).toUInt32).toInt32) &&& (255 : Int32)).toUInt32.toUInt16.toUInt32.toInt32)), .val (.int ((((q.toUInt32 >>> ((16 : Int32) &&& 31).toUInt32).toInt32) &&& (255 : Int32)).toUInt32.toUInt16.toUInt32.toInt32))] [(.int (1 : Int32)), (.ref b355), (.ref b355), (.ref b348), (.ref b348)]))
  refine gv (fun tQ kQ => XS.iloadN X364.here hx rfl (hb hby d1_90) rfl kQ) ?_
  show G (T364.setTop (mkF me_ 91 #[.val (.int (3 : Int32)), .val (.int q), .val (.int ((q &&& (255 : Int32)).toUInt32.toUInt16.toUInt32.toInt32)), .val (.int ((((q.toUInt32 >>> ((8 : Int32) &&& 31).toUInt32).toInt32) &&& (255 : Int32)).toUInt32.toUInt16.toUInt32.toInt32)), .val (.int ((((q.toUInt32 >>> ((16 : Int32) &&& 31).toUInt32).toInt32) &&& (255 : Int32)).toUInt32.toUInt16.toUInt32.toInt32))] [(.int ((((q.toUInt32 >>> ((8 : Int32) &&& 31).toUInt32).toInt32) &&& (255 : Int32)).toUInt32.toUInt16.toUInt32.toInt32)), (.int (1 : Int32)), (.ref b355), (.ref b355), (.ref b348), (.ref b348)]))
  obtain ⟨cl372, Ar372, q372, S372, n372, H372, G372⟩ := (id f365)
  have in372 : ¬ ((1 : Int32) < 0 ∨ cl372.slots.size ≤ ((1 : Int32)).toNatClampNeg) := inb_of S372 ⟨by decide, by decide⟩
  obtain ⟨T372, h372, X372, e372, W372, st372⟩ := stC X364 hx hZ e364 Ar372 (j := (1 : Int32)) in372 (g := (mkF me_ 91 #[.val (.int (3 : Int32)), .val (.int q), .val (.int ((q &&& (255 : Int32)).toUInt32.toUInt16.toUInt32.toInt32)), .val (.int ((((q.toUInt32 >>> ((8 : Int32) &&& 31).toUInt32).toInt32) &&& (255 : Int32)).toUInt32.toUInt16.toUInt32.toInt32)), .val (.int ((((q.toUInt32 >>> ((16 : Int32) &&& 31).toUInt32).toInt32) &&& (255 : Int32)).toUInt32.toUInt16.toUInt32.toInt32))] [(.int ((((q.toUInt32 >>> ((8 : Int32) &&& 31).toUInt32).toInt32) &&& (255 : Int32)).toUInt32.toUInt16.toUInt32.toInt32)), (.int (1 : Int32)), (.ref b355), (.ref b355), (.ref b348), (.ref b348)])) rfl rfl (hb hby d1_91)
  have W372 : Wr h364 h372 b355 ((1 : Int32)).toNatClampNeg (.int ((((q.toUInt32 >>> ((8 : Int32) &&& 31).toUInt32).toInt32) &&& (255 : Int32)).toUInt32.toUInt16.toUInt32.toInt32)) := by have z := W372; rw [(own_narC _)] at z; exact z
  refine gv st372 ?_
  have f374 : Exa Z h372 b348 "java/lang/String" := f366.wr W372
  have f375 : Fld Z h372 b348 "java/lang/String" "value" "[B" .null := f367.other W372 (Or.inl ne356)
  have f376 : Fld Z h372 b348 "java/lang/String" "coder" "B" (.int (0 : Int32)) := f368.other W372 (Or.inl ne356)
  have O377 := O369.wr W372 g357
  have K378 := K370.wr W372 (Or.inr z358)
  have N379 := Fr.snoc X372 N371 g357
  have f373 : Arv Z h372 b355 k355 .char (3 : Int32) [(.int ((q &&& (255 : Int32)).toUInt32.toUInt16.toUInt32.toInt32)), (.int ((((q.toUInt32 >>> ((8 : Int32) &&& 31).toUInt32).toInt32) &&& (255 : Int32)).toUInt32.toUInt16.toUInt32.toInt32)), (.int (0 : Int32))] (.int (0 : Int32)) := Arv.set Ar372 q372 S372 n372 H372 G372 (fits_nar_char _) W372 1 rfl (Nat.le_of_ble_eq_true rfl)
  show G (T372.setTop (mkF me_ 92 #[.val (.int (3 : Int32)), .val (.int q), .val (.int ((q &&& (255 : Int32)).toUInt32.toUInt16.toUInt32.toInt32)), .val (.int ((((q.toUInt32 >>> ((8 : Int32) &&& 31).toUInt32).toInt32) &&& (255 : Int32)).toUInt32.toUInt16.toUInt32.toInt32)), .val (.int ((((q.toUInt32 >>> ((16 : Int32) &&& 31).toUInt32).toInt32) &&& (255 : Int32)).toUInt32.toUInt16.toUInt32.toInt32))] [(.ref b355), (.ref b348), (.ref b348)]))
  refine gv (fun tQ kQ => XS.dup X372.here hx rfl (hb hby d1_92) rfl rfl kQ) ?_
  show G (T372.setTop (mkF me_ 93 #[.val (.int (3 : Int32)), .val (.int q), .val (.int ((q &&& (255 : Int32)).toUInt32.toUInt16.toUInt32.toInt32)), .val (.int ((((q.toUInt32 >>> ((8 : Int32) &&& 31).toUInt32).toInt32) &&& (255 : Int32)).toUInt32.toUInt16.toUInt32.toInt32)), .val (.int ((((q.toUInt32 >>> ((16 : Int32) &&& 31).toUInt32).toInt32) &&& (255 : Int32)).toUInt32.toUInt16.toUInt32.toInt32))] [(.ref b355), (.ref b355), (.ref b348), (.ref b348)]))
  refine gv (fun tQ kQ => XS.iconst X372.here hx rfl (hb hby d1_93) kQ) ?_
  show G (T372.setTop (mkF me_ 94 #[.val (.int (3 : Int32)), .val (.int q), .val (.int ((q &&& (255 : Int32)).toUInt32.toUInt16.toUInt32.toInt32)), .val (.int ((((q.toUInt32 >>> ((8 : Int32) &&& 31).toUInt32).toInt32) &&& (255 : Int32)).toUInt32.toUInt16.toUInt32.toInt32)), .val (.int ((((q.toUInt32 >>> ((16 : Int32) &&& 31).toUInt32).toInt32) &&& (255 : Int32)).toUInt32.toUInt16.toUInt32.toInt32))] [(.int (2 : Int32)), (.ref b355), (.ref b355), (.ref b348), (.ref b348)]))
  refine gv (fun tQ kQ => XS.iload X372.here hx rfl (hb hby d1_94) rfl kQ) ?_
  show G (T372.setTop (mkF me_ 96 #[.val (.int (3 : Int32)), .val (.int q), .val (.int ((q &&& (255 : Int32)).toUInt32.toUInt16.toUInt32.toInt32)), .val (.int ((((q.toUInt32 >>> ((8 : Int32) &&& 31).toUInt32).toInt32) &&& (255 : Int32)).toUInt32.toUInt16.toUInt32.toInt32)), .val (.int ((((q.toUInt32 >>> ((16 : Int32) &&& 31).toUInt32).toInt32) &&& (255 : Int32)).toUInt32.toUInt16.toUInt32.toInt32))] [(.int ((((q.toUInt32 >>> ((16 : Int32) &&& 31).toUInt32).toInt32) &&& (255 : Int32)).toUInt32.toUInt16.toUInt32.toInt32)), (.int (2 : Int32)), (.ref b355), (.ref b355), (.ref b348), (.ref b348)]))
  obtain ⟨cl380, Ar380, q380, S380, n380, H380, G380⟩ := (id f373)
  have in380 : ¬ ((2 : Int32) < 0 ∨ cl380.slots.size ≤ ((2 : Int32)).toNatClampNeg) := inb_of S380 ⟨by decide, by decide⟩
  obtain ⟨T380, h380, X380, e380, W380, st380⟩ := stC X372 hx hZ e372 Ar380 (j := (2 : Int32)) in380 (g := (mkF me_ 96 #[.val (.int (3 : Int32)), .val (.int q), .val (.int ((q &&& (255 : Int32)).toUInt32.toUInt16.toUInt32.toInt32)), .val (.int ((((q.toUInt32 >>> ((8 : Int32) &&& 31).toUInt32).toInt32) &&& (255 : Int32)).toUInt32.toUInt16.toUInt32.toInt32)), .val (.int ((((q.toUInt32 >>> ((16 : Int32) &&& 31).toUInt32).toInt32) &&& (255 : Int32)).toUInt32.toUInt16.toUInt32.toInt32))] [(.int ((((q.toUInt32 >>> ((16 : Int32) &&& 31).toUInt32).toInt32) &&& (255 : Int32)).toUInt32.toUInt16.toUInt32.toInt32)), (.int (2 : Int32)), (.ref b355), (.ref b355), (.ref b348), (.ref b348)])) rfl rfl (hb hby d1_96)
  have W380 : Wr h372 h380 b355 ((2 : Int32)).toNatClampNeg (.int ((((q.toUInt32 >>> ((16 : Int32) &&& 31).toUInt32).toInt32) &&& (255 : Int32)).toUInt32.toUInt16.toUInt32.toInt32)) := by have z := W380; rw [(own_narC _)] at z; exact z
  refine gv st380 ?_
  have f382 : Exa Z h380 b348 "java/lang/String" := f374.wr W380
  have f383 : Fld Z h380 b348 "java/lang/String" "value" "[B" .null := f375.other W380 (Or.inl ne356)
  have f384 : Fld Z h380 b348 "java/lang/String" "coder" "B" (.int (0 : Int32)) := f376.other W380 (Or.inl ne356)
  have O385 := O377.wr W380 g357
  have K386 := K378.wr W380 (Or.inr z358)
  have N387 := Fr.snoc X380 N379 g357
  have f381 : Arv Z h380 b355 k355 .char (3 : Int32) [(.int ((q &&& (255 : Int32)).toUInt32.toUInt16.toUInt32.toInt32)), (.int ((((q.toUInt32 >>> ((8 : Int32) &&& 31).toUInt32).toInt32) &&& (255 : Int32)).toUInt32.toUInt16.toUInt32.toInt32)), (.int ((((q.toUInt32 >>> ((16 : Int32) &&& 31).toUInt32).toInt32) &&& (255 : Int32)).toUInt32.toUInt16.toUInt32.toInt32))] (.int (0 : Int32)) := Arv.set Ar380 q380 S380 n380 H380 G380 (fits_nar_char _) W380 2 rfl (Nat.le_of_ble_eq_true rfl)
  show G (T380.setTop (mkF me_ 97 #[.val (.int (3 : Int32)), .val (.int q), .val (.int ((q &&& (255 : Int32)).toUInt32.toUInt16.toUInt32.toInt32)), .val (.int ((((q.toUInt32 >>> ((8 : Int32) &&& 31).toUInt32).toInt32) &&& (255 : Int32)).toUInt32.toUInt16.toUInt32.toInt32)), .val (.int ((((q.toUInt32 >>> ((16 : Int32) &&& 31).toUInt32).toInt32) &&& (255 : Int32)).toUInt32.toUInt16.toUInt32.toInt32))] [(.ref b355), (.ref b348), (.ref b348)]))
  obtain ⟨_, _, ⟨T388, L388, k388, n388⟩, -, X388, ⟨Lc388, hQ388, l388, y388, z388⟩, st388⟩ := X380.specialBack hx (y := (⟨"java/lang/String", "<init>", "([C)V"⟩ : MethodName)) rfl hown (mvT hZ (hw _ (List.mem_of_getElem? (i := 8) rfl))) (mvT hZ (hw _ (List.mem_of_getElem? (i := 9) rfl))) (mvT hZ (hw _ (List.mem_of_getElem? (i := 10) rfl))) (by decide) (backOf (W := 1) (rm_sc3 l Z a0 hw [] b348 b355 k355 ((q &&& (255 : Int32)).toUInt32.toUInt16.toUInt32.toInt32) ((((q.toUInt32 >>> ((8 : Int32) &&& 31).toUInt32).toInt32) &&& (255 : Int32)).toUInt32.toUInt16.toUInt32.toInt32) ((((q.toUInt32 >>> ((16 : Int32) &&& 31).toUInt32).toInt32) &&& (255 : Int32)).toUInt32.toUInt16.toUInt32.toInt32) cs h380 n0 O385 u0 u1 (own_lt255 _) (own_lt255 _) (own_lt255 _) f382 f383 f384 g349 f381 ne356) hZ (hw _ (List.mem_of_getElem? (i := 10) rfl)) (hw _ (List.mem_of_getElem? (i := 6) rfl)) (by decide) (by decide)) (g := (mkF me_ 97 #[.val (.int (3 : Int32)), .val (.int q), .val (.int ((q &&& (255 : Int32)).toUInt32.toUInt16.toUInt32.toInt32)), .val (.int ((((q.toUInt32 >>> ((8 : Int32) &&& 31).toUInt32).toInt32) &&& (255 : Int32)).toUInt32.toUInt16.toUInt32.toInt32)), .val (.int ((((q.toUInt32 >>> ((16 : Int32) &&& 31).toUInt32).toInt32) &&& (255 : Int32)).toUInt32.toUInt16.toUInt32.toInt32))] [(.ref b355), (.ref b348), (.ref b348)])) rfl (by rw [hml]; rfl) (Steps.refl _) (a := b348) (argsL := [(.ref b355)]) (rest := [(.ref b348)]) (lenOf pd_7 rfl) rfl (by show 2 * 0 + _ ≤ _; exact Nat.le_of_eq rfl) (hb hby d1_97) (fun _ _ => ⟨rfl, e380, (by decide : 2 + 1 ≤ _), (by decide : 7 + 3 ≤ _)⟩)
  dsimp only [Pt.U, Pt.locs, Pt.cells, Pt.slots] at X388 l388 y388 z388 st388 hQ388
  subst l388 y388 z388
  obtain ⟨b_388, k_388, rfl, Nq388, Kq388, w388_0, w388_1, w388_2, w388_3, w388_4⟩ := hQ388
  have N389 := Fr.app N387 Nq388
  obtain ⟨h388, e388⟩ : ∃ z, T388.heap = z := ⟨_, rfl⟩
  rw [e388] at Kq388 w388_1 w388_2 w388_3 w388_4
  have ne390 : b348 ≠ b_388 := Nat.ne_of_lt (Nat.lt_of_lt_of_le f382.lt w388_0)
  have ne391 : b355 ≠ b_388 := Nat.ne_of_lt (Nat.lt_of_lt_of_le f381.lt w388_0)
  have g392 : n0 ≤ b_388 := Nat.le_trans (own_old O385) w388_0
  have z393 : h0.size ≤ b_388 := Nat.le_trans K386.1 w388_0
  have f394 : Exa Z h388 b348 "java/lang/String" := f382.keep Kq388
  have f395 : Arv Z h388 b355 k355 .char (3 : Int32) [(.int ((q &&& (255 : Int32)).toUInt32.toUInt16.toUInt32.toInt32)), (.int ((((q.toUInt32 >>> ((8 : Int32) &&& 31).toUInt32).toInt32) &&& (255 : Int32)).toUInt32.toUInt16.toUInt32.toInt32)), (.int ((((q.toUInt32 >>> ((16 : Int32) &&& 31).toUInt32).toInt32) &&& (255 : Int32)).toUInt32.toUInt16.toUInt32.toInt32))] (.int (0 : Int32)) := f381.keep Kq388 (ninS (Ne.symm ne356) nin0)
  have O396 := O385.keep Kq388 (allS g349 all0)
  have K397 := K386.trans Kq388 (allS (Or.inr z350) all0)
  refine gv (fun tQ kQ => st388.trans kQ) ?_
  show G (T388.setTop (mkF me_ 100 #[.val (.int (3 : Int32)), .val (.int q), .val (.int ((q &&& (255 : Int32)).toUInt32.toUInt16.toUInt32.toInt32)), .val (.int ((((q.toUInt32 >>> ((8 : Int32) &&& 31).toUInt32).toInt32) &&& (255 : Int32)).toUInt32.toUInt16.toUInt32.toInt32)), .val (.int ((((q.toUInt32 >>> ((16 : Int32) &&& 31).toUInt32).toInt32) &&& (255 : Int32)).toUInt32.toUInt16.toUInt32.toInt32))] [(.ref b348)]))
  refine gf _ (own_ret X388 Bd.notSynchronized (v := some (.ref b348)) (fun h => by rw [Bd.returns] at h; cases h) ?_ (by decide) (by decide) (fun fs hr => retOut X388 hx (t := (.object "java/lang/String")) Bd.returns rfl (Or.inr (Or.inr (Or.inr (Or.inr ⟨rfl, rfl, rfl⟩)))) (hb hby d1_100) hr))
  show Q_mk3 Z q cs h0 n0 _ T388.heap _
  rw [e388]
  exact ⟨b348, rfl, N389, K397, w388_1⟩
theorem ef_8 (m : MethodId) (x0 : Addr) (x1 : Addr)  : entryFrame m #[(.ref x0), (.ref x1)] 3 = mkF m 0 #[.val (.ref x0), .val (.ref x1), .unset] [] := by first | (simp [entryFrame, mkF, argsToLocals, Value.category]; done) | rfl
theorem pn_4 : plainName "com/example/slot1/slot1/balance/Options" = true := by first | (simp [plainName, overriddenIn]; done) | decide +kernel
theorem d5_0 : decode prog_9_method_6_code 0 = .ok (.aload_n 0, 1) := by decide +kernel
theorem d5_1 : decode prog_9_method_6_code 1 = .ok (.instanceof 52, 3) := by decide +kernel
theorem d5_4 : decode prog_9_method_6_code 4 = .ok (.ifCond .eq 11, 3) := by decide +kernel
theorem d5_7 : decode prog_9_method_6_code 7 = .ok (.aload_n 0, 1) := by decide +kernel
theorem d5_8 : decode prog_9_method_6_code 8 = .ok (.checkcast 52, 3) := by decide +kernel
theorem d5_11 : decode prog_9_method_6_code 11 = .ok (.astore_n 2, 1) := by decide +kernel
theorem d5_12 : decode prog_9_method_6_code 12 = .ok (.goto 10, 3) := by decide +kernel
theorem d5_22 : decode prog_9_method_6_code 22 = .ok (.aload_n 2, 1) := by decide +kernel
theorem d5_23 : decode prog_9_method_6_code 23 = .ok (.areturn, 1) := by decide +kernel
def Q_str (Z : State) (a : Addr) (b : Addr) (h0 : Heap) (n0 : Nat) (v : Option Value) (h : Heap) (L : List Loc) : Prop := v = some (.ref a) ∧ Fr n0 L ∧ h = h0
set_option maxRecDepth 65536 in
set_option maxHeartbeats 40000000 in
theorem rm_str (l : Launch) (Z : State) (a0 : Array Value) (hw : ∀ d ∈ tables_1, d.before a0 Z = true) (ws : List Jvm.Cond) (a : Addr) (b : Addr) (h0 : Heap) (n0 : Nat) (O0 : Old Z n0 h0) (u0 : Exa Z h0 a "java/lang/String") :
    MetFree l (⟨"com/example/slot1/slot1/balance/Options", "string", "(Ljava/lang/Object;Ljava/lang/String;)Ljava/lang/String;"⟩ : MethodName) (head1 (Jvm.Cond.code (⟨"com/example/slot1/slot1/balance/Options", "string", "(Ljava/lang/Object;Ljava/lang/String;)Ljava/lang/String;"⟩ : MethodName) prog_9_method_6_code 3 (some (.object "java/lang/String")) :: ws) ({ frames := 0, cells := 0, slots := 0, locals := 0 } : Room)) (fun aV U => aV = #[(.ref a), (.ref b)] ∧ Z.Warmed39 U.vm ∧ U.heap = h0) (fun _ _ _ _ _ => True) (fun _ U o U' => ∃ v L, o = .returned v ∧ Q_str Z a b h0 n0 v U'.heap L ∧ FrameEnd U o U' L ({ frames := 0, cells := 0, slots := 0, locals := 0 } : Room).cells ({ frames := 0, cells := 0, slots := 0, locals := 0 } : Room).slots) := by
  refine MetFree.of_bodySF (plainFor_of_name pn_4) hisR ?_
  intro pr_ en_ st_ me_ args below meth_ co_ s₁ Bd hml0 hP hK
  obtain ⟨rfl, hZ, hh⟩ := hP
  have hx := Bd.exec
  have hby := Bd.bytes
  have hml : co_.maxLocals = 3 := hml0
  have hown : st_.vm.findClass "com/example/slot1/slot1/balance/Options" = some me_.cls := findClass_of_methodNamed Bd.named
  have hnm := (name_of_methodNamed Bd.named Bd.method).1
  have X0 : Stand pr_ l en_ ({ frames := 0, cells := 0, slots := 0, locals := 0 } : Room) st_ me_ #[(.ref a), (.ref b)] below meth_ co_ s₁ [] 0 0 := Stand.of_body Bd
  have e0 : s₁.heap = h0 := by rw [← hh, Bd.state]; rfl
  have N0 := Fr.nil n0
  have K0 := Keep.refl h0 []
  obtain ⟨G, gv, gf, gb⟩ := own_G pr_.tables en_ below st_ (Q_str Z a b h0 n0) ({ frames := 0, cells := 0, slots := 0, locals := 0 } : Room).cells ({ frames := 0, cells := 0, slots := 0, locals := 0 } : Room).slots
  show own_Fin pr_.tables en_ below st_ (Q_str Z a b h0 n0) ({ frames := 0, cells := 0, slots := 0, locals := 0 } : Room).cells ({ frames := 0, cells := 0, slots := 0, locals := 0 } : Room).slots (s₁.setTop (entryFrame me_ #[(.ref a), (.ref b)] 3))
  refine gb _ (gv (fun tQ kQ => castTop (ef_8 me_ a b) kQ) ?_)
  show G (s₁.setTop (mkF me_ 0 #[.val (.ref a), .val (.ref b), .unset] []))
  refine gv (fun tQ kQ => XS.aloadN X0.here hx rfl (hb hby d5_0) rfl rfl kQ) ?_
  show G (s₁.setTop (mkF me_ 1 #[.val (.ref a), .val (.ref b), .unset] [(.ref a)]))
  obtain ⟨T398, X398, e398, st398⟩ := instY X0 hx hZ hown (hw _ (List.mem_of_getElem? (i := 30) rfl)) e0 (Ins.self u0) (g := (mkF me_ 1 #[.val (.ref a), .val (.ref b), .unset] [(.ref a)])) rfl rfl (hb hby d5_1)
  refine gv st398 ?_
  show G (T398.setTop (mkF me_ 4 #[.val (.ref a), .val (.ref b), .unset] [(.int (1 : Int32))]))
  refine gv (fun tQ kQ => XS.ifNo X398.here hx rfl (hb hby d5_4) rfl ((if0 _ _).trans (feq (by decide : ¬ ((1 : Int32) = (0 : Int32)))).1) kQ) ?_
  show G (T398.setTop (mkF me_ 7 #[.val (.ref a), .val (.ref b), .unset] []))
  refine gv (fun tQ kQ => XS.aloadN X398.here hx rfl (hb hby d5_7) rfl rfl kQ) ?_
  show G (T398.setTop (mkF me_ 8 #[.val (.ref a), .val (.ref b), .unset] [(.ref a)]))
  obtain ⟨T399, X399, e399, st399⟩ := castY X398 hx hZ hown (hw _ (List.mem_of_getElem? (i := 30) rfl)) e398 (Ins.self u0) (g := (mkF me_ 8 #[.val (.ref a), .val (.ref b), .unset] [(.ref a)])) rfl rfl (hb hby d5_8)
  refine gv st399 ?_
  show G (T399.setTop (mkF me_ 11 #[.val (.ref a), .val (.ref b), .unset] [(.ref a)]))
  refine gv (fun tQ kQ => XS.astoreN X399.here hx rfl (hb hby d5_11) rfl rfl (l' := #[.val (.ref a), .val (.ref b), .val (.ref a)]) rfl kQ) ?_
  show G (T399.setTop (mkF me_ 12 #[.val (.ref a), .val (.ref b), .val (.ref a)] []))
  refine gv (fun tQ kQ => XS.goto X399.here hx rfl (pc0 := 12) (pc' := 22) rfl (hb hby d5_12) (by decide) (by decide) kQ) ?_
  show G (T399.setTop (mkF me_ 22 #[.val (.ref a), .val (.ref b), .val (.ref a)] []))
  refine gv (fun tQ kQ => XS.aloadN X399.here hx rfl (hb hby d5_22) rfl rfl kQ) ?_
  show G (T399.setTop (mkF me_ 23 #[.val (.ref a), .val (.ref b), .val (.ref a)] [(.ref a)]))
  refine gf _ (own_ret X399 Bd.notSynchronized (v := some (.ref a)) (fun h => by rw [Bd.returns] at h; cases h) ?_ (by decide) (by decide) (fun fs hr => retOut X399 hx (t := (.object "java/lang/String")) Bd.returns rfl (Or.inr (Or.inr (Or.inr (Or.inr ⟨rfl, rfl, rfl⟩)))) (hb hby d5_23) hr))
  show Q_str Z a b h0 n0 _ T399.heap _
  rw [e399]
  exact ⟨rfl, N0, rfl⟩
theorem ef_9 (m : MethodId) (x0 : Int32) (x1 : Int32) (x2 : Int32)  : entryFrame m #[(.int x0), (.int x1), (.int x2)] maxLocals = mkF m 0 #[.val (.int x0), .val (.int x1), .val (.int x2), .unset, .unset, .unset] [] := by first | (simp [entryFrame, mkF, argsToLocals, Value.category, maxLocals]; done) | rfl
theorem pd_9 : parseMethodDescriptor "(II)Ljava/lang/String;" = some ⟨[.int, .int], some (.object "java/lang/String")⟩ := by decide +kernel
theorem pd_10 : parseMethodDescriptor "(Ljava/lang/Object;Ljava/lang/String;)Ljava/lang/String;" = some ⟨[(.object "java/lang/Object"), (.object "java/lang/String")], some (.object "java/lang/String")⟩ := by decide +kernel
def Q0 (Z : State) (p0 : Int32) (p1 : Int32) (p2 : Int32) (cs : Int32) (h0 : Heap) (n0 : Nat) (v : Option Value) (h : Heap) (L : List Loc) : Prop := v = some (.int (1 : Int32)) ∧ Fr n0 L
set_option maxRecDepth 65536 in
set_option maxHeartbeats 40000000 in
theorem rm0 (l : Launch) (Z : State) (a0 : Array Value) (hw : ∀ d ∈ tables_1, d.before a0 Z = true) (ws : List Jvm.Cond) (p0 : Int32) (p1 : Int32) (p2 : Int32) (cs : Int32) (h0 : Heap) (n0 : Nat) (O0 : Old Z n0 h0) (u0 : Sta Z Z.heap "java/lang/String" "COMPACT_STRINGS" "Z" (.int cs)) (u1 : ¬ (cs = (0 : Int32))) :
    MetFree l x (head1 (Jvm.Cond.code x code maxLocals ret :: ws) room_1) (fun aV U => aV = #[(.int p0), (.int p1), (.int p2)] ∧ Z.Warmed39 U.vm ∧ U.heap = h0 ∧ CHv Z own_EL U.vm h0 ∧ ∀ x ∈ ([] : List Addr), Safe Z own_EL U.vm h0 x) (fun _ _ _ _ _ => True) (fun _ U o U' => ∃ v L, o = .returned v ∧ Q0 Z p0 p1 p2 cs h0 n0 v U'.heap L ∧ CHr Z own_EL U.vm U.heap U'.vm U'.heap ∧ ReturnedEndW U o U' L room_1.cells room_1.slots) := by
  refine MetFree.of_bodySF (plainFor_of_name pn_3) hisR ?_
  intro pr_ en_ st_ me_ args below meth_ co_ s₁ Bd hml0 hP hK
  obtain ⟨rfl, hZ, hh, hCH, hSF⟩ := hP
  have hx := Bd.exec
  have hby := Bd.bytes
  have hEL := own_hEL hw
  have wS := own_wS hw
  have hml : co_.maxLocals = 6 := hml0
  have hown : st_.vm.findClass "com/example/slot1/slot1/balance/OptionsStringPinLaw" = some me_.cls := findClass_of_methodNamed Bd.named
  have hnm := (name_of_methodNamed Bd.named Bd.method).1
  have X0 : Stand pr_ l en_ room_1 (st_.setVm st_.vm) me_ #[(.int p0), (.int p1), (.int p2)] below meth_ co_ s₁ [] 0 0 := Stand.of_body Bd
  have e0 : s₁.heap = h0 := by rw [← hh, Bd.state]; rfl
  have N0 := Fr.nil n0
  have K0 := Keep.refl h0 []
  have hS : st_.Since st_.vm 0 := (State.WarmedH.refl st_).since 0
  have hk : 0 ≤ h0.size := Nat.zero_le _
  have CR : CHr Z own_EL st_.vm h0 st_.vm h0 := CHr.refl hCH
  obtain ⟨G, gv, gf, gb⟩ := own_GW Z own_EL pr_.tables en_ below st_ (Q0 Z p0 p1 p2 cs h0 n0) room_1.cells room_1.slots
  show own_FinW Z own_EL pr_.tables en_ below st_ (Q0 Z p0 p1 p2 cs h0 n0) room_1.cells room_1.slots (s₁.setTop (entryFrame me_ #[(.int p0), (.int p1), (.int p2)] maxLocals))
  refine gb _ (gv (fun tQ kQ => castTop (ef_9 me_ p0 p1 p2) kQ) ?_)
  show G (s₁.setTop (mkF me_ 0 #[.val (.int p0), .val (.int p1), .val (.int p2), .unset, .unset, .unset] []))
  refine gv (fun tQ kQ => XS.iloadN X0.here hx rfl (hb hby at_0) rfl kQ) ?_
  show G (s₁.setTop (mkF me_ 1 #[.val (.int p0), .val (.int p1), .val (.int p2), .unset, .unset, .unset] [(.int p0)]))
  refine gv (fun tQ kQ => XS.iconst X0.here hx rfl (hb hby at_1) kQ) ?_
  show G (s₁.setTop (mkF me_ 2 #[.val (.int p0), .val (.int p1), .val (.int p2), .unset, .unset, .unset] [(.int (3 : Int32)), (.int p0)]))
  refine gv (fun tQ kQ => XS.iand X0.here hx rfl (hb hby at_2) rfl kQ) ?_
  show G (s₁.setTop (mkF me_ 3 #[.val (.int p0), .val (.int p1), .val (.int p2), .unset, .unset, .unset] [(.int (p0 &&& (3 : Int32)))]))
  rcases own_and3 p0 with q | q | q | q
  · rw [q]
    show G (s₁.setTop (mkF me_ 3 #[.val (.int p0), .val (.int p1), .val (.int p2), .unset, .unset, .unset] [(.int (0 : Int32))]))
    refine gv (fun tQ kQ => XS.iloadN X0.here hx rfl (hb hby at_3) rfl kQ) ?_
    show G (s₁.setTop (mkF me_ 4 #[.val (.int p0), .val (.int p1), .val (.int p2), .unset, .unset, .unset] [(.int p1), (.int (0 : Int32))]))
    obtain ⟨_, _, ⟨T400, L400, k400, n400⟩, -, X400, hS400, hg400, ⟨Lc400, hQ400, l400, y400, z400, CRn400⟩, st400⟩ := callSS X0 hx (y := (⟨"com/example/slot1/slot1/balance/OptionsStringPinLaw", "make", "(II)Ljava/lang/String;"⟩ : MethodName)) hown (mvT hZ (hw _ (List.mem_of_getElem? (i := 0) rfl))) (mvT hZ (hw _ (List.mem_of_getElem? (i := 1) rfl))) (mvT hZ (hw _ (List.mem_of_getElem? (i := 2) rfl))) (mvT hZ (hw _ (List.mem_of_getElem? (i := 3) rfl))) (by decide) (own_backH (W := 0) (rm_mk0 l Z a0 hw [] p1 cs h0 n0 O0 u0 u1) hZ (hw _ (List.mem_of_getElem? (i := 3) rfl)) (hw _ (List.mem_of_getElem? (i := 2) rfl)) (by decide) (by decide) hEL CR.1 own_sf0) (g := (mkF me_ 4 #[.val (.int p0), .val (.int p1), .val (.int p2), .unset, .unset, .unset] [(.int p1), (.int (0 : Int32))])) rfl (by rw [hml]; rfl) (argsL := [(.int (0 : Int32)), (.int p1)]) (rest := []) (lenOf pd_9 rfl) rfl (by show 2 * 0 + _ ≤ _; exact Nat.le_of_eq rfl) (hb hby at_4) (fun _ _ => ⟨rfl, e0, (by decide : 0 + 6 ≤ _), (by decide : 0 + 12 ≤ _)⟩)
    dsimp only [Pt.U, Pt.locs, Pt.cells, Pt.slots] at X400 l400 y400 z400 st400 hQ400 hS400 hg400 CRn400
    subst l400 y400 z400
    have hS := foldS hS (by rw [e0]; exact hk) hS400 hg400
    have hZ : Z.Warmed39 T400.vm := State.Warmed39.trans (t := st_.setVm st_.vm) hZ hS400.1
    have hown : T400.vm.findClass "com/example/slot1/slot1/balance/OptionsStringPinLaw" = some me_.cls := by rw [hS400.1.alike.findClass]; exact hown
    have X400 : Stand pr_ l en_ _ (st_.setVm T400.vm) me_ _ below meth_ co_ T400 _ _ _ := X400
    obtain ⟨s_400, rfl, Nq400, Kq400, w400_0⟩ := hQ400
    have N401 := Fr.app N0 Nq400
    obtain ⟨h400, e400⟩ : ∃ z, T400.heap = z := ⟨_, rfl⟩
    rw [e400] at Kq400 CRn400 w400_0
    have CR := CR.trans CRn400
    obtain ⟨kk400, hkk400⟩ : ∃ z, z = T400.heap.size := ⟨_, rfl⟩
    rw [← hkk400] at hS
    have hk : kk400 ≤ h400.size := by rw [hkk400, e400]; exact Nat.le_refl _
    have O402 := O0.keep Kq400 all0
    refine gv (fun tQ kQ => st400.trans kQ) ?_
    show G (T400.setTop (mkF me_ 7 #[.val (.int p0), .val (.int p1), .val (.int p2), .unset, .unset, .unset] [(.ref s_400)]))
    refine gv (fun tQ kQ => XS.astoreN X400.here hx rfl (hb hby at_7) rfl rfl (l' := #[.val (.int p0), .val (.int p1), .val (.int p2), .val (.ref s_400), .unset, .unset]) rfl kQ) ?_
    show G (T400.setTop (mkF me_ 8 #[.val (.int p0), .val (.int p1), .val (.int p2), .val (.ref s_400), .unset, .unset] []))
    refine gv (fun tQ kQ => XS.iloadN X400.here hx rfl (hb hby at_8) rfl kQ) ?_
    show G (T400.setTop (mkF me_ 9 #[.val (.int p0), .val (.int p1), .val (.int p2), .val (.ref s_400), .unset, .unset] [(.int p0)]))
    refine gv (fun tQ kQ => XS.iconst X400.here hx rfl (hb hby at_9) kQ) ?_
    show G (T400.setTop (mkF me_ 10 #[.val (.int p0), .val (.int p1), .val (.int p2), .val (.ref s_400), .unset, .unset] [(.int (2 : Int32)), (.int p0)]))
    refine gv (fun tQ kQ => XS.iushr X400.here hx rfl (hb hby at_10) rfl kQ) ?_
    show G (T400.setTop (mkF me_ 11 #[.val (.int p0), .val (.int p1), .val (.int p2), .val (.ref s_400), .unset, .unset] [(.int ((p0.toUInt32 >>> ((2 : Int32) &&& 31).toUInt32).toInt32))]))
    refine gv (fun tQ kQ => XS.iconst X400.here hx rfl (hb hby at_11) kQ) ?_
    show G (T400.setTop (mkF me_ 12 #[.val (.int p0), .val (.int p1), .val (.int p2), .val (.ref s_400), .unset, .unset] [(.int (3 : Int32)), (.int ((p0.toUInt32 >>> ((2 : Int32) &&& 31).toUInt32).toInt32))]))
    refine gv (fun tQ kQ => XS.iand X400.here hx rfl (hb hby at_12) rfl kQ) ?_
    show G (T400.setTop (mkF me_ 13 #[.val (.int p0), .val (.int p1), .val (.int p2), .val (.ref s_400), .unset, .unset] [(.int (((p0.toUInt32 >>> ((2 : Int32) &&& 31).toUInt32).toInt32) &&& (3 : Int32)))]))
    rcases own_and3 ((p0.toUInt32 >>> ((2 : Int32) &&& 31).toUInt32).toInt32) with q | q | q | q
    · rw [q]
      show G (T400.setTop (mkF me_ 13 #[.val (.int p0), .val (.int p1), .val (.int p2), .val (.ref s_400), .unset, .unset] [(.int (0 : Int32))]))
      refine gv (fun tQ kQ => XS.iloadN X400.here hx rfl (hb hby at_13) rfl kQ) ?_
      show G (T400.setTop (mkF me_ 14 #[.val (.int p0), .val (.int p1), .val (.int p2), .val (.ref s_400), .unset, .unset] [(.int p2), (.int (0 : Int32))]))
      obtain ⟨_, _, ⟨T403, L403, k403, n403⟩, -, X403, hS403, hg403, ⟨Lc403, hQ403, l403, y403, z403, CRn403⟩, st403⟩ := callSS X400 hx (y := (⟨"com/example/slot1/slot1/balance/OptionsStringPinLaw", "make", "(II)Ljava/lang/String;"⟩ : MethodName)) hown (mvT hZ (hw _ (List.mem_of_getElem? (i := 0) rfl))) (mvT hZ (hw _ (List.mem_of_getElem? (i := 1) rfl))) (mvT hZ (hw _ (List.mem_of_getElem? (i := 2) rfl))) (mvT hZ (hw _ (List.mem_of_getElem? (i := 3) rfl))) (by decide) (own_backH (W := 0) (rm_mk0 l Z a0 hw [] p2 cs h400 n0 O402 u0 u1) hZ (hw _ (List.mem_of_getElem? (i := 3) rfl)) (hw _ (List.mem_of_getElem? (i := 2) rfl)) (by decide) (by decide) hEL CR.1 own_sf0) (g := (mkF me_ 14 #[.val (.int p0), .val (.int p1), .val (.int p2), .val (.ref s_400), .unset, .unset] [(.int p2), (.int (0 : Int32))])) rfl (by rw [hml]; rfl) (argsL := [(.int (0 : Int32)), (.int p2)]) (rest := []) (lenOf pd_9 rfl) rfl (by show 2 * 0 + _ ≤ _; exact Nat.le_of_eq rfl) (hb hby at_14) (fun _ _ => ⟨rfl, e400, (by decide : 6 + 6 ≤ _), (by decide : 12 + 12 ≤ _)⟩)
      dsimp only [Pt.U, Pt.locs, Pt.cells, Pt.slots] at X403 l403 y403 z403 st403 hQ403 hS403 hg403 CRn403
      subst l403 y403 z403
      have hS := foldS hS (by rw [e400]; exact hk) hS403 hg403
      have hZ : Z.Warmed39 T403.vm := State.Warmed39.trans (t := st_.setVm T400.vm) hZ hS403.1
      have hown : T403.vm.findClass "com/example/slot1/slot1/balance/OptionsStringPinLaw" = some me_.cls := by rw [hS403.1.alike.findClass]; exact hown
      have X403 : Stand pr_ l en_ _ (st_.setVm T403.vm) me_ _ below meth_ co_ T403 _ _ _ := X403
      obtain ⟨s_403, rfl, Nq403, Kq403, w403_0⟩ := hQ403
      have N404 := Fr.app N401 Nq403
      obtain ⟨h403, e403⟩ : ∃ z, T403.heap = z := ⟨_, rfl⟩
      rw [e403] at Kq403 CRn403 w403_0
      have CR := CR.trans CRn403
      obtain ⟨kk403, hkk403⟩ : ∃ z, z = T403.heap.size := ⟨_, rfl⟩
      rw [← hkk403] at hS
      have hk : kk403 ≤ h403.size := by rw [hkk403, e403]; exact Nat.le_refl _
      have f405 : Exa Z h403 s_400 "java/lang/String" := w400_0.keep Kq403
      have O406 := O402.keep Kq403 all0
      refine gv (fun tQ kQ => st403.trans kQ) ?_
      show G (T403.setTop (mkF me_ 17 #[.val (.int p0), .val (.int p1), .val (.int p2), .val (.ref s_400), .unset, .unset] [(.ref s_403)]))
      refine gv (fun tQ kQ => XS.astore X403.here hx rfl (hb hby at_17) rfl rfl (l' := #[.val (.int p0), .val (.int p1), .val (.int p2), .val (.ref s_400), .val (.ref s_403), .unset]) rfl kQ) ?_
      show G (T403.setTop (mkF me_ 19 #[.val (.int p0), .val (.int p1), .val (.int p2), .val (.ref s_400), .val (.ref s_403), .unset] []))
      refine gv (fun tQ kQ => XS.aloadN X403.here hx rfl (hb hby at_19) rfl rfl kQ) ?_
      show G (T403.setTop (mkF me_ 20 #[.val (.int p0), .val (.int p1), .val (.int p2), .val (.ref s_400), .val (.ref s_403), .unset] [(.ref s_400)]))
      refine gv (fun tQ kQ => XS.aload X403.here hx rfl (hb hby at_20) rfl rfl kQ) ?_
      show G (T403.setTop (mkF me_ 22 #[.val (.int p0), .val (.int p1), .val (.int p2), .val (.ref s_400), .val (.ref s_403), .unset] [(.ref s_403), (.ref s_400)]))
      obtain ⟨_, _, ⟨T407, L407, k407, n407⟩, -, X407, ⟨Lc407, hQ407, l407, y407, z407⟩, st407⟩ := Jvm.LawKit.callS X403 hx (y := (⟨"com/example/slot1/slot1/balance/Options", "string", "(Ljava/lang/Object;Ljava/lang/String;)Ljava/lang/String;"⟩ : MethodName)) hown (mvT hZ (hw _ (List.mem_of_getElem? (i := 26) rfl))) (mvT hZ (hw _ (List.mem_of_getElem? (i := 27) rfl))) (mvT hZ (hw _ (List.mem_of_getElem? (i := 28) rfl))) (mvT hZ (hw _ (List.mem_of_getElem? (i := 29) rfl))) (by decide) (backOf (W := 0) (rm_str l Z a0 hw [] s_400 s_403 h403 n0 O406 f405) hZ (hw _ (List.mem_of_getElem? (i := 29) rfl)) (hw _ (List.mem_of_getElem? (i := 28) rfl)) (by decide) (by decide)) (g := (mkF me_ 22 #[.val (.int p0), .val (.int p1), .val (.int p2), .val (.ref s_400), .val (.ref s_403), .unset] [(.ref s_403), (.ref s_400)])) rfl (by rw [hml]; rfl) (argsL := [(.ref s_400), (.ref s_403)]) (rest := []) (lenOf pd_10 rfl) rfl (by show 2 * 0 + _ ≤ _; exact Nat.le_of_eq rfl) (hb hby at_22) (fun _ _ => ⟨rfl, e403, (by decide : 12 + 0 ≤ _), (by decide : 24 + 0 ≤ _)⟩)
      dsimp only [Pt.U, Pt.locs, Pt.cells, Pt.slots] at X407 l407 y407 z407 st407 hQ407
      subst l407 y407 z407
      obtain ⟨rfl, Nq407, eq407⟩ := hQ407
      have N408 := Fr.app N404 Nq407
      refine gv st407 ?_
      show G (T407.setTop (mkF me_ 25 #[.val (.int p0), .val (.int p1), .val (.int p2), .val (.ref s_400), .val (.ref s_403), .unset] [(.ref s_400)]))
      refine gv (fun tQ kQ => XS.astore X407.here hx rfl (hb hby at_25) rfl rfl (l' := #[.val (.int p0), .val (.int p1), .val (.int p2), .val (.ref s_400), .val (.ref s_403), .val (.ref s_400)]) rfl kQ) ?_
      show G (T407.setTop (mkF me_ 27 #[.val (.int p0), .val (.int p1), .val (.int p2), .val (.ref s_400), .val (.ref s_403), .val (.ref s_400)] []))
      refine gv (fun tQ kQ => XS.aload X407.here hx rfl (hb hby at_27) rfl rfl kQ) ?_
      show G (T407.setTop (mkF me_ 29 #[.val (.int p0), .val (.int p1), .val (.int p2), .val (.ref s_400), .val (.ref s_403), .val (.ref s_400)] [(.ref s_400)]))
      refine gv (fun tQ kQ => XS.aloadN X407.here hx rfl (hb hby at_29) rfl rfl kQ) ?_
      show G (T407.setTop (mkF me_ 30 #[.val (.int p0), .val (.int p1), .val (.int p2), .val (.ref s_400), .val (.ref s_403), .val (.ref s_400)] [(.ref s_400), (.ref s_400)]))
      refine gv (fun tQ kQ => Jvm.RoadKit.acmp (g := (mkF me_ 30 #[.val (.int p0), .val (.int p1), .val (.int p2), .val (.ref s_400), .val (.ref s_403), .val (.ref s_400)] [(.ref s_400), (.ref s_400)])) X407 hx rfl rfl rfl (pc0 := 30) (pc' := 33) (same := true) rfl (hb hby at_30) rfl (decide_eq_true rfl) (by decide) (by decide) kQ) ?_
      show G (T407.setTop (mkF me_ 33 #[.val (.int p0), .val (.int p1), .val (.int p2), .val (.ref s_400), .val (.ref s_403), .val (.ref s_400)] []))
      refine gv (fun tQ kQ => XS.iconst X407.here hx rfl (hb hby at_33) kQ) ?_
      show G (T407.setTop (mkF me_ 34 #[.val (.int p0), .val (.int p1), .val (.int p2), .val (.ref s_400), .val (.ref s_403), .val (.ref s_400)] [(.int (1 : Int32))]))
      refine gv (fun tQ kQ => XS.goto X407.here hx rfl (pc0 := 34) (pc' := 38) rfl (hb hby at_34) (by decide) (by decide) kQ) ?_
      show G (T407.setTop (mkF me_ 38 #[.val (.int p0), .val (.int p1), .val (.int p2), .val (.ref s_400), .val (.ref s_403), .val (.ref s_400)] [(.int (1 : Int32))]))
      refine gf _ (own_retW X407 Bd.notSynchronized hS (by rw [eq407]; exact hk) (v := some (.int (1 : Int32))) (fun h => by rw [Bd.returns] at h; cases h) ?_ (by decide) (by decide) (by rw [hh, eq407]; exact CR.trans (CHv.at X407 hZ hEL CR.1)) (fun fs hr => retN X407 hx (t := .boolean) Bd.returns (by simp) (hb hby at_38) hr))
      show Q0 Z p0 p1 p2 cs h0 n0 _ T407.heap _
      rw [eq407]
      exact ⟨rfl, N408⟩
    · rw [q]
      show G (T400.setTop (mkF me_ 13 #[.val (.int p0), .val (.int p1), .val (.int p2), .val (.ref s_400), .unset, .unset] [(.int (1 : Int32))]))
      refine gv (fun tQ kQ => XS.iloadN X400.here hx rfl (hb hby at_13) rfl kQ) ?_
      show G (T400.setTop (mkF me_ 14 #[.val (.int p0), .val (.int p1), .val (.int p2), .val (.ref s_400), .unset, .unset] [(.int p2), (.int (1 : Int32))]))
      obtain ⟨_, _, ⟨T409, L409, k409, n409⟩, -, X409, ⟨Lc409, hQ409, l409, y409, z409⟩, st409⟩ := Jvm.LawKit.callS X400 hx (y := (⟨"com/example/slot1/slot1/balance/OptionsStringPinLaw", "make", "(II)Ljava/lang/String;"⟩ : MethodName)) hown (mvT hZ (hw _ (List.mem_of_getElem? (i := 0) rfl))) (mvT hZ (hw _ (List.mem_of_getElem? (i := 1) rfl))) (mvT hZ (hw _ (List.mem_of_getElem? (i := 2) rfl))) (mvT hZ (hw _ (List.mem_of_getElem? (i := 3) rfl))) (by decide) (backOf (W := 0) (rm_mk1 l Z a0 hw [] p2 cs h400 n0 O402 u0 u1) hZ (hw _ (List.mem_of_getElem? (i := 3) rfl)) (hw _ (List.mem_of_getElem? (i := 2) rfl)) (by decide) (by decide)) (g := (mkF me_ 14 #[.val (.int p0), .val (.int p1), .val (.int p2), .val (.ref s_400), .unset, .unset] [(.int p2), (.int (1 : Int32))])) rfl (by rw [hml]; rfl) (argsL := [(.int (1 : Int32)), (.int p2)]) (rest := []) (lenOf pd_9 rfl) rfl (by show 2 * 0 + _ ≤ _; exact Nat.le_of_eq rfl) (hb hby at_14) (fun _ _ => ⟨rfl, e400, (by decide : 6 + 2 ≤ _), (by decide : 12 + 5 ≤ _)⟩)
      dsimp only [Pt.U, Pt.locs, Pt.cells, Pt.slots] at X409 l409 y409 z409 st409 hQ409
      subst l409 y409 z409
      obtain ⟨s_409, rfl, Nq409, Kq409, w409_0⟩ := hQ409
      have N410 := Fr.app N401 Nq409
      obtain ⟨h409, e409⟩ : ∃ z, T409.heap = z := ⟨_, rfl⟩
      rw [e409] at Kq409 w409_0
      have CR := CR.trans (CHr.keep Kq409 sf0 CR.1)
      have hk := Nat.le_trans hk Kq409.1
      have f411 : Exa Z h409 s_400 "java/lang/String" := w400_0.keep Kq409
      have O412 := O402.keep Kq409 all0
      refine gv st409 ?_
      show G (T409.setTop (mkF me_ 17 #[.val (.int p0), .val (.int p1), .val (.int p2), .val (.ref s_400), .unset, .unset] [(.ref s_409)]))
      refine gv (fun tQ kQ => XS.astore X409.here hx rfl (hb hby at_17) rfl rfl (l' := #[.val (.int p0), .val (.int p1), .val (.int p2), .val (.ref s_400), .val (.ref s_409), .unset]) rfl kQ) ?_
      show G (T409.setTop (mkF me_ 19 #[.val (.int p0), .val (.int p1), .val (.int p2), .val (.ref s_400), .val (.ref s_409), .unset] []))
      refine gv (fun tQ kQ => XS.aloadN X409.here hx rfl (hb hby at_19) rfl rfl kQ) ?_
      show G (T409.setTop (mkF me_ 20 #[.val (.int p0), .val (.int p1), .val (.int p2), .val (.ref s_400), .val (.ref s_409), .unset] [(.ref s_400)]))
      refine gv (fun tQ kQ => XS.aload X409.here hx rfl (hb hby at_20) rfl rfl kQ) ?_
      show G (T409.setTop (mkF me_ 22 #[.val (.int p0), .val (.int p1), .val (.int p2), .val (.ref s_400), .val (.ref s_409), .unset] [(.ref s_409), (.ref s_400)]))
      obtain ⟨_, _, ⟨T413, L413, k413, n413⟩, -, X413, ⟨Lc413, hQ413, l413, y413, z413⟩, st413⟩ := Jvm.LawKit.callS X409 hx (y := (⟨"com/example/slot1/slot1/balance/Options", "string", "(Ljava/lang/Object;Ljava/lang/String;)Ljava/lang/String;"⟩ : MethodName)) hown (mvT hZ (hw _ (List.mem_of_getElem? (i := 26) rfl))) (mvT hZ (hw _ (List.mem_of_getElem? (i := 27) rfl))) (mvT hZ (hw _ (List.mem_of_getElem? (i := 28) rfl))) (mvT hZ (hw _ (List.mem_of_getElem? (i := 29) rfl))) (by decide) (backOf (W := 0) (rm_str l Z a0 hw [] s_400 s_409 h409 n0 O412 f411) hZ (hw _ (List.mem_of_getElem? (i := 29) rfl)) (hw _ (List.mem_of_getElem? (i := 28) rfl)) (by decide) (by decide)) (g := (mkF me_ 22 #[.val (.int p0), .val (.int p1), .val (.int p2), .val (.ref s_400), .val (.ref s_409), .unset] [(.ref s_409), (.ref s_400)])) rfl (by rw [hml]; rfl) (argsL := [(.ref s_400), (.ref s_409)]) (rest := []) (lenOf pd_10 rfl) rfl (by show 2 * 0 + _ ≤ _; exact Nat.le_of_eq rfl) (hb hby at_22) (fun _ _ => ⟨rfl, e409, (by decide : 8 + 0 ≤ _), (by decide : 17 + 0 ≤ _)⟩)
      dsimp only [Pt.U, Pt.locs, Pt.cells, Pt.slots] at X413 l413 y413 z413 st413 hQ413
      subst l413 y413 z413
      obtain ⟨rfl, Nq413, eq413⟩ := hQ413
      have N414 := Fr.app N410 Nq413
      refine gv st413 ?_
      show G (T413.setTop (mkF me_ 25 #[.val (.int p0), .val (.int p1), .val (.int p2), .val (.ref s_400), .val (.ref s_409), .unset] [(.ref s_400)]))
      refine gv (fun tQ kQ => XS.astore X413.here hx rfl (hb hby at_25) rfl rfl (l' := #[.val (.int p0), .val (.int p1), .val (.int p2), .val (.ref s_400), .val (.ref s_409), .val (.ref s_400)]) rfl kQ) ?_
      show G (T413.setTop (mkF me_ 27 #[.val (.int p0), .val (.int p1), .val (.int p2), .val (.ref s_400), .val (.ref s_409), .val (.ref s_400)] []))
      refine gv (fun tQ kQ => XS.aload X413.here hx rfl (hb hby at_27) rfl rfl kQ) ?_
      show G (T413.setTop (mkF me_ 29 #[.val (.int p0), .val (.int p1), .val (.int p2), .val (.ref s_400), .val (.ref s_409), .val (.ref s_400)] [(.ref s_400)]))
      refine gv (fun tQ kQ => XS.aloadN X413.here hx rfl (hb hby at_29) rfl rfl kQ) ?_
      show G (T413.setTop (mkF me_ 30 #[.val (.int p0), .val (.int p1), .val (.int p2), .val (.ref s_400), .val (.ref s_409), .val (.ref s_400)] [(.ref s_400), (.ref s_400)]))
      refine gv (fun tQ kQ => Jvm.RoadKit.acmp (g := (mkF me_ 30 #[.val (.int p0), .val (.int p1), .val (.int p2), .val (.ref s_400), .val (.ref s_409), .val (.ref s_400)] [(.ref s_400), (.ref s_400)])) X413 hx rfl rfl rfl (pc0 := 30) (pc' := 33) (same := true) rfl (hb hby at_30) rfl (decide_eq_true rfl) (by decide) (by decide) kQ) ?_
      show G (T413.setTop (mkF me_ 33 #[.val (.int p0), .val (.int p1), .val (.int p2), .val (.ref s_400), .val (.ref s_409), .val (.ref s_400)] []))
      refine gv (fun tQ kQ => XS.iconst X413.here hx rfl (hb hby at_33) kQ) ?_
      show G (T413.setTop (mkF me_ 34 #[.val (.int p0), .val (.int p1), .val (.int p2), .val (.ref s_400), .val (.ref s_409), .val (.ref s_400)] [(.int (1 : Int32))]))
      refine gv (fun tQ kQ => XS.goto X413.here hx rfl (pc0 := 34) (pc' := 38) rfl (hb hby at_34) (by decide) (by decide) kQ) ?_
      show G (T413.setTop (mkF me_ 38 #[.val (.int p0), .val (.int p1), .val (.int p2), .val (.ref s_400), .val (.ref s_409), .val (.ref s_400)] [(.int (1 : Int32))]))
      refine gf _ (own_retW X413 Bd.notSynchronized hS (by rw [eq413]; exact hk) (v := some (.int (1 : Int32))) (fun h => by rw [Bd.returns] at h; cases h) ?_ (by decide) (by decide) (by rw [hh, eq413]; exact CR.trans (CHv.at X413 hZ hEL CR.1)) (fun fs hr => retN X413 hx (t := .boolean) Bd.returns (by simp) (hb hby at_38) hr))
      show Q0 Z p0 p1 p2 cs h0 n0 _ T413.heap _
      rw [eq413]
      exact ⟨rfl, N414⟩
    · rw [q]
      show G (T400.setTop (mkF me_ 13 #[.val (.int p0), .val (.int p1), .val (.int p2), .val (.ref s_400), .unset, .unset] [(.int (2 : Int32))]))
      refine gv (fun tQ kQ => XS.iloadN X400.here hx rfl (hb hby at_13) rfl kQ) ?_
      show G (T400.setTop (mkF me_ 14 #[.val (.int p0), .val (.int p1), .val (.int p2), .val (.ref s_400), .unset, .unset] [(.int p2), (.int (2 : Int32))]))
      obtain ⟨_, _, ⟨T415, L415, k415, n415⟩, -, X415, ⟨Lc415, hQ415, l415, y415, z415⟩, st415⟩ := Jvm.LawKit.callS X400 hx (y := (⟨"com/example/slot1/slot1/balance/OptionsStringPinLaw", "make", "(II)Ljava/lang/String;"⟩ : MethodName)) hown (mvT hZ (hw _ (List.mem_of_getElem? (i := 0) rfl))) (mvT hZ (hw _ (List.mem_of_getElem? (i := 1) rfl))) (mvT hZ (hw _ (List.mem_of_getElem? (i := 2) rfl))) (mvT hZ (hw _ (List.mem_of_getElem? (i := 3) rfl))) (by decide) (backOf (W := 0) (rm_mk2 l Z a0 hw [] p2 cs h400 n0 O402 u0 u1) hZ (hw _ (List.mem_of_getElem? (i := 3) rfl)) (hw _ (List.mem_of_getElem? (i := 2) rfl)) (by decide) (by decide)) (g := (mkF me_ 14 #[.val (.int p0), .val (.int p1), .val (.int p2), .val (.ref s_400), .unset, .unset] [(.int p2), (.int (2 : Int32))])) rfl (by rw [hml]; rfl) (argsL := [(.int (2 : Int32)), (.int p2)]) (rest := []) (lenOf pd_9 rfl) rfl (by show 2 * 0 + _ ≤ _; exact Nat.le_of_eq rfl) (hb hby at_14) (fun _ _ => ⟨rfl, e400, (by decide : 6 + 3 ≤ _), (by decide : 12 + 8 ≤ _)⟩)
      dsimp only [Pt.U, Pt.locs, Pt.cells, Pt.slots] at X415 l415 y415 z415 st415 hQ415
      subst l415 y415 z415
      obtain ⟨s_415, rfl, Nq415, Kq415, w415_0⟩ := hQ415
      have N416 := Fr.app N401 Nq415
      obtain ⟨h415, e415⟩ : ∃ z, T415.heap = z := ⟨_, rfl⟩
      rw [e415] at Kq415 w415_0
      have CR := CR.trans (CHr.keep Kq415 sf0 CR.1)
      have hk := Nat.le_trans hk Kq415.1
      have f417 : Exa Z h415 s_400 "java/lang/String" := w400_0.keep Kq415
      have O418 := O402.keep Kq415 all0
      refine gv st415 ?_
      show G (T415.setTop (mkF me_ 17 #[.val (.int p0), .val (.int p1), .val (.int p2), .val (.ref s_400), .unset, .unset] [(.ref s_415)]))
      refine gv (fun tQ kQ => XS.astore X415.here hx rfl (hb hby at_17) rfl rfl (l' := #[.val (.int p0), .val (.int p1), .val (.int p2), .val (.ref s_400), .val (.ref s_415), .unset]) rfl kQ) ?_
      show G (T415.setTop (mkF me_ 19 #[.val (.int p0), .val (.int p1), .val (.int p2), .val (.ref s_400), .val (.ref s_415), .unset] []))
      refine gv (fun tQ kQ => XS.aloadN X415.here hx rfl (hb hby at_19) rfl rfl kQ) ?_
      show G (T415.setTop (mkF me_ 20 #[.val (.int p0), .val (.int p1), .val (.int p2), .val (.ref s_400), .val (.ref s_415), .unset] [(.ref s_400)]))
      refine gv (fun tQ kQ => XS.aload X415.here hx rfl (hb hby at_20) rfl rfl kQ) ?_
      show G (T415.setTop (mkF me_ 22 #[.val (.int p0), .val (.int p1), .val (.int p2), .val (.ref s_400), .val (.ref s_415), .unset] [(.ref s_415), (.ref s_400)]))
      obtain ⟨_, _, ⟨T419, L419, k419, n419⟩, -, X419, ⟨Lc419, hQ419, l419, y419, z419⟩, st419⟩ := Jvm.LawKit.callS X415 hx (y := (⟨"com/example/slot1/slot1/balance/Options", "string", "(Ljava/lang/Object;Ljava/lang/String;)Ljava/lang/String;"⟩ : MethodName)) hown (mvT hZ (hw _ (List.mem_of_getElem? (i := 26) rfl))) (mvT hZ (hw _ (List.mem_of_getElem? (i := 27) rfl))) (mvT hZ (hw _ (List.mem_of_getElem? (i := 28) rfl))) (mvT hZ (hw _ (List.mem_of_getElem? (i := 29) rfl))) (by decide) (backOf (W := 0) (rm_str l Z a0 hw [] s_400 s_415 h415 n0 O418 f417) hZ (hw _ (List.mem_of_getElem? (i := 29) rfl)) (hw _ (List.mem_of_getElem? (i := 28) rfl)) (by decide) (by decide)) (g := (mkF me_ 22 #[.val (.int p0), .val (.int p1), .val (.int p2), .val (.ref s_400), .val (.ref s_415), .unset] [(.ref s_415), (.ref s_400)])) rfl (by rw [hml]; rfl) (argsL := [(.ref s_400), (.ref s_415)]) (rest := []) (lenOf pd_10 rfl) rfl (by show 2 * 0 + _ ≤ _; exact Nat.le_of_eq rfl) (hb hby at_22) (fun _ _ => ⟨rfl, e415, (by decide : 9 + 0 ≤ _), (by decide : 20 + 0 ≤ _)⟩)
      dsimp only [Pt.U, Pt.locs, Pt.cells, Pt.slots] at X419 l419 y419 z419 st419 hQ419
      subst l419 y419 z419
      obtain ⟨rfl, Nq419, eq419⟩ := hQ419
      have N420 := Fr.app N416 Nq419
      refine gv st419 ?_
      show G (T419.setTop (mkF me_ 25 #[.val (.int p0), .val (.int p1), .val (.int p2), .val (.ref s_400), .val (.ref s_415), .unset] [(.ref s_400)]))
      refine gv (fun tQ kQ => XS.astore X419.here hx rfl (hb hby at_25) rfl rfl (l' := #[.val (.int p0), .val (.int p1), .val (.int p2), .val (.ref s_400), .val (.ref s_415), .val (.ref s_400)]) rfl kQ) ?_
      show G (T419.setTop (mkF me_ 27 #[.val (.int p0), .val (.int p1), .val (.int p2), .val (.ref s_400), .val (.ref s_415), .val (.ref s_400)] []))
      refine gv (fun tQ kQ => XS.aload X419.here hx rfl (hb hby at_27) rfl rfl kQ) ?_
      show G (T419.setTop (mkF me_ 29 #[.val (.int p0), .val (.int p1), .val (.int p2), .val (.ref s_400), .val (.ref s_415), .val (.ref s_400)] [(.ref s_400)]))
      refine gv (fun tQ kQ => XS.aloadN X419.here hx rfl (hb hby at_29) rfl rfl kQ) ?_
      show G (T419.setTop (mkF me_ 30 #[.val (.int p0), .val (.int p1), .val (.int p2), .val (.ref s_400), .val (.ref s_415), .val (.ref s_400)] [(.ref s_400), (.ref s_400)]))
      refine gv (fun tQ kQ => Jvm.RoadKit.acmp (g := (mkF me_ 30 #[.val (.int p0), .val (.int p1), .val (.int p2), .val (.ref s_400), .val (.ref s_415), .val (.ref s_400)] [(.ref s_400), (.ref s_400)])) X419 hx rfl rfl rfl (pc0 := 30) (pc' := 33) (same := true) rfl (hb hby at_30) rfl (decide_eq_true rfl) (by decide) (by decide) kQ) ?_
      show G (T419.setTop (mkF me_ 33 #[.val (.int p0), .val (.int p1), .val (.int p2), .val (.ref s_400), .val (.ref s_415), .val (.ref s_400)] []))
      refine gv (fun tQ kQ => XS.iconst X419.here hx rfl (hb hby at_33) kQ) ?_
      show G (T419.setTop (mkF me_ 34 #[.val (.int p0), .val (.int p1), .val (.int p2), .val (.ref s_400), .val (.ref s_415), .val (.ref s_400)] [(.int (1 : Int32))]))
      refine gv (fun tQ kQ => XS.goto X419.here hx rfl (pc0 := 34) (pc' := 38) rfl (hb hby at_34) (by decide) (by decide) kQ) ?_
      show G (T419.setTop (mkF me_ 38 #[.val (.int p0), .val (.int p1), .val (.int p2), .val (.ref s_400), .val (.ref s_415), .val (.ref s_400)] [(.int (1 : Int32))]))
      refine gf _ (own_retW X419 Bd.notSynchronized hS (by rw [eq419]; exact hk) (v := some (.int (1 : Int32))) (fun h => by rw [Bd.returns] at h; cases h) ?_ (by decide) (by decide) (by rw [hh, eq419]; exact CR.trans (CHv.at X419 hZ hEL CR.1)) (fun fs hr => retN X419 hx (t := .boolean) Bd.returns (by simp) (hb hby at_38) hr))
      show Q0 Z p0 p1 p2 cs h0 n0 _ T419.heap _
      rw [eq419]
      exact ⟨rfl, N420⟩
    · rw [q]
      show G (T400.setTop (mkF me_ 13 #[.val (.int p0), .val (.int p1), .val (.int p2), .val (.ref s_400), .unset, .unset] [(.int (3 : Int32))]))
      refine gv (fun tQ kQ => XS.iloadN X400.here hx rfl (hb hby at_13) rfl kQ) ?_
      show G (T400.setTop (mkF me_ 14 #[.val (.int p0), .val (.int p1), .val (.int p2), .val (.ref s_400), .unset, .unset] [(.int p2), (.int (3 : Int32))]))
      obtain ⟨_, _, ⟨T421, L421, k421, n421⟩, -, X421, ⟨Lc421, hQ421, l421, y421, z421⟩, st421⟩ := Jvm.LawKit.callS X400 hx (y := (⟨"com/example/slot1/slot1/balance/OptionsStringPinLaw", "make", "(II)Ljava/lang/String;"⟩ : MethodName)) hown (mvT hZ (hw _ (List.mem_of_getElem? (i := 0) rfl))) (mvT hZ (hw _ (List.mem_of_getElem? (i := 1) rfl))) (mvT hZ (hw _ (List.mem_of_getElem? (i := 2) rfl))) (mvT hZ (hw _ (List.mem_of_getElem? (i := 3) rfl))) (by decide) (backOf (W := 0) (rm_mk3 l Z a0 hw [] p2 cs h400 n0 O402 u0 u1) hZ (hw _ (List.mem_of_getElem? (i := 3) rfl)) (hw _ (List.mem_of_getElem? (i := 2) rfl)) (by decide) (by decide)) (g := (mkF me_ 14 #[.val (.int p0), .val (.int p1), .val (.int p2), .val (.ref s_400), .unset, .unset] [(.int p2), (.int (3 : Int32))])) rfl (by rw [hml]; rfl) (argsL := [(.int (3 : Int32)), (.int p2)]) (rest := []) (lenOf pd_9 rfl) rfl (by show 2 * 0 + _ ≤ _; exact Nat.le_of_eq rfl) (hb hby at_14) (fun _ _ => ⟨rfl, e400, (by decide : 6 + 3 ≤ _), (by decide : 12 + 10 ≤ _)⟩)
      dsimp only [Pt.U, Pt.locs, Pt.cells, Pt.slots] at X421 l421 y421 z421 st421 hQ421
      subst l421 y421 z421
      obtain ⟨s_421, rfl, Nq421, Kq421, w421_0⟩ := hQ421
      have N422 := Fr.app N401 Nq421
      obtain ⟨h421, e421⟩ : ∃ z, T421.heap = z := ⟨_, rfl⟩
      rw [e421] at Kq421 w421_0
      have CR := CR.trans (CHr.keep Kq421 sf0 CR.1)
      have hk := Nat.le_trans hk Kq421.1
      have f423 : Exa Z h421 s_400 "java/lang/String" := w400_0.keep Kq421
      have O424 := O402.keep Kq421 all0
      refine gv st421 ?_
      show G (T421.setTop (mkF me_ 17 #[.val (.int p0), .val (.int p1), .val (.int p2), .val (.ref s_400), .unset, .unset] [(.ref s_421)]))
      refine gv (fun tQ kQ => XS.astore X421.here hx rfl (hb hby at_17) rfl rfl (l' := #[.val (.int p0), .val (.int p1), .val (.int p2), .val (.ref s_400), .val (.ref s_421), .unset]) rfl kQ) ?_
      show G (T421.setTop (mkF me_ 19 #[.val (.int p0), .val (.int p1), .val (.int p2), .val (.ref s_400), .val (.ref s_421), .unset] []))
      refine gv (fun tQ kQ => XS.aloadN X421.here hx rfl (hb hby at_19) rfl rfl kQ) ?_
      show G (T421.setTop (mkF me_ 20 #[.val (.int p0), .val (.int p1), .val (.int p2), .val (.ref s_400), .val (.ref s_421), .unset] [(.ref s_400)]))
      refine gv (fun tQ kQ => XS.aload X421.here hx rfl (hb hby at_20) rfl rfl kQ) ?_
      show G (T421.setTop (mkF me_ 22 #[.val (.int p0), .val (.int p1), .val (.int p2), .val (.ref s_400), .val (.ref s_421), .unset] [(.ref s_421), (.ref s_400)]))
      obtain ⟨_, _, ⟨T425, L425, k425, n425⟩, -, X425, ⟨Lc425, hQ425, l425, y425, z425⟩, st425⟩ := Jvm.LawKit.callS X421 hx (y := (⟨"com/example/slot1/slot1/balance/Options", "string", "(Ljava/lang/Object;Ljava/lang/String;)Ljava/lang/String;"⟩ : MethodName)) hown (mvT hZ (hw _ (List.mem_of_getElem? (i := 26) rfl))) (mvT hZ (hw _ (List.mem_of_getElem? (i := 27) rfl))) (mvT hZ (hw _ (List.mem_of_getElem? (i := 28) rfl))) (mvT hZ (hw _ (List.mem_of_getElem? (i := 29) rfl))) (by decide) (backOf (W := 0) (rm_str l Z a0 hw [] s_400 s_421 h421 n0 O424 f423) hZ (hw _ (List.mem_of_getElem? (i := 29) rfl)) (hw _ (List.mem_of_getElem? (i := 28) rfl)) (by decide) (by decide)) (g := (mkF me_ 22 #[.val (.int p0), .val (.int p1), .val (.int p2), .val (.ref s_400), .val (.ref s_421), .unset] [(.ref s_421), (.ref s_400)])) rfl (by rw [hml]; rfl) (argsL := [(.ref s_400), (.ref s_421)]) (rest := []) (lenOf pd_10 rfl) rfl (by show 2 * 0 + _ ≤ _; exact Nat.le_of_eq rfl) (hb hby at_22) (fun _ _ => ⟨rfl, e421, (by decide : 9 + 0 ≤ _), (by decide : 22 + 0 ≤ _)⟩)
      dsimp only [Pt.U, Pt.locs, Pt.cells, Pt.slots] at X425 l425 y425 z425 st425 hQ425
      subst l425 y425 z425
      obtain ⟨rfl, Nq425, eq425⟩ := hQ425
      have N426 := Fr.app N422 Nq425
      refine gv st425 ?_
      show G (T425.setTop (mkF me_ 25 #[.val (.int p0), .val (.int p1), .val (.int p2), .val (.ref s_400), .val (.ref s_421), .unset] [(.ref s_400)]))
      refine gv (fun tQ kQ => XS.astore X425.here hx rfl (hb hby at_25) rfl rfl (l' := #[.val (.int p0), .val (.int p1), .val (.int p2), .val (.ref s_400), .val (.ref s_421), .val (.ref s_400)]) rfl kQ) ?_
      show G (T425.setTop (mkF me_ 27 #[.val (.int p0), .val (.int p1), .val (.int p2), .val (.ref s_400), .val (.ref s_421), .val (.ref s_400)] []))
      refine gv (fun tQ kQ => XS.aload X425.here hx rfl (hb hby at_27) rfl rfl kQ) ?_
      show G (T425.setTop (mkF me_ 29 #[.val (.int p0), .val (.int p1), .val (.int p2), .val (.ref s_400), .val (.ref s_421), .val (.ref s_400)] [(.ref s_400)]))
      refine gv (fun tQ kQ => XS.aloadN X425.here hx rfl (hb hby at_29) rfl rfl kQ) ?_
      show G (T425.setTop (mkF me_ 30 #[.val (.int p0), .val (.int p1), .val (.int p2), .val (.ref s_400), .val (.ref s_421), .val (.ref s_400)] [(.ref s_400), (.ref s_400)]))
      refine gv (fun tQ kQ => Jvm.RoadKit.acmp (g := (mkF me_ 30 #[.val (.int p0), .val (.int p1), .val (.int p2), .val (.ref s_400), .val (.ref s_421), .val (.ref s_400)] [(.ref s_400), (.ref s_400)])) X425 hx rfl rfl rfl (pc0 := 30) (pc' := 33) (same := true) rfl (hb hby at_30) rfl (decide_eq_true rfl) (by decide) (by decide) kQ) ?_
      show G (T425.setTop (mkF me_ 33 #[.val (.int p0), .val (.int p1), .val (.int p2), .val (.ref s_400), .val (.ref s_421), .val (.ref s_400)] []))
      refine gv (fun tQ kQ => XS.iconst X425.here hx rfl (hb hby at_33) kQ) ?_
      show G (T425.setTop (mkF me_ 34 #[.val (.int p0), .val (.int p1), .val (.int p2), .val (.ref s_400), .val (.ref s_421), .val (.ref s_400)] [(.int (1 : Int32))]))
      refine gv (fun tQ kQ => XS.goto X425.here hx rfl (pc0 := 34) (pc' := 38) rfl (hb hby at_34) (by decide) (by decide) kQ) ?_
      show G (T425.setTop (mkF me_ 38 #[.val (.int p0), .val (.int p1), .val (.int p2), .val (.ref s_400), .val (.ref s_421), .val (.ref s_400)] [(.int (1 : Int32))]))
      refine gf _ (own_retW X425 Bd.notSynchronized hS (by rw [eq425]; exact hk) (v := some (.int (1 : Int32))) (fun h => by rw [Bd.returns] at h; cases h) ?_ (by decide) (by decide) (by rw [hh, eq425]; exact CR.trans (CHv.at X425 hZ hEL CR.1)) (fun fs hr => retN X425 hx (t := .boolean) Bd.returns (by simp) (hb hby at_38) hr))
      show Q0 Z p0 p1 p2 cs h0 n0 _ T425.heap _
      rw [eq425]
      exact ⟨rfl, N426⟩
  · rw [q]
    show G (s₁.setTop (mkF me_ 3 #[.val (.int p0), .val (.int p1), .val (.int p2), .unset, .unset, .unset] [(.int (1 : Int32))]))
    refine gv (fun tQ kQ => XS.iloadN X0.here hx rfl (hb hby at_3) rfl kQ) ?_
    show G (s₁.setTop (mkF me_ 4 #[.val (.int p0), .val (.int p1), .val (.int p2), .unset, .unset, .unset] [(.int p1), (.int (1 : Int32))]))
    obtain ⟨_, _, ⟨T427, L427, k427, n427⟩, -, X427, ⟨Lc427, hQ427, l427, y427, z427⟩, st427⟩ := Jvm.LawKit.callS X0 hx (y := (⟨"com/example/slot1/slot1/balance/OptionsStringPinLaw", "make", "(II)Ljava/lang/String;"⟩ : MethodName)) hown (mvT hZ (hw _ (List.mem_of_getElem? (i := 0) rfl))) (mvT hZ (hw _ (List.mem_of_getElem? (i := 1) rfl))) (mvT hZ (hw _ (List.mem_of_getElem? (i := 2) rfl))) (mvT hZ (hw _ (List.mem_of_getElem? (i := 3) rfl))) (by decide) (backOf (W := 0) (rm_mk1 l Z a0 hw [] p1 cs h0 n0 O0 u0 u1) hZ (hw _ (List.mem_of_getElem? (i := 3) rfl)) (hw _ (List.mem_of_getElem? (i := 2) rfl)) (by decide) (by decide)) (g := (mkF me_ 4 #[.val (.int p0), .val (.int p1), .val (.int p2), .unset, .unset, .unset] [(.int p1), (.int (1 : Int32))])) rfl (by rw [hml]; rfl) (argsL := [(.int (1 : Int32)), (.int p1)]) (rest := []) (lenOf pd_9 rfl) rfl (by show 2 * 0 + _ ≤ _; exact Nat.le_of_eq rfl) (hb hby at_4) (fun _ _ => ⟨rfl, e0, (by decide : 0 + 2 ≤ _), (by decide : 0 + 5 ≤ _)⟩)
    dsimp only [Pt.U, Pt.locs, Pt.cells, Pt.slots] at X427 l427 y427 z427 st427 hQ427
    subst l427 y427 z427
    obtain ⟨s_427, rfl, Nq427, Kq427, w427_0⟩ := hQ427
    have N428 := Fr.app N0 Nq427
    obtain ⟨h427, e427⟩ : ∃ z, T427.heap = z := ⟨_, rfl⟩
    rw [e427] at Kq427 w427_0
    have CR := CR.trans (CHr.keep Kq427 sf0 CR.1)
    have hk := Nat.le_trans hk Kq427.1
    have O429 := O0.keep Kq427 all0
    refine gv st427 ?_
    show G (T427.setTop (mkF me_ 7 #[.val (.int p0), .val (.int p1), .val (.int p2), .unset, .unset, .unset] [(.ref s_427)]))
    refine gv (fun tQ kQ => XS.astoreN X427.here hx rfl (hb hby at_7) rfl rfl (l' := #[.val (.int p0), .val (.int p1), .val (.int p2), .val (.ref s_427), .unset, .unset]) rfl kQ) ?_
    show G (T427.setTop (mkF me_ 8 #[.val (.int p0), .val (.int p1), .val (.int p2), .val (.ref s_427), .unset, .unset] []))
    refine gv (fun tQ kQ => XS.iloadN X427.here hx rfl (hb hby at_8) rfl kQ) ?_
    show G (T427.setTop (mkF me_ 9 #[.val (.int p0), .val (.int p1), .val (.int p2), .val (.ref s_427), .unset, .unset] [(.int p0)]))
    refine gv (fun tQ kQ => XS.iconst X427.here hx rfl (hb hby at_9) kQ) ?_
    show G (T427.setTop (mkF me_ 10 #[.val (.int p0), .val (.int p1), .val (.int p2), .val (.ref s_427), .unset, .unset] [(.int (2 : Int32)), (.int p0)]))
    refine gv (fun tQ kQ => XS.iushr X427.here hx rfl (hb hby at_10) rfl kQ) ?_
    show G (T427.setTop (mkF me_ 11 #[.val (.int p0), .val (.int p1), .val (.int p2), .val (.ref s_427), .unset, .unset] [(.int ((p0.toUInt32 >>> ((2 : Int32) &&& 31).toUInt32).toInt32))]))
    refine gv (fun tQ kQ => XS.iconst X427.here hx rfl (hb hby at_11) kQ) ?_
    show G (T427.setTop (mkF me_ 12 #[.val (.int p0), .val (.int p1), .val (.int p2), .val (.ref s_427), .unset, .unset] [(.int (3 : Int32)), (.int ((p0.toUInt32 >>> ((2 : Int32) &&& 31).toUInt32).toInt32))]))
    refine gv (fun tQ kQ => XS.iand X427.here hx rfl (hb hby at_12) rfl kQ) ?_
    show G (T427.setTop (mkF me_ 13 #[.val (.int p0), .val (.int p1), .val (.int p2), .val (.ref s_427), .unset, .unset] [(.int (((p0.toUInt32 >>> ((2 : Int32) &&& 31).toUInt32).toInt32) &&& (3 : Int32)))]))
    rcases own_and3 ((p0.toUInt32 >>> ((2 : Int32) &&& 31).toUInt32).toInt32) with q | q | q | q
    · rw [q]
      show G (T427.setTop (mkF me_ 13 #[.val (.int p0), .val (.int p1), .val (.int p2), .val (.ref s_427), .unset, .unset] [(.int (0 : Int32))]))
      refine gv (fun tQ kQ => XS.iloadN X427.here hx rfl (hb hby at_13) rfl kQ) ?_
      show G (T427.setTop (mkF me_ 14 #[.val (.int p0), .val (.int p1), .val (.int p2), .val (.ref s_427), .unset, .unset] [(.int p2), (.int (0 : Int32))]))
      obtain ⟨_, _, ⟨T430, L430, k430, n430⟩, -, X430, hS430, hg430, ⟨Lc430, hQ430, l430, y430, z430, CRn430⟩, st430⟩ := callSS X427 hx (y := (⟨"com/example/slot1/slot1/balance/OptionsStringPinLaw", "make", "(II)Ljava/lang/String;"⟩ : MethodName)) hown (mvT hZ (hw _ (List.mem_of_getElem? (i := 0) rfl))) (mvT hZ (hw _ (List.mem_of_getElem? (i := 1) rfl))) (mvT hZ (hw _ (List.mem_of_getElem? (i := 2) rfl))) (mvT hZ (hw _ (List.mem_of_getElem? (i := 3) rfl))) (by decide) (own_backH (W := 0) (rm_mk0 l Z a0 hw [] p2 cs h427 n0 O429 u0 u1) hZ (hw _ (List.mem_of_getElem? (i := 3) rfl)) (hw _ (List.mem_of_getElem? (i := 2) rfl)) (by decide) (by decide) hEL CR.1 own_sf0) (g := (mkF me_ 14 #[.val (.int p0), .val (.int p1), .val (.int p2), .val (.ref s_427), .unset, .unset] [(.int p2), (.int (0 : Int32))])) rfl (by rw [hml]; rfl) (argsL := [(.int (0 : Int32)), (.int p2)]) (rest := []) (lenOf pd_9 rfl) rfl (by show 2 * 0 + _ ≤ _; exact Nat.le_of_eq rfl) (hb hby at_14) (fun _ _ => ⟨rfl, e427, (by decide : 2 + 6 ≤ _), (by decide : 5 + 12 ≤ _)⟩)
      dsimp only [Pt.U, Pt.locs, Pt.cells, Pt.slots] at X430 l430 y430 z430 st430 hQ430 hS430 hg430 CRn430
      subst l430 y430 z430
      have hS := foldS hS (by rw [e427]; exact hk) hS430 hg430
      have hZ : Z.Warmed39 T430.vm := State.Warmed39.trans (t := st_.setVm st_.vm) hZ hS430.1
      have hown : T430.vm.findClass "com/example/slot1/slot1/balance/OptionsStringPinLaw" = some me_.cls := by rw [hS430.1.alike.findClass]; exact hown
      have X430 : Stand pr_ l en_ _ (st_.setVm T430.vm) me_ _ below meth_ co_ T430 _ _ _ := X430
      obtain ⟨s_430, rfl, Nq430, Kq430, w430_0⟩ := hQ430
      have N431 := Fr.app N428 Nq430
      obtain ⟨h430, e430⟩ : ∃ z, T430.heap = z := ⟨_, rfl⟩
      rw [e430] at Kq430 CRn430 w430_0
      have CR := CR.trans CRn430
      obtain ⟨kk430, hkk430⟩ : ∃ z, z = T430.heap.size := ⟨_, rfl⟩
      rw [← hkk430] at hS
      have hk : kk430 ≤ h430.size := by rw [hkk430, e430]; exact Nat.le_refl _
      have f432 : Exa Z h430 s_427 "java/lang/String" := w427_0.keep Kq430
      have O433 := O429.keep Kq430 all0
      refine gv (fun tQ kQ => st430.trans kQ) ?_
      show G (T430.setTop (mkF me_ 17 #[.val (.int p0), .val (.int p1), .val (.int p2), .val (.ref s_427), .unset, .unset] [(.ref s_430)]))
      refine gv (fun tQ kQ => XS.astore X430.here hx rfl (hb hby at_17) rfl rfl (l' := #[.val (.int p0), .val (.int p1), .val (.int p2), .val (.ref s_427), .val (.ref s_430), .unset]) rfl kQ) ?_
      show G (T430.setTop (mkF me_ 19 #[.val (.int p0), .val (.int p1), .val (.int p2), .val (.ref s_427), .val (.ref s_430), .unset] []))
      refine gv (fun tQ kQ => XS.aloadN X430.here hx rfl (hb hby at_19) rfl rfl kQ) ?_
      show G (T430.setTop (mkF me_ 20 #[.val (.int p0), .val (.int p1), .val (.int p2), .val (.ref s_427), .val (.ref s_430), .unset] [(.ref s_427)]))
      refine gv (fun tQ kQ => XS.aload X430.here hx rfl (hb hby at_20) rfl rfl kQ) ?_
      show G (T430.setTop (mkF me_ 22 #[.val (.int p0), .val (.int p1), .val (.int p2), .val (.ref s_427), .val (.ref s_430), .unset] [(.ref s_430), (.ref s_427)]))
      obtain ⟨_, _, ⟨T434, L434, k434, n434⟩, -, X434, ⟨Lc434, hQ434, l434, y434, z434⟩, st434⟩ := Jvm.LawKit.callS X430 hx (y := (⟨"com/example/slot1/slot1/balance/Options", "string", "(Ljava/lang/Object;Ljava/lang/String;)Ljava/lang/String;"⟩ : MethodName)) hown (mvT hZ (hw _ (List.mem_of_getElem? (i := 26) rfl))) (mvT hZ (hw _ (List.mem_of_getElem? (i := 27) rfl))) (mvT hZ (hw _ (List.mem_of_getElem? (i := 28) rfl))) (mvT hZ (hw _ (List.mem_of_getElem? (i := 29) rfl))) (by decide) (backOf (W := 0) (rm_str l Z a0 hw [] s_427 s_430 h430 n0 O433 f432) hZ (hw _ (List.mem_of_getElem? (i := 29) rfl)) (hw _ (List.mem_of_getElem? (i := 28) rfl)) (by decide) (by decide)) (g := (mkF me_ 22 #[.val (.int p0), .val (.int p1), .val (.int p2), .val (.ref s_427), .val (.ref s_430), .unset] [(.ref s_430), (.ref s_427)])) rfl (by rw [hml]; rfl) (argsL := [(.ref s_427), (.ref s_430)]) (rest := []) (lenOf pd_10 rfl) rfl (by show 2 * 0 + _ ≤ _; exact Nat.le_of_eq rfl) (hb hby at_22) (fun _ _ => ⟨rfl, e430, (by decide : 8 + 0 ≤ _), (by decide : 17 + 0 ≤ _)⟩)
      dsimp only [Pt.U, Pt.locs, Pt.cells, Pt.slots] at X434 l434 y434 z434 st434 hQ434
      subst l434 y434 z434
      obtain ⟨rfl, Nq434, eq434⟩ := hQ434
      have N435 := Fr.app N431 Nq434
      refine gv st434 ?_
      show G (T434.setTop (mkF me_ 25 #[.val (.int p0), .val (.int p1), .val (.int p2), .val (.ref s_427), .val (.ref s_430), .unset] [(.ref s_427)]))
      refine gv (fun tQ kQ => XS.astore X434.here hx rfl (hb hby at_25) rfl rfl (l' := #[.val (.int p0), .val (.int p1), .val (.int p2), .val (.ref s_427), .val (.ref s_430), .val (.ref s_427)]) rfl kQ) ?_
      show G (T434.setTop (mkF me_ 27 #[.val (.int p0), .val (.int p1), .val (.int p2), .val (.ref s_427), .val (.ref s_430), .val (.ref s_427)] []))
      refine gv (fun tQ kQ => XS.aload X434.here hx rfl (hb hby at_27) rfl rfl kQ) ?_
      show G (T434.setTop (mkF me_ 29 #[.val (.int p0), .val (.int p1), .val (.int p2), .val (.ref s_427), .val (.ref s_430), .val (.ref s_427)] [(.ref s_427)]))
      refine gv (fun tQ kQ => XS.aloadN X434.here hx rfl (hb hby at_29) rfl rfl kQ) ?_
      show G (T434.setTop (mkF me_ 30 #[.val (.int p0), .val (.int p1), .val (.int p2), .val (.ref s_427), .val (.ref s_430), .val (.ref s_427)] [(.ref s_427), (.ref s_427)]))
      refine gv (fun tQ kQ => Jvm.RoadKit.acmp (g := (mkF me_ 30 #[.val (.int p0), .val (.int p1), .val (.int p2), .val (.ref s_427), .val (.ref s_430), .val (.ref s_427)] [(.ref s_427), (.ref s_427)])) X434 hx rfl rfl rfl (pc0 := 30) (pc' := 33) (same := true) rfl (hb hby at_30) rfl (decide_eq_true rfl) (by decide) (by decide) kQ) ?_
      show G (T434.setTop (mkF me_ 33 #[.val (.int p0), .val (.int p1), .val (.int p2), .val (.ref s_427), .val (.ref s_430), .val (.ref s_427)] []))
      refine gv (fun tQ kQ => XS.iconst X434.here hx rfl (hb hby at_33) kQ) ?_
      show G (T434.setTop (mkF me_ 34 #[.val (.int p0), .val (.int p1), .val (.int p2), .val (.ref s_427), .val (.ref s_430), .val (.ref s_427)] [(.int (1 : Int32))]))
      refine gv (fun tQ kQ => XS.goto X434.here hx rfl (pc0 := 34) (pc' := 38) rfl (hb hby at_34) (by decide) (by decide) kQ) ?_
      show G (T434.setTop (mkF me_ 38 #[.val (.int p0), .val (.int p1), .val (.int p2), .val (.ref s_427), .val (.ref s_430), .val (.ref s_427)] [(.int (1 : Int32))]))
      refine gf _ (own_retW X434 Bd.notSynchronized hS (by rw [eq434]; exact hk) (v := some (.int (1 : Int32))) (fun h => by rw [Bd.returns] at h; cases h) ?_ (by decide) (by decide) (by rw [hh, eq434]; exact CR.trans (CHv.at X434 hZ hEL CR.1)) (fun fs hr => retN X434 hx (t := .boolean) Bd.returns (by simp) (hb hby at_38) hr))
      show Q0 Z p0 p1 p2 cs h0 n0 _ T434.heap _
      rw [eq434]
      exact ⟨rfl, N435⟩
    · rw [q]
      show G (T427.setTop (mkF me_ 13 #[.val (.int p0), .val (.int p1), .val (.int p2), .val (.ref s_427), .unset, .unset] [(.int (1 : Int32))]))
      refine gv (fun tQ kQ => XS.iloadN X427.here hx rfl (hb hby at_13) rfl kQ) ?_
      show G (T427.setTop (mkF me_ 14 #[.val (.int p0), .val (.int p1), .val (.int p2), .val (.ref s_427), .unset, .unset] [(.int p2), (.int (1 : Int32))]))
      obtain ⟨_, _, ⟨T436, L436, k436, n436⟩, -, X436, ⟨Lc436, hQ436, l436, y436, z436⟩, st436⟩ := Jvm.LawKit.callS X427 hx (y := (⟨"com/example/slot1/slot1/balance/OptionsStringPinLaw", "make", "(II)Ljava/lang/String;"⟩ : MethodName)) hown (mvT hZ (hw _ (List.mem_of_getElem? (i := 0) rfl))) (mvT hZ (hw _ (List.mem_of_getElem? (i := 1) rfl))) (mvT hZ (hw _ (List.mem_of_getElem? (i := 2) rfl))) (mvT hZ (hw _ (List.mem_of_getElem? (i := 3) rfl))) (by decide) (backOf (W := 0) (rm_mk1 l Z a0 hw [] p2 cs h427 n0 O429 u0 u1) hZ (hw _ (List.mem_of_getElem? (i := 3) rfl)) (hw _ (List.mem_of_getElem? (i := 2) rfl)) (by decide) (by decide)) (g := (mkF me_ 14 #[.val (.int p0), .val (.int p1), .val (.int p2), .val (.ref s_427), .unset, .unset] [(.int p2), (.int (1 : Int32))])) rfl (by rw [hml]; rfl) (argsL := [(.int (1 : Int32)), (.int p2)]) (rest := []) (lenOf pd_9 rfl) rfl (by show 2 * 0 + _ ≤ _; exact Nat.le_of_eq rfl) (hb hby at_14) (fun _ _ => ⟨rfl, e427, (by decide : 2 + 2 ≤ _), (by decide : 5 + 5 ≤ _)⟩)
      dsimp only [Pt.U, Pt.locs, Pt.cells, Pt.slots] at X436 l436 y436 z436 st436 hQ436
      subst l436 y436 z436
      obtain ⟨s_436, rfl, Nq436, Kq436, w436_0⟩ := hQ436
      have N437 := Fr.app N428 Nq436
      obtain ⟨h436, e436⟩ : ∃ z, T436.heap = z := ⟨_, rfl⟩
      rw [e436] at Kq436 w436_0
      have CR := CR.trans (CHr.keep Kq436 sf0 CR.1)
      have hk := Nat.le_trans hk Kq436.1
      have f438 : Exa Z h436 s_427 "java/lang/String" := w427_0.keep Kq436
      have O439 := O429.keep Kq436 all0
      refine gv st436 ?_
      show G (T436.setTop (mkF me_ 17 #[.val (.int p0), .val (.int p1), .val (.int p2), .val (.ref s_427), .unset, .unset] [(.ref s_436)]))
      refine gv (fun tQ kQ => XS.astore X436.here hx rfl (hb hby at_17) rfl rfl (l' := #[.val (.int p0), .val (.int p1), .val (.int p2), .val (.ref s_427), .val (.ref s_436), .unset]) rfl kQ) ?_
      show G (T436.setTop (mkF me_ 19 #[.val (.int p0), .val (.int p1), .val (.int p2), .val (.ref s_427), .val (.ref s_436), .unset] []))
      refine gv (fun tQ kQ => XS.aloadN X436.here hx rfl (hb hby at_19) rfl rfl kQ) ?_
      show G (T436.setTop (mkF me_ 20 #[.val (.int p0), .val (.int p1), .val (.int p2), .val (.ref s_427), .val (.ref s_436), .unset] [(.ref s_427)]))
      refine gv (fun tQ kQ => XS.aload X436.here hx rfl (hb hby at_20) rfl rfl kQ) ?_
      show G (T436.setTop (mkF me_ 22 #[.val (.int p0), .val (.int p1), .val (.int p2), .val (.ref s_427), .val (.ref s_436), .unset] [(.ref s_436), (.ref s_427)]))
      obtain ⟨_, _, ⟨T440, L440, k440, n440⟩, -, X440, ⟨Lc440, hQ440, l440, y440, z440⟩, st440⟩ := Jvm.LawKit.callS X436 hx (y := (⟨"com/example/slot1/slot1/balance/Options", "string", "(Ljava/lang/Object;Ljava/lang/String;)Ljava/lang/String;"⟩ : MethodName)) hown (mvT hZ (hw _ (List.mem_of_getElem? (i := 26) rfl))) (mvT hZ (hw _ (List.mem_of_getElem? (i := 27) rfl))) (mvT hZ (hw _ (List.mem_of_getElem? (i := 28) rfl))) (mvT hZ (hw _ (List.mem_of_getElem? (i := 29) rfl))) (by decide) (backOf (W := 0) (rm_str l Z a0 hw [] s_427 s_436 h436 n0 O439 f438) hZ (hw _ (List.mem_of_getElem? (i := 29) rfl)) (hw _ (List.mem_of_getElem? (i := 28) rfl)) (by decide) (by decide)) (g := (mkF me_ 22 #[.val (.int p0), .val (.int p1), .val (.int p2), .val (.ref s_427), .val (.ref s_436), .unset] [(.ref s_436), (.ref s_427)])) rfl (by rw [hml]; rfl) (argsL := [(.ref s_427), (.ref s_436)]) (rest := []) (lenOf pd_10 rfl) rfl (by show 2 * 0 + _ ≤ _; exact Nat.le_of_eq rfl) (hb hby at_22) (fun _ _ => ⟨rfl, e436, (by decide : 4 + 0 ≤ _), (by decide : 10 + 0 ≤ _)⟩)
      dsimp only [Pt.U, Pt.locs, Pt.cells, Pt.slots] at X440 l440 y440 z440 st440 hQ440
      subst l440 y440 z440
      obtain ⟨rfl, Nq440, eq440⟩ := hQ440
      have N441 := Fr.app N437 Nq440
      refine gv st440 ?_
      show G (T440.setTop (mkF me_ 25 #[.val (.int p0), .val (.int p1), .val (.int p2), .val (.ref s_427), .val (.ref s_436), .unset] [(.ref s_427)]))
      refine gv (fun tQ kQ => XS.astore X440.here hx rfl (hb hby at_25) rfl rfl (l' := #[.val (.int p0), .val (.int p1), .val (.int p2), .val (.ref s_427), .val (.ref s_436), .val (.ref s_427)]) rfl kQ) ?_
      show G (T440.setTop (mkF me_ 27 #[.val (.int p0), .val (.int p1), .val (.int p2), .val (.ref s_427), .val (.ref s_436), .val (.ref s_427)] []))
      refine gv (fun tQ kQ => XS.aload X440.here hx rfl (hb hby at_27) rfl rfl kQ) ?_
      show G (T440.setTop (mkF me_ 29 #[.val (.int p0), .val (.int p1), .val (.int p2), .val (.ref s_427), .val (.ref s_436), .val (.ref s_427)] [(.ref s_427)]))
      refine gv (fun tQ kQ => XS.aloadN X440.here hx rfl (hb hby at_29) rfl rfl kQ) ?_
      show G (T440.setTop (mkF me_ 30 #[.val (.int p0), .val (.int p1), .val (.int p2), .val (.ref s_427), .val (.ref s_436), .val (.ref s_427)] [(.ref s_427), (.ref s_427)]))
      refine gv (fun tQ kQ => Jvm.RoadKit.acmp (g := (mkF me_ 30 #[.val (.int p0), .val (.int p1), .val (.int p2), .val (.ref s_427), .val (.ref s_436), .val (.ref s_427)] [(.ref s_427), (.ref s_427)])) X440 hx rfl rfl rfl (pc0 := 30) (pc' := 33) (same := true) rfl (hb hby at_30) rfl (decide_eq_true rfl) (by decide) (by decide) kQ) ?_
      show G (T440.setTop (mkF me_ 33 #[.val (.int p0), .val (.int p1), .val (.int p2), .val (.ref s_427), .val (.ref s_436), .val (.ref s_427)] []))
      refine gv (fun tQ kQ => XS.iconst X440.here hx rfl (hb hby at_33) kQ) ?_
      show G (T440.setTop (mkF me_ 34 #[.val (.int p0), .val (.int p1), .val (.int p2), .val (.ref s_427), .val (.ref s_436), .val (.ref s_427)] [(.int (1 : Int32))]))
      refine gv (fun tQ kQ => XS.goto X440.here hx rfl (pc0 := 34) (pc' := 38) rfl (hb hby at_34) (by decide) (by decide) kQ) ?_
      show G (T440.setTop (mkF me_ 38 #[.val (.int p0), .val (.int p1), .val (.int p2), .val (.ref s_427), .val (.ref s_436), .val (.ref s_427)] [(.int (1 : Int32))]))
      refine gf _ (own_retW X440 Bd.notSynchronized hS (by rw [eq440]; exact hk) (v := some (.int (1 : Int32))) (fun h => by rw [Bd.returns] at h; cases h) ?_ (by decide) (by decide) (by rw [hh, eq440]; exact CR.trans (CHv.at X440 hZ hEL CR.1)) (fun fs hr => retN X440 hx (t := .boolean) Bd.returns (by simp) (hb hby at_38) hr))
      show Q0 Z p0 p1 p2 cs h0 n0 _ T440.heap _
      rw [eq440]
      exact ⟨rfl, N441⟩
    · rw [q]
      show G (T427.setTop (mkF me_ 13 #[.val (.int p0), .val (.int p1), .val (.int p2), .val (.ref s_427), .unset, .unset] [(.int (2 : Int32))]))
      refine gv (fun tQ kQ => XS.iloadN X427.here hx rfl (hb hby at_13) rfl kQ) ?_
      show G (T427.setTop (mkF me_ 14 #[.val (.int p0), .val (.int p1), .val (.int p2), .val (.ref s_427), .unset, .unset] [(.int p2), (.int (2 : Int32))]))
      obtain ⟨_, _, ⟨T442, L442, k442, n442⟩, -, X442, ⟨Lc442, hQ442, l442, y442, z442⟩, st442⟩ := Jvm.LawKit.callS X427 hx (y := (⟨"com/example/slot1/slot1/balance/OptionsStringPinLaw", "make", "(II)Ljava/lang/String;"⟩ : MethodName)) hown (mvT hZ (hw _ (List.mem_of_getElem? (i := 0) rfl))) (mvT hZ (hw _ (List.mem_of_getElem? (i := 1) rfl))) (mvT hZ (hw _ (List.mem_of_getElem? (i := 2) rfl))) (mvT hZ (hw _ (List.mem_of_getElem? (i := 3) rfl))) (by decide) (backOf (W := 0) (rm_mk2 l Z a0 hw [] p2 cs h427 n0 O429 u0 u1) hZ (hw _ (List.mem_of_getElem? (i := 3) rfl)) (hw _ (List.mem_of_getElem? (i := 2) rfl)) (by decide) (by decide)) (g := (mkF me_ 14 #[.val (.int p0), .val (.int p1), .val (.int p2), .val (.ref s_427), .unset, .unset] [(.int p2), (.int (2 : Int32))])) rfl (by rw [hml]; rfl) (argsL := [(.int (2 : Int32)), (.int p2)]) (rest := []) (lenOf pd_9 rfl) rfl (by show 2 * 0 + _ ≤ _; exact Nat.le_of_eq rfl) (hb hby at_14) (fun _ _ => ⟨rfl, e427, (by decide : 2 + 3 ≤ _), (by decide : 5 + 8 ≤ _)⟩)
      dsimp only [Pt.U, Pt.locs, Pt.cells, Pt.slots] at X442 l442 y442 z442 st442 hQ442
      subst l442 y442 z442
      obtain ⟨s_442, rfl, Nq442, Kq442, w442_0⟩ := hQ442
      have N443 := Fr.app N428 Nq442
      obtain ⟨h442, e442⟩ : ∃ z, T442.heap = z := ⟨_, rfl⟩
      rw [e442] at Kq442 w442_0
      have CR := CR.trans (CHr.keep Kq442 sf0 CR.1)
      have hk := Nat.le_trans hk Kq442.1
      have f444 : Exa Z h442 s_427 "java/lang/String" := w427_0.keep Kq442
      have O445 := O429.keep Kq442 all0
      refine gv st442 ?_
      show G (T442.setTop (mkF me_ 17 #[.val (.int p0), .val (.int p1), .val (.int p2), .val (.ref s_427), .unset, .unset] [(.ref s_442)]))
      refine gv (fun tQ kQ => XS.astore X442.here hx rfl (hb hby at_17) rfl rfl (l' := #[.val (.int p0), .val (.int p1), .val (.int p2), .val (.ref s_427), .val (.ref s_442), .unset]) rfl kQ) ?_
      show G (T442.setTop (mkF me_ 19 #[.val (.int p0), .val (.int p1), .val (.int p2), .val (.ref s_427), .val (.ref s_442), .unset] []))
      refine gv (fun tQ kQ => XS.aloadN X442.here hx rfl (hb hby at_19) rfl rfl kQ) ?_
      show G (T442.setTop (mkF me_ 20 #[.val (.int p0), .val (.int p1), .val (.int p2), .val (.ref s_427), .val (.ref s_442), .unset] [(.ref s_427)]))
      refine gv (fun tQ kQ => XS.aload X442.here hx rfl (hb hby at_20) rfl rfl kQ) ?_
      show G (T442.setTop (mkF me_ 22 #[.val (.int p0), .val (.int p1), .val (.int p2), .val (.ref s_427), .val (.ref s_442), .unset] [(.ref s_442), (.ref s_427)]))
      obtain ⟨_, _, ⟨T446, L446, k446, n446⟩, -, X446, ⟨Lc446, hQ446, l446, y446, z446⟩, st446⟩ := Jvm.LawKit.callS X442 hx (y := (⟨"com/example/slot1/slot1/balance/Options", "string", "(Ljava/lang/Object;Ljava/lang/String;)Ljava/lang/String;"⟩ : MethodName)) hown (mvT hZ (hw _ (List.mem_of_getElem? (i := 26) rfl))) (mvT hZ (hw _ (List.mem_of_getElem? (i := 27) rfl))) (mvT hZ (hw _ (List.mem_of_getElem? (i := 28) rfl))) (mvT hZ (hw _ (List.mem_of_getElem? (i := 29) rfl))) (by decide) (backOf (W := 0) (rm_str l Z a0 hw [] s_427 s_442 h442 n0 O445 f444) hZ (hw _ (List.mem_of_getElem? (i := 29) rfl)) (hw _ (List.mem_of_getElem? (i := 28) rfl)) (by decide) (by decide)) (g := (mkF me_ 22 #[.val (.int p0), .val (.int p1), .val (.int p2), .val (.ref s_427), .val (.ref s_442), .unset] [(.ref s_442), (.ref s_427)])) rfl (by rw [hml]; rfl) (argsL := [(.ref s_427), (.ref s_442)]) (rest := []) (lenOf pd_10 rfl) rfl (by show 2 * 0 + _ ≤ _; exact Nat.le_of_eq rfl) (hb hby at_22) (fun _ _ => ⟨rfl, e442, (by decide : 5 + 0 ≤ _), (by decide : 13 + 0 ≤ _)⟩)
      dsimp only [Pt.U, Pt.locs, Pt.cells, Pt.slots] at X446 l446 y446 z446 st446 hQ446
      subst l446 y446 z446
      obtain ⟨rfl, Nq446, eq446⟩ := hQ446
      have N447 := Fr.app N443 Nq446
      refine gv st446 ?_
      show G (T446.setTop (mkF me_ 25 #[.val (.int p0), .val (.int p1), .val (.int p2), .val (.ref s_427), .val (.ref s_442), .unset] [(.ref s_427)]))
      refine gv (fun tQ kQ => XS.astore X446.here hx rfl (hb hby at_25) rfl rfl (l' := #[.val (.int p0), .val (.int p1), .val (.int p2), .val (.ref s_427), .val (.ref s_442), .val (.ref s_427)]) rfl kQ) ?_
      show G (T446.setTop (mkF me_ 27 #[.val (.int p0), .val (.int p1), .val (.int p2), .val (.ref s_427), .val (.ref s_442), .val (.ref s_427)] []))
      refine gv (fun tQ kQ => XS.aload X446.here hx rfl (hb hby at_27) rfl rfl kQ) ?_
      show G (T446.setTop (mkF me_ 29 #[.val (.int p0), .val (.int p1), .val (.int p2), .val (.ref s_427), .val (.ref s_442), .val (.ref s_427)] [(.ref s_427)]))
      refine gv (fun tQ kQ => XS.aloadN X446.here hx rfl (hb hby at_29) rfl rfl kQ) ?_
      show G (T446.setTop (mkF me_ 30 #[.val (.int p0), .val (.int p1), .val (.int p2), .val (.ref s_427), .val (.ref s_442), .val (.ref s_427)] [(.ref s_427), (.ref s_427)]))
      refine gv (fun tQ kQ => Jvm.RoadKit.acmp (g := (mkF me_ 30 #[.val (.int p0), .val (.int p1), .val (.int p2), .val (.ref s_427), .val (.ref s_442), .val (.ref s_427)] [(.ref s_427), (.ref s_427)])) X446 hx rfl rfl rfl (pc0 := 30) (pc' := 33) (same := true) rfl (hb hby at_30) rfl (decide_eq_true rfl) (by decide) (by decide) kQ) ?_
      show G (T446.setTop (mkF me_ 33 #[.val (.int p0), .val (.int p1), .val (.int p2), .val (.ref s_427), .val (.ref s_442), .val (.ref s_427)] []))
      refine gv (fun tQ kQ => XS.iconst X446.here hx rfl (hb hby at_33) kQ) ?_
      show G (T446.setTop (mkF me_ 34 #[.val (.int p0), .val (.int p1), .val (.int p2), .val (.ref s_427), .val (.ref s_442), .val (.ref s_427)] [(.int (1 : Int32))]))
      refine gv (fun tQ kQ => XS.goto X446.here hx rfl (pc0 := 34) (pc' := 38) rfl (hb hby at_34) (by decide) (by decide) kQ) ?_
      show G (T446.setTop (mkF me_ 38 #[.val (.int p0), .val (.int p1), .val (.int p2), .val (.ref s_427), .val (.ref s_442), .val (.ref s_427)] [(.int (1 : Int32))]))
      refine gf _ (own_retW X446 Bd.notSynchronized hS (by rw [eq446]; exact hk) (v := some (.int (1 : Int32))) (fun h => by rw [Bd.returns] at h; cases h) ?_ (by decide) (by decide) (by rw [hh, eq446]; exact CR.trans (CHv.at X446 hZ hEL CR.1)) (fun fs hr => retN X446 hx (t := .boolean) Bd.returns (by simp) (hb hby at_38) hr))
      show Q0 Z p0 p1 p2 cs h0 n0 _ T446.heap _
      rw [eq446]
      exact ⟨rfl, N447⟩
    · rw [q]
      show G (T427.setTop (mkF me_ 13 #[.val (.int p0), .val (.int p1), .val (.int p2), .val (.ref s_427), .unset, .unset] [(.int (3 : Int32))]))
      refine gv (fun tQ kQ => XS.iloadN X427.here hx rfl (hb hby at_13) rfl kQ) ?_
      show G (T427.setTop (mkF me_ 14 #[.val (.int p0), .val (.int p1), .val (.int p2), .val (.ref s_427), .unset, .unset] [(.int p2), (.int (3 : Int32))]))
      obtain ⟨_, _, ⟨T448, L448, k448, n448⟩, -, X448, ⟨Lc448, hQ448, l448, y448, z448⟩, st448⟩ := Jvm.LawKit.callS X427 hx (y := (⟨"com/example/slot1/slot1/balance/OptionsStringPinLaw", "make", "(II)Ljava/lang/String;"⟩ : MethodName)) hown (mvT hZ (hw _ (List.mem_of_getElem? (i := 0) rfl))) (mvT hZ (hw _ (List.mem_of_getElem? (i := 1) rfl))) (mvT hZ (hw _ (List.mem_of_getElem? (i := 2) rfl))) (mvT hZ (hw _ (List.mem_of_getElem? (i := 3) rfl))) (by decide) (backOf (W := 0) (rm_mk3 l Z a0 hw [] p2 cs h427 n0 O429 u0 u1) hZ (hw _ (List.mem_of_getElem? (i := 3) rfl)) (hw _ (List.mem_of_getElem? (i := 2) rfl)) (by decide) (by decide)) (g := (mkF me_ 14 #[.val (.int p0), .val (.int p1), .val (.int p2), .val (.ref s_427), .unset, .unset] [(.int p2), (.int (3 : Int32))])) rfl (by rw [hml]; rfl) (argsL := [(.int (3 : Int32)), (.int p2)]) (rest := []) (lenOf pd_9 rfl) rfl (by show 2 * 0 + _ ≤ _; exact Nat.le_of_eq rfl) (hb hby at_14) (fun _ _ => ⟨rfl, e427, (by decide : 2 + 3 ≤ _), (by decide : 5 + 10 ≤ _)⟩)
      dsimp only [Pt.U, Pt.locs, Pt.cells, Pt.slots] at X448 l448 y448 z448 st448 hQ448
      subst l448 y448 z448
      obtain ⟨s_448, rfl, Nq448, Kq448, w448_0⟩ := hQ448
      have N449 := Fr.app N428 Nq448
      obtain ⟨h448, e448⟩ : ∃ z, T448.heap = z := ⟨_, rfl⟩
      rw [e448] at Kq448 w448_0
      have CR := CR.trans (CHr.keep Kq448 sf0 CR.1)
      have hk := Nat.le_trans hk Kq448.1
      have f450 : Exa Z h448 s_427 "java/lang/String" := w427_0.keep Kq448
      have O451 := O429.keep Kq448 all0
      refine gv st448 ?_
      show G (T448.setTop (mkF me_ 17 #[.val (.int p0), .val (.int p1), .val (.int p2), .val (.ref s_427), .unset, .unset] [(.ref s_448)]))
      refine gv (fun tQ kQ => XS.astore X448.here hx rfl (hb hby at_17) rfl rfl (l' := #[.val (.int p0), .val (.int p1), .val (.int p2), .val (.ref s_427), .val (.ref s_448), .unset]) rfl kQ) ?_
      show G (T448.setTop (mkF me_ 19 #[.val (.int p0), .val (.int p1), .val (.int p2), .val (.ref s_427), .val (.ref s_448), .unset] []))
      refine gv (fun tQ kQ => XS.aloadN X448.here hx rfl (hb hby at_19) rfl rfl kQ) ?_
      show G (T448.setTop (mkF me_ 20 #[.val (.int p0), .val (.int p1), .val (.int p2), .val (.ref s_427), .val (.ref s_448), .unset] [(.ref s_427)]))
      refine gv (fun tQ kQ => XS.aload X448.here hx rfl (hb hby at_20) rfl rfl kQ) ?_
      show G (T448.setTop (mkF me_ 22 #[.val (.int p0), .val (.int p1), .val (.int p2), .val (.ref s_427), .val (.ref s_448), .unset] [(.ref s_448), (.ref s_427)]))
      obtain ⟨_, _, ⟨T452, L452, k452, n452⟩, -, X452, ⟨Lc452, hQ452, l452, y452, z452⟩, st452⟩ := Jvm.LawKit.callS X448 hx (y := (⟨"com/example/slot1/slot1/balance/Options", "string", "(Ljava/lang/Object;Ljava/lang/String;)Ljava/lang/String;"⟩ : MethodName)) hown (mvT hZ (hw _ (List.mem_of_getElem? (i := 26) rfl))) (mvT hZ (hw _ (List.mem_of_getElem? (i := 27) rfl))) (mvT hZ (hw _ (List.mem_of_getElem? (i := 28) rfl))) (mvT hZ (hw _ (List.mem_of_getElem? (i := 29) rfl))) (by decide) (backOf (W := 0) (rm_str l Z a0 hw [] s_427 s_448 h448 n0 O451 f450) hZ (hw _ (List.mem_of_getElem? (i := 29) rfl)) (hw _ (List.mem_of_getElem? (i := 28) rfl)) (by decide) (by decide)) (g := (mkF me_ 22 #[.val (.int p0), .val (.int p1), .val (.int p2), .val (.ref s_427), .val (.ref s_448), .unset] [(.ref s_448), (.ref s_427)])) rfl (by rw [hml]; rfl) (argsL := [(.ref s_427), (.ref s_448)]) (rest := []) (lenOf pd_10 rfl) rfl (by show 2 * 0 + _ ≤ _; exact Nat.le_of_eq rfl) (hb hby at_22) (fun _ _ => ⟨rfl, e448, (by decide : 5 + 0 ≤ _), (by decide : 15 + 0 ≤ _)⟩)
      dsimp only [Pt.U, Pt.locs, Pt.cells, Pt.slots] at X452 l452 y452 z452 st452 hQ452
      subst l452 y452 z452
      obtain ⟨rfl, Nq452, eq452⟩ := hQ452
      have N453 := Fr.app N449 Nq452
      refine gv st452 ?_
      show G (T452.setTop (mkF me_ 25 #[.val (.int p0), .val (.int p1), .val (.int p2), .val (.ref s_427), .val (.ref s_448), .unset] [(.ref s_427)]))
      refine gv (fun tQ kQ => XS.astore X452.here hx rfl (hb hby at_25) rfl rfl (l' := #[.val (.int p0), .val (.int p1), .val (.int p2), .val (.ref s_427), .val (.ref s_448), .val (.ref s_427)]) rfl kQ) ?_
      show G (T452.setTop (mkF me_ 27 #[.val (.int p0), .val (.int p1), .val (.int p2), .val (.ref s_427), .val (.ref s_448), .val (.ref s_427)] []))
      refine gv (fun tQ kQ => XS.aload X452.here hx rfl (hb hby at_27) rfl rfl kQ) ?_
      show G (T452.setTop (mkF me_ 29 #[.val (.int p0), .val (.int p1), .val (.int p2), .val (.ref s_427), .val (.ref s_448), .val (.ref s_427)] [(.ref s_427)]))
      refine gv (fun tQ kQ => XS.aloadN X452.here hx rfl (hb hby at_29) rfl rfl kQ) ?_
      show G (T452.setTop (mkF me_ 30 #[.val (.int p0), .val (.int p1), .val (.int p2), .val (.ref s_427), .val (.ref s_448), .val (.ref s_427)] [(.ref s_427), (.ref s_427)]))
      refine gv (fun tQ kQ => Jvm.RoadKit.acmp (g := (mkF me_ 30 #[.val (.int p0), .val (.int p1), .val (.int p2), .val (.ref s_427), .val (.ref s_448), .val (.ref s_427)] [(.ref s_427), (.ref s_427)])) X452 hx rfl rfl rfl (pc0 := 30) (pc' := 33) (same := true) rfl (hb hby at_30) rfl (decide_eq_true rfl) (by decide) (by decide) kQ) ?_
      show G (T452.setTop (mkF me_ 33 #[.val (.int p0), .val (.int p1), .val (.int p2), .val (.ref s_427), .val (.ref s_448), .val (.ref s_427)] []))
      refine gv (fun tQ kQ => XS.iconst X452.here hx rfl (hb hby at_33) kQ) ?_
      show G (T452.setTop (mkF me_ 34 #[.val (.int p0), .val (.int p1), .val (.int p2), .val (.ref s_427), .val (.ref s_448), .val (.ref s_427)] [(.int (1 : Int32))]))
      refine gv (fun tQ kQ => XS.goto X452.here hx rfl (pc0 := 34) (pc' := 38) rfl (hb hby at_34) (by decide) (by decide) kQ) ?_
      show G (T452.setTop (mkF me_ 38 #[.val (.int p0), .val (.int p1), .val (.int p2), .val (.ref s_427), .val (.ref s_448), .val (.ref s_427)] [(.int (1 : Int32))]))
      refine gf _ (own_retW X452 Bd.notSynchronized hS (by rw [eq452]; exact hk) (v := some (.int (1 : Int32))) (fun h => by rw [Bd.returns] at h; cases h) ?_ (by decide) (by decide) (by rw [hh, eq452]; exact CR.trans (CHv.at X452 hZ hEL CR.1)) (fun fs hr => retN X452 hx (t := .boolean) Bd.returns (by simp) (hb hby at_38) hr))
      show Q0 Z p0 p1 p2 cs h0 n0 _ T452.heap _
      rw [eq452]
      exact ⟨rfl, N453⟩
  · rw [q]
    show G (s₁.setTop (mkF me_ 3 #[.val (.int p0), .val (.int p1), .val (.int p2), .unset, .unset, .unset] [(.int (2 : Int32))]))
    refine gv (fun tQ kQ => XS.iloadN X0.here hx rfl (hb hby at_3) rfl kQ) ?_
    show G (s₁.setTop (mkF me_ 4 #[.val (.int p0), .val (.int p1), .val (.int p2), .unset, .unset, .unset] [(.int p1), (.int (2 : Int32))]))
    obtain ⟨_, _, ⟨T454, L454, k454, n454⟩, -, X454, ⟨Lc454, hQ454, l454, y454, z454⟩, st454⟩ := Jvm.LawKit.callS X0 hx (y := (⟨"com/example/slot1/slot1/balance/OptionsStringPinLaw", "make", "(II)Ljava/lang/String;"⟩ : MethodName)) hown (mvT hZ (hw _ (List.mem_of_getElem? (i := 0) rfl))) (mvT hZ (hw _ (List.mem_of_getElem? (i := 1) rfl))) (mvT hZ (hw _ (List.mem_of_getElem? (i := 2) rfl))) (mvT hZ (hw _ (List.mem_of_getElem? (i := 3) rfl))) (by decide) (backOf (W := 0) (rm_mk2 l Z a0 hw [] p1 cs h0 n0 O0 u0 u1) hZ (hw _ (List.mem_of_getElem? (i := 3) rfl)) (hw _ (List.mem_of_getElem? (i := 2) rfl)) (by decide) (by decide)) (g := (mkF me_ 4 #[.val (.int p0), .val (.int p1), .val (.int p2), .unset, .unset, .unset] [(.int p1), (.int (2 : Int32))])) rfl (by rw [hml]; rfl) (argsL := [(.int (2 : Int32)), (.int p1)]) (rest := []) (lenOf pd_9 rfl) rfl (by show 2 * 0 + _ ≤ _; exact Nat.le_of_eq rfl) (hb hby at_4) (fun _ _ => ⟨rfl, e0, (by decide : 0 + 3 ≤ _), (by decide : 0 + 8 ≤ _)⟩)
    dsimp only [Pt.U, Pt.locs, Pt.cells, Pt.slots] at X454 l454 y454 z454 st454 hQ454
    subst l454 y454 z454
    obtain ⟨s_454, rfl, Nq454, Kq454, w454_0⟩ := hQ454
    have N455 := Fr.app N0 Nq454
    obtain ⟨h454, e454⟩ : ∃ z, T454.heap = z := ⟨_, rfl⟩
    rw [e454] at Kq454 w454_0
    have CR := CR.trans (CHr.keep Kq454 sf0 CR.1)
    have hk := Nat.le_trans hk Kq454.1
    have O456 := O0.keep Kq454 all0
    refine gv st454 ?_
    show G (T454.setTop (mkF me_ 7 #[.val (.int p0), .val (.int p1), .val (.int p2), .unset, .unset, .unset] [(.ref s_454)]))
    refine gv (fun tQ kQ => XS.astoreN X454.here hx rfl (hb hby at_7) rfl rfl (l' := #[.val (.int p0), .val (.int p1), .val (.int p2), .val (.ref s_454), .unset, .unset]) rfl kQ) ?_
    show G (T454.setTop (mkF me_ 8 #[.val (.int p0), .val (.int p1), .val (.int p2), .val (.ref s_454), .unset, .unset] []))
    refine gv (fun tQ kQ => XS.iloadN X454.here hx rfl (hb hby at_8) rfl kQ) ?_
    show G (T454.setTop (mkF me_ 9 #[.val (.int p0), .val (.int p1), .val (.int p2), .val (.ref s_454), .unset, .unset] [(.int p0)]))
    refine gv (fun tQ kQ => XS.iconst X454.here hx rfl (hb hby at_9) kQ) ?_
    show G (T454.setTop (mkF me_ 10 #[.val (.int p0), .val (.int p1), .val (.int p2), .val (.ref s_454), .unset, .unset] [(.int (2 : Int32)), (.int p0)]))
    refine gv (fun tQ kQ => XS.iushr X454.here hx rfl (hb hby at_10) rfl kQ) ?_
    show G (T454.setTop (mkF me_ 11 #[.val (.int p0), .val (.int p1), .val (.int p2), .val (.ref s_454), .unset, .unset] [(.int ((p0.toUInt32 >>> ((2 : Int32) &&& 31).toUInt32).toInt32))]))
    refine gv (fun tQ kQ => XS.iconst X454.here hx rfl (hb hby at_11) kQ) ?_
    show G (T454.setTop (mkF me_ 12 #[.val (.int p0), .val (.int p1), .val (.int p2), .val (.ref s_454), .unset, .unset] [(.int (3 : Int32)), (.int ((p0.toUInt32 >>> ((2 : Int32) &&& 31).toUInt32).toInt32))]))
    refine gv (fun tQ kQ => XS.iand X454.here hx rfl (hb hby at_12) rfl kQ) ?_
    show G (T454.setTop (mkF me_ 13 #[.val (.int p0), .val (.int p1), .val (.int p2), .val (.ref s_454), .unset, .unset] [(.int (((p0.toUInt32 >>> ((2 : Int32) &&& 31).toUInt32).toInt32) &&& (3 : Int32)))]))
    rcases own_and3 ((p0.toUInt32 >>> ((2 : Int32) &&& 31).toUInt32).toInt32) with q | q | q | q
    · rw [q]
      show G (T454.setTop (mkF me_ 13 #[.val (.int p0), .val (.int p1), .val (.int p2), .val (.ref s_454), .unset, .unset] [(.int (0 : Int32))]))
      refine gv (fun tQ kQ => XS.iloadN X454.here hx rfl (hb hby at_13) rfl kQ) ?_
      show G (T454.setTop (mkF me_ 14 #[.val (.int p0), .val (.int p1), .val (.int p2), .val (.ref s_454), .unset, .unset] [(.int p2), (.int (0 : Int32))]))
      obtain ⟨_, _, ⟨T457, L457, k457, n457⟩, -, X457, hS457, hg457, ⟨Lc457, hQ457, l457, y457, z457, CRn457⟩, st457⟩ := callSS X454 hx (y := (⟨"com/example/slot1/slot1/balance/OptionsStringPinLaw", "make", "(II)Ljava/lang/String;"⟩ : MethodName)) hown (mvT hZ (hw _ (List.mem_of_getElem? (i := 0) rfl))) (mvT hZ (hw _ (List.mem_of_getElem? (i := 1) rfl))) (mvT hZ (hw _ (List.mem_of_getElem? (i := 2) rfl))) (mvT hZ (hw _ (List.mem_of_getElem? (i := 3) rfl))) (by decide) (own_backH (W := 0) (rm_mk0 l Z a0 hw [] p2 cs h454 n0 O456 u0 u1) hZ (hw _ (List.mem_of_getElem? (i := 3) rfl)) (hw _ (List.mem_of_getElem? (i := 2) rfl)) (by decide) (by decide) hEL CR.1 own_sf0) (g := (mkF me_ 14 #[.val (.int p0), .val (.int p1), .val (.int p2), .val (.ref s_454), .unset, .unset] [(.int p2), (.int (0 : Int32))])) rfl (by rw [hml]; rfl) (argsL := [(.int (0 : Int32)), (.int p2)]) (rest := []) (lenOf pd_9 rfl) rfl (by show 2 * 0 + _ ≤ _; exact Nat.le_of_eq rfl) (hb hby at_14) (fun _ _ => ⟨rfl, e454, (by decide : 3 + 6 ≤ _), (by decide : 8 + 12 ≤ _)⟩)
      dsimp only [Pt.U, Pt.locs, Pt.cells, Pt.slots] at X457 l457 y457 z457 st457 hQ457 hS457 hg457 CRn457
      subst l457 y457 z457
      have hS := foldS hS (by rw [e454]; exact hk) hS457 hg457
      have hZ : Z.Warmed39 T457.vm := State.Warmed39.trans (t := st_.setVm st_.vm) hZ hS457.1
      have hown : T457.vm.findClass "com/example/slot1/slot1/balance/OptionsStringPinLaw" = some me_.cls := by rw [hS457.1.alike.findClass]; exact hown
      have X457 : Stand pr_ l en_ _ (st_.setVm T457.vm) me_ _ below meth_ co_ T457 _ _ _ := X457
      obtain ⟨s_457, rfl, Nq457, Kq457, w457_0⟩ := hQ457
      have N458 := Fr.app N455 Nq457
      obtain ⟨h457, e457⟩ : ∃ z, T457.heap = z := ⟨_, rfl⟩
      rw [e457] at Kq457 CRn457 w457_0
      have CR := CR.trans CRn457
      obtain ⟨kk457, hkk457⟩ : ∃ z, z = T457.heap.size := ⟨_, rfl⟩
      rw [← hkk457] at hS
      have hk : kk457 ≤ h457.size := by rw [hkk457, e457]; exact Nat.le_refl _
      have f459 : Exa Z h457 s_454 "java/lang/String" := w454_0.keep Kq457
      have O460 := O456.keep Kq457 all0
      refine gv (fun tQ kQ => st457.trans kQ) ?_
      show G (T457.setTop (mkF me_ 17 #[.val (.int p0), .val (.int p1), .val (.int p2), .val (.ref s_454), .unset, .unset] [(.ref s_457)]))
      refine gv (fun tQ kQ => XS.astore X457.here hx rfl (hb hby at_17) rfl rfl (l' := #[.val (.int p0), .val (.int p1), .val (.int p2), .val (.ref s_454), .val (.ref s_457), .unset]) rfl kQ) ?_
      show G (T457.setTop (mkF me_ 19 #[.val (.int p0), .val (.int p1), .val (.int p2), .val (.ref s_454), .val (.ref s_457), .unset] []))
      refine gv (fun tQ kQ => XS.aloadN X457.here hx rfl (hb hby at_19) rfl rfl kQ) ?_
      show G (T457.setTop (mkF me_ 20 #[.val (.int p0), .val (.int p1), .val (.int p2), .val (.ref s_454), .val (.ref s_457), .unset] [(.ref s_454)]))
      refine gv (fun tQ kQ => XS.aload X457.here hx rfl (hb hby at_20) rfl rfl kQ) ?_
      show G (T457.setTop (mkF me_ 22 #[.val (.int p0), .val (.int p1), .val (.int p2), .val (.ref s_454), .val (.ref s_457), .unset] [(.ref s_457), (.ref s_454)]))
      obtain ⟨_, _, ⟨T461, L461, k461, n461⟩, -, X461, ⟨Lc461, hQ461, l461, y461, z461⟩, st461⟩ := Jvm.LawKit.callS X457 hx (y := (⟨"com/example/slot1/slot1/balance/Options", "string", "(Ljava/lang/Object;Ljava/lang/String;)Ljava/lang/String;"⟩ : MethodName)) hown (mvT hZ (hw _ (List.mem_of_getElem? (i := 26) rfl))) (mvT hZ (hw _ (List.mem_of_getElem? (i := 27) rfl))) (mvT hZ (hw _ (List.mem_of_getElem? (i := 28) rfl))) (mvT hZ (hw _ (List.mem_of_getElem? (i := 29) rfl))) (by decide) (backOf (W := 0) (rm_str l Z a0 hw [] s_454 s_457 h457 n0 O460 f459) hZ (hw _ (List.mem_of_getElem? (i := 29) rfl)) (hw _ (List.mem_of_getElem? (i := 28) rfl)) (by decide) (by decide)) (g := (mkF me_ 22 #[.val (.int p0), .val (.int p1), .val (.int p2), .val (.ref s_454), .val (.ref s_457), .unset] [(.ref s_457), (.ref s_454)])) rfl (by rw [hml]; rfl) (argsL := [(.ref s_454), (.ref s_457)]) (rest := []) (lenOf pd_10 rfl) rfl (by show 2 * 0 + _ ≤ _; exact Nat.le_of_eq rfl) (hb hby at_22) (fun _ _ => ⟨rfl, e457, (by decide : 9 + 0 ≤ _), (by decide : 20 + 0 ≤ _)⟩)
      dsimp only [Pt.U, Pt.locs, Pt.cells, Pt.slots] at X461 l461 y461 z461 st461 hQ461
      subst l461 y461 z461
      obtain ⟨rfl, Nq461, eq461⟩ := hQ461
      have N462 := Fr.app N458 Nq461
      refine gv st461 ?_
      show G (T461.setTop (mkF me_ 25 #[.val (.int p0), .val (.int p1), .val (.int p2), .val (.ref s_454), .val (.ref s_457), .unset] [(.ref s_454)]))
      refine gv (fun tQ kQ => XS.astore X461.here hx rfl (hb hby at_25) rfl rfl (l' := #[.val (.int p0), .val (.int p1), .val (.int p2), .val (.ref s_454), .val (.ref s_457), .val (.ref s_454)]) rfl kQ) ?_
      show G (T461.setTop (mkF me_ 27 #[.val (.int p0), .val (.int p1), .val (.int p2), .val (.ref s_454), .val (.ref s_457), .val (.ref s_454)] []))
      refine gv (fun tQ kQ => XS.aload X461.here hx rfl (hb hby at_27) rfl rfl kQ) ?_
      show G (T461.setTop (mkF me_ 29 #[.val (.int p0), .val (.int p1), .val (.int p2), .val (.ref s_454), .val (.ref s_457), .val (.ref s_454)] [(.ref s_454)]))
      refine gv (fun tQ kQ => XS.aloadN X461.here hx rfl (hb hby at_29) rfl rfl kQ) ?_
      show G (T461.setTop (mkF me_ 30 #[.val (.int p0), .val (.int p1), .val (.int p2), .val (.ref s_454), .val (.ref s_457), .val (.ref s_454)] [(.ref s_454), (.ref s_454)]))
      refine gv (fun tQ kQ => Jvm.RoadKit.acmp (g := (mkF me_ 30 #[.val (.int p0), .val (.int p1), .val (.int p2), .val (.ref s_454), .val (.ref s_457), .val (.ref s_454)] [(.ref s_454), (.ref s_454)])) X461 hx rfl rfl rfl (pc0 := 30) (pc' := 33) (same := true) rfl (hb hby at_30) rfl (decide_eq_true rfl) (by decide) (by decide) kQ) ?_
      show G (T461.setTop (mkF me_ 33 #[.val (.int p0), .val (.int p1), .val (.int p2), .val (.ref s_454), .val (.ref s_457), .val (.ref s_454)] []))
      refine gv (fun tQ kQ => XS.iconst X461.here hx rfl (hb hby at_33) kQ) ?_
      show G (T461.setTop (mkF me_ 34 #[.val (.int p0), .val (.int p1), .val (.int p2), .val (.ref s_454), .val (.ref s_457), .val (.ref s_454)] [(.int (1 : Int32))]))
      refine gv (fun tQ kQ => XS.goto X461.here hx rfl (pc0 := 34) (pc' := 38) rfl (hb hby at_34) (by decide) (by decide) kQ) ?_
      show G (T461.setTop (mkF me_ 38 #[.val (.int p0), .val (.int p1), .val (.int p2), .val (.ref s_454), .val (.ref s_457), .val (.ref s_454)] [(.int (1 : Int32))]))
      refine gf _ (own_retW X461 Bd.notSynchronized hS (by rw [eq461]; exact hk) (v := some (.int (1 : Int32))) (fun h => by rw [Bd.returns] at h; cases h) ?_ (by decide) (by decide) (by rw [hh, eq461]; exact CR.trans (CHv.at X461 hZ hEL CR.1)) (fun fs hr => retN X461 hx (t := .boolean) Bd.returns (by simp) (hb hby at_38) hr))
      show Q0 Z p0 p1 p2 cs h0 n0 _ T461.heap _
      rw [eq461]
      exact ⟨rfl, N462⟩
    · rw [q]
      show G (T454.setTop (mkF me_ 13 #[.val (.int p0), .val (.int p1), .val (.int p2), .val (.ref s_454), .unset, .unset] [(.int (1 : Int32))]))
      refine gv (fun tQ kQ => XS.iloadN X454.here hx rfl (hb hby at_13) rfl kQ) ?_
      show G (T454.setTop (mkF me_ 14 #[.val (.int p0), .val (.int p1), .val (.int p2), .val (.ref s_454), .unset, .unset] [(.int p2), (.int (1 : Int32))]))
      obtain ⟨_, _, ⟨T463, L463, k463, n463⟩, -, X463, ⟨Lc463, hQ463, l463, y463, z463⟩, st463⟩ := Jvm.LawKit.callS X454 hx (y := (⟨"com/example/slot1/slot1/balance/OptionsStringPinLaw", "make", "(II)Ljava/lang/String;"⟩ : MethodName)) hown (mvT hZ (hw _ (List.mem_of_getElem? (i := 0) rfl))) (mvT hZ (hw _ (List.mem_of_getElem? (i := 1) rfl))) (mvT hZ (hw _ (List.mem_of_getElem? (i := 2) rfl))) (mvT hZ (hw _ (List.mem_of_getElem? (i := 3) rfl))) (by decide) (backOf (W := 0) (rm_mk1 l Z a0 hw [] p2 cs h454 n0 O456 u0 u1) hZ (hw _ (List.mem_of_getElem? (i := 3) rfl)) (hw _ (List.mem_of_getElem? (i := 2) rfl)) (by decide) (by decide)) (g := (mkF me_ 14 #[.val (.int p0), .val (.int p1), .val (.int p2), .val (.ref s_454), .unset, .unset] [(.int p2), (.int (1 : Int32))])) rfl (by rw [hml]; rfl) (argsL := [(.int (1 : Int32)), (.int p2)]) (rest := []) (lenOf pd_9 rfl) rfl (by show 2 * 0 + _ ≤ _; exact Nat.le_of_eq rfl) (hb hby at_14) (fun _ _ => ⟨rfl, e454, (by decide : 3 + 2 ≤ _), (by decide : 8 + 5 ≤ _)⟩)
      dsimp only [Pt.U, Pt.locs, Pt.cells, Pt.slots] at X463 l463 y463 z463 st463 hQ463
      subst l463 y463 z463
      obtain ⟨s_463, rfl, Nq463, Kq463, w463_0⟩ := hQ463
      have N464 := Fr.app N455 Nq463
      obtain ⟨h463, e463⟩ : ∃ z, T463.heap = z := ⟨_, rfl⟩
      rw [e463] at Kq463 w463_0
      have CR := CR.trans (CHr.keep Kq463 sf0 CR.1)
      have hk := Nat.le_trans hk Kq463.1
      have f465 : Exa Z h463 s_454 "java/lang/String" := w454_0.keep Kq463
      have O466 := O456.keep Kq463 all0
      refine gv st463 ?_
      show G (T463.setTop (mkF me_ 17 #[.val (.int p0), .val (.int p1), .val (.int p2), .val (.ref s_454), .unset, .unset] [(.ref s_463)]))
      refine gv (fun tQ kQ => XS.astore X463.here hx rfl (hb hby at_17) rfl rfl (l' := #[.val (.int p0), .val (.int p1), .val (.int p2), .val (.ref s_454), .val (.ref s_463), .unset]) rfl kQ) ?_
      show G (T463.setTop (mkF me_ 19 #[.val (.int p0), .val (.int p1), .val (.int p2), .val (.ref s_454), .val (.ref s_463), .unset] []))
      refine gv (fun tQ kQ => XS.aloadN X463.here hx rfl (hb hby at_19) rfl rfl kQ) ?_
      show G (T463.setTop (mkF me_ 20 #[.val (.int p0), .val (.int p1), .val (.int p2), .val (.ref s_454), .val (.ref s_463), .unset] [(.ref s_454)]))
      refine gv (fun tQ kQ => XS.aload X463.here hx rfl (hb hby at_20) rfl rfl kQ) ?_
      show G (T463.setTop (mkF me_ 22 #[.val (.int p0), .val (.int p1), .val (.int p2), .val (.ref s_454), .val (.ref s_463), .unset] [(.ref s_463), (.ref s_454)]))
      obtain ⟨_, _, ⟨T467, L467, k467, n467⟩, -, X467, ⟨Lc467, hQ467, l467, y467, z467⟩, st467⟩ := Jvm.LawKit.callS X463 hx (y := (⟨"com/example/slot1/slot1/balance/Options", "string", "(Ljava/lang/Object;Ljava/lang/String;)Ljava/lang/String;"⟩ : MethodName)) hown (mvT hZ (hw _ (List.mem_of_getElem? (i := 26) rfl))) (mvT hZ (hw _ (List.mem_of_getElem? (i := 27) rfl))) (mvT hZ (hw _ (List.mem_of_getElem? (i := 28) rfl))) (mvT hZ (hw _ (List.mem_of_getElem? (i := 29) rfl))) (by decide) (backOf (W := 0) (rm_str l Z a0 hw [] s_454 s_463 h463 n0 O466 f465) hZ (hw _ (List.mem_of_getElem? (i := 29) rfl)) (hw _ (List.mem_of_getElem? (i := 28) rfl)) (by decide) (by decide)) (g := (mkF me_ 22 #[.val (.int p0), .val (.int p1), .val (.int p2), .val (.ref s_454), .val (.ref s_463), .unset] [(.ref s_463), (.ref s_454)])) rfl (by rw [hml]; rfl) (argsL := [(.ref s_454), (.ref s_463)]) (rest := []) (lenOf pd_10 rfl) rfl (by show 2 * 0 + _ ≤ _; exact Nat.le_of_eq rfl) (hb hby at_22) (fun _ _ => ⟨rfl, e463, (by decide : 5 + 0 ≤ _), (by decide : 13 + 0 ≤ _)⟩)
      dsimp only [Pt.U, Pt.locs, Pt.cells, Pt.slots] at X467 l467 y467 z467 st467 hQ467
      subst l467 y467 z467
      obtain ⟨rfl, Nq467, eq467⟩ := hQ467
      have N468 := Fr.app N464 Nq467
      refine gv st467 ?_
      show G (T467.setTop (mkF me_ 25 #[.val (.int p0), .val (.int p1), .val (.int p2), .val (.ref s_454), .val (.ref s_463), .unset] [(.ref s_454)]))
      refine gv (fun tQ kQ => XS.astore X467.here hx rfl (hb hby at_25) rfl rfl (l' := #[.val (.int p0), .val (.int p1), .val (.int p2), .val (.ref s_454), .val (.ref s_463), .val (.ref s_454)]) rfl kQ) ?_
      show G (T467.setTop (mkF me_ 27 #[.val (.int p0), .val (.int p1), .val (.int p2), .val (.ref s_454), .val (.ref s_463), .val (.ref s_454)] []))
      refine gv (fun tQ kQ => XS.aload X467.here hx rfl (hb hby at_27) rfl rfl kQ) ?_
      show G (T467.setTop (mkF me_ 29 #[.val (.int p0), .val (.int p1), .val (.int p2), .val (.ref s_454), .val (.ref s_463), .val (.ref s_454)] [(.ref s_454)]))
      refine gv (fun tQ kQ => XS.aloadN X467.here hx rfl (hb hby at_29) rfl rfl kQ) ?_
      show G (T467.setTop (mkF me_ 30 #[.val (.int p0), .val (.int p1), .val (.int p2), .val (.ref s_454), .val (.ref s_463), .val (.ref s_454)] [(.ref s_454), (.ref s_454)]))
      refine gv (fun tQ kQ => Jvm.RoadKit.acmp (g := (mkF me_ 30 #[.val (.int p0), .val (.int p1), .val (.int p2), .val (.ref s_454), .val (.ref s_463), .val (.ref s_454)] [(.ref s_454), (.ref s_454)])) X467 hx rfl rfl rfl (pc0 := 30) (pc' := 33) (same := true) rfl (hb hby at_30) rfl (decide_eq_true rfl) (by decide) (by decide) kQ) ?_
      show G (T467.setTop (mkF me_ 33 #[.val (.int p0), .val (.int p1), .val (.int p2), .val (.ref s_454), .val (.ref s_463), .val (.ref s_454)] []))
      refine gv (fun tQ kQ => XS.iconst X467.here hx rfl (hb hby at_33) kQ) ?_
      show G (T467.setTop (mkF me_ 34 #[.val (.int p0), .val (.int p1), .val (.int p2), .val (.ref s_454), .val (.ref s_463), .val (.ref s_454)] [(.int (1 : Int32))]))
      refine gv (fun tQ kQ => XS.goto X467.here hx rfl (pc0 := 34) (pc' := 38) rfl (hb hby at_34) (by decide) (by decide) kQ) ?_
      show G (T467.setTop (mkF me_ 38 #[.val (.int p0), .val (.int p1), .val (.int p2), .val (.ref s_454), .val (.ref s_463), .val (.ref s_454)] [(.int (1 : Int32))]))
      refine gf _ (own_retW X467 Bd.notSynchronized hS (by rw [eq467]; exact hk) (v := some (.int (1 : Int32))) (fun h => by rw [Bd.returns] at h; cases h) ?_ (by decide) (by decide) (by rw [hh, eq467]; exact CR.trans (CHv.at X467 hZ hEL CR.1)) (fun fs hr => retN X467 hx (t := .boolean) Bd.returns (by simp) (hb hby at_38) hr))
      show Q0 Z p0 p1 p2 cs h0 n0 _ T467.heap _
      rw [eq467]
      exact ⟨rfl, N468⟩
    · rw [q]
      show G (T454.setTop (mkF me_ 13 #[.val (.int p0), .val (.int p1), .val (.int p2), .val (.ref s_454), .unset, .unset] [(.int (2 : Int32))]))
      refine gv (fun tQ kQ => XS.iloadN X454.here hx rfl (hb hby at_13) rfl kQ) ?_
      show G (T454.setTop (mkF me_ 14 #[.val (.int p0), .val (.int p1), .val (.int p2), .val (.ref s_454), .unset, .unset] [(.int p2), (.int (2 : Int32))]))
      obtain ⟨_, _, ⟨T469, L469, k469, n469⟩, -, X469, ⟨Lc469, hQ469, l469, y469, z469⟩, st469⟩ := Jvm.LawKit.callS X454 hx (y := (⟨"com/example/slot1/slot1/balance/OptionsStringPinLaw", "make", "(II)Ljava/lang/String;"⟩ : MethodName)) hown (mvT hZ (hw _ (List.mem_of_getElem? (i := 0) rfl))) (mvT hZ (hw _ (List.mem_of_getElem? (i := 1) rfl))) (mvT hZ (hw _ (List.mem_of_getElem? (i := 2) rfl))) (mvT hZ (hw _ (List.mem_of_getElem? (i := 3) rfl))) (by decide) (backOf (W := 0) (rm_mk2 l Z a0 hw [] p2 cs h454 n0 O456 u0 u1) hZ (hw _ (List.mem_of_getElem? (i := 3) rfl)) (hw _ (List.mem_of_getElem? (i := 2) rfl)) (by decide) (by decide)) (g := (mkF me_ 14 #[.val (.int p0), .val (.int p1), .val (.int p2), .val (.ref s_454), .unset, .unset] [(.int p2), (.int (2 : Int32))])) rfl (by rw [hml]; rfl) (argsL := [(.int (2 : Int32)), (.int p2)]) (rest := []) (lenOf pd_9 rfl) rfl (by show 2 * 0 + _ ≤ _; exact Nat.le_of_eq rfl) (hb hby at_14) (fun _ _ => ⟨rfl, e454, (by decide : 3 + 3 ≤ _), (by decide : 8 + 8 ≤ _)⟩)
      dsimp only [Pt.U, Pt.locs, Pt.cells, Pt.slots] at X469 l469 y469 z469 st469 hQ469
      subst l469 y469 z469
      obtain ⟨s_469, rfl, Nq469, Kq469, w469_0⟩ := hQ469
      have N470 := Fr.app N455 Nq469
      obtain ⟨h469, e469⟩ : ∃ z, T469.heap = z := ⟨_, rfl⟩
      rw [e469] at Kq469 w469_0
      have CR := CR.trans (CHr.keep Kq469 sf0 CR.1)
      have hk := Nat.le_trans hk Kq469.1
      have f471 : Exa Z h469 s_454 "java/lang/String" := w454_0.keep Kq469
      have O472 := O456.keep Kq469 all0
      refine gv st469 ?_
      show G (T469.setTop (mkF me_ 17 #[.val (.int p0), .val (.int p1), .val (.int p2), .val (.ref s_454), .unset, .unset] [(.ref s_469)]))
      refine gv (fun tQ kQ => XS.astore X469.here hx rfl (hb hby at_17) rfl rfl (l' := #[.val (.int p0), .val (.int p1), .val (.int p2), .val (.ref s_454), .val (.ref s_469), .unset]) rfl kQ) ?_
      show G (T469.setTop (mkF me_ 19 #[.val (.int p0), .val (.int p1), .val (.int p2), .val (.ref s_454), .val (.ref s_469), .unset] []))
      refine gv (fun tQ kQ => XS.aloadN X469.here hx rfl (hb hby at_19) rfl rfl kQ) ?_
      show G (T469.setTop (mkF me_ 20 #[.val (.int p0), .val (.int p1), .val (.int p2), .val (.ref s_454), .val (.ref s_469), .unset] [(.ref s_454)]))
      refine gv (fun tQ kQ => XS.aload X469.here hx rfl (hb hby at_20) rfl rfl kQ) ?_
      show G (T469.setTop (mkF me_ 22 #[.val (.int p0), .val (.int p1), .val (.int p2), .val (.ref s_454), .val (.ref s_469), .unset] [(.ref s_469), (.ref s_454)]))
      obtain ⟨_, _, ⟨T473, L473, k473, n473⟩, -, X473, ⟨Lc473, hQ473, l473, y473, z473⟩, st473⟩ := Jvm.LawKit.callS X469 hx (y := (⟨"com/example/slot1/slot1/balance/Options", "string", "(Ljava/lang/Object;Ljava/lang/String;)Ljava/lang/String;"⟩ : MethodName)) hown (mvT hZ (hw _ (List.mem_of_getElem? (i := 26) rfl))) (mvT hZ (hw _ (List.mem_of_getElem? (i := 27) rfl))) (mvT hZ (hw _ (List.mem_of_getElem? (i := 28) rfl))) (mvT hZ (hw _ (List.mem_of_getElem? (i := 29) rfl))) (by decide) (backOf (W := 0) (rm_str l Z a0 hw [] s_454 s_469 h469 n0 O472 f471) hZ (hw _ (List.mem_of_getElem? (i := 29) rfl)) (hw _ (List.mem_of_getElem? (i := 28) rfl)) (by decide) (by decide)) (g := (mkF me_ 22 #[.val (.int p0), .val (.int p1), .val (.int p2), .val (.ref s_454), .val (.ref s_469), .unset] [(.ref s_469), (.ref s_454)])) rfl (by rw [hml]; rfl) (argsL := [(.ref s_454), (.ref s_469)]) (rest := []) (lenOf pd_10 rfl) rfl (by show 2 * 0 + _ ≤ _; exact Nat.le_of_eq rfl) (hb hby at_22) (fun _ _ => ⟨rfl, e469, (by decide : 6 + 0 ≤ _), (by decide : 16 + 0 ≤ _)⟩)
      dsimp only [Pt.U, Pt.locs, Pt.cells, Pt.slots] at X473 l473 y473 z473 st473 hQ473
      subst l473 y473 z473
      obtain ⟨rfl, Nq473, eq473⟩ := hQ473
      have N474 := Fr.app N470 Nq473
      refine gv st473 ?_
      show G (T473.setTop (mkF me_ 25 #[.val (.int p0), .val (.int p1), .val (.int p2), .val (.ref s_454), .val (.ref s_469), .unset] [(.ref s_454)]))
      refine gv (fun tQ kQ => XS.astore X473.here hx rfl (hb hby at_25) rfl rfl (l' := #[.val (.int p0), .val (.int p1), .val (.int p2), .val (.ref s_454), .val (.ref s_469), .val (.ref s_454)]) rfl kQ) ?_
      show G (T473.setTop (mkF me_ 27 #[.val (.int p0), .val (.int p1), .val (.int p2), .val (.ref s_454), .val (.ref s_469), .val (.ref s_454)] []))
      refine gv (fun tQ kQ => XS.aload X473.here hx rfl (hb hby at_27) rfl rfl kQ) ?_
      show G (T473.setTop (mkF me_ 29 #[.val (.int p0), .val (.int p1), .val (.int p2), .val (.ref s_454), .val (.ref s_469), .val (.ref s_454)] [(.ref s_454)]))
      refine gv (fun tQ kQ => XS.aloadN X473.here hx rfl (hb hby at_29) rfl rfl kQ) ?_
      show G (T473.setTop (mkF me_ 30 #[.val (.int p0), .val (.int p1), .val (.int p2), .val (.ref s_454), .val (.ref s_469), .val (.ref s_454)] [(.ref s_454), (.ref s_454)]))
      refine gv (fun tQ kQ => Jvm.RoadKit.acmp (g := (mkF me_ 30 #[.val (.int p0), .val (.int p1), .val (.int p2), .val (.ref s_454), .val (.ref s_469), .val (.ref s_454)] [(.ref s_454), (.ref s_454)])) X473 hx rfl rfl rfl (pc0 := 30) (pc' := 33) (same := true) rfl (hb hby at_30) rfl (decide_eq_true rfl) (by decide) (by decide) kQ) ?_
      show G (T473.setTop (mkF me_ 33 #[.val (.int p0), .val (.int p1), .val (.int p2), .val (.ref s_454), .val (.ref s_469), .val (.ref s_454)] []))
      refine gv (fun tQ kQ => XS.iconst X473.here hx rfl (hb hby at_33) kQ) ?_
      show G (T473.setTop (mkF me_ 34 #[.val (.int p0), .val (.int p1), .val (.int p2), .val (.ref s_454), .val (.ref s_469), .val (.ref s_454)] [(.int (1 : Int32))]))
      refine gv (fun tQ kQ => XS.goto X473.here hx rfl (pc0 := 34) (pc' := 38) rfl (hb hby at_34) (by decide) (by decide) kQ) ?_
      show G (T473.setTop (mkF me_ 38 #[.val (.int p0), .val (.int p1), .val (.int p2), .val (.ref s_454), .val (.ref s_469), .val (.ref s_454)] [(.int (1 : Int32))]))
      refine gf _ (own_retW X473 Bd.notSynchronized hS (by rw [eq473]; exact hk) (v := some (.int (1 : Int32))) (fun h => by rw [Bd.returns] at h; cases h) ?_ (by decide) (by decide) (by rw [hh, eq473]; exact CR.trans (CHv.at X473 hZ hEL CR.1)) (fun fs hr => retN X473 hx (t := .boolean) Bd.returns (by simp) (hb hby at_38) hr))
      show Q0 Z p0 p1 p2 cs h0 n0 _ T473.heap _
      rw [eq473]
      exact ⟨rfl, N474⟩
    · rw [q]
      show G (T454.setTop (mkF me_ 13 #[.val (.int p0), .val (.int p1), .val (.int p2), .val (.ref s_454), .unset, .unset] [(.int (3 : Int32))]))
      refine gv (fun tQ kQ => XS.iloadN X454.here hx rfl (hb hby at_13) rfl kQ) ?_
      show G (T454.setTop (mkF me_ 14 #[.val (.int p0), .val (.int p1), .val (.int p2), .val (.ref s_454), .unset, .unset] [(.int p2), (.int (3 : Int32))]))
      obtain ⟨_, _, ⟨T475, L475, k475, n475⟩, -, X475, ⟨Lc475, hQ475, l475, y475, z475⟩, st475⟩ := Jvm.LawKit.callS X454 hx (y := (⟨"com/example/slot1/slot1/balance/OptionsStringPinLaw", "make", "(II)Ljava/lang/String;"⟩ : MethodName)) hown (mvT hZ (hw _ (List.mem_of_getElem? (i := 0) rfl))) (mvT hZ (hw _ (List.mem_of_getElem? (i := 1) rfl))) (mvT hZ (hw _ (List.mem_of_getElem? (i := 2) rfl))) (mvT hZ (hw _ (List.mem_of_getElem? (i := 3) rfl))) (by decide) (backOf (W := 0) (rm_mk3 l Z a0 hw [] p2 cs h454 n0 O456 u0 u1) hZ (hw _ (List.mem_of_getElem? (i := 3) rfl)) (hw _ (List.mem_of_getElem? (i := 2) rfl)) (by decide) (by decide)) (g := (mkF me_ 14 #[.val (.int p0), .val (.int p1), .val (.int p2), .val (.ref s_454), .unset, .unset] [(.int p2), (.int (3 : Int32))])) rfl (by rw [hml]; rfl) (argsL := [(.int (3 : Int32)), (.int p2)]) (rest := []) (lenOf pd_9 rfl) rfl (by show 2 * 0 + _ ≤ _; exact Nat.le_of_eq rfl) (hb hby at_14) (fun _ _ => ⟨rfl, e454, (by decide : 3 + 3 ≤ _), (by decide : 8 + 10 ≤ _)⟩)
      dsimp only [Pt.U, Pt.locs, Pt.cells, Pt.slots] at X475 l475 y475 z475 st475 hQ475
      subst l475 y475 z475
      obtain ⟨s_475, rfl, Nq475, Kq475, w475_0⟩ := hQ475
      have N476 := Fr.app N455 Nq475
      obtain ⟨h475, e475⟩ : ∃ z, T475.heap = z := ⟨_, rfl⟩
      rw [e475] at Kq475 w475_0
      have CR := CR.trans (CHr.keep Kq475 sf0 CR.1)
      have hk := Nat.le_trans hk Kq475.1
      have f477 : Exa Z h475 s_454 "java/lang/String" := w454_0.keep Kq475
      have O478 := O456.keep Kq475 all0
      refine gv st475 ?_
      show G (T475.setTop (mkF me_ 17 #[.val (.int p0), .val (.int p1), .val (.int p2), .val (.ref s_454), .unset, .unset] [(.ref s_475)]))
      refine gv (fun tQ kQ => XS.astore X475.here hx rfl (hb hby at_17) rfl rfl (l' := #[.val (.int p0), .val (.int p1), .val (.int p2), .val (.ref s_454), .val (.ref s_475), .unset]) rfl kQ) ?_
      show G (T475.setTop (mkF me_ 19 #[.val (.int p0), .val (.int p1), .val (.int p2), .val (.ref s_454), .val (.ref s_475), .unset] []))
      refine gv (fun tQ kQ => XS.aloadN X475.here hx rfl (hb hby at_19) rfl rfl kQ) ?_
      show G (T475.setTop (mkF me_ 20 #[.val (.int p0), .val (.int p1), .val (.int p2), .val (.ref s_454), .val (.ref s_475), .unset] [(.ref s_454)]))
      refine gv (fun tQ kQ => XS.aload X475.here hx rfl (hb hby at_20) rfl rfl kQ) ?_
      show G (T475.setTop (mkF me_ 22 #[.val (.int p0), .val (.int p1), .val (.int p2), .val (.ref s_454), .val (.ref s_475), .unset] [(.ref s_475), (.ref s_454)]))
      obtain ⟨_, _, ⟨T479, L479, k479, n479⟩, -, X479, ⟨Lc479, hQ479, l479, y479, z479⟩, st479⟩ := Jvm.LawKit.callS X475 hx (y := (⟨"com/example/slot1/slot1/balance/Options", "string", "(Ljava/lang/Object;Ljava/lang/String;)Ljava/lang/String;"⟩ : MethodName)) hown (mvT hZ (hw _ (List.mem_of_getElem? (i := 26) rfl))) (mvT hZ (hw _ (List.mem_of_getElem? (i := 27) rfl))) (mvT hZ (hw _ (List.mem_of_getElem? (i := 28) rfl))) (mvT hZ (hw _ (List.mem_of_getElem? (i := 29) rfl))) (by decide) (backOf (W := 0) (rm_str l Z a0 hw [] s_454 s_475 h475 n0 O478 f477) hZ (hw _ (List.mem_of_getElem? (i := 29) rfl)) (hw _ (List.mem_of_getElem? (i := 28) rfl)) (by decide) (by decide)) (g := (mkF me_ 22 #[.val (.int p0), .val (.int p1), .val (.int p2), .val (.ref s_454), .val (.ref s_475), .unset] [(.ref s_475), (.ref s_454)])) rfl (by rw [hml]; rfl) (argsL := [(.ref s_454), (.ref s_475)]) (rest := []) (lenOf pd_10 rfl) rfl (by show 2 * 0 + _ ≤ _; exact Nat.le_of_eq rfl) (hb hby at_22) (fun _ _ => ⟨rfl, e475, (by decide : 6 + 0 ≤ _), (by decide : 18 + 0 ≤ _)⟩)
      dsimp only [Pt.U, Pt.locs, Pt.cells, Pt.slots] at X479 l479 y479 z479 st479 hQ479
      subst l479 y479 z479
      obtain ⟨rfl, Nq479, eq479⟩ := hQ479
      have N480 := Fr.app N476 Nq479
      refine gv st479 ?_
      show G (T479.setTop (mkF me_ 25 #[.val (.int p0), .val (.int p1), .val (.int p2), .val (.ref s_454), .val (.ref s_475), .unset] [(.ref s_454)]))
      refine gv (fun tQ kQ => XS.astore X479.here hx rfl (hb hby at_25) rfl rfl (l' := #[.val (.int p0), .val (.int p1), .val (.int p2), .val (.ref s_454), .val (.ref s_475), .val (.ref s_454)]) rfl kQ) ?_
      show G (T479.setTop (mkF me_ 27 #[.val (.int p0), .val (.int p1), .val (.int p2), .val (.ref s_454), .val (.ref s_475), .val (.ref s_454)] []))
      refine gv (fun tQ kQ => XS.aload X479.here hx rfl (hb hby at_27) rfl rfl kQ) ?_
      show G (T479.setTop (mkF me_ 29 #[.val (.int p0), .val (.int p1), .val (.int p2), .val (.ref s_454), .val (.ref s_475), .val (.ref s_454)] [(.ref s_454)]))
      refine gv (fun tQ kQ => XS.aloadN X479.here hx rfl (hb hby at_29) rfl rfl kQ) ?_
      show G (T479.setTop (mkF me_ 30 #[.val (.int p0), .val (.int p1), .val (.int p2), .val (.ref s_454), .val (.ref s_475), .val (.ref s_454)] [(.ref s_454), (.ref s_454)]))
      refine gv (fun tQ kQ => Jvm.RoadKit.acmp (g := (mkF me_ 30 #[.val (.int p0), .val (.int p1), .val (.int p2), .val (.ref s_454), .val (.ref s_475), .val (.ref s_454)] [(.ref s_454), (.ref s_454)])) X479 hx rfl rfl rfl (pc0 := 30) (pc' := 33) (same := true) rfl (hb hby at_30) rfl (decide_eq_true rfl) (by decide) (by decide) kQ) ?_
      show G (T479.setTop (mkF me_ 33 #[.val (.int p0), .val (.int p1), .val (.int p2), .val (.ref s_454), .val (.ref s_475), .val (.ref s_454)] []))
      refine gv (fun tQ kQ => XS.iconst X479.here hx rfl (hb hby at_33) kQ) ?_
      show G (T479.setTop (mkF me_ 34 #[.val (.int p0), .val (.int p1), .val (.int p2), .val (.ref s_454), .val (.ref s_475), .val (.ref s_454)] [(.int (1 : Int32))]))
      refine gv (fun tQ kQ => XS.goto X479.here hx rfl (pc0 := 34) (pc' := 38) rfl (hb hby at_34) (by decide) (by decide) kQ) ?_
      show G (T479.setTop (mkF me_ 38 #[.val (.int p0), .val (.int p1), .val (.int p2), .val (.ref s_454), .val (.ref s_475), .val (.ref s_454)] [(.int (1 : Int32))]))
      refine gf _ (own_retW X479 Bd.notSynchronized hS (by rw [eq479]; exact hk) (v := some (.int (1 : Int32))) (fun h => by rw [Bd.returns] at h; cases h) ?_ (by decide) (by decide) (by rw [hh, eq479]; exact CR.trans (CHv.at X479 hZ hEL CR.1)) (fun fs hr => retN X479 hx (t := .boolean) Bd.returns (by simp) (hb hby at_38) hr))
      show Q0 Z p0 p1 p2 cs h0 n0 _ T479.heap _
      rw [eq479]
      exact ⟨rfl, N480⟩
  · rw [q]
    show G (s₁.setTop (mkF me_ 3 #[.val (.int p0), .val (.int p1), .val (.int p2), .unset, .unset, .unset] [(.int (3 : Int32))]))
    refine gv (fun tQ kQ => XS.iloadN X0.here hx rfl (hb hby at_3) rfl kQ) ?_
    show G (s₁.setTop (mkF me_ 4 #[.val (.int p0), .val (.int p1), .val (.int p2), .unset, .unset, .unset] [(.int p1), (.int (3 : Int32))]))
    obtain ⟨_, _, ⟨T481, L481, k481, n481⟩, -, X481, ⟨Lc481, hQ481, l481, y481, z481⟩, st481⟩ := Jvm.LawKit.callS X0 hx (y := (⟨"com/example/slot1/slot1/balance/OptionsStringPinLaw", "make", "(II)Ljava/lang/String;"⟩ : MethodName)) hown (mvT hZ (hw _ (List.mem_of_getElem? (i := 0) rfl))) (mvT hZ (hw _ (List.mem_of_getElem? (i := 1) rfl))) (mvT hZ (hw _ (List.mem_of_getElem? (i := 2) rfl))) (mvT hZ (hw _ (List.mem_of_getElem? (i := 3) rfl))) (by decide) (backOf (W := 0) (rm_mk3 l Z a0 hw [] p1 cs h0 n0 O0 u0 u1) hZ (hw _ (List.mem_of_getElem? (i := 3) rfl)) (hw _ (List.mem_of_getElem? (i := 2) rfl)) (by decide) (by decide)) (g := (mkF me_ 4 #[.val (.int p0), .val (.int p1), .val (.int p2), .unset, .unset, .unset] [(.int p1), (.int (3 : Int32))])) rfl (by rw [hml]; rfl) (argsL := [(.int (3 : Int32)), (.int p1)]) (rest := []) (lenOf pd_9 rfl) rfl (by show 2 * 0 + _ ≤ _; exact Nat.le_of_eq rfl) (hb hby at_4) (fun _ _ => ⟨rfl, e0, (by decide : 0 + 3 ≤ _), (by decide : 0 + 10 ≤ _)⟩)
    dsimp only [Pt.U, Pt.locs, Pt.cells, Pt.slots] at X481 l481 y481 z481 st481 hQ481
    subst l481 y481 z481
    obtain ⟨s_481, rfl, Nq481, Kq481, w481_0⟩ := hQ481
    have N482 := Fr.app N0 Nq481
    obtain ⟨h481, e481⟩ : ∃ z, T481.heap = z := ⟨_, rfl⟩
    rw [e481] at Kq481 w481_0
    have CR := CR.trans (CHr.keep Kq481 sf0 CR.1)
    have hk := Nat.le_trans hk Kq481.1
    have O483 := O0.keep Kq481 all0
    refine gv st481 ?_
    show G (T481.setTop (mkF me_ 7 #[.val (.int p0), .val (.int p1), .val (.int p2), .unset, .unset, .unset] [(.ref s_481)]))
    refine gv (fun tQ kQ => XS.astoreN X481.here hx rfl (hb hby at_7) rfl rfl (l' := #[.val (.int p0), .val (.int p1), .val (.int p2), .val (.ref s_481), .unset, .unset]) rfl kQ) ?_
    show G (T481.setTop (mkF me_ 8 #[.val (.int p0), .val (.int p1), .val (.int p2), .val (.ref s_481), .unset, .unset] []))
    refine gv (fun tQ kQ => XS.iloadN X481.here hx rfl (hb hby at_8) rfl kQ) ?_
    show G (T481.setTop (mkF me_ 9 #[.val (.int p0), .val (.int p1), .val (.int p2), .val (.ref s_481), .unset, .unset] [(.int p0)]))
    refine gv (fun tQ kQ => XS.iconst X481.here hx rfl (hb hby at_9) kQ) ?_
    show G (T481.setTop (mkF me_ 10 #[.val (.int p0), .val (.int p1), .val (.int p2), .val (.ref s_481), .unset, .unset] [(.int (2 : Int32)), (.int p0)]))
    refine gv (fun tQ kQ => XS.iushr X481.here hx rfl (hb hby at_10) rfl kQ) ?_
    show G (T481.setTop (mkF me_ 11 #[.val (.int p0), .val (.int p1), .val (.int p2), .val (.ref s_481), .unset, .unset] [(.int ((p0.toUInt32 >>> ((2 : Int32) &&& 31).toUInt32).toInt32))]))
    refine gv (fun tQ kQ => XS.iconst X481.here hx rfl (hb hby at_11) kQ) ?_
    show G (T481.setTop (mkF me_ 12 #[.val (.int p0), .val (.int p1), .val (.int p2), .val (.ref s_481), .unset, .unset] [(.int (3 : Int32)), (.int ((p0.toUInt32 >>> ((2 : Int32) &&& 31).toUInt32).toInt32))]))
    refine gv (fun tQ kQ => XS.iand X481.here hx rfl (hb hby at_12) rfl kQ) ?_
    show G (T481.setTop (mkF me_ 13 #[.val (.int p0), .val (.int p1), .val (.int p2), .val (.ref s_481), .unset, .unset] [(.int (((p0.toUInt32 >>> ((2 : Int32) &&& 31).toUInt32).toInt32) &&& (3 : Int32)))]))
    rcases own_and3 ((p0.toUInt32 >>> ((2 : Int32) &&& 31).toUInt32).toInt32) with q | q | q | q
    · rw [q]
      show G (T481.setTop (mkF me_ 13 #[.val (.int p0), .val (.int p1), .val (.int p2), .val (.ref s_481), .unset, .unset] [(.int (0 : Int32))]))
      refine gv (fun tQ kQ => XS.iloadN X481.here hx rfl (hb hby at_13) rfl kQ) ?_
      show G (T481.setTop (mkF me_ 14 #[.val (.int p0), .val (.int p1), .val (.int p2), .val (.ref s_481), .unset, .unset] [(.int p2), (.int (0 : Int32))]))
      obtain ⟨_, _, ⟨T484, L484, k484, n484⟩, -, X484, hS484, hg484, ⟨Lc484, hQ484, l484, y484, z484, CRn484⟩, st484⟩ := callSS X481 hx (y := (⟨"com/example/slot1/slot1/balance/OptionsStringPinLaw", "make", "(II)Ljava/lang/String;"⟩ : MethodName)) hown (mvT hZ (hw _ (List.mem_of_getElem? (i := 0) rfl))) (mvT hZ (hw _ (List.mem_of_getElem? (i := 1) rfl))) (mvT hZ (hw _ (List.mem_of_getElem? (i := 2) rfl))) (mvT hZ (hw _ (List.mem_of_getElem? (i := 3) rfl))) (by decide) (own_backH (W := 0) (rm_mk0 l Z a0 hw [] p2 cs h481 n0 O483 u0 u1) hZ (hw _ (List.mem_of_getElem? (i := 3) rfl)) (hw _ (List.mem_of_getElem? (i := 2) rfl)) (by decide) (by decide) hEL CR.1 own_sf0) (g := (mkF me_ 14 #[.val (.int p0), .val (.int p1), .val (.int p2), .val (.ref s_481), .unset, .unset] [(.int p2), (.int (0 : Int32))])) rfl (by rw [hml]; rfl) (argsL := [(.int (0 : Int32)), (.int p2)]) (rest := []) (lenOf pd_9 rfl) rfl (by show 2 * 0 + _ ≤ _; exact Nat.le_of_eq rfl) (hb hby at_14) (fun _ _ => ⟨rfl, e481, (by decide : 3 + 6 ≤ _), (by decide : 10 + 12 ≤ _)⟩)
      dsimp only [Pt.U, Pt.locs, Pt.cells, Pt.slots] at X484 l484 y484 z484 st484 hQ484 hS484 hg484 CRn484
      subst l484 y484 z484
      have hS := foldS hS (by rw [e481]; exact hk) hS484 hg484
      have hZ : Z.Warmed39 T484.vm := State.Warmed39.trans (t := st_.setVm st_.vm) hZ hS484.1
      have hown : T484.vm.findClass "com/example/slot1/slot1/balance/OptionsStringPinLaw" = some me_.cls := by rw [hS484.1.alike.findClass]; exact hown
      have X484 : Stand pr_ l en_ _ (st_.setVm T484.vm) me_ _ below meth_ co_ T484 _ _ _ := X484
      obtain ⟨s_484, rfl, Nq484, Kq484, w484_0⟩ := hQ484
      have N485 := Fr.app N482 Nq484
      obtain ⟨h484, e484⟩ : ∃ z, T484.heap = z := ⟨_, rfl⟩
      rw [e484] at Kq484 CRn484 w484_0
      have CR := CR.trans CRn484
      obtain ⟨kk484, hkk484⟩ : ∃ z, z = T484.heap.size := ⟨_, rfl⟩
      rw [← hkk484] at hS
      have hk : kk484 ≤ h484.size := by rw [hkk484, e484]; exact Nat.le_refl _
      have f486 : Exa Z h484 s_481 "java/lang/String" := w481_0.keep Kq484
      have O487 := O483.keep Kq484 all0
      refine gv (fun tQ kQ => st484.trans kQ) ?_
      show G (T484.setTop (mkF me_ 17 #[.val (.int p0), .val (.int p1), .val (.int p2), .val (.ref s_481), .unset, .unset] [(.ref s_484)]))
      refine gv (fun tQ kQ => XS.astore X484.here hx rfl (hb hby at_17) rfl rfl (l' := #[.val (.int p0), .val (.int p1), .val (.int p2), .val (.ref s_481), .val (.ref s_484), .unset]) rfl kQ) ?_
      show G (T484.setTop (mkF me_ 19 #[.val (.int p0), .val (.int p1), .val (.int p2), .val (.ref s_481), .val (.ref s_484), .unset] []))
      refine gv (fun tQ kQ => XS.aloadN X484.here hx rfl (hb hby at_19) rfl rfl kQ) ?_
      show G (T484.setTop (mkF me_ 20 #[.val (.int p0), .val (.int p1), .val (.int p2), .val (.ref s_481), .val (.ref s_484), .unset] [(.ref s_481)]))
      refine gv (fun tQ kQ => XS.aload X484.here hx rfl (hb hby at_20) rfl rfl kQ) ?_
      show G (T484.setTop (mkF me_ 22 #[.val (.int p0), .val (.int p1), .val (.int p2), .val (.ref s_481), .val (.ref s_484), .unset] [(.ref s_484), (.ref s_481)]))
      obtain ⟨_, _, ⟨T488, L488, k488, n488⟩, -, X488, ⟨Lc488, hQ488, l488, y488, z488⟩, st488⟩ := Jvm.LawKit.callS X484 hx (y := (⟨"com/example/slot1/slot1/balance/Options", "string", "(Ljava/lang/Object;Ljava/lang/String;)Ljava/lang/String;"⟩ : MethodName)) hown (mvT hZ (hw _ (List.mem_of_getElem? (i := 26) rfl))) (mvT hZ (hw _ (List.mem_of_getElem? (i := 27) rfl))) (mvT hZ (hw _ (List.mem_of_getElem? (i := 28) rfl))) (mvT hZ (hw _ (List.mem_of_getElem? (i := 29) rfl))) (by decide) (backOf (W := 0) (rm_str l Z a0 hw [] s_481 s_484 h484 n0 O487 f486) hZ (hw _ (List.mem_of_getElem? (i := 29) rfl)) (hw _ (List.mem_of_getElem? (i := 28) rfl)) (by decide) (by decide)) (g := (mkF me_ 22 #[.val (.int p0), .val (.int p1), .val (.int p2), .val (.ref s_481), .val (.ref s_484), .unset] [(.ref s_484), (.ref s_481)])) rfl (by rw [hml]; rfl) (argsL := [(.ref s_481), (.ref s_484)]) (rest := []) (lenOf pd_10 rfl) rfl (by show 2 * 0 + _ ≤ _; exact Nat.le_of_eq rfl) (hb hby at_22) (fun _ _ => ⟨rfl, e484, (by decide : 9 + 0 ≤ _), (by decide : 22 + 0 ≤ _)⟩)
      dsimp only [Pt.U, Pt.locs, Pt.cells, Pt.slots] at X488 l488 y488 z488 st488 hQ488
      subst l488 y488 z488
      obtain ⟨rfl, Nq488, eq488⟩ := hQ488
      have N489 := Fr.app N485 Nq488
      refine gv st488 ?_
      show G (T488.setTop (mkF me_ 25 #[.val (.int p0), .val (.int p1), .val (.int p2), .val (.ref s_481), .val (.ref s_484), .unset] [(.ref s_481)]))
      refine gv (fun tQ kQ => XS.astore X488.here hx rfl (hb hby at_25) rfl rfl (l' := #[.val (.int p0), .val (.int p1), .val (.int p2), .val (.ref s_481), .val (.ref s_484), .val (.ref s_481)]) rfl kQ) ?_
      show G (T488.setTop (mkF me_ 27 #[.val (.int p0), .val (.int p1), .val (.int p2), .val (.ref s_481), .val (.ref s_484), .val (.ref s_481)] []))
      refine gv (fun tQ kQ => XS.aload X488.here hx rfl (hb hby at_27) rfl rfl kQ) ?_
      show G (T488.setTop (mkF me_ 29 #[.val (.int p0), .val (.int p1), .val (.int p2), .val (.ref s_481), .val (.ref s_484), .val (.ref s_481)] [(.ref s_481)]))
      refine gv (fun tQ kQ => XS.aloadN X488.here hx rfl (hb hby at_29) rfl rfl kQ) ?_
      show G (T488.setTop (mkF me_ 30 #[.val (.int p0), .val (.int p1), .val (.int p2), .val (.ref s_481), .val (.ref s_484), .val (.ref s_481)] [(.ref s_481), (.ref s_481)]))
      refine gv (fun tQ kQ => Jvm.RoadKit.acmp (g := (mkF me_ 30 #[.val (.int p0), .val (.int p1), .val (.int p2), .val (.ref s_481), .val (.ref s_484), .val (.ref s_481)] [(.ref s_481), (.ref s_481)])) X488 hx rfl rfl rfl (pc0 := 30) (pc' := 33) (same := true) rfl (hb hby at_30) rfl (decide_eq_true rfl) (by decide) (by decide) kQ) ?_
      show G (T488.setTop (mkF me_ 33 #[.val (.int p0), .val (.int p1), .val (.int p2), .val (.ref s_481), .val (.ref s_484), .val (.ref s_481)] []))
      refine gv (fun tQ kQ => XS.iconst X488.here hx rfl (hb hby at_33) kQ) ?_
      show G (T488.setTop (mkF me_ 34 #[.val (.int p0), .val (.int p1), .val (.int p2), .val (.ref s_481), .val (.ref s_484), .val (.ref s_481)] [(.int (1 : Int32))]))
      refine gv (fun tQ kQ => XS.goto X488.here hx rfl (pc0 := 34) (pc' := 38) rfl (hb hby at_34) (by decide) (by decide) kQ) ?_
      show G (T488.setTop (mkF me_ 38 #[.val (.int p0), .val (.int p1), .val (.int p2), .val (.ref s_481), .val (.ref s_484), .val (.ref s_481)] [(.int (1 : Int32))]))
      refine gf _ (own_retW X488 Bd.notSynchronized hS (by rw [eq488]; exact hk) (v := some (.int (1 : Int32))) (fun h => by rw [Bd.returns] at h; cases h) ?_ (by decide) (by decide) (by rw [hh, eq488]; exact CR.trans (CHv.at X488 hZ hEL CR.1)) (fun fs hr => retN X488 hx (t := .boolean) Bd.returns (by simp) (hb hby at_38) hr))
      show Q0 Z p0 p1 p2 cs h0 n0 _ T488.heap _
      rw [eq488]
      exact ⟨rfl, N489⟩
    · rw [q]
      show G (T481.setTop (mkF me_ 13 #[.val (.int p0), .val (.int p1), .val (.int p2), .val (.ref s_481), .unset, .unset] [(.int (1 : Int32))]))
      refine gv (fun tQ kQ => XS.iloadN X481.here hx rfl (hb hby at_13) rfl kQ) ?_
      show G (T481.setTop (mkF me_ 14 #[.val (.int p0), .val (.int p1), .val (.int p2), .val (.ref s_481), .unset, .unset] [(.int p2), (.int (1 : Int32))]))
      obtain ⟨_, _, ⟨T490, L490, k490, n490⟩, -, X490, ⟨Lc490, hQ490, l490, y490, z490⟩, st490⟩ := Jvm.LawKit.callS X481 hx (y := (⟨"com/example/slot1/slot1/balance/OptionsStringPinLaw", "make", "(II)Ljava/lang/String;"⟩ : MethodName)) hown (mvT hZ (hw _ (List.mem_of_getElem? (i := 0) rfl))) (mvT hZ (hw _ (List.mem_of_getElem? (i := 1) rfl))) (mvT hZ (hw _ (List.mem_of_getElem? (i := 2) rfl))) (mvT hZ (hw _ (List.mem_of_getElem? (i := 3) rfl))) (by decide) (backOf (W := 0) (rm_mk1 l Z a0 hw [] p2 cs h481 n0 O483 u0 u1) hZ (hw _ (List.mem_of_getElem? (i := 3) rfl)) (hw _ (List.mem_of_getElem? (i := 2) rfl)) (by decide) (by decide)) (g := (mkF me_ 14 #[.val (.int p0), .val (.int p1), .val (.int p2), .val (.ref s_481), .unset, .unset] [(.int p2), (.int (1 : Int32))])) rfl (by rw [hml]; rfl) (argsL := [(.int (1 : Int32)), (.int p2)]) (rest := []) (lenOf pd_9 rfl) rfl (by show 2 * 0 + _ ≤ _; exact Nat.le_of_eq rfl) (hb hby at_14) (fun _ _ => ⟨rfl, e481, (by decide : 3 + 2 ≤ _), (by decide : 10 + 5 ≤ _)⟩)
      dsimp only [Pt.U, Pt.locs, Pt.cells, Pt.slots] at X490 l490 y490 z490 st490 hQ490
      subst l490 y490 z490
      obtain ⟨s_490, rfl, Nq490, Kq490, w490_0⟩ := hQ490
      have N491 := Fr.app N482 Nq490
      obtain ⟨h490, e490⟩ : ∃ z, T490.heap = z := ⟨_, rfl⟩
      rw [e490] at Kq490 w490_0
      have CR := CR.trans (CHr.keep Kq490 sf0 CR.1)
      have hk := Nat.le_trans hk Kq490.1
      have f492 : Exa Z h490 s_481 "java/lang/String" := w481_0.keep Kq490
      have O493 := O483.keep Kq490 all0
      refine gv st490 ?_
      show G (T490.setTop (mkF me_ 17 #[.val (.int p0), .val (.int p1), .val (.int p2), .val (.ref s_481), .unset, .unset] [(.ref s_490)]))
      refine gv (fun tQ kQ => XS.astore X490.here hx rfl (hb hby at_17) rfl rfl (l' := #[.val (.int p0), .val (.int p1), .val (.int p2), .val (.ref s_481), .val (.ref s_490), .unset]) rfl kQ) ?_
      show G (T490.setTop (mkF me_ 19 #[.val (.int p0), .val (.int p1), .val (.int p2), .val (.ref s_481), .val (.ref s_490), .unset] []))
      refine gv (fun tQ kQ => XS.aloadN X490.here hx rfl (hb hby at_19) rfl rfl kQ) ?_
      show G (T490.setTop (mkF me_ 20 #[.val (.int p0), .val (.int p1), .val (.int p2), .val (.ref s_481), .val (.ref s_490), .unset] [(.ref s_481)]))
      refine gv (fun tQ kQ => XS.aload X490.here hx rfl (hb hby at_20) rfl rfl kQ) ?_
      show G (T490.setTop (mkF me_ 22 #[.val (.int p0), .val (.int p1), .val (.int p2), .val (.ref s_481), .val (.ref s_490), .unset] [(.ref s_490), (.ref s_481)]))
      obtain ⟨_, _, ⟨T494, L494, k494, n494⟩, -, X494, ⟨Lc494, hQ494, l494, y494, z494⟩, st494⟩ := Jvm.LawKit.callS X490 hx (y := (⟨"com/example/slot1/slot1/balance/Options", "string", "(Ljava/lang/Object;Ljava/lang/String;)Ljava/lang/String;"⟩ : MethodName)) hown (mvT hZ (hw _ (List.mem_of_getElem? (i := 26) rfl))) (mvT hZ (hw _ (List.mem_of_getElem? (i := 27) rfl))) (mvT hZ (hw _ (List.mem_of_getElem? (i := 28) rfl))) (mvT hZ (hw _ (List.mem_of_getElem? (i := 29) rfl))) (by decide) (backOf (W := 0) (rm_str l Z a0 hw [] s_481 s_490 h490 n0 O493 f492) hZ (hw _ (List.mem_of_getElem? (i := 29) rfl)) (hw _ (List.mem_of_getElem? (i := 28) rfl)) (by decide) (by decide)) (g := (mkF me_ 22 #[.val (.int p0), .val (.int p1), .val (.int p2), .val (.ref s_481), .val (.ref s_490), .unset] [(.ref s_490), (.ref s_481)])) rfl (by rw [hml]; rfl) (argsL := [(.ref s_481), (.ref s_490)]) (rest := []) (lenOf pd_10 rfl) rfl (by show 2 * 0 + _ ≤ _; exact Nat.le_of_eq rfl) (hb hby at_22) (fun _ _ => ⟨rfl, e490, (by decide : 5 + 0 ≤ _), (by decide : 15 + 0 ≤ _)⟩)
      dsimp only [Pt.U, Pt.locs, Pt.cells, Pt.slots] at X494 l494 y494 z494 st494 hQ494
      subst l494 y494 z494
      obtain ⟨rfl, Nq494, eq494⟩ := hQ494
      have N495 := Fr.app N491 Nq494
      refine gv st494 ?_
      show G (T494.setTop (mkF me_ 25 #[.val (.int p0), .val (.int p1), .val (.int p2), .val (.ref s_481), .val (.ref s_490), .unset] [(.ref s_481)]))
      refine gv (fun tQ kQ => XS.astore X494.here hx rfl (hb hby at_25) rfl rfl (l' := #[.val (.int p0), .val (.int p1), .val (.int p2), .val (.ref s_481), .val (.ref s_490), .val (.ref s_481)]) rfl kQ) ?_
      show G (T494.setTop (mkF me_ 27 #[.val (.int p0), .val (.int p1), .val (.int p2), .val (.ref s_481), .val (.ref s_490), .val (.ref s_481)] []))
      refine gv (fun tQ kQ => XS.aload X494.here hx rfl (hb hby at_27) rfl rfl kQ) ?_
      show G (T494.setTop (mkF me_ 29 #[.val (.int p0), .val (.int p1), .val (.int p2), .val (.ref s_481), .val (.ref s_490), .val (.ref s_481)] [(.ref s_481)]))
      refine gv (fun tQ kQ => XS.aloadN X494.here hx rfl (hb hby at_29) rfl rfl kQ) ?_
      show G (T494.setTop (mkF me_ 30 #[.val (.int p0), .val (.int p1), .val (.int p2), .val (.ref s_481), .val (.ref s_490), .val (.ref s_481)] [(.ref s_481), (.ref s_481)]))
      refine gv (fun tQ kQ => Jvm.RoadKit.acmp (g := (mkF me_ 30 #[.val (.int p0), .val (.int p1), .val (.int p2), .val (.ref s_481), .val (.ref s_490), .val (.ref s_481)] [(.ref s_481), (.ref s_481)])) X494 hx rfl rfl rfl (pc0 := 30) (pc' := 33) (same := true) rfl (hb hby at_30) rfl (decide_eq_true rfl) (by decide) (by decide) kQ) ?_
      show G (T494.setTop (mkF me_ 33 #[.val (.int p0), .val (.int p1), .val (.int p2), .val (.ref s_481), .val (.ref s_490), .val (.ref s_481)] []))
      refine gv (fun tQ kQ => XS.iconst X494.here hx rfl (hb hby at_33) kQ) ?_
      show G (T494.setTop (mkF me_ 34 #[.val (.int p0), .val (.int p1), .val (.int p2), .val (.ref s_481), .val (.ref s_490), .val (.ref s_481)] [(.int (1 : Int32))]))
      refine gv (fun tQ kQ => XS.goto X494.here hx rfl (pc0 := 34) (pc' := 38) rfl (hb hby at_34) (by decide) (by decide) kQ) ?_
      show G (T494.setTop (mkF me_ 38 #[.val (.int p0), .val (.int p1), .val (.int p2), .val (.ref s_481), .val (.ref s_490), .val (.ref s_481)] [(.int (1 : Int32))]))
      refine gf _ (own_retW X494 Bd.notSynchronized hS (by rw [eq494]; exact hk) (v := some (.int (1 : Int32))) (fun h => by rw [Bd.returns] at h; cases h) ?_ (by decide) (by decide) (by rw [hh, eq494]; exact CR.trans (CHv.at X494 hZ hEL CR.1)) (fun fs hr => retN X494 hx (t := .boolean) Bd.returns (by simp) (hb hby at_38) hr))
      show Q0 Z p0 p1 p2 cs h0 n0 _ T494.heap _
      rw [eq494]
      exact ⟨rfl, N495⟩
    · rw [q]
      show G (T481.setTop (mkF me_ 13 #[.val (.int p0), .val (.int p1), .val (.int p2), .val (.ref s_481), .unset, .unset] [(.int (2 : Int32))]))
      refine gv (fun tQ kQ => XS.iloadN X481.here hx rfl (hb hby at_13) rfl kQ) ?_
      show G (T481.setTop (mkF me_ 14 #[.val (.int p0), .val (.int p1), .val (.int p2), .val (.ref s_481), .unset, .unset] [(.int p2), (.int (2 : Int32))]))
      obtain ⟨_, _, ⟨T496, L496, k496, n496⟩, -, X496, ⟨Lc496, hQ496, l496, y496, z496⟩, st496⟩ := Jvm.LawKit.callS X481 hx (y := (⟨"com/example/slot1/slot1/balance/OptionsStringPinLaw", "make", "(II)Ljava/lang/String;"⟩ : MethodName)) hown (mvT hZ (hw _ (List.mem_of_getElem? (i := 0) rfl))) (mvT hZ (hw _ (List.mem_of_getElem? (i := 1) rfl))) (mvT hZ (hw _ (List.mem_of_getElem? (i := 2) rfl))) (mvT hZ (hw _ (List.mem_of_getElem? (i := 3) rfl))) (by decide) (backOf (W := 0) (rm_mk2 l Z a0 hw [] p2 cs h481 n0 O483 u0 u1) hZ (hw _ (List.mem_of_getElem? (i := 3) rfl)) (hw _ (List.mem_of_getElem? (i := 2) rfl)) (by decide) (by decide)) (g := (mkF me_ 14 #[.val (.int p0), .val (.int p1), .val (.int p2), .val (.ref s_481), .unset, .unset] [(.int p2), (.int (2 : Int32))])) rfl (by rw [hml]; rfl) (argsL := [(.int (2 : Int32)), (.int p2)]) (rest := []) (lenOf pd_9 rfl) rfl (by show 2 * 0 + _ ≤ _; exact Nat.le_of_eq rfl) (hb hby at_14) (fun _ _ => ⟨rfl, e481, (by decide : 3 + 3 ≤ _), (by decide : 10 + 8 ≤ _)⟩)
      dsimp only [Pt.U, Pt.locs, Pt.cells, Pt.slots] at X496 l496 y496 z496 st496 hQ496
      subst l496 y496 z496
      obtain ⟨s_496, rfl, Nq496, Kq496, w496_0⟩ := hQ496
      have N497 := Fr.app N482 Nq496
      obtain ⟨h496, e496⟩ : ∃ z, T496.heap = z := ⟨_, rfl⟩
      rw [e496] at Kq496 w496_0
      have CR := CR.trans (CHr.keep Kq496 sf0 CR.1)
      have hk := Nat.le_trans hk Kq496.1
      have f498 : Exa Z h496 s_481 "java/lang/String" := w481_0.keep Kq496
      have O499 := O483.keep Kq496 all0
      refine gv st496 ?_
      show G (T496.setTop (mkF me_ 17 #[.val (.int p0), .val (.int p1), .val (.int p2), .val (.ref s_481), .unset, .unset] [(.ref s_496)]))
      refine gv (fun tQ kQ => XS.astore X496.here hx rfl (hb hby at_17) rfl rfl (l' := #[.val (.int p0), .val (.int p1), .val (.int p2), .val (.ref s_481), .val (.ref s_496), .unset]) rfl kQ) ?_
      show G (T496.setTop (mkF me_ 19 #[.val (.int p0), .val (.int p1), .val (.int p2), .val (.ref s_481), .val (.ref s_496), .unset] []))
      refine gv (fun tQ kQ => XS.aloadN X496.here hx rfl (hb hby at_19) rfl rfl kQ) ?_
      show G (T496.setTop (mkF me_ 20 #[.val (.int p0), .val (.int p1), .val (.int p2), .val (.ref s_481), .val (.ref s_496), .unset] [(.ref s_481)]))
      refine gv (fun tQ kQ => XS.aload X496.here hx rfl (hb hby at_20) rfl rfl kQ) ?_
      show G (T496.setTop (mkF me_ 22 #[.val (.int p0), .val (.int p1), .val (.int p2), .val (.ref s_481), .val (.ref s_496), .unset] [(.ref s_496), (.ref s_481)]))
      obtain ⟨_, _, ⟨T500, L500, k500, n500⟩, -, X500, ⟨Lc500, hQ500, l500, y500, z500⟩, st500⟩ := Jvm.LawKit.callS X496 hx (y := (⟨"com/example/slot1/slot1/balance/Options", "string", "(Ljava/lang/Object;Ljava/lang/String;)Ljava/lang/String;"⟩ : MethodName)) hown (mvT hZ (hw _ (List.mem_of_getElem? (i := 26) rfl))) (mvT hZ (hw _ (List.mem_of_getElem? (i := 27) rfl))) (mvT hZ (hw _ (List.mem_of_getElem? (i := 28) rfl))) (mvT hZ (hw _ (List.mem_of_getElem? (i := 29) rfl))) (by decide) (backOf (W := 0) (rm_str l Z a0 hw [] s_481 s_496 h496 n0 O499 f498) hZ (hw _ (List.mem_of_getElem? (i := 29) rfl)) (hw _ (List.mem_of_getElem? (i := 28) rfl)) (by decide) (by decide)) (g := (mkF me_ 22 #[.val (.int p0), .val (.int p1), .val (.int p2), .val (.ref s_481), .val (.ref s_496), .unset] [(.ref s_496), (.ref s_481)])) rfl (by rw [hml]; rfl) (argsL := [(.ref s_481), (.ref s_496)]) (rest := []) (lenOf pd_10 rfl) rfl (by show 2 * 0 + _ ≤ _; exact Nat.le_of_eq rfl) (hb hby at_22) (fun _ _ => ⟨rfl, e496, (by decide : 6 + 0 ≤ _), (by decide : 18 + 0 ≤ _)⟩)
      dsimp only [Pt.U, Pt.locs, Pt.cells, Pt.slots] at X500 l500 y500 z500 st500 hQ500
      subst l500 y500 z500
      obtain ⟨rfl, Nq500, eq500⟩ := hQ500
      have N501 := Fr.app N497 Nq500
      refine gv st500 ?_
      show G (T500.setTop (mkF me_ 25 #[.val (.int p0), .val (.int p1), .val (.int p2), .val (.ref s_481), .val (.ref s_496), .unset] [(.ref s_481)]))
      refine gv (fun tQ kQ => XS.astore X500.here hx rfl (hb hby at_25) rfl rfl (l' := #[.val (.int p0), .val (.int p1), .val (.int p2), .val (.ref s_481), .val (.ref s_496), .val (.ref s_481)]) rfl kQ) ?_
      show G (T500.setTop (mkF me_ 27 #[.val (.int p0), .val (.int p1), .val (.int p2), .val (.ref s_481), .val (.ref s_496), .val (.ref s_481)] []))
      refine gv (fun tQ kQ => XS.aload X500.here hx rfl (hb hby at_27) rfl rfl kQ) ?_
      show G (T500.setTop (mkF me_ 29 #[.val (.int p0), .val (.int p1), .val (.int p2), .val (.ref s_481), .val (.ref s_496), .val (.ref s_481)] [(.ref s_481)]))
      refine gv (fun tQ kQ => XS.aloadN X500.here hx rfl (hb hby at_29) rfl rfl kQ) ?_
      show G (T500.setTop (mkF me_ 30 #[.val (.int p0), .val (.int p1), .val (.int p2), .val (.ref s_481), .val (.ref s_496), .val (.ref s_481)] [(.ref s_481), (.ref s_481)]))
      refine gv (fun tQ kQ => Jvm.RoadKit.acmp (g := (mkF me_ 30 #[.val (.int p0), .val (.int p1), .val (.int p2), .val (.ref s_481), .val (.ref s_496), .val (.ref s_481)] [(.ref s_481), (.ref s_481)])) X500 hx rfl rfl rfl (pc0 := 30) (pc' := 33) (same := true) rfl (hb hby at_30) rfl (decide_eq_true rfl) (by decide) (by decide) kQ) ?_
      show G (T500.setTop (mkF me_ 33 #[.val (.int p0), .val (.int p1), .val (.int p2), .val (.ref s_481), .val (.ref s_496), .val (.ref s_481)] []))
      refine gv (fun tQ kQ => XS.iconst X500.here hx rfl (hb hby at_33) kQ) ?_
      show G (T500.setTop (mkF me_ 34 #[.val (.int p0), .val (.int p1), .val (.int p2), .val (.ref s_481), .val (.ref s_496), .val (.ref s_481)] [(.int (1 : Int32))]))
      refine gv (fun tQ kQ => XS.goto X500.here hx rfl (pc0 := 34) (pc' := 38) rfl (hb hby at_34) (by decide) (by decide) kQ) ?_
      show G (T500.setTop (mkF me_ 38 #[.val (.int p0), .val (.int p1), .val (.int p2), .val (.ref s_481), .val (.ref s_496), .val (.ref s_481)] [(.int (1 : Int32))]))
      refine gf _ (own_retW X500 Bd.notSynchronized hS (by rw [eq500]; exact hk) (v := some (.int (1 : Int32))) (fun h => by rw [Bd.returns] at h; cases h) ?_ (by decide) (by decide) (by rw [hh, eq500]; exact CR.trans (CHv.at X500 hZ hEL CR.1)) (fun fs hr => retN X500 hx (t := .boolean) Bd.returns (by simp) (hb hby at_38) hr))
      show Q0 Z p0 p1 p2 cs h0 n0 _ T500.heap _
      rw [eq500]
      exact ⟨rfl, N501⟩
    · rw [q]
      show G (T481.setTop (mkF me_ 13 #[.val (.int p0), .val (.int p1), .val (.int p2), .val (.ref s_481), .unset, .unset] [(.int (3 : Int32))]))
      refine gv (fun tQ kQ => XS.iloadN X481.here hx rfl (hb hby at_13) rfl kQ) ?_
      show G (T481.setTop (mkF me_ 14 #[.val (.int p0), .val (.int p1), .val (.int p2), .val (.ref s_481), .unset, .unset] [(.int p2), (.int (3 : Int32))]))
      obtain ⟨_, _, ⟨T502, L502, k502, n502⟩, -, X502, ⟨Lc502, hQ502, l502, y502, z502⟩, st502⟩ := Jvm.LawKit.callS X481 hx (y := (⟨"com/example/slot1/slot1/balance/OptionsStringPinLaw", "make", "(II)Ljava/lang/String;"⟩ : MethodName)) hown (mvT hZ (hw _ (List.mem_of_getElem? (i := 0) rfl))) (mvT hZ (hw _ (List.mem_of_getElem? (i := 1) rfl))) (mvT hZ (hw _ (List.mem_of_getElem? (i := 2) rfl))) (mvT hZ (hw _ (List.mem_of_getElem? (i := 3) rfl))) (by decide) (backOf (W := 0) (rm_mk3 l Z a0 hw [] p2 cs h481 n0 O483 u0 u1) hZ (hw _ (List.mem_of_getElem? (i := 3) rfl)) (hw _ (List.mem_of_getElem? (i := 2) rfl)) (by decide) (by decide)) (g := (mkF me_ 14 #[.val (.int p0), .val (.int p1), .val (.int p2), .val (.ref s_481), .unset, .unset] [(.int p2), (.int (3 : Int32))])) rfl (by rw [hml]; rfl) (argsL := [(.int (3 : Int32)), (.int p2)]) (rest := []) (lenOf pd_9 rfl) rfl (by show 2 * 0 + _ ≤ _; exact Nat.le_of_eq rfl) (hb hby at_14) (fun _ _ => ⟨rfl, e481, (by decide : 3 + 3 ≤ _), (by decide : 10 + 10 ≤ _)⟩)
      dsimp only [Pt.U, Pt.locs, Pt.cells, Pt.slots] at X502 l502 y502 z502 st502 hQ502
      subst l502 y502 z502
      obtain ⟨s_502, rfl, Nq502, Kq502, w502_0⟩ := hQ502
      have N503 := Fr.app N482 Nq502
      obtain ⟨h502, e502⟩ : ∃ z, T502.heap = z := ⟨_, rfl⟩
      rw [e502] at Kq502 w502_0
      have CR := CR.trans (CHr.keep Kq502 sf0 CR.1)
      have hk := Nat.le_trans hk Kq502.1
      have f504 : Exa Z h502 s_481 "java/lang/String" := w481_0.keep Kq502
      have O505 := O483.keep Kq502 all0
      refine gv st502 ?_
      show G (T502.setTop (mkF me_ 17 #[.val (.int p0), .val (.int p1), .val (.int p2), .val (.ref s_481), .unset, .unset] [(.ref s_502)]))
      refine gv (fun tQ kQ => XS.astore X502.here hx rfl (hb hby at_17) rfl rfl (l' := #[.val (.int p0), .val (.int p1), .val (.int p2), .val (.ref s_481), .val (.ref s_502), .unset]) rfl kQ) ?_
      show G (T502.setTop (mkF me_ 19 #[.val (.int p0), .val (.int p1), .val (.int p2), .val (.ref s_481), .val (.ref s_502), .unset] []))
      refine gv (fun tQ kQ => XS.aloadN X502.here hx rfl (hb hby at_19) rfl rfl kQ) ?_
      show G (T502.setTop (mkF me_ 20 #[.val (.int p0), .val (.int p1), .val (.int p2), .val (.ref s_481), .val (.ref s_502), .unset] [(.ref s_481)]))
      refine gv (fun tQ kQ => XS.aload X502.here hx rfl (hb hby at_20) rfl rfl kQ) ?_
      show G (T502.setTop (mkF me_ 22 #[.val (.int p0), .val (.int p1), .val (.int p2), .val (.ref s_481), .val (.ref s_502), .unset] [(.ref s_502), (.ref s_481)]))
      obtain ⟨_, _, ⟨T506, L506, k506, n506⟩, -, X506, ⟨Lc506, hQ506, l506, y506, z506⟩, st506⟩ := Jvm.LawKit.callS X502 hx (y := (⟨"com/example/slot1/slot1/balance/Options", "string", "(Ljava/lang/Object;Ljava/lang/String;)Ljava/lang/String;"⟩ : MethodName)) hown (mvT hZ (hw _ (List.mem_of_getElem? (i := 26) rfl))) (mvT hZ (hw _ (List.mem_of_getElem? (i := 27) rfl))) (mvT hZ (hw _ (List.mem_of_getElem? (i := 28) rfl))) (mvT hZ (hw _ (List.mem_of_getElem? (i := 29) rfl))) (by decide) (backOf (W := 0) (rm_str l Z a0 hw [] s_481 s_502 h502 n0 O505 f504) hZ (hw _ (List.mem_of_getElem? (i := 29) rfl)) (hw _ (List.mem_of_getElem? (i := 28) rfl)) (by decide) (by decide)) (g := (mkF me_ 22 #[.val (.int p0), .val (.int p1), .val (.int p2), .val (.ref s_481), .val (.ref s_502), .unset] [(.ref s_502), (.ref s_481)])) rfl (by rw [hml]; rfl) (argsL := [(.ref s_481), (.ref s_502)]) (rest := []) (lenOf pd_10 rfl) rfl (by show 2 * 0 + _ ≤ _; exact Nat.le_of_eq rfl) (hb hby at_22) (fun _ _ => ⟨rfl, e502, (by decide : 6 + 0 ≤ _), (by decide : 20 + 0 ≤ _)⟩)
      dsimp only [Pt.U, Pt.locs, Pt.cells, Pt.slots] at X506 l506 y506 z506 st506 hQ506
      subst l506 y506 z506
      obtain ⟨rfl, Nq506, eq506⟩ := hQ506
      have N507 := Fr.app N503 Nq506
      refine gv st506 ?_
      show G (T506.setTop (mkF me_ 25 #[.val (.int p0), .val (.int p1), .val (.int p2), .val (.ref s_481), .val (.ref s_502), .unset] [(.ref s_481)]))
      refine gv (fun tQ kQ => XS.astore X506.here hx rfl (hb hby at_25) rfl rfl (l' := #[.val (.int p0), .val (.int p1), .val (.int p2), .val (.ref s_481), .val (.ref s_502), .val (.ref s_481)]) rfl kQ) ?_
      show G (T506.setTop (mkF me_ 27 #[.val (.int p0), .val (.int p1), .val (.int p2), .val (.ref s_481), .val (.ref s_502), .val (.ref s_481)] []))
      refine gv (fun tQ kQ => XS.aload X506.here hx rfl (hb hby at_27) rfl rfl kQ) ?_
      show G (T506.setTop (mkF me_ 29 #[.val (.int p0), .val (.int p1), .val (.int p2), .val (.ref s_481), .val (.ref s_502), .val (.ref s_481)] [(.ref s_481)]))
      refine gv (fun tQ kQ => XS.aloadN X506.here hx rfl (hb hby at_29) rfl rfl kQ) ?_
      show G (T506.setTop (mkF me_ 30 #[.val (.int p0), .val (.int p1), .val (.int p2), .val (.ref s_481), .val (.ref s_502), .val (.ref s_481)] [(.ref s_481), (.ref s_481)]))
      refine gv (fun tQ kQ => Jvm.RoadKit.acmp (g := (mkF me_ 30 #[.val (.int p0), .val (.int p1), .val (.int p2), .val (.ref s_481), .val (.ref s_502), .val (.ref s_481)] [(.ref s_481), (.ref s_481)])) X506 hx rfl rfl rfl (pc0 := 30) (pc' := 33) (same := true) rfl (hb hby at_30) rfl (decide_eq_true rfl) (by decide) (by decide) kQ) ?_
      show G (T506.setTop (mkF me_ 33 #[.val (.int p0), .val (.int p1), .val (.int p2), .val (.ref s_481), .val (.ref s_502), .val (.ref s_481)] []))
      refine gv (fun tQ kQ => XS.iconst X506.here hx rfl (hb hby at_33) kQ) ?_
      show G (T506.setTop (mkF me_ 34 #[.val (.int p0), .val (.int p1), .val (.int p2), .val (.ref s_481), .val (.ref s_502), .val (.ref s_481)] [(.int (1 : Int32))]))
      refine gv (fun tQ kQ => XS.goto X506.here hx rfl (pc0 := 34) (pc' := 38) rfl (hb hby at_34) (by decide) (by decide) kQ) ?_
      show G (T506.setTop (mkF me_ 38 #[.val (.int p0), .val (.int p1), .val (.int p2), .val (.ref s_481), .val (.ref s_502), .val (.ref s_481)] [(.int (1 : Int32))]))
      refine gf _ (own_retW X506 Bd.notSynchronized hS (by rw [eq506]; exact hk) (v := some (.int (1 : Int32))) (fun h => by rw [Bd.returns] at h; cases h) ?_ (by decide) (by decide) (by rw [hh, eq506]; exact CR.trans (CHv.at X506 hZ hEL CR.1)) (fun fs hr => retN X506 hx (t := .boolean) Bd.returns (by simp) (hb hby at_38) hr))
      show Q0 Z p0 p1 p2 cs h0 n0 _ T506.heap _
      rw [eq506]
      exact ⟨rfl, N507⟩
set_option maxRecDepth 65536 in
set_option maxHeartbeats 40000000 in
theorem comes_1 {Post : Tables → Env → Array Value → State → Outcome → State → Prop} (hpost : ∀ tb e args s v u, (limb_1_1.after args s (.returned v) u = true ∧ limb_1_2.after args s (.returned v) u = true ∧ True) → ReturnedEndW s (.returned v) u (Jvm.fieldLocs frame_1_writes args s ++ Jvm.arrayLocs frame_1_arrays args s ++ Jvm.staticLocs frame_1_statics s) 24 1152 → Post tb e args s (.returned v) u) :
    ArmFor flags0 classFile x code maxLocals ret World_1 tables_1 room_1 Calls_1 rest_1 Pre_1 Post := by
  intro l hfl _ _ p e ha hc hk s m args below hf hA hF happ hP
  obtain ⟨hcalls, hrest, hpre⟩ := hP
  obtain ⟨-, -, -, hnamed, -, -, -, hat⟩ := (Spec.applies_iff hf).mp happ
  obtain ⟨hg, hn⟩ := and_e (Cond.before_iff.mp (show (Jvm.Cond.and given_1 narrow_1).before args s = true from hpre))
  obtain ⟨g1, g2⟩ := and_e hg
  obtain ⟨g3, g4⟩ := and_e g2
  obtain ⟨g5, g6⟩ := and_e g4
  obtain ⟨w0, w1, w2, rfl⟩ : ∃ w0 w1 w2 : Value, args = #[w0, w1, w2] := by
    have hs : args.size = 3 := by simpa [Cond.value, given_1] using g1
    obtain ⟨L⟩ := args
    match L, hs with
    | [w0, w1, w2], _ => exact ⟨w0, w1, w2, rfl⟩
  have hw := fun d (hd : d ∈ tables_1) => atoms_spec (ws := Jvm.Cond.code x code maxLocals ret :: tables_1) hat d (List.mem_cons_of_mem _ hd)
  have hfit : Fit s := fun {y c} hc i hi => by
    obtain ⟨ha, rfl⟩ := Array.getElem?_eq_some_iff.mp hc
    have q := List.all_eq_true.mp ((Array.all_eq_true_iff_forall_mem.mp hF) _ (Array.getElem_mem ha)) i (List.mem_range.mpr hi)
    simpa [Array.getElem?_eq_getElem hi] using q
  obtain ⟨hsets, hown0⟩ := atoms_of _ (rest_1_c_eq ▸ (show rest_1_c.before _ s = true from hrest))
  obtain ⟨i0, ei0⟩ := is_v g3
  obtain rfl : w0 = (.int i0) := Option.some.inj ei0
  obtain ⟨i1, ei1⟩ := is_v g5
  obtain rfl : w1 = (.int i1) := Option.some.inj ei1
  obtain ⟨i2, ei2⟩ := is_v g6
  obtain rfl : w2 = (.int i2) := Option.some.inj ei2
  obtain ⟨cs, ev_cs⟩ := is_v (Cond.before_iff.mp (hsets _ (List.mem_of_getElem? (i := 1) rfl)))
  have S_cs : Sta s s.heap "java/lang/String" "COMPACT_STRINGS" "Z" (.int cs) := Sta.start ev_cs (Or.inl (hsets _ (List.mem_of_getElem? (i := 0) rfl)))
  have n_cs : ¬ (cs = (0 : Int32)) := own_not0 ev_cs (Cond.before_iff.mp (hsets _ (List.mem_of_getElem? (i := 2) rfl)))
  obtain ⟨n, o, h1, h2, h3, _, L, rfl, ⟨rfl, N⟩, -, hq⟩ := rm0 l s _ hw tables_1 i0 i1 i2 cs s.heap s.heap.size (Old.start s) S_cs n_cs p e ha hc hk s m _ below hf ((Spec.applies_iff_loose hf).mp happ).1 ⟨rfl, State.Warmed39.refl s, rfl, CHv.start (own_hEL hw) (fun q hq => hcalls.1 q hq) (hsets _ (List.mem_of_getElem? (i := 2) rfl)) (hw _ (List.mem_of_getElem? (i := 19) rfl)) (hw _ (List.mem_of_getElem? (i := 5) rfl)), fun _ q => nomatch q⟩ trivial
  refine ⟨n, _, h1, h2, h3, hpost _ _ _ _ _ _ ⟨Cond.after_iff.mpr rfl, Cond.after_iff.mpr (eq_i res_at (Term.int_eval (1)) rfl), trivial⟩ ⟨hq.1, hq.2.1, hq.2.2.1, (hq.2.2.2.sift fun y hy => Or.inr (N y hy)).mono (by decide) (by decide)⟩⟩
theorem main_1_1 : Claimed_1_1 := comes_1 fun _ _ _ _ _ _ h hF => ⟨h.1, hF⟩
theorem main_1_2 : Claimed_1_2 := comes_1 fun _ _ _ _ _ _ h hF => ⟨h.2.1, hF⟩
end Jvm.Pilot.@@N@@
namespace Jvm.Pilot.@@N@@
open Jvm Jvm.ClassFile Sem Op Lib Jvm.Free Jvm.Stand Jvm.Pilot.@@N@@.Jvm.D
/-! MADE BY PROGRAM (witnessworld.py) out of the Statement's table words and the real class files: 20 classes; the members and pool entries that the words name. The judged class is class 1, her method 2. -/
namespace start1
open Jvm.ClassFile
def u (s : String) : CpInfo := .utf8 (stringToUtf16 s)
/-- a pool by its gaps: so many unusable entries, then the entry; so many at the end -/
def gap : Nat → List CpInfo → List CpInfo
  | 0, r => r
  | n + 1, r => .unusable :: gap n r
def poolList (es : List (Nat × CpInfo)) (last : Nat) : List CpInfo := es.foldr (fun e r => gap e.1 (e.2 :: r)) (gap last [])
def pool (es : List (Nat × CpInfo)) (last : Nat) : Array CpInfo := ⟨poolList es last⟩
def fileOf (pool : Array CpInfo) (this : Nat) (attrs : Array Attribute := #[]) (ms : Array MethodInfo := #[]) (fl : Nat := 33) (sup : Nat := 0) (ifs : Array Nat := #[]) (fds : Array FieldInfo := #[]) : ClassFile where
  minorVersion := 0
  majorVersion := 65
  constantPool := pool
  accessFlags := fl
  thisClass := this
  superClass := sup
  interfaces := ifs
  fields := fds
  methods := ms
  attributes := attrs
def plain (name : String) (sup : Option ClassId) : Class where
  name := name
  kind := .ordinary
  loader := none
  accessFlags := 33
  super := sup
  interfaces := #[]
  cf := none
  fields := #[]
  methods := #[]
  instanceTypes := #[]
  staticTypes := #[]
  resolved := #[]
  callSites := []
  init := .initialized
  statics := none
  mirror := none

def pool0 : Array CpInfo := pool [(5, u "<init>"), (0, u "()V"), (1, .class_ 10), (1, u "java/lang/Object")] 113

def k0c0 : Code := { maxStack := 0, maxLocals := 1, code := object_method_1_code, exceptionTable := #[], attributes := #[] }
def k0m0 : Method := { name := "<init>", desc := "()V", sig := { parameters := [], returnType := none }, accessFlags := 1, code := some k0c0 }
/-- java/lang/Object -/
def k0 : Class := { plain "java/lang/Object" none with
  accessFlags := 33
  interfaces := #[]
  cf := some (fileOf pool0 8 #[] #[{ accessFlags := 1, nameIndex := 5, descriptorIndex := 6, attributes := #[] }] 33 0 #[] #[])
  fields := #[]
  methods := #[k0m0]
  instanceTypes := #[]
  staticTypes := #[]
  resolved := Array.replicate 124 none
  statics := none }

def pool1 : Array CpInfo := pool [(2, .class_ 4), (1, u "java/lang/Object"), (0, u "<init>"), (0, u "()V"), (0, .class_ 8), (0, u "java/lang/String"), (0, .methodref 7 10), (0, .nameAndType 5 11), (0, u "([C)V"), (0, .methodref 7 13), (0, .nameAndType 14 15), (0, u "valueOf"), (0, u "(C)Ljava/lang/String;"), (0, .methodref 17 18), (0, .class_ 19), (0, .nameAndType 20 21), (0, u "com/example/slot1/slot1/balance/OptionsStringPinLaw"), (0, u "make"), (0, u "(II)Ljava/lang/String;"), (0, .methodref 23 24), (0, .class_ 25), (0, .nameAndType 26 27), (0, u "com/example/slot1/slot1/balance/Options"), (0, u "string"), (0, u "(Ljava/lang/Object;Ljava/lang/String;)Ljava/lang/String;"), (3, u "law"), (0, u "(III)Z")] 2

def k1m0 : Method := { name := "<init>", desc := "()V", sig := { parameters := [], returnType := none }, accessFlags := 1, code := none }
def k1c1 : Code := { maxStack := 6, maxLocals := 5, code := method_2_code, exceptionTable := #[], attributes := #[] }
def k1m1 : Method := { name := "make", desc := "(II)Ljava/lang/String;", sig := { parameters := [.int, .int], returnType := some (.object "java/lang/String") }, accessFlags := 10, code := some k1c1 }
def k1c2 : Code := { maxStack := 2, maxLocals := 6, code := code, exceptionTable := #[], attributes := #[] }
def k1m2 : Method := { name := "law", desc := "(III)Z", sig := { parameters := [.int, .int, .int], returnType := some .boolean }, accessFlags := 9, code := some k1c2 }
/-- com/example/slot1/slot1/balance/OptionsStringPinLaw -/
def k1 : Class := { plain "com/example/slot1/slot1/balance/OptionsStringPinLaw" (some 0) with
  accessFlags := 49
  interfaces := #[]
  cf := some (fileOf pool1 17 #[] #[{ accessFlags := 1, nameIndex := 5, descriptorIndex := 6, attributes := #[] }, { accessFlags := 10, nameIndex := 20, descriptorIndex := 21, attributes := #[] }, { accessFlags := 9, nameIndex := 31, descriptorIndex := 32, attributes := #[] }] 49 2 #[] #[])
  fields := #[]
  methods := #[k1m0, k1m1, k1m2]
  instanceTypes := #[]
  staticTypes := #[]
  resolved := Array.replicate 35 none
  statics := none }

def pool2 : Array CpInfo := pool [(1, .class_ 2), (0, u "java/io/Serializable"), (0, .class_ 4), (0, u "java/lang/Object")] 2

/-- java/io/Serializable -/
def k2 : Class := { plain "java/io/Serializable" (some 0) with
  accessFlags := 1537
  interfaces := #[]
  cf := some (fileOf pool2 1 #[] #[] 1537 3 #[] #[])
  fields := #[]
  methods := #[]
  instanceTypes := #[]
  staticTypes := #[]
  resolved := Array.replicate 7 none
  statics := none }

def pool3 : Array CpInfo := pool [(1, .class_ 2), (0, u "java/lang/Comparable"), (0, .class_ 4), (0, u "java/lang/Object")] 7

/-- java/lang/Comparable -/
def k3 : Class := { plain "java/lang/Comparable" (some 0) with
  accessFlags := 1537
  interfaces := #[]
  cf := some (fileOf pool3 1 #[] #[] 1537 3 #[] #[])
  fields := #[]
  methods := #[]
  instanceTypes := #[]
  staticTypes := #[]
  resolved := Array.replicate 12 none
  statics := none }

def pool4 : Array CpInfo := pool [(2, .class_ 4), (1, u "java/lang/CharSequence"), (42, .class_ 48), (0, u "java/lang/CharSequence$1CodePointIterator"), (10, .class_ 60), (0, u "java/lang/CharSequence$1CharIterator"), (5, .class_ 67), (0, u "java/lang/Object")] 63

/-- java/lang/CharSequence -/
def k4 : Class := { plain "java/lang/CharSequence" (some 0) with
  accessFlags := 1537
  interfaces := #[]
  cf := some (fileOf pool4 2 #[.nestMembers #[47, 59]] #[] 1537 66 #[] #[])
  fields := #[]
  methods := #[]
  instanceTypes := #[]
  staticTypes := #[]
  resolved := Array.replicate 131 none
  statics := none }

def pool5 : Array CpInfo := pool [(1, .class_ 2), (0, u "java/lang/constant/Constable"), (0, .class_ 4), (0, u "java/lang/Object")] 6

/-- java/lang/constant/Constable -/
def k5 : Class := { plain "java/lang/constant/Constable" (some 0) with
  accessFlags := 1537
  interfaces := #[]
  cf := some (fileOf pool5 1 #[] #[] 1537 3 #[] #[])
  fields := #[]
  methods := #[]
  instanceTypes := #[]
  staticTypes := #[]
  resolved := Array.replicate 11 none
  statics := none }

def pool6 : Array CpInfo := pool [(1, .class_ 2), (0, u "java/lang/constant/ConstantDesc"), (0, .class_ 4), (0, u "java/lang/Object")] 32

/-- java/lang/constant/ConstantDesc -/
def k6 : Class := { plain "java/lang/constant/ConstantDesc" (some 0) with
  accessFlags := 1537
  interfaces := #[]
  cf := some (fileOf pool6 1 #[] #[] 1537 3 #[] #[])
  fields := #[]
  methods := #[]
  instanceTypes := #[]
  staticTypes := #[]
  resolved := Array.replicate 37 none
  statics := none }

def pool7 : Array CpInfo := pool [(1, .methodref 2 3), (0, .class_ 4), (0, .nameAndType 5 6), (0, u "java/lang/Object"), (0, u "<init>"), (0, u "()V"), (0, .string 8), (0, u ""), (0, .fieldref 10 11), (0, .class_ 12), (0, .nameAndType 13 14), (0, u "java/lang/String"), (0, u "value"), (0, u "[B"), (0, .fieldref 10 16), (0, .nameAndType 17 18), (0, u "coder"), (0, u "B"), (2, u "hash"), (0, u "I"), (2, u "hashIsZero"), (0, u "Z"), (0, .methodref 10 28), (0, .nameAndType 5 29), (0, u "([CIILjava/lang/Void;)V"), (8, .fieldref 10 39), (0, .nameAndType 40 26), (0, u "COMPACT_STRINGS"), (1, .class_ 44), (1, u "java/lang/StringUTF16"), (0, u "compress"), (1, .methodref 42 48), (0, .nameAndType 49 50), (0, u "coderFromArrayLen"), (0, u "([BI)B"), (2, u "toBytes"), (53, .class_ 109), (1, u "java/lang/StringLatin1"), (67, .methodref 42 178), (0, .nameAndType 45 179), (0, u "([CII)[B"), (29, .methodref 10 210), (0, .nameAndType 5 211), (0, u "([BB)V"), (157, u "(C)Z"), (205, .class_ 576), (0, u "java/lang/CharSequence"), (22, u "CASE_INSENSITIVE_ORDER"), (0, u "Ljava/util/Comparator;"), (181, u "valueOf"), (0, u "(C)Ljava/lang/String;"), (226, u "([C)V"), (4, .methodref 107 1016), (0, .nameAndType 1017 369), (0, u "canEncode"), (0, .methodref 107 1019), (0, .nameAndType 53 1020), (0, u "(C)[B"), (80, u "serialPersistentFields"), (0, u "[Ljava/io/ObjectStreamField;"), (0, .class_ 1104), (0, u "java/lang/String$CaseInsensitiveComparator"), (1, .class_ 1107), (0, u "java/io/Serializable"), (0, .class_ 1109), (0, u "java/lang/Comparable"), (0, .class_ 1111), (0, u "java/lang/constant/Constable"), (0, .class_ 1113), (0, u "java/lang/constant/ConstantDesc"), (2, u "serialVersionUID"), (0, u "J"), (3, u "REPL"), (0, u "C"), (2, u "LATIN1"), (1, u "UTF16")] 323

def k7m0 : Method := { name := "<init>", desc := "()V", sig := { parameters := [], returnType := none }, accessFlags := 1, code := none }
def k7c1 : Code := { maxStack := 5, maxLocals := 2, code := jdk_42_method_3_code, exceptionTable := #[], attributes := #[] }
def k7m1 : Method := { name := "<init>", desc := "([C)V", sig := { parameters := [(.array .char)], returnType := none }, accessFlags := 1, code := some k7c1 }
def k7c2 : Code := { maxStack := 4, maxLocals := 1, code := jdk_42_method_139_code, exceptionTable := #[], attributes := #[] }
def k7m2 : Method := { name := "valueOf", desc := "(C)Ljava/lang/String;", sig := { parameters := [.char], returnType := some (.object "java/lang/String") }, accessFlags := 9, code := some k7c2 }
def k7c3 : Code := { maxStack := 4, maxLocals := 6, code := jdk_42_method_149_code, exceptionTable := #[], attributes := #[] }
def k7m3 : Method := { name := "<init>", desc := "([CIILjava/lang/Void;)V", sig := { parameters := [(.array .char), .int, .int, (.object "java/lang/Void")], returnType := none }, accessFlags := 2, code := some k7c3 }
def k7c4 : Code := { maxStack := 2, maxLocals := 3, code := jdk_42_method_151_code, exceptionTable := #[], attributes := #[] }
def k7m4 : Method := { name := "<init>", desc := "([BB)V", sig := { parameters := [(.array .byte), .byte], returnType := none }, accessFlags := 0, code := some k7c4 }
/-- java/lang/String -/
def k7 : Class := { plain "java/lang/String" (some 0) with
  accessFlags := 49
  interfaces := #[2, 3, 4, 5, 6]
  cf := some (fileOf pool7 10 #[.nestMembers #[1103]] #[{ accessFlags := 1, nameIndex := 5, descriptorIndex := 6, attributes := #[] }, { accessFlags := 1, nameIndex := 5, descriptorIndex := 1010, attributes := #[] }, { accessFlags := 9, nameIndex := 782, descriptorIndex := 783, attributes := #[] }, { accessFlags := 2, nameIndex := 5, descriptorIndex := 29, attributes := #[] }, { accessFlags := 0, nameIndex := 5, descriptorIndex := 211, attributes := #[] }] 49 2 #[1106, 1108, 575, 1110, 1112] #[{ accessFlags := 18, nameIndex := 13, descriptorIndex := 14, attributes := #[] }, { accessFlags := 18, nameIndex := 17, descriptorIndex := 18, attributes := #[] }, { accessFlags := 2, nameIndex := 21, descriptorIndex := 22, attributes := #[] }, { accessFlags := 2, nameIndex := 25, descriptorIndex := 26, attributes := #[] }, { accessFlags := 26, nameIndex := 1116, descriptorIndex := 1117, attributes := #[] }, { accessFlags := 24, nameIndex := 40, descriptorIndex := 26, attributes := #[] }, { accessFlags := 26, nameIndex := 1101, descriptorIndex := 1102, attributes := #[] }, { accessFlags := 26, nameIndex := 1121, descriptorIndex := 1122, attributes := #[] }, { accessFlags := 25, nameIndex := 599, descriptorIndex := 600, attributes := #[] }, { accessFlags := 24, nameIndex := 1125, descriptorIndex := 18, attributes := #[] }, { accessFlags := 24, nameIndex := 1127, descriptorIndex := 18, attributes := #[] }])
  fields := #[{ name := "value", type := (.array .byte), accessFlags := 18, slot := 0, constantValue := 0 }, { name := "coder", type := .byte, accessFlags := 18, slot := 1, constantValue := 0 }, { name := "hash", type := .int, accessFlags := 2, slot := 2, constantValue := 0 }, { name := "hashIsZero", type := .boolean, accessFlags := 2, slot := 3, constantValue := 0 }, { name := "serialVersionUID", type := .long, accessFlags := 26, slot := 0, constantValue := 0 }, { name := "COMPACT_STRINGS", type := .boolean, accessFlags := 24, slot := 1, constantValue := 0 }, { name := "serialPersistentFields", type := (.array (.object "java/io/ObjectStreamField")), accessFlags := 26, slot := 2, constantValue := 0 }, { name := "REPL", type := .char, accessFlags := 26, slot := 3, constantValue := 0 }, { name := "CASE_INSENSITIVE_ORDER", type := (.object "java/util/Comparator"), accessFlags := 25, slot := 4, constantValue := 0 }, { name := "LATIN1", type := .byte, accessFlags := 24, slot := 5, constantValue := 0 }, { name := "UTF16", type := .byte, accessFlags := 24, slot := 6, constantValue := 0 }]
  methods := #[k7m0, k7m1, k7m2, k7m3, k7m4]
  instanceTypes := #[(.array .byte), .byte, .int, .boolean]
  staticTypes := #[.long, .boolean, (.array (.object "java/io/ObjectStreamField")), .char, (.object "java/util/Comparator"), .byte, .byte]
  resolved := Array.replicate 1451 none
  statics := some 0 }

def pool8 : Array CpInfo := pool [(2, .class_ 4), (1, u "java/lang/Object"), (3, .class_ 10), (1, u "com/example/slot1/slot1/balance/Options"), (0, u "strategy"), (0, u "Ljava/lang/String;"), (12, u "given"), (0, u "Ljava/util/Map;"), (25, .class_ 54), (1, u "java/lang/String"), (51, u "string"), (0, u "(Ljava/lang/Object;Ljava/lang/String;)Ljava/lang/String;")] 66

def k8c0 : Code := { maxStack := 2, maxLocals := 3, code := prog_9_method_6_code, exceptionTable := #[], attributes := #[] }
def k8m0 : Method := { name := "string", desc := "(Ljava/lang/Object;Ljava/lang/String;)Ljava/lang/String;", sig := { parameters := [(.object "java/lang/Object"), (.object "java/lang/String")], returnType := some (.object "java/lang/String") }, accessFlags := 8, code := some k8c0 }
/-- com/example/slot1/slot1/balance/Options -/
def k8 : Class := { plain "com/example/slot1/slot1/balance/Options" (some 0) with
  accessFlags := 32
  interfaces := #[]
  cf := some (fileOf pool8 8 #[] #[{ accessFlags := 8, nameIndex := 106, descriptorIndex := 107, attributes := #[] }] 32 2 #[] #[{ accessFlags := 18, nameIndex := 11, descriptorIndex := 12, attributes := #[] }, { accessFlags := 18, nameIndex := 25, descriptorIndex := 26, attributes := #[] }])
  fields := #[{ name := "strategy", type := (.object "java/lang/String"), accessFlags := 18, slot := 0, constantValue := 0 }, { name := "given", type := (.object "java/util/Map"), accessFlags := 18, slot := 1, constantValue := 0 }]
  methods := #[k8m0]
  instanceTypes := #[(.object "java/lang/String"), (.object "java/util/Map")]
  staticTypes := #[]
  resolved := Array.replicate 174 none
  statics := none }

def pool9 : Array CpInfo := pool [(4, .class_ 6), (1, u "java/lang/Object"), (0, u "<init>"), (0, u "()V"), (5, .class_ 16), (1, u "java/lang/StringLatin1"), (73, u "canEncode"), (14, u "(C)Z"), (15, u "$assertionsDisabled"), (0, u "Z"), (98, .class_ 223), (1, u "java/lang/StringLatin1$LinesSpliterator"), (156, u "toBytes"), (1, u "(C)[B"), (7, .class_ 391), (0, u "java/lang/StringLatin1$CharsSpliterator")] 3

def k9m0 : Method := { name := "<init>", desc := "()V", sig := { parameters := [], returnType := none }, accessFlags := 0, code := none }
def k9c1 : Code := { maxStack := 2, maxLocals := 1, code := jdk_43_method_3_code, exceptionTable := #[], attributes := #[] }
def k9m1 : Method := { name := "canEncode", desc := "(C)Z", sig := { parameters := [.char], returnType := some .boolean }, accessFlags := 9, code := some k9c1 }
def k9c2 : Code := { maxStack := 4, maxLocals := 1, code := jdk_43_method_46_code, exceptionTable := #[], attributes := #[] }
def k9m2 : Method := { name := "toBytes", desc := "(C)[B", sig := { parameters := [.char], returnType := some (.array .byte) }, accessFlags := 9, code := some k9c2 }
/-- java/lang/StringLatin1 -/
def k9 : Class := { plain "java/lang/StringLatin1" (some 0) with
  accessFlags := 48
  interfaces := #[]
  cf := some (fileOf pool9 14 #[.nestMembers #[390, 221]] #[{ accessFlags := 0, nameIndex := 7, descriptorIndex := 8, attributes := #[] }, { accessFlags := 9, nameIndex := 90, descriptorIndex := 105, attributes := #[] }, { accessFlags := 9, nameIndex := 380, descriptorIndex := 382, attributes := #[] }] 48 4 #[] #[{ accessFlags := 4120, nameIndex := 121, descriptorIndex := 122, attributes := #[] }])
  fields := #[{ name := "$assertionsDisabled", type := .boolean, accessFlags := 4120, slot := 0, constantValue := 0 }]
  methods := #[k9m0, k9m1, k9m2]
  instanceTypes := #[]
  staticTypes := #[.boolean]
  resolved := Array.replicate 395 none
  statics := none }

def pool10 : Array CpInfo := pool [(6, .class_ 8), (1, u "java/lang/Object"), (0, u "<init>"), (0, u "()V"), (1, .class_ 14), (1, u "java/lang/StringUTF16"), (31, u "$assertionsDisabled"), (0, u "Z"), (13, u "HI_BYTE_SHIFT"), (0, u "I"), (2, u "LO_BYTE_SHIFT"), (49, .methodref 12 116), (0, .nameAndType 117 118), (0, u "compress"), (0, u "([CI[BII)I"), (3, u "([CII)[B"), (138, u "coderFromArrayLen"), (0, u "([BI)B"), (106, .class_ 371), (1, u "java/lang/StringUTF16$LinesSpliterator"), (58, u "MAX_LENGTH"), (196, .class_ 628), (0, u "java/lang/StringUTF16$CodePointsSpliterator"), (0, .class_ 630), (0, u "java/lang/StringUTF16$CharsSpliterator")] 4

def k10m0 : Method := { name := "<init>", desc := "()V", sig := { parameters := [], returnType := none }, accessFlags := 0, code := none }
def k10c1 : Code := { maxStack := 2, maxLocals := 2, code := jdk_52_method_15_code, exceptionTable := #[], attributes := #[] }
def k10m1 : Method := { name := "coderFromArrayLen", desc := "([BI)B", sig := { parameters := [(.array .byte), .int], returnType := some .byte }, accessFlags := 8, code := some k10c1 }
def k10c2 : Code := { maxStack := 5, maxLocals := 6, code := jdk_52_method_16_code, exceptionTable := #[], attributes := #[] }
def k10m2 : Method := { name := "compress", desc := "([CII)[B", sig := { parameters := [(.array .char), .int, .int], returnType := some (.array .byte) }, accessFlags := 9, code := some k10c2 }
def k10c3 : Code := { maxStack := 3, maxLocals := 7, code := jdk_52_method_21_code, exceptionTable := #[], attributes := #[] }
def k10m3 : Method := { name := "compress", desc := "([CI[BII)I", sig := { parameters := [(.array .char), .int, (.array .byte), .int, .int], returnType := some .int }, accessFlags := 9, code := some k10c3 }
/-- java/lang/StringUTF16 -/
def k10 : Class := { plain "java/lang/StringUTF16" (some 0) with
  accessFlags := 48
  interfaces := #[]
  cf := some (fileOf pool10 12 #[.nestMembers #[627, 629, 369]] #[{ accessFlags := 0, nameIndex := 9, descriptorIndex := 10, attributes := #[] }, { accessFlags := 8, nameIndex := 261, descriptorIndex := 262, attributes := #[] }, { accessFlags := 9, nameIndex := 117, descriptorIndex := 122, attributes := #[] }, { accessFlags := 9, nameIndex := 117, descriptorIndex := 118, attributes := #[] }] 48 6 #[] #[{ accessFlags := 26, nameIndex := 61, descriptorIndex := 62, attributes := #[] }, { accessFlags := 26, nameIndex := 65, descriptorIndex := 62, attributes := #[] }, { accessFlags := 24, nameIndex := 430, descriptorIndex := 62, attributes := #[] }, { accessFlags := 4120, nameIndex := 46, descriptorIndex := 47, attributes := #[] }])
  fields := #[{ name := "HI_BYTE_SHIFT", type := .int, accessFlags := 26, slot := 0, constantValue := 0 }, { name := "LO_BYTE_SHIFT", type := .int, accessFlags := 26, slot := 1, constantValue := 0 }, { name := "MAX_LENGTH", type := .int, accessFlags := 24, slot := 2, constantValue := 0 }, { name := "$assertionsDisabled", type := .boolean, accessFlags := 4120, slot := 3, constantValue := 0 }]
  methods := #[k10m0, k10m1, k10m2, k10m3]
  instanceTypes := #[]
  staticTypes := #[.int, .int, .int, .boolean]
  resolved := Array.replicate 635 none
  statics := none }

def pool11 : Array CpInfo := pool [(2, .class_ 4), (1, u "java/lang/Object"), (0, u "<init>"), (0, u "()V"), (17, .class_ 26), (1, u "jdk/internal/util/Preconditions"), (28, .class_ 56), (0, u "jdk/internal/util/Preconditions$4"), (57, .class_ 115), (0, u "jdk/internal/util/Preconditions$1"), (7, u "SIOOBE_FORMATTER"), (0, u "Ljava/util/function/BiFunction;"), (0, .class_ 126), (0, u "jdk/internal/util/Preconditions$2"), (3, u "AIOOBE_FORMATTER"), (0, .class_ 132), (0, u "jdk/internal/util/Preconditions$3"), (3, u "IOOBE_FORMATTER")] 57

def k11m0 : Method := { name := "<init>", desc := "()V", sig := { parameters := [], returnType := none }, accessFlags := 1, code := none }
/-- jdk/internal/util/Preconditions -/
def k11 : Class := { plain "jdk/internal/util/Preconditions" (some 0) with
  accessFlags := 33
  interfaces := #[]
  cf := some (fileOf pool11 24 #[.nestMembers #[55, 131, 125, 114]] #[{ accessFlags := 1, nameIndex := 5, descriptorIndex := 6, attributes := #[] }] 33 2 #[] #[{ accessFlags := 25, nameIndex := 123, descriptorIndex := 124, attributes := #[] }, { accessFlags := 25, nameIndex := 130, descriptorIndex := 124, attributes := #[] }, { accessFlags := 25, nameIndex := 136, descriptorIndex := 124, attributes := #[] }])
  fields := #[{ name := "SIOOBE_FORMATTER", type := (.object "java/util/function/BiFunction"), accessFlags := 25, slot := 0, constantValue := 0 }, { name := "AIOOBE_FORMATTER", type := (.object "java/util/function/BiFunction"), accessFlags := 25, slot := 1, constantValue := 0 }, { name := "IOOBE_FORMATTER", type := (.object "java/util/function/BiFunction"), accessFlags := 25, slot := 2, constantValue := 0 }]
  methods := #[k11m0]
  instanceTypes := #[]
  staticTypes := #[(.object "java/util/function/BiFunction"), (.object "java/util/function/BiFunction"), (.object "java/util/function/BiFunction")]
  resolved := Array.replicate 194 none
  statics := some 1 }

def pool12 : Array CpInfo := pool [(9, u "<init>"), (6, .class_ 18), (1, u "java/lang/Object"), (0, u "()V"), (1, .class_ 23), (1, u "jdk/internal/util/ArraysSupport"), (0, u "LOG2_ARRAY_LONG_INDEX_SCALE"), (0, u "I"), (2, u "U"), (0, u "Ljdk/internal/misc/Unsafe;"), (8, u "BIG_ENDIAN"), (0, u "Z"), (8, u "LOG2_BYTE_BIT_SIZE"), (4, u "LOG2_ARRAY_INT_INDEX_SCALE"), (54, u "JLA"), (0, u "Ljdk/internal/access/JavaLangAccess;"), (11, u "LOG2_ARRAY_BOOLEAN_INDEX_SCALE"), (9, u "LOG2_ARRAY_BYTE_INDEX_SCALE"), (5, u "LOG2_ARRAY_CHAR_INDEX_SCALE"), (5, u "LOG2_ARRAY_SHORT_INDEX_SCALE"), (18, u "LOG2_ARRAY_FLOAT_INDEX_SCALE"), (24, u "LOG2_ARRAY_DOUBLE_INDEX_SCALE"), (89, u "T_BOOLEAN"), (2, u "T_CHAR"), (1, u "T_FLOAT"), (1, u "T_DOUBLE"), (1, u "T_BYTE"), (1, u "T_SHORT"), (1, u "T_INT"), (1, u "T_LONG"), (1, u "SOFT_MAX_ARRAY_LENGTH")] 83

def k12m0 : Method := { name := "<init>", desc := "()V", sig := { parameters := [], returnType := none }, accessFlags := 2, code := none }
/-- jdk/internal/util/ArraysSupport -/
def k12 : Class := { plain "jdk/internal/util/ArraysSupport" (some 0) with
  accessFlags := 33
  interfaces := #[]
  cf := some (fileOf pool12 21 #[] #[{ accessFlags := 2, nameIndex := 9, descriptorIndex := 19, attributes := #[] }] 33 16 #[] #[{ accessFlags := 24, nameIndex := 28, descriptorIndex := 29, attributes := #[] }, { accessFlags := 26, nameIndex := 38, descriptorIndex := 39, attributes := #[] }, { accessFlags := 25, nameIndex := 121, descriptorIndex := 25, attributes := #[] }, { accessFlags := 25, nameIndex := 131, descriptorIndex := 25, attributes := #[] }, { accessFlags := 25, nameIndex := 137, descriptorIndex := 25, attributes := #[] }, { accessFlags := 25, nameIndex := 143, descriptorIndex := 25, attributes := #[] }, { accessFlags := 25, nameIndex := 53, descriptorIndex := 25, attributes := #[] }, { accessFlags := 25, nameIndex := 24, descriptorIndex := 25, attributes := #[] }, { accessFlags := 25, nameIndex := 162, descriptorIndex := 25, attributes := #[] }, { accessFlags := 25, nameIndex := 187, descriptorIndex := 25, attributes := #[] }, { accessFlags := 26, nameIndex := 48, descriptorIndex := 25, attributes := #[] }, { accessFlags := 25, nameIndex := 277, descriptorIndex := 25, attributes := #[] }, { accessFlags := 25, nameIndex := 280, descriptorIndex := 25, attributes := #[] }, { accessFlags := 25, nameIndex := 282, descriptorIndex := 25, attributes := #[] }, { accessFlags := 25, nameIndex := 284, descriptorIndex := 25, attributes := #[] }, { accessFlags := 25, nameIndex := 286, descriptorIndex := 25, attributes := #[] }, { accessFlags := 25, nameIndex := 288, descriptorIndex := 25, attributes := #[] }, { accessFlags := 25, nameIndex := 290, descriptorIndex := 25, attributes := #[] }, { accessFlags := 25, nameIndex := 292, descriptorIndex := 25, attributes := #[] }, { accessFlags := 26, nameIndex := 108, descriptorIndex := 109, attributes := #[] }, { accessFlags := 25, nameIndex := 294, descriptorIndex := 25, attributes := #[] }])
  fields := #[{ name := "U", type := (.object "jdk/internal/misc/Unsafe"), accessFlags := 24, slot := 0, constantValue := 0 }, { name := "BIG_ENDIAN", type := .boolean, accessFlags := 26, slot := 1, constantValue := 0 }, { name := "LOG2_ARRAY_BOOLEAN_INDEX_SCALE", type := .int, accessFlags := 25, slot := 2, constantValue := 0 }, { name := "LOG2_ARRAY_BYTE_INDEX_SCALE", type := .int, accessFlags := 25, slot := 3, constantValue := 0 }, { name := "LOG2_ARRAY_CHAR_INDEX_SCALE", type := .int, accessFlags := 25, slot := 4, constantValue := 0 }, { name := "LOG2_ARRAY_SHORT_INDEX_SCALE", type := .int, accessFlags := 25, slot := 5, constantValue := 0 }, { name := "LOG2_ARRAY_INT_INDEX_SCALE", type := .int, accessFlags := 25, slot := 6, constantValue := 0 }, { name := "LOG2_ARRAY_LONG_INDEX_SCALE", type := .int, accessFlags := 25, slot := 7, constantValue := 0 }, { name := "LOG2_ARRAY_FLOAT_INDEX_SCALE", type := .int, accessFlags := 25, slot := 8, constantValue := 0 }, { name := "LOG2_ARRAY_DOUBLE_INDEX_SCALE", type := .int, accessFlags := 25, slot := 9, constantValue := 0 }, { name := "LOG2_BYTE_BIT_SIZE", type := .int, accessFlags := 26, slot := 10, constantValue := 0 }, { name := "T_BOOLEAN", type := .int, accessFlags := 25, slot := 11, constantValue := 0 }, { name := "T_CHAR", type := .int, accessFlags := 25, slot := 12, constantValue := 0 }, { name := "T_FLOAT", type := .int, accessFlags := 25, slot := 13, constantValue := 0 }, { name := "T_DOUBLE", type := .int, accessFlags := 25, slot := 14, constantValue := 0 }, { name := "T_BYTE", type := .int, accessFlags := 25, slot := 15, constantValue := 0 }, { name := "T_SHORT", type := .int, accessFlags := 25, slot := 16, constantValue := 0 }, { name := "T_INT", type := .int, accessFlags := 25, slot := 17, constantValue := 0 }, { name := "T_LONG", type := .int, accessFlags := 25, slot := 18, constantValue := 0 }, { name := "JLA", type := (.object "jdk/internal/access/JavaLangAccess"), accessFlags := 26, slot := 19, constantValue := 0 }, { name := "SOFT_MAX_ARRAY_LENGTH", type := .int, accessFlags := 25, slot := 20, constantValue := 0 }]
  methods := #[k12m0]
  instanceTypes := #[]
  staticTypes := #[(.object "jdk/internal/misc/Unsafe"), .boolean, .int, .int, .int, .int, .int, .int, .int, .int, .int, .int, .int, .int, .int, .int, .int, .int, .int, (.object "jdk/internal/access/JavaLangAccess"), .int]
  resolved := Array.replicate 378 none
  statics := none }

def pool13 : Array CpInfo := pool [(1, u "java/lang/Cloneable"), (0, .class_ 1), (0, u "java/lang/Object"), (0, .class_ 3)] 3

/-- java/lang/Cloneable -/
def k13 : Class := { plain "java/lang/Cloneable" (some 0) with
  accessFlags := 1537
  interfaces := #[]
  cf := some (fileOf pool13 2 #[] #[] 1537 4 #[] #[])
  fields := #[]
  methods := #[]
  instanceTypes := #[]
  staticTypes := #[]
  resolved := Array.replicate 8 none
  statics := none }

/-- the primitive byte -/
def k14 : Class := { plain "byte" none with kind := .primitive 'B', accessFlags := 0x411 }
/-- [B -/
def k15 : Class := { plain "[B" (some 0) with kind := .array 14 .byte, interfaces := #[13, 2], accessFlags := 1041 }

/-- the primitive char -/
def k16 : Class := { plain "char" none with kind := .primitive 'C', accessFlags := 0x411 }
/-- [C -/
def k17 : Class := { plain "[C" (some 0) with kind := .array 16 .char, interfaces := #[13, 2], accessFlags := 1041 }

/-- the primitive int -/
def k18 : Class := { plain "int" none with kind := .primitive 'I', accessFlags := 0x411 }
/-- [I -/
def k19 : Class := { plain "[I" (some 0) with kind := .array 18 .int, interfaces := #[13, 2], accessFlags := 1041 }

def heap : Heap := #[{ cls := 7, slots := #[.long 0, .int 1, .null, .int 0, .null, .int 0, .int 0], vm := .statics 7 },
  { cls := 11, slots := #[.null, .null, .null], vm := .statics 11 }]
def classes : Array Class := #[k0, k1, k2, k3, k4, k5, k6, k7, k8, k9, k10, k11, k12, k13, k14, k15, k16, k17, k18, k19]
def interned : List (Array UInt16 × Addr) := []
def slotsUsed : Nat := 10
def theMethod : MethodId := ⟨1, 2⟩
def args0 : Array Value := #[.int 5, .int 65, .int 66]
def aboutOver (below : List Frame) : State where
  vm := { classes := classes, interned := interned.toArray }
  heap := heap
  slotsUsed := slotsUsed
  threads := #[{ frames := .invoking theMethod args0 :: below }]
def below0 : List Frame := [.native { method := ⟨0, 0⟩, args := #[] }]
def about1 : State := aboutOver below0
def p0 : Program := .bare "" "" ""
def e0 : Env := launch0.env 0 0 0
theorem w_frames : about1.frames = Frame.invoking theMethod args0 :: below0 := rfl
set_option maxRecDepth 65536 in
theorem w_args : argsFit about1.vm theMethod args0 = true := by decide +kernel
set_option maxRecDepth 65536 in
theorem w_heap : heapFits about1 = true := by decide +kernel
set_option maxRecDepth 65536 in
theorem w_runnable : about1.curStatus? = some .runnable := by decide +kernel
set_option maxRecDepth 65536 in
theorem w_alone : about1.alone = true := by decide +kernel
set_option maxRecDepth 65536 in
theorem w_named : about1.methodNamed? x = some theMethod := by decide +kernel
set_option maxRecDepth 65536 in
theorem w_hears : about1.hears theMethod below0 = true := by decide +kernel
set_option maxRecDepth 65536 in
theorem w_ripe : about1.ripe theMethod args0 below0 = true := by decide +kernel
theorem w_running : about1.status = .running := rfl
set_option maxRecDepth 65536 in
theorem w_room : about1.hasRoom e0.platform room_1 = true :=
  launch0.hasRoom_least _ room_1 (by decide +kernel) (by decide +kernel) (by decide +kernel) (by decide +kernel) (by decide +kernel) (by decide +kernel)
theorem allAtoms_all (ts : List Jvm.Cond) (a : Array Jvm.Value) (st : Jvm.State) : (allAtoms ts).before a st = ts.all (fun c => c.before a st) := by
  induction ts with
  | nil => rfl
  | cons c t ih =>
    show (Jvm.Cond.and c (allAtoms t)).before a st = _
    rw [Jvm.Cond.before_and, ih, List.all_cons]
def words1 : List Jvm.Cond := Jvm.Cond.code x code maxLocals ret :: tables_1
/-- a 'code' word, met by the world's own term for the bytes: nothing is compared byte by byte -/
theorem code_word {y : MethodName} {bytes : ByteArray} {mx : Nat} {rt : Option FieldType} {a : Array Value} {s : State} {m : MethodId} {meth : Method} {c : Code} (h1 : s.methodNamed? y = some m) (h2 : s.vm.method? m = some meth) (h3 : meth.code = some c) (h4 : c.code = bytes)
    (h5 : (c.maxLocals == mx && c.exceptionTable.isEmpty && decide (c.maxStack ≤ mostOperands) && decide (meth.sig.returnType = rt) && !meth.locks && decide (parseMethodDescriptor y.desc = some meth.sig)) = true) : (Jvm.Cond.code y bytes mx rt).before a s = true := by
  simp only [Bool.and_eq_true, beq_iff_eq, Bool.not_eq_true', decide_eq_true_eq] at h5
  obtain ⟨⟨⟨⟨⟨g1, g2⟩, g3⟩, g4⟩, g5⟩, g6⟩ := h5
  simp [Cond.before, Cond.holds, Cond.value, h1, h2, h3, h4, g1, g2, g3, g4, g5, g6]
def isCode : Jvm.Cond → Bool
  | .code _ _ _ _ => true
  | _ => false
theorem all_split {L : List Jvm.Cond} {P : Jvm.Cond → Bool} (h1 : L.all (fun c => isCode c || P c) = true) (h2 : ∀ c ∈ L.filter isCode, P c = true) : L.all P = true := by
  refine List.all_eq_true.mpr fun c hc => ?_
  have h := List.all_eq_true.mp h1 c hc
  rcases Bool.eq_false_or_eq_true (isCode c) with hi | hi
  · exact h2 c (List.mem_filter.mpr ⟨hc, hi⟩)
  · simpa [hi] using h
set_option maxRecDepth 65536 in
theorem w_c0 : (Jvm.Cond.code x code maxLocals ret).before args0 about1 = true := code_word (m := ⟨1, 2⟩) (meth := k1m2) (c := k1c2) (by decide +kernel) rfl rfl rfl (by decide +kernel)
set_option maxRecDepth 65536 in
theorem w_c1 : (Jvm.Cond.code ({ cls := "com/example/slot1/slot1/balance/OptionsStringPinLaw", name := "make", desc := "(II)Ljava/lang/String;" } : Jvm.MethodName) method_2_code (5 : Nat) (Option.some (Jvm.ClassFile.FieldType.object "java/lang/String"))).before args0 about1 = true := code_word (m := ⟨1, 1⟩) (meth := k1m1) (c := k1c1) (by decide +kernel) rfl rfl rfl (by decide +kernel)
set_option maxRecDepth 65536 in
theorem w_c2 : (Jvm.Cond.code ({ cls := "java/lang/String", name := "<init>", desc := "([C)V" } : Jvm.MethodName) jdk_42_method_3_code (2 : Nat) (Option.none : Option Jvm.ClassFile.FieldType)).before args0 about1 = true := code_word (m := ⟨7, 1⟩) (meth := k7m1) (c := k7c1) (by decide +kernel) rfl rfl rfl (by decide +kernel)
set_option maxRecDepth 65536 in
theorem w_c3 : (Jvm.Cond.code ({ cls := "java/lang/String", name := "<init>", desc := "([CIILjava/lang/Void;)V" } : Jvm.MethodName) jdk_42_method_149_code (6 : Nat) (Option.none : Option Jvm.ClassFile.FieldType)).before args0 about1 = true := code_word (m := ⟨7, 3⟩) (meth := k7m3) (c := k7c3) (by decide +kernel) rfl rfl rfl (by decide +kernel)
set_option maxRecDepth 65536 in
theorem w_c4 : (Jvm.Cond.code ({ cls := "java/lang/Object", name := "<init>", desc := "()V" } : Jvm.MethodName) object_method_1_code (1 : Nat) (Option.none : Option Jvm.ClassFile.FieldType)).before args0 about1 = true := code_word (m := ⟨0, 0⟩) (meth := k0m0) (c := k0c0) (by decide +kernel) rfl rfl rfl (by decide +kernel)
set_option maxRecDepth 65536 in
theorem w_c5 : (Jvm.Cond.code ({ cls := "com/example/slot1/slot1/balance/Options", name := "string", desc := "(Ljava/lang/Object;Ljava/lang/String;)Ljava/lang/String;" } : Jvm.MethodName) prog_9_method_6_code (3 : Nat) (Option.some (Jvm.ClassFile.FieldType.object "java/lang/String"))).before args0 about1 = true := code_word (m := ⟨8, 0⟩) (meth := k8m0) (c := k8c0) (by decide +kernel) rfl rfl rfl (by decide +kernel)
set_option maxRecDepth 65536 in
theorem w_c6 : (Jvm.Cond.code ({ cls := "java/lang/String", name := "valueOf", desc := "(C)Ljava/lang/String;" } : Jvm.MethodName) jdk_42_method_139_code (1 : Nat) (Option.some (Jvm.ClassFile.FieldType.object "java/lang/String"))).before args0 about1 = true := code_word (m := ⟨7, 2⟩) (meth := k7m2) (c := k7c2) (by decide +kernel) rfl rfl rfl (by decide +kernel)
set_option maxRecDepth 65536 in
theorem w_c7 : (Jvm.Cond.code ({ cls := "java/lang/StringLatin1", name := "canEncode", desc := "(C)Z" } : Jvm.MethodName) jdk_43_method_3_code (1 : Nat) (Option.some Jvm.ClassFile.FieldType.boolean)).before args0 about1 = true := code_word (m := ⟨9, 1⟩) (meth := k9m1) (c := k9c1) (by decide +kernel) rfl rfl rfl (by decide +kernel)
set_option maxRecDepth 65536 in
theorem w_c8 : (Jvm.Cond.code ({ cls := "java/lang/StringLatin1", name := "toBytes", desc := "(C)[B" } : Jvm.MethodName) jdk_43_method_46_code (1 : Nat) (Option.some (Jvm.ClassFile.FieldType.array Jvm.ClassFile.FieldType.byte))).before args0 about1 = true := code_word (m := ⟨9, 2⟩) (meth := k9m2) (c := k9c2) (by decide +kernel) rfl rfl rfl (by decide +kernel)
set_option maxRecDepth 65536 in
theorem w_c9 : (Jvm.Cond.code ({ cls := "java/lang/String", name := "<init>", desc := "([BB)V" } : Jvm.MethodName) jdk_42_method_151_code (3 : Nat) (Option.none : Option Jvm.ClassFile.FieldType)).before args0 about1 = true := code_word (m := ⟨7, 4⟩) (meth := k7m4) (c := k7c4) (by decide +kernel) rfl rfl rfl (by decide +kernel)
set_option maxRecDepth 65536 in
theorem w_c10 : (Jvm.Cond.code ({ cls := "java/lang/StringUTF16", name := "compress", desc := "([CII)[B" } : Jvm.MethodName) jdk_52_method_16_code (6 : Nat) (Option.some (Jvm.ClassFile.FieldType.array Jvm.ClassFile.FieldType.byte))).before args0 about1 = true := code_word (m := ⟨10, 2⟩) (meth := k10m2) (c := k10c2) (by decide +kernel) rfl rfl rfl (by decide +kernel)
set_option maxRecDepth 65536 in
theorem w_c11 : (Jvm.Cond.code ({ cls := "java/lang/StringUTF16", name := "compress", desc := "([CI[BII)I" } : Jvm.MethodName) jdk_52_method_21_code (7 : Nat) (Option.some Jvm.ClassFile.FieldType.int)).before args0 about1 = true := code_word (m := ⟨10, 3⟩) (meth := k10m3) (c := k10c3) (by decide +kernel) rfl rfl rfl (by decide +kernel)
set_option maxRecDepth 65536 in
theorem w_c12 : (Jvm.Cond.code ({ cls := "java/lang/StringUTF16", name := "coderFromArrayLen", desc := "([BI)B" } : Jvm.MethodName) jdk_52_method_15_code (2 : Nat) (Option.some Jvm.ClassFile.FieldType.byte)).before args0 about1 = true := code_word (m := ⟨10, 1⟩) (meth := k10m1) (c := k10c1) (by decide +kernel) rfl rfl rfl (by decide +kernel)
def codes1 : List Jvm.Cond := [Jvm.Cond.code x code maxLocals ret, Jvm.Cond.code ({ cls := "com/example/slot1/slot1/balance/OptionsStringPinLaw", name := "make", desc := "(II)Ljava/lang/String;" } : Jvm.MethodName) method_2_code (5 : Nat) (Option.some (Jvm.ClassFile.FieldType.object "java/lang/String")), Jvm.Cond.code ({ cls := "java/lang/String", name := "<init>", desc := "([C)V" } : Jvm.MethodName) jdk_42_method_3_code (2 : Nat) (Option.none : Option Jvm.ClassFile.FieldType), Jvm.Cond.code ({ cls := "java/lang/String", name := "<init>", desc := "([CIILjava/lang/Void;)V" } : Jvm.MethodName) jdk_42_method_149_code (6 : Nat) (Option.none : Option Jvm.ClassFile.FieldType), Jvm.Cond.code ({ cls := "java/lang/Object", name := "<init>", desc := "()V" } : Jvm.MethodName) object_method_1_code (1 : Nat) (Option.none : Option Jvm.ClassFile.FieldType), Jvm.Cond.code ({ cls := "com/example/slot1/slot1/balance/Options", name := "string", desc := "(Ljava/lang/Object;Ljava/lang/String;)Ljava/lang/String;" } : Jvm.MethodName) prog_9_method_6_code (3 : Nat) (Option.some (Jvm.ClassFile.FieldType.object "java/lang/String")), Jvm.Cond.code ({ cls := "java/lang/String", name := "valueOf", desc := "(C)Ljava/lang/String;" } : Jvm.MethodName) jdk_42_method_139_code (1 : Nat) (Option.some (Jvm.ClassFile.FieldType.object "java/lang/String")), Jvm.Cond.code ({ cls := "java/lang/StringLatin1", name := "canEncode", desc := "(C)Z" } : Jvm.MethodName) jdk_43_method_3_code (1 : Nat) (Option.some Jvm.ClassFile.FieldType.boolean), Jvm.Cond.code ({ cls := "java/lang/StringLatin1", name := "toBytes", desc := "(C)[B" } : Jvm.MethodName) jdk_43_method_46_code (1 : Nat) (Option.some (Jvm.ClassFile.FieldType.array Jvm.ClassFile.FieldType.byte)), Jvm.Cond.code ({ cls := "java/lang/String", name := "<init>", desc := "([BB)V" } : Jvm.MethodName) jdk_42_method_151_code (3 : Nat) (Option.none : Option Jvm.ClassFile.FieldType), Jvm.Cond.code ({ cls := "java/lang/StringUTF16", name := "compress", desc := "([CII)[B" } : Jvm.MethodName) jdk_52_method_16_code (6 : Nat) (Option.some (Jvm.ClassFile.FieldType.array Jvm.ClassFile.FieldType.byte)), Jvm.Cond.code ({ cls := "java/lang/StringUTF16", name := "compress", desc := "([CI[BII)I" } : Jvm.MethodName) jdk_52_method_21_code (7 : Nat) (Option.some Jvm.ClassFile.FieldType.int), Jvm.Cond.code ({ cls := "java/lang/StringUTF16", name := "coderFromArrayLen", desc := "([BI)B" } : Jvm.MethodName) jdk_52_method_15_code (2 : Nat) (Option.some Jvm.ClassFile.FieldType.byte)]
set_option maxRecDepth 65536 in
theorem codes_eq : words1.filter isCode = codes1 := rfl
theorem w_codes : ∀ c ∈ words1.filter isCode, c.before args0 about1 = true := by
  rw [codes_eq]
  intro c hc
  simp only [codes1, List.mem_cons, List.not_mem_nil, or_false] at hc
  rcases hc with rfl | rfl | rfl | rfl | rfl | rfl | rfl | rfl | rfl | rfl | rfl | rfl | rfl
  · exact w_c0
  · exact w_c1
  · exact w_c2
  · exact w_c3
  · exact w_c4
  · exact w_c5
  · exact w_c6
  · exact w_c7
  · exact w_c8
  · exact w_c9
  · exact w_c10
  · exact w_c11
  · exact w_c12
set_option maxRecDepth 65536 in
theorem w_t1 : (words1.take 24).all (fun c => isCode c || c.before args0 about1) = true := by decide +kernel
set_option maxRecDepth 65536 in
theorem w_t2 : ((words1.drop 24).take 24).all (fun c => isCode c || c.before args0 about1) = true := by decide +kernel
set_option maxRecDepth 65536 in
theorem w_t3 : ((words1.drop 24).drop 24).all (fun c => isCode c || c.before args0 about1) = true := by decide +kernel
theorem w_tables : (allAtoms (Jvm.Cond.code x code maxLocals ret :: tables_1)).before args0 about1 = true := by
  rw [allAtoms_all]
  show words1.all (fun c => c.before args0 about1) = true
  refine all_split ?_ w_codes
  rw [← List.take_append_drop 24 words1, List.all_append, w_t1, ← List.take_append_drop 24 (words1.drop 24), List.all_append, w_t2, w_t3]
  rfl
set_option maxRecDepth 65536 in
theorem w_rest : rest_1_c.before args0 about1 = true := by decide +kernel
set_option maxRecDepth 65536 in
theorem w_case : (Jvm.Cond.and given_1 narrow_1).before args0 about1 = true := by decide +kernel
set_option maxRecDepth 65536 in
theorem w_consts : constsHeld consts_1 about1 := Jvm.Lit.constsHeldB_iff.mp (by decide +kernel)
theorem w_applies : (headSpec (Jvm.Cond.code x code maxLocals ret :: tables_1) room_1).applies x e0.platform about1 = true :=
  (Spec.applies_iff w_frames).mpr ⟨w_running, w_runnable, w_alone, w_named, w_hears, w_ripe, w_room, w_tables⟩
theorem atStart : AtStart classFile x code maxLocals ret World_1 tables_1 room_1 Calls_1 rest_1 Pre_1 launch0 p0 e0 about1 theMethod args0 below0 :=
  ⟨lists_1, trivial, launch0.admits_env _ _ _, launch0.least_env, fairChoices_fair.cas, fairChoices_fair.clock, w_frames, w_args, w_heap, w_applies, ⟨w_consts, trivial⟩, w_rest, w_case⟩
end start1
theorem witness_1 : WitnessClaimed_1 := ⟨start1.p0, start1.e0, start1.about1, start1.theMethod, start1.args0, start1.below0, start1.atStart⟩
end Jvm.Pilot.@@N@@
