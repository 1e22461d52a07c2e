import JvmDerived
import JvmDerived.Pilot.@@N@@Statement
import JvmDerived.Pilot.@@N@@Code
set_option linter.unusedVariables false
set_option linter.unusedSimpArgs false
namespace Jvm.Pilot.@@N@@
open Jvm Jvm.ClassFile Sem Op Lib Jvm.Free Jvm.Stand Jvm.LawKit Jvm.RoadKit Bundle Jvm.Pilot.@@N@@.Jvm.D
/-- from the state A the body comes to its end as Q says -/
def own_Fin (tb : Tables) (e : Env) (below : List Frame) (s : State) (Q : Option Value → Heap → List Loc → Prop) (kc ks : Nat) (A : State) : Prop :=
  ∃ s₂ o, Steps tb e below A s₂ ∧ s₂.status = .running ∧ Ended s₂ below o ∧ ∃ v L, o = .returned v ∧ Q v s₂.heap L ∧ FrameEnd s o s₂ L kc ks
theorem own_G (tb : Tables) (e : Env) (below : List Frame) (s : State) (Q : Option Value → Heap → List Loc → Prop) (kc ks : Nat) :
    ∃ G : State → Prop, (∀ {A B : State}, (∀ t, Steps tb e below B t → Steps tb e below A t) → G B → G A) ∧ (∀ A, own_Fin tb e below s Q kc ks A → G A) ∧ (∀ A, G A → own_Fin tb e below s Q kc ks A) :=
  ⟨own_Fin tb e below s Q kc ks, fun h k => by obtain ⟨s₂, o, h1, r⟩ := k; exact ⟨s₂, o, h _ h1, r⟩, fun _ h => h, fun _ h => h⟩
theorem own_ret {p : Program} {l : Launch} {e : Env} {R : Room} {s : State} {m : MethodId} {args : Array Value} {below : List Frame} {meth : Method} {c : Code} {T : State} {locs : List Loc} {cells slots : Nat} {Q : Option Value → Heap → List Loc → Prop} {kc ks : Nat} {A : State} {v : Option Value}
    (X : Stand p l e R s m args below meth c T locs cells slots) (hlk : meth.locks = false) (hv : meth.sig.returnType = none → v = none) (hQ : Q v T.heap locs) (hc : cells ≤ kc) (hs : slots ≤ ks)
    (st : ∀ fs, (∀ (f : JFrame) (acts : List Action), f.method = m → f.locked = none → f.entered = [] → (doReturn e (T.setTop f) acts v).1 = T.setFrames fs) → Steps p.tables e below A (T.setFrames fs)) : own_Fin p.tables e below s Q kc ks A := by
  obtain ⟨fs, hr, hrun, hended, hW, hsame⟩ := X.leave hv hlk
  exact ⟨_, _, st fs hr, hrun, hended, _, _, rfl, hQ, ⟨_, rfl⟩, hW, hsame.mono hc hs⟩
theorem own_old {Z : State} {n0 : Nat} {h : Heap} (O : Old Z n0 h) : n0 ≤ h.size := O.1 ▸ O.2.1
theorem own_cat {v : Value} (h : v.isRef = true) : v.category = 1 := by rcases ref_cases h with rfl | ⟨a, rfl⟩ <;> rfl
theorem own_mvM {Z s : State} {a0 args : Array Value} {own host : String} {index : Nat} {y : MethodName} (hZ : Z.Warmed39 s.vm) (w : (Jvm.Cond.methodLinkNest own index y host).before a0 Z = true) : (Jvm.Cond.methodLinkNest own index y host).before args s = true := (Cond.methodLinkNest_wide hZ w :)
theorem own_ne_arv {Z : State} {h : Heap} {a b : Addr} {C : String} {a0 : Array Value} {n : Nat} {k : ClassId} {ty : FieldType} {z : Int32} {vs : List Value} {d : Value} (E : Exa Z h a C) (wi : (Jvm.Cond.instantiable C n).before a0 Z = true) (A : Arv Z h b k ty z vs d) : a ≠ b := by
  obtain ⟨c, A, -⟩ := A
  exact ne_arr E wi A
theorem own_narB (x : Int32) : nar .byte x.toInt8.toInt32 = x.toInt8.toInt32 := by
  refine Int32.toInt_inj.mp ?_
  have h1 := c_i2b x
  have h2 := c_i2b x.toInt8.toInt32
  show (x.toInt8.toInt32.toInt8.toInt32).toInt = _
  omega
theorem own_narC (x : Int32) : nar .char x.toUInt32.toUInt16.toUInt32.toInt32 = x.toUInt32.toUInt16.toUInt32.toInt32 := by
  refine Int32.toInt_inj.mp ?_
  have h1 := c_i2c x
  have h2 := c_i2c x.toUInt32.toUInt16.toUInt32.toInt32
  show (x.toUInt32.toUInt16.toUInt32.toInt32.toUInt32.toUInt16.toUInt32.toInt32).toInt = _
  omega
theorem own_exa {s : State} {args : Array Value} {t : Term} {K : String} (h : (Jvm.Cond.exactly t K).value args s none s [] = some true) : ∃ a, t.eval args s none [] s = some (.ref a) ∧ Exa s s.heap a K := by
  obtain ⟨a, c', cell, k, e1, e2, e3, e4, e5, e6, e7⟩ := Cond.exactly_spec (Cond.before_iff.mpr h)
  exact ⟨a, e1, Exa.start e1 h⟩
theorem own_fint {s : State} {args : Array Value} {t : Term} {C n d : String} {a : Addr} {k : Int32} (ht : t.eval args s none [] s = some (.ref a)) (h : (Jvm.Cond.eq (.field t C n d) (.int k)).value args s none s [] = some true) : Fld s s.heap a C n d (.int k) := by
  refine Fld.start ?_
  rw [← fld_at ht]
  have hk : (Term.int k).eval args s none [] s = some (.int k) := rfl
  cases q : (Term.field t C n d).eval args s none [] s with
  | none => simp [Cond.value, q] at h
  | some v => cases v <;> simp [Cond.value, q, hk] at h; rw [h]
theorem own_flong {s : State} {args : Array Value} {t : Term} {C n d : String} {a : Addr} {k : Int64} (ht : t.eval args s none [] s = some (.ref a)) (h : (Jvm.Cond.eq (.field t C n d) (.long k)).value args s none s [] = some true) : Fld s s.heap a C n d (.long k) := by
  refine Fld.start ?_
  rw [← fld_at ht]
  have hk : (Term.long k).eval args s none [] s = some (.long k) := rfl
  cases q : (Term.field t C n d).eval args s none [] s with
  | none => simp [Cond.value, q] at h
  | some v => cases v <;> simp [Cond.value, q, hk] at h; rw [h]
theorem own_not0 {s : State} {args : Array Value} {t : Term} {x : Int32} (ev : t.eval args s none [] s = some (.int x)) (h : (Jvm.Cond.not (.eq t (.int 0))).value args s none s [] = some true) : ¬ (x = (0 : Int32)) := by
  intro q
  subst q
  have k : (Term.int 0).eval args s none [] s = some (.int 0) := rfl
  simp [Cond.value, ev, k] at h
theorem own_isref {s : State} {args : Array Value} {t : Term} (h : (Jvm.Cond.isRef t).value args s none s [] = some true) : ∃ v, t.eval args s none [] s = some v ∧ v.isRef = true := by
  cases q : t.eval args s none [] s with
  | none => simp [Cond.value, q] at h
  | some v => refine ⟨v, rfl, ?_⟩; cases v <;> simp [Cond.value, q, Value.isRef] at h ⊢
theorem own_empty {s : State} (hf : Fit s) {args : Array Value} {t : Term} {ty : FieldType} (h4 : (Jvm.Cond.arrayOf t ty).value args s none s [] = some true) (h6 : (Jvm.Cond.eq (.length t) (.int 0)).value args s none s [] = some true) : ∃ (a : Addr) (k : ClassId), t.eval args s none [] s = some (.ref a) ∧ Arv s s.heap a k ty (0 : Int32) [] .null := by
  have e6 := eqv_i (Term.int_eval 0) h6
  obtain ⟨a, cell, ea, hat, -⟩ := Term.length_spec e6
  obtain ⟨c, A⟩ := Arr.start ea h4
  have hc := A.fin (Vm.Alike.refl _)
  have hl : c.slots.size < 2 ^ 31 := by
    rcases Nat.lt_or_ge c.slots.size (2 ^ 31) with q | q
    · exact q
    · simp [Term.eval, ea, hc, Nat.not_lt.mpr q] at e6
  have e8 := (len_f ea hc hl).symm.trans e6
  have e9 : c.slots.size.toInt32 = (0 : Int32) := by simpa using e8
  exact ⟨a, c.cls, ea, Arv.start hf A hl e9 (by decide) rfl trivial⟩
def own_EL : List (String × Nat) := [("com/example/hits_in_context/hitsincontext/io/PieceIsLiteralPinLaw", 39)]
theorem own_hEL {Z : State} {a0 : Array Value} (hw : ∀ d ∈ tables_1, d.before a0 Z = true) : EW Z a0 own_EL := (EW.cons (hw _ (List.mem_of_getElem? (i := 30) rfl)) (by decide) EW.nil)
theorem own_wS {Z : State} {a0 : Array Value} (hw : ∀ d ∈ tables_1, d.before a0 Z = true) : ∀ a ∈ Bundle.stringAtoms, a.before a0 Z = true := by
  intro a ha
  simp only [Bundle.stringAtoms, List.mem_cons, List.not_mem_nil, or_false] at ha
  rcases ha with rfl | rfl | rfl | rfl | rfl | rfl | rfl
  · exact (hw _ (List.mem_of_getElem? (i := 3) rfl))
  · exact (hw _ (List.mem_of_getElem? (i := 2) rfl))
  · exact (hw _ (List.mem_of_getElem? (i := 19) rfl))
  · exact (hw _ (List.mem_of_getElem? (i := 29) rfl))
  · exact (hw _ (List.mem_of_getElem? (i := 27) rfl))
  · exact (hw _ (List.mem_of_getElem? (i := 31) rfl))
  · exact (hw _ (List.mem_of_getElem? (i := 32) rfl))
/-- from the state A the body comes to its end as Q says; literals may have been made -/
def own_FinW (Z : State) (EL : List (String × Nat)) (tb : Tables) (e : Env) (below : List Frame) (s : State) (Q : Option Value → Heap → List Loc → Prop) (kc ks : Nat) (A : State) : Prop :=
  ∃ s₂ o, Steps tb e below A s₂ ∧ s₂.status = .running ∧ Ended s₂ below o ∧ ∃ v L, o = .returned v ∧ Q v s₂.heap L ∧ CHr Z EL s.vm s.heap s₂.vm s₂.heap ∧ ReturnedEndW s o s₂ L kc ks
theorem own_GW (Z : State) (EL : List (String × Nat)) (tb : Tables) (e : Env) (below : List Frame) (s : State) (Q : Option Value → Heap → List Loc → Prop) (kc ks : Nat) :
    ∃ G : State → Prop, (∀ {A B : State}, (∀ t, Steps tb e below B t → Steps tb e below A t) → G B → G A) ∧ (∀ A, own_FinW Z EL tb e below s Q kc ks A → G A) ∧ (∀ A, G A → own_FinW Z EL tb e below s Q kc ks A) :=
  ⟨own_FinW Z EL tb e below s Q kc ks, fun h k => by obtain ⟨s₂, o, h1, r⟩ := k; exact ⟨s₂, o, h _ h1, r⟩, fun _ h => h, fun _ h => h⟩
theorem own_retW {p : Program} {l : Launch} {e : Env} {R : Room} {s : State} {vm0 : Vm} {m : MethodId} {args : Array Value} {below : List Frame} {meth : Method} {c : Code} {T : State} {locs : List Loc} {cells slots : Nat} {Q : Option Value → Heap → List Loc → Prop} {kc ks k0 : Nat} {A : State} {v : Option Value} {Z : State} {EL : List (String × Nat)}
    (X : Stand p l e R (s.setVm vm0) m args below meth c T locs cells slots) (hlk : meth.locks = false) (hS : s.Since vm0 k0) (hk : k0 ≤ T.heap.size) (hv : meth.sig.returnType = none → v = none) (hQ : Q v T.heap locs) (hc : cells ≤ kc) (hs : slots ≤ ks) (hCR : CHr Z EL s.vm s.heap T.vm T.heap)
    (st : ∀ fs, (∀ (f : JFrame) (acts : List Action), f.method = m → f.locked = none → f.entered = [] → (doReturn e (T.setTop f) acts v).1 = T.setFrames fs) → Steps p.tables e below A (T.setFrames fs)) : own_FinW Z EL p.tables e below s Q kc ks A := by
  obtain ⟨fs, hr, hrun, hended, hW⟩ := X.leaveW hS hk hv hlk
  exact ⟨_, _, st fs hr, hrun, hended, _, _, rfl, hQ, hCR, hW.1, hW.2.1, hW.2.2.1, hW.2.2.2.mono hc hs⟩
theorem own_sf0 {Z : State} {EL : List (String × Nat)} {vm : Vm} {h : Heap} : ∀ x ∈ ([] : List Addr), x < h.size ∧ Safe Z EL vm h x := fun _ q => nomatch q
theorem own_sfS {Z : State} {EL : List (String × Nat)} {vm : Vm} {h : Heap} {x : Addr} {ws : List Addr} (lt : x < h.size) (n : Safe Z EL vm h x) (r : ∀ y ∈ ws, y < h.size ∧ Safe Z EL vm h y) : ∀ y ∈ x :: ws, y < h.size ∧ Safe Z EL vm h y := fun y q => by
  rcases List.mem_cons.mp q with rfl | q
  · exact ⟨lt, n⟩
  · exact r y q
theorem own_backH {l : Launch} {R : Room} {p : Program} {e : Env} {below : List Frame} {s : State} {args : Array Value} {Z : State} {a0 : Array Value} {EL : List (String × Nat)} {h : Heap} {vm0 : Vm} {xs : List Addr}
    {y : MethodName} {bytes : ByteArray} {maxL : Nat} {ret : Option FieldType} {rm : Room} {len W : Nat} {as' : Array Value} {Q : Option Value → Heap → List Loc → Prop}
    (hM : MetFree l y (head1 [Cond.code y bytes maxL ret] rm) (fun a U => a = as' ∧ Z.Warmed39 U.vm ∧ U.heap = h ∧ CHv Z EL U.vm h ∧ ∀ x ∈ xs, Safe Z EL U.vm h x) (fun _ _ _ _ _ => True) (fun _ U o U' => ∃ v L, o = .returned v ∧ Q v U'.heap L ∧ CHr Z EL U.vm U.heap U'.vm U'.heap ∧ ReturnedEndW U o U' L rm.cells rm.slots))
    (hZ : Z.Warmed39 vm0) (wc : (Cond.code y bytes maxL ret).before a0 Z = true) (wz : (Cond.initialized y.cls).before a0 Z = true) (hf : rm.frames + 1 ≤ R.frames) (hl : W + (maxL + 11) + rm.locals ≤ R.locals) (hEL : EW Z a0 EL) (H : CHv Z EL vm0 h) (hxs : ∀ x ∈ xs, x < h.size ∧ Safe Z EL vm0 h x) :
    BackS l R p e below (s.setVm vm0) args y len W (fun A a => a = as' ∧ A.U.heap = h ∧ A.cells + rm.cells ≤ R.cells ∧ A.slots + rm.slots ≤ R.slots)
      (fun A _ v B => ∃ L, Q v B.U.heap L ∧ B.locs = A.locs ++ L ∧ B.cells = A.cells + rm.cells ∧ B.slots = A.slots + rm.slots ∧ CHr Z EL vm0 h B.U.vm B.U.heap) := by
  refine BackS.of_freeW (bytes := bytes) (maxL := maxL) (ret := ret) (E := fun _ first o t L k n => k = rm.cells ∧ n = rm.slots ∧ (∃ v, o = .returned v ∧ Q v t.heap L) ∧ CHr Z EL first.vm first.heap t.vm t.heap) hM hf hl ?_ ?_ (fun _ _ _ _ _ _ _ _ _ => trivial) ?_ ?_
  · intro m meth c A a Y hp
    have hU : Z.Warmed39 A.U.vm := wtrans (s := s.setVm vm0) hZ Y.warmed
    refine ⟨?_, mv hU wc, mv hU wz, hp.2.2.1, hp.2.2.2⟩
    show (Cond.and _ .tt).before a A.U = true
    rw [Cond.before_and, mv hU wc]; rfl
  · intro m meth c A a g mk Y hp
    have B := CHv.at Y hZ hEL H
    exact ⟨hp.1, wtrans (s := s.setVm vm0) hZ Y.warmed, hp.2.1, B.1, fun x hx => B.safe (hxs x hx).1 (hxs x hx).2⟩
  · rintro _ _ _ _ ⟨v, L, h1, h2, h3, h4⟩
    exact ⟨L, _, _, h4, rfl, rfl, ⟨v, h1, h2⟩, h3⟩
  · rintro m meth c A a g mk v t L k n Y hp - - ⟨e1, e2, ⟨v', e3, e4⟩, e5⟩
    cases e3; subst e1 e2
    refine ⟨L, e4, rfl, rfl, rfl, (CHv.at Y hZ hEL H).trans ?_⟩
    rw [← hp.2.1]; exact e5
theorem own_and3 (a : Int32) : a &&& (3 : Int32) = (0 : Int32) ∨ a &&& (3 : Int32) = (1 : Int32) ∨ a &&& (3 : Int32) = (2 : Int32) ∨ a &&& (3 : Int32) = (3 : Int32) := by
  have h := c_mask a 3 2 (by decide) (by decide)
  have h1 : (a &&& (3 : Int32)).toInt = 0 ∨ (a &&& (3 : Int32)).toInt = 1 ∨ (a &&& (3 : Int32)).toInt = 2 ∨ (a &&& (3 : Int32)).toInt = 3 := by omega
  rcases h1 with q | q | q | q
  · exact Or.inl (Int32.toInt_inj.mp (by rw [q]; rfl))
  · exact Or.inr (Or.inl (Int32.toInt_inj.mp (by rw [q]; rfl)))
  · exact Or.inr (Or.inr (Or.inl (Int32.toInt_inj.mp (by rw [q]; rfl))))
  · exact Or.inr (Or.inr (Or.inr (Int32.toInt_inj.mp (by rw [q]; rfl))))
theorem own_and7 (a : Int32) : a &&& (7 : Int32) = (0 : Int32) ∨ a &&& (7 : Int32) = (1 : Int32) ∨ a &&& (7 : Int32) = (2 : Int32) ∨ a &&& (7 : Int32) = (3 : Int32) ∨ a &&& (7 : Int32) = (4 : Int32) ∨ a &&& (7 : Int32) = (5 : Int32) ∨ a &&& (7 : Int32) = (6 : Int32) ∨ a &&& (7 : Int32) = (7 : Int32) := by
  have h := c_mask a 7 3 (by decide) (by decide)
  have h1 : (a &&& (7 : Int32)).toInt = 0 ∨ (a &&& (7 : Int32)).toInt = 1 ∨ (a &&& (7 : Int32)).toInt = 2 ∨ (a &&& (7 : Int32)).toInt = 3 ∨ (a &&& (7 : Int32)).toInt = 4 ∨ (a &&& (7 : Int32)).toInt = 5 ∨ (a &&& (7 : Int32)).toInt = 6 ∨ (a &&& (7 : Int32)).toInt = 7 := by omega
  rcases h1 with q | q | q | q | q | q | q | q
  · exact Or.inl (Int32.toInt_inj.mp (by rw [q]; rfl))
  · exact Or.inr (Or.inl (Int32.toInt_inj.mp (by rw [q]; rfl)))
  · exact Or.inr (Or.inr (Or.inl (Int32.toInt_inj.mp (by rw [q]; rfl))))
  · exact Or.inr (Or.inr (Or.inr (Or.inl (Int32.toInt_inj.mp (by rw [q]; rfl)))))
  · exact Or.inr (Or.inr (Or.inr (Or.inr (Or.inl (Int32.toInt_inj.mp (by rw [q]; rfl))))))
  · exact Or.inr (Or.inr (Or.inr (Or.inr (Or.inr (Or.inl (Int32.toInt_inj.mp (by rw [q]; rfl)))))))
  · exact Or.inr (Or.inr (Or.inr (Or.inr (Or.inr (Or.inr (Or.inl (Int32.toInt_inj.mp (by rw [q]; rfl))))))))
  · exact Or.inr (Or.inr (Or.inr (Or.inr (Or.inr (Or.inr (Or.inr (Int32.toInt_inj.mp (by rw [q]; rfl))))))))
theorem own_lt255 (p : Int32) : ¬ ((255 : Int32) < ((p &&& (255 : Int32)).toUInt32.toUInt16.toUInt32.toInt32)) := by
  have h := c_mask p 255 8 (by decide) (by decide)
  have w := c_i2c (p &&& 255)
  have e : (255 : Int32).toInt = 255 := by decide
  rw [Int32.lt_iff_toInt_lt]; omega
theorem own_nz4 (p : Int32) : ((4 : Int32) - (p &&& (3 : Int32))) ≠ (0 : Int32) := by
  intro q
  have h := c_mask p 3 2 (by decide) (by decide)
  have w := c_isub 4 (p &&& 3)
  have e : (4 : Int32).toInt = 4 := by decide
  have e0 : (0 : Int32).toInt = 0 := by decide
  rw [q] at w
  omega
theorem ef_0 (m : MethodId) (x0 : Int32)  : entryFrame m #[(.int x0)] 1 = mkF m 0 #[.val (.int x0)] [] := by first | (simp [entryFrame, mkF, argsToLocals, Value.category]; done) | rfl
theorem pn_0 : plainName "java/lang/StringLatin1" = true := by first | (simp [plainName, overriddenIn]; done) | decide +kernel
theorem d14_0 : decode jdk_43_method_3_code 0 = .ok (.iload_n 0, 1) := by decide +kernel
theorem d14_1 : decode jdk_43_method_3_code 1 = .ok (.sipush 255, 3) := by decide +kernel
theorem d14_4 : decode jdk_43_method_3_code 4 = .ok (.if_icmp .gt 7, 3) := by decide +kernel
theorem d14_11 : decode jdk_43_method_3_code 11 = .ok (.iconst 0, 1) := by decide +kernel
theorem d14_12 : decode jdk_43_method_3_code 12 = .ok (.ireturn, 1) := by decide +kernel
theorem d14_7 : decode jdk_43_method_3_code 7 = .ok (.iconst 1, 1) := by decide +kernel
theorem d14_8 : decode jdk_43_method_3_code 8 = .ok (.goto 4, 3) := by decide +kernel
def Q_canC (Z : State) (c : Int32) (h0 : Heap) (n0 : Nat) (v : Option Value) (h : Heap) (L : List Loc) : Prop := v = some (.int (if (255 : Int32) < c then (0 : Int32) else (1 : Int32))) ∧ Fr n0 L ∧ h = h0
set_option maxRecDepth 65536 in
set_option maxHeartbeats 40000000 in
theorem rm_canC (l : Launch) (Z : State) (a0 : Array Value) (hw : ∀ d ∈ tables_1, d.before a0 Z = true) (ws : List Jvm.Cond) (c : Int32) (h0 : Heap) (n0 : Nat) (O0 : Old Z n0 h0)  :
    MetFree l (⟨"java/lang/StringLatin1", "canEncode", "(C)Z"⟩ : MethodName) (head1 (Jvm.Cond.code (⟨"java/lang/StringLatin1", "canEncode", "(C)Z"⟩ : MethodName) jdk_43_method_3_code 1 (some .boolean) :: ws) ({ frames := 0, cells := 0, slots := 0, locals := 0 } : Room)) (fun aV U => aV = #[(.int c)] ∧ Z.Warmed39 U.vm ∧ U.heap = h0) (fun _ _ _ _ _ => True) (fun _ U o U' => ∃ v L, o = .returned v ∧ Q_canC Z c h0 n0 v U'.heap L ∧ FrameEnd U o U' L ({ frames := 0, cells := 0, slots := 0, locals := 0 } : Room).cells ({ frames := 0, cells := 0, slots := 0, locals := 0 } : Room).slots) := by
  refine MetFree.of_bodySF (plainFor_of_name pn_0) hisR ?_
  intro pr_ en_ st_ me_ args below meth_ co_ s₁ Bd hml0 hP hK
  obtain ⟨rfl, hZ, hh⟩ := hP
  have hx := Bd.exec
  have hby := Bd.bytes
  have hml : co_.maxLocals = 1 := hml0
  have hown : st_.vm.findClass "java/lang/StringLatin1" = some me_.cls := findClass_of_methodNamed Bd.named
  have hnm := (name_of_methodNamed Bd.named Bd.method).1
  have X0 : Stand pr_ l en_ ({ frames := 0, cells := 0, slots := 0, locals := 0 } : Room) st_ me_ #[(.int c)] below meth_ co_ s₁ [] 0 0 := Stand.of_body Bd
  have e0 : s₁.heap = h0 := by rw [← hh, Bd.state]; rfl
  have N0 := Fr.nil n0
  have K0 := Keep.refl h0 []
  obtain ⟨G, gv, gf, gb⟩ := own_G pr_.tables en_ below st_ (Q_canC Z c h0 n0) ({ frames := 0, cells := 0, slots := 0, locals := 0 } : Room).cells ({ frames := 0, cells := 0, slots := 0, locals := 0 } : Room).slots
  show own_Fin pr_.tables en_ below st_ (Q_canC Z c h0 n0) ({ frames := 0, cells := 0, slots := 0, locals := 0 } : Room).cells ({ frames := 0, cells := 0, slots := 0, locals := 0 } : Room).slots (s₁.setTop (entryFrame me_ #[(.int c)] 1))
  refine gb _ (gv (fun tQ kQ => castTop (ef_0 me_ c) kQ) ?_)
  show G (s₁.setTop (mkF me_ 0 #[.val (.int c)] []))
  refine gv (fun tQ kQ => XS.iloadN X0.here hx rfl (hb hby d14_0) rfl kQ) ?_
  show G (s₁.setTop (mkF me_ 1 #[.val (.int c)] [(.int c)]))
  refine gv (fun tQ kQ => XS.sipush X0.here hx rfl (hb hby d14_1) kQ) ?_
  show G (s₁.setTop (mkF me_ 4 #[.val (.int c)] [(.int (255 : Int32)), (.int c)]))
  by_cases hc1 : (255 : Int32) < c
  · refine gv (fun tQ kQ => XS.icmpYes X0.here hx rfl (pc0 := 4) (pc' := 11) rfl (hb hby d14_4) rfl (tlt hc1).2.2.1 (by decide) (by decide) kQ) ?_
    show G (s₁.setTop (mkF me_ 11 #[.val (.int c)] []))
    refine gv (fun tQ kQ => XS.iconst X0.here hx rfl (hb hby d14_11) kQ) ?_
    show G (s₁.setTop (mkF me_ 12 #[.val (.int c)] [(.int (0 : Int32))]))
    refine gf _ (own_ret X0 Bd.notSynchronized (v := some (.int (0 : Int32))) (fun h => by rw [Bd.returns] at h; cases h) ?_ (by decide) (by decide) (fun fs hr => retN X0 hx (t := .boolean) Bd.returns (by simp) (hb hby d14_12) hr))
    show Q_canC Z c h0 n0 _ s₁.heap _
    rw [e0]
    exact ⟨(by rw [if_pos hc1]), N0, rfl⟩
  · refine gv (fun tQ kQ => XS.icmpNo X0.here hx rfl (hb hby d14_4) rfl (flt hc1).2.2.1 kQ) ?_
    show G (s₁.setTop (mkF me_ 7 #[.val (.int c)] []))
    refine gv (fun tQ kQ => XS.iconst X0.here hx rfl (hb hby d14_7) kQ) ?_
    show G (s₁.setTop (mkF me_ 8 #[.val (.int c)] [(.int (1 : Int32))]))
    refine gv (fun tQ kQ => XS.goto X0.here hx rfl (pc0 := 8) (pc' := 12) rfl (hb hby d14_8) (by decide) (by decide) kQ) ?_
    show G (s₁.setTop (mkF me_ 12 #[.val (.int c)] [(.int (1 : Int32))]))
    refine gf _ (own_ret X0 Bd.notSynchronized (v := some (.int (1 : Int32))) (fun h => by rw [Bd.returns] at h; cases h) ?_ (by decide) (by decide) (fun fs hr => retN X0 hx (t := .boolean) Bd.returns (by simp) (hb hby d14_12) hr))
    show Q_canC Z c h0 n0 _ s₁.heap _
    rw [e0]
    exact ⟨(by rw [if_neg hc1]), N0, rfl⟩
theorem d15_0 : decode jdk_43_method_46_code 0 = .ok (.iconst 1, 1) := by decide +kernel
theorem d15_1 : decode jdk_43_method_46_code 1 = .ok (.newarray .byte, 2) := by decide +kernel
theorem d15_3 : decode jdk_43_method_46_code 3 = .ok (.dup, 1) := by decide +kernel
theorem d15_4 : decode jdk_43_method_46_code 4 = .ok (.iconst 0, 1) := by decide +kernel
theorem d15_5 : decode jdk_43_method_46_code 5 = .ok (.iload_n 0, 1) := by decide +kernel
theorem d15_6 : decode jdk_43_method_46_code 6 = .ok (.i2b, 1) := by decide +kernel
theorem d15_7 : decode jdk_43_method_46_code 7 = .ok (.bastore, 1) := by decide +kernel
theorem d15_8 : decode jdk_43_method_46_code 8 = .ok (.areturn, 1) := by decide +kernel
def Q_toB (Z : State) (c : Int32) (h0 : Heap) (n0 : Nat) (v : Option Value) (h : Heap) (L : List Loc) : Prop := ∃ (b : Addr), ∃ (k : ClassId), v = some (.ref b) ∧ Fr n0 L ∧ Keep h0 h [] ∧ h0.size ≤ b ∧ (Arv Z h b k .byte (1 : Int32) [(.int (c.toInt8.toInt32))] (.int (0 : Int32)))
set_option maxRecDepth 65536 in
set_option maxHeartbeats 40000000 in
theorem rm_toB (l : Launch) (Z : State) (a0 : Array Value) (hw : ∀ d ∈ tables_1, d.before a0 Z = true) (ws : List Jvm.Cond) (c : Int32) (h0 : Heap) (n0 : Nat) (O0 : Old Z n0 h0)  :
    MetFree l (⟨"java/lang/StringLatin1", "toBytes", "(C)[B"⟩ : MethodName) (head1 (Jvm.Cond.code (⟨"java/lang/StringLatin1", "toBytes", "(C)[B"⟩ : MethodName) jdk_43_method_46_code 1 (some (.array .byte)) :: ws) ({ frames := 0, cells := 1, slots := 1, locals := 0 } : Room)) (fun aV U => aV = #[(.int c)] ∧ Z.Warmed39 U.vm ∧ U.heap = h0) (fun _ _ _ _ _ => True) (fun _ U o U' => ∃ v L, o = .returned v ∧ Q_toB Z c h0 n0 v U'.heap L ∧ FrameEnd U o U' L ({ frames := 0, cells := 1, slots := 1, locals := 0 } : Room).cells ({ frames := 0, cells := 1, slots := 1, locals := 0 } : Room).slots) := by
  refine MetFree.of_bodySF (plainFor_of_name pn_0) hisR ?_
  intro pr_ en_ st_ me_ args below meth_ co_ s₁ Bd hml0 hP hK
  obtain ⟨rfl, hZ, hh⟩ := hP
  have hx := Bd.exec
  have hby := Bd.bytes
  have hml : co_.maxLocals = 1 := hml0
  have hown : st_.vm.findClass "java/lang/StringLatin1" = some me_.cls := findClass_of_methodNamed Bd.named
  have hnm := (name_of_methodNamed Bd.named Bd.method).1
  have X0 : Stand pr_ l en_ ({ frames := 0, cells := 1, slots := 1, locals := 0 } : Room) st_ me_ #[(.int c)] below meth_ co_ s₁ [] 0 0 := Stand.of_body Bd
  have e0 : s₁.heap = h0 := by rw [← hh, Bd.state]; rfl
  have N0 := Fr.nil n0
  have K0 := Keep.refl h0 []
  obtain ⟨G, gv, gf, gb⟩ := own_G pr_.tables en_ below st_ (Q_toB Z c h0 n0) ({ frames := 0, cells := 1, slots := 1, locals := 0 } : Room).cells ({ frames := 0, cells := 1, slots := 1, locals := 0 } : Room).slots
  show own_Fin pr_.tables en_ below st_ (Q_toB Z c h0 n0) ({ frames := 0, cells := 1, slots := 1, locals := 0 } : Room).cells ({ frames := 0, cells := 1, slots := 1, locals := 0 } : Room).slots (s₁.setTop (entryFrame me_ #[(.int c)] 1))
  refine gb _ (gv (fun tQ kQ => castTop (ef_0 me_ c) kQ) ?_)
  show G (s₁.setTop (mkF me_ 0 #[.val (.int c)] []))
  refine gv (fun tQ kQ => XS.iconst X0.here hx rfl (hb hby d15_0) kQ) ?_
  show G (s₁.setTop (mkF me_ 1 #[.val (.int c)] [(.int (1 : Int32))]))
  obtain ⟨T2, h2, k2, X2, e2, E2, A2, st2⟩ := newP X0 hx hZ (hw _ (List.mem_of_getElem? (i := 19) rfl)) e0 (g := (mkF me_ 1 #[.val (.int c)] [(.int (1 : Int32))])) rfl (hb hby d15_1) rfl (by decide) (cap := 1) (by decide) (by decide) (by decide) (by decide)
  obtain ⟨b2, g2⟩ : ∃ z, z = h0.size := ⟨_, rfl⟩
  rw [← g2] at A2 st2
  refine gv st2 ?_
  have g3 : n0 ≤ b2 := Nat.le_trans (own_old O0) (Nat.le_of_eq g2.symm)
  have z4 : h0.size ≤ b2 := Nat.le_trans K0.1 (Nat.le_of_eq g2.symm)
  have O5 := O0.ext E2
  have K6 := K0.ext E2
  have V2 : Arv Z h2 b2 k2 .byte (1 : Int32) [(.int (0 : Int32))] (.int (0 : Int32)) := (Arv.new A2 (by decide)).pad (pad_rep [] (.int (0 : Int32)) 1)
  show G (T2.setTop (mkF me_ 3 #[.val (.int c)] [(.ref b2)]))
  refine gv (fun tQ kQ => XS.dup X2.here hx rfl (hb hby d15_3) rfl rfl kQ) ?_
  show G (T2.setTop (mkF me_ 4 #[.val (.int c)] [(.ref b2), (.ref b2)]))
  refine gv (fun tQ kQ => XS.iconst X2.here hx rfl (hb hby d15_4) kQ) ?_
  show G (T2.setTop (mkF me_ 5 #[.val (.int c)] [(.int (0 : Int32)), (.ref b2), (.ref b2)]))
  refine gv (fun tQ kQ => XS.iloadN X2.here hx rfl (hb hby d15_5) rfl kQ) ?_
  show G (T2.setTop (mkF me_ 6 #[.val (.int c)] [(.int c), (.int (0 : Int32)), (.ref b2), (.ref b2)]))
  refine gv (fun tQ kQ => XS.i2b X2.here hx rfl (hb hby d15_6) rfl kQ) ?_
  show G (T2.setTop (mkF me_ 7 #[.val (.int c)] [(.int (c.toInt8.toInt32)), (.int (0 : Int32)), (.ref b2), (.ref b2)]))
  obtain ⟨cl7, Ar7, q7, S7, n7, H7, G7⟩ := (id V2)
  have in7 : ¬ ((0 : Int32) < 0 ∨ cl7.slots.size ≤ ((0 : Int32)).toNatClampNeg) := inb_of S7 ⟨by decide, by decide⟩
  obtain ⟨T7, h7, X7, e7, W7, st7⟩ := stB X2 hx hZ e2 Ar7 (j := (0 : Int32)) in7 (g := (mkF me_ 7 #[.val (.int c)] [(.int (c.toInt8.toInt32)), (.int (0 : Int32)), (.ref b2), (.ref b2)])) rfl rfl (hb hby d15_7)
  have W7 : Wr h2 h7 b2 ((0 : Int32)).toNatClampNeg (.int (c.toInt8.toInt32)) := by have z := W7; rw [(own_narB _)] at z; exact z
  refine gv st7 ?_
  have O9 := O5.wr W7 g3
  have K10 := K6.wr W7 (Or.inr z4)
  have N11 := Fr.snoc X7 N0 g3
  have f8 : Arv Z h7 b2 k2 .byte (1 : Int32) [(.int (c.toInt8.toInt32))] (.int (0 : Int32)) := Arv.set Ar7 q7 S7 n7 H7 G7 (fits_nar_byte _) W7 0 rfl (Nat.le_of_ble_eq_true rfl)
  show G (T7.setTop (mkF me_ 8 #[.val (.int c)] [(.ref b2)]))
  refine gf _ (own_ret X7 Bd.notSynchronized (v := some (.ref b2)) (fun h => by rw [Bd.returns] at h; cases h) ?_ (by decide) (by decide) (fun fs hr => retOut X7 hx (t := (.array .byte)) Bd.returns rfl (Or.inr (Or.inr (Or.inr (Or.inr ⟨rfl, rfl, rfl⟩)))) (hb hby d15_8) hr))
  show Q_toB Z c h0 n0 _ T7.heap _
  rw [e7]
  exact ⟨b2, k2, rfl, N11, K10, z4, f8⟩
theorem ef_1 (m : MethodId) (x0 : Addr) (x1 : Addr) (x2 : Int32)  : entryFrame m #[(.ref x0), (.ref x1), (.int x2)] 3 = mkF m 0 #[.val (.ref x0), .val (.ref x1), .val (.int x2)] [] := by first | (simp [entryFrame, mkF, argsToLocals, Value.category]; done) | rfl
theorem pn_1 : plainName "java/lang/String" = true := by first | (simp [plainName, overriddenIn]; done) | decide +kernel
theorem d16_0 : decode jdk_42_method_151_code 0 = .ok (.aload_n 0, 1) := by decide +kernel
theorem d16_1 : decode jdk_42_method_151_code 1 = .ok (.invokespecial 1, 3) := by decide +kernel
theorem d16_4 : decode jdk_42_method_151_code 4 = .ok (.aload_n 0, 1) := by decide +kernel
theorem d16_5 : decode jdk_42_method_151_code 5 = .ok (.aload_n 1, 1) := by decide +kernel
theorem d16_6 : decode jdk_42_method_151_code 6 = .ok (.putfield 9, 3) := by decide +kernel
theorem d16_9 : decode jdk_42_method_151_code 9 = .ok (.aload_n 0, 1) := by decide +kernel
theorem d16_10 : decode jdk_42_method_151_code 10 = .ok (.iload_n 2, 1) := by decide +kernel
theorem d16_11 : decode jdk_42_method_151_code 11 = .ok (.putfield 15, 3) := by decide +kernel
theorem d16_14 : decode jdk_42_method_151_code 14 = .ok (.return_, 1) := by decide +kernel
def Q_sbb0 (Z : State) (a : Addr) (b : Addr) (h0 : Heap) (n0 : Nat) (v : Option Value) (h : Heap) (L : List Loc) : Prop := v = none ∧ Fr n0 L ∧ Keep h0 h [a] ∧ (Exa Z h a "java/lang/String") ∧ (Fld Z h a "java/lang/String" "value" "[B" (.ref b)) ∧ (Fld Z h a "java/lang/String" "coder" "B" (.int (0 : Int32)))
set_option maxRecDepth 65536 in
set_option maxHeartbeats 40000000 in
theorem rm_sbb0 (l : Launch) (Z : State) (a0 : Array Value) (hw : ∀ d ∈ tables_1, d.before a0 Z = true) (ws : List Jvm.Cond) (a : Addr) (b : Addr) (h0 : Heap) (n0 : Nat) (O0 : Old Z n0 h0) (u0 : Exa Z h0 a "java/lang/String") (u1 : Fld Z h0 a "java/lang/String" "value" "[B" .null) (u2 : Fld Z h0 a "java/lang/String" "coder" "B" (.int (0 : Int32))) (u3 : n0 ≤ a) :
    MetFree l (⟨"java/lang/String", "<init>", "([BB)V"⟩ : MethodName) (head1 (Jvm.Cond.code (⟨"java/lang/String", "<init>", "([BB)V"⟩ : MethodName) jdk_42_method_151_code 3 none :: ws) ({ frames := 1, cells := 0, slots := 0, locals := 12 } : Room)) (fun aV U => aV = #[(.ref a), (.ref b), (.int (0 : Int32))] ∧ Z.Warmed39 U.vm ∧ U.heap = h0) (fun _ _ _ _ _ => True) (fun _ U o U' => ∃ v L, o = .returned v ∧ Q_sbb0 Z a b h0 n0 v U'.heap L ∧ FrameEnd U o U' L ({ frames := 1, cells := 0, slots := 0, locals := 12 } : Room).cells ({ frames := 1, cells := 0, slots := 0, locals := 12 } : Room).slots) := by
  refine MetFree.of_bodySF (plainFor_of_name pn_1) hisR ?_
  intro pr_ en_ st_ me_ args below meth_ co_ s₁ Bd hml0 hP hK
  obtain ⟨rfl, hZ, hh⟩ := hP
  have hx := Bd.exec
  have hby := Bd.bytes
  have hml : co_.maxLocals = 3 := hml0
  have hown : st_.vm.findClass "java/lang/String" = some me_.cls := findClass_of_methodNamed Bd.named
  have hnm := (name_of_methodNamed Bd.named Bd.method).1
  have X0 : Stand pr_ l en_ ({ frames := 1, cells := 0, slots := 0, locals := 12 } : Room) st_ me_ #[(.ref a), (.ref b), (.int (0 : Int32))] below meth_ co_ s₁ [] 0 0 := Stand.of_body Bd
  have e0 : s₁.heap = h0 := by rw [← hh, Bd.state]; rfl
  have N0 := Fr.nil n0
  have K0 := Keep.refl h0 [a]
  obtain ⟨G, gv, gf, gb⟩ := own_G pr_.tables en_ below st_ (Q_sbb0 Z a b h0 n0) ({ frames := 1, cells := 0, slots := 0, locals := 12 } : Room).cells ({ frames := 1, cells := 0, slots := 0, locals := 12 } : Room).slots
  show own_Fin pr_.tables en_ below st_ (Q_sbb0 Z a b h0 n0) ({ frames := 1, cells := 0, slots := 0, locals := 12 } : Room).cells ({ frames := 1, cells := 0, slots := 0, locals := 12 } : Room).slots (s₁.setTop (entryFrame me_ #[(.ref a), (.ref b), (.int (0 : Int32))] 3))
  refine gb _ (gv (fun tQ kQ => castTop (ef_1 me_ a b (0 : Int32)) kQ) ?_)
  show G (s₁.setTop (mkF me_ 0 #[.val (.ref a), .val (.ref b), .val (.int (0 : Int32))] []))
  refine gv (fun tQ kQ => XS.aloadN X0.here hx rfl (hb hby d16_0) rfl rfl kQ) ?_
  show G (s₁.setTop (mkF me_ 1 #[.val (.ref a), .val (.ref b), .val (.int (0 : Int32))] [(.ref a)]))
  obtain ⟨T12, X12, e12, st12⟩ := initO X0 hx hZ hown (hw _ (List.mem_of_getElem? (i := 11) rfl)) (hw _ (List.mem_of_getElem? (i := 12) rfl)) (hw _ (List.mem_of_getElem? (i := 13) rfl)) e0 (g := (mkF me_ 1 #[.val (.ref a), .val (.ref b), .val (.int (0 : Int32))] [(.ref a)])) rfl (by rw [hml]; rfl) rfl (hb hby d16_1) (by decide) (W := 0) (by show 2 * 0 + _ ≤ _; exact Nat.le_of_eq rfl) (by decide)
  refine gv st12 ?_
  show G (T12.setTop (mkF me_ 4 #[.val (.ref a), .val (.ref b), .val (.int (0 : Int32))] []))
  refine gv (fun tQ kQ => XS.aloadN X12.here hx rfl (hb hby d16_4) rfl rfl kQ) ?_
  show G (T12.setTop (mkF me_ 5 #[.val (.ref a), .val (.ref b), .val (.int (0 : Int32))] [(.ref a)]))
  refine gv (fun tQ kQ => XS.aloadN X12.here hx rfl (hb hby d16_5) rfl rfl kQ) ?_
  show G (T12.setTop (mkF me_ 6 #[.val (.ref a), .val (.ref b), .val (.int (0 : Int32))] [(.ref b), (.ref a)]))
  obtain ⟨T13, h13, X13, e13, W13, st13⟩ := putF X12 hx hZ hown (host := "") (Or.inl (hw _ (List.mem_of_getElem? (i := 28) rfl))) Via.refl e12 u1 u0 (Or.inr ⟨(hw _ (List.mem_of_getElem? (i := 29) rfl)), rfl, hnm⟩) (hw _ (List.mem_of_getElem? (i := 2) rfl)) (ty := (.array .byte)) (by decide) rfl rfl (g := (mkF me_ 6 #[.val (.ref a), .val (.ref b), .val (.int (0 : Int32))] [(.ref b), (.ref a)])) rfl rfl (hb hby d16_6)
  refine gv st13 ?_
  have f15 : Exa Z h13 a "java/lang/String" := u0.wr W13
  have f16 : Fld Z h13 a "java/lang/String" "coder" "B" (.int (0 : Int32)) := u2.other W13 (Or.inr (slot_ne (Or.inr (hw _ (List.mem_of_getElem? (i := 27) rfl))) (Or.inr (hw _ (List.mem_of_getElem? (i := 29) rfl))) (by decide) (t := .byte) (t' := (.array .byte)) (by decide) (by decide)))
  have O17 := O0.wr W13 u3
  have K18 := K0.wr W13 (Or.inl (List.mem_of_getElem? (i := 0) rfl))
  have N19 := Fr.snoc X13 N0 u3
  have f14 : Fld Z h13 a "java/lang/String" "value" "[B" (.ref b) := u1.same W13
  show G (T13.setTop (mkF me_ 9 #[.val (.ref a), .val (.ref b), .val (.int (0 : Int32))] []))
  refine gv (fun tQ kQ => XS.aloadN X13.here hx rfl (hb hby d16_9) rfl rfl kQ) ?_
  show G (T13.setTop (mkF me_ 10 #[.val (.ref a), .val (.ref b), .val (.int (0 : Int32))] [(.ref a)]))
  refine gv (fun tQ kQ => XS.iloadN X13.here hx rfl (hb hby d16_10) rfl kQ) ?_
  show G (T13.setTop (mkF me_ 11 #[.val (.ref a), .val (.ref b), .val (.int (0 : Int32))] [(.int (0 : Int32)), (.ref a)]))
  obtain ⟨T20, h20, X20, e20, W20, st20⟩ := putFN X13 hx hZ hown (hw _ (List.mem_of_getElem? (i := 26) rfl)) Via.refl e13 f16 f15 (Or.inr ⟨(hw _ (List.mem_of_getElem? (i := 27) rfl)), rfl, hnm⟩) (hw _ (List.mem_of_getElem? (i := 2) rfl)) (ty := .byte) (v' := (.int (0 : Int32))) (by decide) rfl rfl (g := (mkF me_ 11 #[.val (.ref a), .val (.ref b), .val (.int (0 : Int32))] [(.int (0 : Int32)), (.ref a)])) rfl rfl (hb hby d16_11)
  refine gv st20 ?_
  have f22 : Exa Z h20 a "java/lang/String" := f15.wr W20
  have f23 : Fld Z h20 a "java/lang/String" "value" "[B" (.ref b) := f14.other W20 (Or.inr (slot_ne (Or.inr (hw _ (List.mem_of_getElem? (i := 29) rfl))) (Or.inr (hw _ (List.mem_of_getElem? (i := 27) rfl))) (by decide) (t := (.array .byte)) (t' := .byte) (by decide) (by decide)))
  have O24 := O17.wr W20 u3
  have K25 := K18.wr W20 (Or.inl (List.mem_of_getElem? (i := 0) rfl))
  have N26 := Fr.snoc X20 N19 u3
  have f21 : Fld Z h20 a "java/lang/String" "coder" "B" (.int (0 : Int32)) := f16.same W20
  show G (T20.setTop (mkF me_ 14 #[.val (.ref a), .val (.ref b), .val (.int (0 : Int32))] []))
  refine gf _ (own_ret X20 Bd.notSynchronized (v := none) (fun _ => rfl) ?_ (by decide) (by decide) (fun fs hr => X20.returnOut hx Bd.returns (hb hby d16_14) hr))
  show Q_sbb0 Z a b h0 n0 _ T20.heap _
  rw [e20]
  exact ⟨rfl, N26, K25, f22, f23, f21⟩
theorem d13_0 : decode jdk_42_method_139_code 0 = .ok (.getstatic 38, 3) := by decide +kernel
theorem d13_3 : decode jdk_42_method_139_code 3 = .ok (.ifCond .eq 23, 3) := by decide +kernel
theorem d13_6 : decode jdk_42_method_139_code 6 = .ok (.iload_n 0, 1) := by decide +kernel
theorem d13_7 : decode jdk_42_method_139_code 7 = .ok (.invokestatic 1015, 3) := by decide +kernel
theorem pd_0 : parseMethodDescriptor "(C)Z" = some ⟨[.char], some .boolean⟩ := by decide +kernel
theorem d13_10 : decode jdk_42_method_139_code 10 = .ok (.ifCond .eq 16, 3) := by decide +kernel
theorem d13_13 : decode jdk_42_method_139_code 13 = .ok (.new 10, 3) := by decide +kernel
theorem d13_16 : decode jdk_42_method_139_code 16 = .ok (.dup, 1) := by decide +kernel
theorem d13_17 : decode jdk_42_method_139_code 17 = .ok (.iload_n 0, 1) := by decide +kernel
theorem d13_18 : decode jdk_42_method_139_code 18 = .ok (.invokestatic 1018, 3) := by decide +kernel
theorem pd_1 : parseMethodDescriptor "(C)[B" = some ⟨[.char], some (.array .byte)⟩ := by decide +kernel
theorem d13_21 : decode jdk_42_method_139_code 21 = .ok (.iconst 0, 1) := by decide +kernel
theorem d13_22 : decode jdk_42_method_139_code 22 = .ok (.invokespecial 209, 3) := by decide +kernel
theorem pd_2 : parseMethodDescriptor "([BB)V" = some ⟨[(.array .byte), .byte], none⟩ := by decide +kernel
theorem d13_25 : decode jdk_42_method_139_code 25 = .ok (.areturn, 1) := by decide +kernel
def Q_voL (Z : State) (c : Int32) (cs : Int32) (h0 : Heap) (n0 : Nat) (v : Option Value) (h : Heap) (L : List Loc) : Prop := ∃ (s : Addr), ∃ (b : Addr), ∃ (k : ClassId), v = some (.ref s) ∧ Fr n0 L ∧ Keep h0 h [] ∧ h0.size ≤ s ∧ h0.size ≤ b ∧ s ≠ b ∧ (Exa Z h s "java/lang/String") ∧ (Fld Z h s "java/lang/String" "coder" "B" (.int (0 : Int32))) ∧ (Fld Z h s "java/lang/String" "value" "[B" (.ref b)) ∧ (Arv Z h b k .byte (1 : Int32) [(.int (c.toInt8.toInt32))] (.int (0 : Int32)))
set_option maxRecDepth 65536 in
set_option maxHeartbeats 40000000 in
theorem rm_voL (l : Launch) (Z : State) (a0 : Array Value) (hw : ∀ d ∈ tables_1, d.before a0 Z = true) (ws : List Jvm.Cond) (c : Int32) (cs : Int32) (h0 : Heap) (n0 : Nat) (O0 : Old Z n0 h0) (u0 : Sta Z Z.heap "java/lang/String" "COMPACT_STRINGS" "Z" (.int cs)) (u1 : ¬ (cs = (0 : Int32))) (u2 : ¬ ((255 : Int32) < c)) :
    MetFree l (⟨"java/lang/String", "valueOf", "(C)Ljava/lang/String;"⟩ : MethodName) (head1 (Jvm.Cond.code (⟨"java/lang/String", "valueOf", "(C)Ljava/lang/String;"⟩ : MethodName) jdk_42_method_139_code 1 (some (.object "java/lang/String")) :: ws) ({ frames := 2, cells := 2, slots := 5, locals := 27 } : Room)) (fun aV U => aV = #[(.int c)] ∧ Z.Warmed39 U.vm ∧ U.heap = h0) (fun _ _ _ _ _ => True) (fun _ U o U' => ∃ v L, o = .returned v ∧ Q_voL Z c cs h0 n0 v U'.heap L ∧ FrameEnd U o U' L ({ frames := 2, cells := 2, slots := 5, locals := 27 } : Room).cells ({ frames := 2, cells := 2, slots := 5, locals := 27 } : Room).slots) := by
  refine MetFree.of_bodySF (plainFor_of_name pn_1) hisR ?_
  intro pr_ en_ st_ me_ args below meth_ co_ s₁ Bd hml0 hP hK
  obtain ⟨rfl, hZ, hh⟩ := hP
  have hx := Bd.exec
  have hby := Bd.bytes
  have hml : co_.maxLocals = 1 := hml0
  have hown : st_.vm.findClass "java/lang/String" = some me_.cls := findClass_of_methodNamed Bd.named
  have hnm := (name_of_methodNamed Bd.named Bd.method).1
  have X0 : Stand pr_ l en_ ({ frames := 2, cells := 2, slots := 5, locals := 27 } : Room) st_ me_ #[(.int c)] below meth_ co_ s₁ [] 0 0 := Stand.of_body Bd
  have e0 : s₁.heap = h0 := by rw [← hh, Bd.state]; rfl
  have N0 := Fr.nil n0
  have K0 := Keep.refl h0 []
  obtain ⟨G, gv, gf, gb⟩ := own_G pr_.tables en_ below st_ (Q_voL Z c cs h0 n0) ({ frames := 2, cells := 2, slots := 5, locals := 27 } : Room).cells ({ frames := 2, cells := 2, slots := 5, locals := 27 } : Room).slots
  show own_Fin pr_.tables en_ below st_ (Q_voL Z c cs h0 n0) ({ frames := 2, cells := 2, slots := 5, locals := 27 } : Room).cells ({ frames := 2, cells := 2, slots := 5, locals := 27 } : Room).slots (s₁.setTop (entryFrame me_ #[(.int c)] 1))
  refine gb _ (gv (fun tQ kQ => castTop (ef_0 me_ c) kQ) ?_)
  show G (s₁.setTop (mkF me_ 0 #[.val (.int c)] []))
  obtain ⟨T27, X27, e27, st27⟩ := getS2 X0 hx hZ hown (host := "") (Or.inl (hw _ (List.mem_of_getElem? (i := 14) rfl))) Via.refl e0 (u0.ext O0.2) (g := (mkF me_ 0 #[.val (.int c)] [])) rfl (hb hby d13_0)
  refine gv st27 ?_
  show G (T27.setTop (mkF me_ 3 #[.val (.int c)] [(.int cs)]))
  refine gv (fun tQ kQ => XS.ifNo X27.here hx rfl (hb hby d13_3) rfl ((if0 _ _).trans (feq u1).1) kQ) ?_
  show G (T27.setTop (mkF me_ 6 #[.val (.int c)] []))
  refine gv (fun tQ kQ => XS.iloadN X27.here hx rfl (hb hby d13_6) rfl kQ) ?_
  show G (T27.setTop (mkF me_ 7 #[.val (.int c)] [(.int c)]))
  obtain ⟨_, _, ⟨T28, L28, k28, n28⟩, -, X28, ⟨Lc28, hQ28, l28, y28, z28⟩, st28⟩ := Jvm.LawKit.callS X27 hx (y := (⟨"java/lang/StringLatin1", "canEncode", "(C)Z"⟩ : MethodName)) hown (mvT hZ (hw _ (List.mem_of_getElem? (i := 82) rfl))) (mvT hZ (hw _ (List.mem_of_getElem? (i := 83) rfl))) (mvT hZ (hw _ (List.mem_of_getElem? (i := 84) rfl))) (mvT hZ (hw _ (List.mem_of_getElem? (i := 85) rfl))) (by decide) (backOf (W := 0) (rm_canC l Z a0 hw [] c h0 n0 O0 ) hZ (hw _ (List.mem_of_getElem? (i := 85) rfl)) (hw _ (List.mem_of_getElem? (i := 84) rfl)) (by decide) (by decide)) (g := (mkF me_ 7 #[.val (.int c)] [(.int c)])) rfl (by rw [hml]; rfl) (argsL := [(.int c)]) (rest := []) (lenOf pd_0 rfl) rfl (by show 2 * 0 + _ ≤ _; exact Nat.le_of_eq rfl) (hb hby d13_7) (fun _ _ => ⟨rfl, e27, (by decide : 0 + 0 ≤ _), (by decide : 0 + 0 ≤ _)⟩)
  dsimp only [Pt.U, Pt.locs, Pt.cells, Pt.slots] at X28 l28 y28 z28 st28 hQ28
  subst l28 y28 z28
  obtain ⟨rfl, Nq28, eq28⟩ := hQ28
  have N29 := Fr.app N0 Nq28
  rw [if_neg u2] at st28
  refine gv st28 ?_
  show G (T28.setTop (mkF me_ 10 #[.val (.int c)] [(.int (1 : Int32))]))
  refine gv (fun tQ kQ => XS.ifNo X28.here hx rfl (hb hby d13_10) rfl ((if0 _ _).trans (feq (by decide : ¬ ((1 : Int32) = (0 : Int32)))).1) kQ) ?_
  show G (T28.setTop (mkF me_ 13 #[.val (.int c)] []))
  obtain ⟨T30, h30, X30, e30, E30, A30, D30, -, st30⟩ := newO X28 hx hZ hown (hw _ (List.mem_of_getElem? (i := 86) rfl)) (hw _ (List.mem_of_getElem? (i := 2) rfl)) (hw _ (List.mem_of_getElem? (i := 3) rfl)) eq28 (g := (mkF me_ 13 #[.val (.int c)] [])) rfl (hb hby d13_13) (by decide) (by decide)
  obtain ⟨b30, g30⟩ : ∃ z, z = h0.size := ⟨_, rfl⟩
  rw [← g30] at A30 D30 st30
  refine gv st30 ?_
  have g31 : n0 ≤ b30 := Nat.le_trans (own_old O0) (Nat.le_of_eq g30.symm)
  have z32 : h0.size ≤ b30 := Nat.le_trans K0.1 (Nat.le_of_eq g30.symm)
  have O33 := O0.ext E30
  have K34 := K0.ext E30
  have f35 : Fld Z h30 b30 "java/lang/String" "coder" "B" (.int (0 : Int32)) := D30 (Or.inr (hw _ (List.mem_of_getElem? (i := 27) rfl))) (ty := .byte) (by decide)
  have f36 : Fld Z h30 b30 "java/lang/String" "value" "[B" .null := D30 (Or.inr (hw _ (List.mem_of_getElem? (i := 29) rfl))) (ty := (.array .byte)) (by decide)
  show G (T30.setTop (mkF me_ 16 #[.val (.int c)] [(.ref b30)]))
  refine gv (fun tQ kQ => XS.dup X30.here hx rfl (hb hby d13_16) rfl rfl kQ) ?_
  show G (T30.setTop (mkF me_ 17 #[.val (.int c)] [(.ref b30), (.ref b30)]))
  refine gv (fun tQ kQ => XS.iloadN X30.here hx rfl (hb hby d13_17) rfl kQ) ?_
  show G (T30.setTop (mkF me_ 18 #[.val (.int c)] [(.int c), (.ref b30), (.ref b30)]))
  obtain ⟨_, _, ⟨T37, L37, k37, n37⟩, -, X37, ⟨Lc37, hQ37, l37, y37, z37⟩, st37⟩ := Jvm.LawKit.callS X30 hx (y := (⟨"java/lang/StringLatin1", "toBytes", "(C)[B"⟩ : MethodName)) hown (mvT hZ (hw _ (List.mem_of_getElem? (i := 87) rfl))) (mvT hZ (hw _ (List.mem_of_getElem? (i := 88) rfl))) (mvT hZ (hw _ (List.mem_of_getElem? (i := 84) rfl))) (mvT hZ (hw _ (List.mem_of_getElem? (i := 89) rfl))) (by decide) (backOf (W := 2) (rm_toB l Z a0 hw [] c h30 n0 O33 ) hZ (hw _ (List.mem_of_getElem? (i := 89) rfl)) (hw _ (List.mem_of_getElem? (i := 84) rfl)) (by decide) (by decide)) (g := (mkF me_ 18 #[.val (.int c)] [(.int c), (.ref b30), (.ref b30)])) rfl (by rw [hml]; rfl) (argsL := [(.int c)]) (rest := [(.ref b30), (.ref b30)]) (lenOf pd_1 rfl) rfl (by show 2 * 0 + _ ≤ _; exact Nat.le_of_eq rfl) (hb hby d13_18) (fun _ _ => ⟨rfl, e30, (by decide : 1 + 1 ≤ _), (by decide : 4 + 1 ≤ _)⟩)
  dsimp only [Pt.U, Pt.locs, Pt.cells, Pt.slots] at X37 l37 y37 z37 st37 hQ37
  subst l37 y37 z37
  obtain ⟨b_37, k_37, rfl, Nq37, Kq37, w37_0, w37_1⟩ := hQ37
  have N38 := Fr.app N29 Nq37
  obtain ⟨h37, e37⟩ : ∃ z, T37.heap = z := ⟨_, rfl⟩
  rw [e37] at Kq37 w37_1
  have ne39 : b30 ≠ b_37 := Nat.ne_of_lt (Nat.lt_of_lt_of_le A30.lt w37_0)
  have g40 : n0 ≤ b_37 := Nat.le_trans (own_old O33) w37_0
  have z41 : h0.size ≤ b_37 := Nat.le_trans K34.1 w37_0
  have f42 : Exa Z h37 b30 "java/lang/String" := A30.keep Kq37
  have f43 : Fld Z h37 b30 "java/lang/String" "coder" "B" (.int (0 : Int32)) := f35.keep Kq37 nin0
  have f44 : Fld Z h37 b30 "java/lang/String" "value" "[B" .null := f36.keep Kq37 nin0
  have O45 := O33.keep Kq37 all0
  have K46 := K34.trans Kq37 all0
  refine gv st37 ?_
  show G (T37.setTop (mkF me_ 21 #[.val (.int c)] [(.ref b_37), (.ref b30), (.ref b30)]))
  refine gv (fun tQ kQ => XS.iconst X37.here hx rfl (hb hby d13_21) kQ) ?_
  show G (T37.setTop (mkF me_ 22 #[.val (.int c)] [(.int (0 : Int32)), (.ref b_37), (.ref b30), (.ref b30)]))
  obtain ⟨_, _, ⟨T47, L47, k47, n47⟩, -, X47, ⟨Lc47, hQ47, l47, y47, z47⟩, st47⟩ := X37.specialBack hx (y := (⟨"java/lang/String", "<init>", "([BB)V"⟩ : MethodName)) rfl hown (mvT hZ (hw _ (List.mem_of_getElem? (i := 90) rfl))) (mvT hZ (hw _ (List.mem_of_getElem? (i := 91) rfl))) (mvT hZ (hw _ (List.mem_of_getElem? (i := 92) rfl))) (by decide) (backOf (W := 1) (rm_sbb0 l Z a0 hw [] b30 b_37 h37 n0 O45 f42 f44 f43 g31) hZ (hw _ (List.mem_of_getElem? (i := 92) rfl)) (hw _ (List.mem_of_getElem? (i := 3) rfl)) (by decide) (by decide)) (g := (mkF me_ 22 #[.val (.int c)] [(.int (0 : Int32)), (.ref b_37), (.ref b30), (.ref b30)])) rfl (by rw [hml]; rfl) (Steps.refl _) (a := b30) (argsL := [(.ref b_37), (.int (0 : Int32))]) (rest := [(.ref b30)]) (lenOf pd_2 rfl) rfl (by show 2 * 0 + _ ≤ _; exact Nat.le_of_eq rfl) (hb hby d13_22) (fun _ _ => ⟨rfl, e37, (by decide : 2 + 0 ≤ _), (by decide : 5 + 0 ≤ _)⟩)
  dsimp only [Pt.U, Pt.locs, Pt.cells, Pt.slots] at X47 l47 y47 z47 st47 hQ47
  subst l47 y47 z47
  obtain ⟨rfl, Nq47, Kq47, w47_0, w47_1, w47_2⟩ := hQ47
  have N48 := Fr.app N38 Nq47
  obtain ⟨h47, e47⟩ : ∃ z, T47.heap = z := ⟨_, rfl⟩
  rw [e47] at Kq47 w47_0 w47_1 w47_2
  have f49 : Exa Z h47 b30 "java/lang/String" := f42.keep Kq47
  have f50 : Arv Z h47 b_37 k_37 .byte (1 : Int32) [(.int (c.toInt8.toInt32))] (.int (0 : Int32)) := w37_1.keep Kq47 (ninS (Ne.symm ne39) nin0)
  have O51 := O45.keep Kq47 (allS g31 all0)
  have K52 := K46.trans Kq47 (allS (Or.inr z32) all0)
  refine gv (fun tQ kQ => st47.trans kQ) ?_
  show G (T47.setTop (mkF me_ 25 #[.val (.int c)] [(.ref b30)]))
  refine gf _ (own_ret X47 Bd.notSynchronized (v := some (.ref b30)) (fun h => by rw [Bd.returns] at h; cases h) ?_ (by decide) (by decide) (fun fs hr => retOut X47 hx (t := (.object "java/lang/String")) Bd.returns rfl (Or.inr (Or.inr (Or.inr (Or.inr ⟨rfl, rfl, rfl⟩)))) (hb hby d13_25) hr))
  show Q_voL Z c cs h0 n0 _ T47.heap _
  rw [e47]
  exact ⟨b30, b_37, k_37, rfl, N48, K52, z32, z41, ne39, w47_0, w47_2, w47_1, f50⟩
theorem ef_2 (m : MethodId) (x0 : Addr) (x1 : Int32) (x2 : Addr) (x3 : Int32) (x4 : Int32)  : entryFrame m #[(.ref x0), (.int x1), (.ref x2), (.int x3), (.int x4)] 7 = mkF m 0 #[.val (.ref x0), .val (.int x1), .val (.ref x2), .val (.int x3), .val (.int x4), .unset, .unset] [] := by first | (simp [entryFrame, mkF, argsToLocals, Value.category]; done) | rfl
theorem pn_2 : plainName "java/lang/StringUTF16" = true := by first | (simp [plainName, overriddenIn]; done) | decide +kernel
theorem d5_0 : decode jdk_52_method_21_code 0 = .ok (.iconst 0, 1) := by decide +kernel
theorem d5_1 : decode jdk_52_method_21_code 1 = .ok (.istore 5, 2) := by decide +kernel
theorem d5_3 : decode jdk_52_method_21_code 3 = .ok (.iload 5, 2) := by decide +kernel
theorem d5_5 : decode jdk_52_method_21_code 5 = .ok (.iload 4, 2) := by decide +kernel
theorem d5_7 : decode jdk_52_method_21_code 7 = .ok (.if_icmp .ge 37, 3) := by decide +kernel
theorem d5_10 : decode jdk_52_method_21_code 10 = .ok (.aload_n 0, 1) := by decide +kernel
theorem d5_11 : decode jdk_52_method_21_code 11 = .ok (.iload_n 1, 1) := by decide +kernel
theorem d5_12 : decode jdk_52_method_21_code 12 = .ok (.caload, 1) := by decide +kernel
theorem d5_13 : decode jdk_52_method_21_code 13 = .ok (.istore 6, 2) := by decide +kernel
theorem d5_15 : decode jdk_52_method_21_code 15 = .ok (.iload 6, 2) := by decide +kernel
theorem d5_17 : decode jdk_52_method_21_code 17 = .ok (.sipush 255, 3) := by decide +kernel
theorem d5_20 : decode jdk_52_method_21_code 20 = .ok (.if_icmp .le 6, 3) := by decide +kernel
theorem d5_26 : decode jdk_52_method_21_code 26 = .ok (.aload_n 2, 1) := by decide +kernel
theorem d5_27 : decode jdk_52_method_21_code 27 = .ok (.iload_n 3, 1) := by decide +kernel
theorem d5_28 : decode jdk_52_method_21_code 28 = .ok (.iload 6, 2) := by decide +kernel
theorem d5_30 : decode jdk_52_method_21_code 30 = .ok (.i2b, 1) := by decide +kernel
theorem d5_31 : decode jdk_52_method_21_code 31 = .ok (.bastore, 1) := by decide +kernel
theorem d5_32 : decode jdk_52_method_21_code 32 = .ok (.iinc 1 1, 3) := by decide +kernel
theorem d5_35 : decode jdk_52_method_21_code 35 = .ok (.iinc 3 1, 3) := by decide +kernel
theorem d5_38 : decode jdk_52_method_21_code 38 = .ok (.iinc 5 1, 3) := by decide +kernel
theorem d5_41 : decode jdk_52_method_21_code 41 = .ok (.goto (-38), 3) := by decide +kernel
theorem d5_44 : decode jdk_52_method_21_code 44 = .ok (.iload 4, 2) := by decide +kernel
theorem d5_46 : decode jdk_52_method_21_code 46 = .ok (.ireturn, 1) := by decide +kernel
def Q_cmp2 (Z : State) (d : Addr) (kd : ClassId) (b : Addr) (k : ClassId) (c0 : Int32) (c1 : Int32) (h0 : Heap) (n0 : Nat) (v : Option Value) (h : Heap) (L : List Loc) : Prop := v = some (.int (2 : Int32)) ∧ Fr n0 L ∧ Keep h0 h [b] ∧ (Arv Z h b k .byte (2 : Int32) [(.int (c0.toInt8.toInt32)), (.int (c1.toInt8.toInt32))] (.int (0 : Int32)))
set_option maxRecDepth 65536 in
set_option maxHeartbeats 40000000 in
theorem rm_cmp2 (l : Launch) (Z : State) (a0 : Array Value) (hw : ∀ d ∈ tables_1, d.before a0 Z = true) (ws : List Jvm.Cond) (d : Addr) (kd : ClassId) (b : Addr) (k : ClassId) (c0 : Int32) (c1 : Int32) (h0 : Heap) (n0 : Nat) (O0 : Old Z n0 h0) (u0 : ¬ ((255 : Int32) < c0)) (u1 : ¬ ((255 : Int32) < c1)) (u2 : Arv Z h0 d kd .char (2 : Int32) [(.int c0), (.int c1)] (.int (0 : Int32))) (u3 : Arv Z h0 b k .byte (2 : Int32) [(.int (0 : Int32)), (.int (0 : Int32))] (.int (0 : Int32))) (u4 : n0 ≤ b) (u5 : d ≠ b) :
    MetFree l (⟨"java/lang/StringUTF16", "compress", "([CI[BII)I"⟩ : MethodName) (head1 (Jvm.Cond.code (⟨"java/lang/StringUTF16", "compress", "([CI[BII)I"⟩ : MethodName) jdk_52_method_21_code 7 (some .int) :: ws) ({ frames := 0, cells := 0, slots := 0, locals := 0 } : Room)) (fun aV U => aV = #[(.ref d), (.int (0 : Int32)), (.ref b), (.int (0 : Int32)), (.int (2 : Int32))] ∧ Z.Warmed39 U.vm ∧ U.heap = h0) (fun _ _ _ _ _ => True) (fun _ U o U' => ∃ v L, o = .returned v ∧ Q_cmp2 Z d kd b k c0 c1 h0 n0 v U'.heap L ∧ FrameEnd U o U' L ({ frames := 0, cells := 0, slots := 0, locals := 0 } : Room).cells ({ frames := 0, cells := 0, slots := 0, locals := 0 } : Room).slots) := by
  refine MetFree.of_bodySF (plainFor_of_name pn_2) hisR ?_
  intro pr_ en_ st_ me_ args below meth_ co_ s₁ Bd hml0 hP hK
  obtain ⟨rfl, hZ, hh⟩ := hP
  have hx := Bd.exec
  have hby := Bd.bytes
  have hml : co_.maxLocals = 7 := hml0
  have hown : st_.vm.findClass "java/lang/StringUTF16" = some me_.cls := findClass_of_methodNamed Bd.named
  have hnm := (name_of_methodNamed Bd.named Bd.method).1
  have X0 : Stand pr_ l en_ ({ frames := 0, cells := 0, slots := 0, locals := 0 } : Room) st_ me_ #[(.ref d), (.int (0 : Int32)), (.ref b), (.int (0 : Int32)), (.int (2 : Int32))] below meth_ co_ s₁ [] 0 0 := Stand.of_body Bd
  have e0 : s₁.heap = h0 := by rw [← hh, Bd.state]; rfl
  have N0 := Fr.nil n0
  have K0 := Keep.refl h0 [b]
  obtain ⟨G, gv, gf, gb⟩ := own_G pr_.tables en_ below st_ (Q_cmp2 Z d kd b k c0 c1 h0 n0) ({ frames := 0, cells := 0, slots := 0, locals := 0 } : Room).cells ({ frames := 0, cells := 0, slots := 0, locals := 0 } : Room).slots
  show own_Fin pr_.tables en_ below st_ (Q_cmp2 Z d kd b k c0 c1 h0 n0) ({ frames := 0, cells := 0, slots := 0, locals := 0 } : Room).cells ({ frames := 0, cells := 0, slots := 0, locals := 0 } : Room).slots (s₁.setTop (entryFrame me_ #[(.ref d), (.int (0 : Int32)), (.ref b), (.int (0 : Int32)), (.int (2 : Int32))] 7))
  refine gb _ (gv (fun tQ kQ => castTop (ef_2 me_ d (0 : Int32) b (0 : Int32) (2 : Int32)) kQ) ?_)
  show G (s₁.setTop (mkF me_ 0 #[.val (.ref d), .val (.int (0 : Int32)), .val (.ref b), .val (.int (0 : Int32)), .val (.int (2 : Int32)), .unset, .unset] []))
  refine gv (fun tQ kQ => XS.iconst X0.here hx rfl (hb hby d5_0) kQ) ?_
  show G (s₁.setTop (mkF me_ 1 #[.val (.ref d), .val (.int (0 : Int32)), .val (.ref b), .val (.int (0 : Int32)), .val (.int (2 : Int32)), .unset, .unset] [(.int (0 : Int32))]))
  refine gv (fun tQ kQ => XS.istore X0.here hx rfl (hb hby d5_1) rfl (l' := #[.val (.ref d), .val (.int (0 : Int32)), .val (.ref b), .val (.int (0 : Int32)), .val (.int (2 : Int32)), .val (.int (0 : Int32)), .unset]) rfl kQ) ?_
  show G (s₁.setTop (mkF me_ 3 #[.val (.ref d), .val (.int (0 : Int32)), .val (.ref b), .val (.int (0 : Int32)), .val (.int (2 : Int32)), .val (.int (0 : Int32)), .unset] []))
  refine gv (fun tQ kQ => XS.iload X0.here hx rfl (hb hby d5_3) rfl kQ) ?_
  show G (s₁.setTop (mkF me_ 5 #[.val (.ref d), .val (.int (0 : Int32)), .val (.ref b), .val (.int (0 : Int32)), .val (.int (2 : Int32)), .val (.int (0 : Int32)), .unset] [(.int (0 : Int32))]))
  refine gv (fun tQ kQ => XS.iload X0.here hx rfl (hb hby d5_5) rfl kQ) ?_
  show G (s₁.setTop (mkF me_ 7 #[.val (.ref d), .val (.int (0 : Int32)), .val (.ref b), .val (.int (0 : Int32)), .val (.int (2 : Int32)), .val (.int (0 : Int32)), .unset] [(.int (2 : Int32)), (.int (0 : Int32))]))
  refine gv (fun tQ kQ => XS.icmpNo X0.here hx rfl (hb hby d5_7) rfl (tlt (by decide : (0 : Int32) < (2 : Int32))).2.1 kQ) ?_
  show G (s₁.setTop (mkF me_ 10 #[.val (.ref d), .val (.int (0 : Int32)), .val (.ref b), .val (.int (0 : Int32)), .val (.int (2 : Int32)), .val (.int (0 : Int32)), .unset] []))
  refine gv (fun tQ kQ => XS.aloadN X0.here hx rfl (hb hby d5_10) rfl rfl kQ) ?_
  show G (s₁.setTop (mkF me_ 11 #[.val (.ref d), .val (.int (0 : Int32)), .val (.ref b), .val (.int (0 : Int32)), .val (.int (2 : Int32)), .val (.int (0 : Int32)), .unset] [(.ref d)]))
  refine gv (fun tQ kQ => XS.iloadN X0.here hx rfl (hb hby d5_11) rfl kQ) ?_
  show G (s₁.setTop (mkF me_ 12 #[.val (.ref d), .val (.int (0 : Int32)), .val (.ref b), .val (.int (0 : Int32)), .val (.int (2 : Int32)), .val (.int (0 : Int32)), .unset] [(.int (0 : Int32)), (.ref d)]))
  obtain ⟨cl53, Ar53, q53, S53, n53, H53, G53⟩ := (id u2)
  have in53 : ¬ ((0 : Int32) < 0 ∨ cl53.slots.size ≤ ((0 : Int32)).toNatClampNeg) := inb_of S53 ⟨by decide, by decide⟩
  refine gv (X0.caload hx (j := (0 : Int32)) (v := (.int c0)) (by rw [e0]; exact Ar53.1) (State.isArrayOf_alike hZ.alike Ar53.2.1) Ar53.2.2 in53 (Has.at H53 in53 rfl) (g := (mkF me_ 12 #[.val (.ref d), .val (.int (0 : Int32)), .val (.ref b), .val (.int (0 : Int32)), .val (.int (2 : Int32)), .val (.int (0 : Int32)), .unset] [(.int (0 : Int32)), (.ref d)])) rfl rfl (hb hby d5_12)) ?_
  show G (s₁.setTop (mkF me_ 13 #[.val (.ref d), .val (.int (0 : Int32)), .val (.ref b), .val (.int (0 : Int32)), .val (.int (2 : Int32)), .val (.int (0 : Int32)), .unset] [(.int c0)]))
  refine gv (fun tQ kQ => XS.istore X0.here hx rfl (hb hby d5_13) rfl (l' := #[.val (.ref d), .val (.int (0 : Int32)), .val (.ref b), .val (.int (0 : Int32)), .val (.int (2 : Int32)), .val (.int (0 : Int32)), .val (.int c0)]) rfl kQ) ?_
  show G (s₁.setTop (mkF me_ 15 #[.val (.ref d), .val (.int (0 : Int32)), .val (.ref b), .val (.int (0 : Int32)), .val (.int (2 : Int32)), .val (.int (0 : Int32)), .val (.int c0)] []))
  refine gv (fun tQ kQ => XS.iload X0.here hx rfl (hb hby d5_15) rfl kQ) ?_
  show G (s₁.setTop (mkF me_ 17 #[.val (.ref d), .val (.int (0 : Int32)), .val (.ref b), .val (.int (0 : Int32)), .val (.int (2 : Int32)), .val (.int (0 : Int32)), .val (.int c0)] [(.int c0)]))
  refine gv (fun tQ kQ => XS.sipush X0.here hx rfl (hb hby d5_17) kQ) ?_
  show G (s₁.setTop (mkF me_ 20 #[.val (.ref d), .val (.int (0 : Int32)), .val (.ref b), .val (.int (0 : Int32)), .val (.int (2 : Int32)), .val (.int (0 : Int32)), .val (.int c0)] [(.int (255 : Int32)), (.int c0)]))
  refine gv (fun tQ kQ => XS.icmpYes X0.here hx rfl (pc0 := 20) (pc' := 26) rfl (hb hby d5_20) rfl (flt u0).2.2.2 (by decide) (by decide) kQ) ?_
  show G (s₁.setTop (mkF me_ 26 #[.val (.ref d), .val (.int (0 : Int32)), .val (.ref b), .val (.int (0 : Int32)), .val (.int (2 : Int32)), .val (.int (0 : Int32)), .val (.int c0)] []))
  refine gv (fun tQ kQ => XS.aloadN X0.here hx rfl (hb hby d5_26) rfl rfl kQ) ?_
  show G (s₁.setTop (mkF me_ 27 #[.val (.ref d), .val (.int (0 : Int32)), .val (.ref b), .val (.int (0 : Int32)), .val (.int (2 : Int32)), .val (.int (0 : Int32)), .val (.int c0)] [(.ref b)]))
  refine gv (fun tQ kQ => XS.iloadN X0.here hx rfl (hb hby d5_27) rfl kQ) ?_
  show G (s₁.setTop (mkF me_ 28 #[.val (.ref d), .val (.int (0 : Int32)), .val (.ref b), .val (.int (0 : Int32)), .val (.int (2 : Int32)), .val (.int (0 : Int32)), .val (.int c0)] [(.int (0 : Int32)), (.ref b)]))
  refine gv (fun tQ kQ => XS.iload X0.here hx rfl (hb hby d5_28) rfl kQ) ?_
  show G (s₁.setTop (mkF me_ 30 #[.val (.ref d), .val (.int (0 : Int32)), .val (.ref b), .val (.int (0 : Int32)), .val (.int (2 : Int32)), .val (.int (0 : Int32)), .val (.int c0)] [(.int c0), (.int (0 : Int32)), (.ref b)]))
  refine gv (fun tQ kQ => XS.i2b X0.here hx rfl (hb hby d5_30) rfl kQ) ?_
  show G (s₁.setTop (mkF me_ 31 #[.val (.ref d), .val (.int (0 : Int32)), .val (.ref b), .val (.int (0 : Int32)), .val (.int (2 : Int32)), .val (.int (0 : Int32)), .val (.int c0)] [(.int (c0.toInt8.toInt32)), (.int (0 : Int32)), (.ref b)]))
  obtain ⟨cl54, Ar54, q54, S54, n54, H54, G54⟩ := (id u3)
  have in54 : ¬ ((0 : Int32) < 0 ∨ cl54.slots.size ≤ ((0 : Int32)).toNatClampNeg) := inb_of S54 ⟨by decide, by decide⟩
  obtain ⟨T54, h54, X54, e54, W54, st54⟩ := stB X0 hx hZ e0 Ar54 (j := (0 : Int32)) in54 (g := (mkF me_ 31 #[.val (.ref d), .val (.int (0 : Int32)), .val (.ref b), .val (.int (0 : Int32)), .val (.int (2 : Int32)), .val (.int (0 : Int32)), .val (.int c0)] [(.int (c0.toInt8.toInt32)), (.int (0 : Int32)), (.ref b)])) rfl rfl (hb hby d5_31)
  have W54 : Wr h0 h54 b ((0 : Int32)).toNatClampNeg (.int (c0.toInt8.toInt32)) := by have z := W54; rw [(own_narB _)] at z; exact z
  refine gv st54 ?_
  have f56 : Arv Z h54 d kd .char (2 : Int32) [(.int c0), (.int c1)] (.int (0 : Int32)) := u2.other W54 u5
  have O57 := O0.wr W54 u4
  have K58 := K0.wr W54 (Or.inl (List.mem_of_getElem? (i := 0) rfl))
  have N59 := Fr.snoc X54 N0 u4
  have f55 : Arv Z h54 b k .byte (2 : Int32) [(.int (c0.toInt8.toInt32)), (.int (0 : Int32))] (.int (0 : Int32)) := Arv.set Ar54 q54 S54 n54 H54 G54 (fits_nar_byte _) W54 0 rfl (Nat.le_of_ble_eq_true rfl)
  show G (T54.setTop (mkF me_ 32 #[.val (.ref d), .val (.int (0 : Int32)), .val (.ref b), .val (.int (0 : Int32)), .val (.int (2 : Int32)), .val (.int (0 : Int32)), .val (.int c0)] []))
  refine gv (fun tQ kQ => XS.iinc X54.here hx rfl (hb hby d5_32) rfl (l' := #[.val (.ref d), .val (.int ((0 : Int32) + (1 : Int32))), .val (.ref b), .val (.int (0 : Int32)), .val (.int (2 : Int32)), .val (.int (0 : Int32)), .val (.int c0)]) rfl kQ) ?_
  show G (T54.setTop (mkF me_ 35 #[.val (.ref d), .val (.int ((0 : Int32) + (1 : Int32))), .val (.ref b), .val (.int (0 : Int32)), .val (.int (2 : Int32)), .val (.int (0 : Int32)), .val (.int c0)] []))
  rw [(by decide : ((0 : Int32) + (1 : Int32)) = (1 : Int32))]
  show G (T54.setTop (mkF me_ 35 #[.val (.ref d), .val (.int (1 : Int32)), .val (.ref b), .val (.int (0 : Int32)), .val (.int (2 : Int32)), .val (.int (0 : Int32)), .val (.int c0)] []))
  refine gv (fun tQ kQ => XS.iinc X54.here hx rfl (hb hby d5_35) rfl (l' := #[.val (.ref d), .val (.int (1 : Int32)), .val (.ref b), .val (.int ((0 : Int32) + (1 : Int32))), .val (.int (2 : Int32)), .val (.int (0 : Int32)), .val (.int c0)]) rfl kQ) ?_
  show G (T54.setTop (mkF me_ 38 #[.val (.ref d), .val (.int (1 : Int32)), .val (.ref b), .val (.int ((0 : Int32) + (1 : Int32))), .val (.int (2 : Int32)), .val (.int (0 : Int32)), .val (.int c0)] []))
  rw [(by decide : ((0 : Int32) + (1 : Int32)) = (1 : Int32))]
  show G (T54.setTop (mkF me_ 38 #[.val (.ref d), .val (.int (1 : Int32)), .val (.ref b), .val (.int (1 : Int32)), .val (.int (2 : Int32)), .val (.int (0 : Int32)), .val (.int c0)] []))
  refine gv (fun tQ kQ => XS.iinc X54.here hx rfl (hb hby d5_38) rfl (l' := #[.val (.ref d), .val (.int (1 : Int32)), .val (.ref b), .val (.int (1 : Int32)), .val (.int (2 : Int32)), .val (.int ((0 : Int32) + (1 : Int32))), .val (.int c0)]) rfl kQ) ?_
  show G (T54.setTop (mkF me_ 41 #[.val (.ref d), .val (.int (1 : Int32)), .val (.ref b), .val (.int (1 : Int32)), .val (.int (2 : Int32)), .val (.int ((0 : Int32) + (1 : Int32))), .val (.int c0)] []))
  rw [(by decide : ((0 : Int32) + (1 : Int32)) = (1 : Int32))]
  show G (T54.setTop (mkF me_ 41 #[.val (.ref d), .val (.int (1 : Int32)), .val (.ref b), .val (.int (1 : Int32)), .val (.int (2 : Int32)), .val (.int (1 : Int32)), .val (.int c0)] []))
  refine gv (fun tQ kQ => XS.goto X54.here hx rfl (pc0 := 41) (pc' := 3) rfl (hb hby d5_41) (by decide) (by decide) kQ) ?_
  show G (T54.setTop (mkF me_ 3 #[.val (.ref d), .val (.int (1 : Int32)), .val (.ref b), .val (.int (1 : Int32)), .val (.int (2 : Int32)), .val (.int (1 : Int32)), .val (.int c0)] []))
  refine gv (fun tQ kQ => XS.iload X54.here hx rfl (hb hby d5_3) rfl kQ) ?_
  show G (T54.setTop (mkF me_ 5 #[.val (.ref d), .val (.int (1 : Int32)), .val (.ref b), .val (.int (1 : Int32)), .val (.int (2 : Int32)), .val (.int (1 : Int32)), .val (.int c0)] [(.int (1 : Int32))]))
  refine gv (fun tQ kQ => XS.iload X54.here hx rfl (hb hby d5_5) rfl kQ) ?_
  show G (T54.setTop (mkF me_ 7 #[.val (.ref d), .val (.int (1 : Int32)), .val (.ref b), .val (.int (1 : Int32)), .val (.int (2 : Int32)), .val (.int (1 : Int32)), .val (.int c0)] [(.int (2 : Int32)), (.int (1 : Int32))]))
  refine gv (fun tQ kQ => XS.icmpNo X54.here hx rfl (hb hby d5_7) rfl (tlt (by decide : (1 : Int32) < (2 : Int32))).2.1 kQ) ?_
  show G (T54.setTop (mkF me_ 10 #[.val (.ref d), .val (.int (1 : Int32)), .val (.ref b), .val (.int (1 : Int32)), .val (.int (2 : Int32)), .val (.int (1 : Int32)), .val (.int c0)] []))
  refine gv (fun tQ kQ => XS.aloadN X54.here hx rfl (hb hby d5_10) rfl rfl kQ) ?_
  show G (T54.setTop (mkF me_ 11 #[.val (.ref d), .val (.int (1 : Int32)), .val (.ref b), .val (.int (1 : Int32)), .val (.int (2 : Int32)), .val (.int (1 : Int32)), .val (.int c0)] [(.ref d)]))
  refine gv (fun tQ kQ => XS.iloadN X54.here hx rfl (hb hby d5_11) rfl kQ) ?_
  show G (T54.setTop (mkF me_ 12 #[.val (.ref d), .val (.int (1 : Int32)), .val (.ref b), .val (.int (1 : Int32)), .val (.int (2 : Int32)), .val (.int (1 : Int32)), .val (.int c0)] [(.int (1 : Int32)), (.ref d)]))
  obtain ⟨cl60, Ar60, q60, S60, n60, H60, G60⟩ := (id f56)
  have in60 : ¬ ((1 : Int32) < 0 ∨ cl60.slots.size ≤ ((1 : Int32)).toNatClampNeg) := inb_of S60 ⟨by decide, by decide⟩
  refine gv (X54.caload hx (j := (1 : Int32)) (v := (.int c1)) (by rw [e54]; exact Ar60.1) (State.isArrayOf_alike hZ.alike Ar60.2.1) Ar60.2.2 in60 (Has.at H60 in60 rfl) (g := (mkF me_ 12 #[.val (.ref d), .val (.int (1 : Int32)), .val (.ref b), .val (.int (1 : Int32)), .val (.int (2 : Int32)), .val (.int (1 : Int32)), .val (.int c0)] [(.int (1 : Int32)), (.ref d)])) rfl rfl (hb hby d5_12)) ?_
  show G (T54.setTop (mkF me_ 13 #[.val (.ref d), .val (.int (1 : Int32)), .val (.ref b), .val (.int (1 : Int32)), .val (.int (2 : Int32)), .val (.int (1 : Int32)), .val (.int c0)] [(.int c1)]))
  refine gv (fun tQ kQ => XS.istore X54.here hx rfl (hb hby d5_13) rfl (l' := #[.val (.ref d), .val (.int (1 : Int32)), .val (.ref b), .val (.int (1 : Int32)), .val (.int (2 : Int32)), .val (.int (1 : Int32)), .val (.int c1)]) rfl kQ) ?_
  show G (T54.setTop (mkF me_ 15 #[.val (.ref d), .val (.int (1 : Int32)), .val (.ref b), .val (.int (1 : Int32)), .val (.int (2 : Int32)), .val (.int (1 : Int32)), .val (.int c1)] []))
  refine gv (fun tQ kQ => XS.iload X54.here hx rfl (hb hby d5_15) rfl kQ) ?_
  show G (T54.setTop (mkF me_ 17 #[.val (.ref d), .val (.int (1 : Int32)), .val (.ref b), .val (.int (1 : Int32)), .val (.int (2 : Int32)), .val (.int (1 : Int32)), .val (.int c1)] [(.int c1)]))
  refine gv (fun tQ kQ => XS.sipush X54.here hx rfl (hb hby d5_17) kQ) ?_
  show G (T54.setTop (mkF me_ 20 #[.val (.ref d), .val (.int (1 : Int32)), .val (.ref b), .val (.int (1 : Int32)), .val (.int (2 : Int32)), .val (.int (1 : Int32)), .val (.int c1)] [(.int (255 : Int32)), (.int c1)]))
  refine gv (fun tQ kQ => XS.icmpYes X54.here hx rfl (pc0 := 20) (pc' := 26) rfl (hb hby d5_20) rfl (flt u1).2.2.2 (by decide) (by decide) kQ) ?_
  show G (T54.setTop (mkF me_ 26 #[.val (.ref d), .val (.int (1 : Int32)), .val (.ref b), .val (.int (1 : Int32)), .val (.int (2 : Int32)), .val (.int (1 : Int32)), .val (.int c1)] []))
  refine gv (fun tQ kQ => XS.aloadN X54.here hx rfl (hb hby d5_26) rfl rfl kQ) ?_
  show G (T54.setTop (mkF me_ 27 #[.val (.ref d), .val (.int (1 : Int32)), .val (.ref b), .val (.int (1 : Int32)), .val (.int (2 : Int32)), .val (.int (1 : Int32)), .val (.int c1)] [(.ref b)]))
  refine gv (fun tQ kQ => XS.iloadN X54.here hx rfl (hb hby d5_27) rfl kQ) ?_
  show G (T54.setTop (mkF me_ 28 #[.val (.ref d), .val (.int (1 : Int32)), .val (.ref b), .val (.int (1 : Int32)), .val (.int (2 : Int32)), .val (.int (1 : Int32)), .val (.int c1)] [(.int (1 : Int32)), (.ref b)]))
  refine gv (fun tQ kQ => XS.iload X54.here hx rfl (hb hby d5_28) rfl kQ) ?_
  show G (T54.setTop (mkF me_ 30 #[.val (.ref d), .val (.int (1 : Int32)), .val (.ref b), .val (.int (1 : Int32)), .val (.int (2 : Int32)), .val (.int (1 : Int32)), .val (.int c1)] [(.int c1), (.int (1 : Int32)), (.ref b)]))
  refine gv (fun tQ kQ => XS.i2b X54.here hx rfl (hb hby d5_30) rfl kQ) ?_
  show G (T54.setTop (mkF me_ 31 #[.val (.ref d), .val (.int (1 : Int32)), .val (.ref b), .val (.int (1 : Int32)), .val (.int (2 : Int32)), .val (.int (1 : Int32)), .val (.int c1)] [(.int (c1.toInt8.toInt32)), (.int (1 : Int32)), (.ref b)]))
  obtain ⟨cl61, Ar61, q61, S61, n61, H61, G61⟩ := (id f55)
  have in61 : ¬ ((1 : Int32) < 0 ∨ cl61.slots.size ≤ ((1 : Int32)).toNatClampNeg) := inb_of S61 ⟨by decide, by decide⟩
  obtain ⟨T61, h61, X61, e61, W61, st61⟩ := stB X54 hx hZ e54 Ar61 (j := (1 : Int32)) in61 (g := (mkF me_ 31 #[.val (.ref d), .val (.int (1 : Int32)), .val (.ref b), .val (.int (1 : Int32)), .val (.int (2 : Int32)), .val (.int (1 : Int32)), .val (.int c1)] [(.int (c1.toInt8.toInt32)), (.int (1 : Int32)), (.ref b)])) rfl rfl (hb hby d5_31)
  have W61 : Wr h54 h61 b ((1 : Int32)).toNatClampNeg (.int (c1.toInt8.toInt32)) := by have z := W61; rw [(own_narB _)] at z; exact z
  refine gv st61 ?_
  have f63 : Arv Z h61 d kd .char (2 : Int32) [(.int c0), (.int c1)] (.int (0 : Int32)) := f56.other W61 u5
  have O64 := O57.wr W61 u4
  have K65 := K58.wr W61 (Or.inl (List.mem_of_getElem? (i := 0) rfl))
  have N66 := Fr.snoc X61 N59 u4
  have f62 : Arv Z h61 b k .byte (2 : Int32) [(.int (c0.toInt8.toInt32)), (.int (c1.toInt8.toInt32))] (.int (0 : Int32)) := Arv.set Ar61 q61 S61 n61 H61 G61 (fits_nar_byte _) W61 1 rfl (Nat.le_of_ble_eq_true rfl)
  show G (T61.setTop (mkF me_ 32 #[.val (.ref d), .val (.int (1 : Int32)), .val (.ref b), .val (.int (1 : Int32)), .val (.int (2 : Int32)), .val (.int (1 : Int32)), .val (.int c1)] []))
  refine gv (fun tQ kQ => XS.iinc X61.here hx rfl (hb hby d5_32) rfl (l' := #[.val (.ref d), .val (.int ((1 : Int32) + (1 : Int32))), .val (.ref b), .val (.int (1 : Int32)), .val (.int (2 : Int32)), .val (.int (1 : Int32)), .val (.int c1)]) rfl kQ) ?_
  show G (T61.setTop (mkF me_ 35 #[.val (.ref d), .val (.int ((1 : Int32) + (1 : Int32))), .val (.ref b), .val (.int (1 : Int32)), .val (.int (2 : Int32)), .val (.int (1 : Int32)), .val (.int c1)] []))
  rw [(by decide : ((1 : Int32) + (1 : Int32)) = (2 : Int32))]
  show G (T61.setTop (mkF me_ 35 #[.val (.ref d), .val (.int (2 : Int32)), .val (.ref b), .val (.int (1 : Int32)), .val (.int (2 : Int32)), .val (.int (1 : Int32)), .val (.int c1)] []))
  refine gv (fun tQ kQ => XS.iinc X61.here hx rfl (hb hby d5_35) rfl (l' := #[.val (.ref d), .val (.int (2 : Int32)), .val (.ref b), .val (.int ((1 : Int32) + (1 : Int32))), .val (.int (2 : Int32)), .val (.int (1 : Int32)), .val (.int c1)]) rfl kQ) ?_
  show G (T61.setTop (mkF me_ 38 #[.val (.ref d), .val (.int (2 : Int32)), .val (.ref b), .val (.int ((1 : Int32) + (1 : Int32))), .val (.int (2 : Int32)), .val (.int (1 : Int32)), .val (.int c1)] []))
  rw [(by decide : ((1 : Int32) + (1 : Int32)) = (2 : Int32))]
  show G (T61.setTop (mkF me_ 38 #[.val (.ref d), .val (.int (2 : Int32)), .val (.ref b), .val (.int (2 : Int32)), .val (.int (2 : Int32)), .val (.int (1 : Int32)), .val (.int c1)] []))
  refine gv (fun tQ kQ => XS.iinc X61.here hx rfl (hb hby d5_38) rfl (l' := #[.val (.ref d), .val (.int (2 : Int32)), .val (.ref b), .val (.int (2 : Int32)), .val (.int (2 : Int32)), .val (.int ((1 : Int32) + (1 : Int32))), .val (.int c1)]) rfl kQ) ?_
  show G (T61.setTop (mkF me_ 41 #[.val (.ref d), .val (.int (2 : Int32)), .val (.ref b), .val (.int (2 : Int32)), .val (.int (2 : Int32)), .val (.int ((1 : Int32) + (1 : Int32))), .val (.int c1)] []))
  rw [(by decide : ((1 : Int32) + (1 : Int32)) = (2 : Int32))]
  show G (T61.setTop (mkF me_ 41 #[.val (.ref d), .val (.int (2 : Int32)), .val (.ref b), .val (.int (2 : Int32)), .val (.int (2 : Int32)), .val (.int (2 : Int32)), .val (.int c1)] []))
  refine gv (fun tQ kQ => XS.goto X61.here hx rfl (pc0 := 41) (pc' := 3) rfl (hb hby d5_41) (by decide) (by decide) kQ) ?_
  show G (T61.setTop (mkF me_ 3 #[.val (.ref d), .val (.int (2 : Int32)), .val (.ref b), .val (.int (2 : Int32)), .val (.int (2 : Int32)), .val (.int (2 : Int32)), .val (.int c1)] []))
  refine gv (fun tQ kQ => XS.iload X61.here hx rfl (hb hby d5_3) rfl kQ) ?_
  show G (T61.setTop (mkF me_ 5 #[.val (.ref d), .val (.int (2 : Int32)), .val (.ref b), .val (.int (2 : Int32)), .val (.int (2 : Int32)), .val (.int (2 : Int32)), .val (.int c1)] [(.int (2 : Int32))]))
  refine gv (fun tQ kQ => XS.iload X61.here hx rfl (hb hby d5_5) rfl kQ) ?_
  show G (T61.setTop (mkF me_ 7 #[.val (.ref d), .val (.int (2 : Int32)), .val (.ref b), .val (.int (2 : Int32)), .val (.int (2 : Int32)), .val (.int (2 : Int32)), .val (.int c1)] [(.int (2 : Int32)), (.int (2 : Int32))]))
  refine gv (fun tQ kQ => XS.icmpYes X61.here hx rfl (pc0 := 7) (pc' := 44) rfl (hb hby d5_7) rfl (flt (by decide : ¬ ((2 : Int32) < (2 : Int32)))).2.1 (by decide) (by decide) kQ) ?_
  show G (T61.setTop (mkF me_ 44 #[.val (.ref d), .val (.int (2 : Int32)), .val (.ref b), .val (.int (2 : Int32)), .val (.int (2 : Int32)), .val (.int (2 : Int32)), .val (.int c1)] []))
  refine gv (fun tQ kQ => XS.iload X61.here hx rfl (hb hby d5_44) rfl kQ) ?_
  show G (T61.setTop (mkF me_ 46 #[.val (.ref d), .val (.int (2 : Int32)), .val (.ref b), .val (.int (2 : Int32)), .val (.int (2 : Int32)), .val (.int (2 : Int32)), .val (.int c1)] [(.int (2 : Int32))]))
  refine gf _ (own_ret X61 Bd.notSynchronized (v := some (.int (2 : Int32))) (fun h => by rw [Bd.returns] at h; cases h) ?_ (by decide) (by decide) (fun fs hr => retOut X61 hx (t := .int) Bd.returns rfl (Or.inl ⟨rfl, Or.inl rfl, _, rfl⟩) (hb hby d5_46) hr))
  show Q_cmp2 Z d kd b k c0 c1 h0 n0 _ T61.heap _
  rw [e61]
  exact ⟨rfl, N66, K65, f62⟩
theorem ef_3 (m : MethodId) (x0 : Addr) (x1 : Int32) (x2 : Int32)  : entryFrame m #[(.ref x0), (.int x1), (.int x2)] 6 = mkF m 0 #[.val (.ref x0), .val (.int x1), .val (.int x2), .unset, .unset, .unset] [] := by first | (simp [entryFrame, mkF, argsToLocals, Value.category]; done) | rfl
theorem d4_0 : decode jdk_52_method_16_code 0 = .ok (.iload_n 2, 1) := by decide +kernel
theorem d4_1 : decode jdk_52_method_16_code 1 = .ok (.newarray .byte, 2) := by decide +kernel
theorem d4_3 : decode jdk_52_method_16_code 3 = .ok (.astore_n 3, 1) := by decide +kernel
theorem d4_4 : decode jdk_52_method_16_code 4 = .ok (.aload_n 0, 1) := by decide +kernel
theorem d4_5 : decode jdk_52_method_16_code 5 = .ok (.iload_n 1, 1) := by decide +kernel
theorem d4_6 : decode jdk_52_method_16_code 6 = .ok (.aload_n 3, 1) := by decide +kernel
theorem d4_7 : decode jdk_52_method_16_code 7 = .ok (.iconst 0, 1) := by decide +kernel
theorem d4_8 : decode jdk_52_method_16_code 8 = .ok (.iload_n 2, 1) := by decide +kernel
theorem d4_9 : decode jdk_52_method_16_code 9 = .ok (.invokestatic 115, 3) := by decide +kernel
theorem pd_3 : parseMethodDescriptor "([CI[BII)I" = some ⟨[(.array .char), .int, (.array .byte), .int, .int], some .int⟩ := by decide +kernel
theorem d4_12 : decode jdk_52_method_16_code 12 = .ok (.istore 4, 2) := by decide +kernel
theorem d4_14 : decode jdk_52_method_16_code 14 = .ok (.iload 4, 2) := by decide +kernel
theorem d4_16 : decode jdk_52_method_16_code 16 = .ok (.iload_n 2, 1) := by decide +kernel
theorem d4_17 : decode jdk_52_method_16_code 17 = .ok (.if_icmp .eq 40, 3) := by decide +kernel
theorem d4_57 : decode jdk_52_method_16_code 57 = .ok (.aload_n 3, 1) := by decide +kernel
theorem d4_58 : decode jdk_52_method_16_code 58 = .ok (.areturn, 1) := by decide +kernel
def Q_cmpr2 (Z : State) (d : Addr) (kd : ClassId) (c0 : Int32) (c1 : Int32) (h0 : Heap) (n0 : Nat) (v : Option Value) (h : Heap) (L : List Loc) : Prop := ∃ (b : Addr), ∃ (k : ClassId), v = some (.ref b) ∧ Fr n0 L ∧ Keep h0 h [] ∧ h0.size ≤ b ∧ (Arv Z h b k .byte (2 : Int32) [(.int (c0.toInt8.toInt32)), (.int (c1.toInt8.toInt32))] (.int (0 : Int32)))
set_option maxRecDepth 65536 in
set_option maxHeartbeats 40000000 in
theorem rm_cmpr2 (l : Launch) (Z : State) (a0 : Array Value) (hw : ∀ d ∈ tables_1, d.before a0 Z = true) (ws : List Jvm.Cond) (d : Addr) (kd : ClassId) (c0 : Int32) (c1 : Int32) (h0 : Heap) (n0 : Nat) (O0 : Old Z n0 h0) (u0 : ¬ ((255 : Int32) < c0)) (u1 : ¬ ((255 : Int32) < c1)) (u2 : Arv Z h0 d kd .char (2 : Int32) [(.int c0), (.int c1)] (.int (0 : Int32))) :
    MetFree l (⟨"java/lang/StringUTF16", "compress", "([CII)[B"⟩ : MethodName) (head1 (Jvm.Cond.code (⟨"java/lang/StringUTF16", "compress", "([CII)[B"⟩ : MethodName) jdk_52_method_16_code 6 (some (.array .byte)) :: ws) ({ frames := 1, cells := 1, slots := 2, locals := 18 } : Room)) (fun aV U => aV = #[(.ref d), (.int (0 : Int32)), (.int (2 : Int32))] ∧ Z.Warmed39 U.vm ∧ U.heap = h0) (fun _ _ _ _ _ => True) (fun _ U o U' => ∃ v L, o = .returned v ∧ Q_cmpr2 Z d kd c0 c1 h0 n0 v U'.heap L ∧ FrameEnd U o U' L ({ frames := 1, cells := 1, slots := 2, locals := 18 } : Room).cells ({ frames := 1, cells := 1, slots := 2, locals := 18 } : Room).slots) := by
  refine MetFree.of_bodySF (plainFor_of_name pn_2) hisR ?_
  intro pr_ en_ st_ me_ args below meth_ co_ s₁ Bd hml0 hP hK
  obtain ⟨rfl, hZ, hh⟩ := hP
  have hx := Bd.exec
  have hby := Bd.bytes
  have hml : co_.maxLocals = 6 := hml0
  have hown : st_.vm.findClass "java/lang/StringUTF16" = some me_.cls := findClass_of_methodNamed Bd.named
  have hnm := (name_of_methodNamed Bd.named Bd.method).1
  have X0 : Stand pr_ l en_ ({ frames := 1, cells := 1, slots := 2, locals := 18 } : Room) st_ me_ #[(.ref d), (.int (0 : Int32)), (.int (2 : Int32))] below meth_ co_ s₁ [] 0 0 := Stand.of_body Bd
  have e0 : s₁.heap = h0 := by rw [← hh, Bd.state]; rfl
  have N0 := Fr.nil n0
  have K0 := Keep.refl h0 []
  obtain ⟨G, gv, gf, gb⟩ := own_G pr_.tables en_ below st_ (Q_cmpr2 Z d kd c0 c1 h0 n0) ({ frames := 1, cells := 1, slots := 2, locals := 18 } : Room).cells ({ frames := 1, cells := 1, slots := 2, locals := 18 } : Room).slots
  show own_Fin pr_.tables en_ below st_ (Q_cmpr2 Z d kd c0 c1 h0 n0) ({ frames := 1, cells := 1, slots := 2, locals := 18 } : Room).cells ({ frames := 1, cells := 1, slots := 2, locals := 18 } : Room).slots (s₁.setTop (entryFrame me_ #[(.ref d), (.int (0 : Int32)), (.int (2 : Int32))] 6))
  refine gb _ (gv (fun tQ kQ => castTop (ef_3 me_ d (0 : Int32) (2 : Int32)) kQ) ?_)
  show G (s₁.setTop (mkF me_ 0 #[.val (.ref d), .val (.int (0 : Int32)), .val (.int (2 : Int32)), .unset, .unset, .unset] []))
  refine gv (fun tQ kQ => XS.iloadN X0.here hx rfl (hb hby d4_0) rfl kQ) ?_
  show G (s₁.setTop (mkF me_ 1 #[.val (.ref d), .val (.int (0 : Int32)), .val (.int (2 : Int32)), .unset, .unset, .unset] [(.int (2 : Int32))]))
  obtain ⟨T67, h67, k67, X67, e67, E67, A67, st67⟩ := newP X0 hx hZ (hw _ (List.mem_of_getElem? (i := 19) rfl)) e0 (g := (mkF me_ 1 #[.val (.ref d), .val (.int (0 : Int32)), .val (.int (2 : Int32)), .unset, .unset, .unset] [(.int (2 : Int32))])) rfl (hb hby d4_1) rfl (by decide) (cap := 2) (by decide) (by decide) (by decide) (by decide)
  obtain ⟨b67, g67⟩ : ∃ z, z = h0.size := ⟨_, rfl⟩
  rw [← g67] at A67 st67
  refine gv st67 ?_
  have ne68 : d ≠ b67 := Nat.ne_of_lt (Nat.lt_of_lt_of_le u2.lt (Nat.le_of_eq g67.symm))
  have g69 : n0 ≤ b67 := Nat.le_trans (own_old O0) (Nat.le_of_eq g67.symm)
  have z70 : h0.size ≤ b67 := Nat.le_trans K0.1 (Nat.le_of_eq g67.symm)
  have f71 : Arv Z h67 d kd .char (2 : Int32) [(.int c0), (.int c1)] (.int (0 : Int32)) := u2.ext E67
  have O72 := O0.ext E67
  have K73 := K0.ext E67
  have V67 : Arv Z h67 b67 k67 .byte (2 : Int32) [(.int (0 : Int32)), (.int (0 : Int32))] (.int (0 : Int32)) := (Arv.new A67 (by decide)).pad (pad_rep [] (.int (0 : Int32)) 2)
  show G (T67.setTop (mkF me_ 3 #[.val (.ref d), .val (.int (0 : Int32)), .val (.int (2 : Int32)), .unset, .unset, .unset] [(.ref b67)]))
  refine gv (fun tQ kQ => XS.astoreN X67.here hx rfl (hb hby d4_3) rfl rfl (l' := #[.val (.ref d), .val (.int (0 : Int32)), .val (.int (2 : Int32)), .val (.ref b67), .unset, .unset]) rfl kQ) ?_
  show G (T67.setTop (mkF me_ 4 #[.val (.ref d), .val (.int (0 : Int32)), .val (.int (2 : Int32)), .val (.ref b67), .unset, .unset] []))
  refine gv (fun tQ kQ => XS.aloadN X67.here hx rfl (hb hby d4_4) rfl rfl kQ) ?_
  show G (T67.setTop (mkF me_ 5 #[.val (.ref d), .val (.int (0 : Int32)), .val (.int (2 : Int32)), .val (.ref b67), .unset, .unset] [(.ref d)]))
  refine gv (fun tQ kQ => XS.iloadN X67.here hx rfl (hb hby d4_5) rfl kQ) ?_
  show G (T67.setTop (mkF me_ 6 #[.val (.ref d), .val (.int (0 : Int32)), .val (.int (2 : Int32)), .val (.ref b67), .unset, .unset] [(.int (0 : Int32)), (.ref d)]))
  refine gv (fun tQ kQ => XS.aloadN X67.here hx rfl (hb hby d4_6) rfl rfl kQ) ?_
  show G (T67.setTop (mkF me_ 7 #[.val (.ref d), .val (.int (0 : Int32)), .val (.int (2 : Int32)), .val (.ref b67), .unset, .unset] [(.ref b67), (.int (0 : Int32)), (.ref d)]))
  refine gv (fun tQ kQ => XS.iconst X67.here hx rfl (hb hby d4_7) kQ) ?_
  show G (T67.setTop (mkF me_ 8 #[.val (.ref d), .val (.int (0 : Int32)), .val (.int (2 : Int32)), .val (.ref b67), .unset, .unset] [(.int (0 : Int32)), (.ref b67), (.int (0 : Int32)), (.ref d)]))
  refine gv (fun tQ kQ => XS.iloadN X67.here hx rfl (hb hby d4_8) rfl kQ) ?_
  show G (T67.setTop (mkF me_ 9 #[.val (.ref d), .val (.int (0 : Int32)), .val (.int (2 : Int32)), .val (.ref b67), .unset, .unset] [(.int (2 : Int32)), (.int (0 : Int32)), (.ref b67), (.int (0 : Int32)), (.ref d)]))
  obtain ⟨_, _, ⟨T74, L74, k74, n74⟩, -, X74, ⟨Lc74, hQ74, l74, y74, z74⟩, st74⟩ := Jvm.LawKit.callS X67 hx (y := (⟨"java/lang/StringUTF16", "compress", "([CI[BII)I"⟩ : MethodName)) hown (mvT hZ (hw _ (List.mem_of_getElem? (i := 20) rfl))) (mvT hZ (hw _ (List.mem_of_getElem? (i := 21) rfl))) (mvT hZ (hw _ (List.mem_of_getElem? (i := 17) rfl))) (mvT hZ (hw _ (List.mem_of_getElem? (i := 22) rfl))) (by decide) (backOf (W := 0) (rm_cmp2 l Z a0 hw [] d kd b67 k67 c0 c1 h67 n0 O72 u0 u1 f71 V67 g69 ne68) hZ (hw _ (List.mem_of_getElem? (i := 22) rfl)) (hw _ (List.mem_of_getElem? (i := 17) rfl)) (by decide) (by decide)) (g := (mkF me_ 9 #[.val (.ref d), .val (.int (0 : Int32)), .val (.int (2 : Int32)), .val (.ref b67), .unset, .unset] [(.int (2 : Int32)), (.int (0 : Int32)), (.ref b67), (.int (0 : Int32)), (.ref d)])) rfl (by rw [hml]; rfl) (argsL := [(.ref d), (.int (0 : Int32)), (.ref b67), (.int (0 : Int32)), (.int (2 : Int32))]) (rest := []) (lenOf pd_3 rfl) rfl (by show 2 * 0 + _ ≤ _; exact Nat.le_of_eq rfl) (hb hby d4_9) (fun _ _ => ⟨rfl, e67, (by decide : 1 + 0 ≤ _), (by decide : 2 + 0 ≤ _)⟩)
  dsimp only [Pt.U, Pt.locs, Pt.cells, Pt.slots] at X74 l74 y74 z74 st74 hQ74
  subst l74 y74 z74
  obtain ⟨rfl, Nq74, Kq74, w74_0⟩ := hQ74
  have N75 := Fr.app N0 Nq74
  obtain ⟨h74, e74⟩ : ∃ z, T74.heap = z := ⟨_, rfl⟩
  rw [e74] at Kq74 w74_0
  have f76 : Arv Z h74 d kd .char (2 : Int32) [(.int c0), (.int c1)] (.int (0 : Int32)) := f71.keep Kq74 (ninS ne68 nin0)
  have O77 := O72.keep Kq74 (allS g69 all0)
  have K78 := K73.trans Kq74 (allS (Or.inr z70) all0)
  refine gv st74 ?_
  show G (T74.setTop (mkF me_ 12 #[.val (.ref d), .val (.int (0 : Int32)), .val (.int (2 : Int32)), .val (.ref b67), .unset, .unset] [(.int (2 : Int32))]))
  refine gv (fun tQ kQ => XS.istore X74.here hx rfl (hb hby d4_12) rfl (l' := #[.val (.ref d), .val (.int (0 : Int32)), .val (.int (2 : Int32)), .val (.ref b67), .val (.int (2 : Int32)), .unset]) rfl kQ) ?_
  show G (T74.setTop (mkF me_ 14 #[.val (.ref d), .val (.int (0 : Int32)), .val (.int (2 : Int32)), .val (.ref b67), .val (.int (2 : Int32)), .unset] []))
  refine gv (fun tQ kQ => XS.iload X74.here hx rfl (hb hby d4_14) rfl kQ) ?_
  show G (T74.setTop (mkF me_ 16 #[.val (.ref d), .val (.int (0 : Int32)), .val (.int (2 : Int32)), .val (.ref b67), .val (.int (2 : Int32)), .unset] [(.int (2 : Int32))]))
  refine gv (fun tQ kQ => XS.iloadN X74.here hx rfl (hb hby d4_16) rfl kQ) ?_
  show G (T74.setTop (mkF me_ 17 #[.val (.ref d), .val (.int (0 : Int32)), .val (.int (2 : Int32)), .val (.ref b67), .val (.int (2 : Int32)), .unset] [(.int (2 : Int32)), (.int (2 : Int32))]))
  refine gv (fun tQ kQ => XS.icmpYes X74.here hx rfl (pc0 := 17) (pc' := 57) rfl (hb hby d4_17) rfl (teq (by decide : (2 : Int32) = (2 : Int32))).1 (by decide) (by decide) kQ) ?_
  show G (T74.setTop (mkF me_ 57 #[.val (.ref d), .val (.int (0 : Int32)), .val (.int (2 : Int32)), .val (.ref b67), .val (.int (2 : Int32)), .unset] []))
  refine gv (fun tQ kQ => XS.aloadN X74.here hx rfl (hb hby d4_57) rfl rfl kQ) ?_
  show G (T74.setTop (mkF me_ 58 #[.val (.ref d), .val (.int (0 : Int32)), .val (.int (2 : Int32)), .val (.ref b67), .val (.int (2 : Int32)), .unset] [(.ref b67)]))
  refine gf _ (own_ret X74 Bd.notSynchronized (v := some (.ref b67)) (fun h => by rw [Bd.returns] at h; cases h) ?_ (by decide) (by decide) (fun fs hr => retOut X74 hx (t := (.array .byte)) Bd.returns rfl (Or.inr (Or.inr (Or.inr (Or.inr ⟨rfl, rfl, rfl⟩)))) (hb hby d4_58) hr))
  show Q_cmpr2 Z d kd c0 c1 h0 n0 _ T74.heap _
  rw [e74]
  exact ⟨b67, k67, rfl, N75, K78, z70, w74_0⟩
theorem ef_4 (m : MethodId) (x0 : Addr) (x1 : Int32)  : entryFrame m #[(.ref x0), (.int x1)] 2 = mkF m 0 #[.val (.ref x0), .val (.int x1)] [] := by first | (simp [entryFrame, mkF, argsToLocals, Value.category]; done) | rfl
theorem d6_0 : decode jdk_52_method_15_code 0 = .ok (.iload_n 1, 1) := by decide +kernel
theorem d6_1 : decode jdk_52_method_15_code 1 = .ok (.aload_n 0, 1) := by decide +kernel
theorem d6_2 : decode jdk_52_method_15_code 2 = .ok (.arraylength, 1) := by decide +kernel
theorem d6_3 : decode jdk_52_method_15_code 3 = .ok (.isub, 1) := by decide +kernel
theorem d6_4 : decode jdk_52_method_15_code 4 = .ok (.bipush 31, 2) := by decide +kernel
theorem d6_6 : decode jdk_52_method_15_code 6 = .ok (.iushr, 1) := by decide +kernel
theorem d6_7 : decode jdk_52_method_15_code 7 = .ok (.i2b, 1) := by decide +kernel
theorem d6_8 : decode jdk_52_method_15_code 8 = .ok (.ireturn, 1) := by decide +kernel
def Q_cfal2 (Z : State) (b : Addr) (k : ClassId) (x0 : Int32) (x1 : Int32) (h0 : Heap) (n0 : Nat) (v : Option Value) (h : Heap) (L : List Loc) : Prop := v = some (.int (0 : Int32)) ∧ Fr n0 L ∧ h = h0
set_option maxRecDepth 65536 in
set_option maxHeartbeats 40000000 in
theorem rm_cfal2 (l : Launch) (Z : State) (a0 : Array Value) (hw : ∀ d ∈ tables_1, d.before a0 Z = true) (ws : List Jvm.Cond) (b : Addr) (k : ClassId) (x0 : Int32) (x1 : Int32) (h0 : Heap) (n0 : Nat) (O0 : Old Z n0 h0) (u0 : Arv Z h0 b k .byte (2 : Int32) [(.int x0), (.int x1)] (.int (0 : Int32))) :
    MetFree l (⟨"java/lang/StringUTF16", "coderFromArrayLen", "([BI)B"⟩ : MethodName) (head1 (Jvm.Cond.code (⟨"java/lang/StringUTF16", "coderFromArrayLen", "([BI)B"⟩ : MethodName) jdk_52_method_15_code 2 (some .byte) :: ws) ({ frames := 0, cells := 0, slots := 0, locals := 0 } : Room)) (fun aV U => aV = #[(.ref b), (.int (2 : Int32))] ∧ Z.Warmed39 U.vm ∧ U.heap = h0) (fun _ _ _ _ _ => True) (fun _ U o U' => ∃ v L, o = .returned v ∧ Q_cfal2 Z b k x0 x1 h0 n0 v U'.heap L ∧ FrameEnd U o U' L ({ frames := 0, cells := 0, slots := 0, locals := 0 } : Room).cells ({ frames := 0, cells := 0, slots := 0, locals := 0 } : Room).slots) := by
  refine MetFree.of_bodySF (plainFor_of_name pn_2) hisR ?_
  intro pr_ en_ st_ me_ args below meth_ co_ s₁ Bd hml0 hP hK
  obtain ⟨rfl, hZ, hh⟩ := hP
  have hx := Bd.exec
  have hby := Bd.bytes
  have hml : co_.maxLocals = 2 := hml0
  have hown : st_.vm.findClass "java/lang/StringUTF16" = some me_.cls := findClass_of_methodNamed Bd.named
  have hnm := (name_of_methodNamed Bd.named Bd.method).1
  have X0 : Stand pr_ l en_ ({ frames := 0, cells := 0, slots := 0, locals := 0 } : Room) st_ me_ #[(.ref b), (.int (2 : Int32))] below meth_ co_ s₁ [] 0 0 := Stand.of_body Bd
  have e0 : s₁.heap = h0 := by rw [← hh, Bd.state]; rfl
  have N0 := Fr.nil n0
  have K0 := Keep.refl h0 []
  obtain ⟨G, gv, gf, gb⟩ := own_G pr_.tables en_ below st_ (Q_cfal2 Z b k x0 x1 h0 n0) ({ frames := 0, cells := 0, slots := 0, locals := 0 } : Room).cells ({ frames := 0, cells := 0, slots := 0, locals := 0 } : Room).slots
  show own_Fin pr_.tables en_ below st_ (Q_cfal2 Z b k x0 x1 h0 n0) ({ frames := 0, cells := 0, slots := 0, locals := 0 } : Room).cells ({ frames := 0, cells := 0, slots := 0, locals := 0 } : Room).slots (s₁.setTop (entryFrame me_ #[(.ref b), (.int (2 : Int32))] 2))
  refine gb _ (gv (fun tQ kQ => castTop (ef_4 me_ b (2 : Int32)) kQ) ?_)
  show G (s₁.setTop (mkF me_ 0 #[.val (.ref b), .val (.int (2 : Int32))] []))
  refine gv (fun tQ kQ => XS.iloadN X0.here hx rfl (hb hby d6_0) rfl kQ) ?_
  show G (s₁.setTop (mkF me_ 1 #[.val (.ref b), .val (.int (2 : Int32))] [(.int (2 : Int32))]))
  refine gv (fun tQ kQ => XS.aloadN X0.here hx rfl (hb hby d6_1) rfl rfl kQ) ?_
  show G (s₁.setTop (mkF me_ 2 #[.val (.ref b), .val (.int (2 : Int32))] [(.ref b), (.int (2 : Int32))]))
  obtain ⟨cl79, Ar79, -, S79, n79, -, -⟩ := (id u0)
  refine gv (X0.arraylength hx (by rw [e0]; exact Ar79.1) (State.isArrayOf_alike hZ.alike Ar79.2.1) (g := (mkF me_ 2 #[.val (.ref b), .val (.int (2 : Int32))] [(.ref b), (.int (2 : Int32))])) rfl rfl (hb hby d6_2)) ?_
  rw [len_of S79 n79]
  show G (s₁.setTop (mkF me_ 3 #[.val (.ref b), .val (.int (2 : Int32))] [(.int (2 : Int32)), (.int (2 : Int32))]))
  refine gv (fun tQ kQ => XS.isub X0.here hx rfl (hb hby d6_3) rfl kQ) ?_
  show G (s₁.setTop (mkF me_ 4 #[.val (.ref b), .val (.int (2 : Int32))] [(.int ((2 : Int32) - (2 : Int32)))]))
  rw [(by decide : ((2 : Int32) - (2 : Int32)) = (0 : Int32))]
  show G (s₁.setTop (mkF me_ 4 #[.val (.ref b), .val (.int (2 : Int32))] [(.int (0 : Int32))]))
  refine gv (fun tQ kQ => XS.bipush X0.here hx rfl (hb hby d6_4) kQ) ?_
  show G (s₁.setTop (mkF me_ 6 #[.val (.ref b), .val (.int (2 : Int32))] [(.int (31 : Int32)), (.int (0 : Int32))]))
  refine gv (fun tQ kQ => XS.iushr X0.here hx rfl (hb hby d6_6) rfl kQ) ?_
  show G (s₁.setTop (mkF me_ 7 #[.val (.ref b), .val (.int (2 : Int32))] [(.int (((0 : Int32).toUInt32 >>> ((31 : Int32) &&& 31).toUInt32).toInt32))]))
  rw [(by decide : (((0 : Int32).toUInt32 >>> ((31 : Int32) &&& 31).toUInt32).toInt32) = (0 : Int32))]
  show G (s₁.setTop (mkF me_ 7 #[.val (.ref b), .val (.int (2 : Int32))] [(.int (0 : Int32))]))
  refine gv (fun tQ kQ => XS.i2b X0.here hx rfl (hb hby d6_7) rfl kQ) ?_
  show G (s₁.setTop (mkF me_ 8 #[.val (.ref b), .val (.int (2 : Int32))] [(.int ((0 : Int32).toInt8.toInt32))]))
  rw [(by decide : ((0 : Int32).toInt8.toInt32) = (0 : Int32))]
  show G (s₁.setTop (mkF me_ 8 #[.val (.ref b), .val (.int (2 : Int32))] [(.int (0 : Int32))]))
  refine gf _ (own_ret X0 Bd.notSynchronized (v := some (.int (0 : Int32))) (fun h => by rw [Bd.returns] at h; cases h) ?_ (by decide) (by decide) (fun fs hr => retN X0 hx (t := .byte) Bd.returns (by simp) (hb hby d6_8) hr))
  show Q_cfal2 Z b k x0 x1 h0 n0 _ s₁.heap _
  rw [e0]
  exact ⟨rfl, N0, rfl⟩
theorem ef_5 (m : MethodId) (x0 : Addr) (x1 : Addr) (x2 : Int32) (x3 : Int32)  : entryFrame m #[(.ref x0), (.ref x1), (.int x2), (.int x3), .null] 6 = mkF m 0 #[.val (.ref x0), .val (.ref x1), .val (.int x2), .val (.int x3), .val .null, .unset] [] := by first | (simp [entryFrame, mkF, argsToLocals, Value.category]; done) | rfl
theorem d2_0 : decode jdk_42_method_149_code 0 = .ok (.aload_n 0, 1) := by decide +kernel
theorem d2_1 : decode jdk_42_method_149_code 1 = .ok (.invokespecial 1, 3) := by decide +kernel
theorem d2_4 : decode jdk_42_method_149_code 4 = .ok (.iload_n 3, 1) := by decide +kernel
theorem d2_5 : decode jdk_42_method_149_code 5 = .ok (.ifCond .ne 22, 3) := by decide +kernel
theorem d2_27 : decode jdk_42_method_149_code 27 = .ok (.getstatic 38, 3) := by decide +kernel
theorem d2_30 : decode jdk_42_method_149_code 30 = .ok (.ifCond .eq 28, 3) := by decide +kernel
theorem d2_33 : decode jdk_42_method_149_code 33 = .ok (.aload_n 1, 1) := by decide +kernel
theorem d2_34 : decode jdk_42_method_149_code 34 = .ok (.iload_n 2, 1) := by decide +kernel
theorem d2_35 : decode jdk_42_method_149_code 35 = .ok (.iload_n 3, 1) := by decide +kernel
theorem d2_36 : decode jdk_42_method_149_code 36 = .ok (.invokestatic 177, 3) := by decide +kernel
theorem pd_4 : parseMethodDescriptor "([CII)[B" = some ⟨[(.array .char), .int, .int], some (.array .byte)⟩ := by decide +kernel
theorem d2_39 : decode jdk_42_method_149_code 39 = .ok (.astore 5, 2) := by decide +kernel
theorem d2_41 : decode jdk_42_method_149_code 41 = .ok (.aload_n 0, 1) := by decide +kernel
theorem d2_42 : decode jdk_42_method_149_code 42 = .ok (.aload 5, 2) := by decide +kernel
theorem d2_44 : decode jdk_42_method_149_code 44 = .ok (.iload_n 3, 1) := by decide +kernel
theorem d2_45 : decode jdk_42_method_149_code 45 = .ok (.invokestatic 47, 3) := by decide +kernel
theorem pd_5 : parseMethodDescriptor "([BI)B" = some ⟨[(.array .byte), .int], some .byte⟩ := by decide +kernel
theorem d2_48 : decode jdk_42_method_149_code 48 = .ok (.putfield 15, 3) := by decide +kernel
theorem d2_51 : decode jdk_42_method_149_code 51 = .ok (.aload_n 0, 1) := by decide +kernel
theorem d2_52 : decode jdk_42_method_149_code 52 = .ok (.aload 5, 2) := by decide +kernel
theorem d2_54 : decode jdk_42_method_149_code 54 = .ok (.putfield 9, 3) := by decide +kernel
theorem d2_57 : decode jdk_42_method_149_code 57 = .ok (.return_, 1) := by decide +kernel
def Q_sci2 (Z : State) (a : Addr) (d : Addr) (kd : ClassId) (c0 : Int32) (c1 : Int32) (cs : Int32) (h0 : Heap) (n0 : Nat) (v : Option Value) (h : Heap) (L : List Loc) : Prop := ∃ (b : Addr), ∃ (k : ClassId), v = none ∧ Fr n0 L ∧ Keep h0 h [a] ∧ h0.size ≤ b ∧ (Exa Z h a "java/lang/String") ∧ (Fld Z h a "java/lang/String" "coder" "B" (.int (0 : Int32))) ∧ (Fld Z h a "java/lang/String" "value" "[B" (.ref b)) ∧ (Arv Z h b k .byte (2 : Int32) [(.int (c0.toInt8.toInt32)), (.int (c1.toInt8.toInt32))] (.int (0 : Int32)))
set_option maxRecDepth 65536 in
set_option maxHeartbeats 40000000 in
theorem rm_sci2 (l : Launch) (Z : State) (a0 : Array Value) (hw : ∀ d ∈ tables_1, d.before a0 Z = true) (ws : List Jvm.Cond) (a : Addr) (d : Addr) (kd : ClassId) (c0 : Int32) (c1 : Int32) (cs : Int32) (h0 : Heap) (n0 : Nat) (O0 : Old Z n0 h0) (u0 : Sta Z Z.heap "java/lang/String" "COMPACT_STRINGS" "Z" (.int cs)) (u1 : ¬ (cs = (0 : Int32))) (u2 : ¬ ((255 : Int32) < c0)) (u3 : ¬ ((255 : Int32) < c1)) (u4 : Exa Z h0 a "java/lang/String") (u5 : Fld Z h0 a "java/lang/String" "value" "[B" .null) (u6 : Fld Z h0 a "java/lang/String" "coder" "B" (.int (0 : Int32))) (u7 : n0 ≤ a) (u8 : Arv Z h0 d kd .char (2 : Int32) [(.int c0), (.int c1)] (.int (0 : Int32))) (u9 : a ≠ d) :
    MetFree l (⟨"java/lang/String", "<init>", "([CIILjava/lang/Void;)V"⟩ : MethodName) (head1 (Jvm.Cond.code (⟨"java/lang/String", "<init>", "([CIILjava/lang/Void;)V"⟩ : MethodName) jdk_42_method_149_code 6 none :: ws) ({ frames := 2, cells := 1, slots := 2, locals := 35 } : Room)) (fun aV U => aV = #[(.ref a), (.ref d), (.int (0 : Int32)), (.int (2 : Int32)), .null] ∧ Z.Warmed39 U.vm ∧ U.heap = h0) (fun _ _ _ _ _ => True) (fun _ U o U' => ∃ v L, o = .returned v ∧ Q_sci2 Z a d kd c0 c1 cs h0 n0 v U'.heap L ∧ FrameEnd U o U' L ({ frames := 2, cells := 1, slots := 2, locals := 35 } : Room).cells ({ frames := 2, cells := 1, slots := 2, locals := 35 } : Room).slots) := by
  refine MetFree.of_bodySF (plainFor_of_name pn_1) hisR ?_
  intro pr_ en_ st_ me_ args below meth_ co_ s₁ Bd hml0 hP hK
  obtain ⟨rfl, hZ, hh⟩ := hP
  have hx := Bd.exec
  have hby := Bd.bytes
  have hml : co_.maxLocals = 6 := hml0
  have hown : st_.vm.findClass "java/lang/String" = some me_.cls := findClass_of_methodNamed Bd.named
  have hnm := (name_of_methodNamed Bd.named Bd.method).1
  have X0 : Stand pr_ l en_ ({ frames := 2, cells := 1, slots := 2, locals := 35 } : Room) st_ me_ #[(.ref a), (.ref d), (.int (0 : Int32)), (.int (2 : Int32)), .null] below meth_ co_ s₁ [] 0 0 := Stand.of_body Bd
  have e0 : s₁.heap = h0 := by rw [← hh, Bd.state]; rfl
  have N0 := Fr.nil n0
  have K0 := Keep.refl h0 [a]
  obtain ⟨G, gv, gf, gb⟩ := own_G pr_.tables en_ below st_ (Q_sci2 Z a d kd c0 c1 cs h0 n0) ({ frames := 2, cells := 1, slots := 2, locals := 35 } : Room).cells ({ frames := 2, cells := 1, slots := 2, locals := 35 } : Room).slots
  show own_Fin pr_.tables en_ below st_ (Q_sci2 Z a d kd c0 c1 cs h0 n0) ({ frames := 2, cells := 1, slots := 2, locals := 35 } : Room).cells ({ frames := 2, cells := 1, slots := 2, locals := 35 } : Room).slots (s₁.setTop (entryFrame me_ #[(.ref a), (.ref d), (.int (0 : Int32)), (.int (2 : Int32)), .null] 6))
  refine gb _ (gv (fun tQ kQ => castTop (ef_5 me_ a d (0 : Int32) (2 : Int32)) kQ) ?_)
  show G (s₁.setTop (mkF me_ 0 #[.val (.ref a), .val (.ref d), .val (.int (0 : Int32)), .val (.int (2 : Int32)), .val .null, .unset] []))
  refine gv (fun tQ kQ => XS.aloadN X0.here hx rfl (hb hby d2_0) rfl rfl kQ) ?_
  show G (s₁.setTop (mkF me_ 1 #[.val (.ref a), .val (.ref d), .val (.int (0 : Int32)), .val (.int (2 : Int32)), .val .null, .unset] [(.ref a)]))
  obtain ⟨T80, X80, e80, st80⟩ := initO X0 hx hZ hown (hw _ (List.mem_of_getElem? (i := 11) rfl)) (hw _ (List.mem_of_getElem? (i := 12) rfl)) (hw _ (List.mem_of_getElem? (i := 13) rfl)) e0 (g := (mkF me_ 1 #[.val (.ref a), .val (.ref d), .val (.int (0 : Int32)), .val (.int (2 : Int32)), .val .null, .unset] [(.ref a)])) rfl (by rw [hml]; rfl) rfl (hb hby d2_1) (by decide) (W := 0) (by show 2 * 0 + _ ≤ _; exact Nat.le_of_eq rfl) (by decide)
  refine gv st80 ?_
  show G (T80.setTop (mkF me_ 4 #[.val (.ref a), .val (.ref d), .val (.int (0 : Int32)), .val (.int (2 : Int32)), .val .null, .unset] []))
  refine gv (fun tQ kQ => XS.iloadN X80.here hx rfl (hb hby d2_4) rfl kQ) ?_
  show G (T80.setTop (mkF me_ 5 #[.val (.ref a), .val (.ref d), .val (.int (0 : Int32)), .val (.int (2 : Int32)), .val .null, .unset] [(.int (2 : Int32))]))
  refine gv (fun tQ kQ => XS.ifYes X80.here hx rfl (pc0 := 5) (pc' := 27) rfl (hb hby d2_5) rfl ((if0 _ _).trans (feq (by decide : ¬ ((2 : Int32) = (0 : Int32)))).2) (by decide) (by decide) kQ) ?_
  show G (T80.setTop (mkF me_ 27 #[.val (.ref a), .val (.ref d), .val (.int (0 : Int32)), .val (.int (2 : Int32)), .val .null, .unset] []))
  obtain ⟨T81, X81, e81, st81⟩ := getS2 X80 hx hZ hown (host := "") (Or.inl (hw _ (List.mem_of_getElem? (i := 14) rfl))) Via.refl e80 (u0.ext O0.2) (g := (mkF me_ 27 #[.val (.ref a), .val (.ref d), .val (.int (0 : Int32)), .val (.int (2 : Int32)), .val .null, .unset] [])) rfl (hb hby d2_27)
  refine gv st81 ?_
  show G (T81.setTop (mkF me_ 30 #[.val (.ref a), .val (.ref d), .val (.int (0 : Int32)), .val (.int (2 : Int32)), .val .null, .unset] [(.int cs)]))
  refine gv (fun tQ kQ => XS.ifNo X81.here hx rfl (hb hby d2_30) rfl ((if0 _ _).trans (feq u1).1) kQ) ?_
  show G (T81.setTop (mkF me_ 33 #[.val (.ref a), .val (.ref d), .val (.int (0 : Int32)), .val (.int (2 : Int32)), .val .null, .unset] []))
  refine gv (fun tQ kQ => XS.aloadN X81.here hx rfl (hb hby d2_33) rfl rfl kQ) ?_
  show G (T81.setTop (mkF me_ 34 #[.val (.ref a), .val (.ref d), .val (.int (0 : Int32)), .val (.int (2 : Int32)), .val .null, .unset] [(.ref d)]))
  refine gv (fun tQ kQ => XS.iloadN X81.here hx rfl (hb hby d2_34) rfl kQ) ?_
  show G (T81.setTop (mkF me_ 35 #[.val (.ref a), .val (.ref d), .val (.int (0 : Int32)), .val (.int (2 : Int32)), .val .null, .unset] [(.int (0 : Int32)), (.ref d)]))
  refine gv (fun tQ kQ => XS.iloadN X81.here hx rfl (hb hby d2_35) rfl kQ) ?_
  show G (T81.setTop (mkF me_ 36 #[.val (.ref a), .val (.ref d), .val (.int (0 : Int32)), .val (.int (2 : Int32)), .val .null, .unset] [(.int (2 : Int32)), (.int (0 : Int32)), (.ref d)]))
  obtain ⟨_, _, ⟨T82, L82, k82, n82⟩, -, X82, ⟨Lc82, hQ82, l82, y82, z82⟩, st82⟩ := Jvm.LawKit.callS X81 hx (y := (⟨"java/lang/StringUTF16", "compress", "([CII)[B"⟩ : MethodName)) hown (mvT hZ (hw _ (List.mem_of_getElem? (i := 15) rfl))) (mvT hZ (hw _ (List.mem_of_getElem? (i := 16) rfl))) (mvT hZ (hw _ (List.mem_of_getElem? (i := 17) rfl))) (mvT hZ (hw _ (List.mem_of_getElem? (i := 18) rfl))) (by decide) (backOf (W := 0) (rm_cmpr2 l Z a0 hw [] d kd c0 c1 h0 n0 O0 u2 u3 u8) hZ (hw _ (List.mem_of_getElem? (i := 18) rfl)) (hw _ (List.mem_of_getElem? (i := 17) rfl)) (by decide) (by decide)) (g := (mkF me_ 36 #[.val (.ref a), .val (.ref d), .val (.int (0 : Int32)), .val (.int (2 : Int32)), .val .null, .unset] [(.int (2 : Int32)), (.int (0 : Int32)), (.ref d)])) rfl (by rw [hml]; rfl) (argsL := [(.ref d), (.int (0 : Int32)), (.int (2 : Int32))]) (rest := []) (lenOf pd_4 rfl) rfl (by show 2 * 0 + _ ≤ _; exact Nat.le_of_eq rfl) (hb hby d2_36) (fun _ _ => ⟨rfl, e81, (by decide : 0 + 1 ≤ _), (by decide : 0 + 2 ≤ _)⟩)
  dsimp only [Pt.U, Pt.locs, Pt.cells, Pt.slots] at X82 l82 y82 z82 st82 hQ82
  subst l82 y82 z82
  obtain ⟨b_82, k_82, rfl, Nq82, Kq82, w82_0, w82_1⟩ := hQ82
  have N83 := Fr.app N0 Nq82
  obtain ⟨h82, e82⟩ : ∃ z, T82.heap = z := ⟨_, rfl⟩
  rw [e82] at Kq82 w82_1
  have ne84 : a ≠ b_82 := Nat.ne_of_lt (Nat.lt_of_lt_of_le u4.lt w82_0)
  have ne85 : d ≠ b_82 := Nat.ne_of_lt (Nat.lt_of_lt_of_le u8.lt w82_0)
  have g86 : n0 ≤ b_82 := Nat.le_trans (own_old O0) w82_0
  have z87 : h0.size ≤ b_82 := Nat.le_trans K0.1 w82_0
  have f88 : Exa Z h82 a "java/lang/String" := u4.keep Kq82
  have f89 : Fld Z h82 a "java/lang/String" "value" "[B" .null := u5.keep Kq82 nin0
  have f90 : Fld Z h82 a "java/lang/String" "coder" "B" (.int (0 : Int32)) := u6.keep Kq82 nin0
  have f91 : Arv Z h82 d kd .char (2 : Int32) [(.int c0), (.int c1)] (.int (0 : Int32)) := u8.keep Kq82 nin0
  have O92 := O0.keep Kq82 all0
  have K93 := K0.trans Kq82 all0
  refine gv st82 ?_
  show G (T82.setTop (mkF me_ 39 #[.val (.ref a), .val (.ref d), .val (.int (0 : Int32)), .val (.int (2 : Int32)), .val .null, .unset] [(.ref b_82)]))
  refine gv (fun tQ kQ => XS.astore X82.here hx rfl (hb hby d2_39) rfl rfl (l' := #[.val (.ref a), .val (.ref d), .val (.int (0 : Int32)), .val (.int (2 : Int32)), .val .null, .val (.ref b_82)]) rfl kQ) ?_
  show G (T82.setTop (mkF me_ 41 #[.val (.ref a), .val (.ref d), .val (.int (0 : Int32)), .val (.int (2 : Int32)), .val .null, .val (.ref b_82)] []))
  refine gv (fun tQ kQ => XS.aloadN X82.here hx rfl (hb hby d2_41) rfl rfl kQ) ?_
  show G (T82.setTop (mkF me_ 42 #[.val (.ref a), .val (.ref d), .val (.int (0 : Int32)), .val (.int (2 : Int32)), .val .null, .val (.ref b_82)] [(.ref a)]))
  refine gv (fun tQ kQ => XS.aload X82.here hx rfl (hb hby d2_42) rfl rfl kQ) ?_
  show G (T82.setTop (mkF me_ 44 #[.val (.ref a), .val (.ref d), .val (.int (0 : Int32)), .val (.int (2 : Int32)), .val .null, .val (.ref b_82)] [(.ref b_82), (.ref a)]))
  refine gv (fun tQ kQ => XS.iloadN X82.here hx rfl (hb hby d2_44) rfl kQ) ?_
  show G (T82.setTop (mkF me_ 45 #[.val (.ref a), .val (.ref d), .val (.int (0 : Int32)), .val (.int (2 : Int32)), .val .null, .val (.ref b_82)] [(.int (2 : Int32)), (.ref b_82), (.ref a)]))
  obtain ⟨_, _, ⟨T94, L94, k94, n94⟩, -, X94, ⟨Lc94, hQ94, l94, y94, z94⟩, st94⟩ := Jvm.LawKit.callS X82 hx (y := (⟨"java/lang/StringUTF16", "coderFromArrayLen", "([BI)B"⟩ : MethodName)) hown (mvT hZ (hw _ (List.mem_of_getElem? (i := 23) rfl))) (mvT hZ (hw _ (List.mem_of_getElem? (i := 24) rfl))) (mvT hZ (hw _ (List.mem_of_getElem? (i := 17) rfl))) (mvT hZ (hw _ (List.mem_of_getElem? (i := 25) rfl))) (by decide) (backOf (W := 1) (rm_cfal2 l Z a0 hw [] b_82 k_82 (c0.toInt8.toInt32) (c1.toInt8.toInt32) h82 n0 O92 w82_1) hZ (hw _ (List.mem_of_getElem? (i := 25) rfl)) (hw _ (List.mem_of_getElem? (i := 17) rfl)) (by decide) (by decide)) (g := (mkF me_ 45 #[.val (.ref a), .val (.ref d), .val (.int (0 : Int32)), .val (.int (2 : Int32)), .val .null, .val (.ref b_82)] [(.int (2 : Int32)), (.ref b_82), (.ref a)])) rfl (by rw [hml]; rfl) (argsL := [(.ref b_82), (.int (2 : Int32))]) (rest := [(.ref a)]) (lenOf pd_5 rfl) rfl (by show 2 * 0 + _ ≤ _; exact Nat.le_of_eq rfl) (hb hby d2_45) (fun _ _ => ⟨rfl, e82, (by decide : 1 + 0 ≤ _), (by decide : 2 + 0 ≤ _)⟩)
  dsimp only [Pt.U, Pt.locs, Pt.cells, Pt.slots] at X94 l94 y94 z94 st94 hQ94
  subst l94 y94 z94
  obtain ⟨rfl, Nq94, eq94⟩ := hQ94
  have N95 := Fr.app N83 Nq94
  refine gv st94 ?_
  show G (T94.setTop (mkF me_ 48 #[.val (.ref a), .val (.ref d), .val (.int (0 : Int32)), .val (.int (2 : Int32)), .val .null, .val (.ref b_82)] [(.int (0 : Int32)), (.ref a)]))
  obtain ⟨T96, h96, X96, e96, W96, st96⟩ := putFN X94 hx hZ hown (hw _ (List.mem_of_getElem? (i := 26) rfl)) Via.refl eq94 f90 f88 (Or.inr ⟨(hw _ (List.mem_of_getElem? (i := 27) rfl)), rfl, hnm⟩) (hw _ (List.mem_of_getElem? (i := 2) rfl)) (ty := .byte) (v' := (.int (0 : Int32))) (by decide) rfl rfl (g := (mkF me_ 48 #[.val (.ref a), .val (.ref d), .val (.int (0 : Int32)), .val (.int (2 : Int32)), .val .null, .val (.ref b_82)] [(.int (0 : Int32)), (.ref a)])) rfl rfl (hb hby d2_48)
  refine gv st96 ?_
  have f98 : Exa Z h96 a "java/lang/String" := f88.wr W96
  have f99 : Fld Z h96 a "java/lang/String" "value" "[B" .null := f89.other W96 (Or.inr (slot_ne (Or.inr (hw _ (List.mem_of_getElem? (i := 29) rfl))) (Or.inr (hw _ (List.mem_of_getElem? (i := 27) rfl))) (by decide) (t := (.array .byte)) (t' := .byte) (by decide) (by decide)))
  have f100 : Arv Z h96 d kd .char (2 : Int32) [(.int c0), (.int c1)] (.int (0 : Int32)) := f91.other W96 (Ne.symm u9)
  have f101 : Arv Z h96 b_82 k_82 .byte (2 : Int32) [(.int (c0.toInt8.toInt32)), (.int (c1.toInt8.toInt32))] (.int (0 : Int32)) := w82_1.other W96 (Ne.symm ne84)
  have O102 := O92.wr W96 u7
  have K103 := K93.wr W96 (Or.inl (List.mem_of_getElem? (i := 0) rfl))
  have N104 := Fr.snoc X96 N95 u7
  have f97 : Fld Z h96 a "java/lang/String" "coder" "B" (.int (0 : Int32)) := f90.same W96
  show G (T96.setTop (mkF me_ 51 #[.val (.ref a), .val (.ref d), .val (.int (0 : Int32)), .val (.int (2 : Int32)), .val .null, .val (.ref b_82)] []))
  refine gv (fun tQ kQ => XS.aloadN X96.here hx rfl (hb hby d2_51) rfl rfl kQ) ?_
  show G (T96.setTop (mkF me_ 52 #[.val (.ref a), .val (.ref d), .val (.int (0 : Int32)), .val (.int (2 : Int32)), .val .null, .val (.ref b_82)] [(.ref a)]))
  refine gv (fun tQ kQ => XS.aload X96.here hx rfl (hb hby d2_52) rfl rfl kQ) ?_
  show G (T96.setTop (mkF me_ 54 #[.val (.ref a), .val (.ref d), .val (.int (0 : Int32)), .val (.int (2 : Int32)), .val .null, .val (.ref b_82)] [(.ref b_82), (.ref a)]))
  obtain ⟨T105, h105, X105, e105, W105, st105⟩ := putF X96 hx hZ hown (host := "") (Or.inl (hw _ (List.mem_of_getElem? (i := 28) rfl))) Via.refl e96 f99 f98 (Or.inr ⟨(hw _ (List.mem_of_getElem? (i := 29) rfl)), rfl, hnm⟩) (hw _ (List.mem_of_getElem? (i := 2) rfl)) (ty := (.array .byte)) (by decide) rfl rfl (g := (mkF me_ 54 #[.val (.ref a), .val (.ref d), .val (.int (0 : Int32)), .val (.int (2 : Int32)), .val .null, .val (.ref b_82)] [(.ref b_82), (.ref a)])) rfl rfl (hb hby d2_54)
  refine gv st105 ?_
  have f107 : Exa Z h105 a "java/lang/String" := f98.wr W105
  have f108 : Fld Z h105 a "java/lang/String" "coder" "B" (.int (0 : Int32)) := f97.other W105 (Or.inr (slot_ne (Or.inr (hw _ (List.mem_of_getElem? (i := 27) rfl))) (Or.inr (hw _ (List.mem_of_getElem? (i := 29) rfl))) (by decide) (t := .byte) (t' := (.array .byte)) (by decide) (by decide)))
  have f109 : Arv Z h105 d kd .char (2 : Int32) [(.int c0), (.int c1)] (.int (0 : Int32)) := f100.other W105 (Ne.symm u9)
  have f110 : Arv Z h105 b_82 k_82 .byte (2 : Int32) [(.int (c0.toInt8.toInt32)), (.int (c1.toInt8.toInt32))] (.int (0 : Int32)) := f101.other W105 (Ne.symm ne84)
  have O111 := O102.wr W105 u7
  have K112 := K103.wr W105 (Or.inl (List.mem_of_getElem? (i := 0) rfl))
  have N113 := Fr.snoc X105 N104 u7
  have f106 : Fld Z h105 a "java/lang/String" "value" "[B" (.ref b_82) := f99.same W105
  show G (T105.setTop (mkF me_ 57 #[.val (.ref a), .val (.ref d), .val (.int (0 : Int32)), .val (.int (2 : Int32)), .val .null, .val (.ref b_82)] []))
  refine gf _ (own_ret X105 Bd.notSynchronized (v := none) (fun _ => rfl) ?_ (by decide) (by decide) (fun fs hr => X105.returnOut hx Bd.returns (hb hby d2_57) hr))
  show Q_sci2 Z a d kd c0 c1 cs h0 n0 _ T105.heap _
  rw [e105]
  exact ⟨b_82, k_82, rfl, N113, K112, z87, f107, f108, f106, f110⟩
theorem ef_6 (m : MethodId) (x0 : Addr) (x1 : Addr)  : entryFrame m #[(.ref x0), (.ref x1)] 2 = mkF m 0 #[.val (.ref x0), .val (.ref x1)] [] := by first | (simp [entryFrame, mkF, argsToLocals, Value.category]; done) | rfl
theorem d1_0 : decode jdk_42_method_3_code 0 = .ok (.aload_n 0, 1) := by decide +kernel
theorem d1_1 : decode jdk_42_method_3_code 1 = .ok (.aload_n 1, 1) := by decide +kernel
theorem d1_2 : decode jdk_42_method_3_code 2 = .ok (.iconst 0, 1) := by decide +kernel
theorem d1_3 : decode jdk_42_method_3_code 3 = .ok (.aload_n 1, 1) := by decide +kernel
theorem d1_4 : decode jdk_42_method_3_code 4 = .ok (.arraylength, 1) := by decide +kernel
theorem d1_5 : decode jdk_42_method_3_code 5 = .ok (.aconst_null, 1) := by decide +kernel
theorem d1_6 : decode jdk_42_method_3_code 6 = .ok (.invokespecial 27, 3) := by decide +kernel
theorem pd_6 : parseMethodDescriptor "([CIILjava/lang/Void;)V" = some ⟨[(.array .char), .int, .int, (.object "java/lang/Void")], none⟩ := by decide +kernel
theorem d1_9 : decode jdk_42_method_3_code 9 = .ok (.return_, 1) := by decide +kernel
def Q_sc2 (Z : State) (a : Addr) (d : Addr) (kd : ClassId) (c0 : Int32) (c1 : Int32) (cs : Int32) (h0 : Heap) (n0 : Nat) (v : Option Value) (h : Heap) (L : List Loc) : Prop := ∃ (b : Addr), ∃ (k : ClassId), v = none ∧ Fr n0 L ∧ Keep h0 h [a] ∧ h0.size ≤ b ∧ (Exa Z h a "java/lang/String") ∧ (Fld Z h a "java/lang/String" "coder" "B" (.int (0 : Int32))) ∧ (Fld Z h a "java/lang/String" "value" "[B" (.ref b)) ∧ (Arv Z h b k .byte (2 : Int32) [(.int (c0.toInt8.toInt32)), (.int (c1.toInt8.toInt32))] (.int (0 : Int32)))
set_option maxRecDepth 65536 in
set_option maxHeartbeats 40000000 in
theorem rm_sc2 (l : Launch) (Z : State) (a0 : Array Value) (hw : ∀ d ∈ tables_1, d.before a0 Z = true) (ws : List Jvm.Cond) (a : Addr) (d : Addr) (kd : ClassId) (c0 : Int32) (c1 : Int32) (cs : Int32) (h0 : Heap) (n0 : Nat) (O0 : Old Z n0 h0) (u0 : Sta Z Z.heap "java/lang/String" "COMPACT_STRINGS" "Z" (.int cs)) (u1 : ¬ (cs = (0 : Int32))) (u2 : ¬ ((255 : Int32) < c0)) (u3 : ¬ ((255 : Int32) < c1)) (u4 : Exa Z h0 a "java/lang/String") (u5 : Fld Z h0 a "java/lang/String" "value" "[B" .null) (u6 : Fld Z h0 a "java/lang/String" "coder" "B" (.int (0 : Int32))) (u7 : n0 ≤ a) (u8 : Arv Z h0 d kd .char (2 : Int32) [(.int c0), (.int c1)] (.int (0 : Int32))) (u9 : a ≠ d) :
    MetFree l (⟨"java/lang/String", "<init>", "([C)V"⟩ : MethodName) (head1 (Jvm.Cond.code (⟨"java/lang/String", "<init>", "([C)V"⟩ : MethodName) jdk_42_method_3_code 2 none :: ws) ({ frames := 3, cells := 1, slots := 2, locals := 52 } : Room)) (fun aV U => aV = #[(.ref a), (.ref d)] ∧ Z.Warmed39 U.vm ∧ U.heap = h0) (fun _ _ _ _ _ => True) (fun _ U o U' => ∃ v L, o = .returned v ∧ Q_sc2 Z a d kd c0 c1 cs h0 n0 v U'.heap L ∧ FrameEnd U o U' L ({ frames := 3, cells := 1, slots := 2, locals := 52 } : Room).cells ({ frames := 3, cells := 1, slots := 2, locals := 52 } : Room).slots) := by
  refine MetFree.of_bodySF (plainFor_of_name pn_1) hisR ?_
  intro pr_ en_ st_ me_ args below meth_ co_ s₁ Bd hml0 hP hK
  obtain ⟨rfl, hZ, hh⟩ := hP
  have hx := Bd.exec
  have hby := Bd.bytes
  have hml : co_.maxLocals = 2 := hml0
  have hown : st_.vm.findClass "java/lang/String" = some me_.cls := findClass_of_methodNamed Bd.named
  have hnm := (name_of_methodNamed Bd.named Bd.method).1
  have X0 : Stand pr_ l en_ ({ frames := 3, cells := 1, slots := 2, locals := 52 } : Room) st_ me_ #[(.ref a), (.ref d)] below meth_ co_ s₁ [] 0 0 := Stand.of_body Bd
  have e0 : s₁.heap = h0 := by rw [← hh, Bd.state]; rfl
  have N0 := Fr.nil n0
  have K0 := Keep.refl h0 [a]
  obtain ⟨G, gv, gf, gb⟩ := own_G pr_.tables en_ below st_ (Q_sc2 Z a d kd c0 c1 cs h0 n0) ({ frames := 3, cells := 1, slots := 2, locals := 52 } : Room).cells ({ frames := 3, cells := 1, slots := 2, locals := 52 } : Room).slots
  show own_Fin pr_.tables en_ below st_ (Q_sc2 Z a d kd c0 c1 cs h0 n0) ({ frames := 3, cells := 1, slots := 2, locals := 52 } : Room).cells ({ frames := 3, cells := 1, slots := 2, locals := 52 } : Room).slots (s₁.setTop (entryFrame me_ #[(.ref a), (.ref d)] 2))
  refine gb _ (gv (fun tQ kQ => castTop (ef_6 me_ a d) kQ) ?_)
  show G (s₁.setTop (mkF me_ 0 #[.val (.ref a), .val (.ref d)] []))
  refine gv (fun tQ kQ => XS.aloadN X0.here hx rfl (hb hby d1_0) rfl rfl kQ) ?_
  show G (s₁.setTop (mkF me_ 1 #[.val (.ref a), .val (.ref d)] [(.ref a)]))
  refine gv (fun tQ kQ => XS.aloadN X0.here hx rfl (hb hby d1_1) rfl rfl kQ) ?_
  show G (s₁.setTop (mkF me_ 2 #[.val (.ref a), .val (.ref d)] [(.ref d), (.ref a)]))
  refine gv (fun tQ kQ => XS.iconst X0.here hx rfl (hb hby d1_2) kQ) ?_
  show G (s₁.setTop (mkF me_ 3 #[.val (.ref a), .val (.ref d)] [(.int (0 : Int32)), (.ref d), (.ref a)]))
  refine gv (fun tQ kQ => XS.aloadN X0.here hx rfl (hb hby d1_3) rfl rfl kQ) ?_
  show G (s₁.setTop (mkF me_ 4 #[.val (.ref a), .val (.ref d)] [(.ref d), (.int (0 : Int32)), (.ref d), (.ref a)]))
  obtain ⟨cl114, Ar114, -, S114, n114, -, -⟩ := (id u8)
  refine gv (X0.arraylength hx (by rw [e0]; exact Ar114.1) (State.isArrayOf_alike hZ.alike Ar114.2.1) (g := (mkF me_ 4 #[.val (.ref a), .val (.ref d)] [(.ref d), (.int (0 : Int32)), (.ref d), (.ref a)])) rfl rfl (hb hby d1_4)) ?_
  rw [len_of S114 n114]
  show G (s₁.setTop (mkF me_ 5 #[.val (.ref a), .val (.ref d)] [(.int (2 : Int32)), (.int (0 : Int32)), (.ref d), (.ref a)]))
  refine gv (fun tQ kQ => XS.aconstNull X0.here hx rfl (hb hby d1_5) kQ) ?_
  show G (s₁.setTop (mkF me_ 6 #[.val (.ref a), .val (.ref d)] [.null, (.int (2 : Int32)), (.int (0 : Int32)), (.ref d), (.ref a)]))
  obtain ⟨_, _, ⟨T115, L115, k115, n115⟩, -, X115, ⟨Lc115, hQ115, l115, y115, z115⟩, st115⟩ := X0.specialBack hx (y := (⟨"java/lang/String", "<init>", "([CIILjava/lang/Void;)V"⟩ : MethodName)) rfl hown (mvT hZ (hw _ (List.mem_of_getElem? (i := 7) rfl))) (mvT hZ (hw _ (List.mem_of_getElem? (i := 8) rfl))) (mvT hZ (hw _ (List.mem_of_getElem? (i := 10) rfl))) (by decide) (backOf (W := 0) (rm_sci2 l Z a0 hw [] a d kd c0 c1 cs h0 n0 O0 u0 u1 u2 u3 u4 u5 u6 u7 u8 u9) hZ (hw _ (List.mem_of_getElem? (i := 10) rfl)) (hw _ (List.mem_of_getElem? (i := 3) rfl)) (by decide) (by decide)) (g := (mkF me_ 6 #[.val (.ref a), .val (.ref d)] [.null, (.int (2 : Int32)), (.int (0 : Int32)), (.ref d), (.ref a)])) rfl (by rw [hml]; rfl) (Steps.refl _) (a := a) (argsL := [(.ref d), (.int (0 : Int32)), (.int (2 : Int32)), .null]) (rest := []) (lenOf pd_6 rfl) rfl (by show 2 * 0 + _ ≤ _; exact Nat.le_of_eq rfl) (hb hby d1_6) (fun _ _ => ⟨rfl, e0, (by decide : 0 + 1 ≤ _), (by decide : 0 + 2 ≤ _)⟩)
  dsimp only [Pt.U, Pt.locs, Pt.cells, Pt.slots] at X115 l115 y115 z115 st115 hQ115
  subst l115 y115 z115
  obtain ⟨b_115, k_115, rfl, Nq115, Kq115, w115_0, w115_1, w115_2, w115_3, w115_4⟩ := hQ115
  have N116 := Fr.app N0 Nq115
  obtain ⟨h115, e115⟩ : ∃ z, T115.heap = z := ⟨_, rfl⟩
  rw [e115] at Kq115 w115_1 w115_2 w115_3 w115_4
  have ne117 : a ≠ b_115 := Nat.ne_of_lt (Nat.lt_of_lt_of_le u4.lt w115_0)
  have ne118 : d ≠ b_115 := Nat.ne_of_lt (Nat.lt_of_lt_of_le u8.lt w115_0)
  have g119 : n0 ≤ b_115 := Nat.le_trans (own_old O0) w115_0
  have z120 : h0.size ≤ b_115 := Nat.le_trans K0.1 w115_0
  have f121 : Exa Z h115 a "java/lang/String" := u4.keep Kq115
  have f122 : Arv Z h115 d kd .char (2 : Int32) [(.int c0), (.int c1)] (.int (0 : Int32)) := u8.keep Kq115 (ninS (Ne.symm u9) nin0)
  have O123 := O0.keep Kq115 (allS u7 all0)
  have K124 := K0.trans Kq115 (allS (Or.inl (List.mem_of_getElem? (i := 0) rfl)) all0)
  refine gv (fun tQ kQ => st115.trans kQ) ?_
  show G (T115.setTop (mkF me_ 9 #[.val (.ref a), .val (.ref d)] []))
  refine gf _ (own_ret X115 Bd.notSynchronized (v := none) (fun _ => rfl) ?_ (by decide) (by decide) (fun fs hr => X115.returnOut hx Bd.returns (hb hby d1_9) hr))
  show Q_sc2 Z a d kd c0 c1 cs h0 n0 _ T115.heap _
  rw [e115]
  exact ⟨b_115, k_115, rfl, N116, K124, z120, w115_1, w115_2, w115_3, w115_4⟩
def Q_cmp3 (Z : State) (d : Addr) (kd : ClassId) (b : Addr) (k : ClassId) (c0 : Int32) (c1 : Int32) (c2 : Int32) (h0 : Heap) (n0 : Nat) (v : Option Value) (h : Heap) (L : List Loc) : Prop := v = some (.int (3 : Int32)) ∧ Fr n0 L ∧ Keep h0 h [b] ∧ (Arv Z h b k .byte (3 : Int32) [(.int (c0.toInt8.toInt32)), (.int (c1.toInt8.toInt32)), (.int (c2.toInt8.toInt32))] (.int (0 : Int32)))
set_option maxRecDepth 65536 in
set_option maxHeartbeats 40000000 in
theorem rm_cmp3 (l : Launch) (Z : State) (a0 : Array Value) (hw : ∀ d ∈ tables_1, d.before a0 Z = true) (ws : List Jvm.Cond) (d : Addr) (kd : ClassId) (b : Addr) (k : ClassId) (c0 : Int32) (c1 : Int32) (c2 : Int32) (h0 : Heap) (n0 : Nat) (O0 : Old Z n0 h0) (u0 : ¬ ((255 : Int32) < c0)) (u1 : ¬ ((255 : Int32) < c1)) (u2 : ¬ ((255 : Int32) < c2)) (u3 : Arv Z h0 d kd .char (3 : Int32) [(.int c0), (.int c1), (.int c2)] (.int (0 : Int32))) (u4 : Arv Z h0 b k .byte (3 : Int32) [(.int (0 : Int32)), (.int (0 : Int32)), (.int (0 : Int32))] (.int (0 : Int32))) (u5 : n0 ≤ b) (u6 : d ≠ b) :
    MetFree l (⟨"java/lang/StringUTF16", "compress", "([CI[BII)I"⟩ : MethodName) (head1 (Jvm.Cond.code (⟨"java/lang/StringUTF16", "compress", "([CI[BII)I"⟩ : MethodName) jdk_52_method_21_code 7 (some .int) :: ws) ({ frames := 0, cells := 0, slots := 0, locals := 0 } : Room)) (fun aV U => aV = #[(.ref d), (.int (0 : Int32)), (.ref b), (.int (0 : Int32)), (.int (3 : Int32))] ∧ Z.Warmed39 U.vm ∧ U.heap = h0) (fun _ _ _ _ _ => True) (fun _ U o U' => ∃ v L, o = .returned v ∧ Q_cmp3 Z d kd b k c0 c1 c2 h0 n0 v U'.heap L ∧ FrameEnd U o U' L ({ frames := 0, cells := 0, slots := 0, locals := 0 } : Room).cells ({ frames := 0, cells := 0, slots := 0, locals := 0 } : Room).slots) := by
  refine MetFree.of_bodySF (plainFor_of_name pn_2) hisR ?_
  intro pr_ en_ st_ me_ args below meth_ co_ s₁ Bd hml0 hP hK
  obtain ⟨rfl, hZ, hh⟩ := hP
  have hx := Bd.exec
  have hby := Bd.bytes
  have hml : co_.maxLocals = 7 := hml0
  have hown : st_.vm.findClass "java/lang/StringUTF16" = some me_.cls := findClass_of_methodNamed Bd.named
  have hnm := (name_of_methodNamed Bd.named Bd.method).1
  have X0 : Stand pr_ l en_ ({ frames := 0, cells := 0, slots := 0, locals := 0 } : Room) st_ me_ #[(.ref d), (.int (0 : Int32)), (.ref b), (.int (0 : Int32)), (.int (3 : Int32))] below meth_ co_ s₁ [] 0 0 := Stand.of_body Bd
  have e0 : s₁.heap = h0 := by rw [← hh, Bd.state]; rfl
  have N0 := Fr.nil n0
  have K0 := Keep.refl h0 [b]
  obtain ⟨G, gv, gf, gb⟩ := own_G pr_.tables en_ below st_ (Q_cmp3 Z d kd b k c0 c1 c2 h0 n0) ({ frames := 0, cells := 0, slots := 0, locals := 0 } : Room).cells ({ frames := 0, cells := 0, slots := 0, locals := 0 } : Room).slots
  show own_Fin pr_.tables en_ below st_ (Q_cmp3 Z d kd b k c0 c1 c2 h0 n0) ({ frames := 0, cells := 0, slots := 0, locals := 0 } : Room).cells ({ frames := 0, cells := 0, slots := 0, locals := 0 } : Room).slots (s₁.setTop (entryFrame me_ #[(.ref d), (.int (0 : Int32)), (.ref b), (.int (0 : Int32)), (.int (3 : Int32))] 7))
  refine gb _ (gv (fun tQ kQ => castTop (ef_2 me_ d (0 : Int32) b (0 : Int32) (3 : Int32)) kQ) ?_)
  show G (s₁.setTop (mkF me_ 0 #[.val (.ref d), .val (.int (0 : Int32)), .val (.ref b), .val (.int (0 : Int32)), .val (.int (3 : Int32)), .unset, .unset] []))
  refine gv (fun tQ kQ => XS.iconst X0.here hx rfl (hb hby d5_0) kQ) ?_
  show G (s₁.setTop (mkF me_ 1 #[.val (.ref d), .val (.int (0 : Int32)), .val (.ref b), .val (.int (0 : Int32)), .val (.int (3 : Int32)), .unset, .unset] [(.int (0 : Int32))]))
  refine gv (fun tQ kQ => XS.istore X0.here hx rfl (hb hby d5_1) rfl (l' := #[.val (.ref d), .val (.int (0 : Int32)), .val (.ref b), .val (.int (0 : Int32)), .val (.int (3 : Int32)), .val (.int (0 : Int32)), .unset]) rfl kQ) ?_
  show G (s₁.setTop (mkF me_ 3 #[.val (.ref d), .val (.int (0 : Int32)), .val (.ref b), .val (.int (0 : Int32)), .val (.int (3 : Int32)), .val (.int (0 : Int32)), .unset] []))
  refine gv (fun tQ kQ => XS.iload X0.here hx rfl (hb hby d5_3) rfl kQ) ?_
  show G (s₁.setTop (mkF me_ 5 #[.val (.ref d), .val (.int (0 : Int32)), .val (.ref b), .val (.int (0 : Int32)), .val (.int (3 : Int32)), .val (.int (0 : Int32)), .unset] [(.int (0 : Int32))]))
  refine gv (fun tQ kQ => XS.iload X0.here hx rfl (hb hby d5_5) rfl kQ) ?_
  show G (s₁.setTop (mkF me_ 7 #[.val (.ref d), .val (.int (0 : Int32)), .val (.ref b), .val (.int (0 : Int32)), .val (.int (3 : Int32)), .val (.int (0 : Int32)), .unset] [(.int (3 : Int32)), (.int (0 : Int32))]))
  refine gv (fun tQ kQ => XS.icmpNo X0.here hx rfl (hb hby d5_7) rfl (tlt (by decide : (0 : Int32) < (3 : Int32))).2.1 kQ) ?_
  show G (s₁.setTop (mkF me_ 10 #[.val (.ref d), .val (.int (0 : Int32)), .val (.ref b), .val (.int (0 : Int32)), .val (.int (3 : Int32)), .val (.int (0 : Int32)), .unset] []))
  refine gv (fun tQ kQ => XS.aloadN X0.here hx rfl (hb hby d5_10) rfl rfl kQ) ?_
  show G (s₁.setTop (mkF me_ 11 #[.val (.ref d), .val (.int (0 : Int32)), .val (.ref b), .val (.int (0 : Int32)), .val (.int (3 : Int32)), .val (.int (0 : Int32)), .unset] [(.ref d)]))
  refine gv (fun tQ kQ => XS.iloadN X0.here hx rfl (hb hby d5_11) rfl kQ) ?_
  show G (s₁.setTop (mkF me_ 12 #[.val (.ref d), .val (.int (0 : Int32)), .val (.ref b), .val (.int (0 : Int32)), .val (.int (3 : Int32)), .val (.int (0 : Int32)), .unset] [(.int (0 : Int32)), (.ref d)]))
  obtain ⟨cl125, Ar125, q125, S125, n125, H125, G125⟩ := (id u3)
  have in125 : ¬ ((0 : Int32) < 0 ∨ cl125.slots.size ≤ ((0 : Int32)).toNatClampNeg) := inb_of S125 ⟨by decide, by decide⟩
  refine gv (X0.caload hx (j := (0 : Int32)) (v := (.int c0)) (by rw [e0]; exact Ar125.1) (State.isArrayOf_alike hZ.alike Ar125.2.1) Ar125.2.2 in125 (Has.at H125 in125 rfl) (g := (mkF me_ 12 #[.val (.ref d), .val (.int (0 : Int32)), .val (.ref b), .val (.int (0 : Int32)), .val (.int (3 : Int32)), .val (.int (0 : Int32)), .unset] [(.int (0 : Int32)), (.ref d)])) rfl rfl (hb hby d5_12)) ?_
  show G (s₁.setTop (mkF me_ 13 #[.val (.ref d), .val (.int (0 : Int32)), .val (.ref b), .val (.int (0 : Int32)), .val (.int (3 : Int32)), .val (.int (0 : Int32)), .unset] [(.int c0)]))
  refine gv (fun tQ kQ => XS.istore X0.here hx rfl (hb hby d5_13) rfl (l' := #[.val (.ref d), .val (.int (0 : Int32)), .val (.ref b), .val (.int (0 : Int32)), .val (.int (3 : Int32)), .val (.int (0 : Int32)), .val (.int c0)]) rfl kQ) ?_
  show G (s₁.setTop (mkF me_ 15 #[.val (.ref d), .val (.int (0 : Int32)), .val (.ref b), .val (.int (0 : Int32)), .val (.int (3 : Int32)), .val (.int (0 : Int32)), .val (.int c0)] []))
  refine gv (fun tQ kQ => XS.iload X0.here hx rfl (hb hby d5_15) rfl kQ) ?_
  show G (s₁.setTop (mkF me_ 17 #[.val (.ref d), .val (.int (0 : Int32)), .val (.ref b), .val (.int (0 : Int32)), .val (.int (3 : Int32)), .val (.int (0 : Int32)), .val (.int c0)] [(.int c0)]))
  refine gv (fun tQ kQ => XS.sipush X0.here hx rfl (hb hby d5_17) kQ) ?_
  show G (s₁.setTop (mkF me_ 20 #[.val (.ref d), .val (.int (0 : Int32)), .val (.ref b), .val (.int (0 : Int32)), .val (.int (3 : Int32)), .val (.int (0 : Int32)), .val (.int c0)] [(.int (255 : Int32)), (.int c0)]))
  refine gv (fun tQ kQ => XS.icmpYes X0.here hx rfl (pc0 := 20) (pc' := 26) rfl (hb hby d5_20) rfl (flt u0).2.2.2 (by decide) (by decide) kQ) ?_
  show G (s₁.setTop (mkF me_ 26 #[.val (.ref d), .val (.int (0 : Int32)), .val (.ref b), .val (.int (0 : Int32)), .val (.int (3 : Int32)), .val (.int (0 : Int32)), .val (.int c0)] []))
  refine gv (fun tQ kQ => XS.aloadN X0.here hx rfl (hb hby d5_26) rfl rfl kQ) ?_
  show G (s₁.setTop (mkF me_ 27 #[.val (.ref d), .val (.int (0 : Int32)), .val (.ref b), .val (.int (0 : Int32)), .val (.int (3 : Int32)), .val (.int (0 : Int32)), .val (.int c0)] [(.ref b)]))
  refine gv (fun tQ kQ => XS.iloadN X0.here hx rfl (hb hby d5_27) rfl kQ) ?_
  show G (s₁.setTop (mkF me_ 28 #[.val (.ref d), .val (.int (0 : Int32)), .val (.ref b), .val (.int (0 : Int32)), .val (.int (3 : Int32)), .val (.int (0 : Int32)), .val (.int c0)] [(.int (0 : Int32)), (.ref b)]))
  refine gv (fun tQ kQ => XS.iload X0.here hx rfl (hb hby d5_28) rfl kQ) ?_
  show G (s₁.setTop (mkF me_ 30 #[.val (.ref d), .val (.int (0 : Int32)), .val (.ref b), .val (.int (0 : Int32)), .val (.int (3 : Int32)), .val (.int (0 : Int32)), .val (.int c0)] [(.int c0), (.int (0 : Int32)), (.ref b)]))
  refine gv (fun tQ kQ => XS.i2b X0.here hx rfl (hb hby d5_30) rfl kQ) ?_
  show G (s₁.setTop (mkF me_ 31 #[.val (.ref d), .val (.int (0 : Int32)), .val (.ref b), .val (.int (0 : Int32)), .val (.int (3 : Int32)), .val (.int (0 : Int32)), .val (.int c0)] [(.int (c0.toInt8.toInt32)), (.int (0 : Int32)), (.ref b)]))
  obtain ⟨cl126, Ar126, q126, S126, n126, H126, G126⟩ := (id u4)
  have in126 : ¬ ((0 : Int32) < 0 ∨ cl126.slots.size ≤ ((0 : Int32)).toNatClampNeg) := inb_of S126 ⟨by decide, by decide⟩
  obtain ⟨T126, h126, X126, e126, W126, st126⟩ := stB X0 hx hZ e0 Ar126 (j := (0 : Int32)) in126 (g := (mkF me_ 31 #[.val (.ref d), .val (.int (0 : Int32)), .val (.ref b), .val (.int (0 : Int32)), .val (.int (3 : Int32)), .val (.int (0 : Int32)), .val (.int c0)] [(.int (c0.toInt8.toInt32)), (.int (0 : Int32)), (.ref b)])) rfl rfl (hb hby d5_31)
  have W126 : Wr h0 h126 b ((0 : Int32)).toNatClampNeg (.int (c0.toInt8.toInt32)) := by have z := W126; rw [(own_narB _)] at z; exact z
  refine gv st126 ?_
  have f128 : Arv Z h126 d kd .char (3 : Int32) [(.int c0), (.int c1), (.int c2)] (.int (0 : Int32)) := u3.other W126 u6
  have O129 := O0.wr W126 u5
  have K130 := K0.wr W126 (Or.inl (List.mem_of_getElem? (i := 0) rfl))
  have N131 := Fr.snoc X126 N0 u5
  have f127 : Arv Z h126 b k .byte (3 : Int32) [(.int (c0.toInt8.toInt32)), (.int (0 : Int32)), (.int (0 : Int32))] (.int (0 : Int32)) := Arv.set Ar126 q126 S126 n126 H126 G126 (fits_nar_byte _) W126 0 rfl (Nat.le_of_ble_eq_true rfl)
  show G (T126.setTop (mkF me_ 32 #[.val (.ref d), .val (.int (0 : Int32)), .val (.ref b), .val (.int (0 : Int32)), .val (.int (3 : Int32)), .val (.int (0 : Int32)), .val (.int c0)] []))
  refine gv (fun tQ kQ => XS.iinc X126.here hx rfl (hb hby d5_32) rfl (l' := #[.val (.ref d), .val (.int ((0 : Int32) + (1 : Int32))), .val (.ref b), .val (.int (0 : Int32)), .val (.int (3 : Int32)), .val (.int (0 : Int32)), .val (.int c0)]) rfl kQ) ?_
  show G (T126.setTop (mkF me_ 35 #[.val (.ref d), .val (.int ((0 : Int32) + (1 : Int32))), .val (.ref b), .val (.int (0 : Int32)), .val (.int (3 : Int32)), .val (.int (0 : Int32)), .val (.int c0)] []))
  rw [(by decide : ((0 : Int32) + (1 : Int32)) = (1 : Int32))]
  show G (T126.setTop (mkF me_ 35 #[.val (.ref d), .val (.int (1 : Int32)), .val (.ref b), .val (.int (0 : Int32)), .val (.int (3 : Int32)), .val (.int (0 : Int32)), .val (.int c0)] []))
  refine gv (fun tQ kQ => XS.iinc X126.here hx rfl (hb hby d5_35) rfl (l' := #[.val (.ref d), .val (.int (1 : Int32)), .val (.ref b), .val (.int ((0 : Int32) + (1 : Int32))), .val (.int (3 : Int32)), .val (.int (0 : Int32)), .val (.int c0)]) rfl kQ) ?_
  show G (T126.setTop (mkF me_ 38 #[.val (.ref d), .val (.int (1 : Int32)), .val (.ref b), .val (.int ((0 : Int32) + (1 : Int32))), .val (.int (3 : Int32)), .val (.int (0 : Int32)), .val (.int c0)] []))
  rw [(by decide : ((0 : Int32) + (1 : Int32)) = (1 : Int32))]
  show G (T126.setTop (mkF me_ 38 #[.val (.ref d), .val (.int (1 : Int32)), .val (.ref b), .val (.int (1 : Int32)), .val (.int (3 : Int32)), .val (.int (0 : Int32)), .val (.int c0)] []))
  refine gv (fun tQ kQ => XS.iinc X126.here hx rfl (hb hby d5_38) rfl (l' := #[.val (.ref d), .val (.int (1 : Int32)), .val (.ref b), .val (.int (1 : Int32)), .val (.int (3 : Int32)), .val (.int ((0 : Int32) + (1 : Int32))), .val (.int c0)]) rfl kQ) ?_
  show G (T126.setTop (mkF me_ 41 #[.val (.ref d), .val (.int (1 : Int32)), .val (.ref b), .val (.int (1 : Int32)), .val (.int (3 : Int32)), .val (.int ((0 : Int32) + (1 : Int32))), .val (.int c0)] []))
  rw [(by decide : ((0 : Int32) + (1 : Int32)) = (1 : Int32))]
  show G (T126.setTop (mkF me_ 41 #[.val (.ref d), .val (.int (1 : Int32)), .val (.ref b), .val (.int (1 : Int32)), .val (.int (3 : Int32)), .val (.int (1 : Int32)), .val (.int c0)] []))
  refine gv (fun tQ kQ => XS.goto X126.here hx rfl (pc0 := 41) (pc' := 3) rfl (hb hby d5_41) (by decide) (by decide) kQ) ?_
  show G (T126.setTop (mkF me_ 3 #[.val (.ref d), .val (.int (1 : Int32)), .val (.ref b), .val (.int (1 : Int32)), .val (.int (3 : Int32)), .val (.int (1 : Int32)), .val (.int c0)] []))
  refine gv (fun tQ kQ => XS.iload X126.here hx rfl (hb hby d5_3) rfl kQ) ?_
  show G (T126.setTop (mkF me_ 5 #[.val (.ref d), .val (.int (1 : Int32)), .val (.ref b), .val (.int (1 : Int32)), .val (.int (3 : Int32)), .val (.int (1 : Int32)), .val (.int c0)] [(.int (1 : Int32))]))
  refine gv (fun tQ kQ => XS.iload X126.here hx rfl (hb hby d5_5) rfl kQ) ?_
  show G (T126.setTop (mkF me_ 7 #[.val (.ref d), .val (.int (1 : Int32)), .val (.ref b), .val (.int (1 : Int32)), .val (.int (3 : Int32)), .val (.int (1 : Int32)), .val (.int c0)] [(.int (3 : Int32)), (.int (1 : Int32))]))
  refine gv (fun tQ kQ => XS.icmpNo X126.here hx rfl (hb hby d5_7) rfl (tlt (by decide : (1 : Int32) < (3 : Int32))).2.1 kQ) ?_
  show G (T126.setTop (mkF me_ 10 #[.val (.ref d), .val (.int (1 : Int32)), .val (.ref b), .val (.int (1 : Int32)), .val (.int (3 : Int32)), .val (.int (1 : Int32)), .val (.int c0)] []))
  refine gv (fun tQ kQ => XS.aloadN X126.here hx rfl (hb hby d5_10) rfl rfl kQ) ?_
  show G (T126.setTop (mkF me_ 11 #[.val (.ref d), .val (.int (1 : Int32)), .val (.ref b), .val (.int (1 : Int32)), .val (.int (3 : Int32)), .val (.int (1 : Int32)), .val (.int c0)] [(.ref d)]))
  refine gv (fun tQ kQ => XS.iloadN X126.here hx rfl (hb hby d5_11) rfl kQ) ?_
  show G (T126.setTop (mkF me_ 12 #[.val (.ref d), .val (.int (1 : Int32)), .val (.ref b), .val (.int (1 : Int32)), .val (.int (3 : Int32)), .val (.int (1 : Int32)), .val (.int c0)] [(.int (1 : Int32)), (.ref d)]))
  obtain ⟨cl132, Ar132, q132, S132, n132, H132, G132⟩ := (id f128)
  have in132 : ¬ ((1 : Int32) < 0 ∨ cl132.slots.size ≤ ((1 : Int32)).toNatClampNeg) := inb_of S132 ⟨by decide, by decide⟩
  refine gv (X126.caload hx (j := (1 : Int32)) (v := (.int c1)) (by rw [e126]; exact Ar132.1) (State.isArrayOf_alike hZ.alike Ar132.2.1) Ar132.2.2 in132 (Has.at H132 in132 rfl) (g := (mkF me_ 12 #[.val (.ref d), .val (.int (1 : Int32)), .val (.ref b), .val (.int (1 : Int32)), .val (.int (3 : Int32)), .val (.int (1 : Int32)), .val (.int c0)] [(.int (1 : Int32)), (.ref d)])) rfl rfl (hb hby d5_12)) ?_
  show G (T126.setTop (mkF me_ 13 #[.val (.ref d), .val (.int (1 : Int32)), .val (.ref b), .val (.int (1 : Int32)), .val (.int (3 : Int32)), .val (.int (1 : Int32)), .val (.int c0)] [(.int c1)]))
  refine gv (fun tQ kQ => XS.istore X126.here hx rfl (hb hby d5_13) rfl (l' := #[.val (.ref d), .val (.int (1 : Int32)), .val (.ref b), .val (.int (1 : Int32)), .val (.int (3 : Int32)), .val (.int (1 : Int32)), .val (.int c1)]) rfl kQ) ?_
  show G (T126.setTop (mkF me_ 15 #[.val (.ref d), .val (.int (1 : Int32)), .val (.ref b), .val (.int (1 : Int32)), .val (.int (3 : Int32)), .val (.int (1 : Int32)), .val (.int c1)] []))
  refine gv (fun tQ kQ => XS.iload X126.here hx rfl (hb hby d5_15) rfl kQ) ?_
  show G (T126.setTop (mkF me_ 17 #[.val (.ref d), .val (.int (1 : Int32)), .val (.ref b), .val (.int (1 : Int32)), .val (.int (3 : Int32)), .val (.int (1 : Int32)), .val (.int c1)] [(.int c1)]))
  refine gv (fun tQ kQ => XS.sipush X126.here hx rfl (hb hby d5_17) kQ) ?_
  show G (T126.setTop (mkF me_ 20 #[.val (.ref d), .val (.int (1 : Int32)), .val (.ref b), .val (.int (1 : Int32)), .val (.int (3 : Int32)), .val (.int (1 : Int32)), .val (.int c1)] [(.int (255 : Int32)), (.int c1)]))
  refine gv (fun tQ kQ => XS.icmpYes X126.here hx rfl (pc0 := 20) (pc' := 26) rfl (hb hby d5_20) rfl (flt u1).2.2.2 (by decide) (by decide) kQ) ?_
  show G (T126.setTop (mkF me_ 26 #[.val (.ref d), .val (.int (1 : Int32)), .val (.ref b), .val (.int (1 : Int32)), .val (.int (3 : Int32)), .val (.int (1 : Int32)), .val (.int c1)] []))
  refine gv (fun tQ kQ => XS.aloadN X126.here hx rfl (hb hby d5_26) rfl rfl kQ) ?_
  show G (T126.setTop (mkF me_ 27 #[.val (.ref d), .val (.int (1 : Int32)), .val (.ref b), .val (.int (1 : Int32)), .val (.int (3 : Int32)), .val (.int (1 : Int32)), .val (.int c1)] [(.ref b)]))
  refine gv (fun tQ kQ => XS.iloadN X126.here hx rfl (hb hby d5_27) rfl kQ) ?_
  show G (T126.setTop (mkF me_ 28 #[.val (.ref d), .val (.int (1 : Int32)), .val (.ref b), .val (.int (1 : Int32)), .val (.int (3 : Int32)), .val (.int (1 : Int32)), .val (.int c1)] [(.int (1 : Int32)), (.ref b)]))
  refine gv (fun tQ kQ => XS.iload X126.here hx rfl (hb hby d5_28) rfl kQ) ?_
  show G (T126.setTop (mkF me_ 30 #[.val (.ref d), .val (.int (1 : Int32)), .val (.ref b), .val (.int (1 : Int32)), .val (.int (3 : Int32)), .val (.int (1 : Int32)), .val (.int c1)] [(.int c1), (.int (1 : Int32)), (.ref b)]))
  refine gv (fun tQ kQ => XS.i2b X126.here hx rfl (hb hby d5_30) rfl kQ) ?_
  show G (T126.setTop (mkF me_ 31 #[.val (.ref d), .val (.int (1 : Int32)), .val (.ref b), .val (.int (1 : Int32)), .val (.int (3 : Int32)), .val (.int (1 : Int32)), .val (.int c1)] [(.int (c1.toInt8.toInt32)), (.int (1 : Int32)), (.ref b)]))
  obtain ⟨cl133, Ar133, q133, S133, n133, H133, G133⟩ := (id f127)
  have in133 : ¬ ((1 : Int32) < 0 ∨ cl133.slots.size ≤ ((1 : Int32)).toNatClampNeg) := inb_of S133 ⟨by decide, by decide⟩
  obtain ⟨T133, h133, X133, e133, W133, st133⟩ := stB X126 hx hZ e126 Ar133 (j := (1 : Int32)) in133 (g := (mkF me_ 31 #[.val (.ref d), .val (.int (1 : Int32)), .val (.ref b), .val (.int (1 : Int32)), .val (.int (3 : Int32)), .val (.int (1 : Int32)), .val (.int c1)] [(.int (c1.toInt8.toInt32)), (.int (1 : Int32)), (.ref b)])) rfl rfl (hb hby d5_31)
  have W133 : Wr h126 h133 b ((1 : Int32)).toNatClampNeg (.int (c1.toInt8.toInt32)) := by have z := W133; rw [(own_narB _)] at z; exact z
  refine gv st133 ?_
  have f135 : Arv Z h133 d kd .char (3 : Int32) [(.int c0), (.int c1), (.int c2)] (.int (0 : Int32)) := f128.other W133 u6
  have O136 := O129.wr W133 u5
  have K137 := K130.wr W133 (Or.inl (List.mem_of_getElem? (i := 0) rfl))
  have N138 := Fr.snoc X133 N131 u5
  have f134 : Arv Z h133 b k .byte (3 : Int32) [(.int (c0.toInt8.toInt32)), (.int (c1.toInt8.toInt32)), (.int (0 : Int32))] (.int (0 : Int32)) := Arv.set Ar133 q133 S133 n133 H133 G133 (fits_nar_byte _) W133 1 rfl (Nat.le_of_ble_eq_true rfl)
  show G (T133.setTop (mkF me_ 32 #[.val (.ref d), .val (.int (1 : Int32)), .val (.ref b), .val (.int (1 : Int32)), .val (.int (3 : Int32)), .val (.int (1 : Int32)), .val (.int c1)] []))
  refine gv (fun tQ kQ => XS.iinc X133.here hx rfl (hb hby d5_32) rfl (l' := #[.val (.ref d), .val (.int ((1 : Int32) + (1 : Int32))), .val (.ref b), .val (.int (1 : Int32)), .val (.int (3 : Int32)), .val (.int (1 : Int32)), .val (.int c1)]) rfl kQ) ?_
  show G (T133.setTop (mkF me_ 35 #[.val (.ref d), .val (.int ((1 : Int32) + (1 : Int32))), .val (.ref b), .val (.int (1 : Int32)), .val (.int (3 : Int32)), .val (.int (1 : Int32)), .val (.int c1)] []))
  rw [(by decide : ((1 : Int32) + (1 : Int32)) = (2 : Int32))]
  show G (T133.setTop (mkF me_ 35 #[.val (.ref d), .val (.int (2 : Int32)), .val (.ref b), .val (.int (1 : Int32)), .val (.int (3 : Int32)), .val (.int (1 : Int32)), .val (.int c1)] []))
  refine gv (fun tQ kQ => XS.iinc X133.here hx rfl (hb hby d5_35) rfl (l' := #[.val (.ref d), .val (.int (2 : Int32)), .val (.ref b), .val (.int ((1 : Int32) + (1 : Int32))), .val (.int (3 : Int32)), .val (.int (1 : Int32)), .val (.int c1)]) rfl kQ) ?_
  show G (T133.setTop (mkF me_ 38 #[.val (.ref d), .val (.int (2 : Int32)), .val (.ref b), .val (.int ((1 : Int32) + (1 : Int32))), .val (.int (3 : Int32)), .val (.int (1 : Int32)), .val (.int c1)] []))
  rw [(by decide : ((1 : Int32) + (1 : Int32)) = (2 : Int32))]
  show G (T133.setTop (mkF me_ 38 #[.val (.ref d), .val (.int (2 : Int32)), .val (.ref b), .val (.int (2 : Int32)), .val (.int (3 : Int32)), .val (.int (1 : Int32)), .val (.int c1)] []))
  refine gv (fun tQ kQ => XS.iinc X133.here hx rfl (hb hby d5_38) rfl (l' := #[.val (.ref d), .val (.int (2 : Int32)), .val (.ref b), .val (.int (2 : Int32)), .val (.int (3 : Int32)), .val (.int ((1 : Int32) + (1 : Int32))), .val (.int c1)]) rfl kQ) ?_
  show G (T133.setTop (mkF me_ 41 #[.val (.ref d), .val (.int (2 : Int32)), .val (.ref b), .val (.int (2 : Int32)), .val (.int (3 : Int32)), .val (.int ((1 : Int32) + (1 : Int32))), .val (.int c1)] []))
  rw [(by decide : ((1 : Int32) + (1 : Int32)) = (2 : Int32))]
  show G (T133.setTop (mkF me_ 41 #[.val (.ref d), .val (.int (2 : Int32)), .val (.ref b), .val (.int (2 : Int32)), .val (.int (3 : Int32)), .val (.int (2 : Int32)), .val (.int c1)] []))
  refine gv (fun tQ kQ => XS.goto X133.here hx rfl (pc0 := 41) (pc' := 3) rfl (hb hby d5_41) (by decide) (by decide) kQ) ?_
  show G (T133.setTop (mkF me_ 3 #[.val (.ref d), .val (.int (2 : Int32)), .val (.ref b), .val (.int (2 : Int32)), .val (.int (3 : Int32)), .val (.int (2 : Int32)), .val (.int c1)] []))
  refine gv (fun tQ kQ => XS.iload X133.here hx rfl (hb hby d5_3) rfl kQ) ?_
  show G (T133.setTop (mkF me_ 5 #[.val (.ref d), .val (.int (2 : Int32)), .val (.ref b), .val (.int (2 : Int32)), .val (.int (3 : Int32)), .val (.int (2 : Int32)), .val (.int c1)] [(.int (2 : Int32))]))
  refine gv (fun tQ kQ => XS.iload X133.here hx rfl (hb hby d5_5) rfl kQ) ?_
  show G (T133.setTop (mkF me_ 7 #[.val (.ref d), .val (.int (2 : Int32)), .val (.ref b), .val (.int (2 : Int32)), .val (.int (3 : Int32)), .val (.int (2 : Int32)), .val (.int c1)] [(.int (3 : Int32)), (.int (2 : Int32))]))
  refine gv (fun tQ kQ => XS.icmpNo X133.here hx rfl (hb hby d5_7) rfl (tlt (by decide : (2 : Int32) < (3 : Int32))).2.1 kQ) ?_
  show G (T133.setTop (mkF me_ 10 #[.val (.ref d), .val (.int (2 : Int32)), .val (.ref b), .val (.int (2 : Int32)), .val (.int (3 : Int32)), .val (.int (2 : Int32)), .val (.int c1)] []))
  refine gv (fun tQ kQ => XS.aloadN X133.here hx rfl (hb hby d5_10) rfl rfl kQ) ?_
  show G (T133.setTop (mkF me_ 11 #[.val (.ref d), .val (.int (2 : Int32)), .val (.ref b), .val (.int (2 : Int32)), .val (.int (3 : Int32)), .val (.int (2 : Int32)), .val (.int c1)] [(.ref d)]))
  refine gv (fun tQ kQ => XS.iloadN X133.here hx rfl (hb hby d5_11) rfl kQ) ?_
  show G (T133.setTop (mkF me_ 12 #[.val (.ref d), .val (.int (2 : Int32)), .val (.ref b), .val (.int (2 : Int32)), .val (.int (3 : Int32)), .val (.int (2 : Int32)), .val (.int c1)] [(.int (2 : Int32)), (.ref d)]))
  obtain ⟨cl139, Ar139, q139, S139, n139, H139, G139⟩ := (id f135)
  have in139 : ¬ ((2 : Int32) < 0 ∨ cl139.slots.size ≤ ((2 : Int32)).toNatClampNeg) := inb_of S139 ⟨by decide, by decide⟩
  refine gv (X133.caload hx (j := (2 : Int32)) (v := (.int c2)) (by rw [e133]; exact Ar139.1) (State.isArrayOf_alike hZ.alike Ar139.2.1) Ar139.2.2 in139 (Has.at H139 in139 rfl) (g := (mkF me_ 12 #[.val (.ref d), .val (.int (2 : Int32)), .val (.ref b), .val (.int (2 : Int32)), .val (.int (3 : Int32)), .val (.int (2 : Int32)), .val (.int c1)] [(.int (2 : Int32)), (.ref d)])) rfl rfl (hb hby d5_12)) ?_
  show G (T133.setTop (mkF me_ 13 #[.val (.ref d), .val (.int (2 : Int32)), .val (.ref b), .val (.int (2 : Int32)), .val (.int (3 : Int32)), .val (.int (2 : Int32)), .val (.int c1)] [(.int c2)]))
  refine gv (fun tQ kQ => XS.istore X133.here hx rfl (hb hby d5_13) rfl (l' := #[.val (.ref d), .val (.int (2 : Int32)), .val (.ref b), .val (.int (2 : Int32)), .val (.int (3 : Int32)), .val (.int (2 : Int32)), .val (.int c2)]) rfl kQ) ?_
  show G (T133.setTop (mkF me_ 15 #[.val (.ref d), .val (.int (2 : Int32)), .val (.ref b), .val (.int (2 : Int32)), .val (.int (3 : Int32)), .val (.int (2 : Int32)), .val (.int c2)] []))
  refine gv (fun tQ kQ => XS.iload X133.here hx rfl (hb hby d5_15) rfl kQ) ?_
  show G (T133.setTop (mkF me_ 17 #[.val (.ref d), .val (.int (2 : Int32)), .val (.ref b), .val (.int (2 : Int32)), .val (.int (3 : Int32)), .val (.int (2 : Int32)), .val (.int c2)] [(.int c2)]))
  refine gv (fun tQ kQ => XS.sipush X133.here hx rfl (hb hby d5_17) kQ) ?_
  show G (T133.setTop (mkF me_ 20 #[.val (.ref d), .val (.int (2 : Int32)), .val (.ref b), .val (.int (2 : Int32)), .val (.int (3 : Int32)), .val (.int (2 : Int32)), .val (.int c2)] [(.int (255 : Int32)), (.int c2)]))
  refine gv (fun tQ kQ => XS.icmpYes X133.here hx rfl (pc0 := 20) (pc' := 26) rfl (hb hby d5_20) rfl (flt u2).2.2.2 (by decide) (by decide) kQ) ?_
  show G (T133.setTop (mkF me_ 26 #[.val (.ref d), .val (.int (2 : Int32)), .val (.ref b), .val (.int (2 : Int32)), .val (.int (3 : Int32)), .val (.int (2 : Int32)), .val (.int c2)] []))
  refine gv (fun tQ kQ => XS.aloadN X133.here hx rfl (hb hby d5_26) rfl rfl kQ) ?_
  show G (T133.setTop (mkF me_ 27 #[.val (.ref d), .val (.int (2 : Int32)), .val (.ref b), .val (.int (2 : Int32)), .val (.int (3 : Int32)), .val (.int (2 : Int32)), .val (.int c2)] [(.ref b)]))
  refine gv (fun tQ kQ => XS.iloadN X133.here hx rfl (hb hby d5_27) rfl kQ) ?_
  show G (T133.setTop (mkF me_ 28 #[.val (.ref d), .val (.int (2 : Int32)), .val (.ref b), .val (.int (2 : Int32)), .val (.int (3 : Int32)), .val (.int (2 : Int32)), .val (.int c2)] [(.int (2 : Int32)), (.ref b)]))
  refine gv (fun tQ kQ => XS.iload X133.here hx rfl (hb hby d5_28) rfl kQ) ?_
  show G (T133.setTop (mkF me_ 30 #[.val (.ref d), .val (.int (2 : Int32)), .val (.ref b), .val (.int (2 : Int32)), .val (.int (3 : Int32)), .val (.int (2 : Int32)), .val (.int c2)] [(.int c2), (.int (2 : Int32)), (.ref b)]))
  refine gv (fun tQ kQ => XS.i2b X133.here hx rfl (hb hby d5_30) rfl kQ) ?_
  show G (T133.setTop (mkF me_ 31 #[.val (.ref d), .val (.int (2 : Int32)), .val (.ref b), .val (.int (2 : Int32)), .val (.int (3 : Int32)), .val (.int (2 : Int32)), .val (.int c2)] [(.int (c2.toInt8.toInt32)), (.int (2 : Int32)), (.ref b)]))
  obtain ⟨cl140, Ar140, q140, S140, n140, H140, G140⟩ := (id f134)
  have in140 : ¬ ((2 : Int32) < 0 ∨ cl140.slots.size ≤ ((2 : Int32)).toNatClampNeg) := inb_of S140 ⟨by decide, by decide⟩
  obtain ⟨T140, h140, X140, e140, W140, st140⟩ := stB X133 hx hZ e133 Ar140 (j := (2 : Int32)) in140 (g := (mkF me_ 31 #[.val (.ref d), .val (.int (2 : Int32)), .val (.ref b), .val (.int (2 : Int32)), .val (.int (3 : Int32)), .val (.int (2 : Int32)), .val (.int c2)] [(.int (c2.toInt8.toInt32)), (.int (2 : Int32)), (.ref b)])) rfl rfl (hb hby d5_31)
  have W140 : Wr h133 h140 b ((2 : Int32)).toNatClampNeg (.int (c2.toInt8.toInt32)) := by have z := W140; rw [(own_narB _)] at z; exact z
  refine gv st140 ?_
  have f142 : Arv Z h140 d kd .char (3 : Int32) [(.int c0), (.int c1), (.int c2)] (.int (0 : Int32)) := f135.other W140 u6
  have O143 := O136.wr W140 u5
  have K144 := K137.wr W140 (Or.inl (List.mem_of_getElem? (i := 0) rfl))
  have N145 := Fr.snoc X140 N138 u5
  have f141 : Arv Z h140 b k .byte (3 : Int32) [(.int (c0.toInt8.toInt32)), (.int (c1.toInt8.toInt32)), (.int (c2.toInt8.toInt32))] (.int (0 : Int32)) := Arv.set Ar140 q140 S140 n140 H140 G140 (fits_nar_byte _) W140 2 rfl (Nat.le_of_ble_eq_true rfl)
  show G (T140.setTop (mkF me_ 32 #[.val (.ref d), .val (.int (2 : Int32)), .val (.ref b), .val (.int (2 : Int32)), .val (.int (3 : Int32)), .val (.int (2 : Int32)), .val (.int c2)] []))
  refine gv (fun tQ kQ => XS.iinc X140.here hx rfl (hb hby d5_32) rfl (l' := #[.val (.ref d), .val (.int ((2 : Int32) + (1 : Int32))), .val (.ref b), .val (.int (2 : Int32)), .val (.int (3 : Int32)), .val (.int (2 : Int32)), .val (.int c2)]) rfl kQ) ?_
  show G (T140.setTop (mkF me_ 35 #[.val (.ref d), .val (.int ((2 : Int32) + (1 : Int32))), .val (.ref b), .val (.int (2 : Int32)), .val (.int (3 : Int32)), .val (.int (2 : Int32)), .val (.int c2)] []))
  rw [(by decide : ((2 : Int32) + (1 : Int32)) = (3 : Int32))]
  show G (T140.setTop (mkF me_ 35 #[.val (.ref d), .val (.int (3 : Int32)), .val (.ref b), .val (.int (2 : Int32)), .val (.int (3 : Int32)), .val (.int (2 : Int32)), .val (.int c2)] []))
  refine gv (fun tQ kQ => XS.iinc X140.here hx rfl (hb hby d5_35) rfl (l' := #[.val (.ref d), .val (.int (3 : Int32)), .val (.ref b), .val (.int ((2 : Int32) + (1 : Int32))), .val (.int (3 : Int32)), .val (.int (2 : Int32)), .val (.int c2)]) rfl kQ) ?_
  show G (T140.setTop (mkF me_ 38 #[.val (.ref d), .val (.int (3 : Int32)), .val (.ref b), .val (.int ((2 : Int32) + (1 : Int32))), .val (.int (3 : Int32)), .val (.int (2 : Int32)), .val (.int c2)] []))
  rw [(by decide : ((2 : Int32) + (1 : Int32)) = (3 : Int32))]
  show G (T140.setTop (mkF me_ 38 #[.val (.ref d), .val (.int (3 : Int32)), .val (.ref b), .val (.int (3 : Int32)), .val (.int (3 : Int32)), .val (.int (2 : Int32)), .val (.int c2)] []))
  refine gv (fun tQ kQ => XS.iinc X140.here hx rfl (hb hby d5_38) rfl (l' := #[.val (.ref d), .val (.int (3 : Int32)), .val (.ref b), .val (.int (3 : Int32)), .val (.int (3 : Int32)), .val (.int ((2 : Int32) + (1 : Int32))), .val (.int c2)]) rfl kQ) ?_
  show G (T140.setTop (mkF me_ 41 #[.val (.ref d), .val (.int (3 : Int32)), .val (.ref b), .val (.int (3 : Int32)), .val (.int (3 : Int32)), .val (.int ((2 : Int32) + (1 : Int32))), .val (.int c2)] []))
  rw [(by decide : ((2 : Int32) + (1 : Int32)) = (3 : Int32))]
  show G (T140.setTop (mkF me_ 41 #[.val (.ref d), .val (.int (3 : Int32)), .val (.ref b), .val (.int (3 : Int32)), .val (.int (3 : Int32)), .val (.int (3 : Int32)), .val (.int c2)] []))
  refine gv (fun tQ kQ => XS.goto X140.here hx rfl (pc0 := 41) (pc' := 3) rfl (hb hby d5_41) (by decide) (by decide) kQ) ?_
  show G (T140.setTop (mkF me_ 3 #[.val (.ref d), .val (.int (3 : Int32)), .val (.ref b), .val (.int (3 : Int32)), .val (.int (3 : Int32)), .val (.int (3 : Int32)), .val (.int c2)] []))
  refine gv (fun tQ kQ => XS.iload X140.here hx rfl (hb hby d5_3) rfl kQ) ?_
  show G (T140.setTop (mkF me_ 5 #[.val (.ref d), .val (.int (3 : Int32)), .val (.ref b), .val (.int (3 : Int32)), .val (.int (3 : Int32)), .val (.int (3 : Int32)), .val (.int c2)] [(.int (3 : Int32))]))
  refine gv (fun tQ kQ => XS.iload X140.here hx rfl (hb hby d5_5) rfl kQ) ?_
  show G (T140.setTop (mkF me_ 7 #[.val (.ref d), .val (.int (3 : Int32)), .val (.ref b), .val (.int (3 : Int32)), .val (.int (3 : Int32)), .val (.int (3 : Int32)), .val (.int c2)] [(.int (3 : Int32)), (.int (3 : Int32))]))
  refine gv (fun tQ kQ => XS.icmpYes X140.here hx rfl (pc0 := 7) (pc' := 44) rfl (hb hby d5_7) rfl (flt (by decide : ¬ ((3 : Int32) < (3 : Int32)))).2.1 (by decide) (by decide) kQ) ?_
  show G (T140.setTop (mkF me_ 44 #[.val (.ref d), .val (.int (3 : Int32)), .val (.ref b), .val (.int (3 : Int32)), .val (.int (3 : Int32)), .val (.int (3 : Int32)), .val (.int c2)] []))
  refine gv (fun tQ kQ => XS.iload X140.here hx rfl (hb hby d5_44) rfl kQ) ?_
  show G (T140.setTop (mkF me_ 46 #[.val (.ref d), .val (.int (3 : Int32)), .val (.ref b), .val (.int (3 : Int32)), .val (.int (3 : Int32)), .val (.int (3 : Int32)), .val (.int c2)] [(.int (3 : Int32))]))
  refine gf _ (own_ret X140 Bd.notSynchronized (v := some (.int (3 : Int32))) (fun h => by rw [Bd.returns] at h; cases h) ?_ (by decide) (by decide) (fun fs hr => retOut X140 hx (t := .int) Bd.returns rfl (Or.inl ⟨rfl, Or.inl rfl, _, rfl⟩) (hb hby d5_46) hr))
  show Q_cmp3 Z d kd b k c0 c1 c2 h0 n0 _ T140.heap _
  rw [e140]
  exact ⟨rfl, N145, K144, f141⟩
def Q_cmpr3 (Z : State) (d : Addr) (kd : ClassId) (c0 : Int32) (c1 : Int32) (c2 : Int32) (h0 : Heap) (n0 : Nat) (v : Option Value) (h : Heap) (L : List Loc) : Prop := ∃ (b : Addr), ∃ (k : ClassId), v = some (.ref b) ∧ Fr n0 L ∧ Keep h0 h [] ∧ h0.size ≤ b ∧ (Arv Z h b k .byte (3 : Int32) [(.int (c0.toInt8.toInt32)), (.int (c1.toInt8.toInt32)), (.int (c2.toInt8.toInt32))] (.int (0 : Int32)))
set_option maxRecDepth 65536 in
set_option maxHeartbeats 40000000 in
theorem rm_cmpr3 (l : Launch) (Z : State) (a0 : Array Value) (hw : ∀ d ∈ tables_1, d.before a0 Z = true) (ws : List Jvm.Cond) (d : Addr) (kd : ClassId) (c0 : Int32) (c1 : Int32) (c2 : Int32) (h0 : Heap) (n0 : Nat) (O0 : Old Z n0 h0) (u0 : ¬ ((255 : Int32) < c0)) (u1 : ¬ ((255 : Int32) < c1)) (u2 : ¬ ((255 : Int32) < c2)) (u3 : Arv Z h0 d kd .char (3 : Int32) [(.int c0), (.int c1), (.int c2)] (.int (0 : Int32))) :
    MetFree l (⟨"java/lang/StringUTF16", "compress", "([CII)[B"⟩ : MethodName) (head1 (Jvm.Cond.code (⟨"java/lang/StringUTF16", "compress", "([CII)[B"⟩ : MethodName) jdk_52_method_16_code 6 (some (.array .byte)) :: ws) ({ frames := 1, cells := 1, slots := 3, locals := 18 } : Room)) (fun aV U => aV = #[(.ref d), (.int (0 : Int32)), (.int (3 : Int32))] ∧ Z.Warmed39 U.vm ∧ U.heap = h0) (fun _ _ _ _ _ => True) (fun _ U o U' => ∃ v L, o = .returned v ∧ Q_cmpr3 Z d kd c0 c1 c2 h0 n0 v U'.heap L ∧ FrameEnd U o U' L ({ frames := 1, cells := 1, slots := 3, locals := 18 } : Room).cells ({ frames := 1, cells := 1, slots := 3, locals := 18 } : Room).slots) := by
  refine MetFree.of_bodySF (plainFor_of_name pn_2) hisR ?_
  intro pr_ en_ st_ me_ args below meth_ co_ s₁ Bd hml0 hP hK
  obtain ⟨rfl, hZ, hh⟩ := hP
  have hx := Bd.exec
  have hby := Bd.bytes
  have hml : co_.maxLocals = 6 := hml0
  have hown : st_.vm.findClass "java/lang/StringUTF16" = some me_.cls := findClass_of_methodNamed Bd.named
  have hnm := (name_of_methodNamed Bd.named Bd.method).1
  have X0 : Stand pr_ l en_ ({ frames := 1, cells := 1, slots := 3, locals := 18 } : Room) st_ me_ #[(.ref d), (.int (0 : Int32)), (.int (3 : Int32))] below meth_ co_ s₁ [] 0 0 := Stand.of_body Bd
  have e0 : s₁.heap = h0 := by rw [← hh, Bd.state]; rfl
  have N0 := Fr.nil n0
  have K0 := Keep.refl h0 []
  obtain ⟨G, gv, gf, gb⟩ := own_G pr_.tables en_ below st_ (Q_cmpr3 Z d kd c0 c1 c2 h0 n0) ({ frames := 1, cells := 1, slots := 3, locals := 18 } : Room).cells ({ frames := 1, cells := 1, slots := 3, locals := 18 } : Room).slots
  show own_Fin pr_.tables en_ below st_ (Q_cmpr3 Z d kd c0 c1 c2 h0 n0) ({ frames := 1, cells := 1, slots := 3, locals := 18 } : Room).cells ({ frames := 1, cells := 1, slots := 3, locals := 18 } : Room).slots (s₁.setTop (entryFrame me_ #[(.ref d), (.int (0 : Int32)), (.int (3 : Int32))] 6))
  refine gb _ (gv (fun tQ kQ => castTop (ef_3 me_ d (0 : Int32) (3 : Int32)) kQ) ?_)
  show G (s₁.setTop (mkF me_ 0 #[.val (.ref d), .val (.int (0 : Int32)), .val (.int (3 : Int32)), .unset, .unset, .unset] []))
  refine gv (fun tQ kQ => XS.iloadN X0.here hx rfl (hb hby d4_0) rfl kQ) ?_
  show G (s₁.setTop (mkF me_ 1 #[.val (.ref d), .val (.int (0 : Int32)), .val (.int (3 : Int32)), .unset, .unset, .unset] [(.int (3 : Int32))]))
  obtain ⟨T146, h146, k146, X146, e146, E146, A146, st146⟩ := newP X0 hx hZ (hw _ (List.mem_of_getElem? (i := 19) rfl)) e0 (g := (mkF me_ 1 #[.val (.ref d), .val (.int (0 : Int32)), .val (.int (3 : Int32)), .unset, .unset, .unset] [(.int (3 : Int32))])) rfl (hb hby d4_1) rfl (by decide) (cap := 3) (by decide) (by decide) (by decide) (by decide)
  obtain ⟨b146, g146⟩ : ∃ z, z = h0.size := ⟨_, rfl⟩
  rw [← g146] at A146 st146
  refine gv st146 ?_
  have ne147 : d ≠ b146 := Nat.ne_of_lt (Nat.lt_of_lt_of_le u3.lt (Nat.le_of_eq g146.symm))
  have g148 : n0 ≤ b146 := Nat.le_trans (own_old O0) (Nat.le_of_eq g146.symm)
  have z149 : h0.size ≤ b146 := Nat.le_trans K0.1 (Nat.le_of_eq g146.symm)
  have f150 : Arv Z h146 d kd .char (3 : Int32) [(.int c0), (.int c1), (.int c2)] (.int (0 : Int32)) := u3.ext E146
  have O151 := O0.ext E146
  have K152 := K0.ext E146
  have V146 : Arv Z h146 b146 k146 .byte (3 : Int32) [(.int (0 : Int32)), (.int (0 : Int32)), (.int (0 : Int32))] (.int (0 : Int32)) := (Arv.new A146 (by decide)).pad (pad_rep [] (.int (0 : Int32)) 3)
  show G (T146.setTop (mkF me_ 3 #[.val (.ref d), .val (.int (0 : Int32)), .val (.int (3 : Int32)), .unset, .unset, .unset] [(.ref b146)]))
  refine gv (fun tQ kQ => XS.astoreN X146.here hx rfl (hb hby d4_3) rfl rfl (l' := #[.val (.ref d), .val (.int (0 : Int32)), .val (.int (3 : Int32)), .val (.ref b146), .unset, .unset]) rfl kQ) ?_
  show G (T146.setTop (mkF me_ 4 #[.val (.ref d), .val (.int (0 : Int32)), .val (.int (3 : Int32)), .val (.ref b146), .unset, .unset] []))
  refine gv (fun tQ kQ => XS.aloadN X146.here hx rfl (hb hby d4_4) rfl rfl kQ) ?_
  show G (T146.setTop (mkF me_ 5 #[.val (.ref d), .val (.int (0 : Int32)), .val (.int (3 : Int32)), .val (.ref b146), .unset, .unset] [(.ref d)]))
  refine gv (fun tQ kQ => XS.iloadN X146.here hx rfl (hb hby d4_5) rfl kQ) ?_
  show G (T146.setTop (mkF me_ 6 #[.val (.ref d), .val (.int (0 : Int32)), .val (.int (3 : Int32)), .val (.ref b146), .unset, .unset] [(.int (0 : Int32)), (.ref d)]))
  refine gv (fun tQ kQ => XS.aloadN X146.here hx rfl (hb hby d4_6) rfl rfl kQ) ?_
  show G (T146.setTop (mkF me_ 7 #[.val (.ref d), .val (.int (0 : Int32)), .val (.int (3 : Int32)), .val (.ref b146), .unset, .unset] [(.ref b146), (.int (0 : Int32)), (.ref d)]))
  refine gv (fun tQ kQ => XS.iconst X146.here hx rfl (hb hby d4_7) kQ) ?_
  show G (T146.setTop (mkF me_ 8 #[.val (.ref d), .val (.int (0 : Int32)), .val (.int (3 : Int32)), .val (.ref b146), .unset, .unset] [(.int (0 : Int32)), (.ref b146), (.int (0 : Int32)), (.ref d)]))
  refine gv (fun tQ kQ => XS.iloadN X146.here hx rfl (hb hby d4_8) rfl kQ) ?_
  show G (T146.setTop (mkF me_ 9 #[.val (.ref d), .val (.int (0 : Int32)), .val (.int (3 : Int32)), .val (.ref b146), .unset, .unset] [(.int (3 : Int32)), (.int (0 : Int32)), (.ref b146), (.int (0 : Int32)), (.ref d)]))
  obtain ⟨_, _, ⟨T153, L153, k153, n153⟩, -, X153, ⟨Lc153, hQ153, l153, y153, z153⟩, st153⟩ := Jvm.LawKit.callS X146 hx (y := (⟨"java/lang/StringUTF16", "compress", "([CI[BII)I"⟩ : MethodName)) hown (mvT hZ (hw _ (List.mem_of_getElem? (i := 20) rfl))) (mvT hZ (hw _ (List.mem_of_getElem? (i := 21) rfl))) (mvT hZ (hw _ (List.mem_of_getElem? (i := 17) rfl))) (mvT hZ (hw _ (List.mem_of_getElem? (i := 22) rfl))) (by decide) (backOf (W := 0) (rm_cmp3 l Z a0 hw [] d kd b146 k146 c0 c1 c2 h146 n0 O151 u0 u1 u2 f150 V146 g148 ne147) hZ (hw _ (List.mem_of_getElem? (i := 22) rfl)) (hw _ (List.mem_of_getElem? (i := 17) rfl)) (by decide) (by decide)) (g := (mkF me_ 9 #[.val (.ref d), .val (.int (0 : Int32)), .val (.int (3 : Int32)), .val (.ref b146), .unset, .unset] [(.int (3 : Int32)), (.int (0 : Int32)), (.ref b146), (.int (0 : Int32)), (.ref d)])) rfl (by rw [hml]; rfl) (argsL := [(.ref d), (.int (0 : Int32)), (.ref b146), (.int (0 : Int32)), (.int (3 : Int32))]) (rest := []) (lenOf pd_3 rfl) rfl (by show 2 * 0 + _ ≤ _; exact Nat.le_of_eq rfl) (hb hby d4_9) (fun _ _ => ⟨rfl, e146, (by decide : 1 + 0 ≤ _), (by decide : 3 + 0 ≤ _)⟩)
  dsimp only [Pt.U, Pt.locs, Pt.cells, Pt.slots] at X153 l153 y153 z153 st153 hQ153
  subst l153 y153 z153
  obtain ⟨rfl, Nq153, Kq153, w153_0⟩ := hQ153
  have N154 := Fr.app N0 Nq153
  obtain ⟨h153, e153⟩ : ∃ z, T153.heap = z := ⟨_, rfl⟩
  rw [e153] at Kq153 w153_0
  have f155 : Arv Z h153 d kd .char (3 : Int32) [(.int c0), (.int c1), (.int c2)] (.int (0 : Int32)) := f150.keep Kq153 (ninS ne147 nin0)
  have O156 := O151.keep Kq153 (allS g148 all0)
  have K157 := K152.trans Kq153 (allS (Or.inr z149) all0)
  refine gv st153 ?_
  show G (T153.setTop (mkF me_ 12 #[.val (.ref d), .val (.int (0 : Int32)), .val (.int (3 : Int32)), .val (.ref b146), .unset, .unset] [(.int (3 : Int32))]))
  refine gv (fun tQ kQ => XS.istore X153.here hx rfl (hb hby d4_12) rfl (l' := #[.val (.ref d), .val (.int (0 : Int32)), .val (.int (3 : Int32)), .val (.ref b146), .val (.int (3 : Int32)), .unset]) rfl kQ) ?_
  show G (T153.setTop (mkF me_ 14 #[.val (.ref d), .val (.int (0 : Int32)), .val (.int (3 : Int32)), .val (.ref b146), .val (.int (3 : Int32)), .unset] []))
  refine gv (fun tQ kQ => XS.iload X153.here hx rfl (hb hby d4_14) rfl kQ) ?_
  show G (T153.setTop (mkF me_ 16 #[.val (.ref d), .val (.int (0 : Int32)), .val (.int (3 : Int32)), .val (.ref b146), .val (.int (3 : Int32)), .unset] [(.int (3 : Int32))]))
  refine gv (fun tQ kQ => XS.iloadN X153.here hx rfl (hb hby d4_16) rfl kQ) ?_
  show G (T153.setTop (mkF me_ 17 #[.val (.ref d), .val (.int (0 : Int32)), .val (.int (3 : Int32)), .val (.ref b146), .val (.int (3 : Int32)), .unset] [(.int (3 : Int32)), (.int (3 : Int32))]))
  refine gv (fun tQ kQ => XS.icmpYes X153.here hx rfl (pc0 := 17) (pc' := 57) rfl (hb hby d4_17) rfl (teq (by decide : (3 : Int32) = (3 : Int32))).1 (by decide) (by decide) kQ) ?_
  show G (T153.setTop (mkF me_ 57 #[.val (.ref d), .val (.int (0 : Int32)), .val (.int (3 : Int32)), .val (.ref b146), .val (.int (3 : Int32)), .unset] []))
  refine gv (fun tQ kQ => XS.aloadN X153.here hx rfl (hb hby d4_57) rfl rfl kQ) ?_
  show G (T153.setTop (mkF me_ 58 #[.val (.ref d), .val (.int (0 : Int32)), .val (.int (3 : Int32)), .val (.ref b146), .val (.int (3 : Int32)), .unset] [(.ref b146)]))
  refine gf _ (own_ret X153 Bd.notSynchronized (v := some (.ref b146)) (fun h => by rw [Bd.returns] at h; cases h) ?_ (by decide) (by decide) (fun fs hr => retOut X153 hx (t := (.array .byte)) Bd.returns rfl (Or.inr (Or.inr (Or.inr (Or.inr ⟨rfl, rfl, rfl⟩)))) (hb hby d4_58) hr))
  show Q_cmpr3 Z d kd c0 c1 c2 h0 n0 _ T153.heap _
  rw [e153]
  exact ⟨b146, k146, rfl, N154, K157, z149, w153_0⟩
def Q_cfal3 (Z : State) (b : Addr) (k : ClassId) (x0 : Int32) (x1 : Int32) (x2 : Int32) (h0 : Heap) (n0 : Nat) (v : Option Value) (h : Heap) (L : List Loc) : Prop := v = some (.int (0 : Int32)) ∧ Fr n0 L ∧ h = h0
set_option maxRecDepth 65536 in
set_option maxHeartbeats 40000000 in
theorem rm_cfal3 (l : Launch) (Z : State) (a0 : Array Value) (hw : ∀ d ∈ tables_1, d.before a0 Z = true) (ws : List Jvm.Cond) (b : Addr) (k : ClassId) (x0 : Int32) (x1 : Int32) (x2 : Int32) (h0 : Heap) (n0 : Nat) (O0 : Old Z n0 h0) (u0 : Arv Z h0 b k .byte (3 : Int32) [(.int x0), (.int x1), (.int x2)] (.int (0 : Int32))) :
    MetFree l (⟨"java/lang/StringUTF16", "coderFromArrayLen", "([BI)B"⟩ : MethodName) (head1 (Jvm.Cond.code (⟨"java/lang/StringUTF16", "coderFromArrayLen", "([BI)B"⟩ : MethodName) jdk_52_method_15_code 2 (some .byte) :: ws) ({ frames := 0, cells := 0, slots := 0, locals := 0 } : Room)) (fun aV U => aV = #[(.ref b), (.int (3 : Int32))] ∧ Z.Warmed39 U.vm ∧ U.heap = h0) (fun _ _ _ _ _ => True) (fun _ U o U' => ∃ v L, o = .returned v ∧ Q_cfal3 Z b k x0 x1 x2 h0 n0 v U'.heap L ∧ FrameEnd U o U' L ({ frames := 0, cells := 0, slots := 0, locals := 0 } : Room).cells ({ frames := 0, cells := 0, slots := 0, locals := 0 } : Room).slots) := by
  refine MetFree.of_bodySF (plainFor_of_name pn_2) hisR ?_
  intro pr_ en_ st_ me_ args below meth_ co_ s₁ Bd hml0 hP hK
  obtain ⟨rfl, hZ, hh⟩ := hP
  have hx := Bd.exec
  have hby := Bd.bytes
  have hml : co_.maxLocals = 2 := hml0
  have hown : st_.vm.findClass "java/lang/StringUTF16" = some me_.cls := findClass_of_methodNamed Bd.named
  have hnm := (name_of_methodNamed Bd.named Bd.method).1
  have X0 : Stand pr_ l en_ ({ frames := 0, cells := 0, slots := 0, locals := 0 } : Room) st_ me_ #[(.ref b), (.int (3 : Int32))] below meth_ co_ s₁ [] 0 0 := Stand.of_body Bd
  have e0 : s₁.heap = h0 := by rw [← hh, Bd.state]; rfl
  have N0 := Fr.nil n0
  have K0 := Keep.refl h0 []
  obtain ⟨G, gv, gf, gb⟩ := own_G pr_.tables en_ below st_ (Q_cfal3 Z b k x0 x1 x2 h0 n0) ({ frames := 0, cells := 0, slots := 0, locals := 0 } : Room).cells ({ frames := 0, cells := 0, slots := 0, locals := 0 } : Room).slots
  show own_Fin pr_.tables en_ below st_ (Q_cfal3 Z b k x0 x1 x2 h0 n0) ({ frames := 0, cells := 0, slots := 0, locals := 0 } : Room).cells ({ frames := 0, cells := 0, slots := 0, locals := 0 } : Room).slots (s₁.setTop (entryFrame me_ #[(.ref b), (.int (3 : Int32))] 2))
  refine gb _ (gv (fun tQ kQ => castTop (ef_4 me_ b (3 : Int32)) kQ) ?_)
  show G (s₁.setTop (mkF me_ 0 #[.val (.ref b), .val (.int (3 : Int32))] []))
  refine gv (fun tQ kQ => XS.iloadN X0.here hx rfl (hb hby d6_0) rfl kQ) ?_
  show G (s₁.setTop (mkF me_ 1 #[.val (.ref b), .val (.int (3 : Int32))] [(.int (3 : Int32))]))
  refine gv (fun tQ kQ => XS.aloadN X0.here hx rfl (hb hby d6_1) rfl rfl kQ) ?_
  show G (s₁.setTop (mkF me_ 2 #[.val (.ref b), .val (.int (3 : Int32))] [(.ref b), (.int (3 : Int32))]))
  obtain ⟨cl158, Ar158, -, S158, n158, -, -⟩ := (id u0)
  refine gv (X0.arraylength hx (by rw [e0]; exact Ar158.1) (State.isArrayOf_alike hZ.alike Ar158.2.1) (g := (mkF me_ 2 #[.val (.ref b), .val (.int (3 : Int32))] [(.ref b), (.int (3 : Int32))])) rfl rfl (hb hby d6_2)) ?_
  rw [len_of S158 n158]
  show G (s₁.setTop (mkF me_ 3 #[.val (.ref b), .val (.int (3 : Int32))] [(.int (3 : Int32)), (.int (3 : Int32))]))
  refine gv (fun tQ kQ => XS.isub X0.here hx rfl (hb hby d6_3) rfl kQ) ?_
  show G (s₁.setTop (mkF me_ 4 #[.val (.ref b), .val (.int (3 : Int32))] [(.int ((3 : Int32) - (3 : Int32)))]))
  rw [(by decide : ((3 : Int32) - (3 : Int32)) = (0 : Int32))]
  show G (s₁.setTop (mkF me_ 4 #[.val (.ref b), .val (.int (3 : Int32))] [(.int (0 : Int32))]))
  refine gv (fun tQ kQ => XS.bipush X0.here hx rfl (hb hby d6_4) kQ) ?_
  show G (s₁.setTop (mkF me_ 6 #[.val (.ref b), .val (.int (3 : Int32))] [(.int (31 : Int32)), (.int (0 : Int32))]))
  refine gv (fun tQ kQ => XS.iushr X0.here hx rfl (hb hby d6_6) rfl kQ) ?_
  show G (s₁.setTop (mkF me_ 7 #[.val (.ref b), .val (.int (3 : Int32))] [(.int (((0 : Int32).toUInt32 >>> ((31 : Int32) &&& 31).toUInt32).toInt32))]))
  rw [(by decide : (((0 : Int32).toUInt32 >>> ((31 : Int32) &&& 31).toUInt32).toInt32) = (0 : Int32))]
  show G (s₁.setTop (mkF me_ 7 #[.val (.ref b), .val (.int (3 : Int32))] [(.int (0 : Int32))]))
  refine gv (fun tQ kQ => XS.i2b X0.here hx rfl (hb hby d6_7) rfl kQ) ?_
  show G (s₁.setTop (mkF me_ 8 #[.val (.ref b), .val (.int (3 : Int32))] [(.int ((0 : Int32).toInt8.toInt32))]))
  rw [(by decide : ((0 : Int32).toInt8.toInt32) = (0 : Int32))]
  show G (s₁.setTop (mkF me_ 8 #[.val (.ref b), .val (.int (3 : Int32))] [(.int (0 : Int32))]))
  refine gf _ (own_ret X0 Bd.notSynchronized (v := some (.int (0 : Int32))) (fun h => by rw [Bd.returns] at h; cases h) ?_ (by decide) (by decide) (fun fs hr => retN X0 hx (t := .byte) Bd.returns (by simp) (hb hby d6_8) hr))
  show Q_cfal3 Z b k x0 x1 x2 h0 n0 _ s₁.heap _
  rw [e0]
  exact ⟨rfl, N0, rfl⟩
def Q_sci3 (Z : State) (a : Addr) (d : Addr) (kd : ClassId) (c0 : Int32) (c1 : Int32) (c2 : Int32) (cs : Int32) (h0 : Heap) (n0 : Nat) (v : Option Value) (h : Heap) (L : List Loc) : Prop := ∃ (b : Addr), ∃ (k : ClassId), v = none ∧ Fr n0 L ∧ Keep h0 h [a] ∧ h0.size ≤ b ∧ (Exa Z h a "java/lang/String") ∧ (Fld Z h a "java/lang/String" "coder" "B" (.int (0 : Int32))) ∧ (Fld Z h a "java/lang/String" "value" "[B" (.ref b)) ∧ (Arv Z h b k .byte (3 : Int32) [(.int (c0.toInt8.toInt32)), (.int (c1.toInt8.toInt32)), (.int (c2.toInt8.toInt32))] (.int (0 : Int32)))
set_option maxRecDepth 65536 in
set_option maxHeartbeats 40000000 in
theorem rm_sci3 (l : Launch) (Z : State) (a0 : Array Value) (hw : ∀ d ∈ tables_1, d.before a0 Z = true) (ws : List Jvm.Cond) (a : Addr) (d : Addr) (kd : ClassId) (c0 : Int32) (c1 : Int32) (c2 : Int32) (cs : Int32) (h0 : Heap) (n0 : Nat) (O0 : Old Z n0 h0) (u0 : Sta Z Z.heap "java/lang/String" "COMPACT_STRINGS" "Z" (.int cs)) (u1 : ¬ (cs = (0 : Int32))) (u2 : ¬ ((255 : Int32) < c0)) (u3 : ¬ ((255 : Int32) < c1)) (u4 : ¬ ((255 : Int32) < c2)) (u5 : Exa Z h0 a "java/lang/String") (u6 : Fld Z h0 a "java/lang/String" "value" "[B" .null) (u7 : Fld Z h0 a "java/lang/String" "coder" "B" (.int (0 : Int32))) (u8 : n0 ≤ a) (u9 : Arv Z h0 d kd .char (3 : Int32) [(.int c0), (.int c1), (.int c2)] (.int (0 : Int32))) (u10 : a ≠ d) :
    MetFree l (⟨"java/lang/String", "<init>", "([CIILjava/lang/Void;)V"⟩ : MethodName) (head1 (Jvm.Cond.code (⟨"java/lang/String", "<init>", "([CIILjava/lang/Void;)V"⟩ : MethodName) jdk_42_method_149_code 6 none :: ws) ({ frames := 2, cells := 1, slots := 3, locals := 35 } : Room)) (fun aV U => aV = #[(.ref a), (.ref d), (.int (0 : Int32)), (.int (3 : Int32)), .null] ∧ Z.Warmed39 U.vm ∧ U.heap = h0) (fun _ _ _ _ _ => True) (fun _ U o U' => ∃ v L, o = .returned v ∧ Q_sci3 Z a d kd c0 c1 c2 cs h0 n0 v U'.heap L ∧ FrameEnd U o U' L ({ frames := 2, cells := 1, slots := 3, locals := 35 } : Room).cells ({ frames := 2, cells := 1, slots := 3, locals := 35 } : Room).slots) := by
  refine MetFree.of_bodySF (plainFor_of_name pn_1) hisR ?_
  intro pr_ en_ st_ me_ args below meth_ co_ s₁ Bd hml0 hP hK
  obtain ⟨rfl, hZ, hh⟩ := hP
  have hx := Bd.exec
  have hby := Bd.bytes
  have hml : co_.maxLocals = 6 := hml0
  have hown : st_.vm.findClass "java/lang/String" = some me_.cls := findClass_of_methodNamed Bd.named
  have hnm := (name_of_methodNamed Bd.named Bd.method).1
  have X0 : Stand pr_ l en_ ({ frames := 2, cells := 1, slots := 3, locals := 35 } : Room) st_ me_ #[(.ref a), (.ref d), (.int (0 : Int32)), (.int (3 : Int32)), .null] below meth_ co_ s₁ [] 0 0 := Stand.of_body Bd
  have e0 : s₁.heap = h0 := by rw [← hh, Bd.state]; rfl
  have N0 := Fr.nil n0
  have K0 := Keep.refl h0 [a]
  obtain ⟨G, gv, gf, gb⟩ := own_G pr_.tables en_ below st_ (Q_sci3 Z a d kd c0 c1 c2 cs h0 n0) ({ frames := 2, cells := 1, slots := 3, locals := 35 } : Room).cells ({ frames := 2, cells := 1, slots := 3, locals := 35 } : Room).slots
  show own_Fin pr_.tables en_ below st_ (Q_sci3 Z a d kd c0 c1 c2 cs h0 n0) ({ frames := 2, cells := 1, slots := 3, locals := 35 } : Room).cells ({ frames := 2, cells := 1, slots := 3, locals := 35 } : Room).slots (s₁.setTop (entryFrame me_ #[(.ref a), (.ref d), (.int (0 : Int32)), (.int (3 : Int32)), .null] 6))
  refine gb _ (gv (fun tQ kQ => castTop (ef_5 me_ a d (0 : Int32) (3 : Int32)) kQ) ?_)
  show G (s₁.setTop (mkF me_ 0 #[.val (.ref a), .val (.ref d), .val (.int (0 : Int32)), .val (.int (3 : Int32)), .val .null, .unset] []))
  refine gv (fun tQ kQ => XS.aloadN X0.here hx rfl (hb hby d2_0) rfl rfl kQ) ?_
  show G (s₁.setTop (mkF me_ 1 #[.val (.ref a), .val (.ref d), .val (.int (0 : Int32)), .val (.int (3 : Int32)), .val .null, .unset] [(.ref a)]))
  obtain ⟨T159, X159, e159, st159⟩ := initO X0 hx hZ hown (hw _ (List.mem_of_getElem? (i := 11) rfl)) (hw _ (List.mem_of_getElem? (i := 12) rfl)) (hw _ (List.mem_of_getElem? (i := 13) rfl)) e0 (g := (mkF me_ 1 #[.val (.ref a), .val (.ref d), .val (.int (0 : Int32)), .val (.int (3 : Int32)), .val .null, .unset] [(.ref a)])) rfl (by rw [hml]; rfl) rfl (hb hby d2_1) (by decide) (W := 0) (by show 2 * 0 + _ ≤ _; exact Nat.le_of_eq rfl) (by decide)
  refine gv st159 ?_
  show G (T159.setTop (mkF me_ 4 #[.val (.ref a), .val (.ref d), .val (.int (0 : Int32)), .val (.int (3 : Int32)), .val .null, .unset] []))
  refine gv (fun tQ kQ => XS.iloadN X159.here hx rfl (hb hby d2_4) rfl kQ) ?_
  show G (T159.setTop (mkF me_ 5 #[.val (.ref a), .val (.ref d), .val (.int (0 : Int32)), .val (.int (3 : Int32)), .val .null, .unset] [(.int (3 : Int32))]))
  refine gv (fun tQ kQ => XS.ifYes X159.here hx rfl (pc0 := 5) (pc' := 27) rfl (hb hby d2_5) rfl ((if0 _ _).trans (feq (by decide : ¬ ((3 : Int32) = (0 : Int32)))).2) (by decide) (by decide) kQ) ?_
  show G (T159.setTop (mkF me_ 27 #[.val (.ref a), .val (.ref d), .val (.int (0 : Int32)), .val (.int (3 : Int32)), .val .null, .unset] []))
  obtain ⟨T160, X160, e160, st160⟩ := getS2 X159 hx hZ hown (host := "") (Or.inl (hw _ (List.mem_of_getElem? (i := 14) rfl))) Via.refl e159 (u0.ext O0.2) (g := (mkF me_ 27 #[.val (.ref a), .val (.ref d), .val (.int (0 : Int32)), .val (.int (3 : Int32)), .val .null, .unset] [])) rfl (hb hby d2_27)
  refine gv st160 ?_
  show G (T160.setTop (mkF me_ 30 #[.val (.ref a), .val (.ref d), .val (.int (0 : Int32)), .val (.int (3 : Int32)), .val .null, .unset] [(.int cs)]))
  refine gv (fun tQ kQ => XS.ifNo X160.here hx rfl (hb hby d2_30) rfl ((if0 _ _).trans (feq u1).1) kQ) ?_
  show G (T160.setTop (mkF me_ 33 #[.val (.ref a), .val (.ref d), .val (.int (0 : Int32)), .val (.int (3 : Int32)), .val .null, .unset] []))
  refine gv (fun tQ kQ => XS.aloadN X160.here hx rfl (hb hby d2_33) rfl rfl kQ) ?_
  show G (T160.setTop (mkF me_ 34 #[.val (.ref a), .val (.ref d), .val (.int (0 : Int32)), .val (.int (3 : Int32)), .val .null, .unset] [(.ref d)]))
  refine gv (fun tQ kQ => XS.iloadN X160.here hx rfl (hb hby d2_34) rfl kQ) ?_
  show G (T160.setTop (mkF me_ 35 #[.val (.ref a), .val (.ref d), .val (.int (0 : Int32)), .val (.int (3 : Int32)), .val .null, .unset] [(.int (0 : Int32)), (.ref d)]))
  refine gv (fun tQ kQ => XS.iloadN X160.here hx rfl (hb hby d2_35) rfl kQ) ?_
  show G (T160.setTop (mkF me_ 36 #[.val (.ref a), .val (.ref d), .val (.int (0 : Int32)), .val (.int (3 : Int32)), .val .null, .unset] [(.int (3 : Int32)), (.int (0 : Int32)), (.ref d)]))
  obtain ⟨_, _, ⟨T161, L161, k161, n161⟩, -, X161, ⟨Lc161, hQ161, l161, y161, z161⟩, st161⟩ := Jvm.LawKit.callS X160 hx (y := (⟨"java/lang/StringUTF16", "compress", "([CII)[B"⟩ : MethodName)) hown (mvT hZ (hw _ (List.mem_of_getElem? (i := 15) rfl))) (mvT hZ (hw _ (List.mem_of_getElem? (i := 16) rfl))) (mvT hZ (hw _ (List.mem_of_getElem? (i := 17) rfl))) (mvT hZ (hw _ (List.mem_of_getElem? (i := 18) rfl))) (by decide) (backOf (W := 0) (rm_cmpr3 l Z a0 hw [] d kd c0 c1 c2 h0 n0 O0 u2 u3 u4 u9) hZ (hw _ (List.mem_of_getElem? (i := 18) rfl)) (hw _ (List.mem_of_getElem? (i := 17) rfl)) (by decide) (by decide)) (g := (mkF me_ 36 #[.val (.ref a), .val (.ref d), .val (.int (0 : Int32)), .val (.int (3 : Int32)), .val .null, .unset] [(.int (3 : Int32)), (.int (0 : Int32)), (.ref d)])) rfl (by rw [hml]; rfl) (argsL := [(.ref d), (.int (0 : Int32)), (.int (3 : Int32))]) (rest := []) (lenOf pd_4 rfl) rfl (by show 2 * 0 + _ ≤ _; exact Nat.le_of_eq rfl) (hb hby d2_36) (fun _ _ => ⟨rfl, e160, (by decide : 0 + 1 ≤ _), (by decide : 0 + 3 ≤ _)⟩)
  dsimp only [Pt.U, Pt.locs, Pt.cells, Pt.slots] at X161 l161 y161 z161 st161 hQ161
  subst l161 y161 z161
  obtain ⟨b_161, k_161, rfl, Nq161, Kq161, w161_0, w161_1⟩ := hQ161
  have N162 := Fr.app N0 Nq161
  obtain ⟨h161, e161⟩ : ∃ z, T161.heap = z := ⟨_, rfl⟩
  rw [e161] at Kq161 w161_1
  have ne163 : a ≠ b_161 := Nat.ne_of_lt (Nat.lt_of_lt_of_le u5.lt w161_0)
  have ne164 : d ≠ b_161 := Nat.ne_of_lt (Nat.lt_of_lt_of_le u9.lt w161_0)
  have g165 : n0 ≤ b_161 := Nat.le_trans (own_old O0) w161_0
  have z166 : h0.size ≤ b_161 := Nat.le_trans K0.1 w161_0
  have f167 : Exa Z h161 a "java/lang/String" := u5.keep Kq161
  have f168 : Fld Z h161 a "java/lang/String" "value" "[B" .null := u6.keep Kq161 nin0
  have f169 : Fld Z h161 a "java/lang/String" "coder" "B" (.int (0 : Int32)) := u7.keep Kq161 nin0
  have f170 : Arv Z h161 d kd .char (3 : Int32) [(.int c0), (.int c1), (.int c2)] (.int (0 : Int32)) := u9.keep Kq161 nin0
  have O171 := O0.keep Kq161 all0
  have K172 := K0.trans Kq161 all0
  refine gv st161 ?_
  show G (T161.setTop (mkF me_ 39 #[.val (.ref a), .val (.ref d), .val (.int (0 : Int32)), .val (.int (3 : Int32)), .val .null, .unset] [(.ref b_161)]))
  refine gv (fun tQ kQ => XS.astore X161.here hx rfl (hb hby d2_39) rfl rfl (l' := #[.val (.ref a), .val (.ref d), .val (.int (0 : Int32)), .val (.int (3 : Int32)), .val .null, .val (.ref b_161)]) rfl kQ) ?_
  show G (T161.setTop (mkF me_ 41 #[.val (.ref a), .val (.ref d), .val (.int (0 : Int32)), .val (.int (3 : Int32)), .val .null, .val (.ref b_161)] []))
  refine gv (fun tQ kQ => XS.aloadN X161.here hx rfl (hb hby d2_41) rfl rfl kQ) ?_
  show G (T161.setTop (mkF me_ 42 #[.val (.ref a), .val (.ref d), .val (.int (0 : Int32)), .val (.int (3 : Int32)), .val .null, .val (.ref b_161)] [(.ref a)]))
  refine gv (fun tQ kQ => XS.aload X161.here hx rfl (hb hby d2_42) rfl rfl kQ) ?_
  show G (T161.setTop (mkF me_ 44 #[.val (.ref a), .val (.ref d), .val (.int (0 : Int32)), .val (.int (3 : Int32)), .val .null, .val (.ref b_161)] [(.ref b_161), (.ref a)]))
  refine gv (fun tQ kQ => XS.iloadN X161.here hx rfl (hb hby d2_44) rfl kQ) ?_
  show G (T161.setTop (mkF me_ 45 #[.val (.ref a), .val (.ref d), .val (.int (0 : Int32)), .val (.int (3 : Int32)), .val .null, .val (.ref b_161)] [(.int (3 : Int32)), (.ref b_161), (.ref a)]))
  obtain ⟨_, _, ⟨T173, L173, k173, n173⟩, -, X173, ⟨Lc173, hQ173, l173, y173, z173⟩, st173⟩ := Jvm.LawKit.callS X161 hx (y := (⟨"java/lang/StringUTF16", "coderFromArrayLen", "([BI)B"⟩ : MethodName)) hown (mvT hZ (hw _ (List.mem_of_getElem? (i := 23) rfl))) (mvT hZ (hw _ (List.mem_of_getElem? (i := 24) rfl))) (mvT hZ (hw _ (List.mem_of_getElem? (i := 17) rfl))) (mvT hZ (hw _ (List.mem_of_getElem? (i := 25) rfl))) (by decide) (backOf (W := 1) (rm_cfal3 l Z a0 hw [] b_161 k_161 (c0.toInt8.toInt32) (c1.toInt8.toInt32) (c2.toInt8.toInt32) h161 n0 O171 w161_1) hZ (hw _ (List.mem_of_getElem? (i := 25) rfl)) (hw _ (List.mem_of_getElem? (i := 17) rfl)) (by decide) (by decide)) (g := (mkF me_ 45 #[.val (.ref a), .val (.ref d), .val (.int (0 : Int32)), .val (.int (3 : Int32)), .val .null, .val (.ref b_161)] [(.int (3 : Int32)), (.ref b_161), (.ref a)])) rfl (by rw [hml]; rfl) (argsL := [(.ref b_161), (.int (3 : Int32))]) (rest := [(.ref a)]) (lenOf pd_5 rfl) rfl (by show 2 * 0 + _ ≤ _; exact Nat.le_of_eq rfl) (hb hby d2_45) (fun _ _ => ⟨rfl, e161, (by decide : 1 + 0 ≤ _), (by decide : 3 + 0 ≤ _)⟩)
  dsimp only [Pt.U, Pt.locs, Pt.cells, Pt.slots] at X173 l173 y173 z173 st173 hQ173
  subst l173 y173 z173
  obtain ⟨rfl, Nq173, eq173⟩ := hQ173
  have N174 := Fr.app N162 Nq173
  refine gv st173 ?_
  show G (T173.setTop (mkF me_ 48 #[.val (.ref a), .val (.ref d), .val (.int (0 : Int32)), .val (.int (3 : Int32)), .val .null, .val (.ref b_161)] [(.int (0 : Int32)), (.ref a)]))
  obtain ⟨T175, h175, X175, e175, W175, st175⟩ := putFN X173 hx hZ hown (hw _ (List.mem_of_getElem? (i := 26) rfl)) Via.refl eq173 f169 f167 (Or.inr ⟨(hw _ (List.mem_of_getElem? (i := 27) rfl)), rfl, hnm⟩) (hw _ (List.mem_of_getElem? (i := 2) rfl)) (ty := .byte) (v' := (.int (0 : Int32))) (by decide) rfl rfl (g := (mkF me_ 48 #[.val (.ref a), .val (.ref d), .val (.int (0 : Int32)), .val (.int (3 : Int32)), .val .null, .val (.ref b_161)] [(.int (0 : Int32)), (.ref a)])) rfl rfl (hb hby d2_48)
  refine gv st175 ?_
  have f177 : Exa Z h175 a "java/lang/String" := f167.wr W175
  have f178 : Fld Z h175 a "java/lang/String" "value" "[B" .null := f168.other W175 (Or.inr (slot_ne (Or.inr (hw _ (List.mem_of_getElem? (i := 29) rfl))) (Or.inr (hw _ (List.mem_of_getElem? (i := 27) rfl))) (by decide) (t := (.array .byte)) (t' := .byte) (by decide) (by decide)))
  have f179 : Arv Z h175 d kd .char (3 : Int32) [(.int c0), (.int c1), (.int c2)] (.int (0 : Int32)) := f170.other W175 (Ne.symm u10)
  have f180 : Arv Z h175 b_161 k_161 .byte (3 : Int32) [(.int (c0.toInt8.toInt32)), (.int (c1.toInt8.toInt32)), (.int (c2.toInt8.toInt32))] (.int (0 : Int32)) := w161_1.other W175 (Ne.symm ne163)
  have O181 := O171.wr W175 u8
  have K182 := K172.wr W175 (Or.inl (List.mem_of_getElem? (i := 0) rfl))
  have N183 := Fr.snoc X175 N174 u8
  have f176 : Fld Z h175 a "java/lang/String" "coder" "B" (.int (0 : Int32)) := f169.same W175
  show G (T175.setTop (mkF me_ 51 #[.val (.ref a), .val (.ref d), .val (.int (0 : Int32)), .val (.int (3 : Int32)), .val .null, .val (.ref b_161)] []))
  refine gv (fun tQ kQ => XS.aloadN X175.here hx rfl (hb hby d2_51) rfl rfl kQ) ?_
  show G (T175.setTop (mkF me_ 52 #[.val (.ref a), .val (.ref d), .val (.int (0 : Int32)), .val (.int (3 : Int32)), .val .null, .val (.ref b_161)] [(.ref a)]))
  refine gv (fun tQ kQ => XS.aload X175.here hx rfl (hb hby d2_52) rfl rfl kQ) ?_
  show G (T175.setTop (mkF me_ 54 #[.val (.ref a), .val (.ref d), .val (.int (0 : Int32)), .val (.int (3 : Int32)), .val .null, .val (.ref b_161)] [(.ref b_161), (.ref a)]))
  obtain ⟨T184, h184, X184, e184, W184, st184⟩ := putF X175 hx hZ hown (host := "") (Or.inl (hw _ (List.mem_of_getElem? (i := 28) rfl))) Via.refl e175 f178 f177 (Or.inr ⟨(hw _ (List.mem_of_getElem? (i := 29) rfl)), rfl, hnm⟩) (hw _ (List.mem_of_getElem? (i := 2) rfl)) (ty := (.array .byte)) (by decide) rfl rfl (g := (mkF me_ 54 #[.val (.ref a), .val (.ref d), .val (.int (0 : Int32)), .val (.int (3 : Int32)), .val .null, .val (.ref b_161)] [(.ref b_161), (.ref a)])) rfl rfl (hb hby d2_54)
  refine gv st184 ?_
  have f186 : Exa Z h184 a "java/lang/String" := f177.wr W184
  have f187 : Fld Z h184 a "java/lang/String" "coder" "B" (.int (0 : Int32)) := f176.other W184 (Or.inr (slot_ne (Or.inr (hw _ (List.mem_of_getElem? (i := 27) rfl))) (Or.inr (hw _ (List.mem_of_getElem? (i := 29) rfl))) (by decide) (t := .byte) (t' := (.array .byte)) (by decide) (by decide)))
  have f188 : Arv Z h184 d kd .char (3 : Int32) [(.int c0), (.int c1), (.int c2)] (.int (0 : Int32)) := f179.other W184 (Ne.symm u10)
  have f189 : Arv Z h184 b_161 k_161 .byte (3 : Int32) [(.int (c0.toInt8.toInt32)), (.int (c1.toInt8.toInt32)), (.int (c2.toInt8.toInt32))] (.int (0 : Int32)) := f180.other W184 (Ne.symm ne163)
  have O190 := O181.wr W184 u8
  have K191 := K182.wr W184 (Or.inl (List.mem_of_getElem? (i := 0) rfl))
  have N192 := Fr.snoc X184 N183 u8
  have f185 : Fld Z h184 a "java/lang/String" "value" "[B" (.ref b_161) := f178.same W184
  show G (T184.setTop (mkF me_ 57 #[.val (.ref a), .val (.ref d), .val (.int (0 : Int32)), .val (.int (3 : Int32)), .val .null, .val (.ref b_161)] []))
  refine gf _ (own_ret X184 Bd.notSynchronized (v := none) (fun _ => rfl) ?_ (by decide) (by decide) (fun fs hr => X184.returnOut hx Bd.returns (hb hby d2_57) hr))
  show Q_sci3 Z a d kd c0 c1 c2 cs h0 n0 _ T184.heap _
  rw [e184]
  exact ⟨b_161, k_161, rfl, N192, K191, z166, f186, f187, f185, f189⟩
def Q_sc3 (Z : State) (a : Addr) (d : Addr) (kd : ClassId) (c0 : Int32) (c1 : Int32) (c2 : Int32) (cs : Int32) (h0 : Heap) (n0 : Nat) (v : Option Value) (h : Heap) (L : List Loc) : Prop := ∃ (b : Addr), ∃ (k : ClassId), v = none ∧ Fr n0 L ∧ Keep h0 h [a] ∧ h0.size ≤ b ∧ (Exa Z h a "java/lang/String") ∧ (Fld Z h a "java/lang/String" "coder" "B" (.int (0 : Int32))) ∧ (Fld Z h a "java/lang/String" "value" "[B" (.ref b)) ∧ (Arv Z h b k .byte (3 : Int32) [(.int (c0.toInt8.toInt32)), (.int (c1.toInt8.toInt32)), (.int (c2.toInt8.toInt32))] (.int (0 : Int32)))
set_option maxRecDepth 65536 in
set_option maxHeartbeats 40000000 in
theorem rm_sc3 (l : Launch) (Z : State) (a0 : Array Value) (hw : ∀ d ∈ tables_1, d.before a0 Z = true) (ws : List Jvm.Cond) (a : Addr) (d : Addr) (kd : ClassId) (c0 : Int32) (c1 : Int32) (c2 : Int32) (cs : Int32) (h0 : Heap) (n0 : Nat) (O0 : Old Z n0 h0) (u0 : Sta Z Z.heap "java/lang/String" "COMPACT_STRINGS" "Z" (.int cs)) (u1 : ¬ (cs = (0 : Int32))) (u2 : ¬ ((255 : Int32) < c0)) (u3 : ¬ ((255 : Int32) < c1)) (u4 : ¬ ((255 : Int32) < c2)) (u5 : Exa Z h0 a "java/lang/String") (u6 : Fld Z h0 a "java/lang/String" "value" "[B" .null) (u7 : Fld Z h0 a "java/lang/String" "coder" "B" (.int (0 : Int32))) (u8 : n0 ≤ a) (u9 : Arv Z h0 d kd .char (3 : Int32) [(.int c0), (.int c1), (.int c2)] (.int (0 : Int32))) (u10 : a ≠ d) :
    MetFree l (⟨"java/lang/String", "<init>", "([C)V"⟩ : MethodName) (head1 (Jvm.Cond.code (⟨"java/lang/String", "<init>", "([C)V"⟩ : MethodName) jdk_42_method_3_code 2 none :: ws) ({ frames := 3, cells := 1, slots := 3, locals := 52 } : Room)) (fun aV U => aV = #[(.ref a), (.ref d)] ∧ Z.Warmed39 U.vm ∧ U.heap = h0) (fun _ _ _ _ _ => True) (fun _ U o U' => ∃ v L, o = .returned v ∧ Q_sc3 Z a d kd c0 c1 c2 cs h0 n0 v U'.heap L ∧ FrameEnd U o U' L ({ frames := 3, cells := 1, slots := 3, locals := 52 } : Room).cells ({ frames := 3, cells := 1, slots := 3, locals := 52 } : Room).slots) := by
  refine MetFree.of_bodySF (plainFor_of_name pn_1) hisR ?_
  intro pr_ en_ st_ me_ args below meth_ co_ s₁ Bd hml0 hP hK
  obtain ⟨rfl, hZ, hh⟩ := hP
  have hx := Bd.exec
  have hby := Bd.bytes
  have hml : co_.maxLocals = 2 := hml0
  have hown : st_.vm.findClass "java/lang/String" = some me_.cls := findClass_of_methodNamed Bd.named
  have hnm := (name_of_methodNamed Bd.named Bd.method).1
  have X0 : Stand pr_ l en_ ({ frames := 3, cells := 1, slots := 3, locals := 52 } : Room) st_ me_ #[(.ref a), (.ref d)] below meth_ co_ s₁ [] 0 0 := Stand.of_body Bd
  have e0 : s₁.heap = h0 := by rw [← hh, Bd.state]; rfl
  have N0 := Fr.nil n0
  have K0 := Keep.refl h0 [a]
  obtain ⟨G, gv, gf, gb⟩ := own_G pr_.tables en_ below st_ (Q_sc3 Z a d kd c0 c1 c2 cs h0 n0) ({ frames := 3, cells := 1, slots := 3, locals := 52 } : Room).cells ({ frames := 3, cells := 1, slots := 3, locals := 52 } : Room).slots
  show own_Fin pr_.tables en_ below st_ (Q_sc3 Z a d kd c0 c1 c2 cs h0 n0) ({ frames := 3, cells := 1, slots := 3, locals := 52 } : Room).cells ({ frames := 3, cells := 1, slots := 3, locals := 52 } : Room).slots (s₁.setTop (entryFrame me_ #[(.ref a), (.ref d)] 2))
  refine gb _ (gv (fun tQ kQ => castTop (ef_6 me_ a d) kQ) ?_)
  show G (s₁.setTop (mkF me_ 0 #[.val (.ref a), .val (.ref d)] []))
  refine gv (fun tQ kQ => XS.aloadN X0.here hx rfl (hb hby d1_0) rfl rfl kQ) ?_
  show G (s₁.setTop (mkF me_ 1 #[.val (.ref a), .val (.ref d)] [(.ref a)]))
  refine gv (fun tQ kQ => XS.aloadN X0.here hx rfl (hb hby d1_1) rfl rfl kQ) ?_
  show G (s₁.setTop (mkF me_ 2 #[.val (.ref a), .val (.ref d)] [(.ref d), (.ref a)]))
  refine gv (fun tQ kQ => XS.iconst X0.here hx rfl (hb hby d1_2) kQ) ?_
  show G (s₁.setTop (mkF me_ 3 #[.val (.ref a), .val (.ref d)] [(.int (0 : Int32)), (.ref d), (.ref a)]))
  refine gv (fun tQ kQ => XS.aloadN X0.here hx rfl (hb hby d1_3) rfl rfl kQ) ?_
  show G (s₁.setTop (mkF me_ 4 #[.val (.ref a), .val (.ref d)] [(.ref d), (.int (0 : Int32)), (.ref d), (.ref a)]))
  obtain ⟨cl193, Ar193, -, S193, n193, -, -⟩ := (id u9)
  refine gv (X0.arraylength hx (by rw [e0]; exact Ar193.1) (State.isArrayOf_alike hZ.alike Ar193.2.1) (g := (mkF me_ 4 #[.val (.ref a), .val (.ref d)] [(.ref d), (.int (0 : Int32)), (.ref d), (.ref a)])) rfl rfl (hb hby d1_4)) ?_
  rw [len_of S193 n193]
  show G (s₁.setTop (mkF me_ 5 #[.val (.ref a), .val (.ref d)] [(.int (3 : Int32)), (.int (0 : Int32)), (.ref d), (.ref a)]))
  refine gv (fun tQ kQ => XS.aconstNull X0.here hx rfl (hb hby d1_5) kQ) ?_
  show G (s₁.setTop (mkF me_ 6 #[.val (.ref a), .val (.ref d)] [.null, (.int (3 : Int32)), (.int (0 : Int32)), (.ref d), (.ref a)]))
  obtain ⟨_, _, ⟨T194, L194, k194, n194⟩, -, X194, ⟨Lc194, hQ194, l194, y194, z194⟩, st194⟩ := X0.specialBack hx (y := (⟨"java/lang/String", "<init>", "([CIILjava/lang/Void;)V"⟩ : MethodName)) rfl hown (mvT hZ (hw _ (List.mem_of_getElem? (i := 7) rfl))) (mvT hZ (hw _ (List.mem_of_getElem? (i := 8) rfl))) (mvT hZ (hw _ (List.mem_of_getElem? (i := 10) rfl))) (by decide) (backOf (W := 0) (rm_sci3 l Z a0 hw [] a d kd c0 c1 c2 cs h0 n0 O0 u0 u1 u2 u3 u4 u5 u6 u7 u8 u9 u10) hZ (hw _ (List.mem_of_getElem? (i := 10) rfl)) (hw _ (List.mem_of_getElem? (i := 3) rfl)) (by decide) (by decide)) (g := (mkF me_ 6 #[.val (.ref a), .val (.ref d)] [.null, (.int (3 : Int32)), (.int (0 : Int32)), (.ref d), (.ref a)])) rfl (by rw [hml]; rfl) (Steps.refl _) (a := a) (argsL := [(.ref d), (.int (0 : Int32)), (.int (3 : Int32)), .null]) (rest := []) (lenOf pd_6 rfl) rfl (by show 2 * 0 + _ ≤ _; exact Nat.le_of_eq rfl) (hb hby d1_6) (fun _ _ => ⟨rfl, e0, (by decide : 0 + 1 ≤ _), (by decide : 0 + 3 ≤ _)⟩)
  dsimp only [Pt.U, Pt.locs, Pt.cells, Pt.slots] at X194 l194 y194 z194 st194 hQ194
  subst l194 y194 z194
  obtain ⟨b_194, k_194, rfl, Nq194, Kq194, w194_0, w194_1, w194_2, w194_3, w194_4⟩ := hQ194
  have N195 := Fr.app N0 Nq194
  obtain ⟨h194, e194⟩ : ∃ z, T194.heap = z := ⟨_, rfl⟩
  rw [e194] at Kq194 w194_1 w194_2 w194_3 w194_4
  have ne196 : a ≠ b_194 := Nat.ne_of_lt (Nat.lt_of_lt_of_le u5.lt w194_0)
  have ne197 : d ≠ b_194 := Nat.ne_of_lt (Nat.lt_of_lt_of_le u9.lt w194_0)
  have g198 : n0 ≤ b_194 := Nat.le_trans (own_old O0) w194_0
  have z199 : h0.size ≤ b_194 := Nat.le_trans K0.1 w194_0
  have f200 : Exa Z h194 a "java/lang/String" := u5.keep Kq194
  have f201 : Arv Z h194 d kd .char (3 : Int32) [(.int c0), (.int c1), (.int c2)] (.int (0 : Int32)) := u9.keep Kq194 (ninS (Ne.symm u10) nin0)
  have O202 := O0.keep Kq194 (allS u8 all0)
  have K203 := K0.trans Kq194 (allS (Or.inl (List.mem_of_getElem? (i := 0) rfl)) all0)
  refine gv (fun tQ kQ => st194.trans kQ) ?_
  show G (T194.setTop (mkF me_ 9 #[.val (.ref a), .val (.ref d)] []))
  refine gf _ (own_ret X194 Bd.notSynchronized (v := none) (fun _ => rfl) ?_ (by decide) (by decide) (fun fs hr => X194.returnOut hx Bd.returns (hb hby d1_9) hr))
  show Q_sc3 Z a d kd c0 c1 c2 cs h0 n0 _ T194.heap _
  rw [e194]
  exact ⟨b_194, k_194, rfl, N195, K203, z199, w194_1, w194_2, w194_3, w194_4⟩
theorem ef_7 (m : MethodId) (x0 : Addr)  : entryFrame m #[(.ref x0)] 1 = mkF m 0 #[.val (.ref x0)] [] := by first | (simp [entryFrame, mkF, argsToLocals, Value.category]; done) | rfl
theorem d12_0 : decode jdk_42_method_152_code 0 = .ok (.getstatic 38, 3) := by decide +kernel
theorem d12_3 : decode jdk_42_method_152_code 3 = .ok (.ifCond .eq 10, 3) := by decide +kernel
theorem d12_6 : decode jdk_42_method_152_code 6 = .ok (.aload_n 0, 1) := by decide +kernel
theorem d12_7 : decode jdk_42_method_152_code 7 = .ok (.getfield 15, 3) := by decide +kernel
theorem d12_10 : decode jdk_42_method_152_code 10 = .ok (.goto 4, 3) := by decide +kernel
theorem d12_14 : decode jdk_42_method_152_code 14 = .ok (.ireturn, 1) := by decide +kernel
def Q_coder0 (Z : State) (a : Addr) (cs : Int32) (h0 : Heap) (n0 : Nat) (v : Option Value) (h : Heap) (L : List Loc) : Prop := v = some (.int (0 : Int32)) ∧ Fr n0 L ∧ h = h0
set_option maxRecDepth 65536 in
set_option maxHeartbeats 40000000 in
theorem rm_coder0 (l : Launch) (Z : State) (a0 : Array Value) (hw : ∀ d ∈ tables_1, d.before a0 Z = true) (ws : List Jvm.Cond) (a : Addr) (cs : Int32) (h0 : Heap) (n0 : Nat) (O0 : Old Z n0 h0) (u0 : Sta Z Z.heap "java/lang/String" "COMPACT_STRINGS" "Z" (.int cs)) (u1 : ¬ (cs = (0 : Int32))) (u2 : Fld Z h0 a "java/lang/String" "coder" "B" (.int (0 : Int32))) :
    MetFree l (⟨"java/lang/String", "coder", "()B"⟩ : MethodName) (head1 (Jvm.Cond.code (⟨"java/lang/String", "coder", "()B"⟩ : MethodName) jdk_42_method_152_code 1 (some .byte) :: ws) ({ frames := 0, cells := 0, slots := 0, locals := 0 } : Room)) (fun aV U => aV = #[(.ref a)] ∧ Z.Warmed39 U.vm ∧ U.heap = h0) (fun _ _ _ _ _ => True) (fun _ U o U' => ∃ v L, o = .returned v ∧ Q_coder0 Z a cs h0 n0 v U'.heap L ∧ FrameEnd U o U' L ({ frames := 0, cells := 0, slots := 0, locals := 0 } : Room).cells ({ frames := 0, cells := 0, slots := 0, locals := 0 } : Room).slots) := by
  refine MetFree.of_bodySF (plainFor_of_name pn_1) hisR ?_
  intro pr_ en_ st_ me_ args below meth_ co_ s₁ Bd hml0 hP hK
  obtain ⟨rfl, hZ, hh⟩ := hP
  have hx := Bd.exec
  have hby := Bd.bytes
  have hml : co_.maxLocals = 1 := hml0
  have hown : st_.vm.findClass "java/lang/String" = some me_.cls := findClass_of_methodNamed Bd.named
  have hnm := (name_of_methodNamed Bd.named Bd.method).1
  have X0 : Stand pr_ l en_ ({ frames := 0, cells := 0, slots := 0, locals := 0 } : Room) st_ me_ #[(.ref a)] below meth_ co_ s₁ [] 0 0 := Stand.of_body Bd
  have e0 : s₁.heap = h0 := by rw [← hh, Bd.state]; rfl
  have N0 := Fr.nil n0
  have K0 := Keep.refl h0 []
  obtain ⟨G, gv, gf, gb⟩ := own_G pr_.tables en_ below st_ (Q_coder0 Z a cs h0 n0) ({ frames := 0, cells := 0, slots := 0, locals := 0 } : Room).cells ({ frames := 0, cells := 0, slots := 0, locals := 0 } : Room).slots
  show own_Fin pr_.tables en_ below st_ (Q_coder0 Z a cs h0 n0) ({ frames := 0, cells := 0, slots := 0, locals := 0 } : Room).cells ({ frames := 0, cells := 0, slots := 0, locals := 0 } : Room).slots (s₁.setTop (entryFrame me_ #[(.ref a)] 1))
  refine gb _ (gv (fun tQ kQ => castTop (ef_7 me_ a) kQ) ?_)
  show G (s₁.setTop (mkF me_ 0 #[.val (.ref a)] []))
  obtain ⟨T204, X204, e204, st204⟩ := getS2 X0 hx hZ hown (host := "") (Or.inl (hw _ (List.mem_of_getElem? (i := 14) rfl))) Via.refl e0 (u0.ext O0.2) (g := (mkF me_ 0 #[.val (.ref a)] [])) rfl (hb hby d12_0)
  refine gv st204 ?_
  show G (T204.setTop (mkF me_ 3 #[.val (.ref a)] [(.int cs)]))
  refine gv (fun tQ kQ => XS.ifNo X204.here hx rfl (hb hby d12_3) rfl ((if0 _ _).trans (feq u1).1) kQ) ?_
  show G (T204.setTop (mkF me_ 6 #[.val (.ref a)] []))
  refine gv (fun tQ kQ => XS.aloadN X204.here hx rfl (hb hby d12_6) rfl rfl kQ) ?_
  show G (T204.setTop (mkF me_ 7 #[.val (.ref a)] [(.ref a)]))
  obtain ⟨T205, X205, e205, st205⟩ := getF X204 hx hZ hown (host := "") (Or.inl (hw _ (List.mem_of_getElem? (i := 26) rfl))) Via.refl e204 u2 (g := (mkF me_ 7 #[.val (.ref a)] [(.ref a)])) rfl rfl (hb hby d12_7)
  refine gv st205 ?_
  show G (T205.setTop (mkF me_ 10 #[.val (.ref a)] [(.int (0 : Int32))]))
  refine gv (fun tQ kQ => XS.goto X205.here hx rfl (pc0 := 10) (pc' := 14) rfl (hb hby d12_10) (by decide) (by decide) kQ) ?_
  show G (T205.setTop (mkF me_ 14 #[.val (.ref a)] [(.int (0 : Int32))]))
  refine gf _ (own_ret X205 Bd.notSynchronized (v := some (.int (0 : Int32))) (fun h => by rw [Bd.returns] at h; cases h) ?_ (by decide) (by decide) (fun fs hr => retN X205 hx (t := .byte) Bd.returns (by simp) (hb hby d12_14) hr))
  show Q_coder0 Z a cs h0 n0 _ T205.heap _
  rw [e205]
  exact ⟨rfl, N0, rfl⟩
theorem d11_0 : decode jdk_42_method_54_code 0 = .ok (.aload_n 0, 1) := by decide +kernel
theorem d11_1 : decode jdk_42_method_54_code 1 = .ok (.getfield 9, 3) := by decide +kernel
theorem d11_4 : decode jdk_42_method_54_code 4 = .ok (.arraylength, 1) := by decide +kernel
theorem d11_5 : decode jdk_42_method_54_code 5 = .ok (.aload_n 0, 1) := by decide +kernel
theorem d11_6 : decode jdk_42_method_54_code 6 = .ok (.invokevirtual 335, 3) := by decide +kernel
theorem pd_7 : parseMethodDescriptor "()B" = some ⟨[], some .byte⟩ := by decide +kernel
theorem d11_9 : decode jdk_42_method_54_code 9 = .ok (.ishr, 1) := by decide +kernel
theorem d11_10 : decode jdk_42_method_54_code 10 = .ok (.ireturn, 1) := by decide +kernel
def Q_len0_0 (Z : State) (a : Addr) (b : Addr) (k : ClassId) (cs : Int32) (h0 : Heap) (n0 : Nat) (v : Option Value) (h : Heap) (L : List Loc) : Prop := v = some (.int (0 : Int32)) ∧ Fr n0 L ∧ h = h0
set_option maxRecDepth 65536 in
set_option maxHeartbeats 40000000 in
theorem rm_len0_0 (l : Launch) (Z : State) (a0 : Array Value) (hw : ∀ d ∈ tables_1, d.before a0 Z = true) (ws : List Jvm.Cond) (a : Addr) (b : Addr) (k : ClassId) (cs : Int32) (h0 : Heap) (n0 : Nat) (O0 : Old Z n0 h0) (u0 : Sta Z Z.heap "java/lang/String" "COMPACT_STRINGS" "Z" (.int cs)) (u1 : ¬ (cs = (0 : Int32))) (u2 : Exa Z h0 a "java/lang/String") (u3 : Fld Z h0 a "java/lang/String" "coder" "B" (.int (0 : Int32))) (u4 : Fld Z h0 a "java/lang/String" "value" "[B" (.ref b)) (u5 : Arv Z h0 b k .byte (0 : Int32) [] (.int (0 : Int32))) :
    MetFree l (⟨"java/lang/String", "length", "()I"⟩ : MethodName) (head1 (Jvm.Cond.code (⟨"java/lang/String", "length", "()I"⟩ : MethodName) jdk_42_method_54_code 1 (some .int) :: ws) ({ frames := 1, cells := 0, slots := 0, locals := 13 } : Room)) (fun aV U => aV = #[(.ref a)] ∧ Z.Warmed39 U.vm ∧ U.heap = h0) (fun _ _ _ _ _ => True) (fun _ U o U' => ∃ v L, o = .returned v ∧ Q_len0_0 Z a b k cs h0 n0 v U'.heap L ∧ FrameEnd U o U' L ({ frames := 1, cells := 0, slots := 0, locals := 13 } : Room).cells ({ frames := 1, cells := 0, slots := 0, locals := 13 } : Room).slots) := by
  refine MetFree.of_bodySF (plainFor_of_name pn_1) hisR ?_
  intro pr_ en_ st_ me_ args below meth_ co_ s₁ Bd hml0 hP hK
  obtain ⟨rfl, hZ, hh⟩ := hP
  have hx := Bd.exec
  have hby := Bd.bytes
  have hml : co_.maxLocals = 1 := hml0
  have hown : st_.vm.findClass "java/lang/String" = some me_.cls := findClass_of_methodNamed Bd.named
  have hnm := (name_of_methodNamed Bd.named Bd.method).1
  have X0 : Stand pr_ l en_ ({ frames := 1, cells := 0, slots := 0, locals := 13 } : Room) st_ me_ #[(.ref a)] below meth_ co_ s₁ [] 0 0 := Stand.of_body Bd
  have e0 : s₁.heap = h0 := by rw [← hh, Bd.state]; rfl
  have N0 := Fr.nil n0
  have K0 := Keep.refl h0 []
  obtain ⟨G, gv, gf, gb⟩ := own_G pr_.tables en_ below st_ (Q_len0_0 Z a b k cs h0 n0) ({ frames := 1, cells := 0, slots := 0, locals := 13 } : Room).cells ({ frames := 1, cells := 0, slots := 0, locals := 13 } : Room).slots
  show own_Fin pr_.tables en_ below st_ (Q_len0_0 Z a b k cs h0 n0) ({ frames := 1, cells := 0, slots := 0, locals := 13 } : Room).cells ({ frames := 1, cells := 0, slots := 0, locals := 13 } : Room).slots (s₁.setTop (entryFrame me_ #[(.ref a)] 1))
  refine gb _ (gv (fun tQ kQ => castTop (ef_7 me_ a) kQ) ?_)
  show G (s₁.setTop (mkF me_ 0 #[.val (.ref a)] []))
  refine gv (fun tQ kQ => XS.aloadN X0.here hx rfl (hb hby d11_0) rfl rfl kQ) ?_
  show G (s₁.setTop (mkF me_ 1 #[.val (.ref a)] [(.ref a)]))
  obtain ⟨T206, X206, e206, st206⟩ := getF X0 hx hZ hown (host := "") (Or.inl (hw _ (List.mem_of_getElem? (i := 28) rfl))) Via.refl e0 u4 (g := (mkF me_ 1 #[.val (.ref a)] [(.ref a)])) rfl rfl (hb hby d11_1)
  refine gv st206 ?_
  show G (T206.setTop (mkF me_ 4 #[.val (.ref a)] [(.ref b)]))
  obtain ⟨cl207, Ar207, -, S207, n207, -, -⟩ := (id u5)
  refine gv (X206.arraylength hx (by rw [e206]; exact Ar207.1) (State.isArrayOf_alike hZ.alike Ar207.2.1) (g := (mkF me_ 4 #[.val (.ref a)] [(.ref b)])) rfl rfl (hb hby d11_4)) ?_
  rw [len_of S207 n207]
  show G (T206.setTop (mkF me_ 5 #[.val (.ref a)] [(.int (0 : Int32))]))
  refine gv (fun tQ kQ => XS.aloadN X206.here hx rfl (hb hby d11_5) rfl rfl kQ) ?_
  show G (T206.setTop (mkF me_ 6 #[.val (.ref a)] [(.ref a), (.int (0 : Int32))]))
  obtain ⟨cq208, kq208, q208a, q208b, q208c⟩ := isOf hZ e206 u2
  obtain ⟨_, _, ⟨T208, L208, k208, n208⟩, -, X208, ⟨Lc208, hQ208, l208, y208, z208⟩, st208⟩ := X206.virtualBack hx (y := (⟨"java/lang/String", "coder", "()B"⟩ : MethodName)) (z := (⟨"java/lang/String", "coder", "()B"⟩ : MethodName)) hown (mvT hZ (hw _ (List.mem_of_getElem? (i := 72) rfl))) (mvT hZ (hw _ (List.mem_of_getElem? (i := 73) rfl))) (notFace_of_selects (args := #[]) (mvT hZ (hw _ (List.mem_of_getElem? (i := 75) rfl)))) (mvT hZ (hw _ (List.mem_of_getElem? (i := 75) rfl))) (mvT hZ (hw _ (List.mem_of_getElem? (i := 74) rfl))) (by decide) (backOf (W := 1) (rm_coder0 l Z a0 hw [] a cs h0 n0 O0 u0 u1 u3) hZ (hw _ (List.mem_of_getElem? (i := 76) rfl)) (hw _ (List.mem_of_getElem? (i := 3) rfl)) (by decide) (by decide)) q208a q208c (g := (mkF me_ 6 #[.val (.ref a)] [(.ref a), (.int (0 : Int32))])) rfl (by rw [hml]; rfl) (Steps.refl _) (argsL := []) (rest := [(.int (0 : Int32))]) (lenOf pd_7 rfl) rfl (by show 2 * 0 + _ ≤ _; exact Nat.le_of_eq rfl) (hb hby d11_6) (fun _ _ => ⟨rfl, e206, (by decide : 0 + 0 ≤ _), (by decide : 0 + 0 ≤ _)⟩)
  dsimp only [Pt.U, Pt.locs, Pt.cells, Pt.slots] at X208 l208 y208 z208 st208 hQ208
  subst l208 y208 z208
  obtain ⟨rfl, Nq208, eq208⟩ := hQ208
  have N209 := Fr.app N0 Nq208
  refine gv (fun tQ kQ => st208.trans kQ) ?_
  show G (T208.setTop (mkF me_ 9 #[.val (.ref a)] [(.int (0 : Int32)), (.int (0 : Int32))]))
  refine gv (fun tQ kQ => XS.ishr X208.here hx rfl (hb hby d11_9) rfl kQ) ?_
  show G (T208.setTop (mkF me_ 10 #[.val (.ref a)] [(.int ((0 : Int32) >>> ((0 : Int32) &&& 31)))]))
  rw [(by decide : ((0 : Int32) >>> ((0 : Int32) &&& 31)) = (0 : Int32))]
  show G (T208.setTop (mkF me_ 10 #[.val (.ref a)] [(.int (0 : Int32))]))
  refine gf _ (own_ret X208 Bd.notSynchronized (v := some (.int (0 : Int32))) (fun h => by rw [Bd.returns] at h; cases h) ?_ (by decide) (by decide) (fun fs hr => retOut X208 hx (t := .int) Bd.returns rfl (Or.inl ⟨rfl, Or.inl rfl, _, rfl⟩) (hb hby d11_10) hr))
  show Q_len0_0 Z a b k cs h0 n0 _ T208.heap _
  rw [eq208]
  exact ⟨rfl, N209, rfl⟩
def Q_len0_1 (Z : State) (a : Addr) (b : Addr) (k : ClassId) (cs : Int32) (x0 : Int32) (h0 : Heap) (n0 : Nat) (v : Option Value) (h : Heap) (L : List Loc) : Prop := v = some (.int (1 : Int32)) ∧ Fr n0 L ∧ h = h0
set_option maxRecDepth 65536 in
set_option maxHeartbeats 40000000 in
theorem rm_len0_1 (l : Launch) (Z : State) (a0 : Array Value) (hw : ∀ d ∈ tables_1, d.before a0 Z = true) (ws : List Jvm.Cond) (a : Addr) (b : Addr) (k : ClassId) (cs : Int32) (x0 : Int32) (h0 : Heap) (n0 : Nat) (O0 : Old Z n0 h0) (u0 : Sta Z Z.heap "java/lang/String" "COMPACT_STRINGS" "Z" (.int cs)) (u1 : ¬ (cs = (0 : Int32))) (u2 : Exa Z h0 a "java/lang/String") (u3 : Fld Z h0 a "java/lang/String" "coder" "B" (.int (0 : Int32))) (u4 : Fld Z h0 a "java/lang/String" "value" "[B" (.ref b)) (u5 : Arv Z h0 b k .byte (1 : Int32) [(.int x0)] (.int (0 : Int32))) :
    MetFree l (⟨"java/lang/String", "length", "()I"⟩ : MethodName) (head1 (Jvm.Cond.code (⟨"java/lang/String", "length", "()I"⟩ : MethodName) jdk_42_method_54_code 1 (some .int) :: ws) ({ frames := 1, cells := 0, slots := 0, locals := 13 } : Room)) (fun aV U => aV = #[(.ref a)] ∧ Z.Warmed39 U.vm ∧ U.heap = h0) (fun _ _ _ _ _ => True) (fun _ U o U' => ∃ v L, o = .returned v ∧ Q_len0_1 Z a b k cs x0 h0 n0 v U'.heap L ∧ FrameEnd U o U' L ({ frames := 1, cells := 0, slots := 0, locals := 13 } : Room).cells ({ frames := 1, cells := 0, slots := 0, locals := 13 } : Room).slots) := by
  refine MetFree.of_bodySF (plainFor_of_name pn_1) hisR ?_
  intro pr_ en_ st_ me_ args below meth_ co_ s₁ Bd hml0 hP hK
  obtain ⟨rfl, hZ, hh⟩ := hP
  have hx := Bd.exec
  have hby := Bd.bytes
  have hml : co_.maxLocals = 1 := hml0
  have hown : st_.vm.findClass "java/lang/String" = some me_.cls := findClass_of_methodNamed Bd.named
  have hnm := (name_of_methodNamed Bd.named Bd.method).1
  have X0 : Stand pr_ l en_ ({ frames := 1, cells := 0, slots := 0, locals := 13 } : Room) st_ me_ #[(.ref a)] below meth_ co_ s₁ [] 0 0 := Stand.of_body Bd
  have e0 : s₁.heap = h0 := by rw [← hh, Bd.state]; rfl
  have N0 := Fr.nil n0
  have K0 := Keep.refl h0 []
  obtain ⟨G, gv, gf, gb⟩ := own_G pr_.tables en_ below st_ (Q_len0_1 Z a b k cs x0 h0 n0) ({ frames := 1, cells := 0, slots := 0, locals := 13 } : Room).cells ({ frames := 1, cells := 0, slots := 0, locals := 13 } : Room).slots
  show own_Fin pr_.tables en_ below st_ (Q_len0_1 Z a b k cs x0 h0 n0) ({ frames := 1, cells := 0, slots := 0, locals := 13 } : Room).cells ({ frames := 1, cells := 0, slots := 0, locals := 13 } : Room).slots (s₁.setTop (entryFrame me_ #[(.ref a)] 1))
  refine gb _ (gv (fun tQ kQ => castTop (ef_7 me_ a) kQ) ?_)
  show G (s₁.setTop (mkF me_ 0 #[.val (.ref a)] []))
  refine gv (fun tQ kQ => XS.aloadN X0.here hx rfl (hb hby d11_0) rfl rfl kQ) ?_
  show G (s₁.setTop (mkF me_ 1 #[.val (.ref a)] [(.ref a)]))
  obtain ⟨T210, X210, e210, st210⟩ := getF X0 hx hZ hown (host := "") (Or.inl (hw _ (List.mem_of_getElem? (i := 28) rfl))) Via.refl e0 u4 (g := (mkF me_ 1 #[.val (.ref a)] [(.ref a)])) rfl rfl (hb hby d11_1)
  refine gv st210 ?_
  show G (T210.setTop (mkF me_ 4 #[.val (.ref a)] [(.ref b)]))
  obtain ⟨cl211, Ar211, -, S211, n211, -, -⟩ := (id u5)
  refine gv (X210.arraylength hx (by rw [e210]; exact Ar211.1) (State.isArrayOf_alike hZ.alike Ar211.2.1) (g := (mkF me_ 4 #[.val (.ref a)] [(.ref b)])) rfl rfl (hb hby d11_4)) ?_
  rw [len_of S211 n211]
  show G (T210.setTop (mkF me_ 5 #[.val (.ref a)] [(.int (1 : Int32))]))
  refine gv (fun tQ kQ => XS.aloadN X210.here hx rfl (hb hby d11_5) rfl rfl kQ) ?_
  show G (T210.setTop (mkF me_ 6 #[.val (.ref a)] [(.ref a), (.int (1 : Int32))]))
  obtain ⟨cq212, kq212, q212a, q212b, q212c⟩ := isOf hZ e210 u2
  obtain ⟨_, _, ⟨T212, L212, k212, n212⟩, -, X212, ⟨Lc212, hQ212, l212, y212, z212⟩, st212⟩ := X210.virtualBack hx (y := (⟨"java/lang/String", "coder", "()B"⟩ : MethodName)) (z := (⟨"java/lang/String", "coder", "()B"⟩ : MethodName)) hown (mvT hZ (hw _ (List.mem_of_getElem? (i := 72) rfl))) (mvT hZ (hw _ (List.mem_of_getElem? (i := 73) rfl))) (notFace_of_selects (args := #[]) (mvT hZ (hw _ (List.mem_of_getElem? (i := 75) rfl)))) (mvT hZ (hw _ (List.mem_of_getElem? (i := 75) rfl))) (mvT hZ (hw _ (List.mem_of_getElem? (i := 74) rfl))) (by decide) (backOf (W := 1) (rm_coder0 l Z a0 hw [] a cs h0 n0 O0 u0 u1 u3) hZ (hw _ (List.mem_of_getElem? (i := 76) rfl)) (hw _ (List.mem_of_getElem? (i := 3) rfl)) (by decide) (by decide)) q212a q212c (g := (mkF me_ 6 #[.val (.ref a)] [(.ref a), (.int (1 : Int32))])) rfl (by rw [hml]; rfl) (Steps.refl _) (argsL := []) (rest := [(.int (1 : Int32))]) (lenOf pd_7 rfl) rfl (by show 2 * 0 + _ ≤ _; exact Nat.le_of_eq rfl) (hb hby d11_6) (fun _ _ => ⟨rfl, e210, (by decide : 0 + 0 ≤ _), (by decide : 0 + 0 ≤ _)⟩)
  dsimp only [Pt.U, Pt.locs, Pt.cells, Pt.slots] at X212 l212 y212 z212 st212 hQ212
  subst l212 y212 z212
  obtain ⟨rfl, Nq212, eq212⟩ := hQ212
  have N213 := Fr.app N0 Nq212
  refine gv (fun tQ kQ => st212.trans kQ) ?_
  show G (T212.setTop (mkF me_ 9 #[.val (.ref a)] [(.int (0 : Int32)), (.int (1 : Int32))]))
  refine gv (fun tQ kQ => XS.ishr X212.here hx rfl (hb hby d11_9) rfl kQ) ?_
  show G (T212.setTop (mkF me_ 10 #[.val (.ref a)] [(.int ((1 : Int32) >>> ((0 : Int32) &&& 31)))]))
  rw [(by decide : ((1 : Int32) >>> ((0 : Int32) &&& 31)) = (1 : Int32))]
  show G (T212.setTop (mkF me_ 10 #[.val (.ref a)] [(.int (1 : Int32))]))
  refine gf _ (own_ret X212 Bd.notSynchronized (v := some (.int (1 : Int32))) (fun h => by rw [Bd.returns] at h; cases h) ?_ (by decide) (by decide) (fun fs hr => retOut X212 hx (t := .int) Bd.returns rfl (Or.inl ⟨rfl, Or.inl rfl, _, rfl⟩) (hb hby d11_10) hr))
  show Q_len0_1 Z a b k cs x0 h0 n0 _ T212.heap _
  rw [eq212]
  exact ⟨rfl, N213, rfl⟩
def Q_len0_2 (Z : State) (a : Addr) (b : Addr) (k : ClassId) (cs : Int32) (x0 : Int32) (x1 : Int32) (h0 : Heap) (n0 : Nat) (v : Option Value) (h : Heap) (L : List Loc) : Prop := v = some (.int (2 : Int32)) ∧ Fr n0 L ∧ h = h0
set_option maxRecDepth 65536 in
set_option maxHeartbeats 40000000 in
theorem rm_len0_2 (l : Launch) (Z : State) (a0 : Array Value) (hw : ∀ d ∈ tables_1, d.before a0 Z = true) (ws : List Jvm.Cond) (a : Addr) (b : Addr) (k : ClassId) (cs : Int32) (x0 : Int32) (x1 : Int32) (h0 : Heap) (n0 : Nat) (O0 : Old Z n0 h0) (u0 : Sta Z Z.heap "java/lang/String" "COMPACT_STRINGS" "Z" (.int cs)) (u1 : ¬ (cs = (0 : Int32))) (u2 : Exa Z h0 a "java/lang/String") (u3 : Fld Z h0 a "java/lang/String" "coder" "B" (.int (0 : Int32))) (u4 : Fld Z h0 a "java/lang/String" "value" "[B" (.ref b)) (u5 : Arv Z h0 b k .byte (2 : Int32) [(.int x0), (.int x1)] (.int (0 : Int32))) :
    MetFree l (⟨"java/lang/String", "length", "()I"⟩ : MethodName) (head1 (Jvm.Cond.code (⟨"java/lang/String", "length", "()I"⟩ : MethodName) jdk_42_method_54_code 1 (some .int) :: ws) ({ frames := 1, cells := 0, slots := 0, locals := 13 } : Room)) (fun aV U => aV = #[(.ref a)] ∧ Z.Warmed39 U.vm ∧ U.heap = h0) (fun _ _ _ _ _ => True) (fun _ U o U' => ∃ v L, o = .returned v ∧ Q_len0_2 Z a b k cs x0 x1 h0 n0 v U'.heap L ∧ FrameEnd U o U' L ({ frames := 1, cells := 0, slots := 0, locals := 13 } : Room).cells ({ frames := 1, cells := 0, slots := 0, locals := 13 } : Room).slots) := by
  refine MetFree.of_bodySF (plainFor_of_name pn_1) hisR ?_
  intro pr_ en_ st_ me_ args below meth_ co_ s₁ Bd hml0 hP hK
  obtain ⟨rfl, hZ, hh⟩ := hP
  have hx := Bd.exec
  have hby := Bd.bytes
  have hml : co_.maxLocals = 1 := hml0
  have hown : st_.vm.findClass "java/lang/String" = some me_.cls := findClass_of_methodNamed Bd.named
  have hnm := (name_of_methodNamed Bd.named Bd.method).1
  have X0 : Stand pr_ l en_ ({ frames := 1, cells := 0, slots := 0, locals := 13 } : Room) st_ me_ #[(.ref a)] below meth_ co_ s₁ [] 0 0 := Stand.of_body Bd
  have e0 : s₁.heap = h0 := by rw [← hh, Bd.state]; rfl
  have N0 := Fr.nil n0
  have K0 := Keep.refl h0 []
  obtain ⟨G, gv, gf, gb⟩ := own_G pr_.tables en_ below st_ (Q_len0_2 Z a b k cs x0 x1 h0 n0) ({ frames := 1, cells := 0, slots := 0, locals := 13 } : Room).cells ({ frames := 1, cells := 0, slots := 0, locals := 13 } : Room).slots
  show own_Fin pr_.tables en_ below st_ (Q_len0_2 Z a b k cs x0 x1 h0 n0) ({ frames := 1, cells := 0, slots := 0, locals := 13 } : Room).cells ({ frames := 1, cells := 0, slots := 0, locals := 13 } : Room).slots (s₁.setTop (entryFrame me_ #[(.ref a)] 1))
  refine gb _ (gv (fun tQ kQ => castTop (ef_7 me_ a) kQ) ?_)
  show G (s₁.setTop (mkF me_ 0 #[.val (.ref a)] []))
  refine gv (fun tQ kQ => XS.aloadN X0.here hx rfl (hb hby d11_0) rfl rfl kQ) ?_
  show G (s₁.setTop (mkF me_ 1 #[.val (.ref a)] [(.ref a)]))
  obtain ⟨T214, X214, e214, st214⟩ := getF X0 hx hZ hown (host := "") (Or.inl (hw _ (List.mem_of_getElem? (i := 28) rfl))) Via.refl e0 u4 (g := (mkF me_ 1 #[.val (.ref a)] [(.ref a)])) rfl rfl (hb hby d11_1)
  refine gv st214 ?_
  show G (T214.setTop (mkF me_ 4 #[.val (.ref a)] [(.ref b)]))
  obtain ⟨cl215, Ar215, -, S215, n215, -, -⟩ := (id u5)
  refine gv (X214.arraylength hx (by rw [e214]; exact Ar215.1) (State.isArrayOf_alike hZ.alike Ar215.2.1) (g := (mkF me_ 4 #[.val (.ref a)] [(.ref b)])) rfl rfl (hb hby d11_4)) ?_
  rw [len_of S215 n215]
  show G (T214.setTop (mkF me_ 5 #[.val (.ref a)] [(.int (2 : Int32))]))
  refine gv (fun tQ kQ => XS.aloadN X214.here hx rfl (hb hby d11_5) rfl rfl kQ) ?_
  show G (T214.setTop (mkF me_ 6 #[.val (.ref a)] [(.ref a), (.int (2 : Int32))]))
  obtain ⟨cq216, kq216, q216a, q216b, q216c⟩ := isOf hZ e214 u2
  obtain ⟨_, _, ⟨T216, L216, k216, n216⟩, -, X216, ⟨Lc216, hQ216, l216, y216, z216⟩, st216⟩ := X214.virtualBack hx (y := (⟨"java/lang/String", "coder", "()B"⟩ : MethodName)) (z := (⟨"java/lang/String", "coder", "()B"⟩ : MethodName)) hown (mvT hZ (hw _ (List.mem_of_getElem? (i := 72) rfl))) (mvT hZ (hw _ (List.mem_of_getElem? (i := 73) rfl))) (notFace_of_selects (args := #[]) (mvT hZ (hw _ (List.mem_of_getElem? (i := 75) rfl)))) (mvT hZ (hw _ (List.mem_of_getElem? (i := 75) rfl))) (mvT hZ (hw _ (List.mem_of_getElem? (i := 74) rfl))) (by decide) (backOf (W := 1) (rm_coder0 l Z a0 hw [] a cs h0 n0 O0 u0 u1 u3) hZ (hw _ (List.mem_of_getElem? (i := 76) rfl)) (hw _ (List.mem_of_getElem? (i := 3) rfl)) (by decide) (by decide)) q216a q216c (g := (mkF me_ 6 #[.val (.ref a)] [(.ref a), (.int (2 : Int32))])) rfl (by rw [hml]; rfl) (Steps.refl _) (argsL := []) (rest := [(.int (2 : Int32))]) (lenOf pd_7 rfl) rfl (by show 2 * 0 + _ ≤ _; exact Nat.le_of_eq rfl) (hb hby d11_6) (fun _ _ => ⟨rfl, e214, (by decide : 0 + 0 ≤ _), (by decide : 0 + 0 ≤ _)⟩)
  dsimp only [Pt.U, Pt.locs, Pt.cells, Pt.slots] at X216 l216 y216 z216 st216 hQ216
  subst l216 y216 z216
  obtain ⟨rfl, Nq216, eq216⟩ := hQ216
  have N217 := Fr.app N0 Nq216
  refine gv (fun tQ kQ => st216.trans kQ) ?_
  show G (T216.setTop (mkF me_ 9 #[.val (.ref a)] [(.int (0 : Int32)), (.int (2 : Int32))]))
  refine gv (fun tQ kQ => XS.ishr X216.here hx rfl (hb hby d11_9) rfl kQ) ?_
  show G (T216.setTop (mkF me_ 10 #[.val (.ref a)] [(.int ((2 : Int32) >>> ((0 : Int32) &&& 31)))]))
  rw [(by decide : ((2 : Int32) >>> ((0 : Int32) &&& 31)) = (2 : Int32))]
  show G (T216.setTop (mkF me_ 10 #[.val (.ref a)] [(.int (2 : Int32))]))
  refine gf _ (own_ret X216 Bd.notSynchronized (v := some (.int (2 : Int32))) (fun h => by rw [Bd.returns] at h; cases h) ?_ (by decide) (by decide) (fun fs hr => retOut X216 hx (t := .int) Bd.returns rfl (Or.inl ⟨rfl, Or.inl rfl, _, rfl⟩) (hb hby d11_10) hr))
  show Q_len0_2 Z a b k cs x0 x1 h0 n0 _ T216.heap _
  rw [eq216]
  exact ⟨rfl, N217, rfl⟩
theorem ef_8 (m : MethodId) (x0 : Int32)  : entryFrame m #[(.int x0)] 2 = mkF m 0 #[.val (.int x0), .unset] [] := by first | (simp [entryFrame, mkF, argsToLocals, Value.category]; done) | rfl
theorem pn_3 : plainName "com/example/hits_in_context/hitsincontext/io/PieceIsLiteralPinLaw" = true := by first | (simp [plainName, overriddenIn]; done) | decide +kernel
theorem d7_0 : decode method_2_code 0 = .ok (.iload_n 0, 1) := by decide +kernel
theorem d7_1 : decode method_2_code 1 = .ok (.bipush 7, 2) := by decide +kernel
theorem d7_3 : decode method_2_code 3 = .ok (.iand, 1) := by decide +kernel
theorem d7_4 : decode method_2_code 4 = .ok (.istore_n 1, 1) := by decide +kernel
theorem d7_5 : decode method_2_code 5 = .ok (.iload_n 1, 1) := by decide +kernel
theorem d7_6 : decode method_2_code 6 = .ok (.ifCond .ne 7, 3) := by decide +kernel
theorem d7_9 : decode method_2_code 9 = .ok (.getstatic 7, 3) := by decide +kernel
theorem d7_12 : decode method_2_code 12 = .ok (.areturn, 1) := by decide +kernel
theorem d7_13 : decode method_2_code 13 = .ok (.iload_n 1, 1) := by decide +kernel
theorem d7_14 : decode method_2_code 14 = .ok (.iconst 1, 1) := by decide +kernel
theorem d7_15 : decode method_2_code 15 = .ok (.if_icmp .ne 7, 3) := by decide +kernel
theorem d7_18 : decode method_2_code 18 = .ok (.getstatic 13, 3) := by decide +kernel
theorem d7_21 : decode method_2_code 21 = .ok (.areturn, 1) := by decide +kernel
theorem d7_22 : decode method_2_code 22 = .ok (.iload_n 1, 1) := by decide +kernel
theorem d7_23 : decode method_2_code 23 = .ok (.iconst 2, 1) := by decide +kernel
theorem d7_24 : decode method_2_code 24 = .ok (.if_icmp .ne 7, 3) := by decide +kernel
theorem d7_27 : decode method_2_code 27 = .ok (.getstatic 16, 3) := by decide +kernel
theorem d7_30 : decode method_2_code 30 = .ok (.areturn, 1) := by decide +kernel
theorem d7_31 : decode method_2_code 31 = .ok (.iload_n 1, 1) := by decide +kernel
theorem d7_32 : decode method_2_code 32 = .ok (.iconst 3, 1) := by decide +kernel
theorem d7_33 : decode method_2_code 33 = .ok (.if_icmp .ne 7, 3) := by decide +kernel
theorem d7_36 : decode method_2_code 36 = .ok (.getstatic 19, 3) := by decide +kernel
theorem d7_39 : decode method_2_code 39 = .ok (.areturn, 1) := by decide +kernel
theorem d7_40 : decode method_2_code 40 = .ok (.iload_n 1, 1) := by decide +kernel
theorem d7_41 : decode method_2_code 41 = .ok (.iconst 4, 1) := by decide +kernel
theorem d7_42 : decode method_2_code 42 = .ok (.if_icmp .ne 7, 3) := by decide +kernel
theorem d7_45 : decode method_2_code 45 = .ok (.getstatic 22, 3) := by decide +kernel
theorem d7_48 : decode method_2_code 48 = .ok (.areturn, 1) := by decide +kernel
theorem d7_49 : decode method_2_code 49 = .ok (.iload_n 1, 1) := by decide +kernel
theorem d7_50 : decode method_2_code 50 = .ok (.iconst 5, 1) := by decide +kernel
theorem d7_51 : decode method_2_code 51 = .ok (.if_icmp .ne 7, 3) := by decide +kernel
theorem d7_54 : decode method_2_code 54 = .ok (.getstatic 25, 3) := by decide +kernel
theorem d7_57 : decode method_2_code 57 = .ok (.areturn, 1) := by decide +kernel
theorem d7_58 : decode method_2_code 58 = .ok (.iload_n 1, 1) := by decide +kernel
theorem d7_59 : decode method_2_code 59 = .ok (.bipush 6, 2) := by decide +kernel
theorem d7_61 : decode method_2_code 61 = .ok (.if_icmp .ne 7, 3) := by decide +kernel
theorem d7_64 : decode method_2_code 64 = .ok (.getstatic 28, 3) := by decide +kernel
theorem d7_67 : decode method_2_code 67 = .ok (.areturn, 1) := by decide +kernel
theorem d7_68 : decode method_2_code 68 = .ok (.getstatic 31, 3) := by decide +kernel
theorem d7_71 : decode method_2_code 71 = .ok (.areturn, 1) := by decide +kernel
def Q_kind (Z : State) (n : Int32) (A_TEXT : Addr) (A_MARKUP : Addr) (A_DECLARATION : Addr) (A_ROOT_TAG : Addr) (A_CDATA_START : Addr) (A_CDATA_END : Addr) (A_ENTITY_START : Addr) (A_ENTITY_END : Addr) (h0 : Heap) (n0 : Nat) (v : Option Value) (h : Heap) (L : List Loc) : Prop := ∃ (r : Addr), v = some (.ref r) ∧ Fr n0 L ∧ h = h0
set_option maxRecDepth 65536 in
set_option maxHeartbeats 40000000 in
theorem rm_kind (l : Launch) (Z : State) (a0 : Array Value) (hw : ∀ d ∈ tables_1, d.before a0 Z = true) (ws : List Jvm.Cond) (n : Int32) (A_TEXT : Addr) (A_MARKUP : Addr) (A_DECLARATION : Addr) (A_ROOT_TAG : Addr) (A_CDATA_START : Addr) (A_CDATA_END : Addr) (A_ENTITY_START : Addr) (A_ENTITY_END : Addr) (h0 : Heap) (n0 : Nat) (O0 : Old Z n0 h0) (u0 : Sta Z Z.heap "com/example/hits_in_context/hitsincontext/io/XmlCharacterData$Kind" "TEXT" "Lcom/example/hits_in_context/hitsincontext/io/XmlCharacterData$Kind;" (.ref A_TEXT)) (u1 : Sta Z Z.heap "com/example/hits_in_context/hitsincontext/io/XmlCharacterData$Kind" "MARKUP" "Lcom/example/hits_in_context/hitsincontext/io/XmlCharacterData$Kind;" (.ref A_MARKUP)) (u2 : Sta Z Z.heap "com/example/hits_in_context/hitsincontext/io/XmlCharacterData$Kind" "DECLARATION" "Lcom/example/hits_in_context/hitsincontext/io/XmlCharacterData$Kind;" (.ref A_DECLARATION)) (u3 : Sta Z Z.heap "com/example/hits_in_context/hitsincontext/io/XmlCharacterData$Kind" "ROOT_TAG" "Lcom/example/hits_in_context/hitsincontext/io/XmlCharacterData$Kind;" (.ref A_ROOT_TAG)) (u4 : Sta Z Z.heap "com/example/hits_in_context/hitsincontext/io/XmlCharacterData$Kind" "CDATA_START" "Lcom/example/hits_in_context/hitsincontext/io/XmlCharacterData$Kind;" (.ref A_CDATA_START)) (u5 : Sta Z Z.heap "com/example/hits_in_context/hitsincontext/io/XmlCharacterData$Kind" "CDATA_END" "Lcom/example/hits_in_context/hitsincontext/io/XmlCharacterData$Kind;" (.ref A_CDATA_END)) (u6 : Sta Z Z.heap "com/example/hits_in_context/hitsincontext/io/XmlCharacterData$Kind" "ENTITY_START" "Lcom/example/hits_in_context/hitsincontext/io/XmlCharacterData$Kind;" (.ref A_ENTITY_START)) (u7 : Sta Z Z.heap "com/example/hits_in_context/hitsincontext/io/XmlCharacterData$Kind" "ENTITY_END" "Lcom/example/hits_in_context/hitsincontext/io/XmlCharacterData$Kind;" (.ref A_ENTITY_END)) :
    MetFree l (⟨"com/example/hits_in_context/hitsincontext/io/PieceIsLiteralPinLaw", "kind", "(I)Lcom/example/hits_in_context/hitsincontext/io/XmlCharacterData$Kind;"⟩ : MethodName) (head1 (Jvm.Cond.code (⟨"com/example/hits_in_context/hitsincontext/io/PieceIsLiteralPinLaw", "kind", "(I)Lcom/example/hits_in_context/hitsincontext/io/XmlCharacterData$Kind;"⟩ : MethodName) method_2_code 2 (some (.object "com/example/hits_in_context/hitsincontext/io/XmlCharacterData$Kind")) :: ws) ({ frames := 0, cells := 0, slots := 0, locals := 0 } : Room)) (fun aV U => aV = #[(.int n)] ∧ Z.Warmed39 U.vm ∧ U.heap = h0) (fun _ _ _ _ _ => True) (fun _ U o U' => ∃ v L, o = .returned v ∧ Q_kind Z n A_TEXT A_MARKUP A_DECLARATION A_ROOT_TAG A_CDATA_START A_CDATA_END A_ENTITY_START A_ENTITY_END h0 n0 v U'.heap L ∧ FrameEnd U o U' L ({ frames := 0, cells := 0, slots := 0, locals := 0 } : Room).cells ({ frames := 0, cells := 0, slots := 0, locals := 0 } : Room).slots) := by
  refine MetFree.of_bodySF (plainFor_of_name pn_3) hisR ?_
  intro pr_ en_ st_ me_ args below meth_ co_ s₁ Bd hml0 hP hK
  obtain ⟨rfl, hZ, hh⟩ := hP
  have hx := Bd.exec
  have hby := Bd.bytes
  have hml : co_.maxLocals = 2 := hml0
  have hown : st_.vm.findClass "com/example/hits_in_context/hitsincontext/io/PieceIsLiteralPinLaw" = some me_.cls := findClass_of_methodNamed Bd.named
  have hnm := (name_of_methodNamed Bd.named Bd.method).1
  have X0 : Stand pr_ l en_ ({ frames := 0, cells := 0, slots := 0, locals := 0 } : Room) st_ me_ #[(.int n)] below meth_ co_ s₁ [] 0 0 := Stand.of_body Bd
  have e0 : s₁.heap = h0 := by rw [← hh, Bd.state]; rfl
  have N0 := Fr.nil n0
  have K0 := Keep.refl h0 []
  obtain ⟨G, gv, gf, gb⟩ := own_G pr_.tables en_ below st_ (Q_kind Z n A_TEXT A_MARKUP A_DECLARATION A_ROOT_TAG A_CDATA_START A_CDATA_END A_ENTITY_START A_ENTITY_END h0 n0) ({ frames := 0, cells := 0, slots := 0, locals := 0 } : Room).cells ({ frames := 0, cells := 0, slots := 0, locals := 0 } : Room).slots
  show own_Fin pr_.tables en_ below st_ (Q_kind Z n A_TEXT A_MARKUP A_DECLARATION A_ROOT_TAG A_CDATA_START A_CDATA_END A_ENTITY_START A_ENTITY_END h0 n0) ({ frames := 0, cells := 0, slots := 0, locals := 0 } : Room).cells ({ frames := 0, cells := 0, slots := 0, locals := 0 } : Room).slots (s₁.setTop (entryFrame me_ #[(.int n)] 2))
  refine gb _ (gv (fun tQ kQ => castTop (ef_8 me_ n) kQ) ?_)
  show G (s₁.setTop (mkF me_ 0 #[.val (.int n), .unset] []))
  refine gv (fun tQ kQ => XS.iloadN X0.here hx rfl (hb hby d7_0) rfl kQ) ?_
  show G (s₁.setTop (mkF me_ 1 #[.val (.int n), .unset] [(.int n)]))
  refine gv (fun tQ kQ => XS.bipush X0.here hx rfl (hb hby d7_1) kQ) ?_
  show G (s₁.setTop (mkF me_ 3 #[.val (.int n), .unset] [(.int (7 : Int32)), (.int n)]))
  refine gv (fun tQ kQ => XS.iand X0.here hx rfl (hb hby d7_3) rfl kQ) ?_
  show G (s₁.setTop (mkF me_ 4 #[.val (.int n), .unset] [(.int (n &&& (7 : Int32)))]))
  refine gv (fun tQ kQ => XS.istoreN X0.here hx rfl (hb hby d7_4) rfl (l' := #[.val (.int n), .val (.int (n &&& (7 : Int32)))]) rfl kQ) ?_
  show G (s₁.setTop (mkF me_ 5 #[.val (.int n), .val (.int (n &&& (7 : Int32)))] []))
  rcases own_and7 n with q | q | q | q | q | q | q | q
  · rw [q]
    show G (s₁.setTop (mkF me_ 5 #[.val (.int n), .val (.int (0 : Int32))] []))
    refine gv (fun tQ kQ => XS.iloadN X0.here hx rfl (hb hby d7_5) rfl kQ) ?_
    show G (s₁.setTop (mkF me_ 6 #[.val (.int n), .val (.int (0 : Int32))] [(.int (0 : Int32))]))
    refine gv (fun tQ kQ => XS.ifNo X0.here hx rfl (hb hby d7_6) rfl ((if0 _ _).trans (teq (by decide : (0 : Int32) = (0 : Int32))).2) kQ) ?_
    show G (s₁.setTop (mkF me_ 9 #[.val (.int n), .val (.int (0 : Int32))] []))
    obtain ⟨T218, X218, e218, st218⟩ := getS2 X0 hx hZ hown (host := "") (Or.inl (hw _ (List.mem_of_getElem? (i := 40) rfl))) Via.refl e0 (u0.ext O0.2) (g := (mkF me_ 9 #[.val (.int n), .val (.int (0 : Int32))] [])) rfl (hb hby d7_9)
    refine gv st218 ?_
    show G (T218.setTop (mkF me_ 12 #[.val (.int n), .val (.int (0 : Int32))] [(.ref A_TEXT)]))
    refine gf _ (own_ret X218 Bd.notSynchronized (v := some (.ref A_TEXT)) (fun h => by rw [Bd.returns] at h; cases h) ?_ (by decide) (by decide) (fun fs hr => retOut X218 hx (t := (.object "com/example/hits_in_context/hitsincontext/io/XmlCharacterData$Kind")) Bd.returns rfl (Or.inr (Or.inr (Or.inr (Or.inr ⟨rfl, rfl, rfl⟩)))) (hb hby d7_12) hr))
    show Q_kind Z n A_TEXT A_MARKUP A_DECLARATION A_ROOT_TAG A_CDATA_START A_CDATA_END A_ENTITY_START A_ENTITY_END h0 n0 _ T218.heap _
    rw [e218]
    exact ⟨A_TEXT, rfl, N0, rfl⟩
  · rw [q]
    show G (s₁.setTop (mkF me_ 5 #[.val (.int n), .val (.int (1 : Int32))] []))
    refine gv (fun tQ kQ => XS.iloadN X0.here hx rfl (hb hby d7_5) rfl kQ) ?_
    show G (s₁.setTop (mkF me_ 6 #[.val (.int n), .val (.int (1 : Int32))] [(.int (1 : Int32))]))
    refine gv (fun tQ kQ => XS.ifYes X0.here hx rfl (pc0 := 6) (pc' := 13) rfl (hb hby d7_6) rfl ((if0 _ _).trans (feq (by decide : ¬ ((1 : Int32) = (0 : Int32)))).2) (by decide) (by decide) kQ) ?_
    show G (s₁.setTop (mkF me_ 13 #[.val (.int n), .val (.int (1 : Int32))] []))
    refine gv (fun tQ kQ => XS.iloadN X0.here hx rfl (hb hby d7_13) rfl kQ) ?_
    show G (s₁.setTop (mkF me_ 14 #[.val (.int n), .val (.int (1 : Int32))] [(.int (1 : Int32))]))
    refine gv (fun tQ kQ => XS.iconst X0.here hx rfl (hb hby d7_14) kQ) ?_
    show G (s₁.setTop (mkF me_ 15 #[.val (.int n), .val (.int (1 : Int32))] [(.int (1 : Int32)), (.int (1 : Int32))]))
    refine gv (fun tQ kQ => XS.icmpNo X0.here hx rfl (hb hby d7_15) rfl (teq (by decide : (1 : Int32) = (1 : Int32))).2 kQ) ?_
    show G (s₁.setTop (mkF me_ 18 #[.val (.int n), .val (.int (1 : Int32))] []))
    obtain ⟨T219, X219, e219, st219⟩ := getS2 X0 hx hZ hown (host := "") (Or.inl (hw _ (List.mem_of_getElem? (i := 103) rfl))) Via.refl e0 (u1.ext O0.2) (g := (mkF me_ 18 #[.val (.int n), .val (.int (1 : Int32))] [])) rfl (hb hby d7_18)
    refine gv st219 ?_
    show G (T219.setTop (mkF me_ 21 #[.val (.int n), .val (.int (1 : Int32))] [(.ref A_MARKUP)]))
    refine gf _ (own_ret X219 Bd.notSynchronized (v := some (.ref A_MARKUP)) (fun h => by rw [Bd.returns] at h; cases h) ?_ (by decide) (by decide) (fun fs hr => retOut X219 hx (t := (.object "com/example/hits_in_context/hitsincontext/io/XmlCharacterData$Kind")) Bd.returns rfl (Or.inr (Or.inr (Or.inr (Or.inr ⟨rfl, rfl, rfl⟩)))) (hb hby d7_21) hr))
    show Q_kind Z n A_TEXT A_MARKUP A_DECLARATION A_ROOT_TAG A_CDATA_START A_CDATA_END A_ENTITY_START A_ENTITY_END h0 n0 _ T219.heap _
    rw [e219]
    exact ⟨A_MARKUP, rfl, N0, rfl⟩
  · rw [q]
    show G (s₁.setTop (mkF me_ 5 #[.val (.int n), .val (.int (2 : Int32))] []))
    refine gv (fun tQ kQ => XS.iloadN X0.here hx rfl (hb hby d7_5) rfl kQ) ?_
    show G (s₁.setTop (mkF me_ 6 #[.val (.int n), .val (.int (2 : Int32))] [(.int (2 : Int32))]))
    refine gv (fun tQ kQ => XS.ifYes X0.here hx rfl (pc0 := 6) (pc' := 13) rfl (hb hby d7_6) rfl ((if0 _ _).trans (feq (by decide : ¬ ((2 : Int32) = (0 : Int32)))).2) (by decide) (by decide) kQ) ?_
    show G (s₁.setTop (mkF me_ 13 #[.val (.int n), .val (.int (2 : Int32))] []))
    refine gv (fun tQ kQ => XS.iloadN X0.here hx rfl (hb hby d7_13) rfl kQ) ?_
    show G (s₁.setTop (mkF me_ 14 #[.val (.int n), .val (.int (2 : Int32))] [(.int (2 : Int32))]))
    refine gv (fun tQ kQ => XS.iconst X0.here hx rfl (hb hby d7_14) kQ) ?_
    show G (s₁.setTop (mkF me_ 15 #[.val (.int n), .val (.int (2 : Int32))] [(.int (1 : Int32)), (.int (2 : Int32))]))
    refine gv (fun tQ kQ => XS.icmpYes X0.here hx rfl (pc0 := 15) (pc' := 22) rfl (hb hby d7_15) rfl (feq (by decide : ¬ ((2 : Int32) = (1 : Int32)))).2 (by decide) (by decide) kQ) ?_
    show G (s₁.setTop (mkF me_ 22 #[.val (.int n), .val (.int (2 : Int32))] []))
    refine gv (fun tQ kQ => XS.iloadN X0.here hx rfl (hb hby d7_22) rfl kQ) ?_
    show G (s₁.setTop (mkF me_ 23 #[.val (.int n), .val (.int (2 : Int32))] [(.int (2 : Int32))]))
    refine gv (fun tQ kQ => XS.iconst X0.here hx rfl (hb hby d7_23) kQ) ?_
    show G (s₁.setTop (mkF me_ 24 #[.val (.int n), .val (.int (2 : Int32))] [(.int (2 : Int32)), (.int (2 : Int32))]))
    refine gv (fun tQ kQ => XS.icmpNo X0.here hx rfl (hb hby d7_24) rfl (teq (by decide : (2 : Int32) = (2 : Int32))).2 kQ) ?_
    show G (s₁.setTop (mkF me_ 27 #[.val (.int n), .val (.int (2 : Int32))] []))
    obtain ⟨T220, X220, e220, st220⟩ := getS2 X0 hx hZ hown (host := "") (Or.inl (hw _ (List.mem_of_getElem? (i := 95) rfl))) Via.refl e0 (u2.ext O0.2) (g := (mkF me_ 27 #[.val (.int n), .val (.int (2 : Int32))] [])) rfl (hb hby d7_27)
    refine gv st220 ?_
    show G (T220.setTop (mkF me_ 30 #[.val (.int n), .val (.int (2 : Int32))] [(.ref A_DECLARATION)]))
    refine gf _ (own_ret X220 Bd.notSynchronized (v := some (.ref A_DECLARATION)) (fun h => by rw [Bd.returns] at h; cases h) ?_ (by decide) (by decide) (fun fs hr => retOut X220 hx (t := (.object "com/example/hits_in_context/hitsincontext/io/XmlCharacterData$Kind")) Bd.returns rfl (Or.inr (Or.inr (Or.inr (Or.inr ⟨rfl, rfl, rfl⟩)))) (hb hby d7_30) hr))
    show Q_kind Z n A_TEXT A_MARKUP A_DECLARATION A_ROOT_TAG A_CDATA_START A_CDATA_END A_ENTITY_START A_ENTITY_END h0 n0 _ T220.heap _
    rw [e220]
    exact ⟨A_DECLARATION, rfl, N0, rfl⟩
  · rw [q]
    show G (s₁.setTop (mkF me_ 5 #[.val (.int n), .val (.int (3 : Int32))] []))
    refine gv (fun tQ kQ => XS.iloadN X0.here hx rfl (hb hby d7_5) rfl kQ) ?_
    show G (s₁.setTop (mkF me_ 6 #[.val (.int n), .val (.int (3 : Int32))] [(.int (3 : Int32))]))
    refine gv (fun tQ kQ => XS.ifYes X0.here hx rfl (pc0 := 6) (pc' := 13) rfl (hb hby d7_6) rfl ((if0 _ _).trans (feq (by decide : ¬ ((3 : Int32) = (0 : Int32)))).2) (by decide) (by decide) kQ) ?_
    show G (s₁.setTop (mkF me_ 13 #[.val (.int n), .val (.int (3 : Int32))] []))
    refine gv (fun tQ kQ => XS.iloadN X0.here hx rfl (hb hby d7_13) rfl kQ) ?_
    show G (s₁.setTop (mkF me_ 14 #[.val (.int n), .val (.int (3 : Int32))] [(.int (3 : Int32))]))
    refine gv (fun tQ kQ => XS.iconst X0.here hx rfl (hb hby d7_14) kQ) ?_
    show G (s₁.setTop (mkF me_ 15 #[.val (.int n), .val (.int (3 : Int32))] [(.int (1 : Int32)), (.int (3 : Int32))]))
    refine gv (fun tQ kQ => XS.icmpYes X0.here hx rfl (pc0 := 15) (pc' := 22) rfl (hb hby d7_15) rfl (feq (by decide : ¬ ((3 : Int32) = (1 : Int32)))).2 (by decide) (by decide) kQ) ?_
    show G (s₁.setTop (mkF me_ 22 #[.val (.int n), .val (.int (3 : Int32))] []))
    refine gv (fun tQ kQ => XS.iloadN X0.here hx rfl (hb hby d7_22) rfl kQ) ?_
    show G (s₁.setTop (mkF me_ 23 #[.val (.int n), .val (.int (3 : Int32))] [(.int (3 : Int32))]))
    refine gv (fun tQ kQ => XS.iconst X0.here hx rfl (hb hby d7_23) kQ) ?_
    show G (s₁.setTop (mkF me_ 24 #[.val (.int n), .val (.int (3 : Int32))] [(.int (2 : Int32)), (.int (3 : Int32))]))
    refine gv (fun tQ kQ => XS.icmpYes X0.here hx rfl (pc0 := 24) (pc' := 31) rfl (hb hby d7_24) rfl (feq (by decide : ¬ ((3 : Int32) = (2 : Int32)))).2 (by decide) (by decide) kQ) ?_
    show G (s₁.setTop (mkF me_ 31 #[.val (.int n), .val (.int (3 : Int32))] []))
    refine gv (fun tQ kQ => XS.iloadN X0.here hx rfl (hb hby d7_31) rfl kQ) ?_
    show G (s₁.setTop (mkF me_ 32 #[.val (.int n), .val (.int (3 : Int32))] [(.int (3 : Int32))]))
    refine gv (fun tQ kQ => XS.iconst X0.here hx rfl (hb hby d7_32) kQ) ?_
    show G (s₁.setTop (mkF me_ 33 #[.val (.int n), .val (.int (3 : Int32))] [(.int (3 : Int32)), (.int (3 : Int32))]))
    refine gv (fun tQ kQ => XS.icmpNo X0.here hx rfl (hb hby d7_33) rfl (teq (by decide : (3 : Int32) = (3 : Int32))).2 kQ) ?_
    show G (s₁.setTop (mkF me_ 36 #[.val (.int n), .val (.int (3 : Int32))] []))
    obtain ⟨T221, X221, e221, st221⟩ := getS2 X0 hx hZ hown (host := "") (Or.inl (hw _ (List.mem_of_getElem? (i := 77) rfl))) Via.refl e0 (u3.ext O0.2) (g := (mkF me_ 36 #[.val (.int n), .val (.int (3 : Int32))] [])) rfl (hb hby d7_36)
    refine gv st221 ?_
    show G (T221.setTop (mkF me_ 39 #[.val (.int n), .val (.int (3 : Int32))] [(.ref A_ROOT_TAG)]))
    refine gf _ (own_ret X221 Bd.notSynchronized (v := some (.ref A_ROOT_TAG)) (fun h => by rw [Bd.returns] at h; cases h) ?_ (by decide) (by decide) (fun fs hr => retOut X221 hx (t := (.object "com/example/hits_in_context/hitsincontext/io/XmlCharacterData$Kind")) Bd.returns rfl (Or.inr (Or.inr (Or.inr (Or.inr ⟨rfl, rfl, rfl⟩)))) (hb hby d7_39) hr))
    show Q_kind Z n A_TEXT A_MARKUP A_DECLARATION A_ROOT_TAG A_CDATA_START A_CDATA_END A_ENTITY_START A_ENTITY_END h0 n0 _ T221.heap _
    rw [e221]
    exact ⟨A_ROOT_TAG, rfl, N0, rfl⟩
  · rw [q]
    show G (s₁.setTop (mkF me_ 5 #[.val (.int n), .val (.int (4 : Int32))] []))
    refine gv (fun tQ kQ => XS.iloadN X0.here hx rfl (hb hby d7_5) rfl kQ) ?_
    show G (s₁.setTop (mkF me_ 6 #[.val (.int n), .val (.int (4 : Int32))] [(.int (4 : Int32))]))
    refine gv (fun tQ kQ => XS.ifYes X0.here hx rfl (pc0 := 6) (pc' := 13) rfl (hb hby d7_6) rfl ((if0 _ _).trans (feq (by decide : ¬ ((4 : Int32) = (0 : Int32)))).2) (by decide) (by decide) kQ) ?_
    show G (s₁.setTop (mkF me_ 13 #[.val (.int n), .val (.int (4 : Int32))] []))
    refine gv (fun tQ kQ => XS.iloadN X0.here hx rfl (hb hby d7_13) rfl kQ) ?_
    show G (s₁.setTop (mkF me_ 14 #[.val (.int n), .val (.int (4 : Int32))] [(.int (4 : Int32))]))
    refine gv (fun tQ kQ => XS.iconst X0.here hx rfl (hb hby d7_14) kQ) ?_
    show G (s₁.setTop (mkF me_ 15 #[.val (.int n), .val (.int (4 : Int32))] [(.int (1 : Int32)), (.int (4 : Int32))]))
    refine gv (fun tQ kQ => XS.icmpYes X0.here hx rfl (pc0 := 15) (pc' := 22) rfl (hb hby d7_15) rfl (feq (by decide : ¬ ((4 : Int32) = (1 : Int32)))).2 (by decide) (by decide) kQ) ?_
    show G (s₁.setTop (mkF me_ 22 #[.val (.int n), .val (.int (4 : Int32))] []))
    refine gv (fun tQ kQ => XS.iloadN X0.here hx rfl (hb hby d7_22) rfl kQ) ?_
    show G (s₁.setTop (mkF me_ 23 #[.val (.int n), .val (.int (4 : Int32))] [(.int (4 : Int32))]))
    refine gv (fun tQ kQ => XS.iconst X0.here hx rfl (hb hby d7_23) kQ) ?_
    show G (s₁.setTop (mkF me_ 24 #[.val (.int n), .val (.int (4 : Int32))] [(.int (2 : Int32)), (.int (4 : Int32))]))
    refine gv (fun tQ kQ => XS.icmpYes X0.here hx rfl (pc0 := 24) (pc' := 31) rfl (hb hby d7_24) rfl (feq (by decide : ¬ ((4 : Int32) = (2 : Int32)))).2 (by decide) (by decide) kQ) ?_
    show G (s₁.setTop (mkF me_ 31 #[.val (.int n), .val (.int (4 : Int32))] []))
    refine gv (fun tQ kQ => XS.iloadN X0.here hx rfl (hb hby d7_31) rfl kQ) ?_
    show G (s₁.setTop (mkF me_ 32 #[.val (.int n), .val (.int (4 : Int32))] [(.int (4 : Int32))]))
    refine gv (fun tQ kQ => XS.iconst X0.here hx rfl (hb hby d7_32) kQ) ?_
    show G (s₁.setTop (mkF me_ 33 #[.val (.int n), .val (.int (4 : Int32))] [(.int (3 : Int32)), (.int (4 : Int32))]))
    refine gv (fun tQ kQ => XS.icmpYes X0.here hx rfl (pc0 := 33) (pc' := 40) rfl (hb hby d7_33) rfl (feq (by decide : ¬ ((4 : Int32) = (3 : Int32)))).2 (by decide) (by decide) kQ) ?_
    show G (s₁.setTop (mkF me_ 40 #[.val (.int n), .val (.int (4 : Int32))] []))
    refine gv (fun tQ kQ => XS.iloadN X0.here hx rfl (hb hby d7_40) rfl kQ) ?_
    show G (s₁.setTop (mkF me_ 41 #[.val (.int n), .val (.int (4 : Int32))] [(.int (4 : Int32))]))
    refine gv (fun tQ kQ => XS.iconst X0.here hx rfl (hb hby d7_41) kQ) ?_
    show G (s₁.setTop (mkF me_ 42 #[.val (.int n), .val (.int (4 : Int32))] [(.int (4 : Int32)), (.int (4 : Int32))]))
    refine gv (fun tQ kQ => XS.icmpNo X0.here hx rfl (hb hby d7_42) rfl (teq (by decide : (4 : Int32) = (4 : Int32))).2 kQ) ?_
    show G (s₁.setTop (mkF me_ 45 #[.val (.int n), .val (.int (4 : Int32))] []))
    obtain ⟨T222, X222, e222, st222⟩ := getS2 X0 hx hZ hown (host := "") (Or.inl (hw _ (List.mem_of_getElem? (i := 101) rfl))) Via.refl e0 (u4.ext O0.2) (g := (mkF me_ 45 #[.val (.int n), .val (.int (4 : Int32))] [])) rfl (hb hby d7_45)
    refine gv st222 ?_
    show G (T222.setTop (mkF me_ 48 #[.val (.int n), .val (.int (4 : Int32))] [(.ref A_CDATA_START)]))
    refine gf _ (own_ret X222 Bd.notSynchronized (v := some (.ref A_CDATA_START)) (fun h => by rw [Bd.returns] at h; cases h) ?_ (by decide) (by decide) (fun fs hr => retOut X222 hx (t := (.object "com/example/hits_in_context/hitsincontext/io/XmlCharacterData$Kind")) Bd.returns rfl (Or.inr (Or.inr (Or.inr (Or.inr ⟨rfl, rfl, rfl⟩)))) (hb hby d7_48) hr))
    show Q_kind Z n A_TEXT A_MARKUP A_DECLARATION A_ROOT_TAG A_CDATA_START A_CDATA_END A_ENTITY_START A_ENTITY_END h0 n0 _ T222.heap _
    rw [e222]
    exact ⟨A_CDATA_START, rfl, N0, rfl⟩
  · rw [q]
    show G (s₁.setTop (mkF me_ 5 #[.val (.int n), .val (.int (5 : Int32))] []))
    refine gv (fun tQ kQ => XS.iloadN X0.here hx rfl (hb hby d7_5) rfl kQ) ?_
    show G (s₁.setTop (mkF me_ 6 #[.val (.int n), .val (.int (5 : Int32))] [(.int (5 : Int32))]))
    refine gv (fun tQ kQ => XS.ifYes X0.here hx rfl (pc0 := 6) (pc' := 13) rfl (hb hby d7_6) rfl ((if0 _ _).trans (feq (by decide : ¬ ((5 : Int32) = (0 : Int32)))).2) (by decide) (by decide) kQ) ?_
    show G (s₁.setTop (mkF me_ 13 #[.val (.int n), .val (.int (5 : Int32))] []))
    refine gv (fun tQ kQ => XS.iloadN X0.here hx rfl (hb hby d7_13) rfl kQ) ?_
    show G (s₁.setTop (mkF me_ 14 #[.val (.int n), .val (.int (5 : Int32))] [(.int (5 : Int32))]))
    refine gv (fun tQ kQ => XS.iconst X0.here hx rfl (hb hby d7_14) kQ) ?_
    show G (s₁.setTop (mkF me_ 15 #[.val (.int n), .val (.int (5 : Int32))] [(.int (1 : Int32)), (.int (5 : Int32))]))
    refine gv (fun tQ kQ => XS.icmpYes X0.here hx rfl (pc0 := 15) (pc' := 22) rfl (hb hby d7_15) rfl (feq (by decide : ¬ ((5 : Int32) = (1 : Int32)))).2 (by decide) (by decide) kQ) ?_
    show G (s₁.setTop (mkF me_ 22 #[.val (.int n), .val (.int (5 : Int32))] []))
    refine gv (fun tQ kQ => XS.iloadN X0.here hx rfl (hb hby d7_22) rfl kQ) ?_
    show G (s₁.setTop (mkF me_ 23 #[.val (.int n), .val (.int (5 : Int32))] [(.int (5 : Int32))]))
    refine gv (fun tQ kQ => XS.iconst X0.here hx rfl (hb hby d7_23) kQ) ?_
    show G (s₁.setTop (mkF me_ 24 #[.val (.int n), .val (.int (5 : Int32))] [(.int (2 : Int32)), (.int (5 : Int32))]))
    refine gv (fun tQ kQ => XS.icmpYes X0.here hx rfl (pc0 := 24) (pc' := 31) rfl (hb hby d7_24) rfl (feq (by decide : ¬ ((5 : Int32) = (2 : Int32)))).2 (by decide) (by decide) kQ) ?_
    show G (s₁.setTop (mkF me_ 31 #[.val (.int n), .val (.int (5 : Int32))] []))
    refine gv (fun tQ kQ => XS.iloadN X0.here hx rfl (hb hby d7_31) rfl kQ) ?_
    show G (s₁.setTop (mkF me_ 32 #[.val (.int n), .val (.int (5 : Int32))] [(.int (5 : Int32))]))
    refine gv (fun tQ kQ => XS.iconst X0.here hx rfl (hb hby d7_32) kQ) ?_
    show G (s₁.setTop (mkF me_ 33 #[.val (.int n), .val (.int (5 : Int32))] [(.int (3 : Int32)), (.int (5 : Int32))]))
    refine gv (fun tQ kQ => XS.icmpYes X0.here hx rfl (pc0 := 33) (pc' := 40) rfl (hb hby d7_33) rfl (feq (by decide : ¬ ((5 : Int32) = (3 : Int32)))).2 (by decide) (by decide) kQ) ?_
    show G (s₁.setTop (mkF me_ 40 #[.val (.int n), .val (.int (5 : Int32))] []))
    refine gv (fun tQ kQ => XS.iloadN X0.here hx rfl (hb hby d7_40) rfl kQ) ?_
    show G (s₁.setTop (mkF me_ 41 #[.val (.int n), .val (.int (5 : Int32))] [(.int (5 : Int32))]))
    refine gv (fun tQ kQ => XS.iconst X0.here hx rfl (hb hby d7_41) kQ) ?_
    show G (s₁.setTop (mkF me_ 42 #[.val (.int n), .val (.int (5 : Int32))] [(.int (4 : Int32)), (.int (5 : Int32))]))
    refine gv (fun tQ kQ => XS.icmpYes X0.here hx rfl (pc0 := 42) (pc' := 49) rfl (hb hby d7_42) rfl (feq (by decide : ¬ ((5 : Int32) = (4 : Int32)))).2 (by decide) (by decide) kQ) ?_
    show G (s₁.setTop (mkF me_ 49 #[.val (.int n), .val (.int (5 : Int32))] []))
    refine gv (fun tQ kQ => XS.iloadN X0.here hx rfl (hb hby d7_49) rfl kQ) ?_
    show G (s₁.setTop (mkF me_ 50 #[.val (.int n), .val (.int (5 : Int32))] [(.int (5 : Int32))]))
    refine gv (fun tQ kQ => XS.iconst X0.here hx rfl (hb hby d7_50) kQ) ?_
    show G (s₁.setTop (mkF me_ 51 #[.val (.int n), .val (.int (5 : Int32))] [(.int (5 : Int32)), (.int (5 : Int32))]))
    refine gv (fun tQ kQ => XS.icmpNo X0.here hx rfl (hb hby d7_51) rfl (teq (by decide : (5 : Int32) = (5 : Int32))).2 kQ) ?_
    show G (s₁.setTop (mkF me_ 54 #[.val (.int n), .val (.int (5 : Int32))] []))
    obtain ⟨T223, X223, e223, st223⟩ := getS2 X0 hx hZ hown (host := "") (Or.inl (hw _ (List.mem_of_getElem? (i := 99) rfl))) Via.refl e0 (u5.ext O0.2) (g := (mkF me_ 54 #[.val (.int n), .val (.int (5 : Int32))] [])) rfl (hb hby d7_54)
    refine gv st223 ?_
    show G (T223.setTop (mkF me_ 57 #[.val (.int n), .val (.int (5 : Int32))] [(.ref A_CDATA_END)]))
    refine gf _ (own_ret X223 Bd.notSynchronized (v := some (.ref A_CDATA_END)) (fun h => by rw [Bd.returns] at h; cases h) ?_ (by decide) (by decide) (fun fs hr => retOut X223 hx (t := (.object "com/example/hits_in_context/hitsincontext/io/XmlCharacterData$Kind")) Bd.returns rfl (Or.inr (Or.inr (Or.inr (Or.inr ⟨rfl, rfl, rfl⟩)))) (hb hby d7_57) hr))
    show Q_kind Z n A_TEXT A_MARKUP A_DECLARATION A_ROOT_TAG A_CDATA_START A_CDATA_END A_ENTITY_START A_ENTITY_END h0 n0 _ T223.heap _
    rw [e223]
    exact ⟨A_CDATA_END, rfl, N0, rfl⟩
  · rw [q]
    show G (s₁.setTop (mkF me_ 5 #[.val (.int n), .val (.int (6 : Int32))] []))
    refine gv (fun tQ kQ => XS.iloadN X0.here hx rfl (hb hby d7_5) rfl kQ) ?_
    show G (s₁.setTop (mkF me_ 6 #[.val (.int n), .val (.int (6 : Int32))] [(.int (6 : Int32))]))
    refine gv (fun tQ kQ => XS.ifYes X0.here hx rfl (pc0 := 6) (pc' := 13) rfl (hb hby d7_6) rfl ((if0 _ _).trans (feq (by decide : ¬ ((6 : Int32) = (0 : Int32)))).2) (by decide) (by decide) kQ) ?_
    show G (s₁.setTop (mkF me_ 13 #[.val (.int n), .val (.int (6 : Int32))] []))
    refine gv (fun tQ kQ => XS.iloadN X0.here hx rfl (hb hby d7_13) rfl kQ) ?_
    show G (s₁.setTop (mkF me_ 14 #[.val (.int n), .val (.int (6 : Int32))] [(.int (6 : Int32))]))
    refine gv (fun tQ kQ => XS.iconst X0.here hx rfl (hb hby d7_14) kQ) ?_
    show G (s₁.setTop (mkF me_ 15 #[.val (.int n), .val (.int (6 : Int32))] [(.int (1 : Int32)), (.int (6 : Int32))]))
    refine gv (fun tQ kQ => XS.icmpYes X0.here hx rfl (pc0 := 15) (pc' := 22) rfl (hb hby d7_15) rfl (feq (by decide : ¬ ((6 : Int32) = (1 : Int32)))).2 (by decide) (by decide) kQ) ?_
    show G (s₁.setTop (mkF me_ 22 #[.val (.int n), .val (.int (6 : Int32))] []))
    refine gv (fun tQ kQ => XS.iloadN X0.here hx rfl (hb hby d7_22) rfl kQ) ?_
    show G (s₁.setTop (mkF me_ 23 #[.val (.int n), .val (.int (6 : Int32))] [(.int (6 : Int32))]))
    refine gv (fun tQ kQ => XS.iconst X0.here hx rfl (hb hby d7_23) kQ) ?_
    show G (s₁.setTop (mkF me_ 24 #[.val (.int n), .val (.int (6 : Int32))] [(.int (2 : Int32)), (.int (6 : Int32))]))
    refine gv (fun tQ kQ => XS.icmpYes X0.here hx rfl (pc0 := 24) (pc' := 31) rfl (hb hby d7_24) rfl (feq (by decide : ¬ ((6 : Int32) = (2 : Int32)))).2 (by decide) (by decide) kQ) ?_
    show G (s₁.setTop (mkF me_ 31 #[.val (.int n), .val (.int (6 : Int32))] []))
    refine gv (fun tQ kQ => XS.iloadN X0.here hx rfl (hb hby d7_31) rfl kQ) ?_
    show G (s₁.setTop (mkF me_ 32 #[.val (.int n), .val (.int (6 : Int32))] [(.int (6 : Int32))]))
    refine gv (fun tQ kQ => XS.iconst X0.here hx rfl (hb hby d7_32) kQ) ?_
    show G (s₁.setTop (mkF me_ 33 #[.val (.int n), .val (.int (6 : Int32))] [(.int (3 : Int32)), (.int (6 : Int32))]))
    refine gv (fun tQ kQ => XS.icmpYes X0.here hx rfl (pc0 := 33) (pc' := 40) rfl (hb hby d7_33) rfl (feq (by decide : ¬ ((6 : Int32) = (3 : Int32)))).2 (by decide) (by decide) kQ) ?_
    show G (s₁.setTop (mkF me_ 40 #[.val (.int n), .val (.int (6 : Int32))] []))
    refine gv (fun tQ kQ => XS.iloadN X0.here hx rfl (hb hby d7_40) rfl kQ) ?_
    show G (s₁.setTop (mkF me_ 41 #[.val (.int n), .val (.int (6 : Int32))] [(.int (6 : Int32))]))
    refine gv (fun tQ kQ => XS.iconst X0.here hx rfl (hb hby d7_41) kQ) ?_
    show G (s₁.setTop (mkF me_ 42 #[.val (.int n), .val (.int (6 : Int32))] [(.int (4 : Int32)), (.int (6 : Int32))]))
    refine gv (fun tQ kQ => XS.icmpYes X0.here hx rfl (pc0 := 42) (pc' := 49) rfl (hb hby d7_42) rfl (feq (by decide : ¬ ((6 : Int32) = (4 : Int32)))).2 (by decide) (by decide) kQ) ?_
    show G (s₁.setTop (mkF me_ 49 #[.val (.int n), .val (.int (6 : Int32))] []))
    refine gv (fun tQ kQ => XS.iloadN X0.here hx rfl (hb hby d7_49) rfl kQ) ?_
    show G (s₁.setTop (mkF me_ 50 #[.val (.int n), .val (.int (6 : Int32))] [(.int (6 : Int32))]))
    refine gv (fun tQ kQ => XS.iconst X0.here hx rfl (hb hby d7_50) kQ) ?_
    show G (s₁.setTop (mkF me_ 51 #[.val (.int n), .val (.int (6 : Int32))] [(.int (5 : Int32)), (.int (6 : Int32))]))
    refine gv (fun tQ kQ => XS.icmpYes X0.here hx rfl (pc0 := 51) (pc' := 58) rfl (hb hby d7_51) rfl (feq (by decide : ¬ ((6 : Int32) = (5 : Int32)))).2 (by decide) (by decide) kQ) ?_
    show G (s₁.setTop (mkF me_ 58 #[.val (.int n), .val (.int (6 : Int32))] []))
    refine gv (fun tQ kQ => XS.iloadN X0.here hx rfl (hb hby d7_58) rfl kQ) ?_
    show G (s₁.setTop (mkF me_ 59 #[.val (.int n), .val (.int (6 : Int32))] [(.int (6 : Int32))]))
    refine gv (fun tQ kQ => XS.bipush X0.here hx rfl (hb hby d7_59) kQ) ?_
    show G (s₁.setTop (mkF me_ 61 #[.val (.int n), .val (.int (6 : Int32))] [(.int (6 : Int32)), (.int (6 : Int32))]))
    refine gv (fun tQ kQ => XS.icmpNo X0.here hx rfl (hb hby d7_61) rfl (teq (by decide : (6 : Int32) = (6 : Int32))).2 kQ) ?_
    show G (s₁.setTop (mkF me_ 64 #[.val (.int n), .val (.int (6 : Int32))] []))
    obtain ⟨T224, X224, e224, st224⟩ := getS2 X0 hx hZ hown (host := "") (Or.inl (hw _ (List.mem_of_getElem? (i := 97) rfl))) Via.refl e0 (u6.ext O0.2) (g := (mkF me_ 64 #[.val (.int n), .val (.int (6 : Int32))] [])) rfl (hb hby d7_64)
    refine gv st224 ?_
    show G (T224.setTop (mkF me_ 67 #[.val (.int n), .val (.int (6 : Int32))] [(.ref A_ENTITY_START)]))
    refine gf _ (own_ret X224 Bd.notSynchronized (v := some (.ref A_ENTITY_START)) (fun h => by rw [Bd.returns] at h; cases h) ?_ (by decide) (by decide) (fun fs hr => retOut X224 hx (t := (.object "com/example/hits_in_context/hitsincontext/io/XmlCharacterData$Kind")) Bd.returns rfl (Or.inr (Or.inr (Or.inr (Or.inr ⟨rfl, rfl, rfl⟩)))) (hb hby d7_67) hr))
    show Q_kind Z n A_TEXT A_MARKUP A_DECLARATION A_ROOT_TAG A_CDATA_START A_CDATA_END A_ENTITY_START A_ENTITY_END h0 n0 _ T224.heap _
    rw [e224]
    exact ⟨A_ENTITY_START, rfl, N0, rfl⟩
  · rw [q]
    show G (s₁.setTop (mkF me_ 5 #[.val (.int n), .val (.int (7 : Int32))] []))
    refine gv (fun tQ kQ => XS.iloadN X0.here hx rfl (hb hby d7_5) rfl kQ) ?_
    show G (s₁.setTop (mkF me_ 6 #[.val (.int n), .val (.int (7 : Int32))] [(.int (7 : Int32))]))
    refine gv (fun tQ kQ => XS.ifYes X0.here hx rfl (pc0 := 6) (pc' := 13) rfl (hb hby d7_6) rfl ((if0 _ _).trans (feq (by decide : ¬ ((7 : Int32) = (0 : Int32)))).2) (by decide) (by decide) kQ) ?_
    show G (s₁.setTop (mkF me_ 13 #[.val (.int n), .val (.int (7 : Int32))] []))
    refine gv (fun tQ kQ => XS.iloadN X0.here hx rfl (hb hby d7_13) rfl kQ) ?_
    show G (s₁.setTop (mkF me_ 14 #[.val (.int n), .val (.int (7 : Int32))] [(.int (7 : Int32))]))
    refine gv (fun tQ kQ => XS.iconst X0.here hx rfl (hb hby d7_14) kQ) ?_
    show G (s₁.setTop (mkF me_ 15 #[.val (.int n), .val (.int (7 : Int32))] [(.int (1 : Int32)), (.int (7 : Int32))]))
    refine gv (fun tQ kQ => XS.icmpYes X0.here hx rfl (pc0 := 15) (pc' := 22) rfl (hb hby d7_15) rfl (feq (by decide : ¬ ((7 : Int32) = (1 : Int32)))).2 (by decide) (by decide) kQ) ?_
    show G (s₁.setTop (mkF me_ 22 #[.val (.int n), .val (.int (7 : Int32))] []))
    refine gv (fun tQ kQ => XS.iloadN X0.here hx rfl (hb hby d7_22) rfl kQ) ?_
    show G (s₁.setTop (mkF me_ 23 #[.val (.int n), .val (.int (7 : Int32))] [(.int (7 : Int32))]))
    refine gv (fun tQ kQ => XS.iconst X0.here hx rfl (hb hby d7_23) kQ) ?_
    show G (s₁.setTop (mkF me_ 24 #[.val (.int n), .val (.int (7 : Int32))] [(.int (2 : Int32)), (.int (7 : Int32))]))
    refine gv (fun tQ kQ => XS.icmpYes X0.here hx rfl (pc0 := 24) (pc' := 31) rfl (hb hby d7_24) rfl (feq (by decide : ¬ ((7 : Int32) = (2 : Int32)))).2 (by decide) (by decide) kQ) ?_
    show G (s₁.setTop (mkF me_ 31 #[.val (.int n), .val (.int (7 : Int32))] []))
    refine gv (fun tQ kQ => XS.iloadN X0.here hx rfl (hb hby d7_31) rfl kQ) ?_
    show G (s₁.setTop (mkF me_ 32 #[.val (.int n), .val (.int (7 : Int32))] [(.int (7 : Int32))]))
    refine gv (fun tQ kQ => XS.iconst X0.here hx rfl (hb hby d7_32) kQ) ?_
    show G (s₁.setTop (mkF me_ 33 #[.val (.int n), .val (.int (7 : Int32))] [(.int (3 : Int32)), (.int (7 : Int32))]))
    refine gv (fun tQ kQ => XS.icmpYes X0.here hx rfl (pc0 := 33) (pc' := 40) rfl (hb hby d7_33) rfl (feq (by decide : ¬ ((7 : Int32) = (3 : Int32)))).2 (by decide) (by decide) kQ) ?_
    show G (s₁.setTop (mkF me_ 40 #[.val (.int n), .val (.int (7 : Int32))] []))
    refine gv (fun tQ kQ => XS.iloadN X0.here hx rfl (hb hby d7_40) rfl kQ) ?_
    show G (s₁.setTop (mkF me_ 41 #[.val (.int n), .val (.int (7 : Int32))] [(.int (7 : Int32))]))
    refine gv (fun tQ kQ => XS.iconst X0.here hx rfl (hb hby d7_41) kQ) ?_
    show G (s₁.setTop (mkF me_ 42 #[.val (.int n), .val (.int (7 : Int32))] [(.int (4 : Int32)), (.int (7 : Int32))]))
    refine gv (fun tQ kQ => XS.icmpYes X0.here hx rfl (pc0 := 42) (pc' := 49) rfl (hb hby d7_42) rfl (feq (by decide : ¬ ((7 : Int32) = (4 : Int32)))).2 (by decide) (by decide) kQ) ?_
    show G (s₁.setTop (mkF me_ 49 #[.val (.int n), .val (.int (7 : Int32))] []))
    refine gv (fun tQ kQ => XS.iloadN X0.here hx rfl (hb hby d7_49) rfl kQ) ?_
    show G (s₁.setTop (mkF me_ 50 #[.val (.int n), .val (.int (7 : Int32))] [(.int (7 : Int32))]))
    refine gv (fun tQ kQ => XS.iconst X0.here hx rfl (hb hby d7_50) kQ) ?_
    show G (s₁.setTop (mkF me_ 51 #[.val (.int n), .val (.int (7 : Int32))] [(.int (5 : Int32)), (.int (7 : Int32))]))
    refine gv (fun tQ kQ => XS.icmpYes X0.here hx rfl (pc0 := 51) (pc' := 58) rfl (hb hby d7_51) rfl (feq (by decide : ¬ ((7 : Int32) = (5 : Int32)))).2 (by decide) (by decide) kQ) ?_
    show G (s₁.setTop (mkF me_ 58 #[.val (.int n), .val (.int (7 : Int32))] []))
    refine gv (fun tQ kQ => XS.iloadN X0.here hx rfl (hb hby d7_58) rfl kQ) ?_
    show G (s₁.setTop (mkF me_ 59 #[.val (.int n), .val (.int (7 : Int32))] [(.int (7 : Int32))]))
    refine gv (fun tQ kQ => XS.bipush X0.here hx rfl (hb hby d7_59) kQ) ?_
    show G (s₁.setTop (mkF me_ 61 #[.val (.int n), .val (.int (7 : Int32))] [(.int (6 : Int32)), (.int (7 : Int32))]))
    refine gv (fun tQ kQ => XS.icmpYes X0.here hx rfl (pc0 := 61) (pc' := 68) rfl (hb hby d7_61) rfl (feq (by decide : ¬ ((7 : Int32) = (6 : Int32)))).2 (by decide) (by decide) kQ) ?_
    show G (s₁.setTop (mkF me_ 68 #[.val (.int n), .val (.int (7 : Int32))] []))
    obtain ⟨T225, X225, e225, st225⟩ := getS2 X0 hx hZ hown (host := "") (Or.inl (hw _ (List.mem_of_getElem? (i := 93) rfl))) Via.refl e0 (u7.ext O0.2) (g := (mkF me_ 68 #[.val (.int n), .val (.int (7 : Int32))] [])) rfl (hb hby d7_68)
    refine gv st225 ?_
    show G (T225.setTop (mkF me_ 71 #[.val (.int n), .val (.int (7 : Int32))] [(.ref A_ENTITY_END)]))
    refine gf _ (own_ret X225 Bd.notSynchronized (v := some (.ref A_ENTITY_END)) (fun h => by rw [Bd.returns] at h; cases h) ?_ (by decide) (by decide) (fun fs hr => retOut X225 hx (t := (.object "com/example/hits_in_context/hitsincontext/io/XmlCharacterData$Kind")) Bd.returns rfl (Or.inr (Or.inr (Or.inr (Or.inr ⟨rfl, rfl, rfl⟩)))) (hb hby d7_71) hr))
    show Q_kind Z n A_TEXT A_MARKUP A_DECLARATION A_ROOT_TAG A_CDATA_START A_CDATA_END A_ENTITY_START A_ENTITY_END h0 n0 _ T225.heap _
    rw [e225]
    exact ⟨A_ENTITY_END, rfl, N0, rfl⟩
theorem ef_9 (m : MethodId) (x0 : Addr) (x1 : Addr) (x2 : Addr) (x3 : Int32) (x4 : Int32)  : entryFrame m #[(.ref x0), (.ref x1), (.ref x2), (.int x3), (.int x4), .null] 6 = mkF m 0 #[.val (.ref x0), .val (.ref x1), .val (.ref x2), .val (.int x3), .val (.int x4), .val .null] [] := by first | (simp [entryFrame, mkF, argsToLocals, Value.category]; done) | rfl
theorem pn_4 : plainName "com/example/hits_in_context/hitsincontext/io/XmlCharacterData$Piece" = true := by first | (simp [plainName, overriddenIn]; done) | decide +kernel
theorem d8_0 : decode prog_24_method_1_code 0 = .ok (.aload_n 0, 1) := by decide +kernel
theorem d8_1 : decode prog_24_method_1_code 1 = .ok (.invokespecial 1, 3) := by decide +kernel
theorem d8_4 : decode prog_24_method_1_code 4 = .ok (.aload_n 0, 1) := by decide +kernel
theorem d8_5 : decode prog_24_method_1_code 5 = .ok (.aload_n 1, 1) := by decide +kernel
theorem d8_6 : decode prog_24_method_1_code 6 = .ok (.putfield 7, 3) := by decide +kernel
theorem d8_9 : decode prog_24_method_1_code 9 = .ok (.aload_n 0, 1) := by decide +kernel
theorem d8_10 : decode prog_24_method_1_code 10 = .ok (.aload_n 2, 1) := by decide +kernel
theorem d8_11 : decode prog_24_method_1_code 11 = .ok (.putfield 13, 3) := by decide +kernel
theorem d8_14 : decode prog_24_method_1_code 14 = .ok (.aload_n 0, 1) := by decide +kernel
theorem d8_15 : decode prog_24_method_1_code 15 = .ok (.iload_n 3, 1) := by decide +kernel
theorem d8_16 : decode prog_24_method_1_code 16 = .ok (.putfield 17, 3) := by decide +kernel
theorem d8_19 : decode prog_24_method_1_code 19 = .ok (.aload_n 0, 1) := by decide +kernel
theorem d8_20 : decode prog_24_method_1_code 20 = .ok (.iload 4, 2) := by decide +kernel
theorem d8_22 : decode prog_24_method_1_code 22 = .ok (.putfield 21, 3) := by decide +kernel
theorem d8_25 : decode prog_24_method_1_code 25 = .ok (.aload_n 0, 1) := by decide +kernel
theorem d8_26 : decode prog_24_method_1_code 26 = .ok (.aload 5, 2) := by decide +kernel
theorem d8_28 : decode prog_24_method_1_code 28 = .ok (.putfield 24, 3) := by decide +kernel
theorem d8_31 : decode prog_24_method_1_code 31 = .ok (.return_, 1) := by decide +kernel
def Q_piN (Z : State) (a : Addr) (k_ : Addr) (z_ : Addr) (sta : Int32) (en : Int32) (h0 : Heap) (n0 : Nat) (v : Option Value) (h : Heap) (L : List Loc) : Prop := v = none ∧ Fr n0 L ∧ Keep h0 h [a] ∧ (Exa Z h a "com/example/hits_in_context/hitsincontext/io/XmlCharacterData$Piece") ∧ (Fld Z h a "com/example/hits_in_context/hitsincontext/io/XmlCharacterData$Piece" "start" "I" (.int sta)) ∧ (Fld Z h a "com/example/hits_in_context/hitsincontext/io/XmlCharacterData$Piece" "end" "I" (.int en)) ∧ (Fld Z h a "com/example/hits_in_context/hitsincontext/io/XmlCharacterData$Piece" "chars" "Ljava/lang/String;" .null)
set_option maxRecDepth 65536 in
set_option maxHeartbeats 40000000 in
theorem rm_piN (l : Launch) (Z : State) (a0 : Array Value) (hw : ∀ d ∈ tables_1, d.before a0 Z = true) (ws : List Jvm.Cond) (a : Addr) (k_ : Addr) (z_ : Addr) (sta : Int32) (en : Int32) (h0 : Heap) (n0 : Nat) (O0 : Old Z n0 h0) (u0 : Exa Z h0 a "com/example/hits_in_context/hitsincontext/io/XmlCharacterData$Piece") (u1 : Fld Z h0 a "com/example/hits_in_context/hitsincontext/io/XmlCharacterData$Piece" "kind" "Lcom/example/hits_in_context/hitsincontext/io/XmlCharacterData$Kind;" .null) (u2 : Fld Z h0 a "com/example/hits_in_context/hitsincontext/io/XmlCharacterData$Piece" "source" "Ljava/lang/String;" .null) (u3 : Fld Z h0 a "com/example/hits_in_context/hitsincontext/io/XmlCharacterData$Piece" "start" "I" (.int (0 : Int32))) (u4 : Fld Z h0 a "com/example/hits_in_context/hitsincontext/io/XmlCharacterData$Piece" "end" "I" (.int (0 : Int32))) (u5 : Fld Z h0 a "com/example/hits_in_context/hitsincontext/io/XmlCharacterData$Piece" "chars" "Ljava/lang/String;" .null) (u6 : n0 ≤ a) :
    MetFree l (⟨"com/example/hits_in_context/hitsincontext/io/XmlCharacterData$Piece", "<init>", "(Lcom/example/hits_in_context/hitsincontext/io/XmlCharacterData$Kind;Ljava/lang/String;IILjava/lang/String;)V"⟩ : MethodName) (head1 (Jvm.Cond.code (⟨"com/example/hits_in_context/hitsincontext/io/XmlCharacterData$Piece", "<init>", "(Lcom/example/hits_in_context/hitsincontext/io/XmlCharacterData$Kind;Ljava/lang/String;IILjava/lang/String;)V"⟩ : MethodName) prog_24_method_1_code 6 none :: ws) ({ frames := 1, cells := 0, slots := 0, locals := 12 } : Room)) (fun aV U => aV = #[(.ref a), (.ref k_), (.ref z_), (.int sta), (.int en), .null] ∧ Z.Warmed39 U.vm ∧ U.heap = h0) (fun _ _ _ _ _ => True) (fun _ U o U' => ∃ v L, o = .returned v ∧ Q_piN Z a k_ z_ sta en h0 n0 v U'.heap L ∧ FrameEnd U o U' L ({ frames := 1, cells := 0, slots := 0, locals := 12 } : Room).cells ({ frames := 1, cells := 0, slots := 0, locals := 12 } : Room).slots) := by
  refine MetFree.of_bodySF (plainFor_of_name pn_4) hisR ?_
  intro pr_ en_ st_ me_ args below meth_ co_ s₁ Bd hml0 hP hK
  obtain ⟨rfl, hZ, hh⟩ := hP
  have hx := Bd.exec
  have hby := Bd.bytes
  have hml : co_.maxLocals = 6 := hml0
  have hown : st_.vm.findClass "com/example/hits_in_context/hitsincontext/io/XmlCharacterData$Piece" = some me_.cls := findClass_of_methodNamed Bd.named
  have hnm := (name_of_methodNamed Bd.named Bd.method).1
  have X0 : Stand pr_ l en_ ({ frames := 1, cells := 0, slots := 0, locals := 12 } : Room) st_ me_ #[(.ref a), (.ref k_), (.ref z_), (.int sta), (.int en), .null] below meth_ co_ s₁ [] 0 0 := Stand.of_body Bd
  have e0 : s₁.heap = h0 := by rw [← hh, Bd.state]; rfl
  have N0 := Fr.nil n0
  have K0 := Keep.refl h0 [a]
  obtain ⟨G, gv, gf, gb⟩ := own_G pr_.tables en_ below st_ (Q_piN Z a k_ z_ sta en h0 n0) ({ frames := 1, cells := 0, slots := 0, locals := 12 } : Room).cells ({ frames := 1, cells := 0, slots := 0, locals := 12 } : Room).slots
  show own_Fin pr_.tables en_ below st_ (Q_piN Z a k_ z_ sta en h0 n0) ({ frames := 1, cells := 0, slots := 0, locals := 12 } : Room).cells ({ frames := 1, cells := 0, slots := 0, locals := 12 } : Room).slots (s₁.setTop (entryFrame me_ #[(.ref a), (.ref k_), (.ref z_), (.int sta), (.int en), .null] 6))
  refine gb _ (gv (fun tQ kQ => castTop (ef_9 me_ a k_ z_ sta en) kQ) ?_)
  show G (s₁.setTop (mkF me_ 0 #[.val (.ref a), .val (.ref k_), .val (.ref z_), .val (.int sta), .val (.int en), .val .null] []))
  refine gv (fun tQ kQ => XS.aloadN X0.here hx rfl (hb hby d8_0) rfl rfl kQ) ?_
  show G (s₁.setTop (mkF me_ 1 #[.val (.ref a), .val (.ref k_), .val (.ref z_), .val (.int sta), .val (.int en), .val .null] [(.ref a)]))
  obtain ⟨T226, X226, e226, st226⟩ := initO X0 hx hZ hown (hw _ (List.mem_of_getElem? (i := 46) rfl)) (hw _ (List.mem_of_getElem? (i := 12) rfl)) (hw _ (List.mem_of_getElem? (i := 13) rfl)) e0 (g := (mkF me_ 1 #[.val (.ref a), .val (.ref k_), .val (.ref z_), .val (.int sta), .val (.int en), .val .null] [(.ref a)])) rfl (by rw [hml]; rfl) rfl (hb hby d8_1) (by decide) (W := 0) (by show 2 * 0 + _ ≤ _; exact Nat.le_of_eq rfl) (by decide)
  refine gv st226 ?_
  show G (T226.setTop (mkF me_ 4 #[.val (.ref a), .val (.ref k_), .val (.ref z_), .val (.int sta), .val (.int en), .val .null] []))
  refine gv (fun tQ kQ => XS.aloadN X226.here hx rfl (hb hby d8_4) rfl rfl kQ) ?_
  show G (T226.setTop (mkF me_ 5 #[.val (.ref a), .val (.ref k_), .val (.ref z_), .val (.int sta), .val (.int en), .val .null] [(.ref a)]))
  refine gv (fun tQ kQ => XS.aloadN X226.here hx rfl (hb hby d8_5) rfl rfl kQ) ?_
  show G (T226.setTop (mkF me_ 6 #[.val (.ref a), .val (.ref k_), .val (.ref z_), .val (.int sta), .val (.int en), .val .null] [(.ref k_), (.ref a)]))
  obtain ⟨T227, h227, X227, e227, W227, st227⟩ := putF X226 hx hZ hown (host := "") (Or.inl (hw _ (List.mem_of_getElem? (i := 47) rfl))) Via.refl e226 u1 u0 (Or.inr ⟨(hw _ (List.mem_of_getElem? (i := 48) rfl)), rfl, hnm⟩) (hw _ (List.mem_of_getElem? (i := 34) rfl)) (ty := (.object "com/example/hits_in_context/hitsincontext/io/XmlCharacterData$Kind")) (by decide) rfl rfl (g := (mkF me_ 6 #[.val (.ref a), .val (.ref k_), .val (.ref z_), .val (.int sta), .val (.int en), .val .null] [(.ref k_), (.ref a)])) rfl rfl (hb hby d8_6)
  refine gv st227 ?_
  have f229 : Exa Z h227 a "com/example/hits_in_context/hitsincontext/io/XmlCharacterData$Piece" := u0.wr W227
  have f230 : Fld Z h227 a "com/example/hits_in_context/hitsincontext/io/XmlCharacterData$Piece" "source" "Ljava/lang/String;" .null := u2.other W227 (Or.inr (slot_ne (Or.inr (hw _ (List.mem_of_getElem? (i := 50) rfl))) (Or.inr (hw _ (List.mem_of_getElem? (i := 48) rfl))) (by decide) (t := (.object "java/lang/String")) (t' := (.object "com/example/hits_in_context/hitsincontext/io/XmlCharacterData$Kind")) (by decide) (by decide)))
  have f231 : Fld Z h227 a "com/example/hits_in_context/hitsincontext/io/XmlCharacterData$Piece" "start" "I" (.int (0 : Int32)) := u3.other W227 (Or.inr (slot_ne (Or.inr (hw _ (List.mem_of_getElem? (i := 52) rfl))) (Or.inr (hw _ (List.mem_of_getElem? (i := 48) rfl))) (by decide) (t := .int) (t' := (.object "com/example/hits_in_context/hitsincontext/io/XmlCharacterData$Kind")) (by decide) (by decide)))
  have f232 : Fld Z h227 a "com/example/hits_in_context/hitsincontext/io/XmlCharacterData$Piece" "end" "I" (.int (0 : Int32)) := u4.other W227 (Or.inr (slot_ne (Or.inr (hw _ (List.mem_of_getElem? (i := 54) rfl))) (Or.inr (hw _ (List.mem_of_getElem? (i := 48) rfl))) (by decide) (t := .int) (t' := (.object "com/example/hits_in_context/hitsincontext/io/XmlCharacterData$Kind")) (by decide) (by decide)))
  have f233 : Fld Z h227 a "com/example/hits_in_context/hitsincontext/io/XmlCharacterData$Piece" "chars" "Ljava/lang/String;" .null := u5.other W227 (Or.inr (slot_ne (Or.inr (hw _ (List.mem_of_getElem? (i := 56) rfl))) (Or.inr (hw _ (List.mem_of_getElem? (i := 48) rfl))) (by decide) (t := (.object "java/lang/String")) (t' := (.object "com/example/hits_in_context/hitsincontext/io/XmlCharacterData$Kind")) (by decide) (by decide)))
  have O234 := O0.wr W227 u6
  have K235 := K0.wr W227 (Or.inl (List.mem_of_getElem? (i := 0) rfl))
  have N236 := Fr.snoc X227 N0 u6
  have f228 : Fld Z h227 a "com/example/hits_in_context/hitsincontext/io/XmlCharacterData$Piece" "kind" "Lcom/example/hits_in_context/hitsincontext/io/XmlCharacterData$Kind;" (.ref k_) := u1.same W227
  show G (T227.setTop (mkF me_ 9 #[.val (.ref a), .val (.ref k_), .val (.ref z_), .val (.int sta), .val (.int en), .val .null] []))
  refine gv (fun tQ kQ => XS.aloadN X227.here hx rfl (hb hby d8_9) rfl rfl kQ) ?_
  show G (T227.setTop (mkF me_ 10 #[.val (.ref a), .val (.ref k_), .val (.ref z_), .val (.int sta), .val (.int en), .val .null] [(.ref a)]))
  refine gv (fun tQ kQ => XS.aloadN X227.here hx rfl (hb hby d8_10) rfl rfl kQ) ?_
  show G (T227.setTop (mkF me_ 11 #[.val (.ref a), .val (.ref k_), .val (.ref z_), .val (.int sta), .val (.int en), .val .null] [(.ref z_), (.ref a)]))
  obtain ⟨T237, h237, X237, e237, W237, st237⟩ := putF X227 hx hZ hown (host := "") (Or.inl (hw _ (List.mem_of_getElem? (i := 49) rfl))) Via.refl e227 f230 f229 (Or.inr ⟨(hw _ (List.mem_of_getElem? (i := 50) rfl)), rfl, hnm⟩) (hw _ (List.mem_of_getElem? (i := 34) rfl)) (ty := (.object "java/lang/String")) (by decide) rfl rfl (g := (mkF me_ 11 #[.val (.ref a), .val (.ref k_), .val (.ref z_), .val (.int sta), .val (.int en), .val .null] [(.ref z_), (.ref a)])) rfl rfl (hb hby d8_11)
  refine gv st237 ?_
  have f239 : Exa Z h237 a "com/example/hits_in_context/hitsincontext/io/XmlCharacterData$Piece" := f229.wr W237
  have f240 : Fld Z h237 a "com/example/hits_in_context/hitsincontext/io/XmlCharacterData$Piece" "kind" "Lcom/example/hits_in_context/hitsincontext/io/XmlCharacterData$Kind;" (.ref k_) := f228.other W237 (Or.inr (slot_ne (Or.inr (hw _ (List.mem_of_getElem? (i := 48) rfl))) (Or.inr (hw _ (List.mem_of_getElem? (i := 50) rfl))) (by decide) (t := (.object "com/example/hits_in_context/hitsincontext/io/XmlCharacterData$Kind")) (t' := (.object "java/lang/String")) (by decide) (by decide)))
  have f241 : Fld Z h237 a "com/example/hits_in_context/hitsincontext/io/XmlCharacterData$Piece" "start" "I" (.int (0 : Int32)) := f231.other W237 (Or.inr (slot_ne (Or.inr (hw _ (List.mem_of_getElem? (i := 52) rfl))) (Or.inr (hw _ (List.mem_of_getElem? (i := 50) rfl))) (by decide) (t := .int) (t' := (.object "java/lang/String")) (by decide) (by decide)))
  have f242 : Fld Z h237 a "com/example/hits_in_context/hitsincontext/io/XmlCharacterData$Piece" "end" "I" (.int (0 : Int32)) := f232.other W237 (Or.inr (slot_ne (Or.inr (hw _ (List.mem_of_getElem? (i := 54) rfl))) (Or.inr (hw _ (List.mem_of_getElem? (i := 50) rfl))) (by decide) (t := .int) (t' := (.object "java/lang/String")) (by decide) (by decide)))
  have f243 : Fld Z h237 a "com/example/hits_in_context/hitsincontext/io/XmlCharacterData$Piece" "chars" "Ljava/lang/String;" .null := f233.other W237 (Or.inr (slot_ne (Or.inr (hw _ (List.mem_of_getElem? (i := 56) rfl))) (Or.inr (hw _ (List.mem_of_getElem? (i := 50) rfl))) (by decide) (t := (.object "java/lang/String")) (t' := (.object "java/lang/String")) (by decide) (by decide)))
  have O244 := O234.wr W237 u6
  have K245 := K235.wr W237 (Or.inl (List.mem_of_getElem? (i := 0) rfl))
  have N246 := Fr.snoc X237 N236 u6
  have f238 : Fld Z h237 a "com/example/hits_in_context/hitsincontext/io/XmlCharacterData$Piece" "source" "Ljava/lang/String;" (.ref z_) := f230.same W237
  show G (T237.setTop (mkF me_ 14 #[.val (.ref a), .val (.ref k_), .val (.ref z_), .val (.int sta), .val (.int en), .val .null] []))
  refine gv (fun tQ kQ => XS.aloadN X237.here hx rfl (hb hby d8_14) rfl rfl kQ) ?_
  show G (T237.setTop (mkF me_ 15 #[.val (.ref a), .val (.ref k_), .val (.ref z_), .val (.int sta), .val (.int en), .val .null] [(.ref a)]))
  refine gv (fun tQ kQ => XS.iloadN X237.here hx rfl (hb hby d8_15) rfl kQ) ?_
  show G (T237.setTop (mkF me_ 16 #[.val (.ref a), .val (.ref k_), .val (.ref z_), .val (.int sta), .val (.int en), .val .null] [(.int sta), (.ref a)]))
  obtain ⟨T247, h247, X247, e247, W247, st247⟩ := putF X237 hx hZ hown (host := "") (Or.inl (hw _ (List.mem_of_getElem? (i := 51) rfl))) Via.refl e237 f241 f239 (Or.inr ⟨(hw _ (List.mem_of_getElem? (i := 52) rfl)), rfl, hnm⟩) (hw _ (List.mem_of_getElem? (i := 34) rfl)) (ty := .int) (by decide) rfl rfl (g := (mkF me_ 16 #[.val (.ref a), .val (.ref k_), .val (.ref z_), .val (.int sta), .val (.int en), .val .null] [(.int sta), (.ref a)])) rfl rfl (hb hby d8_16)
  refine gv st247 ?_
  have f249 : Exa Z h247 a "com/example/hits_in_context/hitsincontext/io/XmlCharacterData$Piece" := f239.wr W247
  have f250 : Fld Z h247 a "com/example/hits_in_context/hitsincontext/io/XmlCharacterData$Piece" "kind" "Lcom/example/hits_in_context/hitsincontext/io/XmlCharacterData$Kind;" (.ref k_) := f240.other W247 (Or.inr (slot_ne (Or.inr (hw _ (List.mem_of_getElem? (i := 48) rfl))) (Or.inr (hw _ (List.mem_of_getElem? (i := 52) rfl))) (by decide) (t := (.object "com/example/hits_in_context/hitsincontext/io/XmlCharacterData$Kind")) (t' := .int) (by decide) (by decide)))
  have f251 : Fld Z h247 a "com/example/hits_in_context/hitsincontext/io/XmlCharacterData$Piece" "source" "Ljava/lang/String;" (.ref z_) := f238.other W247 (Or.inr (slot_ne (Or.inr (hw _ (List.mem_of_getElem? (i := 50) rfl))) (Or.inr (hw _ (List.mem_of_getElem? (i := 52) rfl))) (by decide) (t := (.object "java/lang/String")) (t' := .int) (by decide) (by decide)))
  have f252 : Fld Z h247 a "com/example/hits_in_context/hitsincontext/io/XmlCharacterData$Piece" "end" "I" (.int (0 : Int32)) := f242.other W247 (Or.inr (slot_ne (Or.inr (hw _ (List.mem_of_getElem? (i := 54) rfl))) (Or.inr (hw _ (List.mem_of_getElem? (i := 52) rfl))) (by decide) (t := .int) (t' := .int) (by decide) (by decide)))
  have f253 : Fld Z h247 a "com/example/hits_in_context/hitsincontext/io/XmlCharacterData$Piece" "chars" "Ljava/lang/String;" .null := f243.other W247 (Or.inr (slot_ne (Or.inr (hw _ (List.mem_of_getElem? (i := 56) rfl))) (Or.inr (hw _ (List.mem_of_getElem? (i := 52) rfl))) (by decide) (t := (.object "java/lang/String")) (t' := .int) (by decide) (by decide)))
  have O254 := O244.wr W247 u6
  have K255 := K245.wr W247 (Or.inl (List.mem_of_getElem? (i := 0) rfl))
  have N256 := Fr.snoc X247 N246 u6
  have f248 : Fld Z h247 a "com/example/hits_in_context/hitsincontext/io/XmlCharacterData$Piece" "start" "I" (.int sta) := f241.same W247
  show G (T247.setTop (mkF me_ 19 #[.val (.ref a), .val (.ref k_), .val (.ref z_), .val (.int sta), .val (.int en), .val .null] []))
  refine gv (fun tQ kQ => XS.aloadN X247.here hx rfl (hb hby d8_19) rfl rfl kQ) ?_
  show G (T247.setTop (mkF me_ 20 #[.val (.ref a), .val (.ref k_), .val (.ref z_), .val (.int sta), .val (.int en), .val .null] [(.ref a)]))
  refine gv (fun tQ kQ => XS.iload X247.here hx rfl (hb hby d8_20) rfl kQ) ?_
  show G (T247.setTop (mkF me_ 22 #[.val (.ref a), .val (.ref k_), .val (.ref z_), .val (.int sta), .val (.int en), .val .null] [(.int en), (.ref a)]))
  obtain ⟨T257, h257, X257, e257, W257, st257⟩ := putF X247 hx hZ hown (host := "") (Or.inl (hw _ (List.mem_of_getElem? (i := 53) rfl))) Via.refl e247 f252 f249 (Or.inr ⟨(hw _ (List.mem_of_getElem? (i := 54) rfl)), rfl, hnm⟩) (hw _ (List.mem_of_getElem? (i := 34) rfl)) (ty := .int) (by decide) rfl rfl (g := (mkF me_ 22 #[.val (.ref a), .val (.ref k_), .val (.ref z_), .val (.int sta), .val (.int en), .val .null] [(.int en), (.ref a)])) rfl rfl (hb hby d8_22)
  refine gv st257 ?_
  have f259 : Exa Z h257 a "com/example/hits_in_context/hitsincontext/io/XmlCharacterData$Piece" := f249.wr W257
  have f260 : Fld Z h257 a "com/example/hits_in_context/hitsincontext/io/XmlCharacterData$Piece" "kind" "Lcom/example/hits_in_context/hitsincontext/io/XmlCharacterData$Kind;" (.ref k_) := f250.other W257 (Or.inr (slot_ne (Or.inr (hw _ (List.mem_of_getElem? (i := 48) rfl))) (Or.inr (hw _ (List.mem_of_getElem? (i := 54) rfl))) (by decide) (t := (.object "com/example/hits_in_context/hitsincontext/io/XmlCharacterData$Kind")) (t' := .int) (by decide) (by decide)))
  have f261 : Fld Z h257 a "com/example/hits_in_context/hitsincontext/io/XmlCharacterData$Piece" "source" "Ljava/lang/String;" (.ref z_) := f251.other W257 (Or.inr (slot_ne (Or.inr (hw _ (List.mem_of_getElem? (i := 50) rfl))) (Or.inr (hw _ (List.mem_of_getElem? (i := 54) rfl))) (by decide) (t := (.object "java/lang/String")) (t' := .int) (by decide) (by decide)))
  have f262 : Fld Z h257 a "com/example/hits_in_context/hitsincontext/io/XmlCharacterData$Piece" "start" "I" (.int sta) := f248.other W257 (Or.inr (slot_ne (Or.inr (hw _ (List.mem_of_getElem? (i := 52) rfl))) (Or.inr (hw _ (List.mem_of_getElem? (i := 54) rfl))) (by decide) (t := .int) (t' := .int) (by decide) (by decide)))
  have f263 : Fld Z h257 a "com/example/hits_in_context/hitsincontext/io/XmlCharacterData$Piece" "chars" "Ljava/lang/String;" .null := f253.other W257 (Or.inr (slot_ne (Or.inr (hw _ (List.mem_of_getElem? (i := 56) rfl))) (Or.inr (hw _ (List.mem_of_getElem? (i := 54) rfl))) (by decide) (t := (.object "java/lang/String")) (t' := .int) (by decide) (by decide)))
  have O264 := O254.wr W257 u6
  have K265 := K255.wr W257 (Or.inl (List.mem_of_getElem? (i := 0) rfl))
  have N266 := Fr.snoc X257 N256 u6
  have f258 : Fld Z h257 a "com/example/hits_in_context/hitsincontext/io/XmlCharacterData$Piece" "end" "I" (.int en) := f252.same W257
  show G (T257.setTop (mkF me_ 25 #[.val (.ref a), .val (.ref k_), .val (.ref z_), .val (.int sta), .val (.int en), .val .null] []))
  refine gv (fun tQ kQ => XS.aloadN X257.here hx rfl (hb hby d8_25) rfl rfl kQ) ?_
  show G (T257.setTop (mkF me_ 26 #[.val (.ref a), .val (.ref k_), .val (.ref z_), .val (.int sta), .val (.int en), .val .null] [(.ref a)]))
  refine gv (fun tQ kQ => XS.aload X257.here hx rfl (hb hby d8_26) rfl rfl kQ) ?_
  show G (T257.setTop (mkF me_ 28 #[.val (.ref a), .val (.ref k_), .val (.ref z_), .val (.int sta), .val (.int en), .val .null] [.null, (.ref a)]))
  obtain ⟨T267, h267, X267, e267, W267, st267⟩ := putF X257 hx hZ hown (host := "") (Or.inl (hw _ (List.mem_of_getElem? (i := 55) rfl))) Via.refl e257 f263 f259 (Or.inr ⟨(hw _ (List.mem_of_getElem? (i := 56) rfl)), rfl, hnm⟩) (hw _ (List.mem_of_getElem? (i := 34) rfl)) (ty := (.object "java/lang/String")) (by decide) rfl rfl (g := (mkF me_ 28 #[.val (.ref a), .val (.ref k_), .val (.ref z_), .val (.int sta), .val (.int en), .val .null] [.null, (.ref a)])) rfl rfl (hb hby d8_28)
  refine gv st267 ?_
  have f269 : Exa Z h267 a "com/example/hits_in_context/hitsincontext/io/XmlCharacterData$Piece" := f259.wr W267
  have f270 : Fld Z h267 a "com/example/hits_in_context/hitsincontext/io/XmlCharacterData$Piece" "kind" "Lcom/example/hits_in_context/hitsincontext/io/XmlCharacterData$Kind;" (.ref k_) := f260.other W267 (Or.inr (slot_ne (Or.inr (hw _ (List.mem_of_getElem? (i := 48) rfl))) (Or.inr (hw _ (List.mem_of_getElem? (i := 56) rfl))) (by decide) (t := (.object "com/example/hits_in_context/hitsincontext/io/XmlCharacterData$Kind")) (t' := (.object "java/lang/String")) (by decide) (by decide)))
  have f271 : Fld Z h267 a "com/example/hits_in_context/hitsincontext/io/XmlCharacterData$Piece" "source" "Ljava/lang/String;" (.ref z_) := f261.other W267 (Or.inr (slot_ne (Or.inr (hw _ (List.mem_of_getElem? (i := 50) rfl))) (Or.inr (hw _ (List.mem_of_getElem? (i := 56) rfl))) (by decide) (t := (.object "java/lang/String")) (t' := (.object "java/lang/String")) (by decide) (by decide)))
  have f272 : Fld Z h267 a "com/example/hits_in_context/hitsincontext/io/XmlCharacterData$Piece" "start" "I" (.int sta) := f262.other W267 (Or.inr (slot_ne (Or.inr (hw _ (List.mem_of_getElem? (i := 52) rfl))) (Or.inr (hw _ (List.mem_of_getElem? (i := 56) rfl))) (by decide) (t := .int) (t' := (.object "java/lang/String")) (by decide) (by decide)))
  have f273 : Fld Z h267 a "com/example/hits_in_context/hitsincontext/io/XmlCharacterData$Piece" "end" "I" (.int en) := f258.other W267 (Or.inr (slot_ne (Or.inr (hw _ (List.mem_of_getElem? (i := 54) rfl))) (Or.inr (hw _ (List.mem_of_getElem? (i := 56) rfl))) (by decide) (t := .int) (t' := (.object "java/lang/String")) (by decide) (by decide)))
  have O274 := O264.wr W267 u6
  have K275 := K265.wr W267 (Or.inl (List.mem_of_getElem? (i := 0) rfl))
  have N276 := Fr.snoc X267 N266 u6
  have f268 : Fld Z h267 a "com/example/hits_in_context/hitsincontext/io/XmlCharacterData$Piece" "chars" "Ljava/lang/String;" .null := f263.same W267
  show G (T267.setTop (mkF me_ 31 #[.val (.ref a), .val (.ref k_), .val (.ref z_), .val (.int sta), .val (.int en), .val .null] []))
  refine gf _ (own_ret X267 Bd.notSynchronized (v := none) (fun _ => rfl) ?_ (by decide) (by decide) (fun fs hr => X267.returnOut hx Bd.returns (hb hby d8_31) hr))
  show Q_piN Z a k_ z_ sta en h0 n0 _ T267.heap _
  rw [e267]
  exact ⟨rfl, N276, K275, f269, f272, f273, f268⟩
theorem d9_0 : decode prog_24_method_5_code 0 = .ok (.aload_n 0, 1) := by decide +kernel
theorem d9_1 : decode prog_24_method_5_code 1 = .ok (.getfield 24, 3) := by decide +kernel
theorem d9_4 : decode prog_24_method_5_code 4 = .ok (.ifnonnull 7, 3) := by decide +kernel
theorem d9_7 : decode prog_24_method_5_code 7 = .ok (.iconst 1, 1) := by decide +kernel
theorem d9_8 : decode prog_24_method_5_code 8 = .ok (.goto 4, 3) := by decide +kernel
theorem d9_12 : decode prog_24_method_5_code 12 = .ok (.ireturn, 1) := by decide +kernel
def Q_islN (Z : State) (a : Addr) (h0 : Heap) (n0 : Nat) (v : Option Value) (h : Heap) (L : List Loc) : Prop := v = some (.int (1 : Int32)) ∧ Fr n0 L ∧ h = h0
set_option maxRecDepth 65536 in
set_option maxHeartbeats 40000000 in
theorem rm_islN (l : Launch) (Z : State) (a0 : Array Value) (hw : ∀ d ∈ tables_1, d.before a0 Z = true) (ws : List Jvm.Cond) (a : Addr) (h0 : Heap) (n0 : Nat) (O0 : Old Z n0 h0) (u0 : Fld Z h0 a "com/example/hits_in_context/hitsincontext/io/XmlCharacterData$Piece" "chars" "Ljava/lang/String;" .null) :
    MetFree l (⟨"com/example/hits_in_context/hitsincontext/io/XmlCharacterData$Piece", "isLiteral", "()Z"⟩ : MethodName) (head1 (Jvm.Cond.code (⟨"com/example/hits_in_context/hitsincontext/io/XmlCharacterData$Piece", "isLiteral", "()Z"⟩ : MethodName) prog_24_method_5_code 1 (some .boolean) :: ws) ({ frames := 0, cells := 0, slots := 0, locals := 0 } : Room)) (fun aV U => aV = #[(.ref a)] ∧ Z.Warmed39 U.vm ∧ U.heap = h0) (fun _ _ _ _ _ => True) (fun _ U o U' => ∃ v L, o = .returned v ∧ Q_islN Z a h0 n0 v U'.heap L ∧ FrameEnd U o U' L ({ frames := 0, cells := 0, slots := 0, locals := 0 } : Room).cells ({ frames := 0, cells := 0, slots := 0, locals := 0 } : Room).slots) := by
  refine MetFree.of_bodySF (plainFor_of_name pn_4) hisR ?_
  intro pr_ en_ st_ me_ args below meth_ co_ s₁ Bd hml0 hP hK
  obtain ⟨rfl, hZ, hh⟩ := hP
  have hx := Bd.exec
  have hby := Bd.bytes
  have hml : co_.maxLocals = 1 := hml0
  have hown : st_.vm.findClass "com/example/hits_in_context/hitsincontext/io/XmlCharacterData$Piece" = some me_.cls := findClass_of_methodNamed Bd.named
  have hnm := (name_of_methodNamed Bd.named Bd.method).1
  have X0 : Stand pr_ l en_ ({ frames := 0, cells := 0, slots := 0, locals := 0 } : Room) st_ me_ #[(.ref a)] below meth_ co_ s₁ [] 0 0 := Stand.of_body Bd
  have e0 : s₁.heap = h0 := by rw [← hh, Bd.state]; rfl
  have N0 := Fr.nil n0
  have K0 := Keep.refl h0 []
  obtain ⟨G, gv, gf, gb⟩ := own_G pr_.tables en_ below st_ (Q_islN Z a h0 n0) ({ frames := 0, cells := 0, slots := 0, locals := 0 } : Room).cells ({ frames := 0, cells := 0, slots := 0, locals := 0 } : Room).slots
  show own_Fin pr_.tables en_ below st_ (Q_islN Z a h0 n0) ({ frames := 0, cells := 0, slots := 0, locals := 0 } : Room).cells ({ frames := 0, cells := 0, slots := 0, locals := 0 } : Room).slots (s₁.setTop (entryFrame me_ #[(.ref a)] 1))
  refine gb _ (gv (fun tQ kQ => castTop (ef_7 me_ a) kQ) ?_)
  show G (s₁.setTop (mkF me_ 0 #[.val (.ref a)] []))
  refine gv (fun tQ kQ => XS.aloadN X0.here hx rfl (hb hby d9_0) rfl rfl kQ) ?_
  show G (s₁.setTop (mkF me_ 1 #[.val (.ref a)] [(.ref a)]))
  obtain ⟨T277, X277, e277, st277⟩ := getF X0 hx hZ hown (host := "") (Or.inl (hw _ (List.mem_of_getElem? (i := 55) rfl))) Via.refl e0 u0 (g := (mkF me_ 1 #[.val (.ref a)] [(.ref a)])) rfl rfl (hb hby d9_1)
  refine gv st277 ?_
  show G (T277.setTop (mkF me_ 4 #[.val (.ref a)] [.null]))
  refine gv (fun tQ kQ => XS.ifnonnullNo X277.here hx rfl (hb hby d9_4) rfl kQ) ?_
  show G (T277.setTop (mkF me_ 7 #[.val (.ref a)] []))
  refine gv (fun tQ kQ => XS.iconst X277.here hx rfl (hb hby d9_7) kQ) ?_
  show G (T277.setTop (mkF me_ 8 #[.val (.ref a)] [(.int (1 : Int32))]))
  refine gv (fun tQ kQ => XS.goto X277.here hx rfl (pc0 := 8) (pc' := 12) rfl (hb hby d9_8) (by decide) (by decide) kQ) ?_
  show G (T277.setTop (mkF me_ 12 #[.val (.ref a)] [(.int (1 : Int32))]))
  refine gf _ (own_ret X277 Bd.notSynchronized (v := some (.int (1 : Int32))) (fun h => by rw [Bd.returns] at h; cases h) ?_ (by decide) (by decide) (fun fs hr => retN X277 hx (t := .boolean) Bd.returns (by simp) (hb hby d9_12) hr))
  show Q_islN Z a h0 n0 _ T277.heap _
  rw [e277]
  exact ⟨rfl, N0, rfl⟩
theorem ef_10 (m : MethodId) (x0 : Addr) (x1 : Addr) (x2 : Addr) (x3 : Int32) (x4 : Int32) (x5 : Addr)  : entryFrame m #[(.ref x0), (.ref x1), (.ref x2), (.int x3), (.int x4), (.ref x5)] 6 = mkF m 0 #[.val (.ref x0), .val (.ref x1), .val (.ref x2), .val (.int x3), .val (.int x4), .val (.ref x5)] [] := by first | (simp [entryFrame, mkF, argsToLocals, Value.category]; done) | rfl
def Q_piR (Z : State) (a : Addr) (k_ : Addr) (z_ : Addr) (sta : Int32) (en : Int32) (c_ : Addr) (h0 : Heap) (n0 : Nat) (v : Option Value) (h : Heap) (L : List Loc) : Prop := v = none ∧ Fr n0 L ∧ Keep h0 h [a] ∧ (Exa Z h a "com/example/hits_in_context/hitsincontext/io/XmlCharacterData$Piece") ∧ (Fld Z h a "com/example/hits_in_context/hitsincontext/io/XmlCharacterData$Piece" "start" "I" (.int sta)) ∧ (Fld Z h a "com/example/hits_in_context/hitsincontext/io/XmlCharacterData$Piece" "end" "I" (.int en)) ∧ (Fld Z h a "com/example/hits_in_context/hitsincontext/io/XmlCharacterData$Piece" "chars" "Ljava/lang/String;" (.ref c_))
set_option maxRecDepth 65536 in
set_option maxHeartbeats 40000000 in
theorem rm_piR (l : Launch) (Z : State) (a0 : Array Value) (hw : ∀ d ∈ tables_1, d.before a0 Z = true) (ws : List Jvm.Cond) (a : Addr) (k_ : Addr) (z_ : Addr) (sta : Int32) (en : Int32) (c_ : Addr) (h0 : Heap) (n0 : Nat) (O0 : Old Z n0 h0) (u0 : Exa Z h0 a "com/example/hits_in_context/hitsincontext/io/XmlCharacterData$Piece") (u1 : Fld Z h0 a "com/example/hits_in_context/hitsincontext/io/XmlCharacterData$Piece" "kind" "Lcom/example/hits_in_context/hitsincontext/io/XmlCharacterData$Kind;" .null) (u2 : Fld Z h0 a "com/example/hits_in_context/hitsincontext/io/XmlCharacterData$Piece" "source" "Ljava/lang/String;" .null) (u3 : Fld Z h0 a "com/example/hits_in_context/hitsincontext/io/XmlCharacterData$Piece" "start" "I" (.int (0 : Int32))) (u4 : Fld Z h0 a "com/example/hits_in_context/hitsincontext/io/XmlCharacterData$Piece" "end" "I" (.int (0 : Int32))) (u5 : Fld Z h0 a "com/example/hits_in_context/hitsincontext/io/XmlCharacterData$Piece" "chars" "Ljava/lang/String;" .null) (u6 : n0 ≤ a) :
    MetFree l (⟨"com/example/hits_in_context/hitsincontext/io/XmlCharacterData$Piece", "<init>", "(Lcom/example/hits_in_context/hitsincontext/io/XmlCharacterData$Kind;Ljava/lang/String;IILjava/lang/String;)V"⟩ : MethodName) (head1 (Jvm.Cond.code (⟨"com/example/hits_in_context/hitsincontext/io/XmlCharacterData$Piece", "<init>", "(Lcom/example/hits_in_context/hitsincontext/io/XmlCharacterData$Kind;Ljava/lang/String;IILjava/lang/String;)V"⟩ : MethodName) prog_24_method_1_code 6 none :: ws) ({ frames := 1, cells := 0, slots := 0, locals := 12 } : Room)) (fun aV U => aV = #[(.ref a), (.ref k_), (.ref z_), (.int sta), (.int en), (.ref c_)] ∧ Z.Warmed39 U.vm ∧ U.heap = h0) (fun _ _ _ _ _ => True) (fun _ U o U' => ∃ v L, o = .returned v ∧ Q_piR Z a k_ z_ sta en c_ h0 n0 v U'.heap L ∧ FrameEnd U o U' L ({ frames := 1, cells := 0, slots := 0, locals := 12 } : Room).cells ({ frames := 1, cells := 0, slots := 0, locals := 12 } : Room).slots) := by
  refine MetFree.of_bodySF (plainFor_of_name pn_4) hisR ?_
  intro pr_ en_ st_ me_ args below meth_ co_ s₁ Bd hml0 hP hK
  obtain ⟨rfl, hZ, hh⟩ := hP
  have hx := Bd.exec
  have hby := Bd.bytes
  have hml : co_.maxLocals = 6 := hml0
  have hown : st_.vm.findClass "com/example/hits_in_context/hitsincontext/io/XmlCharacterData$Piece" = some me_.cls := findClass_of_methodNamed Bd.named
  have hnm := (name_of_methodNamed Bd.named Bd.method).1
  have X0 : Stand pr_ l en_ ({ frames := 1, cells := 0, slots := 0, locals := 12 } : Room) st_ me_ #[(.ref a), (.ref k_), (.ref z_), (.int sta), (.int en), (.ref c_)] below meth_ co_ s₁ [] 0 0 := Stand.of_body Bd
  have e0 : s₁.heap = h0 := by rw [← hh, Bd.state]; rfl
  have N0 := Fr.nil n0
  have K0 := Keep.refl h0 [a]
  obtain ⟨G, gv, gf, gb⟩ := own_G pr_.tables en_ below st_ (Q_piR Z a k_ z_ sta en c_ h0 n0) ({ frames := 1, cells := 0, slots := 0, locals := 12 } : Room).cells ({ frames := 1, cells := 0, slots := 0, locals := 12 } : Room).slots
  show own_Fin pr_.tables en_ below st_ (Q_piR Z a k_ z_ sta en c_ h0 n0) ({ frames := 1, cells := 0, slots := 0, locals := 12 } : Room).cells ({ frames := 1, cells := 0, slots := 0, locals := 12 } : Room).slots (s₁.setTop (entryFrame me_ #[(.ref a), (.ref k_), (.ref z_), (.int sta), (.int en), (.ref c_)] 6))
  refine gb _ (gv (fun tQ kQ => castTop (ef_10 me_ a k_ z_ sta en c_) kQ) ?_)
  show G (s₁.setTop (mkF me_ 0 #[.val (.ref a), .val (.ref k_), .val (.ref z_), .val (.int sta), .val (.int en), .val (.ref c_)] []))
  refine gv (fun tQ kQ => XS.aloadN X0.here hx rfl (hb hby d8_0) rfl rfl kQ) ?_
  show G (s₁.setTop (mkF me_ 1 #[.val (.ref a), .val (.ref k_), .val (.ref z_), .val (.int sta), .val (.int en), .val (.ref c_)] [(.ref a)]))
  obtain ⟨T278, X278, e278, st278⟩ := initO X0 hx hZ hown (hw _ (List.mem_of_getElem? (i := 46) rfl)) (hw _ (List.mem_of_getElem? (i := 12) rfl)) (hw _ (List.mem_of_getElem? (i := 13) rfl)) e0 (g := (mkF me_ 1 #[.val (.ref a), .val (.ref k_), .val (.ref z_), .val (.int sta), .val (.int en), .val (.ref c_)] [(.ref a)])) rfl (by rw [hml]; rfl) rfl (hb hby d8_1) (by decide) (W := 0) (by show 2 * 0 + _ ≤ _; exact Nat.le_of_eq rfl) (by decide)
  refine gv st278 ?_
  show G (T278.setTop (mkF me_ 4 #[.val (.ref a), .val (.ref k_), .val (.ref z_), .val (.int sta), .val (.int en), .val (.ref c_)] []))
  refine gv (fun tQ kQ => XS.aloadN X278.here hx rfl (hb hby d8_4) rfl rfl kQ) ?_
  show G (T278.setTop (mkF me_ 5 #[.val (.ref a), .val (.ref k_), .val (.ref z_), .val (.int sta), .val (.int en), .val (.ref c_)] [(.ref a)]))
  refine gv (fun tQ kQ => XS.aloadN X278.here hx rfl (hb hby d8_5) rfl rfl kQ) ?_
  show G (T278.setTop (mkF me_ 6 #[.val (.ref a), .val (.ref k_), .val (.ref z_), .val (.int sta), .val (.int en), .val (.ref c_)] [(.ref k_), (.ref a)]))
  obtain ⟨T279, h279, X279, e279, W279, st279⟩ := putF X278 hx hZ hown (host := "") (Or.inl (hw _ (List.mem_of_getElem? (i := 47) rfl))) Via.refl e278 u1 u0 (Or.inr ⟨(hw _ (List.mem_of_getElem? (i := 48) rfl)), rfl, hnm⟩) (hw _ (List.mem_of_getElem? (i := 34) rfl)) (ty := (.object "com/example/hits_in_context/hitsincontext/io/XmlCharacterData$Kind")) (by decide) rfl rfl (g := (mkF me_ 6 #[.val (.ref a), .val (.ref k_), .val (.ref z_), .val (.int sta), .val (.int en), .val (.ref c_)] [(.ref k_), (.ref a)])) rfl rfl (hb hby d8_6)
  refine gv st279 ?_
  have f281 : Exa Z h279 a "com/example/hits_in_context/hitsincontext/io/XmlCharacterData$Piece" := u0.wr W279
  have f282 : Fld Z h279 a "com/example/hits_in_context/hitsincontext/io/XmlCharacterData$Piece" "source" "Ljava/lang/String;" .null := u2.other W279 (Or.inr (slot_ne (Or.inr (hw _ (List.mem_of_getElem? (i := 50) rfl))) (Or.inr (hw _ (List.mem_of_getElem? (i := 48) rfl))) (by decide) (t := (.object "java/lang/String")) (t' := (.object "com/example/hits_in_context/hitsincontext/io/XmlCharacterData$Kind")) (by decide) (by decide)))
  have f283 : Fld Z h279 a "com/example/hits_in_context/hitsincontext/io/XmlCharacterData$Piece" "start" "I" (.int (0 : Int32)) := u3.other W279 (Or.inr (slot_ne (Or.inr (hw _ (List.mem_of_getElem? (i := 52) rfl))) (Or.inr (hw _ (List.mem_of_getElem? (i := 48) rfl))) (by decide) (t := .int) (t' := (.object "com/example/hits_in_context/hitsincontext/io/XmlCharacterData$Kind")) (by decide) (by decide)))
  have f284 : Fld Z h279 a "com/example/hits_in_context/hitsincontext/io/XmlCharacterData$Piece" "end" "I" (.int (0 : Int32)) := u4.other W279 (Or.inr (slot_ne (Or.inr (hw _ (List.mem_of_getElem? (i := 54) rfl))) (Or.inr (hw _ (List.mem_of_getElem? (i := 48) rfl))) (by decide) (t := .int) (t' := (.object "com/example/hits_in_context/hitsincontext/io/XmlCharacterData$Kind")) (by decide) (by decide)))
  have f285 : Fld Z h279 a "com/example/hits_in_context/hitsincontext/io/XmlCharacterData$Piece" "chars" "Ljava/lang/String;" .null := u5.other W279 (Or.inr (slot_ne (Or.inr (hw _ (List.mem_of_getElem? (i := 56) rfl))) (Or.inr (hw _ (List.mem_of_getElem? (i := 48) rfl))) (by decide) (t := (.object "java/lang/String")) (t' := (.object "com/example/hits_in_context/hitsincontext/io/XmlCharacterData$Kind")) (by decide) (by decide)))
  have O286 := O0.wr W279 u6
  have K287 := K0.wr W279 (Or.inl (List.mem_of_getElem? (i := 0) rfl))
  have N288 := Fr.snoc X279 N0 u6
  have f280 : Fld Z h279 a "com/example/hits_in_context/hitsincontext/io/XmlCharacterData$Piece" "kind" "Lcom/example/hits_in_context/hitsincontext/io/XmlCharacterData$Kind;" (.ref k_) := u1.same W279
  show G (T279.setTop (mkF me_ 9 #[.val (.ref a), .val (.ref k_), .val (.ref z_), .val (.int sta), .val (.int en), .val (.ref c_)] []))
  refine gv (fun tQ kQ => XS.aloadN X279.here hx rfl (hb hby d8_9) rfl rfl kQ) ?_
  show G (T279.setTop (mkF me_ 10 #[.val (.ref a), .val (.ref k_), .val (.ref z_), .val (.int sta), .val (.int en), .val (.ref c_)] [(.ref a)]))
  refine gv (fun tQ kQ => XS.aloadN X279.here hx rfl (hb hby d8_10) rfl rfl kQ) ?_
  show G (T279.setTop (mkF me_ 11 #[.val (.ref a), .val (.ref k_), .val (.ref z_), .val (.int sta), .val (.int en), .val (.ref c_)] [(.ref z_), (.ref a)]))
  obtain ⟨T289, h289, X289, e289, W289, st289⟩ := putF X279 hx hZ hown (host := "") (Or.inl (hw _ (List.mem_of_getElem? (i := 49) rfl))) Via.refl e279 f282 f281 (Or.inr ⟨(hw _ (List.mem_of_getElem? (i := 50) rfl)), rfl, hnm⟩) (hw _ (List.mem_of_getElem? (i := 34) rfl)) (ty := (.object "java/lang/String")) (by decide) rfl rfl (g := (mkF me_ 11 #[.val (.ref a), .val (.ref k_), .val (.ref z_), .val (.int sta), .val (.int en), .val (.ref c_)] [(.ref z_), (.ref a)])) rfl rfl (hb hby d8_11)
  refine gv st289 ?_
  have f291 : Exa Z h289 a "com/example/hits_in_context/hitsincontext/io/XmlCharacterData$Piece" := f281.wr W289
  have f292 : Fld Z h289 a "com/example/hits_in_context/hitsincontext/io/XmlCharacterData$Piece" "kind" "Lcom/example/hits_in_context/hitsincontext/io/XmlCharacterData$Kind;" (.ref k_) := f280.other W289 (Or.inr (slot_ne (Or.inr (hw _ (List.mem_of_getElem? (i := 48) rfl))) (Or.inr (hw _ (List.mem_of_getElem? (i := 50) rfl))) (by decide) (t := (.object "com/example/hits_in_context/hitsincontext/io/XmlCharacterData$Kind")) (t' := (.object "java/lang/String")) (by decide) (by decide)))
  have f293 : Fld Z h289 a "com/example/hits_in_context/hitsincontext/io/XmlCharacterData$Piece" "start" "I" (.int (0 : Int32)) := f283.other W289 (Or.inr (slot_ne (Or.inr (hw _ (List.mem_of_getElem? (i := 52) rfl))) (Or.inr (hw _ (List.mem_of_getElem? (i := 50) rfl))) (by decide) (t := .int) (t' := (.object "java/lang/String")) (by decide) (by decide)))
  have f294 : Fld Z h289 a "com/example/hits_in_context/hitsincontext/io/XmlCharacterData$Piece" "end" "I" (.int (0 : Int32)) := f284.other W289 (Or.inr (slot_ne (Or.inr (hw _ (List.mem_of_getElem? (i := 54) rfl))) (Or.inr (hw _ (List.mem_of_getElem? (i := 50) rfl))) (by decide) (t := .int) (t' := (.object "java/lang/String")) (by decide) (by decide)))
  have f295 : Fld Z h289 a "com/example/hits_in_context/hitsincontext/io/XmlCharacterData$Piece" "chars" "Ljava/lang/String;" .null := f285.other W289 (Or.inr (slot_ne (Or.inr (hw _ (List.mem_of_getElem? (i := 56) rfl))) (Or.inr (hw _ (List.mem_of_getElem? (i := 50) rfl))) (by decide) (t := (.object "java/lang/String")) (t' := (.object "java/lang/String")) (by decide) (by decide)))
  have O296 := O286.wr W289 u6
  have K297 := K287.wr W289 (Or.inl (List.mem_of_getElem? (i := 0) rfl))
  have N298 := Fr.snoc X289 N288 u6
  have f290 : Fld Z h289 a "com/example/hits_in_context/hitsincontext/io/XmlCharacterData$Piece" "source" "Ljava/lang/String;" (.ref z_) := f282.same W289
  show G (T289.setTop (mkF me_ 14 #[.val (.ref a), .val (.ref k_), .val (.ref z_), .val (.int sta), .val (.int en), .val (.ref c_)] []))
  refine gv (fun tQ kQ => XS.aloadN X289.here hx rfl (hb hby d8_14) rfl rfl kQ) ?_
  show G (T289.setTop (mkF me_ 15 #[.val (.ref a), .val (.ref k_), .val (.ref z_), .val (.int sta), .val (.int en), .val (.ref c_)] [(.ref a)]))
  refine gv (fun tQ kQ => XS.iloadN X289.here hx rfl (hb hby d8_15) rfl kQ) ?_
  show G (T289.setTop (mkF me_ 16 #[.val (.ref a), .val (.ref k_), .val (.ref z_), .val (.int sta), .val (.int en), .val (.ref c_)] [(.int sta), (.ref a)]))
  obtain ⟨T299, h299, X299, e299, W299, st299⟩ := putF X289 hx hZ hown (host := "") (Or.inl (hw _ (List.mem_of_getElem? (i := 51) rfl))) Via.refl e289 f293 f291 (Or.inr ⟨(hw _ (List.mem_of_getElem? (i := 52) rfl)), rfl, hnm⟩) (hw _ (List.mem_of_getElem? (i := 34) rfl)) (ty := .int) (by decide) rfl rfl (g := (mkF me_ 16 #[.val (.ref a), .val (.ref k_), .val (.ref z_), .val (.int sta), .val (.int en), .val (.ref c_)] [(.int sta), (.ref a)])) rfl rfl (hb hby d8_16)
  refine gv st299 ?_
  have f301 : Exa Z h299 a "com/example/hits_in_context/hitsincontext/io/XmlCharacterData$Piece" := f291.wr W299
  have f302 : Fld Z h299 a "com/example/hits_in_context/hitsincontext/io/XmlCharacterData$Piece" "kind" "Lcom/example/hits_in_context/hitsincontext/io/XmlCharacterData$Kind;" (.ref k_) := f292.other W299 (Or.inr (slot_ne (Or.inr (hw _ (List.mem_of_getElem? (i := 48) rfl))) (Or.inr (hw _ (List.mem_of_getElem? (i := 52) rfl))) (by decide) (t := (.object "com/example/hits_in_context/hitsincontext/io/XmlCharacterData$Kind")) (t' := .int) (by decide) (by decide)))
  have f303 : Fld Z h299 a "com/example/hits_in_context/hitsincontext/io/XmlCharacterData$Piece" "source" "Ljava/lang/String;" (.ref z_) := f290.other W299 (Or.inr (slot_ne (Or.inr (hw _ (List.mem_of_getElem? (i := 50) rfl))) (Or.inr (hw _ (List.mem_of_getElem? (i := 52) rfl))) (by decide) (t := (.object "java/lang/String")) (t' := .int) (by decide) (by decide)))
  have f304 : Fld Z h299 a "com/example/hits_in_context/hitsincontext/io/XmlCharacterData$Piece" "end" "I" (.int (0 : Int32)) := f294.other W299 (Or.inr (slot_ne (Or.inr (hw _ (List.mem_of_getElem? (i := 54) rfl))) (Or.inr (hw _ (List.mem_of_getElem? (i := 52) rfl))) (by decide) (t := .int) (t' := .int) (by decide) (by decide)))
  have f305 : Fld Z h299 a "com/example/hits_in_context/hitsincontext/io/XmlCharacterData$Piece" "chars" "Ljava/lang/String;" .null := f295.other W299 (Or.inr (slot_ne (Or.inr (hw _ (List.mem_of_getElem? (i := 56) rfl))) (Or.inr (hw _ (List.mem_of_getElem? (i := 52) rfl))) (by decide) (t := (.object "java/lang/String")) (t' := .int) (by decide) (by decide)))
  have O306 := O296.wr W299 u6
  have K307 := K297.wr W299 (Or.inl (List.mem_of_getElem? (i := 0) rfl))
  have N308 := Fr.snoc X299 N298 u6
  have f300 : Fld Z h299 a "com/example/hits_in_context/hitsincontext/io/XmlCharacterData$Piece" "start" "I" (.int sta) := f293.same W299
  show G (T299.setTop (mkF me_ 19 #[.val (.ref a), .val (.ref k_), .val (.ref z_), .val (.int sta), .val (.int en), .val (.ref c_)] []))
  refine gv (fun tQ kQ => XS.aloadN X299.here hx rfl (hb hby d8_19) rfl rfl kQ) ?_
  show G (T299.setTop (mkF me_ 20 #[.val (.ref a), .val (.ref k_), .val (.ref z_), .val (.int sta), .val (.int en), .val (.ref c_)] [(.ref a)]))
  refine gv (fun tQ kQ => XS.iload X299.here hx rfl (hb hby d8_20) rfl kQ) ?_
  show G (T299.setTop (mkF me_ 22 #[.val (.ref a), .val (.ref k_), .val (.ref z_), .val (.int sta), .val (.int en), .val (.ref c_)] [(.int en), (.ref a)]))
  obtain ⟨T309, h309, X309, e309, W309, st309⟩ := putF X299 hx hZ hown (host := "") (Or.inl (hw _ (List.mem_of_getElem? (i := 53) rfl))) Via.refl e299 f304 f301 (Or.inr ⟨(hw _ (List.mem_of_getElem? (i := 54) rfl)), rfl, hnm⟩) (hw _ (List.mem_of_getElem? (i := 34) rfl)) (ty := .int) (by decide) rfl rfl (g := (mkF me_ 22 #[.val (.ref a), .val (.ref k_), .val (.ref z_), .val (.int sta), .val (.int en), .val (.ref c_)] [(.int en), (.ref a)])) rfl rfl (hb hby d8_22)
  refine gv st309 ?_
  have f311 : Exa Z h309 a "com/example/hits_in_context/hitsincontext/io/XmlCharacterData$Piece" := f301.wr W309
  have f312 : Fld Z h309 a "com/example/hits_in_context/hitsincontext/io/XmlCharacterData$Piece" "kind" "Lcom/example/hits_in_context/hitsincontext/io/XmlCharacterData$Kind;" (.ref k_) := f302.other W309 (Or.inr (slot_ne (Or.inr (hw _ (List.mem_of_getElem? (i := 48) rfl))) (Or.inr (hw _ (List.mem_of_getElem? (i := 54) rfl))) (by decide) (t := (.object "com/example/hits_in_context/hitsincontext/io/XmlCharacterData$Kind")) (t' := .int) (by decide) (by decide)))
  have f313 : Fld Z h309 a "com/example/hits_in_context/hitsincontext/io/XmlCharacterData$Piece" "source" "Ljava/lang/String;" (.ref z_) := f303.other W309 (Or.inr (slot_ne (Or.inr (hw _ (List.mem_of_getElem? (i := 50) rfl))) (Or.inr (hw _ (List.mem_of_getElem? (i := 54) rfl))) (by decide) (t := (.object "java/lang/String")) (t' := .int) (by decide) (by decide)))
  have f314 : Fld Z h309 a "com/example/hits_in_context/hitsincontext/io/XmlCharacterData$Piece" "start" "I" (.int sta) := f300.other W309 (Or.inr (slot_ne (Or.inr (hw _ (List.mem_of_getElem? (i := 52) rfl))) (Or.inr (hw _ (List.mem_of_getElem? (i := 54) rfl))) (by decide) (t := .int) (t' := .int) (by decide) (by decide)))
  have f315 : Fld Z h309 a "com/example/hits_in_context/hitsincontext/io/XmlCharacterData$Piece" "chars" "Ljava/lang/String;" .null := f305.other W309 (Or.inr (slot_ne (Or.inr (hw _ (List.mem_of_getElem? (i := 56) rfl))) (Or.inr (hw _ (List.mem_of_getElem? (i := 54) rfl))) (by decide) (t := (.object "java/lang/String")) (t' := .int) (by decide) (by decide)))
  have O316 := O306.wr W309 u6
  have K317 := K307.wr W309 (Or.inl (List.mem_of_getElem? (i := 0) rfl))
  have N318 := Fr.snoc X309 N308 u6
  have f310 : Fld Z h309 a "com/example/hits_in_context/hitsincontext/io/XmlCharacterData$Piece" "end" "I" (.int en) := f304.same W309
  show G (T309.setTop (mkF me_ 25 #[.val (.ref a), .val (.ref k_), .val (.ref z_), .val (.int sta), .val (.int en), .val (.ref c_)] []))
  refine gv (fun tQ kQ => XS.aloadN X309.here hx rfl (hb hby d8_25) rfl rfl kQ) ?_
  show G (T309.setTop (mkF me_ 26 #[.val (.ref a), .val (.ref k_), .val (.ref z_), .val (.int sta), .val (.int en), .val (.ref c_)] [(.ref a)]))
  refine gv (fun tQ kQ => XS.aload X309.here hx rfl (hb hby d8_26) rfl rfl kQ) ?_
  show G (T309.setTop (mkF me_ 28 #[.val (.ref a), .val (.ref k_), .val (.ref z_), .val (.int sta), .val (.int en), .val (.ref c_)] [(.ref c_), (.ref a)]))
  obtain ⟨T319, h319, X319, e319, W319, st319⟩ := putF X309 hx hZ hown (host := "") (Or.inl (hw _ (List.mem_of_getElem? (i := 55) rfl))) Via.refl e309 f315 f311 (Or.inr ⟨(hw _ (List.mem_of_getElem? (i := 56) rfl)), rfl, hnm⟩) (hw _ (List.mem_of_getElem? (i := 34) rfl)) (ty := (.object "java/lang/String")) (by decide) rfl rfl (g := (mkF me_ 28 #[.val (.ref a), .val (.ref k_), .val (.ref z_), .val (.int sta), .val (.int en), .val (.ref c_)] [(.ref c_), (.ref a)])) rfl rfl (hb hby d8_28)
  refine gv st319 ?_
  have f321 : Exa Z h319 a "com/example/hits_in_context/hitsincontext/io/XmlCharacterData$Piece" := f311.wr W319
  have f322 : Fld Z h319 a "com/example/hits_in_context/hitsincontext/io/XmlCharacterData$Piece" "kind" "Lcom/example/hits_in_context/hitsincontext/io/XmlCharacterData$Kind;" (.ref k_) := f312.other W319 (Or.inr (slot_ne (Or.inr (hw _ (List.mem_of_getElem? (i := 48) rfl))) (Or.inr (hw _ (List.mem_of_getElem? (i := 56) rfl))) (by decide) (t := (.object "com/example/hits_in_context/hitsincontext/io/XmlCharacterData$Kind")) (t' := (.object "java/lang/String")) (by decide) (by decide)))
  have f323 : Fld Z h319 a "com/example/hits_in_context/hitsincontext/io/XmlCharacterData$Piece" "source" "Ljava/lang/String;" (.ref z_) := f313.other W319 (Or.inr (slot_ne (Or.inr (hw _ (List.mem_of_getElem? (i := 50) rfl))) (Or.inr (hw _ (List.mem_of_getElem? (i := 56) rfl))) (by decide) (t := (.object "java/lang/String")) (t' := (.object "java/lang/String")) (by decide) (by decide)))
  have f324 : Fld Z h319 a "com/example/hits_in_context/hitsincontext/io/XmlCharacterData$Piece" "start" "I" (.int sta) := f314.other W319 (Or.inr (slot_ne (Or.inr (hw _ (List.mem_of_getElem? (i := 52) rfl))) (Or.inr (hw _ (List.mem_of_getElem? (i := 56) rfl))) (by decide) (t := .int) (t' := (.object "java/lang/String")) (by decide) (by decide)))
  have f325 : Fld Z h319 a "com/example/hits_in_context/hitsincontext/io/XmlCharacterData$Piece" "end" "I" (.int en) := f310.other W319 (Or.inr (slot_ne (Or.inr (hw _ (List.mem_of_getElem? (i := 54) rfl))) (Or.inr (hw _ (List.mem_of_getElem? (i := 56) rfl))) (by decide) (t := .int) (t' := (.object "java/lang/String")) (by decide) (by decide)))
  have O326 := O316.wr W319 u6
  have K327 := K317.wr W319 (Or.inl (List.mem_of_getElem? (i := 0) rfl))
  have N328 := Fr.snoc X319 N318 u6
  have f320 : Fld Z h319 a "com/example/hits_in_context/hitsincontext/io/XmlCharacterData$Piece" "chars" "Ljava/lang/String;" (.ref c_) := f315.same W319
  show G (T319.setTop (mkF me_ 31 #[.val (.ref a), .val (.ref k_), .val (.ref z_), .val (.int sta), .val (.int en), .val (.ref c_)] []))
  refine gf _ (own_ret X319 Bd.notSynchronized (v := none) (fun _ => rfl) ?_ (by decide) (by decide) (fun fs hr => X319.returnOut hx Bd.returns (hb hby d8_31) hr))
  show Q_piR Z a k_ z_ sta en c_ h0 n0 _ T319.heap _
  rw [e319]
  exact ⟨rfl, N328, K327, f321, f324, f325, f320⟩
theorem d9_11 : decode prog_24_method_5_code 11 = .ok (.iconst 0, 1) := by decide +kernel
def Q_islR (Z : State) (a : Addr) (c_ : Addr) (h0 : Heap) (n0 : Nat) (v : Option Value) (h : Heap) (L : List Loc) : Prop := v = some (.int (0 : Int32)) ∧ Fr n0 L ∧ h = h0
set_option maxRecDepth 65536 in
set_option maxHeartbeats 40000000 in
theorem rm_islR (l : Launch) (Z : State) (a0 : Array Value) (hw : ∀ d ∈ tables_1, d.before a0 Z = true) (ws : List Jvm.Cond) (a : Addr) (c_ : Addr) (h0 : Heap) (n0 : Nat) (O0 : Old Z n0 h0) (u0 : Fld Z h0 a "com/example/hits_in_context/hitsincontext/io/XmlCharacterData$Piece" "chars" "Ljava/lang/String;" (.ref c_)) :
    MetFree l (⟨"com/example/hits_in_context/hitsincontext/io/XmlCharacterData$Piece", "isLiteral", "()Z"⟩ : MethodName) (head1 (Jvm.Cond.code (⟨"com/example/hits_in_context/hitsincontext/io/XmlCharacterData$Piece", "isLiteral", "()Z"⟩ : MethodName) prog_24_method_5_code 1 (some .boolean) :: ws) ({ frames := 0, cells := 0, slots := 0, locals := 0 } : Room)) (fun aV U => aV = #[(.ref a)] ∧ Z.Warmed39 U.vm ∧ U.heap = h0) (fun _ _ _ _ _ => True) (fun _ U o U' => ∃ v L, o = .returned v ∧ Q_islR Z a c_ h0 n0 v U'.heap L ∧ FrameEnd U o U' L ({ frames := 0, cells := 0, slots := 0, locals := 0 } : Room).cells ({ frames := 0, cells := 0, slots := 0, locals := 0 } : Room).slots) := by
  refine MetFree.of_bodySF (plainFor_of_name pn_4) hisR ?_
  intro pr_ en_ st_ me_ args below meth_ co_ s₁ Bd hml0 hP hK
  obtain ⟨rfl, hZ, hh⟩ := hP
  have hx := Bd.exec
  have hby := Bd.bytes
  have hml : co_.maxLocals = 1 := hml0
  have hown : st_.vm.findClass "com/example/hits_in_context/hitsincontext/io/XmlCharacterData$Piece" = some me_.cls := findClass_of_methodNamed Bd.named
  have hnm := (name_of_methodNamed Bd.named Bd.method).1
  have X0 : Stand pr_ l en_ ({ frames := 0, cells := 0, slots := 0, locals := 0 } : Room) st_ me_ #[(.ref a)] below meth_ co_ s₁ [] 0 0 := Stand.of_body Bd
  have e0 : s₁.heap = h0 := by rw [← hh, Bd.state]; rfl
  have N0 := Fr.nil n0
  have K0 := Keep.refl h0 []
  obtain ⟨G, gv, gf, gb⟩ := own_G pr_.tables en_ below st_ (Q_islR Z a c_ h0 n0) ({ frames := 0, cells := 0, slots := 0, locals := 0 } : Room).cells ({ frames := 0, cells := 0, slots := 0, locals := 0 } : Room).slots
  show own_Fin pr_.tables en_ below st_ (Q_islR Z a c_ h0 n0) ({ frames := 0, cells := 0, slots := 0, locals := 0 } : Room).cells ({ frames := 0, cells := 0, slots := 0, locals := 0 } : Room).slots (s₁.setTop (entryFrame me_ #[(.ref a)] 1))
  refine gb _ (gv (fun tQ kQ => castTop (ef_7 me_ a) kQ) ?_)
  show G (s₁.setTop (mkF me_ 0 #[.val (.ref a)] []))
  refine gv (fun tQ kQ => XS.aloadN X0.here hx rfl (hb hby d9_0) rfl rfl kQ) ?_
  show G (s₁.setTop (mkF me_ 1 #[.val (.ref a)] [(.ref a)]))
  obtain ⟨T329, X329, e329, st329⟩ := getF X0 hx hZ hown (host := "") (Or.inl (hw _ (List.mem_of_getElem? (i := 55) rfl))) Via.refl e0 u0 (g := (mkF me_ 1 #[.val (.ref a)] [(.ref a)])) rfl rfl (hb hby d9_1)
  refine gv st329 ?_
  show G (T329.setTop (mkF me_ 4 #[.val (.ref a)] [(.ref c_)]))
  refine gv (fun tQ kQ => XS.ifnonnullYes X329.here hx rfl (pc0 := 4) (pc' := 11) rfl (hb hby d9_4) rfl (by decide) (by decide) kQ) ?_
  show G (T329.setTop (mkF me_ 11 #[.val (.ref a)] []))
  refine gv (fun tQ kQ => XS.iconst X329.here hx rfl (hb hby d9_11) kQ) ?_
  show G (T329.setTop (mkF me_ 12 #[.val (.ref a)] [(.int (0 : Int32))]))
  refine gf _ (own_ret X329 Bd.notSynchronized (v := some (.int (0 : Int32))) (fun h => by rw [Bd.returns] at h; cases h) ?_ (by decide) (by decide) (fun fs hr => retN X329 hx (t := .boolean) Bd.returns (by simp) (hb hby d9_12) hr))
  show Q_islR Z a c_ h0 n0 _ T329.heap _
  rw [e329]
  exact ⟨rfl, N0, rfl⟩
theorem d10_0 : decode prog_24_method_4_code 0 = .ok (.aload_n 0, 1) := by decide +kernel
theorem d10_1 : decode prog_24_method_4_code 1 = .ok (.getfield 24, 3) := by decide +kernel
theorem d10_4 : decode prog_24_method_4_code 4 = .ok (.ifnonnull 15, 3) := by decide +kernel
theorem d10_7 : decode prog_24_method_4_code 7 = .ok (.aload_n 0, 1) := by decide +kernel
theorem d10_8 : decode prog_24_method_4_code 8 = .ok (.getfield 21, 3) := by decide +kernel
theorem d10_11 : decode prog_24_method_4_code 11 = .ok (.aload_n 0, 1) := by decide +kernel
theorem d10_12 : decode prog_24_method_4_code 12 = .ok (.getfield 17, 3) := by decide +kernel
theorem d10_15 : decode prog_24_method_4_code 15 = .ok (.isub, 1) := by decide +kernel
theorem d10_16 : decode prog_24_method_4_code 16 = .ok (.goto 10, 3) := by decide +kernel
theorem d10_26 : decode prog_24_method_4_code 26 = .ok (.ireturn, 1) := by decide +kernel
def Q_lenN (Z : State) (a : Addr) (sta : Int32) (en : Int32) (h0 : Heap) (n0 : Nat) (v : Option Value) (h : Heap) (L : List Loc) : Prop := v = some (.int (en - sta)) ∧ Fr n0 L ∧ h = h0
set_option maxRecDepth 65536 in
set_option maxHeartbeats 40000000 in
theorem rm_lenN (l : Launch) (Z : State) (a0 : Array Value) (hw : ∀ d ∈ tables_1, d.before a0 Z = true) (ws : List Jvm.Cond) (a : Addr) (sta : Int32) (en : Int32) (h0 : Heap) (n0 : Nat) (O0 : Old Z n0 h0) (u0 : Fld Z h0 a "com/example/hits_in_context/hitsincontext/io/XmlCharacterData$Piece" "chars" "Ljava/lang/String;" .null) (u1 : Fld Z h0 a "com/example/hits_in_context/hitsincontext/io/XmlCharacterData$Piece" "start" "I" (.int sta)) (u2 : Fld Z h0 a "com/example/hits_in_context/hitsincontext/io/XmlCharacterData$Piece" "end" "I" (.int en)) :
    MetFree l (⟨"com/example/hits_in_context/hitsincontext/io/XmlCharacterData$Piece", "length", "()I"⟩ : MethodName) (head1 (Jvm.Cond.code (⟨"com/example/hits_in_context/hitsincontext/io/XmlCharacterData$Piece", "length", "()I"⟩ : MethodName) prog_24_method_4_code 1 (some .int) :: ws) ({ frames := 0, cells := 0, slots := 0, locals := 0 } : Room)) (fun aV U => aV = #[(.ref a)] ∧ Z.Warmed39 U.vm ∧ U.heap = h0) (fun _ _ _ _ _ => True) (fun _ U o U' => ∃ v L, o = .returned v ∧ Q_lenN Z a sta en h0 n0 v U'.heap L ∧ FrameEnd U o U' L ({ frames := 0, cells := 0, slots := 0, locals := 0 } : Room).cells ({ frames := 0, cells := 0, slots := 0, locals := 0 } : Room).slots) := by
  refine MetFree.of_bodySF (plainFor_of_name pn_4) hisR ?_
  intro pr_ en_ st_ me_ args below meth_ co_ s₁ Bd hml0 hP hK
  obtain ⟨rfl, hZ, hh⟩ := hP
  have hx := Bd.exec
  have hby := Bd.bytes
  have hml : co_.maxLocals = 1 := hml0
  have hown : st_.vm.findClass "com/example/hits_in_context/hitsincontext/io/XmlCharacterData$Piece" = some me_.cls := findClass_of_methodNamed Bd.named
  have hnm := (name_of_methodNamed Bd.named Bd.method).1
  have X0 : Stand pr_ l en_ ({ frames := 0, cells := 0, slots := 0, locals := 0 } : Room) st_ me_ #[(.ref a)] below meth_ co_ s₁ [] 0 0 := Stand.of_body Bd
  have e0 : s₁.heap = h0 := by rw [← hh, Bd.state]; rfl
  have N0 := Fr.nil n0
  have K0 := Keep.refl h0 []
  obtain ⟨G, gv, gf, gb⟩ := own_G pr_.tables en_ below st_ (Q_lenN Z a sta en h0 n0) ({ frames := 0, cells := 0, slots := 0, locals := 0 } : Room).cells ({ frames := 0, cells := 0, slots := 0, locals := 0 } : Room).slots
  show own_Fin pr_.tables en_ below st_ (Q_lenN Z a sta en h0 n0) ({ frames := 0, cells := 0, slots := 0, locals := 0 } : Room).cells ({ frames := 0, cells := 0, slots := 0, locals := 0 } : Room).slots (s₁.setTop (entryFrame me_ #[(.ref a)] 1))
  refine gb _ (gv (fun tQ kQ => castTop (ef_7 me_ a) kQ) ?_)
  show G (s₁.setTop (mkF me_ 0 #[.val (.ref a)] []))
  refine gv (fun tQ kQ => XS.aloadN X0.here hx rfl (hb hby d10_0) rfl rfl kQ) ?_
  show G (s₁.setTop (mkF me_ 1 #[.val (.ref a)] [(.ref a)]))
  obtain ⟨T330, X330, e330, st330⟩ := getF X0 hx hZ hown (host := "") (Or.inl (hw _ (List.mem_of_getElem? (i := 55) rfl))) Via.refl e0 u0 (g := (mkF me_ 1 #[.val (.ref a)] [(.ref a)])) rfl rfl (hb hby d10_1)
  refine gv st330 ?_
  show G (T330.setTop (mkF me_ 4 #[.val (.ref a)] [.null]))
  refine gv (fun tQ kQ => XS.ifnonnullNo X330.here hx rfl (hb hby d10_4) rfl kQ) ?_
  show G (T330.setTop (mkF me_ 7 #[.val (.ref a)] []))
  refine gv (fun tQ kQ => XS.aloadN X330.here hx rfl (hb hby d10_7) rfl rfl kQ) ?_
  show G (T330.setTop (mkF me_ 8 #[.val (.ref a)] [(.ref a)]))
  obtain ⟨T331, X331, e331, st331⟩ := getF X330 hx hZ hown (host := "") (Or.inl (hw _ (List.mem_of_getElem? (i := 53) rfl))) Via.refl e330 u2 (g := (mkF me_ 8 #[.val (.ref a)] [(.ref a)])) rfl rfl (hb hby d10_8)
  refine gv st331 ?_
  show G (T331.setTop (mkF me_ 11 #[.val (.ref a)] [(.int en)]))
  refine gv (fun tQ kQ => XS.aloadN X331.here hx rfl (hb hby d10_11) rfl rfl kQ) ?_
  show G (T331.setTop (mkF me_ 12 #[.val (.ref a)] [(.ref a), (.int en)]))
  obtain ⟨T332, X332, e332, st332⟩ := getF X331 hx hZ hown (host := "") (Or.inl (hw _ (List.mem_of_getElem? (i := 51) rfl))) Via.refl e331 u1 (g := (mkF me_ 12 #[.val (.ref a)] [(.ref a), (.int en)])) rfl rfl (hb hby d10_12)
  refine gv st332 ?_
  show G (T332.setTop (mkF me_ 15 #[.val (.ref a)] [(.int sta), (.int en)]))
  refine gv (fun tQ kQ => XS.isub X332.here hx rfl (hb hby d10_15) rfl kQ) ?_
  show G (T332.setTop (mkF me_ 16 #[.val (.ref a)] [(.int (en - sta))]))
  refine gv (fun tQ kQ => XS.goto X332.here hx rfl (pc0 := 16) (pc' := 26) rfl (hb hby d10_16) (by decide) (by decide) kQ) ?_
  show G (T332.setTop (mkF me_ 26 #[.val (.ref a)] [(.int (en - sta))]))
  refine gf _ (own_ret X332 Bd.notSynchronized (v := some (.int (en - sta))) (fun h => by rw [Bd.returns] at h; cases h) ?_ (by decide) (by decide) (fun fs hr => retOut X332 hx (t := .int) Bd.returns rfl (Or.inl ⟨rfl, Or.inl rfl, _, rfl⟩) (hb hby d10_26) hr))
  show Q_lenN Z a sta en h0 n0 _ T332.heap _
  rw [e332]
  exact ⟨rfl, N0, rfl⟩
theorem d10_19 : decode prog_24_method_4_code 19 = .ok (.aload_n 0, 1) := by decide +kernel
theorem d10_20 : decode prog_24_method_4_code 20 = .ok (.getfield 24, 3) := by decide +kernel
theorem d10_23 : decode prog_24_method_4_code 23 = .ok (.invokevirtual 33, 3) := by decide +kernel
theorem pd_8 : parseMethodDescriptor "()I" = some ⟨[], some .int⟩ := by decide +kernel
def Q_lenR0 (Z : State) (a : Addr) (c_ : Addr) (b : Addr) (k : ClassId) (cs : Int32) (h0 : Heap) (n0 : Nat) (v : Option Value) (h : Heap) (L : List Loc) : Prop := v = some (.int (0 : Int32)) ∧ Fr n0 L ∧ h = h0
set_option maxRecDepth 65536 in
set_option maxHeartbeats 40000000 in
theorem rm_lenR0 (l : Launch) (Z : State) (a0 : Array Value) (hw : ∀ d ∈ tables_1, d.before a0 Z = true) (ws : List Jvm.Cond) (a : Addr) (c_ : Addr) (b : Addr) (k : ClassId) (cs : Int32) (h0 : Heap) (n0 : Nat) (O0 : Old Z n0 h0) (u0 : Sta Z Z.heap "java/lang/String" "COMPACT_STRINGS" "Z" (.int cs)) (u1 : ¬ (cs = (0 : Int32))) (u2 : Fld Z h0 a "com/example/hits_in_context/hitsincontext/io/XmlCharacterData$Piece" "chars" "Ljava/lang/String;" (.ref c_)) (u3 : Exa Z h0 c_ "java/lang/String") (u4 : Fld Z h0 c_ "java/lang/String" "coder" "B" (.int (0 : Int32))) (u5 : Fld Z h0 c_ "java/lang/String" "value" "[B" (.ref b)) (u6 : Arv Z h0 b k .byte (0 : Int32) [] (.int (0 : Int32))) :
    MetFree l (⟨"com/example/hits_in_context/hitsincontext/io/XmlCharacterData$Piece", "length", "()I"⟩ : MethodName) (head1 (Jvm.Cond.code (⟨"com/example/hits_in_context/hitsincontext/io/XmlCharacterData$Piece", "length", "()I"⟩ : MethodName) prog_24_method_4_code 1 (some .int) :: ws) ({ frames := 2, cells := 0, slots := 0, locals := 25 } : Room)) (fun aV U => aV = #[(.ref a)] ∧ Z.Warmed39 U.vm ∧ U.heap = h0) (fun _ _ _ _ _ => True) (fun _ U o U' => ∃ v L, o = .returned v ∧ Q_lenR0 Z a c_ b k cs h0 n0 v U'.heap L ∧ FrameEnd U o U' L ({ frames := 2, cells := 0, slots := 0, locals := 25 } : Room).cells ({ frames := 2, cells := 0, slots := 0, locals := 25 } : Room).slots) := by
  refine MetFree.of_bodySF (plainFor_of_name pn_4) hisR ?_
  intro pr_ en_ st_ me_ args below meth_ co_ s₁ Bd hml0 hP hK
  obtain ⟨rfl, hZ, hh⟩ := hP
  have hx := Bd.exec
  have hby := Bd.bytes
  have hml : co_.maxLocals = 1 := hml0
  have hown : st_.vm.findClass "com/example/hits_in_context/hitsincontext/io/XmlCharacterData$Piece" = some me_.cls := findClass_of_methodNamed Bd.named
  have hnm := (name_of_methodNamed Bd.named Bd.method).1
  have X0 : Stand pr_ l en_ ({ frames := 2, cells := 0, slots := 0, locals := 25 } : Room) st_ me_ #[(.ref a)] below meth_ co_ s₁ [] 0 0 := Stand.of_body Bd
  have e0 : s₁.heap = h0 := by rw [← hh, Bd.state]; rfl
  have N0 := Fr.nil n0
  have K0 := Keep.refl h0 []
  obtain ⟨G, gv, gf, gb⟩ := own_G pr_.tables en_ below st_ (Q_lenR0 Z a c_ b k cs h0 n0) ({ frames := 2, cells := 0, slots := 0, locals := 25 } : Room).cells ({ frames := 2, cells := 0, slots := 0, locals := 25 } : Room).slots
  show own_Fin pr_.tables en_ below st_ (Q_lenR0 Z a c_ b k cs h0 n0) ({ frames := 2, cells := 0, slots := 0, locals := 25 } : Room).cells ({ frames := 2, cells := 0, slots := 0, locals := 25 } : Room).slots (s₁.setTop (entryFrame me_ #[(.ref a)] 1))
  refine gb _ (gv (fun tQ kQ => castTop (ef_7 me_ a) kQ) ?_)
  show G (s₁.setTop (mkF me_ 0 #[.val (.ref a)] []))
  refine gv (fun tQ kQ => XS.aloadN X0.here hx rfl (hb hby d10_0) rfl rfl kQ) ?_
  show G (s₁.setTop (mkF me_ 1 #[.val (.ref a)] [(.ref a)]))
  obtain ⟨T333, X333, e333, st333⟩ := getF X0 hx hZ hown (host := "") (Or.inl (hw _ (List.mem_of_getElem? (i := 55) rfl))) Via.refl e0 u2 (g := (mkF me_ 1 #[.val (.ref a)] [(.ref a)])) rfl rfl (hb hby d10_1)
  refine gv st333 ?_
  show G (T333.setTop (mkF me_ 4 #[.val (.ref a)] [(.ref c_)]))
  refine gv (fun tQ kQ => XS.ifnonnullYes X333.here hx rfl (pc0 := 4) (pc' := 19) rfl (hb hby d10_4) rfl (by decide) (by decide) kQ) ?_
  show G (T333.setTop (mkF me_ 19 #[.val (.ref a)] []))
  refine gv (fun tQ kQ => XS.aloadN X333.here hx rfl (hb hby d10_19) rfl rfl kQ) ?_
  show G (T333.setTop (mkF me_ 20 #[.val (.ref a)] [(.ref a)]))
  obtain ⟨T334, X334, e334, st334⟩ := getF X333 hx hZ hown (host := "") (Or.inl (hw _ (List.mem_of_getElem? (i := 55) rfl))) Via.refl e333 u2 (g := (mkF me_ 20 #[.val (.ref a)] [(.ref a)])) rfl rfl (hb hby d10_20)
  refine gv st334 ?_
  show G (T334.setTop (mkF me_ 23 #[.val (.ref a)] [(.ref c_)]))
  obtain ⟨cq335, kq335, q335a, q335b, q335c⟩ := isOf hZ e334 u3
  obtain ⟨_, _, ⟨T335, L335, k335, n335⟩, -, X335, ⟨Lc335, hQ335, l335, y335, z335⟩, st335⟩ := X334.virtualBack hx (y := (⟨"java/lang/String", "length", "()I"⟩ : MethodName)) (z := (⟨"java/lang/String", "length", "()I"⟩ : MethodName)) hown (mvT hZ (hw _ (List.mem_of_getElem? (i := 67) rfl))) (mvT hZ (hw _ (List.mem_of_getElem? (i := 68) rfl))) (notFace_of_selects (args := #[]) (mvT hZ (hw _ (List.mem_of_getElem? (i := 70) rfl)))) (mvT hZ (hw _ (List.mem_of_getElem? (i := 70) rfl))) (mvT hZ (hw _ (List.mem_of_getElem? (i := 69) rfl))) (by decide) (backOf (W := 0) (rm_len0_0 l Z a0 hw [] c_ b k cs h0 n0 O0 u0 u1 u3 u4 u5 u6) hZ (hw _ (List.mem_of_getElem? (i := 71) rfl)) (hw _ (List.mem_of_getElem? (i := 3) rfl)) (by decide) (by decide)) q335a q335c (g := (mkF me_ 23 #[.val (.ref a)] [(.ref c_)])) rfl (by rw [hml]; rfl) (Steps.refl _) (argsL := []) (rest := []) (lenOf pd_8 rfl) rfl (by show 2 * 0 + _ ≤ _; exact Nat.le_of_eq rfl) (hb hby d10_23) (fun _ _ => ⟨rfl, e334, (by decide : 0 + 0 ≤ _), (by decide : 0 + 0 ≤ _)⟩)
  dsimp only [Pt.U, Pt.locs, Pt.cells, Pt.slots] at X335 l335 y335 z335 st335 hQ335
  subst l335 y335 z335
  obtain ⟨rfl, Nq335, eq335⟩ := hQ335
  have N336 := Fr.app N0 Nq335
  refine gv (fun tQ kQ => st335.trans kQ) ?_
  show G (T335.setTop (mkF me_ 26 #[.val (.ref a)] [(.int (0 : Int32))]))
  refine gf _ (own_ret X335 Bd.notSynchronized (v := some (.int (0 : Int32))) (fun h => by rw [Bd.returns] at h; cases h) ?_ (by decide) (by decide) (fun fs hr => retOut X335 hx (t := .int) Bd.returns rfl (Or.inl ⟨rfl, Or.inl rfl, _, rfl⟩) (hb hby d10_26) hr))
  show Q_lenR0 Z a c_ b k cs h0 n0 _ T335.heap _
  rw [eq335]
  exact ⟨rfl, N336, rfl⟩
def Q_lenR1 (Z : State) (a : Addr) (c_ : Addr) (b : Addr) (k : ClassId) (cs : Int32) (x0 : Int32) (h0 : Heap) (n0 : Nat) (v : Option Value) (h : Heap) (L : List Loc) : Prop := v = some (.int (1 : Int32)) ∧ Fr n0 L ∧ h = h0
set_option maxRecDepth 65536 in
set_option maxHeartbeats 40000000 in
theorem rm_lenR1 (l : Launch) (Z : State) (a0 : Array Value) (hw : ∀ d ∈ tables_1, d.before a0 Z = true) (ws : List Jvm.Cond) (a : Addr) (c_ : Addr) (b : Addr) (k : ClassId) (cs : Int32) (x0 : Int32) (h0 : Heap) (n0 : Nat) (O0 : Old Z n0 h0) (u0 : Sta Z Z.heap "java/lang/String" "COMPACT_STRINGS" "Z" (.int cs)) (u1 : ¬ (cs = (0 : Int32))) (u2 : Fld Z h0 a "com/example/hits_in_context/hitsincontext/io/XmlCharacterData$Piece" "chars" "Ljava/lang/String;" (.ref c_)) (u3 : Exa Z h0 c_ "java/lang/String") (u4 : Fld Z h0 c_ "java/lang/String" "coder" "B" (.int (0 : Int32))) (u5 : Fld Z h0 c_ "java/lang/String" "value" "[B" (.ref b)) (u6 : Arv Z h0 b k .byte (1 : Int32) [(.int x0)] (.int (0 : Int32))) :
    MetFree l (⟨"com/example/hits_in_context/hitsincontext/io/XmlCharacterData$Piece", "length", "()I"⟩ : MethodName) (head1 (Jvm.Cond.code (⟨"com/example/hits_in_context/hitsincontext/io/XmlCharacterData$Piece", "length", "()I"⟩ : MethodName) prog_24_method_4_code 1 (some .int) :: ws) ({ frames := 2, cells := 0, slots := 0, locals := 25 } : Room)) (fun aV U => aV = #[(.ref a)] ∧ Z.Warmed39 U.vm ∧ U.heap = h0) (fun _ _ _ _ _ => True) (fun _ U o U' => ∃ v L, o = .returned v ∧ Q_lenR1 Z a c_ b k cs x0 h0 n0 v U'.heap L ∧ FrameEnd U o U' L ({ frames := 2, cells := 0, slots := 0, locals := 25 } : Room).cells ({ frames := 2, cells := 0, slots := 0, locals := 25 } : Room).slots) := by
  refine MetFree.of_bodySF (plainFor_of_name pn_4) hisR ?_
  intro pr_ en_ st_ me_ args below meth_ co_ s₁ Bd hml0 hP hK
  obtain ⟨rfl, hZ, hh⟩ := hP
  have hx := Bd.exec
  have hby := Bd.bytes
  have hml : co_.maxLocals = 1 := hml0
  have hown : st_.vm.findClass "com/example/hits_in_context/hitsincontext/io/XmlCharacterData$Piece" = some me_.cls := findClass_of_methodNamed Bd.named
  have hnm := (name_of_methodNamed Bd.named Bd.method).1
  have X0 : Stand pr_ l en_ ({ frames := 2, cells := 0, slots := 0, locals := 25 } : Room) st_ me_ #[(.ref a)] below meth_ co_ s₁ [] 0 0 := Stand.of_body Bd
  have e0 : s₁.heap = h0 := by rw [← hh, Bd.state]; rfl
  have N0 := Fr.nil n0
  have K0 := Keep.refl h0 []
  obtain ⟨G, gv, gf, gb⟩ := own_G pr_.tables en_ below st_ (Q_lenR1 Z a c_ b k cs x0 h0 n0) ({ frames := 2, cells := 0, slots := 0, locals := 25 } : Room).cells ({ frames := 2, cells := 0, slots := 0, locals := 25 } : Room).slots
  show own_Fin pr_.tables en_ below st_ (Q_lenR1 Z a c_ b k cs x0 h0 n0) ({ frames := 2, cells := 0, slots := 0, locals := 25 } : Room).cells ({ frames := 2, cells := 0, slots := 0, locals := 25 } : Room).slots (s₁.setTop (entryFrame me_ #[(.ref a)] 1))
  refine gb _ (gv (fun tQ kQ => castTop (ef_7 me_ a) kQ) ?_)
  show G (s₁.setTop (mkF me_ 0 #[.val (.ref a)] []))
  refine gv (fun tQ kQ => XS.aloadN X0.here hx rfl (hb hby d10_0) rfl rfl kQ) ?_
  show G (s₁.setTop (mkF me_ 1 #[.val (.ref a)] [(.ref a)]))
  obtain ⟨T337, X337, e337, st337⟩ := getF X0 hx hZ hown (host := "") (Or.inl (hw _ (List.mem_of_getElem? (i := 55) rfl))) Via.refl e0 u2 (g := (mkF me_ 1 #[.val (.ref a)] [(.ref a)])) rfl rfl (hb hby d10_1)
  refine gv st337 ?_
  show G (T337.setTop (mkF me_ 4 #[.val (.ref a)] [(.ref c_)]))
  refine gv (fun tQ kQ => XS.ifnonnullYes X337.here hx rfl (pc0 := 4) (pc' := 19) rfl (hb hby d10_4) rfl (by decide) (by decide) kQ) ?_
  show G (T337.setTop (mkF me_ 19 #[.val (.ref a)] []))
  refine gv (fun tQ kQ => XS.aloadN X337.here hx rfl (hb hby d10_19) rfl rfl kQ) ?_
  show G (T337.setTop (mkF me_ 20 #[.val (.ref a)] [(.ref a)]))
  obtain ⟨T338, X338, e338, st338⟩ := getF X337 hx hZ hown (host := "") (Or.inl (hw _ (List.mem_of_getElem? (i := 55) rfl))) Via.refl e337 u2 (g := (mkF me_ 20 #[.val (.ref a)] [(.ref a)])) rfl rfl (hb hby d10_20)
  refine gv st338 ?_
  show G (T338.setTop (mkF me_ 23 #[.val (.ref a)] [(.ref c_)]))
  obtain ⟨cq339, kq339, q339a, q339b, q339c⟩ := isOf hZ e338 u3
  obtain ⟨_, _, ⟨T339, L339, k339, n339⟩, -, X339, ⟨Lc339, hQ339, l339, y339, z339⟩, st339⟩ := X338.virtualBack hx (y := (⟨"java/lang/String", "length", "()I"⟩ : MethodName)) (z := (⟨"java/lang/String", "length", "()I"⟩ : MethodName)) hown (mvT hZ (hw _ (List.mem_of_getElem? (i := 67) rfl))) (mvT hZ (hw _ (List.mem_of_getElem? (i := 68) rfl))) (notFace_of_selects (args := #[]) (mvT hZ (hw _ (List.mem_of_getElem? (i := 70) rfl)))) (mvT hZ (hw _ (List.mem_of_getElem? (i := 70) rfl))) (mvT hZ (hw _ (List.mem_of_getElem? (i := 69) rfl))) (by decide) (backOf (W := 0) (rm_len0_1 l Z a0 hw [] c_ b k cs x0 h0 n0 O0 u0 u1 u3 u4 u5 u6) hZ (hw _ (List.mem_of_getElem? (i := 71) rfl)) (hw _ (List.mem_of_getElem? (i := 3) rfl)) (by decide) (by decide)) q339a q339c (g := (mkF me_ 23 #[.val (.ref a)] [(.ref c_)])) rfl (by rw [hml]; rfl) (Steps.refl _) (argsL := []) (rest := []) (lenOf pd_8 rfl) rfl (by show 2 * 0 + _ ≤ _; exact Nat.le_of_eq rfl) (hb hby d10_23) (fun _ _ => ⟨rfl, e338, (by decide : 0 + 0 ≤ _), (by decide : 0 + 0 ≤ _)⟩)
  dsimp only [Pt.U, Pt.locs, Pt.cells, Pt.slots] at X339 l339 y339 z339 st339 hQ339
  subst l339 y339 z339
  obtain ⟨rfl, Nq339, eq339⟩ := hQ339
  have N340 := Fr.app N0 Nq339
  refine gv (fun tQ kQ => st339.trans kQ) ?_
  show G (T339.setTop (mkF me_ 26 #[.val (.ref a)] [(.int (1 : Int32))]))
  refine gf _ (own_ret X339 Bd.notSynchronized (v := some (.int (1 : Int32))) (fun h => by rw [Bd.returns] at h; cases h) ?_ (by decide) (by decide) (fun fs hr => retOut X339 hx (t := .int) Bd.returns rfl (Or.inl ⟨rfl, Or.inl rfl, _, rfl⟩) (hb hby d10_26) hr))
  show Q_lenR1 Z a c_ b k cs x0 h0 n0 _ T339.heap _
  rw [eq339]
  exact ⟨rfl, N340, rfl⟩
def Q_lenR2 (Z : State) (a : Addr) (c_ : Addr) (b : Addr) (k : ClassId) (cs : Int32) (x0 : Int32) (x1 : Int32) (h0 : Heap) (n0 : Nat) (v : Option Value) (h : Heap) (L : List Loc) : Prop := v = some (.int (2 : Int32)) ∧ Fr n0 L ∧ h = h0
set_option maxRecDepth 65536 in
set_option maxHeartbeats 40000000 in
theorem rm_lenR2 (l : Launch) (Z : State) (a0 : Array Value) (hw : ∀ d ∈ tables_1, d.before a0 Z = true) (ws : List Jvm.Cond) (a : Addr) (c_ : Addr) (b : Addr) (k : ClassId) (cs : Int32) (x0 : Int32) (x1 : Int32) (h0 : Heap) (n0 : Nat) (O0 : Old Z n0 h0) (u0 : Sta Z Z.heap "java/lang/String" "COMPACT_STRINGS" "Z" (.int cs)) (u1 : ¬ (cs = (0 : Int32))) (u2 : Fld Z h0 a "com/example/hits_in_context/hitsincontext/io/XmlCharacterData$Piece" "chars" "Ljava/lang/String;" (.ref c_)) (u3 : Exa Z h0 c_ "java/lang/String") (u4 : Fld Z h0 c_ "java/lang/String" "coder" "B" (.int (0 : Int32))) (u5 : Fld Z h0 c_ "java/lang/String" "value" "[B" (.ref b)) (u6 : Arv Z h0 b k .byte (2 : Int32) [(.int x0), (.int x1)] (.int (0 : Int32))) :
    MetFree l (⟨"com/example/hits_in_context/hitsincontext/io/XmlCharacterData$Piece", "length", "()I"⟩ : MethodName) (head1 (Jvm.Cond.code (⟨"com/example/hits_in_context/hitsincontext/io/XmlCharacterData$Piece", "length", "()I"⟩ : MethodName) prog_24_method_4_code 1 (some .int) :: ws) ({ frames := 2, cells := 0, slots := 0, locals := 25 } : Room)) (fun aV U => aV = #[(.ref a)] ∧ Z.Warmed39 U.vm ∧ U.heap = h0) (fun _ _ _ _ _ => True) (fun _ U o U' => ∃ v L, o = .returned v ∧ Q_lenR2 Z a c_ b k cs x0 x1 h0 n0 v U'.heap L ∧ FrameEnd U o U' L ({ frames := 2, cells := 0, slots := 0, locals := 25 } : Room).cells ({ frames := 2, cells := 0, slots := 0, locals := 25 } : Room).slots) := by
  refine MetFree.of_bodySF (plainFor_of_name pn_4) hisR ?_
  intro pr_ en_ st_ me_ args below meth_ co_ s₁ Bd hml0 hP hK
  obtain ⟨rfl, hZ, hh⟩ := hP
  have hx := Bd.exec
  have hby := Bd.bytes
  have hml : co_.maxLocals = 1 := hml0
  have hown : st_.vm.findClass "com/example/hits_in_context/hitsincontext/io/XmlCharacterData$Piece" = some me_.cls := findClass_of_methodNamed Bd.named
  have hnm := (name_of_methodNamed Bd.named Bd.method).1
  have X0 : Stand pr_ l en_ ({ frames := 2, cells := 0, slots := 0, locals := 25 } : Room) st_ me_ #[(.ref a)] below meth_ co_ s₁ [] 0 0 := Stand.of_body Bd
  have e0 : s₁.heap = h0 := by rw [← hh, Bd.state]; rfl
  have N0 := Fr.nil n0
  have K0 := Keep.refl h0 []
  obtain ⟨G, gv, gf, gb⟩ := own_G pr_.tables en_ below st_ (Q_lenR2 Z a c_ b k cs x0 x1 h0 n0) ({ frames := 2, cells := 0, slots := 0, locals := 25 } : Room).cells ({ frames := 2, cells := 0, slots := 0, locals := 25 } : Room).slots
  show own_Fin pr_.tables en_ below st_ (Q_lenR2 Z a c_ b k cs x0 x1 h0 n0) ({ frames := 2, cells := 0, slots := 0, locals := 25 } : Room).cells ({ frames := 2, cells := 0, slots := 0, locals := 25 } : Room).slots (s₁.setTop (entryFrame me_ #[(.ref a)] 1))
  refine gb _ (gv (fun tQ kQ => castTop (ef_7 me_ a) kQ) ?_)
  show G (s₁.setTop (mkF me_ 0 #[.val (.ref a)] []))
  refine gv (fun tQ kQ => XS.aloadN X0.here hx rfl (hb hby d10_0) rfl rfl kQ) ?_
  show G (s₁.setTop (mkF me_ 1 #[.val (.ref a)] [(.ref a)]))
  obtain ⟨T341, X341, e341, st341⟩ := getF X0 hx hZ hown (host := "") (Or.inl (hw _ (List.mem_of_getElem? (i := 55) rfl))) Via.refl e0 u2 (g := (mkF me_ 1 #[.val (.ref a)] [(.ref a)])) rfl rfl (hb hby d10_1)
  refine gv st341 ?_
  show G (T341.setTop (mkF me_ 4 #[.val (.ref a)] [(.ref c_)]))
  refine gv (fun tQ kQ => XS.ifnonnullYes X341.here hx rfl (pc0 := 4) (pc' := 19) rfl (hb hby d10_4) rfl (by decide) (by decide) kQ) ?_
  show G (T341.setTop (mkF me_ 19 #[.val (.ref a)] []))
  refine gv (fun tQ kQ => XS.aloadN X341.here hx rfl (hb hby d10_19) rfl rfl kQ) ?_
  show G (T341.setTop (mkF me_ 20 #[.val (.ref a)] [(.ref a)]))
  obtain ⟨T342, X342, e342, st342⟩ := getF X341 hx hZ hown (host := "") (Or.inl (hw _ (List.mem_of_getElem? (i := 55) rfl))) Via.refl e341 u2 (g := (mkF me_ 20 #[.val (.ref a)] [(.ref a)])) rfl rfl (hb hby d10_20)
  refine gv st342 ?_
  show G (T342.setTop (mkF me_ 23 #[.val (.ref a)] [(.ref c_)]))
  obtain ⟨cq343, kq343, q343a, q343b, q343c⟩ := isOf hZ e342 u3
  obtain ⟨_, _, ⟨T343, L343, k343, n343⟩, -, X343, ⟨Lc343, hQ343, l343, y343, z343⟩, st343⟩ := X342.virtualBack hx (y := (⟨"java/lang/String", "length", "()I"⟩ : MethodName)) (z := (⟨"java/lang/String", "length", "()I"⟩ : MethodName)) hown (mvT hZ (hw _ (List.mem_of_getElem? (i := 67) rfl))) (mvT hZ (hw _ (List.mem_of_getElem? (i := 68) rfl))) (notFace_of_selects (args := #[]) (mvT hZ (hw _ (List.mem_of_getElem? (i := 70) rfl)))) (mvT hZ (hw _ (List.mem_of_getElem? (i := 70) rfl))) (mvT hZ (hw _ (List.mem_of_getElem? (i := 69) rfl))) (by decide) (backOf (W := 0) (rm_len0_2 l Z a0 hw [] c_ b k cs x0 x1 h0 n0 O0 u0 u1 u3 u4 u5 u6) hZ (hw _ (List.mem_of_getElem? (i := 71) rfl)) (hw _ (List.mem_of_getElem? (i := 3) rfl)) (by decide) (by decide)) q343a q343c (g := (mkF me_ 23 #[.val (.ref a)] [(.ref c_)])) rfl (by rw [hml]; rfl) (Steps.refl _) (argsL := []) (rest := []) (lenOf pd_8 rfl) rfl (by show 2 * 0 + _ ≤ _; exact Nat.le_of_eq rfl) (hb hby d10_23) (fun _ _ => ⟨rfl, e342, (by decide : 0 + 0 ≤ _), (by decide : 0 + 0 ≤ _)⟩)
  dsimp only [Pt.U, Pt.locs, Pt.cells, Pt.slots] at X343 l343 y343 z343 st343 hQ343
  subst l343 y343 z343
  obtain ⟨rfl, Nq343, eq343⟩ := hQ343
  have N344 := Fr.app N0 Nq343
  refine gv (fun tQ kQ => st343.trans kQ) ?_
  show G (T343.setTop (mkF me_ 26 #[.val (.ref a)] [(.int (2 : Int32))]))
  refine gf _ (own_ret X343 Bd.notSynchronized (v := some (.int (2 : Int32))) (fun h => by rw [Bd.returns] at h; cases h) ?_ (by decide) (by decide) (fun fs hr => retOut X343 hx (t := .int) Bd.returns rfl (Or.inl ⟨rfl, Or.inl rfl, _, rfl⟩) (hb hby d10_26) hr))
  show Q_lenR2 Z a c_ b k cs x0 x1 h0 n0 _ T343.heap _
  rw [eq343]
  exact ⟨rfl, N344, rfl⟩
theorem ef_11 (m : MethodId) (x0 : Int32) (x1 : Int32) (x2 : Int32) (x3 : Int32) (x4 : Int32)  : entryFrame m #[(.int x0), (.int x1), (.int x2), (.int x3), (.int x4)] maxLocals = mkF m 0 #[.val (.int x0), .val (.int x1), .val (.int x2), .val (.int x3), .val (.int x4), .unset, .unset, .unset, .unset, .unset, .unset, .unset, .unset, .unset] [] := by first | (simp [entryFrame, mkF, argsToLocals, Value.category, maxLocals]; done) | rfl
theorem pd_9 : parseMethodDescriptor "([C)V" = some ⟨[(.array .char)], none⟩ := by decide +kernel
theorem pd_10 : parseMethodDescriptor "(I)Lcom/example/hits_in_context/hitsincontext/io/XmlCharacterData$Kind;" = some ⟨[.int], some (.object "com/example/hits_in_context/hitsincontext/io/XmlCharacterData$Kind")⟩ := by decide +kernel
theorem pd_11 : parseMethodDescriptor "(Lcom/example/hits_in_context/hitsincontext/io/XmlCharacterData$Kind;Ljava/lang/String;IILjava/lang/String;)V" = some ⟨[(.object "com/example/hits_in_context/hitsincontext/io/XmlCharacterData$Kind"), (.object "java/lang/String"), .int, .int, (.object "java/lang/String")], none⟩ := by decide +kernel
theorem pd_12 : parseMethodDescriptor "()Z" = some ⟨[], some .boolean⟩ := by decide +kernel
theorem pd_13 : parseMethodDescriptor "(C)Ljava/lang/String;" = some ⟨[.char], some (.object "java/lang/String")⟩ := by decide +kernel
def Q0 (Z : State) (p0 : Int32) (p1 : Int32) (p2 : Int32) (p3 : Int32) (p4 : Int32) (cs : Int32) (A_TEXT : Addr) (A_MARKUP : Addr) (A_DECLARATION : Addr) (A_ROOT_TAG : Addr) (A_CDATA_START : Addr) (A_CDATA_END : Addr) (A_ENTITY_START : Addr) (A_ENTITY_END : Addr) (h0 : Heap) (n0 : Nat) (v : Option Value) (h : Heap) (L : List Loc) : Prop := v = some (.int (1 : Int32)) ∧ Fr n0 L
set_option maxRecDepth 65536 in
set_option maxHeartbeats 40000000 in
theorem rm0 (l : Launch) (Z : State) (a0 : Array Value) (hw : ∀ d ∈ tables_1, d.before a0 Z = true) (ws : List Jvm.Cond) (p0 : Int32) (p1 : Int32) (p2 : Int32) (p3 : Int32) (p4 : Int32) (cs : Int32) (A_TEXT : Addr) (A_MARKUP : Addr) (A_DECLARATION : Addr) (A_ROOT_TAG : Addr) (A_CDATA_START : Addr) (A_CDATA_END : Addr) (A_ENTITY_START : Addr) (A_ENTITY_END : Addr) (h0 : Heap) (n0 : Nat) (O0 : Old Z n0 h0) (u0 : Sta Z Z.heap "java/lang/String" "COMPACT_STRINGS" "Z" (.int cs)) (u1 : ¬ (cs = (0 : Int32))) (u2 : Sta Z Z.heap "com/example/hits_in_context/hitsincontext/io/XmlCharacterData$Kind" "TEXT" "Lcom/example/hits_in_context/hitsincontext/io/XmlCharacterData$Kind;" (.ref A_TEXT)) (u3 : Sta Z Z.heap "com/example/hits_in_context/hitsincontext/io/XmlCharacterData$Kind" "MARKUP" "Lcom/example/hits_in_context/hitsincontext/io/XmlCharacterData$Kind;" (.ref A_MARKUP)) (u4 : Sta Z Z.heap "com/example/hits_in_context/hitsincontext/io/XmlCharacterData$Kind" "DECLARATION" "Lcom/example/hits_in_context/hitsincontext/io/XmlCharacterData$Kind;" (.ref A_DECLARATION)) (u5 : Sta Z Z.heap "com/example/hits_in_context/hitsincontext/io/XmlCharacterData$Kind" "ROOT_TAG" "Lcom/example/hits_in_context/hitsincontext/io/XmlCharacterData$Kind;" (.ref A_ROOT_TAG)) (u6 : Sta Z Z.heap "com/example/hits_in_context/hitsincontext/io/XmlCharacterData$Kind" "CDATA_START" "Lcom/example/hits_in_context/hitsincontext/io/XmlCharacterData$Kind;" (.ref A_CDATA_START)) (u7 : Sta Z Z.heap "com/example/hits_in_context/hitsincontext/io/XmlCharacterData$Kind" "CDATA_END" "Lcom/example/hits_in_context/hitsincontext/io/XmlCharacterData$Kind;" (.ref A_CDATA_END)) (u8 : Sta Z Z.heap "com/example/hits_in_context/hitsincontext/io/XmlCharacterData$Kind" "ENTITY_START" "Lcom/example/hits_in_context/hitsincontext/io/XmlCharacterData$Kind;" (.ref A_ENTITY_START)) (u9 : Sta Z Z.heap "com/example/hits_in_context/hitsincontext/io/XmlCharacterData$Kind" "ENTITY_END" "Lcom/example/hits_in_context/hitsincontext/io/XmlCharacterData$Kind;" (.ref A_ENTITY_END)) :
    MetFree l x (head1 (Jvm.Cond.code x code maxLocals ret :: ws) room_1) (fun aV U => aV = #[(.int p0), (.int p1), (.int p2), (.int p3), (.int p4)] ∧ Z.Warmed39 U.vm ∧ U.heap = h0 ∧ CHv Z own_EL U.vm h0 ∧ ∀ x ∈ ([] : List Addr), Safe Z own_EL U.vm h0 x) (fun _ _ _ _ _ => True) (fun _ U o U' => ∃ v L, o = .returned v ∧ Q0 Z p0 p1 p2 p3 p4 cs A_TEXT A_MARKUP A_DECLARATION A_ROOT_TAG A_CDATA_START A_CDATA_END A_ENTITY_START A_ENTITY_END h0 n0 v U'.heap L ∧ CHr Z own_EL U.vm U.heap U'.vm U'.heap ∧ ReturnedEndW U o U' L room_1.cells room_1.slots) := by
  refine MetFree.of_bodySF (plainFor_of_name pn_3) hisR ?_
  intro pr_ en_ st_ me_ args below meth_ co_ s₁ Bd hml0 hP hK
  obtain ⟨rfl, hZ, hh, hCH, hSF⟩ := hP
  have hx := Bd.exec
  have hby := Bd.bytes
  have hEL := own_hEL hw
  have wS := own_wS hw
  have hml : co_.maxLocals = 14 := hml0
  have hown : st_.vm.findClass "com/example/hits_in_context/hitsincontext/io/PieceIsLiteralPinLaw" = some me_.cls := findClass_of_methodNamed Bd.named
  have hnm := (name_of_methodNamed Bd.named Bd.method).1
  have X0 : Stand pr_ l en_ room_1 (st_.setVm st_.vm) me_ #[(.int p0), (.int p1), (.int p2), (.int p3), (.int p4)] below meth_ co_ s₁ [] 0 0 := Stand.of_body Bd
  have e0 : s₁.heap = h0 := by rw [← hh, Bd.state]; rfl
  have N0 := Fr.nil n0
  have K0 := Keep.refl h0 []
  have hS : st_.Since st_.vm 0 := (State.WarmedH.refl st_).since 0
  have hk : 0 ≤ h0.size := Nat.zero_le _
  have CR : CHr Z own_EL st_.vm h0 st_.vm h0 := CHr.refl hCH
  obtain ⟨G, gv, gf, gb⟩ := own_GW Z own_EL pr_.tables en_ below st_ (Q0 Z p0 p1 p2 p3 p4 cs A_TEXT A_MARKUP A_DECLARATION A_ROOT_TAG A_CDATA_START A_CDATA_END A_ENTITY_START A_ENTITY_END h0 n0) room_1.cells room_1.slots
  show own_FinW Z own_EL pr_.tables en_ below st_ (Q0 Z p0 p1 p2 p3 p4 cs A_TEXT A_MARKUP A_DECLARATION A_ROOT_TAG A_CDATA_START A_CDATA_END A_ENTITY_START A_ENTITY_END h0 n0) room_1.cells room_1.slots (s₁.setTop (entryFrame me_ #[(.int p0), (.int p1), (.int p2), (.int p3), (.int p4)] maxLocals))
  refine gb _ (gv (fun tQ kQ => castTop (ef_11 me_ p0 p1 p2 p3 p4) kQ) ?_)
  show G (s₁.setTop (mkF me_ 0 #[.val (.int p0), .val (.int p1), .val (.int p2), .val (.int p3), .val (.int p4), .unset, .unset, .unset, .unset, .unset, .unset, .unset, .unset, .unset] []))
  refine gv (fun tQ kQ => XS.iconst X0.here hx rfl (hb hby at_0) kQ) ?_
  show G (s₁.setTop (mkF me_ 1 #[.val (.int p0), .val (.int p1), .val (.int p2), .val (.int p3), .val (.int p4), .unset, .unset, .unset, .unset, .unset, .unset, .unset, .unset, .unset] [(.int (3 : Int32))]))
  obtain ⟨T345, h345, k345, X345, e345, E345, A345, st345⟩ := newP X0 hx hZ (hw _ (List.mem_of_getElem? (i := 0) rfl)) e0 (g := (mkF me_ 1 #[.val (.int p0), .val (.int p1), .val (.int p2), .val (.int p3), .val (.int p4), .unset, .unset, .unset, .unset, .unset, .unset, .unset, .unset, .unset] [(.int (3 : Int32))])) rfl (hb hby at_1) rfl (by decide) (cap := 3) (by decide) (by decide) (by decide) (by decide)
  obtain ⟨b345, g345⟩ : ∃ z, z = h0.size := ⟨_, rfl⟩
  rw [← g345] at A345 st345
  refine gv st345 ?_
  have g346 : n0 ≤ b345 := Nat.le_trans (own_old O0) (Nat.le_of_eq g345.symm)
  have sf347 : Safe Z own_EL st_.vm h0 b345 := Safe.new (Nat.le_of_eq g345.symm)
  have sf348 := Safe.ext E345 CR.1 sf347
  have CR := CR.trans (CHr.ext E345 CR.1)
  have hk := Nat.le_trans hk E345.1
  have O349 := O0.ext E345
  have V345 : Arv Z h345 b345 k345 .char (3 : Int32) [(.int (0 : Int32)), (.int (0 : Int32)), (.int (0 : Int32))] (.int (0 : Int32)) := (Arv.new A345 (by decide)).pad (pad_rep [] (.int (0 : Int32)) 3)
  show G (T345.setTop (mkF me_ 3 #[.val (.int p0), .val (.int p1), .val (.int p2), .val (.int p3), .val (.int p4), .unset, .unset, .unset, .unset, .unset, .unset, .unset, .unset, .unset] [(.ref b345)]))
  refine gv (fun tQ kQ => XS.astore X345.here hx rfl (hb hby at_3) rfl rfl (l' := #[.val (.int p0), .val (.int p1), .val (.int p2), .val (.int p3), .val (.int p4), .val (.ref b345), .unset, .unset, .unset, .unset, .unset, .unset, .unset, .unset]) rfl kQ) ?_
  show G (T345.setTop (mkF me_ 5 #[.val (.int p0), .val (.int p1), .val (.int p2), .val (.int p3), .val (.int p4), .val (.ref b345), .unset, .unset, .unset, .unset, .unset, .unset, .unset, .unset] []))
  refine gv (fun tQ kQ => XS.aload X345.here hx rfl (hb hby at_5) rfl rfl kQ) ?_
  show G (T345.setTop (mkF me_ 7 #[.val (.int p0), .val (.int p1), .val (.int p2), .val (.int p3), .val (.int p4), .val (.ref b345), .unset, .unset, .unset, .unset, .unset, .unset, .unset, .unset] [(.ref b345)]))
  refine gv (fun tQ kQ => XS.iconst X345.here hx rfl (hb hby at_7) kQ) ?_
  show G (T345.setTop (mkF me_ 8 #[.val (.int p0), .val (.int p1), .val (.int p2), .val (.int p3), .val (.int p4), .val (.ref b345), .unset, .unset, .unset, .unset, .unset, .unset, .unset, .unset] [(.int (0 : Int32)), (.ref b345)]))
  refine gv (fun tQ kQ => XS.iloadN X345.here hx rfl (hb hby at_8) rfl kQ) ?_
  show G (T345.setTop (mkF me_ 9 #[.val (.int p0), .val (.int p1), .val (.int p2), .val (.int p3), .val (.int p4), .val (.ref b345), .unset, .unset, .unset, .unset, .unset, .unset, .unset, .unset] [(.int p1), (.int (0 : Int32)), (.ref b345)]))
  refine gv (fun tQ kQ => XS.sipush X345.here hx rfl (hb hby at_9) kQ) ?_
  show G (T345.setTop (mkF me_ 12 #[.val (.int p0), .val (.int p1), .val (.int p2), .val (.int p3), .val (.int p4), .val (.ref b345), .unset, .unset, .unset, .unset, .unset, .unset, .unset, .unset] [(.int (255 : Int32)), (.int p1), (.int (0 : Int32)), (.ref b345)]))
  refine gv (fun tQ kQ => XS.iand X345.here hx rfl (hb hby at_12) rfl kQ) ?_
  show G (T345.setTop (mkF me_ 13 #[.val (.int p0), .val (.int p1), .val (.int p2), .val (.int p3), .val (.int p4), .val (.ref b345), .unset, .unset, .unset, .unset, .unset, .unset, .unset, .unset] [(.int (p1 &&& (255 : Int32))), (.int (0 : Int32)), (.ref b345)]))
  refine gv (fun tQ kQ => XS.i2c X345.here hx rfl (hb hby at_13) rfl kQ) ?_
  show G (T345.setTop (mkF me_ 14 #[.val (.int p0), .val (.int p1), .val (.int p2), .val (.int p3), .val (.int p4), .val (.ref b345), .unset, .unset, .unset, .unset, .unset, .unset, .unset, .unset] [(.int ((p1 &&& (255 : Int32)).toUInt32.toUInt16.toUInt32.toInt32)), (.int (0 : Int32)), (.ref b345)]))
  obtain ⟨cl350, Ar350, q350, S350, n350, H350, G350⟩ := (id V345)
  have in350 : ¬ ((0 : Int32) < 0 ∨ cl350.slots.size ≤ ((0 : Int32)).toNatClampNeg) := inb_of S350 ⟨by decide, by decide⟩
  obtain ⟨T350, h350, X350, e350, W350, st350⟩ := stC X345 hx hZ e345 Ar350 (j := (0 : Int32)) in350 (g := (mkF me_ 14 #[.val (.int p0), .val (.int p1), .val (.int p2), .val (.int p3), .val (.int p4), .val (.ref b345), .unset, .unset, .unset, .unset, .unset, .unset, .unset, .unset] [(.int ((p1 &&& (255 : Int32)).toUInt32.toUInt16.toUInt32.toInt32)), (.int (0 : Int32)), (.ref b345)])) rfl rfl (hb hby at_14)
  have W350 : Wr h345 h350 b345 ((0 : Int32)).toNatClampNeg (.int ((p1 &&& (255 : Int32)).toUInt32.toUInt16.toUInt32.toInt32)) := by have z := W350; rw [(own_narC _)] at z; exact z
  refine gv st350 ?_
  have sf352 := Safe.wr W350 (Safe.arv hZ.alike V345 (by simp)) CR.1 sf348
  have CR := CR.trans (CHr.wr W350 (Safe.arv hZ.alike V345 (by simp)) CR.1)
  have hk := Nat.le_trans hk (Keep.of_wr W350).1
  have O353 := O349.wr W350 g346
  have N354 := Fr.snoc X350 N0 g346
  have f351 : Arv Z h350 b345 k345 .char (3 : Int32) [(.int ((p1 &&& (255 : Int32)).toUInt32.toUInt16.toUInt32.toInt32)), (.int (0 : Int32)), (.int (0 : Int32))] (.int (0 : Int32)) := Arv.set Ar350 q350 S350 n350 H350 G350 (fits_nar_char _) W350 0 rfl (Nat.le_of_ble_eq_true rfl)
  show G (T350.setTop (mkF me_ 15 #[.val (.int p0), .val (.int p1), .val (.int p2), .val (.int p3), .val (.int p4), .val (.ref b345), .unset, .unset, .unset, .unset, .unset, .unset, .unset, .unset] []))
  refine gv (fun tQ kQ => XS.aload X350.here hx rfl (hb hby at_15) rfl rfl kQ) ?_
  show G (T350.setTop (mkF me_ 17 #[.val (.int p0), .val (.int p1), .val (.int p2), .val (.int p3), .val (.int p4), .val (.ref b345), .unset, .unset, .unset, .unset, .unset, .unset, .unset, .unset] [(.ref b345)]))
  refine gv (fun tQ kQ => XS.iconst X350.here hx rfl (hb hby at_17) kQ) ?_
  show G (T350.setTop (mkF me_ 18 #[.val (.int p0), .val (.int p1), .val (.int p2), .val (.int p3), .val (.int p4), .val (.ref b345), .unset, .unset, .unset, .unset, .unset, .unset, .unset, .unset] [(.int (1 : Int32)), (.ref b345)]))
  refine gv (fun tQ kQ => XS.iloadN X350.here hx rfl (hb hby at_18) rfl kQ) ?_
  show G (T350.setTop (mkF me_ 19 #[.val (.int p0), .val (.int p1), .val (.int p2), .val (.int p3), .val (.int p4), .val (.ref b345), .unset, .unset, .unset, .unset, .unset, .unset, .unset, .unset] [(.int p1), (.int (1 : Int32)), (.ref b345)]))
  refine gv (fun tQ kQ => XS.bipush X350.here hx rfl (hb hby at_19) kQ) ?_
  show G (T350.setTop (mkF me_ 21 #[.val (.int p0), .val (.int p1), .val (.int p2), .val (.int p3), .val (.int p4), .val (.ref b345), .unset, .unset, .unset, .unset, .unset, .unset, .unset, .unset] [(.int (8 : Int32)), (.int p1), (.int (1 : Int32)), (.ref b345)]))
  refine gv (fun tQ kQ => XS.iushr X350.here hx rfl (hb hby at_21) rfl kQ) ?_
  show G (T350.setTop (mkF me_ 22 #[.val (.int p0), .val (.int p1), .val (.int p2), .val (.int p3), .val (.int p4), .val (.ref b345), .unset, .unset, .unset, .unset, .unset, .unset, .unset, .unset] [(.int ((p1.toUInt32 >>> ((8 : Int32) &&& 31).toUInt32).toInt32)), (.int (1 : Int32)), (.ref b345)]))
  refine gv (fun tQ kQ => XS.sipush X350.here hx rfl (hb hby at_22) kQ) ?_
  show G (T350.setTop (mkF me_ 25 #[.val (.int p0), .val (.int p1), .val (.int p2), .val (.int p3), .val (.int p4), .val (.ref b345), .unset, .unset, .unset, .unset, .unset, .unset, .unset, .unset] [(.int (255 : Int32)), (.int ((p1.toUInt32 >>> ((8 : Int32) &&& 31).toUInt32).toInt32)), (.int (1 : Int32)), (.ref b345)]))
  refine gv (fun tQ kQ => XS.iand X350.here hx rfl (hb hby at_25) rfl kQ) ?_
  show G (T350.setTop (mkF me_ 26 #[.val (.int p0), .val (.int p1), .val (.int p2), .val (.int p3), .val (.int p4), .val (.ref b345), .unset, .unset, .unset, .unset, .unset, .unset, .unset, .unset] [(.int (((p1.toUInt32 >>> ((8 : Int32) &&& 31).toUInt32).toInt32) &&& (255 : Int32))), (.int (1 : Int32)), (.ref b345)]))
  refine gv (fun tQ kQ => XS.i2c X350.here hx rfl (hb hby at_26) rfl kQ) ?_
  show G (T350.setTop (mkF me_ 27 #[.val (.int p0), .val (.int p1), .val (.int p2), .val (.int p3), .val (.int p4), .val (.ref b345), .unset, .unset, .unset, .unset, .unset, .unset, .unset, .unset] [(.int ((((p1.toUInt32 >>> ((8 : Int32) &&& 31).toUInt32).toInt32) &&& (255 : Int32)).toUInt32.toUInt16.toUInt32.toInt32)), (.int (1 : Int32)), (.ref b345)]))
  obtain ⟨cl355, Ar355, q355, S355, n355, H355, G355⟩ := (id f351)
  have in355 : ¬ ((1 : Int32) < 0 ∨ cl355.slots.size ≤ ((1 : Int32)).toNatClampNeg) := inb_of S355 ⟨by decide, by decide⟩
  obtain ⟨T355, h355, X355, e355, W355, st355⟩ := stC X350 hx hZ e350 Ar355 (j := (1 : Int32)) in355 (g := (mkF me_ 27 #[.val (.int p0), .val (.int p1), .val (.int p2), .val (.int p3), .val (.int p4), .val (.ref b345), .unset, .unset, .unset, .unset, .unset, .unset, .unset, .unset] [(.int ((((p1.toUInt32 >>> ((8 : Int32) &&& 31).toUInt32).toInt32) &&& (255 : Int32)).toUInt32.toUInt16.toUInt32.toInt32)), (.int (1 : Int32)), (.ref b345)])) rfl rfl (hb hby at_27)
  have W355 : Wr h350 h355 b345 ((1 : Int32)).toNatClampNeg (.int ((((p1.toUInt32 >>> ((8 : Int32) &&& 31).toUInt32).toInt32) &&& (255 : Int32)).toUInt32.toUInt16.toUInt32.toInt32)) := by have z := W355; rw [(own_narC _)] at z; exact z
  refine gv st355 ?_
  have sf357 := Safe.wr W355 (Safe.arv hZ.alike f351 (by simp)) CR.1 sf352
  have CR := CR.trans (CHr.wr W355 (Safe.arv hZ.alike f351 (by simp)) CR.1)
  have hk := Nat.le_trans hk (Keep.of_wr W355).1
  have O358 := O353.wr W355 g346
  have N359 := Fr.snoc X355 N354 g346
  have f356 : Arv Z h355 b345 k345 .char (3 : Int32) [(.int ((p1 &&& (255 : Int32)).toUInt32.toUInt16.toUInt32.toInt32)), (.int ((((p1.toUInt32 >>> ((8 : Int32) &&& 31).toUInt32).toInt32) &&& (255 : Int32)).toUInt32.toUInt16.toUInt32.toInt32)), (.int (0 : Int32))] (.int (0 : Int32)) := Arv.set Ar355 q355 S355 n355 H355 G355 (fits_nar_char _) W355 1 rfl (Nat.le_of_ble_eq_true rfl)
  show G (T355.setTop (mkF me_ 28 #[.val (.int p0), .val (.int p1), .val (.int p2), .val (.int p3), .val (.int p4), .val (.ref b345), .unset, .unset, .unset, .unset, .unset, .unset, .unset, .unset] []))
  refine gv (fun tQ kQ => XS.aload X355.here hx rfl (hb hby at_28) rfl rfl kQ) ?_
  show G (T355.setTop (mkF me_ 30 #[.val (.int p0), .val (.int p1), .val (.int p2), .val (.int p3), .val (.int p4), .val (.ref b345), .unset, .unset, .unset, .unset, .unset, .unset, .unset, .unset] [(.ref b345)]))
  refine gv (fun tQ kQ => XS.iconst X355.here hx rfl (hb hby at_30) kQ) ?_
  show G (T355.setTop (mkF me_ 31 #[.val (.int p0), .val (.int p1), .val (.int p2), .val (.int p3), .val (.int p4), .val (.ref b345), .unset, .unset, .unset, .unset, .unset, .unset, .unset, .unset] [(.int (2 : Int32)), (.ref b345)]))
  refine gv (fun tQ kQ => XS.iloadN X355.here hx rfl (hb hby at_31) rfl kQ) ?_
  show G (T355.setTop (mkF me_ 32 #[.val (.int p0), .val (.int p1), .val (.int p2), .val (.int p3), .val (.int p4), .val (.ref b345), .unset, .unset, .unset, .unset, .unset, .unset, .unset, .unset] [(.int p1), (.int (2 : Int32)), (.ref b345)]))
  refine gv (fun tQ kQ => XS.bipush X355.here hx rfl (hb hby at_32) kQ) ?_
  show G (T355.setTop (mkF me_ 34 #[.val (.int p0), .val (.int p1), .val (.int p2), .val (.int p3), .val (.int p4), .val (.ref b345), .unset, .unset, .unset, .unset, .unset, .unset, .unset, .unset] [(.int (16 : Int32)), (.int p1), (.int (2 : Int32)), (.ref b345)]))
  refine gv (fun tQ kQ => XS.iushr X355.here hx rfl (hb hby at_34) rfl kQ) ?_
  show G (T355.setTop (mkF me_ 35 #[.val (.int p0), .val (.int p1), .val (.int p2), .val (.int p3), .val (.int p4), .val (.ref b345), .unset, .unset, .unset, .unset, .unset, .unset, .unset, .unset] [(.int ((p1.toUInt32 >>> ((16 : Int32) &&& 31).toUInt32).toInt32)), (.int (2 : Int32)), (.ref b345)]))
  refine gv (fun tQ kQ => XS.sipush X355.here hx rfl (hb hby at_35) kQ) ?_
  show G (T355.setTop (mkF me_ 38 #[.val (.int p0), .val (.int p1), .val (.int p2), .val (.int p3), .val (.int p4), .val (.ref b345), .unset, .unset, .unset, .unset, .unset, .unset, .unset, .unset] [(.int (255 : Int32)), (.int ((p1.toUInt32 >>> ((16 : Int32) &&& 31).toUInt32).toInt32)), (.int (2 : Int32)), (.ref b345)]))
  refine gv (fun tQ kQ => XS.iand X355.here hx rfl (hb hby at_38) rfl kQ) ?_
  show G (T355.setTop (mkF me_ 39 #[.val (.int p0), .val (.int p1), .val (.int p2), .val (.int p3), .val (.int p4), .val (.ref b345), .unset, .unset, .unset, .unset, .unset, .unset, .unset, .unset] [(.int (((p1.toUInt32 >>> ((16 : Int32) &&& 31).toUInt32).toInt32) &&& (255 : Int32))), (.int (2 : Int32)), (.ref b345)]))
  refine gv (fun tQ kQ => XS.i2c X355.here hx rfl (hb hby at_39) rfl kQ) ?_
  show G (T355.setTop (mkF me_ 40 #[.val (.int p0), .val (.int p1), .val (.int p2), .val (.int p3), .val (.int p4), .val (.ref b345), .unset, .unset, .unset, .unset, .unset, .unset, .unset, .unset] [(.int ((((p1.toUInt32 >>> ((16 : Int32) &&& 31).toUInt32).toInt32) &&& (255 : Int32)).toUInt32.toUInt16.toUInt32.toInt32)), (.int (2 : Int32)), (.ref b345)]))
  obtain ⟨cl360, Ar360, q360, S360, n360, H360, G360⟩ := (id f356)
  have in360 : ¬ ((2 : Int32) < 0 ∨ cl360.slots.size ≤ ((2 : Int32)).toNatClampNeg) := inb_of S360 ⟨by decide, by decide⟩
  obtain ⟨T360, h360, X360, e360, W360, st360⟩ := stC X355 hx hZ e355 Ar360 (j := (2 : Int32)) in360 (g := (mkF me_ 40 #[.val (.int p0), .val (.int p1), .val (.int p2), .val (.int p3), .val (.int p4), .val (.ref b345), .unset, .unset, .unset, .unset, .unset, .unset, .unset, .unset] [(.int ((((p1.toUInt32 >>> ((16 : Int32) &&& 31).toUInt32).toInt32) &&& (255 : Int32)).toUInt32.toUInt16.toUInt32.toInt32)), (.int (2 : Int32)), (.ref b345)])) rfl rfl (hb hby at_40)
  have W360 : Wr h355 h360 b345 ((2 : Int32)).toNatClampNeg (.int ((((p1.toUInt32 >>> ((16 : Int32) &&& 31).toUInt32).toInt32) &&& (255 : Int32)).toUInt32.toUInt16.toUInt32.toInt32)) := by have z := W360; rw [(own_narC _)] at z; exact z
  refine gv st360 ?_
  have sf362 := Safe.wr W360 (Safe.arv hZ.alike f356 (by simp)) CR.1 sf357
  have CR := CR.trans (CHr.wr W360 (Safe.arv hZ.alike f356 (by simp)) CR.1)
  have hk := Nat.le_trans hk (Keep.of_wr W360).1
  have O363 := O358.wr W360 g346
  have N364 := Fr.snoc X360 N359 g346
  have f361 : Arv Z h360 b345 k345 .char (3 : Int32) [(.int ((p1 &&& (255 : Int32)).toUInt32.toUInt16.toUInt32.toInt32)), (.int ((((p1.toUInt32 >>> ((8 : Int32) &&& 31).toUInt32).toInt32) &&& (255 : Int32)).toUInt32.toUInt16.toUInt32.toInt32)), (.int ((((p1.toUInt32 >>> ((16 : Int32) &&& 31).toUInt32).toInt32) &&& (255 : Int32)).toUInt32.toUInt16.toUInt32.toInt32))] (.int (0 : Int32)) := Arv.set Ar360 q360 S360 n360 H360 G360 (fits_nar_char _) W360 2 rfl (Nat.le_of_ble_eq_true rfl)
  show G (T360.setTop (mkF me_ 41 #[.val (.int p0), .val (.int p1), .val (.int p2), .val (.int p3), .val (.int p4), .val (.ref b345), .unset, .unset, .unset, .unset, .unset, .unset, .unset, .unset] []))
  obtain ⟨T365, h365, X365, e365, E365, A365, D365, -, st365⟩ := newO X360 hx hZ hown (hw _ (List.mem_of_getElem? (i := 1) rfl)) (hw _ (List.mem_of_getElem? (i := 2) rfl)) (hw _ (List.mem_of_getElem? (i := 3) rfl)) e360 (g := (mkF me_ 41 #[.val (.int p0), .val (.int p1), .val (.int p2), .val (.int p3), .val (.int p4), .val (.ref b345), .unset, .unset, .unset, .unset, .unset, .unset, .unset, .unset] [])) rfl (hb hby at_41) (by decide) (by decide)
  obtain ⟨b365, g365⟩ : ∃ z, z = h360.size := ⟨_, rfl⟩
  rw [← g365] at A365 D365 st365
  refine gv st365 ?_
  have ne366 : b345 ≠ b365 := Nat.ne_of_lt (Nat.lt_of_lt_of_le f361.lt (Nat.le_of_eq g365.symm))
  have g367 : n0 ≤ b365 := Nat.le_trans (own_old O363) (Nat.le_of_eq g365.symm)
  have sf368 : Safe Z own_EL st_.vm h360 b365 := Safe.new (Nat.le_of_eq g365.symm)
  have f369 : Arv Z h365 b345 k345 .char (3 : Int32) [(.int ((p1 &&& (255 : Int32)).toUInt32.toUInt16.toUInt32.toInt32)), (.int ((((p1.toUInt32 >>> ((8 : Int32) &&& 31).toUInt32).toInt32) &&& (255 : Int32)).toUInt32.toUInt16.toUInt32.toInt32)), (.int ((((p1.toUInt32 >>> ((16 : Int32) &&& 31).toUInt32).toInt32) &&& (255 : Int32)).toUInt32.toUInt16.toUInt32.toInt32))] (.int (0 : Int32)) := f361.ext E365
  have sf370 := Safe.ext E365 CR.1 sf362
  have sf371 := Safe.ext E365 CR.1 sf368
  have CR := CR.trans (CHr.ext E365 CR.1)
  have hk := Nat.le_trans hk E365.1
  have O372 := O363.ext E365
  have f373 : Fld Z h365 b365 "java/lang/String" "coder" "B" (.int (0 : Int32)) := D365 (Or.inr (hw _ (List.mem_of_getElem? (i := 27) rfl))) (ty := .byte) (by decide)
  have f374 : Fld Z h365 b365 "java/lang/String" "value" "[B" .null := D365 (Or.inr (hw _ (List.mem_of_getElem? (i := 29) rfl))) (ty := (.array .byte)) (by decide)
  show G (T365.setTop (mkF me_ 44 #[.val (.int p0), .val (.int p1), .val (.int p2), .val (.int p3), .val (.int p4), .val (.ref b345), .unset, .unset, .unset, .unset, .unset, .unset, .unset, .unset] [(.ref b365)]))
  refine gv (fun tQ kQ => XS.dup X365.here hx rfl (hb hby at_44) rfl rfl kQ) ?_
  show G (T365.setTop (mkF me_ 45 #[.val (.int p0), .val (.int p1), .val (.int p2), .val (.int p3), .val (.int p4), .val (.ref b345), .unset, .unset, .unset, .unset, .unset, .unset, .unset, .unset] [(.ref b365), (.ref b365)]))
  refine gv (fun tQ kQ => XS.aload X365.here hx rfl (hb hby at_45) rfl rfl kQ) ?_
  show G (T365.setTop (mkF me_ 47 #[.val (.int p0), .val (.int p1), .val (.int p2), .val (.int p3), .val (.int p4), .val (.ref b345), .unset, .unset, .unset, .unset, .unset, .unset, .unset, .unset] [(.ref b345), (.ref b365), (.ref b365)]))
  obtain ⟨_, _, ⟨T375, L375, k375, n375⟩, -, X375, ⟨Lc375, hQ375, l375, y375, z375⟩, st375⟩ := X365.specialBack hx (y := (⟨"java/lang/String", "<init>", "([C)V"⟩ : MethodName)) rfl hown (mvT hZ (hw _ (List.mem_of_getElem? (i := 4) rfl))) (mvT hZ (hw _ (List.mem_of_getElem? (i := 5) rfl))) (mvT hZ (hw _ (List.mem_of_getElem? (i := 6) rfl))) (by decide) (backOf (W := 1) (rm_sc3 l Z a0 hw [] b365 b345 k345 ((p1 &&& (255 : Int32)).toUInt32.toUInt16.toUInt32.toInt32) ((((p1.toUInt32 >>> ((8 : Int32) &&& 31).toUInt32).toInt32) &&& (255 : Int32)).toUInt32.toUInt16.toUInt32.toInt32) ((((p1.toUInt32 >>> ((16 : Int32) &&& 31).toUInt32).toInt32) &&& (255 : Int32)).toUInt32.toUInt16.toUInt32.toInt32) cs h365 n0 O372 u0 u1 (own_lt255 _) (own_lt255 _) (own_lt255 _) A365 f374 f373 g367 f369 (Ne.symm ne366)) hZ (hw _ (List.mem_of_getElem? (i := 6) rfl)) (hw _ (List.mem_of_getElem? (i := 3) rfl)) (by decide) (by decide)) (g := (mkF me_ 47 #[.val (.int p0), .val (.int p1), .val (.int p2), .val (.int p3), .val (.int p4), .val (.ref b345), .unset, .unset, .unset, .unset, .unset, .unset, .unset, .unset] [(.ref b345), (.ref b365), (.ref b365)])) rfl (by rw [hml]; rfl) (Steps.refl _) (a := b365) (argsL := [(.ref b345)]) (rest := [(.ref b365)]) (lenOf pd_9 rfl) rfl (by show 2 * 0 + _ ≤ _; exact Nat.le_of_eq rfl) (hb hby at_47) (fun _ _ => ⟨rfl, e365, (by decide : 2 + 1 ≤ _), (by decide : 7 + 3 ≤ _)⟩)
  dsimp only [Pt.U, Pt.locs, Pt.cells, Pt.slots] at X375 l375 y375 z375 st375 hQ375
  subst l375 y375 z375
  obtain ⟨b_375, k_375, rfl, Nq375, Kq375, w375_0, w375_1, w375_2, w375_3, w375_4⟩ := hQ375
  have N376 := Fr.app N364 Nq375
  obtain ⟨h375, e375⟩ : ∃ z, T375.heap = z := ⟨_, rfl⟩
  rw [e375] at Kq375 w375_1 w375_2 w375_3 w375_4
  have sf377 := Safe.keep Kq375 (sfS sf371 sf0) CR.1 sf370
  have sf378 := Safe.keep Kq375 (sfS sf371 sf0) CR.1 sf371
  have ne379 : b345 ≠ b_375 := Nat.ne_of_lt (Nat.lt_of_lt_of_le f369.lt w375_0)
  have ne380 : b365 ≠ b_375 := Nat.ne_of_lt (Nat.lt_of_lt_of_le A365.lt w375_0)
  have g381 : n0 ≤ b_375 := Nat.le_trans (own_old O372) w375_0
  have sf382 : Safe Z own_EL st_.vm h365 b_375 := Safe.new w375_0
  have sf383 := Safe.keep Kq375 (sfS sf371 sf0) CR.1 sf382
  have CR := CR.trans (CHr.keep Kq375 (sfS sf371 sf0) CR.1)
  have hk := Nat.le_trans hk Kq375.1
  have f384 : Arv Z h375 b345 k345 .char (3 : Int32) [(.int ((p1 &&& (255 : Int32)).toUInt32.toUInt16.toUInt32.toInt32)), (.int ((((p1.toUInt32 >>> ((8 : Int32) &&& 31).toUInt32).toInt32) &&& (255 : Int32)).toUInt32.toUInt16.toUInt32.toInt32)), (.int ((((p1.toUInt32 >>> ((16 : Int32) &&& 31).toUInt32).toInt32) &&& (255 : Int32)).toUInt32.toUInt16.toUInt32.toInt32))] (.int (0 : Int32)) := f369.keep Kq375 (ninS ne366 nin0)
  have f385 : Exa Z h375 b365 "java/lang/String" := A365.keep Kq375
  have O386 := O372.keep Kq375 (allS g367 all0)
  refine gv (fun tQ kQ => st375.trans kQ) ?_
  show G (T375.setTop (mkF me_ 50 #[.val (.int p0), .val (.int p1), .val (.int p2), .val (.int p3), .val (.int p4), .val (.ref b345), .unset, .unset, .unset, .unset, .unset, .unset, .unset, .unset] [(.ref b365)]))
  refine gv (fun tQ kQ => XS.astore X375.here hx rfl (hb hby at_50) rfl rfl (l' := #[.val (.int p0), .val (.int p1), .val (.int p2), .val (.int p3), .val (.int p4), .val (.ref b345), .val (.ref b365), .unset, .unset, .unset, .unset, .unset, .unset, .unset]) rfl kQ) ?_
  show G (T375.setTop (mkF me_ 52 #[.val (.int p0), .val (.int p1), .val (.int p2), .val (.int p3), .val (.int p4), .val (.ref b345), .val (.ref b365), .unset, .unset, .unset, .unset, .unset, .unset, .unset] []))
  refine gv (fun tQ kQ => XS.iloadN X375.here hx rfl (hb hby at_52) rfl kQ) ?_
  show G (T375.setTop (mkF me_ 53 #[.val (.int p0), .val (.int p1), .val (.int p2), .val (.int p3), .val (.int p4), .val (.ref b345), .val (.ref b365), .unset, .unset, .unset, .unset, .unset, .unset, .unset] [(.int p2)]))
  refine gv (fun tQ kQ => XS.iconst X375.here hx rfl (hb hby at_53) kQ) ?_
  show G (T375.setTop (mkF me_ 54 #[.val (.int p0), .val (.int p1), .val (.int p2), .val (.int p3), .val (.int p4), .val (.ref b345), .val (.ref b365), .unset, .unset, .unset, .unset, .unset, .unset, .unset] [(.int (3 : Int32)), (.int p2)]))
  refine gv (fun tQ kQ => XS.iand X375.here hx rfl (hb hby at_54) rfl kQ) ?_
  show G (T375.setTop (mkF me_ 55 #[.val (.int p0), .val (.int p1), .val (.int p2), .val (.int p3), .val (.int p4), .val (.ref b345), .val (.ref b365), .unset, .unset, .unset, .unset, .unset, .unset, .unset] [(.int (p2 &&& (3 : Int32)))]))
  refine gv (fun tQ kQ => XS.istore X375.here hx rfl (hb hby at_55) rfl (l' := #[.val (.int p0), .val (.int p1), .val (.int p2), .val (.int p3), .val (.int p4), .val (.ref b345), .val (.ref b365), .val (.int (p2 &&& (3 : Int32))), .unset, .unset, .unset, .unset, .unset, .unset]) rfl kQ) ?_
  show G (T375.setTop (mkF me_ 57 #[.val (.int p0), .val (.int p1), .val (.int p2), .val (.int p3), .val (.int p4), .val (.ref b345), .val (.ref b365), .val (.int (p2 &&& (3 : Int32))), .unset, .unset, .unset, .unset, .unset, .unset] []))
  refine gv (fun tQ kQ => XS.iload X375.here hx rfl (hb hby at_57) rfl kQ) ?_
  show G (T375.setTop (mkF me_ 59 #[.val (.int p0), .val (.int p1), .val (.int p2), .val (.int p3), .val (.int p4), .val (.ref b345), .val (.ref b365), .val (.int (p2 &&& (3 : Int32))), .unset, .unset, .unset, .unset, .unset, .unset] [(.int (p2 &&& (3 : Int32)))]))
  refine gv (fun tQ kQ => XS.iloadN X375.here hx rfl (hb hby at_59) rfl kQ) ?_
  show G (T375.setTop (mkF me_ 60 #[.val (.int p0), .val (.int p1), .val (.int p2), .val (.int p3), .val (.int p4), .val (.ref b345), .val (.ref b365), .val (.int (p2 &&& (3 : Int32))), .unset, .unset, .unset, .unset, .unset, .unset] [(.int p2), (.int (p2 &&& (3 : Int32)))]))
  refine gv (fun tQ kQ => XS.iconst X375.here hx rfl (hb hby at_60) kQ) ?_
  show G (T375.setTop (mkF me_ 61 #[.val (.int p0), .val (.int p1), .val (.int p2), .val (.int p3), .val (.int p4), .val (.ref b345), .val (.ref b365), .val (.int (p2 &&& (3 : Int32))), .unset, .unset, .unset, .unset, .unset, .unset] [(.int (2 : Int32)), (.int p2), (.int (p2 &&& (3 : Int32)))]))
  refine gv (fun tQ kQ => XS.iushr X375.here hx rfl (hb hby at_61) rfl kQ) ?_
  show G (T375.setTop (mkF me_ 62 #[.val (.int p0), .val (.int p1), .val (.int p2), .val (.int p3), .val (.int p4), .val (.ref b345), .val (.ref b365), .val (.int (p2 &&& (3 : Int32))), .unset, .unset, .unset, .unset, .unset, .unset] [(.int ((p2.toUInt32 >>> ((2 : Int32) &&& 31).toUInt32).toInt32)), (.int (p2 &&& (3 : Int32)))]))
  refine gv (fun tQ kQ => XS.iconst X375.here hx rfl (hb hby at_62) kQ) ?_
  show G (T375.setTop (mkF me_ 63 #[.val (.int p0), .val (.int p1), .val (.int p2), .val (.int p3), .val (.int p4), .val (.ref b345), .val (.ref b365), .val (.int (p2 &&& (3 : Int32))), .unset, .unset, .unset, .unset, .unset, .unset] [(.int (3 : Int32)), (.int ((p2.toUInt32 >>> ((2 : Int32) &&& 31).toUInt32).toInt32)), (.int (p2 &&& (3 : Int32)))]))
  refine gv (fun tQ kQ => XS.iand X375.here hx rfl (hb hby at_63) rfl kQ) ?_
  show G (T375.setTop (mkF me_ 64 #[.val (.int p0), .val (.int p1), .val (.int p2), .val (.int p3), .val (.int p4), .val (.ref b345), .val (.ref b365), .val (.int (p2 &&& (3 : Int32))), .unset, .unset, .unset, .unset, .unset, .unset] [(.int (((p2.toUInt32 >>> ((2 : Int32) &&& 31).toUInt32).toInt32) &&& (3 : Int32))), (.int (p2 &&& (3 : Int32)))]))
  refine gv (fun tQ kQ => XS.iconst X375.here hx rfl (hb hby at_64) kQ) ?_
  show G (T375.setTop (mkF me_ 65 #[.val (.int p0), .val (.int p1), .val (.int p2), .val (.int p3), .val (.int p4), .val (.ref b345), .val (.ref b365), .val (.int (p2 &&& (3 : Int32))), .unset, .unset, .unset, .unset, .unset, .unset] [(.int (4 : Int32)), (.int (((p2.toUInt32 >>> ((2 : Int32) &&& 31).toUInt32).toInt32) &&& (3 : Int32))), (.int (p2 &&& (3 : Int32)))]))
  refine gv (fun tQ kQ => XS.iload X375.here hx rfl (hb hby at_65) rfl kQ) ?_
  show G (T375.setTop (mkF me_ 67 #[.val (.int p0), .val (.int p1), .val (.int p2), .val (.int p3), .val (.int p4), .val (.ref b345), .val (.ref b365), .val (.int (p2 &&& (3 : Int32))), .unset, .unset, .unset, .unset, .unset, .unset] [(.int (p2 &&& (3 : Int32))), (.int (4 : Int32)), (.int (((p2.toUInt32 >>> ((2 : Int32) &&& 31).toUInt32).toInt32) &&& (3 : Int32))), (.int (p2 &&& (3 : Int32)))]))
  refine gv (fun tQ kQ => XS.isub X375.here hx rfl (hb hby at_67) rfl kQ) ?_
  show G (T375.setTop (mkF me_ 68 #[.val (.int p0), .val (.int p1), .val (.int p2), .val (.int p3), .val (.int p4), .val (.ref b345), .val (.ref b365), .val (.int (p2 &&& (3 : Int32))), .unset, .unset, .unset, .unset, .unset, .unset] [(.int ((4 : Int32) - (p2 &&& (3 : Int32)))), (.int (((p2.toUInt32 >>> ((2 : Int32) &&& 31).toUInt32).toInt32) &&& (3 : Int32))), (.int (p2 &&& (3 : Int32)))]))
  refine gv (fun tQ kQ => iremM X375 hx rfl (hb hby at_68) rfl (own_nz4 p2) kQ) ?_
  show G (T375.setTop (mkF me_ 69 #[.val (.int p0), .val (.int p1), .val (.int p2), .val (.int p3), .val (.int p4), .val (.ref b345), .val (.ref b365), .val (.int (p2 &&& (3 : Int32))), .unset, .unset, .unset, .unset, .unset, .unset] [(.int ((((p2.toUInt32 >>> ((2 : Int32) &&& 31).toUInt32).toInt32) &&& (3 : Int32)) % ((4 : Int32) - (p2 &&& (3 : Int32))))), (.int (p2 &&& (3 : Int32)))]))
  refine gv (fun tQ kQ => XS.iadd X375.here hx rfl (hb hby at_69) rfl kQ) ?_
  show G (T375.setTop (mkF me_ 70 #[.val (.int p0), .val (.int p1), .val (.int p2), .val (.int p3), .val (.int p4), .val (.ref b345), .val (.ref b365), .val (.int (p2 &&& (3 : Int32))), .unset, .unset, .unset, .unset, .unset, .unset] [(.int ((p2 &&& (3 : Int32)) + ((((p2.toUInt32 >>> ((2 : Int32) &&& 31).toUInt32).toInt32) &&& (3 : Int32)) % ((4 : Int32) - (p2 &&& (3 : Int32))))))]))
  refine gv (fun tQ kQ => XS.istore X375.here hx rfl (hb hby at_70) rfl (l' := #[.val (.int p0), .val (.int p1), .val (.int p2), .val (.int p3), .val (.int p4), .val (.ref b345), .val (.ref b365), .val (.int (p2 &&& (3 : Int32))), .val (.int ((p2 &&& (3 : Int32)) + ((((p2.toUInt32 >>> ((2 : Int32) &&& 31).toUInt32).toInt32) &&& (3 : Int32)) % ((4 : Int32) - (p2 &&& (3 : Int32)))))), .unset, .unset, .unset, .unset, .unset]) rfl kQ) ?_
  show G (T375.setTop (mkF me_ 72 #[.val (.int p0), .val (.int p1), .val (.int p2), .val (.int p3), .val (.int p4), .val (.ref b345), .val (.ref b365), .val (.int (p2 &&& (3 : Int32))), .val (.int ((p2 &&& (3 : Int32)) + ((((p2.toUInt32 >>> ((2 : Int32) &&& 31).toUInt32).toInt32) &&& (3 : Int32)) % ((4 : Int32) - (p2 &&& (3 : Int32)))))), .unset, .unset, .unset, .unset, .unset] []))
  refine gv (fun tQ kQ => XS.iloadN X375.here hx rfl (hb hby at_72) rfl kQ) ?_
  show G (T375.setTop (mkF me_ 73 #[.val (.int p0), .val (.int p1), .val (.int p2), .val (.int p3), .val (.int p4), .val (.ref b345), .val (.ref b365), .val (.int (p2 &&& (3 : Int32))), .val (.int ((p2 &&& (3 : Int32)) + ((((p2.toUInt32 >>> ((2 : Int32) &&& 31).toUInt32).toInt32) &&& (3 : Int32)) % ((4 : Int32) - (p2 &&& (3 : Int32)))))), .unset, .unset, .unset, .unset, .unset] [(.int p3)]))
  refine gv (fun tQ kQ => XS.iconst X375.here hx rfl (hb hby at_73) kQ) ?_
  show G (T375.setTop (mkF me_ 74 #[.val (.int p0), .val (.int p1), .val (.int p2), .val (.int p3), .val (.int p4), .val (.ref b345), .val (.ref b365), .val (.int (p2 &&& (3 : Int32))), .val (.int ((p2 &&& (3 : Int32)) + ((((p2.toUInt32 >>> ((2 : Int32) &&& 31).toUInt32).toInt32) &&& (3 : Int32)) % ((4 : Int32) - (p2 &&& (3 : Int32)))))), .unset, .unset, .unset, .unset, .unset] [(.int (3 : Int32)), (.int p3)]))
  refine gv (fun tQ kQ => XS.iand X375.here hx rfl (hb hby at_74) rfl kQ) ?_
  show G (T375.setTop (mkF me_ 75 #[.val (.int p0), .val (.int p1), .val (.int p2), .val (.int p3), .val (.int p4), .val (.ref b345), .val (.ref b365), .val (.int (p2 &&& (3 : Int32))), .val (.int ((p2 &&& (3 : Int32)) + ((((p2.toUInt32 >>> ((2 : Int32) &&& 31).toUInt32).toInt32) &&& (3 : Int32)) % ((4 : Int32) - (p2 &&& (3 : Int32)))))), .unset, .unset, .unset, .unset, .unset] [(.int (p3 &&& (3 : Int32)))]))
  rcases own_and3 p3 with q | q | q | q
  · rw [q]
    show G (T375.setTop (mkF me_ 75 #[.val (.int p0), .val (.int p1), .val (.int p2), .val (.int p3), .val (.int p4), .val (.ref b345), .val (.ref b365), .val (.int (p2 &&& (3 : Int32))), .val (.int ((p2 &&& (3 : Int32)) + ((((p2.toUInt32 >>> ((2 : Int32) &&& 31).toUInt32).toInt32) &&& (3 : Int32)) % ((4 : Int32) - (p2 &&& (3 : Int32)))))), .unset, .unset, .unset, .unset, .unset] [(.int (0 : Int32))]))
    refine gv (fun tQ kQ => XS.istore X375.here hx rfl (hb hby at_75) rfl (l' := #[.val (.int p0), .val (.int p1), .val (.int p2), .val (.int p3), .val (.int p4), .val (.ref b345), .val (.ref b365), .val (.int (p2 &&& (3 : Int32))), .val (.int ((p2 &&& (3 : Int32)) + ((((p2.toUInt32 >>> ((2 : Int32) &&& 31).toUInt32).toInt32) &&& (3 : Int32)) % ((4 : Int32) - (p2 &&& (3 : Int32)))))), .val (.int (0 : Int32)), .unset, .unset, .unset, .unset]) rfl kQ) ?_
    show G (T375.setTop (mkF me_ 77 #[.val (.int p0), .val (.int p1), .val (.int p2), .val (.int p3), .val (.int p4), .val (.ref b345), .val (.ref b365), .val (.int (p2 &&& (3 : Int32))), .val (.int ((p2 &&& (3 : Int32)) + ((((p2.toUInt32 >>> ((2 : Int32) &&& 31).toUInt32).toInt32) &&& (3 : Int32)) % ((4 : Int32) - (p2 &&& (3 : Int32)))))), .val (.int (0 : Int32)), .unset, .unset, .unset, .unset] []))
    refine gv (fun tQ kQ => XS.aconstNull X375.here hx rfl (hb hby at_77) kQ) ?_
    show G (T375.setTop (mkF me_ 78 #[.val (.int p0), .val (.int p1), .val (.int p2), .val (.int p3), .val (.int p4), .val (.ref b345), .val (.ref b365), .val (.int (p2 &&& (3 : Int32))), .val (.int ((p2 &&& (3 : Int32)) + ((((p2.toUInt32 >>> ((2 : Int32) &&& 31).toUInt32).toInt32) &&& (3 : Int32)) % ((4 : Int32) - (p2 &&& (3 : Int32)))))), .val (.int (0 : Int32)), .unset, .unset, .unset, .unset] [.null]))
    refine gv (fun tQ kQ => XS.astore X375.here hx rfl (hb hby at_78) rfl rfl (l' := #[.val (.int p0), .val (.int p1), .val (.int p2), .val (.int p3), .val (.int p4), .val (.ref b345), .val (.ref b365), .val (.int (p2 &&& (3 : Int32))), .val (.int ((p2 &&& (3 : Int32)) + ((((p2.toUInt32 >>> ((2 : Int32) &&& 31).toUInt32).toInt32) &&& (3 : Int32)) % ((4 : Int32) - (p2 &&& (3 : Int32)))))), .val (.int (0 : Int32)), .val .null, .unset, .unset, .unset]) rfl kQ) ?_
    show G (T375.setTop (mkF me_ 80 #[.val (.int p0), .val (.int p1), .val (.int p2), .val (.int p3), .val (.int p4), .val (.ref b345), .val (.ref b365), .val (.int (p2 &&& (3 : Int32))), .val (.int ((p2 &&& (3 : Int32)) + ((((p2.toUInt32 >>> ((2 : Int32) &&& 31).toUInt32).toInt32) &&& (3 : Int32)) % ((4 : Int32) - (p2 &&& (3 : Int32)))))), .val (.int (0 : Int32)), .val .null, .unset, .unset, .unset] []))
    refine gv (fun tQ kQ => XS.iload X375.here hx rfl (hb hby at_80) rfl kQ) ?_
    show G (T375.setTop (mkF me_ 82 #[.val (.int p0), .val (.int p1), .val (.int p2), .val (.int p3), .val (.int p4), .val (.ref b345), .val (.ref b365), .val (.int (p2 &&& (3 : Int32))), .val (.int ((p2 &&& (3 : Int32)) + ((((p2.toUInt32 >>> ((2 : Int32) &&& 31).toUInt32).toInt32) &&& (3 : Int32)) % ((4 : Int32) - (p2 &&& (3 : Int32)))))), .val (.int (0 : Int32)), .val .null, .unset, .unset, .unset] [(.int (0 : Int32))]))
    refine gv (fun tQ kQ => XS.iconst X375.here hx rfl (hb hby at_82) kQ) ?_
    show G (T375.setTop (mkF me_ 83 #[.val (.int p0), .val (.int p1), .val (.int p2), .val (.int p3), .val (.int p4), .val (.ref b345), .val (.ref b365), .val (.int (p2 &&& (3 : Int32))), .val (.int ((p2 &&& (3 : Int32)) + ((((p2.toUInt32 >>> ((2 : Int32) &&& 31).toUInt32).toInt32) &&& (3 : Int32)) % ((4 : Int32) - (p2 &&& (3 : Int32)))))), .val (.int (0 : Int32)), .val .null, .unset, .unset, .unset] [(.int (1 : Int32)), (.int (0 : Int32))]))
    refine gv (fun tQ kQ => XS.icmpYes X375.here hx rfl (pc0 := 83) (pc' := 93) rfl (hb hby at_83) rfl (feq (by decide : ¬ ((0 : Int32) = (1 : Int32)))).2 (by decide) (by decide) kQ) ?_
    show G (T375.setTop (mkF me_ 93 #[.val (.int p0), .val (.int p1), .val (.int p2), .val (.int p3), .val (.int p4), .val (.ref b345), .val (.ref b365), .val (.int (p2 &&& (3 : Int32))), .val (.int ((p2 &&& (3 : Int32)) + ((((p2.toUInt32 >>> ((2 : Int32) &&& 31).toUInt32).toInt32) &&& (3 : Int32)) % ((4 : Int32) - (p2 &&& (3 : Int32)))))), .val (.int (0 : Int32)), .val .null, .unset, .unset, .unset] []))
    refine gv (fun tQ kQ => XS.iload X375.here hx rfl (hb hby at_93) rfl kQ) ?_
    show G (T375.setTop (mkF me_ 95 #[.val (.int p0), .val (.int p1), .val (.int p2), .val (.int p3), .val (.int p4), .val (.ref b345), .val (.ref b365), .val (.int (p2 &&& (3 : Int32))), .val (.int ((p2 &&& (3 : Int32)) + ((((p2.toUInt32 >>> ((2 : Int32) &&& 31).toUInt32).toInt32) &&& (3 : Int32)) % ((4 : Int32) - (p2 &&& (3 : Int32)))))), .val (.int (0 : Int32)), .val .null, .unset, .unset, .unset] [(.int (0 : Int32))]))
    refine gv (fun tQ kQ => XS.iconst X375.here hx rfl (hb hby at_95) kQ) ?_
    show G (T375.setTop (mkF me_ 96 #[.val (.int p0), .val (.int p1), .val (.int p2), .val (.int p3), .val (.int p4), .val (.ref b345), .val (.ref b365), .val (.int (p2 &&& (3 : Int32))), .val (.int ((p2 &&& (3 : Int32)) + ((((p2.toUInt32 >>> ((2 : Int32) &&& 31).toUInt32).toInt32) &&& (3 : Int32)) % ((4 : Int32) - (p2 &&& (3 : Int32)))))), .val (.int (0 : Int32)), .val .null, .unset, .unset, .unset] [(.int (2 : Int32)), (.int (0 : Int32))]))
    refine gv (fun tQ kQ => XS.icmpYes X375.here hx rfl (pc0 := 96) (pc' := 114) rfl (hb hby at_96) rfl (feq (by decide : ¬ ((0 : Int32) = (2 : Int32)))).2 (by decide) (by decide) kQ) ?_
    show G (T375.setTop (mkF me_ 114 #[.val (.int p0), .val (.int p1), .val (.int p2), .val (.int p3), .val (.int p4), .val (.ref b345), .val (.ref b365), .val (.int (p2 &&& (3 : Int32))), .val (.int ((p2 &&& (3 : Int32)) + ((((p2.toUInt32 >>> ((2 : Int32) &&& 31).toUInt32).toInt32) &&& (3 : Int32)) % ((4 : Int32) - (p2 &&& (3 : Int32)))))), .val (.int (0 : Int32)), .val .null, .unset, .unset, .unset] []))
    refine gv (fun tQ kQ => XS.iload X375.here hx rfl (hb hby at_114) rfl kQ) ?_
    show G (T375.setTop (mkF me_ 116 #[.val (.int p0), .val (.int p1), .val (.int p2), .val (.int p3), .val (.int p4), .val (.ref b345), .val (.ref b365), .val (.int (p2 &&& (3 : Int32))), .val (.int ((p2 &&& (3 : Int32)) + ((((p2.toUInt32 >>> ((2 : Int32) &&& 31).toUInt32).toInt32) &&& (3 : Int32)) % ((4 : Int32) - (p2 &&& (3 : Int32)))))), .val (.int (0 : Int32)), .val .null, .unset, .unset, .unset] [(.int (0 : Int32))]))
    refine gv (fun tQ kQ => XS.iconst X375.here hx rfl (hb hby at_116) kQ) ?_
    show G (T375.setTop (mkF me_ 117 #[.val (.int p0), .val (.int p1), .val (.int p2), .val (.int p3), .val (.int p4), .val (.ref b345), .val (.ref b365), .val (.int (p2 &&& (3 : Int32))), .val (.int ((p2 &&& (3 : Int32)) + ((((p2.toUInt32 >>> ((2 : Int32) &&& 31).toUInt32).toInt32) &&& (3 : Int32)) % ((4 : Int32) - (p2 &&& (3 : Int32)))))), .val (.int (0 : Int32)), .val .null, .unset, .unset, .unset] [(.int (3 : Int32)), (.int (0 : Int32))]))
    refine gv (fun tQ kQ => XS.icmpYes X375.here hx rfl (pc0 := 117) (pc' := 161) rfl (hb hby at_117) rfl (feq (by decide : ¬ ((0 : Int32) = (3 : Int32)))).2 (by decide) (by decide) kQ) ?_
    show G (T375.setTop (mkF me_ 161 #[.val (.int p0), .val (.int p1), .val (.int p2), .val (.int p3), .val (.int p4), .val (.ref b345), .val (.ref b365), .val (.int (p2 &&& (3 : Int32))), .val (.int ((p2 &&& (3 : Int32)) + ((((p2.toUInt32 >>> ((2 : Int32) &&& 31).toUInt32).toInt32) &&& (3 : Int32)) % ((4 : Int32) - (p2 &&& (3 : Int32)))))), .val (.int (0 : Int32)), .val .null, .unset, .unset, .unset] []))
    obtain ⟨T387, h387, X387, e387, E387, A387, D387, -, st387⟩ := newO X375 hx hZ hown (hw _ (List.mem_of_getElem? (i := 33) rfl)) (hw _ (List.mem_of_getElem? (i := 34) rfl)) (hw _ (List.mem_of_getElem? (i := 35) rfl)) e375 (g := (mkF me_ 161 #[.val (.int p0), .val (.int p1), .val (.int p2), .val (.int p3), .val (.int p4), .val (.ref b345), .val (.ref b365), .val (.int (p2 &&& (3 : Int32))), .val (.int ((p2 &&& (3 : Int32)) + ((((p2.toUInt32 >>> ((2 : Int32) &&& 31).toUInt32).toInt32) &&& (3 : Int32)) % ((4 : Int32) - (p2 &&& (3 : Int32)))))), .val (.int (0 : Int32)), .val .null, .unset, .unset, .unset] [])) rfl (hb hby at_161) (by decide) (by decide)
    obtain ⟨b387, g387⟩ : ∃ z, z = h375.size := ⟨_, rfl⟩
    rw [← g387] at A387 D387 st387
    refine gv st387 ?_
    have ne388 : b345 ≠ b387 := Nat.ne_of_lt (Nat.lt_of_lt_of_le f384.lt (Nat.le_of_eq g387.symm))
    have ne389 : b365 ≠ b387 := Nat.ne_of_lt (Nat.lt_of_lt_of_le w375_1.lt (Nat.le_of_eq g387.symm))
    have ne390 : b_375 ≠ b387 := Nat.ne_of_lt (Nat.lt_of_lt_of_le w375_4.lt (Nat.le_of_eq g387.symm))
    have g391 : n0 ≤ b387 := Nat.le_trans (own_old O386) (Nat.le_of_eq g387.symm)
    have sf392 : Safe Z own_EL st_.vm h375 b387 := Safe.new (Nat.le_of_eq g387.symm)
    have f393 : Arv Z h387 b345 k345 .char (3 : Int32) [(.int ((p1 &&& (255 : Int32)).toUInt32.toUInt16.toUInt32.toInt32)), (.int ((((p1.toUInt32 >>> ((8 : Int32) &&& 31).toUInt32).toInt32) &&& (255 : Int32)).toUInt32.toUInt16.toUInt32.toInt32)), (.int ((((p1.toUInt32 >>> ((16 : Int32) &&& 31).toUInt32).toInt32) &&& (255 : Int32)).toUInt32.toUInt16.toUInt32.toInt32))] (.int (0 : Int32)) := f384.ext E387
    have f394 : Exa Z h387 b365 "java/lang/String" := w375_1.ext E387
    have f395 : Fld Z h387 b365 "java/lang/String" "coder" "B" (.int (0 : Int32)) := w375_2.ext E387
    have f396 : Fld Z h387 b365 "java/lang/String" "value" "[B" (.ref b_375) := w375_3.ext E387
    have f397 : Arv Z h387 b_375 k_375 .byte (3 : Int32) [(.int (((p1 &&& (255 : Int32)).toUInt32.toUInt16.toUInt32.toInt32).toInt8.toInt32)), (.int (((((p1.toUInt32 >>> ((8 : Int32) &&& 31).toUInt32).toInt32) &&& (255 : Int32)).toUInt32.toUInt16.toUInt32.toInt32).toInt8.toInt32)), (.int (((((p1.toUInt32 >>> ((16 : Int32) &&& 31).toUInt32).toInt32) &&& (255 : Int32)).toUInt32.toUInt16.toUInt32.toInt32).toInt8.toInt32))] (.int (0 : Int32)) := w375_4.ext E387
    have sf398 := Safe.ext E387 CR.1 sf377
    have sf399 := Safe.ext E387 CR.1 sf378
    have sf400 := Safe.ext E387 CR.1 sf383
    have sf401 := Safe.ext E387 CR.1 sf392
    have CR := CR.trans (CHr.ext E387 CR.1)
    have hk := Nat.le_trans hk E387.1
    have O402 := O386.ext E387
    have f403 : Fld Z h387 b387 "com/example/hits_in_context/hitsincontext/io/XmlCharacterData$Piece" "kind" "Lcom/example/hits_in_context/hitsincontext/io/XmlCharacterData$Kind;" .null := D387 (Or.inr (hw _ (List.mem_of_getElem? (i := 48) rfl))) (ty := (.object "com/example/hits_in_context/hitsincontext/io/XmlCharacterData$Kind")) (by decide)
    have f404 : Fld Z h387 b387 "com/example/hits_in_context/hitsincontext/io/XmlCharacterData$Piece" "source" "Ljava/lang/String;" .null := D387 (Or.inr (hw _ (List.mem_of_getElem? (i := 50) rfl))) (ty := (.object "java/lang/String")) (by decide)
    have f405 : Fld Z h387 b387 "com/example/hits_in_context/hitsincontext/io/XmlCharacterData$Piece" "start" "I" (.int (0 : Int32)) := D387 (Or.inr (hw _ (List.mem_of_getElem? (i := 52) rfl))) (ty := .int) (by decide)
    have f406 : Fld Z h387 b387 "com/example/hits_in_context/hitsincontext/io/XmlCharacterData$Piece" "end" "I" (.int (0 : Int32)) := D387 (Or.inr (hw _ (List.mem_of_getElem? (i := 54) rfl))) (ty := .int) (by decide)
    have f407 : Fld Z h387 b387 "com/example/hits_in_context/hitsincontext/io/XmlCharacterData$Piece" "chars" "Ljava/lang/String;" .null := D387 (Or.inr (hw _ (List.mem_of_getElem? (i := 56) rfl))) (ty := (.object "java/lang/String")) (by decide)
    show G (T387.setTop (mkF me_ 164 #[.val (.int p0), .val (.int p1), .val (.int p2), .val (.int p3), .val (.int p4), .val (.ref b345), .val (.ref b365), .val (.int (p2 &&& (3 : Int32))), .val (.int ((p2 &&& (3 : Int32)) + ((((p2.toUInt32 >>> ((2 : Int32) &&& 31).toUInt32).toInt32) &&& (3 : Int32)) % ((4 : Int32) - (p2 &&& (3 : Int32)))))), .val (.int (0 : Int32)), .val .null, .unset, .unset, .unset] [(.ref b387)]))
    refine gv (fun tQ kQ => XS.dup X387.here hx rfl (hb hby at_164) rfl rfl kQ) ?_
    show G (T387.setTop (mkF me_ 165 #[.val (.int p0), .val (.int p1), .val (.int p2), .val (.int p3), .val (.int p4), .val (.ref b345), .val (.ref b365), .val (.int (p2 &&& (3 : Int32))), .val (.int ((p2 &&& (3 : Int32)) + ((((p2.toUInt32 >>> ((2 : Int32) &&& 31).toUInt32).toInt32) &&& (3 : Int32)) % ((4 : Int32) - (p2 &&& (3 : Int32)))))), .val (.int (0 : Int32)), .val .null, .unset, .unset, .unset] [(.ref b387), (.ref b387)]))
    refine gv (fun tQ kQ => XS.iloadN X387.here hx rfl (hb hby at_165) rfl kQ) ?_
    show G (T387.setTop (mkF me_ 166 #[.val (.int p0), .val (.int p1), .val (.int p2), .val (.int p3), .val (.int p4), .val (.ref b345), .val (.ref b365), .val (.int (p2 &&& (3 : Int32))), .val (.int ((p2 &&& (3 : Int32)) + ((((p2.toUInt32 >>> ((2 : Int32) &&& 31).toUInt32).toInt32) &&& (3 : Int32)) % ((4 : Int32) - (p2 &&& (3 : Int32)))))), .val (.int (0 : Int32)), .val .null, .unset, .unset, .unset] [(.int p0), (.ref b387), (.ref b387)]))
    obtain ⟨_, _, ⟨T408, L408, k408, n408⟩, -, X408, ⟨Lc408, hQ408, l408, y408, z408⟩, st408⟩ := Jvm.LawKit.callS X387 hx (y := (⟨"com/example/hits_in_context/hitsincontext/io/PieceIsLiteralPinLaw", "kind", "(I)Lcom/example/hits_in_context/hitsincontext/io/XmlCharacterData$Kind;"⟩ : MethodName)) hown (mvT hZ (hw _ (List.mem_of_getElem? (i := 36) rfl))) (mvT hZ (hw _ (List.mem_of_getElem? (i := 37) rfl))) (mvT hZ (hw _ (List.mem_of_getElem? (i := 38) rfl))) (mvT hZ (hw _ (List.mem_of_getElem? (i := 39) rfl))) (by decide) (backOf (W := 2) (rm_kind l Z a0 hw [] p0 A_TEXT A_MARKUP A_DECLARATION A_ROOT_TAG A_CDATA_START A_CDATA_END A_ENTITY_START A_ENTITY_END h387 n0 O402 u2 u3 u4 u5 u6 u7 u8 u9) hZ (hw _ (List.mem_of_getElem? (i := 39) rfl)) (hw _ (List.mem_of_getElem? (i := 38) rfl)) (by decide) (by decide)) (g := (mkF me_ 166 #[.val (.int p0), .val (.int p1), .val (.int p2), .val (.int p3), .val (.int p4), .val (.ref b345), .val (.ref b365), .val (.int (p2 &&& (3 : Int32))), .val (.int ((p2 &&& (3 : Int32)) + ((((p2.toUInt32 >>> ((2 : Int32) &&& 31).toUInt32).toInt32) &&& (3 : Int32)) % ((4 : Int32) - (p2 &&& (3 : Int32)))))), .val (.int (0 : Int32)), .val .null, .unset, .unset, .unset] [(.int p0), (.ref b387), (.ref b387)])) rfl (by rw [hml]; rfl) (argsL := [(.int p0)]) (rest := [(.ref b387), (.ref b387)]) (lenOf pd_10 rfl) rfl (by show 2 * 0 + _ ≤ _; exact Nat.le_of_eq rfl) (hb hby at_166) (fun _ _ => ⟨rfl, e387, (by decide : 4 + 0 ≤ _), (by decide : 15 + 0 ≤ _)⟩)
    dsimp only [Pt.U, Pt.locs, Pt.cells, Pt.slots] at X408 l408 y408 z408 st408 hQ408
    subst l408 y408 z408
    obtain ⟨r_408, rfl, Nq408, eq408⟩ := hQ408
    have N409 := Fr.app N376 Nq408
    refine gv st408 ?_
    show G (T408.setTop (mkF me_ 169 #[.val (.int p0), .val (.int p1), .val (.int p2), .val (.int p3), .val (.int p4), .val (.ref b345), .val (.ref b365), .val (.int (p2 &&& (3 : Int32))), .val (.int ((p2 &&& (3 : Int32)) + ((((p2.toUInt32 >>> ((2 : Int32) &&& 31).toUInt32).toInt32) &&& (3 : Int32)) % ((4 : Int32) - (p2 &&& (3 : Int32)))))), .val (.int (0 : Int32)), .val .null, .unset, .unset, .unset] [(.ref r_408), (.ref b387), (.ref b387)]))
    refine gv (fun tQ kQ => XS.aload X408.here hx rfl (hb hby at_169) rfl rfl kQ) ?_
    show G (T408.setTop (mkF me_ 171 #[.val (.int p0), .val (.int p1), .val (.int p2), .val (.int p3), .val (.int p4), .val (.ref b345), .val (.ref b365), .val (.int (p2 &&& (3 : Int32))), .val (.int ((p2 &&& (3 : Int32)) + ((((p2.toUInt32 >>> ((2 : Int32) &&& 31).toUInt32).toInt32) &&& (3 : Int32)) % ((4 : Int32) - (p2 &&& (3 : Int32)))))), .val (.int (0 : Int32)), .val .null, .unset, .unset, .unset] [(.ref b365), (.ref r_408), (.ref b387), (.ref b387)]))
    refine gv (fun tQ kQ => XS.iload X408.here hx rfl (hb hby at_171) rfl kQ) ?_
    show G (T408.setTop (mkF me_ 173 #[.val (.int p0), .val (.int p1), .val (.int p2), .val (.int p3), .val (.int p4), .val (.ref b345), .val (.ref b365), .val (.int (p2 &&& (3 : Int32))), .val (.int ((p2 &&& (3 : Int32)) + ((((p2.toUInt32 >>> ((2 : Int32) &&& 31).toUInt32).toInt32) &&& (3 : Int32)) % ((4 : Int32) - (p2 &&& (3 : Int32)))))), .val (.int (0 : Int32)), .val .null, .unset, .unset, .unset] [(.int (p2 &&& (3 : Int32))), (.ref b365), (.ref r_408), (.ref b387), (.ref b387)]))
    refine gv (fun tQ kQ => XS.iload X408.here hx rfl (hb hby at_173) rfl kQ) ?_
    show G (T408.setTop (mkF me_ 175 #[.val (.int p0), .val (.int p1), .val (.int p2), .val (.int p3), .val (.int p4), .val (.ref b345), .val (.ref b365), .val (.int (p2 &&& (3 : Int32))), .val (.int ((p2 &&& (3 : Int32)) + ((((p2.toUInt32 >>> ((2 : Int32) &&& 31).toUInt32).toInt32) &&& (3 : Int32)) % ((4 : Int32) - (p2 &&& (3 : Int32)))))), .val (.int (0 : Int32)), .val .null, .unset, .unset, .unset] [(.int ((p2 &&& (3 : Int32)) + ((((p2.toUInt32 >>> ((2 : Int32) &&& 31).toUInt32).toInt32) &&& (3 : Int32)) % ((4 : Int32) - (p2 &&& (3 : Int32)))))), (.int (p2 &&& (3 : Int32))), (.ref b365), (.ref r_408), (.ref b387), (.ref b387)]))
    refine gv (fun tQ kQ => XS.aload X408.here hx rfl (hb hby at_175) rfl rfl kQ) ?_
    show G (T408.setTop (mkF me_ 177 #[.val (.int p0), .val (.int p1), .val (.int p2), .val (.int p3), .val (.int p4), .val (.ref b345), .val (.ref b365), .val (.int (p2 &&& (3 : Int32))), .val (.int ((p2 &&& (3 : Int32)) + ((((p2.toUInt32 >>> ((2 : Int32) &&& 31).toUInt32).toInt32) &&& (3 : Int32)) % ((4 : Int32) - (p2 &&& (3 : Int32)))))), .val (.int (0 : Int32)), .val .null, .unset, .unset, .unset] [.null, (.int ((p2 &&& (3 : Int32)) + ((((p2.toUInt32 >>> ((2 : Int32) &&& 31).toUInt32).toInt32) &&& (3 : Int32)) % ((4 : Int32) - (p2 &&& (3 : Int32)))))), (.int (p2 &&& (3 : Int32))), (.ref b365), (.ref r_408), (.ref b387), (.ref b387)]))
    obtain ⟨_, _, ⟨T410, L410, k410, n410⟩, -, X410, ⟨Lc410, hQ410, l410, y410, z410⟩, st410⟩ := X408.specialBack hx (y := (⟨"com/example/hits_in_context/hitsincontext/io/XmlCharacterData$Piece", "<init>", "(Lcom/example/hits_in_context/hitsincontext/io/XmlCharacterData$Kind;Ljava/lang/String;IILjava/lang/String;)V"⟩ : MethodName)) rfl hown (mvT hZ (hw _ (List.mem_of_getElem? (i := 43) rfl))) (mvT hZ (hw _ (List.mem_of_getElem? (i := 44) rfl))) (mvT hZ (hw _ (List.mem_of_getElem? (i := 45) rfl))) (by decide) (backOf (W := 1) (rm_piN l Z a0 hw [] b387 r_408 b365 (p2 &&& (3 : Int32)) ((p2 &&& (3 : Int32)) + ((((p2.toUInt32 >>> ((2 : Int32) &&& 31).toUInt32).toInt32) &&& (3 : Int32)) % ((4 : Int32) - (p2 &&& (3 : Int32))))) h387 n0 O402 A387 f403 f404 f405 f406 f407 g391) hZ (hw _ (List.mem_of_getElem? (i := 45) rfl)) (hw _ (List.mem_of_getElem? (i := 35) rfl)) (by decide) (by decide)) (g := (mkF me_ 177 #[.val (.int p0), .val (.int p1), .val (.int p2), .val (.int p3), .val (.int p4), .val (.ref b345), .val (.ref b365), .val (.int (p2 &&& (3 : Int32))), .val (.int ((p2 &&& (3 : Int32)) + ((((p2.toUInt32 >>> ((2 : Int32) &&& 31).toUInt32).toInt32) &&& (3 : Int32)) % ((4 : Int32) - (p2 &&& (3 : Int32)))))), .val (.int (0 : Int32)), .val .null, .unset, .unset, .unset] [.null, (.int ((p2 &&& (3 : Int32)) + ((((p2.toUInt32 >>> ((2 : Int32) &&& 31).toUInt32).toInt32) &&& (3 : Int32)) % ((4 : Int32) - (p2 &&& (3 : Int32)))))), (.int (p2 &&& (3 : Int32))), (.ref b365), (.ref r_408), (.ref b387), (.ref b387)])) rfl (by rw [hml]; rfl) (Steps.refl _) (a := b387) (argsL := [(.ref r_408), (.ref b365), (.int (p2 &&& (3 : Int32))), (.int ((p2 &&& (3 : Int32)) + ((((p2.toUInt32 >>> ((2 : Int32) &&& 31).toUInt32).toInt32) &&& (3 : Int32)) % ((4 : Int32) - (p2 &&& (3 : Int32)))))), .null]) (rest := [(.ref b387)]) (lenOf pd_11 rfl) rfl (by show 2 * 0 + _ ≤ _; exact Nat.le_of_eq rfl) (hb hby at_177) (fun _ _ => ⟨rfl, eq408, (by decide : 4 + 0 ≤ _), (by decide : 15 + 0 ≤ _)⟩)
    dsimp only [Pt.U, Pt.locs, Pt.cells, Pt.slots] at X410 l410 y410 z410 st410 hQ410
    subst l410 y410 z410
    obtain ⟨rfl, Nq410, Kq410, w410_0, w410_1, w410_2, w410_3⟩ := hQ410
    have N411 := Fr.app N409 Nq410
    obtain ⟨h410, e410⟩ : ∃ z, T410.heap = z := ⟨_, rfl⟩
    rw [e410] at Kq410 w410_0 w410_1 w410_2 w410_3
    have sf412 := Safe.keep Kq410 (sfS (Safe.exa hZ.alike A387 (by decide) (by decide)) sf0) CR.1 sf398
    have sf413 := Safe.keep Kq410 (sfS (Safe.exa hZ.alike A387 (by decide) (by decide)) sf0) CR.1 sf399
    have sf414 := Safe.keep Kq410 (sfS (Safe.exa hZ.alike A387 (by decide) (by decide)) sf0) CR.1 sf400
    have sf415 := Safe.keep Kq410 (sfS (Safe.exa hZ.alike A387 (by decide) (by decide)) sf0) CR.1 sf401
    have CR := CR.trans (CHr.keep Kq410 (sfS (Safe.exa hZ.alike A387 (by decide) (by decide)) sf0) CR.1)
    have hk := Nat.le_trans hk Kq410.1
    have f416 : Arv Z h410 b345 k345 .char (3 : Int32) [(.int ((p1 &&& (255 : Int32)).toUInt32.toUInt16.toUInt32.toInt32)), (.int ((((p1.toUInt32 >>> ((8 : Int32) &&& 31).toUInt32).toInt32) &&& (255 : Int32)).toUInt32.toUInt16.toUInt32.toInt32)), (.int ((((p1.toUInt32 >>> ((16 : Int32) &&& 31).toUInt32).toInt32) &&& (255 : Int32)).toUInt32.toUInt16.toUInt32.toInt32))] (.int (0 : Int32)) := f393.keep Kq410 (ninS ne388 nin0)
    have f417 : Exa Z h410 b365 "java/lang/String" := f394.keep Kq410
    have f418 : Fld Z h410 b365 "java/lang/String" "coder" "B" (.int (0 : Int32)) := f395.keep Kq410 (ninS ne389 nin0)
    have f419 : Fld Z h410 b365 "java/lang/String" "value" "[B" (.ref b_375) := f396.keep Kq410 (ninS ne389 nin0)
    have f420 : Arv Z h410 b_375 k_375 .byte (3 : Int32) [(.int (((p1 &&& (255 : Int32)).toUInt32.toUInt16.toUInt32.toInt32).toInt8.toInt32)), (.int (((((p1.toUInt32 >>> ((8 : Int32) &&& 31).toUInt32).toInt32) &&& (255 : Int32)).toUInt32.toUInt16.toUInt32.toInt32).toInt8.toInt32)), (.int (((((p1.toUInt32 >>> ((16 : Int32) &&& 31).toUInt32).toInt32) &&& (255 : Int32)).toUInt32.toUInt16.toUInt32.toInt32).toInt8.toInt32))] (.int (0 : Int32)) := f397.keep Kq410 (ninS ne390 nin0)
    have f421 : Exa Z h410 b387 "com/example/hits_in_context/hitsincontext/io/XmlCharacterData$Piece" := A387.keep Kq410
    have O422 := O402.keep Kq410 (allS g391 all0)
    refine gv (fun tQ kQ => st410.trans kQ) ?_
    show G (T410.setTop (mkF me_ 180 #[.val (.int p0), .val (.int p1), .val (.int p2), .val (.int p3), .val (.int p4), .val (.ref b345), .val (.ref b365), .val (.int (p2 &&& (3 : Int32))), .val (.int ((p2 &&& (3 : Int32)) + ((((p2.toUInt32 >>> ((2 : Int32) &&& 31).toUInt32).toInt32) &&& (3 : Int32)) % ((4 : Int32) - (p2 &&& (3 : Int32)))))), .val (.int (0 : Int32)), .val .null, .unset, .unset, .unset] [(.ref b387)]))
    refine gv (fun tQ kQ => XS.astore X410.here hx rfl (hb hby at_180) rfl rfl (l' := #[.val (.int p0), .val (.int p1), .val (.int p2), .val (.int p3), .val (.int p4), .val (.ref b345), .val (.ref b365), .val (.int (p2 &&& (3 : Int32))), .val (.int ((p2 &&& (3 : Int32)) + ((((p2.toUInt32 >>> ((2 : Int32) &&& 31).toUInt32).toInt32) &&& (3 : Int32)) % ((4 : Int32) - (p2 &&& (3 : Int32)))))), .val (.int (0 : Int32)), .val .null, .val (.ref b387), .unset, .unset]) rfl kQ) ?_
    show G (T410.setTop (mkF me_ 182 #[.val (.int p0), .val (.int p1), .val (.int p2), .val (.int p3), .val (.int p4), .val (.ref b345), .val (.ref b365), .val (.int (p2 &&& (3 : Int32))), .val (.int ((p2 &&& (3 : Int32)) + ((((p2.toUInt32 >>> ((2 : Int32) &&& 31).toUInt32).toInt32) &&& (3 : Int32)) % ((4 : Int32) - (p2 &&& (3 : Int32)))))), .val (.int (0 : Int32)), .val .null, .val (.ref b387), .unset, .unset] []))
    refine gv (fun tQ kQ => XS.aload X410.here hx rfl (hb hby at_182) rfl rfl kQ) ?_
    show G (T410.setTop (mkF me_ 184 #[.val (.int p0), .val (.int p1), .val (.int p2), .val (.int p3), .val (.int p4), .val (.ref b345), .val (.ref b365), .val (.int (p2 &&& (3 : Int32))), .val (.int ((p2 &&& (3 : Int32)) + ((((p2.toUInt32 >>> ((2 : Int32) &&& 31).toUInt32).toInt32) &&& (3 : Int32)) % ((4 : Int32) - (p2 &&& (3 : Int32)))))), .val (.int (0 : Int32)), .val .null, .val (.ref b387), .unset, .unset] [(.ref b387)]))
    obtain ⟨cq423, kq423, q423a, q423b, q423c⟩ := isOf hZ e410 w410_0
    obtain ⟨_, _, ⟨T423, L423, k423, n423⟩, -, X423, ⟨Lc423, hQ423, l423, y423, z423⟩, st423⟩ := X410.virtualBack hx (y := (⟨"com/example/hits_in_context/hitsincontext/io/XmlCharacterData$Piece", "isLiteral", "()Z"⟩ : MethodName)) (z := (⟨"com/example/hits_in_context/hitsincontext/io/XmlCharacterData$Piece", "isLiteral", "()Z"⟩ : MethodName)) hown (mvT hZ (hw _ (List.mem_of_getElem? (i := 57) rfl))) (mvT hZ (hw _ (List.mem_of_getElem? (i := 58) rfl))) (notFace_of_selects (args := #[]) (mvT hZ (hw _ (List.mem_of_getElem? (i := 60) rfl)))) (mvT hZ (hw _ (List.mem_of_getElem? (i := 60) rfl))) (mvT hZ (hw _ (List.mem_of_getElem? (i := 59) rfl))) (by decide) (backOf (W := 0) (rm_islN l Z a0 hw [] b387 h410 n0 O422 w410_3) hZ (hw _ (List.mem_of_getElem? (i := 61) rfl)) (hw _ (List.mem_of_getElem? (i := 35) rfl)) (by decide) (by decide)) q423a q423c (g := (mkF me_ 184 #[.val (.int p0), .val (.int p1), .val (.int p2), .val (.int p3), .val (.int p4), .val (.ref b345), .val (.ref b365), .val (.int (p2 &&& (3 : Int32))), .val (.int ((p2 &&& (3 : Int32)) + ((((p2.toUInt32 >>> ((2 : Int32) &&& 31).toUInt32).toInt32) &&& (3 : Int32)) % ((4 : Int32) - (p2 &&& (3 : Int32)))))), .val (.int (0 : Int32)), .val .null, .val (.ref b387), .unset, .unset] [(.ref b387)])) rfl (by rw [hml]; rfl) (Steps.refl _) (argsL := []) (rest := []) (lenOf pd_12 rfl) rfl (by show 2 * 0 + _ ≤ _; exact Nat.le_of_eq rfl) (hb hby at_184) (fun _ _ => ⟨rfl, e410, (by decide : 4 + 0 ≤ _), (by decide : 15 + 0 ≤ _)⟩)
    dsimp only [Pt.U, Pt.locs, Pt.cells, Pt.slots] at X423 l423 y423 z423 st423 hQ423
    subst l423 y423 z423
    obtain ⟨rfl, Nq423, eq423⟩ := hQ423
    have N424 := Fr.app N411 Nq423
    refine gv (fun tQ kQ => st423.trans kQ) ?_
    show G (T423.setTop (mkF me_ 187 #[.val (.int p0), .val (.int p1), .val (.int p2), .val (.int p3), .val (.int p4), .val (.ref b345), .val (.ref b365), .val (.int (p2 &&& (3 : Int32))), .val (.int ((p2 &&& (3 : Int32)) + ((((p2.toUInt32 >>> ((2 : Int32) &&& 31).toUInt32).toInt32) &&& (3 : Int32)) % ((4 : Int32) - (p2 &&& (3 : Int32)))))), .val (.int (0 : Int32)), .val .null, .val (.ref b387), .unset, .unset] [(.int (1 : Int32))]))
    refine gv (fun tQ kQ => XS.istore X423.here hx rfl (hb hby at_187) rfl (l' := #[.val (.int p0), .val (.int p1), .val (.int p2), .val (.int p3), .val (.int p4), .val (.ref b345), .val (.ref b365), .val (.int (p2 &&& (3 : Int32))), .val (.int ((p2 &&& (3 : Int32)) + ((((p2.toUInt32 >>> ((2 : Int32) &&& 31).toUInt32).toInt32) &&& (3 : Int32)) % ((4 : Int32) - (p2 &&& (3 : Int32)))))), .val (.int (0 : Int32)), .val .null, .val (.ref b387), .val (.int (1 : Int32)), .unset]) rfl kQ) ?_
    show G (T423.setTop (mkF me_ 189 #[.val (.int p0), .val (.int p1), .val (.int p2), .val (.int p3), .val (.int p4), .val (.ref b345), .val (.ref b365), .val (.int (p2 &&& (3 : Int32))), .val (.int ((p2 &&& (3 : Int32)) + ((((p2.toUInt32 >>> ((2 : Int32) &&& 31).toUInt32).toInt32) &&& (3 : Int32)) % ((4 : Int32) - (p2 &&& (3 : Int32)))))), .val (.int (0 : Int32)), .val .null, .val (.ref b387), .val (.int (1 : Int32)), .unset] []))
    refine gv (fun tQ kQ => XS.iload X423.here hx rfl (hb hby at_189) rfl kQ) ?_
    show G (T423.setTop (mkF me_ 191 #[.val (.int p0), .val (.int p1), .val (.int p2), .val (.int p3), .val (.int p4), .val (.ref b345), .val (.ref b365), .val (.int (p2 &&& (3 : Int32))), .val (.int ((p2 &&& (3 : Int32)) + ((((p2.toUInt32 >>> ((2 : Int32) &&& 31).toUInt32).toInt32) &&& (3 : Int32)) % ((4 : Int32) - (p2 &&& (3 : Int32)))))), .val (.int (0 : Int32)), .val .null, .val (.ref b387), .val (.int (1 : Int32)), .unset] [(.int (1 : Int32))]))
    refine gv (fun tQ kQ => XS.iload X423.here hx rfl (hb hby at_191) rfl kQ) ?_
    show G (T423.setTop (mkF me_ 193 #[.val (.int p0), .val (.int p1), .val (.int p2), .val (.int p3), .val (.int p4), .val (.ref b345), .val (.ref b365), .val (.int (p2 &&& (3 : Int32))), .val (.int ((p2 &&& (3 : Int32)) + ((((p2.toUInt32 >>> ((2 : Int32) &&& 31).toUInt32).toInt32) &&& (3 : Int32)) % ((4 : Int32) - (p2 &&& (3 : Int32)))))), .val (.int (0 : Int32)), .val .null, .val (.ref b387), .val (.int (1 : Int32)), .unset] [(.int (0 : Int32)), (.int (1 : Int32))]))
    refine gv (fun tQ kQ => XS.ifNo X423.here hx rfl (hb hby at_193) rfl ((if0 _ _).trans (teq (by decide : (0 : Int32) = (0 : Int32))).2) kQ) ?_
    show G (T423.setTop (mkF me_ 196 #[.val (.int p0), .val (.int p1), .val (.int p2), .val (.int p3), .val (.int p4), .val (.ref b345), .val (.ref b365), .val (.int (p2 &&& (3 : Int32))), .val (.int ((p2 &&& (3 : Int32)) + ((((p2.toUInt32 >>> ((2 : Int32) &&& 31).toUInt32).toInt32) &&& (3 : Int32)) % ((4 : Int32) - (p2 &&& (3 : Int32)))))), .val (.int (0 : Int32)), .val .null, .val (.ref b387), .val (.int (1 : Int32)), .unset] [(.int (1 : Int32))]))
    refine gv (fun tQ kQ => XS.iconst X423.here hx rfl (hb hby at_196) kQ) ?_
    show G (T423.setTop (mkF me_ 197 #[.val (.int p0), .val (.int p1), .val (.int p2), .val (.int p3), .val (.int p4), .val (.ref b345), .val (.ref b365), .val (.int (p2 &&& (3 : Int32))), .val (.int ((p2 &&& (3 : Int32)) + ((((p2.toUInt32 >>> ((2 : Int32) &&& 31).toUInt32).toInt32) &&& (3 : Int32)) % ((4 : Int32) - (p2 &&& (3 : Int32)))))), .val (.int (0 : Int32)), .val .null, .val (.ref b387), .val (.int (1 : Int32)), .unset] [(.int (1 : Int32)), (.int (1 : Int32))]))
    refine gv (fun tQ kQ => XS.goto X423.here hx rfl (pc0 := 197) (pc' := 201) rfl (hb hby at_197) (by decide) (by decide) kQ) ?_
    show G (T423.setTop (mkF me_ 201 #[.val (.int p0), .val (.int p1), .val (.int p2), .val (.int p3), .val (.int p4), .val (.ref b345), .val (.ref b365), .val (.int (p2 &&& (3 : Int32))), .val (.int ((p2 &&& (3 : Int32)) + ((((p2.toUInt32 >>> ((2 : Int32) &&& 31).toUInt32).toInt32) &&& (3 : Int32)) % ((4 : Int32) - (p2 &&& (3 : Int32)))))), .val (.int (0 : Int32)), .val .null, .val (.ref b387), .val (.int (1 : Int32)), .unset] [(.int (1 : Int32)), (.int (1 : Int32))]))
    refine gv (fun tQ kQ => XS.icmpYes X423.here hx rfl (pc0 := 201) (pc' := 206) rfl (hb hby at_201) rfl (teq (by decide : (1 : Int32) = (1 : Int32))).1 (by decide) (by decide) kQ) ?_
    show G (T423.setTop (mkF me_ 206 #[.val (.int p0), .val (.int p1), .val (.int p2), .val (.int p3), .val (.int p4), .val (.ref b345), .val (.ref b365), .val (.int (p2 &&& (3 : Int32))), .val (.int ((p2 &&& (3 : Int32)) + ((((p2.toUInt32 >>> ((2 : Int32) &&& 31).toUInt32).toInt32) &&& (3 : Int32)) % ((4 : Int32) - (p2 &&& (3 : Int32)))))), .val (.int (0 : Int32)), .val .null, .val (.ref b387), .val (.int (1 : Int32)), .unset] []))
    refine gv (fun tQ kQ => XS.iload X423.here hx rfl (hb hby at_206) rfl kQ) ?_
    show G (T423.setTop (mkF me_ 208 #[.val (.int p0), .val (.int p1), .val (.int p2), .val (.int p3), .val (.int p4), .val (.ref b345), .val (.ref b365), .val (.int (p2 &&& (3 : Int32))), .val (.int ((p2 &&& (3 : Int32)) + ((((p2.toUInt32 >>> ((2 : Int32) &&& 31).toUInt32).toInt32) &&& (3 : Int32)) % ((4 : Int32) - (p2 &&& (3 : Int32)))))), .val (.int (0 : Int32)), .val .null, .val (.ref b387), .val (.int (1 : Int32)), .unset] [(.int (0 : Int32))]))
    refine gv (fun tQ kQ => XS.ifNo X423.here hx rfl (hb hby at_208) rfl ((if0 _ _).trans (teq (by decide : (0 : Int32) = (0 : Int32))).2) kQ) ?_
    show G (T423.setTop (mkF me_ 211 #[.val (.int p0), .val (.int p1), .val (.int p2), .val (.int p3), .val (.int p4), .val (.ref b345), .val (.ref b365), .val (.int (p2 &&& (3 : Int32))), .val (.int ((p2 &&& (3 : Int32)) + ((((p2.toUInt32 >>> ((2 : Int32) &&& 31).toUInt32).toInt32) &&& (3 : Int32)) % ((4 : Int32) - (p2 &&& (3 : Int32)))))), .val (.int (0 : Int32)), .val .null, .val (.ref b387), .val (.int (1 : Int32)), .unset] []))
    refine gv (fun tQ kQ => XS.iload X423.here hx rfl (hb hby at_211) rfl kQ) ?_
    show G (T423.setTop (mkF me_ 213 #[.val (.int p0), .val (.int p1), .val (.int p2), .val (.int p3), .val (.int p4), .val (.ref b345), .val (.ref b365), .val (.int (p2 &&& (3 : Int32))), .val (.int ((p2 &&& (3 : Int32)) + ((((p2.toUInt32 >>> ((2 : Int32) &&& 31).toUInt32).toInt32) &&& (3 : Int32)) % ((4 : Int32) - (p2 &&& (3 : Int32)))))), .val (.int (0 : Int32)), .val .null, .val (.ref b387), .val (.int (1 : Int32)), .unset] [(.int ((p2 &&& (3 : Int32)) + ((((p2.toUInt32 >>> ((2 : Int32) &&& 31).toUInt32).toInt32) &&& (3 : Int32)) % ((4 : Int32) - (p2 &&& (3 : Int32))))))]))
    refine gv (fun tQ kQ => XS.iload X423.here hx rfl (hb hby at_213) rfl kQ) ?_
    show G (T423.setTop (mkF me_ 215 #[.val (.int p0), .val (.int p1), .val (.int p2), .val (.int p3), .val (.int p4), .val (.ref b345), .val (.ref b365), .val (.int (p2 &&& (3 : Int32))), .val (.int ((p2 &&& (3 : Int32)) + ((((p2.toUInt32 >>> ((2 : Int32) &&& 31).toUInt32).toInt32) &&& (3 : Int32)) % ((4 : Int32) - (p2 &&& (3 : Int32)))))), .val (.int (0 : Int32)), .val .null, .val (.ref b387), .val (.int (1 : Int32)), .unset] [(.int (p2 &&& (3 : Int32))), (.int ((p2 &&& (3 : Int32)) + ((((p2.toUInt32 >>> ((2 : Int32) &&& 31).toUInt32).toInt32) &&& (3 : Int32)) % ((4 : Int32) - (p2 &&& (3 : Int32))))))]))
    refine gv (fun tQ kQ => XS.isub X423.here hx rfl (hb hby at_215) rfl kQ) ?_
    show G (T423.setTop (mkF me_ 216 #[.val (.int p0), .val (.int p1), .val (.int p2), .val (.int p3), .val (.int p4), .val (.ref b345), .val (.ref b365), .val (.int (p2 &&& (3 : Int32))), .val (.int ((p2 &&& (3 : Int32)) + ((((p2.toUInt32 >>> ((2 : Int32) &&& 31).toUInt32).toInt32) &&& (3 : Int32)) % ((4 : Int32) - (p2 &&& (3 : Int32)))))), .val (.int (0 : Int32)), .val .null, .val (.ref b387), .val (.int (1 : Int32)), .unset] [(.int (((p2 &&& (3 : Int32)) + ((((p2.toUInt32 >>> ((2 : Int32) &&& 31).toUInt32).toInt32) &&& (3 : Int32)) % ((4 : Int32) - (p2 &&& (3 : Int32))))) - (p2 &&& (3 : Int32))))]))
    refine gv (fun tQ kQ => XS.goto X423.here hx rfl (pc0 := 216) (pc' := 240) rfl (hb hby at_216) (by decide) (by decide) kQ) ?_
    show G (T423.setTop (mkF me_ 240 #[.val (.int p0), .val (.int p1), .val (.int p2), .val (.int p3), .val (.int p4), .val (.ref b345), .val (.ref b365), .val (.int (p2 &&& (3 : Int32))), .val (.int ((p2 &&& (3 : Int32)) + ((((p2.toUInt32 >>> ((2 : Int32) &&& 31).toUInt32).toInt32) &&& (3 : Int32)) % ((4 : Int32) - (p2 &&& (3 : Int32)))))), .val (.int (0 : Int32)), .val .null, .val (.ref b387), .val (.int (1 : Int32)), .unset] [(.int (((p2 &&& (3 : Int32)) + ((((p2.toUInt32 >>> ((2 : Int32) &&& 31).toUInt32).toInt32) &&& (3 : Int32)) % ((4 : Int32) - (p2 &&& (3 : Int32))))) - (p2 &&& (3 : Int32))))]))
    refine gv (fun tQ kQ => XS.istore X423.here hx rfl (hb hby at_240) rfl (l' := #[.val (.int p0), .val (.int p1), .val (.int p2), .val (.int p3), .val (.int p4), .val (.ref b345), .val (.ref b365), .val (.int (p2 &&& (3 : Int32))), .val (.int ((p2 &&& (3 : Int32)) + ((((p2.toUInt32 >>> ((2 : Int32) &&& 31).toUInt32).toInt32) &&& (3 : Int32)) % ((4 : Int32) - (p2 &&& (3 : Int32)))))), .val (.int (0 : Int32)), .val .null, .val (.ref b387), .val (.int (1 : Int32)), .val (.int (((p2 &&& (3 : Int32)) + ((((p2.toUInt32 >>> ((2 : Int32) &&& 31).toUInt32).toInt32) &&& (3 : Int32)) % ((4 : Int32) - (p2 &&& (3 : Int32))))) - (p2 &&& (3 : Int32))))]) rfl kQ) ?_
    show G (T423.setTop (mkF me_ 242 #[.val (.int p0), .val (.int p1), .val (.int p2), .val (.int p3), .val (.int p4), .val (.ref b345), .val (.ref b365), .val (.int (p2 &&& (3 : Int32))), .val (.int ((p2 &&& (3 : Int32)) + ((((p2.toUInt32 >>> ((2 : Int32) &&& 31).toUInt32).toInt32) &&& (3 : Int32)) % ((4 : Int32) - (p2 &&& (3 : Int32)))))), .val (.int (0 : Int32)), .val .null, .val (.ref b387), .val (.int (1 : Int32)), .val (.int (((p2 &&& (3 : Int32)) + ((((p2.toUInt32 >>> ((2 : Int32) &&& 31).toUInt32).toInt32) &&& (3 : Int32)) % ((4 : Int32) - (p2 &&& (3 : Int32))))) - (p2 &&& (3 : Int32))))] []))
    refine gv (fun tQ kQ => XS.aload X423.here hx rfl (hb hby at_242) rfl rfl kQ) ?_
    show G (T423.setTop (mkF me_ 244 #[.val (.int p0), .val (.int p1), .val (.int p2), .val (.int p3), .val (.int p4), .val (.ref b345), .val (.ref b365), .val (.int (p2 &&& (3 : Int32))), .val (.int ((p2 &&& (3 : Int32)) + ((((p2.toUInt32 >>> ((2 : Int32) &&& 31).toUInt32).toInt32) &&& (3 : Int32)) % ((4 : Int32) - (p2 &&& (3 : Int32)))))), .val (.int (0 : Int32)), .val .null, .val (.ref b387), .val (.int (1 : Int32)), .val (.int (((p2 &&& (3 : Int32)) + ((((p2.toUInt32 >>> ((2 : Int32) &&& 31).toUInt32).toInt32) &&& (3 : Int32)) % ((4 : Int32) - (p2 &&& (3 : Int32))))) - (p2 &&& (3 : Int32))))] [(.ref b387)]))
    obtain ⟨cq425, kq425, q425a, q425b, q425c⟩ := isOf hZ eq423 w410_0
    obtain ⟨_, _, ⟨T425, L425, k425, n425⟩, -, X425, ⟨Lc425, hQ425, l425, y425, z425⟩, st425⟩ := X423.virtualBack hx (y := (⟨"com/example/hits_in_context/hitsincontext/io/XmlCharacterData$Piece", "length", "()I"⟩ : MethodName)) (z := (⟨"com/example/hits_in_context/hitsincontext/io/XmlCharacterData$Piece", "length", "()I"⟩ : MethodName)) hown (mvT hZ (hw _ (List.mem_of_getElem? (i := 62) rfl))) (mvT hZ (hw _ (List.mem_of_getElem? (i := 63) rfl))) (notFace_of_selects (args := #[]) (mvT hZ (hw _ (List.mem_of_getElem? (i := 65) rfl)))) (mvT hZ (hw _ (List.mem_of_getElem? (i := 65) rfl))) (mvT hZ (hw _ (List.mem_of_getElem? (i := 64) rfl))) (by decide) (backOf (W := 0) (rm_lenN l Z a0 hw [] b387 (p2 &&& (3 : Int32)) ((p2 &&& (3 : Int32)) + ((((p2.toUInt32 >>> ((2 : Int32) &&& 31).toUInt32).toInt32) &&& (3 : Int32)) % ((4 : Int32) - (p2 &&& (3 : Int32))))) h410 n0 O422 w410_3 w410_1 w410_2) hZ (hw _ (List.mem_of_getElem? (i := 66) rfl)) (hw _ (List.mem_of_getElem? (i := 35) rfl)) (by decide) (by decide)) q425a q425c (g := (mkF me_ 244 #[.val (.int p0), .val (.int p1), .val (.int p2), .val (.int p3), .val (.int p4), .val (.ref b345), .val (.ref b365), .val (.int (p2 &&& (3 : Int32))), .val (.int ((p2 &&& (3 : Int32)) + ((((p2.toUInt32 >>> ((2 : Int32) &&& 31).toUInt32).toInt32) &&& (3 : Int32)) % ((4 : Int32) - (p2 &&& (3 : Int32)))))), .val (.int (0 : Int32)), .val .null, .val (.ref b387), .val (.int (1 : Int32)), .val (.int (((p2 &&& (3 : Int32)) + ((((p2.toUInt32 >>> ((2 : Int32) &&& 31).toUInt32).toInt32) &&& (3 : Int32)) % ((4 : Int32) - (p2 &&& (3 : Int32))))) - (p2 &&& (3 : Int32))))] [(.ref b387)])) rfl (by rw [hml]; rfl) (Steps.refl _) (argsL := []) (rest := []) (lenOf pd_8 rfl) rfl (by show 2 * 0 + _ ≤ _; exact Nat.le_of_eq rfl) (hb hby at_244) (fun _ _ => ⟨rfl, eq423, (by decide : 4 + 0 ≤ _), (by decide : 15 + 0 ≤ _)⟩)
    dsimp only [Pt.U, Pt.locs, Pt.cells, Pt.slots] at X425 l425 y425 z425 st425 hQ425
    subst l425 y425 z425
    obtain ⟨rfl, Nq425, eq425⟩ := hQ425
    have N426 := Fr.app N424 Nq425
    refine gv (fun tQ kQ => st425.trans kQ) ?_
    show G (T425.setTop (mkF me_ 247 #[.val (.int p0), .val (.int p1), .val (.int p2), .val (.int p3), .val (.int p4), .val (.ref b345), .val (.ref b365), .val (.int (p2 &&& (3 : Int32))), .val (.int ((p2 &&& (3 : Int32)) + ((((p2.toUInt32 >>> ((2 : Int32) &&& 31).toUInt32).toInt32) &&& (3 : Int32)) % ((4 : Int32) - (p2 &&& (3 : Int32)))))), .val (.int (0 : Int32)), .val .null, .val (.ref b387), .val (.int (1 : Int32)), .val (.int (((p2 &&& (3 : Int32)) + ((((p2.toUInt32 >>> ((2 : Int32) &&& 31).toUInt32).toInt32) &&& (3 : Int32)) % ((4 : Int32) - (p2 &&& (3 : Int32))))) - (p2 &&& (3 : Int32))))] [(.int (((p2 &&& (3 : Int32)) + ((((p2.toUInt32 >>> ((2 : Int32) &&& 31).toUInt32).toInt32) &&& (3 : Int32)) % ((4 : Int32) - (p2 &&& (3 : Int32))))) - (p2 &&& (3 : Int32))))]))
    refine gv (fun tQ kQ => XS.iload X425.here hx rfl (hb hby at_247) rfl kQ) ?_
    show G (T425.setTop (mkF me_ 249 #[.val (.int p0), .val (.int p1), .val (.int p2), .val (.int p3), .val (.int p4), .val (.ref b345), .val (.ref b365), .val (.int (p2 &&& (3 : Int32))), .val (.int ((p2 &&& (3 : Int32)) + ((((p2.toUInt32 >>> ((2 : Int32) &&& 31).toUInt32).toInt32) &&& (3 : Int32)) % ((4 : Int32) - (p2 &&& (3 : Int32)))))), .val (.int (0 : Int32)), .val .null, .val (.ref b387), .val (.int (1 : Int32)), .val (.int (((p2 &&& (3 : Int32)) + ((((p2.toUInt32 >>> ((2 : Int32) &&& 31).toUInt32).toInt32) &&& (3 : Int32)) % ((4 : Int32) - (p2 &&& (3 : Int32))))) - (p2 &&& (3 : Int32))))] [(.int (((p2 &&& (3 : Int32)) + ((((p2.toUInt32 >>> ((2 : Int32) &&& 31).toUInt32).toInt32) &&& (3 : Int32)) % ((4 : Int32) - (p2 &&& (3 : Int32))))) - (p2 &&& (3 : Int32)))), (.int (((p2 &&& (3 : Int32)) + ((((p2.toUInt32 >>> ((2 : Int32) &&& 31).toUInt32).toInt32) &&& (3 : Int32)) % ((4 : Int32) - (p2 &&& (3 : Int32))))) - (p2 &&& (3 : Int32))))]))
    refine gv (fun tQ kQ => XS.icmpNo X425.here hx rfl (hb hby at_249) rfl (teq (rfl : (((p2 &&& (3 : Int32)) + ((((p2.toUInt32 >>> ((2 : Int32) &&& 31).toUInt32).toInt32) &&& (3 : Int32)) % ((4 : Int32) - (p2 &&& (3 : Int32))))) - (p2 &&& (3 : Int32))) = (((p2 &&& (3 : Int32)) + ((((p2.toUInt32 >>> ((2 : Int32) &&& 31).toUInt32).toInt32) &&& (3 : Int32)) % ((4 : Int32) - (p2 &&& (3 : Int32))))) - (p2 &&& (3 : Int32))))).2 kQ) ?_
    show G (T425.setTop (mkF me_ 252 #[.val (.int p0), .val (.int p1), .val (.int p2), .val (.int p3), .val (.int p4), .val (.ref b345), .val (.ref b365), .val (.int (p2 &&& (3 : Int32))), .val (.int ((p2 &&& (3 : Int32)) + ((((p2.toUInt32 >>> ((2 : Int32) &&& 31).toUInt32).toInt32) &&& (3 : Int32)) % ((4 : Int32) - (p2 &&& (3 : Int32)))))), .val (.int (0 : Int32)), .val .null, .val (.ref b387), .val (.int (1 : Int32)), .val (.int (((p2 &&& (3 : Int32)) + ((((p2.toUInt32 >>> ((2 : Int32) &&& 31).toUInt32).toInt32) &&& (3 : Int32)) % ((4 : Int32) - (p2 &&& (3 : Int32))))) - (p2 &&& (3 : Int32))))] []))
    refine gv (fun tQ kQ => XS.iconst X425.here hx rfl (hb hby at_252) kQ) ?_
    show G (T425.setTop (mkF me_ 253 #[.val (.int p0), .val (.int p1), .val (.int p2), .val (.int p3), .val (.int p4), .val (.ref b345), .val (.ref b365), .val (.int (p2 &&& (3 : Int32))), .val (.int ((p2 &&& (3 : Int32)) + ((((p2.toUInt32 >>> ((2 : Int32) &&& 31).toUInt32).toInt32) &&& (3 : Int32)) % ((4 : Int32) - (p2 &&& (3 : Int32)))))), .val (.int (0 : Int32)), .val .null, .val (.ref b387), .val (.int (1 : Int32)), .val (.int (((p2 &&& (3 : Int32)) + ((((p2.toUInt32 >>> ((2 : Int32) &&& 31).toUInt32).toInt32) &&& (3 : Int32)) % ((4 : Int32) - (p2 &&& (3 : Int32))))) - (p2 &&& (3 : Int32))))] [(.int (1 : Int32))]))
    refine gv (fun tQ kQ => XS.goto X425.here hx rfl (pc0 := 253) (pc' := 257) rfl (hb hby at_253) (by decide) (by decide) kQ) ?_
    show G (T425.setTop (mkF me_ 257 #[.val (.int p0), .val (.int p1), .val (.int p2), .val (.int p3), .val (.int p4), .val (.ref b345), .val (.ref b365), .val (.int (p2 &&& (3 : Int32))), .val (.int ((p2 &&& (3 : Int32)) + ((((p2.toUInt32 >>> ((2 : Int32) &&& 31).toUInt32).toInt32) &&& (3 : Int32)) % ((4 : Int32) - (p2 &&& (3 : Int32)))))), .val (.int (0 : Int32)), .val .null, .val (.ref b387), .val (.int (1 : Int32)), .val (.int (((p2 &&& (3 : Int32)) + ((((p2.toUInt32 >>> ((2 : Int32) &&& 31).toUInt32).toInt32) &&& (3 : Int32)) % ((4 : Int32) - (p2 &&& (3 : Int32))))) - (p2 &&& (3 : Int32))))] [(.int (1 : Int32))]))
    refine gf _ (own_retW X425 Bd.notSynchronized hS (by rw [eq425]; exact hk) (v := some (.int (1 : Int32))) (fun h => by rw [Bd.returns] at h; cases h) ?_ (by decide) (by decide) (by rw [hh, eq425]; exact CR.trans (CHv.at X425 hZ hEL CR.1)) (fun fs hr => retN X425 hx (t := .boolean) Bd.returns (by simp) (hb hby at_257) hr))
    show Q0 Z p0 p1 p2 p3 p4 cs A_TEXT A_MARKUP A_DECLARATION A_ROOT_TAG A_CDATA_START A_CDATA_END A_ENTITY_START A_ENTITY_END h0 n0 _ T425.heap _
    rw [eq425]
    exact ⟨rfl, N426⟩
  · rw [q]
    show G (T375.setTop (mkF me_ 75 #[.val (.int p0), .val (.int p1), .val (.int p2), .val (.int p3), .val (.int p4), .val (.ref b345), .val (.ref b365), .val (.int (p2 &&& (3 : Int32))), .val (.int ((p2 &&& (3 : Int32)) + ((((p2.toUInt32 >>> ((2 : Int32) &&& 31).toUInt32).toInt32) &&& (3 : Int32)) % ((4 : Int32) - (p2 &&& (3 : Int32)))))), .unset, .unset, .unset, .unset, .unset] [(.int (1 : Int32))]))
    refine gv (fun tQ kQ => XS.istore X375.here hx rfl (hb hby at_75) rfl (l' := #[.val (.int p0), .val (.int p1), .val (.int p2), .val (.int p3), .val (.int p4), .val (.ref b345), .val (.ref b365), .val (.int (p2 &&& (3 : Int32))), .val (.int ((p2 &&& (3 : Int32)) + ((((p2.toUInt32 >>> ((2 : Int32) &&& 31).toUInt32).toInt32) &&& (3 : Int32)) % ((4 : Int32) - (p2 &&& (3 : Int32)))))), .val (.int (1 : Int32)), .unset, .unset, .unset, .unset]) rfl kQ) ?_
    show G (T375.setTop (mkF me_ 77 #[.val (.int p0), .val (.int p1), .val (.int p2), .val (.int p3), .val (.int p4), .val (.ref b345), .val (.ref b365), .val (.int (p2 &&& (3 : Int32))), .val (.int ((p2 &&& (3 : Int32)) + ((((p2.toUInt32 >>> ((2 : Int32) &&& 31).toUInt32).toInt32) &&& (3 : Int32)) % ((4 : Int32) - (p2 &&& (3 : Int32)))))), .val (.int (1 : Int32)), .unset, .unset, .unset, .unset] []))
    refine gv (fun tQ kQ => XS.aconstNull X375.here hx rfl (hb hby at_77) kQ) ?_
    show G (T375.setTop (mkF me_ 78 #[.val (.int p0), .val (.int p1), .val (.int p2), .val (.int p3), .val (.int p4), .val (.ref b345), .val (.ref b365), .val (.int (p2 &&& (3 : Int32))), .val (.int ((p2 &&& (3 : Int32)) + ((((p2.toUInt32 >>> ((2 : Int32) &&& 31).toUInt32).toInt32) &&& (3 : Int32)) % ((4 : Int32) - (p2 &&& (3 : Int32)))))), .val (.int (1 : Int32)), .unset, .unset, .unset, .unset] [.null]))
    refine gv (fun tQ kQ => XS.astore X375.here hx rfl (hb hby at_78) rfl rfl (l' := #[.val (.int p0), .val (.int p1), .val (.int p2), .val (.int p3), .val (.int p4), .val (.ref b345), .val (.ref b365), .val (.int (p2 &&& (3 : Int32))), .val (.int ((p2 &&& (3 : Int32)) + ((((p2.toUInt32 >>> ((2 : Int32) &&& 31).toUInt32).toInt32) &&& (3 : Int32)) % ((4 : Int32) - (p2 &&& (3 : Int32)))))), .val (.int (1 : Int32)), .val .null, .unset, .unset, .unset]) rfl kQ) ?_
    show G (T375.setTop (mkF me_ 80 #[.val (.int p0), .val (.int p1), .val (.int p2), .val (.int p3), .val (.int p4), .val (.ref b345), .val (.ref b365), .val (.int (p2 &&& (3 : Int32))), .val (.int ((p2 &&& (3 : Int32)) + ((((p2.toUInt32 >>> ((2 : Int32) &&& 31).toUInt32).toInt32) &&& (3 : Int32)) % ((4 : Int32) - (p2 &&& (3 : Int32)))))), .val (.int (1 : Int32)), .val .null, .unset, .unset, .unset] []))
    refine gv (fun tQ kQ => XS.iload X375.here hx rfl (hb hby at_80) rfl kQ) ?_
    show G (T375.setTop (mkF me_ 82 #[.val (.int p0), .val (.int p1), .val (.int p2), .val (.int p3), .val (.int p4), .val (.ref b345), .val (.ref b365), .val (.int (p2 &&& (3 : Int32))), .val (.int ((p2 &&& (3 : Int32)) + ((((p2.toUInt32 >>> ((2 : Int32) &&& 31).toUInt32).toInt32) &&& (3 : Int32)) % ((4 : Int32) - (p2 &&& (3 : Int32)))))), .val (.int (1 : Int32)), .val .null, .unset, .unset, .unset] [(.int (1 : Int32))]))
    refine gv (fun tQ kQ => XS.iconst X375.here hx rfl (hb hby at_82) kQ) ?_
    show G (T375.setTop (mkF me_ 83 #[.val (.int p0), .val (.int p1), .val (.int p2), .val (.int p3), .val (.int p4), .val (.ref b345), .val (.ref b365), .val (.int (p2 &&& (3 : Int32))), .val (.int ((p2 &&& (3 : Int32)) + ((((p2.toUInt32 >>> ((2 : Int32) &&& 31).toUInt32).toInt32) &&& (3 : Int32)) % ((4 : Int32) - (p2 &&& (3 : Int32)))))), .val (.int (1 : Int32)), .val .null, .unset, .unset, .unset] [(.int (1 : Int32)), (.int (1 : Int32))]))
    refine gv (fun tQ kQ => XS.icmpNo X375.here hx rfl (hb hby at_83) rfl (teq (by decide : (1 : Int32) = (1 : Int32))).2 kQ) ?_
    show G (T375.setTop (mkF me_ 86 #[.val (.int p0), .val (.int p1), .val (.int p2), .val (.int p3), .val (.int p4), .val (.ref b345), .val (.ref b365), .val (.int (p2 &&& (3 : Int32))), .val (.int ((p2 &&& (3 : Int32)) + ((((p2.toUInt32 >>> ((2 : Int32) &&& 31).toUInt32).toInt32) &&& (3 : Int32)) % ((4 : Int32) - (p2 &&& (3 : Int32)))))), .val (.int (1 : Int32)), .val .null, .unset, .unset, .unset] []))
    obtain ⟨a427, T427, h427, k427, b427, kc427, X427, e427, E427, hS, hk, hZ, hown, ES427, FC427, FV427, AV427, -, -, CRn427, L427, sn427, st427⟩ := ldcCH X375 hx hZ hown (hw _ (List.mem_of_getElem? (i := 30) rfl)) wS e375 hS hk hEL (List.mem_of_getElem? (i := 0) rfl) CR.1 (vs := []) (z := (0 : Int32)) ⟨by decide, by decide⟩ (by decide) (by decide) (g := (mkF me_ 86 #[.val (.int p0), .val (.int p1), .val (.int p2), .val (.int p3), .val (.int p4), .val (.ref b345), .val (.ref b365), .val (.int (p2 &&& (3 : Int32))), .val (.int ((p2 &&& (3 : Int32)) + ((((p2.toUInt32 >>> ((2 : Int32) &&& 31).toUInt32).toInt32) &&& (3 : Int32)) % ((4 : Int32) - (p2 &&& (3 : Int32)))))), .val (.int (1 : Int32)), .val .null, .unset, .unset, .unset] [])) rfl (hb hby at_86) (n := 0) (by decide) (by decide) (by decide) (by decide)
    refine gv st427 ?_
    have sf428 := CRn427.safe f384.lt sf377
    have sf429 := CRn427.safe w375_1.lt sf378
    have sf430 := CRn427.safe w375_4.lt sf383
    have f431 : Arv Z h427 b345 k345 .char (3 : Int32) [(.int ((p1 &&& (255 : Int32)).toUInt32.toUInt16.toUInt32.toInt32)), (.int ((((p1.toUInt32 >>> ((8 : Int32) &&& 31).toUInt32).toInt32) &&& (255 : Int32)).toUInt32.toUInt16.toUInt32.toInt32)), (.int ((((p1.toUInt32 >>> ((16 : Int32) &&& 31).toUInt32).toInt32) &&& (255 : Int32)).toUInt32.toUInt16.toUInt32.toInt32))] (.int (0 : Int32)) := f384.ext E427
    have f432 : Exa Z h427 b365 "java/lang/String" := w375_1.ext E427
    have f433 : Fld Z h427 b365 "java/lang/String" "coder" "B" (.int (0 : Int32)) := w375_2.ext E427
    have f434 : Fld Z h427 b365 "java/lang/String" "value" "[B" (.ref b_375) := w375_3.ext E427
    have f435 : Arv Z h427 b_375 k_375 .byte (3 : Int32) [(.int (((p1 &&& (255 : Int32)).toUInt32.toUInt16.toUInt32.toInt32).toInt8.toInt32)), (.int (((((p1.toUInt32 >>> ((8 : Int32) &&& 31).toUInt32).toInt32) &&& (255 : Int32)).toUInt32.toUInt16.toUInt32.toInt32).toInt8.toInt32)), (.int (((((p1.toUInt32 >>> ((16 : Int32) &&& 31).toUInt32).toInt32) &&& (255 : Int32)).toUInt32.toUInt16.toUInt32.toInt32).toInt8.toInt32))] (.int (0 : Int32)) := w375_4.ext E427
    have O436 := O386.ext E427
    have CR := CR.trans CRn427
    have ne437 : b345 ≠ a427 := (sn427 b345 sf428).1
    have ne438 : b345 ≠ b427 := (sn427 b345 sf428).2
    have ne439 : b365 ≠ a427 := (sn427 b365 sf429).1
    have ne440 : b365 ≠ b427 := (sn427 b365 sf429).2
    have ne441 : b_375 ≠ a427 := (sn427 b_375 sf430).1
    have ne442 : b_375 ≠ b427 := (sn427 b_375 sf430).2
    show G (T427.setTop (mkF me_ 88 #[.val (.int p0), .val (.int p1), .val (.int p2), .val (.int p3), .val (.int p4), .val (.ref b345), .val (.ref b365), .val (.int (p2 &&& (3 : Int32))), .val (.int ((p2 &&& (3 : Int32)) + ((((p2.toUInt32 >>> ((2 : Int32) &&& 31).toUInt32).toInt32) &&& (3 : Int32)) % ((4 : Int32) - (p2 &&& (3 : Int32)))))), .val (.int (1 : Int32)), .val .null, .unset, .unset, .unset] [(.ref a427)]))
    refine gv (fun tQ kQ => XS.astore X427.here hx rfl (hb hby at_88) rfl rfl (l' := #[.val (.int p0), .val (.int p1), .val (.int p2), .val (.int p3), .val (.int p4), .val (.ref b345), .val (.ref b365), .val (.int (p2 &&& (3 : Int32))), .val (.int ((p2 &&& (3 : Int32)) + ((((p2.toUInt32 >>> ((2 : Int32) &&& 31).toUInt32).toInt32) &&& (3 : Int32)) % ((4 : Int32) - (p2 &&& (3 : Int32)))))), .val (.int (1 : Int32)), .val (.ref a427), .unset, .unset, .unset]) rfl kQ) ?_
    show G (T427.setTop (mkF me_ 90 #[.val (.int p0), .val (.int p1), .val (.int p2), .val (.int p3), .val (.int p4), .val (.ref b345), .val (.ref b365), .val (.int (p2 &&& (3 : Int32))), .val (.int ((p2 &&& (3 : Int32)) + ((((p2.toUInt32 >>> ((2 : Int32) &&& 31).toUInt32).toInt32) &&& (3 : Int32)) % ((4 : Int32) - (p2 &&& (3 : Int32)))))), .val (.int (1 : Int32)), .val (.ref a427), .unset, .unset, .unset] []))
    refine gv (fun tQ kQ => XS.goto X427.here hx rfl (pc0 := 90) (pc' := 161) rfl (hb hby at_90) (by decide) (by decide) kQ) ?_
    show G (T427.setTop (mkF me_ 161 #[.val (.int p0), .val (.int p1), .val (.int p2), .val (.int p3), .val (.int p4), .val (.ref b345), .val (.ref b365), .val (.int (p2 &&& (3 : Int32))), .val (.int ((p2 &&& (3 : Int32)) + ((((p2.toUInt32 >>> ((2 : Int32) &&& 31).toUInt32).toInt32) &&& (3 : Int32)) % ((4 : Int32) - (p2 &&& (3 : Int32)))))), .val (.int (1 : Int32)), .val (.ref a427), .unset, .unset, .unset] []))
    obtain ⟨T443, h443, X443, e443, E443, A443, D443, -, st443⟩ := newO X427 hx hZ hown (hw _ (List.mem_of_getElem? (i := 33) rfl)) (hw _ (List.mem_of_getElem? (i := 34) rfl)) (hw _ (List.mem_of_getElem? (i := 35) rfl)) e427 (g := (mkF me_ 161 #[.val (.int p0), .val (.int p1), .val (.int p2), .val (.int p3), .val (.int p4), .val (.ref b345), .val (.ref b365), .val (.int (p2 &&& (3 : Int32))), .val (.int ((p2 &&& (3 : Int32)) + ((((p2.toUInt32 >>> ((2 : Int32) &&& 31).toUInt32).toInt32) &&& (3 : Int32)) % ((4 : Int32) - (p2 &&& (3 : Int32)))))), .val (.int (1 : Int32)), .val (.ref a427), .unset, .unset, .unset] [])) rfl (hb hby at_161) (by decide) (by decide)
    obtain ⟨b443, g443⟩ : ∃ z, z = h427.size := ⟨_, rfl⟩
    rw [← g443] at A443 D443 st443
    refine gv st443 ?_
    have ne444 : b345 ≠ b443 := Nat.ne_of_lt (Nat.lt_of_lt_of_le f431.lt (Nat.le_of_eq g443.symm))
    have ne445 : b365 ≠ b443 := Nat.ne_of_lt (Nat.lt_of_lt_of_le f432.lt (Nat.le_of_eq g443.symm))
    have ne446 : b_375 ≠ b443 := Nat.ne_of_lt (Nat.lt_of_lt_of_le f435.lt (Nat.le_of_eq g443.symm))
    have ne447 : a427 ≠ b443 := Nat.ne_of_lt (Nat.lt_of_lt_of_le ES427.lt (Nat.le_of_eq g443.symm))
    have ne448 : b427 ≠ b443 := Nat.ne_of_lt (Nat.lt_of_lt_of_le AV427.lt (Nat.le_of_eq g443.symm))
    have g449 : n0 ≤ b443 := Nat.le_trans (own_old O436) (Nat.le_of_eq g443.symm)
    have sf450 : Safe Z own_EL T427.vm h427 b443 := Safe.new (Nat.le_of_eq g443.symm)
    have f451 : Arv Z h443 b345 k345 .char (3 : Int32) [(.int ((p1 &&& (255 : Int32)).toUInt32.toUInt16.toUInt32.toInt32)), (.int ((((p1.toUInt32 >>> ((8 : Int32) &&& 31).toUInt32).toInt32) &&& (255 : Int32)).toUInt32.toUInt16.toUInt32.toInt32)), (.int ((((p1.toUInt32 >>> ((16 : Int32) &&& 31).toUInt32).toInt32) &&& (255 : Int32)).toUInt32.toUInt16.toUInt32.toInt32))] (.int (0 : Int32)) := f431.ext E443
    have f452 : Exa Z h443 b365 "java/lang/String" := f432.ext E443
    have f453 : Fld Z h443 b365 "java/lang/String" "coder" "B" (.int (0 : Int32)) := f433.ext E443
    have f454 : Fld Z h443 b365 "java/lang/String" "value" "[B" (.ref b_375) := f434.ext E443
    have f455 : Arv Z h443 b_375 k_375 .byte (3 : Int32) [(.int (((p1 &&& (255 : Int32)).toUInt32.toUInt16.toUInt32.toInt32).toInt8.toInt32)), (.int (((((p1.toUInt32 >>> ((8 : Int32) &&& 31).toUInt32).toInt32) &&& (255 : Int32)).toUInt32.toUInt16.toUInt32.toInt32).toInt8.toInt32)), (.int (((((p1.toUInt32 >>> ((16 : Int32) &&& 31).toUInt32).toInt32) &&& (255 : Int32)).toUInt32.toUInt16.toUInt32.toInt32).toInt8.toInt32))] (.int (0 : Int32)) := f435.ext E443
    have f456 : Exa Z h443 a427 "java/lang/String" := ES427.ext E443
    have f457 : Fld Z h443 a427 "java/lang/String" "coder" "B" (.int (0 : Int32)) := FC427.ext E443
    have f458 : Fld Z h443 a427 "java/lang/String" "value" "[B" (.ref b427) := FV427.ext E443
    have f459 : Arv Z h443 b427 kc427 .byte (0 : Int32) [] (.int (0 : Int32)) := AV427.ext E443
    have sf460 := Safe.ext E443 CR.1 sf428
    have sf461 := Safe.ext E443 CR.1 sf429
    have sf462 := Safe.ext E443 CR.1 sf430
    have sf463 := Safe.ext E443 CR.1 sf450
    have CR := CR.trans (CHr.ext E443 CR.1)
    have hk := Nat.le_trans hk E443.1
    have O464 := O436.ext E443
    have f465 : Fld Z h443 b443 "com/example/hits_in_context/hitsincontext/io/XmlCharacterData$Piece" "kind" "Lcom/example/hits_in_context/hitsincontext/io/XmlCharacterData$Kind;" .null := D443 (Or.inr (hw _ (List.mem_of_getElem? (i := 48) rfl))) (ty := (.object "com/example/hits_in_context/hitsincontext/io/XmlCharacterData$Kind")) (by decide)
    have f466 : Fld Z h443 b443 "com/example/hits_in_context/hitsincontext/io/XmlCharacterData$Piece" "source" "Ljava/lang/String;" .null := D443 (Or.inr (hw _ (List.mem_of_getElem? (i := 50) rfl))) (ty := (.object "java/lang/String")) (by decide)
    have f467 : Fld Z h443 b443 "com/example/hits_in_context/hitsincontext/io/XmlCharacterData$Piece" "start" "I" (.int (0 : Int32)) := D443 (Or.inr (hw _ (List.mem_of_getElem? (i := 52) rfl))) (ty := .int) (by decide)
    have f468 : Fld Z h443 b443 "com/example/hits_in_context/hitsincontext/io/XmlCharacterData$Piece" "end" "I" (.int (0 : Int32)) := D443 (Or.inr (hw _ (List.mem_of_getElem? (i := 54) rfl))) (ty := .int) (by decide)
    have f469 : Fld Z h443 b443 "com/example/hits_in_context/hitsincontext/io/XmlCharacterData$Piece" "chars" "Ljava/lang/String;" .null := D443 (Or.inr (hw _ (List.mem_of_getElem? (i := 56) rfl))) (ty := (.object "java/lang/String")) (by decide)
    show G (T443.setTop (mkF me_ 164 #[.val (.int p0), .val (.int p1), .val (.int p2), .val (.int p3), .val (.int p4), .val (.ref b345), .val (.ref b365), .val (.int (p2 &&& (3 : Int32))), .val (.int ((p2 &&& (3 : Int32)) + ((((p2.toUInt32 >>> ((2 : Int32) &&& 31).toUInt32).toInt32) &&& (3 : Int32)) % ((4 : Int32) - (p2 &&& (3 : Int32)))))), .val (.int (1 : Int32)), .val (.ref a427), .unset, .unset, .unset] [(.ref b443)]))
    refine gv (fun tQ kQ => XS.dup X443.here hx rfl (hb hby at_164) rfl rfl kQ) ?_
    show G (T443.setTop (mkF me_ 165 #[.val (.int p0), .val (.int p1), .val (.int p2), .val (.int p3), .val (.int p4), .val (.ref b345), .val (.ref b365), .val (.int (p2 &&& (3 : Int32))), .val (.int ((p2 &&& (3 : Int32)) + ((((p2.toUInt32 >>> ((2 : Int32) &&& 31).toUInt32).toInt32) &&& (3 : Int32)) % ((4 : Int32) - (p2 &&& (3 : Int32)))))), .val (.int (1 : Int32)), .val (.ref a427), .unset, .unset, .unset] [(.ref b443), (.ref b443)]))
    refine gv (fun tQ kQ => XS.iloadN X443.here hx rfl (hb hby at_165) rfl kQ) ?_
    show G (T443.setTop (mkF me_ 166 #[.val (.int p0), .val (.int p1), .val (.int p2), .val (.int p3), .val (.int p4), .val (.ref b345), .val (.ref b365), .val (.int (p2 &&& (3 : Int32))), .val (.int ((p2 &&& (3 : Int32)) + ((((p2.toUInt32 >>> ((2 : Int32) &&& 31).toUInt32).toInt32) &&& (3 : Int32)) % ((4 : Int32) - (p2 &&& (3 : Int32)))))), .val (.int (1 : Int32)), .val (.ref a427), .unset, .unset, .unset] [(.int p0), (.ref b443), (.ref b443)]))
    obtain ⟨_, _, ⟨T470, L470, k470, n470⟩, -, X470, ⟨Lc470, hQ470, l470, y470, z470⟩, st470⟩ := Jvm.LawKit.callS X443 hx (y := (⟨"com/example/hits_in_context/hitsincontext/io/PieceIsLiteralPinLaw", "kind", "(I)Lcom/example/hits_in_context/hitsincontext/io/XmlCharacterData$Kind;"⟩ : MethodName)) hown (mvT hZ (hw _ (List.mem_of_getElem? (i := 36) rfl))) (mvT hZ (hw _ (List.mem_of_getElem? (i := 37) rfl))) (mvT hZ (hw _ (List.mem_of_getElem? (i := 38) rfl))) (mvT hZ (hw _ (List.mem_of_getElem? (i := 39) rfl))) (by decide) (backOf (W := 2) (rm_kind l Z a0 hw [] p0 A_TEXT A_MARKUP A_DECLARATION A_ROOT_TAG A_CDATA_START A_CDATA_END A_ENTITY_START A_ENTITY_END h443 n0 O464 u2 u3 u4 u5 u6 u7 u8 u9) hZ (hw _ (List.mem_of_getElem? (i := 39) rfl)) (hw _ (List.mem_of_getElem? (i := 38) rfl)) (by decide) (by decide)) (g := (mkF me_ 166 #[.val (.int p0), .val (.int p1), .val (.int p2), .val (.int p3), .val (.int p4), .val (.ref b345), .val (.ref b365), .val (.int (p2 &&& (3 : Int32))), .val (.int ((p2 &&& (3 : Int32)) + ((((p2.toUInt32 >>> ((2 : Int32) &&& 31).toUInt32).toInt32) &&& (3 : Int32)) % ((4 : Int32) - (p2 &&& (3 : Int32)))))), .val (.int (1 : Int32)), .val (.ref a427), .unset, .unset, .unset] [(.int p0), (.ref b443), (.ref b443)])) rfl (by rw [hml]; rfl) (argsL := [(.int p0)]) (rest := [(.ref b443), (.ref b443)]) (lenOf pd_10 rfl) rfl (by show 2 * 0 + _ ≤ _; exact Nat.le_of_eq rfl) (hb hby at_166) (fun _ _ => ⟨rfl, e443, (by decide : 6 + 0 ≤ _), (by decide : 19 + 0 ≤ _)⟩)
    dsimp only [Pt.U, Pt.locs, Pt.cells, Pt.slots] at X470 l470 y470 z470 st470 hQ470
    subst l470 y470 z470
    obtain ⟨r_470, rfl, Nq470, eq470⟩ := hQ470
    have N471 := Fr.app N376 Nq470
    refine gv st470 ?_
    show G (T470.setTop (mkF me_ 169 #[.val (.int p0), .val (.int p1), .val (.int p2), .val (.int p3), .val (.int p4), .val (.ref b345), .val (.ref b365), .val (.int (p2 &&& (3 : Int32))), .val (.int ((p2 &&& (3 : Int32)) + ((((p2.toUInt32 >>> ((2 : Int32) &&& 31).toUInt32).toInt32) &&& (3 : Int32)) % ((4 : Int32) - (p2 &&& (3 : Int32)))))), .val (.int (1 : Int32)), .val (.ref a427), .unset, .unset, .unset] [(.ref r_470), (.ref b443), (.ref b443)]))
    refine gv (fun tQ kQ => XS.aload X470.here hx rfl (hb hby at_169) rfl rfl kQ) ?_
    show G (T470.setTop (mkF me_ 171 #[.val (.int p0), .val (.int p1), .val (.int p2), .val (.int p3), .val (.int p4), .val (.ref b345), .val (.ref b365), .val (.int (p2 &&& (3 : Int32))), .val (.int ((p2 &&& (3 : Int32)) + ((((p2.toUInt32 >>> ((2 : Int32) &&& 31).toUInt32).toInt32) &&& (3 : Int32)) % ((4 : Int32) - (p2 &&& (3 : Int32)))))), .val (.int (1 : Int32)), .val (.ref a427), .unset, .unset, .unset] [(.ref b365), (.ref r_470), (.ref b443), (.ref b443)]))
    refine gv (fun tQ kQ => XS.iload X470.here hx rfl (hb hby at_171) rfl kQ) ?_
    show G (T470.setTop (mkF me_ 173 #[.val (.int p0), .val (.int p1), .val (.int p2), .val (.int p3), .val (.int p4), .val (.ref b345), .val (.ref b365), .val (.int (p2 &&& (3 : Int32))), .val (.int ((p2 &&& (3 : Int32)) + ((((p2.toUInt32 >>> ((2 : Int32) &&& 31).toUInt32).toInt32) &&& (3 : Int32)) % ((4 : Int32) - (p2 &&& (3 : Int32)))))), .val (.int (1 : Int32)), .val (.ref a427), .unset, .unset, .unset] [(.int (p2 &&& (3 : Int32))), (.ref b365), (.ref r_470), (.ref b443), (.ref b443)]))
    refine gv (fun tQ kQ => XS.iload X470.here hx rfl (hb hby at_173) rfl kQ) ?_
    show G (T470.setTop (mkF me_ 175 #[.val (.int p0), .val (.int p1), .val (.int p2), .val (.int p3), .val (.int p4), .val (.ref b345), .val (.ref b365), .val (.int (p2 &&& (3 : Int32))), .val (.int ((p2 &&& (3 : Int32)) + ((((p2.toUInt32 >>> ((2 : Int32) &&& 31).toUInt32).toInt32) &&& (3 : Int32)) % ((4 : Int32) - (p2 &&& (3 : Int32)))))), .val (.int (1 : Int32)), .val (.ref a427), .unset, .unset, .unset] [(.int ((p2 &&& (3 : Int32)) + ((((p2.toUInt32 >>> ((2 : Int32) &&& 31).toUInt32).toInt32) &&& (3 : Int32)) % ((4 : Int32) - (p2 &&& (3 : Int32)))))), (.int (p2 &&& (3 : Int32))), (.ref b365), (.ref r_470), (.ref b443), (.ref b443)]))
    refine gv (fun tQ kQ => XS.aload X470.here hx rfl (hb hby at_175) rfl rfl kQ) ?_
    show G (T470.setTop (mkF me_ 177 #[.val (.int p0), .val (.int p1), .val (.int p2), .val (.int p3), .val (.int p4), .val (.ref b345), .val (.ref b365), .val (.int (p2 &&& (3 : Int32))), .val (.int ((p2 &&& (3 : Int32)) + ((((p2.toUInt32 >>> ((2 : Int32) &&& 31).toUInt32).toInt32) &&& (3 : Int32)) % ((4 : Int32) - (p2 &&& (3 : Int32)))))), .val (.int (1 : Int32)), .val (.ref a427), .unset, .unset, .unset] [(.ref a427), (.int ((p2 &&& (3 : Int32)) + ((((p2.toUInt32 >>> ((2 : Int32) &&& 31).toUInt32).toInt32) &&& (3 : Int32)) % ((4 : Int32) - (p2 &&& (3 : Int32)))))), (.int (p2 &&& (3 : Int32))), (.ref b365), (.ref r_470), (.ref b443), (.ref b443)]))
    obtain ⟨_, _, ⟨T472, L472, k472, n472⟩, -, X472, ⟨Lc472, hQ472, l472, y472, z472⟩, st472⟩ := X470.specialBack hx (y := (⟨"com/example/hits_in_context/hitsincontext/io/XmlCharacterData$Piece", "<init>", "(Lcom/example/hits_in_context/hitsincontext/io/XmlCharacterData$Kind;Ljava/lang/String;IILjava/lang/String;)V"⟩ : MethodName)) rfl hown (mvT hZ (hw _ (List.mem_of_getElem? (i := 43) rfl))) (mvT hZ (hw _ (List.mem_of_getElem? (i := 44) rfl))) (mvT hZ (hw _ (List.mem_of_getElem? (i := 45) rfl))) (by decide) (backOf (W := 1) (rm_piR l Z a0 hw [] b443 r_470 b365 (p2 &&& (3 : Int32)) ((p2 &&& (3 : Int32)) + ((((p2.toUInt32 >>> ((2 : Int32) &&& 31).toUInt32).toInt32) &&& (3 : Int32)) % ((4 : Int32) - (p2 &&& (3 : Int32))))) a427 h443 n0 O464 A443 f465 f466 f467 f468 f469 g449) hZ (hw _ (List.mem_of_getElem? (i := 45) rfl)) (hw _ (List.mem_of_getElem? (i := 35) rfl)) (by decide) (by decide)) (g := (mkF me_ 177 #[.val (.int p0), .val (.int p1), .val (.int p2), .val (.int p3), .val (.int p4), .val (.ref b345), .val (.ref b365), .val (.int (p2 &&& (3 : Int32))), .val (.int ((p2 &&& (3 : Int32)) + ((((p2.toUInt32 >>> ((2 : Int32) &&& 31).toUInt32).toInt32) &&& (3 : Int32)) % ((4 : Int32) - (p2 &&& (3 : Int32)))))), .val (.int (1 : Int32)), .val (.ref a427), .unset, .unset, .unset] [(.ref a427), (.int ((p2 &&& (3 : Int32)) + ((((p2.toUInt32 >>> ((2 : Int32) &&& 31).toUInt32).toInt32) &&& (3 : Int32)) % ((4 : Int32) - (p2 &&& (3 : Int32)))))), (.int (p2 &&& (3 : Int32))), (.ref b365), (.ref r_470), (.ref b443), (.ref b443)])) rfl (by rw [hml]; rfl) (Steps.refl _) (a := b443) (argsL := [(.ref r_470), (.ref b365), (.int (p2 &&& (3 : Int32))), (.int ((p2 &&& (3 : Int32)) + ((((p2.toUInt32 >>> ((2 : Int32) &&& 31).toUInt32).toInt32) &&& (3 : Int32)) % ((4 : Int32) - (p2 &&& (3 : Int32)))))), (.ref a427)]) (rest := [(.ref b443)]) (lenOf pd_11 rfl) rfl (by show 2 * 0 + _ ≤ _; exact Nat.le_of_eq rfl) (hb hby at_177) (fun _ _ => ⟨rfl, eq470, (by decide : 6 + 0 ≤ _), (by decide : 19 + 0 ≤ _)⟩)
    dsimp only [Pt.U, Pt.locs, Pt.cells, Pt.slots] at X472 l472 y472 z472 st472 hQ472
    subst l472 y472 z472
    obtain ⟨rfl, Nq472, Kq472, w472_0, w472_1, w472_2, w472_3⟩ := hQ472
    have N473 := Fr.app N471 Nq472
    obtain ⟨h472, e472⟩ : ∃ z, T472.heap = z := ⟨_, rfl⟩
    rw [e472] at Kq472 w472_0 w472_1 w472_2 w472_3
    have sf474 := Safe.keep Kq472 (sfS (Safe.exa hZ.alike A443 (by decide) (by decide)) sf0) CR.1 sf460
    have sf475 := Safe.keep Kq472 (sfS (Safe.exa hZ.alike A443 (by decide) (by decide)) sf0) CR.1 sf461
    have sf476 := Safe.keep Kq472 (sfS (Safe.exa hZ.alike A443 (by decide) (by decide)) sf0) CR.1 sf462
    have sf477 := Safe.keep Kq472 (sfS (Safe.exa hZ.alike A443 (by decide) (by decide)) sf0) CR.1 sf463
    have CR := CR.trans (CHr.keep Kq472 (sfS (Safe.exa hZ.alike A443 (by decide) (by decide)) sf0) CR.1)
    have hk := Nat.le_trans hk Kq472.1
    have f478 : Arv Z h472 b345 k345 .char (3 : Int32) [(.int ((p1 &&& (255 : Int32)).toUInt32.toUInt16.toUInt32.toInt32)), (.int ((((p1.toUInt32 >>> ((8 : Int32) &&& 31).toUInt32).toInt32) &&& (255 : Int32)).toUInt32.toUInt16.toUInt32.toInt32)), (.int ((((p1.toUInt32 >>> ((16 : Int32) &&& 31).toUInt32).toInt32) &&& (255 : Int32)).toUInt32.toUInt16.toUInt32.toInt32))] (.int (0 : Int32)) := f451.keep Kq472 (ninS ne444 nin0)
    have f479 : Exa Z h472 b365 "java/lang/String" := f452.keep Kq472
    have f480 : Fld Z h472 b365 "java/lang/String" "coder" "B" (.int (0 : Int32)) := f453.keep Kq472 (ninS ne445 nin0)
    have f481 : Fld Z h472 b365 "java/lang/String" "value" "[B" (.ref b_375) := f454.keep Kq472 (ninS ne445 nin0)
    have f482 : Arv Z h472 b_375 k_375 .byte (3 : Int32) [(.int (((p1 &&& (255 : Int32)).toUInt32.toUInt16.toUInt32.toInt32).toInt8.toInt32)), (.int (((((p1.toUInt32 >>> ((8 : Int32) &&& 31).toUInt32).toInt32) &&& (255 : Int32)).toUInt32.toUInt16.toUInt32.toInt32).toInt8.toInt32)), (.int (((((p1.toUInt32 >>> ((16 : Int32) &&& 31).toUInt32).toInt32) &&& (255 : Int32)).toUInt32.toUInt16.toUInt32.toInt32).toInt8.toInt32))] (.int (0 : Int32)) := f455.keep Kq472 (ninS ne446 nin0)
    have f483 : Exa Z h472 a427 "java/lang/String" := f456.keep Kq472
    have f484 : Fld Z h472 a427 "java/lang/String" "coder" "B" (.int (0 : Int32)) := f457.keep Kq472 (ninS ne447 nin0)
    have f485 : Fld Z h472 a427 "java/lang/String" "value" "[B" (.ref b427) := f458.keep Kq472 (ninS ne447 nin0)
    have f486 : Arv Z h472 b427 kc427 .byte (0 : Int32) [] (.int (0 : Int32)) := f459.keep Kq472 (ninS ne448 nin0)
    have f487 : Exa Z h472 b443 "com/example/hits_in_context/hitsincontext/io/XmlCharacterData$Piece" := A443.keep Kq472
    have O488 := O464.keep Kq472 (allS g449 all0)
    refine gv (fun tQ kQ => st472.trans kQ) ?_
    show G (T472.setTop (mkF me_ 180 #[.val (.int p0), .val (.int p1), .val (.int p2), .val (.int p3), .val (.int p4), .val (.ref b345), .val (.ref b365), .val (.int (p2 &&& (3 : Int32))), .val (.int ((p2 &&& (3 : Int32)) + ((((p2.toUInt32 >>> ((2 : Int32) &&& 31).toUInt32).toInt32) &&& (3 : Int32)) % ((4 : Int32) - (p2 &&& (3 : Int32)))))), .val (.int (1 : Int32)), .val (.ref a427), .unset, .unset, .unset] [(.ref b443)]))
    refine gv (fun tQ kQ => XS.astore X472.here hx rfl (hb hby at_180) rfl rfl (l' := #[.val (.int p0), .val (.int p1), .val (.int p2), .val (.int p3), .val (.int p4), .val (.ref b345), .val (.ref b365), .val (.int (p2 &&& (3 : Int32))), .val (.int ((p2 &&& (3 : Int32)) + ((((p2.toUInt32 >>> ((2 : Int32) &&& 31).toUInt32).toInt32) &&& (3 : Int32)) % ((4 : Int32) - (p2 &&& (3 : Int32)))))), .val (.int (1 : Int32)), .val (.ref a427), .val (.ref b443), .unset, .unset]) rfl kQ) ?_
    show G (T472.setTop (mkF me_ 182 #[.val (.int p0), .val (.int p1), .val (.int p2), .val (.int p3), .val (.int p4), .val (.ref b345), .val (.ref b365), .val (.int (p2 &&& (3 : Int32))), .val (.int ((p2 &&& (3 : Int32)) + ((((p2.toUInt32 >>> ((2 : Int32) &&& 31).toUInt32).toInt32) &&& (3 : Int32)) % ((4 : Int32) - (p2 &&& (3 : Int32)))))), .val (.int (1 : Int32)), .val (.ref a427), .val (.ref b443), .unset, .unset] []))
    refine gv (fun tQ kQ => XS.aload X472.here hx rfl (hb hby at_182) rfl rfl kQ) ?_
    show G (T472.setTop (mkF me_ 184 #[.val (.int p0), .val (.int p1), .val (.int p2), .val (.int p3), .val (.int p4), .val (.ref b345), .val (.ref b365), .val (.int (p2 &&& (3 : Int32))), .val (.int ((p2 &&& (3 : Int32)) + ((((p2.toUInt32 >>> ((2 : Int32) &&& 31).toUInt32).toInt32) &&& (3 : Int32)) % ((4 : Int32) - (p2 &&& (3 : Int32)))))), .val (.int (1 : Int32)), .val (.ref a427), .val (.ref b443), .unset, .unset] [(.ref b443)]))
    obtain ⟨cq489, kq489, q489a, q489b, q489c⟩ := isOf hZ e472 w472_0
    obtain ⟨_, _, ⟨T489, L489, k489, n489⟩, -, X489, ⟨Lc489, hQ489, l489, y489, z489⟩, st489⟩ := X472.virtualBack hx (y := (⟨"com/example/hits_in_context/hitsincontext/io/XmlCharacterData$Piece", "isLiteral", "()Z"⟩ : MethodName)) (z := (⟨"com/example/hits_in_context/hitsincontext/io/XmlCharacterData$Piece", "isLiteral", "()Z"⟩ : MethodName)) hown (mvT hZ (hw _ (List.mem_of_getElem? (i := 57) rfl))) (mvT hZ (hw _ (List.mem_of_getElem? (i := 58) rfl))) (notFace_of_selects (args := #[]) (mvT hZ (hw _ (List.mem_of_getElem? (i := 60) rfl)))) (mvT hZ (hw _ (List.mem_of_getElem? (i := 60) rfl))) (mvT hZ (hw _ (List.mem_of_getElem? (i := 59) rfl))) (by decide) (backOf (W := 0) (rm_islR l Z a0 hw [] b443 a427 h472 n0 O488 w472_3) hZ (hw _ (List.mem_of_getElem? (i := 61) rfl)) (hw _ (List.mem_of_getElem? (i := 35) rfl)) (by decide) (by decide)) q489a q489c (g := (mkF me_ 184 #[.val (.int p0), .val (.int p1), .val (.int p2), .val (.int p3), .val (.int p4), .val (.ref b345), .val (.ref b365), .val (.int (p2 &&& (3 : Int32))), .val (.int ((p2 &&& (3 : Int32)) + ((((p2.toUInt32 >>> ((2 : Int32) &&& 31).toUInt32).toInt32) &&& (3 : Int32)) % ((4 : Int32) - (p2 &&& (3 : Int32)))))), .val (.int (1 : Int32)), .val (.ref a427), .val (.ref b443), .unset, .unset] [(.ref b443)])) rfl (by rw [hml]; rfl) (Steps.refl _) (argsL := []) (rest := []) (lenOf pd_12 rfl) rfl (by show 2 * 0 + _ ≤ _; exact Nat.le_of_eq rfl) (hb hby at_184) (fun _ _ => ⟨rfl, e472, (by decide : 6 + 0 ≤ _), (by decide : 19 + 0 ≤ _)⟩)
    dsimp only [Pt.U, Pt.locs, Pt.cells, Pt.slots] at X489 l489 y489 z489 st489 hQ489
    subst l489 y489 z489
    obtain ⟨rfl, Nq489, eq489⟩ := hQ489
    have N490 := Fr.app N473 Nq489
    refine gv (fun tQ kQ => st489.trans kQ) ?_
    show G (T489.setTop (mkF me_ 187 #[.val (.int p0), .val (.int p1), .val (.int p2), .val (.int p3), .val (.int p4), .val (.ref b345), .val (.ref b365), .val (.int (p2 &&& (3 : Int32))), .val (.int ((p2 &&& (3 : Int32)) + ((((p2.toUInt32 >>> ((2 : Int32) &&& 31).toUInt32).toInt32) &&& (3 : Int32)) % ((4 : Int32) - (p2 &&& (3 : Int32)))))), .val (.int (1 : Int32)), .val (.ref a427), .val (.ref b443), .unset, .unset] [(.int (0 : Int32))]))
    refine gv (fun tQ kQ => XS.istore X489.here hx rfl (hb hby at_187) rfl (l' := #[.val (.int p0), .val (.int p1), .val (.int p2), .val (.int p3), .val (.int p4), .val (.ref b345), .val (.ref b365), .val (.int (p2 &&& (3 : Int32))), .val (.int ((p2 &&& (3 : Int32)) + ((((p2.toUInt32 >>> ((2 : Int32) &&& 31).toUInt32).toInt32) &&& (3 : Int32)) % ((4 : Int32) - (p2 &&& (3 : Int32)))))), .val (.int (1 : Int32)), .val (.ref a427), .val (.ref b443), .val (.int (0 : Int32)), .unset]) rfl kQ) ?_
    show G (T489.setTop (mkF me_ 189 #[.val (.int p0), .val (.int p1), .val (.int p2), .val (.int p3), .val (.int p4), .val (.ref b345), .val (.ref b365), .val (.int (p2 &&& (3 : Int32))), .val (.int ((p2 &&& (3 : Int32)) + ((((p2.toUInt32 >>> ((2 : Int32) &&& 31).toUInt32).toInt32) &&& (3 : Int32)) % ((4 : Int32) - (p2 &&& (3 : Int32)))))), .val (.int (1 : Int32)), .val (.ref a427), .val (.ref b443), .val (.int (0 : Int32)), .unset] []))
    refine gv (fun tQ kQ => XS.iload X489.here hx rfl (hb hby at_189) rfl kQ) ?_
    show G (T489.setTop (mkF me_ 191 #[.val (.int p0), .val (.int p1), .val (.int p2), .val (.int p3), .val (.int p4), .val (.ref b345), .val (.ref b365), .val (.int (p2 &&& (3 : Int32))), .val (.int ((p2 &&& (3 : Int32)) + ((((p2.toUInt32 >>> ((2 : Int32) &&& 31).toUInt32).toInt32) &&& (3 : Int32)) % ((4 : Int32) - (p2 &&& (3 : Int32)))))), .val (.int (1 : Int32)), .val (.ref a427), .val (.ref b443), .val (.int (0 : Int32)), .unset] [(.int (0 : Int32))]))
    refine gv (fun tQ kQ => XS.iload X489.here hx rfl (hb hby at_191) rfl kQ) ?_
    show G (T489.setTop (mkF me_ 193 #[.val (.int p0), .val (.int p1), .val (.int p2), .val (.int p3), .val (.int p4), .val (.ref b345), .val (.ref b365), .val (.int (p2 &&& (3 : Int32))), .val (.int ((p2 &&& (3 : Int32)) + ((((p2.toUInt32 >>> ((2 : Int32) &&& 31).toUInt32).toInt32) &&& (3 : Int32)) % ((4 : Int32) - (p2 &&& (3 : Int32)))))), .val (.int (1 : Int32)), .val (.ref a427), .val (.ref b443), .val (.int (0 : Int32)), .unset] [(.int (1 : Int32)), (.int (0 : Int32))]))
    refine gv (fun tQ kQ => XS.ifYes X489.here hx rfl (pc0 := 193) (pc' := 200) rfl (hb hby at_193) rfl ((if0 _ _).trans (feq (by decide : ¬ ((1 : Int32) = (0 : Int32)))).2) (by decide) (by decide) kQ) ?_
    show G (T489.setTop (mkF me_ 200 #[.val (.int p0), .val (.int p1), .val (.int p2), .val (.int p3), .val (.int p4), .val (.ref b345), .val (.ref b365), .val (.int (p2 &&& (3 : Int32))), .val (.int ((p2 &&& (3 : Int32)) + ((((p2.toUInt32 >>> ((2 : Int32) &&& 31).toUInt32).toInt32) &&& (3 : Int32)) % ((4 : Int32) - (p2 &&& (3 : Int32)))))), .val (.int (1 : Int32)), .val (.ref a427), .val (.ref b443), .val (.int (0 : Int32)), .unset] [(.int (0 : Int32))]))
    refine gv (fun tQ kQ => XS.iconst X489.here hx rfl (hb hby at_200) kQ) ?_
    show G (T489.setTop (mkF me_ 201 #[.val (.int p0), .val (.int p1), .val (.int p2), .val (.int p3), .val (.int p4), .val (.ref b345), .val (.ref b365), .val (.int (p2 &&& (3 : Int32))), .val (.int ((p2 &&& (3 : Int32)) + ((((p2.toUInt32 >>> ((2 : Int32) &&& 31).toUInt32).toInt32) &&& (3 : Int32)) % ((4 : Int32) - (p2 &&& (3 : Int32)))))), .val (.int (1 : Int32)), .val (.ref a427), .val (.ref b443), .val (.int (0 : Int32)), .unset] [(.int (0 : Int32)), (.int (0 : Int32))]))
    refine gv (fun tQ kQ => XS.icmpYes X489.here hx rfl (pc0 := 201) (pc' := 206) rfl (hb hby at_201) rfl (teq (by decide : (0 : Int32) = (0 : Int32))).1 (by decide) (by decide) kQ) ?_
    show G (T489.setTop (mkF me_ 206 #[.val (.int p0), .val (.int p1), .val (.int p2), .val (.int p3), .val (.int p4), .val (.ref b345), .val (.ref b365), .val (.int (p2 &&& (3 : Int32))), .val (.int ((p2 &&& (3 : Int32)) + ((((p2.toUInt32 >>> ((2 : Int32) &&& 31).toUInt32).toInt32) &&& (3 : Int32)) % ((4 : Int32) - (p2 &&& (3 : Int32)))))), .val (.int (1 : Int32)), .val (.ref a427), .val (.ref b443), .val (.int (0 : Int32)), .unset] []))
    refine gv (fun tQ kQ => XS.iload X489.here hx rfl (hb hby at_206) rfl kQ) ?_
    show G (T489.setTop (mkF me_ 208 #[.val (.int p0), .val (.int p1), .val (.int p2), .val (.int p3), .val (.int p4), .val (.ref b345), .val (.ref b365), .val (.int (p2 &&& (3 : Int32))), .val (.int ((p2 &&& (3 : Int32)) + ((((p2.toUInt32 >>> ((2 : Int32) &&& 31).toUInt32).toInt32) &&& (3 : Int32)) % ((4 : Int32) - (p2 &&& (3 : Int32)))))), .val (.int (1 : Int32)), .val (.ref a427), .val (.ref b443), .val (.int (0 : Int32)), .unset] [(.int (1 : Int32))]))
    refine gv (fun tQ kQ => XS.ifYes X489.here hx rfl (pc0 := 208) (pc' := 219) rfl (hb hby at_208) rfl ((if0 _ _).trans (feq (by decide : ¬ ((1 : Int32) = (0 : Int32)))).2) (by decide) (by decide) kQ) ?_
    show G (T489.setTop (mkF me_ 219 #[.val (.int p0), .val (.int p1), .val (.int p2), .val (.int p3), .val (.int p4), .val (.ref b345), .val (.ref b365), .val (.int (p2 &&& (3 : Int32))), .val (.int ((p2 &&& (3 : Int32)) + ((((p2.toUInt32 >>> ((2 : Int32) &&& 31).toUInt32).toInt32) &&& (3 : Int32)) % ((4 : Int32) - (p2 &&& (3 : Int32)))))), .val (.int (1 : Int32)), .val (.ref a427), .val (.ref b443), .val (.int (0 : Int32)), .unset] []))
    refine gv (fun tQ kQ => XS.iload X489.here hx rfl (hb hby at_219) rfl kQ) ?_
    show G (T489.setTop (mkF me_ 221 #[.val (.int p0), .val (.int p1), .val (.int p2), .val (.int p3), .val (.int p4), .val (.ref b345), .val (.ref b365), .val (.int (p2 &&& (3 : Int32))), .val (.int ((p2 &&& (3 : Int32)) + ((((p2.toUInt32 >>> ((2 : Int32) &&& 31).toUInt32).toInt32) &&& (3 : Int32)) % ((4 : Int32) - (p2 &&& (3 : Int32)))))), .val (.int (1 : Int32)), .val (.ref a427), .val (.ref b443), .val (.int (0 : Int32)), .unset] [(.int (1 : Int32))]))
    refine gv (fun tQ kQ => XS.iconst X489.here hx rfl (hb hby at_221) kQ) ?_
    show G (T489.setTop (mkF me_ 222 #[.val (.int p0), .val (.int p1), .val (.int p2), .val (.int p3), .val (.int p4), .val (.ref b345), .val (.ref b365), .val (.int (p2 &&& (3 : Int32))), .val (.int ((p2 &&& (3 : Int32)) + ((((p2.toUInt32 >>> ((2 : Int32) &&& 31).toUInt32).toInt32) &&& (3 : Int32)) % ((4 : Int32) - (p2 &&& (3 : Int32)))))), .val (.int (1 : Int32)), .val (.ref a427), .val (.ref b443), .val (.int (0 : Int32)), .unset] [(.int (1 : Int32)), (.int (1 : Int32))]))
    refine gv (fun tQ kQ => XS.icmpNo X489.here hx rfl (hb hby at_222) rfl (teq (by decide : (1 : Int32) = (1 : Int32))).2 kQ) ?_
    show G (T489.setTop (mkF me_ 225 #[.val (.int p0), .val (.int p1), .val (.int p2), .val (.int p3), .val (.int p4), .val (.ref b345), .val (.ref b365), .val (.int (p2 &&& (3 : Int32))), .val (.int ((p2 &&& (3 : Int32)) + ((((p2.toUInt32 >>> ((2 : Int32) &&& 31).toUInt32).toInt32) &&& (3 : Int32)) % ((4 : Int32) - (p2 &&& (3 : Int32)))))), .val (.int (1 : Int32)), .val (.ref a427), .val (.ref b443), .val (.int (0 : Int32)), .unset] []))
    refine gv (fun tQ kQ => XS.iconst X489.here hx rfl (hb hby at_225) kQ) ?_
    show G (T489.setTop (mkF me_ 226 #[.val (.int p0), .val (.int p1), .val (.int p2), .val (.int p3), .val (.int p4), .val (.ref b345), .val (.ref b365), .val (.int (p2 &&& (3 : Int32))), .val (.int ((p2 &&& (3 : Int32)) + ((((p2.toUInt32 >>> ((2 : Int32) &&& 31).toUInt32).toInt32) &&& (3 : Int32)) % ((4 : Int32) - (p2 &&& (3 : Int32)))))), .val (.int (1 : Int32)), .val (.ref a427), .val (.ref b443), .val (.int (0 : Int32)), .unset] [(.int (0 : Int32))]))
    refine gv (fun tQ kQ => XS.goto X489.here hx rfl (pc0 := 226) (pc' := 240) rfl (hb hby at_226) (by decide) (by decide) kQ) ?_
    show G (T489.setTop (mkF me_ 240 #[.val (.int p0), .val (.int p1), .val (.int p2), .val (.int p3), .val (.int p4), .val (.ref b345), .val (.ref b365), .val (.int (p2 &&& (3 : Int32))), .val (.int ((p2 &&& (3 : Int32)) + ((((p2.toUInt32 >>> ((2 : Int32) &&& 31).toUInt32).toInt32) &&& (3 : Int32)) % ((4 : Int32) - (p2 &&& (3 : Int32)))))), .val (.int (1 : Int32)), .val (.ref a427), .val (.ref b443), .val (.int (0 : Int32)), .unset] [(.int (0 : Int32))]))
    refine gv (fun tQ kQ => XS.istore X489.here hx rfl (hb hby at_240) rfl (l' := #[.val (.int p0), .val (.int p1), .val (.int p2), .val (.int p3), .val (.int p4), .val (.ref b345), .val (.ref b365), .val (.int (p2 &&& (3 : Int32))), .val (.int ((p2 &&& (3 : Int32)) + ((((p2.toUInt32 >>> ((2 : Int32) &&& 31).toUInt32).toInt32) &&& (3 : Int32)) % ((4 : Int32) - (p2 &&& (3 : Int32)))))), .val (.int (1 : Int32)), .val (.ref a427), .val (.ref b443), .val (.int (0 : Int32)), .val (.int (0 : Int32))]) rfl kQ) ?_
    show G (T489.setTop (mkF me_ 242 #[.val (.int p0), .val (.int p1), .val (.int p2), .val (.int p3), .val (.int p4), .val (.ref b345), .val (.ref b365), .val (.int (p2 &&& (3 : Int32))), .val (.int ((p2 &&& (3 : Int32)) + ((((p2.toUInt32 >>> ((2 : Int32) &&& 31).toUInt32).toInt32) &&& (3 : Int32)) % ((4 : Int32) - (p2 &&& (3 : Int32)))))), .val (.int (1 : Int32)), .val (.ref a427), .val (.ref b443), .val (.int (0 : Int32)), .val (.int (0 : Int32))] []))
    refine gv (fun tQ kQ => XS.aload X489.here hx rfl (hb hby at_242) rfl rfl kQ) ?_
    show G (T489.setTop (mkF me_ 244 #[.val (.int p0), .val (.int p1), .val (.int p2), .val (.int p3), .val (.int p4), .val (.ref b345), .val (.ref b365), .val (.int (p2 &&& (3 : Int32))), .val (.int ((p2 &&& (3 : Int32)) + ((((p2.toUInt32 >>> ((2 : Int32) &&& 31).toUInt32).toInt32) &&& (3 : Int32)) % ((4 : Int32) - (p2 &&& (3 : Int32)))))), .val (.int (1 : Int32)), .val (.ref a427), .val (.ref b443), .val (.int (0 : Int32)), .val (.int (0 : Int32))] [(.ref b443)]))
    obtain ⟨cq491, kq491, q491a, q491b, q491c⟩ := isOf hZ eq489 w472_0
    obtain ⟨_, _, ⟨T491, L491, k491, n491⟩, -, X491, ⟨Lc491, hQ491, l491, y491, z491⟩, st491⟩ := X489.virtualBack hx (y := (⟨"com/example/hits_in_context/hitsincontext/io/XmlCharacterData$Piece", "length", "()I"⟩ : MethodName)) (z := (⟨"com/example/hits_in_context/hitsincontext/io/XmlCharacterData$Piece", "length", "()I"⟩ : MethodName)) hown (mvT hZ (hw _ (List.mem_of_getElem? (i := 62) rfl))) (mvT hZ (hw _ (List.mem_of_getElem? (i := 63) rfl))) (notFace_of_selects (args := #[]) (mvT hZ (hw _ (List.mem_of_getElem? (i := 65) rfl)))) (mvT hZ (hw _ (List.mem_of_getElem? (i := 65) rfl))) (mvT hZ (hw _ (List.mem_of_getElem? (i := 64) rfl))) (by decide) (backOf (W := 0) (rm_lenR0 l Z a0 hw [] b443 a427 b427 kc427 cs h472 n0 O488 u0 u1 w472_3 f483 f484 f485 f486) hZ (hw _ (List.mem_of_getElem? (i := 66) rfl)) (hw _ (List.mem_of_getElem? (i := 35) rfl)) (by decide) (by decide)) q491a q491c (g := (mkF me_ 244 #[.val (.int p0), .val (.int p1), .val (.int p2), .val (.int p3), .val (.int p4), .val (.ref b345), .val (.ref b365), .val (.int (p2 &&& (3 : Int32))), .val (.int ((p2 &&& (3 : Int32)) + ((((p2.toUInt32 >>> ((2 : Int32) &&& 31).toUInt32).toInt32) &&& (3 : Int32)) % ((4 : Int32) - (p2 &&& (3 : Int32)))))), .val (.int (1 : Int32)), .val (.ref a427), .val (.ref b443), .val (.int (0 : Int32)), .val (.int (0 : Int32))] [(.ref b443)])) rfl (by rw [hml]; rfl) (Steps.refl _) (argsL := []) (rest := []) (lenOf pd_8 rfl) rfl (by show 2 * 0 + _ ≤ _; exact Nat.le_of_eq rfl) (hb hby at_244) (fun _ _ => ⟨rfl, eq489, (by decide : 6 + 0 ≤ _), (by decide : 19 + 0 ≤ _)⟩)
    dsimp only [Pt.U, Pt.locs, Pt.cells, Pt.slots] at X491 l491 y491 z491 st491 hQ491
    subst l491 y491 z491
    obtain ⟨rfl, Nq491, eq491⟩ := hQ491
    have N492 := Fr.app N490 Nq491
    refine gv (fun tQ kQ => st491.trans kQ) ?_
    show G (T491.setTop (mkF me_ 247 #[.val (.int p0), .val (.int p1), .val (.int p2), .val (.int p3), .val (.int p4), .val (.ref b345), .val (.ref b365), .val (.int (p2 &&& (3 : Int32))), .val (.int ((p2 &&& (3 : Int32)) + ((((p2.toUInt32 >>> ((2 : Int32) &&& 31).toUInt32).toInt32) &&& (3 : Int32)) % ((4 : Int32) - (p2 &&& (3 : Int32)))))), .val (.int (1 : Int32)), .val (.ref a427), .val (.ref b443), .val (.int (0 : Int32)), .val (.int (0 : Int32))] [(.int (0 : Int32))]))
    refine gv (fun tQ kQ => XS.iload X491.here hx rfl (hb hby at_247) rfl kQ) ?_
    show G (T491.setTop (mkF me_ 249 #[.val (.int p0), .val (.int p1), .val (.int p2), .val (.int p3), .val (.int p4), .val (.ref b345), .val (.ref b365), .val (.int (p2 &&& (3 : Int32))), .val (.int ((p2 &&& (3 : Int32)) + ((((p2.toUInt32 >>> ((2 : Int32) &&& 31).toUInt32).toInt32) &&& (3 : Int32)) % ((4 : Int32) - (p2 &&& (3 : Int32)))))), .val (.int (1 : Int32)), .val (.ref a427), .val (.ref b443), .val (.int (0 : Int32)), .val (.int (0 : Int32))] [(.int (0 : Int32)), (.int (0 : Int32))]))
    refine gv (fun tQ kQ => XS.icmpNo X491.here hx rfl (hb hby at_249) rfl (teq (by decide : (0 : Int32) = (0 : Int32))).2 kQ) ?_
    show G (T491.setTop (mkF me_ 252 #[.val (.int p0), .val (.int p1), .val (.int p2), .val (.int p3), .val (.int p4), .val (.ref b345), .val (.ref b365), .val (.int (p2 &&& (3 : Int32))), .val (.int ((p2 &&& (3 : Int32)) + ((((p2.toUInt32 >>> ((2 : Int32) &&& 31).toUInt32).toInt32) &&& (3 : Int32)) % ((4 : Int32) - (p2 &&& (3 : Int32)))))), .val (.int (1 : Int32)), .val (.ref a427), .val (.ref b443), .val (.int (0 : Int32)), .val (.int (0 : Int32))] []))
    refine gv (fun tQ kQ => XS.iconst X491.here hx rfl (hb hby at_252) kQ) ?_
    show G (T491.setTop (mkF me_ 253 #[.val (.int p0), .val (.int p1), .val (.int p2), .val (.int p3), .val (.int p4), .val (.ref b345), .val (.ref b365), .val (.int (p2 &&& (3 : Int32))), .val (.int ((p2 &&& (3 : Int32)) + ((((p2.toUInt32 >>> ((2 : Int32) &&& 31).toUInt32).toInt32) &&& (3 : Int32)) % ((4 : Int32) - (p2 &&& (3 : Int32)))))), .val (.int (1 : Int32)), .val (.ref a427), .val (.ref b443), .val (.int (0 : Int32)), .val (.int (0 : Int32))] [(.int (1 : Int32))]))
    refine gv (fun tQ kQ => XS.goto X491.here hx rfl (pc0 := 253) (pc' := 257) rfl (hb hby at_253) (by decide) (by decide) kQ) ?_
    show G (T491.setTop (mkF me_ 257 #[.val (.int p0), .val (.int p1), .val (.int p2), .val (.int p3), .val (.int p4), .val (.ref b345), .val (.ref b365), .val (.int (p2 &&& (3 : Int32))), .val (.int ((p2 &&& (3 : Int32)) + ((((p2.toUInt32 >>> ((2 : Int32) &&& 31).toUInt32).toInt32) &&& (3 : Int32)) % ((4 : Int32) - (p2 &&& (3 : Int32)))))), .val (.int (1 : Int32)), .val (.ref a427), .val (.ref b443), .val (.int (0 : Int32)), .val (.int (0 : Int32))] [(.int (1 : Int32))]))
    refine gf _ (own_retW X491 Bd.notSynchronized hS (by rw [eq491]; exact hk) (v := some (.int (1 : Int32))) (fun h => by rw [Bd.returns] at h; cases h) ?_ (by decide) (by decide) (by rw [hh, eq491]; exact CR.trans (CHv.at X491 hZ hEL CR.1)) (fun fs hr => retN X491 hx (t := .boolean) Bd.returns (by simp) (hb hby at_257) hr))
    show Q0 Z p0 p1 p2 p3 p4 cs A_TEXT A_MARKUP A_DECLARATION A_ROOT_TAG A_CDATA_START A_CDATA_END A_ENTITY_START A_ENTITY_END h0 n0 _ T491.heap _
    rw [eq491]
    exact ⟨rfl, N492⟩
  · rw [q]
    show G (T375.setTop (mkF me_ 75 #[.val (.int p0), .val (.int p1), .val (.int p2), .val (.int p3), .val (.int p4), .val (.ref b345), .val (.ref b365), .val (.int (p2 &&& (3 : Int32))), .val (.int ((p2 &&& (3 : Int32)) + ((((p2.toUInt32 >>> ((2 : Int32) &&& 31).toUInt32).toInt32) &&& (3 : Int32)) % ((4 : Int32) - (p2 &&& (3 : Int32)))))), .unset, .unset, .unset, .unset, .unset] [(.int (2 : Int32))]))
    refine gv (fun tQ kQ => XS.istore X375.here hx rfl (hb hby at_75) rfl (l' := #[.val (.int p0), .val (.int p1), .val (.int p2), .val (.int p3), .val (.int p4), .val (.ref b345), .val (.ref b365), .val (.int (p2 &&& (3 : Int32))), .val (.int ((p2 &&& (3 : Int32)) + ((((p2.toUInt32 >>> ((2 : Int32) &&& 31).toUInt32).toInt32) &&& (3 : Int32)) % ((4 : Int32) - (p2 &&& (3 : Int32)))))), .val (.int (2 : Int32)), .unset, .unset, .unset, .unset]) rfl kQ) ?_
    show G (T375.setTop (mkF me_ 77 #[.val (.int p0), .val (.int p1), .val (.int p2), .val (.int p3), .val (.int p4), .val (.ref b345), .val (.ref b365), .val (.int (p2 &&& (3 : Int32))), .val (.int ((p2 &&& (3 : Int32)) + ((((p2.toUInt32 >>> ((2 : Int32) &&& 31).toUInt32).toInt32) &&& (3 : Int32)) % ((4 : Int32) - (p2 &&& (3 : Int32)))))), .val (.int (2 : Int32)), .unset, .unset, .unset, .unset] []))
    refine gv (fun tQ kQ => XS.aconstNull X375.here hx rfl (hb hby at_77) kQ) ?_
    show G (T375.setTop (mkF me_ 78 #[.val (.int p0), .val (.int p1), .val (.int p2), .val (.int p3), .val (.int p4), .val (.ref b345), .val (.ref b365), .val (.int (p2 &&& (3 : Int32))), .val (.int ((p2 &&& (3 : Int32)) + ((((p2.toUInt32 >>> ((2 : Int32) &&& 31).toUInt32).toInt32) &&& (3 : Int32)) % ((4 : Int32) - (p2 &&& (3 : Int32)))))), .val (.int (2 : Int32)), .unset, .unset, .unset, .unset] [.null]))
    refine gv (fun tQ kQ => XS.astore X375.here hx rfl (hb hby at_78) rfl rfl (l' := #[.val (.int p0), .val (.int p1), .val (.int p2), .val (.int p3), .val (.int p4), .val (.ref b345), .val (.ref b365), .val (.int (p2 &&& (3 : Int32))), .val (.int ((p2 &&& (3 : Int32)) + ((((p2.toUInt32 >>> ((2 : Int32) &&& 31).toUInt32).toInt32) &&& (3 : Int32)) % ((4 : Int32) - (p2 &&& (3 : Int32)))))), .val (.int (2 : Int32)), .val .null, .unset, .unset, .unset]) rfl kQ) ?_
    show G (T375.setTop (mkF me_ 80 #[.val (.int p0), .val (.int p1), .val (.int p2), .val (.int p3), .val (.int p4), .val (.ref b345), .val (.ref b365), .val (.int (p2 &&& (3 : Int32))), .val (.int ((p2 &&& (3 : Int32)) + ((((p2.toUInt32 >>> ((2 : Int32) &&& 31).toUInt32).toInt32) &&& (3 : Int32)) % ((4 : Int32) - (p2 &&& (3 : Int32)))))), .val (.int (2 : Int32)), .val .null, .unset, .unset, .unset] []))
    refine gv (fun tQ kQ => XS.iload X375.here hx rfl (hb hby at_80) rfl kQ) ?_
    show G (T375.setTop (mkF me_ 82 #[.val (.int p0), .val (.int p1), .val (.int p2), .val (.int p3), .val (.int p4), .val (.ref b345), .val (.ref b365), .val (.int (p2 &&& (3 : Int32))), .val (.int ((p2 &&& (3 : Int32)) + ((((p2.toUInt32 >>> ((2 : Int32) &&& 31).toUInt32).toInt32) &&& (3 : Int32)) % ((4 : Int32) - (p2 &&& (3 : Int32)))))), .val (.int (2 : Int32)), .val .null, .unset, .unset, .unset] [(.int (2 : Int32))]))
    refine gv (fun tQ kQ => XS.iconst X375.here hx rfl (hb hby at_82) kQ) ?_
    show G (T375.setTop (mkF me_ 83 #[.val (.int p0), .val (.int p1), .val (.int p2), .val (.int p3), .val (.int p4), .val (.ref b345), .val (.ref b365), .val (.int (p2 &&& (3 : Int32))), .val (.int ((p2 &&& (3 : Int32)) + ((((p2.toUInt32 >>> ((2 : Int32) &&& 31).toUInt32).toInt32) &&& (3 : Int32)) % ((4 : Int32) - (p2 &&& (3 : Int32)))))), .val (.int (2 : Int32)), .val .null, .unset, .unset, .unset] [(.int (1 : Int32)), (.int (2 : Int32))]))
    refine gv (fun tQ kQ => XS.icmpYes X375.here hx rfl (pc0 := 83) (pc' := 93) rfl (hb hby at_83) rfl (feq (by decide : ¬ ((2 : Int32) = (1 : Int32)))).2 (by decide) (by decide) kQ) ?_
    show G (T375.setTop (mkF me_ 93 #[.val (.int p0), .val (.int p1), .val (.int p2), .val (.int p3), .val (.int p4), .val (.ref b345), .val (.ref b365), .val (.int (p2 &&& (3 : Int32))), .val (.int ((p2 &&& (3 : Int32)) + ((((p2.toUInt32 >>> ((2 : Int32) &&& 31).toUInt32).toInt32) &&& (3 : Int32)) % ((4 : Int32) - (p2 &&& (3 : Int32)))))), .val (.int (2 : Int32)), .val .null, .unset, .unset, .unset] []))
    refine gv (fun tQ kQ => XS.iload X375.here hx rfl (hb hby at_93) rfl kQ) ?_
    show G (T375.setTop (mkF me_ 95 #[.val (.int p0), .val (.int p1), .val (.int p2), .val (.int p3), .val (.int p4), .val (.ref b345), .val (.ref b365), .val (.int (p2 &&& (3 : Int32))), .val (.int ((p2 &&& (3 : Int32)) + ((((p2.toUInt32 >>> ((2 : Int32) &&& 31).toUInt32).toInt32) &&& (3 : Int32)) % ((4 : Int32) - (p2 &&& (3 : Int32)))))), .val (.int (2 : Int32)), .val .null, .unset, .unset, .unset] [(.int (2 : Int32))]))
    refine gv (fun tQ kQ => XS.iconst X375.here hx rfl (hb hby at_95) kQ) ?_
    show G (T375.setTop (mkF me_ 96 #[.val (.int p0), .val (.int p1), .val (.int p2), .val (.int p3), .val (.int p4), .val (.ref b345), .val (.ref b365), .val (.int (p2 &&& (3 : Int32))), .val (.int ((p2 &&& (3 : Int32)) + ((((p2.toUInt32 >>> ((2 : Int32) &&& 31).toUInt32).toInt32) &&& (3 : Int32)) % ((4 : Int32) - (p2 &&& (3 : Int32)))))), .val (.int (2 : Int32)), .val .null, .unset, .unset, .unset] [(.int (2 : Int32)), (.int (2 : Int32))]))
    refine gv (fun tQ kQ => XS.icmpNo X375.here hx rfl (hb hby at_96) rfl (teq (by decide : (2 : Int32) = (2 : Int32))).2 kQ) ?_
    show G (T375.setTop (mkF me_ 99 #[.val (.int p0), .val (.int p1), .val (.int p2), .val (.int p3), .val (.int p4), .val (.ref b345), .val (.ref b365), .val (.int (p2 &&& (3 : Int32))), .val (.int ((p2 &&& (3 : Int32)) + ((((p2.toUInt32 >>> ((2 : Int32) &&& 31).toUInt32).toInt32) &&& (3 : Int32)) % ((4 : Int32) - (p2 &&& (3 : Int32)))))), .val (.int (2 : Int32)), .val .null, .unset, .unset, .unset] []))
    refine gv (fun tQ kQ => XS.iload X375.here hx rfl (hb hby at_99) rfl kQ) ?_
    show G (T375.setTop (mkF me_ 101 #[.val (.int p0), .val (.int p1), .val (.int p2), .val (.int p3), .val (.int p4), .val (.ref b345), .val (.ref b365), .val (.int (p2 &&& (3 : Int32))), .val (.int ((p2 &&& (3 : Int32)) + ((((p2.toUInt32 >>> ((2 : Int32) &&& 31).toUInt32).toInt32) &&& (3 : Int32)) % ((4 : Int32) - (p2 &&& (3 : Int32)))))), .val (.int (2 : Int32)), .val .null, .unset, .unset, .unset] [(.int p4)]))
    refine gv (fun tQ kQ => XS.sipush X375.here hx rfl (hb hby at_101) kQ) ?_
    show G (T375.setTop (mkF me_ 104 #[.val (.int p0), .val (.int p1), .val (.int p2), .val (.int p3), .val (.int p4), .val (.ref b345), .val (.ref b365), .val (.int (p2 &&& (3 : Int32))), .val (.int ((p2 &&& (3 : Int32)) + ((((p2.toUInt32 >>> ((2 : Int32) &&& 31).toUInt32).toInt32) &&& (3 : Int32)) % ((4 : Int32) - (p2 &&& (3 : Int32)))))), .val (.int (2 : Int32)), .val .null, .unset, .unset, .unset] [(.int (255 : Int32)), (.int p4)]))
    refine gv (fun tQ kQ => XS.iand X375.here hx rfl (hb hby at_104) rfl kQ) ?_
    show G (T375.setTop (mkF me_ 105 #[.val (.int p0), .val (.int p1), .val (.int p2), .val (.int p3), .val (.int p4), .val (.ref b345), .val (.ref b365), .val (.int (p2 &&& (3 : Int32))), .val (.int ((p2 &&& (3 : Int32)) + ((((p2.toUInt32 >>> ((2 : Int32) &&& 31).toUInt32).toInt32) &&& (3 : Int32)) % ((4 : Int32) - (p2 &&& (3 : Int32)))))), .val (.int (2 : Int32)), .val .null, .unset, .unset, .unset] [(.int (p4 &&& (255 : Int32)))]))
    refine gv (fun tQ kQ => XS.i2c X375.here hx rfl (hb hby at_105) rfl kQ) ?_
    show G (T375.setTop (mkF me_ 106 #[.val (.int p0), .val (.int p1), .val (.int p2), .val (.int p3), .val (.int p4), .val (.ref b345), .val (.ref b365), .val (.int (p2 &&& (3 : Int32))), .val (.int ((p2 &&& (3 : Int32)) + ((((p2.toUInt32 >>> ((2 : Int32) &&& 31).toUInt32).toInt32) &&& (3 : Int32)) % ((4 : Int32) - (p2 &&& (3 : Int32)))))), .val (.int (2 : Int32)), .val .null, .unset, .unset, .unset] [(.int ((p4 &&& (255 : Int32)).toUInt32.toUInt16.toUInt32.toInt32))]))
    obtain ⟨_, _, ⟨T493, L493, k493, n493⟩, -, X493, ⟨Lc493, hQ493, l493, y493, z493⟩, st493⟩ := Jvm.LawKit.callS X375 hx (y := (⟨"java/lang/String", "valueOf", "(C)Ljava/lang/String;"⟩ : MethodName)) hown (mvT hZ (hw _ (List.mem_of_getElem? (i := 79) rfl))) (mvT hZ (hw _ (List.mem_of_getElem? (i := 80) rfl))) (mvT hZ (hw _ (List.mem_of_getElem? (i := 3) rfl))) (mvT hZ (hw _ (List.mem_of_getElem? (i := 81) rfl))) (by decide) (backOf (W := 0) (rm_voL l Z a0 hw [] ((p4 &&& (255 : Int32)).toUInt32.toUInt16.toUInt32.toInt32) cs h375 n0 O386 u0 u1 (own_lt255 _)) hZ (hw _ (List.mem_of_getElem? (i := 81) rfl)) (hw _ (List.mem_of_getElem? (i := 3) rfl)) (by decide) (by decide)) (g := (mkF me_ 106 #[.val (.int p0), .val (.int p1), .val (.int p2), .val (.int p3), .val (.int p4), .val (.ref b345), .val (.ref b365), .val (.int (p2 &&& (3 : Int32))), .val (.int ((p2 &&& (3 : Int32)) + ((((p2.toUInt32 >>> ((2 : Int32) &&& 31).toUInt32).toInt32) &&& (3 : Int32)) % ((4 : Int32) - (p2 &&& (3 : Int32)))))), .val (.int (2 : Int32)), .val .null, .unset, .unset, .unset] [(.int ((p4 &&& (255 : Int32)).toUInt32.toUInt16.toUInt32.toInt32))])) rfl (by rw [hml]; rfl) (argsL := [(.int ((p4 &&& (255 : Int32)).toUInt32.toUInt16.toUInt32.toInt32))]) (rest := []) (lenOf pd_13 rfl) rfl (by show 2 * 0 + _ ≤ _; exact Nat.le_of_eq rfl) (hb hby at_106) (fun _ _ => ⟨rfl, e375, (by decide : 3 + 2 ≤ _), (by decide : 10 + 5 ≤ _)⟩)
    dsimp only [Pt.U, Pt.locs, Pt.cells, Pt.slots] at X493 l493 y493 z493 st493 hQ493
    subst l493 y493 z493
    obtain ⟨s_493, b_493, k_493, rfl, Nq493, Kq493, w493_0, w493_1, w493_2, w493_3, w493_4, w493_5, w493_6⟩ := hQ493
    have N494 := Fr.app N376 Nq493
    obtain ⟨h493, e493⟩ : ∃ z, T493.heap = z := ⟨_, rfl⟩
    rw [e493] at Kq493 w493_3 w493_4 w493_5 w493_6
    have sf495 := Safe.keep Kq493 sf0 CR.1 sf377
    have sf496 := Safe.keep Kq493 sf0 CR.1 sf378
    have sf497 := Safe.keep Kq493 sf0 CR.1 sf383
    have ne498 : b345 ≠ s_493 := Nat.ne_of_lt (Nat.lt_of_lt_of_le f384.lt w493_0)
    have ne499 : b365 ≠ s_493 := Nat.ne_of_lt (Nat.lt_of_lt_of_le w375_1.lt w493_0)
    have ne500 : b_375 ≠ s_493 := Nat.ne_of_lt (Nat.lt_of_lt_of_le w375_4.lt w493_0)
    have g501 : n0 ≤ s_493 := Nat.le_trans (own_old O386) w493_0
    have sf502 : Safe Z own_EL st_.vm h375 s_493 := Safe.new w493_0
    have ne503 : b345 ≠ b_493 := Nat.ne_of_lt (Nat.lt_of_lt_of_le f384.lt w493_1)
    have ne504 : b365 ≠ b_493 := Nat.ne_of_lt (Nat.lt_of_lt_of_le w375_1.lt w493_1)
    have ne505 : b_375 ≠ b_493 := Nat.ne_of_lt (Nat.lt_of_lt_of_le w375_4.lt w493_1)
    have g506 : n0 ≤ b_493 := Nat.le_trans (own_old O386) w493_1
    have sf507 : Safe Z own_EL st_.vm h375 b_493 := Safe.new w493_1
    have sf508 := Safe.keep Kq493 sf0 CR.1 sf502
    have sf509 := Safe.keep Kq493 sf0 CR.1 sf507
    have CR := CR.trans (CHr.keep Kq493 sf0 CR.1)
    have hk := Nat.le_trans hk Kq493.1
    have f510 : Arv Z h493 b345 k345 .char (3 : Int32) [(.int ((p1 &&& (255 : Int32)).toUInt32.toUInt16.toUInt32.toInt32)), (.int ((((p1.toUInt32 >>> ((8 : Int32) &&& 31).toUInt32).toInt32) &&& (255 : Int32)).toUInt32.toUInt16.toUInt32.toInt32)), (.int ((((p1.toUInt32 >>> ((16 : Int32) &&& 31).toUInt32).toInt32) &&& (255 : Int32)).toUInt32.toUInt16.toUInt32.toInt32))] (.int (0 : Int32)) := f384.keep Kq493 nin0
    have f511 : Exa Z h493 b365 "java/lang/String" := w375_1.keep Kq493
    have f512 : Fld Z h493 b365 "java/lang/String" "coder" "B" (.int (0 : Int32)) := w375_2.keep Kq493 nin0
    have f513 : Fld Z h493 b365 "java/lang/String" "value" "[B" (.ref b_375) := w375_3.keep Kq493 nin0
    have f514 : Arv Z h493 b_375 k_375 .byte (3 : Int32) [(.int (((p1 &&& (255 : Int32)).toUInt32.toUInt16.toUInt32.toInt32).toInt8.toInt32)), (.int (((((p1.toUInt32 >>> ((8 : Int32) &&& 31).toUInt32).toInt32) &&& (255 : Int32)).toUInt32.toUInt16.toUInt32.toInt32).toInt8.toInt32)), (.int (((((p1.toUInt32 >>> ((16 : Int32) &&& 31).toUInt32).toInt32) &&& (255 : Int32)).toUInt32.toUInt16.toUInt32.toInt32).toInt8.toInt32))] (.int (0 : Int32)) := w375_4.keep Kq493 nin0
    have O515 := O386.keep Kq493 all0
    refine gv st493 ?_
    show G (T493.setTop (mkF me_ 109 #[.val (.int p0), .val (.int p1), .val (.int p2), .val (.int p3), .val (.int p4), .val (.ref b345), .val (.ref b365), .val (.int (p2 &&& (3 : Int32))), .val (.int ((p2 &&& (3 : Int32)) + ((((p2.toUInt32 >>> ((2 : Int32) &&& 31).toUInt32).toInt32) &&& (3 : Int32)) % ((4 : Int32) - (p2 &&& (3 : Int32)))))), .val (.int (2 : Int32)), .val .null, .unset, .unset, .unset] [(.ref s_493)]))
    refine gv (fun tQ kQ => XS.astore X493.here hx rfl (hb hby at_109) rfl rfl (l' := #[.val (.int p0), .val (.int p1), .val (.int p2), .val (.int p3), .val (.int p4), .val (.ref b345), .val (.ref b365), .val (.int (p2 &&& (3 : Int32))), .val (.int ((p2 &&& (3 : Int32)) + ((((p2.toUInt32 >>> ((2 : Int32) &&& 31).toUInt32).toInt32) &&& (3 : Int32)) % ((4 : Int32) - (p2 &&& (3 : Int32)))))), .val (.int (2 : Int32)), .val (.ref s_493), .unset, .unset, .unset]) rfl kQ) ?_
    show G (T493.setTop (mkF me_ 111 #[.val (.int p0), .val (.int p1), .val (.int p2), .val (.int p3), .val (.int p4), .val (.ref b345), .val (.ref b365), .val (.int (p2 &&& (3 : Int32))), .val (.int ((p2 &&& (3 : Int32)) + ((((p2.toUInt32 >>> ((2 : Int32) &&& 31).toUInt32).toInt32) &&& (3 : Int32)) % ((4 : Int32) - (p2 &&& (3 : Int32)))))), .val (.int (2 : Int32)), .val (.ref s_493), .unset, .unset, .unset] []))
    refine gv (fun tQ kQ => XS.goto X493.here hx rfl (pc0 := 111) (pc' := 161) rfl (hb hby at_111) (by decide) (by decide) kQ) ?_
    show G (T493.setTop (mkF me_ 161 #[.val (.int p0), .val (.int p1), .val (.int p2), .val (.int p3), .val (.int p4), .val (.ref b345), .val (.ref b365), .val (.int (p2 &&& (3 : Int32))), .val (.int ((p2 &&& (3 : Int32)) + ((((p2.toUInt32 >>> ((2 : Int32) &&& 31).toUInt32).toInt32) &&& (3 : Int32)) % ((4 : Int32) - (p2 &&& (3 : Int32)))))), .val (.int (2 : Int32)), .val (.ref s_493), .unset, .unset, .unset] []))
    obtain ⟨T516, h516, X516, e516, E516, A516, D516, -, st516⟩ := newO X493 hx hZ hown (hw _ (List.mem_of_getElem? (i := 33) rfl)) (hw _ (List.mem_of_getElem? (i := 34) rfl)) (hw _ (List.mem_of_getElem? (i := 35) rfl)) e493 (g := (mkF me_ 161 #[.val (.int p0), .val (.int p1), .val (.int p2), .val (.int p3), .val (.int p4), .val (.ref b345), .val (.ref b365), .val (.int (p2 &&& (3 : Int32))), .val (.int ((p2 &&& (3 : Int32)) + ((((p2.toUInt32 >>> ((2 : Int32) &&& 31).toUInt32).toInt32) &&& (3 : Int32)) % ((4 : Int32) - (p2 &&& (3 : Int32)))))), .val (.int (2 : Int32)), .val (.ref s_493), .unset, .unset, .unset] [])) rfl (hb hby at_161) (by decide) (by decide)
    obtain ⟨b516, g516⟩ : ∃ z, z = h493.size := ⟨_, rfl⟩
    rw [← g516] at A516 D516 st516
    refine gv st516 ?_
    have ne517 : b345 ≠ b516 := Nat.ne_of_lt (Nat.lt_of_lt_of_le f510.lt (Nat.le_of_eq g516.symm))
    have ne518 : b365 ≠ b516 := Nat.ne_of_lt (Nat.lt_of_lt_of_le f511.lt (Nat.le_of_eq g516.symm))
    have ne519 : b_375 ≠ b516 := Nat.ne_of_lt (Nat.lt_of_lt_of_le f514.lt (Nat.le_of_eq g516.symm))
    have ne520 : s_493 ≠ b516 := Nat.ne_of_lt (Nat.lt_of_lt_of_le w493_3.lt (Nat.le_of_eq g516.symm))
    have ne521 : b_493 ≠ b516 := Nat.ne_of_lt (Nat.lt_of_lt_of_le w493_6.lt (Nat.le_of_eq g516.symm))
    have g522 : n0 ≤ b516 := Nat.le_trans (own_old O515) (Nat.le_of_eq g516.symm)
    have sf523 : Safe Z own_EL st_.vm h493 b516 := Safe.new (Nat.le_of_eq g516.symm)
    have f524 : Arv Z h516 b345 k345 .char (3 : Int32) [(.int ((p1 &&& (255 : Int32)).toUInt32.toUInt16.toUInt32.toInt32)), (.int ((((p1.toUInt32 >>> ((8 : Int32) &&& 31).toUInt32).toInt32) &&& (255 : Int32)).toUInt32.toUInt16.toUInt32.toInt32)), (.int ((((p1.toUInt32 >>> ((16 : Int32) &&& 31).toUInt32).toInt32) &&& (255 : Int32)).toUInt32.toUInt16.toUInt32.toInt32))] (.int (0 : Int32)) := f510.ext E516
    have f525 : Exa Z h516 b365 "java/lang/String" := f511.ext E516
    have f526 : Fld Z h516 b365 "java/lang/String" "coder" "B" (.int (0 : Int32)) := f512.ext E516
    have f527 : Fld Z h516 b365 "java/lang/String" "value" "[B" (.ref b_375) := f513.ext E516
    have f528 : Arv Z h516 b_375 k_375 .byte (3 : Int32) [(.int (((p1 &&& (255 : Int32)).toUInt32.toUInt16.toUInt32.toInt32).toInt8.toInt32)), (.int (((((p1.toUInt32 >>> ((8 : Int32) &&& 31).toUInt32).toInt32) &&& (255 : Int32)).toUInt32.toUInt16.toUInt32.toInt32).toInt8.toInt32)), (.int (((((p1.toUInt32 >>> ((16 : Int32) &&& 31).toUInt32).toInt32) &&& (255 : Int32)).toUInt32.toUInt16.toUInt32.toInt32).toInt8.toInt32))] (.int (0 : Int32)) := f514.ext E516
    have f529 : Exa Z h516 s_493 "java/lang/String" := w493_3.ext E516
    have f530 : Fld Z h516 s_493 "java/lang/String" "coder" "B" (.int (0 : Int32)) := w493_4.ext E516
    have f531 : Fld Z h516 s_493 "java/lang/String" "value" "[B" (.ref b_493) := w493_5.ext E516
    have f532 : Arv Z h516 b_493 k_493 .byte (1 : Int32) [(.int (((p4 &&& (255 : Int32)).toUInt32.toUInt16.toUInt32.toInt32).toInt8.toInt32))] (.int (0 : Int32)) := w493_6.ext E516
    have sf533 := Safe.ext E516 CR.1 sf495
    have sf534 := Safe.ext E516 CR.1 sf496
    have sf535 := Safe.ext E516 CR.1 sf497
    have sf536 := Safe.ext E516 CR.1 sf508
    have sf537 := Safe.ext E516 CR.1 sf509
    have sf538 := Safe.ext E516 CR.1 sf523
    have CR := CR.trans (CHr.ext E516 CR.1)
    have hk := Nat.le_trans hk E516.1
    have O539 := O515.ext E516
    have f540 : Fld Z h516 b516 "com/example/hits_in_context/hitsincontext/io/XmlCharacterData$Piece" "kind" "Lcom/example/hits_in_context/hitsincontext/io/XmlCharacterData$Kind;" .null := D516 (Or.inr (hw _ (List.mem_of_getElem? (i := 48) rfl))) (ty := (.object "com/example/hits_in_context/hitsincontext/io/XmlCharacterData$Kind")) (by decide)
    have f541 : Fld Z h516 b516 "com/example/hits_in_context/hitsincontext/io/XmlCharacterData$Piece" "source" "Ljava/lang/String;" .null := D516 (Or.inr (hw _ (List.mem_of_getElem? (i := 50) rfl))) (ty := (.object "java/lang/String")) (by decide)
    have f542 : Fld Z h516 b516 "com/example/hits_in_context/hitsincontext/io/XmlCharacterData$Piece" "start" "I" (.int (0 : Int32)) := D516 (Or.inr (hw _ (List.mem_of_getElem? (i := 52) rfl))) (ty := .int) (by decide)
    have f543 : Fld Z h516 b516 "com/example/hits_in_context/hitsincontext/io/XmlCharacterData$Piece" "end" "I" (.int (0 : Int32)) := D516 (Or.inr (hw _ (List.mem_of_getElem? (i := 54) rfl))) (ty := .int) (by decide)
    have f544 : Fld Z h516 b516 "com/example/hits_in_context/hitsincontext/io/XmlCharacterData$Piece" "chars" "Ljava/lang/String;" .null := D516 (Or.inr (hw _ (List.mem_of_getElem? (i := 56) rfl))) (ty := (.object "java/lang/String")) (by decide)
    show G (T516.setTop (mkF me_ 164 #[.val (.int p0), .val (.int p1), .val (.int p2), .val (.int p3), .val (.int p4), .val (.ref b345), .val (.ref b365), .val (.int (p2 &&& (3 : Int32))), .val (.int ((p2 &&& (3 : Int32)) + ((((p2.toUInt32 >>> ((2 : Int32) &&& 31).toUInt32).toInt32) &&& (3 : Int32)) % ((4 : Int32) - (p2 &&& (3 : Int32)))))), .val (.int (2 : Int32)), .val (.ref s_493), .unset, .unset, .unset] [(.ref b516)]))
    refine gv (fun tQ kQ => XS.dup X516.here hx rfl (hb hby at_164) rfl rfl kQ) ?_
    show G (T516.setTop (mkF me_ 165 #[.val (.int p0), .val (.int p1), .val (.int p2), .val (.int p3), .val (.int p4), .val (.ref b345), .val (.ref b365), .val (.int (p2 &&& (3 : Int32))), .val (.int ((p2 &&& (3 : Int32)) + ((((p2.toUInt32 >>> ((2 : Int32) &&& 31).toUInt32).toInt32) &&& (3 : Int32)) % ((4 : Int32) - (p2 &&& (3 : Int32)))))), .val (.int (2 : Int32)), .val (.ref s_493), .unset, .unset, .unset] [(.ref b516), (.ref b516)]))
    refine gv (fun tQ kQ => XS.iloadN X516.here hx rfl (hb hby at_165) rfl kQ) ?_
    show G (T516.setTop (mkF me_ 166 #[.val (.int p0), .val (.int p1), .val (.int p2), .val (.int p3), .val (.int p4), .val (.ref b345), .val (.ref b365), .val (.int (p2 &&& (3 : Int32))), .val (.int ((p2 &&& (3 : Int32)) + ((((p2.toUInt32 >>> ((2 : Int32) &&& 31).toUInt32).toInt32) &&& (3 : Int32)) % ((4 : Int32) - (p2 &&& (3 : Int32)))))), .val (.int (2 : Int32)), .val (.ref s_493), .unset, .unset, .unset] [(.int p0), (.ref b516), (.ref b516)]))
    obtain ⟨_, _, ⟨T545, L545, k545, n545⟩, -, X545, ⟨Lc545, hQ545, l545, y545, z545⟩, st545⟩ := Jvm.LawKit.callS X516 hx (y := (⟨"com/example/hits_in_context/hitsincontext/io/PieceIsLiteralPinLaw", "kind", "(I)Lcom/example/hits_in_context/hitsincontext/io/XmlCharacterData$Kind;"⟩ : MethodName)) hown (mvT hZ (hw _ (List.mem_of_getElem? (i := 36) rfl))) (mvT hZ (hw _ (List.mem_of_getElem? (i := 37) rfl))) (mvT hZ (hw _ (List.mem_of_getElem? (i := 38) rfl))) (mvT hZ (hw _ (List.mem_of_getElem? (i := 39) rfl))) (by decide) (backOf (W := 2) (rm_kind l Z a0 hw [] p0 A_TEXT A_MARKUP A_DECLARATION A_ROOT_TAG A_CDATA_START A_CDATA_END A_ENTITY_START A_ENTITY_END h516 n0 O539 u2 u3 u4 u5 u6 u7 u8 u9) hZ (hw _ (List.mem_of_getElem? (i := 39) rfl)) (hw _ (List.mem_of_getElem? (i := 38) rfl)) (by decide) (by decide)) (g := (mkF me_ 166 #[.val (.int p0), .val (.int p1), .val (.int p2), .val (.int p3), .val (.int p4), .val (.ref b345), .val (.ref b365), .val (.int (p2 &&& (3 : Int32))), .val (.int ((p2 &&& (3 : Int32)) + ((((p2.toUInt32 >>> ((2 : Int32) &&& 31).toUInt32).toInt32) &&& (3 : Int32)) % ((4 : Int32) - (p2 &&& (3 : Int32)))))), .val (.int (2 : Int32)), .val (.ref s_493), .unset, .unset, .unset] [(.int p0), (.ref b516), (.ref b516)])) rfl (by rw [hml]; rfl) (argsL := [(.int p0)]) (rest := [(.ref b516), (.ref b516)]) (lenOf pd_10 rfl) rfl (by show 2 * 0 + _ ≤ _; exact Nat.le_of_eq rfl) (hb hby at_166) (fun _ _ => ⟨rfl, e516, (by decide : 6 + 0 ≤ _), (by decide : 20 + 0 ≤ _)⟩)
    dsimp only [Pt.U, Pt.locs, Pt.cells, Pt.slots] at X545 l545 y545 z545 st545 hQ545
    subst l545 y545 z545
    obtain ⟨r_545, rfl, Nq545, eq545⟩ := hQ545
    have N546 := Fr.app N494 Nq545
    refine gv st545 ?_
    show G (T545.setTop (mkF me_ 169 #[.val (.int p0), .val (.int p1), .val (.int p2), .val (.int p3), .val (.int p4), .val (.ref b345), .val (.ref b365), .val (.int (p2 &&& (3 : Int32))), .val (.int ((p2 &&& (3 : Int32)) + ((((p2.toUInt32 >>> ((2 : Int32) &&& 31).toUInt32).toInt32) &&& (3 : Int32)) % ((4 : Int32) - (p2 &&& (3 : Int32)))))), .val (.int (2 : Int32)), .val (.ref s_493), .unset, .unset, .unset] [(.ref r_545), (.ref b516), (.ref b516)]))
    refine gv (fun tQ kQ => XS.aload X545.here hx rfl (hb hby at_169) rfl rfl kQ) ?_
    show G (T545.setTop (mkF me_ 171 #[.val (.int p0), .val (.int p1), .val (.int p2), .val (.int p3), .val (.int p4), .val (.ref b345), .val (.ref b365), .val (.int (p2 &&& (3 : Int32))), .val (.int ((p2 &&& (3 : Int32)) + ((((p2.toUInt32 >>> ((2 : Int32) &&& 31).toUInt32).toInt32) &&& (3 : Int32)) % ((4 : Int32) - (p2 &&& (3 : Int32)))))), .val (.int (2 : Int32)), .val (.ref s_493), .unset, .unset, .unset] [(.ref b365), (.ref r_545), (.ref b516), (.ref b516)]))
    refine gv (fun tQ kQ => XS.iload X545.here hx rfl (hb hby at_171) rfl kQ) ?_
    show G (T545.setTop (mkF me_ 173 #[.val (.int p0), .val (.int p1), .val (.int p2), .val (.int p3), .val (.int p4), .val (.ref b345), .val (.ref b365), .val (.int (p2 &&& (3 : Int32))), .val (.int ((p2 &&& (3 : Int32)) + ((((p2.toUInt32 >>> ((2 : Int32) &&& 31).toUInt32).toInt32) &&& (3 : Int32)) % ((4 : Int32) - (p2 &&& (3 : Int32)))))), .val (.int (2 : Int32)), .val (.ref s_493), .unset, .unset, .unset] [(.int (p2 &&& (3 : Int32))), (.ref b365), (.ref r_545), (.ref b516), (.ref b516)]))
    refine gv (fun tQ kQ => XS.iload X545.here hx rfl (hb hby at_173) rfl kQ) ?_
    show G (T545.setTop (mkF me_ 175 #[.val (.int p0), .val (.int p1), .val (.int p2), .val (.int p3), .val (.int p4), .val (.ref b345), .val (.ref b365), .val (.int (p2 &&& (3 : Int32))), .val (.int ((p2 &&& (3 : Int32)) + ((((p2.toUInt32 >>> ((2 : Int32) &&& 31).toUInt32).toInt32) &&& (3 : Int32)) % ((4 : Int32) - (p2 &&& (3 : Int32)))))), .val (.int (2 : Int32)), .val (.ref s_493), .unset, .unset, .unset] [(.int ((p2 &&& (3 : Int32)) + ((((p2.toUInt32 >>> ((2 : Int32) &&& 31).toUInt32).toInt32) &&& (3 : Int32)) % ((4 : Int32) - (p2 &&& (3 : Int32)))))), (.int (p2 &&& (3 : Int32))), (.ref b365), (.ref r_545), (.ref b516), (.ref b516)]))
    refine gv (fun tQ kQ => XS.aload X545.here hx rfl (hb hby at_175) rfl rfl kQ) ?_
    show G (T545.setTop (mkF me_ 177 #[.val (.int p0), .val (.int p1), .val (.int p2), .val (.int p3), .val (.int p4), .val (.ref b345), .val (.ref b365), .val (.int (p2 &&& (3 : Int32))), .val (.int ((p2 &&& (3 : Int32)) + ((((p2.toUInt32 >>> ((2 : Int32) &&& 31).toUInt32).toInt32) &&& (3 : Int32)) % ((4 : Int32) - (p2 &&& (3 : Int32)))))), .val (.int (2 : Int32)), .val (.ref s_493), .unset, .unset, .unset] [(.ref s_493), (.int ((p2 &&& (3 : Int32)) + ((((p2.toUInt32 >>> ((2 : Int32) &&& 31).toUInt32).toInt32) &&& (3 : Int32)) % ((4 : Int32) - (p2 &&& (3 : Int32)))))), (.int (p2 &&& (3 : Int32))), (.ref b365), (.ref r_545), (.ref b516), (.ref b516)]))
    obtain ⟨_, _, ⟨T547, L547, k547, n547⟩, -, X547, ⟨Lc547, hQ547, l547, y547, z547⟩, st547⟩ := X545.specialBack hx (y := (⟨"com/example/hits_in_context/hitsincontext/io/XmlCharacterData$Piece", "<init>", "(Lcom/example/hits_in_context/hitsincontext/io/XmlCharacterData$Kind;Ljava/lang/String;IILjava/lang/String;)V"⟩ : MethodName)) rfl hown (mvT hZ (hw _ (List.mem_of_getElem? (i := 43) rfl))) (mvT hZ (hw _ (List.mem_of_getElem? (i := 44) rfl))) (mvT hZ (hw _ (List.mem_of_getElem? (i := 45) rfl))) (by decide) (backOf (W := 1) (rm_piR l Z a0 hw [] b516 r_545 b365 (p2 &&& (3 : Int32)) ((p2 &&& (3 : Int32)) + ((((p2.toUInt32 >>> ((2 : Int32) &&& 31).toUInt32).toInt32) &&& (3 : Int32)) % ((4 : Int32) - (p2 &&& (3 : Int32))))) s_493 h516 n0 O539 A516 f540 f541 f542 f543 f544 g522) hZ (hw _ (List.mem_of_getElem? (i := 45) rfl)) (hw _ (List.mem_of_getElem? (i := 35) rfl)) (by decide) (by decide)) (g := (mkF me_ 177 #[.val (.int p0), .val (.int p1), .val (.int p2), .val (.int p3), .val (.int p4), .val (.ref b345), .val (.ref b365), .val (.int (p2 &&& (3 : Int32))), .val (.int ((p2 &&& (3 : Int32)) + ((((p2.toUInt32 >>> ((2 : Int32) &&& 31).toUInt32).toInt32) &&& (3 : Int32)) % ((4 : Int32) - (p2 &&& (3 : Int32)))))), .val (.int (2 : Int32)), .val (.ref s_493), .unset, .unset, .unset] [(.ref s_493), (.int ((p2 &&& (3 : Int32)) + ((((p2.toUInt32 >>> ((2 : Int32) &&& 31).toUInt32).toInt32) &&& (3 : Int32)) % ((4 : Int32) - (p2 &&& (3 : Int32)))))), (.int (p2 &&& (3 : Int32))), (.ref b365), (.ref r_545), (.ref b516), (.ref b516)])) rfl (by rw [hml]; rfl) (Steps.refl _) (a := b516) (argsL := [(.ref r_545), (.ref b365), (.int (p2 &&& (3 : Int32))), (.int ((p2 &&& (3 : Int32)) + ((((p2.toUInt32 >>> ((2 : Int32) &&& 31).toUInt32).toInt32) &&& (3 : Int32)) % ((4 : Int32) - (p2 &&& (3 : Int32)))))), (.ref s_493)]) (rest := [(.ref b516)]) (lenOf pd_11 rfl) rfl (by show 2 * 0 + _ ≤ _; exact Nat.le_of_eq rfl) (hb hby at_177) (fun _ _ => ⟨rfl, eq545, (by decide : 6 + 0 ≤ _), (by decide : 20 + 0 ≤ _)⟩)
    dsimp only [Pt.U, Pt.locs, Pt.cells, Pt.slots] at X547 l547 y547 z547 st547 hQ547
    subst l547 y547 z547
    obtain ⟨rfl, Nq547, Kq547, w547_0, w547_1, w547_2, w547_3⟩ := hQ547
    have N548 := Fr.app N546 Nq547
    obtain ⟨h547, e547⟩ : ∃ z, T547.heap = z := ⟨_, rfl⟩
    rw [e547] at Kq547 w547_0 w547_1 w547_2 w547_3
    have sf549 := Safe.keep Kq547 (sfS (Safe.exa hZ.alike A516 (by decide) (by decide)) sf0) CR.1 sf533
    have sf550 := Safe.keep Kq547 (sfS (Safe.exa hZ.alike A516 (by decide) (by decide)) sf0) CR.1 sf534
    have sf551 := Safe.keep Kq547 (sfS (Safe.exa hZ.alike A516 (by decide) (by decide)) sf0) CR.1 sf535
    have sf552 := Safe.keep Kq547 (sfS (Safe.exa hZ.alike A516 (by decide) (by decide)) sf0) CR.1 sf536
    have sf553 := Safe.keep Kq547 (sfS (Safe.exa hZ.alike A516 (by decide) (by decide)) sf0) CR.1 sf537
    have sf554 := Safe.keep Kq547 (sfS (Safe.exa hZ.alike A516 (by decide) (by decide)) sf0) CR.1 sf538
    have CR := CR.trans (CHr.keep Kq547 (sfS (Safe.exa hZ.alike A516 (by decide) (by decide)) sf0) CR.1)
    have hk := Nat.le_trans hk Kq547.1
    have f555 : Arv Z h547 b345 k345 .char (3 : Int32) [(.int ((p1 &&& (255 : Int32)).toUInt32.toUInt16.toUInt32.toInt32)), (.int ((((p1.toUInt32 >>> ((8 : Int32) &&& 31).toUInt32).toInt32) &&& (255 : Int32)).toUInt32.toUInt16.toUInt32.toInt32)), (.int ((((p1.toUInt32 >>> ((16 : Int32) &&& 31).toUInt32).toInt32) &&& (255 : Int32)).toUInt32.toUInt16.toUInt32.toInt32))] (.int (0 : Int32)) := f524.keep Kq547 (ninS ne517 nin0)
    have f556 : Exa Z h547 b365 "java/lang/String" := f525.keep Kq547
    have f557 : Fld Z h547 b365 "java/lang/String" "coder" "B" (.int (0 : Int32)) := f526.keep Kq547 (ninS ne518 nin0)
    have f558 : Fld Z h547 b365 "java/lang/String" "value" "[B" (.ref b_375) := f527.keep Kq547 (ninS ne518 nin0)
    have f559 : Arv Z h547 b_375 k_375 .byte (3 : Int32) [(.int (((p1 &&& (255 : Int32)).toUInt32.toUInt16.toUInt32.toInt32).toInt8.toInt32)), (.int (((((p1.toUInt32 >>> ((8 : Int32) &&& 31).toUInt32).toInt32) &&& (255 : Int32)).toUInt32.toUInt16.toUInt32.toInt32).toInt8.toInt32)), (.int (((((p1.toUInt32 >>> ((16 : Int32) &&& 31).toUInt32).toInt32) &&& (255 : Int32)).toUInt32.toUInt16.toUInt32.toInt32).toInt8.toInt32))] (.int (0 : Int32)) := f528.keep Kq547 (ninS ne519 nin0)
    have f560 : Exa Z h547 s_493 "java/lang/String" := f529.keep Kq547
    have f561 : Fld Z h547 s_493 "java/lang/String" "coder" "B" (.int (0 : Int32)) := f530.keep Kq547 (ninS ne520 nin0)
    have f562 : Fld Z h547 s_493 "java/lang/String" "value" "[B" (.ref b_493) := f531.keep Kq547 (ninS ne520 nin0)
    have f563 : Arv Z h547 b_493 k_493 .byte (1 : Int32) [(.int (((p4 &&& (255 : Int32)).toUInt32.toUInt16.toUInt32.toInt32).toInt8.toInt32))] (.int (0 : Int32)) := f532.keep Kq547 (ninS ne521 nin0)
    have f564 : Exa Z h547 b516 "com/example/hits_in_context/hitsincontext/io/XmlCharacterData$Piece" := A516.keep Kq547
    have O565 := O539.keep Kq547 (allS g522 all0)
    refine gv (fun tQ kQ => st547.trans kQ) ?_
    show G (T547.setTop (mkF me_ 180 #[.val (.int p0), .val (.int p1), .val (.int p2), .val (.int p3), .val (.int p4), .val (.ref b345), .val (.ref b365), .val (.int (p2 &&& (3 : Int32))), .val (.int ((p2 &&& (3 : Int32)) + ((((p2.toUInt32 >>> ((2 : Int32) &&& 31).toUInt32).toInt32) &&& (3 : Int32)) % ((4 : Int32) - (p2 &&& (3 : Int32)))))), .val (.int (2 : Int32)), .val (.ref s_493), .unset, .unset, .unset] [(.ref b516)]))
    refine gv (fun tQ kQ => XS.astore X547.here hx rfl (hb hby at_180) rfl rfl (l' := #[.val (.int p0), .val (.int p1), .val (.int p2), .val (.int p3), .val (.int p4), .val (.ref b345), .val (.ref b365), .val (.int (p2 &&& (3 : Int32))), .val (.int ((p2 &&& (3 : Int32)) + ((((p2.toUInt32 >>> ((2 : Int32) &&& 31).toUInt32).toInt32) &&& (3 : Int32)) % ((4 : Int32) - (p2 &&& (3 : Int32)))))), .val (.int (2 : Int32)), .val (.ref s_493), .val (.ref b516), .unset, .unset]) rfl kQ) ?_
    show G (T547.setTop (mkF me_ 182 #[.val (.int p0), .val (.int p1), .val (.int p2), .val (.int p3), .val (.int p4), .val (.ref b345), .val (.ref b365), .val (.int (p2 &&& (3 : Int32))), .val (.int ((p2 &&& (3 : Int32)) + ((((p2.toUInt32 >>> ((2 : Int32) &&& 31).toUInt32).toInt32) &&& (3 : Int32)) % ((4 : Int32) - (p2 &&& (3 : Int32)))))), .val (.int (2 : Int32)), .val (.ref s_493), .val (.ref b516), .unset, .unset] []))
    refine gv (fun tQ kQ => XS.aload X547.here hx rfl (hb hby at_182) rfl rfl kQ) ?_
    show G (T547.setTop (mkF me_ 184 #[.val (.int p0), .val (.int p1), .val (.int p2), .val (.int p3), .val (.int p4), .val (.ref b345), .val (.ref b365), .val (.int (p2 &&& (3 : Int32))), .val (.int ((p2 &&& (3 : Int32)) + ((((p2.toUInt32 >>> ((2 : Int32) &&& 31).toUInt32).toInt32) &&& (3 : Int32)) % ((4 : Int32) - (p2 &&& (3 : Int32)))))), .val (.int (2 : Int32)), .val (.ref s_493), .val (.ref b516), .unset, .unset] [(.ref b516)]))
    obtain ⟨cq566, kq566, q566a, q566b, q566c⟩ := isOf hZ e547 w547_0
    obtain ⟨_, _, ⟨T566, L566, k566, n566⟩, -, X566, ⟨Lc566, hQ566, l566, y566, z566⟩, st566⟩ := X547.virtualBack hx (y := (⟨"com/example/hits_in_context/hitsincontext/io/XmlCharacterData$Piece", "isLiteral", "()Z"⟩ : MethodName)) (z := (⟨"com/example/hits_in_context/hitsincontext/io/XmlCharacterData$Piece", "isLiteral", "()Z"⟩ : MethodName)) hown (mvT hZ (hw _ (List.mem_of_getElem? (i := 57) rfl))) (mvT hZ (hw _ (List.mem_of_getElem? (i := 58) rfl))) (notFace_of_selects (args := #[]) (mvT hZ (hw _ (List.mem_of_getElem? (i := 60) rfl)))) (mvT hZ (hw _ (List.mem_of_getElem? (i := 60) rfl))) (mvT hZ (hw _ (List.mem_of_getElem? (i := 59) rfl))) (by decide) (backOf (W := 0) (rm_islR l Z a0 hw [] b516 s_493 h547 n0 O565 w547_3) hZ (hw _ (List.mem_of_getElem? (i := 61) rfl)) (hw _ (List.mem_of_getElem? (i := 35) rfl)) (by decide) (by decide)) q566a q566c (g := (mkF me_ 184 #[.val (.int p0), .val (.int p1), .val (.int p2), .val (.int p3), .val (.int p4), .val (.ref b345), .val (.ref b365), .val (.int (p2 &&& (3 : Int32))), .val (.int ((p2 &&& (3 : Int32)) + ((((p2.toUInt32 >>> ((2 : Int32) &&& 31).toUInt32).toInt32) &&& (3 : Int32)) % ((4 : Int32) - (p2 &&& (3 : Int32)))))), .val (.int (2 : Int32)), .val (.ref s_493), .val (.ref b516), .unset, .unset] [(.ref b516)])) rfl (by rw [hml]; rfl) (Steps.refl _) (argsL := []) (rest := []) (lenOf pd_12 rfl) rfl (by show 2 * 0 + _ ≤ _; exact Nat.le_of_eq rfl) (hb hby at_184) (fun _ _ => ⟨rfl, e547, (by decide : 6 + 0 ≤ _), (by decide : 20 + 0 ≤ _)⟩)
    dsimp only [Pt.U, Pt.locs, Pt.cells, Pt.slots] at X566 l566 y566 z566 st566 hQ566
    subst l566 y566 z566
    obtain ⟨rfl, Nq566, eq566⟩ := hQ566
    have N567 := Fr.app N548 Nq566
    refine gv (fun tQ kQ => st566.trans kQ) ?_
    show G (T566.setTop (mkF me_ 187 #[.val (.int p0), .val (.int p1), .val (.int p2), .val (.int p3), .val (.int p4), .val (.ref b345), .val (.ref b365), .val (.int (p2 &&& (3 : Int32))), .val (.int ((p2 &&& (3 : Int32)) + ((((p2.toUInt32 >>> ((2 : Int32) &&& 31).toUInt32).toInt32) &&& (3 : Int32)) % ((4 : Int32) - (p2 &&& (3 : Int32)))))), .val (.int (2 : Int32)), .val (.ref s_493), .val (.ref b516), .unset, .unset] [(.int (0 : Int32))]))
    refine gv (fun tQ kQ => XS.istore X566.here hx rfl (hb hby at_187) rfl (l' := #[.val (.int p0), .val (.int p1), .val (.int p2), .val (.int p3), .val (.int p4), .val (.ref b345), .val (.ref b365), .val (.int (p2 &&& (3 : Int32))), .val (.int ((p2 &&& (3 : Int32)) + ((((p2.toUInt32 >>> ((2 : Int32) &&& 31).toUInt32).toInt32) &&& (3 : Int32)) % ((4 : Int32) - (p2 &&& (3 : Int32)))))), .val (.int (2 : Int32)), .val (.ref s_493), .val (.ref b516), .val (.int (0 : Int32)), .unset]) rfl kQ) ?_
    show G (T566.setTop (mkF me_ 189 #[.val (.int p0), .val (.int p1), .val (.int p2), .val (.int p3), .val (.int p4), .val (.ref b345), .val (.ref b365), .val (.int (p2 &&& (3 : Int32))), .val (.int ((p2 &&& (3 : Int32)) + ((((p2.toUInt32 >>> ((2 : Int32) &&& 31).toUInt32).toInt32) &&& (3 : Int32)) % ((4 : Int32) - (p2 &&& (3 : Int32)))))), .val (.int (2 : Int32)), .val (.ref s_493), .val (.ref b516), .val (.int (0 : Int32)), .unset] []))
    refine gv (fun tQ kQ => XS.iload X566.here hx rfl (hb hby at_189) rfl kQ) ?_
    show G (T566.setTop (mkF me_ 191 #[.val (.int p0), .val (.int p1), .val (.int p2), .val (.int p3), .val (.int p4), .val (.ref b345), .val (.ref b365), .val (.int (p2 &&& (3 : Int32))), .val (.int ((p2 &&& (3 : Int32)) + ((((p2.toUInt32 >>> ((2 : Int32) &&& 31).toUInt32).toInt32) &&& (3 : Int32)) % ((4 : Int32) - (p2 &&& (3 : Int32)))))), .val (.int (2 : Int32)), .val (.ref s_493), .val (.ref b516), .val (.int (0 : Int32)), .unset] [(.int (0 : Int32))]))
    refine gv (fun tQ kQ => XS.iload X566.here hx rfl (hb hby at_191) rfl kQ) ?_
    show G (T566.setTop (mkF me_ 193 #[.val (.int p0), .val (.int p1), .val (.int p2), .val (.int p3), .val (.int p4), .val (.ref b345), .val (.ref b365), .val (.int (p2 &&& (3 : Int32))), .val (.int ((p2 &&& (3 : Int32)) + ((((p2.toUInt32 >>> ((2 : Int32) &&& 31).toUInt32).toInt32) &&& (3 : Int32)) % ((4 : Int32) - (p2 &&& (3 : Int32)))))), .val (.int (2 : Int32)), .val (.ref s_493), .val (.ref b516), .val (.int (0 : Int32)), .unset] [(.int (2 : Int32)), (.int (0 : Int32))]))
    refine gv (fun tQ kQ => XS.ifYes X566.here hx rfl (pc0 := 193) (pc' := 200) rfl (hb hby at_193) rfl ((if0 _ _).trans (feq (by decide : ¬ ((2 : Int32) = (0 : Int32)))).2) (by decide) (by decide) kQ) ?_
    show G (T566.setTop (mkF me_ 200 #[.val (.int p0), .val (.int p1), .val (.int p2), .val (.int p3), .val (.int p4), .val (.ref b345), .val (.ref b365), .val (.int (p2 &&& (3 : Int32))), .val (.int ((p2 &&& (3 : Int32)) + ((((p2.toUInt32 >>> ((2 : Int32) &&& 31).toUInt32).toInt32) &&& (3 : Int32)) % ((4 : Int32) - (p2 &&& (3 : Int32)))))), .val (.int (2 : Int32)), .val (.ref s_493), .val (.ref b516), .val (.int (0 : Int32)), .unset] [(.int (0 : Int32))]))
    refine gv (fun tQ kQ => XS.iconst X566.here hx rfl (hb hby at_200) kQ) ?_
    show G (T566.setTop (mkF me_ 201 #[.val (.int p0), .val (.int p1), .val (.int p2), .val (.int p3), .val (.int p4), .val (.ref b345), .val (.ref b365), .val (.int (p2 &&& (3 : Int32))), .val (.int ((p2 &&& (3 : Int32)) + ((((p2.toUInt32 >>> ((2 : Int32) &&& 31).toUInt32).toInt32) &&& (3 : Int32)) % ((4 : Int32) - (p2 &&& (3 : Int32)))))), .val (.int (2 : Int32)), .val (.ref s_493), .val (.ref b516), .val (.int (0 : Int32)), .unset] [(.int (0 : Int32)), (.int (0 : Int32))]))
    refine gv (fun tQ kQ => XS.icmpYes X566.here hx rfl (pc0 := 201) (pc' := 206) rfl (hb hby at_201) rfl (teq (by decide : (0 : Int32) = (0 : Int32))).1 (by decide) (by decide) kQ) ?_
    show G (T566.setTop (mkF me_ 206 #[.val (.int p0), .val (.int p1), .val (.int p2), .val (.int p3), .val (.int p4), .val (.ref b345), .val (.ref b365), .val (.int (p2 &&& (3 : Int32))), .val (.int ((p2 &&& (3 : Int32)) + ((((p2.toUInt32 >>> ((2 : Int32) &&& 31).toUInt32).toInt32) &&& (3 : Int32)) % ((4 : Int32) - (p2 &&& (3 : Int32)))))), .val (.int (2 : Int32)), .val (.ref s_493), .val (.ref b516), .val (.int (0 : Int32)), .unset] []))
    refine gv (fun tQ kQ => XS.iload X566.here hx rfl (hb hby at_206) rfl kQ) ?_
    show G (T566.setTop (mkF me_ 208 #[.val (.int p0), .val (.int p1), .val (.int p2), .val (.int p3), .val (.int p4), .val (.ref b345), .val (.ref b365), .val (.int (p2 &&& (3 : Int32))), .val (.int ((p2 &&& (3 : Int32)) + ((((p2.toUInt32 >>> ((2 : Int32) &&& 31).toUInt32).toInt32) &&& (3 : Int32)) % ((4 : Int32) - (p2 &&& (3 : Int32)))))), .val (.int (2 : Int32)), .val (.ref s_493), .val (.ref b516), .val (.int (0 : Int32)), .unset] [(.int (2 : Int32))]))
    refine gv (fun tQ kQ => XS.ifYes X566.here hx rfl (pc0 := 208) (pc' := 219) rfl (hb hby at_208) rfl ((if0 _ _).trans (feq (by decide : ¬ ((2 : Int32) = (0 : Int32)))).2) (by decide) (by decide) kQ) ?_
    show G (T566.setTop (mkF me_ 219 #[.val (.int p0), .val (.int p1), .val (.int p2), .val (.int p3), .val (.int p4), .val (.ref b345), .val (.ref b365), .val (.int (p2 &&& (3 : Int32))), .val (.int ((p2 &&& (3 : Int32)) + ((((p2.toUInt32 >>> ((2 : Int32) &&& 31).toUInt32).toInt32) &&& (3 : Int32)) % ((4 : Int32) - (p2 &&& (3 : Int32)))))), .val (.int (2 : Int32)), .val (.ref s_493), .val (.ref b516), .val (.int (0 : Int32)), .unset] []))
    refine gv (fun tQ kQ => XS.iload X566.here hx rfl (hb hby at_219) rfl kQ) ?_
    show G (T566.setTop (mkF me_ 221 #[.val (.int p0), .val (.int p1), .val (.int p2), .val (.int p3), .val (.int p4), .val (.ref b345), .val (.ref b365), .val (.int (p2 &&& (3 : Int32))), .val (.int ((p2 &&& (3 : Int32)) + ((((p2.toUInt32 >>> ((2 : Int32) &&& 31).toUInt32).toInt32) &&& (3 : Int32)) % ((4 : Int32) - (p2 &&& (3 : Int32)))))), .val (.int (2 : Int32)), .val (.ref s_493), .val (.ref b516), .val (.int (0 : Int32)), .unset] [(.int (2 : Int32))]))
    refine gv (fun tQ kQ => XS.iconst X566.here hx rfl (hb hby at_221) kQ) ?_
    show G (T566.setTop (mkF me_ 222 #[.val (.int p0), .val (.int p1), .val (.int p2), .val (.int p3), .val (.int p4), .val (.ref b345), .val (.ref b365), .val (.int (p2 &&& (3 : Int32))), .val (.int ((p2 &&& (3 : Int32)) + ((((p2.toUInt32 >>> ((2 : Int32) &&& 31).toUInt32).toInt32) &&& (3 : Int32)) % ((4 : Int32) - (p2 &&& (3 : Int32)))))), .val (.int (2 : Int32)), .val (.ref s_493), .val (.ref b516), .val (.int (0 : Int32)), .unset] [(.int (1 : Int32)), (.int (2 : Int32))]))
    refine gv (fun tQ kQ => XS.icmpYes X566.here hx rfl (pc0 := 222) (pc' := 229) rfl (hb hby at_222) rfl (feq (by decide : ¬ ((2 : Int32) = (1 : Int32)))).2 (by decide) (by decide) kQ) ?_
    show G (T566.setTop (mkF me_ 229 #[.val (.int p0), .val (.int p1), .val (.int p2), .val (.int p3), .val (.int p4), .val (.ref b345), .val (.ref b365), .val (.int (p2 &&& (3 : Int32))), .val (.int ((p2 &&& (3 : Int32)) + ((((p2.toUInt32 >>> ((2 : Int32) &&& 31).toUInt32).toInt32) &&& (3 : Int32)) % ((4 : Int32) - (p2 &&& (3 : Int32)))))), .val (.int (2 : Int32)), .val (.ref s_493), .val (.ref b516), .val (.int (0 : Int32)), .unset] []))
    refine gv (fun tQ kQ => XS.iload X566.here hx rfl (hb hby at_229) rfl kQ) ?_
    show G (T566.setTop (mkF me_ 231 #[.val (.int p0), .val (.int p1), .val (.int p2), .val (.int p3), .val (.int p4), .val (.ref b345), .val (.ref b365), .val (.int (p2 &&& (3 : Int32))), .val (.int ((p2 &&& (3 : Int32)) + ((((p2.toUInt32 >>> ((2 : Int32) &&& 31).toUInt32).toInt32) &&& (3 : Int32)) % ((4 : Int32) - (p2 &&& (3 : Int32)))))), .val (.int (2 : Int32)), .val (.ref s_493), .val (.ref b516), .val (.int (0 : Int32)), .unset] [(.int (2 : Int32))]))
    refine gv (fun tQ kQ => XS.iconst X566.here hx rfl (hb hby at_231) kQ) ?_
    show G (T566.setTop (mkF me_ 232 #[.val (.int p0), .val (.int p1), .val (.int p2), .val (.int p3), .val (.int p4), .val (.ref b345), .val (.ref b365), .val (.int (p2 &&& (3 : Int32))), .val (.int ((p2 &&& (3 : Int32)) + ((((p2.toUInt32 >>> ((2 : Int32) &&& 31).toUInt32).toInt32) &&& (3 : Int32)) % ((4 : Int32) - (p2 &&& (3 : Int32)))))), .val (.int (2 : Int32)), .val (.ref s_493), .val (.ref b516), .val (.int (0 : Int32)), .unset] [(.int (2 : Int32)), (.int (2 : Int32))]))
    refine gv (fun tQ kQ => XS.icmpNo X566.here hx rfl (hb hby at_232) rfl (teq (by decide : (2 : Int32) = (2 : Int32))).2 kQ) ?_
    show G (T566.setTop (mkF me_ 235 #[.val (.int p0), .val (.int p1), .val (.int p2), .val (.int p3), .val (.int p4), .val (.ref b345), .val (.ref b365), .val (.int (p2 &&& (3 : Int32))), .val (.int ((p2 &&& (3 : Int32)) + ((((p2.toUInt32 >>> ((2 : Int32) &&& 31).toUInt32).toInt32) &&& (3 : Int32)) % ((4 : Int32) - (p2 &&& (3 : Int32)))))), .val (.int (2 : Int32)), .val (.ref s_493), .val (.ref b516), .val (.int (0 : Int32)), .unset] []))
    refine gv (fun tQ kQ => XS.iconst X566.here hx rfl (hb hby at_235) kQ) ?_
    show G (T566.setTop (mkF me_ 236 #[.val (.int p0), .val (.int p1), .val (.int p2), .val (.int p3), .val (.int p4), .val (.ref b345), .val (.ref b365), .val (.int (p2 &&& (3 : Int32))), .val (.int ((p2 &&& (3 : Int32)) + ((((p2.toUInt32 >>> ((2 : Int32) &&& 31).toUInt32).toInt32) &&& (3 : Int32)) % ((4 : Int32) - (p2 &&& (3 : Int32)))))), .val (.int (2 : Int32)), .val (.ref s_493), .val (.ref b516), .val (.int (0 : Int32)), .unset] [(.int (1 : Int32))]))
    refine gv (fun tQ kQ => XS.goto X566.here hx rfl (pc0 := 236) (pc' := 240) rfl (hb hby at_236) (by decide) (by decide) kQ) ?_
    show G (T566.setTop (mkF me_ 240 #[.val (.int p0), .val (.int p1), .val (.int p2), .val (.int p3), .val (.int p4), .val (.ref b345), .val (.ref b365), .val (.int (p2 &&& (3 : Int32))), .val (.int ((p2 &&& (3 : Int32)) + ((((p2.toUInt32 >>> ((2 : Int32) &&& 31).toUInt32).toInt32) &&& (3 : Int32)) % ((4 : Int32) - (p2 &&& (3 : Int32)))))), .val (.int (2 : Int32)), .val (.ref s_493), .val (.ref b516), .val (.int (0 : Int32)), .unset] [(.int (1 : Int32))]))
    refine gv (fun tQ kQ => XS.istore X566.here hx rfl (hb hby at_240) rfl (l' := #[.val (.int p0), .val (.int p1), .val (.int p2), .val (.int p3), .val (.int p4), .val (.ref b345), .val (.ref b365), .val (.int (p2 &&& (3 : Int32))), .val (.int ((p2 &&& (3 : Int32)) + ((((p2.toUInt32 >>> ((2 : Int32) &&& 31).toUInt32).toInt32) &&& (3 : Int32)) % ((4 : Int32) - (p2 &&& (3 : Int32)))))), .val (.int (2 : Int32)), .val (.ref s_493), .val (.ref b516), .val (.int (0 : Int32)), .val (.int (1 : Int32))]) rfl kQ) ?_
    show G (T566.setTop (mkF me_ 242 #[.val (.int p0), .val (.int p1), .val (.int p2), .val (.int p3), .val (.int p4), .val (.ref b345), .val (.ref b365), .val (.int (p2 &&& (3 : Int32))), .val (.int ((p2 &&& (3 : Int32)) + ((((p2.toUInt32 >>> ((2 : Int32) &&& 31).toUInt32).toInt32) &&& (3 : Int32)) % ((4 : Int32) - (p2 &&& (3 : Int32)))))), .val (.int (2 : Int32)), .val (.ref s_493), .val (.ref b516), .val (.int (0 : Int32)), .val (.int (1 : Int32))] []))
    refine gv (fun tQ kQ => XS.aload X566.here hx rfl (hb hby at_242) rfl rfl kQ) ?_
    show G (T566.setTop (mkF me_ 244 #[.val (.int p0), .val (.int p1), .val (.int p2), .val (.int p3), .val (.int p4), .val (.ref b345), .val (.ref b365), .val (.int (p2 &&& (3 : Int32))), .val (.int ((p2 &&& (3 : Int32)) + ((((p2.toUInt32 >>> ((2 : Int32) &&& 31).toUInt32).toInt32) &&& (3 : Int32)) % ((4 : Int32) - (p2 &&& (3 : Int32)))))), .val (.int (2 : Int32)), .val (.ref s_493), .val (.ref b516), .val (.int (0 : Int32)), .val (.int (1 : Int32))] [(.ref b516)]))
    obtain ⟨cq568, kq568, q568a, q568b, q568c⟩ := isOf hZ eq566 w547_0
    obtain ⟨_, _, ⟨T568, L568, k568, n568⟩, -, X568, ⟨Lc568, hQ568, l568, y568, z568⟩, st568⟩ := X566.virtualBack hx (y := (⟨"com/example/hits_in_context/hitsincontext/io/XmlCharacterData$Piece", "length", "()I"⟩ : MethodName)) (z := (⟨"com/example/hits_in_context/hitsincontext/io/XmlCharacterData$Piece", "length", "()I"⟩ : MethodName)) hown (mvT hZ (hw _ (List.mem_of_getElem? (i := 62) rfl))) (mvT hZ (hw _ (List.mem_of_getElem? (i := 63) rfl))) (notFace_of_selects (args := #[]) (mvT hZ (hw _ (List.mem_of_getElem? (i := 65) rfl)))) (mvT hZ (hw _ (List.mem_of_getElem? (i := 65) rfl))) (mvT hZ (hw _ (List.mem_of_getElem? (i := 64) rfl))) (by decide) (backOf (W := 0) (rm_lenR1 l Z a0 hw [] b516 s_493 b_493 k_493 cs (((p4 &&& (255 : Int32)).toUInt32.toUInt16.toUInt32.toInt32).toInt8.toInt32) h547 n0 O565 u0 u1 w547_3 f560 f561 f562 f563) hZ (hw _ (List.mem_of_getElem? (i := 66) rfl)) (hw _ (List.mem_of_getElem? (i := 35) rfl)) (by decide) (by decide)) q568a q568c (g := (mkF me_ 244 #[.val (.int p0), .val (.int p1), .val (.int p2), .val (.int p3), .val (.int p4), .val (.ref b345), .val (.ref b365), .val (.int (p2 &&& (3 : Int32))), .val (.int ((p2 &&& (3 : Int32)) + ((((p2.toUInt32 >>> ((2 : Int32) &&& 31).toUInt32).toInt32) &&& (3 : Int32)) % ((4 : Int32) - (p2 &&& (3 : Int32)))))), .val (.int (2 : Int32)), .val (.ref s_493), .val (.ref b516), .val (.int (0 : Int32)), .val (.int (1 : Int32))] [(.ref b516)])) rfl (by rw [hml]; rfl) (Steps.refl _) (argsL := []) (rest := []) (lenOf pd_8 rfl) rfl (by show 2 * 0 + _ ≤ _; exact Nat.le_of_eq rfl) (hb hby at_244) (fun _ _ => ⟨rfl, eq566, (by decide : 6 + 0 ≤ _), (by decide : 20 + 0 ≤ _)⟩)
    dsimp only [Pt.U, Pt.locs, Pt.cells, Pt.slots] at X568 l568 y568 z568 st568 hQ568
    subst l568 y568 z568
    obtain ⟨rfl, Nq568, eq568⟩ := hQ568
    have N569 := Fr.app N567 Nq568
    refine gv (fun tQ kQ => st568.trans kQ) ?_
    show G (T568.setTop (mkF me_ 247 #[.val (.int p0), .val (.int p1), .val (.int p2), .val (.int p3), .val (.int p4), .val (.ref b345), .val (.ref b365), .val (.int (p2 &&& (3 : Int32))), .val (.int ((p2 &&& (3 : Int32)) + ((((p2.toUInt32 >>> ((2 : Int32) &&& 31).toUInt32).toInt32) &&& (3 : Int32)) % ((4 : Int32) - (p2 &&& (3 : Int32)))))), .val (.int (2 : Int32)), .val (.ref s_493), .val (.ref b516), .val (.int (0 : Int32)), .val (.int (1 : Int32))] [(.int (1 : Int32))]))
    refine gv (fun tQ kQ => XS.iload X568.here hx rfl (hb hby at_247) rfl kQ) ?_
    show G (T568.setTop (mkF me_ 249 #[.val (.int p0), .val (.int p1), .val (.int p2), .val (.int p3), .val (.int p4), .val (.ref b345), .val (.ref b365), .val (.int (p2 &&& (3 : Int32))), .val (.int ((p2 &&& (3 : Int32)) + ((((p2.toUInt32 >>> ((2 : Int32) &&& 31).toUInt32).toInt32) &&& (3 : Int32)) % ((4 : Int32) - (p2 &&& (3 : Int32)))))), .val (.int (2 : Int32)), .val (.ref s_493), .val (.ref b516), .val (.int (0 : Int32)), .val (.int (1 : Int32))] [(.int (1 : Int32)), (.int (1 : Int32))]))
    refine gv (fun tQ kQ => XS.icmpNo X568.here hx rfl (hb hby at_249) rfl (teq (by decide : (1 : Int32) = (1 : Int32))).2 kQ) ?_
    show G (T568.setTop (mkF me_ 252 #[.val (.int p0), .val (.int p1), .val (.int p2), .val (.int p3), .val (.int p4), .val (.ref b345), .val (.ref b365), .val (.int (p2 &&& (3 : Int32))), .val (.int ((p2 &&& (3 : Int32)) + ((((p2.toUInt32 >>> ((2 : Int32) &&& 31).toUInt32).toInt32) &&& (3 : Int32)) % ((4 : Int32) - (p2 &&& (3 : Int32)))))), .val (.int (2 : Int32)), .val (.ref s_493), .val (.ref b516), .val (.int (0 : Int32)), .val (.int (1 : Int32))] []))
    refine gv (fun tQ kQ => XS.iconst X568.here hx rfl (hb hby at_252) kQ) ?_
    show G (T568.setTop (mkF me_ 253 #[.val (.int p0), .val (.int p1), .val (.int p2), .val (.int p3), .val (.int p4), .val (.ref b345), .val (.ref b365), .val (.int (p2 &&& (3 : Int32))), .val (.int ((p2 &&& (3 : Int32)) + ((((p2.toUInt32 >>> ((2 : Int32) &&& 31).toUInt32).toInt32) &&& (3 : Int32)) % ((4 : Int32) - (p2 &&& (3 : Int32)))))), .val (.int (2 : Int32)), .val (.ref s_493), .val (.ref b516), .val (.int (0 : Int32)), .val (.int (1 : Int32))] [(.int (1 : Int32))]))
    refine gv (fun tQ kQ => XS.goto X568.here hx rfl (pc0 := 253) (pc' := 257) rfl (hb hby at_253) (by decide) (by decide) kQ) ?_
    show G (T568.setTop (mkF me_ 257 #[.val (.int p0), .val (.int p1), .val (.int p2), .val (.int p3), .val (.int p4), .val (.ref b345), .val (.ref b365), .val (.int (p2 &&& (3 : Int32))), .val (.int ((p2 &&& (3 : Int32)) + ((((p2.toUInt32 >>> ((2 : Int32) &&& 31).toUInt32).toInt32) &&& (3 : Int32)) % ((4 : Int32) - (p2 &&& (3 : Int32)))))), .val (.int (2 : Int32)), .val (.ref s_493), .val (.ref b516), .val (.int (0 : Int32)), .val (.int (1 : Int32))] [(.int (1 : Int32))]))
    refine gf _ (own_retW X568 Bd.notSynchronized hS (by rw [eq568]; exact hk) (v := some (.int (1 : Int32))) (fun h => by rw [Bd.returns] at h; cases h) ?_ (by decide) (by decide) (by rw [hh, eq568]; exact CR.trans (CHv.at X568 hZ hEL CR.1)) (fun fs hr => retN X568 hx (t := .boolean) Bd.returns (by simp) (hb hby at_257) hr))
    show Q0 Z p0 p1 p2 p3 p4 cs A_TEXT A_MARKUP A_DECLARATION A_ROOT_TAG A_CDATA_START A_CDATA_END A_ENTITY_START A_ENTITY_END h0 n0 _ T568.heap _
    rw [eq568]
    exact ⟨rfl, N569⟩
  · rw [q]
    show G (T375.setTop (mkF me_ 75 #[.val (.int p0), .val (.int p1), .val (.int p2), .val (.int p3), .val (.int p4), .val (.ref b345), .val (.ref b365), .val (.int (p2 &&& (3 : Int32))), .val (.int ((p2 &&& (3 : Int32)) + ((((p2.toUInt32 >>> ((2 : Int32) &&& 31).toUInt32).toInt32) &&& (3 : Int32)) % ((4 : Int32) - (p2 &&& (3 : Int32)))))), .unset, .unset, .unset, .unset, .unset] [(.int (3 : Int32))]))
    refine gv (fun tQ kQ => XS.istore X375.here hx rfl (hb hby at_75) rfl (l' := #[.val (.int p0), .val (.int p1), .val (.int p2), .val (.int p3), .val (.int p4), .val (.ref b345), .val (.ref b365), .val (.int (p2 &&& (3 : Int32))), .val (.int ((p2 &&& (3 : Int32)) + ((((p2.toUInt32 >>> ((2 : Int32) &&& 31).toUInt32).toInt32) &&& (3 : Int32)) % ((4 : Int32) - (p2 &&& (3 : Int32)))))), .val (.int (3 : Int32)), .unset, .unset, .unset, .unset]) rfl kQ) ?_
    show G (T375.setTop (mkF me_ 77 #[.val (.int p0), .val (.int p1), .val (.int p2), .val (.int p3), .val (.int p4), .val (.ref b345), .val (.ref b365), .val (.int (p2 &&& (3 : Int32))), .val (.int ((p2 &&& (3 : Int32)) + ((((p2.toUInt32 >>> ((2 : Int32) &&& 31).toUInt32).toInt32) &&& (3 : Int32)) % ((4 : Int32) - (p2 &&& (3 : Int32)))))), .val (.int (3 : Int32)), .unset, .unset, .unset, .unset] []))
    refine gv (fun tQ kQ => XS.aconstNull X375.here hx rfl (hb hby at_77) kQ) ?_
    show G (T375.setTop (mkF me_ 78 #[.val (.int p0), .val (.int p1), .val (.int p2), .val (.int p3), .val (.int p4), .val (.ref b345), .val (.ref b365), .val (.int (p2 &&& (3 : Int32))), .val (.int ((p2 &&& (3 : Int32)) + ((((p2.toUInt32 >>> ((2 : Int32) &&& 31).toUInt32).toInt32) &&& (3 : Int32)) % ((4 : Int32) - (p2 &&& (3 : Int32)))))), .val (.int (3 : Int32)), .unset, .unset, .unset, .unset] [.null]))
    refine gv (fun tQ kQ => XS.astore X375.here hx rfl (hb hby at_78) rfl rfl (l' := #[.val (.int p0), .val (.int p1), .val (.int p2), .val (.int p3), .val (.int p4), .val (.ref b345), .val (.ref b365), .val (.int (p2 &&& (3 : Int32))), .val (.int ((p2 &&& (3 : Int32)) + ((((p2.toUInt32 >>> ((2 : Int32) &&& 31).toUInt32).toInt32) &&& (3 : Int32)) % ((4 : Int32) - (p2 &&& (3 : Int32)))))), .val (.int (3 : Int32)), .val .null, .unset, .unset, .unset]) rfl kQ) ?_
    show G (T375.setTop (mkF me_ 80 #[.val (.int p0), .val (.int p1), .val (.int p2), .val (.int p3), .val (.int p4), .val (.ref b345), .val (.ref b365), .val (.int (p2 &&& (3 : Int32))), .val (.int ((p2 &&& (3 : Int32)) + ((((p2.toUInt32 >>> ((2 : Int32) &&& 31).toUInt32).toInt32) &&& (3 : Int32)) % ((4 : Int32) - (p2 &&& (3 : Int32)))))), .val (.int (3 : Int32)), .val .null, .unset, .unset, .unset] []))
    refine gv (fun tQ kQ => XS.iload X375.here hx rfl (hb hby at_80) rfl kQ) ?_
    show G (T375.setTop (mkF me_ 82 #[.val (.int p0), .val (.int p1), .val (.int p2), .val (.int p3), .val (.int p4), .val (.ref b345), .val (.ref b365), .val (.int (p2 &&& (3 : Int32))), .val (.int ((p2 &&& (3 : Int32)) + ((((p2.toUInt32 >>> ((2 : Int32) &&& 31).toUInt32).toInt32) &&& (3 : Int32)) % ((4 : Int32) - (p2 &&& (3 : Int32)))))), .val (.int (3 : Int32)), .val .null, .unset, .unset, .unset] [(.int (3 : Int32))]))
    refine gv (fun tQ kQ => XS.iconst X375.here hx rfl (hb hby at_82) kQ) ?_
    show G (T375.setTop (mkF me_ 83 #[.val (.int p0), .val (.int p1), .val (.int p2), .val (.int p3), .val (.int p4), .val (.ref b345), .val (.ref b365), .val (.int (p2 &&& (3 : Int32))), .val (.int ((p2 &&& (3 : Int32)) + ((((p2.toUInt32 >>> ((2 : Int32) &&& 31).toUInt32).toInt32) &&& (3 : Int32)) % ((4 : Int32) - (p2 &&& (3 : Int32)))))), .val (.int (3 : Int32)), .val .null, .unset, .unset, .unset] [(.int (1 : Int32)), (.int (3 : Int32))]))
    refine gv (fun tQ kQ => XS.icmpYes X375.here hx rfl (pc0 := 83) (pc' := 93) rfl (hb hby at_83) rfl (feq (by decide : ¬ ((3 : Int32) = (1 : Int32)))).2 (by decide) (by decide) kQ) ?_
    show G (T375.setTop (mkF me_ 93 #[.val (.int p0), .val (.int p1), .val (.int p2), .val (.int p3), .val (.int p4), .val (.ref b345), .val (.ref b365), .val (.int (p2 &&& (3 : Int32))), .val (.int ((p2 &&& (3 : Int32)) + ((((p2.toUInt32 >>> ((2 : Int32) &&& 31).toUInt32).toInt32) &&& (3 : Int32)) % ((4 : Int32) - (p2 &&& (3 : Int32)))))), .val (.int (3 : Int32)), .val .null, .unset, .unset, .unset] []))
    refine gv (fun tQ kQ => XS.iload X375.here hx rfl (hb hby at_93) rfl kQ) ?_
    show G (T375.setTop (mkF me_ 95 #[.val (.int p0), .val (.int p1), .val (.int p2), .val (.int p3), .val (.int p4), .val (.ref b345), .val (.ref b365), .val (.int (p2 &&& (3 : Int32))), .val (.int ((p2 &&& (3 : Int32)) + ((((p2.toUInt32 >>> ((2 : Int32) &&& 31).toUInt32).toInt32) &&& (3 : Int32)) % ((4 : Int32) - (p2 &&& (3 : Int32)))))), .val (.int (3 : Int32)), .val .null, .unset, .unset, .unset] [(.int (3 : Int32))]))
    refine gv (fun tQ kQ => XS.iconst X375.here hx rfl (hb hby at_95) kQ) ?_
    show G (T375.setTop (mkF me_ 96 #[.val (.int p0), .val (.int p1), .val (.int p2), .val (.int p3), .val (.int p4), .val (.ref b345), .val (.ref b365), .val (.int (p2 &&& (3 : Int32))), .val (.int ((p2 &&& (3 : Int32)) + ((((p2.toUInt32 >>> ((2 : Int32) &&& 31).toUInt32).toInt32) &&& (3 : Int32)) % ((4 : Int32) - (p2 &&& (3 : Int32)))))), .val (.int (3 : Int32)), .val .null, .unset, .unset, .unset] [(.int (2 : Int32)), (.int (3 : Int32))]))
    refine gv (fun tQ kQ => XS.icmpYes X375.here hx rfl (pc0 := 96) (pc' := 114) rfl (hb hby at_96) rfl (feq (by decide : ¬ ((3 : Int32) = (2 : Int32)))).2 (by decide) (by decide) kQ) ?_
    show G (T375.setTop (mkF me_ 114 #[.val (.int p0), .val (.int p1), .val (.int p2), .val (.int p3), .val (.int p4), .val (.ref b345), .val (.ref b365), .val (.int (p2 &&& (3 : Int32))), .val (.int ((p2 &&& (3 : Int32)) + ((((p2.toUInt32 >>> ((2 : Int32) &&& 31).toUInt32).toInt32) &&& (3 : Int32)) % ((4 : Int32) - (p2 &&& (3 : Int32)))))), .val (.int (3 : Int32)), .val .null, .unset, .unset, .unset] []))
    refine gv (fun tQ kQ => XS.iload X375.here hx rfl (hb hby at_114) rfl kQ) ?_
    show G (T375.setTop (mkF me_ 116 #[.val (.int p0), .val (.int p1), .val (.int p2), .val (.int p3), .val (.int p4), .val (.ref b345), .val (.ref b365), .val (.int (p2 &&& (3 : Int32))), .val (.int ((p2 &&& (3 : Int32)) + ((((p2.toUInt32 >>> ((2 : Int32) &&& 31).toUInt32).toInt32) &&& (3 : Int32)) % ((4 : Int32) - (p2 &&& (3 : Int32)))))), .val (.int (3 : Int32)), .val .null, .unset, .unset, .unset] [(.int (3 : Int32))]))
    refine gv (fun tQ kQ => XS.iconst X375.here hx rfl (hb hby at_116) kQ) ?_
    show G (T375.setTop (mkF me_ 117 #[.val (.int p0), .val (.int p1), .val (.int p2), .val (.int p3), .val (.int p4), .val (.ref b345), .val (.ref b365), .val (.int (p2 &&& (3 : Int32))), .val (.int ((p2 &&& (3 : Int32)) + ((((p2.toUInt32 >>> ((2 : Int32) &&& 31).toUInt32).toInt32) &&& (3 : Int32)) % ((4 : Int32) - (p2 &&& (3 : Int32)))))), .val (.int (3 : Int32)), .val .null, .unset, .unset, .unset] [(.int (3 : Int32)), (.int (3 : Int32))]))
    refine gv (fun tQ kQ => XS.icmpNo X375.here hx rfl (hb hby at_117) rfl (teq (by decide : (3 : Int32) = (3 : Int32))).2 kQ) ?_
    show G (T375.setTop (mkF me_ 120 #[.val (.int p0), .val (.int p1), .val (.int p2), .val (.int p3), .val (.int p4), .val (.ref b345), .val (.ref b365), .val (.int (p2 &&& (3 : Int32))), .val (.int ((p2 &&& (3 : Int32)) + ((((p2.toUInt32 >>> ((2 : Int32) &&& 31).toUInt32).toInt32) &&& (3 : Int32)) % ((4 : Int32) - (p2 &&& (3 : Int32)))))), .val (.int (3 : Int32)), .val .null, .unset, .unset, .unset] []))
    refine gv (fun tQ kQ => XS.iconst X375.here hx rfl (hb hby at_120) kQ) ?_
    show G (T375.setTop (mkF me_ 121 #[.val (.int p0), .val (.int p1), .val (.int p2), .val (.int p3), .val (.int p4), .val (.ref b345), .val (.ref b365), .val (.int (p2 &&& (3 : Int32))), .val (.int ((p2 &&& (3 : Int32)) + ((((p2.toUInt32 >>> ((2 : Int32) &&& 31).toUInt32).toInt32) &&& (3 : Int32)) % ((4 : Int32) - (p2 &&& (3 : Int32)))))), .val (.int (3 : Int32)), .val .null, .unset, .unset, .unset] [(.int (2 : Int32))]))
    obtain ⟨T570, h570, k570, X570, e570, E570, A570, st570⟩ := newP X375 hx hZ (hw _ (List.mem_of_getElem? (i := 0) rfl)) e375 (g := (mkF me_ 121 #[.val (.int p0), .val (.int p1), .val (.int p2), .val (.int p3), .val (.int p4), .val (.ref b345), .val (.ref b365), .val (.int (p2 &&& (3 : Int32))), .val (.int ((p2 &&& (3 : Int32)) + ((((p2.toUInt32 >>> ((2 : Int32) &&& 31).toUInt32).toInt32) &&& (3 : Int32)) % ((4 : Int32) - (p2 &&& (3 : Int32)))))), .val (.int (3 : Int32)), .val .null, .unset, .unset, .unset] [(.int (2 : Int32))])) rfl (hb hby at_121) rfl (by decide) (cap := 2) (by decide) (by decide) (by decide) (by decide)
    obtain ⟨b570, g570⟩ : ∃ z, z = h375.size := ⟨_, rfl⟩
    rw [← g570] at A570 st570
    refine gv st570 ?_
    have ne571 : b345 ≠ b570 := Nat.ne_of_lt (Nat.lt_of_lt_of_le f384.lt (Nat.le_of_eq g570.symm))
    have ne572 : b365 ≠ b570 := Nat.ne_of_lt (Nat.lt_of_lt_of_le w375_1.lt (Nat.le_of_eq g570.symm))
    have ne573 : b_375 ≠ b570 := Nat.ne_of_lt (Nat.lt_of_lt_of_le w375_4.lt (Nat.le_of_eq g570.symm))
    have g574 : n0 ≤ b570 := Nat.le_trans (own_old O386) (Nat.le_of_eq g570.symm)
    have sf575 : Safe Z own_EL st_.vm h375 b570 := Safe.new (Nat.le_of_eq g570.symm)
    have f576 : Arv Z h570 b345 k345 .char (3 : Int32) [(.int ((p1 &&& (255 : Int32)).toUInt32.toUInt16.toUInt32.toInt32)), (.int ((((p1.toUInt32 >>> ((8 : Int32) &&& 31).toUInt32).toInt32) &&& (255 : Int32)).toUInt32.toUInt16.toUInt32.toInt32)), (.int ((((p1.toUInt32 >>> ((16 : Int32) &&& 31).toUInt32).toInt32) &&& (255 : Int32)).toUInt32.toUInt16.toUInt32.toInt32))] (.int (0 : Int32)) := f384.ext E570
    have f577 : Exa Z h570 b365 "java/lang/String" := w375_1.ext E570
    have f578 : Fld Z h570 b365 "java/lang/String" "coder" "B" (.int (0 : Int32)) := w375_2.ext E570
    have f579 : Fld Z h570 b365 "java/lang/String" "value" "[B" (.ref b_375) := w375_3.ext E570
    have f580 : Arv Z h570 b_375 k_375 .byte (3 : Int32) [(.int (((p1 &&& (255 : Int32)).toUInt32.toUInt16.toUInt32.toInt32).toInt8.toInt32)), (.int (((((p1.toUInt32 >>> ((8 : Int32) &&& 31).toUInt32).toInt32) &&& (255 : Int32)).toUInt32.toUInt16.toUInt32.toInt32).toInt8.toInt32)), (.int (((((p1.toUInt32 >>> ((16 : Int32) &&& 31).toUInt32).toInt32) &&& (255 : Int32)).toUInt32.toUInt16.toUInt32.toInt32).toInt8.toInt32))] (.int (0 : Int32)) := w375_4.ext E570
    have sf581 := Safe.ext E570 CR.1 sf377
    have sf582 := Safe.ext E570 CR.1 sf378
    have sf583 := Safe.ext E570 CR.1 sf383
    have sf584 := Safe.ext E570 CR.1 sf575
    have CR := CR.trans (CHr.ext E570 CR.1)
    have hk := Nat.le_trans hk E570.1
    have O585 := O386.ext E570
    have V570 : Arv Z h570 b570 k570 .char (2 : Int32) [(.int (0 : Int32)), (.int (0 : Int32))] (.int (0 : Int32)) := (Arv.new A570 (by decide)).pad (pad_rep [] (.int (0 : Int32)) 2)
    show G (T570.setTop (mkF me_ 123 #[.val (.int p0), .val (.int p1), .val (.int p2), .val (.int p3), .val (.int p4), .val (.ref b345), .val (.ref b365), .val (.int (p2 &&& (3 : Int32))), .val (.int ((p2 &&& (3 : Int32)) + ((((p2.toUInt32 >>> ((2 : Int32) &&& 31).toUInt32).toInt32) &&& (3 : Int32)) % ((4 : Int32) - (p2 &&& (3 : Int32)))))), .val (.int (3 : Int32)), .val .null, .unset, .unset, .unset] [(.ref b570)]))
    refine gv (fun tQ kQ => XS.astore X570.here hx rfl (hb hby at_123) rfl rfl (l' := #[.val (.int p0), .val (.int p1), .val (.int p2), .val (.int p3), .val (.int p4), .val (.ref b345), .val (.ref b365), .val (.int (p2 &&& (3 : Int32))), .val (.int ((p2 &&& (3 : Int32)) + ((((p2.toUInt32 >>> ((2 : Int32) &&& 31).toUInt32).toInt32) &&& (3 : Int32)) % ((4 : Int32) - (p2 &&& (3 : Int32)))))), .val (.int (3 : Int32)), .val .null, .val (.ref b570), .unset, .unset]) rfl kQ) ?_
    show G (T570.setTop (mkF me_ 125 #[.val (.int p0), .val (.int p1), .val (.int p2), .val (.int p3), .val (.int p4), .val (.ref b345), .val (.ref b365), .val (.int (p2 &&& (3 : Int32))), .val (.int ((p2 &&& (3 : Int32)) + ((((p2.toUInt32 >>> ((2 : Int32) &&& 31).toUInt32).toInt32) &&& (3 : Int32)) % ((4 : Int32) - (p2 &&& (3 : Int32)))))), .val (.int (3 : Int32)), .val .null, .val (.ref b570), .unset, .unset] []))
    refine gv (fun tQ kQ => XS.aload X570.here hx rfl (hb hby at_125) rfl rfl kQ) ?_
    show G (T570.setTop (mkF me_ 127 #[.val (.int p0), .val (.int p1), .val (.int p2), .val (.int p3), .val (.int p4), .val (.ref b345), .val (.ref b365), .val (.int (p2 &&& (3 : Int32))), .val (.int ((p2 &&& (3 : Int32)) + ((((p2.toUInt32 >>> ((2 : Int32) &&& 31).toUInt32).toInt32) &&& (3 : Int32)) % ((4 : Int32) - (p2 &&& (3 : Int32)))))), .val (.int (3 : Int32)), .val .null, .val (.ref b570), .unset, .unset] [(.ref b570)]))
    refine gv (fun tQ kQ => XS.iconst X570.here hx rfl (hb hby at_127) kQ) ?_
    show G (T570.setTop (mkF me_ 128 #[.val (.int p0), .val (.int p1), .val (.int p2), .val (.int p3), .val (.int p4), .val (.ref b345), .val (.ref b365), .val (.int (p2 &&& (3 : Int32))), .val (.int ((p2 &&& (3 : Int32)) + ((((p2.toUInt32 >>> ((2 : Int32) &&& 31).toUInt32).toInt32) &&& (3 : Int32)) % ((4 : Int32) - (p2 &&& (3 : Int32)))))), .val (.int (3 : Int32)), .val .null, .val (.ref b570), .unset, .unset] [(.int (0 : Int32)), (.ref b570)]))
    refine gv (fun tQ kQ => XS.iload X570.here hx rfl (hb hby at_128) rfl kQ) ?_
    show G (T570.setTop (mkF me_ 130 #[.val (.int p0), .val (.int p1), .val (.int p2), .val (.int p3), .val (.int p4), .val (.ref b345), .val (.ref b365), .val (.int (p2 &&& (3 : Int32))), .val (.int ((p2 &&& (3 : Int32)) + ((((p2.toUInt32 >>> ((2 : Int32) &&& 31).toUInt32).toInt32) &&& (3 : Int32)) % ((4 : Int32) - (p2 &&& (3 : Int32)))))), .val (.int (3 : Int32)), .val .null, .val (.ref b570), .unset, .unset] [(.int p4), (.int (0 : Int32)), (.ref b570)]))
    refine gv (fun tQ kQ => XS.sipush X570.here hx rfl (hb hby at_130) kQ) ?_
    show G (T570.setTop (mkF me_ 133 #[.val (.int p0), .val (.int p1), .val (.int p2), .val (.int p3), .val (.int p4), .val (.ref b345), .val (.ref b365), .val (.int (p2 &&& (3 : Int32))), .val (.int ((p2 &&& (3 : Int32)) + ((((p2.toUInt32 >>> ((2 : Int32) &&& 31).toUInt32).toInt32) &&& (3 : Int32)) % ((4 : Int32) - (p2 &&& (3 : Int32)))))), .val (.int (3 : Int32)), .val .null, .val (.ref b570), .unset, .unset] [(.int (255 : Int32)), (.int p4), (.int (0 : Int32)), (.ref b570)]))
    refine gv (fun tQ kQ => XS.iand X570.here hx rfl (hb hby at_133) rfl kQ) ?_
    show G (T570.setTop (mkF me_ 134 #[.val (.int p0), .val (.int p1), .val (.int p2), .val (.int p3), .val (.int p4), .val (.ref b345), .val (.ref b365), .val (.int (p2 &&& (3 : Int32))), .val (.int ((p2 &&& (3 : Int32)) + ((((p2.toUInt32 >>> ((2 : Int32) &&& 31).toUInt32).toInt32) &&& (3 : Int32)) % ((4 : Int32) - (p2 &&& (3 : Int32)))))), .val (.int (3 : Int32)), .val .null, .val (.ref b570), .unset, .unset] [(.int (p4 &&& (255 : Int32))), (.int (0 : Int32)), (.ref b570)]))
    refine gv (fun tQ kQ => XS.i2c X570.here hx rfl (hb hby at_134) rfl kQ) ?_
    show G (T570.setTop (mkF me_ 135 #[.val (.int p0), .val (.int p1), .val (.int p2), .val (.int p3), .val (.int p4), .val (.ref b345), .val (.ref b365), .val (.int (p2 &&& (3 : Int32))), .val (.int ((p2 &&& (3 : Int32)) + ((((p2.toUInt32 >>> ((2 : Int32) &&& 31).toUInt32).toInt32) &&& (3 : Int32)) % ((4 : Int32) - (p2 &&& (3 : Int32)))))), .val (.int (3 : Int32)), .val .null, .val (.ref b570), .unset, .unset] [(.int ((p4 &&& (255 : Int32)).toUInt32.toUInt16.toUInt32.toInt32)), (.int (0 : Int32)), (.ref b570)]))
    obtain ⟨cl586, Ar586, q586, S586, n586, H586, G586⟩ := (id V570)
    have in586 : ¬ ((0 : Int32) < 0 ∨ cl586.slots.size ≤ ((0 : Int32)).toNatClampNeg) := inb_of S586 ⟨by decide, by decide⟩
    obtain ⟨T586, h586, X586, e586, W586, st586⟩ := stC X570 hx hZ e570 Ar586 (j := (0 : Int32)) in586 (g := (mkF me_ 135 #[.val (.int p0), .val (.int p1), .val (.int p2), .val (.int p3), .val (.int p4), .val (.ref b345), .val (.ref b365), .val (.int (p2 &&& (3 : Int32))), .val (.int ((p2 &&& (3 : Int32)) + ((((p2.toUInt32 >>> ((2 : Int32) &&& 31).toUInt32).toInt32) &&& (3 : Int32)) % ((4 : Int32) - (p2 &&& (3 : Int32)))))), .val (.int (3 : Int32)), .val .null, .val (.ref b570), .unset, .unset] [(.int ((p4 &&& (255 : Int32)).toUInt32.toUInt16.toUInt32.toInt32)), (.int (0 : Int32)), (.ref b570)])) rfl rfl (hb hby at_135)
    have W586 : Wr h570 h586 b570 ((0 : Int32)).toNatClampNeg (.int ((p4 &&& (255 : Int32)).toUInt32.toUInt16.toUInt32.toInt32)) := by have z := W586; rw [(own_narC _)] at z; exact z
    refine gv st586 ?_
    have sf588 := Safe.wr W586 (Safe.arv hZ.alike V570 (by simp)) CR.1 sf581
    have sf589 := Safe.wr W586 (Safe.arv hZ.alike V570 (by simp)) CR.1 sf582
    have sf590 := Safe.wr W586 (Safe.arv hZ.alike V570 (by simp)) CR.1 sf583
    have sf591 := Safe.wr W586 (Safe.arv hZ.alike V570 (by simp)) CR.1 sf584
    have CR := CR.trans (CHr.wr W586 (Safe.arv hZ.alike V570 (by simp)) CR.1)
    have hk := Nat.le_trans hk (Keep.of_wr W586).1
    have f592 : Arv Z h586 b345 k345 .char (3 : Int32) [(.int ((p1 &&& (255 : Int32)).toUInt32.toUInt16.toUInt32.toInt32)), (.int ((((p1.toUInt32 >>> ((8 : Int32) &&& 31).toUInt32).toInt32) &&& (255 : Int32)).toUInt32.toUInt16.toUInt32.toInt32)), (.int ((((p1.toUInt32 >>> ((16 : Int32) &&& 31).toUInt32).toInt32) &&& (255 : Int32)).toUInt32.toUInt16.toUInt32.toInt32))] (.int (0 : Int32)) := f576.other W586 ne571
    have f593 : Exa Z h586 b365 "java/lang/String" := f577.wr W586
    have f594 : Fld Z h586 b365 "java/lang/String" "coder" "B" (.int (0 : Int32)) := f578.other W586 (Or.inl ne572)
    have f595 : Fld Z h586 b365 "java/lang/String" "value" "[B" (.ref b_375) := f579.other W586 (Or.inl ne572)
    have f596 : Arv Z h586 b_375 k_375 .byte (3 : Int32) [(.int (((p1 &&& (255 : Int32)).toUInt32.toUInt16.toUInt32.toInt32).toInt8.toInt32)), (.int (((((p1.toUInt32 >>> ((8 : Int32) &&& 31).toUInt32).toInt32) &&& (255 : Int32)).toUInt32.toUInt16.toUInt32.toInt32).toInt8.toInt32)), (.int (((((p1.toUInt32 >>> ((16 : Int32) &&& 31).toUInt32).toInt32) &&& (255 : Int32)).toUInt32.toUInt16.toUInt32.toInt32).toInt8.toInt32))] (.int (0 : Int32)) := f580.other W586 ne573
    have O597 := O585.wr W586 g574
    have N598 := Fr.snoc X586 N376 g574
    have f587 : Arv Z h586 b570 k570 .char (2 : Int32) [(.int ((p4 &&& (255 : Int32)).toUInt32.toUInt16.toUInt32.toInt32)), (.int (0 : Int32))] (.int (0 : Int32)) := Arv.set Ar586 q586 S586 n586 H586 G586 (fits_nar_char _) W586 0 rfl (Nat.le_of_ble_eq_true rfl)
    show G (T586.setTop (mkF me_ 136 #[.val (.int p0), .val (.int p1), .val (.int p2), .val (.int p3), .val (.int p4), .val (.ref b345), .val (.ref b365), .val (.int (p2 &&& (3 : Int32))), .val (.int ((p2 &&& (3 : Int32)) + ((((p2.toUInt32 >>> ((2 : Int32) &&& 31).toUInt32).toInt32) &&& (3 : Int32)) % ((4 : Int32) - (p2 &&& (3 : Int32)))))), .val (.int (3 : Int32)), .val .null, .val (.ref b570), .unset, .unset] []))
    refine gv (fun tQ kQ => XS.aload X586.here hx rfl (hb hby at_136) rfl rfl kQ) ?_
    show G (T586.setTop (mkF me_ 138 #[.val (.int p0), .val (.int p1), .val (.int p2), .val (.int p3), .val (.int p4), .val (.ref b345), .val (.ref b365), .val (.int (p2 &&& (3 : Int32))), .val (.int ((p2 &&& (3 : Int32)) + ((((p2.toUInt32 >>> ((2 : Int32) &&& 31).toUInt32).toInt32) &&& (3 : Int32)) % ((4 : Int32) - (p2 &&& (3 : Int32)))))), .val (.int (3 : Int32)), .val .null, .val (.ref b570), .unset, .unset] [(.ref b570)]))
    refine gv (fun tQ kQ => XS.iconst X586.here hx rfl (hb hby at_138) kQ) ?_
    show G (T586.setTop (mkF me_ 139 #[.val (.int p0), .val (.int p1), .val (.int p2), .val (.int p3), .val (.int p4), .val (.ref b345), .val (.ref b365), .val (.int (p2 &&& (3 : Int32))), .val (.int ((p2 &&& (3 : Int32)) + ((((p2.toUInt32 >>> ((2 : Int32) &&& 31).toUInt32).toInt32) &&& (3 : Int32)) % ((4 : Int32) - (p2 &&& (3 : Int32)))))), .val (.int (3 : Int32)), .val .null, .val (.ref b570), .unset, .unset] [(.int (1 : Int32)), (.ref b570)]))
    refine gv (fun tQ kQ => XS.iload X586.here hx rfl (hb hby at_139) rfl kQ) ?_
    show G (T586.setTop (mkF me_ 141 #[.val (.int p0), .val (.int p1), .val (.int p2), .val (.int p3), .val (.int p4), .val (.ref b345), .val (.ref b365), .val (.int (p2 &&& (3 : Int32))), .val (.int ((p2 &&& (3 : Int32)) + ((((p2.toUInt32 >>> ((2 : Int32) &&& 31).toUInt32).toInt32) &&& (3 : Int32)) % ((4 : Int32) - (p2 &&& (3 : Int32)))))), .val (.int (3 : Int32)), .val .null, .val (.ref b570), .unset, .unset] [(.int p4), (.int (1 : Int32)), (.ref b570)]))
    refine gv (fun tQ kQ => XS.bipush X586.here hx rfl (hb hby at_141) kQ) ?_
    show G (T586.setTop (mkF me_ 143 #[.val (.int p0), .val (.int p1), .val (.int p2), .val (.int p3), .val (.int p4), .val (.ref b345), .val (.ref b365), .val (.int (p2 &&& (3 : Int32))), .val (.int ((p2 &&& (3 : Int32)) + ((((p2.toUInt32 >>> ((2 : Int32) &&& 31).toUInt32).toInt32) &&& (3 : Int32)) % ((4 : Int32) - (p2 &&& (3 : Int32)))))), .val (.int (3 : Int32)), .val .null, .val (.ref b570), .unset, .unset] [(.int (8 : Int32)), (.int p4), (.int (1 : Int32)), (.ref b570)]))
    refine gv (fun tQ kQ => XS.iushr X586.here hx rfl (hb hby at_143) rfl kQ) ?_
    show G (T586.setTop (mkF me_ 144 #[.val (.int p0), .val (.int p1), .val (.int p2), .val (.int p3), .val (.int p4), .val (.ref b345), .val (.ref b365), .val (.int (p2 &&& (3 : Int32))), .val (.int ((p2 &&& (3 : Int32)) + ((((p2.toUInt32 >>> ((2 : Int32) &&& 31).toUInt32).toInt32) &&& (3 : Int32)) % ((4 : Int32) - (p2 &&& (3 : Int32)))))), .val (.int (3 : Int32)), .val .null, .val (.ref b570), .unset, .unset] [(.int ((p4.toUInt32 >>> ((8 : Int32) &&& 31).toUInt32).toInt32)), (.int (1 : Int32)), (.ref b570)]))
    refine gv (fun tQ kQ => XS.sipush X586.here hx rfl (hb hby at_144) kQ) ?_
    show G (T586.setTop (mkF me_ 147 #[.val (.int p0), .val (.int p1), .val (.int p2), .val (.int p3), .val (.int p4), .val (.ref b345), .val (.ref b365), .val (.int (p2 &&& (3 : Int32))), .val (.int ((p2 &&& (3 : Int32)) + ((((p2.toUInt32 >>> ((2 : Int32) &&& 31).toUInt32).toInt32) &&& (3 : Int32)) % ((4 : Int32) - (p2 &&& (3 : Int32)))))), .val (.int (3 : Int32)), .val .null, .val (.ref b570), .unset, .unset] [(.int (255 : Int32)), (.int ((p4.toUInt32 >>> ((8 : Int32) &&& 31).toUInt32).toInt32)), (.int (1 : Int32)), (.ref b570)]))
    refine gv (fun tQ kQ => XS.iand X586.here hx rfl (hb hby at_147) rfl kQ) ?_
    show G (T586.setTop (mkF me_ 148 #[.val (.int p0), .val (.int p1), .val (.int p2), .val (.int p3), .val (.int p4), .val (.ref b345), .val (.ref b365), .val (.int (p2 &&& (3 : Int32))), .val (.int ((p2 &&& (3 : Int32)) + ((((p2.toUInt32 >>> ((2 : Int32) &&& 31).toUInt32).toInt32) &&& (3 : Int32)) % ((4 : Int32) - (p2 &&& (3 : Int32)))))), .val (.int (3 : Int32)), .val .null, .val (.ref b570), .unset, .unset] [(.int (((p4.toUInt32 >>> ((8 : Int32) &&& 31).toUInt32).toInt32) &&& (255 : Int32))), (.int (1 : Int32)), (.ref b570)]))
    refine gv (fun tQ kQ => XS.i2c X586.here hx rfl (hb hby at_148) rfl kQ) ?_
    show G (T586.setTop (mkF me_ 149 #[.val (.int p0), .val (.int p1), .val (.int p2), .val (.int p3), .val (.int p4), .val (.ref b345), .val (.ref b365), .val (.int (p2 &&& (3 : Int32))), .val (.int ((p2 &&& (3 : Int32)) + ((((p2.toUInt32 >>> ((2 : Int32) &&& 31).toUInt32).toInt32) &&& (3 : Int32)) % ((4 : Int32) - (p2 &&& (3 : Int32)))))), .val (.int (3 : Int32)), .val .null, .val (.ref b570), .unset, .unset] [(.int ((((p4.toUInt32 >>> ((8 : Int32) &&& 31).toUInt32).toInt32) &&& (255 : Int32)).toUInt32.toUInt16.toUInt32.toInt32)), (.int (1 : Int32)), (.ref b570)]))
    obtain ⟨cl599, Ar599, q599, S599, n599, H599, G599⟩ := (id f587)
    have in599 : ¬ ((1 : Int32) < 0 ∨ cl599.slots.size ≤ ((1 : Int32)).toNatClampNeg) := inb_of S599 ⟨by decide, by decide⟩
    obtain ⟨T599, h599, X599, e599, W599, st599⟩ := stC X586 hx hZ e586 Ar599 (j := (1 : Int32)) in599 (g := (mkF me_ 149 #[.val (.int p0), .val (.int p1), .val (.int p2), .val (.int p3), .val (.int p4), .val (.ref b345), .val (.ref b365), .val (.int (p2 &&& (3 : Int32))), .val (.int ((p2 &&& (3 : Int32)) + ((((p2.toUInt32 >>> ((2 : Int32) &&& 31).toUInt32).toInt32) &&& (3 : Int32)) % ((4 : Int32) - (p2 &&& (3 : Int32)))))), .val (.int (3 : Int32)), .val .null, .val (.ref b570), .unset, .unset] [(.int ((((p4.toUInt32 >>> ((8 : Int32) &&& 31).toUInt32).toInt32) &&& (255 : Int32)).toUInt32.toUInt16.toUInt32.toInt32)), (.int (1 : Int32)), (.ref b570)])) rfl rfl (hb hby at_149)
    have W599 : Wr h586 h599 b570 ((1 : Int32)).toNatClampNeg (.int ((((p4.toUInt32 >>> ((8 : Int32) &&& 31).toUInt32).toInt32) &&& (255 : Int32)).toUInt32.toUInt16.toUInt32.toInt32)) := by have z := W599; rw [(own_narC _)] at z; exact z
    refine gv st599 ?_
    have sf601 := Safe.wr W599 (Safe.arv hZ.alike f587 (by simp)) CR.1 sf588
    have sf602 := Safe.wr W599 (Safe.arv hZ.alike f587 (by simp)) CR.1 sf589
    have sf603 := Safe.wr W599 (Safe.arv hZ.alike f587 (by simp)) CR.1 sf590
    have sf604 := Safe.wr W599 (Safe.arv hZ.alike f587 (by simp)) CR.1 sf591
    have CR := CR.trans (CHr.wr W599 (Safe.arv hZ.alike f587 (by simp)) CR.1)
    have hk := Nat.le_trans hk (Keep.of_wr W599).1
    have f605 : Arv Z h599 b345 k345 .char (3 : Int32) [(.int ((p1 &&& (255 : Int32)).toUInt32.toUInt16.toUInt32.toInt32)), (.int ((((p1.toUInt32 >>> ((8 : Int32) &&& 31).toUInt32).toInt32) &&& (255 : Int32)).toUInt32.toUInt16.toUInt32.toInt32)), (.int ((((p1.toUInt32 >>> ((16 : Int32) &&& 31).toUInt32).toInt32) &&& (255 : Int32)).toUInt32.toUInt16.toUInt32.toInt32))] (.int (0 : Int32)) := f592.other W599 ne571
    have f606 : Exa Z h599 b365 "java/lang/String" := f593.wr W599
    have f607 : Fld Z h599 b365 "java/lang/String" "coder" "B" (.int (0 : Int32)) := f594.other W599 (Or.inl ne572)
    have f608 : Fld Z h599 b365 "java/lang/String" "value" "[B" (.ref b_375) := f595.other W599 (Or.inl ne572)
    have f609 : Arv Z h599 b_375 k_375 .byte (3 : Int32) [(.int (((p1 &&& (255 : Int32)).toUInt32.toUInt16.toUInt32.toInt32).toInt8.toInt32)), (.int (((((p1.toUInt32 >>> ((8 : Int32) &&& 31).toUInt32).toInt32) &&& (255 : Int32)).toUInt32.toUInt16.toUInt32.toInt32).toInt8.toInt32)), (.int (((((p1.toUInt32 >>> ((16 : Int32) &&& 31).toUInt32).toInt32) &&& (255 : Int32)).toUInt32.toUInt16.toUInt32.toInt32).toInt8.toInt32))] (.int (0 : Int32)) := f596.other W599 ne573
    have O610 := O597.wr W599 g574
    have N611 := Fr.snoc X599 N598 g574
    have f600 : Arv Z h599 b570 k570 .char (2 : Int32) [(.int ((p4 &&& (255 : Int32)).toUInt32.toUInt16.toUInt32.toInt32)), (.int ((((p4.toUInt32 >>> ((8 : Int32) &&& 31).toUInt32).toInt32) &&& (255 : Int32)).toUInt32.toUInt16.toUInt32.toInt32))] (.int (0 : Int32)) := Arv.set Ar599 q599 S599 n599 H599 G599 (fits_nar_char _) W599 1 rfl (Nat.le_of_ble_eq_true rfl)
    show G (T599.setTop (mkF me_ 150 #[.val (.int p0), .val (.int p1), .val (.int p2), .val (.int p3), .val (.int p4), .val (.ref b345), .val (.ref b365), .val (.int (p2 &&& (3 : Int32))), .val (.int ((p2 &&& (3 : Int32)) + ((((p2.toUInt32 >>> ((2 : Int32) &&& 31).toUInt32).toInt32) &&& (3 : Int32)) % ((4 : Int32) - (p2 &&& (3 : Int32)))))), .val (.int (3 : Int32)), .val .null, .val (.ref b570), .unset, .unset] []))
    obtain ⟨T612, h612, X612, e612, E612, A612, D612, -, st612⟩ := newO X599 hx hZ hown (hw _ (List.mem_of_getElem? (i := 1) rfl)) (hw _ (List.mem_of_getElem? (i := 2) rfl)) (hw _ (List.mem_of_getElem? (i := 3) rfl)) e599 (g := (mkF me_ 150 #[.val (.int p0), .val (.int p1), .val (.int p2), .val (.int p3), .val (.int p4), .val (.ref b345), .val (.ref b365), .val (.int (p2 &&& (3 : Int32))), .val (.int ((p2 &&& (3 : Int32)) + ((((p2.toUInt32 >>> ((2 : Int32) &&& 31).toUInt32).toInt32) &&& (3 : Int32)) % ((4 : Int32) - (p2 &&& (3 : Int32)))))), .val (.int (3 : Int32)), .val .null, .val (.ref b570), .unset, .unset] [])) rfl (hb hby at_150) (by decide) (by decide)
    obtain ⟨b612, g612⟩ : ∃ z, z = h599.size := ⟨_, rfl⟩
    rw [← g612] at A612 D612 st612
    refine gv st612 ?_
    have ne613 : b345 ≠ b612 := Nat.ne_of_lt (Nat.lt_of_lt_of_le f605.lt (Nat.le_of_eq g612.symm))
    have ne614 : b365 ≠ b612 := Nat.ne_of_lt (Nat.lt_of_lt_of_le f606.lt (Nat.le_of_eq g612.symm))
    have ne615 : b_375 ≠ b612 := Nat.ne_of_lt (Nat.lt_of_lt_of_le f609.lt (Nat.le_of_eq g612.symm))
    have ne616 : b570 ≠ b612 := Nat.ne_of_lt (Nat.lt_of_lt_of_le f600.lt (Nat.le_of_eq g612.symm))
    have g617 : n0 ≤ b612 := Nat.le_trans (own_old O610) (Nat.le_of_eq g612.symm)
    have sf618 : Safe Z own_EL st_.vm h599 b612 := Safe.new (Nat.le_of_eq g612.symm)
    have f619 : Arv Z h612 b345 k345 .char (3 : Int32) [(.int ((p1 &&& (255 : Int32)).toUInt32.toUInt16.toUInt32.toInt32)), (.int ((((p1.toUInt32 >>> ((8 : Int32) &&& 31).toUInt32).toInt32) &&& (255 : Int32)).toUInt32.toUInt16.toUInt32.toInt32)), (.int ((((p1.toUInt32 >>> ((16 : Int32) &&& 31).toUInt32).toInt32) &&& (255 : Int32)).toUInt32.toUInt16.toUInt32.toInt32))] (.int (0 : Int32)) := f605.ext E612
    have f620 : Exa Z h612 b365 "java/lang/String" := f606.ext E612
    have f621 : Fld Z h612 b365 "java/lang/String" "coder" "B" (.int (0 : Int32)) := f607.ext E612
    have f622 : Fld Z h612 b365 "java/lang/String" "value" "[B" (.ref b_375) := f608.ext E612
    have f623 : Arv Z h612 b_375 k_375 .byte (3 : Int32) [(.int (((p1 &&& (255 : Int32)).toUInt32.toUInt16.toUInt32.toInt32).toInt8.toInt32)), (.int (((((p1.toUInt32 >>> ((8 : Int32) &&& 31).toUInt32).toInt32) &&& (255 : Int32)).toUInt32.toUInt16.toUInt32.toInt32).toInt8.toInt32)), (.int (((((p1.toUInt32 >>> ((16 : Int32) &&& 31).toUInt32).toInt32) &&& (255 : Int32)).toUInt32.toUInt16.toUInt32.toInt32).toInt8.toInt32))] (.int (0 : Int32)) := f609.ext E612
    have f624 : Arv Z h612 b570 k570 .char (2 : Int32) [(.int ((p4 &&& (255 : Int32)).toUInt32.toUInt16.toUInt32.toInt32)), (.int ((((p4.toUInt32 >>> ((8 : Int32) &&& 31).toUInt32).toInt32) &&& (255 : Int32)).toUInt32.toUInt16.toUInt32.toInt32))] (.int (0 : Int32)) := f600.ext E612
    have sf625 := Safe.ext E612 CR.1 sf601
    have sf626 := Safe.ext E612 CR.1 sf602
    have sf627 := Safe.ext E612 CR.1 sf603
    have sf628 := Safe.ext E612 CR.1 sf604
    have sf629 := Safe.ext E612 CR.1 sf618
    have CR := CR.trans (CHr.ext E612 CR.1)
    have hk := Nat.le_trans hk E612.1
    have O630 := O610.ext E612
    have f631 : Fld Z h612 b612 "java/lang/String" "coder" "B" (.int (0 : Int32)) := D612 (Or.inr (hw _ (List.mem_of_getElem? (i := 27) rfl))) (ty := .byte) (by decide)
    have f632 : Fld Z h612 b612 "java/lang/String" "value" "[B" .null := D612 (Or.inr (hw _ (List.mem_of_getElem? (i := 29) rfl))) (ty := (.array .byte)) (by decide)
    show G (T612.setTop (mkF me_ 153 #[.val (.int p0), .val (.int p1), .val (.int p2), .val (.int p3), .val (.int p4), .val (.ref b345), .val (.ref b365), .val (.int (p2 &&& (3 : Int32))), .val (.int ((p2 &&& (3 : Int32)) + ((((p2.toUInt32 >>> ((2 : Int32) &&& 31).toUInt32).toInt32) &&& (3 : Int32)) % ((4 : Int32) - (p2 &&& (3 : Int32)))))), .val (.int (3 : Int32)), .val .null, .val (.ref b570), .unset, .unset] [(.ref b612)]))
    refine gv (fun tQ kQ => XS.dup X612.here hx rfl (hb hby at_153) rfl rfl kQ) ?_
    show G (T612.setTop (mkF me_ 154 #[.val (.int p0), .val (.int p1), .val (.int p2), .val (.int p3), .val (.int p4), .val (.ref b345), .val (.ref b365), .val (.int (p2 &&& (3 : Int32))), .val (.int ((p2 &&& (3 : Int32)) + ((((p2.toUInt32 >>> ((2 : Int32) &&& 31).toUInt32).toInt32) &&& (3 : Int32)) % ((4 : Int32) - (p2 &&& (3 : Int32)))))), .val (.int (3 : Int32)), .val .null, .val (.ref b570), .unset, .unset] [(.ref b612), (.ref b612)]))
    refine gv (fun tQ kQ => XS.aload X612.here hx rfl (hb hby at_154) rfl rfl kQ) ?_
    show G (T612.setTop (mkF me_ 156 #[.val (.int p0), .val (.int p1), .val (.int p2), .val (.int p3), .val (.int p4), .val (.ref b345), .val (.ref b365), .val (.int (p2 &&& (3 : Int32))), .val (.int ((p2 &&& (3 : Int32)) + ((((p2.toUInt32 >>> ((2 : Int32) &&& 31).toUInt32).toInt32) &&& (3 : Int32)) % ((4 : Int32) - (p2 &&& (3 : Int32)))))), .val (.int (3 : Int32)), .val .null, .val (.ref b570), .unset, .unset] [(.ref b570), (.ref b612), (.ref b612)]))
    obtain ⟨_, _, ⟨T633, L633, k633, n633⟩, -, X633, ⟨Lc633, hQ633, l633, y633, z633⟩, st633⟩ := X612.specialBack hx (y := (⟨"java/lang/String", "<init>", "([C)V"⟩ : MethodName)) rfl hown (mvT hZ (hw _ (List.mem_of_getElem? (i := 4) rfl))) (mvT hZ (hw _ (List.mem_of_getElem? (i := 5) rfl))) (mvT hZ (hw _ (List.mem_of_getElem? (i := 6) rfl))) (by decide) (backOf (W := 1) (rm_sc2 l Z a0 hw [] b612 b570 k570 ((p4 &&& (255 : Int32)).toUInt32.toUInt16.toUInt32.toInt32) ((((p4.toUInt32 >>> ((8 : Int32) &&& 31).toUInt32).toInt32) &&& (255 : Int32)).toUInt32.toUInt16.toUInt32.toInt32) cs h612 n0 O630 u0 u1 (own_lt255 _) (own_lt255 _) A612 f632 f631 g617 f624 (Ne.symm ne616)) hZ (hw _ (List.mem_of_getElem? (i := 6) rfl)) (hw _ (List.mem_of_getElem? (i := 3) rfl)) (by decide) (by decide)) (g := (mkF me_ 156 #[.val (.int p0), .val (.int p1), .val (.int p2), .val (.int p3), .val (.int p4), .val (.ref b345), .val (.ref b365), .val (.int (p2 &&& (3 : Int32))), .val (.int ((p2 &&& (3 : Int32)) + ((((p2.toUInt32 >>> ((2 : Int32) &&& 31).toUInt32).toInt32) &&& (3 : Int32)) % ((4 : Int32) - (p2 &&& (3 : Int32)))))), .val (.int (3 : Int32)), .val .null, .val (.ref b570), .unset, .unset] [(.ref b570), (.ref b612), (.ref b612)])) rfl (by rw [hml]; rfl) (Steps.refl _) (a := b612) (argsL := [(.ref b570)]) (rest := [(.ref b612)]) (lenOf pd_9 rfl) rfl (by show 2 * 0 + _ ≤ _; exact Nat.le_of_eq rfl) (hb hby at_156) (fun _ _ => ⟨rfl, e612, (by decide : 5 + 1 ≤ _), (by decide : 16 + 2 ≤ _)⟩)
    dsimp only [Pt.U, Pt.locs, Pt.cells, Pt.slots] at X633 l633 y633 z633 st633 hQ633
    subst l633 y633 z633
    obtain ⟨b_633, k_633, rfl, Nq633, Kq633, w633_0, w633_1, w633_2, w633_3, w633_4⟩ := hQ633
    have N634 := Fr.app N611 Nq633
    obtain ⟨h633, e633⟩ : ∃ z, T633.heap = z := ⟨_, rfl⟩
    rw [e633] at Kq633 w633_1 w633_2 w633_3 w633_4
    have sf635 := Safe.keep Kq633 (sfS sf629 sf0) CR.1 sf625
    have sf636 := Safe.keep Kq633 (sfS sf629 sf0) CR.1 sf626
    have sf637 := Safe.keep Kq633 (sfS sf629 sf0) CR.1 sf627
    have sf638 := Safe.keep Kq633 (sfS sf629 sf0) CR.1 sf628
    have sf639 := Safe.keep Kq633 (sfS sf629 sf0) CR.1 sf629
    have ne640 : b345 ≠ b_633 := Nat.ne_of_lt (Nat.lt_of_lt_of_le f619.lt w633_0)
    have ne641 : b365 ≠ b_633 := Nat.ne_of_lt (Nat.lt_of_lt_of_le f620.lt w633_0)
    have ne642 : b_375 ≠ b_633 := Nat.ne_of_lt (Nat.lt_of_lt_of_le f623.lt w633_0)
    have ne643 : b570 ≠ b_633 := Nat.ne_of_lt (Nat.lt_of_lt_of_le f624.lt w633_0)
    have ne644 : b612 ≠ b_633 := Nat.ne_of_lt (Nat.lt_of_lt_of_le A612.lt w633_0)
    have g645 : n0 ≤ b_633 := Nat.le_trans (own_old O630) w633_0
    have sf646 : Safe Z own_EL st_.vm h612 b_633 := Safe.new w633_0
    have sf647 := Safe.keep Kq633 (sfS sf629 sf0) CR.1 sf646
    have CR := CR.trans (CHr.keep Kq633 (sfS sf629 sf0) CR.1)
    have hk := Nat.le_trans hk Kq633.1
    have f648 : Arv Z h633 b345 k345 .char (3 : Int32) [(.int ((p1 &&& (255 : Int32)).toUInt32.toUInt16.toUInt32.toInt32)), (.int ((((p1.toUInt32 >>> ((8 : Int32) &&& 31).toUInt32).toInt32) &&& (255 : Int32)).toUInt32.toUInt16.toUInt32.toInt32)), (.int ((((p1.toUInt32 >>> ((16 : Int32) &&& 31).toUInt32).toInt32) &&& (255 : Int32)).toUInt32.toUInt16.toUInt32.toInt32))] (.int (0 : Int32)) := f619.keep Kq633 (ninS ne613 nin0)
    have f649 : Exa Z h633 b365 "java/lang/String" := f620.keep Kq633
    have f650 : Fld Z h633 b365 "java/lang/String" "coder" "B" (.int (0 : Int32)) := f621.keep Kq633 (ninS ne614 nin0)
    have f651 : Fld Z h633 b365 "java/lang/String" "value" "[B" (.ref b_375) := f622.keep Kq633 (ninS ne614 nin0)
    have f652 : Arv Z h633 b_375 k_375 .byte (3 : Int32) [(.int (((p1 &&& (255 : Int32)).toUInt32.toUInt16.toUInt32.toInt32).toInt8.toInt32)), (.int (((((p1.toUInt32 >>> ((8 : Int32) &&& 31).toUInt32).toInt32) &&& (255 : Int32)).toUInt32.toUInt16.toUInt32.toInt32).toInt8.toInt32)), (.int (((((p1.toUInt32 >>> ((16 : Int32) &&& 31).toUInt32).toInt32) &&& (255 : Int32)).toUInt32.toUInt16.toUInt32.toInt32).toInt8.toInt32))] (.int (0 : Int32)) := f623.keep Kq633 (ninS ne615 nin0)
    have f653 : Arv Z h633 b570 k570 .char (2 : Int32) [(.int ((p4 &&& (255 : Int32)).toUInt32.toUInt16.toUInt32.toInt32)), (.int ((((p4.toUInt32 >>> ((8 : Int32) &&& 31).toUInt32).toInt32) &&& (255 : Int32)).toUInt32.toUInt16.toUInt32.toInt32))] (.int (0 : Int32)) := f624.keep Kq633 (ninS ne616 nin0)
    have f654 : Exa Z h633 b612 "java/lang/String" := A612.keep Kq633
    have O655 := O630.keep Kq633 (allS g617 all0)
    refine gv (fun tQ kQ => st633.trans kQ) ?_
    show G (T633.setTop (mkF me_ 159 #[.val (.int p0), .val (.int p1), .val (.int p2), .val (.int p3), .val (.int p4), .val (.ref b345), .val (.ref b365), .val (.int (p2 &&& (3 : Int32))), .val (.int ((p2 &&& (3 : Int32)) + ((((p2.toUInt32 >>> ((2 : Int32) &&& 31).toUInt32).toInt32) &&& (3 : Int32)) % ((4 : Int32) - (p2 &&& (3 : Int32)))))), .val (.int (3 : Int32)), .val .null, .val (.ref b570), .unset, .unset] [(.ref b612)]))
    refine gv (fun tQ kQ => XS.astore X633.here hx rfl (hb hby at_159) rfl rfl (l' := #[.val (.int p0), .val (.int p1), .val (.int p2), .val (.int p3), .val (.int p4), .val (.ref b345), .val (.ref b365), .val (.int (p2 &&& (3 : Int32))), .val (.int ((p2 &&& (3 : Int32)) + ((((p2.toUInt32 >>> ((2 : Int32) &&& 31).toUInt32).toInt32) &&& (3 : Int32)) % ((4 : Int32) - (p2 &&& (3 : Int32)))))), .val (.int (3 : Int32)), .val (.ref b612), .val (.ref b570), .unset, .unset]) rfl kQ) ?_
    show G (T633.setTop (mkF me_ 161 #[.val (.int p0), .val (.int p1), .val (.int p2), .val (.int p3), .val (.int p4), .val (.ref b345), .val (.ref b365), .val (.int (p2 &&& (3 : Int32))), .val (.int ((p2 &&& (3 : Int32)) + ((((p2.toUInt32 >>> ((2 : Int32) &&& 31).toUInt32).toInt32) &&& (3 : Int32)) % ((4 : Int32) - (p2 &&& (3 : Int32)))))), .val (.int (3 : Int32)), .val (.ref b612), .val (.ref b570), .unset, .unset] []))
    obtain ⟨T656, h656, X656, e656, E656, A656, D656, -, st656⟩ := newO X633 hx hZ hown (hw _ (List.mem_of_getElem? (i := 33) rfl)) (hw _ (List.mem_of_getElem? (i := 34) rfl)) (hw _ (List.mem_of_getElem? (i := 35) rfl)) e633 (g := (mkF me_ 161 #[.val (.int p0), .val (.int p1), .val (.int p2), .val (.int p3), .val (.int p4), .val (.ref b345), .val (.ref b365), .val (.int (p2 &&& (3 : Int32))), .val (.int ((p2 &&& (3 : Int32)) + ((((p2.toUInt32 >>> ((2 : Int32) &&& 31).toUInt32).toInt32) &&& (3 : Int32)) % ((4 : Int32) - (p2 &&& (3 : Int32)))))), .val (.int (3 : Int32)), .val (.ref b612), .val (.ref b570), .unset, .unset] [])) rfl (hb hby at_161) (by decide) (by decide)
    obtain ⟨b656, g656⟩ : ∃ z, z = h633.size := ⟨_, rfl⟩
    rw [← g656] at A656 D656 st656
    refine gv st656 ?_
    have ne657 : b345 ≠ b656 := Nat.ne_of_lt (Nat.lt_of_lt_of_le f648.lt (Nat.le_of_eq g656.symm))
    have ne658 : b365 ≠ b656 := Nat.ne_of_lt (Nat.lt_of_lt_of_le f649.lt (Nat.le_of_eq g656.symm))
    have ne659 : b_375 ≠ b656 := Nat.ne_of_lt (Nat.lt_of_lt_of_le f652.lt (Nat.le_of_eq g656.symm))
    have ne660 : b570 ≠ b656 := Nat.ne_of_lt (Nat.lt_of_lt_of_le f653.lt (Nat.le_of_eq g656.symm))
    have ne661 : b612 ≠ b656 := Nat.ne_of_lt (Nat.lt_of_lt_of_le w633_1.lt (Nat.le_of_eq g656.symm))
    have ne662 : b_633 ≠ b656 := Nat.ne_of_lt (Nat.lt_of_lt_of_le w633_4.lt (Nat.le_of_eq g656.symm))
    have g663 : n0 ≤ b656 := Nat.le_trans (own_old O655) (Nat.le_of_eq g656.symm)
    have sf664 : Safe Z own_EL st_.vm h633 b656 := Safe.new (Nat.le_of_eq g656.symm)
    have f665 : Arv Z h656 b345 k345 .char (3 : Int32) [(.int ((p1 &&& (255 : Int32)).toUInt32.toUInt16.toUInt32.toInt32)), (.int ((((p1.toUInt32 >>> ((8 : Int32) &&& 31).toUInt32).toInt32) &&& (255 : Int32)).toUInt32.toUInt16.toUInt32.toInt32)), (.int ((((p1.toUInt32 >>> ((16 : Int32) &&& 31).toUInt32).toInt32) &&& (255 : Int32)).toUInt32.toUInt16.toUInt32.toInt32))] (.int (0 : Int32)) := f648.ext E656
    have f666 : Exa Z h656 b365 "java/lang/String" := f649.ext E656
    have f667 : Fld Z h656 b365 "java/lang/String" "coder" "B" (.int (0 : Int32)) := f650.ext E656
    have f668 : Fld Z h656 b365 "java/lang/String" "value" "[B" (.ref b_375) := f651.ext E656
    have f669 : Arv Z h656 b_375 k_375 .byte (3 : Int32) [(.int (((p1 &&& (255 : Int32)).toUInt32.toUInt16.toUInt32.toInt32).toInt8.toInt32)), (.int (((((p1.toUInt32 >>> ((8 : Int32) &&& 31).toUInt32).toInt32) &&& (255 : Int32)).toUInt32.toUInt16.toUInt32.toInt32).toInt8.toInt32)), (.int (((((p1.toUInt32 >>> ((16 : Int32) &&& 31).toUInt32).toInt32) &&& (255 : Int32)).toUInt32.toUInt16.toUInt32.toInt32).toInt8.toInt32))] (.int (0 : Int32)) := f652.ext E656
    have f670 : Arv Z h656 b570 k570 .char (2 : Int32) [(.int ((p4 &&& (255 : Int32)).toUInt32.toUInt16.toUInt32.toInt32)), (.int ((((p4.toUInt32 >>> ((8 : Int32) &&& 31).toUInt32).toInt32) &&& (255 : Int32)).toUInt32.toUInt16.toUInt32.toInt32))] (.int (0 : Int32)) := f653.ext E656
    have f671 : Exa Z h656 b612 "java/lang/String" := w633_1.ext E656
    have f672 : Fld Z h656 b612 "java/lang/String" "coder" "B" (.int (0 : Int32)) := w633_2.ext E656
    have f673 : Fld Z h656 b612 "java/lang/String" "value" "[B" (.ref b_633) := w633_3.ext E656
    have f674 : Arv Z h656 b_633 k_633 .byte (2 : Int32) [(.int (((p4 &&& (255 : Int32)).toUInt32.toUInt16.toUInt32.toInt32).toInt8.toInt32)), (.int (((((p4.toUInt32 >>> ((8 : Int32) &&& 31).toUInt32).toInt32) &&& (255 : Int32)).toUInt32.toUInt16.toUInt32.toInt32).toInt8.toInt32))] (.int (0 : Int32)) := w633_4.ext E656
    have sf675 := Safe.ext E656 CR.1 sf635
    have sf676 := Safe.ext E656 CR.1 sf636
    have sf677 := Safe.ext E656 CR.1 sf637
    have sf678 := Safe.ext E656 CR.1 sf638
    have sf679 := Safe.ext E656 CR.1 sf639
    have sf680 := Safe.ext E656 CR.1 sf647
    have sf681 := Safe.ext E656 CR.1 sf664
    have CR := CR.trans (CHr.ext E656 CR.1)
    have hk := Nat.le_trans hk E656.1
    have O682 := O655.ext E656
    have f683 : Fld Z h656 b656 "com/example/hits_in_context/hitsincontext/io/XmlCharacterData$Piece" "kind" "Lcom/example/hits_in_context/hitsincontext/io/XmlCharacterData$Kind;" .null := D656 (Or.inr (hw _ (List.mem_of_getElem? (i := 48) rfl))) (ty := (.object "com/example/hits_in_context/hitsincontext/io/XmlCharacterData$Kind")) (by decide)
    have f684 : Fld Z h656 b656 "com/example/hits_in_context/hitsincontext/io/XmlCharacterData$Piece" "source" "Ljava/lang/String;" .null := D656 (Or.inr (hw _ (List.mem_of_getElem? (i := 50) rfl))) (ty := (.object "java/lang/String")) (by decide)
    have f685 : Fld Z h656 b656 "com/example/hits_in_context/hitsincontext/io/XmlCharacterData$Piece" "start" "I" (.int (0 : Int32)) := D656 (Or.inr (hw _ (List.mem_of_getElem? (i := 52) rfl))) (ty := .int) (by decide)
    have f686 : Fld Z h656 b656 "com/example/hits_in_context/hitsincontext/io/XmlCharacterData$Piece" "end" "I" (.int (0 : Int32)) := D656 (Or.inr (hw _ (List.mem_of_getElem? (i := 54) rfl))) (ty := .int) (by decide)
    have f687 : Fld Z h656 b656 "com/example/hits_in_context/hitsincontext/io/XmlCharacterData$Piece" "chars" "Ljava/lang/String;" .null := D656 (Or.inr (hw _ (List.mem_of_getElem? (i := 56) rfl))) (ty := (.object "java/lang/String")) (by decide)
    show G (T656.setTop (mkF me_ 164 #[.val (.int p0), .val (.int p1), .val (.int p2), .val (.int p3), .val (.int p4), .val (.ref b345), .val (.ref b365), .val (.int (p2 &&& (3 : Int32))), .val (.int ((p2 &&& (3 : Int32)) + ((((p2.toUInt32 >>> ((2 : Int32) &&& 31).toUInt32).toInt32) &&& (3 : Int32)) % ((4 : Int32) - (p2 &&& (3 : Int32)))))), .val (.int (3 : Int32)), .val (.ref b612), .val (.ref b570), .unset, .unset] [(.ref b656)]))
    refine gv (fun tQ kQ => XS.dup X656.here hx rfl (hb hby at_164) rfl rfl kQ) ?_
    show G (T656.setTop (mkF me_ 165 #[.val (.int p0), .val (.int p1), .val (.int p2), .val (.int p3), .val (.int p4), .val (.ref b345), .val (.ref b365), .val (.int (p2 &&& (3 : Int32))), .val (.int ((p2 &&& (3 : Int32)) + ((((p2.toUInt32 >>> ((2 : Int32) &&& 31).toUInt32).toInt32) &&& (3 : Int32)) % ((4 : Int32) - (p2 &&& (3 : Int32)))))), .val (.int (3 : Int32)), .val (.ref b612), .val (.ref b570), .unset, .unset] [(.ref b656), (.ref b656)]))
    refine gv (fun tQ kQ => XS.iloadN X656.here hx rfl (hb hby at_165) rfl kQ) ?_
    show G (T656.setTop (mkF me_ 166 #[.val (.int p0), .val (.int p1), .val (.int p2), .val (.int p3), .val (.int p4), .val (.ref b345), .val (.ref b365), .val (.int (p2 &&& (3 : Int32))), .val (.int ((p2 &&& (3 : Int32)) + ((((p2.toUInt32 >>> ((2 : Int32) &&& 31).toUInt32).toInt32) &&& (3 : Int32)) % ((4 : Int32) - (p2 &&& (3 : Int32)))))), .val (.int (3 : Int32)), .val (.ref b612), .val (.ref b570), .unset, .unset] [(.int p0), (.ref b656), (.ref b656)]))
    obtain ⟨_, _, ⟨T688, L688, k688, n688⟩, -, X688, ⟨Lc688, hQ688, l688, y688, z688⟩, st688⟩ := Jvm.LawKit.callS X656 hx (y := (⟨"com/example/hits_in_context/hitsincontext/io/PieceIsLiteralPinLaw", "kind", "(I)Lcom/example/hits_in_context/hitsincontext/io/XmlCharacterData$Kind;"⟩ : MethodName)) hown (mvT hZ (hw _ (List.mem_of_getElem? (i := 36) rfl))) (mvT hZ (hw _ (List.mem_of_getElem? (i := 37) rfl))) (mvT hZ (hw _ (List.mem_of_getElem? (i := 38) rfl))) (mvT hZ (hw _ (List.mem_of_getElem? (i := 39) rfl))) (by decide) (backOf (W := 2) (rm_kind l Z a0 hw [] p0 A_TEXT A_MARKUP A_DECLARATION A_ROOT_TAG A_CDATA_START A_CDATA_END A_ENTITY_START A_ENTITY_END h656 n0 O682 u2 u3 u4 u5 u6 u7 u8 u9) hZ (hw _ (List.mem_of_getElem? (i := 39) rfl)) (hw _ (List.mem_of_getElem? (i := 38) rfl)) (by decide) (by decide)) (g := (mkF me_ 166 #[.val (.int p0), .val (.int p1), .val (.int p2), .val (.int p3), .val (.int p4), .val (.ref b345), .val (.ref b365), .val (.int (p2 &&& (3 : Int32))), .val (.int ((p2 &&& (3 : Int32)) + ((((p2.toUInt32 >>> ((2 : Int32) &&& 31).toUInt32).toInt32) &&& (3 : Int32)) % ((4 : Int32) - (p2 &&& (3 : Int32)))))), .val (.int (3 : Int32)), .val (.ref b612), .val (.ref b570), .unset, .unset] [(.int p0), (.ref b656), (.ref b656)])) rfl (by rw [hml]; rfl) (argsL := [(.int p0)]) (rest := [(.ref b656), (.ref b656)]) (lenOf pd_10 rfl) rfl (by show 2 * 0 + _ ≤ _; exact Nat.le_of_eq rfl) (hb hby at_166) (fun _ _ => ⟨rfl, e656, (by decide : 7 + 0 ≤ _), (by decide : 23 + 0 ≤ _)⟩)
    dsimp only [Pt.U, Pt.locs, Pt.cells, Pt.slots] at X688 l688 y688 z688 st688 hQ688
    subst l688 y688 z688
    obtain ⟨r_688, rfl, Nq688, eq688⟩ := hQ688
    have N689 := Fr.app N634 Nq688
    refine gv st688 ?_
    show G (T688.setTop (mkF me_ 169 #[.val (.int p0), .val (.int p1), .val (.int p2), .val (.int p3), .val (.int p4), .val (.ref b345), .val (.ref b365), .val (.int (p2 &&& (3 : Int32))), .val (.int ((p2 &&& (3 : Int32)) + ((((p2.toUInt32 >>> ((2 : Int32) &&& 31).toUInt32).toInt32) &&& (3 : Int32)) % ((4 : Int32) - (p2 &&& (3 : Int32)))))), .val (.int (3 : Int32)), .val (.ref b612), .val (.ref b570), .unset, .unset] [(.ref r_688), (.ref b656), (.ref b656)]))
    refine gv (fun tQ kQ => XS.aload X688.here hx rfl (hb hby at_169) rfl rfl kQ) ?_
    show G (T688.setTop (mkF me_ 171 #[.val (.int p0), .val (.int p1), .val (.int p2), .val (.int p3), .val (.int p4), .val (.ref b345), .val (.ref b365), .val (.int (p2 &&& (3 : Int32))), .val (.int ((p2 &&& (3 : Int32)) + ((((p2.toUInt32 >>> ((2 : Int32) &&& 31).toUInt32).toInt32) &&& (3 : Int32)) % ((4 : Int32) - (p2 &&& (3 : Int32)))))), .val (.int (3 : Int32)), .val (.ref b612), .val (.ref b570), .unset, .unset] [(.ref b365), (.ref r_688), (.ref b656), (.ref b656)]))
    refine gv (fun tQ kQ => XS.iload X688.here hx rfl (hb hby at_171) rfl kQ) ?_
    show G (T688.setTop (mkF me_ 173 #[.val (.int p0), .val (.int p1), .val (.int p2), .val (.int p3), .val (.int p4), .val (.ref b345), .val (.ref b365), .val (.int (p2 &&& (3 : Int32))), .val (.int ((p2 &&& (3 : Int32)) + ((((p2.toUInt32 >>> ((2 : Int32) &&& 31).toUInt32).toInt32) &&& (3 : Int32)) % ((4 : Int32) - (p2 &&& (3 : Int32)))))), .val (.int (3 : Int32)), .val (.ref b612), .val (.ref b570), .unset, .unset] [(.int (p2 &&& (3 : Int32))), (.ref b365), (.ref r_688), (.ref b656), (.ref b656)]))
    refine gv (fun tQ kQ => XS.iload X688.here hx rfl (hb hby at_173) rfl kQ) ?_
    show G (T688.setTop (mkF me_ 175 #[.val (.int p0), .val (.int p1), .val (.int p2), .val (.int p3), .val (.int p4), .val (.ref b345), .val (.ref b365), .val (.int (p2 &&& (3 : Int32))), .val (.int ((p2 &&& (3 : Int32)) + ((((p2.toUInt32 >>> ((2 : Int32) &&& 31).toUInt32).toInt32) &&& (3 : Int32)) % ((4 : Int32) - (p2 &&& (3 : Int32)))))), .val (.int (3 : Int32)), .val (.ref b612), .val (.ref b570), .unset, .unset] [(.int ((p2 &&& (3 : Int32)) + ((((p2.toUInt32 >>> ((2 : Int32) &&& 31).toUInt32).toInt32) &&& (3 : Int32)) % ((4 : Int32) - (p2 &&& (3 : Int32)))))), (.int (p2 &&& (3 : Int32))), (.ref b365), (.ref r_688), (.ref b656), (.ref b656)]))
    refine gv (fun tQ kQ => XS.aload X688.here hx rfl (hb hby at_175) rfl rfl kQ) ?_
    show G (T688.setTop (mkF me_ 177 #[.val (.int p0), .val (.int p1), .val (.int p2), .val (.int p3), .val (.int p4), .val (.ref b345), .val (.ref b365), .val (.int (p2 &&& (3 : Int32))), .val (.int ((p2 &&& (3 : Int32)) + ((((p2.toUInt32 >>> ((2 : Int32) &&& 31).toUInt32).toInt32) &&& (3 : Int32)) % ((4 : Int32) - (p2 &&& (3 : Int32)))))), .val (.int (3 : Int32)), .val (.ref b612), .val (.ref b570), .unset, .unset] [(.ref b612), (.int ((p2 &&& (3 : Int32)) + ((((p2.toUInt32 >>> ((2 : Int32) &&& 31).toUInt32).toInt32) &&& (3 : Int32)) % ((4 : Int32) - (p2 &&& (3 : Int32)))))), (.int (p2 &&& (3 : Int32))), (.ref b365), (.ref r_688), (.ref b656), (.ref b656)]))
    obtain ⟨_, _, ⟨T690, L690, k690, n690⟩, -, X690, ⟨Lc690, hQ690, l690, y690, z690⟩, st690⟩ := X688.specialBack hx (y := (⟨"com/example/hits_in_context/hitsincontext/io/XmlCharacterData$Piece", "<init>", "(Lcom/example/hits_in_context/hitsincontext/io/XmlCharacterData$Kind;Ljava/lang/String;IILjava/lang/String;)V"⟩ : MethodName)) rfl hown (mvT hZ (hw _ (List.mem_of_getElem? (i := 43) rfl))) (mvT hZ (hw _ (List.mem_of_getElem? (i := 44) rfl))) (mvT hZ (hw _ (List.mem_of_getElem? (i := 45) rfl))) (by decide) (backOf (W := 1) (rm_piR l Z a0 hw [] b656 r_688 b365 (p2 &&& (3 : Int32)) ((p2 &&& (3 : Int32)) + ((((p2.toUInt32 >>> ((2 : Int32) &&& 31).toUInt32).toInt32) &&& (3 : Int32)) % ((4 : Int32) - (p2 &&& (3 : Int32))))) b612 h656 n0 O682 A656 f683 f684 f685 f686 f687 g663) hZ (hw _ (List.mem_of_getElem? (i := 45) rfl)) (hw _ (List.mem_of_getElem? (i := 35) rfl)) (by decide) (by decide)) (g := (mkF me_ 177 #[.val (.int p0), .val (.int p1), .val (.int p2), .val (.int p3), .val (.int p4), .val (.ref b345), .val (.ref b365), .val (.int (p2 &&& (3 : Int32))), .val (.int ((p2 &&& (3 : Int32)) + ((((p2.toUInt32 >>> ((2 : Int32) &&& 31).toUInt32).toInt32) &&& (3 : Int32)) % ((4 : Int32) - (p2 &&& (3 : Int32)))))), .val (.int (3 : Int32)), .val (.ref b612), .val (.ref b570), .unset, .unset] [(.ref b612), (.int ((p2 &&& (3 : Int32)) + ((((p2.toUInt32 >>> ((2 : Int32) &&& 31).toUInt32).toInt32) &&& (3 : Int32)) % ((4 : Int32) - (p2 &&& (3 : Int32)))))), (.int (p2 &&& (3 : Int32))), (.ref b365), (.ref r_688), (.ref b656), (.ref b656)])) rfl (by rw [hml]; rfl) (Steps.refl _) (a := b656) (argsL := [(.ref r_688), (.ref b365), (.int (p2 &&& (3 : Int32))), (.int ((p2 &&& (3 : Int32)) + ((((p2.toUInt32 >>> ((2 : Int32) &&& 31).toUInt32).toInt32) &&& (3 : Int32)) % ((4 : Int32) - (p2 &&& (3 : Int32)))))), (.ref b612)]) (rest := [(.ref b656)]) (lenOf pd_11 rfl) rfl (by show 2 * 0 + _ ≤ _; exact Nat.le_of_eq rfl) (hb hby at_177) (fun _ _ => ⟨rfl, eq688, (by decide : 7 + 0 ≤ _), (by decide : 23 + 0 ≤ _)⟩)
    dsimp only [Pt.U, Pt.locs, Pt.cells, Pt.slots] at X690 l690 y690 z690 st690 hQ690
    subst l690 y690 z690
    obtain ⟨rfl, Nq690, Kq690, w690_0, w690_1, w690_2, w690_3⟩ := hQ690
    have N691 := Fr.app N689 Nq690
    obtain ⟨h690, e690⟩ : ∃ z, T690.heap = z := ⟨_, rfl⟩
    rw [e690] at Kq690 w690_0 w690_1 w690_2 w690_3
    have sf692 := Safe.keep Kq690 (sfS (Safe.exa hZ.alike A656 (by decide) (by decide)) sf0) CR.1 sf675
    have sf693 := Safe.keep Kq690 (sfS (Safe.exa hZ.alike A656 (by decide) (by decide)) sf0) CR.1 sf676
    have sf694 := Safe.keep Kq690 (sfS (Safe.exa hZ.alike A656 (by decide) (by decide)) sf0) CR.1 sf677
    have sf695 := Safe.keep Kq690 (sfS (Safe.exa hZ.alike A656 (by decide) (by decide)) sf0) CR.1 sf678
    have sf696 := Safe.keep Kq690 (sfS (Safe.exa hZ.alike A656 (by decide) (by decide)) sf0) CR.1 sf679
    have sf697 := Safe.keep Kq690 (sfS (Safe.exa hZ.alike A656 (by decide) (by decide)) sf0) CR.1 sf680
    have sf698 := Safe.keep Kq690 (sfS (Safe.exa hZ.alike A656 (by decide) (by decide)) sf0) CR.1 sf681
    have CR := CR.trans (CHr.keep Kq690 (sfS (Safe.exa hZ.alike A656 (by decide) (by decide)) sf0) CR.1)
    have hk := Nat.le_trans hk Kq690.1
    have f699 : Arv Z h690 b345 k345 .char (3 : Int32) [(.int ((p1 &&& (255 : Int32)).toUInt32.toUInt16.toUInt32.toInt32)), (.int ((((p1.toUInt32 >>> ((8 : Int32) &&& 31).toUInt32).toInt32) &&& (255 : Int32)).toUInt32.toUInt16.toUInt32.toInt32)), (.int ((((p1.toUInt32 >>> ((16 : Int32) &&& 31).toUInt32).toInt32) &&& (255 : Int32)).toUInt32.toUInt16.toUInt32.toInt32))] (.int (0 : Int32)) := f665.keep Kq690 (ninS ne657 nin0)
    have f700 : Exa Z h690 b365 "java/lang/String" := f666.keep Kq690
    have f701 : Fld Z h690 b365 "java/lang/String" "coder" "B" (.int (0 : Int32)) := f667.keep Kq690 (ninS ne658 nin0)
    have f702 : Fld Z h690 b365 "java/lang/String" "value" "[B" (.ref b_375) := f668.keep Kq690 (ninS ne658 nin0)
    have f703 : Arv Z h690 b_375 k_375 .byte (3 : Int32) [(.int (((p1 &&& (255 : Int32)).toUInt32.toUInt16.toUInt32.toInt32).toInt8.toInt32)), (.int (((((p1.toUInt32 >>> ((8 : Int32) &&& 31).toUInt32).toInt32) &&& (255 : Int32)).toUInt32.toUInt16.toUInt32.toInt32).toInt8.toInt32)), (.int (((((p1.toUInt32 >>> ((16 : Int32) &&& 31).toUInt32).toInt32) &&& (255 : Int32)).toUInt32.toUInt16.toUInt32.toInt32).toInt8.toInt32))] (.int (0 : Int32)) := f669.keep Kq690 (ninS ne659 nin0)
    have f704 : Arv Z h690 b570 k570 .char (2 : Int32) [(.int ((p4 &&& (255 : Int32)).toUInt32.toUInt16.toUInt32.toInt32)), (.int ((((p4.toUInt32 >>> ((8 : Int32) &&& 31).toUInt32).toInt32) &&& (255 : Int32)).toUInt32.toUInt16.toUInt32.toInt32))] (.int (0 : Int32)) := f670.keep Kq690 (ninS ne660 nin0)
    have f705 : Exa Z h690 b612 "java/lang/String" := f671.keep Kq690
    have f706 : Fld Z h690 b612 "java/lang/String" "coder" "B" (.int (0 : Int32)) := f672.keep Kq690 (ninS ne661 nin0)
    have f707 : Fld Z h690 b612 "java/lang/String" "value" "[B" (.ref b_633) := f673.keep Kq690 (ninS ne661 nin0)
    have f708 : Arv Z h690 b_633 k_633 .byte (2 : Int32) [(.int (((p4 &&& (255 : Int32)).toUInt32.toUInt16.toUInt32.toInt32).toInt8.toInt32)), (.int (((((p4.toUInt32 >>> ((8 : Int32) &&& 31).toUInt32).toInt32) &&& (255 : Int32)).toUInt32.toUInt16.toUInt32.toInt32).toInt8.toInt32))] (.int (0 : Int32)) := f674.keep Kq690 (ninS ne662 nin0)
    have f709 : Exa Z h690 b656 "com/example/hits_in_context/hitsincontext/io/XmlCharacterData$Piece" := A656.keep Kq690
    have O710 := O682.keep Kq690 (allS g663 all0)
    refine gv (fun tQ kQ => st690.trans kQ) ?_
    show G (T690.setTop (mkF me_ 180 #[.val (.int p0), .val (.int p1), .val (.int p2), .val (.int p3), .val (.int p4), .val (.ref b345), .val (.ref b365), .val (.int (p2 &&& (3 : Int32))), .val (.int ((p2 &&& (3 : Int32)) + ((((p2.toUInt32 >>> ((2 : Int32) &&& 31).toUInt32).toInt32) &&& (3 : Int32)) % ((4 : Int32) - (p2 &&& (3 : Int32)))))), .val (.int (3 : Int32)), .val (.ref b612), .val (.ref b570), .unset, .unset] [(.ref b656)]))
    refine gv (fun tQ kQ => XS.astore X690.here hx rfl (hb hby at_180) rfl rfl (l' := #[.val (.int p0), .val (.int p1), .val (.int p2), .val (.int p3), .val (.int p4), .val (.ref b345), .val (.ref b365), .val (.int (p2 &&& (3 : Int32))), .val (.int ((p2 &&& (3 : Int32)) + ((((p2.toUInt32 >>> ((2 : Int32) &&& 31).toUInt32).toInt32) &&& (3 : Int32)) % ((4 : Int32) - (p2 &&& (3 : Int32)))))), .val (.int (3 : Int32)), .val (.ref b612), .val (.ref b656), .unset, .unset]) rfl kQ) ?_
    show G (T690.setTop (mkF me_ 182 #[.val (.int p0), .val (.int p1), .val (.int p2), .val (.int p3), .val (.int p4), .val (.ref b345), .val (.ref b365), .val (.int (p2 &&& (3 : Int32))), .val (.int ((p2 &&& (3 : Int32)) + ((((p2.toUInt32 >>> ((2 : Int32) &&& 31).toUInt32).toInt32) &&& (3 : Int32)) % ((4 : Int32) - (p2 &&& (3 : Int32)))))), .val (.int (3 : Int32)), .val (.ref b612), .val (.ref b656), .unset, .unset] []))
    refine gv (fun tQ kQ => XS.aload X690.here hx rfl (hb hby at_182) rfl rfl kQ) ?_
    show G (T690.setTop (mkF me_ 184 #[.val (.int p0), .val (.int p1), .val (.int p2), .val (.int p3), .val (.int p4), .val (.ref b345), .val (.ref b365), .val (.int (p2 &&& (3 : Int32))), .val (.int ((p2 &&& (3 : Int32)) + ((((p2.toUInt32 >>> ((2 : Int32) &&& 31).toUInt32).toInt32) &&& (3 : Int32)) % ((4 : Int32) - (p2 &&& (3 : Int32)))))), .val (.int (3 : Int32)), .val (.ref b612), .val (.ref b656), .unset, .unset] [(.ref b656)]))
    obtain ⟨cq711, kq711, q711a, q711b, q711c⟩ := isOf hZ e690 w690_0
    obtain ⟨_, _, ⟨T711, L711, k711, n711⟩, -, X711, ⟨Lc711, hQ711, l711, y711, z711⟩, st711⟩ := X690.virtualBack hx (y := (⟨"com/example/hits_in_context/hitsincontext/io/XmlCharacterData$Piece", "isLiteral", "()Z"⟩ : MethodName)) (z := (⟨"com/example/hits_in_context/hitsincontext/io/XmlCharacterData$Piece", "isLiteral", "()Z"⟩ : MethodName)) hown (mvT hZ (hw _ (List.mem_of_getElem? (i := 57) rfl))) (mvT hZ (hw _ (List.mem_of_getElem? (i := 58) rfl))) (notFace_of_selects (args := #[]) (mvT hZ (hw _ (List.mem_of_getElem? (i := 60) rfl)))) (mvT hZ (hw _ (List.mem_of_getElem? (i := 60) rfl))) (mvT hZ (hw _ (List.mem_of_getElem? (i := 59) rfl))) (by decide) (backOf (W := 0) (rm_islR l Z a0 hw [] b656 b612 h690 n0 O710 w690_3) hZ (hw _ (List.mem_of_getElem? (i := 61) rfl)) (hw _ (List.mem_of_getElem? (i := 35) rfl)) (by decide) (by decide)) q711a q711c (g := (mkF me_ 184 #[.val (.int p0), .val (.int p1), .val (.int p2), .val (.int p3), .val (.int p4), .val (.ref b345), .val (.ref b365), .val (.int (p2 &&& (3 : Int32))), .val (.int ((p2 &&& (3 : Int32)) + ((((p2.toUInt32 >>> ((2 : Int32) &&& 31).toUInt32).toInt32) &&& (3 : Int32)) % ((4 : Int32) - (p2 &&& (3 : Int32)))))), .val (.int (3 : Int32)), .val (.ref b612), .val (.ref b656), .unset, .unset] [(.ref b656)])) rfl (by rw [hml]; rfl) (Steps.refl _) (argsL := []) (rest := []) (lenOf pd_12 rfl) rfl (by show 2 * 0 + _ ≤ _; exact Nat.le_of_eq rfl) (hb hby at_184) (fun _ _ => ⟨rfl, e690, (by decide : 7 + 0 ≤ _), (by decide : 23 + 0 ≤ _)⟩)
    dsimp only [Pt.U, Pt.locs, Pt.cells, Pt.slots] at X711 l711 y711 z711 st711 hQ711
    subst l711 y711 z711
    obtain ⟨rfl, Nq711, eq711⟩ := hQ711
    have N712 := Fr.app N691 Nq711
    refine gv (fun tQ kQ => st711.trans kQ) ?_
    show G (T711.setTop (mkF me_ 187 #[.val (.int p0), .val (.int p1), .val (.int p2), .val (.int p3), .val (.int p4), .val (.ref b345), .val (.ref b365), .val (.int (p2 &&& (3 : Int32))), .val (.int ((p2 &&& (3 : Int32)) + ((((p2.toUInt32 >>> ((2 : Int32) &&& 31).toUInt32).toInt32) &&& (3 : Int32)) % ((4 : Int32) - (p2 &&& (3 : Int32)))))), .val (.int (3 : Int32)), .val (.ref b612), .val (.ref b656), .unset, .unset] [(.int (0 : Int32))]))
    refine gv (fun tQ kQ => XS.istore X711.here hx rfl (hb hby at_187) rfl (l' := #[.val (.int p0), .val (.int p1), .val (.int p2), .val (.int p3), .val (.int p4), .val (.ref b345), .val (.ref b365), .val (.int (p2 &&& (3 : Int32))), .val (.int ((p2 &&& (3 : Int32)) + ((((p2.toUInt32 >>> ((2 : Int32) &&& 31).toUInt32).toInt32) &&& (3 : Int32)) % ((4 : Int32) - (p2 &&& (3 : Int32)))))), .val (.int (3 : Int32)), .val (.ref b612), .val (.ref b656), .val (.int (0 : Int32)), .unset]) rfl kQ) ?_
    show G (T711.setTop (mkF me_ 189 #[.val (.int p0), .val (.int p1), .val (.int p2), .val (.int p3), .val (.int p4), .val (.ref b345), .val (.ref b365), .val (.int (p2 &&& (3 : Int32))), .val (.int ((p2 &&& (3 : Int32)) + ((((p2.toUInt32 >>> ((2 : Int32) &&& 31).toUInt32).toInt32) &&& (3 : Int32)) % ((4 : Int32) - (p2 &&& (3 : Int32)))))), .val (.int (3 : Int32)), .val (.ref b612), .val (.ref b656), .val (.int (0 : Int32)), .unset] []))
    refine gv (fun tQ kQ => XS.iload X711.here hx rfl (hb hby at_189) rfl kQ) ?_
    show G (T711.setTop (mkF me_ 191 #[.val (.int p0), .val (.int p1), .val (.int p2), .val (.int p3), .val (.int p4), .val (.ref b345), .val (.ref b365), .val (.int (p2 &&& (3 : Int32))), .val (.int ((p2 &&& (3 : Int32)) + ((((p2.toUInt32 >>> ((2 : Int32) &&& 31).toUInt32).toInt32) &&& (3 : Int32)) % ((4 : Int32) - (p2 &&& (3 : Int32)))))), .val (.int (3 : Int32)), .val (.ref b612), .val (.ref b656), .val (.int (0 : Int32)), .unset] [(.int (0 : Int32))]))
    refine gv (fun tQ kQ => XS.iload X711.here hx rfl (hb hby at_191) rfl kQ) ?_
    show G (T711.setTop (mkF me_ 193 #[.val (.int p0), .val (.int p1), .val (.int p2), .val (.int p3), .val (.int p4), .val (.ref b345), .val (.ref b365), .val (.int (p2 &&& (3 : Int32))), .val (.int ((p2 &&& (3 : Int32)) + ((((p2.toUInt32 >>> ((2 : Int32) &&& 31).toUInt32).toInt32) &&& (3 : Int32)) % ((4 : Int32) - (p2 &&& (3 : Int32)))))), .val (.int (3 : Int32)), .val (.ref b612), .val (.ref b656), .val (.int (0 : Int32)), .unset] [(.int (3 : Int32)), (.int (0 : Int32))]))
    refine gv (fun tQ kQ => XS.ifYes X711.here hx rfl (pc0 := 193) (pc' := 200) rfl (hb hby at_193) rfl ((if0 _ _).trans (feq (by decide : ¬ ((3 : Int32) = (0 : Int32)))).2) (by decide) (by decide) kQ) ?_
    show G (T711.setTop (mkF me_ 200 #[.val (.int p0), .val (.int p1), .val (.int p2), .val (.int p3), .val (.int p4), .val (.ref b345), .val (.ref b365), .val (.int (p2 &&& (3 : Int32))), .val (.int ((p2 &&& (3 : Int32)) + ((((p2.toUInt32 >>> ((2 : Int32) &&& 31).toUInt32).toInt32) &&& (3 : Int32)) % ((4 : Int32) - (p2 &&& (3 : Int32)))))), .val (.int (3 : Int32)), .val (.ref b612), .val (.ref b656), .val (.int (0 : Int32)), .unset] [(.int (0 : Int32))]))
    refine gv (fun tQ kQ => XS.iconst X711.here hx rfl (hb hby at_200) kQ) ?_
    show G (T711.setTop (mkF me_ 201 #[.val (.int p0), .val (.int p1), .val (.int p2), .val (.int p3), .val (.int p4), .val (.ref b345), .val (.ref b365), .val (.int (p2 &&& (3 : Int32))), .val (.int ((p2 &&& (3 : Int32)) + ((((p2.toUInt32 >>> ((2 : Int32) &&& 31).toUInt32).toInt32) &&& (3 : Int32)) % ((4 : Int32) - (p2 &&& (3 : Int32)))))), .val (.int (3 : Int32)), .val (.ref b612), .val (.ref b656), .val (.int (0 : Int32)), .unset] [(.int (0 : Int32)), (.int (0 : Int32))]))
    refine gv (fun tQ kQ => XS.icmpYes X711.here hx rfl (pc0 := 201) (pc' := 206) rfl (hb hby at_201) rfl (teq (by decide : (0 : Int32) = (0 : Int32))).1 (by decide) (by decide) kQ) ?_
    show G (T711.setTop (mkF me_ 206 #[.val (.int p0), .val (.int p1), .val (.int p2), .val (.int p3), .val (.int p4), .val (.ref b345), .val (.ref b365), .val (.int (p2 &&& (3 : Int32))), .val (.int ((p2 &&& (3 : Int32)) + ((((p2.toUInt32 >>> ((2 : Int32) &&& 31).toUInt32).toInt32) &&& (3 : Int32)) % ((4 : Int32) - (p2 &&& (3 : Int32)))))), .val (.int (3 : Int32)), .val (.ref b612), .val (.ref b656), .val (.int (0 : Int32)), .unset] []))
    refine gv (fun tQ kQ => XS.iload X711.here hx rfl (hb hby at_206) rfl kQ) ?_
    show G (T711.setTop (mkF me_ 208 #[.val (.int p0), .val (.int p1), .val (.int p2), .val (.int p3), .val (.int p4), .val (.ref b345), .val (.ref b365), .val (.int (p2 &&& (3 : Int32))), .val (.int ((p2 &&& (3 : Int32)) + ((((p2.toUInt32 >>> ((2 : Int32) &&& 31).toUInt32).toInt32) &&& (3 : Int32)) % ((4 : Int32) - (p2 &&& (3 : Int32)))))), .val (.int (3 : Int32)), .val (.ref b612), .val (.ref b656), .val (.int (0 : Int32)), .unset] [(.int (3 : Int32))]))
    refine gv (fun tQ kQ => XS.ifYes X711.here hx rfl (pc0 := 208) (pc' := 219) rfl (hb hby at_208) rfl ((if0 _ _).trans (feq (by decide : ¬ ((3 : Int32) = (0 : Int32)))).2) (by decide) (by decide) kQ) ?_
    show G (T711.setTop (mkF me_ 219 #[.val (.int p0), .val (.int p1), .val (.int p2), .val (.int p3), .val (.int p4), .val (.ref b345), .val (.ref b365), .val (.int (p2 &&& (3 : Int32))), .val (.int ((p2 &&& (3 : Int32)) + ((((p2.toUInt32 >>> ((2 : Int32) &&& 31).toUInt32).toInt32) &&& (3 : Int32)) % ((4 : Int32) - (p2 &&& (3 : Int32)))))), .val (.int (3 : Int32)), .val (.ref b612), .val (.ref b656), .val (.int (0 : Int32)), .unset] []))
    refine gv (fun tQ kQ => XS.iload X711.here hx rfl (hb hby at_219) rfl kQ) ?_
    show G (T711.setTop (mkF me_ 221 #[.val (.int p0), .val (.int p1), .val (.int p2), .val (.int p3), .val (.int p4), .val (.ref b345), .val (.ref b365), .val (.int (p2 &&& (3 : Int32))), .val (.int ((p2 &&& (3 : Int32)) + ((((p2.toUInt32 >>> ((2 : Int32) &&& 31).toUInt32).toInt32) &&& (3 : Int32)) % ((4 : Int32) - (p2 &&& (3 : Int32)))))), .val (.int (3 : Int32)), .val (.ref b612), .val (.ref b656), .val (.int (0 : Int32)), .unset] [(.int (3 : Int32))]))
    refine gv (fun tQ kQ => XS.iconst X711.here hx rfl (hb hby at_221) kQ) ?_
    show G (T711.setTop (mkF me_ 222 #[.val (.int p0), .val (.int p1), .val (.int p2), .val (.int p3), .val (.int p4), .val (.ref b345), .val (.ref b365), .val (.int (p2 &&& (3 : Int32))), .val (.int ((p2 &&& (3 : Int32)) + ((((p2.toUInt32 >>> ((2 : Int32) &&& 31).toUInt32).toInt32) &&& (3 : Int32)) % ((4 : Int32) - (p2 &&& (3 : Int32)))))), .val (.int (3 : Int32)), .val (.ref b612), .val (.ref b656), .val (.int (0 : Int32)), .unset] [(.int (1 : Int32)), (.int (3 : Int32))]))
    refine gv (fun tQ kQ => XS.icmpYes X711.here hx rfl (pc0 := 222) (pc' := 229) rfl (hb hby at_222) rfl (feq (by decide : ¬ ((3 : Int32) = (1 : Int32)))).2 (by decide) (by decide) kQ) ?_
    show G (T711.setTop (mkF me_ 229 #[.val (.int p0), .val (.int p1), .val (.int p2), .val (.int p3), .val (.int p4), .val (.ref b345), .val (.ref b365), .val (.int (p2 &&& (3 : Int32))), .val (.int ((p2 &&& (3 : Int32)) + ((((p2.toUInt32 >>> ((2 : Int32) &&& 31).toUInt32).toInt32) &&& (3 : Int32)) % ((4 : Int32) - (p2 &&& (3 : Int32)))))), .val (.int (3 : Int32)), .val (.ref b612), .val (.ref b656), .val (.int (0 : Int32)), .unset] []))
    refine gv (fun tQ kQ => XS.iload X711.here hx rfl (hb hby at_229) rfl kQ) ?_
    show G (T711.setTop (mkF me_ 231 #[.val (.int p0), .val (.int p1), .val (.int p2), .val (.int p3), .val (.int p4), .val (.ref b345), .val (.ref b365), .val (.int (p2 &&& (3 : Int32))), .val (.int ((p2 &&& (3 : Int32)) + ((((p2.toUInt32 >>> ((2 : Int32) &&& 31).toUInt32).toInt32) &&& (3 : Int32)) % ((4 : Int32) - (p2 &&& (3 : Int32)))))), .val (.int (3 : Int32)), .val (.ref b612), .val (.ref b656), .val (.int (0 : Int32)), .unset] [(.int (3 : Int32))]))
    refine gv (fun tQ kQ => XS.iconst X711.here hx rfl (hb hby at_231) kQ) ?_
    show G (T711.setTop (mkF me_ 232 #[.val (.int p0), .val (.int p1), .val (.int p2), .val (.int p3), .val (.int p4), .val (.ref b345), .val (.ref b365), .val (.int (p2 &&& (3 : Int32))), .val (.int ((p2 &&& (3 : Int32)) + ((((p2.toUInt32 >>> ((2 : Int32) &&& 31).toUInt32).toInt32) &&& (3 : Int32)) % ((4 : Int32) - (p2 &&& (3 : Int32)))))), .val (.int (3 : Int32)), .val (.ref b612), .val (.ref b656), .val (.int (0 : Int32)), .unset] [(.int (2 : Int32)), (.int (3 : Int32))]))
    refine gv (fun tQ kQ => XS.icmpYes X711.here hx rfl (pc0 := 232) (pc' := 239) rfl (hb hby at_232) rfl (feq (by decide : ¬ ((3 : Int32) = (2 : Int32)))).2 (by decide) (by decide) kQ) ?_
    show G (T711.setTop (mkF me_ 239 #[.val (.int p0), .val (.int p1), .val (.int p2), .val (.int p3), .val (.int p4), .val (.ref b345), .val (.ref b365), .val (.int (p2 &&& (3 : Int32))), .val (.int ((p2 &&& (3 : Int32)) + ((((p2.toUInt32 >>> ((2 : Int32) &&& 31).toUInt32).toInt32) &&& (3 : Int32)) % ((4 : Int32) - (p2 &&& (3 : Int32)))))), .val (.int (3 : Int32)), .val (.ref b612), .val (.ref b656), .val (.int (0 : Int32)), .unset] []))
    refine gv (fun tQ kQ => XS.iconst X711.here hx rfl (hb hby at_239) kQ) ?_
    show G (T711.setTop (mkF me_ 240 #[.val (.int p0), .val (.int p1), .val (.int p2), .val (.int p3), .val (.int p4), .val (.ref b345), .val (.ref b365), .val (.int (p2 &&& (3 : Int32))), .val (.int ((p2 &&& (3 : Int32)) + ((((p2.toUInt32 >>> ((2 : Int32) &&& 31).toUInt32).toInt32) &&& (3 : Int32)) % ((4 : Int32) - (p2 &&& (3 : Int32)))))), .val (.int (3 : Int32)), .val (.ref b612), .val (.ref b656), .val (.int (0 : Int32)), .unset] [(.int (2 : Int32))]))
    refine gv (fun tQ kQ => XS.istore X711.here hx rfl (hb hby at_240) rfl (l' := #[.val (.int p0), .val (.int p1), .val (.int p2), .val (.int p3), .val (.int p4), .val (.ref b345), .val (.ref b365), .val (.int (p2 &&& (3 : Int32))), .val (.int ((p2 &&& (3 : Int32)) + ((((p2.toUInt32 >>> ((2 : Int32) &&& 31).toUInt32).toInt32) &&& (3 : Int32)) % ((4 : Int32) - (p2 &&& (3 : Int32)))))), .val (.int (3 : Int32)), .val (.ref b612), .val (.ref b656), .val (.int (0 : Int32)), .val (.int (2 : Int32))]) rfl kQ) ?_
    show G (T711.setTop (mkF me_ 242 #[.val (.int p0), .val (.int p1), .val (.int p2), .val (.int p3), .val (.int p4), .val (.ref b345), .val (.ref b365), .val (.int (p2 &&& (3 : Int32))), .val (.int ((p2 &&& (3 : Int32)) + ((((p2.toUInt32 >>> ((2 : Int32) &&& 31).toUInt32).toInt32) &&& (3 : Int32)) % ((4 : Int32) - (p2 &&& (3 : Int32)))))), .val (.int (3 : Int32)), .val (.ref b612), .val (.ref b656), .val (.int (0 : Int32)), .val (.int (2 : Int32))] []))
    refine gv (fun tQ kQ => XS.aload X711.here hx rfl (hb hby at_242) rfl rfl kQ) ?_
    show G (T711.setTop (mkF me_ 244 #[.val (.int p0), .val (.int p1), .val (.int p2), .val (.int p3), .val (.int p4), .val (.ref b345), .val (.ref b365), .val (.int (p2 &&& (3 : Int32))), .val (.int ((p2 &&& (3 : Int32)) + ((((p2.toUInt32 >>> ((2 : Int32) &&& 31).toUInt32).toInt32) &&& (3 : Int32)) % ((4 : Int32) - (p2 &&& (3 : Int32)))))), .val (.int (3 : Int32)), .val (.ref b612), .val (.ref b656), .val (.int (0 : Int32)), .val (.int (2 : Int32))] [(.ref b656)]))
    obtain ⟨cq713, kq713, q713a, q713b, q713c⟩ := isOf hZ eq711 w690_0
    obtain ⟨_, _, ⟨T713, L713, k713, n713⟩, -, X713, ⟨Lc713, hQ713, l713, y713, z713⟩, st713⟩ := X711.virtualBack hx (y := (⟨"com/example/hits_in_context/hitsincontext/io/XmlCharacterData$Piece", "length", "()I"⟩ : MethodName)) (z := (⟨"com/example/hits_in_context/hitsincontext/io/XmlCharacterData$Piece", "length", "()I"⟩ : MethodName)) hown (mvT hZ (hw _ (List.mem_of_getElem? (i := 62) rfl))) (mvT hZ (hw _ (List.mem_of_getElem? (i := 63) rfl))) (notFace_of_selects (args := #[]) (mvT hZ (hw _ (List.mem_of_getElem? (i := 65) rfl)))) (mvT hZ (hw _ (List.mem_of_getElem? (i := 65) rfl))) (mvT hZ (hw _ (List.mem_of_getElem? (i := 64) rfl))) (by decide) (backOf (W := 0) (rm_lenR2 l Z a0 hw [] b656 b612 b_633 k_633 cs (((p4 &&& (255 : Int32)).toUInt32.toUInt16.toUInt32.toInt32).toInt8.toInt32) (((((p4.toUInt32 >>> ((8 : Int32) &&& 31).toUInt32).toInt32) &&& (255 : Int32)).toUInt32.toUInt16.toUInt32.toInt32).toInt8.toInt32) h690 n0 O710 u0 u1 w690_3 f705 f706 f707 f708) hZ (hw _ (List.mem_of_getElem? (i := 66) rfl)) (hw _ (List.mem_of_getElem? (i := 35) rfl)) (by decide) (by decide)) q713a q713c (g := (mkF me_ 244 #[.val (.int p0), .val (.int p1), .val (.int p2), .val (.int p3), .val (.int p4), .val (.ref b345), .val (.ref b365), .val (.int (p2 &&& (3 : Int32))), .val (.int ((p2 &&& (3 : Int32)) + ((((p2.toUInt32 >>> ((2 : Int32) &&& 31).toUInt32).toInt32) &&& (3 : Int32)) % ((4 : Int32) - (p2 &&& (3 : Int32)))))), .val (.int (3 : Int32)), .val (.ref b612), .val (.ref b656), .val (.int (0 : Int32)), .val (.int (2 : Int32))] [(.ref b656)])) rfl (by rw [hml]; rfl) (Steps.refl _) (argsL := []) (rest := []) (lenOf pd_8 rfl) rfl (by show 2 * 0 + _ ≤ _; exact Nat.le_of_eq rfl) (hb hby at_244) (fun _ _ => ⟨rfl, eq711, (by decide : 7 + 0 ≤ _), (by decide : 23 + 0 ≤ _)⟩)
    dsimp only [Pt.U, Pt.locs, Pt.cells, Pt.slots] at X713 l713 y713 z713 st713 hQ713
    subst l713 y713 z713
    obtain ⟨rfl, Nq713, eq713⟩ := hQ713
    have N714 := Fr.app N712 Nq713
    refine gv (fun tQ kQ => st713.trans kQ) ?_
    show G (T713.setTop (mkF me_ 247 #[.val (.int p0), .val (.int p1), .val (.int p2), .val (.int p3), .val (.int p4), .val (.ref b345), .val (.ref b365), .val (.int (p2 &&& (3 : Int32))), .val (.int ((p2 &&& (3 : Int32)) + ((((p2.toUInt32 >>> ((2 : Int32) &&& 31).toUInt32).toInt32) &&& (3 : Int32)) % ((4 : Int32) - (p2 &&& (3 : Int32)))))), .val (.int (3 : Int32)), .val (.ref b612), .val (.ref b656), .val (.int (0 : Int32)), .val (.int (2 : Int32))] [(.int (2 : Int32))]))
    refine gv (fun tQ kQ => XS.iload X713.here hx rfl (hb hby at_247) rfl kQ) ?_
    show G (T713.setTop (mkF me_ 249 #[.val (.int p0), .val (.int p1), .val (.int p2), .val (.int p3), .val (.int p4), .val (.ref b345), .val (.ref b365), .val (.int (p2 &&& (3 : Int32))), .val (.int ((p2 &&& (3 : Int32)) + ((((p2.toUInt32 >>> ((2 : Int32) &&& 31).toUInt32).toInt32) &&& (3 : Int32)) % ((4 : Int32) - (p2 &&& (3 : Int32)))))), .val (.int (3 : Int32)), .val (.ref b612), .val (.ref b656), .val (.int (0 : Int32)), .val (.int (2 : Int32))] [(.int (2 : Int32)), (.int (2 : Int32))]))
    refine gv (fun tQ kQ => XS.icmpNo X713.here hx rfl (hb hby at_249) rfl (teq (by decide : (2 : Int32) = (2 : Int32))).2 kQ) ?_
    show G (T713.setTop (mkF me_ 252 #[.val (.int p0), .val (.int p1), .val (.int p2), .val (.int p3), .val (.int p4), .val (.ref b345), .val (.ref b365), .val (.int (p2 &&& (3 : Int32))), .val (.int ((p2 &&& (3 : Int32)) + ((((p2.toUInt32 >>> ((2 : Int32) &&& 31).toUInt32).toInt32) &&& (3 : Int32)) % ((4 : Int32) - (p2 &&& (3 : Int32)))))), .val (.int (3 : Int32)), .val (.ref b612), .val (.ref b656), .val (.int (0 : Int32)), .val (.int (2 : Int32))] []))
    refine gv (fun tQ kQ => XS.iconst X713.here hx rfl (hb hby at_252) kQ) ?_
    show G (T713.setTop (mkF me_ 253 #[.val (.int p0), .val (.int p1), .val (.int p2), .val (.int p3), .val (.int p4), .val (.ref b345), .val (.ref b365), .val (.int (p2 &&& (3 : Int32))), .val (.int ((p2 &&& (3 : Int32)) + ((((p2.toUInt32 >>> ((2 : Int32) &&& 31).toUInt32).toInt32) &&& (3 : Int32)) % ((4 : Int32) - (p2 &&& (3 : Int32)))))), .val (.int (3 : Int32)), .val (.ref b612), .val (.ref b656), .val (.int (0 : Int32)), .val (.int (2 : Int32))] [(.int (1 : Int32))]))
    refine gv (fun tQ kQ => XS.goto X713.here hx rfl (pc0 := 253) (pc' := 257) rfl (hb hby at_253) (by decide) (by decide) kQ) ?_
    show G (T713.setTop (mkF me_ 257 #[.val (.int p0), .val (.int p1), .val (.int p2), .val (.int p3), .val (.int p4), .val (.ref b345), .val (.ref b365), .val (.int (p2 &&& (3 : Int32))), .val (.int ((p2 &&& (3 : Int32)) + ((((p2.toUInt32 >>> ((2 : Int32) &&& 31).toUInt32).toInt32) &&& (3 : Int32)) % ((4 : Int32) - (p2 &&& (3 : Int32)))))), .val (.int (3 : Int32)), .val (.ref b612), .val (.ref b656), .val (.int (0 : Int32)), .val (.int (2 : Int32))] [(.int (1 : Int32))]))
    refine gf _ (own_retW X713 Bd.notSynchronized hS (by rw [eq713]; exact hk) (v := some (.int (1 : Int32))) (fun h => by rw [Bd.returns] at h; cases h) ?_ (by decide) (by decide) (by rw [hh, eq713]; exact CR.trans (CHv.at X713 hZ hEL CR.1)) (fun fs hr => retN X713 hx (t := .boolean) Bd.returns (by simp) (hb hby at_257) hr))
    show Q0 Z p0 p1 p2 p3 p4 cs A_TEXT A_MARKUP A_DECLARATION A_ROOT_TAG A_CDATA_START A_CDATA_END A_ENTITY_START A_ENTITY_END h0 n0 _ T713.heap _
    rw [eq713]
    exact ⟨rfl, N714⟩
set_option maxRecDepth 65536 in
set_option maxHeartbeats 40000000 in
theorem comes_1 {Post : Tables → Env → Array Value → State → Outcome → State → Prop} (hpost : ∀ tb e args s v u, (limb_1_1.after args s (.returned v) u = true ∧ limb_1_2.after args s (.returned v) u = true ∧ True) → ReturnedEndW s (.returned v) u (Jvm.fieldLocs frame_1_writes args s ++ Jvm.arrayLocs frame_1_arrays args s ++ Jvm.staticLocs frame_1_statics s) 24 1152 → Post tb e args s (.returned v) u) :
    ArmFor flags0 classFile x code maxLocals ret World_1 tables_1 room_1 Calls_1 rest_1 Pre_1 Post := by
  intro l hfl _ _ p e ha hc hk s m args below hf hA hF happ hP
  obtain ⟨hcalls, hrest, hpre⟩ := hP
  obtain ⟨-, -, -, hnamed, -, -, -, hat⟩ := (Spec.applies_iff hf).mp happ
  obtain ⟨hg, hn⟩ := and_e (Cond.before_iff.mp (show (Jvm.Cond.and given_1 narrow_1).before args s = true from hpre))
  obtain ⟨g1, g2⟩ := and_e hg
  obtain ⟨g3, g4⟩ := and_e g2
  obtain ⟨g5, g6⟩ := and_e g4
  obtain ⟨g7, g8⟩ := and_e g6
  obtain ⟨g9, g10⟩ := and_e g8
  obtain ⟨g11, g12⟩ := and_e hn
  obtain ⟨g13, g14⟩ := and_e g12
  obtain ⟨g15, g16⟩ := and_e g14
  obtain ⟨g17, g18⟩ := and_e g16
  obtain ⟨g19, g20⟩ := and_e g18
  obtain ⟨g21, g22⟩ := and_e g20
  obtain ⟨g23, g24⟩ := and_e g22
  obtain ⟨w0, w1, w2, w3, w4, rfl⟩ : ∃ w0 w1 w2 w3 w4 : Value, args = #[w0, w1, w2, w3, w4] := by
    have hs : args.size = 5 := by simpa [Cond.value, given_1] using g1
    obtain ⟨L⟩ := args
    match L, hs with
    | [w0, w1, w2, w3, w4], _ => exact ⟨w0, w1, w2, w3, w4, rfl⟩
  have hw := fun d (hd : d ∈ tables_1) => atoms_spec (ws := Jvm.Cond.code x code maxLocals ret :: tables_1) hat d (List.mem_cons_of_mem _ hd)
  have hfit : Fit s := fun {y c} hc i hi => by
    obtain ⟨ha, rfl⟩ := Array.getElem?_eq_some_iff.mp hc
    have q := List.all_eq_true.mp ((Array.all_eq_true_iff_forall_mem.mp hF) _ (Array.getElem_mem ha)) i (List.mem_range.mpr hi)
    simpa [Array.getElem?_eq_getElem hi] using q
  obtain ⟨hsets, hown0⟩ := atoms_of _ (rest_1_c_eq ▸ (show rest_1_c.before _ s = true from hrest))
  obtain ⟨i0, ei0⟩ := is_v g3
  obtain rfl : w0 = (.int i0) := Option.some.inj ei0
  obtain ⟨i1, ei1⟩ := is_v g5
  obtain rfl : w1 = (.int i1) := Option.some.inj ei1
  obtain ⟨i2, ei2⟩ := is_v g7
  obtain rfl : w2 = (.int i2) := Option.some.inj ei2
  obtain ⟨i3, ei3⟩ := is_v g9
  obtain rfl : w3 = (.int i3) := Option.some.inj ei3
  obtain ⟨i4, ei4⟩ := is_v g10
  obtain rfl : w4 = (.int i4) := Option.some.inj ei4
  obtain ⟨A_TEXT, ev_TEXT, E_TEXT⟩ := own_exa g11
  have S_TEXT : Sta s s.heap "com/example/hits_in_context/hitsincontext/io/XmlCharacterData$Kind" "TEXT" "Lcom/example/hits_in_context/hitsincontext/io/XmlCharacterData$Kind;" (.ref A_TEXT) := Sta.start ev_TEXT (Or.inr ⟨(hw _ (List.mem_of_getElem? (i := 41) rfl)), (hw _ (List.mem_of_getElem? (i := 42) rfl))⟩)
  obtain ⟨A_ROOT_TAG, ev_ROOT_TAG, E_ROOT_TAG⟩ := own_exa g13
  have S_ROOT_TAG : Sta s s.heap "com/example/hits_in_context/hitsincontext/io/XmlCharacterData$Kind" "ROOT_TAG" "Lcom/example/hits_in_context/hitsincontext/io/XmlCharacterData$Kind;" (.ref A_ROOT_TAG) := Sta.start ev_ROOT_TAG (Or.inr ⟨(hw _ (List.mem_of_getElem? (i := 41) rfl)), (hw _ (List.mem_of_getElem? (i := 78) rfl))⟩)
  obtain ⟨A_ENTITY_END, ev_ENTITY_END, E_ENTITY_END⟩ := own_exa g15
  have S_ENTITY_END : Sta s s.heap "com/example/hits_in_context/hitsincontext/io/XmlCharacterData$Kind" "ENTITY_END" "Lcom/example/hits_in_context/hitsincontext/io/XmlCharacterData$Kind;" (.ref A_ENTITY_END) := Sta.start ev_ENTITY_END (Or.inr ⟨(hw _ (List.mem_of_getElem? (i := 41) rfl)), (hw _ (List.mem_of_getElem? (i := 94) rfl))⟩)
  obtain ⟨A_DECLARATION, ev_DECLARATION, E_DECLARATION⟩ := own_exa g17
  have S_DECLARATION : Sta s s.heap "com/example/hits_in_context/hitsincontext/io/XmlCharacterData$Kind" "DECLARATION" "Lcom/example/hits_in_context/hitsincontext/io/XmlCharacterData$Kind;" (.ref A_DECLARATION) := Sta.start ev_DECLARATION (Or.inr ⟨(hw _ (List.mem_of_getElem? (i := 41) rfl)), (hw _ (List.mem_of_getElem? (i := 96) rfl))⟩)
  obtain ⟨A_ENTITY_START, ev_ENTITY_START, E_ENTITY_START⟩ := own_exa g19
  have S_ENTITY_START : Sta s s.heap "com/example/hits_in_context/hitsincontext/io/XmlCharacterData$Kind" "ENTITY_START" "Lcom/example/hits_in_context/hitsincontext/io/XmlCharacterData$Kind;" (.ref A_ENTITY_START) := Sta.start ev_ENTITY_START (Or.inr ⟨(hw _ (List.mem_of_getElem? (i := 41) rfl)), (hw _ (List.mem_of_getElem? (i := 98) rfl))⟩)
  obtain ⟨A_CDATA_END, ev_CDATA_END, E_CDATA_END⟩ := own_exa g21
  have S_CDATA_END : Sta s s.heap "com/example/hits_in_context/hitsincontext/io/XmlCharacterData$Kind" "CDATA_END" "Lcom/example/hits_in_context/hitsincontext/io/XmlCharacterData$Kind;" (.ref A_CDATA_END) := Sta.start ev_CDATA_END (Or.inr ⟨(hw _ (List.mem_of_getElem? (i := 41) rfl)), (hw _ (List.mem_of_getElem? (i := 100) rfl))⟩)
  obtain ⟨A_CDATA_START, ev_CDATA_START, E_CDATA_START⟩ := own_exa g23
  have S_CDATA_START : Sta s s.heap "com/example/hits_in_context/hitsincontext/io/XmlCharacterData$Kind" "CDATA_START" "Lcom/example/hits_in_context/hitsincontext/io/XmlCharacterData$Kind;" (.ref A_CDATA_START) := Sta.start ev_CDATA_START (Or.inr ⟨(hw _ (List.mem_of_getElem? (i := 41) rfl)), (hw _ (List.mem_of_getElem? (i := 102) rfl))⟩)
  obtain ⟨A_MARKUP, ev_MARKUP, E_MARKUP⟩ := own_exa g24
  have S_MARKUP : Sta s s.heap "com/example/hits_in_context/hitsincontext/io/XmlCharacterData$Kind" "MARKUP" "Lcom/example/hits_in_context/hitsincontext/io/XmlCharacterData$Kind;" (.ref A_MARKUP) := Sta.start ev_MARKUP (Or.inr ⟨(hw _ (List.mem_of_getElem? (i := 41) rfl)), (hw _ (List.mem_of_getElem? (i := 104) rfl))⟩)
  obtain ⟨cs, ev_cs⟩ := is_v (Cond.before_iff.mp (hsets _ (List.mem_of_getElem? (i := 1) rfl)))
  have S_cs : Sta s s.heap "java/lang/String" "COMPACT_STRINGS" "Z" (.int cs) := Sta.start ev_cs (Or.inl (hsets _ (List.mem_of_getElem? (i := 0) rfl)))
  have n_cs : ¬ (cs = (0 : Int32)) := own_not0 ev_cs (Cond.before_iff.mp (hsets _ (List.mem_of_getElem? (i := 2) rfl)))
  obtain ⟨n, o, h1, h2, h3, _, L, rfl, ⟨rfl, N⟩, -, hq⟩ := rm0 l s _ hw tables_1 i0 i1 i2 i3 i4 cs A_TEXT A_MARKUP A_DECLARATION A_ROOT_TAG A_CDATA_START A_CDATA_END A_ENTITY_START A_ENTITY_END s.heap s.heap.size (Old.start s) S_cs n_cs S_TEXT S_MARKUP S_DECLARATION S_ROOT_TAG S_CDATA_START S_CDATA_END S_ENTITY_START S_ENTITY_END p e ha hc hk s m _ below hf ((Spec.applies_iff_loose hf).mp happ).1 ⟨rfl, State.Warmed39.refl s, rfl, CHv.start (own_hEL hw) (fun q hq => hcalls.1 q hq) (hsets _ (List.mem_of_getElem? (i := 2) rfl)) (hw _ (List.mem_of_getElem? (i := 19) rfl)) (hw _ (List.mem_of_getElem? (i := 2) rfl)), fun _ q => nomatch q⟩ trivial
  refine ⟨n, _, h1, h2, h3, hpost _ _ _ _ _ _ ⟨Cond.after_iff.mpr rfl, Cond.after_iff.mpr (eq_i res_at (Term.int_eval (1)) rfl), trivial⟩ ⟨hq.1, hq.2.1, hq.2.2.1, (hq.2.2.2.sift fun y hy => Or.inr (N y hy)).mono (by decide) (by decide)⟩⟩
theorem main_1_1 : Claimed_1_1 := comes_1 fun _ _ _ _ _ _ h hF => ⟨h.1, hF⟩
theorem main_1_2 : Claimed_1_2 := comes_1 fun _ _ _ _ _ _ h hF => ⟨h.2.1, hF⟩
end Jvm.Pilot.@@N@@
namespace Jvm.Pilot.@@N@@
open Jvm Jvm.ClassFile Sem Op Lib Jvm.Free Jvm.Stand Jvm.Pilot.@@N@@.Jvm.D
/-! MADE BY PROGRAM (witnessworld.py) out of the Statement's table words and the real class files: 22 classes; the members and pool entries that the words name. The judged class is class 1, her method 2. -/
namespace start1
open Jvm.ClassFile
def u (s : String) : CpInfo := .utf8 (stringToUtf16 s)
/-- a pool by its gaps: so many unusable entries, then the entry; so many at the end -/
def gap : Nat → List CpInfo → List CpInfo
  | 0, r => r
  | n + 1, r => .unusable :: gap n r
def poolList (es : List (Nat × CpInfo)) (last : Nat) : List CpInfo := es.foldr (fun e r => gap e.1 (e.2 :: r)) (gap last [])
def pool (es : List (Nat × CpInfo)) (last : Nat) : Array CpInfo := ⟨poolList es last⟩
def fileOf (pool : Array CpInfo) (this : Nat) (attrs : Array Attribute := #[]) (ms : Array MethodInfo := #[]) (fl : Nat := 33) (sup : Nat := 0) (ifs : Array Nat := #[]) (fds : Array FieldInfo := #[]) : ClassFile where
  minorVersion := 0
  majorVersion := 65
  constantPool := pool
  accessFlags := fl
  thisClass := this
  superClass := sup
  interfaces := ifs
  fields := fds
  methods := ms
  attributes := attrs
def plain (name : String) (sup : Option ClassId) : Class where
  name := name
  kind := .ordinary
  loader := none
  accessFlags := 33
  super := sup
  interfaces := #[]
  cf := none
  fields := #[]
  methods := #[]
  instanceTypes := #[]
  staticTypes := #[]
  resolved := #[]
  callSites := []
  init := .initialized
  statics := none
  mirror := none

def pool0 : Array CpInfo := pool [(5, u "<init>"), (0, u "()V"), (1, .class_ 10), (1, u "java/lang/Object")] 113

def k0c0 : Code := { maxStack := 0, maxLocals := 1, code := object_method_1_code, exceptionTable := #[], attributes := #[] }
def k0m0 : Method := { name := "<init>", desc := "()V", sig := { parameters := [], returnType := none }, accessFlags := 1, code := some k0c0 }
/-- java/lang/Object -/
def k0 : Class := { plain "java/lang/Object" none with
  accessFlags := 33
  interfaces := #[]
  cf := some (fileOf pool0 8 #[] #[{ accessFlags := 1, nameIndex := 5, descriptorIndex := 6, attributes := #[] }] 33 0 #[] #[])
  fields := #[]
  methods := #[k0m0]
  instanceTypes := #[]
  staticTypes := #[]
  resolved := Array.replicate 124 none
  statics := none }

def pool1 : Array CpInfo := pool [(2, .class_ 4), (1, u "java/lang/Object"), (0, u "<init>"), (0, u "()V"), (0, .fieldref 8 9), (0, .class_ 10), (0, .nameAndType 11 12), (0, u "com/example/hits_in_context/hitsincontext/io/XmlCharacterData$Kind"), (0, u "TEXT"), (0, u "Lcom/example/hits_in_context/hitsincontext/io/XmlCharacterData$Kind;"), (0, .fieldref 8 14), (0, .nameAndType 15 12), (0, u "MARKUP"), (0, .fieldref 8 17), (0, .nameAndType 18 12), (0, u "DECLARATION"), (0, .fieldref 8 20), (0, .nameAndType 21 12), (0, u "ROOT_TAG"), (0, .fieldref 8 23), (0, .nameAndType 24 12), (0, u "CDATA_START"), (0, .fieldref 8 26), (0, .nameAndType 27 12), (0, u "CDATA_END"), (0, .fieldref 8 29), (0, .nameAndType 30 12), (0, u "ENTITY_START"), (0, .fieldref 8 32), (0, .nameAndType 33 12), (0, u "ENTITY_END"), (0, .class_ 35), (0, u "java/lang/String"), (0, .methodref 34 37), (0, .nameAndType 5 38), (0, u "([C)V"), (0, .string 40), (0, u ""), (0, .methodref 34 42), (0, .nameAndType 43 44), (0, u "valueOf"), (0, u "(C)Ljava/lang/String;"), (0, .class_ 46), (0, u "com/example/hits_in_context/hitsincontext/io/XmlCharacterData$Piece"), (0, .methodref 48 49), (0, .class_ 50), (0, .nameAndType 51 52), (0, u "com/example/hits_in_context/hitsincontext/io/PieceIsLiteralPinLaw"), (0, u "kind"), (0, u "(I)Lcom/example/hits_in_context/hitsincontext/io/XmlCharacterData$Kind;"), (0, .methodref 45 54), (0, .nameAndType 5 55), (0, u "(Lcom/example/hits_in_context/hitsincontext/io/XmlCharacterData$Kind;Ljava/lang/String;IILjava/lang/String;)V"), (0, .methodref 45 57), (0, .nameAndType 58 59), (0, u "isLiteral"), (0, u "()Z"), (0, .methodref 45 61), (0, .nameAndType 62 63), (0, u "length"), (0, u "()I"), (3, u "law"), (0, u "(IIIII)Z")] 9

def k1m0 : Method := { name := "<init>", desc := "()V", sig := { parameters := [], returnType := none }, accessFlags := 2, code := none }
def k1c1 : Code := { maxStack := 2, maxLocals := 2, code := method_2_code, exceptionTable := #[], attributes := #[] }
def k1m1 : Method := { name := "kind", desc := "(I)Lcom/example/hits_in_context/hitsincontext/io/XmlCharacterData$Kind;", sig := { parameters := [.int], returnType := some (.object "com/example/hits_in_context/hitsincontext/io/XmlCharacterData$Kind") }, accessFlags := 10, code := some k1c1 }
def k1c2 : Code := { maxStack := 7, maxLocals := 14, code := code, exceptionTable := #[], attributes := #[] }
def k1m2 : Method := { name := "law", desc := "(IIIII)Z", sig := { parameters := [.int, .int, .int, .int, .int], returnType := some .boolean }, accessFlags := 9, code := some k1c2 }
/-- com/example/hits_in_context/hitsincontext/io/PieceIsLiteralPinLaw -/
def k1 : Class := { plain "com/example/hits_in_context/hitsincontext/io/PieceIsLiteralPinLaw" (some 0) with
  accessFlags := 49
  interfaces := #[]
  cf := some (fileOf pool1 48 #[] #[{ accessFlags := 2, nameIndex := 5, descriptorIndex := 6, attributes := #[] }, { accessFlags := 10, nameIndex := 51, descriptorIndex := 52, attributes := #[] }, { accessFlags := 9, nameIndex := 67, descriptorIndex := 68, attributes := #[] }] 49 2 #[] #[])
  fields := #[]
  methods := #[k1m0, k1m1, k1m2]
  instanceTypes := #[]
  staticTypes := #[]
  resolved := Array.replicate 78 none
  statics := none }

def pool2 : Array CpInfo := pool [(1, .class_ 2), (0, u "java/io/Serializable"), (0, .class_ 4), (0, u "java/lang/Object")] 2

/-- java/io/Serializable -/
def k2 : Class := { plain "java/io/Serializable" (some 0) with
  accessFlags := 1537
  interfaces := #[]
  cf := some (fileOf pool2 1 #[] #[] 1537 3 #[] #[])
  fields := #[]
  methods := #[]
  instanceTypes := #[]
  staticTypes := #[]
  resolved := Array.replicate 7 none
  statics := none }

def pool3 : Array CpInfo := pool [(1, .class_ 2), (0, u "java/lang/Comparable"), (0, .class_ 4), (0, u "java/lang/Object")] 7

/-- java/lang/Comparable -/
def k3 : Class := { plain "java/lang/Comparable" (some 0) with
  accessFlags := 1537
  interfaces := #[]
  cf := some (fileOf pool3 1 #[] #[] 1537 3 #[] #[])
  fields := #[]
  methods := #[]
  instanceTypes := #[]
  staticTypes := #[]
  resolved := Array.replicate 12 none
  statics := none }

def pool4 : Array CpInfo := pool [(2, .class_ 4), (1, u "java/lang/CharSequence"), (42, .class_ 48), (0, u "java/lang/CharSequence$1CodePointIterator"), (10, .class_ 60), (0, u "java/lang/CharSequence$1CharIterator"), (5, .class_ 67), (0, u "java/lang/Object")] 63

/-- java/lang/CharSequence -/
def k4 : Class := { plain "java/lang/CharSequence" (some 0) with
  accessFlags := 1537
  interfaces := #[]
  cf := some (fileOf pool4 2 #[.nestMembers #[47, 59]] #[] 1537 66 #[] #[])
  fields := #[]
  methods := #[]
  instanceTypes := #[]
  staticTypes := #[]
  resolved := Array.replicate 131 none
  statics := none }

def pool5 : Array CpInfo := pool [(1, .class_ 2), (0, u "java/lang/constant/Constable"), (0, .class_ 4), (0, u "java/lang/Object")] 6

/-- java/lang/constant/Constable -/
def k5 : Class := { plain "java/lang/constant/Constable" (some 0) with
  accessFlags := 1537
  interfaces := #[]
  cf := some (fileOf pool5 1 #[] #[] 1537 3 #[] #[])
  fields := #[]
  methods := #[]
  instanceTypes := #[]
  staticTypes := #[]
  resolved := Array.replicate 11 none
  statics := none }

def pool6 : Array CpInfo := pool [(1, .class_ 2), (0, u "java/lang/constant/ConstantDesc"), (0, .class_ 4), (0, u "java/lang/Object")] 32

/-- java/lang/constant/ConstantDesc -/
def k6 : Class := { plain "java/lang/constant/ConstantDesc" (some 0) with
  accessFlags := 1537
  interfaces := #[]
  cf := some (fileOf pool6 1 #[] #[] 1537 3 #[] #[])
  fields := #[]
  methods := #[]
  instanceTypes := #[]
  staticTypes := #[]
  resolved := Array.replicate 37 none
  statics := none }

def pool7 : Array CpInfo := pool [(1, .methodref 2 3), (0, .class_ 4), (0, .nameAndType 5 6), (0, u "java/lang/Object"), (0, u "<init>"), (0, u "()V"), (2, .fieldref 10 11), (0, .class_ 12), (0, .nameAndType 13 14), (0, u "java/lang/String"), (0, u "value"), (0, u "[B"), (0, .fieldref 10 16), (0, .nameAndType 17 18), (0, u "coder"), (0, u "B"), (2, u "hash"), (0, u "I"), (2, u "hashIsZero"), (0, u "Z"), (0, .methodref 10 28), (0, .nameAndType 5 29), (0, u "([CIILjava/lang/Void;)V"), (8, .fieldref 10 39), (0, .nameAndType 40 26), (0, u "COMPACT_STRINGS"), (1, .class_ 44), (1, u "java/lang/StringUTF16"), (0, u "compress"), (1, .methodref 42 48), (0, .nameAndType 49 50), (0, u "coderFromArrayLen"), (0, u "([BI)B"), (2, u "toBytes"), (53, .class_ 109), (1, u "java/lang/StringLatin1"), (67, .methodref 42 178), (0, .nameAndType 45 179), (0, u "([CII)[B"), (29, .methodref 10 210), (0, .nameAndType 5 211), (0, u "([BB)V"), (122, u "()I"), (0, .methodref 10 336), (0, .nameAndType 17 337), (0, u "()B"), (31, u "(C)Z"), (137, u "length"), (67, .class_ 576), (0, u "java/lang/CharSequence"), (22, u "CASE_INSENSITIVE_ORDER"), (0, u "Ljava/util/Comparator;"), (181, u "valueOf"), (0, u "(C)Ljava/lang/String;"), (226, u "([C)V"), (4, .methodref 107 1016), (0, .nameAndType 1017 369), (0, u "canEncode"), (0, .methodref 107 1019), (0, .nameAndType 53 1020), (0, u "(C)[B"), (80, u "serialPersistentFields"), (0, u "[Ljava/io/ObjectStreamField;"), (0, .class_ 1104), (0, u "java/lang/String$CaseInsensitiveComparator"), (1, .class_ 1107), (0, u "java/io/Serializable"), (0, .class_ 1109), (0, u "java/lang/Comparable"), (0, .class_ 1111), (0, u "java/lang/constant/Constable"), (0, .class_ 1113), (0, u "java/lang/constant/ConstantDesc"), (2, u "serialVersionUID"), (0, u "J"), (3, u "REPL"), (0, u "C"), (2, u "LATIN1"), (1, u "UTF16")] 323

def k7m0 : Method := { name := "<init>", desc := "()V", sig := { parameters := [], returnType := none }, accessFlags := 1, code := none }
def k7c1 : Code := { maxStack := 5, maxLocals := 2, code := jdk_42_method_3_code, exceptionTable := #[], attributes := #[] }
def k7m1 : Method := { name := "<init>", desc := "([C)V", sig := { parameters := [(.array .char)], returnType := none }, accessFlags := 1, code := some k7c1 }
def k7c2 : Code := { maxStack := 2, maxLocals := 1, code := jdk_42_method_54_code, exceptionTable := #[], attributes := #[] }
def k7m2 : Method := { name := "length", desc := "()I", sig := { parameters := [], returnType := some .int }, accessFlags := 1, code := some k7c2 }
def k7c3 : Code := { maxStack := 4, maxLocals := 1, code := jdk_42_method_139_code, exceptionTable := #[], attributes := #[] }
def k7m3 : Method := { name := "valueOf", desc := "(C)Ljava/lang/String;", sig := { parameters := [.char], returnType := some (.object "java/lang/String") }, accessFlags := 9, code := some k7c3 }
def k7c4 : Code := { maxStack := 4, maxLocals := 6, code := jdk_42_method_149_code, exceptionTable := #[], attributes := #[] }
def k7m4 : Method := { name := "<init>", desc := "([CIILjava/lang/Void;)V", sig := { parameters := [(.array .char), .int, .int, (.object "java/lang/Void")], returnType := none }, accessFlags := 2, code := some k7c4 }
def k7c5 : Code := { maxStack := 2, maxLocals := 3, code := jdk_42_method_151_code, exceptionTable := #[], attributes := #[] }
def k7m5 : Method := { name := "<init>", desc := "([BB)V", sig := { parameters := [(.array .byte), .byte], returnType := none }, accessFlags := 0, code := some k7c5 }
def k7c6 : Code := { maxStack := 1, maxLocals := 1, code := jdk_42_method_152_code, exceptionTable := #[], attributes := #[] }
def k7m6 : Method := { name := "coder", desc := "()B", sig := { parameters := [], returnType := some .byte }, accessFlags := 0, code := some k7c6 }
/-- java/lang/String -/
def k7 : Class := { plain "java/lang/String" (some 0) with
  accessFlags := 49
  interfaces := #[2, 3, 4, 5, 6]
  cf := some (fileOf pool7 10 #[.nestMembers #[1103]] #[{ accessFlags := 1, nameIndex := 5, descriptorIndex := 6, attributes := #[] }, { accessFlags := 1, nameIndex := 5, descriptorIndex := 1010, attributes := #[] }, { accessFlags := 1, nameIndex := 507, descriptorIndex := 334, attributes := #[] }, { accessFlags := 9, nameIndex := 782, descriptorIndex := 783, attributes := #[] }, { accessFlags := 2, nameIndex := 5, descriptorIndex := 29, attributes := #[] }, { accessFlags := 0, nameIndex := 5, descriptorIndex := 211, attributes := #[] }, { accessFlags := 0, nameIndex := 17, descriptorIndex := 337, attributes := #[] }] 49 2 #[1106, 1108, 575, 1110, 1112] #[{ accessFlags := 18, nameIndex := 13, descriptorIndex := 14, attributes := #[] }, { accessFlags := 18, nameIndex := 17, descriptorIndex := 18, attributes := #[] }, { accessFlags := 2, nameIndex := 21, descriptorIndex := 22, attributes := #[] }, { accessFlags := 2, nameIndex := 25, descriptorIndex := 26, attributes := #[] }, { accessFlags := 26, nameIndex := 1116, descriptorIndex := 1117, attributes := #[] }, { accessFlags := 24, nameIndex := 40, descriptorIndex := 26, attributes := #[] }, { accessFlags := 26, nameIndex := 1101, descriptorIndex := 1102, attributes := #[] }, { accessFlags := 26, nameIndex := 1121, descriptorIndex := 1122, attributes := #[] }, { accessFlags := 25, nameIndex := 599, descriptorIndex := 600, attributes := #[] }, { accessFlags := 24, nameIndex := 1125, descriptorIndex := 18, attributes := #[] }, { accessFlags := 24, nameIndex := 1127, descriptorIndex := 18, attributes := #[] }])
  fields := #[{ name := "value", type := (.array .byte), accessFlags := 18, slot := 0, constantValue := 0 }, { name := "coder", type := .byte, accessFlags := 18, slot := 1, constantValue := 0 }, { name := "hash", type := .int, accessFlags := 2, slot := 2, constantValue := 0 }, { name := "hashIsZero", type := .boolean, accessFlags := 2, slot := 3, constantValue := 0 }, { name := "serialVersionUID", type := .long, accessFlags := 26, slot := 0, constantValue := 0 }, { name := "COMPACT_STRINGS", type := .boolean, accessFlags := 24, slot := 1, constantValue := 0 }, { name := "serialPersistentFields", type := (.array (.object "java/io/ObjectStreamField")), accessFlags := 26, slot := 2, constantValue := 0 }, { name := "REPL", type := .char, accessFlags := 26, slot := 3, constantValue := 0 }, { name := "CASE_INSENSITIVE_ORDER", type := (.object "java/util/Comparator"), accessFlags := 25, slot := 4, constantValue := 0 }, { name := "LATIN1", type := .byte, accessFlags := 24, slot := 5, constantValue := 0 }, { name := "UTF16", type := .byte, accessFlags := 24, slot := 6, constantValue := 0 }]
  methods := #[k7m0, k7m1, k7m2, k7m3, k7m4, k7m5, k7m6]
  instanceTypes := #[(.array .byte), .byte, .int, .boolean]
  staticTypes := #[.long, .boolean, (.array (.object "java/io/ObjectStreamField")), .char, (.object "java/util/Comparator"), .byte, .byte]
  resolved := Array.replicate 1451 none
  statics := some 0 }

def pool8 : Array CpInfo := pool [(6, .class_ 8), (1, u "java/lang/Object"), (0, u "<init>"), (0, u "()V"), (1, .class_ 14), (1, u "java/lang/StringUTF16"), (31, u "$assertionsDisabled"), (0, u "Z"), (13, u "HI_BYTE_SHIFT"), (0, u "I"), (2, u "LO_BYTE_SHIFT"), (49, .methodref 12 116), (0, .nameAndType 117 118), (0, u "compress"), (0, u "([CI[BII)I"), (3, u "([CII)[B"), (138, u "coderFromArrayLen"), (0, u "([BI)B"), (106, .class_ 371), (1, u "java/lang/StringUTF16$LinesSpliterator"), (58, u "MAX_LENGTH"), (196, .class_ 628), (0, u "java/lang/StringUTF16$CodePointsSpliterator"), (0, .class_ 630), (0, u "java/lang/StringUTF16$CharsSpliterator")] 4

def k8m0 : Method := { name := "<init>", desc := "()V", sig := { parameters := [], returnType := none }, accessFlags := 0, code := none }
def k8c1 : Code := { maxStack := 2, maxLocals := 2, code := jdk_52_method_15_code, exceptionTable := #[], attributes := #[] }
def k8m1 : Method := { name := "coderFromArrayLen", desc := "([BI)B", sig := { parameters := [(.array .byte), .int], returnType := some .byte }, accessFlags := 8, code := some k8c1 }
def k8c2 : Code := { maxStack := 5, maxLocals := 6, code := jdk_52_method_16_code, exceptionTable := #[], attributes := #[] }
def k8m2 : Method := { name := "compress", desc := "([CII)[B", sig := { parameters := [(.array .char), .int, .int], returnType := some (.array .byte) }, accessFlags := 9, code := some k8c2 }
def k8c3 : Code := { maxStack := 3, maxLocals := 7, code := jdk_52_method_21_code, exceptionTable := #[], attributes := #[] }
def k8m3 : Method := { name := "compress", desc := "([CI[BII)I", sig := { parameters := [(.array .char), .int, (.array .byte), .int, .int], returnType := some .int }, accessFlags := 9, code := some k8c3 }
/-- java/lang/StringUTF16 -/
def k8 : Class := { plain "java/lang/StringUTF16" (some 0) with
  accessFlags := 48
  interfaces := #[]
  cf := some (fileOf pool8 12 #[.nestMembers #[627, 629, 369]] #[{ accessFlags := 0, nameIndex := 9, descriptorIndex := 10, attributes := #[] }, { accessFlags := 8, nameIndex := 261, descriptorIndex := 262, attributes := #[] }, { accessFlags := 9, nameIndex := 117, descriptorIndex := 122, attributes := #[] }, { accessFlags := 9, nameIndex := 117, descriptorIndex := 118, attributes := #[] }] 48 6 #[] #[{ accessFlags := 26, nameIndex := 61, descriptorIndex := 62, attributes := #[] }, { accessFlags := 26, nameIndex := 65, descriptorIndex := 62, attributes := #[] }, { accessFlags := 24, nameIndex := 430, descriptorIndex := 62, attributes := #[] }, { accessFlags := 4120, nameIndex := 46, descriptorIndex := 47, attributes := #[] }])
  fields := #[{ name := "HI_BYTE_SHIFT", type := .int, accessFlags := 26, slot := 0, constantValue := 0 }, { name := "LO_BYTE_SHIFT", type := .int, accessFlags := 26, slot := 1, constantValue := 0 }, { name := "MAX_LENGTH", type := .int, accessFlags := 24, slot := 2, constantValue := 0 }, { name := "$assertionsDisabled", type := .boolean, accessFlags := 4120, slot := 3, constantValue := 0 }]
  methods := #[k8m0, k8m1, k8m2, k8m3]
  instanceTypes := #[]
  staticTypes := #[.int, .int, .int, .boolean]
  resolved := Array.replicate 635 none
  statics := none }

def pool9 : Array CpInfo := pool [(1, .methodref 2 3), (0, .class_ 4), (0, .nameAndType 5 6), (0, u "java/lang/Object"), (0, u "<init>"), (0, u "()V"), (0, .fieldref 8 9), (0, .class_ 10), (0, .nameAndType 11 12), (0, u "com/example/hits_in_context/hitsincontext/io/XmlCharacterData$Piece"), (0, u "kind"), (0, u "Lcom/example/hits_in_context/hitsincontext/io/XmlCharacterData$Kind;"), (0, .fieldref 8 14), (0, .nameAndType 15 16), (0, u "source"), (0, u "Ljava/lang/String;"), (0, .fieldref 8 18), (0, .nameAndType 19 20), (0, u "start"), (0, u "I"), (0, .fieldref 8 22), (0, .nameAndType 23 20), (0, u "end"), (0, .fieldref 8 25), (0, .nameAndType 26 16), (0, u "chars"), (1, .class_ 30), (1, u "java/lang/String"), (2, .methodref 28 34), (0, .nameAndType 35 36), (0, u "length"), (0, u "()I"), (9, u "(Lcom/example/hits_in_context/hitsincontext/io/XmlCharacterData$Kind;Ljava/lang/String;IILjava/lang/String;)V"), (6, u "isLiteral"), (0, u "()Z"), (7, .class_ 63), (0, u "com/example/hits_in_context/hitsincontext/io/XmlCharacterData")] 5

def k9c0 : Code := { maxStack := 2, maxLocals := 6, code := prog_24_method_1_code, exceptionTable := #[], attributes := #[] }
def k9m0 : Method := { name := "<init>", desc := "(Lcom/example/hits_in_context/hitsincontext/io/XmlCharacterData$Kind;Ljava/lang/String;IILjava/lang/String;)V", sig := { parameters := [(.object "com/example/hits_in_context/hitsincontext/io/XmlCharacterData$Kind"), (.object "java/lang/String"), .int, .int, (.object "java/lang/String")], returnType := none }, accessFlags := 0, code := some k9c0 }
def k9c1 : Code := { maxStack := 2, maxLocals := 1, code := prog_24_method_4_code, exceptionTable := #[], attributes := #[] }
def k9m1 : Method := { name := "length", desc := "()I", sig := { parameters := [], returnType := some .int }, accessFlags := 0, code := some k9c1 }
def k9c2 : Code := { maxStack := 1, maxLocals := 1, code := prog_24_method_5_code, exceptionTable := #[], attributes := #[] }
def k9m2 : Method := { name := "isLiteral", desc := "()Z", sig := { parameters := [], returnType := some .boolean }, accessFlags := 0, code := some k9c2 }
/-- com/example/hits_in_context/hitsincontext/io/XmlCharacterData$Piece -/
def k9 : Class := { plain "com/example/hits_in_context/hitsincontext/io/XmlCharacterData$Piece" (some 0) with
  accessFlags := 48
  interfaces := #[]
  cf := some (fileOf pool9 8 #[.nestHost 62] #[{ accessFlags := 0, nameIndex := 5, descriptorIndex := 46, attributes := #[] }, { accessFlags := 0, nameIndex := 35, descriptorIndex := 36, attributes := #[] }, { accessFlags := 0, nameIndex := 53, descriptorIndex := 54, attributes := #[] }] 48 2 #[] #[{ accessFlags := 18, nameIndex := 11, descriptorIndex := 12, attributes := #[] }, { accessFlags := 18, nameIndex := 15, descriptorIndex := 16, attributes := #[] }, { accessFlags := 18, nameIndex := 19, descriptorIndex := 20, attributes := #[] }, { accessFlags := 18, nameIndex := 23, descriptorIndex := 20, attributes := #[] }, { accessFlags := 18, nameIndex := 26, descriptorIndex := 16, attributes := #[] }])
  fields := #[{ name := "kind", type := (.object "com/example/hits_in_context/hitsincontext/io/XmlCharacterData$Kind"), accessFlags := 18, slot := 0, constantValue := 0 }, { name := "source", type := (.object "java/lang/String"), accessFlags := 18, slot := 1, constantValue := 0 }, { name := "start", type := .int, accessFlags := 18, slot := 2, constantValue := 0 }, { name := "end", type := .int, accessFlags := 18, slot := 3, constantValue := 0 }, { name := "chars", type := (.object "java/lang/String"), accessFlags := 18, slot := 4, constantValue := 0 }]
  methods := #[k9m0, k9m1, k9m2]
  instanceTypes := #[(.object "com/example/hits_in_context/hitsincontext/io/XmlCharacterData$Kind"), (.object "java/lang/String"), .int, .int, (.object "java/lang/String")]
  staticTypes := #[]
  resolved := Array.replicate 69 none
  statics := none }

def pool10 : Array CpInfo := pool [(2, .class_ 4), (1, u "java/lang/Enum"), (0, u "name"), (0, u "Ljava/lang/String;"), (2, u "ordinal"), (0, u "I"), (1, .class_ 14), (1, u "java/lang/Object"), (4, u "hash"), (86, .class_ 108), (1, u "java/lang/Enum$EnumDesc"), (2, .class_ 112), (0, u "java/lang/constant/Constable"), (0, .class_ 114), (0, u "java/lang/Comparable"), (0, .class_ 116), (0, u "java/io/Serializable")] 87

/-- java/lang/Enum -/
def k10 : Class := { plain "java/lang/Enum" (some 0) with
  accessFlags := 1057
  interfaces := #[5, 3, 2]
  cf := some (fileOf pool10 2 #[.nestMembers #[106]] #[] 1057 12 #[111, 113, 115] #[{ accessFlags := 18, nameIndex := 5, descriptorIndex := 6, attributes := #[] }, { accessFlags := 18, nameIndex := 9, descriptorIndex := 10, attributes := #[] }, { accessFlags := 2, nameIndex := 19, descriptorIndex := 10, attributes := #[] }])
  fields := #[{ name := "name", type := (.object "java/lang/String"), accessFlags := 18, slot := 0, constantValue := 0 }, { name := "ordinal", type := .int, accessFlags := 18, slot := 1, constantValue := 0 }, { name := "hash", type := .int, accessFlags := 2, slot := 2, constantValue := 0 }]
  methods := #[]
  instanceTypes := #[(.object "java/lang/String"), .int, .int]
  staticTypes := #[]
  resolved := Array.replicate 204 none
  statics := none }

def pool11 : Array CpInfo := pool [(1, .class_ 2), (0, u "com/example/hits_in_context/hitsincontext/io/XmlCharacterData$Kind"), (2, u "TEXT"), (0, u "Lcom/example/hits_in_context/hitsincontext/io/XmlCharacterData$Kind;"), (2, u "MARKUP"), (2, u "DECLARATION"), (2, u "ROOT_TAG"), (2, u "CDATA_START"), (2, u "CDATA_END"), (2, u "ENTITY_START"), (2, u "ENTITY_END"), (2, u "$VALUES"), (0, u "[Lcom/example/hits_in_context/hitsincontext/io/XmlCharacterData$Kind;"), (6, .class_ 40), (1, u "java/lang/Enum"), (8, u "markup"), (0, u "Z"), (30, .class_ 82), (0, u "com/example/hits_in_context/hitsincontext/io/XmlCharacterData")] 2

/-- com/example/hits_in_context/hitsincontext/io/XmlCharacterData$Kind -/
def k11 : Class := { plain "com/example/hits_in_context/hitsincontext/io/XmlCharacterData$Kind" (some 10) with
  accessFlags := 16432
  interfaces := #[]
  cf := some (fileOf pool11 1 #[.nestHost 81] #[] 16432 38 #[] #[{ accessFlags := 16409, nameIndex := 5, descriptorIndex := 6, attributes := #[] }, { accessFlags := 16409, nameIndex := 9, descriptorIndex := 6, attributes := #[] }, { accessFlags := 16409, nameIndex := 12, descriptorIndex := 6, attributes := #[] }, { accessFlags := 16409, nameIndex := 15, descriptorIndex := 6, attributes := #[] }, { accessFlags := 16409, nameIndex := 18, descriptorIndex := 6, attributes := #[] }, { accessFlags := 16409, nameIndex := 21, descriptorIndex := 6, attributes := #[] }, { accessFlags := 16409, nameIndex := 24, descriptorIndex := 6, attributes := #[] }, { accessFlags := 16409, nameIndex := 27, descriptorIndex := 6, attributes := #[] }, { accessFlags := 18, nameIndex := 49, descriptorIndex := 50, attributes := #[] }, { accessFlags := 4122, nameIndex := 30, descriptorIndex := 31, attributes := #[] }])
  fields := #[{ name := "TEXT", type := (.object "com/example/hits_in_context/hitsincontext/io/XmlCharacterData$Kind"), accessFlags := 16409, slot := 0, constantValue := 0 }, { name := "MARKUP", type := (.object "com/example/hits_in_context/hitsincontext/io/XmlCharacterData$Kind"), accessFlags := 16409, slot := 1, constantValue := 0 }, { name := "DECLARATION", type := (.object "com/example/hits_in_context/hitsincontext/io/XmlCharacterData$Kind"), accessFlags := 16409, slot := 2, constantValue := 0 }, { name := "ROOT_TAG", type := (.object "com/example/hits_in_context/hitsincontext/io/XmlCharacterData$Kind"), accessFlags := 16409, slot := 3, constantValue := 0 }, { name := "CDATA_START", type := (.object "com/example/hits_in_context/hitsincontext/io/XmlCharacterData$Kind"), accessFlags := 16409, slot := 4, constantValue := 0 }, { name := "CDATA_END", type := (.object "com/example/hits_in_context/hitsincontext/io/XmlCharacterData$Kind"), accessFlags := 16409, slot := 5, constantValue := 0 }, { name := "ENTITY_START", type := (.object "com/example/hits_in_context/hitsincontext/io/XmlCharacterData$Kind"), accessFlags := 16409, slot := 6, constantValue := 0 }, { name := "ENTITY_END", type := (.object "com/example/hits_in_context/hitsincontext/io/XmlCharacterData$Kind"), accessFlags := 16409, slot := 7, constantValue := 0 }, { name := "markup", type := .boolean, accessFlags := 18, slot := 3, constantValue := 0 }, { name := "$VALUES", type := (.array (.object "com/example/hits_in_context/hitsincontext/io/XmlCharacterData$Kind")), accessFlags := 4122, slot := 8, constantValue := 0 }]
  methods := #[]
  instanceTypes := #[(.object "java/lang/String"), .int, .int, .boolean]
  staticTypes := #[(.object "com/example/hits_in_context/hitsincontext/io/XmlCharacterData$Kind"), (.object "com/example/hits_in_context/hitsincontext/io/XmlCharacterData$Kind"), (.object "com/example/hits_in_context/hitsincontext/io/XmlCharacterData$Kind"), (.object "com/example/hits_in_context/hitsincontext/io/XmlCharacterData$Kind"), (.object "com/example/hits_in_context/hitsincontext/io/XmlCharacterData$Kind"), (.object "com/example/hits_in_context/hitsincontext/io/XmlCharacterData$Kind"), (.object "com/example/hits_in_context/hitsincontext/io/XmlCharacterData$Kind"), (.object "com/example/hits_in_context/hitsincontext/io/XmlCharacterData$Kind"), (.array (.object "com/example/hits_in_context/hitsincontext/io/XmlCharacterData$Kind"))]
  resolved := Array.replicate 85 none
  statics := some 1 }

def pool12 : Array CpInfo := pool [(4, .class_ 6), (1, u "java/lang/Object"), (0, u "<init>"), (0, u "()V"), (5, .class_ 16), (1, u "java/lang/StringLatin1"), (73, u "canEncode"), (14, u "(C)Z"), (15, u "$assertionsDisabled"), (0, u "Z"), (98, .class_ 223), (1, u "java/lang/StringLatin1$LinesSpliterator"), (156, u "toBytes"), (1, u "(C)[B"), (7, .class_ 391), (0, u "java/lang/StringLatin1$CharsSpliterator")] 3

def k12m0 : Method := { name := "<init>", desc := "()V", sig := { parameters := [], returnType := none }, accessFlags := 0, code := none }
def k12c1 : Code := { maxStack := 2, maxLocals := 1, code := jdk_43_method_3_code, exceptionTable := #[], attributes := #[] }
def k12m1 : Method := { name := "canEncode", desc := "(C)Z", sig := { parameters := [.char], returnType := some .boolean }, accessFlags := 9, code := some k12c1 }
def k12c2 : Code := { maxStack := 4, maxLocals := 1, code := jdk_43_method_46_code, exceptionTable := #[], attributes := #[] }
def k12m2 : Method := { name := "toBytes", desc := "(C)[B", sig := { parameters := [.char], returnType := some (.array .byte) }, accessFlags := 9, code := some k12c2 }
/-- java/lang/StringLatin1 -/
def k12 : Class := { plain "java/lang/StringLatin1" (some 0) with
  accessFlags := 48
  interfaces := #[]
  cf := some (fileOf pool12 14 #[.nestMembers #[390, 221]] #[{ accessFlags := 0, nameIndex := 7, descriptorIndex := 8, attributes := #[] }, { accessFlags := 9, nameIndex := 90, descriptorIndex := 105, attributes := #[] }, { accessFlags := 9, nameIndex := 380, descriptorIndex := 382, attributes := #[] }] 48 4 #[] #[{ accessFlags := 4120, nameIndex := 121, descriptorIndex := 122, attributes := #[] }])
  fields := #[{ name := "$assertionsDisabled", type := .boolean, accessFlags := 4120, slot := 0, constantValue := 0 }]
  methods := #[k12m0, k12m1, k12m2]
  instanceTypes := #[]
  staticTypes := #[.boolean]
  resolved := Array.replicate 395 none
  statics := none }

def pool13 : Array CpInfo := pool [(2, .class_ 4), (1, u "java/lang/Object"), (0, u "<init>"), (0, u "()V"), (17, .class_ 26), (1, u "jdk/internal/util/Preconditions"), (28, .class_ 56), (0, u "jdk/internal/util/Preconditions$4"), (57, .class_ 115), (0, u "jdk/internal/util/Preconditions$1"), (7, u "SIOOBE_FORMATTER"), (0, u "Ljava/util/function/BiFunction;"), (0, .class_ 126), (0, u "jdk/internal/util/Preconditions$2"), (3, u "AIOOBE_FORMATTER"), (0, .class_ 132), (0, u "jdk/internal/util/Preconditions$3"), (3, u "IOOBE_FORMATTER")] 57

def k13m0 : Method := { name := "<init>", desc := "()V", sig := { parameters := [], returnType := none }, accessFlags := 1, code := none }
/-- jdk/internal/util/Preconditions -/
def k13 : Class := { plain "jdk/internal/util/Preconditions" (some 0) with
  accessFlags := 33
  interfaces := #[]
  cf := some (fileOf pool13 24 #[.nestMembers #[55, 131, 125, 114]] #[{ accessFlags := 1, nameIndex := 5, descriptorIndex := 6, attributes := #[] }] 33 2 #[] #[{ accessFlags := 25, nameIndex := 123, descriptorIndex := 124, attributes := #[] }, { accessFlags := 25, nameIndex := 130, descriptorIndex := 124, attributes := #[] }, { accessFlags := 25, nameIndex := 136, descriptorIndex := 124, attributes := #[] }])
  fields := #[{ name := "SIOOBE_FORMATTER", type := (.object "java/util/function/BiFunction"), accessFlags := 25, slot := 0, constantValue := 0 }, { name := "AIOOBE_FORMATTER", type := (.object "java/util/function/BiFunction"), accessFlags := 25, slot := 1, constantValue := 0 }, { name := "IOOBE_FORMATTER", type := (.object "java/util/function/BiFunction"), accessFlags := 25, slot := 2, constantValue := 0 }]
  methods := #[k13m0]
  instanceTypes := #[]
  staticTypes := #[(.object "java/util/function/BiFunction"), (.object "java/util/function/BiFunction"), (.object "java/util/function/BiFunction")]
  resolved := Array.replicate 194 none
  statics := some 2 }

def pool14 : Array CpInfo := pool [(9, u "<init>"), (6, .class_ 18), (1, u "java/lang/Object"), (0, u "()V"), (1, .class_ 23), (1, u "jdk/internal/util/ArraysSupport"), (0, u "LOG2_ARRAY_LONG_INDEX_SCALE"), (0, u "I"), (2, u "U"), (0, u "Ljdk/internal/misc/Unsafe;"), (8, u "BIG_ENDIAN"), (0, u "Z"), (8, u "LOG2_BYTE_BIT_SIZE"), (4, u "LOG2_ARRAY_INT_INDEX_SCALE"), (54, u "JLA"), (0, u "Ljdk/internal/access/JavaLangAccess;"), (11, u "LOG2_ARRAY_BOOLEAN_INDEX_SCALE"), (9, u "LOG2_ARRAY_BYTE_INDEX_SCALE"), (5, u "LOG2_ARRAY_CHAR_INDEX_SCALE"), (5, u "LOG2_ARRAY_SHORT_INDEX_SCALE"), (18, u "LOG2_ARRAY_FLOAT_INDEX_SCALE"), (24, u "LOG2_ARRAY_DOUBLE_INDEX_SCALE"), (89, u "T_BOOLEAN"), (2, u "T_CHAR"), (1, u "T_FLOAT"), (1, u "T_DOUBLE"), (1, u "T_BYTE"), (1, u "T_SHORT"), (1, u "T_INT"), (1, u "T_LONG"), (1, u "SOFT_MAX_ARRAY_LENGTH")] 83

def k14m0 : Method := { name := "<init>", desc := "()V", sig := { parameters := [], returnType := none }, accessFlags := 2, code := none }
/-- jdk/internal/util/ArraysSupport -/
def k14 : Class := { plain "jdk/internal/util/ArraysSupport" (some 0) with
  accessFlags := 33
  interfaces := #[]
  cf := some (fileOf pool14 21 #[] #[{ accessFlags := 2, nameIndex := 9, descriptorIndex := 19, attributes := #[] }] 33 16 #[] #[{ accessFlags := 24, nameIndex := 28, descriptorIndex := 29, attributes := #[] }, { accessFlags := 26, nameIndex := 38, descriptorIndex := 39, attributes := #[] }, { accessFlags := 25, nameIndex := 121, descriptorIndex := 25, attributes := #[] }, { accessFlags := 25, nameIndex := 131, descriptorIndex := 25, attributes := #[] }, { accessFlags := 25, nameIndex := 137, descriptorIndex := 25, attributes := #[] }, { accessFlags := 25, nameIndex := 143, descriptorIndex := 25, attributes := #[] }, { accessFlags := 25, nameIndex := 53, descriptorIndex := 25, attributes := #[] }, { accessFlags := 25, nameIndex := 24, descriptorIndex := 25, attributes := #[] }, { accessFlags := 25, nameIndex := 162, descriptorIndex := 25, attributes := #[] }, { accessFlags := 25, nameIndex := 187, descriptorIndex := 25, attributes := #[] }, { accessFlags := 26, nameIndex := 48, descriptorIndex := 25, attributes := #[] }, { accessFlags := 25, nameIndex := 277, descriptorIndex := 25, attributes := #[] }, { accessFlags := 25, nameIndex := 280, descriptorIndex := 25, attributes := #[] }, { accessFlags := 25, nameIndex := 282, descriptorIndex := 25, attributes := #[] }, { accessFlags := 25, nameIndex := 284, descriptorIndex := 25, attributes := #[] }, { accessFlags := 25, nameIndex := 286, descriptorIndex := 25, attributes := #[] }, { accessFlags := 25, nameIndex := 288, descriptorIndex := 25, attributes := #[] }, { accessFlags := 25, nameIndex := 290, descriptorIndex := 25, attributes := #[] }, { accessFlags := 25, nameIndex := 292, descriptorIndex := 25, attributes := #[] }, { accessFlags := 26, nameIndex := 108, descriptorIndex := 109, attributes := #[] }, { accessFlags := 25, nameIndex := 294, descriptorIndex := 25, attributes := #[] }])
  fields := #[{ name := "U", type := (.object "jdk/internal/misc/Unsafe"), accessFlags := 24, slot := 0, constantValue := 0 }, { name := "BIG_ENDIAN", type := .boolean, accessFlags := 26, slot := 1, constantValue := 0 }, { name := "LOG2_ARRAY_BOOLEAN_INDEX_SCALE", type := .int, accessFlags := 25, slot := 2, constantValue := 0 }, { name := "LOG2_ARRAY_BYTE_INDEX_SCALE", type := .int, accessFlags := 25, slot := 3, constantValue := 0 }, { name := "LOG2_ARRAY_CHAR_INDEX_SCALE", type := .int, accessFlags := 25, slot := 4, constantValue := 0 }, { name := "LOG2_ARRAY_SHORT_INDEX_SCALE", type := .int, accessFlags := 25, slot := 5, constantValue := 0 }, { name := "LOG2_ARRAY_INT_INDEX_SCALE", type := .int, accessFlags := 25, slot := 6, constantValue := 0 }, { name := "LOG2_ARRAY_LONG_INDEX_SCALE", type := .int, accessFlags := 25, slot := 7, constantValue := 0 }, { name := "LOG2_ARRAY_FLOAT_INDEX_SCALE", type := .int, accessFlags := 25, slot := 8, constantValue := 0 }, { name := "LOG2_ARRAY_DOUBLE_INDEX_SCALE", type := .int, accessFlags := 25, slot := 9, constantValue := 0 }, { name := "LOG2_BYTE_BIT_SIZE", type := .int, accessFlags := 26, slot := 10, constantValue := 0 }, { name := "T_BOOLEAN", type := .int, accessFlags := 25, slot := 11, constantValue := 0 }, { name := "T_CHAR", type := .int, accessFlags := 25, slot := 12, constantValue := 0 }, { name := "T_FLOAT", type := .int, accessFlags := 25, slot := 13, constantValue := 0 }, { name := "T_DOUBLE", type := .int, accessFlags := 25, slot := 14, constantValue := 0 }, { name := "T_BYTE", type := .int, accessFlags := 25, slot := 15, constantValue := 0 }, { name := "T_SHORT", type := .int, accessFlags := 25, slot := 16, constantValue := 0 }, { name := "T_INT", type := .int, accessFlags := 25, slot := 17, constantValue := 0 }, { name := "T_LONG", type := .int, accessFlags := 25, slot := 18, constantValue := 0 }, { name := "JLA", type := (.object "jdk/internal/access/JavaLangAccess"), accessFlags := 26, slot := 19, constantValue := 0 }, { name := "SOFT_MAX_ARRAY_LENGTH", type := .int, accessFlags := 25, slot := 20, constantValue := 0 }]
  methods := #[k14m0]
  instanceTypes := #[]
  staticTypes := #[(.object "jdk/internal/misc/Unsafe"), .boolean, .int, .int, .int, .int, .int, .int, .int, .int, .int, .int, .int, .int, .int, .int, .int, .int, .int, (.object "jdk/internal/access/JavaLangAccess"), .int]
  resolved := Array.replicate 378 none
  statics := none }

def pool15 : Array CpInfo := pool [(1, u "java/lang/Cloneable"), (0, .class_ 1), (0, u "java/lang/Object"), (0, .class_ 3)] 3

/-- java/lang/Cloneable -/
def k15 : Class := { plain "java/lang/Cloneable" (some 0) with
  accessFlags := 1537
  interfaces := #[]
  cf := some (fileOf pool15 2 #[] #[] 1537 4 #[] #[])
  fields := #[]
  methods := #[]
  instanceTypes := #[]
  staticTypes := #[]
  resolved := Array.replicate 8 none
  statics := none }

/-- the primitive byte -/
def k16 : Class := { plain "byte" none with kind := .primitive 'B', accessFlags := 0x411 }
/-- [B -/
def k17 : Class := { plain "[B" (some 0) with kind := .array 16 .byte, interfaces := #[15, 2], accessFlags := 1041 }

/-- the primitive char -/
def k18 : Class := { plain "char" none with kind := .primitive 'C', accessFlags := 0x411 }
/-- [C -/
def k19 : Class := { plain "[C" (some 0) with kind := .array 18 .char, interfaces := #[15, 2], accessFlags := 1041 }

/-- the primitive int -/
def k20 : Class := { plain "int" none with kind := .primitive 'I', accessFlags := 0x411 }
/-- [I -/
def k21 : Class := { plain "[I" (some 0) with kind := .array 20 .int, interfaces := #[15, 2], accessFlags := 1041 }

def heap : Heap := #[{ cls := 7, slots := #[.long 0, .int 1, .null, .int 0, .null, .int 0, .int 0], vm := .statics 7 },
  { cls := 11, slots := #[.ref 3, .ref 4, .ref 5, .ref 6, .ref 7, .ref 8, .ref 9, .ref 10, .null], vm := .statics 11 },
  { cls := 13, slots := #[.null, .null, .null], vm := .statics 13 },
  { cls := 11, slots := #[.null, .int 0, .int 0, .int 0], vm := .none },
  { cls := 11, slots := #[.null, .int 1, .int 0, .int 0], vm := .none },
  { cls := 11, slots := #[.null, .int 2, .int 0, .int 0], vm := .none },
  { cls := 11, slots := #[.null, .int 3, .int 0, .int 0], vm := .none },
  { cls := 11, slots := #[.null, .int 4, .int 0, .int 0], vm := .none },
  { cls := 11, slots := #[.null, .int 5, .int 0, .int 0], vm := .none },
  { cls := 11, slots := #[.null, .int 6, .int 0, .int 0], vm := .none },
  { cls := 11, slots := #[.null, .int 7, .int 0, .int 0], vm := .none }]
def classes : Array Class := #[k0, k1, k2, k3, k4, k5, k6, k7, k8, k9, k10, k11, k12, k13, k14, k15, k16, k17, k18, k19, k20, k21]
def interned : List (Array UInt16 × Addr) := []
def slotsUsed : Nat := 51
def theMethod : MethodId := ⟨1, 2⟩
def args0 : Array Value := #[.int 5, .int 65, .int 66, .int 1, .int 2]
def aboutOver (below : List Frame) : State where
  vm := { classes := classes, interned := interned.toArray }
  heap := heap
  slotsUsed := slotsUsed
  threads := #[{ frames := .invoking theMethod args0 :: below }]
def below0 : List Frame := [.native { method := ⟨0, 0⟩, args := #[] }]
def about1 : State := aboutOver below0
def p0 : Program := .bare "" "" ""
def e0 : Env := launch0.env 0 0 0
theorem w_frames : about1.frames = Frame.invoking theMethod args0 :: below0 := rfl
set_option maxRecDepth 65536 in
theorem w_args : argsFit about1.vm theMethod args0 = true := by decide +kernel
set_option maxRecDepth 65536 in
theorem w_heap : heapFits about1 = true := by decide +kernel
set_option maxRecDepth 65536 in
theorem w_runnable : about1.curStatus? = some .runnable := by decide +kernel
set_option maxRecDepth 65536 in
theorem w_alone : about1.alone = true := by decide +kernel
set_option maxRecDepth 65536 in
theorem w_named : about1.methodNamed? x = some theMethod := by decide +kernel
set_option maxRecDepth 65536 in
theorem w_hears : about1.hears theMethod below0 = true := by decide +kernel
set_option maxRecDepth 65536 in
theorem w_ripe : about1.ripe theMethod args0 below0 = true := by decide +kernel
theorem w_running : about1.status = .running := rfl
set_option maxRecDepth 65536 in
theorem w_room : about1.hasRoom e0.platform room_1 = true :=
  launch0.hasRoom_least _ room_1 (by decide +kernel) (by decide +kernel) (by decide +kernel) (by decide +kernel) (by decide +kernel) (by decide +kernel)
theorem allAtoms_all (ts : List Jvm.Cond) (a : Array Jvm.Value) (st : Jvm.State) : (allAtoms ts).before a st = ts.all (fun c => c.before a st) := by
  induction ts with
  | nil => rfl
  | cons c t ih =>
    show (Jvm.Cond.and c (allAtoms t)).before a st = _
    rw [Jvm.Cond.before_and, ih, List.all_cons]
def words1 : List Jvm.Cond := Jvm.Cond.code x code maxLocals ret :: tables_1
/-- a 'code' word, met by the world's own term for the bytes: nothing is compared byte by byte -/
theorem code_word {y : MethodName} {bytes : ByteArray} {mx : Nat} {rt : Option FieldType} {a : Array Value} {s : State} {m : MethodId} {meth : Method} {c : Code} (h1 : s.methodNamed? y = some m) (h2 : s.vm.method? m = some meth) (h3 : meth.code = some c) (h4 : c.code = bytes)
    (h5 : (c.maxLocals == mx && c.exceptionTable.isEmpty && decide (c.maxStack ≤ mostOperands) && decide (meth.sig.returnType = rt) && !meth.locks && decide (parseMethodDescriptor y.desc = some meth.sig)) = true) : (Jvm.Cond.code y bytes mx rt).before a s = true := by
  simp only [Bool.and_eq_true, beq_iff_eq, Bool.not_eq_true', decide_eq_true_eq] at h5
  obtain ⟨⟨⟨⟨⟨g1, g2⟩, g3⟩, g4⟩, g5⟩, g6⟩ := h5
  simp [Cond.before, Cond.holds, Cond.value, h1, h2, h3, h4, g1, g2, g3, g4, g5, g6]
def isCode : Jvm.Cond → Bool
  | .code _ _ _ _ => true
  | _ => false
theorem all_split {L : List Jvm.Cond} {P : Jvm.Cond → Bool} (h1 : L.all (fun c => isCode c || P c) = true) (h2 : ∀ c ∈ L.filter isCode, P c = true) : L.all P = true := by
  refine List.all_eq_true.mpr fun c hc => ?_
  have h := List.all_eq_true.mp h1 c hc
  rcases Bool.eq_false_or_eq_true (isCode c) with hi | hi
  · exact h2 c (List.mem_filter.mpr ⟨hc, hi⟩)
  · simpa [hi] using h
set_option maxRecDepth 65536 in
theorem w_c0 : (Jvm.Cond.code x code maxLocals ret).before args0 about1 = true := code_word (m := ⟨1, 2⟩) (meth := k1m2) (c := k1c2) (by decide +kernel) rfl rfl rfl (by decide +kernel)
set_option maxRecDepth 65536 in
theorem w_c1 : (Jvm.Cond.code ({ cls := "java/lang/String", name := "<init>", desc := "([C)V" } : Jvm.MethodName) jdk_42_method_3_code (2 : Nat) (Option.none : Option Jvm.ClassFile.FieldType)).before args0 about1 = true := code_word (m := ⟨7, 1⟩) (meth := k7m1) (c := k7c1) (by decide +kernel) rfl rfl rfl (by decide +kernel)
set_option maxRecDepth 65536 in
theorem w_c2 : (Jvm.Cond.code ({ cls := "java/lang/String", name := "<init>", desc := "([CIILjava/lang/Void;)V" } : Jvm.MethodName) jdk_42_method_149_code (6 : Nat) (Option.none : Option Jvm.ClassFile.FieldType)).before args0 about1 = true := code_word (m := ⟨7, 4⟩) (meth := k7m4) (c := k7c4) (by decide +kernel) rfl rfl rfl (by decide +kernel)
set_option maxRecDepth 65536 in
theorem w_c3 : (Jvm.Cond.code ({ cls := "java/lang/Object", name := "<init>", desc := "()V" } : Jvm.MethodName) object_method_1_code (1 : Nat) (Option.none : Option Jvm.ClassFile.FieldType)).before args0 about1 = true := code_word (m := ⟨0, 0⟩) (meth := k0m0) (c := k0c0) (by decide +kernel) rfl rfl rfl (by decide +kernel)
set_option maxRecDepth 65536 in
theorem w_c4 : (Jvm.Cond.code ({ cls := "java/lang/StringUTF16", name := "compress", desc := "([CII)[B" } : Jvm.MethodName) jdk_52_method_16_code (6 : Nat) (Option.some (Jvm.ClassFile.FieldType.array Jvm.ClassFile.FieldType.byte))).before args0 about1 = true := code_word (m := ⟨8, 2⟩) (meth := k8m2) (c := k8c2) (by decide +kernel) rfl rfl rfl (by decide +kernel)
set_option maxRecDepth 65536 in
theorem w_c5 : (Jvm.Cond.code ({ cls := "java/lang/StringUTF16", name := "compress", desc := "([CI[BII)I" } : Jvm.MethodName) jdk_52_method_21_code (7 : Nat) (Option.some Jvm.ClassFile.FieldType.int)).before args0 about1 = true := code_word (m := ⟨8, 3⟩) (meth := k8m3) (c := k8c3) (by decide +kernel) rfl rfl rfl (by decide +kernel)
set_option maxRecDepth 65536 in
theorem w_c6 : (Jvm.Cond.code ({ cls := "java/lang/StringUTF16", name := "coderFromArrayLen", desc := "([BI)B" } : Jvm.MethodName) jdk_52_method_15_code (2 : Nat) (Option.some Jvm.ClassFile.FieldType.byte)).before args0 about1 = true := code_word (m := ⟨8, 1⟩) (meth := k8m1) (c := k8c1) (by decide +kernel) rfl rfl rfl (by decide +kernel)
set_option maxRecDepth 65536 in
theorem w_c7 : (Jvm.Cond.code ({ cls := "com/example/hits_in_context/hitsincontext/io/PieceIsLiteralPinLaw", name := "kind", desc := "(I)Lcom/example/hits_in_context/hitsincontext/io/XmlCharacterData$Kind;" } : Jvm.MethodName) method_2_code (2 : Nat) (Option.some (Jvm.ClassFile.FieldType.object "com/example/hits_in_context/hitsincontext/io/XmlCharacterData$Kind"))).before args0 about1 = true := code_word (m := ⟨1, 1⟩) (meth := k1m1) (c := k1c1) (by decide +kernel) rfl rfl rfl (by decide +kernel)
set_option maxRecDepth 65536 in
theorem w_c8 : (Jvm.Cond.code ({ cls := "com/example/hits_in_context/hitsincontext/io/XmlCharacterData$Piece", name := "<init>", desc := "(Lcom/example/hits_in_context/hitsincontext/io/XmlCharacterData$Kind;Ljava/lang/String;IILjava/lang/String;)V" } : Jvm.MethodName) prog_24_method_1_code (6 : Nat) (Option.none : Option Jvm.ClassFile.FieldType)).before args0 about1 = true := code_word (m := ⟨9, 0⟩) (meth := k9m0) (c := k9c0) (by decide +kernel) rfl rfl rfl (by decide +kernel)
set_option maxRecDepth 65536 in
theorem w_c9 : (Jvm.Cond.code ({ cls := "com/example/hits_in_context/hitsincontext/io/XmlCharacterData$Piece", name := "isLiteral", desc := "()Z" } : Jvm.MethodName) prog_24_method_5_code (1 : Nat) (Option.some Jvm.ClassFile.FieldType.boolean)).before args0 about1 = true := code_word (m := ⟨9, 2⟩) (meth := k9m2) (c := k9c2) (by decide +kernel) rfl rfl rfl (by decide +kernel)
set_option maxRecDepth 65536 in
theorem w_c10 : (Jvm.Cond.code ({ cls := "com/example/hits_in_context/hitsincontext/io/XmlCharacterData$Piece", name := "length", desc := "()I" } : Jvm.MethodName) prog_24_method_4_code (1 : Nat) (Option.some Jvm.ClassFile.FieldType.int)).before args0 about1 = true := code_word (m := ⟨9, 1⟩) (meth := k9m1) (c := k9c1) (by decide +kernel) rfl rfl rfl (by decide +kernel)
set_option maxRecDepth 65536 in
theorem w_c11 : (Jvm.Cond.code ({ cls := "java/lang/String", name := "length", desc := "()I" } : Jvm.MethodName) jdk_42_method_54_code (1 : Nat) (Option.some Jvm.ClassFile.FieldType.int)).before args0 about1 = true := code_word (m := ⟨7, 2⟩) (meth := k7m2) (c := k7c2) (by decide +kernel) rfl rfl rfl (by decide +kernel)
set_option maxRecDepth 65536 in
theorem w_c12 : (Jvm.Cond.code ({ cls := "java/lang/String", name := "coder", desc := "()B" } : Jvm.MethodName) jdk_42_method_152_code (1 : Nat) (Option.some Jvm.ClassFile.FieldType.byte)).before args0 about1 = true := code_word (m := ⟨7, 6⟩) (meth := k7m6) (c := k7c6) (by decide +kernel) rfl rfl rfl (by decide +kernel)
set_option maxRecDepth 65536 in
theorem w_c13 : (Jvm.Cond.code ({ cls := "java/lang/String", name := "valueOf", desc := "(C)Ljava/lang/String;" } : Jvm.MethodName) jdk_42_method_139_code (1 : Nat) (Option.some (Jvm.ClassFile.FieldType.object "java/lang/String"))).before args0 about1 = true := code_word (m := ⟨7, 3⟩) (meth := k7m3) (c := k7c3) (by decide +kernel) rfl rfl rfl (by decide +kernel)
set_option maxRecDepth 65536 in
theorem w_c14 : (Jvm.Cond.code ({ cls := "java/lang/StringLatin1", name := "canEncode", desc := "(C)Z" } : Jvm.MethodName) jdk_43_method_3_code (1 : Nat) (Option.some Jvm.ClassFile.FieldType.boolean)).before args0 about1 = true := code_word (m := ⟨12, 1⟩) (meth := k12m1) (c := k12c1) (by decide +kernel) rfl rfl rfl (by decide +kernel)
set_option maxRecDepth 65536 in
theorem w_c15 : (Jvm.Cond.code ({ cls := "java/lang/StringLatin1", name := "toBytes", desc := "(C)[B" } : Jvm.MethodName) jdk_43_method_46_code (1 : Nat) (Option.some (Jvm.ClassFile.FieldType.array Jvm.ClassFile.FieldType.byte))).before args0 about1 = true := code_word (m := ⟨12, 2⟩) (meth := k12m2) (c := k12c2) (by decide +kernel) rfl rfl rfl (by decide +kernel)
set_option maxRecDepth 65536 in
theorem w_c16 : (Jvm.Cond.code ({ cls := "java/lang/String", name := "<init>", desc := "([BB)V" } : Jvm.MethodName) jdk_42_method_151_code (3 : Nat) (Option.none : Option Jvm.ClassFile.FieldType)).before args0 about1 = true := code_word (m := ⟨7, 5⟩) (meth := k7m5) (c := k7c5) (by decide +kernel) rfl rfl rfl (by decide +kernel)
def codes1 : List Jvm.Cond := [Jvm.Cond.code x code maxLocals ret, Jvm.Cond.code ({ cls := "java/lang/String", name := "<init>", desc := "([C)V" } : Jvm.MethodName) jdk_42_method_3_code (2 : Nat) (Option.none : Option Jvm.ClassFile.FieldType), Jvm.Cond.code ({ cls := "java/lang/String", name := "<init>", desc := "([CIILjava/lang/Void;)V" } : Jvm.MethodName) jdk_42_method_149_code (6 : Nat) (Option.none : Option Jvm.ClassFile.FieldType), Jvm.Cond.code ({ cls := "java/lang/Object", name := "<init>", desc := "()V" } : Jvm.MethodName) object_method_1_code (1 : Nat) (Option.none : Option Jvm.ClassFile.FieldType), Jvm.Cond.code ({ cls := "java/lang/StringUTF16", name := "compress", desc := "([CII)[B" } : Jvm.MethodName) jdk_52_method_16_code (6 : Nat) (Option.some (Jvm.ClassFile.FieldType.array Jvm.ClassFile.FieldType.byte)), Jvm.Cond.code ({ cls := "java/lang/StringUTF16", name := "compress", desc := "([CI[BII)I" } : Jvm.MethodName) jdk_52_method_21_code (7 : Nat) (Option.some Jvm.ClassFile.FieldType.int), Jvm.Cond.code ({ cls := "java/lang/StringUTF16", name := "coderFromArrayLen", desc := "([BI)B" } : Jvm.MethodName) jdk_52_method_15_code (2 : Nat) (Option.some Jvm.ClassFile.FieldType.byte), Jvm.Cond.code ({ cls := "com/example/hits_in_context/hitsincontext/io/PieceIsLiteralPinLaw", name := "kind", desc := "(I)Lcom/example/hits_in_context/hitsincontext/io/XmlCharacterData$Kind;" } : Jvm.MethodName) method_2_code (2 : Nat) (Option.some (Jvm.ClassFile.FieldType.object "com/example/hits_in_context/hitsincontext/io/XmlCharacterData$Kind")), Jvm.Cond.code ({ cls := "com/example/hits_in_context/hitsincontext/io/XmlCharacterData$Piece", name := "<init>", desc := "(Lcom/example/hits_in_context/hitsincontext/io/XmlCharacterData$Kind;Ljava/lang/String;IILjava/lang/String;)V" } : Jvm.MethodName) prog_24_method_1_code (6 : Nat) (Option.none : Option Jvm.ClassFile.FieldType), Jvm.Cond.code ({ cls := "com/example/hits_in_context/hitsincontext/io/XmlCharacterData$Piece", name := "isLiteral", desc := "()Z" } : Jvm.MethodName) prog_24_method_5_code (1 : Nat) (Option.some Jvm.ClassFile.FieldType.boolean), Jvm.Cond.code ({ cls := "com/example/hits_in_context/hitsincontext/io/XmlCharacterData$Piece", name := "length", desc := "()I" } : Jvm.MethodName) prog_24_method_4_code (1 : Nat) (Option.some Jvm.ClassFile.FieldType.int), Jvm.Cond.code ({ cls := "java/lang/String", name := "length", desc := "()I" } : Jvm.MethodName) jdk_42_method_54_code (1 : Nat) (Option.some Jvm.ClassFile.FieldType.int), Jvm.Cond.code ({ cls := "java/lang/String", name := "coder", desc := "()B" } : Jvm.MethodName) jdk_42_method_152_code (1 : Nat) (Option.some Jvm.ClassFile.FieldType.byte), Jvm.Cond.code ({ cls := "java/lang/String", name := "valueOf", desc := "(C)Ljava/lang/String;" } : Jvm.MethodName) jdk_42_method_139_code (1 : Nat) (Option.some (Jvm.ClassFile.FieldType.object "java/lang/String")), Jvm.Cond.code ({ cls := "java/lang/StringLatin1", name := "canEncode", desc := "(C)Z" } : Jvm.MethodName) jdk_43_method_3_code (1 : Nat) (Option.some Jvm.ClassFile.FieldType.boolean), Jvm.Cond.code ({ cls := "java/lang/StringLatin1", name := "toBytes", desc := "(C)[B" } : Jvm.MethodName) jdk_43_method_46_code (1 : Nat) (Option.some (Jvm.ClassFile.FieldType.array Jvm.ClassFile.FieldType.byte)), Jvm.Cond.code ({ cls := "java/lang/String", name := "<init>", desc := "([BB)V" } : Jvm.MethodName) jdk_42_method_151_code (3 : Nat) (Option.none : Option Jvm.ClassFile.FieldType)]
set_option maxRecDepth 65536 in
theorem codes_eq : words1.filter isCode = codes1 := rfl
theorem w_codes : ∀ c ∈ words1.filter isCode, c.before args0 about1 = true := by
  rw [codes_eq]
  intro c hc
  simp only [codes1, List.mem_cons, List.not_mem_nil, or_false] at hc
  rcases hc with rfl | rfl | rfl | rfl | rfl | rfl | rfl | rfl | rfl | rfl | rfl | rfl | rfl | rfl | rfl | rfl | rfl
  · exact w_c0
  · exact w_c1
  · exact w_c2
  · exact w_c3
  · exact w_c4
  · exact w_c5
  · exact w_c6
  · exact w_c7
  · exact w_c8
  · exact w_c9
  · exact w_c10
  · exact w_c11
  · exact w_c12
  · exact w_c13
  · exact w_c14
  · exact w_c15
  · exact w_c16
set_option maxRecDepth 65536 in
theorem w_t1 : (words1.take 24).all (fun c => isCode c || c.before args0 about1) = true := by decide +kernel
set_option maxRecDepth 65536 in
theorem w_t2 : ((words1.drop 24).take 24).all (fun c => isCode c || c.before args0 about1) = true := by decide +kernel
set_option maxRecDepth 65536 in
theorem w_t3 : (((words1.drop 24).drop 24).take 24).all (fun c => isCode c || c.before args0 about1) = true := by decide +kernel
set_option maxRecDepth 65536 in
theorem w_t4 : ((((words1.drop 24).drop 24).drop 24).take 24).all (fun c => isCode c || c.before args0 about1) = true := by decide +kernel
set_option maxRecDepth 65536 in
theorem w_t5 : ((((words1.drop 24).drop 24).drop 24).drop 24).all (fun c => isCode c || c.before args0 about1) = true := by decide +kernel
theorem w_tables : (allAtoms (Jvm.Cond.code x code maxLocals ret :: tables_1)).before args0 about1 = true := by
  rw [allAtoms_all]
  show words1.all (fun c => c.before args0 about1) = true
  refine all_split ?_ w_codes
  rw [← List.take_append_drop 24 words1, List.all_append, w_t1, ← List.take_append_drop 24 (words1.drop 24), List.all_append, w_t2, ← List.take_append_drop 24 ((words1.drop 24).drop 24), List.all_append, w_t3, ← List.take_append_drop 24 (((words1.drop 24).drop 24).drop 24), List.all_append, w_t4, w_t5]
  rfl
set_option maxRecDepth 65536 in
theorem w_rest : rest_1_c.before args0 about1 = true := by decide +kernel
set_option maxRecDepth 65536 in
theorem w_case : (Jvm.Cond.and given_1 narrow_1).before args0 about1 = true := by decide +kernel
set_option maxRecDepth 65536 in
theorem w_consts : constsHeld consts_1 about1 := Jvm.Lit.constsHeldB_iff.mp (by decide +kernel)
theorem w_applies : (headSpec (Jvm.Cond.code x code maxLocals ret :: tables_1) room_1).applies x e0.platform about1 = true :=
  (Spec.applies_iff w_frames).mpr ⟨w_running, w_runnable, w_alone, w_named, w_hears, w_ripe, w_room, w_tables⟩
theorem atStart : AtStart classFile x code maxLocals ret World_1 tables_1 room_1 Calls_1 rest_1 Pre_1 launch0 p0 e0 about1 theMethod args0 below0 :=
  ⟨lists_1, trivial, launch0.admits_env _ _ _, launch0.least_env, fairChoices_fair.cas, fairChoices_fair.clock, w_frames, w_args, w_heap, w_applies, ⟨w_consts, trivial⟩, w_rest, w_case⟩
end start1
theorem witness_1 : WitnessClaimed_1 := ⟨start1.p0, start1.e0, start1.about1, start1.theMethod, start1.args0, start1.below0, start1.atStart⟩
end Jvm.Pilot.@@N@@
