import JvmDerived
import JvmDerived.Pilot.@@N@@Statement
import JvmDerived.Pilot.@@N@@Code
set_option linter.unusedVariables false
set_option linter.unusedSimpArgs false
namespace Jvm.Pilot.@@N@@
open Jvm Jvm.ClassFile Sem Op Lib Jvm.Free Jvm.Stand Jvm.LawKit Jvm.RoadKit Bundle Jvm.Pilot.@@N@@.Jvm.D
/-- from the state A the body comes to its end as Q says -/
def own_Fin (tb : Tables) (e : Env) (below : List Frame) (s : State) (Q : Option Value → Heap → List Loc → Prop) (kc ks : Nat) (A : State) : Prop :=
  ∃ s₂ o, Steps tb e below A s₂ ∧ s₂.status = .running ∧ Ended s₂ below o ∧ ∃ v L, o = .returned v ∧ Q v s₂.heap L ∧ FrameEnd s o s₂ L kc ks
theorem own_G (tb : Tables) (e : Env) (below : List Frame) (s : State) (Q : Option Value → Heap → List Loc → Prop) (kc ks : Nat) :
    ∃ G : State → Prop, (∀ {A B : State}, (∀ t, Steps tb e below B t → Steps tb e below A t) → G B → G A) ∧ (∀ A, own_Fin tb e below s Q kc ks A → G A) ∧ (∀ A, G A → own_Fin tb e below s Q kc ks A) :=
  ⟨own_Fin tb e below s Q kc ks, fun h k => by obtain ⟨s₂, o, h1, r⟩ := k; exact ⟨s₂, o, h _ h1, r⟩, fun _ h => h, fun _ h => h⟩
theorem own_ret {p : Program} {l : Launch} {e : Env} {R : Room} {s : State} {m : MethodId} {args : Array Value} {below : List Frame} {meth : Method} {c : Code} {T : State} {locs : List Loc} {cells slots : Nat} {Q : Option Value → Heap → List Loc → Prop} {kc ks : Nat} {A : State} {v : Option Value}
    (X : Stand p l e R s m args below meth c T locs cells slots) (hlk : meth.locks = false) (hv : meth.sig.returnType = none → v = none) (hQ : Q v T.heap locs) (hc : cells ≤ kc) (hs : slots ≤ ks)
    (st : ∀ fs, (∀ (f : JFrame) (acts : List Action), f.method = m → f.locked = none → f.entered = [] → (doReturn e (T.setTop f) acts v).1 = T.setFrames fs) → Steps p.tables e below A (T.setFrames fs)) : own_Fin p.tables e below s Q kc ks A := by
  obtain ⟨fs, hr, hrun, hended, hW, hsame⟩ := X.leave hv hlk
  exact ⟨_, _, st fs hr, hrun, hended, _, _, rfl, hQ, ⟨_, rfl⟩, hW, hsame.mono hc hs⟩
theorem own_old {Z : State} {n0 : Nat} {h : Heap} (O : Old Z n0 h) : n0 ≤ h.size := O.1 ▸ O.2.1
theorem own_cat {v : Value} (h : v.isRef = true) : v.category = 1 := by rcases ref_cases h with rfl | ⟨a, rfl⟩ <;> rfl
theorem own_mvM {Z s : State} {a0 args : Array Value} {own host : String} {index : Nat} {y : MethodName} (hZ : Z.Warmed39 s.vm) (w : (Jvm.Cond.methodLinkNest own index y host).before a0 Z = true) : (Jvm.Cond.methodLinkNest own index y host).before args s = true := (Cond.methodLinkNest_wide hZ w :)
theorem own_ne_arv {Z : State} {h : Heap} {a b : Addr} {C : String} {a0 : Array Value} {n : Nat} {k : ClassId} {ty : FieldType} {z : Int32} {vs : List Value} {d : Value} (E : Exa Z h a C) (wi : (Jvm.Cond.instantiable C n).before a0 Z = true) (A : Arv Z h b k ty z vs d) : a ≠ b := by
  obtain ⟨c, A, -⟩ := A
  exact ne_arr E wi A
theorem own_narB (x : Int32) : nar .byte x.toInt8.toInt32 = x.toInt8.toInt32 := by
  refine Int32.toInt_inj.mp ?_
  have h1 := c_i2b x
  have h2 := c_i2b x.toInt8.toInt32
  show (x.toInt8.toInt32.toInt8.toInt32).toInt = _
  omega
theorem own_narC (x : Int32) : nar .char x.toUInt32.toUInt16.toUInt32.toInt32 = x.toUInt32.toUInt16.toUInt32.toInt32 := by
  refine Int32.toInt_inj.mp ?_
  have h1 := c_i2c x
  have h2 := c_i2c x.toUInt32.toUInt16.toUInt32.toInt32
  show (x.toUInt32.toUInt16.toUInt32.toInt32.toUInt32.toUInt16.toUInt32.toInt32).toInt = _
  omega
theorem own_exa {s : State} {args : Array Value} {t : Term} {K : String} (h : (Jvm.Cond.exactly t K).value args s none s [] = some true) : ∃ a, t.eval args s none [] s = some (.ref a) ∧ Exa s s.heap a K := by
  obtain ⟨a, c', cell, k, e1, e2, e3, e4, e5, e6, e7⟩ := Cond.exactly_spec (Cond.before_iff.mpr h)
  exact ⟨a, e1, Exa.start e1 h⟩
theorem own_fint {s : State} {args : Array Value} {t : Term} {C n d : String} {a : Addr} {k : Int32} (ht : t.eval args s none [] s = some (.ref a)) (h : (Jvm.Cond.eq (.field t C n d) (.int k)).value args s none s [] = some true) : Fld s s.heap a C n d (.int k) := by
  refine Fld.start ?_
  rw [← fld_at ht]
  have hk : (Term.int k).eval args s none [] s = some (.int k) := rfl
  cases q : (Term.field t C n d).eval args s none [] s with
  | none => simp [Cond.value, q] at h
  | some v => cases v <;> simp [Cond.value, q, hk] at h; rw [h]
theorem own_flong {s : State} {args : Array Value} {t : Term} {C n d : String} {a : Addr} {k : Int64} (ht : t.eval args s none [] s = some (.ref a)) (h : (Jvm.Cond.eq (.field t C n d) (.long k)).value args s none s [] = some true) : Fld s s.heap a C n d (.long k) := by
  refine Fld.start ?_
  rw [← fld_at ht]
  have hk : (Term.long k).eval args s none [] s = some (.long k) := rfl
  cases q : (Term.field t C n d).eval args s none [] s with
  | none => simp [Cond.value, q] at h
  | some v => cases v <;> simp [Cond.value, q, hk] at h; rw [h]
theorem own_not0 {s : State} {args : Array Value} {t : Term} {x : Int32} (ev : t.eval args s none [] s = some (.int x)) (h : (Jvm.Cond.not (.eq t (.int 0))).value args s none s [] = some true) : ¬ (x = (0 : Int32)) := by
  intro q
  subst q
  have k : (Term.int 0).eval args s none [] s = some (.int 0) := rfl
  simp [Cond.value, ev, k] at h
theorem own_isref {s : State} {args : Array Value} {t : Term} (h : (Jvm.Cond.isRef t).value args s none s [] = some true) : ∃ v, t.eval args s none [] s = some v ∧ v.isRef = true := by
  cases q : t.eval args s none [] s with
  | none => simp [Cond.value, q] at h
  | some v => refine ⟨v, rfl, ?_⟩; cases v <;> simp [Cond.value, q, Value.isRef] at h ⊢
theorem own_empty {s : State} (hf : Fit s) {args : Array Value} {t : Term} {ty : FieldType} (h4 : (Jvm.Cond.arrayOf t ty).value args s none s [] = some true) (h6 : (Jvm.Cond.eq (.length t) (.int 0)).value args s none s [] = some true) : ∃ (a : Addr) (k : ClassId), t.eval args s none [] s = some (.ref a) ∧ Arv s s.heap a k ty (0 : Int32) [] .null := by
  have e6 := eqv_i (Term.int_eval 0) h6
  obtain ⟨a, cell, ea, hat, -⟩ := Term.length_spec e6
  obtain ⟨c, A⟩ := Arr.start ea h4
  have hc := A.fin (Vm.Alike.refl _)
  have hl : c.slots.size < 2 ^ 31 := by
    rcases Nat.lt_or_ge c.slots.size (2 ^ 31) with q | q
    · exact q
    · simp [Term.eval, ea, hc, Nat.not_lt.mpr q] at e6
  have e8 := (len_f ea hc hl).symm.trans e6
  have e9 : c.slots.size.toInt32 = (0 : Int32) := by simpa using e8
  exact ⟨a, c.cls, ea, Arv.start hf A hl e9 (by decide) rfl trivial⟩
def own_EL : List (String × Nat) := [("com/example/dvalin/dvalin/RegistryException$Problem", 7), ("com/example/dvalin/dvalin/RegistryException$Problem", 15), ("com/example/dvalin/dvalin/RegistryException$Problem", 31), ("java/lang/String", 7)]
theorem own_hEL {Z : State} {a0 : Array Value} (hw : ∀ d ∈ tables_1, d.before a0 Z = true) : EW Z a0 own_EL := (EW.cons (hw _ (List.mem_of_getElem? (i := 49) rfl)) (by decide) (EW.cons (hw _ (List.mem_of_getElem? (i := 54) rfl)) (by decide) (EW.cons (hw _ (List.mem_of_getElem? (i := 129) rfl)) (by decide) (EW.cons (hw _ (List.mem_of_getElem? (i := 18) rfl)) (by decide) EW.nil))))
theorem own_wS {Z : State} {a0 : Array Value} (hw : ∀ d ∈ tables_1, d.before a0 Z = true) : ∀ a ∈ Bundle.stringAtoms, a.before a0 Z = true := by
  intro a ha
  simp only [Bundle.stringAtoms, List.mem_cons, List.not_mem_nil, or_false] at ha
  rcases ha with rfl | rfl | rfl | rfl | rfl | rfl | rfl
  · exact (hw _ (List.mem_of_getElem? (i := 3) rfl))
  · exact (hw _ (List.mem_of_getElem? (i := 2) rfl))
  · exact (hw _ (List.mem_of_getElem? (i := 19) rfl))
  · exact (hw _ (List.mem_of_getElem? (i := 20) rfl))
  · exact (hw _ (List.mem_of_getElem? (i := 21) rfl))
  · exact (hw _ (List.mem_of_getElem? (i := 22) rfl))
  · exact (hw _ (List.mem_of_getElem? (i := 23) rfl))
/-- from the state A the body comes to its end as Q says; literals may have been made -/
def own_FinW (Z : State) (EL : List (String × Nat)) (tb : Tables) (e : Env) (below : List Frame) (s : State) (Q : Option Value → Heap → List Loc → Prop) (kc ks : Nat) (A : State) : Prop :=
  ∃ s₂ o, Steps tb e below A s₂ ∧ s₂.status = .running ∧ Ended s₂ below o ∧ ∃ v L, o = .returned v ∧ Q v s₂.heap L ∧ CHr Z EL s.vm s.heap s₂.vm s₂.heap ∧ ReturnedEndW s o s₂ L kc ks
theorem own_GW (Z : State) (EL : List (String × Nat)) (tb : Tables) (e : Env) (below : List Frame) (s : State) (Q : Option Value → Heap → List Loc → Prop) (kc ks : Nat) :
    ∃ G : State → Prop, (∀ {A B : State}, (∀ t, Steps tb e below B t → Steps tb e below A t) → G B → G A) ∧ (∀ A, own_FinW Z EL tb e below s Q kc ks A → G A) ∧ (∀ A, G A → own_FinW Z EL tb e below s Q kc ks A) :=
  ⟨own_FinW Z EL tb e below s Q kc ks, fun h k => by obtain ⟨s₂, o, h1, r⟩ := k; exact ⟨s₂, o, h _ h1, r⟩, fun _ h => h, fun _ h => h⟩
theorem own_retW {p : Program} {l : Launch} {e : Env} {R : Room} {s : State} {vm0 : Vm} {m : MethodId} {args : Array Value} {below : List Frame} {meth : Method} {c : Code} {T : State} {locs : List Loc} {cells slots : Nat} {Q : Option Value → Heap → List Loc → Prop} {kc ks k0 : Nat} {A : State} {v : Option Value} {Z : State} {EL : List (String × Nat)}
    (X : Stand p l e R (s.setVm vm0) m args below meth c T locs cells slots) (hlk : meth.locks = false) (hS : s.Since vm0 k0) (hk : k0 ≤ T.heap.size) (hv : meth.sig.returnType = none → v = none) (hQ : Q v T.heap locs) (hc : cells ≤ kc) (hs : slots ≤ ks) (hCR : CHr Z EL s.vm s.heap T.vm T.heap)
    (st : ∀ fs, (∀ (f : JFrame) (acts : List Action), f.method = m → f.locked = none → f.entered = [] → (doReturn e (T.setTop f) acts v).1 = T.setFrames fs) → Steps p.tables e below A (T.setFrames fs)) : own_FinW Z EL p.tables e below s Q kc ks A := by
  obtain ⟨fs, hr, hrun, hended, hW⟩ := X.leaveW hS hk hv hlk
  exact ⟨_, _, st fs hr, hrun, hended, _, _, rfl, hQ, hCR, hW.1, hW.2.1, hW.2.2.1, hW.2.2.2.mono hc hs⟩
theorem own_sf0 {Z : State} {EL : List (String × Nat)} {vm : Vm} {h : Heap} : ∀ x ∈ ([] : List Addr), x < h.size ∧ Safe Z EL vm h x := fun _ q => nomatch q
theorem own_sfS {Z : State} {EL : List (String × Nat)} {vm : Vm} {h : Heap} {x : Addr} {ws : List Addr} (lt : x < h.size) (n : Safe Z EL vm h x) (r : ∀ y ∈ ws, y < h.size ∧ Safe Z EL vm h y) : ∀ y ∈ x :: ws, y < h.size ∧ Safe Z EL vm h y := fun y q => by
  rcases List.mem_cons.mp q with rfl | q
  · exact ⟨lt, n⟩
  · exact r y q
theorem own_backH {l : Launch} {R : Room} {p : Program} {e : Env} {below : List Frame} {s : State} {args : Array Value} {Z : State} {a0 : Array Value} {EL : List (String × Nat)} {h : Heap} {vm0 : Vm} {xs : List Addr}
    {y : MethodName} {bytes : ByteArray} {maxL : Nat} {ret : Option FieldType} {rm : Room} {len W : Nat} {as' : Array Value} {Q : Option Value → Heap → List Loc → Prop}
    (hM : MetFree l y (head1 [Cond.code y bytes maxL ret] rm) (fun a U => a = as' ∧ Z.Warmed39 U.vm ∧ U.heap = h ∧ CHv Z EL U.vm h ∧ ∀ x ∈ xs, Safe Z EL U.vm h x) (fun _ _ _ _ _ => True) (fun _ U o U' => ∃ v L, o = .returned v ∧ Q v U'.heap L ∧ CHr Z EL U.vm U.heap U'.vm U'.heap ∧ ReturnedEndW U o U' L rm.cells rm.slots))
    (hZ : Z.Warmed39 vm0) (wc : (Cond.code y bytes maxL ret).before a0 Z = true) (wz : (Cond.initialized y.cls).before a0 Z = true) (hf : rm.frames + 1 ≤ R.frames) (hl : W + (maxL + 11) + rm.locals ≤ R.locals) (hEL : EW Z a0 EL) (H : CHv Z EL vm0 h) (hxs : ∀ x ∈ xs, x < h.size ∧ Safe Z EL vm0 h x) :
    BackS l R p e below (s.setVm vm0) args y len W (fun A a => a = as' ∧ A.U.heap = h ∧ A.cells + rm.cells ≤ R.cells ∧ A.slots + rm.slots ≤ R.slots)
      (fun A _ v B => ∃ L, Q v B.U.heap L ∧ B.locs = A.locs ++ L ∧ B.cells = A.cells + rm.cells ∧ B.slots = A.slots + rm.slots ∧ CHr Z EL vm0 h B.U.vm B.U.heap) := by
  refine BackS.of_freeW (bytes := bytes) (maxL := maxL) (ret := ret) (E := fun _ first o t L k n => k = rm.cells ∧ n = rm.slots ∧ (∃ v, o = .returned v ∧ Q v t.heap L) ∧ CHr Z EL first.vm first.heap t.vm t.heap) hM hf hl ?_ ?_ (fun _ _ _ _ _ _ _ _ _ => trivial) ?_ ?_
  · intro m meth c A a Y hp
    have hU : Z.Warmed39 A.U.vm := wtrans (s := s.setVm vm0) hZ Y.warmed
    refine ⟨?_, mv hU wc, mv hU wz, hp.2.2.1, hp.2.2.2⟩
    show (Cond.and _ .tt).before a A.U = true
    rw [Cond.before_and, mv hU wc]; rfl
  · intro m meth c A a g mk Y hp
    have B := CHv.at Y hZ hEL H
    exact ⟨hp.1, wtrans (s := s.setVm vm0) hZ Y.warmed, hp.2.1, B.1, fun x hx => B.safe (hxs x hx).1 (hxs x hx).2⟩
  · rintro _ _ _ _ ⟨v, L, h1, h2, h3, h4⟩
    exact ⟨L, _, _, h4, rfl, rfl, ⟨v, h1, h2⟩, h3⟩
  · rintro m meth c A a g mk v t L k n Y hp - - ⟨e1, e2, ⟨v', e3, e4⟩, e5⟩
    cases e3; subst e1 e2
    refine ⟨L, e4, rfl, rfl, rfl, (CHv.at Y hZ hEL H).trans ?_⟩
    rw [← hp.2.1]; exact e5
theorem own_and3 (a : Int32) : a &&& (3 : Int32) = (0 : Int32) ∨ a &&& (3 : Int32) = (1 : Int32) ∨ a &&& (3 : Int32) = (2 : Int32) ∨ a &&& (3 : Int32) = (3 : Int32) := by
  have h := c_mask a 3 2 (by decide) (by decide)
  have h1 : (a &&& (3 : Int32)).toInt = 0 ∨ (a &&& (3 : Int32)).toInt = 1 ∨ (a &&& (3 : Int32)).toInt = 2 ∨ (a &&& (3 : Int32)).toInt = 3 := by omega
  rcases h1 with q | q | q | q
  · exact Or.inl (Int32.toInt_inj.mp (by rw [q]; rfl))
  · exact Or.inr (Or.inl (Int32.toInt_inj.mp (by rw [q]; rfl)))
  · exact Or.inr (Or.inr (Or.inl (Int32.toInt_inj.mp (by rw [q]; rfl))))
  · exact Or.inr (Or.inr (Or.inr (Int32.toInt_inj.mp (by rw [q]; rfl))))
theorem own_lt255 (p : Int32) : ¬ ((255 : Int32) < ((p &&& (255 : Int32)).toUInt32.toUInt16.toUInt32.toInt32)) := by
  have h := c_mask p 255 8 (by decide) (by decide)
  have w := c_i2c (p &&& 255)
  have e : (255 : Int32).toInt = 255 := by decide
  rw [Int32.lt_iff_toInt_lt]; omega
theorem own_selp {Z : State} {a0 : Array Value} {K : String} {y : MethodName} (hx : y.cls ≠ "java/lang/invoke/MethodHandle" ∧ y.cls ≠ "java/lang/invoke/VarHandle") (h : (Jvm.Cond.selects K y y).before a0 Z = true) (hp : Z.PrivateAt y) (hi : (Jvm.Cond.instanceMethod y).before a0 Z = true) : (Jvm.Cond.selects y.cls y y).before a0 Z = true := by
  obtain ⟨c, r, m, h1, h2, h3, h4, mk, h5, h6⟩ := Cond.selects_spec h
  obtain ⟨m', meth, i1, i2, -, -⟩ := Cond.instanceMethod_spec hi
  cases h3.symm.trans i1
  have hc := findClass_of_methodNamed h3
  have hf := State.methodFound?_of_named h3 hx
  have hs : selectMethod {} Z.vm m.cls m = .method m := selectMethod_private i2 (hp m meth h3 i2)
  simp [Cond.before, Cond.holds, Cond.value, hc, hf, h3, hs, h5, h6]
theorem own_same {Z : State} {a0 : Array Value} {K : String} {y x z : MethodName} (hx : y.cls ≠ "java/lang/invoke/MethodHandle" ∧ y.cls ≠ "java/lang/invoke/VarHandle") (hi : (Jvm.Cond.instanceMethod y).before a0 Z = true) (h : (Jvm.Cond.selects K x z).before a0 Z = true) (e : z.cls = y.cls) : (Jvm.Cond.sameMethod y.cls y.cls y.name y.desc).before a0 Z = true := by
  obtain ⟨c, r, m, h1, h2, h3, h4, mk, h5, h6⟩ := Cond.selects_spec h
  obtain ⟨m', meth, i1, i2, -, -⟩ := Cond.instanceMethod_spec hi
  have hc := findClass_of_methodNamed i1
  have hc2 := findClass_of_methodNamed h3
  rw [e, hc] at hc2
  have hcc : m'.cls = m.cls := Option.some.inj hc2
  have hf := State.methodFound?_of_named i1 hx
  have hn : Z.methodNamed? ⟨y.cls, y.name, y.desc⟩ = some m' := i1
  rw [← hcc] at h5
  simp [Cond.before, Cond.holds, Cond.value, hc, hf, hn, h5, h6]
def own_put (vs : List Value) (dp : Int32) (ws : List Value) (nn : Int32) : List Value := vs.take dp.toNatClampNeg ++ ((List.range nn.toNatClampNeg).map fun i => ws.getD ((0 : Int32).toNatClampNeg + i) (.int 0)) ++ vs.drop (dp.toNatClampNeg + nn.toNatClampNeg)
theorem own_shr0 (m : Int32) : (m >>> ((0 : Int32) &&& 31)) = m := by
  refine Int32.toInt_inj.mp ?_
  have h := c_ishr m 0 0 (by decide)
  omega
theorem own_shl0 (m : Int32) : (m <<< ((0 : Int32) &&& 31)) = m := by
  refine Int32.toInt_inj.mp ?_
  have h := c_ishl m 0 0 (by decide)
  have r := rng32 m
  have r2 := rng32 (m <<< ((0 : Int32) &&& 31))
  omega
theorem own_sub0 (m : Int32) : (m - (0 : Int32)) = m := by
  refine Int32.toInt_inj.mp ?_
  have h := c_isub m 0
  have r := rng32 m
  have r2 := rng32 (m - 0)
  have e0 : (0 : Int32).toInt = 0 := by decide
  omega
def own_ok (ct m : Int32) (vs : List Value) : Prop := (¬ (ct < (0 : Int32))) ∧ (¬ (m < (0 : Int32))) ∧ ct.toNatClampNeg + m.toNatClampNeg ≤ 16 ∧ vs.length = 16
theorem own_z (n : Nat) : (0 : Int32).toNatClampNeg + n ≤ n := by rw [show (0 : Int32).toNatClampNeg = 0 from by decide]; omega
theorem own_c16 {n : Nat} (h : n ≤ 16) : n ≤ (16 : Int32).toNatClampNeg := by rw [show (16 : Int32).toNatClampNeg = 16 from by decide]; exact h
theorem own_le16 {n : Int32} (h : ¬ (n < (0 : Int32))) (k : n < (16 : Int32)) : n.toNatClampNeg ≤ 16 := by
  rw [Int32.lt_iff_toInt_lt] at h k
  have e0 : (0 : Int32).toInt = 0 := by decide
  have e1 : (16 : Int32).toInt = 16 := by decide
  have : n.toNatClampNeg = n.toInt.toNat := rfl
  omega
def own_le3 (x : Int32) : Prop := x = (0 : Int32) ∨ x = (1 : Int32) ∨ x = (2 : Int32) ∨ x = (3 : Int32)
def own_cl (n c0 c1 c2 : Int32) : List Value := [Value.int c0, .int c1, .int c2].take n.toNatClampNeg
def own_bl (n c0 c1 c2 : Int32) : List Value := [Value.int c0.toInt8.toInt32, .int c1.toInt8.toInt32, .int c2.toInt8.toInt32].take n.toNatClampNeg
theorem own_ne16 {n : Int32} (k : n < (16 : Int32)) : ¬ (n = (16 : Int32)) := by
  intro q
  rw [q] at k
  exact absurd k (by decide)
theorem own_sv {x y : Int32} (h : x = y) : some (Value.int y) = some (Value.int x) := by rw [h]
theorem own_nf {s : State} {a0 : Array Value} {K : String} {x y : MethodName} (h : (Jvm.Cond.selects K x x).before a0 s = true) (e : x.cls = y.cls) : NotFace s y := fun r0 h0 => by
  obtain ⟨c, r, m, h1, h2, h3, h4, mk, h5, h6⟩ := Cond.selects_spec h
  have hc := findClass_of_methodNamed h0
  have hc2 := findClass_of_methodNamed h3
  rw [e, hc] at hc2
  have hcc : r0.cls = m.cls := Option.some.inj hc2
  rw [← hcc] at h5
  exact ⟨mk, h5, h6⟩
theorem own_cl0 (c0 c1 c2 : Int32) : own_cl 0 c0 c1 c2 = [] := rfl
theorem own_cl1 (c0 c1 c2 : Int32) : own_cl 1 c0 c1 c2 = [.int c0] := rfl
theorem own_cl2 (c0 c1 c2 : Int32) : own_cl 2 c0 c1 c2 = [.int c0, .int c1] := rfl
theorem own_cl3 (c0 c1 c2 : Int32) : own_cl 3 c0 c1 c2 = [.int c0, .int c1, .int c2] := rfl
theorem own_bl0 (c0 c1 c2 : Int32) : own_bl 0 c0 c1 c2 = [] := rfl
theorem own_bl1 (c0 c1 c2 : Int32) : own_bl 1 c0 c1 c2 = [.int c0.toInt8.toInt32] := rfl
theorem own_bl2 (c0 c1 c2 : Int32) : own_bl 2 c0 c1 c2 = [.int c0.toInt8.toInt32, .int c1.toInt8.toInt32] := rfl
theorem own_bl3 (c0 c1 c2 : Int32) : own_bl 3 c0 c1 c2 = [.int c0.toInt8.toInt32, .int c1.toInt8.toInt32, .int c2.toInt8.toInt32] := rfl
theorem own_tk {Z : State} {h : Heap} {r : Addr} {k : ClassId} {ty : FieldType} {n j : Int32} {vs : List Value} {f : Int32 → List Value} {d : Value} (e : f j = vs) (q : n = j) (A : Arv Z h r k ty j vs d) : Arv Z h r k ty n (f n) d := by subst q; rw [e]; exact A
theorem own_ut {Z : State} {h : Heap} {r : Addr} {k : ClassId} {ty : FieldType} {n j : Int32} {vs : List Value} {f : Int32 → List Value} {d : Value} (e : f j = vs) (q : n = j) (A : Arv Z h r k ty n (f n) d) : Arv Z h r k ty j vs d := by subst q; rw [e] at A; exact A
theorem own_put_len {vs ws : List Value} {ct m : Int32} (h : own_ok ct m vs) : (own_put vs ct ws m).length = 16 := by
  obtain ⟨-, -, h3, h4⟩ := h
  unfold own_put
  simp only [List.length_append, List.length_take, List.length_map, List.length_range, List.length_drop, h4]
  omega
theorem own_k1 {ln : Int32} {vs : List Value} (h : own_le3 ln) (hl : vs.length = 16) : own_ok (0 : Int32) ln vs := by
  rcases h with q | q | q | q <;> rw [q] <;> exact ⟨by decide, by decide, by decide, hl⟩
theorem own_k2 {ln : Int32} {vs : List Value} (h : own_le3 ln) (hl : vs.length = 16) : own_ok ((0 : Int32) + ln) (2 : Int32) vs := by
  rcases h with q | q | q | q <;> rw [q] <;> exact ⟨by decide, by decide, by decide, hl⟩
theorem own_k3 {ln mn : Int32} {vs : List Value} (h : own_le3 ln) (h' : own_le3 mn) (hl : vs.length = 16) : own_ok (((0 : Int32) + ln) + (2 : Int32)) mn vs := by
  rcases h with q | q | q | q <;> rcases h' with p | p | p | p <;> rw [q, p] <;> exact ⟨by decide, by decide, by decide, hl⟩
theorem own_cap1 {ln : Int32} (h : own_le3 ln) : ¬ ((0 : Int32) < (((0 : Int32) + ln) - (16 : Int32))) := by rcases h with q | q | q | q <;> rw [q] <;> decide
theorem own_cap2 {ln : Int32} (h : own_le3 ln) : ¬ ((0 : Int32) < ((((0 : Int32) + ln) + (2 : Int32)) - (16 : Int32))) := by rcases h with q | q | q | q <;> rw [q] <;> decide
theorem own_cap3 {ln mn : Int32} (h : own_le3 ln) (h' : own_le3 mn) : ¬ ((0 : Int32) < (((((0 : Int32) + ln) + (2 : Int32)) + mn) - (16 : Int32))) := by
  rcases h with q | q | q | q <;> rcases h' with p | p | p | p <;> rw [q, p] <;> decide
theorem own_ct {ln mn : Int32} (h : own_le3 ln) (h' : own_le3 mn) : (¬ (((((0 : Int32) + ln) + (2 : Int32)) + mn) < (0 : Int32))) ∧ ((((0 : Int32) + ln) + (2 : Int32)) + mn) < (16 : Int32) := by
  rcases h with q | q | q | q <;> rcases h' with p | p | p | p <;> rw [q, p] <;> decide
def own_pk (i c0 c1 c2 : Int32) : Int32 := if i = (0 : Int32) then c0 else if i = (1 : Int32) then c1 else c2
theorem own_is3 {i : Int32} (h0 : ¬ (i < (0 : Int32))) (h : i < (3 : Int32)) : i = (0 : Int32) ∨ i = (1 : Int32) ∨ i = (2 : Int32) := by
  rw [Int32.lt_iff_toInt_lt] at h0 h
  have e0 : (0 : Int32).toInt = 0 := by decide
  have e3 : (3 : Int32).toInt = 3 := by decide
  have w : i.toInt = 0 ∨ i.toInt = 1 ∨ i.toInt = 2 := by omega
  rcases w with w | w | w
  · exact Or.inl (Int32.toInt_inj.mp (by rw [w]; rfl))
  · exact Or.inr (Or.inl (Int32.toInt_inj.mp (by rw [w]; rfl)))
  · exact Or.inr (Or.inr (Int32.toInt_inj.mp (by rw [w]; rfl)))
theorem own_pkg {i c0 c1 c2 : Int32} (h0 : ¬ (i < (0 : Int32))) (h : i < (3 : Int32)) : [Value.int c0, .int c1, .int c2].getD i.toNatClampNeg (.int (0 : Int32)) = .int (own_pk i c0 c1 c2) := by
  rcases own_is3 h0 h with q | q | q <;> rw [q] <;> rfl
def own_e (i ln c0 c1 c2 d0 d1 d2 : Int32) : Int32 := if i < ln then own_pk i c0 c1 c2 else if i = ln then (58 : Int32) else if i = (ln + (1 : Int32)) then (32 : Int32) else own_pk ((i - ln) - (2 : Int32)) d0 d1 d2
def own_eb (i ln c0 c1 c2 d0 d1 d2 : Int32) : Int32 := (own_e i ln c0 c1 c2 d0 d1 d2).toInt8.toInt32
def own_txt (m : Int32) (vs : List Value) (ln mn c0 c1 c2 d0 d1 d2 : Int32) : Prop := m = ((ln + (2 : Int32)) + mn) ∧ ∀ i : Int32, ¬ (i < (0 : Int32)) → i < ((ln + (2 : Int32)) + mn) → vs.getD i.toNatClampNeg (.int (0 : Int32)) = .int (own_eb i ln c0 c1 c2 d0 d1 d2)
def own_by (c : Int32) : Prop := (¬ (c < (0 : Int32))) ∧ ¬ ((255 : Int32) < c)
def own_rg (c0 c1 c2 d0 d1 d2 : Int32) : Prop := own_by c0 ∧ own_by c1 ∧ own_by c2 ∧ own_by d0 ∧ own_by d1 ∧ own_by d2
theorem own_pkb {i c0 c1 c2 : Int32} (h0 : own_by c0) (h1 : own_by c1) (h2 : own_by c2) : own_by (own_pk i c0 c1 c2) := by unfold own_pk; split; exact h0; split; exact h1; exact h2
theorem own_eby {i ln c0 c1 c2 d0 d1 d2 : Int32} (h : own_rg c0 c1 c2 d0 d1 d2) : own_by (own_e i ln c0 c1 c2 d0 d1 d2) := by
  obtain ⟨h0, h1, h2, h3, h4, h5⟩ := h
  unfold own_e
  split
  · exact own_pkb h0 h1 h2
  · split
    · exact ⟨by decide, by decide⟩
    · split
      · exact ⟨by decide, by decide⟩
      · exact own_pkb h3 h4 h5
theorem own_bc {c : Int32} (h : own_by c) : ((c.toInt8.toInt32 &&& (255 : Int32)).toUInt32.toUInt16.toUInt32.toInt32) = c := by
  obtain ⟨h1, g⟩ := h
  refine Int32.toInt_inj.mp ?_
  rw [Int32.lt_iff_toInt_lt] at h1 g
  have e0 : (0 : Int32).toInt = 0 := by decide
  have e1 : (255 : Int32).toInt = 255 := by decide
  have b0 := c_i2b c
  have m0 := c_mask c.toInt8.toInt32 255 8 (by decide) (by decide)
  have w := c_i2c (c.toInt8.toInt32 &&& (255 : Int32))
  omega
theorem own_ech {i ln c0 c1 c2 d0 d1 d2 : Int32} (h : own_rg c0 c1 c2 d0 d1 d2) : ((own_eb i ln c0 c1 c2 d0 d1 d2 &&& (255 : Int32)).toUInt32.toUInt16.toUInt32.toInt32) = own_e i ln c0 c1 c2 d0 d1 d2 := own_bc (own_eby h)
theorem own_e1 {i ln c0 c1 c2 d0 d1 d2 : Int32} (h : i < ln) : own_e i ln c0 c1 c2 d0 d1 d2 = own_pk i c0 c1 c2 := by unfold own_e; rw [if_pos h]
theorem own_e2 {i ln c0 c1 c2 d0 d1 d2 : Int32} (h : ¬ (i < ln)) (k : i = ln) : own_e i ln c0 c1 c2 d0 d1 d2 = (58 : Int32) := by unfold own_e; rw [if_neg h, if_pos k]
theorem own_e3 {i ln c0 c1 c2 d0 d1 d2 : Int32} (h : ¬ (i < ln)) (k : ¬ (i = ln)) (l : i = (ln + (1 : Int32))) : own_e i ln c0 c1 c2 d0 d1 d2 = (32 : Int32) := by unfold own_e; rw [if_neg h, if_neg k, if_pos l]
theorem own_e4 {i ln c0 c1 c2 d0 d1 d2 : Int32} (h : ¬ (i < ln)) (k : ¬ (i = ln)) (l : ¬ (i = (ln + (1 : Int32)))) : own_e i ln c0 c1 c2 d0 d1 d2 = own_pk ((i - ln) - (2 : Int32)) d0 d1 d2 := by unfold own_e; rw [if_neg h, if_neg k, if_neg l]
theorem own_t3 {x : Int32} (h : own_le3 x) : x.toInt = 0 ∨ x.toInt = 1 ∨ x.toInt = 2 ∨ x.toInt = 3 := by rcases h with q | q | q | q <;> rw [q] <;> decide
theorem own_lt3 {i ln : Int32} (h : own_le3 ln) (k : i < ln) : i < (3 : Int32) := by
  have w := own_t3 h
  rw [Int32.lt_iff_toInt_lt] at k ⊢
  have e3 : (3 : Int32).toInt = 3 := by decide
  omega
theorem own_ix {i ln mn : Int32} (h : own_le3 ln) (h' : own_le3 mn) (h0 : ¬ (i < (0 : Int32))) (hb : i < ((ln + (2 : Int32)) + mn)) (k1 : ¬ (i < ln)) (k2 : ¬ (i = ln)) (k3 : ¬ (i = (ln + (1 : Int32)))) : (¬ (((i - ln) - (2 : Int32)) < (0 : Int32))) ∧ ((i - ln) - (2 : Int32)) < (3 : Int32) := by
  have w := own_t3 h
  have w' := own_t3 h'
  have e0 : (0 : Int32).toInt = 0 := by decide
  have e1 : (1 : Int32).toInt = 1 := by decide
  have e2 : (2 : Int32).toInt = 2 := by decide
  have e3 : (3 : Int32).toInt = 3 := by decide
  have a1 := c_iadd ln 2
  have a2 := c_iadd (ln + 2) mn
  have a3 := c_iadd ln 1
  have s1 := c_isub i ln
  have s2 := c_isub (i - ln) 2
  have r0 := rng32 i
  have r1 := rng32 (ln + 2)
  have r2 := rng32 (ln + 2 + mn)
  have r3 := rng32 (ln + 1)
  have r4 := rng32 (i - ln)
  have r5 := rng32 (i - ln - 2)
  have n2 : ¬ (i.toInt = ln.toInt) := fun q => k2 (Int32.toInt_inj.mp q)
  have n3 : ¬ (i.toInt = (ln + 1).toInt) := fun q => k3 (Int32.toInt_inj.mp q)
  rw [Int32.lt_iff_toInt_lt] at h0 hb k1
  rw [Int32.lt_iff_toInt_lt, Int32.lt_iff_toInt_lt]
  omega
theorem own_l0 (ln mn : Int32) : ((((0 : Int32) + ln) + (2 : Int32)) + mn) = ((ln + (2 : Int32)) + mn) := by rw [Int32.zero_add]
theorem own_is8 {i : Int32} (h0 : ¬ (i < (0 : Int32))) (h : i < (8 : Int32)) : i = (0 : Int32) ∨ i = (1 : Int32) ∨ i = (2 : Int32) ∨ i = (3 : Int32) ∨ i = (4 : Int32) ∨ i = (5 : Int32) ∨ i = (6 : Int32) ∨ i = (7 : Int32) := by
  rw [Int32.lt_iff_toInt_lt] at h0 h
  have e0 : (0 : Int32).toInt = 0 := by decide
  have e3 : (8 : Int32).toInt = 8 := by decide
  have w : i.toInt = 0 ∨ i.toInt = 1 ∨ i.toInt = 2 ∨ i.toInt = 3 ∨ i.toInt = 4 ∨ i.toInt = 5 ∨ i.toInt = 6 ∨ i.toInt = 7 := by omega
  rcases w with w | w | w | w | w | w | w | w
  · exact Or.inl (Int32.toInt_inj.mp (by rw [w]; rfl))
  · exact Or.inr (Or.inl (Int32.toInt_inj.mp (by rw [w]; rfl)))
  · exact Or.inr (Or.inr (Or.inl (Int32.toInt_inj.mp (by rw [w]; rfl))))
  · exact Or.inr (Or.inr (Or.inr (Or.inl (Int32.toInt_inj.mp (by rw [w]; rfl)))))
  · exact Or.inr (Or.inr (Or.inr (Or.inr (Or.inl (Int32.toInt_inj.mp (by rw [w]; rfl))))))
  · exact Or.inr (Or.inr (Or.inr (Or.inr (Or.inr (Or.inl (Int32.toInt_inj.mp (by rw [w]; rfl)))))))
  · exact Or.inr (Or.inr (Or.inr (Or.inr (Or.inr (Or.inr (Or.inl (Int32.toInt_inj.mp (by rw [w]; rfl))))))))
  · exact Or.inr (Or.inr (Or.inr (Or.inr (Or.inr (Or.inr (Or.inr (Int32.toInt_inj.mp (by rw [w]; rfl))))))))
def own_z16 : List Value := [(.int (0 : Int32)), (.int (0 : Int32)), (.int (0 : Int32)), (.int (0 : Int32)), (.int (0 : Int32)), (.int (0 : Int32)), (.int (0 : Int32)), (.int (0 : Int32)), (.int (0 : Int32)), (.int (0 : Int32)), (.int (0 : Int32)), (.int (0 : Int32)), (.int (0 : Int32)), (.int (0 : Int32)), (.int (0 : Int32)), (.int (0 : Int32))]
def own_V (ln mn : Int32) (w1 w2 : List Value) : List Value := own_put (List.replicate ((((0 : Int32) + ln) + (2 : Int32)) + mn).toNatClampNeg (.int (0 : Int32))) (0 : Int32) (own_put (own_put (own_put own_z16 (0 : Int32) w1 ln) ((0 : Int32) + ln) [(.int (58 : Int32)), (.int (32 : Int32))] (2 : Int32)) (((0 : Int32) + ln) + (2 : Int32)) w2 mn) ((((0 : Int32) + ln) + (2 : Int32)) + mn)
theorem own_up {ln mn : Int32} (h : own_le3 ln) (h' : own_le3 mn) : ¬ ((8 : Int32) < ((ln + (2 : Int32)) + mn)) := by
  rcases h with q | q | q | q <;> rcases h' with p | p | p | p <;> rw [q, p] <;> decide
theorem own_lt8 {i ln mn : Int32} (h : own_le3 ln) (h' : own_le3 mn) (k : i < ((ln + (2 : Int32)) + mn)) : i < (8 : Int32) := by
  have w := own_up h h'
  rw [Int32.lt_iff_toInt_lt] at w k ⊢
  omega
theorem own_text {ln mn : Int32} (h : own_le3 ln) (h' : own_le3 mn) (c0 c1 c2 d0 d1 d2 : Int32) : own_txt ((((0 : Int32) + ln) + (2 : Int32)) + mn) (own_V ln mn (own_bl ln c0 c1 c2) (own_bl mn d0 d1 d2)) ln mn c0 c1 c2 d0 d1 d2 := by
  refine ⟨own_l0 ln mn, ?_⟩
  intro i h0 h1
  have h8 := own_lt8 h h' h1
  have ii := own_is8 h0 h8
  clear h0 h8
  rcases h with q | q | q | q <;> rcases h' with p | p | p | p <;> subst q <;> subst p <;> rcases ii with r | r | r | r | r | r | r | r <;> subst r <;> first | rfl | exact absurd h1 (by decide)
theorem own_lteq {i m n : Int32} (e : m = n) (h : i < n) : i < m := by rw [e]; exact h
theorem own_byl (p : Int32) : own_by ((p &&& (255 : Int32)).toUInt32.toUInt16.toUInt32.toInt32) := by
  have h := c_mask p 255 8 (by decide) (by decide)
  have w := c_i2c (p &&& 255)
  have e : (255 : Int32).toInt = 255 := by decide
  have e0 : (0 : Int32).toInt = 0 := by decide
  refine ⟨?_, ?_⟩ <;> rw [Int32.lt_iff_toInt_lt] <;> omega
theorem ef_0 (m : MethodId) (x0 : Addr)  : entryFrame m #[(.ref x0)] 1 = mkF m 0 #[.val (.ref x0)] [] := by first | (simp [entryFrame, mkF, argsToLocals, Value.category]; done) | rfl
theorem pn_0 : plainName "java/lang/String" = true := by first | (simp [plainName, overriddenIn]; done) | decide +kernel
theorem d17_0 : decode jdk_42_method_152_code 0 = .ok (.getstatic 38, 3) := by decide +kernel
theorem d17_3 : decode jdk_42_method_152_code 3 = .ok (.ifCond .eq 10, 3) := by decide +kernel
theorem d17_6 : decode jdk_42_method_152_code 6 = .ok (.aload_n 0, 1) := by decide +kernel
theorem d17_7 : decode jdk_42_method_152_code 7 = .ok (.getfield 15, 3) := by decide +kernel
theorem d17_10 : decode jdk_42_method_152_code 10 = .ok (.goto 4, 3) := by decide +kernel
theorem d17_14 : decode jdk_42_method_152_code 14 = .ok (.ireturn, 1) := by decide +kernel
def Q_coder0 (Z : State) (a : Addr) (cs : Int32) (h0 : Heap) (n0 : Nat) (v : Option Value) (h : Heap) (L : List Loc) : Prop := v = some (.int (0 : Int32)) ∧ Fr n0 L ∧ h = h0
set_option maxRecDepth 65536 in
set_option maxHeartbeats 40000000 in
theorem rm_coder0 (l : Launch) (Z : State) (a0 : Array Value) (hw : ∀ d ∈ tables_1, d.before a0 Z = true) (ws : List Jvm.Cond) (a : Addr) (cs : Int32) (h0 : Heap) (n0 : Nat) (O0 : Old Z n0 h0) (u0 : Sta Z Z.heap "java/lang/String" "COMPACT_STRINGS" "Z" (.int cs)) (u1 : ¬ (cs = (0 : Int32))) (u2 : Fld Z h0 a "java/lang/String" "coder" "B" (.int (0 : Int32))) :
    MetFree l (⟨"java/lang/String", "coder", "()B"⟩ : MethodName) (head1 (Jvm.Cond.code (⟨"java/lang/String", "coder", "()B"⟩ : MethodName) jdk_42_method_152_code 1 (some .byte) :: ws) ({ frames := 0, cells := 0, slots := 0, locals := 0 } : Room)) (fun aV U => aV = #[(.ref a)] ∧ Z.Warmed39 U.vm ∧ U.heap = h0) (fun _ _ _ _ _ => True) (fun _ U o U' => ∃ v L, o = .returned v ∧ Q_coder0 Z a cs h0 n0 v U'.heap L ∧ FrameEnd U o U' L ({ frames := 0, cells := 0, slots := 0, locals := 0 } : Room).cells ({ frames := 0, cells := 0, slots := 0, locals := 0 } : Room).slots) := by
  refine MetFree.of_bodySF (plainFor_of_name pn_0) hisR ?_
  intro pr_ en_ st_ me_ args below meth_ co_ s₁ Bd hml0 hP hK
  obtain ⟨rfl, hZ, hh⟩ := hP
  have hx := Bd.exec
  have hby := Bd.bytes
  have hml : co_.maxLocals = 1 := hml0
  have hown : st_.vm.findClass "java/lang/String" = some me_.cls := findClass_of_methodNamed Bd.named
  have hnm := (name_of_methodNamed Bd.named Bd.method).1
  have X0 : Stand pr_ l en_ ({ frames := 0, cells := 0, slots := 0, locals := 0 } : Room) st_ me_ #[(.ref a)] below meth_ co_ s₁ [] 0 0 := Stand.of_body Bd
  have e0 : s₁.heap = h0 := by rw [← hh, Bd.state]; rfl
  have N0 := Fr.nil n0
  have K0 := Keep.refl h0 []
  obtain ⟨G, gv, gf, gb⟩ := own_G pr_.tables en_ below st_ (Q_coder0 Z a cs h0 n0) ({ frames := 0, cells := 0, slots := 0, locals := 0 } : Room).cells ({ frames := 0, cells := 0, slots := 0, locals := 0 } : Room).slots
  show own_Fin pr_.tables en_ below st_ (Q_coder0 Z a cs h0 n0) ({ frames := 0, cells := 0, slots := 0, locals := 0 } : Room).cells ({ frames := 0, cells := 0, slots := 0, locals := 0 } : Room).slots (s₁.setTop (entryFrame me_ #[(.ref a)] 1))
  refine gb _ (gv (fun tQ kQ => castTop (ef_0 me_ a) kQ) ?_)
  show G (s₁.setTop (mkF me_ 0 #[.val (.ref a)] []))
  obtain ⟨T1, X1, e1, st1⟩ := getS2 X0 hx hZ hown (host := "") (Or.inl (hw _ (List.mem_of_getElem? (i := 26) rfl))) Via.refl e0 (u0.ext O0.2) (g := (mkF me_ 0 #[.val (.ref a)] [])) rfl (hb hby d17_0)
  refine gv st1 ?_
  show G (T1.setTop (mkF me_ 3 #[.val (.ref a)] [(.int cs)]))
  refine gv (fun tQ kQ => XS.ifNo X1.here hx rfl (hb hby d17_3) rfl ((if0 _ _).trans (feq u1).1) kQ) ?_
  show G (T1.setTop (mkF me_ 6 #[.val (.ref a)] []))
  refine gv (fun tQ kQ => XS.aloadN X1.here hx rfl (hb hby d17_6) rfl rfl kQ) ?_
  show G (T1.setTop (mkF me_ 7 #[.val (.ref a)] [(.ref a)]))
  obtain ⟨T2, X2, e2, st2⟩ := getF X1 hx hZ hown (host := "") (Or.inl (hw _ (List.mem_of_getElem? (i := 25) rfl))) Via.refl e1 u2 (g := (mkF me_ 7 #[.val (.ref a)] [(.ref a)])) rfl rfl (hb hby d17_7)
  refine gv st2 ?_
  show G (T2.setTop (mkF me_ 10 #[.val (.ref a)] [(.int (0 : Int32))]))
  refine gv (fun tQ kQ => XS.goto X2.here hx rfl (pc0 := 10) (pc' := 14) rfl (hb hby d17_10) (by decide) (by decide) kQ) ?_
  show G (T2.setTop (mkF me_ 14 #[.val (.ref a)] [(.int (0 : Int32))]))
  refine gf _ (own_ret X2 Bd.notSynchronized (v := some (.int (0 : Int32))) (fun h => by rw [Bd.returns] at h; cases h) ?_ (by decide) (by decide) (fun fs hr => retN X2 hx (t := .byte) Bd.returns (by simp) (hb hby d17_14) hr))
  show Q_coder0 Z a cs h0 n0 _ T2.heap _
  rw [e2]
  exact ⟨rfl, N0, rfl⟩
theorem d35_0 : decode jdk_42_method_154_code 0 = .ok (.getstatic 38, 3) := by decide +kernel
theorem d35_3 : decode jdk_42_method_154_code 3 = .ok (.ifCond .eq 14, 3) := by decide +kernel
theorem d35_6 : decode jdk_42_method_154_code 6 = .ok (.aload_n 0, 1) := by decide +kernel
theorem d35_7 : decode jdk_42_method_154_code 7 = .ok (.getfield 15, 3) := by decide +kernel
theorem d35_10 : decode jdk_42_method_154_code 10 = .ok (.ifCond .ne 7, 3) := by decide +kernel
theorem d35_13 : decode jdk_42_method_154_code 13 = .ok (.iconst 1, 1) := by decide +kernel
theorem d35_14 : decode jdk_42_method_154_code 14 = .ok (.goto 4, 3) := by decide +kernel
theorem d35_18 : decode jdk_42_method_154_code 18 = .ok (.ireturn, 1) := by decide +kernel
def Q_isL0 (Z : State) (a : Addr) (cs : Int32) (h0 : Heap) (n0 : Nat) (v : Option Value) (h : Heap) (L : List Loc) : Prop := v = some (.int (1 : Int32)) ∧ Fr n0 L ∧ h = h0
set_option maxRecDepth 65536 in
set_option maxHeartbeats 40000000 in
theorem rm_isL0 (l : Launch) (Z : State) (a0 : Array Value) (hw : ∀ d ∈ tables_1, d.before a0 Z = true) (ws : List Jvm.Cond) (a : Addr) (cs : Int32) (h0 : Heap) (n0 : Nat) (O0 : Old Z n0 h0) (u0 : Sta Z Z.heap "java/lang/String" "COMPACT_STRINGS" "Z" (.int cs)) (u1 : ¬ (cs = (0 : Int32))) (u2 : Fld Z h0 a "java/lang/String" "coder" "B" (.int (0 : Int32))) :
    MetFree l (⟨"java/lang/String", "isLatin1", "()Z"⟩ : MethodName) (head1 (Jvm.Cond.code (⟨"java/lang/String", "isLatin1", "()Z"⟩ : MethodName) jdk_42_method_154_code 1 (some .boolean) :: ws) ({ frames := 0, cells := 0, slots := 0, locals := 0 } : Room)) (fun aV U => aV = #[(.ref a)] ∧ Z.Warmed39 U.vm ∧ U.heap = h0) (fun _ _ _ _ _ => True) (fun _ U o U' => ∃ v L, o = .returned v ∧ Q_isL0 Z a cs h0 n0 v U'.heap L ∧ FrameEnd U o U' L ({ frames := 0, cells := 0, slots := 0, locals := 0 } : Room).cells ({ frames := 0, cells := 0, slots := 0, locals := 0 } : Room).slots) := by
  refine MetFree.of_bodySF (plainFor_of_name pn_0) hisR ?_
  intro pr_ en_ st_ me_ args below meth_ co_ s₁ Bd hml0 hP hK
  obtain ⟨rfl, hZ, hh⟩ := hP
  have hx := Bd.exec
  have hby := Bd.bytes
  have hml : co_.maxLocals = 1 := hml0
  have hown : st_.vm.findClass "java/lang/String" = some me_.cls := findClass_of_methodNamed Bd.named
  have hnm := (name_of_methodNamed Bd.named Bd.method).1
  have X0 : Stand pr_ l en_ ({ frames := 0, cells := 0, slots := 0, locals := 0 } : Room) st_ me_ #[(.ref a)] below meth_ co_ s₁ [] 0 0 := Stand.of_body Bd
  have e0 : s₁.heap = h0 := by rw [← hh, Bd.state]; rfl
  have N0 := Fr.nil n0
  have K0 := Keep.refl h0 []
  obtain ⟨G, gv, gf, gb⟩ := own_G pr_.tables en_ below st_ (Q_isL0 Z a cs h0 n0) ({ frames := 0, cells := 0, slots := 0, locals := 0 } : Room).cells ({ frames := 0, cells := 0, slots := 0, locals := 0 } : Room).slots
  show own_Fin pr_.tables en_ below st_ (Q_isL0 Z a cs h0 n0) ({ frames := 0, cells := 0, slots := 0, locals := 0 } : Room).cells ({ frames := 0, cells := 0, slots := 0, locals := 0 } : Room).slots (s₁.setTop (entryFrame me_ #[(.ref a)] 1))
  refine gb _ (gv (fun tQ kQ => castTop (ef_0 me_ a) kQ) ?_)
  show G (s₁.setTop (mkF me_ 0 #[.val (.ref a)] []))
  obtain ⟨T3, X3, e3, st3⟩ := getS2 X0 hx hZ hown (host := "") (Or.inl (hw _ (List.mem_of_getElem? (i := 26) rfl))) Via.refl e0 (u0.ext O0.2) (g := (mkF me_ 0 #[.val (.ref a)] [])) rfl (hb hby d35_0)
  refine gv st3 ?_
  show G (T3.setTop (mkF me_ 3 #[.val (.ref a)] [(.int cs)]))
  refine gv (fun tQ kQ => XS.ifNo X3.here hx rfl (hb hby d35_3) rfl ((if0 _ _).trans (feq u1).1) kQ) ?_
  show G (T3.setTop (mkF me_ 6 #[.val (.ref a)] []))
  refine gv (fun tQ kQ => XS.aloadN X3.here hx rfl (hb hby d35_6) rfl rfl kQ) ?_
  show G (T3.setTop (mkF me_ 7 #[.val (.ref a)] [(.ref a)]))
  obtain ⟨T4, X4, e4, st4⟩ := getF X3 hx hZ hown (host := "") (Or.inl (hw _ (List.mem_of_getElem? (i := 25) rfl))) Via.refl e3 u2 (g := (mkF me_ 7 #[.val (.ref a)] [(.ref a)])) rfl rfl (hb hby d35_7)
  refine gv st4 ?_
  show G (T4.setTop (mkF me_ 10 #[.val (.ref a)] [(.int (0 : Int32))]))
  refine gv (fun tQ kQ => XS.ifNo X4.here hx rfl (hb hby d35_10) rfl ((if0 _ _).trans (teq (by decide : (0 : Int32) = (0 : Int32))).2) kQ) ?_
  show G (T4.setTop (mkF me_ 13 #[.val (.ref a)] []))
  refine gv (fun tQ kQ => XS.iconst X4.here hx rfl (hb hby d35_13) kQ) ?_
  show G (T4.setTop (mkF me_ 14 #[.val (.ref a)] [(.int (1 : Int32))]))
  refine gv (fun tQ kQ => XS.goto X4.here hx rfl (pc0 := 14) (pc' := 18) rfl (hb hby d35_14) (by decide) (by decide) kQ) ?_
  show G (T4.setTop (mkF me_ 18 #[.val (.ref a)] [(.int (1 : Int32))]))
  refine gf _ (own_ret X4 Bd.notSynchronized (v := some (.int (1 : Int32))) (fun h => by rw [Bd.returns] at h; cases h) ?_ (by decide) (by decide) (fun fs hr => retN X4 hx (t := .boolean) Bd.returns (by simp) (hb hby d35_18) hr))
  show Q_isL0 Z a cs h0 n0 _ T4.heap _
  rw [e4]
  exact ⟨rfl, N0, rfl⟩
theorem d16_0 : decode jdk_42_method_54_code 0 = .ok (.aload_n 0, 1) := by decide +kernel
theorem d16_1 : decode jdk_42_method_54_code 1 = .ok (.getfield 9, 3) := by decide +kernel
theorem d16_4 : decode jdk_42_method_54_code 4 = .ok (.arraylength, 1) := by decide +kernel
theorem d16_5 : decode jdk_42_method_54_code 5 = .ok (.aload_n 0, 1) := by decide +kernel
theorem d16_6 : decode jdk_42_method_54_code 6 = .ok (.invokevirtual 335, 3) := by decide +kernel
theorem pd_0 : parseMethodDescriptor "()B" = some ⟨[], some .byte⟩ := by decide +kernel
theorem d16_9 : decode jdk_42_method_54_code 9 = .ok (.ishr, 1) := by decide +kernel
theorem d16_10 : decode jdk_42_method_54_code 10 = .ok (.ireturn, 1) := by decide +kernel
def Q_len (Z : State) (a : Addr) (b : Addr) (k : ClassId) (m : Int32) (ws_ : List Value) (cs : Int32) (h0 : Heap) (n0 : Nat) (v : Option Value) (h : Heap) (L : List Loc) : Prop := v = some (.int m) ∧ Fr n0 L ∧ h = h0
set_option maxRecDepth 65536 in
set_option maxHeartbeats 40000000 in
theorem rm_len (l : Launch) (Z : State) (a0 : Array Value) (hw : ∀ d ∈ tables_1, d.before a0 Z = true) (ws : List Jvm.Cond) (a : Addr) (b : Addr) (k : ClassId) (m : Int32) (ws_ : List Value) (cs : Int32) (h0 : Heap) (n0 : Nat) (O0 : Old Z n0 h0) (u0 : Sta Z Z.heap "java/lang/String" "COMPACT_STRINGS" "Z" (.int cs)) (u1 : ¬ (cs = (0 : Int32))) (u2 : Exa Z h0 a "java/lang/String") (u3 : Fld Z h0 a "java/lang/String" "coder" "B" (.int (0 : Int32))) (u4 : Fld Z h0 a "java/lang/String" "value" "[B" (.ref b)) (u5 : Arv Z h0 b k .byte m ws_ (.int (0 : Int32))) :
    MetFree l (⟨"java/lang/String", "length", "()I"⟩ : MethodName) (head1 (Jvm.Cond.code (⟨"java/lang/String", "length", "()I"⟩ : MethodName) jdk_42_method_54_code 1 (some .int) :: ws) ({ frames := 1, cells := 0, slots := 0, locals := 13 } : Room)) (fun aV U => aV = #[(.ref a)] ∧ Z.Warmed39 U.vm ∧ U.heap = h0) (fun _ _ _ _ _ => True) (fun _ U o U' => ∃ v L, o = .returned v ∧ Q_len Z a b k m ws_ cs h0 n0 v U'.heap L ∧ FrameEnd U o U' L ({ frames := 1, cells := 0, slots := 0, locals := 13 } : Room).cells ({ frames := 1, cells := 0, slots := 0, locals := 13 } : Room).slots) := by
  refine MetFree.of_bodySF (plainFor_of_name pn_0) hisR ?_
  intro pr_ en_ st_ me_ args below meth_ co_ s₁ Bd hml0 hP hK
  obtain ⟨rfl, hZ, hh⟩ := hP
  have hx := Bd.exec
  have hby := Bd.bytes
  have hml : co_.maxLocals = 1 := hml0
  have hown : st_.vm.findClass "java/lang/String" = some me_.cls := findClass_of_methodNamed Bd.named
  have hnm := (name_of_methodNamed Bd.named Bd.method).1
  have X0 : Stand pr_ l en_ ({ frames := 1, cells := 0, slots := 0, locals := 13 } : Room) st_ me_ #[(.ref a)] below meth_ co_ s₁ [] 0 0 := Stand.of_body Bd
  have e0 : s₁.heap = h0 := by rw [← hh, Bd.state]; rfl
  have N0 := Fr.nil n0
  have K0 := Keep.refl h0 []
  obtain ⟨G, gv, gf, gb⟩ := own_G pr_.tables en_ below st_ (Q_len Z a b k m ws_ cs h0 n0) ({ frames := 1, cells := 0, slots := 0, locals := 13 } : Room).cells ({ frames := 1, cells := 0, slots := 0, locals := 13 } : Room).slots
  show own_Fin pr_.tables en_ below st_ (Q_len Z a b k m ws_ cs h0 n0) ({ frames := 1, cells := 0, slots := 0, locals := 13 } : Room).cells ({ frames := 1, cells := 0, slots := 0, locals := 13 } : Room).slots (s₁.setTop (entryFrame me_ #[(.ref a)] 1))
  refine gb _ (gv (fun tQ kQ => castTop (ef_0 me_ a) kQ) ?_)
  show G (s₁.setTop (mkF me_ 0 #[.val (.ref a)] []))
  refine gv (fun tQ kQ => XS.aloadN X0.here hx rfl (hb hby d16_0) rfl rfl kQ) ?_
  show G (s₁.setTop (mkF me_ 1 #[.val (.ref a)] [(.ref a)]))
  obtain ⟨T5, X5, e5, st5⟩ := getF X0 hx hZ hown (host := "") (Or.inl (hw _ (List.mem_of_getElem? (i := 24) rfl))) Via.refl e0 u4 (g := (mkF me_ 1 #[.val (.ref a)] [(.ref a)])) rfl rfl (hb hby d16_1)
  refine gv st5 ?_
  show G (T5.setTop (mkF me_ 4 #[.val (.ref a)] [(.ref b)]))
  obtain ⟨cl6, Ar6, -, S6, n6, -, -⟩ := (id u5)
  refine gv (X5.arraylength hx (by rw [e5]; exact Ar6.1) (State.isArrayOf_alike hZ.alike Ar6.2.1) (g := (mkF me_ 4 #[.val (.ref a)] [(.ref b)])) rfl rfl (hb hby d16_4)) ?_
  rw [len_of S6 n6]
  show G (T5.setTop (mkF me_ 5 #[.val (.ref a)] [(.int m)]))
  refine gv (fun tQ kQ => XS.aloadN X5.here hx rfl (hb hby d16_5) rfl rfl kQ) ?_
  show G (T5.setTop (mkF me_ 6 #[.val (.ref a)] [(.ref a), (.int m)]))
  obtain ⟨cq7, kq7, q7a, q7b, q7c⟩ := isOf hZ e5 u2
  obtain ⟨_, _, ⟨T7, L7, k7, n7⟩, -, X7, ⟨Lc7, hQ7, l7, y7, z7⟩, st7⟩ := X5.virtualBack hx (y := (⟨"java/lang/String", "coder", "()B"⟩ : MethodName)) (z := (⟨"java/lang/String", "coder", "()B"⟩ : MethodName)) hown (mvT hZ (hw _ (List.mem_of_getElem? (i := 97) rfl))) (mvT hZ (hw _ (List.mem_of_getElem? (i := 98) rfl))) (notFace_of_selects (args := #[]) (mvT hZ (hw _ (List.mem_of_getElem? (i := 100) rfl)))) (mvT hZ (hw _ (List.mem_of_getElem? (i := 100) rfl))) (mvT hZ (hw _ (List.mem_of_getElem? (i := 99) rfl))) (by decide) (backOf (W := 1) (rm_coder0 l Z a0 hw [] a cs h0 n0 O0 u0 u1 u3) hZ (hw _ (List.mem_of_getElem? (i := 101) rfl)) (hw _ (List.mem_of_getElem? (i := 3) rfl)) (by decide) (by decide)) q7a q7c (g := (mkF me_ 6 #[.val (.ref a)] [(.ref a), (.int m)])) rfl (by rw [hml]; rfl) (Steps.refl _) (argsL := []) (rest := [(.int m)]) (lenOf pd_0 rfl) rfl (by show 2 * 0 + _ ≤ _; exact Nat.le_of_eq rfl) (hb hby d16_6) (fun _ _ => ⟨rfl, e5, (by decide : 0 + 0 ≤ _), (by decide : 0 + 0 ≤ _)⟩)
  dsimp only [Pt.U, Pt.locs, Pt.cells, Pt.slots] at X7 l7 y7 z7 st7 hQ7
  subst l7 y7 z7
  obtain ⟨rfl, Nq7, eq7⟩ := hQ7
  have N8 := Fr.app N0 Nq7
  refine gv (fun tQ kQ => st7.trans kQ) ?_
  show G (T7.setTop (mkF me_ 9 #[.val (.ref a)] [(.int (0 : Int32)), (.int m)]))
  refine gv (fun tQ kQ => XS.ishr X7.here hx rfl (hb hby d16_9) rfl kQ) ?_
  show G (T7.setTop (mkF me_ 10 #[.val (.ref a)] [(.int (m >>> ((0 : Int32) &&& 31)))]))
  refine gf _ (own_ret X7 Bd.notSynchronized (v := some (.int (m >>> ((0 : Int32) &&& 31)))) (fun h => by rw [Bd.returns] at h; cases h) ?_ (by decide) (by decide) (fun fs hr => retOut X7 hx (t := .int) Bd.returns rfl (Or.inl ⟨rfl, Or.inl rfl, _, rfl⟩) (hb hby d16_10) hr))
  show Q_len Z a b k m ws_ cs h0 n0 _ T7.heap _
  rw [eq7]
  exact ⟨(own_sv (own_shr0 m).symm), N8, rfl⟩
theorem ef_1 (m : MethodId) (x0 : Addr) (x1 : Int32)  : entryFrame m #[(.ref x0), (.int x1)] 3 = mkF m 0 #[.val (.ref x0), .val (.int x1), .unset] [] := by first | (simp [entryFrame, mkF, argsToLocals, Value.category]; done) | rfl
theorem pn_1 : plainName "java/lang/AbstractStringBuilder" = true := by first | (simp [plainName, overriddenIn]; done) | decide +kernel
theorem d18_0 : decode jdk_68_method_9_code 0 = .ok (.aload_n 0, 1) := by decide +kernel
theorem d18_1 : decode jdk_68_method_9_code 1 = .ok (.getfield 15, 3) := by decide +kernel
theorem d18_4 : decode jdk_68_method_9_code 4 = .ok (.arraylength, 1) := by decide +kernel
theorem d18_5 : decode jdk_68_method_9_code 5 = .ok (.aload_n 0, 1) := by decide +kernel
theorem d18_6 : decode jdk_68_method_9_code 6 = .ok (.getfield 22, 3) := by decide +kernel
theorem d18_9 : decode jdk_68_method_9_code 9 = .ok (.ishr, 1) := by decide +kernel
theorem d18_10 : decode jdk_68_method_9_code 10 = .ok (.istore_n 2, 1) := by decide +kernel
theorem d18_11 : decode jdk_68_method_9_code 11 = .ok (.iload_n 1, 1) := by decide +kernel
theorem d18_12 : decode jdk_68_method_9_code 12 = .ok (.iload_n 2, 1) := by decide +kernel
theorem d18_13 : decode jdk_68_method_9_code 13 = .ok (.isub, 1) := by decide +kernel
theorem d18_14 : decode jdk_68_method_9_code 14 = .ok (.ifCond .le 24, 3) := by decide +kernel
theorem d18_38 : decode jdk_68_method_9_code 38 = .ok (.return_, 1) := by decide +kernel
def Q_ens (Z : State) (sb : Addr) (m_ : Int32) (bb : Addr) (kb : ClassId) (vs : List Value) (h0 : Heap) (n0 : Nat) (v : Option Value) (h : Heap) (L : List Loc) : Prop := v = none ∧ Fr n0 L ∧ h = h0
set_option maxRecDepth 65536 in
set_option maxHeartbeats 40000000 in
theorem rm_ens (l : Launch) (Z : State) (a0 : Array Value) (hw : ∀ d ∈ tables_1, d.before a0 Z = true) (ws : List Jvm.Cond) (sb : Addr) (m_ : Int32) (bb : Addr) (kb : ClassId) (vs : List Value) (h0 : Heap) (n0 : Nat) (O0 : Old Z n0 h0) (u0 : Exa Z h0 sb "java/lang/StringBuilder") (u1 : Fld Z h0 sb "java/lang/AbstractStringBuilder" "value" "[B" (.ref bb)) (u2 : Fld Z h0 sb "java/lang/AbstractStringBuilder" "coder" "B" (.int (0 : Int32))) (u3 : Arv Z h0 bb kb .byte (16 : Int32) vs (.int (0 : Int32))) (u4 : ¬ ((0 : Int32) < (m_ - (16 : Int32)))) :
    MetFree l (⟨"java/lang/AbstractStringBuilder", "ensureCapacityInternal", "(I)V"⟩ : MethodName) (head1 (Jvm.Cond.code (⟨"java/lang/AbstractStringBuilder", "ensureCapacityInternal", "(I)V"⟩ : MethodName) jdk_68_method_9_code 3 none :: ws) ({ frames := 0, cells := 0, slots := 0, locals := 0 } : Room)) (fun aV U => aV = #[(.ref sb), (.int m_)] ∧ Z.Warmed39 U.vm ∧ U.heap = h0) (fun _ _ _ _ _ => True) (fun _ U o U' => ∃ v L, o = .returned v ∧ Q_ens Z sb m_ bb kb vs h0 n0 v U'.heap L ∧ FrameEnd U o U' L ({ frames := 0, cells := 0, slots := 0, locals := 0 } : Room).cells ({ frames := 0, cells := 0, slots := 0, locals := 0 } : Room).slots) := by
  refine MetFree.of_bodySF (plainFor_of_name pn_1) hisR ?_
  intro pr_ en_ st_ me_ args below meth_ co_ s₁ Bd hml0 hP hK
  obtain ⟨rfl, hZ, hh⟩ := hP
  have hx := Bd.exec
  have hby := Bd.bytes
  have hml : co_.maxLocals = 3 := hml0
  have hown : st_.vm.findClass "java/lang/AbstractStringBuilder" = some me_.cls := findClass_of_methodNamed Bd.named
  have hnm := (name_of_methodNamed Bd.named Bd.method).1
  have X0 : Stand pr_ l en_ ({ frames := 0, cells := 0, slots := 0, locals := 0 } : Room) st_ me_ #[(.ref sb), (.int m_)] below meth_ co_ s₁ [] 0 0 := Stand.of_body Bd
  have e0 : s₁.heap = h0 := by rw [← hh, Bd.state]; rfl
  have N0 := Fr.nil n0
  have K0 := Keep.refl h0 []
  obtain ⟨G, gv, gf, gb⟩ := own_G pr_.tables en_ below st_ (Q_ens Z sb m_ bb kb vs h0 n0) ({ frames := 0, cells := 0, slots := 0, locals := 0 } : Room).cells ({ frames := 0, cells := 0, slots := 0, locals := 0 } : Room).slots
  show own_Fin pr_.tables en_ below st_ (Q_ens Z sb m_ bb kb vs h0 n0) ({ frames := 0, cells := 0, slots := 0, locals := 0 } : Room).cells ({ frames := 0, cells := 0, slots := 0, locals := 0 } : Room).slots (s₁.setTop (entryFrame me_ #[(.ref sb), (.int m_)] 3))
  refine gb _ (gv (fun tQ kQ => castTop (ef_1 me_ sb m_) kQ) ?_)
  show G (s₁.setTop (mkF me_ 0 #[.val (.ref sb), .val (.int m_), .unset] []))
  refine gv (fun tQ kQ => XS.aloadN X0.here hx rfl (hb hby d18_0) rfl rfl kQ) ?_
  show G (s₁.setTop (mkF me_ 1 #[.val (.ref sb), .val (.int m_), .unset] [(.ref sb)]))
  obtain ⟨T9, X9, e9, st9⟩ := getF X0 hx hZ hown (host := "") (Or.inl (hw _ (List.mem_of_getElem? (i := 78) rfl))) Via.refl e0 u1 (g := (mkF me_ 1 #[.val (.ref sb), .val (.int m_), .unset] [(.ref sb)])) rfl rfl (hb hby d18_1)
  refine gv st9 ?_
  show G (T9.setTop (mkF me_ 4 #[.val (.ref sb), .val (.int m_), .unset] [(.ref bb)]))
  obtain ⟨cl10, Ar10, -, S10, n10, -, -⟩ := (id u3)
  refine gv (X9.arraylength hx (by rw [e9]; exact Ar10.1) (State.isArrayOf_alike hZ.alike Ar10.2.1) (g := (mkF me_ 4 #[.val (.ref sb), .val (.int m_), .unset] [(.ref bb)])) rfl rfl (hb hby d18_4)) ?_
  rw [len_of S10 n10]
  show G (T9.setTop (mkF me_ 5 #[.val (.ref sb), .val (.int m_), .unset] [(.int (16 : Int32))]))
  refine gv (fun tQ kQ => XS.aloadN X9.here hx rfl (hb hby d18_5) rfl rfl kQ) ?_
  show G (T9.setTop (mkF me_ 6 #[.val (.ref sb), .val (.int m_), .unset] [(.ref sb), (.int (16 : Int32))]))
  obtain ⟨T11, X11, e11, st11⟩ := getF X9 hx hZ hown (host := "") (Or.inl (hw _ (List.mem_of_getElem? (i := 80) rfl))) Via.refl e9 u2 (g := (mkF me_ 6 #[.val (.ref sb), .val (.int m_), .unset] [(.ref sb), (.int (16 : Int32))])) rfl rfl (hb hby d18_6)
  refine gv st11 ?_
  show G (T11.setTop (mkF me_ 9 #[.val (.ref sb), .val (.int m_), .unset] [(.int (0 : Int32)), (.int (16 : Int32))]))
  refine gv (fun tQ kQ => XS.ishr X11.here hx rfl (hb hby d18_9) rfl kQ) ?_
  show G (T11.setTop (mkF me_ 10 #[.val (.ref sb), .val (.int m_), .unset] [(.int ((16 : Int32) >>> ((0 : Int32) &&& 31)))]))
  rw [(by decide : ((16 : Int32) >>> ((0 : Int32) &&& 31)) = (16 : Int32))]
  show G (T11.setTop (mkF me_ 10 #[.val (.ref sb), .val (.int m_), .unset] [(.int (16 : Int32))]))
  refine gv (fun tQ kQ => XS.istoreN X11.here hx rfl (hb hby d18_10) rfl (l' := #[.val (.ref sb), .val (.int m_), .val (.int (16 : Int32))]) rfl kQ) ?_
  show G (T11.setTop (mkF me_ 11 #[.val (.ref sb), .val (.int m_), .val (.int (16 : Int32))] []))
  refine gv (fun tQ kQ => XS.iloadN X11.here hx rfl (hb hby d18_11) rfl kQ) ?_
  show G (T11.setTop (mkF me_ 12 #[.val (.ref sb), .val (.int m_), .val (.int (16 : Int32))] [(.int m_)]))
  refine gv (fun tQ kQ => XS.iloadN X11.here hx rfl (hb hby d18_12) rfl kQ) ?_
  show G (T11.setTop (mkF me_ 13 #[.val (.ref sb), .val (.int m_), .val (.int (16 : Int32))] [(.int (16 : Int32)), (.int m_)]))
  refine gv (fun tQ kQ => XS.isub X11.here hx rfl (hb hby d18_13) rfl kQ) ?_
  show G (T11.setTop (mkF me_ 14 #[.val (.ref sb), .val (.int m_), .val (.int (16 : Int32))] [(.int (m_ - (16 : Int32)))]))
  refine gv (fun tQ kQ => XS.ifYes X11.here hx rfl (pc0 := 14) (pc' := 38) rfl (hb hby d18_14) rfl ((if0 _ _).trans (flt u4).2.2.2) (by decide) (by decide) kQ) ?_
  show G (T11.setTop (mkF me_ 38 #[.val (.ref sb), .val (.int m_), .val (.int (16 : Int32))] []))
  refine gf _ (own_ret X11 Bd.notSynchronized (v := none) (fun _ => rfl) ?_ (by decide) (by decide) (fun fs hr => X11.returnOut hx Bd.returns (hb hby d18_38) hr))
  show Q_ens Z sb m_ bb kb vs h0 n0 _ T11.heap _
  rw [e11]
  exact ⟨rfl, N0, rfl⟩
theorem ef_2 (m : MethodId) (x0 : Addr) (x1 : Addr)  : entryFrame m #[(.ref x0), (.ref x1)] 2 = mkF m 0 #[.val (.ref x0), .val (.ref x1)] [] := by first | (simp [entryFrame, mkF, argsToLocals, Value.category]; done) | rfl
theorem d20_0 : decode jdk_68_method_71_code 0 = .ok (.getstatic 18, 3) := by decide +kernel
theorem d20_3 : decode jdk_68_method_71_code 3 = .ok (.ifCond .eq 18, 3) := by decide +kernel
theorem d20_6 : decode jdk_68_method_71_code 6 = .ok (.aload_n 0, 1) := by decide +kernel
theorem d20_7 : decode jdk_68_method_71_code 7 = .ok (.getfield 22, 3) := by decide +kernel
theorem d20_10 : decode jdk_68_method_71_code 10 = .ok (.aload_n 1, 1) := by decide +kernel
theorem d20_11 : decode jdk_68_method_71_code 11 = .ok (.invokevirtual 40, 3) := by decide +kernel
theorem d20_14 : decode jdk_68_method_71_code 14 = .ok (.if_icmp .eq 7, 3) := by decide +kernel
theorem d20_21 : decode jdk_68_method_71_code 21 = .ok (.return_, 1) := by decide +kernel
def Q_inf (Z : State) (sb : Addr) (a : Addr) (cs : Int32) (h0 : Heap) (n0 : Nat) (v : Option Value) (h : Heap) (L : List Loc) : Prop := v = none ∧ Fr n0 L ∧ h = h0
set_option maxRecDepth 65536 in
set_option maxHeartbeats 40000000 in
theorem rm_inf (l : Launch) (Z : State) (a0 : Array Value) (hw : ∀ d ∈ tables_1, d.before a0 Z = true) (ws : List Jvm.Cond) (sb : Addr) (a : Addr) (cs : Int32) (h0 : Heap) (n0 : Nat) (O0 : Old Z n0 h0) (u0 : Sta Z Z.heap "java/lang/String" "COMPACT_STRINGS" "Z" (.int cs)) (u1 : ¬ (cs = (0 : Int32))) (u2 : Exa Z h0 sb "java/lang/StringBuilder") (u3 : Fld Z h0 sb "java/lang/AbstractStringBuilder" "coder" "B" (.int (0 : Int32))) (u4 : Exa Z h0 a "java/lang/String") (u5 : Fld Z h0 a "java/lang/String" "coder" "B" (.int (0 : Int32))) :
    MetFree l (⟨"java/lang/AbstractStringBuilder", "inflateIfNeededFor", "(Ljava/lang/String;)V"⟩ : MethodName) (head1 (Jvm.Cond.code (⟨"java/lang/AbstractStringBuilder", "inflateIfNeededFor", "(Ljava/lang/String;)V"⟩ : MethodName) jdk_68_method_71_code 2 none :: ws) ({ frames := 1, cells := 0, slots := 0, locals := 13 } : Room)) (fun aV U => aV = #[(.ref sb), (.ref a)] ∧ Z.Warmed39 U.vm ∧ U.heap = h0) (fun _ _ _ _ _ => True) (fun _ U o U' => ∃ v L, o = .returned v ∧ Q_inf Z sb a cs h0 n0 v U'.heap L ∧ FrameEnd U o U' L ({ frames := 1, cells := 0, slots := 0, locals := 13 } : Room).cells ({ frames := 1, cells := 0, slots := 0, locals := 13 } : Room).slots) := by
  refine MetFree.of_bodySF (plainFor_of_name pn_1) hisR ?_
  intro pr_ en_ st_ me_ args below meth_ co_ s₁ Bd hml0 hP hK
  obtain ⟨rfl, hZ, hh⟩ := hP
  have hx := Bd.exec
  have hby := Bd.bytes
  have hml : co_.maxLocals = 2 := hml0
  have hown : st_.vm.findClass "java/lang/AbstractStringBuilder" = some me_.cls := findClass_of_methodNamed Bd.named
  have hnm := (name_of_methodNamed Bd.named Bd.method).1
  have X0 : Stand pr_ l en_ ({ frames := 1, cells := 0, slots := 0, locals := 13 } : Room) st_ me_ #[(.ref sb), (.ref a)] below meth_ co_ s₁ [] 0 0 := Stand.of_body Bd
  have e0 : s₁.heap = h0 := by rw [← hh, Bd.state]; rfl
  have N0 := Fr.nil n0
  have K0 := Keep.refl h0 []
  obtain ⟨G, gv, gf, gb⟩ := own_G pr_.tables en_ below st_ (Q_inf Z sb a cs h0 n0) ({ frames := 1, cells := 0, slots := 0, locals := 13 } : Room).cells ({ frames := 1, cells := 0, slots := 0, locals := 13 } : Room).slots
  show own_Fin pr_.tables en_ below st_ (Q_inf Z sb a cs h0 n0) ({ frames := 1, cells := 0, slots := 0, locals := 13 } : Room).cells ({ frames := 1, cells := 0, slots := 0, locals := 13 } : Room).slots (s₁.setTop (entryFrame me_ #[(.ref sb), (.ref a)] 2))
  refine gb _ (gv (fun tQ kQ => castTop (ef_2 me_ sb a) kQ) ?_)
  show G (s₁.setTop (mkF me_ 0 #[.val (.ref sb), .val (.ref a)] []))
  obtain ⟨T12, X12, e12, st12⟩ := getS2 X0 hx hZ hown (host := "") (Or.inl (hw _ (List.mem_of_getElem? (i := 77) rfl))) Via.refl e0 (u0.ext O0.2) (g := (mkF me_ 0 #[.val (.ref sb), .val (.ref a)] [])) rfl (hb hby d20_0)
  refine gv st12 ?_
  show G (T12.setTop (mkF me_ 3 #[.val (.ref sb), .val (.ref a)] [(.int cs)]))
  refine gv (fun tQ kQ => XS.ifNo X12.here hx rfl (hb hby d20_3) rfl ((if0 _ _).trans (feq u1).1) kQ) ?_
  show G (T12.setTop (mkF me_ 6 #[.val (.ref sb), .val (.ref a)] []))
  refine gv (fun tQ kQ => XS.aloadN X12.here hx rfl (hb hby d20_6) rfl rfl kQ) ?_
  show G (T12.setTop (mkF me_ 7 #[.val (.ref sb), .val (.ref a)] [(.ref sb)]))
  obtain ⟨T13, X13, e13, st13⟩ := getF X12 hx hZ hown (host := "") (Or.inl (hw _ (List.mem_of_getElem? (i := 80) rfl))) Via.refl e12 u3 (g := (mkF me_ 7 #[.val (.ref sb), .val (.ref a)] [(.ref sb)])) rfl rfl (hb hby d20_7)
  refine gv st13 ?_
  show G (T13.setTop (mkF me_ 10 #[.val (.ref sb), .val (.ref a)] [(.int (0 : Int32))]))
  refine gv (fun tQ kQ => XS.aloadN X13.here hx rfl (hb hby d20_10) rfl rfl kQ) ?_
  show G (T13.setTop (mkF me_ 11 #[.val (.ref sb), .val (.ref a)] [(.ref a), (.int (0 : Int32))]))
  obtain ⟨cq14, kq14, q14a, q14b, q14c⟩ := isOf hZ e13 u4
  obtain ⟨_, _, ⟨T14, L14, k14, n14⟩, -, X14, ⟨Lc14, hQ14, l14, y14, z14⟩, st14⟩ := X13.virtualBack hx (y := (⟨"java/lang/String", "coder", "()B"⟩ : MethodName)) (z := (⟨"java/lang/String", "coder", "()B"⟩ : MethodName)) hown (mvT hZ (hw _ (List.mem_of_getElem? (i := 119) rfl))) (mvT hZ (hw _ (List.mem_of_getElem? (i := 98) rfl))) (notFace_of_selects (args := #[]) (mvT hZ (hw _ (List.mem_of_getElem? (i := 100) rfl)))) (mvT hZ (hw _ (List.mem_of_getElem? (i := 100) rfl))) (mvT hZ (hw _ (List.mem_of_getElem? (i := 99) rfl))) (by decide) (backOf (W := 1) (rm_coder0 l Z a0 hw [] a cs h0 n0 O0 u0 u1 u5) hZ (hw _ (List.mem_of_getElem? (i := 101) rfl)) (hw _ (List.mem_of_getElem? (i := 3) rfl)) (by decide) (by decide)) q14a q14c (g := (mkF me_ 11 #[.val (.ref sb), .val (.ref a)] [(.ref a), (.int (0 : Int32))])) rfl (by rw [hml]; rfl) (Steps.refl _) (argsL := []) (rest := [(.int (0 : Int32))]) (lenOf pd_0 rfl) rfl (by show 2 * 0 + _ ≤ _; exact Nat.le_of_eq rfl) (hb hby d20_11) (fun _ _ => ⟨rfl, e13, (by decide : 0 + 0 ≤ _), (by decide : 0 + 0 ≤ _)⟩)
  dsimp only [Pt.U, Pt.locs, Pt.cells, Pt.slots] at X14 l14 y14 z14 st14 hQ14
  subst l14 y14 z14
  obtain ⟨rfl, Nq14, eq14⟩ := hQ14
  have N15 := Fr.app N0 Nq14
  refine gv (fun tQ kQ => st14.trans kQ) ?_
  show G (T14.setTop (mkF me_ 14 #[.val (.ref sb), .val (.ref a)] [(.int (0 : Int32)), (.int (0 : Int32))]))
  refine gv (fun tQ kQ => XS.icmpYes X14.here hx rfl (pc0 := 14) (pc' := 21) rfl (hb hby d20_14) rfl (teq (by decide : (0 : Int32) = (0 : Int32))).1 (by decide) (by decide) kQ) ?_
  show G (T14.setTop (mkF me_ 21 #[.val (.ref sb), .val (.ref a)] []))
  refine gf _ (own_ret X14 Bd.notSynchronized (v := none) (fun _ => rfl) ?_ (by decide) (by decide) (fun fs hr => X14.returnOut hx Bd.returns (hb hby d20_21) hr))
  show Q_inf Z sb a cs h0 n0 _ T14.heap _
  rw [eq14]
  exact ⟨rfl, N15, rfl⟩
theorem ef_3 (m : MethodId) (x0 : Addr) (x1 : Addr) (x2 : Int32) (x3 : Int32)  : entryFrame m #[(.ref x0), (.ref x1), (.int x2), (.int x3)] 4 = mkF m 0 #[.val (.ref x0), .val (.ref x1), .val (.int x2), .val (.int x3)] [] := by first | (simp [entryFrame, mkF, argsToLocals, Value.category]; done) | rfl
theorem d21_0 : decode jdk_42_method_147_code 0 = .ok (.aload_n 0, 1) := by decide +kernel
theorem d21_1 : decode jdk_42_method_147_code 1 = .ok (.invokevirtual 335, 3) := by decide +kernel
theorem d21_4 : decode jdk_42_method_147_code 4 = .ok (.iload_n 3, 1) := by decide +kernel
theorem d21_5 : decode jdk_42_method_147_code 5 = .ok (.if_icmp .ne 23, 3) := by decide +kernel
theorem d21_8 : decode jdk_42_method_147_code 8 = .ok (.aload_n 0, 1) := by decide +kernel
theorem d21_9 : decode jdk_42_method_147_code 9 = .ok (.getfield 9, 3) := by decide +kernel
theorem d21_12 : decode jdk_42_method_147_code 12 = .ok (.iconst 0, 1) := by decide +kernel
theorem d21_13 : decode jdk_42_method_147_code 13 = .ok (.aload_n 1, 1) := by decide +kernel
theorem d21_14 : decode jdk_42_method_147_code 14 = .ok (.iload_n 2, 1) := by decide +kernel
theorem d21_15 : decode jdk_42_method_147_code 15 = .ok (.iload_n 3, 1) := by decide +kernel
theorem d21_16 : decode jdk_42_method_147_code 16 = .ok (.ishl, 1) := by decide +kernel
theorem d21_17 : decode jdk_42_method_147_code 17 = .ok (.aload_n 0, 1) := by decide +kernel
theorem d21_18 : decode jdk_42_method_147_code 18 = .ok (.getfield 9, 3) := by decide +kernel
theorem d21_21 : decode jdk_42_method_147_code 21 = .ok (.arraylength, 1) := by decide +kernel
theorem d21_22 : decode jdk_42_method_147_code 22 = .ok (.invokestatic 212, 3) := by decide +kernel
theorem d21_25 : decode jdk_42_method_147_code 25 = .ok (.goto 18, 3) := by decide +kernel
theorem d21_43 : decode jdk_42_method_147_code 43 = .ok (.return_, 1) := by decide +kernel
def Q_gb (Z : State) (a : Addr) (b : Addr) (k : ClassId) (m : Int32) (ws_ : List Value) (bb : Addr) (kb : ClassId) (vs : List Value) (ct : Int32) (cs : Int32) (h0 : Heap) (n0 : Nat) (v : Option Value) (h : Heap) (L : List Loc) : Prop := v = none ∧ Fr n0 L ∧ Keep h0 h [bb] ∧ (Arv Z h bb kb .byte (16 : Int32) (own_put vs ct ws_ m) (.int (0 : Int32)))
set_option maxRecDepth 65536 in
set_option maxHeartbeats 40000000 in
theorem rm_gb (l : Launch) (Z : State) (a0 : Array Value) (hw : ∀ d ∈ tables_1, d.before a0 Z = true) (ws : List Jvm.Cond) (a : Addr) (b : Addr) (k : ClassId) (m : Int32) (ws_ : List Value) (bb : Addr) (kb : ClassId) (vs : List Value) (ct : Int32) (cs : Int32) (h0 : Heap) (n0 : Nat) (O0 : Old Z n0 h0) (u0 : Sta Z Z.heap "java/lang/String" "COMPACT_STRINGS" "Z" (.int cs)) (u1 : ¬ (cs = (0 : Int32))) (u2 : Exa Z h0 a "java/lang/String") (u3 : Fld Z h0 a "java/lang/String" "coder" "B" (.int (0 : Int32))) (u4 : Fld Z h0 a "java/lang/String" "value" "[B" (.ref b)) (u5 : Arv Z h0 b k .byte m ws_ (.int (0 : Int32))) (u6 : Arv Z h0 bb kb .byte (16 : Int32) vs (.int (0 : Int32))) (u7 : n0 ≤ bb) (u8 : b ≠ bb) (u9 : (own_ok ct m vs)) :
    MetFree l (⟨"java/lang/String", "getBytes", "([BIB)V"⟩ : MethodName) (head1 (Jvm.Cond.code (⟨"java/lang/String", "getBytes", "([BIB)V"⟩ : MethodName) jdk_42_method_147_code 4 none :: ws) ({ frames := 1, cells := 0, slots := 0, locals := 40 } : Room)) (fun aV U => aV = #[(.ref a), (.ref bb), (.int ct), (.int (0 : Int32))] ∧ Z.Warmed39 U.vm ∧ U.heap = h0) (fun _ _ _ _ _ => True) (fun _ U o U' => ∃ v L, o = .returned v ∧ Q_gb Z a b k m ws_ bb kb vs ct cs h0 n0 v U'.heap L ∧ FrameEnd U o U' L ({ frames := 1, cells := 0, slots := 0, locals := 40 } : Room).cells ({ frames := 1, cells := 0, slots := 0, locals := 40 } : Room).slots) := by
  refine MetFree.of_bodySF (plainFor_of_name pn_0) hisR ?_
  intro pr_ en_ st_ me_ args below meth_ co_ s₁ Bd hml0 hP hK
  obtain ⟨rfl, hZ, hh⟩ := hP
  have hx := Bd.exec
  have hby := Bd.bytes
  have hml : co_.maxLocals = 4 := hml0
  have hown : st_.vm.findClass "java/lang/String" = some me_.cls := findClass_of_methodNamed Bd.named
  have hnm := (name_of_methodNamed Bd.named Bd.method).1
  have X0 : Stand pr_ l en_ ({ frames := 1, cells := 0, slots := 0, locals := 40 } : Room) st_ me_ #[(.ref a), (.ref bb), (.int ct), (.int (0 : Int32))] below meth_ co_ s₁ [] 0 0 := Stand.of_body Bd
  have e0 : s₁.heap = h0 := by rw [← hh, Bd.state]; rfl
  have N0 := Fr.nil n0
  have K0 := Keep.refl h0 [bb]
  obtain ⟨G, gv, gf, gb⟩ := own_G pr_.tables en_ below st_ (Q_gb Z a b k m ws_ bb kb vs ct cs h0 n0) ({ frames := 1, cells := 0, slots := 0, locals := 40 } : Room).cells ({ frames := 1, cells := 0, slots := 0, locals := 40 } : Room).slots
  show own_Fin pr_.tables en_ below st_ (Q_gb Z a b k m ws_ bb kb vs ct cs h0 n0) ({ frames := 1, cells := 0, slots := 0, locals := 40 } : Room).cells ({ frames := 1, cells := 0, slots := 0, locals := 40 } : Room).slots (s₁.setTop (entryFrame me_ #[(.ref a), (.ref bb), (.int ct), (.int (0 : Int32))] 4))
  refine gb _ (gv (fun tQ kQ => castTop (ef_3 me_ a bb ct (0 : Int32)) kQ) ?_)
  show G (s₁.setTop (mkF me_ 0 #[.val (.ref a), .val (.ref bb), .val (.int ct), .val (.int (0 : Int32))] []))
  refine gv (fun tQ kQ => XS.aloadN X0.here hx rfl (hb hby d21_0) rfl rfl kQ) ?_
  show G (s₁.setTop (mkF me_ 1 #[.val (.ref a), .val (.ref bb), .val (.int ct), .val (.int (0 : Int32))] [(.ref a)]))
  obtain ⟨cq16, kq16, q16a, q16b, q16c⟩ := isOf hZ e0 u2
  obtain ⟨_, _, ⟨T16, L16, k16, n16⟩, -, X16, ⟨Lc16, hQ16, l16, y16, z16⟩, st16⟩ := X0.virtualBack hx (y := (⟨"java/lang/String", "coder", "()B"⟩ : MethodName)) (z := (⟨"java/lang/String", "coder", "()B"⟩ : MethodName)) hown (mvT hZ (hw _ (List.mem_of_getElem? (i := 97) rfl))) (mvT hZ (hw _ (List.mem_of_getElem? (i := 98) rfl))) (notFace_of_selects (args := #[]) (mvT hZ (hw _ (List.mem_of_getElem? (i := 100) rfl)))) (mvT hZ (hw _ (List.mem_of_getElem? (i := 100) rfl))) (mvT hZ (hw _ (List.mem_of_getElem? (i := 99) rfl))) (by decide) (backOf (W := 0) (rm_coder0 l Z a0 hw [] a cs h0 n0 O0 u0 u1 u3) hZ (hw _ (List.mem_of_getElem? (i := 101) rfl)) (hw _ (List.mem_of_getElem? (i := 3) rfl)) (by decide) (by decide)) q16a q16c (g := (mkF me_ 1 #[.val (.ref a), .val (.ref bb), .val (.int ct), .val (.int (0 : Int32))] [(.ref a)])) rfl (by rw [hml]; rfl) (Steps.refl _) (argsL := []) (rest := []) (lenOf pd_0 rfl) rfl (by show 2 * 0 + _ ≤ _; exact Nat.le_of_eq rfl) (hb hby d21_1) (fun _ _ => ⟨rfl, e0, (by decide : 0 + 0 ≤ _), (by decide : 0 + 0 ≤ _)⟩)
  dsimp only [Pt.U, Pt.locs, Pt.cells, Pt.slots] at X16 l16 y16 z16 st16 hQ16
  subst l16 y16 z16
  obtain ⟨rfl, Nq16, eq16⟩ := hQ16
  have N17 := Fr.app N0 Nq16
  refine gv (fun tQ kQ => st16.trans kQ) ?_
  show G (T16.setTop (mkF me_ 4 #[.val (.ref a), .val (.ref bb), .val (.int ct), .val (.int (0 : Int32))] [(.int (0 : Int32))]))
  refine gv (fun tQ kQ => XS.iloadN X16.here hx rfl (hb hby d21_4) rfl kQ) ?_
  show G (T16.setTop (mkF me_ 5 #[.val (.ref a), .val (.ref bb), .val (.int ct), .val (.int (0 : Int32))] [(.int (0 : Int32)), (.int (0 : Int32))]))
  refine gv (fun tQ kQ => XS.icmpNo X16.here hx rfl (hb hby d21_5) rfl (teq (by decide : (0 : Int32) = (0 : Int32))).2 kQ) ?_
  show G (T16.setTop (mkF me_ 8 #[.val (.ref a), .val (.ref bb), .val (.int ct), .val (.int (0 : Int32))] []))
  refine gv (fun tQ kQ => XS.aloadN X16.here hx rfl (hb hby d21_8) rfl rfl kQ) ?_
  show G (T16.setTop (mkF me_ 9 #[.val (.ref a), .val (.ref bb), .val (.int ct), .val (.int (0 : Int32))] [(.ref a)]))
  obtain ⟨T18, X18, e18, st18⟩ := getF X16 hx hZ hown (host := "") (Or.inl (hw _ (List.mem_of_getElem? (i := 24) rfl))) Via.refl eq16 u4 (g := (mkF me_ 9 #[.val (.ref a), .val (.ref bb), .val (.int ct), .val (.int (0 : Int32))] [(.ref a)])) rfl rfl (hb hby d21_9)
  refine gv st18 ?_
  show G (T18.setTop (mkF me_ 12 #[.val (.ref a), .val (.ref bb), .val (.int ct), .val (.int (0 : Int32))] [(.ref b)]))
  refine gv (fun tQ kQ => XS.iconst X18.here hx rfl (hb hby d21_12) kQ) ?_
  show G (T18.setTop (mkF me_ 13 #[.val (.ref a), .val (.ref bb), .val (.int ct), .val (.int (0 : Int32))] [(.int (0 : Int32)), (.ref b)]))
  refine gv (fun tQ kQ => XS.aloadN X18.here hx rfl (hb hby d21_13) rfl rfl kQ) ?_
  show G (T18.setTop (mkF me_ 14 #[.val (.ref a), .val (.ref bb), .val (.int ct), .val (.int (0 : Int32))] [(.ref bb), (.int (0 : Int32)), (.ref b)]))
  refine gv (fun tQ kQ => XS.iloadN X18.here hx rfl (hb hby d21_14) rfl kQ) ?_
  show G (T18.setTop (mkF me_ 15 #[.val (.ref a), .val (.ref bb), .val (.int ct), .val (.int (0 : Int32))] [(.int ct), (.ref bb), (.int (0 : Int32)), (.ref b)]))
  refine gv (fun tQ kQ => XS.iloadN X18.here hx rfl (hb hby d21_15) rfl kQ) ?_
  show G (T18.setTop (mkF me_ 16 #[.val (.ref a), .val (.ref bb), .val (.int ct), .val (.int (0 : Int32))] [(.int (0 : Int32)), (.int ct), (.ref bb), (.int (0 : Int32)), (.ref b)]))
  refine gv (fun tQ kQ => XS.ishl X18.here hx rfl (hb hby d21_16) rfl kQ) ?_
  show G (T18.setTop (mkF me_ 17 #[.val (.ref a), .val (.ref bb), .val (.int ct), .val (.int (0 : Int32))] [(.int (ct <<< ((0 : Int32) &&& 31))), (.ref bb), (.int (0 : Int32)), (.ref b)]))
  rw [own_shl0 ct]
  show G (T18.setTop (mkF me_ 17 #[.val (.ref a), .val (.ref bb), .val (.int ct), .val (.int (0 : Int32))] [(.int ct), (.ref bb), (.int (0 : Int32)), (.ref b)]))
  refine gv (fun tQ kQ => XS.aloadN X18.here hx rfl (hb hby d21_17) rfl rfl kQ) ?_
  show G (T18.setTop (mkF me_ 18 #[.val (.ref a), .val (.ref bb), .val (.int ct), .val (.int (0 : Int32))] [(.ref a), (.int ct), (.ref bb), (.int (0 : Int32)), (.ref b)]))
  obtain ⟨T19, X19, e19, st19⟩ := getF X18 hx hZ hown (host := "") (Or.inl (hw _ (List.mem_of_getElem? (i := 24) rfl))) Via.refl e18 u4 (g := (mkF me_ 18 #[.val (.ref a), .val (.ref bb), .val (.int ct), .val (.int (0 : Int32))] [(.ref a), (.int ct), (.ref bb), (.int (0 : Int32)), (.ref b)])) rfl rfl (hb hby d21_18)
  refine gv st19 ?_
  show G (T19.setTop (mkF me_ 21 #[.val (.ref a), .val (.ref bb), .val (.int ct), .val (.int (0 : Int32))] [(.ref b), (.int ct), (.ref bb), (.int (0 : Int32)), (.ref b)]))
  obtain ⟨cl20, Ar20, -, S20, n20, -, -⟩ := (id u5)
  refine gv (X19.arraylength hx (by rw [e19]; exact Ar20.1) (State.isArrayOf_alike hZ.alike Ar20.2.1) (g := (mkF me_ 21 #[.val (.ref a), .val (.ref bb), .val (.int ct), .val (.int (0 : Int32))] [(.ref b), (.int ct), (.ref bb), (.int (0 : Int32)), (.ref b)])) rfl rfl (hb hby d21_21)) ?_
  rw [len_of S20 n20]
  show G (T19.setTop (mkF me_ 22 #[.val (.ref a), .val (.ref bb), .val (.int ct), .val (.int (0 : Int32))] [(.int m), (.int ct), (.ref bb), (.int (0 : Int32)), (.ref b)]))
  obtain ⟨T21, h21, L21, X21, e21, N21, Kq21, A21, st21⟩ := cpA X19 hx hZ hown (hw _ (List.mem_of_getElem? (i := 125) rfl)) (hw _ (List.mem_of_getElem? (i := 128) rfl)) (hw _ (List.mem_of_getElem? (i := 126) rfl)) (hw _ (List.mem_of_getElem? (i := 127) rfl)) e19 u5 u6 (Or.inl ⟨rfl, rfl⟩) (sp := (0 : Int32)) (dp := ct) (nn := m) (by decide) u9.1 u9.2.1 (own_z _) (own_c16 u9.2.2.1) rfl (Nat.le_trans u9.2.2.1 (Nat.le_of_eq u9.2.2.2.symm)) N17 u7 (g := (mkF me_ 22 #[.val (.ref a), .val (.ref bb), .val (.int ct), .val (.int (0 : Int32))] [(.int m), (.int ct), (.ref bb), (.int (0 : Int32)), (.ref b)])) rfl (by rw [hml]; rfl) (rest := []) rfl (hb hby d21_22) (by decide) (W := 0) (by show 2 * 0 + _ ≤ _; exact Nat.le_of_eq rfl) (by decide)
  refine gv st21 ?_
  have f22 : Exa Z h21 a "java/lang/String" := u2.keep Kq21
  have f23 : Fld Z h21 a "java/lang/String" "coder" "B" (.int (0 : Int32)) := u3.keep Kq21 (ninS (own_ne_arv u2 (hw _ (List.mem_of_getElem? (i := 2) rfl)) u6) nin0)
  have f24 : Fld Z h21 a "java/lang/String" "value" "[B" (.ref b) := u4.keep Kq21 (ninS (own_ne_arv u2 (hw _ (List.mem_of_getElem? (i := 2) rfl)) u6) nin0)
  have f25 : Arv Z h21 b k .byte m ws_ (.int (0 : Int32)) := u5.keep Kq21 (ninS u8 nin0)
  have O26 := O0.keep Kq21 (allS u7 all0)
  have K27 := K0.trans Kq21 (allS (Or.inl (List.mem_of_getElem? (i := 0) rfl)) all0)
  have P21 : Arv Z h21 bb kb .byte (16 : Int32) (own_put vs ct ws_ m) (.int (0 : Int32)) := A21
  show G (T21.setTop (mkF me_ 25 #[.val (.ref a), .val (.ref bb), .val (.int ct), .val (.int (0 : Int32))] []))
  refine gv (fun tQ kQ => XS.goto X21.here hx rfl (pc0 := 25) (pc' := 43) rfl (hb hby d21_25) (by decide) (by decide) kQ) ?_
  show G (T21.setTop (mkF me_ 43 #[.val (.ref a), .val (.ref bb), .val (.int ct), .val (.int (0 : Int32))] []))
  refine gf _ (own_ret X21 Bd.notSynchronized (v := none) (fun _ => rfl) ?_ (by decide) (by decide) (fun fs hr => X21.returnOut hx Bd.returns (hb hby d21_43) hr))
  show Q_gb Z a b k m ws_ bb kb vs ct cs h0 n0 _ T21.heap _
  rw [e21]
  exact ⟨rfl, N21, K27, P21⟩
theorem ef_4 (m : MethodId) (x0 : Addr) (x1 : Int32) (x2 : Addr)  : entryFrame m #[(.ref x0), (.int x1), (.ref x2)] 3 = mkF m 0 #[.val (.ref x0), .val (.int x1), .val (.ref x2)] [] := by first | (simp [entryFrame, mkF, argsToLocals, Value.category]; done) | rfl
theorem d19_0 : decode jdk_68_method_73_code 0 = .ok (.aload_n 0, 1) := by decide +kernel
theorem d19_1 : decode jdk_68_method_73_code 1 = .ok (.aload_n 2, 1) := by decide +kernel
theorem d19_2 : decode jdk_68_method_73_code 2 = .ok (.invokevirtual 397, 3) := by decide +kernel
theorem pd_1 : parseMethodDescriptor "(Ljava/lang/String;)V" = some ⟨[(.object "java/lang/String")], none⟩ := by decide +kernel
theorem d19_5 : decode jdk_68_method_73_code 5 = .ok (.aload_n 2, 1) := by decide +kernel
theorem d19_6 : decode jdk_68_method_73_code 6 = .ok (.aload_n 0, 1) := by decide +kernel
theorem d19_7 : decode jdk_68_method_73_code 7 = .ok (.getfield 15, 3) := by decide +kernel
theorem d19_10 : decode jdk_68_method_73_code 10 = .ok (.iload_n 1, 1) := by decide +kernel
theorem d19_11 : decode jdk_68_method_73_code 11 = .ok (.aload_n 0, 1) := by decide +kernel
theorem d19_12 : decode jdk_68_method_73_code 12 = .ok (.getfield 22, 3) := by decide +kernel
theorem d19_15 : decode jdk_68_method_73_code 15 = .ok (.invokevirtual 399, 3) := by decide +kernel
theorem pd_2 : parseMethodDescriptor "([BIB)V" = some ⟨[(.array .byte), .int, .byte], none⟩ := by decide +kernel
theorem d19_18 : decode jdk_68_method_73_code 18 = .ok (.return_, 1) := by decide +kernel
def Q_psa (Z : State) (sb : Addr) (a : Addr) (b : Addr) (k : ClassId) (m : Int32) (ws_ : List Value) (bb : Addr) (kb : ClassId) (vs : List Value) (ct : Int32) (cs : Int32) (h0 : Heap) (n0 : Nat) (v : Option Value) (h : Heap) (L : List Loc) : Prop := v = none ∧ Fr n0 L ∧ Keep h0 h [bb] ∧ (Arv Z h bb kb .byte (16 : Int32) (own_put vs ct ws_ m) (.int (0 : Int32)))
set_option maxRecDepth 65536 in
set_option maxHeartbeats 40000000 in
theorem rm_psa (l : Launch) (Z : State) (a0 : Array Value) (hw : ∀ d ∈ tables_1, d.before a0 Z = true) (ws : List Jvm.Cond) (sb : Addr) (a : Addr) (b : Addr) (k : ClassId) (m : Int32) (ws_ : List Value) (bb : Addr) (kb : ClassId) (vs : List Value) (ct : Int32) (cs : Int32) (h0 : Heap) (n0 : Nat) (O0 : Old Z n0 h0) (u0 : Sta Z Z.heap "java/lang/String" "COMPACT_STRINGS" "Z" (.int cs)) (u1 : ¬ (cs = (0 : Int32))) (u2 : Exa Z h0 sb "java/lang/StringBuilder") (u3 : Fld Z h0 sb "java/lang/AbstractStringBuilder" "value" "[B" (.ref bb)) (u4 : Fld Z h0 sb "java/lang/AbstractStringBuilder" "coder" "B" (.int (0 : Int32))) (u5 : Exa Z h0 a "java/lang/String") (u6 : Fld Z h0 a "java/lang/String" "coder" "B" (.int (0 : Int32))) (u7 : Fld Z h0 a "java/lang/String" "value" "[B" (.ref b)) (u8 : Arv Z h0 b k .byte m ws_ (.int (0 : Int32))) (u9 : Arv Z h0 bb kb .byte (16 : Int32) vs (.int (0 : Int32))) (u10 : n0 ≤ bb) (u11 : b ≠ bb) (u12 : (own_ok ct m vs)) :
    MetFree l (⟨"java/lang/AbstractStringBuilder", "putStringAt", "(ILjava/lang/String;)V"⟩ : MethodName) (head1 (Jvm.Cond.code (⟨"java/lang/AbstractStringBuilder", "putStringAt", "(ILjava/lang/String;)V"⟩ : MethodName) jdk_68_method_73_code 3 none :: ws) ({ frames := 2, cells := 0, slots := 0, locals := 55 } : Room)) (fun aV U => aV = #[(.ref sb), (.int ct), (.ref a)] ∧ Z.Warmed39 U.vm ∧ U.heap = h0) (fun _ _ _ _ _ => True) (fun _ U o U' => ∃ v L, o = .returned v ∧ Q_psa Z sb a b k m ws_ bb kb vs ct cs h0 n0 v U'.heap L ∧ FrameEnd U o U' L ({ frames := 2, cells := 0, slots := 0, locals := 55 } : Room).cells ({ frames := 2, cells := 0, slots := 0, locals := 55 } : Room).slots) := by
  refine MetFree.of_bodySF (plainFor_of_name pn_1) hisR ?_
  intro pr_ en_ st_ me_ args below meth_ co_ s₁ Bd hml0 hP hK
  obtain ⟨rfl, hZ, hh⟩ := hP
  have hx := Bd.exec
  have hby := Bd.bytes
  have hml : co_.maxLocals = 3 := hml0
  have hown : st_.vm.findClass "java/lang/AbstractStringBuilder" = some me_.cls := findClass_of_methodNamed Bd.named
  have hnm := (name_of_methodNamed Bd.named Bd.method).1
  have X0 : Stand pr_ l en_ ({ frames := 2, cells := 0, slots := 0, locals := 55 } : Room) st_ me_ #[(.ref sb), (.int ct), (.ref a)] below meth_ co_ s₁ [] 0 0 := Stand.of_body Bd
  have e0 : s₁.heap = h0 := by rw [← hh, Bd.state]; rfl
  have N0 := Fr.nil n0
  have K0 := Keep.refl h0 [bb]
  obtain ⟨G, gv, gf, gb⟩ := own_G pr_.tables en_ below st_ (Q_psa Z sb a b k m ws_ bb kb vs ct cs h0 n0) ({ frames := 2, cells := 0, slots := 0, locals := 55 } : Room).cells ({ frames := 2, cells := 0, slots := 0, locals := 55 } : Room).slots
  show own_Fin pr_.tables en_ below st_ (Q_psa Z sb a b k m ws_ bb kb vs ct cs h0 n0) ({ frames := 2, cells := 0, slots := 0, locals := 55 } : Room).cells ({ frames := 2, cells := 0, slots := 0, locals := 55 } : Room).slots (s₁.setTop (entryFrame me_ #[(.ref sb), (.int ct), (.ref a)] 3))
  refine gb _ (gv (fun tQ kQ => castTop (ef_4 me_ sb ct a) kQ) ?_)
  show G (s₁.setTop (mkF me_ 0 #[.val (.ref sb), .val (.int ct), .val (.ref a)] []))
  refine gv (fun tQ kQ => XS.aloadN X0.here hx rfl (hb hby d19_0) rfl rfl kQ) ?_
  show G (s₁.setTop (mkF me_ 1 #[.val (.ref sb), .val (.int ct), .val (.ref a)] [(.ref sb)]))
  refine gv (fun tQ kQ => XS.aloadN X0.here hx rfl (hb hby d19_1) rfl rfl kQ) ?_
  show G (s₁.setTop (mkF me_ 2 #[.val (.ref sb), .val (.int ct), .val (.ref a)] [(.ref a), (.ref sb)]))
  obtain ⟨cq28, q28, q28'⟩ := u2.cell
  obtain ⟨_, _, ⟨T28, L28, k28, n28⟩, -, X28, ⟨Lc28, hQ28, l28, y28, z28⟩, st28⟩ := X0.privateBack hx (y := (⟨"java/lang/AbstractStringBuilder", "inflateIfNeededFor", "(Ljava/lang/String;)V"⟩ : MethodName)) hown (mvT hZ (hw _ (List.mem_of_getElem? (i := 114) rfl))) (mvT hZ (hw _ (List.mem_of_getElem? (i := 115) rfl))) (mvT hZ (own_selp (by decide) (hw _ (List.mem_of_getElem? (i := 117) rfl)) (Cond.privateMethod_at (hw _ (List.mem_of_getElem? (i := 116) rfl))) (hw _ (List.mem_of_getElem? (i := 115) rfl)))) (Cond.privateMethod_at (mvP hZ (hw _ (List.mem_of_getElem? (i := 116) rfl)) (args := #[]))) (mvT hZ (hw _ (List.mem_of_getElem? (i := 118) rfl))) (by decide) (backOf (W := 0) (rm_inf l Z a0 hw [] sb a cs h0 n0 O0 u0 u1 u2 u4 u5 u6) hZ (hw _ (List.mem_of_getElem? (i := 118) rfl)) (hw _ (List.mem_of_getElem? (i := 74) rfl)) (by decide) (by decide)) (g := (mkF me_ 2 #[.val (.ref sb), .val (.int ct), .val (.ref a)] [(.ref a), (.ref sb)])) rfl (by rw [hml]; rfl) (Steps.refl _) (a := sb) (by rw [e0]; exact q28) q28' (argsL := [(.ref a)]) (rest := []) (lenOf pd_1 rfl) rfl (by show 2 * 0 + _ ≤ _; exact Nat.le_of_eq rfl) (hb hby d19_2) (fun _ _ => ⟨rfl, e0, (by decide : 0 + 0 ≤ _), (by decide : 0 + 0 ≤ _)⟩)
  dsimp only [Pt.U, Pt.locs, Pt.cells, Pt.slots] at X28 l28 y28 z28 st28 hQ28
  subst l28 y28 z28
  obtain ⟨rfl, Nq28, eq28⟩ := hQ28
  have N29 := Fr.app N0 Nq28
  refine gv (fun tQ kQ => st28.trans kQ) ?_
  show G (T28.setTop (mkF me_ 5 #[.val (.ref sb), .val (.int ct), .val (.ref a)] []))
  refine gv (fun tQ kQ => XS.aloadN X28.here hx rfl (hb hby d19_5) rfl rfl kQ) ?_
  show G (T28.setTop (mkF me_ 6 #[.val (.ref sb), .val (.int ct), .val (.ref a)] [(.ref a)]))
  refine gv (fun tQ kQ => XS.aloadN X28.here hx rfl (hb hby d19_6) rfl rfl kQ) ?_
  show G (T28.setTop (mkF me_ 7 #[.val (.ref sb), .val (.int ct), .val (.ref a)] [(.ref sb), (.ref a)]))
  obtain ⟨T30, X30, e30, st30⟩ := getF X28 hx hZ hown (host := "") (Or.inl (hw _ (List.mem_of_getElem? (i := 78) rfl))) Via.refl eq28 u3 (g := (mkF me_ 7 #[.val (.ref sb), .val (.int ct), .val (.ref a)] [(.ref sb), (.ref a)])) rfl rfl (hb hby d19_7)
  refine gv st30 ?_
  show G (T30.setTop (mkF me_ 10 #[.val (.ref sb), .val (.int ct), .val (.ref a)] [(.ref bb), (.ref a)]))
  refine gv (fun tQ kQ => XS.iloadN X30.here hx rfl (hb hby d19_10) rfl kQ) ?_
  show G (T30.setTop (mkF me_ 11 #[.val (.ref sb), .val (.int ct), .val (.ref a)] [(.int ct), (.ref bb), (.ref a)]))
  refine gv (fun tQ kQ => XS.aloadN X30.here hx rfl (hb hby d19_11) rfl rfl kQ) ?_
  show G (T30.setTop (mkF me_ 12 #[.val (.ref sb), .val (.int ct), .val (.ref a)] [(.ref sb), (.int ct), (.ref bb), (.ref a)]))
  obtain ⟨T31, X31, e31, st31⟩ := getF X30 hx hZ hown (host := "") (Or.inl (hw _ (List.mem_of_getElem? (i := 80) rfl))) Via.refl e30 u4 (g := (mkF me_ 12 #[.val (.ref sb), .val (.int ct), .val (.ref a)] [(.ref sb), (.int ct), (.ref bb), (.ref a)])) rfl rfl (hb hby d19_12)
  refine gv st31 ?_
  show G (T31.setTop (mkF me_ 15 #[.val (.ref sb), .val (.int ct), .val (.ref a)] [(.int (0 : Int32)), (.int ct), (.ref bb), (.ref a)]))
  obtain ⟨cq32, kq32, q32a, q32b, q32c⟩ := isOf hZ e31 u5
  obtain ⟨_, _, ⟨T32, L32, k32, n32⟩, -, X32, ⟨Lc32, hQ32, l32, y32, z32⟩, st32⟩ := X31.virtualBack hx (y := (⟨"java/lang/String", "getBytes", "([BIB)V"⟩ : MethodName)) (z := (⟨"java/lang/String", "getBytes", "([BIB)V"⟩ : MethodName)) hown (mvT hZ (hw _ (List.mem_of_getElem? (i := 120) rfl))) (mvT hZ (hw _ (List.mem_of_getElem? (i := 121) rfl))) (notFace_of_selects (args := #[]) (mvT hZ (hw _ (List.mem_of_getElem? (i := 123) rfl)))) (mvT hZ (hw _ (List.mem_of_getElem? (i := 123) rfl))) (mvT hZ (hw _ (List.mem_of_getElem? (i := 122) rfl))) (by decide) (backOf (W := 0) (rm_gb l Z a0 hw [] a b k m ws_ bb kb vs ct cs h0 n0 O0 u0 u1 u5 u6 u7 u8 u9 u10 u11 u12) hZ (hw _ (List.mem_of_getElem? (i := 124) rfl)) (hw _ (List.mem_of_getElem? (i := 3) rfl)) (by decide) (by decide)) q32a q32c (g := (mkF me_ 15 #[.val (.ref sb), .val (.int ct), .val (.ref a)] [(.int (0 : Int32)), (.int ct), (.ref bb), (.ref a)])) rfl (by rw [hml]; rfl) (Steps.refl _) (argsL := [(.ref bb), (.int ct), (.int (0 : Int32))]) (rest := []) (lenOf pd_2 rfl) rfl (by show 2 * 0 + _ ≤ _; exact Nat.le_of_eq rfl) (hb hby d19_15) (fun _ _ => ⟨rfl, e31, (by decide : 0 + 0 ≤ _), (by decide : 0 + 0 ≤ _)⟩)
  dsimp only [Pt.U, Pt.locs, Pt.cells, Pt.slots] at X32 l32 y32 z32 st32 hQ32
  subst l32 y32 z32
  obtain ⟨rfl, Nq32, Kq32, w32_0⟩ := hQ32
  have N33 := Fr.app N29 Nq32
  obtain ⟨h32, e32⟩ : ∃ z, T32.heap = z := ⟨_, rfl⟩
  rw [e32] at Kq32 w32_0
  have f34 : Exa Z h32 sb "java/lang/StringBuilder" := u2.keep Kq32
  have f35 : Fld Z h32 sb "java/lang/AbstractStringBuilder" "value" "[B" (.ref bb) := u3.keep Kq32 (ninS (own_ne_arv u2 (hw _ (List.mem_of_getElem? (i := 65) rfl)) u9) nin0)
  have f36 : Fld Z h32 sb "java/lang/AbstractStringBuilder" "coder" "B" (.int (0 : Int32)) := u4.keep Kq32 (ninS (own_ne_arv u2 (hw _ (List.mem_of_getElem? (i := 65) rfl)) u9) nin0)
  have f37 : Exa Z h32 a "java/lang/String" := u5.keep Kq32
  have f38 : Fld Z h32 a "java/lang/String" "coder" "B" (.int (0 : Int32)) := u6.keep Kq32 (ninS (own_ne_arv u5 (hw _ (List.mem_of_getElem? (i := 2) rfl)) u9) nin0)
  have f39 : Fld Z h32 a "java/lang/String" "value" "[B" (.ref b) := u7.keep Kq32 (ninS (own_ne_arv u5 (hw _ (List.mem_of_getElem? (i := 2) rfl)) u9) nin0)
  have f40 : Arv Z h32 b k .byte m ws_ (.int (0 : Int32)) := u8.keep Kq32 (ninS u11 nin0)
  have O41 := O0.keep Kq32 (allS u10 all0)
  have K42 := K0.trans Kq32 (allS (Or.inl (List.mem_of_getElem? (i := 0) rfl)) all0)
  refine gv (fun tQ kQ => st32.trans kQ) ?_
  show G (T32.setTop (mkF me_ 18 #[.val (.ref sb), .val (.int ct), .val (.ref a)] []))
  refine gf _ (own_ret X32 Bd.notSynchronized (v := none) (fun _ => rfl) ?_ (by decide) (by decide) (fun fs hr => X32.returnOut hx Bd.returns (hb hby d19_18) hr))
  show Q_psa Z sb a b k m ws_ bb kb vs ct cs h0 n0 _ T32.heap _
  rw [e32]
  exact ⟨rfl, N33, K42, w32_0⟩
theorem ef_5 (m : MethodId) (x0 : Addr) (x1 : Addr)  : entryFrame m #[(.ref x0), (.ref x1)] 3 = mkF m 0 #[.val (.ref x0), .val (.ref x1), .unset] [] := by first | (simp [entryFrame, mkF, argsToLocals, Value.category]; done) | rfl
theorem d15_0 : decode jdk_68_method_22_code 0 = .ok (.aload_n 1, 1) := by decide +kernel
theorem d15_1 : decode jdk_68_method_22_code 1 = .ok (.ifnonnull 8, 3) := by decide +kernel
theorem d15_9 : decode jdk_68_method_22_code 9 = .ok (.aload_n 1, 1) := by decide +kernel
theorem d15_10 : decode jdk_68_method_22_code 10 = .ok (.invokevirtual 32, 3) := by decide +kernel
theorem pd_3 : parseMethodDescriptor "()I" = some ⟨[], some .int⟩ := by decide +kernel
theorem d15_13 : decode jdk_68_method_22_code 13 = .ok (.istore_n 2, 1) := by decide +kernel
theorem d15_14 : decode jdk_68_method_22_code 14 = .ok (.aload_n 0, 1) := by decide +kernel
theorem d15_15 : decode jdk_68_method_22_code 15 = .ok (.aload_n 0, 1) := by decide +kernel
theorem d15_16 : decode jdk_68_method_22_code 16 = .ok (.getfield 79, 3) := by decide +kernel
theorem d15_19 : decode jdk_68_method_22_code 19 = .ok (.iload_n 2, 1) := by decide +kernel
theorem d15_20 : decode jdk_68_method_22_code 20 = .ok (.iadd, 1) := by decide +kernel
theorem d15_21 : decode jdk_68_method_22_code 21 = .ok (.invokevirtual 100, 3) := by decide +kernel
theorem pd_4 : parseMethodDescriptor "(I)V" = some ⟨[.int], none⟩ := by decide +kernel
theorem d15_24 : decode jdk_68_method_22_code 24 = .ok (.aload_n 0, 1) := by decide +kernel
theorem d15_25 : decode jdk_68_method_22_code 25 = .ok (.aload_n 0, 1) := by decide +kernel
theorem d15_26 : decode jdk_68_method_22_code 26 = .ok (.getfield 79, 3) := by decide +kernel
theorem d15_29 : decode jdk_68_method_22_code 29 = .ok (.aload_n 1, 1) := by decide +kernel
theorem d15_30 : decode jdk_68_method_22_code 30 = .ok (.invokevirtual 208, 3) := by decide +kernel
theorem pd_5 : parseMethodDescriptor "(ILjava/lang/String;)V" = some ⟨[.int, (.object "java/lang/String")], none⟩ := by decide +kernel
theorem d15_33 : decode jdk_68_method_22_code 33 = .ok (.aload_n 0, 1) := by decide +kernel
theorem d15_34 : decode jdk_68_method_22_code 34 = .ok (.dup, 1) := by decide +kernel
theorem d15_35 : decode jdk_68_method_22_code 35 = .ok (.getfield 79, 3) := by decide +kernel
theorem d15_38 : decode jdk_68_method_22_code 38 = .ok (.iload_n 2, 1) := by decide +kernel
theorem d15_39 : decode jdk_68_method_22_code 39 = .ok (.iadd, 1) := by decide +kernel
theorem d15_40 : decode jdk_68_method_22_code 40 = .ok (.putfield 79, 3) := by decide +kernel
theorem d15_43 : decode jdk_68_method_22_code 43 = .ok (.aload_n 0, 1) := by decide +kernel
theorem d15_44 : decode jdk_68_method_22_code 44 = .ok (.areturn, 1) := by decide +kernel
def Q_app (Z : State) (sb : Addr) (a : Addr) (b : Addr) (k : ClassId) (m : Int32) (ws_ : List Value) (bb : Addr) (kb : ClassId) (vs : List Value) (ct : Int32) (cs : Int32) (h0 : Heap) (n0 : Nat) (v : Option Value) (h : Heap) (L : List Loc) : Prop := v = some (.ref sb) ∧ Fr n0 L ∧ Keep h0 h [sb, bb] ∧ (Exa Z h sb "java/lang/StringBuilder") ∧ (Fld Z h sb "java/lang/AbstractStringBuilder" "value" "[B" (.ref bb)) ∧ (Fld Z h sb "java/lang/AbstractStringBuilder" "coder" "B" (.int (0 : Int32))) ∧ (Fld Z h sb "java/lang/AbstractStringBuilder" "count" "I" (.int (ct + m))) ∧ (Arv Z h bb kb .byte (16 : Int32) (own_put vs ct ws_ m) (.int (0 : Int32)))
set_option maxRecDepth 65536 in
set_option maxHeartbeats 40000000 in
theorem rm_app (l : Launch) (Z : State) (a0 : Array Value) (hw : ∀ d ∈ tables_1, d.before a0 Z = true) (ws : List Jvm.Cond) (sb : Addr) (a : Addr) (b : Addr) (k : ClassId) (m : Int32) (ws_ : List Value) (bb : Addr) (kb : ClassId) (vs : List Value) (ct : Int32) (cs : Int32) (h0 : Heap) (n0 : Nat) (O0 : Old Z n0 h0) (u0 : Sta Z Z.heap "java/lang/String" "COMPACT_STRINGS" "Z" (.int cs)) (u1 : ¬ (cs = (0 : Int32))) (u2 : Exa Z h0 sb "java/lang/StringBuilder") (u3 : Fld Z h0 sb "java/lang/AbstractStringBuilder" "value" "[B" (.ref bb)) (u4 : Fld Z h0 sb "java/lang/AbstractStringBuilder" "coder" "B" (.int (0 : Int32))) (u5 : Fld Z h0 sb "java/lang/AbstractStringBuilder" "count" "I" (.int ct)) (u6 : Exa Z h0 a "java/lang/String") (u7 : Fld Z h0 a "java/lang/String" "coder" "B" (.int (0 : Int32))) (u8 : Fld Z h0 a "java/lang/String" "value" "[B" (.ref b)) (u9 : Arv Z h0 b k .byte m ws_ (.int (0 : Int32))) (u10 : Arv Z h0 bb kb .byte (16 : Int32) vs (.int (0 : Int32))) (u11 : n0 ≤ sb) (u12 : n0 ≤ bb) (u13 : b ≠ bb) (u14 : (own_ok ct m vs)) (u15 : ¬ ((0 : Int32) < ((ct + m) - (16 : Int32)))) :
    MetFree l (⟨"java/lang/AbstractStringBuilder", "append", "(Ljava/lang/String;)Ljava/lang/AbstractStringBuilder;"⟩ : MethodName) (head1 (Jvm.Cond.code (⟨"java/lang/AbstractStringBuilder", "append", "(Ljava/lang/String;)Ljava/lang/AbstractStringBuilder;"⟩ : MethodName) jdk_68_method_22_code 3 (some (.object "java/lang/AbstractStringBuilder")) :: ws) ({ frames := 3, cells := 0, slots := 0, locals := 69 } : Room)) (fun aV U => aV = #[(.ref sb), (.ref a)] ∧ Z.Warmed39 U.vm ∧ U.heap = h0) (fun _ _ _ _ _ => True) (fun _ U o U' => ∃ v L, o = .returned v ∧ Q_app Z sb a b k m ws_ bb kb vs ct cs h0 n0 v U'.heap L ∧ FrameEnd U o U' L ({ frames := 3, cells := 0, slots := 0, locals := 69 } : Room).cells ({ frames := 3, cells := 0, slots := 0, locals := 69 } : Room).slots) := by
  refine MetFree.of_bodySF (plainFor_of_name pn_1) hisR ?_
  intro pr_ en_ st_ me_ args below meth_ co_ s₁ Bd hml0 hP hK
  obtain ⟨rfl, hZ, hh⟩ := hP
  have hx := Bd.exec
  have hby := Bd.bytes
  have hml : co_.maxLocals = 3 := hml0
  have hown : st_.vm.findClass "java/lang/AbstractStringBuilder" = some me_.cls := findClass_of_methodNamed Bd.named
  have hnm := (name_of_methodNamed Bd.named Bd.method).1
  have X0 : Stand pr_ l en_ ({ frames := 3, cells := 0, slots := 0, locals := 69 } : Room) st_ me_ #[(.ref sb), (.ref a)] below meth_ co_ s₁ [] 0 0 := Stand.of_body Bd
  have e0 : s₁.heap = h0 := by rw [← hh, Bd.state]; rfl
  have N0 := Fr.nil n0
  have K0 := Keep.refl h0 [sb, bb]
  obtain ⟨G, gv, gf, gb⟩ := own_G pr_.tables en_ below st_ (Q_app Z sb a b k m ws_ bb kb vs ct cs h0 n0) ({ frames := 3, cells := 0, slots := 0, locals := 69 } : Room).cells ({ frames := 3, cells := 0, slots := 0, locals := 69 } : Room).slots
  show own_Fin pr_.tables en_ below st_ (Q_app Z sb a b k m ws_ bb kb vs ct cs h0 n0) ({ frames := 3, cells := 0, slots := 0, locals := 69 } : Room).cells ({ frames := 3, cells := 0, slots := 0, locals := 69 } : Room).slots (s₁.setTop (entryFrame me_ #[(.ref sb), (.ref a)] 3))
  refine gb _ (gv (fun tQ kQ => castTop (ef_5 me_ sb a) kQ) ?_)
  show G (s₁.setTop (mkF me_ 0 #[.val (.ref sb), .val (.ref a), .unset] []))
  refine gv (fun tQ kQ => XS.aloadN X0.here hx rfl (hb hby d15_0) rfl rfl kQ) ?_
  show G (s₁.setTop (mkF me_ 1 #[.val (.ref sb), .val (.ref a), .unset] [(.ref a)]))
  refine gv (fun tQ kQ => XS.ifnonnullYes X0.here hx rfl (pc0 := 1) (pc' := 9) rfl (hb hby d15_1) rfl (by decide) (by decide) kQ) ?_
  show G (s₁.setTop (mkF me_ 9 #[.val (.ref sb), .val (.ref a), .unset] []))
  refine gv (fun tQ kQ => XS.aloadN X0.here hx rfl (hb hby d15_9) rfl rfl kQ) ?_
  show G (s₁.setTop (mkF me_ 10 #[.val (.ref sb), .val (.ref a), .unset] [(.ref a)]))
  obtain ⟨cq43, kq43, q43a, q43b, q43c⟩ := isOf hZ e0 u6
  obtain ⟨_, _, ⟨T43, L43, k43, n43⟩, -, X43, ⟨Lc43, hQ43, l43, y43, z43⟩, st43⟩ := X0.virtualBack hx (y := (⟨"java/lang/String", "length", "()I"⟩ : MethodName)) (z := (⟨"java/lang/String", "length", "()I"⟩ : MethodName)) hown (mvT hZ (hw _ (List.mem_of_getElem? (i := 92) rfl))) (mvT hZ (hw _ (List.mem_of_getElem? (i := 93) rfl))) (notFace_of_selects (args := #[]) (mvT hZ (hw _ (List.mem_of_getElem? (i := 95) rfl)))) (mvT hZ (hw _ (List.mem_of_getElem? (i := 95) rfl))) (mvT hZ (hw _ (List.mem_of_getElem? (i := 94) rfl))) (by decide) (backOf (W := 0) (rm_len l Z a0 hw [] a b k m ws_ cs h0 n0 O0 u0 u1 u6 u7 u8 u9) hZ (hw _ (List.mem_of_getElem? (i := 96) rfl)) (hw _ (List.mem_of_getElem? (i := 3) rfl)) (by decide) (by decide)) q43a q43c (g := (mkF me_ 10 #[.val (.ref sb), .val (.ref a), .unset] [(.ref a)])) rfl (by rw [hml]; rfl) (Steps.refl _) (argsL := []) (rest := []) (lenOf pd_3 rfl) rfl (by show 2 * 0 + _ ≤ _; exact Nat.le_of_eq rfl) (hb hby d15_10) (fun _ _ => ⟨rfl, e0, (by decide : 0 + 0 ≤ _), (by decide : 0 + 0 ≤ _)⟩)
  dsimp only [Pt.U, Pt.locs, Pt.cells, Pt.slots] at X43 l43 y43 z43 st43 hQ43
  subst l43 y43 z43
  obtain ⟨rfl, Nq43, eq43⟩ := hQ43
  have N44 := Fr.app N0 Nq43
  refine gv (fun tQ kQ => st43.trans kQ) ?_
  show G (T43.setTop (mkF me_ 13 #[.val (.ref sb), .val (.ref a), .unset] [(.int m)]))
  refine gv (fun tQ kQ => XS.istoreN X43.here hx rfl (hb hby d15_13) rfl (l' := #[.val (.ref sb), .val (.ref a), .val (.int m)]) rfl kQ) ?_
  show G (T43.setTop (mkF me_ 14 #[.val (.ref sb), .val (.ref a), .val (.int m)] []))
  refine gv (fun tQ kQ => XS.aloadN X43.here hx rfl (hb hby d15_14) rfl rfl kQ) ?_
  show G (T43.setTop (mkF me_ 15 #[.val (.ref sb), .val (.ref a), .val (.int m)] [(.ref sb)]))
  refine gv (fun tQ kQ => XS.aloadN X43.here hx rfl (hb hby d15_15) rfl rfl kQ) ?_
  show G (T43.setTop (mkF me_ 16 #[.val (.ref sb), .val (.ref a), .val (.int m)] [(.ref sb), (.ref sb)]))
  obtain ⟨T45, X45, e45, st45⟩ := getF X43 hx hZ hown (host := "") (Or.inl (hw _ (List.mem_of_getElem? (i := 102) rfl))) Via.refl eq43 u5 (g := (mkF me_ 16 #[.val (.ref sb), .val (.ref a), .val (.int m)] [(.ref sb), (.ref sb)])) rfl rfl (hb hby d15_16)
  refine gv st45 ?_
  show G (T45.setTop (mkF me_ 19 #[.val (.ref sb), .val (.ref a), .val (.int m)] [(.int ct), (.ref sb)]))
  refine gv (fun tQ kQ => XS.iloadN X45.here hx rfl (hb hby d15_19) rfl kQ) ?_
  show G (T45.setTop (mkF me_ 20 #[.val (.ref sb), .val (.ref a), .val (.int m)] [(.int m), (.int ct), (.ref sb)]))
  refine gv (fun tQ kQ => XS.iadd X45.here hx rfl (hb hby d15_20) rfl kQ) ?_
  show G (T45.setTop (mkF me_ 21 #[.val (.ref sb), .val (.ref a), .val (.int m)] [(.int (ct + m)), (.ref sb)]))
  obtain ⟨cq46, q46, q46'⟩ := u2.cell
  obtain ⟨_, _, ⟨T46, L46, k46, n46⟩, -, X46, ⟨Lc46, hQ46, l46, y46, z46⟩, st46⟩ := X45.privateBack hx (y := (⟨"java/lang/AbstractStringBuilder", "ensureCapacityInternal", "(I)V"⟩ : MethodName)) hown (mvT hZ (hw _ (List.mem_of_getElem? (i := 104) rfl))) (mvT hZ (hw _ (List.mem_of_getElem? (i := 105) rfl))) (mvT hZ (own_selp (by decide) (hw _ (List.mem_of_getElem? (i := 107) rfl)) (Cond.privateMethod_at (hw _ (List.mem_of_getElem? (i := 106) rfl))) (hw _ (List.mem_of_getElem? (i := 105) rfl)))) (Cond.privateMethod_at (mvP hZ (hw _ (List.mem_of_getElem? (i := 106) rfl)) (args := #[]))) (mvT hZ (hw _ (List.mem_of_getElem? (i := 108) rfl))) (by decide) (backOf (W := 0) (rm_ens l Z a0 hw [] sb (ct + m) bb kb vs h0 n0 O0 u2 u3 u4 u10 u15) hZ (hw _ (List.mem_of_getElem? (i := 108) rfl)) (hw _ (List.mem_of_getElem? (i := 74) rfl)) (by decide) (by decide)) (g := (mkF me_ 21 #[.val (.ref sb), .val (.ref a), .val (.int m)] [(.int (ct + m)), (.ref sb)])) rfl (by rw [hml]; rfl) (Steps.refl _) (a := sb) (by rw [e45]; exact q46) q46' (argsL := [(.int (ct + m))]) (rest := []) (lenOf pd_4 rfl) rfl (by show 2 * 0 + _ ≤ _; exact Nat.le_of_eq rfl) (hb hby d15_21) (fun _ _ => ⟨rfl, e45, (by decide : 0 + 0 ≤ _), (by decide : 0 + 0 ≤ _)⟩)
  dsimp only [Pt.U, Pt.locs, Pt.cells, Pt.slots] at X46 l46 y46 z46 st46 hQ46
  subst l46 y46 z46
  obtain ⟨rfl, Nq46, eq46⟩ := hQ46
  have N47 := Fr.app N44 Nq46
  refine gv (fun tQ kQ => st46.trans kQ) ?_
  show G (T46.setTop (mkF me_ 24 #[.val (.ref sb), .val (.ref a), .val (.int m)] []))
  refine gv (fun tQ kQ => XS.aloadN X46.here hx rfl (hb hby d15_24) rfl rfl kQ) ?_
  show G (T46.setTop (mkF me_ 25 #[.val (.ref sb), .val (.ref a), .val (.int m)] [(.ref sb)]))
  refine gv (fun tQ kQ => XS.aloadN X46.here hx rfl (hb hby d15_25) rfl rfl kQ) ?_
  show G (T46.setTop (mkF me_ 26 #[.val (.ref sb), .val (.ref a), .val (.int m)] [(.ref sb), (.ref sb)]))
  obtain ⟨T48, X48, e48, st48⟩ := getF X46 hx hZ hown (host := "") (Or.inl (hw _ (List.mem_of_getElem? (i := 102) rfl))) Via.refl eq46 u5 (g := (mkF me_ 26 #[.val (.ref sb), .val (.ref a), .val (.int m)] [(.ref sb), (.ref sb)])) rfl rfl (hb hby d15_26)
  refine gv st48 ?_
  show G (T48.setTop (mkF me_ 29 #[.val (.ref sb), .val (.ref a), .val (.int m)] [(.int ct), (.ref sb)]))
  refine gv (fun tQ kQ => XS.aloadN X48.here hx rfl (hb hby d15_29) rfl rfl kQ) ?_
  show G (T48.setTop (mkF me_ 30 #[.val (.ref sb), .val (.ref a), .val (.int m)] [(.ref a), (.int ct), (.ref sb)]))
  obtain ⟨cq49, q49, q49'⟩ := u2.cell
  obtain ⟨_, _, ⟨T49, L49, k49, n49⟩, -, X49, ⟨Lc49, hQ49, l49, y49, z49⟩, st49⟩ := X48.privateBack hx (y := (⟨"java/lang/AbstractStringBuilder", "putStringAt", "(ILjava/lang/String;)V"⟩ : MethodName)) hown (mvT hZ (hw _ (List.mem_of_getElem? (i := 109) rfl))) (mvT hZ (hw _ (List.mem_of_getElem? (i := 110) rfl))) (mvT hZ (own_selp (by decide) (hw _ (List.mem_of_getElem? (i := 112) rfl)) (Cond.privateMethod_at (hw _ (List.mem_of_getElem? (i := 111) rfl))) (hw _ (List.mem_of_getElem? (i := 110) rfl)))) (Cond.privateMethod_at (mvP hZ (hw _ (List.mem_of_getElem? (i := 111) rfl)) (args := #[]))) (mvT hZ (hw _ (List.mem_of_getElem? (i := 113) rfl))) (by decide) (backOf (W := 0) (rm_psa l Z a0 hw [] sb a b k m ws_ bb kb vs ct cs h0 n0 O0 u0 u1 u2 u3 u4 u6 u7 u8 u9 u10 u12 u13 u14) hZ (hw _ (List.mem_of_getElem? (i := 113) rfl)) (hw _ (List.mem_of_getElem? (i := 74) rfl)) (by decide) (by decide)) (g := (mkF me_ 30 #[.val (.ref sb), .val (.ref a), .val (.int m)] [(.ref a), (.int ct), (.ref sb)])) rfl (by rw [hml]; rfl) (Steps.refl _) (a := sb) (by rw [e48]; exact q49) q49' (argsL := [(.int ct), (.ref a)]) (rest := []) (lenOf pd_5 rfl) rfl (by show 2 * 0 + _ ≤ _; exact Nat.le_of_eq rfl) (hb hby d15_30) (fun _ _ => ⟨rfl, e48, (by decide : 0 + 0 ≤ _), (by decide : 0 + 0 ≤ _)⟩)
  dsimp only [Pt.U, Pt.locs, Pt.cells, Pt.slots] at X49 l49 y49 z49 st49 hQ49
  subst l49 y49 z49
  obtain ⟨rfl, Nq49, Kq49, w49_0⟩ := hQ49
  have N50 := Fr.app N47 Nq49
  obtain ⟨h49, e49⟩ : ∃ z, T49.heap = z := ⟨_, rfl⟩
  rw [e49] at Kq49 w49_0
  have f51 : Exa Z h49 sb "java/lang/StringBuilder" := u2.keep Kq49
  have f52 : Fld Z h49 sb "java/lang/AbstractStringBuilder" "value" "[B" (.ref bb) := u3.keep Kq49 (ninS (own_ne_arv u2 (hw _ (List.mem_of_getElem? (i := 65) rfl)) u10) nin0)
  have f53 : Fld Z h49 sb "java/lang/AbstractStringBuilder" "coder" "B" (.int (0 : Int32)) := u4.keep Kq49 (ninS (own_ne_arv u2 (hw _ (List.mem_of_getElem? (i := 65) rfl)) u10) nin0)
  have f54 : Fld Z h49 sb "java/lang/AbstractStringBuilder" "count" "I" (.int ct) := u5.keep Kq49 (ninS (own_ne_arv u2 (hw _ (List.mem_of_getElem? (i := 65) rfl)) u10) nin0)
  have f55 : Exa Z h49 a "java/lang/String" := u6.keep Kq49
  have f56 : Fld Z h49 a "java/lang/String" "coder" "B" (.int (0 : Int32)) := u7.keep Kq49 (ninS (own_ne_arv u6 (hw _ (List.mem_of_getElem? (i := 2) rfl)) u10) nin0)
  have f57 : Fld Z h49 a "java/lang/String" "value" "[B" (.ref b) := u8.keep Kq49 (ninS (own_ne_arv u6 (hw _ (List.mem_of_getElem? (i := 2) rfl)) u10) nin0)
  have f58 : Arv Z h49 b k .byte m ws_ (.int (0 : Int32)) := u9.keep Kq49 (ninS u13 nin0)
  have O59 := O0.keep Kq49 (allS u12 all0)
  have K60 := K0.trans Kq49 (allS (Or.inl (List.mem_of_getElem? (i := 1) rfl)) all0)
  refine gv (fun tQ kQ => st49.trans kQ) ?_
  show G (T49.setTop (mkF me_ 33 #[.val (.ref sb), .val (.ref a), .val (.int m)] []))
  refine gv (fun tQ kQ => XS.aloadN X49.here hx rfl (hb hby d15_33) rfl rfl kQ) ?_
  show G (T49.setTop (mkF me_ 34 #[.val (.ref sb), .val (.ref a), .val (.int m)] [(.ref sb)]))
  refine gv (fun tQ kQ => XS.dup X49.here hx rfl (hb hby d15_34) rfl rfl kQ) ?_
  show G (T49.setTop (mkF me_ 35 #[.val (.ref sb), .val (.ref a), .val (.int m)] [(.ref sb), (.ref sb)]))
  obtain ⟨T61, X61, e61, st61⟩ := getF X49 hx hZ hown (host := "") (Or.inl (hw _ (List.mem_of_getElem? (i := 102) rfl))) Via.refl e49 f54 (g := (mkF me_ 35 #[.val (.ref sb), .val (.ref a), .val (.int m)] [(.ref sb), (.ref sb)])) rfl rfl (hb hby d15_35)
  refine gv st61 ?_
  show G (T61.setTop (mkF me_ 38 #[.val (.ref sb), .val (.ref a), .val (.int m)] [(.int ct), (.ref sb)]))
  refine gv (fun tQ kQ => XS.iloadN X61.here hx rfl (hb hby d15_38) rfl kQ) ?_
  show G (T61.setTop (mkF me_ 39 #[.val (.ref sb), .val (.ref a), .val (.int m)] [(.int m), (.int ct), (.ref sb)]))
  refine gv (fun tQ kQ => XS.iadd X61.here hx rfl (hb hby d15_39) rfl kQ) ?_
  show G (T61.setTop (mkF me_ 40 #[.val (.ref sb), .val (.ref a), .val (.int m)] [(.int (ct + m)), (.ref sb)]))
  obtain ⟨T62, h62, X62, e62, W62, st62⟩ := putF X61 hx hZ hown (host := "") (Or.inl (hw _ (List.mem_of_getElem? (i := 102) rfl))) Via.refl e61 f54 f51 (Or.inl (hw _ (List.mem_of_getElem? (i := 103) rfl))) (hw _ (List.mem_of_getElem? (i := 65) rfl)) (ty := .int) (by decide) rfl rfl (g := (mkF me_ 40 #[.val (.ref sb), .val (.ref a), .val (.int m)] [(.int (ct + m)), (.ref sb)])) rfl rfl (hb hby d15_40)
  refine gv st62 ?_
  have f64 : Exa Z h62 sb "java/lang/StringBuilder" := f51.wr W62
  have f65 : Fld Z h62 sb "java/lang/AbstractStringBuilder" "value" "[B" (.ref bb) := f52.other W62 (Or.inr (slot_ne (Or.inl (hw _ (List.mem_of_getElem? (i := 79) rfl))) (Or.inl (hw _ (List.mem_of_getElem? (i := 103) rfl))) (by decide) (t := (.array .byte)) (t' := .int) (by decide) (by decide)))
  have f66 : Fld Z h62 sb "java/lang/AbstractStringBuilder" "coder" "B" (.int (0 : Int32)) := f53.other W62 (Or.inr (slot_ne (Or.inl (hw _ (List.mem_of_getElem? (i := 81) rfl))) (Or.inl (hw _ (List.mem_of_getElem? (i := 103) rfl))) (by decide) (t := .byte) (t' := .int) (by decide) (by decide)))
  have f67 : Exa Z h62 a "java/lang/String" := f55.wr W62
  have f68 : Fld Z h62 a "java/lang/String" "coder" "B" (.int (0 : Int32)) := f56.other W62 (Or.inl (ne_exa f55 f51 (by decide)))
  have f69 : Fld Z h62 a "java/lang/String" "value" "[B" (.ref b) := f57.other W62 (Or.inl (ne_exa f55 f51 (by decide)))
  have f70 : Arv Z h62 b k .byte m ws_ (.int (0 : Int32)) := f58.other W62 (Ne.symm (own_ne_arv f51 (hw _ (List.mem_of_getElem? (i := 65) rfl)) f58))
  have f71 : Arv Z h62 bb kb .byte (16 : Int32) (own_put vs ct ws_ m) (.int (0 : Int32)) := w49_0.other W62 (Ne.symm (own_ne_arv f51 (hw _ (List.mem_of_getElem? (i := 65) rfl)) w49_0))
  have O72 := O59.wr W62 u11
  have K73 := K60.wr W62 (Or.inl (List.mem_of_getElem? (i := 0) rfl))
  have N74 := Fr.snoc X62 N50 u11
  have f63 : Fld Z h62 sb "java/lang/AbstractStringBuilder" "count" "I" (.int (ct + m)) := f54.same W62
  show G (T62.setTop (mkF me_ 43 #[.val (.ref sb), .val (.ref a), .val (.int m)] []))
  refine gv (fun tQ kQ => XS.aloadN X62.here hx rfl (hb hby d15_43) rfl rfl kQ) ?_
  show G (T62.setTop (mkF me_ 44 #[.val (.ref sb), .val (.ref a), .val (.int m)] [(.ref sb)]))
  refine gf _ (own_ret X62 Bd.notSynchronized (v := some (.ref sb)) (fun h => by rw [Bd.returns] at h; cases h) ?_ (by decide) (by decide) (fun fs hr => retOut X62 hx (t := (.object "java/lang/AbstractStringBuilder")) Bd.returns rfl (Or.inr (Or.inr (Or.inr (Or.inr ⟨rfl, rfl, rfl⟩)))) (hb hby d15_44) hr))
  show Q_app Z sb a b k m ws_ bb kb vs ct cs h0 n0 _ T62.heap _
  rw [e62]
  exact ⟨rfl, N74, K73, f64, f65, f66, f63, f71⟩
theorem pn_2 : plainName "java/lang/StringBuilder" = true := by first | (simp [plainName, overriddenIn]; done) | decide +kernel
theorem d14_0 : decode jdk_67_method_7_code 0 = .ok (.aload_n 0, 1) := by decide +kernel
theorem d14_1 : decode jdk_67_method_7_code 1 = .ok (.aload_n 1, 1) := by decide +kernel
theorem d14_2 : decode jdk_67_method_7_code 2 = .ok (.invokespecial 29, 3) := by decide +kernel
theorem pd_6 : parseMethodDescriptor "(Ljava/lang/String;)Ljava/lang/AbstractStringBuilder;" = some ⟨[(.object "java/lang/String")], some (.object "java/lang/AbstractStringBuilder")⟩ := by decide +kernel
theorem d14_5 : decode jdk_67_method_7_code 5 = .ok (.pop, 1) := by decide +kernel
theorem d14_6 : decode jdk_67_method_7_code 6 = .ok (.aload_n 0, 1) := by decide +kernel
theorem d14_7 : decode jdk_67_method_7_code 7 = .ok (.areturn, 1) := by decide +kernel
def Q_sbapp (Z : State) (sb : Addr) (a : Addr) (b : Addr) (k : ClassId) (m : Int32) (ws_ : List Value) (bb : Addr) (kb : ClassId) (vs : List Value) (ct : Int32) (cs : Int32) (h0 : Heap) (n0 : Nat) (v : Option Value) (h : Heap) (L : List Loc) : Prop := v = some (.ref sb) ∧ Fr n0 L ∧ Keep h0 h [sb, bb] ∧ (Exa Z h sb "java/lang/StringBuilder") ∧ (Fld Z h sb "java/lang/AbstractStringBuilder" "value" "[B" (.ref bb)) ∧ (Fld Z h sb "java/lang/AbstractStringBuilder" "coder" "B" (.int (0 : Int32))) ∧ (Fld Z h sb "java/lang/AbstractStringBuilder" "count" "I" (.int (ct + m))) ∧ (Arv Z h bb kb .byte (16 : Int32) (own_put vs ct ws_ m) (.int (0 : Int32)))
set_option maxRecDepth 65536 in
set_option maxHeartbeats 40000000 in
theorem rm_sbapp (l : Launch) (Z : State) (a0 : Array Value) (hw : ∀ d ∈ tables_1, d.before a0 Z = true) (ws : List Jvm.Cond) (sb : Addr) (a : Addr) (b : Addr) (k : ClassId) (m : Int32) (ws_ : List Value) (bb : Addr) (kb : ClassId) (vs : List Value) (ct : Int32) (cs : Int32) (h0 : Heap) (n0 : Nat) (O0 : Old Z n0 h0) (u0 : Sta Z Z.heap "java/lang/String" "COMPACT_STRINGS" "Z" (.int cs)) (u1 : ¬ (cs = (0 : Int32))) (u2 : Exa Z h0 sb "java/lang/StringBuilder") (u3 : Fld Z h0 sb "java/lang/AbstractStringBuilder" "value" "[B" (.ref bb)) (u4 : Fld Z h0 sb "java/lang/AbstractStringBuilder" "coder" "B" (.int (0 : Int32))) (u5 : Fld Z h0 sb "java/lang/AbstractStringBuilder" "count" "I" (.int ct)) (u6 : Exa Z h0 a "java/lang/String") (u7 : Fld Z h0 a "java/lang/String" "coder" "B" (.int (0 : Int32))) (u8 : Fld Z h0 a "java/lang/String" "value" "[B" (.ref b)) (u9 : Arv Z h0 b k .byte m ws_ (.int (0 : Int32))) (u10 : Arv Z h0 bb kb .byte (16 : Int32) vs (.int (0 : Int32))) (u11 : n0 ≤ sb) (u12 : n0 ≤ bb) (u13 : b ≠ bb) (u14 : (own_ok ct m vs)) (u15 : ¬ ((0 : Int32) < ((ct + m) - (16 : Int32)))) :
    MetFree l (⟨"java/lang/StringBuilder", "append", "(Ljava/lang/String;)Ljava/lang/StringBuilder;"⟩ : MethodName) (head1 (Jvm.Cond.code (⟨"java/lang/StringBuilder", "append", "(Ljava/lang/String;)Ljava/lang/StringBuilder;"⟩ : MethodName) jdk_67_method_7_code 2 (some (.object "java/lang/StringBuilder")) :: ws) ({ frames := 4, cells := 0, slots := 0, locals := 83 } : Room)) (fun aV U => aV = #[(.ref sb), (.ref a)] ∧ Z.Warmed39 U.vm ∧ U.heap = h0) (fun _ _ _ _ _ => True) (fun _ U o U' => ∃ v L, o = .returned v ∧ Q_sbapp Z sb a b k m ws_ bb kb vs ct cs h0 n0 v U'.heap L ∧ FrameEnd U o U' L ({ frames := 4, cells := 0, slots := 0, locals := 83 } : Room).cells ({ frames := 4, cells := 0, slots := 0, locals := 83 } : Room).slots) := by
  refine MetFree.of_bodySF (plainFor_of_name pn_2) hisR ?_
  intro pr_ en_ st_ me_ args below meth_ co_ s₁ Bd hml0 hP hK
  obtain ⟨rfl, hZ, hh⟩ := hP
  have hx := Bd.exec
  have hby := Bd.bytes
  have hml : co_.maxLocals = 2 := hml0
  have hown : st_.vm.findClass "java/lang/StringBuilder" = some me_.cls := findClass_of_methodNamed Bd.named
  have hnm := (name_of_methodNamed Bd.named Bd.method).1
  have X0 : Stand pr_ l en_ ({ frames := 4, cells := 0, slots := 0, locals := 83 } : Room) st_ me_ #[(.ref sb), (.ref a)] below meth_ co_ s₁ [] 0 0 := Stand.of_body Bd
  have e0 : s₁.heap = h0 := by rw [← hh, Bd.state]; rfl
  have N0 := Fr.nil n0
  have K0 := Keep.refl h0 [sb, bb]
  obtain ⟨G, gv, gf, gb⟩ := own_G pr_.tables en_ below st_ (Q_sbapp Z sb a b k m ws_ bb kb vs ct cs h0 n0) ({ frames := 4, cells := 0, slots := 0, locals := 83 } : Room).cells ({ frames := 4, cells := 0, slots := 0, locals := 83 } : Room).slots
  show own_Fin pr_.tables en_ below st_ (Q_sbapp Z sb a b k m ws_ bb kb vs ct cs h0 n0) ({ frames := 4, cells := 0, slots := 0, locals := 83 } : Room).cells ({ frames := 4, cells := 0, slots := 0, locals := 83 } : Room).slots (s₁.setTop (entryFrame me_ #[(.ref sb), (.ref a)] 2))
  refine gb _ (gv (fun tQ kQ => castTop (ef_2 me_ sb a) kQ) ?_)
  show G (s₁.setTop (mkF me_ 0 #[.val (.ref sb), .val (.ref a)] []))
  refine gv (fun tQ kQ => XS.aloadN X0.here hx rfl (hb hby d14_0) rfl rfl kQ) ?_
  show G (s₁.setTop (mkF me_ 1 #[.val (.ref sb), .val (.ref a)] [(.ref sb)]))
  refine gv (fun tQ kQ => XS.aloadN X0.here hx rfl (hb hby d14_1) rfl rfl kQ) ?_
  show G (s₁.setTop (mkF me_ 2 #[.val (.ref sb), .val (.ref a)] [(.ref a), (.ref sb)]))
  obtain ⟨_, _, ⟨T75, L75, k75, n75⟩, -, X75, ⟨Lc75, hQ75, l75, y75, z75⟩, st75⟩ := superBack X0 hx hZ (y := (⟨"java/lang/AbstractStringBuilder", "append", "(Ljava/lang/String;)Ljava/lang/AbstractStringBuilder;"⟩ : MethodName)) hown (hw _ (List.mem_of_getElem? (i := 87) rfl)) (own_same (y := (⟨"java/lang/AbstractStringBuilder", "append", "(Ljava/lang/String;)Ljava/lang/AbstractStringBuilder;"⟩ : MethodName)) (by decide) (hw _ (List.mem_of_getElem? (i := 88) rfl)) (hw _ (List.mem_of_getElem? (i := 107) rfl)) rfl) (hw _ (List.mem_of_getElem? (i := 88) rfl)) (hw _ (List.mem_of_getElem? (i := 89) rfl)) (by decide) (backOf (W := 0) (rm_app l Z a0 hw [] sb a b k m ws_ bb kb vs ct cs h0 n0 O0 u0 u1 u2 u3 u4 u5 u6 u7 u8 u9 u10 u11 u12 u13 u14 u15) hZ (hw _ (List.mem_of_getElem? (i := 91) rfl)) (hw _ (List.mem_of_getElem? (i := 74) rfl)) (by decide) (by decide)) e0 (Ins.self u2) (g := (mkF me_ 2 #[.val (.ref sb), .val (.ref a)] [(.ref a), (.ref sb)])) rfl (by rw [hml]; rfl) (hw _ (List.mem_of_getElem? (i := 91) rfl)) (argsL := [(.ref a)]) (rest := []) (lenOf pd_6 rfl) rfl (by show 2 * 0 + _ ≤ _; exact Nat.le_of_eq rfl) (hb hby d14_2) (fun _ _ => ⟨rfl, e0, (by decide : 0 + 0 ≤ _), (by decide : 0 + 0 ≤ _)⟩)
  dsimp only [Pt.U, Pt.locs, Pt.cells, Pt.slots] at X75 l75 y75 z75 st75 hQ75
  subst l75 y75 z75
  obtain ⟨rfl, Nq75, Kq75, w75_0, w75_1, w75_2, w75_3, w75_4⟩ := hQ75
  have N76 := Fr.app N0 Nq75
  obtain ⟨h75, e75⟩ : ∃ z, T75.heap = z := ⟨_, rfl⟩
  rw [e75] at Kq75 w75_0 w75_1 w75_2 w75_3 w75_4
  have f77 : Exa Z h75 sb "java/lang/StringBuilder" := u2.keep Kq75
  have f78 : Exa Z h75 a "java/lang/String" := u6.keep Kq75
  have f79 : Fld Z h75 a "java/lang/String" "coder" "B" (.int (0 : Int32)) := u7.keep Kq75 (ninS (ne_exa u6 u2 (by decide)) (ninS (own_ne_arv u6 (hw _ (List.mem_of_getElem? (i := 2) rfl)) u10) nin0))
  have f80 : Fld Z h75 a "java/lang/String" "value" "[B" (.ref b) := u8.keep Kq75 (ninS (ne_exa u6 u2 (by decide)) (ninS (own_ne_arv u6 (hw _ (List.mem_of_getElem? (i := 2) rfl)) u10) nin0))
  have f81 : Arv Z h75 b k .byte m ws_ (.int (0 : Int32)) := u9.keep Kq75 (ninS (Ne.symm (own_ne_arv u2 (hw _ (List.mem_of_getElem? (i := 65) rfl)) u9)) (ninS u13 nin0))
  have O82 := O0.keep Kq75 (allS u11 (allS u12 all0))
  have K83 := K0.trans Kq75 (allS (Or.inl (List.mem_of_getElem? (i := 0) rfl)) (allS (Or.inl (List.mem_of_getElem? (i := 1) rfl)) all0))
  refine gv (fun tQ kQ => st75.trans kQ) ?_
  show G (T75.setTop (mkF me_ 5 #[.val (.ref sb), .val (.ref a)] [(.ref sb)]))
  refine gv (fun tQ kQ => XS.pop X75.here hx rfl (hb hby d14_5) rfl rfl kQ) ?_
  show G (T75.setTop (mkF me_ 6 #[.val (.ref sb), .val (.ref a)] []))
  refine gv (fun tQ kQ => XS.aloadN X75.here hx rfl (hb hby d14_6) rfl rfl kQ) ?_
  show G (T75.setTop (mkF me_ 7 #[.val (.ref sb), .val (.ref a)] [(.ref sb)]))
  refine gf _ (own_ret X75 Bd.notSynchronized (v := some (.ref sb)) (fun h => by rw [Bd.returns] at h; cases h) ?_ (by decide) (by decide) (fun fs hr => retOut X75 hx (t := (.object "java/lang/StringBuilder")) Bd.returns rfl (Or.inr (Or.inr (Or.inr (Or.inr ⟨rfl, rfl, rfl⟩)))) (hb hby d14_7) hr))
  show Q_sbapp Z sb a b k m ws_ bb kb vs ct cs h0 n0 _ T75.heap _
  rw [e75]
  exact ⟨rfl, N76, K83, w75_0, w75_1, w75_2, w75_3, w75_4⟩
theorem ef_6 (m : MethodId) (x0 : Addr) (x1 : Int32)  : entryFrame m #[(.ref x0), (.int x1)] 2 = mkF m 0 #[.val (.ref x0), .val (.int x1)] [] := by first | (simp [entryFrame, mkF, argsToLocals, Value.category]; done) | rfl
theorem d13_0 : decode jdk_68_method_2_code 0 = .ok (.aload_n 0, 1) := by decide +kernel
theorem d13_1 : decode jdk_68_method_2_code 1 = .ok (.invokespecial 3, 3) := by decide +kernel
theorem d13_4 : decode jdk_68_method_2_code 4 = .ok (.getstatic 18, 3) := by decide +kernel
theorem d13_7 : decode jdk_68_method_2_code 7 = .ok (.ifCond .eq 18, 3) := by decide +kernel
theorem d13_10 : decode jdk_68_method_2_code 10 = .ok (.aload_n 0, 1) := by decide +kernel
theorem d13_11 : decode jdk_68_method_2_code 11 = .ok (.iload_n 1, 1) := by decide +kernel
theorem d13_12 : decode jdk_68_method_2_code 12 = .ok (.newarray .byte, 2) := by decide +kernel
theorem d13_14 : decode jdk_68_method_2_code 14 = .ok (.putfield 15, 3) := by decide +kernel
theorem d13_17 : decode jdk_68_method_2_code 17 = .ok (.aload_n 0, 1) := by decide +kernel
theorem d13_18 : decode jdk_68_method_2_code 18 = .ok (.iconst 0, 1) := by decide +kernel
theorem d13_19 : decode jdk_68_method_2_code 19 = .ok (.putfield 22, 3) := by decide +kernel
theorem d13_22 : decode jdk_68_method_2_code 22 = .ok (.goto 16, 3) := by decide +kernel
theorem d13_38 : decode jdk_68_method_2_code 38 = .ok (.return_, 1) := by decide +kernel
def Q_asbi (Z : State) (sb : Addr) (cs : Int32) (h0 : Heap) (n0 : Nat) (v : Option Value) (h : Heap) (L : List Loc) : Prop := ∃ (bb : Addr), ∃ (kb : ClassId), v = none ∧ Fr n0 L ∧ Keep h0 h [sb] ∧ h0.size ≤ bb ∧ (Exa Z h sb "java/lang/StringBuilder") ∧ (Fld Z h sb "java/lang/AbstractStringBuilder" "value" "[B" (.ref bb)) ∧ (Fld Z h sb "java/lang/AbstractStringBuilder" "coder" "B" (.int (0 : Int32))) ∧ (Fld Z h sb "java/lang/AbstractStringBuilder" "count" "I" (.int (0 : Int32))) ∧ (Arv Z h bb kb .byte (16 : Int32) [(.int (0 : Int32)), (.int (0 : Int32)), (.int (0 : Int32)), (.int (0 : Int32)), (.int (0 : Int32)), (.int (0 : Int32)), (.int (0 : Int32)), (.int (0 : Int32)), (.int (0 : Int32)), (.int (0 : Int32)), (.int (0 : Int32)), (.int (0 : Int32)), (.int (0 : Int32)), (.int (0 : Int32)), (.int (0 : Int32)), (.int (0 : Int32))] (.int (0 : Int32)))
set_option maxRecDepth 65536 in
set_option maxHeartbeats 40000000 in
theorem rm_asbi (l : Launch) (Z : State) (a0 : Array Value) (hw : ∀ d ∈ tables_1, d.before a0 Z = true) (ws : List Jvm.Cond) (sb : Addr) (cs : Int32) (h0 : Heap) (n0 : Nat) (O0 : Old Z n0 h0) (u0 : Sta Z Z.heap "java/lang/String" "COMPACT_STRINGS" "Z" (.int cs)) (u1 : ¬ (cs = (0 : Int32))) (u2 : Exa Z h0 sb "java/lang/StringBuilder") (u3 : Fld Z h0 sb "java/lang/AbstractStringBuilder" "value" "[B" .null) (u4 : Fld Z h0 sb "java/lang/AbstractStringBuilder" "coder" "B" (.int (0 : Int32))) (u5 : Fld Z h0 sb "java/lang/AbstractStringBuilder" "count" "I" (.int (0 : Int32))) (u6 : n0 ≤ sb) :
    MetFree l (⟨"java/lang/AbstractStringBuilder", "<init>", "(I)V"⟩ : MethodName) (head1 (Jvm.Cond.code (⟨"java/lang/AbstractStringBuilder", "<init>", "(I)V"⟩ : MethodName) jdk_68_method_2_code 2 none :: ws) ({ frames := 1, cells := 1, slots := 16, locals := 12 } : Room)) (fun aV U => aV = #[(.ref sb), (.int (16 : Int32))] ∧ Z.Warmed39 U.vm ∧ U.heap = h0) (fun _ _ _ _ _ => True) (fun _ U o U' => ∃ v L, o = .returned v ∧ Q_asbi Z sb cs h0 n0 v U'.heap L ∧ FrameEnd U o U' L ({ frames := 1, cells := 1, slots := 16, locals := 12 } : Room).cells ({ frames := 1, cells := 1, slots := 16, locals := 12 } : Room).slots) := by
  refine MetFree.of_bodySF (plainFor_of_name pn_1) hisR ?_
  intro pr_ en_ st_ me_ args below meth_ co_ s₁ Bd hml0 hP hK
  obtain ⟨rfl, hZ, hh⟩ := hP
  have hx := Bd.exec
  have hby := Bd.bytes
  have hml : co_.maxLocals = 2 := hml0
  have hown : st_.vm.findClass "java/lang/AbstractStringBuilder" = some me_.cls := findClass_of_methodNamed Bd.named
  have hnm := (name_of_methodNamed Bd.named Bd.method).1
  have X0 : Stand pr_ l en_ ({ frames := 1, cells := 1, slots := 16, locals := 12 } : Room) st_ me_ #[(.ref sb), (.int (16 : Int32))] below meth_ co_ s₁ [] 0 0 := Stand.of_body Bd
  have e0 : s₁.heap = h0 := by rw [← hh, Bd.state]; rfl
  have N0 := Fr.nil n0
  have K0 := Keep.refl h0 [sb]
  obtain ⟨G, gv, gf, gb⟩ := own_G pr_.tables en_ below st_ (Q_asbi Z sb cs h0 n0) ({ frames := 1, cells := 1, slots := 16, locals := 12 } : Room).cells ({ frames := 1, cells := 1, slots := 16, locals := 12 } : Room).slots
  show own_Fin pr_.tables en_ below st_ (Q_asbi Z sb cs h0 n0) ({ frames := 1, cells := 1, slots := 16, locals := 12 } : Room).cells ({ frames := 1, cells := 1, slots := 16, locals := 12 } : Room).slots (s₁.setTop (entryFrame me_ #[(.ref sb), (.int (16 : Int32))] 2))
  refine gb _ (gv (fun tQ kQ => castTop (ef_6 me_ sb (16 : Int32)) kQ) ?_)
  show G (s₁.setTop (mkF me_ 0 #[.val (.ref sb), .val (.int (16 : Int32))] []))
  refine gv (fun tQ kQ => XS.aloadN X0.here hx rfl (hb hby d13_0) rfl rfl kQ) ?_
  show G (s₁.setTop (mkF me_ 1 #[.val (.ref sb), .val (.int (16 : Int32))] [(.ref sb)]))
  obtain ⟨T84, X84, e84, st84⟩ := initO X0 hx hZ hown (hw _ (List.mem_of_getElem? (i := 76) rfl)) (hw _ (List.mem_of_getElem? (i := 16) rfl)) (hw _ (List.mem_of_getElem? (i := 17) rfl)) e0 (g := (mkF me_ 1 #[.val (.ref sb), .val (.int (16 : Int32))] [(.ref sb)])) rfl (by rw [hml]; rfl) rfl (hb hby d13_1) (by decide) (W := 0) (by show 2 * 0 + _ ≤ _; exact Nat.le_of_eq rfl) (by decide)
  refine gv st84 ?_
  show G (T84.setTop (mkF me_ 4 #[.val (.ref sb), .val (.int (16 : Int32))] []))
  obtain ⟨T85, X85, e85, st85⟩ := getS2 X84 hx hZ hown (host := "") (Or.inl (hw _ (List.mem_of_getElem? (i := 77) rfl))) Via.refl e84 (u0.ext O0.2) (g := (mkF me_ 4 #[.val (.ref sb), .val (.int (16 : Int32))] [])) rfl (hb hby d13_4)
  refine gv st85 ?_
  show G (T85.setTop (mkF me_ 7 #[.val (.ref sb), .val (.int (16 : Int32))] [(.int cs)]))
  refine gv (fun tQ kQ => XS.ifNo X85.here hx rfl (hb hby d13_7) rfl ((if0 _ _).trans (feq u1).1) kQ) ?_
  show G (T85.setTop (mkF me_ 10 #[.val (.ref sb), .val (.int (16 : Int32))] []))
  refine gv (fun tQ kQ => XS.aloadN X85.here hx rfl (hb hby d13_10) rfl rfl kQ) ?_
  show G (T85.setTop (mkF me_ 11 #[.val (.ref sb), .val (.int (16 : Int32))] [(.ref sb)]))
  refine gv (fun tQ kQ => XS.iloadN X85.here hx rfl (hb hby d13_11) rfl kQ) ?_
  show G (T85.setTop (mkF me_ 12 #[.val (.ref sb), .val (.int (16 : Int32))] [(.int (16 : Int32)), (.ref sb)]))
  obtain ⟨T86, h86, k86, X86, e86, E86, A86, st86⟩ := newP X85 hx hZ (hw _ (List.mem_of_getElem? (i := 19) rfl)) e85 (g := (mkF me_ 12 #[.val (.ref sb), .val (.int (16 : Int32))] [(.int (16 : Int32)), (.ref sb)])) rfl (hb hby d13_12) rfl (by decide) (cap := 16) (by decide) (by decide) (by decide) (by decide)
  obtain ⟨b86, g86⟩ : ∃ z, z = h0.size := ⟨_, rfl⟩
  rw [← g86] at A86 st86
  refine gv st86 ?_
  have ne87 : sb ≠ b86 := Nat.ne_of_lt (Nat.lt_of_lt_of_le u2.lt (Nat.le_of_eq g86.symm))
  have g88 : n0 ≤ b86 := Nat.le_trans (own_old O0) (Nat.le_of_eq g86.symm)
  have z89 : h0.size ≤ b86 := Nat.le_trans K0.1 (Nat.le_of_eq g86.symm)
  have f90 : Exa Z h86 sb "java/lang/StringBuilder" := u2.ext E86
  have f91 : Fld Z h86 sb "java/lang/AbstractStringBuilder" "value" "[B" .null := u3.ext E86
  have f92 : Fld Z h86 sb "java/lang/AbstractStringBuilder" "coder" "B" (.int (0 : Int32)) := u4.ext E86
  have f93 : Fld Z h86 sb "java/lang/AbstractStringBuilder" "count" "I" (.int (0 : Int32)) := u5.ext E86
  have O94 := O0.ext E86
  have K95 := K0.ext E86
  have V86 : Arv Z h86 b86 k86 .byte (16 : Int32) [(.int (0 : Int32)), (.int (0 : Int32)), (.int (0 : Int32)), (.int (0 : Int32)), (.int (0 : Int32)), (.int (0 : Int32)), (.int (0 : Int32)), (.int (0 : Int32)), (.int (0 : Int32)), (.int (0 : Int32)), (.int (0 : Int32)), (.int (0 : Int32)), (.int (0 : Int32)), (.int (0 : Int32)), (.int (0 : Int32)), (.int (0 : Int32))] (.int (0 : Int32)) := (Arv.new A86 (by decide)).pad (pad_rep [] (.int (0 : Int32)) 16)
  show G (T86.setTop (mkF me_ 14 #[.val (.ref sb), .val (.int (16 : Int32))] [(.ref b86), (.ref sb)]))
  obtain ⟨T96, h96, X96, e96, W96, st96⟩ := putF X86 hx hZ hown (host := "") (Or.inl (hw _ (List.mem_of_getElem? (i := 78) rfl))) Via.refl e86 f91 f90 (Or.inl (hw _ (List.mem_of_getElem? (i := 79) rfl))) (hw _ (List.mem_of_getElem? (i := 65) rfl)) (ty := (.array .byte)) (by decide) rfl rfl (g := (mkF me_ 14 #[.val (.ref sb), .val (.int (16 : Int32))] [(.ref b86), (.ref sb)])) rfl rfl (hb hby d13_14)
  refine gv st96 ?_
  have f98 : Exa Z h96 sb "java/lang/StringBuilder" := f90.wr W96
  have f99 : Fld Z h96 sb "java/lang/AbstractStringBuilder" "coder" "B" (.int (0 : Int32)) := f92.other W96 (Or.inr (slot_ne (Or.inl (hw _ (List.mem_of_getElem? (i := 81) rfl))) (Or.inl (hw _ (List.mem_of_getElem? (i := 79) rfl))) (by decide) (t := .byte) (t' := (.array .byte)) (by decide) (by decide)))
  have f100 : Fld Z h96 sb "java/lang/AbstractStringBuilder" "count" "I" (.int (0 : Int32)) := f93.other W96 (Or.inr (slot_ne (Or.inl (hw _ (List.mem_of_getElem? (i := 103) rfl))) (Or.inl (hw _ (List.mem_of_getElem? (i := 79) rfl))) (by decide) (t := .int) (t' := (.array .byte)) (by decide) (by decide)))
  have f101 : Arv Z h96 b86 k86 .byte (16 : Int32) [(.int (0 : Int32)), (.int (0 : Int32)), (.int (0 : Int32)), (.int (0 : Int32)), (.int (0 : Int32)), (.int (0 : Int32)), (.int (0 : Int32)), (.int (0 : Int32)), (.int (0 : Int32)), (.int (0 : Int32)), (.int (0 : Int32)), (.int (0 : Int32)), (.int (0 : Int32)), (.int (0 : Int32)), (.int (0 : Int32)), (.int (0 : Int32))] (.int (0 : Int32)) := V86.other W96 (Ne.symm ne87)
  have O102 := O94.wr W96 u6
  have K103 := K95.wr W96 (Or.inl (List.mem_of_getElem? (i := 0) rfl))
  have N104 := Fr.snoc X96 N0 u6
  have f97 : Fld Z h96 sb "java/lang/AbstractStringBuilder" "value" "[B" (.ref b86) := f91.same W96
  show G (T96.setTop (mkF me_ 17 #[.val (.ref sb), .val (.int (16 : Int32))] []))
  refine gv (fun tQ kQ => XS.aloadN X96.here hx rfl (hb hby d13_17) rfl rfl kQ) ?_
  show G (T96.setTop (mkF me_ 18 #[.val (.ref sb), .val (.int (16 : Int32))] [(.ref sb)]))
  refine gv (fun tQ kQ => XS.iconst X96.here hx rfl (hb hby d13_18) kQ) ?_
  show G (T96.setTop (mkF me_ 19 #[.val (.ref sb), .val (.int (16 : Int32))] [(.int (0 : Int32)), (.ref sb)]))
  obtain ⟨T105, h105, X105, e105, W105, st105⟩ := putFN X96 hx hZ hown (hw _ (List.mem_of_getElem? (i := 80) rfl)) Via.refl e96 f99 f98 (Or.inl (hw _ (List.mem_of_getElem? (i := 81) rfl))) (hw _ (List.mem_of_getElem? (i := 65) rfl)) (ty := .byte) (v' := (.int (0 : Int32))) (by decide) rfl rfl (g := (mkF me_ 19 #[.val (.ref sb), .val (.int (16 : Int32))] [(.int (0 : Int32)), (.ref sb)])) rfl rfl (hb hby d13_19)
  refine gv st105 ?_
  have f107 : Exa Z h105 sb "java/lang/StringBuilder" := f98.wr W105
  have f108 : Fld Z h105 sb "java/lang/AbstractStringBuilder" "value" "[B" (.ref b86) := f97.other W105 (Or.inr (slot_ne (Or.inl (hw _ (List.mem_of_getElem? (i := 79) rfl))) (Or.inl (hw _ (List.mem_of_getElem? (i := 81) rfl))) (by decide) (t := (.array .byte)) (t' := .byte) (by decide) (by decide)))
  have f109 : Fld Z h105 sb "java/lang/AbstractStringBuilder" "count" "I" (.int (0 : Int32)) := f100.other W105 (Or.inr (slot_ne (Or.inl (hw _ (List.mem_of_getElem? (i := 103) rfl))) (Or.inl (hw _ (List.mem_of_getElem? (i := 81) rfl))) (by decide) (t := .int) (t' := .byte) (by decide) (by decide)))
  have f110 : Arv Z h105 b86 k86 .byte (16 : Int32) [(.int (0 : Int32)), (.int (0 : Int32)), (.int (0 : Int32)), (.int (0 : Int32)), (.int (0 : Int32)), (.int (0 : Int32)), (.int (0 : Int32)), (.int (0 : Int32)), (.int (0 : Int32)), (.int (0 : Int32)), (.int (0 : Int32)), (.int (0 : Int32)), (.int (0 : Int32)), (.int (0 : Int32)), (.int (0 : Int32)), (.int (0 : Int32))] (.int (0 : Int32)) := f101.other W105 (Ne.symm ne87)
  have O111 := O102.wr W105 u6
  have K112 := K103.wr W105 (Or.inl (List.mem_of_getElem? (i := 0) rfl))
  have N113 := Fr.snoc X105 N104 u6
  have f106 : Fld Z h105 sb "java/lang/AbstractStringBuilder" "coder" "B" (.int (0 : Int32)) := f99.same W105
  show G (T105.setTop (mkF me_ 22 #[.val (.ref sb), .val (.int (16 : Int32))] []))
  refine gv (fun tQ kQ => XS.goto X105.here hx rfl (pc0 := 22) (pc' := 38) rfl (hb hby d13_22) (by decide) (by decide) kQ) ?_
  show G (T105.setTop (mkF me_ 38 #[.val (.ref sb), .val (.int (16 : Int32))] []))
  refine gf _ (own_ret X105 Bd.notSynchronized (v := none) (fun _ => rfl) ?_ (by decide) (by decide) (fun fs hr => X105.returnOut hx Bd.returns (hb hby d13_38) hr))
  show Q_asbi Z sb cs h0 n0 _ T105.heap _
  rw [e105]
  exact ⟨b86, k86, rfl, N113, K112, z89, f107, f108, f106, f109, f110⟩
theorem d12_0 : decode jdk_67_method_1_code 0 = .ok (.aload_n 0, 1) := by decide +kernel
theorem d12_1 : decode jdk_67_method_1_code 1 = .ok (.bipush 16, 2) := by decide +kernel
theorem d12_3 : decode jdk_67_method_1_code 3 = .ok (.invokespecial 1, 3) := by decide +kernel
theorem d12_6 : decode jdk_67_method_1_code 6 = .ok (.return_, 1) := by decide +kernel
def Q_sbi (Z : State) (sb : Addr) (cs : Int32) (h0 : Heap) (n0 : Nat) (v : Option Value) (h : Heap) (L : List Loc) : Prop := ∃ (bb : Addr), ∃ (kb : ClassId), v = none ∧ Fr n0 L ∧ Keep h0 h [sb] ∧ h0.size ≤ bb ∧ (Exa Z h sb "java/lang/StringBuilder") ∧ (Fld Z h sb "java/lang/AbstractStringBuilder" "value" "[B" (.ref bb)) ∧ (Fld Z h sb "java/lang/AbstractStringBuilder" "coder" "B" (.int (0 : Int32))) ∧ (Fld Z h sb "java/lang/AbstractStringBuilder" "count" "I" (.int (0 : Int32))) ∧ (Arv Z h bb kb .byte (16 : Int32) [(.int (0 : Int32)), (.int (0 : Int32)), (.int (0 : Int32)), (.int (0 : Int32)), (.int (0 : Int32)), (.int (0 : Int32)), (.int (0 : Int32)), (.int (0 : Int32)), (.int (0 : Int32)), (.int (0 : Int32)), (.int (0 : Int32)), (.int (0 : Int32)), (.int (0 : Int32)), (.int (0 : Int32)), (.int (0 : Int32)), (.int (0 : Int32))] (.int (0 : Int32)))
set_option maxRecDepth 65536 in
set_option maxHeartbeats 40000000 in
theorem rm_sbi (l : Launch) (Z : State) (a0 : Array Value) (hw : ∀ d ∈ tables_1, d.before a0 Z = true) (ws : List Jvm.Cond) (sb : Addr) (cs : Int32) (h0 : Heap) (n0 : Nat) (O0 : Old Z n0 h0) (u0 : Sta Z Z.heap "java/lang/String" "COMPACT_STRINGS" "Z" (.int cs)) (u1 : ¬ (cs = (0 : Int32))) (u2 : Exa Z h0 sb "java/lang/StringBuilder") (u3 : Fld Z h0 sb "java/lang/AbstractStringBuilder" "value" "[B" .null) (u4 : Fld Z h0 sb "java/lang/AbstractStringBuilder" "coder" "B" (.int (0 : Int32))) (u5 : Fld Z h0 sb "java/lang/AbstractStringBuilder" "count" "I" (.int (0 : Int32))) (u6 : n0 ≤ sb) :
    MetFree l (⟨"java/lang/StringBuilder", "<init>", "()V"⟩ : MethodName) (head1 (Jvm.Cond.code (⟨"java/lang/StringBuilder", "<init>", "()V"⟩ : MethodName) jdk_67_method_1_code 1 none :: ws) ({ frames := 2, cells := 1, slots := 16, locals := 25 } : Room)) (fun aV U => aV = #[(.ref sb)] ∧ Z.Warmed39 U.vm ∧ U.heap = h0) (fun _ _ _ _ _ => True) (fun _ U o U' => ∃ v L, o = .returned v ∧ Q_sbi Z sb cs h0 n0 v U'.heap L ∧ FrameEnd U o U' L ({ frames := 2, cells := 1, slots := 16, locals := 25 } : Room).cells ({ frames := 2, cells := 1, slots := 16, locals := 25 } : Room).slots) := by
  refine MetFree.of_bodySF (plainFor_of_name pn_2) hisR ?_
  intro pr_ en_ st_ me_ args below meth_ co_ s₁ Bd hml0 hP hK
  obtain ⟨rfl, hZ, hh⟩ := hP
  have hx := Bd.exec
  have hby := Bd.bytes
  have hml : co_.maxLocals = 1 := hml0
  have hown : st_.vm.findClass "java/lang/StringBuilder" = some me_.cls := findClass_of_methodNamed Bd.named
  have hnm := (name_of_methodNamed Bd.named Bd.method).1
  have X0 : Stand pr_ l en_ ({ frames := 2, cells := 1, slots := 16, locals := 25 } : Room) st_ me_ #[(.ref sb)] below meth_ co_ s₁ [] 0 0 := Stand.of_body Bd
  have e0 : s₁.heap = h0 := by rw [← hh, Bd.state]; rfl
  have N0 := Fr.nil n0
  have K0 := Keep.refl h0 [sb]
  obtain ⟨G, gv, gf, gb⟩ := own_G pr_.tables en_ below st_ (Q_sbi Z sb cs h0 n0) ({ frames := 2, cells := 1, slots := 16, locals := 25 } : Room).cells ({ frames := 2, cells := 1, slots := 16, locals := 25 } : Room).slots
  show own_Fin pr_.tables en_ below st_ (Q_sbi Z sb cs h0 n0) ({ frames := 2, cells := 1, slots := 16, locals := 25 } : Room).cells ({ frames := 2, cells := 1, slots := 16, locals := 25 } : Room).slots (s₁.setTop (entryFrame me_ #[(.ref sb)] 1))
  refine gb _ (gv (fun tQ kQ => castTop (ef_0 me_ sb) kQ) ?_)
  show G (s₁.setTop (mkF me_ 0 #[.val (.ref sb)] []))
  refine gv (fun tQ kQ => XS.aloadN X0.here hx rfl (hb hby d12_0) rfl rfl kQ) ?_
  show G (s₁.setTop (mkF me_ 1 #[.val (.ref sb)] [(.ref sb)]))
  refine gv (fun tQ kQ => XS.bipush X0.here hx rfl (hb hby d12_1) kQ) ?_
  show G (s₁.setTop (mkF me_ 3 #[.val (.ref sb)] [(.int (16 : Int32)), (.ref sb)]))
  obtain ⟨_, _, ⟨T114, L114, k114, n114⟩, -, X114, ⟨Lc114, hQ114, l114, y114, z114⟩, st114⟩ := X0.specialBack hx (y := (⟨"java/lang/AbstractStringBuilder", "<init>", "(I)V"⟩ : MethodName)) rfl hown (mvT hZ (hw _ (List.mem_of_getElem? (i := 70) rfl))) (mvT hZ (hw _ (List.mem_of_getElem? (i := 71) rfl))) (mvT hZ (hw _ (List.mem_of_getElem? (i := 75) rfl))) (by decide) (backOf (W := 0) (rm_asbi l Z a0 hw [] sb cs h0 n0 O0 u0 u1 u2 u3 u4 u5 u6) hZ (hw _ (List.mem_of_getElem? (i := 75) rfl)) (hw _ (List.mem_of_getElem? (i := 74) rfl)) (by decide) (by decide)) (g := (mkF me_ 3 #[.val (.ref sb)] [(.int (16 : Int32)), (.ref sb)])) rfl (by rw [hml]; rfl) (Steps.refl _) (a := sb) (argsL := [(.int (16 : Int32))]) (rest := []) (lenOf pd_4 rfl) rfl (by show 2 * 0 + _ ≤ _; exact Nat.le_of_eq rfl) (hb hby d12_3) (fun _ _ => ⟨rfl, e0, (by decide : 0 + 1 ≤ _), (by decide : 0 + 16 ≤ _)⟩)
  dsimp only [Pt.U, Pt.locs, Pt.cells, Pt.slots] at X114 l114 y114 z114 st114 hQ114
  subst l114 y114 z114
  obtain ⟨bb_114, kb_114, rfl, Nq114, Kq114, w114_0, w114_1, w114_2, w114_3, w114_4, w114_5⟩ := hQ114
  have N115 := Fr.app N0 Nq114
  obtain ⟨h114, e114⟩ : ∃ z, T114.heap = z := ⟨_, rfl⟩
  rw [e114] at Kq114 w114_1 w114_2 w114_3 w114_4 w114_5
  have ne116 : sb ≠ bb_114 := Nat.ne_of_lt (Nat.lt_of_lt_of_le u2.lt w114_0)
  have g117 : n0 ≤ bb_114 := Nat.le_trans (own_old O0) w114_0
  have z118 : h0.size ≤ bb_114 := Nat.le_trans K0.1 w114_0
  have f119 : Exa Z h114 sb "java/lang/StringBuilder" := u2.keep Kq114
  have O120 := O0.keep Kq114 (allS u6 all0)
  have K121 := K0.trans Kq114 (allS (Or.inl (List.mem_of_getElem? (i := 0) rfl)) all0)
  refine gv (fun tQ kQ => st114.trans kQ) ?_
  show G (T114.setTop (mkF me_ 6 #[.val (.ref sb)] []))
  refine gf _ (own_ret X114 Bd.notSynchronized (v := none) (fun _ => rfl) ?_ (by decide) (by decide) (fun fs hr => X114.returnOut hx Bd.returns (hb hby d12_6) hr))
  show Q_sbi Z sb cs h0 n0 _ T114.heap _
  rw [e114]
  exact ⟨bb_114, kb_114, rfl, N115, K121, z118, w114_1, w114_2, w114_3, w114_4, w114_5⟩
theorem d25_0 : decode jdk_68_method_64_code 0 = .ok (.aload_n 0, 1) := by decide +kernel
theorem d25_1 : decode jdk_68_method_64_code 1 = .ok (.getfield 15, 3) := by decide +kernel
theorem d25_4 : decode jdk_68_method_64_code 4 = .ok (.areturn, 1) := by decide +kernel
def Q_gv (Z : State) (sb : Addr) (bb : Addr) (h0 : Heap) (n0 : Nat) (v : Option Value) (h : Heap) (L : List Loc) : Prop := v = some (.ref bb) ∧ Fr n0 L ∧ h = h0
set_option maxRecDepth 65536 in
set_option maxHeartbeats 40000000 in
theorem rm_gv (l : Launch) (Z : State) (a0 : Array Value) (hw : ∀ d ∈ tables_1, d.before a0 Z = true) (ws : List Jvm.Cond) (sb : Addr) (bb : Addr) (h0 : Heap) (n0 : Nat) (O0 : Old Z n0 h0) (u0 : Fld Z h0 sb "java/lang/AbstractStringBuilder" "value" "[B" (.ref bb)) :
    MetFree l (⟨"java/lang/AbstractStringBuilder", "getValue", "()[B"⟩ : MethodName) (head1 (Jvm.Cond.code (⟨"java/lang/AbstractStringBuilder", "getValue", "()[B"⟩ : MethodName) jdk_68_method_64_code 1 (some (.array .byte)) :: ws) ({ frames := 0, cells := 0, slots := 0, locals := 0 } : Room)) (fun aV U => aV = #[(.ref sb)] ∧ Z.Warmed39 U.vm ∧ U.heap = h0) (fun _ _ _ _ _ => True) (fun _ U o U' => ∃ v L, o = .returned v ∧ Q_gv Z sb bb h0 n0 v U'.heap L ∧ FrameEnd U o U' L ({ frames := 0, cells := 0, slots := 0, locals := 0 } : Room).cells ({ frames := 0, cells := 0, slots := 0, locals := 0 } : Room).slots) := by
  refine MetFree.of_bodySF (plainFor_of_name pn_1) hisR ?_
  intro pr_ en_ st_ me_ args below meth_ co_ s₁ Bd hml0 hP hK
  obtain ⟨rfl, hZ, hh⟩ := hP
  have hx := Bd.exec
  have hby := Bd.bytes
  have hml : co_.maxLocals = 1 := hml0
  have hown : st_.vm.findClass "java/lang/AbstractStringBuilder" = some me_.cls := findClass_of_methodNamed Bd.named
  have hnm := (name_of_methodNamed Bd.named Bd.method).1
  have X0 : Stand pr_ l en_ ({ frames := 0, cells := 0, slots := 0, locals := 0 } : Room) st_ me_ #[(.ref sb)] below meth_ co_ s₁ [] 0 0 := Stand.of_body Bd
  have e0 : s₁.heap = h0 := by rw [← hh, Bd.state]; rfl
  have N0 := Fr.nil n0
  have K0 := Keep.refl h0 []
  obtain ⟨G, gv, gf, gb⟩ := own_G pr_.tables en_ below st_ (Q_gv Z sb bb h0 n0) ({ frames := 0, cells := 0, slots := 0, locals := 0 } : Room).cells ({ frames := 0, cells := 0, slots := 0, locals := 0 } : Room).slots
  show own_Fin pr_.tables en_ below st_ (Q_gv Z sb bb h0 n0) ({ frames := 0, cells := 0, slots := 0, locals := 0 } : Room).cells ({ frames := 0, cells := 0, slots := 0, locals := 0 } : Room).slots (s₁.setTop (entryFrame me_ #[(.ref sb)] 1))
  refine gb _ (gv (fun tQ kQ => castTop (ef_0 me_ sb) kQ) ?_)
  show G (s₁.setTop (mkF me_ 0 #[.val (.ref sb)] []))
  refine gv (fun tQ kQ => XS.aloadN X0.here hx rfl (hb hby d25_0) rfl rfl kQ) ?_
  show G (s₁.setTop (mkF me_ 1 #[.val (.ref sb)] [(.ref sb)]))
  obtain ⟨T122, X122, e122, st122⟩ := getF X0 hx hZ hown (host := "") (Or.inl (hw _ (List.mem_of_getElem? (i := 78) rfl))) Via.refl e0 u0 (g := (mkF me_ 1 #[.val (.ref sb)] [(.ref sb)])) rfl rfl (hb hby d25_1)
  refine gv st122 ?_
  show G (T122.setTop (mkF me_ 4 #[.val (.ref sb)] [(.ref bb)]))
  refine gf _ (own_ret X122 Bd.notSynchronized (v := some (.ref bb)) (fun h => by rw [Bd.returns] at h; cases h) ?_ (by decide) (by decide) (fun fs hr => retOut X122 hx (t := (.array .byte)) Bd.returns rfl (Or.inr (Or.inr (Or.inr (Or.inr ⟨rfl, rfl, rfl⟩)))) (hb hby d25_4) hr))
  show Q_gv Z sb bb h0 n0 _ T122.heap _
  rw [e122]
  exact ⟨rfl, N0, rfl⟩
theorem d27_0 : decode jdk_68_method_6_code 0 = .ok (.aload_n 0, 1) := by decide +kernel
theorem d27_1 : decode jdk_68_method_6_code 1 = .ok (.getfield 79, 3) := by decide +kernel
theorem d27_4 : decode jdk_68_method_6_code 4 = .ok (.ireturn, 1) := by decide +kernel
def Q_alen (Z : State) (sb : Addr) (ct : Int32) (h0 : Heap) (n0 : Nat) (v : Option Value) (h : Heap) (L : List Loc) : Prop := v = some (.int ct) ∧ Fr n0 L ∧ h = h0
set_option maxRecDepth 65536 in
set_option maxHeartbeats 40000000 in
theorem rm_alen (l : Launch) (Z : State) (a0 : Array Value) (hw : ∀ d ∈ tables_1, d.before a0 Z = true) (ws : List Jvm.Cond) (sb : Addr) (ct : Int32) (h0 : Heap) (n0 : Nat) (O0 : Old Z n0 h0) (u0 : Exa Z h0 sb "java/lang/StringBuilder") (u1 : Fld Z h0 sb "java/lang/AbstractStringBuilder" "count" "I" (.int ct)) :
    MetFree l (⟨"java/lang/AbstractStringBuilder", "length", "()I"⟩ : MethodName) (head1 (Jvm.Cond.code (⟨"java/lang/AbstractStringBuilder", "length", "()I"⟩ : MethodName) jdk_68_method_6_code 1 (some .int) :: ws) ({ frames := 0, cells := 0, slots := 0, locals := 0 } : Room)) (fun aV U => aV = #[(.ref sb)] ∧ Z.Warmed39 U.vm ∧ U.heap = h0) (fun _ _ _ _ _ => True) (fun _ U o U' => ∃ v L, o = .returned v ∧ Q_alen Z sb ct h0 n0 v U'.heap L ∧ FrameEnd U o U' L ({ frames := 0, cells := 0, slots := 0, locals := 0 } : Room).cells ({ frames := 0, cells := 0, slots := 0, locals := 0 } : Room).slots) := by
  refine MetFree.of_bodySF (plainFor_of_name pn_1) hisR ?_
  intro pr_ en_ st_ me_ args below meth_ co_ s₁ Bd hml0 hP hK
  obtain ⟨rfl, hZ, hh⟩ := hP
  have hx := Bd.exec
  have hby := Bd.bytes
  have hml : co_.maxLocals = 1 := hml0
  have hown : st_.vm.findClass "java/lang/AbstractStringBuilder" = some me_.cls := findClass_of_methodNamed Bd.named
  have hnm := (name_of_methodNamed Bd.named Bd.method).1
  have X0 : Stand pr_ l en_ ({ frames := 0, cells := 0, slots := 0, locals := 0 } : Room) st_ me_ #[(.ref sb)] below meth_ co_ s₁ [] 0 0 := Stand.of_body Bd
  have e0 : s₁.heap = h0 := by rw [← hh, Bd.state]; rfl
  have N0 := Fr.nil n0
  have K0 := Keep.refl h0 []
  obtain ⟨G, gv, gf, gb⟩ := own_G pr_.tables en_ below st_ (Q_alen Z sb ct h0 n0) ({ frames := 0, cells := 0, slots := 0, locals := 0 } : Room).cells ({ frames := 0, cells := 0, slots := 0, locals := 0 } : Room).slots
  show own_Fin pr_.tables en_ below st_ (Q_alen Z sb ct h0 n0) ({ frames := 0, cells := 0, slots := 0, locals := 0 } : Room).cells ({ frames := 0, cells := 0, slots := 0, locals := 0 } : Room).slots (s₁.setTop (entryFrame me_ #[(.ref sb)] 1))
  refine gb _ (gv (fun tQ kQ => castTop (ef_0 me_ sb) kQ) ?_)
  show G (s₁.setTop (mkF me_ 0 #[.val (.ref sb)] []))
  refine gv (fun tQ kQ => XS.aloadN X0.here hx rfl (hb hby d27_0) rfl rfl kQ) ?_
  show G (s₁.setTop (mkF me_ 1 #[.val (.ref sb)] [(.ref sb)]))
  obtain ⟨T123, X123, e123, st123⟩ := getF X0 hx hZ hown (host := "") (Or.inl (hw _ (List.mem_of_getElem? (i := 102) rfl))) Via.refl e0 u1 (g := (mkF me_ 1 #[.val (.ref sb)] [(.ref sb)])) rfl rfl (hb hby d27_1)
  refine gv st123 ?_
  show G (T123.setTop (mkF me_ 4 #[.val (.ref sb)] [(.int ct)]))
  refine gf _ (own_ret X123 Bd.notSynchronized (v := some (.int ct)) (fun h => by rw [Bd.returns] at h; cases h) ?_ (by decide) (by decide) (fun fs hr => retOut X123 hx (t := .int) Bd.returns rfl (Or.inl ⟨rfl, Or.inl rfl, _, rfl⟩) (hb hby d27_4) hr))
  show Q_alen Z sb ct h0 n0 _ T123.heap _
  rw [e123]
  exact ⟨rfl, N0, rfl⟩
theorem d26_0 : decode jdk_67_method_93_code 0 = .ok (.aload_n 0, 1) := by decide +kernel
theorem d26_1 : decode jdk_67_method_93_code 1 = .ok (.invokespecial 343, 3) := by decide +kernel
theorem d26_4 : decode jdk_67_method_93_code 4 = .ok (.ireturn, 1) := by decide +kernel
def Q_slen (Z : State) (sb : Addr) (ct : Int32) (h0 : Heap) (n0 : Nat) (v : Option Value) (h : Heap) (L : List Loc) : Prop := v = some (.int ct) ∧ Fr n0 L ∧ h = h0
set_option maxRecDepth 65536 in
set_option maxHeartbeats 40000000 in
theorem rm_slen (l : Launch) (Z : State) (a0 : Array Value) (hw : ∀ d ∈ tables_1, d.before a0 Z = true) (ws : List Jvm.Cond) (sb : Addr) (ct : Int32) (h0 : Heap) (n0 : Nat) (O0 : Old Z n0 h0) (u0 : Exa Z h0 sb "java/lang/StringBuilder") (u1 : Fld Z h0 sb "java/lang/AbstractStringBuilder" "count" "I" (.int ct)) :
    MetFree l (⟨"java/lang/StringBuilder", "length", "()I"⟩ : MethodName) (head1 (Jvm.Cond.code (⟨"java/lang/StringBuilder", "length", "()I"⟩ : MethodName) jdk_67_method_93_code 1 (some .int) :: ws) ({ frames := 1, cells := 0, slots := 0, locals := 12 } : Room)) (fun aV U => aV = #[(.ref sb)] ∧ Z.Warmed39 U.vm ∧ U.heap = h0) (fun _ _ _ _ _ => True) (fun _ U o U' => ∃ v L, o = .returned v ∧ Q_slen Z sb ct h0 n0 v U'.heap L ∧ FrameEnd U o U' L ({ frames := 1, cells := 0, slots := 0, locals := 12 } : Room).cells ({ frames := 1, cells := 0, slots := 0, locals := 12 } : Room).slots) := by
  refine MetFree.of_bodySF (plainFor_of_name pn_2) hisR ?_
  intro pr_ en_ st_ me_ args below meth_ co_ s₁ Bd hml0 hP hK
  obtain ⟨rfl, hZ, hh⟩ := hP
  have hx := Bd.exec
  have hby := Bd.bytes
  have hml : co_.maxLocals = 1 := hml0
  have hown : st_.vm.findClass "java/lang/StringBuilder" = some me_.cls := findClass_of_methodNamed Bd.named
  have hnm := (name_of_methodNamed Bd.named Bd.method).1
  have X0 : Stand pr_ l en_ ({ frames := 1, cells := 0, slots := 0, locals := 12 } : Room) st_ me_ #[(.ref sb)] below meth_ co_ s₁ [] 0 0 := Stand.of_body Bd
  have e0 : s₁.heap = h0 := by rw [← hh, Bd.state]; rfl
  have N0 := Fr.nil n0
  have K0 := Keep.refl h0 []
  obtain ⟨G, gv, gf, gb⟩ := own_G pr_.tables en_ below st_ (Q_slen Z sb ct h0 n0) ({ frames := 1, cells := 0, slots := 0, locals := 12 } : Room).cells ({ frames := 1, cells := 0, slots := 0, locals := 12 } : Room).slots
  show own_Fin pr_.tables en_ below st_ (Q_slen Z sb ct h0 n0) ({ frames := 1, cells := 0, slots := 0, locals := 12 } : Room).cells ({ frames := 1, cells := 0, slots := 0, locals := 12 } : Room).slots (s₁.setTop (entryFrame me_ #[(.ref sb)] 1))
  refine gb _ (gv (fun tQ kQ => castTop (ef_0 me_ sb) kQ) ?_)
  show G (s₁.setTop (mkF me_ 0 #[.val (.ref sb)] []))
  refine gv (fun tQ kQ => XS.aloadN X0.here hx rfl (hb hby d26_0) rfl rfl kQ) ?_
  show G (s₁.setTop (mkF me_ 1 #[.val (.ref sb)] [(.ref sb)]))
  obtain ⟨_, _, ⟨T124, L124, k124, n124⟩, -, X124, ⟨Lc124, hQ124, l124, y124, z124⟩, st124⟩ := superBack X0 hx hZ (y := (⟨"java/lang/AbstractStringBuilder", "length", "()I"⟩ : MethodName)) hown (hw _ (List.mem_of_getElem? (i := 153) rfl)) (own_same (y := (⟨"java/lang/AbstractStringBuilder", "length", "()I"⟩ : MethodName)) (by decide) (hw _ (List.mem_of_getElem? (i := 149) rfl)) (hw _ (List.mem_of_getElem? (i := 107) rfl)) rfl) (hw _ (List.mem_of_getElem? (i := 149) rfl)) (hw _ (List.mem_of_getElem? (i := 89) rfl)) (by decide) (backOf (W := 0) (rm_alen l Z a0 hw [] sb ct h0 n0 O0 u0 u1) hZ (hw _ (List.mem_of_getElem? (i := 154) rfl)) (hw _ (List.mem_of_getElem? (i := 74) rfl)) (by decide) (by decide)) e0 (Ins.self u0) (g := (mkF me_ 1 #[.val (.ref sb)] [(.ref sb)])) rfl (by rw [hml]; rfl) (hw _ (List.mem_of_getElem? (i := 154) rfl)) (argsL := []) (rest := []) (lenOf pd_3 rfl) rfl (by show 2 * 0 + _ ≤ _; exact Nat.le_of_eq rfl) (hb hby d26_1) (fun _ _ => ⟨rfl, e0, (by decide : 0 + 0 ≤ _), (by decide : 0 + 0 ≤ _)⟩)
  dsimp only [Pt.U, Pt.locs, Pt.cells, Pt.slots] at X124 l124 y124 z124 st124 hQ124
  subst l124 y124 z124
  obtain ⟨rfl, Nq124, eq124⟩ := hQ124
  have N125 := Fr.app N0 Nq124
  refine gv (fun tQ kQ => st124.trans kQ) ?_
  show G (T124.setTop (mkF me_ 4 #[.val (.ref sb)] [(.int ct)]))
  refine gf _ (own_ret X124 Bd.notSynchronized (v := some (.int ct)) (fun h => by rw [Bd.returns] at h; cases h) ?_ (by decide) (by decide) (fun fs hr => retOut X124 hx (t := .int) Bd.returns rfl (Or.inl ⟨rfl, Or.inl rfl, _, rfl⟩) (hb hby d26_4) hr))
  show Q_slen Z sb ct h0 n0 _ T124.heap _
  rw [eq124]
  exact ⟨rfl, N125, rfl⟩
theorem d28_0 : decode jdk_68_method_68_code 0 = .ok (.getstatic 18, 3) := by decide +kernel
theorem d28_3 : decode jdk_68_method_68_code 3 = .ok (.ifCond .eq 14, 3) := by decide +kernel
theorem d28_6 : decode jdk_68_method_68_code 6 = .ok (.aload_n 0, 1) := by decide +kernel
theorem d28_7 : decode jdk_68_method_68_code 7 = .ok (.getfield 22, 3) := by decide +kernel
theorem d28_10 : decode jdk_68_method_68_code 10 = .ok (.ifCond .ne 7, 3) := by decide +kernel
theorem d28_13 : decode jdk_68_method_68_code 13 = .ok (.iconst 1, 1) := by decide +kernel
theorem d28_14 : decode jdk_68_method_68_code 14 = .ok (.goto 4, 3) := by decide +kernel
theorem d28_18 : decode jdk_68_method_68_code 18 = .ok (.ireturn, 1) := by decide +kernel
def Q_ail (Z : State) (sb : Addr) (cs : Int32) (h0 : Heap) (n0 : Nat) (v : Option Value) (h : Heap) (L : List Loc) : Prop := v = some (.int (1 : Int32)) ∧ Fr n0 L ∧ h = h0
set_option maxRecDepth 65536 in
set_option maxHeartbeats 40000000 in
theorem rm_ail (l : Launch) (Z : State) (a0 : Array Value) (hw : ∀ d ∈ tables_1, d.before a0 Z = true) (ws : List Jvm.Cond) (sb : Addr) (cs : Int32) (h0 : Heap) (n0 : Nat) (O0 : Old Z n0 h0) (u0 : Sta Z Z.heap "java/lang/String" "COMPACT_STRINGS" "Z" (.int cs)) (u1 : ¬ (cs = (0 : Int32))) (u2 : Fld Z h0 sb "java/lang/AbstractStringBuilder" "coder" "B" (.int (0 : Int32))) :
    MetFree l (⟨"java/lang/AbstractStringBuilder", "isLatin1", "()Z"⟩ : MethodName) (head1 (Jvm.Cond.code (⟨"java/lang/AbstractStringBuilder", "isLatin1", "()Z"⟩ : MethodName) jdk_68_method_68_code 1 (some .boolean) :: ws) ({ frames := 0, cells := 0, slots := 0, locals := 0 } : Room)) (fun aV U => aV = #[(.ref sb)] ∧ Z.Warmed39 U.vm ∧ U.heap = h0) (fun _ _ _ _ _ => True) (fun _ U o U' => ∃ v L, o = .returned v ∧ Q_ail Z sb cs h0 n0 v U'.heap L ∧ FrameEnd U o U' L ({ frames := 0, cells := 0, slots := 0, locals := 0 } : Room).cells ({ frames := 0, cells := 0, slots := 0, locals := 0 } : Room).slots) := by
  refine MetFree.of_bodySF (plainFor_of_name pn_1) hisR ?_
  intro pr_ en_ st_ me_ args below meth_ co_ s₁ Bd hml0 hP hK
  obtain ⟨rfl, hZ, hh⟩ := hP
  have hx := Bd.exec
  have hby := Bd.bytes
  have hml : co_.maxLocals = 1 := hml0
  have hown : st_.vm.findClass "java/lang/AbstractStringBuilder" = some me_.cls := findClass_of_methodNamed Bd.named
  have hnm := (name_of_methodNamed Bd.named Bd.method).1
  have X0 : Stand pr_ l en_ ({ frames := 0, cells := 0, slots := 0, locals := 0 } : Room) st_ me_ #[(.ref sb)] below meth_ co_ s₁ [] 0 0 := Stand.of_body Bd
  have e0 : s₁.heap = h0 := by rw [← hh, Bd.state]; rfl
  have N0 := Fr.nil n0
  have K0 := Keep.refl h0 []
  obtain ⟨G, gv, gf, gb⟩ := own_G pr_.tables en_ below st_ (Q_ail Z sb cs h0 n0) ({ frames := 0, cells := 0, slots := 0, locals := 0 } : Room).cells ({ frames := 0, cells := 0, slots := 0, locals := 0 } : Room).slots
  show own_Fin pr_.tables en_ below st_ (Q_ail Z sb cs h0 n0) ({ frames := 0, cells := 0, slots := 0, locals := 0 } : Room).cells ({ frames := 0, cells := 0, slots := 0, locals := 0 } : Room).slots (s₁.setTop (entryFrame me_ #[(.ref sb)] 1))
  refine gb _ (gv (fun tQ kQ => castTop (ef_0 me_ sb) kQ) ?_)
  show G (s₁.setTop (mkF me_ 0 #[.val (.ref sb)] []))
  obtain ⟨T126, X126, e126, st126⟩ := getS2 X0 hx hZ hown (host := "") (Or.inl (hw _ (List.mem_of_getElem? (i := 77) rfl))) Via.refl e0 (u0.ext O0.2) (g := (mkF me_ 0 #[.val (.ref sb)] [])) rfl (hb hby d28_0)
  refine gv st126 ?_
  show G (T126.setTop (mkF me_ 3 #[.val (.ref sb)] [(.int cs)]))
  refine gv (fun tQ kQ => XS.ifNo X126.here hx rfl (hb hby d28_3) rfl ((if0 _ _).trans (feq u1).1) kQ) ?_
  show G (T126.setTop (mkF me_ 6 #[.val (.ref sb)] []))
  refine gv (fun tQ kQ => XS.aloadN X126.here hx rfl (hb hby d28_6) rfl rfl kQ) ?_
  show G (T126.setTop (mkF me_ 7 #[.val (.ref sb)] [(.ref sb)]))
  obtain ⟨T127, X127, e127, st127⟩ := getF X126 hx hZ hown (host := "") (Or.inl (hw _ (List.mem_of_getElem? (i := 80) rfl))) Via.refl e126 u2 (g := (mkF me_ 7 #[.val (.ref sb)] [(.ref sb)])) rfl rfl (hb hby d28_7)
  refine gv st127 ?_
  show G (T127.setTop (mkF me_ 10 #[.val (.ref sb)] [(.int (0 : Int32))]))
  refine gv (fun tQ kQ => XS.ifNo X127.here hx rfl (hb hby d28_10) rfl ((if0 _ _).trans (teq (by decide : (0 : Int32) = (0 : Int32))).2) kQ) ?_
  show G (T127.setTop (mkF me_ 13 #[.val (.ref sb)] []))
  refine gv (fun tQ kQ => XS.iconst X127.here hx rfl (hb hby d28_13) kQ) ?_
  show G (T127.setTop (mkF me_ 14 #[.val (.ref sb)] [(.int (1 : Int32))]))
  refine gv (fun tQ kQ => XS.goto X127.here hx rfl (pc0 := 14) (pc' := 18) rfl (hb hby d28_14) (by decide) (by decide) kQ) ?_
  show G (T127.setTop (mkF me_ 18 #[.val (.ref sb)] [(.int (1 : Int32))]))
  refine gf _ (own_ret X127 Bd.notSynchronized (v := some (.int (1 : Int32))) (fun h => by rw [Bd.returns] at h; cases h) ?_ (by decide) (by decide) (fun fs hr => retN X127 hx (t := .boolean) Bd.returns (by simp) (hb hby d28_18) hr))
  show Q_ail Z sb cs h0 n0 _ T127.heap _
  rw [e127]
  exact ⟨rfl, N0, rfl⟩
theorem ef_7 (m : MethodId) (x0 : Int32) (x1 : Int32)  : entryFrame m #[(.int x0), (.int x1)] 2 = mkF m 0 #[.val (.int x0), .val (.int x1)] [] := by first | (simp [entryFrame, mkF, argsToLocals, Value.category]; done) | rfl
theorem d32_0 : decode jdk_29_method_69_code 0 = .ok (.iload_n 0, 1) := by decide +kernel
theorem d32_1 : decode jdk_29_method_69_code 1 = .ok (.iload_n 1, 1) := by decide +kernel
theorem d32_2 : decode jdk_29_method_69_code 2 = .ok (.if_icmp .gt 7, 3) := by decide +kernel
theorem d32_9 : decode jdk_29_method_69_code 9 = .ok (.iload_n 1, 1) := by decide +kernel
theorem d32_10 : decode jdk_29_method_69_code 10 = .ok (.ireturn, 1) := by decide +kernel
def Q_min (Z : State) (n_ : Int32) (h0 : Heap) (n0 : Nat) (v : Option Value) (h : Heap) (L : List Loc) : Prop := v = some (.int n_) ∧ Fr n0 L ∧ h = h0
set_option maxRecDepth 65536 in
set_option maxHeartbeats 40000000 in
theorem rm_min (l : Launch) (Z : State) (a0 : Array Value) (hw : ∀ d ∈ tables_1, d.before a0 Z = true) (ws : List Jvm.Cond) (n_ : Int32) (h0 : Heap) (n0 : Nat) (O0 : Old Z n0 h0) (u0 : n_ < (16 : Int32)) :
    MetFree l (⟨"java/lang/Math", "min", "(II)I"⟩ : MethodName) (head1 (Jvm.Cond.code (⟨"java/lang/Math", "min", "(II)I"⟩ : MethodName) jdk_29_method_69_code 2 (some .int) :: ws) ({ frames := 0, cells := 0, slots := 0, locals := 0 } : Room)) (fun aV U => aV = #[(.int (16 : Int32)), (.int n_)] ∧ Z.Warmed39 U.vm ∧ U.heap = h0) (fun _ _ _ _ _ => True) (fun _ U o U' => ∃ v L, o = .returned v ∧ Q_min Z n_ h0 n0 v U'.heap L ∧ FrameEnd U o U' L ({ frames := 0, cells := 0, slots := 0, locals := 0 } : Room).cells ({ frames := 0, cells := 0, slots := 0, locals := 0 } : Room).slots) := by
  refine MetFree.of_bodySF (Jvm.Free.JP.mathPlain rfl (by decide +kernel)) hisR ?_
  intro pr_ en_ st_ me_ args below meth_ co_ s₁ Bd hml0 hP hK
  obtain ⟨rfl, hZ, hh⟩ := hP
  have hx := Bd.exec
  have hby := Bd.bytes
  have hml : co_.maxLocals = 2 := hml0
  have hown : st_.vm.findClass "java/lang/Math" = some me_.cls := findClass_of_methodNamed Bd.named
  have hnm := (name_of_methodNamed Bd.named Bd.method).1
  have X0 : Stand pr_ l en_ ({ frames := 0, cells := 0, slots := 0, locals := 0 } : Room) st_ me_ #[(.int (16 : Int32)), (.int n_)] below meth_ co_ s₁ [] 0 0 := Stand.of_body Bd
  have e0 : s₁.heap = h0 := by rw [← hh, Bd.state]; rfl
  have N0 := Fr.nil n0
  have K0 := Keep.refl h0 []
  obtain ⟨G, gv, gf, gb⟩ := own_G pr_.tables en_ below st_ (Q_min Z n_ h0 n0) ({ frames := 0, cells := 0, slots := 0, locals := 0 } : Room).cells ({ frames := 0, cells := 0, slots := 0, locals := 0 } : Room).slots
  show own_Fin pr_.tables en_ below st_ (Q_min Z n_ h0 n0) ({ frames := 0, cells := 0, slots := 0, locals := 0 } : Room).cells ({ frames := 0, cells := 0, slots := 0, locals := 0 } : Room).slots (s₁.setTop (entryFrame me_ #[(.int (16 : Int32)), (.int n_)] 2))
  refine gb _ (gv (fun tQ kQ => castTop (ef_7 me_ (16 : Int32) n_) kQ) ?_)
  show G (s₁.setTop (mkF me_ 0 #[.val (.int (16 : Int32)), .val (.int n_)] []))
  refine gv (fun tQ kQ => XS.iloadN X0.here hx rfl (hb hby d32_0) rfl kQ) ?_
  show G (s₁.setTop (mkF me_ 1 #[.val (.int (16 : Int32)), .val (.int n_)] [(.int (16 : Int32))]))
  refine gv (fun tQ kQ => XS.iloadN X0.here hx rfl (hb hby d32_1) rfl kQ) ?_
  show G (s₁.setTop (mkF me_ 2 #[.val (.int (16 : Int32)), .val (.int n_)] [(.int n_), (.int (16 : Int32))]))
  refine gv (fun tQ kQ => XS.icmpYes X0.here hx rfl (pc0 := 2) (pc' := 9) rfl (hb hby d32_2) rfl (tlt u0).2.2.1 (by decide) (by decide) kQ) ?_
  show G (s₁.setTop (mkF me_ 9 #[.val (.int (16 : Int32)), .val (.int n_)] []))
  refine gv (fun tQ kQ => XS.iloadN X0.here hx rfl (hb hby d32_9) rfl kQ) ?_
  show G (s₁.setTop (mkF me_ 10 #[.val (.int (16 : Int32)), .val (.int n_)] [(.int n_)]))
  refine gf _ (own_ret X0 Bd.notSynchronized (v := some (.int n_)) (fun h => by rw [Bd.returns] at h; cases h) ?_ (by decide) (by decide) (fun fs hr => retOut X0 hx (t := .int) Bd.returns rfl (Or.inl ⟨rfl, Or.inl rfl, _, rfl⟩) (hb hby d32_10) hr))
  show Q_min Z n_ h0 n0 _ s₁.heap _
  rw [e0]
  exact ⟨rfl, N0, rfl⟩
theorem pn_3 : plainName "java/util/Arrays" = true := by first | (simp [plainName, overriddenIn]; done) | decide +kernel
theorem d31_0 : decode jdk_65_method_131_code 0 = .ok (.iload_n 1, 1) := by decide +kernel
theorem d31_1 : decode jdk_65_method_131_code 1 = .ok (.iload_n 0, 1) := by decide +kernel
theorem d31_2 : decode jdk_65_method_131_code 2 = .ok (.if_icmp .ge 35, 3) := by decide +kernel
theorem d31_37 : decode jdk_65_method_131_code 37 = .ok (.return_, 1) := by decide +kernel
def Q_ckl (Z : State) (n_ : Int32) (h0 : Heap) (n0 : Nat) (v : Option Value) (h : Heap) (L : List Loc) : Prop := v = none ∧ Fr n0 L ∧ h = h0
set_option maxRecDepth 65536 in
set_option maxHeartbeats 40000000 in
theorem rm_ckl (l : Launch) (Z : State) (a0 : Array Value) (hw : ∀ d ∈ tables_1, d.before a0 Z = true) (ws : List Jvm.Cond) (n_ : Int32) (h0 : Heap) (n0 : Nat) (O0 : Old Z n0 h0) (u0 : ¬ (n_ < (0 : Int32))) :
    MetFree l (⟨"java/util/Arrays", "checkLength", "(II)V"⟩ : MethodName) (head1 (Jvm.Cond.code (⟨"java/util/Arrays", "checkLength", "(II)V"⟩ : MethodName) jdk_65_method_131_code 2 none :: ws) ({ frames := 0, cells := 0, slots := 0, locals := 0 } : Room)) (fun aV U => aV = #[(.int (0 : Int32)), (.int n_)] ∧ Z.Warmed39 U.vm ∧ U.heap = h0) (fun _ _ _ _ _ => True) (fun _ U o U' => ∃ v L, o = .returned v ∧ Q_ckl Z n_ h0 n0 v U'.heap L ∧ FrameEnd U o U' L ({ frames := 0, cells := 0, slots := 0, locals := 0 } : Room).cells ({ frames := 0, cells := 0, slots := 0, locals := 0 } : Room).slots) := by
  refine MetFree.of_bodySF (plainFor_of_name pn_3) hisR ?_
  intro pr_ en_ st_ me_ args below meth_ co_ s₁ Bd hml0 hP hK
  obtain ⟨rfl, hZ, hh⟩ := hP
  have hx := Bd.exec
  have hby := Bd.bytes
  have hml : co_.maxLocals = 2 := hml0
  have hown : st_.vm.findClass "java/util/Arrays" = some me_.cls := findClass_of_methodNamed Bd.named
  have hnm := (name_of_methodNamed Bd.named Bd.method).1
  have X0 : Stand pr_ l en_ ({ frames := 0, cells := 0, slots := 0, locals := 0 } : Room) st_ me_ #[(.int (0 : Int32)), (.int n_)] below meth_ co_ s₁ [] 0 0 := Stand.of_body Bd
  have e0 : s₁.heap = h0 := by rw [← hh, Bd.state]; rfl
  have N0 := Fr.nil n0
  have K0 := Keep.refl h0 []
  obtain ⟨G, gv, gf, gb⟩ := own_G pr_.tables en_ below st_ (Q_ckl Z n_ h0 n0) ({ frames := 0, cells := 0, slots := 0, locals := 0 } : Room).cells ({ frames := 0, cells := 0, slots := 0, locals := 0 } : Room).slots
  show own_Fin pr_.tables en_ below st_ (Q_ckl Z n_ h0 n0) ({ frames := 0, cells := 0, slots := 0, locals := 0 } : Room).cells ({ frames := 0, cells := 0, slots := 0, locals := 0 } : Room).slots (s₁.setTop (entryFrame me_ #[(.int (0 : Int32)), (.int n_)] 2))
  refine gb _ (gv (fun tQ kQ => castTop (ef_7 me_ (0 : Int32) n_) kQ) ?_)
  show G (s₁.setTop (mkF me_ 0 #[.val (.int (0 : Int32)), .val (.int n_)] []))
  refine gv (fun tQ kQ => XS.iloadN X0.here hx rfl (hb hby d31_0) rfl kQ) ?_
  show G (s₁.setTop (mkF me_ 1 #[.val (.int (0 : Int32)), .val (.int n_)] [(.int n_)]))
  refine gv (fun tQ kQ => XS.iloadN X0.here hx rfl (hb hby d31_1) rfl kQ) ?_
  show G (s₁.setTop (mkF me_ 2 #[.val (.int (0 : Int32)), .val (.int n_)] [(.int (0 : Int32)), (.int n_)]))
  refine gv (fun tQ kQ => XS.icmpYes X0.here hx rfl (pc0 := 2) (pc' := 37) rfl (hb hby d31_2) rfl (flt u0).2.1 (by decide) (by decide) kQ) ?_
  show G (s₁.setTop (mkF me_ 37 #[.val (.int (0 : Int32)), .val (.int n_)] []))
  refine gf _ (own_ret X0 Bd.notSynchronized (v := none) (fun _ => rfl) ?_ (by decide) (by decide) (fun fs hr => X0.returnOut hx Bd.returns (hb hby d31_37) hr))
  show Q_ckl Z n_ h0 n0 _ s₁.heap _
  rw [e0]
  exact ⟨rfl, N0, rfl⟩
theorem ef_8 (m : MethodId) (x0 : Addr) (x1 : Int32) (x2 : Int32)  : entryFrame m #[(.ref x0), (.int x1), (.int x2)] 5 = mkF m 0 #[.val (.ref x0), .val (.int x1), .val (.int x2), .unset, .unset] [] := by first | (simp [entryFrame, mkF, argsToLocals, Value.category]; done) | rfl
theorem d30_0 : decode jdk_65_method_133_code 0 = .ok (.iload_n 1, 1) := by decide +kernel
theorem d30_1 : decode jdk_65_method_133_code 1 = .ok (.iload_n 2, 1) := by decide +kernel
theorem d30_2 : decode jdk_65_method_133_code 2 = .ok (.invokestatic 343, 3) := by decide +kernel
theorem pd_7 : parseMethodDescriptor "(II)V" = some ⟨[.int, .int], none⟩ := by decide +kernel
theorem d30_5 : decode jdk_65_method_133_code 5 = .ok (.iload_n 2, 1) := by decide +kernel
theorem d30_6 : decode jdk_65_method_133_code 6 = .ok (.iload_n 1, 1) := by decide +kernel
theorem d30_7 : decode jdk_65_method_133_code 7 = .ok (.isub, 1) := by decide +kernel
theorem d30_8 : decode jdk_65_method_133_code 8 = .ok (.istore_n 3, 1) := by decide +kernel
theorem d30_9 : decode jdk_65_method_133_code 9 = .ok (.iload_n 3, 1) := by decide +kernel
theorem d30_10 : decode jdk_65_method_133_code 10 = .ok (.newarray .byte, 2) := by decide +kernel
theorem d30_12 : decode jdk_65_method_133_code 12 = .ok (.astore 4, 2) := by decide +kernel
theorem d30_14 : decode jdk_65_method_133_code 14 = .ok (.aload_n 0, 1) := by decide +kernel
theorem d30_15 : decode jdk_65_method_133_code 15 = .ok (.iload_n 1, 1) := by decide +kernel
theorem d30_16 : decode jdk_65_method_133_code 16 = .ok (.aload 4, 2) := by decide +kernel
theorem d30_18 : decode jdk_65_method_133_code 18 = .ok (.iconst 0, 1) := by decide +kernel
theorem d30_19 : decode jdk_65_method_133_code 19 = .ok (.aload_n 0, 1) := by decide +kernel
theorem d30_20 : decode jdk_65_method_133_code 20 = .ok (.arraylength, 1) := by decide +kernel
theorem d30_21 : decode jdk_65_method_133_code 21 = .ok (.iload_n 1, 1) := by decide +kernel
theorem d30_22 : decode jdk_65_method_133_code 22 = .ok (.isub, 1) := by decide +kernel
theorem d30_23 : decode jdk_65_method_133_code 23 = .ok (.iload_n 3, 1) := by decide +kernel
theorem d30_24 : decode jdk_65_method_133_code 24 = .ok (.invokestatic 304, 3) := by decide +kernel
theorem pd_8 : parseMethodDescriptor "(II)I" = some ⟨[.int, .int], some .int⟩ := by decide +kernel
theorem d30_27 : decode jdk_65_method_133_code 27 = .ok (.invokestatic 150, 3) := by decide +kernel
theorem d30_30 : decode jdk_65_method_133_code 30 = .ok (.aload 4, 2) := by decide +kernel
theorem d30_32 : decode jdk_65_method_133_code 32 = .ok (.areturn, 1) := by decide +kernel
def Q_corb (Z : State) (bb : Addr) (kb : ClassId) (vs : List Value) (ct : Int32) (h0 : Heap) (n0 : Nat) (v : Option Value) (h : Heap) (L : List Loc) : Prop := ∃ (r : Addr), ∃ (kr : ClassId), v = some (.ref r) ∧ Fr n0 L ∧ Keep h0 h [] ∧ h0.size ≤ r ∧ (Arv Z h r kr .byte ct (own_put (List.replicate ct.toNatClampNeg (.int (0 : Int32))) (0 : Int32) vs ct) (.int (0 : Int32)))
set_option maxRecDepth 65536 in
set_option maxHeartbeats 40000000 in
theorem rm_corb (l : Launch) (Z : State) (a0 : Array Value) (hw : ∀ d ∈ tables_1, d.before a0 Z = true) (ws : List Jvm.Cond) (bb : Addr) (kb : ClassId) (vs : List Value) (ct : Int32) (h0 : Heap) (n0 : Nat) (O0 : Old Z n0 h0) (u0 : Arv Z h0 bb kb .byte (16 : Int32) vs (.int (0 : Int32))) (u1 : ¬ (ct < (0 : Int32))) (u2 : ct < (16 : Int32)) :
    MetFree l (⟨"java/util/Arrays", "copyOfRangeByte", "([BII)[B"⟩ : MethodName) (head1 (Jvm.Cond.code (⟨"java/util/Arrays", "copyOfRangeByte", "([BII)[B"⟩ : MethodName) jdk_65_method_133_code 5 (some (.array .byte)) :: ws) ({ frames := 1, cells := 1, slots := 16, locals := 40 } : Room)) (fun aV U => aV = #[(.ref bb), (.int (0 : Int32)), (.int ct)] ∧ Z.Warmed39 U.vm ∧ U.heap = h0) (fun _ _ _ _ _ => True) (fun _ U o U' => ∃ v L, o = .returned v ∧ Q_corb Z bb kb vs ct h0 n0 v U'.heap L ∧ FrameEnd U o U' L ({ frames := 1, cells := 1, slots := 16, locals := 40 } : Room).cells ({ frames := 1, cells := 1, slots := 16, locals := 40 } : Room).slots) := by
  refine MetFree.of_bodySF (plainFor_of_name pn_3) hisR ?_
  intro pr_ en_ st_ me_ args below meth_ co_ s₁ Bd hml0 hP hK
  obtain ⟨rfl, hZ, hh⟩ := hP
  have hx := Bd.exec
  have hby := Bd.bytes
  have hml : co_.maxLocals = 5 := hml0
  have hown : st_.vm.findClass "java/util/Arrays" = some me_.cls := findClass_of_methodNamed Bd.named
  have hnm := (name_of_methodNamed Bd.named Bd.method).1
  have X0 : Stand pr_ l en_ ({ frames := 1, cells := 1, slots := 16, locals := 40 } : Room) st_ me_ #[(.ref bb), (.int (0 : Int32)), (.int ct)] below meth_ co_ s₁ [] 0 0 := Stand.of_body Bd
  have e0 : s₁.heap = h0 := by rw [← hh, Bd.state]; rfl
  have N0 := Fr.nil n0
  have K0 := Keep.refl h0 []
  obtain ⟨G, gv, gf, gb⟩ := own_G pr_.tables en_ below st_ (Q_corb Z bb kb vs ct h0 n0) ({ frames := 1, cells := 1, slots := 16, locals := 40 } : Room).cells ({ frames := 1, cells := 1, slots := 16, locals := 40 } : Room).slots
  show own_Fin pr_.tables en_ below st_ (Q_corb Z bb kb vs ct h0 n0) ({ frames := 1, cells := 1, slots := 16, locals := 40 } : Room).cells ({ frames := 1, cells := 1, slots := 16, locals := 40 } : Room).slots (s₁.setTop (entryFrame me_ #[(.ref bb), (.int (0 : Int32)), (.int ct)] 5))
  refine gb _ (gv (fun tQ kQ => castTop (ef_8 me_ bb (0 : Int32) ct) kQ) ?_)
  show G (s₁.setTop (mkF me_ 0 #[.val (.ref bb), .val (.int (0 : Int32)), .val (.int ct), .unset, .unset] []))
  refine gv (fun tQ kQ => XS.iloadN X0.here hx rfl (hb hby d30_0) rfl kQ) ?_
  show G (s₁.setTop (mkF me_ 1 #[.val (.ref bb), .val (.int (0 : Int32)), .val (.int ct), .unset, .unset] [(.int (0 : Int32))]))
  refine gv (fun tQ kQ => XS.iloadN X0.here hx rfl (hb hby d30_1) rfl kQ) ?_
  show G (s₁.setTop (mkF me_ 2 #[.val (.ref bb), .val (.int (0 : Int32)), .val (.int ct), .unset, .unset] [(.int ct), (.int (0 : Int32))]))
  obtain ⟨_, _, ⟨T128, L128, k128, n128⟩, -, X128, ⟨Lc128, hQ128, l128, y128, z128⟩, st128⟩ := Jvm.LawKit.callS X0 hx (y := (⟨"java/util/Arrays", "checkLength", "(II)V"⟩ : MethodName)) hown (mvT hZ (hw _ (List.mem_of_getElem? (i := 167) rfl))) (mvT hZ (hw _ (List.mem_of_getElem? (i := 168) rfl))) (mvT hZ (hw _ (List.mem_of_getElem? (i := 162) rfl))) (mvT hZ (hw _ (List.mem_of_getElem? (i := 169) rfl))) (by decide) (backOf (W := 0) (rm_ckl l Z a0 hw [] ct h0 n0 O0 u1) hZ (hw _ (List.mem_of_getElem? (i := 169) rfl)) (hw _ (List.mem_of_getElem? (i := 162) rfl)) (by decide) (by decide)) (g := (mkF me_ 2 #[.val (.ref bb), .val (.int (0 : Int32)), .val (.int ct), .unset, .unset] [(.int ct), (.int (0 : Int32))])) rfl (by rw [hml]; rfl) (argsL := [(.int (0 : Int32)), (.int ct)]) (rest := []) (lenOf pd_7 rfl) rfl (by show 2 * 0 + _ ≤ _; exact Nat.le_of_eq rfl) (hb hby d30_2) (fun _ _ => ⟨rfl, e0, (by decide : 0 + 0 ≤ _), (by decide : 0 + 0 ≤ _)⟩)
  dsimp only [Pt.U, Pt.locs, Pt.cells, Pt.slots] at X128 l128 y128 z128 st128 hQ128
  subst l128 y128 z128
  obtain ⟨rfl, Nq128, eq128⟩ := hQ128
  have N129 := Fr.app N0 Nq128
  refine gv st128 ?_
  show G (T128.setTop (mkF me_ 5 #[.val (.ref bb), .val (.int (0 : Int32)), .val (.int ct), .unset, .unset] []))
  refine gv (fun tQ kQ => XS.iloadN X128.here hx rfl (hb hby d30_5) rfl kQ) ?_
  show G (T128.setTop (mkF me_ 6 #[.val (.ref bb), .val (.int (0 : Int32)), .val (.int ct), .unset, .unset] [(.int ct)]))
  refine gv (fun tQ kQ => XS.iloadN X128.here hx rfl (hb hby d30_6) rfl kQ) ?_
  show G (T128.setTop (mkF me_ 7 #[.val (.ref bb), .val (.int (0 : Int32)), .val (.int ct), .unset, .unset] [(.int (0 : Int32)), (.int ct)]))
  refine gv (fun tQ kQ => XS.isub X128.here hx rfl (hb hby d30_7) rfl kQ) ?_
  show G (T128.setTop (mkF me_ 8 #[.val (.ref bb), .val (.int (0 : Int32)), .val (.int ct), .unset, .unset] [(.int (ct - (0 : Int32)))]))
  rw [own_sub0 ct]
  show G (T128.setTop (mkF me_ 8 #[.val (.ref bb), .val (.int (0 : Int32)), .val (.int ct), .unset, .unset] [(.int ct)]))
  refine gv (fun tQ kQ => XS.istoreN X128.here hx rfl (hb hby d30_8) rfl (l' := #[.val (.ref bb), .val (.int (0 : Int32)), .val (.int ct), .val (.int ct), .unset]) rfl kQ) ?_
  show G (T128.setTop (mkF me_ 9 #[.val (.ref bb), .val (.int (0 : Int32)), .val (.int ct), .val (.int ct), .unset] []))
  refine gv (fun tQ kQ => XS.iloadN X128.here hx rfl (hb hby d30_9) rfl kQ) ?_
  show G (T128.setTop (mkF me_ 10 #[.val (.ref bb), .val (.int (0 : Int32)), .val (.int ct), .val (.int ct), .unset] [(.int ct)]))
  obtain ⟨T130, h130, k130, X130, e130, E130, A130, st130⟩ := newP X128 hx hZ (hw _ (List.mem_of_getElem? (i := 19) rfl)) eq128 (g := (mkF me_ 10 #[.val (.ref bb), .val (.int (0 : Int32)), .val (.int ct), .val (.int ct), .unset] [(.int ct)])) rfl (hb hby d30_10) rfl u1 (cap := 16) (own_le16 u1 u2) (by decide) (by decide) (by decide)
  obtain ⟨b130, g130⟩ : ∃ z, z = h0.size := ⟨_, rfl⟩
  rw [← g130] at A130 st130
  refine gv st130 ?_
  have ne131 : bb ≠ b130 := Nat.ne_of_lt (Nat.lt_of_lt_of_le u0.lt (Nat.le_of_eq g130.symm))
  have g132 : n0 ≤ b130 := Nat.le_trans (own_old O0) (Nat.le_of_eq g130.symm)
  have z133 : h0.size ≤ b130 := Nat.le_trans K0.1 (Nat.le_of_eq g130.symm)
  have f134 : Arv Z h130 bb kb .byte (16 : Int32) vs (.int (0 : Int32)) := u0.ext E130
  have O135 := O0.ext E130
  have K136 := K0.ext E130
  have V130 : Arv Z h130 b130 k130 .byte ct (List.replicate ct.toNatClampNeg (.int (0 : Int32))) (.int (0 : Int32)) := (Arv.new A130 u1).pad (pad_rep [] (.int (0 : Int32)) _)
  show G (T130.setTop (mkF me_ 12 #[.val (.ref bb), .val (.int (0 : Int32)), .val (.int ct), .val (.int ct), .unset] [(.ref b130)]))
  refine gv (fun tQ kQ => XS.astore X130.here hx rfl (hb hby d30_12) rfl rfl (l' := #[.val (.ref bb), .val (.int (0 : Int32)), .val (.int ct), .val (.int ct), .val (.ref b130)]) rfl kQ) ?_
  show G (T130.setTop (mkF me_ 14 #[.val (.ref bb), .val (.int (0 : Int32)), .val (.int ct), .val (.int ct), .val (.ref b130)] []))
  refine gv (fun tQ kQ => XS.aloadN X130.here hx rfl (hb hby d30_14) rfl rfl kQ) ?_
  show G (T130.setTop (mkF me_ 15 #[.val (.ref bb), .val (.int (0 : Int32)), .val (.int ct), .val (.int ct), .val (.ref b130)] [(.ref bb)]))
  refine gv (fun tQ kQ => XS.iloadN X130.here hx rfl (hb hby d30_15) rfl kQ) ?_
  show G (T130.setTop (mkF me_ 16 #[.val (.ref bb), .val (.int (0 : Int32)), .val (.int ct), .val (.int ct), .val (.ref b130)] [(.int (0 : Int32)), (.ref bb)]))
  refine gv (fun tQ kQ => XS.aload X130.here hx rfl (hb hby d30_16) rfl rfl kQ) ?_
  show G (T130.setTop (mkF me_ 18 #[.val (.ref bb), .val (.int (0 : Int32)), .val (.int ct), .val (.int ct), .val (.ref b130)] [(.ref b130), (.int (0 : Int32)), (.ref bb)]))
  refine gv (fun tQ kQ => XS.iconst X130.here hx rfl (hb hby d30_18) kQ) ?_
  show G (T130.setTop (mkF me_ 19 #[.val (.ref bb), .val (.int (0 : Int32)), .val (.int ct), .val (.int ct), .val (.ref b130)] [(.int (0 : Int32)), (.ref b130), (.int (0 : Int32)), (.ref bb)]))
  refine gv (fun tQ kQ => XS.aloadN X130.here hx rfl (hb hby d30_19) rfl rfl kQ) ?_
  show G (T130.setTop (mkF me_ 20 #[.val (.ref bb), .val (.int (0 : Int32)), .val (.int ct), .val (.int ct), .val (.ref b130)] [(.ref bb), (.int (0 : Int32)), (.ref b130), (.int (0 : Int32)), (.ref bb)]))
  obtain ⟨cl137, Ar137, -, S137, n137, -, -⟩ := (id f134)
  refine gv (X130.arraylength hx (by rw [e130]; exact Ar137.1) (State.isArrayOf_alike hZ.alike Ar137.2.1) (g := (mkF me_ 20 #[.val (.ref bb), .val (.int (0 : Int32)), .val (.int ct), .val (.int ct), .val (.ref b130)] [(.ref bb), (.int (0 : Int32)), (.ref b130), (.int (0 : Int32)), (.ref bb)])) rfl rfl (hb hby d30_20)) ?_
  rw [len_of S137 n137]
  show G (T130.setTop (mkF me_ 21 #[.val (.ref bb), .val (.int (0 : Int32)), .val (.int ct), .val (.int ct), .val (.ref b130)] [(.int (16 : Int32)), (.int (0 : Int32)), (.ref b130), (.int (0 : Int32)), (.ref bb)]))
  refine gv (fun tQ kQ => XS.iloadN X130.here hx rfl (hb hby d30_21) rfl kQ) ?_
  show G (T130.setTop (mkF me_ 22 #[.val (.ref bb), .val (.int (0 : Int32)), .val (.int ct), .val (.int ct), .val (.ref b130)] [(.int (0 : Int32)), (.int (16 : Int32)), (.int (0 : Int32)), (.ref b130), (.int (0 : Int32)), (.ref bb)]))
  refine gv (fun tQ kQ => XS.isub X130.here hx rfl (hb hby d30_22) rfl kQ) ?_
  show G (T130.setTop (mkF me_ 23 #[.val (.ref bb), .val (.int (0 : Int32)), .val (.int ct), .val (.int ct), .val (.ref b130)] [(.int ((16 : Int32) - (0 : Int32))), (.int (0 : Int32)), (.ref b130), (.int (0 : Int32)), (.ref bb)]))
  rw [(by decide : ((16 : Int32) - (0 : Int32)) = (16 : Int32))]
  show G (T130.setTop (mkF me_ 23 #[.val (.ref bb), .val (.int (0 : Int32)), .val (.int ct), .val (.int ct), .val (.ref b130)] [(.int (16 : Int32)), (.int (0 : Int32)), (.ref b130), (.int (0 : Int32)), (.ref bb)]))
  refine gv (fun tQ kQ => XS.iloadN X130.here hx rfl (hb hby d30_23) rfl kQ) ?_
  show G (T130.setTop (mkF me_ 24 #[.val (.ref bb), .val (.int (0 : Int32)), .val (.int ct), .val (.int ct), .val (.ref b130)] [(.int ct), (.int (16 : Int32)), (.int (0 : Int32)), (.ref b130), (.int (0 : Int32)), (.ref bb)]))
  obtain ⟨_, _, ⟨T138, L138, k138, n138⟩, -, X138, ⟨Lc138, hQ138, l138, y138, z138⟩, st138⟩ := Jvm.LawKit.callS X130 hx (y := (⟨"java/lang/Math", "min", "(II)I"⟩ : MethodName)) hown (mvT hZ (hw _ (List.mem_of_getElem? (i := 170) rfl))) (mvT hZ (hw _ (List.mem_of_getElem? (i := 171) rfl))) (mvT hZ (hw _ (List.mem_of_getElem? (i := 172) rfl))) (mvT hZ (hw _ (List.mem_of_getElem? (i := 173) rfl))) (by decide) (backOf (W := 4) (rm_min l Z a0 hw [] ct h130 n0 O135 u2) hZ (hw _ (List.mem_of_getElem? (i := 173) rfl)) (hw _ (List.mem_of_getElem? (i := 172) rfl)) (by decide) (by decide)) (g := (mkF me_ 24 #[.val (.ref bb), .val (.int (0 : Int32)), .val (.int ct), .val (.int ct), .val (.ref b130)] [(.int ct), (.int (16 : Int32)), (.int (0 : Int32)), (.ref b130), (.int (0 : Int32)), (.ref bb)])) rfl (by rw [hml]; rfl) (argsL := [(.int (16 : Int32)), (.int ct)]) (rest := [(.int (0 : Int32)), (.ref b130), (.int (0 : Int32)), (.ref bb)]) (lenOf pd_8 rfl) rfl (by show 2 * 0 + _ ≤ _; exact Nat.le_of_eq rfl) (hb hby d30_24) (fun _ _ => ⟨rfl, e130, (by decide : 1 + 0 ≤ _), (by decide : 16 + 0 ≤ _)⟩)
  dsimp only [Pt.U, Pt.locs, Pt.cells, Pt.slots] at X138 l138 y138 z138 st138 hQ138
  subst l138 y138 z138
  obtain ⟨rfl, Nq138, eq138⟩ := hQ138
  have N139 := Fr.app N129 Nq138
  refine gv st138 ?_
  show G (T138.setTop (mkF me_ 27 #[.val (.ref bb), .val (.int (0 : Int32)), .val (.int ct), .val (.int ct), .val (.ref b130)] [(.int ct), (.int (0 : Int32)), (.ref b130), (.int (0 : Int32)), (.ref bb)]))
  obtain ⟨T140, h140, L140, X140, e140, N140, Kq140, A140, st140⟩ := cpA X138 hx hZ hown (hw _ (List.mem_of_getElem? (i := 174) rfl)) (hw _ (List.mem_of_getElem? (i := 128) rfl)) (hw _ (List.mem_of_getElem? (i := 126) rfl)) (hw _ (List.mem_of_getElem? (i := 127) rfl)) eq138 f134 V130 (Or.inl ⟨rfl, rfl⟩) (sp := (0 : Int32)) (dp := (0 : Int32)) (nn := ct) (by decide) (by decide) u1 (own_c16 (Nat.le_trans (own_z _) (own_le16 u1 u2))) (own_z _) rfl (by rw [List.length_replicate]; exact own_z _) N139 g132 (g := (mkF me_ 27 #[.val (.ref bb), .val (.int (0 : Int32)), .val (.int ct), .val (.int ct), .val (.ref b130)] [(.int ct), (.int (0 : Int32)), (.ref b130), (.int (0 : Int32)), (.ref bb)])) rfl (by rw [hml]; rfl) (rest := []) rfl (hb hby d30_27) (by decide) (W := 0) (by show 2 * 0 + _ ≤ _; exact Nat.le_of_eq rfl) (by decide)
  refine gv st140 ?_
  have f141 : Arv Z h140 bb kb .byte (16 : Int32) vs (.int (0 : Int32)) := f134.keep Kq140 (ninS ne131 nin0)
  have O142 := O135.keep Kq140 (allS g132 all0)
  have K143 := K136.trans Kq140 (allS (Or.inr z133) all0)
  have P140 : Arv Z h140 b130 k130 .byte ct (own_put (List.replicate ct.toNatClampNeg (.int (0 : Int32))) (0 : Int32) vs ct) (.int (0 : Int32)) := A140
  show G (T140.setTop (mkF me_ 30 #[.val (.ref bb), .val (.int (0 : Int32)), .val (.int ct), .val (.int ct), .val (.ref b130)] []))
  refine gv (fun tQ kQ => XS.aload X140.here hx rfl (hb hby d30_30) rfl rfl kQ) ?_
  show G (T140.setTop (mkF me_ 32 #[.val (.ref bb), .val (.int (0 : Int32)), .val (.int ct), .val (.int ct), .val (.ref b130)] [(.ref b130)]))
  refine gf _ (own_ret X140 Bd.notSynchronized (v := some (.ref b130)) (fun h => by rw [Bd.returns] at h; cases h) ?_ (by decide) (by decide) (fun fs hr => retOut X140 hx (t := (.array .byte)) Bd.returns rfl (Or.inr (Or.inr (Or.inr (Or.inr ⟨rfl, rfl, rfl⟩)))) (hb hby d30_32) hr))
  show Q_corb Z bb kb vs ct h0 n0 _ T140.heap _
  rw [e140]
  exact ⟨b130, k130, rfl, N140, K143, z133, P140⟩
theorem ef_9 (m : MethodId) (x0 : Addr) (x1 : Int32) (x2 : Int32)  : entryFrame m #[(.ref x0), (.int x1), (.int x2)] 3 = mkF m 0 #[.val (.ref x0), .val (.int x1), .val (.int x2)] [] := by first | (simp [entryFrame, mkF, argsToLocals, Value.category]; done) | rfl
theorem d29_0 : decode jdk_65_method_132_code 0 = .ok (.iload_n 1, 1) := by decide +kernel
theorem d29_1 : decode jdk_65_method_132_code 1 = .ok (.ifCond .ne 9, 3) := by decide +kernel
theorem d29_4 : decode jdk_65_method_132_code 4 = .ok (.iload_n 2, 1) := by decide +kernel
theorem d29_5 : decode jdk_65_method_132_code 5 = .ok (.aload_n 0, 1) := by decide +kernel
theorem d29_6 : decode jdk_65_method_132_code 6 = .ok (.arraylength, 1) := by decide +kernel
theorem d29_7 : decode jdk_65_method_132_code 7 = .ok (.if_icmp .eq 10, 3) := by decide +kernel
theorem d29_10 : decode jdk_65_method_132_code 10 = .ok (.aload_n 0, 1) := by decide +kernel
theorem d29_11 : decode jdk_65_method_132_code 11 = .ok (.iload_n 1, 1) := by decide +kernel
theorem d29_12 : decode jdk_65_method_132_code 12 = .ok (.iload_n 2, 1) := by decide +kernel
theorem d29_13 : decode jdk_65_method_132_code 13 = .ok (.invokestatic 339, 3) := by decide +kernel
theorem pd_9 : parseMethodDescriptor "([BII)[B" = some ⟨[(.array .byte), .int, .int], some (.array .byte)⟩ := by decide +kernel
theorem d29_16 : decode jdk_65_method_132_code 16 = .ok (.areturn, 1) := by decide +kernel
def Q_cor (Z : State) (bb : Addr) (kb : ClassId) (vs : List Value) (ct : Int32) (h0 : Heap) (n0 : Nat) (v : Option Value) (h : Heap) (L : List Loc) : Prop := ∃ (r : Addr), ∃ (kr : ClassId), v = some (.ref r) ∧ Fr n0 L ∧ Keep h0 h [] ∧ h0.size ≤ r ∧ (Arv Z h r kr .byte ct (own_put (List.replicate ct.toNatClampNeg (.int (0 : Int32))) (0 : Int32) vs ct) (.int (0 : Int32)))
set_option maxRecDepth 65536 in
set_option maxHeartbeats 40000000 in
theorem rm_cor (l : Launch) (Z : State) (a0 : Array Value) (hw : ∀ d ∈ tables_1, d.before a0 Z = true) (ws : List Jvm.Cond) (bb : Addr) (kb : ClassId) (vs : List Value) (ct : Int32) (h0 : Heap) (n0 : Nat) (O0 : Old Z n0 h0) (u0 : Arv Z h0 bb kb .byte (16 : Int32) vs (.int (0 : Int32))) (u1 : ¬ (ct < (0 : Int32))) (u2 : ct < (16 : Int32)) :
    MetFree l (⟨"java/util/Arrays", "copyOfRange", "([BII)[B"⟩ : MethodName) (head1 (Jvm.Cond.code (⟨"java/util/Arrays", "copyOfRange", "([BII)[B"⟩ : MethodName) jdk_65_method_132_code 3 (some (.array .byte)) :: ws) ({ frames := 2, cells := 1, slots := 16, locals := 56 } : Room)) (fun aV U => aV = #[(.ref bb), (.int (0 : Int32)), (.int ct)] ∧ Z.Warmed39 U.vm ∧ U.heap = h0) (fun _ _ _ _ _ => True) (fun _ U o U' => ∃ v L, o = .returned v ∧ Q_cor Z bb kb vs ct h0 n0 v U'.heap L ∧ FrameEnd U o U' L ({ frames := 2, cells := 1, slots := 16, locals := 56 } : Room).cells ({ frames := 2, cells := 1, slots := 16, locals := 56 } : Room).slots) := by
  refine MetFree.of_bodySF (plainFor_of_name pn_3) hisR ?_
  intro pr_ en_ st_ me_ args below meth_ co_ s₁ Bd hml0 hP hK
  obtain ⟨rfl, hZ, hh⟩ := hP
  have hx := Bd.exec
  have hby := Bd.bytes
  have hml : co_.maxLocals = 3 := hml0
  have hown : st_.vm.findClass "java/util/Arrays" = some me_.cls := findClass_of_methodNamed Bd.named
  have hnm := (name_of_methodNamed Bd.named Bd.method).1
  have X0 : Stand pr_ l en_ ({ frames := 2, cells := 1, slots := 16, locals := 56 } : Room) st_ me_ #[(.ref bb), (.int (0 : Int32)), (.int ct)] below meth_ co_ s₁ [] 0 0 := Stand.of_body Bd
  have e0 : s₁.heap = h0 := by rw [← hh, Bd.state]; rfl
  have N0 := Fr.nil n0
  have K0 := Keep.refl h0 []
  obtain ⟨G, gv, gf, gb⟩ := own_G pr_.tables en_ below st_ (Q_cor Z bb kb vs ct h0 n0) ({ frames := 2, cells := 1, slots := 16, locals := 56 } : Room).cells ({ frames := 2, cells := 1, slots := 16, locals := 56 } : Room).slots
  show own_Fin pr_.tables en_ below st_ (Q_cor Z bb kb vs ct h0 n0) ({ frames := 2, cells := 1, slots := 16, locals := 56 } : Room).cells ({ frames := 2, cells := 1, slots := 16, locals := 56 } : Room).slots (s₁.setTop (entryFrame me_ #[(.ref bb), (.int (0 : Int32)), (.int ct)] 3))
  refine gb _ (gv (fun tQ kQ => castTop (ef_9 me_ bb (0 : Int32) ct) kQ) ?_)
  show G (s₁.setTop (mkF me_ 0 #[.val (.ref bb), .val (.int (0 : Int32)), .val (.int ct)] []))
  refine gv (fun tQ kQ => XS.iloadN X0.here hx rfl (hb hby d29_0) rfl kQ) ?_
  show G (s₁.setTop (mkF me_ 1 #[.val (.ref bb), .val (.int (0 : Int32)), .val (.int ct)] [(.int (0 : Int32))]))
  refine gv (fun tQ kQ => XS.ifNo X0.here hx rfl (hb hby d29_1) rfl ((if0 _ _).trans (teq (by decide : (0 : Int32) = (0 : Int32))).2) kQ) ?_
  show G (s₁.setTop (mkF me_ 4 #[.val (.ref bb), .val (.int (0 : Int32)), .val (.int ct)] []))
  refine gv (fun tQ kQ => XS.iloadN X0.here hx rfl (hb hby d29_4) rfl kQ) ?_
  show G (s₁.setTop (mkF me_ 5 #[.val (.ref bb), .val (.int (0 : Int32)), .val (.int ct)] [(.int ct)]))
  refine gv (fun tQ kQ => XS.aloadN X0.here hx rfl (hb hby d29_5) rfl rfl kQ) ?_
  show G (s₁.setTop (mkF me_ 6 #[.val (.ref bb), .val (.int (0 : Int32)), .val (.int ct)] [(.ref bb), (.int ct)]))
  obtain ⟨cl144, Ar144, -, S144, n144, -, -⟩ := (id u0)
  refine gv (X0.arraylength hx (by rw [e0]; exact Ar144.1) (State.isArrayOf_alike hZ.alike Ar144.2.1) (g := (mkF me_ 6 #[.val (.ref bb), .val (.int (0 : Int32)), .val (.int ct)] [(.ref bb), (.int ct)])) rfl rfl (hb hby d29_6)) ?_
  rw [len_of S144 n144]
  show G (s₁.setTop (mkF me_ 7 #[.val (.ref bb), .val (.int (0 : Int32)), .val (.int ct)] [(.int (16 : Int32)), (.int ct)]))
  refine gv (fun tQ kQ => XS.icmpNo X0.here hx rfl (hb hby d29_7) rfl (feq (own_ne16 u2)).1 kQ) ?_
  show G (s₁.setTop (mkF me_ 10 #[.val (.ref bb), .val (.int (0 : Int32)), .val (.int ct)] []))
  refine gv (fun tQ kQ => XS.aloadN X0.here hx rfl (hb hby d29_10) rfl rfl kQ) ?_
  show G (s₁.setTop (mkF me_ 11 #[.val (.ref bb), .val (.int (0 : Int32)), .val (.int ct)] [(.ref bb)]))
  refine gv (fun tQ kQ => XS.iloadN X0.here hx rfl (hb hby d29_11) rfl kQ) ?_
  show G (s₁.setTop (mkF me_ 12 #[.val (.ref bb), .val (.int (0 : Int32)), .val (.int ct)] [(.int (0 : Int32)), (.ref bb)]))
  refine gv (fun tQ kQ => XS.iloadN X0.here hx rfl (hb hby d29_12) rfl kQ) ?_
  show G (s₁.setTop (mkF me_ 13 #[.val (.ref bb), .val (.int (0 : Int32)), .val (.int ct)] [(.int ct), (.int (0 : Int32)), (.ref bb)]))
  obtain ⟨_, _, ⟨T145, L145, k145, n145⟩, -, X145, ⟨Lc145, hQ145, l145, y145, z145⟩, st145⟩ := Jvm.LawKit.callS X0 hx (y := (⟨"java/util/Arrays", "copyOfRangeByte", "([BII)[B"⟩ : MethodName)) hown (mvT hZ (hw _ (List.mem_of_getElem? (i := 164) rfl))) (mvT hZ (hw _ (List.mem_of_getElem? (i := 165) rfl))) (mvT hZ (hw _ (List.mem_of_getElem? (i := 162) rfl))) (mvT hZ (hw _ (List.mem_of_getElem? (i := 166) rfl))) (by decide) (backOf (W := 0) (rm_corb l Z a0 hw [] bb kb vs ct h0 n0 O0 u0 u1 u2) hZ (hw _ (List.mem_of_getElem? (i := 166) rfl)) (hw _ (List.mem_of_getElem? (i := 162) rfl)) (by decide) (by decide)) (g := (mkF me_ 13 #[.val (.ref bb), .val (.int (0 : Int32)), .val (.int ct)] [(.int ct), (.int (0 : Int32)), (.ref bb)])) rfl (by rw [hml]; rfl) (argsL := [(.ref bb), (.int (0 : Int32)), (.int ct)]) (rest := []) (lenOf pd_9 rfl) rfl (by show 2 * 0 + _ ≤ _; exact Nat.le_of_eq rfl) (hb hby d29_13) (fun _ _ => ⟨rfl, e0, (by decide : 0 + 1 ≤ _), (by decide : 0 + 16 ≤ _)⟩)
  dsimp only [Pt.U, Pt.locs, Pt.cells, Pt.slots] at X145 l145 y145 z145 st145 hQ145
  subst l145 y145 z145
  obtain ⟨r_145, kr_145, rfl, Nq145, Kq145, w145_0, w145_1⟩ := hQ145
  have N146 := Fr.app N0 Nq145
  obtain ⟨h145, e145⟩ : ∃ z, T145.heap = z := ⟨_, rfl⟩
  rw [e145] at Kq145 w145_1
  have ne147 : bb ≠ r_145 := Nat.ne_of_lt (Nat.lt_of_lt_of_le u0.lt w145_0)
  have g148 : n0 ≤ r_145 := Nat.le_trans (own_old O0) w145_0
  have z149 : h0.size ≤ r_145 := Nat.le_trans K0.1 w145_0
  have f150 : Arv Z h145 bb kb .byte (16 : Int32) vs (.int (0 : Int32)) := u0.keep Kq145 nin0
  have O151 := O0.keep Kq145 all0
  have K152 := K0.trans Kq145 all0
  refine gv st145 ?_
  show G (T145.setTop (mkF me_ 16 #[.val (.ref bb), .val (.int (0 : Int32)), .val (.int ct)] [(.ref r_145)]))
  refine gf _ (own_ret X145 Bd.notSynchronized (v := some (.ref r_145)) (fun h => by rw [Bd.returns] at h; cases h) ?_ (by decide) (by decide) (fun fs hr => retOut X145 hx (t := (.array .byte)) Bd.returns rfl (Or.inr (Or.inr (Or.inr (Or.inr ⟨rfl, rfl, rfl⟩)))) (hb hby d29_16) hr))
  show Q_cor Z bb kb vs ct h0 n0 _ T145.heap _
  rw [e145]
  exact ⟨r_145, kr_145, rfl, N146, K152, z149, w145_1⟩
theorem ef_10 (m : MethodId) (x0 : Addr) (x1 : Addr)  : entryFrame m #[(.ref x0), (.ref x1), .null] 5 = mkF m 0 #[.val (.ref x0), .val (.ref x1), .val .null, .unset, .unset] [] := by first | (simp [entryFrame, mkF, argsToLocals, Value.category]; done) | rfl
theorem d24_0 : decode jdk_42_method_150_code 0 = .ok (.aload_n 0, 1) := by decide +kernel
theorem d24_1 : decode jdk_42_method_150_code 1 = .ok (.invokespecial 1, 3) := by decide +kernel
theorem d24_4 : decode jdk_42_method_150_code 4 = .ok (.aload_n 1, 1) := by decide +kernel
theorem d24_5 : decode jdk_42_method_150_code 5 = .ok (.invokevirtual 552, 3) := by decide +kernel
theorem pd_10 : parseMethodDescriptor "()[B" = some ⟨[], some (.array .byte)⟩ := by decide +kernel
theorem d24_8 : decode jdk_42_method_150_code 8 = .ok (.astore_n 3, 1) := by decide +kernel
theorem d24_9 : decode jdk_42_method_150_code 9 = .ok (.aload_n 1, 1) := by decide +kernel
theorem d24_10 : decode jdk_42_method_150_code 10 = .ok (.invokevirtual 549, 3) := by decide +kernel
theorem d24_13 : decode jdk_42_method_150_code 13 = .ok (.istore 4, 2) := by decide +kernel
theorem d24_15 : decode jdk_42_method_150_code 15 = .ok (.aload_n 1, 1) := by decide +kernel
theorem d24_16 : decode jdk_42_method_150_code 16 = .ok (.invokevirtual 1047, 3) := by decide +kernel
theorem pd_11 : parseMethodDescriptor "()Z" = some ⟨[], some .boolean⟩ := by decide +kernel
theorem d24_19 : decode jdk_42_method_150_code 19 = .ok (.ifCond .eq 22, 3) := by decide +kernel
theorem d24_22 : decode jdk_42_method_150_code 22 = .ok (.aload_n 0, 1) := by decide +kernel
theorem d24_23 : decode jdk_42_method_150_code 23 = .ok (.iconst 0, 1) := by decide +kernel
theorem d24_24 : decode jdk_42_method_150_code 24 = .ok (.putfield 15, 3) := by decide +kernel
theorem d24_27 : decode jdk_42_method_150_code 27 = .ok (.aload_n 0, 1) := by decide +kernel
theorem d24_28 : decode jdk_42_method_150_code 28 = .ok (.aload_n 3, 1) := by decide +kernel
theorem d24_29 : decode jdk_42_method_150_code 29 = .ok (.iconst 0, 1) := by decide +kernel
theorem d24_30 : decode jdk_42_method_150_code 30 = .ok (.iload 4, 2) := by decide +kernel
theorem d24_32 : decode jdk_42_method_150_code 32 = .ok (.invokestatic 54, 3) := by decide +kernel
theorem d24_35 : decode jdk_42_method_150_code 35 = .ok (.putfield 9, 3) := by decide +kernel
theorem d24_38 : decode jdk_42_method_150_code 38 = .ok (.goto 59, 3) := by decide +kernel
theorem d24_97 : decode jdk_42_method_150_code 97 = .ok (.return_, 1) := by decide +kernel
def Q_sia (Z : State) (a : Addr) (sb : Addr) (bb : Addr) (kb : ClassId) (vs : List Value) (ct : Int32) (cs : Int32) (h0 : Heap) (n0 : Nat) (v : Option Value) (h : Heap) (L : List Loc) : Prop := ∃ (r : Addr), ∃ (kr : ClassId), v = none ∧ Fr n0 L ∧ Keep h0 h [a] ∧ h0.size ≤ r ∧ (Exa Z h a "java/lang/String") ∧ (Fld Z h a "java/lang/String" "coder" "B" (.int (0 : Int32))) ∧ (Fld Z h a "java/lang/String" "value" "[B" (.ref r)) ∧ (Arv Z h r kr .byte ct (own_put (List.replicate ct.toNatClampNeg (.int (0 : Int32))) (0 : Int32) vs ct) (.int (0 : Int32)))
set_option maxRecDepth 65536 in
set_option maxHeartbeats 40000000 in
theorem rm_sia (l : Launch) (Z : State) (a0 : Array Value) (hw : ∀ d ∈ tables_1, d.before a0 Z = true) (ws : List Jvm.Cond) (a : Addr) (sb : Addr) (bb : Addr) (kb : ClassId) (vs : List Value) (ct : Int32) (cs : Int32) (h0 : Heap) (n0 : Nat) (O0 : Old Z n0 h0) (u0 : Sta Z Z.heap "java/lang/String" "COMPACT_STRINGS" "Z" (.int cs)) (u1 : ¬ (cs = (0 : Int32))) (u2 : Exa Z h0 a "java/lang/String") (u3 : Fld Z h0 a "java/lang/String" "value" "[B" .null) (u4 : Fld Z h0 a "java/lang/String" "coder" "B" (.int (0 : Int32))) (u5 : n0 ≤ a) (u6 : Exa Z h0 sb "java/lang/StringBuilder") (u7 : Fld Z h0 sb "java/lang/AbstractStringBuilder" "value" "[B" (.ref bb)) (u8 : Fld Z h0 sb "java/lang/AbstractStringBuilder" "coder" "B" (.int (0 : Int32))) (u9 : Fld Z h0 sb "java/lang/AbstractStringBuilder" "count" "I" (.int ct)) (u10 : Arv Z h0 bb kb .byte (16 : Int32) vs (.int (0 : Int32))) (u11 : ¬ (ct < (0 : Int32))) (u12 : ct < (16 : Int32)) :
    MetFree l (⟨"java/lang/String", "<init>", "(Ljava/lang/AbstractStringBuilder;Ljava/lang/Void;)V"⟩ : MethodName) (head1 (Jvm.Cond.code (⟨"java/lang/String", "<init>", "(Ljava/lang/AbstractStringBuilder;Ljava/lang/Void;)V"⟩ : MethodName) jdk_42_method_150_code 5 none :: ws) ({ frames := 3, cells := 1, slots := 16, locals := 71 } : Room)) (fun aV U => aV = #[(.ref a), (.ref sb), .null] ∧ Z.Warmed39 U.vm ∧ U.heap = h0) (fun _ _ _ _ _ => True) (fun _ U o U' => ∃ v L, o = .returned v ∧ Q_sia Z a sb bb kb vs ct cs h0 n0 v U'.heap L ∧ FrameEnd U o U' L ({ frames := 3, cells := 1, slots := 16, locals := 71 } : Room).cells ({ frames := 3, cells := 1, slots := 16, locals := 71 } : Room).slots) := by
  refine MetFree.of_bodySF (plainFor_of_name pn_0) hisR ?_
  intro pr_ en_ st_ me_ args below meth_ co_ s₁ Bd hml0 hP hK
  obtain ⟨rfl, hZ, hh⟩ := hP
  have hx := Bd.exec
  have hby := Bd.bytes
  have hml : co_.maxLocals = 5 := hml0
  have hown : st_.vm.findClass "java/lang/String" = some me_.cls := findClass_of_methodNamed Bd.named
  have hnm := (name_of_methodNamed Bd.named Bd.method).1
  have X0 : Stand pr_ l en_ ({ frames := 3, cells := 1, slots := 16, locals := 71 } : Room) st_ me_ #[(.ref a), (.ref sb), .null] below meth_ co_ s₁ [] 0 0 := Stand.of_body Bd
  have e0 : s₁.heap = h0 := by rw [← hh, Bd.state]; rfl
  have N0 := Fr.nil n0
  have K0 := Keep.refl h0 [a]
  obtain ⟨G, gv, gf, gb⟩ := own_G pr_.tables en_ below st_ (Q_sia Z a sb bb kb vs ct cs h0 n0) ({ frames := 3, cells := 1, slots := 16, locals := 71 } : Room).cells ({ frames := 3, cells := 1, slots := 16, locals := 71 } : Room).slots
  show own_Fin pr_.tables en_ below st_ (Q_sia Z a sb bb kb vs ct cs h0 n0) ({ frames := 3, cells := 1, slots := 16, locals := 71 } : Room).cells ({ frames := 3, cells := 1, slots := 16, locals := 71 } : Room).slots (s₁.setTop (entryFrame me_ #[(.ref a), (.ref sb), .null] 5))
  refine gb _ (gv (fun tQ kQ => castTop (ef_10 me_ a sb) kQ) ?_)
  show G (s₁.setTop (mkF me_ 0 #[.val (.ref a), .val (.ref sb), .val .null, .unset, .unset] []))
  refine gv (fun tQ kQ => XS.aloadN X0.here hx rfl (hb hby d24_0) rfl rfl kQ) ?_
  show G (s₁.setTop (mkF me_ 1 #[.val (.ref a), .val (.ref sb), .val .null, .unset, .unset] [(.ref a)]))
  obtain ⟨T153, X153, e153, st153⟩ := initO X0 hx hZ hown (hw _ (List.mem_of_getElem? (i := 15) rfl)) (hw _ (List.mem_of_getElem? (i := 16) rfl)) (hw _ (List.mem_of_getElem? (i := 17) rfl)) e0 (g := (mkF me_ 1 #[.val (.ref a), .val (.ref sb), .val .null, .unset, .unset] [(.ref a)])) rfl (by rw [hml]; rfl) rfl (hb hby d24_1) (by decide) (W := 0) (by show 2 * 0 + _ ≤ _; exact Nat.le_of_eq rfl) (by decide)
  refine gv st153 ?_
  show G (T153.setTop (mkF me_ 4 #[.val (.ref a), .val (.ref sb), .val .null, .unset, .unset] []))
  refine gv (fun tQ kQ => XS.aloadN X153.here hx rfl (hb hby d24_4) rfl rfl kQ) ?_
  show G (T153.setTop (mkF me_ 5 #[.val (.ref a), .val (.ref sb), .val .null, .unset, .unset] [(.ref sb)]))
  obtain ⟨cq154, kq154, q154a, q154b, q154c⟩ := isOf hZ e153 u6
  obtain ⟨_, _, ⟨T154, L154, k154, n154⟩, -, X154, ⟨Lc154, hQ154, l154, y154, z154⟩, st154⟩ := X153.virtualBack hx (y := (⟨"java/lang/AbstractStringBuilder", "getValue", "()[B"⟩ : MethodName)) (z := (⟨"java/lang/AbstractStringBuilder", "getValue", "()[B"⟩ : MethodName)) hown (mvT hZ (hw _ (List.mem_of_getElem? (i := 142) rfl))) (mvT hZ (hw _ (List.mem_of_getElem? (i := 143) rfl))) (notFace_of_selects (args := #[]) (mvT hZ (hw _ (List.mem_of_getElem? (i := 145) rfl)))) (mvT hZ (hw _ (List.mem_of_getElem? (i := 145) rfl))) (mvT hZ (hw _ (List.mem_of_getElem? (i := 144) rfl))) (by decide) (backOf (W := 0) (rm_gv l Z a0 hw [] sb bb h0 n0 O0 u7) hZ (hw _ (List.mem_of_getElem? (i := 146) rfl)) (hw _ (List.mem_of_getElem? (i := 74) rfl)) (by decide) (by decide)) q154a q154c (g := (mkF me_ 5 #[.val (.ref a), .val (.ref sb), .val .null, .unset, .unset] [(.ref sb)])) rfl (by rw [hml]; rfl) (Steps.refl _) (argsL := []) (rest := []) (lenOf pd_10 rfl) rfl (by show 2 * 0 + _ ≤ _; exact Nat.le_of_eq rfl) (hb hby d24_5) (fun _ _ => ⟨rfl, e153, (by decide : 0 + 0 ≤ _), (by decide : 0 + 0 ≤ _)⟩)
  dsimp only [Pt.U, Pt.locs, Pt.cells, Pt.slots] at X154 l154 y154 z154 st154 hQ154
  subst l154 y154 z154
  obtain ⟨rfl, Nq154, eq154⟩ := hQ154
  have N155 := Fr.app N0 Nq154
  refine gv (fun tQ kQ => st154.trans kQ) ?_
  show G (T154.setTop (mkF me_ 8 #[.val (.ref a), .val (.ref sb), .val .null, .unset, .unset] [(.ref bb)]))
  refine gv (fun tQ kQ => XS.astoreN X154.here hx rfl (hb hby d24_8) rfl rfl (l' := #[.val (.ref a), .val (.ref sb), .val .null, .val (.ref bb), .unset]) rfl kQ) ?_
  show G (T154.setTop (mkF me_ 9 #[.val (.ref a), .val (.ref sb), .val .null, .val (.ref bb), .unset] []))
  refine gv (fun tQ kQ => XS.aloadN X154.here hx rfl (hb hby d24_9) rfl rfl kQ) ?_
  show G (T154.setTop (mkF me_ 10 #[.val (.ref a), .val (.ref sb), .val .null, .val (.ref bb), .unset] [(.ref sb)]))
  obtain ⟨cq156, kq156, q156a, q156b, q156c⟩ := isOf hZ eq154 u6
  obtain ⟨_, _, ⟨T156, L156, k156, n156⟩, -, X156, ⟨Lc156, hQ156, l156, y156, z156⟩, st156⟩ := X154.virtualBack hx (y := (⟨"java/lang/AbstractStringBuilder", "length", "()I"⟩ : MethodName)) (z := (⟨"java/lang/StringBuilder", "length", "()I"⟩ : MethodName)) hown (mvT hZ (hw _ (List.mem_of_getElem? (i := 147) rfl))) (mvT hZ (hw _ (List.mem_of_getElem? (i := 148) rfl))) (own_nf (x := (⟨"java/lang/AbstractStringBuilder", "ensureCapacityInternal", "(I)V"⟩ : MethodName)) (mvT (args := #[]) hZ (hw _ (List.mem_of_getElem? (i := 107) rfl))) rfl) (mvT hZ (hw _ (List.mem_of_getElem? (i := 150) rfl))) (mvT hZ (hw _ (List.mem_of_getElem? (i := 151) rfl))) (by decide) (backOf (W := 0) (rm_slen l Z a0 hw [] sb ct h0 n0 O0 u6 u9) hZ (hw _ (List.mem_of_getElem? (i := 152) rfl)) (hw _ (List.mem_of_getElem? (i := 66) rfl)) (by decide) (by decide)) q156a q156c (g := (mkF me_ 10 #[.val (.ref a), .val (.ref sb), .val .null, .val (.ref bb), .unset] [(.ref sb)])) rfl (by rw [hml]; rfl) (Steps.refl _) (argsL := []) (rest := []) (lenOf pd_3 rfl) rfl (by show 2 * 0 + _ ≤ _; exact Nat.le_of_eq rfl) (hb hby d24_10) (fun _ _ => ⟨rfl, eq154, (by decide : 0 + 0 ≤ _), (by decide : 0 + 0 ≤ _)⟩)
  dsimp only [Pt.U, Pt.locs, Pt.cells, Pt.slots] at X156 l156 y156 z156 st156 hQ156
  subst l156 y156 z156
  obtain ⟨rfl, Nq156, eq156⟩ := hQ156
  have N157 := Fr.app N155 Nq156
  refine gv (fun tQ kQ => st156.trans kQ) ?_
  show G (T156.setTop (mkF me_ 13 #[.val (.ref a), .val (.ref sb), .val .null, .val (.ref bb), .unset] [(.int ct)]))
  refine gv (fun tQ kQ => XS.istore X156.here hx rfl (hb hby d24_13) rfl (l' := #[.val (.ref a), .val (.ref sb), .val .null, .val (.ref bb), .val (.int ct)]) rfl kQ) ?_
  show G (T156.setTop (mkF me_ 15 #[.val (.ref a), .val (.ref sb), .val .null, .val (.ref bb), .val (.int ct)] []))
  refine gv (fun tQ kQ => XS.aloadN X156.here hx rfl (hb hby d24_15) rfl rfl kQ) ?_
  show G (T156.setTop (mkF me_ 16 #[.val (.ref a), .val (.ref sb), .val .null, .val (.ref bb), .val (.int ct)] [(.ref sb)]))
  obtain ⟨cq158, kq158, q158a, q158b, q158c⟩ := isOf hZ eq156 u6
  obtain ⟨_, _, ⟨T158, L158, k158, n158⟩, -, X158, ⟨Lc158, hQ158, l158, y158, z158⟩, st158⟩ := X156.virtualBack hx (y := (⟨"java/lang/AbstractStringBuilder", "isLatin1", "()Z"⟩ : MethodName)) (z := (⟨"java/lang/AbstractStringBuilder", "isLatin1", "()Z"⟩ : MethodName)) hown (mvT hZ (hw _ (List.mem_of_getElem? (i := 155) rfl))) (mvT hZ (hw _ (List.mem_of_getElem? (i := 156) rfl))) (notFace_of_selects (args := #[]) (mvT hZ (hw _ (List.mem_of_getElem? (i := 158) rfl)))) (mvT hZ (hw _ (List.mem_of_getElem? (i := 158) rfl))) (mvT hZ (hw _ (List.mem_of_getElem? (i := 157) rfl))) (by decide) (backOf (W := 0) (rm_ail l Z a0 hw [] sb cs h0 n0 O0 u0 u1 u8) hZ (hw _ (List.mem_of_getElem? (i := 159) rfl)) (hw _ (List.mem_of_getElem? (i := 74) rfl)) (by decide) (by decide)) q158a q158c (g := (mkF me_ 16 #[.val (.ref a), .val (.ref sb), .val .null, .val (.ref bb), .val (.int ct)] [(.ref sb)])) rfl (by rw [hml]; rfl) (Steps.refl _) (argsL := []) (rest := []) (lenOf pd_11 rfl) rfl (by show 2 * 0 + _ ≤ _; exact Nat.le_of_eq rfl) (hb hby d24_16) (fun _ _ => ⟨rfl, eq156, (by decide : 0 + 0 ≤ _), (by decide : 0 + 0 ≤ _)⟩)
  dsimp only [Pt.U, Pt.locs, Pt.cells, Pt.slots] at X158 l158 y158 z158 st158 hQ158
  subst l158 y158 z158
  obtain ⟨rfl, Nq158, eq158⟩ := hQ158
  have N159 := Fr.app N157 Nq158
  refine gv (fun tQ kQ => st158.trans kQ) ?_
  show G (T158.setTop (mkF me_ 19 #[.val (.ref a), .val (.ref sb), .val .null, .val (.ref bb), .val (.int ct)] [(.int (1 : Int32))]))
  refine gv (fun tQ kQ => XS.ifNo X158.here hx rfl (hb hby d24_19) rfl ((if0 _ _).trans (feq (by decide : ¬ ((1 : Int32) = (0 : Int32)))).1) kQ) ?_
  show G (T158.setTop (mkF me_ 22 #[.val (.ref a), .val (.ref sb), .val .null, .val (.ref bb), .val (.int ct)] []))
  refine gv (fun tQ kQ => XS.aloadN X158.here hx rfl (hb hby d24_22) rfl rfl kQ) ?_
  show G (T158.setTop (mkF me_ 23 #[.val (.ref a), .val (.ref sb), .val .null, .val (.ref bb), .val (.int ct)] [(.ref a)]))
  refine gv (fun tQ kQ => XS.iconst X158.here hx rfl (hb hby d24_23) kQ) ?_
  show G (T158.setTop (mkF me_ 24 #[.val (.ref a), .val (.ref sb), .val .null, .val (.ref bb), .val (.int ct)] [(.int (0 : Int32)), (.ref a)]))
  obtain ⟨T160, h160, X160, e160, W160, st160⟩ := putFN X158 hx hZ hown (hw _ (List.mem_of_getElem? (i := 25) rfl)) Via.refl eq158 u4 u2 (Or.inr ⟨(hw _ (List.mem_of_getElem? (i := 21) rfl)), rfl, hnm⟩) (hw _ (List.mem_of_getElem? (i := 2) rfl)) (ty := .byte) (v' := (.int (0 : Int32))) (by decide) rfl rfl (g := (mkF me_ 24 #[.val (.ref a), .val (.ref sb), .val .null, .val (.ref bb), .val (.int ct)] [(.int (0 : Int32)), (.ref a)])) rfl rfl (hb hby d24_24)
  refine gv st160 ?_
  have f162 : Exa Z h160 a "java/lang/String" := u2.wr W160
  have f163 : Fld Z h160 a "java/lang/String" "value" "[B" .null := u3.other W160 (Or.inr (slot_ne (Or.inr (hw _ (List.mem_of_getElem? (i := 20) rfl))) (Or.inr (hw _ (List.mem_of_getElem? (i := 21) rfl))) (by decide) (t := (.array .byte)) (t' := .byte) (by decide) (by decide)))
  have f164 : Exa Z h160 sb "java/lang/StringBuilder" := u6.wr W160
  have f165 : Fld Z h160 sb "java/lang/AbstractStringBuilder" "value" "[B" (.ref bb) := u7.other W160 (Or.inl (ne_exa u6 u2 (by decide)))
  have f166 : Fld Z h160 sb "java/lang/AbstractStringBuilder" "coder" "B" (.int (0 : Int32)) := u8.other W160 (Or.inl (ne_exa u6 u2 (by decide)))
  have f167 : Fld Z h160 sb "java/lang/AbstractStringBuilder" "count" "I" (.int ct) := u9.other W160 (Or.inl (ne_exa u6 u2 (by decide)))
  have f168 : Arv Z h160 bb kb .byte (16 : Int32) vs (.int (0 : Int32)) := u10.other W160 (Ne.symm (own_ne_arv u2 (hw _ (List.mem_of_getElem? (i := 2) rfl)) u10))
  have O169 := O0.wr W160 u5
  have K170 := K0.wr W160 (Or.inl (List.mem_of_getElem? (i := 0) rfl))
  have N171 := Fr.snoc X160 N159 u5
  have f161 : Fld Z h160 a "java/lang/String" "coder" "B" (.int (0 : Int32)) := u4.same W160
  show G (T160.setTop (mkF me_ 27 #[.val (.ref a), .val (.ref sb), .val .null, .val (.ref bb), .val (.int ct)] []))
  refine gv (fun tQ kQ => XS.aloadN X160.here hx rfl (hb hby d24_27) rfl rfl kQ) ?_
  show G (T160.setTop (mkF me_ 28 #[.val (.ref a), .val (.ref sb), .val .null, .val (.ref bb), .val (.int ct)] [(.ref a)]))
  refine gv (fun tQ kQ => XS.aloadN X160.here hx rfl (hb hby d24_28) rfl rfl kQ) ?_
  show G (T160.setTop (mkF me_ 29 #[.val (.ref a), .val (.ref sb), .val .null, .val (.ref bb), .val (.int ct)] [(.ref bb), (.ref a)]))
  refine gv (fun tQ kQ => XS.iconst X160.here hx rfl (hb hby d24_29) kQ) ?_
  show G (T160.setTop (mkF me_ 30 #[.val (.ref a), .val (.ref sb), .val .null, .val (.ref bb), .val (.int ct)] [(.int (0 : Int32)), (.ref bb), (.ref a)]))
  refine gv (fun tQ kQ => XS.iload X160.here hx rfl (hb hby d24_30) rfl kQ) ?_
  show G (T160.setTop (mkF me_ 32 #[.val (.ref a), .val (.ref sb), .val .null, .val (.ref bb), .val (.int ct)] [(.int ct), (.int (0 : Int32)), (.ref bb), (.ref a)]))
  obtain ⟨_, _, ⟨T172, L172, k172, n172⟩, -, X172, ⟨Lc172, hQ172, l172, y172, z172⟩, st172⟩ := Jvm.LawKit.callS X160 hx (y := (⟨"java/util/Arrays", "copyOfRange", "([BII)[B"⟩ : MethodName)) hown (mvT hZ (hw _ (List.mem_of_getElem? (i := 160) rfl))) (mvT hZ (hw _ (List.mem_of_getElem? (i := 161) rfl))) (mvT hZ (hw _ (List.mem_of_getElem? (i := 162) rfl))) (mvT hZ (hw _ (List.mem_of_getElem? (i := 163) rfl))) (by decide) (backOf (W := 1) (rm_cor l Z a0 hw [] bb kb vs ct h160 n0 O169 f168 u11 u12) hZ (hw _ (List.mem_of_getElem? (i := 163) rfl)) (hw _ (List.mem_of_getElem? (i := 162) rfl)) (by decide) (by decide)) (g := (mkF me_ 32 #[.val (.ref a), .val (.ref sb), .val .null, .val (.ref bb), .val (.int ct)] [(.int ct), (.int (0 : Int32)), (.ref bb), (.ref a)])) rfl (by rw [hml]; rfl) (argsL := [(.ref bb), (.int (0 : Int32)), (.int ct)]) (rest := [(.ref a)]) (lenOf pd_9 rfl) rfl (by show 2 * 0 + _ ≤ _; exact Nat.le_of_eq rfl) (hb hby d24_32) (fun _ _ => ⟨rfl, e160, (by decide : 0 + 1 ≤ _), (by decide : 0 + 16 ≤ _)⟩)
  dsimp only [Pt.U, Pt.locs, Pt.cells, Pt.slots] at X172 l172 y172 z172 st172 hQ172
  subst l172 y172 z172
  obtain ⟨r_172, kr_172, rfl, Nq172, Kq172, w172_0, w172_1⟩ := hQ172
  have N173 := Fr.app N171 Nq172
  obtain ⟨h172, e172⟩ : ∃ z, T172.heap = z := ⟨_, rfl⟩
  rw [e172] at Kq172 w172_1
  have ne174 : a ≠ r_172 := Nat.ne_of_lt (Nat.lt_of_lt_of_le f162.lt w172_0)
  have ne175 : sb ≠ r_172 := Nat.ne_of_lt (Nat.lt_of_lt_of_le f164.lt w172_0)
  have ne176 : bb ≠ r_172 := Nat.ne_of_lt (Nat.lt_of_lt_of_le f168.lt w172_0)
  have g177 : n0 ≤ r_172 := Nat.le_trans (own_old O169) w172_0
  have z178 : h0.size ≤ r_172 := Nat.le_trans K170.1 w172_0
  have f179 : Exa Z h172 a "java/lang/String" := f162.keep Kq172
  have f180 : Fld Z h172 a "java/lang/String" "value" "[B" .null := f163.keep Kq172 nin0
  have f181 : Fld Z h172 a "java/lang/String" "coder" "B" (.int (0 : Int32)) := f161.keep Kq172 nin0
  have f182 : Exa Z h172 sb "java/lang/StringBuilder" := f164.keep Kq172
  have f183 : Fld Z h172 sb "java/lang/AbstractStringBuilder" "value" "[B" (.ref bb) := f165.keep Kq172 nin0
  have f184 : Fld Z h172 sb "java/lang/AbstractStringBuilder" "coder" "B" (.int (0 : Int32)) := f166.keep Kq172 nin0
  have f185 : Fld Z h172 sb "java/lang/AbstractStringBuilder" "count" "I" (.int ct) := f167.keep Kq172 nin0
  have f186 : Arv Z h172 bb kb .byte (16 : Int32) vs (.int (0 : Int32)) := f168.keep Kq172 nin0
  have O187 := O169.keep Kq172 all0
  have K188 := K170.trans Kq172 all0
  refine gv st172 ?_
  show G (T172.setTop (mkF me_ 35 #[.val (.ref a), .val (.ref sb), .val .null, .val (.ref bb), .val (.int ct)] [(.ref r_172), (.ref a)]))
  obtain ⟨T189, h189, X189, e189, W189, st189⟩ := putF X172 hx hZ hown (host := "") (Or.inl (hw _ (List.mem_of_getElem? (i := 24) rfl))) Via.refl e172 f180 f179 (Or.inr ⟨(hw _ (List.mem_of_getElem? (i := 20) rfl)), rfl, hnm⟩) (hw _ (List.mem_of_getElem? (i := 2) rfl)) (ty := (.array .byte)) (by decide) rfl rfl (g := (mkF me_ 35 #[.val (.ref a), .val (.ref sb), .val .null, .val (.ref bb), .val (.int ct)] [(.ref r_172), (.ref a)])) rfl rfl (hb hby d24_35)
  refine gv st189 ?_
  have f191 : Exa Z h189 a "java/lang/String" := f179.wr W189
  have f192 : Fld Z h189 a "java/lang/String" "coder" "B" (.int (0 : Int32)) := f181.other W189 (Or.inr (slot_ne (Or.inr (hw _ (List.mem_of_getElem? (i := 21) rfl))) (Or.inr (hw _ (List.mem_of_getElem? (i := 20) rfl))) (by decide) (t := .byte) (t' := (.array .byte)) (by decide) (by decide)))
  have f193 : Exa Z h189 sb "java/lang/StringBuilder" := f182.wr W189
  have f194 : Fld Z h189 sb "java/lang/AbstractStringBuilder" "value" "[B" (.ref bb) := f183.other W189 (Or.inl (ne_exa f182 f179 (by decide)))
  have f195 : Fld Z h189 sb "java/lang/AbstractStringBuilder" "coder" "B" (.int (0 : Int32)) := f184.other W189 (Or.inl (ne_exa f182 f179 (by decide)))
  have f196 : Fld Z h189 sb "java/lang/AbstractStringBuilder" "count" "I" (.int ct) := f185.other W189 (Or.inl (ne_exa f182 f179 (by decide)))
  have f197 : Arv Z h189 bb kb .byte (16 : Int32) vs (.int (0 : Int32)) := f186.other W189 (Ne.symm (own_ne_arv f179 (hw _ (List.mem_of_getElem? (i := 2) rfl)) f186))
  have f198 : Arv Z h189 r_172 kr_172 .byte ct (own_put (List.replicate ct.toNatClampNeg (.int (0 : Int32))) (0 : Int32) vs ct) (.int (0 : Int32)) := w172_1.other W189 (Ne.symm ne174)
  have O199 := O187.wr W189 u5
  have K200 := K188.wr W189 (Or.inl (List.mem_of_getElem? (i := 0) rfl))
  have N201 := Fr.snoc X189 N173 u5
  have f190 : Fld Z h189 a "java/lang/String" "value" "[B" (.ref r_172) := f180.same W189
  show G (T189.setTop (mkF me_ 38 #[.val (.ref a), .val (.ref sb), .val .null, .val (.ref bb), .val (.int ct)] []))
  refine gv (fun tQ kQ => XS.goto X189.here hx rfl (pc0 := 38) (pc' := 97) rfl (hb hby d24_38) (by decide) (by decide) kQ) ?_
  show G (T189.setTop (mkF me_ 97 #[.val (.ref a), .val (.ref sb), .val .null, .val (.ref bb), .val (.int ct)] []))
  refine gf _ (own_ret X189 Bd.notSynchronized (v := none) (fun _ => rfl) ?_ (by decide) (by decide) (fun fs hr => X189.returnOut hx Bd.returns (hb hby d24_97) hr))
  show Q_sia Z a sb bb kb vs ct cs h0 n0 _ T189.heap _
  rw [e189]
  exact ⟨r_172, kr_172, rfl, N201, K200, z178, f191, f192, f190, f198⟩
theorem d23_0 : decode jdk_42_method_53_code 0 = .ok (.aload_n 0, 1) := by decide +kernel
theorem d23_1 : decode jdk_42_method_53_code 1 = .ok (.aload_n 1, 1) := by decide +kernel
theorem d23_2 : decode jdk_42_method_53_code 2 = .ok (.aconst_null, 1) := by decide +kernel
theorem d23_3 : decode jdk_42_method_53_code 3 = .ok (.invokespecial 489, 3) := by decide +kernel
theorem pd_12 : parseMethodDescriptor "(Ljava/lang/AbstractStringBuilder;Ljava/lang/Void;)V" = some ⟨[(.object "java/lang/AbstractStringBuilder"), (.object "java/lang/Void")], none⟩ := by decide +kernel
theorem d23_6 : decode jdk_42_method_53_code 6 = .ok (.return_, 1) := by decide +kernel
def Q_sis (Z : State) (a : Addr) (sb : Addr) (bb : Addr) (kb : ClassId) (vs : List Value) (ct : Int32) (cs : Int32) (h0 : Heap) (n0 : Nat) (v : Option Value) (h : Heap) (L : List Loc) : Prop := ∃ (r : Addr), ∃ (kr : ClassId), v = none ∧ Fr n0 L ∧ Keep h0 h [a] ∧ h0.size ≤ r ∧ (Exa Z h a "java/lang/String") ∧ (Fld Z h a "java/lang/String" "coder" "B" (.int (0 : Int32))) ∧ (Fld Z h a "java/lang/String" "value" "[B" (.ref r)) ∧ (Arv Z h r kr .byte ct (own_put (List.replicate ct.toNatClampNeg (.int (0 : Int32))) (0 : Int32) vs ct) (.int (0 : Int32)))
set_option maxRecDepth 65536 in
set_option maxHeartbeats 40000000 in
theorem rm_sis (l : Launch) (Z : State) (a0 : Array Value) (hw : ∀ d ∈ tables_1, d.before a0 Z = true) (ws : List Jvm.Cond) (a : Addr) (sb : Addr) (bb : Addr) (kb : ClassId) (vs : List Value) (ct : Int32) (cs : Int32) (h0 : Heap) (n0 : Nat) (O0 : Old Z n0 h0) (u0 : Sta Z Z.heap "java/lang/String" "COMPACT_STRINGS" "Z" (.int cs)) (u1 : ¬ (cs = (0 : Int32))) (u2 : Exa Z h0 a "java/lang/String") (u3 : Fld Z h0 a "java/lang/String" "value" "[B" .null) (u4 : Fld Z h0 a "java/lang/String" "coder" "B" (.int (0 : Int32))) (u5 : n0 ≤ a) (u6 : Exa Z h0 sb "java/lang/StringBuilder") (u7 : Fld Z h0 sb "java/lang/AbstractStringBuilder" "value" "[B" (.ref bb)) (u8 : Fld Z h0 sb "java/lang/AbstractStringBuilder" "coder" "B" (.int (0 : Int32))) (u9 : Fld Z h0 sb "java/lang/AbstractStringBuilder" "count" "I" (.int ct)) (u10 : Arv Z h0 bb kb .byte (16 : Int32) vs (.int (0 : Int32))) (u11 : ¬ (ct < (0 : Int32))) (u12 : ct < (16 : Int32)) :
    MetFree l (⟨"java/lang/String", "<init>", "(Ljava/lang/StringBuilder;)V"⟩ : MethodName) (head1 (Jvm.Cond.code (⟨"java/lang/String", "<init>", "(Ljava/lang/StringBuilder;)V"⟩ : MethodName) jdk_42_method_53_code 2 none :: ws) ({ frames := 4, cells := 1, slots := 16, locals := 87 } : Room)) (fun aV U => aV = #[(.ref a), (.ref sb)] ∧ Z.Warmed39 U.vm ∧ U.heap = h0) (fun _ _ _ _ _ => True) (fun _ U o U' => ∃ v L, o = .returned v ∧ Q_sis Z a sb bb kb vs ct cs h0 n0 v U'.heap L ∧ FrameEnd U o U' L ({ frames := 4, cells := 1, slots := 16, locals := 87 } : Room).cells ({ frames := 4, cells := 1, slots := 16, locals := 87 } : Room).slots) := by
  refine MetFree.of_bodySF (plainFor_of_name pn_0) hisR ?_
  intro pr_ en_ st_ me_ args below meth_ co_ s₁ Bd hml0 hP hK
  obtain ⟨rfl, hZ, hh⟩ := hP
  have hx := Bd.exec
  have hby := Bd.bytes
  have hml : co_.maxLocals = 2 := hml0
  have hown : st_.vm.findClass "java/lang/String" = some me_.cls := findClass_of_methodNamed Bd.named
  have hnm := (name_of_methodNamed Bd.named Bd.method).1
  have X0 : Stand pr_ l en_ ({ frames := 4, cells := 1, slots := 16, locals := 87 } : Room) st_ me_ #[(.ref a), (.ref sb)] below meth_ co_ s₁ [] 0 0 := Stand.of_body Bd
  have e0 : s₁.heap = h0 := by rw [← hh, Bd.state]; rfl
  have N0 := Fr.nil n0
  have K0 := Keep.refl h0 [a]
  obtain ⟨G, gv, gf, gb⟩ := own_G pr_.tables en_ below st_ (Q_sis Z a sb bb kb vs ct cs h0 n0) ({ frames := 4, cells := 1, slots := 16, locals := 87 } : Room).cells ({ frames := 4, cells := 1, slots := 16, locals := 87 } : Room).slots
  show own_Fin pr_.tables en_ below st_ (Q_sis Z a sb bb kb vs ct cs h0 n0) ({ frames := 4, cells := 1, slots := 16, locals := 87 } : Room).cells ({ frames := 4, cells := 1, slots := 16, locals := 87 } : Room).slots (s₁.setTop (entryFrame me_ #[(.ref a), (.ref sb)] 2))
  refine gb _ (gv (fun tQ kQ => castTop (ef_2 me_ a sb) kQ) ?_)
  show G (s₁.setTop (mkF me_ 0 #[.val (.ref a), .val (.ref sb)] []))
  refine gv (fun tQ kQ => XS.aloadN X0.here hx rfl (hb hby d23_0) rfl rfl kQ) ?_
  show G (s₁.setTop (mkF me_ 1 #[.val (.ref a), .val (.ref sb)] [(.ref a)]))
  refine gv (fun tQ kQ => XS.aloadN X0.here hx rfl (hb hby d23_1) rfl rfl kQ) ?_
  show G (s₁.setTop (mkF me_ 2 #[.val (.ref a), .val (.ref sb)] [(.ref sb), (.ref a)]))
  refine gv (fun tQ kQ => XS.aconstNull X0.here hx rfl (hb hby d23_2) kQ) ?_
  show G (s₁.setTop (mkF me_ 3 #[.val (.ref a), .val (.ref sb)] [.null, (.ref sb), (.ref a)]))
  obtain ⟨_, _, ⟨T202, L202, k202, n202⟩, -, X202, ⟨Lc202, hQ202, l202, y202, z202⟩, st202⟩ := X0.specialBack hx (y := (⟨"java/lang/String", "<init>", "(Ljava/lang/AbstractStringBuilder;Ljava/lang/Void;)V"⟩ : MethodName)) rfl hown (mvT hZ (hw _ (List.mem_of_getElem? (i := 139) rfl))) (mvT hZ (hw _ (List.mem_of_getElem? (i := 140) rfl))) (mvT hZ (hw _ (List.mem_of_getElem? (i := 141) rfl))) (by decide) (backOf (W := 0) (rm_sia l Z a0 hw [] a sb bb kb vs ct cs h0 n0 O0 u0 u1 u2 u3 u4 u5 u6 u7 u8 u9 u10 u11 u12) hZ (hw _ (List.mem_of_getElem? (i := 141) rfl)) (hw _ (List.mem_of_getElem? (i := 3) rfl)) (by decide) (by decide)) (g := (mkF me_ 3 #[.val (.ref a), .val (.ref sb)] [.null, (.ref sb), (.ref a)])) rfl (by rw [hml]; rfl) (Steps.refl _) (a := a) (argsL := [(.ref sb), .null]) (rest := []) (lenOf pd_12 rfl) rfl (by show 2 * 0 + _ ≤ _; exact Nat.le_of_eq rfl) (hb hby d23_3) (fun _ _ => ⟨rfl, e0, (by decide : 0 + 1 ≤ _), (by decide : 0 + 16 ≤ _)⟩)
  dsimp only [Pt.U, Pt.locs, Pt.cells, Pt.slots] at X202 l202 y202 z202 st202 hQ202
  subst l202 y202 z202
  obtain ⟨r_202, kr_202, rfl, Nq202, Kq202, w202_0, w202_1, w202_2, w202_3, w202_4⟩ := hQ202
  have N203 := Fr.app N0 Nq202
  obtain ⟨h202, e202⟩ : ∃ z, T202.heap = z := ⟨_, rfl⟩
  rw [e202] at Kq202 w202_1 w202_2 w202_3 w202_4
  have ne204 : a ≠ r_202 := Nat.ne_of_lt (Nat.lt_of_lt_of_le u2.lt w202_0)
  have ne205 : sb ≠ r_202 := Nat.ne_of_lt (Nat.lt_of_lt_of_le u6.lt w202_0)
  have ne206 : bb ≠ r_202 := Nat.ne_of_lt (Nat.lt_of_lt_of_le u10.lt w202_0)
  have g207 : n0 ≤ r_202 := Nat.le_trans (own_old O0) w202_0
  have z208 : h0.size ≤ r_202 := Nat.le_trans K0.1 w202_0
  have f209 : Exa Z h202 a "java/lang/String" := u2.keep Kq202
  have f210 : Exa Z h202 sb "java/lang/StringBuilder" := u6.keep Kq202
  have f211 : Fld Z h202 sb "java/lang/AbstractStringBuilder" "value" "[B" (.ref bb) := u7.keep Kq202 (ninS (ne_exa u6 u2 (by decide)) nin0)
  have f212 : Fld Z h202 sb "java/lang/AbstractStringBuilder" "coder" "B" (.int (0 : Int32)) := u8.keep Kq202 (ninS (ne_exa u6 u2 (by decide)) nin0)
  have f213 : Fld Z h202 sb "java/lang/AbstractStringBuilder" "count" "I" (.int ct) := u9.keep Kq202 (ninS (ne_exa u6 u2 (by decide)) nin0)
  have f214 : Arv Z h202 bb kb .byte (16 : Int32) vs (.int (0 : Int32)) := u10.keep Kq202 (ninS (Ne.symm (own_ne_arv u2 (hw _ (List.mem_of_getElem? (i := 2) rfl)) u10)) nin0)
  have O215 := O0.keep Kq202 (allS u5 all0)
  have K216 := K0.trans Kq202 (allS (Or.inl (List.mem_of_getElem? (i := 0) rfl)) all0)
  refine gv (fun tQ kQ => st202.trans kQ) ?_
  show G (T202.setTop (mkF me_ 6 #[.val (.ref a), .val (.ref sb)] []))
  refine gf _ (own_ret X202 Bd.notSynchronized (v := none) (fun _ => rfl) ?_ (by decide) (by decide) (fun fs hr => X202.returnOut hx Bd.returns (hb hby d23_6) hr))
  show Q_sis Z a sb bb kb vs ct cs h0 n0 _ T202.heap _
  rw [e202]
  exact ⟨r_202, kr_202, rfl, N203, K216, z208, w202_1, w202_2, w202_3, w202_4⟩
theorem d22_0 : decode jdk_67_method_42_code 0 = .ok (.new 18, 3) := by decide +kernel
theorem d22_3 : decode jdk_67_method_42_code 3 = .ok (.dup, 1) := by decide +kernel
theorem d22_4 : decode jdk_67_method_42_code 4 = .ok (.aload_n 0, 1) := by decide +kernel
theorem d22_5 : decode jdk_67_method_42_code 5 = .ok (.invokespecial 137, 3) := by decide +kernel
theorem pd_13 : parseMethodDescriptor "(Ljava/lang/StringBuilder;)V" = some ⟨[(.object "java/lang/StringBuilder")], none⟩ := by decide +kernel
theorem d22_8 : decode jdk_67_method_42_code 8 = .ok (.areturn, 1) := by decide +kernel
def Q_tos (Z : State) (sb : Addr) (bb : Addr) (kb : ClassId) (vs : List Value) (ct : Int32) (cs : Int32) (h0 : Heap) (n0 : Nat) (v : Option Value) (h : Heap) (L : List Loc) : Prop := ∃ (a : Addr), ∃ (r : Addr), ∃ (kr : ClassId), v = some (.ref a) ∧ Fr n0 L ∧ Keep h0 h [] ∧ h0.size ≤ a ∧ h0.size ≤ r ∧ (Exa Z h a "java/lang/String") ∧ (Fld Z h a "java/lang/String" "coder" "B" (.int (0 : Int32))) ∧ (Fld Z h a "java/lang/String" "value" "[B" (.ref r)) ∧ (Arv Z h r kr .byte ct (own_put (List.replicate ct.toNatClampNeg (.int (0 : Int32))) (0 : Int32) vs ct) (.int (0 : Int32)))
set_option maxRecDepth 65536 in
set_option maxHeartbeats 40000000 in
theorem rm_tos (l : Launch) (Z : State) (a0 : Array Value) (hw : ∀ d ∈ tables_1, d.before a0 Z = true) (ws : List Jvm.Cond) (sb : Addr) (bb : Addr) (kb : ClassId) (vs : List Value) (ct : Int32) (cs : Int32) (h0 : Heap) (n0 : Nat) (O0 : Old Z n0 h0) (u0 : Sta Z Z.heap "java/lang/String" "COMPACT_STRINGS" "Z" (.int cs)) (u1 : ¬ (cs = (0 : Int32))) (u2 : Exa Z h0 sb "java/lang/StringBuilder") (u3 : Fld Z h0 sb "java/lang/AbstractStringBuilder" "value" "[B" (.ref bb)) (u4 : Fld Z h0 sb "java/lang/AbstractStringBuilder" "coder" "B" (.int (0 : Int32))) (u5 : Fld Z h0 sb "java/lang/AbstractStringBuilder" "count" "I" (.int ct)) (u6 : Arv Z h0 bb kb .byte (16 : Int32) vs (.int (0 : Int32))) (u7 : ¬ (ct < (0 : Int32))) (u8 : ct < (16 : Int32)) :
    MetFree l (⟨"java/lang/StringBuilder", "toString", "()Ljava/lang/String;"⟩ : MethodName) (head1 (Jvm.Cond.code (⟨"java/lang/StringBuilder", "toString", "()Ljava/lang/String;"⟩ : MethodName) jdk_67_method_42_code 1 (some (.object "java/lang/String")) :: ws) ({ frames := 5, cells := 2, slots := 20, locals := 101 } : Room)) (fun aV U => aV = #[(.ref sb)] ∧ Z.Warmed39 U.vm ∧ U.heap = h0) (fun _ _ _ _ _ => True) (fun _ U o U' => ∃ v L, o = .returned v ∧ Q_tos Z sb bb kb vs ct cs h0 n0 v U'.heap L ∧ FrameEnd U o U' L ({ frames := 5, cells := 2, slots := 20, locals := 101 } : Room).cells ({ frames := 5, cells := 2, slots := 20, locals := 101 } : Room).slots) := by
  refine MetFree.of_bodySF (plainFor_of_name pn_2) hisR ?_
  intro pr_ en_ st_ me_ args below meth_ co_ s₁ Bd hml0 hP hK
  obtain ⟨rfl, hZ, hh⟩ := hP
  have hx := Bd.exec
  have hby := Bd.bytes
  have hml : co_.maxLocals = 1 := hml0
  have hown : st_.vm.findClass "java/lang/StringBuilder" = some me_.cls := findClass_of_methodNamed Bd.named
  have hnm := (name_of_methodNamed Bd.named Bd.method).1
  have X0 : Stand pr_ l en_ ({ frames := 5, cells := 2, slots := 20, locals := 101 } : Room) st_ me_ #[(.ref sb)] below meth_ co_ s₁ [] 0 0 := Stand.of_body Bd
  have e0 : s₁.heap = h0 := by rw [← hh, Bd.state]; rfl
  have N0 := Fr.nil n0
  have K0 := Keep.refl h0 []
  obtain ⟨G, gv, gf, gb⟩ := own_G pr_.tables en_ below st_ (Q_tos Z sb bb kb vs ct cs h0 n0) ({ frames := 5, cells := 2, slots := 20, locals := 101 } : Room).cells ({ frames := 5, cells := 2, slots := 20, locals := 101 } : Room).slots
  show own_Fin pr_.tables en_ below st_ (Q_tos Z sb bb kb vs ct cs h0 n0) ({ frames := 5, cells := 2, slots := 20, locals := 101 } : Room).cells ({ frames := 5, cells := 2, slots := 20, locals := 101 } : Room).slots (s₁.setTop (entryFrame me_ #[(.ref sb)] 1))
  refine gb _ (gv (fun tQ kQ => castTop (ef_0 me_ sb) kQ) ?_)
  show G (s₁.setTop (mkF me_ 0 #[.val (.ref sb)] []))
  obtain ⟨T217, h217, X217, e217, E217, A217, D217, -, st217⟩ := newO X0 hx hZ hown (hw _ (List.mem_of_getElem? (i := 135) rfl)) (hw _ (List.mem_of_getElem? (i := 2) rfl)) (hw _ (List.mem_of_getElem? (i := 3) rfl)) e0 (g := (mkF me_ 0 #[.val (.ref sb)] [])) rfl (hb hby d22_0) (by decide) (by decide)
  obtain ⟨b217, g217⟩ : ∃ z, z = h0.size := ⟨_, rfl⟩
  rw [← g217] at A217 D217 st217
  refine gv st217 ?_
  have ne218 : sb ≠ b217 := Nat.ne_of_lt (Nat.lt_of_lt_of_le u2.lt (Nat.le_of_eq g217.symm))
  have ne219 : bb ≠ b217 := Nat.ne_of_lt (Nat.lt_of_lt_of_le u6.lt (Nat.le_of_eq g217.symm))
  have g220 : n0 ≤ b217 := Nat.le_trans (own_old O0) (Nat.le_of_eq g217.symm)
  have z221 : h0.size ≤ b217 := Nat.le_trans K0.1 (Nat.le_of_eq g217.symm)
  have f222 : Exa Z h217 sb "java/lang/StringBuilder" := u2.ext E217
  have f223 : Fld Z h217 sb "java/lang/AbstractStringBuilder" "value" "[B" (.ref bb) := u3.ext E217
  have f224 : Fld Z h217 sb "java/lang/AbstractStringBuilder" "coder" "B" (.int (0 : Int32)) := u4.ext E217
  have f225 : Fld Z h217 sb "java/lang/AbstractStringBuilder" "count" "I" (.int ct) := u5.ext E217
  have f226 : Arv Z h217 bb kb .byte (16 : Int32) vs (.int (0 : Int32)) := u6.ext E217
  have O227 := O0.ext E217
  have K228 := K0.ext E217
  have f229 : Fld Z h217 b217 "java/lang/String" "value" "[B" .null := D217 (Or.inr (hw _ (List.mem_of_getElem? (i := 20) rfl))) (ty := (.array .byte)) (by decide)
  have f230 : Fld Z h217 b217 "java/lang/String" "coder" "B" (.int (0 : Int32)) := D217 (Or.inr (hw _ (List.mem_of_getElem? (i := 21) rfl))) (ty := .byte) (by decide)
  show G (T217.setTop (mkF me_ 3 #[.val (.ref sb)] [(.ref b217)]))
  refine gv (fun tQ kQ => XS.dup X217.here hx rfl (hb hby d22_3) rfl rfl kQ) ?_
  show G (T217.setTop (mkF me_ 4 #[.val (.ref sb)] [(.ref b217), (.ref b217)]))
  refine gv (fun tQ kQ => XS.aloadN X217.here hx rfl (hb hby d22_4) rfl rfl kQ) ?_
  show G (T217.setTop (mkF me_ 5 #[.val (.ref sb)] [(.ref sb), (.ref b217), (.ref b217)]))
  obtain ⟨_, _, ⟨T231, L231, k231, n231⟩, -, X231, ⟨Lc231, hQ231, l231, y231, z231⟩, st231⟩ := X217.specialBack hx (y := (⟨"java/lang/String", "<init>", "(Ljava/lang/StringBuilder;)V"⟩ : MethodName)) rfl hown (mvT hZ (hw _ (List.mem_of_getElem? (i := 136) rfl))) (mvT hZ (hw _ (List.mem_of_getElem? (i := 137) rfl))) (mvT hZ (hw _ (List.mem_of_getElem? (i := 138) rfl))) (by decide) (backOf (W := 1) (rm_sis l Z a0 hw [] b217 sb bb kb vs ct cs h217 n0 O227 u0 u1 A217 f229 f230 g220 f222 f223 f224 f225 f226 u7 u8) hZ (hw _ (List.mem_of_getElem? (i := 138) rfl)) (hw _ (List.mem_of_getElem? (i := 3) rfl)) (by decide) (by decide)) (g := (mkF me_ 5 #[.val (.ref sb)] [(.ref sb), (.ref b217), (.ref b217)])) rfl (by rw [hml]; rfl) (Steps.refl _) (a := b217) (argsL := [(.ref sb)]) (rest := [(.ref b217)]) (lenOf pd_13 rfl) rfl (by show 2 * 0 + _ ≤ _; exact Nat.le_of_eq rfl) (hb hby d22_5) (fun _ _ => ⟨rfl, e217, (by decide : 1 + 1 ≤ _), (by decide : 4 + 16 ≤ _)⟩)
  dsimp only [Pt.U, Pt.locs, Pt.cells, Pt.slots] at X231 l231 y231 z231 st231 hQ231
  subst l231 y231 z231
  obtain ⟨r_231, kr_231, rfl, Nq231, Kq231, w231_0, w231_1, w231_2, w231_3, w231_4⟩ := hQ231
  have N232 := Fr.app N0 Nq231
  obtain ⟨h231, e231⟩ : ∃ z, T231.heap = z := ⟨_, rfl⟩
  rw [e231] at Kq231 w231_1 w231_2 w231_3 w231_4
  have ne233 : sb ≠ r_231 := Nat.ne_of_lt (Nat.lt_of_lt_of_le f222.lt w231_0)
  have ne234 : bb ≠ r_231 := Nat.ne_of_lt (Nat.lt_of_lt_of_le f226.lt w231_0)
  have ne235 : b217 ≠ r_231 := Nat.ne_of_lt (Nat.lt_of_lt_of_le A217.lt w231_0)
  have g236 : n0 ≤ r_231 := Nat.le_trans (own_old O227) w231_0
  have z237 : h0.size ≤ r_231 := Nat.le_trans K228.1 w231_0
  have f238 : Exa Z h231 sb "java/lang/StringBuilder" := f222.keep Kq231
  have f239 : Fld Z h231 sb "java/lang/AbstractStringBuilder" "value" "[B" (.ref bb) := f223.keep Kq231 (ninS ne218 nin0)
  have f240 : Fld Z h231 sb "java/lang/AbstractStringBuilder" "coder" "B" (.int (0 : Int32)) := f224.keep Kq231 (ninS ne218 nin0)
  have f241 : Fld Z h231 sb "java/lang/AbstractStringBuilder" "count" "I" (.int ct) := f225.keep Kq231 (ninS ne218 nin0)
  have f242 : Arv Z h231 bb kb .byte (16 : Int32) vs (.int (0 : Int32)) := f226.keep Kq231 (ninS ne219 nin0)
  have f243 : Exa Z h231 b217 "java/lang/String" := A217.keep Kq231
  have O244 := O227.keep Kq231 (allS g220 all0)
  have K245 := K228.trans Kq231 (allS (Or.inr z221) all0)
  refine gv (fun tQ kQ => st231.trans kQ) ?_
  show G (T231.setTop (mkF me_ 8 #[.val (.ref sb)] [(.ref b217)]))
  refine gf _ (own_ret X231 Bd.notSynchronized (v := some (.ref b217)) (fun h => by rw [Bd.returns] at h; cases h) ?_ (by decide) (by decide) (fun fs hr => retOut X231 hx (t := (.object "java/lang/String")) Bd.returns rfl (Or.inr (Or.inr (Or.inr (Or.inr ⟨rfl, rfl, rfl⟩)))) (hb hby d22_8) hr))
  show Q_tos Z sb bb kb vs ct cs h0 n0 _ T231.heap _
  rw [e231]
  exact ⟨b217, r_231, kr_231, rfl, N232, K245, z221, z237, w231_1, w231_2, w231_3, w231_4⟩
theorem pn_4 : plainName "com/example/dvalin/dvalin/ProblemToStringPinLaw" = true := by first | (simp [plainName, overriddenIn]; done) | decide +kernel
theorem d1_0 : decode method_3_code 0 = .ok (.iload_n 1, 1) := by decide +kernel
theorem d1_1 : decode method_3_code 1 = .ok (.newarray .char, 2) := by decide +kernel
theorem d1_3 : decode method_3_code 3 = .ok (.astore_n 2, 1) := by decide +kernel
theorem d1_4 : decode method_3_code 4 = .ok (.iload_n 1, 1) := by decide +kernel
theorem d1_5 : decode method_3_code 5 = .ok (.ifCond .le 9, 3) := by decide +kernel
theorem d1_14 : decode method_3_code 14 = .ok (.iload_n 1, 1) := by decide +kernel
theorem d1_15 : decode method_3_code 15 = .ok (.iconst 1, 1) := by decide +kernel
theorem d1_16 : decode method_3_code 16 = .ok (.if_icmp .le 9, 3) := by decide +kernel
theorem d1_25 : decode method_3_code 25 = .ok (.iload_n 1, 1) := by decide +kernel
theorem d1_26 : decode method_3_code 26 = .ok (.iconst 2, 1) := by decide +kernel
theorem d1_27 : decode method_3_code 27 = .ok (.if_icmp .le 9, 3) := by decide +kernel
theorem d1_36 : decode method_3_code 36 = .ok (.aload_n 2, 1) := by decide +kernel
theorem d1_37 : decode method_3_code 37 = .ok (.areturn, 1) := by decide +kernel
theorem d1_8 : decode method_3_code 8 = .ok (.aload_n 2, 1) := by decide +kernel
theorem d1_9 : decode method_3_code 9 = .ok (.iconst 0, 1) := by decide +kernel
theorem d1_10 : decode method_3_code 10 = .ok (.aload_n 0, 1) := by decide +kernel
theorem d1_11 : decode method_3_code 11 = .ok (.iconst 0, 1) := by decide +kernel
theorem d1_12 : decode method_3_code 12 = .ok (.caload, 1) := by decide +kernel
theorem d1_13 : decode method_3_code 13 = .ok (.castore, 1) := by decide +kernel
theorem d1_19 : decode method_3_code 19 = .ok (.aload_n 2, 1) := by decide +kernel
theorem d1_20 : decode method_3_code 20 = .ok (.iconst 1, 1) := by decide +kernel
theorem d1_21 : decode method_3_code 21 = .ok (.aload_n 0, 1) := by decide +kernel
theorem d1_22 : decode method_3_code 22 = .ok (.iconst 1, 1) := by decide +kernel
theorem d1_23 : decode method_3_code 23 = .ok (.caload, 1) := by decide +kernel
theorem d1_24 : decode method_3_code 24 = .ok (.castore, 1) := by decide +kernel
theorem d1_30 : decode method_3_code 30 = .ok (.aload_n 2, 1) := by decide +kernel
theorem d1_31 : decode method_3_code 31 = .ok (.iconst 2, 1) := by decide +kernel
theorem d1_32 : decode method_3_code 32 = .ok (.aload_n 0, 1) := by decide +kernel
theorem d1_33 : decode method_3_code 33 = .ok (.iconst 2, 1) := by decide +kernel
theorem d1_34 : decode method_3_code 34 = .ok (.caload, 1) := by decide +kernel
theorem d1_35 : decode method_3_code 35 = .ok (.castore, 1) := by decide +kernel
def Q_tk (Z : State) (d : Addr) (kd : ClassId) (n : Int32) (c0 : Int32) (c1 : Int32) (c2 : Int32) (h0 : Heap) (n0 : Nat) (v : Option Value) (h : Heap) (L : List Loc) : Prop := ∃ (r : Addr), ∃ (kr : ClassId), v = some (.ref r) ∧ Fr n0 L ∧ Keep h0 h [] ∧ h0.size ≤ r ∧ (Arv Z h r kr .char n (own_cl n c0 c1 c2) (.int (0 : Int32)))
set_option maxRecDepth 65536 in
set_option maxHeartbeats 40000000 in
theorem rm_tk (l : Launch) (Z : State) (a0 : Array Value) (hw : ∀ d ∈ tables_1, d.before a0 Z = true) (ws : List Jvm.Cond) (d : Addr) (kd : ClassId) (n : Int32) (c0 : Int32) (c1 : Int32) (c2 : Int32) (h0 : Heap) (n0 : Nat) (O0 : Old Z n0 h0) (u0 : Arv Z h0 d kd .char (3 : Int32) [(.int c0), (.int c1), (.int c2)] (.int (0 : Int32))) (u1 : (own_le3 n)) (u2 : nar .char c0 = c0) (u3 : nar .char c1 = c1) (u4 : nar .char c2 = c2) :
    MetFree l (⟨"com/example/dvalin/dvalin/ProblemToStringPinLaw", "take", "([CI)[C"⟩ : MethodName) (head1 (Jvm.Cond.code (⟨"com/example/dvalin/dvalin/ProblemToStringPinLaw", "take", "([CI)[C"⟩ : MethodName) method_3_code 3 (some (.array .char)) :: ws) ({ frames := 0, cells := 1, slots := 3, locals := 0 } : Room)) (fun aV U => aV = #[(.ref d), (.int n)] ∧ Z.Warmed39 U.vm ∧ U.heap = h0) (fun _ _ _ _ _ => True) (fun _ U o U' => ∃ v L, o = .returned v ∧ Q_tk Z d kd n c0 c1 c2 h0 n0 v U'.heap L ∧ FrameEnd U o U' L ({ frames := 0, cells := 1, slots := 3, locals := 0 } : Room).cells ({ frames := 0, cells := 1, slots := 3, locals := 0 } : Room).slots) := by
  refine MetFree.of_bodySF (plainFor_of_name pn_4) hisR ?_
  intro pr_ en_ st_ me_ args below meth_ co_ s₁ Bd hml0 hP hK
  obtain ⟨rfl, hZ, hh⟩ := hP
  have hx := Bd.exec
  have hby := Bd.bytes
  have hml : co_.maxLocals = 3 := hml0
  have hown : st_.vm.findClass "com/example/dvalin/dvalin/ProblemToStringPinLaw" = some me_.cls := findClass_of_methodNamed Bd.named
  have hnm := (name_of_methodNamed Bd.named Bd.method).1
  have X0 : Stand pr_ l en_ ({ frames := 0, cells := 1, slots := 3, locals := 0 } : Room) st_ me_ #[(.ref d), (.int n)] below meth_ co_ s₁ [] 0 0 := Stand.of_body Bd
  have e0 : s₁.heap = h0 := by rw [← hh, Bd.state]; rfl
  have N0 := Fr.nil n0
  have K0 := Keep.refl h0 []
  obtain ⟨G, gv, gf, gb⟩ := own_G pr_.tables en_ below st_ (Q_tk Z d kd n c0 c1 c2 h0 n0) ({ frames := 0, cells := 1, slots := 3, locals := 0 } : Room).cells ({ frames := 0, cells := 1, slots := 3, locals := 0 } : Room).slots
  show own_Fin pr_.tables en_ below st_ (Q_tk Z d kd n c0 c1 c2 h0 n0) ({ frames := 0, cells := 1, slots := 3, locals := 0 } : Room).cells ({ frames := 0, cells := 1, slots := 3, locals := 0 } : Room).slots (s₁.setTop (entryFrame me_ #[(.ref d), (.int n)] 3))
  refine gb _ (gv (fun tQ kQ => castTop (ef_1 me_ d n) kQ) ?_)
  show G (s₁.setTop (mkF me_ 0 #[.val (.ref d), .val (.int n), .unset] []))
  rcases u1 with q | q | q | q
  · rw [q]
    show G (s₁.setTop (mkF me_ 0 #[.val (.ref d), .val (.int (0 : Int32)), .unset] []))
    refine gv (fun tQ kQ => XS.iloadN X0.here hx rfl (hb hby d1_0) rfl kQ) ?_
    show G (s₁.setTop (mkF me_ 1 #[.val (.ref d), .val (.int (0 : Int32)), .unset] [(.int (0 : Int32))]))
    obtain ⟨T246, h246, k246, X246, e246, E246, A246, st246⟩ := newP X0 hx hZ (hw _ (List.mem_of_getElem? (i := 0) rfl)) e0 (g := (mkF me_ 1 #[.val (.ref d), .val (.int (0 : Int32)), .unset] [(.int (0 : Int32))])) rfl (hb hby d1_1) rfl (by decide) (cap := 0) (by decide) (by decide) (by decide) (by decide)
    obtain ⟨b246, g246⟩ : ∃ z, z = h0.size := ⟨_, rfl⟩
    rw [← g246] at A246 st246
    refine gv st246 ?_
    have ne247 : d ≠ b246 := Nat.ne_of_lt (Nat.lt_of_lt_of_le u0.lt (Nat.le_of_eq g246.symm))
    have g248 : n0 ≤ b246 := Nat.le_trans (own_old O0) (Nat.le_of_eq g246.symm)
    have z249 : h0.size ≤ b246 := Nat.le_trans K0.1 (Nat.le_of_eq g246.symm)
    have f250 : Arv Z h246 d kd .char (3 : Int32) [(.int c0), (.int c1), (.int c2)] (.int (0 : Int32)) := u0.ext E246
    have O251 := O0.ext E246
    have K252 := K0.ext E246
    have V246 : Arv Z h246 b246 k246 .char (0 : Int32) [] (.int (0 : Int32)) := (Arv.new A246 (by decide)).pad (pad_rep [] (.int (0 : Int32)) 0)
    show G (T246.setTop (mkF me_ 3 #[.val (.ref d), .val (.int (0 : Int32)), .unset] [(.ref b246)]))
    refine gv (fun tQ kQ => XS.astoreN X246.here hx rfl (hb hby d1_3) rfl rfl (l' := #[.val (.ref d), .val (.int (0 : Int32)), .val (.ref b246)]) rfl kQ) ?_
    show G (T246.setTop (mkF me_ 4 #[.val (.ref d), .val (.int (0 : Int32)), .val (.ref b246)] []))
    refine gv (fun tQ kQ => XS.iloadN X246.here hx rfl (hb hby d1_4) rfl kQ) ?_
    show G (T246.setTop (mkF me_ 5 #[.val (.ref d), .val (.int (0 : Int32)), .val (.ref b246)] [(.int (0 : Int32))]))
    refine gv (fun tQ kQ => XS.ifYes X246.here hx rfl (pc0 := 5) (pc' := 14) rfl (hb hby d1_5) rfl ((if0 _ _).trans (flt (by decide : ¬ ((0 : Int32) < (0 : Int32)))).2.2.2) (by decide) (by decide) kQ) ?_
    show G (T246.setTop (mkF me_ 14 #[.val (.ref d), .val (.int (0 : Int32)), .val (.ref b246)] []))
    refine gv (fun tQ kQ => XS.iloadN X246.here hx rfl (hb hby d1_14) rfl kQ) ?_
    show G (T246.setTop (mkF me_ 15 #[.val (.ref d), .val (.int (0 : Int32)), .val (.ref b246)] [(.int (0 : Int32))]))
    refine gv (fun tQ kQ => XS.iconst X246.here hx rfl (hb hby d1_15) kQ) ?_
    show G (T246.setTop (mkF me_ 16 #[.val (.ref d), .val (.int (0 : Int32)), .val (.ref b246)] [(.int (1 : Int32)), (.int (0 : Int32))]))
    refine gv (fun tQ kQ => XS.icmpYes X246.here hx rfl (pc0 := 16) (pc' := 25) rfl (hb hby d1_16) rfl (flt (by decide : ¬ ((1 : Int32) < (0 : Int32)))).2.2.2 (by decide) (by decide) kQ) ?_
    show G (T246.setTop (mkF me_ 25 #[.val (.ref d), .val (.int (0 : Int32)), .val (.ref b246)] []))
    refine gv (fun tQ kQ => XS.iloadN X246.here hx rfl (hb hby d1_25) rfl kQ) ?_
    show G (T246.setTop (mkF me_ 26 #[.val (.ref d), .val (.int (0 : Int32)), .val (.ref b246)] [(.int (0 : Int32))]))
    refine gv (fun tQ kQ => XS.iconst X246.here hx rfl (hb hby d1_26) kQ) ?_
    show G (T246.setTop (mkF me_ 27 #[.val (.ref d), .val (.int (0 : Int32)), .val (.ref b246)] [(.int (2 : Int32)), (.int (0 : Int32))]))
    refine gv (fun tQ kQ => XS.icmpYes X246.here hx rfl (pc0 := 27) (pc' := 36) rfl (hb hby d1_27) rfl (flt (by decide : ¬ ((2 : Int32) < (0 : Int32)))).2.2.2 (by decide) (by decide) kQ) ?_
    show G (T246.setTop (mkF me_ 36 #[.val (.ref d), .val (.int (0 : Int32)), .val (.ref b246)] []))
    refine gv (fun tQ kQ => XS.aloadN X246.here hx rfl (hb hby d1_36) rfl rfl kQ) ?_
    show G (T246.setTop (mkF me_ 37 #[.val (.ref d), .val (.int (0 : Int32)), .val (.ref b246)] [(.ref b246)]))
    refine gf _ (own_ret X246 Bd.notSynchronized (v := some (.ref b246)) (fun h => by rw [Bd.returns] at h; cases h) ?_ (by decide) (by decide) (fun fs hr => retOut X246 hx (t := (.array .char)) Bd.returns rfl (Or.inr (Or.inr (Or.inr (Or.inr ⟨rfl, rfl, rfl⟩)))) (hb hby d1_37) hr))
    show Q_tk Z d kd n c0 c1 c2 h0 n0 _ T246.heap _
    rw [e246]
    exact ⟨b246, k246, rfl, N0, K252, z249, (own_tk (f := fun n => own_cl n c0 c1 c2) (own_cl0 c0 c1 c2) q V246)⟩
  · rw [q]
    show G (s₁.setTop (mkF me_ 0 #[.val (.ref d), .val (.int (1 : Int32)), .unset] []))
    refine gv (fun tQ kQ => XS.iloadN X0.here hx rfl (hb hby d1_0) rfl kQ) ?_
    show G (s₁.setTop (mkF me_ 1 #[.val (.ref d), .val (.int (1 : Int32)), .unset] [(.int (1 : Int32))]))
    obtain ⟨T253, h253, k253, X253, e253, E253, A253, st253⟩ := newP X0 hx hZ (hw _ (List.mem_of_getElem? (i := 0) rfl)) e0 (g := (mkF me_ 1 #[.val (.ref d), .val (.int (1 : Int32)), .unset] [(.int (1 : Int32))])) rfl (hb hby d1_1) rfl (by decide) (cap := 1) (by decide) (by decide) (by decide) (by decide)
    obtain ⟨b253, g253⟩ : ∃ z, z = h0.size := ⟨_, rfl⟩
    rw [← g253] at A253 st253
    refine gv st253 ?_
    have ne254 : d ≠ b253 := Nat.ne_of_lt (Nat.lt_of_lt_of_le u0.lt (Nat.le_of_eq g253.symm))
    have g255 : n0 ≤ b253 := Nat.le_trans (own_old O0) (Nat.le_of_eq g253.symm)
    have z256 : h0.size ≤ b253 := Nat.le_trans K0.1 (Nat.le_of_eq g253.symm)
    have f257 : Arv Z h253 d kd .char (3 : Int32) [(.int c0), (.int c1), (.int c2)] (.int (0 : Int32)) := u0.ext E253
    have O258 := O0.ext E253
    have K259 := K0.ext E253
    have V253 : Arv Z h253 b253 k253 .char (1 : Int32) [(.int (0 : Int32))] (.int (0 : Int32)) := (Arv.new A253 (by decide)).pad (pad_rep [] (.int (0 : Int32)) 1)
    show G (T253.setTop (mkF me_ 3 #[.val (.ref d), .val (.int (1 : Int32)), .unset] [(.ref b253)]))
    refine gv (fun tQ kQ => XS.astoreN X253.here hx rfl (hb hby d1_3) rfl rfl (l' := #[.val (.ref d), .val (.int (1 : Int32)), .val (.ref b253)]) rfl kQ) ?_
    show G (T253.setTop (mkF me_ 4 #[.val (.ref d), .val (.int (1 : Int32)), .val (.ref b253)] []))
    refine gv (fun tQ kQ => XS.iloadN X253.here hx rfl (hb hby d1_4) rfl kQ) ?_
    show G (T253.setTop (mkF me_ 5 #[.val (.ref d), .val (.int (1 : Int32)), .val (.ref b253)] [(.int (1 : Int32))]))
    refine gv (fun tQ kQ => XS.ifNo X253.here hx rfl (hb hby d1_5) rfl ((if0 _ _).trans (tlt (by decide : (0 : Int32) < (1 : Int32))).2.2.2) kQ) ?_
    show G (T253.setTop (mkF me_ 8 #[.val (.ref d), .val (.int (1 : Int32)), .val (.ref b253)] []))
    refine gv (fun tQ kQ => XS.aloadN X253.here hx rfl (hb hby d1_8) rfl rfl kQ) ?_
    show G (T253.setTop (mkF me_ 9 #[.val (.ref d), .val (.int (1 : Int32)), .val (.ref b253)] [(.ref b253)]))
    refine gv (fun tQ kQ => XS.iconst X253.here hx rfl (hb hby d1_9) kQ) ?_
    show G (T253.setTop (mkF me_ 10 #[.val (.ref d), .val (.int (1 : Int32)), .val (.ref b253)] [(.int (0 : Int32)), (.ref b253)]))
    refine gv (fun tQ kQ => XS.aloadN X253.here hx rfl (hb hby d1_10) rfl rfl kQ) ?_
    show G (T253.setTop (mkF me_ 11 #[.val (.ref d), .val (.int (1 : Int32)), .val (.ref b253)] [(.ref d), (.int (0 : Int32)), (.ref b253)]))
    refine gv (fun tQ kQ => XS.iconst X253.here hx rfl (hb hby d1_11) kQ) ?_
    show G (T253.setTop (mkF me_ 12 #[.val (.ref d), .val (.int (1 : Int32)), .val (.ref b253)] [(.int (0 : Int32)), (.ref d), (.int (0 : Int32)), (.ref b253)]))
    obtain ⟨cl260, Ar260, q260, S260, n260, H260, G260⟩ := (id f257)
    have in260 : ¬ ((0 : Int32) < 0 ∨ cl260.slots.size ≤ ((0 : Int32)).toNatClampNeg) := inb_of S260 ⟨by decide, by decide⟩
    refine gv (X253.caload hx (j := (0 : Int32)) (v := (.int c0)) (by rw [e253]; exact Ar260.1) (State.isArrayOf_alike hZ.alike Ar260.2.1) Ar260.2.2 in260 (Has.at H260 in260 rfl) (g := (mkF me_ 12 #[.val (.ref d), .val (.int (1 : Int32)), .val (.ref b253)] [(.int (0 : Int32)), (.ref d), (.int (0 : Int32)), (.ref b253)])) rfl rfl (hb hby d1_12)) ?_
    show G (T253.setTop (mkF me_ 13 #[.val (.ref d), .val (.int (1 : Int32)), .val (.ref b253)] [(.int c0), (.int (0 : Int32)), (.ref b253)]))
    obtain ⟨cl261, Ar261, q261, S261, n261, H261, G261⟩ := (id V253)
    have in261 : ¬ ((0 : Int32) < 0 ∨ cl261.slots.size ≤ ((0 : Int32)).toNatClampNeg) := inb_of S261 ⟨by decide, by decide⟩
    obtain ⟨T261, h261, X261, e261, W261, st261⟩ := stC X253 hx hZ e253 Ar261 (j := (0 : Int32)) in261 (g := (mkF me_ 13 #[.val (.ref d), .val (.int (1 : Int32)), .val (.ref b253)] [(.int c0), (.int (0 : Int32)), (.ref b253)])) rfl rfl (hb hby d1_13)
    have W261 : Wr h253 h261 b253 ((0 : Int32)).toNatClampNeg (.int c0) := by have z := W261; rw [u2] at z; exact z
    refine gv st261 ?_
    have f263 : Arv Z h261 d kd .char (3 : Int32) [(.int c0), (.int c1), (.int c2)] (.int (0 : Int32)) := f257.other W261 ne254
    have O264 := O258.wr W261 g255
    have K265 := K259.wr W261 (Or.inr z256)
    have N266 := Fr.snoc X261 N0 g255
    have f262 : Arv Z h261 b253 k253 .char (1 : Int32) [(.int c0)] (.int (0 : Int32)) := Arv.set Ar261 q261 S261 n261 H261 G261 (by have z := fits_nar_char c0; rw [u2] at z; exact z) W261 0 rfl (Nat.le_of_ble_eq_true rfl)
    show G (T261.setTop (mkF me_ 14 #[.val (.ref d), .val (.int (1 : Int32)), .val (.ref b253)] []))
    refine gv (fun tQ kQ => XS.iloadN X261.here hx rfl (hb hby d1_14) rfl kQ) ?_
    show G (T261.setTop (mkF me_ 15 #[.val (.ref d), .val (.int (1 : Int32)), .val (.ref b253)] [(.int (1 : Int32))]))
    refine gv (fun tQ kQ => XS.iconst X261.here hx rfl (hb hby d1_15) kQ) ?_
    show G (T261.setTop (mkF me_ 16 #[.val (.ref d), .val (.int (1 : Int32)), .val (.ref b253)] [(.int (1 : Int32)), (.int (1 : Int32))]))
    refine gv (fun tQ kQ => XS.icmpYes X261.here hx rfl (pc0 := 16) (pc' := 25) rfl (hb hby d1_16) rfl (flt (by decide : ¬ ((1 : Int32) < (1 : Int32)))).2.2.2 (by decide) (by decide) kQ) ?_
    show G (T261.setTop (mkF me_ 25 #[.val (.ref d), .val (.int (1 : Int32)), .val (.ref b253)] []))
    refine gv (fun tQ kQ => XS.iloadN X261.here hx rfl (hb hby d1_25) rfl kQ) ?_
    show G (T261.setTop (mkF me_ 26 #[.val (.ref d), .val (.int (1 : Int32)), .val (.ref b253)] [(.int (1 : Int32))]))
    refine gv (fun tQ kQ => XS.iconst X261.here hx rfl (hb hby d1_26) kQ) ?_
    show G (T261.setTop (mkF me_ 27 #[.val (.ref d), .val (.int (1 : Int32)), .val (.ref b253)] [(.int (2 : Int32)), (.int (1 : Int32))]))
    refine gv (fun tQ kQ => XS.icmpYes X261.here hx rfl (pc0 := 27) (pc' := 36) rfl (hb hby d1_27) rfl (flt (by decide : ¬ ((2 : Int32) < (1 : Int32)))).2.2.2 (by decide) (by decide) kQ) ?_
    show G (T261.setTop (mkF me_ 36 #[.val (.ref d), .val (.int (1 : Int32)), .val (.ref b253)] []))
    refine gv (fun tQ kQ => XS.aloadN X261.here hx rfl (hb hby d1_36) rfl rfl kQ) ?_
    show G (T261.setTop (mkF me_ 37 #[.val (.ref d), .val (.int (1 : Int32)), .val (.ref b253)] [(.ref b253)]))
    refine gf _ (own_ret X261 Bd.notSynchronized (v := some (.ref b253)) (fun h => by rw [Bd.returns] at h; cases h) ?_ (by decide) (by decide) (fun fs hr => retOut X261 hx (t := (.array .char)) Bd.returns rfl (Or.inr (Or.inr (Or.inr (Or.inr ⟨rfl, rfl, rfl⟩)))) (hb hby d1_37) hr))
    show Q_tk Z d kd n c0 c1 c2 h0 n0 _ T261.heap _
    rw [e261]
    exact ⟨b253, k253, rfl, N266, K265, z256, (own_tk (f := fun n => own_cl n c0 c1 c2) (own_cl1 c0 c1 c2) q f262)⟩
  · rw [q]
    show G (s₁.setTop (mkF me_ 0 #[.val (.ref d), .val (.int (2 : Int32)), .unset] []))
    refine gv (fun tQ kQ => XS.iloadN X0.here hx rfl (hb hby d1_0) rfl kQ) ?_
    show G (s₁.setTop (mkF me_ 1 #[.val (.ref d), .val (.int (2 : Int32)), .unset] [(.int (2 : Int32))]))
    obtain ⟨T267, h267, k267, X267, e267, E267, A267, st267⟩ := newP X0 hx hZ (hw _ (List.mem_of_getElem? (i := 0) rfl)) e0 (g := (mkF me_ 1 #[.val (.ref d), .val (.int (2 : Int32)), .unset] [(.int (2 : Int32))])) rfl (hb hby d1_1) rfl (by decide) (cap := 2) (by decide) (by decide) (by decide) (by decide)
    obtain ⟨b267, g267⟩ : ∃ z, z = h0.size := ⟨_, rfl⟩
    rw [← g267] at A267 st267
    refine gv st267 ?_
    have ne268 : d ≠ b267 := Nat.ne_of_lt (Nat.lt_of_lt_of_le u0.lt (Nat.le_of_eq g267.symm))
    have g269 : n0 ≤ b267 := Nat.le_trans (own_old O0) (Nat.le_of_eq g267.symm)
    have z270 : h0.size ≤ b267 := Nat.le_trans K0.1 (Nat.le_of_eq g267.symm)
    have f271 : Arv Z h267 d kd .char (3 : Int32) [(.int c0), (.int c1), (.int c2)] (.int (0 : Int32)) := u0.ext E267
    have O272 := O0.ext E267
    have K273 := K0.ext E267
    have V267 : Arv Z h267 b267 k267 .char (2 : Int32) [(.int (0 : Int32)), (.int (0 : Int32))] (.int (0 : Int32)) := (Arv.new A267 (by decide)).pad (pad_rep [] (.int (0 : Int32)) 2)
    show G (T267.setTop (mkF me_ 3 #[.val (.ref d), .val (.int (2 : Int32)), .unset] [(.ref b267)]))
    refine gv (fun tQ kQ => XS.astoreN X267.here hx rfl (hb hby d1_3) rfl rfl (l' := #[.val (.ref d), .val (.int (2 : Int32)), .val (.ref b267)]) rfl kQ) ?_
    show G (T267.setTop (mkF me_ 4 #[.val (.ref d), .val (.int (2 : Int32)), .val (.ref b267)] []))
    refine gv (fun tQ kQ => XS.iloadN X267.here hx rfl (hb hby d1_4) rfl kQ) ?_
    show G (T267.setTop (mkF me_ 5 #[.val (.ref d), .val (.int (2 : Int32)), .val (.ref b267)] [(.int (2 : Int32))]))
    refine gv (fun tQ kQ => XS.ifNo X267.here hx rfl (hb hby d1_5) rfl ((if0 _ _).trans (tlt (by decide : (0 : Int32) < (2 : Int32))).2.2.2) kQ) ?_
    show G (T267.setTop (mkF me_ 8 #[.val (.ref d), .val (.int (2 : Int32)), .val (.ref b267)] []))
    refine gv (fun tQ kQ => XS.aloadN X267.here hx rfl (hb hby d1_8) rfl rfl kQ) ?_
    show G (T267.setTop (mkF me_ 9 #[.val (.ref d), .val (.int (2 : Int32)), .val (.ref b267)] [(.ref b267)]))
    refine gv (fun tQ kQ => XS.iconst X267.here hx rfl (hb hby d1_9) kQ) ?_
    show G (T267.setTop (mkF me_ 10 #[.val (.ref d), .val (.int (2 : Int32)), .val (.ref b267)] [(.int (0 : Int32)), (.ref b267)]))
    refine gv (fun tQ kQ => XS.aloadN X267.here hx rfl (hb hby d1_10) rfl rfl kQ) ?_
    show G (T267.setTop (mkF me_ 11 #[.val (.ref d), .val (.int (2 : Int32)), .val (.ref b267)] [(.ref d), (.int (0 : Int32)), (.ref b267)]))
    refine gv (fun tQ kQ => XS.iconst X267.here hx rfl (hb hby d1_11) kQ) ?_
    show G (T267.setTop (mkF me_ 12 #[.val (.ref d), .val (.int (2 : Int32)), .val (.ref b267)] [(.int (0 : Int32)), (.ref d), (.int (0 : Int32)), (.ref b267)]))
    obtain ⟨cl274, Ar274, q274, S274, n274, H274, G274⟩ := (id f271)
    have in274 : ¬ ((0 : Int32) < 0 ∨ cl274.slots.size ≤ ((0 : Int32)).toNatClampNeg) := inb_of S274 ⟨by decide, by decide⟩
    refine gv (X267.caload hx (j := (0 : Int32)) (v := (.int c0)) (by rw [e267]; exact Ar274.1) (State.isArrayOf_alike hZ.alike Ar274.2.1) Ar274.2.2 in274 (Has.at H274 in274 rfl) (g := (mkF me_ 12 #[.val (.ref d), .val (.int (2 : Int32)), .val (.ref b267)] [(.int (0 : Int32)), (.ref d), (.int (0 : Int32)), (.ref b267)])) rfl rfl (hb hby d1_12)) ?_
    show G (T267.setTop (mkF me_ 13 #[.val (.ref d), .val (.int (2 : Int32)), .val (.ref b267)] [(.int c0), (.int (0 : Int32)), (.ref b267)]))
    obtain ⟨cl275, Ar275, q275, S275, n275, H275, G275⟩ := (id V267)
    have in275 : ¬ ((0 : Int32) < 0 ∨ cl275.slots.size ≤ ((0 : Int32)).toNatClampNeg) := inb_of S275 ⟨by decide, by decide⟩
    obtain ⟨T275, h275, X275, e275, W275, st275⟩ := stC X267 hx hZ e267 Ar275 (j := (0 : Int32)) in275 (g := (mkF me_ 13 #[.val (.ref d), .val (.int (2 : Int32)), .val (.ref b267)] [(.int c0), (.int (0 : Int32)), (.ref b267)])) rfl rfl (hb hby d1_13)
    have W275 : Wr h267 h275 b267 ((0 : Int32)).toNatClampNeg (.int c0) := by have z := W275; rw [u2] at z; exact z
    refine gv st275 ?_
    have f277 : Arv Z h275 d kd .char (3 : Int32) [(.int c0), (.int c1), (.int c2)] (.int (0 : Int32)) := f271.other W275 ne268
    have O278 := O272.wr W275 g269
    have K279 := K273.wr W275 (Or.inr z270)
    have N280 := Fr.snoc X275 N0 g269
    have f276 : Arv Z h275 b267 k267 .char (2 : Int32) [(.int c0), (.int (0 : Int32))] (.int (0 : Int32)) := Arv.set Ar275 q275 S275 n275 H275 G275 (by have z := fits_nar_char c0; rw [u2] at z; exact z) W275 0 rfl (Nat.le_of_ble_eq_true rfl)
    show G (T275.setTop (mkF me_ 14 #[.val (.ref d), .val (.int (2 : Int32)), .val (.ref b267)] []))
    refine gv (fun tQ kQ => XS.iloadN X275.here hx rfl (hb hby d1_14) rfl kQ) ?_
    show G (T275.setTop (mkF me_ 15 #[.val (.ref d), .val (.int (2 : Int32)), .val (.ref b267)] [(.int (2 : Int32))]))
    refine gv (fun tQ kQ => XS.iconst X275.here hx rfl (hb hby d1_15) kQ) ?_
    show G (T275.setTop (mkF me_ 16 #[.val (.ref d), .val (.int (2 : Int32)), .val (.ref b267)] [(.int (1 : Int32)), (.int (2 : Int32))]))
    refine gv (fun tQ kQ => XS.icmpNo X275.here hx rfl (hb hby d1_16) rfl (tlt (by decide : (1 : Int32) < (2 : Int32))).2.2.2 kQ) ?_
    show G (T275.setTop (mkF me_ 19 #[.val (.ref d), .val (.int (2 : Int32)), .val (.ref b267)] []))
    refine gv (fun tQ kQ => XS.aloadN X275.here hx rfl (hb hby d1_19) rfl rfl kQ) ?_
    show G (T275.setTop (mkF me_ 20 #[.val (.ref d), .val (.int (2 : Int32)), .val (.ref b267)] [(.ref b267)]))
    refine gv (fun tQ kQ => XS.iconst X275.here hx rfl (hb hby d1_20) kQ) ?_
    show G (T275.setTop (mkF me_ 21 #[.val (.ref d), .val (.int (2 : Int32)), .val (.ref b267)] [(.int (1 : Int32)), (.ref b267)]))
    refine gv (fun tQ kQ => XS.aloadN X275.here hx rfl (hb hby d1_21) rfl rfl kQ) ?_
    show G (T275.setTop (mkF me_ 22 #[.val (.ref d), .val (.int (2 : Int32)), .val (.ref b267)] [(.ref d), (.int (1 : Int32)), (.ref b267)]))
    refine gv (fun tQ kQ => XS.iconst X275.here hx rfl (hb hby d1_22) kQ) ?_
    show G (T275.setTop (mkF me_ 23 #[.val (.ref d), .val (.int (2 : Int32)), .val (.ref b267)] [(.int (1 : Int32)), (.ref d), (.int (1 : Int32)), (.ref b267)]))
    obtain ⟨cl281, Ar281, q281, S281, n281, H281, G281⟩ := (id f277)
    have in281 : ¬ ((1 : Int32) < 0 ∨ cl281.slots.size ≤ ((1 : Int32)).toNatClampNeg) := inb_of S281 ⟨by decide, by decide⟩
    refine gv (X275.caload hx (j := (1 : Int32)) (v := (.int c1)) (by rw [e275]; exact Ar281.1) (State.isArrayOf_alike hZ.alike Ar281.2.1) Ar281.2.2 in281 (Has.at H281 in281 rfl) (g := (mkF me_ 23 #[.val (.ref d), .val (.int (2 : Int32)), .val (.ref b267)] [(.int (1 : Int32)), (.ref d), (.int (1 : Int32)), (.ref b267)])) rfl rfl (hb hby d1_23)) ?_
    show G (T275.setTop (mkF me_ 24 #[.val (.ref d), .val (.int (2 : Int32)), .val (.ref b267)] [(.int c1), (.int (1 : Int32)), (.ref b267)]))
    obtain ⟨cl282, Ar282, q282, S282, n282, H282, G282⟩ := (id f276)
    have in282 : ¬ ((1 : Int32) < 0 ∨ cl282.slots.size ≤ ((1 : Int32)).toNatClampNeg) := inb_of S282 ⟨by decide, by decide⟩
    obtain ⟨T282, h282, X282, e282, W282, st282⟩ := stC X275 hx hZ e275 Ar282 (j := (1 : Int32)) in282 (g := (mkF me_ 24 #[.val (.ref d), .val (.int (2 : Int32)), .val (.ref b267)] [(.int c1), (.int (1 : Int32)), (.ref b267)])) rfl rfl (hb hby d1_24)
    have W282 : Wr h275 h282 b267 ((1 : Int32)).toNatClampNeg (.int c1) := by have z := W282; rw [u3] at z; exact z
    refine gv st282 ?_
    have f284 : Arv Z h282 d kd .char (3 : Int32) [(.int c0), (.int c1), (.int c2)] (.int (0 : Int32)) := f277.other W282 ne268
    have O285 := O278.wr W282 g269
    have K286 := K279.wr W282 (Or.inr z270)
    have N287 := Fr.snoc X282 N280 g269
    have f283 : Arv Z h282 b267 k267 .char (2 : Int32) [(.int c0), (.int c1)] (.int (0 : Int32)) := Arv.set Ar282 q282 S282 n282 H282 G282 (by have z := fits_nar_char c1; rw [u3] at z; exact z) W282 1 rfl (Nat.le_of_ble_eq_true rfl)
    show G (T282.setTop (mkF me_ 25 #[.val (.ref d), .val (.int (2 : Int32)), .val (.ref b267)] []))
    refine gv (fun tQ kQ => XS.iloadN X282.here hx rfl (hb hby d1_25) rfl kQ) ?_
    show G (T282.setTop (mkF me_ 26 #[.val (.ref d), .val (.int (2 : Int32)), .val (.ref b267)] [(.int (2 : Int32))]))
    refine gv (fun tQ kQ => XS.iconst X282.here hx rfl (hb hby d1_26) kQ) ?_
    show G (T282.setTop (mkF me_ 27 #[.val (.ref d), .val (.int (2 : Int32)), .val (.ref b267)] [(.int (2 : Int32)), (.int (2 : Int32))]))
    refine gv (fun tQ kQ => XS.icmpYes X282.here hx rfl (pc0 := 27) (pc' := 36) rfl (hb hby d1_27) rfl (flt (by decide : ¬ ((2 : Int32) < (2 : Int32)))).2.2.2 (by decide) (by decide) kQ) ?_
    show G (T282.setTop (mkF me_ 36 #[.val (.ref d), .val (.int (2 : Int32)), .val (.ref b267)] []))
    refine gv (fun tQ kQ => XS.aloadN X282.here hx rfl (hb hby d1_36) rfl rfl kQ) ?_
    show G (T282.setTop (mkF me_ 37 #[.val (.ref d), .val (.int (2 : Int32)), .val (.ref b267)] [(.ref b267)]))
    refine gf _ (own_ret X282 Bd.notSynchronized (v := some (.ref b267)) (fun h => by rw [Bd.returns] at h; cases h) ?_ (by decide) (by decide) (fun fs hr => retOut X282 hx (t := (.array .char)) Bd.returns rfl (Or.inr (Or.inr (Or.inr (Or.inr ⟨rfl, rfl, rfl⟩)))) (hb hby d1_37) hr))
    show Q_tk Z d kd n c0 c1 c2 h0 n0 _ T282.heap _
    rw [e282]
    exact ⟨b267, k267, rfl, N287, K286, z270, (own_tk (f := fun n => own_cl n c0 c1 c2) (own_cl2 c0 c1 c2) q f283)⟩
  · rw [q]
    show G (s₁.setTop (mkF me_ 0 #[.val (.ref d), .val (.int (3 : Int32)), .unset] []))
    refine gv (fun tQ kQ => XS.iloadN X0.here hx rfl (hb hby d1_0) rfl kQ) ?_
    show G (s₁.setTop (mkF me_ 1 #[.val (.ref d), .val (.int (3 : Int32)), .unset] [(.int (3 : Int32))]))
    obtain ⟨T288, h288, k288, X288, e288, E288, A288, st288⟩ := newP X0 hx hZ (hw _ (List.mem_of_getElem? (i := 0) rfl)) e0 (g := (mkF me_ 1 #[.val (.ref d), .val (.int (3 : Int32)), .unset] [(.int (3 : Int32))])) rfl (hb hby d1_1) rfl (by decide) (cap := 3) (by decide) (by decide) (by decide) (by decide)
    obtain ⟨b288, g288⟩ : ∃ z, z = h0.size := ⟨_, rfl⟩
    rw [← g288] at A288 st288
    refine gv st288 ?_
    have ne289 : d ≠ b288 := Nat.ne_of_lt (Nat.lt_of_lt_of_le u0.lt (Nat.le_of_eq g288.symm))
    have g290 : n0 ≤ b288 := Nat.le_trans (own_old O0) (Nat.le_of_eq g288.symm)
    have z291 : h0.size ≤ b288 := Nat.le_trans K0.1 (Nat.le_of_eq g288.symm)
    have f292 : Arv Z h288 d kd .char (3 : Int32) [(.int c0), (.int c1), (.int c2)] (.int (0 : Int32)) := u0.ext E288
    have O293 := O0.ext E288
    have K294 := K0.ext E288
    have V288 : Arv Z h288 b288 k288 .char (3 : Int32) [(.int (0 : Int32)), (.int (0 : Int32)), (.int (0 : Int32))] (.int (0 : Int32)) := (Arv.new A288 (by decide)).pad (pad_rep [] (.int (0 : Int32)) 3)
    show G (T288.setTop (mkF me_ 3 #[.val (.ref d), .val (.int (3 : Int32)), .unset] [(.ref b288)]))
    refine gv (fun tQ kQ => XS.astoreN X288.here hx rfl (hb hby d1_3) rfl rfl (l' := #[.val (.ref d), .val (.int (3 : Int32)), .val (.ref b288)]) rfl kQ) ?_
    show G (T288.setTop (mkF me_ 4 #[.val (.ref d), .val (.int (3 : Int32)), .val (.ref b288)] []))
    refine gv (fun tQ kQ => XS.iloadN X288.here hx rfl (hb hby d1_4) rfl kQ) ?_
    show G (T288.setTop (mkF me_ 5 #[.val (.ref d), .val (.int (3 : Int32)), .val (.ref b288)] [(.int (3 : Int32))]))
    refine gv (fun tQ kQ => XS.ifNo X288.here hx rfl (hb hby d1_5) rfl ((if0 _ _).trans (tlt (by decide : (0 : Int32) < (3 : Int32))).2.2.2) kQ) ?_
    show G (T288.setTop (mkF me_ 8 #[.val (.ref d), .val (.int (3 : Int32)), .val (.ref b288)] []))
    refine gv (fun tQ kQ => XS.aloadN X288.here hx rfl (hb hby d1_8) rfl rfl kQ) ?_
    show G (T288.setTop (mkF me_ 9 #[.val (.ref d), .val (.int (3 : Int32)), .val (.ref b288)] [(.ref b288)]))
    refine gv (fun tQ kQ => XS.iconst X288.here hx rfl (hb hby d1_9) kQ) ?_
    show G (T288.setTop (mkF me_ 10 #[.val (.ref d), .val (.int (3 : Int32)), .val (.ref b288)] [(.int (0 : Int32)), (.ref b288)]))
    refine gv (fun tQ kQ => XS.aloadN X288.here hx rfl (hb hby d1_10) rfl rfl kQ) ?_
    show G (T288.setTop (mkF me_ 11 #[.val (.ref d), .val (.int (3 : Int32)), .val (.ref b288)] [(.ref d), (.int (0 : Int32)), (.ref b288)]))
    refine gv (fun tQ kQ => XS.iconst X288.here hx rfl (hb hby d1_11) kQ) ?_
    show G (T288.setTop (mkF me_ 12 #[.val (.ref d), .val (.int (3 : Int32)), .val (.ref b288)] [(.int (0 : Int32)), (.ref d), (.int (0 : Int32)), (.ref b288)]))
    obtain ⟨cl295, Ar295, q295, S295, n295, H295, G295⟩ := (id f292)
    have in295 : ¬ ((0 : Int32) < 0 ∨ cl295.slots.size ≤ ((0 : Int32)).toNatClampNeg) := inb_of S295 ⟨by decide, by decide⟩
    refine gv (X288.caload hx (j := (0 : Int32)) (v := (.int c0)) (by rw [e288]; exact Ar295.1) (State.isArrayOf_alike hZ.alike Ar295.2.1) Ar295.2.2 in295 (Has.at H295 in295 rfl) (g := (mkF me_ 12 #[.val (.ref d), .val (.int (3 : Int32)), .val (.ref b288)] [(.int (0 : Int32)), (.ref d), (.int (0 : Int32)), (.ref b288)])) rfl rfl (hb hby d1_12)) ?_
    show G (T288.setTop (mkF me_ 13 #[.val (.ref d), .val (.int (3 : Int32)), .val (.ref b288)] [(.int c0), (.int (0 : Int32)), (.ref b288)]))
    obtain ⟨cl296, Ar296, q296, S296, n296, H296, G296⟩ := (id V288)
    have in296 : ¬ ((0 : Int32) < 0 ∨ cl296.slots.size ≤ ((0 : Int32)).toNatClampNeg) := inb_of S296 ⟨by decide, by decide⟩
    obtain ⟨T296, h296, X296, e296, W296, st296⟩ := stC X288 hx hZ e288 Ar296 (j := (0 : Int32)) in296 (g := (mkF me_ 13 #[.val (.ref d), .val (.int (3 : Int32)), .val (.ref b288)] [(.int c0), (.int (0 : Int32)), (.ref b288)])) rfl rfl (hb hby d1_13)
    have W296 : Wr h288 h296 b288 ((0 : Int32)).toNatClampNeg (.int c0) := by have z := W296; rw [u2] at z; exact z
    refine gv st296 ?_
    have f298 : Arv Z h296 d kd .char (3 : Int32) [(.int c0), (.int c1), (.int c2)] (.int (0 : Int32)) := f292.other W296 ne289
    have O299 := O293.wr W296 g290
    have K300 := K294.wr W296 (Or.inr z291)
    have N301 := Fr.snoc X296 N0 g290
    have f297 : Arv Z h296 b288 k288 .char (3 : Int32) [(.int c0), (.int (0 : Int32)), (.int (0 : Int32))] (.int (0 : Int32)) := Arv.set Ar296 q296 S296 n296 H296 G296 (by have z := fits_nar_char c0; rw [u2] at z; exact z) W296 0 rfl (Nat.le_of_ble_eq_true rfl)
    show G (T296.setTop (mkF me_ 14 #[.val (.ref d), .val (.int (3 : Int32)), .val (.ref b288)] []))
    refine gv (fun tQ kQ => XS.iloadN X296.here hx rfl (hb hby d1_14) rfl kQ) ?_
    show G (T296.setTop (mkF me_ 15 #[.val (.ref d), .val (.int (3 : Int32)), .val (.ref b288)] [(.int (3 : Int32))]))
    refine gv (fun tQ kQ => XS.iconst X296.here hx rfl (hb hby d1_15) kQ) ?_
    show G (T296.setTop (mkF me_ 16 #[.val (.ref d), .val (.int (3 : Int32)), .val (.ref b288)] [(.int (1 : Int32)), (.int (3 : Int32))]))
    refine gv (fun tQ kQ => XS.icmpNo X296.here hx rfl (hb hby d1_16) rfl (tlt (by decide : (1 : Int32) < (3 : Int32))).2.2.2 kQ) ?_
    show G (T296.setTop (mkF me_ 19 #[.val (.ref d), .val (.int (3 : Int32)), .val (.ref b288)] []))
    refine gv (fun tQ kQ => XS.aloadN X296.here hx rfl (hb hby d1_19) rfl rfl kQ) ?_
    show G (T296.setTop (mkF me_ 20 #[.val (.ref d), .val (.int (3 : Int32)), .val (.ref b288)] [(.ref b288)]))
    refine gv (fun tQ kQ => XS.iconst X296.here hx rfl (hb hby d1_20) kQ) ?_
    show G (T296.setTop (mkF me_ 21 #[.val (.ref d), .val (.int (3 : Int32)), .val (.ref b288)] [(.int (1 : Int32)), (.ref b288)]))
    refine gv (fun tQ kQ => XS.aloadN X296.here hx rfl (hb hby d1_21) rfl rfl kQ) ?_
    show G (T296.setTop (mkF me_ 22 #[.val (.ref d), .val (.int (3 : Int32)), .val (.ref b288)] [(.ref d), (.int (1 : Int32)), (.ref b288)]))
    refine gv (fun tQ kQ => XS.iconst X296.here hx rfl (hb hby d1_22) kQ) ?_
    show G (T296.setTop (mkF me_ 23 #[.val (.ref d), .val (.int (3 : Int32)), .val (.ref b288)] [(.int (1 : Int32)), (.ref d), (.int (1 : Int32)), (.ref b288)]))
    obtain ⟨cl302, Ar302, q302, S302, n302, H302, G302⟩ := (id f298)
    have in302 : ¬ ((1 : Int32) < 0 ∨ cl302.slots.size ≤ ((1 : Int32)).toNatClampNeg) := inb_of S302 ⟨by decide, by decide⟩
    refine gv (X296.caload hx (j := (1 : Int32)) (v := (.int c1)) (by rw [e296]; exact Ar302.1) (State.isArrayOf_alike hZ.alike Ar302.2.1) Ar302.2.2 in302 (Has.at H302 in302 rfl) (g := (mkF me_ 23 #[.val (.ref d), .val (.int (3 : Int32)), .val (.ref b288)] [(.int (1 : Int32)), (.ref d), (.int (1 : Int32)), (.ref b288)])) rfl rfl (hb hby d1_23)) ?_
    show G (T296.setTop (mkF me_ 24 #[.val (.ref d), .val (.int (3 : Int32)), .val (.ref b288)] [(.int c1), (.int (1 : Int32)), (.ref b288)]))
    obtain ⟨cl303, Ar303, q303, S303, n303, H303, G303⟩ := (id f297)
    have in303 : ¬ ((1 : Int32) < 0 ∨ cl303.slots.size ≤ ((1 : Int32)).toNatClampNeg) := inb_of S303 ⟨by decide, by decide⟩
    obtain ⟨T303, h303, X303, e303, W303, st303⟩ := stC X296 hx hZ e296 Ar303 (j := (1 : Int32)) in303 (g := (mkF me_ 24 #[.val (.ref d), .val (.int (3 : Int32)), .val (.ref b288)] [(.int c1), (.int (1 : Int32)), (.ref b288)])) rfl rfl (hb hby d1_24)
    have W303 : Wr h296 h303 b288 ((1 : Int32)).toNatClampNeg (.int c1) := by have z := W303; rw [u3] at z; exact z
    refine gv st303 ?_
    have f305 : Arv Z h303 d kd .char (3 : Int32) [(.int c0), (.int c1), (.int c2)] (.int (0 : Int32)) := f298.other W303 ne289
    have O306 := O299.wr W303 g290
    have K307 := K300.wr W303 (Or.inr z291)
    have N308 := Fr.snoc X303 N301 g290
    have f304 : Arv Z h303 b288 k288 .char (3 : Int32) [(.int c0), (.int c1), (.int (0 : Int32))] (.int (0 : Int32)) := Arv.set Ar303 q303 S303 n303 H303 G303 (by have z := fits_nar_char c1; rw [u3] at z; exact z) W303 1 rfl (Nat.le_of_ble_eq_true rfl)
    show G (T303.setTop (mkF me_ 25 #[.val (.ref d), .val (.int (3 : Int32)), .val (.ref b288)] []))
    refine gv (fun tQ kQ => XS.iloadN X303.here hx rfl (hb hby d1_25) rfl kQ) ?_
    show G (T303.setTop (mkF me_ 26 #[.val (.ref d), .val (.int (3 : Int32)), .val (.ref b288)] [(.int (3 : Int32))]))
    refine gv (fun tQ kQ => XS.iconst X303.here hx rfl (hb hby d1_26) kQ) ?_
    show G (T303.setTop (mkF me_ 27 #[.val (.ref d), .val (.int (3 : Int32)), .val (.ref b288)] [(.int (2 : Int32)), (.int (3 : Int32))]))
    refine gv (fun tQ kQ => XS.icmpNo X303.here hx rfl (hb hby d1_27) rfl (tlt (by decide : (2 : Int32) < (3 : Int32))).2.2.2 kQ) ?_
    show G (T303.setTop (mkF me_ 30 #[.val (.ref d), .val (.int (3 : Int32)), .val (.ref b288)] []))
    refine gv (fun tQ kQ => XS.aloadN X303.here hx rfl (hb hby d1_30) rfl rfl kQ) ?_
    show G (T303.setTop (mkF me_ 31 #[.val (.ref d), .val (.int (3 : Int32)), .val (.ref b288)] [(.ref b288)]))
    refine gv (fun tQ kQ => XS.iconst X303.here hx rfl (hb hby d1_31) kQ) ?_
    show G (T303.setTop (mkF me_ 32 #[.val (.ref d), .val (.int (3 : Int32)), .val (.ref b288)] [(.int (2 : Int32)), (.ref b288)]))
    refine gv (fun tQ kQ => XS.aloadN X303.here hx rfl (hb hby d1_32) rfl rfl kQ) ?_
    show G (T303.setTop (mkF me_ 33 #[.val (.ref d), .val (.int (3 : Int32)), .val (.ref b288)] [(.ref d), (.int (2 : Int32)), (.ref b288)]))
    refine gv (fun tQ kQ => XS.iconst X303.here hx rfl (hb hby d1_33) kQ) ?_
    show G (T303.setTop (mkF me_ 34 #[.val (.ref d), .val (.int (3 : Int32)), .val (.ref b288)] [(.int (2 : Int32)), (.ref d), (.int (2 : Int32)), (.ref b288)]))
    obtain ⟨cl309, Ar309, q309, S309, n309, H309, G309⟩ := (id f305)
    have in309 : ¬ ((2 : Int32) < 0 ∨ cl309.slots.size ≤ ((2 : Int32)).toNatClampNeg) := inb_of S309 ⟨by decide, by decide⟩
    refine gv (X303.caload hx (j := (2 : Int32)) (v := (.int c2)) (by rw [e303]; exact Ar309.1) (State.isArrayOf_alike hZ.alike Ar309.2.1) Ar309.2.2 in309 (Has.at H309 in309 rfl) (g := (mkF me_ 34 #[.val (.ref d), .val (.int (3 : Int32)), .val (.ref b288)] [(.int (2 : Int32)), (.ref d), (.int (2 : Int32)), (.ref b288)])) rfl rfl (hb hby d1_34)) ?_
    show G (T303.setTop (mkF me_ 35 #[.val (.ref d), .val (.int (3 : Int32)), .val (.ref b288)] [(.int c2), (.int (2 : Int32)), (.ref b288)]))
    obtain ⟨cl310, Ar310, q310, S310, n310, H310, G310⟩ := (id f304)
    have in310 : ¬ ((2 : Int32) < 0 ∨ cl310.slots.size ≤ ((2 : Int32)).toNatClampNeg) := inb_of S310 ⟨by decide, by decide⟩
    obtain ⟨T310, h310, X310, e310, W310, st310⟩ := stC X303 hx hZ e303 Ar310 (j := (2 : Int32)) in310 (g := (mkF me_ 35 #[.val (.ref d), .val (.int (3 : Int32)), .val (.ref b288)] [(.int c2), (.int (2 : Int32)), (.ref b288)])) rfl rfl (hb hby d1_35)
    have W310 : Wr h303 h310 b288 ((2 : Int32)).toNatClampNeg (.int c2) := by have z := W310; rw [u4] at z; exact z
    refine gv st310 ?_
    have f312 : Arv Z h310 d kd .char (3 : Int32) [(.int c0), (.int c1), (.int c2)] (.int (0 : Int32)) := f305.other W310 ne289
    have O313 := O306.wr W310 g290
    have K314 := K307.wr W310 (Or.inr z291)
    have N315 := Fr.snoc X310 N308 g290
    have f311 : Arv Z h310 b288 k288 .char (3 : Int32) [(.int c0), (.int c1), (.int c2)] (.int (0 : Int32)) := Arv.set Ar310 q310 S310 n310 H310 G310 (by have z := fits_nar_char c2; rw [u4] at z; exact z) W310 2 rfl (Nat.le_of_ble_eq_true rfl)
    show G (T310.setTop (mkF me_ 36 #[.val (.ref d), .val (.int (3 : Int32)), .val (.ref b288)] []))
    refine gv (fun tQ kQ => XS.aloadN X310.here hx rfl (hb hby d1_36) rfl rfl kQ) ?_
    show G (T310.setTop (mkF me_ 37 #[.val (.ref d), .val (.int (3 : Int32)), .val (.ref b288)] [(.ref b288)]))
    refine gf _ (own_ret X310 Bd.notSynchronized (v := some (.ref b288)) (fun h => by rw [Bd.returns] at h; cases h) ?_ (by decide) (by decide) (fun fs hr => retOut X310 hx (t := (.array .char)) Bd.returns rfl (Or.inr (Or.inr (Or.inr (Or.inr ⟨rfl, rfl, rfl⟩)))) (hb hby d1_37) hr))
    show Q_tk Z d kd n c0 c1 c2 h0 n0 _ T310.heap _
    rw [e310]
    exact ⟨b288, k288, rfl, N315, K314, z291, (own_tk (f := fun n => own_cl n c0 c1 c2) (own_cl3 c0 c1 c2) q f311)⟩
theorem ef_11 (m : MethodId) (x0 : Addr) (x1 : Addr) (x2 : Int32) (x3 : Int32)  : entryFrame m #[(.ref x0), (.ref x1), (.int x2), (.int x3), .null] 6 = mkF m 0 #[.val (.ref x0), .val (.ref x1), .val (.int x2), .val (.int x3), .val .null, .unset] [] := by first | (simp [entryFrame, mkF, argsToLocals, Value.category]; done) | rfl
theorem d3_0 : decode jdk_42_method_149_code 0 = .ok (.aload_n 0, 1) := by decide +kernel
theorem d3_1 : decode jdk_42_method_149_code 1 = .ok (.invokespecial 1, 3) := by decide +kernel
theorem d3_4 : decode jdk_42_method_149_code 4 = .ok (.iload_n 3, 1) := by decide +kernel
theorem d3_5 : decode jdk_42_method_149_code 5 = .ok (.ifCond .ne 22, 3) := by decide +kernel
theorem d3_8 : decode jdk_42_method_149_code 8 = .ok (.aload_n 0, 1) := by decide +kernel
theorem d3_9 : decode jdk_42_method_149_code 9 = .ok (.ldc 7, 2) := by decide +kernel
theorem d3_11 : decode jdk_42_method_149_code 11 = .ok (.getfield 9, 3) := by decide +kernel
theorem d3_14 : decode jdk_42_method_149_code 14 = .ok (.putfield 9, 3) := by decide +kernel
theorem d3_17 : decode jdk_42_method_149_code 17 = .ok (.aload_n 0, 1) := by decide +kernel
theorem d3_18 : decode jdk_42_method_149_code 18 = .ok (.ldc 7, 2) := by decide +kernel
theorem d3_20 : decode jdk_42_method_149_code 20 = .ok (.getfield 15, 3) := by decide +kernel
theorem d3_23 : decode jdk_42_method_149_code 23 = .ok (.putfield 15, 3) := by decide +kernel
theorem d3_26 : decode jdk_42_method_149_code 26 = .ok (.return_, 1) := by decide +kernel
def Q_sci0 (Z : State) (a : Addr) (d : Addr) (kd : ClassId) (h0 : Heap) (n0 : Nat) (v : Option Value) (h : Heap) (L : List Loc) : Prop := ∃ (b : Addr), ∃ (k : ClassId), v = none ∧ Fr n0 L ∧ Keep h0 h [a] ∧ (Exa Z h a "java/lang/String") ∧ (Fld Z h a "java/lang/String" "coder" "B" (.int (0 : Int32))) ∧ (Fld Z h a "java/lang/String" "value" "[B" (.ref b)) ∧ (Arv Z h b k .byte (0 : Int32) [] (.int (0 : Int32)))
set_option maxRecDepth 65536 in
set_option maxHeartbeats 40000000 in
theorem rm_sci0 (l : Launch) (Z : State) (a0 : Array Value) (hw : ∀ d ∈ tables_1, d.before a0 Z = true) (ws : List Jvm.Cond) (a : Addr) (d : Addr) (kd : ClassId) (h0 : Heap) (n0 : Nat) (O0 : Old Z n0 h0) (u0 : Exa Z h0 a "java/lang/String") (u1 : Fld Z h0 a "java/lang/String" "value" "[B" .null) (u2 : Fld Z h0 a "java/lang/String" "coder" "B" (.int (0 : Int32))) (u3 : n0 ≤ a) (u4 : Arv Z h0 d kd .char (0 : Int32) [] (.int (0 : Int32))) :
    MetFree l (⟨"java/lang/String", "<init>", "([CIILjava/lang/Void;)V"⟩ : MethodName) (head1 (Jvm.Cond.code (⟨"java/lang/String", "<init>", "([CIILjava/lang/Void;)V"⟩ : MethodName) jdk_42_method_149_code 6 none :: ws) ({ frames := 1, cells := 4, slots := 8, locals := 12 } : Room)) (fun aV U => aV = #[(.ref a), (.ref d), (.int (0 : Int32)), (.int (0 : Int32)), .null] ∧ Z.Warmed39 U.vm ∧ U.heap = h0 ∧ CHv Z own_EL U.vm h0 ∧ ∀ x ∈ ([a] : List Addr), Safe Z own_EL U.vm h0 x) (fun _ _ _ _ _ => True) (fun _ U o U' => ∃ v L, o = .returned v ∧ Q_sci0 Z a d kd h0 n0 v U'.heap L ∧ CHr Z own_EL U.vm U.heap U'.vm U'.heap ∧ ReturnedEndW U o U' L ({ frames := 1, cells := 4, slots := 8, locals := 12 } : Room).cells ({ frames := 1, cells := 4, slots := 8, locals := 12 } : Room).slots) := by
  refine MetFree.of_bodySF (plainFor_of_name pn_0) hisR ?_
  intro pr_ en_ st_ me_ args below meth_ co_ s₁ Bd hml0 hP hK
  obtain ⟨rfl, hZ, hh, hCH, hSF⟩ := hP
  have hx := Bd.exec
  have hby := Bd.bytes
  have hEL := own_hEL hw
  have wS := own_wS hw
  have hml : co_.maxLocals = 6 := hml0
  have hown : st_.vm.findClass "java/lang/String" = some me_.cls := findClass_of_methodNamed Bd.named
  have hnm := (name_of_methodNamed Bd.named Bd.method).1
  have X0 : Stand pr_ l en_ ({ frames := 1, cells := 4, slots := 8, locals := 12 } : Room) (st_.setVm st_.vm) me_ #[(.ref a), (.ref d), (.int (0 : Int32)), (.int (0 : Int32)), .null] below meth_ co_ s₁ [] 0 0 := Stand.of_body Bd
  have e0 : s₁.heap = h0 := by rw [← hh, Bd.state]; rfl
  have N0 := Fr.nil n0
  have K0 := Keep.refl h0 [a]
  have hS : st_.Since st_.vm 0 := (State.WarmedH.refl st_).since 0
  have hk : 0 ≤ h0.size := Nat.zero_le _
  have CR : CHr Z own_EL st_.vm h0 st_.vm h0 := CHr.refl hCH
  have sf_a := hSF a (List.mem_of_getElem? (i := 0) rfl)
  obtain ⟨G, gv, gf, gb⟩ := own_GW Z own_EL pr_.tables en_ below st_ (Q_sci0 Z a d kd h0 n0) ({ frames := 1, cells := 4, slots := 8, locals := 12 } : Room).cells ({ frames := 1, cells := 4, slots := 8, locals := 12 } : Room).slots
  show own_FinW Z own_EL pr_.tables en_ below st_ (Q_sci0 Z a d kd h0 n0) ({ frames := 1, cells := 4, slots := 8, locals := 12 } : Room).cells ({ frames := 1, cells := 4, slots := 8, locals := 12 } : Room).slots (s₁.setTop (entryFrame me_ #[(.ref a), (.ref d), (.int (0 : Int32)), (.int (0 : Int32)), .null] 6))
  refine gb _ (gv (fun tQ kQ => castTop (ef_11 me_ a d (0 : Int32) (0 : Int32)) kQ) ?_)
  show G (s₁.setTop (mkF me_ 0 #[.val (.ref a), .val (.ref d), .val (.int (0 : Int32)), .val (.int (0 : Int32)), .val .null, .unset] []))
  refine gv (fun tQ kQ => XS.aloadN X0.here hx rfl (hb hby d3_0) rfl rfl kQ) ?_
  show G (s₁.setTop (mkF me_ 1 #[.val (.ref a), .val (.ref d), .val (.int (0 : Int32)), .val (.int (0 : Int32)), .val .null, .unset] [(.ref a)]))
  obtain ⟨T316, X316, e316, st316⟩ := initO X0 hx hZ hown (hw _ (List.mem_of_getElem? (i := 15) rfl)) (hw _ (List.mem_of_getElem? (i := 16) rfl)) (hw _ (List.mem_of_getElem? (i := 17) rfl)) e0 (g := (mkF me_ 1 #[.val (.ref a), .val (.ref d), .val (.int (0 : Int32)), .val (.int (0 : Int32)), .val .null, .unset] [(.ref a)])) rfl (by rw [hml]; rfl) rfl (hb hby d3_1) (by decide) (W := 0) (by show 2 * 0 + _ ≤ _; exact Nat.le_of_eq rfl) (by decide)
  refine gv st316 ?_
  show G (T316.setTop (mkF me_ 4 #[.val (.ref a), .val (.ref d), .val (.int (0 : Int32)), .val (.int (0 : Int32)), .val .null, .unset] []))
  refine gv (fun tQ kQ => XS.iloadN X316.here hx rfl (hb hby d3_4) rfl kQ) ?_
  show G (T316.setTop (mkF me_ 5 #[.val (.ref a), .val (.ref d), .val (.int (0 : Int32)), .val (.int (0 : Int32)), .val .null, .unset] [(.int (0 : Int32))]))
  refine gv (fun tQ kQ => XS.ifNo X316.here hx rfl (hb hby d3_5) rfl ((if0 _ _).trans (teq (by decide : (0 : Int32) = (0 : Int32))).2) kQ) ?_
  show G (T316.setTop (mkF me_ 8 #[.val (.ref a), .val (.ref d), .val (.int (0 : Int32)), .val (.int (0 : Int32)), .val .null, .unset] []))
  refine gv (fun tQ kQ => XS.aloadN X316.here hx rfl (hb hby d3_8) rfl rfl kQ) ?_
  show G (T316.setTop (mkF me_ 9 #[.val (.ref a), .val (.ref d), .val (.int (0 : Int32)), .val (.int (0 : Int32)), .val .null, .unset] [(.ref a)]))
  obtain ⟨a317, T317, h317, k317, b317, kc317, X317, e317, E317, hS, hk, hZ, hown, ES317, FC317, FV317, AV317, -, -, CRn317, L317, sn317, st317⟩ := ldcCH X316 hx hZ hown (hw _ (List.mem_of_getElem? (i := 18) rfl)) wS e316 hS hk hEL (List.mem_of_getElem? (i := 3) rfl) CR.1 (vs := []) (z := (0 : Int32)) ⟨by decide, by decide⟩ (by decide) (by decide) (g := (mkF me_ 9 #[.val (.ref a), .val (.ref d), .val (.int (0 : Int32)), .val (.int (0 : Int32)), .val .null, .unset] [(.ref a)])) rfl (hb hby d3_9) (n := 0) (by decide) (by decide) (by decide) (by decide)
  refine gv st317 ?_
  have sf318 := CRn317.safe u0.lt sf_a
  have f319 : Exa Z h317 a "java/lang/String" := u0.ext E317
  have f320 : Fld Z h317 a "java/lang/String" "value" "[B" .null := u1.ext E317
  have f321 : Fld Z h317 a "java/lang/String" "coder" "B" (.int (0 : Int32)) := u2.ext E317
  have f322 : Arv Z h317 d kd .char (0 : Int32) [] (.int (0 : Int32)) := u4.ext E317
  have O323 := O0.ext E317
  have K324 := K0.ext E317
  have CR := CR.trans CRn317
  have ne325 : a ≠ a317 := (sn317 a sf318).1
  have ne326 : a ≠ b317 := (sn317 a sf318).2
  show G (T317.setTop (mkF me_ 11 #[.val (.ref a), .val (.ref d), .val (.int (0 : Int32)), .val (.int (0 : Int32)), .val .null, .unset] [(.ref a317), (.ref a)]))
  obtain ⟨T327, X327, e327, st327⟩ := getF X317 hx hZ hown (host := "") (Or.inl (hw _ (List.mem_of_getElem? (i := 24) rfl))) Via.refl e317 FV317 (g := (mkF me_ 11 #[.val (.ref a), .val (.ref d), .val (.int (0 : Int32)), .val (.int (0 : Int32)), .val .null, .unset] [(.ref a317), (.ref a)])) rfl rfl (hb hby d3_11)
  refine gv st327 ?_
  show G (T327.setTop (mkF me_ 14 #[.val (.ref a), .val (.ref d), .val (.int (0 : Int32)), .val (.int (0 : Int32)), .val .null, .unset] [(.ref b317), (.ref a)]))
  obtain ⟨T328, h328, X328, e328, W328, st328⟩ := putF X327 hx hZ hown (host := "") (Or.inl (hw _ (List.mem_of_getElem? (i := 24) rfl))) Via.refl e327 f320 f319 (Or.inr ⟨(hw _ (List.mem_of_getElem? (i := 20) rfl)), rfl, hnm⟩) (hw _ (List.mem_of_getElem? (i := 2) rfl)) (ty := (.array .byte)) (by decide) rfl rfl (g := (mkF me_ 14 #[.val (.ref a), .val (.ref d), .val (.int (0 : Int32)), .val (.int (0 : Int32)), .val .null, .unset] [(.ref b317), (.ref a)])) rfl rfl (hb hby d3_14)
  refine gv st328 ?_
  have sf330 := Safe.wr W328 sf318 CR.1 sf318
  have CR := CR.trans (CHr.wr W328 sf318 CR.1)
  have hk := Nat.le_trans hk (Keep.of_wr W328).1
  have f331 : Exa Z h328 a "java/lang/String" := f319.wr W328
  have f332 : Fld Z h328 a "java/lang/String" "coder" "B" (.int (0 : Int32)) := f321.other W328 (Or.inr (slot_ne (Or.inr (hw _ (List.mem_of_getElem? (i := 21) rfl))) (Or.inr (hw _ (List.mem_of_getElem? (i := 20) rfl))) (by decide) (t := .byte) (t' := (.array .byte)) (by decide) (by decide)))
  have f333 : Arv Z h328 d kd .char (0 : Int32) [] (.int (0 : Int32)) := f322.other W328 (Ne.symm (own_ne_arv f319 (hw _ (List.mem_of_getElem? (i := 2) rfl)) f322))
  have f334 : Exa Z h328 a317 "java/lang/String" := ES317.wr W328
  have f335 : Fld Z h328 a317 "java/lang/String" "coder" "B" (.int (0 : Int32)) := FC317.other W328 (Or.inl (Ne.symm ne325))
  have f336 : Fld Z h328 a317 "java/lang/String" "value" "[B" (.ref b317) := FV317.other W328 (Or.inl (Ne.symm ne325))
  have f337 : Arv Z h328 b317 kc317 .byte (0 : Int32) [] (.int (0 : Int32)) := AV317.other W328 (Ne.symm ne326)
  have O338 := O323.wr W328 u3
  have K339 := K324.wr W328 (Or.inl (List.mem_of_getElem? (i := 0) rfl))
  have N340 := Fr.snoc X328 N0 u3
  have f329 : Fld Z h328 a "java/lang/String" "value" "[B" (.ref b317) := f320.same W328
  show G (T328.setTop (mkF me_ 17 #[.val (.ref a), .val (.ref d), .val (.int (0 : Int32)), .val (.int (0 : Int32)), .val .null, .unset] []))
  refine gv (fun tQ kQ => XS.aloadN X328.here hx rfl (hb hby d3_17) rfl rfl kQ) ?_
  show G (T328.setTop (mkF me_ 18 #[.val (.ref a), .val (.ref d), .val (.int (0 : Int32)), .val (.int (0 : Int32)), .val .null, .unset] [(.ref a)]))
  obtain ⟨a341, T341, h341, k341, b341, kc341, X341, e341, E341, hS, hk, hZ, hown, ES341, FC341, FV341, AV341, -, -, CRn341, L341, sn341, st341⟩ := ldcCH X328 hx hZ hown (hw _ (List.mem_of_getElem? (i := 18) rfl)) wS e328 hS hk hEL (List.mem_of_getElem? (i := 3) rfl) CR.1 (vs := []) (z := (0 : Int32)) ⟨by decide, by decide⟩ (by decide) (by decide) (g := (mkF me_ 18 #[.val (.ref a), .val (.ref d), .val (.int (0 : Int32)), .val (.int (0 : Int32)), .val .null, .unset] [(.ref a)])) rfl (hb hby d3_18) (n := 0) (by decide) (by decide) (by decide) (by decide)
  refine gv st341 ?_
  have sf342 := CRn341.safe f331.lt sf330
  have f343 : Exa Z h341 a "java/lang/String" := f331.ext E341
  have f344 : Fld Z h341 a "java/lang/String" "value" "[B" (.ref b317) := f329.ext E341
  have f345 : Fld Z h341 a "java/lang/String" "coder" "B" (.int (0 : Int32)) := f332.ext E341
  have f346 : Arv Z h341 d kd .char (0 : Int32) [] (.int (0 : Int32)) := f333.ext E341
  have f347 : Exa Z h341 a317 "java/lang/String" := f334.ext E341
  have f348 : Fld Z h341 a317 "java/lang/String" "coder" "B" (.int (0 : Int32)) := f335.ext E341
  have f349 : Fld Z h341 a317 "java/lang/String" "value" "[B" (.ref b317) := f336.ext E341
  have f350 : Arv Z h341 b317 kc317 .byte (0 : Int32) [] (.int (0 : Int32)) := f337.ext E341
  have O351 := O338.ext E341
  have K352 := K339.ext E341
  have CR := CR.trans CRn341
  have ne353 : a ≠ a341 := (sn341 a sf342).1
  have ne354 : a ≠ b341 := (sn341 a sf342).2
  show G (T341.setTop (mkF me_ 20 #[.val (.ref a), .val (.ref d), .val (.int (0 : Int32)), .val (.int (0 : Int32)), .val .null, .unset] [(.ref a341), (.ref a)]))
  obtain ⟨T355, X355, e355, st355⟩ := getF X341 hx hZ hown (host := "") (Or.inl (hw _ (List.mem_of_getElem? (i := 25) rfl))) Via.refl e341 FC341 (g := (mkF me_ 20 #[.val (.ref a), .val (.ref d), .val (.int (0 : Int32)), .val (.int (0 : Int32)), .val .null, .unset] [(.ref a341), (.ref a)])) rfl rfl (hb hby d3_20)
  refine gv st355 ?_
  show G (T355.setTop (mkF me_ 23 #[.val (.ref a), .val (.ref d), .val (.int (0 : Int32)), .val (.int (0 : Int32)), .val .null, .unset] [(.int (0 : Int32)), (.ref a)]))
  obtain ⟨T356, h356, X356, e356, W356, st356⟩ := putFN X355 hx hZ hown (hw _ (List.mem_of_getElem? (i := 25) rfl)) Via.refl e355 f345 f343 (Or.inr ⟨(hw _ (List.mem_of_getElem? (i := 21) rfl)), rfl, hnm⟩) (hw _ (List.mem_of_getElem? (i := 2) rfl)) (ty := .byte) (v' := (.int (0 : Int32))) (by decide) rfl rfl (g := (mkF me_ 23 #[.val (.ref a), .val (.ref d), .val (.int (0 : Int32)), .val (.int (0 : Int32)), .val .null, .unset] [(.int (0 : Int32)), (.ref a)])) rfl rfl (hb hby d3_23)
  refine gv st356 ?_
  have sf358 := Safe.wr W356 sf342 CR.1 sf342
  have CR := CR.trans (CHr.wr W356 sf342 CR.1)
  have hk := Nat.le_trans hk (Keep.of_wr W356).1
  have f359 : Exa Z h356 a "java/lang/String" := f343.wr W356
  have f360 : Fld Z h356 a "java/lang/String" "value" "[B" (.ref b317) := f344.other W356 (Or.inr (slot_ne (Or.inr (hw _ (List.mem_of_getElem? (i := 20) rfl))) (Or.inr (hw _ (List.mem_of_getElem? (i := 21) rfl))) (by decide) (t := (.array .byte)) (t' := .byte) (by decide) (by decide)))
  have f361 : Arv Z h356 d kd .char (0 : Int32) [] (.int (0 : Int32)) := f346.other W356 (Ne.symm (own_ne_arv f343 (hw _ (List.mem_of_getElem? (i := 2) rfl)) f346))
  have f362 : Exa Z h356 a317 "java/lang/String" := f347.wr W356
  have f363 : Fld Z h356 a317 "java/lang/String" "coder" "B" (.int (0 : Int32)) := f348.other W356 (Or.inl (Ne.symm ne325))
  have f364 : Fld Z h356 a317 "java/lang/String" "value" "[B" (.ref b317) := f349.other W356 (Or.inl (Ne.symm ne325))
  have f365 : Arv Z h356 b317 kc317 .byte (0 : Int32) [] (.int (0 : Int32)) := f350.other W356 (Ne.symm ne326)
  have f366 : Exa Z h356 a341 "java/lang/String" := ES341.wr W356
  have f367 : Fld Z h356 a341 "java/lang/String" "coder" "B" (.int (0 : Int32)) := FC341.other W356 (Or.inl (Ne.symm ne353))
  have f368 : Fld Z h356 a341 "java/lang/String" "value" "[B" (.ref b341) := FV341.other W356 (Or.inl (Ne.symm ne353))
  have f369 : Arv Z h356 b341 kc341 .byte (0 : Int32) [] (.int (0 : Int32)) := AV341.other W356 (Ne.symm ne354)
  have O370 := O351.wr W356 u3
  have K371 := K352.wr W356 (Or.inl (List.mem_of_getElem? (i := 0) rfl))
  have N372 := Fr.snoc X356 N340 u3
  have f357 : Fld Z h356 a "java/lang/String" "coder" "B" (.int (0 : Int32)) := f345.same W356
  show G (T356.setTop (mkF me_ 26 #[.val (.ref a), .val (.ref d), .val (.int (0 : Int32)), .val (.int (0 : Int32)), .val .null, .unset] []))
  refine gf _ (own_retW X356 Bd.notSynchronized hS (by rw [e356]; exact hk) (v := none) (fun _ => rfl) ?_ (by decide) (by decide) (by rw [hh, e356]; exact CR.trans (CHv.at X356 hZ hEL CR.1)) (fun fs hr => X356.returnOut hx Bd.returns (hb hby d3_26) hr))
  show Q_sci0 Z a d kd h0 n0 _ T356.heap _
  rw [e356]
  exact ⟨b317, kc317, rfl, N372, K371, f359, f357, f360, f365⟩
theorem d2_0 : decode jdk_42_method_3_code 0 = .ok (.aload_n 0, 1) := by decide +kernel
theorem d2_1 : decode jdk_42_method_3_code 1 = .ok (.aload_n 1, 1) := by decide +kernel
theorem d2_2 : decode jdk_42_method_3_code 2 = .ok (.iconst 0, 1) := by decide +kernel
theorem d2_3 : decode jdk_42_method_3_code 3 = .ok (.aload_n 1, 1) := by decide +kernel
theorem d2_4 : decode jdk_42_method_3_code 4 = .ok (.arraylength, 1) := by decide +kernel
theorem d2_5 : decode jdk_42_method_3_code 5 = .ok (.aconst_null, 1) := by decide +kernel
theorem d2_6 : decode jdk_42_method_3_code 6 = .ok (.invokespecial 27, 3) := by decide +kernel
theorem pd_14 : parseMethodDescriptor "([CIILjava/lang/Void;)V" = some ⟨[(.array .char), .int, .int, (.object "java/lang/Void")], none⟩ := by decide +kernel
theorem d2_9 : decode jdk_42_method_3_code 9 = .ok (.return_, 1) := by decide +kernel
def Q_sc0 (Z : State) (a : Addr) (d : Addr) (kd : ClassId) (h0 : Heap) (n0 : Nat) (v : Option Value) (h : Heap) (L : List Loc) : Prop := ∃ (b : Addr), ∃ (k : ClassId), v = none ∧ Fr n0 L ∧ Keep h0 h [a] ∧ (Exa Z h a "java/lang/String") ∧ (Fld Z h a "java/lang/String" "coder" "B" (.int (0 : Int32))) ∧ (Fld Z h a "java/lang/String" "value" "[B" (.ref b)) ∧ (Arv Z h b k .byte (0 : Int32) [] (.int (0 : Int32)))
set_option maxRecDepth 65536 in
set_option maxHeartbeats 40000000 in
theorem rm_sc0 (l : Launch) (Z : State) (a0 : Array Value) (hw : ∀ d ∈ tables_1, d.before a0 Z = true) (ws : List Jvm.Cond) (a : Addr) (d : Addr) (kd : ClassId) (h0 : Heap) (n0 : Nat) (O0 : Old Z n0 h0) (u0 : Exa Z h0 a "java/lang/String") (u1 : Fld Z h0 a "java/lang/String" "value" "[B" .null) (u2 : Fld Z h0 a "java/lang/String" "coder" "B" (.int (0 : Int32))) (u3 : n0 ≤ a) (u4 : Arv Z h0 d kd .char (0 : Int32) [] (.int (0 : Int32))) :
    MetFree l (⟨"java/lang/String", "<init>", "([C)V"⟩ : MethodName) (head1 (Jvm.Cond.code (⟨"java/lang/String", "<init>", "([C)V"⟩ : MethodName) jdk_42_method_3_code 2 none :: ws) ({ frames := 2, cells := 4, slots := 8, locals := 29 } : Room)) (fun aV U => aV = #[(.ref a), (.ref d)] ∧ Z.Warmed39 U.vm ∧ U.heap = h0 ∧ CHv Z own_EL U.vm h0 ∧ ∀ x ∈ ([a] : List Addr), Safe Z own_EL U.vm h0 x) (fun _ _ _ _ _ => True) (fun _ U o U' => ∃ v L, o = .returned v ∧ Q_sc0 Z a d kd h0 n0 v U'.heap L ∧ CHr Z own_EL U.vm U.heap U'.vm U'.heap ∧ ReturnedEndW U o U' L ({ frames := 2, cells := 4, slots := 8, locals := 29 } : Room).cells ({ frames := 2, cells := 4, slots := 8, locals := 29 } : Room).slots) := by
  refine MetFree.of_bodySF (plainFor_of_name pn_0) hisR ?_
  intro pr_ en_ st_ me_ args below meth_ co_ s₁ Bd hml0 hP hK
  obtain ⟨rfl, hZ, hh, hCH, hSF⟩ := hP
  have hx := Bd.exec
  have hby := Bd.bytes
  have hEL := own_hEL hw
  have wS := own_wS hw
  have hml : co_.maxLocals = 2 := hml0
  have hown : st_.vm.findClass "java/lang/String" = some me_.cls := findClass_of_methodNamed Bd.named
  have hnm := (name_of_methodNamed Bd.named Bd.method).1
  have X0 : Stand pr_ l en_ ({ frames := 2, cells := 4, slots := 8, locals := 29 } : Room) (st_.setVm st_.vm) me_ #[(.ref a), (.ref d)] below meth_ co_ s₁ [] 0 0 := Stand.of_body Bd
  have e0 : s₁.heap = h0 := by rw [← hh, Bd.state]; rfl
  have N0 := Fr.nil n0
  have K0 := Keep.refl h0 [a]
  have hS : st_.Since st_.vm 0 := (State.WarmedH.refl st_).since 0
  have hk : 0 ≤ h0.size := Nat.zero_le _
  have CR : CHr Z own_EL st_.vm h0 st_.vm h0 := CHr.refl hCH
  have sf_a := hSF a (List.mem_of_getElem? (i := 0) rfl)
  obtain ⟨G, gv, gf, gb⟩ := own_GW Z own_EL pr_.tables en_ below st_ (Q_sc0 Z a d kd h0 n0) ({ frames := 2, cells := 4, slots := 8, locals := 29 } : Room).cells ({ frames := 2, cells := 4, slots := 8, locals := 29 } : Room).slots
  show own_FinW Z own_EL pr_.tables en_ below st_ (Q_sc0 Z a d kd h0 n0) ({ frames := 2, cells := 4, slots := 8, locals := 29 } : Room).cells ({ frames := 2, cells := 4, slots := 8, locals := 29 } : Room).slots (s₁.setTop (entryFrame me_ #[(.ref a), (.ref d)] 2))
  refine gb _ (gv (fun tQ kQ => castTop (ef_2 me_ a d) kQ) ?_)
  show G (s₁.setTop (mkF me_ 0 #[.val (.ref a), .val (.ref d)] []))
  refine gv (fun tQ kQ => XS.aloadN X0.here hx rfl (hb hby d2_0) rfl rfl kQ) ?_
  show G (s₁.setTop (mkF me_ 1 #[.val (.ref a), .val (.ref d)] [(.ref a)]))
  refine gv (fun tQ kQ => XS.aloadN X0.here hx rfl (hb hby d2_1) rfl rfl kQ) ?_
  show G (s₁.setTop (mkF me_ 2 #[.val (.ref a), .val (.ref d)] [(.ref d), (.ref a)]))
  refine gv (fun tQ kQ => XS.iconst X0.here hx rfl (hb hby d2_2) kQ) ?_
  show G (s₁.setTop (mkF me_ 3 #[.val (.ref a), .val (.ref d)] [(.int (0 : Int32)), (.ref d), (.ref a)]))
  refine gv (fun tQ kQ => XS.aloadN X0.here hx rfl (hb hby d2_3) rfl rfl kQ) ?_
  show G (s₁.setTop (mkF me_ 4 #[.val (.ref a), .val (.ref d)] [(.ref d), (.int (0 : Int32)), (.ref d), (.ref a)]))
  obtain ⟨cl373, Ar373, -, S373, n373, -, -⟩ := (id u4)
  refine gv (X0.arraylength hx (by rw [e0]; exact Ar373.1) (State.isArrayOf_alike hZ.alike Ar373.2.1) (g := (mkF me_ 4 #[.val (.ref a), .val (.ref d)] [(.ref d), (.int (0 : Int32)), (.ref d), (.ref a)])) rfl rfl (hb hby d2_4)) ?_
  rw [len_of S373 n373]
  show G (s₁.setTop (mkF me_ 5 #[.val (.ref a), .val (.ref d)] [(.int (0 : Int32)), (.int (0 : Int32)), (.ref d), (.ref a)]))
  refine gv (fun tQ kQ => XS.aconstNull X0.here hx rfl (hb hby d2_5) kQ) ?_
  show G (s₁.setTop (mkF me_ 6 #[.val (.ref a), .val (.ref d)] [.null, (.int (0 : Int32)), (.int (0 : Int32)), (.ref d), (.ref a)]))
  obtain ⟨_, _, ⟨T374, L374, k374, n374⟩, -, X374, hS374, hg374, ⟨Lc374, hQ374, l374, y374, z374, CRn374⟩, st374⟩ := X0.specialBackS hx (y := (⟨"java/lang/String", "<init>", "([CIILjava/lang/Void;)V"⟩ : MethodName)) rfl hown (mvT hZ (hw _ (List.mem_of_getElem? (i := 11) rfl))) (mvT hZ (hw _ (List.mem_of_getElem? (i := 12) rfl))) (mvT hZ (hw _ (List.mem_of_getElem? (i := 14) rfl))) (by decide) (own_backH (W := 0) (rm_sci0 l Z a0 hw [] a d kd h0 n0 O0 u0 u1 u2 u3 u4) hZ (hw _ (List.mem_of_getElem? (i := 14) rfl)) (hw _ (List.mem_of_getElem? (i := 3) rfl)) (by decide) (by decide) hEL CR.1 (own_sfS u0.lt sf_a own_sf0)) (g := (mkF me_ 6 #[.val (.ref a), .val (.ref d)] [.null, (.int (0 : Int32)), (.int (0 : Int32)), (.ref d), (.ref a)])) rfl (by rw [hml]; rfl) (Steps.refl _) (a := a) (argsL := [(.ref d), (.int (0 : Int32)), (.int (0 : Int32)), .null]) (rest := []) (lenOf pd_14 rfl) rfl (by show 2 * 0 + _ ≤ _; exact Nat.le_of_eq rfl) (hb hby d2_6) (fun _ _ => ⟨rfl, e0, (by decide : 0 + 4 ≤ _), (by decide : 0 + 8 ≤ _)⟩)
  dsimp only [Pt.U, Pt.locs, Pt.cells, Pt.slots] at X374 l374 y374 z374 st374 hQ374 hS374 hg374 CRn374
  subst l374 y374 z374
  have hS := foldS hS (by rw [e0]; exact hk) hS374 hg374
  have hZ : Z.Warmed39 T374.vm := State.Warmed39.trans (t := st_.setVm st_.vm) hZ hS374.1
  have hown : T374.vm.findClass "java/lang/String" = some me_.cls := by rw [hS374.1.alike.findClass]; exact hown
  have X374 : Stand pr_ l en_ _ (st_.setVm T374.vm) me_ _ below meth_ co_ T374 _ _ _ := X374
  obtain ⟨b_374, k_374, rfl, Nq374, Kq374, w374_0, w374_1, w374_2, w374_3⟩ := hQ374
  have N375 := Fr.app N0 Nq374
  obtain ⟨h374, e374⟩ : ∃ z, T374.heap = z := ⟨_, rfl⟩
  rw [e374] at Kq374 CRn374 w374_0 w374_1 w374_2 w374_3
  have sf376 := CRn374.safe u0.lt sf_a
  have CR := CR.trans CRn374
  obtain ⟨kk374, hkk374⟩ : ∃ z, z = T374.heap.size := ⟨_, rfl⟩
  rw [← hkk374] at hS
  have hk : kk374 ≤ h374.size := by rw [hkk374, e374]; exact Nat.le_refl _
  have f377 : Exa Z h374 a "java/lang/String" := u0.keep Kq374
  have f378 : Arv Z h374 d kd .char (0 : Int32) [] (.int (0 : Int32)) := u4.keep Kq374 (ninS (Ne.symm (own_ne_arv u0 (hw _ (List.mem_of_getElem? (i := 2) rfl)) u4)) nin0)
  have O379 := O0.keep Kq374 (allS u3 all0)
  have K380 := K0.trans Kq374 (allS (Or.inl (List.mem_of_getElem? (i := 0) rfl)) all0)
  refine gv (fun tQ kQ => st374.trans kQ) ?_
  show G (T374.setTop (mkF me_ 9 #[.val (.ref a), .val (.ref d)] []))
  refine gf _ (own_retW X374 Bd.notSynchronized hS (by rw [e374]; exact hk) (v := none) (fun _ => rfl) ?_ (by decide) (by decide) (by rw [hh, e374]; exact CR.trans (CHv.at X374 hZ hEL CR.1)) (fun fs hr => X374.returnOut hx Bd.returns (hb hby d2_9) hr))
  show Q_sc0 Z a d kd h0 n0 _ T374.heap _
  rw [e374]
  exact ⟨b_374, k_374, rfl, N375, K380, w374_0, w374_1, w374_2, w374_3⟩
theorem ef_12 (m : MethodId) (x0 : Addr) (x1 : Int32) (x2 : Addr) (x3 : Int32) (x4 : Int32)  : entryFrame m #[(.ref x0), (.int x1), (.ref x2), (.int x3), (.int x4)] 7 = mkF m 0 #[.val (.ref x0), .val (.int x1), .val (.ref x2), .val (.int x3), .val (.int x4), .unset, .unset] [] := by first | (simp [entryFrame, mkF, argsToLocals, Value.category]; done) | rfl
theorem pn_5 : plainName "java/lang/StringUTF16" = true := by first | (simp [plainName, overriddenIn]; done) | decide +kernel
theorem d6_0 : decode jdk_52_method_21_code 0 = .ok (.iconst 0, 1) := by decide +kernel
theorem d6_1 : decode jdk_52_method_21_code 1 = .ok (.istore 5, 2) := by decide +kernel
theorem d6_3 : decode jdk_52_method_21_code 3 = .ok (.iload 5, 2) := by decide +kernel
theorem d6_5 : decode jdk_52_method_21_code 5 = .ok (.iload 4, 2) := by decide +kernel
theorem d6_7 : decode jdk_52_method_21_code 7 = .ok (.if_icmp .ge 37, 3) := by decide +kernel
theorem d6_10 : decode jdk_52_method_21_code 10 = .ok (.aload_n 0, 1) := by decide +kernel
theorem d6_11 : decode jdk_52_method_21_code 11 = .ok (.iload_n 1, 1) := by decide +kernel
theorem d6_12 : decode jdk_52_method_21_code 12 = .ok (.caload, 1) := by decide +kernel
theorem d6_13 : decode jdk_52_method_21_code 13 = .ok (.istore 6, 2) := by decide +kernel
theorem d6_15 : decode jdk_52_method_21_code 15 = .ok (.iload 6, 2) := by decide +kernel
theorem d6_17 : decode jdk_52_method_21_code 17 = .ok (.sipush 255, 3) := by decide +kernel
theorem d6_20 : decode jdk_52_method_21_code 20 = .ok (.if_icmp .le 6, 3) := by decide +kernel
theorem d6_26 : decode jdk_52_method_21_code 26 = .ok (.aload_n 2, 1) := by decide +kernel
theorem d6_27 : decode jdk_52_method_21_code 27 = .ok (.iload_n 3, 1) := by decide +kernel
theorem d6_28 : decode jdk_52_method_21_code 28 = .ok (.iload 6, 2) := by decide +kernel
theorem d6_30 : decode jdk_52_method_21_code 30 = .ok (.i2b, 1) := by decide +kernel
theorem d6_31 : decode jdk_52_method_21_code 31 = .ok (.bastore, 1) := by decide +kernel
theorem d6_32 : decode jdk_52_method_21_code 32 = .ok (.iinc 1 1, 3) := by decide +kernel
theorem d6_35 : decode jdk_52_method_21_code 35 = .ok (.iinc 3 1, 3) := by decide +kernel
theorem d6_38 : decode jdk_52_method_21_code 38 = .ok (.iinc 5 1, 3) := by decide +kernel
theorem d6_41 : decode jdk_52_method_21_code 41 = .ok (.goto (-38), 3) := by decide +kernel
theorem d6_44 : decode jdk_52_method_21_code 44 = .ok (.iload 4, 2) := by decide +kernel
theorem d6_46 : decode jdk_52_method_21_code 46 = .ok (.ireturn, 1) := by decide +kernel
def Q_cmp1 (Z : State) (d : Addr) (kd : ClassId) (b : Addr) (k : ClassId) (c0 : Int32) (h0 : Heap) (n0 : Nat) (v : Option Value) (h : Heap) (L : List Loc) : Prop := v = some (.int (1 : Int32)) ∧ Fr n0 L ∧ Keep h0 h [b] ∧ (Arv Z h b k .byte (1 : Int32) [(.int (c0.toInt8.toInt32))] (.int (0 : Int32)))
set_option maxRecDepth 65536 in
set_option maxHeartbeats 40000000 in
theorem rm_cmp1 (l : Launch) (Z : State) (a0 : Array Value) (hw : ∀ d ∈ tables_1, d.before a0 Z = true) (ws : List Jvm.Cond) (d : Addr) (kd : ClassId) (b : Addr) (k : ClassId) (c0 : Int32) (h0 : Heap) (n0 : Nat) (O0 : Old Z n0 h0) (u0 : ¬ ((255 : Int32) < c0)) (u1 : Arv Z h0 d kd .char (1 : Int32) [(.int c0)] (.int (0 : Int32))) (u2 : Arv Z h0 b k .byte (1 : Int32) [(.int (0 : Int32))] (.int (0 : Int32))) (u3 : n0 ≤ b) (u4 : d ≠ b) :
    MetFree l (⟨"java/lang/StringUTF16", "compress", "([CI[BII)I"⟩ : MethodName) (head1 (Jvm.Cond.code (⟨"java/lang/StringUTF16", "compress", "([CI[BII)I"⟩ : MethodName) jdk_52_method_21_code 7 (some .int) :: ws) ({ frames := 0, cells := 0, slots := 0, locals := 0 } : Room)) (fun aV U => aV = #[(.ref d), (.int (0 : Int32)), (.ref b), (.int (0 : Int32)), (.int (1 : Int32))] ∧ Z.Warmed39 U.vm ∧ U.heap = h0) (fun _ _ _ _ _ => True) (fun _ U o U' => ∃ v L, o = .returned v ∧ Q_cmp1 Z d kd b k c0 h0 n0 v U'.heap L ∧ FrameEnd U o U' L ({ frames := 0, cells := 0, slots := 0, locals := 0 } : Room).cells ({ frames := 0, cells := 0, slots := 0, locals := 0 } : Room).slots) := by
  refine MetFree.of_bodySF (plainFor_of_name pn_5) hisR ?_
  intro pr_ en_ st_ me_ args below meth_ co_ s₁ Bd hml0 hP hK
  obtain ⟨rfl, hZ, hh⟩ := hP
  have hx := Bd.exec
  have hby := Bd.bytes
  have hml : co_.maxLocals = 7 := hml0
  have hown : st_.vm.findClass "java/lang/StringUTF16" = some me_.cls := findClass_of_methodNamed Bd.named
  have hnm := (name_of_methodNamed Bd.named Bd.method).1
  have X0 : Stand pr_ l en_ ({ frames := 0, cells := 0, slots := 0, locals := 0 } : Room) st_ me_ #[(.ref d), (.int (0 : Int32)), (.ref b), (.int (0 : Int32)), (.int (1 : Int32))] below meth_ co_ s₁ [] 0 0 := Stand.of_body Bd
  have e0 : s₁.heap = h0 := by rw [← hh, Bd.state]; rfl
  have N0 := Fr.nil n0
  have K0 := Keep.refl h0 [b]
  obtain ⟨G, gv, gf, gb⟩ := own_G pr_.tables en_ below st_ (Q_cmp1 Z d kd b k c0 h0 n0) ({ frames := 0, cells := 0, slots := 0, locals := 0 } : Room).cells ({ frames := 0, cells := 0, slots := 0, locals := 0 } : Room).slots
  show own_Fin pr_.tables en_ below st_ (Q_cmp1 Z d kd b k c0 h0 n0) ({ frames := 0, cells := 0, slots := 0, locals := 0 } : Room).cells ({ frames := 0, cells := 0, slots := 0, locals := 0 } : Room).slots (s₁.setTop (entryFrame me_ #[(.ref d), (.int (0 : Int32)), (.ref b), (.int (0 : Int32)), (.int (1 : Int32))] 7))
  refine gb _ (gv (fun tQ kQ => castTop (ef_12 me_ d (0 : Int32) b (0 : Int32) (1 : Int32)) kQ) ?_)
  show G (s₁.setTop (mkF me_ 0 #[.val (.ref d), .val (.int (0 : Int32)), .val (.ref b), .val (.int (0 : Int32)), .val (.int (1 : Int32)), .unset, .unset] []))
  refine gv (fun tQ kQ => XS.iconst X0.here hx rfl (hb hby d6_0) kQ) ?_
  show G (s₁.setTop (mkF me_ 1 #[.val (.ref d), .val (.int (0 : Int32)), .val (.ref b), .val (.int (0 : Int32)), .val (.int (1 : Int32)), .unset, .unset] [(.int (0 : Int32))]))
  refine gv (fun tQ kQ => XS.istore X0.here hx rfl (hb hby d6_1) rfl (l' := #[.val (.ref d), .val (.int (0 : Int32)), .val (.ref b), .val (.int (0 : Int32)), .val (.int (1 : Int32)), .val (.int (0 : Int32)), .unset]) rfl kQ) ?_
  show G (s₁.setTop (mkF me_ 3 #[.val (.ref d), .val (.int (0 : Int32)), .val (.ref b), .val (.int (0 : Int32)), .val (.int (1 : Int32)), .val (.int (0 : Int32)), .unset] []))
  refine gv (fun tQ kQ => XS.iload X0.here hx rfl (hb hby d6_3) rfl kQ) ?_
  show G (s₁.setTop (mkF me_ 5 #[.val (.ref d), .val (.int (0 : Int32)), .val (.ref b), .val (.int (0 : Int32)), .val (.int (1 : Int32)), .val (.int (0 : Int32)), .unset] [(.int (0 : Int32))]))
  refine gv (fun tQ kQ => XS.iload X0.here hx rfl (hb hby d6_5) rfl kQ) ?_
  show G (s₁.setTop (mkF me_ 7 #[.val (.ref d), .val (.int (0 : Int32)), .val (.ref b), .val (.int (0 : Int32)), .val (.int (1 : Int32)), .val (.int (0 : Int32)), .unset] [(.int (1 : Int32)), (.int (0 : Int32))]))
  refine gv (fun tQ kQ => XS.icmpNo X0.here hx rfl (hb hby d6_7) rfl (tlt (by decide : (0 : Int32) < (1 : Int32))).2.1 kQ) ?_
  show G (s₁.setTop (mkF me_ 10 #[.val (.ref d), .val (.int (0 : Int32)), .val (.ref b), .val (.int (0 : Int32)), .val (.int (1 : Int32)), .val (.int (0 : Int32)), .unset] []))
  refine gv (fun tQ kQ => XS.aloadN X0.here hx rfl (hb hby d6_10) rfl rfl kQ) ?_
  show G (s₁.setTop (mkF me_ 11 #[.val (.ref d), .val (.int (0 : Int32)), .val (.ref b), .val (.int (0 : Int32)), .val (.int (1 : Int32)), .val (.int (0 : Int32)), .unset] [(.ref d)]))
  refine gv (fun tQ kQ => XS.iloadN X0.here hx rfl (hb hby d6_11) rfl kQ) ?_
  show G (s₁.setTop (mkF me_ 12 #[.val (.ref d), .val (.int (0 : Int32)), .val (.ref b), .val (.int (0 : Int32)), .val (.int (1 : Int32)), .val (.int (0 : Int32)), .unset] [(.int (0 : Int32)), (.ref d)]))
  obtain ⟨cl381, Ar381, q381, S381, n381, H381, G381⟩ := (id u1)
  have in381 : ¬ ((0 : Int32) < 0 ∨ cl381.slots.size ≤ ((0 : Int32)).toNatClampNeg) := inb_of S381 ⟨by decide, by decide⟩
  refine gv (X0.caload hx (j := (0 : Int32)) (v := (.int c0)) (by rw [e0]; exact Ar381.1) (State.isArrayOf_alike hZ.alike Ar381.2.1) Ar381.2.2 in381 (Has.at H381 in381 rfl) (g := (mkF me_ 12 #[.val (.ref d), .val (.int (0 : Int32)), .val (.ref b), .val (.int (0 : Int32)), .val (.int (1 : Int32)), .val (.int (0 : Int32)), .unset] [(.int (0 : Int32)), (.ref d)])) rfl rfl (hb hby d6_12)) ?_
  show G (s₁.setTop (mkF me_ 13 #[.val (.ref d), .val (.int (0 : Int32)), .val (.ref b), .val (.int (0 : Int32)), .val (.int (1 : Int32)), .val (.int (0 : Int32)), .unset] [(.int c0)]))
  refine gv (fun tQ kQ => XS.istore X0.here hx rfl (hb hby d6_13) rfl (l' := #[.val (.ref d), .val (.int (0 : Int32)), .val (.ref b), .val (.int (0 : Int32)), .val (.int (1 : Int32)), .val (.int (0 : Int32)), .val (.int c0)]) rfl kQ) ?_
  show G (s₁.setTop (mkF me_ 15 #[.val (.ref d), .val (.int (0 : Int32)), .val (.ref b), .val (.int (0 : Int32)), .val (.int (1 : Int32)), .val (.int (0 : Int32)), .val (.int c0)] []))
  refine gv (fun tQ kQ => XS.iload X0.here hx rfl (hb hby d6_15) rfl kQ) ?_
  show G (s₁.setTop (mkF me_ 17 #[.val (.ref d), .val (.int (0 : Int32)), .val (.ref b), .val (.int (0 : Int32)), .val (.int (1 : Int32)), .val (.int (0 : Int32)), .val (.int c0)] [(.int c0)]))
  refine gv (fun tQ kQ => XS.sipush X0.here hx rfl (hb hby d6_17) kQ) ?_
  show G (s₁.setTop (mkF me_ 20 #[.val (.ref d), .val (.int (0 : Int32)), .val (.ref b), .val (.int (0 : Int32)), .val (.int (1 : Int32)), .val (.int (0 : Int32)), .val (.int c0)] [(.int (255 : Int32)), (.int c0)]))
  refine gv (fun tQ kQ => XS.icmpYes X0.here hx rfl (pc0 := 20) (pc' := 26) rfl (hb hby d6_20) rfl (flt u0).2.2.2 (by decide) (by decide) kQ) ?_
  show G (s₁.setTop (mkF me_ 26 #[.val (.ref d), .val (.int (0 : Int32)), .val (.ref b), .val (.int (0 : Int32)), .val (.int (1 : Int32)), .val (.int (0 : Int32)), .val (.int c0)] []))
  refine gv (fun tQ kQ => XS.aloadN X0.here hx rfl (hb hby d6_26) rfl rfl kQ) ?_
  show G (s₁.setTop (mkF me_ 27 #[.val (.ref d), .val (.int (0 : Int32)), .val (.ref b), .val (.int (0 : Int32)), .val (.int (1 : Int32)), .val (.int (0 : Int32)), .val (.int c0)] [(.ref b)]))
  refine gv (fun tQ kQ => XS.iloadN X0.here hx rfl (hb hby d6_27) rfl kQ) ?_
  show G (s₁.setTop (mkF me_ 28 #[.val (.ref d), .val (.int (0 : Int32)), .val (.ref b), .val (.int (0 : Int32)), .val (.int (1 : Int32)), .val (.int (0 : Int32)), .val (.int c0)] [(.int (0 : Int32)), (.ref b)]))
  refine gv (fun tQ kQ => XS.iload X0.here hx rfl (hb hby d6_28) rfl kQ) ?_
  show G (s₁.setTop (mkF me_ 30 #[.val (.ref d), .val (.int (0 : Int32)), .val (.ref b), .val (.int (0 : Int32)), .val (.int (1 : Int32)), .val (.int (0 : Int32)), .val (.int c0)] [(.int c0), (.int (0 : Int32)), (.ref b)]))
  refine gv (fun tQ kQ => XS.i2b X0.here hx rfl (hb hby d6_30) rfl kQ) ?_
  show G (s₁.setTop (mkF me_ 31 #[.val (.ref d), .val (.int (0 : Int32)), .val (.ref b), .val (.int (0 : Int32)), .val (.int (1 : Int32)), .val (.int (0 : Int32)), .val (.int c0)] [(.int (c0.toInt8.toInt32)), (.int (0 : Int32)), (.ref b)]))
  obtain ⟨cl382, Ar382, q382, S382, n382, H382, G382⟩ := (id u2)
  have in382 : ¬ ((0 : Int32) < 0 ∨ cl382.slots.size ≤ ((0 : Int32)).toNatClampNeg) := inb_of S382 ⟨by decide, by decide⟩
  obtain ⟨T382, h382, X382, e382, W382, st382⟩ := stB X0 hx hZ e0 Ar382 (j := (0 : Int32)) in382 (g := (mkF me_ 31 #[.val (.ref d), .val (.int (0 : Int32)), .val (.ref b), .val (.int (0 : Int32)), .val (.int (1 : Int32)), .val (.int (0 : Int32)), .val (.int c0)] [(.int (c0.toInt8.toInt32)), (.int (0 : Int32)), (.ref b)])) rfl rfl (hb hby d6_31)
  have W382 : Wr h0 h382 b ((0 : Int32)).toNatClampNeg (.int (c0.toInt8.toInt32)) := by have z := W382; rw [(own_narB _)] at z; exact z
  refine gv st382 ?_
  have f384 : Arv Z h382 d kd .char (1 : Int32) [(.int c0)] (.int (0 : Int32)) := u1.other W382 u4
  have O385 := O0.wr W382 u3
  have K386 := K0.wr W382 (Or.inl (List.mem_of_getElem? (i := 0) rfl))
  have N387 := Fr.snoc X382 N0 u3
  have f383 : Arv Z h382 b k .byte (1 : Int32) [(.int (c0.toInt8.toInt32))] (.int (0 : Int32)) := Arv.set Ar382 q382 S382 n382 H382 G382 (fits_nar_byte _) W382 0 rfl (Nat.le_of_ble_eq_true rfl)
  show G (T382.setTop (mkF me_ 32 #[.val (.ref d), .val (.int (0 : Int32)), .val (.ref b), .val (.int (0 : Int32)), .val (.int (1 : Int32)), .val (.int (0 : Int32)), .val (.int c0)] []))
  refine gv (fun tQ kQ => XS.iinc X382.here hx rfl (hb hby d6_32) rfl (l' := #[.val (.ref d), .val (.int ((0 : Int32) + (1 : Int32))), .val (.ref b), .val (.int (0 : Int32)), .val (.int (1 : Int32)), .val (.int (0 : Int32)), .val (.int c0)]) rfl kQ) ?_
  show G (T382.setTop (mkF me_ 35 #[.val (.ref d), .val (.int ((0 : Int32) + (1 : Int32))), .val (.ref b), .val (.int (0 : Int32)), .val (.int (1 : Int32)), .val (.int (0 : Int32)), .val (.int c0)] []))
  rw [(by decide : ((0 : Int32) + (1 : Int32)) = (1 : Int32))]
  show G (T382.setTop (mkF me_ 35 #[.val (.ref d), .val (.int (1 : Int32)), .val (.ref b), .val (.int (0 : Int32)), .val (.int (1 : Int32)), .val (.int (0 : Int32)), .val (.int c0)] []))
  refine gv (fun tQ kQ => XS.iinc X382.here hx rfl (hb hby d6_35) rfl (l' := #[.val (.ref d), .val (.int (1 : Int32)), .val (.ref b), .val (.int ((0 : Int32) + (1 : Int32))), .val (.int (1 : Int32)), .val (.int (0 : Int32)), .val (.int c0)]) rfl kQ) ?_
  show G (T382.setTop (mkF me_ 38 #[.val (.ref d), .val (.int (1 : Int32)), .val (.ref b), .val (.int ((0 : Int32) + (1 : Int32))), .val (.int (1 : Int32)), .val (.int (0 : Int32)), .val (.int c0)] []))
  rw [(by decide : ((0 : Int32) + (1 : Int32)) = (1 : Int32))]
  show G (T382.setTop (mkF me_ 38 #[.val (.ref d), .val (.int (1 : Int32)), .val (.ref b), .val (.int (1 : Int32)), .val (.int (1 : Int32)), .val (.int (0 : Int32)), .val (.int c0)] []))
  refine gv (fun tQ kQ => XS.iinc X382.here hx rfl (hb hby d6_38) rfl (l' := #[.val (.ref d), .val (.int (1 : Int32)), .val (.ref b), .val (.int (1 : Int32)), .val (.int (1 : Int32)), .val (.int ((0 : Int32) + (1 : Int32))), .val (.int c0)]) rfl kQ) ?_
  show G (T382.setTop (mkF me_ 41 #[.val (.ref d), .val (.int (1 : Int32)), .val (.ref b), .val (.int (1 : Int32)), .val (.int (1 : Int32)), .val (.int ((0 : Int32) + (1 : Int32))), .val (.int c0)] []))
  rw [(by decide : ((0 : Int32) + (1 : Int32)) = (1 : Int32))]
  show G (T382.setTop (mkF me_ 41 #[.val (.ref d), .val (.int (1 : Int32)), .val (.ref b), .val (.int (1 : Int32)), .val (.int (1 : Int32)), .val (.int (1 : Int32)), .val (.int c0)] []))
  refine gv (fun tQ kQ => XS.goto X382.here hx rfl (pc0 := 41) (pc' := 3) rfl (hb hby d6_41) (by decide) (by decide) kQ) ?_
  show G (T382.setTop (mkF me_ 3 #[.val (.ref d), .val (.int (1 : Int32)), .val (.ref b), .val (.int (1 : Int32)), .val (.int (1 : Int32)), .val (.int (1 : Int32)), .val (.int c0)] []))
  refine gv (fun tQ kQ => XS.iload X382.here hx rfl (hb hby d6_3) rfl kQ) ?_
  show G (T382.setTop (mkF me_ 5 #[.val (.ref d), .val (.int (1 : Int32)), .val (.ref b), .val (.int (1 : Int32)), .val (.int (1 : Int32)), .val (.int (1 : Int32)), .val (.int c0)] [(.int (1 : Int32))]))
  refine gv (fun tQ kQ => XS.iload X382.here hx rfl (hb hby d6_5) rfl kQ) ?_
  show G (T382.setTop (mkF me_ 7 #[.val (.ref d), .val (.int (1 : Int32)), .val (.ref b), .val (.int (1 : Int32)), .val (.int (1 : Int32)), .val (.int (1 : Int32)), .val (.int c0)] [(.int (1 : Int32)), (.int (1 : Int32))]))
  refine gv (fun tQ kQ => XS.icmpYes X382.here hx rfl (pc0 := 7) (pc' := 44) rfl (hb hby d6_7) rfl (flt (by decide : ¬ ((1 : Int32) < (1 : Int32)))).2.1 (by decide) (by decide) kQ) ?_
  show G (T382.setTop (mkF me_ 44 #[.val (.ref d), .val (.int (1 : Int32)), .val (.ref b), .val (.int (1 : Int32)), .val (.int (1 : Int32)), .val (.int (1 : Int32)), .val (.int c0)] []))
  refine gv (fun tQ kQ => XS.iload X382.here hx rfl (hb hby d6_44) rfl kQ) ?_
  show G (T382.setTop (mkF me_ 46 #[.val (.ref d), .val (.int (1 : Int32)), .val (.ref b), .val (.int (1 : Int32)), .val (.int (1 : Int32)), .val (.int (1 : Int32)), .val (.int c0)] [(.int (1 : Int32))]))
  refine gf _ (own_ret X382 Bd.notSynchronized (v := some (.int (1 : Int32))) (fun h => by rw [Bd.returns] at h; cases h) ?_ (by decide) (by decide) (fun fs hr => retOut X382 hx (t := .int) Bd.returns rfl (Or.inl ⟨rfl, Or.inl rfl, _, rfl⟩) (hb hby d6_46) hr))
  show Q_cmp1 Z d kd b k c0 h0 n0 _ T382.heap _
  rw [e382]
  exact ⟨rfl, N387, K386, f383⟩
theorem ef_13 (m : MethodId) (x0 : Addr) (x1 : Int32) (x2 : Int32)  : entryFrame m #[(.ref x0), (.int x1), (.int x2)] 6 = mkF m 0 #[.val (.ref x0), .val (.int x1), .val (.int x2), .unset, .unset, .unset] [] := by first | (simp [entryFrame, mkF, argsToLocals, Value.category]; done) | rfl
theorem d5_0 : decode jdk_52_method_16_code 0 = .ok (.iload_n 2, 1) := by decide +kernel
theorem d5_1 : decode jdk_52_method_16_code 1 = .ok (.newarray .byte, 2) := by decide +kernel
theorem d5_3 : decode jdk_52_method_16_code 3 = .ok (.astore_n 3, 1) := by decide +kernel
theorem d5_4 : decode jdk_52_method_16_code 4 = .ok (.aload_n 0, 1) := by decide +kernel
theorem d5_5 : decode jdk_52_method_16_code 5 = .ok (.iload_n 1, 1) := by decide +kernel
theorem d5_6 : decode jdk_52_method_16_code 6 = .ok (.aload_n 3, 1) := by decide +kernel
theorem d5_7 : decode jdk_52_method_16_code 7 = .ok (.iconst 0, 1) := by decide +kernel
theorem d5_8 : decode jdk_52_method_16_code 8 = .ok (.iload_n 2, 1) := by decide +kernel
theorem d5_9 : decode jdk_52_method_16_code 9 = .ok (.invokestatic 115, 3) := by decide +kernel
theorem pd_15 : parseMethodDescriptor "([CI[BII)I" = some ⟨[(.array .char), .int, (.array .byte), .int, .int], some .int⟩ := by decide +kernel
theorem d5_12 : decode jdk_52_method_16_code 12 = .ok (.istore 4, 2) := by decide +kernel
theorem d5_14 : decode jdk_52_method_16_code 14 = .ok (.iload 4, 2) := by decide +kernel
theorem d5_16 : decode jdk_52_method_16_code 16 = .ok (.iload_n 2, 1) := by decide +kernel
theorem d5_17 : decode jdk_52_method_16_code 17 = .ok (.if_icmp .eq 40, 3) := by decide +kernel
theorem d5_57 : decode jdk_52_method_16_code 57 = .ok (.aload_n 3, 1) := by decide +kernel
theorem d5_58 : decode jdk_52_method_16_code 58 = .ok (.areturn, 1) := by decide +kernel
def Q_cmpr1 (Z : State) (d : Addr) (kd : ClassId) (c0 : Int32) (h0 : Heap) (n0 : Nat) (v : Option Value) (h : Heap) (L : List Loc) : Prop := ∃ (b : Addr), ∃ (k : ClassId), v = some (.ref b) ∧ Fr n0 L ∧ Keep h0 h [] ∧ h0.size ≤ b ∧ (Arv Z h b k .byte (1 : Int32) [(.int (c0.toInt8.toInt32))] (.int (0 : Int32)))
set_option maxRecDepth 65536 in
set_option maxHeartbeats 40000000 in
theorem rm_cmpr1 (l : Launch) (Z : State) (a0 : Array Value) (hw : ∀ d ∈ tables_1, d.before a0 Z = true) (ws : List Jvm.Cond) (d : Addr) (kd : ClassId) (c0 : Int32) (h0 : Heap) (n0 : Nat) (O0 : Old Z n0 h0) (u0 : ¬ ((255 : Int32) < c0)) (u1 : Arv Z h0 d kd .char (1 : Int32) [(.int c0)] (.int (0 : Int32))) :
    MetFree l (⟨"java/lang/StringUTF16", "compress", "([CII)[B"⟩ : MethodName) (head1 (Jvm.Cond.code (⟨"java/lang/StringUTF16", "compress", "([CII)[B"⟩ : MethodName) jdk_52_method_16_code 6 (some (.array .byte)) :: ws) ({ frames := 1, cells := 1, slots := 1, locals := 18 } : Room)) (fun aV U => aV = #[(.ref d), (.int (0 : Int32)), (.int (1 : Int32))] ∧ Z.Warmed39 U.vm ∧ U.heap = h0) (fun _ _ _ _ _ => True) (fun _ U o U' => ∃ v L, o = .returned v ∧ Q_cmpr1 Z d kd c0 h0 n0 v U'.heap L ∧ FrameEnd U o U' L ({ frames := 1, cells := 1, slots := 1, locals := 18 } : Room).cells ({ frames := 1, cells := 1, slots := 1, locals := 18 } : Room).slots) := by
  refine MetFree.of_bodySF (plainFor_of_name pn_5) hisR ?_
  intro pr_ en_ st_ me_ args below meth_ co_ s₁ Bd hml0 hP hK
  obtain ⟨rfl, hZ, hh⟩ := hP
  have hx := Bd.exec
  have hby := Bd.bytes
  have hml : co_.maxLocals = 6 := hml0
  have hown : st_.vm.findClass "java/lang/StringUTF16" = some me_.cls := findClass_of_methodNamed Bd.named
  have hnm := (name_of_methodNamed Bd.named Bd.method).1
  have X0 : Stand pr_ l en_ ({ frames := 1, cells := 1, slots := 1, locals := 18 } : Room) st_ me_ #[(.ref d), (.int (0 : Int32)), (.int (1 : Int32))] below meth_ co_ s₁ [] 0 0 := Stand.of_body Bd
  have e0 : s₁.heap = h0 := by rw [← hh, Bd.state]; rfl
  have N0 := Fr.nil n0
  have K0 := Keep.refl h0 []
  obtain ⟨G, gv, gf, gb⟩ := own_G pr_.tables en_ below st_ (Q_cmpr1 Z d kd c0 h0 n0) ({ frames := 1, cells := 1, slots := 1, locals := 18 } : Room).cells ({ frames := 1, cells := 1, slots := 1, locals := 18 } : Room).slots
  show own_Fin pr_.tables en_ below st_ (Q_cmpr1 Z d kd c0 h0 n0) ({ frames := 1, cells := 1, slots := 1, locals := 18 } : Room).cells ({ frames := 1, cells := 1, slots := 1, locals := 18 } : Room).slots (s₁.setTop (entryFrame me_ #[(.ref d), (.int (0 : Int32)), (.int (1 : Int32))] 6))
  refine gb _ (gv (fun tQ kQ => castTop (ef_13 me_ d (0 : Int32) (1 : Int32)) kQ) ?_)
  show G (s₁.setTop (mkF me_ 0 #[.val (.ref d), .val (.int (0 : Int32)), .val (.int (1 : Int32)), .unset, .unset, .unset] []))
  refine gv (fun tQ kQ => XS.iloadN X0.here hx rfl (hb hby d5_0) rfl kQ) ?_
  show G (s₁.setTop (mkF me_ 1 #[.val (.ref d), .val (.int (0 : Int32)), .val (.int (1 : Int32)), .unset, .unset, .unset] [(.int (1 : Int32))]))
  obtain ⟨T388, h388, k388, X388, e388, E388, A388, st388⟩ := newP X0 hx hZ (hw _ (List.mem_of_getElem? (i := 19) rfl)) e0 (g := (mkF me_ 1 #[.val (.ref d), .val (.int (0 : Int32)), .val (.int (1 : Int32)), .unset, .unset, .unset] [(.int (1 : Int32))])) rfl (hb hby d5_1) rfl (by decide) (cap := 1) (by decide) (by decide) (by decide) (by decide)
  obtain ⟨b388, g388⟩ : ∃ z, z = h0.size := ⟨_, rfl⟩
  rw [← g388] at A388 st388
  refine gv st388 ?_
  have ne389 : d ≠ b388 := Nat.ne_of_lt (Nat.lt_of_lt_of_le u1.lt (Nat.le_of_eq g388.symm))
  have g390 : n0 ≤ b388 := Nat.le_trans (own_old O0) (Nat.le_of_eq g388.symm)
  have z391 : h0.size ≤ b388 := Nat.le_trans K0.1 (Nat.le_of_eq g388.symm)
  have f392 : Arv Z h388 d kd .char (1 : Int32) [(.int c0)] (.int (0 : Int32)) := u1.ext E388
  have O393 := O0.ext E388
  have K394 := K0.ext E388
  have V388 : Arv Z h388 b388 k388 .byte (1 : Int32) [(.int (0 : Int32))] (.int (0 : Int32)) := (Arv.new A388 (by decide)).pad (pad_rep [] (.int (0 : Int32)) 1)
  show G (T388.setTop (mkF me_ 3 #[.val (.ref d), .val (.int (0 : Int32)), .val (.int (1 : Int32)), .unset, .unset, .unset] [(.ref b388)]))
  refine gv (fun tQ kQ => XS.astoreN X388.here hx rfl (hb hby d5_3) rfl rfl (l' := #[.val (.ref d), .val (.int (0 : Int32)), .val (.int (1 : Int32)), .val (.ref b388), .unset, .unset]) rfl kQ) ?_
  show G (T388.setTop (mkF me_ 4 #[.val (.ref d), .val (.int (0 : Int32)), .val (.int (1 : Int32)), .val (.ref b388), .unset, .unset] []))
  refine gv (fun tQ kQ => XS.aloadN X388.here hx rfl (hb hby d5_4) rfl rfl kQ) ?_
  show G (T388.setTop (mkF me_ 5 #[.val (.ref d), .val (.int (0 : Int32)), .val (.int (1 : Int32)), .val (.ref b388), .unset, .unset] [(.ref d)]))
  refine gv (fun tQ kQ => XS.iloadN X388.here hx rfl (hb hby d5_5) rfl kQ) ?_
  show G (T388.setTop (mkF me_ 6 #[.val (.ref d), .val (.int (0 : Int32)), .val (.int (1 : Int32)), .val (.ref b388), .unset, .unset] [(.int (0 : Int32)), (.ref d)]))
  refine gv (fun tQ kQ => XS.aloadN X388.here hx rfl (hb hby d5_6) rfl rfl kQ) ?_
  show G (T388.setTop (mkF me_ 7 #[.val (.ref d), .val (.int (0 : Int32)), .val (.int (1 : Int32)), .val (.ref b388), .unset, .unset] [(.ref b388), (.int (0 : Int32)), (.ref d)]))
  refine gv (fun tQ kQ => XS.iconst X388.here hx rfl (hb hby d5_7) kQ) ?_
  show G (T388.setTop (mkF me_ 8 #[.val (.ref d), .val (.int (0 : Int32)), .val (.int (1 : Int32)), .val (.ref b388), .unset, .unset] [(.int (0 : Int32)), (.ref b388), (.int (0 : Int32)), (.ref d)]))
  refine gv (fun tQ kQ => XS.iloadN X388.here hx rfl (hb hby d5_8) rfl kQ) ?_
  show G (T388.setTop (mkF me_ 9 #[.val (.ref d), .val (.int (0 : Int32)), .val (.int (1 : Int32)), .val (.ref b388), .unset, .unset] [(.int (1 : Int32)), (.int (0 : Int32)), (.ref b388), (.int (0 : Int32)), (.ref d)]))
  obtain ⟨_, _, ⟨T395, L395, k395, n395⟩, -, X395, ⟨Lc395, hQ395, l395, y395, z395⟩, st395⟩ := Jvm.LawKit.callS X388 hx (y := (⟨"java/lang/StringUTF16", "compress", "([CI[BII)I"⟩ : MethodName)) hown (mvT hZ (hw _ (List.mem_of_getElem? (i := 31) rfl))) (mvT hZ (hw _ (List.mem_of_getElem? (i := 32) rfl))) (mvT hZ (hw _ (List.mem_of_getElem? (i := 29) rfl))) (mvT hZ (hw _ (List.mem_of_getElem? (i := 33) rfl))) (by decide) (backOf (W := 0) (rm_cmp1 l Z a0 hw [] d kd b388 k388 c0 h388 n0 O393 u0 f392 V388 g390 ne389) hZ (hw _ (List.mem_of_getElem? (i := 33) rfl)) (hw _ (List.mem_of_getElem? (i := 29) rfl)) (by decide) (by decide)) (g := (mkF me_ 9 #[.val (.ref d), .val (.int (0 : Int32)), .val (.int (1 : Int32)), .val (.ref b388), .unset, .unset] [(.int (1 : Int32)), (.int (0 : Int32)), (.ref b388), (.int (0 : Int32)), (.ref d)])) rfl (by rw [hml]; rfl) (argsL := [(.ref d), (.int (0 : Int32)), (.ref b388), (.int (0 : Int32)), (.int (1 : Int32))]) (rest := []) (lenOf pd_15 rfl) rfl (by show 2 * 0 + _ ≤ _; exact Nat.le_of_eq rfl) (hb hby d5_9) (fun _ _ => ⟨rfl, e388, (by decide : 1 + 0 ≤ _), (by decide : 1 + 0 ≤ _)⟩)
  dsimp only [Pt.U, Pt.locs, Pt.cells, Pt.slots] at X395 l395 y395 z395 st395 hQ395
  subst l395 y395 z395
  obtain ⟨rfl, Nq395, Kq395, w395_0⟩ := hQ395
  have N396 := Fr.app N0 Nq395
  obtain ⟨h395, e395⟩ : ∃ z, T395.heap = z := ⟨_, rfl⟩
  rw [e395] at Kq395 w395_0
  have f397 : Arv Z h395 d kd .char (1 : Int32) [(.int c0)] (.int (0 : Int32)) := f392.keep Kq395 (ninS ne389 nin0)
  have O398 := O393.keep Kq395 (allS g390 all0)
  have K399 := K394.trans Kq395 (allS (Or.inr z391) all0)
  refine gv st395 ?_
  show G (T395.setTop (mkF me_ 12 #[.val (.ref d), .val (.int (0 : Int32)), .val (.int (1 : Int32)), .val (.ref b388), .unset, .unset] [(.int (1 : Int32))]))
  refine gv (fun tQ kQ => XS.istore X395.here hx rfl (hb hby d5_12) rfl (l' := #[.val (.ref d), .val (.int (0 : Int32)), .val (.int (1 : Int32)), .val (.ref b388), .val (.int (1 : Int32)), .unset]) rfl kQ) ?_
  show G (T395.setTop (mkF me_ 14 #[.val (.ref d), .val (.int (0 : Int32)), .val (.int (1 : Int32)), .val (.ref b388), .val (.int (1 : Int32)), .unset] []))
  refine gv (fun tQ kQ => XS.iload X395.here hx rfl (hb hby d5_14) rfl kQ) ?_
  show G (T395.setTop (mkF me_ 16 #[.val (.ref d), .val (.int (0 : Int32)), .val (.int (1 : Int32)), .val (.ref b388), .val (.int (1 : Int32)), .unset] [(.int (1 : Int32))]))
  refine gv (fun tQ kQ => XS.iloadN X395.here hx rfl (hb hby d5_16) rfl kQ) ?_
  show G (T395.setTop (mkF me_ 17 #[.val (.ref d), .val (.int (0 : Int32)), .val (.int (1 : Int32)), .val (.ref b388), .val (.int (1 : Int32)), .unset] [(.int (1 : Int32)), (.int (1 : Int32))]))
  refine gv (fun tQ kQ => XS.icmpYes X395.here hx rfl (pc0 := 17) (pc' := 57) rfl (hb hby d5_17) rfl (teq (by decide : (1 : Int32) = (1 : Int32))).1 (by decide) (by decide) kQ) ?_
  show G (T395.setTop (mkF me_ 57 #[.val (.ref d), .val (.int (0 : Int32)), .val (.int (1 : Int32)), .val (.ref b388), .val (.int (1 : Int32)), .unset] []))
  refine gv (fun tQ kQ => XS.aloadN X395.here hx rfl (hb hby d5_57) rfl rfl kQ) ?_
  show G (T395.setTop (mkF me_ 58 #[.val (.ref d), .val (.int (0 : Int32)), .val (.int (1 : Int32)), .val (.ref b388), .val (.int (1 : Int32)), .unset] [(.ref b388)]))
  refine gf _ (own_ret X395 Bd.notSynchronized (v := some (.ref b388)) (fun h => by rw [Bd.returns] at h; cases h) ?_ (by decide) (by decide) (fun fs hr => retOut X395 hx (t := (.array .byte)) Bd.returns rfl (Or.inr (Or.inr (Or.inr (Or.inr ⟨rfl, rfl, rfl⟩)))) (hb hby d5_58) hr))
  show Q_cmpr1 Z d kd c0 h0 n0 _ T395.heap _
  rw [e395]
  exact ⟨b388, k388, rfl, N396, K399, z391, w395_0⟩
theorem d7_0 : decode jdk_52_method_15_code 0 = .ok (.iload_n 1, 1) := by decide +kernel
theorem d7_1 : decode jdk_52_method_15_code 1 = .ok (.aload_n 0, 1) := by decide +kernel
theorem d7_2 : decode jdk_52_method_15_code 2 = .ok (.arraylength, 1) := by decide +kernel
theorem d7_3 : decode jdk_52_method_15_code 3 = .ok (.isub, 1) := by decide +kernel
theorem d7_4 : decode jdk_52_method_15_code 4 = .ok (.bipush 31, 2) := by decide +kernel
theorem d7_6 : decode jdk_52_method_15_code 6 = .ok (.iushr, 1) := by decide +kernel
theorem d7_7 : decode jdk_52_method_15_code 7 = .ok (.i2b, 1) := by decide +kernel
theorem d7_8 : decode jdk_52_method_15_code 8 = .ok (.ireturn, 1) := by decide +kernel
def Q_cfal1 (Z : State) (b : Addr) (k : ClassId) (x0 : Int32) (h0 : Heap) (n0 : Nat) (v : Option Value) (h : Heap) (L : List Loc) : Prop := v = some (.int (0 : Int32)) ∧ Fr n0 L ∧ h = h0
set_option maxRecDepth 65536 in
set_option maxHeartbeats 40000000 in
theorem rm_cfal1 (l : Launch) (Z : State) (a0 : Array Value) (hw : ∀ d ∈ tables_1, d.before a0 Z = true) (ws : List Jvm.Cond) (b : Addr) (k : ClassId) (x0 : Int32) (h0 : Heap) (n0 : Nat) (O0 : Old Z n0 h0) (u0 : Arv Z h0 b k .byte (1 : Int32) [(.int x0)] (.int (0 : Int32))) :
    MetFree l (⟨"java/lang/StringUTF16", "coderFromArrayLen", "([BI)B"⟩ : MethodName) (head1 (Jvm.Cond.code (⟨"java/lang/StringUTF16", "coderFromArrayLen", "([BI)B"⟩ : MethodName) jdk_52_method_15_code 2 (some .byte) :: ws) ({ frames := 0, cells := 0, slots := 0, locals := 0 } : Room)) (fun aV U => aV = #[(.ref b), (.int (1 : Int32))] ∧ Z.Warmed39 U.vm ∧ U.heap = h0) (fun _ _ _ _ _ => True) (fun _ U o U' => ∃ v L, o = .returned v ∧ Q_cfal1 Z b k x0 h0 n0 v U'.heap L ∧ FrameEnd U o U' L ({ frames := 0, cells := 0, slots := 0, locals := 0 } : Room).cells ({ frames := 0, cells := 0, slots := 0, locals := 0 } : Room).slots) := by
  refine MetFree.of_bodySF (plainFor_of_name pn_5) hisR ?_
  intro pr_ en_ st_ me_ args below meth_ co_ s₁ Bd hml0 hP hK
  obtain ⟨rfl, hZ, hh⟩ := hP
  have hx := Bd.exec
  have hby := Bd.bytes
  have hml : co_.maxLocals = 2 := hml0
  have hown : st_.vm.findClass "java/lang/StringUTF16" = some me_.cls := findClass_of_methodNamed Bd.named
  have hnm := (name_of_methodNamed Bd.named Bd.method).1
  have X0 : Stand pr_ l en_ ({ frames := 0, cells := 0, slots := 0, locals := 0 } : Room) st_ me_ #[(.ref b), (.int (1 : Int32))] below meth_ co_ s₁ [] 0 0 := Stand.of_body Bd
  have e0 : s₁.heap = h0 := by rw [← hh, Bd.state]; rfl
  have N0 := Fr.nil n0
  have K0 := Keep.refl h0 []
  obtain ⟨G, gv, gf, gb⟩ := own_G pr_.tables en_ below st_ (Q_cfal1 Z b k x0 h0 n0) ({ frames := 0, cells := 0, slots := 0, locals := 0 } : Room).cells ({ frames := 0, cells := 0, slots := 0, locals := 0 } : Room).slots
  show own_Fin pr_.tables en_ below st_ (Q_cfal1 Z b k x0 h0 n0) ({ frames := 0, cells := 0, slots := 0, locals := 0 } : Room).cells ({ frames := 0, cells := 0, slots := 0, locals := 0 } : Room).slots (s₁.setTop (entryFrame me_ #[(.ref b), (.int (1 : Int32))] 2))
  refine gb _ (gv (fun tQ kQ => castTop (ef_6 me_ b (1 : Int32)) kQ) ?_)
  show G (s₁.setTop (mkF me_ 0 #[.val (.ref b), .val (.int (1 : Int32))] []))
  refine gv (fun tQ kQ => XS.iloadN X0.here hx rfl (hb hby d7_0) rfl kQ) ?_
  show G (s₁.setTop (mkF me_ 1 #[.val (.ref b), .val (.int (1 : Int32))] [(.int (1 : Int32))]))
  refine gv (fun tQ kQ => XS.aloadN X0.here hx rfl (hb hby d7_1) rfl rfl kQ) ?_
  show G (s₁.setTop (mkF me_ 2 #[.val (.ref b), .val (.int (1 : Int32))] [(.ref b), (.int (1 : Int32))]))
  obtain ⟨cl400, Ar400, -, S400, n400, -, -⟩ := (id u0)
  refine gv (X0.arraylength hx (by rw [e0]; exact Ar400.1) (State.isArrayOf_alike hZ.alike Ar400.2.1) (g := (mkF me_ 2 #[.val (.ref b), .val (.int (1 : Int32))] [(.ref b), (.int (1 : Int32))])) rfl rfl (hb hby d7_2)) ?_
  rw [len_of S400 n400]
  show G (s₁.setTop (mkF me_ 3 #[.val (.ref b), .val (.int (1 : Int32))] [(.int (1 : Int32)), (.int (1 : Int32))]))
  refine gv (fun tQ kQ => XS.isub X0.here hx rfl (hb hby d7_3) rfl kQ) ?_
  show G (s₁.setTop (mkF me_ 4 #[.val (.ref b), .val (.int (1 : Int32))] [(.int ((1 : Int32) - (1 : Int32)))]))
  rw [(by decide : ((1 : Int32) - (1 : Int32)) = (0 : Int32))]
  show G (s₁.setTop (mkF me_ 4 #[.val (.ref b), .val (.int (1 : Int32))] [(.int (0 : Int32))]))
  refine gv (fun tQ kQ => XS.bipush X0.here hx rfl (hb hby d7_4) kQ) ?_
  show G (s₁.setTop (mkF me_ 6 #[.val (.ref b), .val (.int (1 : Int32))] [(.int (31 : Int32)), (.int (0 : Int32))]))
  refine gv (fun tQ kQ => XS.iushr X0.here hx rfl (hb hby d7_6) rfl kQ) ?_
  show G (s₁.setTop (mkF me_ 7 #[.val (.ref b), .val (.int (1 : Int32))] [(.int (((0 : Int32).toUInt32 >>> ((31 : Int32) &&& 31).toUInt32).toInt32))]))
  rw [(by decide : (((0 : Int32).toUInt32 >>> ((31 : Int32) &&& 31).toUInt32).toInt32) = (0 : Int32))]
  show G (s₁.setTop (mkF me_ 7 #[.val (.ref b), .val (.int (1 : Int32))] [(.int (0 : Int32))]))
  refine gv (fun tQ kQ => XS.i2b X0.here hx rfl (hb hby d7_7) rfl kQ) ?_
  show G (s₁.setTop (mkF me_ 8 #[.val (.ref b), .val (.int (1 : Int32))] [(.int ((0 : Int32).toInt8.toInt32))]))
  rw [(by decide : ((0 : Int32).toInt8.toInt32) = (0 : Int32))]
  show G (s₁.setTop (mkF me_ 8 #[.val (.ref b), .val (.int (1 : Int32))] [(.int (0 : Int32))]))
  refine gf _ (own_ret X0 Bd.notSynchronized (v := some (.int (0 : Int32))) (fun h => by rw [Bd.returns] at h; cases h) ?_ (by decide) (by decide) (fun fs hr => retN X0 hx (t := .byte) Bd.returns (by simp) (hb hby d7_8) hr))
  show Q_cfal1 Z b k x0 h0 n0 _ s₁.heap _
  rw [e0]
  exact ⟨rfl, N0, rfl⟩
theorem d3_27 : decode jdk_42_method_149_code 27 = .ok (.getstatic 38, 3) := by decide +kernel
theorem d3_30 : decode jdk_42_method_149_code 30 = .ok (.ifCond .eq 28, 3) := by decide +kernel
theorem d3_33 : decode jdk_42_method_149_code 33 = .ok (.aload_n 1, 1) := by decide +kernel
theorem d3_34 : decode jdk_42_method_149_code 34 = .ok (.iload_n 2, 1) := by decide +kernel
theorem d3_35 : decode jdk_42_method_149_code 35 = .ok (.iload_n 3, 1) := by decide +kernel
theorem d3_36 : decode jdk_42_method_149_code 36 = .ok (.invokestatic 177, 3) := by decide +kernel
theorem pd_16 : parseMethodDescriptor "([CII)[B" = some ⟨[(.array .char), .int, .int], some (.array .byte)⟩ := by decide +kernel
theorem d3_39 : decode jdk_42_method_149_code 39 = .ok (.astore 5, 2) := by decide +kernel
theorem d3_41 : decode jdk_42_method_149_code 41 = .ok (.aload_n 0, 1) := by decide +kernel
theorem d3_42 : decode jdk_42_method_149_code 42 = .ok (.aload 5, 2) := by decide +kernel
theorem d3_44 : decode jdk_42_method_149_code 44 = .ok (.iload_n 3, 1) := by decide +kernel
theorem d3_45 : decode jdk_42_method_149_code 45 = .ok (.invokestatic 47, 3) := by decide +kernel
theorem pd_17 : parseMethodDescriptor "([BI)B" = some ⟨[(.array .byte), .int], some .byte⟩ := by decide +kernel
theorem d3_48 : decode jdk_42_method_149_code 48 = .ok (.putfield 15, 3) := by decide +kernel
theorem d3_51 : decode jdk_42_method_149_code 51 = .ok (.aload_n 0, 1) := by decide +kernel
theorem d3_52 : decode jdk_42_method_149_code 52 = .ok (.aload 5, 2) := by decide +kernel
theorem d3_54 : decode jdk_42_method_149_code 54 = .ok (.putfield 9, 3) := by decide +kernel
theorem d3_57 : decode jdk_42_method_149_code 57 = .ok (.return_, 1) := by decide +kernel
def Q_sci1 (Z : State) (a : Addr) (d : Addr) (kd : ClassId) (c0 : Int32) (cs : Int32) (h0 : Heap) (n0 : Nat) (v : Option Value) (h : Heap) (L : List Loc) : Prop := ∃ (b : Addr), ∃ (k : ClassId), v = none ∧ Fr n0 L ∧ Keep h0 h [a] ∧ h0.size ≤ b ∧ (Exa Z h a "java/lang/String") ∧ (Fld Z h a "java/lang/String" "coder" "B" (.int (0 : Int32))) ∧ (Fld Z h a "java/lang/String" "value" "[B" (.ref b)) ∧ (Arv Z h b k .byte (1 : Int32) [(.int (c0.toInt8.toInt32))] (.int (0 : Int32)))
set_option maxRecDepth 65536 in
set_option maxHeartbeats 40000000 in
theorem rm_sci1 (l : Launch) (Z : State) (a0 : Array Value) (hw : ∀ d ∈ tables_1, d.before a0 Z = true) (ws : List Jvm.Cond) (a : Addr) (d : Addr) (kd : ClassId) (c0 : Int32) (cs : Int32) (h0 : Heap) (n0 : Nat) (O0 : Old Z n0 h0) (u0 : Sta Z Z.heap "java/lang/String" "COMPACT_STRINGS" "Z" (.int cs)) (u1 : ¬ (cs = (0 : Int32))) (u2 : ¬ ((255 : Int32) < c0)) (u3 : Exa Z h0 a "java/lang/String") (u4 : Fld Z h0 a "java/lang/String" "value" "[B" .null) (u5 : Fld Z h0 a "java/lang/String" "coder" "B" (.int (0 : Int32))) (u6 : n0 ≤ a) (u7 : Arv Z h0 d kd .char (1 : Int32) [(.int c0)] (.int (0 : Int32))) (u8 : a ≠ d) :
    MetFree l (⟨"java/lang/String", "<init>", "([CIILjava/lang/Void;)V"⟩ : MethodName) (head1 (Jvm.Cond.code (⟨"java/lang/String", "<init>", "([CIILjava/lang/Void;)V"⟩ : MethodName) jdk_42_method_149_code 6 none :: ws) ({ frames := 2, cells := 1, slots := 1, locals := 35 } : Room)) (fun aV U => aV = #[(.ref a), (.ref d), (.int (0 : Int32)), (.int (1 : Int32)), .null] ∧ Z.Warmed39 U.vm ∧ U.heap = h0) (fun _ _ _ _ _ => True) (fun _ U o U' => ∃ v L, o = .returned v ∧ Q_sci1 Z a d kd c0 cs h0 n0 v U'.heap L ∧ FrameEnd U o U' L ({ frames := 2, cells := 1, slots := 1, locals := 35 } : Room).cells ({ frames := 2, cells := 1, slots := 1, locals := 35 } : Room).slots) := by
  refine MetFree.of_bodySF (plainFor_of_name pn_0) hisR ?_
  intro pr_ en_ st_ me_ args below meth_ co_ s₁ Bd hml0 hP hK
  obtain ⟨rfl, hZ, hh⟩ := hP
  have hx := Bd.exec
  have hby := Bd.bytes
  have hml : co_.maxLocals = 6 := hml0
  have hown : st_.vm.findClass "java/lang/String" = some me_.cls := findClass_of_methodNamed Bd.named
  have hnm := (name_of_methodNamed Bd.named Bd.method).1
  have X0 : Stand pr_ l en_ ({ frames := 2, cells := 1, slots := 1, locals := 35 } : Room) st_ me_ #[(.ref a), (.ref d), (.int (0 : Int32)), (.int (1 : Int32)), .null] below meth_ co_ s₁ [] 0 0 := Stand.of_body Bd
  have e0 : s₁.heap = h0 := by rw [← hh, Bd.state]; rfl
  have N0 := Fr.nil n0
  have K0 := Keep.refl h0 [a]
  obtain ⟨G, gv, gf, gb⟩ := own_G pr_.tables en_ below st_ (Q_sci1 Z a d kd c0 cs h0 n0) ({ frames := 2, cells := 1, slots := 1, locals := 35 } : Room).cells ({ frames := 2, cells := 1, slots := 1, locals := 35 } : Room).slots
  show own_Fin pr_.tables en_ below st_ (Q_sci1 Z a d kd c0 cs h0 n0) ({ frames := 2, cells := 1, slots := 1, locals := 35 } : Room).cells ({ frames := 2, cells := 1, slots := 1, locals := 35 } : Room).slots (s₁.setTop (entryFrame me_ #[(.ref a), (.ref d), (.int (0 : Int32)), (.int (1 : Int32)), .null] 6))
  refine gb _ (gv (fun tQ kQ => castTop (ef_11 me_ a d (0 : Int32) (1 : Int32)) kQ) ?_)
  show G (s₁.setTop (mkF me_ 0 #[.val (.ref a), .val (.ref d), .val (.int (0 : Int32)), .val (.int (1 : Int32)), .val .null, .unset] []))
  refine gv (fun tQ kQ => XS.aloadN X0.here hx rfl (hb hby d3_0) rfl rfl kQ) ?_
  show G (s₁.setTop (mkF me_ 1 #[.val (.ref a), .val (.ref d), .val (.int (0 : Int32)), .val (.int (1 : Int32)), .val .null, .unset] [(.ref a)]))
  obtain ⟨T401, X401, e401, st401⟩ := initO X0 hx hZ hown (hw _ (List.mem_of_getElem? (i := 15) rfl)) (hw _ (List.mem_of_getElem? (i := 16) rfl)) (hw _ (List.mem_of_getElem? (i := 17) rfl)) e0 (g := (mkF me_ 1 #[.val (.ref a), .val (.ref d), .val (.int (0 : Int32)), .val (.int (1 : Int32)), .val .null, .unset] [(.ref a)])) rfl (by rw [hml]; rfl) rfl (hb hby d3_1) (by decide) (W := 0) (by show 2 * 0 + _ ≤ _; exact Nat.le_of_eq rfl) (by decide)
  refine gv st401 ?_
  show G (T401.setTop (mkF me_ 4 #[.val (.ref a), .val (.ref d), .val (.int (0 : Int32)), .val (.int (1 : Int32)), .val .null, .unset] []))
  refine gv (fun tQ kQ => XS.iloadN X401.here hx rfl (hb hby d3_4) rfl kQ) ?_
  show G (T401.setTop (mkF me_ 5 #[.val (.ref a), .val (.ref d), .val (.int (0 : Int32)), .val (.int (1 : Int32)), .val .null, .unset] [(.int (1 : Int32))]))
  refine gv (fun tQ kQ => XS.ifYes X401.here hx rfl (pc0 := 5) (pc' := 27) rfl (hb hby d3_5) rfl ((if0 _ _).trans (feq (by decide : ¬ ((1 : Int32) = (0 : Int32)))).2) (by decide) (by decide) kQ) ?_
  show G (T401.setTop (mkF me_ 27 #[.val (.ref a), .val (.ref d), .val (.int (0 : Int32)), .val (.int (1 : Int32)), .val .null, .unset] []))
  obtain ⟨T402, X402, e402, st402⟩ := getS2 X401 hx hZ hown (host := "") (Or.inl (hw _ (List.mem_of_getElem? (i := 26) rfl))) Via.refl e401 (u0.ext O0.2) (g := (mkF me_ 27 #[.val (.ref a), .val (.ref d), .val (.int (0 : Int32)), .val (.int (1 : Int32)), .val .null, .unset] [])) rfl (hb hby d3_27)
  refine gv st402 ?_
  show G (T402.setTop (mkF me_ 30 #[.val (.ref a), .val (.ref d), .val (.int (0 : Int32)), .val (.int (1 : Int32)), .val .null, .unset] [(.int cs)]))
  refine gv (fun tQ kQ => XS.ifNo X402.here hx rfl (hb hby d3_30) rfl ((if0 _ _).trans (feq u1).1) kQ) ?_
  show G (T402.setTop (mkF me_ 33 #[.val (.ref a), .val (.ref d), .val (.int (0 : Int32)), .val (.int (1 : Int32)), .val .null, .unset] []))
  refine gv (fun tQ kQ => XS.aloadN X402.here hx rfl (hb hby d3_33) rfl rfl kQ) ?_
  show G (T402.setTop (mkF me_ 34 #[.val (.ref a), .val (.ref d), .val (.int (0 : Int32)), .val (.int (1 : Int32)), .val .null, .unset] [(.ref d)]))
  refine gv (fun tQ kQ => XS.iloadN X402.here hx rfl (hb hby d3_34) rfl kQ) ?_
  show G (T402.setTop (mkF me_ 35 #[.val (.ref a), .val (.ref d), .val (.int (0 : Int32)), .val (.int (1 : Int32)), .val .null, .unset] [(.int (0 : Int32)), (.ref d)]))
  refine gv (fun tQ kQ => XS.iloadN X402.here hx rfl (hb hby d3_35) rfl kQ) ?_
  show G (T402.setTop (mkF me_ 36 #[.val (.ref a), .val (.ref d), .val (.int (0 : Int32)), .val (.int (1 : Int32)), .val .null, .unset] [(.int (1 : Int32)), (.int (0 : Int32)), (.ref d)]))
  obtain ⟨_, _, ⟨T403, L403, k403, n403⟩, -, X403, ⟨Lc403, hQ403, l403, y403, z403⟩, st403⟩ := Jvm.LawKit.callS X402 hx (y := (⟨"java/lang/StringUTF16", "compress", "([CII)[B"⟩ : MethodName)) hown (mvT hZ (hw _ (List.mem_of_getElem? (i := 27) rfl))) (mvT hZ (hw _ (List.mem_of_getElem? (i := 28) rfl))) (mvT hZ (hw _ (List.mem_of_getElem? (i := 29) rfl))) (mvT hZ (hw _ (List.mem_of_getElem? (i := 30) rfl))) (by decide) (backOf (W := 0) (rm_cmpr1 l Z a0 hw [] d kd c0 h0 n0 O0 u2 u7) hZ (hw _ (List.mem_of_getElem? (i := 30) rfl)) (hw _ (List.mem_of_getElem? (i := 29) rfl)) (by decide) (by decide)) (g := (mkF me_ 36 #[.val (.ref a), .val (.ref d), .val (.int (0 : Int32)), .val (.int (1 : Int32)), .val .null, .unset] [(.int (1 : Int32)), (.int (0 : Int32)), (.ref d)])) rfl (by rw [hml]; rfl) (argsL := [(.ref d), (.int (0 : Int32)), (.int (1 : Int32))]) (rest := []) (lenOf pd_16 rfl) rfl (by show 2 * 0 + _ ≤ _; exact Nat.le_of_eq rfl) (hb hby d3_36) (fun _ _ => ⟨rfl, e402, (by decide : 0 + 1 ≤ _), (by decide : 0 + 1 ≤ _)⟩)
  dsimp only [Pt.U, Pt.locs, Pt.cells, Pt.slots] at X403 l403 y403 z403 st403 hQ403
  subst l403 y403 z403
  obtain ⟨b_403, k_403, rfl, Nq403, Kq403, w403_0, w403_1⟩ := hQ403
  have N404 := Fr.app N0 Nq403
  obtain ⟨h403, e403⟩ : ∃ z, T403.heap = z := ⟨_, rfl⟩
  rw [e403] at Kq403 w403_1
  have ne405 : a ≠ b_403 := Nat.ne_of_lt (Nat.lt_of_lt_of_le u3.lt w403_0)
  have ne406 : d ≠ b_403 := Nat.ne_of_lt (Nat.lt_of_lt_of_le u7.lt w403_0)
  have g407 : n0 ≤ b_403 := Nat.le_trans (own_old O0) w403_0
  have z408 : h0.size ≤ b_403 := Nat.le_trans K0.1 w403_0
  have f409 : Exa Z h403 a "java/lang/String" := u3.keep Kq403
  have f410 : Fld Z h403 a "java/lang/String" "value" "[B" .null := u4.keep Kq403 nin0
  have f411 : Fld Z h403 a "java/lang/String" "coder" "B" (.int (0 : Int32)) := u5.keep Kq403 nin0
  have f412 : Arv Z h403 d kd .char (1 : Int32) [(.int c0)] (.int (0 : Int32)) := u7.keep Kq403 nin0
  have O413 := O0.keep Kq403 all0
  have K414 := K0.trans Kq403 all0
  refine gv st403 ?_
  show G (T403.setTop (mkF me_ 39 #[.val (.ref a), .val (.ref d), .val (.int (0 : Int32)), .val (.int (1 : Int32)), .val .null, .unset] [(.ref b_403)]))
  refine gv (fun tQ kQ => XS.astore X403.here hx rfl (hb hby d3_39) rfl rfl (l' := #[.val (.ref a), .val (.ref d), .val (.int (0 : Int32)), .val (.int (1 : Int32)), .val .null, .val (.ref b_403)]) rfl kQ) ?_
  show G (T403.setTop (mkF me_ 41 #[.val (.ref a), .val (.ref d), .val (.int (0 : Int32)), .val (.int (1 : Int32)), .val .null, .val (.ref b_403)] []))
  refine gv (fun tQ kQ => XS.aloadN X403.here hx rfl (hb hby d3_41) rfl rfl kQ) ?_
  show G (T403.setTop (mkF me_ 42 #[.val (.ref a), .val (.ref d), .val (.int (0 : Int32)), .val (.int (1 : Int32)), .val .null, .val (.ref b_403)] [(.ref a)]))
  refine gv (fun tQ kQ => XS.aload X403.here hx rfl (hb hby d3_42) rfl rfl kQ) ?_
  show G (T403.setTop (mkF me_ 44 #[.val (.ref a), .val (.ref d), .val (.int (0 : Int32)), .val (.int (1 : Int32)), .val .null, .val (.ref b_403)] [(.ref b_403), (.ref a)]))
  refine gv (fun tQ kQ => XS.iloadN X403.here hx rfl (hb hby d3_44) rfl kQ) ?_
  show G (T403.setTop (mkF me_ 45 #[.val (.ref a), .val (.ref d), .val (.int (0 : Int32)), .val (.int (1 : Int32)), .val .null, .val (.ref b_403)] [(.int (1 : Int32)), (.ref b_403), (.ref a)]))
  obtain ⟨_, _, ⟨T415, L415, k415, n415⟩, -, X415, ⟨Lc415, hQ415, l415, y415, z415⟩, st415⟩ := Jvm.LawKit.callS X403 hx (y := (⟨"java/lang/StringUTF16", "coderFromArrayLen", "([BI)B"⟩ : MethodName)) hown (mvT hZ (hw _ (List.mem_of_getElem? (i := 34) rfl))) (mvT hZ (hw _ (List.mem_of_getElem? (i := 35) rfl))) (mvT hZ (hw _ (List.mem_of_getElem? (i := 29) rfl))) (mvT hZ (hw _ (List.mem_of_getElem? (i := 36) rfl))) (by decide) (backOf (W := 1) (rm_cfal1 l Z a0 hw [] b_403 k_403 (c0.toInt8.toInt32) h403 n0 O413 w403_1) hZ (hw _ (List.mem_of_getElem? (i := 36) rfl)) (hw _ (List.mem_of_getElem? (i := 29) rfl)) (by decide) (by decide)) (g := (mkF me_ 45 #[.val (.ref a), .val (.ref d), .val (.int (0 : Int32)), .val (.int (1 : Int32)), .val .null, .val (.ref b_403)] [(.int (1 : Int32)), (.ref b_403), (.ref a)])) rfl (by rw [hml]; rfl) (argsL := [(.ref b_403), (.int (1 : Int32))]) (rest := [(.ref a)]) (lenOf pd_17 rfl) rfl (by show 2 * 0 + _ ≤ _; exact Nat.le_of_eq rfl) (hb hby d3_45) (fun _ _ => ⟨rfl, e403, (by decide : 1 + 0 ≤ _), (by decide : 1 + 0 ≤ _)⟩)
  dsimp only [Pt.U, Pt.locs, Pt.cells, Pt.slots] at X415 l415 y415 z415 st415 hQ415
  subst l415 y415 z415
  obtain ⟨rfl, Nq415, eq415⟩ := hQ415
  have N416 := Fr.app N404 Nq415
  refine gv st415 ?_
  show G (T415.setTop (mkF me_ 48 #[.val (.ref a), .val (.ref d), .val (.int (0 : Int32)), .val (.int (1 : Int32)), .val .null, .val (.ref b_403)] [(.int (0 : Int32)), (.ref a)]))
  obtain ⟨T417, h417, X417, e417, W417, st417⟩ := putFN X415 hx hZ hown (hw _ (List.mem_of_getElem? (i := 25) rfl)) Via.refl eq415 f411 f409 (Or.inr ⟨(hw _ (List.mem_of_getElem? (i := 21) rfl)), rfl, hnm⟩) (hw _ (List.mem_of_getElem? (i := 2) rfl)) (ty := .byte) (v' := (.int (0 : Int32))) (by decide) rfl rfl (g := (mkF me_ 48 #[.val (.ref a), .val (.ref d), .val (.int (0 : Int32)), .val (.int (1 : Int32)), .val .null, .val (.ref b_403)] [(.int (0 : Int32)), (.ref a)])) rfl rfl (hb hby d3_48)
  refine gv st417 ?_
  have f419 : Exa Z h417 a "java/lang/String" := f409.wr W417
  have f420 : Fld Z h417 a "java/lang/String" "value" "[B" .null := f410.other W417 (Or.inr (slot_ne (Or.inr (hw _ (List.mem_of_getElem? (i := 20) rfl))) (Or.inr (hw _ (List.mem_of_getElem? (i := 21) rfl))) (by decide) (t := (.array .byte)) (t' := .byte) (by decide) (by decide)))
  have f421 : Arv Z h417 d kd .char (1 : Int32) [(.int c0)] (.int (0 : Int32)) := f412.other W417 (Ne.symm u8)
  have f422 : Arv Z h417 b_403 k_403 .byte (1 : Int32) [(.int (c0.toInt8.toInt32))] (.int (0 : Int32)) := w403_1.other W417 (Ne.symm ne405)
  have O423 := O413.wr W417 u6
  have K424 := K414.wr W417 (Or.inl (List.mem_of_getElem? (i := 0) rfl))
  have N425 := Fr.snoc X417 N416 u6
  have f418 : Fld Z h417 a "java/lang/String" "coder" "B" (.int (0 : Int32)) := f411.same W417
  show G (T417.setTop (mkF me_ 51 #[.val (.ref a), .val (.ref d), .val (.int (0 : Int32)), .val (.int (1 : Int32)), .val .null, .val (.ref b_403)] []))
  refine gv (fun tQ kQ => XS.aloadN X417.here hx rfl (hb hby d3_51) rfl rfl kQ) ?_
  show G (T417.setTop (mkF me_ 52 #[.val (.ref a), .val (.ref d), .val (.int (0 : Int32)), .val (.int (1 : Int32)), .val .null, .val (.ref b_403)] [(.ref a)]))
  refine gv (fun tQ kQ => XS.aload X417.here hx rfl (hb hby d3_52) rfl rfl kQ) ?_
  show G (T417.setTop (mkF me_ 54 #[.val (.ref a), .val (.ref d), .val (.int (0 : Int32)), .val (.int (1 : Int32)), .val .null, .val (.ref b_403)] [(.ref b_403), (.ref a)]))
  obtain ⟨T426, h426, X426, e426, W426, st426⟩ := putF X417 hx hZ hown (host := "") (Or.inl (hw _ (List.mem_of_getElem? (i := 24) rfl))) Via.refl e417 f420 f419 (Or.inr ⟨(hw _ (List.mem_of_getElem? (i := 20) rfl)), rfl, hnm⟩) (hw _ (List.mem_of_getElem? (i := 2) rfl)) (ty := (.array .byte)) (by decide) rfl rfl (g := (mkF me_ 54 #[.val (.ref a), .val (.ref d), .val (.int (0 : Int32)), .val (.int (1 : Int32)), .val .null, .val (.ref b_403)] [(.ref b_403), (.ref a)])) rfl rfl (hb hby d3_54)
  refine gv st426 ?_
  have f428 : Exa Z h426 a "java/lang/String" := f419.wr W426
  have f429 : Fld Z h426 a "java/lang/String" "coder" "B" (.int (0 : Int32)) := f418.other W426 (Or.inr (slot_ne (Or.inr (hw _ (List.mem_of_getElem? (i := 21) rfl))) (Or.inr (hw _ (List.mem_of_getElem? (i := 20) rfl))) (by decide) (t := .byte) (t' := (.array .byte)) (by decide) (by decide)))
  have f430 : Arv Z h426 d kd .char (1 : Int32) [(.int c0)] (.int (0 : Int32)) := f421.other W426 (Ne.symm u8)
  have f431 : Arv Z h426 b_403 k_403 .byte (1 : Int32) [(.int (c0.toInt8.toInt32))] (.int (0 : Int32)) := f422.other W426 (Ne.symm ne405)
  have O432 := O423.wr W426 u6
  have K433 := K424.wr W426 (Or.inl (List.mem_of_getElem? (i := 0) rfl))
  have N434 := Fr.snoc X426 N425 u6
  have f427 : Fld Z h426 a "java/lang/String" "value" "[B" (.ref b_403) := f420.same W426
  show G (T426.setTop (mkF me_ 57 #[.val (.ref a), .val (.ref d), .val (.int (0 : Int32)), .val (.int (1 : Int32)), .val .null, .val (.ref b_403)] []))
  refine gf _ (own_ret X426 Bd.notSynchronized (v := none) (fun _ => rfl) ?_ (by decide) (by decide) (fun fs hr => X426.returnOut hx Bd.returns (hb hby d3_57) hr))
  show Q_sci1 Z a d kd c0 cs h0 n0 _ T426.heap _
  rw [e426]
  exact ⟨b_403, k_403, rfl, N434, K433, z408, f428, f429, f427, f431⟩
def Q_sc1 (Z : State) (a : Addr) (d : Addr) (kd : ClassId) (c0 : Int32) (cs : Int32) (h0 : Heap) (n0 : Nat) (v : Option Value) (h : Heap) (L : List Loc) : Prop := ∃ (b : Addr), ∃ (k : ClassId), v = none ∧ Fr n0 L ∧ Keep h0 h [a] ∧ h0.size ≤ b ∧ (Exa Z h a "java/lang/String") ∧ (Fld Z h a "java/lang/String" "coder" "B" (.int (0 : Int32))) ∧ (Fld Z h a "java/lang/String" "value" "[B" (.ref b)) ∧ (Arv Z h b k .byte (1 : Int32) [(.int (c0.toInt8.toInt32))] (.int (0 : Int32)))
set_option maxRecDepth 65536 in
set_option maxHeartbeats 40000000 in
theorem rm_sc1 (l : Launch) (Z : State) (a0 : Array Value) (hw : ∀ d ∈ tables_1, d.before a0 Z = true) (ws : List Jvm.Cond) (a : Addr) (d : Addr) (kd : ClassId) (c0 : Int32) (cs : Int32) (h0 : Heap) (n0 : Nat) (O0 : Old Z n0 h0) (u0 : Sta Z Z.heap "java/lang/String" "COMPACT_STRINGS" "Z" (.int cs)) (u1 : ¬ (cs = (0 : Int32))) (u2 : ¬ ((255 : Int32) < c0)) (u3 : Exa Z h0 a "java/lang/String") (u4 : Fld Z h0 a "java/lang/String" "value" "[B" .null) (u5 : Fld Z h0 a "java/lang/String" "coder" "B" (.int (0 : Int32))) (u6 : n0 ≤ a) (u7 : Arv Z h0 d kd .char (1 : Int32) [(.int c0)] (.int (0 : Int32))) (u8 : a ≠ d) :
    MetFree l (⟨"java/lang/String", "<init>", "([C)V"⟩ : MethodName) (head1 (Jvm.Cond.code (⟨"java/lang/String", "<init>", "([C)V"⟩ : MethodName) jdk_42_method_3_code 2 none :: ws) ({ frames := 3, cells := 1, slots := 1, locals := 52 } : Room)) (fun aV U => aV = #[(.ref a), (.ref d)] ∧ Z.Warmed39 U.vm ∧ U.heap = h0) (fun _ _ _ _ _ => True) (fun _ U o U' => ∃ v L, o = .returned v ∧ Q_sc1 Z a d kd c0 cs h0 n0 v U'.heap L ∧ FrameEnd U o U' L ({ frames := 3, cells := 1, slots := 1, locals := 52 } : Room).cells ({ frames := 3, cells := 1, slots := 1, locals := 52 } : Room).slots) := by
  refine MetFree.of_bodySF (plainFor_of_name pn_0) hisR ?_
  intro pr_ en_ st_ me_ args below meth_ co_ s₁ Bd hml0 hP hK
  obtain ⟨rfl, hZ, hh⟩ := hP
  have hx := Bd.exec
  have hby := Bd.bytes
  have hml : co_.maxLocals = 2 := hml0
  have hown : st_.vm.findClass "java/lang/String" = some me_.cls := findClass_of_methodNamed Bd.named
  have hnm := (name_of_methodNamed Bd.named Bd.method).1
  have X0 : Stand pr_ l en_ ({ frames := 3, cells := 1, slots := 1, locals := 52 } : Room) st_ me_ #[(.ref a), (.ref d)] below meth_ co_ s₁ [] 0 0 := Stand.of_body Bd
  have e0 : s₁.heap = h0 := by rw [← hh, Bd.state]; rfl
  have N0 := Fr.nil n0
  have K0 := Keep.refl h0 [a]
  obtain ⟨G, gv, gf, gb⟩ := own_G pr_.tables en_ below st_ (Q_sc1 Z a d kd c0 cs h0 n0) ({ frames := 3, cells := 1, slots := 1, locals := 52 } : Room).cells ({ frames := 3, cells := 1, slots := 1, locals := 52 } : Room).slots
  show own_Fin pr_.tables en_ below st_ (Q_sc1 Z a d kd c0 cs h0 n0) ({ frames := 3, cells := 1, slots := 1, locals := 52 } : Room).cells ({ frames := 3, cells := 1, slots := 1, locals := 52 } : Room).slots (s₁.setTop (entryFrame me_ #[(.ref a), (.ref d)] 2))
  refine gb _ (gv (fun tQ kQ => castTop (ef_2 me_ a d) kQ) ?_)
  show G (s₁.setTop (mkF me_ 0 #[.val (.ref a), .val (.ref d)] []))
  refine gv (fun tQ kQ => XS.aloadN X0.here hx rfl (hb hby d2_0) rfl rfl kQ) ?_
  show G (s₁.setTop (mkF me_ 1 #[.val (.ref a), .val (.ref d)] [(.ref a)]))
  refine gv (fun tQ kQ => XS.aloadN X0.here hx rfl (hb hby d2_1) rfl rfl kQ) ?_
  show G (s₁.setTop (mkF me_ 2 #[.val (.ref a), .val (.ref d)] [(.ref d), (.ref a)]))
  refine gv (fun tQ kQ => XS.iconst X0.here hx rfl (hb hby d2_2) kQ) ?_
  show G (s₁.setTop (mkF me_ 3 #[.val (.ref a), .val (.ref d)] [(.int (0 : Int32)), (.ref d), (.ref a)]))
  refine gv (fun tQ kQ => XS.aloadN X0.here hx rfl (hb hby d2_3) rfl rfl kQ) ?_
  show G (s₁.setTop (mkF me_ 4 #[.val (.ref a), .val (.ref d)] [(.ref d), (.int (0 : Int32)), (.ref d), (.ref a)]))
  obtain ⟨cl435, Ar435, -, S435, n435, -, -⟩ := (id u7)
  refine gv (X0.arraylength hx (by rw [e0]; exact Ar435.1) (State.isArrayOf_alike hZ.alike Ar435.2.1) (g := (mkF me_ 4 #[.val (.ref a), .val (.ref d)] [(.ref d), (.int (0 : Int32)), (.ref d), (.ref a)])) rfl rfl (hb hby d2_4)) ?_
  rw [len_of S435 n435]
  show G (s₁.setTop (mkF me_ 5 #[.val (.ref a), .val (.ref d)] [(.int (1 : Int32)), (.int (0 : Int32)), (.ref d), (.ref a)]))
  refine gv (fun tQ kQ => XS.aconstNull X0.here hx rfl (hb hby d2_5) kQ) ?_
  show G (s₁.setTop (mkF me_ 6 #[.val (.ref a), .val (.ref d)] [.null, (.int (1 : Int32)), (.int (0 : Int32)), (.ref d), (.ref a)]))
  obtain ⟨_, _, ⟨T436, L436, k436, n436⟩, -, X436, ⟨Lc436, hQ436, l436, y436, z436⟩, st436⟩ := X0.specialBack hx (y := (⟨"java/lang/String", "<init>", "([CIILjava/lang/Void;)V"⟩ : MethodName)) rfl hown (mvT hZ (hw _ (List.mem_of_getElem? (i := 11) rfl))) (mvT hZ (hw _ (List.mem_of_getElem? (i := 12) rfl))) (mvT hZ (hw _ (List.mem_of_getElem? (i := 14) rfl))) (by decide) (backOf (W := 0) (rm_sci1 l Z a0 hw [] a d kd c0 cs h0 n0 O0 u0 u1 u2 u3 u4 u5 u6 u7 u8) hZ (hw _ (List.mem_of_getElem? (i := 14) rfl)) (hw _ (List.mem_of_getElem? (i := 3) rfl)) (by decide) (by decide)) (g := (mkF me_ 6 #[.val (.ref a), .val (.ref d)] [.null, (.int (1 : Int32)), (.int (0 : Int32)), (.ref d), (.ref a)])) rfl (by rw [hml]; rfl) (Steps.refl _) (a := a) (argsL := [(.ref d), (.int (0 : Int32)), (.int (1 : Int32)), .null]) (rest := []) (lenOf pd_14 rfl) rfl (by show 2 * 0 + _ ≤ _; exact Nat.le_of_eq rfl) (hb hby d2_6) (fun _ _ => ⟨rfl, e0, (by decide : 0 + 1 ≤ _), (by decide : 0 + 1 ≤ _)⟩)
  dsimp only [Pt.U, Pt.locs, Pt.cells, Pt.slots] at X436 l436 y436 z436 st436 hQ436
  subst l436 y436 z436
  obtain ⟨b_436, k_436, rfl, Nq436, Kq436, w436_0, w436_1, w436_2, w436_3, w436_4⟩ := hQ436
  have N437 := Fr.app N0 Nq436
  obtain ⟨h436, e436⟩ : ∃ z, T436.heap = z := ⟨_, rfl⟩
  rw [e436] at Kq436 w436_1 w436_2 w436_3 w436_4
  have ne438 : a ≠ b_436 := Nat.ne_of_lt (Nat.lt_of_lt_of_le u3.lt w436_0)
  have ne439 : d ≠ b_436 := Nat.ne_of_lt (Nat.lt_of_lt_of_le u7.lt w436_0)
  have g440 : n0 ≤ b_436 := Nat.le_trans (own_old O0) w436_0
  have z441 : h0.size ≤ b_436 := Nat.le_trans K0.1 w436_0
  have f442 : Exa Z h436 a "java/lang/String" := u3.keep Kq436
  have f443 : Arv Z h436 d kd .char (1 : Int32) [(.int c0)] (.int (0 : Int32)) := u7.keep Kq436 (ninS (Ne.symm u8) nin0)
  have O444 := O0.keep Kq436 (allS u6 all0)
  have K445 := K0.trans Kq436 (allS (Or.inl (List.mem_of_getElem? (i := 0) rfl)) all0)
  refine gv (fun tQ kQ => st436.trans kQ) ?_
  show G (T436.setTop (mkF me_ 9 #[.val (.ref a), .val (.ref d)] []))
  refine gf _ (own_ret X436 Bd.notSynchronized (v := none) (fun _ => rfl) ?_ (by decide) (by decide) (fun fs hr => X436.returnOut hx Bd.returns (hb hby d2_9) hr))
  show Q_sc1 Z a d kd c0 cs h0 n0 _ T436.heap _
  rw [e436]
  exact ⟨b_436, k_436, rfl, N437, K445, z441, w436_1, w436_2, w436_3, w436_4⟩
def Q_cmp2 (Z : State) (d : Addr) (kd : ClassId) (b : Addr) (k : ClassId) (c0 : Int32) (c1 : Int32) (h0 : Heap) (n0 : Nat) (v : Option Value) (h : Heap) (L : List Loc) : Prop := v = some (.int (2 : Int32)) ∧ Fr n0 L ∧ Keep h0 h [b] ∧ (Arv Z h b k .byte (2 : Int32) [(.int (c0.toInt8.toInt32)), (.int (c1.toInt8.toInt32))] (.int (0 : Int32)))
set_option maxRecDepth 65536 in
set_option maxHeartbeats 40000000 in
theorem rm_cmp2 (l : Launch) (Z : State) (a0 : Array Value) (hw : ∀ d ∈ tables_1, d.before a0 Z = true) (ws : List Jvm.Cond) (d : Addr) (kd : ClassId) (b : Addr) (k : ClassId) (c0 : Int32) (c1 : Int32) (h0 : Heap) (n0 : Nat) (O0 : Old Z n0 h0) (u0 : ¬ ((255 : Int32) < c0)) (u1 : ¬ ((255 : Int32) < c1)) (u2 : Arv Z h0 d kd .char (2 : Int32) [(.int c0), (.int c1)] (.int (0 : Int32))) (u3 : Arv Z h0 b k .byte (2 : Int32) [(.int (0 : Int32)), (.int (0 : Int32))] (.int (0 : Int32))) (u4 : n0 ≤ b) (u5 : d ≠ b) :
    MetFree l (⟨"java/lang/StringUTF16", "compress", "([CI[BII)I"⟩ : MethodName) (head1 (Jvm.Cond.code (⟨"java/lang/StringUTF16", "compress", "([CI[BII)I"⟩ : MethodName) jdk_52_method_21_code 7 (some .int) :: ws) ({ frames := 0, cells := 0, slots := 0, locals := 0 } : Room)) (fun aV U => aV = #[(.ref d), (.int (0 : Int32)), (.ref b), (.int (0 : Int32)), (.int (2 : Int32))] ∧ Z.Warmed39 U.vm ∧ U.heap = h0) (fun _ _ _ _ _ => True) (fun _ U o U' => ∃ v L, o = .returned v ∧ Q_cmp2 Z d kd b k c0 c1 h0 n0 v U'.heap L ∧ FrameEnd U o U' L ({ frames := 0, cells := 0, slots := 0, locals := 0 } : Room).cells ({ frames := 0, cells := 0, slots := 0, locals := 0 } : Room).slots) := by
  refine MetFree.of_bodySF (plainFor_of_name pn_5) hisR ?_
  intro pr_ en_ st_ me_ args below meth_ co_ s₁ Bd hml0 hP hK
  obtain ⟨rfl, hZ, hh⟩ := hP
  have hx := Bd.exec
  have hby := Bd.bytes
  have hml : co_.maxLocals = 7 := hml0
  have hown : st_.vm.findClass "java/lang/StringUTF16" = some me_.cls := findClass_of_methodNamed Bd.named
  have hnm := (name_of_methodNamed Bd.named Bd.method).1
  have X0 : Stand pr_ l en_ ({ frames := 0, cells := 0, slots := 0, locals := 0 } : Room) st_ me_ #[(.ref d), (.int (0 : Int32)), (.ref b), (.int (0 : Int32)), (.int (2 : Int32))] below meth_ co_ s₁ [] 0 0 := Stand.of_body Bd
  have e0 : s₁.heap = h0 := by rw [← hh, Bd.state]; rfl
  have N0 := Fr.nil n0
  have K0 := Keep.refl h0 [b]
  obtain ⟨G, gv, gf, gb⟩ := own_G pr_.tables en_ below st_ (Q_cmp2 Z d kd b k c0 c1 h0 n0) ({ frames := 0, cells := 0, slots := 0, locals := 0 } : Room).cells ({ frames := 0, cells := 0, slots := 0, locals := 0 } : Room).slots
  show own_Fin pr_.tables en_ below st_ (Q_cmp2 Z d kd b k c0 c1 h0 n0) ({ frames := 0, cells := 0, slots := 0, locals := 0 } : Room).cells ({ frames := 0, cells := 0, slots := 0, locals := 0 } : Room).slots (s₁.setTop (entryFrame me_ #[(.ref d), (.int (0 : Int32)), (.ref b), (.int (0 : Int32)), (.int (2 : Int32))] 7))
  refine gb _ (gv (fun tQ kQ => castTop (ef_12 me_ d (0 : Int32) b (0 : Int32) (2 : Int32)) kQ) ?_)
  show G (s₁.setTop (mkF me_ 0 #[.val (.ref d), .val (.int (0 : Int32)), .val (.ref b), .val (.int (0 : Int32)), .val (.int (2 : Int32)), .unset, .unset] []))
  refine gv (fun tQ kQ => XS.iconst X0.here hx rfl (hb hby d6_0) kQ) ?_
  show G (s₁.setTop (mkF me_ 1 #[.val (.ref d), .val (.int (0 : Int32)), .val (.ref b), .val (.int (0 : Int32)), .val (.int (2 : Int32)), .unset, .unset] [(.int (0 : Int32))]))
  refine gv (fun tQ kQ => XS.istore X0.here hx rfl (hb hby d6_1) rfl (l' := #[.val (.ref d), .val (.int (0 : Int32)), .val (.ref b), .val (.int (0 : Int32)), .val (.int (2 : Int32)), .val (.int (0 : Int32)), .unset]) rfl kQ) ?_
  show G (s₁.setTop (mkF me_ 3 #[.val (.ref d), .val (.int (0 : Int32)), .val (.ref b), .val (.int (0 : Int32)), .val (.int (2 : Int32)), .val (.int (0 : Int32)), .unset] []))
  refine gv (fun tQ kQ => XS.iload X0.here hx rfl (hb hby d6_3) rfl kQ) ?_
  show G (s₁.setTop (mkF me_ 5 #[.val (.ref d), .val (.int (0 : Int32)), .val (.ref b), .val (.int (0 : Int32)), .val (.int (2 : Int32)), .val (.int (0 : Int32)), .unset] [(.int (0 : Int32))]))
  refine gv (fun tQ kQ => XS.iload X0.here hx rfl (hb hby d6_5) rfl kQ) ?_
  show G (s₁.setTop (mkF me_ 7 #[.val (.ref d), .val (.int (0 : Int32)), .val (.ref b), .val (.int (0 : Int32)), .val (.int (2 : Int32)), .val (.int (0 : Int32)), .unset] [(.int (2 : Int32)), (.int (0 : Int32))]))
  refine gv (fun tQ kQ => XS.icmpNo X0.here hx rfl (hb hby d6_7) rfl (tlt (by decide : (0 : Int32) < (2 : Int32))).2.1 kQ) ?_
  show G (s₁.setTop (mkF me_ 10 #[.val (.ref d), .val (.int (0 : Int32)), .val (.ref b), .val (.int (0 : Int32)), .val (.int (2 : Int32)), .val (.int (0 : Int32)), .unset] []))
  refine gv (fun tQ kQ => XS.aloadN X0.here hx rfl (hb hby d6_10) rfl rfl kQ) ?_
  show G (s₁.setTop (mkF me_ 11 #[.val (.ref d), .val (.int (0 : Int32)), .val (.ref b), .val (.int (0 : Int32)), .val (.int (2 : Int32)), .val (.int (0 : Int32)), .unset] [(.ref d)]))
  refine gv (fun tQ kQ => XS.iloadN X0.here hx rfl (hb hby d6_11) rfl kQ) ?_
  show G (s₁.setTop (mkF me_ 12 #[.val (.ref d), .val (.int (0 : Int32)), .val (.ref b), .val (.int (0 : Int32)), .val (.int (2 : Int32)), .val (.int (0 : Int32)), .unset] [(.int (0 : Int32)), (.ref d)]))
  obtain ⟨cl446, Ar446, q446, S446, n446, H446, G446⟩ := (id u2)
  have in446 : ¬ ((0 : Int32) < 0 ∨ cl446.slots.size ≤ ((0 : Int32)).toNatClampNeg) := inb_of S446 ⟨by decide, by decide⟩
  refine gv (X0.caload hx (j := (0 : Int32)) (v := (.int c0)) (by rw [e0]; exact Ar446.1) (State.isArrayOf_alike hZ.alike Ar446.2.1) Ar446.2.2 in446 (Has.at H446 in446 rfl) (g := (mkF me_ 12 #[.val (.ref d), .val (.int (0 : Int32)), .val (.ref b), .val (.int (0 : Int32)), .val (.int (2 : Int32)), .val (.int (0 : Int32)), .unset] [(.int (0 : Int32)), (.ref d)])) rfl rfl (hb hby d6_12)) ?_
  show G (s₁.setTop (mkF me_ 13 #[.val (.ref d), .val (.int (0 : Int32)), .val (.ref b), .val (.int (0 : Int32)), .val (.int (2 : Int32)), .val (.int (0 : Int32)), .unset] [(.int c0)]))
  refine gv (fun tQ kQ => XS.istore X0.here hx rfl (hb hby d6_13) rfl (l' := #[.val (.ref d), .val (.int (0 : Int32)), .val (.ref b), .val (.int (0 : Int32)), .val (.int (2 : Int32)), .val (.int (0 : Int32)), .val (.int c0)]) rfl kQ) ?_
  show G (s₁.setTop (mkF me_ 15 #[.val (.ref d), .val (.int (0 : Int32)), .val (.ref b), .val (.int (0 : Int32)), .val (.int (2 : Int32)), .val (.int (0 : Int32)), .val (.int c0)] []))
  refine gv (fun tQ kQ => XS.iload X0.here hx rfl (hb hby d6_15) rfl kQ) ?_
  show G (s₁.setTop (mkF me_ 17 #[.val (.ref d), .val (.int (0 : Int32)), .val (.ref b), .val (.int (0 : Int32)), .val (.int (2 : Int32)), .val (.int (0 : Int32)), .val (.int c0)] [(.int c0)]))
  refine gv (fun tQ kQ => XS.sipush X0.here hx rfl (hb hby d6_17) kQ) ?_
  show G (s₁.setTop (mkF me_ 20 #[.val (.ref d), .val (.int (0 : Int32)), .val (.ref b), .val (.int (0 : Int32)), .val (.int (2 : Int32)), .val (.int (0 : Int32)), .val (.int c0)] [(.int (255 : Int32)), (.int c0)]))
  refine gv (fun tQ kQ => XS.icmpYes X0.here hx rfl (pc0 := 20) (pc' := 26) rfl (hb hby d6_20) rfl (flt u0).2.2.2 (by decide) (by decide) kQ) ?_
  show G (s₁.setTop (mkF me_ 26 #[.val (.ref d), .val (.int (0 : Int32)), .val (.ref b), .val (.int (0 : Int32)), .val (.int (2 : Int32)), .val (.int (0 : Int32)), .val (.int c0)] []))
  refine gv (fun tQ kQ => XS.aloadN X0.here hx rfl (hb hby d6_26) rfl rfl kQ) ?_
  show G (s₁.setTop (mkF me_ 27 #[.val (.ref d), .val (.int (0 : Int32)), .val (.ref b), .val (.int (0 : Int32)), .val (.int (2 : Int32)), .val (.int (0 : Int32)), .val (.int c0)] [(.ref b)]))
  refine gv (fun tQ kQ => XS.iloadN X0.here hx rfl (hb hby d6_27) rfl kQ) ?_
  show G (s₁.setTop (mkF me_ 28 #[.val (.ref d), .val (.int (0 : Int32)), .val (.ref b), .val (.int (0 : Int32)), .val (.int (2 : Int32)), .val (.int (0 : Int32)), .val (.int c0)] [(.int (0 : Int32)), (.ref b)]))
  refine gv (fun tQ kQ => XS.iload X0.here hx rfl (hb hby d6_28) rfl kQ) ?_
  show G (s₁.setTop (mkF me_ 30 #[.val (.ref d), .val (.int (0 : Int32)), .val (.ref b), .val (.int (0 : Int32)), .val (.int (2 : Int32)), .val (.int (0 : Int32)), .val (.int c0)] [(.int c0), (.int (0 : Int32)), (.ref b)]))
  refine gv (fun tQ kQ => XS.i2b X0.here hx rfl (hb hby d6_30) rfl kQ) ?_
  show G (s₁.setTop (mkF me_ 31 #[.val (.ref d), .val (.int (0 : Int32)), .val (.ref b), .val (.int (0 : Int32)), .val (.int (2 : Int32)), .val (.int (0 : Int32)), .val (.int c0)] [(.int (c0.toInt8.toInt32)), (.int (0 : Int32)), (.ref b)]))
  obtain ⟨cl447, Ar447, q447, S447, n447, H447, G447⟩ := (id u3)
  have in447 : ¬ ((0 : Int32) < 0 ∨ cl447.slots.size ≤ ((0 : Int32)).toNatClampNeg) := inb_of S447 ⟨by decide, by decide⟩
  obtain ⟨T447, h447, X447, e447, W447, st447⟩ := stB X0 hx hZ e0 Ar447 (j := (0 : Int32)) in447 (g := (mkF me_ 31 #[.val (.ref d), .val (.int (0 : Int32)), .val (.ref b), .val (.int (0 : Int32)), .val (.int (2 : Int32)), .val (.int (0 : Int32)), .val (.int c0)] [(.int (c0.toInt8.toInt32)), (.int (0 : Int32)), (.ref b)])) rfl rfl (hb hby d6_31)
  have W447 : Wr h0 h447 b ((0 : Int32)).toNatClampNeg (.int (c0.toInt8.toInt32)) := by have z := W447; rw [(own_narB _)] at z; exact z
  refine gv st447 ?_
  have f449 : Arv Z h447 d kd .char (2 : Int32) [(.int c0), (.int c1)] (.int (0 : Int32)) := u2.other W447 u5
  have O450 := O0.wr W447 u4
  have K451 := K0.wr W447 (Or.inl (List.mem_of_getElem? (i := 0) rfl))
  have N452 := Fr.snoc X447 N0 u4
  have f448 : Arv Z h447 b k .byte (2 : Int32) [(.int (c0.toInt8.toInt32)), (.int (0 : Int32))] (.int (0 : Int32)) := Arv.set Ar447 q447 S447 n447 H447 G447 (fits_nar_byte _) W447 0 rfl (Nat.le_of_ble_eq_true rfl)
  show G (T447.setTop (mkF me_ 32 #[.val (.ref d), .val (.int (0 : Int32)), .val (.ref b), .val (.int (0 : Int32)), .val (.int (2 : Int32)), .val (.int (0 : Int32)), .val (.int c0)] []))
  refine gv (fun tQ kQ => XS.iinc X447.here hx rfl (hb hby d6_32) rfl (l' := #[.val (.ref d), .val (.int ((0 : Int32) + (1 : Int32))), .val (.ref b), .val (.int (0 : Int32)), .val (.int (2 : Int32)), .val (.int (0 : Int32)), .val (.int c0)]) rfl kQ) ?_
  show G (T447.setTop (mkF me_ 35 #[.val (.ref d), .val (.int ((0 : Int32) + (1 : Int32))), .val (.ref b), .val (.int (0 : Int32)), .val (.int (2 : Int32)), .val (.int (0 : Int32)), .val (.int c0)] []))
  rw [(by decide : ((0 : Int32) + (1 : Int32)) = (1 : Int32))]
  show G (T447.setTop (mkF me_ 35 #[.val (.ref d), .val (.int (1 : Int32)), .val (.ref b), .val (.int (0 : Int32)), .val (.int (2 : Int32)), .val (.int (0 : Int32)), .val (.int c0)] []))
  refine gv (fun tQ kQ => XS.iinc X447.here hx rfl (hb hby d6_35) rfl (l' := #[.val (.ref d), .val (.int (1 : Int32)), .val (.ref b), .val (.int ((0 : Int32) + (1 : Int32))), .val (.int (2 : Int32)), .val (.int (0 : Int32)), .val (.int c0)]) rfl kQ) ?_
  show G (T447.setTop (mkF me_ 38 #[.val (.ref d), .val (.int (1 : Int32)), .val (.ref b), .val (.int ((0 : Int32) + (1 : Int32))), .val (.int (2 : Int32)), .val (.int (0 : Int32)), .val (.int c0)] []))
  rw [(by decide : ((0 : Int32) + (1 : Int32)) = (1 : Int32))]
  show G (T447.setTop (mkF me_ 38 #[.val (.ref d), .val (.int (1 : Int32)), .val (.ref b), .val (.int (1 : Int32)), .val (.int (2 : Int32)), .val (.int (0 : Int32)), .val (.int c0)] []))
  refine gv (fun tQ kQ => XS.iinc X447.here hx rfl (hb hby d6_38) rfl (l' := #[.val (.ref d), .val (.int (1 : Int32)), .val (.ref b), .val (.int (1 : Int32)), .val (.int (2 : Int32)), .val (.int ((0 : Int32) + (1 : Int32))), .val (.int c0)]) rfl kQ) ?_
  show G (T447.setTop (mkF me_ 41 #[.val (.ref d), .val (.int (1 : Int32)), .val (.ref b), .val (.int (1 : Int32)), .val (.int (2 : Int32)), .val (.int ((0 : Int32) + (1 : Int32))), .val (.int c0)] []))
  rw [(by decide : ((0 : Int32) + (1 : Int32)) = (1 : Int32))]
  show G (T447.setTop (mkF me_ 41 #[.val (.ref d), .val (.int (1 : Int32)), .val (.ref b), .val (.int (1 : Int32)), .val (.int (2 : Int32)), .val (.int (1 : Int32)), .val (.int c0)] []))
  refine gv (fun tQ kQ => XS.goto X447.here hx rfl (pc0 := 41) (pc' := 3) rfl (hb hby d6_41) (by decide) (by decide) kQ) ?_
  show G (T447.setTop (mkF me_ 3 #[.val (.ref d), .val (.int (1 : Int32)), .val (.ref b), .val (.int (1 : Int32)), .val (.int (2 : Int32)), .val (.int (1 : Int32)), .val (.int c0)] []))
  refine gv (fun tQ kQ => XS.iload X447.here hx rfl (hb hby d6_3) rfl kQ) ?_
  show G (T447.setTop (mkF me_ 5 #[.val (.ref d), .val (.int (1 : Int32)), .val (.ref b), .val (.int (1 : Int32)), .val (.int (2 : Int32)), .val (.int (1 : Int32)), .val (.int c0)] [(.int (1 : Int32))]))
  refine gv (fun tQ kQ => XS.iload X447.here hx rfl (hb hby d6_5) rfl kQ) ?_
  show G (T447.setTop (mkF me_ 7 #[.val (.ref d), .val (.int (1 : Int32)), .val (.ref b), .val (.int (1 : Int32)), .val (.int (2 : Int32)), .val (.int (1 : Int32)), .val (.int c0)] [(.int (2 : Int32)), (.int (1 : Int32))]))
  refine gv (fun tQ kQ => XS.icmpNo X447.here hx rfl (hb hby d6_7) rfl (tlt (by decide : (1 : Int32) < (2 : Int32))).2.1 kQ) ?_
  show G (T447.setTop (mkF me_ 10 #[.val (.ref d), .val (.int (1 : Int32)), .val (.ref b), .val (.int (1 : Int32)), .val (.int (2 : Int32)), .val (.int (1 : Int32)), .val (.int c0)] []))
  refine gv (fun tQ kQ => XS.aloadN X447.here hx rfl (hb hby d6_10) rfl rfl kQ) ?_
  show G (T447.setTop (mkF me_ 11 #[.val (.ref d), .val (.int (1 : Int32)), .val (.ref b), .val (.int (1 : Int32)), .val (.int (2 : Int32)), .val (.int (1 : Int32)), .val (.int c0)] [(.ref d)]))
  refine gv (fun tQ kQ => XS.iloadN X447.here hx rfl (hb hby d6_11) rfl kQ) ?_
  show G (T447.setTop (mkF me_ 12 #[.val (.ref d), .val (.int (1 : Int32)), .val (.ref b), .val (.int (1 : Int32)), .val (.int (2 : Int32)), .val (.int (1 : Int32)), .val (.int c0)] [(.int (1 : Int32)), (.ref d)]))
  obtain ⟨cl453, Ar453, q453, S453, n453, H453, G453⟩ := (id f449)
  have in453 : ¬ ((1 : Int32) < 0 ∨ cl453.slots.size ≤ ((1 : Int32)).toNatClampNeg) := inb_of S453 ⟨by decide, by decide⟩
  refine gv (X447.caload hx (j := (1 : Int32)) (v := (.int c1)) (by rw [e447]; exact Ar453.1) (State.isArrayOf_alike hZ.alike Ar453.2.1) Ar453.2.2 in453 (Has.at H453 in453 rfl) (g := (mkF me_ 12 #[.val (.ref d), .val (.int (1 : Int32)), .val (.ref b), .val (.int (1 : Int32)), .val (.int (2 : Int32)), .val (.int (1 : Int32)), .val (.int c0)] [(.int (1 : Int32)), (.ref d)])) rfl rfl (hb hby d6_12)) ?_
  show G (T447.setTop (mkF me_ 13 #[.val (.ref d), .val (.int (1 : Int32)), .val (.ref b), .val (.int (1 : Int32)), .val (.int (2 : Int32)), .val (.int (1 : Int32)), .val (.int c0)] [(.int c1)]))
  refine gv (fun tQ kQ => XS.istore X447.here hx rfl (hb hby d6_13) rfl (l' := #[.val (.ref d), .val (.int (1 : Int32)), .val (.ref b), .val (.int (1 : Int32)), .val (.int (2 : Int32)), .val (.int (1 : Int32)), .val (.int c1)]) rfl kQ) ?_
  show G (T447.setTop (mkF me_ 15 #[.val (.ref d), .val (.int (1 : Int32)), .val (.ref b), .val (.int (1 : Int32)), .val (.int (2 : Int32)), .val (.int (1 : Int32)), .val (.int c1)] []))
  refine gv (fun tQ kQ => XS.iload X447.here hx rfl (hb hby d6_15) rfl kQ) ?_
  show G (T447.setTop (mkF me_ 17 #[.val (.ref d), .val (.int (1 : Int32)), .val (.ref b), .val (.int (1 : Int32)), .val (.int (2 : Int32)), .val (.int (1 : Int32)), .val (.int c1)] [(.int c1)]))
  refine gv (fun tQ kQ => XS.sipush X447.here hx rfl (hb hby d6_17) kQ) ?_
  show G (T447.setTop (mkF me_ 20 #[.val (.ref d), .val (.int (1 : Int32)), .val (.ref b), .val (.int (1 : Int32)), .val (.int (2 : Int32)), .val (.int (1 : Int32)), .val (.int c1)] [(.int (255 : Int32)), (.int c1)]))
  refine gv (fun tQ kQ => XS.icmpYes X447.here hx rfl (pc0 := 20) (pc' := 26) rfl (hb hby d6_20) rfl (flt u1).2.2.2 (by decide) (by decide) kQ) ?_
  show G (T447.setTop (mkF me_ 26 #[.val (.ref d), .val (.int (1 : Int32)), .val (.ref b), .val (.int (1 : Int32)), .val (.int (2 : Int32)), .val (.int (1 : Int32)), .val (.int c1)] []))
  refine gv (fun tQ kQ => XS.aloadN X447.here hx rfl (hb hby d6_26) rfl rfl kQ) ?_
  show G (T447.setTop (mkF me_ 27 #[.val (.ref d), .val (.int (1 : Int32)), .val (.ref b), .val (.int (1 : Int32)), .val (.int (2 : Int32)), .val (.int (1 : Int32)), .val (.int c1)] [(.ref b)]))
  refine gv (fun tQ kQ => XS.iloadN X447.here hx rfl (hb hby d6_27) rfl kQ) ?_
  show G (T447.setTop (mkF me_ 28 #[.val (.ref d), .val (.int (1 : Int32)), .val (.ref b), .val (.int (1 : Int32)), .val (.int (2 : Int32)), .val (.int (1 : Int32)), .val (.int c1)] [(.int (1 : Int32)), (.ref b)]))
  refine gv (fun tQ kQ => XS.iload X447.here hx rfl (hb hby d6_28) rfl kQ) ?_
  show G (T447.setTop (mkF me_ 30 #[.val (.ref d), .val (.int (1 : Int32)), .val (.ref b), .val (.int (1 : Int32)), .val (.int (2 : Int32)), .val (.int (1 : Int32)), .val (.int c1)] [(.int c1), (.int (1 : Int32)), (.ref b)]))
  refine gv (fun tQ kQ => XS.i2b X447.here hx rfl (hb hby d6_30) rfl kQ) ?_
  show G (T447.setTop (mkF me_ 31 #[.val (.ref d), .val (.int (1 : Int32)), .val (.ref b), .val (.int (1 : Int32)), .val (.int (2 : Int32)), .val (.int (1 : Int32)), .val (.int c1)] [(.int (c1.toInt8.toInt32)), (.int (1 : Int32)), (.ref b)]))
  obtain ⟨cl454, Ar454, q454, S454, n454, H454, G454⟩ := (id f448)
  have in454 : ¬ ((1 : Int32) < 0 ∨ cl454.slots.size ≤ ((1 : Int32)).toNatClampNeg) := inb_of S454 ⟨by decide, by decide⟩
  obtain ⟨T454, h454, X454, e454, W454, st454⟩ := stB X447 hx hZ e447 Ar454 (j := (1 : Int32)) in454 (g := (mkF me_ 31 #[.val (.ref d), .val (.int (1 : Int32)), .val (.ref b), .val (.int (1 : Int32)), .val (.int (2 : Int32)), .val (.int (1 : Int32)), .val (.int c1)] [(.int (c1.toInt8.toInt32)), (.int (1 : Int32)), (.ref b)])) rfl rfl (hb hby d6_31)
  have W454 : Wr h447 h454 b ((1 : Int32)).toNatClampNeg (.int (c1.toInt8.toInt32)) := by have z := W454; rw [(own_narB _)] at z; exact z
  refine gv st454 ?_
  have f456 : Arv Z h454 d kd .char (2 : Int32) [(.int c0), (.int c1)] (.int (0 : Int32)) := f449.other W454 u5
  have O457 := O450.wr W454 u4
  have K458 := K451.wr W454 (Or.inl (List.mem_of_getElem? (i := 0) rfl))
  have N459 := Fr.snoc X454 N452 u4
  have f455 : Arv Z h454 b k .byte (2 : Int32) [(.int (c0.toInt8.toInt32)), (.int (c1.toInt8.toInt32))] (.int (0 : Int32)) := Arv.set Ar454 q454 S454 n454 H454 G454 (fits_nar_byte _) W454 1 rfl (Nat.le_of_ble_eq_true rfl)
  show G (T454.setTop (mkF me_ 32 #[.val (.ref d), .val (.int (1 : Int32)), .val (.ref b), .val (.int (1 : Int32)), .val (.int (2 : Int32)), .val (.int (1 : Int32)), .val (.int c1)] []))
  refine gv (fun tQ kQ => XS.iinc X454.here hx rfl (hb hby d6_32) rfl (l' := #[.val (.ref d), .val (.int ((1 : Int32) + (1 : Int32))), .val (.ref b), .val (.int (1 : Int32)), .val (.int (2 : Int32)), .val (.int (1 : Int32)), .val (.int c1)]) rfl kQ) ?_
  show G (T454.setTop (mkF me_ 35 #[.val (.ref d), .val (.int ((1 : Int32) + (1 : Int32))), .val (.ref b), .val (.int (1 : Int32)), .val (.int (2 : Int32)), .val (.int (1 : Int32)), .val (.int c1)] []))
  rw [(by decide : ((1 : Int32) + (1 : Int32)) = (2 : Int32))]
  show G (T454.setTop (mkF me_ 35 #[.val (.ref d), .val (.int (2 : Int32)), .val (.ref b), .val (.int (1 : Int32)), .val (.int (2 : Int32)), .val (.int (1 : Int32)), .val (.int c1)] []))
  refine gv (fun tQ kQ => XS.iinc X454.here hx rfl (hb hby d6_35) rfl (l' := #[.val (.ref d), .val (.int (2 : Int32)), .val (.ref b), .val (.int ((1 : Int32) + (1 : Int32))), .val (.int (2 : Int32)), .val (.int (1 : Int32)), .val (.int c1)]) rfl kQ) ?_
  show G (T454.setTop (mkF me_ 38 #[.val (.ref d), .val (.int (2 : Int32)), .val (.ref b), .val (.int ((1 : Int32) + (1 : Int32))), .val (.int (2 : Int32)), .val (.int (1 : Int32)), .val (.int c1)] []))
  rw [(by decide : ((1 : Int32) + (1 : Int32)) = (2 : Int32))]
  show G (T454.setTop (mkF me_ 38 #[.val (.ref d), .val (.int (2 : Int32)), .val (.ref b), .val (.int (2 : Int32)), .val (.int (2 : Int32)), .val (.int (1 : Int32)), .val (.int c1)] []))
  refine gv (fun tQ kQ => XS.iinc X454.here hx rfl (hb hby d6_38) rfl (l' := #[.val (.ref d), .val (.int (2 : Int32)), .val (.ref b), .val (.int (2 : Int32)), .val (.int (2 : Int32)), .val (.int ((1 : Int32) + (1 : Int32))), .val (.int c1)]) rfl kQ) ?_
  show G (T454.setTop (mkF me_ 41 #[.val (.ref d), .val (.int (2 : Int32)), .val (.ref b), .val (.int (2 : Int32)), .val (.int (2 : Int32)), .val (.int ((1 : Int32) + (1 : Int32))), .val (.int c1)] []))
  rw [(by decide : ((1 : Int32) + (1 : Int32)) = (2 : Int32))]
  show G (T454.setTop (mkF me_ 41 #[.val (.ref d), .val (.int (2 : Int32)), .val (.ref b), .val (.int (2 : Int32)), .val (.int (2 : Int32)), .val (.int (2 : Int32)), .val (.int c1)] []))
  refine gv (fun tQ kQ => XS.goto X454.here hx rfl (pc0 := 41) (pc' := 3) rfl (hb hby d6_41) (by decide) (by decide) kQ) ?_
  show G (T454.setTop (mkF me_ 3 #[.val (.ref d), .val (.int (2 : Int32)), .val (.ref b), .val (.int (2 : Int32)), .val (.int (2 : Int32)), .val (.int (2 : Int32)), .val (.int c1)] []))
  refine gv (fun tQ kQ => XS.iload X454.here hx rfl (hb hby d6_3) rfl kQ) ?_
  show G (T454.setTop (mkF me_ 5 #[.val (.ref d), .val (.int (2 : Int32)), .val (.ref b), .val (.int (2 : Int32)), .val (.int (2 : Int32)), .val (.int (2 : Int32)), .val (.int c1)] [(.int (2 : Int32))]))
  refine gv (fun tQ kQ => XS.iload X454.here hx rfl (hb hby d6_5) rfl kQ) ?_
  show G (T454.setTop (mkF me_ 7 #[.val (.ref d), .val (.int (2 : Int32)), .val (.ref b), .val (.int (2 : Int32)), .val (.int (2 : Int32)), .val (.int (2 : Int32)), .val (.int c1)] [(.int (2 : Int32)), (.int (2 : Int32))]))
  refine gv (fun tQ kQ => XS.icmpYes X454.here hx rfl (pc0 := 7) (pc' := 44) rfl (hb hby d6_7) rfl (flt (by decide : ¬ ((2 : Int32) < (2 : Int32)))).2.1 (by decide) (by decide) kQ) ?_
  show G (T454.setTop (mkF me_ 44 #[.val (.ref d), .val (.int (2 : Int32)), .val (.ref b), .val (.int (2 : Int32)), .val (.int (2 : Int32)), .val (.int (2 : Int32)), .val (.int c1)] []))
  refine gv (fun tQ kQ => XS.iload X454.here hx rfl (hb hby d6_44) rfl kQ) ?_
  show G (T454.setTop (mkF me_ 46 #[.val (.ref d), .val (.int (2 : Int32)), .val (.ref b), .val (.int (2 : Int32)), .val (.int (2 : Int32)), .val (.int (2 : Int32)), .val (.int c1)] [(.int (2 : Int32))]))
  refine gf _ (own_ret X454 Bd.notSynchronized (v := some (.int (2 : Int32))) (fun h => by rw [Bd.returns] at h; cases h) ?_ (by decide) (by decide) (fun fs hr => retOut X454 hx (t := .int) Bd.returns rfl (Or.inl ⟨rfl, Or.inl rfl, _, rfl⟩) (hb hby d6_46) hr))
  show Q_cmp2 Z d kd b k c0 c1 h0 n0 _ T454.heap _
  rw [e454]
  exact ⟨rfl, N459, K458, f455⟩
def Q_cmpr2 (Z : State) (d : Addr) (kd : ClassId) (c0 : Int32) (c1 : Int32) (h0 : Heap) (n0 : Nat) (v : Option Value) (h : Heap) (L : List Loc) : Prop := ∃ (b : Addr), ∃ (k : ClassId), v = some (.ref b) ∧ Fr n0 L ∧ Keep h0 h [] ∧ h0.size ≤ b ∧ (Arv Z h b k .byte (2 : Int32) [(.int (c0.toInt8.toInt32)), (.int (c1.toInt8.toInt32))] (.int (0 : Int32)))
set_option maxRecDepth 65536 in
set_option maxHeartbeats 40000000 in
theorem rm_cmpr2 (l : Launch) (Z : State) (a0 : Array Value) (hw : ∀ d ∈ tables_1, d.before a0 Z = true) (ws : List Jvm.Cond) (d : Addr) (kd : ClassId) (c0 : Int32) (c1 : Int32) (h0 : Heap) (n0 : Nat) (O0 : Old Z n0 h0) (u0 : ¬ ((255 : Int32) < c0)) (u1 : ¬ ((255 : Int32) < c1)) (u2 : Arv Z h0 d kd .char (2 : Int32) [(.int c0), (.int c1)] (.int (0 : Int32))) :
    MetFree l (⟨"java/lang/StringUTF16", "compress", "([CII)[B"⟩ : MethodName) (head1 (Jvm.Cond.code (⟨"java/lang/StringUTF16", "compress", "([CII)[B"⟩ : MethodName) jdk_52_method_16_code 6 (some (.array .byte)) :: ws) ({ frames := 1, cells := 1, slots := 2, locals := 18 } : Room)) (fun aV U => aV = #[(.ref d), (.int (0 : Int32)), (.int (2 : Int32))] ∧ Z.Warmed39 U.vm ∧ U.heap = h0) (fun _ _ _ _ _ => True) (fun _ U o U' => ∃ v L, o = .returned v ∧ Q_cmpr2 Z d kd c0 c1 h0 n0 v U'.heap L ∧ FrameEnd U o U' L ({ frames := 1, cells := 1, slots := 2, locals := 18 } : Room).cells ({ frames := 1, cells := 1, slots := 2, locals := 18 } : Room).slots) := by
  refine MetFree.of_bodySF (plainFor_of_name pn_5) hisR ?_
  intro pr_ en_ st_ me_ args below meth_ co_ s₁ Bd hml0 hP hK
  obtain ⟨rfl, hZ, hh⟩ := hP
  have hx := Bd.exec
  have hby := Bd.bytes
  have hml : co_.maxLocals = 6 := hml0
  have hown : st_.vm.findClass "java/lang/StringUTF16" = some me_.cls := findClass_of_methodNamed Bd.named
  have hnm := (name_of_methodNamed Bd.named Bd.method).1
  have X0 : Stand pr_ l en_ ({ frames := 1, cells := 1, slots := 2, locals := 18 } : Room) st_ me_ #[(.ref d), (.int (0 : Int32)), (.int (2 : Int32))] below meth_ co_ s₁ [] 0 0 := Stand.of_body Bd
  have e0 : s₁.heap = h0 := by rw [← hh, Bd.state]; rfl
  have N0 := Fr.nil n0
  have K0 := Keep.refl h0 []
  obtain ⟨G, gv, gf, gb⟩ := own_G pr_.tables en_ below st_ (Q_cmpr2 Z d kd c0 c1 h0 n0) ({ frames := 1, cells := 1, slots := 2, locals := 18 } : Room).cells ({ frames := 1, cells := 1, slots := 2, locals := 18 } : Room).slots
  show own_Fin pr_.tables en_ below st_ (Q_cmpr2 Z d kd c0 c1 h0 n0) ({ frames := 1, cells := 1, slots := 2, locals := 18 } : Room).cells ({ frames := 1, cells := 1, slots := 2, locals := 18 } : Room).slots (s₁.setTop (entryFrame me_ #[(.ref d), (.int (0 : Int32)), (.int (2 : Int32))] 6))
  refine gb _ (gv (fun tQ kQ => castTop (ef_13 me_ d (0 : Int32) (2 : Int32)) kQ) ?_)
  show G (s₁.setTop (mkF me_ 0 #[.val (.ref d), .val (.int (0 : Int32)), .val (.int (2 : Int32)), .unset, .unset, .unset] []))
  refine gv (fun tQ kQ => XS.iloadN X0.here hx rfl (hb hby d5_0) rfl kQ) ?_
  show G (s₁.setTop (mkF me_ 1 #[.val (.ref d), .val (.int (0 : Int32)), .val (.int (2 : Int32)), .unset, .unset, .unset] [(.int (2 : Int32))]))
  obtain ⟨T460, h460, k460, X460, e460, E460, A460, st460⟩ := newP X0 hx hZ (hw _ (List.mem_of_getElem? (i := 19) rfl)) e0 (g := (mkF me_ 1 #[.val (.ref d), .val (.int (0 : Int32)), .val (.int (2 : Int32)), .unset, .unset, .unset] [(.int (2 : Int32))])) rfl (hb hby d5_1) rfl (by decide) (cap := 2) (by decide) (by decide) (by decide) (by decide)
  obtain ⟨b460, g460⟩ : ∃ z, z = h0.size := ⟨_, rfl⟩
  rw [← g460] at A460 st460
  refine gv st460 ?_
  have ne461 : d ≠ b460 := Nat.ne_of_lt (Nat.lt_of_lt_of_le u2.lt (Nat.le_of_eq g460.symm))
  have g462 : n0 ≤ b460 := Nat.le_trans (own_old O0) (Nat.le_of_eq g460.symm)
  have z463 : h0.size ≤ b460 := Nat.le_trans K0.1 (Nat.le_of_eq g460.symm)
  have f464 : Arv Z h460 d kd .char (2 : Int32) [(.int c0), (.int c1)] (.int (0 : Int32)) := u2.ext E460
  have O465 := O0.ext E460
  have K466 := K0.ext E460
  have V460 : Arv Z h460 b460 k460 .byte (2 : Int32) [(.int (0 : Int32)), (.int (0 : Int32))] (.int (0 : Int32)) := (Arv.new A460 (by decide)).pad (pad_rep [] (.int (0 : Int32)) 2)
  show G (T460.setTop (mkF me_ 3 #[.val (.ref d), .val (.int (0 : Int32)), .val (.int (2 : Int32)), .unset, .unset, .unset] [(.ref b460)]))
  refine gv (fun tQ kQ => XS.astoreN X460.here hx rfl (hb hby d5_3) rfl rfl (l' := #[.val (.ref d), .val (.int (0 : Int32)), .val (.int (2 : Int32)), .val (.ref b460), .unset, .unset]) rfl kQ) ?_
  show G (T460.setTop (mkF me_ 4 #[.val (.ref d), .val (.int (0 : Int32)), .val (.int (2 : Int32)), .val (.ref b460), .unset, .unset] []))
  refine gv (fun tQ kQ => XS.aloadN X460.here hx rfl (hb hby d5_4) rfl rfl kQ) ?_
  show G (T460.setTop (mkF me_ 5 #[.val (.ref d), .val (.int (0 : Int32)), .val (.int (2 : Int32)), .val (.ref b460), .unset, .unset] [(.ref d)]))
  refine gv (fun tQ kQ => XS.iloadN X460.here hx rfl (hb hby d5_5) rfl kQ) ?_
  show G (T460.setTop (mkF me_ 6 #[.val (.ref d), .val (.int (0 : Int32)), .val (.int (2 : Int32)), .val (.ref b460), .unset, .unset] [(.int (0 : Int32)), (.ref d)]))
  refine gv (fun tQ kQ => XS.aloadN X460.here hx rfl (hb hby d5_6) rfl rfl kQ) ?_
  show G (T460.setTop (mkF me_ 7 #[.val (.ref d), .val (.int (0 : Int32)), .val (.int (2 : Int32)), .val (.ref b460), .unset, .unset] [(.ref b460), (.int (0 : Int32)), (.ref d)]))
  refine gv (fun tQ kQ => XS.iconst X460.here hx rfl (hb hby d5_7) kQ) ?_
  show G (T460.setTop (mkF me_ 8 #[.val (.ref d), .val (.int (0 : Int32)), .val (.int (2 : Int32)), .val (.ref b460), .unset, .unset] [(.int (0 : Int32)), (.ref b460), (.int (0 : Int32)), (.ref d)]))
  refine gv (fun tQ kQ => XS.iloadN X460.here hx rfl (hb hby d5_8) rfl kQ) ?_
  show G (T460.setTop (mkF me_ 9 #[.val (.ref d), .val (.int (0 : Int32)), .val (.int (2 : Int32)), .val (.ref b460), .unset, .unset] [(.int (2 : Int32)), (.int (0 : Int32)), (.ref b460), (.int (0 : Int32)), (.ref d)]))
  obtain ⟨_, _, ⟨T467, L467, k467, n467⟩, -, X467, ⟨Lc467, hQ467, l467, y467, z467⟩, st467⟩ := Jvm.LawKit.callS X460 hx (y := (⟨"java/lang/StringUTF16", "compress", "([CI[BII)I"⟩ : MethodName)) hown (mvT hZ (hw _ (List.mem_of_getElem? (i := 31) rfl))) (mvT hZ (hw _ (List.mem_of_getElem? (i := 32) rfl))) (mvT hZ (hw _ (List.mem_of_getElem? (i := 29) rfl))) (mvT hZ (hw _ (List.mem_of_getElem? (i := 33) rfl))) (by decide) (backOf (W := 0) (rm_cmp2 l Z a0 hw [] d kd b460 k460 c0 c1 h460 n0 O465 u0 u1 f464 V460 g462 ne461) hZ (hw _ (List.mem_of_getElem? (i := 33) rfl)) (hw _ (List.mem_of_getElem? (i := 29) rfl)) (by decide) (by decide)) (g := (mkF me_ 9 #[.val (.ref d), .val (.int (0 : Int32)), .val (.int (2 : Int32)), .val (.ref b460), .unset, .unset] [(.int (2 : Int32)), (.int (0 : Int32)), (.ref b460), (.int (0 : Int32)), (.ref d)])) rfl (by rw [hml]; rfl) (argsL := [(.ref d), (.int (0 : Int32)), (.ref b460), (.int (0 : Int32)), (.int (2 : Int32))]) (rest := []) (lenOf pd_15 rfl) rfl (by show 2 * 0 + _ ≤ _; exact Nat.le_of_eq rfl) (hb hby d5_9) (fun _ _ => ⟨rfl, e460, (by decide : 1 + 0 ≤ _), (by decide : 2 + 0 ≤ _)⟩)
  dsimp only [Pt.U, Pt.locs, Pt.cells, Pt.slots] at X467 l467 y467 z467 st467 hQ467
  subst l467 y467 z467
  obtain ⟨rfl, Nq467, Kq467, w467_0⟩ := hQ467
  have N468 := Fr.app N0 Nq467
  obtain ⟨h467, e467⟩ : ∃ z, T467.heap = z := ⟨_, rfl⟩
  rw [e467] at Kq467 w467_0
  have f469 : Arv Z h467 d kd .char (2 : Int32) [(.int c0), (.int c1)] (.int (0 : Int32)) := f464.keep Kq467 (ninS ne461 nin0)
  have O470 := O465.keep Kq467 (allS g462 all0)
  have K471 := K466.trans Kq467 (allS (Or.inr z463) all0)
  refine gv st467 ?_
  show G (T467.setTop (mkF me_ 12 #[.val (.ref d), .val (.int (0 : Int32)), .val (.int (2 : Int32)), .val (.ref b460), .unset, .unset] [(.int (2 : Int32))]))
  refine gv (fun tQ kQ => XS.istore X467.here hx rfl (hb hby d5_12) rfl (l' := #[.val (.ref d), .val (.int (0 : Int32)), .val (.int (2 : Int32)), .val (.ref b460), .val (.int (2 : Int32)), .unset]) rfl kQ) ?_
  show G (T467.setTop (mkF me_ 14 #[.val (.ref d), .val (.int (0 : Int32)), .val (.int (2 : Int32)), .val (.ref b460), .val (.int (2 : Int32)), .unset] []))
  refine gv (fun tQ kQ => XS.iload X467.here hx rfl (hb hby d5_14) rfl kQ) ?_
  show G (T467.setTop (mkF me_ 16 #[.val (.ref d), .val (.int (0 : Int32)), .val (.int (2 : Int32)), .val (.ref b460), .val (.int (2 : Int32)), .unset] [(.int (2 : Int32))]))
  refine gv (fun tQ kQ => XS.iloadN X467.here hx rfl (hb hby d5_16) rfl kQ) ?_
  show G (T467.setTop (mkF me_ 17 #[.val (.ref d), .val (.int (0 : Int32)), .val (.int (2 : Int32)), .val (.ref b460), .val (.int (2 : Int32)), .unset] [(.int (2 : Int32)), (.int (2 : Int32))]))
  refine gv (fun tQ kQ => XS.icmpYes X467.here hx rfl (pc0 := 17) (pc' := 57) rfl (hb hby d5_17) rfl (teq (by decide : (2 : Int32) = (2 : Int32))).1 (by decide) (by decide) kQ) ?_
  show G (T467.setTop (mkF me_ 57 #[.val (.ref d), .val (.int (0 : Int32)), .val (.int (2 : Int32)), .val (.ref b460), .val (.int (2 : Int32)), .unset] []))
  refine gv (fun tQ kQ => XS.aloadN X467.here hx rfl (hb hby d5_57) rfl rfl kQ) ?_
  show G (T467.setTop (mkF me_ 58 #[.val (.ref d), .val (.int (0 : Int32)), .val (.int (2 : Int32)), .val (.ref b460), .val (.int (2 : Int32)), .unset] [(.ref b460)]))
  refine gf _ (own_ret X467 Bd.notSynchronized (v := some (.ref b460)) (fun h => by rw [Bd.returns] at h; cases h) ?_ (by decide) (by decide) (fun fs hr => retOut X467 hx (t := (.array .byte)) Bd.returns rfl (Or.inr (Or.inr (Or.inr (Or.inr ⟨rfl, rfl, rfl⟩)))) (hb hby d5_58) hr))
  show Q_cmpr2 Z d kd c0 c1 h0 n0 _ T467.heap _
  rw [e467]
  exact ⟨b460, k460, rfl, N468, K471, z463, w467_0⟩
def Q_cfal2 (Z : State) (b : Addr) (k : ClassId) (x0 : Int32) (x1 : Int32) (h0 : Heap) (n0 : Nat) (v : Option Value) (h : Heap) (L : List Loc) : Prop := v = some (.int (0 : Int32)) ∧ Fr n0 L ∧ h = h0
set_option maxRecDepth 65536 in
set_option maxHeartbeats 40000000 in
theorem rm_cfal2 (l : Launch) (Z : State) (a0 : Array Value) (hw : ∀ d ∈ tables_1, d.before a0 Z = true) (ws : List Jvm.Cond) (b : Addr) (k : ClassId) (x0 : Int32) (x1 : Int32) (h0 : Heap) (n0 : Nat) (O0 : Old Z n0 h0) (u0 : Arv Z h0 b k .byte (2 : Int32) [(.int x0), (.int x1)] (.int (0 : Int32))) :
    MetFree l (⟨"java/lang/StringUTF16", "coderFromArrayLen", "([BI)B"⟩ : MethodName) (head1 (Jvm.Cond.code (⟨"java/lang/StringUTF16", "coderFromArrayLen", "([BI)B"⟩ : MethodName) jdk_52_method_15_code 2 (some .byte) :: ws) ({ frames := 0, cells := 0, slots := 0, locals := 0 } : Room)) (fun aV U => aV = #[(.ref b), (.int (2 : Int32))] ∧ Z.Warmed39 U.vm ∧ U.heap = h0) (fun _ _ _ _ _ => True) (fun _ U o U' => ∃ v L, o = .returned v ∧ Q_cfal2 Z b k x0 x1 h0 n0 v U'.heap L ∧ FrameEnd U o U' L ({ frames := 0, cells := 0, slots := 0, locals := 0 } : Room).cells ({ frames := 0, cells := 0, slots := 0, locals := 0 } : Room).slots) := by
  refine MetFree.of_bodySF (plainFor_of_name pn_5) hisR ?_
  intro pr_ en_ st_ me_ args below meth_ co_ s₁ Bd hml0 hP hK
  obtain ⟨rfl, hZ, hh⟩ := hP
  have hx := Bd.exec
  have hby := Bd.bytes
  have hml : co_.maxLocals = 2 := hml0
  have hown : st_.vm.findClass "java/lang/StringUTF16" = some me_.cls := findClass_of_methodNamed Bd.named
  have hnm := (name_of_methodNamed Bd.named Bd.method).1
  have X0 : Stand pr_ l en_ ({ frames := 0, cells := 0, slots := 0, locals := 0 } : Room) st_ me_ #[(.ref b), (.int (2 : Int32))] below meth_ co_ s₁ [] 0 0 := Stand.of_body Bd
  have e0 : s₁.heap = h0 := by rw [← hh, Bd.state]; rfl
  have N0 := Fr.nil n0
  have K0 := Keep.refl h0 []
  obtain ⟨G, gv, gf, gb⟩ := own_G pr_.tables en_ below st_ (Q_cfal2 Z b k x0 x1 h0 n0) ({ frames := 0, cells := 0, slots := 0, locals := 0 } : Room).cells ({ frames := 0, cells := 0, slots := 0, locals := 0 } : Room).slots
  show own_Fin pr_.tables en_ below st_ (Q_cfal2 Z b k x0 x1 h0 n0) ({ frames := 0, cells := 0, slots := 0, locals := 0 } : Room).cells ({ frames := 0, cells := 0, slots := 0, locals := 0 } : Room).slots (s₁.setTop (entryFrame me_ #[(.ref b), (.int (2 : Int32))] 2))
  refine gb _ (gv (fun tQ kQ => castTop (ef_6 me_ b (2 : Int32)) kQ) ?_)
  show G (s₁.setTop (mkF me_ 0 #[.val (.ref b), .val (.int (2 : Int32))] []))
  refine gv (fun tQ kQ => XS.iloadN X0.here hx rfl (hb hby d7_0) rfl kQ) ?_
  show G (s₁.setTop (mkF me_ 1 #[.val (.ref b), .val (.int (2 : Int32))] [(.int (2 : Int32))]))
  refine gv (fun tQ kQ => XS.aloadN X0.here hx rfl (hb hby d7_1) rfl rfl kQ) ?_
  show G (s₁.setTop (mkF me_ 2 #[.val (.ref b), .val (.int (2 : Int32))] [(.ref b), (.int (2 : Int32))]))
  obtain ⟨cl472, Ar472, -, S472, n472, -, -⟩ := (id u0)
  refine gv (X0.arraylength hx (by rw [e0]; exact Ar472.1) (State.isArrayOf_alike hZ.alike Ar472.2.1) (g := (mkF me_ 2 #[.val (.ref b), .val (.int (2 : Int32))] [(.ref b), (.int (2 : Int32))])) rfl rfl (hb hby d7_2)) ?_
  rw [len_of S472 n472]
  show G (s₁.setTop (mkF me_ 3 #[.val (.ref b), .val (.int (2 : Int32))] [(.int (2 : Int32)), (.int (2 : Int32))]))
  refine gv (fun tQ kQ => XS.isub X0.here hx rfl (hb hby d7_3) rfl kQ) ?_
  show G (s₁.setTop (mkF me_ 4 #[.val (.ref b), .val (.int (2 : Int32))] [(.int ((2 : Int32) - (2 : Int32)))]))
  rw [(by decide : ((2 : Int32) - (2 : Int32)) = (0 : Int32))]
  show G (s₁.setTop (mkF me_ 4 #[.val (.ref b), .val (.int (2 : Int32))] [(.int (0 : Int32))]))
  refine gv (fun tQ kQ => XS.bipush X0.here hx rfl (hb hby d7_4) kQ) ?_
  show G (s₁.setTop (mkF me_ 6 #[.val (.ref b), .val (.int (2 : Int32))] [(.int (31 : Int32)), (.int (0 : Int32))]))
  refine gv (fun tQ kQ => XS.iushr X0.here hx rfl (hb hby d7_6) rfl kQ) ?_
  show G (s₁.setTop (mkF me_ 7 #[.val (.ref b), .val (.int (2 : Int32))] [(.int (((0 : Int32).toUInt32 >>> ((31 : Int32) &&& 31).toUInt32).toInt32))]))
  rw [(by decide : (((0 : Int32).toUInt32 >>> ((31 : Int32) &&& 31).toUInt32).toInt32) = (0 : Int32))]
  show G (s₁.setTop (mkF me_ 7 #[.val (.ref b), .val (.int (2 : Int32))] [(.int (0 : Int32))]))
  refine gv (fun tQ kQ => XS.i2b X0.here hx rfl (hb hby d7_7) rfl kQ) ?_
  show G (s₁.setTop (mkF me_ 8 #[.val (.ref b), .val (.int (2 : Int32))] [(.int ((0 : Int32).toInt8.toInt32))]))
  rw [(by decide : ((0 : Int32).toInt8.toInt32) = (0 : Int32))]
  show G (s₁.setTop (mkF me_ 8 #[.val (.ref b), .val (.int (2 : Int32))] [(.int (0 : Int32))]))
  refine gf _ (own_ret X0 Bd.notSynchronized (v := some (.int (0 : Int32))) (fun h => by rw [Bd.returns] at h; cases h) ?_ (by decide) (by decide) (fun fs hr => retN X0 hx (t := .byte) Bd.returns (by simp) (hb hby d7_8) hr))
  show Q_cfal2 Z b k x0 x1 h0 n0 _ s₁.heap _
  rw [e0]
  exact ⟨rfl, N0, rfl⟩
def Q_sci2 (Z : State) (a : Addr) (d : Addr) (kd : ClassId) (c0 : Int32) (c1 : Int32) (cs : Int32) (h0 : Heap) (n0 : Nat) (v : Option Value) (h : Heap) (L : List Loc) : Prop := ∃ (b : Addr), ∃ (k : ClassId), v = none ∧ Fr n0 L ∧ Keep h0 h [a] ∧ h0.size ≤ b ∧ (Exa Z h a "java/lang/String") ∧ (Fld Z h a "java/lang/String" "coder" "B" (.int (0 : Int32))) ∧ (Fld Z h a "java/lang/String" "value" "[B" (.ref b)) ∧ (Arv Z h b k .byte (2 : Int32) [(.int (c0.toInt8.toInt32)), (.int (c1.toInt8.toInt32))] (.int (0 : Int32)))
set_option maxRecDepth 65536 in
set_option maxHeartbeats 40000000 in
theorem rm_sci2 (l : Launch) (Z : State) (a0 : Array Value) (hw : ∀ d ∈ tables_1, d.before a0 Z = true) (ws : List Jvm.Cond) (a : Addr) (d : Addr) (kd : ClassId) (c0 : Int32) (c1 : Int32) (cs : Int32) (h0 : Heap) (n0 : Nat) (O0 : Old Z n0 h0) (u0 : Sta Z Z.heap "java/lang/String" "COMPACT_STRINGS" "Z" (.int cs)) (u1 : ¬ (cs = (0 : Int32))) (u2 : ¬ ((255 : Int32) < c0)) (u3 : ¬ ((255 : Int32) < c1)) (u4 : Exa Z h0 a "java/lang/String") (u5 : Fld Z h0 a "java/lang/String" "value" "[B" .null) (u6 : Fld Z h0 a "java/lang/String" "coder" "B" (.int (0 : Int32))) (u7 : n0 ≤ a) (u8 : Arv Z h0 d kd .char (2 : Int32) [(.int c0), (.int c1)] (.int (0 : Int32))) (u9 : a ≠ d) :
    MetFree l (⟨"java/lang/String", "<init>", "([CIILjava/lang/Void;)V"⟩ : MethodName) (head1 (Jvm.Cond.code (⟨"java/lang/String", "<init>", "([CIILjava/lang/Void;)V"⟩ : MethodName) jdk_42_method_149_code 6 none :: ws) ({ frames := 2, cells := 1, slots := 2, locals := 35 } : Room)) (fun aV U => aV = #[(.ref a), (.ref d), (.int (0 : Int32)), (.int (2 : Int32)), .null] ∧ Z.Warmed39 U.vm ∧ U.heap = h0) (fun _ _ _ _ _ => True) (fun _ U o U' => ∃ v L, o = .returned v ∧ Q_sci2 Z a d kd c0 c1 cs h0 n0 v U'.heap L ∧ FrameEnd U o U' L ({ frames := 2, cells := 1, slots := 2, locals := 35 } : Room).cells ({ frames := 2, cells := 1, slots := 2, locals := 35 } : Room).slots) := by
  refine MetFree.of_bodySF (plainFor_of_name pn_0) hisR ?_
  intro pr_ en_ st_ me_ args below meth_ co_ s₁ Bd hml0 hP hK
  obtain ⟨rfl, hZ, hh⟩ := hP
  have hx := Bd.exec
  have hby := Bd.bytes
  have hml : co_.maxLocals = 6 := hml0
  have hown : st_.vm.findClass "java/lang/String" = some me_.cls := findClass_of_methodNamed Bd.named
  have hnm := (name_of_methodNamed Bd.named Bd.method).1
  have X0 : Stand pr_ l en_ ({ frames := 2, cells := 1, slots := 2, locals := 35 } : Room) st_ me_ #[(.ref a), (.ref d), (.int (0 : Int32)), (.int (2 : Int32)), .null] below meth_ co_ s₁ [] 0 0 := Stand.of_body Bd
  have e0 : s₁.heap = h0 := by rw [← hh, Bd.state]; rfl
  have N0 := Fr.nil n0
  have K0 := Keep.refl h0 [a]
  obtain ⟨G, gv, gf, gb⟩ := own_G pr_.tables en_ below st_ (Q_sci2 Z a d kd c0 c1 cs h0 n0) ({ frames := 2, cells := 1, slots := 2, locals := 35 } : Room).cells ({ frames := 2, cells := 1, slots := 2, locals := 35 } : Room).slots
  show own_Fin pr_.tables en_ below st_ (Q_sci2 Z a d kd c0 c1 cs h0 n0) ({ frames := 2, cells := 1, slots := 2, locals := 35 } : Room).cells ({ frames := 2, cells := 1, slots := 2, locals := 35 } : Room).slots (s₁.setTop (entryFrame me_ #[(.ref a), (.ref d), (.int (0 : Int32)), (.int (2 : Int32)), .null] 6))
  refine gb _ (gv (fun tQ kQ => castTop (ef_11 me_ a d (0 : Int32) (2 : Int32)) kQ) ?_)
  show G (s₁.setTop (mkF me_ 0 #[.val (.ref a), .val (.ref d), .val (.int (0 : Int32)), .val (.int (2 : Int32)), .val .null, .unset] []))
  refine gv (fun tQ kQ => XS.aloadN X0.here hx rfl (hb hby d3_0) rfl rfl kQ) ?_
  show G (s₁.setTop (mkF me_ 1 #[.val (.ref a), .val (.ref d), .val (.int (0 : Int32)), .val (.int (2 : Int32)), .val .null, .unset] [(.ref a)]))
  obtain ⟨T473, X473, e473, st473⟩ := initO X0 hx hZ hown (hw _ (List.mem_of_getElem? (i := 15) rfl)) (hw _ (List.mem_of_getElem? (i := 16) rfl)) (hw _ (List.mem_of_getElem? (i := 17) rfl)) e0 (g := (mkF me_ 1 #[.val (.ref a), .val (.ref d), .val (.int (0 : Int32)), .val (.int (2 : Int32)), .val .null, .unset] [(.ref a)])) rfl (by rw [hml]; rfl) rfl (hb hby d3_1) (by decide) (W := 0) (by show 2 * 0 + _ ≤ _; exact Nat.le_of_eq rfl) (by decide)
  refine gv st473 ?_
  show G (T473.setTop (mkF me_ 4 #[.val (.ref a), .val (.ref d), .val (.int (0 : Int32)), .val (.int (2 : Int32)), .val .null, .unset] []))
  refine gv (fun tQ kQ => XS.iloadN X473.here hx rfl (hb hby d3_4) rfl kQ) ?_
  show G (T473.setTop (mkF me_ 5 #[.val (.ref a), .val (.ref d), .val (.int (0 : Int32)), .val (.int (2 : Int32)), .val .null, .unset] [(.int (2 : Int32))]))
  refine gv (fun tQ kQ => XS.ifYes X473.here hx rfl (pc0 := 5) (pc' := 27) rfl (hb hby d3_5) rfl ((if0 _ _).trans (feq (by decide : ¬ ((2 : Int32) = (0 : Int32)))).2) (by decide) (by decide) kQ) ?_
  show G (T473.setTop (mkF me_ 27 #[.val (.ref a), .val (.ref d), .val (.int (0 : Int32)), .val (.int (2 : Int32)), .val .null, .unset] []))
  obtain ⟨T474, X474, e474, st474⟩ := getS2 X473 hx hZ hown (host := "") (Or.inl (hw _ (List.mem_of_getElem? (i := 26) rfl))) Via.refl e473 (u0.ext O0.2) (g := (mkF me_ 27 #[.val (.ref a), .val (.ref d), .val (.int (0 : Int32)), .val (.int (2 : Int32)), .val .null, .unset] [])) rfl (hb hby d3_27)
  refine gv st474 ?_
  show G (T474.setTop (mkF me_ 30 #[.val (.ref a), .val (.ref d), .val (.int (0 : Int32)), .val (.int (2 : Int32)), .val .null, .unset] [(.int cs)]))
  refine gv (fun tQ kQ => XS.ifNo X474.here hx rfl (hb hby d3_30) rfl ((if0 _ _).trans (feq u1).1) kQ) ?_
  show G (T474.setTop (mkF me_ 33 #[.val (.ref a), .val (.ref d), .val (.int (0 : Int32)), .val (.int (2 : Int32)), .val .null, .unset] []))
  refine gv (fun tQ kQ => XS.aloadN X474.here hx rfl (hb hby d3_33) rfl rfl kQ) ?_
  show G (T474.setTop (mkF me_ 34 #[.val (.ref a), .val (.ref d), .val (.int (0 : Int32)), .val (.int (2 : Int32)), .val .null, .unset] [(.ref d)]))
  refine gv (fun tQ kQ => XS.iloadN X474.here hx rfl (hb hby d3_34) rfl kQ) ?_
  show G (T474.setTop (mkF me_ 35 #[.val (.ref a), .val (.ref d), .val (.int (0 : Int32)), .val (.int (2 : Int32)), .val .null, .unset] [(.int (0 : Int32)), (.ref d)]))
  refine gv (fun tQ kQ => XS.iloadN X474.here hx rfl (hb hby d3_35) rfl kQ) ?_
  show G (T474.setTop (mkF me_ 36 #[.val (.ref a), .val (.ref d), .val (.int (0 : Int32)), .val (.int (2 : Int32)), .val .null, .unset] [(.int (2 : Int32)), (.int (0 : Int32)), (.ref d)]))
  obtain ⟨_, _, ⟨T475, L475, k475, n475⟩, -, X475, ⟨Lc475, hQ475, l475, y475, z475⟩, st475⟩ := Jvm.LawKit.callS X474 hx (y := (⟨"java/lang/StringUTF16", "compress", "([CII)[B"⟩ : MethodName)) hown (mvT hZ (hw _ (List.mem_of_getElem? (i := 27) rfl))) (mvT hZ (hw _ (List.mem_of_getElem? (i := 28) rfl))) (mvT hZ (hw _ (List.mem_of_getElem? (i := 29) rfl))) (mvT hZ (hw _ (List.mem_of_getElem? (i := 30) rfl))) (by decide) (backOf (W := 0) (rm_cmpr2 l Z a0 hw [] d kd c0 c1 h0 n0 O0 u2 u3 u8) hZ (hw _ (List.mem_of_getElem? (i := 30) rfl)) (hw _ (List.mem_of_getElem? (i := 29) rfl)) (by decide) (by decide)) (g := (mkF me_ 36 #[.val (.ref a), .val (.ref d), .val (.int (0 : Int32)), .val (.int (2 : Int32)), .val .null, .unset] [(.int (2 : Int32)), (.int (0 : Int32)), (.ref d)])) rfl (by rw [hml]; rfl) (argsL := [(.ref d), (.int (0 : Int32)), (.int (2 : Int32))]) (rest := []) (lenOf pd_16 rfl) rfl (by show 2 * 0 + _ ≤ _; exact Nat.le_of_eq rfl) (hb hby d3_36) (fun _ _ => ⟨rfl, e474, (by decide : 0 + 1 ≤ _), (by decide : 0 + 2 ≤ _)⟩)
  dsimp only [Pt.U, Pt.locs, Pt.cells, Pt.slots] at X475 l475 y475 z475 st475 hQ475
  subst l475 y475 z475
  obtain ⟨b_475, k_475, rfl, Nq475, Kq475, w475_0, w475_1⟩ := hQ475
  have N476 := Fr.app N0 Nq475
  obtain ⟨h475, e475⟩ : ∃ z, T475.heap = z := ⟨_, rfl⟩
  rw [e475] at Kq475 w475_1
  have ne477 : a ≠ b_475 := Nat.ne_of_lt (Nat.lt_of_lt_of_le u4.lt w475_0)
  have ne478 : d ≠ b_475 := Nat.ne_of_lt (Nat.lt_of_lt_of_le u8.lt w475_0)
  have g479 : n0 ≤ b_475 := Nat.le_trans (own_old O0) w475_0
  have z480 : h0.size ≤ b_475 := Nat.le_trans K0.1 w475_0
  have f481 : Exa Z h475 a "java/lang/String" := u4.keep Kq475
  have f482 : Fld Z h475 a "java/lang/String" "value" "[B" .null := u5.keep Kq475 nin0
  have f483 : Fld Z h475 a "java/lang/String" "coder" "B" (.int (0 : Int32)) := u6.keep Kq475 nin0
  have f484 : Arv Z h475 d kd .char (2 : Int32) [(.int c0), (.int c1)] (.int (0 : Int32)) := u8.keep Kq475 nin0
  have O485 := O0.keep Kq475 all0
  have K486 := K0.trans Kq475 all0
  refine gv st475 ?_
  show G (T475.setTop (mkF me_ 39 #[.val (.ref a), .val (.ref d), .val (.int (0 : Int32)), .val (.int (2 : Int32)), .val .null, .unset] [(.ref b_475)]))
  refine gv (fun tQ kQ => XS.astore X475.here hx rfl (hb hby d3_39) rfl rfl (l' := #[.val (.ref a), .val (.ref d), .val (.int (0 : Int32)), .val (.int (2 : Int32)), .val .null, .val (.ref b_475)]) rfl kQ) ?_
  show G (T475.setTop (mkF me_ 41 #[.val (.ref a), .val (.ref d), .val (.int (0 : Int32)), .val (.int (2 : Int32)), .val .null, .val (.ref b_475)] []))
  refine gv (fun tQ kQ => XS.aloadN X475.here hx rfl (hb hby d3_41) rfl rfl kQ) ?_
  show G (T475.setTop (mkF me_ 42 #[.val (.ref a), .val (.ref d), .val (.int (0 : Int32)), .val (.int (2 : Int32)), .val .null, .val (.ref b_475)] [(.ref a)]))
  refine gv (fun tQ kQ => XS.aload X475.here hx rfl (hb hby d3_42) rfl rfl kQ) ?_
  show G (T475.setTop (mkF me_ 44 #[.val (.ref a), .val (.ref d), .val (.int (0 : Int32)), .val (.int (2 : Int32)), .val .null, .val (.ref b_475)] [(.ref b_475), (.ref a)]))
  refine gv (fun tQ kQ => XS.iloadN X475.here hx rfl (hb hby d3_44) rfl kQ) ?_
  show G (T475.setTop (mkF me_ 45 #[.val (.ref a), .val (.ref d), .val (.int (0 : Int32)), .val (.int (2 : Int32)), .val .null, .val (.ref b_475)] [(.int (2 : Int32)), (.ref b_475), (.ref a)]))
  obtain ⟨_, _, ⟨T487, L487, k487, n487⟩, -, X487, ⟨Lc487, hQ487, l487, y487, z487⟩, st487⟩ := Jvm.LawKit.callS X475 hx (y := (⟨"java/lang/StringUTF16", "coderFromArrayLen", "([BI)B"⟩ : MethodName)) hown (mvT hZ (hw _ (List.mem_of_getElem? (i := 34) rfl))) (mvT hZ (hw _ (List.mem_of_getElem? (i := 35) rfl))) (mvT hZ (hw _ (List.mem_of_getElem? (i := 29) rfl))) (mvT hZ (hw _ (List.mem_of_getElem? (i := 36) rfl))) (by decide) (backOf (W := 1) (rm_cfal2 l Z a0 hw [] b_475 k_475 (c0.toInt8.toInt32) (c1.toInt8.toInt32) h475 n0 O485 w475_1) hZ (hw _ (List.mem_of_getElem? (i := 36) rfl)) (hw _ (List.mem_of_getElem? (i := 29) rfl)) (by decide) (by decide)) (g := (mkF me_ 45 #[.val (.ref a), .val (.ref d), .val (.int (0 : Int32)), .val (.int (2 : Int32)), .val .null, .val (.ref b_475)] [(.int (2 : Int32)), (.ref b_475), (.ref a)])) rfl (by rw [hml]; rfl) (argsL := [(.ref b_475), (.int (2 : Int32))]) (rest := [(.ref a)]) (lenOf pd_17 rfl) rfl (by show 2 * 0 + _ ≤ _; exact Nat.le_of_eq rfl) (hb hby d3_45) (fun _ _ => ⟨rfl, e475, (by decide : 1 + 0 ≤ _), (by decide : 2 + 0 ≤ _)⟩)
  dsimp only [Pt.U, Pt.locs, Pt.cells, Pt.slots] at X487 l487 y487 z487 st487 hQ487
  subst l487 y487 z487
  obtain ⟨rfl, Nq487, eq487⟩ := hQ487
  have N488 := Fr.app N476 Nq487
  refine gv st487 ?_
  show G (T487.setTop (mkF me_ 48 #[.val (.ref a), .val (.ref d), .val (.int (0 : Int32)), .val (.int (2 : Int32)), .val .null, .val (.ref b_475)] [(.int (0 : Int32)), (.ref a)]))
  obtain ⟨T489, h489, X489, e489, W489, st489⟩ := putFN X487 hx hZ hown (hw _ (List.mem_of_getElem? (i := 25) rfl)) Via.refl eq487 f483 f481 (Or.inr ⟨(hw _ (List.mem_of_getElem? (i := 21) rfl)), rfl, hnm⟩) (hw _ (List.mem_of_getElem? (i := 2) rfl)) (ty := .byte) (v' := (.int (0 : Int32))) (by decide) rfl rfl (g := (mkF me_ 48 #[.val (.ref a), .val (.ref d), .val (.int (0 : Int32)), .val (.int (2 : Int32)), .val .null, .val (.ref b_475)] [(.int (0 : Int32)), (.ref a)])) rfl rfl (hb hby d3_48)
  refine gv st489 ?_
  have f491 : Exa Z h489 a "java/lang/String" := f481.wr W489
  have f492 : Fld Z h489 a "java/lang/String" "value" "[B" .null := f482.other W489 (Or.inr (slot_ne (Or.inr (hw _ (List.mem_of_getElem? (i := 20) rfl))) (Or.inr (hw _ (List.mem_of_getElem? (i := 21) rfl))) (by decide) (t := (.array .byte)) (t' := .byte) (by decide) (by decide)))
  have f493 : Arv Z h489 d kd .char (2 : Int32) [(.int c0), (.int c1)] (.int (0 : Int32)) := f484.other W489 (Ne.symm u9)
  have f494 : Arv Z h489 b_475 k_475 .byte (2 : Int32) [(.int (c0.toInt8.toInt32)), (.int (c1.toInt8.toInt32))] (.int (0 : Int32)) := w475_1.other W489 (Ne.symm ne477)
  have O495 := O485.wr W489 u7
  have K496 := K486.wr W489 (Or.inl (List.mem_of_getElem? (i := 0) rfl))
  have N497 := Fr.snoc X489 N488 u7
  have f490 : Fld Z h489 a "java/lang/String" "coder" "B" (.int (0 : Int32)) := f483.same W489
  show G (T489.setTop (mkF me_ 51 #[.val (.ref a), .val (.ref d), .val (.int (0 : Int32)), .val (.int (2 : Int32)), .val .null, .val (.ref b_475)] []))
  refine gv (fun tQ kQ => XS.aloadN X489.here hx rfl (hb hby d3_51) rfl rfl kQ) ?_
  show G (T489.setTop (mkF me_ 52 #[.val (.ref a), .val (.ref d), .val (.int (0 : Int32)), .val (.int (2 : Int32)), .val .null, .val (.ref b_475)] [(.ref a)]))
  refine gv (fun tQ kQ => XS.aload X489.here hx rfl (hb hby d3_52) rfl rfl kQ) ?_
  show G (T489.setTop (mkF me_ 54 #[.val (.ref a), .val (.ref d), .val (.int (0 : Int32)), .val (.int (2 : Int32)), .val .null, .val (.ref b_475)] [(.ref b_475), (.ref a)]))
  obtain ⟨T498, h498, X498, e498, W498, st498⟩ := putF X489 hx hZ hown (host := "") (Or.inl (hw _ (List.mem_of_getElem? (i := 24) rfl))) Via.refl e489 f492 f491 (Or.inr ⟨(hw _ (List.mem_of_getElem? (i := 20) rfl)), rfl, hnm⟩) (hw _ (List.mem_of_getElem? (i := 2) rfl)) (ty := (.array .byte)) (by decide) rfl rfl (g := (mkF me_ 54 #[.val (.ref a), .val (.ref d), .val (.int (0 : Int32)), .val (.int (2 : Int32)), .val .null, .val (.ref b_475)] [(.ref b_475), (.ref a)])) rfl rfl (hb hby d3_54)
  refine gv st498 ?_
  have f500 : Exa Z h498 a "java/lang/String" := f491.wr W498
  have f501 : Fld Z h498 a "java/lang/String" "coder" "B" (.int (0 : Int32)) := f490.other W498 (Or.inr (slot_ne (Or.inr (hw _ (List.mem_of_getElem? (i := 21) rfl))) (Or.inr (hw _ (List.mem_of_getElem? (i := 20) rfl))) (by decide) (t := .byte) (t' := (.array .byte)) (by decide) (by decide)))
  have f502 : Arv Z h498 d kd .char (2 : Int32) [(.int c0), (.int c1)] (.int (0 : Int32)) := f493.other W498 (Ne.symm u9)
  have f503 : Arv Z h498 b_475 k_475 .byte (2 : Int32) [(.int (c0.toInt8.toInt32)), (.int (c1.toInt8.toInt32))] (.int (0 : Int32)) := f494.other W498 (Ne.symm ne477)
  have O504 := O495.wr W498 u7
  have K505 := K496.wr W498 (Or.inl (List.mem_of_getElem? (i := 0) rfl))
  have N506 := Fr.snoc X498 N497 u7
  have f499 : Fld Z h498 a "java/lang/String" "value" "[B" (.ref b_475) := f492.same W498
  show G (T498.setTop (mkF me_ 57 #[.val (.ref a), .val (.ref d), .val (.int (0 : Int32)), .val (.int (2 : Int32)), .val .null, .val (.ref b_475)] []))
  refine gf _ (own_ret X498 Bd.notSynchronized (v := none) (fun _ => rfl) ?_ (by decide) (by decide) (fun fs hr => X498.returnOut hx Bd.returns (hb hby d3_57) hr))
  show Q_sci2 Z a d kd c0 c1 cs h0 n0 _ T498.heap _
  rw [e498]
  exact ⟨b_475, k_475, rfl, N506, K505, z480, f500, f501, f499, f503⟩
def Q_sc2 (Z : State) (a : Addr) (d : Addr) (kd : ClassId) (c0 : Int32) (c1 : Int32) (cs : Int32) (h0 : Heap) (n0 : Nat) (v : Option Value) (h : Heap) (L : List Loc) : Prop := ∃ (b : Addr), ∃ (k : ClassId), v = none ∧ Fr n0 L ∧ Keep h0 h [a] ∧ h0.size ≤ b ∧ (Exa Z h a "java/lang/String") ∧ (Fld Z h a "java/lang/String" "coder" "B" (.int (0 : Int32))) ∧ (Fld Z h a "java/lang/String" "value" "[B" (.ref b)) ∧ (Arv Z h b k .byte (2 : Int32) [(.int (c0.toInt8.toInt32)), (.int (c1.toInt8.toInt32))] (.int (0 : Int32)))
set_option maxRecDepth 65536 in
set_option maxHeartbeats 40000000 in
theorem rm_sc2 (l : Launch) (Z : State) (a0 : Array Value) (hw : ∀ d ∈ tables_1, d.before a0 Z = true) (ws : List Jvm.Cond) (a : Addr) (d : Addr) (kd : ClassId) (c0 : Int32) (c1 : Int32) (cs : Int32) (h0 : Heap) (n0 : Nat) (O0 : Old Z n0 h0) (u0 : Sta Z Z.heap "java/lang/String" "COMPACT_STRINGS" "Z" (.int cs)) (u1 : ¬ (cs = (0 : Int32))) (u2 : ¬ ((255 : Int32) < c0)) (u3 : ¬ ((255 : Int32) < c1)) (u4 : Exa Z h0 a "java/lang/String") (u5 : Fld Z h0 a "java/lang/String" "value" "[B" .null) (u6 : Fld Z h0 a "java/lang/String" "coder" "B" (.int (0 : Int32))) (u7 : n0 ≤ a) (u8 : Arv Z h0 d kd .char (2 : Int32) [(.int c0), (.int c1)] (.int (0 : Int32))) (u9 : a ≠ d) :
    MetFree l (⟨"java/lang/String", "<init>", "([C)V"⟩ : MethodName) (head1 (Jvm.Cond.code (⟨"java/lang/String", "<init>", "([C)V"⟩ : MethodName) jdk_42_method_3_code 2 none :: ws) ({ frames := 3, cells := 1, slots := 2, locals := 52 } : Room)) (fun aV U => aV = #[(.ref a), (.ref d)] ∧ Z.Warmed39 U.vm ∧ U.heap = h0) (fun _ _ _ _ _ => True) (fun _ U o U' => ∃ v L, o = .returned v ∧ Q_sc2 Z a d kd c0 c1 cs h0 n0 v U'.heap L ∧ FrameEnd U o U' L ({ frames := 3, cells := 1, slots := 2, locals := 52 } : Room).cells ({ frames := 3, cells := 1, slots := 2, locals := 52 } : Room).slots) := by
  refine MetFree.of_bodySF (plainFor_of_name pn_0) hisR ?_
  intro pr_ en_ st_ me_ args below meth_ co_ s₁ Bd hml0 hP hK
  obtain ⟨rfl, hZ, hh⟩ := hP
  have hx := Bd.exec
  have hby := Bd.bytes
  have hml : co_.maxLocals = 2 := hml0
  have hown : st_.vm.findClass "java/lang/String" = some me_.cls := findClass_of_methodNamed Bd.named
  have hnm := (name_of_methodNamed Bd.named Bd.method).1
  have X0 : Stand pr_ l en_ ({ frames := 3, cells := 1, slots := 2, locals := 52 } : Room) st_ me_ #[(.ref a), (.ref d)] below meth_ co_ s₁ [] 0 0 := Stand.of_body Bd
  have e0 : s₁.heap = h0 := by rw [← hh, Bd.state]; rfl
  have N0 := Fr.nil n0
  have K0 := Keep.refl h0 [a]
  obtain ⟨G, gv, gf, gb⟩ := own_G pr_.tables en_ below st_ (Q_sc2 Z a d kd c0 c1 cs h0 n0) ({ frames := 3, cells := 1, slots := 2, locals := 52 } : Room).cells ({ frames := 3, cells := 1, slots := 2, locals := 52 } : Room).slots
  show own_Fin pr_.tables en_ below st_ (Q_sc2 Z a d kd c0 c1 cs h0 n0) ({ frames := 3, cells := 1, slots := 2, locals := 52 } : Room).cells ({ frames := 3, cells := 1, slots := 2, locals := 52 } : Room).slots (s₁.setTop (entryFrame me_ #[(.ref a), (.ref d)] 2))
  refine gb _ (gv (fun tQ kQ => castTop (ef_2 me_ a d) kQ) ?_)
  show G (s₁.setTop (mkF me_ 0 #[.val (.ref a), .val (.ref d)] []))
  refine gv (fun tQ kQ => XS.aloadN X0.here hx rfl (hb hby d2_0) rfl rfl kQ) ?_
  show G (s₁.setTop (mkF me_ 1 #[.val (.ref a), .val (.ref d)] [(.ref a)]))
  refine gv (fun tQ kQ => XS.aloadN X0.here hx rfl (hb hby d2_1) rfl rfl kQ) ?_
  show G (s₁.setTop (mkF me_ 2 #[.val (.ref a), .val (.ref d)] [(.ref d), (.ref a)]))
  refine gv (fun tQ kQ => XS.iconst X0.here hx rfl (hb hby d2_2) kQ) ?_
  show G (s₁.setTop (mkF me_ 3 #[.val (.ref a), .val (.ref d)] [(.int (0 : Int32)), (.ref d), (.ref a)]))
  refine gv (fun tQ kQ => XS.aloadN X0.here hx rfl (hb hby d2_3) rfl rfl kQ) ?_
  show G (s₁.setTop (mkF me_ 4 #[.val (.ref a), .val (.ref d)] [(.ref d), (.int (0 : Int32)), (.ref d), (.ref a)]))
  obtain ⟨cl507, Ar507, -, S507, n507, -, -⟩ := (id u8)
  refine gv (X0.arraylength hx (by rw [e0]; exact Ar507.1) (State.isArrayOf_alike hZ.alike Ar507.2.1) (g := (mkF me_ 4 #[.val (.ref a), .val (.ref d)] [(.ref d), (.int (0 : Int32)), (.ref d), (.ref a)])) rfl rfl (hb hby d2_4)) ?_
  rw [len_of S507 n507]
  show G (s₁.setTop (mkF me_ 5 #[.val (.ref a), .val (.ref d)] [(.int (2 : Int32)), (.int (0 : Int32)), (.ref d), (.ref a)]))
  refine gv (fun tQ kQ => XS.aconstNull X0.here hx rfl (hb hby d2_5) kQ) ?_
  show G (s₁.setTop (mkF me_ 6 #[.val (.ref a), .val (.ref d)] [.null, (.int (2 : Int32)), (.int (0 : Int32)), (.ref d), (.ref a)]))
  obtain ⟨_, _, ⟨T508, L508, k508, n508⟩, -, X508, ⟨Lc508, hQ508, l508, y508, z508⟩, st508⟩ := X0.specialBack hx (y := (⟨"java/lang/String", "<init>", "([CIILjava/lang/Void;)V"⟩ : MethodName)) rfl hown (mvT hZ (hw _ (List.mem_of_getElem? (i := 11) rfl))) (mvT hZ (hw _ (List.mem_of_getElem? (i := 12) rfl))) (mvT hZ (hw _ (List.mem_of_getElem? (i := 14) rfl))) (by decide) (backOf (W := 0) (rm_sci2 l Z a0 hw [] a d kd c0 c1 cs h0 n0 O0 u0 u1 u2 u3 u4 u5 u6 u7 u8 u9) hZ (hw _ (List.mem_of_getElem? (i := 14) rfl)) (hw _ (List.mem_of_getElem? (i := 3) rfl)) (by decide) (by decide)) (g := (mkF me_ 6 #[.val (.ref a), .val (.ref d)] [.null, (.int (2 : Int32)), (.int (0 : Int32)), (.ref d), (.ref a)])) rfl (by rw [hml]; rfl) (Steps.refl _) (a := a) (argsL := [(.ref d), (.int (0 : Int32)), (.int (2 : Int32)), .null]) (rest := []) (lenOf pd_14 rfl) rfl (by show 2 * 0 + _ ≤ _; exact Nat.le_of_eq rfl) (hb hby d2_6) (fun _ _ => ⟨rfl, e0, (by decide : 0 + 1 ≤ _), (by decide : 0 + 2 ≤ _)⟩)
  dsimp only [Pt.U, Pt.locs, Pt.cells, Pt.slots] at X508 l508 y508 z508 st508 hQ508
  subst l508 y508 z508
  obtain ⟨b_508, k_508, rfl, Nq508, Kq508, w508_0, w508_1, w508_2, w508_3, w508_4⟩ := hQ508
  have N509 := Fr.app N0 Nq508
  obtain ⟨h508, e508⟩ : ∃ z, T508.heap = z := ⟨_, rfl⟩
  rw [e508] at Kq508 w508_1 w508_2 w508_3 w508_4
  have ne510 : a ≠ b_508 := Nat.ne_of_lt (Nat.lt_of_lt_of_le u4.lt w508_0)
  have ne511 : d ≠ b_508 := Nat.ne_of_lt (Nat.lt_of_lt_of_le u8.lt w508_0)
  have g512 : n0 ≤ b_508 := Nat.le_trans (own_old O0) w508_0
  have z513 : h0.size ≤ b_508 := Nat.le_trans K0.1 w508_0
  have f514 : Exa Z h508 a "java/lang/String" := u4.keep Kq508
  have f515 : Arv Z h508 d kd .char (2 : Int32) [(.int c0), (.int c1)] (.int (0 : Int32)) := u8.keep Kq508 (ninS (Ne.symm u9) nin0)
  have O516 := O0.keep Kq508 (allS u7 all0)
  have K517 := K0.trans Kq508 (allS (Or.inl (List.mem_of_getElem? (i := 0) rfl)) all0)
  refine gv (fun tQ kQ => st508.trans kQ) ?_
  show G (T508.setTop (mkF me_ 9 #[.val (.ref a), .val (.ref d)] []))
  refine gf _ (own_ret X508 Bd.notSynchronized (v := none) (fun _ => rfl) ?_ (by decide) (by decide) (fun fs hr => X508.returnOut hx Bd.returns (hb hby d2_9) hr))
  show Q_sc2 Z a d kd c0 c1 cs h0 n0 _ T508.heap _
  rw [e508]
  exact ⟨b_508, k_508, rfl, N509, K517, z513, w508_1, w508_2, w508_3, w508_4⟩
def Q_cmp3 (Z : State) (d : Addr) (kd : ClassId) (b : Addr) (k : ClassId) (c0 : Int32) (c1 : Int32) (c2 : Int32) (h0 : Heap) (n0 : Nat) (v : Option Value) (h : Heap) (L : List Loc) : Prop := v = some (.int (3 : Int32)) ∧ Fr n0 L ∧ Keep h0 h [b] ∧ (Arv Z h b k .byte (3 : Int32) [(.int (c0.toInt8.toInt32)), (.int (c1.toInt8.toInt32)), (.int (c2.toInt8.toInt32))] (.int (0 : Int32)))
set_option maxRecDepth 65536 in
set_option maxHeartbeats 40000000 in
theorem rm_cmp3 (l : Launch) (Z : State) (a0 : Array Value) (hw : ∀ d ∈ tables_1, d.before a0 Z = true) (ws : List Jvm.Cond) (d : Addr) (kd : ClassId) (b : Addr) (k : ClassId) (c0 : Int32) (c1 : Int32) (c2 : Int32) (h0 : Heap) (n0 : Nat) (O0 : Old Z n0 h0) (u0 : ¬ ((255 : Int32) < c0)) (u1 : ¬ ((255 : Int32) < c1)) (u2 : ¬ ((255 : Int32) < c2)) (u3 : Arv Z h0 d kd .char (3 : Int32) [(.int c0), (.int c1), (.int c2)] (.int (0 : Int32))) (u4 : Arv Z h0 b k .byte (3 : Int32) [(.int (0 : Int32)), (.int (0 : Int32)), (.int (0 : Int32))] (.int (0 : Int32))) (u5 : n0 ≤ b) (u6 : d ≠ b) :
    MetFree l (⟨"java/lang/StringUTF16", "compress", "([CI[BII)I"⟩ : MethodName) (head1 (Jvm.Cond.code (⟨"java/lang/StringUTF16", "compress", "([CI[BII)I"⟩ : MethodName) jdk_52_method_21_code 7 (some .int) :: ws) ({ frames := 0, cells := 0, slots := 0, locals := 0 } : Room)) (fun aV U => aV = #[(.ref d), (.int (0 : Int32)), (.ref b), (.int (0 : Int32)), (.int (3 : Int32))] ∧ Z.Warmed39 U.vm ∧ U.heap = h0) (fun _ _ _ _ _ => True) (fun _ U o U' => ∃ v L, o = .returned v ∧ Q_cmp3 Z d kd b k c0 c1 c2 h0 n0 v U'.heap L ∧ FrameEnd U o U' L ({ frames := 0, cells := 0, slots := 0, locals := 0 } : Room).cells ({ frames := 0, cells := 0, slots := 0, locals := 0 } : Room).slots) := by
  refine MetFree.of_bodySF (plainFor_of_name pn_5) hisR ?_
  intro pr_ en_ st_ me_ args below meth_ co_ s₁ Bd hml0 hP hK
  obtain ⟨rfl, hZ, hh⟩ := hP
  have hx := Bd.exec
  have hby := Bd.bytes
  have hml : co_.maxLocals = 7 := hml0
  have hown : st_.vm.findClass "java/lang/StringUTF16" = some me_.cls := findClass_of_methodNamed Bd.named
  have hnm := (name_of_methodNamed Bd.named Bd.method).1
  have X0 : Stand pr_ l en_ ({ frames := 0, cells := 0, slots := 0, locals := 0 } : Room) st_ me_ #[(.ref d), (.int (0 : Int32)), (.ref b), (.int (0 : Int32)), (.int (3 : Int32))] below meth_ co_ s₁ [] 0 0 := Stand.of_body Bd
  have e0 : s₁.heap = h0 := by rw [← hh, Bd.state]; rfl
  have N0 := Fr.nil n0
  have K0 := Keep.refl h0 [b]
  obtain ⟨G, gv, gf, gb⟩ := own_G pr_.tables en_ below st_ (Q_cmp3 Z d kd b k c0 c1 c2 h0 n0) ({ frames := 0, cells := 0, slots := 0, locals := 0 } : Room).cells ({ frames := 0, cells := 0, slots := 0, locals := 0 } : Room).slots
  show own_Fin pr_.tables en_ below st_ (Q_cmp3 Z d kd b k c0 c1 c2 h0 n0) ({ frames := 0, cells := 0, slots := 0, locals := 0 } : Room).cells ({ frames := 0, cells := 0, slots := 0, locals := 0 } : Room).slots (s₁.setTop (entryFrame me_ #[(.ref d), (.int (0 : Int32)), (.ref b), (.int (0 : Int32)), (.int (3 : Int32))] 7))
  refine gb _ (gv (fun tQ kQ => castTop (ef_12 me_ d (0 : Int32) b (0 : Int32) (3 : Int32)) kQ) ?_)
  show G (s₁.setTop (mkF me_ 0 #[.val (.ref d), .val (.int (0 : Int32)), .val (.ref b), .val (.int (0 : Int32)), .val (.int (3 : Int32)), .unset, .unset] []))
  refine gv (fun tQ kQ => XS.iconst X0.here hx rfl (hb hby d6_0) kQ) ?_
  show G (s₁.setTop (mkF me_ 1 #[.val (.ref d), .val (.int (0 : Int32)), .val (.ref b), .val (.int (0 : Int32)), .val (.int (3 : Int32)), .unset, .unset] [(.int (0 : Int32))]))
  refine gv (fun tQ kQ => XS.istore X0.here hx rfl (hb hby d6_1) rfl (l' := #[.val (.ref d), .val (.int (0 : Int32)), .val (.ref b), .val (.int (0 : Int32)), .val (.int (3 : Int32)), .val (.int (0 : Int32)), .unset]) rfl kQ) ?_
  show G (s₁.setTop (mkF me_ 3 #[.val (.ref d), .val (.int (0 : Int32)), .val (.ref b), .val (.int (0 : Int32)), .val (.int (3 : Int32)), .val (.int (0 : Int32)), .unset] []))
  refine gv (fun tQ kQ => XS.iload X0.here hx rfl (hb hby d6_3) rfl kQ) ?_
  show G (s₁.setTop (mkF me_ 5 #[.val (.ref d), .val (.int (0 : Int32)), .val (.ref b), .val (.int (0 : Int32)), .val (.int (3 : Int32)), .val (.int (0 : Int32)), .unset] [(.int (0 : Int32))]))
  refine gv (fun tQ kQ => XS.iload X0.here hx rfl (hb hby d6_5) rfl kQ) ?_
  show G (s₁.setTop (mkF me_ 7 #[.val (.ref d), .val (.int (0 : Int32)), .val (.ref b), .val (.int (0 : Int32)), .val (.int (3 : Int32)), .val (.int (0 : Int32)), .unset] [(.int (3 : Int32)), (.int (0 : Int32))]))
  refine gv (fun tQ kQ => XS.icmpNo X0.here hx rfl (hb hby d6_7) rfl (tlt (by decide : (0 : Int32) < (3 : Int32))).2.1 kQ) ?_
  show G (s₁.setTop (mkF me_ 10 #[.val (.ref d), .val (.int (0 : Int32)), .val (.ref b), .val (.int (0 : Int32)), .val (.int (3 : Int32)), .val (.int (0 : Int32)), .unset] []))
  refine gv (fun tQ kQ => XS.aloadN X0.here hx rfl (hb hby d6_10) rfl rfl kQ) ?_
  show G (s₁.setTop (mkF me_ 11 #[.val (.ref d), .val (.int (0 : Int32)), .val (.ref b), .val (.int (0 : Int32)), .val (.int (3 : Int32)), .val (.int (0 : Int32)), .unset] [(.ref d)]))
  refine gv (fun tQ kQ => XS.iloadN X0.here hx rfl (hb hby d6_11) rfl kQ) ?_
  show G (s₁.setTop (mkF me_ 12 #[.val (.ref d), .val (.int (0 : Int32)), .val (.ref b), .val (.int (0 : Int32)), .val (.int (3 : Int32)), .val (.int (0 : Int32)), .unset] [(.int (0 : Int32)), (.ref d)]))
  obtain ⟨cl518, Ar518, q518, S518, n518, H518, G518⟩ := (id u3)
  have in518 : ¬ ((0 : Int32) < 0 ∨ cl518.slots.size ≤ ((0 : Int32)).toNatClampNeg) := inb_of S518 ⟨by decide, by decide⟩
  refine gv (X0.caload hx (j := (0 : Int32)) (v := (.int c0)) (by rw [e0]; exact Ar518.1) (State.isArrayOf_alike hZ.alike Ar518.2.1) Ar518.2.2 in518 (Has.at H518 in518 rfl) (g := (mkF me_ 12 #[.val (.ref d), .val (.int (0 : Int32)), .val (.ref b), .val (.int (0 : Int32)), .val (.int (3 : Int32)), .val (.int (0 : Int32)), .unset] [(.int (0 : Int32)), (.ref d)])) rfl rfl (hb hby d6_12)) ?_
  show G (s₁.setTop (mkF me_ 13 #[.val (.ref d), .val (.int (0 : Int32)), .val (.ref b), .val (.int (0 : Int32)), .val (.int (3 : Int32)), .val (.int (0 : Int32)), .unset] [(.int c0)]))
  refine gv (fun tQ kQ => XS.istore X0.here hx rfl (hb hby d6_13) rfl (l' := #[.val (.ref d), .val (.int (0 : Int32)), .val (.ref b), .val (.int (0 : Int32)), .val (.int (3 : Int32)), .val (.int (0 : Int32)), .val (.int c0)]) rfl kQ) ?_
  show G (s₁.setTop (mkF me_ 15 #[.val (.ref d), .val (.int (0 : Int32)), .val (.ref b), .val (.int (0 : Int32)), .val (.int (3 : Int32)), .val (.int (0 : Int32)), .val (.int c0)] []))
  refine gv (fun tQ kQ => XS.iload X0.here hx rfl (hb hby d6_15) rfl kQ) ?_
  show G (s₁.setTop (mkF me_ 17 #[.val (.ref d), .val (.int (0 : Int32)), .val (.ref b), .val (.int (0 : Int32)), .val (.int (3 : Int32)), .val (.int (0 : Int32)), .val (.int c0)] [(.int c0)]))
  refine gv (fun tQ kQ => XS.sipush X0.here hx rfl (hb hby d6_17) kQ) ?_
  show G (s₁.setTop (mkF me_ 20 #[.val (.ref d), .val (.int (0 : Int32)), .val (.ref b), .val (.int (0 : Int32)), .val (.int (3 : Int32)), .val (.int (0 : Int32)), .val (.int c0)] [(.int (255 : Int32)), (.int c0)]))
  refine gv (fun tQ kQ => XS.icmpYes X0.here hx rfl (pc0 := 20) (pc' := 26) rfl (hb hby d6_20) rfl (flt u0).2.2.2 (by decide) (by decide) kQ) ?_
  show G (s₁.setTop (mkF me_ 26 #[.val (.ref d), .val (.int (0 : Int32)), .val (.ref b), .val (.int (0 : Int32)), .val (.int (3 : Int32)), .val (.int (0 : Int32)), .val (.int c0)] []))
  refine gv (fun tQ kQ => XS.aloadN X0.here hx rfl (hb hby d6_26) rfl rfl kQ) ?_
  show G (s₁.setTop (mkF me_ 27 #[.val (.ref d), .val (.int (0 : Int32)), .val (.ref b), .val (.int (0 : Int32)), .val (.int (3 : Int32)), .val (.int (0 : Int32)), .val (.int c0)] [(.ref b)]))
  refine gv (fun tQ kQ => XS.iloadN X0.here hx rfl (hb hby d6_27) rfl kQ) ?_
  show G (s₁.setTop (mkF me_ 28 #[.val (.ref d), .val (.int (0 : Int32)), .val (.ref b), .val (.int (0 : Int32)), .val (.int (3 : Int32)), .val (.int (0 : Int32)), .val (.int c0)] [(.int (0 : Int32)), (.ref b)]))
  refine gv (fun tQ kQ => XS.iload X0.here hx rfl (hb hby d6_28) rfl kQ) ?_
  show G (s₁.setTop (mkF me_ 30 #[.val (.ref d), .val (.int (0 : Int32)), .val (.ref b), .val (.int (0 : Int32)), .val (.int (3 : Int32)), .val (.int (0 : Int32)), .val (.int c0)] [(.int c0), (.int (0 : Int32)), (.ref b)]))
  refine gv (fun tQ kQ => XS.i2b X0.here hx rfl (hb hby d6_30) rfl kQ) ?_
  show G (s₁.setTop (mkF me_ 31 #[.val (.ref d), .val (.int (0 : Int32)), .val (.ref b), .val (.int (0 : Int32)), .val (.int (3 : Int32)), .val (.int (0 : Int32)), .val (.int c0)] [(.int (c0.toInt8.toInt32)), (.int (0 : Int32)), (.ref b)]))
  obtain ⟨cl519, Ar519, q519, S519, n519, H519, G519⟩ := (id u4)
  have in519 : ¬ ((0 : Int32) < 0 ∨ cl519.slots.size ≤ ((0 : Int32)).toNatClampNeg) := inb_of S519 ⟨by decide, by decide⟩
  obtain ⟨T519, h519, X519, e519, W519, st519⟩ := stB X0 hx hZ e0 Ar519 (j := (0 : Int32)) in519 (g := (mkF me_ 31 #[.val (.ref d), .val (.int (0 : Int32)), .val (.ref b), .val (.int (0 : Int32)), .val (.int (3 : Int32)), .val (.int (0 : Int32)), .val (.int c0)] [(.int (c0.toInt8.toInt32)), (.int (0 : Int32)), (.ref b)])) rfl rfl (hb hby d6_31)
  have W519 : Wr h0 h519 b ((0 : Int32)).toNatClampNeg (.int (c0.toInt8.toInt32)) := by have z := W519; rw [(own_narB _)] at z; exact z
  refine gv st519 ?_
  have f521 : Arv Z h519 d kd .char (3 : Int32) [(.int c0), (.int c1), (.int c2)] (.int (0 : Int32)) := u3.other W519 u6
  have O522 := O0.wr W519 u5
  have K523 := K0.wr W519 (Or.inl (List.mem_of_getElem? (i := 0) rfl))
  have N524 := Fr.snoc X519 N0 u5
  have f520 : Arv Z h519 b k .byte (3 : Int32) [(.int (c0.toInt8.toInt32)), (.int (0 : Int32)), (.int (0 : Int32))] (.int (0 : Int32)) := Arv.set Ar519 q519 S519 n519 H519 G519 (fits_nar_byte _) W519 0 rfl (Nat.le_of_ble_eq_true rfl)
  show G (T519.setTop (mkF me_ 32 #[.val (.ref d), .val (.int (0 : Int32)), .val (.ref b), .val (.int (0 : Int32)), .val (.int (3 : Int32)), .val (.int (0 : Int32)), .val (.int c0)] []))
  refine gv (fun tQ kQ => XS.iinc X519.here hx rfl (hb hby d6_32) rfl (l' := #[.val (.ref d), .val (.int ((0 : Int32) + (1 : Int32))), .val (.ref b), .val (.int (0 : Int32)), .val (.int (3 : Int32)), .val (.int (0 : Int32)), .val (.int c0)]) rfl kQ) ?_
  show G (T519.setTop (mkF me_ 35 #[.val (.ref d), .val (.int ((0 : Int32) + (1 : Int32))), .val (.ref b), .val (.int (0 : Int32)), .val (.int (3 : Int32)), .val (.int (0 : Int32)), .val (.int c0)] []))
  rw [(by decide : ((0 : Int32) + (1 : Int32)) = (1 : Int32))]
  show G (T519.setTop (mkF me_ 35 #[.val (.ref d), .val (.int (1 : Int32)), .val (.ref b), .val (.int (0 : Int32)), .val (.int (3 : Int32)), .val (.int (0 : Int32)), .val (.int c0)] []))
  refine gv (fun tQ kQ => XS.iinc X519.here hx rfl (hb hby d6_35) rfl (l' := #[.val (.ref d), .val (.int (1 : Int32)), .val (.ref b), .val (.int ((0 : Int32) + (1 : Int32))), .val (.int (3 : Int32)), .val (.int (0 : Int32)), .val (.int c0)]) rfl kQ) ?_
  show G (T519.setTop (mkF me_ 38 #[.val (.ref d), .val (.int (1 : Int32)), .val (.ref b), .val (.int ((0 : Int32) + (1 : Int32))), .val (.int (3 : Int32)), .val (.int (0 : Int32)), .val (.int c0)] []))
  rw [(by decide : ((0 : Int32) + (1 : Int32)) = (1 : Int32))]
  show G (T519.setTop (mkF me_ 38 #[.val (.ref d), .val (.int (1 : Int32)), .val (.ref b), .val (.int (1 : Int32)), .val (.int (3 : Int32)), .val (.int (0 : Int32)), .val (.int c0)] []))
  refine gv (fun tQ kQ => XS.iinc X519.here hx rfl (hb hby d6_38) rfl (l' := #[.val (.ref d), .val (.int (1 : Int32)), .val (.ref b), .val (.int (1 : Int32)), .val (.int (3 : Int32)), .val (.int ((0 : Int32) + (1 : Int32))), .val (.int c0)]) rfl kQ) ?_
  show G (T519.setTop (mkF me_ 41 #[.val (.ref d), .val (.int (1 : Int32)), .val (.ref b), .val (.int (1 : Int32)), .val (.int (3 : Int32)), .val (.int ((0 : Int32) + (1 : Int32))), .val (.int c0)] []))
  rw [(by decide : ((0 : Int32) + (1 : Int32)) = (1 : Int32))]
  show G (T519.setTop (mkF me_ 41 #[.val (.ref d), .val (.int (1 : Int32)), .val (.ref b), .val (.int (1 : Int32)), .val (.int (3 : Int32)), .val (.int (1 : Int32)), .val (.int c0)] []))
  refine gv (fun tQ kQ => XS.goto X519.here hx rfl (pc0 := 41) (pc' := 3) rfl (hb hby d6_41) (by decide) (by decide) kQ) ?_
  show G (T519.setTop (mkF me_ 3 #[.val (.ref d), .val (.int (1 : Int32)), .val (.ref b), .val (.int (1 : Int32)), .val (.int (3 : Int32)), .val (.int (1 : Int32)), .val (.int c0)] []))
  refine gv (fun tQ kQ => XS.iload X519.here hx rfl (hb hby d6_3) rfl kQ) ?_
  show G (T519.setTop (mkF me_ 5 #[.val (.ref d), .val (.int (1 : Int32)), .val (.ref b), .val (.int (1 : Int32)), .val (.int (3 : Int32)), .val (.int (1 : Int32)), .val (.int c0)] [(.int (1 : Int32))]))
  refine gv (fun tQ kQ => XS.iload X519.here hx rfl (hb hby d6_5) rfl kQ) ?_
  show G (T519.setTop (mkF me_ 7 #[.val (.ref d), .val (.int (1 : Int32)), .val (.ref b), .val (.int (1 : Int32)), .val (.int (3 : Int32)), .val (.int (1 : Int32)), .val (.int c0)] [(.int (3 : Int32)), (.int (1 : Int32))]))
  refine gv (fun tQ kQ => XS.icmpNo X519.here hx rfl (hb hby d6_7) rfl (tlt (by decide : (1 : Int32) < (3 : Int32))).2.1 kQ) ?_
  show G (T519.setTop (mkF me_ 10 #[.val (.ref d), .val (.int (1 : Int32)), .val (.ref b), .val (.int (1 : Int32)), .val (.int (3 : Int32)), .val (.int (1 : Int32)), .val (.int c0)] []))
  refine gv (fun tQ kQ => XS.aloadN X519.here hx rfl (hb hby d6_10) rfl rfl kQ) ?_
  show G (T519.setTop (mkF me_ 11 #[.val (.ref d), .val (.int (1 : Int32)), .val (.ref b), .val (.int (1 : Int32)), .val (.int (3 : Int32)), .val (.int (1 : Int32)), .val (.int c0)] [(.ref d)]))
  refine gv (fun tQ kQ => XS.iloadN X519.here hx rfl (hb hby d6_11) rfl kQ) ?_
  show G (T519.setTop (mkF me_ 12 #[.val (.ref d), .val (.int (1 : Int32)), .val (.ref b), .val (.int (1 : Int32)), .val (.int (3 : Int32)), .val (.int (1 : Int32)), .val (.int c0)] [(.int (1 : Int32)), (.ref d)]))
  obtain ⟨cl525, Ar525, q525, S525, n525, H525, G525⟩ := (id f521)
  have in525 : ¬ ((1 : Int32) < 0 ∨ cl525.slots.size ≤ ((1 : Int32)).toNatClampNeg) := inb_of S525 ⟨by decide, by decide⟩
  refine gv (X519.caload hx (j := (1 : Int32)) (v := (.int c1)) (by rw [e519]; exact Ar525.1) (State.isArrayOf_alike hZ.alike Ar525.2.1) Ar525.2.2 in525 (Has.at H525 in525 rfl) (g := (mkF me_ 12 #[.val (.ref d), .val (.int (1 : Int32)), .val (.ref b), .val (.int (1 : Int32)), .val (.int (3 : Int32)), .val (.int (1 : Int32)), .val (.int c0)] [(.int (1 : Int32)), (.ref d)])) rfl rfl (hb hby d6_12)) ?_
  show G (T519.setTop (mkF me_ 13 #[.val (.ref d), .val (.int (1 : Int32)), .val (.ref b), .val (.int (1 : Int32)), .val (.int (3 : Int32)), .val (.int (1 : Int32)), .val (.int c0)] [(.int c1)]))
  refine gv (fun tQ kQ => XS.istore X519.here hx rfl (hb hby d6_13) rfl (l' := #[.val (.ref d), .val (.int (1 : Int32)), .val (.ref b), .val (.int (1 : Int32)), .val (.int (3 : Int32)), .val (.int (1 : Int32)), .val (.int c1)]) rfl kQ) ?_
  show G (T519.setTop (mkF me_ 15 #[.val (.ref d), .val (.int (1 : Int32)), .val (.ref b), .val (.int (1 : Int32)), .val (.int (3 : Int32)), .val (.int (1 : Int32)), .val (.int c1)] []))
  refine gv (fun tQ kQ => XS.iload X519.here hx rfl (hb hby d6_15) rfl kQ) ?_
  show G (T519.setTop (mkF me_ 17 #[.val (.ref d), .val (.int (1 : Int32)), .val (.ref b), .val (.int (1 : Int32)), .val (.int (3 : Int32)), .val (.int (1 : Int32)), .val (.int c1)] [(.int c1)]))
  refine gv (fun tQ kQ => XS.sipush X519.here hx rfl (hb hby d6_17) kQ) ?_
  show G (T519.setTop (mkF me_ 20 #[.val (.ref d), .val (.int (1 : Int32)), .val (.ref b), .val (.int (1 : Int32)), .val (.int (3 : Int32)), .val (.int (1 : Int32)), .val (.int c1)] [(.int (255 : Int32)), (.int c1)]))
  refine gv (fun tQ kQ => XS.icmpYes X519.here hx rfl (pc0 := 20) (pc' := 26) rfl (hb hby d6_20) rfl (flt u1).2.2.2 (by decide) (by decide) kQ) ?_
  show G (T519.setTop (mkF me_ 26 #[.val (.ref d), .val (.int (1 : Int32)), .val (.ref b), .val (.int (1 : Int32)), .val (.int (3 : Int32)), .val (.int (1 : Int32)), .val (.int c1)] []))
  refine gv (fun tQ kQ => XS.aloadN X519.here hx rfl (hb hby d6_26) rfl rfl kQ) ?_
  show G (T519.setTop (mkF me_ 27 #[.val (.ref d), .val (.int (1 : Int32)), .val (.ref b), .val (.int (1 : Int32)), .val (.int (3 : Int32)), .val (.int (1 : Int32)), .val (.int c1)] [(.ref b)]))
  refine gv (fun tQ kQ => XS.iloadN X519.here hx rfl (hb hby d6_27) rfl kQ) ?_
  show G (T519.setTop (mkF me_ 28 #[.val (.ref d), .val (.int (1 : Int32)), .val (.ref b), .val (.int (1 : Int32)), .val (.int (3 : Int32)), .val (.int (1 : Int32)), .val (.int c1)] [(.int (1 : Int32)), (.ref b)]))
  refine gv (fun tQ kQ => XS.iload X519.here hx rfl (hb hby d6_28) rfl kQ) ?_
  show G (T519.setTop (mkF me_ 30 #[.val (.ref d), .val (.int (1 : Int32)), .val (.ref b), .val (.int (1 : Int32)), .val (.int (3 : Int32)), .val (.int (1 : Int32)), .val (.int c1)] [(.int c1), (.int (1 : Int32)), (.ref b)]))
  refine gv (fun tQ kQ => XS.i2b X519.here hx rfl (hb hby d6_30) rfl kQ) ?_
  show G (T519.setTop (mkF me_ 31 #[.val (.ref d), .val (.int (1 : Int32)), .val (.ref b), .val (.int (1 : Int32)), .val (.int (3 : Int32)), .val (.int (1 : Int32)), .val (.int c1)] [(.int (c1.toInt8.toInt32)), (.int (1 : Int32)), (.ref b)]))
  obtain ⟨cl526, Ar526, q526, S526, n526, H526, G526⟩ := (id f520)
  have in526 : ¬ ((1 : Int32) < 0 ∨ cl526.slots.size ≤ ((1 : Int32)).toNatClampNeg) := inb_of S526 ⟨by decide, by decide⟩
  obtain ⟨T526, h526, X526, e526, W526, st526⟩ := stB X519 hx hZ e519 Ar526 (j := (1 : Int32)) in526 (g := (mkF me_ 31 #[.val (.ref d), .val (.int (1 : Int32)), .val (.ref b), .val (.int (1 : Int32)), .val (.int (3 : Int32)), .val (.int (1 : Int32)), .val (.int c1)] [(.int (c1.toInt8.toInt32)), (.int (1 : Int32)), (.ref b)])) rfl rfl (hb hby d6_31)
  have W526 : Wr h519 h526 b ((1 : Int32)).toNatClampNeg (.int (c1.toInt8.toInt32)) := by have z := W526; rw [(own_narB _)] at z; exact z
  refine gv st526 ?_
  have f528 : Arv Z h526 d kd .char (3 : Int32) [(.int c0), (.int c1), (.int c2)] (.int (0 : Int32)) := f521.other W526 u6
  have O529 := O522.wr W526 u5
  have K530 := K523.wr W526 (Or.inl (List.mem_of_getElem? (i := 0) rfl))
  have N531 := Fr.snoc X526 N524 u5
  have f527 : Arv Z h526 b k .byte (3 : Int32) [(.int (c0.toInt8.toInt32)), (.int (c1.toInt8.toInt32)), (.int (0 : Int32))] (.int (0 : Int32)) := Arv.set Ar526 q526 S526 n526 H526 G526 (fits_nar_byte _) W526 1 rfl (Nat.le_of_ble_eq_true rfl)
  show G (T526.setTop (mkF me_ 32 #[.val (.ref d), .val (.int (1 : Int32)), .val (.ref b), .val (.int (1 : Int32)), .val (.int (3 : Int32)), .val (.int (1 : Int32)), .val (.int c1)] []))
  refine gv (fun tQ kQ => XS.iinc X526.here hx rfl (hb hby d6_32) rfl (l' := #[.val (.ref d), .val (.int ((1 : Int32) + (1 : Int32))), .val (.ref b), .val (.int (1 : Int32)), .val (.int (3 : Int32)), .val (.int (1 : Int32)), .val (.int c1)]) rfl kQ) ?_
  show G (T526.setTop (mkF me_ 35 #[.val (.ref d), .val (.int ((1 : Int32) + (1 : Int32))), .val (.ref b), .val (.int (1 : Int32)), .val (.int (3 : Int32)), .val (.int (1 : Int32)), .val (.int c1)] []))
  rw [(by decide : ((1 : Int32) + (1 : Int32)) = (2 : Int32))]
  show G (T526.setTop (mkF me_ 35 #[.val (.ref d), .val (.int (2 : Int32)), .val (.ref b), .val (.int (1 : Int32)), .val (.int (3 : Int32)), .val (.int (1 : Int32)), .val (.int c1)] []))
  refine gv (fun tQ kQ => XS.iinc X526.here hx rfl (hb hby d6_35) rfl (l' := #[.val (.ref d), .val (.int (2 : Int32)), .val (.ref b), .val (.int ((1 : Int32) + (1 : Int32))), .val (.int (3 : Int32)), .val (.int (1 : Int32)), .val (.int c1)]) rfl kQ) ?_
  show G (T526.setTop (mkF me_ 38 #[.val (.ref d), .val (.int (2 : Int32)), .val (.ref b), .val (.int ((1 : Int32) + (1 : Int32))), .val (.int (3 : Int32)), .val (.int (1 : Int32)), .val (.int c1)] []))
  rw [(by decide : ((1 : Int32) + (1 : Int32)) = (2 : Int32))]
  show G (T526.setTop (mkF me_ 38 #[.val (.ref d), .val (.int (2 : Int32)), .val (.ref b), .val (.int (2 : Int32)), .val (.int (3 : Int32)), .val (.int (1 : Int32)), .val (.int c1)] []))
  refine gv (fun tQ kQ => XS.iinc X526.here hx rfl (hb hby d6_38) rfl (l' := #[.val (.ref d), .val (.int (2 : Int32)), .val (.ref b), .val (.int (2 : Int32)), .val (.int (3 : Int32)), .val (.int ((1 : Int32) + (1 : Int32))), .val (.int c1)]) rfl kQ) ?_
  show G (T526.setTop (mkF me_ 41 #[.val (.ref d), .val (.int (2 : Int32)), .val (.ref b), .val (.int (2 : Int32)), .val (.int (3 : Int32)), .val (.int ((1 : Int32) + (1 : Int32))), .val (.int c1)] []))
  rw [(by decide : ((1 : Int32) + (1 : Int32)) = (2 : Int32))]
  show G (T526.setTop (mkF me_ 41 #[.val (.ref d), .val (.int (2 : Int32)), .val (.ref b), .val (.int (2 : Int32)), .val (.int (3 : Int32)), .val (.int (2 : Int32)), .val (.int c1)] []))
  refine gv (fun tQ kQ => XS.goto X526.here hx rfl (pc0 := 41) (pc' := 3) rfl (hb hby d6_41) (by decide) (by decide) kQ) ?_
  show G (T526.setTop (mkF me_ 3 #[.val (.ref d), .val (.int (2 : Int32)), .val (.ref b), .val (.int (2 : Int32)), .val (.int (3 : Int32)), .val (.int (2 : Int32)), .val (.int c1)] []))
  refine gv (fun tQ kQ => XS.iload X526.here hx rfl (hb hby d6_3) rfl kQ) ?_
  show G (T526.setTop (mkF me_ 5 #[.val (.ref d), .val (.int (2 : Int32)), .val (.ref b), .val (.int (2 : Int32)), .val (.int (3 : Int32)), .val (.int (2 : Int32)), .val (.int c1)] [(.int (2 : Int32))]))
  refine gv (fun tQ kQ => XS.iload X526.here hx rfl (hb hby d6_5) rfl kQ) ?_
  show G (T526.setTop (mkF me_ 7 #[.val (.ref d), .val (.int (2 : Int32)), .val (.ref b), .val (.int (2 : Int32)), .val (.int (3 : Int32)), .val (.int (2 : Int32)), .val (.int c1)] [(.int (3 : Int32)), (.int (2 : Int32))]))
  refine gv (fun tQ kQ => XS.icmpNo X526.here hx rfl (hb hby d6_7) rfl (tlt (by decide : (2 : Int32) < (3 : Int32))).2.1 kQ) ?_
  show G (T526.setTop (mkF me_ 10 #[.val (.ref d), .val (.int (2 : Int32)), .val (.ref b), .val (.int (2 : Int32)), .val (.int (3 : Int32)), .val (.int (2 : Int32)), .val (.int c1)] []))
  refine gv (fun tQ kQ => XS.aloadN X526.here hx rfl (hb hby d6_10) rfl rfl kQ) ?_
  show G (T526.setTop (mkF me_ 11 #[.val (.ref d), .val (.int (2 : Int32)), .val (.ref b), .val (.int (2 : Int32)), .val (.int (3 : Int32)), .val (.int (2 : Int32)), .val (.int c1)] [(.ref d)]))
  refine gv (fun tQ kQ => XS.iloadN X526.here hx rfl (hb hby d6_11) rfl kQ) ?_
  show G (T526.setTop (mkF me_ 12 #[.val (.ref d), .val (.int (2 : Int32)), .val (.ref b), .val (.int (2 : Int32)), .val (.int (3 : Int32)), .val (.int (2 : Int32)), .val (.int c1)] [(.int (2 : Int32)), (.ref d)]))
  obtain ⟨cl532, Ar532, q532, S532, n532, H532, G532⟩ := (id f528)
  have in532 : ¬ ((2 : Int32) < 0 ∨ cl532.slots.size ≤ ((2 : Int32)).toNatClampNeg) := inb_of S532 ⟨by decide, by decide⟩
  refine gv (X526.caload hx (j := (2 : Int32)) (v := (.int c2)) (by rw [e526]; exact Ar532.1) (State.isArrayOf_alike hZ.alike Ar532.2.1) Ar532.2.2 in532 (Has.at H532 in532 rfl) (g := (mkF me_ 12 #[.val (.ref d), .val (.int (2 : Int32)), .val (.ref b), .val (.int (2 : Int32)), .val (.int (3 : Int32)), .val (.int (2 : Int32)), .val (.int c1)] [(.int (2 : Int32)), (.ref d)])) rfl rfl (hb hby d6_12)) ?_
  show G (T526.setTop (mkF me_ 13 #[.val (.ref d), .val (.int (2 : Int32)), .val (.ref b), .val (.int (2 : Int32)), .val (.int (3 : Int32)), .val (.int (2 : Int32)), .val (.int c1)] [(.int c2)]))
  refine gv (fun tQ kQ => XS.istore X526.here hx rfl (hb hby d6_13) rfl (l' := #[.val (.ref d), .val (.int (2 : Int32)), .val (.ref b), .val (.int (2 : Int32)), .val (.int (3 : Int32)), .val (.int (2 : Int32)), .val (.int c2)]) rfl kQ) ?_
  show G (T526.setTop (mkF me_ 15 #[.val (.ref d), .val (.int (2 : Int32)), .val (.ref b), .val (.int (2 : Int32)), .val (.int (3 : Int32)), .val (.int (2 : Int32)), .val (.int c2)] []))
  refine gv (fun tQ kQ => XS.iload X526.here hx rfl (hb hby d6_15) rfl kQ) ?_
  show G (T526.setTop (mkF me_ 17 #[.val (.ref d), .val (.int (2 : Int32)), .val (.ref b), .val (.int (2 : Int32)), .val (.int (3 : Int32)), .val (.int (2 : Int32)), .val (.int c2)] [(.int c2)]))
  refine gv (fun tQ kQ => XS.sipush X526.here hx rfl (hb hby d6_17) kQ) ?_
  show G (T526.setTop (mkF me_ 20 #[.val (.ref d), .val (.int (2 : Int32)), .val (.ref b), .val (.int (2 : Int32)), .val (.int (3 : Int32)), .val (.int (2 : Int32)), .val (.int c2)] [(.int (255 : Int32)), (.int c2)]))
  refine gv (fun tQ kQ => XS.icmpYes X526.here hx rfl (pc0 := 20) (pc' := 26) rfl (hb hby d6_20) rfl (flt u2).2.2.2 (by decide) (by decide) kQ) ?_
  show G (T526.setTop (mkF me_ 26 #[.val (.ref d), .val (.int (2 : Int32)), .val (.ref b), .val (.int (2 : Int32)), .val (.int (3 : Int32)), .val (.int (2 : Int32)), .val (.int c2)] []))
  refine gv (fun tQ kQ => XS.aloadN X526.here hx rfl (hb hby d6_26) rfl rfl kQ) ?_
  show G (T526.setTop (mkF me_ 27 #[.val (.ref d), .val (.int (2 : Int32)), .val (.ref b), .val (.int (2 : Int32)), .val (.int (3 : Int32)), .val (.int (2 : Int32)), .val (.int c2)] [(.ref b)]))
  refine gv (fun tQ kQ => XS.iloadN X526.here hx rfl (hb hby d6_27) rfl kQ) ?_
  show G (T526.setTop (mkF me_ 28 #[.val (.ref d), .val (.int (2 : Int32)), .val (.ref b), .val (.int (2 : Int32)), .val (.int (3 : Int32)), .val (.int (2 : Int32)), .val (.int c2)] [(.int (2 : Int32)), (.ref b)]))
  refine gv (fun tQ kQ => XS.iload X526.here hx rfl (hb hby d6_28) rfl kQ) ?_
  show G (T526.setTop (mkF me_ 30 #[.val (.ref d), .val (.int (2 : Int32)), .val (.ref b), .val (.int (2 : Int32)), .val (.int (3 : Int32)), .val (.int (2 : Int32)), .val (.int c2)] [(.int c2), (.int (2 : Int32)), (.ref b)]))
  refine gv (fun tQ kQ => XS.i2b X526.here hx rfl (hb hby d6_30) rfl kQ) ?_
  show G (T526.setTop (mkF me_ 31 #[.val (.ref d), .val (.int (2 : Int32)), .val (.ref b), .val (.int (2 : Int32)), .val (.int (3 : Int32)), .val (.int (2 : Int32)), .val (.int c2)] [(.int (c2.toInt8.toInt32)), (.int (2 : Int32)), (.ref b)]))
  obtain ⟨cl533, Ar533, q533, S533, n533, H533, G533⟩ := (id f527)
  have in533 : ¬ ((2 : Int32) < 0 ∨ cl533.slots.size ≤ ((2 : Int32)).toNatClampNeg) := inb_of S533 ⟨by decide, by decide⟩
  obtain ⟨T533, h533, X533, e533, W533, st533⟩ := stB X526 hx hZ e526 Ar533 (j := (2 : Int32)) in533 (g := (mkF me_ 31 #[.val (.ref d), .val (.int (2 : Int32)), .val (.ref b), .val (.int (2 : Int32)), .val (.int (3 : Int32)), .val (.int (2 : Int32)), .val (.int c2)] [(.int (c2.toInt8.toInt32)), (.int (2 : Int32)), (.ref b)])) rfl rfl (hb hby d6_31)
  have W533 : Wr h526 h533 b ((2 : Int32)).toNatClampNeg (.int (c2.toInt8.toInt32)) := by have z := W533; rw [(own_narB _)] at z; exact z
  refine gv st533 ?_
  have f535 : Arv Z h533 d kd .char (3 : Int32) [(.int c0), (.int c1), (.int c2)] (.int (0 : Int32)) := f528.other W533 u6
  have O536 := O529.wr W533 u5
  have K537 := K530.wr W533 (Or.inl (List.mem_of_getElem? (i := 0) rfl))
  have N538 := Fr.snoc X533 N531 u5
  have f534 : Arv Z h533 b k .byte (3 : Int32) [(.int (c0.toInt8.toInt32)), (.int (c1.toInt8.toInt32)), (.int (c2.toInt8.toInt32))] (.int (0 : Int32)) := Arv.set Ar533 q533 S533 n533 H533 G533 (fits_nar_byte _) W533 2 rfl (Nat.le_of_ble_eq_true rfl)
  show G (T533.setTop (mkF me_ 32 #[.val (.ref d), .val (.int (2 : Int32)), .val (.ref b), .val (.int (2 : Int32)), .val (.int (3 : Int32)), .val (.int (2 : Int32)), .val (.int c2)] []))
  refine gv (fun tQ kQ => XS.iinc X533.here hx rfl (hb hby d6_32) rfl (l' := #[.val (.ref d), .val (.int ((2 : Int32) + (1 : Int32))), .val (.ref b), .val (.int (2 : Int32)), .val (.int (3 : Int32)), .val (.int (2 : Int32)), .val (.int c2)]) rfl kQ) ?_
  show G (T533.setTop (mkF me_ 35 #[.val (.ref d), .val (.int ((2 : Int32) + (1 : Int32))), .val (.ref b), .val (.int (2 : Int32)), .val (.int (3 : Int32)), .val (.int (2 : Int32)), .val (.int c2)] []))
  rw [(by decide : ((2 : Int32) + (1 : Int32)) = (3 : Int32))]
  show G (T533.setTop (mkF me_ 35 #[.val (.ref d), .val (.int (3 : Int32)), .val (.ref b), .val (.int (2 : Int32)), .val (.int (3 : Int32)), .val (.int (2 : Int32)), .val (.int c2)] []))
  refine gv (fun tQ kQ => XS.iinc X533.here hx rfl (hb hby d6_35) rfl (l' := #[.val (.ref d), .val (.int (3 : Int32)), .val (.ref b), .val (.int ((2 : Int32) + (1 : Int32))), .val (.int (3 : Int32)), .val (.int (2 : Int32)), .val (.int c2)]) rfl kQ) ?_
  show G (T533.setTop (mkF me_ 38 #[.val (.ref d), .val (.int (3 : Int32)), .val (.ref b), .val (.int ((2 : Int32) + (1 : Int32))), .val (.int (3 : Int32)), .val (.int (2 : Int32)), .val (.int c2)] []))
  rw [(by decide : ((2 : Int32) + (1 : Int32)) = (3 : Int32))]
  show G (T533.setTop (mkF me_ 38 #[.val (.ref d), .val (.int (3 : Int32)), .val (.ref b), .val (.int (3 : Int32)), .val (.int (3 : Int32)), .val (.int (2 : Int32)), .val (.int c2)] []))
  refine gv (fun tQ kQ => XS.iinc X533.here hx rfl (hb hby d6_38) rfl (l' := #[.val (.ref d), .val (.int (3 : Int32)), .val (.ref b), .val (.int (3 : Int32)), .val (.int (3 : Int32)), .val (.int ((2 : Int32) + (1 : Int32))), .val (.int c2)]) rfl kQ) ?_
  show G (T533.setTop (mkF me_ 41 #[.val (.ref d), .val (.int (3 : Int32)), .val (.ref b), .val (.int (3 : Int32)), .val (.int (3 : Int32)), .val (.int ((2 : Int32) + (1 : Int32))), .val (.int c2)] []))
  rw [(by decide : ((2 : Int32) + (1 : Int32)) = (3 : Int32))]
  show G (T533.setTop (mkF me_ 41 #[.val (.ref d), .val (.int (3 : Int32)), .val (.ref b), .val (.int (3 : Int32)), .val (.int (3 : Int32)), .val (.int (3 : Int32)), .val (.int c2)] []))
  refine gv (fun tQ kQ => XS.goto X533.here hx rfl (pc0 := 41) (pc' := 3) rfl (hb hby d6_41) (by decide) (by decide) kQ) ?_
  show G (T533.setTop (mkF me_ 3 #[.val (.ref d), .val (.int (3 : Int32)), .val (.ref b), .val (.int (3 : Int32)), .val (.int (3 : Int32)), .val (.int (3 : Int32)), .val (.int c2)] []))
  refine gv (fun tQ kQ => XS.iload X533.here hx rfl (hb hby d6_3) rfl kQ) ?_
  show G (T533.setTop (mkF me_ 5 #[.val (.ref d), .val (.int (3 : Int32)), .val (.ref b), .val (.int (3 : Int32)), .val (.int (3 : Int32)), .val (.int (3 : Int32)), .val (.int c2)] [(.int (3 : Int32))]))
  refine gv (fun tQ kQ => XS.iload X533.here hx rfl (hb hby d6_5) rfl kQ) ?_
  show G (T533.setTop (mkF me_ 7 #[.val (.ref d), .val (.int (3 : Int32)), .val (.ref b), .val (.int (3 : Int32)), .val (.int (3 : Int32)), .val (.int (3 : Int32)), .val (.int c2)] [(.int (3 : Int32)), (.int (3 : Int32))]))
  refine gv (fun tQ kQ => XS.icmpYes X533.here hx rfl (pc0 := 7) (pc' := 44) rfl (hb hby d6_7) rfl (flt (by decide : ¬ ((3 : Int32) < (3 : Int32)))).2.1 (by decide) (by decide) kQ) ?_
  show G (T533.setTop (mkF me_ 44 #[.val (.ref d), .val (.int (3 : Int32)), .val (.ref b), .val (.int (3 : Int32)), .val (.int (3 : Int32)), .val (.int (3 : Int32)), .val (.int c2)] []))
  refine gv (fun tQ kQ => XS.iload X533.here hx rfl (hb hby d6_44) rfl kQ) ?_
  show G (T533.setTop (mkF me_ 46 #[.val (.ref d), .val (.int (3 : Int32)), .val (.ref b), .val (.int (3 : Int32)), .val (.int (3 : Int32)), .val (.int (3 : Int32)), .val (.int c2)] [(.int (3 : Int32))]))
  refine gf _ (own_ret X533 Bd.notSynchronized (v := some (.int (3 : Int32))) (fun h => by rw [Bd.returns] at h; cases h) ?_ (by decide) (by decide) (fun fs hr => retOut X533 hx (t := .int) Bd.returns rfl (Or.inl ⟨rfl, Or.inl rfl, _, rfl⟩) (hb hby d6_46) hr))
  show Q_cmp3 Z d kd b k c0 c1 c2 h0 n0 _ T533.heap _
  rw [e533]
  exact ⟨rfl, N538, K537, f534⟩
def Q_cmpr3 (Z : State) (d : Addr) (kd : ClassId) (c0 : Int32) (c1 : Int32) (c2 : Int32) (h0 : Heap) (n0 : Nat) (v : Option Value) (h : Heap) (L : List Loc) : Prop := ∃ (b : Addr), ∃ (k : ClassId), v = some (.ref b) ∧ Fr n0 L ∧ Keep h0 h [] ∧ h0.size ≤ b ∧ (Arv Z h b k .byte (3 : Int32) [(.int (c0.toInt8.toInt32)), (.int (c1.toInt8.toInt32)), (.int (c2.toInt8.toInt32))] (.int (0 : Int32)))
set_option maxRecDepth 65536 in
set_option maxHeartbeats 40000000 in
theorem rm_cmpr3 (l : Launch) (Z : State) (a0 : Array Value) (hw : ∀ d ∈ tables_1, d.before a0 Z = true) (ws : List Jvm.Cond) (d : Addr) (kd : ClassId) (c0 : Int32) (c1 : Int32) (c2 : Int32) (h0 : Heap) (n0 : Nat) (O0 : Old Z n0 h0) (u0 : ¬ ((255 : Int32) < c0)) (u1 : ¬ ((255 : Int32) < c1)) (u2 : ¬ ((255 : Int32) < c2)) (u3 : Arv Z h0 d kd .char (3 : Int32) [(.int c0), (.int c1), (.int c2)] (.int (0 : Int32))) :
    MetFree l (⟨"java/lang/StringUTF16", "compress", "([CII)[B"⟩ : MethodName) (head1 (Jvm.Cond.code (⟨"java/lang/StringUTF16", "compress", "([CII)[B"⟩ : MethodName) jdk_52_method_16_code 6 (some (.array .byte)) :: ws) ({ frames := 1, cells := 1, slots := 3, locals := 18 } : Room)) (fun aV U => aV = #[(.ref d), (.int (0 : Int32)), (.int (3 : Int32))] ∧ Z.Warmed39 U.vm ∧ U.heap = h0) (fun _ _ _ _ _ => True) (fun _ U o U' => ∃ v L, o = .returned v ∧ Q_cmpr3 Z d kd c0 c1 c2 h0 n0 v U'.heap L ∧ FrameEnd U o U' L ({ frames := 1, cells := 1, slots := 3, locals := 18 } : Room).cells ({ frames := 1, cells := 1, slots := 3, locals := 18 } : Room).slots) := by
  refine MetFree.of_bodySF (plainFor_of_name pn_5) hisR ?_
  intro pr_ en_ st_ me_ args below meth_ co_ s₁ Bd hml0 hP hK
  obtain ⟨rfl, hZ, hh⟩ := hP
  have hx := Bd.exec
  have hby := Bd.bytes
  have hml : co_.maxLocals = 6 := hml0
  have hown : st_.vm.findClass "java/lang/StringUTF16" = some me_.cls := findClass_of_methodNamed Bd.named
  have hnm := (name_of_methodNamed Bd.named Bd.method).1
  have X0 : Stand pr_ l en_ ({ frames := 1, cells := 1, slots := 3, locals := 18 } : Room) st_ me_ #[(.ref d), (.int (0 : Int32)), (.int (3 : Int32))] below meth_ co_ s₁ [] 0 0 := Stand.of_body Bd
  have e0 : s₁.heap = h0 := by rw [← hh, Bd.state]; rfl
  have N0 := Fr.nil n0
  have K0 := Keep.refl h0 []
  obtain ⟨G, gv, gf, gb⟩ := own_G pr_.tables en_ below st_ (Q_cmpr3 Z d kd c0 c1 c2 h0 n0) ({ frames := 1, cells := 1, slots := 3, locals := 18 } : Room).cells ({ frames := 1, cells := 1, slots := 3, locals := 18 } : Room).slots
  show own_Fin pr_.tables en_ below st_ (Q_cmpr3 Z d kd c0 c1 c2 h0 n0) ({ frames := 1, cells := 1, slots := 3, locals := 18 } : Room).cells ({ frames := 1, cells := 1, slots := 3, locals := 18 } : Room).slots (s₁.setTop (entryFrame me_ #[(.ref d), (.int (0 : Int32)), (.int (3 : Int32))] 6))
  refine gb _ (gv (fun tQ kQ => castTop (ef_13 me_ d (0 : Int32) (3 : Int32)) kQ) ?_)
  show G (s₁.setTop (mkF me_ 0 #[.val (.ref d), .val (.int (0 : Int32)), .val (.int (3 : Int32)), .unset, .unset, .unset] []))
  refine gv (fun tQ kQ => XS.iloadN X0.here hx rfl (hb hby d5_0) rfl kQ) ?_
  show G (s₁.setTop (mkF me_ 1 #[.val (.ref d), .val (.int (0 : Int32)), .val (.int (3 : Int32)), .unset, .unset, .unset] [(.int (3 : Int32))]))
  obtain ⟨T539, h539, k539, X539, e539, E539, A539, st539⟩ := newP X0 hx hZ (hw _ (List.mem_of_getElem? (i := 19) rfl)) e0 (g := (mkF me_ 1 #[.val (.ref d), .val (.int (0 : Int32)), .val (.int (3 : Int32)), .unset, .unset, .unset] [(.int (3 : Int32))])) rfl (hb hby d5_1) rfl (by decide) (cap := 3) (by decide) (by decide) (by decide) (by decide)
  obtain ⟨b539, g539⟩ : ∃ z, z = h0.size := ⟨_, rfl⟩
  rw [← g539] at A539 st539
  refine gv st539 ?_
  have ne540 : d ≠ b539 := Nat.ne_of_lt (Nat.lt_of_lt_of_le u3.lt (Nat.le_of_eq g539.symm))
  have g541 : n0 ≤ b539 := Nat.le_trans (own_old O0) (Nat.le_of_eq g539.symm)
  have z542 : h0.size ≤ b539 := Nat.le_trans K0.1 (Nat.le_of_eq g539.symm)
  have f543 : Arv Z h539 d kd .char (3 : Int32) [(.int c0), (.int c1), (.int c2)] (.int (0 : Int32)) := u3.ext E539
  have O544 := O0.ext E539
  have K545 := K0.ext E539
  have V539 : Arv Z h539 b539 k539 .byte (3 : Int32) [(.int (0 : Int32)), (.int (0 : Int32)), (.int (0 : Int32))] (.int (0 : Int32)) := (Arv.new A539 (by decide)).pad (pad_rep [] (.int (0 : Int32)) 3)
  show G (T539.setTop (mkF me_ 3 #[.val (.ref d), .val (.int (0 : Int32)), .val (.int (3 : Int32)), .unset, .unset, .unset] [(.ref b539)]))
  refine gv (fun tQ kQ => XS.astoreN X539.here hx rfl (hb hby d5_3) rfl rfl (l' := #[.val (.ref d), .val (.int (0 : Int32)), .val (.int (3 : Int32)), .val (.ref b539), .unset, .unset]) rfl kQ) ?_
  show G (T539.setTop (mkF me_ 4 #[.val (.ref d), .val (.int (0 : Int32)), .val (.int (3 : Int32)), .val (.ref b539), .unset, .unset] []))
  refine gv (fun tQ kQ => XS.aloadN X539.here hx rfl (hb hby d5_4) rfl rfl kQ) ?_
  show G (T539.setTop (mkF me_ 5 #[.val (.ref d), .val (.int (0 : Int32)), .val (.int (3 : Int32)), .val (.ref b539), .unset, .unset] [(.ref d)]))
  refine gv (fun tQ kQ => XS.iloadN X539.here hx rfl (hb hby d5_5) rfl kQ) ?_
  show G (T539.setTop (mkF me_ 6 #[.val (.ref d), .val (.int (0 : Int32)), .val (.int (3 : Int32)), .val (.ref b539), .unset, .unset] [(.int (0 : Int32)), (.ref d)]))
  refine gv (fun tQ kQ => XS.aloadN X539.here hx rfl (hb hby d5_6) rfl rfl kQ) ?_
  show G (T539.setTop (mkF me_ 7 #[.val (.ref d), .val (.int (0 : Int32)), .val (.int (3 : Int32)), .val (.ref b539), .unset, .unset] [(.ref b539), (.int (0 : Int32)), (.ref d)]))
  refine gv (fun tQ kQ => XS.iconst X539.here hx rfl (hb hby d5_7) kQ) ?_
  show G (T539.setTop (mkF me_ 8 #[.val (.ref d), .val (.int (0 : Int32)), .val (.int (3 : Int32)), .val (.ref b539), .unset, .unset] [(.int (0 : Int32)), (.ref b539), (.int (0 : Int32)), (.ref d)]))
  refine gv (fun tQ kQ => XS.iloadN X539.here hx rfl (hb hby d5_8) rfl kQ) ?_
  show G (T539.setTop (mkF me_ 9 #[.val (.ref d), .val (.int (0 : Int32)), .val (.int (3 : Int32)), .val (.ref b539), .unset, .unset] [(.int (3 : Int32)), (.int (0 : Int32)), (.ref b539), (.int (0 : Int32)), (.ref d)]))
  obtain ⟨_, _, ⟨T546, L546, k546, n546⟩, -, X546, ⟨Lc546, hQ546, l546, y546, z546⟩, st546⟩ := Jvm.LawKit.callS X539 hx (y := (⟨"java/lang/StringUTF16", "compress", "([CI[BII)I"⟩ : MethodName)) hown (mvT hZ (hw _ (List.mem_of_getElem? (i := 31) rfl))) (mvT hZ (hw _ (List.mem_of_getElem? (i := 32) rfl))) (mvT hZ (hw _ (List.mem_of_getElem? (i := 29) rfl))) (mvT hZ (hw _ (List.mem_of_getElem? (i := 33) rfl))) (by decide) (backOf (W := 0) (rm_cmp3 l Z a0 hw [] d kd b539 k539 c0 c1 c2 h539 n0 O544 u0 u1 u2 f543 V539 g541 ne540) hZ (hw _ (List.mem_of_getElem? (i := 33) rfl)) (hw _ (List.mem_of_getElem? (i := 29) rfl)) (by decide) (by decide)) (g := (mkF me_ 9 #[.val (.ref d), .val (.int (0 : Int32)), .val (.int (3 : Int32)), .val (.ref b539), .unset, .unset] [(.int (3 : Int32)), (.int (0 : Int32)), (.ref b539), (.int (0 : Int32)), (.ref d)])) rfl (by rw [hml]; rfl) (argsL := [(.ref d), (.int (0 : Int32)), (.ref b539), (.int (0 : Int32)), (.int (3 : Int32))]) (rest := []) (lenOf pd_15 rfl) rfl (by show 2 * 0 + _ ≤ _; exact Nat.le_of_eq rfl) (hb hby d5_9) (fun _ _ => ⟨rfl, e539, (by decide : 1 + 0 ≤ _), (by decide : 3 + 0 ≤ _)⟩)
  dsimp only [Pt.U, Pt.locs, Pt.cells, Pt.slots] at X546 l546 y546 z546 st546 hQ546
  subst l546 y546 z546
  obtain ⟨rfl, Nq546, Kq546, w546_0⟩ := hQ546
  have N547 := Fr.app N0 Nq546
  obtain ⟨h546, e546⟩ : ∃ z, T546.heap = z := ⟨_, rfl⟩
  rw [e546] at Kq546 w546_0
  have f548 : Arv Z h546 d kd .char (3 : Int32) [(.int c0), (.int c1), (.int c2)] (.int (0 : Int32)) := f543.keep Kq546 (ninS ne540 nin0)
  have O549 := O544.keep Kq546 (allS g541 all0)
  have K550 := K545.trans Kq546 (allS (Or.inr z542) all0)
  refine gv st546 ?_
  show G (T546.setTop (mkF me_ 12 #[.val (.ref d), .val (.int (0 : Int32)), .val (.int (3 : Int32)), .val (.ref b539), .unset, .unset] [(.int (3 : Int32))]))
  refine gv (fun tQ kQ => XS.istore X546.here hx rfl (hb hby d5_12) rfl (l' := #[.val (.ref d), .val (.int (0 : Int32)), .val (.int (3 : Int32)), .val (.ref b539), .val (.int (3 : Int32)), .unset]) rfl kQ) ?_
  show G (T546.setTop (mkF me_ 14 #[.val (.ref d), .val (.int (0 : Int32)), .val (.int (3 : Int32)), .val (.ref b539), .val (.int (3 : Int32)), .unset] []))
  refine gv (fun tQ kQ => XS.iload X546.here hx rfl (hb hby d5_14) rfl kQ) ?_
  show G (T546.setTop (mkF me_ 16 #[.val (.ref d), .val (.int (0 : Int32)), .val (.int (3 : Int32)), .val (.ref b539), .val (.int (3 : Int32)), .unset] [(.int (3 : Int32))]))
  refine gv (fun tQ kQ => XS.iloadN X546.here hx rfl (hb hby d5_16) rfl kQ) ?_
  show G (T546.setTop (mkF me_ 17 #[.val (.ref d), .val (.int (0 : Int32)), .val (.int (3 : Int32)), .val (.ref b539), .val (.int (3 : Int32)), .unset] [(.int (3 : Int32)), (.int (3 : Int32))]))
  refine gv (fun tQ kQ => XS.icmpYes X546.here hx rfl (pc0 := 17) (pc' := 57) rfl (hb hby d5_17) rfl (teq (by decide : (3 : Int32) = (3 : Int32))).1 (by decide) (by decide) kQ) ?_
  show G (T546.setTop (mkF me_ 57 #[.val (.ref d), .val (.int (0 : Int32)), .val (.int (3 : Int32)), .val (.ref b539), .val (.int (3 : Int32)), .unset] []))
  refine gv (fun tQ kQ => XS.aloadN X546.here hx rfl (hb hby d5_57) rfl rfl kQ) ?_
  show G (T546.setTop (mkF me_ 58 #[.val (.ref d), .val (.int (0 : Int32)), .val (.int (3 : Int32)), .val (.ref b539), .val (.int (3 : Int32)), .unset] [(.ref b539)]))
  refine gf _ (own_ret X546 Bd.notSynchronized (v := some (.ref b539)) (fun h => by rw [Bd.returns] at h; cases h) ?_ (by decide) (by decide) (fun fs hr => retOut X546 hx (t := (.array .byte)) Bd.returns rfl (Or.inr (Or.inr (Or.inr (Or.inr ⟨rfl, rfl, rfl⟩)))) (hb hby d5_58) hr))
  show Q_cmpr3 Z d kd c0 c1 c2 h0 n0 _ T546.heap _
  rw [e546]
  exact ⟨b539, k539, rfl, N547, K550, z542, w546_0⟩
def Q_cfal3 (Z : State) (b : Addr) (k : ClassId) (x0 : Int32) (x1 : Int32) (x2 : Int32) (h0 : Heap) (n0 : Nat) (v : Option Value) (h : Heap) (L : List Loc) : Prop := v = some (.int (0 : Int32)) ∧ Fr n0 L ∧ h = h0
set_option maxRecDepth 65536 in
set_option maxHeartbeats 40000000 in
theorem rm_cfal3 (l : Launch) (Z : State) (a0 : Array Value) (hw : ∀ d ∈ tables_1, d.before a0 Z = true) (ws : List Jvm.Cond) (b : Addr) (k : ClassId) (x0 : Int32) (x1 : Int32) (x2 : Int32) (h0 : Heap) (n0 : Nat) (O0 : Old Z n0 h0) (u0 : Arv Z h0 b k .byte (3 : Int32) [(.int x0), (.int x1), (.int x2)] (.int (0 : Int32))) :
    MetFree l (⟨"java/lang/StringUTF16", "coderFromArrayLen", "([BI)B"⟩ : MethodName) (head1 (Jvm.Cond.code (⟨"java/lang/StringUTF16", "coderFromArrayLen", "([BI)B"⟩ : MethodName) jdk_52_method_15_code 2 (some .byte) :: ws) ({ frames := 0, cells := 0, slots := 0, locals := 0 } : Room)) (fun aV U => aV = #[(.ref b), (.int (3 : Int32))] ∧ Z.Warmed39 U.vm ∧ U.heap = h0) (fun _ _ _ _ _ => True) (fun _ U o U' => ∃ v L, o = .returned v ∧ Q_cfal3 Z b k x0 x1 x2 h0 n0 v U'.heap L ∧ FrameEnd U o U' L ({ frames := 0, cells := 0, slots := 0, locals := 0 } : Room).cells ({ frames := 0, cells := 0, slots := 0, locals := 0 } : Room).slots) := by
  refine MetFree.of_bodySF (plainFor_of_name pn_5) hisR ?_
  intro pr_ en_ st_ me_ args below meth_ co_ s₁ Bd hml0 hP hK
  obtain ⟨rfl, hZ, hh⟩ := hP
  have hx := Bd.exec
  have hby := Bd.bytes
  have hml : co_.maxLocals = 2 := hml0
  have hown : st_.vm.findClass "java/lang/StringUTF16" = some me_.cls := findClass_of_methodNamed Bd.named
  have hnm := (name_of_methodNamed Bd.named Bd.method).1
  have X0 : Stand pr_ l en_ ({ frames := 0, cells := 0, slots := 0, locals := 0 } : Room) st_ me_ #[(.ref b), (.int (3 : Int32))] below meth_ co_ s₁ [] 0 0 := Stand.of_body Bd
  have e0 : s₁.heap = h0 := by rw [← hh, Bd.state]; rfl
  have N0 := Fr.nil n0
  have K0 := Keep.refl h0 []
  obtain ⟨G, gv, gf, gb⟩ := own_G pr_.tables en_ below st_ (Q_cfal3 Z b k x0 x1 x2 h0 n0) ({ frames := 0, cells := 0, slots := 0, locals := 0 } : Room).cells ({ frames := 0, cells := 0, slots := 0, locals := 0 } : Room).slots
  show own_Fin pr_.tables en_ below st_ (Q_cfal3 Z b k x0 x1 x2 h0 n0) ({ frames := 0, cells := 0, slots := 0, locals := 0 } : Room).cells ({ frames := 0, cells := 0, slots := 0, locals := 0 } : Room).slots (s₁.setTop (entryFrame me_ #[(.ref b), (.int (3 : Int32))] 2))
  refine gb _ (gv (fun tQ kQ => castTop (ef_6 me_ b (3 : Int32)) kQ) ?_)
  show G (s₁.setTop (mkF me_ 0 #[.val (.ref b), .val (.int (3 : Int32))] []))
  refine gv (fun tQ kQ => XS.iloadN X0.here hx rfl (hb hby d7_0) rfl kQ) ?_
  show G (s₁.setTop (mkF me_ 1 #[.val (.ref b), .val (.int (3 : Int32))] [(.int (3 : Int32))]))
  refine gv (fun tQ kQ => XS.aloadN X0.here hx rfl (hb hby d7_1) rfl rfl kQ) ?_
  show G (s₁.setTop (mkF me_ 2 #[.val (.ref b), .val (.int (3 : Int32))] [(.ref b), (.int (3 : Int32))]))
  obtain ⟨cl551, Ar551, -, S551, n551, -, -⟩ := (id u0)
  refine gv (X0.arraylength hx (by rw [e0]; exact Ar551.1) (State.isArrayOf_alike hZ.alike Ar551.2.1) (g := (mkF me_ 2 #[.val (.ref b), .val (.int (3 : Int32))] [(.ref b), (.int (3 : Int32))])) rfl rfl (hb hby d7_2)) ?_
  rw [len_of S551 n551]
  show G (s₁.setTop (mkF me_ 3 #[.val (.ref b), .val (.int (3 : Int32))] [(.int (3 : Int32)), (.int (3 : Int32))]))
  refine gv (fun tQ kQ => XS.isub X0.here hx rfl (hb hby d7_3) rfl kQ) ?_
  show G (s₁.setTop (mkF me_ 4 #[.val (.ref b), .val (.int (3 : Int32))] [(.int ((3 : Int32) - (3 : Int32)))]))
  rw [(by decide : ((3 : Int32) - (3 : Int32)) = (0 : Int32))]
  show G (s₁.setTop (mkF me_ 4 #[.val (.ref b), .val (.int (3 : Int32))] [(.int (0 : Int32))]))
  refine gv (fun tQ kQ => XS.bipush X0.here hx rfl (hb hby d7_4) kQ) ?_
  show G (s₁.setTop (mkF me_ 6 #[.val (.ref b), .val (.int (3 : Int32))] [(.int (31 : Int32)), (.int (0 : Int32))]))
  refine gv (fun tQ kQ => XS.iushr X0.here hx rfl (hb hby d7_6) rfl kQ) ?_
  show G (s₁.setTop (mkF me_ 7 #[.val (.ref b), .val (.int (3 : Int32))] [(.int (((0 : Int32).toUInt32 >>> ((31 : Int32) &&& 31).toUInt32).toInt32))]))
  rw [(by decide : (((0 : Int32).toUInt32 >>> ((31 : Int32) &&& 31).toUInt32).toInt32) = (0 : Int32))]
  show G (s₁.setTop (mkF me_ 7 #[.val (.ref b), .val (.int (3 : Int32))] [(.int (0 : Int32))]))
  refine gv (fun tQ kQ => XS.i2b X0.here hx rfl (hb hby d7_7) rfl kQ) ?_
  show G (s₁.setTop (mkF me_ 8 #[.val (.ref b), .val (.int (3 : Int32))] [(.int ((0 : Int32).toInt8.toInt32))]))
  rw [(by decide : ((0 : Int32).toInt8.toInt32) = (0 : Int32))]
  show G (s₁.setTop (mkF me_ 8 #[.val (.ref b), .val (.int (3 : Int32))] [(.int (0 : Int32))]))
  refine gf _ (own_ret X0 Bd.notSynchronized (v := some (.int (0 : Int32))) (fun h => by rw [Bd.returns] at h; cases h) ?_ (by decide) (by decide) (fun fs hr => retN X0 hx (t := .byte) Bd.returns (by simp) (hb hby d7_8) hr))
  show Q_cfal3 Z b k x0 x1 x2 h0 n0 _ s₁.heap _
  rw [e0]
  exact ⟨rfl, N0, rfl⟩
def Q_sci3 (Z : State) (a : Addr) (d : Addr) (kd : ClassId) (c0 : Int32) (c1 : Int32) (c2 : Int32) (cs : Int32) (h0 : Heap) (n0 : Nat) (v : Option Value) (h : Heap) (L : List Loc) : Prop := ∃ (b : Addr), ∃ (k : ClassId), v = none ∧ Fr n0 L ∧ Keep h0 h [a] ∧ h0.size ≤ b ∧ (Exa Z h a "java/lang/String") ∧ (Fld Z h a "java/lang/String" "coder" "B" (.int (0 : Int32))) ∧ (Fld Z h a "java/lang/String" "value" "[B" (.ref b)) ∧ (Arv Z h b k .byte (3 : Int32) [(.int (c0.toInt8.toInt32)), (.int (c1.toInt8.toInt32)), (.int (c2.toInt8.toInt32))] (.int (0 : Int32)))
set_option maxRecDepth 65536 in
set_option maxHeartbeats 40000000 in
theorem rm_sci3 (l : Launch) (Z : State) (a0 : Array Value) (hw : ∀ d ∈ tables_1, d.before a0 Z = true) (ws : List Jvm.Cond) (a : Addr) (d : Addr) (kd : ClassId) (c0 : Int32) (c1 : Int32) (c2 : Int32) (cs : Int32) (h0 : Heap) (n0 : Nat) (O0 : Old Z n0 h0) (u0 : Sta Z Z.heap "java/lang/String" "COMPACT_STRINGS" "Z" (.int cs)) (u1 : ¬ (cs = (0 : Int32))) (u2 : ¬ ((255 : Int32) < c0)) (u3 : ¬ ((255 : Int32) < c1)) (u4 : ¬ ((255 : Int32) < c2)) (u5 : Exa Z h0 a "java/lang/String") (u6 : Fld Z h0 a "java/lang/String" "value" "[B" .null) (u7 : Fld Z h0 a "java/lang/String" "coder" "B" (.int (0 : Int32))) (u8 : n0 ≤ a) (u9 : Arv Z h0 d kd .char (3 : Int32) [(.int c0), (.int c1), (.int c2)] (.int (0 : Int32))) (u10 : a ≠ d) :
    MetFree l (⟨"java/lang/String", "<init>", "([CIILjava/lang/Void;)V"⟩ : MethodName) (head1 (Jvm.Cond.code (⟨"java/lang/String", "<init>", "([CIILjava/lang/Void;)V"⟩ : MethodName) jdk_42_method_149_code 6 none :: ws) ({ frames := 2, cells := 1, slots := 3, locals := 35 } : Room)) (fun aV U => aV = #[(.ref a), (.ref d), (.int (0 : Int32)), (.int (3 : Int32)), .null] ∧ Z.Warmed39 U.vm ∧ U.heap = h0) (fun _ _ _ _ _ => True) (fun _ U o U' => ∃ v L, o = .returned v ∧ Q_sci3 Z a d kd c0 c1 c2 cs h0 n0 v U'.heap L ∧ FrameEnd U o U' L ({ frames := 2, cells := 1, slots := 3, locals := 35 } : Room).cells ({ frames := 2, cells := 1, slots := 3, locals := 35 } : Room).slots) := by
  refine MetFree.of_bodySF (plainFor_of_name pn_0) hisR ?_
  intro pr_ en_ st_ me_ args below meth_ co_ s₁ Bd hml0 hP hK
  obtain ⟨rfl, hZ, hh⟩ := hP
  have hx := Bd.exec
  have hby := Bd.bytes
  have hml : co_.maxLocals = 6 := hml0
  have hown : st_.vm.findClass "java/lang/String" = some me_.cls := findClass_of_methodNamed Bd.named
  have hnm := (name_of_methodNamed Bd.named Bd.method).1
  have X0 : Stand pr_ l en_ ({ frames := 2, cells := 1, slots := 3, locals := 35 } : Room) st_ me_ #[(.ref a), (.ref d), (.int (0 : Int32)), (.int (3 : Int32)), .null] below meth_ co_ s₁ [] 0 0 := Stand.of_body Bd
  have e0 : s₁.heap = h0 := by rw [← hh, Bd.state]; rfl
  have N0 := Fr.nil n0
  have K0 := Keep.refl h0 [a]
  obtain ⟨G, gv, gf, gb⟩ := own_G pr_.tables en_ below st_ (Q_sci3 Z a d kd c0 c1 c2 cs h0 n0) ({ frames := 2, cells := 1, slots := 3, locals := 35 } : Room).cells ({ frames := 2, cells := 1, slots := 3, locals := 35 } : Room).slots
  show own_Fin pr_.tables en_ below st_ (Q_sci3 Z a d kd c0 c1 c2 cs h0 n0) ({ frames := 2, cells := 1, slots := 3, locals := 35 } : Room).cells ({ frames := 2, cells := 1, slots := 3, locals := 35 } : Room).slots (s₁.setTop (entryFrame me_ #[(.ref a), (.ref d), (.int (0 : Int32)), (.int (3 : Int32)), .null] 6))
  refine gb _ (gv (fun tQ kQ => castTop (ef_11 me_ a d (0 : Int32) (3 : Int32)) kQ) ?_)
  show G (s₁.setTop (mkF me_ 0 #[.val (.ref a), .val (.ref d), .val (.int (0 : Int32)), .val (.int (3 : Int32)), .val .null, .unset] []))
  refine gv (fun tQ kQ => XS.aloadN X0.here hx rfl (hb hby d3_0) rfl rfl kQ) ?_
  show G (s₁.setTop (mkF me_ 1 #[.val (.ref a), .val (.ref d), .val (.int (0 : Int32)), .val (.int (3 : Int32)), .val .null, .unset] [(.ref a)]))
  obtain ⟨T552, X552, e552, st552⟩ := initO X0 hx hZ hown (hw _ (List.mem_of_getElem? (i := 15) rfl)) (hw _ (List.mem_of_getElem? (i := 16) rfl)) (hw _ (List.mem_of_getElem? (i := 17) rfl)) e0 (g := (mkF me_ 1 #[.val (.ref a), .val (.ref d), .val (.int (0 : Int32)), .val (.int (3 : Int32)), .val .null, .unset] [(.ref a)])) rfl (by rw [hml]; rfl) rfl (hb hby d3_1) (by decide) (W := 0) (by show 2 * 0 + _ ≤ _; exact Nat.le_of_eq rfl) (by decide)
  refine gv st552 ?_
  show G (T552.setTop (mkF me_ 4 #[.val (.ref a), .val (.ref d), .val (.int (0 : Int32)), .val (.int (3 : Int32)), .val .null, .unset] []))
  refine gv (fun tQ kQ => XS.iloadN X552.here hx rfl (hb hby d3_4) rfl kQ) ?_
  show G (T552.setTop (mkF me_ 5 #[.val (.ref a), .val (.ref d), .val (.int (0 : Int32)), .val (.int (3 : Int32)), .val .null, .unset] [(.int (3 : Int32))]))
  refine gv (fun tQ kQ => XS.ifYes X552.here hx rfl (pc0 := 5) (pc' := 27) rfl (hb hby d3_5) rfl ((if0 _ _).trans (feq (by decide : ¬ ((3 : Int32) = (0 : Int32)))).2) (by decide) (by decide) kQ) ?_
  show G (T552.setTop (mkF me_ 27 #[.val (.ref a), .val (.ref d), .val (.int (0 : Int32)), .val (.int (3 : Int32)), .val .null, .unset] []))
  obtain ⟨T553, X553, e553, st553⟩ := getS2 X552 hx hZ hown (host := "") (Or.inl (hw _ (List.mem_of_getElem? (i := 26) rfl))) Via.refl e552 (u0.ext O0.2) (g := (mkF me_ 27 #[.val (.ref a), .val (.ref d), .val (.int (0 : Int32)), .val (.int (3 : Int32)), .val .null, .unset] [])) rfl (hb hby d3_27)
  refine gv st553 ?_
  show G (T553.setTop (mkF me_ 30 #[.val (.ref a), .val (.ref d), .val (.int (0 : Int32)), .val (.int (3 : Int32)), .val .null, .unset] [(.int cs)]))
  refine gv (fun tQ kQ => XS.ifNo X553.here hx rfl (hb hby d3_30) rfl ((if0 _ _).trans (feq u1).1) kQ) ?_
  show G (T553.setTop (mkF me_ 33 #[.val (.ref a), .val (.ref d), .val (.int (0 : Int32)), .val (.int (3 : Int32)), .val .null, .unset] []))
  refine gv (fun tQ kQ => XS.aloadN X553.here hx rfl (hb hby d3_33) rfl rfl kQ) ?_
  show G (T553.setTop (mkF me_ 34 #[.val (.ref a), .val (.ref d), .val (.int (0 : Int32)), .val (.int (3 : Int32)), .val .null, .unset] [(.ref d)]))
  refine gv (fun tQ kQ => XS.iloadN X553.here hx rfl (hb hby d3_34) rfl kQ) ?_
  show G (T553.setTop (mkF me_ 35 #[.val (.ref a), .val (.ref d), .val (.int (0 : Int32)), .val (.int (3 : Int32)), .val .null, .unset] [(.int (0 : Int32)), (.ref d)]))
  refine gv (fun tQ kQ => XS.iloadN X553.here hx rfl (hb hby d3_35) rfl kQ) ?_
  show G (T553.setTop (mkF me_ 36 #[.val (.ref a), .val (.ref d), .val (.int (0 : Int32)), .val (.int (3 : Int32)), .val .null, .unset] [(.int (3 : Int32)), (.int (0 : Int32)), (.ref d)]))
  obtain ⟨_, _, ⟨T554, L554, k554, n554⟩, -, X554, ⟨Lc554, hQ554, l554, y554, z554⟩, st554⟩ := Jvm.LawKit.callS X553 hx (y := (⟨"java/lang/StringUTF16", "compress", "([CII)[B"⟩ : MethodName)) hown (mvT hZ (hw _ (List.mem_of_getElem? (i := 27) rfl))) (mvT hZ (hw _ (List.mem_of_getElem? (i := 28) rfl))) (mvT hZ (hw _ (List.mem_of_getElem? (i := 29) rfl))) (mvT hZ (hw _ (List.mem_of_getElem? (i := 30) rfl))) (by decide) (backOf (W := 0) (rm_cmpr3 l Z a0 hw [] d kd c0 c1 c2 h0 n0 O0 u2 u3 u4 u9) hZ (hw _ (List.mem_of_getElem? (i := 30) rfl)) (hw _ (List.mem_of_getElem? (i := 29) rfl)) (by decide) (by decide)) (g := (mkF me_ 36 #[.val (.ref a), .val (.ref d), .val (.int (0 : Int32)), .val (.int (3 : Int32)), .val .null, .unset] [(.int (3 : Int32)), (.int (0 : Int32)), (.ref d)])) rfl (by rw [hml]; rfl) (argsL := [(.ref d), (.int (0 : Int32)), (.int (3 : Int32))]) (rest := []) (lenOf pd_16 rfl) rfl (by show 2 * 0 + _ ≤ _; exact Nat.le_of_eq rfl) (hb hby d3_36) (fun _ _ => ⟨rfl, e553, (by decide : 0 + 1 ≤ _), (by decide : 0 + 3 ≤ _)⟩)
  dsimp only [Pt.U, Pt.locs, Pt.cells, Pt.slots] at X554 l554 y554 z554 st554 hQ554
  subst l554 y554 z554
  obtain ⟨b_554, k_554, rfl, Nq554, Kq554, w554_0, w554_1⟩ := hQ554
  have N555 := Fr.app N0 Nq554
  obtain ⟨h554, e554⟩ : ∃ z, T554.heap = z := ⟨_, rfl⟩
  rw [e554] at Kq554 w554_1
  have ne556 : a ≠ b_554 := Nat.ne_of_lt (Nat.lt_of_lt_of_le u5.lt w554_0)
  have ne557 : d ≠ b_554 := Nat.ne_of_lt (Nat.lt_of_lt_of_le u9.lt w554_0)
  have g558 : n0 ≤ b_554 := Nat.le_trans (own_old O0) w554_0
  have z559 : h0.size ≤ b_554 := Nat.le_trans K0.1 w554_0
  have f560 : Exa Z h554 a "java/lang/String" := u5.keep Kq554
  have f561 : Fld Z h554 a "java/lang/String" "value" "[B" .null := u6.keep Kq554 nin0
  have f562 : Fld Z h554 a "java/lang/String" "coder" "B" (.int (0 : Int32)) := u7.keep Kq554 nin0
  have f563 : Arv Z h554 d kd .char (3 : Int32) [(.int c0), (.int c1), (.int c2)] (.int (0 : Int32)) := u9.keep Kq554 nin0
  have O564 := O0.keep Kq554 all0
  have K565 := K0.trans Kq554 all0
  refine gv st554 ?_
  show G (T554.setTop (mkF me_ 39 #[.val (.ref a), .val (.ref d), .val (.int (0 : Int32)), .val (.int (3 : Int32)), .val .null, .unset] [(.ref b_554)]))
  refine gv (fun tQ kQ => XS.astore X554.here hx rfl (hb hby d3_39) rfl rfl (l' := #[.val (.ref a), .val (.ref d), .val (.int (0 : Int32)), .val (.int (3 : Int32)), .val .null, .val (.ref b_554)]) rfl kQ) ?_
  show G (T554.setTop (mkF me_ 41 #[.val (.ref a), .val (.ref d), .val (.int (0 : Int32)), .val (.int (3 : Int32)), .val .null, .val (.ref b_554)] []))
  refine gv (fun tQ kQ => XS.aloadN X554.here hx rfl (hb hby d3_41) rfl rfl kQ) ?_
  show G (T554.setTop (mkF me_ 42 #[.val (.ref a), .val (.ref d), .val (.int (0 : Int32)), .val (.int (3 : Int32)), .val .null, .val (.ref b_554)] [(.ref a)]))
  refine gv (fun tQ kQ => XS.aload X554.here hx rfl (hb hby d3_42) rfl rfl kQ) ?_
  show G (T554.setTop (mkF me_ 44 #[.val (.ref a), .val (.ref d), .val (.int (0 : Int32)), .val (.int (3 : Int32)), .val .null, .val (.ref b_554)] [(.ref b_554), (.ref a)]))
  refine gv (fun tQ kQ => XS.iloadN X554.here hx rfl (hb hby d3_44) rfl kQ) ?_
  show G (T554.setTop (mkF me_ 45 #[.val (.ref a), .val (.ref d), .val (.int (0 : Int32)), .val (.int (3 : Int32)), .val .null, .val (.ref b_554)] [(.int (3 : Int32)), (.ref b_554), (.ref a)]))
  obtain ⟨_, _, ⟨T566, L566, k566, n566⟩, -, X566, ⟨Lc566, hQ566, l566, y566, z566⟩, st566⟩ := Jvm.LawKit.callS X554 hx (y := (⟨"java/lang/StringUTF16", "coderFromArrayLen", "([BI)B"⟩ : MethodName)) hown (mvT hZ (hw _ (List.mem_of_getElem? (i := 34) rfl))) (mvT hZ (hw _ (List.mem_of_getElem? (i := 35) rfl))) (mvT hZ (hw _ (List.mem_of_getElem? (i := 29) rfl))) (mvT hZ (hw _ (List.mem_of_getElem? (i := 36) rfl))) (by decide) (backOf (W := 1) (rm_cfal3 l Z a0 hw [] b_554 k_554 (c0.toInt8.toInt32) (c1.toInt8.toInt32) (c2.toInt8.toInt32) h554 n0 O564 w554_1) hZ (hw _ (List.mem_of_getElem? (i := 36) rfl)) (hw _ (List.mem_of_getElem? (i := 29) rfl)) (by decide) (by decide)) (g := (mkF me_ 45 #[.val (.ref a), .val (.ref d), .val (.int (0 : Int32)), .val (.int (3 : Int32)), .val .null, .val (.ref b_554)] [(.int (3 : Int32)), (.ref b_554), (.ref a)])) rfl (by rw [hml]; rfl) (argsL := [(.ref b_554), (.int (3 : Int32))]) (rest := [(.ref a)]) (lenOf pd_17 rfl) rfl (by show 2 * 0 + _ ≤ _; exact Nat.le_of_eq rfl) (hb hby d3_45) (fun _ _ => ⟨rfl, e554, (by decide : 1 + 0 ≤ _), (by decide : 3 + 0 ≤ _)⟩)
  dsimp only [Pt.U, Pt.locs, Pt.cells, Pt.slots] at X566 l566 y566 z566 st566 hQ566
  subst l566 y566 z566
  obtain ⟨rfl, Nq566, eq566⟩ := hQ566
  have N567 := Fr.app N555 Nq566
  refine gv st566 ?_
  show G (T566.setTop (mkF me_ 48 #[.val (.ref a), .val (.ref d), .val (.int (0 : Int32)), .val (.int (3 : Int32)), .val .null, .val (.ref b_554)] [(.int (0 : Int32)), (.ref a)]))
  obtain ⟨T568, h568, X568, e568, W568, st568⟩ := putFN X566 hx hZ hown (hw _ (List.mem_of_getElem? (i := 25) rfl)) Via.refl eq566 f562 f560 (Or.inr ⟨(hw _ (List.mem_of_getElem? (i := 21) rfl)), rfl, hnm⟩) (hw _ (List.mem_of_getElem? (i := 2) rfl)) (ty := .byte) (v' := (.int (0 : Int32))) (by decide) rfl rfl (g := (mkF me_ 48 #[.val (.ref a), .val (.ref d), .val (.int (0 : Int32)), .val (.int (3 : Int32)), .val .null, .val (.ref b_554)] [(.int (0 : Int32)), (.ref a)])) rfl rfl (hb hby d3_48)
  refine gv st568 ?_
  have f570 : Exa Z h568 a "java/lang/String" := f560.wr W568
  have f571 : Fld Z h568 a "java/lang/String" "value" "[B" .null := f561.other W568 (Or.inr (slot_ne (Or.inr (hw _ (List.mem_of_getElem? (i := 20) rfl))) (Or.inr (hw _ (List.mem_of_getElem? (i := 21) rfl))) (by decide) (t := (.array .byte)) (t' := .byte) (by decide) (by decide)))
  have f572 : Arv Z h568 d kd .char (3 : Int32) [(.int c0), (.int c1), (.int c2)] (.int (0 : Int32)) := f563.other W568 (Ne.symm u10)
  have f573 : Arv Z h568 b_554 k_554 .byte (3 : Int32) [(.int (c0.toInt8.toInt32)), (.int (c1.toInt8.toInt32)), (.int (c2.toInt8.toInt32))] (.int (0 : Int32)) := w554_1.other W568 (Ne.symm ne556)
  have O574 := O564.wr W568 u8
  have K575 := K565.wr W568 (Or.inl (List.mem_of_getElem? (i := 0) rfl))
  have N576 := Fr.snoc X568 N567 u8
  have f569 : Fld Z h568 a "java/lang/String" "coder" "B" (.int (0 : Int32)) := f562.same W568
  show G (T568.setTop (mkF me_ 51 #[.val (.ref a), .val (.ref d), .val (.int (0 : Int32)), .val (.int (3 : Int32)), .val .null, .val (.ref b_554)] []))
  refine gv (fun tQ kQ => XS.aloadN X568.here hx rfl (hb hby d3_51) rfl rfl kQ) ?_
  show G (T568.setTop (mkF me_ 52 #[.val (.ref a), .val (.ref d), .val (.int (0 : Int32)), .val (.int (3 : Int32)), .val .null, .val (.ref b_554)] [(.ref a)]))
  refine gv (fun tQ kQ => XS.aload X568.here hx rfl (hb hby d3_52) rfl rfl kQ) ?_
  show G (T568.setTop (mkF me_ 54 #[.val (.ref a), .val (.ref d), .val (.int (0 : Int32)), .val (.int (3 : Int32)), .val .null, .val (.ref b_554)] [(.ref b_554), (.ref a)]))
  obtain ⟨T577, h577, X577, e577, W577, st577⟩ := putF X568 hx hZ hown (host := "") (Or.inl (hw _ (List.mem_of_getElem? (i := 24) rfl))) Via.refl e568 f571 f570 (Or.inr ⟨(hw _ (List.mem_of_getElem? (i := 20) rfl)), rfl, hnm⟩) (hw _ (List.mem_of_getElem? (i := 2) rfl)) (ty := (.array .byte)) (by decide) rfl rfl (g := (mkF me_ 54 #[.val (.ref a), .val (.ref d), .val (.int (0 : Int32)), .val (.int (3 : Int32)), .val .null, .val (.ref b_554)] [(.ref b_554), (.ref a)])) rfl rfl (hb hby d3_54)
  refine gv st577 ?_
  have f579 : Exa Z h577 a "java/lang/String" := f570.wr W577
  have f580 : Fld Z h577 a "java/lang/String" "coder" "B" (.int (0 : Int32)) := f569.other W577 (Or.inr (slot_ne (Or.inr (hw _ (List.mem_of_getElem? (i := 21) rfl))) (Or.inr (hw _ (List.mem_of_getElem? (i := 20) rfl))) (by decide) (t := .byte) (t' := (.array .byte)) (by decide) (by decide)))
  have f581 : Arv Z h577 d kd .char (3 : Int32) [(.int c0), (.int c1), (.int c2)] (.int (0 : Int32)) := f572.other W577 (Ne.symm u10)
  have f582 : Arv Z h577 b_554 k_554 .byte (3 : Int32) [(.int (c0.toInt8.toInt32)), (.int (c1.toInt8.toInt32)), (.int (c2.toInt8.toInt32))] (.int (0 : Int32)) := f573.other W577 (Ne.symm ne556)
  have O583 := O574.wr W577 u8
  have K584 := K575.wr W577 (Or.inl (List.mem_of_getElem? (i := 0) rfl))
  have N585 := Fr.snoc X577 N576 u8
  have f578 : Fld Z h577 a "java/lang/String" "value" "[B" (.ref b_554) := f571.same W577
  show G (T577.setTop (mkF me_ 57 #[.val (.ref a), .val (.ref d), .val (.int (0 : Int32)), .val (.int (3 : Int32)), .val .null, .val (.ref b_554)] []))
  refine gf _ (own_ret X577 Bd.notSynchronized (v := none) (fun _ => rfl) ?_ (by decide) (by decide) (fun fs hr => X577.returnOut hx Bd.returns (hb hby d3_57) hr))
  show Q_sci3 Z a d kd c0 c1 c2 cs h0 n0 _ T577.heap _
  rw [e577]
  exact ⟨b_554, k_554, rfl, N585, K584, z559, f579, f580, f578, f582⟩
def Q_sc3 (Z : State) (a : Addr) (d : Addr) (kd : ClassId) (c0 : Int32) (c1 : Int32) (c2 : Int32) (cs : Int32) (h0 : Heap) (n0 : Nat) (v : Option Value) (h : Heap) (L : List Loc) : Prop := ∃ (b : Addr), ∃ (k : ClassId), v = none ∧ Fr n0 L ∧ Keep h0 h [a] ∧ h0.size ≤ b ∧ (Exa Z h a "java/lang/String") ∧ (Fld Z h a "java/lang/String" "coder" "B" (.int (0 : Int32))) ∧ (Fld Z h a "java/lang/String" "value" "[B" (.ref b)) ∧ (Arv Z h b k .byte (3 : Int32) [(.int (c0.toInt8.toInt32)), (.int (c1.toInt8.toInt32)), (.int (c2.toInt8.toInt32))] (.int (0 : Int32)))
set_option maxRecDepth 65536 in
set_option maxHeartbeats 40000000 in
theorem rm_sc3 (l : Launch) (Z : State) (a0 : Array Value) (hw : ∀ d ∈ tables_1, d.before a0 Z = true) (ws : List Jvm.Cond) (a : Addr) (d : Addr) (kd : ClassId) (c0 : Int32) (c1 : Int32) (c2 : Int32) (cs : Int32) (h0 : Heap) (n0 : Nat) (O0 : Old Z n0 h0) (u0 : Sta Z Z.heap "java/lang/String" "COMPACT_STRINGS" "Z" (.int cs)) (u1 : ¬ (cs = (0 : Int32))) (u2 : ¬ ((255 : Int32) < c0)) (u3 : ¬ ((255 : Int32) < c1)) (u4 : ¬ ((255 : Int32) < c2)) (u5 : Exa Z h0 a "java/lang/String") (u6 : Fld Z h0 a "java/lang/String" "value" "[B" .null) (u7 : Fld Z h0 a "java/lang/String" "coder" "B" (.int (0 : Int32))) (u8 : n0 ≤ a) (u9 : Arv Z h0 d kd .char (3 : Int32) [(.int c0), (.int c1), (.int c2)] (.int (0 : Int32))) (u10 : a ≠ d) :
    MetFree l (⟨"java/lang/String", "<init>", "([C)V"⟩ : MethodName) (head1 (Jvm.Cond.code (⟨"java/lang/String", "<init>", "([C)V"⟩ : MethodName) jdk_42_method_3_code 2 none :: ws) ({ frames := 3, cells := 1, slots := 3, locals := 52 } : Room)) (fun aV U => aV = #[(.ref a), (.ref d)] ∧ Z.Warmed39 U.vm ∧ U.heap = h0) (fun _ _ _ _ _ => True) (fun _ U o U' => ∃ v L, o = .returned v ∧ Q_sc3 Z a d kd c0 c1 c2 cs h0 n0 v U'.heap L ∧ FrameEnd U o U' L ({ frames := 3, cells := 1, slots := 3, locals := 52 } : Room).cells ({ frames := 3, cells := 1, slots := 3, locals := 52 } : Room).slots) := by
  refine MetFree.of_bodySF (plainFor_of_name pn_0) hisR ?_
  intro pr_ en_ st_ me_ args below meth_ co_ s₁ Bd hml0 hP hK
  obtain ⟨rfl, hZ, hh⟩ := hP
  have hx := Bd.exec
  have hby := Bd.bytes
  have hml : co_.maxLocals = 2 := hml0
  have hown : st_.vm.findClass "java/lang/String" = some me_.cls := findClass_of_methodNamed Bd.named
  have hnm := (name_of_methodNamed Bd.named Bd.method).1
  have X0 : Stand pr_ l en_ ({ frames := 3, cells := 1, slots := 3, locals := 52 } : Room) st_ me_ #[(.ref a), (.ref d)] below meth_ co_ s₁ [] 0 0 := Stand.of_body Bd
  have e0 : s₁.heap = h0 := by rw [← hh, Bd.state]; rfl
  have N0 := Fr.nil n0
  have K0 := Keep.refl h0 [a]
  obtain ⟨G, gv, gf, gb⟩ := own_G pr_.tables en_ below st_ (Q_sc3 Z a d kd c0 c1 c2 cs h0 n0) ({ frames := 3, cells := 1, slots := 3, locals := 52 } : Room).cells ({ frames := 3, cells := 1, slots := 3, locals := 52 } : Room).slots
  show own_Fin pr_.tables en_ below st_ (Q_sc3 Z a d kd c0 c1 c2 cs h0 n0) ({ frames := 3, cells := 1, slots := 3, locals := 52 } : Room).cells ({ frames := 3, cells := 1, slots := 3, locals := 52 } : Room).slots (s₁.setTop (entryFrame me_ #[(.ref a), (.ref d)] 2))
  refine gb _ (gv (fun tQ kQ => castTop (ef_2 me_ a d) kQ) ?_)
  show G (s₁.setTop (mkF me_ 0 #[.val (.ref a), .val (.ref d)] []))
  refine gv (fun tQ kQ => XS.aloadN X0.here hx rfl (hb hby d2_0) rfl rfl kQ) ?_
  show G (s₁.setTop (mkF me_ 1 #[.val (.ref a), .val (.ref d)] [(.ref a)]))
  refine gv (fun tQ kQ => XS.aloadN X0.here hx rfl (hb hby d2_1) rfl rfl kQ) ?_
  show G (s₁.setTop (mkF me_ 2 #[.val (.ref a), .val (.ref d)] [(.ref d), (.ref a)]))
  refine gv (fun tQ kQ => XS.iconst X0.here hx rfl (hb hby d2_2) kQ) ?_
  show G (s₁.setTop (mkF me_ 3 #[.val (.ref a), .val (.ref d)] [(.int (0 : Int32)), (.ref d), (.ref a)]))
  refine gv (fun tQ kQ => XS.aloadN X0.here hx rfl (hb hby d2_3) rfl rfl kQ) ?_
  show G (s₁.setTop (mkF me_ 4 #[.val (.ref a), .val (.ref d)] [(.ref d), (.int (0 : Int32)), (.ref d), (.ref a)]))
  obtain ⟨cl586, Ar586, -, S586, n586, -, -⟩ := (id u9)
  refine gv (X0.arraylength hx (by rw [e0]; exact Ar586.1) (State.isArrayOf_alike hZ.alike Ar586.2.1) (g := (mkF me_ 4 #[.val (.ref a), .val (.ref d)] [(.ref d), (.int (0 : Int32)), (.ref d), (.ref a)])) rfl rfl (hb hby d2_4)) ?_
  rw [len_of S586 n586]
  show G (s₁.setTop (mkF me_ 5 #[.val (.ref a), .val (.ref d)] [(.int (3 : Int32)), (.int (0 : Int32)), (.ref d), (.ref a)]))
  refine gv (fun tQ kQ => XS.aconstNull X0.here hx rfl (hb hby d2_5) kQ) ?_
  show G (s₁.setTop (mkF me_ 6 #[.val (.ref a), .val (.ref d)] [.null, (.int (3 : Int32)), (.int (0 : Int32)), (.ref d), (.ref a)]))
  obtain ⟨_, _, ⟨T587, L587, k587, n587⟩, -, X587, ⟨Lc587, hQ587, l587, y587, z587⟩, st587⟩ := X0.specialBack hx (y := (⟨"java/lang/String", "<init>", "([CIILjava/lang/Void;)V"⟩ : MethodName)) rfl hown (mvT hZ (hw _ (List.mem_of_getElem? (i := 11) rfl))) (mvT hZ (hw _ (List.mem_of_getElem? (i := 12) rfl))) (mvT hZ (hw _ (List.mem_of_getElem? (i := 14) rfl))) (by decide) (backOf (W := 0) (rm_sci3 l Z a0 hw [] a d kd c0 c1 c2 cs h0 n0 O0 u0 u1 u2 u3 u4 u5 u6 u7 u8 u9 u10) hZ (hw _ (List.mem_of_getElem? (i := 14) rfl)) (hw _ (List.mem_of_getElem? (i := 3) rfl)) (by decide) (by decide)) (g := (mkF me_ 6 #[.val (.ref a), .val (.ref d)] [.null, (.int (3 : Int32)), (.int (0 : Int32)), (.ref d), (.ref a)])) rfl (by rw [hml]; rfl) (Steps.refl _) (a := a) (argsL := [(.ref d), (.int (0 : Int32)), (.int (3 : Int32)), .null]) (rest := []) (lenOf pd_14 rfl) rfl (by show 2 * 0 + _ ≤ _; exact Nat.le_of_eq rfl) (hb hby d2_6) (fun _ _ => ⟨rfl, e0, (by decide : 0 + 1 ≤ _), (by decide : 0 + 3 ≤ _)⟩)
  dsimp only [Pt.U, Pt.locs, Pt.cells, Pt.slots] at X587 l587 y587 z587 st587 hQ587
  subst l587 y587 z587
  obtain ⟨b_587, k_587, rfl, Nq587, Kq587, w587_0, w587_1, w587_2, w587_3, w587_4⟩ := hQ587
  have N588 := Fr.app N0 Nq587
  obtain ⟨h587, e587⟩ : ∃ z, T587.heap = z := ⟨_, rfl⟩
  rw [e587] at Kq587 w587_1 w587_2 w587_3 w587_4
  have ne589 : a ≠ b_587 := Nat.ne_of_lt (Nat.lt_of_lt_of_le u5.lt w587_0)
  have ne590 : d ≠ b_587 := Nat.ne_of_lt (Nat.lt_of_lt_of_le u9.lt w587_0)
  have g591 : n0 ≤ b_587 := Nat.le_trans (own_old O0) w587_0
  have z592 : h0.size ≤ b_587 := Nat.le_trans K0.1 w587_0
  have f593 : Exa Z h587 a "java/lang/String" := u5.keep Kq587
  have f594 : Arv Z h587 d kd .char (3 : Int32) [(.int c0), (.int c1), (.int c2)] (.int (0 : Int32)) := u9.keep Kq587 (ninS (Ne.symm u10) nin0)
  have O595 := O0.keep Kq587 (allS u8 all0)
  have K596 := K0.trans Kq587 (allS (Or.inl (List.mem_of_getElem? (i := 0) rfl)) all0)
  refine gv (fun tQ kQ => st587.trans kQ) ?_
  show G (T587.setTop (mkF me_ 9 #[.val (.ref a), .val (.ref d)] []))
  refine gf _ (own_ret X587 Bd.notSynchronized (v := none) (fun _ => rfl) ?_ (by decide) (by decide) (fun fs hr => X587.returnOut hx Bd.returns (hb hby d2_9) hr))
  show Q_sc3 Z a d kd c0 c1 c2 cs h0 n0 _ T587.heap _
  rw [e587]
  exact ⟨b_587, k_587, rfl, N588, K596, z592, w587_1, w587_2, w587_3, w587_4⟩
def Q_scg (Z : State) (a : Addr) (d : Addr) (kd : ClassId) (n : Int32) (c0 : Int32) (c1 : Int32) (c2 : Int32) (cs : Int32) (h0 : Heap) (n0 : Nat) (v : Option Value) (h : Heap) (L : List Loc) : Prop := ∃ (b : Addr), ∃ (k : ClassId), v = none ∧ Fr n0 L ∧ Keep h0 h [a] ∧ (Exa Z h a "java/lang/String") ∧ (Fld Z h a "java/lang/String" "coder" "B" (.int (0 : Int32))) ∧ (Fld Z h a "java/lang/String" "value" "[B" (.ref b)) ∧ (Arv Z h b k .byte n (own_bl n c0 c1 c2) (.int (0 : Int32)))
set_option maxRecDepth 65536 in
set_option maxHeartbeats 40000000 in
theorem rm_scg (l : Launch) (Z : State) (a0 : Array Value) (hw : ∀ d ∈ tables_1, d.before a0 Z = true) (ws : List Jvm.Cond) (a : Addr) (d : Addr) (kd : ClassId) (n : Int32) (c0 : Int32) (c1 : Int32) (c2 : Int32) (cs : Int32) (h0 : Heap) (n0 : Nat) (O0 : Old Z n0 h0) (u0 : Sta Z Z.heap "java/lang/String" "COMPACT_STRINGS" "Z" (.int cs)) (u1 : ¬ (cs = (0 : Int32))) (u2 : ¬ ((255 : Int32) < c0)) (u3 : ¬ ((255 : Int32) < c1)) (u4 : ¬ ((255 : Int32) < c2)) (u5 : (own_le3 n)) (u6 : Exa Z h0 a "java/lang/String") (u7 : Fld Z h0 a "java/lang/String" "value" "[B" .null) (u8 : Fld Z h0 a "java/lang/String" "coder" "B" (.int (0 : Int32))) (u9 : n0 ≤ a) (u10 : Arv Z h0 d kd .char n (own_cl n c0 c1 c2) (.int (0 : Int32))) (u11 : a ≠ d) :
    MetFree l (⟨"java/lang/String", "<init>", "([C)V"⟩ : MethodName) (head1 (Jvm.Cond.code (⟨"java/lang/String", "<init>", "([C)V"⟩ : MethodName) jdk_42_method_3_code 2 none :: ws) ({ frames := 3, cells := 4, slots := 8, locals := 52 } : Room)) (fun aV U => aV = #[(.ref a), (.ref d)] ∧ Z.Warmed39 U.vm ∧ U.heap = h0 ∧ CHv Z own_EL U.vm h0 ∧ ∀ x ∈ ([a] : List Addr), Safe Z own_EL U.vm h0 x) (fun _ _ _ _ _ => True) (fun _ U o U' => ∃ v L, o = .returned v ∧ Q_scg Z a d kd n c0 c1 c2 cs h0 n0 v U'.heap L ∧ CHr Z own_EL U.vm U.heap U'.vm U'.heap ∧ ReturnedEndW U o U' L ({ frames := 3, cells := 4, slots := 8, locals := 52 } : Room).cells ({ frames := 3, cells := 4, slots := 8, locals := 52 } : Room).slots) := by
  refine MetFree.of_bodySF (plainFor_of_name pn_0) hisR ?_
  intro pr_ en_ st_ me_ args below meth_ co_ s₁ Bd hml0 hP hK
  obtain ⟨rfl, hZ, hh, hCH, hSF⟩ := hP
  have hx := Bd.exec
  have hby := Bd.bytes
  have hEL := own_hEL hw
  have wS := own_wS hw
  have hml : co_.maxLocals = 2 := hml0
  have hown : st_.vm.findClass "java/lang/String" = some me_.cls := findClass_of_methodNamed Bd.named
  have hnm := (name_of_methodNamed Bd.named Bd.method).1
  have X0 : Stand pr_ l en_ ({ frames := 3, cells := 4, slots := 8, locals := 52 } : Room) (st_.setVm st_.vm) me_ #[(.ref a), (.ref d)] below meth_ co_ s₁ [] 0 0 := Stand.of_body Bd
  have e0 : s₁.heap = h0 := by rw [← hh, Bd.state]; rfl
  have N0 := Fr.nil n0
  have K0 := Keep.refl h0 [a]
  have hS : st_.Since st_.vm 0 := (State.WarmedH.refl st_).since 0
  have hk : 0 ≤ h0.size := Nat.zero_le _
  have CR : CHr Z own_EL st_.vm h0 st_.vm h0 := CHr.refl hCH
  have sf_a := hSF a (List.mem_of_getElem? (i := 0) rfl)
  obtain ⟨G, gv, gf, gb⟩ := own_GW Z own_EL pr_.tables en_ below st_ (Q_scg Z a d kd n c0 c1 c2 cs h0 n0) ({ frames := 3, cells := 4, slots := 8, locals := 52 } : Room).cells ({ frames := 3, cells := 4, slots := 8, locals := 52 } : Room).slots
  show own_FinW Z own_EL pr_.tables en_ below st_ (Q_scg Z a d kd n c0 c1 c2 cs h0 n0) ({ frames := 3, cells := 4, slots := 8, locals := 52 } : Room).cells ({ frames := 3, cells := 4, slots := 8, locals := 52 } : Room).slots (s₁.setTop (entryFrame me_ #[(.ref a), (.ref d)] 2))
  refine gb _ (gv (fun tQ kQ => castTop (ef_2 me_ a d) kQ) ?_)
  show G (s₁.setTop (mkF me_ 0 #[.val (.ref a), .val (.ref d)] []))
  rcases u5 with q | q | q | q
  · have A597 : Arv Z h0 d kd .char (0 : Int32) [] (.int (0 : Int32)) := own_ut (f := fun n => own_cl n c0 c1 c2) (own_cl0 c0 c1 c2) q u10
    show G (s₁.setTop (mkF me_ 0 #[.val (.ref a), .val (.ref d)] []))
    refine gv (fun tQ kQ => XS.aloadN X0.here hx rfl (hb hby d2_0) rfl rfl kQ) ?_
    show G (s₁.setTop (mkF me_ 1 #[.val (.ref a), .val (.ref d)] [(.ref a)]))
    refine gv (fun tQ kQ => XS.aloadN X0.here hx rfl (hb hby d2_1) rfl rfl kQ) ?_
    show G (s₁.setTop (mkF me_ 2 #[.val (.ref a), .val (.ref d)] [(.ref d), (.ref a)]))
    refine gv (fun tQ kQ => XS.iconst X0.here hx rfl (hb hby d2_2) kQ) ?_
    show G (s₁.setTop (mkF me_ 3 #[.val (.ref a), .val (.ref d)] [(.int (0 : Int32)), (.ref d), (.ref a)]))
    refine gv (fun tQ kQ => XS.aloadN X0.here hx rfl (hb hby d2_3) rfl rfl kQ) ?_
    show G (s₁.setTop (mkF me_ 4 #[.val (.ref a), .val (.ref d)] [(.ref d), (.int (0 : Int32)), (.ref d), (.ref a)]))
    obtain ⟨cl601, Ar601, -, S601, n601, -, -⟩ := (id A597)
    refine gv (X0.arraylength hx (by rw [e0]; exact Ar601.1) (State.isArrayOf_alike hZ.alike Ar601.2.1) (g := (mkF me_ 4 #[.val (.ref a), .val (.ref d)] [(.ref d), (.int (0 : Int32)), (.ref d), (.ref a)])) rfl rfl (hb hby d2_4)) ?_
    rw [len_of S601 n601]
    show G (s₁.setTop (mkF me_ 5 #[.val (.ref a), .val (.ref d)] [(.int (0 : Int32)), (.int (0 : Int32)), (.ref d), (.ref a)]))
    refine gv (fun tQ kQ => XS.aconstNull X0.here hx rfl (hb hby d2_5) kQ) ?_
    show G (s₁.setTop (mkF me_ 6 #[.val (.ref a), .val (.ref d)] [.null, (.int (0 : Int32)), (.int (0 : Int32)), (.ref d), (.ref a)]))
    obtain ⟨_, _, ⟨T602, L602, k602, n602⟩, -, X602, hS602, hg602, ⟨Lc602, hQ602, l602, y602, z602, CRn602⟩, st602⟩ := X0.specialBackS hx (y := (⟨"java/lang/String", "<init>", "([CIILjava/lang/Void;)V"⟩ : MethodName)) rfl hown (mvT hZ (hw _ (List.mem_of_getElem? (i := 11) rfl))) (mvT hZ (hw _ (List.mem_of_getElem? (i := 12) rfl))) (mvT hZ (hw _ (List.mem_of_getElem? (i := 14) rfl))) (by decide) (own_backH (W := 0) (rm_sci0 l Z a0 hw [] a d kd h0 n0 O0 u6 u7 u8 u9 A597) hZ (hw _ (List.mem_of_getElem? (i := 14) rfl)) (hw _ (List.mem_of_getElem? (i := 3) rfl)) (by decide) (by decide) hEL CR.1 (own_sfS u6.lt sf_a own_sf0)) (g := (mkF me_ 6 #[.val (.ref a), .val (.ref d)] [.null, (.int (0 : Int32)), (.int (0 : Int32)), (.ref d), (.ref a)])) rfl (by rw [hml]; rfl) (Steps.refl _) (a := a) (argsL := [(.ref d), (.int (0 : Int32)), (.int (0 : Int32)), .null]) (rest := []) (lenOf pd_14 rfl) rfl (by show 2 * 0 + _ ≤ _; exact Nat.le_of_eq rfl) (hb hby d2_6) (fun _ _ => ⟨rfl, e0, (by decide : 0 + 4 ≤ _), (by decide : 0 + 8 ≤ _)⟩)
    dsimp only [Pt.U, Pt.locs, Pt.cells, Pt.slots] at X602 l602 y602 z602 st602 hQ602 hS602 hg602 CRn602
    subst l602 y602 z602
    have hS := foldS hS (by rw [e0]; exact hk) hS602 hg602
    have hZ : Z.Warmed39 T602.vm := State.Warmed39.trans (t := st_.setVm st_.vm) hZ hS602.1
    have hown : T602.vm.findClass "java/lang/String" = some me_.cls := by rw [hS602.1.alike.findClass]; exact hown
    have X602 : Stand pr_ l en_ _ (st_.setVm T602.vm) me_ _ below meth_ co_ T602 _ _ _ := X602
    obtain ⟨b_602, k_602, rfl, Nq602, Kq602, w602_0, w602_1, w602_2, w602_3⟩ := hQ602
    have N603 := Fr.app N0 Nq602
    obtain ⟨h602, e602⟩ : ∃ z, T602.heap = z := ⟨_, rfl⟩
    rw [e602] at Kq602 CRn602 w602_0 w602_1 w602_2 w602_3
    have sf604 := CRn602.safe u6.lt sf_a
    have CR := CR.trans CRn602
    obtain ⟨kk602, hkk602⟩ : ∃ z, z = T602.heap.size := ⟨_, rfl⟩
    rw [← hkk602] at hS
    have hk : kk602 ≤ h602.size := by rw [hkk602, e602]; exact Nat.le_refl _
    have f605 : Exa Z h602 a "java/lang/String" := u6.keep Kq602
    have f606 : Arv Z h602 d kd .char (0 : Int32) [] (.int (0 : Int32)) := A597.keep Kq602 (ninS (Ne.symm u11) nin0)
    have O607 := O0.keep Kq602 (allS u9 all0)
    have K608 := K0.trans Kq602 (allS (Or.inl (List.mem_of_getElem? (i := 0) rfl)) all0)
    refine gv (fun tQ kQ => st602.trans kQ) ?_
    show G (T602.setTop (mkF me_ 9 #[.val (.ref a), .val (.ref d)] []))
    refine gf _ (own_retW X602 Bd.notSynchronized hS (by rw [e602]; exact hk) (v := none) (fun _ => rfl) ?_ (by decide) (by decide) (by rw [hh, e602]; exact CR.trans (CHv.at X602 hZ hEL CR.1)) (fun fs hr => X602.returnOut hx Bd.returns (hb hby d2_9) hr))
    show Q_scg Z a d kd n c0 c1 c2 cs h0 n0 _ T602.heap _
    rw [e602]
    exact ⟨b_602, k_602, rfl, N603, K608, w602_0, w602_1, w602_2, (own_tk (f := fun n => own_bl n c0 c1 c2) (own_bl0 c0 c1 c2) q w602_3)⟩
  · have A598 : Arv Z h0 d kd .char (1 : Int32) [(.int c0)] (.int (0 : Int32)) := own_ut (f := fun n => own_cl n c0 c1 c2) (own_cl1 c0 c1 c2) q u10
    show G (s₁.setTop (mkF me_ 0 #[.val (.ref a), .val (.ref d)] []))
    refine gv (fun tQ kQ => XS.aloadN X0.here hx rfl (hb hby d2_0) rfl rfl kQ) ?_
    show G (s₁.setTop (mkF me_ 1 #[.val (.ref a), .val (.ref d)] [(.ref a)]))
    refine gv (fun tQ kQ => XS.aloadN X0.here hx rfl (hb hby d2_1) rfl rfl kQ) ?_
    show G (s₁.setTop (mkF me_ 2 #[.val (.ref a), .val (.ref d)] [(.ref d), (.ref a)]))
    refine gv (fun tQ kQ => XS.iconst X0.here hx rfl (hb hby d2_2) kQ) ?_
    show G (s₁.setTop (mkF me_ 3 #[.val (.ref a), .val (.ref d)] [(.int (0 : Int32)), (.ref d), (.ref a)]))
    refine gv (fun tQ kQ => XS.aloadN X0.here hx rfl (hb hby d2_3) rfl rfl kQ) ?_
    show G (s₁.setTop (mkF me_ 4 #[.val (.ref a), .val (.ref d)] [(.ref d), (.int (0 : Int32)), (.ref d), (.ref a)]))
    obtain ⟨cl609, Ar609, -, S609, n609, -, -⟩ := (id A598)
    refine gv (X0.arraylength hx (by rw [e0]; exact Ar609.1) (State.isArrayOf_alike hZ.alike Ar609.2.1) (g := (mkF me_ 4 #[.val (.ref a), .val (.ref d)] [(.ref d), (.int (0 : Int32)), (.ref d), (.ref a)])) rfl rfl (hb hby d2_4)) ?_
    rw [len_of S609 n609]
    show G (s₁.setTop (mkF me_ 5 #[.val (.ref a), .val (.ref d)] [(.int (1 : Int32)), (.int (0 : Int32)), (.ref d), (.ref a)]))
    refine gv (fun tQ kQ => XS.aconstNull X0.here hx rfl (hb hby d2_5) kQ) ?_
    show G (s₁.setTop (mkF me_ 6 #[.val (.ref a), .val (.ref d)] [.null, (.int (1 : Int32)), (.int (0 : Int32)), (.ref d), (.ref a)]))
    obtain ⟨_, _, ⟨T610, L610, k610, n610⟩, -, X610, ⟨Lc610, hQ610, l610, y610, z610⟩, st610⟩ := X0.specialBack hx (y := (⟨"java/lang/String", "<init>", "([CIILjava/lang/Void;)V"⟩ : MethodName)) rfl hown (mvT hZ (hw _ (List.mem_of_getElem? (i := 11) rfl))) (mvT hZ (hw _ (List.mem_of_getElem? (i := 12) rfl))) (mvT hZ (hw _ (List.mem_of_getElem? (i := 14) rfl))) (by decide) (backOf (W := 0) (rm_sci1 l Z a0 hw [] a d kd c0 cs h0 n0 O0 u0 u1 u2 u6 u7 u8 u9 A598 u11) hZ (hw _ (List.mem_of_getElem? (i := 14) rfl)) (hw _ (List.mem_of_getElem? (i := 3) rfl)) (by decide) (by decide)) (g := (mkF me_ 6 #[.val (.ref a), .val (.ref d)] [.null, (.int (1 : Int32)), (.int (0 : Int32)), (.ref d), (.ref a)])) rfl (by rw [hml]; rfl) (Steps.refl _) (a := a) (argsL := [(.ref d), (.int (0 : Int32)), (.int (1 : Int32)), .null]) (rest := []) (lenOf pd_14 rfl) rfl (by show 2 * 0 + _ ≤ _; exact Nat.le_of_eq rfl) (hb hby d2_6) (fun _ _ => ⟨rfl, e0, (by decide : 0 + 1 ≤ _), (by decide : 0 + 1 ≤ _)⟩)
    dsimp only [Pt.U, Pt.locs, Pt.cells, Pt.slots] at X610 l610 y610 z610 st610 hQ610
    subst l610 y610 z610
    obtain ⟨b_610, k_610, rfl, Nq610, Kq610, w610_0, w610_1, w610_2, w610_3, w610_4⟩ := hQ610
    have N611 := Fr.app N0 Nq610
    obtain ⟨h610, e610⟩ : ∃ z, T610.heap = z := ⟨_, rfl⟩
    rw [e610] at Kq610 w610_1 w610_2 w610_3 w610_4
    have sf612 := Safe.keep Kq610 (sfS sf_a sf0) CR.1 sf_a
    have ne613 : a ≠ b_610 := Nat.ne_of_lt (Nat.lt_of_lt_of_le u6.lt w610_0)
    have ne614 : d ≠ b_610 := Nat.ne_of_lt (Nat.lt_of_lt_of_le A598.lt w610_0)
    have g615 : n0 ≤ b_610 := Nat.le_trans (own_old O0) w610_0
    have z616 : h0.size ≤ b_610 := Nat.le_trans K0.1 w610_0
    have sf617 : Safe Z own_EL st_.vm h0 b_610 := Safe.new w610_0
    have sf618 := Safe.keep Kq610 (sfS sf_a sf0) CR.1 sf617
    have CR := CR.trans (CHr.keep Kq610 (sfS sf_a sf0) CR.1)
    have hk := Nat.le_trans hk Kq610.1
    have f619 : Exa Z h610 a "java/lang/String" := u6.keep Kq610
    have f620 : Arv Z h610 d kd .char (1 : Int32) [(.int c0)] (.int (0 : Int32)) := A598.keep Kq610 (ninS (Ne.symm u11) nin0)
    have O621 := O0.keep Kq610 (allS u9 all0)
    have K622 := K0.trans Kq610 (allS (Or.inl (List.mem_of_getElem? (i := 0) rfl)) all0)
    refine gv (fun tQ kQ => st610.trans kQ) ?_
    show G (T610.setTop (mkF me_ 9 #[.val (.ref a), .val (.ref d)] []))
    refine gf _ (own_retW X610 Bd.notSynchronized hS (by rw [e610]; exact hk) (v := none) (fun _ => rfl) ?_ (by decide) (by decide) (by rw [hh, e610]; exact CR.trans (CHv.at X610 hZ hEL CR.1)) (fun fs hr => X610.returnOut hx Bd.returns (hb hby d2_9) hr))
    show Q_scg Z a d kd n c0 c1 c2 cs h0 n0 _ T610.heap _
    rw [e610]
    exact ⟨b_610, k_610, rfl, N611, K622, w610_1, w610_2, w610_3, (own_tk (f := fun n => own_bl n c0 c1 c2) (own_bl1 c0 c1 c2) q w610_4)⟩
  · have A599 : Arv Z h0 d kd .char (2 : Int32) [(.int c0), (.int c1)] (.int (0 : Int32)) := own_ut (f := fun n => own_cl n c0 c1 c2) (own_cl2 c0 c1 c2) q u10
    show G (s₁.setTop (mkF me_ 0 #[.val (.ref a), .val (.ref d)] []))
    refine gv (fun tQ kQ => XS.aloadN X0.here hx rfl (hb hby d2_0) rfl rfl kQ) ?_
    show G (s₁.setTop (mkF me_ 1 #[.val (.ref a), .val (.ref d)] [(.ref a)]))
    refine gv (fun tQ kQ => XS.aloadN X0.here hx rfl (hb hby d2_1) rfl rfl kQ) ?_
    show G (s₁.setTop (mkF me_ 2 #[.val (.ref a), .val (.ref d)] [(.ref d), (.ref a)]))
    refine gv (fun tQ kQ => XS.iconst X0.here hx rfl (hb hby d2_2) kQ) ?_
    show G (s₁.setTop (mkF me_ 3 #[.val (.ref a), .val (.ref d)] [(.int (0 : Int32)), (.ref d), (.ref a)]))
    refine gv (fun tQ kQ => XS.aloadN X0.here hx rfl (hb hby d2_3) rfl rfl kQ) ?_
    show G (s₁.setTop (mkF me_ 4 #[.val (.ref a), .val (.ref d)] [(.ref d), (.int (0 : Int32)), (.ref d), (.ref a)]))
    obtain ⟨cl623, Ar623, -, S623, n623, -, -⟩ := (id A599)
    refine gv (X0.arraylength hx (by rw [e0]; exact Ar623.1) (State.isArrayOf_alike hZ.alike Ar623.2.1) (g := (mkF me_ 4 #[.val (.ref a), .val (.ref d)] [(.ref d), (.int (0 : Int32)), (.ref d), (.ref a)])) rfl rfl (hb hby d2_4)) ?_
    rw [len_of S623 n623]
    show G (s₁.setTop (mkF me_ 5 #[.val (.ref a), .val (.ref d)] [(.int (2 : Int32)), (.int (0 : Int32)), (.ref d), (.ref a)]))
    refine gv (fun tQ kQ => XS.aconstNull X0.here hx rfl (hb hby d2_5) kQ) ?_
    show G (s₁.setTop (mkF me_ 6 #[.val (.ref a), .val (.ref d)] [.null, (.int (2 : Int32)), (.int (0 : Int32)), (.ref d), (.ref a)]))
    obtain ⟨_, _, ⟨T624, L624, k624, n624⟩, -, X624, ⟨Lc624, hQ624, l624, y624, z624⟩, st624⟩ := X0.specialBack hx (y := (⟨"java/lang/String", "<init>", "([CIILjava/lang/Void;)V"⟩ : MethodName)) rfl hown (mvT hZ (hw _ (List.mem_of_getElem? (i := 11) rfl))) (mvT hZ (hw _ (List.mem_of_getElem? (i := 12) rfl))) (mvT hZ (hw _ (List.mem_of_getElem? (i := 14) rfl))) (by decide) (backOf (W := 0) (rm_sci2 l Z a0 hw [] a d kd c0 c1 cs h0 n0 O0 u0 u1 u2 u3 u6 u7 u8 u9 A599 u11) hZ (hw _ (List.mem_of_getElem? (i := 14) rfl)) (hw _ (List.mem_of_getElem? (i := 3) rfl)) (by decide) (by decide)) (g := (mkF me_ 6 #[.val (.ref a), .val (.ref d)] [.null, (.int (2 : Int32)), (.int (0 : Int32)), (.ref d), (.ref a)])) rfl (by rw [hml]; rfl) (Steps.refl _) (a := a) (argsL := [(.ref d), (.int (0 : Int32)), (.int (2 : Int32)), .null]) (rest := []) (lenOf pd_14 rfl) rfl (by show 2 * 0 + _ ≤ _; exact Nat.le_of_eq rfl) (hb hby d2_6) (fun _ _ => ⟨rfl, e0, (by decide : 0 + 1 ≤ _), (by decide : 0 + 2 ≤ _)⟩)
    dsimp only [Pt.U, Pt.locs, Pt.cells, Pt.slots] at X624 l624 y624 z624 st624 hQ624
    subst l624 y624 z624
    obtain ⟨b_624, k_624, rfl, Nq624, Kq624, w624_0, w624_1, w624_2, w624_3, w624_4⟩ := hQ624
    have N625 := Fr.app N0 Nq624
    obtain ⟨h624, e624⟩ : ∃ z, T624.heap = z := ⟨_, rfl⟩
    rw [e624] at Kq624 w624_1 w624_2 w624_3 w624_4
    have sf626 := Safe.keep Kq624 (sfS sf_a sf0) CR.1 sf_a
    have ne627 : a ≠ b_624 := Nat.ne_of_lt (Nat.lt_of_lt_of_le u6.lt w624_0)
    have ne628 : d ≠ b_624 := Nat.ne_of_lt (Nat.lt_of_lt_of_le A599.lt w624_0)
    have g629 : n0 ≤ b_624 := Nat.le_trans (own_old O0) w624_0
    have z630 : h0.size ≤ b_624 := Nat.le_trans K0.1 w624_0
    have sf631 : Safe Z own_EL st_.vm h0 b_624 := Safe.new w624_0
    have sf632 := Safe.keep Kq624 (sfS sf_a sf0) CR.1 sf631
    have CR := CR.trans (CHr.keep Kq624 (sfS sf_a sf0) CR.1)
    have hk := Nat.le_trans hk Kq624.1
    have f633 : Exa Z h624 a "java/lang/String" := u6.keep Kq624
    have f634 : Arv Z h624 d kd .char (2 : Int32) [(.int c0), (.int c1)] (.int (0 : Int32)) := A599.keep Kq624 (ninS (Ne.symm u11) nin0)
    have O635 := O0.keep Kq624 (allS u9 all0)
    have K636 := K0.trans Kq624 (allS (Or.inl (List.mem_of_getElem? (i := 0) rfl)) all0)
    refine gv (fun tQ kQ => st624.trans kQ) ?_
    show G (T624.setTop (mkF me_ 9 #[.val (.ref a), .val (.ref d)] []))
    refine gf _ (own_retW X624 Bd.notSynchronized hS (by rw [e624]; exact hk) (v := none) (fun _ => rfl) ?_ (by decide) (by decide) (by rw [hh, e624]; exact CR.trans (CHv.at X624 hZ hEL CR.1)) (fun fs hr => X624.returnOut hx Bd.returns (hb hby d2_9) hr))
    show Q_scg Z a d kd n c0 c1 c2 cs h0 n0 _ T624.heap _
    rw [e624]
    exact ⟨b_624, k_624, rfl, N625, K636, w624_1, w624_2, w624_3, (own_tk (f := fun n => own_bl n c0 c1 c2) (own_bl2 c0 c1 c2) q w624_4)⟩
  · have A600 : Arv Z h0 d kd .char (3 : Int32) [(.int c0), (.int c1), (.int c2)] (.int (0 : Int32)) := own_ut (f := fun n => own_cl n c0 c1 c2) (own_cl3 c0 c1 c2) q u10
    show G (s₁.setTop (mkF me_ 0 #[.val (.ref a), .val (.ref d)] []))
    refine gv (fun tQ kQ => XS.aloadN X0.here hx rfl (hb hby d2_0) rfl rfl kQ) ?_
    show G (s₁.setTop (mkF me_ 1 #[.val (.ref a), .val (.ref d)] [(.ref a)]))
    refine gv (fun tQ kQ => XS.aloadN X0.here hx rfl (hb hby d2_1) rfl rfl kQ) ?_
    show G (s₁.setTop (mkF me_ 2 #[.val (.ref a), .val (.ref d)] [(.ref d), (.ref a)]))
    refine gv (fun tQ kQ => XS.iconst X0.here hx rfl (hb hby d2_2) kQ) ?_
    show G (s₁.setTop (mkF me_ 3 #[.val (.ref a), .val (.ref d)] [(.int (0 : Int32)), (.ref d), (.ref a)]))
    refine gv (fun tQ kQ => XS.aloadN X0.here hx rfl (hb hby d2_3) rfl rfl kQ) ?_
    show G (s₁.setTop (mkF me_ 4 #[.val (.ref a), .val (.ref d)] [(.ref d), (.int (0 : Int32)), (.ref d), (.ref a)]))
    obtain ⟨cl637, Ar637, -, S637, n637, -, -⟩ := (id A600)
    refine gv (X0.arraylength hx (by rw [e0]; exact Ar637.1) (State.isArrayOf_alike hZ.alike Ar637.2.1) (g := (mkF me_ 4 #[.val (.ref a), .val (.ref d)] [(.ref d), (.int (0 : Int32)), (.ref d), (.ref a)])) rfl rfl (hb hby d2_4)) ?_
    rw [len_of S637 n637]
    show G (s₁.setTop (mkF me_ 5 #[.val (.ref a), .val (.ref d)] [(.int (3 : Int32)), (.int (0 : Int32)), (.ref d), (.ref a)]))
    refine gv (fun tQ kQ => XS.aconstNull X0.here hx rfl (hb hby d2_5) kQ) ?_
    show G (s₁.setTop (mkF me_ 6 #[.val (.ref a), .val (.ref d)] [.null, (.int (3 : Int32)), (.int (0 : Int32)), (.ref d), (.ref a)]))
    obtain ⟨_, _, ⟨T638, L638, k638, n638⟩, -, X638, ⟨Lc638, hQ638, l638, y638, z638⟩, st638⟩ := X0.specialBack hx (y := (⟨"java/lang/String", "<init>", "([CIILjava/lang/Void;)V"⟩ : MethodName)) rfl hown (mvT hZ (hw _ (List.mem_of_getElem? (i := 11) rfl))) (mvT hZ (hw _ (List.mem_of_getElem? (i := 12) rfl))) (mvT hZ (hw _ (List.mem_of_getElem? (i := 14) rfl))) (by decide) (backOf (W := 0) (rm_sci3 l Z a0 hw [] a d kd c0 c1 c2 cs h0 n0 O0 u0 u1 u2 u3 u4 u6 u7 u8 u9 A600 u11) hZ (hw _ (List.mem_of_getElem? (i := 14) rfl)) (hw _ (List.mem_of_getElem? (i := 3) rfl)) (by decide) (by decide)) (g := (mkF me_ 6 #[.val (.ref a), .val (.ref d)] [.null, (.int (3 : Int32)), (.int (0 : Int32)), (.ref d), (.ref a)])) rfl (by rw [hml]; rfl) (Steps.refl _) (a := a) (argsL := [(.ref d), (.int (0 : Int32)), (.int (3 : Int32)), .null]) (rest := []) (lenOf pd_14 rfl) rfl (by show 2 * 0 + _ ≤ _; exact Nat.le_of_eq rfl) (hb hby d2_6) (fun _ _ => ⟨rfl, e0, (by decide : 0 + 1 ≤ _), (by decide : 0 + 3 ≤ _)⟩)
    dsimp only [Pt.U, Pt.locs, Pt.cells, Pt.slots] at X638 l638 y638 z638 st638 hQ638
    subst l638 y638 z638
    obtain ⟨b_638, k_638, rfl, Nq638, Kq638, w638_0, w638_1, w638_2, w638_3, w638_4⟩ := hQ638
    have N639 := Fr.app N0 Nq638
    obtain ⟨h638, e638⟩ : ∃ z, T638.heap = z := ⟨_, rfl⟩
    rw [e638] at Kq638 w638_1 w638_2 w638_3 w638_4
    have sf640 := Safe.keep Kq638 (sfS sf_a sf0) CR.1 sf_a
    have ne641 : a ≠ b_638 := Nat.ne_of_lt (Nat.lt_of_lt_of_le u6.lt w638_0)
    have ne642 : d ≠ b_638 := Nat.ne_of_lt (Nat.lt_of_lt_of_le A600.lt w638_0)
    have g643 : n0 ≤ b_638 := Nat.le_trans (own_old O0) w638_0
    have z644 : h0.size ≤ b_638 := Nat.le_trans K0.1 w638_0
    have sf645 : Safe Z own_EL st_.vm h0 b_638 := Safe.new w638_0
    have sf646 := Safe.keep Kq638 (sfS sf_a sf0) CR.1 sf645
    have CR := CR.trans (CHr.keep Kq638 (sfS sf_a sf0) CR.1)
    have hk := Nat.le_trans hk Kq638.1
    have f647 : Exa Z h638 a "java/lang/String" := u6.keep Kq638
    have f648 : Arv Z h638 d kd .char (3 : Int32) [(.int c0), (.int c1), (.int c2)] (.int (0 : Int32)) := A600.keep Kq638 (ninS (Ne.symm u11) nin0)
    have O649 := O0.keep Kq638 (allS u9 all0)
    have K650 := K0.trans Kq638 (allS (Or.inl (List.mem_of_getElem? (i := 0) rfl)) all0)
    refine gv (fun tQ kQ => st638.trans kQ) ?_
    show G (T638.setTop (mkF me_ 9 #[.val (.ref a), .val (.ref d)] []))
    refine gf _ (own_retW X638 Bd.notSynchronized hS (by rw [e638]; exact hk) (v := none) (fun _ => rfl) ?_ (by decide) (by decide) (by rw [hh, e638]; exact CR.trans (CHv.at X638 hZ hEL CR.1)) (fun fs hr => X638.returnOut hx Bd.returns (hb hby d2_9) hr))
    show Q_scg Z a d kd n c0 c1 c2 cs h0 n0 _ T638.heap _
    rw [e638]
    exact ⟨b_638, k_638, rfl, N639, K650, w638_1, w638_2, w638_3, (own_tk (f := fun n => own_bl n c0 c1 c2) (own_bl3 c0 c1 c2) q w638_4)⟩
theorem pn_6 : plainName "java/lang/Record" = true := by first | (simp [plainName, overriddenIn]; done) | decide +kernel
theorem d9_0 : decode jdk_30_method_1_code 0 = .ok (.aload_n 0, 1) := by decide +kernel
theorem d9_1 : decode jdk_30_method_1_code 1 = .ok (.invokespecial 1, 3) := by decide +kernel
theorem d9_4 : decode jdk_30_method_1_code 4 = .ok (.return_, 1) := by decide +kernel
def Q_rec (Z : State) (a : Addr) (h0 : Heap) (n0 : Nat) (v : Option Value) (h : Heap) (L : List Loc) : Prop := v = none ∧ Fr n0 L ∧ h = h0
set_option maxRecDepth 65536 in
set_option maxHeartbeats 40000000 in
theorem rm_rec (l : Launch) (Z : State) (a0 : Array Value) (hw : ∀ d ∈ tables_1, d.before a0 Z = true) (ws : List Jvm.Cond) (a : Addr) (h0 : Heap) (n0 : Nat) (O0 : Old Z n0 h0)  :
    MetFree l (⟨"java/lang/Record", "<init>", "()V"⟩ : MethodName) (head1 (Jvm.Cond.code (⟨"java/lang/Record", "<init>", "()V"⟩ : MethodName) jdk_30_method_1_code 1 none :: ws) ({ frames := 1, cells := 0, slots := 0, locals := 12 } : Room)) (fun aV U => aV = #[(.ref a)] ∧ Z.Warmed39 U.vm ∧ U.heap = h0) (fun _ _ _ _ _ => True) (fun _ U o U' => ∃ v L, o = .returned v ∧ Q_rec Z a h0 n0 v U'.heap L ∧ FrameEnd U o U' L ({ frames := 1, cells := 0, slots := 0, locals := 12 } : Room).cells ({ frames := 1, cells := 0, slots := 0, locals := 12 } : Room).slots) := by
  refine MetFree.of_bodySF (plainFor_of_name pn_6) hisR ?_
  intro pr_ en_ st_ me_ args below meth_ co_ s₁ Bd hml0 hP hK
  obtain ⟨rfl, hZ, hh⟩ := hP
  have hx := Bd.exec
  have hby := Bd.bytes
  have hml : co_.maxLocals = 1 := hml0
  have hown : st_.vm.findClass "java/lang/Record" = some me_.cls := findClass_of_methodNamed Bd.named
  have hnm := (name_of_methodNamed Bd.named Bd.method).1
  have X0 : Stand pr_ l en_ ({ frames := 1, cells := 0, slots := 0, locals := 12 } : Room) st_ me_ #[(.ref a)] below meth_ co_ s₁ [] 0 0 := Stand.of_body Bd
  have e0 : s₁.heap = h0 := by rw [← hh, Bd.state]; rfl
  have N0 := Fr.nil n0
  have K0 := Keep.refl h0 []
  obtain ⟨G, gv, gf, gb⟩ := own_G pr_.tables en_ below st_ (Q_rec Z a h0 n0) ({ frames := 1, cells := 0, slots := 0, locals := 12 } : Room).cells ({ frames := 1, cells := 0, slots := 0, locals := 12 } : Room).slots
  show own_Fin pr_.tables en_ below st_ (Q_rec Z a h0 n0) ({ frames := 1, cells := 0, slots := 0, locals := 12 } : Room).cells ({ frames := 1, cells := 0, slots := 0, locals := 12 } : Room).slots (s₁.setTop (entryFrame me_ #[(.ref a)] 1))
  refine gb _ (gv (fun tQ kQ => castTop (ef_0 me_ a) kQ) ?_)
  show G (s₁.setTop (mkF me_ 0 #[.val (.ref a)] []))
  refine gv (fun tQ kQ => XS.aloadN X0.here hx rfl (hb hby d9_0) rfl rfl kQ) ?_
  show G (s₁.setTop (mkF me_ 1 #[.val (.ref a)] [(.ref a)]))
  obtain ⟨T651, X651, e651, st651⟩ := initO X0 hx hZ hown (hw _ (List.mem_of_getElem? (i := 48) rfl)) (hw _ (List.mem_of_getElem? (i := 16) rfl)) (hw _ (List.mem_of_getElem? (i := 17) rfl)) e0 (g := (mkF me_ 1 #[.val (.ref a)] [(.ref a)])) rfl (by rw [hml]; rfl) rfl (hb hby d9_1) (by decide) (W := 0) (by show 2 * 0 + _ ≤ _; exact Nat.le_of_eq rfl) (by decide)
  refine gv st651 ?_
  show G (T651.setTop (mkF me_ 4 #[.val (.ref a)] []))
  refine gf _ (own_ret X651 Bd.notSynchronized (v := none) (fun _ => rfl) ?_ (by decide) (by decide) (fun fs hr => X651.returnOut hx Bd.returns (hb hby d9_4) hr))
  show Q_rec Z a h0 n0 _ T651.heap _
  rw [e651]
  exact ⟨rfl, N0, rfl⟩
theorem pn_7 : plainName "java/util/Objects" = true := by first | (simp [plainName, overriddenIn]; done) | decide +kernel
theorem d10_0 : decode jdk_31_method_11_code 0 = .ok (.aload_n 0, 1) := by decide +kernel
theorem d10_1 : decode jdk_31_method_11_code 1 = .ok (.ifnonnull 12, 3) := by decide +kernel
theorem d10_13 : decode jdk_31_method_11_code 13 = .ok (.aload_n 0, 1) := by decide +kernel
theorem d10_14 : decode jdk_31_method_11_code 14 = .ok (.areturn, 1) := by decide +kernel
def Q_rnn (Z : State) (a : Addr) (t_ : Addr) (h0 : Heap) (n0 : Nat) (v : Option Value) (h : Heap) (L : List Loc) : Prop := v = some (.ref a) ∧ Fr n0 L ∧ h = h0
set_option maxRecDepth 65536 in
set_option maxHeartbeats 40000000 in
theorem rm_rnn (l : Launch) (Z : State) (a0 : Array Value) (hw : ∀ d ∈ tables_1, d.before a0 Z = true) (ws : List Jvm.Cond) (a : Addr) (t_ : Addr) (h0 : Heap) (n0 : Nat) (O0 : Old Z n0 h0)  :
    MetFree l (⟨"java/util/Objects", "requireNonNull", "(Ljava/lang/Object;Ljava/lang/String;)Ljava/lang/Object;"⟩ : MethodName) (head1 (Jvm.Cond.code (⟨"java/util/Objects", "requireNonNull", "(Ljava/lang/Object;Ljava/lang/String;)Ljava/lang/Object;"⟩ : MethodName) jdk_31_method_11_code 2 (some (.object "java/lang/Object")) :: ws) ({ frames := 0, cells := 0, slots := 0, locals := 0 } : Room)) (fun aV U => aV = #[(.ref a), (.ref t_)] ∧ Z.Warmed39 U.vm ∧ U.heap = h0) (fun _ _ _ _ _ => True) (fun _ U o U' => ∃ v L, o = .returned v ∧ Q_rnn Z a t_ h0 n0 v U'.heap L ∧ FrameEnd U o U' L ({ frames := 0, cells := 0, slots := 0, locals := 0 } : Room).cells ({ frames := 0, cells := 0, slots := 0, locals := 0 } : Room).slots) := by
  refine MetFree.of_bodySF (plainFor_of_name pn_7) hisR ?_
  intro pr_ en_ st_ me_ args below meth_ co_ s₁ Bd hml0 hP hK
  obtain ⟨rfl, hZ, hh⟩ := hP
  have hx := Bd.exec
  have hby := Bd.bytes
  have hml : co_.maxLocals = 2 := hml0
  have hown : st_.vm.findClass "java/util/Objects" = some me_.cls := findClass_of_methodNamed Bd.named
  have hnm := (name_of_methodNamed Bd.named Bd.method).1
  have X0 : Stand pr_ l en_ ({ frames := 0, cells := 0, slots := 0, locals := 0 } : Room) st_ me_ #[(.ref a), (.ref t_)] below meth_ co_ s₁ [] 0 0 := Stand.of_body Bd
  have e0 : s₁.heap = h0 := by rw [← hh, Bd.state]; rfl
  have N0 := Fr.nil n0
  have K0 := Keep.refl h0 []
  obtain ⟨G, gv, gf, gb⟩ := own_G pr_.tables en_ below st_ (Q_rnn Z a t_ h0 n0) ({ frames := 0, cells := 0, slots := 0, locals := 0 } : Room).cells ({ frames := 0, cells := 0, slots := 0, locals := 0 } : Room).slots
  show own_Fin pr_.tables en_ below st_ (Q_rnn Z a t_ h0 n0) ({ frames := 0, cells := 0, slots := 0, locals := 0 } : Room).cells ({ frames := 0, cells := 0, slots := 0, locals := 0 } : Room).slots (s₁.setTop (entryFrame me_ #[(.ref a), (.ref t_)] 2))
  refine gb _ (gv (fun tQ kQ => castTop (ef_2 me_ a t_) kQ) ?_)
  show G (s₁.setTop (mkF me_ 0 #[.val (.ref a), .val (.ref t_)] []))
  refine gv (fun tQ kQ => XS.aloadN X0.here hx rfl (hb hby d10_0) rfl rfl kQ) ?_
  show G (s₁.setTop (mkF me_ 1 #[.val (.ref a), .val (.ref t_)] [(.ref a)]))
  refine gv (fun tQ kQ => XS.ifnonnullYes X0.here hx rfl (pc0 := 1) (pc' := 13) rfl (hb hby d10_1) rfl (by decide) (by decide) kQ) ?_
  show G (s₁.setTop (mkF me_ 13 #[.val (.ref a), .val (.ref t_)] []))
  refine gv (fun tQ kQ => XS.aloadN X0.here hx rfl (hb hby d10_13) rfl rfl kQ) ?_
  show G (s₁.setTop (mkF me_ 14 #[.val (.ref a), .val (.ref t_)] [(.ref a)]))
  refine gf _ (own_ret X0 Bd.notSynchronized (v := some (.ref a)) (fun h => by rw [Bd.returns] at h; cases h) ?_ (by decide) (by decide) (fun fs hr => retOut X0 hx (t := (.object "java/lang/Object")) Bd.returns rfl (Or.inr (Or.inr (Or.inr (Or.inr ⟨rfl, rfl, rfl⟩)))) (hb hby d10_14) hr))
  show Q_rnn Z a t_ h0 n0 _ s₁.heap _
  rw [e0]
  exact ⟨rfl, N0, rfl⟩
theorem ef_14 (m : MethodId) (x0 : Addr) (x1 : Addr) (x2 : Addr)  : entryFrame m #[(.ref x0), (.ref x1), (.ref x2)] 3 = mkF m 0 #[.val (.ref x0), .val (.ref x1), .val (.ref x2)] [] := by first | (simp [entryFrame, mkF, argsToLocals, Value.category]; done) | rfl
theorem pn_8 : plainName "com/example/dvalin/dvalin/RegistryException$Problem" = true := by first | (simp [plainName, overriddenIn]; done) | decide +kernel
theorem d8_0 : decode prog_14_method_1_code 0 = .ok (.aload_n 0, 1) := by decide +kernel
theorem d8_1 : decode prog_14_method_1_code 1 = .ok (.invokespecial 1, 3) := by decide +kernel
theorem pd_18 : parseMethodDescriptor "()V" = some ⟨[], none⟩ := by decide +kernel
theorem d8_4 : decode prog_14_method_1_code 4 = .ok (.aload_n 1, 1) := by decide +kernel
theorem d8_5 : decode prog_14_method_1_code 5 = .ok (.ldc 7, 2) := by decide +kernel
theorem d8_7 : decode prog_14_method_1_code 7 = .ok (.invokestatic 9, 3) := by decide +kernel
theorem pd_19 : parseMethodDescriptor "(Ljava/lang/Object;Ljava/lang/String;)Ljava/lang/Object;" = some ⟨[(.object "java/lang/Object"), (.object "java/lang/String")], some (.object "java/lang/Object")⟩ := by decide +kernel
theorem d8_10 : decode prog_14_method_1_code 10 = .ok (.pop, 1) := by decide +kernel
theorem d8_11 : decode prog_14_method_1_code 11 = .ok (.aload_n 2, 1) := by decide +kernel
theorem d8_12 : decode prog_14_method_1_code 12 = .ok (.ldc 15, 2) := by decide +kernel
theorem d8_14 : decode prog_14_method_1_code 14 = .ok (.invokestatic 9, 3) := by decide +kernel
theorem d8_17 : decode prog_14_method_1_code 17 = .ok (.pop, 1) := by decide +kernel
theorem d8_18 : decode prog_14_method_1_code 18 = .ok (.aload_n 0, 1) := by decide +kernel
theorem d8_19 : decode prog_14_method_1_code 19 = .ok (.aload_n 1, 1) := by decide +kernel
theorem d8_20 : decode prog_14_method_1_code 20 = .ok (.putfield 17, 3) := by decide +kernel
theorem d8_23 : decode prog_14_method_1_code 23 = .ok (.aload_n 0, 1) := by decide +kernel
theorem d8_24 : decode prog_14_method_1_code 24 = .ok (.aload_n 2, 1) := by decide +kernel
theorem d8_25 : decode prog_14_method_1_code 25 = .ok (.putfield 22, 3) := by decide +kernel
theorem d8_28 : decode prog_14_method_1_code 28 = .ok (.return_, 1) := by decide +kernel
def Q_pi (Z : State) (p_ : Addr) (x_ : Addr) (y_ : Addr) (h0 : Heap) (n0 : Nat) (v : Option Value) (h : Heap) (L : List Loc) : Prop := v = none ∧ Fr n0 L ∧ Keep h0 h [p_] ∧ (Exa Z h p_ "com/example/dvalin/dvalin/RegistryException$Problem") ∧ (Fld Z h p_ "com/example/dvalin/dvalin/RegistryException$Problem" "location" "Ljava/lang/String;" (.ref x_)) ∧ (Fld Z h p_ "com/example/dvalin/dvalin/RegistryException$Problem" "message" "Ljava/lang/String;" (.ref y_))
set_option maxRecDepth 65536 in
set_option maxHeartbeats 40000000 in
theorem rm_pi (l : Launch) (Z : State) (a0 : Array Value) (hw : ∀ d ∈ tables_1, d.before a0 Z = true) (ws : List Jvm.Cond) (p_ : Addr) (x_ : Addr) (y_ : Addr) (h0 : Heap) (n0 : Nat) (O0 : Old Z n0 h0) (u0 : Exa Z h0 p_ "com/example/dvalin/dvalin/RegistryException$Problem") (u1 : Fld Z h0 p_ "com/example/dvalin/dvalin/RegistryException$Problem" "location" "Ljava/lang/String;" .null) (u2 : Fld Z h0 p_ "com/example/dvalin/dvalin/RegistryException$Problem" "message" "Ljava/lang/String;" .null) (u3 : n0 ≤ p_) :
    MetFree l (⟨"com/example/dvalin/dvalin/RegistryException$Problem", "<init>", "(Ljava/lang/String;Ljava/lang/String;)V"⟩ : MethodName) (head1 (Jvm.Cond.code (⟨"com/example/dvalin/dvalin/RegistryException$Problem", "<init>", "(Ljava/lang/String;Ljava/lang/String;)V"⟩ : MethodName) prog_14_method_1_code 3 none :: ws) ({ frames := 2, cells := 4, slots := 68, locals := 24 } : Room)) (fun aV U => aV = #[(.ref p_), (.ref x_), (.ref y_)] ∧ Z.Warmed39 U.vm ∧ U.heap = h0 ∧ CHv Z own_EL U.vm h0 ∧ ∀ x ∈ ([] : List Addr), Safe Z own_EL U.vm h0 x) (fun _ _ _ _ _ => True) (fun _ U o U' => ∃ v L, o = .returned v ∧ Q_pi Z p_ x_ y_ h0 n0 v U'.heap L ∧ CHr Z own_EL U.vm U.heap U'.vm U'.heap ∧ ReturnedEndW U o U' L ({ frames := 2, cells := 4, slots := 68, locals := 24 } : Room).cells ({ frames := 2, cells := 4, slots := 68, locals := 24 } : Room).slots) := by
  refine MetFree.of_bodySF (plainFor_of_name pn_8) hisR ?_
  intro pr_ en_ st_ me_ args below meth_ co_ s₁ Bd hml0 hP hK
  obtain ⟨rfl, hZ, hh, hCH, hSF⟩ := hP
  have hx := Bd.exec
  have hby := Bd.bytes
  have hEL := own_hEL hw
  have wS := own_wS hw
  have hml : co_.maxLocals = 3 := hml0
  have hown : st_.vm.findClass "com/example/dvalin/dvalin/RegistryException$Problem" = some me_.cls := findClass_of_methodNamed Bd.named
  have hnm := (name_of_methodNamed Bd.named Bd.method).1
  have X0 : Stand pr_ l en_ ({ frames := 2, cells := 4, slots := 68, locals := 24 } : Room) (st_.setVm st_.vm) me_ #[(.ref p_), (.ref x_), (.ref y_)] below meth_ co_ s₁ [] 0 0 := Stand.of_body Bd
  have e0 : s₁.heap = h0 := by rw [← hh, Bd.state]; rfl
  have N0 := Fr.nil n0
  have K0 := Keep.refl h0 [p_]
  have hS : st_.Since st_.vm 0 := (State.WarmedH.refl st_).since 0
  have hk : 0 ≤ h0.size := Nat.zero_le _
  have CR : CHr Z own_EL st_.vm h0 st_.vm h0 := CHr.refl hCH
  obtain ⟨G, gv, gf, gb⟩ := own_GW Z own_EL pr_.tables en_ below st_ (Q_pi Z p_ x_ y_ h0 n0) ({ frames := 2, cells := 4, slots := 68, locals := 24 } : Room).cells ({ frames := 2, cells := 4, slots := 68, locals := 24 } : Room).slots
  show own_FinW Z own_EL pr_.tables en_ below st_ (Q_pi Z p_ x_ y_ h0 n0) ({ frames := 2, cells := 4, slots := 68, locals := 24 } : Room).cells ({ frames := 2, cells := 4, slots := 68, locals := 24 } : Room).slots (s₁.setTop (entryFrame me_ #[(.ref p_), (.ref x_), (.ref y_)] 3))
  refine gb _ (gv (fun tQ kQ => castTop (ef_14 me_ p_ x_ y_) kQ) ?_)
  show G (s₁.setTop (mkF me_ 0 #[.val (.ref p_), .val (.ref x_), .val (.ref y_)] []))
  refine gv (fun tQ kQ => XS.aloadN X0.here hx rfl (hb hby d8_0) rfl rfl kQ) ?_
  show G (s₁.setTop (mkF me_ 1 #[.val (.ref p_), .val (.ref x_), .val (.ref y_)] [(.ref p_)]))
  obtain ⟨_, _, ⟨T652, L652, k652, n652⟩, -, X652, ⟨Lc652, hQ652, l652, y652, z652⟩, st652⟩ := X0.specialBack hx (y := (⟨"java/lang/Record", "<init>", "()V"⟩ : MethodName)) rfl hown (mvT hZ (hw _ (List.mem_of_getElem? (i := 43) rfl))) (mvT hZ (hw _ (List.mem_of_getElem? (i := 44) rfl))) (mvT hZ (hw _ (List.mem_of_getElem? (i := 47) rfl))) (by decide) (backOf (W := 0) (rm_rec l Z a0 hw [] p_ h0 n0 O0 ) hZ (hw _ (List.mem_of_getElem? (i := 47) rfl)) (hw _ (List.mem_of_getElem? (i := 46) rfl)) (by decide) (by decide)) (g := (mkF me_ 1 #[.val (.ref p_), .val (.ref x_), .val (.ref y_)] [(.ref p_)])) rfl (by rw [hml]; rfl) (Steps.refl _) (a := p_) (argsL := []) (rest := []) (lenOf pd_18 rfl) rfl (by show 2 * 0 + _ ≤ _; exact Nat.le_of_eq rfl) (hb hby d8_1) (fun _ _ => ⟨rfl, e0, (by decide : 0 + 0 ≤ _), (by decide : 0 + 0 ≤ _)⟩)
  dsimp only [Pt.U, Pt.locs, Pt.cells, Pt.slots] at X652 l652 y652 z652 st652 hQ652
  subst l652 y652 z652
  obtain ⟨rfl, Nq652, eq652⟩ := hQ652
  have N653 := Fr.app N0 Nq652
  refine gv (fun tQ kQ => st652.trans kQ) ?_
  show G (T652.setTop (mkF me_ 4 #[.val (.ref p_), .val (.ref x_), .val (.ref y_)] []))
  refine gv (fun tQ kQ => XS.aloadN X652.here hx rfl (hb hby d8_4) rfl rfl kQ) ?_
  show G (T652.setTop (mkF me_ 5 #[.val (.ref p_), .val (.ref x_), .val (.ref y_)] [(.ref x_)]))
  obtain ⟨a654, T654, h654, k654, b654, kc654, X654, e654, E654, hS, hk, hZ, hown, ES654, FC654, FV654, AV654, -, -, CRn654, L654, sn654, st654⟩ := ldcCH X652 hx hZ hown (hw _ (List.mem_of_getElem? (i := 49) rfl)) wS eq652 hS hk hEL (List.mem_of_getElem? (i := 0) rfl) CR.1 (vs := [(.int (108 : Int32)), (.int (111 : Int32)), (.int (99 : Int32)), (.int (97 : Int32)), (.int (116 : Int32)), (.int (105 : Int32)), (.int (111 : Int32)), (.int (110 : Int32))]) (z := (8 : Int32)) ⟨by decide, by decide⟩ (by decide) (by decide) (g := (mkF me_ 5 #[.val (.ref p_), .val (.ref x_), .val (.ref y_)] [(.ref x_)])) rfl (hb hby d8_5) (n := 32) (by decide) (by decide) (by decide) (by decide)
  refine gv st654 ?_
  have f655 : Exa Z h654 p_ "com/example/dvalin/dvalin/RegistryException$Problem" := u0.ext E654
  have f656 : Fld Z h654 p_ "com/example/dvalin/dvalin/RegistryException$Problem" "location" "Ljava/lang/String;" .null := u1.ext E654
  have f657 : Fld Z h654 p_ "com/example/dvalin/dvalin/RegistryException$Problem" "message" "Ljava/lang/String;" .null := u2.ext E654
  have O658 := O0.ext E654
  have K659 := K0.ext E654
  have CR := CR.trans CRn654
  show G (T654.setTop (mkF me_ 7 #[.val (.ref p_), .val (.ref x_), .val (.ref y_)] [(.ref a654), (.ref x_)]))
  obtain ⟨_, _, ⟨T660, L660, k660, n660⟩, -, X660, ⟨Lc660, hQ660, l660, y660, z660⟩, st660⟩ := Jvm.LawKit.callS X654 hx (y := (⟨"java/util/Objects", "requireNonNull", "(Ljava/lang/Object;Ljava/lang/String;)Ljava/lang/Object;"⟩ : MethodName)) hown (mvT hZ (hw _ (List.mem_of_getElem? (i := 50) rfl))) (mvT hZ (hw _ (List.mem_of_getElem? (i := 51) rfl))) (mvT hZ (hw _ (List.mem_of_getElem? (i := 52) rfl))) (mvT hZ (hw _ (List.mem_of_getElem? (i := 53) rfl))) (by decide) (backOf (W := 0) (rm_rnn l Z a0 hw [] x_ a654 h654 n0 O658 ) hZ (hw _ (List.mem_of_getElem? (i := 53) rfl)) (hw _ (List.mem_of_getElem? (i := 52) rfl)) (by decide) (by decide)) (g := (mkF me_ 7 #[.val (.ref p_), .val (.ref x_), .val (.ref y_)] [(.ref a654), (.ref x_)])) rfl (by rw [hml]; rfl) (argsL := [(.ref x_), (.ref a654)]) (rest := []) (lenOf pd_19 rfl) rfl (by show 2 * 0 + _ ≤ _; exact Nat.le_of_eq rfl) (hb hby d8_7) (fun _ _ => ⟨rfl, e654, (by decide : 2 + 0 ≤ _), (by decide : 36 + 0 ≤ _)⟩)
  dsimp only [Pt.U, Pt.locs, Pt.cells, Pt.slots] at X660 l660 y660 z660 st660 hQ660
  subst l660 y660 z660
  obtain ⟨rfl, Nq660, eq660⟩ := hQ660
  have N661 := Fr.app N653 Nq660
  refine gv st660 ?_
  show G (T660.setTop (mkF me_ 10 #[.val (.ref p_), .val (.ref x_), .val (.ref y_)] [(.ref x_)]))
  refine gv (fun tQ kQ => XS.pop X660.here hx rfl (hb hby d8_10) rfl rfl kQ) ?_
  show G (T660.setTop (mkF me_ 11 #[.val (.ref p_), .val (.ref x_), .val (.ref y_)] []))
  refine gv (fun tQ kQ => XS.aloadN X660.here hx rfl (hb hby d8_11) rfl rfl kQ) ?_
  show G (T660.setTop (mkF me_ 12 #[.val (.ref p_), .val (.ref x_), .val (.ref y_)] [(.ref y_)]))
  obtain ⟨a662, T662, h662, k662, b662, kc662, X662, e662, E662, hS, hk, hZ, hown, ES662, FC662, FV662, AV662, -, -, CRn662, L662, sn662, st662⟩ := ldcCH X660 hx hZ hown (hw _ (List.mem_of_getElem? (i := 54) rfl)) wS eq660 hS hk hEL (List.mem_of_getElem? (i := 1) rfl) CR.1 (vs := [(.int (109 : Int32)), (.int (101 : Int32)), (.int (115 : Int32)), (.int (115 : Int32)), (.int (97 : Int32)), (.int (103 : Int32)), (.int (101 : Int32))]) (z := (7 : Int32)) ⟨by decide, by decide⟩ (by decide) (by decide) (g := (mkF me_ 12 #[.val (.ref p_), .val (.ref x_), .val (.ref y_)] [(.ref y_)])) rfl (hb hby d8_12) (n := 28) (by decide) (by decide) (by decide) (by decide)
  refine gv st662 ?_
  have f663 : Exa Z h662 p_ "com/example/dvalin/dvalin/RegistryException$Problem" := f655.ext E662
  have f664 : Fld Z h662 p_ "com/example/dvalin/dvalin/RegistryException$Problem" "location" "Ljava/lang/String;" .null := f656.ext E662
  have f665 : Fld Z h662 p_ "com/example/dvalin/dvalin/RegistryException$Problem" "message" "Ljava/lang/String;" .null := f657.ext E662
  have f666 : Exa Z h662 a654 "java/lang/String" := ES654.ext E662
  have f667 : Fld Z h662 a654 "java/lang/String" "coder" "B" (.int (0 : Int32)) := FC654.ext E662
  have f668 : Fld Z h662 a654 "java/lang/String" "value" "[B" (.ref b654) := FV654.ext E662
  have f669 : Arv Z h662 b654 kc654 .byte (8 : Int32) [(.int (108 : Int32)), (.int (111 : Int32)), (.int (99 : Int32)), (.int (97 : Int32)), (.int (116 : Int32)), (.int (105 : Int32)), (.int (111 : Int32)), (.int (110 : Int32))] (.int (0 : Int32)) := AV654.ext E662
  have O670 := O658.ext E662
  have K671 := K659.ext E662
  have CR := CR.trans CRn662
  show G (T662.setTop (mkF me_ 14 #[.val (.ref p_), .val (.ref x_), .val (.ref y_)] [(.ref a662), (.ref y_)]))
  obtain ⟨_, _, ⟨T672, L672, k672, n672⟩, -, X672, ⟨Lc672, hQ672, l672, y672, z672⟩, st672⟩ := Jvm.LawKit.callS X662 hx (y := (⟨"java/util/Objects", "requireNonNull", "(Ljava/lang/Object;Ljava/lang/String;)Ljava/lang/Object;"⟩ : MethodName)) hown (mvT hZ (hw _ (List.mem_of_getElem? (i := 50) rfl))) (mvT hZ (hw _ (List.mem_of_getElem? (i := 51) rfl))) (mvT hZ (hw _ (List.mem_of_getElem? (i := 52) rfl))) (mvT hZ (hw _ (List.mem_of_getElem? (i := 53) rfl))) (by decide) (backOf (W := 0) (rm_rnn l Z a0 hw [] y_ a662 h662 n0 O670 ) hZ (hw _ (List.mem_of_getElem? (i := 53) rfl)) (hw _ (List.mem_of_getElem? (i := 52) rfl)) (by decide) (by decide)) (g := (mkF me_ 14 #[.val (.ref p_), .val (.ref x_), .val (.ref y_)] [(.ref a662), (.ref y_)])) rfl (by rw [hml]; rfl) (argsL := [(.ref y_), (.ref a662)]) (rest := []) (lenOf pd_19 rfl) rfl (by show 2 * 0 + _ ≤ _; exact Nat.le_of_eq rfl) (hb hby d8_14) (fun _ _ => ⟨rfl, e662, (by decide : 4 + 0 ≤ _), (by decide : 68 + 0 ≤ _)⟩)
  dsimp only [Pt.U, Pt.locs, Pt.cells, Pt.slots] at X672 l672 y672 z672 st672 hQ672
  subst l672 y672 z672
  obtain ⟨rfl, Nq672, eq672⟩ := hQ672
  have N673 := Fr.app N661 Nq672
  refine gv st672 ?_
  show G (T672.setTop (mkF me_ 17 #[.val (.ref p_), .val (.ref x_), .val (.ref y_)] [(.ref y_)]))
  refine gv (fun tQ kQ => XS.pop X672.here hx rfl (hb hby d8_17) rfl rfl kQ) ?_
  show G (T672.setTop (mkF me_ 18 #[.val (.ref p_), .val (.ref x_), .val (.ref y_)] []))
  refine gv (fun tQ kQ => XS.aloadN X672.here hx rfl (hb hby d8_18) rfl rfl kQ) ?_
  show G (T672.setTop (mkF me_ 19 #[.val (.ref p_), .val (.ref x_), .val (.ref y_)] [(.ref p_)]))
  refine gv (fun tQ kQ => XS.aloadN X672.here hx rfl (hb hby d8_19) rfl rfl kQ) ?_
  show G (T672.setTop (mkF me_ 20 #[.val (.ref p_), .val (.ref x_), .val (.ref y_)] [(.ref x_), (.ref p_)]))
  obtain ⟨T674, h674, X674, e674, W674, st674⟩ := putF X672 hx hZ hown (host := "") (Or.inl (hw _ (List.mem_of_getElem? (i := 55) rfl))) Via.refl eq672 f664 f663 (Or.inr ⟨(hw _ (List.mem_of_getElem? (i := 56) rfl)), rfl, hnm⟩) (hw _ (List.mem_of_getElem? (i := 38) rfl)) (ty := (.object "java/lang/String")) (by decide) rfl rfl (g := (mkF me_ 20 #[.val (.ref p_), .val (.ref x_), .val (.ref y_)] [(.ref x_), (.ref p_)])) rfl rfl (hb hby d8_20)
  refine gv st674 ?_
  have CR := CR.trans (CHr.wr W674 (Safe.exa hZ.alike f663 (by decide) (by decide)) CR.1)
  have hk := Nat.le_trans hk (Keep.of_wr W674).1
  have f676 : Exa Z h674 p_ "com/example/dvalin/dvalin/RegistryException$Problem" := f663.wr W674
  have f677 : Fld Z h674 p_ "com/example/dvalin/dvalin/RegistryException$Problem" "message" "Ljava/lang/String;" .null := f665.other W674 (Or.inr (slot_ne (Or.inr (hw _ (List.mem_of_getElem? (i := 58) rfl))) (Or.inr (hw _ (List.mem_of_getElem? (i := 56) rfl))) (by decide) (t := (.object "java/lang/String")) (t' := (.object "java/lang/String")) (by decide) (by decide)))
  have f678 : Exa Z h674 a654 "java/lang/String" := f666.wr W674
  have f679 : Fld Z h674 a654 "java/lang/String" "coder" "B" (.int (0 : Int32)) := f667.other W674 (Or.inl (ne_exa f666 f663 (by decide)))
  have f680 : Fld Z h674 a654 "java/lang/String" "value" "[B" (.ref b654) := f668.other W674 (Or.inl (ne_exa f666 f663 (by decide)))
  have f681 : Arv Z h674 b654 kc654 .byte (8 : Int32) [(.int (108 : Int32)), (.int (111 : Int32)), (.int (99 : Int32)), (.int (97 : Int32)), (.int (116 : Int32)), (.int (105 : Int32)), (.int (111 : Int32)), (.int (110 : Int32))] (.int (0 : Int32)) := f669.other W674 (Ne.symm (own_ne_arv f663 (hw _ (List.mem_of_getElem? (i := 38) rfl)) f669))
  have f682 : Exa Z h674 a662 "java/lang/String" := ES662.wr W674
  have f683 : Fld Z h674 a662 "java/lang/String" "coder" "B" (.int (0 : Int32)) := FC662.other W674 (Or.inl (ne_exa ES662 f663 (by decide)))
  have f684 : Fld Z h674 a662 "java/lang/String" "value" "[B" (.ref b662) := FV662.other W674 (Or.inl (ne_exa ES662 f663 (by decide)))
  have f685 : Arv Z h674 b662 kc662 .byte (7 : Int32) [(.int (109 : Int32)), (.int (101 : Int32)), (.int (115 : Int32)), (.int (115 : Int32)), (.int (97 : Int32)), (.int (103 : Int32)), (.int (101 : Int32))] (.int (0 : Int32)) := AV662.other W674 (Ne.symm (own_ne_arv f663 (hw _ (List.mem_of_getElem? (i := 38) rfl)) AV662))
  have O686 := O670.wr W674 u3
  have K687 := K671.wr W674 (Or.inl (List.mem_of_getElem? (i := 0) rfl))
  have N688 := Fr.snoc X674 N673 u3
  have f675 : Fld Z h674 p_ "com/example/dvalin/dvalin/RegistryException$Problem" "location" "Ljava/lang/String;" (.ref x_) := f664.same W674
  show G (T674.setTop (mkF me_ 23 #[.val (.ref p_), .val (.ref x_), .val (.ref y_)] []))
  refine gv (fun tQ kQ => XS.aloadN X674.here hx rfl (hb hby d8_23) rfl rfl kQ) ?_
  show G (T674.setTop (mkF me_ 24 #[.val (.ref p_), .val (.ref x_), .val (.ref y_)] [(.ref p_)]))
  refine gv (fun tQ kQ => XS.aloadN X674.here hx rfl (hb hby d8_24) rfl rfl kQ) ?_
  show G (T674.setTop (mkF me_ 25 #[.val (.ref p_), .val (.ref x_), .val (.ref y_)] [(.ref y_), (.ref p_)]))
  obtain ⟨T689, h689, X689, e689, W689, st689⟩ := putF X674 hx hZ hown (host := "") (Or.inl (hw _ (List.mem_of_getElem? (i := 57) rfl))) Via.refl e674 f677 f676 (Or.inr ⟨(hw _ (List.mem_of_getElem? (i := 58) rfl)), rfl, hnm⟩) (hw _ (List.mem_of_getElem? (i := 38) rfl)) (ty := (.object "java/lang/String")) (by decide) rfl rfl (g := (mkF me_ 25 #[.val (.ref p_), .val (.ref x_), .val (.ref y_)] [(.ref y_), (.ref p_)])) rfl rfl (hb hby d8_25)
  refine gv st689 ?_
  have CR := CR.trans (CHr.wr W689 (Safe.exa hZ.alike f676 (by decide) (by decide)) CR.1)
  have hk := Nat.le_trans hk (Keep.of_wr W689).1
  have f691 : Exa Z h689 p_ "com/example/dvalin/dvalin/RegistryException$Problem" := f676.wr W689
  have f692 : Fld Z h689 p_ "com/example/dvalin/dvalin/RegistryException$Problem" "location" "Ljava/lang/String;" (.ref x_) := f675.other W689 (Or.inr (slot_ne (Or.inr (hw _ (List.mem_of_getElem? (i := 56) rfl))) (Or.inr (hw _ (List.mem_of_getElem? (i := 58) rfl))) (by decide) (t := (.object "java/lang/String")) (t' := (.object "java/lang/String")) (by decide) (by decide)))
  have f693 : Exa Z h689 a654 "java/lang/String" := f678.wr W689
  have f694 : Fld Z h689 a654 "java/lang/String" "coder" "B" (.int (0 : Int32)) := f679.other W689 (Or.inl (ne_exa f678 f676 (by decide)))
  have f695 : Fld Z h689 a654 "java/lang/String" "value" "[B" (.ref b654) := f680.other W689 (Or.inl (ne_exa f678 f676 (by decide)))
  have f696 : Arv Z h689 b654 kc654 .byte (8 : Int32) [(.int (108 : Int32)), (.int (111 : Int32)), (.int (99 : Int32)), (.int (97 : Int32)), (.int (116 : Int32)), (.int (105 : Int32)), (.int (111 : Int32)), (.int (110 : Int32))] (.int (0 : Int32)) := f681.other W689 (Ne.symm (own_ne_arv f676 (hw _ (List.mem_of_getElem? (i := 38) rfl)) f681))
  have f697 : Exa Z h689 a662 "java/lang/String" := f682.wr W689
  have f698 : Fld Z h689 a662 "java/lang/String" "coder" "B" (.int (0 : Int32)) := f683.other W689 (Or.inl (ne_exa f682 f676 (by decide)))
  have f699 : Fld Z h689 a662 "java/lang/String" "value" "[B" (.ref b662) := f684.other W689 (Or.inl (ne_exa f682 f676 (by decide)))
  have f700 : Arv Z h689 b662 kc662 .byte (7 : Int32) [(.int (109 : Int32)), (.int (101 : Int32)), (.int (115 : Int32)), (.int (115 : Int32)), (.int (97 : Int32)), (.int (103 : Int32)), (.int (101 : Int32))] (.int (0 : Int32)) := f685.other W689 (Ne.symm (own_ne_arv f676 (hw _ (List.mem_of_getElem? (i := 38) rfl)) f685))
  have O701 := O686.wr W689 u3
  have K702 := K687.wr W689 (Or.inl (List.mem_of_getElem? (i := 0) rfl))
  have N703 := Fr.snoc X689 N688 u3
  have f690 : Fld Z h689 p_ "com/example/dvalin/dvalin/RegistryException$Problem" "message" "Ljava/lang/String;" (.ref y_) := f677.same W689
  show G (T689.setTop (mkF me_ 28 #[.val (.ref p_), .val (.ref x_), .val (.ref y_)] []))
  refine gf _ (own_retW X689 Bd.notSynchronized hS (by rw [e689]; exact hk) (v := none) (fun _ => rfl) ?_ (by decide) (by decide) (by rw [hh, e689]; exact CR.trans (CHv.at X689 hZ hEL CR.1)) (fun fs hr => X689.returnOut hx Bd.returns (hb hby d8_28) hr))
  show Q_pi Z p_ x_ y_ h0 n0 _ T689.heap _
  rw [e689]
  exact ⟨rfl, N703, K702, f691, f692, f690⟩
theorem d11_0 : decode prog_14_method_2_code 0 = .ok (.new 24, 3) := by decide +kernel
theorem d11_3 : decode prog_14_method_2_code 3 = .ok (.dup, 1) := by decide +kernel
theorem d11_4 : decode prog_14_method_2_code 4 = .ok (.invokespecial 26, 3) := by decide +kernel
theorem d11_7 : decode prog_14_method_2_code 7 = .ok (.aload_n 0, 1) := by decide +kernel
theorem d11_8 : decode prog_14_method_2_code 8 = .ok (.getfield 17, 3) := by decide +kernel
theorem d11_11 : decode prog_14_method_2_code 11 = .ok (.invokevirtual 27, 3) := by decide +kernel
theorem pd_20 : parseMethodDescriptor "(Ljava/lang/String;)Ljava/lang/StringBuilder;" = some ⟨[(.object "java/lang/String")], some (.object "java/lang/StringBuilder")⟩ := by decide +kernel
theorem d11_14 : decode prog_14_method_2_code 14 = .ok (.ldc 31, 2) := by decide +kernel
theorem d11_16 : decode prog_14_method_2_code 16 = .ok (.invokevirtual 27, 3) := by decide +kernel
theorem d11_19 : decode prog_14_method_2_code 19 = .ok (.aload_n 0, 1) := by decide +kernel
theorem d11_20 : decode prog_14_method_2_code 20 = .ok (.getfield 22, 3) := by decide +kernel
theorem d11_23 : decode prog_14_method_2_code 23 = .ok (.invokevirtual 27, 3) := by decide +kernel
theorem d11_26 : decode prog_14_method_2_code 26 = .ok (.invokevirtual 33, 3) := by decide +kernel
theorem pd_21 : parseMethodDescriptor "()Ljava/lang/String;" = some ⟨[], some (.object "java/lang/String")⟩ := by decide +kernel
theorem d11_29 : decode prog_14_method_2_code 29 = .ok (.areturn, 1) := by decide +kernel
def Q_pts (Z : State) (p_ : Addr) (a : Addr) (b : Addr) (k : ClassId) (ln : Int32) (w1 : List Value) (y_ : Addr) (b2 : Addr) (k2 : ClassId) (mn : Int32) (w2 : List Value) (cs : Int32) (h0 : Heap) (n0 : Nat) (v : Option Value) (h : Heap) (L : List Loc) : Prop := ∃ (s : Addr), ∃ (r : Addr), ∃ (kr : ClassId), v = some (.ref s) ∧ Fr n0 L ∧ Keep h0 h [] ∧ h0.size ≤ s ∧ h0.size ≤ r ∧ (Exa Z h s "java/lang/String") ∧ (Fld Z h s "java/lang/String" "coder" "B" (.int (0 : Int32))) ∧ (Fld Z h s "java/lang/String" "value" "[B" (.ref r)) ∧ (Arv Z h r kr .byte ((((0 : Int32) + ln) + (2 : Int32)) + mn) (own_V ln mn w1 w2) (.int (0 : Int32)))
set_option maxRecDepth 65536 in
set_option maxHeartbeats 40000000 in
theorem rm_pts (l : Launch) (Z : State) (a0 : Array Value) (hw : ∀ d ∈ tables_1, d.before a0 Z = true) (ws : List Jvm.Cond) (p_ : Addr) (a : Addr) (b : Addr) (k : ClassId) (ln : Int32) (w1 : List Value) (y_ : Addr) (b2 : Addr) (k2 : ClassId) (mn : Int32) (w2 : List Value) (cs : Int32) (h0 : Heap) (n0 : Nat) (O0 : Old Z n0 h0) (u0 : Sta Z Z.heap "java/lang/String" "COMPACT_STRINGS" "Z" (.int cs)) (u1 : ¬ (cs = (0 : Int32))) (u2 : Exa Z h0 p_ "com/example/dvalin/dvalin/RegistryException$Problem") (u3 : Fld Z h0 p_ "com/example/dvalin/dvalin/RegistryException$Problem" "location" "Ljava/lang/String;" (.ref a)) (u4 : Fld Z h0 p_ "com/example/dvalin/dvalin/RegistryException$Problem" "message" "Ljava/lang/String;" (.ref y_)) (u5 : Exa Z h0 a "java/lang/String") (u6 : Fld Z h0 a "java/lang/String" "coder" "B" (.int (0 : Int32))) (u7 : Fld Z h0 a "java/lang/String" "value" "[B" (.ref b)) (u8 : Arv Z h0 b k .byte ln w1 (.int (0 : Int32))) (u9 : Exa Z h0 y_ "java/lang/String") (u10 : Fld Z h0 y_ "java/lang/String" "coder" "B" (.int (0 : Int32))) (u11 : Fld Z h0 y_ "java/lang/String" "value" "[B" (.ref b2)) (u12 : Arv Z h0 b2 k2 .byte mn w2 (.int (0 : Int32))) (u13 : (own_le3 ln)) (u14 : (own_le3 mn)) :
    MetFree l (⟨"com/example/dvalin/dvalin/RegistryException$Problem", "toString", "()Ljava/lang/String;"⟩ : MethodName) (head1 (Jvm.Cond.code (⟨"com/example/dvalin/dvalin/RegistryException$Problem", "toString", "()Ljava/lang/String;"⟩ : MethodName) prog_14_method_2_code 1 (some (.object "java/lang/String")) :: ws) ({ frames := 6, cells := 6, slots := 52, locals := 113 } : Room)) (fun aV U => aV = #[(.ref p_)] ∧ Z.Warmed39 U.vm ∧ U.heap = h0 ∧ CHv Z own_EL U.vm h0 ∧ ∀ x ∈ ([] : List Addr), Safe Z own_EL U.vm h0 x) (fun _ _ _ _ _ => True) (fun _ U o U' => ∃ v L, o = .returned v ∧ Q_pts Z p_ a b k ln w1 y_ b2 k2 mn w2 cs h0 n0 v U'.heap L ∧ CHr Z own_EL U.vm U.heap U'.vm U'.heap ∧ ReturnedEndW U o U' L ({ frames := 6, cells := 6, slots := 52, locals := 113 } : Room).cells ({ frames := 6, cells := 6, slots := 52, locals := 113 } : Room).slots) := by
  refine MetFree.of_bodySF (plainFor_of_name pn_8) hisR ?_
  intro pr_ en_ st_ me_ args below meth_ co_ s₁ Bd hml0 hP hK
  obtain ⟨rfl, hZ, hh, hCH, hSF⟩ := hP
  have hx := Bd.exec
  have hby := Bd.bytes
  have hEL := own_hEL hw
  have wS := own_wS hw
  have hml : co_.maxLocals = 1 := hml0
  have hown : st_.vm.findClass "com/example/dvalin/dvalin/RegistryException$Problem" = some me_.cls := findClass_of_methodNamed Bd.named
  have hnm := (name_of_methodNamed Bd.named Bd.method).1
  have X0 : Stand pr_ l en_ ({ frames := 6, cells := 6, slots := 52, locals := 113 } : Room) (st_.setVm st_.vm) me_ #[(.ref p_)] below meth_ co_ s₁ [] 0 0 := Stand.of_body Bd
  have e0 : s₁.heap = h0 := by rw [← hh, Bd.state]; rfl
  have N0 := Fr.nil n0
  have K0 := Keep.refl h0 []
  have hS : st_.Since st_.vm 0 := (State.WarmedH.refl st_).since 0
  have hk : 0 ≤ h0.size := Nat.zero_le _
  have CR : CHr Z own_EL st_.vm h0 st_.vm h0 := CHr.refl hCH
  obtain ⟨G, gv, gf, gb⟩ := own_GW Z own_EL pr_.tables en_ below st_ (Q_pts Z p_ a b k ln w1 y_ b2 k2 mn w2 cs h0 n0) ({ frames := 6, cells := 6, slots := 52, locals := 113 } : Room).cells ({ frames := 6, cells := 6, slots := 52, locals := 113 } : Room).slots
  show own_FinW Z own_EL pr_.tables en_ below st_ (Q_pts Z p_ a b k ln w1 y_ b2 k2 mn w2 cs h0 n0) ({ frames := 6, cells := 6, slots := 52, locals := 113 } : Room).cells ({ frames := 6, cells := 6, slots := 52, locals := 113 } : Room).slots (s₁.setTop (entryFrame me_ #[(.ref p_)] 1))
  refine gb _ (gv (fun tQ kQ => castTop (ef_0 me_ p_) kQ) ?_)
  show G (s₁.setTop (mkF me_ 0 #[.val (.ref p_)] []))
  obtain ⟨T704, h704, X704, e704, E704, A704, D704, -, st704⟩ := newO X0 hx hZ hown (hw _ (List.mem_of_getElem? (i := 64) rfl)) (hw _ (List.mem_of_getElem? (i := 65) rfl)) (hw _ (List.mem_of_getElem? (i := 66) rfl)) e0 (g := (mkF me_ 0 #[.val (.ref p_)] [])) rfl (hb hby d11_0) (by decide) (by decide)
  obtain ⟨b704, g704⟩ : ∃ z, z = h0.size := ⟨_, rfl⟩
  rw [← g704] at A704 D704 st704
  refine gv st704 ?_
  have ne705 : p_ ≠ b704 := Nat.ne_of_lt (Nat.lt_of_lt_of_le u2.lt (Nat.le_of_eq g704.symm))
  have ne706 : a ≠ b704 := Nat.ne_of_lt (Nat.lt_of_lt_of_le u5.lt (Nat.le_of_eq g704.symm))
  have ne707 : b ≠ b704 := Nat.ne_of_lt (Nat.lt_of_lt_of_le u8.lt (Nat.le_of_eq g704.symm))
  have ne708 : y_ ≠ b704 := Nat.ne_of_lt (Nat.lt_of_lt_of_le u9.lt (Nat.le_of_eq g704.symm))
  have ne709 : b2 ≠ b704 := Nat.ne_of_lt (Nat.lt_of_lt_of_le u12.lt (Nat.le_of_eq g704.symm))
  have g710 : n0 ≤ b704 := Nat.le_trans (own_old O0) (Nat.le_of_eq g704.symm)
  have z711 : h0.size ≤ b704 := Nat.le_trans K0.1 (Nat.le_of_eq g704.symm)
  have sf712 : Safe Z own_EL st_.vm h0 b704 := Safe.new (Nat.le_of_eq g704.symm)
  have f713 : Exa Z h704 p_ "com/example/dvalin/dvalin/RegistryException$Problem" := u2.ext E704
  have f714 : Fld Z h704 p_ "com/example/dvalin/dvalin/RegistryException$Problem" "location" "Ljava/lang/String;" (.ref a) := u3.ext E704
  have f715 : Fld Z h704 p_ "com/example/dvalin/dvalin/RegistryException$Problem" "message" "Ljava/lang/String;" (.ref y_) := u4.ext E704
  have f716 : Exa Z h704 a "java/lang/String" := u5.ext E704
  have f717 : Fld Z h704 a "java/lang/String" "coder" "B" (.int (0 : Int32)) := u6.ext E704
  have f718 : Fld Z h704 a "java/lang/String" "value" "[B" (.ref b) := u7.ext E704
  have f719 : Arv Z h704 b k .byte ln w1 (.int (0 : Int32)) := u8.ext E704
  have f720 : Exa Z h704 y_ "java/lang/String" := u9.ext E704
  have f721 : Fld Z h704 y_ "java/lang/String" "coder" "B" (.int (0 : Int32)) := u10.ext E704
  have f722 : Fld Z h704 y_ "java/lang/String" "value" "[B" (.ref b2) := u11.ext E704
  have f723 : Arv Z h704 b2 k2 .byte mn w2 (.int (0 : Int32)) := u12.ext E704
  have sf724 := Safe.ext E704 CR.1 sf712
  have CR := CR.trans (CHr.ext E704 CR.1)
  have hk := Nat.le_trans hk E704.1
  have O725 := O0.ext E704
  have K726 := K0.ext E704
  have f727 : Fld Z h704 b704 "java/lang/AbstractStringBuilder" "value" "[B" .null := D704 (Or.inl (hw _ (List.mem_of_getElem? (i := 79) rfl))) (ty := (.array .byte)) (by decide)
  have f728 : Fld Z h704 b704 "java/lang/AbstractStringBuilder" "coder" "B" (.int (0 : Int32)) := D704 (Or.inl (hw _ (List.mem_of_getElem? (i := 81) rfl))) (ty := .byte) (by decide)
  have f729 : Fld Z h704 b704 "java/lang/AbstractStringBuilder" "count" "I" (.int (0 : Int32)) := D704 (Or.inl (hw _ (List.mem_of_getElem? (i := 103) rfl))) (ty := .int) (by decide)
  show G (T704.setTop (mkF me_ 3 #[.val (.ref p_)] [(.ref b704)]))
  refine gv (fun tQ kQ => XS.dup X704.here hx rfl (hb hby d11_3) rfl rfl kQ) ?_
  show G (T704.setTop (mkF me_ 4 #[.val (.ref p_)] [(.ref b704), (.ref b704)]))
  obtain ⟨_, _, ⟨T730, L730, k730, n730⟩, -, X730, ⟨Lc730, hQ730, l730, y730, z730⟩, st730⟩ := X704.specialBack hx (y := (⟨"java/lang/StringBuilder", "<init>", "()V"⟩ : MethodName)) rfl hown (mvT hZ (hw _ (List.mem_of_getElem? (i := 67) rfl))) (mvT hZ (hw _ (List.mem_of_getElem? (i := 68) rfl))) (mvT hZ (hw _ (List.mem_of_getElem? (i := 69) rfl))) (by decide) (backOf (W := 1) (rm_sbi l Z a0 hw [] b704 cs h704 n0 O725 u0 u1 A704 f727 f728 f729 g710) hZ (hw _ (List.mem_of_getElem? (i := 69) rfl)) (hw _ (List.mem_of_getElem? (i := 66) rfl)) (by decide) (by decide)) (g := (mkF me_ 4 #[.val (.ref p_)] [(.ref b704), (.ref b704)])) rfl (by rw [hml]; rfl) (Steps.refl _) (a := b704) (argsL := []) (rest := [(.ref b704)]) (lenOf pd_18 rfl) rfl (by show 2 * 0 + _ ≤ _; exact Nat.le_of_eq rfl) (hb hby d11_4) (fun _ _ => ⟨rfl, e704, (by decide : 1 + 1 ≤ _), (by decide : 4 + 16 ≤ _)⟩)
  dsimp only [Pt.U, Pt.locs, Pt.cells, Pt.slots] at X730 l730 y730 z730 st730 hQ730
  subst l730 y730 z730
  obtain ⟨bb_730, kb_730, rfl, Nq730, Kq730, w730_0, w730_1, w730_2, w730_3, w730_4, w730_5⟩ := hQ730
  have N731 := Fr.app N0 Nq730
  obtain ⟨h730, e730⟩ : ∃ z, T730.heap = z := ⟨_, rfl⟩
  rw [e730] at Kq730 w730_1 w730_2 w730_3 w730_4 w730_5
  have sf732 := Safe.keep Kq730 (sfS (Safe.exa hZ.alike A704 (by decide) (by decide)) sf0) CR.1 sf724
  have ne733 : p_ ≠ bb_730 := Nat.ne_of_lt (Nat.lt_of_lt_of_le f713.lt w730_0)
  have ne734 : a ≠ bb_730 := Nat.ne_of_lt (Nat.lt_of_lt_of_le f716.lt w730_0)
  have ne735 : b ≠ bb_730 := Nat.ne_of_lt (Nat.lt_of_lt_of_le f719.lt w730_0)
  have ne736 : y_ ≠ bb_730 := Nat.ne_of_lt (Nat.lt_of_lt_of_le f720.lt w730_0)
  have ne737 : b2 ≠ bb_730 := Nat.ne_of_lt (Nat.lt_of_lt_of_le f723.lt w730_0)
  have ne738 : b704 ≠ bb_730 := Nat.ne_of_lt (Nat.lt_of_lt_of_le A704.lt w730_0)
  have g739 : n0 ≤ bb_730 := Nat.le_trans (own_old O725) w730_0
  have z740 : h0.size ≤ bb_730 := Nat.le_trans K726.1 w730_0
  have sf741 : Safe Z own_EL st_.vm h704 bb_730 := Safe.new w730_0
  have sf742 := Safe.keep Kq730 (sfS (Safe.exa hZ.alike A704 (by decide) (by decide)) sf0) CR.1 sf741
  have CR := CR.trans (CHr.keep Kq730 (sfS (Safe.exa hZ.alike A704 (by decide) (by decide)) sf0) CR.1)
  have hk := Nat.le_trans hk Kq730.1
  have f743 : Exa Z h730 p_ "com/example/dvalin/dvalin/RegistryException$Problem" := f713.keep Kq730
  have f744 : Fld Z h730 p_ "com/example/dvalin/dvalin/RegistryException$Problem" "location" "Ljava/lang/String;" (.ref a) := f714.keep Kq730 (ninS ne705 nin0)
  have f745 : Fld Z h730 p_ "com/example/dvalin/dvalin/RegistryException$Problem" "message" "Ljava/lang/String;" (.ref y_) := f715.keep Kq730 (ninS ne705 nin0)
  have f746 : Exa Z h730 a "java/lang/String" := f716.keep Kq730
  have f747 : Fld Z h730 a "java/lang/String" "coder" "B" (.int (0 : Int32)) := f717.keep Kq730 (ninS ne706 nin0)
  have f748 : Fld Z h730 a "java/lang/String" "value" "[B" (.ref b) := f718.keep Kq730 (ninS ne706 nin0)
  have f749 : Arv Z h730 b k .byte ln w1 (.int (0 : Int32)) := f719.keep Kq730 (ninS ne707 nin0)
  have f750 : Exa Z h730 y_ "java/lang/String" := f720.keep Kq730
  have f751 : Fld Z h730 y_ "java/lang/String" "coder" "B" (.int (0 : Int32)) := f721.keep Kq730 (ninS ne708 nin0)
  have f752 : Fld Z h730 y_ "java/lang/String" "value" "[B" (.ref b2) := f722.keep Kq730 (ninS ne708 nin0)
  have f753 : Arv Z h730 b2 k2 .byte mn w2 (.int (0 : Int32)) := f723.keep Kq730 (ninS ne709 nin0)
  have f754 : Exa Z h730 b704 "java/lang/StringBuilder" := A704.keep Kq730
  have O755 := O725.keep Kq730 (allS g710 all0)
  have K756 := K726.trans Kq730 (allS (Or.inr z711) all0)
  refine gv (fun tQ kQ => st730.trans kQ) ?_
  show G (T730.setTop (mkF me_ 7 #[.val (.ref p_)] [(.ref b704)]))
  refine gv (fun tQ kQ => XS.aloadN X730.here hx rfl (hb hby d11_7) rfl rfl kQ) ?_
  show G (T730.setTop (mkF me_ 8 #[.val (.ref p_)] [(.ref p_), (.ref b704)]))
  obtain ⟨T757, X757, e757, st757⟩ := getF X730 hx hZ hown (host := "") (Or.inl (hw _ (List.mem_of_getElem? (i := 55) rfl))) Via.refl e730 f744 (g := (mkF me_ 8 #[.val (.ref p_)] [(.ref p_), (.ref b704)])) rfl rfl (hb hby d11_8)
  refine gv st757 ?_
  show G (T757.setTop (mkF me_ 11 #[.val (.ref p_)] [(.ref a), (.ref b704)]))
  obtain ⟨cq758, kq758, q758a, q758b, q758c⟩ := isOf hZ e757 w730_1
  obtain ⟨_, _, ⟨T758, L758, k758, n758⟩, -, X758, ⟨Lc758, hQ758, l758, y758, z758⟩, st758⟩ := X757.virtualBack hx (y := (⟨"java/lang/StringBuilder", "append", "(Ljava/lang/String;)Ljava/lang/StringBuilder;"⟩ : MethodName)) (z := (⟨"java/lang/StringBuilder", "append", "(Ljava/lang/String;)Ljava/lang/StringBuilder;"⟩ : MethodName)) hown (mvT hZ (hw _ (List.mem_of_getElem? (i := 82) rfl))) (mvT hZ (hw _ (List.mem_of_getElem? (i := 83) rfl))) (notFace_of_selects (args := #[]) (mvT hZ (hw _ (List.mem_of_getElem? (i := 85) rfl)))) (mvT hZ (hw _ (List.mem_of_getElem? (i := 85) rfl))) (mvT hZ (hw _ (List.mem_of_getElem? (i := 84) rfl))) (by decide) (backOf (W := 0) (rm_sbapp l Z a0 hw [] b704 a b k ln w1 bb_730 kb_730 [(.int (0 : Int32)), (.int (0 : Int32)), (.int (0 : Int32)), (.int (0 : Int32)), (.int (0 : Int32)), (.int (0 : Int32)), (.int (0 : Int32)), (.int (0 : Int32)), (.int (0 : Int32)), (.int (0 : Int32)), (.int (0 : Int32)), (.int (0 : Int32)), (.int (0 : Int32)), (.int (0 : Int32)), (.int (0 : Int32)), (.int (0 : Int32))] (0 : Int32) cs h730 n0 O755 u0 u1 w730_1 w730_2 w730_3 w730_4 f746 f747 f748 f749 w730_5 g710 g739 ne735 (own_k1 u13 rfl) (own_cap1 u13)) hZ (hw _ (List.mem_of_getElem? (i := 86) rfl)) (hw _ (List.mem_of_getElem? (i := 66) rfl)) (by decide) (by decide)) q758a q758c (g := (mkF me_ 11 #[.val (.ref p_)] [(.ref a), (.ref b704)])) rfl (by rw [hml]; rfl) (Steps.refl _) (argsL := [(.ref a)]) (rest := []) (lenOf pd_20 rfl) rfl (by show 2 * 0 + _ ≤ _; exact Nat.le_of_eq rfl) (hb hby d11_11) (fun _ _ => ⟨rfl, e757, (by decide : 2 + 0 ≤ _), (by decide : 20 + 0 ≤ _)⟩)
  dsimp only [Pt.U, Pt.locs, Pt.cells, Pt.slots] at X758 l758 y758 z758 st758 hQ758
  subst l758 y758 z758
  obtain ⟨rfl, Nq758, Kq758, w758_0, w758_1, w758_2, w758_3, w758_4⟩ := hQ758
  have N759 := Fr.app N731 Nq758
  obtain ⟨h758, e758⟩ : ∃ z, T758.heap = z := ⟨_, rfl⟩
  rw [e758] at Kq758 w758_0 w758_1 w758_2 w758_3 w758_4
  have sf760 := Safe.keep Kq758 (sfS (Safe.exa hZ.alike w730_1 (by decide) (by decide)) (sfS sf742 sf0)) CR.1 sf732
  have sf761 := Safe.keep Kq758 (sfS (Safe.exa hZ.alike w730_1 (by decide) (by decide)) (sfS sf742 sf0)) CR.1 sf742
  have CR := CR.trans (CHr.keep Kq758 (sfS (Safe.exa hZ.alike w730_1 (by decide) (by decide)) (sfS sf742 sf0)) CR.1)
  have hk := Nat.le_trans hk Kq758.1
  have f762 : Exa Z h758 p_ "com/example/dvalin/dvalin/RegistryException$Problem" := f743.keep Kq758
  have f763 : Fld Z h758 p_ "com/example/dvalin/dvalin/RegistryException$Problem" "location" "Ljava/lang/String;" (.ref a) := f744.keep Kq758 (ninS ne705 (ninS ne733 nin0))
  have f764 : Fld Z h758 p_ "com/example/dvalin/dvalin/RegistryException$Problem" "message" "Ljava/lang/String;" (.ref y_) := f745.keep Kq758 (ninS ne705 (ninS ne733 nin0))
  have f765 : Exa Z h758 a "java/lang/String" := f746.keep Kq758
  have f766 : Fld Z h758 a "java/lang/String" "coder" "B" (.int (0 : Int32)) := f747.keep Kq758 (ninS ne706 (ninS ne734 nin0))
  have f767 : Fld Z h758 a "java/lang/String" "value" "[B" (.ref b) := f748.keep Kq758 (ninS ne706 (ninS ne734 nin0))
  have f768 : Arv Z h758 b k .byte ln w1 (.int (0 : Int32)) := f749.keep Kq758 (ninS ne707 (ninS ne735 nin0))
  have f769 : Exa Z h758 y_ "java/lang/String" := f750.keep Kq758
  have f770 : Fld Z h758 y_ "java/lang/String" "coder" "B" (.int (0 : Int32)) := f751.keep Kq758 (ninS ne708 (ninS ne736 nin0))
  have f771 : Fld Z h758 y_ "java/lang/String" "value" "[B" (.ref b2) := f752.keep Kq758 (ninS ne708 (ninS ne736 nin0))
  have f772 : Arv Z h758 b2 k2 .byte mn w2 (.int (0 : Int32)) := f753.keep Kq758 (ninS ne709 (ninS ne737 nin0))
  have f773 : Exa Z h758 b704 "java/lang/StringBuilder" := w730_1.keep Kq758
  have O774 := O755.keep Kq758 (allS g710 (allS g739 all0))
  have K775 := K756.trans Kq758 (allS (Or.inr z711) (allS (Or.inr z740) all0))
  refine gv (fun tQ kQ => st758.trans kQ) ?_
  show G (T758.setTop (mkF me_ 14 #[.val (.ref p_)] [(.ref b704)]))
  obtain ⟨a776, T776, h776, k776, b776, kc776, X776, e776, E776, hS, hk, hZ, hown, ES776, FC776, FV776, AV776, -, -, CRn776, L776, sn776, st776⟩ := ldcCH X758 hx hZ hown (hw _ (List.mem_of_getElem? (i := 129) rfl)) wS e758 hS hk hEL (List.mem_of_getElem? (i := 2) rfl) CR.1 (vs := [(.int (58 : Int32)), (.int (32 : Int32))]) (z := (2 : Int32)) ⟨by decide, by decide⟩ (by decide) (by decide) (g := (mkF me_ 14 #[.val (.ref p_)] [(.ref b704)])) rfl (hb hby d11_14) (n := 8) (by decide) (by decide) (by decide) (by decide)
  refine gv st776 ?_
  have sf777 := CRn776.safe w758_0.lt sf760
  have sf778 := CRn776.safe w758_4.lt sf761
  have f779 : Exa Z h776 p_ "com/example/dvalin/dvalin/RegistryException$Problem" := f762.ext E776
  have f780 : Fld Z h776 p_ "com/example/dvalin/dvalin/RegistryException$Problem" "location" "Ljava/lang/String;" (.ref a) := f763.ext E776
  have f781 : Fld Z h776 p_ "com/example/dvalin/dvalin/RegistryException$Problem" "message" "Ljava/lang/String;" (.ref y_) := f764.ext E776
  have f782 : Exa Z h776 a "java/lang/String" := f765.ext E776
  have f783 : Fld Z h776 a "java/lang/String" "coder" "B" (.int (0 : Int32)) := f766.ext E776
  have f784 : Fld Z h776 a "java/lang/String" "value" "[B" (.ref b) := f767.ext E776
  have f785 : Arv Z h776 b k .byte ln w1 (.int (0 : Int32)) := f768.ext E776
  have f786 : Exa Z h776 y_ "java/lang/String" := f769.ext E776
  have f787 : Fld Z h776 y_ "java/lang/String" "coder" "B" (.int (0 : Int32)) := f770.ext E776
  have f788 : Fld Z h776 y_ "java/lang/String" "value" "[B" (.ref b2) := f771.ext E776
  have f789 : Arv Z h776 b2 k2 .byte mn w2 (.int (0 : Int32)) := f772.ext E776
  have f790 : Exa Z h776 b704 "java/lang/StringBuilder" := w758_0.ext E776
  have f791 : Fld Z h776 b704 "java/lang/AbstractStringBuilder" "value" "[B" (.ref bb_730) := w758_1.ext E776
  have f792 : Fld Z h776 b704 "java/lang/AbstractStringBuilder" "coder" "B" (.int (0 : Int32)) := w758_2.ext E776
  have f793 : Fld Z h776 b704 "java/lang/AbstractStringBuilder" "count" "I" (.int ((0 : Int32) + ln)) := w758_3.ext E776
  have f794 : Arv Z h776 bb_730 kb_730 .byte (16 : Int32) (own_put [(.int (0 : Int32)), (.int (0 : Int32)), (.int (0 : Int32)), (.int (0 : Int32)), (.int (0 : Int32)), (.int (0 : Int32)), (.int (0 : Int32)), (.int (0 : Int32)), (.int (0 : Int32)), (.int (0 : Int32)), (.int (0 : Int32)), (.int (0 : Int32)), (.int (0 : Int32)), (.int (0 : Int32)), (.int (0 : Int32)), (.int (0 : Int32))] (0 : Int32) w1 ln) (.int (0 : Int32)) := w758_4.ext E776
  have O795 := O774.ext E776
  have K796 := K775.ext E776
  have CR := CR.trans CRn776
  have ne797 : b704 ≠ a776 := (sn776 b704 sf777).1
  have ne798 : b704 ≠ b776 := (sn776 b704 sf777).2
  have ne799 : bb_730 ≠ a776 := (sn776 bb_730 sf778).1
  have ne800 : bb_730 ≠ b776 := (sn776 bb_730 sf778).2
  show G (T776.setTop (mkF me_ 16 #[.val (.ref p_)] [(.ref a776), (.ref b704)]))
  obtain ⟨cq801, kq801, q801a, q801b, q801c⟩ := isOf hZ e776 f790
  obtain ⟨_, _, ⟨T801, L801, k801, n801⟩, -, X801, ⟨Lc801, hQ801, l801, y801, z801⟩, st801⟩ := X776.virtualBack hx (y := (⟨"java/lang/StringBuilder", "append", "(Ljava/lang/String;)Ljava/lang/StringBuilder;"⟩ : MethodName)) (z := (⟨"java/lang/StringBuilder", "append", "(Ljava/lang/String;)Ljava/lang/StringBuilder;"⟩ : MethodName)) hown (mvT hZ (hw _ (List.mem_of_getElem? (i := 82) rfl))) (mvT hZ (hw _ (List.mem_of_getElem? (i := 83) rfl))) (notFace_of_selects (args := #[]) (mvT hZ (hw _ (List.mem_of_getElem? (i := 85) rfl)))) (mvT hZ (hw _ (List.mem_of_getElem? (i := 85) rfl))) (mvT hZ (hw _ (List.mem_of_getElem? (i := 84) rfl))) (by decide) (backOf (W := 0) (rm_sbapp l Z a0 hw [] b704 a776 b776 kc776 (2 : Int32) [(.int (58 : Int32)), (.int (32 : Int32))] bb_730 kb_730 (own_put [(.int (0 : Int32)), (.int (0 : Int32)), (.int (0 : Int32)), (.int (0 : Int32)), (.int (0 : Int32)), (.int (0 : Int32)), (.int (0 : Int32)), (.int (0 : Int32)), (.int (0 : Int32)), (.int (0 : Int32)), (.int (0 : Int32)), (.int (0 : Int32)), (.int (0 : Int32)), (.int (0 : Int32)), (.int (0 : Int32)), (.int (0 : Int32))] (0 : Int32) w1 ln) ((0 : Int32) + ln) cs h776 n0 O795 u0 u1 f790 f791 f792 f793 ES776 FC776 FV776 AV776 f794 g710 g739 (Ne.symm ne800) (own_k2 u13 (own_put_len (own_k1 u13 rfl))) (own_cap2 u13)) hZ (hw _ (List.mem_of_getElem? (i := 86) rfl)) (hw _ (List.mem_of_getElem? (i := 66) rfl)) (by decide) (by decide)) q801a q801c (g := (mkF me_ 16 #[.val (.ref p_)] [(.ref a776), (.ref b704)])) rfl (by rw [hml]; rfl) (Steps.refl _) (argsL := [(.ref a776)]) (rest := []) (lenOf pd_20 rfl) rfl (by show 2 * 0 + _ ≤ _; exact Nat.le_of_eq rfl) (hb hby d11_16) (fun _ _ => ⟨rfl, e776, (by decide : 4 + 0 ≤ _), (by decide : 32 + 0 ≤ _)⟩)
  dsimp only [Pt.U, Pt.locs, Pt.cells, Pt.slots] at X801 l801 y801 z801 st801 hQ801
  subst l801 y801 z801
  obtain ⟨rfl, Nq801, Kq801, w801_0, w801_1, w801_2, w801_3, w801_4⟩ := hQ801
  have N802 := Fr.app N759 Nq801
  obtain ⟨h801, e801⟩ : ∃ z, T801.heap = z := ⟨_, rfl⟩
  rw [e801] at Kq801 w801_0 w801_1 w801_2 w801_3 w801_4
  have sf803 := Safe.keep Kq801 (sfS (Safe.exa hZ.alike f790 (by decide) (by decide)) (sfS sf778 sf0)) CR.1 sf777
  have sf804 := Safe.keep Kq801 (sfS (Safe.exa hZ.alike f790 (by decide) (by decide)) (sfS sf778 sf0)) CR.1 sf778
  have CR := CR.trans (CHr.keep Kq801 (sfS (Safe.exa hZ.alike f790 (by decide) (by decide)) (sfS sf778 sf0)) CR.1)
  have hk := Nat.le_trans hk Kq801.1
  have f805 : Exa Z h801 p_ "com/example/dvalin/dvalin/RegistryException$Problem" := f779.keep Kq801
  have f806 : Fld Z h801 p_ "com/example/dvalin/dvalin/RegistryException$Problem" "location" "Ljava/lang/String;" (.ref a) := f780.keep Kq801 (ninS ne705 (ninS ne733 nin0))
  have f807 : Fld Z h801 p_ "com/example/dvalin/dvalin/RegistryException$Problem" "message" "Ljava/lang/String;" (.ref y_) := f781.keep Kq801 (ninS ne705 (ninS ne733 nin0))
  have f808 : Exa Z h801 a "java/lang/String" := f782.keep Kq801
  have f809 : Fld Z h801 a "java/lang/String" "coder" "B" (.int (0 : Int32)) := f783.keep Kq801 (ninS ne706 (ninS ne734 nin0))
  have f810 : Fld Z h801 a "java/lang/String" "value" "[B" (.ref b) := f784.keep Kq801 (ninS ne706 (ninS ne734 nin0))
  have f811 : Arv Z h801 b k .byte ln w1 (.int (0 : Int32)) := f785.keep Kq801 (ninS ne707 (ninS ne735 nin0))
  have f812 : Exa Z h801 y_ "java/lang/String" := f786.keep Kq801
  have f813 : Fld Z h801 y_ "java/lang/String" "coder" "B" (.int (0 : Int32)) := f787.keep Kq801 (ninS ne708 (ninS ne736 nin0))
  have f814 : Fld Z h801 y_ "java/lang/String" "value" "[B" (.ref b2) := f788.keep Kq801 (ninS ne708 (ninS ne736 nin0))
  have f815 : Arv Z h801 b2 k2 .byte mn w2 (.int (0 : Int32)) := f789.keep Kq801 (ninS ne709 (ninS ne737 nin0))
  have f816 : Exa Z h801 b704 "java/lang/StringBuilder" := f790.keep Kq801
  have f817 : Exa Z h801 a776 "java/lang/String" := ES776.keep Kq801
  have f818 : Fld Z h801 a776 "java/lang/String" "coder" "B" (.int (0 : Int32)) := FC776.keep Kq801 (ninS (Ne.symm ne797) (ninS (Ne.symm ne799) nin0))
  have f819 : Fld Z h801 a776 "java/lang/String" "value" "[B" (.ref b776) := FV776.keep Kq801 (ninS (Ne.symm ne797) (ninS (Ne.symm ne799) nin0))
  have f820 : Arv Z h801 b776 kc776 .byte (2 : Int32) [(.int (58 : Int32)), (.int (32 : Int32))] (.int (0 : Int32)) := AV776.keep Kq801 (ninS (Ne.symm ne798) (ninS (Ne.symm ne800) nin0))
  have O821 := O795.keep Kq801 (allS g710 (allS g739 all0))
  have K822 := K796.trans Kq801 (allS (Or.inr z711) (allS (Or.inr z740) all0))
  refine gv (fun tQ kQ => st801.trans kQ) ?_
  show G (T801.setTop (mkF me_ 19 #[.val (.ref p_)] [(.ref b704)]))
  refine gv (fun tQ kQ => XS.aloadN X801.here hx rfl (hb hby d11_19) rfl rfl kQ) ?_
  show G (T801.setTop (mkF me_ 20 #[.val (.ref p_)] [(.ref p_), (.ref b704)]))
  obtain ⟨T823, X823, e823, st823⟩ := getF X801 hx hZ hown (host := "") (Or.inl (hw _ (List.mem_of_getElem? (i := 57) rfl))) Via.refl e801 f807 (g := (mkF me_ 20 #[.val (.ref p_)] [(.ref p_), (.ref b704)])) rfl rfl (hb hby d11_20)
  refine gv st823 ?_
  show G (T823.setTop (mkF me_ 23 #[.val (.ref p_)] [(.ref y_), (.ref b704)]))
  obtain ⟨cq824, kq824, q824a, q824b, q824c⟩ := isOf hZ e823 w801_0
  obtain ⟨_, _, ⟨T824, L824, k824, n824⟩, -, X824, ⟨Lc824, hQ824, l824, y824, z824⟩, st824⟩ := X823.virtualBack hx (y := (⟨"java/lang/StringBuilder", "append", "(Ljava/lang/String;)Ljava/lang/StringBuilder;"⟩ : MethodName)) (z := (⟨"java/lang/StringBuilder", "append", "(Ljava/lang/String;)Ljava/lang/StringBuilder;"⟩ : MethodName)) hown (mvT hZ (hw _ (List.mem_of_getElem? (i := 82) rfl))) (mvT hZ (hw _ (List.mem_of_getElem? (i := 83) rfl))) (notFace_of_selects (args := #[]) (mvT hZ (hw _ (List.mem_of_getElem? (i := 85) rfl)))) (mvT hZ (hw _ (List.mem_of_getElem? (i := 85) rfl))) (mvT hZ (hw _ (List.mem_of_getElem? (i := 84) rfl))) (by decide) (backOf (W := 0) (rm_sbapp l Z a0 hw [] b704 y_ b2 k2 mn w2 bb_730 kb_730 (own_put (own_put [(.int (0 : Int32)), (.int (0 : Int32)), (.int (0 : Int32)), (.int (0 : Int32)), (.int (0 : Int32)), (.int (0 : Int32)), (.int (0 : Int32)), (.int (0 : Int32)), (.int (0 : Int32)), (.int (0 : Int32)), (.int (0 : Int32)), (.int (0 : Int32)), (.int (0 : Int32)), (.int (0 : Int32)), (.int (0 : Int32)), (.int (0 : Int32))] (0 : Int32) w1 ln) ((0 : Int32) + ln) [(.int (58 : Int32)), (.int (32 : Int32))] (2 : Int32)) (((0 : Int32) + ln) + (2 : Int32)) cs h801 n0 O821 u0 u1 w801_0 w801_1 w801_2 w801_3 f812 f813 f814 f815 w801_4 g710 g739 ne737 (own_k3 u13 u14 (own_put_len (own_k2 u13 (own_put_len (own_k1 u13 rfl))))) (own_cap3 u13 u14)) hZ (hw _ (List.mem_of_getElem? (i := 86) rfl)) (hw _ (List.mem_of_getElem? (i := 66) rfl)) (by decide) (by decide)) q824a q824c (g := (mkF me_ 23 #[.val (.ref p_)] [(.ref y_), (.ref b704)])) rfl (by rw [hml]; rfl) (Steps.refl _) (argsL := [(.ref y_)]) (rest := []) (lenOf pd_20 rfl) rfl (by show 2 * 0 + _ ≤ _; exact Nat.le_of_eq rfl) (hb hby d11_23) (fun _ _ => ⟨rfl, e823, (by decide : 4 + 0 ≤ _), (by decide : 32 + 0 ≤ _)⟩)
  dsimp only [Pt.U, Pt.locs, Pt.cells, Pt.slots] at X824 l824 y824 z824 st824 hQ824
  subst l824 y824 z824
  obtain ⟨rfl, Nq824, Kq824, w824_0, w824_1, w824_2, w824_3, w824_4⟩ := hQ824
  have N825 := Fr.app N802 Nq824
  obtain ⟨h824, e824⟩ : ∃ z, T824.heap = z := ⟨_, rfl⟩
  rw [e824] at Kq824 w824_0 w824_1 w824_2 w824_3 w824_4
  have sf826 := Safe.keep Kq824 (sfS (Safe.exa hZ.alike w801_0 (by decide) (by decide)) (sfS sf804 sf0)) CR.1 sf803
  have sf827 := Safe.keep Kq824 (sfS (Safe.exa hZ.alike w801_0 (by decide) (by decide)) (sfS sf804 sf0)) CR.1 sf804
  have CR := CR.trans (CHr.keep Kq824 (sfS (Safe.exa hZ.alike w801_0 (by decide) (by decide)) (sfS sf804 sf0)) CR.1)
  have hk := Nat.le_trans hk Kq824.1
  have f828 : Exa Z h824 p_ "com/example/dvalin/dvalin/RegistryException$Problem" := f805.keep Kq824
  have f829 : Fld Z h824 p_ "com/example/dvalin/dvalin/RegistryException$Problem" "location" "Ljava/lang/String;" (.ref a) := f806.keep Kq824 (ninS ne705 (ninS ne733 nin0))
  have f830 : Fld Z h824 p_ "com/example/dvalin/dvalin/RegistryException$Problem" "message" "Ljava/lang/String;" (.ref y_) := f807.keep Kq824 (ninS ne705 (ninS ne733 nin0))
  have f831 : Exa Z h824 a "java/lang/String" := f808.keep Kq824
  have f832 : Fld Z h824 a "java/lang/String" "coder" "B" (.int (0 : Int32)) := f809.keep Kq824 (ninS ne706 (ninS ne734 nin0))
  have f833 : Fld Z h824 a "java/lang/String" "value" "[B" (.ref b) := f810.keep Kq824 (ninS ne706 (ninS ne734 nin0))
  have f834 : Arv Z h824 b k .byte ln w1 (.int (0 : Int32)) := f811.keep Kq824 (ninS ne707 (ninS ne735 nin0))
  have f835 : Exa Z h824 y_ "java/lang/String" := f812.keep Kq824
  have f836 : Fld Z h824 y_ "java/lang/String" "coder" "B" (.int (0 : Int32)) := f813.keep Kq824 (ninS ne708 (ninS ne736 nin0))
  have f837 : Fld Z h824 y_ "java/lang/String" "value" "[B" (.ref b2) := f814.keep Kq824 (ninS ne708 (ninS ne736 nin0))
  have f838 : Arv Z h824 b2 k2 .byte mn w2 (.int (0 : Int32)) := f815.keep Kq824 (ninS ne709 (ninS ne737 nin0))
  have f839 : Exa Z h824 b704 "java/lang/StringBuilder" := w801_0.keep Kq824
  have f840 : Exa Z h824 a776 "java/lang/String" := f817.keep Kq824
  have f841 : Fld Z h824 a776 "java/lang/String" "coder" "B" (.int (0 : Int32)) := f818.keep Kq824 (ninS (Ne.symm ne797) (ninS (Ne.symm ne799) nin0))
  have f842 : Fld Z h824 a776 "java/lang/String" "value" "[B" (.ref b776) := f819.keep Kq824 (ninS (Ne.symm ne797) (ninS (Ne.symm ne799) nin0))
  have f843 : Arv Z h824 b776 kc776 .byte (2 : Int32) [(.int (58 : Int32)), (.int (32 : Int32))] (.int (0 : Int32)) := f820.keep Kq824 (ninS (Ne.symm ne798) (ninS (Ne.symm ne800) nin0))
  have O844 := O821.keep Kq824 (allS g710 (allS g739 all0))
  have K845 := K822.trans Kq824 (allS (Or.inr z711) (allS (Or.inr z740) all0))
  refine gv (fun tQ kQ => st824.trans kQ) ?_
  show G (T824.setTop (mkF me_ 26 #[.val (.ref p_)] [(.ref b704)]))
  obtain ⟨cq846, kq846, q846a, q846b, q846c⟩ := isOf hZ e824 w824_0
  obtain ⟨_, _, ⟨T846, L846, k846, n846⟩, -, X846, ⟨Lc846, hQ846, l846, y846, z846⟩, st846⟩ := X824.virtualBack hx (y := (⟨"java/lang/StringBuilder", "toString", "()Ljava/lang/String;"⟩ : MethodName)) (z := (⟨"java/lang/StringBuilder", "toString", "()Ljava/lang/String;"⟩ : MethodName)) hown (mvT hZ (hw _ (List.mem_of_getElem? (i := 130) rfl))) (mvT hZ (hw _ (List.mem_of_getElem? (i := 131) rfl))) (notFace_of_selects (args := #[]) (mvT hZ (hw _ (List.mem_of_getElem? (i := 133) rfl)))) (mvT hZ (hw _ (List.mem_of_getElem? (i := 133) rfl))) (mvT hZ (hw _ (List.mem_of_getElem? (i := 132) rfl))) (by decide) (backOf (W := 0) (rm_tos l Z a0 hw [] b704 bb_730 kb_730 (own_put (own_put (own_put [(.int (0 : Int32)), (.int (0 : Int32)), (.int (0 : Int32)), (.int (0 : Int32)), (.int (0 : Int32)), (.int (0 : Int32)), (.int (0 : Int32)), (.int (0 : Int32)), (.int (0 : Int32)), (.int (0 : Int32)), (.int (0 : Int32)), (.int (0 : Int32)), (.int (0 : Int32)), (.int (0 : Int32)), (.int (0 : Int32)), (.int (0 : Int32))] (0 : Int32) w1 ln) ((0 : Int32) + ln) [(.int (58 : Int32)), (.int (32 : Int32))] (2 : Int32)) (((0 : Int32) + ln) + (2 : Int32)) w2 mn) ((((0 : Int32) + ln) + (2 : Int32)) + mn) cs h824 n0 O844 u0 u1 w824_0 w824_1 w824_2 w824_3 w824_4 ((own_ct u13 u14).1) ((own_ct u13 u14).2)) hZ (hw _ (List.mem_of_getElem? (i := 134) rfl)) (hw _ (List.mem_of_getElem? (i := 66) rfl)) (by decide) (by decide)) q846a q846c (g := (mkF me_ 26 #[.val (.ref p_)] [(.ref b704)])) rfl (by rw [hml]; rfl) (Steps.refl _) (argsL := []) (rest := []) (lenOf pd_21 rfl) rfl (by show 2 * 0 + _ ≤ _; exact Nat.le_of_eq rfl) (hb hby d11_26) (fun _ _ => ⟨rfl, e824, (by decide : 4 + 2 ≤ _), (by decide : 32 + 20 ≤ _)⟩)
  dsimp only [Pt.U, Pt.locs, Pt.cells, Pt.slots] at X846 l846 y846 z846 st846 hQ846
  subst l846 y846 z846
  obtain ⟨a_846, r_846, kr_846, rfl, Nq846, Kq846, w846_0, w846_1, w846_2, w846_3, w846_4, w846_5⟩ := hQ846
  have N847 := Fr.app N825 Nq846
  obtain ⟨h846, e846⟩ : ∃ z, T846.heap = z := ⟨_, rfl⟩
  rw [e846] at Kq846 w846_2 w846_3 w846_4 w846_5
  have sf848 := Safe.keep Kq846 sf0 CR.1 sf826
  have sf849 := Safe.keep Kq846 sf0 CR.1 sf827
  have ne850 : p_ ≠ a_846 := Nat.ne_of_lt (Nat.lt_of_lt_of_le f828.lt w846_0)
  have ne851 : a ≠ a_846 := Nat.ne_of_lt (Nat.lt_of_lt_of_le f831.lt w846_0)
  have ne852 : b ≠ a_846 := Nat.ne_of_lt (Nat.lt_of_lt_of_le f834.lt w846_0)
  have ne853 : y_ ≠ a_846 := Nat.ne_of_lt (Nat.lt_of_lt_of_le f835.lt w846_0)
  have ne854 : b2 ≠ a_846 := Nat.ne_of_lt (Nat.lt_of_lt_of_le f838.lt w846_0)
  have ne855 : b704 ≠ a_846 := Nat.ne_of_lt (Nat.lt_of_lt_of_le w824_0.lt w846_0)
  have ne856 : a776 ≠ a_846 := Nat.ne_of_lt (Nat.lt_of_lt_of_le f840.lt w846_0)
  have ne857 : b776 ≠ a_846 := Nat.ne_of_lt (Nat.lt_of_lt_of_le f843.lt w846_0)
  have ne858 : bb_730 ≠ a_846 := Nat.ne_of_lt (Nat.lt_of_lt_of_le w824_4.lt w846_0)
  have g859 : n0 ≤ a_846 := Nat.le_trans (own_old O844) w846_0
  have z860 : h0.size ≤ a_846 := Nat.le_trans K845.1 w846_0
  have sf861 : Safe Z own_EL T776.vm h824 a_846 := Safe.new w846_0
  have ne862 : p_ ≠ r_846 := Nat.ne_of_lt (Nat.lt_of_lt_of_le f828.lt w846_1)
  have ne863 : a ≠ r_846 := Nat.ne_of_lt (Nat.lt_of_lt_of_le f831.lt w846_1)
  have ne864 : b ≠ r_846 := Nat.ne_of_lt (Nat.lt_of_lt_of_le f834.lt w846_1)
  have ne865 : y_ ≠ r_846 := Nat.ne_of_lt (Nat.lt_of_lt_of_le f835.lt w846_1)
  have ne866 : b2 ≠ r_846 := Nat.ne_of_lt (Nat.lt_of_lt_of_le f838.lt w846_1)
  have ne867 : b704 ≠ r_846 := Nat.ne_of_lt (Nat.lt_of_lt_of_le w824_0.lt w846_1)
  have ne868 : a776 ≠ r_846 := Nat.ne_of_lt (Nat.lt_of_lt_of_le f840.lt w846_1)
  have ne869 : b776 ≠ r_846 := Nat.ne_of_lt (Nat.lt_of_lt_of_le f843.lt w846_1)
  have ne870 : bb_730 ≠ r_846 := Nat.ne_of_lt (Nat.lt_of_lt_of_le w824_4.lt w846_1)
  have g871 : n0 ≤ r_846 := Nat.le_trans (own_old O844) w846_1
  have z872 : h0.size ≤ r_846 := Nat.le_trans K845.1 w846_1
  have sf873 : Safe Z own_EL T776.vm h824 r_846 := Safe.new w846_1
  have sf874 := Safe.keep Kq846 sf0 CR.1 sf861
  have sf875 := Safe.keep Kq846 sf0 CR.1 sf873
  have CR := CR.trans (CHr.keep Kq846 sf0 CR.1)
  have hk := Nat.le_trans hk Kq846.1
  have f876 : Exa Z h846 p_ "com/example/dvalin/dvalin/RegistryException$Problem" := f828.keep Kq846
  have f877 : Fld Z h846 p_ "com/example/dvalin/dvalin/RegistryException$Problem" "location" "Ljava/lang/String;" (.ref a) := f829.keep Kq846 nin0
  have f878 : Fld Z h846 p_ "com/example/dvalin/dvalin/RegistryException$Problem" "message" "Ljava/lang/String;" (.ref y_) := f830.keep Kq846 nin0
  have f879 : Exa Z h846 a "java/lang/String" := f831.keep Kq846
  have f880 : Fld Z h846 a "java/lang/String" "coder" "B" (.int (0 : Int32)) := f832.keep Kq846 nin0
  have f881 : Fld Z h846 a "java/lang/String" "value" "[B" (.ref b) := f833.keep Kq846 nin0
  have f882 : Arv Z h846 b k .byte ln w1 (.int (0 : Int32)) := f834.keep Kq846 nin0
  have f883 : Exa Z h846 y_ "java/lang/String" := f835.keep Kq846
  have f884 : Fld Z h846 y_ "java/lang/String" "coder" "B" (.int (0 : Int32)) := f836.keep Kq846 nin0
  have f885 : Fld Z h846 y_ "java/lang/String" "value" "[B" (.ref b2) := f837.keep Kq846 nin0
  have f886 : Arv Z h846 b2 k2 .byte mn w2 (.int (0 : Int32)) := f838.keep Kq846 nin0
  have f887 : Exa Z h846 b704 "java/lang/StringBuilder" := w824_0.keep Kq846
  have f888 : Exa Z h846 a776 "java/lang/String" := f840.keep Kq846
  have f889 : Fld Z h846 a776 "java/lang/String" "coder" "B" (.int (0 : Int32)) := f841.keep Kq846 nin0
  have f890 : Fld Z h846 a776 "java/lang/String" "value" "[B" (.ref b776) := f842.keep Kq846 nin0
  have f891 : Arv Z h846 b776 kc776 .byte (2 : Int32) [(.int (58 : Int32)), (.int (32 : Int32))] (.int (0 : Int32)) := f843.keep Kq846 nin0
  have f892 : Fld Z h846 b704 "java/lang/AbstractStringBuilder" "value" "[B" (.ref bb_730) := w824_1.keep Kq846 nin0
  have f893 : Fld Z h846 b704 "java/lang/AbstractStringBuilder" "coder" "B" (.int (0 : Int32)) := w824_2.keep Kq846 nin0
  have f894 : Fld Z h846 b704 "java/lang/AbstractStringBuilder" "count" "I" (.int ((((0 : Int32) + ln) + (2 : Int32)) + mn)) := w824_3.keep Kq846 nin0
  have f895 : Arv Z h846 bb_730 kb_730 .byte (16 : Int32) (own_put (own_put (own_put [(.int (0 : Int32)), (.int (0 : Int32)), (.int (0 : Int32)), (.int (0 : Int32)), (.int (0 : Int32)), (.int (0 : Int32)), (.int (0 : Int32)), (.int (0 : Int32)), (.int (0 : Int32)), (.int (0 : Int32)), (.int (0 : Int32)), (.int (0 : Int32)), (.int (0 : Int32)), (.int (0 : Int32)), (.int (0 : Int32)), (.int (0 : Int32))] (0 : Int32) w1 ln) ((0 : Int32) + ln) [(.int (58 : Int32)), (.int (32 : Int32))] (2 : Int32)) (((0 : Int32) + ln) + (2 : Int32)) w2 mn) (.int (0 : Int32)) := w824_4.keep Kq846 nin0
  have O896 := O844.keep Kq846 all0
  have K897 := K845.trans Kq846 all0
  refine gv (fun tQ kQ => st846.trans kQ) ?_
  show G (T846.setTop (mkF me_ 29 #[.val (.ref p_)] [(.ref a_846)]))
  refine gf _ (own_retW X846 Bd.notSynchronized hS (by rw [e846]; exact hk) (v := some (.ref a_846)) (fun h => by rw [Bd.returns] at h; cases h) ?_ (by decide) (by decide) (by rw [hh, e846]; exact CR.trans (CHv.at X846 hZ hEL CR.1)) (fun fs hr => retOut X846 hx (t := (.object "java/lang/String")) Bd.returns rfl (Or.inr (Or.inr (Or.inr (Or.inr ⟨rfl, rfl, rfl⟩)))) (hb hby d11_29) hr))
  show Q_pts Z p_ a b k ln w1 y_ b2 k2 mn w2 cs h0 n0 _ T846.heap _
  rw [e846]
  exact ⟨a_846, r_846, kr_846, rfl, N847, K897, z860, z872, w846_2, w846_3, w846_4, w846_5⟩
theorem ef_15 (m : MethodId) (x0 : Int32) (x1 : Int32) (x2 : Value) (hc2 : x2.isRef = true) : entryFrame m #[(.int x0), (.int x1), x2] 3 = mkF m 0 #[.val (.int x0), .val (.int x1), .val x2] [] := by rcases ref_cases hc2 with rfl | ⟨y2, rfl⟩ <;> first | (simp [entryFrame, mkF, argsToLocals, Value.category]; done) | rfl
theorem pn_9 : plainName "jdk/internal/util/Preconditions" = true := by first | (simp [plainName, overriddenIn]; done) | decide +kernel
theorem d38_0 : decode jdk_41_method_11_code 0 = .ok (.iload_n 0, 1) := by decide +kernel
theorem d38_1 : decode jdk_41_method_11_code 1 = .ok (.ifCond .lt 8, 3) := by decide +kernel
theorem d38_4 : decode jdk_41_method_11_code 4 = .ok (.iload_n 0, 1) := by decide +kernel
theorem d38_5 : decode jdk_41_method_11_code 5 = .ok (.iload_n 1, 1) := by decide +kernel
theorem d38_6 : decode jdk_41_method_11_code 6 = .ok (.if_icmp .lt 10, 3) := by decide +kernel
theorem d38_16 : decode jdk_41_method_11_code 16 = .ok (.iload_n 0, 1) := by decide +kernel
theorem d38_17 : decode jdk_41_method_11_code 17 = .ok (.ireturn, 1) := by decide +kernel
def Q_pci (Z : State) (i_ : Int32) (n_ : Int32) (fmt : Value) (h0 : Heap) (n0 : Nat) (v : Option Value) (h : Heap) (L : List Loc) : Prop := v = some (.int i_) ∧ Fr n0 L ∧ h = h0
set_option maxRecDepth 65536 in
set_option maxHeartbeats 40000000 in
theorem rm_pci (l : Launch) (Z : State) (a0 : Array Value) (hw : ∀ d ∈ tables_1, d.before a0 Z = true) (ws : List Jvm.Cond) (i_ : Int32) (n_ : Int32) (fmt : Value) (h0 : Heap) (n0 : Nat) (O0 : Old Z n0 h0) (u0 : fmt.isRef = true) (u1 : ¬ (i_ < (0 : Int32))) (u2 : i_ < n_) :
    MetFree l (⟨"jdk/internal/util/Preconditions", "checkIndex", "(IILjava/util/function/BiFunction;)I"⟩ : MethodName) (head1 (Jvm.Cond.code (⟨"jdk/internal/util/Preconditions", "checkIndex", "(IILjava/util/function/BiFunction;)I"⟩ : MethodName) jdk_41_method_11_code 3 (some .int) :: ws) ({ frames := 0, cells := 0, slots := 0, locals := 0 } : Room)) (fun aV U => aV = #[(.int i_), (.int n_), fmt] ∧ Z.Warmed39 U.vm ∧ U.heap = h0) (fun _ _ _ _ _ => True) (fun _ U o U' => ∃ v L, o = .returned v ∧ Q_pci Z i_ n_ fmt h0 n0 v U'.heap L ∧ FrameEnd U o U' L ({ frames := 0, cells := 0, slots := 0, locals := 0 } : Room).cells ({ frames := 0, cells := 0, slots := 0, locals := 0 } : Room).slots) := by
  refine MetFree.of_bodySF (plainFor_of_name pn_9) hisR ?_
  intro pr_ en_ st_ me_ args below meth_ co_ s₁ Bd hml0 hP hK
  obtain ⟨rfl, hZ, hh⟩ := hP
  have hx := Bd.exec
  have hby := Bd.bytes
  have hml : co_.maxLocals = 3 := hml0
  have hown : st_.vm.findClass "jdk/internal/util/Preconditions" = some me_.cls := findClass_of_methodNamed Bd.named
  have hnm := (name_of_methodNamed Bd.named Bd.method).1
  have X0 : Stand pr_ l en_ ({ frames := 0, cells := 0, slots := 0, locals := 0 } : Room) st_ me_ #[(.int i_), (.int n_), fmt] below meth_ co_ s₁ [] 0 0 := Stand.of_body Bd
  have e0 : s₁.heap = h0 := by rw [← hh, Bd.state]; rfl
  have N0 := Fr.nil n0
  have K0 := Keep.refl h0 []
  obtain ⟨G, gv, gf, gb⟩ := own_G pr_.tables en_ below st_ (Q_pci Z i_ n_ fmt h0 n0) ({ frames := 0, cells := 0, slots := 0, locals := 0 } : Room).cells ({ frames := 0, cells := 0, slots := 0, locals := 0 } : Room).slots
  show own_Fin pr_.tables en_ below st_ (Q_pci Z i_ n_ fmt h0 n0) ({ frames := 0, cells := 0, slots := 0, locals := 0 } : Room).cells ({ frames := 0, cells := 0, slots := 0, locals := 0 } : Room).slots (s₁.setTop (entryFrame me_ #[(.int i_), (.int n_), fmt] 3))
  refine gb _ (gv (fun tQ kQ => castTop (ef_15 me_ i_ n_ fmt u0) kQ) ?_)
  show G (s₁.setTop (mkF me_ 0 #[.val (.int i_), .val (.int n_), .val fmt] []))
  refine gv (fun tQ kQ => XS.iloadN X0.here hx rfl (hb hby d38_0) rfl kQ) ?_
  show G (s₁.setTop (mkF me_ 1 #[.val (.int i_), .val (.int n_), .val fmt] [(.int i_)]))
  refine gv (fun tQ kQ => XS.ifNo X0.here hx rfl (hb hby d38_1) rfl ((if0 _ _).trans (flt u1).1) kQ) ?_
  show G (s₁.setTop (mkF me_ 4 #[.val (.int i_), .val (.int n_), .val fmt] []))
  refine gv (fun tQ kQ => XS.iloadN X0.here hx rfl (hb hby d38_4) rfl kQ) ?_
  show G (s₁.setTop (mkF me_ 5 #[.val (.int i_), .val (.int n_), .val fmt] [(.int i_)]))
  refine gv (fun tQ kQ => XS.iloadN X0.here hx rfl (hb hby d38_5) rfl kQ) ?_
  show G (s₁.setTop (mkF me_ 6 #[.val (.int i_), .val (.int n_), .val fmt] [(.int n_), (.int i_)]))
  refine gv (fun tQ kQ => XS.icmpYes X0.here hx rfl (pc0 := 6) (pc' := 16) rfl (hb hby d38_6) rfl (tlt u2).1 (by decide) (by decide) kQ) ?_
  show G (s₁.setTop (mkF me_ 16 #[.val (.int i_), .val (.int n_), .val fmt] []))
  refine gv (fun tQ kQ => XS.iloadN X0.here hx rfl (hb hby d38_16) rfl kQ) ?_
  show G (s₁.setTop (mkF me_ 17 #[.val (.int i_), .val (.int n_), .val fmt] [(.int i_)]))
  refine gf _ (own_ret X0 Bd.notSynchronized (v := some (.int i_)) (fun h => by rw [Bd.returns] at h; cases h) ?_ (by decide) (by decide) (fun fs hr => retOut X0 hx (t := .int) Bd.returns rfl (Or.inl ⟨rfl, Or.inl rfl, _, rfl⟩) (hb hby d38_17) hr))
  show Q_pci Z i_ n_ fmt h0 n0 _ s₁.heap _
  rw [e0]
  exact ⟨rfl, N0, rfl⟩
theorem d37_0 : decode jdk_42_method_155_code 0 = .ok (.iload_n 0, 1) := by decide +kernel
theorem d37_1 : decode jdk_42_method_155_code 1 = .ok (.iload_n 1, 1) := by decide +kernel
theorem d37_2 : decode jdk_42_method_155_code 2 = .ok (.getstatic 1053, 3) := by decide +kernel
theorem d37_5 : decode jdk_42_method_155_code 5 = .ok (.invokestatic 1059, 3) := by decide +kernel
theorem pd_22 : parseMethodDescriptor "(IILjava/util/function/BiFunction;)I" = some ⟨[.int, .int, (.object "java/util/function/BiFunction")], some .int⟩ := by decide +kernel
theorem d37_8 : decode jdk_42_method_155_code 8 = .ok (.pop, 1) := by decide +kernel
theorem d37_9 : decode jdk_42_method_155_code 9 = .ok (.return_, 1) := by decide +kernel
def Q_scx (Z : State) (i_ : Int32) (n_ : Int32) (fmt : Value) (h0 : Heap) (n0 : Nat) (v : Option Value) (h : Heap) (L : List Loc) : Prop := v = none ∧ Fr n0 L ∧ h = h0
set_option maxRecDepth 65536 in
set_option maxHeartbeats 40000000 in
theorem rm_scx (l : Launch) (Z : State) (a0 : Array Value) (hw : ∀ d ∈ tables_1, d.before a0 Z = true) (ws : List Jvm.Cond) (i_ : Int32) (n_ : Int32) (fmt : Value) (h0 : Heap) (n0 : Nat) (O0 : Old Z n0 h0) (u0 : fmt.isRef = true) (u1 : Sta Z Z.heap "jdk/internal/util/Preconditions" "SIOOBE_FORMATTER" "Ljava/util/function/BiFunction;" fmt) (u2 : ¬ (i_ < (0 : Int32))) (u3 : i_ < n_) :
    MetFree l (⟨"java/lang/String", "checkIndex", "(II)V"⟩ : MethodName) (head1 (Jvm.Cond.code (⟨"java/lang/String", "checkIndex", "(II)V"⟩ : MethodName) jdk_42_method_155_code 2 none :: ws) ({ frames := 1, cells := 0, slots := 0, locals := 14 } : Room)) (fun aV U => aV = #[(.int i_), (.int n_)] ∧ Z.Warmed39 U.vm ∧ U.heap = h0) (fun _ _ _ _ _ => True) (fun _ U o U' => ∃ v L, o = .returned v ∧ Q_scx Z i_ n_ fmt h0 n0 v U'.heap L ∧ FrameEnd U o U' L ({ frames := 1, cells := 0, slots := 0, locals := 14 } : Room).cells ({ frames := 1, cells := 0, slots := 0, locals := 14 } : Room).slots) := by
  refine MetFree.of_bodySF (plainFor_of_name pn_0) hisR ?_
  intro pr_ en_ st_ me_ args below meth_ co_ s₁ Bd hml0 hP hK
  obtain ⟨rfl, hZ, hh⟩ := hP
  have hx := Bd.exec
  have hby := Bd.bytes
  have hml : co_.maxLocals = 2 := hml0
  have hown : st_.vm.findClass "java/lang/String" = some me_.cls := findClass_of_methodNamed Bd.named
  have hnm := (name_of_methodNamed Bd.named Bd.method).1
  have X0 : Stand pr_ l en_ ({ frames := 1, cells := 0, slots := 0, locals := 14 } : Room) st_ me_ #[(.int i_), (.int n_)] below meth_ co_ s₁ [] 0 0 := Stand.of_body Bd
  have e0 : s₁.heap = h0 := by rw [← hh, Bd.state]; rfl
  have N0 := Fr.nil n0
  have K0 := Keep.refl h0 []
  obtain ⟨G, gv, gf, gb⟩ := own_G pr_.tables en_ below st_ (Q_scx Z i_ n_ fmt h0 n0) ({ frames := 1, cells := 0, slots := 0, locals := 14 } : Room).cells ({ frames := 1, cells := 0, slots := 0, locals := 14 } : Room).slots
  show own_Fin pr_.tables en_ below st_ (Q_scx Z i_ n_ fmt h0 n0) ({ frames := 1, cells := 0, slots := 0, locals := 14 } : Room).cells ({ frames := 1, cells := 0, slots := 0, locals := 14 } : Room).slots (s₁.setTop (entryFrame me_ #[(.int i_), (.int n_)] 2))
  refine gb _ (gv (fun tQ kQ => castTop (ef_7 me_ i_ n_) kQ) ?_)
  show G (s₁.setTop (mkF me_ 0 #[.val (.int i_), .val (.int n_)] []))
  refine gv (fun tQ kQ => XS.iloadN X0.here hx rfl (hb hby d37_0) rfl kQ) ?_
  show G (s₁.setTop (mkF me_ 1 #[.val (.int i_), .val (.int n_)] [(.int i_)]))
  refine gv (fun tQ kQ => XS.iloadN X0.here hx rfl (hb hby d37_1) rfl kQ) ?_
  show G (s₁.setTop (mkF me_ 2 #[.val (.int i_), .val (.int n_)] [(.int n_), (.int i_)]))
  obtain ⟨T898, X898, e898, st898⟩ := getS2 X0 hx hZ hown (host := "") (Or.inl (hw _ (List.mem_of_getElem? (i := 196) rfl))) Via.refl e0 (u1.ext O0.2) (g := (mkF me_ 2 #[.val (.int i_), .val (.int n_)] [(.int n_), (.int i_)])) rfl (hb hby d37_2)
  refine gv st898 ?_
  show G (T898.setTop (mkF me_ 5 #[.val (.int i_), .val (.int n_)] [fmt, (.int n_), (.int i_)]))
  obtain ⟨_, _, ⟨T899, L899, k899, n899⟩, -, X899, ⟨Lc899, hQ899, l899, y899, z899⟩, st899⟩ := Jvm.LawKit.callS X898 hx (y := (⟨"jdk/internal/util/Preconditions", "checkIndex", "(IILjava/util/function/BiFunction;)I"⟩ : MethodName)) hown (mvT hZ (hw _ (List.mem_of_getElem? (i := 198) rfl))) (mvT hZ (hw _ (List.mem_of_getElem? (i := 199) rfl))) (mvT hZ (hw _ (List.mem_of_getElem? (i := 197) rfl))) (mvT hZ (hw _ (List.mem_of_getElem? (i := 200) rfl))) (by decide) (backOf (W := 0) (rm_pci l Z a0 hw [] i_ n_ fmt h0 n0 O0 u0 u2 u3) hZ (hw _ (List.mem_of_getElem? (i := 200) rfl)) (hw _ (List.mem_of_getElem? (i := 197) rfl)) (by decide) (by decide)) (g := (mkF me_ 5 #[.val (.int i_), .val (.int n_)] [fmt, (.int n_), (.int i_)])) rfl (by rw [hml]; rfl) (argsL := [(.int i_), (.int n_), fmt]) (rest := []) (lenOf pd_22 rfl) rfl (by show 2 * 0 + _ ≤ _; exact Nat.le_of_eq rfl) (hb hby d37_5) (fun _ _ => ⟨rfl, e898, (by decide : 0 + 0 ≤ _), (by decide : 0 + 0 ≤ _)⟩)
  dsimp only [Pt.U, Pt.locs, Pt.cells, Pt.slots] at X899 l899 y899 z899 st899 hQ899
  subst l899 y899 z899
  obtain ⟨rfl, Nq899, eq899⟩ := hQ899
  have N900 := Fr.app N0 Nq899
  refine gv st899 ?_
  show G (T899.setTop (mkF me_ 8 #[.val (.int i_), .val (.int n_)] [(.int i_)]))
  refine gv (fun tQ kQ => XS.pop X899.here hx rfl (hb hby d37_8) rfl rfl kQ) ?_
  show G (T899.setTop (mkF me_ 9 #[.val (.int i_), .val (.int n_)] []))
  refine gf _ (own_ret X899 Bd.notSynchronized (v := none) (fun _ => rfl) ?_ (by decide) (by decide) (fun fs hr => X899.returnOut hx Bd.returns (hb hby d37_9) hr))
  show Q_scx Z i_ n_ fmt h0 n0 _ T899.heap _
  rw [eq899]
  exact ⟨rfl, N900, rfl⟩
theorem pn_10 : plainName "java/lang/StringLatin1" = true := by first | (simp [plainName, overriddenIn]; done) | decide +kernel
theorem d36_0 : decode jdk_43_method_2_code 0 = .ok (.iload_n 1, 1) := by decide +kernel
theorem d36_1 : decode jdk_43_method_2_code 1 = .ok (.aload_n 0, 1) := by decide +kernel
theorem d36_2 : decode jdk_43_method_2_code 2 = .ok (.arraylength, 1) := by decide +kernel
theorem d36_3 : decode jdk_43_method_2_code 3 = .ok (.invokestatic 9, 3) := by decide +kernel
theorem d36_6 : decode jdk_43_method_2_code 6 = .ok (.aload_n 0, 1) := by decide +kernel
theorem d36_7 : decode jdk_43_method_2_code 7 = .ok (.iload_n 1, 1) := by decide +kernel
theorem d36_8 : decode jdk_43_method_2_code 8 = .ok (.baload, 1) := by decide +kernel
theorem d36_9 : decode jdk_43_method_2_code 9 = .ok (.sipush 255, 3) := by decide +kernel
theorem d36_12 : decode jdk_43_method_2_code 12 = .ok (.iand, 1) := by decide +kernel
theorem d36_13 : decode jdk_43_method_2_code 13 = .ok (.i2c, 1) := by decide +kernel
theorem d36_14 : decode jdk_43_method_2_code 14 = .ok (.ireturn, 1) := by decide +kernel
def Q_l1at (Z : State) (b : Addr) (k : ClassId) (m : Int32) (ws_ : List Value) (i_ : Int32) (x_ : Int32) (fmt : Value) (h0 : Heap) (n0 : Nat) (v : Option Value) (h : Heap) (L : List Loc) : Prop := v = some (.int ((x_ &&& (255 : Int32)).toUInt32.toUInt16.toUInt32.toInt32)) ∧ Fr n0 L ∧ h = h0
set_option maxRecDepth 65536 in
set_option maxHeartbeats 40000000 in
theorem rm_l1at (l : Launch) (Z : State) (a0 : Array Value) (hw : ∀ d ∈ tables_1, d.before a0 Z = true) (ws : List Jvm.Cond) (b : Addr) (k : ClassId) (m : Int32) (ws_ : List Value) (i_ : Int32) (x_ : Int32) (fmt : Value) (h0 : Heap) (n0 : Nat) (O0 : Old Z n0 h0) (u0 : fmt.isRef = true) (u1 : Sta Z Z.heap "jdk/internal/util/Preconditions" "SIOOBE_FORMATTER" "Ljava/util/function/BiFunction;" fmt) (u2 : Arv Z h0 b k .byte m ws_ (.int (0 : Int32))) (u3 : ¬ (i_ < (0 : Int32))) (u4 : i_ < m) (u5 : ws_.getD i_.toNatClampNeg (.int (0 : Int32)) = .int x_) :
    MetFree l (⟨"java/lang/StringLatin1", "charAt", "([BI)C"⟩ : MethodName) (head1 (Jvm.Cond.code (⟨"java/lang/StringLatin1", "charAt", "([BI)C"⟩ : MethodName) jdk_43_method_2_code 2 (some .char) :: ws) ({ frames := 2, cells := 0, slots := 0, locals := 27 } : Room)) (fun aV U => aV = #[(.ref b), (.int i_)] ∧ Z.Warmed39 U.vm ∧ U.heap = h0) (fun _ _ _ _ _ => True) (fun _ U o U' => ∃ v L, o = .returned v ∧ Q_l1at Z b k m ws_ i_ x_ fmt h0 n0 v U'.heap L ∧ FrameEnd U o U' L ({ frames := 2, cells := 0, slots := 0, locals := 27 } : Room).cells ({ frames := 2, cells := 0, slots := 0, locals := 27 } : Room).slots) := by
  refine MetFree.of_bodySF (plainFor_of_name pn_10) hisR ?_
  intro pr_ en_ st_ me_ args below meth_ co_ s₁ Bd hml0 hP hK
  obtain ⟨rfl, hZ, hh⟩ := hP
  have hx := Bd.exec
  have hby := Bd.bytes
  have hml : co_.maxLocals = 2 := hml0
  have hown : st_.vm.findClass "java/lang/StringLatin1" = some me_.cls := findClass_of_methodNamed Bd.named
  have hnm := (name_of_methodNamed Bd.named Bd.method).1
  have X0 : Stand pr_ l en_ ({ frames := 2, cells := 0, slots := 0, locals := 27 } : Room) st_ me_ #[(.ref b), (.int i_)] below meth_ co_ s₁ [] 0 0 := Stand.of_body Bd
  have e0 : s₁.heap = h0 := by rw [← hh, Bd.state]; rfl
  have N0 := Fr.nil n0
  have K0 := Keep.refl h0 []
  obtain ⟨G, gv, gf, gb⟩ := own_G pr_.tables en_ below st_ (Q_l1at Z b k m ws_ i_ x_ fmt h0 n0) ({ frames := 2, cells := 0, slots := 0, locals := 27 } : Room).cells ({ frames := 2, cells := 0, slots := 0, locals := 27 } : Room).slots
  show own_Fin pr_.tables en_ below st_ (Q_l1at Z b k m ws_ i_ x_ fmt h0 n0) ({ frames := 2, cells := 0, slots := 0, locals := 27 } : Room).cells ({ frames := 2, cells := 0, slots := 0, locals := 27 } : Room).slots (s₁.setTop (entryFrame me_ #[(.ref b), (.int i_)] 2))
  refine gb _ (gv (fun tQ kQ => castTop (ef_6 me_ b i_) kQ) ?_)
  show G (s₁.setTop (mkF me_ 0 #[.val (.ref b), .val (.int i_)] []))
  refine gv (fun tQ kQ => XS.iloadN X0.here hx rfl (hb hby d36_0) rfl kQ) ?_
  show G (s₁.setTop (mkF me_ 1 #[.val (.ref b), .val (.int i_)] [(.int i_)]))
  refine gv (fun tQ kQ => XS.aloadN X0.here hx rfl (hb hby d36_1) rfl rfl kQ) ?_
  show G (s₁.setTop (mkF me_ 2 #[.val (.ref b), .val (.int i_)] [(.ref b), (.int i_)]))
  obtain ⟨cl901, Ar901, -, S901, n901, -, -⟩ := (id u2)
  refine gv (X0.arraylength hx (by rw [e0]; exact Ar901.1) (State.isArrayOf_alike hZ.alike Ar901.2.1) (g := (mkF me_ 2 #[.val (.ref b), .val (.int i_)] [(.ref b), (.int i_)])) rfl rfl (hb hby d36_2)) ?_
  rw [len_of S901 n901]
  show G (s₁.setTop (mkF me_ 3 #[.val (.ref b), .val (.int i_)] [(.int m), (.int i_)]))
  obtain ⟨_, _, ⟨T902, L902, k902, n902⟩, -, X902, ⟨Lc902, hQ902, l902, y902, z902⟩, st902⟩ := Jvm.LawKit.callS X0 hx (y := (⟨"java/lang/String", "checkIndex", "(II)V"⟩ : MethodName)) hown (mvT hZ (hw _ (List.mem_of_getElem? (i := 193) rfl))) (mvT hZ (hw _ (List.mem_of_getElem? (i := 194) rfl))) (mvT hZ (hw _ (List.mem_of_getElem? (i := 3) rfl))) (mvT hZ (hw _ (List.mem_of_getElem? (i := 195) rfl))) (by decide) (backOf (W := 0) (rm_scx l Z a0 hw [] i_ m fmt h0 n0 O0 u0 u1 u3 u4) hZ (hw _ (List.mem_of_getElem? (i := 195) rfl)) (hw _ (List.mem_of_getElem? (i := 3) rfl)) (by decide) (by decide)) (g := (mkF me_ 3 #[.val (.ref b), .val (.int i_)] [(.int m), (.int i_)])) rfl (by rw [hml]; rfl) (argsL := [(.int i_), (.int m)]) (rest := []) (lenOf pd_7 rfl) rfl (by show 2 * 0 + _ ≤ _; exact Nat.le_of_eq rfl) (hb hby d36_3) (fun _ _ => ⟨rfl, e0, (by decide : 0 + 0 ≤ _), (by decide : 0 + 0 ≤ _)⟩)
  dsimp only [Pt.U, Pt.locs, Pt.cells, Pt.slots] at X902 l902 y902 z902 st902 hQ902
  subst l902 y902 z902
  obtain ⟨rfl, Nq902, eq902⟩ := hQ902
  have N903 := Fr.app N0 Nq902
  refine gv st902 ?_
  show G (T902.setTop (mkF me_ 6 #[.val (.ref b), .val (.int i_)] []))
  refine gv (fun tQ kQ => XS.aloadN X902.here hx rfl (hb hby d36_6) rfl rfl kQ) ?_
  show G (T902.setTop (mkF me_ 7 #[.val (.ref b), .val (.int i_)] [(.ref b)]))
  refine gv (fun tQ kQ => XS.iloadN X902.here hx rfl (hb hby d36_7) rfl kQ) ?_
  show G (T902.setTop (mkF me_ 8 #[.val (.ref b), .val (.int i_)] [(.int i_), (.ref b)]))
  obtain ⟨cl904, Ar904, q904, S904, n904, H904, G904⟩ := (id u2)
  have in904 : ¬ (i_ < 0 ∨ cl904.slots.size ≤ (i_).toNatClampNeg) := inb_of S904 ⟨u3, u4⟩
  refine gv (X902.baloadBytes hx (j := i_) (v := (.int x_)) (by rw [eq902]; exact Ar904.1) (State.isArrayOf_alike hZ.alike Ar904.2.1) Ar904.2.2 in904 (Has.at H904 in904 u5) (g := (mkF me_ 8 #[.val (.ref b), .val (.int i_)] [(.int i_), (.ref b)])) rfl rfl (hb hby d36_8)) ?_
  show G (T902.setTop (mkF me_ 9 #[.val (.ref b), .val (.int i_)] [(.int x_)]))
  refine gv (fun tQ kQ => XS.sipush X902.here hx rfl (hb hby d36_9) kQ) ?_
  show G (T902.setTop (mkF me_ 12 #[.val (.ref b), .val (.int i_)] [(.int (255 : Int32)), (.int x_)]))
  refine gv (fun tQ kQ => XS.iand X902.here hx rfl (hb hby d36_12) rfl kQ) ?_
  show G (T902.setTop (mkF me_ 13 #[.val (.ref b), .val (.int i_)] [(.int (x_ &&& (255 : Int32)))]))
  refine gv (fun tQ kQ => XS.i2c X902.here hx rfl (hb hby d36_13) rfl kQ) ?_
  show G (T902.setTop (mkF me_ 14 #[.val (.ref b), .val (.int i_)] [(.int ((x_ &&& (255 : Int32)).toUInt32.toUInt16.toUInt32.toInt32))]))
  refine gf _ (own_ret X902 Bd.notSynchronized (v := some (.int ((x_ &&& (255 : Int32)).toUInt32.toUInt16.toUInt32.toInt32))) (fun h => by rw [Bd.returns] at h; cases h) ?_ (by decide) (by decide) (fun fs hr => retN X902 hx (t := .char) Bd.returns (by simp) (hb hby d36_14) (by rw [(own_narC _)]; exact hr)))
  show Q_l1at Z b k m ws_ i_ x_ fmt h0 n0 _ T902.heap _
  rw [eq902]
  exact ⟨rfl, N903, rfl⟩
theorem d34_0 : decode jdk_42_method_56_code 0 = .ok (.aload_n 0, 1) := by decide +kernel
theorem d34_1 : decode jdk_42_method_56_code 1 = .ok (.invokevirtual 492, 3) := by decide +kernel
theorem d34_4 : decode jdk_42_method_56_code 4 = .ok (.ifCond .eq 12, 3) := by decide +kernel
theorem d34_7 : decode jdk_42_method_56_code 7 = .ok (.aload_n 0, 1) := by decide +kernel
theorem d34_8 : decode jdk_42_method_56_code 8 = .ok (.getfield 9, 3) := by decide +kernel
theorem d34_11 : decode jdk_42_method_56_code 11 = .ok (.iload_n 1, 1) := by decide +kernel
theorem d34_12 : decode jdk_42_method_56_code 12 = .ok (.invokestatic 495, 3) := by decide +kernel
theorem pd_23 : parseMethodDescriptor "([BI)C" = some ⟨[(.array .byte), .int], some .char⟩ := by decide +kernel
theorem d34_15 : decode jdk_42_method_56_code 15 = .ok (.ireturn, 1) := by decide +kernel
def Q_chat (Z : State) (a : Addr) (b : Addr) (k : ClassId) (m : Int32) (ws_ : List Value) (i_ : Int32) (x_ : Int32) (cs : Int32) (fmt : Value) (h0 : Heap) (n0 : Nat) (v : Option Value) (h : Heap) (L : List Loc) : Prop := v = some (.int ((x_ &&& (255 : Int32)).toUInt32.toUInt16.toUInt32.toInt32)) ∧ Fr n0 L ∧ h = h0
set_option maxRecDepth 65536 in
set_option maxHeartbeats 40000000 in
theorem rm_chat (l : Launch) (Z : State) (a0 : Array Value) (hw : ∀ d ∈ tables_1, d.before a0 Z = true) (ws : List Jvm.Cond) (a : Addr) (b : Addr) (k : ClassId) (m : Int32) (ws_ : List Value) (i_ : Int32) (x_ : Int32) (cs : Int32) (fmt : Value) (h0 : Heap) (n0 : Nat) (O0 : Old Z n0 h0) (u0 : Sta Z Z.heap "java/lang/String" "COMPACT_STRINGS" "Z" (.int cs)) (u1 : ¬ (cs = (0 : Int32))) (u2 : fmt.isRef = true) (u3 : Sta Z Z.heap "jdk/internal/util/Preconditions" "SIOOBE_FORMATTER" "Ljava/util/function/BiFunction;" fmt) (u4 : Exa Z h0 a "java/lang/String") (u5 : Fld Z h0 a "java/lang/String" "coder" "B" (.int (0 : Int32))) (u6 : Fld Z h0 a "java/lang/String" "value" "[B" (.ref b)) (u7 : Arv Z h0 b k .byte m ws_ (.int (0 : Int32))) (u8 : ¬ (i_ < (0 : Int32))) (u9 : i_ < m) (u10 : ws_.getD i_.toNatClampNeg (.int (0 : Int32)) = .int x_) :
    MetFree l (⟨"java/lang/String", "charAt", "(I)C"⟩ : MethodName) (head1 (Jvm.Cond.code (⟨"java/lang/String", "charAt", "(I)C"⟩ : MethodName) jdk_42_method_56_code 2 (some .char) :: ws) ({ frames := 3, cells := 0, slots := 0, locals := 40 } : Room)) (fun aV U => aV = #[(.ref a), (.int i_)] ∧ Z.Warmed39 U.vm ∧ U.heap = h0) (fun _ _ _ _ _ => True) (fun _ U o U' => ∃ v L, o = .returned v ∧ Q_chat Z a b k m ws_ i_ x_ cs fmt h0 n0 v U'.heap L ∧ FrameEnd U o U' L ({ frames := 3, cells := 0, slots := 0, locals := 40 } : Room).cells ({ frames := 3, cells := 0, slots := 0, locals := 40 } : Room).slots) := by
  refine MetFree.of_bodySF (plainFor_of_name pn_0) hisR ?_
  intro pr_ en_ st_ me_ args below meth_ co_ s₁ Bd hml0 hP hK
  obtain ⟨rfl, hZ, hh⟩ := hP
  have hx := Bd.exec
  have hby := Bd.bytes
  have hml : co_.maxLocals = 2 := hml0
  have hown : st_.vm.findClass "java/lang/String" = some me_.cls := findClass_of_methodNamed Bd.named
  have hnm := (name_of_methodNamed Bd.named Bd.method).1
  have X0 : Stand pr_ l en_ ({ frames := 3, cells := 0, slots := 0, locals := 40 } : Room) st_ me_ #[(.ref a), (.int i_)] below meth_ co_ s₁ [] 0 0 := Stand.of_body Bd
  have e0 : s₁.heap = h0 := by rw [← hh, Bd.state]; rfl
  have N0 := Fr.nil n0
  have K0 := Keep.refl h0 []
  obtain ⟨G, gv, gf, gb⟩ := own_G pr_.tables en_ below st_ (Q_chat Z a b k m ws_ i_ x_ cs fmt h0 n0) ({ frames := 3, cells := 0, slots := 0, locals := 40 } : Room).cells ({ frames := 3, cells := 0, slots := 0, locals := 40 } : Room).slots
  show own_Fin pr_.tables en_ below st_ (Q_chat Z a b k m ws_ i_ x_ cs fmt h0 n0) ({ frames := 3, cells := 0, slots := 0, locals := 40 } : Room).cells ({ frames := 3, cells := 0, slots := 0, locals := 40 } : Room).slots (s₁.setTop (entryFrame me_ #[(.ref a), (.int i_)] 2))
  refine gb _ (gv (fun tQ kQ => castTop (ef_6 me_ a i_) kQ) ?_)
  show G (s₁.setTop (mkF me_ 0 #[.val (.ref a), .val (.int i_)] []))
  refine gv (fun tQ kQ => XS.aloadN X0.here hx rfl (hb hby d34_0) rfl rfl kQ) ?_
  show G (s₁.setTop (mkF me_ 1 #[.val (.ref a), .val (.int i_)] [(.ref a)]))
  obtain ⟨cq905, kq905, q905a, q905b, q905c⟩ := isOf hZ e0 u4
  obtain ⟨_, _, ⟨T905, L905, k905, n905⟩, -, X905, ⟨Lc905, hQ905, l905, y905, z905⟩, st905⟩ := X0.virtualBack hx (y := (⟨"java/lang/String", "isLatin1", "()Z"⟩ : MethodName)) (z := (⟨"java/lang/String", "isLatin1", "()Z"⟩ : MethodName)) hown (mvT hZ (hw _ (List.mem_of_getElem? (i := 184) rfl))) (mvT hZ (hw _ (List.mem_of_getElem? (i := 185) rfl))) (notFace_of_selects (args := #[]) (mvT hZ (hw _ (List.mem_of_getElem? (i := 187) rfl)))) (mvT hZ (hw _ (List.mem_of_getElem? (i := 187) rfl))) (mvT hZ (hw _ (List.mem_of_getElem? (i := 186) rfl))) (by decide) (backOf (W := 0) (rm_isL0 l Z a0 hw [] a cs h0 n0 O0 u0 u1 u5) hZ (hw _ (List.mem_of_getElem? (i := 188) rfl)) (hw _ (List.mem_of_getElem? (i := 3) rfl)) (by decide) (by decide)) q905a q905c (g := (mkF me_ 1 #[.val (.ref a), .val (.int i_)] [(.ref a)])) rfl (by rw [hml]; rfl) (Steps.refl _) (argsL := []) (rest := []) (lenOf pd_11 rfl) rfl (by show 2 * 0 + _ ≤ _; exact Nat.le_of_eq rfl) (hb hby d34_1) (fun _ _ => ⟨rfl, e0, (by decide : 0 + 0 ≤ _), (by decide : 0 + 0 ≤ _)⟩)
  dsimp only [Pt.U, Pt.locs, Pt.cells, Pt.slots] at X905 l905 y905 z905 st905 hQ905
  subst l905 y905 z905
  obtain ⟨rfl, Nq905, eq905⟩ := hQ905
  have N906 := Fr.app N0 Nq905
  refine gv (fun tQ kQ => st905.trans kQ) ?_
  show G (T905.setTop (mkF me_ 4 #[.val (.ref a), .val (.int i_)] [(.int (1 : Int32))]))
  refine gv (fun tQ kQ => XS.ifNo X905.here hx rfl (hb hby d34_4) rfl ((if0 _ _).trans (feq (by decide : ¬ ((1 : Int32) = (0 : Int32)))).1) kQ) ?_
  show G (T905.setTop (mkF me_ 7 #[.val (.ref a), .val (.int i_)] []))
  refine gv (fun tQ kQ => XS.aloadN X905.here hx rfl (hb hby d34_7) rfl rfl kQ) ?_
  show G (T905.setTop (mkF me_ 8 #[.val (.ref a), .val (.int i_)] [(.ref a)]))
  obtain ⟨T907, X907, e907, st907⟩ := getF X905 hx hZ hown (host := "") (Or.inl (hw _ (List.mem_of_getElem? (i := 24) rfl))) Via.refl eq905 u6 (g := (mkF me_ 8 #[.val (.ref a), .val (.int i_)] [(.ref a)])) rfl rfl (hb hby d34_8)
  refine gv st907 ?_
  show G (T907.setTop (mkF me_ 11 #[.val (.ref a), .val (.int i_)] [(.ref b)]))
  refine gv (fun tQ kQ => XS.iloadN X907.here hx rfl (hb hby d34_11) rfl kQ) ?_
  show G (T907.setTop (mkF me_ 12 #[.val (.ref a), .val (.int i_)] [(.int i_), (.ref b)]))
  obtain ⟨_, _, ⟨T908, L908, k908, n908⟩, -, X908, ⟨Lc908, hQ908, l908, y908, z908⟩, st908⟩ := Jvm.LawKit.callS X907 hx (y := (⟨"java/lang/StringLatin1", "charAt", "([BI)C"⟩ : MethodName)) hown (mvT hZ (hw _ (List.mem_of_getElem? (i := 189) rfl))) (mvT hZ (hw _ (List.mem_of_getElem? (i := 190) rfl))) (mvT hZ (hw _ (List.mem_of_getElem? (i := 191) rfl))) (mvT hZ (hw _ (List.mem_of_getElem? (i := 192) rfl))) (by decide) (backOf (W := 0) (rm_l1at l Z a0 hw [] b k m ws_ i_ x_ fmt h0 n0 O0 u2 u3 u7 u8 u9 u10) hZ (hw _ (List.mem_of_getElem? (i := 192) rfl)) (hw _ (List.mem_of_getElem? (i := 191) rfl)) (by decide) (by decide)) (g := (mkF me_ 12 #[.val (.ref a), .val (.int i_)] [(.int i_), (.ref b)])) rfl (by rw [hml]; rfl) (argsL := [(.ref b), (.int i_)]) (rest := []) (lenOf pd_23 rfl) rfl (by show 2 * 0 + _ ≤ _; exact Nat.le_of_eq rfl) (hb hby d34_12) (fun _ _ => ⟨rfl, e907, (by decide : 0 + 0 ≤ _), (by decide : 0 + 0 ≤ _)⟩)
  dsimp only [Pt.U, Pt.locs, Pt.cells, Pt.slots] at X908 l908 y908 z908 st908 hQ908
  subst l908 y908 z908
  obtain ⟨rfl, Nq908, eq908⟩ := hQ908
  have N909 := Fr.app N906 Nq908
  refine gv st908 ?_
  show G (T908.setTop (mkF me_ 15 #[.val (.ref a), .val (.int i_)] [(.int ((x_ &&& (255 : Int32)).toUInt32.toUInt16.toUInt32.toInt32))]))
  refine gf _ (own_ret X908 Bd.notSynchronized (v := some (.int ((x_ &&& (255 : Int32)).toUInt32.toUInt16.toUInt32.toInt32))) (fun h => by rw [Bd.returns] at h; cases h) ?_ (by decide) (by decide) (fun fs hr => retN X908 hx (t := .char) Bd.returns (by simp) (hb hby d34_15) (by rw [(own_narC _)]; exact hr)))
  show Q_chat Z a b k m ws_ i_ x_ cs fmt h0 n0 _ T908.heap _
  rw [eq908]
  exact ⟨rfl, N909, rfl⟩
theorem ef_16 (m : MethodId) (x0 : Addr) (x1 : Int32) (x2 : Int32) (x3 : Addr) (x4 : Int32) (x5 : Addr)  : entryFrame m #[(.ref x0), (.int x1), (.int x2), (.ref x3), (.int x4), (.ref x5)] 7 = mkF m 0 #[.val (.ref x0), .val (.int x1), .val (.int x2), .val (.ref x3), .val (.int x4), .val (.ref x5), .unset] [] := by first | (simp [entryFrame, mkF, argsToLocals, Value.category]; done) | rfl
theorem d33_0 : decode method_4_code 0 = .ok (.iload_n 1, 1) := by decide +kernel
theorem d33_1 : decode method_4_code 1 = .ok (.iload_n 2, 1) := by decide +kernel
theorem d33_2 : decode method_4_code 2 = .ok (.iconst 2, 1) := by decide +kernel
theorem d33_3 : decode method_4_code 3 = .ok (.iadd, 1) := by decide +kernel
theorem d33_4 : decode method_4_code 4 = .ok (.iload 4, 2) := by decide +kernel
theorem d33_6 : decode method_4_code 6 = .ok (.iadd, 1) := by decide +kernel
theorem d33_7 : decode method_4_code 7 = .ok (.if_icmp .lt 5, 3) := by decide +kernel
theorem d33_12 : decode method_4_code 12 = .ok (.iload_n 1, 1) := by decide +kernel
theorem d33_13 : decode method_4_code 13 = .ok (.iload_n 2, 1) := by decide +kernel
theorem d33_14 : decode method_4_code 14 = .ok (.if_icmp .ge 11, 3) := by decide +kernel
theorem d33_17 : decode method_4_code 17 = .ok (.aload_n 3, 1) := by decide +kernel
theorem d33_18 : decode method_4_code 18 = .ok (.iload_n 1, 1) := by decide +kernel
theorem d33_19 : decode method_4_code 19 = .ok (.caload, 1) := by decide +kernel
theorem d33_20 : decode method_4_code 20 = .ok (.istore 6, 2) := by decide +kernel
theorem d33_22 : decode method_4_code 22 = .ok (.goto 39, 3) := by decide +kernel
theorem d33_61 : decode method_4_code 61 = .ok (.aload_n 0, 1) := by decide +kernel
theorem d33_62 : decode method_4_code 62 = .ok (.iload_n 1, 1) := by decide +kernel
theorem d33_63 : decode method_4_code 63 = .ok (.invokevirtual 35, 3) := by decide +kernel
theorem pd_24 : parseMethodDescriptor "(I)C" = some ⟨[.int], some .char⟩ := by decide +kernel
theorem d33_66 : decode method_4_code 66 = .ok (.iload 6, 2) := by decide +kernel
theorem d33_68 : decode method_4_code 68 = .ok (.if_icmp .ne 7, 3) := by decide +kernel
theorem d33_71 : decode method_4_code 71 = .ok (.iconst 1, 1) := by decide +kernel
theorem d33_72 : decode method_4_code 72 = .ok (.goto 4, 3) := by decide +kernel
theorem d33_76 : decode method_4_code 76 = .ok (.ireturn, 1) := by decide +kernel
theorem d33_25 : decode method_4_code 25 = .ok (.iload_n 1, 1) := by decide +kernel
theorem d33_26 : decode method_4_code 26 = .ok (.iload_n 2, 1) := by decide +kernel
theorem d33_27 : decode method_4_code 27 = .ok (.if_icmp .ne 10, 3) := by decide +kernel
theorem d33_30 : decode method_4_code 30 = .ok (.bipush 58, 2) := by decide +kernel
theorem d33_32 : decode method_4_code 32 = .ok (.istore 6, 2) := by decide +kernel
theorem d33_34 : decode method_4_code 34 = .ok (.goto 27, 3) := by decide +kernel
theorem d33_37 : decode method_4_code 37 = .ok (.iload_n 1, 1) := by decide +kernel
theorem d33_38 : decode method_4_code 38 = .ok (.iload_n 2, 1) := by decide +kernel
theorem d33_39 : decode method_4_code 39 = .ok (.iconst 1, 1) := by decide +kernel
theorem d33_40 : decode method_4_code 40 = .ok (.iadd, 1) := by decide +kernel
theorem d33_41 : decode method_4_code 41 = .ok (.if_icmp .ne 10, 3) := by decide +kernel
theorem d33_44 : decode method_4_code 44 = .ok (.bipush 32, 2) := by decide +kernel
theorem d33_46 : decode method_4_code 46 = .ok (.istore 6, 2) := by decide +kernel
theorem d33_48 : decode method_4_code 48 = .ok (.goto 13, 3) := by decide +kernel
theorem d33_51 : decode method_4_code 51 = .ok (.aload 5, 2) := by decide +kernel
theorem d33_53 : decode method_4_code 53 = .ok (.iload_n 1, 1) := by decide +kernel
theorem d33_54 : decode method_4_code 54 = .ok (.iload_n 2, 1) := by decide +kernel
theorem d33_55 : decode method_4_code 55 = .ok (.isub, 1) := by decide +kernel
theorem d33_56 : decode method_4_code 56 = .ok (.iconst 2, 1) := by decide +kernel
theorem d33_57 : decode method_4_code 57 = .ok (.isub, 1) := by decide +kernel
theorem d33_58 : decode method_4_code 58 = .ok (.caload, 1) := by decide +kernel
theorem d33_59 : decode method_4_code 59 = .ok (.istore 6, 2) := by decide +kernel
theorem d33_10 : decode method_4_code 10 = .ok (.iconst 1, 1) := by decide +kernel
theorem d33_11 : decode method_4_code 11 = .ok (.ireturn, 1) := by decide +kernel
def Q_at (Z : State) (a : Addr) (b : Addr) (k : ClassId) (m : Int32) (ws_ : List Value) (i_ : Int32) (ln : Int32) (lc : Addr) (kl : ClassId) (mn : Int32) (mc : Addr) (km : ClassId) (c0 : Int32) (c1 : Int32) (c2 : Int32) (d0 : Int32) (d1 : Int32) (d2 : Int32) (cs : Int32) (fmt : Value) (h0 : Heap) (n0 : Nat) (v : Option Value) (h : Heap) (L : List Loc) : Prop := v = some (.int (1 : Int32)) ∧ Fr n0 L ∧ h = h0
set_option maxRecDepth 65536 in
set_option maxHeartbeats 40000000 in
theorem rm_at (l : Launch) (Z : State) (a0 : Array Value) (hw : ∀ d ∈ tables_1, d.before a0 Z = true) (ws : List Jvm.Cond) (a : Addr) (b : Addr) (k : ClassId) (m : Int32) (ws_ : List Value) (i_ : Int32) (ln : Int32) (lc : Addr) (kl : ClassId) (mn : Int32) (mc : Addr) (km : ClassId) (c0 : Int32) (c1 : Int32) (c2 : Int32) (d0 : Int32) (d1 : Int32) (d2 : Int32) (cs : Int32) (fmt : Value) (h0 : Heap) (n0 : Nat) (O0 : Old Z n0 h0) (u0 : Sta Z Z.heap "java/lang/String" "COMPACT_STRINGS" "Z" (.int cs)) (u1 : ¬ (cs = (0 : Int32))) (u2 : fmt.isRef = true) (u3 : Sta Z Z.heap "jdk/internal/util/Preconditions" "SIOOBE_FORMATTER" "Ljava/util/function/BiFunction;" fmt) (u4 : Exa Z h0 a "java/lang/String") (u5 : Fld Z h0 a "java/lang/String" "coder" "B" (.int (0 : Int32))) (u6 : Fld Z h0 a "java/lang/String" "value" "[B" (.ref b)) (u7 : Arv Z h0 b k .byte m ws_ (.int (0 : Int32))) (u8 : Arv Z h0 lc kl .char (3 : Int32) [(.int c0), (.int c1), (.int c2)] (.int (0 : Int32))) (u9 : Arv Z h0 mc km .char (3 : Int32) [(.int d0), (.int d1), (.int d2)] (.int (0 : Int32))) (u10 : ¬ (i_ < (0 : Int32))) (u11 : (own_le3 ln)) (u12 : (own_le3 mn)) (u13 : (own_txt m ws_ ln mn c0 c1 c2 d0 d1 d2)) (u14 : (own_rg c0 c1 c2 d0 d1 d2)) :
    MetFree l (⟨"com/example/dvalin/dvalin/ProblemToStringPinLaw", "at", "(Ljava/lang/String;II[CI[C)Z"⟩ : MethodName) (head1 (Jvm.Cond.code (⟨"com/example/dvalin/dvalin/ProblemToStringPinLaw", "at", "(Ljava/lang/String;II[CI[C)Z"⟩ : MethodName) method_4_code 7 (some .boolean) :: ws) ({ frames := 4, cells := 0, slots := 0, locals := 53 } : Room)) (fun aV U => aV = #[(.ref a), (.int i_), (.int ln), (.ref lc), (.int mn), (.ref mc)] ∧ Z.Warmed39 U.vm ∧ U.heap = h0) (fun _ _ _ _ _ => True) (fun _ U o U' => ∃ v L, o = .returned v ∧ Q_at Z a b k m ws_ i_ ln lc kl mn mc km c0 c1 c2 d0 d1 d2 cs fmt h0 n0 v U'.heap L ∧ FrameEnd U o U' L ({ frames := 4, cells := 0, slots := 0, locals := 53 } : Room).cells ({ frames := 4, cells := 0, slots := 0, locals := 53 } : Room).slots) := by
  refine MetFree.of_bodySF (plainFor_of_name pn_4) hisR ?_
  intro pr_ en_ st_ me_ args below meth_ co_ s₁ Bd hml0 hP hK
  obtain ⟨rfl, hZ, hh⟩ := hP
  have hx := Bd.exec
  have hby := Bd.bytes
  have hml : co_.maxLocals = 7 := hml0
  have hown : st_.vm.findClass "com/example/dvalin/dvalin/ProblemToStringPinLaw" = some me_.cls := findClass_of_methodNamed Bd.named
  have hnm := (name_of_methodNamed Bd.named Bd.method).1
  have X0 : Stand pr_ l en_ ({ frames := 4, cells := 0, slots := 0, locals := 53 } : Room) st_ me_ #[(.ref a), (.int i_), (.int ln), (.ref lc), (.int mn), (.ref mc)] below meth_ co_ s₁ [] 0 0 := Stand.of_body Bd
  have e0 : s₁.heap = h0 := by rw [← hh, Bd.state]; rfl
  have N0 := Fr.nil n0
  have K0 := Keep.refl h0 []
  obtain ⟨G, gv, gf, gb⟩ := own_G pr_.tables en_ below st_ (Q_at Z a b k m ws_ i_ ln lc kl mn mc km c0 c1 c2 d0 d1 d2 cs fmt h0 n0) ({ frames := 4, cells := 0, slots := 0, locals := 53 } : Room).cells ({ frames := 4, cells := 0, slots := 0, locals := 53 } : Room).slots
  show own_Fin pr_.tables en_ below st_ (Q_at Z a b k m ws_ i_ ln lc kl mn mc km c0 c1 c2 d0 d1 d2 cs fmt h0 n0) ({ frames := 4, cells := 0, slots := 0, locals := 53 } : Room).cells ({ frames := 4, cells := 0, slots := 0, locals := 53 } : Room).slots (s₁.setTop (entryFrame me_ #[(.ref a), (.int i_), (.int ln), (.ref lc), (.int mn), (.ref mc)] 7))
  refine gb _ (gv (fun tQ kQ => castTop (ef_16 me_ a i_ ln lc mn mc) kQ) ?_)
  show G (s₁.setTop (mkF me_ 0 #[.val (.ref a), .val (.int i_), .val (.int ln), .val (.ref lc), .val (.int mn), .val (.ref mc), .unset] []))
  refine gv (fun tQ kQ => XS.iloadN X0.here hx rfl (hb hby d33_0) rfl kQ) ?_
  show G (s₁.setTop (mkF me_ 1 #[.val (.ref a), .val (.int i_), .val (.int ln), .val (.ref lc), .val (.int mn), .val (.ref mc), .unset] [(.int i_)]))
  refine gv (fun tQ kQ => XS.iloadN X0.here hx rfl (hb hby d33_1) rfl kQ) ?_
  show G (s₁.setTop (mkF me_ 2 #[.val (.ref a), .val (.int i_), .val (.int ln), .val (.ref lc), .val (.int mn), .val (.ref mc), .unset] [(.int ln), (.int i_)]))
  refine gv (fun tQ kQ => XS.iconst X0.here hx rfl (hb hby d33_2) kQ) ?_
  show G (s₁.setTop (mkF me_ 3 #[.val (.ref a), .val (.int i_), .val (.int ln), .val (.ref lc), .val (.int mn), .val (.ref mc), .unset] [(.int (2 : Int32)), (.int ln), (.int i_)]))
  refine gv (fun tQ kQ => XS.iadd X0.here hx rfl (hb hby d33_3) rfl kQ) ?_
  show G (s₁.setTop (mkF me_ 4 #[.val (.ref a), .val (.int i_), .val (.int ln), .val (.ref lc), .val (.int mn), .val (.ref mc), .unset] [(.int (ln + (2 : Int32))), (.int i_)]))
  refine gv (fun tQ kQ => XS.iload X0.here hx rfl (hb hby d33_4) rfl kQ) ?_
  show G (s₁.setTop (mkF me_ 6 #[.val (.ref a), .val (.int i_), .val (.int ln), .val (.ref lc), .val (.int mn), .val (.ref mc), .unset] [(.int mn), (.int (ln + (2 : Int32))), (.int i_)]))
  refine gv (fun tQ kQ => XS.iadd X0.here hx rfl (hb hby d33_6) rfl kQ) ?_
  show G (s₁.setTop (mkF me_ 7 #[.val (.ref a), .val (.int i_), .val (.int ln), .val (.ref lc), .val (.int mn), .val (.ref mc), .unset] [(.int ((ln + (2 : Int32)) + mn)), (.int i_)]))
  by_cases hc910 : i_ < ((ln + (2 : Int32)) + mn)
  · refine gv (fun tQ kQ => XS.icmpYes X0.here hx rfl (pc0 := 7) (pc' := 12) rfl (hb hby d33_7) rfl (tlt hc910).1 (by decide) (by decide) kQ) ?_
    show G (s₁.setTop (mkF me_ 12 #[.val (.ref a), .val (.int i_), .val (.int ln), .val (.ref lc), .val (.int mn), .val (.ref mc), .unset] []))
    refine gv (fun tQ kQ => XS.iloadN X0.here hx rfl (hb hby d33_12) rfl kQ) ?_
    show G (s₁.setTop (mkF me_ 13 #[.val (.ref a), .val (.int i_), .val (.int ln), .val (.ref lc), .val (.int mn), .val (.ref mc), .unset] [(.int i_)]))
    refine gv (fun tQ kQ => XS.iloadN X0.here hx rfl (hb hby d33_13) rfl kQ) ?_
    show G (s₁.setTop (mkF me_ 14 #[.val (.ref a), .val (.int i_), .val (.int ln), .val (.ref lc), .val (.int mn), .val (.ref mc), .unset] [(.int ln), (.int i_)]))
    by_cases hc911 : i_ < ln
    · refine gv (fun tQ kQ => XS.icmpNo X0.here hx rfl (hb hby d33_14) rfl (tlt hc911).2.1 kQ) ?_
      show G (s₁.setTop (mkF me_ 17 #[.val (.ref a), .val (.int i_), .val (.int ln), .val (.ref lc), .val (.int mn), .val (.ref mc), .unset] []))
      refine gv (fun tQ kQ => XS.aloadN X0.here hx rfl (hb hby d33_17) rfl rfl kQ) ?_
      show G (s₁.setTop (mkF me_ 18 #[.val (.ref a), .val (.int i_), .val (.int ln), .val (.ref lc), .val (.int mn), .val (.ref mc), .unset] [(.ref lc)]))
      refine gv (fun tQ kQ => XS.iloadN X0.here hx rfl (hb hby d33_18) rfl kQ) ?_
      show G (s₁.setTop (mkF me_ 19 #[.val (.ref a), .val (.int i_), .val (.int ln), .val (.ref lc), .val (.int mn), .val (.ref mc), .unset] [(.int i_), (.ref lc)]))
      obtain ⟨cl912, Ar912, q912, S912, n912, H912, G912⟩ := (id u8)
      have in912 : ¬ (i_ < 0 ∨ cl912.slots.size ≤ (i_).toNatClampNeg) := inb_of S912 ⟨u10, (own_lt3 u11 hc911)⟩
      refine gv (X0.caload hx (j := i_) (v := (.int (own_pk i_ c0 c1 c2))) (by rw [e0]; exact Ar912.1) (State.isArrayOf_alike hZ.alike Ar912.2.1) Ar912.2.2 in912 (Has.at H912 in912 (own_pkg u10 (own_lt3 u11 hc911))) (g := (mkF me_ 19 #[.val (.ref a), .val (.int i_), .val (.int ln), .val (.ref lc), .val (.int mn), .val (.ref mc), .unset] [(.int i_), (.ref lc)])) rfl rfl (hb hby d33_19)) ?_
      show G (s₁.setTop (mkF me_ 20 #[.val (.ref a), .val (.int i_), .val (.int ln), .val (.ref lc), .val (.int mn), .val (.ref mc), .unset] [(.int (own_pk i_ c0 c1 c2))]))
      refine gv (fun tQ kQ => XS.istore X0.here hx rfl (hb hby d33_20) rfl (l' := #[.val (.ref a), .val (.int i_), .val (.int ln), .val (.ref lc), .val (.int mn), .val (.ref mc), .val (.int (own_pk i_ c0 c1 c2))]) rfl kQ) ?_
      show G (s₁.setTop (mkF me_ 22 #[.val (.ref a), .val (.int i_), .val (.int ln), .val (.ref lc), .val (.int mn), .val (.ref mc), .val (.int (own_pk i_ c0 c1 c2))] []))
      refine gv (fun tQ kQ => XS.goto X0.here hx rfl (pc0 := 22) (pc' := 61) rfl (hb hby d33_22) (by decide) (by decide) kQ) ?_
      show G (s₁.setTop (mkF me_ 61 #[.val (.ref a), .val (.int i_), .val (.int ln), .val (.ref lc), .val (.int mn), .val (.ref mc), .val (.int (own_pk i_ c0 c1 c2))] []))
      refine gv (fun tQ kQ => XS.aloadN X0.here hx rfl (hb hby d33_61) rfl rfl kQ) ?_
      show G (s₁.setTop (mkF me_ 62 #[.val (.ref a), .val (.int i_), .val (.int ln), .val (.ref lc), .val (.int mn), .val (.ref mc), .val (.int (own_pk i_ c0 c1 c2))] [(.ref a)]))
      refine gv (fun tQ kQ => XS.iloadN X0.here hx rfl (hb hby d33_62) rfl kQ) ?_
      show G (s₁.setTop (mkF me_ 63 #[.val (.ref a), .val (.int i_), .val (.int ln), .val (.ref lc), .val (.int mn), .val (.ref mc), .val (.int (own_pk i_ c0 c1 c2))] [(.int i_), (.ref a)]))
      obtain ⟨cq913, kq913, q913a, q913b, q913c⟩ := isOf hZ e0 u4
      obtain ⟨_, _, ⟨T913, L913, k913, n913⟩, -, X913, ⟨Lc913, hQ913, l913, y913, z913⟩, st913⟩ := X0.virtualBack hx (y := (⟨"java/lang/String", "charAt", "(I)C"⟩ : MethodName)) (z := (⟨"java/lang/String", "charAt", "(I)C"⟩ : MethodName)) hown (mvT hZ (hw _ (List.mem_of_getElem? (i := 179) rfl))) (mvT hZ (hw _ (List.mem_of_getElem? (i := 180) rfl))) (notFace_of_selects (args := #[]) (mvT hZ (hw _ (List.mem_of_getElem? (i := 182) rfl)))) (mvT hZ (hw _ (List.mem_of_getElem? (i := 182) rfl))) (mvT hZ (hw _ (List.mem_of_getElem? (i := 181) rfl))) (by decide) (backOf (W := 0) (rm_chat l Z a0 hw [] a b k m ws_ i_ (own_eb i_ ln c0 c1 c2 d0 d1 d2) cs fmt h0 n0 O0 u0 u1 u2 u3 u4 u5 u6 u7 u10 (own_lteq u13.1 hc910) (u13.2 i_ u10 hc910)) hZ (hw _ (List.mem_of_getElem? (i := 183) rfl)) (hw _ (List.mem_of_getElem? (i := 3) rfl)) (by decide) (by decide)) q913a q913c (g := (mkF me_ 63 #[.val (.ref a), .val (.int i_), .val (.int ln), .val (.ref lc), .val (.int mn), .val (.ref mc), .val (.int (own_pk i_ c0 c1 c2))] [(.int i_), (.ref a)])) rfl (by rw [hml]; rfl) (Steps.refl _) (argsL := [(.int i_)]) (rest := []) (lenOf pd_24 rfl) rfl (by show 2 * 0 + _ ≤ _; exact Nat.le_of_eq rfl) (hb hby d33_63) (fun _ _ => ⟨rfl, e0, (by decide : 0 + 0 ≤ _), (by decide : 0 + 0 ≤ _)⟩)
      dsimp only [Pt.U, Pt.locs, Pt.cells, Pt.slots] at X913 l913 y913 z913 st913 hQ913
      subst l913 y913 z913
      obtain ⟨rfl, Nq913, eq913⟩ := hQ913
      have N914 := Fr.app N0 Nq913
      refine gv (fun tQ kQ => st913.trans kQ) ?_
      show G (T913.setTop (mkF me_ 66 #[.val (.ref a), .val (.int i_), .val (.int ln), .val (.ref lc), .val (.int mn), .val (.ref mc), .val (.int (own_pk i_ c0 c1 c2))] [(.int (((own_eb i_ ln c0 c1 c2 d0 d1 d2) &&& (255 : Int32)).toUInt32.toUInt16.toUInt32.toInt32))]))
      refine gv (fun tQ kQ => XS.iload X913.here hx rfl (hb hby d33_66) rfl kQ) ?_
      show G (T913.setTop (mkF me_ 68 #[.val (.ref a), .val (.int i_), .val (.int ln), .val (.ref lc), .val (.int mn), .val (.ref mc), .val (.int (own_pk i_ c0 c1 c2))] [(.int (own_pk i_ c0 c1 c2)), (.int (((own_eb i_ ln c0 c1 c2 d0 d1 d2) &&& (255 : Int32)).toUInt32.toUInt16.toUInt32.toInt32))]))
      refine gv (fun tQ kQ => XS.icmpNo X913.here hx rfl (hb hby d33_68) rfl (teq ((own_ech u14).trans (own_e1 hc911))).2 kQ) ?_
      show G (T913.setTop (mkF me_ 71 #[.val (.ref a), .val (.int i_), .val (.int ln), .val (.ref lc), .val (.int mn), .val (.ref mc), .val (.int (own_pk i_ c0 c1 c2))] []))
      refine gv (fun tQ kQ => XS.iconst X913.here hx rfl (hb hby d33_71) kQ) ?_
      show G (T913.setTop (mkF me_ 72 #[.val (.ref a), .val (.int i_), .val (.int ln), .val (.ref lc), .val (.int mn), .val (.ref mc), .val (.int (own_pk i_ c0 c1 c2))] [(.int (1 : Int32))]))
      refine gv (fun tQ kQ => XS.goto X913.here hx rfl (pc0 := 72) (pc' := 76) rfl (hb hby d33_72) (by decide) (by decide) kQ) ?_
      show G (T913.setTop (mkF me_ 76 #[.val (.ref a), .val (.int i_), .val (.int ln), .val (.ref lc), .val (.int mn), .val (.ref mc), .val (.int (own_pk i_ c0 c1 c2))] [(.int (1 : Int32))]))
      refine gf _ (own_ret X913 Bd.notSynchronized (v := some (.int (1 : Int32))) (fun h => by rw [Bd.returns] at h; cases h) ?_ (by decide) (by decide) (fun fs hr => retN X913 hx (t := .boolean) Bd.returns (by simp) (hb hby d33_76) hr))
      show Q_at Z a b k m ws_ i_ ln lc kl mn mc km c0 c1 c2 d0 d1 d2 cs fmt h0 n0 _ T913.heap _
      rw [eq913]
      exact ⟨rfl, N914, rfl⟩
    · refine gv (fun tQ kQ => XS.icmpYes X0.here hx rfl (pc0 := 14) (pc' := 25) rfl (hb hby d33_14) rfl (flt hc911).2.1 (by decide) (by decide) kQ) ?_
      show G (s₁.setTop (mkF me_ 25 #[.val (.ref a), .val (.int i_), .val (.int ln), .val (.ref lc), .val (.int mn), .val (.ref mc), .unset] []))
      refine gv (fun tQ kQ => XS.iloadN X0.here hx rfl (hb hby d33_25) rfl kQ) ?_
      show G (s₁.setTop (mkF me_ 26 #[.val (.ref a), .val (.int i_), .val (.int ln), .val (.ref lc), .val (.int mn), .val (.ref mc), .unset] [(.int i_)]))
      refine gv (fun tQ kQ => XS.iloadN X0.here hx rfl (hb hby d33_26) rfl kQ) ?_
      show G (s₁.setTop (mkF me_ 27 #[.val (.ref a), .val (.int i_), .val (.int ln), .val (.ref lc), .val (.int mn), .val (.ref mc), .unset] [(.int ln), (.int i_)]))
      by_cases hc915 : i_ = ln
      · refine gv (fun tQ kQ => XS.icmpNo X0.here hx rfl (hb hby d33_27) rfl (teq hc915).2 kQ) ?_
        show G (s₁.setTop (mkF me_ 30 #[.val (.ref a), .val (.int i_), .val (.int ln), .val (.ref lc), .val (.int mn), .val (.ref mc), .unset] []))
        refine gv (fun tQ kQ => XS.bipush X0.here hx rfl (hb hby d33_30) kQ) ?_
        show G (s₁.setTop (mkF me_ 32 #[.val (.ref a), .val (.int i_), .val (.int ln), .val (.ref lc), .val (.int mn), .val (.ref mc), .unset] [(.int (58 : Int32))]))
        refine gv (fun tQ kQ => XS.istore X0.here hx rfl (hb hby d33_32) rfl (l' := #[.val (.ref a), .val (.int i_), .val (.int ln), .val (.ref lc), .val (.int mn), .val (.ref mc), .val (.int (58 : Int32))]) rfl kQ) ?_
        show G (s₁.setTop (mkF me_ 34 #[.val (.ref a), .val (.int i_), .val (.int ln), .val (.ref lc), .val (.int mn), .val (.ref mc), .val (.int (58 : Int32))] []))
        refine gv (fun tQ kQ => XS.goto X0.here hx rfl (pc0 := 34) (pc' := 61) rfl (hb hby d33_34) (by decide) (by decide) kQ) ?_
        show G (s₁.setTop (mkF me_ 61 #[.val (.ref a), .val (.int i_), .val (.int ln), .val (.ref lc), .val (.int mn), .val (.ref mc), .val (.int (58 : Int32))] []))
        refine gv (fun tQ kQ => XS.aloadN X0.here hx rfl (hb hby d33_61) rfl rfl kQ) ?_
        show G (s₁.setTop (mkF me_ 62 #[.val (.ref a), .val (.int i_), .val (.int ln), .val (.ref lc), .val (.int mn), .val (.ref mc), .val (.int (58 : Int32))] [(.ref a)]))
        refine gv (fun tQ kQ => XS.iloadN X0.here hx rfl (hb hby d33_62) rfl kQ) ?_
        show G (s₁.setTop (mkF me_ 63 #[.val (.ref a), .val (.int i_), .val (.int ln), .val (.ref lc), .val (.int mn), .val (.ref mc), .val (.int (58 : Int32))] [(.int i_), (.ref a)]))
        obtain ⟨cq916, kq916, q916a, q916b, q916c⟩ := isOf hZ e0 u4
        obtain ⟨_, _, ⟨T916, L916, k916, n916⟩, -, X916, ⟨Lc916, hQ916, l916, y916, z916⟩, st916⟩ := X0.virtualBack hx (y := (⟨"java/lang/String", "charAt", "(I)C"⟩ : MethodName)) (z := (⟨"java/lang/String", "charAt", "(I)C"⟩ : MethodName)) hown (mvT hZ (hw _ (List.mem_of_getElem? (i := 179) rfl))) (mvT hZ (hw _ (List.mem_of_getElem? (i := 180) rfl))) (notFace_of_selects (args := #[]) (mvT hZ (hw _ (List.mem_of_getElem? (i := 182) rfl)))) (mvT hZ (hw _ (List.mem_of_getElem? (i := 182) rfl))) (mvT hZ (hw _ (List.mem_of_getElem? (i := 181) rfl))) (by decide) (backOf (W := 0) (rm_chat l Z a0 hw [] a b k m ws_ i_ (own_eb i_ ln c0 c1 c2 d0 d1 d2) cs fmt h0 n0 O0 u0 u1 u2 u3 u4 u5 u6 u7 u10 (own_lteq u13.1 hc910) (u13.2 i_ u10 hc910)) hZ (hw _ (List.mem_of_getElem? (i := 183) rfl)) (hw _ (List.mem_of_getElem? (i := 3) rfl)) (by decide) (by decide)) q916a q916c (g := (mkF me_ 63 #[.val (.ref a), .val (.int i_), .val (.int ln), .val (.ref lc), .val (.int mn), .val (.ref mc), .val (.int (58 : Int32))] [(.int i_), (.ref a)])) rfl (by rw [hml]; rfl) (Steps.refl _) (argsL := [(.int i_)]) (rest := []) (lenOf pd_24 rfl) rfl (by show 2 * 0 + _ ≤ _; exact Nat.le_of_eq rfl) (hb hby d33_63) (fun _ _ => ⟨rfl, e0, (by decide : 0 + 0 ≤ _), (by decide : 0 + 0 ≤ _)⟩)
        dsimp only [Pt.U, Pt.locs, Pt.cells, Pt.slots] at X916 l916 y916 z916 st916 hQ916
        subst l916 y916 z916
        obtain ⟨rfl, Nq916, eq916⟩ := hQ916
        have N917 := Fr.app N0 Nq916
        refine gv (fun tQ kQ => st916.trans kQ) ?_
        show G (T916.setTop (mkF me_ 66 #[.val (.ref a), .val (.int i_), .val (.int ln), .val (.ref lc), .val (.int mn), .val (.ref mc), .val (.int (58 : Int32))] [(.int (((own_eb i_ ln c0 c1 c2 d0 d1 d2) &&& (255 : Int32)).toUInt32.toUInt16.toUInt32.toInt32))]))
        refine gv (fun tQ kQ => XS.iload X916.here hx rfl (hb hby d33_66) rfl kQ) ?_
        show G (T916.setTop (mkF me_ 68 #[.val (.ref a), .val (.int i_), .val (.int ln), .val (.ref lc), .val (.int mn), .val (.ref mc), .val (.int (58 : Int32))] [(.int (58 : Int32)), (.int (((own_eb i_ ln c0 c1 c2 d0 d1 d2) &&& (255 : Int32)).toUInt32.toUInt16.toUInt32.toInt32))]))
        refine gv (fun tQ kQ => XS.icmpNo X916.here hx rfl (hb hby d33_68) rfl (teq ((own_ech u14).trans (own_e2 hc911 hc915))).2 kQ) ?_
        show G (T916.setTop (mkF me_ 71 #[.val (.ref a), .val (.int i_), .val (.int ln), .val (.ref lc), .val (.int mn), .val (.ref mc), .val (.int (58 : Int32))] []))
        refine gv (fun tQ kQ => XS.iconst X916.here hx rfl (hb hby d33_71) kQ) ?_
        show G (T916.setTop (mkF me_ 72 #[.val (.ref a), .val (.int i_), .val (.int ln), .val (.ref lc), .val (.int mn), .val (.ref mc), .val (.int (58 : Int32))] [(.int (1 : Int32))]))
        refine gv (fun tQ kQ => XS.goto X916.here hx rfl (pc0 := 72) (pc' := 76) rfl (hb hby d33_72) (by decide) (by decide) kQ) ?_
        show G (T916.setTop (mkF me_ 76 #[.val (.ref a), .val (.int i_), .val (.int ln), .val (.ref lc), .val (.int mn), .val (.ref mc), .val (.int (58 : Int32))] [(.int (1 : Int32))]))
        refine gf _ (own_ret X916 Bd.notSynchronized (v := some (.int (1 : Int32))) (fun h => by rw [Bd.returns] at h; cases h) ?_ (by decide) (by decide) (fun fs hr => retN X916 hx (t := .boolean) Bd.returns (by simp) (hb hby d33_76) hr))
        show Q_at Z a b k m ws_ i_ ln lc kl mn mc km c0 c1 c2 d0 d1 d2 cs fmt h0 n0 _ T916.heap _
        rw [eq916]
        exact ⟨rfl, N917, rfl⟩
      · refine gv (fun tQ kQ => XS.icmpYes X0.here hx rfl (pc0 := 27) (pc' := 37) rfl (hb hby d33_27) rfl (feq hc915).2 (by decide) (by decide) kQ) ?_
        show G (s₁.setTop (mkF me_ 37 #[.val (.ref a), .val (.int i_), .val (.int ln), .val (.ref lc), .val (.int mn), .val (.ref mc), .unset] []))
        refine gv (fun tQ kQ => XS.iloadN X0.here hx rfl (hb hby d33_37) rfl kQ) ?_
        show G (s₁.setTop (mkF me_ 38 #[.val (.ref a), .val (.int i_), .val (.int ln), .val (.ref lc), .val (.int mn), .val (.ref mc), .unset] [(.int i_)]))
        refine gv (fun tQ kQ => XS.iloadN X0.here hx rfl (hb hby d33_38) rfl kQ) ?_
        show G (s₁.setTop (mkF me_ 39 #[.val (.ref a), .val (.int i_), .val (.int ln), .val (.ref lc), .val (.int mn), .val (.ref mc), .unset] [(.int ln), (.int i_)]))
        refine gv (fun tQ kQ => XS.iconst X0.here hx rfl (hb hby d33_39) kQ) ?_
        show G (s₁.setTop (mkF me_ 40 #[.val (.ref a), .val (.int i_), .val (.int ln), .val (.ref lc), .val (.int mn), .val (.ref mc), .unset] [(.int (1 : Int32)), (.int ln), (.int i_)]))
        refine gv (fun tQ kQ => XS.iadd X0.here hx rfl (hb hby d33_40) rfl kQ) ?_
        show G (s₁.setTop (mkF me_ 41 #[.val (.ref a), .val (.int i_), .val (.int ln), .val (.ref lc), .val (.int mn), .val (.ref mc), .unset] [(.int (ln + (1 : Int32))), (.int i_)]))
        by_cases hc918 : i_ = (ln + (1 : Int32))
        · refine gv (fun tQ kQ => XS.icmpNo X0.here hx rfl (hb hby d33_41) rfl (teq hc918).2 kQ) ?_
          show G (s₁.setTop (mkF me_ 44 #[.val (.ref a), .val (.int i_), .val (.int ln), .val (.ref lc), .val (.int mn), .val (.ref mc), .unset] []))
          refine gv (fun tQ kQ => XS.bipush X0.here hx rfl (hb hby d33_44) kQ) ?_
          show G (s₁.setTop (mkF me_ 46 #[.val (.ref a), .val (.int i_), .val (.int ln), .val (.ref lc), .val (.int mn), .val (.ref mc), .unset] [(.int (32 : Int32))]))
          refine gv (fun tQ kQ => XS.istore X0.here hx rfl (hb hby d33_46) rfl (l' := #[.val (.ref a), .val (.int i_), .val (.int ln), .val (.ref lc), .val (.int mn), .val (.ref mc), .val (.int (32 : Int32))]) rfl kQ) ?_
          show G (s₁.setTop (mkF me_ 48 #[.val (.ref a), .val (.int i_), .val (.int ln), .val (.ref lc), .val (.int mn), .val (.ref mc), .val (.int (32 : Int32))] []))
          refine gv (fun tQ kQ => XS.goto X0.here hx rfl (pc0 := 48) (pc' := 61) rfl (hb hby d33_48) (by decide) (by decide) kQ) ?_
          show G (s₁.setTop (mkF me_ 61 #[.val (.ref a), .val (.int i_), .val (.int ln), .val (.ref lc), .val (.int mn), .val (.ref mc), .val (.int (32 : Int32))] []))
          refine gv (fun tQ kQ => XS.aloadN X0.here hx rfl (hb hby d33_61) rfl rfl kQ) ?_
          show G (s₁.setTop (mkF me_ 62 #[.val (.ref a), .val (.int i_), .val (.int ln), .val (.ref lc), .val (.int mn), .val (.ref mc), .val (.int (32 : Int32))] [(.ref a)]))
          refine gv (fun tQ kQ => XS.iloadN X0.here hx rfl (hb hby d33_62) rfl kQ) ?_
          show G (s₁.setTop (mkF me_ 63 #[.val (.ref a), .val (.int i_), .val (.int ln), .val (.ref lc), .val (.int mn), .val (.ref mc), .val (.int (32 : Int32))] [(.int i_), (.ref a)]))
          obtain ⟨cq919, kq919, q919a, q919b, q919c⟩ := isOf hZ e0 u4
          obtain ⟨_, _, ⟨T919, L919, k919, n919⟩, -, X919, ⟨Lc919, hQ919, l919, y919, z919⟩, st919⟩ := X0.virtualBack hx (y := (⟨"java/lang/String", "charAt", "(I)C"⟩ : MethodName)) (z := (⟨"java/lang/String", "charAt", "(I)C"⟩ : MethodName)) hown (mvT hZ (hw _ (List.mem_of_getElem? (i := 179) rfl))) (mvT hZ (hw _ (List.mem_of_getElem? (i := 180) rfl))) (notFace_of_selects (args := #[]) (mvT hZ (hw _ (List.mem_of_getElem? (i := 182) rfl)))) (mvT hZ (hw _ (List.mem_of_getElem? (i := 182) rfl))) (mvT hZ (hw _ (List.mem_of_getElem? (i := 181) rfl))) (by decide) (backOf (W := 0) (rm_chat l Z a0 hw [] a b k m ws_ i_ (own_eb i_ ln c0 c1 c2 d0 d1 d2) cs fmt h0 n0 O0 u0 u1 u2 u3 u4 u5 u6 u7 u10 (own_lteq u13.1 hc910) (u13.2 i_ u10 hc910)) hZ (hw _ (List.mem_of_getElem? (i := 183) rfl)) (hw _ (List.mem_of_getElem? (i := 3) rfl)) (by decide) (by decide)) q919a q919c (g := (mkF me_ 63 #[.val (.ref a), .val (.int i_), .val (.int ln), .val (.ref lc), .val (.int mn), .val (.ref mc), .val (.int (32 : Int32))] [(.int i_), (.ref a)])) rfl (by rw [hml]; rfl) (Steps.refl _) (argsL := [(.int i_)]) (rest := []) (lenOf pd_24 rfl) rfl (by show 2 * 0 + _ ≤ _; exact Nat.le_of_eq rfl) (hb hby d33_63) (fun _ _ => ⟨rfl, e0, (by decide : 0 + 0 ≤ _), (by decide : 0 + 0 ≤ _)⟩)
          dsimp only [Pt.U, Pt.locs, Pt.cells, Pt.slots] at X919 l919 y919 z919 st919 hQ919
          subst l919 y919 z919
          obtain ⟨rfl, Nq919, eq919⟩ := hQ919
          have N920 := Fr.app N0 Nq919
          refine gv (fun tQ kQ => st919.trans kQ) ?_
          show G (T919.setTop (mkF me_ 66 #[.val (.ref a), .val (.int i_), .val (.int ln), .val (.ref lc), .val (.int mn), .val (.ref mc), .val (.int (32 : Int32))] [(.int (((own_eb i_ ln c0 c1 c2 d0 d1 d2) &&& (255 : Int32)).toUInt32.toUInt16.toUInt32.toInt32))]))
          refine gv (fun tQ kQ => XS.iload X919.here hx rfl (hb hby d33_66) rfl kQ) ?_
          show G (T919.setTop (mkF me_ 68 #[.val (.ref a), .val (.int i_), .val (.int ln), .val (.ref lc), .val (.int mn), .val (.ref mc), .val (.int (32 : Int32))] [(.int (32 : Int32)), (.int (((own_eb i_ ln c0 c1 c2 d0 d1 d2) &&& (255 : Int32)).toUInt32.toUInt16.toUInt32.toInt32))]))
          refine gv (fun tQ kQ => XS.icmpNo X919.here hx rfl (hb hby d33_68) rfl (teq ((own_ech u14).trans (own_e3 hc911 hc915 hc918))).2 kQ) ?_
          show G (T919.setTop (mkF me_ 71 #[.val (.ref a), .val (.int i_), .val (.int ln), .val (.ref lc), .val (.int mn), .val (.ref mc), .val (.int (32 : Int32))] []))
          refine gv (fun tQ kQ => XS.iconst X919.here hx rfl (hb hby d33_71) kQ) ?_
          show G (T919.setTop (mkF me_ 72 #[.val (.ref a), .val (.int i_), .val (.int ln), .val (.ref lc), .val (.int mn), .val (.ref mc), .val (.int (32 : Int32))] [(.int (1 : Int32))]))
          refine gv (fun tQ kQ => XS.goto X919.here hx rfl (pc0 := 72) (pc' := 76) rfl (hb hby d33_72) (by decide) (by decide) kQ) ?_
          show G (T919.setTop (mkF me_ 76 #[.val (.ref a), .val (.int i_), .val (.int ln), .val (.ref lc), .val (.int mn), .val (.ref mc), .val (.int (32 : Int32))] [(.int (1 : Int32))]))
          refine gf _ (own_ret X919 Bd.notSynchronized (v := some (.int (1 : Int32))) (fun h => by rw [Bd.returns] at h; cases h) ?_ (by decide) (by decide) (fun fs hr => retN X919 hx (t := .boolean) Bd.returns (by simp) (hb hby d33_76) hr))
          show Q_at Z a b k m ws_ i_ ln lc kl mn mc km c0 c1 c2 d0 d1 d2 cs fmt h0 n0 _ T919.heap _
          rw [eq919]
          exact ⟨rfl, N920, rfl⟩
        · refine gv (fun tQ kQ => XS.icmpYes X0.here hx rfl (pc0 := 41) (pc' := 51) rfl (hb hby d33_41) rfl (feq hc918).2 (by decide) (by decide) kQ) ?_
          show G (s₁.setTop (mkF me_ 51 #[.val (.ref a), .val (.int i_), .val (.int ln), .val (.ref lc), .val (.int mn), .val (.ref mc), .unset] []))
          refine gv (fun tQ kQ => XS.aload X0.here hx rfl (hb hby d33_51) rfl rfl kQ) ?_
          show G (s₁.setTop (mkF me_ 53 #[.val (.ref a), .val (.int i_), .val (.int ln), .val (.ref lc), .val (.int mn), .val (.ref mc), .unset] [(.ref mc)]))
          refine gv (fun tQ kQ => XS.iloadN X0.here hx rfl (hb hby d33_53) rfl kQ) ?_
          show G (s₁.setTop (mkF me_ 54 #[.val (.ref a), .val (.int i_), .val (.int ln), .val (.ref lc), .val (.int mn), .val (.ref mc), .unset] [(.int i_), (.ref mc)]))
          refine gv (fun tQ kQ => XS.iloadN X0.here hx rfl (hb hby d33_54) rfl kQ) ?_
          show G (s₁.setTop (mkF me_ 55 #[.val (.ref a), .val (.int i_), .val (.int ln), .val (.ref lc), .val (.int mn), .val (.ref mc), .unset] [(.int ln), (.int i_), (.ref mc)]))
          refine gv (fun tQ kQ => XS.isub X0.here hx rfl (hb hby d33_55) rfl kQ) ?_
          show G (s₁.setTop (mkF me_ 56 #[.val (.ref a), .val (.int i_), .val (.int ln), .val (.ref lc), .val (.int mn), .val (.ref mc), .unset] [(.int (i_ - ln)), (.ref mc)]))
          refine gv (fun tQ kQ => XS.iconst X0.here hx rfl (hb hby d33_56) kQ) ?_
          show G (s₁.setTop (mkF me_ 57 #[.val (.ref a), .val (.int i_), .val (.int ln), .val (.ref lc), .val (.int mn), .val (.ref mc), .unset] [(.int (2 : Int32)), (.int (i_ - ln)), (.ref mc)]))
          refine gv (fun tQ kQ => XS.isub X0.here hx rfl (hb hby d33_57) rfl kQ) ?_
          show G (s₁.setTop (mkF me_ 58 #[.val (.ref a), .val (.int i_), .val (.int ln), .val (.ref lc), .val (.int mn), .val (.ref mc), .unset] [(.int ((i_ - ln) - (2 : Int32))), (.ref mc)]))
          obtain ⟨cl921, Ar921, q921, S921, n921, H921, G921⟩ := (id u9)
          have in921 : ¬ (((i_ - ln) - (2 : Int32)) < 0 ∨ cl921.slots.size ≤ (((i_ - ln) - (2 : Int32))).toNatClampNeg) := inb_of S921 ⟨(own_ix u11 u12 u10 hc910 hc911 hc915 hc918).1, (own_ix u11 u12 u10 hc910 hc911 hc915 hc918).2⟩
          refine gv (X0.caload hx (j := ((i_ - ln) - (2 : Int32))) (v := (.int (own_pk ((i_ - ln) - (2 : Int32)) d0 d1 d2))) (by rw [e0]; exact Ar921.1) (State.isArrayOf_alike hZ.alike Ar921.2.1) Ar921.2.2 in921 (Has.at H921 in921 (own_pkg (own_ix u11 u12 u10 hc910 hc911 hc915 hc918).1 (own_ix u11 u12 u10 hc910 hc911 hc915 hc918).2)) (g := (mkF me_ 58 #[.val (.ref a), .val (.int i_), .val (.int ln), .val (.ref lc), .val (.int mn), .val (.ref mc), .unset] [(.int ((i_ - ln) - (2 : Int32))), (.ref mc)])) rfl rfl (hb hby d33_58)) ?_
          show G (s₁.setTop (mkF me_ 59 #[.val (.ref a), .val (.int i_), .val (.int ln), .val (.ref lc), .val (.int mn), .val (.ref mc), .unset] [(.int (own_pk ((i_ - ln) - (2 : Int32)) d0 d1 d2))]))
          refine gv (fun tQ kQ => XS.istore X0.here hx rfl (hb hby d33_59) rfl (l' := #[.val (.ref a), .val (.int i_), .val (.int ln), .val (.ref lc), .val (.int mn), .val (.ref mc), .val (.int (own_pk ((i_ - ln) - (2 : Int32)) d0 d1 d2))]) rfl kQ) ?_
          show G (s₁.setTop (mkF me_ 61 #[.val (.ref a), .val (.int i_), .val (.int ln), .val (.ref lc), .val (.int mn), .val (.ref mc), .val (.int (own_pk ((i_ - ln) - (2 : Int32)) d0 d1 d2))] []))
          refine gv (fun tQ kQ => XS.aloadN X0.here hx rfl (hb hby d33_61) rfl rfl kQ) ?_
          show G (s₁.setTop (mkF me_ 62 #[.val (.ref a), .val (.int i_), .val (.int ln), .val (.ref lc), .val (.int mn), .val (.ref mc), .val (.int (own_pk ((i_ - ln) - (2 : Int32)) d0 d1 d2))] [(.ref a)]))
          refine gv (fun tQ kQ => XS.iloadN X0.here hx rfl (hb hby d33_62) rfl kQ) ?_
          show G (s₁.setTop (mkF me_ 63 #[.val (.ref a), .val (.int i_), .val (.int ln), .val (.ref lc), .val (.int mn), .val (.ref mc), .val (.int (own_pk ((i_ - ln) - (2 : Int32)) d0 d1 d2))] [(.int i_), (.ref a)]))
          obtain ⟨cq922, kq922, q922a, q922b, q922c⟩ := isOf hZ e0 u4
          obtain ⟨_, _, ⟨T922, L922, k922, n922⟩, -, X922, ⟨Lc922, hQ922, l922, y922, z922⟩, st922⟩ := X0.virtualBack hx (y := (⟨"java/lang/String", "charAt", "(I)C"⟩ : MethodName)) (z := (⟨"java/lang/String", "charAt", "(I)C"⟩ : MethodName)) hown (mvT hZ (hw _ (List.mem_of_getElem? (i := 179) rfl))) (mvT hZ (hw _ (List.mem_of_getElem? (i := 180) rfl))) (notFace_of_selects (args := #[]) (mvT hZ (hw _ (List.mem_of_getElem? (i := 182) rfl)))) (mvT hZ (hw _ (List.mem_of_getElem? (i := 182) rfl))) (mvT hZ (hw _ (List.mem_of_getElem? (i := 181) rfl))) (by decide) (backOf (W := 0) (rm_chat l Z a0 hw [] a b k m ws_ i_ (own_eb i_ ln c0 c1 c2 d0 d1 d2) cs fmt h0 n0 O0 u0 u1 u2 u3 u4 u5 u6 u7 u10 (own_lteq u13.1 hc910) (u13.2 i_ u10 hc910)) hZ (hw _ (List.mem_of_getElem? (i := 183) rfl)) (hw _ (List.mem_of_getElem? (i := 3) rfl)) (by decide) (by decide)) q922a q922c (g := (mkF me_ 63 #[.val (.ref a), .val (.int i_), .val (.int ln), .val (.ref lc), .val (.int mn), .val (.ref mc), .val (.int (own_pk ((i_ - ln) - (2 : Int32)) d0 d1 d2))] [(.int i_), (.ref a)])) rfl (by rw [hml]; rfl) (Steps.refl _) (argsL := [(.int i_)]) (rest := []) (lenOf pd_24 rfl) rfl (by show 2 * 0 + _ ≤ _; exact Nat.le_of_eq rfl) (hb hby d33_63) (fun _ _ => ⟨rfl, e0, (by decide : 0 + 0 ≤ _), (by decide : 0 + 0 ≤ _)⟩)
          dsimp only [Pt.U, Pt.locs, Pt.cells, Pt.slots] at X922 l922 y922 z922 st922 hQ922
          subst l922 y922 z922
          obtain ⟨rfl, Nq922, eq922⟩ := hQ922
          have N923 := Fr.app N0 Nq922
          refine gv (fun tQ kQ => st922.trans kQ) ?_
          show G (T922.setTop (mkF me_ 66 #[.val (.ref a), .val (.int i_), .val (.int ln), .val (.ref lc), .val (.int mn), .val (.ref mc), .val (.int (own_pk ((i_ - ln) - (2 : Int32)) d0 d1 d2))] [(.int (((own_eb i_ ln c0 c1 c2 d0 d1 d2) &&& (255 : Int32)).toUInt32.toUInt16.toUInt32.toInt32))]))
          refine gv (fun tQ kQ => XS.iload X922.here hx rfl (hb hby d33_66) rfl kQ) ?_
          show G (T922.setTop (mkF me_ 68 #[.val (.ref a), .val (.int i_), .val (.int ln), .val (.ref lc), .val (.int mn), .val (.ref mc), .val (.int (own_pk ((i_ - ln) - (2 : Int32)) d0 d1 d2))] [(.int (own_pk ((i_ - ln) - (2 : Int32)) d0 d1 d2)), (.int (((own_eb i_ ln c0 c1 c2 d0 d1 d2) &&& (255 : Int32)).toUInt32.toUInt16.toUInt32.toInt32))]))
          refine gv (fun tQ kQ => XS.icmpNo X922.here hx rfl (hb hby d33_68) rfl (teq ((own_ech u14).trans (own_e4 hc911 hc915 hc918))).2 kQ) ?_
          show G (T922.setTop (mkF me_ 71 #[.val (.ref a), .val (.int i_), .val (.int ln), .val (.ref lc), .val (.int mn), .val (.ref mc), .val (.int (own_pk ((i_ - ln) - (2 : Int32)) d0 d1 d2))] []))
          refine gv (fun tQ kQ => XS.iconst X922.here hx rfl (hb hby d33_71) kQ) ?_
          show G (T922.setTop (mkF me_ 72 #[.val (.ref a), .val (.int i_), .val (.int ln), .val (.ref lc), .val (.int mn), .val (.ref mc), .val (.int (own_pk ((i_ - ln) - (2 : Int32)) d0 d1 d2))] [(.int (1 : Int32))]))
          refine gv (fun tQ kQ => XS.goto X922.here hx rfl (pc0 := 72) (pc' := 76) rfl (hb hby d33_72) (by decide) (by decide) kQ) ?_
          show G (T922.setTop (mkF me_ 76 #[.val (.ref a), .val (.int i_), .val (.int ln), .val (.ref lc), .val (.int mn), .val (.ref mc), .val (.int (own_pk ((i_ - ln) - (2 : Int32)) d0 d1 d2))] [(.int (1 : Int32))]))
          refine gf _ (own_ret X922 Bd.notSynchronized (v := some (.int (1 : Int32))) (fun h => by rw [Bd.returns] at h; cases h) ?_ (by decide) (by decide) (fun fs hr => retN X922 hx (t := .boolean) Bd.returns (by simp) (hb hby d33_76) hr))
          show Q_at Z a b k m ws_ i_ ln lc kl mn mc km c0 c1 c2 d0 d1 d2 cs fmt h0 n0 _ T922.heap _
          rw [eq922]
          exact ⟨rfl, N923, rfl⟩
  · refine gv (fun tQ kQ => XS.icmpNo X0.here hx rfl (hb hby d33_7) rfl (flt hc910).1 kQ) ?_
    show G (s₁.setTop (mkF me_ 10 #[.val (.ref a), .val (.int i_), .val (.int ln), .val (.ref lc), .val (.int mn), .val (.ref mc), .unset] []))
    refine gv (fun tQ kQ => XS.iconst X0.here hx rfl (hb hby d33_10) kQ) ?_
    show G (s₁.setTop (mkF me_ 11 #[.val (.ref a), .val (.int i_), .val (.int ln), .val (.ref lc), .val (.int mn), .val (.ref mc), .unset] [(.int (1 : Int32))]))
    refine gf _ (own_ret X0 Bd.notSynchronized (v := some (.int (1 : Int32))) (fun h => by rw [Bd.returns] at h; cases h) ?_ (by decide) (by decide) (fun fs hr => retN X0 hx (t := .boolean) Bd.returns (by simp) (hb hby d33_11) hr))
    show Q_at Z a b k m ws_ i_ ln lc kl mn mc km c0 c1 c2 d0 d1 d2 cs fmt h0 n0 _ s₁.heap _
    rw [e0]
    exact ⟨rfl, N0, rfl⟩
theorem ef_17 (m : MethodId) (x0 : Int32) (x1 : Int32) (x2 : Int32) (x3 : Int32)  : entryFrame m #[(.int x0), (.int x1), (.int x2), (.int x3)] maxLocals = mkF m 0 #[.val (.int x0), .val (.int x1), .val (.int x2), .val (.int x3), .unset, .unset, .unset, .unset, .unset, .unset, .unset, .unset] [] := by first | (simp [entryFrame, mkF, argsToLocals, Value.category, maxLocals]; done) | rfl
theorem pd_25 : parseMethodDescriptor "([CI)[C" = some ⟨[(.array .char), .int], some (.array .char)⟩ := by decide +kernel
theorem pd_26 : parseMethodDescriptor "([C)V" = some ⟨[(.array .char)], none⟩ := by decide +kernel
theorem pd_27 : parseMethodDescriptor "(Ljava/lang/String;Ljava/lang/String;)V" = some ⟨[(.object "java/lang/String"), (.object "java/lang/String")], none⟩ := by decide +kernel
theorem pd_28 : parseMethodDescriptor "(Ljava/lang/String;II[CI[C)Z" = some ⟨[(.object "java/lang/String"), .int, .int, (.array .char), .int, (.array .char)], some .boolean⟩ := by decide +kernel
def Q0 (Z : State) (p0 : Int32) (p1 : Int32) (p2 : Int32) (p3 : Int32) (cs : Int32) (fmt : Value) (h0 : Heap) (n0 : Nat) (v : Option Value) (h : Heap) (L : List Loc) : Prop := v = some (.int (1 : Int32)) ∧ Fr n0 L
set_option maxRecDepth 65536 in
set_option maxHeartbeats 40000000 in
theorem rm0 (l : Launch) (Z : State) (a0 : Array Value) (hw : ∀ d ∈ tables_1, d.before a0 Z = true) (ws : List Jvm.Cond) (p0 : Int32) (p1 : Int32) (p2 : Int32) (p3 : Int32) (cs : Int32) (fmt : Value) (h0 : Heap) (n0 : Nat) (O0 : Old Z n0 h0) (u0 : Sta Z Z.heap "java/lang/String" "COMPACT_STRINGS" "Z" (.int cs)) (u1 : ¬ (cs = (0 : Int32))) (u2 : fmt.isRef = true) (u3 : Sta Z Z.heap "jdk/internal/util/Preconditions" "SIOOBE_FORMATTER" "Ljava/util/function/BiFunction;" fmt) :
    MetFree l x (head1 (Jvm.Cond.code x code maxLocals ret :: ws) room_1) (fun aV U => aV = #[(.int p0), (.int p1), (.int p2), (.int p3)] ∧ Z.Warmed39 U.vm ∧ U.heap = h0 ∧ CHv Z own_EL U.vm h0 ∧ ∀ x ∈ ([] : List Addr), Safe Z own_EL U.vm h0 x) (fun _ _ _ _ _ => True) (fun _ U o U' => ∃ v L, o = .returned v ∧ Q0 Z p0 p1 p2 p3 cs fmt h0 n0 v U'.heap L ∧ CHr Z own_EL U.vm U.heap U'.vm U'.heap ∧ ReturnedEndW U o U' L room_1.cells room_1.slots) := by
  refine MetFree.of_bodySF (plainFor_of_name pn_4) hisR ?_
  intro pr_ en_ st_ me_ args below meth_ co_ s₁ Bd hml0 hP hK
  obtain ⟨rfl, hZ, hh, hCH, hSF⟩ := hP
  have hx := Bd.exec
  have hby := Bd.bytes
  have hEL := own_hEL hw
  have wS := own_wS hw
  have hml : co_.maxLocals = 12 := hml0
  have hown : st_.vm.findClass "com/example/dvalin/dvalin/ProblemToStringPinLaw" = some me_.cls := findClass_of_methodNamed Bd.named
  have hnm := (name_of_methodNamed Bd.named Bd.method).1
  have X0 : Stand pr_ l en_ room_1 (st_.setVm st_.vm) me_ #[(.int p0), (.int p1), (.int p2), (.int p3)] below meth_ co_ s₁ [] 0 0 := Stand.of_body Bd
  have e0 : s₁.heap = h0 := by rw [← hh, Bd.state]; rfl
  have N0 := Fr.nil n0
  have K0 := Keep.refl h0 []
  have hS : st_.Since st_.vm 0 := (State.WarmedH.refl st_).since 0
  have hk : 0 ≤ h0.size := Nat.zero_le _
  have CR : CHr Z own_EL st_.vm h0 st_.vm h0 := CHr.refl hCH
  obtain ⟨G, gv, gf, gb⟩ := own_GW Z own_EL pr_.tables en_ below st_ (Q0 Z p0 p1 p2 p3 cs fmt h0 n0) room_1.cells room_1.slots
  show own_FinW Z own_EL pr_.tables en_ below st_ (Q0 Z p0 p1 p2 p3 cs fmt h0 n0) room_1.cells room_1.slots (s₁.setTop (entryFrame me_ #[(.int p0), (.int p1), (.int p2), (.int p3)] maxLocals))
  refine gb _ (gv (fun tQ kQ => castTop (ef_17 me_ p0 p1 p2 p3) kQ) ?_)
  show G (s₁.setTop (mkF me_ 0 #[.val (.int p0), .val (.int p1), .val (.int p2), .val (.int p3), .unset, .unset, .unset, .unset, .unset, .unset, .unset, .unset] []))
  refine gv (fun tQ kQ => XS.iloadN X0.here hx rfl (hb hby at_0) rfl kQ) ?_
  show G (s₁.setTop (mkF me_ 1 #[.val (.int p0), .val (.int p1), .val (.int p2), .val (.int p3), .unset, .unset, .unset, .unset, .unset, .unset, .unset, .unset] [(.int p0)]))
  refine gv (fun tQ kQ => XS.iconst X0.here hx rfl (hb hby at_1) kQ) ?_
  show G (s₁.setTop (mkF me_ 2 #[.val (.int p0), .val (.int p1), .val (.int p2), .val (.int p3), .unset, .unset, .unset, .unset, .unset, .unset, .unset, .unset] [(.int (3 : Int32)), (.int p0)]))
  refine gv (fun tQ kQ => XS.iand X0.here hx rfl (hb hby at_2) rfl kQ) ?_
  show G (s₁.setTop (mkF me_ 3 #[.val (.int p0), .val (.int p1), .val (.int p2), .val (.int p3), .unset, .unset, .unset, .unset, .unset, .unset, .unset, .unset] [(.int (p0 &&& (3 : Int32)))]))
  refine gv (fun tQ kQ => XS.istore X0.here hx rfl (hb hby at_3) rfl (l' := #[.val (.int p0), .val (.int p1), .val (.int p2), .val (.int p3), .val (.int (p0 &&& (3 : Int32))), .unset, .unset, .unset, .unset, .unset, .unset, .unset]) rfl kQ) ?_
  show G (s₁.setTop (mkF me_ 5 #[.val (.int p0), .val (.int p1), .val (.int p2), .val (.int p3), .val (.int (p0 &&& (3 : Int32))), .unset, .unset, .unset, .unset, .unset, .unset, .unset] []))
  refine gv (fun tQ kQ => XS.iloadN X0.here hx rfl (hb hby at_5) rfl kQ) ?_
  show G (s₁.setTop (mkF me_ 6 #[.val (.int p0), .val (.int p1), .val (.int p2), .val (.int p3), .val (.int (p0 &&& (3 : Int32))), .unset, .unset, .unset, .unset, .unset, .unset, .unset] [(.int p1)]))
  refine gv (fun tQ kQ => XS.iconst X0.here hx rfl (hb hby at_6) kQ) ?_
  show G (s₁.setTop (mkF me_ 7 #[.val (.int p0), .val (.int p1), .val (.int p2), .val (.int p3), .val (.int (p0 &&& (3 : Int32))), .unset, .unset, .unset, .unset, .unset, .unset, .unset] [(.int (3 : Int32)), (.int p1)]))
  refine gv (fun tQ kQ => XS.iand X0.here hx rfl (hb hby at_7) rfl kQ) ?_
  show G (s₁.setTop (mkF me_ 8 #[.val (.int p0), .val (.int p1), .val (.int p2), .val (.int p3), .val (.int (p0 &&& (3 : Int32))), .unset, .unset, .unset, .unset, .unset, .unset, .unset] [(.int (p1 &&& (3 : Int32)))]))
  refine gv (fun tQ kQ => XS.istore X0.here hx rfl (hb hby at_8) rfl (l' := #[.val (.int p0), .val (.int p1), .val (.int p2), .val (.int p3), .val (.int (p0 &&& (3 : Int32))), .val (.int (p1 &&& (3 : Int32))), .unset, .unset, .unset, .unset, .unset, .unset]) rfl kQ) ?_
  show G (s₁.setTop (mkF me_ 10 #[.val (.int p0), .val (.int p1), .val (.int p2), .val (.int p3), .val (.int (p0 &&& (3 : Int32))), .val (.int (p1 &&& (3 : Int32))), .unset, .unset, .unset, .unset, .unset, .unset] []))
  refine gv (fun tQ kQ => XS.iconst X0.here hx rfl (hb hby at_10) kQ) ?_
  show G (s₁.setTop (mkF me_ 11 #[.val (.int p0), .val (.int p1), .val (.int p2), .val (.int p3), .val (.int (p0 &&& (3 : Int32))), .val (.int (p1 &&& (3 : Int32))), .unset, .unset, .unset, .unset, .unset, .unset] [(.int (3 : Int32))]))
  obtain ⟨T924, h924, k924, X924, e924, E924, A924, st924⟩ := newP X0 hx hZ (hw _ (List.mem_of_getElem? (i := 0) rfl)) e0 (g := (mkF me_ 11 #[.val (.int p0), .val (.int p1), .val (.int p2), .val (.int p3), .val (.int (p0 &&& (3 : Int32))), .val (.int (p1 &&& (3 : Int32))), .unset, .unset, .unset, .unset, .unset, .unset] [(.int (3 : Int32))])) rfl (hb hby at_11) rfl (by decide) (cap := 3) (by decide) (by decide) (by decide) (by decide)
  obtain ⟨b924, g924⟩ : ∃ z, z = h0.size := ⟨_, rfl⟩
  rw [← g924] at A924 st924
  refine gv st924 ?_
  have g925 : n0 ≤ b924 := Nat.le_trans (own_old O0) (Nat.le_of_eq g924.symm)
  have sf926 : Safe Z own_EL st_.vm h0 b924 := Safe.new (Nat.le_of_eq g924.symm)
  have sf927 := Safe.ext E924 CR.1 sf926
  have CR := CR.trans (CHr.ext E924 CR.1)
  have hk := Nat.le_trans hk E924.1
  have O928 := O0.ext E924
  have V924 : Arv Z h924 b924 k924 .char (3 : Int32) [(.int (0 : Int32)), (.int (0 : Int32)), (.int (0 : Int32))] (.int (0 : Int32)) := (Arv.new A924 (by decide)).pad (pad_rep [] (.int (0 : Int32)) 3)
  show G (T924.setTop (mkF me_ 13 #[.val (.int p0), .val (.int p1), .val (.int p2), .val (.int p3), .val (.int (p0 &&& (3 : Int32))), .val (.int (p1 &&& (3 : Int32))), .unset, .unset, .unset, .unset, .unset, .unset] [(.ref b924)]))
  refine gv (fun tQ kQ => XS.astore X924.here hx rfl (hb hby at_13) rfl rfl (l' := #[.val (.int p0), .val (.int p1), .val (.int p2), .val (.int p3), .val (.int (p0 &&& (3 : Int32))), .val (.int (p1 &&& (3 : Int32))), .val (.ref b924), .unset, .unset, .unset, .unset, .unset]) rfl kQ) ?_
  show G (T924.setTop (mkF me_ 15 #[.val (.int p0), .val (.int p1), .val (.int p2), .val (.int p3), .val (.int (p0 &&& (3 : Int32))), .val (.int (p1 &&& (3 : Int32))), .val (.ref b924), .unset, .unset, .unset, .unset, .unset] []))
  refine gv (fun tQ kQ => XS.aload X924.here hx rfl (hb hby at_15) rfl rfl kQ) ?_
  show G (T924.setTop (mkF me_ 17 #[.val (.int p0), .val (.int p1), .val (.int p2), .val (.int p3), .val (.int (p0 &&& (3 : Int32))), .val (.int (p1 &&& (3 : Int32))), .val (.ref b924), .unset, .unset, .unset, .unset, .unset] [(.ref b924)]))
  refine gv (fun tQ kQ => XS.iconst X924.here hx rfl (hb hby at_17) kQ) ?_
  show G (T924.setTop (mkF me_ 18 #[.val (.int p0), .val (.int p1), .val (.int p2), .val (.int p3), .val (.int (p0 &&& (3 : Int32))), .val (.int (p1 &&& (3 : Int32))), .val (.ref b924), .unset, .unset, .unset, .unset, .unset] [(.int (0 : Int32)), (.ref b924)]))
  refine gv (fun tQ kQ => XS.iloadN X924.here hx rfl (hb hby at_18) rfl kQ) ?_
  show G (T924.setTop (mkF me_ 19 #[.val (.int p0), .val (.int p1), .val (.int p2), .val (.int p3), .val (.int (p0 &&& (3 : Int32))), .val (.int (p1 &&& (3 : Int32))), .val (.ref b924), .unset, .unset, .unset, .unset, .unset] [(.int p2), (.int (0 : Int32)), (.ref b924)]))
  refine gv (fun tQ kQ => XS.sipush X924.here hx rfl (hb hby at_19) kQ) ?_
  show G (T924.setTop (mkF me_ 22 #[.val (.int p0), .val (.int p1), .val (.int p2), .val (.int p3), .val (.int (p0 &&& (3 : Int32))), .val (.int (p1 &&& (3 : Int32))), .val (.ref b924), .unset, .unset, .unset, .unset, .unset] [(.int (255 : Int32)), (.int p2), (.int (0 : Int32)), (.ref b924)]))
  refine gv (fun tQ kQ => XS.iand X924.here hx rfl (hb hby at_22) rfl kQ) ?_
  show G (T924.setTop (mkF me_ 23 #[.val (.int p0), .val (.int p1), .val (.int p2), .val (.int p3), .val (.int (p0 &&& (3 : Int32))), .val (.int (p1 &&& (3 : Int32))), .val (.ref b924), .unset, .unset, .unset, .unset, .unset] [(.int (p2 &&& (255 : Int32))), (.int (0 : Int32)), (.ref b924)]))
  refine gv (fun tQ kQ => XS.i2c X924.here hx rfl (hb hby at_23) rfl kQ) ?_
  show G (T924.setTop (mkF me_ 24 #[.val (.int p0), .val (.int p1), .val (.int p2), .val (.int p3), .val (.int (p0 &&& (3 : Int32))), .val (.int (p1 &&& (3 : Int32))), .val (.ref b924), .unset, .unset, .unset, .unset, .unset] [(.int ((p2 &&& (255 : Int32)).toUInt32.toUInt16.toUInt32.toInt32)), (.int (0 : Int32)), (.ref b924)]))
  obtain ⟨cl929, Ar929, q929, S929, n929, H929, G929⟩ := (id V924)
  have in929 : ¬ ((0 : Int32) < 0 ∨ cl929.slots.size ≤ ((0 : Int32)).toNatClampNeg) := inb_of S929 ⟨by decide, by decide⟩
  obtain ⟨T929, h929, X929, e929, W929, st929⟩ := stC X924 hx hZ e924 Ar929 (j := (0 : Int32)) in929 (g := (mkF me_ 24 #[.val (.int p0), .val (.int p1), .val (.int p2), .val (.int p3), .val (.int (p0 &&& (3 : Int32))), .val (.int (p1 &&& (3 : Int32))), .val (.ref b924), .unset, .unset, .unset, .unset, .unset] [(.int ((p2 &&& (255 : Int32)).toUInt32.toUInt16.toUInt32.toInt32)), (.int (0 : Int32)), (.ref b924)])) rfl rfl (hb hby at_24)
  have W929 : Wr h924 h929 b924 ((0 : Int32)).toNatClampNeg (.int ((p2 &&& (255 : Int32)).toUInt32.toUInt16.toUInt32.toInt32)) := by have z := W929; rw [(own_narC _)] at z; exact z
  refine gv st929 ?_
  have sf931 := Safe.wr W929 (Safe.arv hZ.alike V924 (by simp)) CR.1 sf927
  have CR := CR.trans (CHr.wr W929 (Safe.arv hZ.alike V924 (by simp)) CR.1)
  have hk := Nat.le_trans hk (Keep.of_wr W929).1
  have O932 := O928.wr W929 g925
  have N933 := Fr.snoc X929 N0 g925
  have f930 : Arv Z h929 b924 k924 .char (3 : Int32) [(.int ((p2 &&& (255 : Int32)).toUInt32.toUInt16.toUInt32.toInt32)), (.int (0 : Int32)), (.int (0 : Int32))] (.int (0 : Int32)) := Arv.set Ar929 q929 S929 n929 H929 G929 (fits_nar_char _) W929 0 rfl (Nat.le_of_ble_eq_true rfl)
  show G (T929.setTop (mkF me_ 25 #[.val (.int p0), .val (.int p1), .val (.int p2), .val (.int p3), .val (.int (p0 &&& (3 : Int32))), .val (.int (p1 &&& (3 : Int32))), .val (.ref b924), .unset, .unset, .unset, .unset, .unset] []))
  refine gv (fun tQ kQ => XS.aload X929.here hx rfl (hb hby at_25) rfl rfl kQ) ?_
  show G (T929.setTop (mkF me_ 27 #[.val (.int p0), .val (.int p1), .val (.int p2), .val (.int p3), .val (.int (p0 &&& (3 : Int32))), .val (.int (p1 &&& (3 : Int32))), .val (.ref b924), .unset, .unset, .unset, .unset, .unset] [(.ref b924)]))
  refine gv (fun tQ kQ => XS.iconst X929.here hx rfl (hb hby at_27) kQ) ?_
  show G (T929.setTop (mkF me_ 28 #[.val (.int p0), .val (.int p1), .val (.int p2), .val (.int p3), .val (.int (p0 &&& (3 : Int32))), .val (.int (p1 &&& (3 : Int32))), .val (.ref b924), .unset, .unset, .unset, .unset, .unset] [(.int (1 : Int32)), (.ref b924)]))
  refine gv (fun tQ kQ => XS.iloadN X929.here hx rfl (hb hby at_28) rfl kQ) ?_
  show G (T929.setTop (mkF me_ 29 #[.val (.int p0), .val (.int p1), .val (.int p2), .val (.int p3), .val (.int (p0 &&& (3 : Int32))), .val (.int (p1 &&& (3 : Int32))), .val (.ref b924), .unset, .unset, .unset, .unset, .unset] [(.int p2), (.int (1 : Int32)), (.ref b924)]))
  refine gv (fun tQ kQ => XS.bipush X929.here hx rfl (hb hby at_29) kQ) ?_
  show G (T929.setTop (mkF me_ 31 #[.val (.int p0), .val (.int p1), .val (.int p2), .val (.int p3), .val (.int (p0 &&& (3 : Int32))), .val (.int (p1 &&& (3 : Int32))), .val (.ref b924), .unset, .unset, .unset, .unset, .unset] [(.int (8 : Int32)), (.int p2), (.int (1 : Int32)), (.ref b924)]))
  refine gv (fun tQ kQ => XS.iushr X929.here hx rfl (hb hby at_31) rfl kQ) ?_
  show G (T929.setTop (mkF me_ 32 #[.val (.int p0), .val (.int p1), .val (.int p2), .val (.int p3), .val (.int (p0 &&& (3 : Int32))), .val (.int (p1 &&& (3 : Int32))), .val (.ref b924), .unset, .unset, .unset, .unset, .unset] [(.int ((p2.toUInt32 >>> ((8 : Int32) &&& 31).toUInt32).toInt32)), (.int (1 : Int32)), (.ref b924)]))
  refine gv (fun tQ kQ => XS.sipush X929.here hx rfl (hb hby at_32) kQ) ?_
  show G (T929.setTop (mkF me_ 35 #[.val (.int p0), .val (.int p1), .val (.int p2), .val (.int p3), .val (.int (p0 &&& (3 : Int32))), .val (.int (p1 &&& (3 : Int32))), .val (.ref b924), .unset, .unset, .unset, .unset, .unset] [(.int (255 : Int32)), (.int ((p2.toUInt32 >>> ((8 : Int32) &&& 31).toUInt32).toInt32)), (.int (1 : Int32)), (.ref b924)]))
  refine gv (fun tQ kQ => XS.iand X929.here hx rfl (hb hby at_35) rfl kQ) ?_
  show G (T929.setTop (mkF me_ 36 #[.val (.int p0), .val (.int p1), .val (.int p2), .val (.int p3), .val (.int (p0 &&& (3 : Int32))), .val (.int (p1 &&& (3 : Int32))), .val (.ref b924), .unset, .unset, .unset, .unset, .unset] [(.int (((p2.toUInt32 >>> ((8 : Int32) &&& 31).toUInt32).toInt32) &&& (255 : Int32))), (.int (1 : Int32)), (.ref b924)]))
  refine gv (fun tQ kQ => XS.i2c X929.here hx rfl (hb hby at_36) rfl kQ) ?_
  show G (T929.setTop (mkF me_ 37 #[.val (.int p0), .val (.int p1), .val (.int p2), .val (.int p3), .val (.int (p0 &&& (3 : Int32))), .val (.int (p1 &&& (3 : Int32))), .val (.ref b924), .unset, .unset, .unset, .unset, .unset] [(.int ((((p2.toUInt32 >>> ((8 : Int32) &&& 31).toUInt32).toInt32) &&& (255 : Int32)).toUInt32.toUInt16.toUInt32.toInt32)), (.int (1 : Int32)), (.ref b924)]))
  obtain ⟨cl934, Ar934, q934, S934, n934, H934, G934⟩ := (id f930)
  have in934 : ¬ ((1 : Int32) < 0 ∨ cl934.slots.size ≤ ((1 : Int32)).toNatClampNeg) := inb_of S934 ⟨by decide, by decide⟩
  obtain ⟨T934, h934, X934, e934, W934, st934⟩ := stC X929 hx hZ e929 Ar934 (j := (1 : Int32)) in934 (g := (mkF me_ 37 #[.val (.int p0), .val (.int p1), .val (.int p2), .val (.int p3), .val (.int (p0 &&& (3 : Int32))), .val (.int (p1 &&& (3 : Int32))), .val (.ref b924), .unset, .unset, .unset, .unset, .unset] [(.int ((((p2.toUInt32 >>> ((8 : Int32) &&& 31).toUInt32).toInt32) &&& (255 : Int32)).toUInt32.toUInt16.toUInt32.toInt32)), (.int (1 : Int32)), (.ref b924)])) rfl rfl (hb hby at_37)
  have W934 : Wr h929 h934 b924 ((1 : Int32)).toNatClampNeg (.int ((((p2.toUInt32 >>> ((8 : Int32) &&& 31).toUInt32).toInt32) &&& (255 : Int32)).toUInt32.toUInt16.toUInt32.toInt32)) := by have z := W934; rw [(own_narC _)] at z; exact z
  refine gv st934 ?_
  have sf936 := Safe.wr W934 (Safe.arv hZ.alike f930 (by simp)) CR.1 sf931
  have CR := CR.trans (CHr.wr W934 (Safe.arv hZ.alike f930 (by simp)) CR.1)
  have hk := Nat.le_trans hk (Keep.of_wr W934).1
  have O937 := O932.wr W934 g925
  have N938 := Fr.snoc X934 N933 g925
  have f935 : Arv Z h934 b924 k924 .char (3 : Int32) [(.int ((p2 &&& (255 : Int32)).toUInt32.toUInt16.toUInt32.toInt32)), (.int ((((p2.toUInt32 >>> ((8 : Int32) &&& 31).toUInt32).toInt32) &&& (255 : Int32)).toUInt32.toUInt16.toUInt32.toInt32)), (.int (0 : Int32))] (.int (0 : Int32)) := Arv.set Ar934 q934 S934 n934 H934 G934 (fits_nar_char _) W934 1 rfl (Nat.le_of_ble_eq_true rfl)
  show G (T934.setTop (mkF me_ 38 #[.val (.int p0), .val (.int p1), .val (.int p2), .val (.int p3), .val (.int (p0 &&& (3 : Int32))), .val (.int (p1 &&& (3 : Int32))), .val (.ref b924), .unset, .unset, .unset, .unset, .unset] []))
  refine gv (fun tQ kQ => XS.aload X934.here hx rfl (hb hby at_38) rfl rfl kQ) ?_
  show G (T934.setTop (mkF me_ 40 #[.val (.int p0), .val (.int p1), .val (.int p2), .val (.int p3), .val (.int (p0 &&& (3 : Int32))), .val (.int (p1 &&& (3 : Int32))), .val (.ref b924), .unset, .unset, .unset, .unset, .unset] [(.ref b924)]))
  refine gv (fun tQ kQ => XS.iconst X934.here hx rfl (hb hby at_40) kQ) ?_
  show G (T934.setTop (mkF me_ 41 #[.val (.int p0), .val (.int p1), .val (.int p2), .val (.int p3), .val (.int (p0 &&& (3 : Int32))), .val (.int (p1 &&& (3 : Int32))), .val (.ref b924), .unset, .unset, .unset, .unset, .unset] [(.int (2 : Int32)), (.ref b924)]))
  refine gv (fun tQ kQ => XS.iloadN X934.here hx rfl (hb hby at_41) rfl kQ) ?_
  show G (T934.setTop (mkF me_ 42 #[.val (.int p0), .val (.int p1), .val (.int p2), .val (.int p3), .val (.int (p0 &&& (3 : Int32))), .val (.int (p1 &&& (3 : Int32))), .val (.ref b924), .unset, .unset, .unset, .unset, .unset] [(.int p2), (.int (2 : Int32)), (.ref b924)]))
  refine gv (fun tQ kQ => XS.bipush X934.here hx rfl (hb hby at_42) kQ) ?_
  show G (T934.setTop (mkF me_ 44 #[.val (.int p0), .val (.int p1), .val (.int p2), .val (.int p3), .val (.int (p0 &&& (3 : Int32))), .val (.int (p1 &&& (3 : Int32))), .val (.ref b924), .unset, .unset, .unset, .unset, .unset] [(.int (16 : Int32)), (.int p2), (.int (2 : Int32)), (.ref b924)]))
  refine gv (fun tQ kQ => XS.iushr X934.here hx rfl (hb hby at_44) rfl kQ) ?_
  show G (T934.setTop (mkF me_ 45 #[.val (.int p0), .val (.int p1), .val (.int p2), .val (.int p3), .val (.int (p0 &&& (3 : Int32))), .val (.int (p1 &&& (3 : Int32))), .val (.ref b924), .unset, .unset, .unset, .unset, .unset] [(.int ((p2.toUInt32 >>> ((16 : Int32) &&& 31).toUInt32).toInt32)), (.int (2 : Int32)), (.ref b924)]))
  refine gv (fun tQ kQ => XS.sipush X934.here hx rfl (hb hby at_45) kQ) ?_
  show G (T934.setTop (mkF me_ 48 #[.val (.int p0), .val (.int p1), .val (.int p2), .val (.int p3), .val (.int (p0 &&& (3 : Int32))), .val (.int (p1 &&& (3 : Int32))), .val (.ref b924), .unset, .unset, .unset, .unset, .unset] [(.int (255 : Int32)), (.int ((p2.toUInt32 >>> ((16 : Int32) &&& 31).toUInt32).toInt32)), (.int (2 : Int32)), (.ref b924)]))
  refine gv (fun tQ kQ => XS.iand X934.here hx rfl (hb hby at_48) rfl kQ) ?_
  show G (T934.setTop (mkF me_ 49 #[.val (.int p0), .val (.int p1), .val (.int p2), .val (.int p3), .val (.int (p0 &&& (3 : Int32))), .val (.int (p1 &&& (3 : Int32))), .val (.ref b924), .unset, .unset, .unset, .unset, .unset] [(.int (((p2.toUInt32 >>> ((16 : Int32) &&& 31).toUInt32).toInt32) &&& (255 : Int32))), (.int (2 : Int32)), (.ref b924)]))
  refine gv (fun tQ kQ => XS.i2c X934.here hx rfl (hb hby at_49) rfl kQ) ?_
  show G (T934.setTop (mkF me_ 50 #[.val (.int p0), .val (.int p1), .val (.int p2), .val (.int p3), .val (.int (p0 &&& (3 : Int32))), .val (.int (p1 &&& (3 : Int32))), .val (.ref b924), .unset, .unset, .unset, .unset, .unset] [(.int ((((p2.toUInt32 >>> ((16 : Int32) &&& 31).toUInt32).toInt32) &&& (255 : Int32)).toUInt32.toUInt16.toUInt32.toInt32)), (.int (2 : Int32)), (.ref b924)]))
  obtain ⟨cl939, Ar939, q939, S939, n939, H939, G939⟩ := (id f935)
  have in939 : ¬ ((2 : Int32) < 0 ∨ cl939.slots.size ≤ ((2 : Int32)).toNatClampNeg) := inb_of S939 ⟨by decide, by decide⟩
  obtain ⟨T939, h939, X939, e939, W939, st939⟩ := stC X934 hx hZ e934 Ar939 (j := (2 : Int32)) in939 (g := (mkF me_ 50 #[.val (.int p0), .val (.int p1), .val (.int p2), .val (.int p3), .val (.int (p0 &&& (3 : Int32))), .val (.int (p1 &&& (3 : Int32))), .val (.ref b924), .unset, .unset, .unset, .unset, .unset] [(.int ((((p2.toUInt32 >>> ((16 : Int32) &&& 31).toUInt32).toInt32) &&& (255 : Int32)).toUInt32.toUInt16.toUInt32.toInt32)), (.int (2 : Int32)), (.ref b924)])) rfl rfl (hb hby at_50)
  have W939 : Wr h934 h939 b924 ((2 : Int32)).toNatClampNeg (.int ((((p2.toUInt32 >>> ((16 : Int32) &&& 31).toUInt32).toInt32) &&& (255 : Int32)).toUInt32.toUInt16.toUInt32.toInt32)) := by have z := W939; rw [(own_narC _)] at z; exact z
  refine gv st939 ?_
  have sf941 := Safe.wr W939 (Safe.arv hZ.alike f935 (by simp)) CR.1 sf936
  have CR := CR.trans (CHr.wr W939 (Safe.arv hZ.alike f935 (by simp)) CR.1)
  have hk := Nat.le_trans hk (Keep.of_wr W939).1
  have O942 := O937.wr W939 g925
  have N943 := Fr.snoc X939 N938 g925
  have f940 : Arv Z h939 b924 k924 .char (3 : Int32) [(.int ((p2 &&& (255 : Int32)).toUInt32.toUInt16.toUInt32.toInt32)), (.int ((((p2.toUInt32 >>> ((8 : Int32) &&& 31).toUInt32).toInt32) &&& (255 : Int32)).toUInt32.toUInt16.toUInt32.toInt32)), (.int ((((p2.toUInt32 >>> ((16 : Int32) &&& 31).toUInt32).toInt32) &&& (255 : Int32)).toUInt32.toUInt16.toUInt32.toInt32))] (.int (0 : Int32)) := Arv.set Ar939 q939 S939 n939 H939 G939 (fits_nar_char _) W939 2 rfl (Nat.le_of_ble_eq_true rfl)
  show G (T939.setTop (mkF me_ 51 #[.val (.int p0), .val (.int p1), .val (.int p2), .val (.int p3), .val (.int (p0 &&& (3 : Int32))), .val (.int (p1 &&& (3 : Int32))), .val (.ref b924), .unset, .unset, .unset, .unset, .unset] []))
  refine gv (fun tQ kQ => XS.iconst X939.here hx rfl (hb hby at_51) kQ) ?_
  show G (T939.setTop (mkF me_ 52 #[.val (.int p0), .val (.int p1), .val (.int p2), .val (.int p3), .val (.int (p0 &&& (3 : Int32))), .val (.int (p1 &&& (3 : Int32))), .val (.ref b924), .unset, .unset, .unset, .unset, .unset] [(.int (3 : Int32))]))
  obtain ⟨T944, h944, k944, X944, e944, E944, A944, st944⟩ := newP X939 hx hZ (hw _ (List.mem_of_getElem? (i := 0) rfl)) e939 (g := (mkF me_ 52 #[.val (.int p0), .val (.int p1), .val (.int p2), .val (.int p3), .val (.int (p0 &&& (3 : Int32))), .val (.int (p1 &&& (3 : Int32))), .val (.ref b924), .unset, .unset, .unset, .unset, .unset] [(.int (3 : Int32))])) rfl (hb hby at_52) rfl (by decide) (cap := 3) (by decide) (by decide) (by decide) (by decide)
  obtain ⟨b944, g944⟩ : ∃ z, z = h939.size := ⟨_, rfl⟩
  rw [← g944] at A944 st944
  refine gv st944 ?_
  have ne945 : b924 ≠ b944 := Nat.ne_of_lt (Nat.lt_of_lt_of_le f940.lt (Nat.le_of_eq g944.symm))
  have g946 : n0 ≤ b944 := Nat.le_trans (own_old O942) (Nat.le_of_eq g944.symm)
  have sf947 : Safe Z own_EL st_.vm h939 b944 := Safe.new (Nat.le_of_eq g944.symm)
  have f948 : Arv Z h944 b924 k924 .char (3 : Int32) [(.int ((p2 &&& (255 : Int32)).toUInt32.toUInt16.toUInt32.toInt32)), (.int ((((p2.toUInt32 >>> ((8 : Int32) &&& 31).toUInt32).toInt32) &&& (255 : Int32)).toUInt32.toUInt16.toUInt32.toInt32)), (.int ((((p2.toUInt32 >>> ((16 : Int32) &&& 31).toUInt32).toInt32) &&& (255 : Int32)).toUInt32.toUInt16.toUInt32.toInt32))] (.int (0 : Int32)) := f940.ext E944
  have sf949 := Safe.ext E944 CR.1 sf941
  have sf950 := Safe.ext E944 CR.1 sf947
  have CR := CR.trans (CHr.ext E944 CR.1)
  have hk := Nat.le_trans hk E944.1
  have O951 := O942.ext E944
  have V944 : Arv Z h944 b944 k944 .char (3 : Int32) [(.int (0 : Int32)), (.int (0 : Int32)), (.int (0 : Int32))] (.int (0 : Int32)) := (Arv.new A944 (by decide)).pad (pad_rep [] (.int (0 : Int32)) 3)
  show G (T944.setTop (mkF me_ 54 #[.val (.int p0), .val (.int p1), .val (.int p2), .val (.int p3), .val (.int (p0 &&& (3 : Int32))), .val (.int (p1 &&& (3 : Int32))), .val (.ref b924), .unset, .unset, .unset, .unset, .unset] [(.ref b944)]))
  refine gv (fun tQ kQ => XS.astore X944.here hx rfl (hb hby at_54) rfl rfl (l' := #[.val (.int p0), .val (.int p1), .val (.int p2), .val (.int p3), .val (.int (p0 &&& (3 : Int32))), .val (.int (p1 &&& (3 : Int32))), .val (.ref b924), .val (.ref b944), .unset, .unset, .unset, .unset]) rfl kQ) ?_
  show G (T944.setTop (mkF me_ 56 #[.val (.int p0), .val (.int p1), .val (.int p2), .val (.int p3), .val (.int (p0 &&& (3 : Int32))), .val (.int (p1 &&& (3 : Int32))), .val (.ref b924), .val (.ref b944), .unset, .unset, .unset, .unset] []))
  refine gv (fun tQ kQ => XS.aload X944.here hx rfl (hb hby at_56) rfl rfl kQ) ?_
  show G (T944.setTop (mkF me_ 58 #[.val (.int p0), .val (.int p1), .val (.int p2), .val (.int p3), .val (.int (p0 &&& (3 : Int32))), .val (.int (p1 &&& (3 : Int32))), .val (.ref b924), .val (.ref b944), .unset, .unset, .unset, .unset] [(.ref b944)]))
  refine gv (fun tQ kQ => XS.iconst X944.here hx rfl (hb hby at_58) kQ) ?_
  show G (T944.setTop (mkF me_ 59 #[.val (.int p0), .val (.int p1), .val (.int p2), .val (.int p3), .val (.int (p0 &&& (3 : Int32))), .val (.int (p1 &&& (3 : Int32))), .val (.ref b924), .val (.ref b944), .unset, .unset, .unset, .unset] [(.int (0 : Int32)), (.ref b944)]))
  refine gv (fun tQ kQ => XS.iloadN X944.here hx rfl (hb hby at_59) rfl kQ) ?_
  show G (T944.setTop (mkF me_ 60 #[.val (.int p0), .val (.int p1), .val (.int p2), .val (.int p3), .val (.int (p0 &&& (3 : Int32))), .val (.int (p1 &&& (3 : Int32))), .val (.ref b924), .val (.ref b944), .unset, .unset, .unset, .unset] [(.int p3), (.int (0 : Int32)), (.ref b944)]))
  refine gv (fun tQ kQ => XS.sipush X944.here hx rfl (hb hby at_60) kQ) ?_
  show G (T944.setTop (mkF me_ 63 #[.val (.int p0), .val (.int p1), .val (.int p2), .val (.int p3), .val (.int (p0 &&& (3 : Int32))), .val (.int (p1 &&& (3 : Int32))), .val (.ref b924), .val (.ref b944), .unset, .unset, .unset, .unset] [(.int (255 : Int32)), (.int p3), (.int (0 : Int32)), (.ref b944)]))
  refine gv (fun tQ kQ => XS.iand X944.here hx rfl (hb hby at_63) rfl kQ) ?_
  show G (T944.setTop (mkF me_ 64 #[.val (.int p0), .val (.int p1), .val (.int p2), .val (.int p3), .val (.int (p0 &&& (3 : Int32))), .val (.int (p1 &&& (3 : Int32))), .val (.ref b924), .val (.ref b944), .unset, .unset, .unset, .unset] [(.int (p3 &&& (255 : Int32))), (.int (0 : Int32)), (.ref b944)]))
  refine gv (fun tQ kQ => XS.i2c X944.here hx rfl (hb hby at_64) rfl kQ) ?_
  show G (T944.setTop (mkF me_ 65 #[.val (.int p0), .val (.int p1), .val (.int p2), .val (.int p3), .val (.int (p0 &&& (3 : Int32))), .val (.int (p1 &&& (3 : Int32))), .val (.ref b924), .val (.ref b944), .unset, .unset, .unset, .unset] [(.int ((p3 &&& (255 : Int32)).toUInt32.toUInt16.toUInt32.toInt32)), (.int (0 : Int32)), (.ref b944)]))
  obtain ⟨cl952, Ar952, q952, S952, n952, H952, G952⟩ := (id V944)
  have in952 : ¬ ((0 : Int32) < 0 ∨ cl952.slots.size ≤ ((0 : Int32)).toNatClampNeg) := inb_of S952 ⟨by decide, by decide⟩
  obtain ⟨T952, h952, X952, e952, W952, st952⟩ := stC X944 hx hZ e944 Ar952 (j := (0 : Int32)) in952 (g := (mkF me_ 65 #[.val (.int p0), .val (.int p1), .val (.int p2), .val (.int p3), .val (.int (p0 &&& (3 : Int32))), .val (.int (p1 &&& (3 : Int32))), .val (.ref b924), .val (.ref b944), .unset, .unset, .unset, .unset] [(.int ((p3 &&& (255 : Int32)).toUInt32.toUInt16.toUInt32.toInt32)), (.int (0 : Int32)), (.ref b944)])) rfl rfl (hb hby at_65)
  have W952 : Wr h944 h952 b944 ((0 : Int32)).toNatClampNeg (.int ((p3 &&& (255 : Int32)).toUInt32.toUInt16.toUInt32.toInt32)) := by have z := W952; rw [(own_narC _)] at z; exact z
  refine gv st952 ?_
  have sf954 := Safe.wr W952 (Safe.arv hZ.alike V944 (by simp)) CR.1 sf949
  have sf955 := Safe.wr W952 (Safe.arv hZ.alike V944 (by simp)) CR.1 sf950
  have CR := CR.trans (CHr.wr W952 (Safe.arv hZ.alike V944 (by simp)) CR.1)
  have hk := Nat.le_trans hk (Keep.of_wr W952).1
  have f956 : Arv Z h952 b924 k924 .char (3 : Int32) [(.int ((p2 &&& (255 : Int32)).toUInt32.toUInt16.toUInt32.toInt32)), (.int ((((p2.toUInt32 >>> ((8 : Int32) &&& 31).toUInt32).toInt32) &&& (255 : Int32)).toUInt32.toUInt16.toUInt32.toInt32)), (.int ((((p2.toUInt32 >>> ((16 : Int32) &&& 31).toUInt32).toInt32) &&& (255 : Int32)).toUInt32.toUInt16.toUInt32.toInt32))] (.int (0 : Int32)) := f948.other W952 ne945
  have O957 := O951.wr W952 g946
  have N958 := Fr.snoc X952 N943 g946
  have f953 : Arv Z h952 b944 k944 .char (3 : Int32) [(.int ((p3 &&& (255 : Int32)).toUInt32.toUInt16.toUInt32.toInt32)), (.int (0 : Int32)), (.int (0 : Int32))] (.int (0 : Int32)) := Arv.set Ar952 q952 S952 n952 H952 G952 (fits_nar_char _) W952 0 rfl (Nat.le_of_ble_eq_true rfl)
  show G (T952.setTop (mkF me_ 66 #[.val (.int p0), .val (.int p1), .val (.int p2), .val (.int p3), .val (.int (p0 &&& (3 : Int32))), .val (.int (p1 &&& (3 : Int32))), .val (.ref b924), .val (.ref b944), .unset, .unset, .unset, .unset] []))
  refine gv (fun tQ kQ => XS.aload X952.here hx rfl (hb hby at_66) rfl rfl kQ) ?_
  show G (T952.setTop (mkF me_ 68 #[.val (.int p0), .val (.int p1), .val (.int p2), .val (.int p3), .val (.int (p0 &&& (3 : Int32))), .val (.int (p1 &&& (3 : Int32))), .val (.ref b924), .val (.ref b944), .unset, .unset, .unset, .unset] [(.ref b944)]))
  refine gv (fun tQ kQ => XS.iconst X952.here hx rfl (hb hby at_68) kQ) ?_
  show G (T952.setTop (mkF me_ 69 #[.val (.int p0), .val (.int p1), .val (.int p2), .val (.int p3), .val (.int (p0 &&& (3 : Int32))), .val (.int (p1 &&& (3 : Int32))), .val (.ref b924), .val (.ref b944), .unset, .unset, .unset, .unset] [(.int (1 : Int32)), (.ref b944)]))
  refine gv (fun tQ kQ => XS.iloadN X952.here hx rfl (hb hby at_69) rfl kQ) ?_
  show G (T952.setTop (mkF me_ 70 #[.val (.int p0), .val (.int p1), .val (.int p2), .val (.int p3), .val (.int (p0 &&& (3 : Int32))), .val (.int (p1 &&& (3 : Int32))), .val (.ref b924), .val (.ref b944), .unset, .unset, .unset, .unset] [(.int p3), (.int (1 : Int32)), (.ref b944)]))
  refine gv (fun tQ kQ => XS.bipush X952.here hx rfl (hb hby at_70) kQ) ?_
  show G (T952.setTop (mkF me_ 72 #[.val (.int p0), .val (.int p1), .val (.int p2), .val (.int p3), .val (.int (p0 &&& (3 : Int32))), .val (.int (p1 &&& (3 : Int32))), .val (.ref b924), .val (.ref b944), .unset, .unset, .unset, .unset] [(.int (8 : Int32)), (.int p3), (.int (1 : Int32)), (.ref b944)]))
  refine gv (fun tQ kQ => XS.iushr X952.here hx rfl (hb hby at_72) rfl kQ) ?_
  show G (T952.setTop (mkF me_ 73 #[.val (.int p0), .val (.int p1), .val (.int p2), .val (.int p3), .val (.int (p0 &&& (3 : Int32))), .val (.int (p1 &&& (3 : Int32))), .val (.ref b924), .val (.ref b944), .unset, .unset, .unset, .unset] [(.int ((p3.toUInt32 >>> ((8 : Int32) &&& 31).toUInt32).toInt32)), (.int (1 : Int32)), (.ref b944)]))
  refine gv (fun tQ kQ => XS.sipush X952.here hx rfl (hb hby at_73) kQ) ?_
  show G (T952.setTop (mkF me_ 76 #[.val (.int p0), .val (.int p1), .val (.int p2), .val (.int p3), .val (.int (p0 &&& (3 : Int32))), .val (.int (p1 &&& (3 : Int32))), .val (.ref b924), .val (.ref b944), .unset, .unset, .unset, .unset] [(.int (255 : Int32)), (.int ((p3.toUInt32 >>> ((8 : Int32) &&& 31).toUInt32).toInt32)), (.int (1 : Int32)), (.ref b944)]))
  refine gv (fun tQ kQ => XS.iand X952.here hx rfl (hb hby at_76) rfl kQ) ?_
  show G (T952.setTop (mkF me_ 77 #[.val (.int p0), .val (.int p1), .val (.int p2), .val (.int p3), .val (.int (p0 &&& (3 : Int32))), .val (.int (p1 &&& (3 : Int32))), .val (.ref b924), .val (.ref b944), .unset, .unset, .unset, .unset] [(.int (((p3.toUInt32 >>> ((8 : Int32) &&& 31).toUInt32).toInt32) &&& (255 : Int32))), (.int (1 : Int32)), (.ref b944)]))
  refine gv (fun tQ kQ => XS.i2c X952.here hx rfl (hb hby at_77) rfl kQ) ?_
  show G (T952.setTop (mkF me_ 78 #[.val (.int p0), .val (.int p1), .val (.int p2), .val (.int p3), .val (.int (p0 &&& (3 : Int32))), .val (.int (p1 &&& (3 : Int32))), .val (.ref b924), .val (.ref b944), .unset, .unset, .unset, .unset] [(.int ((((p3.toUInt32 >>> ((8 : Int32) &&& 31).toUInt32).toInt32) &&& (255 : Int32)).toUInt32.toUInt16.toUInt32.toInt32)), (.int (1 : Int32)), (.ref b944)]))
  obtain ⟨cl959, Ar959, q959, S959, n959, H959, G959⟩ := (id f953)
  have in959 : ¬ ((1 : Int32) < 0 ∨ cl959.slots.size ≤ ((1 : Int32)).toNatClampNeg) := inb_of S959 ⟨by decide, by decide⟩
  obtain ⟨T959, h959, X959, e959, W959, st959⟩ := stC X952 hx hZ e952 Ar959 (j := (1 : Int32)) in959 (g := (mkF me_ 78 #[.val (.int p0), .val (.int p1), .val (.int p2), .val (.int p3), .val (.int (p0 &&& (3 : Int32))), .val (.int (p1 &&& (3 : Int32))), .val (.ref b924), .val (.ref b944), .unset, .unset, .unset, .unset] [(.int ((((p3.toUInt32 >>> ((8 : Int32) &&& 31).toUInt32).toInt32) &&& (255 : Int32)).toUInt32.toUInt16.toUInt32.toInt32)), (.int (1 : Int32)), (.ref b944)])) rfl rfl (hb hby at_78)
  have W959 : Wr h952 h959 b944 ((1 : Int32)).toNatClampNeg (.int ((((p3.toUInt32 >>> ((8 : Int32) &&& 31).toUInt32).toInt32) &&& (255 : Int32)).toUInt32.toUInt16.toUInt32.toInt32)) := by have z := W959; rw [(own_narC _)] at z; exact z
  refine gv st959 ?_
  have sf961 := Safe.wr W959 (Safe.arv hZ.alike f953 (by simp)) CR.1 sf954
  have sf962 := Safe.wr W959 (Safe.arv hZ.alike f953 (by simp)) CR.1 sf955
  have CR := CR.trans (CHr.wr W959 (Safe.arv hZ.alike f953 (by simp)) CR.1)
  have hk := Nat.le_trans hk (Keep.of_wr W959).1
  have f963 : Arv Z h959 b924 k924 .char (3 : Int32) [(.int ((p2 &&& (255 : Int32)).toUInt32.toUInt16.toUInt32.toInt32)), (.int ((((p2.toUInt32 >>> ((8 : Int32) &&& 31).toUInt32).toInt32) &&& (255 : Int32)).toUInt32.toUInt16.toUInt32.toInt32)), (.int ((((p2.toUInt32 >>> ((16 : Int32) &&& 31).toUInt32).toInt32) &&& (255 : Int32)).toUInt32.toUInt16.toUInt32.toInt32))] (.int (0 : Int32)) := f956.other W959 ne945
  have O964 := O957.wr W959 g946
  have N965 := Fr.snoc X959 N958 g946
  have f960 : Arv Z h959 b944 k944 .char (3 : Int32) [(.int ((p3 &&& (255 : Int32)).toUInt32.toUInt16.toUInt32.toInt32)), (.int ((((p3.toUInt32 >>> ((8 : Int32) &&& 31).toUInt32).toInt32) &&& (255 : Int32)).toUInt32.toUInt16.toUInt32.toInt32)), (.int (0 : Int32))] (.int (0 : Int32)) := Arv.set Ar959 q959 S959 n959 H959 G959 (fits_nar_char _) W959 1 rfl (Nat.le_of_ble_eq_true rfl)
  show G (T959.setTop (mkF me_ 79 #[.val (.int p0), .val (.int p1), .val (.int p2), .val (.int p3), .val (.int (p0 &&& (3 : Int32))), .val (.int (p1 &&& (3 : Int32))), .val (.ref b924), .val (.ref b944), .unset, .unset, .unset, .unset] []))
  refine gv (fun tQ kQ => XS.aload X959.here hx rfl (hb hby at_79) rfl rfl kQ) ?_
  show G (T959.setTop (mkF me_ 81 #[.val (.int p0), .val (.int p1), .val (.int p2), .val (.int p3), .val (.int (p0 &&& (3 : Int32))), .val (.int (p1 &&& (3 : Int32))), .val (.ref b924), .val (.ref b944), .unset, .unset, .unset, .unset] [(.ref b944)]))
  refine gv (fun tQ kQ => XS.iconst X959.here hx rfl (hb hby at_81) kQ) ?_
  show G (T959.setTop (mkF me_ 82 #[.val (.int p0), .val (.int p1), .val (.int p2), .val (.int p3), .val (.int (p0 &&& (3 : Int32))), .val (.int (p1 &&& (3 : Int32))), .val (.ref b924), .val (.ref b944), .unset, .unset, .unset, .unset] [(.int (2 : Int32)), (.ref b944)]))
  refine gv (fun tQ kQ => XS.iloadN X959.here hx rfl (hb hby at_82) rfl kQ) ?_
  show G (T959.setTop (mkF me_ 83 #[.val (.int p0), .val (.int p1), .val (.int p2), .val (.int p3), .val (.int (p0 &&& (3 : Int32))), .val (.int (p1 &&& (3 : Int32))), .val (.ref b924), .val (.ref b944), .unset, .unset, .unset, .unset] [(.int p3), (.int (2 : Int32)), (.ref b944)]))
  refine gv (fun tQ kQ => XS.bipush X959.here hx rfl (hb hby at_83) kQ) ?_
  show G (T959.setTop (mkF me_ 85 #[.val (.int p0), .val (.int p1), .val (.int p2), .val (.int p3), .val (.int (p0 &&& (3 : Int32))), .val (.int (p1 &&& (3 : Int32))), .val (.ref b924), .val (.ref b944), .unset, .unset, .unset, .unset] [(.int (16 : Int32)), (.int p3), (.int (2 : Int32)), (.ref b944)]))
  refine gv (fun tQ kQ => XS.iushr X959.here hx rfl (hb hby at_85) rfl kQ) ?_
  show G (T959.setTop (mkF me_ 86 #[.val (.int p0), .val (.int p1), .val (.int p2), .val (.int p3), .val (.int (p0 &&& (3 : Int32))), .val (.int (p1 &&& (3 : Int32))), .val (.ref b924), .val (.ref b944), .unset, .unset, .unset, .unset] [(.int ((p3.toUInt32 >>> ((16 : Int32) &&& 31).toUInt32).toInt32)), (.int (2 : Int32)), (.ref b944)]))
  refine gv (fun tQ kQ => XS.sipush X959.here hx rfl (hb hby at_86) kQ) ?_
  show G (T959.setTop (mkF me_ 89 #[.val (.int p0), .val (.int p1), .val (.int p2), .val (.int p3), .val (.int (p0 &&& (3 : Int32))), .val (.int (p1 &&& (3 : Int32))), .val (.ref b924), .val (.ref b944), .unset, .unset, .unset, .unset] [(.int (255 : Int32)), (.int ((p3.toUInt32 >>> ((16 : Int32) &&& 31).toUInt32).toInt32)), (.int (2 : Int32)), (.ref b944)]))
  refine gv (fun tQ kQ => XS.iand X959.here hx rfl (hb hby at_89) rfl kQ) ?_
  show G (T959.setTop (mkF me_ 90 #[.val (.int p0), .val (.int p1), .val (.int p2), .val (.int p3), .val (.int (p0 &&& (3 : Int32))), .val (.int (p1 &&& (3 : Int32))), .val (.ref b924), .val (.ref b944), .unset, .unset, .unset, .unset] [(.int (((p3.toUInt32 >>> ((16 : Int32) &&& 31).toUInt32).toInt32) &&& (255 : Int32))), (.int (2 : Int32)), (.ref b944)]))
  refine gv (fun tQ kQ => XS.i2c X959.here hx rfl (hb hby at_90) rfl kQ) ?_
  show G (T959.setTop (mkF me_ 91 #[.val (.int p0), .val (.int p1), .val (.int p2), .val (.int p3), .val (.int (p0 &&& (3 : Int32))), .val (.int (p1 &&& (3 : Int32))), .val (.ref b924), .val (.ref b944), .unset, .unset, .unset, .unset] [(.int ((((p3.toUInt32 >>> ((16 : Int32) &&& 31).toUInt32).toInt32) &&& (255 : Int32)).toUInt32.toUInt16.toUInt32.toInt32)), (.int (2 : Int32)), (.ref b944)]))
  obtain ⟨cl966, Ar966, q966, S966, n966, H966, G966⟩ := (id f960)
  have in966 : ¬ ((2 : Int32) < 0 ∨ cl966.slots.size ≤ ((2 : Int32)).toNatClampNeg) := inb_of S966 ⟨by decide, by decide⟩
  obtain ⟨T966, h966, X966, e966, W966, st966⟩ := stC X959 hx hZ e959 Ar966 (j := (2 : Int32)) in966 (g := (mkF me_ 91 #[.val (.int p0), .val (.int p1), .val (.int p2), .val (.int p3), .val (.int (p0 &&& (3 : Int32))), .val (.int (p1 &&& (3 : Int32))), .val (.ref b924), .val (.ref b944), .unset, .unset, .unset, .unset] [(.int ((((p3.toUInt32 >>> ((16 : Int32) &&& 31).toUInt32).toInt32) &&& (255 : Int32)).toUInt32.toUInt16.toUInt32.toInt32)), (.int (2 : Int32)), (.ref b944)])) rfl rfl (hb hby at_91)
  have W966 : Wr h959 h966 b944 ((2 : Int32)).toNatClampNeg (.int ((((p3.toUInt32 >>> ((16 : Int32) &&& 31).toUInt32).toInt32) &&& (255 : Int32)).toUInt32.toUInt16.toUInt32.toInt32)) := by have z := W966; rw [(own_narC _)] at z; exact z
  refine gv st966 ?_
  have sf968 := Safe.wr W966 (Safe.arv hZ.alike f960 (by simp)) CR.1 sf961
  have sf969 := Safe.wr W966 (Safe.arv hZ.alike f960 (by simp)) CR.1 sf962
  have CR := CR.trans (CHr.wr W966 (Safe.arv hZ.alike f960 (by simp)) CR.1)
  have hk := Nat.le_trans hk (Keep.of_wr W966).1
  have f970 : Arv Z h966 b924 k924 .char (3 : Int32) [(.int ((p2 &&& (255 : Int32)).toUInt32.toUInt16.toUInt32.toInt32)), (.int ((((p2.toUInt32 >>> ((8 : Int32) &&& 31).toUInt32).toInt32) &&& (255 : Int32)).toUInt32.toUInt16.toUInt32.toInt32)), (.int ((((p2.toUInt32 >>> ((16 : Int32) &&& 31).toUInt32).toInt32) &&& (255 : Int32)).toUInt32.toUInt16.toUInt32.toInt32))] (.int (0 : Int32)) := f963.other W966 ne945
  have O971 := O964.wr W966 g946
  have N972 := Fr.snoc X966 N965 g946
  have f967 : Arv Z h966 b944 k944 .char (3 : Int32) [(.int ((p3 &&& (255 : Int32)).toUInt32.toUInt16.toUInt32.toInt32)), (.int ((((p3.toUInt32 >>> ((8 : Int32) &&& 31).toUInt32).toInt32) &&& (255 : Int32)).toUInt32.toUInt16.toUInt32.toInt32)), (.int ((((p3.toUInt32 >>> ((16 : Int32) &&& 31).toUInt32).toInt32) &&& (255 : Int32)).toUInt32.toUInt16.toUInt32.toInt32))] (.int (0 : Int32)) := Arv.set Ar966 q966 S966 n966 H966 G966 (fits_nar_char _) W966 2 rfl (Nat.le_of_ble_eq_true rfl)
  show G (T966.setTop (mkF me_ 92 #[.val (.int p0), .val (.int p1), .val (.int p2), .val (.int p3), .val (.int (p0 &&& (3 : Int32))), .val (.int (p1 &&& (3 : Int32))), .val (.ref b924), .val (.ref b944), .unset, .unset, .unset, .unset] []))
  obtain ⟨T973, h973, X973, e973, E973, A973, D973, -, st973⟩ := newO X966 hx hZ hown (hw _ (List.mem_of_getElem? (i := 1) rfl)) (hw _ (List.mem_of_getElem? (i := 2) rfl)) (hw _ (List.mem_of_getElem? (i := 3) rfl)) e966 (g := (mkF me_ 92 #[.val (.int p0), .val (.int p1), .val (.int p2), .val (.int p3), .val (.int (p0 &&& (3 : Int32))), .val (.int (p1 &&& (3 : Int32))), .val (.ref b924), .val (.ref b944), .unset, .unset, .unset, .unset] [])) rfl (hb hby at_92) (by decide) (by decide)
  obtain ⟨b973, g973⟩ : ∃ z, z = h966.size := ⟨_, rfl⟩
  rw [← g973] at A973 D973 st973
  refine gv st973 ?_
  have ne974 : b924 ≠ b973 := Nat.ne_of_lt (Nat.lt_of_lt_of_le f970.lt (Nat.le_of_eq g973.symm))
  have ne975 : b944 ≠ b973 := Nat.ne_of_lt (Nat.lt_of_lt_of_le f967.lt (Nat.le_of_eq g973.symm))
  have g976 : n0 ≤ b973 := Nat.le_trans (own_old O971) (Nat.le_of_eq g973.symm)
  have sf977 : Safe Z own_EL st_.vm h966 b973 := Safe.new (Nat.le_of_eq g973.symm)
  have f978 : Arv Z h973 b924 k924 .char (3 : Int32) [(.int ((p2 &&& (255 : Int32)).toUInt32.toUInt16.toUInt32.toInt32)), (.int ((((p2.toUInt32 >>> ((8 : Int32) &&& 31).toUInt32).toInt32) &&& (255 : Int32)).toUInt32.toUInt16.toUInt32.toInt32)), (.int ((((p2.toUInt32 >>> ((16 : Int32) &&& 31).toUInt32).toInt32) &&& (255 : Int32)).toUInt32.toUInt16.toUInt32.toInt32))] (.int (0 : Int32)) := f970.ext E973
  have f979 : Arv Z h973 b944 k944 .char (3 : Int32) [(.int ((p3 &&& (255 : Int32)).toUInt32.toUInt16.toUInt32.toInt32)), (.int ((((p3.toUInt32 >>> ((8 : Int32) &&& 31).toUInt32).toInt32) &&& (255 : Int32)).toUInt32.toUInt16.toUInt32.toInt32)), (.int ((((p3.toUInt32 >>> ((16 : Int32) &&& 31).toUInt32).toInt32) &&& (255 : Int32)).toUInt32.toUInt16.toUInt32.toInt32))] (.int (0 : Int32)) := f967.ext E973
  have sf980 := Safe.ext E973 CR.1 sf968
  have sf981 := Safe.ext E973 CR.1 sf969
  have sf982 := Safe.ext E973 CR.1 sf977
  have CR := CR.trans (CHr.ext E973 CR.1)
  have hk := Nat.le_trans hk E973.1
  have O983 := O971.ext E973
  have f984 : Fld Z h973 b973 "java/lang/String" "value" "[B" .null := D973 (Or.inr (hw _ (List.mem_of_getElem? (i := 20) rfl))) (ty := (.array .byte)) (by decide)
  have f985 : Fld Z h973 b973 "java/lang/String" "coder" "B" (.int (0 : Int32)) := D973 (Or.inr (hw _ (List.mem_of_getElem? (i := 21) rfl))) (ty := .byte) (by decide)
  show G (T973.setTop (mkF me_ 95 #[.val (.int p0), .val (.int p1), .val (.int p2), .val (.int p3), .val (.int (p0 &&& (3 : Int32))), .val (.int (p1 &&& (3 : Int32))), .val (.ref b924), .val (.ref b944), .unset, .unset, .unset, .unset] [(.ref b973)]))
  refine gv (fun tQ kQ => XS.dup X973.here hx rfl (hb hby at_95) rfl rfl kQ) ?_
  show G (T973.setTop (mkF me_ 96 #[.val (.int p0), .val (.int p1), .val (.int p2), .val (.int p3), .val (.int (p0 &&& (3 : Int32))), .val (.int (p1 &&& (3 : Int32))), .val (.ref b924), .val (.ref b944), .unset, .unset, .unset, .unset] [(.ref b973), (.ref b973)]))
  refine gv (fun tQ kQ => XS.aload X973.here hx rfl (hb hby at_96) rfl rfl kQ) ?_
  show G (T973.setTop (mkF me_ 98 #[.val (.int p0), .val (.int p1), .val (.int p2), .val (.int p3), .val (.int (p0 &&& (3 : Int32))), .val (.int (p1 &&& (3 : Int32))), .val (.ref b924), .val (.ref b944), .unset, .unset, .unset, .unset] [(.ref b924), (.ref b973), (.ref b973)]))
  refine gv (fun tQ kQ => XS.iload X973.here hx rfl (hb hby at_98) rfl kQ) ?_
  show G (T973.setTop (mkF me_ 100 #[.val (.int p0), .val (.int p1), .val (.int p2), .val (.int p3), .val (.int (p0 &&& (3 : Int32))), .val (.int (p1 &&& (3 : Int32))), .val (.ref b924), .val (.ref b944), .unset, .unset, .unset, .unset] [(.int (p0 &&& (3 : Int32))), (.ref b924), (.ref b973), (.ref b973)]))
  obtain ⟨_, _, ⟨T986, L986, k986, n986⟩, -, X986, ⟨Lc986, hQ986, l986, y986, z986⟩, st986⟩ := Jvm.LawKit.callS X973 hx (y := (⟨"com/example/dvalin/dvalin/ProblemToStringPinLaw", "take", "([CI)[C"⟩ : MethodName)) hown (mvT hZ (hw _ (List.mem_of_getElem? (i := 4) rfl))) (mvT hZ (hw _ (List.mem_of_getElem? (i := 5) rfl))) (mvT hZ (hw _ (List.mem_of_getElem? (i := 6) rfl))) (mvT hZ (hw _ (List.mem_of_getElem? (i := 7) rfl))) (by decide) (backOf (W := 2) (rm_tk l Z a0 hw [] b924 k924 (p0 &&& (3 : Int32)) ((p2 &&& (255 : Int32)).toUInt32.toUInt16.toUInt32.toInt32) ((((p2.toUInt32 >>> ((8 : Int32) &&& 31).toUInt32).toInt32) &&& (255 : Int32)).toUInt32.toUInt16.toUInt32.toInt32) ((((p2.toUInt32 >>> ((16 : Int32) &&& 31).toUInt32).toInt32) &&& (255 : Int32)).toUInt32.toUInt16.toUInt32.toInt32) h973 n0 O983 f978 (own_and3 p0) (own_narC _) (own_narC _) (own_narC _)) hZ (hw _ (List.mem_of_getElem? (i := 7) rfl)) (hw _ (List.mem_of_getElem? (i := 6) rfl)) (by decide) (by decide)) (g := (mkF me_ 100 #[.val (.int p0), .val (.int p1), .val (.int p2), .val (.int p3), .val (.int (p0 &&& (3 : Int32))), .val (.int (p1 &&& (3 : Int32))), .val (.ref b924), .val (.ref b944), .unset, .unset, .unset, .unset] [(.int (p0 &&& (3 : Int32))), (.ref b924), (.ref b973), (.ref b973)])) rfl (by rw [hml]; rfl) (argsL := [(.ref b924), (.int (p0 &&& (3 : Int32)))]) (rest := [(.ref b973), (.ref b973)]) (lenOf pd_25 rfl) rfl (by show 2 * 0 + _ ≤ _; exact Nat.le_of_eq rfl) (hb hby at_100) (fun _ _ => ⟨rfl, e973, (by decide : 3 + 1 ≤ _), (by decide : 10 + 3 ≤ _)⟩)
  dsimp only [Pt.U, Pt.locs, Pt.cells, Pt.slots] at X986 l986 y986 z986 st986 hQ986
  subst l986 y986 z986
  obtain ⟨r_986, kr_986, rfl, Nq986, Kq986, w986_0, w986_1⟩ := hQ986
  have N987 := Fr.app N972 Nq986
  obtain ⟨h986, e986⟩ : ∃ z, T986.heap = z := ⟨_, rfl⟩
  rw [e986] at Kq986 w986_1
  have sf988 := Safe.keep Kq986 sf0 CR.1 sf980
  have sf989 := Safe.keep Kq986 sf0 CR.1 sf981
  have sf990 := Safe.keep Kq986 sf0 CR.1 sf982
  have ne991 : b924 ≠ r_986 := Nat.ne_of_lt (Nat.lt_of_lt_of_le f978.lt w986_0)
  have ne992 : b944 ≠ r_986 := Nat.ne_of_lt (Nat.lt_of_lt_of_le f979.lt w986_0)
  have ne993 : b973 ≠ r_986 := Nat.ne_of_lt (Nat.lt_of_lt_of_le A973.lt w986_0)
  have g994 : n0 ≤ r_986 := Nat.le_trans (own_old O983) w986_0
  have sf995 : Safe Z own_EL st_.vm h973 r_986 := Safe.new w986_0
  have sf996 := Safe.keep Kq986 sf0 CR.1 sf995
  have CR := CR.trans (CHr.keep Kq986 sf0 CR.1)
  have hk := Nat.le_trans hk Kq986.1
  have f997 : Arv Z h986 b924 k924 .char (3 : Int32) [(.int ((p2 &&& (255 : Int32)).toUInt32.toUInt16.toUInt32.toInt32)), (.int ((((p2.toUInt32 >>> ((8 : Int32) &&& 31).toUInt32).toInt32) &&& (255 : Int32)).toUInt32.toUInt16.toUInt32.toInt32)), (.int ((((p2.toUInt32 >>> ((16 : Int32) &&& 31).toUInt32).toInt32) &&& (255 : Int32)).toUInt32.toUInt16.toUInt32.toInt32))] (.int (0 : Int32)) := f978.keep Kq986 nin0
  have f998 : Arv Z h986 b944 k944 .char (3 : Int32) [(.int ((p3 &&& (255 : Int32)).toUInt32.toUInt16.toUInt32.toInt32)), (.int ((((p3.toUInt32 >>> ((8 : Int32) &&& 31).toUInt32).toInt32) &&& (255 : Int32)).toUInt32.toUInt16.toUInt32.toInt32)), (.int ((((p3.toUInt32 >>> ((16 : Int32) &&& 31).toUInt32).toInt32) &&& (255 : Int32)).toUInt32.toUInt16.toUInt32.toInt32))] (.int (0 : Int32)) := f979.keep Kq986 nin0
  have f999 : Exa Z h986 b973 "java/lang/String" := A973.keep Kq986
  have f1000 : Fld Z h986 b973 "java/lang/String" "value" "[B" .null := f984.keep Kq986 nin0
  have f1001 : Fld Z h986 b973 "java/lang/String" "coder" "B" (.int (0 : Int32)) := f985.keep Kq986 nin0
  have O1002 := O983.keep Kq986 all0
  refine gv st986 ?_
  show G (T986.setTop (mkF me_ 103 #[.val (.int p0), .val (.int p1), .val (.int p2), .val (.int p3), .val (.int (p0 &&& (3 : Int32))), .val (.int (p1 &&& (3 : Int32))), .val (.ref b924), .val (.ref b944), .unset, .unset, .unset, .unset] [(.ref r_986), (.ref b973), (.ref b973)]))
  obtain ⟨_, _, ⟨T1003, L1003, k1003, n1003⟩, -, X1003, hS1003, hg1003, ⟨Lc1003, hQ1003, l1003, y1003, z1003, CRn1003⟩, st1003⟩ := X986.specialBackS hx (y := (⟨"java/lang/String", "<init>", "([C)V"⟩ : MethodName)) rfl hown (mvT hZ (hw _ (List.mem_of_getElem? (i := 8) rfl))) (mvT hZ (hw _ (List.mem_of_getElem? (i := 9) rfl))) (mvT hZ (hw _ (List.mem_of_getElem? (i := 10) rfl))) (by decide) (own_backH (W := 1) (rm_scg l Z a0 hw [] b973 r_986 kr_986 (p0 &&& (3 : Int32)) ((p2 &&& (255 : Int32)).toUInt32.toUInt16.toUInt32.toInt32) ((((p2.toUInt32 >>> ((8 : Int32) &&& 31).toUInt32).toInt32) &&& (255 : Int32)).toUInt32.toUInt16.toUInt32.toInt32) ((((p2.toUInt32 >>> ((16 : Int32) &&& 31).toUInt32).toInt32) &&& (255 : Int32)).toUInt32.toUInt16.toUInt32.toInt32) cs h986 n0 O1002 u0 u1 (own_lt255 _) (own_lt255 _) (own_lt255 _) (own_and3 p0) f999 f1000 f1001 g976 w986_1 ne993) hZ (hw _ (List.mem_of_getElem? (i := 10) rfl)) (hw _ (List.mem_of_getElem? (i := 3) rfl)) (by decide) (by decide) hEL CR.1 (own_sfS f999.lt sf990 own_sf0)) (g := (mkF me_ 103 #[.val (.int p0), .val (.int p1), .val (.int p2), .val (.int p3), .val (.int (p0 &&& (3 : Int32))), .val (.int (p1 &&& (3 : Int32))), .val (.ref b924), .val (.ref b944), .unset, .unset, .unset, .unset] [(.ref r_986), (.ref b973), (.ref b973)])) rfl (by rw [hml]; rfl) (Steps.refl _) (a := b973) (argsL := [(.ref r_986)]) (rest := [(.ref b973)]) (lenOf pd_26 rfl) rfl (by show 2 * 0 + _ ≤ _; exact Nat.le_of_eq rfl) (hb hby at_103) (fun _ _ => ⟨rfl, e986, (by decide : 4 + 4 ≤ _), (by decide : 13 + 8 ≤ _)⟩)
  dsimp only [Pt.U, Pt.locs, Pt.cells, Pt.slots] at X1003 l1003 y1003 z1003 st1003 hQ1003 hS1003 hg1003 CRn1003
  subst l1003 y1003 z1003
  have hS := foldS hS (by rw [e986]; exact hk) hS1003 hg1003
  have hZ : Z.Warmed39 T1003.vm := State.Warmed39.trans (t := st_.setVm st_.vm) hZ hS1003.1
  have hown : T1003.vm.findClass "com/example/dvalin/dvalin/ProblemToStringPinLaw" = some me_.cls := by rw [hS1003.1.alike.findClass]; exact hown
  have X1003 : Stand pr_ l en_ _ (st_.setVm T1003.vm) me_ _ below meth_ co_ T1003 _ _ _ := X1003
  obtain ⟨b_1003, k_1003, rfl, Nq1003, Kq1003, w1003_0, w1003_1, w1003_2, w1003_3⟩ := hQ1003
  have N1004 := Fr.app N987 Nq1003
  obtain ⟨h1003, e1003⟩ : ∃ z, T1003.heap = z := ⟨_, rfl⟩
  rw [e1003] at Kq1003 CRn1003 w1003_0 w1003_1 w1003_2 w1003_3
  have sf1005 := CRn1003.safe f997.lt sf988
  have sf1006 := CRn1003.safe f998.lt sf989
  have sf1007 := CRn1003.safe f999.lt sf990
  have sf1008 := CRn1003.safe w986_1.lt sf996
  have CR := CR.trans CRn1003
  obtain ⟨kk1003, hkk1003⟩ : ∃ z, z = T1003.heap.size := ⟨_, rfl⟩
  rw [← hkk1003] at hS
  have hk : kk1003 ≤ h1003.size := by rw [hkk1003, e1003]; exact Nat.le_refl _
  have f1009 : Arv Z h1003 b924 k924 .char (3 : Int32) [(.int ((p2 &&& (255 : Int32)).toUInt32.toUInt16.toUInt32.toInt32)), (.int ((((p2.toUInt32 >>> ((8 : Int32) &&& 31).toUInt32).toInt32) &&& (255 : Int32)).toUInt32.toUInt16.toUInt32.toInt32)), (.int ((((p2.toUInt32 >>> ((16 : Int32) &&& 31).toUInt32).toInt32) &&& (255 : Int32)).toUInt32.toUInt16.toUInt32.toInt32))] (.int (0 : Int32)) := f997.keep Kq1003 (ninS ne974 nin0)
  have f1010 : Arv Z h1003 b944 k944 .char (3 : Int32) [(.int ((p3 &&& (255 : Int32)).toUInt32.toUInt16.toUInt32.toInt32)), (.int ((((p3.toUInt32 >>> ((8 : Int32) &&& 31).toUInt32).toInt32) &&& (255 : Int32)).toUInt32.toUInt16.toUInt32.toInt32)), (.int ((((p3.toUInt32 >>> ((16 : Int32) &&& 31).toUInt32).toInt32) &&& (255 : Int32)).toUInt32.toUInt16.toUInt32.toInt32))] (.int (0 : Int32)) := f998.keep Kq1003 (ninS ne975 nin0)
  have f1011 : Exa Z h1003 b973 "java/lang/String" := f999.keep Kq1003
  have f1012 : Arv Z h1003 r_986 kr_986 .char (p0 &&& (3 : Int32)) (own_cl (p0 &&& (3 : Int32)) ((p2 &&& (255 : Int32)).toUInt32.toUInt16.toUInt32.toInt32) ((((p2.toUInt32 >>> ((8 : Int32) &&& 31).toUInt32).toInt32) &&& (255 : Int32)).toUInt32.toUInt16.toUInt32.toInt32) ((((p2.toUInt32 >>> ((16 : Int32) &&& 31).toUInt32).toInt32) &&& (255 : Int32)).toUInt32.toUInt16.toUInt32.toInt32)) (.int (0 : Int32)) := w986_1.keep Kq1003 (ninS (Ne.symm ne993) nin0)
  have O1013 := O1002.keep Kq1003 (allS g976 all0)
  refine gv (fun tQ kQ => st1003.trans kQ) ?_
  show G (T1003.setTop (mkF me_ 106 #[.val (.int p0), .val (.int p1), .val (.int p2), .val (.int p3), .val (.int (p0 &&& (3 : Int32))), .val (.int (p1 &&& (3 : Int32))), .val (.ref b924), .val (.ref b944), .unset, .unset, .unset, .unset] [(.ref b973)]))
  refine gv (fun tQ kQ => XS.astore X1003.here hx rfl (hb hby at_106) rfl rfl (l' := #[.val (.int p0), .val (.int p1), .val (.int p2), .val (.int p3), .val (.int (p0 &&& (3 : Int32))), .val (.int (p1 &&& (3 : Int32))), .val (.ref b924), .val (.ref b944), .val (.ref b973), .unset, .unset, .unset]) rfl kQ) ?_
  show G (T1003.setTop (mkF me_ 108 #[.val (.int p0), .val (.int p1), .val (.int p2), .val (.int p3), .val (.int (p0 &&& (3 : Int32))), .val (.int (p1 &&& (3 : Int32))), .val (.ref b924), .val (.ref b944), .val (.ref b973), .unset, .unset, .unset] []))
  obtain ⟨T1014, h1014, X1014, e1014, E1014, A1014, D1014, -, st1014⟩ := newO X1003 hx hZ hown (hw _ (List.mem_of_getElem? (i := 1) rfl)) (hw _ (List.mem_of_getElem? (i := 2) rfl)) (hw _ (List.mem_of_getElem? (i := 3) rfl)) e1003 (g := (mkF me_ 108 #[.val (.int p0), .val (.int p1), .val (.int p2), .val (.int p3), .val (.int (p0 &&& (3 : Int32))), .val (.int (p1 &&& (3 : Int32))), .val (.ref b924), .val (.ref b944), .val (.ref b973), .unset, .unset, .unset] [])) rfl (hb hby at_108) (by decide) (by decide)
  obtain ⟨b1014, g1014⟩ : ∃ z, z = h1003.size := ⟨_, rfl⟩
  rw [← g1014] at A1014 D1014 st1014
  refine gv st1014 ?_
  have ne1015 : b924 ≠ b1014 := Nat.ne_of_lt (Nat.lt_of_lt_of_le f1009.lt (Nat.le_of_eq g1014.symm))
  have ne1016 : b944 ≠ b1014 := Nat.ne_of_lt (Nat.lt_of_lt_of_le f1010.lt (Nat.le_of_eq g1014.symm))
  have ne1017 : b973 ≠ b1014 := Nat.ne_of_lt (Nat.lt_of_lt_of_le w1003_0.lt (Nat.le_of_eq g1014.symm))
  have ne1018 : r_986 ≠ b1014 := Nat.ne_of_lt (Nat.lt_of_lt_of_le f1012.lt (Nat.le_of_eq g1014.symm))
  have ne1019 : b_1003 ≠ b1014 := Nat.ne_of_lt (Nat.lt_of_lt_of_le w1003_3.lt (Nat.le_of_eq g1014.symm))
  have g1020 : n0 ≤ b1014 := Nat.le_trans (own_old O1013) (Nat.le_of_eq g1014.symm)
  have sf1021 : Safe Z own_EL T1003.vm h1003 b1014 := Safe.new (Nat.le_of_eq g1014.symm)
  have f1022 : Arv Z h1014 b924 k924 .char (3 : Int32) [(.int ((p2 &&& (255 : Int32)).toUInt32.toUInt16.toUInt32.toInt32)), (.int ((((p2.toUInt32 >>> ((8 : Int32) &&& 31).toUInt32).toInt32) &&& (255 : Int32)).toUInt32.toUInt16.toUInt32.toInt32)), (.int ((((p2.toUInt32 >>> ((16 : Int32) &&& 31).toUInt32).toInt32) &&& (255 : Int32)).toUInt32.toUInt16.toUInt32.toInt32))] (.int (0 : Int32)) := f1009.ext E1014
  have f1023 : Arv Z h1014 b944 k944 .char (3 : Int32) [(.int ((p3 &&& (255 : Int32)).toUInt32.toUInt16.toUInt32.toInt32)), (.int ((((p3.toUInt32 >>> ((8 : Int32) &&& 31).toUInt32).toInt32) &&& (255 : Int32)).toUInt32.toUInt16.toUInt32.toInt32)), (.int ((((p3.toUInt32 >>> ((16 : Int32) &&& 31).toUInt32).toInt32) &&& (255 : Int32)).toUInt32.toUInt16.toUInt32.toInt32))] (.int (0 : Int32)) := f1010.ext E1014
  have f1024 : Exa Z h1014 b973 "java/lang/String" := w1003_0.ext E1014
  have f1025 : Arv Z h1014 r_986 kr_986 .char (p0 &&& (3 : Int32)) (own_cl (p0 &&& (3 : Int32)) ((p2 &&& (255 : Int32)).toUInt32.toUInt16.toUInt32.toInt32) ((((p2.toUInt32 >>> ((8 : Int32) &&& 31).toUInt32).toInt32) &&& (255 : Int32)).toUInt32.toUInt16.toUInt32.toInt32) ((((p2.toUInt32 >>> ((16 : Int32) &&& 31).toUInt32).toInt32) &&& (255 : Int32)).toUInt32.toUInt16.toUInt32.toInt32)) (.int (0 : Int32)) := f1012.ext E1014
  have f1026 : Fld Z h1014 b973 "java/lang/String" "coder" "B" (.int (0 : Int32)) := w1003_1.ext E1014
  have f1027 : Fld Z h1014 b973 "java/lang/String" "value" "[B" (.ref b_1003) := w1003_2.ext E1014
  have f1028 : Arv Z h1014 b_1003 k_1003 .byte (p0 &&& (3 : Int32)) (own_bl (p0 &&& (3 : Int32)) ((p2 &&& (255 : Int32)).toUInt32.toUInt16.toUInt32.toInt32) ((((p2.toUInt32 >>> ((8 : Int32) &&& 31).toUInt32).toInt32) &&& (255 : Int32)).toUInt32.toUInt16.toUInt32.toInt32) ((((p2.toUInt32 >>> ((16 : Int32) &&& 31).toUInt32).toInt32) &&& (255 : Int32)).toUInt32.toUInt16.toUInt32.toInt32)) (.int (0 : Int32)) := w1003_3.ext E1014
  have sf1029 := Safe.ext E1014 CR.1 sf1005
  have sf1030 := Safe.ext E1014 CR.1 sf1006
  have sf1031 := Safe.ext E1014 CR.1 sf1007
  have sf1032 := Safe.ext E1014 CR.1 sf1008
  have sf1033 := Safe.ext E1014 CR.1 sf1021
  have CR := CR.trans (CHr.ext E1014 CR.1)
  have hk := Nat.le_trans hk E1014.1
  have O1034 := O1013.ext E1014
  have f1035 : Fld Z h1014 b1014 "java/lang/String" "value" "[B" .null := D1014 (Or.inr (hw _ (List.mem_of_getElem? (i := 20) rfl))) (ty := (.array .byte)) (by decide)
  have f1036 : Fld Z h1014 b1014 "java/lang/String" "coder" "B" (.int (0 : Int32)) := D1014 (Or.inr (hw _ (List.mem_of_getElem? (i := 21) rfl))) (ty := .byte) (by decide)
  show G (T1014.setTop (mkF me_ 111 #[.val (.int p0), .val (.int p1), .val (.int p2), .val (.int p3), .val (.int (p0 &&& (3 : Int32))), .val (.int (p1 &&& (3 : Int32))), .val (.ref b924), .val (.ref b944), .val (.ref b973), .unset, .unset, .unset] [(.ref b1014)]))
  refine gv (fun tQ kQ => XS.dup X1014.here hx rfl (hb hby at_111) rfl rfl kQ) ?_
  show G (T1014.setTop (mkF me_ 112 #[.val (.int p0), .val (.int p1), .val (.int p2), .val (.int p3), .val (.int (p0 &&& (3 : Int32))), .val (.int (p1 &&& (3 : Int32))), .val (.ref b924), .val (.ref b944), .val (.ref b973), .unset, .unset, .unset] [(.ref b1014), (.ref b1014)]))
  refine gv (fun tQ kQ => XS.aload X1014.here hx rfl (hb hby at_112) rfl rfl kQ) ?_
  show G (T1014.setTop (mkF me_ 114 #[.val (.int p0), .val (.int p1), .val (.int p2), .val (.int p3), .val (.int (p0 &&& (3 : Int32))), .val (.int (p1 &&& (3 : Int32))), .val (.ref b924), .val (.ref b944), .val (.ref b973), .unset, .unset, .unset] [(.ref b944), (.ref b1014), (.ref b1014)]))
  refine gv (fun tQ kQ => XS.iload X1014.here hx rfl (hb hby at_114) rfl kQ) ?_
  show G (T1014.setTop (mkF me_ 116 #[.val (.int p0), .val (.int p1), .val (.int p2), .val (.int p3), .val (.int (p0 &&& (3 : Int32))), .val (.int (p1 &&& (3 : Int32))), .val (.ref b924), .val (.ref b944), .val (.ref b973), .unset, .unset, .unset] [(.int (p1 &&& (3 : Int32))), (.ref b944), (.ref b1014), (.ref b1014)]))
  obtain ⟨_, _, ⟨T1037, L1037, k1037, n1037⟩, -, X1037, ⟨Lc1037, hQ1037, l1037, y1037, z1037⟩, st1037⟩ := Jvm.LawKit.callS X1014 hx (y := (⟨"com/example/dvalin/dvalin/ProblemToStringPinLaw", "take", "([CI)[C"⟩ : MethodName)) hown (mvT hZ (hw _ (List.mem_of_getElem? (i := 4) rfl))) (mvT hZ (hw _ (List.mem_of_getElem? (i := 5) rfl))) (mvT hZ (hw _ (List.mem_of_getElem? (i := 6) rfl))) (mvT hZ (hw _ (List.mem_of_getElem? (i := 7) rfl))) (by decide) (backOf (W := 2) (rm_tk l Z a0 hw [] b944 k944 (p1 &&& (3 : Int32)) ((p3 &&& (255 : Int32)).toUInt32.toUInt16.toUInt32.toInt32) ((((p3.toUInt32 >>> ((8 : Int32) &&& 31).toUInt32).toInt32) &&& (255 : Int32)).toUInt32.toUInt16.toUInt32.toInt32) ((((p3.toUInt32 >>> ((16 : Int32) &&& 31).toUInt32).toInt32) &&& (255 : Int32)).toUInt32.toUInt16.toUInt32.toInt32) h1014 n0 O1034 f1023 (own_and3 p1) (own_narC _) (own_narC _) (own_narC _)) hZ (hw _ (List.mem_of_getElem? (i := 7) rfl)) (hw _ (List.mem_of_getElem? (i := 6) rfl)) (by decide) (by decide)) (g := (mkF me_ 116 #[.val (.int p0), .val (.int p1), .val (.int p2), .val (.int p3), .val (.int (p0 &&& (3 : Int32))), .val (.int (p1 &&& (3 : Int32))), .val (.ref b924), .val (.ref b944), .val (.ref b973), .unset, .unset, .unset] [(.int (p1 &&& (3 : Int32))), (.ref b944), (.ref b1014), (.ref b1014)])) rfl (by rw [hml]; rfl) (argsL := [(.ref b944), (.int (p1 &&& (3 : Int32)))]) (rest := [(.ref b1014), (.ref b1014)]) (lenOf pd_25 rfl) rfl (by show 2 * 0 + _ ≤ _; exact Nat.le_of_eq rfl) (hb hby at_116) (fun _ _ => ⟨rfl, e1014, (by decide : 9 + 1 ≤ _), (by decide : 25 + 3 ≤ _)⟩)
  dsimp only [Pt.U, Pt.locs, Pt.cells, Pt.slots] at X1037 l1037 y1037 z1037 st1037 hQ1037
  subst l1037 y1037 z1037
  obtain ⟨r_1037, kr_1037, rfl, Nq1037, Kq1037, w1037_0, w1037_1⟩ := hQ1037
  have N1038 := Fr.app N1004 Nq1037
  obtain ⟨h1037, e1037⟩ : ∃ z, T1037.heap = z := ⟨_, rfl⟩
  rw [e1037] at Kq1037 w1037_1
  have sf1039 := Safe.keep Kq1037 sf0 CR.1 sf1029
  have sf1040 := Safe.keep Kq1037 sf0 CR.1 sf1030
  have sf1041 := Safe.keep Kq1037 sf0 CR.1 sf1031
  have sf1042 := Safe.keep Kq1037 sf0 CR.1 sf1032
  have sf1043 := Safe.keep Kq1037 sf0 CR.1 sf1033
  have ne1044 : b924 ≠ r_1037 := Nat.ne_of_lt (Nat.lt_of_lt_of_le f1022.lt w1037_0)
  have ne1045 : b944 ≠ r_1037 := Nat.ne_of_lt (Nat.lt_of_lt_of_le f1023.lt w1037_0)
  have ne1046 : b973 ≠ r_1037 := Nat.ne_of_lt (Nat.lt_of_lt_of_le f1024.lt w1037_0)
  have ne1047 : r_986 ≠ r_1037 := Nat.ne_of_lt (Nat.lt_of_lt_of_le f1025.lt w1037_0)
  have ne1048 : b_1003 ≠ r_1037 := Nat.ne_of_lt (Nat.lt_of_lt_of_le f1028.lt w1037_0)
  have ne1049 : b1014 ≠ r_1037 := Nat.ne_of_lt (Nat.lt_of_lt_of_le A1014.lt w1037_0)
  have g1050 : n0 ≤ r_1037 := Nat.le_trans (own_old O1034) w1037_0
  have sf1051 : Safe Z own_EL T1003.vm h1014 r_1037 := Safe.new w1037_0
  have sf1052 := Safe.keep Kq1037 sf0 CR.1 sf1051
  have CR := CR.trans (CHr.keep Kq1037 sf0 CR.1)
  have hk := Nat.le_trans hk Kq1037.1
  have f1053 : Arv Z h1037 b924 k924 .char (3 : Int32) [(.int ((p2 &&& (255 : Int32)).toUInt32.toUInt16.toUInt32.toInt32)), (.int ((((p2.toUInt32 >>> ((8 : Int32) &&& 31).toUInt32).toInt32) &&& (255 : Int32)).toUInt32.toUInt16.toUInt32.toInt32)), (.int ((((p2.toUInt32 >>> ((16 : Int32) &&& 31).toUInt32).toInt32) &&& (255 : Int32)).toUInt32.toUInt16.toUInt32.toInt32))] (.int (0 : Int32)) := f1022.keep Kq1037 nin0
  have f1054 : Arv Z h1037 b944 k944 .char (3 : Int32) [(.int ((p3 &&& (255 : Int32)).toUInt32.toUInt16.toUInt32.toInt32)), (.int ((((p3.toUInt32 >>> ((8 : Int32) &&& 31).toUInt32).toInt32) &&& (255 : Int32)).toUInt32.toUInt16.toUInt32.toInt32)), (.int ((((p3.toUInt32 >>> ((16 : Int32) &&& 31).toUInt32).toInt32) &&& (255 : Int32)).toUInt32.toUInt16.toUInt32.toInt32))] (.int (0 : Int32)) := f1023.keep Kq1037 nin0
  have f1055 : Exa Z h1037 b973 "java/lang/String" := f1024.keep Kq1037
  have f1056 : Arv Z h1037 r_986 kr_986 .char (p0 &&& (3 : Int32)) (own_cl (p0 &&& (3 : Int32)) ((p2 &&& (255 : Int32)).toUInt32.toUInt16.toUInt32.toInt32) ((((p2.toUInt32 >>> ((8 : Int32) &&& 31).toUInt32).toInt32) &&& (255 : Int32)).toUInt32.toUInt16.toUInt32.toInt32) ((((p2.toUInt32 >>> ((16 : Int32) &&& 31).toUInt32).toInt32) &&& (255 : Int32)).toUInt32.toUInt16.toUInt32.toInt32)) (.int (0 : Int32)) := f1025.keep Kq1037 nin0
  have f1057 : Fld Z h1037 b973 "java/lang/String" "coder" "B" (.int (0 : Int32)) := f1026.keep Kq1037 nin0
  have f1058 : Fld Z h1037 b973 "java/lang/String" "value" "[B" (.ref b_1003) := f1027.keep Kq1037 nin0
  have f1059 : Arv Z h1037 b_1003 k_1003 .byte (p0 &&& (3 : Int32)) (own_bl (p0 &&& (3 : Int32)) ((p2 &&& (255 : Int32)).toUInt32.toUInt16.toUInt32.toInt32) ((((p2.toUInt32 >>> ((8 : Int32) &&& 31).toUInt32).toInt32) &&& (255 : Int32)).toUInt32.toUInt16.toUInt32.toInt32) ((((p2.toUInt32 >>> ((16 : Int32) &&& 31).toUInt32).toInt32) &&& (255 : Int32)).toUInt32.toUInt16.toUInt32.toInt32)) (.int (0 : Int32)) := f1028.keep Kq1037 nin0
  have f1060 : Exa Z h1037 b1014 "java/lang/String" := A1014.keep Kq1037
  have f1061 : Fld Z h1037 b1014 "java/lang/String" "value" "[B" .null := f1035.keep Kq1037 nin0
  have f1062 : Fld Z h1037 b1014 "java/lang/String" "coder" "B" (.int (0 : Int32)) := f1036.keep Kq1037 nin0
  have O1063 := O1034.keep Kq1037 all0
  refine gv st1037 ?_
  show G (T1037.setTop (mkF me_ 119 #[.val (.int p0), .val (.int p1), .val (.int p2), .val (.int p3), .val (.int (p0 &&& (3 : Int32))), .val (.int (p1 &&& (3 : Int32))), .val (.ref b924), .val (.ref b944), .val (.ref b973), .unset, .unset, .unset] [(.ref r_1037), (.ref b1014), (.ref b1014)]))
  obtain ⟨_, _, ⟨T1064, L1064, k1064, n1064⟩, -, X1064, hS1064, hg1064, ⟨Lc1064, hQ1064, l1064, y1064, z1064, CRn1064⟩, st1064⟩ := X1037.specialBackS hx (y := (⟨"java/lang/String", "<init>", "([C)V"⟩ : MethodName)) rfl hown (mvT hZ (hw _ (List.mem_of_getElem? (i := 8) rfl))) (mvT hZ (hw _ (List.mem_of_getElem? (i := 9) rfl))) (mvT hZ (hw _ (List.mem_of_getElem? (i := 10) rfl))) (by decide) (own_backH (W := 1) (rm_scg l Z a0 hw [] b1014 r_1037 kr_1037 (p1 &&& (3 : Int32)) ((p3 &&& (255 : Int32)).toUInt32.toUInt16.toUInt32.toInt32) ((((p3.toUInt32 >>> ((8 : Int32) &&& 31).toUInt32).toInt32) &&& (255 : Int32)).toUInt32.toUInt16.toUInt32.toInt32) ((((p3.toUInt32 >>> ((16 : Int32) &&& 31).toUInt32).toInt32) &&& (255 : Int32)).toUInt32.toUInt16.toUInt32.toInt32) cs h1037 n0 O1063 u0 u1 (own_lt255 _) (own_lt255 _) (own_lt255 _) (own_and3 p1) f1060 f1061 f1062 g1020 w1037_1 ne1049) hZ (hw _ (List.mem_of_getElem? (i := 10) rfl)) (hw _ (List.mem_of_getElem? (i := 3) rfl)) (by decide) (by decide) hEL CR.1 (own_sfS f1060.lt sf1043 own_sf0)) (g := (mkF me_ 119 #[.val (.int p0), .val (.int p1), .val (.int p2), .val (.int p3), .val (.int (p0 &&& (3 : Int32))), .val (.int (p1 &&& (3 : Int32))), .val (.ref b924), .val (.ref b944), .val (.ref b973), .unset, .unset, .unset] [(.ref r_1037), (.ref b1014), (.ref b1014)])) rfl (by rw [hml]; rfl) (Steps.refl _) (a := b1014) (argsL := [(.ref r_1037)]) (rest := [(.ref b1014)]) (lenOf pd_26 rfl) rfl (by show 2 * 0 + _ ≤ _; exact Nat.le_of_eq rfl) (hb hby at_119) (fun _ _ => ⟨rfl, e1037, (by decide : 10 + 4 ≤ _), (by decide : 28 + 8 ≤ _)⟩)
  dsimp only [Pt.U, Pt.locs, Pt.cells, Pt.slots] at X1064 l1064 y1064 z1064 st1064 hQ1064 hS1064 hg1064 CRn1064
  subst l1064 y1064 z1064
  have hS := foldS hS (by rw [e1037]; exact hk) hS1064 hg1064
  have hZ : Z.Warmed39 T1064.vm := State.Warmed39.trans (t := st_.setVm T1003.vm) hZ hS1064.1
  have hown : T1064.vm.findClass "com/example/dvalin/dvalin/ProblemToStringPinLaw" = some me_.cls := by rw [hS1064.1.alike.findClass]; exact hown
  have X1064 : Stand pr_ l en_ _ (st_.setVm T1064.vm) me_ _ below meth_ co_ T1064 _ _ _ := X1064
  obtain ⟨b_1064, k_1064, rfl, Nq1064, Kq1064, w1064_0, w1064_1, w1064_2, w1064_3⟩ := hQ1064
  have N1065 := Fr.app N1038 Nq1064
  obtain ⟨h1064, e1064⟩ : ∃ z, T1064.heap = z := ⟨_, rfl⟩
  rw [e1064] at Kq1064 CRn1064 w1064_0 w1064_1 w1064_2 w1064_3
  have sf1066 := CRn1064.safe f1053.lt sf1039
  have sf1067 := CRn1064.safe f1054.lt sf1040
  have sf1068 := CRn1064.safe f1055.lt sf1041
  have sf1069 := CRn1064.safe f1056.lt sf1042
  have sf1070 := CRn1064.safe f1060.lt sf1043
  have sf1071 := CRn1064.safe w1037_1.lt sf1052
  have CR := CR.trans CRn1064
  obtain ⟨kk1064, hkk1064⟩ : ∃ z, z = T1064.heap.size := ⟨_, rfl⟩
  rw [← hkk1064] at hS
  have hk : kk1064 ≤ h1064.size := by rw [hkk1064, e1064]; exact Nat.le_refl _
  have f1072 : Arv Z h1064 b924 k924 .char (3 : Int32) [(.int ((p2 &&& (255 : Int32)).toUInt32.toUInt16.toUInt32.toInt32)), (.int ((((p2.toUInt32 >>> ((8 : Int32) &&& 31).toUInt32).toInt32) &&& (255 : Int32)).toUInt32.toUInt16.toUInt32.toInt32)), (.int ((((p2.toUInt32 >>> ((16 : Int32) &&& 31).toUInt32).toInt32) &&& (255 : Int32)).toUInt32.toUInt16.toUInt32.toInt32))] (.int (0 : Int32)) := f1053.keep Kq1064 (ninS ne1015 nin0)
  have f1073 : Arv Z h1064 b944 k944 .char (3 : Int32) [(.int ((p3 &&& (255 : Int32)).toUInt32.toUInt16.toUInt32.toInt32)), (.int ((((p3.toUInt32 >>> ((8 : Int32) &&& 31).toUInt32).toInt32) &&& (255 : Int32)).toUInt32.toUInt16.toUInt32.toInt32)), (.int ((((p3.toUInt32 >>> ((16 : Int32) &&& 31).toUInt32).toInt32) &&& (255 : Int32)).toUInt32.toUInt16.toUInt32.toInt32))] (.int (0 : Int32)) := f1054.keep Kq1064 (ninS ne1016 nin0)
  have f1074 : Exa Z h1064 b973 "java/lang/String" := f1055.keep Kq1064
  have f1075 : Arv Z h1064 r_986 kr_986 .char (p0 &&& (3 : Int32)) (own_cl (p0 &&& (3 : Int32)) ((p2 &&& (255 : Int32)).toUInt32.toUInt16.toUInt32.toInt32) ((((p2.toUInt32 >>> ((8 : Int32) &&& 31).toUInt32).toInt32) &&& (255 : Int32)).toUInt32.toUInt16.toUInt32.toInt32) ((((p2.toUInt32 >>> ((16 : Int32) &&& 31).toUInt32).toInt32) &&& (255 : Int32)).toUInt32.toUInt16.toUInt32.toInt32)) (.int (0 : Int32)) := f1056.keep Kq1064 (ninS ne1018 nin0)
  have f1076 : Fld Z h1064 b973 "java/lang/String" "coder" "B" (.int (0 : Int32)) := f1057.keep Kq1064 (ninS ne1017 nin0)
  have f1077 : Fld Z h1064 b973 "java/lang/String" "value" "[B" (.ref b_1003) := f1058.keep Kq1064 (ninS ne1017 nin0)
  have f1078 : Arv Z h1064 b_1003 k_1003 .byte (p0 &&& (3 : Int32)) (own_bl (p0 &&& (3 : Int32)) ((p2 &&& (255 : Int32)).toUInt32.toUInt16.toUInt32.toInt32) ((((p2.toUInt32 >>> ((8 : Int32) &&& 31).toUInt32).toInt32) &&& (255 : Int32)).toUInt32.toUInt16.toUInt32.toInt32) ((((p2.toUInt32 >>> ((16 : Int32) &&& 31).toUInt32).toInt32) &&& (255 : Int32)).toUInt32.toUInt16.toUInt32.toInt32)) (.int (0 : Int32)) := f1059.keep Kq1064 (ninS ne1019 nin0)
  have f1079 : Exa Z h1064 b1014 "java/lang/String" := f1060.keep Kq1064
  have f1080 : Arv Z h1064 r_1037 kr_1037 .char (p1 &&& (3 : Int32)) (own_cl (p1 &&& (3 : Int32)) ((p3 &&& (255 : Int32)).toUInt32.toUInt16.toUInt32.toInt32) ((((p3.toUInt32 >>> ((8 : Int32) &&& 31).toUInt32).toInt32) &&& (255 : Int32)).toUInt32.toUInt16.toUInt32.toInt32) ((((p3.toUInt32 >>> ((16 : Int32) &&& 31).toUInt32).toInt32) &&& (255 : Int32)).toUInt32.toUInt16.toUInt32.toInt32)) (.int (0 : Int32)) := w1037_1.keep Kq1064 (ninS (Ne.symm ne1049) nin0)
  have O1081 := O1063.keep Kq1064 (allS g1020 all0)
  refine gv (fun tQ kQ => st1064.trans kQ) ?_
  show G (T1064.setTop (mkF me_ 122 #[.val (.int p0), .val (.int p1), .val (.int p2), .val (.int p3), .val (.int (p0 &&& (3 : Int32))), .val (.int (p1 &&& (3 : Int32))), .val (.ref b924), .val (.ref b944), .val (.ref b973), .unset, .unset, .unset] [(.ref b1014)]))
  refine gv (fun tQ kQ => XS.astore X1064.here hx rfl (hb hby at_122) rfl rfl (l' := #[.val (.int p0), .val (.int p1), .val (.int p2), .val (.int p3), .val (.int (p0 &&& (3 : Int32))), .val (.int (p1 &&& (3 : Int32))), .val (.ref b924), .val (.ref b944), .val (.ref b973), .val (.ref b1014), .unset, .unset]) rfl kQ) ?_
  show G (T1064.setTop (mkF me_ 124 #[.val (.int p0), .val (.int p1), .val (.int p2), .val (.int p3), .val (.int (p0 &&& (3 : Int32))), .val (.int (p1 &&& (3 : Int32))), .val (.ref b924), .val (.ref b944), .val (.ref b973), .val (.ref b1014), .unset, .unset] []))
  obtain ⟨T1082, h1082, X1082, e1082, E1082, A1082, D1082, -, st1082⟩ := newO X1064 hx hZ hown (hw _ (List.mem_of_getElem? (i := 37) rfl)) (hw _ (List.mem_of_getElem? (i := 38) rfl)) (hw _ (List.mem_of_getElem? (i := 39) rfl)) e1064 (g := (mkF me_ 124 #[.val (.int p0), .val (.int p1), .val (.int p2), .val (.int p3), .val (.int (p0 &&& (3 : Int32))), .val (.int (p1 &&& (3 : Int32))), .val (.ref b924), .val (.ref b944), .val (.ref b973), .val (.ref b1014), .unset, .unset] [])) rfl (hb hby at_124) (by decide) (by decide)
  obtain ⟨b1082, g1082⟩ : ∃ z, z = h1064.size := ⟨_, rfl⟩
  rw [← g1082] at A1082 D1082 st1082
  refine gv st1082 ?_
  have ne1083 : b924 ≠ b1082 := Nat.ne_of_lt (Nat.lt_of_lt_of_le f1072.lt (Nat.le_of_eq g1082.symm))
  have ne1084 : b944 ≠ b1082 := Nat.ne_of_lt (Nat.lt_of_lt_of_le f1073.lt (Nat.le_of_eq g1082.symm))
  have ne1085 : b973 ≠ b1082 := Nat.ne_of_lt (Nat.lt_of_lt_of_le f1074.lt (Nat.le_of_eq g1082.symm))
  have ne1086 : r_986 ≠ b1082 := Nat.ne_of_lt (Nat.lt_of_lt_of_le f1075.lt (Nat.le_of_eq g1082.symm))
  have ne1087 : b_1003 ≠ b1082 := Nat.ne_of_lt (Nat.lt_of_lt_of_le f1078.lt (Nat.le_of_eq g1082.symm))
  have ne1088 : b1014 ≠ b1082 := Nat.ne_of_lt (Nat.lt_of_lt_of_le w1064_0.lt (Nat.le_of_eq g1082.symm))
  have ne1089 : r_1037 ≠ b1082 := Nat.ne_of_lt (Nat.lt_of_lt_of_le f1080.lt (Nat.le_of_eq g1082.symm))
  have ne1090 : b_1064 ≠ b1082 := Nat.ne_of_lt (Nat.lt_of_lt_of_le w1064_3.lt (Nat.le_of_eq g1082.symm))
  have g1091 : n0 ≤ b1082 := Nat.le_trans (own_old O1081) (Nat.le_of_eq g1082.symm)
  have sf1092 : Safe Z own_EL T1064.vm h1064 b1082 := Safe.new (Nat.le_of_eq g1082.symm)
  have f1093 : Arv Z h1082 b924 k924 .char (3 : Int32) [(.int ((p2 &&& (255 : Int32)).toUInt32.toUInt16.toUInt32.toInt32)), (.int ((((p2.toUInt32 >>> ((8 : Int32) &&& 31).toUInt32).toInt32) &&& (255 : Int32)).toUInt32.toUInt16.toUInt32.toInt32)), (.int ((((p2.toUInt32 >>> ((16 : Int32) &&& 31).toUInt32).toInt32) &&& (255 : Int32)).toUInt32.toUInt16.toUInt32.toInt32))] (.int (0 : Int32)) := f1072.ext E1082
  have f1094 : Arv Z h1082 b944 k944 .char (3 : Int32) [(.int ((p3 &&& (255 : Int32)).toUInt32.toUInt16.toUInt32.toInt32)), (.int ((((p3.toUInt32 >>> ((8 : Int32) &&& 31).toUInt32).toInt32) &&& (255 : Int32)).toUInt32.toUInt16.toUInt32.toInt32)), (.int ((((p3.toUInt32 >>> ((16 : Int32) &&& 31).toUInt32).toInt32) &&& (255 : Int32)).toUInt32.toUInt16.toUInt32.toInt32))] (.int (0 : Int32)) := f1073.ext E1082
  have f1095 : Exa Z h1082 b973 "java/lang/String" := f1074.ext E1082
  have f1096 : Arv Z h1082 r_986 kr_986 .char (p0 &&& (3 : Int32)) (own_cl (p0 &&& (3 : Int32)) ((p2 &&& (255 : Int32)).toUInt32.toUInt16.toUInt32.toInt32) ((((p2.toUInt32 >>> ((8 : Int32) &&& 31).toUInt32).toInt32) &&& (255 : Int32)).toUInt32.toUInt16.toUInt32.toInt32) ((((p2.toUInt32 >>> ((16 : Int32) &&& 31).toUInt32).toInt32) &&& (255 : Int32)).toUInt32.toUInt16.toUInt32.toInt32)) (.int (0 : Int32)) := f1075.ext E1082
  have f1097 : Fld Z h1082 b973 "java/lang/String" "coder" "B" (.int (0 : Int32)) := f1076.ext E1082
  have f1098 : Fld Z h1082 b973 "java/lang/String" "value" "[B" (.ref b_1003) := f1077.ext E1082
  have f1099 : Arv Z h1082 b_1003 k_1003 .byte (p0 &&& (3 : Int32)) (own_bl (p0 &&& (3 : Int32)) ((p2 &&& (255 : Int32)).toUInt32.toUInt16.toUInt32.toInt32) ((((p2.toUInt32 >>> ((8 : Int32) &&& 31).toUInt32).toInt32) &&& (255 : Int32)).toUInt32.toUInt16.toUInt32.toInt32) ((((p2.toUInt32 >>> ((16 : Int32) &&& 31).toUInt32).toInt32) &&& (255 : Int32)).toUInt32.toUInt16.toUInt32.toInt32)) (.int (0 : Int32)) := f1078.ext E1082
  have f1100 : Exa Z h1082 b1014 "java/lang/String" := w1064_0.ext E1082
  have f1101 : Arv Z h1082 r_1037 kr_1037 .char (p1 &&& (3 : Int32)) (own_cl (p1 &&& (3 : Int32)) ((p3 &&& (255 : Int32)).toUInt32.toUInt16.toUInt32.toInt32) ((((p3.toUInt32 >>> ((8 : Int32) &&& 31).toUInt32).toInt32) &&& (255 : Int32)).toUInt32.toUInt16.toUInt32.toInt32) ((((p3.toUInt32 >>> ((16 : Int32) &&& 31).toUInt32).toInt32) &&& (255 : Int32)).toUInt32.toUInt16.toUInt32.toInt32)) (.int (0 : Int32)) := f1080.ext E1082
  have f1102 : Fld Z h1082 b1014 "java/lang/String" "coder" "B" (.int (0 : Int32)) := w1064_1.ext E1082
  have f1103 : Fld Z h1082 b1014 "java/lang/String" "value" "[B" (.ref b_1064) := w1064_2.ext E1082
  have f1104 : Arv Z h1082 b_1064 k_1064 .byte (p1 &&& (3 : Int32)) (own_bl (p1 &&& (3 : Int32)) ((p3 &&& (255 : Int32)).toUInt32.toUInt16.toUInt32.toInt32) ((((p3.toUInt32 >>> ((8 : Int32) &&& 31).toUInt32).toInt32) &&& (255 : Int32)).toUInt32.toUInt16.toUInt32.toInt32) ((((p3.toUInt32 >>> ((16 : Int32) &&& 31).toUInt32).toInt32) &&& (255 : Int32)).toUInt32.toUInt16.toUInt32.toInt32)) (.int (0 : Int32)) := w1064_3.ext E1082
  have sf1105 := Safe.ext E1082 CR.1 sf1066
  have sf1106 := Safe.ext E1082 CR.1 sf1067
  have sf1107 := Safe.ext E1082 CR.1 sf1068
  have sf1108 := Safe.ext E1082 CR.1 sf1069
  have sf1109 := Safe.ext E1082 CR.1 sf1070
  have sf1110 := Safe.ext E1082 CR.1 sf1071
  have sf1111 := Safe.ext E1082 CR.1 sf1092
  have CR := CR.trans (CHr.ext E1082 CR.1)
  have hk := Nat.le_trans hk E1082.1
  have O1112 := O1081.ext E1082
  have f1113 : Fld Z h1082 b1082 "com/example/dvalin/dvalin/RegistryException$Problem" "location" "Ljava/lang/String;" .null := D1082 (Or.inr (hw _ (List.mem_of_getElem? (i := 56) rfl))) (ty := (.object "java/lang/String")) (by decide)
  have f1114 : Fld Z h1082 b1082 "com/example/dvalin/dvalin/RegistryException$Problem" "message" "Ljava/lang/String;" .null := D1082 (Or.inr (hw _ (List.mem_of_getElem? (i := 58) rfl))) (ty := (.object "java/lang/String")) (by decide)
  show G (T1082.setTop (mkF me_ 127 #[.val (.int p0), .val (.int p1), .val (.int p2), .val (.int p3), .val (.int (p0 &&& (3 : Int32))), .val (.int (p1 &&& (3 : Int32))), .val (.ref b924), .val (.ref b944), .val (.ref b973), .val (.ref b1014), .unset, .unset] [(.ref b1082)]))
  refine gv (fun tQ kQ => XS.dup X1082.here hx rfl (hb hby at_127) rfl rfl kQ) ?_
  show G (T1082.setTop (mkF me_ 128 #[.val (.int p0), .val (.int p1), .val (.int p2), .val (.int p3), .val (.int (p0 &&& (3 : Int32))), .val (.int (p1 &&& (3 : Int32))), .val (.ref b924), .val (.ref b944), .val (.ref b973), .val (.ref b1014), .unset, .unset] [(.ref b1082), (.ref b1082)]))
  refine gv (fun tQ kQ => XS.aload X1082.here hx rfl (hb hby at_128) rfl rfl kQ) ?_
  show G (T1082.setTop (mkF me_ 130 #[.val (.int p0), .val (.int p1), .val (.int p2), .val (.int p3), .val (.int (p0 &&& (3 : Int32))), .val (.int (p1 &&& (3 : Int32))), .val (.ref b924), .val (.ref b944), .val (.ref b973), .val (.ref b1014), .unset, .unset] [(.ref b973), (.ref b1082), (.ref b1082)]))
  refine gv (fun tQ kQ => XS.aload X1082.here hx rfl (hb hby at_130) rfl rfl kQ) ?_
  show G (T1082.setTop (mkF me_ 132 #[.val (.int p0), .val (.int p1), .val (.int p2), .val (.int p3), .val (.int (p0 &&& (3 : Int32))), .val (.int (p1 &&& (3 : Int32))), .val (.ref b924), .val (.ref b944), .val (.ref b973), .val (.ref b1014), .unset, .unset] [(.ref b1014), (.ref b973), (.ref b1082), (.ref b1082)]))
  obtain ⟨_, _, ⟨T1115, L1115, k1115, n1115⟩, -, X1115, hS1115, hg1115, ⟨Lc1115, hQ1115, l1115, y1115, z1115, CRn1115⟩, st1115⟩ := X1082.specialBackS hx (y := (⟨"com/example/dvalin/dvalin/RegistryException$Problem", "<init>", "(Ljava/lang/String;Ljava/lang/String;)V"⟩ : MethodName)) rfl hown (mvT hZ (hw _ (List.mem_of_getElem? (i := 40) rfl))) (mvT hZ (hw _ (List.mem_of_getElem? (i := 41) rfl))) (mvT hZ (hw _ (List.mem_of_getElem? (i := 42) rfl))) (by decide) (own_backH (W := 1) (rm_pi l Z a0 hw [] b1082 b973 b1014 h1082 n0 O1112 A1082 f1113 f1114 g1091) hZ (hw _ (List.mem_of_getElem? (i := 42) rfl)) (hw _ (List.mem_of_getElem? (i := 39) rfl)) (by decide) (by decide) hEL CR.1 own_sf0) (g := (mkF me_ 132 #[.val (.int p0), .val (.int p1), .val (.int p2), .val (.int p3), .val (.int (p0 &&& (3 : Int32))), .val (.int (p1 &&& (3 : Int32))), .val (.ref b924), .val (.ref b944), .val (.ref b973), .val (.ref b1014), .unset, .unset] [(.ref b1014), (.ref b973), (.ref b1082), (.ref b1082)])) rfl (by rw [hml]; rfl) (Steps.refl _) (a := b1082) (argsL := [(.ref b973), (.ref b1014)]) (rest := [(.ref b1082)]) (lenOf pd_27 rfl) rfl (by show 2 * 0 + _ ≤ _; exact Nat.le_of_eq rfl) (hb hby at_132) (fun _ _ => ⟨rfl, e1082, (by decide : 15 + 4 ≤ _), (by decide : 38 + 68 ≤ _)⟩)
  dsimp only [Pt.U, Pt.locs, Pt.cells, Pt.slots] at X1115 l1115 y1115 z1115 st1115 hQ1115 hS1115 hg1115 CRn1115
  subst l1115 y1115 z1115
  have hS := foldS hS (by rw [e1082]; exact hk) hS1115 hg1115
  have hZ : Z.Warmed39 T1115.vm := State.Warmed39.trans (t := st_.setVm T1064.vm) hZ hS1115.1
  have hown : T1115.vm.findClass "com/example/dvalin/dvalin/ProblemToStringPinLaw" = some me_.cls := by rw [hS1115.1.alike.findClass]; exact hown
  have X1115 : Stand pr_ l en_ _ (st_.setVm T1115.vm) me_ _ below meth_ co_ T1115 _ _ _ := X1115
  obtain ⟨rfl, Nq1115, Kq1115, w1115_0, w1115_1, w1115_2⟩ := hQ1115
  have N1116 := Fr.app N1065 Nq1115
  obtain ⟨h1115, e1115⟩ : ∃ z, T1115.heap = z := ⟨_, rfl⟩
  rw [e1115] at Kq1115 CRn1115 w1115_0 w1115_1 w1115_2
  have sf1117 := CRn1115.safe f1093.lt sf1105
  have sf1118 := CRn1115.safe f1094.lt sf1106
  have sf1119 := CRn1115.safe f1095.lt sf1107
  have sf1120 := CRn1115.safe f1096.lt sf1108
  have sf1121 := CRn1115.safe f1100.lt sf1109
  have sf1122 := CRn1115.safe f1101.lt sf1110
  have sf1123 := CRn1115.safe A1082.lt sf1111
  have CR := CR.trans CRn1115
  obtain ⟨kk1115, hkk1115⟩ : ∃ z, z = T1115.heap.size := ⟨_, rfl⟩
  rw [← hkk1115] at hS
  have hk : kk1115 ≤ h1115.size := by rw [hkk1115, e1115]; exact Nat.le_refl _
  have f1124 : Arv Z h1115 b924 k924 .char (3 : Int32) [(.int ((p2 &&& (255 : Int32)).toUInt32.toUInt16.toUInt32.toInt32)), (.int ((((p2.toUInt32 >>> ((8 : Int32) &&& 31).toUInt32).toInt32) &&& (255 : Int32)).toUInt32.toUInt16.toUInt32.toInt32)), (.int ((((p2.toUInt32 >>> ((16 : Int32) &&& 31).toUInt32).toInt32) &&& (255 : Int32)).toUInt32.toUInt16.toUInt32.toInt32))] (.int (0 : Int32)) := f1093.keep Kq1115 (ninS ne1083 nin0)
  have f1125 : Arv Z h1115 b944 k944 .char (3 : Int32) [(.int ((p3 &&& (255 : Int32)).toUInt32.toUInt16.toUInt32.toInt32)), (.int ((((p3.toUInt32 >>> ((8 : Int32) &&& 31).toUInt32).toInt32) &&& (255 : Int32)).toUInt32.toUInt16.toUInt32.toInt32)), (.int ((((p3.toUInt32 >>> ((16 : Int32) &&& 31).toUInt32).toInt32) &&& (255 : Int32)).toUInt32.toUInt16.toUInt32.toInt32))] (.int (0 : Int32)) := f1094.keep Kq1115 (ninS ne1084 nin0)
  have f1126 : Exa Z h1115 b973 "java/lang/String" := f1095.keep Kq1115
  have f1127 : Arv Z h1115 r_986 kr_986 .char (p0 &&& (3 : Int32)) (own_cl (p0 &&& (3 : Int32)) ((p2 &&& (255 : Int32)).toUInt32.toUInt16.toUInt32.toInt32) ((((p2.toUInt32 >>> ((8 : Int32) &&& 31).toUInt32).toInt32) &&& (255 : Int32)).toUInt32.toUInt16.toUInt32.toInt32) ((((p2.toUInt32 >>> ((16 : Int32) &&& 31).toUInt32).toInt32) &&& (255 : Int32)).toUInt32.toUInt16.toUInt32.toInt32)) (.int (0 : Int32)) := f1096.keep Kq1115 (ninS ne1086 nin0)
  have f1128 : Fld Z h1115 b973 "java/lang/String" "coder" "B" (.int (0 : Int32)) := f1097.keep Kq1115 (ninS ne1085 nin0)
  have f1129 : Fld Z h1115 b973 "java/lang/String" "value" "[B" (.ref b_1003) := f1098.keep Kq1115 (ninS ne1085 nin0)
  have f1130 : Arv Z h1115 b_1003 k_1003 .byte (p0 &&& (3 : Int32)) (own_bl (p0 &&& (3 : Int32)) ((p2 &&& (255 : Int32)).toUInt32.toUInt16.toUInt32.toInt32) ((((p2.toUInt32 >>> ((8 : Int32) &&& 31).toUInt32).toInt32) &&& (255 : Int32)).toUInt32.toUInt16.toUInt32.toInt32) ((((p2.toUInt32 >>> ((16 : Int32) &&& 31).toUInt32).toInt32) &&& (255 : Int32)).toUInt32.toUInt16.toUInt32.toInt32)) (.int (0 : Int32)) := f1099.keep Kq1115 (ninS ne1087 nin0)
  have f1131 : Exa Z h1115 b1014 "java/lang/String" := f1100.keep Kq1115
  have f1132 : Arv Z h1115 r_1037 kr_1037 .char (p1 &&& (3 : Int32)) (own_cl (p1 &&& (3 : Int32)) ((p3 &&& (255 : Int32)).toUInt32.toUInt16.toUInt32.toInt32) ((((p3.toUInt32 >>> ((8 : Int32) &&& 31).toUInt32).toInt32) &&& (255 : Int32)).toUInt32.toUInt16.toUInt32.toInt32) ((((p3.toUInt32 >>> ((16 : Int32) &&& 31).toUInt32).toInt32) &&& (255 : Int32)).toUInt32.toUInt16.toUInt32.toInt32)) (.int (0 : Int32)) := f1101.keep Kq1115 (ninS ne1089 nin0)
  have f1133 : Fld Z h1115 b1014 "java/lang/String" "coder" "B" (.int (0 : Int32)) := f1102.keep Kq1115 (ninS ne1088 nin0)
  have f1134 : Fld Z h1115 b1014 "java/lang/String" "value" "[B" (.ref b_1064) := f1103.keep Kq1115 (ninS ne1088 nin0)
  have f1135 : Arv Z h1115 b_1064 k_1064 .byte (p1 &&& (3 : Int32)) (own_bl (p1 &&& (3 : Int32)) ((p3 &&& (255 : Int32)).toUInt32.toUInt16.toUInt32.toInt32) ((((p3.toUInt32 >>> ((8 : Int32) &&& 31).toUInt32).toInt32) &&& (255 : Int32)).toUInt32.toUInt16.toUInt32.toInt32) ((((p3.toUInt32 >>> ((16 : Int32) &&& 31).toUInt32).toInt32) &&& (255 : Int32)).toUInt32.toUInt16.toUInt32.toInt32)) (.int (0 : Int32)) := f1104.keep Kq1115 (ninS ne1090 nin0)
  have f1136 : Exa Z h1115 b1082 "com/example/dvalin/dvalin/RegistryException$Problem" := A1082.keep Kq1115
  have O1137 := O1112.keep Kq1115 (allS g1091 all0)
  refine gv (fun tQ kQ => st1115.trans kQ) ?_
  show G (T1115.setTop (mkF me_ 135 #[.val (.int p0), .val (.int p1), .val (.int p2), .val (.int p3), .val (.int (p0 &&& (3 : Int32))), .val (.int (p1 &&& (3 : Int32))), .val (.ref b924), .val (.ref b944), .val (.ref b973), .val (.ref b1014), .unset, .unset] [(.ref b1082)]))
  refine gv (fun tQ kQ => XS.astore X1115.here hx rfl (hb hby at_135) rfl rfl (l' := #[.val (.int p0), .val (.int p1), .val (.int p2), .val (.int p3), .val (.int (p0 &&& (3 : Int32))), .val (.int (p1 &&& (3 : Int32))), .val (.ref b924), .val (.ref b944), .val (.ref b973), .val (.ref b1014), .val (.ref b1082), .unset]) rfl kQ) ?_
  show G (T1115.setTop (mkF me_ 137 #[.val (.int p0), .val (.int p1), .val (.int p2), .val (.int p3), .val (.int (p0 &&& (3 : Int32))), .val (.int (p1 &&& (3 : Int32))), .val (.ref b924), .val (.ref b944), .val (.ref b973), .val (.ref b1014), .val (.ref b1082), .unset] []))
  refine gv (fun tQ kQ => XS.aload X1115.here hx rfl (hb hby at_137) rfl rfl kQ) ?_
  show G (T1115.setTop (mkF me_ 139 #[.val (.int p0), .val (.int p1), .val (.int p2), .val (.int p3), .val (.int (p0 &&& (3 : Int32))), .val (.int (p1 &&& (3 : Int32))), .val (.ref b924), .val (.ref b944), .val (.ref b973), .val (.ref b1014), .val (.ref b1082), .unset] [(.ref b1082)]))
  obtain ⟨cq1138, kq1138, q1138a, q1138b, q1138c⟩ := isOf hZ e1115 w1115_0
  obtain ⟨_, _, ⟨T1138, L1138, k1138, n1138⟩, -, X1138, hS1138, hg1138, ⟨Lc1138, hQ1138, l1138, y1138, z1138, CRn1138⟩, st1138⟩ := X1115.virtualBackS hx (y := (⟨"com/example/dvalin/dvalin/RegistryException$Problem", "toString", "()Ljava/lang/String;"⟩ : MethodName)) (z := (⟨"com/example/dvalin/dvalin/RegistryException$Problem", "toString", "()Ljava/lang/String;"⟩ : MethodName)) hown (mvT hZ (hw _ (List.mem_of_getElem? (i := 59) rfl))) (mvT hZ (hw _ (List.mem_of_getElem? (i := 60) rfl))) (notFace_of_selects (args := #[]) (mvT hZ (hw _ (List.mem_of_getElem? (i := 62) rfl)))) (mvT hZ (hw _ (List.mem_of_getElem? (i := 62) rfl))) (mvT hZ (hw _ (List.mem_of_getElem? (i := 61) rfl))) (by decide) (own_backH (W := 0) (rm_pts l Z a0 hw [] b1082 b973 b_1003 k_1003 (p0 &&& (3 : Int32)) (own_bl (p0 &&& (3 : Int32)) ((p2 &&& (255 : Int32)).toUInt32.toUInt16.toUInt32.toInt32) ((((p2.toUInt32 >>> ((8 : Int32) &&& 31).toUInt32).toInt32) &&& (255 : Int32)).toUInt32.toUInt16.toUInt32.toInt32) ((((p2.toUInt32 >>> ((16 : Int32) &&& 31).toUInt32).toInt32) &&& (255 : Int32)).toUInt32.toUInt16.toUInt32.toInt32)) b1014 b_1064 k_1064 (p1 &&& (3 : Int32)) (own_bl (p1 &&& (3 : Int32)) ((p3 &&& (255 : Int32)).toUInt32.toUInt16.toUInt32.toInt32) ((((p3.toUInt32 >>> ((8 : Int32) &&& 31).toUInt32).toInt32) &&& (255 : Int32)).toUInt32.toUInt16.toUInt32.toInt32) ((((p3.toUInt32 >>> ((16 : Int32) &&& 31).toUInt32).toInt32) &&& (255 : Int32)).toUInt32.toUInt16.toUInt32.toInt32)) cs h1115 n0 O1137 u0 u1 w1115_0 w1115_1 w1115_2 f1126 f1128 f1129 f1130 f1131 f1133 f1134 f1135 (own_and3 p0) (own_and3 p1)) hZ (hw _ (List.mem_of_getElem? (i := 63) rfl)) (hw _ (List.mem_of_getElem? (i := 39) rfl)) (by decide) (by decide) hEL CR.1 own_sf0) q1138a q1138c (g := (mkF me_ 139 #[.val (.int p0), .val (.int p1), .val (.int p2), .val (.int p3), .val (.int (p0 &&& (3 : Int32))), .val (.int (p1 &&& (3 : Int32))), .val (.ref b924), .val (.ref b944), .val (.ref b973), .val (.ref b1014), .val (.ref b1082), .unset] [(.ref b1082)])) rfl (by rw [hml]; rfl) (Steps.refl _) (argsL := []) (rest := []) (lenOf pd_21 rfl) rfl (by show 2 * 0 + _ ≤ _; exact Nat.le_of_eq rfl) (hb hby at_139) (fun _ _ => ⟨rfl, e1115, (by decide : 19 + 6 ≤ _), (by decide : 106 + 52 ≤ _)⟩)
  dsimp only [Pt.U, Pt.locs, Pt.cells, Pt.slots] at X1138 l1138 y1138 z1138 st1138 hQ1138 hS1138 hg1138 CRn1138
  subst l1138 y1138 z1138
  have hS := foldS hS (by rw [e1115]; exact hk) hS1138 hg1138
  have hZ : Z.Warmed39 T1138.vm := State.Warmed39.trans (t := st_.setVm T1115.vm) hZ hS1138.1
  have hown : T1138.vm.findClass "com/example/dvalin/dvalin/ProblemToStringPinLaw" = some me_.cls := by rw [hS1138.1.alike.findClass]; exact hown
  have X1138 : Stand pr_ l en_ _ (st_.setVm T1138.vm) me_ _ below meth_ co_ T1138 _ _ _ := X1138
  obtain ⟨s_1138, r_1138, kr_1138, rfl, Nq1138, Kq1138, w1138_0, w1138_1, w1138_2, w1138_3, w1138_4, w1138_5⟩ := hQ1138
  have N1139 := Fr.app N1116 Nq1138
  obtain ⟨h1138, e1138⟩ : ∃ z, T1138.heap = z := ⟨_, rfl⟩
  rw [e1138] at Kq1138 CRn1138 w1138_2 w1138_3 w1138_4 w1138_5
  have sf1140 := CRn1138.safe f1124.lt sf1117
  have sf1141 := CRn1138.safe f1125.lt sf1118
  have sf1142 := CRn1138.safe f1126.lt sf1119
  have sf1143 := CRn1138.safe f1127.lt sf1120
  have sf1144 := CRn1138.safe f1131.lt sf1121
  have sf1145 := CRn1138.safe f1132.lt sf1122
  have sf1146 := CRn1138.safe w1115_0.lt sf1123
  have ne1147 : b924 ≠ s_1138 := Nat.ne_of_lt (Nat.lt_of_lt_of_le f1124.lt w1138_0)
  have ne1148 : b944 ≠ s_1138 := Nat.ne_of_lt (Nat.lt_of_lt_of_le f1125.lt w1138_0)
  have ne1149 : b973 ≠ s_1138 := Nat.ne_of_lt (Nat.lt_of_lt_of_le f1126.lt w1138_0)
  have ne1150 : r_986 ≠ s_1138 := Nat.ne_of_lt (Nat.lt_of_lt_of_le f1127.lt w1138_0)
  have ne1151 : b_1003 ≠ s_1138 := Nat.ne_of_lt (Nat.lt_of_lt_of_le f1130.lt w1138_0)
  have ne1152 : b1014 ≠ s_1138 := Nat.ne_of_lt (Nat.lt_of_lt_of_le f1131.lt w1138_0)
  have ne1153 : r_1037 ≠ s_1138 := Nat.ne_of_lt (Nat.lt_of_lt_of_le f1132.lt w1138_0)
  have ne1154 : b_1064 ≠ s_1138 := Nat.ne_of_lt (Nat.lt_of_lt_of_le f1135.lt w1138_0)
  have ne1155 : b1082 ≠ s_1138 := Nat.ne_of_lt (Nat.lt_of_lt_of_le w1115_0.lt w1138_0)
  have g1156 : n0 ≤ s_1138 := Nat.le_trans (own_old O1137) w1138_0
  have sf1157 : Safe Z own_EL T1115.vm h1115 s_1138 := Safe.new w1138_0
  have ne1158 : b924 ≠ r_1138 := Nat.ne_of_lt (Nat.lt_of_lt_of_le f1124.lt w1138_1)
  have ne1159 : b944 ≠ r_1138 := Nat.ne_of_lt (Nat.lt_of_lt_of_le f1125.lt w1138_1)
  have ne1160 : b973 ≠ r_1138 := Nat.ne_of_lt (Nat.lt_of_lt_of_le f1126.lt w1138_1)
  have ne1161 : r_986 ≠ r_1138 := Nat.ne_of_lt (Nat.lt_of_lt_of_le f1127.lt w1138_1)
  have ne1162 : b_1003 ≠ r_1138 := Nat.ne_of_lt (Nat.lt_of_lt_of_le f1130.lt w1138_1)
  have ne1163 : b1014 ≠ r_1138 := Nat.ne_of_lt (Nat.lt_of_lt_of_le f1131.lt w1138_1)
  have ne1164 : r_1037 ≠ r_1138 := Nat.ne_of_lt (Nat.lt_of_lt_of_le f1132.lt w1138_1)
  have ne1165 : b_1064 ≠ r_1138 := Nat.ne_of_lt (Nat.lt_of_lt_of_le f1135.lt w1138_1)
  have ne1166 : b1082 ≠ r_1138 := Nat.ne_of_lt (Nat.lt_of_lt_of_le w1115_0.lt w1138_1)
  have g1167 : n0 ≤ r_1138 := Nat.le_trans (own_old O1137) w1138_1
  have sf1168 : Safe Z own_EL T1115.vm h1115 r_1138 := Safe.new w1138_1
  have CR := CR.trans CRn1138
  obtain ⟨kk1138, hkk1138⟩ : ∃ z, z = T1138.heap.size := ⟨_, rfl⟩
  rw [← hkk1138] at hS
  have hk : kk1138 ≤ h1138.size := by rw [hkk1138, e1138]; exact Nat.le_refl _
  have f1171 : Arv Z h1138 b924 k924 .char (3 : Int32) [(.int ((p2 &&& (255 : Int32)).toUInt32.toUInt16.toUInt32.toInt32)), (.int ((((p2.toUInt32 >>> ((8 : Int32) &&& 31).toUInt32).toInt32) &&& (255 : Int32)).toUInt32.toUInt16.toUInt32.toInt32)), (.int ((((p2.toUInt32 >>> ((16 : Int32) &&& 31).toUInt32).toInt32) &&& (255 : Int32)).toUInt32.toUInt16.toUInt32.toInt32))] (.int (0 : Int32)) := f1124.keep Kq1138 nin0
  have f1172 : Arv Z h1138 b944 k944 .char (3 : Int32) [(.int ((p3 &&& (255 : Int32)).toUInt32.toUInt16.toUInt32.toInt32)), (.int ((((p3.toUInt32 >>> ((8 : Int32) &&& 31).toUInt32).toInt32) &&& (255 : Int32)).toUInt32.toUInt16.toUInt32.toInt32)), (.int ((((p3.toUInt32 >>> ((16 : Int32) &&& 31).toUInt32).toInt32) &&& (255 : Int32)).toUInt32.toUInt16.toUInt32.toInt32))] (.int (0 : Int32)) := f1125.keep Kq1138 nin0
  have f1173 : Exa Z h1138 b973 "java/lang/String" := f1126.keep Kq1138
  have f1174 : Arv Z h1138 r_986 kr_986 .char (p0 &&& (3 : Int32)) (own_cl (p0 &&& (3 : Int32)) ((p2 &&& (255 : Int32)).toUInt32.toUInt16.toUInt32.toInt32) ((((p2.toUInt32 >>> ((8 : Int32) &&& 31).toUInt32).toInt32) &&& (255 : Int32)).toUInt32.toUInt16.toUInt32.toInt32) ((((p2.toUInt32 >>> ((16 : Int32) &&& 31).toUInt32).toInt32) &&& (255 : Int32)).toUInt32.toUInt16.toUInt32.toInt32)) (.int (0 : Int32)) := f1127.keep Kq1138 nin0
  have f1175 : Fld Z h1138 b973 "java/lang/String" "coder" "B" (.int (0 : Int32)) := f1128.keep Kq1138 nin0
  have f1176 : Fld Z h1138 b973 "java/lang/String" "value" "[B" (.ref b_1003) := f1129.keep Kq1138 nin0
  have f1177 : Arv Z h1138 b_1003 k_1003 .byte (p0 &&& (3 : Int32)) (own_bl (p0 &&& (3 : Int32)) ((p2 &&& (255 : Int32)).toUInt32.toUInt16.toUInt32.toInt32) ((((p2.toUInt32 >>> ((8 : Int32) &&& 31).toUInt32).toInt32) &&& (255 : Int32)).toUInt32.toUInt16.toUInt32.toInt32) ((((p2.toUInt32 >>> ((16 : Int32) &&& 31).toUInt32).toInt32) &&& (255 : Int32)).toUInt32.toUInt16.toUInt32.toInt32)) (.int (0 : Int32)) := f1130.keep Kq1138 nin0
  have f1178 : Exa Z h1138 b1014 "java/lang/String" := f1131.keep Kq1138
  have f1179 : Arv Z h1138 r_1037 kr_1037 .char (p1 &&& (3 : Int32)) (own_cl (p1 &&& (3 : Int32)) ((p3 &&& (255 : Int32)).toUInt32.toUInt16.toUInt32.toInt32) ((((p3.toUInt32 >>> ((8 : Int32) &&& 31).toUInt32).toInt32) &&& (255 : Int32)).toUInt32.toUInt16.toUInt32.toInt32) ((((p3.toUInt32 >>> ((16 : Int32) &&& 31).toUInt32).toInt32) &&& (255 : Int32)).toUInt32.toUInt16.toUInt32.toInt32)) (.int (0 : Int32)) := f1132.keep Kq1138 nin0
  have f1180 : Fld Z h1138 b1014 "java/lang/String" "coder" "B" (.int (0 : Int32)) := f1133.keep Kq1138 nin0
  have f1181 : Fld Z h1138 b1014 "java/lang/String" "value" "[B" (.ref b_1064) := f1134.keep Kq1138 nin0
  have f1182 : Arv Z h1138 b_1064 k_1064 .byte (p1 &&& (3 : Int32)) (own_bl (p1 &&& (3 : Int32)) ((p3 &&& (255 : Int32)).toUInt32.toUInt16.toUInt32.toInt32) ((((p3.toUInt32 >>> ((8 : Int32) &&& 31).toUInt32).toInt32) &&& (255 : Int32)).toUInt32.toUInt16.toUInt32.toInt32) ((((p3.toUInt32 >>> ((16 : Int32) &&& 31).toUInt32).toInt32) &&& (255 : Int32)).toUInt32.toUInt16.toUInt32.toInt32)) (.int (0 : Int32)) := f1135.keep Kq1138 nin0
  have f1183 : Exa Z h1138 b1082 "com/example/dvalin/dvalin/RegistryException$Problem" := w1115_0.keep Kq1138
  have f1184 : Fld Z h1138 b1082 "com/example/dvalin/dvalin/RegistryException$Problem" "location" "Ljava/lang/String;" (.ref b973) := w1115_1.keep Kq1138 nin0
  have f1185 : Fld Z h1138 b1082 "com/example/dvalin/dvalin/RegistryException$Problem" "message" "Ljava/lang/String;" (.ref b1014) := w1115_2.keep Kq1138 nin0
  have O1186 := O1137.keep Kq1138 all0
  refine gv (fun tQ kQ => st1138.trans kQ) ?_
  show G (T1138.setTop (mkF me_ 142 #[.val (.int p0), .val (.int p1), .val (.int p2), .val (.int p3), .val (.int (p0 &&& (3 : Int32))), .val (.int (p1 &&& (3 : Int32))), .val (.ref b924), .val (.ref b944), .val (.ref b973), .val (.ref b1014), .val (.ref b1082), .unset] [(.ref s_1138)]))
  refine gv (fun tQ kQ => XS.astore X1138.here hx rfl (hb hby at_142) rfl rfl (l' := #[.val (.int p0), .val (.int p1), .val (.int p2), .val (.int p3), .val (.int (p0 &&& (3 : Int32))), .val (.int (p1 &&& (3 : Int32))), .val (.ref b924), .val (.ref b944), .val (.ref b973), .val (.ref b1014), .val (.ref b1082), .val (.ref s_1138)]) rfl kQ) ?_
  show G (T1138.setTop (mkF me_ 144 #[.val (.int p0), .val (.int p1), .val (.int p2), .val (.int p3), .val (.int (p0 &&& (3 : Int32))), .val (.int (p1 &&& (3 : Int32))), .val (.ref b924), .val (.ref b944), .val (.ref b973), .val (.ref b1014), .val (.ref b1082), .val (.ref s_1138)] []))
  refine gv (fun tQ kQ => XS.aload X1138.here hx rfl (hb hby at_144) rfl rfl kQ) ?_
  show G (T1138.setTop (mkF me_ 146 #[.val (.int p0), .val (.int p1), .val (.int p2), .val (.int p3), .val (.int (p0 &&& (3 : Int32))), .val (.int (p1 &&& (3 : Int32))), .val (.ref b924), .val (.ref b944), .val (.ref b973), .val (.ref b1014), .val (.ref b1082), .val (.ref s_1138)] [(.ref s_1138)]))
  refine gv (fun tQ kQ => XS.ifnonnullYes X1138.here hx rfl (pc0 := 146) (pc' := 151) rfl (hb hby at_146) rfl (by decide) (by decide) kQ) ?_
  show G (T1138.setTop (mkF me_ 151 #[.val (.int p0), .val (.int p1), .val (.int p2), .val (.int p3), .val (.int (p0 &&& (3 : Int32))), .val (.int (p1 &&& (3 : Int32))), .val (.ref b924), .val (.ref b944), .val (.ref b973), .val (.ref b1014), .val (.ref b1082), .val (.ref s_1138)] []))
  refine gv (fun tQ kQ => XS.aload X1138.here hx rfl (hb hby at_151) rfl rfl kQ) ?_
  show G (T1138.setTop (mkF me_ 153 #[.val (.int p0), .val (.int p1), .val (.int p2), .val (.int p3), .val (.int (p0 &&& (3 : Int32))), .val (.int (p1 &&& (3 : Int32))), .val (.ref b924), .val (.ref b944), .val (.ref b973), .val (.ref b1014), .val (.ref b1082), .val (.ref s_1138)] [(.ref s_1138)]))
  obtain ⟨cq1187, kq1187, q1187a, q1187b, q1187c⟩ := isOf hZ e1138 w1138_2
  obtain ⟨_, _, ⟨T1187, L1187, k1187, n1187⟩, -, X1187, ⟨Lc1187, hQ1187, l1187, y1187, z1187⟩, st1187⟩ := X1138.virtualBack hx (y := (⟨"java/lang/String", "length", "()I"⟩ : MethodName)) (z := (⟨"java/lang/String", "length", "()I"⟩ : MethodName)) hown (mvT hZ (hw _ (List.mem_of_getElem? (i := 175) rfl))) (mvT hZ (hw _ (List.mem_of_getElem? (i := 93) rfl))) (notFace_of_selects (args := #[]) (mvT hZ (hw _ (List.mem_of_getElem? (i := 95) rfl)))) (mvT hZ (hw _ (List.mem_of_getElem? (i := 95) rfl))) (mvT hZ (hw _ (List.mem_of_getElem? (i := 94) rfl))) (by decide) (backOf (W := 0) (rm_len l Z a0 hw [] s_1138 r_1138 kr_1138 ((((0 : Int32) + (p0 &&& (3 : Int32))) + (2 : Int32)) + (p1 &&& (3 : Int32))) (own_V (p0 &&& (3 : Int32)) (p1 &&& (3 : Int32)) (own_bl (p0 &&& (3 : Int32)) ((p2 &&& (255 : Int32)).toUInt32.toUInt16.toUInt32.toInt32) ((((p2.toUInt32 >>> ((8 : Int32) &&& 31).toUInt32).toInt32) &&& (255 : Int32)).toUInt32.toUInt16.toUInt32.toInt32) ((((p2.toUInt32 >>> ((16 : Int32) &&& 31).toUInt32).toInt32) &&& (255 : Int32)).toUInt32.toUInt16.toUInt32.toInt32)) (own_bl (p1 &&& (3 : Int32)) ((p3 &&& (255 : Int32)).toUInt32.toUInt16.toUInt32.toInt32) ((((p3.toUInt32 >>> ((8 : Int32) &&& 31).toUInt32).toInt32) &&& (255 : Int32)).toUInt32.toUInt16.toUInt32.toInt32) ((((p3.toUInt32 >>> ((16 : Int32) &&& 31).toUInt32).toInt32) &&& (255 : Int32)).toUInt32.toUInt16.toUInt32.toInt32))) cs h1138 n0 O1186 u0 u1 w1138_2 w1138_3 w1138_4 w1138_5) hZ (hw _ (List.mem_of_getElem? (i := 96) rfl)) (hw _ (List.mem_of_getElem? (i := 3) rfl)) (by decide) (by decide)) q1187a q1187c (g := (mkF me_ 153 #[.val (.int p0), .val (.int p1), .val (.int p2), .val (.int p3), .val (.int (p0 &&& (3 : Int32))), .val (.int (p1 &&& (3 : Int32))), .val (.ref b924), .val (.ref b944), .val (.ref b973), .val (.ref b1014), .val (.ref b1082), .val (.ref s_1138)] [(.ref s_1138)])) rfl (by rw [hml]; rfl) (Steps.refl _) (argsL := []) (rest := []) (lenOf pd_3 rfl) rfl (by show 2 * 0 + _ ≤ _; exact Nat.le_of_eq rfl) (hb hby at_153) (fun _ _ => ⟨rfl, e1138, (by decide : 25 + 0 ≤ _), (by decide : 158 + 0 ≤ _)⟩)
  dsimp only [Pt.U, Pt.locs, Pt.cells, Pt.slots] at X1187 l1187 y1187 z1187 st1187 hQ1187
  subst l1187 y1187 z1187
  obtain ⟨rfl, Nq1187, eq1187⟩ := hQ1187
  have N1188 := Fr.app N1139 Nq1187
  refine gv (fun tQ kQ => st1187.trans kQ) ?_
  show G (T1187.setTop (mkF me_ 156 #[.val (.int p0), .val (.int p1), .val (.int p2), .val (.int p3), .val (.int (p0 &&& (3 : Int32))), .val (.int (p1 &&& (3 : Int32))), .val (.ref b924), .val (.ref b944), .val (.ref b973), .val (.ref b1014), .val (.ref b1082), .val (.ref s_1138)] [(.int ((((0 : Int32) + (p0 &&& (3 : Int32))) + (2 : Int32)) + (p1 &&& (3 : Int32))))]))
  refine gv (fun tQ kQ => XS.iload X1187.here hx rfl (hb hby at_156) rfl kQ) ?_
  show G (T1187.setTop (mkF me_ 158 #[.val (.int p0), .val (.int p1), .val (.int p2), .val (.int p3), .val (.int (p0 &&& (3 : Int32))), .val (.int (p1 &&& (3 : Int32))), .val (.ref b924), .val (.ref b944), .val (.ref b973), .val (.ref b1014), .val (.ref b1082), .val (.ref s_1138)] [(.int (p0 &&& (3 : Int32))), (.int ((((0 : Int32) + (p0 &&& (3 : Int32))) + (2 : Int32)) + (p1 &&& (3 : Int32))))]))
  refine gv (fun tQ kQ => XS.iconst X1187.here hx rfl (hb hby at_158) kQ) ?_
  show G (T1187.setTop (mkF me_ 159 #[.val (.int p0), .val (.int p1), .val (.int p2), .val (.int p3), .val (.int (p0 &&& (3 : Int32))), .val (.int (p1 &&& (3 : Int32))), .val (.ref b924), .val (.ref b944), .val (.ref b973), .val (.ref b1014), .val (.ref b1082), .val (.ref s_1138)] [(.int (2 : Int32)), (.int (p0 &&& (3 : Int32))), (.int ((((0 : Int32) + (p0 &&& (3 : Int32))) + (2 : Int32)) + (p1 &&& (3 : Int32))))]))
  refine gv (fun tQ kQ => XS.iadd X1187.here hx rfl (hb hby at_159) rfl kQ) ?_
  show G (T1187.setTop (mkF me_ 160 #[.val (.int p0), .val (.int p1), .val (.int p2), .val (.int p3), .val (.int (p0 &&& (3 : Int32))), .val (.int (p1 &&& (3 : Int32))), .val (.ref b924), .val (.ref b944), .val (.ref b973), .val (.ref b1014), .val (.ref b1082), .val (.ref s_1138)] [(.int ((p0 &&& (3 : Int32)) + (2 : Int32))), (.int ((((0 : Int32) + (p0 &&& (3 : Int32))) + (2 : Int32)) + (p1 &&& (3 : Int32))))]))
  refine gv (fun tQ kQ => XS.iload X1187.here hx rfl (hb hby at_160) rfl kQ) ?_
  show G (T1187.setTop (mkF me_ 162 #[.val (.int p0), .val (.int p1), .val (.int p2), .val (.int p3), .val (.int (p0 &&& (3 : Int32))), .val (.int (p1 &&& (3 : Int32))), .val (.ref b924), .val (.ref b944), .val (.ref b973), .val (.ref b1014), .val (.ref b1082), .val (.ref s_1138)] [(.int (p1 &&& (3 : Int32))), (.int ((p0 &&& (3 : Int32)) + (2 : Int32))), (.int ((((0 : Int32) + (p0 &&& (3 : Int32))) + (2 : Int32)) + (p1 &&& (3 : Int32))))]))
  refine gv (fun tQ kQ => XS.iadd X1187.here hx rfl (hb hby at_162) rfl kQ) ?_
  show G (T1187.setTop (mkF me_ 163 #[.val (.int p0), .val (.int p1), .val (.int p2), .val (.int p3), .val (.int (p0 &&& (3 : Int32))), .val (.int (p1 &&& (3 : Int32))), .val (.ref b924), .val (.ref b944), .val (.ref b973), .val (.ref b1014), .val (.ref b1082), .val (.ref s_1138)] [(.int (((p0 &&& (3 : Int32)) + (2 : Int32)) + (p1 &&& (3 : Int32)))), (.int ((((0 : Int32) + (p0 &&& (3 : Int32))) + (2 : Int32)) + (p1 &&& (3 : Int32))))]))
  refine gv (fun tQ kQ => XS.icmpYes X1187.here hx rfl (pc0 := 163) (pc' := 168) rfl (hb hby at_163) rfl (teq (own_l0 _ _)).1 (by decide) (by decide) kQ) ?_
  show G (T1187.setTop (mkF me_ 168 #[.val (.int p0), .val (.int p1), .val (.int p2), .val (.int p3), .val (.int (p0 &&& (3 : Int32))), .val (.int (p1 &&& (3 : Int32))), .val (.ref b924), .val (.ref b944), .val (.ref b973), .val (.ref b1014), .val (.ref b1082), .val (.ref s_1138)] []))
  refine gv (fun tQ kQ => XS.aload X1187.here hx rfl (hb hby at_168) rfl rfl kQ) ?_
  show G (T1187.setTop (mkF me_ 170 #[.val (.int p0), .val (.int p1), .val (.int p2), .val (.int p3), .val (.int (p0 &&& (3 : Int32))), .val (.int (p1 &&& (3 : Int32))), .val (.ref b924), .val (.ref b944), .val (.ref b973), .val (.ref b1014), .val (.ref b1082), .val (.ref s_1138)] [(.ref s_1138)]))
  refine gv (fun tQ kQ => XS.iconst X1187.here hx rfl (hb hby at_170) kQ) ?_
  show G (T1187.setTop (mkF me_ 171 #[.val (.int p0), .val (.int p1), .val (.int p2), .val (.int p3), .val (.int (p0 &&& (3 : Int32))), .val (.int (p1 &&& (3 : Int32))), .val (.ref b924), .val (.ref b944), .val (.ref b973), .val (.ref b1014), .val (.ref b1082), .val (.ref s_1138)] [(.int (0 : Int32)), (.ref s_1138)]))
  refine gv (fun tQ kQ => XS.iload X1187.here hx rfl (hb hby at_171) rfl kQ) ?_
  show G (T1187.setTop (mkF me_ 173 #[.val (.int p0), .val (.int p1), .val (.int p2), .val (.int p3), .val (.int (p0 &&& (3 : Int32))), .val (.int (p1 &&& (3 : Int32))), .val (.ref b924), .val (.ref b944), .val (.ref b973), .val (.ref b1014), .val (.ref b1082), .val (.ref s_1138)] [(.int (p0 &&& (3 : Int32))), (.int (0 : Int32)), (.ref s_1138)]))
  refine gv (fun tQ kQ => XS.aload X1187.here hx rfl (hb hby at_173) rfl rfl kQ) ?_
  show G (T1187.setTop (mkF me_ 175 #[.val (.int p0), .val (.int p1), .val (.int p2), .val (.int p3), .val (.int (p0 &&& (3 : Int32))), .val (.int (p1 &&& (3 : Int32))), .val (.ref b924), .val (.ref b944), .val (.ref b973), .val (.ref b1014), .val (.ref b1082), .val (.ref s_1138)] [(.ref b924), (.int (p0 &&& (3 : Int32))), (.int (0 : Int32)), (.ref s_1138)]))
  refine gv (fun tQ kQ => XS.iload X1187.here hx rfl (hb hby at_175) rfl kQ) ?_
  show G (T1187.setTop (mkF me_ 177 #[.val (.int p0), .val (.int p1), .val (.int p2), .val (.int p3), .val (.int (p0 &&& (3 : Int32))), .val (.int (p1 &&& (3 : Int32))), .val (.ref b924), .val (.ref b944), .val (.ref b973), .val (.ref b1014), .val (.ref b1082), .val (.ref s_1138)] [(.int (p1 &&& (3 : Int32))), (.ref b924), (.int (p0 &&& (3 : Int32))), (.int (0 : Int32)), (.ref s_1138)]))
  refine gv (fun tQ kQ => XS.aload X1187.here hx rfl (hb hby at_177) rfl rfl kQ) ?_
  show G (T1187.setTop (mkF me_ 179 #[.val (.int p0), .val (.int p1), .val (.int p2), .val (.int p3), .val (.int (p0 &&& (3 : Int32))), .val (.int (p1 &&& (3 : Int32))), .val (.ref b924), .val (.ref b944), .val (.ref b973), .val (.ref b1014), .val (.ref b1082), .val (.ref s_1138)] [(.ref b944), (.int (p1 &&& (3 : Int32))), (.ref b924), (.int (p0 &&& (3 : Int32))), (.int (0 : Int32)), (.ref s_1138)]))
  obtain ⟨_, _, ⟨T1189, L1189, k1189, n1189⟩, -, X1189, ⟨Lc1189, hQ1189, l1189, y1189, z1189⟩, st1189⟩ := Jvm.LawKit.callS X1187 hx (y := (⟨"com/example/dvalin/dvalin/ProblemToStringPinLaw", "at", "(Ljava/lang/String;II[CI[C)Z"⟩ : MethodName)) hown (mvT hZ (hw _ (List.mem_of_getElem? (i := 176) rfl))) (mvT hZ (hw _ (List.mem_of_getElem? (i := 177) rfl))) (mvT hZ (hw _ (List.mem_of_getElem? (i := 6) rfl))) (mvT hZ (hw _ (List.mem_of_getElem? (i := 178) rfl))) (by decide) (backOf (W := 0) (rm_at l Z a0 hw [] s_1138 r_1138 kr_1138 ((((0 : Int32) + (p0 &&& (3 : Int32))) + (2 : Int32)) + (p1 &&& (3 : Int32))) (own_V (p0 &&& (3 : Int32)) (p1 &&& (3 : Int32)) (own_bl (p0 &&& (3 : Int32)) ((p2 &&& (255 : Int32)).toUInt32.toUInt16.toUInt32.toInt32) ((((p2.toUInt32 >>> ((8 : Int32) &&& 31).toUInt32).toInt32) &&& (255 : Int32)).toUInt32.toUInt16.toUInt32.toInt32) ((((p2.toUInt32 >>> ((16 : Int32) &&& 31).toUInt32).toInt32) &&& (255 : Int32)).toUInt32.toUInt16.toUInt32.toInt32)) (own_bl (p1 &&& (3 : Int32)) ((p3 &&& (255 : Int32)).toUInt32.toUInt16.toUInt32.toInt32) ((((p3.toUInt32 >>> ((8 : Int32) &&& 31).toUInt32).toInt32) &&& (255 : Int32)).toUInt32.toUInt16.toUInt32.toInt32) ((((p3.toUInt32 >>> ((16 : Int32) &&& 31).toUInt32).toInt32) &&& (255 : Int32)).toUInt32.toUInt16.toUInt32.toInt32))) (0 : Int32) (p0 &&& (3 : Int32)) b924 k924 (p1 &&& (3 : Int32)) b944 k944 ((p2 &&& (255 : Int32)).toUInt32.toUInt16.toUInt32.toInt32) ((((p2.toUInt32 >>> ((8 : Int32) &&& 31).toUInt32).toInt32) &&& (255 : Int32)).toUInt32.toUInt16.toUInt32.toInt32) ((((p2.toUInt32 >>> ((16 : Int32) &&& 31).toUInt32).toInt32) &&& (255 : Int32)).toUInt32.toUInt16.toUInt32.toInt32) ((p3 &&& (255 : Int32)).toUInt32.toUInt16.toUInt32.toInt32) ((((p3.toUInt32 >>> ((8 : Int32) &&& 31).toUInt32).toInt32) &&& (255 : Int32)).toUInt32.toUInt16.toUInt32.toInt32) ((((p3.toUInt32 >>> ((16 : Int32) &&& 31).toUInt32).toInt32) &&& (255 : Int32)).toUInt32.toUInt16.toUInt32.toInt32) cs fmt h1138 n0 O1186 u0 u1 u2 u3 w1138_2 w1138_3 w1138_4 w1138_5 f1171 f1172 (by decide) (own_and3 p0) (own_and3 p1) (own_text (own_and3 p0) (own_and3 p1) _ _ _ _ _ _) (⟨own_byl _, own_byl _, own_byl _, own_byl _, own_byl _, own_byl _⟩)) hZ (hw _ (List.mem_of_getElem? (i := 178) rfl)) (hw _ (List.mem_of_getElem? (i := 6) rfl)) (by decide) (by decide)) (g := (mkF me_ 179 #[.val (.int p0), .val (.int p1), .val (.int p2), .val (.int p3), .val (.int (p0 &&& (3 : Int32))), .val (.int (p1 &&& (3 : Int32))), .val (.ref b924), .val (.ref b944), .val (.ref b973), .val (.ref b1014), .val (.ref b1082), .val (.ref s_1138)] [(.ref b944), (.int (p1 &&& (3 : Int32))), (.ref b924), (.int (p0 &&& (3 : Int32))), (.int (0 : Int32)), (.ref s_1138)])) rfl (by rw [hml]; rfl) (argsL := [(.ref s_1138), (.int (0 : Int32)), (.int (p0 &&& (3 : Int32))), (.ref b924), (.int (p1 &&& (3 : Int32))), (.ref b944)]) (rest := []) (lenOf pd_28 rfl) rfl (by show 2 * 0 + _ ≤ _; exact Nat.le_of_eq rfl) (hb hby at_179) (fun _ _ => ⟨rfl, eq1187, (by decide : 25 + 0 ≤ _), (by decide : 158 + 0 ≤ _)⟩)
  dsimp only [Pt.U, Pt.locs, Pt.cells, Pt.slots] at X1189 l1189 y1189 z1189 st1189 hQ1189
  subst l1189 y1189 z1189
  obtain ⟨rfl, Nq1189, eq1189⟩ := hQ1189
  have N1190 := Fr.app N1188 Nq1189
  refine gv st1189 ?_
  show G (T1189.setTop (mkF me_ 182 #[.val (.int p0), .val (.int p1), .val (.int p2), .val (.int p3), .val (.int (p0 &&& (3 : Int32))), .val (.int (p1 &&& (3 : Int32))), .val (.ref b924), .val (.ref b944), .val (.ref b973), .val (.ref b1014), .val (.ref b1082), .val (.ref s_1138)] [(.int (1 : Int32))]))
  refine gv (fun tQ kQ => XS.ifNo X1189.here hx rfl (hb hby at_182) rfl ((if0 _ _).trans (feq (by decide : ¬ ((1 : Int32) = (0 : Int32)))).1) kQ) ?_
  show G (T1189.setTop (mkF me_ 185 #[.val (.int p0), .val (.int p1), .val (.int p2), .val (.int p3), .val (.int (p0 &&& (3 : Int32))), .val (.int (p1 &&& (3 : Int32))), .val (.ref b924), .val (.ref b944), .val (.ref b973), .val (.ref b1014), .val (.ref b1082), .val (.ref s_1138)] []))
  refine gv (fun tQ kQ => XS.aload X1189.here hx rfl (hb hby at_185) rfl rfl kQ) ?_
  show G (T1189.setTop (mkF me_ 187 #[.val (.int p0), .val (.int p1), .val (.int p2), .val (.int p3), .val (.int (p0 &&& (3 : Int32))), .val (.int (p1 &&& (3 : Int32))), .val (.ref b924), .val (.ref b944), .val (.ref b973), .val (.ref b1014), .val (.ref b1082), .val (.ref s_1138)] [(.ref s_1138)]))
  refine gv (fun tQ kQ => XS.iconst X1189.here hx rfl (hb hby at_187) kQ) ?_
  show G (T1189.setTop (mkF me_ 188 #[.val (.int p0), .val (.int p1), .val (.int p2), .val (.int p3), .val (.int (p0 &&& (3 : Int32))), .val (.int (p1 &&& (3 : Int32))), .val (.ref b924), .val (.ref b944), .val (.ref b973), .val (.ref b1014), .val (.ref b1082), .val (.ref s_1138)] [(.int (1 : Int32)), (.ref s_1138)]))
  refine gv (fun tQ kQ => XS.iload X1189.here hx rfl (hb hby at_188) rfl kQ) ?_
  show G (T1189.setTop (mkF me_ 190 #[.val (.int p0), .val (.int p1), .val (.int p2), .val (.int p3), .val (.int (p0 &&& (3 : Int32))), .val (.int (p1 &&& (3 : Int32))), .val (.ref b924), .val (.ref b944), .val (.ref b973), .val (.ref b1014), .val (.ref b1082), .val (.ref s_1138)] [(.int (p0 &&& (3 : Int32))), (.int (1 : Int32)), (.ref s_1138)]))
  refine gv (fun tQ kQ => XS.aload X1189.here hx rfl (hb hby at_190) rfl rfl kQ) ?_
  show G (T1189.setTop (mkF me_ 192 #[.val (.int p0), .val (.int p1), .val (.int p2), .val (.int p3), .val (.int (p0 &&& (3 : Int32))), .val (.int (p1 &&& (3 : Int32))), .val (.ref b924), .val (.ref b944), .val (.ref b973), .val (.ref b1014), .val (.ref b1082), .val (.ref s_1138)] [(.ref b924), (.int (p0 &&& (3 : Int32))), (.int (1 : Int32)), (.ref s_1138)]))
  refine gv (fun tQ kQ => XS.iload X1189.here hx rfl (hb hby at_192) rfl kQ) ?_
  show G (T1189.setTop (mkF me_ 194 #[.val (.int p0), .val (.int p1), .val (.int p2), .val (.int p3), .val (.int (p0 &&& (3 : Int32))), .val (.int (p1 &&& (3 : Int32))), .val (.ref b924), .val (.ref b944), .val (.ref b973), .val (.ref b1014), .val (.ref b1082), .val (.ref s_1138)] [(.int (p1 &&& (3 : Int32))), (.ref b924), (.int (p0 &&& (3 : Int32))), (.int (1 : Int32)), (.ref s_1138)]))
  refine gv (fun tQ kQ => XS.aload X1189.here hx rfl (hb hby at_194) rfl rfl kQ) ?_
  show G (T1189.setTop (mkF me_ 196 #[.val (.int p0), .val (.int p1), .val (.int p2), .val (.int p3), .val (.int (p0 &&& (3 : Int32))), .val (.int (p1 &&& (3 : Int32))), .val (.ref b924), .val (.ref b944), .val (.ref b973), .val (.ref b1014), .val (.ref b1082), .val (.ref s_1138)] [(.ref b944), (.int (p1 &&& (3 : Int32))), (.ref b924), (.int (p0 &&& (3 : Int32))), (.int (1 : Int32)), (.ref s_1138)]))
  obtain ⟨_, _, ⟨T1191, L1191, k1191, n1191⟩, -, X1191, ⟨Lc1191, hQ1191, l1191, y1191, z1191⟩, st1191⟩ := Jvm.LawKit.callS X1189 hx (y := (⟨"com/example/dvalin/dvalin/ProblemToStringPinLaw", "at", "(Ljava/lang/String;II[CI[C)Z"⟩ : MethodName)) hown (mvT hZ (hw _ (List.mem_of_getElem? (i := 176) rfl))) (mvT hZ (hw _ (List.mem_of_getElem? (i := 177) rfl))) (mvT hZ (hw _ (List.mem_of_getElem? (i := 6) rfl))) (mvT hZ (hw _ (List.mem_of_getElem? (i := 178) rfl))) (by decide) (backOf (W := 0) (rm_at l Z a0 hw [] s_1138 r_1138 kr_1138 ((((0 : Int32) + (p0 &&& (3 : Int32))) + (2 : Int32)) + (p1 &&& (3 : Int32))) (own_V (p0 &&& (3 : Int32)) (p1 &&& (3 : Int32)) (own_bl (p0 &&& (3 : Int32)) ((p2 &&& (255 : Int32)).toUInt32.toUInt16.toUInt32.toInt32) ((((p2.toUInt32 >>> ((8 : Int32) &&& 31).toUInt32).toInt32) &&& (255 : Int32)).toUInt32.toUInt16.toUInt32.toInt32) ((((p2.toUInt32 >>> ((16 : Int32) &&& 31).toUInt32).toInt32) &&& (255 : Int32)).toUInt32.toUInt16.toUInt32.toInt32)) (own_bl (p1 &&& (3 : Int32)) ((p3 &&& (255 : Int32)).toUInt32.toUInt16.toUInt32.toInt32) ((((p3.toUInt32 >>> ((8 : Int32) &&& 31).toUInt32).toInt32) &&& (255 : Int32)).toUInt32.toUInt16.toUInt32.toInt32) ((((p3.toUInt32 >>> ((16 : Int32) &&& 31).toUInt32).toInt32) &&& (255 : Int32)).toUInt32.toUInt16.toUInt32.toInt32))) (1 : Int32) (p0 &&& (3 : Int32)) b924 k924 (p1 &&& (3 : Int32)) b944 k944 ((p2 &&& (255 : Int32)).toUInt32.toUInt16.toUInt32.toInt32) ((((p2.toUInt32 >>> ((8 : Int32) &&& 31).toUInt32).toInt32) &&& (255 : Int32)).toUInt32.toUInt16.toUInt32.toInt32) ((((p2.toUInt32 >>> ((16 : Int32) &&& 31).toUInt32).toInt32) &&& (255 : Int32)).toUInt32.toUInt16.toUInt32.toInt32) ((p3 &&& (255 : Int32)).toUInt32.toUInt16.toUInt32.toInt32) ((((p3.toUInt32 >>> ((8 : Int32) &&& 31).toUInt32).toInt32) &&& (255 : Int32)).toUInt32.toUInt16.toUInt32.toInt32) ((((p3.toUInt32 >>> ((16 : Int32) &&& 31).toUInt32).toInt32) &&& (255 : Int32)).toUInt32.toUInt16.toUInt32.toInt32) cs fmt h1138 n0 O1186 u0 u1 u2 u3 w1138_2 w1138_3 w1138_4 w1138_5 f1171 f1172 (by decide) (own_and3 p0) (own_and3 p1) (own_text (own_and3 p0) (own_and3 p1) _ _ _ _ _ _) (⟨own_byl _, own_byl _, own_byl _, own_byl _, own_byl _, own_byl _⟩)) hZ (hw _ (List.mem_of_getElem? (i := 178) rfl)) (hw _ (List.mem_of_getElem? (i := 6) rfl)) (by decide) (by decide)) (g := (mkF me_ 196 #[.val (.int p0), .val (.int p1), .val (.int p2), .val (.int p3), .val (.int (p0 &&& (3 : Int32))), .val (.int (p1 &&& (3 : Int32))), .val (.ref b924), .val (.ref b944), .val (.ref b973), .val (.ref b1014), .val (.ref b1082), .val (.ref s_1138)] [(.ref b944), (.int (p1 &&& (3 : Int32))), (.ref b924), (.int (p0 &&& (3 : Int32))), (.int (1 : Int32)), (.ref s_1138)])) rfl (by rw [hml]; rfl) (argsL := [(.ref s_1138), (.int (1 : Int32)), (.int (p0 &&& (3 : Int32))), (.ref b924), (.int (p1 &&& (3 : Int32))), (.ref b944)]) (rest := []) (lenOf pd_28 rfl) rfl (by show 2 * 0 + _ ≤ _; exact Nat.le_of_eq rfl) (hb hby at_196) (fun _ _ => ⟨rfl, eq1189, (by decide : 25 + 0 ≤ _), (by decide : 158 + 0 ≤ _)⟩)
  dsimp only [Pt.U, Pt.locs, Pt.cells, Pt.slots] at X1191 l1191 y1191 z1191 st1191 hQ1191
  subst l1191 y1191 z1191
  obtain ⟨rfl, Nq1191, eq1191⟩ := hQ1191
  have N1192 := Fr.app N1190 Nq1191
  refine gv st1191 ?_
  show G (T1191.setTop (mkF me_ 199 #[.val (.int p0), .val (.int p1), .val (.int p2), .val (.int p3), .val (.int (p0 &&& (3 : Int32))), .val (.int (p1 &&& (3 : Int32))), .val (.ref b924), .val (.ref b944), .val (.ref b973), .val (.ref b1014), .val (.ref b1082), .val (.ref s_1138)] [(.int (1 : Int32))]))
  refine gv (fun tQ kQ => XS.ifNo X1191.here hx rfl (hb hby at_199) rfl ((if0 _ _).trans (feq (by decide : ¬ ((1 : Int32) = (0 : Int32)))).1) kQ) ?_
  show G (T1191.setTop (mkF me_ 202 #[.val (.int p0), .val (.int p1), .val (.int p2), .val (.int p3), .val (.int (p0 &&& (3 : Int32))), .val (.int (p1 &&& (3 : Int32))), .val (.ref b924), .val (.ref b944), .val (.ref b973), .val (.ref b1014), .val (.ref b1082), .val (.ref s_1138)] []))
  refine gv (fun tQ kQ => XS.aload X1191.here hx rfl (hb hby at_202) rfl rfl kQ) ?_
  show G (T1191.setTop (mkF me_ 204 #[.val (.int p0), .val (.int p1), .val (.int p2), .val (.int p3), .val (.int (p0 &&& (3 : Int32))), .val (.int (p1 &&& (3 : Int32))), .val (.ref b924), .val (.ref b944), .val (.ref b973), .val (.ref b1014), .val (.ref b1082), .val (.ref s_1138)] [(.ref s_1138)]))
  refine gv (fun tQ kQ => XS.iconst X1191.here hx rfl (hb hby at_204) kQ) ?_
  show G (T1191.setTop (mkF me_ 205 #[.val (.int p0), .val (.int p1), .val (.int p2), .val (.int p3), .val (.int (p0 &&& (3 : Int32))), .val (.int (p1 &&& (3 : Int32))), .val (.ref b924), .val (.ref b944), .val (.ref b973), .val (.ref b1014), .val (.ref b1082), .val (.ref s_1138)] [(.int (2 : Int32)), (.ref s_1138)]))
  refine gv (fun tQ kQ => XS.iload X1191.here hx rfl (hb hby at_205) rfl kQ) ?_
  show G (T1191.setTop (mkF me_ 207 #[.val (.int p0), .val (.int p1), .val (.int p2), .val (.int p3), .val (.int (p0 &&& (3 : Int32))), .val (.int (p1 &&& (3 : Int32))), .val (.ref b924), .val (.ref b944), .val (.ref b973), .val (.ref b1014), .val (.ref b1082), .val (.ref s_1138)] [(.int (p0 &&& (3 : Int32))), (.int (2 : Int32)), (.ref s_1138)]))
  refine gv (fun tQ kQ => XS.aload X1191.here hx rfl (hb hby at_207) rfl rfl kQ) ?_
  show G (T1191.setTop (mkF me_ 209 #[.val (.int p0), .val (.int p1), .val (.int p2), .val (.int p3), .val (.int (p0 &&& (3 : Int32))), .val (.int (p1 &&& (3 : Int32))), .val (.ref b924), .val (.ref b944), .val (.ref b973), .val (.ref b1014), .val (.ref b1082), .val (.ref s_1138)] [(.ref b924), (.int (p0 &&& (3 : Int32))), (.int (2 : Int32)), (.ref s_1138)]))
  refine gv (fun tQ kQ => XS.iload X1191.here hx rfl (hb hby at_209) rfl kQ) ?_
  show G (T1191.setTop (mkF me_ 211 #[.val (.int p0), .val (.int p1), .val (.int p2), .val (.int p3), .val (.int (p0 &&& (3 : Int32))), .val (.int (p1 &&& (3 : Int32))), .val (.ref b924), .val (.ref b944), .val (.ref b973), .val (.ref b1014), .val (.ref b1082), .val (.ref s_1138)] [(.int (p1 &&& (3 : Int32))), (.ref b924), (.int (p0 &&& (3 : Int32))), (.int (2 : Int32)), (.ref s_1138)]))
  refine gv (fun tQ kQ => XS.aload X1191.here hx rfl (hb hby at_211) rfl rfl kQ) ?_
  show G (T1191.setTop (mkF me_ 213 #[.val (.int p0), .val (.int p1), .val (.int p2), .val (.int p3), .val (.int (p0 &&& (3 : Int32))), .val (.int (p1 &&& (3 : Int32))), .val (.ref b924), .val (.ref b944), .val (.ref b973), .val (.ref b1014), .val (.ref b1082), .val (.ref s_1138)] [(.ref b944), (.int (p1 &&& (3 : Int32))), (.ref b924), (.int (p0 &&& (3 : Int32))), (.int (2 : Int32)), (.ref s_1138)]))
  obtain ⟨_, _, ⟨T1193, L1193, k1193, n1193⟩, -, X1193, ⟨Lc1193, hQ1193, l1193, y1193, z1193⟩, st1193⟩ := Jvm.LawKit.callS X1191 hx (y := (⟨"com/example/dvalin/dvalin/ProblemToStringPinLaw", "at", "(Ljava/lang/String;II[CI[C)Z"⟩ : MethodName)) hown (mvT hZ (hw _ (List.mem_of_getElem? (i := 176) rfl))) (mvT hZ (hw _ (List.mem_of_getElem? (i := 177) rfl))) (mvT hZ (hw _ (List.mem_of_getElem? (i := 6) rfl))) (mvT hZ (hw _ (List.mem_of_getElem? (i := 178) rfl))) (by decide) (backOf (W := 0) (rm_at l Z a0 hw [] s_1138 r_1138 kr_1138 ((((0 : Int32) + (p0 &&& (3 : Int32))) + (2 : Int32)) + (p1 &&& (3 : Int32))) (own_V (p0 &&& (3 : Int32)) (p1 &&& (3 : Int32)) (own_bl (p0 &&& (3 : Int32)) ((p2 &&& (255 : Int32)).toUInt32.toUInt16.toUInt32.toInt32) ((((p2.toUInt32 >>> ((8 : Int32) &&& 31).toUInt32).toInt32) &&& (255 : Int32)).toUInt32.toUInt16.toUInt32.toInt32) ((((p2.toUInt32 >>> ((16 : Int32) &&& 31).toUInt32).toInt32) &&& (255 : Int32)).toUInt32.toUInt16.toUInt32.toInt32)) (own_bl (p1 &&& (3 : Int32)) ((p3 &&& (255 : Int32)).toUInt32.toUInt16.toUInt32.toInt32) ((((p3.toUInt32 >>> ((8 : Int32) &&& 31).toUInt32).toInt32) &&& (255 : Int32)).toUInt32.toUInt16.toUInt32.toInt32) ((((p3.toUInt32 >>> ((16 : Int32) &&& 31).toUInt32).toInt32) &&& (255 : Int32)).toUInt32.toUInt16.toUInt32.toInt32))) (2 : Int32) (p0 &&& (3 : Int32)) b924 k924 (p1 &&& (3 : Int32)) b944 k944 ((p2 &&& (255 : Int32)).toUInt32.toUInt16.toUInt32.toInt32) ((((p2.toUInt32 >>> ((8 : Int32) &&& 31).toUInt32).toInt32) &&& (255 : Int32)).toUInt32.toUInt16.toUInt32.toInt32) ((((p2.toUInt32 >>> ((16 : Int32) &&& 31).toUInt32).toInt32) &&& (255 : Int32)).toUInt32.toUInt16.toUInt32.toInt32) ((p3 &&& (255 : Int32)).toUInt32.toUInt16.toUInt32.toInt32) ((((p3.toUInt32 >>> ((8 : Int32) &&& 31).toUInt32).toInt32) &&& (255 : Int32)).toUInt32.toUInt16.toUInt32.toInt32) ((((p3.toUInt32 >>> ((16 : Int32) &&& 31).toUInt32).toInt32) &&& (255 : Int32)).toUInt32.toUInt16.toUInt32.toInt32) cs fmt h1138 n0 O1186 u0 u1 u2 u3 w1138_2 w1138_3 w1138_4 w1138_5 f1171 f1172 (by decide) (own_and3 p0) (own_and3 p1) (own_text (own_and3 p0) (own_and3 p1) _ _ _ _ _ _) (⟨own_byl _, own_byl _, own_byl _, own_byl _, own_byl _, own_byl _⟩)) hZ (hw _ (List.mem_of_getElem? (i := 178) rfl)) (hw _ (List.mem_of_getElem? (i := 6) rfl)) (by decide) (by decide)) (g := (mkF me_ 213 #[.val (.int p0), .val (.int p1), .val (.int p2), .val (.int p3), .val (.int (p0 &&& (3 : Int32))), .val (.int (p1 &&& (3 : Int32))), .val (.ref b924), .val (.ref b944), .val (.ref b973), .val (.ref b1014), .val (.ref b1082), .val (.ref s_1138)] [(.ref b944), (.int (p1 &&& (3 : Int32))), (.ref b924), (.int (p0 &&& (3 : Int32))), (.int (2 : Int32)), (.ref s_1138)])) rfl (by rw [hml]; rfl) (argsL := [(.ref s_1138), (.int (2 : Int32)), (.int (p0 &&& (3 : Int32))), (.ref b924), (.int (p1 &&& (3 : Int32))), (.ref b944)]) (rest := []) (lenOf pd_28 rfl) rfl (by show 2 * 0 + _ ≤ _; exact Nat.le_of_eq rfl) (hb hby at_213) (fun _ _ => ⟨rfl, eq1191, (by decide : 25 + 0 ≤ _), (by decide : 158 + 0 ≤ _)⟩)
  dsimp only [Pt.U, Pt.locs, Pt.cells, Pt.slots] at X1193 l1193 y1193 z1193 st1193 hQ1193
  subst l1193 y1193 z1193
  obtain ⟨rfl, Nq1193, eq1193⟩ := hQ1193
  have N1194 := Fr.app N1192 Nq1193
  refine gv st1193 ?_
  show G (T1193.setTop (mkF me_ 216 #[.val (.int p0), .val (.int p1), .val (.int p2), .val (.int p3), .val (.int (p0 &&& (3 : Int32))), .val (.int (p1 &&& (3 : Int32))), .val (.ref b924), .val (.ref b944), .val (.ref b973), .val (.ref b1014), .val (.ref b1082), .val (.ref s_1138)] [(.int (1 : Int32))]))
  refine gv (fun tQ kQ => XS.ifNo X1193.here hx rfl (hb hby at_216) rfl ((if0 _ _).trans (feq (by decide : ¬ ((1 : Int32) = (0 : Int32)))).1) kQ) ?_
  show G (T1193.setTop (mkF me_ 219 #[.val (.int p0), .val (.int p1), .val (.int p2), .val (.int p3), .val (.int (p0 &&& (3 : Int32))), .val (.int (p1 &&& (3 : Int32))), .val (.ref b924), .val (.ref b944), .val (.ref b973), .val (.ref b1014), .val (.ref b1082), .val (.ref s_1138)] []))
  refine gv (fun tQ kQ => XS.aload X1193.here hx rfl (hb hby at_219) rfl rfl kQ) ?_
  show G (T1193.setTop (mkF me_ 221 #[.val (.int p0), .val (.int p1), .val (.int p2), .val (.int p3), .val (.int (p0 &&& (3 : Int32))), .val (.int (p1 &&& (3 : Int32))), .val (.ref b924), .val (.ref b944), .val (.ref b973), .val (.ref b1014), .val (.ref b1082), .val (.ref s_1138)] [(.ref s_1138)]))
  refine gv (fun tQ kQ => XS.iconst X1193.here hx rfl (hb hby at_221) kQ) ?_
  show G (T1193.setTop (mkF me_ 222 #[.val (.int p0), .val (.int p1), .val (.int p2), .val (.int p3), .val (.int (p0 &&& (3 : Int32))), .val (.int (p1 &&& (3 : Int32))), .val (.ref b924), .val (.ref b944), .val (.ref b973), .val (.ref b1014), .val (.ref b1082), .val (.ref s_1138)] [(.int (3 : Int32)), (.ref s_1138)]))
  refine gv (fun tQ kQ => XS.iload X1193.here hx rfl (hb hby at_222) rfl kQ) ?_
  show G (T1193.setTop (mkF me_ 224 #[.val (.int p0), .val (.int p1), .val (.int p2), .val (.int p3), .val (.int (p0 &&& (3 : Int32))), .val (.int (p1 &&& (3 : Int32))), .val (.ref b924), .val (.ref b944), .val (.ref b973), .val (.ref b1014), .val (.ref b1082), .val (.ref s_1138)] [(.int (p0 &&& (3 : Int32))), (.int (3 : Int32)), (.ref s_1138)]))
  refine gv (fun tQ kQ => XS.aload X1193.here hx rfl (hb hby at_224) rfl rfl kQ) ?_
  show G (T1193.setTop (mkF me_ 226 #[.val (.int p0), .val (.int p1), .val (.int p2), .val (.int p3), .val (.int (p0 &&& (3 : Int32))), .val (.int (p1 &&& (3 : Int32))), .val (.ref b924), .val (.ref b944), .val (.ref b973), .val (.ref b1014), .val (.ref b1082), .val (.ref s_1138)] [(.ref b924), (.int (p0 &&& (3 : Int32))), (.int (3 : Int32)), (.ref s_1138)]))
  refine gv (fun tQ kQ => XS.iload X1193.here hx rfl (hb hby at_226) rfl kQ) ?_
  show G (T1193.setTop (mkF me_ 228 #[.val (.int p0), .val (.int p1), .val (.int p2), .val (.int p3), .val (.int (p0 &&& (3 : Int32))), .val (.int (p1 &&& (3 : Int32))), .val (.ref b924), .val (.ref b944), .val (.ref b973), .val (.ref b1014), .val (.ref b1082), .val (.ref s_1138)] [(.int (p1 &&& (3 : Int32))), (.ref b924), (.int (p0 &&& (3 : Int32))), (.int (3 : Int32)), (.ref s_1138)]))
  refine gv (fun tQ kQ => XS.aload X1193.here hx rfl (hb hby at_228) rfl rfl kQ) ?_
  show G (T1193.setTop (mkF me_ 230 #[.val (.int p0), .val (.int p1), .val (.int p2), .val (.int p3), .val (.int (p0 &&& (3 : Int32))), .val (.int (p1 &&& (3 : Int32))), .val (.ref b924), .val (.ref b944), .val (.ref b973), .val (.ref b1014), .val (.ref b1082), .val (.ref s_1138)] [(.ref b944), (.int (p1 &&& (3 : Int32))), (.ref b924), (.int (p0 &&& (3 : Int32))), (.int (3 : Int32)), (.ref s_1138)]))
  obtain ⟨_, _, ⟨T1195, L1195, k1195, n1195⟩, -, X1195, ⟨Lc1195, hQ1195, l1195, y1195, z1195⟩, st1195⟩ := Jvm.LawKit.callS X1193 hx (y := (⟨"com/example/dvalin/dvalin/ProblemToStringPinLaw", "at", "(Ljava/lang/String;II[CI[C)Z"⟩ : MethodName)) hown (mvT hZ (hw _ (List.mem_of_getElem? (i := 176) rfl))) (mvT hZ (hw _ (List.mem_of_getElem? (i := 177) rfl))) (mvT hZ (hw _ (List.mem_of_getElem? (i := 6) rfl))) (mvT hZ (hw _ (List.mem_of_getElem? (i := 178) rfl))) (by decide) (backOf (W := 0) (rm_at l Z a0 hw [] s_1138 r_1138 kr_1138 ((((0 : Int32) + (p0 &&& (3 : Int32))) + (2 : Int32)) + (p1 &&& (3 : Int32))) (own_V (p0 &&& (3 : Int32)) (p1 &&& (3 : Int32)) (own_bl (p0 &&& (3 : Int32)) ((p2 &&& (255 : Int32)).toUInt32.toUInt16.toUInt32.toInt32) ((((p2.toUInt32 >>> ((8 : Int32) &&& 31).toUInt32).toInt32) &&& (255 : Int32)).toUInt32.toUInt16.toUInt32.toInt32) ((((p2.toUInt32 >>> ((16 : Int32) &&& 31).toUInt32).toInt32) &&& (255 : Int32)).toUInt32.toUInt16.toUInt32.toInt32)) (own_bl (p1 &&& (3 : Int32)) ((p3 &&& (255 : Int32)).toUInt32.toUInt16.toUInt32.toInt32) ((((p3.toUInt32 >>> ((8 : Int32) &&& 31).toUInt32).toInt32) &&& (255 : Int32)).toUInt32.toUInt16.toUInt32.toInt32) ((((p3.toUInt32 >>> ((16 : Int32) &&& 31).toUInt32).toInt32) &&& (255 : Int32)).toUInt32.toUInt16.toUInt32.toInt32))) (3 : Int32) (p0 &&& (3 : Int32)) b924 k924 (p1 &&& (3 : Int32)) b944 k944 ((p2 &&& (255 : Int32)).toUInt32.toUInt16.toUInt32.toInt32) ((((p2.toUInt32 >>> ((8 : Int32) &&& 31).toUInt32).toInt32) &&& (255 : Int32)).toUInt32.toUInt16.toUInt32.toInt32) ((((p2.toUInt32 >>> ((16 : Int32) &&& 31).toUInt32).toInt32) &&& (255 : Int32)).toUInt32.toUInt16.toUInt32.toInt32) ((p3 &&& (255 : Int32)).toUInt32.toUInt16.toUInt32.toInt32) ((((p3.toUInt32 >>> ((8 : Int32) &&& 31).toUInt32).toInt32) &&& (255 : Int32)).toUInt32.toUInt16.toUInt32.toInt32) ((((p3.toUInt32 >>> ((16 : Int32) &&& 31).toUInt32).toInt32) &&& (255 : Int32)).toUInt32.toUInt16.toUInt32.toInt32) cs fmt h1138 n0 O1186 u0 u1 u2 u3 w1138_2 w1138_3 w1138_4 w1138_5 f1171 f1172 (by decide) (own_and3 p0) (own_and3 p1) (own_text (own_and3 p0) (own_and3 p1) _ _ _ _ _ _) (⟨own_byl _, own_byl _, own_byl _, own_byl _, own_byl _, own_byl _⟩)) hZ (hw _ (List.mem_of_getElem? (i := 178) rfl)) (hw _ (List.mem_of_getElem? (i := 6) rfl)) (by decide) (by decide)) (g := (mkF me_ 230 #[.val (.int p0), .val (.int p1), .val (.int p2), .val (.int p3), .val (.int (p0 &&& (3 : Int32))), .val (.int (p1 &&& (3 : Int32))), .val (.ref b924), .val (.ref b944), .val (.ref b973), .val (.ref b1014), .val (.ref b1082), .val (.ref s_1138)] [(.ref b944), (.int (p1 &&& (3 : Int32))), (.ref b924), (.int (p0 &&& (3 : Int32))), (.int (3 : Int32)), (.ref s_1138)])) rfl (by rw [hml]; rfl) (argsL := [(.ref s_1138), (.int (3 : Int32)), (.int (p0 &&& (3 : Int32))), (.ref b924), (.int (p1 &&& (3 : Int32))), (.ref b944)]) (rest := []) (lenOf pd_28 rfl) rfl (by show 2 * 0 + _ ≤ _; exact Nat.le_of_eq rfl) (hb hby at_230) (fun _ _ => ⟨rfl, eq1193, (by decide : 25 + 0 ≤ _), (by decide : 158 + 0 ≤ _)⟩)
  dsimp only [Pt.U, Pt.locs, Pt.cells, Pt.slots] at X1195 l1195 y1195 z1195 st1195 hQ1195
  subst l1195 y1195 z1195
  obtain ⟨rfl, Nq1195, eq1195⟩ := hQ1195
  have N1196 := Fr.app N1194 Nq1195
  refine gv st1195 ?_
  show G (T1195.setTop (mkF me_ 233 #[.val (.int p0), .val (.int p1), .val (.int p2), .val (.int p3), .val (.int (p0 &&& (3 : Int32))), .val (.int (p1 &&& (3 : Int32))), .val (.ref b924), .val (.ref b944), .val (.ref b973), .val (.ref b1014), .val (.ref b1082), .val (.ref s_1138)] [(.int (1 : Int32))]))
  refine gv (fun tQ kQ => XS.ifNo X1195.here hx rfl (hb hby at_233) rfl ((if0 _ _).trans (feq (by decide : ¬ ((1 : Int32) = (0 : Int32)))).1) kQ) ?_
  show G (T1195.setTop (mkF me_ 236 #[.val (.int p0), .val (.int p1), .val (.int p2), .val (.int p3), .val (.int (p0 &&& (3 : Int32))), .val (.int (p1 &&& (3 : Int32))), .val (.ref b924), .val (.ref b944), .val (.ref b973), .val (.ref b1014), .val (.ref b1082), .val (.ref s_1138)] []))
  refine gv (fun tQ kQ => XS.aload X1195.here hx rfl (hb hby at_236) rfl rfl kQ) ?_
  show G (T1195.setTop (mkF me_ 238 #[.val (.int p0), .val (.int p1), .val (.int p2), .val (.int p3), .val (.int (p0 &&& (3 : Int32))), .val (.int (p1 &&& (3 : Int32))), .val (.ref b924), .val (.ref b944), .val (.ref b973), .val (.ref b1014), .val (.ref b1082), .val (.ref s_1138)] [(.ref s_1138)]))
  refine gv (fun tQ kQ => XS.iconst X1195.here hx rfl (hb hby at_238) kQ) ?_
  show G (T1195.setTop (mkF me_ 239 #[.val (.int p0), .val (.int p1), .val (.int p2), .val (.int p3), .val (.int (p0 &&& (3 : Int32))), .val (.int (p1 &&& (3 : Int32))), .val (.ref b924), .val (.ref b944), .val (.ref b973), .val (.ref b1014), .val (.ref b1082), .val (.ref s_1138)] [(.int (4 : Int32)), (.ref s_1138)]))
  refine gv (fun tQ kQ => XS.iload X1195.here hx rfl (hb hby at_239) rfl kQ) ?_
  show G (T1195.setTop (mkF me_ 241 #[.val (.int p0), .val (.int p1), .val (.int p2), .val (.int p3), .val (.int (p0 &&& (3 : Int32))), .val (.int (p1 &&& (3 : Int32))), .val (.ref b924), .val (.ref b944), .val (.ref b973), .val (.ref b1014), .val (.ref b1082), .val (.ref s_1138)] [(.int (p0 &&& (3 : Int32))), (.int (4 : Int32)), (.ref s_1138)]))
  refine gv (fun tQ kQ => XS.aload X1195.here hx rfl (hb hby at_241) rfl rfl kQ) ?_
  show G (T1195.setTop (mkF me_ 243 #[.val (.int p0), .val (.int p1), .val (.int p2), .val (.int p3), .val (.int (p0 &&& (3 : Int32))), .val (.int (p1 &&& (3 : Int32))), .val (.ref b924), .val (.ref b944), .val (.ref b973), .val (.ref b1014), .val (.ref b1082), .val (.ref s_1138)] [(.ref b924), (.int (p0 &&& (3 : Int32))), (.int (4 : Int32)), (.ref s_1138)]))
  refine gv (fun tQ kQ => XS.iload X1195.here hx rfl (hb hby at_243) rfl kQ) ?_
  show G (T1195.setTop (mkF me_ 245 #[.val (.int p0), .val (.int p1), .val (.int p2), .val (.int p3), .val (.int (p0 &&& (3 : Int32))), .val (.int (p1 &&& (3 : Int32))), .val (.ref b924), .val (.ref b944), .val (.ref b973), .val (.ref b1014), .val (.ref b1082), .val (.ref s_1138)] [(.int (p1 &&& (3 : Int32))), (.ref b924), (.int (p0 &&& (3 : Int32))), (.int (4 : Int32)), (.ref s_1138)]))
  refine gv (fun tQ kQ => XS.aload X1195.here hx rfl (hb hby at_245) rfl rfl kQ) ?_
  show G (T1195.setTop (mkF me_ 247 #[.val (.int p0), .val (.int p1), .val (.int p2), .val (.int p3), .val (.int (p0 &&& (3 : Int32))), .val (.int (p1 &&& (3 : Int32))), .val (.ref b924), .val (.ref b944), .val (.ref b973), .val (.ref b1014), .val (.ref b1082), .val (.ref s_1138)] [(.ref b944), (.int (p1 &&& (3 : Int32))), (.ref b924), (.int (p0 &&& (3 : Int32))), (.int (4 : Int32)), (.ref s_1138)]))
  obtain ⟨_, _, ⟨T1197, L1197, k1197, n1197⟩, -, X1197, ⟨Lc1197, hQ1197, l1197, y1197, z1197⟩, st1197⟩ := Jvm.LawKit.callS X1195 hx (y := (⟨"com/example/dvalin/dvalin/ProblemToStringPinLaw", "at", "(Ljava/lang/String;II[CI[C)Z"⟩ : MethodName)) hown (mvT hZ (hw _ (List.mem_of_getElem? (i := 176) rfl))) (mvT hZ (hw _ (List.mem_of_getElem? (i := 177) rfl))) (mvT hZ (hw _ (List.mem_of_getElem? (i := 6) rfl))) (mvT hZ (hw _ (List.mem_of_getElem? (i := 178) rfl))) (by decide) (backOf (W := 0) (rm_at l Z a0 hw [] s_1138 r_1138 kr_1138 ((((0 : Int32) + (p0 &&& (3 : Int32))) + (2 : Int32)) + (p1 &&& (3 : Int32))) (own_V (p0 &&& (3 : Int32)) (p1 &&& (3 : Int32)) (own_bl (p0 &&& (3 : Int32)) ((p2 &&& (255 : Int32)).toUInt32.toUInt16.toUInt32.toInt32) ((((p2.toUInt32 >>> ((8 : Int32) &&& 31).toUInt32).toInt32) &&& (255 : Int32)).toUInt32.toUInt16.toUInt32.toInt32) ((((p2.toUInt32 >>> ((16 : Int32) &&& 31).toUInt32).toInt32) &&& (255 : Int32)).toUInt32.toUInt16.toUInt32.toInt32)) (own_bl (p1 &&& (3 : Int32)) ((p3 &&& (255 : Int32)).toUInt32.toUInt16.toUInt32.toInt32) ((((p3.toUInt32 >>> ((8 : Int32) &&& 31).toUInt32).toInt32) &&& (255 : Int32)).toUInt32.toUInt16.toUInt32.toInt32) ((((p3.toUInt32 >>> ((16 : Int32) &&& 31).toUInt32).toInt32) &&& (255 : Int32)).toUInt32.toUInt16.toUInt32.toInt32))) (4 : Int32) (p0 &&& (3 : Int32)) b924 k924 (p1 &&& (3 : Int32)) b944 k944 ((p2 &&& (255 : Int32)).toUInt32.toUInt16.toUInt32.toInt32) ((((p2.toUInt32 >>> ((8 : Int32) &&& 31).toUInt32).toInt32) &&& (255 : Int32)).toUInt32.toUInt16.toUInt32.toInt32) ((((p2.toUInt32 >>> ((16 : Int32) &&& 31).toUInt32).toInt32) &&& (255 : Int32)).toUInt32.toUInt16.toUInt32.toInt32) ((p3 &&& (255 : Int32)).toUInt32.toUInt16.toUInt32.toInt32) ((((p3.toUInt32 >>> ((8 : Int32) &&& 31).toUInt32).toInt32) &&& (255 : Int32)).toUInt32.toUInt16.toUInt32.toInt32) ((((p3.toUInt32 >>> ((16 : Int32) &&& 31).toUInt32).toInt32) &&& (255 : Int32)).toUInt32.toUInt16.toUInt32.toInt32) cs fmt h1138 n0 O1186 u0 u1 u2 u3 w1138_2 w1138_3 w1138_4 w1138_5 f1171 f1172 (by decide) (own_and3 p0) (own_and3 p1) (own_text (own_and3 p0) (own_and3 p1) _ _ _ _ _ _) (⟨own_byl _, own_byl _, own_byl _, own_byl _, own_byl _, own_byl _⟩)) hZ (hw _ (List.mem_of_getElem? (i := 178) rfl)) (hw _ (List.mem_of_getElem? (i := 6) rfl)) (by decide) (by decide)) (g := (mkF me_ 247 #[.val (.int p0), .val (.int p1), .val (.int p2), .val (.int p3), .val (.int (p0 &&& (3 : Int32))), .val (.int (p1 &&& (3 : Int32))), .val (.ref b924), .val (.ref b944), .val (.ref b973), .val (.ref b1014), .val (.ref b1082), .val (.ref s_1138)] [(.ref b944), (.int (p1 &&& (3 : Int32))), (.ref b924), (.int (p0 &&& (3 : Int32))), (.int (4 : Int32)), (.ref s_1138)])) rfl (by rw [hml]; rfl) (argsL := [(.ref s_1138), (.int (4 : Int32)), (.int (p0 &&& (3 : Int32))), (.ref b924), (.int (p1 &&& (3 : Int32))), (.ref b944)]) (rest := []) (lenOf pd_28 rfl) rfl (by show 2 * 0 + _ ≤ _; exact Nat.le_of_eq rfl) (hb hby at_247) (fun _ _ => ⟨rfl, eq1195, (by decide : 25 + 0 ≤ _), (by decide : 158 + 0 ≤ _)⟩)
  dsimp only [Pt.U, Pt.locs, Pt.cells, Pt.slots] at X1197 l1197 y1197 z1197 st1197 hQ1197
  subst l1197 y1197 z1197
  obtain ⟨rfl, Nq1197, eq1197⟩ := hQ1197
  have N1198 := Fr.app N1196 Nq1197
  refine gv st1197 ?_
  show G (T1197.setTop (mkF me_ 250 #[.val (.int p0), .val (.int p1), .val (.int p2), .val (.int p3), .val (.int (p0 &&& (3 : Int32))), .val (.int (p1 &&& (3 : Int32))), .val (.ref b924), .val (.ref b944), .val (.ref b973), .val (.ref b1014), .val (.ref b1082), .val (.ref s_1138)] [(.int (1 : Int32))]))
  refine gv (fun tQ kQ => XS.ifNo X1197.here hx rfl (hb hby at_250) rfl ((if0 _ _).trans (feq (by decide : ¬ ((1 : Int32) = (0 : Int32)))).1) kQ) ?_
  show G (T1197.setTop (mkF me_ 253 #[.val (.int p0), .val (.int p1), .val (.int p2), .val (.int p3), .val (.int (p0 &&& (3 : Int32))), .val (.int (p1 &&& (3 : Int32))), .val (.ref b924), .val (.ref b944), .val (.ref b973), .val (.ref b1014), .val (.ref b1082), .val (.ref s_1138)] []))
  refine gv (fun tQ kQ => XS.aload X1197.here hx rfl (hb hby at_253) rfl rfl kQ) ?_
  show G (T1197.setTop (mkF me_ 255 #[.val (.int p0), .val (.int p1), .val (.int p2), .val (.int p3), .val (.int (p0 &&& (3 : Int32))), .val (.int (p1 &&& (3 : Int32))), .val (.ref b924), .val (.ref b944), .val (.ref b973), .val (.ref b1014), .val (.ref b1082), .val (.ref s_1138)] [(.ref s_1138)]))
  refine gv (fun tQ kQ => XS.iconst X1197.here hx rfl (hb hby at_255) kQ) ?_
  show G (T1197.setTop (mkF me_ 256 #[.val (.int p0), .val (.int p1), .val (.int p2), .val (.int p3), .val (.int (p0 &&& (3 : Int32))), .val (.int (p1 &&& (3 : Int32))), .val (.ref b924), .val (.ref b944), .val (.ref b973), .val (.ref b1014), .val (.ref b1082), .val (.ref s_1138)] [(.int (5 : Int32)), (.ref s_1138)]))
  refine gv (fun tQ kQ => XS.iload X1197.here hx rfl (hb hby at_256) rfl kQ) ?_
  show G (T1197.setTop (mkF me_ 258 #[.val (.int p0), .val (.int p1), .val (.int p2), .val (.int p3), .val (.int (p0 &&& (3 : Int32))), .val (.int (p1 &&& (3 : Int32))), .val (.ref b924), .val (.ref b944), .val (.ref b973), .val (.ref b1014), .val (.ref b1082), .val (.ref s_1138)] [(.int (p0 &&& (3 : Int32))), (.int (5 : Int32)), (.ref s_1138)]))
  refine gv (fun tQ kQ => XS.aload X1197.here hx rfl (hb hby at_258) rfl rfl kQ) ?_
  show G (T1197.setTop (mkF me_ 260 #[.val (.int p0), .val (.int p1), .val (.int p2), .val (.int p3), .val (.int (p0 &&& (3 : Int32))), .val (.int (p1 &&& (3 : Int32))), .val (.ref b924), .val (.ref b944), .val (.ref b973), .val (.ref b1014), .val (.ref b1082), .val (.ref s_1138)] [(.ref b924), (.int (p0 &&& (3 : Int32))), (.int (5 : Int32)), (.ref s_1138)]))
  refine gv (fun tQ kQ => XS.iload X1197.here hx rfl (hb hby at_260) rfl kQ) ?_
  show G (T1197.setTop (mkF me_ 262 #[.val (.int p0), .val (.int p1), .val (.int p2), .val (.int p3), .val (.int (p0 &&& (3 : Int32))), .val (.int (p1 &&& (3 : Int32))), .val (.ref b924), .val (.ref b944), .val (.ref b973), .val (.ref b1014), .val (.ref b1082), .val (.ref s_1138)] [(.int (p1 &&& (3 : Int32))), (.ref b924), (.int (p0 &&& (3 : Int32))), (.int (5 : Int32)), (.ref s_1138)]))
  refine gv (fun tQ kQ => XS.aload X1197.here hx rfl (hb hby at_262) rfl rfl kQ) ?_
  show G (T1197.setTop (mkF me_ 264 #[.val (.int p0), .val (.int p1), .val (.int p2), .val (.int p3), .val (.int (p0 &&& (3 : Int32))), .val (.int (p1 &&& (3 : Int32))), .val (.ref b924), .val (.ref b944), .val (.ref b973), .val (.ref b1014), .val (.ref b1082), .val (.ref s_1138)] [(.ref b944), (.int (p1 &&& (3 : Int32))), (.ref b924), (.int (p0 &&& (3 : Int32))), (.int (5 : Int32)), (.ref s_1138)]))
  obtain ⟨_, _, ⟨T1199, L1199, k1199, n1199⟩, -, X1199, ⟨Lc1199, hQ1199, l1199, y1199, z1199⟩, st1199⟩ := Jvm.LawKit.callS X1197 hx (y := (⟨"com/example/dvalin/dvalin/ProblemToStringPinLaw", "at", "(Ljava/lang/String;II[CI[C)Z"⟩ : MethodName)) hown (mvT hZ (hw _ (List.mem_of_getElem? (i := 176) rfl))) (mvT hZ (hw _ (List.mem_of_getElem? (i := 177) rfl))) (mvT hZ (hw _ (List.mem_of_getElem? (i := 6) rfl))) (mvT hZ (hw _ (List.mem_of_getElem? (i := 178) rfl))) (by decide) (backOf (W := 0) (rm_at l Z a0 hw [] s_1138 r_1138 kr_1138 ((((0 : Int32) + (p0 &&& (3 : Int32))) + (2 : Int32)) + (p1 &&& (3 : Int32))) (own_V (p0 &&& (3 : Int32)) (p1 &&& (3 : Int32)) (own_bl (p0 &&& (3 : Int32)) ((p2 &&& (255 : Int32)).toUInt32.toUInt16.toUInt32.toInt32) ((((p2.toUInt32 >>> ((8 : Int32) &&& 31).toUInt32).toInt32) &&& (255 : Int32)).toUInt32.toUInt16.toUInt32.toInt32) ((((p2.toUInt32 >>> ((16 : Int32) &&& 31).toUInt32).toInt32) &&& (255 : Int32)).toUInt32.toUInt16.toUInt32.toInt32)) (own_bl (p1 &&& (3 : Int32)) ((p3 &&& (255 : Int32)).toUInt32.toUInt16.toUInt32.toInt32) ((((p3.toUInt32 >>> ((8 : Int32) &&& 31).toUInt32).toInt32) &&& (255 : Int32)).toUInt32.toUInt16.toUInt32.toInt32) ((((p3.toUInt32 >>> ((16 : Int32) &&& 31).toUInt32).toInt32) &&& (255 : Int32)).toUInt32.toUInt16.toUInt32.toInt32))) (5 : Int32) (p0 &&& (3 : Int32)) b924 k924 (p1 &&& (3 : Int32)) b944 k944 ((p2 &&& (255 : Int32)).toUInt32.toUInt16.toUInt32.toInt32) ((((p2.toUInt32 >>> ((8 : Int32) &&& 31).toUInt32).toInt32) &&& (255 : Int32)).toUInt32.toUInt16.toUInt32.toInt32) ((((p2.toUInt32 >>> ((16 : Int32) &&& 31).toUInt32).toInt32) &&& (255 : Int32)).toUInt32.toUInt16.toUInt32.toInt32) ((p3 &&& (255 : Int32)).toUInt32.toUInt16.toUInt32.toInt32) ((((p3.toUInt32 >>> ((8 : Int32) &&& 31).toUInt32).toInt32) &&& (255 : Int32)).toUInt32.toUInt16.toUInt32.toInt32) ((((p3.toUInt32 >>> ((16 : Int32) &&& 31).toUInt32).toInt32) &&& (255 : Int32)).toUInt32.toUInt16.toUInt32.toInt32) cs fmt h1138 n0 O1186 u0 u1 u2 u3 w1138_2 w1138_3 w1138_4 w1138_5 f1171 f1172 (by decide) (own_and3 p0) (own_and3 p1) (own_text (own_and3 p0) (own_and3 p1) _ _ _ _ _ _) (⟨own_byl _, own_byl _, own_byl _, own_byl _, own_byl _, own_byl _⟩)) hZ (hw _ (List.mem_of_getElem? (i := 178) rfl)) (hw _ (List.mem_of_getElem? (i := 6) rfl)) (by decide) (by decide)) (g := (mkF me_ 264 #[.val (.int p0), .val (.int p1), .val (.int p2), .val (.int p3), .val (.int (p0 &&& (3 : Int32))), .val (.int (p1 &&& (3 : Int32))), .val (.ref b924), .val (.ref b944), .val (.ref b973), .val (.ref b1014), .val (.ref b1082), .val (.ref s_1138)] [(.ref b944), (.int (p1 &&& (3 : Int32))), (.ref b924), (.int (p0 &&& (3 : Int32))), (.int (5 : Int32)), (.ref s_1138)])) rfl (by rw [hml]; rfl) (argsL := [(.ref s_1138), (.int (5 : Int32)), (.int (p0 &&& (3 : Int32))), (.ref b924), (.int (p1 &&& (3 : Int32))), (.ref b944)]) (rest := []) (lenOf pd_28 rfl) rfl (by show 2 * 0 + _ ≤ _; exact Nat.le_of_eq rfl) (hb hby at_264) (fun _ _ => ⟨rfl, eq1197, (by decide : 25 + 0 ≤ _), (by decide : 158 + 0 ≤ _)⟩)
  dsimp only [Pt.U, Pt.locs, Pt.cells, Pt.slots] at X1199 l1199 y1199 z1199 st1199 hQ1199
  subst l1199 y1199 z1199
  obtain ⟨rfl, Nq1199, eq1199⟩ := hQ1199
  have N1200 := Fr.app N1198 Nq1199
  refine gv st1199 ?_
  show G (T1199.setTop (mkF me_ 267 #[.val (.int p0), .val (.int p1), .val (.int p2), .val (.int p3), .val (.int (p0 &&& (3 : Int32))), .val (.int (p1 &&& (3 : Int32))), .val (.ref b924), .val (.ref b944), .val (.ref b973), .val (.ref b1014), .val (.ref b1082), .val (.ref s_1138)] [(.int (1 : Int32))]))
  refine gv (fun tQ kQ => XS.ifNo X1199.here hx rfl (hb hby at_267) rfl ((if0 _ _).trans (feq (by decide : ¬ ((1 : Int32) = (0 : Int32)))).1) kQ) ?_
  show G (T1199.setTop (mkF me_ 270 #[.val (.int p0), .val (.int p1), .val (.int p2), .val (.int p3), .val (.int (p0 &&& (3 : Int32))), .val (.int (p1 &&& (3 : Int32))), .val (.ref b924), .val (.ref b944), .val (.ref b973), .val (.ref b1014), .val (.ref b1082), .val (.ref s_1138)] []))
  refine gv (fun tQ kQ => XS.aload X1199.here hx rfl (hb hby at_270) rfl rfl kQ) ?_
  show G (T1199.setTop (mkF me_ 272 #[.val (.int p0), .val (.int p1), .val (.int p2), .val (.int p3), .val (.int (p0 &&& (3 : Int32))), .val (.int (p1 &&& (3 : Int32))), .val (.ref b924), .val (.ref b944), .val (.ref b973), .val (.ref b1014), .val (.ref b1082), .val (.ref s_1138)] [(.ref s_1138)]))
  refine gv (fun tQ kQ => XS.bipush X1199.here hx rfl (hb hby at_272) kQ) ?_
  show G (T1199.setTop (mkF me_ 274 #[.val (.int p0), .val (.int p1), .val (.int p2), .val (.int p3), .val (.int (p0 &&& (3 : Int32))), .val (.int (p1 &&& (3 : Int32))), .val (.ref b924), .val (.ref b944), .val (.ref b973), .val (.ref b1014), .val (.ref b1082), .val (.ref s_1138)] [(.int (6 : Int32)), (.ref s_1138)]))
  refine gv (fun tQ kQ => XS.iload X1199.here hx rfl (hb hby at_274) rfl kQ) ?_
  show G (T1199.setTop (mkF me_ 276 #[.val (.int p0), .val (.int p1), .val (.int p2), .val (.int p3), .val (.int (p0 &&& (3 : Int32))), .val (.int (p1 &&& (3 : Int32))), .val (.ref b924), .val (.ref b944), .val (.ref b973), .val (.ref b1014), .val (.ref b1082), .val (.ref s_1138)] [(.int (p0 &&& (3 : Int32))), (.int (6 : Int32)), (.ref s_1138)]))
  refine gv (fun tQ kQ => XS.aload X1199.here hx rfl (hb hby at_276) rfl rfl kQ) ?_
  show G (T1199.setTop (mkF me_ 278 #[.val (.int p0), .val (.int p1), .val (.int p2), .val (.int p3), .val (.int (p0 &&& (3 : Int32))), .val (.int (p1 &&& (3 : Int32))), .val (.ref b924), .val (.ref b944), .val (.ref b973), .val (.ref b1014), .val (.ref b1082), .val (.ref s_1138)] [(.ref b924), (.int (p0 &&& (3 : Int32))), (.int (6 : Int32)), (.ref s_1138)]))
  refine gv (fun tQ kQ => XS.iload X1199.here hx rfl (hb hby at_278) rfl kQ) ?_
  show G (T1199.setTop (mkF me_ 280 #[.val (.int p0), .val (.int p1), .val (.int p2), .val (.int p3), .val (.int (p0 &&& (3 : Int32))), .val (.int (p1 &&& (3 : Int32))), .val (.ref b924), .val (.ref b944), .val (.ref b973), .val (.ref b1014), .val (.ref b1082), .val (.ref s_1138)] [(.int (p1 &&& (3 : Int32))), (.ref b924), (.int (p0 &&& (3 : Int32))), (.int (6 : Int32)), (.ref s_1138)]))
  refine gv (fun tQ kQ => XS.aload X1199.here hx rfl (hb hby at_280) rfl rfl kQ) ?_
  show G (T1199.setTop (mkF me_ 282 #[.val (.int p0), .val (.int p1), .val (.int p2), .val (.int p3), .val (.int (p0 &&& (3 : Int32))), .val (.int (p1 &&& (3 : Int32))), .val (.ref b924), .val (.ref b944), .val (.ref b973), .val (.ref b1014), .val (.ref b1082), .val (.ref s_1138)] [(.ref b944), (.int (p1 &&& (3 : Int32))), (.ref b924), (.int (p0 &&& (3 : Int32))), (.int (6 : Int32)), (.ref s_1138)]))
  obtain ⟨_, _, ⟨T1201, L1201, k1201, n1201⟩, -, X1201, ⟨Lc1201, hQ1201, l1201, y1201, z1201⟩, st1201⟩ := Jvm.LawKit.callS X1199 hx (y := (⟨"com/example/dvalin/dvalin/ProblemToStringPinLaw", "at", "(Ljava/lang/String;II[CI[C)Z"⟩ : MethodName)) hown (mvT hZ (hw _ (List.mem_of_getElem? (i := 176) rfl))) (mvT hZ (hw _ (List.mem_of_getElem? (i := 177) rfl))) (mvT hZ (hw _ (List.mem_of_getElem? (i := 6) rfl))) (mvT hZ (hw _ (List.mem_of_getElem? (i := 178) rfl))) (by decide) (backOf (W := 0) (rm_at l Z a0 hw [] s_1138 r_1138 kr_1138 ((((0 : Int32) + (p0 &&& (3 : Int32))) + (2 : Int32)) + (p1 &&& (3 : Int32))) (own_V (p0 &&& (3 : Int32)) (p1 &&& (3 : Int32)) (own_bl (p0 &&& (3 : Int32)) ((p2 &&& (255 : Int32)).toUInt32.toUInt16.toUInt32.toInt32) ((((p2.toUInt32 >>> ((8 : Int32) &&& 31).toUInt32).toInt32) &&& (255 : Int32)).toUInt32.toUInt16.toUInt32.toInt32) ((((p2.toUInt32 >>> ((16 : Int32) &&& 31).toUInt32).toInt32) &&& (255 : Int32)).toUInt32.toUInt16.toUInt32.toInt32)) (own_bl (p1 &&& (3 : Int32)) ((p3 &&& (255 : Int32)).toUInt32.toUInt16.toUInt32.toInt32) ((((p3.toUInt32 >>> ((8 : Int32) &&& 31).toUInt32).toInt32) &&& (255 : Int32)).toUInt32.toUInt16.toUInt32.toInt32) ((((p3.toUInt32 >>> ((16 : Int32) &&& 31).toUInt32).toInt32) &&& (255 : Int32)).toUInt32.toUInt16.toUInt32.toInt32))) (6 : Int32) (p0 &&& (3 : Int32)) b924 k924 (p1 &&& (3 : Int32)) b944 k944 ((p2 &&& (255 : Int32)).toUInt32.toUInt16.toUInt32.toInt32) ((((p2.toUInt32 >>> ((8 : Int32) &&& 31).toUInt32).toInt32) &&& (255 : Int32)).toUInt32.toUInt16.toUInt32.toInt32) ((((p2.toUInt32 >>> ((16 : Int32) &&& 31).toUInt32).toInt32) &&& (255 : Int32)).toUInt32.toUInt16.toUInt32.toInt32) ((p3 &&& (255 : Int32)).toUInt32.toUInt16.toUInt32.toInt32) ((((p3.toUInt32 >>> ((8 : Int32) &&& 31).toUInt32).toInt32) &&& (255 : Int32)).toUInt32.toUInt16.toUInt32.toInt32) ((((p3.toUInt32 >>> ((16 : Int32) &&& 31).toUInt32).toInt32) &&& (255 : Int32)).toUInt32.toUInt16.toUInt32.toInt32) cs fmt h1138 n0 O1186 u0 u1 u2 u3 w1138_2 w1138_3 w1138_4 w1138_5 f1171 f1172 (by decide) (own_and3 p0) (own_and3 p1) (own_text (own_and3 p0) (own_and3 p1) _ _ _ _ _ _) (⟨own_byl _, own_byl _, own_byl _, own_byl _, own_byl _, own_byl _⟩)) hZ (hw _ (List.mem_of_getElem? (i := 178) rfl)) (hw _ (List.mem_of_getElem? (i := 6) rfl)) (by decide) (by decide)) (g := (mkF me_ 282 #[.val (.int p0), .val (.int p1), .val (.int p2), .val (.int p3), .val (.int (p0 &&& (3 : Int32))), .val (.int (p1 &&& (3 : Int32))), .val (.ref b924), .val (.ref b944), .val (.ref b973), .val (.ref b1014), .val (.ref b1082), .val (.ref s_1138)] [(.ref b944), (.int (p1 &&& (3 : Int32))), (.ref b924), (.int (p0 &&& (3 : Int32))), (.int (6 : Int32)), (.ref s_1138)])) rfl (by rw [hml]; rfl) (argsL := [(.ref s_1138), (.int (6 : Int32)), (.int (p0 &&& (3 : Int32))), (.ref b924), (.int (p1 &&& (3 : Int32))), (.ref b944)]) (rest := []) (lenOf pd_28 rfl) rfl (by show 2 * 0 + _ ≤ _; exact Nat.le_of_eq rfl) (hb hby at_282) (fun _ _ => ⟨rfl, eq1199, (by decide : 25 + 0 ≤ _), (by decide : 158 + 0 ≤ _)⟩)
  dsimp only [Pt.U, Pt.locs, Pt.cells, Pt.slots] at X1201 l1201 y1201 z1201 st1201 hQ1201
  subst l1201 y1201 z1201
  obtain ⟨rfl, Nq1201, eq1201⟩ := hQ1201
  have N1202 := Fr.app N1200 Nq1201
  refine gv st1201 ?_
  show G (T1201.setTop (mkF me_ 285 #[.val (.int p0), .val (.int p1), .val (.int p2), .val (.int p3), .val (.int (p0 &&& (3 : Int32))), .val (.int (p1 &&& (3 : Int32))), .val (.ref b924), .val (.ref b944), .val (.ref b973), .val (.ref b1014), .val (.ref b1082), .val (.ref s_1138)] [(.int (1 : Int32))]))
  refine gv (fun tQ kQ => XS.ifNo X1201.here hx rfl (hb hby at_285) rfl ((if0 _ _).trans (feq (by decide : ¬ ((1 : Int32) = (0 : Int32)))).1) kQ) ?_
  show G (T1201.setTop (mkF me_ 288 #[.val (.int p0), .val (.int p1), .val (.int p2), .val (.int p3), .val (.int (p0 &&& (3 : Int32))), .val (.int (p1 &&& (3 : Int32))), .val (.ref b924), .val (.ref b944), .val (.ref b973), .val (.ref b1014), .val (.ref b1082), .val (.ref s_1138)] []))
  refine gv (fun tQ kQ => XS.aload X1201.here hx rfl (hb hby at_288) rfl rfl kQ) ?_
  show G (T1201.setTop (mkF me_ 290 #[.val (.int p0), .val (.int p1), .val (.int p2), .val (.int p3), .val (.int (p0 &&& (3 : Int32))), .val (.int (p1 &&& (3 : Int32))), .val (.ref b924), .val (.ref b944), .val (.ref b973), .val (.ref b1014), .val (.ref b1082), .val (.ref s_1138)] [(.ref s_1138)]))
  refine gv (fun tQ kQ => XS.bipush X1201.here hx rfl (hb hby at_290) kQ) ?_
  show G (T1201.setTop (mkF me_ 292 #[.val (.int p0), .val (.int p1), .val (.int p2), .val (.int p3), .val (.int (p0 &&& (3 : Int32))), .val (.int (p1 &&& (3 : Int32))), .val (.ref b924), .val (.ref b944), .val (.ref b973), .val (.ref b1014), .val (.ref b1082), .val (.ref s_1138)] [(.int (7 : Int32)), (.ref s_1138)]))
  refine gv (fun tQ kQ => XS.iload X1201.here hx rfl (hb hby at_292) rfl kQ) ?_
  show G (T1201.setTop (mkF me_ 294 #[.val (.int p0), .val (.int p1), .val (.int p2), .val (.int p3), .val (.int (p0 &&& (3 : Int32))), .val (.int (p1 &&& (3 : Int32))), .val (.ref b924), .val (.ref b944), .val (.ref b973), .val (.ref b1014), .val (.ref b1082), .val (.ref s_1138)] [(.int (p0 &&& (3 : Int32))), (.int (7 : Int32)), (.ref s_1138)]))
  refine gv (fun tQ kQ => XS.aload X1201.here hx rfl (hb hby at_294) rfl rfl kQ) ?_
  show G (T1201.setTop (mkF me_ 296 #[.val (.int p0), .val (.int p1), .val (.int p2), .val (.int p3), .val (.int (p0 &&& (3 : Int32))), .val (.int (p1 &&& (3 : Int32))), .val (.ref b924), .val (.ref b944), .val (.ref b973), .val (.ref b1014), .val (.ref b1082), .val (.ref s_1138)] [(.ref b924), (.int (p0 &&& (3 : Int32))), (.int (7 : Int32)), (.ref s_1138)]))
  refine gv (fun tQ kQ => XS.iload X1201.here hx rfl (hb hby at_296) rfl kQ) ?_
  show G (T1201.setTop (mkF me_ 298 #[.val (.int p0), .val (.int p1), .val (.int p2), .val (.int p3), .val (.int (p0 &&& (3 : Int32))), .val (.int (p1 &&& (3 : Int32))), .val (.ref b924), .val (.ref b944), .val (.ref b973), .val (.ref b1014), .val (.ref b1082), .val (.ref s_1138)] [(.int (p1 &&& (3 : Int32))), (.ref b924), (.int (p0 &&& (3 : Int32))), (.int (7 : Int32)), (.ref s_1138)]))
  refine gv (fun tQ kQ => XS.aload X1201.here hx rfl (hb hby at_298) rfl rfl kQ) ?_
  show G (T1201.setTop (mkF me_ 300 #[.val (.int p0), .val (.int p1), .val (.int p2), .val (.int p3), .val (.int (p0 &&& (3 : Int32))), .val (.int (p1 &&& (3 : Int32))), .val (.ref b924), .val (.ref b944), .val (.ref b973), .val (.ref b1014), .val (.ref b1082), .val (.ref s_1138)] [(.ref b944), (.int (p1 &&& (3 : Int32))), (.ref b924), (.int (p0 &&& (3 : Int32))), (.int (7 : Int32)), (.ref s_1138)]))
  obtain ⟨_, _, ⟨T1203, L1203, k1203, n1203⟩, -, X1203, ⟨Lc1203, hQ1203, l1203, y1203, z1203⟩, st1203⟩ := Jvm.LawKit.callS X1201 hx (y := (⟨"com/example/dvalin/dvalin/ProblemToStringPinLaw", "at", "(Ljava/lang/String;II[CI[C)Z"⟩ : MethodName)) hown (mvT hZ (hw _ (List.mem_of_getElem? (i := 176) rfl))) (mvT hZ (hw _ (List.mem_of_getElem? (i := 177) rfl))) (mvT hZ (hw _ (List.mem_of_getElem? (i := 6) rfl))) (mvT hZ (hw _ (List.mem_of_getElem? (i := 178) rfl))) (by decide) (backOf (W := 0) (rm_at l Z a0 hw [] s_1138 r_1138 kr_1138 ((((0 : Int32) + (p0 &&& (3 : Int32))) + (2 : Int32)) + (p1 &&& (3 : Int32))) (own_V (p0 &&& (3 : Int32)) (p1 &&& (3 : Int32)) (own_bl (p0 &&& (3 : Int32)) ((p2 &&& (255 : Int32)).toUInt32.toUInt16.toUInt32.toInt32) ((((p2.toUInt32 >>> ((8 : Int32) &&& 31).toUInt32).toInt32) &&& (255 : Int32)).toUInt32.toUInt16.toUInt32.toInt32) ((((p2.toUInt32 >>> ((16 : Int32) &&& 31).toUInt32).toInt32) &&& (255 : Int32)).toUInt32.toUInt16.toUInt32.toInt32)) (own_bl (p1 &&& (3 : Int32)) ((p3 &&& (255 : Int32)).toUInt32.toUInt16.toUInt32.toInt32) ((((p3.toUInt32 >>> ((8 : Int32) &&& 31).toUInt32).toInt32) &&& (255 : Int32)).toUInt32.toUInt16.toUInt32.toInt32) ((((p3.toUInt32 >>> ((16 : Int32) &&& 31).toUInt32).toInt32) &&& (255 : Int32)).toUInt32.toUInt16.toUInt32.toInt32))) (7 : Int32) (p0 &&& (3 : Int32)) b924 k924 (p1 &&& (3 : Int32)) b944 k944 ((p2 &&& (255 : Int32)).toUInt32.toUInt16.toUInt32.toInt32) ((((p2.toUInt32 >>> ((8 : Int32) &&& 31).toUInt32).toInt32) &&& (255 : Int32)).toUInt32.toUInt16.toUInt32.toInt32) ((((p2.toUInt32 >>> ((16 : Int32) &&& 31).toUInt32).toInt32) &&& (255 : Int32)).toUInt32.toUInt16.toUInt32.toInt32) ((p3 &&& (255 : Int32)).toUInt32.toUInt16.toUInt32.toInt32) ((((p3.toUInt32 >>> ((8 : Int32) &&& 31).toUInt32).toInt32) &&& (255 : Int32)).toUInt32.toUInt16.toUInt32.toInt32) ((((p3.toUInt32 >>> ((16 : Int32) &&& 31).toUInt32).toInt32) &&& (255 : Int32)).toUInt32.toUInt16.toUInt32.toInt32) cs fmt h1138 n0 O1186 u0 u1 u2 u3 w1138_2 w1138_3 w1138_4 w1138_5 f1171 f1172 (by decide) (own_and3 p0) (own_and3 p1) (own_text (own_and3 p0) (own_and3 p1) _ _ _ _ _ _) (⟨own_byl _, own_byl _, own_byl _, own_byl _, own_byl _, own_byl _⟩)) hZ (hw _ (List.mem_of_getElem? (i := 178) rfl)) (hw _ (List.mem_of_getElem? (i := 6) rfl)) (by decide) (by decide)) (g := (mkF me_ 300 #[.val (.int p0), .val (.int p1), .val (.int p2), .val (.int p3), .val (.int (p0 &&& (3 : Int32))), .val (.int (p1 &&& (3 : Int32))), .val (.ref b924), .val (.ref b944), .val (.ref b973), .val (.ref b1014), .val (.ref b1082), .val (.ref s_1138)] [(.ref b944), (.int (p1 &&& (3 : Int32))), (.ref b924), (.int (p0 &&& (3 : Int32))), (.int (7 : Int32)), (.ref s_1138)])) rfl (by rw [hml]; rfl) (argsL := [(.ref s_1138), (.int (7 : Int32)), (.int (p0 &&& (3 : Int32))), (.ref b924), (.int (p1 &&& (3 : Int32))), (.ref b944)]) (rest := []) (lenOf pd_28 rfl) rfl (by show 2 * 0 + _ ≤ _; exact Nat.le_of_eq rfl) (hb hby at_300) (fun _ _ => ⟨rfl, eq1201, (by decide : 25 + 0 ≤ _), (by decide : 158 + 0 ≤ _)⟩)
  dsimp only [Pt.U, Pt.locs, Pt.cells, Pt.slots] at X1203 l1203 y1203 z1203 st1203 hQ1203
  subst l1203 y1203 z1203
  obtain ⟨rfl, Nq1203, eq1203⟩ := hQ1203
  have N1204 := Fr.app N1202 Nq1203
  refine gv st1203 ?_
  show G (T1203.setTop (mkF me_ 303 #[.val (.int p0), .val (.int p1), .val (.int p2), .val (.int p3), .val (.int (p0 &&& (3 : Int32))), .val (.int (p1 &&& (3 : Int32))), .val (.ref b924), .val (.ref b944), .val (.ref b973), .val (.ref b1014), .val (.ref b1082), .val (.ref s_1138)] [(.int (1 : Int32))]))
  refine gv (fun tQ kQ => XS.ifNo X1203.here hx rfl (hb hby at_303) rfl ((if0 _ _).trans (feq (by decide : ¬ ((1 : Int32) = (0 : Int32)))).1) kQ) ?_
  show G (T1203.setTop (mkF me_ 306 #[.val (.int p0), .val (.int p1), .val (.int p2), .val (.int p3), .val (.int (p0 &&& (3 : Int32))), .val (.int (p1 &&& (3 : Int32))), .val (.ref b924), .val (.ref b944), .val (.ref b973), .val (.ref b1014), .val (.ref b1082), .val (.ref s_1138)] []))
  refine gv (fun tQ kQ => XS.iconst X1203.here hx rfl (hb hby at_306) kQ) ?_
  show G (T1203.setTop (mkF me_ 307 #[.val (.int p0), .val (.int p1), .val (.int p2), .val (.int p3), .val (.int (p0 &&& (3 : Int32))), .val (.int (p1 &&& (3 : Int32))), .val (.ref b924), .val (.ref b944), .val (.ref b973), .val (.ref b1014), .val (.ref b1082), .val (.ref s_1138)] [(.int (1 : Int32))]))
  refine gv (fun tQ kQ => XS.goto X1203.here hx rfl (pc0 := 307) (pc' := 311) rfl (hb hby at_307) (by decide) (by decide) kQ) ?_
  show G (T1203.setTop (mkF me_ 311 #[.val (.int p0), .val (.int p1), .val (.int p2), .val (.int p3), .val (.int (p0 &&& (3 : Int32))), .val (.int (p1 &&& (3 : Int32))), .val (.ref b924), .val (.ref b944), .val (.ref b973), .val (.ref b1014), .val (.ref b1082), .val (.ref s_1138)] [(.int (1 : Int32))]))
  refine gf _ (own_retW X1203 Bd.notSynchronized hS (by rw [eq1203]; exact hk) (v := some (.int (1 : Int32))) (fun h => by rw [Bd.returns] at h; cases h) ?_ (by decide) (by decide) (by rw [hh, eq1203]; exact CR.trans (CHv.at X1203 hZ hEL CR.1)) (fun fs hr => retN X1203 hx (t := .boolean) Bd.returns (by simp) (hb hby at_311) hr))
  show Q0 Z p0 p1 p2 p3 cs fmt h0 n0 _ T1203.heap _
  rw [eq1203]
  exact ⟨rfl, N1204⟩
set_option maxRecDepth 65536 in
set_option maxHeartbeats 40000000 in
theorem comes_1 {Post : Tables → Env → Array Value → State → Outcome → State → Prop} (hpost : ∀ tb e args s v u, (limb_1_1.after args s (.returned v) u = true ∧ limb_1_2.after args s (.returned v) u = true ∧ True) → ReturnedEndW s (.returned v) u (Jvm.fieldLocs frame_1_writes args s ++ Jvm.arrayLocs frame_1_arrays args s ++ Jvm.staticLocs frame_1_statics s) 48 4352 → Post tb e args s (.returned v) u) :
    ArmFor flags0 classFile x code maxLocals ret World_1 tables_1 room_1 Calls_1 rest_1 Pre_1 Post := by
  intro l hfl _ _ p e ha hc hk s m args below hf hA hF happ hP
  obtain ⟨hcalls, hrest, hpre⟩ := hP
  obtain ⟨-, -, -, hnamed, -, -, -, hat⟩ := (Spec.applies_iff hf).mp happ
  obtain ⟨hg, hn⟩ := and_e (Cond.before_iff.mp (show (Jvm.Cond.and given_1 narrow_1).before args s = true from hpre))
  obtain ⟨g1, g2⟩ := and_e hg
  obtain ⟨g3, g4⟩ := and_e g2
  obtain ⟨g5, g6⟩ := and_e g4
  obtain ⟨g7, g8⟩ := and_e g6
  obtain ⟨w0, w1, w2, w3, rfl⟩ : ∃ w0 w1 w2 w3 : Value, args = #[w0, w1, w2, w3] := by
    have hs : args.size = 4 := by simpa [Cond.value, given_1] using g1
    obtain ⟨L⟩ := args
    match L, hs with
    | [w0, w1, w2, w3], _ => exact ⟨w0, w1, w2, w3, rfl⟩
  have hw := fun d (hd : d ∈ tables_1) => atoms_spec (ws := Jvm.Cond.code x code maxLocals ret :: tables_1) hat d (List.mem_cons_of_mem _ hd)
  have hfit : Fit s := fun {y c} hc i hi => by
    obtain ⟨ha, rfl⟩ := Array.getElem?_eq_some_iff.mp hc
    have q := List.all_eq_true.mp ((Array.all_eq_true_iff_forall_mem.mp hF) _ (Array.getElem_mem ha)) i (List.mem_range.mpr hi)
    simpa [Array.getElem?_eq_getElem hi] using q
  obtain ⟨hsets, hown0⟩ := atoms_of _ (rest_1_c_eq ▸ (show rest_1_c.before _ s = true from hrest))
  obtain ⟨i0, ei0⟩ := is_v g3
  obtain rfl : w0 = (.int i0) := Option.some.inj ei0
  obtain ⟨i1, ei1⟩ := is_v g5
  obtain rfl : w1 = (.int i1) := Option.some.inj ei1
  obtain ⟨i2, ei2⟩ := is_v g7
  obtain rfl : w2 = (.int i2) := Option.some.inj ei2
  obtain ⟨i3, ei3⟩ := is_v g8
  obtain rfl : w3 = (.int i3) := Option.some.inj ei3
  obtain ⟨cs, ev_cs⟩ := is_v (Cond.before_iff.mp (hsets _ (List.mem_of_getElem? (i := 1) rfl)))
  have S_cs : Sta s s.heap "java/lang/String" "COMPACT_STRINGS" "Z" (.int cs) := Sta.start ev_cs (Or.inl (hsets _ (List.mem_of_getElem? (i := 0) rfl)))
  have n_cs : ¬ (cs = (0 : Int32)) := own_not0 ev_cs (Cond.before_iff.mp (hsets _ (List.mem_of_getElem? (i := 2) rfl)))
  obtain ⟨fmt, ev_fm, r_fm⟩ := own_isref (Cond.before_iff.mp (hsets _ (List.mem_of_getElem? (i := 8) rfl)))
  have S_fm : Sta s s.heap "jdk/internal/util/Preconditions" "SIOOBE_FORMATTER" "Ljava/util/function/BiFunction;" fmt := Sta.start ev_fm (Or.inl (hsets _ (List.mem_of_getElem? (i := 7) rfl)))
  obtain ⟨n, o, h1, h2, h3, _, L, rfl, ⟨rfl, N⟩, -, hq⟩ := rm0 l s _ hw tables_1 i0 i1 i2 i3 cs fmt s.heap s.heap.size (Old.start s) S_cs n_cs r_fm S_fm p e ha hc hk s m _ below hf ((Spec.applies_iff_loose hf).mp happ).1 ⟨rfl, State.Warmed39.refl s, rfl, CHv.start (own_hEL hw) (fun q hq => hcalls.1 q hq) (hsets _ (List.mem_of_getElem? (i := 2) rfl)) (hw _ (List.mem_of_getElem? (i := 19) rfl)) (hw _ (List.mem_of_getElem? (i := 2) rfl)), fun _ q => nomatch q⟩ trivial
  refine ⟨n, _, h1, h2, h3, hpost _ _ _ _ _ _ ⟨Cond.after_iff.mpr rfl, Cond.after_iff.mpr (eq_i res_at (Term.int_eval (1)) rfl), trivial⟩ ⟨hq.1, hq.2.1, hq.2.2.1, (hq.2.2.2.sift fun y hy => Or.inr (N y hy)).mono (by decide) (by decide)⟩⟩
theorem main_1_1 : Claimed_1_1 := comes_1 fun _ _ _ _ _ _ h hF => ⟨h.1, hF⟩
theorem main_1_2 : Claimed_1_2 := comes_1 fun _ _ _ _ _ _ h hF => ⟨h.2.1, hF⟩
end Jvm.Pilot.@@N@@
namespace Jvm.Pilot.@@N@@
open Jvm Jvm.ClassFile Sem Op Lib Jvm.Free Jvm.Stand Jvm.Pilot.@@N@@.Jvm.D
/-! MADE BY PROGRAM (witnessworld.py) out of the Statement's table words and the real class files: 28 classes; the members and pool entries that the words name. The judged class is class 1, her method 1. -/
namespace start1
open Jvm.ClassFile
def u (s : String) : CpInfo := .utf8 (stringToUtf16 s)
/-- a pool by its gaps: so many unusable entries, then the entry; so many at the end -/
def gap : Nat → List CpInfo → List CpInfo
  | 0, r => r
  | n + 1, r => .unusable :: gap n r
def poolList (es : List (Nat × CpInfo)) (last : Nat) : List CpInfo := es.foldr (fun e r => gap e.1 (e.2 :: r)) (gap last [])
def pool (es : List (Nat × CpInfo)) (last : Nat) : Array CpInfo := ⟨poolList es last⟩
def fileOf (pool : Array CpInfo) (this : Nat) (attrs : Array Attribute := #[]) (ms : Array MethodInfo := #[]) (fl : Nat := 33) (sup : Nat := 0) (ifs : Array Nat := #[]) (fds : Array FieldInfo := #[]) : ClassFile where
  minorVersion := 0
  majorVersion := 65
  constantPool := pool
  accessFlags := fl
  thisClass := this
  superClass := sup
  interfaces := ifs
  fields := fds
  methods := ms
  attributes := attrs
def plain (name : String) (sup : Option ClassId) : Class where
  name := name
  kind := .ordinary
  loader := none
  accessFlags := 33
  super := sup
  interfaces := #[]
  cf := none
  fields := #[]
  methods := #[]
  instanceTypes := #[]
  staticTypes := #[]
  resolved := #[]
  callSites := []
  init := .initialized
  statics := none
  mirror := none

def pool0 : Array CpInfo := pool [(5, u "<init>"), (0, u "()V"), (1, .class_ 10), (1, u "java/lang/Object")] 113

def k0c0 : Code := { maxStack := 0, maxLocals := 1, code := object_method_1_code, exceptionTable := #[], attributes := #[] }
def k0m0 : Method := { name := "<init>", desc := "()V", sig := { parameters := [], returnType := none }, accessFlags := 1, code := some k0c0 }
/-- java/lang/Object -/
def k0 : Class := { plain "java/lang/Object" none with
  accessFlags := 33
  interfaces := #[]
  cf := some (fileOf pool0 8 #[] #[{ accessFlags := 1, nameIndex := 5, descriptorIndex := 6, attributes := #[] }] 33 0 #[] #[])
  fields := #[]
  methods := #[k0m0]
  instanceTypes := #[]
  staticTypes := #[]
  resolved := Array.replicate 124 none
  statics := none }

def pool1 : Array CpInfo := pool [(2, .class_ 4), (1, u "java/lang/Object"), (0, u "<init>"), (0, u "()V"), (0, .class_ 8), (0, u "java/lang/String"), (0, .methodref 10 11), (0, .class_ 12), (0, .nameAndType 13 14), (0, u "com/example/dvalin/dvalin/ProblemToStringPinLaw"), (0, u "take"), (0, u "([CI)[C"), (0, .methodref 7 16), (0, .nameAndType 5 17), (0, u "([C)V"), (0, .class_ 19), (0, u "com/example/dvalin/dvalin/RegistryException$Problem"), (0, .methodref 18 21), (0, .nameAndType 5 22), (0, u "(Ljava/lang/String;Ljava/lang/String;)V"), (0, .methodref 18 24), (0, .nameAndType 25 26), (0, u "toString"), (0, u "()Ljava/lang/String;"), (0, .methodref 7 28), (0, .nameAndType 29 30), (0, u "length"), (0, u "()I"), (0, .methodref 10 32), (0, .nameAndType 33 34), (0, u "at"), (0, u "(Ljava/lang/String;II[CI[C)Z"), (0, .methodref 7 36), (0, .nameAndType 37 38), (0, u "charAt"), (0, u "(I)C"), (2, u "law"), (0, u "(IIII)Z")] 9

def k1m0 : Method := { name := "<init>", desc := "()V", sig := { parameters := [], returnType := none }, accessFlags := 1, code := none }
def k1c1 : Code := { maxStack := 6, maxLocals := 12, code := code, exceptionTable := #[], attributes := #[] }
def k1m1 : Method := { name := "law", desc := "(IIII)Z", sig := { parameters := [.int, .int, .int, .int], returnType := some .boolean }, accessFlags := 9, code := some k1c1 }
def k1c2 : Code := { maxStack := 4, maxLocals := 3, code := method_3_code, exceptionTable := #[], attributes := #[] }
def k1m2 : Method := { name := "take", desc := "([CI)[C", sig := { parameters := [(.array .char), .int], returnType := some (.array .char) }, accessFlags := 10, code := some k1c2 }
def k1c3 : Code := { maxStack := 3, maxLocals := 7, code := method_4_code, exceptionTable := #[], attributes := #[] }
def k1m3 : Method := { name := "at", desc := "(Ljava/lang/String;II[CI[C)Z", sig := { parameters := [(.object "java/lang/String"), .int, .int, (.array .char), .int, (.array .char)], returnType := some .boolean }, accessFlags := 10, code := some k1c3 }
/-- com/example/dvalin/dvalin/ProblemToStringPinLaw -/
def k1 : Class := { plain "com/example/dvalin/dvalin/ProblemToStringPinLaw" (some 0) with
  accessFlags := 49
  interfaces := #[]
  cf := some (fileOf pool1 10 #[] #[{ accessFlags := 1, nameIndex := 5, descriptorIndex := 6, attributes := #[] }, { accessFlags := 9, nameIndex := 41, descriptorIndex := 42, attributes := #[] }, { accessFlags := 10, nameIndex := 13, descriptorIndex := 14, attributes := #[] }, { accessFlags := 10, nameIndex := 33, descriptorIndex := 34, attributes := #[] }] 49 2 #[] #[])
  fields := #[]
  methods := #[k1m0, k1m1, k1m2, k1m3]
  instanceTypes := #[]
  staticTypes := #[]
  resolved := Array.replicate 52 none
  statics := none }

def pool2 : Array CpInfo := pool [(1, .class_ 2), (0, u "java/io/Serializable"), (0, .class_ 4), (0, u "java/lang/Object")] 2

/-- java/io/Serializable -/
def k2 : Class := { plain "java/io/Serializable" (some 0) with
  accessFlags := 1537
  interfaces := #[]
  cf := some (fileOf pool2 1 #[] #[] 1537 3 #[] #[])
  fields := #[]
  methods := #[]
  instanceTypes := #[]
  staticTypes := #[]
  resolved := Array.replicate 7 none
  statics := none }

def pool3 : Array CpInfo := pool [(1, .class_ 2), (0, u "java/lang/Comparable"), (0, .class_ 4), (0, u "java/lang/Object")] 7

/-- java/lang/Comparable -/
def k3 : Class := { plain "java/lang/Comparable" (some 0) with
  accessFlags := 1537
  interfaces := #[]
  cf := some (fileOf pool3 1 #[] #[] 1537 3 #[] #[])
  fields := #[]
  methods := #[]
  instanceTypes := #[]
  staticTypes := #[]
  resolved := Array.replicate 12 none
  statics := none }

def pool4 : Array CpInfo := pool [(2, .class_ 4), (1, u "java/lang/CharSequence"), (42, .class_ 48), (0, u "java/lang/CharSequence$1CodePointIterator"), (10, .class_ 60), (0, u "java/lang/CharSequence$1CharIterator"), (5, .class_ 67), (0, u "java/lang/Object")] 63

/-- java/lang/CharSequence -/
def k4 : Class := { plain "java/lang/CharSequence" (some 0) with
  accessFlags := 1537
  interfaces := #[]
  cf := some (fileOf pool4 2 #[.nestMembers #[47, 59]] #[] 1537 66 #[] #[])
  fields := #[]
  methods := #[]
  instanceTypes := #[]
  staticTypes := #[]
  resolved := Array.replicate 131 none
  statics := none }

def pool5 : Array CpInfo := pool [(1, .class_ 2), (0, u "java/lang/constant/Constable"), (0, .class_ 4), (0, u "java/lang/Object")] 6

/-- java/lang/constant/Constable -/
def k5 : Class := { plain "java/lang/constant/Constable" (some 0) with
  accessFlags := 1537
  interfaces := #[]
  cf := some (fileOf pool5 1 #[] #[] 1537 3 #[] #[])
  fields := #[]
  methods := #[]
  instanceTypes := #[]
  staticTypes := #[]
  resolved := Array.replicate 11 none
  statics := none }

def pool6 : Array CpInfo := pool [(1, .class_ 2), (0, u "java/lang/constant/ConstantDesc"), (0, .class_ 4), (0, u "java/lang/Object")] 32

/-- java/lang/constant/ConstantDesc -/
def k6 : Class := { plain "java/lang/constant/ConstantDesc" (some 0) with
  accessFlags := 1537
  interfaces := #[]
  cf := some (fileOf pool6 1 #[] #[] 1537 3 #[] #[])
  fields := #[]
  methods := #[]
  instanceTypes := #[]
  staticTypes := #[]
  resolved := Array.replicate 37 none
  statics := none }

def pool7 : Array CpInfo := pool [(1, .methodref 2 3), (0, .class_ 4), (0, .nameAndType 5 6), (0, u "java/lang/Object"), (0, u "<init>"), (0, u "()V"), (0, .string 8), (0, u ""), (0, .fieldref 10 11), (0, .class_ 12), (0, .nameAndType 13 14), (0, u "java/lang/String"), (0, u "value"), (0, u "[B"), (0, .fieldref 10 16), (0, .nameAndType 17 18), (0, u "coder"), (0, u "B"), (2, u "hash"), (0, u "I"), (2, u "hashIsZero"), (0, u "Z"), (0, .methodref 10 28), (0, .nameAndType 5 29), (0, u "([CIILjava/lang/Void;)V"), (8, .fieldref 10 39), (0, .nameAndType 40 26), (0, u "COMPACT_STRINGS"), (1, .class_ 44), (1, u "java/lang/StringUTF16"), (0, u "compress"), (1, .methodref 42 48), (0, .nameAndType 49 50), (0, u "coderFromArrayLen"), (0, u "([BI)B"), (3, .methodref 55 56), (0, .class_ 57), (0, .nameAndType 58 59), (0, u "java/util/Arrays"), (0, u "copyOfRange"), (0, u "([BII)[B"), (47, .class_ 109), (1, u "java/lang/StringLatin1"), (32, u "()Z"), (34, .methodref 42 178), (0, .nameAndType 45 179), (0, u "([CII)[B"), (13, .class_ 195), (1, u "java/lang/System"), (16, .methodref 193 213), (0, .nameAndType 214 215), (0, u "arraycopy"), (0, u "(Ljava/lang/Object;ILjava/lang/Object;II)V"), (118, u "()I"), (0, .methodref 10 336), (0, .nameAndType 17 337), (0, u "()B"), (2, u "()[B"), (22, u "([BI)C"), (27, u "(II)V"), (35, u "(I)C"), (61, .methodref 10 490), (0, .nameAndType 5 491), (0, u "(Ljava/lang/AbstractStringBuilder;Ljava/lang/Void;)V"), (0, .methodref 10 493), (0, .nameAndType 494 142), (0, u "isLatin1"), (0, .methodref 107 496), (0, .nameAndType 497 363), (0, u "charAt"), (3, u "checkIndex"), (4, .nameAndType 507 334), (0, u "length"), (24, u "getBytes"), (16, .methodref 550 506), (0, .class_ 551), (0, u "java/lang/AbstractStringBuilder"), (0, .methodref 550 553), (0, .nameAndType 554 340), (0, u "getValue"), (20, .class_ 576), (0, u "java/lang/CharSequence"), (22, u "CASE_INSENSITIVE_ORDER"), (0, u "Ljava/util/Comparator;"), (220, u "([BIB)V"), (188, u "([C)V"), (36, .methodref 550 493), (5, .fieldref 1054 1055), (0, .class_ 1056), (0, .nameAndType 1057 1058), (0, u "jdk/internal/util/Preconditions"), (0, u "SIOOBE_FORMATTER"), (0, u "Ljava/util/function/BiFunction;"), (0, .methodref 1054 1060), (0, .nameAndType 501 1061), (0, u "(IILjava/util/function/BiFunction;)I"), (39, u "serialPersistentFields"), (0, u "[Ljava/io/ObjectStreamField;"), (0, .class_ 1104), (0, u "java/lang/String$CaseInsensitiveComparator"), (1, .class_ 1107), (0, u "java/io/Serializable"), (0, .class_ 1109), (0, u "java/lang/Comparable"), (0, .class_ 1111), (0, u "java/lang/constant/Constable"), (0, .class_ 1113), (0, u "java/lang/constant/ConstantDesc"), (2, u "serialVersionUID"), (0, u "J"), (3, u "REPL"), (0, u "C"), (2, u "LATIN1"), (1, u "UTF16"), (105, u "(Ljava/lang/StringBuilder;)V")] 217

def k7m0 : Method := { name := "<init>", desc := "()V", sig := { parameters := [], returnType := none }, accessFlags := 1, code := none }
def k7c1 : Code := { maxStack := 5, maxLocals := 2, code := jdk_42_method_3_code, exceptionTable := #[], attributes := #[] }
def k7m1 : Method := { name := "<init>", desc := "([C)V", sig := { parameters := [(.array .char)], returnType := none }, accessFlags := 1, code := some k7c1 }
def k7c2 : Code := { maxStack := 3, maxLocals := 2, code := jdk_42_method_53_code, exceptionTable := #[], attributes := #[] }
def k7m2 : Method := { name := "<init>", desc := "(Ljava/lang/StringBuilder;)V", sig := { parameters := [(.object "java/lang/StringBuilder")], returnType := none }, accessFlags := 1, code := some k7c2 }
def k7c3 : Code := { maxStack := 2, maxLocals := 1, code := jdk_42_method_54_code, exceptionTable := #[], attributes := #[] }
def k7m3 : Method := { name := "length", desc := "()I", sig := { parameters := [], returnType := some .int }, accessFlags := 1, code := some k7c3 }
def k7c4 : Code := { maxStack := 2, maxLocals := 2, code := jdk_42_method_56_code, exceptionTable := #[], attributes := #[] }
def k7m4 : Method := { name := "charAt", desc := "(I)C", sig := { parameters := [.int], returnType := some .char }, accessFlags := 1, code := some k7c4 }
def k7c5 : Code := { maxStack := 5, maxLocals := 4, code := jdk_42_method_147_code, exceptionTable := #[], attributes := #[] }
def k7m5 : Method := { name := "getBytes", desc := "([BIB)V", sig := { parameters := [(.array .byte), .int, .byte], returnType := none }, accessFlags := 0, code := some k7c5 }
def k7c6 : Code := { maxStack := 4, maxLocals := 6, code := jdk_42_method_149_code, exceptionTable := #[], attributes := #[] }
def k7m6 : Method := { name := "<init>", desc := "([CIILjava/lang/Void;)V", sig := { parameters := [(.array .char), .int, .int, (.object "java/lang/Void")], returnType := none }, accessFlags := 2, code := some k7c6 }
def k7c7 : Code := { maxStack := 5, maxLocals := 5, code := jdk_42_method_150_code, exceptionTable := #[], attributes := #[] }
def k7m7 : Method := { name := "<init>", desc := "(Ljava/lang/AbstractStringBuilder;Ljava/lang/Void;)V", sig := { parameters := [(.object "java/lang/AbstractStringBuilder"), (.object "java/lang/Void")], returnType := none }, accessFlags := 0, code := some k7c7 }
def k7c8 : Code := { maxStack := 1, maxLocals := 1, code := jdk_42_method_152_code, exceptionTable := #[], attributes := #[] }
def k7m8 : Method := { name := "coder", desc := "()B", sig := { parameters := [], returnType := some .byte }, accessFlags := 0, code := some k7c8 }
def k7c9 : Code := { maxStack := 1, maxLocals := 1, code := jdk_42_method_154_code, exceptionTable := #[], attributes := #[] }
def k7m9 : Method := { name := "isLatin1", desc := "()Z", sig := { parameters := [], returnType := some .boolean }, accessFlags := 0, code := some k7c9 }
def k7c10 : Code := { maxStack := 3, maxLocals := 2, code := jdk_42_method_155_code, exceptionTable := #[], attributes := #[] }
def k7m10 : Method := { name := "checkIndex", desc := "(II)V", sig := { parameters := [.int, .int], returnType := none }, accessFlags := 8, code := some k7c10 }
/-- java/lang/String -/
def k7 : Class := { plain "java/lang/String" (some 0) with
  accessFlags := 49
  interfaces := #[2, 3, 4, 5, 6]
  cf := some (fileOf pool7 10 #[.nestMembers #[1103]] #[{ accessFlags := 1, nameIndex := 5, descriptorIndex := 6, attributes := #[] }, { accessFlags := 1, nameIndex := 5, descriptorIndex := 1010, attributes := #[] }, { accessFlags := 1, nameIndex := 5, descriptorIndex := 1233, attributes := #[] }, { accessFlags := 1, nameIndex := 507, descriptorIndex := 334, attributes := #[] }, { accessFlags := 1, nameIndex := 497, descriptorIndex := 427, attributes := #[] }, { accessFlags := 0, nameIndex := 532, descriptorIndex := 821, attributes := #[] }, { accessFlags := 2, nameIndex := 5, descriptorIndex := 29, attributes := #[] }, { accessFlags := 0, nameIndex := 5, descriptorIndex := 491, attributes := #[] }, { accessFlags := 0, nameIndex := 17, descriptorIndex := 337, attributes := #[] }, { accessFlags := 0, nameIndex := 494, descriptorIndex := 142, attributes := #[] }, { accessFlags := 8, nameIndex := 501, descriptorIndex := 391, attributes := #[] }] 49 2 #[1106, 1108, 575, 1110, 1112] #[{ accessFlags := 18, nameIndex := 13, descriptorIndex := 14, attributes := #[] }, { accessFlags := 18, nameIndex := 17, descriptorIndex := 18, attributes := #[] }, { accessFlags := 2, nameIndex := 21, descriptorIndex := 22, attributes := #[] }, { accessFlags := 2, nameIndex := 25, descriptorIndex := 26, attributes := #[] }, { accessFlags := 26, nameIndex := 1116, descriptorIndex := 1117, attributes := #[] }, { accessFlags := 24, nameIndex := 40, descriptorIndex := 26, attributes := #[] }, { accessFlags := 26, nameIndex := 1101, descriptorIndex := 1102, attributes := #[] }, { accessFlags := 26, nameIndex := 1121, descriptorIndex := 1122, attributes := #[] }, { accessFlags := 25, nameIndex := 599, descriptorIndex := 600, attributes := #[] }, { accessFlags := 24, nameIndex := 1125, descriptorIndex := 18, attributes := #[] }, { accessFlags := 24, nameIndex := 1127, descriptorIndex := 18, attributes := #[] }])
  fields := #[{ name := "value", type := (.array .byte), accessFlags := 18, slot := 0, constantValue := 0 }, { name := "coder", type := .byte, accessFlags := 18, slot := 1, constantValue := 0 }, { name := "hash", type := .int, accessFlags := 2, slot := 2, constantValue := 0 }, { name := "hashIsZero", type := .boolean, accessFlags := 2, slot := 3, constantValue := 0 }, { name := "serialVersionUID", type := .long, accessFlags := 26, slot := 0, constantValue := 0 }, { name := "COMPACT_STRINGS", type := .boolean, accessFlags := 24, slot := 1, constantValue := 0 }, { name := "serialPersistentFields", type := (.array (.object "java/io/ObjectStreamField")), accessFlags := 26, slot := 2, constantValue := 0 }, { name := "REPL", type := .char, accessFlags := 26, slot := 3, constantValue := 0 }, { name := "CASE_INSENSITIVE_ORDER", type := (.object "java/util/Comparator"), accessFlags := 25, slot := 4, constantValue := 0 }, { name := "LATIN1", type := .byte, accessFlags := 24, slot := 5, constantValue := 0 }, { name := "UTF16", type := .byte, accessFlags := 24, slot := 6, constantValue := 0 }]
  methods := #[k7m0, k7m1, k7m2, k7m3, k7m4, k7m5, k7m6, k7m7, k7m8, k7m9, k7m10]
  instanceTypes := #[(.array .byte), .byte, .int, .boolean]
  staticTypes := #[.long, .boolean, (.array (.object "java/io/ObjectStreamField")), .char, (.object "java/util/Comparator"), .byte, .byte]
  resolved := Array.replicate 1451 none
  statics := some 0 }

def pool8 : Array CpInfo := pool [(6, .class_ 8), (1, u "java/lang/Object"), (0, u "<init>"), (0, u "()V"), (1, .class_ 14), (1, u "java/lang/StringUTF16"), (31, u "$assertionsDisabled"), (0, u "Z"), (13, u "HI_BYTE_SHIFT"), (0, u "I"), (2, u "LO_BYTE_SHIFT"), (49, .methodref 12 116), (0, .nameAndType 117 118), (0, u "compress"), (0, u "([CI[BII)I"), (3, u "([CII)[B"), (138, u "coderFromArrayLen"), (0, u "([BI)B"), (106, .class_ 371), (1, u "java/lang/StringUTF16$LinesSpliterator"), (58, u "MAX_LENGTH"), (196, .class_ 628), (0, u "java/lang/StringUTF16$CodePointsSpliterator"), (0, .class_ 630), (0, u "java/lang/StringUTF16$CharsSpliterator")] 4

def k8m0 : Method := { name := "<init>", desc := "()V", sig := { parameters := [], returnType := none }, accessFlags := 0, code := none }
def k8c1 : Code := { maxStack := 2, maxLocals := 2, code := jdk_52_method_15_code, exceptionTable := #[], attributes := #[] }
def k8m1 : Method := { name := "coderFromArrayLen", desc := "([BI)B", sig := { parameters := [(.array .byte), .int], returnType := some .byte }, accessFlags := 8, code := some k8c1 }
def k8c2 : Code := { maxStack := 5, maxLocals := 6, code := jdk_52_method_16_code, exceptionTable := #[], attributes := #[] }
def k8m2 : Method := { name := "compress", desc := "([CII)[B", sig := { parameters := [(.array .char), .int, .int], returnType := some (.array .byte) }, accessFlags := 9, code := some k8c2 }
def k8c3 : Code := { maxStack := 3, maxLocals := 7, code := jdk_52_method_21_code, exceptionTable := #[], attributes := #[] }
def k8m3 : Method := { name := "compress", desc := "([CI[BII)I", sig := { parameters := [(.array .char), .int, (.array .byte), .int, .int], returnType := some .int }, accessFlags := 9, code := some k8c3 }
/-- java/lang/StringUTF16 -/
def k8 : Class := { plain "java/lang/StringUTF16" (some 0) with
  accessFlags := 48
  interfaces := #[]
  cf := some (fileOf pool8 12 #[.nestMembers #[627, 629, 369]] #[{ accessFlags := 0, nameIndex := 9, descriptorIndex := 10, attributes := #[] }, { accessFlags := 8, nameIndex := 261, descriptorIndex := 262, attributes := #[] }, { accessFlags := 9, nameIndex := 117, descriptorIndex := 122, attributes := #[] }, { accessFlags := 9, nameIndex := 117, descriptorIndex := 118, attributes := #[] }] 48 6 #[] #[{ accessFlags := 26, nameIndex := 61, descriptorIndex := 62, attributes := #[] }, { accessFlags := 26, nameIndex := 65, descriptorIndex := 62, attributes := #[] }, { accessFlags := 24, nameIndex := 430, descriptorIndex := 62, attributes := #[] }, { accessFlags := 4120, nameIndex := 46, descriptorIndex := 47, attributes := #[] }])
  fields := #[{ name := "HI_BYTE_SHIFT", type := .int, accessFlags := 26, slot := 0, constantValue := 0 }, { name := "LO_BYTE_SHIFT", type := .int, accessFlags := 26, slot := 1, constantValue := 0 }, { name := "MAX_LENGTH", type := .int, accessFlags := 24, slot := 2, constantValue := 0 }, { name := "$assertionsDisabled", type := .boolean, accessFlags := 4120, slot := 3, constantValue := 0 }]
  methods := #[k8m0, k8m1, k8m2, k8m3]
  instanceTypes := #[]
  staticTypes := #[.int, .int, .int, .boolean]
  resolved := Array.replicate 635 none
  statics := none }

def pool9 : Array CpInfo := pool [(1, .methodref 2 3), (0, .class_ 4), (0, .nameAndType 5 6), (0, u "java/lang/Object"), (0, u "<init>"), (0, u "()V"), (0, .class_ 8), (0, u "java/lang/Record")] 13

def k9c0 : Code := { maxStack := 1, maxLocals := 1, code := jdk_30_method_1_code, exceptionTable := #[], attributes := #[] }
def k9m0 : Method := { name := "<init>", desc := "()V", sig := { parameters := [], returnType := none }, accessFlags := 4, code := some k9c0 }
/-- java/lang/Record -/
def k9 : Class := { plain "java/lang/Record" (some 0) with
  accessFlags := 1057
  interfaces := #[]
  cf := some (fileOf pool9 7 #[] #[{ accessFlags := 4, nameIndex := 5, descriptorIndex := 6, attributes := #[] }] 1057 2 #[] #[])
  fields := #[]
  methods := #[k9m0]
  instanceTypes := #[]
  staticTypes := #[]
  resolved := Array.replicate 22 none
  statics := none }

def pool10 : Array CpInfo := pool [(1, .methodref 2 3), (0, .class_ 4), (0, .nameAndType 5 6), (0, u "java/lang/Record"), (0, u "<init>"), (0, u "()V"), (0, .string 8), (0, u "location"), (0, .methodref 10 11), (0, .class_ 12), (0, .nameAndType 13 14), (0, u "java/util/Objects"), (0, u "requireNonNull"), (0, u "(Ljava/lang/Object;Ljava/lang/String;)Ljava/lang/Object;"), (0, .string 16), (0, u "message"), (0, .fieldref 18 19), (0, .class_ 20), (0, .nameAndType 8 21), (0, u "com/example/dvalin/dvalin/RegistryException$Problem"), (0, u "Ljava/lang/String;"), (0, .fieldref 18 23), (0, .nameAndType 16 21), (0, .class_ 25), (0, u "java/lang/StringBuilder"), (0, .methodref 24 3), (0, .methodref 24 28), (0, .nameAndType 29 30), (0, u "append"), (0, u "(Ljava/lang/String;)Ljava/lang/StringBuilder;"), (0, .string 32), (0, u ": "), (0, .methodref 24 34), (0, .nameAndType 35 36), (0, u "toString"), (0, u "()Ljava/lang/String;"), (8, .class_ 46), (0, u "java/io/Serializable"), (0, u "(Ljava/lang/String;Ljava/lang/String;)V"), (8, .class_ 57), (0, u "com/example/dvalin/dvalin/RegistryException")] 20

def k10c0 : Code := { maxStack := 2, maxLocals := 3, code := prog_14_method_1_code, exceptionTable := #[], attributes := #[] }
def k10m0 : Method := { name := "<init>", desc := "(Ljava/lang/String;Ljava/lang/String;)V", sig := { parameters := [(.object "java/lang/String"), (.object "java/lang/String")], returnType := none }, accessFlags := 1, code := some k10c0 }
def k10c1 : Code := { maxStack := 2, maxLocals := 1, code := prog_14_method_2_code, exceptionTable := #[], attributes := #[] }
def k10m1 : Method := { name := "toString", desc := "()Ljava/lang/String;", sig := { parameters := [], returnType := some (.object "java/lang/String") }, accessFlags := 1, code := some k10c1 }
/-- com/example/dvalin/dvalin/RegistryException$Problem -/
def k10 : Class := { plain "com/example/dvalin/dvalin/RegistryException$Problem" (some 9) with
  accessFlags := 49
  interfaces := #[2]
  cf := some (fileOf pool10 18 #[.nestHost 56] #[{ accessFlags := 1, nameIndex := 5, descriptorIndex := 47, attributes := #[] }, { accessFlags := 1, nameIndex := 35, descriptorIndex := 36, attributes := #[] }] 49 2 #[45] #[{ accessFlags := 18, nameIndex := 8, descriptorIndex := 21, attributes := #[] }, { accessFlags := 18, nameIndex := 16, descriptorIndex := 21, attributes := #[] }])
  fields := #[{ name := "location", type := (.object "java/lang/String"), accessFlags := 18, slot := 0, constantValue := 0 }, { name := "message", type := (.object "java/lang/String"), accessFlags := 18, slot := 1, constantValue := 0 }]
  methods := #[k10m0, k10m1]
  instanceTypes := #[(.object "java/lang/String"), (.object "java/lang/String")]
  staticTypes := #[]
  resolved := Array.replicate 78 none
  statics := none }

def pool11 : Array CpInfo := pool [(2, .class_ 4), (1, u "java/lang/Object"), (0, u "<init>"), (0, u "()V"), (35, .class_ 44), (1, u "java/util/Objects"), (0, u "requireNonNull"), (48, u "(Ljava/lang/Object;Ljava/lang/String;)Ljava/lang/Object;")] 89

def k11m0 : Method := { name := "<init>", desc := "()V", sig := { parameters := [], returnType := none }, accessFlags := 2, code := none }
def k11c1 : Code := { maxStack := 3, maxLocals := 2, code := jdk_31_method_11_code, exceptionTable := #[], attributes := #[] }
def k11m1 : Method := { name := "requireNonNull", desc := "(Ljava/lang/Object;Ljava/lang/String;)Ljava/lang/Object;", sig := { parameters := [(.object "java/lang/Object"), (.object "java/lang/String")], returnType := some (.object "java/lang/Object") }, accessFlags := 9, code := some k11c1 }
/-- java/util/Objects -/
def k11 : Class := { plain "java/util/Objects" (some 0) with
  accessFlags := 49
  interfaces := #[]
  cf := some (fileOf pool11 42 #[] #[{ accessFlags := 2, nameIndex := 5, descriptorIndex := 6, attributes := #[] }, { accessFlags := 9, nameIndex := 45, descriptorIndex := 94, attributes := #[] }] 49 2 #[] #[])
  fields := #[]
  methods := #[k11m0, k11m1]
  instanceTypes := #[]
  staticTypes := #[]
  resolved := Array.replicate 184 none
  statics := none }

def pool12 : Array CpInfo := pool [(1, .class_ 2), (0, u "java/lang/Appendable"), (0, .class_ 4), (0, u "java/lang/Object")] 9

/-- java/lang/Appendable -/
def k12 : Class := { plain "java/lang/Appendable" (some 0) with
  accessFlags := 1537
  interfaces := #[]
  cf := some (fileOf pool12 1 #[] #[] 1537 3 #[] #[])
  fields := #[]
  methods := #[]
  instanceTypes := #[]
  staticTypes := #[]
  resolved := Array.replicate 14 none
  statics := none }

def pool13 : Array CpInfo := pool [(1, .class_ 2), (0, u "java/lang/String"), (0, .methodref 4 5), (0, .class_ 6), (0, .nameAndType 7 8), (0, u "java/lang/Object"), (0, u "<init>"), (0, u "()V"), (1, .class_ 12), (1, u "java/lang/AbstractStringBuilder"), (0, u "EMPTYVALUE"), (0, u "[B"), (0, .fieldref 10 16), (0, .nameAndType 17 14), (0, u "value"), (0, .fieldref 1 19), (0, .nameAndType 20 21), (0, u "COMPACT_STRINGS"), (0, u "Z"), (0, .fieldref 10 23), (0, .nameAndType 24 25), (0, u "coder"), (0, u "B"), (6, .methodref 1 33), (0, .nameAndType 34 35), (0, u "length"), (0, u "()I"), (4, .methodref 1 41), (0, .nameAndType 24 42), (0, u "()B"), (2, u "append"), (0, u "(Ljava/lang/String;)Ljava/lang/AbstractStringBuilder;"), (1, .class_ 49), (0, u "java/lang/CharSequence"), (19, u "(Ljava/lang/String;)V"), (5, u "maybeLatin1"), (3, .fieldref 10 80), (0, .nameAndType 81 82), (0, u "count"), (0, u "I"), (2, u "isLatin1"), (0, u "()Z"), (13, .methodref 10 101), (0, .nameAndType 102 103), (0, u "ensureCapacityInternal"), (0, u "(I)V"), (104, .methodref 10 209), (0, .nameAndType 210 211), (0, u "putStringAt"), (0, u "(ILjava/lang/String;)V"), (5, u "inflateIfNeededFor"), (2, .nameAndType 221 222), (0, u "getBytes"), (0, u "([BIB)V"), (174, .methodref 10 398), (0, .nameAndType 217 69), (0, .methodref 1 220), (3, u "()[B"), (40, .class_ 445), (0, u "java/lang/Appendable"), (106, u "getValue")] 56

def k13m0 : Method := { name := "<init>", desc := "()V", sig := { parameters := [], returnType := none }, accessFlags := 0, code := none }
def k13c1 : Code := { maxStack := 2, maxLocals := 2, code := jdk_68_method_2_code, exceptionTable := #[], attributes := #[] }
def k13m1 : Method := { name := "<init>", desc := "(I)V", sig := { parameters := [.int], returnType := none }, accessFlags := 0, code := some k13c1 }
def k13c2 : Code := { maxStack := 1, maxLocals := 1, code := jdk_68_method_6_code, exceptionTable := #[], attributes := #[] }
def k13m2 : Method := { name := "length", desc := "()I", sig := { parameters := [], returnType := some .int }, accessFlags := 1, code := some k13c2 }
def k13c3 : Code := { maxStack := 4, maxLocals := 3, code := jdk_68_method_9_code, exceptionTable := #[], attributes := #[] }
def k13m3 : Method := { name := "ensureCapacityInternal", desc := "(I)V", sig := { parameters := [.int], returnType := none }, accessFlags := 2, code := some k13c3 }
def k13c4 : Code := { maxStack := 3, maxLocals := 3, code := jdk_68_method_22_code, exceptionTable := #[], attributes := #[] }
def k13m4 : Method := { name := "append", desc := "(Ljava/lang/String;)Ljava/lang/AbstractStringBuilder;", sig := { parameters := [(.object "java/lang/String")], returnType := some (.object "java/lang/AbstractStringBuilder") }, accessFlags := 1, code := some k13c4 }
def k13c5 : Code := { maxStack := 1, maxLocals := 1, code := jdk_68_method_64_code, exceptionTable := #[], attributes := #[] }
def k13m5 : Method := { name := "getValue", desc := "()[B", sig := { parameters := [], returnType := some (.array .byte) }, accessFlags := 16, code := some k13c5 }
def k13c6 : Code := { maxStack := 1, maxLocals := 1, code := jdk_68_method_68_code, exceptionTable := #[], attributes := #[] }
def k13m6 : Method := { name := "isLatin1", desc := "()Z", sig := { parameters := [], returnType := some .boolean }, accessFlags := 16, code := some k13c6 }
def k13c7 : Code := { maxStack := 2, maxLocals := 2, code := jdk_68_method_71_code, exceptionTable := #[], attributes := #[] }
def k13m7 : Method := { name := "inflateIfNeededFor", desc := "(Ljava/lang/String;)V", sig := { parameters := [(.object "java/lang/String")], returnType := none }, accessFlags := 2, code := some k13c7 }
def k13c8 : Code := { maxStack := 4, maxLocals := 3, code := jdk_68_method_73_code, exceptionTable := #[], attributes := #[] }
def k13m8 : Method := { name := "putStringAt", desc := "(ILjava/lang/String;)V", sig := { parameters := [.int, (.object "java/lang/String")], returnType := none }, accessFlags := 2, code := some k13c8 }
/-- java/lang/AbstractStringBuilder -/
def k13 : Class := { plain "java/lang/AbstractStringBuilder" (some 0) with
  accessFlags := 1056
  interfaces := #[12, 4]
  cf := some (fileOf pool13 10 #[] #[{ accessFlags := 0, nameIndex := 7, descriptorIndex := 8, attributes := #[] }, { accessFlags := 0, nameIndex := 7, descriptorIndex := 103, attributes := #[] }, { accessFlags := 1, nameIndex := 34, descriptorIndex := 35, attributes := #[] }, { accessFlags := 2, nameIndex := 102, descriptorIndex := 103, attributes := #[] }, { accessFlags := 1, nameIndex := 45, descriptorIndex := 46, attributes := #[] }, { accessFlags := 16, nameIndex := 552, descriptorIndex := 403, attributes := #[] }, { accessFlags := 16, nameIndex := 85, descriptorIndex := 86, attributes := #[] }, { accessFlags := 2, nameIndex := 217, descriptorIndex := 69, attributes := #[] }, { accessFlags := 2, nameIndex := 210, descriptorIndex := 211, attributes := #[] }] 1056 4 #[444, 48] #[{ accessFlags := 0, nameIndex := 17, descriptorIndex := 14, attributes := #[] }, { accessFlags := 0, nameIndex := 24, descriptorIndex := 25, attributes := #[] }, { accessFlags := 0, nameIndex := 75, descriptorIndex := 21, attributes := #[] }, { accessFlags := 0, nameIndex := 81, descriptorIndex := 82, attributes := #[] }, { accessFlags := 26, nameIndex := 13, descriptorIndex := 14, attributes := #[] }])
  fields := #[{ name := "value", type := (.array .byte), accessFlags := 0, slot := 0, constantValue := 0 }, { name := "coder", type := .byte, accessFlags := 0, slot := 1, constantValue := 0 }, { name := "maybeLatin1", type := .boolean, accessFlags := 0, slot := 2, constantValue := 0 }, { name := "count", type := .int, accessFlags := 0, slot := 3, constantValue := 0 }, { name := "EMPTYVALUE", type := (.array .byte), accessFlags := 26, slot := 0, constantValue := 0 }]
  methods := #[k13m0, k13m1, k13m2, k13m3, k13m4, k13m5, k13m6, k13m7, k13m8]
  instanceTypes := #[(.array .byte), .byte, .boolean, .int]
  staticTypes := #[(.array .byte)]
  resolved := Array.replicate 609 none
  statics := none }

def pool14 : Array CpInfo := pool [(1, .methodref 2 3), (0, .class_ 4), (0, .nameAndType 5 6), (0, u "java/lang/AbstractStringBuilder"), (0, u "<init>"), (0, u "(I)V"), (11, .class_ 20), (1, u "java/lang/String"), (3, .class_ 26), (1, u "java/lang/StringBuilder"), (0, u "append"), (0, u "(Ljava/lang/String;)Ljava/lang/StringBuilder;"), (0, .methodref 2 30), (0, .nameAndType 27 31), (0, u "(Ljava/lang/String;)Ljava/lang/AbstractStringBuilder;"), (105, .methodref 18 138), (0, .nameAndType 5 139), (0, u "(Ljava/lang/StringBuilder;)V"), (5, u "()V"), (10, u "()I"), (186, .methodref 2 344), (0, .nameAndType 345 156), (0, u "length"), (3, .class_ 350), (0, u "java/lang/Appendable"), (0, .class_ 352), (0, u "java/io/Serializable"), (0, .class_ 354), (0, u "java/lang/Comparable"), (0, .class_ 356), (0, u "java/lang/CharSequence"), (0, u "serialVersionUID"), (0, u "J"), (40, u "toString"), (0, u "()Ljava/lang/String;")] 21

def k14c0 : Code := { maxStack := 2, maxLocals := 1, code := jdk_67_method_1_code, exceptionTable := #[], attributes := #[] }
def k14m0 : Method := { name := "<init>", desc := "()V", sig := { parameters := [], returnType := none }, accessFlags := 1, code := some k14c0 }
def k14c1 : Code := { maxStack := 2, maxLocals := 2, code := jdk_67_method_7_code, exceptionTable := #[], attributes := #[] }
def k14m1 : Method := { name := "append", desc := "(Ljava/lang/String;)Ljava/lang/StringBuilder;", sig := { parameters := [(.object "java/lang/String")], returnType := some (.object "java/lang/StringBuilder") }, accessFlags := 1, code := some k14c1 }
def k14c2 : Code := { maxStack := 3, maxLocals := 1, code := jdk_67_method_42_code, exceptionTable := #[], attributes := #[] }
def k14m2 : Method := { name := "toString", desc := "()Ljava/lang/String;", sig := { parameters := [], returnType := some (.object "java/lang/String") }, accessFlags := 1, code := some k14c2 }
def k14c3 : Code := { maxStack := 1, maxLocals := 1, code := jdk_67_method_93_code, exceptionTable := #[], attributes := #[] }
def k14m3 : Method := { name := "length", desc := "()I", sig := { parameters := [], returnType := some .int }, accessFlags := 4161, code := some k14c3 }
/-- java/lang/StringBuilder -/
def k14 : Class := { plain "java/lang/StringBuilder" (some 13) with
  accessFlags := 49
  interfaces := #[12, 2, 3, 4]
  cf := some (fileOf pool14 24 #[] #[{ accessFlags := 1, nameIndex := 5, descriptorIndex := 145, attributes := #[] }, { accessFlags := 1, nameIndex := 27, descriptorIndex := 28, attributes := #[] }, { accessFlags := 1, nameIndex := 399, descriptorIndex := 400, attributes := #[] }, { accessFlags := 4161, nameIndex := 345, descriptorIndex := 156, attributes := #[] }] 49 2 #[349, 351, 353, 355] #[{ accessFlags := 24, nameIndex := 357, descriptorIndex := 358, attributes := #[] }])
  fields := #[{ name := "serialVersionUID", type := .long, accessFlags := 24, slot := 0, constantValue := 0 }]
  methods := #[k14m0, k14m1, k14m2, k14m3]
  instanceTypes := #[(.array .byte), .byte, .boolean, .int]
  staticTypes := #[.long]
  resolved := Array.replicate 422 none
  statics := none }

def pool15 : Array CpInfo := pool [(2, .class_ 4), (1, u "java/lang/Object"), (0, u "<init>"), (0, u "()V"), (1, .class_ 10), (1, u "java/lang/System"), (0, u "allowSecurityManager"), (0, u "I"), (16, u "cons"), (0, u "Ljava/io/Console;"), (77, .class_ 110), (1, u "java/lang/System$CallersHolder"), (43, u "initialErrStream"), (0, u "Ljava/io/PrintStream;"), (19, u "security"), (0, u "Ljava/lang/SecurityManager;"), (31, .class_ 209), (0, u "java/lang/System$1"), (7, u "props"), (0, u "Ljava/util/Properties;"), (2, u "lineSeparator"), (0, u "Ljava/lang/String;"), (96, .class_ 321), (1, u "java/lang/System$LoggerFinder"), (5, .class_ 328), (0, u "java/lang/System$Logger"), (67, u "err"), (2, u "out"), (91, u "notSupportedJnuEncoding"), (15, u "in"), (17, u "initialIn"), (0, u "Ljava/io/InputStream;"), (35, u "bootLayer"), (0, u "Ljava/lang/ModuleLayer;"), (99, .class_ 664), (0, u "java/lang/System$2"), (9, u "NEVER"), (2, u "MAYBE"), (49, u "arraycopy"), (0, u "(Ljava/lang/Object;ILjava/lang/Object;II)V"), (72, .class_ 802), (0, u "java/lang/System$Logger$Level")] 31

def k15m0 : Method := { name := "<init>", desc := "()V", sig := { parameters := [], returnType := none }, accessFlags := 2, code := none }
def k15m1 : Method := { name := "arraycopy", desc := "(Ljava/lang/Object;ILjava/lang/Object;II)V", sig := { parameters := [(.object "java/lang/Object"), .int, (.object "java/lang/Object"), .int, .int], returnType := none }, accessFlags := 265, code := none }
/-- java/lang/System -/
def k15 : Class := { plain "java/lang/System" (some 0) with
  accessFlags := 49
  interfaces := #[]
  cf := some (fileOf pool15 8 #[.nestMembers #[319, 327, 801, 108, 663, 208]] #[{ accessFlags := 2, nameIndex := 5, descriptorIndex := 6, attributes := #[] }, { accessFlags := 265, nameIndex := 727, descriptorIndex := 728, attributes := #[] }] 49 2 #[] #[{ accessFlags := 25, nameIndex := 507, descriptorIndex := 526, attributes := #[] }, { accessFlags := 25, nameIndex := 399, descriptorIndex := 155, attributes := #[] }, { accessFlags := 25, nameIndex := 396, descriptorIndex := 155, attributes := #[] }, { accessFlags := 10, nameIndex := 525, descriptorIndex := 526, attributes := #[] }, { accessFlags := 26, nameIndex := 674, descriptorIndex := 12, attributes := #[] }, { accessFlags := 26, nameIndex := 677, descriptorIndex := 12, attributes := #[] }, { accessFlags := 10, nameIndex := 11, descriptorIndex := 12, attributes := #[] }, { accessFlags := 74, nameIndex := 175, descriptorIndex := 176, attributes := #[] }, { accessFlags := 10, nameIndex := 491, descriptorIndex := 222, attributes := #[] }, { accessFlags := 74, nameIndex := 29, descriptorIndex := 30, attributes := #[] }, { accessFlags := 74, nameIndex := 154, descriptorIndex := 155, attributes := #[] }, { accessFlags := 10, nameIndex := 217, descriptorIndex := 218, attributes := #[] }, { accessFlags := 10, nameIndex := 221, descriptorIndex := 222, attributes := #[] }, { accessFlags := 8, nameIndex := 562, descriptorIndex := 563, attributes := #[] }])
  fields := #[{ name := "in", type := (.object "java/io/InputStream"), accessFlags := 25, slot := 0, constantValue := 0 }, { name := "out", type := (.object "java/io/PrintStream"), accessFlags := 25, slot := 1, constantValue := 0 }, { name := "err", type := (.object "java/io/PrintStream"), accessFlags := 25, slot := 2, constantValue := 0 }, { name := "initialIn", type := (.object "java/io/InputStream"), accessFlags := 10, slot := 3, constantValue := 0 }, { name := "NEVER", type := .int, accessFlags := 26, slot := 4, constantValue := 0 }, { name := "MAYBE", type := .int, accessFlags := 26, slot := 5, constantValue := 0 }, { name := "allowSecurityManager", type := .int, accessFlags := 10, slot := 6, constantValue := 0 }, { name := "security", type := (.object "java/lang/SecurityManager"), accessFlags := 74, slot := 7, constantValue := 0 }, { name := "notSupportedJnuEncoding", type := (.object "java/lang/String"), accessFlags := 10, slot := 8, constantValue := 0 }, { name := "cons", type := (.object "java/io/Console"), accessFlags := 74, slot := 9, constantValue := 0 }, { name := "initialErrStream", type := (.object "java/io/PrintStream"), accessFlags := 74, slot := 10, constantValue := 0 }, { name := "props", type := (.object "java/util/Properties"), accessFlags := 10, slot := 11, constantValue := 0 }, { name := "lineSeparator", type := (.object "java/lang/String"), accessFlags := 10, slot := 12, constantValue := 0 }, { name := "bootLayer", type := (.object "java/lang/ModuleLayer"), accessFlags := 8, slot := 13, constantValue := 0 }]
  methods := #[k15m0, k15m1]
  instanceTypes := #[]
  staticTypes := #[(.object "java/io/InputStream"), (.object "java/io/PrintStream"), (.object "java/io/PrintStream"), (.object "java/io/InputStream"), .int, .int, .int, (.object "java/lang/SecurityManager"), (.object "java/lang/String"), (.object "java/io/Console"), (.object "java/io/PrintStream"), (.object "java/util/Properties"), (.object "java/lang/String"), (.object "java/lang/ModuleLayer")]
  resolved := Array.replicate 834 none
  statics := none }

def pool16 : Array CpInfo := pool [(2, .class_ 4), (1, u "java/lang/Object"), (0, u "<init>"), (0, u "()V"), (7, .class_ 16), (1, u "java/util/Arrays"), (57, .class_ 76), (1, u "java/util/Arrays$NaturalOrder"), (36, .class_ 115), (1, u "java/util/Arrays$LegacyMergeSort"), (1, u "Z"), (21, u "copyOfRange"), (10, .methodref 151 152), (0, .class_ 153), (0, .nameAndType 154 155), (0, u "java/lang/System"), (0, u "arraycopy"), (0, u "(Ljava/lang/Object;ILjava/lang/Object;II)V"), (148, .methodref 305 306), (0, .class_ 307), (0, .nameAndType 308 309), (0, u "java/lang/Math"), (0, u "min"), (0, u "(II)I"), (29, .methodref 14 340), (0, .nameAndType 341 342), (0, u "copyOfRangeByte"), (0, u "([BII)[B"), (0, .methodref 14 344), (0, .nameAndType 345 346), (0, u "checkLength"), (0, u "(II)V"), (28, .class_ 376), (0, u "java/util/Arrays$ArrayList"), (68, u "$assertionsDisabled"), (269, u "MIN_ARRAY_SORT_GRAN"), (0, u "I"), (2, u "INSERTIONSORT_THRESHOLD"), (255, .class_ 976), (0, u "java/util/Arrays$ArrayItr")] 52

def k16m0 : Method := { name := "<init>", desc := "()V", sig := { parameters := [], returnType := none }, accessFlags := 2, code := none }
def k16c1 : Code := { maxStack := 4, maxLocals := 2, code := jdk_65_method_131_code, exceptionTable := #[], attributes := #[] }
def k16m1 : Method := { name := "checkLength", desc := "(II)V", sig := { parameters := [.int, .int], returnType := none }, accessFlags := 10, code := some k16c1 }
def k16c2 : Code := { maxStack := 3, maxLocals := 3, code := jdk_65_method_132_code, exceptionTable := #[], attributes := #[] }
def k16m2 : Method := { name := "copyOfRange", desc := "([BII)[B", sig := { parameters := [(.array .byte), .int, .int], returnType := some (.array .byte) }, accessFlags := 9, code := some k16c2 }
def k16c3 : Code := { maxStack := 6, maxLocals := 5, code := jdk_65_method_133_code, exceptionTable := #[], attributes := #[] }
def k16m3 : Method := { name := "copyOfRangeByte", desc := "([BII)[B", sig := { parameters := [(.array .byte), .int, .int], returnType := some (.array .byte) }, accessFlags := 10, code := some k16c3 }
/-- java/util/Arrays -/
def k16 : Class := { plain "java/util/Arrays" (some 0) with
  accessFlags := 49
  interfaces := #[]
  cf := some (fileOf pool16 14 #[.nestMembers #[975, 375, 113, 74]] #[{ accessFlags := 2, nameIndex := 5, descriptorIndex := 6, attributes := #[] }, { accessFlags := 10, nameIndex := 345, descriptorIndex := 346, attributes := #[] }, { accessFlags := 9, nameIndex := 139, descriptorIndex := 342, attributes := #[] }, { accessFlags := 10, nameIndex := 341, descriptorIndex := 342, attributes := #[] }] 49 2 #[] #[{ accessFlags := 26, nameIndex := 715, descriptorIndex := 716, attributes := #[] }, { accessFlags := 26, nameIndex := 719, descriptorIndex := 716, attributes := #[] }, { accessFlags := 4120, nameIndex := 445, descriptorIndex := 117, attributes := #[] }])
  fields := #[{ name := "MIN_ARRAY_SORT_GRAN", type := .int, accessFlags := 26, slot := 0, constantValue := 0 }, { name := "INSERTIONSORT_THRESHOLD", type := .int, accessFlags := 26, slot := 1, constantValue := 0 }, { name := "$assertionsDisabled", type := .boolean, accessFlags := 4120, slot := 2, constantValue := 0 }]
  methods := #[k16m0, k16m1, k16m2, k16m3]
  instanceTypes := #[]
  staticTypes := #[.int, .int, .boolean]
  resolved := Array.replicate 1029 none
  statics := none }

def pool17 : Array CpInfo := pool [(1, .class_ 2), (0, u "java/lang/Math"), (1, .class_ 6), (1, u "java/lang/Object"), (0, u "<init>"), (0, u "()V"), (89, .class_ 100), (1, u "java/lang/Math$RandomNumberGeneratorHolder"), (71, u "negativeZeroFloatBits"), (0, u "J"), (2, u "negativeZeroDoubleBits"), (24, u "min"), (43, u "$assertionsDisabled"), (0, u "Z"), (88, u "(II)I"), (2, u "twoToTheDoubleScaleDown"), (0, u "D"), (4, u "twoToTheDoubleScaleUp"), (9, u "E"), (3, u "PI"), (2, u "TAU"), (2, u "DEGREES_TO_RADIANS"), (0, u "RADIANS_TO_DEGREES")] 94

def k17m0 : Method := { name := "<init>", desc := "()V", sig := { parameters := [], returnType := none }, accessFlags := 2, code := none }
def k17c1 : Code := { maxStack := 2, maxLocals := 2, code := jdk_29_method_69_code, exceptionTable := #[], attributes := #[] }
def k17m1 : Method := { name := "min", desc := "(II)I", sig := { parameters := [.int, .int], returnType := some .int }, accessFlags := 9, code := some k17c1 }
/-- java/lang/Math -/
def k17 : Class := { plain "java/lang/Math" (some 0) with
  accessFlags := 49
  interfaces := #[]
  cf := some (fileOf pool17 1 #[.nestMembers #[98]] #[{ accessFlags := 2, nameIndex := 7, descriptorIndex := 8, attributes := #[] }, { accessFlags := 9, nameIndex := 201, descriptorIndex := 335, attributes := #[] }] 49 4 #[] #[{ accessFlags := 25, nameIndex := 354, descriptorIndex := 339, attributes := #[] }, { accessFlags := 25, nameIndex := 358, descriptorIndex := 339, attributes := #[] }, { accessFlags := 25, nameIndex := 361, descriptorIndex := 339, attributes := #[] }, { accessFlags := 26, nameIndex := 364, descriptorIndex := 339, attributes := #[] }, { accessFlags := 26, nameIndex := 365, descriptorIndex := 339, attributes := #[] }, { accessFlags := 26, nameIndex := 172, descriptorIndex := 173, attributes := #[] }, { accessFlags := 26, nameIndex := 176, descriptorIndex := 173, attributes := #[] }, { accessFlags := 8, nameIndex := 344, descriptorIndex := 339, attributes := #[] }, { accessFlags := 8, nameIndex := 338, descriptorIndex := 339, attributes := #[] }, { accessFlags := 4120, nameIndex := 245, descriptorIndex := 246, attributes := #[] }])
  fields := #[{ name := "E", type := .double, accessFlags := 25, slot := 0, constantValue := 0 }, { name := "PI", type := .double, accessFlags := 25, slot := 1, constantValue := 0 }, { name := "TAU", type := .double, accessFlags := 25, slot := 2, constantValue := 0 }, { name := "DEGREES_TO_RADIANS", type := .double, accessFlags := 26, slot := 3, constantValue := 0 }, { name := "RADIANS_TO_DEGREES", type := .double, accessFlags := 26, slot := 4, constantValue := 0 }, { name := "negativeZeroFloatBits", type := .long, accessFlags := 26, slot := 5, constantValue := 0 }, { name := "negativeZeroDoubleBits", type := .long, accessFlags := 26, slot := 6, constantValue := 0 }, { name := "twoToTheDoubleScaleUp", type := .double, accessFlags := 8, slot := 7, constantValue := 0 }, { name := "twoToTheDoubleScaleDown", type := .double, accessFlags := 8, slot := 8, constantValue := 0 }, { name := "$assertionsDisabled", type := .boolean, accessFlags := 4120, slot := 9, constantValue := 0 }]
  methods := #[k17m0, k17m1]
  instanceTypes := #[]
  staticTypes := #[.double, .double, .double, .double, .double, .long, .long, .double, .double, .boolean]
  resolved := Array.replicate 460 none
  statics := none }

def pool18 : Array CpInfo := pool [(1, .class_ 2), (0, u "java/lang/String"), (1, .class_ 6), (1, u "java/lang/Object"), (0, u "<init>"), (0, u "()V"), (0, .methodref 1 10), (0, .nameAndType 11 12), (0, u "checkIndex"), (0, u "(II)V"), (1, .class_ 16), (1, u "java/lang/StringLatin1"), (36, u "([BI)C"), (67, u "$assertionsDisabled"), (0, u "Z"), (98, .class_ 223), (1, u "java/lang/StringLatin1$LinesSpliterator"), (28, u "charAt"), (137, .class_ 391), (0, u "java/lang/StringLatin1$CharsSpliterator")] 3

def k18m0 : Method := { name := "<init>", desc := "()V", sig := { parameters := [], returnType := none }, accessFlags := 0, code := none }
def k18c1 : Code := { maxStack := 2, maxLocals := 2, code := jdk_43_method_2_code, exceptionTable := #[], attributes := #[] }
def k18m1 : Method := { name := "charAt", desc := "([BI)C", sig := { parameters := [(.array .byte), .int], returnType := some .char }, accessFlags := 9, code := some k18c1 }
/-- java/lang/StringLatin1 -/
def k18 : Class := { plain "java/lang/StringLatin1" (some 0) with
  accessFlags := 48
  interfaces := #[]
  cf := some (fileOf pool18 14 #[.nestMembers #[390, 221]] #[{ accessFlags := 0, nameIndex := 7, descriptorIndex := 8, attributes := #[] }, { accessFlags := 9, nameIndex := 252, descriptorIndex := 53, attributes := #[] }] 48 4 #[] #[{ accessFlags := 4120, nameIndex := 121, descriptorIndex := 122, attributes := #[] }])
  fields := #[{ name := "$assertionsDisabled", type := .boolean, accessFlags := 4120, slot := 0, constantValue := 0 }]
  methods := #[k18m0, k18m1]
  instanceTypes := #[]
  staticTypes := #[.boolean]
  resolved := Array.replicate 395 none
  statics := none }

def pool19 : Array CpInfo := pool [(2, .class_ 4), (1, u "java/lang/Object"), (0, u "<init>"), (0, u "()V"), (17, .class_ 26), (1, u "jdk/internal/util/Preconditions"), (6, u "checkIndex"), (21, .class_ 56), (0, u "jdk/internal/util/Preconditions$4"), (57, .class_ 115), (0, u "jdk/internal/util/Preconditions$1"), (7, u "SIOOBE_FORMATTER"), (0, u "Ljava/util/function/BiFunction;"), (0, .class_ 126), (0, u "jdk/internal/util/Preconditions$2"), (3, u "AIOOBE_FORMATTER"), (0, .class_ 132), (0, u "jdk/internal/util/Preconditions$3"), (3, u "IOOBE_FORMATTER"), (41, u "(IILjava/util/function/BiFunction;)I")] 15

def k19m0 : Method := { name := "<init>", desc := "()V", sig := { parameters := [], returnType := none }, accessFlags := 1, code := none }
def k19c1 : Code := { maxStack := 3, maxLocals := 3, code := jdk_41_method_11_code, exceptionTable := #[], attributes := #[] }
def k19m1 : Method := { name := "checkIndex", desc := "(IILjava/util/function/BiFunction;)I", sig := { parameters := [.int, .int, (.object "java/util/function/BiFunction")], returnType := some .int }, accessFlags := 9, code := some k19c1 }
/-- jdk/internal/util/Preconditions -/
def k19 : Class := { plain "jdk/internal/util/Preconditions" (some 0) with
  accessFlags := 33
  interfaces := #[]
  cf := some (fileOf pool19 24 #[.nestMembers #[55, 131, 125, 114]] #[{ accessFlags := 1, nameIndex := 5, descriptorIndex := 6, attributes := #[] }, { accessFlags := 9, nameIndex := 33, descriptorIndex := 178, attributes := #[] }] 33 2 #[] #[{ accessFlags := 25, nameIndex := 123, descriptorIndex := 124, attributes := #[] }, { accessFlags := 25, nameIndex := 130, descriptorIndex := 124, attributes := #[] }, { accessFlags := 25, nameIndex := 136, descriptorIndex := 124, attributes := #[] }])
  fields := #[{ name := "SIOOBE_FORMATTER", type := (.object "java/util/function/BiFunction"), accessFlags := 25, slot := 0, constantValue := 0 }, { name := "AIOOBE_FORMATTER", type := (.object "java/util/function/BiFunction"), accessFlags := 25, slot := 1, constantValue := 0 }, { name := "IOOBE_FORMATTER", type := (.object "java/util/function/BiFunction"), accessFlags := 25, slot := 2, constantValue := 0 }]
  methods := #[k19m0, k19m1]
  instanceTypes := #[]
  staticTypes := #[(.object "java/util/function/BiFunction"), (.object "java/util/function/BiFunction"), (.object "java/util/function/BiFunction")]
  resolved := Array.replicate 194 none
  statics := some 1 }

def pool20 : Array CpInfo := pool [(9, u "<init>"), (6, .class_ 18), (1, u "java/lang/Object"), (0, u "()V"), (1, .class_ 23), (1, u "jdk/internal/util/ArraysSupport"), (0, u "LOG2_ARRAY_LONG_INDEX_SCALE"), (0, u "I"), (2, u "U"), (0, u "Ljdk/internal/misc/Unsafe;"), (8, u "BIG_ENDIAN"), (0, u "Z"), (8, u "LOG2_BYTE_BIT_SIZE"), (4, u "LOG2_ARRAY_INT_INDEX_SCALE"), (54, u "JLA"), (0, u "Ljdk/internal/access/JavaLangAccess;"), (11, u "LOG2_ARRAY_BOOLEAN_INDEX_SCALE"), (9, u "LOG2_ARRAY_BYTE_INDEX_SCALE"), (5, u "LOG2_ARRAY_CHAR_INDEX_SCALE"), (5, u "LOG2_ARRAY_SHORT_INDEX_SCALE"), (18, u "LOG2_ARRAY_FLOAT_INDEX_SCALE"), (24, u "LOG2_ARRAY_DOUBLE_INDEX_SCALE"), (89, u "T_BOOLEAN"), (2, u "T_CHAR"), (1, u "T_FLOAT"), (1, u "T_DOUBLE"), (1, u "T_BYTE"), (1, u "T_SHORT"), (1, u "T_INT"), (1, u "T_LONG"), (1, u "SOFT_MAX_ARRAY_LENGTH")] 83

def k20m0 : Method := { name := "<init>", desc := "()V", sig := { parameters := [], returnType := none }, accessFlags := 2, code := none }
/-- jdk/internal/util/ArraysSupport -/
def k20 : Class := { plain "jdk/internal/util/ArraysSupport" (some 0) with
  accessFlags := 33
  interfaces := #[]
  cf := some (fileOf pool20 21 #[] #[{ accessFlags := 2, nameIndex := 9, descriptorIndex := 19, attributes := #[] }] 33 16 #[] #[{ accessFlags := 24, nameIndex := 28, descriptorIndex := 29, attributes := #[] }, { accessFlags := 26, nameIndex := 38, descriptorIndex := 39, attributes := #[] }, { accessFlags := 25, nameIndex := 121, descriptorIndex := 25, attributes := #[] }, { accessFlags := 25, nameIndex := 131, descriptorIndex := 25, attributes := #[] }, { accessFlags := 25, nameIndex := 137, descriptorIndex := 25, attributes := #[] }, { accessFlags := 25, nameIndex := 143, descriptorIndex := 25, attributes := #[] }, { accessFlags := 25, nameIndex := 53, descriptorIndex := 25, attributes := #[] }, { accessFlags := 25, nameIndex := 24, descriptorIndex := 25, attributes := #[] }, { accessFlags := 25, nameIndex := 162, descriptorIndex := 25, attributes := #[] }, { accessFlags := 25, nameIndex := 187, descriptorIndex := 25, attributes := #[] }, { accessFlags := 26, nameIndex := 48, descriptorIndex := 25, attributes := #[] }, { accessFlags := 25, nameIndex := 277, descriptorIndex := 25, attributes := #[] }, { accessFlags := 25, nameIndex := 280, descriptorIndex := 25, attributes := #[] }, { accessFlags := 25, nameIndex := 282, descriptorIndex := 25, attributes := #[] }, { accessFlags := 25, nameIndex := 284, descriptorIndex := 25, attributes := #[] }, { accessFlags := 25, nameIndex := 286, descriptorIndex := 25, attributes := #[] }, { accessFlags := 25, nameIndex := 288, descriptorIndex := 25, attributes := #[] }, { accessFlags := 25, nameIndex := 290, descriptorIndex := 25, attributes := #[] }, { accessFlags := 25, nameIndex := 292, descriptorIndex := 25, attributes := #[] }, { accessFlags := 26, nameIndex := 108, descriptorIndex := 109, attributes := #[] }, { accessFlags := 25, nameIndex := 294, descriptorIndex := 25, attributes := #[] }])
  fields := #[{ name := "U", type := (.object "jdk/internal/misc/Unsafe"), accessFlags := 24, slot := 0, constantValue := 0 }, { name := "BIG_ENDIAN", type := .boolean, accessFlags := 26, slot := 1, constantValue := 0 }, { name := "LOG2_ARRAY_BOOLEAN_INDEX_SCALE", type := .int, accessFlags := 25, slot := 2, constantValue := 0 }, { name := "LOG2_ARRAY_BYTE_INDEX_SCALE", type := .int, accessFlags := 25, slot := 3, constantValue := 0 }, { name := "LOG2_ARRAY_CHAR_INDEX_SCALE", type := .int, accessFlags := 25, slot := 4, constantValue := 0 }, { name := "LOG2_ARRAY_SHORT_INDEX_SCALE", type := .int, accessFlags := 25, slot := 5, constantValue := 0 }, { name := "LOG2_ARRAY_INT_INDEX_SCALE", type := .int, accessFlags := 25, slot := 6, constantValue := 0 }, { name := "LOG2_ARRAY_LONG_INDEX_SCALE", type := .int, accessFlags := 25, slot := 7, constantValue := 0 }, { name := "LOG2_ARRAY_FLOAT_INDEX_SCALE", type := .int, accessFlags := 25, slot := 8, constantValue := 0 }, { name := "LOG2_ARRAY_DOUBLE_INDEX_SCALE", type := .int, accessFlags := 25, slot := 9, constantValue := 0 }, { name := "LOG2_BYTE_BIT_SIZE", type := .int, accessFlags := 26, slot := 10, constantValue := 0 }, { name := "T_BOOLEAN", type := .int, accessFlags := 25, slot := 11, constantValue := 0 }, { name := "T_CHAR", type := .int, accessFlags := 25, slot := 12, constantValue := 0 }, { name := "T_FLOAT", type := .int, accessFlags := 25, slot := 13, constantValue := 0 }, { name := "T_DOUBLE", type := .int, accessFlags := 25, slot := 14, constantValue := 0 }, { name := "T_BYTE", type := .int, accessFlags := 25, slot := 15, constantValue := 0 }, { name := "T_SHORT", type := .int, accessFlags := 25, slot := 16, constantValue := 0 }, { name := "T_INT", type := .int, accessFlags := 25, slot := 17, constantValue := 0 }, { name := "T_LONG", type := .int, accessFlags := 25, slot := 18, constantValue := 0 }, { name := "JLA", type := (.object "jdk/internal/access/JavaLangAccess"), accessFlags := 26, slot := 19, constantValue := 0 }, { name := "SOFT_MAX_ARRAY_LENGTH", type := .int, accessFlags := 25, slot := 20, constantValue := 0 }]
  methods := #[k20m0]
  instanceTypes := #[]
  staticTypes := #[(.object "jdk/internal/misc/Unsafe"), .boolean, .int, .int, .int, .int, .int, .int, .int, .int, .int, .int, .int, .int, .int, .int, .int, .int, .int, (.object "jdk/internal/access/JavaLangAccess"), .int]
  resolved := Array.replicate 378 none
  statics := none }

def pool21 : Array CpInfo := pool [(1, u "java/lang/Cloneable"), (0, .class_ 1), (0, u "java/lang/Object"), (0, .class_ 3)] 3

/-- java/lang/Cloneable -/
def k21 : Class := { plain "java/lang/Cloneable" (some 0) with
  accessFlags := 1537
  interfaces := #[]
  cf := some (fileOf pool21 2 #[] #[] 1537 4 #[] #[])
  fields := #[]
  methods := #[]
  instanceTypes := #[]
  staticTypes := #[]
  resolved := Array.replicate 8 none
  statics := none }

/-- the primitive byte -/
def k22 : Class := { plain "byte" none with kind := .primitive 'B', accessFlags := 0x411 }
/-- [B -/
def k23 : Class := { plain "[B" (some 0) with kind := .array 22 .byte, interfaces := #[21, 2], accessFlags := 1041 }

/-- the primitive char -/
def k24 : Class := { plain "char" none with kind := .primitive 'C', accessFlags := 0x411 }
/-- [C -/
def k25 : Class := { plain "[C" (some 0) with kind := .array 24 .char, interfaces := #[21, 2], accessFlags := 1041 }

/-- the primitive int -/
def k26 : Class := { plain "int" none with kind := .primitive 'I', accessFlags := 0x411 }
/-- [I -/
def k27 : Class := { plain "[I" (some 0) with kind := .array 26 .int, interfaces := #[21, 2], accessFlags := 1041 }

def heap : Heap := #[{ cls := 7, slots := #[.long 0, .int 1, .null, .int 0, .null, .int 0, .int 0], vm := .statics 7 },
  { cls := 19, slots := #[.null, .null, .null], vm := .statics 19 }]
def classes : Array Class := #[k0, k1, k2, k3, k4, k5, k6, k7, k8, k9, k10, k11, k12, k13, k14, k15, k16, k17, k18, k19, k20, k21, k22, k23, k24, k25, k26, k27]
def interned : List (Array UInt16 × Addr) := []
def slotsUsed : Nat := 10
def theMethod : MethodId := ⟨1, 1⟩
def args0 : Array Value := #[.int 5, .int 65, .int 66, .int 1]
def aboutOver (below : List Frame) : State where
  vm := { classes := classes, interned := interned.toArray }
  heap := heap
  slotsUsed := slotsUsed
  threads := #[{ frames := .invoking theMethod args0 :: below }]
def below0 : List Frame := [.native { method := ⟨0, 0⟩, args := #[] }]
def about1 : State := aboutOver below0
def p0 : Program := .bare "" "" ""
def e0 : Env := launch0.env 0 0 0
theorem w_frames : about1.frames = Frame.invoking theMethod args0 :: below0 := rfl
set_option maxRecDepth 65536 in
theorem w_args : argsFit about1.vm theMethod args0 = true := by decide +kernel
set_option maxRecDepth 65536 in
theorem w_heap : heapFits about1 = true := by decide +kernel
set_option maxRecDepth 65536 in
theorem w_runnable : about1.curStatus? = some .runnable := by decide +kernel
set_option maxRecDepth 65536 in
theorem w_alone : about1.alone = true := by decide +kernel
set_option maxRecDepth 65536 in
theorem w_named : about1.methodNamed? x = some theMethod := by decide +kernel
set_option maxRecDepth 65536 in
theorem w_hears : about1.hears theMethod below0 = true := by decide +kernel
set_option maxRecDepth 65536 in
theorem w_ripe : about1.ripe theMethod args0 below0 = true := by decide +kernel
theorem w_running : about1.status = .running := rfl
set_option maxRecDepth 65536 in
theorem w_room : about1.hasRoom e0.platform room_1 = true :=
  launch0.hasRoom_least _ room_1 (by decide +kernel) (by decide +kernel) (by decide +kernel) (by decide +kernel) (by decide +kernel) (by decide +kernel)
theorem allAtoms_all (ts : List Jvm.Cond) (a : Array Jvm.Value) (st : Jvm.State) : (allAtoms ts).before a st = ts.all (fun c => c.before a st) := by
  induction ts with
  | nil => rfl
  | cons c t ih =>
    show (Jvm.Cond.and c (allAtoms t)).before a st = _
    rw [Jvm.Cond.before_and, ih, List.all_cons]
def words1 : List Jvm.Cond := Jvm.Cond.code x code maxLocals ret :: tables_1
/-- a 'code' word, met by the world's own term for the bytes: nothing is compared byte by byte -/
theorem code_word {y : MethodName} {bytes : ByteArray} {mx : Nat} {rt : Option FieldType} {a : Array Value} {s : State} {m : MethodId} {meth : Method} {c : Code} (h1 : s.methodNamed? y = some m) (h2 : s.vm.method? m = some meth) (h3 : meth.code = some c) (h4 : c.code = bytes)
    (h5 : (c.maxLocals == mx && c.exceptionTable.isEmpty && decide (c.maxStack ≤ mostOperands) && decide (meth.sig.returnType = rt) && !meth.locks && decide (parseMethodDescriptor y.desc = some meth.sig)) = true) : (Jvm.Cond.code y bytes mx rt).before a s = true := by
  simp only [Bool.and_eq_true, beq_iff_eq, Bool.not_eq_true', decide_eq_true_eq] at h5
  obtain ⟨⟨⟨⟨⟨g1, g2⟩, g3⟩, g4⟩, g5⟩, g6⟩ := h5
  simp [Cond.before, Cond.holds, Cond.value, h1, h2, h3, h4, g1, g2, g3, g4, g5, g6]
def isCode : Jvm.Cond → Bool
  | .code _ _ _ _ => true
  | _ => false
theorem all_split {L : List Jvm.Cond} {P : Jvm.Cond → Bool} (h1 : L.all (fun c => isCode c || P c) = true) (h2 : ∀ c ∈ L.filter isCode, P c = true) : L.all P = true := by
  refine List.all_eq_true.mpr fun c hc => ?_
  have h := List.all_eq_true.mp h1 c hc
  rcases Bool.eq_false_or_eq_true (isCode c) with hi | hi
  · exact h2 c (List.mem_filter.mpr ⟨hc, hi⟩)
  · simpa [hi] using h
set_option maxRecDepth 65536 in
theorem w_c0 : (Jvm.Cond.code x code maxLocals ret).before args0 about1 = true := code_word (m := ⟨1, 1⟩) (meth := k1m1) (c := k1c1) (by decide +kernel) rfl rfl rfl (by decide +kernel)
set_option maxRecDepth 65536 in
theorem w_c1 : (Jvm.Cond.code ({ cls := "com/example/dvalin/dvalin/ProblemToStringPinLaw", name := "take", desc := "([CI)[C" } : Jvm.MethodName) method_3_code (3 : Nat) (Option.some (Jvm.ClassFile.FieldType.array Jvm.ClassFile.FieldType.char))).before args0 about1 = true := code_word (m := ⟨1, 2⟩) (meth := k1m2) (c := k1c2) (by decide +kernel) rfl rfl rfl (by decide +kernel)
set_option maxRecDepth 65536 in
theorem w_c2 : (Jvm.Cond.code ({ cls := "java/lang/String", name := "<init>", desc := "([C)V" } : Jvm.MethodName) jdk_42_method_3_code (2 : Nat) (Option.none : Option Jvm.ClassFile.FieldType)).before args0 about1 = true := code_word (m := ⟨7, 1⟩) (meth := k7m1) (c := k7c1) (by decide +kernel) rfl rfl rfl (by decide +kernel)
set_option maxRecDepth 65536 in
theorem w_c3 : (Jvm.Cond.code ({ cls := "java/lang/String", name := "<init>", desc := "([CIILjava/lang/Void;)V" } : Jvm.MethodName) jdk_42_method_149_code (6 : Nat) (Option.none : Option Jvm.ClassFile.FieldType)).before args0 about1 = true := code_word (m := ⟨7, 6⟩) (meth := k7m6) (c := k7c6) (by decide +kernel) rfl rfl rfl (by decide +kernel)
set_option maxRecDepth 65536 in
theorem w_c4 : (Jvm.Cond.code ({ cls := "java/lang/Object", name := "<init>", desc := "()V" } : Jvm.MethodName) object_method_1_code (1 : Nat) (Option.none : Option Jvm.ClassFile.FieldType)).before args0 about1 = true := code_word (m := ⟨0, 0⟩) (meth := k0m0) (c := k0c0) (by decide +kernel) rfl rfl rfl (by decide +kernel)
set_option maxRecDepth 65536 in
theorem w_c5 : (Jvm.Cond.code ({ cls := "java/lang/StringUTF16", name := "compress", desc := "([CII)[B" } : Jvm.MethodName) jdk_52_method_16_code (6 : Nat) (Option.some (Jvm.ClassFile.FieldType.array Jvm.ClassFile.FieldType.byte))).before args0 about1 = true := code_word (m := ⟨8, 2⟩) (meth := k8m2) (c := k8c2) (by decide +kernel) rfl rfl rfl (by decide +kernel)
set_option maxRecDepth 65536 in
theorem w_c6 : (Jvm.Cond.code ({ cls := "java/lang/StringUTF16", name := "compress", desc := "([CI[BII)I" } : Jvm.MethodName) jdk_52_method_21_code (7 : Nat) (Option.some Jvm.ClassFile.FieldType.int)).before args0 about1 = true := code_word (m := ⟨8, 3⟩) (meth := k8m3) (c := k8c3) (by decide +kernel) rfl rfl rfl (by decide +kernel)
set_option maxRecDepth 65536 in
theorem w_c7 : (Jvm.Cond.code ({ cls := "java/lang/StringUTF16", name := "coderFromArrayLen", desc := "([BI)B" } : Jvm.MethodName) jdk_52_method_15_code (2 : Nat) (Option.some Jvm.ClassFile.FieldType.byte)).before args0 about1 = true := code_word (m := ⟨8, 1⟩) (meth := k8m1) (c := k8c1) (by decide +kernel) rfl rfl rfl (by decide +kernel)
set_option maxRecDepth 65536 in
theorem w_c8 : (Jvm.Cond.code ({ cls := "com/example/dvalin/dvalin/RegistryException$Problem", name := "<init>", desc := "(Ljava/lang/String;Ljava/lang/String;)V" } : Jvm.MethodName) prog_14_method_1_code (3 : Nat) (Option.none : Option Jvm.ClassFile.FieldType)).before args0 about1 = true := code_word (m := ⟨10, 0⟩) (meth := k10m0) (c := k10c0) (by decide +kernel) rfl rfl rfl (by decide +kernel)
set_option maxRecDepth 65536 in
theorem w_c9 : (Jvm.Cond.code ({ cls := "java/lang/Record", name := "<init>", desc := "()V" } : Jvm.MethodName) jdk_30_method_1_code (1 : Nat) (Option.none : Option Jvm.ClassFile.FieldType)).before args0 about1 = true := code_word (m := ⟨9, 0⟩) (meth := k9m0) (c := k9c0) (by decide +kernel) rfl rfl rfl (by decide +kernel)
set_option maxRecDepth 65536 in
theorem w_c10 : (Jvm.Cond.code ({ cls := "java/util/Objects", name := "requireNonNull", desc := "(Ljava/lang/Object;Ljava/lang/String;)Ljava/lang/Object;" } : Jvm.MethodName) jdk_31_method_11_code (2 : Nat) (Option.some (Jvm.ClassFile.FieldType.object "java/lang/Object"))).before args0 about1 = true := code_word (m := ⟨11, 1⟩) (meth := k11m1) (c := k11c1) (by decide +kernel) rfl rfl rfl (by decide +kernel)
set_option maxRecDepth 65536 in
theorem w_c11 : (Jvm.Cond.code ({ cls := "com/example/dvalin/dvalin/RegistryException$Problem", name := "toString", desc := "()Ljava/lang/String;" } : Jvm.MethodName) prog_14_method_2_code (1 : Nat) (Option.some (Jvm.ClassFile.FieldType.object "java/lang/String"))).before args0 about1 = true := code_word (m := ⟨10, 1⟩) (meth := k10m1) (c := k10c1) (by decide +kernel) rfl rfl rfl (by decide +kernel)
set_option maxRecDepth 65536 in
theorem w_c12 : (Jvm.Cond.code ({ cls := "java/lang/StringBuilder", name := "<init>", desc := "()V" } : Jvm.MethodName) jdk_67_method_1_code (1 : Nat) (Option.none : Option Jvm.ClassFile.FieldType)).before args0 about1 = true := code_word (m := ⟨14, 0⟩) (meth := k14m0) (c := k14c0) (by decide +kernel) rfl rfl rfl (by decide +kernel)
set_option maxRecDepth 65536 in
theorem w_c13 : (Jvm.Cond.code ({ cls := "java/lang/AbstractStringBuilder", name := "<init>", desc := "(I)V" } : Jvm.MethodName) jdk_68_method_2_code (2 : Nat) (Option.none : Option Jvm.ClassFile.FieldType)).before args0 about1 = true := code_word (m := ⟨13, 1⟩) (meth := k13m1) (c := k13c1) (by decide +kernel) rfl rfl rfl (by decide +kernel)
set_option maxRecDepth 65536 in
theorem w_c14 : (Jvm.Cond.code ({ cls := "java/lang/StringBuilder", name := "append", desc := "(Ljava/lang/String;)Ljava/lang/StringBuilder;" } : Jvm.MethodName) jdk_67_method_7_code (2 : Nat) (Option.some (Jvm.ClassFile.FieldType.object "java/lang/StringBuilder"))).before args0 about1 = true := code_word (m := ⟨14, 1⟩) (meth := k14m1) (c := k14c1) (by decide +kernel) rfl rfl rfl (by decide +kernel)
set_option maxRecDepth 65536 in
theorem w_c15 : (Jvm.Cond.code ({ cls := "java/lang/AbstractStringBuilder", name := "append", desc := "(Ljava/lang/String;)Ljava/lang/AbstractStringBuilder;" } : Jvm.MethodName) jdk_68_method_22_code (3 : Nat) (Option.some (Jvm.ClassFile.FieldType.object "java/lang/AbstractStringBuilder"))).before args0 about1 = true := code_word (m := ⟨13, 4⟩) (meth := k13m4) (c := k13c4) (by decide +kernel) rfl rfl rfl (by decide +kernel)
set_option maxRecDepth 65536 in
theorem w_c16 : (Jvm.Cond.code ({ cls := "java/lang/String", name := "length", desc := "()I" } : Jvm.MethodName) jdk_42_method_54_code (1 : Nat) (Option.some Jvm.ClassFile.FieldType.int)).before args0 about1 = true := code_word (m := ⟨7, 3⟩) (meth := k7m3) (c := k7c3) (by decide +kernel) rfl rfl rfl (by decide +kernel)
set_option maxRecDepth 65536 in
theorem w_c17 : (Jvm.Cond.code ({ cls := "java/lang/String", name := "coder", desc := "()B" } : Jvm.MethodName) jdk_42_method_152_code (1 : Nat) (Option.some Jvm.ClassFile.FieldType.byte)).before args0 about1 = true := code_word (m := ⟨7, 8⟩) (meth := k7m8) (c := k7c8) (by decide +kernel) rfl rfl rfl (by decide +kernel)
set_option maxRecDepth 65536 in
theorem w_c18 : (Jvm.Cond.code ({ cls := "java/lang/AbstractStringBuilder", name := "ensureCapacityInternal", desc := "(I)V" } : Jvm.MethodName) jdk_68_method_9_code (3 : Nat) (Option.none : Option Jvm.ClassFile.FieldType)).before args0 about1 = true := code_word (m := ⟨13, 3⟩) (meth := k13m3) (c := k13c3) (by decide +kernel) rfl rfl rfl (by decide +kernel)
set_option maxRecDepth 65536 in
theorem w_c19 : (Jvm.Cond.code ({ cls := "java/lang/AbstractStringBuilder", name := "putStringAt", desc := "(ILjava/lang/String;)V" } : Jvm.MethodName) jdk_68_method_73_code (3 : Nat) (Option.none : Option Jvm.ClassFile.FieldType)).before args0 about1 = true := code_word (m := ⟨13, 8⟩) (meth := k13m8) (c := k13c8) (by decide +kernel) rfl rfl rfl (by decide +kernel)
set_option maxRecDepth 65536 in
theorem w_c20 : (Jvm.Cond.code ({ cls := "java/lang/AbstractStringBuilder", name := "inflateIfNeededFor", desc := "(Ljava/lang/String;)V" } : Jvm.MethodName) jdk_68_method_71_code (2 : Nat) (Option.none : Option Jvm.ClassFile.FieldType)).before args0 about1 = true := code_word (m := ⟨13, 7⟩) (meth := k13m7) (c := k13c7) (by decide +kernel) rfl rfl rfl (by decide +kernel)
set_option maxRecDepth 65536 in
theorem w_c21 : (Jvm.Cond.code ({ cls := "java/lang/String", name := "getBytes", desc := "([BIB)V" } : Jvm.MethodName) jdk_42_method_147_code (4 : Nat) (Option.none : Option Jvm.ClassFile.FieldType)).before args0 about1 = true := code_word (m := ⟨7, 5⟩) (meth := k7m5) (c := k7c5) (by decide +kernel) rfl rfl rfl (by decide +kernel)
set_option maxRecDepth 65536 in
theorem w_c22 : (Jvm.Cond.code ({ cls := "java/lang/StringBuilder", name := "toString", desc := "()Ljava/lang/String;" } : Jvm.MethodName) jdk_67_method_42_code (1 : Nat) (Option.some (Jvm.ClassFile.FieldType.object "java/lang/String"))).before args0 about1 = true := code_word (m := ⟨14, 2⟩) (meth := k14m2) (c := k14c2) (by decide +kernel) rfl rfl rfl (by decide +kernel)
set_option maxRecDepth 65536 in
theorem w_c23 : (Jvm.Cond.code ({ cls := "java/lang/String", name := "<init>", desc := "(Ljava/lang/StringBuilder;)V" } : Jvm.MethodName) jdk_42_method_53_code (2 : Nat) (Option.none : Option Jvm.ClassFile.FieldType)).before args0 about1 = true := code_word (m := ⟨7, 2⟩) (meth := k7m2) (c := k7c2) (by decide +kernel) rfl rfl rfl (by decide +kernel)
set_option maxRecDepth 65536 in
theorem w_c24 : (Jvm.Cond.code ({ cls := "java/lang/String", name := "<init>", desc := "(Ljava/lang/AbstractStringBuilder;Ljava/lang/Void;)V" } : Jvm.MethodName) jdk_42_method_150_code (5 : Nat) (Option.none : Option Jvm.ClassFile.FieldType)).before args0 about1 = true := code_word (m := ⟨7, 7⟩) (meth := k7m7) (c := k7c7) (by decide +kernel) rfl rfl rfl (by decide +kernel)
set_option maxRecDepth 65536 in
theorem w_c25 : (Jvm.Cond.code ({ cls := "java/lang/AbstractStringBuilder", name := "getValue", desc := "()[B" } : Jvm.MethodName) jdk_68_method_64_code (1 : Nat) (Option.some (Jvm.ClassFile.FieldType.array Jvm.ClassFile.FieldType.byte))).before args0 about1 = true := code_word (m := ⟨13, 5⟩) (meth := k13m5) (c := k13c5) (by decide +kernel) rfl rfl rfl (by decide +kernel)
set_option maxRecDepth 65536 in
theorem w_c26 : (Jvm.Cond.code ({ cls := "java/lang/StringBuilder", name := "length", desc := "()I" } : Jvm.MethodName) jdk_67_method_93_code (1 : Nat) (Option.some Jvm.ClassFile.FieldType.int)).before args0 about1 = true := code_word (m := ⟨14, 3⟩) (meth := k14m3) (c := k14c3) (by decide +kernel) rfl rfl rfl (by decide +kernel)
set_option maxRecDepth 65536 in
theorem w_c27 : (Jvm.Cond.code ({ cls := "java/lang/AbstractStringBuilder", name := "length", desc := "()I" } : Jvm.MethodName) jdk_68_method_6_code (1 : Nat) (Option.some Jvm.ClassFile.FieldType.int)).before args0 about1 = true := code_word (m := ⟨13, 2⟩) (meth := k13m2) (c := k13c2) (by decide +kernel) rfl rfl rfl (by decide +kernel)
set_option maxRecDepth 65536 in
theorem w_c28 : (Jvm.Cond.code ({ cls := "java/lang/AbstractStringBuilder", name := "isLatin1", desc := "()Z" } : Jvm.MethodName) jdk_68_method_68_code (1 : Nat) (Option.some Jvm.ClassFile.FieldType.boolean)).before args0 about1 = true := code_word (m := ⟨13, 6⟩) (meth := k13m6) (c := k13c6) (by decide +kernel) rfl rfl rfl (by decide +kernel)
set_option maxRecDepth 65536 in
theorem w_c29 : (Jvm.Cond.code ({ cls := "java/util/Arrays", name := "copyOfRange", desc := "([BII)[B" } : Jvm.MethodName) jdk_65_method_132_code (3 : Nat) (Option.some (Jvm.ClassFile.FieldType.array Jvm.ClassFile.FieldType.byte))).before args0 about1 = true := code_word (m := ⟨16, 2⟩) (meth := k16m2) (c := k16c2) (by decide +kernel) rfl rfl rfl (by decide +kernel)
set_option maxRecDepth 65536 in
theorem w_c30 : (Jvm.Cond.code ({ cls := "java/util/Arrays", name := "copyOfRangeByte", desc := "([BII)[B" } : Jvm.MethodName) jdk_65_method_133_code (5 : Nat) (Option.some (Jvm.ClassFile.FieldType.array Jvm.ClassFile.FieldType.byte))).before args0 about1 = true := code_word (m := ⟨16, 3⟩) (meth := k16m3) (c := k16c3) (by decide +kernel) rfl rfl rfl (by decide +kernel)
set_option maxRecDepth 65536 in
theorem w_c31 : (Jvm.Cond.code ({ cls := "java/util/Arrays", name := "checkLength", desc := "(II)V" } : Jvm.MethodName) jdk_65_method_131_code (2 : Nat) (Option.none : Option Jvm.ClassFile.FieldType)).before args0 about1 = true := code_word (m := ⟨16, 1⟩) (meth := k16m1) (c := k16c1) (by decide +kernel) rfl rfl rfl (by decide +kernel)
set_option maxRecDepth 65536 in
theorem w_c32 : (Jvm.Cond.code ({ cls := "java/lang/Math", name := "min", desc := "(II)I" } : Jvm.MethodName) jdk_29_method_69_code (2 : Nat) (Option.some Jvm.ClassFile.FieldType.int)).before args0 about1 = true := code_word (m := ⟨17, 1⟩) (meth := k17m1) (c := k17c1) (by decide +kernel) rfl rfl rfl (by decide +kernel)
set_option maxRecDepth 65536 in
theorem w_c33 : (Jvm.Cond.code ({ cls := "com/example/dvalin/dvalin/ProblemToStringPinLaw", name := "at", desc := "(Ljava/lang/String;II[CI[C)Z" } : Jvm.MethodName) method_4_code (7 : Nat) (Option.some Jvm.ClassFile.FieldType.boolean)).before args0 about1 = true := code_word (m := ⟨1, 3⟩) (meth := k1m3) (c := k1c3) (by decide +kernel) rfl rfl rfl (by decide +kernel)
set_option maxRecDepth 65536 in
theorem w_c34 : (Jvm.Cond.code ({ cls := "java/lang/String", name := "charAt", desc := "(I)C" } : Jvm.MethodName) jdk_42_method_56_code (2 : Nat) (Option.some Jvm.ClassFile.FieldType.char)).before args0 about1 = true := code_word (m := ⟨7, 4⟩) (meth := k7m4) (c := k7c4) (by decide +kernel) rfl rfl rfl (by decide +kernel)
set_option maxRecDepth 65536 in
theorem w_c35 : (Jvm.Cond.code ({ cls := "java/lang/String", name := "isLatin1", desc := "()Z" } : Jvm.MethodName) jdk_42_method_154_code (1 : Nat) (Option.some Jvm.ClassFile.FieldType.boolean)).before args0 about1 = true := code_word (m := ⟨7, 9⟩) (meth := k7m9) (c := k7c9) (by decide +kernel) rfl rfl rfl (by decide +kernel)
set_option maxRecDepth 65536 in
theorem w_c36 : (Jvm.Cond.code ({ cls := "java/lang/StringLatin1", name := "charAt", desc := "([BI)C" } : Jvm.MethodName) jdk_43_method_2_code (2 : Nat) (Option.some Jvm.ClassFile.FieldType.char)).before args0 about1 = true := code_word (m := ⟨18, 1⟩) (meth := k18m1) (c := k18c1) (by decide +kernel) rfl rfl rfl (by decide +kernel)
set_option maxRecDepth 65536 in
theorem w_c37 : (Jvm.Cond.code ({ cls := "java/lang/String", name := "checkIndex", desc := "(II)V" } : Jvm.MethodName) jdk_42_method_155_code (2 : Nat) (Option.none : Option Jvm.ClassFile.FieldType)).before args0 about1 = true := code_word (m := ⟨7, 10⟩) (meth := k7m10) (c := k7c10) (by decide +kernel) rfl rfl rfl (by decide +kernel)
set_option maxRecDepth 65536 in
theorem w_c38 : (Jvm.Cond.code ({ cls := "jdk/internal/util/Preconditions", name := "checkIndex", desc := "(IILjava/util/function/BiFunction;)I" } : Jvm.MethodName) jdk_41_method_11_code (3 : Nat) (Option.some Jvm.ClassFile.FieldType.int)).before args0 about1 = true := code_word (m := ⟨19, 1⟩) (meth := k19m1) (c := k19c1) (by decide +kernel) rfl rfl rfl (by decide +kernel)
def codes1 : List Jvm.Cond := [Jvm.Cond.code x code maxLocals ret, Jvm.Cond.code ({ cls := "com/example/dvalin/dvalin/ProblemToStringPinLaw", name := "take", desc := "([CI)[C" } : Jvm.MethodName) method_3_code (3 : Nat) (Option.some (Jvm.ClassFile.FieldType.array Jvm.ClassFile.FieldType.char)), Jvm.Cond.code ({ cls := "java/lang/String", name := "<init>", desc := "([C)V" } : Jvm.MethodName) jdk_42_method_3_code (2 : Nat) (Option.none : Option Jvm.ClassFile.FieldType), Jvm.Cond.code ({ cls := "java/lang/String", name := "<init>", desc := "([CIILjava/lang/Void;)V" } : Jvm.MethodName) jdk_42_method_149_code (6 : Nat) (Option.none : Option Jvm.ClassFile.FieldType), Jvm.Cond.code ({ cls := "java/lang/Object", name := "<init>", desc := "()V" } : Jvm.MethodName) object_method_1_code (1 : Nat) (Option.none : Option Jvm.ClassFile.FieldType), Jvm.Cond.code ({ cls := "java/lang/StringUTF16", name := "compress", desc := "([CII)[B" } : Jvm.MethodName) jdk_52_method_16_code (6 : Nat) (Option.some (Jvm.ClassFile.FieldType.array Jvm.ClassFile.FieldType.byte)), Jvm.Cond.code ({ cls := "java/lang/StringUTF16", name := "compress", desc := "([CI[BII)I" } : Jvm.MethodName) jdk_52_method_21_code (7 : Nat) (Option.some Jvm.ClassFile.FieldType.int), Jvm.Cond.code ({ cls := "java/lang/StringUTF16", name := "coderFromArrayLen", desc := "([BI)B" } : Jvm.MethodName) jdk_52_method_15_code (2 : Nat) (Option.some Jvm.ClassFile.FieldType.byte), Jvm.Cond.code ({ cls := "com/example/dvalin/dvalin/RegistryException$Problem", name := "<init>", desc := "(Ljava/lang/String;Ljava/lang/String;)V" } : Jvm.MethodName) prog_14_method_1_code (3 : Nat) (Option.none : Option Jvm.ClassFile.FieldType), Jvm.Cond.code ({ cls := "java/lang/Record", name := "<init>", desc := "()V" } : Jvm.MethodName) jdk_30_method_1_code (1 : Nat) (Option.none : Option Jvm.ClassFile.FieldType), Jvm.Cond.code ({ cls := "java/util/Objects", name := "requireNonNull", desc := "(Ljava/lang/Object;Ljava/lang/String;)Ljava/lang/Object;" } : Jvm.MethodName) jdk_31_method_11_code (2 : Nat) (Option.some (Jvm.ClassFile.FieldType.object "java/lang/Object")), Jvm.Cond.code ({ cls := "com/example/dvalin/dvalin/RegistryException$Problem", name := "toString", desc := "()Ljava/lang/String;" } : Jvm.MethodName) prog_14_method_2_code (1 : Nat) (Option.some (Jvm.ClassFile.FieldType.object "java/lang/String")), Jvm.Cond.code ({ cls := "java/lang/StringBuilder", name := "<init>", desc := "()V" } : Jvm.MethodName) jdk_67_method_1_code (1 : Nat) (Option.none : Option Jvm.ClassFile.FieldType), Jvm.Cond.code ({ cls := "java/lang/AbstractStringBuilder", name := "<init>", desc := "(I)V" } : Jvm.MethodName) jdk_68_method_2_code (2 : Nat) (Option.none : Option Jvm.ClassFile.FieldType), Jvm.Cond.code ({ cls := "java/lang/StringBuilder", name := "append", desc := "(Ljava/lang/String;)Ljava/lang/StringBuilder;" } : Jvm.MethodName) jdk_67_method_7_code (2 : Nat) (Option.some (Jvm.ClassFile.FieldType.object "java/lang/StringBuilder")), Jvm.Cond.code ({ cls := "java/lang/AbstractStringBuilder", name := "append", desc := "(Ljava/lang/String;)Ljava/lang/AbstractStringBuilder;" } : Jvm.MethodName) jdk_68_method_22_code (3 : Nat) (Option.some (Jvm.ClassFile.FieldType.object "java/lang/AbstractStringBuilder")), Jvm.Cond.code ({ cls := "java/lang/String", name := "length", desc := "()I" } : Jvm.MethodName) jdk_42_method_54_code (1 : Nat) (Option.some Jvm.ClassFile.FieldType.int), Jvm.Cond.code ({ cls := "java/lang/String", name := "coder", desc := "()B" } : Jvm.MethodName) jdk_42_method_152_code (1 : Nat) (Option.some Jvm.ClassFile.FieldType.byte), Jvm.Cond.code ({ cls := "java/lang/AbstractStringBuilder", name := "ensureCapacityInternal", desc := "(I)V" } : Jvm.MethodName) jdk_68_method_9_code (3 : Nat) (Option.none : Option Jvm.ClassFile.FieldType), Jvm.Cond.code ({ cls := "java/lang/AbstractStringBuilder", name := "putStringAt", desc := "(ILjava/lang/String;)V" } : Jvm.MethodName) jdk_68_method_73_code (3 : Nat) (Option.none : Option Jvm.ClassFile.FieldType), Jvm.Cond.code ({ cls := "java/lang/AbstractStringBuilder", name := "inflateIfNeededFor", desc := "(Ljava/lang/String;)V" } : Jvm.MethodName) jdk_68_method_71_code (2 : Nat) (Option.none : Option Jvm.ClassFile.FieldType), Jvm.Cond.code ({ cls := "java/lang/String", name := "getBytes", desc := "([BIB)V" } : Jvm.MethodName) jdk_42_method_147_code (4 : Nat) (Option.none : Option Jvm.ClassFile.FieldType), Jvm.Cond.code ({ cls := "java/lang/StringBuilder", name := "toString", desc := "()Ljava/lang/String;" } : Jvm.MethodName) jdk_67_method_42_code (1 : Nat) (Option.some (Jvm.ClassFile.FieldType.object "java/lang/String")), Jvm.Cond.code ({ cls := "java/lang/String", name := "<init>", desc := "(Ljava/lang/StringBuilder;)V" } : Jvm.MethodName) jdk_42_method_53_code (2 : Nat) (Option.none : Option Jvm.ClassFile.FieldType), Jvm.Cond.code ({ cls := "java/lang/String", name := "<init>", desc := "(Ljava/lang/AbstractStringBuilder;Ljava/lang/Void;)V" } : Jvm.MethodName) jdk_42_method_150_code (5 : Nat) (Option.none : Option Jvm.ClassFile.FieldType), Jvm.Cond.code ({ cls := "java/lang/AbstractStringBuilder", name := "getValue", desc := "()[B" } : Jvm.MethodName) jdk_68_method_64_code (1 : Nat) (Option.some (Jvm.ClassFile.FieldType.array Jvm.ClassFile.FieldType.byte)), Jvm.Cond.code ({ cls := "java/lang/StringBuilder", name := "length", desc := "()I" } : Jvm.MethodName) jdk_67_method_93_code (1 : Nat) (Option.some Jvm.ClassFile.FieldType.int), Jvm.Cond.code ({ cls := "java/lang/AbstractStringBuilder", name := "length", desc := "()I" } : Jvm.MethodName) jdk_68_method_6_code (1 : Nat) (Option.some Jvm.ClassFile.FieldType.int), Jvm.Cond.code ({ cls := "java/lang/AbstractStringBuilder", name := "isLatin1", desc := "()Z" } : Jvm.MethodName) jdk_68_method_68_code (1 : Nat) (Option.some Jvm.ClassFile.FieldType.boolean), Jvm.Cond.code ({ cls := "java/util/Arrays", name := "copyOfRange", desc := "([BII)[B" } : Jvm.MethodName) jdk_65_method_132_code (3 : Nat) (Option.some (Jvm.ClassFile.FieldType.array Jvm.ClassFile.FieldType.byte)), Jvm.Cond.code ({ cls := "java/util/Arrays", name := "copyOfRangeByte", desc := "([BII)[B" } : Jvm.MethodName) jdk_65_method_133_code (5 : Nat) (Option.some (Jvm.ClassFile.FieldType.array Jvm.ClassFile.FieldType.byte)), Jvm.Cond.code ({ cls := "java/util/Arrays", name := "checkLength", desc := "(II)V" } : Jvm.MethodName) jdk_65_method_131_code (2 : Nat) (Option.none : Option Jvm.ClassFile.FieldType), Jvm.Cond.code ({ cls := "java/lang/Math", name := "min", desc := "(II)I" } : Jvm.MethodName) jdk_29_method_69_code (2 : Nat) (Option.some Jvm.ClassFile.FieldType.int), Jvm.Cond.code ({ cls := "com/example/dvalin/dvalin/ProblemToStringPinLaw", name := "at", desc := "(Ljava/lang/String;II[CI[C)Z" } : Jvm.MethodName) method_4_code (7 : Nat) (Option.some Jvm.ClassFile.FieldType.boolean), Jvm.Cond.code ({ cls := "java/lang/String", name := "charAt", desc := "(I)C" } : Jvm.MethodName) jdk_42_method_56_code (2 : Nat) (Option.some Jvm.ClassFile.FieldType.char), Jvm.Cond.code ({ cls := "java/lang/String", name := "isLatin1", desc := "()Z" } : Jvm.MethodName) jdk_42_method_154_code (1 : Nat) (Option.some Jvm.ClassFile.FieldType.boolean), Jvm.Cond.code ({ cls := "java/lang/StringLatin1", name := "charAt", desc := "([BI)C" } : Jvm.MethodName) jdk_43_method_2_code (2 : Nat) (Option.some Jvm.ClassFile.FieldType.char), Jvm.Cond.code ({ cls := "java/lang/String", name := "checkIndex", desc := "(II)V" } : Jvm.MethodName) jdk_42_method_155_code (2 : Nat) (Option.none : Option Jvm.ClassFile.FieldType), Jvm.Cond.code ({ cls := "jdk/internal/util/Preconditions", name := "checkIndex", desc := "(IILjava/util/function/BiFunction;)I" } : Jvm.MethodName) jdk_41_method_11_code (3 : Nat) (Option.some Jvm.ClassFile.FieldType.int)]
set_option maxRecDepth 65536 in
theorem codes_eq : words1.filter isCode = codes1 := rfl
theorem w_codes : ∀ c ∈ words1.filter isCode, c.before args0 about1 = true := by
  rw [codes_eq]
  intro c hc
  simp only [codes1, List.mem_cons, List.not_mem_nil, or_false] at hc
  rcases hc with rfl | rfl | rfl | rfl | rfl | rfl | rfl | rfl | rfl | rfl | rfl | rfl | rfl | rfl | rfl | rfl | rfl | rfl | rfl | rfl | rfl | rfl | rfl | rfl | rfl | rfl | rfl | rfl | rfl | rfl | rfl | rfl | rfl | rfl | rfl | rfl | rfl | rfl | rfl
  · exact w_c0
  · exact w_c1
  · exact w_c2
  · exact w_c3
  · exact w_c4
  · exact w_c5
  · exact w_c6
  · exact w_c7
  · exact w_c8
  · exact w_c9
  · exact w_c10
  · exact w_c11
  · exact w_c12
  · exact w_c13
  · exact w_c14
  · exact w_c15
  · exact w_c16
  · exact w_c17
  · exact w_c18
  · exact w_c19
  · exact w_c20
  · exact w_c21
  · exact w_c22
  · exact w_c23
  · exact w_c24
  · exact w_c25
  · exact w_c26
  · exact w_c27
  · exact w_c28
  · exact w_c29
  · exact w_c30
  · exact w_c31
  · exact w_c32
  · exact w_c33
  · exact w_c34
  · exact w_c35
  · exact w_c36
  · exact w_c37
  · exact w_c38
set_option maxRecDepth 65536 in
theorem w_t1 : (words1.take 24).all (fun c => isCode c || c.before args0 about1) = true := by decide +kernel
set_option maxRecDepth 65536 in
theorem w_t2 : ((words1.drop 24).take 24).all (fun c => isCode c || c.before args0 about1) = true := by decide +kernel
set_option maxRecDepth 65536 in
theorem w_t3 : (((words1.drop 24).drop 24).take 24).all (fun c => isCode c || c.before args0 about1) = true := by decide +kernel
set_option maxRecDepth 65536 in
theorem w_t4 : ((((words1.drop 24).drop 24).drop 24).take 24).all (fun c => isCode c || c.before args0 about1) = true := by decide +kernel
set_option maxRecDepth 65536 in
theorem w_t5 : (((((words1.drop 24).drop 24).drop 24).drop 24).take 24).all (fun c => isCode c || c.before args0 about1) = true := by decide +kernel
set_option maxRecDepth 65536 in
theorem w_t6 : ((((((words1.drop 24).drop 24).drop 24).drop 24).drop 24).take 24).all (fun c => isCode c || c.before args0 about1) = true := by decide +kernel
set_option maxRecDepth 65536 in
theorem w_t7 : (((((((words1.drop 24).drop 24).drop 24).drop 24).drop 24).drop 24).take 24).all (fun c => isCode c || c.before args0 about1) = true := by decide +kernel
set_option maxRecDepth 65536 in
theorem w_t8 : ((((((((words1.drop 24).drop 24).drop 24).drop 24).drop 24).drop 24).drop 24).take 24).all (fun c => isCode c || c.before args0 about1) = true := by decide +kernel
set_option maxRecDepth 65536 in
theorem w_t9 : ((((((((words1.drop 24).drop 24).drop 24).drop 24).drop 24).drop 24).drop 24).drop 24).all (fun c => isCode c || c.before args0 about1) = true := by decide +kernel
theorem w_tables : (allAtoms (Jvm.Cond.code x code maxLocals ret :: tables_1)).before args0 about1 = true := by
  rw [allAtoms_all]
  show words1.all (fun c => c.before args0 about1) = true
  refine all_split ?_ w_codes
  rw [← List.take_append_drop 24 words1, List.all_append, w_t1, ← List.take_append_drop 24 (words1.drop 24), List.all_append, w_t2, ← List.take_append_drop 24 ((words1.drop 24).drop 24), List.all_append, w_t3, ← List.take_append_drop 24 (((words1.drop 24).drop 24).drop 24), List.all_append, w_t4, ← List.take_append_drop 24 ((((words1.drop 24).drop 24).drop 24).drop 24), List.all_append, w_t5, ← List.take_append_drop 24 (((((words1.drop 24).drop 24).drop 24).drop 24).drop 24), List.all_append, w_t6, ← List.take_append_drop 24 ((((((words1.drop 24).drop 24).drop 24).drop 24).drop 24).drop 24), List.all_append, w_t7, ← List.take_append_drop 24 (((((((words1.drop 24).drop 24).drop 24).drop 24).drop 24).drop 24).drop 24), List.all_append, w_t8, w_t9]
  rfl
set_option maxRecDepth 65536 in
theorem w_rest : rest_1_c.before args0 about1 = true := by decide +kernel
set_option maxRecDepth 65536 in
theorem w_case : (Jvm.Cond.and given_1 narrow_1).before args0 about1 = true := by decide +kernel
set_option maxRecDepth 65536 in
theorem w_consts : constsHeld consts_1 about1 := Jvm.Lit.constsHeldB_iff.mp (by decide +kernel)
theorem w_applies : (headSpec (Jvm.Cond.code x code maxLocals ret :: tables_1) room_1).applies x e0.platform about1 = true :=
  (Spec.applies_iff w_frames).mpr ⟨w_running, w_runnable, w_alone, w_named, w_hears, w_ripe, w_room, w_tables⟩
theorem atStart : AtStart classFile x code maxLocals ret World_1 tables_1 room_1 Calls_1 rest_1 Pre_1 launch0 p0 e0 about1 theMethod args0 below0 :=
  ⟨lists_1, trivial, launch0.admits_env _ _ _, launch0.least_env, fairChoices_fair.cas, fairChoices_fair.clock, w_frames, w_args, w_heap, w_applies, ⟨w_consts, trivial⟩, w_rest, w_case⟩
end start1
theorem witness_1 : WitnessClaimed_1 := ⟨start1.p0, start1.e0, start1.about1, start1.theMethod, start1.args0, start1.below0, start1.atStart⟩
end Jvm.Pilot.@@N@@
