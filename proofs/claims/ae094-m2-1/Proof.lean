import JvmDerived
import JvmDerived.Pilot.@@N@@Statement
import JvmDerived.Pilot.@@N@@Code
set_option linter.unusedVariables false
set_option linter.unusedSimpArgs false
namespace Jvm.Pilot.@@N@@
open Jvm Jvm.ClassFile Sem Op Lib Jvm.Free Jvm.Stand Jvm.LawKit Jvm.RoadKit Bundle Jvm.Pilot.@@N@@.Jvm.D
/-- from the state A the body comes to its end as Q says -/
def own_Fin (tb : Tables) (e : Env) (below : List Frame) (s : State) (Q : Option Value → Heap → List Loc → Prop) (kc ks : Nat) (A : State) : Prop :=
  ∃ s₂ o, Steps tb e below A s₂ ∧ s₂.status = .running ∧ Ended s₂ below o ∧ ∃ v L, o = .returned v ∧ Q v s₂.heap L ∧ FrameEnd s o s₂ L kc ks
theorem own_G (tb : Tables) (e : Env) (below : List Frame) (s : State) (Q : Option Value → Heap → List Loc → Prop) (kc ks : Nat) :
    ∃ G : State → Prop, (∀ {A B : State}, (∀ t, Steps tb e below B t → Steps tb e below A t) → G B → G A) ∧ (∀ A, own_Fin tb e below s Q kc ks A → G A) ∧ (∀ A, G A → own_Fin tb e below s Q kc ks A) :=
  ⟨own_Fin tb e below s Q kc ks, fun h k => by obtain ⟨s₂, o, h1, r⟩ := k; exact ⟨s₂, o, h _ h1, r⟩, fun _ h => h, fun _ h => h⟩
theorem own_ret {p : Program} {l : Launch} {e : Env} {R : Room} {s : State} {m : MethodId} {args : Array Value} {below : List Frame} {meth : Method} {c : Code} {T : State} {locs : List Loc} {cells slots : Nat} {Q : Option Value → Heap → List Loc → Prop} {kc ks : Nat} {A : State} {v : Option Value}
    (X : Stand p l e R s m args below meth c T locs cells slots) (hlk : meth.locks = false) (hv : meth.sig.returnType = none → v = none) (hQ : Q v T.heap locs) (hc : cells ≤ kc) (hs : slots ≤ ks)
    (st : ∀ fs, (∀ (f : JFrame) (acts : List Action), f.method = m → f.locked = none → f.entered = [] → (doReturn e (T.setTop f) acts v).1 = T.setFrames fs) → Steps p.tables e below A (T.setFrames fs)) : own_Fin p.tables e below s Q kc ks A := by
  obtain ⟨fs, hr, hrun, hended, hW, hsame⟩ := X.leave hv hlk
  exact ⟨_, _, st fs hr, hrun, hended, _, _, rfl, hQ, ⟨_, rfl⟩, hW, hsame.mono hc hs⟩
theorem own_old {Z : State} {n0 : Nat} {h : Heap} (O : Old Z n0 h) : n0 ≤ h.size := O.1 ▸ O.2.1
theorem own_cat {v : Value} (h : v.isRef = true) : v.category = 1 := by rcases ref_cases h with rfl | ⟨a, rfl⟩ <;> rfl
theorem own_mvM {Z s : State} {a0 args : Array Value} {own host : String} {index : Nat} {y : MethodName} (hZ : Z.Warmed39 s.vm) (w : (Jvm.Cond.methodLinkNest own index y host).before a0 Z = true) : (Jvm.Cond.methodLinkNest own index y host).before args s = true := (Cond.methodLinkNest_wide hZ w :)
theorem own_ne_arv {Z : State} {h : Heap} {a b : Addr} {C : String} {a0 : Array Value} {n : Nat} {k : ClassId} {ty : FieldType} {z : Int32} {vs : List Value} {d : Value} (E : Exa Z h a C) (wi : (Jvm.Cond.instantiable C n).before a0 Z = true) (A : Arv Z h b k ty z vs d) : a ≠ b := by
  obtain ⟨c, A, -⟩ := A
  exact ne_arr E wi A
theorem own_narB (x : Int32) : nar .byte x.toInt8.toInt32 = x.toInt8.toInt32 := by
  refine Int32.toInt_inj.mp ?_
  have h1 := c_i2b x
  have h2 := c_i2b x.toInt8.toInt32
  show (x.toInt8.toInt32.toInt8.toInt32).toInt = _
  omega
theorem own_narC (x : Int32) : nar .char x.toUInt32.toUInt16.toUInt32.toInt32 = x.toUInt32.toUInt16.toUInt32.toInt32 := by
  refine Int32.toInt_inj.mp ?_
  have h1 := c_i2c x
  have h2 := c_i2c x.toUInt32.toUInt16.toUInt32.toInt32
  show (x.toUInt32.toUInt16.toUInt32.toInt32.toUInt32.toUInt16.toUInt32.toInt32).toInt = _
  omega
theorem own_exa {s : State} {args : Array Value} {t : Term} {K : String} (h : (Jvm.Cond.exactly t K).value args s none s [] = some true) : ∃ a, t.eval args s none [] s = some (.ref a) ∧ Exa s s.heap a K := by
  obtain ⟨a, c', cell, k, e1, e2, e3, e4, e5, e6, e7⟩ := Cond.exactly_spec (Cond.before_iff.mpr h)
  exact ⟨a, e1, Exa.start e1 h⟩
theorem own_fint {s : State} {args : Array Value} {t : Term} {C n d : String} {a : Addr} {k : Int32} (ht : t.eval args s none [] s = some (.ref a)) (h : (Jvm.Cond.eq (.field t C n d) (.int k)).value args s none s [] = some true) : Fld s s.heap a C n d (.int k) := by
  refine Fld.start ?_
  rw [← fld_at ht]
  have hk : (Term.int k).eval args s none [] s = some (.int k) := rfl
  cases q : (Term.field t C n d).eval args s none [] s with
  | none => simp [Cond.value, q] at h
  | some v => cases v <;> simp [Cond.value, q, hk] at h; rw [h]
theorem own_flong {s : State} {args : Array Value} {t : Term} {C n d : String} {a : Addr} {k : Int64} (ht : t.eval args s none [] s = some (.ref a)) (h : (Jvm.Cond.eq (.field t C n d) (.long k)).value args s none s [] = some true) : Fld s s.heap a C n d (.long k) := by
  refine Fld.start ?_
  rw [← fld_at ht]
  have hk : (Term.long k).eval args s none [] s = some (.long k) := rfl
  cases q : (Term.field t C n d).eval args s none [] s with
  | none => simp [Cond.value, q] at h
  | some v => cases v <;> simp [Cond.value, q, hk] at h; rw [h]
theorem own_pw {A B X Y : Nat} (h : A * 2 ^ X = B * 2 ^ Y) : A * 2 ^ (X - Y) = B * 2 ^ (Y - X) := by
  rcases Nat.le_total X Y with q | q
  · obtain ⟨k, rfl⟩ := Nat.exists_eq_add_of_le q
    rw [show X - (X + k) = 0 by omega, show X + k - X = k by omega, Nat.pow_zero, Nat.mul_one]
    rw [Nat.pow_add, Nat.mul_comm (2 ^ X), ← Nat.mul_assoc] at h
    exact Nat.eq_of_mul_eq_mul_right (Nat.two_pow_pos X) h
  · obtain ⟨k, rfl⟩ := Nat.exists_eq_add_of_le q
    rw [show Y - (Y + k) = 0 by omega, show Y + k - Y = k by omega, Nat.pow_zero, Nat.mul_one]
    rw [Nat.pow_add, Nat.mul_comm (2 ^ Y), ← Nat.mul_assoc] at h
    exact Nat.eq_of_mul_eq_mul_right (Nat.two_pow_pos Y) h
def own_Dy (a : UInt64) (c : Nat) (q : Int) : Prop := Jvm.FP.Core.val64 a = Jvm.FP.Core.roundRatio Jvm.FP.Core.b64 false c 1 q ∧ c < 2 ^ 53 ∧ -1074 ≤ q ∧ q ≤ 900
theorem own_Dy.fin {a : UInt64} {c : Nat} {q : Int} (h : own_Dy a c q) : ∃ c' q', Jvm.FP.Core.val64 a = .fin false c' q' ∧ c' * 2 ^ (q' + 1074).toNat = c * 2 ^ (q + 1074).toNat ∧ -1074 ≤ q' := by
  obtain ⟨h1, h2, h3, h4⟩ := h
  obtain ⟨c', q', e1, e2⟩ := Jvm.FP.Core.round_exact Jvm.FP.Core.good_b64 false (c := c) (q := q) h2 (by rw [Jvm.FP.Core.qmin_b64]; exact h3) (by show q ≤ (971 : Int); omega)
  have e3 : Jvm.FP.Core.val64 a = .fin false c' q' := h1.trans e1
  have e4 := Jvm.FP.Core.val64_fits a
  rw [e3] at e4
  have e5 : Jvm.FP.Core.b64.qmin ≤ q' := e4.2.1
  rw [Jvm.FP.Core.qmin_b64] at e5
  unfold Jvm.FP.Core.inUnits at e2
  rw [Jvm.FP.Core.qmin_b64] at e2
  exact ⟨c', q', e3, e2, e5⟩
theorem own_Dy.nan {a : UInt64} {c : Nat} {q : Int} (h : own_Dy a c q) : Jvm.FP.Core.val64 a ≠ .nan := by
  obtain ⟨c', q', e, -⟩ := h.fin
  rw [e]; exact fun k => nomatch k
theorem own_Dy.no {a : UInt64} {c : Nat} {q : Int} (h : own_Dy a c q) : Jvm.Free.Fl.NoNaN64 a := Jvm.Free.Fl.val64_no.mpr h.nan
theorem own_Dy.eq {a b : UInt64} {c : Nat} {q : Int} (h : own_Dy a c q) (k : own_Dy b c q) : a = b := Jvm.FP.Core.val64_inj h.nan (h.1.trans k.1.symm)
theorem own_Dy.zval {a : UInt64} {c : Nat} {q : Int} (h : own_Dy a c q) : Jvm.FP.Core.zval Jvm.FP.Core.b64 (Jvm.FP.Core.val64 a) = ((c * 2 ^ (q + 1074).toNat : Nat) : Int) := by
  obtain ⟨c', q', e, e2, -⟩ := h.fin
  rw [e, ← e2]; rfl
theorem own_Dy.cmp {a b : UInt64} {c d : Nat} {q r : Int} (h : own_Dy a c q) (k : own_Dy b d r) : FP.dcmp a b = some (compare ((c * 2 ^ (q + 1074).toNat : Nat) : Int) ((d * 2 ^ (r + 1074).toNat : Nat) : Int)) := by
  show Jvm.FP.Core.dcmp a b = _
  rw [Jvm.FP.Core.dcmp_zval h.nan k.nan, h.zval, k.zval]
theorem own_Dy.mul {a b : UInt64} {c d : Nat} {q r : Int} (h : own_Dy a c q) (k : own_Dy b d r) (h1 : c * d < 2 ^ 53) (h2 : -1074 ≤ q + r) (h3 : q + r ≤ 900) : own_Dy (FP.dmul a b) (c * d) (q + r) := by
  obtain ⟨c', q', e, e2, e3⟩ := h.fin
  obtain ⟨d', r', f, f2, f3⟩ := k.fin
  have g3 := h.2.2.1
  have g4 := k.2.2.1
  refine ⟨?_, h1, h2, h3⟩
  show Jvm.FP.Core.val64 (Jvm.FP.Core.dmul a b) = _
  rw [Jvm.FP.Core.val64_dmul, e, f]
  show Jvm.FP.Core.roundRatio Jvm.FP.Core.b64 false (c' * d') 1 (q' + r') = _
  refine Jvm.FP.Core.roundRatio_congr (by decide) (by decide) ?_
  have w := own_pw (A := c' * d') (B := c * d) (X := (q' + 1074).toNat + (r' + 1074).toNat) (Y := (q + 1074).toNat + (r + 1074).toNat) (by
    rw [Nat.pow_add, Nat.pow_add, Nat.mul_mul_mul_comm, e2, f2, Nat.mul_mul_mul_comm])
  rw [Nat.mul_one, Nat.mul_one, show (q' + r' - (q + r)).toNat = (q' + 1074).toNat + (r' + 1074).toNat - ((q + 1074).toNat + (r + 1074).toNat) by omega, show (q + r - (q' + r')).toNat = (q + 1074).toNat + (r + 1074).toNat - ((q' + 1074).toNat + (r' + 1074).toNat) by omega]
  exact w
theorem own_Dy.div {a b : UInt64} {c : Nat} {q r : Int} (h : own_Dy a c q) (k : own_Dy b 1 r) (h2 : -1074 ≤ q - r) (h3 : q - r ≤ 900) : own_Dy (FP.ddiv a b) c (q - r) := by
  obtain ⟨c', q', e, e2, e3⟩ := h.fin
  obtain ⟨d', r', f, f2, f3⟩ := k.fin
  have g3 := h.2.2.1
  have g4 := k.2.2.1
  have hd : d' ≠ 0 := by
    rintro rfl
    rw [Nat.zero_mul, Nat.one_mul] at f2
    have := Nat.two_pow_pos (r + 1074).toNat
    omega
  refine ⟨?_, h.2.1, h2, h3⟩
  show Jvm.FP.Core.val64 (Jvm.FP.Core.ddiv a b) = _
  rw [Jvm.FP.Core.val64_ddiv, e, f]
  show (if d' = 0 then _ else Jvm.FP.Core.roundRatio Jvm.FP.Core.b64 false c' d' (q' - r')) = _
  rw [if_neg hd]
  refine Jvm.FP.Core.roundRatio_congr (Nat.pos_of_ne_zero hd) (by decide) ?_
  have w := own_pw (A := c') (B := c * d') (X := (q' + 1074).toNat + (r + 1074).toNat) (Y := (q + 1074).toNat + (r' + 1074).toNat) (by
    rw [Nat.pow_add, Nat.pow_add, ← Nat.mul_assoc, e2, Nat.mul_mul_mul_comm, f2, Nat.one_mul])
  rw [Nat.mul_one, show (q' - r' - (q - r)).toNat = (q' + 1074).toNat + (r + 1074).toNat - ((q + 1074).toNat + (r' + 1074).toNat) by omega, show (q - r - (q' - r')).toNat = (q + 1074).toNat + (r' + 1074).toNat - ((q' + 1074).toNat + (r + 1074).toNat) by omega]
  exact w
theorem own_Dy_int {a : UInt64} {i : Int} {c k : Nat} (e : Jvm.FP.Core.val64 a = Jvm.FP.Core.round Jvm.FP.Core.b64 (Jvm.FP.Core.ofInt i)) (h : i = ((c * 2 ^ k : Nat) : Int)) (hc : c < 2 ^ 53) (hk : k ≤ 900) : own_Dy a c k := by
  refine ⟨?_, hc, by omega, by omega⟩
  rw [e, h]
  show Jvm.FP.Core.roundRatio Jvm.FP.Core.b64 (decide (((c * 2 ^ k : Nat) : Int) < 0)) (((c * 2 ^ k : Nat) : Int).natAbs) 1 0 = _
  rw [show decide (((c * 2 ^ k : Nat) : Int) < 0) = false from decide_eq_false (by omega), Int.natAbs_natCast]
  refine Jvm.FP.Core.roundRatio_congr (by decide) (by decide) ?_
  rw [Nat.mul_one, Nat.mul_one, show ((0 : Int) - (k : Int)).toNat = 0 by omega, show ((k : Int) - 0).toNat = k by omega, Nat.pow_zero, Nat.mul_one]
theorem own_Dy_l2d {n : Int64} {c k : Nat} (h : n.toInt = ((c * 2 ^ k : Nat) : Int)) (hc : c < 2 ^ 53) (hk : k ≤ 900) : own_Dy (FP.l2d n) c k := own_Dy_int (Jvm.FP.Core.val64_l2d n) h hc hk
theorem own_Dy_i2d {n : Int32} {c k : Nat} (h : n.toInt = ((c * 2 ^ k : Nat) : Int)) (hc : c < 2 ^ 53) (hk : k ≤ 900) : own_Dy (FP.i2d n) c k := own_Dy_int (Jvm.FP.Core.val64_i2d n) h hc hk
theorem own_Dy_0 {q : Int} (h2 : -1074 ≤ q) (h3 : q ≤ 900) : own_Dy FP.dconst0 0 q := ⟨Jvm.FP.Core.val64_dconst0, by decide, h2, h3⟩
theorem own_Dy_of {a : UInt64} {c' : Nat} {q' : Int} {c : Nat} {q : Int} (e : Jvm.FP.Core.val64 a = .fin false c' q') (h1 : c < 2 ^ 53) (h2 : -1074 ≤ q) (h3 : q ≤ 900) (h : c' * 2 ^ (q' - q).toNat = c * 2 ^ (q - q').toNat) : own_Dy a c q := by
  refine ⟨?_, h1, h2, h3⟩
  have f := Jvm.FP.Core.round_of_fits Jvm.FP.Core.good_b64 (Jvm.FP.Core.val64_fits a)
  rw [← f, e]
  exact Jvm.FP.Core.roundRatio_congr (by decide) (by decide) (by rw [Nat.mul_one, Nat.mul_one]; exact h)
theorem own_Dy_1 : own_Dy FP.dconst1 1 0 := own_Dy_of Jvm.FP.Core.val64_dconst1 (by decide) (by decide) (by decide) (by decide +kernel)

def own_mg (y : UInt64) : Prop := (¬ (cmpValue (FP.dcmp y FP.dconst0) .l < (0 : Int32))) ∧ cmpValue (FP.dcmp y FP.dconst1) .g < (0 : Int32)
theorem own_n53 (b : Int64) : ∃ n : Nat, (b &&& (9007199254740991 : Int64)).toInt = ((n * 2 ^ 0 : Nat) : Int) ∧ n < 2 ^ 53 := by
  have e : (b &&& (9007199254740991 : Int64)) = (b.toUInt64 &&& 9007199254740991).toInt64 := rfl
  have h : (b.toUInt64 &&& 9007199254740991).toNat < 2 ^ 53 := by
    rw [UInt64.toNat_and]
    exact Nat.lt_of_le_of_lt Nat.and_le_right (by decide)
  refine ⟨(b.toUInt64 &&& 9007199254740991).toNat, ?_, h⟩
  rw [e, Nat.pow_zero, Nat.mul_one]
  generalize (b.toUInt64 &&& 9007199254740991) = u at h
  show u.toBitVec.toInt = _
  rw [BitVec.toInt_eq_toNat_of_lt]
  · rfl
  · show 2 * u.toNat < 2 ^ 64
    omega
theorem own_d53 : own_Dy (4845873199050653696 : UInt64) 1 53 := own_Dy_of (c' := 2 ^ 52) (q' := 1) (by decide +kernel) (by decide) (by decide) (by decide) (by decide +kernel)
theorem own_qd {a b : UInt64} {n : Nat} (h : own_Dy a n ((0 : Nat) : Int)) (k : own_Dy b 1 53) : own_Dy (FP.ddiv a b) n (-53) := by
  have w := h.div k (by decide) (by decide)
  rw [show ((0 : Nat) : Int) - 53 = -53 from by decide] at w
  exact w
theorem own_q (b : Int64) : ∃ n : Nat, own_Dy (FP.ddiv (FP.l2d (b &&& (9007199254740991 : Int64))) (4845873199050653696 : UInt64)) n (-53) ∧ (b &&& (9007199254740991 : Int64)).toInt = (n : Int) := by
  obtain ⟨n, h, k⟩ := own_n53 b
  refine ⟨n, own_qd (own_Dy_l2d h k (by decide)) own_d53, ?_⟩
  rw [h, Nat.pow_zero, Nat.mul_one]
theorem own_no (b : Int64) : Jvm.Free.Fl.NoNaN64 (FP.ddiv (FP.l2d (b &&& (9007199254740991 : Int64))) (4845873199050653696 : UInt64)) := by
  obtain ⟨n, h, -⟩ := own_q b
  exact h.no
theorem own_mg1 (b : Int64) : own_mg (FP.ddiv (FP.l2d (b &&& (9007199254740991 : Int64))) (4845873199050653696 : UInt64)) := by
  obtain ⟨n, h, -⟩ := own_q b
  have hn := h.2.1
  refine ⟨?_, ?_⟩
  · rw [h.cmp (own_Dy_0 (q := 0) (by decide) (by decide)), Nat.zero_mul]
    have p : ¬ (((n * 2 ^ (-53 + 1074 : Int).toNat : Nat) : Int) < ((0 : Nat) : Int)) := by omega
    rw [Jvm.FP.Core.compare_ite, if_neg p]
    split <;> decide
  · rw [h.cmp own_Dy_1]
    have p : ((n * 2 ^ (-53 + 1074 : Int).toNat : Nat) : Int) < ((1 * 2 ^ (0 + 1074 : Int).toNat : Nat) : Int) := by
      refine Int.ofNat_lt.mpr ?_
      have e1 : (-53 + 1074 : Int).toNat = 1021 := by decide
      have e2 : (0 + 1074 : Int).toNat = 53 + 1021 := by decide
      rw [e1, e2, Nat.pow_add, Nat.one_mul]
      exact Nat.mul_lt_mul_of_pos_right hn (Nat.two_pow_pos _)
    rw [Jvm.FP.Core.compare_ite, if_pos p]
    decide
theorem own_mg2 {b : Int64} (hz : (b &&& (9007199254740991 : Int64)) = (0 : Int64)) : own_mg (FP.dneg (FP.ddiv (FP.l2d (b &&& (9007199254740991 : Int64))) (4845873199050653696 : UInt64))) := by
  obtain ⟨n, h, k⟩ := own_q b
  rw [hz] at k h ⊢
  have k0 : n = 0 := by
    have : (0 : Int64).toInt = 0 := by decide
    omega
  subst k0
  rw [h.eq (own_Dy_0 (by decide) (by decide))]
  unfold own_mg
  decide +kernel
theorem ef_0 (m : MethodId) (x0 : UInt64)  : entryFrame m #[(.double x0)] 2 = mkF m 0 #[.val (.double x0), .second] [] := by first | (simp [entryFrame, mkF, argsToLocals, Value.category]; done) | rfl
theorem pn_0 : plainName "com/example/pufferfish/pufferfish/sizing/QueueingModel" = true := by first | (simp [plainName, overriddenIn]; done) | decide +kernel
theorem d1_0 : decode prog_81_method_4_code 0 = .ok (.dload_n 0, 1) := by decide +kernel
theorem d1_1 : decode prog_81_method_4_code 1 = .ok (.dconst 0, 1) := by decide +kernel
theorem d1_2 : decode prog_81_method_4_code 2 = .ok (.dcmp .l, 1) := by decide +kernel
theorem d1_3 : decode prog_81_method_4_code 3 = .ok (.ifCond .lt 9, 3) := by decide +kernel
theorem d1_6 : decode prog_81_method_4_code 6 = .ok (.dload_n 0, 1) := by decide +kernel
theorem d1_7 : decode prog_81_method_4_code 7 = .ok (.dconst 1, 1) := by decide +kernel
theorem d1_8 : decode prog_81_method_4_code 8 = .ok (.dcmp .g, 1) := by decide +kernel
theorem d1_9 : decode prog_81_method_4_code 9 = .ok (.ifCond .lt 17, 3) := by decide +kernel
theorem d1_26 : decode prog_81_method_4_code 26 = .ok (.return_, 1) := by decide +kernel
def Q_cm (Z : State) (y : UInt64) (h0 : Heap) (n0 : Nat) (v : Option Value) (h : Heap) (L : List Loc) : Prop := v = none ∧ Fr n0 L ∧ h = h0
set_option maxRecDepth 65536 in
set_option maxHeartbeats 40000000 in
theorem rm_cm (l : Launch) (Z : State) (a0 : Array Value) (hw : ∀ d ∈ tables_1, d.before a0 Z = true) (ws : List Jvm.Cond) (y : UInt64) (h0 : Heap) (n0 : Nat) (O0 : Old Z n0 h0) (u0 : (own_mg y)) :
    MetFree l (⟨"com/example/pufferfish/pufferfish/sizing/QueueingModel", "checkMargin", "(D)V"⟩ : MethodName) (head1 (Jvm.Cond.code (⟨"com/example/pufferfish/pufferfish/sizing/QueueingModel", "checkMargin", "(D)V"⟩ : MethodName) prog_81_method_4_code 2 none :: ws) ({ frames := 0, cells := 0, slots := 0, locals := 0 } : Room)) (fun aV U => aV = #[(.double y)] ∧ Z.Warmed39 U.vm ∧ U.heap = h0) (fun _ _ _ _ _ => True) (fun _ U o U' => ∃ v L, o = .returned v ∧ Q_cm Z y h0 n0 v U'.heap L ∧ FrameEnd U o U' L ({ frames := 0, cells := 0, slots := 0, locals := 0 } : Room).cells ({ frames := 0, cells := 0, slots := 0, locals := 0 } : Room).slots) := by
  refine MetFree.of_bodySF (plainFor_of_name pn_0) hisR ?_
  intro pr_ en_ st_ me_ args below meth_ co_ s₁ Bd hml0 hP hK
  obtain ⟨rfl, hZ, hh⟩ := hP
  have hx := Bd.exec
  have hby := Bd.bytes
  have hml : co_.maxLocals = 2 := hml0
  have hown : st_.vm.findClass "com/example/pufferfish/pufferfish/sizing/QueueingModel" = some me_.cls := findClass_of_methodNamed Bd.named
  have hnm := (name_of_methodNamed Bd.named Bd.method).1
  have X0 : Stand pr_ l en_ ({ frames := 0, cells := 0, slots := 0, locals := 0 } : Room) st_ me_ #[(.double y)] below meth_ co_ s₁ [] 0 0 := Stand.of_body Bd
  have e0 : s₁.heap = h0 := by rw [← hh, Bd.state]; rfl
  have N0 := Fr.nil n0
  have K0 := Keep.refl h0 []
  obtain ⟨G, gv, gf, gb⟩ := own_G pr_.tables en_ below st_ (Q_cm Z y h0 n0) ({ frames := 0, cells := 0, slots := 0, locals := 0 } : Room).cells ({ frames := 0, cells := 0, slots := 0, locals := 0 } : Room).slots
  show own_Fin pr_.tables en_ below st_ (Q_cm Z y h0 n0) ({ frames := 0, cells := 0, slots := 0, locals := 0 } : Room).cells ({ frames := 0, cells := 0, slots := 0, locals := 0 } : Room).slots (s₁.setTop (entryFrame me_ #[(.double y)] 2))
  refine gb _ (gv (fun tQ kQ => castTop (ef_0 me_ y) kQ) ?_)
  show G (s₁.setTop (mkF me_ 0 #[.val (.double y), .second] []))
  refine gv (fun tQ kQ => XS.dloadN X0.here hx rfl (hb hby d1_0) rfl kQ) ?_
  show G (s₁.setTop (mkF me_ 1 #[.val (.double y), .second] [(.double y)]))
  refine gv (fun tQ kQ => XS.dconst0 X0.here hx rfl (hb hby d1_1) rfl kQ) ?_
  show G (s₁.setTop (mkF me_ 2 #[.val (.double y), .second] [(.double FP.dconst0), (.double y)]))
  refine gv (fun tQ kQ => XS.dcmpS X0.here hx rfl (hb hby d1_2) rfl rfl kQ) ?_
  show G (s₁.setTop (mkF me_ 3 #[.val (.double y), .second] [(.int (cmpValue (FP.dcmp y FP.dconst0) .l))]))
  refine gv (fun tQ kQ => XS.ifNo X0.here hx rfl (hb hby d1_3) rfl ((if0 _ _).trans (flt u0.1).1) kQ) ?_
  show G (s₁.setTop (mkF me_ 6 #[.val (.double y), .second] []))
  refine gv (fun tQ kQ => XS.dloadN X0.here hx rfl (hb hby d1_6) rfl kQ) ?_
  show G (s₁.setTop (mkF me_ 7 #[.val (.double y), .second] [(.double y)]))
  refine gv (fun tQ kQ => XS.dconst1 X0.here hx rfl (hb hby d1_7) rfl kQ) ?_
  show G (s₁.setTop (mkF me_ 8 #[.val (.double y), .second] [(.double FP.dconst1), (.double y)]))
  refine gv (fun tQ kQ => XS.dcmpS X0.here hx rfl (hb hby d1_8) rfl rfl kQ) ?_
  show G (s₁.setTop (mkF me_ 9 #[.val (.double y), .second] [(.int (cmpValue (FP.dcmp y FP.dconst1) .g))]))
  refine gv (fun tQ kQ => XS.ifYes X0.here hx rfl (pc0 := 9) (pc' := 26) rfl (hb hby d1_9) rfl ((if0 _ _).trans (tlt u0.2).1) (by decide) (by decide) kQ) ?_
  show G (s₁.setTop (mkF me_ 26 #[.val (.double y), .second] []))
  refine gf _ (own_ret X0 Bd.notSynchronized (v := none) (fun _ => rfl) ?_ (by decide) (by decide) (fun fs hr => X0.returnOut hx Bd.returns (hb hby d1_26) hr))
  show Q_cm Z y h0 n0 _ s₁.heap _
  rw [e0]
  exact ⟨rfl, N0, rfl⟩
theorem ef_1 (m : MethodId) (x0 : Int64) (x1 : Int32)  : entryFrame m #[(.long x0), (.int x1)] maxLocals = mkF m 0 #[.val (.long x0), .second, .val (.int x1), .unset, .unset, .unset, .unset] [] := by first | (simp [entryFrame, mkF, argsToLocals, Value.category, maxLocals]; done) | rfl
theorem pn_1 : plainName "com/example/pufferfish/pufferfish/sizing/QueueingModelCheckMarginPinLaw" = true := by first | (simp [plainName, overriddenIn]; done) | decide +kernel
theorem pd_0 : parseMethodDescriptor "(D)V" = some ⟨[.double], none⟩ := by decide +kernel
def Q0 (Z : State) (p0 : Int64) (p1 : Int32) (h0 : Heap) (n0 : Nat) (v : Option Value) (h : Heap) (L : List Loc) : Prop := v = some (.int (1 : Int32)) ∧ Fr n0 L
set_option maxRecDepth 65536 in
set_option maxHeartbeats 40000000 in
theorem rm0 (l : Launch) (Z : State) (a0 : Array Value) (hw : ∀ d ∈ tables_1, d.before a0 Z = true) (ws : List Jvm.Cond) (p0 : Int64) (p1 : Int32) (h0 : Heap) (n0 : Nat) (O0 : Old Z n0 h0)  :
    MetFree l x (head1 (Jvm.Cond.code x code maxLocals ret :: ws) room_1) (fun aV U => aV = #[(.long p0), (.int p1)] ∧ Z.Warmed39 U.vm ∧ U.heap = h0) (fun _ _ _ _ _ => True) (fun _ U o U' => ∃ v L, o = .returned v ∧ Q0 Z p0 p1 h0 n0 v U'.heap L ∧ FrameEnd U o U' L room_1.cells room_1.slots) := by
  refine MetFree.of_bodySF (plainFor_of_name pn_1) hisR ?_
  intro pr_ en_ st_ me_ args below meth_ co_ s₁ Bd hml0 hP hK
  obtain ⟨rfl, hZ, hh⟩ := hP
  have hx := Bd.exec
  have hby := Bd.bytes
  have hml : co_.maxLocals = 7 := hml0
  have hown : st_.vm.findClass "com/example/pufferfish/pufferfish/sizing/QueueingModelCheckMarginPinLaw" = some me_.cls := findClass_of_methodNamed Bd.named
  have hnm := (name_of_methodNamed Bd.named Bd.method).1
  have X0 : Stand pr_ l en_ room_1 st_ me_ #[(.long p0), (.int p1)] below meth_ co_ s₁ [] 0 0 := Stand.of_body Bd
  have e0 : s₁.heap = h0 := by rw [← hh, Bd.state]; rfl
  have N0 := Fr.nil n0
  have K0 := Keep.refl h0 []
  obtain ⟨G, gv, gf, gb⟩ := own_G pr_.tables en_ below st_ (Q0 Z p0 p1 h0 n0) room_1.cells room_1.slots
  show own_Fin pr_.tables en_ below st_ (Q0 Z p0 p1 h0 n0) room_1.cells room_1.slots (s₁.setTop (entryFrame me_ #[(.long p0), (.int p1)] maxLocals))
  refine gb _ (gv (fun tQ kQ => castTop (ef_1 me_ p0 p1) kQ) ?_)
  show G (s₁.setTop (mkF me_ 0 #[.val (.long p0), .second, .val (.int p1), .unset, .unset, .unset, .unset] []))
  refine gv (fun tQ kQ => XS.lloadN X0.here hx rfl (hb hby at_0) rfl kQ) ?_
  show G (s₁.setTop (mkF me_ 1 #[.val (.long p0), .second, .val (.int p1), .unset, .unset, .unset, .unset] [(.long p0)]))
  refine gv (X0.ldc2Long hx hown (mvT hZ (hw _ (List.mem_of_getElem? (i := 0) rfl))) (g := (mkF me_ 1 #[.val (.long p0), .second, .val (.int p1), .unset, .unset, .unset, .unset] [(.long p0)])) rfl (hb hby at_1)) ?_
  show G (s₁.setTop (mkF me_ 4 #[.val (.long p0), .second, .val (.int p1), .unset, .unset, .unset, .unset] [(.long (9007199254740991 : Int64)), (.long p0)]))
  refine gv (fun tQ kQ => XS.land X0.here hx rfl (hb hby at_4) rfl kQ) ?_
  show G (s₁.setTop (mkF me_ 5 #[.val (.long p0), .second, .val (.int p1), .unset, .unset, .unset, .unset] [(.long (p0 &&& (9007199254740991 : Int64)))]))
  refine gv (fun tQ kQ => XS.lstoreN X0.here hx rfl (hb hby at_5) rfl (l' := #[.val (.long p0), .second, .val (.int p1), .val (.long (p0 &&& (9007199254740991 : Int64))), .second, .unset, .unset]) rfl kQ) ?_
  show G (s₁.setTop (mkF me_ 6 #[.val (.long p0), .second, .val (.int p1), .val (.long (p0 &&& (9007199254740991 : Int64))), .second, .unset, .unset] []))
  refine gv (fun tQ kQ => XS.lloadN X0.here hx rfl (hb hby at_6) rfl kQ) ?_
  show G (s₁.setTop (mkF me_ 7 #[.val (.long p0), .second, .val (.int p1), .val (.long (p0 &&& (9007199254740991 : Int64))), .second, .unset, .unset] [(.long (p0 &&& (9007199254740991 : Int64)))]))
  refine gv (fun tQ kQ => XS.l2dS X0.here hx rfl (hb hby at_7) rfl rfl kQ) ?_
  show G (s₁.setTop (mkF me_ 8 #[.val (.long p0), .second, .val (.int p1), .val (.long (p0 &&& (9007199254740991 : Int64))), .second, .unset, .unset] [(.double (FP.l2d (p0 &&& (9007199254740991 : Int64))))]))
  refine gv (X0.ldc2DoubleC hx hown (mvT hZ (hw _ (List.mem_of_getElem? (i := 1) rfl))) (g := (mkF me_ 8 #[.val (.long p0), .second, .val (.int p1), .val (.long (p0 &&& (9007199254740991 : Int64))), .second, .unset, .unset] [(.double (FP.l2d (p0 &&& (9007199254740991 : Int64))))])) rfl (hb hby at_8)) ?_
  show G (s₁.setTop (mkF me_ 11 #[.val (.long p0), .second, .val (.int p1), .val (.long (p0 &&& (9007199254740991 : Int64))), .second, .unset, .unset] [(.double (4845873199050653696 : UInt64)), (.double (FP.l2d (p0 &&& (9007199254740991 : Int64))))]))
  refine gv (fun tQ kQ => XS.ddivS X0.here hx rfl (hb hby at_11) rfl (own_no p0) rfl kQ) ?_
  show G (s₁.setTop (mkF me_ 12 #[.val (.long p0), .second, .val (.int p1), .val (.long (p0 &&& (9007199254740991 : Int64))), .second, .unset, .unset] [(.double (FP.ddiv (FP.l2d (p0 &&& (9007199254740991 : Int64))) (4845873199050653696 : UInt64)))]))
  refine gv (fun tQ kQ => XS.dstore X0.here hx rfl (hb hby at_12) rfl (l' := #[.val (.long p0), .second, .val (.int p1), .val (.long (p0 &&& (9007199254740991 : Int64))), .second, .val (.double (FP.ddiv (FP.l2d (p0 &&& (9007199254740991 : Int64))) (4845873199050653696 : UInt64))), .second]) rfl kQ) ?_
  show G (s₁.setTop (mkF me_ 14 #[.val (.long p0), .second, .val (.int p1), .val (.long (p0 &&& (9007199254740991 : Int64))), .second, .val (.double (FP.ddiv (FP.l2d (p0 &&& (9007199254740991 : Int64))) (4845873199050653696 : UInt64))), .second] []))
  refine gv (fun tQ kQ => XS.iloadN X0.here hx rfl (hb hby at_14) rfl kQ) ?_
  show G (s₁.setTop (mkF me_ 15 #[.val (.long p0), .second, .val (.int p1), .val (.long (p0 &&& (9007199254740991 : Int64))), .second, .val (.double (FP.ddiv (FP.l2d (p0 &&& (9007199254740991 : Int64))) (4845873199050653696 : UInt64))), .second] [(.int p1)]))
  refine gv (fun tQ kQ => XS.iconst X0.here hx rfl (hb hby at_15) kQ) ?_
  show G (s₁.setTop (mkF me_ 16 #[.val (.long p0), .second, .val (.int p1), .val (.long (p0 &&& (9007199254740991 : Int64))), .second, .val (.double (FP.ddiv (FP.l2d (p0 &&& (9007199254740991 : Int64))) (4845873199050653696 : UInt64))), .second] [(.int (1 : Int32)), (.int p1)]))
  refine gv (fun tQ kQ => XS.iand X0.here hx rfl (hb hby at_16) rfl kQ) ?_
  show G (s₁.setTop (mkF me_ 17 #[.val (.long p0), .second, .val (.int p1), .val (.long (p0 &&& (9007199254740991 : Int64))), .second, .val (.double (FP.ddiv (FP.l2d (p0 &&& (9007199254740991 : Int64))) (4845873199050653696 : UInt64))), .second] [(.int (p1 &&& (1 : Int32)))]))
  by_cases hc1 : (p1 &&& (1 : Int32)) = (0 : Int32)
  · refine gv (fun tQ kQ => XS.ifYes X0.here hx rfl (pc0 := 17) (pc' := 31) rfl (hb hby at_17) rfl ((if0 _ _).trans (teq hc1).1) (by decide) (by decide) kQ) ?_
    show G (s₁.setTop (mkF me_ 31 #[.val (.long p0), .second, .val (.int p1), .val (.long (p0 &&& (9007199254740991 : Int64))), .second, .val (.double (FP.ddiv (FP.l2d (p0 &&& (9007199254740991 : Int64))) (4845873199050653696 : UInt64))), .second] []))
    refine gv (fun tQ kQ => XS.dload X0.here hx rfl (hb hby at_31) rfl kQ) ?_
    show G (s₁.setTop (mkF me_ 33 #[.val (.long p0), .second, .val (.int p1), .val (.long (p0 &&& (9007199254740991 : Int64))), .second, .val (.double (FP.ddiv (FP.l2d (p0 &&& (9007199254740991 : Int64))) (4845873199050653696 : UInt64))), .second] [(.double (FP.ddiv (FP.l2d (p0 &&& (9007199254740991 : Int64))) (4845873199050653696 : UInt64)))]))
    obtain ⟨_, _, ⟨T2, L2, k2, n2⟩, -, X2, ⟨Lc2, hQ2, l2, y2, z2⟩, st2⟩ := Jvm.LawKit.callS X0 hx (y := (⟨"com/example/pufferfish/pufferfish/sizing/QueueingModel", "checkMargin", "(D)V"⟩ : MethodName)) hown (mvT hZ (hw _ (List.mem_of_getElem? (i := 2) rfl))) (mvT hZ (hw _ (List.mem_of_getElem? (i := 3) rfl))) (mvT hZ (hw _ (List.mem_of_getElem? (i := 4) rfl))) (mvT hZ (hw _ (List.mem_of_getElem? (i := 5) rfl))) (by decide) (backOf (W := 0) (rm_cm l Z a0 hw [] (FP.ddiv (FP.l2d (p0 &&& (9007199254740991 : Int64))) (4845873199050653696 : UInt64)) h0 n0 O0 (own_mg1 p0)) hZ (hw _ (List.mem_of_getElem? (i := 5) rfl)) (hw _ (List.mem_of_getElem? (i := 4) rfl)) (by decide) (by decide)) (g := (mkF me_ 33 #[.val (.long p0), .second, .val (.int p1), .val (.long (p0 &&& (9007199254740991 : Int64))), .second, .val (.double (FP.ddiv (FP.l2d (p0 &&& (9007199254740991 : Int64))) (4845873199050653696 : UInt64))), .second] [(.double (FP.ddiv (FP.l2d (p0 &&& (9007199254740991 : Int64))) (4845873199050653696 : UInt64)))])) rfl (by rw [hml]; rfl) (argsL := [(.double (FP.ddiv (FP.l2d (p0 &&& (9007199254740991 : Int64))) (4845873199050653696 : UInt64)))]) (rest := []) (lenOf pd_0 rfl) rfl (by show 2 * 0 + _ ≤ _; exact Nat.le_of_eq rfl) (hb hby at_33) (fun _ _ => ⟨rfl, e0, (by decide : 0 + 0 ≤ _), (by decide : 0 + 0 ≤ _)⟩)
    dsimp only [Pt.U, Pt.locs, Pt.cells, Pt.slots] at X2 l2 y2 z2 st2 hQ2
    subst l2 y2 z2
    obtain ⟨rfl, Nq2, eq2⟩ := hQ2
    have N3 := Fr.app N0 Nq2
    refine gv st2 ?_
    show G (T2.setTop (mkF me_ 36 #[.val (.long p0), .second, .val (.int p1), .val (.long (p0 &&& (9007199254740991 : Int64))), .second, .val (.double (FP.ddiv (FP.l2d (p0 &&& (9007199254740991 : Int64))) (4845873199050653696 : UInt64))), .second] []))
    refine gv (fun tQ kQ => XS.iconst X2.here hx rfl (hb hby at_36) kQ) ?_
    show G (T2.setTop (mkF me_ 37 #[.val (.long p0), .second, .val (.int p1), .val (.long (p0 &&& (9007199254740991 : Int64))), .second, .val (.double (FP.ddiv (FP.l2d (p0 &&& (9007199254740991 : Int64))) (4845873199050653696 : UInt64))), .second] [(.int (1 : Int32))]))
    refine gf _ (own_ret X2 Bd.notSynchronized (v := some (.int (1 : Int32))) (fun h => by rw [Bd.returns] at h; cases h) ?_ (by decide) (by decide) (fun fs hr => retN X2 hx (t := .boolean) Bd.returns (by simp) (hb hby at_37) hr))
    show Q0 Z p0 p1 h0 n0 _ T2.heap _
    rw [eq2]
    exact ⟨rfl, N3⟩
  · refine gv (fun tQ kQ => XS.ifNo X0.here hx rfl (hb hby at_17) rfl ((if0 _ _).trans (feq hc1).1) kQ) ?_
    show G (s₁.setTop (mkF me_ 20 #[.val (.long p0), .second, .val (.int p1), .val (.long (p0 &&& (9007199254740991 : Int64))), .second, .val (.double (FP.ddiv (FP.l2d (p0 &&& (9007199254740991 : Int64))) (4845873199050653696 : UInt64))), .second] []))
    refine gv (fun tQ kQ => XS.lloadN X0.here hx rfl (hb hby at_20) rfl kQ) ?_
    show G (s₁.setTop (mkF me_ 21 #[.val (.long p0), .second, .val (.int p1), .val (.long (p0 &&& (9007199254740991 : Int64))), .second, .val (.double (FP.ddiv (FP.l2d (p0 &&& (9007199254740991 : Int64))) (4845873199050653696 : UInt64))), .second] [(.long (p0 &&& (9007199254740991 : Int64)))]))
    refine gv (fun tQ kQ => XS.lconst X0.here hx rfl (hb hby at_21) kQ) ?_
    show G (s₁.setTop (mkF me_ 22 #[.val (.long p0), .second, .val (.int p1), .val (.long (p0 &&& (9007199254740991 : Int64))), .second, .val (.double (FP.ddiv (FP.l2d (p0 &&& (9007199254740991 : Int64))) (4845873199050653696 : UInt64))), .second] [(.long (0 : Int64)), (.long (p0 &&& (9007199254740991 : Int64)))]))
    refine gv (fun tQ kQ => XS.lcmp X0.here hx rfl (hb hby at_22) rfl kQ) ?_
    show G (s₁.setTop (mkF me_ 23 #[.val (.long p0), .second, .val (.int p1), .val (.long (p0 &&& (9007199254740991 : Int64))), .second, .val (.double (FP.ddiv (FP.l2d (p0 &&& (9007199254740991 : Int64))) (4845873199050653696 : UInt64))), .second] [(.int (lcmpW (p0 &&& (9007199254740991 : Int64)) (0 : Int64)))]))
    by_cases hc4 : (p0 &&& (9007199254740991 : Int64)) = (0 : Int64)
    · refine gv (fun tQ kQ => XS.ifNo X0.here hx rfl (hb hby at_23) rfl ((if0 _ _).trans (teq ((lw_eq _ _).mpr hc4)).2) kQ) ?_
      show G (s₁.setTop (mkF me_ 26 #[.val (.long p0), .second, .val (.int p1), .val (.long (p0 &&& (9007199254740991 : Int64))), .second, .val (.double (FP.ddiv (FP.l2d (p0 &&& (9007199254740991 : Int64))) (4845873199050653696 : UInt64))), .second] []))
      refine gv (fun tQ kQ => XS.dload X0.here hx rfl (hb hby at_26) rfl kQ) ?_
      show G (s₁.setTop (mkF me_ 28 #[.val (.long p0), .second, .val (.int p1), .val (.long (p0 &&& (9007199254740991 : Int64))), .second, .val (.double (FP.ddiv (FP.l2d (p0 &&& (9007199254740991 : Int64))) (4845873199050653696 : UInt64))), .second] [(.double (FP.ddiv (FP.l2d (p0 &&& (9007199254740991 : Int64))) (4845873199050653696 : UInt64)))]))
      refine gv (fun tQ kQ => XS.dnegS X0.here hx rfl (hb hby at_28) rfl rfl kQ) ?_
      show G (s₁.setTop (mkF me_ 29 #[.val (.long p0), .second, .val (.int p1), .val (.long (p0 &&& (9007199254740991 : Int64))), .second, .val (.double (FP.ddiv (FP.l2d (p0 &&& (9007199254740991 : Int64))) (4845873199050653696 : UInt64))), .second] [(.double (FP.dneg (FP.ddiv (FP.l2d (p0 &&& (9007199254740991 : Int64))) (4845873199050653696 : UInt64))))]))
      refine gv (fun tQ kQ => XS.dstore X0.here hx rfl (hb hby at_29) rfl (l' := #[.val (.long p0), .second, .val (.int p1), .val (.long (p0 &&& (9007199254740991 : Int64))), .second, .val (.double (FP.dneg (FP.ddiv (FP.l2d (p0 &&& (9007199254740991 : Int64))) (4845873199050653696 : UInt64)))), .second]) rfl kQ) ?_
      show G (s₁.setTop (mkF me_ 31 #[.val (.long p0), .second, .val (.int p1), .val (.long (p0 &&& (9007199254740991 : Int64))), .second, .val (.double (FP.dneg (FP.ddiv (FP.l2d (p0 &&& (9007199254740991 : Int64))) (4845873199050653696 : UInt64)))), .second] []))
      refine gv (fun tQ kQ => XS.dload X0.here hx rfl (hb hby at_31) rfl kQ) ?_
      show G (s₁.setTop (mkF me_ 33 #[.val (.long p0), .second, .val (.int p1), .val (.long (p0 &&& (9007199254740991 : Int64))), .second, .val (.double (FP.dneg (FP.ddiv (FP.l2d (p0 &&& (9007199254740991 : Int64))) (4845873199050653696 : UInt64)))), .second] [(.double (FP.dneg (FP.ddiv (FP.l2d (p0 &&& (9007199254740991 : Int64))) (4845873199050653696 : UInt64))))]))
      obtain ⟨_, _, ⟨T5, L5, k5, n5⟩, -, X5, ⟨Lc5, hQ5, l5, y5, z5⟩, st5⟩ := Jvm.LawKit.callS X0 hx (y := (⟨"com/example/pufferfish/pufferfish/sizing/QueueingModel", "checkMargin", "(D)V"⟩ : MethodName)) hown (mvT hZ (hw _ (List.mem_of_getElem? (i := 2) rfl))) (mvT hZ (hw _ (List.mem_of_getElem? (i := 3) rfl))) (mvT hZ (hw _ (List.mem_of_getElem? (i := 4) rfl))) (mvT hZ (hw _ (List.mem_of_getElem? (i := 5) rfl))) (by decide) (backOf (W := 0) (rm_cm l Z a0 hw [] (FP.dneg (FP.ddiv (FP.l2d (p0 &&& (9007199254740991 : Int64))) (4845873199050653696 : UInt64))) h0 n0 O0 (own_mg2 hc4)) hZ (hw _ (List.mem_of_getElem? (i := 5) rfl)) (hw _ (List.mem_of_getElem? (i := 4) rfl)) (by decide) (by decide)) (g := (mkF me_ 33 #[.val (.long p0), .second, .val (.int p1), .val (.long (p0 &&& (9007199254740991 : Int64))), .second, .val (.double (FP.dneg (FP.ddiv (FP.l2d (p0 &&& (9007199254740991 : Int64))) (4845873199050653696 : UInt64)))), .second] [(.double (FP.dneg (FP.ddiv (FP.l2d (p0 &&& (9007199254740991 : Int64))) (4845873199050653696 : UInt64))))])) rfl (by rw [hml]; rfl) (argsL := [(.double (FP.dneg (FP.ddiv (FP.l2d (p0 &&& (9007199254740991 : Int64))) (4845873199050653696 : UInt64))))]) (rest := []) (lenOf pd_0 rfl) rfl (by show 2 * 0 + _ ≤ _; exact Nat.le_of_eq rfl) (hb hby at_33) (fun _ _ => ⟨rfl, e0, (by decide : 0 + 0 ≤ _), (by decide : 0 + 0 ≤ _)⟩)
      dsimp only [Pt.U, Pt.locs, Pt.cells, Pt.slots] at X5 l5 y5 z5 st5 hQ5
      subst l5 y5 z5
      obtain ⟨rfl, Nq5, eq5⟩ := hQ5
      have N6 := Fr.app N0 Nq5
      refine gv st5 ?_
      show G (T5.setTop (mkF me_ 36 #[.val (.long p0), .second, .val (.int p1), .val (.long (p0 &&& (9007199254740991 : Int64))), .second, .val (.double (FP.dneg (FP.ddiv (FP.l2d (p0 &&& (9007199254740991 : Int64))) (4845873199050653696 : UInt64)))), .second] []))
      refine gv (fun tQ kQ => XS.iconst X5.here hx rfl (hb hby at_36) kQ) ?_
      show G (T5.setTop (mkF me_ 37 #[.val (.long p0), .second, .val (.int p1), .val (.long (p0 &&& (9007199254740991 : Int64))), .second, .val (.double (FP.dneg (FP.ddiv (FP.l2d (p0 &&& (9007199254740991 : Int64))) (4845873199050653696 : UInt64)))), .second] [(.int (1 : Int32))]))
      refine gf _ (own_ret X5 Bd.notSynchronized (v := some (.int (1 : Int32))) (fun h => by rw [Bd.returns] at h; cases h) ?_ (by decide) (by decide) (fun fs hr => retN X5 hx (t := .boolean) Bd.returns (by simp) (hb hby at_37) hr))
      show Q0 Z p0 p1 h0 n0 _ T5.heap _
      rw [eq5]
      exact ⟨rfl, N6⟩
    · refine gv (fun tQ kQ => XS.ifYes X0.here hx rfl (pc0 := 23) (pc' := 31) rfl (hb hby at_23) rfl ((if0 _ _).trans (feq (mt (lw_eq _ _).mp hc4)).2) (by decide) (by decide) kQ) ?_
      show G (s₁.setTop (mkF me_ 31 #[.val (.long p0), .second, .val (.int p1), .val (.long (p0 &&& (9007199254740991 : Int64))), .second, .val (.double (FP.ddiv (FP.l2d (p0 &&& (9007199254740991 : Int64))) (4845873199050653696 : UInt64))), .second] []))
      refine gv (fun tQ kQ => XS.dload X0.here hx rfl (hb hby at_31) rfl kQ) ?_
      show G (s₁.setTop (mkF me_ 33 #[.val (.long p0), .second, .val (.int p1), .val (.long (p0 &&& (9007199254740991 : Int64))), .second, .val (.double (FP.ddiv (FP.l2d (p0 &&& (9007199254740991 : Int64))) (4845873199050653696 : UInt64))), .second] [(.double (FP.ddiv (FP.l2d (p0 &&& (9007199254740991 : Int64))) (4845873199050653696 : UInt64)))]))
      obtain ⟨_, _, ⟨T7, L7, k7, n7⟩, -, X7, ⟨Lc7, hQ7, l7, y7, z7⟩, st7⟩ := Jvm.LawKit.callS X0 hx (y := (⟨"com/example/pufferfish/pufferfish/sizing/QueueingModel", "checkMargin", "(D)V"⟩ : MethodName)) hown (mvT hZ (hw _ (List.mem_of_getElem? (i := 2) rfl))) (mvT hZ (hw _ (List.mem_of_getElem? (i := 3) rfl))) (mvT hZ (hw _ (List.mem_of_getElem? (i := 4) rfl))) (mvT hZ (hw _ (List.mem_of_getElem? (i := 5) rfl))) (by decide) (backOf (W := 0) (rm_cm l Z a0 hw [] (FP.ddiv (FP.l2d (p0 &&& (9007199254740991 : Int64))) (4845873199050653696 : UInt64)) h0 n0 O0 (own_mg1 p0)) hZ (hw _ (List.mem_of_getElem? (i := 5) rfl)) (hw _ (List.mem_of_getElem? (i := 4) rfl)) (by decide) (by decide)) (g := (mkF me_ 33 #[.val (.long p0), .second, .val (.int p1), .val (.long (p0 &&& (9007199254740991 : Int64))), .second, .val (.double (FP.ddiv (FP.l2d (p0 &&& (9007199254740991 : Int64))) (4845873199050653696 : UInt64))), .second] [(.double (FP.ddiv (FP.l2d (p0 &&& (9007199254740991 : Int64))) (4845873199050653696 : UInt64)))])) rfl (by rw [hml]; rfl) (argsL := [(.double (FP.ddiv (FP.l2d (p0 &&& (9007199254740991 : Int64))) (4845873199050653696 : UInt64)))]) (rest := []) (lenOf pd_0 rfl) rfl (by show 2 * 0 + _ ≤ _; exact Nat.le_of_eq rfl) (hb hby at_33) (fun _ _ => ⟨rfl, e0, (by decide : 0 + 0 ≤ _), (by decide : 0 + 0 ≤ _)⟩)
      dsimp only [Pt.U, Pt.locs, Pt.cells, Pt.slots] at X7 l7 y7 z7 st7 hQ7
      subst l7 y7 z7
      obtain ⟨rfl, Nq7, eq7⟩ := hQ7
      have N8 := Fr.app N0 Nq7
      refine gv st7 ?_
      show G (T7.setTop (mkF me_ 36 #[.val (.long p0), .second, .val (.int p1), .val (.long (p0 &&& (9007199254740991 : Int64))), .second, .val (.double (FP.ddiv (FP.l2d (p0 &&& (9007199254740991 : Int64))) (4845873199050653696 : UInt64))), .second] []))
      refine gv (fun tQ kQ => XS.iconst X7.here hx rfl (hb hby at_36) kQ) ?_
      show G (T7.setTop (mkF me_ 37 #[.val (.long p0), .second, .val (.int p1), .val (.long (p0 &&& (9007199254740991 : Int64))), .second, .val (.double (FP.ddiv (FP.l2d (p0 &&& (9007199254740991 : Int64))) (4845873199050653696 : UInt64))), .second] [(.int (1 : Int32))]))
      refine gf _ (own_ret X7 Bd.notSynchronized (v := some (.int (1 : Int32))) (fun h => by rw [Bd.returns] at h; cases h) ?_ (by decide) (by decide) (fun fs hr => retN X7 hx (t := .boolean) Bd.returns (by simp) (hb hby at_37) hr))
      show Q0 Z p0 p1 h0 n0 _ T7.heap _
      rw [eq7]
      exact ⟨rfl, N8⟩
set_option maxRecDepth 65536 in
set_option maxHeartbeats 40000000 in
theorem comes_1 {Post : Tables → Env → Array Value → State → Outcome → State → Prop} (hpost : ∀ tb e args s v u, (limb_1_1.after args s (.returned v) u = true ∧ limb_1_2.after args s (.returned v) u = true ∧ True) → FrameEnd s (.returned v) u (Jvm.fieldLocs frame_1_writes args s ++ Jvm.arrayLocs frame_1_arrays args s ++ Jvm.staticLocs frame_1_statics s) 0 0 → Post tb e args s (.returned v) u) :
    ArmFor flags0 classFile x code maxLocals ret World_1 tables_1 room_1 Calls_1 rest_1 Pre_1 Post := by
  intro l hfl _ _ p e ha hc hk s m args below hf hA hF happ hP
  obtain ⟨hcalls, hrest, hpre⟩ := hP
  obtain ⟨-, -, -, hnamed, -, -, -, hat⟩ := (Spec.applies_iff hf).mp happ
  obtain ⟨hg, hn⟩ := and_e (Cond.before_iff.mp (show (Jvm.Cond.and given_1 narrow_1).before args s = true from hpre))
  obtain ⟨g1, g2⟩ := and_e hg
  obtain ⟨g3, g4⟩ := and_e g2
  obtain ⟨w0, w1, rfl⟩ : ∃ w0 w1 : Value, args = #[w0, w1] := by
    have hs : args.size = 2 := by simpa [Cond.value, given_1] using g1
    obtain ⟨L⟩ := args
    match L, hs with
    | [w0, w1], _ => exact ⟨w0, w1, rfl⟩
  have hw := fun d (hd : d ∈ tables_1) => atoms_spec (ws := Jvm.Cond.code x code maxLocals ret :: tables_1) hat d (List.mem_cons_of_mem _ hd)
  have hfit : Fit s := fun {y c} hc i hi => by
    obtain ⟨ha, rfl⟩ := Array.getElem?_eq_some_iff.mp hc
    have q := List.all_eq_true.mp ((Array.all_eq_true_iff_forall_mem.mp hF) _ (Array.getElem_mem ha)) i (List.mem_range.mpr hi)
    simpa [Array.getElem?_eq_getElem hi] using q
  obtain ⟨i0, ei0⟩ := isL_v g3
  obtain rfl : w0 = (.long i0) := Option.some.inj ei0
  obtain ⟨i1, ei1⟩ := is_v g4
  obtain rfl : w1 = (.int i1) := Option.some.inj ei1
  obtain ⟨n, o, h1, h2, h3, _, L, rfl, ⟨rfl, N⟩, hq⟩ := rm0 l s _ hw tables_1 i0 i1 s.heap s.heap.size (Old.start s)  p e ha hc hk s m _ below hf ((Spec.applies_iff_loose hf).mp happ).1 ⟨rfl, State.Warmed39.refl s, rfl⟩ trivial
  refine ⟨n, _, h1, h2, h3, hpost _ _ _ _ _ _ ⟨Cond.after_iff.mpr rfl, Cond.after_iff.mpr (eq_i res_at (Term.int_eval (1)) rfl), trivial⟩ ⟨hq.1, hq.2.1, (hq.2.2.sift fun y hy => Or.inr (N y hy)).mono (by decide) (by decide)⟩⟩
theorem main_1_1 : Claimed_1_1 := comes_1 fun _ _ _ _ _ _ h hF => ⟨h.1, hF⟩
theorem main_1_2 : Claimed_1_2 := comes_1 fun _ _ _ _ _ _ h hF => ⟨h.2.1, hF⟩
end Jvm.Pilot.@@N@@
namespace Jvm.Pilot.@@N@@
open Jvm Jvm.ClassFile Sem Op Lib Jvm.Free Jvm.Stand Jvm.Pilot.@@N@@.Jvm.D
/-! MADE BY PROGRAM (witnessworld.py) out of the Statement's table words and the real class files: 9 classes; the members and pool entries that the words name. The judged class is class 1, her method 1. -/
namespace start1
open Jvm.ClassFile
def u (s : String) : CpInfo := .utf8 (stringToUtf16 s)
/-- a pool by its gaps: so many unusable entries, then the entry; so many at the end -/
def gap : Nat → List CpInfo → List CpInfo
  | 0, r => r
  | n + 1, r => .unusable :: gap n r
def poolList (es : List (Nat × CpInfo)) (last : Nat) : List CpInfo := es.foldr (fun e r => gap e.1 (e.2 :: r)) (gap last [])
def pool (es : List (Nat × CpInfo)) (last : Nat) : Array CpInfo := ⟨poolList es last⟩
def fileOf (pool : Array CpInfo) (this : Nat) (attrs : Array Attribute := #[]) (ms : Array MethodInfo := #[]) (fl : Nat := 33) (sup : Nat := 0) (ifs : Array Nat := #[]) (fds : Array FieldInfo := #[]) : ClassFile where
  minorVersion := 0
  majorVersion := 65
  constantPool := pool
  accessFlags := fl
  thisClass := this
  superClass := sup
  interfaces := ifs
  fields := fds
  methods := ms
  attributes := attrs
def plain (name : String) (sup : Option ClassId) : Class where
  name := name
  kind := .ordinary
  loader := none
  accessFlags := 33
  super := sup
  interfaces := #[]
  cf := none
  fields := #[]
  methods := #[]
  instanceTypes := #[]
  staticTypes := #[]
  resolved := #[]
  callSites := []
  init := .initialized
  statics := none
  mirror := none

def pool0 : Array CpInfo := pool [(5, u "<init>"), (0, u "()V"), (1, .class_ 10), (1, u "java/lang/Object")] 113

def k0m0 : Method := { name := "<init>", desc := "()V", sig := { parameters := [], returnType := none }, accessFlags := 1, code := none }
/-- java/lang/Object -/
def k0 : Class := { plain "java/lang/Object" none with
  accessFlags := 33
  interfaces := #[]
  cf := some (fileOf pool0 8 #[] #[{ accessFlags := 1, nameIndex := 5, descriptorIndex := 6, attributes := #[] }] 33 0 #[] #[])
  fields := #[]
  methods := #[k0m0]
  instanceTypes := #[]
  staticTypes := #[]
  resolved := Array.replicate 124 none
  statics := none }

def pool1 : Array CpInfo := pool [(2, .class_ 4), (1, u "java/lang/Object"), (0, u "<init>"), (0, u "()V"), (0, .long 9007199254740991), (1, .double 4845873199050653696), (1, .methodref 12 13), (0, .class_ 14), (0, .nameAndType 15 16), (0, u "com/example/pufferfish/pufferfish/sizing/QueueingModel"), (0, u "checkMargin"), (0, u "(D)V"), (0, .class_ 18), (0, u "com/example/pufferfish/pufferfish/sizing/QueueingModelCheckMarginPinLaw"), (2, u "law"), (0, u "(JI)Z")] 3

def k1m0 : Method := { name := "<init>", desc := "()V", sig := { parameters := [], returnType := none }, accessFlags := 1, code := none }
def k1c1 : Code := { maxStack := 4, maxLocals := 7, code := code, exceptionTable := #[], attributes := #[] }
def k1m1 : Method := { name := "law", desc := "(JI)Z", sig := { parameters := [.long, .int], returnType := some .boolean }, accessFlags := 9, code := some k1c1 }
/-- com/example/pufferfish/pufferfish/sizing/QueueingModelCheckMarginPinLaw -/
def k1 : Class := { plain "com/example/pufferfish/pufferfish/sizing/QueueingModelCheckMarginPinLaw" (some 0) with
  accessFlags := 49
  interfaces := #[]
  cf := some (fileOf pool1 17 #[] #[{ accessFlags := 1, nameIndex := 5, descriptorIndex := 6, attributes := #[] }, { accessFlags := 9, nameIndex := 21, descriptorIndex := 22, attributes := #[] }] 49 2 #[] #[])
  fields := #[]
  methods := #[k1m0, k1m1]
  instanceTypes := #[]
  staticTypes := #[]
  resolved := Array.replicate 26 none
  statics := none }

def pool2 : Array CpInfo := pool [(2, .class_ 4), (1, u "java/lang/Object"), (26, .class_ 33), (1, u "com/example/pufferfish/pufferfish/sizing/QueueingModel"), (0, u "checkMargin"), (0, u "(D)V"), (2, u "sourceRate"), (0, u "D"), (6, u "operators"), (0, u "Ljava/util/List;"), (2, u "margin"), (15, .class_ 67), (0, u "com/example/pufferfish/pufferfish/sizing/QueueingModel$Station"), (105, u "I"), (38, u "MAX_TASKS")] 57

def k2c0 : Code := { maxStack := 4, maxLocals := 2, code := prog_81_method_4_code, exceptionTable := #[], attributes := #[] }
def k2m0 : Method := { name := "checkMargin", desc := "(D)V", sig := { parameters := [.double], returnType := none }, accessFlags := 9, code := some k2c0 }
/-- com/example/pufferfish/pufferfish/sizing/QueueingModel -/
def k2 : Class := { plain "com/example/pufferfish/pufferfish/sizing/QueueingModel" (some 0) with
  accessFlags := 33
  interfaces := #[]
  cf := some (fileOf pool2 31 #[.nestMembers #[66]] #[{ accessFlags := 9, nameIndex := 34, descriptorIndex := 35, attributes := #[] }] 33 2 #[] #[{ accessFlags := 25, nameIndex := 212, descriptorIndex := 173, attributes := #[] }, { accessFlags := 18, nameIndex := 38, descriptorIndex := 39, attributes := #[] }, { accessFlags := 18, nameIndex := 46, descriptorIndex := 47, attributes := #[] }, { accessFlags := 18, nameIndex := 50, descriptorIndex := 39, attributes := #[] }])
  fields := #[{ name := "MAX_TASKS", type := .int, accessFlags := 25, slot := 0, constantValue := 0 }, { name := "sourceRate", type := .double, accessFlags := 18, slot := 0, constantValue := 0 }, { name := "operators", type := (.object "java/util/List"), accessFlags := 18, slot := 1, constantValue := 0 }, { name := "margin", type := .double, accessFlags := 18, slot := 2, constantValue := 0 }]
  methods := #[k2m0]
  instanceTypes := #[.double, (.object "java/util/List"), .double]
  staticTypes := #[.int]
  resolved := Array.replicate 270 none
  statics := none }

def pool3 : Array CpInfo := pool [(1, u "java/lang/Cloneable"), (0, .class_ 1), (0, u "java/lang/Object"), (0, .class_ 3)] 3

/-- java/lang/Cloneable -/
def k3 : Class := { plain "java/lang/Cloneable" (some 0) with
  accessFlags := 1537
  interfaces := #[]
  cf := some (fileOf pool3 2 #[] #[] 1537 4 #[] #[])
  fields := #[]
  methods := #[]
  instanceTypes := #[]
  staticTypes := #[]
  resolved := Array.replicate 8 none
  statics := none }

def pool4 : Array CpInfo := pool [(1, u "java/io/Serializable"), (0, .class_ 1), (0, u "java/lang/Object"), (0, .class_ 3)] 3

/-- java/io/Serializable -/
def k4 : Class := { plain "java/io/Serializable" (some 0) with
  accessFlags := 1537
  interfaces := #[]
  cf := some (fileOf pool4 2 #[] #[] 1537 4 #[] #[])
  fields := #[]
  methods := #[]
  instanceTypes := #[]
  staticTypes := #[]
  resolved := Array.replicate 8 none
  statics := none }

/-- the primitive byte -/
def k5 : Class := { plain "byte" none with kind := .primitive 'B', accessFlags := 0x411 }
/-- [B -/
def k6 : Class := { plain "[B" (some 0) with kind := .array 5 .byte, interfaces := #[3, 4], accessFlags := 1041 }

/-- the primitive int -/
def k7 : Class := { plain "int" none with kind := .primitive 'I', accessFlags := 0x411 }
/-- [I -/
def k8 : Class := { plain "[I" (some 0) with kind := .array 7 .int, interfaces := #[3, 4], accessFlags := 1041 }

def heap : Heap := #[]
def classes : Array Class := #[k0, k1, k2, k3, k4, k5, k6, k7, k8]
def interned : List (Array UInt16 × Addr) := []
def slotsUsed : Nat := 0
def theMethod : MethodId := ⟨1, 1⟩
def args0 : Array Value := #[.long 5, .int 66]
def aboutOver (below : List Frame) : State where
  vm := { classes := classes, interned := interned.toArray }
  heap := heap
  slotsUsed := slotsUsed
  threads := #[{ frames := .invoking theMethod args0 :: below }]
def below0 : List Frame := [.native { method := ⟨0, 0⟩, args := #[] }]
def about1 : State := aboutOver below0
def p0 : Program := .bare "" "" ""
def e0 : Env := launch0.env 0 0 0
theorem w_frames : about1.frames = Frame.invoking theMethod args0 :: below0 := rfl
set_option maxRecDepth 65536 in
theorem w_args : argsFit about1.vm theMethod args0 = true := by decide +kernel
set_option maxRecDepth 65536 in
theorem w_heap : heapFits about1 = true := by decide +kernel
set_option maxRecDepth 65536 in
theorem w_runnable : about1.curStatus? = some .runnable := by decide +kernel
set_option maxRecDepth 65536 in
theorem w_alone : about1.alone = true := by decide +kernel
set_option maxRecDepth 65536 in
theorem w_named : about1.methodNamed? x = some theMethod := by decide +kernel
set_option maxRecDepth 65536 in
theorem w_hears : about1.hears theMethod below0 = true := by decide +kernel
set_option maxRecDepth 65536 in
theorem w_ripe : about1.ripe theMethod args0 below0 = true := by decide +kernel
theorem w_running : about1.status = .running := rfl
set_option maxRecDepth 65536 in
theorem w_room : about1.hasRoom e0.platform room_1 = true :=
  launch0.hasRoom_least _ room_1 (by decide +kernel) (by decide +kernel) (by decide +kernel) (by decide +kernel) (by decide +kernel) (by decide +kernel)
theorem allAtoms_all (ts : List Jvm.Cond) (a : Array Jvm.Value) (st : Jvm.State) : (allAtoms ts).before a st = ts.all (fun c => c.before a st) := by
  induction ts with
  | nil => rfl
  | cons c t ih =>
    show (Jvm.Cond.and c (allAtoms t)).before a st = _
    rw [Jvm.Cond.before_and, ih, List.all_cons]
def words1 : List Jvm.Cond := Jvm.Cond.code x code maxLocals ret :: tables_1
/-- a 'code' word, met by the world's own term for the bytes: nothing is compared byte by byte -/
theorem code_word {y : MethodName} {bytes : ByteArray} {mx : Nat} {rt : Option FieldType} {a : Array Value} {s : State} {m : MethodId} {meth : Method} {c : Code} (h1 : s.methodNamed? y = some m) (h2 : s.vm.method? m = some meth) (h3 : meth.code = some c) (h4 : c.code = bytes)
    (h5 : (c.maxLocals == mx && c.exceptionTable.isEmpty && decide (c.maxStack ≤ mostOperands) && decide (meth.sig.returnType = rt) && !meth.locks && decide (parseMethodDescriptor y.desc = some meth.sig)) = true) : (Jvm.Cond.code y bytes mx rt).before a s = true := by
  simp only [Bool.and_eq_true, beq_iff_eq, Bool.not_eq_true', decide_eq_true_eq] at h5
  obtain ⟨⟨⟨⟨⟨g1, g2⟩, g3⟩, g4⟩, g5⟩, g6⟩ := h5
  simp [Cond.before, Cond.holds, Cond.value, h1, h2, h3, h4, g1, g2, g3, g4, g5, g6]
def isCode : Jvm.Cond → Bool
  | .code _ _ _ _ => true
  | _ => false
theorem all_split {L : List Jvm.Cond} {P : Jvm.Cond → Bool} (h1 : L.all (fun c => isCode c || P c) = true) (h2 : ∀ c ∈ L.filter isCode, P c = true) : L.all P = true := by
  refine List.all_eq_true.mpr fun c hc => ?_
  have h := List.all_eq_true.mp h1 c hc
  rcases Bool.eq_false_or_eq_true (isCode c) with hi | hi
  · exact h2 c (List.mem_filter.mpr ⟨hc, hi⟩)
  · simpa [hi] using h
set_option maxRecDepth 65536 in
theorem w_c0 : (Jvm.Cond.code x code maxLocals ret).before args0 about1 = true := code_word (m := ⟨1, 1⟩) (meth := k1m1) (c := k1c1) (by decide +kernel) rfl rfl rfl (by decide +kernel)
set_option maxRecDepth 65536 in
theorem w_c1 : (Jvm.Cond.code ({ cls := "com/example/pufferfish/pufferfish/sizing/QueueingModel", name := "checkMargin", desc := "(D)V" } : Jvm.MethodName) prog_81_method_4_code (2 : Nat) (Option.none : Option Jvm.ClassFile.FieldType)).before args0 about1 = true := code_word (m := ⟨2, 0⟩) (meth := k2m0) (c := k2c0) (by decide +kernel) rfl rfl rfl (by decide +kernel)
def codes1 : List Jvm.Cond := [Jvm.Cond.code x code maxLocals ret, Jvm.Cond.code ({ cls := "com/example/pufferfish/pufferfish/sizing/QueueingModel", name := "checkMargin", desc := "(D)V" } : Jvm.MethodName) prog_81_method_4_code (2 : Nat) (Option.none : Option Jvm.ClassFile.FieldType)]
set_option maxRecDepth 65536 in
theorem codes_eq : words1.filter isCode = codes1 := rfl
theorem w_codes : ∀ c ∈ words1.filter isCode, c.before args0 about1 = true := by
  rw [codes_eq]
  intro c hc
  simp only [codes1, List.mem_cons, List.not_mem_nil, or_false] at hc
  rcases hc with rfl | rfl
  · exact w_c0
  · exact w_c1
set_option maxRecDepth 65536 in
theorem w_t1 : words1.all (fun c => isCode c || c.before args0 about1) = true := by decide +kernel
theorem w_tables : (allAtoms (Jvm.Cond.code x code maxLocals ret :: tables_1)).before args0 about1 = true := by
  rw [allAtoms_all]
  show words1.all (fun c => c.before args0 about1) = true
  refine all_split ?_ w_codes
  rw [w_t1]
set_option maxRecDepth 65536 in
theorem w_case : (Jvm.Cond.and given_1 narrow_1).before args0 about1 = true := by decide +kernel
theorem w_applies : (headSpec (Jvm.Cond.code x code maxLocals ret :: tables_1) room_1).applies x e0.platform about1 = true :=
  (Spec.applies_iff w_frames).mpr ⟨w_running, w_runnable, w_alone, w_named, w_hears, w_ripe, w_room, w_tables⟩
theorem atStart : AtStart classFile x code maxLocals ret World_1 tables_1 room_1 Calls_1 rest_1 Pre_1 launch0 p0 e0 about1 theMethod args0 below0 :=
  ⟨lists_1, trivial, launch0.admits_env _ _ _, launch0.least_env, fairChoices_fair.cas, fairChoices_fair.clock, w_frames, w_args, w_heap, w_applies, trivial, trivial, w_case⟩
end start1
theorem witness_1 : WitnessClaimed_1 := ⟨start1.p0, start1.e0, start1.about1, start1.theMethod, start1.args0, start1.below0, start1.atStart⟩
end Jvm.Pilot.@@N@@
