import JvmDerived
import JvmDerived.Pilot.@@N@@Statement
import JvmDerived.Pilot.@@N@@Code
set_option linter.unusedVariables false
set_option linter.unusedSimpArgs false
namespace Jvm.Pilot.@@N@@
open Jvm Jvm.ClassFile Sem Op Lib Jvm.Free Jvm.Stand Jvm.LawKit Jvm.RoadKit Bundle Jvm.Pilot.@@N@@.Jvm.D
/-- from the state A the body comes to its end as Q says -/
def own_Fin (tb : Tables) (e : Env) (below : List Frame) (s : State) (Q : Option Value → Heap → List Loc → Prop) (kc ks : Nat) (A : State) : Prop :=
  ∃ s₂ o, Steps tb e below A s₂ ∧ s₂.status = .running ∧ Ended s₂ below o ∧ ∃ v L, o = .returned v ∧ Q v s₂.heap L ∧ FrameEnd s o s₂ L kc ks
theorem own_G (tb : Tables) (e : Env) (below : List Frame) (s : State) (Q : Option Value → Heap → List Loc → Prop) (kc ks : Nat) :
    ∃ G : State → Prop, (∀ {A B : State}, (∀ t, Steps tb e below B t → Steps tb e below A t) → G B → G A) ∧ (∀ A, own_Fin tb e below s Q kc ks A → G A) ∧ (∀ A, G A → own_Fin tb e below s Q kc ks A) :=
  ⟨own_Fin tb e below s Q kc ks, fun h k => by obtain ⟨s₂, o, h1, r⟩ := k; exact ⟨s₂, o, h _ h1, r⟩, fun _ h => h, fun _ h => h⟩
theorem own_ret {p : Program} {l : Launch} {e : Env} {R : Room} {s : State} {m : MethodId} {args : Array Value} {below : List Frame} {meth : Method} {c : Code} {T : State} {locs : List Loc} {cells slots : Nat} {Q : Option Value → Heap → List Loc → Prop} {kc ks : Nat} {A : State} {v : Option Value}
    (X : Stand p l e R s m args below meth c T locs cells slots) (hlk : meth.locks = false) (hv : meth.sig.returnType = none → v = none) (hQ : Q v T.heap locs) (hc : cells ≤ kc) (hs : slots ≤ ks)
    (st : ∀ fs, (∀ (f : JFrame) (acts : List Action), f.method = m → f.locked = none → f.entered = [] → (doReturn e (T.setTop f) acts v).1 = T.setFrames fs) → Steps p.tables e below A (T.setFrames fs)) : own_Fin p.tables e below s Q kc ks A := by
  obtain ⟨fs, hr, hrun, hended, hW, hsame⟩ := X.leave hv hlk
  exact ⟨_, _, st fs hr, hrun, hended, _, _, rfl, hQ, ⟨_, rfl⟩, hW, hsame.mono hc hs⟩
theorem own_old {Z : State} {n0 : Nat} {h : Heap} (O : Old Z n0 h) : n0 ≤ h.size := O.1 ▸ O.2.1
theorem own_cat {v : Value} (h : v.isRef = true) : v.category = 1 := by rcases ref_cases h with rfl | ⟨a, rfl⟩ <;> rfl
theorem own_mvM {Z s : State} {a0 args : Array Value} {own host : String} {index : Nat} {y : MethodName} (hZ : Z.Warmed39 s.vm) (w : (Jvm.Cond.methodLinkNest own index y host).before a0 Z = true) : (Jvm.Cond.methodLinkNest own index y host).before args s = true := (Cond.methodLinkNest_wide hZ w :)
theorem own_ne_arv {Z : State} {h : Heap} {a b : Addr} {C : String} {a0 : Array Value} {n : Nat} {k : ClassId} {ty : FieldType} {z : Int32} {vs : List Value} {d : Value} (E : Exa Z h a C) (wi : (Jvm.Cond.instantiable C n).before a0 Z = true) (A : Arv Z h b k ty z vs d) : a ≠ b := by
  obtain ⟨c, A, -⟩ := A
  exact ne_arr E wi A
theorem own_narB (x : Int32) : nar .byte x.toInt8.toInt32 = x.toInt8.toInt32 := by
  refine Int32.toInt_inj.mp ?_
  have h1 := c_i2b x
  have h2 := c_i2b x.toInt8.toInt32
  show (x.toInt8.toInt32.toInt8.toInt32).toInt = _
  omega
theorem own_narC (x : Int32) : nar .char x.toUInt32.toUInt16.toUInt32.toInt32 = x.toUInt32.toUInt16.toUInt32.toInt32 := by
  refine Int32.toInt_inj.mp ?_
  have h1 := c_i2c x
  have h2 := c_i2c x.toUInt32.toUInt16.toUInt32.toInt32
  show (x.toUInt32.toUInt16.toUInt32.toInt32.toUInt32.toUInt16.toUInt32.toInt32).toInt = _
  omega
theorem own_exa {s : State} {args : Array Value} {t : Term} {K : String} (h : (Jvm.Cond.exactly t K).value args s none s [] = some true) : ∃ a, t.eval args s none [] s = some (.ref a) ∧ Exa s s.heap a K := by
  obtain ⟨a, c', cell, k, e1, e2, e3, e4, e5, e6, e7⟩ := Cond.exactly_spec (Cond.before_iff.mpr h)
  exact ⟨a, e1, Exa.start e1 h⟩
theorem own_fint {s : State} {args : Array Value} {t : Term} {C n d : String} {a : Addr} {k : Int32} (ht : t.eval args s none [] s = some (.ref a)) (h : (Jvm.Cond.eq (.field t C n d) (.int k)).value args s none s [] = some true) : Fld s s.heap a C n d (.int k) := by
  refine Fld.start ?_
  rw [← fld_at ht]
  have hk : (Term.int k).eval args s none [] s = some (.int k) := rfl
  cases q : (Term.field t C n d).eval args s none [] s with
  | none => simp [Cond.value, q] at h
  | some v => cases v <;> simp [Cond.value, q, hk] at h; rw [h]
theorem own_flong {s : State} {args : Array Value} {t : Term} {C n d : String} {a : Addr} {k : Int64} (ht : t.eval args s none [] s = some (.ref a)) (h : (Jvm.Cond.eq (.field t C n d) (.long k)).value args s none s [] = some true) : Fld s s.heap a C n d (.long k) := by
  refine Fld.start ?_
  rw [← fld_at ht]
  have hk : (Term.long k).eval args s none [] s = some (.long k) := rfl
  cases q : (Term.field t C n d).eval args s none [] s with
  | none => simp [Cond.value, q] at h
  | some v => cases v <;> simp [Cond.value, q, hk] at h; rw [h]
abbrev own_HW (Z : State) (a0 : Array Value) : Prop := ∀ d ∈ tables_1, d.before a0 Z = true
section
variable {Z : State} {a0 : Array Value} (hw : own_HW Z a0)
def t_0 := hw _ (List.mem_of_getElem? (i := 0) rfl)
def t_1 := hw _ (List.mem_of_getElem? (i := 1) rfl)
def t_2 := hw _ (List.mem_of_getElem? (i := 2) rfl)
def t_3 := hw _ (List.mem_of_getElem? (i := 3) rfl)
def t_4 := hw _ (List.mem_of_getElem? (i := 4) rfl)
def t_5 := hw _ (List.mem_of_getElem? (i := 5) rfl)
def t_6 := hw _ (List.mem_of_getElem? (i := 6) rfl)
def t_7 := hw _ (List.mem_of_getElem? (i := 7) rfl)
def t_8 := hw _ (List.mem_of_getElem? (i := 8) rfl)
def t_9 := hw _ (List.mem_of_getElem? (i := 9) rfl)
def t_10 := hw _ (List.mem_of_getElem? (i := 10) rfl)
def t_11 := hw _ (List.mem_of_getElem? (i := 11) rfl)
def t_12 := hw _ (List.mem_of_getElem? (i := 12) rfl)
def t_13 := hw _ (List.mem_of_getElem? (i := 13) rfl)
def t_14 := hw _ (List.mem_of_getElem? (i := 14) rfl)
def t_15 := hw _ (List.mem_of_getElem? (i := 15) rfl)
def t_16 := hw _ (List.mem_of_getElem? (i := 16) rfl)
def t_17 := hw _ (List.mem_of_getElem? (i := 17) rfl)
def t_18 := hw _ (List.mem_of_getElem? (i := 18) rfl)
def t_19 := hw _ (List.mem_of_getElem? (i := 19) rfl)
def t_21 := hw _ (List.mem_of_getElem? (i := 21) rfl)
def t_22 := hw _ (List.mem_of_getElem? (i := 22) rfl)
def t_23 := hw _ (List.mem_of_getElem? (i := 23) rfl)
def t_24 := hw _ (List.mem_of_getElem? (i := 24) rfl)
def t_25 := hw _ (List.mem_of_getElem? (i := 25) rfl)
def t_26 := hw _ (List.mem_of_getElem? (i := 26) rfl)
def t_27 := hw _ (List.mem_of_getElem? (i := 27) rfl)
def t_28 := hw _ (List.mem_of_getElem? (i := 28) rfl)
def t_29 := hw _ (List.mem_of_getElem? (i := 29) rfl)
def t_30 := hw _ (List.mem_of_getElem? (i := 30) rfl)
def t_31 := hw _ (List.mem_of_getElem? (i := 31) rfl)
def t_32 := hw _ (List.mem_of_getElem? (i := 32) rfl)
def t_33 := hw _ (List.mem_of_getElem? (i := 33) rfl)
def t_34 := hw _ (List.mem_of_getElem? (i := 34) rfl)
def t_35 := hw _ (List.mem_of_getElem? (i := 35) rfl)
def t_36 := hw _ (List.mem_of_getElem? (i := 36) rfl)
def t_37 := hw _ (List.mem_of_getElem? (i := 37) rfl)
def t_38 := hw _ (List.mem_of_getElem? (i := 38) rfl)
def t_39 := hw _ (List.mem_of_getElem? (i := 39) rfl)
def t_40 := hw _ (List.mem_of_getElem? (i := 40) rfl)
def t_41 := hw _ (List.mem_of_getElem? (i := 41) rfl)
def t_42 := hw _ (List.mem_of_getElem? (i := 42) rfl)
def t_43 := hw _ (List.mem_of_getElem? (i := 43) rfl)
def t_44 := hw _ (List.mem_of_getElem? (i := 44) rfl)
def t_45 := hw _ (List.mem_of_getElem? (i := 45) rfl)
def t_46 := hw _ (List.mem_of_getElem? (i := 46) rfl)
def t_47 := hw _ (List.mem_of_getElem? (i := 47) rfl)
def t_48 := hw _ (List.mem_of_getElem? (i := 48) rfl)
def t_49 := hw _ (List.mem_of_getElem? (i := 49) rfl)
def t_50 := hw _ (List.mem_of_getElem? (i := 50) rfl)
def t_51 := hw _ (List.mem_of_getElem? (i := 51) rfl)
def t_52 := hw _ (List.mem_of_getElem? (i := 52) rfl)
def t_53 := hw _ (List.mem_of_getElem? (i := 53) rfl)
def t_54 := hw _ (List.mem_of_getElem? (i := 54) rfl)
def t_55 := hw _ (List.mem_of_getElem? (i := 55) rfl)
def t_56 := hw _ (List.mem_of_getElem? (i := 56) rfl)
def t_57 := hw _ (List.mem_of_getElem? (i := 57) rfl)
def t_58 := hw _ (List.mem_of_getElem? (i := 58) rfl)
def t_59 := hw _ (List.mem_of_getElem? (i := 59) rfl)
def t_60 := hw _ (List.mem_of_getElem? (i := 60) rfl)
def t_61 := hw _ (List.mem_of_getElem? (i := 61) rfl)
def t_62 := hw _ (List.mem_of_getElem? (i := 62) rfl)
def t_63 := hw _ (List.mem_of_getElem? (i := 63) rfl)
def t_64 := hw _ (List.mem_of_getElem? (i := 64) rfl)
def t_65 := hw _ (List.mem_of_getElem? (i := 65) rfl)
def t_66 := hw _ (List.mem_of_getElem? (i := 66) rfl)
def t_67 := hw _ (List.mem_of_getElem? (i := 67) rfl)
def t_68 := hw _ (List.mem_of_getElem? (i := 68) rfl)
def t_69 := hw _ (List.mem_of_getElem? (i := 69) rfl)
def t_70 := hw _ (List.mem_of_getElem? (i := 70) rfl)
def t_71 := hw _ (List.mem_of_getElem? (i := 71) rfl)
def t_72 := hw _ (List.mem_of_getElem? (i := 72) rfl)
def t_73 := hw _ (List.mem_of_getElem? (i := 73) rfl)
def t_74 := hw _ (List.mem_of_getElem? (i := 74) rfl)
def t_75 := hw _ (List.mem_of_getElem? (i := 75) rfl)
def t_76 := hw _ (List.mem_of_getElem? (i := 76) rfl)
def t_77 := hw _ (List.mem_of_getElem? (i := 77) rfl)
def t_78 := hw _ (List.mem_of_getElem? (i := 78) rfl)
def t_79 := hw _ (List.mem_of_getElem? (i := 79) rfl)
def t_80 := hw _ (List.mem_of_getElem? (i := 80) rfl)
def t_81 := hw _ (List.mem_of_getElem? (i := 81) rfl)
def t_82 := hw _ (List.mem_of_getElem? (i := 82) rfl)
def t_83 := hw _ (List.mem_of_getElem? (i := 83) rfl)
def t_84 := hw _ (List.mem_of_getElem? (i := 84) rfl)
def t_85 := hw _ (List.mem_of_getElem? (i := 85) rfl)
def t_86 := hw _ (List.mem_of_getElem? (i := 86) rfl)
def t_87 := hw _ (List.mem_of_getElem? (i := 87) rfl)
def t_88 := hw _ (List.mem_of_getElem? (i := 88) rfl)
def t_89 := hw _ (List.mem_of_getElem? (i := 89) rfl)
def t_90 := hw _ (List.mem_of_getElem? (i := 90) rfl)
def t_91 := hw _ (List.mem_of_getElem? (i := 91) rfl)
def t_92 := hw _ (List.mem_of_getElem? (i := 92) rfl)
def t_93 := hw _ (List.mem_of_getElem? (i := 93) rfl)
def t_94 := hw _ (List.mem_of_getElem? (i := 94) rfl)
def t_95 := hw _ (List.mem_of_getElem? (i := 95) rfl)
def t_96 := hw _ (List.mem_of_getElem? (i := 96) rfl)
def t_97 := hw _ (List.mem_of_getElem? (i := 97) rfl)
def t_98 := hw _ (List.mem_of_getElem? (i := 98) rfl)
def t_99 := hw _ (List.mem_of_getElem? (i := 99) rfl)
def t_100 := hw _ (List.mem_of_getElem? (i := 100) rfl)
def t_101 := hw _ (List.mem_of_getElem? (i := 101) rfl)
def t_102 := hw _ (List.mem_of_getElem? (i := 102) rfl)
def t_103 := hw _ (List.mem_of_getElem? (i := 103) rfl)
def t_104 := hw _ (List.mem_of_getElem? (i := 104) rfl)
def t_105 := hw _ (List.mem_of_getElem? (i := 105) rfl)
def t_106 := hw _ (List.mem_of_getElem? (i := 106) rfl)
def t_107 := hw _ (List.mem_of_getElem? (i := 107) rfl)
def t_108 := hw _ (List.mem_of_getElem? (i := 108) rfl)
def t_109 := hw _ (List.mem_of_getElem? (i := 109) rfl)
def t_110 := hw _ (List.mem_of_getElem? (i := 110) rfl)
def t_111 := hw _ (List.mem_of_getElem? (i := 111) rfl)
def t_112 := hw _ (List.mem_of_getElem? (i := 112) rfl)
def t_113 := hw _ (List.mem_of_getElem? (i := 113) rfl)
def t_114 := hw _ (List.mem_of_getElem? (i := 114) rfl)
end
abbrev m_0 : MethodName := ⟨"com/example/closemark/closemark/csv/CsvReader", "hasShape", "(Ljava/lang/String;Ljava/lang/String;)Z"⟩
abbrev m_1 : MethodName := ⟨"com/example/closemark/closemark/csv/CsvReader", "isDigit", "(C)Z"⟩
abbrev m_2 : MethodName := ⟨"com/example/closemark/closemark/csv/CsvReaderHasShapePinLaw", "fits", "(CC)Z"⟩
abbrev m_3 : MethodName := ⟨"com/example/closemark/closemark/csv/CsvReaderHasShapePinLaw", "shapeChar", "(JIIC)C"⟩
abbrev m_4 : MethodName := ⟨"com/example/closemark/closemark/csv/CsvReaderHasShapePinLaw", "str", "(CCCCI)Ljava/lang/String;"⟩
abbrev m_5 : MethodName := ⟨"com/example/closemark/closemark/csv/CsvReaderHasShapePinLaw", "textChar", "(JII)C"⟩
abbrev m_6 : MethodName := ⟨"java/lang/String", "<init>", "([C)V"⟩
abbrev m_7 : MethodName := ⟨"java/lang/String", "<init>", "([CIILjava/lang/Void;)V"⟩
abbrev m_8 : MethodName := ⟨"java/lang/String", "charAt", "(I)C"⟩
abbrev m_9 : MethodName := ⟨"java/lang/String", "checkIndex", "(II)V"⟩
abbrev m_10 : MethodName := ⟨"java/lang/String", "coder", "()B"⟩
abbrev m_11 : MethodName := ⟨"java/lang/String", "isLatin1", "()Z"⟩
abbrev m_12 : MethodName := ⟨"java/lang/String", "length", "()I"⟩
abbrev m_13 : MethodName := ⟨"java/lang/StringLatin1", "charAt", "([BI)C"⟩
abbrev m_14 : MethodName := ⟨"java/lang/StringUTF16", "charAt", "([BI)C"⟩
abbrev m_15 : MethodName := ⟨"java/lang/StringUTF16", "checkIndex", "(I[B)V"⟩
abbrev m_16 : MethodName := ⟨"java/lang/StringUTF16", "coderFromArrayLen", "([BI)B"⟩
abbrev m_17 : MethodName := ⟨"java/lang/StringUTF16", "compress", "([CII)[B"⟩
abbrev m_18 : MethodName := ⟨"java/lang/StringUTF16", "compress", "([CI[BII)I"⟩
abbrev m_19 : MethodName := ⟨"java/lang/StringUTF16", "getChar", "([BI)C"⟩
abbrev m_20 : MethodName := ⟨"java/lang/StringUTF16", "length", "([B)I"⟩
abbrev m_21 : MethodName := ⟨"java/lang/StringUTF16", "newBytesFor", "(I)[B"⟩
abbrev m_22 : MethodName := ⟨"java/lang/StringUTF16", "newBytesLength", "(I)I"⟩
abbrev m_23 : MethodName := ⟨"java/lang/StringUTF16", "putChar", "([BII)V"⟩
abbrev m_24 : MethodName := ⟨"java/lang/StringUTF16", "toBytes", "([CII)[B"⟩
abbrev m_25 : MethodName := ⟨"jdk/internal/util/Preconditions", "checkIndex", "(IILjava/util/function/BiFunction;)I"⟩
abbrev own_Met (l : Launch) (Z : State) (y : MethodName) (code : ByteArray) (n : Nat) (ret : Option FieldType) (ws : List Jvm.Cond) (R : Room) (A : Array Value) (h0 : Heap) (Q : Option Value → Heap → List Loc → Prop) : Prop := MetFree l y (head1 (Jvm.Cond.code y code n ret :: ws) R) (fun aV U => aV = A ∧ Z.Warmed39 U.vm ∧ U.heap = h0) (fun _ _ _ _ _ => True) (fun _ U o U' => ∃ v L, o = .returned v ∧ Q v U'.heap L ∧ FrameEnd U o U' L R.cells R.slots)
theorem own_open {l : Launch} {Z : State} {y : MethodName} {code : ByteArray} {n : Nat} {ret : Option FieldType} {ws : List Jvm.Cond} {R : Room} {A : Array Value} {h0 : Heap} {Q : Option Value → Heap → List Loc → Prop} (hp : plainFor y = true)
    (H : ∀ (pr_ : Program) (en_ : Env) (st_ : State) (me_ : MethodId) (below : List Frame) (meth_ : Method) (co_ : Code) (s₁ : State), BodyLoose pr_ l y (head1 (Jvm.Cond.code y code n ret :: ws) R) code n ret en_ st_ me_ A below meth_ co_ s₁ → pr_.tables.exec = Jvm.exec → co_.code = code → co_.maxLocals = n → st_.vm.findClass y.cls = some me_.cls → Z.Warmed39 st_.vm →
      Stand pr_ l en_ R st_ me_ A below meth_ co_ s₁ [] 0 0 → s₁.heap = h0 → ∀ G : State → Prop, (∀ {A B : State}, (∀ t, Steps pr_.tables en_ below B t → Steps pr_.tables en_ below A t) → G B → G A) → (∀ A, own_Fin pr_.tables en_ below st_ Q R.cells R.slots A → G A) → G (s₁.setTop (entryFrame me_ A n))) : own_Met l Z y code n ret ws R A h0 Q := by
  refine MetFree.of_bodySF hp hisR ?_
  intro pr_ en_ st_ me_ args below meth_ co_ s₁ Bd hml0 hP hK
  obtain ⟨rfl, hZ, hh⟩ := hP
  obtain ⟨G, gv, gf, gb⟩ := own_G pr_.tables en_ below st_ Q R.cells R.slots
  exact gb _ (H pr_ en_ st_ me_ below meth_ co_ s₁ Bd Bd.exec Bd.bytes hml0 (findClass_of_methodNamed Bd.named) hZ (Stand.of_body Bd) (by rw [← hh, Bd.state]; rfl) G gv gf)
abbrev own_R (f c s l : Nat) : Room := { frames := f, cells := c, slots := s, locals := l }
theorem own_rv {a : Option FieldType} {b : FieldType} {v : Option Value} (q : a = some b) (h : a = none) : v = none := by rw [q] at h; cases h
set_option maxRecDepth 65536
set_option maxHeartbeats 40000000
theorem own_not0 {s : State} {args : Array Value} {t : Term} {x : Int32} (ev : t.eval args s none [] s = some (.int x)) (h : (Jvm.Cond.not (.eq t (.int 0))).value args s none s [] = some true) : ¬ (x = (0 : Int32)) := by
  intro q
  subst q
  have k : (Term.int 0).eval args s none [] s = some (.int 0) := rfl
  simp [Cond.value, ev, k] at h
theorem own_isref {s : State} {args : Array Value} {t : Term} (h : (Jvm.Cond.isRef t).value args s none s [] = some true) : ∃ v, t.eval args s none [] s = some v ∧ v.isRef = true := by
  cases q : t.eval args s none [] s with
  | none => simp [Cond.value, q] at h
  | some v => refine ⟨v, rfl, ?_⟩; cases v <;> simp [Cond.value, q, Value.isRef] at h ⊢
theorem own_empty {s : State} (hf : Fit s) {args : Array Value} {t : Term} {ty : FieldType} (h4 : (Jvm.Cond.arrayOf t ty).value args s none s [] = some true) (h6 : (Jvm.Cond.eq (.length t) (.int 0)).value args s none s [] = some true) : ∃ (a : Addr) (k : ClassId), t.eval args s none [] s = some (.ref a) ∧ Arv s s.heap a k ty (0 : Int32) [] .null := by
  have e6 := eqv_i (Term.int_eval 0) h6
  obtain ⟨a, cell, ea, hat, -⟩ := Term.length_spec e6
  obtain ⟨c, A⟩ := Arr.start ea h4
  have hc := A.fin (Vm.Alike.refl _)
  have hl : c.slots.size < 2 ^ 31 := by
    rcases Nat.lt_or_ge c.slots.size (2 ^ 31) with q | q
    · exact q
    · simp [Term.eval, ea, hc, Nat.not_lt.mpr q] at e6
  have e8 := (len_f ea hc hl).symm.trans e6
  have e9 : c.slots.size.toInt32 = (0 : Int32) := by simpa using e8
  exact ⟨a, c.cls, ea, Arv.start hf A hl e9 (by decide) rfl trivial⟩
def own_EL : List (String × Nat) := [("java/lang/String", 7)]
theorem own_hEL {Z : State} {a0 : Array Value} (hw : own_HW Z a0) : EW Z a0 own_EL := (EW.cons (t_25 hw) (by decide) EW.nil)
theorem own_wS {Z : State} {a0 : Array Value} (hw : own_HW Z a0) : ∀ a ∈ Bundle.stringAtoms, a.before a0 Z = true := by
  intro a ha
  simp only [Bundle.stringAtoms, List.mem_cons, List.not_mem_nil, or_false] at ha
  rcases ha with rfl | rfl | rfl | rfl | rfl | rfl | rfl
  · exact (t_13 hw)
  · exact (t_12 hw)
  · exact (t_26 hw)
  · exact (t_27 hw)
  · exact (t_28 hw)
  · exact (t_29 hw)
  · exact (t_30 hw)
/-- from the state A the body comes to its end as Q says; literals may have been made -/
def own_FinW (Z : State) (EL : List (String × Nat)) (tb : Tables) (e : Env) (below : List Frame) (s : State) (Q : Option Value → Heap → List Loc → Prop) (kc ks : Nat) (A : State) : Prop :=
  ∃ s₂ o, Steps tb e below A s₂ ∧ s₂.status = .running ∧ Ended s₂ below o ∧ ∃ v L, o = .returned v ∧ Q v s₂.heap L ∧ CHr Z EL s.vm s.heap s₂.vm s₂.heap ∧ ReturnedEndW s o s₂ L kc ks
theorem own_GW (Z : State) (EL : List (String × Nat)) (tb : Tables) (e : Env) (below : List Frame) (s : State) (Q : Option Value → Heap → List Loc → Prop) (kc ks : Nat) :
    ∃ G : State → Prop, (∀ {A B : State}, (∀ t, Steps tb e below B t → Steps tb e below A t) → G B → G A) ∧ (∀ A, own_FinW Z EL tb e below s Q kc ks A → G A) ∧ (∀ A, G A → own_FinW Z EL tb e below s Q kc ks A) :=
  ⟨own_FinW Z EL tb e below s Q kc ks, fun h k => by obtain ⟨s₂, o, h1, r⟩ := k; exact ⟨s₂, o, h _ h1, r⟩, fun _ h => h, fun _ h => h⟩
theorem own_retW {p : Program} {l : Launch} {e : Env} {R : Room} {s : State} {vm0 : Vm} {m : MethodId} {args : Array Value} {below : List Frame} {meth : Method} {c : Code} {T : State} {locs : List Loc} {cells slots : Nat} {Q : Option Value → Heap → List Loc → Prop} {kc ks k0 : Nat} {A : State} {v : Option Value} {Z : State} {EL : List (String × Nat)}
    (X : Stand p l e R (s.setVm vm0) m args below meth c T locs cells slots) (hlk : meth.locks = false) (hS : s.Since vm0 k0) (hk : k0 ≤ T.heap.size) (hv : meth.sig.returnType = none → v = none) (hQ : Q v T.heap locs) (hc : cells ≤ kc) (hs : slots ≤ ks) (hCR : CHr Z EL s.vm s.heap T.vm T.heap)
    (st : ∀ fs, (∀ (f : JFrame) (acts : List Action), f.method = m → f.locked = none → f.entered = [] → (doReturn e (T.setTop f) acts v).1 = T.setFrames fs) → Steps p.tables e below A (T.setFrames fs)) : own_FinW Z EL p.tables e below s Q kc ks A := by
  obtain ⟨fs, hr, hrun, hended, hW⟩ := X.leaveW hS hk hv hlk
  exact ⟨_, _, st fs hr, hrun, hended, _, _, rfl, hQ, hCR, hW.1, hW.2.1, hW.2.2.1, hW.2.2.2.mono hc hs⟩
theorem own_sf0 {Z : State} {EL : List (String × Nat)} {vm : Vm} {h : Heap} : ∀ x ∈ ([] : List Addr), x < h.size ∧ Safe Z EL vm h x := fun _ q => nomatch q
theorem own_sfS {Z : State} {EL : List (String × Nat)} {vm : Vm} {h : Heap} {x : Addr} {ws : List Addr} (lt : x < h.size) (n : Safe Z EL vm h x) (r : ∀ y ∈ ws, y < h.size ∧ Safe Z EL vm h y) : ∀ y ∈ x :: ws, y < h.size ∧ Safe Z EL vm h y := fun y q => by
  rcases List.mem_cons.mp q with rfl | q
  · exact ⟨lt, n⟩
  · exact r y q
theorem own_backH {l : Launch} {R : Room} {p : Program} {e : Env} {below : List Frame} {s : State} {args : Array Value} {Z : State} {a0 : Array Value} {EL : List (String × Nat)} {h : Heap} {vm0 : Vm} {xs : List Addr}
    {y : MethodName} {bytes : ByteArray} {maxL : Nat} {ret : Option FieldType} {rm : Room} {len W : Nat} {as' : Array Value} {Q : Option Value → Heap → List Loc → Prop}
    (hM : MetFree l y (head1 [Cond.code y bytes maxL ret] rm) (fun a U => a = as' ∧ Z.Warmed39 U.vm ∧ U.heap = h ∧ CHv Z EL U.vm h ∧ ∀ x ∈ xs, Safe Z EL U.vm h x) (fun _ _ _ _ _ => True) (fun _ U o U' => ∃ v L, o = .returned v ∧ Q v U'.heap L ∧ CHr Z EL U.vm U.heap U'.vm U'.heap ∧ ReturnedEndW U o U' L rm.cells rm.slots))
    (hZ : Z.Warmed39 vm0) (wc : (Cond.code y bytes maxL ret).before a0 Z = true) (wz : (Cond.initialized y.cls).before a0 Z = true) (hf : rm.frames + 1 ≤ R.frames) (hl : W + (maxL + 11) + rm.locals ≤ R.locals) (hEL : EW Z a0 EL) (H : CHv Z EL vm0 h) (hxs : ∀ x ∈ xs, x < h.size ∧ Safe Z EL vm0 h x) :
    BackS l R p e below (s.setVm vm0) args y len W (fun A a => a = as' ∧ A.U.heap = h ∧ A.cells + rm.cells ≤ R.cells ∧ A.slots + rm.slots ≤ R.slots)
      (fun A _ v B => ∃ L, Q v B.U.heap L ∧ B.locs = A.locs ++ L ∧ B.cells = A.cells + rm.cells ∧ B.slots = A.slots + rm.slots ∧ CHr Z EL vm0 h B.U.vm B.U.heap) := by
  refine BackS.of_freeW (bytes := bytes) (maxL := maxL) (ret := ret) (E := fun _ first o t L k n => k = rm.cells ∧ n = rm.slots ∧ (∃ v, o = .returned v ∧ Q v t.heap L) ∧ CHr Z EL first.vm first.heap t.vm t.heap) hM hf hl ?_ ?_ (fun _ _ _ _ _ _ _ _ _ => trivial) ?_ ?_
  · intro m meth c A a Y hp
    have hU : Z.Warmed39 A.U.vm := wtrans (s := s.setVm vm0) hZ Y.warmed
    refine ⟨?_, mv hU wc, mv hU wz, hp.2.2.1, hp.2.2.2⟩
    show (Cond.and _ .tt).before a A.U = true
    rw [Cond.before_and, mv hU wc]; rfl
  · intro m meth c A a g mk Y hp
    have B := CHv.at Y hZ hEL H
    exact ⟨hp.1, wtrans (s := s.setVm vm0) hZ Y.warmed, hp.2.1, B.1, fun x hx => B.safe (hxs x hx).1 (hxs x hx).2⟩
  · rintro _ _ _ _ ⟨v, L, h1, h2, h3, h4⟩
    exact ⟨L, _, _, h4, rfl, rfl, ⟨v, h1, h2⟩, h3⟩
  · rintro m meth c A a g mk v t L k n Y hp - - ⟨e1, e2, ⟨v', e3, e4⟩, e5⟩
    cases e3; subst e1 e2
    refine ⟨L, e4, rfl, rfl, rfl, (CHv.at Y hZ hEL H).trans ?_⟩
    rw [← hp.2.1]; exact e5
theorem own_and7 (a : Int32) : a &&& (7 : Int32) = (0 : Int32) ∨ a &&& (7 : Int32) = (1 : Int32) ∨ a &&& (7 : Int32) = (2 : Int32) ∨ a &&& (7 : Int32) = (3 : Int32) ∨ a &&& (7 : Int32) = (4 : Int32) ∨ a &&& (7 : Int32) = (5 : Int32) ∨ a &&& (7 : Int32) = (6 : Int32) ∨ a &&& (7 : Int32) = (7 : Int32) := by
  have h := c_mask a 7 3 (by decide) (by decide)
  have h1 : (a &&& (7 : Int32)).toInt = 0 ∨ (a &&& (7 : Int32)).toInt = 1 ∨ (a &&& (7 : Int32)).toInt = 2 ∨ (a &&& (7 : Int32)).toInt = 3 ∨ (a &&& (7 : Int32)).toInt = 4 ∨ (a &&& (7 : Int32)).toInt = 5 ∨ (a &&& (7 : Int32)).toInt = 6 ∨ (a &&& (7 : Int32)).toInt = 7 := by omega
  rcases h1 with q | q | q | q | q | q | q | q
  · exact Or.inl (Int32.toInt_inj.mp (by rw [q]; rfl))
  · exact Or.inr (Or.inl (Int32.toInt_inj.mp (by rw [q]; rfl)))
  · exact Or.inr (Or.inr (Or.inl (Int32.toInt_inj.mp (by rw [q]; rfl))))
  · exact Or.inr (Or.inr (Or.inr (Or.inl (Int32.toInt_inj.mp (by rw [q]; rfl)))))
  · exact Or.inr (Or.inr (Or.inr (Or.inr (Or.inl (Int32.toInt_inj.mp (by rw [q]; rfl))))))
  · exact Or.inr (Or.inr (Or.inr (Or.inr (Or.inr (Or.inl (Int32.toInt_inj.mp (by rw [q]; rfl)))))))
  · exact Or.inr (Or.inr (Or.inr (Or.inr (Or.inr (Or.inr (Or.inl (Int32.toInt_inj.mp (by rw [q]; rfl))))))))
  · exact Or.inr (Or.inr (Or.inr (Or.inr (Or.inr (Or.inr (Or.inr (Int32.toInt_inj.mp (by rw [q]; rfl))))))))
def own_gc (x0 x1 : Int32) : Int32 := ((((x0 &&& (255 : Int32)) <<< ((0 : Int32) &&& 31)) ||| ((x1 &&& (255 : Int32)) <<< ((8 : Int32) &&& 31))).toUInt32.toUInt16.toUInt32.toInt32)
theorem own_gc_put (c : Int32) (h1 : ¬ (c < (0 : Int32))) (h2 : ¬ ((65535 : Int32) < c)) : own_gc ((c >>> ((0 : Int32) &&& 31)).toInt8.toInt32) ((c >>> ((8 : Int32) &&& 31)).toInt8.toInt32) = c := by
  refine Int32.toInt_inj.mp ?_
  rw [Int32.lt_iff_toInt_lt] at h1 h2
  have e0 : (0 : Int32).toInt = 0 := by decide
  have e1 : (65535 : Int32).toInt = 65535 := by decide
  have a0 := c_ishr c 0 0 (by decide)
  have a1 := c_ishr c 8 8 (by decide)
  have b0 := c_i2b (c >>> ((0 : Int32) &&& 31))
  have b1 := c_i2b (c >>> ((8 : Int32) &&& 31))
  have m0 := c_mask ((c >>> ((0 : Int32) &&& 31)).toInt8.toInt32) 255 8 (by decide) (by decide)
  have m1 := c_mask ((c >>> ((8 : Int32) &&& 31)).toInt8.toInt32) 255 8 (by decide) (by decide)
  have s0 := c_ishl (((c >>> ((0 : Int32) &&& 31)).toInt8.toInt32) &&& (255 : Int32)) 0 0 (by decide)
  have s1 := c_ishl (((c >>> ((8 : Int32) &&& 31)).toInt8.toInt32) &&& (255 : Int32)) 8 8 (by decide)
  have r0 := rng32 ((((c >>> ((0 : Int32) &&& 31)).toInt8.toInt32) &&& (255 : Int32)) <<< ((0 : Int32) &&& 31))
  have r1 := rng32 ((((c >>> ((8 : Int32) &&& 31)).toInt8.toInt32) &&& (255 : Int32)) <<< ((8 : Int32) &&& 31))
  have o := c_or' ((((c >>> ((0 : Int32) &&& 31)).toInt8.toInt32) &&& (255 : Int32)) <<< ((0 : Int32) &&& 31)) ((((c >>> ((8 : Int32) &&& 31)).toInt8.toInt32) &&& (255 : Int32)) <<< ((8 : Int32) &&& 31)) 8 (by decide) 256 (by decide) (by omega) (by omega) (by omega)
  have r2 := rng32 (((((c >>> ((0 : Int32) &&& 31)).toInt8.toInt32) &&& (255 : Int32)) <<< ((0 : Int32) &&& 31)) ||| ((((c >>> ((8 : Int32) &&& 31)).toInt8.toInt32) &&& (255 : Int32)) <<< ((8 : Int32) &&& 31)))
  have w := c_i2c (((((c >>> ((0 : Int32) &&& 31)).toInt8.toInt32) &&& (255 : Int32)) <<< ((0 : Int32) &&& 31)) ||| ((((c >>> ((8 : Int32) &&& 31)).toInt8.toInt32) &&& (255 : Int32)) <<< ((8 : Int32) &&& 31)))
  show (((((((c >>> ((0 : Int32) &&& 31)).toInt8.toInt32) &&& (255 : Int32)) <<< ((0 : Int32) &&& 31)) ||| ((((c >>> ((8 : Int32) &&& 31)).toInt8.toInt32) &&& (255 : Int32)) <<< ((8 : Int32) &&& 31))).toUInt32.toUInt16.toUInt32.toInt32)).toInt = c.toInt
  omega
theorem own_c2 (c : Int32) (h1 : ¬ (c < (0 : Int32))) (h2 : ¬ ((65535 : Int32) < c)) : (c.toUInt32.toUInt16.toUInt32.toInt32) = c := by
  refine Int32.toInt_inj.mp ?_
  rw [Int32.lt_iff_toInt_lt] at h1 h2
  have e0 : (0 : Int32).toInt = 0 := by decide
  have e1 : (65535 : Int32).toInt = 65535 := by decide
  have w := c_i2c c
  omega
theorem own_nr {c : Int32} (h : nar .char c = c) : (¬ (c < (0 : Int32))) ∧ ¬ ((65535 : Int32) < c) := by
  have w := c_i2c c
  have q : c.toUInt32.toUInt16.toUInt32.toInt32 = c := h
  rw [q] at w
  have e0 : (0 : Int32).toInt = 0 := by decide
  have e1 : (65535 : Int32).toInt = 65535 := by decide
  refine ⟨?_, ?_⟩ <;> rw [Int32.lt_iff_toInt_lt] <;> omega
theorem own_gcp {c : Int32} (h : nar .char c = c) : own_gc ((c >>> ((0 : Int32) &&& 31)).toInt8.toInt32) ((c >>> ((8 : Int32) &&& 31)).toInt8.toInt32) = c := own_gc_put c (own_nr h).1 (own_nr h).2
theorem own_gcgt {c : Int32} (h : nar .char c = c) (g : (255 : Int32) < c) : (255 : Int32) < own_gc ((c >>> ((0 : Int32) &&& 31)).toInt8.toInt32) ((c >>> ((8 : Int32) &&& 31)).toInt8.toInt32) := by rw [own_gcp h]; exact g
theorem own_gcn (x y : Int32) : nar .char (own_gc x y) = own_gc x y := by unfold own_gc; exact own_narC _
theorem own_l1 {c : Int32} (h : nar .char c = c) (g : ¬ ((255 : Int32) < c)) : (((c.toInt8.toInt32) &&& (255 : Int32)).toUInt32.toUInt16.toUInt32.toInt32) = c := by
  obtain ⟨h1, h2⟩ := own_nr h
  refine Int32.toInt_inj.mp ?_
  rw [Int32.lt_iff_toInt_lt] at h1 h2 g
  have e0 : (0 : Int32).toInt = 0 := by decide
  have e1 : (255 : Int32).toInt = 255 := by decide
  have b0 := c_i2b c
  have m0 := c_mask (c.toInt8.toInt32) 255 8 (by decide) (by decide)
  have w := c_i2c ((c.toInt8.toInt32) &&& (255 : Int32))
  omega
def own_fv (c e : Int32) : Int32 := if e = (48 : Int32) then (if c < (48 : Int32) then 0 else if (57 : Int32) < c then 0 else 1) else if c = e then 1 else 0
theorem own_58 (c : Int32) : c < (58 : Int32) ↔ ¬ ((57 : Int32) < c) := by
  have e0 : (58 : Int32).toInt = 58 := by decide
  have e1 : (57 : Int32).toInt = 57 := by decide
  rw [Int32.lt_iff_toInt_lt, Int32.lt_iff_toInt_lt]; omega
theorem own_fva {c e : Int32} (h : e = (48 : Int32)) (k : c < (48 : Int32)) : own_fv c e = (0 : Int32) := by unfold own_fv; rw [if_pos h, if_pos k]
theorem own_fvb {c e : Int32} (h : e = (48 : Int32)) (k : ¬ (c < (48 : Int32))) (l : (57 : Int32) < c) : own_fv c e = (0 : Int32) := by unfold own_fv; rw [if_pos h, if_neg k, if_pos l]
theorem own_fvc {c e : Int32} (h : e = (48 : Int32)) (k : ¬ (c < (48 : Int32))) (l : ¬ ((57 : Int32) < c)) : own_fv c e = (1 : Int32) := by unfold own_fv; rw [if_pos h, if_neg k, if_neg l]
theorem own_fvd {c e : Int32} (h : ¬ (e = (48 : Int32))) (k : c = e) : own_fv c e = (1 : Int32) := by unfold own_fv; rw [if_neg h, if_pos k]
theorem own_fve {c e : Int32} (h : ¬ (e = (48 : Int32))) (k : ¬ (c = e)) : own_fv c e = (0 : Int32) := by unfold own_fv; rw [if_neg h, if_neg k]
theorem own_n0 {x : Int32} (h : x = (1 : Int32)) : ¬ (x = (0 : Int32)) := by rw [h]; decide
theorem own_sv {x y : Int32} (h : x = y) : some (Value.int y) = some (Value.int x) := by rw [h]
def own_le4 (x : Int32) : Prop := x = (0 : Int32) ∨ x = (1 : Int32) ∨ x = (2 : Int32) ∨ x = (3 : Int32) ∨ x = (4 : Int32)
theorem own_is4 {x : Int32} (h : own_le4 x) (h0 : ¬ (x = (0 : Int32))) (h1 : ¬ (x = (1 : Int32))) (h2 : ¬ (x = (2 : Int32))) (h3 : ¬ (x = (3 : Int32))) : x = (4 : Int32) := by
  rcases h with q | q | q | q | q
  · exact absurd q h0
  · exact absurd q h1
  · exact absurd q h2
  · exact absurd q h3
  · exact q
theorem own_no4 {x : Int32} (h : own_le4 x) : ¬ ((4 : Int32) < x) := by rcases h with q | q | q | q | q <;> rw [q] <;> decide
theorem own_sw {x : Int32} (h : own_le4 x) : ((x < (1 : Int32)) ↔ ¬ ((0 : Int32) < x)) ∧ ((x < (2 : Int32)) ↔ ¬ ((1 : Int32) < x)) ∧ ((x < (3 : Int32)) ↔ ¬ ((2 : Int32) < x)) ∧ ((x < (4 : Int32)) ↔ ¬ ((3 : Int32) < x)) := by rcases h with q | q | q | q | q <;> rw [q] <;> decide
theorem own_ltr {a b i : Int32} (h : a = b) (k : i < b) : i < a := by rw [h]; exact k
def own_df (a b : Int32) : Int32 := if a = b then 0 else 1
theorem own_df0 {a b : Int32} (h : a = b) : ¬ (own_df a b = (1 : Int32)) := by unfold own_df; rw [if_pos h]; decide
theorem own_df1 {a b : Int32} (h : ¬ (a = b)) : own_df a b = (1 : Int32) := by unfold own_df; rw [if_neg h]
theorem own_t5 (a : Int32) : own_le4 ((a &&& (7 : Int32)) % (5 : Int32)) := by
  unfold own_le4
  rcases own_and7 a with q | q | q | q | q | q | q | q <;> rw [q] <;> decide
def own_S0 (Z : State) (h : Heap) (s : Addr)  : Prop := ((∃ (b : Addr) (k : ClassId), Exa Z h s "java/lang/String" ∧ Fld Z h s "java/lang/String" "coder" "B" (.int 0) ∧ Fld Z h s "java/lang/String" "value" "[B" (.ref b) ∧ Arv Z h b k .byte (0 : Int32) [] (.int 0)))
theorem own_S0.keep {Z : State} {h h' : Heap} {s : Addr} (H : own_S0 Z h s) (K : Keep h h' []) : own_S0 Z h' s := by
  obtain ⟨b, k, e, f, g, a⟩ := H
  exact ⟨b, k, e.keep K, f.keep K nin0, g.keep K nin0, a.keep K nin0⟩
def own_S1 (Z : State) (h : Heap) (s : Addr) (c0 : Int32) : Prop := ((∃ (b : Addr) (k : ClassId), Exa Z h s "java/lang/String" ∧ Fld Z h s "java/lang/String" "coder" "B" (.int 0) ∧ Fld Z h s "java/lang/String" "value" "[B" (.ref b) ∧ Arv Z h b k .byte (1 : Int32) [(.int (c0.toInt8.toInt32))] (.int 0) ∧ ¬ ((255 : Int32) < c0)) ∨ (∃ (b : Addr) (k : ClassId), Exa Z h s "java/lang/String" ∧ Fld Z h s "java/lang/String" "coder" "B" (.int 1) ∧ Fld Z h s "java/lang/String" "value" "[B" (.ref b) ∧ Arv Z h b k .byte (2 : Int32) [(.int ((c0 >>> ((0 : Int32) &&& 31)).toInt8.toInt32)), (.int ((c0 >>> ((8 : Int32) &&& 31)).toInt8.toInt32))] (.int 0))) ∧ nar .char c0 = c0
theorem own_S1.keep {Z : State} {h h' : Heap} {s : Addr} {c0 : Int32} (H : own_S1 Z h s c0) (K : Keep h h' []) : own_S1 Z h' s c0 := by
  obtain ⟨⟨b, k, e, f, g, a, l0⟩ | ⟨b, k, e, f, g, a⟩, m0⟩ := H
  · exact ⟨Or.inl ⟨b, k, e.keep K, f.keep K nin0, g.keep K nin0, a.keep K nin0, l0⟩, m0⟩
  · exact ⟨Or.inr ⟨b, k, e.keep K, f.keep K nin0, g.keep K nin0, a.keep K nin0⟩, m0⟩
def own_S2 (Z : State) (h : Heap) (s : Addr) (c0 : Int32) (c1 : Int32) : Prop := ((∃ (b : Addr) (k : ClassId), Exa Z h s "java/lang/String" ∧ Fld Z h s "java/lang/String" "coder" "B" (.int 0) ∧ Fld Z h s "java/lang/String" "value" "[B" (.ref b) ∧ Arv Z h b k .byte (2 : Int32) [(.int (c0.toInt8.toInt32)), (.int (c1.toInt8.toInt32))] (.int 0) ∧ ¬ ((255 : Int32) < c0) ∧ ¬ ((255 : Int32) < c1)) ∨ (∃ (b : Addr) (k : ClassId), Exa Z h s "java/lang/String" ∧ Fld Z h s "java/lang/String" "coder" "B" (.int 1) ∧ Fld Z h s "java/lang/String" "value" "[B" (.ref b) ∧ Arv Z h b k .byte (4 : Int32) [(.int ((c0 >>> ((0 : Int32) &&& 31)).toInt8.toInt32)), (.int ((c0 >>> ((8 : Int32) &&& 31)).toInt8.toInt32)), (.int ((c1 >>> ((0 : Int32) &&& 31)).toInt8.toInt32)), (.int ((c1 >>> ((8 : Int32) &&& 31)).toInt8.toInt32))] (.int 0))) ∧ nar .char c0 = c0 ∧ nar .char c1 = c1
theorem own_S2.keep {Z : State} {h h' : Heap} {s : Addr} {c0 c1 : Int32} (H : own_S2 Z h s c0 c1) (K : Keep h h' []) : own_S2 Z h' s c0 c1 := by
  obtain ⟨⟨b, k, e, f, g, a, l0, l1⟩ | ⟨b, k, e, f, g, a⟩, m0, m1⟩ := H
  · exact ⟨Or.inl ⟨b, k, e.keep K, f.keep K nin0, g.keep K nin0, a.keep K nin0, l0, l1⟩, m0, m1⟩
  · exact ⟨Or.inr ⟨b, k, e.keep K, f.keep K nin0, g.keep K nin0, a.keep K nin0⟩, m0, m1⟩
def own_S3 (Z : State) (h : Heap) (s : Addr) (c0 : Int32) (c1 : Int32) (c2 : Int32) : Prop := ((∃ (b : Addr) (k : ClassId), Exa Z h s "java/lang/String" ∧ Fld Z h s "java/lang/String" "coder" "B" (.int 0) ∧ Fld Z h s "java/lang/String" "value" "[B" (.ref b) ∧ Arv Z h b k .byte (3 : Int32) [(.int (c0.toInt8.toInt32)), (.int (c1.toInt8.toInt32)), (.int (c2.toInt8.toInt32))] (.int 0) ∧ ¬ ((255 : Int32) < c0) ∧ ¬ ((255 : Int32) < c1) ∧ ¬ ((255 : Int32) < c2)) ∨ (∃ (b : Addr) (k : ClassId), Exa Z h s "java/lang/String" ∧ Fld Z h s "java/lang/String" "coder" "B" (.int 1) ∧ Fld Z h s "java/lang/String" "value" "[B" (.ref b) ∧ Arv Z h b k .byte (6 : Int32) [(.int ((c0 >>> ((0 : Int32) &&& 31)).toInt8.toInt32)), (.int ((c0 >>> ((8 : Int32) &&& 31)).toInt8.toInt32)), (.int ((c1 >>> ((0 : Int32) &&& 31)).toInt8.toInt32)), (.int ((c1 >>> ((8 : Int32) &&& 31)).toInt8.toInt32)), (.int ((c2 >>> ((0 : Int32) &&& 31)).toInt8.toInt32)), (.int ((c2 >>> ((8 : Int32) &&& 31)).toInt8.toInt32))] (.int 0))) ∧ nar .char c0 = c0 ∧ nar .char c1 = c1 ∧ nar .char c2 = c2
theorem own_S3.keep {Z : State} {h h' : Heap} {s : Addr} {c0 c1 c2 : Int32} (H : own_S3 Z h s c0 c1 c2) (K : Keep h h' []) : own_S3 Z h' s c0 c1 c2 := by
  obtain ⟨⟨b, k, e, f, g, a, l0, l1, l2⟩ | ⟨b, k, e, f, g, a⟩, m0, m1, m2⟩ := H
  · exact ⟨Or.inl ⟨b, k, e.keep K, f.keep K nin0, g.keep K nin0, a.keep K nin0, l0, l1, l2⟩, m0, m1, m2⟩
  · exact ⟨Or.inr ⟨b, k, e.keep K, f.keep K nin0, g.keep K nin0, a.keep K nin0⟩, m0, m1, m2⟩
def own_S4 (Z : State) (h : Heap) (s : Addr) (c0 : Int32) (c1 : Int32) (c2 : Int32) (c3 : Int32) : Prop := ((∃ (b : Addr) (k : ClassId), Exa Z h s "java/lang/String" ∧ Fld Z h s "java/lang/String" "coder" "B" (.int 0) ∧ Fld Z h s "java/lang/String" "value" "[B" (.ref b) ∧ Arv Z h b k .byte (4 : Int32) [(.int (c0.toInt8.toInt32)), (.int (c1.toInt8.toInt32)), (.int (c2.toInt8.toInt32)), (.int (c3.toInt8.toInt32))] (.int 0) ∧ ¬ ((255 : Int32) < c0) ∧ ¬ ((255 : Int32) < c1) ∧ ¬ ((255 : Int32) < c2) ∧ ¬ ((255 : Int32) < c3)) ∨ (∃ (b : Addr) (k : ClassId), Exa Z h s "java/lang/String" ∧ Fld Z h s "java/lang/String" "coder" "B" (.int 1) ∧ Fld Z h s "java/lang/String" "value" "[B" (.ref b) ∧ Arv Z h b k .byte (8 : Int32) [(.int ((c0 >>> ((0 : Int32) &&& 31)).toInt8.toInt32)), (.int ((c0 >>> ((8 : Int32) &&& 31)).toInt8.toInt32)), (.int ((c1 >>> ((0 : Int32) &&& 31)).toInt8.toInt32)), (.int ((c1 >>> ((8 : Int32) &&& 31)).toInt8.toInt32)), (.int ((c2 >>> ((0 : Int32) &&& 31)).toInt8.toInt32)), (.int ((c2 >>> ((8 : Int32) &&& 31)).toInt8.toInt32)), (.int ((c3 >>> ((0 : Int32) &&& 31)).toInt8.toInt32)), (.int ((c3 >>> ((8 : Int32) &&& 31)).toInt8.toInt32))] (.int 0))) ∧ nar .char c0 = c0 ∧ nar .char c1 = c1 ∧ nar .char c2 = c2 ∧ nar .char c3 = c3
theorem own_S4.keep {Z : State} {h h' : Heap} {s : Addr} {c0 c1 c2 c3 : Int32} (H : own_S4 Z h s c0 c1 c2 c3) (K : Keep h h' []) : own_S4 Z h' s c0 c1 c2 c3 := by
  obtain ⟨⟨b, k, e, f, g, a, l0, l1, l2, l3⟩ | ⟨b, k, e, f, g, a⟩, m0, m1, m2, m3⟩ := H
  · exact ⟨Or.inl ⟨b, k, e.keep K, f.keep K nin0, g.keep K nin0, a.keep K nin0, l0, l1, l2, l3⟩, m0, m1, m2, m3⟩
  · exact ⟨Or.inr ⟨b, k, e.keep K, f.keep K nin0, g.keep K nin0, a.keep K nin0⟩, m0, m1, m2, m3⟩
def own_SX (Z : State) (h : Heap) (s : Addr) (ln c0 c1 c2 c3 : Int32) : Prop := (ln = (0 : Int32) ∧ own_S0 Z h s) ∨ (ln = (1 : Int32) ∧ own_S1 Z h s c0) ∨ (ln = (2 : Int32) ∧ own_S2 Z h s c0 c1) ∨ (ln = (3 : Int32) ∧ own_S3 Z h s c0 c1 c2) ∨ (ln = (4 : Int32) ∧ own_S4 Z h s c0 c1 c2 c3)
theorem own_SX.keep {Z : State} {h h' : Heap} {s : Addr} {ln c0 c1 c2 c3 : Int32} (H : own_SX Z h s ln c0 c1 c2 c3) (K : Keep h h' []) : own_SX Z h' s ln c0 c1 c2 c3 := by
  rcases H with ⟨q, H⟩ | ⟨q, H⟩ | ⟨q, H⟩ | ⟨q, H⟩ | ⟨q, H⟩
  · exact Or.inl (⟨q, H.keep K⟩)
  · exact Or.inr (Or.inl (⟨q, H.keep K⟩))
  · exact Or.inr (Or.inr (Or.inl (⟨q, H.keep K⟩)))
  · exact Or.inr (Or.inr (Or.inr (Or.inl (⟨q, H.keep K⟩))))
  · exact Or.inr (Or.inr (Or.inr (Or.inr ((⟨q, H.keep K⟩)))))
def own_B1 (Z : State) (h : Heap) (b : Addr) (r c0 : Int32) : Prop := (r = (1 : Int32) ∧ ∃ k : ClassId, Arv Z h b k .byte (1 : Int32) [(.int (c0.toInt8.toInt32))] (.int 0) ∧ ¬ ((255 : Int32) < c0)) ∨ (r = (0 : Int32) ∧ (255 : Int32) < c0)
def own_C1 (Z : State) (h : Heap) (b : Addr) (c0 : Int32) : Prop := (∃ k : ClassId, Arv Z h b k .byte (1 : Int32) [(.int (c0.toInt8.toInt32))] (.int 0) ∧ ¬ ((255 : Int32) < c0)) ∨ (∃ k : ClassId, Arv Z h b k .byte (2 : Int32) [(.int ((c0 >>> ((0 : Int32) &&& 31)).toInt8.toInt32)), (.int ((c0 >>> ((8 : Int32) &&& 31)).toInt8.toInt32))] (.int 0))
def own_B2 (Z : State) (h : Heap) (b : Addr) (r c0 c1 : Int32) : Prop := (r = (2 : Int32) ∧ ∃ k : ClassId, Arv Z h b k .byte (2 : Int32) [(.int (c0.toInt8.toInt32)), (.int (c1.toInt8.toInt32))] (.int 0) ∧ ¬ ((255 : Int32) < c0) ∧ ¬ ((255 : Int32) < c1)) ∨ (r = (0 : Int32) ∧ (255 : Int32) < c0) ∨ (r = (1 : Int32) ∧ (255 : Int32) < c1)
def own_C2 (Z : State) (h : Heap) (b : Addr) (c0 c1 : Int32) : Prop := (∃ k : ClassId, Arv Z h b k .byte (2 : Int32) [(.int (c0.toInt8.toInt32)), (.int (c1.toInt8.toInt32))] (.int 0) ∧ ¬ ((255 : Int32) < c0) ∧ ¬ ((255 : Int32) < c1)) ∨ (∃ k : ClassId, Arv Z h b k .byte (4 : Int32) [(.int ((c0 >>> ((0 : Int32) &&& 31)).toInt8.toInt32)), (.int ((c0 >>> ((8 : Int32) &&& 31)).toInt8.toInt32)), (.int ((c1 >>> ((0 : Int32) &&& 31)).toInt8.toInt32)), (.int ((c1 >>> ((8 : Int32) &&& 31)).toInt8.toInt32))] (.int 0))
def own_B3 (Z : State) (h : Heap) (b : Addr) (r c0 c1 c2 : Int32) : Prop := (r = (3 : Int32) ∧ ∃ k : ClassId, Arv Z h b k .byte (3 : Int32) [(.int (c0.toInt8.toInt32)), (.int (c1.toInt8.toInt32)), (.int (c2.toInt8.toInt32))] (.int 0) ∧ ¬ ((255 : Int32) < c0) ∧ ¬ ((255 : Int32) < c1) ∧ ¬ ((255 : Int32) < c2)) ∨ (r = (0 : Int32) ∧ (255 : Int32) < c0) ∨ (r = (1 : Int32) ∧ (255 : Int32) < c1) ∨ (r = (2 : Int32) ∧ (255 : Int32) < c2)
def own_C3 (Z : State) (h : Heap) (b : Addr) (c0 c1 c2 : Int32) : Prop := (∃ k : ClassId, Arv Z h b k .byte (3 : Int32) [(.int (c0.toInt8.toInt32)), (.int (c1.toInt8.toInt32)), (.int (c2.toInt8.toInt32))] (.int 0) ∧ ¬ ((255 : Int32) < c0) ∧ ¬ ((255 : Int32) < c1) ∧ ¬ ((255 : Int32) < c2)) ∨ (∃ k : ClassId, Arv Z h b k .byte (6 : Int32) [(.int ((c0 >>> ((0 : Int32) &&& 31)).toInt8.toInt32)), (.int ((c0 >>> ((8 : Int32) &&& 31)).toInt8.toInt32)), (.int ((c1 >>> ((0 : Int32) &&& 31)).toInt8.toInt32)), (.int ((c1 >>> ((8 : Int32) &&& 31)).toInt8.toInt32)), (.int ((c2 >>> ((0 : Int32) &&& 31)).toInt8.toInt32)), (.int ((c2 >>> ((8 : Int32) &&& 31)).toInt8.toInt32))] (.int 0))
def own_B4 (Z : State) (h : Heap) (b : Addr) (r c0 c1 c2 c3 : Int32) : Prop := (r = (4 : Int32) ∧ ∃ k : ClassId, Arv Z h b k .byte (4 : Int32) [(.int (c0.toInt8.toInt32)), (.int (c1.toInt8.toInt32)), (.int (c2.toInt8.toInt32)), (.int (c3.toInt8.toInt32))] (.int 0) ∧ ¬ ((255 : Int32) < c0) ∧ ¬ ((255 : Int32) < c1) ∧ ¬ ((255 : Int32) < c2) ∧ ¬ ((255 : Int32) < c3)) ∨ (r = (0 : Int32) ∧ (255 : Int32) < c0) ∨ (r = (1 : Int32) ∧ (255 : Int32) < c1) ∨ (r = (2 : Int32) ∧ (255 : Int32) < c2) ∨ (r = (3 : Int32) ∧ (255 : Int32) < c3)
def own_C4 (Z : State) (h : Heap) (b : Addr) (c0 c1 c2 c3 : Int32) : Prop := (∃ k : ClassId, Arv Z h b k .byte (4 : Int32) [(.int (c0.toInt8.toInt32)), (.int (c1.toInt8.toInt32)), (.int (c2.toInt8.toInt32)), (.int (c3.toInt8.toInt32))] (.int 0) ∧ ¬ ((255 : Int32) < c0) ∧ ¬ ((255 : Int32) < c1) ∧ ¬ ((255 : Int32) < c2) ∧ ¬ ((255 : Int32) < c3)) ∨ (∃ k : ClassId, Arv Z h b k .byte (8 : Int32) [(.int ((c0 >>> ((0 : Int32) &&& 31)).toInt8.toInt32)), (.int ((c0 >>> ((8 : Int32) &&& 31)).toInt8.toInt32)), (.int ((c1 >>> ((0 : Int32) &&& 31)).toInt8.toInt32)), (.int ((c1 >>> ((8 : Int32) &&& 31)).toInt8.toInt32)), (.int ((c2 >>> ((0 : Int32) &&& 31)).toInt8.toInt32)), (.int ((c2 >>> ((8 : Int32) &&& 31)).toInt8.toInt32)), (.int ((c3 >>> ((0 : Int32) &&& 31)).toInt8.toInt32)), (.int ((c3 >>> ((8 : Int32) &&& 31)).toInt8.toInt32))] (.int 0))
theorem ef_0 (m : MethodId) (x0 : Addr)  : entryFrame m #[(.ref x0)] 1 = mkF m 0 #[.val (.ref x0)] [] := by first | (simp [entryFrame, mkF, argsToLocals, Value.category]; done) | rfl
theorem pn_0 : plainName "java/lang/String" = true := by first | (simp [plainName, overriddenIn]; done) | decide +kernel
theorem d9_0 : decode jdk_42_method_152_code 0 = .ok (.getstatic 38, 3) := by decide +kernel
theorem d9_3 : decode jdk_42_method_152_code 3 = .ok (.ifCond .eq 10, 3) := by decide +kernel
theorem d9_6 : decode jdk_42_method_152_code 6 = .ok (.aload_n 0, 1) := by decide +kernel
theorem d9_7 : decode jdk_42_method_152_code 7 = .ok (.getfield 15, 3) := by decide +kernel
theorem d9_10 : decode jdk_42_method_152_code 10 = .ok (.goto 4, 3) := by decide +kernel
theorem d9_14 : decode jdk_42_method_152_code 14 = .ok (.ireturn, 1) := by decide +kernel
def Q_coder0 (Z : State) (a : Addr) (cs : Int32) (h0 : Heap) (n0 : Nat) (v : Option Value) (h : Heap) (L : List Loc) : Prop := v = some (.int 0) ∧ Fr n0 L ∧ h = h0
theorem rm_coder0 (l : Launch) (Z : State) (a0 : Array Value) (hw : own_HW Z a0) (ws : List Jvm.Cond) (a : Addr) (cs : Int32) (h0 : Heap) (n0 : Nat) (O0 : Old Z n0 h0) (u0 : Sta Z Z.heap "java/lang/String" "COMPACT_STRINGS" "Z" (.int cs)) (u1 : ¬ (cs = (0 : Int32))) (u2 : Fld Z h0 a "java/lang/String" "coder" "B" (.int 0)) :
    own_Met l Z m_10 jdk_42_method_152_code 1 (some .byte) ws (own_R 0 0 0 0) #[(.ref a)] h0 (Q_coder0 Z a cs h0 n0) := by
  refine own_open (plainFor_of_name pn_0) (fun pr_ en_ st_ me_ below meth_ co_ s₁ Bd hx hby hml hown hZ X0 e0 G gv gf => ?_)
  have N0 := Fr.nil n0
  refine gv (fun _ kQ => castTop (ef_0 me_ a) kQ) ?_
  show G (s₁.setTop (mkF me_ 0 #[.val (.ref a)] []))
  obtain ⟨T1, X1, e1, st1⟩ := getS2 X0 hx hZ hown (host := "") (Or.inl (t_47 hw)) Via.refl e0 (u0.ext O0.2) (g := (mkF me_ 0 #[.val (.ref a)] [])) rfl (hb hby d9_0)
  refine gv st1 ?_
  refine gv (fun _ kQ => XS.ifNo X1.here hx rfl (hb hby d9_3) rfl ((if0 _ _).trans (feq u1).1) (XS.aloadN X1.here hx rfl (hb hby d9_6) rfl rfl kQ)) ?_
  show G (T1.setTop (mkF me_ 7 #[.val (.ref a)] [(.ref a)]))
  obtain ⟨T2, X2, e2, st2⟩ := getF X1 hx hZ hown (host := "") (Or.inl (t_32 hw)) Via.refl e1 u2 (g := (mkF me_ 7 #[.val (.ref a)] [(.ref a)])) rfl rfl (hb hby d9_7)
  refine gv st2 ?_
  refine gv (fun _ kQ => XS.goto X2.here hx rfl (pc0 := 10) (pc' := 14) rfl (hb hby d9_10) (by decide) (by decide) kQ) ?_
  refine gf _ (own_ret X2 Bd.notSynchronized (v := some (.int 0)) (own_rv Bd.returns) ?_ (by decide) (by decide) (fun fs hr => retN X2 hx (t := .byte) Bd.returns (by simp) (hb hby d9_14) hr))
  show Q_coder0 Z a cs h0 n0 _ T2.heap _
  rw [e2]
  exact ⟨rfl, N0, rfl⟩
def Q_coder1 (Z : State) (a : Addr) (cs : Int32) (h0 : Heap) (n0 : Nat) (v : Option Value) (h : Heap) (L : List Loc) : Prop := v = some (.int 1) ∧ Fr n0 L ∧ h = h0
theorem rm_coder1 (l : Launch) (Z : State) (a0 : Array Value) (hw : own_HW Z a0) (ws : List Jvm.Cond) (a : Addr) (cs : Int32) (h0 : Heap) (n0 : Nat) (O0 : Old Z n0 h0) (u0 : Sta Z Z.heap "java/lang/String" "COMPACT_STRINGS" "Z" (.int cs)) (u1 : ¬ (cs = (0 : Int32))) (u2 : Fld Z h0 a "java/lang/String" "coder" "B" (.int 1)) :
    own_Met l Z m_10 jdk_42_method_152_code 1 (some .byte) ws (own_R 0 0 0 0) #[(.ref a)] h0 (Q_coder1 Z a cs h0 n0) := by
  refine own_open (plainFor_of_name pn_0) (fun pr_ en_ st_ me_ below meth_ co_ s₁ Bd hx hby hml hown hZ X0 e0 G gv gf => ?_)
  have N0 := Fr.nil n0
  refine gv (fun _ kQ => castTop (ef_0 me_ a) kQ) ?_
  show G (s₁.setTop (mkF me_ 0 #[.val (.ref a)] []))
  obtain ⟨T3, X3, e3, st3⟩ := getS2 X0 hx hZ hown (host := "") (Or.inl (t_47 hw)) Via.refl e0 (u0.ext O0.2) (g := (mkF me_ 0 #[.val (.ref a)] [])) rfl (hb hby d9_0)
  refine gv st3 ?_
  refine gv (fun _ kQ => XS.ifNo X3.here hx rfl (hb hby d9_3) rfl ((if0 _ _).trans (feq u1).1) (XS.aloadN X3.here hx rfl (hb hby d9_6) rfl rfl kQ)) ?_
  show G (T3.setTop (mkF me_ 7 #[.val (.ref a)] [(.ref a)]))
  obtain ⟨T4, X4, e4, st4⟩ := getF X3 hx hZ hown (host := "") (Or.inl (t_32 hw)) Via.refl e3 u2 (g := (mkF me_ 7 #[.val (.ref a)] [(.ref a)])) rfl rfl (hb hby d9_7)
  refine gv st4 ?_
  refine gv (fun _ kQ => XS.goto X4.here hx rfl (pc0 := 10) (pc' := 14) rfl (hb hby d9_10) (by decide) (by decide) kQ) ?_
  refine gf _ (own_ret X4 Bd.notSynchronized (v := some (.int 1)) (own_rv Bd.returns) ?_ (by decide) (by decide) (fun fs hr => retN X4 hx (t := .byte) Bd.returns (by simp) (hb hby d9_14) hr))
  show Q_coder1 Z a cs h0 n0 _ T4.heap _
  rw [e4]
  exact ⟨rfl, N0, rfl⟩
theorem d20_0 : decode jdk_42_method_154_code 0 = .ok (.getstatic 38, 3) := by decide +kernel
theorem d20_3 : decode jdk_42_method_154_code 3 = .ok (.ifCond .eq 14, 3) := by decide +kernel
theorem d20_6 : decode jdk_42_method_154_code 6 = .ok (.aload_n 0, 1) := by decide +kernel
theorem d20_7 : decode jdk_42_method_154_code 7 = .ok (.getfield 15, 3) := by decide +kernel
theorem d20_10 : decode jdk_42_method_154_code 10 = .ok (.ifCond .ne 7, 3) := by decide +kernel
theorem d20_13 : decode jdk_42_method_154_code 13 = .ok (.iconst 1, 1) := by decide +kernel
theorem d20_14 : decode jdk_42_method_154_code 14 = .ok (.goto 4, 3) := by decide +kernel
theorem d20_18 : decode jdk_42_method_154_code 18 = .ok (.ireturn, 1) := by decide +kernel
def Q_isL0 (Z : State) (a : Addr) (cs : Int32) (h0 : Heap) (n0 : Nat) (v : Option Value) (h : Heap) (L : List Loc) : Prop := v = some (.int 1) ∧ Fr n0 L ∧ h = h0
theorem rm_isL0 (l : Launch) (Z : State) (a0 : Array Value) (hw : own_HW Z a0) (ws : List Jvm.Cond) (a : Addr) (cs : Int32) (h0 : Heap) (n0 : Nat) (O0 : Old Z n0 h0) (u0 : Sta Z Z.heap "java/lang/String" "COMPACT_STRINGS" "Z" (.int cs)) (u1 : ¬ (cs = (0 : Int32))) (u2 : Fld Z h0 a "java/lang/String" "coder" "B" (.int 0)) :
    own_Met l Z m_11 jdk_42_method_154_code 1 (some .boolean) ws (own_R 0 0 0 0) #[(.ref a)] h0 (Q_isL0 Z a cs h0 n0) := by
  refine own_open (plainFor_of_name pn_0) (fun pr_ en_ st_ me_ below meth_ co_ s₁ Bd hx hby hml hown hZ X0 e0 G gv gf => ?_)
  have N0 := Fr.nil n0
  refine gv (fun _ kQ => castTop (ef_0 me_ a) kQ) ?_
  show G (s₁.setTop (mkF me_ 0 #[.val (.ref a)] []))
  obtain ⟨T5, X5, e5, st5⟩ := getS2 X0 hx hZ hown (host := "") (Or.inl (t_47 hw)) Via.refl e0 (u0.ext O0.2) (g := (mkF me_ 0 #[.val (.ref a)] [])) rfl (hb hby d20_0)
  refine gv st5 ?_
  refine gv (fun _ kQ => XS.ifNo X5.here hx rfl (hb hby d20_3) rfl ((if0 _ _).trans (feq u1).1) (XS.aloadN X5.here hx rfl (hb hby d20_6) rfl rfl kQ)) ?_
  show G (T5.setTop (mkF me_ 7 #[.val (.ref a)] [(.ref a)]))
  obtain ⟨T6, X6, e6, st6⟩ := getF X5 hx hZ hown (host := "") (Or.inl (t_32 hw)) Via.refl e5 u2 (g := (mkF me_ 7 #[.val (.ref a)] [(.ref a)])) rfl rfl (hb hby d20_7)
  refine gv st6 ?_
  refine gv (fun _ kQ => XS.ifNo X6.here hx rfl (hb hby d20_10) rfl ((if0 _ _).trans (teq (by decide : (0 : Int32) = (0 : Int32))).2) (XS.iconst X6.here hx rfl (hb hby d20_13) (XS.goto X6.here hx rfl (pc0 := 14) (pc' := 18) rfl (hb hby d20_14) (by decide) (by decide) kQ))) ?_
  refine gf _ (own_ret X6 Bd.notSynchronized (v := some (.int 1)) (own_rv Bd.returns) ?_ (by decide) (by decide) (fun fs hr => retN X6 hx (t := .boolean) Bd.returns (by simp) (hb hby d20_18) hr))
  show Q_isL0 Z a cs h0 n0 _ T6.heap _
  rw [e6]
  exact ⟨rfl, N0, rfl⟩
theorem d20_17 : decode jdk_42_method_154_code 17 = .ok (.iconst 0, 1) := by decide +kernel
def Q_isL1 (Z : State) (a : Addr) (cs : Int32) (h0 : Heap) (n0 : Nat) (v : Option Value) (h : Heap) (L : List Loc) : Prop := v = some (.int 0) ∧ Fr n0 L ∧ h = h0
theorem rm_isL1 (l : Launch) (Z : State) (a0 : Array Value) (hw : own_HW Z a0) (ws : List Jvm.Cond) (a : Addr) (cs : Int32) (h0 : Heap) (n0 : Nat) (O0 : Old Z n0 h0) (u0 : Sta Z Z.heap "java/lang/String" "COMPACT_STRINGS" "Z" (.int cs)) (u1 : ¬ (cs = (0 : Int32))) (u2 : Fld Z h0 a "java/lang/String" "coder" "B" (.int 1)) :
    own_Met l Z m_11 jdk_42_method_154_code 1 (some .boolean) ws (own_R 0 0 0 0) #[(.ref a)] h0 (Q_isL1 Z a cs h0 n0) := by
  refine own_open (plainFor_of_name pn_0) (fun pr_ en_ st_ me_ below meth_ co_ s₁ Bd hx hby hml hown hZ X0 e0 G gv gf => ?_)
  have N0 := Fr.nil n0
  refine gv (fun _ kQ => castTop (ef_0 me_ a) kQ) ?_
  show G (s₁.setTop (mkF me_ 0 #[.val (.ref a)] []))
  obtain ⟨T7, X7, e7, st7⟩ := getS2 X0 hx hZ hown (host := "") (Or.inl (t_47 hw)) Via.refl e0 (u0.ext O0.2) (g := (mkF me_ 0 #[.val (.ref a)] [])) rfl (hb hby d20_0)
  refine gv st7 ?_
  refine gv (fun _ kQ => XS.ifNo X7.here hx rfl (hb hby d20_3) rfl ((if0 _ _).trans (feq u1).1) (XS.aloadN X7.here hx rfl (hb hby d20_6) rfl rfl kQ)) ?_
  show G (T7.setTop (mkF me_ 7 #[.val (.ref a)] [(.ref a)]))
  obtain ⟨T8, X8, e8, st8⟩ := getF X7 hx hZ hown (host := "") (Or.inl (t_32 hw)) Via.refl e7 u2 (g := (mkF me_ 7 #[.val (.ref a)] [(.ref a)])) rfl rfl (hb hby d20_7)
  refine gv st8 ?_
  refine gv (fun _ kQ => XS.ifYes X8.here hx rfl (pc0 := 10) (pc' := 17) rfl (hb hby d20_10) rfl ((if0 _ _).trans (feq (by decide : ¬ ((1 : Int32) = (0 : Int32)))).2) (by decide) (by decide) (XS.iconst X8.here hx rfl (hb hby d20_17) kQ)) ?_
  refine gf _ (own_ret X8 Bd.notSynchronized (v := some (.int 0)) (own_rv Bd.returns) ?_ (by decide) (by decide) (fun fs hr => retN X8 hx (t := .boolean) Bd.returns (by simp) (hb hby d20_18) hr))
  show Q_isL1 Z a cs h0 n0 _ T8.heap _
  rw [e8]
  exact ⟨rfl, N0, rfl⟩
theorem ef_1 (m : MethodId) (x0 : Int32) (x1 : Int32) (x2 : Value) (hc2 : x2.isRef = true) : entryFrame m #[(.int x0), (.int x1), x2] 3 = mkF m 0 #[.val (.int x0), .val (.int x1), .val x2] [] := by rcases ref_cases hc2 with rfl | ⟨y2, rfl⟩ <;> first | (simp [entryFrame, mkF, argsToLocals, Value.category]; done) | rfl
theorem pn_1 : plainName "jdk/internal/util/Preconditions" = true := by first | (simp [plainName, overriddenIn]; done) | decide +kernel
theorem d25_0 : decode jdk_41_method_11_code 0 = .ok (.iload_n 0, 1) := by decide +kernel
theorem d25_1 : decode jdk_41_method_11_code 1 = .ok (.ifCond .lt 8, 3) := by decide +kernel
theorem d25_4 : decode jdk_41_method_11_code 4 = .ok (.iload_n 0, 1) := by decide +kernel
theorem d25_5 : decode jdk_41_method_11_code 5 = .ok (.iload_n 1, 1) := by decide +kernel
theorem d25_6 : decode jdk_41_method_11_code 6 = .ok (.if_icmp .lt 10, 3) := by decide +kernel
theorem d25_16 : decode jdk_41_method_11_code 16 = .ok (.iload_n 0, 1) := by decide +kernel
theorem d25_17 : decode jdk_41_method_11_code 17 = .ok (.ireturn, 1) := by decide +kernel
def Q_pci (Z : State) (i_ n_ : Int32) (fmt : Value) (h0 : Heap) (n0 : Nat) (v : Option Value) (h : Heap) (L : List Loc) : Prop := v = some (.int i_) ∧ Fr n0 L ∧ h = h0
theorem rm_pci (l : Launch) (Z : State) (a0 : Array Value) (hw : own_HW Z a0) (ws : List Jvm.Cond) (i_ n_ : Int32) (fmt : Value) (h0 : Heap) (n0 : Nat) (O0 : Old Z n0 h0) (u0 : fmt.isRef = true) (u1 : ¬ (i_ < (0 : Int32))) (u2 : i_ < n_) :
    own_Met l Z m_25 jdk_41_method_11_code 3 (some .int) ws (own_R 0 0 0 0) #[(.int i_), (.int n_), fmt] h0 (Q_pci Z i_ n_ fmt h0 n0) := by
  refine own_open (plainFor_of_name pn_1) (fun pr_ en_ st_ me_ below meth_ co_ s₁ Bd hx hby hml hown hZ X0 e0 G gv gf => ?_)
  have N0 := Fr.nil n0
  refine gv (fun _ kQ => castTop (ef_1 me_ i_ n_ fmt u0) kQ) ?_
  show G (s₁.setTop (mkF me_ 0 #[.val (.int i_), .val (.int n_), .val fmt] []))
  refine gv (fun _ kQ => XS.iloadN X0.here hx rfl (hb hby d25_0) rfl (XS.ifNo X0.here hx rfl (hb hby d25_1) rfl ((if0 _ _).trans (flt u1).1) (XS.iloadN X0.here hx rfl (hb hby d25_4) rfl (XS.iloadN X0.here hx rfl (hb hby d25_5) rfl (XS.icmpYes X0.here hx rfl (pc0 := 6) (pc' := 16) rfl (hb hby d25_6) rfl (tlt u2).1 (by decide) (by decide) (XS.iloadN X0.here hx rfl (hb hby d25_16) rfl kQ)))))) ?_
  refine gf _ (own_ret X0 Bd.notSynchronized (v := some (.int i_)) (own_rv Bd.returns) ?_ (by decide) (by decide) (fun fs hr => retOut X0 hx (t := .int) Bd.returns rfl (Or.inl ⟨rfl, Or.inl rfl, _, rfl⟩) (hb hby d25_17) hr))
  show Q_pci Z i_ n_ fmt h0 n0 _ s₁.heap _
  rw [e0]
  exact ⟨rfl, N0, rfl⟩
theorem ef_2 (m : MethodId) (x0 : Int32) (x1 : Int32)  : entryFrame m #[(.int x0), (.int x1)] 2 = mkF m 0 #[.val (.int x0), .val (.int x1)] [] := by first | (simp [entryFrame, mkF, argsToLocals, Value.category]; done) | rfl
theorem d24_0 : decode jdk_42_method_155_code 0 = .ok (.iload_n 0, 1) := by decide +kernel
theorem d24_1 : decode jdk_42_method_155_code 1 = .ok (.iload_n 1, 1) := by decide +kernel
theorem d24_2 : decode jdk_42_method_155_code 2 = .ok (.getstatic 1053, 3) := by decide +kernel
theorem d24_5 : decode jdk_42_method_155_code 5 = .ok (.invokestatic 1059, 3) := by decide +kernel
theorem pd_0 : parseMethodDescriptor "(IILjava/util/function/BiFunction;)I" = some ⟨[.int, .int, (.object "java/util/function/BiFunction")], some .int⟩ := by decide +kernel
theorem d24_8 : decode jdk_42_method_155_code 8 = .ok (.pop, 1) := by decide +kernel
theorem d24_9 : decode jdk_42_method_155_code 9 = .ok (.return_, 1) := by decide +kernel
def Q_scx (Z : State) (i_ n_ : Int32) (fmt : Value) (h0 : Heap) (n0 : Nat) (v : Option Value) (h : Heap) (L : List Loc) : Prop := v = none ∧ Fr n0 L ∧ h = h0
theorem rm_scx (l : Launch) (Z : State) (a0 : Array Value) (hw : own_HW Z a0) (ws : List Jvm.Cond) (i_ n_ : Int32) (fmt : Value) (h0 : Heap) (n0 : Nat) (O0 : Old Z n0 h0) (u0 : fmt.isRef = true) (u1 : Sta Z Z.heap "jdk/internal/util/Preconditions" "SIOOBE_FORMATTER" "Ljava/util/function/BiFunction;" fmt) (u2 : ¬ (i_ < (0 : Int32))) (u3 : i_ < n_) :
    own_Met l Z m_9 jdk_42_method_155_code 2 none ws (own_R 1 0 0 14) #[(.int i_), (.int n_)] h0 (Q_scx Z i_ n_ fmt h0 n0) := by
  refine own_open (plainFor_of_name pn_0) (fun pr_ en_ st_ me_ below meth_ co_ s₁ Bd hx hby hml hown hZ X0 e0 G gv gf => ?_)
  have N0 := Fr.nil n0
  refine gv (fun _ kQ => castTop (ef_2 me_ i_ n_) kQ) ?_
  show G (s₁.setTop (mkF me_ 0 #[.val (.int i_), .val (.int n_)] []))
  refine gv (fun _ kQ => XS.iloadN X0.here hx rfl (hb hby d24_0) rfl (XS.iloadN X0.here hx rfl (hb hby d24_1) rfl kQ)) ?_
  obtain ⟨T9, X9, e9, st9⟩ := getS2 X0 hx hZ hown (host := "") (Or.inl (t_102 hw)) Via.refl e0 (u1.ext O0.2) (g := (mkF me_ 2 #[.val (.int i_), .val (.int n_)] [(.int n_), (.int i_)])) rfl (hb hby d24_2)
  refine gv st9 ?_
  obtain ⟨_, _, ⟨T10, L10, k10, n10⟩, -, X10, ⟨Lc10, hQ10, l10, y10, z10⟩, st10⟩ := Jvm.LawKit.callS X9 hx (y := m_25) hown (mvT hZ (t_104 hw)) (mvT hZ (t_105 hw)) (mvT hZ (t_103 hw)) (mvT hZ (t_106 hw)) (by decide) (backOf (W := 0) (rm_pci l Z a0 hw [] i_ n_ fmt h0 n0 O0 u0 u2 u3) hZ (t_106 hw) (t_103 hw) (by decide) (by decide)) (g := (mkF me_ 5 #[.val (.int i_), .val (.int n_)] [fmt, (.int n_), (.int i_)])) rfl (by rw [hml]; rfl) (argsL := [(.int i_), (.int n_), fmt]) (rest := []) (lenOf pd_0 rfl) rfl (by show 2 * 0 + _ ≤ _; exact Nat.le_of_eq rfl) (hb hby d24_5) (fun _ _ => ⟨rfl, e9, (by decide : 0 + 0 ≤ _), (by decide : 0 + 0 ≤ _)⟩)
  dsimp only [Pt.U, Pt.locs, Pt.cells, Pt.slots] at X10 l10 y10 z10 st10 hQ10
  subst l10 y10 z10
  obtain ⟨rfl, Nq10, eq10⟩ := hQ10
  have N11 := Fr.app N0 Nq10
  refine gv st10 ?_
  refine gv (fun _ kQ => XS.pop X10.here hx rfl (hb hby d24_8) rfl rfl kQ) ?_
  refine gf _ (own_ret X10 Bd.notSynchronized (v := none) (fun _ => rfl) ?_ (by decide) (by decide) (fun fs hr => X10.returnOut hx Bd.returns (hb hby d24_9) hr))
  show Q_scx Z i_ n_ fmt h0 n0 _ T10.heap _
  rw [eq10]
  exact ⟨rfl, N11, rfl⟩
theorem pn_2 : plainName "java/lang/StringUTF16" = true := by first | (simp [plainName, overriddenIn]; done) | decide +kernel
theorem d23_0 : decode jdk_52_method_6_code 0 = .ok (.aload_n 0, 1) := by decide +kernel
theorem d23_1 : decode jdk_52_method_6_code 1 = .ok (.arraylength, 1) := by decide +kernel
theorem d23_2 : decode jdk_52_method_6_code 2 = .ok (.iconst 1, 1) := by decide +kernel
theorem d23_3 : decode jdk_52_method_6_code 3 = .ok (.ishr, 1) := by decide +kernel
theorem d23_4 : decode jdk_52_method_6_code 4 = .ok (.ireturn, 1) := by decide +kernel
def Q_ulen1 (Z : State) (b : Addr) (k : ClassId) (x0 x1 : Int32) (h0 : Heap) (n0 : Nat) (v : Option Value) (h : Heap) (L : List Loc) : Prop := v = some (.int 1) ∧ Fr n0 L ∧ h = h0
theorem rm_ulen1 (l : Launch) (Z : State) (a0 : Array Value) (hw : own_HW Z a0) (ws : List Jvm.Cond) (b : Addr) (k : ClassId) (x0 x1 : Int32) (h0 : Heap) (n0 : Nat) (O0 : Old Z n0 h0) (u0 : Arv Z h0 b k .byte (2 : Int32) [(.int x0), (.int x1)] (.int 0)) :
    own_Met l Z m_20 jdk_52_method_6_code 1 (some .int) ws (own_R 0 0 0 0) #[(.ref b)] h0 (Q_ulen1 Z b k x0 x1 h0 n0) := by
  refine own_open (plainFor_of_name pn_2) (fun pr_ en_ st_ me_ below meth_ co_ s₁ Bd hx hby hml hown hZ X0 e0 G gv gf => ?_)
  have N0 := Fr.nil n0
  refine gv (fun _ kQ => castTop (ef_0 me_ b) kQ) ?_
  show G (s₁.setTop (mkF me_ 0 #[.val (.ref b)] []))
  refine gv (fun _ kQ => XS.aloadN X0.here hx rfl (hb hby d23_0) rfl rfl kQ) ?_
  obtain ⟨cl12, Ar12, -, S12, n12, -, -⟩ := (id u0)
  refine gv (X0.arraylength hx (by rw [e0]; exact Ar12.1) (State.isArrayOf_alike hZ.alike Ar12.2.1) (g := (mkF me_ 1 #[.val (.ref b)] [(.ref b)])) rfl rfl (hb hby d23_1)) ?_
  rw [len_of S12 n12]
  refine gv (fun _ kQ => XS.iconst X0.here hx rfl (hb hby d23_2) (XS.ishr X0.here hx rfl (hb hby d23_3) rfl kQ)) ?_
  show G (s₁.setTop (mkF me_ 4 #[.val (.ref b)] [(.int ((2 : Int32) >>> ((1 : Int32) &&& 31)))]))
  rw [(by decide : ((2 : Int32) >>> ((1 : Int32) &&& 31)) = (1 : Int32))]
  refine gf _ (own_ret X0 Bd.notSynchronized (v := some (.int 1)) (own_rv Bd.returns) ?_ (by decide) (by decide) (fun fs hr => retOut X0 hx (t := .int) Bd.returns rfl (Or.inl ⟨rfl, Or.inl rfl, _, rfl⟩) (hb hby d23_4) hr))
  show Q_ulen1 Z b k x0 x1 h0 n0 _ s₁.heap _
  rw [e0]
  exact ⟨rfl, N0, rfl⟩
theorem ef_3 (m : MethodId) (x0 : Int32) (x1 : Addr)  : entryFrame m #[(.int x0), (.ref x1)] 2 = mkF m 0 #[.val (.int x0), .val (.ref x1)] [] := by first | (simp [entryFrame, mkF, argsToLocals, Value.category]; done) | rfl
theorem d22_0 : decode jdk_52_method_91_code 0 = .ok (.iload_n 0, 1) := by decide +kernel
theorem d22_1 : decode jdk_52_method_91_code 1 = .ok (.aload_n 1, 1) := by decide +kernel
theorem d22_2 : decode jdk_52_method_91_code 2 = .ok (.invokestatic 48, 3) := by decide +kernel
theorem pd_1 : parseMethodDescriptor "([B)I" = some ⟨[(.array .byte)], some .int⟩ := by decide +kernel
theorem d22_5 : decode jdk_52_method_91_code 5 = .ok (.invokestatic 414, 3) := by decide +kernel
theorem pd_2 : parseMethodDescriptor "(II)V" = some ⟨[.int, .int], none⟩ := by decide +kernel
theorem d22_8 : decode jdk_52_method_91_code 8 = .ok (.return_, 1) := by decide +kernel
def Q_uci1 (Z : State) (i_ : Int32) (b : Addr) (k : ClassId) (x0 x1 : Int32) (fmt : Value) (h0 : Heap) (n0 : Nat) (v : Option Value) (h : Heap) (L : List Loc) : Prop := v = none ∧ Fr n0 L ∧ h = h0
theorem rm_uci1 (l : Launch) (Z : State) (a0 : Array Value) (hw : own_HW Z a0) (ws : List Jvm.Cond) (i_ : Int32) (b : Addr) (k : ClassId) (x0 x1 : Int32) (fmt : Value) (h0 : Heap) (n0 : Nat) (O0 : Old Z n0 h0) (u0 : fmt.isRef = true) (u1 : Sta Z Z.heap "jdk/internal/util/Preconditions" "SIOOBE_FORMATTER" "Ljava/util/function/BiFunction;" fmt) (u2 : ¬ (i_ < (0 : Int32))) (u3 : i_ < (1 : Int32)) (u4 : Arv Z h0 b k .byte (2 : Int32) [(.int x0), (.int x1)] (.int 0)) :
    own_Met l Z m_15 jdk_52_method_91_code 2 none ws (own_R 2 0 0 27) #[(.int i_), (.ref b)] h0 (Q_uci1 Z i_ b k x0 x1 fmt h0 n0) := by
  refine own_open (plainFor_of_name pn_2) (fun pr_ en_ st_ me_ below meth_ co_ s₁ Bd hx hby hml hown hZ X0 e0 G gv gf => ?_)
  have N0 := Fr.nil n0
  refine gv (fun _ kQ => castTop (ef_3 me_ i_ b) kQ) ?_
  show G (s₁.setTop (mkF me_ 0 #[.val (.int i_), .val (.ref b)] []))
  refine gv (fun _ kQ => XS.iloadN X0.here hx rfl (hb hby d22_0) rfl (XS.aloadN X0.here hx rfl (hb hby d22_1) rfl rfl kQ)) ?_
  obtain ⟨_, _, ⟨T13, L13, k13, n13⟩, -, X13, ⟨Lc13, hQ13, l13, y13, z13⟩, st13⟩ := Jvm.LawKit.callS X0 hx (y := m_20) hown (mvT hZ (t_96 hw)) (mvT hZ (t_97 hw)) (mvT hZ (t_50 hw)) (mvT hZ (t_98 hw)) (by decide) (backOf (W := 1) (rm_ulen1 l Z a0 hw [] b k x0 x1 h0 n0 O0 u4) hZ (t_98 hw) (t_50 hw) (by decide) (by decide)) (g := (mkF me_ 2 #[.val (.int i_), .val (.ref b)] [(.ref b), (.int i_)])) rfl (by rw [hml]; rfl) (argsL := [(.ref b)]) (rest := [(.int i_)]) (lenOf pd_1 rfl) rfl (by show 2 * 0 + _ ≤ _; exact Nat.le_of_eq rfl) (hb hby d22_2) (fun _ _ => ⟨rfl, e0, (by decide : 0 + 0 ≤ _), (by decide : 0 + 0 ≤ _)⟩)
  dsimp only [Pt.U, Pt.locs, Pt.cells, Pt.slots] at X13 l13 y13 z13 st13 hQ13
  subst l13 y13 z13
  obtain ⟨rfl, Nq13, eq13⟩ := hQ13
  have N14 := Fr.app N0 Nq13
  refine gv st13 ?_
  obtain ⟨_, _, ⟨T15, L15, k15, n15⟩, -, X15, ⟨Lc15, hQ15, l15, y15, z15⟩, st15⟩ := Jvm.LawKit.callS X13 hx (y := m_9) hown (mvT hZ (t_99 hw)) (mvT hZ (t_100 hw)) (mvT hZ (t_13 hw)) (mvT hZ (t_101 hw)) (by decide) (backOf (W := 0) (rm_scx l Z a0 hw [] i_ (1 : Int32) fmt h0 n0 O0 u0 u1 u2 u3) hZ (t_101 hw) (t_13 hw) (by decide) (by decide)) (g := (mkF me_ 5 #[.val (.int i_), .val (.ref b)] [(.int 1), (.int i_)])) rfl (by rw [hml]; rfl) (argsL := [(.int i_), (.int 1)]) (rest := []) (lenOf pd_2 rfl) rfl (by show 2 * 0 + _ ≤ _; exact Nat.le_of_eq rfl) (hb hby d22_5) (fun _ _ => ⟨rfl, eq13, (by decide : 0 + 0 ≤ _), (by decide : 0 + 0 ≤ _)⟩)
  dsimp only [Pt.U, Pt.locs, Pt.cells, Pt.slots] at X15 l15 y15 z15 st15 hQ15
  subst l15 y15 z15
  obtain ⟨rfl, Nq15, eq15⟩ := hQ15
  have N16 := Fr.app N14 Nq15
  refine gv st15 ?_
  refine gf _ (own_ret X15 Bd.notSynchronized (v := none) (fun _ => rfl) ?_ (by decide) (by decide) (fun fs hr => X15.returnOut hx Bd.returns (hb hby d22_8) hr))
  show Q_uci1 Z i_ b k x0 x1 fmt h0 n0 _ T15.heap _
  rw [eq15]
  exact ⟨rfl, N16, rfl⟩
theorem ef_4 (m : MethodId) (x0 : Addr) (x1 : Int32)  : entryFrame m #[(.ref x0), (.int x1)] 2 = mkF m 0 #[.val (.ref x0), .val (.int x1)] [] := by first | (simp [entryFrame, mkF, argsToLocals, Value.category]; done) | rfl
theorem pn_3 : plainName "java/lang/StringLatin1" = true := by first | (simp [plainName, overriddenIn]; done) | decide +kernel
theorem d26_0 : decode jdk_43_method_2_code 0 = .ok (.iload_n 1, 1) := by decide +kernel
theorem d26_1 : decode jdk_43_method_2_code 1 = .ok (.aload_n 0, 1) := by decide +kernel
theorem d26_2 : decode jdk_43_method_2_code 2 = .ok (.arraylength, 1) := by decide +kernel
theorem d26_3 : decode jdk_43_method_2_code 3 = .ok (.invokestatic 9, 3) := by decide +kernel
theorem d26_6 : decode jdk_43_method_2_code 6 = .ok (.aload_n 0, 1) := by decide +kernel
theorem d26_7 : decode jdk_43_method_2_code 7 = .ok (.iload_n 1, 1) := by decide +kernel
theorem d26_8 : decode jdk_43_method_2_code 8 = .ok (.baload, 1) := by decide +kernel
theorem d26_9 : decode jdk_43_method_2_code 9 = .ok (.sipush 255, 3) := by decide +kernel
theorem d26_12 : decode jdk_43_method_2_code 12 = .ok (.iand, 1) := by decide +kernel
theorem d26_13 : decode jdk_43_method_2_code 13 = .ok (.i2c, 1) := by decide +kernel
theorem d26_14 : decode jdk_43_method_2_code 14 = .ok (.ireturn, 1) := by decide +kernel
def Q_l1at1_0 (Z : State) (b : Addr) (k : ClassId) (x0 : Int32) (fmt : Value) (h0 : Heap) (n0 : Nat) (v : Option Value) (h : Heap) (L : List Loc) : Prop := v = some (.int ((x0 &&& (255 : Int32)).toUInt32.toUInt16.toUInt32.toInt32)) ∧ Fr n0 L ∧ h = h0
theorem rm_l1at1_0 (l : Launch) (Z : State) (a0 : Array Value) (hw : own_HW Z a0) (ws : List Jvm.Cond) (b : Addr) (k : ClassId) (x0 : Int32) (fmt : Value) (h0 : Heap) (n0 : Nat) (O0 : Old Z n0 h0) (u0 : fmt.isRef = true) (u1 : Sta Z Z.heap "jdk/internal/util/Preconditions" "SIOOBE_FORMATTER" "Ljava/util/function/BiFunction;" fmt) (u2 : Arv Z h0 b k .byte (1 : Int32) [(.int x0)] (.int 0)) :
    own_Met l Z m_13 jdk_43_method_2_code 2 (some .char) ws (own_R 2 0 0 27) #[(.ref b), (.int 0)] h0 (Q_l1at1_0 Z b k x0 fmt h0 n0) := by
  refine own_open (plainFor_of_name pn_3) (fun pr_ en_ st_ me_ below meth_ co_ s₁ Bd hx hby hml hown hZ X0 e0 G gv gf => ?_)
  have N0 := Fr.nil n0
  refine gv (fun _ kQ => castTop (ef_4 me_ b (0 : Int32)) kQ) ?_
  show G (s₁.setTop (mkF me_ 0 #[.val (.ref b), .val (.int 0)] []))
  refine gv (fun _ kQ => XS.iloadN X0.here hx rfl (hb hby d26_0) rfl (XS.aloadN X0.here hx rfl (hb hby d26_1) rfl rfl kQ)) ?_
  obtain ⟨cl17, Ar17, -, S17, n17, -, -⟩ := (id u2)
  refine gv (X0.arraylength hx (by rw [e0]; exact Ar17.1) (State.isArrayOf_alike hZ.alike Ar17.2.1) (g := (mkF me_ 2 #[.val (.ref b), .val (.int 0)] [(.ref b), (.int 0)])) rfl rfl (hb hby d26_2)) ?_
  rw [len_of S17 n17]
  obtain ⟨_, _, ⟨T18, L18, k18, n18⟩, -, X18, ⟨Lc18, hQ18, l18, y18, z18⟩, st18⟩ := Jvm.LawKit.callS X0 hx (y := m_9) hown (mvT hZ (t_111 hw)) (mvT hZ (t_100 hw)) (mvT hZ (t_13 hw)) (mvT hZ (t_101 hw)) (by decide) (backOf (W := 0) (rm_scx l Z a0 hw [] (0 : Int32) (1 : Int32) fmt h0 n0 O0 u0 u1 (by decide) (by decide)) hZ (t_101 hw) (t_13 hw) (by decide) (by decide)) (g := (mkF me_ 3 #[.val (.ref b), .val (.int 0)] [(.int 1), (.int 0)])) rfl (by rw [hml]; rfl) (argsL := [(.int 0), (.int 1)]) (rest := []) (lenOf pd_2 rfl) rfl (by show 2 * 0 + _ ≤ _; exact Nat.le_of_eq rfl) (hb hby d26_3) (fun _ _ => ⟨rfl, e0, (by decide : 0 + 0 ≤ _), (by decide : 0 + 0 ≤ _)⟩)
  dsimp only [Pt.U, Pt.locs, Pt.cells, Pt.slots] at X18 l18 y18 z18 st18 hQ18
  subst l18 y18 z18
  obtain ⟨rfl, Nq18, eq18⟩ := hQ18
  have N19 := Fr.app N0 Nq18
  refine gv st18 ?_
  refine gv (fun _ kQ => XS.aloadN X18.here hx rfl (hb hby d26_6) rfl rfl (XS.iloadN X18.here hx rfl (hb hby d26_7) rfl kQ)) ?_
  show G (T18.setTop (mkF me_ 8 #[.val (.ref b), .val (.int 0)] [(.int 0), (.ref b)]))
  obtain ⟨cl20, Ar20, q20, S20, n20, H20, G20⟩ := (id u2)
  have in20 : ¬ ((0 : Int32) < 0 ∨ cl20.slots.size ≤ ((0 : Int32)).toNatClampNeg) := inb_of S20 ⟨by decide, by decide⟩
  refine gv (X18.baloadBytes hx (j := (0 : Int32)) (v := (.int x0)) (by rw [eq18]; exact Ar20.1) (State.isArrayOf_alike hZ.alike Ar20.2.1) Ar20.2.2 in20 (Has.at H20 in20 rfl) (g := (mkF me_ 8 #[.val (.ref b), .val (.int 0)] [(.int 0), (.ref b)])) rfl rfl (hb hby d26_8)) ?_
  show G (T18.setTop (mkF me_ 9 #[.val (.ref b), .val (.int 0)] [(.int x0)]))
  refine gv (fun _ kQ => XS.sipush X18.here hx rfl (hb hby d26_9) (XS.iand X18.here hx rfl (hb hby d26_12) rfl (XS.i2c X18.here hx rfl (hb hby d26_13) rfl kQ))) ?_
  refine gf _ (own_ret X18 Bd.notSynchronized (v := some (.int ((x0 &&& (255 : Int32)).toUInt32.toUInt16.toUInt32.toInt32))) (own_rv Bd.returns) ?_ (by decide) (by decide) (fun fs hr => retN X18 hx (t := .char) Bd.returns (by simp) (hb hby d26_14) (by rw [(own_narC _)]; exact hr)))
  show Q_l1at1_0 Z b k x0 fmt h0 n0 _ T18.heap _
  rw [eq18]
  exact ⟨rfl, N19, rfl⟩
theorem d17_0 : decode jdk_52_method_5_code 0 = .ok (.getstatic 44, 3) := by decide +kernel
theorem d17_3 : decode jdk_52_method_5_code 3 = .ok (.ifCond .ne 25, 3) := by decide +kernel
theorem d17_28 : decode jdk_52_method_5_code 28 = .ok (.iload_n 1, 1) := by decide +kernel
theorem d17_29 : decode jdk_52_method_5_code 29 = .ok (.iconst 1, 1) := by decide +kernel
theorem d17_30 : decode jdk_52_method_5_code 30 = .ok (.ishl, 1) := by decide +kernel
theorem d17_31 : decode jdk_52_method_5_code 31 = .ok (.istore_n 1, 1) := by decide +kernel
theorem d17_32 : decode jdk_52_method_5_code 32 = .ok (.aload_n 0, 1) := by decide +kernel
theorem d17_33 : decode jdk_52_method_5_code 33 = .ok (.iload_n 1, 1) := by decide +kernel
theorem d17_34 : decode jdk_52_method_5_code 34 = .ok (.iinc 1 1, 3) := by decide +kernel
theorem d17_37 : decode jdk_52_method_5_code 37 = .ok (.baload, 1) := by decide +kernel
theorem d17_38 : decode jdk_52_method_5_code 38 = .ok (.sipush 255, 3) := by decide +kernel
theorem d17_41 : decode jdk_52_method_5_code 41 = .ok (.iand, 1) := by decide +kernel
theorem d17_42 : decode jdk_52_method_5_code 42 = .ok (.getstatic 59, 3) := by decide +kernel
theorem d17_45 : decode jdk_52_method_5_code 45 = .ok (.ishl, 1) := by decide +kernel
theorem d17_46 : decode jdk_52_method_5_code 46 = .ok (.aload_n 0, 1) := by decide +kernel
theorem d17_47 : decode jdk_52_method_5_code 47 = .ok (.iload_n 1, 1) := by decide +kernel
theorem d17_48 : decode jdk_52_method_5_code 48 = .ok (.baload, 1) := by decide +kernel
theorem d17_49 : decode jdk_52_method_5_code 49 = .ok (.sipush 255, 3) := by decide +kernel
theorem d17_52 : decode jdk_52_method_5_code 52 = .ok (.iand, 1) := by decide +kernel
theorem d17_53 : decode jdk_52_method_5_code 53 = .ok (.getstatic 63, 3) := by decide +kernel
theorem d17_56 : decode jdk_52_method_5_code 56 = .ok (.ishl, 1) := by decide +kernel
theorem d17_57 : decode jdk_52_method_5_code 57 = .ok (.ior, 1) := by decide +kernel
theorem d17_58 : decode jdk_52_method_5_code 58 = .ok (.i2c, 1) := by decide +kernel
theorem d17_59 : decode jdk_52_method_5_code 59 = .ok (.ireturn, 1) := by decide +kernel
def Q_getc1_0 (Z : State) (b : Addr) (k : ClassId) (x0 x1 : Int32) (h0 : Heap) (n0 : Nat) (v : Option Value) (h : Heap) (L : List Loc) : Prop := v = some (.int (own_gc x0 x1)) ∧ Fr n0 L ∧ h = h0
theorem rm_getc1_0 (l : Launch) (Z : State) (a0 : Array Value) (hw : own_HW Z a0) (ws : List Jvm.Cond) (b : Addr) (k : ClassId) (x0 x1 : Int32) (h0 : Heap) (n0 : Nat) (O0 : Old Z n0 h0) (u0 : Sta Z Z.heap "java/lang/StringUTF16" "$assertionsDisabled" "Z" (.int 1)) (u1 : Sta Z Z.heap "java/lang/StringUTF16" "HI_BYTE_SHIFT" "I" (.int 0)) (u2 : Sta Z Z.heap "java/lang/StringUTF16" "LO_BYTE_SHIFT" "I" (.int 8)) (u3 : Arv Z h0 b k .byte (2 : Int32) [(.int x0), (.int x1)] (.int 0)) :
    own_Met l Z m_19 jdk_52_method_5_code 2 (some .char) ws (own_R 0 0 0 0) #[(.ref b), (.int 0)] h0 (Q_getc1_0 Z b k x0 x1 h0 n0) := by
  refine own_open (plainFor_of_name pn_2) (fun pr_ en_ st_ me_ below meth_ co_ s₁ Bd hx hby hml hown hZ X0 e0 G gv gf => ?_)
  have N0 := Fr.nil n0
  refine gv (fun _ kQ => castTop (ef_4 me_ b (0 : Int32)) kQ) ?_
  show G (s₁.setTop (mkF me_ 0 #[.val (.ref b), .val (.int 0)] []))
  obtain ⟨T21, X21, e21, st21⟩ := getS2 X0 hx hZ hown (host := "") (Or.inl (t_71 hw)) Via.refl e0 (u0.ext O0.2) (g := (mkF me_ 0 #[.val (.ref b), .val (.int 0)] [])) rfl (hb hby d17_0)
  refine gv st21 ?_
  refine gv (fun _ kQ => XS.ifYes X21.here hx rfl (pc0 := 3) (pc' := 28) rfl (hb hby d17_3) rfl ((if0 _ _).trans (feq (by decide : ¬ ((1 : Int32) = (0 : Int32)))).2) (by decide) (by decide) (XS.iloadN X21.here hx rfl (hb hby d17_28) rfl (XS.iconst X21.here hx rfl (hb hby d17_29) (XS.ishl X21.here hx rfl (hb hby d17_30) rfl kQ)))) ?_
  show G (T21.setTop (mkF me_ 31 #[.val (.ref b), .val (.int 0)] [(.int ((0 : Int32) <<< ((1 : Int32) &&& 31)))]))
  rw [(by decide : ((0 : Int32) <<< ((1 : Int32) &&& 31)) = (0 : Int32))]
  refine gv (fun _ kQ => XS.istoreN X21.here hx rfl (hb hby d17_31) rfl (l' := #[.val (.ref b), .val (.int 0)]) rfl (XS.aloadN X21.here hx rfl (hb hby d17_32) rfl rfl (XS.iloadN X21.here hx rfl (hb hby d17_33) rfl (XS.iinc X21.here hx rfl (hb hby d17_34) rfl (l' := #[.val (.ref b), .val (.int ((0 : Int32) + (1 : Int32)))]) rfl kQ)))) ?_
  show G (T21.setTop (mkF me_ 37 #[.val (.ref b), .val (.int ((0 : Int32) + (1 : Int32)))] [(.int 0), (.ref b)]))
  rw [(by decide : ((0 : Int32) + (1 : Int32)) = (1 : Int32))]
  obtain ⟨cl22, Ar22, q22, S22, n22, H22, G22⟩ := (id u3)
  have in22 : ¬ ((0 : Int32) < 0 ∨ cl22.slots.size ≤ ((0 : Int32)).toNatClampNeg) := inb_of S22 ⟨by decide, by decide⟩
  refine gv (X21.baloadBytes hx (j := (0 : Int32)) (v := (.int x0)) (by rw [e21]; exact Ar22.1) (State.isArrayOf_alike hZ.alike Ar22.2.1) Ar22.2.2 in22 (Has.at H22 in22 rfl) (g := (mkF me_ 37 #[.val (.ref b), .val (.int 1)] [(.int 0), (.ref b)])) rfl rfl (hb hby d17_37)) ?_
  show G (T21.setTop (mkF me_ 38 #[.val (.ref b), .val (.int 1)] [(.int x0)]))
  refine gv (fun _ kQ => XS.sipush X21.here hx rfl (hb hby d17_38) (XS.iand X21.here hx rfl (hb hby d17_41) rfl kQ)) ?_
  obtain ⟨T23, X23, e23, st23⟩ := getS2 X21 hx hZ hown (host := "") (Or.inl (t_72 hw)) Via.refl e21 (u1.ext O0.2) (g := (mkF me_ 42 #[.val (.ref b), .val (.int 1)] [(.int (x0 &&& (255 : Int32)))])) rfl (hb hby d17_42)
  refine gv st23 ?_
  refine gv (fun _ kQ => XS.ishl X23.here hx rfl (hb hby d17_45) rfl (XS.aloadN X23.here hx rfl (hb hby d17_46) rfl rfl (XS.iloadN X23.here hx rfl (hb hby d17_47) rfl kQ))) ?_
  show G (T23.setTop (mkF me_ 48 #[.val (.ref b), .val (.int 1)] [(.int 1), (.ref b), (.int ((x0 &&& (255 : Int32)) <<< ((0 : Int32) &&& 31)))]))
  obtain ⟨cl24, Ar24, q24, S24, n24, H24, G24⟩ := (id u3)
  have in24 : ¬ ((1 : Int32) < 0 ∨ cl24.slots.size ≤ ((1 : Int32)).toNatClampNeg) := inb_of S24 ⟨by decide, by decide⟩
  refine gv (X23.baloadBytes hx (j := (1 : Int32)) (v := (.int x1)) (by rw [e23]; exact Ar24.1) (State.isArrayOf_alike hZ.alike Ar24.2.1) Ar24.2.2 in24 (Has.at H24 in24 rfl) (g := (mkF me_ 48 #[.val (.ref b), .val (.int 1)] [(.int 1), (.ref b), (.int ((x0 &&& (255 : Int32)) <<< ((0 : Int32) &&& 31)))])) rfl rfl (hb hby d17_48)) ?_
  show G (T23.setTop (mkF me_ 49 #[.val (.ref b), .val (.int 1)] [(.int x1), (.int ((x0 &&& (255 : Int32)) <<< ((0 : Int32) &&& 31)))]))
  refine gv (fun _ kQ => XS.sipush X23.here hx rfl (hb hby d17_49) (XS.iand X23.here hx rfl (hb hby d17_52) rfl kQ)) ?_
  obtain ⟨T25, X25, e25, st25⟩ := getS2 X23 hx hZ hown (host := "") (Or.inl (t_73 hw)) Via.refl e23 (u2.ext O0.2) (g := (mkF me_ 53 #[.val (.ref b), .val (.int 1)] [(.int (x1 &&& (255 : Int32))), (.int ((x0 &&& (255 : Int32)) <<< ((0 : Int32) &&& 31)))])) rfl (hb hby d17_53)
  refine gv st25 ?_
  refine gv (fun _ kQ => XS.ishl X25.here hx rfl (hb hby d17_56) rfl (XS.ior X25.here hx rfl (hb hby d17_57) rfl (XS.i2c X25.here hx rfl (hb hby d17_58) rfl kQ))) ?_
  refine gf _ (own_ret X25 Bd.notSynchronized (v := some (.int ((((x0 &&& (255 : Int32)) <<< ((0 : Int32) &&& 31)) ||| ((x1 &&& (255 : Int32)) <<< ((8 : Int32) &&& 31))).toUInt32.toUInt16.toUInt32.toInt32))) (own_rv Bd.returns) ?_ (by decide) (by decide) (fun fs hr => retN X25 hx (t := .char) Bd.returns (by simp) (hb hby d17_59) (by rw [(own_narC _)]; exact hr)))
  show Q_getc1_0 Z b k x0 x1 h0 n0 _ T25.heap _
  rw [e25]
  exact ⟨rfl, N0, rfl⟩
theorem d21_0 : decode jdk_52_method_83_code 0 = .ok (.iload_n 1, 1) := by decide +kernel
theorem d21_1 : decode jdk_52_method_83_code 1 = .ok (.aload_n 0, 1) := by decide +kernel
theorem d21_2 : decode jdk_52_method_83_code 2 = .ok (.invokestatic 67, 3) := by decide +kernel
theorem pd_3 : parseMethodDescriptor "(I[B)V" = some ⟨[.int, (.array .byte)], none⟩ := by decide +kernel
theorem d21_5 : decode jdk_52_method_83_code 5 = .ok (.aload_n 0, 1) := by decide +kernel
theorem d21_6 : decode jdk_52_method_83_code 6 = .ok (.iload_n 1, 1) := by decide +kernel
theorem d21_7 : decode jdk_52_method_83_code 7 = .ok (.invokestatic 71, 3) := by decide +kernel
theorem pd_4 : parseMethodDescriptor "([BI)C" = some ⟨[(.array .byte), .int], some .char⟩ := by decide +kernel
theorem d21_10 : decode jdk_52_method_83_code 10 = .ok (.ireturn, 1) := by decide +kernel
def Q_uat1_0 (Z : State) (b : Addr) (k : ClassId) (x0 x1 : Int32) (fmt : Value) (h0 : Heap) (n0 : Nat) (v : Option Value) (h : Heap) (L : List Loc) : Prop := v = some (.int (own_gc x0 x1)) ∧ Fr n0 L ∧ h = h0
theorem rm_uat1_0 (l : Launch) (Z : State) (a0 : Array Value) (hw : own_HW Z a0) (ws : List Jvm.Cond) (b : Addr) (k : ClassId) (x0 x1 : Int32) (fmt : Value) (h0 : Heap) (n0 : Nat) (O0 : Old Z n0 h0) (u0 : fmt.isRef = true) (u1 : Sta Z Z.heap "jdk/internal/util/Preconditions" "SIOOBE_FORMATTER" "Ljava/util/function/BiFunction;" fmt) (u2 : Sta Z Z.heap "java/lang/StringUTF16" "$assertionsDisabled" "Z" (.int 1)) (u3 : Sta Z Z.heap "java/lang/StringUTF16" "HI_BYTE_SHIFT" "I" (.int 0)) (u4 : Sta Z Z.heap "java/lang/StringUTF16" "LO_BYTE_SHIFT" "I" (.int 8)) (u5 : Arv Z h0 b k .byte (2 : Int32) [(.int x0), (.int x1)] (.int 0)) :
    own_Met l Z m_14 jdk_52_method_83_code 2 (some .char) ws (own_R 3 0 0 40) #[(.ref b), (.int 0)] h0 (Q_uat1_0 Z b k x0 x1 fmt h0 n0) := by
  refine own_open (plainFor_of_name pn_2) (fun pr_ en_ st_ me_ below meth_ co_ s₁ Bd hx hby hml hown hZ X0 e0 G gv gf => ?_)
  have N0 := Fr.nil n0
  refine gv (fun _ kQ => castTop (ef_4 me_ b (0 : Int32)) kQ) ?_
  show G (s₁.setTop (mkF me_ 0 #[.val (.ref b), .val (.int 0)] []))
  refine gv (fun _ kQ => XS.iloadN X0.here hx rfl (hb hby d21_0) rfl (XS.aloadN X0.here hx rfl (hb hby d21_1) rfl rfl kQ)) ?_
  obtain ⟨_, _, ⟨T26, L26, k26, n26⟩, -, X26, ⟨Lc26, hQ26, l26, y26, z26⟩, st26⟩ := Jvm.LawKit.callS X0 hx (y := m_15) hown (mvT hZ (t_93 hw)) (mvT hZ (t_94 hw)) (mvT hZ (t_50 hw)) (mvT hZ (t_95 hw)) (by decide) (backOf (W := 0) (rm_uci1 l Z a0 hw [] (0 : Int32) b k x0 x1 fmt h0 n0 O0 u0 u1 (by decide) (by decide) u5) hZ (t_95 hw) (t_50 hw) (by decide) (by decide)) (g := (mkF me_ 2 #[.val (.ref b), .val (.int 0)] [(.ref b), (.int 0)])) rfl (by rw [hml]; rfl) (argsL := [(.int 0), (.ref b)]) (rest := []) (lenOf pd_3 rfl) rfl (by show 2 * 0 + _ ≤ _; exact Nat.le_of_eq rfl) (hb hby d21_2) (fun _ _ => ⟨rfl, e0, (by decide : 0 + 0 ≤ _), (by decide : 0 + 0 ≤ _)⟩)
  dsimp only [Pt.U, Pt.locs, Pt.cells, Pt.slots] at X26 l26 y26 z26 st26 hQ26
  subst l26 y26 z26
  obtain ⟨rfl, Nq26, eq26⟩ := hQ26
  have N27 := Fr.app N0 Nq26
  refine gv st26 ?_
  refine gv (fun _ kQ => XS.aloadN X26.here hx rfl (hb hby d21_5) rfl rfl (XS.iloadN X26.here hx rfl (hb hby d21_6) rfl kQ)) ?_
  show G (T26.setTop (mkF me_ 7 #[.val (.ref b), .val (.int 0)] [(.int 0), (.ref b)]))
  obtain ⟨_, _, ⟨T28, L28, k28, n28⟩, -, X28, ⟨Lc28, hQ28, l28, y28, z28⟩, st28⟩ := Jvm.LawKit.callS X26 hx (y := m_19) hown (mvT hZ (t_74 hw)) (mvT hZ (t_75 hw)) (mvT hZ (t_50 hw)) (mvT hZ (t_76 hw)) (by decide) (backOf (W := 0) (rm_getc1_0 l Z a0 hw [] b k x0 x1 h0 n0 O0 u2 u3 u4 u5) hZ (t_76 hw) (t_50 hw) (by decide) (by decide)) (g := (mkF me_ 7 #[.val (.ref b), .val (.int 0)] [(.int 0), (.ref b)])) rfl (by rw [hml]; rfl) (argsL := [(.ref b), (.int 0)]) (rest := []) (lenOf pd_4 rfl) rfl (by show 2 * 0 + _ ≤ _; exact Nat.le_of_eq rfl) (hb hby d21_7) (fun _ _ => ⟨rfl, eq26, (by decide : 0 + 0 ≤ _), (by decide : 0 + 0 ≤ _)⟩)
  dsimp only [Pt.U, Pt.locs, Pt.cells, Pt.slots] at X28 l28 y28 z28 st28 hQ28
  subst l28 y28 z28
  obtain ⟨rfl, Nq28, eq28⟩ := hQ28
  have N29 := Fr.app N27 Nq28
  refine gv st28 ?_
  refine gf _ (own_ret X28 Bd.notSynchronized (v := some (.int (own_gc x0 x1))) (own_rv Bd.returns) ?_ (by decide) (by decide) (fun fs hr => retN X28 hx (t := .char) Bd.returns (by simp) (hb hby d21_10) (by rw [(own_gcn _ _)]; exact hr)))
  show Q_uat1_0 Z b k x0 x1 fmt h0 n0 _ T28.heap _
  rw [eq28]
  exact ⟨rfl, N29, rfl⟩
theorem ef_5 (m : MethodId) (x0 : Addr) (x1 : Int32) (x2 : Int32)  : entryFrame m #[(.ref x0), (.int x1), (.int x2)] 3 = mkF m 0 #[.val (.ref x0), .val (.int x1), .val (.int x2)] [] := by first | (simp [entryFrame, mkF, argsToLocals, Value.category]; done) | rfl
theorem d16_0 : decode jdk_52_method_4_code 0 = .ok (.getstatic 44, 3) := by decide +kernel
theorem d16_3 : decode jdk_52_method_4_code 3 = .ok (.ifCond .ne 25, 3) := by decide +kernel
theorem d16_28 : decode jdk_52_method_4_code 28 = .ok (.iload_n 1, 1) := by decide +kernel
theorem d16_29 : decode jdk_52_method_4_code 29 = .ok (.iconst 1, 1) := by decide +kernel
theorem d16_30 : decode jdk_52_method_4_code 30 = .ok (.ishl, 1) := by decide +kernel
theorem d16_31 : decode jdk_52_method_4_code 31 = .ok (.istore_n 1, 1) := by decide +kernel
theorem d16_32 : decode jdk_52_method_4_code 32 = .ok (.aload_n 0, 1) := by decide +kernel
theorem d16_33 : decode jdk_52_method_4_code 33 = .ok (.iload_n 1, 1) := by decide +kernel
theorem d16_34 : decode jdk_52_method_4_code 34 = .ok (.iinc 1 1, 3) := by decide +kernel
theorem d16_37 : decode jdk_52_method_4_code 37 = .ok (.iload_n 2, 1) := by decide +kernel
theorem d16_38 : decode jdk_52_method_4_code 38 = .ok (.getstatic 59, 3) := by decide +kernel
theorem d16_41 : decode jdk_52_method_4_code 41 = .ok (.ishr, 1) := by decide +kernel
theorem d16_42 : decode jdk_52_method_4_code 42 = .ok (.i2b, 1) := by decide +kernel
theorem d16_43 : decode jdk_52_method_4_code 43 = .ok (.bastore, 1) := by decide +kernel
theorem d16_44 : decode jdk_52_method_4_code 44 = .ok (.aload_n 0, 1) := by decide +kernel
theorem d16_45 : decode jdk_52_method_4_code 45 = .ok (.iload_n 1, 1) := by decide +kernel
theorem d16_46 : decode jdk_52_method_4_code 46 = .ok (.iload_n 2, 1) := by decide +kernel
theorem d16_47 : decode jdk_52_method_4_code 47 = .ok (.getstatic 63, 3) := by decide +kernel
theorem d16_50 : decode jdk_52_method_4_code 50 = .ok (.ishr, 1) := by decide +kernel
theorem d16_51 : decode jdk_52_method_4_code 51 = .ok (.i2b, 1) := by decide +kernel
theorem d16_52 : decode jdk_52_method_4_code 52 = .ok (.bastore, 1) := by decide +kernel
theorem d16_53 : decode jdk_52_method_4_code 53 = .ok (.return_, 1) := by decide +kernel
def Q_put2_0 (Z : State) (b : Addr) (c : Int32) (k : ClassId) (x0 x1 : Int32) (h0 : Heap) (n0 : Nat) (v : Option Value) (h : Heap) (L : List Loc) : Prop := v = none ∧ Fr n0 L ∧ Keep h0 h [b] ∧ (Arv Z h b k .byte (2 : Int32) [(.int ((c >>> ((0 : Int32) &&& 31)).toInt8.toInt32)), (.int ((c >>> ((8 : Int32) &&& 31)).toInt8.toInt32))] (.int 0))
theorem rm_put2_0 (l : Launch) (Z : State) (a0 : Array Value) (hw : own_HW Z a0) (ws : List Jvm.Cond) (b : Addr) (c : Int32) (k : ClassId) (x0 x1 : Int32) (h0 : Heap) (n0 : Nat) (O0 : Old Z n0 h0) (u0 : Sta Z Z.heap "java/lang/StringUTF16" "$assertionsDisabled" "Z" (.int 1)) (u1 : Sta Z Z.heap "java/lang/StringUTF16" "HI_BYTE_SHIFT" "I" (.int 0)) (u2 : Sta Z Z.heap "java/lang/StringUTF16" "LO_BYTE_SHIFT" "I" (.int 8)) (u3 : Arv Z h0 b k .byte (2 : Int32) [(.int x0), (.int x1)] (.int 0)) (u4 : n0 ≤ b) :
    own_Met l Z m_23 jdk_52_method_4_code 3 none ws (own_R 0 0 0 0) #[(.ref b), (.int 0), (.int c)] h0 (Q_put2_0 Z b c k x0 x1 h0 n0) := by
  refine own_open (plainFor_of_name pn_2) (fun pr_ en_ st_ me_ below meth_ co_ s₁ Bd hx hby hml hown hZ X0 e0 G gv gf => ?_)
  have N0 := Fr.nil n0
  have K0 := Keep.refl h0 [b]
  refine gv (fun _ kQ => castTop (ef_5 me_ b (0 : Int32) c) kQ) ?_
  show G (s₁.setTop (mkF me_ 0 #[.val (.ref b), .val (.int 0), .val (.int c)] []))
  obtain ⟨T30, X30, e30, st30⟩ := getS2 X0 hx hZ hown (host := "") (Or.inl (t_71 hw)) Via.refl e0 (u0.ext O0.2) (g := (mkF me_ 0 #[.val (.ref b), .val (.int 0), .val (.int c)] [])) rfl (hb hby d16_0)
  refine gv st30 ?_
  refine gv (fun _ kQ => XS.ifYes X30.here hx rfl (pc0 := 3) (pc' := 28) rfl (hb hby d16_3) rfl ((if0 _ _).trans (feq (by decide : ¬ ((1 : Int32) = (0 : Int32)))).2) (by decide) (by decide) (XS.iloadN X30.here hx rfl (hb hby d16_28) rfl (XS.iconst X30.here hx rfl (hb hby d16_29) (XS.ishl X30.here hx rfl (hb hby d16_30) rfl kQ)))) ?_
  show G (T30.setTop (mkF me_ 31 #[.val (.ref b), .val (.int 0), .val (.int c)] [(.int ((0 : Int32) <<< ((1 : Int32) &&& 31)))]))
  rw [(by decide : ((0 : Int32) <<< ((1 : Int32) &&& 31)) = (0 : Int32))]
  refine gv (fun _ kQ => XS.istoreN X30.here hx rfl (hb hby d16_31) rfl (l' := #[.val (.ref b), .val (.int 0), .val (.int c)]) rfl (XS.aloadN X30.here hx rfl (hb hby d16_32) rfl rfl (XS.iloadN X30.here hx rfl (hb hby d16_33) rfl (XS.iinc X30.here hx rfl (hb hby d16_34) rfl (l' := #[.val (.ref b), .val (.int ((0 : Int32) + (1 : Int32))), .val (.int c)]) rfl kQ)))) ?_
  show G (T30.setTop (mkF me_ 37 #[.val (.ref b), .val (.int ((0 : Int32) + (1 : Int32))), .val (.int c)] [(.int 0), (.ref b)]))
  rw [(by decide : ((0 : Int32) + (1 : Int32)) = (1 : Int32))]
  refine gv (fun _ kQ => XS.iloadN X30.here hx rfl (hb hby d16_37) rfl kQ) ?_
  obtain ⟨T31, X31, e31, st31⟩ := getS2 X30 hx hZ hown (host := "") (Or.inl (t_72 hw)) Via.refl e30 (u1.ext O0.2) (g := (mkF me_ 38 #[.val (.ref b), .val (.int 1), .val (.int c)] [(.int c), (.int 0), (.ref b)])) rfl (hb hby d16_38)
  refine gv st31 ?_
  refine gv (fun _ kQ => XS.ishr X31.here hx rfl (hb hby d16_41) rfl (XS.i2b X31.here hx rfl (hb hby d16_42) rfl kQ)) ?_
  show G (T31.setTop (mkF me_ 43 #[.val (.ref b), .val (.int 1), .val (.int c)] [(.int ((c >>> ((0 : Int32) &&& 31)).toInt8.toInt32)), (.int 0), (.ref b)]))
  obtain ⟨cl32, Ar32, q32, S32, n32, H32, G32⟩ := (id u3)
  have in32 : ¬ ((0 : Int32) < 0 ∨ cl32.slots.size ≤ ((0 : Int32)).toNatClampNeg) := inb_of S32 ⟨by decide, by decide⟩
  obtain ⟨T32, h32, X32, e32, W32, st32⟩ := stB X31 hx hZ e31 Ar32 (j := (0 : Int32)) in32 (g := (mkF me_ 43 #[.val (.ref b), .val (.int 1), .val (.int c)] [(.int ((c >>> ((0 : Int32) &&& 31)).toInt8.toInt32)), (.int 0), (.ref b)])) rfl rfl (hb hby d16_43)
  have W32 : Wr h0 h32 b ((0 : Int32)).toNatClampNeg (.int ((c >>> ((0 : Int32) &&& 31)).toInt8.toInt32)) := by have z := W32; rw [(own_narB _)] at z; exact z
  refine gv st32 ?_
  have O34 := O0.wr W32 u4
  have K35 := K0.wr W32 (Or.inl (List.mem_of_getElem? (i := 0) rfl))
  have N36 := Fr.snoc X32 N0 u4
  have f33 : Arv Z h32 b k .byte (2 : Int32) [(.int ((c >>> ((0 : Int32) &&& 31)).toInt8.toInt32)), (.int x1)] (.int 0) := Arv.set Ar32 q32 S32 n32 H32 G32 (fits_nar_byte _) W32 0 rfl (Nat.le_of_ble_eq_true rfl)
  refine gv (fun _ kQ => XS.aloadN X32.here hx rfl (hb hby d16_44) rfl rfl (XS.iloadN X32.here hx rfl (hb hby d16_45) rfl (XS.iloadN X32.here hx rfl (hb hby d16_46) rfl kQ))) ?_
  show G (T32.setTop (mkF me_ 47 #[.val (.ref b), .val (.int 1), .val (.int c)] [(.int c), (.int 1), (.ref b)]))
  obtain ⟨T37, X37, e37, st37⟩ := getS2 X32 hx hZ hown (host := "") (Or.inl (t_73 hw)) Via.refl e32 (u2.ext O34.2) (g := (mkF me_ 47 #[.val (.ref b), .val (.int 1), .val (.int c)] [(.int c), (.int 1), (.ref b)])) rfl (hb hby d16_47)
  refine gv st37 ?_
  refine gv (fun _ kQ => XS.ishr X37.here hx rfl (hb hby d16_50) rfl (XS.i2b X37.here hx rfl (hb hby d16_51) rfl kQ)) ?_
  show G (T37.setTop (mkF me_ 52 #[.val (.ref b), .val (.int 1), .val (.int c)] [(.int ((c >>> ((8 : Int32) &&& 31)).toInt8.toInt32)), (.int 1), (.ref b)]))
  obtain ⟨cl38, Ar38, q38, S38, n38, H38, G38⟩ := (id f33)
  have in38 : ¬ ((1 : Int32) < 0 ∨ cl38.slots.size ≤ ((1 : Int32)).toNatClampNeg) := inb_of S38 ⟨by decide, by decide⟩
  obtain ⟨T38, h38, X38, e38, W38, st38⟩ := stB X37 hx hZ e37 Ar38 (j := (1 : Int32)) in38 (g := (mkF me_ 52 #[.val (.ref b), .val (.int 1), .val (.int c)] [(.int ((c >>> ((8 : Int32) &&& 31)).toInt8.toInt32)), (.int 1), (.ref b)])) rfl rfl (hb hby d16_52)
  have W38 : Wr h32 h38 b ((1 : Int32)).toNatClampNeg (.int ((c >>> ((8 : Int32) &&& 31)).toInt8.toInt32)) := by have z := W38; rw [(own_narB _)] at z; exact z
  refine gv st38 ?_
  have K41 := K35.wr W38 (Or.inl (List.mem_of_getElem? (i := 0) rfl))
  have N42 := Fr.snoc X38 N36 u4
  have f39 : Arv Z h38 b k .byte (2 : Int32) [(.int ((c >>> ((0 : Int32) &&& 31)).toInt8.toInt32)), (.int ((c >>> ((8 : Int32) &&& 31)).toInt8.toInt32))] (.int 0) := Arv.set Ar38 q38 S38 n38 H38 G38 (fits_nar_byte _) W38 1 rfl (Nat.le_of_ble_eq_true rfl)
  refine gf _ (own_ret X38 Bd.notSynchronized (v := none) (fun _ => rfl) ?_ (by decide) (by decide) (fun fs hr => X38.returnOut hx Bd.returns (hb hby d16_53) hr))
  show Q_put2_0 Z b c k x0 x1 h0 n0 _ T38.heap _
  rw [e38]
  exact ⟨rfl, N42, K41, f39⟩
def Q_ulen2 (Z : State) (b : Addr) (k : ClassId) (x0 x1 : Int32) (x2 x3 : Int32) (h0 : Heap) (n0 : Nat) (v : Option Value) (h : Heap) (L : List Loc) : Prop := v = some (.int 2) ∧ Fr n0 L ∧ h = h0
theorem rm_ulen2 (l : Launch) (Z : State) (a0 : Array Value) (hw : own_HW Z a0) (ws : List Jvm.Cond) (b : Addr) (k : ClassId) (x0 x1 : Int32) (x2 x3 : Int32) (h0 : Heap) (n0 : Nat) (O0 : Old Z n0 h0) (u0 : Arv Z h0 b k .byte (4 : Int32) [(.int x0), (.int x1), (.int x2), (.int x3)] (.int 0)) :
    own_Met l Z m_20 jdk_52_method_6_code 1 (some .int) ws (own_R 0 0 0 0) #[(.ref b)] h0 (Q_ulen2 Z b k x0 x1 x2 x3 h0 n0) := by
  refine own_open (plainFor_of_name pn_2) (fun pr_ en_ st_ me_ below meth_ co_ s₁ Bd hx hby hml hown hZ X0 e0 G gv gf => ?_)
  have N0 := Fr.nil n0
  refine gv (fun _ kQ => castTop (ef_0 me_ b) kQ) ?_
  show G (s₁.setTop (mkF me_ 0 #[.val (.ref b)] []))
  refine gv (fun _ kQ => XS.aloadN X0.here hx rfl (hb hby d23_0) rfl rfl kQ) ?_
  obtain ⟨cl43, Ar43, -, S43, n43, -, -⟩ := (id u0)
  refine gv (X0.arraylength hx (by rw [e0]; exact Ar43.1) (State.isArrayOf_alike hZ.alike Ar43.2.1) (g := (mkF me_ 1 #[.val (.ref b)] [(.ref b)])) rfl rfl (hb hby d23_1)) ?_
  rw [len_of S43 n43]
  refine gv (fun _ kQ => XS.iconst X0.here hx rfl (hb hby d23_2) (XS.ishr X0.here hx rfl (hb hby d23_3) rfl kQ)) ?_
  show G (s₁.setTop (mkF me_ 4 #[.val (.ref b)] [(.int ((4 : Int32) >>> ((1 : Int32) &&& 31)))]))
  rw [(by decide : ((4 : Int32) >>> ((1 : Int32) &&& 31)) = (2 : Int32))]
  refine gf _ (own_ret X0 Bd.notSynchronized (v := some (.int 2)) (own_rv Bd.returns) ?_ (by decide) (by decide) (fun fs hr => retOut X0 hx (t := .int) Bd.returns rfl (Or.inl ⟨rfl, Or.inl rfl, _, rfl⟩) (hb hby d23_4) hr))
  show Q_ulen2 Z b k x0 x1 x2 x3 h0 n0 _ s₁.heap _
  rw [e0]
  exact ⟨rfl, N0, rfl⟩
def Q_uci2 (Z : State) (i_ : Int32) (b : Addr) (k : ClassId) (x0 x1 : Int32) (x2 x3 : Int32) (fmt : Value) (h0 : Heap) (n0 : Nat) (v : Option Value) (h : Heap) (L : List Loc) : Prop := v = none ∧ Fr n0 L ∧ h = h0
theorem rm_uci2 (l : Launch) (Z : State) (a0 : Array Value) (hw : own_HW Z a0) (ws : List Jvm.Cond) (i_ : Int32) (b : Addr) (k : ClassId) (x0 x1 : Int32) (x2 x3 : Int32) (fmt : Value) (h0 : Heap) (n0 : Nat) (O0 : Old Z n0 h0) (u0 : fmt.isRef = true) (u1 : Sta Z Z.heap "jdk/internal/util/Preconditions" "SIOOBE_FORMATTER" "Ljava/util/function/BiFunction;" fmt) (u2 : ¬ (i_ < (0 : Int32))) (u3 : i_ < (2 : Int32)) (u4 : Arv Z h0 b k .byte (4 : Int32) [(.int x0), (.int x1), (.int x2), (.int x3)] (.int 0)) :
    own_Met l Z m_15 jdk_52_method_91_code 2 none ws (own_R 2 0 0 27) #[(.int i_), (.ref b)] h0 (Q_uci2 Z i_ b k x0 x1 x2 x3 fmt h0 n0) := by
  refine own_open (plainFor_of_name pn_2) (fun pr_ en_ st_ me_ below meth_ co_ s₁ Bd hx hby hml hown hZ X0 e0 G gv gf => ?_)
  have N0 := Fr.nil n0
  refine gv (fun _ kQ => castTop (ef_3 me_ i_ b) kQ) ?_
  show G (s₁.setTop (mkF me_ 0 #[.val (.int i_), .val (.ref b)] []))
  refine gv (fun _ kQ => XS.iloadN X0.here hx rfl (hb hby d22_0) rfl (XS.aloadN X0.here hx rfl (hb hby d22_1) rfl rfl kQ)) ?_
  obtain ⟨_, _, ⟨T44, L44, k44, n44⟩, -, X44, ⟨Lc44, hQ44, l44, y44, z44⟩, st44⟩ := Jvm.LawKit.callS X0 hx (y := m_20) hown (mvT hZ (t_96 hw)) (mvT hZ (t_97 hw)) (mvT hZ (t_50 hw)) (mvT hZ (t_98 hw)) (by decide) (backOf (W := 1) (rm_ulen2 l Z a0 hw [] b k x0 x1 x2 x3 h0 n0 O0 u4) hZ (t_98 hw) (t_50 hw) (by decide) (by decide)) (g := (mkF me_ 2 #[.val (.int i_), .val (.ref b)] [(.ref b), (.int i_)])) rfl (by rw [hml]; rfl) (argsL := [(.ref b)]) (rest := [(.int i_)]) (lenOf pd_1 rfl) rfl (by show 2 * 0 + _ ≤ _; exact Nat.le_of_eq rfl) (hb hby d22_2) (fun _ _ => ⟨rfl, e0, (by decide : 0 + 0 ≤ _), (by decide : 0 + 0 ≤ _)⟩)
  dsimp only [Pt.U, Pt.locs, Pt.cells, Pt.slots] at X44 l44 y44 z44 st44 hQ44
  subst l44 y44 z44
  obtain ⟨rfl, Nq44, eq44⟩ := hQ44
  have N45 := Fr.app N0 Nq44
  refine gv st44 ?_
  obtain ⟨_, _, ⟨T46, L46, k46, n46⟩, -, X46, ⟨Lc46, hQ46, l46, y46, z46⟩, st46⟩ := Jvm.LawKit.callS X44 hx (y := m_9) hown (mvT hZ (t_99 hw)) (mvT hZ (t_100 hw)) (mvT hZ (t_13 hw)) (mvT hZ (t_101 hw)) (by decide) (backOf (W := 0) (rm_scx l Z a0 hw [] i_ (2 : Int32) fmt h0 n0 O0 u0 u1 u2 u3) hZ (t_101 hw) (t_13 hw) (by decide) (by decide)) (g := (mkF me_ 5 #[.val (.int i_), .val (.ref b)] [(.int 2), (.int i_)])) rfl (by rw [hml]; rfl) (argsL := [(.int i_), (.int 2)]) (rest := []) (lenOf pd_2 rfl) rfl (by show 2 * 0 + _ ≤ _; exact Nat.le_of_eq rfl) (hb hby d22_5) (fun _ _ => ⟨rfl, eq44, (by decide : 0 + 0 ≤ _), (by decide : 0 + 0 ≤ _)⟩)
  dsimp only [Pt.U, Pt.locs, Pt.cells, Pt.slots] at X46 l46 y46 z46 st46 hQ46
  subst l46 y46 z46
  obtain ⟨rfl, Nq46, eq46⟩ := hQ46
  have N47 := Fr.app N45 Nq46
  refine gv st46 ?_
  refine gf _ (own_ret X46 Bd.notSynchronized (v := none) (fun _ => rfl) ?_ (by decide) (by decide) (fun fs hr => X46.returnOut hx Bd.returns (hb hby d22_8) hr))
  show Q_uci2 Z i_ b k x0 x1 x2 x3 fmt h0 n0 _ T46.heap _
  rw [eq46]
  exact ⟨rfl, N47, rfl⟩
def Q_l1at2_0 (Z : State) (b : Addr) (k : ClassId) (x0 x1 : Int32) (fmt : Value) (h0 : Heap) (n0 : Nat) (v : Option Value) (h : Heap) (L : List Loc) : Prop := v = some (.int ((x0 &&& (255 : Int32)).toUInt32.toUInt16.toUInt32.toInt32)) ∧ Fr n0 L ∧ h = h0
theorem rm_l1at2_0 (l : Launch) (Z : State) (a0 : Array Value) (hw : own_HW Z a0) (ws : List Jvm.Cond) (b : Addr) (k : ClassId) (x0 x1 : Int32) (fmt : Value) (h0 : Heap) (n0 : Nat) (O0 : Old Z n0 h0) (u0 : fmt.isRef = true) (u1 : Sta Z Z.heap "jdk/internal/util/Preconditions" "SIOOBE_FORMATTER" "Ljava/util/function/BiFunction;" fmt) (u2 : Arv Z h0 b k .byte (2 : Int32) [(.int x0), (.int x1)] (.int 0)) :
    own_Met l Z m_13 jdk_43_method_2_code 2 (some .char) ws (own_R 2 0 0 27) #[(.ref b), (.int 0)] h0 (Q_l1at2_0 Z b k x0 x1 fmt h0 n0) := by
  refine own_open (plainFor_of_name pn_3) (fun pr_ en_ st_ me_ below meth_ co_ s₁ Bd hx hby hml hown hZ X0 e0 G gv gf => ?_)
  have N0 := Fr.nil n0
  refine gv (fun _ kQ => castTop (ef_4 me_ b (0 : Int32)) kQ) ?_
  show G (s₁.setTop (mkF me_ 0 #[.val (.ref b), .val (.int 0)] []))
  refine gv (fun _ kQ => XS.iloadN X0.here hx rfl (hb hby d26_0) rfl (XS.aloadN X0.here hx rfl (hb hby d26_1) rfl rfl kQ)) ?_
  obtain ⟨cl48, Ar48, -, S48, n48, -, -⟩ := (id u2)
  refine gv (X0.arraylength hx (by rw [e0]; exact Ar48.1) (State.isArrayOf_alike hZ.alike Ar48.2.1) (g := (mkF me_ 2 #[.val (.ref b), .val (.int 0)] [(.ref b), (.int 0)])) rfl rfl (hb hby d26_2)) ?_
  rw [len_of S48 n48]
  obtain ⟨_, _, ⟨T49, L49, k49, n49⟩, -, X49, ⟨Lc49, hQ49, l49, y49, z49⟩, st49⟩ := Jvm.LawKit.callS X0 hx (y := m_9) hown (mvT hZ (t_111 hw)) (mvT hZ (t_100 hw)) (mvT hZ (t_13 hw)) (mvT hZ (t_101 hw)) (by decide) (backOf (W := 0) (rm_scx l Z a0 hw [] (0 : Int32) (2 : Int32) fmt h0 n0 O0 u0 u1 (by decide) (by decide)) hZ (t_101 hw) (t_13 hw) (by decide) (by decide)) (g := (mkF me_ 3 #[.val (.ref b), .val (.int 0)] [(.int 2), (.int 0)])) rfl (by rw [hml]; rfl) (argsL := [(.int 0), (.int 2)]) (rest := []) (lenOf pd_2 rfl) rfl (by show 2 * 0 + _ ≤ _; exact Nat.le_of_eq rfl) (hb hby d26_3) (fun _ _ => ⟨rfl, e0, (by decide : 0 + 0 ≤ _), (by decide : 0 + 0 ≤ _)⟩)
  dsimp only [Pt.U, Pt.locs, Pt.cells, Pt.slots] at X49 l49 y49 z49 st49 hQ49
  subst l49 y49 z49
  obtain ⟨rfl, Nq49, eq49⟩ := hQ49
  have N50 := Fr.app N0 Nq49
  refine gv st49 ?_
  refine gv (fun _ kQ => XS.aloadN X49.here hx rfl (hb hby d26_6) rfl rfl (XS.iloadN X49.here hx rfl (hb hby d26_7) rfl kQ)) ?_
  show G (T49.setTop (mkF me_ 8 #[.val (.ref b), .val (.int 0)] [(.int 0), (.ref b)]))
  obtain ⟨cl51, Ar51, q51, S51, n51, H51, G51⟩ := (id u2)
  have in51 : ¬ ((0 : Int32) < 0 ∨ cl51.slots.size ≤ ((0 : Int32)).toNatClampNeg) := inb_of S51 ⟨by decide, by decide⟩
  refine gv (X49.baloadBytes hx (j := (0 : Int32)) (v := (.int x0)) (by rw [eq49]; exact Ar51.1) (State.isArrayOf_alike hZ.alike Ar51.2.1) Ar51.2.2 in51 (Has.at H51 in51 rfl) (g := (mkF me_ 8 #[.val (.ref b), .val (.int 0)] [(.int 0), (.ref b)])) rfl rfl (hb hby d26_8)) ?_
  show G (T49.setTop (mkF me_ 9 #[.val (.ref b), .val (.int 0)] [(.int x0)]))
  refine gv (fun _ kQ => XS.sipush X49.here hx rfl (hb hby d26_9) (XS.iand X49.here hx rfl (hb hby d26_12) rfl (XS.i2c X49.here hx rfl (hb hby d26_13) rfl kQ))) ?_
  refine gf _ (own_ret X49 Bd.notSynchronized (v := some (.int ((x0 &&& (255 : Int32)).toUInt32.toUInt16.toUInt32.toInt32))) (own_rv Bd.returns) ?_ (by decide) (by decide) (fun fs hr => retN X49 hx (t := .char) Bd.returns (by simp) (hb hby d26_14) (by rw [(own_narC _)]; exact hr)))
  show Q_l1at2_0 Z b k x0 x1 fmt h0 n0 _ T49.heap _
  rw [eq49]
  exact ⟨rfl, N50, rfl⟩
def Q_getc2_0 (Z : State) (b : Addr) (k : ClassId) (x0 x1 : Int32) (x2 x3 : Int32) (h0 : Heap) (n0 : Nat) (v : Option Value) (h : Heap) (L : List Loc) : Prop := v = some (.int (own_gc x0 x1)) ∧ Fr n0 L ∧ h = h0
theorem rm_getc2_0 (l : Launch) (Z : State) (a0 : Array Value) (hw : own_HW Z a0) (ws : List Jvm.Cond) (b : Addr) (k : ClassId) (x0 x1 : Int32) (x2 x3 : Int32) (h0 : Heap) (n0 : Nat) (O0 : Old Z n0 h0) (u0 : Sta Z Z.heap "java/lang/StringUTF16" "$assertionsDisabled" "Z" (.int 1)) (u1 : Sta Z Z.heap "java/lang/StringUTF16" "HI_BYTE_SHIFT" "I" (.int 0)) (u2 : Sta Z Z.heap "java/lang/StringUTF16" "LO_BYTE_SHIFT" "I" (.int 8)) (u3 : Arv Z h0 b k .byte (4 : Int32) [(.int x0), (.int x1), (.int x2), (.int x3)] (.int 0)) :
    own_Met l Z m_19 jdk_52_method_5_code 2 (some .char) ws (own_R 0 0 0 0) #[(.ref b), (.int 0)] h0 (Q_getc2_0 Z b k x0 x1 x2 x3 h0 n0) := by
  refine own_open (plainFor_of_name pn_2) (fun pr_ en_ st_ me_ below meth_ co_ s₁ Bd hx hby hml hown hZ X0 e0 G gv gf => ?_)
  have N0 := Fr.nil n0
  refine gv (fun _ kQ => castTop (ef_4 me_ b (0 : Int32)) kQ) ?_
  show G (s₁.setTop (mkF me_ 0 #[.val (.ref b), .val (.int 0)] []))
  obtain ⟨T52, X52, e52, st52⟩ := getS2 X0 hx hZ hown (host := "") (Or.inl (t_71 hw)) Via.refl e0 (u0.ext O0.2) (g := (mkF me_ 0 #[.val (.ref b), .val (.int 0)] [])) rfl (hb hby d17_0)
  refine gv st52 ?_
  refine gv (fun _ kQ => XS.ifYes X52.here hx rfl (pc0 := 3) (pc' := 28) rfl (hb hby d17_3) rfl ((if0 _ _).trans (feq (by decide : ¬ ((1 : Int32) = (0 : Int32)))).2) (by decide) (by decide) (XS.iloadN X52.here hx rfl (hb hby d17_28) rfl (XS.iconst X52.here hx rfl (hb hby d17_29) (XS.ishl X52.here hx rfl (hb hby d17_30) rfl kQ)))) ?_
  show G (T52.setTop (mkF me_ 31 #[.val (.ref b), .val (.int 0)] [(.int ((0 : Int32) <<< ((1 : Int32) &&& 31)))]))
  rw [(by decide : ((0 : Int32) <<< ((1 : Int32) &&& 31)) = (0 : Int32))]
  refine gv (fun _ kQ => XS.istoreN X52.here hx rfl (hb hby d17_31) rfl (l' := #[.val (.ref b), .val (.int 0)]) rfl (XS.aloadN X52.here hx rfl (hb hby d17_32) rfl rfl (XS.iloadN X52.here hx rfl (hb hby d17_33) rfl (XS.iinc X52.here hx rfl (hb hby d17_34) rfl (l' := #[.val (.ref b), .val (.int ((0 : Int32) + (1 : Int32)))]) rfl kQ)))) ?_
  show G (T52.setTop (mkF me_ 37 #[.val (.ref b), .val (.int ((0 : Int32) + (1 : Int32)))] [(.int 0), (.ref b)]))
  rw [(by decide : ((0 : Int32) + (1 : Int32)) = (1 : Int32))]
  obtain ⟨cl53, Ar53, q53, S53, n53, H53, G53⟩ := (id u3)
  have in53 : ¬ ((0 : Int32) < 0 ∨ cl53.slots.size ≤ ((0 : Int32)).toNatClampNeg) := inb_of S53 ⟨by decide, by decide⟩
  refine gv (X52.baloadBytes hx (j := (0 : Int32)) (v := (.int x0)) (by rw [e52]; exact Ar53.1) (State.isArrayOf_alike hZ.alike Ar53.2.1) Ar53.2.2 in53 (Has.at H53 in53 rfl) (g := (mkF me_ 37 #[.val (.ref b), .val (.int 1)] [(.int 0), (.ref b)])) rfl rfl (hb hby d17_37)) ?_
  show G (T52.setTop (mkF me_ 38 #[.val (.ref b), .val (.int 1)] [(.int x0)]))
  refine gv (fun _ kQ => XS.sipush X52.here hx rfl (hb hby d17_38) (XS.iand X52.here hx rfl (hb hby d17_41) rfl kQ)) ?_
  obtain ⟨T54, X54, e54, st54⟩ := getS2 X52 hx hZ hown (host := "") (Or.inl (t_72 hw)) Via.refl e52 (u1.ext O0.2) (g := (mkF me_ 42 #[.val (.ref b), .val (.int 1)] [(.int (x0 &&& (255 : Int32)))])) rfl (hb hby d17_42)
  refine gv st54 ?_
  refine gv (fun _ kQ => XS.ishl X54.here hx rfl (hb hby d17_45) rfl (XS.aloadN X54.here hx rfl (hb hby d17_46) rfl rfl (XS.iloadN X54.here hx rfl (hb hby d17_47) rfl kQ))) ?_
  show G (T54.setTop (mkF me_ 48 #[.val (.ref b), .val (.int 1)] [(.int 1), (.ref b), (.int ((x0 &&& (255 : Int32)) <<< ((0 : Int32) &&& 31)))]))
  obtain ⟨cl55, Ar55, q55, S55, n55, H55, G55⟩ := (id u3)
  have in55 : ¬ ((1 : Int32) < 0 ∨ cl55.slots.size ≤ ((1 : Int32)).toNatClampNeg) := inb_of S55 ⟨by decide, by decide⟩
  refine gv (X54.baloadBytes hx (j := (1 : Int32)) (v := (.int x1)) (by rw [e54]; exact Ar55.1) (State.isArrayOf_alike hZ.alike Ar55.2.1) Ar55.2.2 in55 (Has.at H55 in55 rfl) (g := (mkF me_ 48 #[.val (.ref b), .val (.int 1)] [(.int 1), (.ref b), (.int ((x0 &&& (255 : Int32)) <<< ((0 : Int32) &&& 31)))])) rfl rfl (hb hby d17_48)) ?_
  show G (T54.setTop (mkF me_ 49 #[.val (.ref b), .val (.int 1)] [(.int x1), (.int ((x0 &&& (255 : Int32)) <<< ((0 : Int32) &&& 31)))]))
  refine gv (fun _ kQ => XS.sipush X54.here hx rfl (hb hby d17_49) (XS.iand X54.here hx rfl (hb hby d17_52) rfl kQ)) ?_
  obtain ⟨T56, X56, e56, st56⟩ := getS2 X54 hx hZ hown (host := "") (Or.inl (t_73 hw)) Via.refl e54 (u2.ext O0.2) (g := (mkF me_ 53 #[.val (.ref b), .val (.int 1)] [(.int (x1 &&& (255 : Int32))), (.int ((x0 &&& (255 : Int32)) <<< ((0 : Int32) &&& 31)))])) rfl (hb hby d17_53)
  refine gv st56 ?_
  refine gv (fun _ kQ => XS.ishl X56.here hx rfl (hb hby d17_56) rfl (XS.ior X56.here hx rfl (hb hby d17_57) rfl (XS.i2c X56.here hx rfl (hb hby d17_58) rfl kQ))) ?_
  refine gf _ (own_ret X56 Bd.notSynchronized (v := some (.int ((((x0 &&& (255 : Int32)) <<< ((0 : Int32) &&& 31)) ||| ((x1 &&& (255 : Int32)) <<< ((8 : Int32) &&& 31))).toUInt32.toUInt16.toUInt32.toInt32))) (own_rv Bd.returns) ?_ (by decide) (by decide) (fun fs hr => retN X56 hx (t := .char) Bd.returns (by simp) (hb hby d17_59) (by rw [(own_narC _)]; exact hr)))
  show Q_getc2_0 Z b k x0 x1 x2 x3 h0 n0 _ T56.heap _
  rw [e56]
  exact ⟨rfl, N0, rfl⟩
def Q_uat2_0 (Z : State) (b : Addr) (k : ClassId) (x0 x1 : Int32) (x2 x3 : Int32) (fmt : Value) (h0 : Heap) (n0 : Nat) (v : Option Value) (h : Heap) (L : List Loc) : Prop := v = some (.int (own_gc x0 x1)) ∧ Fr n0 L ∧ h = h0
theorem rm_uat2_0 (l : Launch) (Z : State) (a0 : Array Value) (hw : own_HW Z a0) (ws : List Jvm.Cond) (b : Addr) (k : ClassId) (x0 x1 : Int32) (x2 x3 : Int32) (fmt : Value) (h0 : Heap) (n0 : Nat) (O0 : Old Z n0 h0) (u0 : fmt.isRef = true) (u1 : Sta Z Z.heap "jdk/internal/util/Preconditions" "SIOOBE_FORMATTER" "Ljava/util/function/BiFunction;" fmt) (u2 : Sta Z Z.heap "java/lang/StringUTF16" "$assertionsDisabled" "Z" (.int 1)) (u3 : Sta Z Z.heap "java/lang/StringUTF16" "HI_BYTE_SHIFT" "I" (.int 0)) (u4 : Sta Z Z.heap "java/lang/StringUTF16" "LO_BYTE_SHIFT" "I" (.int 8)) (u5 : Arv Z h0 b k .byte (4 : Int32) [(.int x0), (.int x1), (.int x2), (.int x3)] (.int 0)) :
    own_Met l Z m_14 jdk_52_method_83_code 2 (some .char) ws (own_R 3 0 0 40) #[(.ref b), (.int 0)] h0 (Q_uat2_0 Z b k x0 x1 x2 x3 fmt h0 n0) := by
  refine own_open (plainFor_of_name pn_2) (fun pr_ en_ st_ me_ below meth_ co_ s₁ Bd hx hby hml hown hZ X0 e0 G gv gf => ?_)
  have N0 := Fr.nil n0
  refine gv (fun _ kQ => castTop (ef_4 me_ b (0 : Int32)) kQ) ?_
  show G (s₁.setTop (mkF me_ 0 #[.val (.ref b), .val (.int 0)] []))
  refine gv (fun _ kQ => XS.iloadN X0.here hx rfl (hb hby d21_0) rfl (XS.aloadN X0.here hx rfl (hb hby d21_1) rfl rfl kQ)) ?_
  obtain ⟨_, _, ⟨T57, L57, k57, n57⟩, -, X57, ⟨Lc57, hQ57, l57, y57, z57⟩, st57⟩ := Jvm.LawKit.callS X0 hx (y := m_15) hown (mvT hZ (t_93 hw)) (mvT hZ (t_94 hw)) (mvT hZ (t_50 hw)) (mvT hZ (t_95 hw)) (by decide) (backOf (W := 0) (rm_uci2 l Z a0 hw [] (0 : Int32) b k x0 x1 x2 x3 fmt h0 n0 O0 u0 u1 (by decide) (by decide) u5) hZ (t_95 hw) (t_50 hw) (by decide) (by decide)) (g := (mkF me_ 2 #[.val (.ref b), .val (.int 0)] [(.ref b), (.int 0)])) rfl (by rw [hml]; rfl) (argsL := [(.int 0), (.ref b)]) (rest := []) (lenOf pd_3 rfl) rfl (by show 2 * 0 + _ ≤ _; exact Nat.le_of_eq rfl) (hb hby d21_2) (fun _ _ => ⟨rfl, e0, (by decide : 0 + 0 ≤ _), (by decide : 0 + 0 ≤ _)⟩)
  dsimp only [Pt.U, Pt.locs, Pt.cells, Pt.slots] at X57 l57 y57 z57 st57 hQ57
  subst l57 y57 z57
  obtain ⟨rfl, Nq57, eq57⟩ := hQ57
  have N58 := Fr.app N0 Nq57
  refine gv st57 ?_
  refine gv (fun _ kQ => XS.aloadN X57.here hx rfl (hb hby d21_5) rfl rfl (XS.iloadN X57.here hx rfl (hb hby d21_6) rfl kQ)) ?_
  show G (T57.setTop (mkF me_ 7 #[.val (.ref b), .val (.int 0)] [(.int 0), (.ref b)]))
  obtain ⟨_, _, ⟨T59, L59, k59, n59⟩, -, X59, ⟨Lc59, hQ59, l59, y59, z59⟩, st59⟩ := Jvm.LawKit.callS X57 hx (y := m_19) hown (mvT hZ (t_74 hw)) (mvT hZ (t_75 hw)) (mvT hZ (t_50 hw)) (mvT hZ (t_76 hw)) (by decide) (backOf (W := 0) (rm_getc2_0 l Z a0 hw [] b k x0 x1 x2 x3 h0 n0 O0 u2 u3 u4 u5) hZ (t_76 hw) (t_50 hw) (by decide) (by decide)) (g := (mkF me_ 7 #[.val (.ref b), .val (.int 0)] [(.int 0), (.ref b)])) rfl (by rw [hml]; rfl) (argsL := [(.ref b), (.int 0)]) (rest := []) (lenOf pd_4 rfl) rfl (by show 2 * 0 + _ ≤ _; exact Nat.le_of_eq rfl) (hb hby d21_7) (fun _ _ => ⟨rfl, eq57, (by decide : 0 + 0 ≤ _), (by decide : 0 + 0 ≤ _)⟩)
  dsimp only [Pt.U, Pt.locs, Pt.cells, Pt.slots] at X59 l59 y59 z59 st59 hQ59
  subst l59 y59 z59
  obtain ⟨rfl, Nq59, eq59⟩ := hQ59
  have N60 := Fr.app N58 Nq59
  refine gv st59 ?_
  refine gf _ (own_ret X59 Bd.notSynchronized (v := some (.int (own_gc x0 x1))) (own_rv Bd.returns) ?_ (by decide) (by decide) (fun fs hr => retN X59 hx (t := .char) Bd.returns (by simp) (hb hby d21_10) (by rw [(own_gcn _ _)]; exact hr)))
  show Q_uat2_0 Z b k x0 x1 x2 x3 fmt h0 n0 _ T59.heap _
  rw [eq59]
  exact ⟨rfl, N60, rfl⟩
def Q_put4_0 (Z : State) (b : Addr) (c : Int32) (k : ClassId) (x0 x1 : Int32) (x2 x3 : Int32) (h0 : Heap) (n0 : Nat) (v : Option Value) (h : Heap) (L : List Loc) : Prop := v = none ∧ Fr n0 L ∧ Keep h0 h [b] ∧ (Arv Z h b k .byte (4 : Int32) [(.int ((c >>> ((0 : Int32) &&& 31)).toInt8.toInt32)), (.int ((c >>> ((8 : Int32) &&& 31)).toInt8.toInt32)), (.int x2), (.int x3)] (.int 0))
theorem rm_put4_0 (l : Launch) (Z : State) (a0 : Array Value) (hw : own_HW Z a0) (ws : List Jvm.Cond) (b : Addr) (c : Int32) (k : ClassId) (x0 x1 : Int32) (x2 x3 : Int32) (h0 : Heap) (n0 : Nat) (O0 : Old Z n0 h0) (u0 : Sta Z Z.heap "java/lang/StringUTF16" "$assertionsDisabled" "Z" (.int 1)) (u1 : Sta Z Z.heap "java/lang/StringUTF16" "HI_BYTE_SHIFT" "I" (.int 0)) (u2 : Sta Z Z.heap "java/lang/StringUTF16" "LO_BYTE_SHIFT" "I" (.int 8)) (u3 : Arv Z h0 b k .byte (4 : Int32) [(.int x0), (.int x1), (.int x2), (.int x3)] (.int 0)) (u4 : n0 ≤ b) :
    own_Met l Z m_23 jdk_52_method_4_code 3 none ws (own_R 0 0 0 0) #[(.ref b), (.int 0), (.int c)] h0 (Q_put4_0 Z b c k x0 x1 x2 x3 h0 n0) := by
  refine own_open (plainFor_of_name pn_2) (fun pr_ en_ st_ me_ below meth_ co_ s₁ Bd hx hby hml hown hZ X0 e0 G gv gf => ?_)
  have N0 := Fr.nil n0
  have K0 := Keep.refl h0 [b]
  refine gv (fun _ kQ => castTop (ef_5 me_ b (0 : Int32) c) kQ) ?_
  show G (s₁.setTop (mkF me_ 0 #[.val (.ref b), .val (.int 0), .val (.int c)] []))
  obtain ⟨T61, X61, e61, st61⟩ := getS2 X0 hx hZ hown (host := "") (Or.inl (t_71 hw)) Via.refl e0 (u0.ext O0.2) (g := (mkF me_ 0 #[.val (.ref b), .val (.int 0), .val (.int c)] [])) rfl (hb hby d16_0)
  refine gv st61 ?_
  refine gv (fun _ kQ => XS.ifYes X61.here hx rfl (pc0 := 3) (pc' := 28) rfl (hb hby d16_3) rfl ((if0 _ _).trans (feq (by decide : ¬ ((1 : Int32) = (0 : Int32)))).2) (by decide) (by decide) (XS.iloadN X61.here hx rfl (hb hby d16_28) rfl (XS.iconst X61.here hx rfl (hb hby d16_29) (XS.ishl X61.here hx rfl (hb hby d16_30) rfl kQ)))) ?_
  show G (T61.setTop (mkF me_ 31 #[.val (.ref b), .val (.int 0), .val (.int c)] [(.int ((0 : Int32) <<< ((1 : Int32) &&& 31)))]))
  rw [(by decide : ((0 : Int32) <<< ((1 : Int32) &&& 31)) = (0 : Int32))]
  refine gv (fun _ kQ => XS.istoreN X61.here hx rfl (hb hby d16_31) rfl (l' := #[.val (.ref b), .val (.int 0), .val (.int c)]) rfl (XS.aloadN X61.here hx rfl (hb hby d16_32) rfl rfl (XS.iloadN X61.here hx rfl (hb hby d16_33) rfl (XS.iinc X61.here hx rfl (hb hby d16_34) rfl (l' := #[.val (.ref b), .val (.int ((0 : Int32) + (1 : Int32))), .val (.int c)]) rfl kQ)))) ?_
  show G (T61.setTop (mkF me_ 37 #[.val (.ref b), .val (.int ((0 : Int32) + (1 : Int32))), .val (.int c)] [(.int 0), (.ref b)]))
  rw [(by decide : ((0 : Int32) + (1 : Int32)) = (1 : Int32))]
  refine gv (fun _ kQ => XS.iloadN X61.here hx rfl (hb hby d16_37) rfl kQ) ?_
  obtain ⟨T62, X62, e62, st62⟩ := getS2 X61 hx hZ hown (host := "") (Or.inl (t_72 hw)) Via.refl e61 (u1.ext O0.2) (g := (mkF me_ 38 #[.val (.ref b), .val (.int 1), .val (.int c)] [(.int c), (.int 0), (.ref b)])) rfl (hb hby d16_38)
  refine gv st62 ?_
  refine gv (fun _ kQ => XS.ishr X62.here hx rfl (hb hby d16_41) rfl (XS.i2b X62.here hx rfl (hb hby d16_42) rfl kQ)) ?_
  show G (T62.setTop (mkF me_ 43 #[.val (.ref b), .val (.int 1), .val (.int c)] [(.int ((c >>> ((0 : Int32) &&& 31)).toInt8.toInt32)), (.int 0), (.ref b)]))
  obtain ⟨cl63, Ar63, q63, S63, n63, H63, G63⟩ := (id u3)
  have in63 : ¬ ((0 : Int32) < 0 ∨ cl63.slots.size ≤ ((0 : Int32)).toNatClampNeg) := inb_of S63 ⟨by decide, by decide⟩
  obtain ⟨T63, h63, X63, e63, W63, st63⟩ := stB X62 hx hZ e62 Ar63 (j := (0 : Int32)) in63 (g := (mkF me_ 43 #[.val (.ref b), .val (.int 1), .val (.int c)] [(.int ((c >>> ((0 : Int32) &&& 31)).toInt8.toInt32)), (.int 0), (.ref b)])) rfl rfl (hb hby d16_43)
  have W63 : Wr h0 h63 b ((0 : Int32)).toNatClampNeg (.int ((c >>> ((0 : Int32) &&& 31)).toInt8.toInt32)) := by have z := W63; rw [(own_narB _)] at z; exact z
  refine gv st63 ?_
  have O65 := O0.wr W63 u4
  have K66 := K0.wr W63 (Or.inl (List.mem_of_getElem? (i := 0) rfl))
  have N67 := Fr.snoc X63 N0 u4
  have f64 : Arv Z h63 b k .byte (4 : Int32) [(.int ((c >>> ((0 : Int32) &&& 31)).toInt8.toInt32)), (.int x1), (.int x2), (.int x3)] (.int 0) := Arv.set Ar63 q63 S63 n63 H63 G63 (fits_nar_byte _) W63 0 rfl (Nat.le_of_ble_eq_true rfl)
  refine gv (fun _ kQ => XS.aloadN X63.here hx rfl (hb hby d16_44) rfl rfl (XS.iloadN X63.here hx rfl (hb hby d16_45) rfl (XS.iloadN X63.here hx rfl (hb hby d16_46) rfl kQ))) ?_
  show G (T63.setTop (mkF me_ 47 #[.val (.ref b), .val (.int 1), .val (.int c)] [(.int c), (.int 1), (.ref b)]))
  obtain ⟨T68, X68, e68, st68⟩ := getS2 X63 hx hZ hown (host := "") (Or.inl (t_73 hw)) Via.refl e63 (u2.ext O65.2) (g := (mkF me_ 47 #[.val (.ref b), .val (.int 1), .val (.int c)] [(.int c), (.int 1), (.ref b)])) rfl (hb hby d16_47)
  refine gv st68 ?_
  refine gv (fun _ kQ => XS.ishr X68.here hx rfl (hb hby d16_50) rfl (XS.i2b X68.here hx rfl (hb hby d16_51) rfl kQ)) ?_
  show G (T68.setTop (mkF me_ 52 #[.val (.ref b), .val (.int 1), .val (.int c)] [(.int ((c >>> ((8 : Int32) &&& 31)).toInt8.toInt32)), (.int 1), (.ref b)]))
  obtain ⟨cl69, Ar69, q69, S69, n69, H69, G69⟩ := (id f64)
  have in69 : ¬ ((1 : Int32) < 0 ∨ cl69.slots.size ≤ ((1 : Int32)).toNatClampNeg) := inb_of S69 ⟨by decide, by decide⟩
  obtain ⟨T69, h69, X69, e69, W69, st69⟩ := stB X68 hx hZ e68 Ar69 (j := (1 : Int32)) in69 (g := (mkF me_ 52 #[.val (.ref b), .val (.int 1), .val (.int c)] [(.int ((c >>> ((8 : Int32) &&& 31)).toInt8.toInt32)), (.int 1), (.ref b)])) rfl rfl (hb hby d16_52)
  have W69 : Wr h63 h69 b ((1 : Int32)).toNatClampNeg (.int ((c >>> ((8 : Int32) &&& 31)).toInt8.toInt32)) := by have z := W69; rw [(own_narB _)] at z; exact z
  refine gv st69 ?_
  have K72 := K66.wr W69 (Or.inl (List.mem_of_getElem? (i := 0) rfl))
  have N73 := Fr.snoc X69 N67 u4
  have f70 : Arv Z h69 b k .byte (4 : Int32) [(.int ((c >>> ((0 : Int32) &&& 31)).toInt8.toInt32)), (.int ((c >>> ((8 : Int32) &&& 31)).toInt8.toInt32)), (.int x2), (.int x3)] (.int 0) := Arv.set Ar69 q69 S69 n69 H69 G69 (fits_nar_byte _) W69 1 rfl (Nat.le_of_ble_eq_true rfl)
  refine gf _ (own_ret X69 Bd.notSynchronized (v := none) (fun _ => rfl) ?_ (by decide) (by decide) (fun fs hr => X69.returnOut hx Bd.returns (hb hby d16_53) hr))
  show Q_put4_0 Z b c k x0 x1 x2 x3 h0 n0 _ T69.heap _
  rw [e69]
  exact ⟨rfl, N73, K72, f70⟩
def Q_l1at2_1 (Z : State) (b : Addr) (k : ClassId) (x0 x1 : Int32) (fmt : Value) (h0 : Heap) (n0 : Nat) (v : Option Value) (h : Heap) (L : List Loc) : Prop := v = some (.int ((x1 &&& (255 : Int32)).toUInt32.toUInt16.toUInt32.toInt32)) ∧ Fr n0 L ∧ h = h0
theorem rm_l1at2_1 (l : Launch) (Z : State) (a0 : Array Value) (hw : own_HW Z a0) (ws : List Jvm.Cond) (b : Addr) (k : ClassId) (x0 x1 : Int32) (fmt : Value) (h0 : Heap) (n0 : Nat) (O0 : Old Z n0 h0) (u0 : fmt.isRef = true) (u1 : Sta Z Z.heap "jdk/internal/util/Preconditions" "SIOOBE_FORMATTER" "Ljava/util/function/BiFunction;" fmt) (u2 : Arv Z h0 b k .byte (2 : Int32) [(.int x0), (.int x1)] (.int 0)) :
    own_Met l Z m_13 jdk_43_method_2_code 2 (some .char) ws (own_R 2 0 0 27) #[(.ref b), (.int 1)] h0 (Q_l1at2_1 Z b k x0 x1 fmt h0 n0) := by
  refine own_open (plainFor_of_name pn_3) (fun pr_ en_ st_ me_ below meth_ co_ s₁ Bd hx hby hml hown hZ X0 e0 G gv gf => ?_)
  have N0 := Fr.nil n0
  refine gv (fun _ kQ => castTop (ef_4 me_ b (1 : Int32)) kQ) ?_
  show G (s₁.setTop (mkF me_ 0 #[.val (.ref b), .val (.int 1)] []))
  refine gv (fun _ kQ => XS.iloadN X0.here hx rfl (hb hby d26_0) rfl (XS.aloadN X0.here hx rfl (hb hby d26_1) rfl rfl kQ)) ?_
  obtain ⟨cl74, Ar74, -, S74, n74, -, -⟩ := (id u2)
  refine gv (X0.arraylength hx (by rw [e0]; exact Ar74.1) (State.isArrayOf_alike hZ.alike Ar74.2.1) (g := (mkF me_ 2 #[.val (.ref b), .val (.int 1)] [(.ref b), (.int 1)])) rfl rfl (hb hby d26_2)) ?_
  rw [len_of S74 n74]
  obtain ⟨_, _, ⟨T75, L75, k75, n75⟩, -, X75, ⟨Lc75, hQ75, l75, y75, z75⟩, st75⟩ := Jvm.LawKit.callS X0 hx (y := m_9) hown (mvT hZ (t_111 hw)) (mvT hZ (t_100 hw)) (mvT hZ (t_13 hw)) (mvT hZ (t_101 hw)) (by decide) (backOf (W := 0) (rm_scx l Z a0 hw [] (1 : Int32) (2 : Int32) fmt h0 n0 O0 u0 u1 (by decide) (by decide)) hZ (t_101 hw) (t_13 hw) (by decide) (by decide)) (g := (mkF me_ 3 #[.val (.ref b), .val (.int 1)] [(.int 2), (.int 1)])) rfl (by rw [hml]; rfl) (argsL := [(.int 1), (.int 2)]) (rest := []) (lenOf pd_2 rfl) rfl (by show 2 * 0 + _ ≤ _; exact Nat.le_of_eq rfl) (hb hby d26_3) (fun _ _ => ⟨rfl, e0, (by decide : 0 + 0 ≤ _), (by decide : 0 + 0 ≤ _)⟩)
  dsimp only [Pt.U, Pt.locs, Pt.cells, Pt.slots] at X75 l75 y75 z75 st75 hQ75
  subst l75 y75 z75
  obtain ⟨rfl, Nq75, eq75⟩ := hQ75
  have N76 := Fr.app N0 Nq75
  refine gv st75 ?_
  refine gv (fun _ kQ => XS.aloadN X75.here hx rfl (hb hby d26_6) rfl rfl (XS.iloadN X75.here hx rfl (hb hby d26_7) rfl kQ)) ?_
  show G (T75.setTop (mkF me_ 8 #[.val (.ref b), .val (.int 1)] [(.int 1), (.ref b)]))
  obtain ⟨cl77, Ar77, q77, S77, n77, H77, G77⟩ := (id u2)
  have in77 : ¬ ((1 : Int32) < 0 ∨ cl77.slots.size ≤ ((1 : Int32)).toNatClampNeg) := inb_of S77 ⟨by decide, by decide⟩
  refine gv (X75.baloadBytes hx (j := (1 : Int32)) (v := (.int x1)) (by rw [eq75]; exact Ar77.1) (State.isArrayOf_alike hZ.alike Ar77.2.1) Ar77.2.2 in77 (Has.at H77 in77 rfl) (g := (mkF me_ 8 #[.val (.ref b), .val (.int 1)] [(.int 1), (.ref b)])) rfl rfl (hb hby d26_8)) ?_
  show G (T75.setTop (mkF me_ 9 #[.val (.ref b), .val (.int 1)] [(.int x1)]))
  refine gv (fun _ kQ => XS.sipush X75.here hx rfl (hb hby d26_9) (XS.iand X75.here hx rfl (hb hby d26_12) rfl (XS.i2c X75.here hx rfl (hb hby d26_13) rfl kQ))) ?_
  refine gf _ (own_ret X75 Bd.notSynchronized (v := some (.int ((x1 &&& (255 : Int32)).toUInt32.toUInt16.toUInt32.toInt32))) (own_rv Bd.returns) ?_ (by decide) (by decide) (fun fs hr => retN X75 hx (t := .char) Bd.returns (by simp) (hb hby d26_14) (by rw [(own_narC _)]; exact hr)))
  show Q_l1at2_1 Z b k x0 x1 fmt h0 n0 _ T75.heap _
  rw [eq75]
  exact ⟨rfl, N76, rfl⟩
def Q_getc2_1 (Z : State) (b : Addr) (k : ClassId) (x0 x1 : Int32) (x2 x3 : Int32) (h0 : Heap) (n0 : Nat) (v : Option Value) (h : Heap) (L : List Loc) : Prop := v = some (.int (own_gc x2 x3)) ∧ Fr n0 L ∧ h = h0
theorem rm_getc2_1 (l : Launch) (Z : State) (a0 : Array Value) (hw : own_HW Z a0) (ws : List Jvm.Cond) (b : Addr) (k : ClassId) (x0 x1 : Int32) (x2 x3 : Int32) (h0 : Heap) (n0 : Nat) (O0 : Old Z n0 h0) (u0 : Sta Z Z.heap "java/lang/StringUTF16" "$assertionsDisabled" "Z" (.int 1)) (u1 : Sta Z Z.heap "java/lang/StringUTF16" "HI_BYTE_SHIFT" "I" (.int 0)) (u2 : Sta Z Z.heap "java/lang/StringUTF16" "LO_BYTE_SHIFT" "I" (.int 8)) (u3 : Arv Z h0 b k .byte (4 : Int32) [(.int x0), (.int x1), (.int x2), (.int x3)] (.int 0)) :
    own_Met l Z m_19 jdk_52_method_5_code 2 (some .char) ws (own_R 0 0 0 0) #[(.ref b), (.int 1)] h0 (Q_getc2_1 Z b k x0 x1 x2 x3 h0 n0) := by
  refine own_open (plainFor_of_name pn_2) (fun pr_ en_ st_ me_ below meth_ co_ s₁ Bd hx hby hml hown hZ X0 e0 G gv gf => ?_)
  have N0 := Fr.nil n0
  refine gv (fun _ kQ => castTop (ef_4 me_ b (1 : Int32)) kQ) ?_
  show G (s₁.setTop (mkF me_ 0 #[.val (.ref b), .val (.int 1)] []))
  obtain ⟨T78, X78, e78, st78⟩ := getS2 X0 hx hZ hown (host := "") (Or.inl (t_71 hw)) Via.refl e0 (u0.ext O0.2) (g := (mkF me_ 0 #[.val (.ref b), .val (.int 1)] [])) rfl (hb hby d17_0)
  refine gv st78 ?_
  refine gv (fun _ kQ => XS.ifYes X78.here hx rfl (pc0 := 3) (pc' := 28) rfl (hb hby d17_3) rfl ((if0 _ _).trans (feq (by decide : ¬ ((1 : Int32) = (0 : Int32)))).2) (by decide) (by decide) (XS.iloadN X78.here hx rfl (hb hby d17_28) rfl (XS.iconst X78.here hx rfl (hb hby d17_29) (XS.ishl X78.here hx rfl (hb hby d17_30) rfl kQ)))) ?_
  show G (T78.setTop (mkF me_ 31 #[.val (.ref b), .val (.int 1)] [(.int ((1 : Int32) <<< ((1 : Int32) &&& 31)))]))
  rw [(by decide : ((1 : Int32) <<< ((1 : Int32) &&& 31)) = (2 : Int32))]
  refine gv (fun _ kQ => XS.istoreN X78.here hx rfl (hb hby d17_31) rfl (l' := #[.val (.ref b), .val (.int 2)]) rfl (XS.aloadN X78.here hx rfl (hb hby d17_32) rfl rfl (XS.iloadN X78.here hx rfl (hb hby d17_33) rfl (XS.iinc X78.here hx rfl (hb hby d17_34) rfl (l' := #[.val (.ref b), .val (.int ((2 : Int32) + (1 : Int32)))]) rfl kQ)))) ?_
  show G (T78.setTop (mkF me_ 37 #[.val (.ref b), .val (.int ((2 : Int32) + (1 : Int32)))] [(.int 2), (.ref b)]))
  rw [(by decide : ((2 : Int32) + (1 : Int32)) = (3 : Int32))]
  obtain ⟨cl79, Ar79, q79, S79, n79, H79, G79⟩ := (id u3)
  have in79 : ¬ ((2 : Int32) < 0 ∨ cl79.slots.size ≤ ((2 : Int32)).toNatClampNeg) := inb_of S79 ⟨by decide, by decide⟩
  refine gv (X78.baloadBytes hx (j := (2 : Int32)) (v := (.int x2)) (by rw [e78]; exact Ar79.1) (State.isArrayOf_alike hZ.alike Ar79.2.1) Ar79.2.2 in79 (Has.at H79 in79 rfl) (g := (mkF me_ 37 #[.val (.ref b), .val (.int 3)] [(.int 2), (.ref b)])) rfl rfl (hb hby d17_37)) ?_
  show G (T78.setTop (mkF me_ 38 #[.val (.ref b), .val (.int 3)] [(.int x2)]))
  refine gv (fun _ kQ => XS.sipush X78.here hx rfl (hb hby d17_38) (XS.iand X78.here hx rfl (hb hby d17_41) rfl kQ)) ?_
  obtain ⟨T80, X80, e80, st80⟩ := getS2 X78 hx hZ hown (host := "") (Or.inl (t_72 hw)) Via.refl e78 (u1.ext O0.2) (g := (mkF me_ 42 #[.val (.ref b), .val (.int 3)] [(.int (x2 &&& (255 : Int32)))])) rfl (hb hby d17_42)
  refine gv st80 ?_
  refine gv (fun _ kQ => XS.ishl X80.here hx rfl (hb hby d17_45) rfl (XS.aloadN X80.here hx rfl (hb hby d17_46) rfl rfl (XS.iloadN X80.here hx rfl (hb hby d17_47) rfl kQ))) ?_
  show G (T80.setTop (mkF me_ 48 #[.val (.ref b), .val (.int 3)] [(.int 3), (.ref b), (.int ((x2 &&& (255 : Int32)) <<< ((0 : Int32) &&& 31)))]))
  obtain ⟨cl81, Ar81, q81, S81, n81, H81, G81⟩ := (id u3)
  have in81 : ¬ ((3 : Int32) < 0 ∨ cl81.slots.size ≤ ((3 : Int32)).toNatClampNeg) := inb_of S81 ⟨by decide, by decide⟩
  refine gv (X80.baloadBytes hx (j := (3 : Int32)) (v := (.int x3)) (by rw [e80]; exact Ar81.1) (State.isArrayOf_alike hZ.alike Ar81.2.1) Ar81.2.2 in81 (Has.at H81 in81 rfl) (g := (mkF me_ 48 #[.val (.ref b), .val (.int 3)] [(.int 3), (.ref b), (.int ((x2 &&& (255 : Int32)) <<< ((0 : Int32) &&& 31)))])) rfl rfl (hb hby d17_48)) ?_
  show G (T80.setTop (mkF me_ 49 #[.val (.ref b), .val (.int 3)] [(.int x3), (.int ((x2 &&& (255 : Int32)) <<< ((0 : Int32) &&& 31)))]))
  refine gv (fun _ kQ => XS.sipush X80.here hx rfl (hb hby d17_49) (XS.iand X80.here hx rfl (hb hby d17_52) rfl kQ)) ?_
  obtain ⟨T82, X82, e82, st82⟩ := getS2 X80 hx hZ hown (host := "") (Or.inl (t_73 hw)) Via.refl e80 (u2.ext O0.2) (g := (mkF me_ 53 #[.val (.ref b), .val (.int 3)] [(.int (x3 &&& (255 : Int32))), (.int ((x2 &&& (255 : Int32)) <<< ((0 : Int32) &&& 31)))])) rfl (hb hby d17_53)
  refine gv st82 ?_
  refine gv (fun _ kQ => XS.ishl X82.here hx rfl (hb hby d17_56) rfl (XS.ior X82.here hx rfl (hb hby d17_57) rfl (XS.i2c X82.here hx rfl (hb hby d17_58) rfl kQ))) ?_
  refine gf _ (own_ret X82 Bd.notSynchronized (v := some (.int ((((x2 &&& (255 : Int32)) <<< ((0 : Int32) &&& 31)) ||| ((x3 &&& (255 : Int32)) <<< ((8 : Int32) &&& 31))).toUInt32.toUInt16.toUInt32.toInt32))) (own_rv Bd.returns) ?_ (by decide) (by decide) (fun fs hr => retN X82 hx (t := .char) Bd.returns (by simp) (hb hby d17_59) (by rw [(own_narC _)]; exact hr)))
  show Q_getc2_1 Z b k x0 x1 x2 x3 h0 n0 _ T82.heap _
  rw [e82]
  exact ⟨rfl, N0, rfl⟩
def Q_uat2_1 (Z : State) (b : Addr) (k : ClassId) (x0 x1 : Int32) (x2 x3 : Int32) (fmt : Value) (h0 : Heap) (n0 : Nat) (v : Option Value) (h : Heap) (L : List Loc) : Prop := v = some (.int (own_gc x2 x3)) ∧ Fr n0 L ∧ h = h0
theorem rm_uat2_1 (l : Launch) (Z : State) (a0 : Array Value) (hw : own_HW Z a0) (ws : List Jvm.Cond) (b : Addr) (k : ClassId) (x0 x1 : Int32) (x2 x3 : Int32) (fmt : Value) (h0 : Heap) (n0 : Nat) (O0 : Old Z n0 h0) (u0 : fmt.isRef = true) (u1 : Sta Z Z.heap "jdk/internal/util/Preconditions" "SIOOBE_FORMATTER" "Ljava/util/function/BiFunction;" fmt) (u2 : Sta Z Z.heap "java/lang/StringUTF16" "$assertionsDisabled" "Z" (.int 1)) (u3 : Sta Z Z.heap "java/lang/StringUTF16" "HI_BYTE_SHIFT" "I" (.int 0)) (u4 : Sta Z Z.heap "java/lang/StringUTF16" "LO_BYTE_SHIFT" "I" (.int 8)) (u5 : Arv Z h0 b k .byte (4 : Int32) [(.int x0), (.int x1), (.int x2), (.int x3)] (.int 0)) :
    own_Met l Z m_14 jdk_52_method_83_code 2 (some .char) ws (own_R 3 0 0 40) #[(.ref b), (.int 1)] h0 (Q_uat2_1 Z b k x0 x1 x2 x3 fmt h0 n0) := by
  refine own_open (plainFor_of_name pn_2) (fun pr_ en_ st_ me_ below meth_ co_ s₁ Bd hx hby hml hown hZ X0 e0 G gv gf => ?_)
  have N0 := Fr.nil n0
  refine gv (fun _ kQ => castTop (ef_4 me_ b (1 : Int32)) kQ) ?_
  show G (s₁.setTop (mkF me_ 0 #[.val (.ref b), .val (.int 1)] []))
  refine gv (fun _ kQ => XS.iloadN X0.here hx rfl (hb hby d21_0) rfl (XS.aloadN X0.here hx rfl (hb hby d21_1) rfl rfl kQ)) ?_
  obtain ⟨_, _, ⟨T83, L83, k83, n83⟩, -, X83, ⟨Lc83, hQ83, l83, y83, z83⟩, st83⟩ := Jvm.LawKit.callS X0 hx (y := m_15) hown (mvT hZ (t_93 hw)) (mvT hZ (t_94 hw)) (mvT hZ (t_50 hw)) (mvT hZ (t_95 hw)) (by decide) (backOf (W := 0) (rm_uci2 l Z a0 hw [] (1 : Int32) b k x0 x1 x2 x3 fmt h0 n0 O0 u0 u1 (by decide) (by decide) u5) hZ (t_95 hw) (t_50 hw) (by decide) (by decide)) (g := (mkF me_ 2 #[.val (.ref b), .val (.int 1)] [(.ref b), (.int 1)])) rfl (by rw [hml]; rfl) (argsL := [(.int 1), (.ref b)]) (rest := []) (lenOf pd_3 rfl) rfl (by show 2 * 0 + _ ≤ _; exact Nat.le_of_eq rfl) (hb hby d21_2) (fun _ _ => ⟨rfl, e0, (by decide : 0 + 0 ≤ _), (by decide : 0 + 0 ≤ _)⟩)
  dsimp only [Pt.U, Pt.locs, Pt.cells, Pt.slots] at X83 l83 y83 z83 st83 hQ83
  subst l83 y83 z83
  obtain ⟨rfl, Nq83, eq83⟩ := hQ83
  have N84 := Fr.app N0 Nq83
  refine gv st83 ?_
  refine gv (fun _ kQ => XS.aloadN X83.here hx rfl (hb hby d21_5) rfl rfl (XS.iloadN X83.here hx rfl (hb hby d21_6) rfl kQ)) ?_
  show G (T83.setTop (mkF me_ 7 #[.val (.ref b), .val (.int 1)] [(.int 1), (.ref b)]))
  obtain ⟨_, _, ⟨T85, L85, k85, n85⟩, -, X85, ⟨Lc85, hQ85, l85, y85, z85⟩, st85⟩ := Jvm.LawKit.callS X83 hx (y := m_19) hown (mvT hZ (t_74 hw)) (mvT hZ (t_75 hw)) (mvT hZ (t_50 hw)) (mvT hZ (t_76 hw)) (by decide) (backOf (W := 0) (rm_getc2_1 l Z a0 hw [] b k x0 x1 x2 x3 h0 n0 O0 u2 u3 u4 u5) hZ (t_76 hw) (t_50 hw) (by decide) (by decide)) (g := (mkF me_ 7 #[.val (.ref b), .val (.int 1)] [(.int 1), (.ref b)])) rfl (by rw [hml]; rfl) (argsL := [(.ref b), (.int 1)]) (rest := []) (lenOf pd_4 rfl) rfl (by show 2 * 0 + _ ≤ _; exact Nat.le_of_eq rfl) (hb hby d21_7) (fun _ _ => ⟨rfl, eq83, (by decide : 0 + 0 ≤ _), (by decide : 0 + 0 ≤ _)⟩)
  dsimp only [Pt.U, Pt.locs, Pt.cells, Pt.slots] at X85 l85 y85 z85 st85 hQ85
  subst l85 y85 z85
  obtain ⟨rfl, Nq85, eq85⟩ := hQ85
  have N86 := Fr.app N84 Nq85
  refine gv st85 ?_
  refine gf _ (own_ret X85 Bd.notSynchronized (v := some (.int (own_gc x2 x3))) (own_rv Bd.returns) ?_ (by decide) (by decide) (fun fs hr => retN X85 hx (t := .char) Bd.returns (by simp) (hb hby d21_10) (by rw [(own_gcn _ _)]; exact hr)))
  show Q_uat2_1 Z b k x0 x1 x2 x3 fmt h0 n0 _ T85.heap _
  rw [eq85]
  exact ⟨rfl, N86, rfl⟩
def Q_put4_1 (Z : State) (b : Addr) (c : Int32) (k : ClassId) (x0 x1 : Int32) (x2 x3 : Int32) (h0 : Heap) (n0 : Nat) (v : Option Value) (h : Heap) (L : List Loc) : Prop := v = none ∧ Fr n0 L ∧ Keep h0 h [b] ∧ (Arv Z h b k .byte (4 : Int32) [(.int x0), (.int x1), (.int ((c >>> ((0 : Int32) &&& 31)).toInt8.toInt32)), (.int ((c >>> ((8 : Int32) &&& 31)).toInt8.toInt32))] (.int 0))
theorem rm_put4_1 (l : Launch) (Z : State) (a0 : Array Value) (hw : own_HW Z a0) (ws : List Jvm.Cond) (b : Addr) (c : Int32) (k : ClassId) (x0 x1 : Int32) (x2 x3 : Int32) (h0 : Heap) (n0 : Nat) (O0 : Old Z n0 h0) (u0 : Sta Z Z.heap "java/lang/StringUTF16" "$assertionsDisabled" "Z" (.int 1)) (u1 : Sta Z Z.heap "java/lang/StringUTF16" "HI_BYTE_SHIFT" "I" (.int 0)) (u2 : Sta Z Z.heap "java/lang/StringUTF16" "LO_BYTE_SHIFT" "I" (.int 8)) (u3 : Arv Z h0 b k .byte (4 : Int32) [(.int x0), (.int x1), (.int x2), (.int x3)] (.int 0)) (u4 : n0 ≤ b) :
    own_Met l Z m_23 jdk_52_method_4_code 3 none ws (own_R 0 0 0 0) #[(.ref b), (.int 1), (.int c)] h0 (Q_put4_1 Z b c k x0 x1 x2 x3 h0 n0) := by
  refine own_open (plainFor_of_name pn_2) (fun pr_ en_ st_ me_ below meth_ co_ s₁ Bd hx hby hml hown hZ X0 e0 G gv gf => ?_)
  have N0 := Fr.nil n0
  have K0 := Keep.refl h0 [b]
  refine gv (fun _ kQ => castTop (ef_5 me_ b (1 : Int32) c) kQ) ?_
  show G (s₁.setTop (mkF me_ 0 #[.val (.ref b), .val (.int 1), .val (.int c)] []))
  obtain ⟨T87, X87, e87, st87⟩ := getS2 X0 hx hZ hown (host := "") (Or.inl (t_71 hw)) Via.refl e0 (u0.ext O0.2) (g := (mkF me_ 0 #[.val (.ref b), .val (.int 1), .val (.int c)] [])) rfl (hb hby d16_0)
  refine gv st87 ?_
  refine gv (fun _ kQ => XS.ifYes X87.here hx rfl (pc0 := 3) (pc' := 28) rfl (hb hby d16_3) rfl ((if0 _ _).trans (feq (by decide : ¬ ((1 : Int32) = (0 : Int32)))).2) (by decide) (by decide) (XS.iloadN X87.here hx rfl (hb hby d16_28) rfl (XS.iconst X87.here hx rfl (hb hby d16_29) (XS.ishl X87.here hx rfl (hb hby d16_30) rfl kQ)))) ?_
  show G (T87.setTop (mkF me_ 31 #[.val (.ref b), .val (.int 1), .val (.int c)] [(.int ((1 : Int32) <<< ((1 : Int32) &&& 31)))]))
  rw [(by decide : ((1 : Int32) <<< ((1 : Int32) &&& 31)) = (2 : Int32))]
  refine gv (fun _ kQ => XS.istoreN X87.here hx rfl (hb hby d16_31) rfl (l' := #[.val (.ref b), .val (.int 2), .val (.int c)]) rfl (XS.aloadN X87.here hx rfl (hb hby d16_32) rfl rfl (XS.iloadN X87.here hx rfl (hb hby d16_33) rfl (XS.iinc X87.here hx rfl (hb hby d16_34) rfl (l' := #[.val (.ref b), .val (.int ((2 : Int32) + (1 : Int32))), .val (.int c)]) rfl kQ)))) ?_
  show G (T87.setTop (mkF me_ 37 #[.val (.ref b), .val (.int ((2 : Int32) + (1 : Int32))), .val (.int c)] [(.int 2), (.ref b)]))
  rw [(by decide : ((2 : Int32) + (1 : Int32)) = (3 : Int32))]
  refine gv (fun _ kQ => XS.iloadN X87.here hx rfl (hb hby d16_37) rfl kQ) ?_
  obtain ⟨T88, X88, e88, st88⟩ := getS2 X87 hx hZ hown (host := "") (Or.inl (t_72 hw)) Via.refl e87 (u1.ext O0.2) (g := (mkF me_ 38 #[.val (.ref b), .val (.int 3), .val (.int c)] [(.int c), (.int 2), (.ref b)])) rfl (hb hby d16_38)
  refine gv st88 ?_
  refine gv (fun _ kQ => XS.ishr X88.here hx rfl (hb hby d16_41) rfl (XS.i2b X88.here hx rfl (hb hby d16_42) rfl kQ)) ?_
  show G (T88.setTop (mkF me_ 43 #[.val (.ref b), .val (.int 3), .val (.int c)] [(.int ((c >>> ((0 : Int32) &&& 31)).toInt8.toInt32)), (.int 2), (.ref b)]))
  obtain ⟨cl89, Ar89, q89, S89, n89, H89, G89⟩ := (id u3)
  have in89 : ¬ ((2 : Int32) < 0 ∨ cl89.slots.size ≤ ((2 : Int32)).toNatClampNeg) := inb_of S89 ⟨by decide, by decide⟩
  obtain ⟨T89, h89, X89, e89, W89, st89⟩ := stB X88 hx hZ e88 Ar89 (j := (2 : Int32)) in89 (g := (mkF me_ 43 #[.val (.ref b), .val (.int 3), .val (.int c)] [(.int ((c >>> ((0 : Int32) &&& 31)).toInt8.toInt32)), (.int 2), (.ref b)])) rfl rfl (hb hby d16_43)
  have W89 : Wr h0 h89 b ((2 : Int32)).toNatClampNeg (.int ((c >>> ((0 : Int32) &&& 31)).toInt8.toInt32)) := by have z := W89; rw [(own_narB _)] at z; exact z
  refine gv st89 ?_
  have O91 := O0.wr W89 u4
  have K92 := K0.wr W89 (Or.inl (List.mem_of_getElem? (i := 0) rfl))
  have N93 := Fr.snoc X89 N0 u4
  have f90 : Arv Z h89 b k .byte (4 : Int32) [(.int x0), (.int x1), (.int ((c >>> ((0 : Int32) &&& 31)).toInt8.toInt32)), (.int x3)] (.int 0) := Arv.set Ar89 q89 S89 n89 H89 G89 (fits_nar_byte _) W89 2 rfl (Nat.le_of_ble_eq_true rfl)
  refine gv (fun _ kQ => XS.aloadN X89.here hx rfl (hb hby d16_44) rfl rfl (XS.iloadN X89.here hx rfl (hb hby d16_45) rfl (XS.iloadN X89.here hx rfl (hb hby d16_46) rfl kQ))) ?_
  show G (T89.setTop (mkF me_ 47 #[.val (.ref b), .val (.int 3), .val (.int c)] [(.int c), (.int 3), (.ref b)]))
  obtain ⟨T94, X94, e94, st94⟩ := getS2 X89 hx hZ hown (host := "") (Or.inl (t_73 hw)) Via.refl e89 (u2.ext O91.2) (g := (mkF me_ 47 #[.val (.ref b), .val (.int 3), .val (.int c)] [(.int c), (.int 3), (.ref b)])) rfl (hb hby d16_47)
  refine gv st94 ?_
  refine gv (fun _ kQ => XS.ishr X94.here hx rfl (hb hby d16_50) rfl (XS.i2b X94.here hx rfl (hb hby d16_51) rfl kQ)) ?_
  show G (T94.setTop (mkF me_ 52 #[.val (.ref b), .val (.int 3), .val (.int c)] [(.int ((c >>> ((8 : Int32) &&& 31)).toInt8.toInt32)), (.int 3), (.ref b)]))
  obtain ⟨cl95, Ar95, q95, S95, n95, H95, G95⟩ := (id f90)
  have in95 : ¬ ((3 : Int32) < 0 ∨ cl95.slots.size ≤ ((3 : Int32)).toNatClampNeg) := inb_of S95 ⟨by decide, by decide⟩
  obtain ⟨T95, h95, X95, e95, W95, st95⟩ := stB X94 hx hZ e94 Ar95 (j := (3 : Int32)) in95 (g := (mkF me_ 52 #[.val (.ref b), .val (.int 3), .val (.int c)] [(.int ((c >>> ((8 : Int32) &&& 31)).toInt8.toInt32)), (.int 3), (.ref b)])) rfl rfl (hb hby d16_52)
  have W95 : Wr h89 h95 b ((3 : Int32)).toNatClampNeg (.int ((c >>> ((8 : Int32) &&& 31)).toInt8.toInt32)) := by have z := W95; rw [(own_narB _)] at z; exact z
  refine gv st95 ?_
  have K98 := K92.wr W95 (Or.inl (List.mem_of_getElem? (i := 0) rfl))
  have N99 := Fr.snoc X95 N93 u4
  have f96 : Arv Z h95 b k .byte (4 : Int32) [(.int x0), (.int x1), (.int ((c >>> ((0 : Int32) &&& 31)).toInt8.toInt32)), (.int ((c >>> ((8 : Int32) &&& 31)).toInt8.toInt32))] (.int 0) := Arv.set Ar95 q95 S95 n95 H95 G95 (fits_nar_byte _) W95 3 rfl (Nat.le_of_ble_eq_true rfl)
  refine gf _ (own_ret X95 Bd.notSynchronized (v := none) (fun _ => rfl) ?_ (by decide) (by decide) (fun fs hr => X95.returnOut hx Bd.returns (hb hby d16_53) hr))
  show Q_put4_1 Z b c k x0 x1 x2 x3 h0 n0 _ T95.heap _
  rw [e95]
  exact ⟨rfl, N99, K98, f96⟩
def Q_ulen3 (Z : State) (b : Addr) (k : ClassId) (x0 x1 : Int32) (x2 x3 : Int32) (x4 x5 : Int32) (h0 : Heap) (n0 : Nat) (v : Option Value) (h : Heap) (L : List Loc) : Prop := v = some (.int 3) ∧ Fr n0 L ∧ h = h0
theorem rm_ulen3 (l : Launch) (Z : State) (a0 : Array Value) (hw : own_HW Z a0) (ws : List Jvm.Cond) (b : Addr) (k : ClassId) (x0 x1 : Int32) (x2 x3 : Int32) (x4 x5 : Int32) (h0 : Heap) (n0 : Nat) (O0 : Old Z n0 h0) (u0 : Arv Z h0 b k .byte (6 : Int32) [(.int x0), (.int x1), (.int x2), (.int x3), (.int x4), (.int x5)] (.int 0)) :
    own_Met l Z m_20 jdk_52_method_6_code 1 (some .int) ws (own_R 0 0 0 0) #[(.ref b)] h0 (Q_ulen3 Z b k x0 x1 x2 x3 x4 x5 h0 n0) := by
  refine own_open (plainFor_of_name pn_2) (fun pr_ en_ st_ me_ below meth_ co_ s₁ Bd hx hby hml hown hZ X0 e0 G gv gf => ?_)
  have N0 := Fr.nil n0
  refine gv (fun _ kQ => castTop (ef_0 me_ b) kQ) ?_
  show G (s₁.setTop (mkF me_ 0 #[.val (.ref b)] []))
  refine gv (fun _ kQ => XS.aloadN X0.here hx rfl (hb hby d23_0) rfl rfl kQ) ?_
  obtain ⟨cl100, Ar100, -, S100, n100, -, -⟩ := (id u0)
  refine gv (X0.arraylength hx (by rw [e0]; exact Ar100.1) (State.isArrayOf_alike hZ.alike Ar100.2.1) (g := (mkF me_ 1 #[.val (.ref b)] [(.ref b)])) rfl rfl (hb hby d23_1)) ?_
  rw [len_of S100 n100]
  refine gv (fun _ kQ => XS.iconst X0.here hx rfl (hb hby d23_2) (XS.ishr X0.here hx rfl (hb hby d23_3) rfl kQ)) ?_
  show G (s₁.setTop (mkF me_ 4 #[.val (.ref b)] [(.int ((6 : Int32) >>> ((1 : Int32) &&& 31)))]))
  rw [(by decide : ((6 : Int32) >>> ((1 : Int32) &&& 31)) = (3 : Int32))]
  refine gf _ (own_ret X0 Bd.notSynchronized (v := some (.int 3)) (own_rv Bd.returns) ?_ (by decide) (by decide) (fun fs hr => retOut X0 hx (t := .int) Bd.returns rfl (Or.inl ⟨rfl, Or.inl rfl, _, rfl⟩) (hb hby d23_4) hr))
  show Q_ulen3 Z b k x0 x1 x2 x3 x4 x5 h0 n0 _ s₁.heap _
  rw [e0]
  exact ⟨rfl, N0, rfl⟩
def Q_uci3 (Z : State) (i_ : Int32) (b : Addr) (k : ClassId) (x0 x1 : Int32) (x2 x3 : Int32) (x4 x5 : Int32) (fmt : Value) (h0 : Heap) (n0 : Nat) (v : Option Value) (h : Heap) (L : List Loc) : Prop := v = none ∧ Fr n0 L ∧ h = h0
theorem rm_uci3 (l : Launch) (Z : State) (a0 : Array Value) (hw : own_HW Z a0) (ws : List Jvm.Cond) (i_ : Int32) (b : Addr) (k : ClassId) (x0 x1 : Int32) (x2 x3 : Int32) (x4 x5 : Int32) (fmt : Value) (h0 : Heap) (n0 : Nat) (O0 : Old Z n0 h0) (u0 : fmt.isRef = true) (u1 : Sta Z Z.heap "jdk/internal/util/Preconditions" "SIOOBE_FORMATTER" "Ljava/util/function/BiFunction;" fmt) (u2 : ¬ (i_ < (0 : Int32))) (u3 : i_ < (3 : Int32)) (u4 : Arv Z h0 b k .byte (6 : Int32) [(.int x0), (.int x1), (.int x2), (.int x3), (.int x4), (.int x5)] (.int 0)) :
    own_Met l Z m_15 jdk_52_method_91_code 2 none ws (own_R 2 0 0 27) #[(.int i_), (.ref b)] h0 (Q_uci3 Z i_ b k x0 x1 x2 x3 x4 x5 fmt h0 n0) := by
  refine own_open (plainFor_of_name pn_2) (fun pr_ en_ st_ me_ below meth_ co_ s₁ Bd hx hby hml hown hZ X0 e0 G gv gf => ?_)
  have N0 := Fr.nil n0
  refine gv (fun _ kQ => castTop (ef_3 me_ i_ b) kQ) ?_
  show G (s₁.setTop (mkF me_ 0 #[.val (.int i_), .val (.ref b)] []))
  refine gv (fun _ kQ => XS.iloadN X0.here hx rfl (hb hby d22_0) rfl (XS.aloadN X0.here hx rfl (hb hby d22_1) rfl rfl kQ)) ?_
  obtain ⟨_, _, ⟨T101, L101, k101, n101⟩, -, X101, ⟨Lc101, hQ101, l101, y101, z101⟩, st101⟩ := Jvm.LawKit.callS X0 hx (y := m_20) hown (mvT hZ (t_96 hw)) (mvT hZ (t_97 hw)) (mvT hZ (t_50 hw)) (mvT hZ (t_98 hw)) (by decide) (backOf (W := 1) (rm_ulen3 l Z a0 hw [] b k x0 x1 x2 x3 x4 x5 h0 n0 O0 u4) hZ (t_98 hw) (t_50 hw) (by decide) (by decide)) (g := (mkF me_ 2 #[.val (.int i_), .val (.ref b)] [(.ref b), (.int i_)])) rfl (by rw [hml]; rfl) (argsL := [(.ref b)]) (rest := [(.int i_)]) (lenOf pd_1 rfl) rfl (by show 2 * 0 + _ ≤ _; exact Nat.le_of_eq rfl) (hb hby d22_2) (fun _ _ => ⟨rfl, e0, (by decide : 0 + 0 ≤ _), (by decide : 0 + 0 ≤ _)⟩)
  dsimp only [Pt.U, Pt.locs, Pt.cells, Pt.slots] at X101 l101 y101 z101 st101 hQ101
  subst l101 y101 z101
  obtain ⟨rfl, Nq101, eq101⟩ := hQ101
  have N102 := Fr.app N0 Nq101
  refine gv st101 ?_
  obtain ⟨_, _, ⟨T103, L103, k103, n103⟩, -, X103, ⟨Lc103, hQ103, l103, y103, z103⟩, st103⟩ := Jvm.LawKit.callS X101 hx (y := m_9) hown (mvT hZ (t_99 hw)) (mvT hZ (t_100 hw)) (mvT hZ (t_13 hw)) (mvT hZ (t_101 hw)) (by decide) (backOf (W := 0) (rm_scx l Z a0 hw [] i_ (3 : Int32) fmt h0 n0 O0 u0 u1 u2 u3) hZ (t_101 hw) (t_13 hw) (by decide) (by decide)) (g := (mkF me_ 5 #[.val (.int i_), .val (.ref b)] [(.int 3), (.int i_)])) rfl (by rw [hml]; rfl) (argsL := [(.int i_), (.int 3)]) (rest := []) (lenOf pd_2 rfl) rfl (by show 2 * 0 + _ ≤ _; exact Nat.le_of_eq rfl) (hb hby d22_5) (fun _ _ => ⟨rfl, eq101, (by decide : 0 + 0 ≤ _), (by decide : 0 + 0 ≤ _)⟩)
  dsimp only [Pt.U, Pt.locs, Pt.cells, Pt.slots] at X103 l103 y103 z103 st103 hQ103
  subst l103 y103 z103
  obtain ⟨rfl, Nq103, eq103⟩ := hQ103
  have N104 := Fr.app N102 Nq103
  refine gv st103 ?_
  refine gf _ (own_ret X103 Bd.notSynchronized (v := none) (fun _ => rfl) ?_ (by decide) (by decide) (fun fs hr => X103.returnOut hx Bd.returns (hb hby d22_8) hr))
  show Q_uci3 Z i_ b k x0 x1 x2 x3 x4 x5 fmt h0 n0 _ T103.heap _
  rw [eq103]
  exact ⟨rfl, N104, rfl⟩
def Q_l1at3_0 (Z : State) (b : Addr) (k : ClassId) (x0 x1 x2 : Int32) (fmt : Value) (h0 : Heap) (n0 : Nat) (v : Option Value) (h : Heap) (L : List Loc) : Prop := v = some (.int ((x0 &&& (255 : Int32)).toUInt32.toUInt16.toUInt32.toInt32)) ∧ Fr n0 L ∧ h = h0
theorem rm_l1at3_0 (l : Launch) (Z : State) (a0 : Array Value) (hw : own_HW Z a0) (ws : List Jvm.Cond) (b : Addr) (k : ClassId) (x0 x1 x2 : Int32) (fmt : Value) (h0 : Heap) (n0 : Nat) (O0 : Old Z n0 h0) (u0 : fmt.isRef = true) (u1 : Sta Z Z.heap "jdk/internal/util/Preconditions" "SIOOBE_FORMATTER" "Ljava/util/function/BiFunction;" fmt) (u2 : Arv Z h0 b k .byte (3 : Int32) [(.int x0), (.int x1), (.int x2)] (.int 0)) :
    own_Met l Z m_13 jdk_43_method_2_code 2 (some .char) ws (own_R 2 0 0 27) #[(.ref b), (.int 0)] h0 (Q_l1at3_0 Z b k x0 x1 x2 fmt h0 n0) := by
  refine own_open (plainFor_of_name pn_3) (fun pr_ en_ st_ me_ below meth_ co_ s₁ Bd hx hby hml hown hZ X0 e0 G gv gf => ?_)
  have N0 := Fr.nil n0
  refine gv (fun _ kQ => castTop (ef_4 me_ b (0 : Int32)) kQ) ?_
  show G (s₁.setTop (mkF me_ 0 #[.val (.ref b), .val (.int 0)] []))
  refine gv (fun _ kQ => XS.iloadN X0.here hx rfl (hb hby d26_0) rfl (XS.aloadN X0.here hx rfl (hb hby d26_1) rfl rfl kQ)) ?_
  obtain ⟨cl105, Ar105, -, S105, n105, -, -⟩ := (id u2)
  refine gv (X0.arraylength hx (by rw [e0]; exact Ar105.1) (State.isArrayOf_alike hZ.alike Ar105.2.1) (g := (mkF me_ 2 #[.val (.ref b), .val (.int 0)] [(.ref b), (.int 0)])) rfl rfl (hb hby d26_2)) ?_
  rw [len_of S105 n105]
  obtain ⟨_, _, ⟨T106, L106, k106, n106⟩, -, X106, ⟨Lc106, hQ106, l106, y106, z106⟩, st106⟩ := Jvm.LawKit.callS X0 hx (y := m_9) hown (mvT hZ (t_111 hw)) (mvT hZ (t_100 hw)) (mvT hZ (t_13 hw)) (mvT hZ (t_101 hw)) (by decide) (backOf (W := 0) (rm_scx l Z a0 hw [] (0 : Int32) (3 : Int32) fmt h0 n0 O0 u0 u1 (by decide) (by decide)) hZ (t_101 hw) (t_13 hw) (by decide) (by decide)) (g := (mkF me_ 3 #[.val (.ref b), .val (.int 0)] [(.int 3), (.int 0)])) rfl (by rw [hml]; rfl) (argsL := [(.int 0), (.int 3)]) (rest := []) (lenOf pd_2 rfl) rfl (by show 2 * 0 + _ ≤ _; exact Nat.le_of_eq rfl) (hb hby d26_3) (fun _ _ => ⟨rfl, e0, (by decide : 0 + 0 ≤ _), (by decide : 0 + 0 ≤ _)⟩)
  dsimp only [Pt.U, Pt.locs, Pt.cells, Pt.slots] at X106 l106 y106 z106 st106 hQ106
  subst l106 y106 z106
  obtain ⟨rfl, Nq106, eq106⟩ := hQ106
  have N107 := Fr.app N0 Nq106
  refine gv st106 ?_
  refine gv (fun _ kQ => XS.aloadN X106.here hx rfl (hb hby d26_6) rfl rfl (XS.iloadN X106.here hx rfl (hb hby d26_7) rfl kQ)) ?_
  show G (T106.setTop (mkF me_ 8 #[.val (.ref b), .val (.int 0)] [(.int 0), (.ref b)]))
  obtain ⟨cl108, Ar108, q108, S108, n108, H108, G108⟩ := (id u2)
  have in108 : ¬ ((0 : Int32) < 0 ∨ cl108.slots.size ≤ ((0 : Int32)).toNatClampNeg) := inb_of S108 ⟨by decide, by decide⟩
  refine gv (X106.baloadBytes hx (j := (0 : Int32)) (v := (.int x0)) (by rw [eq106]; exact Ar108.1) (State.isArrayOf_alike hZ.alike Ar108.2.1) Ar108.2.2 in108 (Has.at H108 in108 rfl) (g := (mkF me_ 8 #[.val (.ref b), .val (.int 0)] [(.int 0), (.ref b)])) rfl rfl (hb hby d26_8)) ?_
  show G (T106.setTop (mkF me_ 9 #[.val (.ref b), .val (.int 0)] [(.int x0)]))
  refine gv (fun _ kQ => XS.sipush X106.here hx rfl (hb hby d26_9) (XS.iand X106.here hx rfl (hb hby d26_12) rfl (XS.i2c X106.here hx rfl (hb hby d26_13) rfl kQ))) ?_
  refine gf _ (own_ret X106 Bd.notSynchronized (v := some (.int ((x0 &&& (255 : Int32)).toUInt32.toUInt16.toUInt32.toInt32))) (own_rv Bd.returns) ?_ (by decide) (by decide) (fun fs hr => retN X106 hx (t := .char) Bd.returns (by simp) (hb hby d26_14) (by rw [(own_narC _)]; exact hr)))
  show Q_l1at3_0 Z b k x0 x1 x2 fmt h0 n0 _ T106.heap _
  rw [eq106]
  exact ⟨rfl, N107, rfl⟩
def Q_getc3_0 (Z : State) (b : Addr) (k : ClassId) (x0 x1 : Int32) (x2 x3 : Int32) (x4 x5 : Int32) (h0 : Heap) (n0 : Nat) (v : Option Value) (h : Heap) (L : List Loc) : Prop := v = some (.int (own_gc x0 x1)) ∧ Fr n0 L ∧ h = h0
theorem rm_getc3_0 (l : Launch) (Z : State) (a0 : Array Value) (hw : own_HW Z a0) (ws : List Jvm.Cond) (b : Addr) (k : ClassId) (x0 x1 : Int32) (x2 x3 : Int32) (x4 x5 : Int32) (h0 : Heap) (n0 : Nat) (O0 : Old Z n0 h0) (u0 : Sta Z Z.heap "java/lang/StringUTF16" "$assertionsDisabled" "Z" (.int 1)) (u1 : Sta Z Z.heap "java/lang/StringUTF16" "HI_BYTE_SHIFT" "I" (.int 0)) (u2 : Sta Z Z.heap "java/lang/StringUTF16" "LO_BYTE_SHIFT" "I" (.int 8)) (u3 : Arv Z h0 b k .byte (6 : Int32) [(.int x0), (.int x1), (.int x2), (.int x3), (.int x4), (.int x5)] (.int 0)) :
    own_Met l Z m_19 jdk_52_method_5_code 2 (some .char) ws (own_R 0 0 0 0) #[(.ref b), (.int 0)] h0 (Q_getc3_0 Z b k x0 x1 x2 x3 x4 x5 h0 n0) := by
  refine own_open (plainFor_of_name pn_2) (fun pr_ en_ st_ me_ below meth_ co_ s₁ Bd hx hby hml hown hZ X0 e0 G gv gf => ?_)
  have N0 := Fr.nil n0
  refine gv (fun _ kQ => castTop (ef_4 me_ b (0 : Int32)) kQ) ?_
  show G (s₁.setTop (mkF me_ 0 #[.val (.ref b), .val (.int 0)] []))
  obtain ⟨T109, X109, e109, st109⟩ := getS2 X0 hx hZ hown (host := "") (Or.inl (t_71 hw)) Via.refl e0 (u0.ext O0.2) (g := (mkF me_ 0 #[.val (.ref b), .val (.int 0)] [])) rfl (hb hby d17_0)
  refine gv st109 ?_
  refine gv (fun _ kQ => XS.ifYes X109.here hx rfl (pc0 := 3) (pc' := 28) rfl (hb hby d17_3) rfl ((if0 _ _).trans (feq (by decide : ¬ ((1 : Int32) = (0 : Int32)))).2) (by decide) (by decide) (XS.iloadN X109.here hx rfl (hb hby d17_28) rfl (XS.iconst X109.here hx rfl (hb hby d17_29) (XS.ishl X109.here hx rfl (hb hby d17_30) rfl kQ)))) ?_
  show G (T109.setTop (mkF me_ 31 #[.val (.ref b), .val (.int 0)] [(.int ((0 : Int32) <<< ((1 : Int32) &&& 31)))]))
  rw [(by decide : ((0 : Int32) <<< ((1 : Int32) &&& 31)) = (0 : Int32))]
  refine gv (fun _ kQ => XS.istoreN X109.here hx rfl (hb hby d17_31) rfl (l' := #[.val (.ref b), .val (.int 0)]) rfl (XS.aloadN X109.here hx rfl (hb hby d17_32) rfl rfl (XS.iloadN X109.here hx rfl (hb hby d17_33) rfl (XS.iinc X109.here hx rfl (hb hby d17_34) rfl (l' := #[.val (.ref b), .val (.int ((0 : Int32) + (1 : Int32)))]) rfl kQ)))) ?_
  show G (T109.setTop (mkF me_ 37 #[.val (.ref b), .val (.int ((0 : Int32) + (1 : Int32)))] [(.int 0), (.ref b)]))
  rw [(by decide : ((0 : Int32) + (1 : Int32)) = (1 : Int32))]
  obtain ⟨cl110, Ar110, q110, S110, n110, H110, G110⟩ := (id u3)
  have in110 : ¬ ((0 : Int32) < 0 ∨ cl110.slots.size ≤ ((0 : Int32)).toNatClampNeg) := inb_of S110 ⟨by decide, by decide⟩
  refine gv (X109.baloadBytes hx (j := (0 : Int32)) (v := (.int x0)) (by rw [e109]; exact Ar110.1) (State.isArrayOf_alike hZ.alike Ar110.2.1) Ar110.2.2 in110 (Has.at H110 in110 rfl) (g := (mkF me_ 37 #[.val (.ref b), .val (.int 1)] [(.int 0), (.ref b)])) rfl rfl (hb hby d17_37)) ?_
  show G (T109.setTop (mkF me_ 38 #[.val (.ref b), .val (.int 1)] [(.int x0)]))
  refine gv (fun _ kQ => XS.sipush X109.here hx rfl (hb hby d17_38) (XS.iand X109.here hx rfl (hb hby d17_41) rfl kQ)) ?_
  obtain ⟨T111, X111, e111, st111⟩ := getS2 X109 hx hZ hown (host := "") (Or.inl (t_72 hw)) Via.refl e109 (u1.ext O0.2) (g := (mkF me_ 42 #[.val (.ref b), .val (.int 1)] [(.int (x0 &&& (255 : Int32)))])) rfl (hb hby d17_42)
  refine gv st111 ?_
  refine gv (fun _ kQ => XS.ishl X111.here hx rfl (hb hby d17_45) rfl (XS.aloadN X111.here hx rfl (hb hby d17_46) rfl rfl (XS.iloadN X111.here hx rfl (hb hby d17_47) rfl kQ))) ?_
  show G (T111.setTop (mkF me_ 48 #[.val (.ref b), .val (.int 1)] [(.int 1), (.ref b), (.int ((x0 &&& (255 : Int32)) <<< ((0 : Int32) &&& 31)))]))
  obtain ⟨cl112, Ar112, q112, S112, n112, H112, G112⟩ := (id u3)
  have in112 : ¬ ((1 : Int32) < 0 ∨ cl112.slots.size ≤ ((1 : Int32)).toNatClampNeg) := inb_of S112 ⟨by decide, by decide⟩
  refine gv (X111.baloadBytes hx (j := (1 : Int32)) (v := (.int x1)) (by rw [e111]; exact Ar112.1) (State.isArrayOf_alike hZ.alike Ar112.2.1) Ar112.2.2 in112 (Has.at H112 in112 rfl) (g := (mkF me_ 48 #[.val (.ref b), .val (.int 1)] [(.int 1), (.ref b), (.int ((x0 &&& (255 : Int32)) <<< ((0 : Int32) &&& 31)))])) rfl rfl (hb hby d17_48)) ?_
  show G (T111.setTop (mkF me_ 49 #[.val (.ref b), .val (.int 1)] [(.int x1), (.int ((x0 &&& (255 : Int32)) <<< ((0 : Int32) &&& 31)))]))
  refine gv (fun _ kQ => XS.sipush X111.here hx rfl (hb hby d17_49) (XS.iand X111.here hx rfl (hb hby d17_52) rfl kQ)) ?_
  obtain ⟨T113, X113, e113, st113⟩ := getS2 X111 hx hZ hown (host := "") (Or.inl (t_73 hw)) Via.refl e111 (u2.ext O0.2) (g := (mkF me_ 53 #[.val (.ref b), .val (.int 1)] [(.int (x1 &&& (255 : Int32))), (.int ((x0 &&& (255 : Int32)) <<< ((0 : Int32) &&& 31)))])) rfl (hb hby d17_53)
  refine gv st113 ?_
  refine gv (fun _ kQ => XS.ishl X113.here hx rfl (hb hby d17_56) rfl (XS.ior X113.here hx rfl (hb hby d17_57) rfl (XS.i2c X113.here hx rfl (hb hby d17_58) rfl kQ))) ?_
  refine gf _ (own_ret X113 Bd.notSynchronized (v := some (.int ((((x0 &&& (255 : Int32)) <<< ((0 : Int32) &&& 31)) ||| ((x1 &&& (255 : Int32)) <<< ((8 : Int32) &&& 31))).toUInt32.toUInt16.toUInt32.toInt32))) (own_rv Bd.returns) ?_ (by decide) (by decide) (fun fs hr => retN X113 hx (t := .char) Bd.returns (by simp) (hb hby d17_59) (by rw [(own_narC _)]; exact hr)))
  show Q_getc3_0 Z b k x0 x1 x2 x3 x4 x5 h0 n0 _ T113.heap _
  rw [e113]
  exact ⟨rfl, N0, rfl⟩
def Q_uat3_0 (Z : State) (b : Addr) (k : ClassId) (x0 x1 : Int32) (x2 x3 : Int32) (x4 x5 : Int32) (fmt : Value) (h0 : Heap) (n0 : Nat) (v : Option Value) (h : Heap) (L : List Loc) : Prop := v = some (.int (own_gc x0 x1)) ∧ Fr n0 L ∧ h = h0
theorem rm_uat3_0 (l : Launch) (Z : State) (a0 : Array Value) (hw : own_HW Z a0) (ws : List Jvm.Cond) (b : Addr) (k : ClassId) (x0 x1 : Int32) (x2 x3 : Int32) (x4 x5 : Int32) (fmt : Value) (h0 : Heap) (n0 : Nat) (O0 : Old Z n0 h0) (u0 : fmt.isRef = true) (u1 : Sta Z Z.heap "jdk/internal/util/Preconditions" "SIOOBE_FORMATTER" "Ljava/util/function/BiFunction;" fmt) (u2 : Sta Z Z.heap "java/lang/StringUTF16" "$assertionsDisabled" "Z" (.int 1)) (u3 : Sta Z Z.heap "java/lang/StringUTF16" "HI_BYTE_SHIFT" "I" (.int 0)) (u4 : Sta Z Z.heap "java/lang/StringUTF16" "LO_BYTE_SHIFT" "I" (.int 8)) (u5 : Arv Z h0 b k .byte (6 : Int32) [(.int x0), (.int x1), (.int x2), (.int x3), (.int x4), (.int x5)] (.int 0)) :
    own_Met l Z m_14 jdk_52_method_83_code 2 (some .char) ws (own_R 3 0 0 40) #[(.ref b), (.int 0)] h0 (Q_uat3_0 Z b k x0 x1 x2 x3 x4 x5 fmt h0 n0) := by
  refine own_open (plainFor_of_name pn_2) (fun pr_ en_ st_ me_ below meth_ co_ s₁ Bd hx hby hml hown hZ X0 e0 G gv gf => ?_)
  have N0 := Fr.nil n0
  refine gv (fun _ kQ => castTop (ef_4 me_ b (0 : Int32)) kQ) ?_
  show G (s₁.setTop (mkF me_ 0 #[.val (.ref b), .val (.int 0)] []))
  refine gv (fun _ kQ => XS.iloadN X0.here hx rfl (hb hby d21_0) rfl (XS.aloadN X0.here hx rfl (hb hby d21_1) rfl rfl kQ)) ?_
  obtain ⟨_, _, ⟨T114, L114, k114, n114⟩, -, X114, ⟨Lc114, hQ114, l114, y114, z114⟩, st114⟩ := Jvm.LawKit.callS X0 hx (y := m_15) hown (mvT hZ (t_93 hw)) (mvT hZ (t_94 hw)) (mvT hZ (t_50 hw)) (mvT hZ (t_95 hw)) (by decide) (backOf (W := 0) (rm_uci3 l Z a0 hw [] (0 : Int32) b k x0 x1 x2 x3 x4 x5 fmt h0 n0 O0 u0 u1 (by decide) (by decide) u5) hZ (t_95 hw) (t_50 hw) (by decide) (by decide)) (g := (mkF me_ 2 #[.val (.ref b), .val (.int 0)] [(.ref b), (.int 0)])) rfl (by rw [hml]; rfl) (argsL := [(.int 0), (.ref b)]) (rest := []) (lenOf pd_3 rfl) rfl (by show 2 * 0 + _ ≤ _; exact Nat.le_of_eq rfl) (hb hby d21_2) (fun _ _ => ⟨rfl, e0, (by decide : 0 + 0 ≤ _), (by decide : 0 + 0 ≤ _)⟩)
  dsimp only [Pt.U, Pt.locs, Pt.cells, Pt.slots] at X114 l114 y114 z114 st114 hQ114
  subst l114 y114 z114
  obtain ⟨rfl, Nq114, eq114⟩ := hQ114
  have N115 := Fr.app N0 Nq114
  refine gv st114 ?_
  refine gv (fun _ kQ => XS.aloadN X114.here hx rfl (hb hby d21_5) rfl rfl (XS.iloadN X114.here hx rfl (hb hby d21_6) rfl kQ)) ?_
  show G (T114.setTop (mkF me_ 7 #[.val (.ref b), .val (.int 0)] [(.int 0), (.ref b)]))
  obtain ⟨_, _, ⟨T116, L116, k116, n116⟩, -, X116, ⟨Lc116, hQ116, l116, y116, z116⟩, st116⟩ := Jvm.LawKit.callS X114 hx (y := m_19) hown (mvT hZ (t_74 hw)) (mvT hZ (t_75 hw)) (mvT hZ (t_50 hw)) (mvT hZ (t_76 hw)) (by decide) (backOf (W := 0) (rm_getc3_0 l Z a0 hw [] b k x0 x1 x2 x3 x4 x5 h0 n0 O0 u2 u3 u4 u5) hZ (t_76 hw) (t_50 hw) (by decide) (by decide)) (g := (mkF me_ 7 #[.val (.ref b), .val (.int 0)] [(.int 0), (.ref b)])) rfl (by rw [hml]; rfl) (argsL := [(.ref b), (.int 0)]) (rest := []) (lenOf pd_4 rfl) rfl (by show 2 * 0 + _ ≤ _; exact Nat.le_of_eq rfl) (hb hby d21_7) (fun _ _ => ⟨rfl, eq114, (by decide : 0 + 0 ≤ _), (by decide : 0 + 0 ≤ _)⟩)
  dsimp only [Pt.U, Pt.locs, Pt.cells, Pt.slots] at X116 l116 y116 z116 st116 hQ116
  subst l116 y116 z116
  obtain ⟨rfl, Nq116, eq116⟩ := hQ116
  have N117 := Fr.app N115 Nq116
  refine gv st116 ?_
  refine gf _ (own_ret X116 Bd.notSynchronized (v := some (.int (own_gc x0 x1))) (own_rv Bd.returns) ?_ (by decide) (by decide) (fun fs hr => retN X116 hx (t := .char) Bd.returns (by simp) (hb hby d21_10) (by rw [(own_gcn _ _)]; exact hr)))
  show Q_uat3_0 Z b k x0 x1 x2 x3 x4 x5 fmt h0 n0 _ T116.heap _
  rw [eq116]
  exact ⟨rfl, N117, rfl⟩
def Q_put6_0 (Z : State) (b : Addr) (c : Int32) (k : ClassId) (x0 x1 : Int32) (x2 x3 : Int32) (x4 x5 : Int32) (h0 : Heap) (n0 : Nat) (v : Option Value) (h : Heap) (L : List Loc) : Prop := v = none ∧ Fr n0 L ∧ Keep h0 h [b] ∧ (Arv Z h b k .byte (6 : Int32) [(.int ((c >>> ((0 : Int32) &&& 31)).toInt8.toInt32)), (.int ((c >>> ((8 : Int32) &&& 31)).toInt8.toInt32)), (.int x2), (.int x3), (.int x4), (.int x5)] (.int 0))
theorem rm_put6_0 (l : Launch) (Z : State) (a0 : Array Value) (hw : own_HW Z a0) (ws : List Jvm.Cond) (b : Addr) (c : Int32) (k : ClassId) (x0 x1 : Int32) (x2 x3 : Int32) (x4 x5 : Int32) (h0 : Heap) (n0 : Nat) (O0 : Old Z n0 h0) (u0 : Sta Z Z.heap "java/lang/StringUTF16" "$assertionsDisabled" "Z" (.int 1)) (u1 : Sta Z Z.heap "java/lang/StringUTF16" "HI_BYTE_SHIFT" "I" (.int 0)) (u2 : Sta Z Z.heap "java/lang/StringUTF16" "LO_BYTE_SHIFT" "I" (.int 8)) (u3 : Arv Z h0 b k .byte (6 : Int32) [(.int x0), (.int x1), (.int x2), (.int x3), (.int x4), (.int x5)] (.int 0)) (u4 : n0 ≤ b) :
    own_Met l Z m_23 jdk_52_method_4_code 3 none ws (own_R 0 0 0 0) #[(.ref b), (.int 0), (.int c)] h0 (Q_put6_0 Z b c k x0 x1 x2 x3 x4 x5 h0 n0) := by
  refine own_open (plainFor_of_name pn_2) (fun pr_ en_ st_ me_ below meth_ co_ s₁ Bd hx hby hml hown hZ X0 e0 G gv gf => ?_)
  have N0 := Fr.nil n0
  have K0 := Keep.refl h0 [b]
  refine gv (fun _ kQ => castTop (ef_5 me_ b (0 : Int32) c) kQ) ?_
  show G (s₁.setTop (mkF me_ 0 #[.val (.ref b), .val (.int 0), .val (.int c)] []))
  obtain ⟨T118, X118, e118, st118⟩ := getS2 X0 hx hZ hown (host := "") (Or.inl (t_71 hw)) Via.refl e0 (u0.ext O0.2) (g := (mkF me_ 0 #[.val (.ref b), .val (.int 0), .val (.int c)] [])) rfl (hb hby d16_0)
  refine gv st118 ?_
  refine gv (fun _ kQ => XS.ifYes X118.here hx rfl (pc0 := 3) (pc' := 28) rfl (hb hby d16_3) rfl ((if0 _ _).trans (feq (by decide : ¬ ((1 : Int32) = (0 : Int32)))).2) (by decide) (by decide) (XS.iloadN X118.here hx rfl (hb hby d16_28) rfl (XS.iconst X118.here hx rfl (hb hby d16_29) (XS.ishl X118.here hx rfl (hb hby d16_30) rfl kQ)))) ?_
  show G (T118.setTop (mkF me_ 31 #[.val (.ref b), .val (.int 0), .val (.int c)] [(.int ((0 : Int32) <<< ((1 : Int32) &&& 31)))]))
  rw [(by decide : ((0 : Int32) <<< ((1 : Int32) &&& 31)) = (0 : Int32))]
  refine gv (fun _ kQ => XS.istoreN X118.here hx rfl (hb hby d16_31) rfl (l' := #[.val (.ref b), .val (.int 0), .val (.int c)]) rfl (XS.aloadN X118.here hx rfl (hb hby d16_32) rfl rfl (XS.iloadN X118.here hx rfl (hb hby d16_33) rfl (XS.iinc X118.here hx rfl (hb hby d16_34) rfl (l' := #[.val (.ref b), .val (.int ((0 : Int32) + (1 : Int32))), .val (.int c)]) rfl kQ)))) ?_
  show G (T118.setTop (mkF me_ 37 #[.val (.ref b), .val (.int ((0 : Int32) + (1 : Int32))), .val (.int c)] [(.int 0), (.ref b)]))
  rw [(by decide : ((0 : Int32) + (1 : Int32)) = (1 : Int32))]
  refine gv (fun _ kQ => XS.iloadN X118.here hx rfl (hb hby d16_37) rfl kQ) ?_
  obtain ⟨T119, X119, e119, st119⟩ := getS2 X118 hx hZ hown (host := "") (Or.inl (t_72 hw)) Via.refl e118 (u1.ext O0.2) (g := (mkF me_ 38 #[.val (.ref b), .val (.int 1), .val (.int c)] [(.int c), (.int 0), (.ref b)])) rfl (hb hby d16_38)
  refine gv st119 ?_
  refine gv (fun _ kQ => XS.ishr X119.here hx rfl (hb hby d16_41) rfl (XS.i2b X119.here hx rfl (hb hby d16_42) rfl kQ)) ?_
  show G (T119.setTop (mkF me_ 43 #[.val (.ref b), .val (.int 1), .val (.int c)] [(.int ((c >>> ((0 : Int32) &&& 31)).toInt8.toInt32)), (.int 0), (.ref b)]))
  obtain ⟨cl120, Ar120, q120, S120, n120, H120, G120⟩ := (id u3)
  have in120 : ¬ ((0 : Int32) < 0 ∨ cl120.slots.size ≤ ((0 : Int32)).toNatClampNeg) := inb_of S120 ⟨by decide, by decide⟩
  obtain ⟨T120, h120, X120, e120, W120, st120⟩ := stB X119 hx hZ e119 Ar120 (j := (0 : Int32)) in120 (g := (mkF me_ 43 #[.val (.ref b), .val (.int 1), .val (.int c)] [(.int ((c >>> ((0 : Int32) &&& 31)).toInt8.toInt32)), (.int 0), (.ref b)])) rfl rfl (hb hby d16_43)
  have W120 : Wr h0 h120 b ((0 : Int32)).toNatClampNeg (.int ((c >>> ((0 : Int32) &&& 31)).toInt8.toInt32)) := by have z := W120; rw [(own_narB _)] at z; exact z
  refine gv st120 ?_
  have O122 := O0.wr W120 u4
  have K123 := K0.wr W120 (Or.inl (List.mem_of_getElem? (i := 0) rfl))
  have N124 := Fr.snoc X120 N0 u4
  have f121 : Arv Z h120 b k .byte (6 : Int32) [(.int ((c >>> ((0 : Int32) &&& 31)).toInt8.toInt32)), (.int x1), (.int x2), (.int x3), (.int x4), (.int x5)] (.int 0) := Arv.set Ar120 q120 S120 n120 H120 G120 (fits_nar_byte _) W120 0 rfl (Nat.le_of_ble_eq_true rfl)
  refine gv (fun _ kQ => XS.aloadN X120.here hx rfl (hb hby d16_44) rfl rfl (XS.iloadN X120.here hx rfl (hb hby d16_45) rfl (XS.iloadN X120.here hx rfl (hb hby d16_46) rfl kQ))) ?_
  show G (T120.setTop (mkF me_ 47 #[.val (.ref b), .val (.int 1), .val (.int c)] [(.int c), (.int 1), (.ref b)]))
  obtain ⟨T125, X125, e125, st125⟩ := getS2 X120 hx hZ hown (host := "") (Or.inl (t_73 hw)) Via.refl e120 (u2.ext O122.2) (g := (mkF me_ 47 #[.val (.ref b), .val (.int 1), .val (.int c)] [(.int c), (.int 1), (.ref b)])) rfl (hb hby d16_47)
  refine gv st125 ?_
  refine gv (fun _ kQ => XS.ishr X125.here hx rfl (hb hby d16_50) rfl (XS.i2b X125.here hx rfl (hb hby d16_51) rfl kQ)) ?_
  show G (T125.setTop (mkF me_ 52 #[.val (.ref b), .val (.int 1), .val (.int c)] [(.int ((c >>> ((8 : Int32) &&& 31)).toInt8.toInt32)), (.int 1), (.ref b)]))
  obtain ⟨cl126, Ar126, q126, S126, n126, H126, G126⟩ := (id f121)
  have in126 : ¬ ((1 : Int32) < 0 ∨ cl126.slots.size ≤ ((1 : Int32)).toNatClampNeg) := inb_of S126 ⟨by decide, by decide⟩
  obtain ⟨T126, h126, X126, e126, W126, st126⟩ := stB X125 hx hZ e125 Ar126 (j := (1 : Int32)) in126 (g := (mkF me_ 52 #[.val (.ref b), .val (.int 1), .val (.int c)] [(.int ((c >>> ((8 : Int32) &&& 31)).toInt8.toInt32)), (.int 1), (.ref b)])) rfl rfl (hb hby d16_52)
  have W126 : Wr h120 h126 b ((1 : Int32)).toNatClampNeg (.int ((c >>> ((8 : Int32) &&& 31)).toInt8.toInt32)) := by have z := W126; rw [(own_narB _)] at z; exact z
  refine gv st126 ?_
  have K129 := K123.wr W126 (Or.inl (List.mem_of_getElem? (i := 0) rfl))
  have N130 := Fr.snoc X126 N124 u4
  have f127 : Arv Z h126 b k .byte (6 : Int32) [(.int ((c >>> ((0 : Int32) &&& 31)).toInt8.toInt32)), (.int ((c >>> ((8 : Int32) &&& 31)).toInt8.toInt32)), (.int x2), (.int x3), (.int x4), (.int x5)] (.int 0) := Arv.set Ar126 q126 S126 n126 H126 G126 (fits_nar_byte _) W126 1 rfl (Nat.le_of_ble_eq_true rfl)
  refine gf _ (own_ret X126 Bd.notSynchronized (v := none) (fun _ => rfl) ?_ (by decide) (by decide) (fun fs hr => X126.returnOut hx Bd.returns (hb hby d16_53) hr))
  show Q_put6_0 Z b c k x0 x1 x2 x3 x4 x5 h0 n0 _ T126.heap _
  rw [e126]
  exact ⟨rfl, N130, K129, f127⟩
def Q_l1at3_1 (Z : State) (b : Addr) (k : ClassId) (x0 x1 x2 : Int32) (fmt : Value) (h0 : Heap) (n0 : Nat) (v : Option Value) (h : Heap) (L : List Loc) : Prop := v = some (.int ((x1 &&& (255 : Int32)).toUInt32.toUInt16.toUInt32.toInt32)) ∧ Fr n0 L ∧ h = h0
theorem rm_l1at3_1 (l : Launch) (Z : State) (a0 : Array Value) (hw : own_HW Z a0) (ws : List Jvm.Cond) (b : Addr) (k : ClassId) (x0 x1 x2 : Int32) (fmt : Value) (h0 : Heap) (n0 : Nat) (O0 : Old Z n0 h0) (u0 : fmt.isRef = true) (u1 : Sta Z Z.heap "jdk/internal/util/Preconditions" "SIOOBE_FORMATTER" "Ljava/util/function/BiFunction;" fmt) (u2 : Arv Z h0 b k .byte (3 : Int32) [(.int x0), (.int x1), (.int x2)] (.int 0)) :
    own_Met l Z m_13 jdk_43_method_2_code 2 (some .char) ws (own_R 2 0 0 27) #[(.ref b), (.int 1)] h0 (Q_l1at3_1 Z b k x0 x1 x2 fmt h0 n0) := by
  refine own_open (plainFor_of_name pn_3) (fun pr_ en_ st_ me_ below meth_ co_ s₁ Bd hx hby hml hown hZ X0 e0 G gv gf => ?_)
  have N0 := Fr.nil n0
  refine gv (fun _ kQ => castTop (ef_4 me_ b (1 : Int32)) kQ) ?_
  show G (s₁.setTop (mkF me_ 0 #[.val (.ref b), .val (.int 1)] []))
  refine gv (fun _ kQ => XS.iloadN X0.here hx rfl (hb hby d26_0) rfl (XS.aloadN X0.here hx rfl (hb hby d26_1) rfl rfl kQ)) ?_
  obtain ⟨cl131, Ar131, -, S131, n131, -, -⟩ := (id u2)
  refine gv (X0.arraylength hx (by rw [e0]; exact Ar131.1) (State.isArrayOf_alike hZ.alike Ar131.2.1) (g := (mkF me_ 2 #[.val (.ref b), .val (.int 1)] [(.ref b), (.int 1)])) rfl rfl (hb hby d26_2)) ?_
  rw [len_of S131 n131]
  obtain ⟨_, _, ⟨T132, L132, k132, n132⟩, -, X132, ⟨Lc132, hQ132, l132, y132, z132⟩, st132⟩ := Jvm.LawKit.callS X0 hx (y := m_9) hown (mvT hZ (t_111 hw)) (mvT hZ (t_100 hw)) (mvT hZ (t_13 hw)) (mvT hZ (t_101 hw)) (by decide) (backOf (W := 0) (rm_scx l Z a0 hw [] (1 : Int32) (3 : Int32) fmt h0 n0 O0 u0 u1 (by decide) (by decide)) hZ (t_101 hw) (t_13 hw) (by decide) (by decide)) (g := (mkF me_ 3 #[.val (.ref b), .val (.int 1)] [(.int 3), (.int 1)])) rfl (by rw [hml]; rfl) (argsL := [(.int 1), (.int 3)]) (rest := []) (lenOf pd_2 rfl) rfl (by show 2 * 0 + _ ≤ _; exact Nat.le_of_eq rfl) (hb hby d26_3) (fun _ _ => ⟨rfl, e0, (by decide : 0 + 0 ≤ _), (by decide : 0 + 0 ≤ _)⟩)
  dsimp only [Pt.U, Pt.locs, Pt.cells, Pt.slots] at X132 l132 y132 z132 st132 hQ132
  subst l132 y132 z132
  obtain ⟨rfl, Nq132, eq132⟩ := hQ132
  have N133 := Fr.app N0 Nq132
  refine gv st132 ?_
  refine gv (fun _ kQ => XS.aloadN X132.here hx rfl (hb hby d26_6) rfl rfl (XS.iloadN X132.here hx rfl (hb hby d26_7) rfl kQ)) ?_
  show G (T132.setTop (mkF me_ 8 #[.val (.ref b), .val (.int 1)] [(.int 1), (.ref b)]))
  obtain ⟨cl134, Ar134, q134, S134, n134, H134, G134⟩ := (id u2)
  have in134 : ¬ ((1 : Int32) < 0 ∨ cl134.slots.size ≤ ((1 : Int32)).toNatClampNeg) := inb_of S134 ⟨by decide, by decide⟩
  refine gv (X132.baloadBytes hx (j := (1 : Int32)) (v := (.int x1)) (by rw [eq132]; exact Ar134.1) (State.isArrayOf_alike hZ.alike Ar134.2.1) Ar134.2.2 in134 (Has.at H134 in134 rfl) (g := (mkF me_ 8 #[.val (.ref b), .val (.int 1)] [(.int 1), (.ref b)])) rfl rfl (hb hby d26_8)) ?_
  show G (T132.setTop (mkF me_ 9 #[.val (.ref b), .val (.int 1)] [(.int x1)]))
  refine gv (fun _ kQ => XS.sipush X132.here hx rfl (hb hby d26_9) (XS.iand X132.here hx rfl (hb hby d26_12) rfl (XS.i2c X132.here hx rfl (hb hby d26_13) rfl kQ))) ?_
  refine gf _ (own_ret X132 Bd.notSynchronized (v := some (.int ((x1 &&& (255 : Int32)).toUInt32.toUInt16.toUInt32.toInt32))) (own_rv Bd.returns) ?_ (by decide) (by decide) (fun fs hr => retN X132 hx (t := .char) Bd.returns (by simp) (hb hby d26_14) (by rw [(own_narC _)]; exact hr)))
  show Q_l1at3_1 Z b k x0 x1 x2 fmt h0 n0 _ T132.heap _
  rw [eq132]
  exact ⟨rfl, N133, rfl⟩
def Q_getc3_1 (Z : State) (b : Addr) (k : ClassId) (x0 x1 : Int32) (x2 x3 : Int32) (x4 x5 : Int32) (h0 : Heap) (n0 : Nat) (v : Option Value) (h : Heap) (L : List Loc) : Prop := v = some (.int (own_gc x2 x3)) ∧ Fr n0 L ∧ h = h0
theorem rm_getc3_1 (l : Launch) (Z : State) (a0 : Array Value) (hw : own_HW Z a0) (ws : List Jvm.Cond) (b : Addr) (k : ClassId) (x0 x1 : Int32) (x2 x3 : Int32) (x4 x5 : Int32) (h0 : Heap) (n0 : Nat) (O0 : Old Z n0 h0) (u0 : Sta Z Z.heap "java/lang/StringUTF16" "$assertionsDisabled" "Z" (.int 1)) (u1 : Sta Z Z.heap "java/lang/StringUTF16" "HI_BYTE_SHIFT" "I" (.int 0)) (u2 : Sta Z Z.heap "java/lang/StringUTF16" "LO_BYTE_SHIFT" "I" (.int 8)) (u3 : Arv Z h0 b k .byte (6 : Int32) [(.int x0), (.int x1), (.int x2), (.int x3), (.int x4), (.int x5)] (.int 0)) :
    own_Met l Z m_19 jdk_52_method_5_code 2 (some .char) ws (own_R 0 0 0 0) #[(.ref b), (.int 1)] h0 (Q_getc3_1 Z b k x0 x1 x2 x3 x4 x5 h0 n0) := by
  refine own_open (plainFor_of_name pn_2) (fun pr_ en_ st_ me_ below meth_ co_ s₁ Bd hx hby hml hown hZ X0 e0 G gv gf => ?_)
  have N0 := Fr.nil n0
  refine gv (fun _ kQ => castTop (ef_4 me_ b (1 : Int32)) kQ) ?_
  show G (s₁.setTop (mkF me_ 0 #[.val (.ref b), .val (.int 1)] []))
  obtain ⟨T135, X135, e135, st135⟩ := getS2 X0 hx hZ hown (host := "") (Or.inl (t_71 hw)) Via.refl e0 (u0.ext O0.2) (g := (mkF me_ 0 #[.val (.ref b), .val (.int 1)] [])) rfl (hb hby d17_0)
  refine gv st135 ?_
  refine gv (fun _ kQ => XS.ifYes X135.here hx rfl (pc0 := 3) (pc' := 28) rfl (hb hby d17_3) rfl ((if0 _ _).trans (feq (by decide : ¬ ((1 : Int32) = (0 : Int32)))).2) (by decide) (by decide) (XS.iloadN X135.here hx rfl (hb hby d17_28) rfl (XS.iconst X135.here hx rfl (hb hby d17_29) (XS.ishl X135.here hx rfl (hb hby d17_30) rfl kQ)))) ?_
  show G (T135.setTop (mkF me_ 31 #[.val (.ref b), .val (.int 1)] [(.int ((1 : Int32) <<< ((1 : Int32) &&& 31)))]))
  rw [(by decide : ((1 : Int32) <<< ((1 : Int32) &&& 31)) = (2 : Int32))]
  refine gv (fun _ kQ => XS.istoreN X135.here hx rfl (hb hby d17_31) rfl (l' := #[.val (.ref b), .val (.int 2)]) rfl (XS.aloadN X135.here hx rfl (hb hby d17_32) rfl rfl (XS.iloadN X135.here hx rfl (hb hby d17_33) rfl (XS.iinc X135.here hx rfl (hb hby d17_34) rfl (l' := #[.val (.ref b), .val (.int ((2 : Int32) + (1 : Int32)))]) rfl kQ)))) ?_
  show G (T135.setTop (mkF me_ 37 #[.val (.ref b), .val (.int ((2 : Int32) + (1 : Int32)))] [(.int 2), (.ref b)]))
  rw [(by decide : ((2 : Int32) + (1 : Int32)) = (3 : Int32))]
  obtain ⟨cl136, Ar136, q136, S136, n136, H136, G136⟩ := (id u3)
  have in136 : ¬ ((2 : Int32) < 0 ∨ cl136.slots.size ≤ ((2 : Int32)).toNatClampNeg) := inb_of S136 ⟨by decide, by decide⟩
  refine gv (X135.baloadBytes hx (j := (2 : Int32)) (v := (.int x2)) (by rw [e135]; exact Ar136.1) (State.isArrayOf_alike hZ.alike Ar136.2.1) Ar136.2.2 in136 (Has.at H136 in136 rfl) (g := (mkF me_ 37 #[.val (.ref b), .val (.int 3)] [(.int 2), (.ref b)])) rfl rfl (hb hby d17_37)) ?_
  show G (T135.setTop (mkF me_ 38 #[.val (.ref b), .val (.int 3)] [(.int x2)]))
  refine gv (fun _ kQ => XS.sipush X135.here hx rfl (hb hby d17_38) (XS.iand X135.here hx rfl (hb hby d17_41) rfl kQ)) ?_
  obtain ⟨T137, X137, e137, st137⟩ := getS2 X135 hx hZ hown (host := "") (Or.inl (t_72 hw)) Via.refl e135 (u1.ext O0.2) (g := (mkF me_ 42 #[.val (.ref b), .val (.int 3)] [(.int (x2 &&& (255 : Int32)))])) rfl (hb hby d17_42)
  refine gv st137 ?_
  refine gv (fun _ kQ => XS.ishl X137.here hx rfl (hb hby d17_45) rfl (XS.aloadN X137.here hx rfl (hb hby d17_46) rfl rfl (XS.iloadN X137.here hx rfl (hb hby d17_47) rfl kQ))) ?_
  show G (T137.setTop (mkF me_ 48 #[.val (.ref b), .val (.int 3)] [(.int 3), (.ref b), (.int ((x2 &&& (255 : Int32)) <<< ((0 : Int32) &&& 31)))]))
  obtain ⟨cl138, Ar138, q138, S138, n138, H138, G138⟩ := (id u3)
  have in138 : ¬ ((3 : Int32) < 0 ∨ cl138.slots.size ≤ ((3 : Int32)).toNatClampNeg) := inb_of S138 ⟨by decide, by decide⟩
  refine gv (X137.baloadBytes hx (j := (3 : Int32)) (v := (.int x3)) (by rw [e137]; exact Ar138.1) (State.isArrayOf_alike hZ.alike Ar138.2.1) Ar138.2.2 in138 (Has.at H138 in138 rfl) (g := (mkF me_ 48 #[.val (.ref b), .val (.int 3)] [(.int 3), (.ref b), (.int ((x2 &&& (255 : Int32)) <<< ((0 : Int32) &&& 31)))])) rfl rfl (hb hby d17_48)) ?_
  show G (T137.setTop (mkF me_ 49 #[.val (.ref b), .val (.int 3)] [(.int x3), (.int ((x2 &&& (255 : Int32)) <<< ((0 : Int32) &&& 31)))]))
  refine gv (fun _ kQ => XS.sipush X137.here hx rfl (hb hby d17_49) (XS.iand X137.here hx rfl (hb hby d17_52) rfl kQ)) ?_
  obtain ⟨T139, X139, e139, st139⟩ := getS2 X137 hx hZ hown (host := "") (Or.inl (t_73 hw)) Via.refl e137 (u2.ext O0.2) (g := (mkF me_ 53 #[.val (.ref b), .val (.int 3)] [(.int (x3 &&& (255 : Int32))), (.int ((x2 &&& (255 : Int32)) <<< ((0 : Int32) &&& 31)))])) rfl (hb hby d17_53)
  refine gv st139 ?_
  refine gv (fun _ kQ => XS.ishl X139.here hx rfl (hb hby d17_56) rfl (XS.ior X139.here hx rfl (hb hby d17_57) rfl (XS.i2c X139.here hx rfl (hb hby d17_58) rfl kQ))) ?_
  refine gf _ (own_ret X139 Bd.notSynchronized (v := some (.int ((((x2 &&& (255 : Int32)) <<< ((0 : Int32) &&& 31)) ||| ((x3 &&& (255 : Int32)) <<< ((8 : Int32) &&& 31))).toUInt32.toUInt16.toUInt32.toInt32))) (own_rv Bd.returns) ?_ (by decide) (by decide) (fun fs hr => retN X139 hx (t := .char) Bd.returns (by simp) (hb hby d17_59) (by rw [(own_narC _)]; exact hr)))
  show Q_getc3_1 Z b k x0 x1 x2 x3 x4 x5 h0 n0 _ T139.heap _
  rw [e139]
  exact ⟨rfl, N0, rfl⟩
def Q_uat3_1 (Z : State) (b : Addr) (k : ClassId) (x0 x1 : Int32) (x2 x3 : Int32) (x4 x5 : Int32) (fmt : Value) (h0 : Heap) (n0 : Nat) (v : Option Value) (h : Heap) (L : List Loc) : Prop := v = some (.int (own_gc x2 x3)) ∧ Fr n0 L ∧ h = h0
theorem rm_uat3_1 (l : Launch) (Z : State) (a0 : Array Value) (hw : own_HW Z a0) (ws : List Jvm.Cond) (b : Addr) (k : ClassId) (x0 x1 : Int32) (x2 x3 : Int32) (x4 x5 : Int32) (fmt : Value) (h0 : Heap) (n0 : Nat) (O0 : Old Z n0 h0) (u0 : fmt.isRef = true) (u1 : Sta Z Z.heap "jdk/internal/util/Preconditions" "SIOOBE_FORMATTER" "Ljava/util/function/BiFunction;" fmt) (u2 : Sta Z Z.heap "java/lang/StringUTF16" "$assertionsDisabled" "Z" (.int 1)) (u3 : Sta Z Z.heap "java/lang/StringUTF16" "HI_BYTE_SHIFT" "I" (.int 0)) (u4 : Sta Z Z.heap "java/lang/StringUTF16" "LO_BYTE_SHIFT" "I" (.int 8)) (u5 : Arv Z h0 b k .byte (6 : Int32) [(.int x0), (.int x1), (.int x2), (.int x3), (.int x4), (.int x5)] (.int 0)) :
    own_Met l Z m_14 jdk_52_method_83_code 2 (some .char) ws (own_R 3 0 0 40) #[(.ref b), (.int 1)] h0 (Q_uat3_1 Z b k x0 x1 x2 x3 x4 x5 fmt h0 n0) := by
  refine own_open (plainFor_of_name pn_2) (fun pr_ en_ st_ me_ below meth_ co_ s₁ Bd hx hby hml hown hZ X0 e0 G gv gf => ?_)
  have N0 := Fr.nil n0
  refine gv (fun _ kQ => castTop (ef_4 me_ b (1 : Int32)) kQ) ?_
  show G (s₁.setTop (mkF me_ 0 #[.val (.ref b), .val (.int 1)] []))
  refine gv (fun _ kQ => XS.iloadN X0.here hx rfl (hb hby d21_0) rfl (XS.aloadN X0.here hx rfl (hb hby d21_1) rfl rfl kQ)) ?_
  obtain ⟨_, _, ⟨T140, L140, k140, n140⟩, -, X140, ⟨Lc140, hQ140, l140, y140, z140⟩, st140⟩ := Jvm.LawKit.callS X0 hx (y := m_15) hown (mvT hZ (t_93 hw)) (mvT hZ (t_94 hw)) (mvT hZ (t_50 hw)) (mvT hZ (t_95 hw)) (by decide) (backOf (W := 0) (rm_uci3 l Z a0 hw [] (1 : Int32) b k x0 x1 x2 x3 x4 x5 fmt h0 n0 O0 u0 u1 (by decide) (by decide) u5) hZ (t_95 hw) (t_50 hw) (by decide) (by decide)) (g := (mkF me_ 2 #[.val (.ref b), .val (.int 1)] [(.ref b), (.int 1)])) rfl (by rw [hml]; rfl) (argsL := [(.int 1), (.ref b)]) (rest := []) (lenOf pd_3 rfl) rfl (by show 2 * 0 + _ ≤ _; exact Nat.le_of_eq rfl) (hb hby d21_2) (fun _ _ => ⟨rfl, e0, (by decide : 0 + 0 ≤ _), (by decide : 0 + 0 ≤ _)⟩)
  dsimp only [Pt.U, Pt.locs, Pt.cells, Pt.slots] at X140 l140 y140 z140 st140 hQ140
  subst l140 y140 z140
  obtain ⟨rfl, Nq140, eq140⟩ := hQ140
  have N141 := Fr.app N0 Nq140
  refine gv st140 ?_
  refine gv (fun _ kQ => XS.aloadN X140.here hx rfl (hb hby d21_5) rfl rfl (XS.iloadN X140.here hx rfl (hb hby d21_6) rfl kQ)) ?_
  show G (T140.setTop (mkF me_ 7 #[.val (.ref b), .val (.int 1)] [(.int 1), (.ref b)]))
  obtain ⟨_, _, ⟨T142, L142, k142, n142⟩, -, X142, ⟨Lc142, hQ142, l142, y142, z142⟩, st142⟩ := Jvm.LawKit.callS X140 hx (y := m_19) hown (mvT hZ (t_74 hw)) (mvT hZ (t_75 hw)) (mvT hZ (t_50 hw)) (mvT hZ (t_76 hw)) (by decide) (backOf (W := 0) (rm_getc3_1 l Z a0 hw [] b k x0 x1 x2 x3 x4 x5 h0 n0 O0 u2 u3 u4 u5) hZ (t_76 hw) (t_50 hw) (by decide) (by decide)) (g := (mkF me_ 7 #[.val (.ref b), .val (.int 1)] [(.int 1), (.ref b)])) rfl (by rw [hml]; rfl) (argsL := [(.ref b), (.int 1)]) (rest := []) (lenOf pd_4 rfl) rfl (by show 2 * 0 + _ ≤ _; exact Nat.le_of_eq rfl) (hb hby d21_7) (fun _ _ => ⟨rfl, eq140, (by decide : 0 + 0 ≤ _), (by decide : 0 + 0 ≤ _)⟩)
  dsimp only [Pt.U, Pt.locs, Pt.cells, Pt.slots] at X142 l142 y142 z142 st142 hQ142
  subst l142 y142 z142
  obtain ⟨rfl, Nq142, eq142⟩ := hQ142
  have N143 := Fr.app N141 Nq142
  refine gv st142 ?_
  refine gf _ (own_ret X142 Bd.notSynchronized (v := some (.int (own_gc x2 x3))) (own_rv Bd.returns) ?_ (by decide) (by decide) (fun fs hr => retN X142 hx (t := .char) Bd.returns (by simp) (hb hby d21_10) (by rw [(own_gcn _ _)]; exact hr)))
  show Q_uat3_1 Z b k x0 x1 x2 x3 x4 x5 fmt h0 n0 _ T142.heap _
  rw [eq142]
  exact ⟨rfl, N143, rfl⟩
def Q_put6_1 (Z : State) (b : Addr) (c : Int32) (k : ClassId) (x0 x1 : Int32) (x2 x3 : Int32) (x4 x5 : Int32) (h0 : Heap) (n0 : Nat) (v : Option Value) (h : Heap) (L : List Loc) : Prop := v = none ∧ Fr n0 L ∧ Keep h0 h [b] ∧ (Arv Z h b k .byte (6 : Int32) [(.int x0), (.int x1), (.int ((c >>> ((0 : Int32) &&& 31)).toInt8.toInt32)), (.int ((c >>> ((8 : Int32) &&& 31)).toInt8.toInt32)), (.int x4), (.int x5)] (.int 0))
theorem rm_put6_1 (l : Launch) (Z : State) (a0 : Array Value) (hw : own_HW Z a0) (ws : List Jvm.Cond) (b : Addr) (c : Int32) (k : ClassId) (x0 x1 : Int32) (x2 x3 : Int32) (x4 x5 : Int32) (h0 : Heap) (n0 : Nat) (O0 : Old Z n0 h0) (u0 : Sta Z Z.heap "java/lang/StringUTF16" "$assertionsDisabled" "Z" (.int 1)) (u1 : Sta Z Z.heap "java/lang/StringUTF16" "HI_BYTE_SHIFT" "I" (.int 0)) (u2 : Sta Z Z.heap "java/lang/StringUTF16" "LO_BYTE_SHIFT" "I" (.int 8)) (u3 : Arv Z h0 b k .byte (6 : Int32) [(.int x0), (.int x1), (.int x2), (.int x3), (.int x4), (.int x5)] (.int 0)) (u4 : n0 ≤ b) :
    own_Met l Z m_23 jdk_52_method_4_code 3 none ws (own_R 0 0 0 0) #[(.ref b), (.int 1), (.int c)] h0 (Q_put6_1 Z b c k x0 x1 x2 x3 x4 x5 h0 n0) := by
  refine own_open (plainFor_of_name pn_2) (fun pr_ en_ st_ me_ below meth_ co_ s₁ Bd hx hby hml hown hZ X0 e0 G gv gf => ?_)
  have N0 := Fr.nil n0
  have K0 := Keep.refl h0 [b]
  refine gv (fun _ kQ => castTop (ef_5 me_ b (1 : Int32) c) kQ) ?_
  show G (s₁.setTop (mkF me_ 0 #[.val (.ref b), .val (.int 1), .val (.int c)] []))
  obtain ⟨T144, X144, e144, st144⟩ := getS2 X0 hx hZ hown (host := "") (Or.inl (t_71 hw)) Via.refl e0 (u0.ext O0.2) (g := (mkF me_ 0 #[.val (.ref b), .val (.int 1), .val (.int c)] [])) rfl (hb hby d16_0)
  refine gv st144 ?_
  refine gv (fun _ kQ => XS.ifYes X144.here hx rfl (pc0 := 3) (pc' := 28) rfl (hb hby d16_3) rfl ((if0 _ _).trans (feq (by decide : ¬ ((1 : Int32) = (0 : Int32)))).2) (by decide) (by decide) (XS.iloadN X144.here hx rfl (hb hby d16_28) rfl (XS.iconst X144.here hx rfl (hb hby d16_29) (XS.ishl X144.here hx rfl (hb hby d16_30) rfl kQ)))) ?_
  show G (T144.setTop (mkF me_ 31 #[.val (.ref b), .val (.int 1), .val (.int c)] [(.int ((1 : Int32) <<< ((1 : Int32) &&& 31)))]))
  rw [(by decide : ((1 : Int32) <<< ((1 : Int32) &&& 31)) = (2 : Int32))]
  refine gv (fun _ kQ => XS.istoreN X144.here hx rfl (hb hby d16_31) rfl (l' := #[.val (.ref b), .val (.int 2), .val (.int c)]) rfl (XS.aloadN X144.here hx rfl (hb hby d16_32) rfl rfl (XS.iloadN X144.here hx rfl (hb hby d16_33) rfl (XS.iinc X144.here hx rfl (hb hby d16_34) rfl (l' := #[.val (.ref b), .val (.int ((2 : Int32) + (1 : Int32))), .val (.int c)]) rfl kQ)))) ?_
  show G (T144.setTop (mkF me_ 37 #[.val (.ref b), .val (.int ((2 : Int32) + (1 : Int32))), .val (.int c)] [(.int 2), (.ref b)]))
  rw [(by decide : ((2 : Int32) + (1 : Int32)) = (3 : Int32))]
  refine gv (fun _ kQ => XS.iloadN X144.here hx rfl (hb hby d16_37) rfl kQ) ?_
  obtain ⟨T145, X145, e145, st145⟩ := getS2 X144 hx hZ hown (host := "") (Or.inl (t_72 hw)) Via.refl e144 (u1.ext O0.2) (g := (mkF me_ 38 #[.val (.ref b), .val (.int 3), .val (.int c)] [(.int c), (.int 2), (.ref b)])) rfl (hb hby d16_38)
  refine gv st145 ?_
  refine gv (fun _ kQ => XS.ishr X145.here hx rfl (hb hby d16_41) rfl (XS.i2b X145.here hx rfl (hb hby d16_42) rfl kQ)) ?_
  show G (T145.setTop (mkF me_ 43 #[.val (.ref b), .val (.int 3), .val (.int c)] [(.int ((c >>> ((0 : Int32) &&& 31)).toInt8.toInt32)), (.int 2), (.ref b)]))
  obtain ⟨cl146, Ar146, q146, S146, n146, H146, G146⟩ := (id u3)
  have in146 : ¬ ((2 : Int32) < 0 ∨ cl146.slots.size ≤ ((2 : Int32)).toNatClampNeg) := inb_of S146 ⟨by decide, by decide⟩
  obtain ⟨T146, h146, X146, e146, W146, st146⟩ := stB X145 hx hZ e145 Ar146 (j := (2 : Int32)) in146 (g := (mkF me_ 43 #[.val (.ref b), .val (.int 3), .val (.int c)] [(.int ((c >>> ((0 : Int32) &&& 31)).toInt8.toInt32)), (.int 2), (.ref b)])) rfl rfl (hb hby d16_43)
  have W146 : Wr h0 h146 b ((2 : Int32)).toNatClampNeg (.int ((c >>> ((0 : Int32) &&& 31)).toInt8.toInt32)) := by have z := W146; rw [(own_narB _)] at z; exact z
  refine gv st146 ?_
  have O148 := O0.wr W146 u4
  have K149 := K0.wr W146 (Or.inl (List.mem_of_getElem? (i := 0) rfl))
  have N150 := Fr.snoc X146 N0 u4
  have f147 : Arv Z h146 b k .byte (6 : Int32) [(.int x0), (.int x1), (.int ((c >>> ((0 : Int32) &&& 31)).toInt8.toInt32)), (.int x3), (.int x4), (.int x5)] (.int 0) := Arv.set Ar146 q146 S146 n146 H146 G146 (fits_nar_byte _) W146 2 rfl (Nat.le_of_ble_eq_true rfl)
  refine gv (fun _ kQ => XS.aloadN X146.here hx rfl (hb hby d16_44) rfl rfl (XS.iloadN X146.here hx rfl (hb hby d16_45) rfl (XS.iloadN X146.here hx rfl (hb hby d16_46) rfl kQ))) ?_
  show G (T146.setTop (mkF me_ 47 #[.val (.ref b), .val (.int 3), .val (.int c)] [(.int c), (.int 3), (.ref b)]))
  obtain ⟨T151, X151, e151, st151⟩ := getS2 X146 hx hZ hown (host := "") (Or.inl (t_73 hw)) Via.refl e146 (u2.ext O148.2) (g := (mkF me_ 47 #[.val (.ref b), .val (.int 3), .val (.int c)] [(.int c), (.int 3), (.ref b)])) rfl (hb hby d16_47)
  refine gv st151 ?_
  refine gv (fun _ kQ => XS.ishr X151.here hx rfl (hb hby d16_50) rfl (XS.i2b X151.here hx rfl (hb hby d16_51) rfl kQ)) ?_
  show G (T151.setTop (mkF me_ 52 #[.val (.ref b), .val (.int 3), .val (.int c)] [(.int ((c >>> ((8 : Int32) &&& 31)).toInt8.toInt32)), (.int 3), (.ref b)]))
  obtain ⟨cl152, Ar152, q152, S152, n152, H152, G152⟩ := (id f147)
  have in152 : ¬ ((3 : Int32) < 0 ∨ cl152.slots.size ≤ ((3 : Int32)).toNatClampNeg) := inb_of S152 ⟨by decide, by decide⟩
  obtain ⟨T152, h152, X152, e152, W152, st152⟩ := stB X151 hx hZ e151 Ar152 (j := (3 : Int32)) in152 (g := (mkF me_ 52 #[.val (.ref b), .val (.int 3), .val (.int c)] [(.int ((c >>> ((8 : Int32) &&& 31)).toInt8.toInt32)), (.int 3), (.ref b)])) rfl rfl (hb hby d16_52)
  have W152 : Wr h146 h152 b ((3 : Int32)).toNatClampNeg (.int ((c >>> ((8 : Int32) &&& 31)).toInt8.toInt32)) := by have z := W152; rw [(own_narB _)] at z; exact z
  refine gv st152 ?_
  have K155 := K149.wr W152 (Or.inl (List.mem_of_getElem? (i := 0) rfl))
  have N156 := Fr.snoc X152 N150 u4
  have f153 : Arv Z h152 b k .byte (6 : Int32) [(.int x0), (.int x1), (.int ((c >>> ((0 : Int32) &&& 31)).toInt8.toInt32)), (.int ((c >>> ((8 : Int32) &&& 31)).toInt8.toInt32)), (.int x4), (.int x5)] (.int 0) := Arv.set Ar152 q152 S152 n152 H152 G152 (fits_nar_byte _) W152 3 rfl (Nat.le_of_ble_eq_true rfl)
  refine gf _ (own_ret X152 Bd.notSynchronized (v := none) (fun _ => rfl) ?_ (by decide) (by decide) (fun fs hr => X152.returnOut hx Bd.returns (hb hby d16_53) hr))
  show Q_put6_1 Z b c k x0 x1 x2 x3 x4 x5 h0 n0 _ T152.heap _
  rw [e152]
  exact ⟨rfl, N156, K155, f153⟩
def Q_l1at3_2 (Z : State) (b : Addr) (k : ClassId) (x0 x1 x2 : Int32) (fmt : Value) (h0 : Heap) (n0 : Nat) (v : Option Value) (h : Heap) (L : List Loc) : Prop := v = some (.int ((x2 &&& (255 : Int32)).toUInt32.toUInt16.toUInt32.toInt32)) ∧ Fr n0 L ∧ h = h0
theorem rm_l1at3_2 (l : Launch) (Z : State) (a0 : Array Value) (hw : own_HW Z a0) (ws : List Jvm.Cond) (b : Addr) (k : ClassId) (x0 x1 x2 : Int32) (fmt : Value) (h0 : Heap) (n0 : Nat) (O0 : Old Z n0 h0) (u0 : fmt.isRef = true) (u1 : Sta Z Z.heap "jdk/internal/util/Preconditions" "SIOOBE_FORMATTER" "Ljava/util/function/BiFunction;" fmt) (u2 : Arv Z h0 b k .byte (3 : Int32) [(.int x0), (.int x1), (.int x2)] (.int 0)) :
    own_Met l Z m_13 jdk_43_method_2_code 2 (some .char) ws (own_R 2 0 0 27) #[(.ref b), (.int 2)] h0 (Q_l1at3_2 Z b k x0 x1 x2 fmt h0 n0) := by
  refine own_open (plainFor_of_name pn_3) (fun pr_ en_ st_ me_ below meth_ co_ s₁ Bd hx hby hml hown hZ X0 e0 G gv gf => ?_)
  have N0 := Fr.nil n0
  refine gv (fun _ kQ => castTop (ef_4 me_ b (2 : Int32)) kQ) ?_
  show G (s₁.setTop (mkF me_ 0 #[.val (.ref b), .val (.int 2)] []))
  refine gv (fun _ kQ => XS.iloadN X0.here hx rfl (hb hby d26_0) rfl (XS.aloadN X0.here hx rfl (hb hby d26_1) rfl rfl kQ)) ?_
  obtain ⟨cl157, Ar157, -, S157, n157, -, -⟩ := (id u2)
  refine gv (X0.arraylength hx (by rw [e0]; exact Ar157.1) (State.isArrayOf_alike hZ.alike Ar157.2.1) (g := (mkF me_ 2 #[.val (.ref b), .val (.int 2)] [(.ref b), (.int 2)])) rfl rfl (hb hby d26_2)) ?_
  rw [len_of S157 n157]
  obtain ⟨_, _, ⟨T158, L158, k158, n158⟩, -, X158, ⟨Lc158, hQ158, l158, y158, z158⟩, st158⟩ := Jvm.LawKit.callS X0 hx (y := m_9) hown (mvT hZ (t_111 hw)) (mvT hZ (t_100 hw)) (mvT hZ (t_13 hw)) (mvT hZ (t_101 hw)) (by decide) (backOf (W := 0) (rm_scx l Z a0 hw [] (2 : Int32) (3 : Int32) fmt h0 n0 O0 u0 u1 (by decide) (by decide)) hZ (t_101 hw) (t_13 hw) (by decide) (by decide)) (g := (mkF me_ 3 #[.val (.ref b), .val (.int 2)] [(.int 3), (.int 2)])) rfl (by rw [hml]; rfl) (argsL := [(.int 2), (.int 3)]) (rest := []) (lenOf pd_2 rfl) rfl (by show 2 * 0 + _ ≤ _; exact Nat.le_of_eq rfl) (hb hby d26_3) (fun _ _ => ⟨rfl, e0, (by decide : 0 + 0 ≤ _), (by decide : 0 + 0 ≤ _)⟩)
  dsimp only [Pt.U, Pt.locs, Pt.cells, Pt.slots] at X158 l158 y158 z158 st158 hQ158
  subst l158 y158 z158
  obtain ⟨rfl, Nq158, eq158⟩ := hQ158
  have N159 := Fr.app N0 Nq158
  refine gv st158 ?_
  refine gv (fun _ kQ => XS.aloadN X158.here hx rfl (hb hby d26_6) rfl rfl (XS.iloadN X158.here hx rfl (hb hby d26_7) rfl kQ)) ?_
  show G (T158.setTop (mkF me_ 8 #[.val (.ref b), .val (.int 2)] [(.int 2), (.ref b)]))
  obtain ⟨cl160, Ar160, q160, S160, n160, H160, G160⟩ := (id u2)
  have in160 : ¬ ((2 : Int32) < 0 ∨ cl160.slots.size ≤ ((2 : Int32)).toNatClampNeg) := inb_of S160 ⟨by decide, by decide⟩
  refine gv (X158.baloadBytes hx (j := (2 : Int32)) (v := (.int x2)) (by rw [eq158]; exact Ar160.1) (State.isArrayOf_alike hZ.alike Ar160.2.1) Ar160.2.2 in160 (Has.at H160 in160 rfl) (g := (mkF me_ 8 #[.val (.ref b), .val (.int 2)] [(.int 2), (.ref b)])) rfl rfl (hb hby d26_8)) ?_
  show G (T158.setTop (mkF me_ 9 #[.val (.ref b), .val (.int 2)] [(.int x2)]))
  refine gv (fun _ kQ => XS.sipush X158.here hx rfl (hb hby d26_9) (XS.iand X158.here hx rfl (hb hby d26_12) rfl (XS.i2c X158.here hx rfl (hb hby d26_13) rfl kQ))) ?_
  refine gf _ (own_ret X158 Bd.notSynchronized (v := some (.int ((x2 &&& (255 : Int32)).toUInt32.toUInt16.toUInt32.toInt32))) (own_rv Bd.returns) ?_ (by decide) (by decide) (fun fs hr => retN X158 hx (t := .char) Bd.returns (by simp) (hb hby d26_14) (by rw [(own_narC _)]; exact hr)))
  show Q_l1at3_2 Z b k x0 x1 x2 fmt h0 n0 _ T158.heap _
  rw [eq158]
  exact ⟨rfl, N159, rfl⟩
def Q_getc3_2 (Z : State) (b : Addr) (k : ClassId) (x0 x1 : Int32) (x2 x3 : Int32) (x4 x5 : Int32) (h0 : Heap) (n0 : Nat) (v : Option Value) (h : Heap) (L : List Loc) : Prop := v = some (.int (own_gc x4 x5)) ∧ Fr n0 L ∧ h = h0
theorem rm_getc3_2 (l : Launch) (Z : State) (a0 : Array Value) (hw : own_HW Z a0) (ws : List Jvm.Cond) (b : Addr) (k : ClassId) (x0 x1 : Int32) (x2 x3 : Int32) (x4 x5 : Int32) (h0 : Heap) (n0 : Nat) (O0 : Old Z n0 h0) (u0 : Sta Z Z.heap "java/lang/StringUTF16" "$assertionsDisabled" "Z" (.int 1)) (u1 : Sta Z Z.heap "java/lang/StringUTF16" "HI_BYTE_SHIFT" "I" (.int 0)) (u2 : Sta Z Z.heap "java/lang/StringUTF16" "LO_BYTE_SHIFT" "I" (.int 8)) (u3 : Arv Z h0 b k .byte (6 : Int32) [(.int x0), (.int x1), (.int x2), (.int x3), (.int x4), (.int x5)] (.int 0)) :
    own_Met l Z m_19 jdk_52_method_5_code 2 (some .char) ws (own_R 0 0 0 0) #[(.ref b), (.int 2)] h0 (Q_getc3_2 Z b k x0 x1 x2 x3 x4 x5 h0 n0) := by
  refine own_open (plainFor_of_name pn_2) (fun pr_ en_ st_ me_ below meth_ co_ s₁ Bd hx hby hml hown hZ X0 e0 G gv gf => ?_)
  have N0 := Fr.nil n0
  refine gv (fun _ kQ => castTop (ef_4 me_ b (2 : Int32)) kQ) ?_
  show G (s₁.setTop (mkF me_ 0 #[.val (.ref b), .val (.int 2)] []))
  obtain ⟨T161, X161, e161, st161⟩ := getS2 X0 hx hZ hown (host := "") (Or.inl (t_71 hw)) Via.refl e0 (u0.ext O0.2) (g := (mkF me_ 0 #[.val (.ref b), .val (.int 2)] [])) rfl (hb hby d17_0)
  refine gv st161 ?_
  refine gv (fun _ kQ => XS.ifYes X161.here hx rfl (pc0 := 3) (pc' := 28) rfl (hb hby d17_3) rfl ((if0 _ _).trans (feq (by decide : ¬ ((1 : Int32) = (0 : Int32)))).2) (by decide) (by decide) (XS.iloadN X161.here hx rfl (hb hby d17_28) rfl (XS.iconst X161.here hx rfl (hb hby d17_29) (XS.ishl X161.here hx rfl (hb hby d17_30) rfl kQ)))) ?_
  show G (T161.setTop (mkF me_ 31 #[.val (.ref b), .val (.int 2)] [(.int ((2 : Int32) <<< ((1 : Int32) &&& 31)))]))
  rw [(by decide : ((2 : Int32) <<< ((1 : Int32) &&& 31)) = (4 : Int32))]
  refine gv (fun _ kQ => XS.istoreN X161.here hx rfl (hb hby d17_31) rfl (l' := #[.val (.ref b), .val (.int 4)]) rfl (XS.aloadN X161.here hx rfl (hb hby d17_32) rfl rfl (XS.iloadN X161.here hx rfl (hb hby d17_33) rfl (XS.iinc X161.here hx rfl (hb hby d17_34) rfl (l' := #[.val (.ref b), .val (.int ((4 : Int32) + (1 : Int32)))]) rfl kQ)))) ?_
  show G (T161.setTop (mkF me_ 37 #[.val (.ref b), .val (.int ((4 : Int32) + (1 : Int32)))] [(.int 4), (.ref b)]))
  rw [(by decide : ((4 : Int32) + (1 : Int32)) = (5 : Int32))]
  obtain ⟨cl162, Ar162, q162, S162, n162, H162, G162⟩ := (id u3)
  have in162 : ¬ ((4 : Int32) < 0 ∨ cl162.slots.size ≤ ((4 : Int32)).toNatClampNeg) := inb_of S162 ⟨by decide, by decide⟩
  refine gv (X161.baloadBytes hx (j := (4 : Int32)) (v := (.int x4)) (by rw [e161]; exact Ar162.1) (State.isArrayOf_alike hZ.alike Ar162.2.1) Ar162.2.2 in162 (Has.at H162 in162 rfl) (g := (mkF me_ 37 #[.val (.ref b), .val (.int 5)] [(.int 4), (.ref b)])) rfl rfl (hb hby d17_37)) ?_
  show G (T161.setTop (mkF me_ 38 #[.val (.ref b), .val (.int 5)] [(.int x4)]))
  refine gv (fun _ kQ => XS.sipush X161.here hx rfl (hb hby d17_38) (XS.iand X161.here hx rfl (hb hby d17_41) rfl kQ)) ?_
  obtain ⟨T163, X163, e163, st163⟩ := getS2 X161 hx hZ hown (host := "") (Or.inl (t_72 hw)) Via.refl e161 (u1.ext O0.2) (g := (mkF me_ 42 #[.val (.ref b), .val (.int 5)] [(.int (x4 &&& (255 : Int32)))])) rfl (hb hby d17_42)
  refine gv st163 ?_
  refine gv (fun _ kQ => XS.ishl X163.here hx rfl (hb hby d17_45) rfl (XS.aloadN X163.here hx rfl (hb hby d17_46) rfl rfl (XS.iloadN X163.here hx rfl (hb hby d17_47) rfl kQ))) ?_
  show G (T163.setTop (mkF me_ 48 #[.val (.ref b), .val (.int 5)] [(.int 5), (.ref b), (.int ((x4 &&& (255 : Int32)) <<< ((0 : Int32) &&& 31)))]))
  obtain ⟨cl164, Ar164, q164, S164, n164, H164, G164⟩ := (id u3)
  have in164 : ¬ ((5 : Int32) < 0 ∨ cl164.slots.size ≤ ((5 : Int32)).toNatClampNeg) := inb_of S164 ⟨by decide, by decide⟩
  refine gv (X163.baloadBytes hx (j := (5 : Int32)) (v := (.int x5)) (by rw [e163]; exact Ar164.1) (State.isArrayOf_alike hZ.alike Ar164.2.1) Ar164.2.2 in164 (Has.at H164 in164 rfl) (g := (mkF me_ 48 #[.val (.ref b), .val (.int 5)] [(.int 5), (.ref b), (.int ((x4 &&& (255 : Int32)) <<< ((0 : Int32) &&& 31)))])) rfl rfl (hb hby d17_48)) ?_
  show G (T163.setTop (mkF me_ 49 #[.val (.ref b), .val (.int 5)] [(.int x5), (.int ((x4 &&& (255 : Int32)) <<< ((0 : Int32) &&& 31)))]))
  refine gv (fun _ kQ => XS.sipush X163.here hx rfl (hb hby d17_49) (XS.iand X163.here hx rfl (hb hby d17_52) rfl kQ)) ?_
  obtain ⟨T165, X165, e165, st165⟩ := getS2 X163 hx hZ hown (host := "") (Or.inl (t_73 hw)) Via.refl e163 (u2.ext O0.2) (g := (mkF me_ 53 #[.val (.ref b), .val (.int 5)] [(.int (x5 &&& (255 : Int32))), (.int ((x4 &&& (255 : Int32)) <<< ((0 : Int32) &&& 31)))])) rfl (hb hby d17_53)
  refine gv st165 ?_
  refine gv (fun _ kQ => XS.ishl X165.here hx rfl (hb hby d17_56) rfl (XS.ior X165.here hx rfl (hb hby d17_57) rfl (XS.i2c X165.here hx rfl (hb hby d17_58) rfl kQ))) ?_
  refine gf _ (own_ret X165 Bd.notSynchronized (v := some (.int ((((x4 &&& (255 : Int32)) <<< ((0 : Int32) &&& 31)) ||| ((x5 &&& (255 : Int32)) <<< ((8 : Int32) &&& 31))).toUInt32.toUInt16.toUInt32.toInt32))) (own_rv Bd.returns) ?_ (by decide) (by decide) (fun fs hr => retN X165 hx (t := .char) Bd.returns (by simp) (hb hby d17_59) (by rw [(own_narC _)]; exact hr)))
  show Q_getc3_2 Z b k x0 x1 x2 x3 x4 x5 h0 n0 _ T165.heap _
  rw [e165]
  exact ⟨rfl, N0, rfl⟩
def Q_uat3_2 (Z : State) (b : Addr) (k : ClassId) (x0 x1 : Int32) (x2 x3 : Int32) (x4 x5 : Int32) (fmt : Value) (h0 : Heap) (n0 : Nat) (v : Option Value) (h : Heap) (L : List Loc) : Prop := v = some (.int (own_gc x4 x5)) ∧ Fr n0 L ∧ h = h0
theorem rm_uat3_2 (l : Launch) (Z : State) (a0 : Array Value) (hw : own_HW Z a0) (ws : List Jvm.Cond) (b : Addr) (k : ClassId) (x0 x1 : Int32) (x2 x3 : Int32) (x4 x5 : Int32) (fmt : Value) (h0 : Heap) (n0 : Nat) (O0 : Old Z n0 h0) (u0 : fmt.isRef = true) (u1 : Sta Z Z.heap "jdk/internal/util/Preconditions" "SIOOBE_FORMATTER" "Ljava/util/function/BiFunction;" fmt) (u2 : Sta Z Z.heap "java/lang/StringUTF16" "$assertionsDisabled" "Z" (.int 1)) (u3 : Sta Z Z.heap "java/lang/StringUTF16" "HI_BYTE_SHIFT" "I" (.int 0)) (u4 : Sta Z Z.heap "java/lang/StringUTF16" "LO_BYTE_SHIFT" "I" (.int 8)) (u5 : Arv Z h0 b k .byte (6 : Int32) [(.int x0), (.int x1), (.int x2), (.int x3), (.int x4), (.int x5)] (.int 0)) :
    own_Met l Z m_14 jdk_52_method_83_code 2 (some .char) ws (own_R 3 0 0 40) #[(.ref b), (.int 2)] h0 (Q_uat3_2 Z b k x0 x1 x2 x3 x4 x5 fmt h0 n0) := by
  refine own_open (plainFor_of_name pn_2) (fun pr_ en_ st_ me_ below meth_ co_ s₁ Bd hx hby hml hown hZ X0 e0 G gv gf => ?_)
  have N0 := Fr.nil n0
  refine gv (fun _ kQ => castTop (ef_4 me_ b (2 : Int32)) kQ) ?_
  show G (s₁.setTop (mkF me_ 0 #[.val (.ref b), .val (.int 2)] []))
  refine gv (fun _ kQ => XS.iloadN X0.here hx rfl (hb hby d21_0) rfl (XS.aloadN X0.here hx rfl (hb hby d21_1) rfl rfl kQ)) ?_
  obtain ⟨_, _, ⟨T166, L166, k166, n166⟩, -, X166, ⟨Lc166, hQ166, l166, y166, z166⟩, st166⟩ := Jvm.LawKit.callS X0 hx (y := m_15) hown (mvT hZ (t_93 hw)) (mvT hZ (t_94 hw)) (mvT hZ (t_50 hw)) (mvT hZ (t_95 hw)) (by decide) (backOf (W := 0) (rm_uci3 l Z a0 hw [] (2 : Int32) b k x0 x1 x2 x3 x4 x5 fmt h0 n0 O0 u0 u1 (by decide) (by decide) u5) hZ (t_95 hw) (t_50 hw) (by decide) (by decide)) (g := (mkF me_ 2 #[.val (.ref b), .val (.int 2)] [(.ref b), (.int 2)])) rfl (by rw [hml]; rfl) (argsL := [(.int 2), (.ref b)]) (rest := []) (lenOf pd_3 rfl) rfl (by show 2 * 0 + _ ≤ _; exact Nat.le_of_eq rfl) (hb hby d21_2) (fun _ _ => ⟨rfl, e0, (by decide : 0 + 0 ≤ _), (by decide : 0 + 0 ≤ _)⟩)
  dsimp only [Pt.U, Pt.locs, Pt.cells, Pt.slots] at X166 l166 y166 z166 st166 hQ166
  subst l166 y166 z166
  obtain ⟨rfl, Nq166, eq166⟩ := hQ166
  have N167 := Fr.app N0 Nq166
  refine gv st166 ?_
  refine gv (fun _ kQ => XS.aloadN X166.here hx rfl (hb hby d21_5) rfl rfl (XS.iloadN X166.here hx rfl (hb hby d21_6) rfl kQ)) ?_
  show G (T166.setTop (mkF me_ 7 #[.val (.ref b), .val (.int 2)] [(.int 2), (.ref b)]))
  obtain ⟨_, _, ⟨T168, L168, k168, n168⟩, -, X168, ⟨Lc168, hQ168, l168, y168, z168⟩, st168⟩ := Jvm.LawKit.callS X166 hx (y := m_19) hown (mvT hZ (t_74 hw)) (mvT hZ (t_75 hw)) (mvT hZ (t_50 hw)) (mvT hZ (t_76 hw)) (by decide) (backOf (W := 0) (rm_getc3_2 l Z a0 hw [] b k x0 x1 x2 x3 x4 x5 h0 n0 O0 u2 u3 u4 u5) hZ (t_76 hw) (t_50 hw) (by decide) (by decide)) (g := (mkF me_ 7 #[.val (.ref b), .val (.int 2)] [(.int 2), (.ref b)])) rfl (by rw [hml]; rfl) (argsL := [(.ref b), (.int 2)]) (rest := []) (lenOf pd_4 rfl) rfl (by show 2 * 0 + _ ≤ _; exact Nat.le_of_eq rfl) (hb hby d21_7) (fun _ _ => ⟨rfl, eq166, (by decide : 0 + 0 ≤ _), (by decide : 0 + 0 ≤ _)⟩)
  dsimp only [Pt.U, Pt.locs, Pt.cells, Pt.slots] at X168 l168 y168 z168 st168 hQ168
  subst l168 y168 z168
  obtain ⟨rfl, Nq168, eq168⟩ := hQ168
  have N169 := Fr.app N167 Nq168
  refine gv st168 ?_
  refine gf _ (own_ret X168 Bd.notSynchronized (v := some (.int (own_gc x4 x5))) (own_rv Bd.returns) ?_ (by decide) (by decide) (fun fs hr => retN X168 hx (t := .char) Bd.returns (by simp) (hb hby d21_10) (by rw [(own_gcn _ _)]; exact hr)))
  show Q_uat3_2 Z b k x0 x1 x2 x3 x4 x5 fmt h0 n0 _ T168.heap _
  rw [eq168]
  exact ⟨rfl, N169, rfl⟩
def Q_put6_2 (Z : State) (b : Addr) (c : Int32) (k : ClassId) (x0 x1 : Int32) (x2 x3 : Int32) (x4 x5 : Int32) (h0 : Heap) (n0 : Nat) (v : Option Value) (h : Heap) (L : List Loc) : Prop := v = none ∧ Fr n0 L ∧ Keep h0 h [b] ∧ (Arv Z h b k .byte (6 : Int32) [(.int x0), (.int x1), (.int x2), (.int x3), (.int ((c >>> ((0 : Int32) &&& 31)).toInt8.toInt32)), (.int ((c >>> ((8 : Int32) &&& 31)).toInt8.toInt32))] (.int 0))
theorem rm_put6_2 (l : Launch) (Z : State) (a0 : Array Value) (hw : own_HW Z a0) (ws : List Jvm.Cond) (b : Addr) (c : Int32) (k : ClassId) (x0 x1 : Int32) (x2 x3 : Int32) (x4 x5 : Int32) (h0 : Heap) (n0 : Nat) (O0 : Old Z n0 h0) (u0 : Sta Z Z.heap "java/lang/StringUTF16" "$assertionsDisabled" "Z" (.int 1)) (u1 : Sta Z Z.heap "java/lang/StringUTF16" "HI_BYTE_SHIFT" "I" (.int 0)) (u2 : Sta Z Z.heap "java/lang/StringUTF16" "LO_BYTE_SHIFT" "I" (.int 8)) (u3 : Arv Z h0 b k .byte (6 : Int32) [(.int x0), (.int x1), (.int x2), (.int x3), (.int x4), (.int x5)] (.int 0)) (u4 : n0 ≤ b) :
    own_Met l Z m_23 jdk_52_method_4_code 3 none ws (own_R 0 0 0 0) #[(.ref b), (.int 2), (.int c)] h0 (Q_put6_2 Z b c k x0 x1 x2 x3 x4 x5 h0 n0) := by
  refine own_open (plainFor_of_name pn_2) (fun pr_ en_ st_ me_ below meth_ co_ s₁ Bd hx hby hml hown hZ X0 e0 G gv gf => ?_)
  have N0 := Fr.nil n0
  have K0 := Keep.refl h0 [b]
  refine gv (fun _ kQ => castTop (ef_5 me_ b (2 : Int32) c) kQ) ?_
  show G (s₁.setTop (mkF me_ 0 #[.val (.ref b), .val (.int 2), .val (.int c)] []))
  obtain ⟨T170, X170, e170, st170⟩ := getS2 X0 hx hZ hown (host := "") (Or.inl (t_71 hw)) Via.refl e0 (u0.ext O0.2) (g := (mkF me_ 0 #[.val (.ref b), .val (.int 2), .val (.int c)] [])) rfl (hb hby d16_0)
  refine gv st170 ?_
  refine gv (fun _ kQ => XS.ifYes X170.here hx rfl (pc0 := 3) (pc' := 28) rfl (hb hby d16_3) rfl ((if0 _ _).trans (feq (by decide : ¬ ((1 : Int32) = (0 : Int32)))).2) (by decide) (by decide) (XS.iloadN X170.here hx rfl (hb hby d16_28) rfl (XS.iconst X170.here hx rfl (hb hby d16_29) (XS.ishl X170.here hx rfl (hb hby d16_30) rfl kQ)))) ?_
  show G (T170.setTop (mkF me_ 31 #[.val (.ref b), .val (.int 2), .val (.int c)] [(.int ((2 : Int32) <<< ((1 : Int32) &&& 31)))]))
  rw [(by decide : ((2 : Int32) <<< ((1 : Int32) &&& 31)) = (4 : Int32))]
  refine gv (fun _ kQ => XS.istoreN X170.here hx rfl (hb hby d16_31) rfl (l' := #[.val (.ref b), .val (.int 4), .val (.int c)]) rfl (XS.aloadN X170.here hx rfl (hb hby d16_32) rfl rfl (XS.iloadN X170.here hx rfl (hb hby d16_33) rfl (XS.iinc X170.here hx rfl (hb hby d16_34) rfl (l' := #[.val (.ref b), .val (.int ((4 : Int32) + (1 : Int32))), .val (.int c)]) rfl kQ)))) ?_
  show G (T170.setTop (mkF me_ 37 #[.val (.ref b), .val (.int ((4 : Int32) + (1 : Int32))), .val (.int c)] [(.int 4), (.ref b)]))
  rw [(by decide : ((4 : Int32) + (1 : Int32)) = (5 : Int32))]
  refine gv (fun _ kQ => XS.iloadN X170.here hx rfl (hb hby d16_37) rfl kQ) ?_
  obtain ⟨T171, X171, e171, st171⟩ := getS2 X170 hx hZ hown (host := "") (Or.inl (t_72 hw)) Via.refl e170 (u1.ext O0.2) (g := (mkF me_ 38 #[.val (.ref b), .val (.int 5), .val (.int c)] [(.int c), (.int 4), (.ref b)])) rfl (hb hby d16_38)
  refine gv st171 ?_
  refine gv (fun _ kQ => XS.ishr X171.here hx rfl (hb hby d16_41) rfl (XS.i2b X171.here hx rfl (hb hby d16_42) rfl kQ)) ?_
  show G (T171.setTop (mkF me_ 43 #[.val (.ref b), .val (.int 5), .val (.int c)] [(.int ((c >>> ((0 : Int32) &&& 31)).toInt8.toInt32)), (.int 4), (.ref b)]))
  obtain ⟨cl172, Ar172, q172, S172, n172, H172, G172⟩ := (id u3)
  have in172 : ¬ ((4 : Int32) < 0 ∨ cl172.slots.size ≤ ((4 : Int32)).toNatClampNeg) := inb_of S172 ⟨by decide, by decide⟩
  obtain ⟨T172, h172, X172, e172, W172, st172⟩ := stB X171 hx hZ e171 Ar172 (j := (4 : Int32)) in172 (g := (mkF me_ 43 #[.val (.ref b), .val (.int 5), .val (.int c)] [(.int ((c >>> ((0 : Int32) &&& 31)).toInt8.toInt32)), (.int 4), (.ref b)])) rfl rfl (hb hby d16_43)
  have W172 : Wr h0 h172 b ((4 : Int32)).toNatClampNeg (.int ((c >>> ((0 : Int32) &&& 31)).toInt8.toInt32)) := by have z := W172; rw [(own_narB _)] at z; exact z
  refine gv st172 ?_
  have O174 := O0.wr W172 u4
  have K175 := K0.wr W172 (Or.inl (List.mem_of_getElem? (i := 0) rfl))
  have N176 := Fr.snoc X172 N0 u4
  have f173 : Arv Z h172 b k .byte (6 : Int32) [(.int x0), (.int x1), (.int x2), (.int x3), (.int ((c >>> ((0 : Int32) &&& 31)).toInt8.toInt32)), (.int x5)] (.int 0) := Arv.set Ar172 q172 S172 n172 H172 G172 (fits_nar_byte _) W172 4 rfl (Nat.le_of_ble_eq_true rfl)
  refine gv (fun _ kQ => XS.aloadN X172.here hx rfl (hb hby d16_44) rfl rfl (XS.iloadN X172.here hx rfl (hb hby d16_45) rfl (XS.iloadN X172.here hx rfl (hb hby d16_46) rfl kQ))) ?_
  show G (T172.setTop (mkF me_ 47 #[.val (.ref b), .val (.int 5), .val (.int c)] [(.int c), (.int 5), (.ref b)]))
  obtain ⟨T177, X177, e177, st177⟩ := getS2 X172 hx hZ hown (host := "") (Or.inl (t_73 hw)) Via.refl e172 (u2.ext O174.2) (g := (mkF me_ 47 #[.val (.ref b), .val (.int 5), .val (.int c)] [(.int c), (.int 5), (.ref b)])) rfl (hb hby d16_47)
  refine gv st177 ?_
  refine gv (fun _ kQ => XS.ishr X177.here hx rfl (hb hby d16_50) rfl (XS.i2b X177.here hx rfl (hb hby d16_51) rfl kQ)) ?_
  show G (T177.setTop (mkF me_ 52 #[.val (.ref b), .val (.int 5), .val (.int c)] [(.int ((c >>> ((8 : Int32) &&& 31)).toInt8.toInt32)), (.int 5), (.ref b)]))
  obtain ⟨cl178, Ar178, q178, S178, n178, H178, G178⟩ := (id f173)
  have in178 : ¬ ((5 : Int32) < 0 ∨ cl178.slots.size ≤ ((5 : Int32)).toNatClampNeg) := inb_of S178 ⟨by decide, by decide⟩
  obtain ⟨T178, h178, X178, e178, W178, st178⟩ := stB X177 hx hZ e177 Ar178 (j := (5 : Int32)) in178 (g := (mkF me_ 52 #[.val (.ref b), .val (.int 5), .val (.int c)] [(.int ((c >>> ((8 : Int32) &&& 31)).toInt8.toInt32)), (.int 5), (.ref b)])) rfl rfl (hb hby d16_52)
  have W178 : Wr h172 h178 b ((5 : Int32)).toNatClampNeg (.int ((c >>> ((8 : Int32) &&& 31)).toInt8.toInt32)) := by have z := W178; rw [(own_narB _)] at z; exact z
  refine gv st178 ?_
  have K181 := K175.wr W178 (Or.inl (List.mem_of_getElem? (i := 0) rfl))
  have N182 := Fr.snoc X178 N176 u4
  have f179 : Arv Z h178 b k .byte (6 : Int32) [(.int x0), (.int x1), (.int x2), (.int x3), (.int ((c >>> ((0 : Int32) &&& 31)).toInt8.toInt32)), (.int ((c >>> ((8 : Int32) &&& 31)).toInt8.toInt32))] (.int 0) := Arv.set Ar178 q178 S178 n178 H178 G178 (fits_nar_byte _) W178 5 rfl (Nat.le_of_ble_eq_true rfl)
  refine gf _ (own_ret X178 Bd.notSynchronized (v := none) (fun _ => rfl) ?_ (by decide) (by decide) (fun fs hr => X178.returnOut hx Bd.returns (hb hby d16_53) hr))
  show Q_put6_2 Z b c k x0 x1 x2 x3 x4 x5 h0 n0 _ T178.heap _
  rw [e178]
  exact ⟨rfl, N182, K181, f179⟩
def Q_ulen4 (Z : State) (b : Addr) (k : ClassId) (x0 x1 : Int32) (x2 x3 : Int32) (x4 x5 : Int32) (x6 x7 : Int32) (h0 : Heap) (n0 : Nat) (v : Option Value) (h : Heap) (L : List Loc) : Prop := v = some (.int 4) ∧ Fr n0 L ∧ h = h0
theorem rm_ulen4 (l : Launch) (Z : State) (a0 : Array Value) (hw : own_HW Z a0) (ws : List Jvm.Cond) (b : Addr) (k : ClassId) (x0 x1 : Int32) (x2 x3 : Int32) (x4 x5 : Int32) (x6 x7 : Int32) (h0 : Heap) (n0 : Nat) (O0 : Old Z n0 h0) (u0 : Arv Z h0 b k .byte (8 : Int32) [(.int x0), (.int x1), (.int x2), (.int x3), (.int x4), (.int x5), (.int x6), (.int x7)] (.int 0)) :
    own_Met l Z m_20 jdk_52_method_6_code 1 (some .int) ws (own_R 0 0 0 0) #[(.ref b)] h0 (Q_ulen4 Z b k x0 x1 x2 x3 x4 x5 x6 x7 h0 n0) := by
  refine own_open (plainFor_of_name pn_2) (fun pr_ en_ st_ me_ below meth_ co_ s₁ Bd hx hby hml hown hZ X0 e0 G gv gf => ?_)
  have N0 := Fr.nil n0
  refine gv (fun _ kQ => castTop (ef_0 me_ b) kQ) ?_
  show G (s₁.setTop (mkF me_ 0 #[.val (.ref b)] []))
  refine gv (fun _ kQ => XS.aloadN X0.here hx rfl (hb hby d23_0) rfl rfl kQ) ?_
  obtain ⟨cl183, Ar183, -, S183, n183, -, -⟩ := (id u0)
  refine gv (X0.arraylength hx (by rw [e0]; exact Ar183.1) (State.isArrayOf_alike hZ.alike Ar183.2.1) (g := (mkF me_ 1 #[.val (.ref b)] [(.ref b)])) rfl rfl (hb hby d23_1)) ?_
  rw [len_of S183 n183]
  refine gv (fun _ kQ => XS.iconst X0.here hx rfl (hb hby d23_2) (XS.ishr X0.here hx rfl (hb hby d23_3) rfl kQ)) ?_
  show G (s₁.setTop (mkF me_ 4 #[.val (.ref b)] [(.int ((8 : Int32) >>> ((1 : Int32) &&& 31)))]))
  rw [(by decide : ((8 : Int32) >>> ((1 : Int32) &&& 31)) = (4 : Int32))]
  refine gf _ (own_ret X0 Bd.notSynchronized (v := some (.int 4)) (own_rv Bd.returns) ?_ (by decide) (by decide) (fun fs hr => retOut X0 hx (t := .int) Bd.returns rfl (Or.inl ⟨rfl, Or.inl rfl, _, rfl⟩) (hb hby d23_4) hr))
  show Q_ulen4 Z b k x0 x1 x2 x3 x4 x5 x6 x7 h0 n0 _ s₁.heap _
  rw [e0]
  exact ⟨rfl, N0, rfl⟩
def Q_uci4 (Z : State) (i_ : Int32) (b : Addr) (k : ClassId) (x0 x1 : Int32) (x2 x3 : Int32) (x4 x5 : Int32) (x6 x7 : Int32) (fmt : Value) (h0 : Heap) (n0 : Nat) (v : Option Value) (h : Heap) (L : List Loc) : Prop := v = none ∧ Fr n0 L ∧ h = h0
theorem rm_uci4 (l : Launch) (Z : State) (a0 : Array Value) (hw : own_HW Z a0) (ws : List Jvm.Cond) (i_ : Int32) (b : Addr) (k : ClassId) (x0 x1 : Int32) (x2 x3 : Int32) (x4 x5 : Int32) (x6 x7 : Int32) (fmt : Value) (h0 : Heap) (n0 : Nat) (O0 : Old Z n0 h0) (u0 : fmt.isRef = true) (u1 : Sta Z Z.heap "jdk/internal/util/Preconditions" "SIOOBE_FORMATTER" "Ljava/util/function/BiFunction;" fmt) (u2 : ¬ (i_ < (0 : Int32))) (u3 : i_ < (4 : Int32)) (u4 : Arv Z h0 b k .byte (8 : Int32) [(.int x0), (.int x1), (.int x2), (.int x3), (.int x4), (.int x5), (.int x6), (.int x7)] (.int 0)) :
    own_Met l Z m_15 jdk_52_method_91_code 2 none ws (own_R 2 0 0 27) #[(.int i_), (.ref b)] h0 (Q_uci4 Z i_ b k x0 x1 x2 x3 x4 x5 x6 x7 fmt h0 n0) := by
  refine own_open (plainFor_of_name pn_2) (fun pr_ en_ st_ me_ below meth_ co_ s₁ Bd hx hby hml hown hZ X0 e0 G gv gf => ?_)
  have N0 := Fr.nil n0
  refine gv (fun _ kQ => castTop (ef_3 me_ i_ b) kQ) ?_
  show G (s₁.setTop (mkF me_ 0 #[.val (.int i_), .val (.ref b)] []))
  refine gv (fun _ kQ => XS.iloadN X0.here hx rfl (hb hby d22_0) rfl (XS.aloadN X0.here hx rfl (hb hby d22_1) rfl rfl kQ)) ?_
  obtain ⟨_, _, ⟨T184, L184, k184, n184⟩, -, X184, ⟨Lc184, hQ184, l184, y184, z184⟩, st184⟩ := Jvm.LawKit.callS X0 hx (y := m_20) hown (mvT hZ (t_96 hw)) (mvT hZ (t_97 hw)) (mvT hZ (t_50 hw)) (mvT hZ (t_98 hw)) (by decide) (backOf (W := 1) (rm_ulen4 l Z a0 hw [] b k x0 x1 x2 x3 x4 x5 x6 x7 h0 n0 O0 u4) hZ (t_98 hw) (t_50 hw) (by decide) (by decide)) (g := (mkF me_ 2 #[.val (.int i_), .val (.ref b)] [(.ref b), (.int i_)])) rfl (by rw [hml]; rfl) (argsL := [(.ref b)]) (rest := [(.int i_)]) (lenOf pd_1 rfl) rfl (by show 2 * 0 + _ ≤ _; exact Nat.le_of_eq rfl) (hb hby d22_2) (fun _ _ => ⟨rfl, e0, (by decide : 0 + 0 ≤ _), (by decide : 0 + 0 ≤ _)⟩)
  dsimp only [Pt.U, Pt.locs, Pt.cells, Pt.slots] at X184 l184 y184 z184 st184 hQ184
  subst l184 y184 z184
  obtain ⟨rfl, Nq184, eq184⟩ := hQ184
  have N185 := Fr.app N0 Nq184
  refine gv st184 ?_
  obtain ⟨_, _, ⟨T186, L186, k186, n186⟩, -, X186, ⟨Lc186, hQ186, l186, y186, z186⟩, st186⟩ := Jvm.LawKit.callS X184 hx (y := m_9) hown (mvT hZ (t_99 hw)) (mvT hZ (t_100 hw)) (mvT hZ (t_13 hw)) (mvT hZ (t_101 hw)) (by decide) (backOf (W := 0) (rm_scx l Z a0 hw [] i_ (4 : Int32) fmt h0 n0 O0 u0 u1 u2 u3) hZ (t_101 hw) (t_13 hw) (by decide) (by decide)) (g := (mkF me_ 5 #[.val (.int i_), .val (.ref b)] [(.int 4), (.int i_)])) rfl (by rw [hml]; rfl) (argsL := [(.int i_), (.int 4)]) (rest := []) (lenOf pd_2 rfl) rfl (by show 2 * 0 + _ ≤ _; exact Nat.le_of_eq rfl) (hb hby d22_5) (fun _ _ => ⟨rfl, eq184, (by decide : 0 + 0 ≤ _), (by decide : 0 + 0 ≤ _)⟩)
  dsimp only [Pt.U, Pt.locs, Pt.cells, Pt.slots] at X186 l186 y186 z186 st186 hQ186
  subst l186 y186 z186
  obtain ⟨rfl, Nq186, eq186⟩ := hQ186
  have N187 := Fr.app N185 Nq186
  refine gv st186 ?_
  refine gf _ (own_ret X186 Bd.notSynchronized (v := none) (fun _ => rfl) ?_ (by decide) (by decide) (fun fs hr => X186.returnOut hx Bd.returns (hb hby d22_8) hr))
  show Q_uci4 Z i_ b k x0 x1 x2 x3 x4 x5 x6 x7 fmt h0 n0 _ T186.heap _
  rw [eq186]
  exact ⟨rfl, N187, rfl⟩
def Q_l1at4_0 (Z : State) (b : Addr) (k : ClassId) (x0 x1 : Int32) (x2 x3 : Int32) (fmt : Value) (h0 : Heap) (n0 : Nat) (v : Option Value) (h : Heap) (L : List Loc) : Prop := v = some (.int ((x0 &&& (255 : Int32)).toUInt32.toUInt16.toUInt32.toInt32)) ∧ Fr n0 L ∧ h = h0
theorem rm_l1at4_0 (l : Launch) (Z : State) (a0 : Array Value) (hw : own_HW Z a0) (ws : List Jvm.Cond) (b : Addr) (k : ClassId) (x0 x1 : Int32) (x2 x3 : Int32) (fmt : Value) (h0 : Heap) (n0 : Nat) (O0 : Old Z n0 h0) (u0 : fmt.isRef = true) (u1 : Sta Z Z.heap "jdk/internal/util/Preconditions" "SIOOBE_FORMATTER" "Ljava/util/function/BiFunction;" fmt) (u2 : Arv Z h0 b k .byte (4 : Int32) [(.int x0), (.int x1), (.int x2), (.int x3)] (.int 0)) :
    own_Met l Z m_13 jdk_43_method_2_code 2 (some .char) ws (own_R 2 0 0 27) #[(.ref b), (.int 0)] h0 (Q_l1at4_0 Z b k x0 x1 x2 x3 fmt h0 n0) := by
  refine own_open (plainFor_of_name pn_3) (fun pr_ en_ st_ me_ below meth_ co_ s₁ Bd hx hby hml hown hZ X0 e0 G gv gf => ?_)
  have N0 := Fr.nil n0
  refine gv (fun _ kQ => castTop (ef_4 me_ b (0 : Int32)) kQ) ?_
  show G (s₁.setTop (mkF me_ 0 #[.val (.ref b), .val (.int 0)] []))
  refine gv (fun _ kQ => XS.iloadN X0.here hx rfl (hb hby d26_0) rfl (XS.aloadN X0.here hx rfl (hb hby d26_1) rfl rfl kQ)) ?_
  obtain ⟨cl188, Ar188, -, S188, n188, -, -⟩ := (id u2)
  refine gv (X0.arraylength hx (by rw [e0]; exact Ar188.1) (State.isArrayOf_alike hZ.alike Ar188.2.1) (g := (mkF me_ 2 #[.val (.ref b), .val (.int 0)] [(.ref b), (.int 0)])) rfl rfl (hb hby d26_2)) ?_
  rw [len_of S188 n188]
  obtain ⟨_, _, ⟨T189, L189, k189, n189⟩, -, X189, ⟨Lc189, hQ189, l189, y189, z189⟩, st189⟩ := Jvm.LawKit.callS X0 hx (y := m_9) hown (mvT hZ (t_111 hw)) (mvT hZ (t_100 hw)) (mvT hZ (t_13 hw)) (mvT hZ (t_101 hw)) (by decide) (backOf (W := 0) (rm_scx l Z a0 hw [] (0 : Int32) (4 : Int32) fmt h0 n0 O0 u0 u1 (by decide) (by decide)) hZ (t_101 hw) (t_13 hw) (by decide) (by decide)) (g := (mkF me_ 3 #[.val (.ref b), .val (.int 0)] [(.int 4), (.int 0)])) rfl (by rw [hml]; rfl) (argsL := [(.int 0), (.int 4)]) (rest := []) (lenOf pd_2 rfl) rfl (by show 2 * 0 + _ ≤ _; exact Nat.le_of_eq rfl) (hb hby d26_3) (fun _ _ => ⟨rfl, e0, (by decide : 0 + 0 ≤ _), (by decide : 0 + 0 ≤ _)⟩)
  dsimp only [Pt.U, Pt.locs, Pt.cells, Pt.slots] at X189 l189 y189 z189 st189 hQ189
  subst l189 y189 z189
  obtain ⟨rfl, Nq189, eq189⟩ := hQ189
  have N190 := Fr.app N0 Nq189
  refine gv st189 ?_
  refine gv (fun _ kQ => XS.aloadN X189.here hx rfl (hb hby d26_6) rfl rfl (XS.iloadN X189.here hx rfl (hb hby d26_7) rfl kQ)) ?_
  show G (T189.setTop (mkF me_ 8 #[.val (.ref b), .val (.int 0)] [(.int 0), (.ref b)]))
  obtain ⟨cl191, Ar191, q191, S191, n191, H191, G191⟩ := (id u2)
  have in191 : ¬ ((0 : Int32) < 0 ∨ cl191.slots.size ≤ ((0 : Int32)).toNatClampNeg) := inb_of S191 ⟨by decide, by decide⟩
  refine gv (X189.baloadBytes hx (j := (0 : Int32)) (v := (.int x0)) (by rw [eq189]; exact Ar191.1) (State.isArrayOf_alike hZ.alike Ar191.2.1) Ar191.2.2 in191 (Has.at H191 in191 rfl) (g := (mkF me_ 8 #[.val (.ref b), .val (.int 0)] [(.int 0), (.ref b)])) rfl rfl (hb hby d26_8)) ?_
  show G (T189.setTop (mkF me_ 9 #[.val (.ref b), .val (.int 0)] [(.int x0)]))
  refine gv (fun _ kQ => XS.sipush X189.here hx rfl (hb hby d26_9) (XS.iand X189.here hx rfl (hb hby d26_12) rfl (XS.i2c X189.here hx rfl (hb hby d26_13) rfl kQ))) ?_
  refine gf _ (own_ret X189 Bd.notSynchronized (v := some (.int ((x0 &&& (255 : Int32)).toUInt32.toUInt16.toUInt32.toInt32))) (own_rv Bd.returns) ?_ (by decide) (by decide) (fun fs hr => retN X189 hx (t := .char) Bd.returns (by simp) (hb hby d26_14) (by rw [(own_narC _)]; exact hr)))
  show Q_l1at4_0 Z b k x0 x1 x2 x3 fmt h0 n0 _ T189.heap _
  rw [eq189]
  exact ⟨rfl, N190, rfl⟩
def Q_getc4_0 (Z : State) (b : Addr) (k : ClassId) (x0 x1 : Int32) (x2 x3 : Int32) (x4 x5 : Int32) (x6 x7 : Int32) (h0 : Heap) (n0 : Nat) (v : Option Value) (h : Heap) (L : List Loc) : Prop := v = some (.int (own_gc x0 x1)) ∧ Fr n0 L ∧ h = h0
theorem rm_getc4_0 (l : Launch) (Z : State) (a0 : Array Value) (hw : own_HW Z a0) (ws : List Jvm.Cond) (b : Addr) (k : ClassId) (x0 x1 : Int32) (x2 x3 : Int32) (x4 x5 : Int32) (x6 x7 : Int32) (h0 : Heap) (n0 : Nat) (O0 : Old Z n0 h0) (u0 : Sta Z Z.heap "java/lang/StringUTF16" "$assertionsDisabled" "Z" (.int 1)) (u1 : Sta Z Z.heap "java/lang/StringUTF16" "HI_BYTE_SHIFT" "I" (.int 0)) (u2 : Sta Z Z.heap "java/lang/StringUTF16" "LO_BYTE_SHIFT" "I" (.int 8)) (u3 : Arv Z h0 b k .byte (8 : Int32) [(.int x0), (.int x1), (.int x2), (.int x3), (.int x4), (.int x5), (.int x6), (.int x7)] (.int 0)) :
    own_Met l Z m_19 jdk_52_method_5_code 2 (some .char) ws (own_R 0 0 0 0) #[(.ref b), (.int 0)] h0 (Q_getc4_0 Z b k x0 x1 x2 x3 x4 x5 x6 x7 h0 n0) := by
  refine own_open (plainFor_of_name pn_2) (fun pr_ en_ st_ me_ below meth_ co_ s₁ Bd hx hby hml hown hZ X0 e0 G gv gf => ?_)
  have N0 := Fr.nil n0
  refine gv (fun _ kQ => castTop (ef_4 me_ b (0 : Int32)) kQ) ?_
  show G (s₁.setTop (mkF me_ 0 #[.val (.ref b), .val (.int 0)] []))
  obtain ⟨T192, X192, e192, st192⟩ := getS2 X0 hx hZ hown (host := "") (Or.inl (t_71 hw)) Via.refl e0 (u0.ext O0.2) (g := (mkF me_ 0 #[.val (.ref b), .val (.int 0)] [])) rfl (hb hby d17_0)
  refine gv st192 ?_
  refine gv (fun _ kQ => XS.ifYes X192.here hx rfl (pc0 := 3) (pc' := 28) rfl (hb hby d17_3) rfl ((if0 _ _).trans (feq (by decide : ¬ ((1 : Int32) = (0 : Int32)))).2) (by decide) (by decide) (XS.iloadN X192.here hx rfl (hb hby d17_28) rfl (XS.iconst X192.here hx rfl (hb hby d17_29) (XS.ishl X192.here hx rfl (hb hby d17_30) rfl kQ)))) ?_
  show G (T192.setTop (mkF me_ 31 #[.val (.ref b), .val (.int 0)] [(.int ((0 : Int32) <<< ((1 : Int32) &&& 31)))]))
  rw [(by decide : ((0 : Int32) <<< ((1 : Int32) &&& 31)) = (0 : Int32))]
  refine gv (fun _ kQ => XS.istoreN X192.here hx rfl (hb hby d17_31) rfl (l' := #[.val (.ref b), .val (.int 0)]) rfl (XS.aloadN X192.here hx rfl (hb hby d17_32) rfl rfl (XS.iloadN X192.here hx rfl (hb hby d17_33) rfl (XS.iinc X192.here hx rfl (hb hby d17_34) rfl (l' := #[.val (.ref b), .val (.int ((0 : Int32) + (1 : Int32)))]) rfl kQ)))) ?_
  show G (T192.setTop (mkF me_ 37 #[.val (.ref b), .val (.int ((0 : Int32) + (1 : Int32)))] [(.int 0), (.ref b)]))
  rw [(by decide : ((0 : Int32) + (1 : Int32)) = (1 : Int32))]
  obtain ⟨cl193, Ar193, q193, S193, n193, H193, G193⟩ := (id u3)
  have in193 : ¬ ((0 : Int32) < 0 ∨ cl193.slots.size ≤ ((0 : Int32)).toNatClampNeg) := inb_of S193 ⟨by decide, by decide⟩
  refine gv (X192.baloadBytes hx (j := (0 : Int32)) (v := (.int x0)) (by rw [e192]; exact Ar193.1) (State.isArrayOf_alike hZ.alike Ar193.2.1) Ar193.2.2 in193 (Has.at H193 in193 rfl) (g := (mkF me_ 37 #[.val (.ref b), .val (.int 1)] [(.int 0), (.ref b)])) rfl rfl (hb hby d17_37)) ?_
  show G (T192.setTop (mkF me_ 38 #[.val (.ref b), .val (.int 1)] [(.int x0)]))
  refine gv (fun _ kQ => XS.sipush X192.here hx rfl (hb hby d17_38) (XS.iand X192.here hx rfl (hb hby d17_41) rfl kQ)) ?_
  obtain ⟨T194, X194, e194, st194⟩ := getS2 X192 hx hZ hown (host := "") (Or.inl (t_72 hw)) Via.refl e192 (u1.ext O0.2) (g := (mkF me_ 42 #[.val (.ref b), .val (.int 1)] [(.int (x0 &&& (255 : Int32)))])) rfl (hb hby d17_42)
  refine gv st194 ?_
  refine gv (fun _ kQ => XS.ishl X194.here hx rfl (hb hby d17_45) rfl (XS.aloadN X194.here hx rfl (hb hby d17_46) rfl rfl (XS.iloadN X194.here hx rfl (hb hby d17_47) rfl kQ))) ?_
  show G (T194.setTop (mkF me_ 48 #[.val (.ref b), .val (.int 1)] [(.int 1), (.ref b), (.int ((x0 &&& (255 : Int32)) <<< ((0 : Int32) &&& 31)))]))
  obtain ⟨cl195, Ar195, q195, S195, n195, H195, G195⟩ := (id u3)
  have in195 : ¬ ((1 : Int32) < 0 ∨ cl195.slots.size ≤ ((1 : Int32)).toNatClampNeg) := inb_of S195 ⟨by decide, by decide⟩
  refine gv (X194.baloadBytes hx (j := (1 : Int32)) (v := (.int x1)) (by rw [e194]; exact Ar195.1) (State.isArrayOf_alike hZ.alike Ar195.2.1) Ar195.2.2 in195 (Has.at H195 in195 rfl) (g := (mkF me_ 48 #[.val (.ref b), .val (.int 1)] [(.int 1), (.ref b), (.int ((x0 &&& (255 : Int32)) <<< ((0 : Int32) &&& 31)))])) rfl rfl (hb hby d17_48)) ?_
  show G (T194.setTop (mkF me_ 49 #[.val (.ref b), .val (.int 1)] [(.int x1), (.int ((x0 &&& (255 : Int32)) <<< ((0 : Int32) &&& 31)))]))
  refine gv (fun _ kQ => XS.sipush X194.here hx rfl (hb hby d17_49) (XS.iand X194.here hx rfl (hb hby d17_52) rfl kQ)) ?_
  obtain ⟨T196, X196, e196, st196⟩ := getS2 X194 hx hZ hown (host := "") (Or.inl (t_73 hw)) Via.refl e194 (u2.ext O0.2) (g := (mkF me_ 53 #[.val (.ref b), .val (.int 1)] [(.int (x1 &&& (255 : Int32))), (.int ((x0 &&& (255 : Int32)) <<< ((0 : Int32) &&& 31)))])) rfl (hb hby d17_53)
  refine gv st196 ?_
  refine gv (fun _ kQ => XS.ishl X196.here hx rfl (hb hby d17_56) rfl (XS.ior X196.here hx rfl (hb hby d17_57) rfl (XS.i2c X196.here hx rfl (hb hby d17_58) rfl kQ))) ?_
  refine gf _ (own_ret X196 Bd.notSynchronized (v := some (.int ((((x0 &&& (255 : Int32)) <<< ((0 : Int32) &&& 31)) ||| ((x1 &&& (255 : Int32)) <<< ((8 : Int32) &&& 31))).toUInt32.toUInt16.toUInt32.toInt32))) (own_rv Bd.returns) ?_ (by decide) (by decide) (fun fs hr => retN X196 hx (t := .char) Bd.returns (by simp) (hb hby d17_59) (by rw [(own_narC _)]; exact hr)))
  show Q_getc4_0 Z b k x0 x1 x2 x3 x4 x5 x6 x7 h0 n0 _ T196.heap _
  rw [e196]
  exact ⟨rfl, N0, rfl⟩
def Q_uat4_0 (Z : State) (b : Addr) (k : ClassId) (x0 x1 : Int32) (x2 x3 : Int32) (x4 x5 : Int32) (x6 x7 : Int32) (fmt : Value) (h0 : Heap) (n0 : Nat) (v : Option Value) (h : Heap) (L : List Loc) : Prop := v = some (.int (own_gc x0 x1)) ∧ Fr n0 L ∧ h = h0
theorem rm_uat4_0 (l : Launch) (Z : State) (a0 : Array Value) (hw : own_HW Z a0) (ws : List Jvm.Cond) (b : Addr) (k : ClassId) (x0 x1 : Int32) (x2 x3 : Int32) (x4 x5 : Int32) (x6 x7 : Int32) (fmt : Value) (h0 : Heap) (n0 : Nat) (O0 : Old Z n0 h0) (u0 : fmt.isRef = true) (u1 : Sta Z Z.heap "jdk/internal/util/Preconditions" "SIOOBE_FORMATTER" "Ljava/util/function/BiFunction;" fmt) (u2 : Sta Z Z.heap "java/lang/StringUTF16" "$assertionsDisabled" "Z" (.int 1)) (u3 : Sta Z Z.heap "java/lang/StringUTF16" "HI_BYTE_SHIFT" "I" (.int 0)) (u4 : Sta Z Z.heap "java/lang/StringUTF16" "LO_BYTE_SHIFT" "I" (.int 8)) (u5 : Arv Z h0 b k .byte (8 : Int32) [(.int x0), (.int x1), (.int x2), (.int x3), (.int x4), (.int x5), (.int x6), (.int x7)] (.int 0)) :
    own_Met l Z m_14 jdk_52_method_83_code 2 (some .char) ws (own_R 3 0 0 40) #[(.ref b), (.int 0)] h0 (Q_uat4_0 Z b k x0 x1 x2 x3 x4 x5 x6 x7 fmt h0 n0) := by
  refine own_open (plainFor_of_name pn_2) (fun pr_ en_ st_ me_ below meth_ co_ s₁ Bd hx hby hml hown hZ X0 e0 G gv gf => ?_)
  have N0 := Fr.nil n0
  refine gv (fun _ kQ => castTop (ef_4 me_ b (0 : Int32)) kQ) ?_
  show G (s₁.setTop (mkF me_ 0 #[.val (.ref b), .val (.int 0)] []))
  refine gv (fun _ kQ => XS.iloadN X0.here hx rfl (hb hby d21_0) rfl (XS.aloadN X0.here hx rfl (hb hby d21_1) rfl rfl kQ)) ?_
  obtain ⟨_, _, ⟨T197, L197, k197, n197⟩, -, X197, ⟨Lc197, hQ197, l197, y197, z197⟩, st197⟩ := Jvm.LawKit.callS X0 hx (y := m_15) hown (mvT hZ (t_93 hw)) (mvT hZ (t_94 hw)) (mvT hZ (t_50 hw)) (mvT hZ (t_95 hw)) (by decide) (backOf (W := 0) (rm_uci4 l Z a0 hw [] (0 : Int32) b k x0 x1 x2 x3 x4 x5 x6 x7 fmt h0 n0 O0 u0 u1 (by decide) (by decide) u5) hZ (t_95 hw) (t_50 hw) (by decide) (by decide)) (g := (mkF me_ 2 #[.val (.ref b), .val (.int 0)] [(.ref b), (.int 0)])) rfl (by rw [hml]; rfl) (argsL := [(.int 0), (.ref b)]) (rest := []) (lenOf pd_3 rfl) rfl (by show 2 * 0 + _ ≤ _; exact Nat.le_of_eq rfl) (hb hby d21_2) (fun _ _ => ⟨rfl, e0, (by decide : 0 + 0 ≤ _), (by decide : 0 + 0 ≤ _)⟩)
  dsimp only [Pt.U, Pt.locs, Pt.cells, Pt.slots] at X197 l197 y197 z197 st197 hQ197
  subst l197 y197 z197
  obtain ⟨rfl, Nq197, eq197⟩ := hQ197
  have N198 := Fr.app N0 Nq197
  refine gv st197 ?_
  refine gv (fun _ kQ => XS.aloadN X197.here hx rfl (hb hby d21_5) rfl rfl (XS.iloadN X197.here hx rfl (hb hby d21_6) rfl kQ)) ?_
  show G (T197.setTop (mkF me_ 7 #[.val (.ref b), .val (.int 0)] [(.int 0), (.ref b)]))
  obtain ⟨_, _, ⟨T199, L199, k199, n199⟩, -, X199, ⟨Lc199, hQ199, l199, y199, z199⟩, st199⟩ := Jvm.LawKit.callS X197 hx (y := m_19) hown (mvT hZ (t_74 hw)) (mvT hZ (t_75 hw)) (mvT hZ (t_50 hw)) (mvT hZ (t_76 hw)) (by decide) (backOf (W := 0) (rm_getc4_0 l Z a0 hw [] b k x0 x1 x2 x3 x4 x5 x6 x7 h0 n0 O0 u2 u3 u4 u5) hZ (t_76 hw) (t_50 hw) (by decide) (by decide)) (g := (mkF me_ 7 #[.val (.ref b), .val (.int 0)] [(.int 0), (.ref b)])) rfl (by rw [hml]; rfl) (argsL := [(.ref b), (.int 0)]) (rest := []) (lenOf pd_4 rfl) rfl (by show 2 * 0 + _ ≤ _; exact Nat.le_of_eq rfl) (hb hby d21_7) (fun _ _ => ⟨rfl, eq197, (by decide : 0 + 0 ≤ _), (by decide : 0 + 0 ≤ _)⟩)
  dsimp only [Pt.U, Pt.locs, Pt.cells, Pt.slots] at X199 l199 y199 z199 st199 hQ199
  subst l199 y199 z199
  obtain ⟨rfl, Nq199, eq199⟩ := hQ199
  have N200 := Fr.app N198 Nq199
  refine gv st199 ?_
  refine gf _ (own_ret X199 Bd.notSynchronized (v := some (.int (own_gc x0 x1))) (own_rv Bd.returns) ?_ (by decide) (by decide) (fun fs hr => retN X199 hx (t := .char) Bd.returns (by simp) (hb hby d21_10) (by rw [(own_gcn _ _)]; exact hr)))
  show Q_uat4_0 Z b k x0 x1 x2 x3 x4 x5 x6 x7 fmt h0 n0 _ T199.heap _
  rw [eq199]
  exact ⟨rfl, N200, rfl⟩
def Q_put8_0 (Z : State) (b : Addr) (c : Int32) (k : ClassId) (x0 x1 : Int32) (x2 x3 : Int32) (x4 x5 : Int32) (x6 x7 : Int32) (h0 : Heap) (n0 : Nat) (v : Option Value) (h : Heap) (L : List Loc) : Prop := v = none ∧ Fr n0 L ∧ Keep h0 h [b] ∧ (Arv Z h b k .byte (8 : Int32) [(.int ((c >>> ((0 : Int32) &&& 31)).toInt8.toInt32)), (.int ((c >>> ((8 : Int32) &&& 31)).toInt8.toInt32)), (.int x2), (.int x3), (.int x4), (.int x5), (.int x6), (.int x7)] (.int 0))
theorem rm_put8_0 (l : Launch) (Z : State) (a0 : Array Value) (hw : own_HW Z a0) (ws : List Jvm.Cond) (b : Addr) (c : Int32) (k : ClassId) (x0 x1 : Int32) (x2 x3 : Int32) (x4 x5 : Int32) (x6 x7 : Int32) (h0 : Heap) (n0 : Nat) (O0 : Old Z n0 h0) (u0 : Sta Z Z.heap "java/lang/StringUTF16" "$assertionsDisabled" "Z" (.int 1)) (u1 : Sta Z Z.heap "java/lang/StringUTF16" "HI_BYTE_SHIFT" "I" (.int 0)) (u2 : Sta Z Z.heap "java/lang/StringUTF16" "LO_BYTE_SHIFT" "I" (.int 8)) (u3 : Arv Z h0 b k .byte (8 : Int32) [(.int x0), (.int x1), (.int x2), (.int x3), (.int x4), (.int x5), (.int x6), (.int x7)] (.int 0)) (u4 : n0 ≤ b) :
    own_Met l Z m_23 jdk_52_method_4_code 3 none ws (own_R 0 0 0 0) #[(.ref b), (.int 0), (.int c)] h0 (Q_put8_0 Z b c k x0 x1 x2 x3 x4 x5 x6 x7 h0 n0) := by
  refine own_open (plainFor_of_name pn_2) (fun pr_ en_ st_ me_ below meth_ co_ s₁ Bd hx hby hml hown hZ X0 e0 G gv gf => ?_)
  have N0 := Fr.nil n0
  have K0 := Keep.refl h0 [b]
  refine gv (fun _ kQ => castTop (ef_5 me_ b (0 : Int32) c) kQ) ?_
  show G (s₁.setTop (mkF me_ 0 #[.val (.ref b), .val (.int 0), .val (.int c)] []))
  obtain ⟨T201, X201, e201, st201⟩ := getS2 X0 hx hZ hown (host := "") (Or.inl (t_71 hw)) Via.refl e0 (u0.ext O0.2) (g := (mkF me_ 0 #[.val (.ref b), .val (.int 0), .val (.int c)] [])) rfl (hb hby d16_0)
  refine gv st201 ?_
  refine gv (fun _ kQ => XS.ifYes X201.here hx rfl (pc0 := 3) (pc' := 28) rfl (hb hby d16_3) rfl ((if0 _ _).trans (feq (by decide : ¬ ((1 : Int32) = (0 : Int32)))).2) (by decide) (by decide) (XS.iloadN X201.here hx rfl (hb hby d16_28) rfl (XS.iconst X201.here hx rfl (hb hby d16_29) (XS.ishl X201.here hx rfl (hb hby d16_30) rfl kQ)))) ?_
  show G (T201.setTop (mkF me_ 31 #[.val (.ref b), .val (.int 0), .val (.int c)] [(.int ((0 : Int32) <<< ((1 : Int32) &&& 31)))]))
  rw [(by decide : ((0 : Int32) <<< ((1 : Int32) &&& 31)) = (0 : Int32))]
  refine gv (fun _ kQ => XS.istoreN X201.here hx rfl (hb hby d16_31) rfl (l' := #[.val (.ref b), .val (.int 0), .val (.int c)]) rfl (XS.aloadN X201.here hx rfl (hb hby d16_32) rfl rfl (XS.iloadN X201.here hx rfl (hb hby d16_33) rfl (XS.iinc X201.here hx rfl (hb hby d16_34) rfl (l' := #[.val (.ref b), .val (.int ((0 : Int32) + (1 : Int32))), .val (.int c)]) rfl kQ)))) ?_
  show G (T201.setTop (mkF me_ 37 #[.val (.ref b), .val (.int ((0 : Int32) + (1 : Int32))), .val (.int c)] [(.int 0), (.ref b)]))
  rw [(by decide : ((0 : Int32) + (1 : Int32)) = (1 : Int32))]
  refine gv (fun _ kQ => XS.iloadN X201.here hx rfl (hb hby d16_37) rfl kQ) ?_
  obtain ⟨T202, X202, e202, st202⟩ := getS2 X201 hx hZ hown (host := "") (Or.inl (t_72 hw)) Via.refl e201 (u1.ext O0.2) (g := (mkF me_ 38 #[.val (.ref b), .val (.int 1), .val (.int c)] [(.int c), (.int 0), (.ref b)])) rfl (hb hby d16_38)
  refine gv st202 ?_
  refine gv (fun _ kQ => XS.ishr X202.here hx rfl (hb hby d16_41) rfl (XS.i2b X202.here hx rfl (hb hby d16_42) rfl kQ)) ?_
  show G (T202.setTop (mkF me_ 43 #[.val (.ref b), .val (.int 1), .val (.int c)] [(.int ((c >>> ((0 : Int32) &&& 31)).toInt8.toInt32)), (.int 0), (.ref b)]))
  obtain ⟨cl203, Ar203, q203, S203, n203, H203, G203⟩ := (id u3)
  have in203 : ¬ ((0 : Int32) < 0 ∨ cl203.slots.size ≤ ((0 : Int32)).toNatClampNeg) := inb_of S203 ⟨by decide, by decide⟩
  obtain ⟨T203, h203, X203, e203, W203, st203⟩ := stB X202 hx hZ e202 Ar203 (j := (0 : Int32)) in203 (g := (mkF me_ 43 #[.val (.ref b), .val (.int 1), .val (.int c)] [(.int ((c >>> ((0 : Int32) &&& 31)).toInt8.toInt32)), (.int 0), (.ref b)])) rfl rfl (hb hby d16_43)
  have W203 : Wr h0 h203 b ((0 : Int32)).toNatClampNeg (.int ((c >>> ((0 : Int32) &&& 31)).toInt8.toInt32)) := by have z := W203; rw [(own_narB _)] at z; exact z
  refine gv st203 ?_
  have O205 := O0.wr W203 u4
  have K206 := K0.wr W203 (Or.inl (List.mem_of_getElem? (i := 0) rfl))
  have N207 := Fr.snoc X203 N0 u4
  have f204 : Arv Z h203 b k .byte (8 : Int32) [(.int ((c >>> ((0 : Int32) &&& 31)).toInt8.toInt32)), (.int x1), (.int x2), (.int x3), (.int x4), (.int x5), (.int x6), (.int x7)] (.int 0) := Arv.set Ar203 q203 S203 n203 H203 G203 (fits_nar_byte _) W203 0 rfl (Nat.le_of_ble_eq_true rfl)
  refine gv (fun _ kQ => XS.aloadN X203.here hx rfl (hb hby d16_44) rfl rfl (XS.iloadN X203.here hx rfl (hb hby d16_45) rfl (XS.iloadN X203.here hx rfl (hb hby d16_46) rfl kQ))) ?_
  show G (T203.setTop (mkF me_ 47 #[.val (.ref b), .val (.int 1), .val (.int c)] [(.int c), (.int 1), (.ref b)]))
  obtain ⟨T208, X208, e208, st208⟩ := getS2 X203 hx hZ hown (host := "") (Or.inl (t_73 hw)) Via.refl e203 (u2.ext O205.2) (g := (mkF me_ 47 #[.val (.ref b), .val (.int 1), .val (.int c)] [(.int c), (.int 1), (.ref b)])) rfl (hb hby d16_47)
  refine gv st208 ?_
  refine gv (fun _ kQ => XS.ishr X208.here hx rfl (hb hby d16_50) rfl (XS.i2b X208.here hx rfl (hb hby d16_51) rfl kQ)) ?_
  show G (T208.setTop (mkF me_ 52 #[.val (.ref b), .val (.int 1), .val (.int c)] [(.int ((c >>> ((8 : Int32) &&& 31)).toInt8.toInt32)), (.int 1), (.ref b)]))
  obtain ⟨cl209, Ar209, q209, S209, n209, H209, G209⟩ := (id f204)
  have in209 : ¬ ((1 : Int32) < 0 ∨ cl209.slots.size ≤ ((1 : Int32)).toNatClampNeg) := inb_of S209 ⟨by decide, by decide⟩
  obtain ⟨T209, h209, X209, e209, W209, st209⟩ := stB X208 hx hZ e208 Ar209 (j := (1 : Int32)) in209 (g := (mkF me_ 52 #[.val (.ref b), .val (.int 1), .val (.int c)] [(.int ((c >>> ((8 : Int32) &&& 31)).toInt8.toInt32)), (.int 1), (.ref b)])) rfl rfl (hb hby d16_52)
  have W209 : Wr h203 h209 b ((1 : Int32)).toNatClampNeg (.int ((c >>> ((8 : Int32) &&& 31)).toInt8.toInt32)) := by have z := W209; rw [(own_narB _)] at z; exact z
  refine gv st209 ?_
  have K212 := K206.wr W209 (Or.inl (List.mem_of_getElem? (i := 0) rfl))
  have N213 := Fr.snoc X209 N207 u4
  have f210 : Arv Z h209 b k .byte (8 : Int32) [(.int ((c >>> ((0 : Int32) &&& 31)).toInt8.toInt32)), (.int ((c >>> ((8 : Int32) &&& 31)).toInt8.toInt32)), (.int x2), (.int x3), (.int x4), (.int x5), (.int x6), (.int x7)] (.int 0) := Arv.set Ar209 q209 S209 n209 H209 G209 (fits_nar_byte _) W209 1 rfl (Nat.le_of_ble_eq_true rfl)
  refine gf _ (own_ret X209 Bd.notSynchronized (v := none) (fun _ => rfl) ?_ (by decide) (by decide) (fun fs hr => X209.returnOut hx Bd.returns (hb hby d16_53) hr))
  show Q_put8_0 Z b c k x0 x1 x2 x3 x4 x5 x6 x7 h0 n0 _ T209.heap _
  rw [e209]
  exact ⟨rfl, N213, K212, f210⟩
def Q_l1at4_1 (Z : State) (b : Addr) (k : ClassId) (x0 x1 : Int32) (x2 x3 : Int32) (fmt : Value) (h0 : Heap) (n0 : Nat) (v : Option Value) (h : Heap) (L : List Loc) : Prop := v = some (.int ((x1 &&& (255 : Int32)).toUInt32.toUInt16.toUInt32.toInt32)) ∧ Fr n0 L ∧ h = h0
theorem rm_l1at4_1 (l : Launch) (Z : State) (a0 : Array Value) (hw : own_HW Z a0) (ws : List Jvm.Cond) (b : Addr) (k : ClassId) (x0 x1 : Int32) (x2 x3 : Int32) (fmt : Value) (h0 : Heap) (n0 : Nat) (O0 : Old Z n0 h0) (u0 : fmt.isRef = true) (u1 : Sta Z Z.heap "jdk/internal/util/Preconditions" "SIOOBE_FORMATTER" "Ljava/util/function/BiFunction;" fmt) (u2 : Arv Z h0 b k .byte (4 : Int32) [(.int x0), (.int x1), (.int x2), (.int x3)] (.int 0)) :
    own_Met l Z m_13 jdk_43_method_2_code 2 (some .char) ws (own_R 2 0 0 27) #[(.ref b), (.int 1)] h0 (Q_l1at4_1 Z b k x0 x1 x2 x3 fmt h0 n0) := by
  refine own_open (plainFor_of_name pn_3) (fun pr_ en_ st_ me_ below meth_ co_ s₁ Bd hx hby hml hown hZ X0 e0 G gv gf => ?_)
  have N0 := Fr.nil n0
  refine gv (fun _ kQ => castTop (ef_4 me_ b (1 : Int32)) kQ) ?_
  show G (s₁.setTop (mkF me_ 0 #[.val (.ref b), .val (.int 1)] []))
  refine gv (fun _ kQ => XS.iloadN X0.here hx rfl (hb hby d26_0) rfl (XS.aloadN X0.here hx rfl (hb hby d26_1) rfl rfl kQ)) ?_
  obtain ⟨cl214, Ar214, -, S214, n214, -, -⟩ := (id u2)
  refine gv (X0.arraylength hx (by rw [e0]; exact Ar214.1) (State.isArrayOf_alike hZ.alike Ar214.2.1) (g := (mkF me_ 2 #[.val (.ref b), .val (.int 1)] [(.ref b), (.int 1)])) rfl rfl (hb hby d26_2)) ?_
  rw [len_of S214 n214]
  obtain ⟨_, _, ⟨T215, L215, k215, n215⟩, -, X215, ⟨Lc215, hQ215, l215, y215, z215⟩, st215⟩ := Jvm.LawKit.callS X0 hx (y := m_9) hown (mvT hZ (t_111 hw)) (mvT hZ (t_100 hw)) (mvT hZ (t_13 hw)) (mvT hZ (t_101 hw)) (by decide) (backOf (W := 0) (rm_scx l Z a0 hw [] (1 : Int32) (4 : Int32) fmt h0 n0 O0 u0 u1 (by decide) (by decide)) hZ (t_101 hw) (t_13 hw) (by decide) (by decide)) (g := (mkF me_ 3 #[.val (.ref b), .val (.int 1)] [(.int 4), (.int 1)])) rfl (by rw [hml]; rfl) (argsL := [(.int 1), (.int 4)]) (rest := []) (lenOf pd_2 rfl) rfl (by show 2 * 0 + _ ≤ _; exact Nat.le_of_eq rfl) (hb hby d26_3) (fun _ _ => ⟨rfl, e0, (by decide : 0 + 0 ≤ _), (by decide : 0 + 0 ≤ _)⟩)
  dsimp only [Pt.U, Pt.locs, Pt.cells, Pt.slots] at X215 l215 y215 z215 st215 hQ215
  subst l215 y215 z215
  obtain ⟨rfl, Nq215, eq215⟩ := hQ215
  have N216 := Fr.app N0 Nq215
  refine gv st215 ?_
  refine gv (fun _ kQ => XS.aloadN X215.here hx rfl (hb hby d26_6) rfl rfl (XS.iloadN X215.here hx rfl (hb hby d26_7) rfl kQ)) ?_
  show G (T215.setTop (mkF me_ 8 #[.val (.ref b), .val (.int 1)] [(.int 1), (.ref b)]))
  obtain ⟨cl217, Ar217, q217, S217, n217, H217, G217⟩ := (id u2)
  have in217 : ¬ ((1 : Int32) < 0 ∨ cl217.slots.size ≤ ((1 : Int32)).toNatClampNeg) := inb_of S217 ⟨by decide, by decide⟩
  refine gv (X215.baloadBytes hx (j := (1 : Int32)) (v := (.int x1)) (by rw [eq215]; exact Ar217.1) (State.isArrayOf_alike hZ.alike Ar217.2.1) Ar217.2.2 in217 (Has.at H217 in217 rfl) (g := (mkF me_ 8 #[.val (.ref b), .val (.int 1)] [(.int 1), (.ref b)])) rfl rfl (hb hby d26_8)) ?_
  show G (T215.setTop (mkF me_ 9 #[.val (.ref b), .val (.int 1)] [(.int x1)]))
  refine gv (fun _ kQ => XS.sipush X215.here hx rfl (hb hby d26_9) (XS.iand X215.here hx rfl (hb hby d26_12) rfl (XS.i2c X215.here hx rfl (hb hby d26_13) rfl kQ))) ?_
  refine gf _ (own_ret X215 Bd.notSynchronized (v := some (.int ((x1 &&& (255 : Int32)).toUInt32.toUInt16.toUInt32.toInt32))) (own_rv Bd.returns) ?_ (by decide) (by decide) (fun fs hr => retN X215 hx (t := .char) Bd.returns (by simp) (hb hby d26_14) (by rw [(own_narC _)]; exact hr)))
  show Q_l1at4_1 Z b k x0 x1 x2 x3 fmt h0 n0 _ T215.heap _
  rw [eq215]
  exact ⟨rfl, N216, rfl⟩
def Q_getc4_1 (Z : State) (b : Addr) (k : ClassId) (x0 x1 : Int32) (x2 x3 : Int32) (x4 x5 : Int32) (x6 x7 : Int32) (h0 : Heap) (n0 : Nat) (v : Option Value) (h : Heap) (L : List Loc) : Prop := v = some (.int (own_gc x2 x3)) ∧ Fr n0 L ∧ h = h0
theorem rm_getc4_1 (l : Launch) (Z : State) (a0 : Array Value) (hw : own_HW Z a0) (ws : List Jvm.Cond) (b : Addr) (k : ClassId) (x0 x1 : Int32) (x2 x3 : Int32) (x4 x5 : Int32) (x6 x7 : Int32) (h0 : Heap) (n0 : Nat) (O0 : Old Z n0 h0) (u0 : Sta Z Z.heap "java/lang/StringUTF16" "$assertionsDisabled" "Z" (.int 1)) (u1 : Sta Z Z.heap "java/lang/StringUTF16" "HI_BYTE_SHIFT" "I" (.int 0)) (u2 : Sta Z Z.heap "java/lang/StringUTF16" "LO_BYTE_SHIFT" "I" (.int 8)) (u3 : Arv Z h0 b k .byte (8 : Int32) [(.int x0), (.int x1), (.int x2), (.int x3), (.int x4), (.int x5), (.int x6), (.int x7)] (.int 0)) :
    own_Met l Z m_19 jdk_52_method_5_code 2 (some .char) ws (own_R 0 0 0 0) #[(.ref b), (.int 1)] h0 (Q_getc4_1 Z b k x0 x1 x2 x3 x4 x5 x6 x7 h0 n0) := by
  refine own_open (plainFor_of_name pn_2) (fun pr_ en_ st_ me_ below meth_ co_ s₁ Bd hx hby hml hown hZ X0 e0 G gv gf => ?_)
  have N0 := Fr.nil n0
  refine gv (fun _ kQ => castTop (ef_4 me_ b (1 : Int32)) kQ) ?_
  show G (s₁.setTop (mkF me_ 0 #[.val (.ref b), .val (.int 1)] []))
  obtain ⟨T218, X218, e218, st218⟩ := getS2 X0 hx hZ hown (host := "") (Or.inl (t_71 hw)) Via.refl e0 (u0.ext O0.2) (g := (mkF me_ 0 #[.val (.ref b), .val (.int 1)] [])) rfl (hb hby d17_0)
  refine gv st218 ?_
  refine gv (fun _ kQ => XS.ifYes X218.here hx rfl (pc0 := 3) (pc' := 28) rfl (hb hby d17_3) rfl ((if0 _ _).trans (feq (by decide : ¬ ((1 : Int32) = (0 : Int32)))).2) (by decide) (by decide) (XS.iloadN X218.here hx rfl (hb hby d17_28) rfl (XS.iconst X218.here hx rfl (hb hby d17_29) (XS.ishl X218.here hx rfl (hb hby d17_30) rfl kQ)))) ?_
  show G (T218.setTop (mkF me_ 31 #[.val (.ref b), .val (.int 1)] [(.int ((1 : Int32) <<< ((1 : Int32) &&& 31)))]))
  rw [(by decide : ((1 : Int32) <<< ((1 : Int32) &&& 31)) = (2 : Int32))]
  refine gv (fun _ kQ => XS.istoreN X218.here hx rfl (hb hby d17_31) rfl (l' := #[.val (.ref b), .val (.int 2)]) rfl (XS.aloadN X218.here hx rfl (hb hby d17_32) rfl rfl (XS.iloadN X218.here hx rfl (hb hby d17_33) rfl (XS.iinc X218.here hx rfl (hb hby d17_34) rfl (l' := #[.val (.ref b), .val (.int ((2 : Int32) + (1 : Int32)))]) rfl kQ)))) ?_
  show G (T218.setTop (mkF me_ 37 #[.val (.ref b), .val (.int ((2 : Int32) + (1 : Int32)))] [(.int 2), (.ref b)]))
  rw [(by decide : ((2 : Int32) + (1 : Int32)) = (3 : Int32))]
  obtain ⟨cl219, Ar219, q219, S219, n219, H219, G219⟩ := (id u3)
  have in219 : ¬ ((2 : Int32) < 0 ∨ cl219.slots.size ≤ ((2 : Int32)).toNatClampNeg) := inb_of S219 ⟨by decide, by decide⟩
  refine gv (X218.baloadBytes hx (j := (2 : Int32)) (v := (.int x2)) (by rw [e218]; exact Ar219.1) (State.isArrayOf_alike hZ.alike Ar219.2.1) Ar219.2.2 in219 (Has.at H219 in219 rfl) (g := (mkF me_ 37 #[.val (.ref b), .val (.int 3)] [(.int 2), (.ref b)])) rfl rfl (hb hby d17_37)) ?_
  show G (T218.setTop (mkF me_ 38 #[.val (.ref b), .val (.int 3)] [(.int x2)]))
  refine gv (fun _ kQ => XS.sipush X218.here hx rfl (hb hby d17_38) (XS.iand X218.here hx rfl (hb hby d17_41) rfl kQ)) ?_
  obtain ⟨T220, X220, e220, st220⟩ := getS2 X218 hx hZ hown (host := "") (Or.inl (t_72 hw)) Via.refl e218 (u1.ext O0.2) (g := (mkF me_ 42 #[.val (.ref b), .val (.int 3)] [(.int (x2 &&& (255 : Int32)))])) rfl (hb hby d17_42)
  refine gv st220 ?_
  refine gv (fun _ kQ => XS.ishl X220.here hx rfl (hb hby d17_45) rfl (XS.aloadN X220.here hx rfl (hb hby d17_46) rfl rfl (XS.iloadN X220.here hx rfl (hb hby d17_47) rfl kQ))) ?_
  show G (T220.setTop (mkF me_ 48 #[.val (.ref b), .val (.int 3)] [(.int 3), (.ref b), (.int ((x2 &&& (255 : Int32)) <<< ((0 : Int32) &&& 31)))]))
  obtain ⟨cl221, Ar221, q221, S221, n221, H221, G221⟩ := (id u3)
  have in221 : ¬ ((3 : Int32) < 0 ∨ cl221.slots.size ≤ ((3 : Int32)).toNatClampNeg) := inb_of S221 ⟨by decide, by decide⟩
  refine gv (X220.baloadBytes hx (j := (3 : Int32)) (v := (.int x3)) (by rw [e220]; exact Ar221.1) (State.isArrayOf_alike hZ.alike Ar221.2.1) Ar221.2.2 in221 (Has.at H221 in221 rfl) (g := (mkF me_ 48 #[.val (.ref b), .val (.int 3)] [(.int 3), (.ref b), (.int ((x2 &&& (255 : Int32)) <<< ((0 : Int32) &&& 31)))])) rfl rfl (hb hby d17_48)) ?_
  show G (T220.setTop (mkF me_ 49 #[.val (.ref b), .val (.int 3)] [(.int x3), (.int ((x2 &&& (255 : Int32)) <<< ((0 : Int32) &&& 31)))]))
  refine gv (fun _ kQ => XS.sipush X220.here hx rfl (hb hby d17_49) (XS.iand X220.here hx rfl (hb hby d17_52) rfl kQ)) ?_
  obtain ⟨T222, X222, e222, st222⟩ := getS2 X220 hx hZ hown (host := "") (Or.inl (t_73 hw)) Via.refl e220 (u2.ext O0.2) (g := (mkF me_ 53 #[.val (.ref b), .val (.int 3)] [(.int (x3 &&& (255 : Int32))), (.int ((x2 &&& (255 : Int32)) <<< ((0 : Int32) &&& 31)))])) rfl (hb hby d17_53)
  refine gv st222 ?_
  refine gv (fun _ kQ => XS.ishl X222.here hx rfl (hb hby d17_56) rfl (XS.ior X222.here hx rfl (hb hby d17_57) rfl (XS.i2c X222.here hx rfl (hb hby d17_58) rfl kQ))) ?_
  refine gf _ (own_ret X222 Bd.notSynchronized (v := some (.int ((((x2 &&& (255 : Int32)) <<< ((0 : Int32) &&& 31)) ||| ((x3 &&& (255 : Int32)) <<< ((8 : Int32) &&& 31))).toUInt32.toUInt16.toUInt32.toInt32))) (own_rv Bd.returns) ?_ (by decide) (by decide) (fun fs hr => retN X222 hx (t := .char) Bd.returns (by simp) (hb hby d17_59) (by rw [(own_narC _)]; exact hr)))
  show Q_getc4_1 Z b k x0 x1 x2 x3 x4 x5 x6 x7 h0 n0 _ T222.heap _
  rw [e222]
  exact ⟨rfl, N0, rfl⟩
def Q_uat4_1 (Z : State) (b : Addr) (k : ClassId) (x0 x1 : Int32) (x2 x3 : Int32) (x4 x5 : Int32) (x6 x7 : Int32) (fmt : Value) (h0 : Heap) (n0 : Nat) (v : Option Value) (h : Heap) (L : List Loc) : Prop := v = some (.int (own_gc x2 x3)) ∧ Fr n0 L ∧ h = h0
theorem rm_uat4_1 (l : Launch) (Z : State) (a0 : Array Value) (hw : own_HW Z a0) (ws : List Jvm.Cond) (b : Addr) (k : ClassId) (x0 x1 : Int32) (x2 x3 : Int32) (x4 x5 : Int32) (x6 x7 : Int32) (fmt : Value) (h0 : Heap) (n0 : Nat) (O0 : Old Z n0 h0) (u0 : fmt.isRef = true) (u1 : Sta Z Z.heap "jdk/internal/util/Preconditions" "SIOOBE_FORMATTER" "Ljava/util/function/BiFunction;" fmt) (u2 : Sta Z Z.heap "java/lang/StringUTF16" "$assertionsDisabled" "Z" (.int 1)) (u3 : Sta Z Z.heap "java/lang/StringUTF16" "HI_BYTE_SHIFT" "I" (.int 0)) (u4 : Sta Z Z.heap "java/lang/StringUTF16" "LO_BYTE_SHIFT" "I" (.int 8)) (u5 : Arv Z h0 b k .byte (8 : Int32) [(.int x0), (.int x1), (.int x2), (.int x3), (.int x4), (.int x5), (.int x6), (.int x7)] (.int 0)) :
    own_Met l Z m_14 jdk_52_method_83_code 2 (some .char) ws (own_R 3 0 0 40) #[(.ref b), (.int 1)] h0 (Q_uat4_1 Z b k x0 x1 x2 x3 x4 x5 x6 x7 fmt h0 n0) := by
  refine own_open (plainFor_of_name pn_2) (fun pr_ en_ st_ me_ below meth_ co_ s₁ Bd hx hby hml hown hZ X0 e0 G gv gf => ?_)
  have N0 := Fr.nil n0
  refine gv (fun _ kQ => castTop (ef_4 me_ b (1 : Int32)) kQ) ?_
  show G (s₁.setTop (mkF me_ 0 #[.val (.ref b), .val (.int 1)] []))
  refine gv (fun _ kQ => XS.iloadN X0.here hx rfl (hb hby d21_0) rfl (XS.aloadN X0.here hx rfl (hb hby d21_1) rfl rfl kQ)) ?_
  obtain ⟨_, _, ⟨T223, L223, k223, n223⟩, -, X223, ⟨Lc223, hQ223, l223, y223, z223⟩, st223⟩ := Jvm.LawKit.callS X0 hx (y := m_15) hown (mvT hZ (t_93 hw)) (mvT hZ (t_94 hw)) (mvT hZ (t_50 hw)) (mvT hZ (t_95 hw)) (by decide) (backOf (W := 0) (rm_uci4 l Z a0 hw [] (1 : Int32) b k x0 x1 x2 x3 x4 x5 x6 x7 fmt h0 n0 O0 u0 u1 (by decide) (by decide) u5) hZ (t_95 hw) (t_50 hw) (by decide) (by decide)) (g := (mkF me_ 2 #[.val (.ref b), .val (.int 1)] [(.ref b), (.int 1)])) rfl (by rw [hml]; rfl) (argsL := [(.int 1), (.ref b)]) (rest := []) (lenOf pd_3 rfl) rfl (by show 2 * 0 + _ ≤ _; exact Nat.le_of_eq rfl) (hb hby d21_2) (fun _ _ => ⟨rfl, e0, (by decide : 0 + 0 ≤ _), (by decide : 0 + 0 ≤ _)⟩)
  dsimp only [Pt.U, Pt.locs, Pt.cells, Pt.slots] at X223 l223 y223 z223 st223 hQ223
  subst l223 y223 z223
  obtain ⟨rfl, Nq223, eq223⟩ := hQ223
  have N224 := Fr.app N0 Nq223
  refine gv st223 ?_
  refine gv (fun _ kQ => XS.aloadN X223.here hx rfl (hb hby d21_5) rfl rfl (XS.iloadN X223.here hx rfl (hb hby d21_6) rfl kQ)) ?_
  show G (T223.setTop (mkF me_ 7 #[.val (.ref b), .val (.int 1)] [(.int 1), (.ref b)]))
  obtain ⟨_, _, ⟨T225, L225, k225, n225⟩, -, X225, ⟨Lc225, hQ225, l225, y225, z225⟩, st225⟩ := Jvm.LawKit.callS X223 hx (y := m_19) hown (mvT hZ (t_74 hw)) (mvT hZ (t_75 hw)) (mvT hZ (t_50 hw)) (mvT hZ (t_76 hw)) (by decide) (backOf (W := 0) (rm_getc4_1 l Z a0 hw [] b k x0 x1 x2 x3 x4 x5 x6 x7 h0 n0 O0 u2 u3 u4 u5) hZ (t_76 hw) (t_50 hw) (by decide) (by decide)) (g := (mkF me_ 7 #[.val (.ref b), .val (.int 1)] [(.int 1), (.ref b)])) rfl (by rw [hml]; rfl) (argsL := [(.ref b), (.int 1)]) (rest := []) (lenOf pd_4 rfl) rfl (by show 2 * 0 + _ ≤ _; exact Nat.le_of_eq rfl) (hb hby d21_7) (fun _ _ => ⟨rfl, eq223, (by decide : 0 + 0 ≤ _), (by decide : 0 + 0 ≤ _)⟩)
  dsimp only [Pt.U, Pt.locs, Pt.cells, Pt.slots] at X225 l225 y225 z225 st225 hQ225
  subst l225 y225 z225
  obtain ⟨rfl, Nq225, eq225⟩ := hQ225
  have N226 := Fr.app N224 Nq225
  refine gv st225 ?_
  refine gf _ (own_ret X225 Bd.notSynchronized (v := some (.int (own_gc x2 x3))) (own_rv Bd.returns) ?_ (by decide) (by decide) (fun fs hr => retN X225 hx (t := .char) Bd.returns (by simp) (hb hby d21_10) (by rw [(own_gcn _ _)]; exact hr)))
  show Q_uat4_1 Z b k x0 x1 x2 x3 x4 x5 x6 x7 fmt h0 n0 _ T225.heap _
  rw [eq225]
  exact ⟨rfl, N226, rfl⟩
def Q_put8_1 (Z : State) (b : Addr) (c : Int32) (k : ClassId) (x0 x1 : Int32) (x2 x3 : Int32) (x4 x5 : Int32) (x6 x7 : Int32) (h0 : Heap) (n0 : Nat) (v : Option Value) (h : Heap) (L : List Loc) : Prop := v = none ∧ Fr n0 L ∧ Keep h0 h [b] ∧ (Arv Z h b k .byte (8 : Int32) [(.int x0), (.int x1), (.int ((c >>> ((0 : Int32) &&& 31)).toInt8.toInt32)), (.int ((c >>> ((8 : Int32) &&& 31)).toInt8.toInt32)), (.int x4), (.int x5), (.int x6), (.int x7)] (.int 0))
theorem rm_put8_1 (l : Launch) (Z : State) (a0 : Array Value) (hw : own_HW Z a0) (ws : List Jvm.Cond) (b : Addr) (c : Int32) (k : ClassId) (x0 x1 : Int32) (x2 x3 : Int32) (x4 x5 : Int32) (x6 x7 : Int32) (h0 : Heap) (n0 : Nat) (O0 : Old Z n0 h0) (u0 : Sta Z Z.heap "java/lang/StringUTF16" "$assertionsDisabled" "Z" (.int 1)) (u1 : Sta Z Z.heap "java/lang/StringUTF16" "HI_BYTE_SHIFT" "I" (.int 0)) (u2 : Sta Z Z.heap "java/lang/StringUTF16" "LO_BYTE_SHIFT" "I" (.int 8)) (u3 : Arv Z h0 b k .byte (8 : Int32) [(.int x0), (.int x1), (.int x2), (.int x3), (.int x4), (.int x5), (.int x6), (.int x7)] (.int 0)) (u4 : n0 ≤ b) :
    own_Met l Z m_23 jdk_52_method_4_code 3 none ws (own_R 0 0 0 0) #[(.ref b), (.int 1), (.int c)] h0 (Q_put8_1 Z b c k x0 x1 x2 x3 x4 x5 x6 x7 h0 n0) := by
  refine own_open (plainFor_of_name pn_2) (fun pr_ en_ st_ me_ below meth_ co_ s₁ Bd hx hby hml hown hZ X0 e0 G gv gf => ?_)
  have N0 := Fr.nil n0
  have K0 := Keep.refl h0 [b]
  refine gv (fun _ kQ => castTop (ef_5 me_ b (1 : Int32) c) kQ) ?_
  show G (s₁.setTop (mkF me_ 0 #[.val (.ref b), .val (.int 1), .val (.int c)] []))
  obtain ⟨T227, X227, e227, st227⟩ := getS2 X0 hx hZ hown (host := "") (Or.inl (t_71 hw)) Via.refl e0 (u0.ext O0.2) (g := (mkF me_ 0 #[.val (.ref b), .val (.int 1), .val (.int c)] [])) rfl (hb hby d16_0)
  refine gv st227 ?_
  refine gv (fun _ kQ => XS.ifYes X227.here hx rfl (pc0 := 3) (pc' := 28) rfl (hb hby d16_3) rfl ((if0 _ _).trans (feq (by decide : ¬ ((1 : Int32) = (0 : Int32)))).2) (by decide) (by decide) (XS.iloadN X227.here hx rfl (hb hby d16_28) rfl (XS.iconst X227.here hx rfl (hb hby d16_29) (XS.ishl X227.here hx rfl (hb hby d16_30) rfl kQ)))) ?_
  show G (T227.setTop (mkF me_ 31 #[.val (.ref b), .val (.int 1), .val (.int c)] [(.int ((1 : Int32) <<< ((1 : Int32) &&& 31)))]))
  rw [(by decide : ((1 : Int32) <<< ((1 : Int32) &&& 31)) = (2 : Int32))]
  refine gv (fun _ kQ => XS.istoreN X227.here hx rfl (hb hby d16_31) rfl (l' := #[.val (.ref b), .val (.int 2), .val (.int c)]) rfl (XS.aloadN X227.here hx rfl (hb hby d16_32) rfl rfl (XS.iloadN X227.here hx rfl (hb hby d16_33) rfl (XS.iinc X227.here hx rfl (hb hby d16_34) rfl (l' := #[.val (.ref b), .val (.int ((2 : Int32) + (1 : Int32))), .val (.int c)]) rfl kQ)))) ?_
  show G (T227.setTop (mkF me_ 37 #[.val (.ref b), .val (.int ((2 : Int32) + (1 : Int32))), .val (.int c)] [(.int 2), (.ref b)]))
  rw [(by decide : ((2 : Int32) + (1 : Int32)) = (3 : Int32))]
  refine gv (fun _ kQ => XS.iloadN X227.here hx rfl (hb hby d16_37) rfl kQ) ?_
  obtain ⟨T228, X228, e228, st228⟩ := getS2 X227 hx hZ hown (host := "") (Or.inl (t_72 hw)) Via.refl e227 (u1.ext O0.2) (g := (mkF me_ 38 #[.val (.ref b), .val (.int 3), .val (.int c)] [(.int c), (.int 2), (.ref b)])) rfl (hb hby d16_38)
  refine gv st228 ?_
  refine gv (fun _ kQ => XS.ishr X228.here hx rfl (hb hby d16_41) rfl (XS.i2b X228.here hx rfl (hb hby d16_42) rfl kQ)) ?_
  show G (T228.setTop (mkF me_ 43 #[.val (.ref b), .val (.int 3), .val (.int c)] [(.int ((c >>> ((0 : Int32) &&& 31)).toInt8.toInt32)), (.int 2), (.ref b)]))
  obtain ⟨cl229, Ar229, q229, S229, n229, H229, G229⟩ := (id u3)
  have in229 : ¬ ((2 : Int32) < 0 ∨ cl229.slots.size ≤ ((2 : Int32)).toNatClampNeg) := inb_of S229 ⟨by decide, by decide⟩
  obtain ⟨T229, h229, X229, e229, W229, st229⟩ := stB X228 hx hZ e228 Ar229 (j := (2 : Int32)) in229 (g := (mkF me_ 43 #[.val (.ref b), .val (.int 3), .val (.int c)] [(.int ((c >>> ((0 : Int32) &&& 31)).toInt8.toInt32)), (.int 2), (.ref b)])) rfl rfl (hb hby d16_43)
  have W229 : Wr h0 h229 b ((2 : Int32)).toNatClampNeg (.int ((c >>> ((0 : Int32) &&& 31)).toInt8.toInt32)) := by have z := W229; rw [(own_narB _)] at z; exact z
  refine gv st229 ?_
  have O231 := O0.wr W229 u4
  have K232 := K0.wr W229 (Or.inl (List.mem_of_getElem? (i := 0) rfl))
  have N233 := Fr.snoc X229 N0 u4
  have f230 : Arv Z h229 b k .byte (8 : Int32) [(.int x0), (.int x1), (.int ((c >>> ((0 : Int32) &&& 31)).toInt8.toInt32)), (.int x3), (.int x4), (.int x5), (.int x6), (.int x7)] (.int 0) := Arv.set Ar229 q229 S229 n229 H229 G229 (fits_nar_byte _) W229 2 rfl (Nat.le_of_ble_eq_true rfl)
  refine gv (fun _ kQ => XS.aloadN X229.here hx rfl (hb hby d16_44) rfl rfl (XS.iloadN X229.here hx rfl (hb hby d16_45) rfl (XS.iloadN X229.here hx rfl (hb hby d16_46) rfl kQ))) ?_
  show G (T229.setTop (mkF me_ 47 #[.val (.ref b), .val (.int 3), .val (.int c)] [(.int c), (.int 3), (.ref b)]))
  obtain ⟨T234, X234, e234, st234⟩ := getS2 X229 hx hZ hown (host := "") (Or.inl (t_73 hw)) Via.refl e229 (u2.ext O231.2) (g := (mkF me_ 47 #[.val (.ref b), .val (.int 3), .val (.int c)] [(.int c), (.int 3), (.ref b)])) rfl (hb hby d16_47)
  refine gv st234 ?_
  refine gv (fun _ kQ => XS.ishr X234.here hx rfl (hb hby d16_50) rfl (XS.i2b X234.here hx rfl (hb hby d16_51) rfl kQ)) ?_
  show G (T234.setTop (mkF me_ 52 #[.val (.ref b), .val (.int 3), .val (.int c)] [(.int ((c >>> ((8 : Int32) &&& 31)).toInt8.toInt32)), (.int 3), (.ref b)]))
  obtain ⟨cl235, Ar235, q235, S235, n235, H235, G235⟩ := (id f230)
  have in235 : ¬ ((3 : Int32) < 0 ∨ cl235.slots.size ≤ ((3 : Int32)).toNatClampNeg) := inb_of S235 ⟨by decide, by decide⟩
  obtain ⟨T235, h235, X235, e235, W235, st235⟩ := stB X234 hx hZ e234 Ar235 (j := (3 : Int32)) in235 (g := (mkF me_ 52 #[.val (.ref b), .val (.int 3), .val (.int c)] [(.int ((c >>> ((8 : Int32) &&& 31)).toInt8.toInt32)), (.int 3), (.ref b)])) rfl rfl (hb hby d16_52)
  have W235 : Wr h229 h235 b ((3 : Int32)).toNatClampNeg (.int ((c >>> ((8 : Int32) &&& 31)).toInt8.toInt32)) := by have z := W235; rw [(own_narB _)] at z; exact z
  refine gv st235 ?_
  have K238 := K232.wr W235 (Or.inl (List.mem_of_getElem? (i := 0) rfl))
  have N239 := Fr.snoc X235 N233 u4
  have f236 : Arv Z h235 b k .byte (8 : Int32) [(.int x0), (.int x1), (.int ((c >>> ((0 : Int32) &&& 31)).toInt8.toInt32)), (.int ((c >>> ((8 : Int32) &&& 31)).toInt8.toInt32)), (.int x4), (.int x5), (.int x6), (.int x7)] (.int 0) := Arv.set Ar235 q235 S235 n235 H235 G235 (fits_nar_byte _) W235 3 rfl (Nat.le_of_ble_eq_true rfl)
  refine gf _ (own_ret X235 Bd.notSynchronized (v := none) (fun _ => rfl) ?_ (by decide) (by decide) (fun fs hr => X235.returnOut hx Bd.returns (hb hby d16_53) hr))
  show Q_put8_1 Z b c k x0 x1 x2 x3 x4 x5 x6 x7 h0 n0 _ T235.heap _
  rw [e235]
  exact ⟨rfl, N239, K238, f236⟩
def Q_l1at4_2 (Z : State) (b : Addr) (k : ClassId) (x0 x1 : Int32) (x2 x3 : Int32) (fmt : Value) (h0 : Heap) (n0 : Nat) (v : Option Value) (h : Heap) (L : List Loc) : Prop := v = some (.int ((x2 &&& (255 : Int32)).toUInt32.toUInt16.toUInt32.toInt32)) ∧ Fr n0 L ∧ h = h0
theorem rm_l1at4_2 (l : Launch) (Z : State) (a0 : Array Value) (hw : own_HW Z a0) (ws : List Jvm.Cond) (b : Addr) (k : ClassId) (x0 x1 : Int32) (x2 x3 : Int32) (fmt : Value) (h0 : Heap) (n0 : Nat) (O0 : Old Z n0 h0) (u0 : fmt.isRef = true) (u1 : Sta Z Z.heap "jdk/internal/util/Preconditions" "SIOOBE_FORMATTER" "Ljava/util/function/BiFunction;" fmt) (u2 : Arv Z h0 b k .byte (4 : Int32) [(.int x0), (.int x1), (.int x2), (.int x3)] (.int 0)) :
    own_Met l Z m_13 jdk_43_method_2_code 2 (some .char) ws (own_R 2 0 0 27) #[(.ref b), (.int 2)] h0 (Q_l1at4_2 Z b k x0 x1 x2 x3 fmt h0 n0) := by
  refine own_open (plainFor_of_name pn_3) (fun pr_ en_ st_ me_ below meth_ co_ s₁ Bd hx hby hml hown hZ X0 e0 G gv gf => ?_)
  have N0 := Fr.nil n0
  refine gv (fun _ kQ => castTop (ef_4 me_ b (2 : Int32)) kQ) ?_
  show G (s₁.setTop (mkF me_ 0 #[.val (.ref b), .val (.int 2)] []))
  refine gv (fun _ kQ => XS.iloadN X0.here hx rfl (hb hby d26_0) rfl (XS.aloadN X0.here hx rfl (hb hby d26_1) rfl rfl kQ)) ?_
  obtain ⟨cl240, Ar240, -, S240, n240, -, -⟩ := (id u2)
  refine gv (X0.arraylength hx (by rw [e0]; exact Ar240.1) (State.isArrayOf_alike hZ.alike Ar240.2.1) (g := (mkF me_ 2 #[.val (.ref b), .val (.int 2)] [(.ref b), (.int 2)])) rfl rfl (hb hby d26_2)) ?_
  rw [len_of S240 n240]
  obtain ⟨_, _, ⟨T241, L241, k241, n241⟩, -, X241, ⟨Lc241, hQ241, l241, y241, z241⟩, st241⟩ := Jvm.LawKit.callS X0 hx (y := m_9) hown (mvT hZ (t_111 hw)) (mvT hZ (t_100 hw)) (mvT hZ (t_13 hw)) (mvT hZ (t_101 hw)) (by decide) (backOf (W := 0) (rm_scx l Z a0 hw [] (2 : Int32) (4 : Int32) fmt h0 n0 O0 u0 u1 (by decide) (by decide)) hZ (t_101 hw) (t_13 hw) (by decide) (by decide)) (g := (mkF me_ 3 #[.val (.ref b), .val (.int 2)] [(.int 4), (.int 2)])) rfl (by rw [hml]; rfl) (argsL := [(.int 2), (.int 4)]) (rest := []) (lenOf pd_2 rfl) rfl (by show 2 * 0 + _ ≤ _; exact Nat.le_of_eq rfl) (hb hby d26_3) (fun _ _ => ⟨rfl, e0, (by decide : 0 + 0 ≤ _), (by decide : 0 + 0 ≤ _)⟩)
  dsimp only [Pt.U, Pt.locs, Pt.cells, Pt.slots] at X241 l241 y241 z241 st241 hQ241
  subst l241 y241 z241
  obtain ⟨rfl, Nq241, eq241⟩ := hQ241
  have N242 := Fr.app N0 Nq241
  refine gv st241 ?_
  refine gv (fun _ kQ => XS.aloadN X241.here hx rfl (hb hby d26_6) rfl rfl (XS.iloadN X241.here hx rfl (hb hby d26_7) rfl kQ)) ?_
  show G (T241.setTop (mkF me_ 8 #[.val (.ref b), .val (.int 2)] [(.int 2), (.ref b)]))
  obtain ⟨cl243, Ar243, q243, S243, n243, H243, G243⟩ := (id u2)
  have in243 : ¬ ((2 : Int32) < 0 ∨ cl243.slots.size ≤ ((2 : Int32)).toNatClampNeg) := inb_of S243 ⟨by decide, by decide⟩
  refine gv (X241.baloadBytes hx (j := (2 : Int32)) (v := (.int x2)) (by rw [eq241]; exact Ar243.1) (State.isArrayOf_alike hZ.alike Ar243.2.1) Ar243.2.2 in243 (Has.at H243 in243 rfl) (g := (mkF me_ 8 #[.val (.ref b), .val (.int 2)] [(.int 2), (.ref b)])) rfl rfl (hb hby d26_8)) ?_
  show G (T241.setTop (mkF me_ 9 #[.val (.ref b), .val (.int 2)] [(.int x2)]))
  refine gv (fun _ kQ => XS.sipush X241.here hx rfl (hb hby d26_9) (XS.iand X241.here hx rfl (hb hby d26_12) rfl (XS.i2c X241.here hx rfl (hb hby d26_13) rfl kQ))) ?_
  refine gf _ (own_ret X241 Bd.notSynchronized (v := some (.int ((x2 &&& (255 : Int32)).toUInt32.toUInt16.toUInt32.toInt32))) (own_rv Bd.returns) ?_ (by decide) (by decide) (fun fs hr => retN X241 hx (t := .char) Bd.returns (by simp) (hb hby d26_14) (by rw [(own_narC _)]; exact hr)))
  show Q_l1at4_2 Z b k x0 x1 x2 x3 fmt h0 n0 _ T241.heap _
  rw [eq241]
  exact ⟨rfl, N242, rfl⟩
def Q_getc4_2 (Z : State) (b : Addr) (k : ClassId) (x0 x1 : Int32) (x2 x3 : Int32) (x4 x5 : Int32) (x6 x7 : Int32) (h0 : Heap) (n0 : Nat) (v : Option Value) (h : Heap) (L : List Loc) : Prop := v = some (.int (own_gc x4 x5)) ∧ Fr n0 L ∧ h = h0
theorem rm_getc4_2 (l : Launch) (Z : State) (a0 : Array Value) (hw : own_HW Z a0) (ws : List Jvm.Cond) (b : Addr) (k : ClassId) (x0 x1 : Int32) (x2 x3 : Int32) (x4 x5 : Int32) (x6 x7 : Int32) (h0 : Heap) (n0 : Nat) (O0 : Old Z n0 h0) (u0 : Sta Z Z.heap "java/lang/StringUTF16" "$assertionsDisabled" "Z" (.int 1)) (u1 : Sta Z Z.heap "java/lang/StringUTF16" "HI_BYTE_SHIFT" "I" (.int 0)) (u2 : Sta Z Z.heap "java/lang/StringUTF16" "LO_BYTE_SHIFT" "I" (.int 8)) (u3 : Arv Z h0 b k .byte (8 : Int32) [(.int x0), (.int x1), (.int x2), (.int x3), (.int x4), (.int x5), (.int x6), (.int x7)] (.int 0)) :
    own_Met l Z m_19 jdk_52_method_5_code 2 (some .char) ws (own_R 0 0 0 0) #[(.ref b), (.int 2)] h0 (Q_getc4_2 Z b k x0 x1 x2 x3 x4 x5 x6 x7 h0 n0) := by
  refine own_open (plainFor_of_name pn_2) (fun pr_ en_ st_ me_ below meth_ co_ s₁ Bd hx hby hml hown hZ X0 e0 G gv gf => ?_)
  have N0 := Fr.nil n0
  refine gv (fun _ kQ => castTop (ef_4 me_ b (2 : Int32)) kQ) ?_
  show G (s₁.setTop (mkF me_ 0 #[.val (.ref b), .val (.int 2)] []))
  obtain ⟨T244, X244, e244, st244⟩ := getS2 X0 hx hZ hown (host := "") (Or.inl (t_71 hw)) Via.refl e0 (u0.ext O0.2) (g := (mkF me_ 0 #[.val (.ref b), .val (.int 2)] [])) rfl (hb hby d17_0)
  refine gv st244 ?_
  refine gv (fun _ kQ => XS.ifYes X244.here hx rfl (pc0 := 3) (pc' := 28) rfl (hb hby d17_3) rfl ((if0 _ _).trans (feq (by decide : ¬ ((1 : Int32) = (0 : Int32)))).2) (by decide) (by decide) (XS.iloadN X244.here hx rfl (hb hby d17_28) rfl (XS.iconst X244.here hx rfl (hb hby d17_29) (XS.ishl X244.here hx rfl (hb hby d17_30) rfl kQ)))) ?_
  show G (T244.setTop (mkF me_ 31 #[.val (.ref b), .val (.int 2)] [(.int ((2 : Int32) <<< ((1 : Int32) &&& 31)))]))
  rw [(by decide : ((2 : Int32) <<< ((1 : Int32) &&& 31)) = (4 : Int32))]
  refine gv (fun _ kQ => XS.istoreN X244.here hx rfl (hb hby d17_31) rfl (l' := #[.val (.ref b), .val (.int 4)]) rfl (XS.aloadN X244.here hx rfl (hb hby d17_32) rfl rfl (XS.iloadN X244.here hx rfl (hb hby d17_33) rfl (XS.iinc X244.here hx rfl (hb hby d17_34) rfl (l' := #[.val (.ref b), .val (.int ((4 : Int32) + (1 : Int32)))]) rfl kQ)))) ?_
  show G (T244.setTop (mkF me_ 37 #[.val (.ref b), .val (.int ((4 : Int32) + (1 : Int32)))] [(.int 4), (.ref b)]))
  rw [(by decide : ((4 : Int32) + (1 : Int32)) = (5 : Int32))]
  obtain ⟨cl245, Ar245, q245, S245, n245, H245, G245⟩ := (id u3)
  have in245 : ¬ ((4 : Int32) < 0 ∨ cl245.slots.size ≤ ((4 : Int32)).toNatClampNeg) := inb_of S245 ⟨by decide, by decide⟩
  refine gv (X244.baloadBytes hx (j := (4 : Int32)) (v := (.int x4)) (by rw [e244]; exact Ar245.1) (State.isArrayOf_alike hZ.alike Ar245.2.1) Ar245.2.2 in245 (Has.at H245 in245 rfl) (g := (mkF me_ 37 #[.val (.ref b), .val (.int 5)] [(.int 4), (.ref b)])) rfl rfl (hb hby d17_37)) ?_
  show G (T244.setTop (mkF me_ 38 #[.val (.ref b), .val (.int 5)] [(.int x4)]))
  refine gv (fun _ kQ => XS.sipush X244.here hx rfl (hb hby d17_38) (XS.iand X244.here hx rfl (hb hby d17_41) rfl kQ)) ?_
  obtain ⟨T246, X246, e246, st246⟩ := getS2 X244 hx hZ hown (host := "") (Or.inl (t_72 hw)) Via.refl e244 (u1.ext O0.2) (g := (mkF me_ 42 #[.val (.ref b), .val (.int 5)] [(.int (x4 &&& (255 : Int32)))])) rfl (hb hby d17_42)
  refine gv st246 ?_
  refine gv (fun _ kQ => XS.ishl X246.here hx rfl (hb hby d17_45) rfl (XS.aloadN X246.here hx rfl (hb hby d17_46) rfl rfl (XS.iloadN X246.here hx rfl (hb hby d17_47) rfl kQ))) ?_
  show G (T246.setTop (mkF me_ 48 #[.val (.ref b), .val (.int 5)] [(.int 5), (.ref b), (.int ((x4 &&& (255 : Int32)) <<< ((0 : Int32) &&& 31)))]))
  obtain ⟨cl247, Ar247, q247, S247, n247, H247, G247⟩ := (id u3)
  have in247 : ¬ ((5 : Int32) < 0 ∨ cl247.slots.size ≤ ((5 : Int32)).toNatClampNeg) := inb_of S247 ⟨by decide, by decide⟩
  refine gv (X246.baloadBytes hx (j := (5 : Int32)) (v := (.int x5)) (by rw [e246]; exact Ar247.1) (State.isArrayOf_alike hZ.alike Ar247.2.1) Ar247.2.2 in247 (Has.at H247 in247 rfl) (g := (mkF me_ 48 #[.val (.ref b), .val (.int 5)] [(.int 5), (.ref b), (.int ((x4 &&& (255 : Int32)) <<< ((0 : Int32) &&& 31)))])) rfl rfl (hb hby d17_48)) ?_
  show G (T246.setTop (mkF me_ 49 #[.val (.ref b), .val (.int 5)] [(.int x5), (.int ((x4 &&& (255 : Int32)) <<< ((0 : Int32) &&& 31)))]))
  refine gv (fun _ kQ => XS.sipush X246.here hx rfl (hb hby d17_49) (XS.iand X246.here hx rfl (hb hby d17_52) rfl kQ)) ?_
  obtain ⟨T248, X248, e248, st248⟩ := getS2 X246 hx hZ hown (host := "") (Or.inl (t_73 hw)) Via.refl e246 (u2.ext O0.2) (g := (mkF me_ 53 #[.val (.ref b), .val (.int 5)] [(.int (x5 &&& (255 : Int32))), (.int ((x4 &&& (255 : Int32)) <<< ((0 : Int32) &&& 31)))])) rfl (hb hby d17_53)
  refine gv st248 ?_
  refine gv (fun _ kQ => XS.ishl X248.here hx rfl (hb hby d17_56) rfl (XS.ior X248.here hx rfl (hb hby d17_57) rfl (XS.i2c X248.here hx rfl (hb hby d17_58) rfl kQ))) ?_
  refine gf _ (own_ret X248 Bd.notSynchronized (v := some (.int ((((x4 &&& (255 : Int32)) <<< ((0 : Int32) &&& 31)) ||| ((x5 &&& (255 : Int32)) <<< ((8 : Int32) &&& 31))).toUInt32.toUInt16.toUInt32.toInt32))) (own_rv Bd.returns) ?_ (by decide) (by decide) (fun fs hr => retN X248 hx (t := .char) Bd.returns (by simp) (hb hby d17_59) (by rw [(own_narC _)]; exact hr)))
  show Q_getc4_2 Z b k x0 x1 x2 x3 x4 x5 x6 x7 h0 n0 _ T248.heap _
  rw [e248]
  exact ⟨rfl, N0, rfl⟩
def Q_uat4_2 (Z : State) (b : Addr) (k : ClassId) (x0 x1 : Int32) (x2 x3 : Int32) (x4 x5 : Int32) (x6 x7 : Int32) (fmt : Value) (h0 : Heap) (n0 : Nat) (v : Option Value) (h : Heap) (L : List Loc) : Prop := v = some (.int (own_gc x4 x5)) ∧ Fr n0 L ∧ h = h0
theorem rm_uat4_2 (l : Launch) (Z : State) (a0 : Array Value) (hw : own_HW Z a0) (ws : List Jvm.Cond) (b : Addr) (k : ClassId) (x0 x1 : Int32) (x2 x3 : Int32) (x4 x5 : Int32) (x6 x7 : Int32) (fmt : Value) (h0 : Heap) (n0 : Nat) (O0 : Old Z n0 h0) (u0 : fmt.isRef = true) (u1 : Sta Z Z.heap "jdk/internal/util/Preconditions" "SIOOBE_FORMATTER" "Ljava/util/function/BiFunction;" fmt) (u2 : Sta Z Z.heap "java/lang/StringUTF16" "$assertionsDisabled" "Z" (.int 1)) (u3 : Sta Z Z.heap "java/lang/StringUTF16" "HI_BYTE_SHIFT" "I" (.int 0)) (u4 : Sta Z Z.heap "java/lang/StringUTF16" "LO_BYTE_SHIFT" "I" (.int 8)) (u5 : Arv Z h0 b k .byte (8 : Int32) [(.int x0), (.int x1), (.int x2), (.int x3), (.int x4), (.int x5), (.int x6), (.int x7)] (.int 0)) :
    own_Met l Z m_14 jdk_52_method_83_code 2 (some .char) ws (own_R 3 0 0 40) #[(.ref b), (.int 2)] h0 (Q_uat4_2 Z b k x0 x1 x2 x3 x4 x5 x6 x7 fmt h0 n0) := by
  refine own_open (plainFor_of_name pn_2) (fun pr_ en_ st_ me_ below meth_ co_ s₁ Bd hx hby hml hown hZ X0 e0 G gv gf => ?_)
  have N0 := Fr.nil n0
  refine gv (fun _ kQ => castTop (ef_4 me_ b (2 : Int32)) kQ) ?_
  show G (s₁.setTop (mkF me_ 0 #[.val (.ref b), .val (.int 2)] []))
  refine gv (fun _ kQ => XS.iloadN X0.here hx rfl (hb hby d21_0) rfl (XS.aloadN X0.here hx rfl (hb hby d21_1) rfl rfl kQ)) ?_
  obtain ⟨_, _, ⟨T249, L249, k249, n249⟩, -, X249, ⟨Lc249, hQ249, l249, y249, z249⟩, st249⟩ := Jvm.LawKit.callS X0 hx (y := m_15) hown (mvT hZ (t_93 hw)) (mvT hZ (t_94 hw)) (mvT hZ (t_50 hw)) (mvT hZ (t_95 hw)) (by decide) (backOf (W := 0) (rm_uci4 l Z a0 hw [] (2 : Int32) b k x0 x1 x2 x3 x4 x5 x6 x7 fmt h0 n0 O0 u0 u1 (by decide) (by decide) u5) hZ (t_95 hw) (t_50 hw) (by decide) (by decide)) (g := (mkF me_ 2 #[.val (.ref b), .val (.int 2)] [(.ref b), (.int 2)])) rfl (by rw [hml]; rfl) (argsL := [(.int 2), (.ref b)]) (rest := []) (lenOf pd_3 rfl) rfl (by show 2 * 0 + _ ≤ _; exact Nat.le_of_eq rfl) (hb hby d21_2) (fun _ _ => ⟨rfl, e0, (by decide : 0 + 0 ≤ _), (by decide : 0 + 0 ≤ _)⟩)
  dsimp only [Pt.U, Pt.locs, Pt.cells, Pt.slots] at X249 l249 y249 z249 st249 hQ249
  subst l249 y249 z249
  obtain ⟨rfl, Nq249, eq249⟩ := hQ249
  have N250 := Fr.app N0 Nq249
  refine gv st249 ?_
  refine gv (fun _ kQ => XS.aloadN X249.here hx rfl (hb hby d21_5) rfl rfl (XS.iloadN X249.here hx rfl (hb hby d21_6) rfl kQ)) ?_
  show G (T249.setTop (mkF me_ 7 #[.val (.ref b), .val (.int 2)] [(.int 2), (.ref b)]))
  obtain ⟨_, _, ⟨T251, L251, k251, n251⟩, -, X251, ⟨Lc251, hQ251, l251, y251, z251⟩, st251⟩ := Jvm.LawKit.callS X249 hx (y := m_19) hown (mvT hZ (t_74 hw)) (mvT hZ (t_75 hw)) (mvT hZ (t_50 hw)) (mvT hZ (t_76 hw)) (by decide) (backOf (W := 0) (rm_getc4_2 l Z a0 hw [] b k x0 x1 x2 x3 x4 x5 x6 x7 h0 n0 O0 u2 u3 u4 u5) hZ (t_76 hw) (t_50 hw) (by decide) (by decide)) (g := (mkF me_ 7 #[.val (.ref b), .val (.int 2)] [(.int 2), (.ref b)])) rfl (by rw [hml]; rfl) (argsL := [(.ref b), (.int 2)]) (rest := []) (lenOf pd_4 rfl) rfl (by show 2 * 0 + _ ≤ _; exact Nat.le_of_eq rfl) (hb hby d21_7) (fun _ _ => ⟨rfl, eq249, (by decide : 0 + 0 ≤ _), (by decide : 0 + 0 ≤ _)⟩)
  dsimp only [Pt.U, Pt.locs, Pt.cells, Pt.slots] at X251 l251 y251 z251 st251 hQ251
  subst l251 y251 z251
  obtain ⟨rfl, Nq251, eq251⟩ := hQ251
  have N252 := Fr.app N250 Nq251
  refine gv st251 ?_
  refine gf _ (own_ret X251 Bd.notSynchronized (v := some (.int (own_gc x4 x5))) (own_rv Bd.returns) ?_ (by decide) (by decide) (fun fs hr => retN X251 hx (t := .char) Bd.returns (by simp) (hb hby d21_10) (by rw [(own_gcn _ _)]; exact hr)))
  show Q_uat4_2 Z b k x0 x1 x2 x3 x4 x5 x6 x7 fmt h0 n0 _ T251.heap _
  rw [eq251]
  exact ⟨rfl, N252, rfl⟩
def Q_put8_2 (Z : State) (b : Addr) (c : Int32) (k : ClassId) (x0 x1 : Int32) (x2 x3 : Int32) (x4 x5 : Int32) (x6 x7 : Int32) (h0 : Heap) (n0 : Nat) (v : Option Value) (h : Heap) (L : List Loc) : Prop := v = none ∧ Fr n0 L ∧ Keep h0 h [b] ∧ (Arv Z h b k .byte (8 : Int32) [(.int x0), (.int x1), (.int x2), (.int x3), (.int ((c >>> ((0 : Int32) &&& 31)).toInt8.toInt32)), (.int ((c >>> ((8 : Int32) &&& 31)).toInt8.toInt32)), (.int x6), (.int x7)] (.int 0))
theorem rm_put8_2 (l : Launch) (Z : State) (a0 : Array Value) (hw : own_HW Z a0) (ws : List Jvm.Cond) (b : Addr) (c : Int32) (k : ClassId) (x0 x1 : Int32) (x2 x3 : Int32) (x4 x5 : Int32) (x6 x7 : Int32) (h0 : Heap) (n0 : Nat) (O0 : Old Z n0 h0) (u0 : Sta Z Z.heap "java/lang/StringUTF16" "$assertionsDisabled" "Z" (.int 1)) (u1 : Sta Z Z.heap "java/lang/StringUTF16" "HI_BYTE_SHIFT" "I" (.int 0)) (u2 : Sta Z Z.heap "java/lang/StringUTF16" "LO_BYTE_SHIFT" "I" (.int 8)) (u3 : Arv Z h0 b k .byte (8 : Int32) [(.int x0), (.int x1), (.int x2), (.int x3), (.int x4), (.int x5), (.int x6), (.int x7)] (.int 0)) (u4 : n0 ≤ b) :
    own_Met l Z m_23 jdk_52_method_4_code 3 none ws (own_R 0 0 0 0) #[(.ref b), (.int 2), (.int c)] h0 (Q_put8_2 Z b c k x0 x1 x2 x3 x4 x5 x6 x7 h0 n0) := by
  refine own_open (plainFor_of_name pn_2) (fun pr_ en_ st_ me_ below meth_ co_ s₁ Bd hx hby hml hown hZ X0 e0 G gv gf => ?_)
  have N0 := Fr.nil n0
  have K0 := Keep.refl h0 [b]
  refine gv (fun _ kQ => castTop (ef_5 me_ b (2 : Int32) c) kQ) ?_
  show G (s₁.setTop (mkF me_ 0 #[.val (.ref b), .val (.int 2), .val (.int c)] []))
  obtain ⟨T253, X253, e253, st253⟩ := getS2 X0 hx hZ hown (host := "") (Or.inl (t_71 hw)) Via.refl e0 (u0.ext O0.2) (g := (mkF me_ 0 #[.val (.ref b), .val (.int 2), .val (.int c)] [])) rfl (hb hby d16_0)
  refine gv st253 ?_
  refine gv (fun _ kQ => XS.ifYes X253.here hx rfl (pc0 := 3) (pc' := 28) rfl (hb hby d16_3) rfl ((if0 _ _).trans (feq (by decide : ¬ ((1 : Int32) = (0 : Int32)))).2) (by decide) (by decide) (XS.iloadN X253.here hx rfl (hb hby d16_28) rfl (XS.iconst X253.here hx rfl (hb hby d16_29) (XS.ishl X253.here hx rfl (hb hby d16_30) rfl kQ)))) ?_
  show G (T253.setTop (mkF me_ 31 #[.val (.ref b), .val (.int 2), .val (.int c)] [(.int ((2 : Int32) <<< ((1 : Int32) &&& 31)))]))
  rw [(by decide : ((2 : Int32) <<< ((1 : Int32) &&& 31)) = (4 : Int32))]
  refine gv (fun _ kQ => XS.istoreN X253.here hx rfl (hb hby d16_31) rfl (l' := #[.val (.ref b), .val (.int 4), .val (.int c)]) rfl (XS.aloadN X253.here hx rfl (hb hby d16_32) rfl rfl (XS.iloadN X253.here hx rfl (hb hby d16_33) rfl (XS.iinc X253.here hx rfl (hb hby d16_34) rfl (l' := #[.val (.ref b), .val (.int ((4 : Int32) + (1 : Int32))), .val (.int c)]) rfl kQ)))) ?_
  show G (T253.setTop (mkF me_ 37 #[.val (.ref b), .val (.int ((4 : Int32) + (1 : Int32))), .val (.int c)] [(.int 4), (.ref b)]))
  rw [(by decide : ((4 : Int32) + (1 : Int32)) = (5 : Int32))]
  refine gv (fun _ kQ => XS.iloadN X253.here hx rfl (hb hby d16_37) rfl kQ) ?_
  obtain ⟨T254, X254, e254, st254⟩ := getS2 X253 hx hZ hown (host := "") (Or.inl (t_72 hw)) Via.refl e253 (u1.ext O0.2) (g := (mkF me_ 38 #[.val (.ref b), .val (.int 5), .val (.int c)] [(.int c), (.int 4), (.ref b)])) rfl (hb hby d16_38)
  refine gv st254 ?_
  refine gv (fun _ kQ => XS.ishr X254.here hx rfl (hb hby d16_41) rfl (XS.i2b X254.here hx rfl (hb hby d16_42) rfl kQ)) ?_
  show G (T254.setTop (mkF me_ 43 #[.val (.ref b), .val (.int 5), .val (.int c)] [(.int ((c >>> ((0 : Int32) &&& 31)).toInt8.toInt32)), (.int 4), (.ref b)]))
  obtain ⟨cl255, Ar255, q255, S255, n255, H255, G255⟩ := (id u3)
  have in255 : ¬ ((4 : Int32) < 0 ∨ cl255.slots.size ≤ ((4 : Int32)).toNatClampNeg) := inb_of S255 ⟨by decide, by decide⟩
  obtain ⟨T255, h255, X255, e255, W255, st255⟩ := stB X254 hx hZ e254 Ar255 (j := (4 : Int32)) in255 (g := (mkF me_ 43 #[.val (.ref b), .val (.int 5), .val (.int c)] [(.int ((c >>> ((0 : Int32) &&& 31)).toInt8.toInt32)), (.int 4), (.ref b)])) rfl rfl (hb hby d16_43)
  have W255 : Wr h0 h255 b ((4 : Int32)).toNatClampNeg (.int ((c >>> ((0 : Int32) &&& 31)).toInt8.toInt32)) := by have z := W255; rw [(own_narB _)] at z; exact z
  refine gv st255 ?_
  have O257 := O0.wr W255 u4
  have K258 := K0.wr W255 (Or.inl (List.mem_of_getElem? (i := 0) rfl))
  have N259 := Fr.snoc X255 N0 u4
  have f256 : Arv Z h255 b k .byte (8 : Int32) [(.int x0), (.int x1), (.int x2), (.int x3), (.int ((c >>> ((0 : Int32) &&& 31)).toInt8.toInt32)), (.int x5), (.int x6), (.int x7)] (.int 0) := Arv.set Ar255 q255 S255 n255 H255 G255 (fits_nar_byte _) W255 4 rfl (Nat.le_of_ble_eq_true rfl)
  refine gv (fun _ kQ => XS.aloadN X255.here hx rfl (hb hby d16_44) rfl rfl (XS.iloadN X255.here hx rfl (hb hby d16_45) rfl (XS.iloadN X255.here hx rfl (hb hby d16_46) rfl kQ))) ?_
  show G (T255.setTop (mkF me_ 47 #[.val (.ref b), .val (.int 5), .val (.int c)] [(.int c), (.int 5), (.ref b)]))
  obtain ⟨T260, X260, e260, st260⟩ := getS2 X255 hx hZ hown (host := "") (Or.inl (t_73 hw)) Via.refl e255 (u2.ext O257.2) (g := (mkF me_ 47 #[.val (.ref b), .val (.int 5), .val (.int c)] [(.int c), (.int 5), (.ref b)])) rfl (hb hby d16_47)
  refine gv st260 ?_
  refine gv (fun _ kQ => XS.ishr X260.here hx rfl (hb hby d16_50) rfl (XS.i2b X260.here hx rfl (hb hby d16_51) rfl kQ)) ?_
  show G (T260.setTop (mkF me_ 52 #[.val (.ref b), .val (.int 5), .val (.int c)] [(.int ((c >>> ((8 : Int32) &&& 31)).toInt8.toInt32)), (.int 5), (.ref b)]))
  obtain ⟨cl261, Ar261, q261, S261, n261, H261, G261⟩ := (id f256)
  have in261 : ¬ ((5 : Int32) < 0 ∨ cl261.slots.size ≤ ((5 : Int32)).toNatClampNeg) := inb_of S261 ⟨by decide, by decide⟩
  obtain ⟨T261, h261, X261, e261, W261, st261⟩ := stB X260 hx hZ e260 Ar261 (j := (5 : Int32)) in261 (g := (mkF me_ 52 #[.val (.ref b), .val (.int 5), .val (.int c)] [(.int ((c >>> ((8 : Int32) &&& 31)).toInt8.toInt32)), (.int 5), (.ref b)])) rfl rfl (hb hby d16_52)
  have W261 : Wr h255 h261 b ((5 : Int32)).toNatClampNeg (.int ((c >>> ((8 : Int32) &&& 31)).toInt8.toInt32)) := by have z := W261; rw [(own_narB _)] at z; exact z
  refine gv st261 ?_
  have K264 := K258.wr W261 (Or.inl (List.mem_of_getElem? (i := 0) rfl))
  have N265 := Fr.snoc X261 N259 u4
  have f262 : Arv Z h261 b k .byte (8 : Int32) [(.int x0), (.int x1), (.int x2), (.int x3), (.int ((c >>> ((0 : Int32) &&& 31)).toInt8.toInt32)), (.int ((c >>> ((8 : Int32) &&& 31)).toInt8.toInt32)), (.int x6), (.int x7)] (.int 0) := Arv.set Ar261 q261 S261 n261 H261 G261 (fits_nar_byte _) W261 5 rfl (Nat.le_of_ble_eq_true rfl)
  refine gf _ (own_ret X261 Bd.notSynchronized (v := none) (fun _ => rfl) ?_ (by decide) (by decide) (fun fs hr => X261.returnOut hx Bd.returns (hb hby d16_53) hr))
  show Q_put8_2 Z b c k x0 x1 x2 x3 x4 x5 x6 x7 h0 n0 _ T261.heap _
  rw [e261]
  exact ⟨rfl, N265, K264, f262⟩
def Q_l1at4_3 (Z : State) (b : Addr) (k : ClassId) (x0 x1 : Int32) (x2 x3 : Int32) (fmt : Value) (h0 : Heap) (n0 : Nat) (v : Option Value) (h : Heap) (L : List Loc) : Prop := v = some (.int ((x3 &&& (255 : Int32)).toUInt32.toUInt16.toUInt32.toInt32)) ∧ Fr n0 L ∧ h = h0
theorem rm_l1at4_3 (l : Launch) (Z : State) (a0 : Array Value) (hw : own_HW Z a0) (ws : List Jvm.Cond) (b : Addr) (k : ClassId) (x0 x1 : Int32) (x2 x3 : Int32) (fmt : Value) (h0 : Heap) (n0 : Nat) (O0 : Old Z n0 h0) (u0 : fmt.isRef = true) (u1 : Sta Z Z.heap "jdk/internal/util/Preconditions" "SIOOBE_FORMATTER" "Ljava/util/function/BiFunction;" fmt) (u2 : Arv Z h0 b k .byte (4 : Int32) [(.int x0), (.int x1), (.int x2), (.int x3)] (.int 0)) :
    own_Met l Z m_13 jdk_43_method_2_code 2 (some .char) ws (own_R 2 0 0 27) #[(.ref b), (.int 3)] h0 (Q_l1at4_3 Z b k x0 x1 x2 x3 fmt h0 n0) := by
  refine own_open (plainFor_of_name pn_3) (fun pr_ en_ st_ me_ below meth_ co_ s₁ Bd hx hby hml hown hZ X0 e0 G gv gf => ?_)
  have N0 := Fr.nil n0
  refine gv (fun _ kQ => castTop (ef_4 me_ b (3 : Int32)) kQ) ?_
  show G (s₁.setTop (mkF me_ 0 #[.val (.ref b), .val (.int 3)] []))
  refine gv (fun _ kQ => XS.iloadN X0.here hx rfl (hb hby d26_0) rfl (XS.aloadN X0.here hx rfl (hb hby d26_1) rfl rfl kQ)) ?_
  obtain ⟨cl266, Ar266, -, S266, n266, -, -⟩ := (id u2)
  refine gv (X0.arraylength hx (by rw [e0]; exact Ar266.1) (State.isArrayOf_alike hZ.alike Ar266.2.1) (g := (mkF me_ 2 #[.val (.ref b), .val (.int 3)] [(.ref b), (.int 3)])) rfl rfl (hb hby d26_2)) ?_
  rw [len_of S266 n266]
  obtain ⟨_, _, ⟨T267, L267, k267, n267⟩, -, X267, ⟨Lc267, hQ267, l267, y267, z267⟩, st267⟩ := Jvm.LawKit.callS X0 hx (y := m_9) hown (mvT hZ (t_111 hw)) (mvT hZ (t_100 hw)) (mvT hZ (t_13 hw)) (mvT hZ (t_101 hw)) (by decide) (backOf (W := 0) (rm_scx l Z a0 hw [] (3 : Int32) (4 : Int32) fmt h0 n0 O0 u0 u1 (by decide) (by decide)) hZ (t_101 hw) (t_13 hw) (by decide) (by decide)) (g := (mkF me_ 3 #[.val (.ref b), .val (.int 3)] [(.int 4), (.int 3)])) rfl (by rw [hml]; rfl) (argsL := [(.int 3), (.int 4)]) (rest := []) (lenOf pd_2 rfl) rfl (by show 2 * 0 + _ ≤ _; exact Nat.le_of_eq rfl) (hb hby d26_3) (fun _ _ => ⟨rfl, e0, (by decide : 0 + 0 ≤ _), (by decide : 0 + 0 ≤ _)⟩)
  dsimp only [Pt.U, Pt.locs, Pt.cells, Pt.slots] at X267 l267 y267 z267 st267 hQ267
  subst l267 y267 z267
  obtain ⟨rfl, Nq267, eq267⟩ := hQ267
  have N268 := Fr.app N0 Nq267
  refine gv st267 ?_
  refine gv (fun _ kQ => XS.aloadN X267.here hx rfl (hb hby d26_6) rfl rfl (XS.iloadN X267.here hx rfl (hb hby d26_7) rfl kQ)) ?_
  show G (T267.setTop (mkF me_ 8 #[.val (.ref b), .val (.int 3)] [(.int 3), (.ref b)]))
  obtain ⟨cl269, Ar269, q269, S269, n269, H269, G269⟩ := (id u2)
  have in269 : ¬ ((3 : Int32) < 0 ∨ cl269.slots.size ≤ ((3 : Int32)).toNatClampNeg) := inb_of S269 ⟨by decide, by decide⟩
  refine gv (X267.baloadBytes hx (j := (3 : Int32)) (v := (.int x3)) (by rw [eq267]; exact Ar269.1) (State.isArrayOf_alike hZ.alike Ar269.2.1) Ar269.2.2 in269 (Has.at H269 in269 rfl) (g := (mkF me_ 8 #[.val (.ref b), .val (.int 3)] [(.int 3), (.ref b)])) rfl rfl (hb hby d26_8)) ?_
  show G (T267.setTop (mkF me_ 9 #[.val (.ref b), .val (.int 3)] [(.int x3)]))
  refine gv (fun _ kQ => XS.sipush X267.here hx rfl (hb hby d26_9) (XS.iand X267.here hx rfl (hb hby d26_12) rfl (XS.i2c X267.here hx rfl (hb hby d26_13) rfl kQ))) ?_
  refine gf _ (own_ret X267 Bd.notSynchronized (v := some (.int ((x3 &&& (255 : Int32)).toUInt32.toUInt16.toUInt32.toInt32))) (own_rv Bd.returns) ?_ (by decide) (by decide) (fun fs hr => retN X267 hx (t := .char) Bd.returns (by simp) (hb hby d26_14) (by rw [(own_narC _)]; exact hr)))
  show Q_l1at4_3 Z b k x0 x1 x2 x3 fmt h0 n0 _ T267.heap _
  rw [eq267]
  exact ⟨rfl, N268, rfl⟩
def Q_getc4_3 (Z : State) (b : Addr) (k : ClassId) (x0 x1 : Int32) (x2 x3 : Int32) (x4 x5 : Int32) (x6 x7 : Int32) (h0 : Heap) (n0 : Nat) (v : Option Value) (h : Heap) (L : List Loc) : Prop := v = some (.int (own_gc x6 x7)) ∧ Fr n0 L ∧ h = h0
theorem rm_getc4_3 (l : Launch) (Z : State) (a0 : Array Value) (hw : own_HW Z a0) (ws : List Jvm.Cond) (b : Addr) (k : ClassId) (x0 x1 : Int32) (x2 x3 : Int32) (x4 x5 : Int32) (x6 x7 : Int32) (h0 : Heap) (n0 : Nat) (O0 : Old Z n0 h0) (u0 : Sta Z Z.heap "java/lang/StringUTF16" "$assertionsDisabled" "Z" (.int 1)) (u1 : Sta Z Z.heap "java/lang/StringUTF16" "HI_BYTE_SHIFT" "I" (.int 0)) (u2 : Sta Z Z.heap "java/lang/StringUTF16" "LO_BYTE_SHIFT" "I" (.int 8)) (u3 : Arv Z h0 b k .byte (8 : Int32) [(.int x0), (.int x1), (.int x2), (.int x3), (.int x4), (.int x5), (.int x6), (.int x7)] (.int 0)) :
    own_Met l Z m_19 jdk_52_method_5_code 2 (some .char) ws (own_R 0 0 0 0) #[(.ref b), (.int 3)] h0 (Q_getc4_3 Z b k x0 x1 x2 x3 x4 x5 x6 x7 h0 n0) := by
  refine own_open (plainFor_of_name pn_2) (fun pr_ en_ st_ me_ below meth_ co_ s₁ Bd hx hby hml hown hZ X0 e0 G gv gf => ?_)
  have N0 := Fr.nil n0
  refine gv (fun _ kQ => castTop (ef_4 me_ b (3 : Int32)) kQ) ?_
  show G (s₁.setTop (mkF me_ 0 #[.val (.ref b), .val (.int 3)] []))
  obtain ⟨T270, X270, e270, st270⟩ := getS2 X0 hx hZ hown (host := "") (Or.inl (t_71 hw)) Via.refl e0 (u0.ext O0.2) (g := (mkF me_ 0 #[.val (.ref b), .val (.int 3)] [])) rfl (hb hby d17_0)
  refine gv st270 ?_
  refine gv (fun _ kQ => XS.ifYes X270.here hx rfl (pc0 := 3) (pc' := 28) rfl (hb hby d17_3) rfl ((if0 _ _).trans (feq (by decide : ¬ ((1 : Int32) = (0 : Int32)))).2) (by decide) (by decide) (XS.iloadN X270.here hx rfl (hb hby d17_28) rfl (XS.iconst X270.here hx rfl (hb hby d17_29) (XS.ishl X270.here hx rfl (hb hby d17_30) rfl kQ)))) ?_
  show G (T270.setTop (mkF me_ 31 #[.val (.ref b), .val (.int 3)] [(.int ((3 : Int32) <<< ((1 : Int32) &&& 31)))]))
  rw [(by decide : ((3 : Int32) <<< ((1 : Int32) &&& 31)) = (6 : Int32))]
  refine gv (fun _ kQ => XS.istoreN X270.here hx rfl (hb hby d17_31) rfl (l' := #[.val (.ref b), .val (.int 6)]) rfl (XS.aloadN X270.here hx rfl (hb hby d17_32) rfl rfl (XS.iloadN X270.here hx rfl (hb hby d17_33) rfl (XS.iinc X270.here hx rfl (hb hby d17_34) rfl (l' := #[.val (.ref b), .val (.int ((6 : Int32) + (1 : Int32)))]) rfl kQ)))) ?_
  show G (T270.setTop (mkF me_ 37 #[.val (.ref b), .val (.int ((6 : Int32) + (1 : Int32)))] [(.int 6), (.ref b)]))
  rw [(by decide : ((6 : Int32) + (1 : Int32)) = (7 : Int32))]
  obtain ⟨cl271, Ar271, q271, S271, n271, H271, G271⟩ := (id u3)
  have in271 : ¬ ((6 : Int32) < 0 ∨ cl271.slots.size ≤ ((6 : Int32)).toNatClampNeg) := inb_of S271 ⟨by decide, by decide⟩
  refine gv (X270.baloadBytes hx (j := (6 : Int32)) (v := (.int x6)) (by rw [e270]; exact Ar271.1) (State.isArrayOf_alike hZ.alike Ar271.2.1) Ar271.2.2 in271 (Has.at H271 in271 rfl) (g := (mkF me_ 37 #[.val (.ref b), .val (.int 7)] [(.int 6), (.ref b)])) rfl rfl (hb hby d17_37)) ?_
  show G (T270.setTop (mkF me_ 38 #[.val (.ref b), .val (.int 7)] [(.int x6)]))
  refine gv (fun _ kQ => XS.sipush X270.here hx rfl (hb hby d17_38) (XS.iand X270.here hx rfl (hb hby d17_41) rfl kQ)) ?_
  obtain ⟨T272, X272, e272, st272⟩ := getS2 X270 hx hZ hown (host := "") (Or.inl (t_72 hw)) Via.refl e270 (u1.ext O0.2) (g := (mkF me_ 42 #[.val (.ref b), .val (.int 7)] [(.int (x6 &&& (255 : Int32)))])) rfl (hb hby d17_42)
  refine gv st272 ?_
  refine gv (fun _ kQ => XS.ishl X272.here hx rfl (hb hby d17_45) rfl (XS.aloadN X272.here hx rfl (hb hby d17_46) rfl rfl (XS.iloadN X272.here hx rfl (hb hby d17_47) rfl kQ))) ?_
  show G (T272.setTop (mkF me_ 48 #[.val (.ref b), .val (.int 7)] [(.int 7), (.ref b), (.int ((x6 &&& (255 : Int32)) <<< ((0 : Int32) &&& 31)))]))
  obtain ⟨cl273, Ar273, q273, S273, n273, H273, G273⟩ := (id u3)
  have in273 : ¬ ((7 : Int32) < 0 ∨ cl273.slots.size ≤ ((7 : Int32)).toNatClampNeg) := inb_of S273 ⟨by decide, by decide⟩
  refine gv (X272.baloadBytes hx (j := (7 : Int32)) (v := (.int x7)) (by rw [e272]; exact Ar273.1) (State.isArrayOf_alike hZ.alike Ar273.2.1) Ar273.2.2 in273 (Has.at H273 in273 rfl) (g := (mkF me_ 48 #[.val (.ref b), .val (.int 7)] [(.int 7), (.ref b), (.int ((x6 &&& (255 : Int32)) <<< ((0 : Int32) &&& 31)))])) rfl rfl (hb hby d17_48)) ?_
  show G (T272.setTop (mkF me_ 49 #[.val (.ref b), .val (.int 7)] [(.int x7), (.int ((x6 &&& (255 : Int32)) <<< ((0 : Int32) &&& 31)))]))
  refine gv (fun _ kQ => XS.sipush X272.here hx rfl (hb hby d17_49) (XS.iand X272.here hx rfl (hb hby d17_52) rfl kQ)) ?_
  obtain ⟨T274, X274, e274, st274⟩ := getS2 X272 hx hZ hown (host := "") (Or.inl (t_73 hw)) Via.refl e272 (u2.ext O0.2) (g := (mkF me_ 53 #[.val (.ref b), .val (.int 7)] [(.int (x7 &&& (255 : Int32))), (.int ((x6 &&& (255 : Int32)) <<< ((0 : Int32) &&& 31)))])) rfl (hb hby d17_53)
  refine gv st274 ?_
  refine gv (fun _ kQ => XS.ishl X274.here hx rfl (hb hby d17_56) rfl (XS.ior X274.here hx rfl (hb hby d17_57) rfl (XS.i2c X274.here hx rfl (hb hby d17_58) rfl kQ))) ?_
  refine gf _ (own_ret X274 Bd.notSynchronized (v := some (.int ((((x6 &&& (255 : Int32)) <<< ((0 : Int32) &&& 31)) ||| ((x7 &&& (255 : Int32)) <<< ((8 : Int32) &&& 31))).toUInt32.toUInt16.toUInt32.toInt32))) (own_rv Bd.returns) ?_ (by decide) (by decide) (fun fs hr => retN X274 hx (t := .char) Bd.returns (by simp) (hb hby d17_59) (by rw [(own_narC _)]; exact hr)))
  show Q_getc4_3 Z b k x0 x1 x2 x3 x4 x5 x6 x7 h0 n0 _ T274.heap _
  rw [e274]
  exact ⟨rfl, N0, rfl⟩
def Q_uat4_3 (Z : State) (b : Addr) (k : ClassId) (x0 x1 : Int32) (x2 x3 : Int32) (x4 x5 : Int32) (x6 x7 : Int32) (fmt : Value) (h0 : Heap) (n0 : Nat) (v : Option Value) (h : Heap) (L : List Loc) : Prop := v = some (.int (own_gc x6 x7)) ∧ Fr n0 L ∧ h = h0
theorem rm_uat4_3 (l : Launch) (Z : State) (a0 : Array Value) (hw : own_HW Z a0) (ws : List Jvm.Cond) (b : Addr) (k : ClassId) (x0 x1 : Int32) (x2 x3 : Int32) (x4 x5 : Int32) (x6 x7 : Int32) (fmt : Value) (h0 : Heap) (n0 : Nat) (O0 : Old Z n0 h0) (u0 : fmt.isRef = true) (u1 : Sta Z Z.heap "jdk/internal/util/Preconditions" "SIOOBE_FORMATTER" "Ljava/util/function/BiFunction;" fmt) (u2 : Sta Z Z.heap "java/lang/StringUTF16" "$assertionsDisabled" "Z" (.int 1)) (u3 : Sta Z Z.heap "java/lang/StringUTF16" "HI_BYTE_SHIFT" "I" (.int 0)) (u4 : Sta Z Z.heap "java/lang/StringUTF16" "LO_BYTE_SHIFT" "I" (.int 8)) (u5 : Arv Z h0 b k .byte (8 : Int32) [(.int x0), (.int x1), (.int x2), (.int x3), (.int x4), (.int x5), (.int x6), (.int x7)] (.int 0)) :
    own_Met l Z m_14 jdk_52_method_83_code 2 (some .char) ws (own_R 3 0 0 40) #[(.ref b), (.int 3)] h0 (Q_uat4_3 Z b k x0 x1 x2 x3 x4 x5 x6 x7 fmt h0 n0) := by
  refine own_open (plainFor_of_name pn_2) (fun pr_ en_ st_ me_ below meth_ co_ s₁ Bd hx hby hml hown hZ X0 e0 G gv gf => ?_)
  have N0 := Fr.nil n0
  refine gv (fun _ kQ => castTop (ef_4 me_ b (3 : Int32)) kQ) ?_
  show G (s₁.setTop (mkF me_ 0 #[.val (.ref b), .val (.int 3)] []))
  refine gv (fun _ kQ => XS.iloadN X0.here hx rfl (hb hby d21_0) rfl (XS.aloadN X0.here hx rfl (hb hby d21_1) rfl rfl kQ)) ?_
  obtain ⟨_, _, ⟨T275, L275, k275, n275⟩, -, X275, ⟨Lc275, hQ275, l275, y275, z275⟩, st275⟩ := Jvm.LawKit.callS X0 hx (y := m_15) hown (mvT hZ (t_93 hw)) (mvT hZ (t_94 hw)) (mvT hZ (t_50 hw)) (mvT hZ (t_95 hw)) (by decide) (backOf (W := 0) (rm_uci4 l Z a0 hw [] (3 : Int32) b k x0 x1 x2 x3 x4 x5 x6 x7 fmt h0 n0 O0 u0 u1 (by decide) (by decide) u5) hZ (t_95 hw) (t_50 hw) (by decide) (by decide)) (g := (mkF me_ 2 #[.val (.ref b), .val (.int 3)] [(.ref b), (.int 3)])) rfl (by rw [hml]; rfl) (argsL := [(.int 3), (.ref b)]) (rest := []) (lenOf pd_3 rfl) rfl (by show 2 * 0 + _ ≤ _; exact Nat.le_of_eq rfl) (hb hby d21_2) (fun _ _ => ⟨rfl, e0, (by decide : 0 + 0 ≤ _), (by decide : 0 + 0 ≤ _)⟩)
  dsimp only [Pt.U, Pt.locs, Pt.cells, Pt.slots] at X275 l275 y275 z275 st275 hQ275
  subst l275 y275 z275
  obtain ⟨rfl, Nq275, eq275⟩ := hQ275
  have N276 := Fr.app N0 Nq275
  refine gv st275 ?_
  refine gv (fun _ kQ => XS.aloadN X275.here hx rfl (hb hby d21_5) rfl rfl (XS.iloadN X275.here hx rfl (hb hby d21_6) rfl kQ)) ?_
  show G (T275.setTop (mkF me_ 7 #[.val (.ref b), .val (.int 3)] [(.int 3), (.ref b)]))
  obtain ⟨_, _, ⟨T277, L277, k277, n277⟩, -, X277, ⟨Lc277, hQ277, l277, y277, z277⟩, st277⟩ := Jvm.LawKit.callS X275 hx (y := m_19) hown (mvT hZ (t_74 hw)) (mvT hZ (t_75 hw)) (mvT hZ (t_50 hw)) (mvT hZ (t_76 hw)) (by decide) (backOf (W := 0) (rm_getc4_3 l Z a0 hw [] b k x0 x1 x2 x3 x4 x5 x6 x7 h0 n0 O0 u2 u3 u4 u5) hZ (t_76 hw) (t_50 hw) (by decide) (by decide)) (g := (mkF me_ 7 #[.val (.ref b), .val (.int 3)] [(.int 3), (.ref b)])) rfl (by rw [hml]; rfl) (argsL := [(.ref b), (.int 3)]) (rest := []) (lenOf pd_4 rfl) rfl (by show 2 * 0 + _ ≤ _; exact Nat.le_of_eq rfl) (hb hby d21_7) (fun _ _ => ⟨rfl, eq275, (by decide : 0 + 0 ≤ _), (by decide : 0 + 0 ≤ _)⟩)
  dsimp only [Pt.U, Pt.locs, Pt.cells, Pt.slots] at X277 l277 y277 z277 st277 hQ277
  subst l277 y277 z277
  obtain ⟨rfl, Nq277, eq277⟩ := hQ277
  have N278 := Fr.app N276 Nq277
  refine gv st277 ?_
  refine gf _ (own_ret X277 Bd.notSynchronized (v := some (.int (own_gc x6 x7))) (own_rv Bd.returns) ?_ (by decide) (by decide) (fun fs hr => retN X277 hx (t := .char) Bd.returns (by simp) (hb hby d21_10) (by rw [(own_gcn _ _)]; exact hr)))
  show Q_uat4_3 Z b k x0 x1 x2 x3 x4 x5 x6 x7 fmt h0 n0 _ T277.heap _
  rw [eq277]
  exact ⟨rfl, N278, rfl⟩
def Q_put8_3 (Z : State) (b : Addr) (c : Int32) (k : ClassId) (x0 x1 : Int32) (x2 x3 : Int32) (x4 x5 : Int32) (x6 x7 : Int32) (h0 : Heap) (n0 : Nat) (v : Option Value) (h : Heap) (L : List Loc) : Prop := v = none ∧ Fr n0 L ∧ Keep h0 h [b] ∧ (Arv Z h b k .byte (8 : Int32) [(.int x0), (.int x1), (.int x2), (.int x3), (.int x4), (.int x5), (.int ((c >>> ((0 : Int32) &&& 31)).toInt8.toInt32)), (.int ((c >>> ((8 : Int32) &&& 31)).toInt8.toInt32))] (.int 0))
theorem rm_put8_3 (l : Launch) (Z : State) (a0 : Array Value) (hw : own_HW Z a0) (ws : List Jvm.Cond) (b : Addr) (c : Int32) (k : ClassId) (x0 x1 : Int32) (x2 x3 : Int32) (x4 x5 : Int32) (x6 x7 : Int32) (h0 : Heap) (n0 : Nat) (O0 : Old Z n0 h0) (u0 : Sta Z Z.heap "java/lang/StringUTF16" "$assertionsDisabled" "Z" (.int 1)) (u1 : Sta Z Z.heap "java/lang/StringUTF16" "HI_BYTE_SHIFT" "I" (.int 0)) (u2 : Sta Z Z.heap "java/lang/StringUTF16" "LO_BYTE_SHIFT" "I" (.int 8)) (u3 : Arv Z h0 b k .byte (8 : Int32) [(.int x0), (.int x1), (.int x2), (.int x3), (.int x4), (.int x5), (.int x6), (.int x7)] (.int 0)) (u4 : n0 ≤ b) :
    own_Met l Z m_23 jdk_52_method_4_code 3 none ws (own_R 0 0 0 0) #[(.ref b), (.int 3), (.int c)] h0 (Q_put8_3 Z b c k x0 x1 x2 x3 x4 x5 x6 x7 h0 n0) := by
  refine own_open (plainFor_of_name pn_2) (fun pr_ en_ st_ me_ below meth_ co_ s₁ Bd hx hby hml hown hZ X0 e0 G gv gf => ?_)
  have N0 := Fr.nil n0
  have K0 := Keep.refl h0 [b]
  refine gv (fun _ kQ => castTop (ef_5 me_ b (3 : Int32) c) kQ) ?_
  show G (s₁.setTop (mkF me_ 0 #[.val (.ref b), .val (.int 3), .val (.int c)] []))
  obtain ⟨T279, X279, e279, st279⟩ := getS2 X0 hx hZ hown (host := "") (Or.inl (t_71 hw)) Via.refl e0 (u0.ext O0.2) (g := (mkF me_ 0 #[.val (.ref b), .val (.int 3), .val (.int c)] [])) rfl (hb hby d16_0)
  refine gv st279 ?_
  refine gv (fun _ kQ => XS.ifYes X279.here hx rfl (pc0 := 3) (pc' := 28) rfl (hb hby d16_3) rfl ((if0 _ _).trans (feq (by decide : ¬ ((1 : Int32) = (0 : Int32)))).2) (by decide) (by decide) (XS.iloadN X279.here hx rfl (hb hby d16_28) rfl (XS.iconst X279.here hx rfl (hb hby d16_29) (XS.ishl X279.here hx rfl (hb hby d16_30) rfl kQ)))) ?_
  show G (T279.setTop (mkF me_ 31 #[.val (.ref b), .val (.int 3), .val (.int c)] [(.int ((3 : Int32) <<< ((1 : Int32) &&& 31)))]))
  rw [(by decide : ((3 : Int32) <<< ((1 : Int32) &&& 31)) = (6 : Int32))]
  refine gv (fun _ kQ => XS.istoreN X279.here hx rfl (hb hby d16_31) rfl (l' := #[.val (.ref b), .val (.int 6), .val (.int c)]) rfl (XS.aloadN X279.here hx rfl (hb hby d16_32) rfl rfl (XS.iloadN X279.here hx rfl (hb hby d16_33) rfl (XS.iinc X279.here hx rfl (hb hby d16_34) rfl (l' := #[.val (.ref b), .val (.int ((6 : Int32) + (1 : Int32))), .val (.int c)]) rfl kQ)))) ?_
  show G (T279.setTop (mkF me_ 37 #[.val (.ref b), .val (.int ((6 : Int32) + (1 : Int32))), .val (.int c)] [(.int 6), (.ref b)]))
  rw [(by decide : ((6 : Int32) + (1 : Int32)) = (7 : Int32))]
  refine gv (fun _ kQ => XS.iloadN X279.here hx rfl (hb hby d16_37) rfl kQ) ?_
  obtain ⟨T280, X280, e280, st280⟩ := getS2 X279 hx hZ hown (host := "") (Or.inl (t_72 hw)) Via.refl e279 (u1.ext O0.2) (g := (mkF me_ 38 #[.val (.ref b), .val (.int 7), .val (.int c)] [(.int c), (.int 6), (.ref b)])) rfl (hb hby d16_38)
  refine gv st280 ?_
  refine gv (fun _ kQ => XS.ishr X280.here hx rfl (hb hby d16_41) rfl (XS.i2b X280.here hx rfl (hb hby d16_42) rfl kQ)) ?_
  show G (T280.setTop (mkF me_ 43 #[.val (.ref b), .val (.int 7), .val (.int c)] [(.int ((c >>> ((0 : Int32) &&& 31)).toInt8.toInt32)), (.int 6), (.ref b)]))
  obtain ⟨cl281, Ar281, q281, S281, n281, H281, G281⟩ := (id u3)
  have in281 : ¬ ((6 : Int32) < 0 ∨ cl281.slots.size ≤ ((6 : Int32)).toNatClampNeg) := inb_of S281 ⟨by decide, by decide⟩
  obtain ⟨T281, h281, X281, e281, W281, st281⟩ := stB X280 hx hZ e280 Ar281 (j := (6 : Int32)) in281 (g := (mkF me_ 43 #[.val (.ref b), .val (.int 7), .val (.int c)] [(.int ((c >>> ((0 : Int32) &&& 31)).toInt8.toInt32)), (.int 6), (.ref b)])) rfl rfl (hb hby d16_43)
  have W281 : Wr h0 h281 b ((6 : Int32)).toNatClampNeg (.int ((c >>> ((0 : Int32) &&& 31)).toInt8.toInt32)) := by have z := W281; rw [(own_narB _)] at z; exact z
  refine gv st281 ?_
  have O283 := O0.wr W281 u4
  have K284 := K0.wr W281 (Or.inl (List.mem_of_getElem? (i := 0) rfl))
  have N285 := Fr.snoc X281 N0 u4
  have f282 : Arv Z h281 b k .byte (8 : Int32) [(.int x0), (.int x1), (.int x2), (.int x3), (.int x4), (.int x5), (.int ((c >>> ((0 : Int32) &&& 31)).toInt8.toInt32)), (.int x7)] (.int 0) := Arv.set Ar281 q281 S281 n281 H281 G281 (fits_nar_byte _) W281 6 rfl (Nat.le_of_ble_eq_true rfl)
  refine gv (fun _ kQ => XS.aloadN X281.here hx rfl (hb hby d16_44) rfl rfl (XS.iloadN X281.here hx rfl (hb hby d16_45) rfl (XS.iloadN X281.here hx rfl (hb hby d16_46) rfl kQ))) ?_
  show G (T281.setTop (mkF me_ 47 #[.val (.ref b), .val (.int 7), .val (.int c)] [(.int c), (.int 7), (.ref b)]))
  obtain ⟨T286, X286, e286, st286⟩ := getS2 X281 hx hZ hown (host := "") (Or.inl (t_73 hw)) Via.refl e281 (u2.ext O283.2) (g := (mkF me_ 47 #[.val (.ref b), .val (.int 7), .val (.int c)] [(.int c), (.int 7), (.ref b)])) rfl (hb hby d16_47)
  refine gv st286 ?_
  refine gv (fun _ kQ => XS.ishr X286.here hx rfl (hb hby d16_50) rfl (XS.i2b X286.here hx rfl (hb hby d16_51) rfl kQ)) ?_
  show G (T286.setTop (mkF me_ 52 #[.val (.ref b), .val (.int 7), .val (.int c)] [(.int ((c >>> ((8 : Int32) &&& 31)).toInt8.toInt32)), (.int 7), (.ref b)]))
  obtain ⟨cl287, Ar287, q287, S287, n287, H287, G287⟩ := (id f282)
  have in287 : ¬ ((7 : Int32) < 0 ∨ cl287.slots.size ≤ ((7 : Int32)).toNatClampNeg) := inb_of S287 ⟨by decide, by decide⟩
  obtain ⟨T287, h287, X287, e287, W287, st287⟩ := stB X286 hx hZ e286 Ar287 (j := (7 : Int32)) in287 (g := (mkF me_ 52 #[.val (.ref b), .val (.int 7), .val (.int c)] [(.int ((c >>> ((8 : Int32) &&& 31)).toInt8.toInt32)), (.int 7), (.ref b)])) rfl rfl (hb hby d16_52)
  have W287 : Wr h281 h287 b ((7 : Int32)).toNatClampNeg (.int ((c >>> ((8 : Int32) &&& 31)).toInt8.toInt32)) := by have z := W287; rw [(own_narB _)] at z; exact z
  refine gv st287 ?_
  have K290 := K284.wr W287 (Or.inl (List.mem_of_getElem? (i := 0) rfl))
  have N291 := Fr.snoc X287 N285 u4
  have f288 : Arv Z h287 b k .byte (8 : Int32) [(.int x0), (.int x1), (.int x2), (.int x3), (.int x4), (.int x5), (.int ((c >>> ((0 : Int32) &&& 31)).toInt8.toInt32)), (.int ((c >>> ((8 : Int32) &&& 31)).toInt8.toInt32))] (.int 0) := Arv.set Ar287 q287 S287 n287 H287 G287 (fits_nar_byte _) W287 7 rfl (Nat.le_of_ble_eq_true rfl)
  refine gf _ (own_ret X287 Bd.notSynchronized (v := none) (fun _ => rfl) ?_ (by decide) (by decide) (fun fs hr => X287.returnOut hx Bd.returns (hb hby d16_53) hr))
  show Q_put8_3 Z b c k x0 x1 x2 x3 x4 x5 x6 x7 h0 n0 _ T287.heap _
  rw [e287]
  exact ⟨rfl, N291, K290, f288⟩
theorem d8_0 : decode jdk_42_method_54_code 0 = .ok (.aload_n 0, 1) := by decide +kernel
theorem d8_1 : decode jdk_42_method_54_code 1 = .ok (.getfield 9, 3) := by decide +kernel
theorem d8_4 : decode jdk_42_method_54_code 4 = .ok (.arraylength, 1) := by decide +kernel
theorem d8_5 : decode jdk_42_method_54_code 5 = .ok (.aload_n 0, 1) := by decide +kernel
theorem d8_6 : decode jdk_42_method_54_code 6 = .ok (.invokevirtual 335, 3) := by decide +kernel
theorem pd_5 : parseMethodDescriptor "()B" = some ⟨[], some .byte⟩ := by decide +kernel
theorem d8_9 : decode jdk_42_method_54_code 9 = .ok (.ishr, 1) := by decide +kernel
theorem d8_10 : decode jdk_42_method_54_code 10 = .ok (.ireturn, 1) := by decide +kernel
def Q_xlen (Z : State) (a : Addr) (ln c0 : Int32) (c1 c2 : Int32) (c3 cs : Int32) (h0 : Heap) (n0 : Nat) (v : Option Value) (h : Heap) (L : List Loc) : Prop := v = some (.int ln) ∧ Fr n0 L ∧ h = h0
theorem rm_xlen (l : Launch) (Z : State) (a0 : Array Value) (hw : own_HW Z a0) (ws : List Jvm.Cond) (a : Addr) (ln c0 : Int32) (c1 c2 : Int32) (c3 cs : Int32) (h0 : Heap) (n0 : Nat) (O0 : Old Z n0 h0) (u0 : Sta Z Z.heap "java/lang/String" "COMPACT_STRINGS" "Z" (.int cs)) (u1 : ¬ (cs = (0 : Int32))) (u2 : Exa Z h0 a "java/lang/String") (u3 : own_SX Z h0 a ln c0 c1 c2 c3) :
    own_Met l Z m_12 jdk_42_method_54_code 1 (some .int) ws (own_R 1 0 0 13) #[(.ref a)] h0 (Q_xlen Z a ln c0 c1 c2 c3 cs h0 n0) := by
  refine own_open (plainFor_of_name pn_0) (fun pr_ en_ st_ me_ below meth_ co_ s₁ Bd hx hby hml hown hZ X0 e0 G gv gf => ?_)
  have N0 := Fr.nil n0
  refine gv (fun _ kQ => castTop (ef_0 me_ a) kQ) ?_
  show G (s₁.setTop (mkF me_ 0 #[.val (.ref a)] []))
  rcases u3 with ⟨q292, b292, k292, E292, C292, V292, A292⟩ | ⟨q292, ⟨b292, k292, E292, C292, V292, A292, l292_0⟩ | ⟨b292, k292, E292, C292, V292, A292⟩, m292_0⟩ | ⟨q292, ⟨b292, k292, E292, C292, V292, A292, l292_0, l292_1⟩ | ⟨b292, k292, E292, C292, V292, A292⟩, m292_0, m292_1⟩ | ⟨q292, ⟨b292, k292, E292, C292, V292, A292, l292_0, l292_1, l292_2⟩ | ⟨b292, k292, E292, C292, V292, A292⟩, m292_0, m292_1, m292_2⟩ | ⟨q292, ⟨b292, k292, E292, C292, V292, A292, l292_0, l292_1, l292_2, l292_3⟩ | ⟨b292, k292, E292, C292, V292, A292⟩, m292_0, m292_1, m292_2, m292_3⟩
  · skip
    refine gv (fun _ kQ => XS.aloadN X0.here hx rfl (hb hby d8_0) rfl rfl kQ) ?_
    obtain ⟨T293, X293, e293, st293⟩ := getF X0 hx hZ hown (host := "") (Or.inl (t_31 hw)) Via.refl e0 V292 (g := (mkF me_ 1 #[.val (.ref a)] [(.ref a)])) rfl rfl (hb hby d8_1)
    refine gv st293 ?_
    obtain ⟨cl294, Ar294, -, S294, n294, -, -⟩ := (id A292)
    refine gv (X293.arraylength hx (by rw [e293]; exact Ar294.1) (State.isArrayOf_alike hZ.alike Ar294.2.1) (g := (mkF me_ 4 #[.val (.ref a)] [(.ref b292)])) rfl rfl (hb hby d8_4)) ?_
    rw [len_of S294 n294]
    refine gv (fun _ kQ => XS.aloadN X293.here hx rfl (hb hby d8_5) rfl rfl kQ) ?_
    obtain ⟨cq295, kq295, q295a, q295b, q295c⟩ := isOf hZ e293 E292
    obtain ⟨_, _, ⟨T295, L295, k295, n295⟩, -, X295, ⟨Lc295, hQ295, l295, y295, z295⟩, st295⟩ := X293.virtualBack hx (y := m_10) (z := m_10) hown (mvT hZ (t_42 hw)) (mvT hZ (t_43 hw)) (notFace_of_selects (args := #[]) (mvT hZ (t_45 hw))) (mvT hZ (t_45 hw)) (mvT hZ (t_44 hw)) (by decide) (backOf (W := 1) (rm_coder0 l Z a0 hw [] a cs h0 n0 O0 u0 u1 C292) hZ (t_46 hw) (t_13 hw) (by decide) (by decide)) q295a q295c (g := (mkF me_ 6 #[.val (.ref a)] [(.ref a), (.int 0)])) rfl (by rw [hml]; rfl) (Steps.refl _) (argsL := []) (rest := [(.int 0)]) (lenOf pd_5 rfl) rfl (by show 2 * 0 + _ ≤ _; exact Nat.le_of_eq rfl) (hb hby d8_6) (fun _ _ => ⟨rfl, e293, (by decide : 0 + 0 ≤ _), (by decide : 0 + 0 ≤ _)⟩)
    dsimp only [Pt.U, Pt.locs, Pt.cells, Pt.slots] at X295 l295 y295 z295 st295 hQ295
    subst l295 y295 z295
    obtain ⟨rfl, Nq295, eq295⟩ := hQ295
    have N296 := Fr.app N0 Nq295
    refine gv (fun _ kQ => st295.trans (XS.ishr X295.here hx rfl (hb hby d8_9) rfl kQ)) ?_
    show G (T295.setTop (mkF me_ 10 #[.val (.ref a)] [(.int ((0 : Int32) >>> ((0 : Int32) &&& 31)))]))
    rw [(by decide : ((0 : Int32) >>> ((0 : Int32) &&& 31)) = (0 : Int32))]
    refine gf _ (own_ret X295 Bd.notSynchronized (v := some (.int 0)) (own_rv Bd.returns) ?_ (by decide) (by decide) (fun fs hr => retOut X295 hx (t := .int) Bd.returns rfl (Or.inl ⟨rfl, Or.inl rfl, _, rfl⟩) (hb hby d8_10) hr))
    show Q_xlen Z a ln c0 c1 c2 c3 cs h0 n0 _ T295.heap _
    rw [eq295]
    exact ⟨(own_sv q292), N296, rfl⟩
  · skip
    refine gv (fun _ kQ => XS.aloadN X0.here hx rfl (hb hby d8_0) rfl rfl kQ) ?_
    obtain ⟨T297, X297, e297, st297⟩ := getF X0 hx hZ hown (host := "") (Or.inl (t_31 hw)) Via.refl e0 V292 (g := (mkF me_ 1 #[.val (.ref a)] [(.ref a)])) rfl rfl (hb hby d8_1)
    refine gv st297 ?_
    obtain ⟨cl298, Ar298, -, S298, n298, -, -⟩ := (id A292)
    refine gv (X297.arraylength hx (by rw [e297]; exact Ar298.1) (State.isArrayOf_alike hZ.alike Ar298.2.1) (g := (mkF me_ 4 #[.val (.ref a)] [(.ref b292)])) rfl rfl (hb hby d8_4)) ?_
    rw [len_of S298 n298]
    refine gv (fun _ kQ => XS.aloadN X297.here hx rfl (hb hby d8_5) rfl rfl kQ) ?_
    obtain ⟨cq299, kq299, q299a, q299b, q299c⟩ := isOf hZ e297 E292
    obtain ⟨_, _, ⟨T299, L299, k299, n299⟩, -, X299, ⟨Lc299, hQ299, l299, y299, z299⟩, st299⟩ := X297.virtualBack hx (y := m_10) (z := m_10) hown (mvT hZ (t_42 hw)) (mvT hZ (t_43 hw)) (notFace_of_selects (args := #[]) (mvT hZ (t_45 hw))) (mvT hZ (t_45 hw)) (mvT hZ (t_44 hw)) (by decide) (backOf (W := 1) (rm_coder0 l Z a0 hw [] a cs h0 n0 O0 u0 u1 C292) hZ (t_46 hw) (t_13 hw) (by decide) (by decide)) q299a q299c (g := (mkF me_ 6 #[.val (.ref a)] [(.ref a), (.int 1)])) rfl (by rw [hml]; rfl) (Steps.refl _) (argsL := []) (rest := [(.int 1)]) (lenOf pd_5 rfl) rfl (by show 2 * 0 + _ ≤ _; exact Nat.le_of_eq rfl) (hb hby d8_6) (fun _ _ => ⟨rfl, e297, (by decide : 0 + 0 ≤ _), (by decide : 0 + 0 ≤ _)⟩)
    dsimp only [Pt.U, Pt.locs, Pt.cells, Pt.slots] at X299 l299 y299 z299 st299 hQ299
    subst l299 y299 z299
    obtain ⟨rfl, Nq299, eq299⟩ := hQ299
    have N300 := Fr.app N0 Nq299
    refine gv (fun _ kQ => st299.trans (XS.ishr X299.here hx rfl (hb hby d8_9) rfl kQ)) ?_
    show G (T299.setTop (mkF me_ 10 #[.val (.ref a)] [(.int ((1 : Int32) >>> ((0 : Int32) &&& 31)))]))
    rw [(by decide : ((1 : Int32) >>> ((0 : Int32) &&& 31)) = (1 : Int32))]
    refine gf _ (own_ret X299 Bd.notSynchronized (v := some (.int 1)) (own_rv Bd.returns) ?_ (by decide) (by decide) (fun fs hr => retOut X299 hx (t := .int) Bd.returns rfl (Or.inl ⟨rfl, Or.inl rfl, _, rfl⟩) (hb hby d8_10) hr))
    show Q_xlen Z a ln c0 c1 c2 c3 cs h0 n0 _ T299.heap _
    rw [eq299]
    exact ⟨(own_sv q292), N300, rfl⟩
  · skip
    refine gv (fun _ kQ => XS.aloadN X0.here hx rfl (hb hby d8_0) rfl rfl kQ) ?_
    obtain ⟨T301, X301, e301, st301⟩ := getF X0 hx hZ hown (host := "") (Or.inl (t_31 hw)) Via.refl e0 V292 (g := (mkF me_ 1 #[.val (.ref a)] [(.ref a)])) rfl rfl (hb hby d8_1)
    refine gv st301 ?_
    obtain ⟨cl302, Ar302, -, S302, n302, -, -⟩ := (id A292)
    refine gv (X301.arraylength hx (by rw [e301]; exact Ar302.1) (State.isArrayOf_alike hZ.alike Ar302.2.1) (g := (mkF me_ 4 #[.val (.ref a)] [(.ref b292)])) rfl rfl (hb hby d8_4)) ?_
    rw [len_of S302 n302]
    refine gv (fun _ kQ => XS.aloadN X301.here hx rfl (hb hby d8_5) rfl rfl kQ) ?_
    obtain ⟨cq303, kq303, q303a, q303b, q303c⟩ := isOf hZ e301 E292
    obtain ⟨_, _, ⟨T303, L303, k303, n303⟩, -, X303, ⟨Lc303, hQ303, l303, y303, z303⟩, st303⟩ := X301.virtualBack hx (y := m_10) (z := m_10) hown (mvT hZ (t_42 hw)) (mvT hZ (t_43 hw)) (notFace_of_selects (args := #[]) (mvT hZ (t_45 hw))) (mvT hZ (t_45 hw)) (mvT hZ (t_44 hw)) (by decide) (backOf (W := 1) (rm_coder1 l Z a0 hw [] a cs h0 n0 O0 u0 u1 C292) hZ (t_46 hw) (t_13 hw) (by decide) (by decide)) q303a q303c (g := (mkF me_ 6 #[.val (.ref a)] [(.ref a), (.int 2)])) rfl (by rw [hml]; rfl) (Steps.refl _) (argsL := []) (rest := [(.int 2)]) (lenOf pd_5 rfl) rfl (by show 2 * 0 + _ ≤ _; exact Nat.le_of_eq rfl) (hb hby d8_6) (fun _ _ => ⟨rfl, e301, (by decide : 0 + 0 ≤ _), (by decide : 0 + 0 ≤ _)⟩)
    dsimp only [Pt.U, Pt.locs, Pt.cells, Pt.slots] at X303 l303 y303 z303 st303 hQ303
    subst l303 y303 z303
    obtain ⟨rfl, Nq303, eq303⟩ := hQ303
    have N304 := Fr.app N0 Nq303
    refine gv (fun _ kQ => st303.trans (XS.ishr X303.here hx rfl (hb hby d8_9) rfl kQ)) ?_
    show G (T303.setTop (mkF me_ 10 #[.val (.ref a)] [(.int ((2 : Int32) >>> ((1 : Int32) &&& 31)))]))
    rw [(by decide : ((2 : Int32) >>> ((1 : Int32) &&& 31)) = (1 : Int32))]
    refine gf _ (own_ret X303 Bd.notSynchronized (v := some (.int 1)) (own_rv Bd.returns) ?_ (by decide) (by decide) (fun fs hr => retOut X303 hx (t := .int) Bd.returns rfl (Or.inl ⟨rfl, Or.inl rfl, _, rfl⟩) (hb hby d8_10) hr))
    show Q_xlen Z a ln c0 c1 c2 c3 cs h0 n0 _ T303.heap _
    rw [eq303]
    exact ⟨(own_sv q292), N304, rfl⟩
  · skip
    refine gv (fun _ kQ => XS.aloadN X0.here hx rfl (hb hby d8_0) rfl rfl kQ) ?_
    obtain ⟨T305, X305, e305, st305⟩ := getF X0 hx hZ hown (host := "") (Or.inl (t_31 hw)) Via.refl e0 V292 (g := (mkF me_ 1 #[.val (.ref a)] [(.ref a)])) rfl rfl (hb hby d8_1)
    refine gv st305 ?_
    obtain ⟨cl306, Ar306, -, S306, n306, -, -⟩ := (id A292)
    refine gv (X305.arraylength hx (by rw [e305]; exact Ar306.1) (State.isArrayOf_alike hZ.alike Ar306.2.1) (g := (mkF me_ 4 #[.val (.ref a)] [(.ref b292)])) rfl rfl (hb hby d8_4)) ?_
    rw [len_of S306 n306]
    refine gv (fun _ kQ => XS.aloadN X305.here hx rfl (hb hby d8_5) rfl rfl kQ) ?_
    obtain ⟨cq307, kq307, q307a, q307b, q307c⟩ := isOf hZ e305 E292
    obtain ⟨_, _, ⟨T307, L307, k307, n307⟩, -, X307, ⟨Lc307, hQ307, l307, y307, z307⟩, st307⟩ := X305.virtualBack hx (y := m_10) (z := m_10) hown (mvT hZ (t_42 hw)) (mvT hZ (t_43 hw)) (notFace_of_selects (args := #[]) (mvT hZ (t_45 hw))) (mvT hZ (t_45 hw)) (mvT hZ (t_44 hw)) (by decide) (backOf (W := 1) (rm_coder0 l Z a0 hw [] a cs h0 n0 O0 u0 u1 C292) hZ (t_46 hw) (t_13 hw) (by decide) (by decide)) q307a q307c (g := (mkF me_ 6 #[.val (.ref a)] [(.ref a), (.int 2)])) rfl (by rw [hml]; rfl) (Steps.refl _) (argsL := []) (rest := [(.int 2)]) (lenOf pd_5 rfl) rfl (by show 2 * 0 + _ ≤ _; exact Nat.le_of_eq rfl) (hb hby d8_6) (fun _ _ => ⟨rfl, e305, (by decide : 0 + 0 ≤ _), (by decide : 0 + 0 ≤ _)⟩)
    dsimp only [Pt.U, Pt.locs, Pt.cells, Pt.slots] at X307 l307 y307 z307 st307 hQ307
    subst l307 y307 z307
    obtain ⟨rfl, Nq307, eq307⟩ := hQ307
    have N308 := Fr.app N0 Nq307
    refine gv (fun _ kQ => st307.trans (XS.ishr X307.here hx rfl (hb hby d8_9) rfl kQ)) ?_
    show G (T307.setTop (mkF me_ 10 #[.val (.ref a)] [(.int ((2 : Int32) >>> ((0 : Int32) &&& 31)))]))
    rw [(by decide : ((2 : Int32) >>> ((0 : Int32) &&& 31)) = (2 : Int32))]
    refine gf _ (own_ret X307 Bd.notSynchronized (v := some (.int 2)) (own_rv Bd.returns) ?_ (by decide) (by decide) (fun fs hr => retOut X307 hx (t := .int) Bd.returns rfl (Or.inl ⟨rfl, Or.inl rfl, _, rfl⟩) (hb hby d8_10) hr))
    show Q_xlen Z a ln c0 c1 c2 c3 cs h0 n0 _ T307.heap _
    rw [eq307]
    exact ⟨(own_sv q292), N308, rfl⟩
  · skip
    refine gv (fun _ kQ => XS.aloadN X0.here hx rfl (hb hby d8_0) rfl rfl kQ) ?_
    obtain ⟨T309, X309, e309, st309⟩ := getF X0 hx hZ hown (host := "") (Or.inl (t_31 hw)) Via.refl e0 V292 (g := (mkF me_ 1 #[.val (.ref a)] [(.ref a)])) rfl rfl (hb hby d8_1)
    refine gv st309 ?_
    obtain ⟨cl310, Ar310, -, S310, n310, -, -⟩ := (id A292)
    refine gv (X309.arraylength hx (by rw [e309]; exact Ar310.1) (State.isArrayOf_alike hZ.alike Ar310.2.1) (g := (mkF me_ 4 #[.val (.ref a)] [(.ref b292)])) rfl rfl (hb hby d8_4)) ?_
    rw [len_of S310 n310]
    refine gv (fun _ kQ => XS.aloadN X309.here hx rfl (hb hby d8_5) rfl rfl kQ) ?_
    obtain ⟨cq311, kq311, q311a, q311b, q311c⟩ := isOf hZ e309 E292
    obtain ⟨_, _, ⟨T311, L311, k311, n311⟩, -, X311, ⟨Lc311, hQ311, l311, y311, z311⟩, st311⟩ := X309.virtualBack hx (y := m_10) (z := m_10) hown (mvT hZ (t_42 hw)) (mvT hZ (t_43 hw)) (notFace_of_selects (args := #[]) (mvT hZ (t_45 hw))) (mvT hZ (t_45 hw)) (mvT hZ (t_44 hw)) (by decide) (backOf (W := 1) (rm_coder1 l Z a0 hw [] a cs h0 n0 O0 u0 u1 C292) hZ (t_46 hw) (t_13 hw) (by decide) (by decide)) q311a q311c (g := (mkF me_ 6 #[.val (.ref a)] [(.ref a), (.int 4)])) rfl (by rw [hml]; rfl) (Steps.refl _) (argsL := []) (rest := [(.int 4)]) (lenOf pd_5 rfl) rfl (by show 2 * 0 + _ ≤ _; exact Nat.le_of_eq rfl) (hb hby d8_6) (fun _ _ => ⟨rfl, e309, (by decide : 0 + 0 ≤ _), (by decide : 0 + 0 ≤ _)⟩)
    dsimp only [Pt.U, Pt.locs, Pt.cells, Pt.slots] at X311 l311 y311 z311 st311 hQ311
    subst l311 y311 z311
    obtain ⟨rfl, Nq311, eq311⟩ := hQ311
    have N312 := Fr.app N0 Nq311
    refine gv (fun _ kQ => st311.trans (XS.ishr X311.here hx rfl (hb hby d8_9) rfl kQ)) ?_
    show G (T311.setTop (mkF me_ 10 #[.val (.ref a)] [(.int ((4 : Int32) >>> ((1 : Int32) &&& 31)))]))
    rw [(by decide : ((4 : Int32) >>> ((1 : Int32) &&& 31)) = (2 : Int32))]
    refine gf _ (own_ret X311 Bd.notSynchronized (v := some (.int 2)) (own_rv Bd.returns) ?_ (by decide) (by decide) (fun fs hr => retOut X311 hx (t := .int) Bd.returns rfl (Or.inl ⟨rfl, Or.inl rfl, _, rfl⟩) (hb hby d8_10) hr))
    show Q_xlen Z a ln c0 c1 c2 c3 cs h0 n0 _ T311.heap _
    rw [eq311]
    exact ⟨(own_sv q292), N312, rfl⟩
  · skip
    refine gv (fun _ kQ => XS.aloadN X0.here hx rfl (hb hby d8_0) rfl rfl kQ) ?_
    obtain ⟨T313, X313, e313, st313⟩ := getF X0 hx hZ hown (host := "") (Or.inl (t_31 hw)) Via.refl e0 V292 (g := (mkF me_ 1 #[.val (.ref a)] [(.ref a)])) rfl rfl (hb hby d8_1)
    refine gv st313 ?_
    obtain ⟨cl314, Ar314, -, S314, n314, -, -⟩ := (id A292)
    refine gv (X313.arraylength hx (by rw [e313]; exact Ar314.1) (State.isArrayOf_alike hZ.alike Ar314.2.1) (g := (mkF me_ 4 #[.val (.ref a)] [(.ref b292)])) rfl rfl (hb hby d8_4)) ?_
    rw [len_of S314 n314]
    refine gv (fun _ kQ => XS.aloadN X313.here hx rfl (hb hby d8_5) rfl rfl kQ) ?_
    obtain ⟨cq315, kq315, q315a, q315b, q315c⟩ := isOf hZ e313 E292
    obtain ⟨_, _, ⟨T315, L315, k315, n315⟩, -, X315, ⟨Lc315, hQ315, l315, y315, z315⟩, st315⟩ := X313.virtualBack hx (y := m_10) (z := m_10) hown (mvT hZ (t_42 hw)) (mvT hZ (t_43 hw)) (notFace_of_selects (args := #[]) (mvT hZ (t_45 hw))) (mvT hZ (t_45 hw)) (mvT hZ (t_44 hw)) (by decide) (backOf (W := 1) (rm_coder0 l Z a0 hw [] a cs h0 n0 O0 u0 u1 C292) hZ (t_46 hw) (t_13 hw) (by decide) (by decide)) q315a q315c (g := (mkF me_ 6 #[.val (.ref a)] [(.ref a), (.int 3)])) rfl (by rw [hml]; rfl) (Steps.refl _) (argsL := []) (rest := [(.int 3)]) (lenOf pd_5 rfl) rfl (by show 2 * 0 + _ ≤ _; exact Nat.le_of_eq rfl) (hb hby d8_6) (fun _ _ => ⟨rfl, e313, (by decide : 0 + 0 ≤ _), (by decide : 0 + 0 ≤ _)⟩)
    dsimp only [Pt.U, Pt.locs, Pt.cells, Pt.slots] at X315 l315 y315 z315 st315 hQ315
    subst l315 y315 z315
    obtain ⟨rfl, Nq315, eq315⟩ := hQ315
    have N316 := Fr.app N0 Nq315
    refine gv (fun _ kQ => st315.trans (XS.ishr X315.here hx rfl (hb hby d8_9) rfl kQ)) ?_
    show G (T315.setTop (mkF me_ 10 #[.val (.ref a)] [(.int ((3 : Int32) >>> ((0 : Int32) &&& 31)))]))
    rw [(by decide : ((3 : Int32) >>> ((0 : Int32) &&& 31)) = (3 : Int32))]
    refine gf _ (own_ret X315 Bd.notSynchronized (v := some (.int 3)) (own_rv Bd.returns) ?_ (by decide) (by decide) (fun fs hr => retOut X315 hx (t := .int) Bd.returns rfl (Or.inl ⟨rfl, Or.inl rfl, _, rfl⟩) (hb hby d8_10) hr))
    show Q_xlen Z a ln c0 c1 c2 c3 cs h0 n0 _ T315.heap _
    rw [eq315]
    exact ⟨(own_sv q292), N316, rfl⟩
  · skip
    refine gv (fun _ kQ => XS.aloadN X0.here hx rfl (hb hby d8_0) rfl rfl kQ) ?_
    obtain ⟨T317, X317, e317, st317⟩ := getF X0 hx hZ hown (host := "") (Or.inl (t_31 hw)) Via.refl e0 V292 (g := (mkF me_ 1 #[.val (.ref a)] [(.ref a)])) rfl rfl (hb hby d8_1)
    refine gv st317 ?_
    obtain ⟨cl318, Ar318, -, S318, n318, -, -⟩ := (id A292)
    refine gv (X317.arraylength hx (by rw [e317]; exact Ar318.1) (State.isArrayOf_alike hZ.alike Ar318.2.1) (g := (mkF me_ 4 #[.val (.ref a)] [(.ref b292)])) rfl rfl (hb hby d8_4)) ?_
    rw [len_of S318 n318]
    refine gv (fun _ kQ => XS.aloadN X317.here hx rfl (hb hby d8_5) rfl rfl kQ) ?_
    obtain ⟨cq319, kq319, q319a, q319b, q319c⟩ := isOf hZ e317 E292
    obtain ⟨_, _, ⟨T319, L319, k319, n319⟩, -, X319, ⟨Lc319, hQ319, l319, y319, z319⟩, st319⟩ := X317.virtualBack hx (y := m_10) (z := m_10) hown (mvT hZ (t_42 hw)) (mvT hZ (t_43 hw)) (notFace_of_selects (args := #[]) (mvT hZ (t_45 hw))) (mvT hZ (t_45 hw)) (mvT hZ (t_44 hw)) (by decide) (backOf (W := 1) (rm_coder1 l Z a0 hw [] a cs h0 n0 O0 u0 u1 C292) hZ (t_46 hw) (t_13 hw) (by decide) (by decide)) q319a q319c (g := (mkF me_ 6 #[.val (.ref a)] [(.ref a), (.int 6)])) rfl (by rw [hml]; rfl) (Steps.refl _) (argsL := []) (rest := [(.int 6)]) (lenOf pd_5 rfl) rfl (by show 2 * 0 + _ ≤ _; exact Nat.le_of_eq rfl) (hb hby d8_6) (fun _ _ => ⟨rfl, e317, (by decide : 0 + 0 ≤ _), (by decide : 0 + 0 ≤ _)⟩)
    dsimp only [Pt.U, Pt.locs, Pt.cells, Pt.slots] at X319 l319 y319 z319 st319 hQ319
    subst l319 y319 z319
    obtain ⟨rfl, Nq319, eq319⟩ := hQ319
    have N320 := Fr.app N0 Nq319
    refine gv (fun _ kQ => st319.trans (XS.ishr X319.here hx rfl (hb hby d8_9) rfl kQ)) ?_
    show G (T319.setTop (mkF me_ 10 #[.val (.ref a)] [(.int ((6 : Int32) >>> ((1 : Int32) &&& 31)))]))
    rw [(by decide : ((6 : Int32) >>> ((1 : Int32) &&& 31)) = (3 : Int32))]
    refine gf _ (own_ret X319 Bd.notSynchronized (v := some (.int 3)) (own_rv Bd.returns) ?_ (by decide) (by decide) (fun fs hr => retOut X319 hx (t := .int) Bd.returns rfl (Or.inl ⟨rfl, Or.inl rfl, _, rfl⟩) (hb hby d8_10) hr))
    show Q_xlen Z a ln c0 c1 c2 c3 cs h0 n0 _ T319.heap _
    rw [eq319]
    exact ⟨(own_sv q292), N320, rfl⟩
  · skip
    refine gv (fun _ kQ => XS.aloadN X0.here hx rfl (hb hby d8_0) rfl rfl kQ) ?_
    obtain ⟨T321, X321, e321, st321⟩ := getF X0 hx hZ hown (host := "") (Or.inl (t_31 hw)) Via.refl e0 V292 (g := (mkF me_ 1 #[.val (.ref a)] [(.ref a)])) rfl rfl (hb hby d8_1)
    refine gv st321 ?_
    obtain ⟨cl322, Ar322, -, S322, n322, -, -⟩ := (id A292)
    refine gv (X321.arraylength hx (by rw [e321]; exact Ar322.1) (State.isArrayOf_alike hZ.alike Ar322.2.1) (g := (mkF me_ 4 #[.val (.ref a)] [(.ref b292)])) rfl rfl (hb hby d8_4)) ?_
    rw [len_of S322 n322]
    refine gv (fun _ kQ => XS.aloadN X321.here hx rfl (hb hby d8_5) rfl rfl kQ) ?_
    obtain ⟨cq323, kq323, q323a, q323b, q323c⟩ := isOf hZ e321 E292
    obtain ⟨_, _, ⟨T323, L323, k323, n323⟩, -, X323, ⟨Lc323, hQ323, l323, y323, z323⟩, st323⟩ := X321.virtualBack hx (y := m_10) (z := m_10) hown (mvT hZ (t_42 hw)) (mvT hZ (t_43 hw)) (notFace_of_selects (args := #[]) (mvT hZ (t_45 hw))) (mvT hZ (t_45 hw)) (mvT hZ (t_44 hw)) (by decide) (backOf (W := 1) (rm_coder0 l Z a0 hw [] a cs h0 n0 O0 u0 u1 C292) hZ (t_46 hw) (t_13 hw) (by decide) (by decide)) q323a q323c (g := (mkF me_ 6 #[.val (.ref a)] [(.ref a), (.int 4)])) rfl (by rw [hml]; rfl) (Steps.refl _) (argsL := []) (rest := [(.int 4)]) (lenOf pd_5 rfl) rfl (by show 2 * 0 + _ ≤ _; exact Nat.le_of_eq rfl) (hb hby d8_6) (fun _ _ => ⟨rfl, e321, (by decide : 0 + 0 ≤ _), (by decide : 0 + 0 ≤ _)⟩)
    dsimp only [Pt.U, Pt.locs, Pt.cells, Pt.slots] at X323 l323 y323 z323 st323 hQ323
    subst l323 y323 z323
    obtain ⟨rfl, Nq323, eq323⟩ := hQ323
    have N324 := Fr.app N0 Nq323
    refine gv (fun _ kQ => st323.trans (XS.ishr X323.here hx rfl (hb hby d8_9) rfl kQ)) ?_
    show G (T323.setTop (mkF me_ 10 #[.val (.ref a)] [(.int ((4 : Int32) >>> ((0 : Int32) &&& 31)))]))
    rw [(by decide : ((4 : Int32) >>> ((0 : Int32) &&& 31)) = (4 : Int32))]
    refine gf _ (own_ret X323 Bd.notSynchronized (v := some (.int 4)) (own_rv Bd.returns) ?_ (by decide) (by decide) (fun fs hr => retOut X323 hx (t := .int) Bd.returns rfl (Or.inl ⟨rfl, Or.inl rfl, _, rfl⟩) (hb hby d8_10) hr))
    show Q_xlen Z a ln c0 c1 c2 c3 cs h0 n0 _ T323.heap _
    rw [eq323]
    exact ⟨(own_sv q292), N324, rfl⟩
  · skip
    refine gv (fun _ kQ => XS.aloadN X0.here hx rfl (hb hby d8_0) rfl rfl kQ) ?_
    obtain ⟨T325, X325, e325, st325⟩ := getF X0 hx hZ hown (host := "") (Or.inl (t_31 hw)) Via.refl e0 V292 (g := (mkF me_ 1 #[.val (.ref a)] [(.ref a)])) rfl rfl (hb hby d8_1)
    refine gv st325 ?_
    obtain ⟨cl326, Ar326, -, S326, n326, -, -⟩ := (id A292)
    refine gv (X325.arraylength hx (by rw [e325]; exact Ar326.1) (State.isArrayOf_alike hZ.alike Ar326.2.1) (g := (mkF me_ 4 #[.val (.ref a)] [(.ref b292)])) rfl rfl (hb hby d8_4)) ?_
    rw [len_of S326 n326]
    refine gv (fun _ kQ => XS.aloadN X325.here hx rfl (hb hby d8_5) rfl rfl kQ) ?_
    obtain ⟨cq327, kq327, q327a, q327b, q327c⟩ := isOf hZ e325 E292
    obtain ⟨_, _, ⟨T327, L327, k327, n327⟩, -, X327, ⟨Lc327, hQ327, l327, y327, z327⟩, st327⟩ := X325.virtualBack hx (y := m_10) (z := m_10) hown (mvT hZ (t_42 hw)) (mvT hZ (t_43 hw)) (notFace_of_selects (args := #[]) (mvT hZ (t_45 hw))) (mvT hZ (t_45 hw)) (mvT hZ (t_44 hw)) (by decide) (backOf (W := 1) (rm_coder1 l Z a0 hw [] a cs h0 n0 O0 u0 u1 C292) hZ (t_46 hw) (t_13 hw) (by decide) (by decide)) q327a q327c (g := (mkF me_ 6 #[.val (.ref a)] [(.ref a), (.int 8)])) rfl (by rw [hml]; rfl) (Steps.refl _) (argsL := []) (rest := [(.int 8)]) (lenOf pd_5 rfl) rfl (by show 2 * 0 + _ ≤ _; exact Nat.le_of_eq rfl) (hb hby d8_6) (fun _ _ => ⟨rfl, e325, (by decide : 0 + 0 ≤ _), (by decide : 0 + 0 ≤ _)⟩)
    dsimp only [Pt.U, Pt.locs, Pt.cells, Pt.slots] at X327 l327 y327 z327 st327 hQ327
    subst l327 y327 z327
    obtain ⟨rfl, Nq327, eq327⟩ := hQ327
    have N328 := Fr.app N0 Nq327
    refine gv (fun _ kQ => st327.trans (XS.ishr X327.here hx rfl (hb hby d8_9) rfl kQ)) ?_
    show G (T327.setTop (mkF me_ 10 #[.val (.ref a)] [(.int ((8 : Int32) >>> ((1 : Int32) &&& 31)))]))
    rw [(by decide : ((8 : Int32) >>> ((1 : Int32) &&& 31)) = (4 : Int32))]
    refine gf _ (own_ret X327 Bd.notSynchronized (v := some (.int 4)) (own_rv Bd.returns) ?_ (by decide) (by decide) (fun fs hr => retOut X327 hx (t := .int) Bd.returns rfl (Or.inl ⟨rfl, Or.inl rfl, _, rfl⟩) (hb hby d8_10) hr))
    show Q_xlen Z a ln c0 c1 c2 c3 cs h0 n0 _ T327.heap _
    rw [eq327]
    exact ⟨(own_sv q292), N328, rfl⟩
theorem d19_0 : decode jdk_42_method_56_code 0 = .ok (.aload_n 0, 1) := by decide +kernel
theorem d19_1 : decode jdk_42_method_56_code 1 = .ok (.invokevirtual 492, 3) := by decide +kernel
theorem pd_6 : parseMethodDescriptor "()Z" = some ⟨[], some .boolean⟩ := by decide +kernel
theorem d19_4 : decode jdk_42_method_56_code 4 = .ok (.ifCond .eq 12, 3) := by decide +kernel
theorem d19_7 : decode jdk_42_method_56_code 7 = .ok (.aload_n 0, 1) := by decide +kernel
theorem d19_8 : decode jdk_42_method_56_code 8 = .ok (.getfield 9, 3) := by decide +kernel
theorem d19_11 : decode jdk_42_method_56_code 11 = .ok (.iload_n 1, 1) := by decide +kernel
theorem d19_12 : decode jdk_42_method_56_code 12 = .ok (.invokestatic 495, 3) := by decide +kernel
theorem d19_15 : decode jdk_42_method_56_code 15 = .ok (.ireturn, 1) := by decide +kernel
theorem d19_16 : decode jdk_42_method_56_code 16 = .ok (.aload_n 0, 1) := by decide +kernel
theorem d19_17 : decode jdk_42_method_56_code 17 = .ok (.getfield 9, 3) := by decide +kernel
theorem d19_20 : decode jdk_42_method_56_code 20 = .ok (.iload_n 1, 1) := by decide +kernel
theorem d19_21 : decode jdk_42_method_56_code 21 = .ok (.invokestatic 498, 3) := by decide +kernel
theorem d19_24 : decode jdk_42_method_56_code 24 = .ok (.ireturn, 1) := by decide +kernel
def Q_xat0 (Z : State) (a : Addr) (ln c0 : Int32) (c1 c2 : Int32) (c3 cs : Int32) (fmt : Value) (h0 : Heap) (n0 : Nat) (v : Option Value) (h : Heap) (L : List Loc) : Prop := v = some (.int c0) ∧ Fr n0 L ∧ h = h0
theorem rm_xat0 (l : Launch) (Z : State) (a0 : Array Value) (hw : own_HW Z a0) (ws : List Jvm.Cond) (a : Addr) (ln c0 : Int32) (c1 c2 : Int32) (c3 cs : Int32) (fmt : Value) (h0 : Heap) (n0 : Nat) (O0 : Old Z n0 h0) (u0 : Sta Z Z.heap "java/lang/String" "COMPACT_STRINGS" "Z" (.int cs)) (u1 : ¬ (cs = (0 : Int32))) (u2 : Sta Z Z.heap "java/lang/StringUTF16" "$assertionsDisabled" "Z" (.int 1)) (u3 : Sta Z Z.heap "java/lang/StringUTF16" "HI_BYTE_SHIFT" "I" (.int 0)) (u4 : Sta Z Z.heap "java/lang/StringUTF16" "LO_BYTE_SHIFT" "I" (.int 8)) (u5 : fmt.isRef = true) (u6 : Sta Z Z.heap "jdk/internal/util/Preconditions" "SIOOBE_FORMATTER" "Ljava/util/function/BiFunction;" fmt) (u7 : Exa Z h0 a "java/lang/String") (u8 : own_SX Z h0 a ln c0 c1 c2 c3) (u9 : (0 : Int32) < ln) :
    own_Met l Z m_8 jdk_42_method_56_code 2 (some .char) ws (own_R 4 0 0 53) #[(.ref a), (.int 0)] h0 (Q_xat0 Z a ln c0 c1 c2 c3 cs fmt h0 n0) := by
  refine own_open (plainFor_of_name pn_0) (fun pr_ en_ st_ me_ below meth_ co_ s₁ Bd hx hby hml hown hZ X0 e0 G gv gf => ?_)
  have N0 := Fr.nil n0
  refine gv (fun _ kQ => castTop (ef_4 me_ a (0 : Int32)) kQ) ?_
  show G (s₁.setTop (mkF me_ 0 #[.val (.ref a), .val (.int 0)] []))
  rcases u8 with ⟨q329, b329, k329, E329, C329, V329, A329⟩ | ⟨q329, ⟨b329, k329, E329, C329, V329, A329, l329_0⟩ | ⟨b329, k329, E329, C329, V329, A329⟩, m329_0⟩ | ⟨q329, ⟨b329, k329, E329, C329, V329, A329, l329_0, l329_1⟩ | ⟨b329, k329, E329, C329, V329, A329⟩, m329_0, m329_1⟩ | ⟨q329, ⟨b329, k329, E329, C329, V329, A329, l329_0, l329_1, l329_2⟩ | ⟨b329, k329, E329, C329, V329, A329⟩, m329_0, m329_1, m329_2⟩ | ⟨q329, ⟨b329, k329, E329, C329, V329, A329, l329_0, l329_1, l329_2, l329_3⟩ | ⟨b329, k329, E329, C329, V329, A329⟩, m329_0, m329_1, m329_2, m329_3⟩
  · exact absurd u9 (by rw [q329]; decide)
  · skip
    refine gv (fun _ kQ => XS.aloadN X0.here hx rfl (hb hby d19_0) rfl rfl kQ) ?_
    obtain ⟨cq330, kq330, q330a, q330b, q330c⟩ := isOf hZ e0 E329
    obtain ⟨_, _, ⟨T330, L330, k330, n330⟩, -, X330, ⟨Lc330, hQ330, l330, y330, z330⟩, st330⟩ := X0.virtualBack hx (y := m_11) (z := m_11) hown (mvT hZ (t_85 hw)) (mvT hZ (t_86 hw)) (notFace_of_selects (args := #[]) (mvT hZ (t_88 hw))) (mvT hZ (t_88 hw)) (mvT hZ (t_87 hw)) (by decide) (backOf (W := 0) (rm_isL0 l Z a0 hw [] a cs h0 n0 O0 u0 u1 C329) hZ (t_89 hw) (t_13 hw) (by decide) (by decide)) q330a q330c (g := (mkF me_ 1 #[.val (.ref a), .val (.int 0)] [(.ref a)])) rfl (by rw [hml]; rfl) (Steps.refl _) (argsL := []) (rest := []) (lenOf pd_6 rfl) rfl (by show 2 * 0 + _ ≤ _; exact Nat.le_of_eq rfl) (hb hby d19_1) (fun _ _ => ⟨rfl, e0, (by decide : 0 + 0 ≤ _), (by decide : 0 + 0 ≤ _)⟩)
    dsimp only [Pt.U, Pt.locs, Pt.cells, Pt.slots] at X330 l330 y330 z330 st330 hQ330
    subst l330 y330 z330
    obtain ⟨rfl, Nq330, eq330⟩ := hQ330
    have N331 := Fr.app N0 Nq330
    refine gv (fun _ kQ => st330.trans (XS.ifNo X330.here hx rfl (hb hby d19_4) rfl ((if0 _ _).trans (feq (by decide : ¬ ((1 : Int32) = (0 : Int32)))).1) (XS.aloadN X330.here hx rfl (hb hby d19_7) rfl rfl kQ))) ?_
    show G (T330.setTop (mkF me_ 8 #[.val (.ref a), .val (.int 0)] [(.ref a)]))
    obtain ⟨T332, X332, e332, st332⟩ := getF X330 hx hZ hown (host := "") (Or.inl (t_31 hw)) Via.refl eq330 V329 (g := (mkF me_ 8 #[.val (.ref a), .val (.int 0)] [(.ref a)])) rfl rfl (hb hby d19_8)
    refine gv st332 ?_
    refine gv (fun _ kQ => XS.iloadN X332.here hx rfl (hb hby d19_11) rfl kQ) ?_
    obtain ⟨_, _, ⟨T333, L333, k333, n333⟩, -, X333, ⟨Lc333, hQ333, l333, y333, z333⟩, st333⟩ := Jvm.LawKit.callS X332 hx (y := m_13) hown (mvT hZ (t_107 hw)) (mvT hZ (t_108 hw)) (mvT hZ (t_109 hw)) (mvT hZ (t_110 hw)) (by decide) (backOf (W := 0) (rm_l1at1_0 l Z a0 hw [] b329 k329 (c0.toInt8.toInt32) fmt h0 n0 O0 u5 u6 A329) hZ (t_110 hw) (t_109 hw) (by decide) (by decide)) (g := (mkF me_ 12 #[.val (.ref a), .val (.int 0)] [(.int 0), (.ref b329)])) rfl (by rw [hml]; rfl) (argsL := [(.ref b329), (.int 0)]) (rest := []) (lenOf pd_4 rfl) rfl (by show 2 * 0 + _ ≤ _; exact Nat.le_of_eq rfl) (hb hby d19_12) (fun _ _ => ⟨rfl, e332, (by decide : 0 + 0 ≤ _), (by decide : 0 + 0 ≤ _)⟩)
    dsimp only [Pt.U, Pt.locs, Pt.cells, Pt.slots] at X333 l333 y333 z333 st333 hQ333
    subst l333 y333 z333
    obtain ⟨rfl, Nq333, eq333⟩ := hQ333
    have N334 := Fr.app N331 Nq333
    refine gv st333 ?_
    refine gf _ (own_ret X333 Bd.notSynchronized (v := some (.int (((c0.toInt8.toInt32) &&& (255 : Int32)).toUInt32.toUInt16.toUInt32.toInt32))) (own_rv Bd.returns) ?_ (by decide) (by decide) (fun fs hr => retN X333 hx (t := .char) Bd.returns (by simp) (hb hby d19_15) (by rw [(own_narC _)]; exact hr)))
    show Q_xat0 Z a ln c0 c1 c2 c3 cs fmt h0 n0 _ T333.heap _
    rw [eq333]
    exact ⟨(own_sv (own_l1 m329_0 l329_0).symm), N334, rfl⟩
  · skip
    refine gv (fun _ kQ => XS.aloadN X0.here hx rfl (hb hby d19_0) rfl rfl kQ) ?_
    obtain ⟨cq335, kq335, q335a, q335b, q335c⟩ := isOf hZ e0 E329
    obtain ⟨_, _, ⟨T335, L335, k335, n335⟩, -, X335, ⟨Lc335, hQ335, l335, y335, z335⟩, st335⟩ := X0.virtualBack hx (y := m_11) (z := m_11) hown (mvT hZ (t_85 hw)) (mvT hZ (t_86 hw)) (notFace_of_selects (args := #[]) (mvT hZ (t_88 hw))) (mvT hZ (t_88 hw)) (mvT hZ (t_87 hw)) (by decide) (backOf (W := 0) (rm_isL1 l Z a0 hw [] a cs h0 n0 O0 u0 u1 C329) hZ (t_89 hw) (t_13 hw) (by decide) (by decide)) q335a q335c (g := (mkF me_ 1 #[.val (.ref a), .val (.int 0)] [(.ref a)])) rfl (by rw [hml]; rfl) (Steps.refl _) (argsL := []) (rest := []) (lenOf pd_6 rfl) rfl (by show 2 * 0 + _ ≤ _; exact Nat.le_of_eq rfl) (hb hby d19_1) (fun _ _ => ⟨rfl, e0, (by decide : 0 + 0 ≤ _), (by decide : 0 + 0 ≤ _)⟩)
    dsimp only [Pt.U, Pt.locs, Pt.cells, Pt.slots] at X335 l335 y335 z335 st335 hQ335
    subst l335 y335 z335
    obtain ⟨rfl, Nq335, eq335⟩ := hQ335
    have N336 := Fr.app N0 Nq335
    refine gv (fun _ kQ => st335.trans (XS.ifYes X335.here hx rfl (pc0 := 4) (pc' := 16) rfl (hb hby d19_4) rfl ((if0 _ _).trans (teq (by decide : (0 : Int32) = (0 : Int32))).1) (by decide) (by decide) (XS.aloadN X335.here hx rfl (hb hby d19_16) rfl rfl kQ))) ?_
    show G (T335.setTop (mkF me_ 17 #[.val (.ref a), .val (.int 0)] [(.ref a)]))
    obtain ⟨T337, X337, e337, st337⟩ := getF X335 hx hZ hown (host := "") (Or.inl (t_31 hw)) Via.refl eq335 V329 (g := (mkF me_ 17 #[.val (.ref a), .val (.int 0)] [(.ref a)])) rfl rfl (hb hby d19_17)
    refine gv st337 ?_
    refine gv (fun _ kQ => XS.iloadN X337.here hx rfl (hb hby d19_20) rfl kQ) ?_
    obtain ⟨_, _, ⟨T338, L338, k338, n338⟩, -, X338, ⟨Lc338, hQ338, l338, y338, z338⟩, st338⟩ := Jvm.LawKit.callS X337 hx (y := m_14) hown (mvT hZ (t_90 hw)) (mvT hZ (t_91 hw)) (mvT hZ (t_50 hw)) (mvT hZ (t_92 hw)) (by decide) (backOf (W := 0) (rm_uat1_0 l Z a0 hw [] b329 k329 ((c0 >>> ((0 : Int32) &&& 31)).toInt8.toInt32) ((c0 >>> ((8 : Int32) &&& 31)).toInt8.toInt32) fmt h0 n0 O0 u5 u6 u2 u3 u4 A329) hZ (t_92 hw) (t_50 hw) (by decide) (by decide)) (g := (mkF me_ 21 #[.val (.ref a), .val (.int 0)] [(.int 0), (.ref b329)])) rfl (by rw [hml]; rfl) (argsL := [(.ref b329), (.int 0)]) (rest := []) (lenOf pd_4 rfl) rfl (by show 2 * 0 + _ ≤ _; exact Nat.le_of_eq rfl) (hb hby d19_21) (fun _ _ => ⟨rfl, e337, (by decide : 0 + 0 ≤ _), (by decide : 0 + 0 ≤ _)⟩)
    dsimp only [Pt.U, Pt.locs, Pt.cells, Pt.slots] at X338 l338 y338 z338 st338 hQ338
    subst l338 y338 z338
    obtain ⟨rfl, Nq338, eq338⟩ := hQ338
    have N339 := Fr.app N336 Nq338
    refine gv st338 ?_
    refine gf _ (own_ret X338 Bd.notSynchronized (v := some (.int (own_gc ((c0 >>> ((0 : Int32) &&& 31)).toInt8.toInt32) ((c0 >>> ((8 : Int32) &&& 31)).toInt8.toInt32)))) (own_rv Bd.returns) ?_ (by decide) (by decide) (fun fs hr => retN X338 hx (t := .char) Bd.returns (by simp) (hb hby d19_24) (by rw [(own_gcn _ _)]; exact hr)))
    show Q_xat0 Z a ln c0 c1 c2 c3 cs fmt h0 n0 _ T338.heap _
    rw [eq338]
    exact ⟨(own_sv (own_gcp m329_0).symm), N339, rfl⟩
  · skip
    refine gv (fun _ kQ => XS.aloadN X0.here hx rfl (hb hby d19_0) rfl rfl kQ) ?_
    obtain ⟨cq340, kq340, q340a, q340b, q340c⟩ := isOf hZ e0 E329
    obtain ⟨_, _, ⟨T340, L340, k340, n340⟩, -, X340, ⟨Lc340, hQ340, l340, y340, z340⟩, st340⟩ := X0.virtualBack hx (y := m_11) (z := m_11) hown (mvT hZ (t_85 hw)) (mvT hZ (t_86 hw)) (notFace_of_selects (args := #[]) (mvT hZ (t_88 hw))) (mvT hZ (t_88 hw)) (mvT hZ (t_87 hw)) (by decide) (backOf (W := 0) (rm_isL0 l Z a0 hw [] a cs h0 n0 O0 u0 u1 C329) hZ (t_89 hw) (t_13 hw) (by decide) (by decide)) q340a q340c (g := (mkF me_ 1 #[.val (.ref a), .val (.int 0)] [(.ref a)])) rfl (by rw [hml]; rfl) (Steps.refl _) (argsL := []) (rest := []) (lenOf pd_6 rfl) rfl (by show 2 * 0 + _ ≤ _; exact Nat.le_of_eq rfl) (hb hby d19_1) (fun _ _ => ⟨rfl, e0, (by decide : 0 + 0 ≤ _), (by decide : 0 + 0 ≤ _)⟩)
    dsimp only [Pt.U, Pt.locs, Pt.cells, Pt.slots] at X340 l340 y340 z340 st340 hQ340
    subst l340 y340 z340
    obtain ⟨rfl, Nq340, eq340⟩ := hQ340
    have N341 := Fr.app N0 Nq340
    refine gv (fun _ kQ => st340.trans (XS.ifNo X340.here hx rfl (hb hby d19_4) rfl ((if0 _ _).trans (feq (by decide : ¬ ((1 : Int32) = (0 : Int32)))).1) (XS.aloadN X340.here hx rfl (hb hby d19_7) rfl rfl kQ))) ?_
    show G (T340.setTop (mkF me_ 8 #[.val (.ref a), .val (.int 0)] [(.ref a)]))
    obtain ⟨T342, X342, e342, st342⟩ := getF X340 hx hZ hown (host := "") (Or.inl (t_31 hw)) Via.refl eq340 V329 (g := (mkF me_ 8 #[.val (.ref a), .val (.int 0)] [(.ref a)])) rfl rfl (hb hby d19_8)
    refine gv st342 ?_
    refine gv (fun _ kQ => XS.iloadN X342.here hx rfl (hb hby d19_11) rfl kQ) ?_
    obtain ⟨_, _, ⟨T343, L343, k343, n343⟩, -, X343, ⟨Lc343, hQ343, l343, y343, z343⟩, st343⟩ := Jvm.LawKit.callS X342 hx (y := m_13) hown (mvT hZ (t_107 hw)) (mvT hZ (t_108 hw)) (mvT hZ (t_109 hw)) (mvT hZ (t_110 hw)) (by decide) (backOf (W := 0) (rm_l1at2_0 l Z a0 hw [] b329 k329 (c0.toInt8.toInt32) (c1.toInt8.toInt32) fmt h0 n0 O0 u5 u6 A329) hZ (t_110 hw) (t_109 hw) (by decide) (by decide)) (g := (mkF me_ 12 #[.val (.ref a), .val (.int 0)] [(.int 0), (.ref b329)])) rfl (by rw [hml]; rfl) (argsL := [(.ref b329), (.int 0)]) (rest := []) (lenOf pd_4 rfl) rfl (by show 2 * 0 + _ ≤ _; exact Nat.le_of_eq rfl) (hb hby d19_12) (fun _ _ => ⟨rfl, e342, (by decide : 0 + 0 ≤ _), (by decide : 0 + 0 ≤ _)⟩)
    dsimp only [Pt.U, Pt.locs, Pt.cells, Pt.slots] at X343 l343 y343 z343 st343 hQ343
    subst l343 y343 z343
    obtain ⟨rfl, Nq343, eq343⟩ := hQ343
    have N344 := Fr.app N341 Nq343
    refine gv st343 ?_
    refine gf _ (own_ret X343 Bd.notSynchronized (v := some (.int (((c0.toInt8.toInt32) &&& (255 : Int32)).toUInt32.toUInt16.toUInt32.toInt32))) (own_rv Bd.returns) ?_ (by decide) (by decide) (fun fs hr => retN X343 hx (t := .char) Bd.returns (by simp) (hb hby d19_15) (by rw [(own_narC _)]; exact hr)))
    show Q_xat0 Z a ln c0 c1 c2 c3 cs fmt h0 n0 _ T343.heap _
    rw [eq343]
    exact ⟨(own_sv (own_l1 m329_0 l329_0).symm), N344, rfl⟩
  · skip
    refine gv (fun _ kQ => XS.aloadN X0.here hx rfl (hb hby d19_0) rfl rfl kQ) ?_
    obtain ⟨cq345, kq345, q345a, q345b, q345c⟩ := isOf hZ e0 E329
    obtain ⟨_, _, ⟨T345, L345, k345, n345⟩, -, X345, ⟨Lc345, hQ345, l345, y345, z345⟩, st345⟩ := X0.virtualBack hx (y := m_11) (z := m_11) hown (mvT hZ (t_85 hw)) (mvT hZ (t_86 hw)) (notFace_of_selects (args := #[]) (mvT hZ (t_88 hw))) (mvT hZ (t_88 hw)) (mvT hZ (t_87 hw)) (by decide) (backOf (W := 0) (rm_isL1 l Z a0 hw [] a cs h0 n0 O0 u0 u1 C329) hZ (t_89 hw) (t_13 hw) (by decide) (by decide)) q345a q345c (g := (mkF me_ 1 #[.val (.ref a), .val (.int 0)] [(.ref a)])) rfl (by rw [hml]; rfl) (Steps.refl _) (argsL := []) (rest := []) (lenOf pd_6 rfl) rfl (by show 2 * 0 + _ ≤ _; exact Nat.le_of_eq rfl) (hb hby d19_1) (fun _ _ => ⟨rfl, e0, (by decide : 0 + 0 ≤ _), (by decide : 0 + 0 ≤ _)⟩)
    dsimp only [Pt.U, Pt.locs, Pt.cells, Pt.slots] at X345 l345 y345 z345 st345 hQ345
    subst l345 y345 z345
    obtain ⟨rfl, Nq345, eq345⟩ := hQ345
    have N346 := Fr.app N0 Nq345
    refine gv (fun _ kQ => st345.trans (XS.ifYes X345.here hx rfl (pc0 := 4) (pc' := 16) rfl (hb hby d19_4) rfl ((if0 _ _).trans (teq (by decide : (0 : Int32) = (0 : Int32))).1) (by decide) (by decide) (XS.aloadN X345.here hx rfl (hb hby d19_16) rfl rfl kQ))) ?_
    show G (T345.setTop (mkF me_ 17 #[.val (.ref a), .val (.int 0)] [(.ref a)]))
    obtain ⟨T347, X347, e347, st347⟩ := getF X345 hx hZ hown (host := "") (Or.inl (t_31 hw)) Via.refl eq345 V329 (g := (mkF me_ 17 #[.val (.ref a), .val (.int 0)] [(.ref a)])) rfl rfl (hb hby d19_17)
    refine gv st347 ?_
    refine gv (fun _ kQ => XS.iloadN X347.here hx rfl (hb hby d19_20) rfl kQ) ?_
    obtain ⟨_, _, ⟨T348, L348, k348, n348⟩, -, X348, ⟨Lc348, hQ348, l348, y348, z348⟩, st348⟩ := Jvm.LawKit.callS X347 hx (y := m_14) hown (mvT hZ (t_90 hw)) (mvT hZ (t_91 hw)) (mvT hZ (t_50 hw)) (mvT hZ (t_92 hw)) (by decide) (backOf (W := 0) (rm_uat2_0 l Z a0 hw [] b329 k329 ((c0 >>> ((0 : Int32) &&& 31)).toInt8.toInt32) ((c0 >>> ((8 : Int32) &&& 31)).toInt8.toInt32) ((c1 >>> ((0 : Int32) &&& 31)).toInt8.toInt32) ((c1 >>> ((8 : Int32) &&& 31)).toInt8.toInt32) fmt h0 n0 O0 u5 u6 u2 u3 u4 A329) hZ (t_92 hw) (t_50 hw) (by decide) (by decide)) (g := (mkF me_ 21 #[.val (.ref a), .val (.int 0)] [(.int 0), (.ref b329)])) rfl (by rw [hml]; rfl) (argsL := [(.ref b329), (.int 0)]) (rest := []) (lenOf pd_4 rfl) rfl (by show 2 * 0 + _ ≤ _; exact Nat.le_of_eq rfl) (hb hby d19_21) (fun _ _ => ⟨rfl, e347, (by decide : 0 + 0 ≤ _), (by decide : 0 + 0 ≤ _)⟩)
    dsimp only [Pt.U, Pt.locs, Pt.cells, Pt.slots] at X348 l348 y348 z348 st348 hQ348
    subst l348 y348 z348
    obtain ⟨rfl, Nq348, eq348⟩ := hQ348
    have N349 := Fr.app N346 Nq348
    refine gv st348 ?_
    refine gf _ (own_ret X348 Bd.notSynchronized (v := some (.int (own_gc ((c0 >>> ((0 : Int32) &&& 31)).toInt8.toInt32) ((c0 >>> ((8 : Int32) &&& 31)).toInt8.toInt32)))) (own_rv Bd.returns) ?_ (by decide) (by decide) (fun fs hr => retN X348 hx (t := .char) Bd.returns (by simp) (hb hby d19_24) (by rw [(own_gcn _ _)]; exact hr)))
    show Q_xat0 Z a ln c0 c1 c2 c3 cs fmt h0 n0 _ T348.heap _
    rw [eq348]
    exact ⟨(own_sv (own_gcp m329_0).symm), N349, rfl⟩
  · skip
    refine gv (fun _ kQ => XS.aloadN X0.here hx rfl (hb hby d19_0) rfl rfl kQ) ?_
    obtain ⟨cq350, kq350, q350a, q350b, q350c⟩ := isOf hZ e0 E329
    obtain ⟨_, _, ⟨T350, L350, k350, n350⟩, -, X350, ⟨Lc350, hQ350, l350, y350, z350⟩, st350⟩ := X0.virtualBack hx (y := m_11) (z := m_11) hown (mvT hZ (t_85 hw)) (mvT hZ (t_86 hw)) (notFace_of_selects (args := #[]) (mvT hZ (t_88 hw))) (mvT hZ (t_88 hw)) (mvT hZ (t_87 hw)) (by decide) (backOf (W := 0) (rm_isL0 l Z a0 hw [] a cs h0 n0 O0 u0 u1 C329) hZ (t_89 hw) (t_13 hw) (by decide) (by decide)) q350a q350c (g := (mkF me_ 1 #[.val (.ref a), .val (.int 0)] [(.ref a)])) rfl (by rw [hml]; rfl) (Steps.refl _) (argsL := []) (rest := []) (lenOf pd_6 rfl) rfl (by show 2 * 0 + _ ≤ _; exact Nat.le_of_eq rfl) (hb hby d19_1) (fun _ _ => ⟨rfl, e0, (by decide : 0 + 0 ≤ _), (by decide : 0 + 0 ≤ _)⟩)
    dsimp only [Pt.U, Pt.locs, Pt.cells, Pt.slots] at X350 l350 y350 z350 st350 hQ350
    subst l350 y350 z350
    obtain ⟨rfl, Nq350, eq350⟩ := hQ350
    have N351 := Fr.app N0 Nq350
    refine gv (fun _ kQ => st350.trans (XS.ifNo X350.here hx rfl (hb hby d19_4) rfl ((if0 _ _).trans (feq (by decide : ¬ ((1 : Int32) = (0 : Int32)))).1) (XS.aloadN X350.here hx rfl (hb hby d19_7) rfl rfl kQ))) ?_
    show G (T350.setTop (mkF me_ 8 #[.val (.ref a), .val (.int 0)] [(.ref a)]))
    obtain ⟨T352, X352, e352, st352⟩ := getF X350 hx hZ hown (host := "") (Or.inl (t_31 hw)) Via.refl eq350 V329 (g := (mkF me_ 8 #[.val (.ref a), .val (.int 0)] [(.ref a)])) rfl rfl (hb hby d19_8)
    refine gv st352 ?_
    refine gv (fun _ kQ => XS.iloadN X352.here hx rfl (hb hby d19_11) rfl kQ) ?_
    obtain ⟨_, _, ⟨T353, L353, k353, n353⟩, -, X353, ⟨Lc353, hQ353, l353, y353, z353⟩, st353⟩ := Jvm.LawKit.callS X352 hx (y := m_13) hown (mvT hZ (t_107 hw)) (mvT hZ (t_108 hw)) (mvT hZ (t_109 hw)) (mvT hZ (t_110 hw)) (by decide) (backOf (W := 0) (rm_l1at3_0 l Z a0 hw [] b329 k329 (c0.toInt8.toInt32) (c1.toInt8.toInt32) (c2.toInt8.toInt32) fmt h0 n0 O0 u5 u6 A329) hZ (t_110 hw) (t_109 hw) (by decide) (by decide)) (g := (mkF me_ 12 #[.val (.ref a), .val (.int 0)] [(.int 0), (.ref b329)])) rfl (by rw [hml]; rfl) (argsL := [(.ref b329), (.int 0)]) (rest := []) (lenOf pd_4 rfl) rfl (by show 2 * 0 + _ ≤ _; exact Nat.le_of_eq rfl) (hb hby d19_12) (fun _ _ => ⟨rfl, e352, (by decide : 0 + 0 ≤ _), (by decide : 0 + 0 ≤ _)⟩)
    dsimp only [Pt.U, Pt.locs, Pt.cells, Pt.slots] at X353 l353 y353 z353 st353 hQ353
    subst l353 y353 z353
    obtain ⟨rfl, Nq353, eq353⟩ := hQ353
    have N354 := Fr.app N351 Nq353
    refine gv st353 ?_
    refine gf _ (own_ret X353 Bd.notSynchronized (v := some (.int (((c0.toInt8.toInt32) &&& (255 : Int32)).toUInt32.toUInt16.toUInt32.toInt32))) (own_rv Bd.returns) ?_ (by decide) (by decide) (fun fs hr => retN X353 hx (t := .char) Bd.returns (by simp) (hb hby d19_15) (by rw [(own_narC _)]; exact hr)))
    show Q_xat0 Z a ln c0 c1 c2 c3 cs fmt h0 n0 _ T353.heap _
    rw [eq353]
    exact ⟨(own_sv (own_l1 m329_0 l329_0).symm), N354, rfl⟩
  · skip
    refine gv (fun _ kQ => XS.aloadN X0.here hx rfl (hb hby d19_0) rfl rfl kQ) ?_
    obtain ⟨cq355, kq355, q355a, q355b, q355c⟩ := isOf hZ e0 E329
    obtain ⟨_, _, ⟨T355, L355, k355, n355⟩, -, X355, ⟨Lc355, hQ355, l355, y355, z355⟩, st355⟩ := X0.virtualBack hx (y := m_11) (z := m_11) hown (mvT hZ (t_85 hw)) (mvT hZ (t_86 hw)) (notFace_of_selects (args := #[]) (mvT hZ (t_88 hw))) (mvT hZ (t_88 hw)) (mvT hZ (t_87 hw)) (by decide) (backOf (W := 0) (rm_isL1 l Z a0 hw [] a cs h0 n0 O0 u0 u1 C329) hZ (t_89 hw) (t_13 hw) (by decide) (by decide)) q355a q355c (g := (mkF me_ 1 #[.val (.ref a), .val (.int 0)] [(.ref a)])) rfl (by rw [hml]; rfl) (Steps.refl _) (argsL := []) (rest := []) (lenOf pd_6 rfl) rfl (by show 2 * 0 + _ ≤ _; exact Nat.le_of_eq rfl) (hb hby d19_1) (fun _ _ => ⟨rfl, e0, (by decide : 0 + 0 ≤ _), (by decide : 0 + 0 ≤ _)⟩)
    dsimp only [Pt.U, Pt.locs, Pt.cells, Pt.slots] at X355 l355 y355 z355 st355 hQ355
    subst l355 y355 z355
    obtain ⟨rfl, Nq355, eq355⟩ := hQ355
    have N356 := Fr.app N0 Nq355
    refine gv (fun _ kQ => st355.trans (XS.ifYes X355.here hx rfl (pc0 := 4) (pc' := 16) rfl (hb hby d19_4) rfl ((if0 _ _).trans (teq (by decide : (0 : Int32) = (0 : Int32))).1) (by decide) (by decide) (XS.aloadN X355.here hx rfl (hb hby d19_16) rfl rfl kQ))) ?_
    show G (T355.setTop (mkF me_ 17 #[.val (.ref a), .val (.int 0)] [(.ref a)]))
    obtain ⟨T357, X357, e357, st357⟩ := getF X355 hx hZ hown (host := "") (Or.inl (t_31 hw)) Via.refl eq355 V329 (g := (mkF me_ 17 #[.val (.ref a), .val (.int 0)] [(.ref a)])) rfl rfl (hb hby d19_17)
    refine gv st357 ?_
    refine gv (fun _ kQ => XS.iloadN X357.here hx rfl (hb hby d19_20) rfl kQ) ?_
    obtain ⟨_, _, ⟨T358, L358, k358, n358⟩, -, X358, ⟨Lc358, hQ358, l358, y358, z358⟩, st358⟩ := Jvm.LawKit.callS X357 hx (y := m_14) hown (mvT hZ (t_90 hw)) (mvT hZ (t_91 hw)) (mvT hZ (t_50 hw)) (mvT hZ (t_92 hw)) (by decide) (backOf (W := 0) (rm_uat3_0 l Z a0 hw [] b329 k329 ((c0 >>> ((0 : Int32) &&& 31)).toInt8.toInt32) ((c0 >>> ((8 : Int32) &&& 31)).toInt8.toInt32) ((c1 >>> ((0 : Int32) &&& 31)).toInt8.toInt32) ((c1 >>> ((8 : Int32) &&& 31)).toInt8.toInt32) ((c2 >>> ((0 : Int32) &&& 31)).toInt8.toInt32) ((c2 >>> ((8 : Int32) &&& 31)).toInt8.toInt32) fmt h0 n0 O0 u5 u6 u2 u3 u4 A329) hZ (t_92 hw) (t_50 hw) (by decide) (by decide)) (g := (mkF me_ 21 #[.val (.ref a), .val (.int 0)] [(.int 0), (.ref b329)])) rfl (by rw [hml]; rfl) (argsL := [(.ref b329), (.int 0)]) (rest := []) (lenOf pd_4 rfl) rfl (by show 2 * 0 + _ ≤ _; exact Nat.le_of_eq rfl) (hb hby d19_21) (fun _ _ => ⟨rfl, e357, (by decide : 0 + 0 ≤ _), (by decide : 0 + 0 ≤ _)⟩)
    dsimp only [Pt.U, Pt.locs, Pt.cells, Pt.slots] at X358 l358 y358 z358 st358 hQ358
    subst l358 y358 z358
    obtain ⟨rfl, Nq358, eq358⟩ := hQ358
    have N359 := Fr.app N356 Nq358
    refine gv st358 ?_
    refine gf _ (own_ret X358 Bd.notSynchronized (v := some (.int (own_gc ((c0 >>> ((0 : Int32) &&& 31)).toInt8.toInt32) ((c0 >>> ((8 : Int32) &&& 31)).toInt8.toInt32)))) (own_rv Bd.returns) ?_ (by decide) (by decide) (fun fs hr => retN X358 hx (t := .char) Bd.returns (by simp) (hb hby d19_24) (by rw [(own_gcn _ _)]; exact hr)))
    show Q_xat0 Z a ln c0 c1 c2 c3 cs fmt h0 n0 _ T358.heap _
    rw [eq358]
    exact ⟨(own_sv (own_gcp m329_0).symm), N359, rfl⟩
  · skip
    refine gv (fun _ kQ => XS.aloadN X0.here hx rfl (hb hby d19_0) rfl rfl kQ) ?_
    obtain ⟨cq360, kq360, q360a, q360b, q360c⟩ := isOf hZ e0 E329
    obtain ⟨_, _, ⟨T360, L360, k360, n360⟩, -, X360, ⟨Lc360, hQ360, l360, y360, z360⟩, st360⟩ := X0.virtualBack hx (y := m_11) (z := m_11) hown (mvT hZ (t_85 hw)) (mvT hZ (t_86 hw)) (notFace_of_selects (args := #[]) (mvT hZ (t_88 hw))) (mvT hZ (t_88 hw)) (mvT hZ (t_87 hw)) (by decide) (backOf (W := 0) (rm_isL0 l Z a0 hw [] a cs h0 n0 O0 u0 u1 C329) hZ (t_89 hw) (t_13 hw) (by decide) (by decide)) q360a q360c (g := (mkF me_ 1 #[.val (.ref a), .val (.int 0)] [(.ref a)])) rfl (by rw [hml]; rfl) (Steps.refl _) (argsL := []) (rest := []) (lenOf pd_6 rfl) rfl (by show 2 * 0 + _ ≤ _; exact Nat.le_of_eq rfl) (hb hby d19_1) (fun _ _ => ⟨rfl, e0, (by decide : 0 + 0 ≤ _), (by decide : 0 + 0 ≤ _)⟩)
    dsimp only [Pt.U, Pt.locs, Pt.cells, Pt.slots] at X360 l360 y360 z360 st360 hQ360
    subst l360 y360 z360
    obtain ⟨rfl, Nq360, eq360⟩ := hQ360
    have N361 := Fr.app N0 Nq360
    refine gv (fun _ kQ => st360.trans (XS.ifNo X360.here hx rfl (hb hby d19_4) rfl ((if0 _ _).trans (feq (by decide : ¬ ((1 : Int32) = (0 : Int32)))).1) (XS.aloadN X360.here hx rfl (hb hby d19_7) rfl rfl kQ))) ?_
    show G (T360.setTop (mkF me_ 8 #[.val (.ref a), .val (.int 0)] [(.ref a)]))
    obtain ⟨T362, X362, e362, st362⟩ := getF X360 hx hZ hown (host := "") (Or.inl (t_31 hw)) Via.refl eq360 V329 (g := (mkF me_ 8 #[.val (.ref a), .val (.int 0)] [(.ref a)])) rfl rfl (hb hby d19_8)
    refine gv st362 ?_
    refine gv (fun _ kQ => XS.iloadN X362.here hx rfl (hb hby d19_11) rfl kQ) ?_
    obtain ⟨_, _, ⟨T363, L363, k363, n363⟩, -, X363, ⟨Lc363, hQ363, l363, y363, z363⟩, st363⟩ := Jvm.LawKit.callS X362 hx (y := m_13) hown (mvT hZ (t_107 hw)) (mvT hZ (t_108 hw)) (mvT hZ (t_109 hw)) (mvT hZ (t_110 hw)) (by decide) (backOf (W := 0) (rm_l1at4_0 l Z a0 hw [] b329 k329 (c0.toInt8.toInt32) (c1.toInt8.toInt32) (c2.toInt8.toInt32) (c3.toInt8.toInt32) fmt h0 n0 O0 u5 u6 A329) hZ (t_110 hw) (t_109 hw) (by decide) (by decide)) (g := (mkF me_ 12 #[.val (.ref a), .val (.int 0)] [(.int 0), (.ref b329)])) rfl (by rw [hml]; rfl) (argsL := [(.ref b329), (.int 0)]) (rest := []) (lenOf pd_4 rfl) rfl (by show 2 * 0 + _ ≤ _; exact Nat.le_of_eq rfl) (hb hby d19_12) (fun _ _ => ⟨rfl, e362, (by decide : 0 + 0 ≤ _), (by decide : 0 + 0 ≤ _)⟩)
    dsimp only [Pt.U, Pt.locs, Pt.cells, Pt.slots] at X363 l363 y363 z363 st363 hQ363
    subst l363 y363 z363
    obtain ⟨rfl, Nq363, eq363⟩ := hQ363
    have N364 := Fr.app N361 Nq363
    refine gv st363 ?_
    refine gf _ (own_ret X363 Bd.notSynchronized (v := some (.int (((c0.toInt8.toInt32) &&& (255 : Int32)).toUInt32.toUInt16.toUInt32.toInt32))) (own_rv Bd.returns) ?_ (by decide) (by decide) (fun fs hr => retN X363 hx (t := .char) Bd.returns (by simp) (hb hby d19_15) (by rw [(own_narC _)]; exact hr)))
    show Q_xat0 Z a ln c0 c1 c2 c3 cs fmt h0 n0 _ T363.heap _
    rw [eq363]
    exact ⟨(own_sv (own_l1 m329_0 l329_0).symm), N364, rfl⟩
  · skip
    refine gv (fun _ kQ => XS.aloadN X0.here hx rfl (hb hby d19_0) rfl rfl kQ) ?_
    obtain ⟨cq365, kq365, q365a, q365b, q365c⟩ := isOf hZ e0 E329
    obtain ⟨_, _, ⟨T365, L365, k365, n365⟩, -, X365, ⟨Lc365, hQ365, l365, y365, z365⟩, st365⟩ := X0.virtualBack hx (y := m_11) (z := m_11) hown (mvT hZ (t_85 hw)) (mvT hZ (t_86 hw)) (notFace_of_selects (args := #[]) (mvT hZ (t_88 hw))) (mvT hZ (t_88 hw)) (mvT hZ (t_87 hw)) (by decide) (backOf (W := 0) (rm_isL1 l Z a0 hw [] a cs h0 n0 O0 u0 u1 C329) hZ (t_89 hw) (t_13 hw) (by decide) (by decide)) q365a q365c (g := (mkF me_ 1 #[.val (.ref a), .val (.int 0)] [(.ref a)])) rfl (by rw [hml]; rfl) (Steps.refl _) (argsL := []) (rest := []) (lenOf pd_6 rfl) rfl (by show 2 * 0 + _ ≤ _; exact Nat.le_of_eq rfl) (hb hby d19_1) (fun _ _ => ⟨rfl, e0, (by decide : 0 + 0 ≤ _), (by decide : 0 + 0 ≤ _)⟩)
    dsimp only [Pt.U, Pt.locs, Pt.cells, Pt.slots] at X365 l365 y365 z365 st365 hQ365
    subst l365 y365 z365
    obtain ⟨rfl, Nq365, eq365⟩ := hQ365
    have N366 := Fr.app N0 Nq365
    refine gv (fun _ kQ => st365.trans (XS.ifYes X365.here hx rfl (pc0 := 4) (pc' := 16) rfl (hb hby d19_4) rfl ((if0 _ _).trans (teq (by decide : (0 : Int32) = (0 : Int32))).1) (by decide) (by decide) (XS.aloadN X365.here hx rfl (hb hby d19_16) rfl rfl kQ))) ?_
    show G (T365.setTop (mkF me_ 17 #[.val (.ref a), .val (.int 0)] [(.ref a)]))
    obtain ⟨T367, X367, e367, st367⟩ := getF X365 hx hZ hown (host := "") (Or.inl (t_31 hw)) Via.refl eq365 V329 (g := (mkF me_ 17 #[.val (.ref a), .val (.int 0)] [(.ref a)])) rfl rfl (hb hby d19_17)
    refine gv st367 ?_
    refine gv (fun _ kQ => XS.iloadN X367.here hx rfl (hb hby d19_20) rfl kQ) ?_
    obtain ⟨_, _, ⟨T368, L368, k368, n368⟩, -, X368, ⟨Lc368, hQ368, l368, y368, z368⟩, st368⟩ := Jvm.LawKit.callS X367 hx (y := m_14) hown (mvT hZ (t_90 hw)) (mvT hZ (t_91 hw)) (mvT hZ (t_50 hw)) (mvT hZ (t_92 hw)) (by decide) (backOf (W := 0) (rm_uat4_0 l Z a0 hw [] b329 k329 ((c0 >>> ((0 : Int32) &&& 31)).toInt8.toInt32) ((c0 >>> ((8 : Int32) &&& 31)).toInt8.toInt32) ((c1 >>> ((0 : Int32) &&& 31)).toInt8.toInt32) ((c1 >>> ((8 : Int32) &&& 31)).toInt8.toInt32) ((c2 >>> ((0 : Int32) &&& 31)).toInt8.toInt32) ((c2 >>> ((8 : Int32) &&& 31)).toInt8.toInt32) ((c3 >>> ((0 : Int32) &&& 31)).toInt8.toInt32) ((c3 >>> ((8 : Int32) &&& 31)).toInt8.toInt32) fmt h0 n0 O0 u5 u6 u2 u3 u4 A329) hZ (t_92 hw) (t_50 hw) (by decide) (by decide)) (g := (mkF me_ 21 #[.val (.ref a), .val (.int 0)] [(.int 0), (.ref b329)])) rfl (by rw [hml]; rfl) (argsL := [(.ref b329), (.int 0)]) (rest := []) (lenOf pd_4 rfl) rfl (by show 2 * 0 + _ ≤ _; exact Nat.le_of_eq rfl) (hb hby d19_21) (fun _ _ => ⟨rfl, e367, (by decide : 0 + 0 ≤ _), (by decide : 0 + 0 ≤ _)⟩)
    dsimp only [Pt.U, Pt.locs, Pt.cells, Pt.slots] at X368 l368 y368 z368 st368 hQ368
    subst l368 y368 z368
    obtain ⟨rfl, Nq368, eq368⟩ := hQ368
    have N369 := Fr.app N366 Nq368
    refine gv st368 ?_
    refine gf _ (own_ret X368 Bd.notSynchronized (v := some (.int (own_gc ((c0 >>> ((0 : Int32) &&& 31)).toInt8.toInt32) ((c0 >>> ((8 : Int32) &&& 31)).toInt8.toInt32)))) (own_rv Bd.returns) ?_ (by decide) (by decide) (fun fs hr => retN X368 hx (t := .char) Bd.returns (by simp) (hb hby d19_24) (by rw [(own_gcn _ _)]; exact hr)))
    show Q_xat0 Z a ln c0 c1 c2 c3 cs fmt h0 n0 _ T368.heap _
    rw [eq368]
    exact ⟨(own_sv (own_gcp m329_0).symm), N369, rfl⟩
def Q_xat1 (Z : State) (a : Addr) (ln c0 : Int32) (c1 c2 : Int32) (c3 cs : Int32) (fmt : Value) (h0 : Heap) (n0 : Nat) (v : Option Value) (h : Heap) (L : List Loc) : Prop := v = some (.int c1) ∧ Fr n0 L ∧ h = h0
theorem rm_xat1 (l : Launch) (Z : State) (a0 : Array Value) (hw : own_HW Z a0) (ws : List Jvm.Cond) (a : Addr) (ln c0 : Int32) (c1 c2 : Int32) (c3 cs : Int32) (fmt : Value) (h0 : Heap) (n0 : Nat) (O0 : Old Z n0 h0) (u0 : Sta Z Z.heap "java/lang/String" "COMPACT_STRINGS" "Z" (.int cs)) (u1 : ¬ (cs = (0 : Int32))) (u2 : Sta Z Z.heap "java/lang/StringUTF16" "$assertionsDisabled" "Z" (.int 1)) (u3 : Sta Z Z.heap "java/lang/StringUTF16" "HI_BYTE_SHIFT" "I" (.int 0)) (u4 : Sta Z Z.heap "java/lang/StringUTF16" "LO_BYTE_SHIFT" "I" (.int 8)) (u5 : fmt.isRef = true) (u6 : Sta Z Z.heap "jdk/internal/util/Preconditions" "SIOOBE_FORMATTER" "Ljava/util/function/BiFunction;" fmt) (u7 : Exa Z h0 a "java/lang/String") (u8 : own_SX Z h0 a ln c0 c1 c2 c3) (u9 : (1 : Int32) < ln) :
    own_Met l Z m_8 jdk_42_method_56_code 2 (some .char) ws (own_R 4 0 0 53) #[(.ref a), (.int 1)] h0 (Q_xat1 Z a ln c0 c1 c2 c3 cs fmt h0 n0) := by
  refine own_open (plainFor_of_name pn_0) (fun pr_ en_ st_ me_ below meth_ co_ s₁ Bd hx hby hml hown hZ X0 e0 G gv gf => ?_)
  have N0 := Fr.nil n0
  refine gv (fun _ kQ => castTop (ef_4 me_ a (1 : Int32)) kQ) ?_
  show G (s₁.setTop (mkF me_ 0 #[.val (.ref a), .val (.int 1)] []))
  rcases u8 with ⟨q370, b370, k370, E370, C370, V370, A370⟩ | ⟨q370, ⟨b370, k370, E370, C370, V370, A370, l370_0⟩ | ⟨b370, k370, E370, C370, V370, A370⟩, m370_0⟩ | ⟨q370, ⟨b370, k370, E370, C370, V370, A370, l370_0, l370_1⟩ | ⟨b370, k370, E370, C370, V370, A370⟩, m370_0, m370_1⟩ | ⟨q370, ⟨b370, k370, E370, C370, V370, A370, l370_0, l370_1, l370_2⟩ | ⟨b370, k370, E370, C370, V370, A370⟩, m370_0, m370_1, m370_2⟩ | ⟨q370, ⟨b370, k370, E370, C370, V370, A370, l370_0, l370_1, l370_2, l370_3⟩ | ⟨b370, k370, E370, C370, V370, A370⟩, m370_0, m370_1, m370_2, m370_3⟩
  · exact absurd u9 (by rw [q370]; decide)
  · exact absurd u9 (by rw [q370]; decide)
  · exact absurd u9 (by rw [q370]; decide)
  · skip
    refine gv (fun _ kQ => XS.aloadN X0.here hx rfl (hb hby d19_0) rfl rfl kQ) ?_
    obtain ⟨cq371, kq371, q371a, q371b, q371c⟩ := isOf hZ e0 E370
    obtain ⟨_, _, ⟨T371, L371, k371, n371⟩, -, X371, ⟨Lc371, hQ371, l371, y371, z371⟩, st371⟩ := X0.virtualBack hx (y := m_11) (z := m_11) hown (mvT hZ (t_85 hw)) (mvT hZ (t_86 hw)) (notFace_of_selects (args := #[]) (mvT hZ (t_88 hw))) (mvT hZ (t_88 hw)) (mvT hZ (t_87 hw)) (by decide) (backOf (W := 0) (rm_isL0 l Z a0 hw [] a cs h0 n0 O0 u0 u1 C370) hZ (t_89 hw) (t_13 hw) (by decide) (by decide)) q371a q371c (g := (mkF me_ 1 #[.val (.ref a), .val (.int 1)] [(.ref a)])) rfl (by rw [hml]; rfl) (Steps.refl _) (argsL := []) (rest := []) (lenOf pd_6 rfl) rfl (by show 2 * 0 + _ ≤ _; exact Nat.le_of_eq rfl) (hb hby d19_1) (fun _ _ => ⟨rfl, e0, (by decide : 0 + 0 ≤ _), (by decide : 0 + 0 ≤ _)⟩)
    dsimp only [Pt.U, Pt.locs, Pt.cells, Pt.slots] at X371 l371 y371 z371 st371 hQ371
    subst l371 y371 z371
    obtain ⟨rfl, Nq371, eq371⟩ := hQ371
    have N372 := Fr.app N0 Nq371
    refine gv (fun _ kQ => st371.trans (XS.ifNo X371.here hx rfl (hb hby d19_4) rfl ((if0 _ _).trans (feq (by decide : ¬ ((1 : Int32) = (0 : Int32)))).1) (XS.aloadN X371.here hx rfl (hb hby d19_7) rfl rfl kQ))) ?_
    show G (T371.setTop (mkF me_ 8 #[.val (.ref a), .val (.int 1)] [(.ref a)]))
    obtain ⟨T373, X373, e373, st373⟩ := getF X371 hx hZ hown (host := "") (Or.inl (t_31 hw)) Via.refl eq371 V370 (g := (mkF me_ 8 #[.val (.ref a), .val (.int 1)] [(.ref a)])) rfl rfl (hb hby d19_8)
    refine gv st373 ?_
    refine gv (fun _ kQ => XS.iloadN X373.here hx rfl (hb hby d19_11) rfl kQ) ?_
    obtain ⟨_, _, ⟨T374, L374, k374, n374⟩, -, X374, ⟨Lc374, hQ374, l374, y374, z374⟩, st374⟩ := Jvm.LawKit.callS X373 hx (y := m_13) hown (mvT hZ (t_107 hw)) (mvT hZ (t_108 hw)) (mvT hZ (t_109 hw)) (mvT hZ (t_110 hw)) (by decide) (backOf (W := 0) (rm_l1at2_1 l Z a0 hw [] b370 k370 (c0.toInt8.toInt32) (c1.toInt8.toInt32) fmt h0 n0 O0 u5 u6 A370) hZ (t_110 hw) (t_109 hw) (by decide) (by decide)) (g := (mkF me_ 12 #[.val (.ref a), .val (.int 1)] [(.int 1), (.ref b370)])) rfl (by rw [hml]; rfl) (argsL := [(.ref b370), (.int 1)]) (rest := []) (lenOf pd_4 rfl) rfl (by show 2 * 0 + _ ≤ _; exact Nat.le_of_eq rfl) (hb hby d19_12) (fun _ _ => ⟨rfl, e373, (by decide : 0 + 0 ≤ _), (by decide : 0 + 0 ≤ _)⟩)
    dsimp only [Pt.U, Pt.locs, Pt.cells, Pt.slots] at X374 l374 y374 z374 st374 hQ374
    subst l374 y374 z374
    obtain ⟨rfl, Nq374, eq374⟩ := hQ374
    have N375 := Fr.app N372 Nq374
    refine gv st374 ?_
    refine gf _ (own_ret X374 Bd.notSynchronized (v := some (.int (((c1.toInt8.toInt32) &&& (255 : Int32)).toUInt32.toUInt16.toUInt32.toInt32))) (own_rv Bd.returns) ?_ (by decide) (by decide) (fun fs hr => retN X374 hx (t := .char) Bd.returns (by simp) (hb hby d19_15) (by rw [(own_narC _)]; exact hr)))
    show Q_xat1 Z a ln c0 c1 c2 c3 cs fmt h0 n0 _ T374.heap _
    rw [eq374]
    exact ⟨(own_sv (own_l1 m370_1 l370_1).symm), N375, rfl⟩
  · skip
    refine gv (fun _ kQ => XS.aloadN X0.here hx rfl (hb hby d19_0) rfl rfl kQ) ?_
    obtain ⟨cq376, kq376, q376a, q376b, q376c⟩ := isOf hZ e0 E370
    obtain ⟨_, _, ⟨T376, L376, k376, n376⟩, -, X376, ⟨Lc376, hQ376, l376, y376, z376⟩, st376⟩ := X0.virtualBack hx (y := m_11) (z := m_11) hown (mvT hZ (t_85 hw)) (mvT hZ (t_86 hw)) (notFace_of_selects (args := #[]) (mvT hZ (t_88 hw))) (mvT hZ (t_88 hw)) (mvT hZ (t_87 hw)) (by decide) (backOf (W := 0) (rm_isL1 l Z a0 hw [] a cs h0 n0 O0 u0 u1 C370) hZ (t_89 hw) (t_13 hw) (by decide) (by decide)) q376a q376c (g := (mkF me_ 1 #[.val (.ref a), .val (.int 1)] [(.ref a)])) rfl (by rw [hml]; rfl) (Steps.refl _) (argsL := []) (rest := []) (lenOf pd_6 rfl) rfl (by show 2 * 0 + _ ≤ _; exact Nat.le_of_eq rfl) (hb hby d19_1) (fun _ _ => ⟨rfl, e0, (by decide : 0 + 0 ≤ _), (by decide : 0 + 0 ≤ _)⟩)
    dsimp only [Pt.U, Pt.locs, Pt.cells, Pt.slots] at X376 l376 y376 z376 st376 hQ376
    subst l376 y376 z376
    obtain ⟨rfl, Nq376, eq376⟩ := hQ376
    have N377 := Fr.app N0 Nq376
    refine gv (fun _ kQ => st376.trans (XS.ifYes X376.here hx rfl (pc0 := 4) (pc' := 16) rfl (hb hby d19_4) rfl ((if0 _ _).trans (teq (by decide : (0 : Int32) = (0 : Int32))).1) (by decide) (by decide) (XS.aloadN X376.here hx rfl (hb hby d19_16) rfl rfl kQ))) ?_
    show G (T376.setTop (mkF me_ 17 #[.val (.ref a), .val (.int 1)] [(.ref a)]))
    obtain ⟨T378, X378, e378, st378⟩ := getF X376 hx hZ hown (host := "") (Or.inl (t_31 hw)) Via.refl eq376 V370 (g := (mkF me_ 17 #[.val (.ref a), .val (.int 1)] [(.ref a)])) rfl rfl (hb hby d19_17)
    refine gv st378 ?_
    refine gv (fun _ kQ => XS.iloadN X378.here hx rfl (hb hby d19_20) rfl kQ) ?_
    obtain ⟨_, _, ⟨T379, L379, k379, n379⟩, -, X379, ⟨Lc379, hQ379, l379, y379, z379⟩, st379⟩ := Jvm.LawKit.callS X378 hx (y := m_14) hown (mvT hZ (t_90 hw)) (mvT hZ (t_91 hw)) (mvT hZ (t_50 hw)) (mvT hZ (t_92 hw)) (by decide) (backOf (W := 0) (rm_uat2_1 l Z a0 hw [] b370 k370 ((c0 >>> ((0 : Int32) &&& 31)).toInt8.toInt32) ((c0 >>> ((8 : Int32) &&& 31)).toInt8.toInt32) ((c1 >>> ((0 : Int32) &&& 31)).toInt8.toInt32) ((c1 >>> ((8 : Int32) &&& 31)).toInt8.toInt32) fmt h0 n0 O0 u5 u6 u2 u3 u4 A370) hZ (t_92 hw) (t_50 hw) (by decide) (by decide)) (g := (mkF me_ 21 #[.val (.ref a), .val (.int 1)] [(.int 1), (.ref b370)])) rfl (by rw [hml]; rfl) (argsL := [(.ref b370), (.int 1)]) (rest := []) (lenOf pd_4 rfl) rfl (by show 2 * 0 + _ ≤ _; exact Nat.le_of_eq rfl) (hb hby d19_21) (fun _ _ => ⟨rfl, e378, (by decide : 0 + 0 ≤ _), (by decide : 0 + 0 ≤ _)⟩)
    dsimp only [Pt.U, Pt.locs, Pt.cells, Pt.slots] at X379 l379 y379 z379 st379 hQ379
    subst l379 y379 z379
    obtain ⟨rfl, Nq379, eq379⟩ := hQ379
    have N380 := Fr.app N377 Nq379
    refine gv st379 ?_
    refine gf _ (own_ret X379 Bd.notSynchronized (v := some (.int (own_gc ((c1 >>> ((0 : Int32) &&& 31)).toInt8.toInt32) ((c1 >>> ((8 : Int32) &&& 31)).toInt8.toInt32)))) (own_rv Bd.returns) ?_ (by decide) (by decide) (fun fs hr => retN X379 hx (t := .char) Bd.returns (by simp) (hb hby d19_24) (by rw [(own_gcn _ _)]; exact hr)))
    show Q_xat1 Z a ln c0 c1 c2 c3 cs fmt h0 n0 _ T379.heap _
    rw [eq379]
    exact ⟨(own_sv (own_gcp m370_1).symm), N380, rfl⟩
  · skip
    refine gv (fun _ kQ => XS.aloadN X0.here hx rfl (hb hby d19_0) rfl rfl kQ) ?_
    obtain ⟨cq381, kq381, q381a, q381b, q381c⟩ := isOf hZ e0 E370
    obtain ⟨_, _, ⟨T381, L381, k381, n381⟩, -, X381, ⟨Lc381, hQ381, l381, y381, z381⟩, st381⟩ := X0.virtualBack hx (y := m_11) (z := m_11) hown (mvT hZ (t_85 hw)) (mvT hZ (t_86 hw)) (notFace_of_selects (args := #[]) (mvT hZ (t_88 hw))) (mvT hZ (t_88 hw)) (mvT hZ (t_87 hw)) (by decide) (backOf (W := 0) (rm_isL0 l Z a0 hw [] a cs h0 n0 O0 u0 u1 C370) hZ (t_89 hw) (t_13 hw) (by decide) (by decide)) q381a q381c (g := (mkF me_ 1 #[.val (.ref a), .val (.int 1)] [(.ref a)])) rfl (by rw [hml]; rfl) (Steps.refl _) (argsL := []) (rest := []) (lenOf pd_6 rfl) rfl (by show 2 * 0 + _ ≤ _; exact Nat.le_of_eq rfl) (hb hby d19_1) (fun _ _ => ⟨rfl, e0, (by decide : 0 + 0 ≤ _), (by decide : 0 + 0 ≤ _)⟩)
    dsimp only [Pt.U, Pt.locs, Pt.cells, Pt.slots] at X381 l381 y381 z381 st381 hQ381
    subst l381 y381 z381
    obtain ⟨rfl, Nq381, eq381⟩ := hQ381
    have N382 := Fr.app N0 Nq381
    refine gv (fun _ kQ => st381.trans (XS.ifNo X381.here hx rfl (hb hby d19_4) rfl ((if0 _ _).trans (feq (by decide : ¬ ((1 : Int32) = (0 : Int32)))).1) (XS.aloadN X381.here hx rfl (hb hby d19_7) rfl rfl kQ))) ?_
    show G (T381.setTop (mkF me_ 8 #[.val (.ref a), .val (.int 1)] [(.ref a)]))
    obtain ⟨T383, X383, e383, st383⟩ := getF X381 hx hZ hown (host := "") (Or.inl (t_31 hw)) Via.refl eq381 V370 (g := (mkF me_ 8 #[.val (.ref a), .val (.int 1)] [(.ref a)])) rfl rfl (hb hby d19_8)
    refine gv st383 ?_
    refine gv (fun _ kQ => XS.iloadN X383.here hx rfl (hb hby d19_11) rfl kQ) ?_
    obtain ⟨_, _, ⟨T384, L384, k384, n384⟩, -, X384, ⟨Lc384, hQ384, l384, y384, z384⟩, st384⟩ := Jvm.LawKit.callS X383 hx (y := m_13) hown (mvT hZ (t_107 hw)) (mvT hZ (t_108 hw)) (mvT hZ (t_109 hw)) (mvT hZ (t_110 hw)) (by decide) (backOf (W := 0) (rm_l1at3_1 l Z a0 hw [] b370 k370 (c0.toInt8.toInt32) (c1.toInt8.toInt32) (c2.toInt8.toInt32) fmt h0 n0 O0 u5 u6 A370) hZ (t_110 hw) (t_109 hw) (by decide) (by decide)) (g := (mkF me_ 12 #[.val (.ref a), .val (.int 1)] [(.int 1), (.ref b370)])) rfl (by rw [hml]; rfl) (argsL := [(.ref b370), (.int 1)]) (rest := []) (lenOf pd_4 rfl) rfl (by show 2 * 0 + _ ≤ _; exact Nat.le_of_eq rfl) (hb hby d19_12) (fun _ _ => ⟨rfl, e383, (by decide : 0 + 0 ≤ _), (by decide : 0 + 0 ≤ _)⟩)
    dsimp only [Pt.U, Pt.locs, Pt.cells, Pt.slots] at X384 l384 y384 z384 st384 hQ384
    subst l384 y384 z384
    obtain ⟨rfl, Nq384, eq384⟩ := hQ384
    have N385 := Fr.app N382 Nq384
    refine gv st384 ?_
    refine gf _ (own_ret X384 Bd.notSynchronized (v := some (.int (((c1.toInt8.toInt32) &&& (255 : Int32)).toUInt32.toUInt16.toUInt32.toInt32))) (own_rv Bd.returns) ?_ (by decide) (by decide) (fun fs hr => retN X384 hx (t := .char) Bd.returns (by simp) (hb hby d19_15) (by rw [(own_narC _)]; exact hr)))
    show Q_xat1 Z a ln c0 c1 c2 c3 cs fmt h0 n0 _ T384.heap _
    rw [eq384]
    exact ⟨(own_sv (own_l1 m370_1 l370_1).symm), N385, rfl⟩
  · skip
    refine gv (fun _ kQ => XS.aloadN X0.here hx rfl (hb hby d19_0) rfl rfl kQ) ?_
    obtain ⟨cq386, kq386, q386a, q386b, q386c⟩ := isOf hZ e0 E370
    obtain ⟨_, _, ⟨T386, L386, k386, n386⟩, -, X386, ⟨Lc386, hQ386, l386, y386, z386⟩, st386⟩ := X0.virtualBack hx (y := m_11) (z := m_11) hown (mvT hZ (t_85 hw)) (mvT hZ (t_86 hw)) (notFace_of_selects (args := #[]) (mvT hZ (t_88 hw))) (mvT hZ (t_88 hw)) (mvT hZ (t_87 hw)) (by decide) (backOf (W := 0) (rm_isL1 l Z a0 hw [] a cs h0 n0 O0 u0 u1 C370) hZ (t_89 hw) (t_13 hw) (by decide) (by decide)) q386a q386c (g := (mkF me_ 1 #[.val (.ref a), .val (.int 1)] [(.ref a)])) rfl (by rw [hml]; rfl) (Steps.refl _) (argsL := []) (rest := []) (lenOf pd_6 rfl) rfl (by show 2 * 0 + _ ≤ _; exact Nat.le_of_eq rfl) (hb hby d19_1) (fun _ _ => ⟨rfl, e0, (by decide : 0 + 0 ≤ _), (by decide : 0 + 0 ≤ _)⟩)
    dsimp only [Pt.U, Pt.locs, Pt.cells, Pt.slots] at X386 l386 y386 z386 st386 hQ386
    subst l386 y386 z386
    obtain ⟨rfl, Nq386, eq386⟩ := hQ386
    have N387 := Fr.app N0 Nq386
    refine gv (fun _ kQ => st386.trans (XS.ifYes X386.here hx rfl (pc0 := 4) (pc' := 16) rfl (hb hby d19_4) rfl ((if0 _ _).trans (teq (by decide : (0 : Int32) = (0 : Int32))).1) (by decide) (by decide) (XS.aloadN X386.here hx rfl (hb hby d19_16) rfl rfl kQ))) ?_
    show G (T386.setTop (mkF me_ 17 #[.val (.ref a), .val (.int 1)] [(.ref a)]))
    obtain ⟨T388, X388, e388, st388⟩ := getF X386 hx hZ hown (host := "") (Or.inl (t_31 hw)) Via.refl eq386 V370 (g := (mkF me_ 17 #[.val (.ref a), .val (.int 1)] [(.ref a)])) rfl rfl (hb hby d19_17)
    refine gv st388 ?_
    refine gv (fun _ kQ => XS.iloadN X388.here hx rfl (hb hby d19_20) rfl kQ) ?_
    obtain ⟨_, _, ⟨T389, L389, k389, n389⟩, -, X389, ⟨Lc389, hQ389, l389, y389, z389⟩, st389⟩ := Jvm.LawKit.callS X388 hx (y := m_14) hown (mvT hZ (t_90 hw)) (mvT hZ (t_91 hw)) (mvT hZ (t_50 hw)) (mvT hZ (t_92 hw)) (by decide) (backOf (W := 0) (rm_uat3_1 l Z a0 hw [] b370 k370 ((c0 >>> ((0 : Int32) &&& 31)).toInt8.toInt32) ((c0 >>> ((8 : Int32) &&& 31)).toInt8.toInt32) ((c1 >>> ((0 : Int32) &&& 31)).toInt8.toInt32) ((c1 >>> ((8 : Int32) &&& 31)).toInt8.toInt32) ((c2 >>> ((0 : Int32) &&& 31)).toInt8.toInt32) ((c2 >>> ((8 : Int32) &&& 31)).toInt8.toInt32) fmt h0 n0 O0 u5 u6 u2 u3 u4 A370) hZ (t_92 hw) (t_50 hw) (by decide) (by decide)) (g := (mkF me_ 21 #[.val (.ref a), .val (.int 1)] [(.int 1), (.ref b370)])) rfl (by rw [hml]; rfl) (argsL := [(.ref b370), (.int 1)]) (rest := []) (lenOf pd_4 rfl) rfl (by show 2 * 0 + _ ≤ _; exact Nat.le_of_eq rfl) (hb hby d19_21) (fun _ _ => ⟨rfl, e388, (by decide : 0 + 0 ≤ _), (by decide : 0 + 0 ≤ _)⟩)
    dsimp only [Pt.U, Pt.locs, Pt.cells, Pt.slots] at X389 l389 y389 z389 st389 hQ389
    subst l389 y389 z389
    obtain ⟨rfl, Nq389, eq389⟩ := hQ389
    have N390 := Fr.app N387 Nq389
    refine gv st389 ?_
    refine gf _ (own_ret X389 Bd.notSynchronized (v := some (.int (own_gc ((c1 >>> ((0 : Int32) &&& 31)).toInt8.toInt32) ((c1 >>> ((8 : Int32) &&& 31)).toInt8.toInt32)))) (own_rv Bd.returns) ?_ (by decide) (by decide) (fun fs hr => retN X389 hx (t := .char) Bd.returns (by simp) (hb hby d19_24) (by rw [(own_gcn _ _)]; exact hr)))
    show Q_xat1 Z a ln c0 c1 c2 c3 cs fmt h0 n0 _ T389.heap _
    rw [eq389]
    exact ⟨(own_sv (own_gcp m370_1).symm), N390, rfl⟩
  · skip
    refine gv (fun _ kQ => XS.aloadN X0.here hx rfl (hb hby d19_0) rfl rfl kQ) ?_
    obtain ⟨cq391, kq391, q391a, q391b, q391c⟩ := isOf hZ e0 E370
    obtain ⟨_, _, ⟨T391, L391, k391, n391⟩, -, X391, ⟨Lc391, hQ391, l391, y391, z391⟩, st391⟩ := X0.virtualBack hx (y := m_11) (z := m_11) hown (mvT hZ (t_85 hw)) (mvT hZ (t_86 hw)) (notFace_of_selects (args := #[]) (mvT hZ (t_88 hw))) (mvT hZ (t_88 hw)) (mvT hZ (t_87 hw)) (by decide) (backOf (W := 0) (rm_isL0 l Z a0 hw [] a cs h0 n0 O0 u0 u1 C370) hZ (t_89 hw) (t_13 hw) (by decide) (by decide)) q391a q391c (g := (mkF me_ 1 #[.val (.ref a), .val (.int 1)] [(.ref a)])) rfl (by rw [hml]; rfl) (Steps.refl _) (argsL := []) (rest := []) (lenOf pd_6 rfl) rfl (by show 2 * 0 + _ ≤ _; exact Nat.le_of_eq rfl) (hb hby d19_1) (fun _ _ => ⟨rfl, e0, (by decide : 0 + 0 ≤ _), (by decide : 0 + 0 ≤ _)⟩)
    dsimp only [Pt.U, Pt.locs, Pt.cells, Pt.slots] at X391 l391 y391 z391 st391 hQ391
    subst l391 y391 z391
    obtain ⟨rfl, Nq391, eq391⟩ := hQ391
    have N392 := Fr.app N0 Nq391
    refine gv (fun _ kQ => st391.trans (XS.ifNo X391.here hx rfl (hb hby d19_4) rfl ((if0 _ _).trans (feq (by decide : ¬ ((1 : Int32) = (0 : Int32)))).1) (XS.aloadN X391.here hx rfl (hb hby d19_7) rfl rfl kQ))) ?_
    show G (T391.setTop (mkF me_ 8 #[.val (.ref a), .val (.int 1)] [(.ref a)]))
    obtain ⟨T393, X393, e393, st393⟩ := getF X391 hx hZ hown (host := "") (Or.inl (t_31 hw)) Via.refl eq391 V370 (g := (mkF me_ 8 #[.val (.ref a), .val (.int 1)] [(.ref a)])) rfl rfl (hb hby d19_8)
    refine gv st393 ?_
    refine gv (fun _ kQ => XS.iloadN X393.here hx rfl (hb hby d19_11) rfl kQ) ?_
    obtain ⟨_, _, ⟨T394, L394, k394, n394⟩, -, X394, ⟨Lc394, hQ394, l394, y394, z394⟩, st394⟩ := Jvm.LawKit.callS X393 hx (y := m_13) hown (mvT hZ (t_107 hw)) (mvT hZ (t_108 hw)) (mvT hZ (t_109 hw)) (mvT hZ (t_110 hw)) (by decide) (backOf (W := 0) (rm_l1at4_1 l Z a0 hw [] b370 k370 (c0.toInt8.toInt32) (c1.toInt8.toInt32) (c2.toInt8.toInt32) (c3.toInt8.toInt32) fmt h0 n0 O0 u5 u6 A370) hZ (t_110 hw) (t_109 hw) (by decide) (by decide)) (g := (mkF me_ 12 #[.val (.ref a), .val (.int 1)] [(.int 1), (.ref b370)])) rfl (by rw [hml]; rfl) (argsL := [(.ref b370), (.int 1)]) (rest := []) (lenOf pd_4 rfl) rfl (by show 2 * 0 + _ ≤ _; exact Nat.le_of_eq rfl) (hb hby d19_12) (fun _ _ => ⟨rfl, e393, (by decide : 0 + 0 ≤ _), (by decide : 0 + 0 ≤ _)⟩)
    dsimp only [Pt.U, Pt.locs, Pt.cells, Pt.slots] at X394 l394 y394 z394 st394 hQ394
    subst l394 y394 z394
    obtain ⟨rfl, Nq394, eq394⟩ := hQ394
    have N395 := Fr.app N392 Nq394
    refine gv st394 ?_
    refine gf _ (own_ret X394 Bd.notSynchronized (v := some (.int (((c1.toInt8.toInt32) &&& (255 : Int32)).toUInt32.toUInt16.toUInt32.toInt32))) (own_rv Bd.returns) ?_ (by decide) (by decide) (fun fs hr => retN X394 hx (t := .char) Bd.returns (by simp) (hb hby d19_15) (by rw [(own_narC _)]; exact hr)))
    show Q_xat1 Z a ln c0 c1 c2 c3 cs fmt h0 n0 _ T394.heap _
    rw [eq394]
    exact ⟨(own_sv (own_l1 m370_1 l370_1).symm), N395, rfl⟩
  · skip
    refine gv (fun _ kQ => XS.aloadN X0.here hx rfl (hb hby d19_0) rfl rfl kQ) ?_
    obtain ⟨cq396, kq396, q396a, q396b, q396c⟩ := isOf hZ e0 E370
    obtain ⟨_, _, ⟨T396, L396, k396, n396⟩, -, X396, ⟨Lc396, hQ396, l396, y396, z396⟩, st396⟩ := X0.virtualBack hx (y := m_11) (z := m_11) hown (mvT hZ (t_85 hw)) (mvT hZ (t_86 hw)) (notFace_of_selects (args := #[]) (mvT hZ (t_88 hw))) (mvT hZ (t_88 hw)) (mvT hZ (t_87 hw)) (by decide) (backOf (W := 0) (rm_isL1 l Z a0 hw [] a cs h0 n0 O0 u0 u1 C370) hZ (t_89 hw) (t_13 hw) (by decide) (by decide)) q396a q396c (g := (mkF me_ 1 #[.val (.ref a), .val (.int 1)] [(.ref a)])) rfl (by rw [hml]; rfl) (Steps.refl _) (argsL := []) (rest := []) (lenOf pd_6 rfl) rfl (by show 2 * 0 + _ ≤ _; exact Nat.le_of_eq rfl) (hb hby d19_1) (fun _ _ => ⟨rfl, e0, (by decide : 0 + 0 ≤ _), (by decide : 0 + 0 ≤ _)⟩)
    dsimp only [Pt.U, Pt.locs, Pt.cells, Pt.slots] at X396 l396 y396 z396 st396 hQ396
    subst l396 y396 z396
    obtain ⟨rfl, Nq396, eq396⟩ := hQ396
    have N397 := Fr.app N0 Nq396
    refine gv (fun _ kQ => st396.trans (XS.ifYes X396.here hx rfl (pc0 := 4) (pc' := 16) rfl (hb hby d19_4) rfl ((if0 _ _).trans (teq (by decide : (0 : Int32) = (0 : Int32))).1) (by decide) (by decide) (XS.aloadN X396.here hx rfl (hb hby d19_16) rfl rfl kQ))) ?_
    show G (T396.setTop (mkF me_ 17 #[.val (.ref a), .val (.int 1)] [(.ref a)]))
    obtain ⟨T398, X398, e398, st398⟩ := getF X396 hx hZ hown (host := "") (Or.inl (t_31 hw)) Via.refl eq396 V370 (g := (mkF me_ 17 #[.val (.ref a), .val (.int 1)] [(.ref a)])) rfl rfl (hb hby d19_17)
    refine gv st398 ?_
    refine gv (fun _ kQ => XS.iloadN X398.here hx rfl (hb hby d19_20) rfl kQ) ?_
    obtain ⟨_, _, ⟨T399, L399, k399, n399⟩, -, X399, ⟨Lc399, hQ399, l399, y399, z399⟩, st399⟩ := Jvm.LawKit.callS X398 hx (y := m_14) hown (mvT hZ (t_90 hw)) (mvT hZ (t_91 hw)) (mvT hZ (t_50 hw)) (mvT hZ (t_92 hw)) (by decide) (backOf (W := 0) (rm_uat4_1 l Z a0 hw [] b370 k370 ((c0 >>> ((0 : Int32) &&& 31)).toInt8.toInt32) ((c0 >>> ((8 : Int32) &&& 31)).toInt8.toInt32) ((c1 >>> ((0 : Int32) &&& 31)).toInt8.toInt32) ((c1 >>> ((8 : Int32) &&& 31)).toInt8.toInt32) ((c2 >>> ((0 : Int32) &&& 31)).toInt8.toInt32) ((c2 >>> ((8 : Int32) &&& 31)).toInt8.toInt32) ((c3 >>> ((0 : Int32) &&& 31)).toInt8.toInt32) ((c3 >>> ((8 : Int32) &&& 31)).toInt8.toInt32) fmt h0 n0 O0 u5 u6 u2 u3 u4 A370) hZ (t_92 hw) (t_50 hw) (by decide) (by decide)) (g := (mkF me_ 21 #[.val (.ref a), .val (.int 1)] [(.int 1), (.ref b370)])) rfl (by rw [hml]; rfl) (argsL := [(.ref b370), (.int 1)]) (rest := []) (lenOf pd_4 rfl) rfl (by show 2 * 0 + _ ≤ _; exact Nat.le_of_eq rfl) (hb hby d19_21) (fun _ _ => ⟨rfl, e398, (by decide : 0 + 0 ≤ _), (by decide : 0 + 0 ≤ _)⟩)
    dsimp only [Pt.U, Pt.locs, Pt.cells, Pt.slots] at X399 l399 y399 z399 st399 hQ399
    subst l399 y399 z399
    obtain ⟨rfl, Nq399, eq399⟩ := hQ399
    have N400 := Fr.app N397 Nq399
    refine gv st399 ?_
    refine gf _ (own_ret X399 Bd.notSynchronized (v := some (.int (own_gc ((c1 >>> ((0 : Int32) &&& 31)).toInt8.toInt32) ((c1 >>> ((8 : Int32) &&& 31)).toInt8.toInt32)))) (own_rv Bd.returns) ?_ (by decide) (by decide) (fun fs hr => retN X399 hx (t := .char) Bd.returns (by simp) (hb hby d19_24) (by rw [(own_gcn _ _)]; exact hr)))
    show Q_xat1 Z a ln c0 c1 c2 c3 cs fmt h0 n0 _ T399.heap _
    rw [eq399]
    exact ⟨(own_sv (own_gcp m370_1).symm), N400, rfl⟩
def Q_xat2 (Z : State) (a : Addr) (ln c0 : Int32) (c1 c2 : Int32) (c3 cs : Int32) (fmt : Value) (h0 : Heap) (n0 : Nat) (v : Option Value) (h : Heap) (L : List Loc) : Prop := v = some (.int c2) ∧ Fr n0 L ∧ h = h0
theorem rm_xat2 (l : Launch) (Z : State) (a0 : Array Value) (hw : own_HW Z a0) (ws : List Jvm.Cond) (a : Addr) (ln c0 : Int32) (c1 c2 : Int32) (c3 cs : Int32) (fmt : Value) (h0 : Heap) (n0 : Nat) (O0 : Old Z n0 h0) (u0 : Sta Z Z.heap "java/lang/String" "COMPACT_STRINGS" "Z" (.int cs)) (u1 : ¬ (cs = (0 : Int32))) (u2 : Sta Z Z.heap "java/lang/StringUTF16" "$assertionsDisabled" "Z" (.int 1)) (u3 : Sta Z Z.heap "java/lang/StringUTF16" "HI_BYTE_SHIFT" "I" (.int 0)) (u4 : Sta Z Z.heap "java/lang/StringUTF16" "LO_BYTE_SHIFT" "I" (.int 8)) (u5 : fmt.isRef = true) (u6 : Sta Z Z.heap "jdk/internal/util/Preconditions" "SIOOBE_FORMATTER" "Ljava/util/function/BiFunction;" fmt) (u7 : Exa Z h0 a "java/lang/String") (u8 : own_SX Z h0 a ln c0 c1 c2 c3) (u9 : (2 : Int32) < ln) :
    own_Met l Z m_8 jdk_42_method_56_code 2 (some .char) ws (own_R 4 0 0 53) #[(.ref a), (.int 2)] h0 (Q_xat2 Z a ln c0 c1 c2 c3 cs fmt h0 n0) := by
  refine own_open (plainFor_of_name pn_0) (fun pr_ en_ st_ me_ below meth_ co_ s₁ Bd hx hby hml hown hZ X0 e0 G gv gf => ?_)
  have N0 := Fr.nil n0
  refine gv (fun _ kQ => castTop (ef_4 me_ a (2 : Int32)) kQ) ?_
  show G (s₁.setTop (mkF me_ 0 #[.val (.ref a), .val (.int 2)] []))
  rcases u8 with ⟨q401, b401, k401, E401, C401, V401, A401⟩ | ⟨q401, ⟨b401, k401, E401, C401, V401, A401, l401_0⟩ | ⟨b401, k401, E401, C401, V401, A401⟩, m401_0⟩ | ⟨q401, ⟨b401, k401, E401, C401, V401, A401, l401_0, l401_1⟩ | ⟨b401, k401, E401, C401, V401, A401⟩, m401_0, m401_1⟩ | ⟨q401, ⟨b401, k401, E401, C401, V401, A401, l401_0, l401_1, l401_2⟩ | ⟨b401, k401, E401, C401, V401, A401⟩, m401_0, m401_1, m401_2⟩ | ⟨q401, ⟨b401, k401, E401, C401, V401, A401, l401_0, l401_1, l401_2, l401_3⟩ | ⟨b401, k401, E401, C401, V401, A401⟩, m401_0, m401_1, m401_2, m401_3⟩
  · exact absurd u9 (by rw [q401]; decide)
  · exact absurd u9 (by rw [q401]; decide)
  · exact absurd u9 (by rw [q401]; decide)
  · exact absurd u9 (by rw [q401]; decide)
  · exact absurd u9 (by rw [q401]; decide)
  · skip
    refine gv (fun _ kQ => XS.aloadN X0.here hx rfl (hb hby d19_0) rfl rfl kQ) ?_
    obtain ⟨cq402, kq402, q402a, q402b, q402c⟩ := isOf hZ e0 E401
    obtain ⟨_, _, ⟨T402, L402, k402, n402⟩, -, X402, ⟨Lc402, hQ402, l402, y402, z402⟩, st402⟩ := X0.virtualBack hx (y := m_11) (z := m_11) hown (mvT hZ (t_85 hw)) (mvT hZ (t_86 hw)) (notFace_of_selects (args := #[]) (mvT hZ (t_88 hw))) (mvT hZ (t_88 hw)) (mvT hZ (t_87 hw)) (by decide) (backOf (W := 0) (rm_isL0 l Z a0 hw [] a cs h0 n0 O0 u0 u1 C401) hZ (t_89 hw) (t_13 hw) (by decide) (by decide)) q402a q402c (g := (mkF me_ 1 #[.val (.ref a), .val (.int 2)] [(.ref a)])) rfl (by rw [hml]; rfl) (Steps.refl _) (argsL := []) (rest := []) (lenOf pd_6 rfl) rfl (by show 2 * 0 + _ ≤ _; exact Nat.le_of_eq rfl) (hb hby d19_1) (fun _ _ => ⟨rfl, e0, (by decide : 0 + 0 ≤ _), (by decide : 0 + 0 ≤ _)⟩)
    dsimp only [Pt.U, Pt.locs, Pt.cells, Pt.slots] at X402 l402 y402 z402 st402 hQ402
    subst l402 y402 z402
    obtain ⟨rfl, Nq402, eq402⟩ := hQ402
    have N403 := Fr.app N0 Nq402
    refine gv (fun _ kQ => st402.trans (XS.ifNo X402.here hx rfl (hb hby d19_4) rfl ((if0 _ _).trans (feq (by decide : ¬ ((1 : Int32) = (0 : Int32)))).1) (XS.aloadN X402.here hx rfl (hb hby d19_7) rfl rfl kQ))) ?_
    show G (T402.setTop (mkF me_ 8 #[.val (.ref a), .val (.int 2)] [(.ref a)]))
    obtain ⟨T404, X404, e404, st404⟩ := getF X402 hx hZ hown (host := "") (Or.inl (t_31 hw)) Via.refl eq402 V401 (g := (mkF me_ 8 #[.val (.ref a), .val (.int 2)] [(.ref a)])) rfl rfl (hb hby d19_8)
    refine gv st404 ?_
    refine gv (fun _ kQ => XS.iloadN X404.here hx rfl (hb hby d19_11) rfl kQ) ?_
    obtain ⟨_, _, ⟨T405, L405, k405, n405⟩, -, X405, ⟨Lc405, hQ405, l405, y405, z405⟩, st405⟩ := Jvm.LawKit.callS X404 hx (y := m_13) hown (mvT hZ (t_107 hw)) (mvT hZ (t_108 hw)) (mvT hZ (t_109 hw)) (mvT hZ (t_110 hw)) (by decide) (backOf (W := 0) (rm_l1at3_2 l Z a0 hw [] b401 k401 (c0.toInt8.toInt32) (c1.toInt8.toInt32) (c2.toInt8.toInt32) fmt h0 n0 O0 u5 u6 A401) hZ (t_110 hw) (t_109 hw) (by decide) (by decide)) (g := (mkF me_ 12 #[.val (.ref a), .val (.int 2)] [(.int 2), (.ref b401)])) rfl (by rw [hml]; rfl) (argsL := [(.ref b401), (.int 2)]) (rest := []) (lenOf pd_4 rfl) rfl (by show 2 * 0 + _ ≤ _; exact Nat.le_of_eq rfl) (hb hby d19_12) (fun _ _ => ⟨rfl, e404, (by decide : 0 + 0 ≤ _), (by decide : 0 + 0 ≤ _)⟩)
    dsimp only [Pt.U, Pt.locs, Pt.cells, Pt.slots] at X405 l405 y405 z405 st405 hQ405
    subst l405 y405 z405
    obtain ⟨rfl, Nq405, eq405⟩ := hQ405
    have N406 := Fr.app N403 Nq405
    refine gv st405 ?_
    refine gf _ (own_ret X405 Bd.notSynchronized (v := some (.int (((c2.toInt8.toInt32) &&& (255 : Int32)).toUInt32.toUInt16.toUInt32.toInt32))) (own_rv Bd.returns) ?_ (by decide) (by decide) (fun fs hr => retN X405 hx (t := .char) Bd.returns (by simp) (hb hby d19_15) (by rw [(own_narC _)]; exact hr)))
    show Q_xat2 Z a ln c0 c1 c2 c3 cs fmt h0 n0 _ T405.heap _
    rw [eq405]
    exact ⟨(own_sv (own_l1 m401_2 l401_2).symm), N406, rfl⟩
  · skip
    refine gv (fun _ kQ => XS.aloadN X0.here hx rfl (hb hby d19_0) rfl rfl kQ) ?_
    obtain ⟨cq407, kq407, q407a, q407b, q407c⟩ := isOf hZ e0 E401
    obtain ⟨_, _, ⟨T407, L407, k407, n407⟩, -, X407, ⟨Lc407, hQ407, l407, y407, z407⟩, st407⟩ := X0.virtualBack hx (y := m_11) (z := m_11) hown (mvT hZ (t_85 hw)) (mvT hZ (t_86 hw)) (notFace_of_selects (args := #[]) (mvT hZ (t_88 hw))) (mvT hZ (t_88 hw)) (mvT hZ (t_87 hw)) (by decide) (backOf (W := 0) (rm_isL1 l Z a0 hw [] a cs h0 n0 O0 u0 u1 C401) hZ (t_89 hw) (t_13 hw) (by decide) (by decide)) q407a q407c (g := (mkF me_ 1 #[.val (.ref a), .val (.int 2)] [(.ref a)])) rfl (by rw [hml]; rfl) (Steps.refl _) (argsL := []) (rest := []) (lenOf pd_6 rfl) rfl (by show 2 * 0 + _ ≤ _; exact Nat.le_of_eq rfl) (hb hby d19_1) (fun _ _ => ⟨rfl, e0, (by decide : 0 + 0 ≤ _), (by decide : 0 + 0 ≤ _)⟩)
    dsimp only [Pt.U, Pt.locs, Pt.cells, Pt.slots] at X407 l407 y407 z407 st407 hQ407
    subst l407 y407 z407
    obtain ⟨rfl, Nq407, eq407⟩ := hQ407
    have N408 := Fr.app N0 Nq407
    refine gv (fun _ kQ => st407.trans (XS.ifYes X407.here hx rfl (pc0 := 4) (pc' := 16) rfl (hb hby d19_4) rfl ((if0 _ _).trans (teq (by decide : (0 : Int32) = (0 : Int32))).1) (by decide) (by decide) (XS.aloadN X407.here hx rfl (hb hby d19_16) rfl rfl kQ))) ?_
    show G (T407.setTop (mkF me_ 17 #[.val (.ref a), .val (.int 2)] [(.ref a)]))
    obtain ⟨T409, X409, e409, st409⟩ := getF X407 hx hZ hown (host := "") (Or.inl (t_31 hw)) Via.refl eq407 V401 (g := (mkF me_ 17 #[.val (.ref a), .val (.int 2)] [(.ref a)])) rfl rfl (hb hby d19_17)
    refine gv st409 ?_
    refine gv (fun _ kQ => XS.iloadN X409.here hx rfl (hb hby d19_20) rfl kQ) ?_
    obtain ⟨_, _, ⟨T410, L410, k410, n410⟩, -, X410, ⟨Lc410, hQ410, l410, y410, z410⟩, st410⟩ := Jvm.LawKit.callS X409 hx (y := m_14) hown (mvT hZ (t_90 hw)) (mvT hZ (t_91 hw)) (mvT hZ (t_50 hw)) (mvT hZ (t_92 hw)) (by decide) (backOf (W := 0) (rm_uat3_2 l Z a0 hw [] b401 k401 ((c0 >>> ((0 : Int32) &&& 31)).toInt8.toInt32) ((c0 >>> ((8 : Int32) &&& 31)).toInt8.toInt32) ((c1 >>> ((0 : Int32) &&& 31)).toInt8.toInt32) ((c1 >>> ((8 : Int32) &&& 31)).toInt8.toInt32) ((c2 >>> ((0 : Int32) &&& 31)).toInt8.toInt32) ((c2 >>> ((8 : Int32) &&& 31)).toInt8.toInt32) fmt h0 n0 O0 u5 u6 u2 u3 u4 A401) hZ (t_92 hw) (t_50 hw) (by decide) (by decide)) (g := (mkF me_ 21 #[.val (.ref a), .val (.int 2)] [(.int 2), (.ref b401)])) rfl (by rw [hml]; rfl) (argsL := [(.ref b401), (.int 2)]) (rest := []) (lenOf pd_4 rfl) rfl (by show 2 * 0 + _ ≤ _; exact Nat.le_of_eq rfl) (hb hby d19_21) (fun _ _ => ⟨rfl, e409, (by decide : 0 + 0 ≤ _), (by decide : 0 + 0 ≤ _)⟩)
    dsimp only [Pt.U, Pt.locs, Pt.cells, Pt.slots] at X410 l410 y410 z410 st410 hQ410
    subst l410 y410 z410
    obtain ⟨rfl, Nq410, eq410⟩ := hQ410
    have N411 := Fr.app N408 Nq410
    refine gv st410 ?_
    refine gf _ (own_ret X410 Bd.notSynchronized (v := some (.int (own_gc ((c2 >>> ((0 : Int32) &&& 31)).toInt8.toInt32) ((c2 >>> ((8 : Int32) &&& 31)).toInt8.toInt32)))) (own_rv Bd.returns) ?_ (by decide) (by decide) (fun fs hr => retN X410 hx (t := .char) Bd.returns (by simp) (hb hby d19_24) (by rw [(own_gcn _ _)]; exact hr)))
    show Q_xat2 Z a ln c0 c1 c2 c3 cs fmt h0 n0 _ T410.heap _
    rw [eq410]
    exact ⟨(own_sv (own_gcp m401_2).symm), N411, rfl⟩
  · skip
    refine gv (fun _ kQ => XS.aloadN X0.here hx rfl (hb hby d19_0) rfl rfl kQ) ?_
    obtain ⟨cq412, kq412, q412a, q412b, q412c⟩ := isOf hZ e0 E401
    obtain ⟨_, _, ⟨T412, L412, k412, n412⟩, -, X412, ⟨Lc412, hQ412, l412, y412, z412⟩, st412⟩ := X0.virtualBack hx (y := m_11) (z := m_11) hown (mvT hZ (t_85 hw)) (mvT hZ (t_86 hw)) (notFace_of_selects (args := #[]) (mvT hZ (t_88 hw))) (mvT hZ (t_88 hw)) (mvT hZ (t_87 hw)) (by decide) (backOf (W := 0) (rm_isL0 l Z a0 hw [] a cs h0 n0 O0 u0 u1 C401) hZ (t_89 hw) (t_13 hw) (by decide) (by decide)) q412a q412c (g := (mkF me_ 1 #[.val (.ref a), .val (.int 2)] [(.ref a)])) rfl (by rw [hml]; rfl) (Steps.refl _) (argsL := []) (rest := []) (lenOf pd_6 rfl) rfl (by show 2 * 0 + _ ≤ _; exact Nat.le_of_eq rfl) (hb hby d19_1) (fun _ _ => ⟨rfl, e0, (by decide : 0 + 0 ≤ _), (by decide : 0 + 0 ≤ _)⟩)
    dsimp only [Pt.U, Pt.locs, Pt.cells, Pt.slots] at X412 l412 y412 z412 st412 hQ412
    subst l412 y412 z412
    obtain ⟨rfl, Nq412, eq412⟩ := hQ412
    have N413 := Fr.app N0 Nq412
    refine gv (fun _ kQ => st412.trans (XS.ifNo X412.here hx rfl (hb hby d19_4) rfl ((if0 _ _).trans (feq (by decide : ¬ ((1 : Int32) = (0 : Int32)))).1) (XS.aloadN X412.here hx rfl (hb hby d19_7) rfl rfl kQ))) ?_
    show G (T412.setTop (mkF me_ 8 #[.val (.ref a), .val (.int 2)] [(.ref a)]))
    obtain ⟨T414, X414, e414, st414⟩ := getF X412 hx hZ hown (host := "") (Or.inl (t_31 hw)) Via.refl eq412 V401 (g := (mkF me_ 8 #[.val (.ref a), .val (.int 2)] [(.ref a)])) rfl rfl (hb hby d19_8)
    refine gv st414 ?_
    refine gv (fun _ kQ => XS.iloadN X414.here hx rfl (hb hby d19_11) rfl kQ) ?_
    obtain ⟨_, _, ⟨T415, L415, k415, n415⟩, -, X415, ⟨Lc415, hQ415, l415, y415, z415⟩, st415⟩ := Jvm.LawKit.callS X414 hx (y := m_13) hown (mvT hZ (t_107 hw)) (mvT hZ (t_108 hw)) (mvT hZ (t_109 hw)) (mvT hZ (t_110 hw)) (by decide) (backOf (W := 0) (rm_l1at4_2 l Z a0 hw [] b401 k401 (c0.toInt8.toInt32) (c1.toInt8.toInt32) (c2.toInt8.toInt32) (c3.toInt8.toInt32) fmt h0 n0 O0 u5 u6 A401) hZ (t_110 hw) (t_109 hw) (by decide) (by decide)) (g := (mkF me_ 12 #[.val (.ref a), .val (.int 2)] [(.int 2), (.ref b401)])) rfl (by rw [hml]; rfl) (argsL := [(.ref b401), (.int 2)]) (rest := []) (lenOf pd_4 rfl) rfl (by show 2 * 0 + _ ≤ _; exact Nat.le_of_eq rfl) (hb hby d19_12) (fun _ _ => ⟨rfl, e414, (by decide : 0 + 0 ≤ _), (by decide : 0 + 0 ≤ _)⟩)
    dsimp only [Pt.U, Pt.locs, Pt.cells, Pt.slots] at X415 l415 y415 z415 st415 hQ415
    subst l415 y415 z415
    obtain ⟨rfl, Nq415, eq415⟩ := hQ415
    have N416 := Fr.app N413 Nq415
    refine gv st415 ?_
    refine gf _ (own_ret X415 Bd.notSynchronized (v := some (.int (((c2.toInt8.toInt32) &&& (255 : Int32)).toUInt32.toUInt16.toUInt32.toInt32))) (own_rv Bd.returns) ?_ (by decide) (by decide) (fun fs hr => retN X415 hx (t := .char) Bd.returns (by simp) (hb hby d19_15) (by rw [(own_narC _)]; exact hr)))
    show Q_xat2 Z a ln c0 c1 c2 c3 cs fmt h0 n0 _ T415.heap _
    rw [eq415]
    exact ⟨(own_sv (own_l1 m401_2 l401_2).symm), N416, rfl⟩
  · skip
    refine gv (fun _ kQ => XS.aloadN X0.here hx rfl (hb hby d19_0) rfl rfl kQ) ?_
    obtain ⟨cq417, kq417, q417a, q417b, q417c⟩ := isOf hZ e0 E401
    obtain ⟨_, _, ⟨T417, L417, k417, n417⟩, -, X417, ⟨Lc417, hQ417, l417, y417, z417⟩, st417⟩ := X0.virtualBack hx (y := m_11) (z := m_11) hown (mvT hZ (t_85 hw)) (mvT hZ (t_86 hw)) (notFace_of_selects (args := #[]) (mvT hZ (t_88 hw))) (mvT hZ (t_88 hw)) (mvT hZ (t_87 hw)) (by decide) (backOf (W := 0) (rm_isL1 l Z a0 hw [] a cs h0 n0 O0 u0 u1 C401) hZ (t_89 hw) (t_13 hw) (by decide) (by decide)) q417a q417c (g := (mkF me_ 1 #[.val (.ref a), .val (.int 2)] [(.ref a)])) rfl (by rw [hml]; rfl) (Steps.refl _) (argsL := []) (rest := []) (lenOf pd_6 rfl) rfl (by show 2 * 0 + _ ≤ _; exact Nat.le_of_eq rfl) (hb hby d19_1) (fun _ _ => ⟨rfl, e0, (by decide : 0 + 0 ≤ _), (by decide : 0 + 0 ≤ _)⟩)
    dsimp only [Pt.U, Pt.locs, Pt.cells, Pt.slots] at X417 l417 y417 z417 st417 hQ417
    subst l417 y417 z417
    obtain ⟨rfl, Nq417, eq417⟩ := hQ417
    have N418 := Fr.app N0 Nq417
    refine gv (fun _ kQ => st417.trans (XS.ifYes X417.here hx rfl (pc0 := 4) (pc' := 16) rfl (hb hby d19_4) rfl ((if0 _ _).trans (teq (by decide : (0 : Int32) = (0 : Int32))).1) (by decide) (by decide) (XS.aloadN X417.here hx rfl (hb hby d19_16) rfl rfl kQ))) ?_
    show G (T417.setTop (mkF me_ 17 #[.val (.ref a), .val (.int 2)] [(.ref a)]))
    obtain ⟨T419, X419, e419, st419⟩ := getF X417 hx hZ hown (host := "") (Or.inl (t_31 hw)) Via.refl eq417 V401 (g := (mkF me_ 17 #[.val (.ref a), .val (.int 2)] [(.ref a)])) rfl rfl (hb hby d19_17)
    refine gv st419 ?_
    refine gv (fun _ kQ => XS.iloadN X419.here hx rfl (hb hby d19_20) rfl kQ) ?_
    obtain ⟨_, _, ⟨T420, L420, k420, n420⟩, -, X420, ⟨Lc420, hQ420, l420, y420, z420⟩, st420⟩ := Jvm.LawKit.callS X419 hx (y := m_14) hown (mvT hZ (t_90 hw)) (mvT hZ (t_91 hw)) (mvT hZ (t_50 hw)) (mvT hZ (t_92 hw)) (by decide) (backOf (W := 0) (rm_uat4_2 l Z a0 hw [] b401 k401 ((c0 >>> ((0 : Int32) &&& 31)).toInt8.toInt32) ((c0 >>> ((8 : Int32) &&& 31)).toInt8.toInt32) ((c1 >>> ((0 : Int32) &&& 31)).toInt8.toInt32) ((c1 >>> ((8 : Int32) &&& 31)).toInt8.toInt32) ((c2 >>> ((0 : Int32) &&& 31)).toInt8.toInt32) ((c2 >>> ((8 : Int32) &&& 31)).toInt8.toInt32) ((c3 >>> ((0 : Int32) &&& 31)).toInt8.toInt32) ((c3 >>> ((8 : Int32) &&& 31)).toInt8.toInt32) fmt h0 n0 O0 u5 u6 u2 u3 u4 A401) hZ (t_92 hw) (t_50 hw) (by decide) (by decide)) (g := (mkF me_ 21 #[.val (.ref a), .val (.int 2)] [(.int 2), (.ref b401)])) rfl (by rw [hml]; rfl) (argsL := [(.ref b401), (.int 2)]) (rest := []) (lenOf pd_4 rfl) rfl (by show 2 * 0 + _ ≤ _; exact Nat.le_of_eq rfl) (hb hby d19_21) (fun _ _ => ⟨rfl, e419, (by decide : 0 + 0 ≤ _), (by decide : 0 + 0 ≤ _)⟩)
    dsimp only [Pt.U, Pt.locs, Pt.cells, Pt.slots] at X420 l420 y420 z420 st420 hQ420
    subst l420 y420 z420
    obtain ⟨rfl, Nq420, eq420⟩ := hQ420
    have N421 := Fr.app N418 Nq420
    refine gv st420 ?_
    refine gf _ (own_ret X420 Bd.notSynchronized (v := some (.int (own_gc ((c2 >>> ((0 : Int32) &&& 31)).toInt8.toInt32) ((c2 >>> ((8 : Int32) &&& 31)).toInt8.toInt32)))) (own_rv Bd.returns) ?_ (by decide) (by decide) (fun fs hr => retN X420 hx (t := .char) Bd.returns (by simp) (hb hby d19_24) (by rw [(own_gcn _ _)]; exact hr)))
    show Q_xat2 Z a ln c0 c1 c2 c3 cs fmt h0 n0 _ T420.heap _
    rw [eq420]
    exact ⟨(own_sv (own_gcp m401_2).symm), N421, rfl⟩
def Q_xat3 (Z : State) (a : Addr) (ln c0 : Int32) (c1 c2 : Int32) (c3 cs : Int32) (fmt : Value) (h0 : Heap) (n0 : Nat) (v : Option Value) (h : Heap) (L : List Loc) : Prop := v = some (.int c3) ∧ Fr n0 L ∧ h = h0
theorem rm_xat3 (l : Launch) (Z : State) (a0 : Array Value) (hw : own_HW Z a0) (ws : List Jvm.Cond) (a : Addr) (ln c0 : Int32) (c1 c2 : Int32) (c3 cs : Int32) (fmt : Value) (h0 : Heap) (n0 : Nat) (O0 : Old Z n0 h0) (u0 : Sta Z Z.heap "java/lang/String" "COMPACT_STRINGS" "Z" (.int cs)) (u1 : ¬ (cs = (0 : Int32))) (u2 : Sta Z Z.heap "java/lang/StringUTF16" "$assertionsDisabled" "Z" (.int 1)) (u3 : Sta Z Z.heap "java/lang/StringUTF16" "HI_BYTE_SHIFT" "I" (.int 0)) (u4 : Sta Z Z.heap "java/lang/StringUTF16" "LO_BYTE_SHIFT" "I" (.int 8)) (u5 : fmt.isRef = true) (u6 : Sta Z Z.heap "jdk/internal/util/Preconditions" "SIOOBE_FORMATTER" "Ljava/util/function/BiFunction;" fmt) (u7 : Exa Z h0 a "java/lang/String") (u8 : own_SX Z h0 a ln c0 c1 c2 c3) (u9 : (3 : Int32) < ln) :
    own_Met l Z m_8 jdk_42_method_56_code 2 (some .char) ws (own_R 4 0 0 53) #[(.ref a), (.int 3)] h0 (Q_xat3 Z a ln c0 c1 c2 c3 cs fmt h0 n0) := by
  refine own_open (plainFor_of_name pn_0) (fun pr_ en_ st_ me_ below meth_ co_ s₁ Bd hx hby hml hown hZ X0 e0 G gv gf => ?_)
  have N0 := Fr.nil n0
  refine gv (fun _ kQ => castTop (ef_4 me_ a (3 : Int32)) kQ) ?_
  show G (s₁.setTop (mkF me_ 0 #[.val (.ref a), .val (.int 3)] []))
  rcases u8 with ⟨q422, b422, k422, E422, C422, V422, A422⟩ | ⟨q422, ⟨b422, k422, E422, C422, V422, A422, l422_0⟩ | ⟨b422, k422, E422, C422, V422, A422⟩, m422_0⟩ | ⟨q422, ⟨b422, k422, E422, C422, V422, A422, l422_0, l422_1⟩ | ⟨b422, k422, E422, C422, V422, A422⟩, m422_0, m422_1⟩ | ⟨q422, ⟨b422, k422, E422, C422, V422, A422, l422_0, l422_1, l422_2⟩ | ⟨b422, k422, E422, C422, V422, A422⟩, m422_0, m422_1, m422_2⟩ | ⟨q422, ⟨b422, k422, E422, C422, V422, A422, l422_0, l422_1, l422_2, l422_3⟩ | ⟨b422, k422, E422, C422, V422, A422⟩, m422_0, m422_1, m422_2, m422_3⟩
  · exact absurd u9 (by rw [q422]; decide)
  · exact absurd u9 (by rw [q422]; decide)
  · exact absurd u9 (by rw [q422]; decide)
  · exact absurd u9 (by rw [q422]; decide)
  · exact absurd u9 (by rw [q422]; decide)
  · exact absurd u9 (by rw [q422]; decide)
  · exact absurd u9 (by rw [q422]; decide)
  · skip
    refine gv (fun _ kQ => XS.aloadN X0.here hx rfl (hb hby d19_0) rfl rfl kQ) ?_
    obtain ⟨cq423, kq423, q423a, q423b, q423c⟩ := isOf hZ e0 E422
    obtain ⟨_, _, ⟨T423, L423, k423, n423⟩, -, X423, ⟨Lc423, hQ423, l423, y423, z423⟩, st423⟩ := X0.virtualBack hx (y := m_11) (z := m_11) hown (mvT hZ (t_85 hw)) (mvT hZ (t_86 hw)) (notFace_of_selects (args := #[]) (mvT hZ (t_88 hw))) (mvT hZ (t_88 hw)) (mvT hZ (t_87 hw)) (by decide) (backOf (W := 0) (rm_isL0 l Z a0 hw [] a cs h0 n0 O0 u0 u1 C422) hZ (t_89 hw) (t_13 hw) (by decide) (by decide)) q423a q423c (g := (mkF me_ 1 #[.val (.ref a), .val (.int 3)] [(.ref a)])) rfl (by rw [hml]; rfl) (Steps.refl _) (argsL := []) (rest := []) (lenOf pd_6 rfl) rfl (by show 2 * 0 + _ ≤ _; exact Nat.le_of_eq rfl) (hb hby d19_1) (fun _ _ => ⟨rfl, e0, (by decide : 0 + 0 ≤ _), (by decide : 0 + 0 ≤ _)⟩)
    dsimp only [Pt.U, Pt.locs, Pt.cells, Pt.slots] at X423 l423 y423 z423 st423 hQ423
    subst l423 y423 z423
    obtain ⟨rfl, Nq423, eq423⟩ := hQ423
    have N424 := Fr.app N0 Nq423
    refine gv (fun _ kQ => st423.trans (XS.ifNo X423.here hx rfl (hb hby d19_4) rfl ((if0 _ _).trans (feq (by decide : ¬ ((1 : Int32) = (0 : Int32)))).1) (XS.aloadN X423.here hx rfl (hb hby d19_7) rfl rfl kQ))) ?_
    show G (T423.setTop (mkF me_ 8 #[.val (.ref a), .val (.int 3)] [(.ref a)]))
    obtain ⟨T425, X425, e425, st425⟩ := getF X423 hx hZ hown (host := "") (Or.inl (t_31 hw)) Via.refl eq423 V422 (g := (mkF me_ 8 #[.val (.ref a), .val (.int 3)] [(.ref a)])) rfl rfl (hb hby d19_8)
    refine gv st425 ?_
    refine gv (fun _ kQ => XS.iloadN X425.here hx rfl (hb hby d19_11) rfl kQ) ?_
    obtain ⟨_, _, ⟨T426, L426, k426, n426⟩, -, X426, ⟨Lc426, hQ426, l426, y426, z426⟩, st426⟩ := Jvm.LawKit.callS X425 hx (y := m_13) hown (mvT hZ (t_107 hw)) (mvT hZ (t_108 hw)) (mvT hZ (t_109 hw)) (mvT hZ (t_110 hw)) (by decide) (backOf (W := 0) (rm_l1at4_3 l Z a0 hw [] b422 k422 (c0.toInt8.toInt32) (c1.toInt8.toInt32) (c2.toInt8.toInt32) (c3.toInt8.toInt32) fmt h0 n0 O0 u5 u6 A422) hZ (t_110 hw) (t_109 hw) (by decide) (by decide)) (g := (mkF me_ 12 #[.val (.ref a), .val (.int 3)] [(.int 3), (.ref b422)])) rfl (by rw [hml]; rfl) (argsL := [(.ref b422), (.int 3)]) (rest := []) (lenOf pd_4 rfl) rfl (by show 2 * 0 + _ ≤ _; exact Nat.le_of_eq rfl) (hb hby d19_12) (fun _ _ => ⟨rfl, e425, (by decide : 0 + 0 ≤ _), (by decide : 0 + 0 ≤ _)⟩)
    dsimp only [Pt.U, Pt.locs, Pt.cells, Pt.slots] at X426 l426 y426 z426 st426 hQ426
    subst l426 y426 z426
    obtain ⟨rfl, Nq426, eq426⟩ := hQ426
    have N427 := Fr.app N424 Nq426
    refine gv st426 ?_
    refine gf _ (own_ret X426 Bd.notSynchronized (v := some (.int (((c3.toInt8.toInt32) &&& (255 : Int32)).toUInt32.toUInt16.toUInt32.toInt32))) (own_rv Bd.returns) ?_ (by decide) (by decide) (fun fs hr => retN X426 hx (t := .char) Bd.returns (by simp) (hb hby d19_15) (by rw [(own_narC _)]; exact hr)))
    show Q_xat3 Z a ln c0 c1 c2 c3 cs fmt h0 n0 _ T426.heap _
    rw [eq426]
    exact ⟨(own_sv (own_l1 m422_3 l422_3).symm), N427, rfl⟩
  · skip
    refine gv (fun _ kQ => XS.aloadN X0.here hx rfl (hb hby d19_0) rfl rfl kQ) ?_
    obtain ⟨cq428, kq428, q428a, q428b, q428c⟩ := isOf hZ e0 E422
    obtain ⟨_, _, ⟨T428, L428, k428, n428⟩, -, X428, ⟨Lc428, hQ428, l428, y428, z428⟩, st428⟩ := X0.virtualBack hx (y := m_11) (z := m_11) hown (mvT hZ (t_85 hw)) (mvT hZ (t_86 hw)) (notFace_of_selects (args := #[]) (mvT hZ (t_88 hw))) (mvT hZ (t_88 hw)) (mvT hZ (t_87 hw)) (by decide) (backOf (W := 0) (rm_isL1 l Z a0 hw [] a cs h0 n0 O0 u0 u1 C422) hZ (t_89 hw) (t_13 hw) (by decide) (by decide)) q428a q428c (g := (mkF me_ 1 #[.val (.ref a), .val (.int 3)] [(.ref a)])) rfl (by rw [hml]; rfl) (Steps.refl _) (argsL := []) (rest := []) (lenOf pd_6 rfl) rfl (by show 2 * 0 + _ ≤ _; exact Nat.le_of_eq rfl) (hb hby d19_1) (fun _ _ => ⟨rfl, e0, (by decide : 0 + 0 ≤ _), (by decide : 0 + 0 ≤ _)⟩)
    dsimp only [Pt.U, Pt.locs, Pt.cells, Pt.slots] at X428 l428 y428 z428 st428 hQ428
    subst l428 y428 z428
    obtain ⟨rfl, Nq428, eq428⟩ := hQ428
    have N429 := Fr.app N0 Nq428
    refine gv (fun _ kQ => st428.trans (XS.ifYes X428.here hx rfl (pc0 := 4) (pc' := 16) rfl (hb hby d19_4) rfl ((if0 _ _).trans (teq (by decide : (0 : Int32) = (0 : Int32))).1) (by decide) (by decide) (XS.aloadN X428.here hx rfl (hb hby d19_16) rfl rfl kQ))) ?_
    show G (T428.setTop (mkF me_ 17 #[.val (.ref a), .val (.int 3)] [(.ref a)]))
    obtain ⟨T430, X430, e430, st430⟩ := getF X428 hx hZ hown (host := "") (Or.inl (t_31 hw)) Via.refl eq428 V422 (g := (mkF me_ 17 #[.val (.ref a), .val (.int 3)] [(.ref a)])) rfl rfl (hb hby d19_17)
    refine gv st430 ?_
    refine gv (fun _ kQ => XS.iloadN X430.here hx rfl (hb hby d19_20) rfl kQ) ?_
    obtain ⟨_, _, ⟨T431, L431, k431, n431⟩, -, X431, ⟨Lc431, hQ431, l431, y431, z431⟩, st431⟩ := Jvm.LawKit.callS X430 hx (y := m_14) hown (mvT hZ (t_90 hw)) (mvT hZ (t_91 hw)) (mvT hZ (t_50 hw)) (mvT hZ (t_92 hw)) (by decide) (backOf (W := 0) (rm_uat4_3 l Z a0 hw [] b422 k422 ((c0 >>> ((0 : Int32) &&& 31)).toInt8.toInt32) ((c0 >>> ((8 : Int32) &&& 31)).toInt8.toInt32) ((c1 >>> ((0 : Int32) &&& 31)).toInt8.toInt32) ((c1 >>> ((8 : Int32) &&& 31)).toInt8.toInt32) ((c2 >>> ((0 : Int32) &&& 31)).toInt8.toInt32) ((c2 >>> ((8 : Int32) &&& 31)).toInt8.toInt32) ((c3 >>> ((0 : Int32) &&& 31)).toInt8.toInt32) ((c3 >>> ((8 : Int32) &&& 31)).toInt8.toInt32) fmt h0 n0 O0 u5 u6 u2 u3 u4 A422) hZ (t_92 hw) (t_50 hw) (by decide) (by decide)) (g := (mkF me_ 21 #[.val (.ref a), .val (.int 3)] [(.int 3), (.ref b422)])) rfl (by rw [hml]; rfl) (argsL := [(.ref b422), (.int 3)]) (rest := []) (lenOf pd_4 rfl) rfl (by show 2 * 0 + _ ≤ _; exact Nat.le_of_eq rfl) (hb hby d19_21) (fun _ _ => ⟨rfl, e430, (by decide : 0 + 0 ≤ _), (by decide : 0 + 0 ≤ _)⟩)
    dsimp only [Pt.U, Pt.locs, Pt.cells, Pt.slots] at X431 l431 y431 z431 st431 hQ431
    subst l431 y431 z431
    obtain ⟨rfl, Nq431, eq431⟩ := hQ431
    have N432 := Fr.app N429 Nq431
    refine gv st431 ?_
    refine gf _ (own_ret X431 Bd.notSynchronized (v := some (.int (own_gc ((c3 >>> ((0 : Int32) &&& 31)).toInt8.toInt32) ((c3 >>> ((8 : Int32) &&& 31)).toInt8.toInt32)))) (own_rv Bd.returns) ?_ (by decide) (by decide) (fun fs hr => retN X431 hx (t := .char) Bd.returns (by simp) (hb hby d19_24) (by rw [(own_gcn _ _)]; exact hr)))
    show Q_xat3 Z a ln c0 c1 c2 c3 cs fmt h0 n0 _ T431.heap _
    rw [eq431]
    exact ⟨(own_sv (own_gcp m422_3).symm), N432, rfl⟩
theorem ef_6 (m : MethodId) (x0 : Addr) (x1 : Addr) (x2 : Int32) (x3 : Int32)  : entryFrame m #[(.ref x0), (.ref x1), (.int x2), (.int x3), .null] 6 = mkF m 0 #[.val (.ref x0), .val (.ref x1), .val (.int x2), .val (.int x3), .val .null, .unset] [] := by first | (simp [entryFrame, mkF, argsToLocals, Value.category]; done) | rfl
theorem d5_0 : decode jdk_42_method_149_code 0 = .ok (.aload_n 0, 1) := by decide +kernel
theorem d5_1 : decode jdk_42_method_149_code 1 = .ok (.invokespecial 1, 3) := by decide +kernel
theorem d5_4 : decode jdk_42_method_149_code 4 = .ok (.iload_n 3, 1) := by decide +kernel
theorem d5_5 : decode jdk_42_method_149_code 5 = .ok (.ifCond .ne 22, 3) := by decide +kernel
theorem d5_8 : decode jdk_42_method_149_code 8 = .ok (.aload_n 0, 1) := by decide +kernel
theorem d5_9 : decode jdk_42_method_149_code 9 = .ok (.ldc 7, 2) := by decide +kernel
theorem d5_11 : decode jdk_42_method_149_code 11 = .ok (.getfield 9, 3) := by decide +kernel
theorem d5_14 : decode jdk_42_method_149_code 14 = .ok (.putfield 9, 3) := by decide +kernel
theorem d5_17 : decode jdk_42_method_149_code 17 = .ok (.aload_n 0, 1) := by decide +kernel
theorem d5_18 : decode jdk_42_method_149_code 18 = .ok (.ldc 7, 2) := by decide +kernel
theorem d5_20 : decode jdk_42_method_149_code 20 = .ok (.getfield 15, 3) := by decide +kernel
theorem d5_23 : decode jdk_42_method_149_code 23 = .ok (.putfield 15, 3) := by decide +kernel
theorem d5_26 : decode jdk_42_method_149_code 26 = .ok (.return_, 1) := by decide +kernel
def Q_sci0 (Z : State) (a d : Addr) (kd : ClassId) (h0 : Heap) (n0 : Nat) (v : Option Value) (h : Heap) (L : List Loc) : Prop := ∃ (b : Addr), ∃ (k : ClassId), v = none ∧ Fr n0 L ∧ Keep h0 h [a] ∧ (Exa Z h a "java/lang/String") ∧ (Fld Z h a "java/lang/String" "coder" "B" (.int 0)) ∧ (Fld Z h a "java/lang/String" "value" "[B" (.ref b)) ∧ (Arv Z h b k .byte (0 : Int32) [] (.int 0))
theorem rm_sci0 (l : Launch) (Z : State) (a0 : Array Value) (hw : own_HW Z a0) (ws : List Jvm.Cond) (a d : Addr) (kd : ClassId) (h0 : Heap) (n0 : Nat) (O0 : Old Z n0 h0) (u0 : Exa Z h0 a "java/lang/String") (u1 : Fld Z h0 a "java/lang/String" "value" "[B" .null) (u2 : Fld Z h0 a "java/lang/String" "coder" "B" (.int 0)) (u3 : n0 ≤ a) (u4 : Arv Z h0 d kd .char (0 : Int32) [] (.int 0)) :
    MetFree l m_7 (head1 (Jvm.Cond.code m_7 jdk_42_method_149_code 6 none :: ws) (own_R 1 4 8 12)) (fun aV U => aV = #[(.ref a), (.ref d), (.int 0), (.int 0), .null] ∧ Z.Warmed39 U.vm ∧ U.heap = h0 ∧ CHv Z own_EL U.vm h0 ∧ ∀ x ∈ ([a] : List Addr), Safe Z own_EL U.vm h0 x) (fun _ _ _ _ _ => True) (fun _ U o U' => ∃ v L, o = .returned v ∧ Q_sci0 Z a d kd h0 n0 v U'.heap L ∧ CHr Z own_EL U.vm U.heap U'.vm U'.heap ∧ ReturnedEndW U o U' L (own_R 1 4 8 12).cells (own_R 1 4 8 12).slots) := by
  refine MetFree.of_bodySF (plainFor_of_name pn_0) hisR ?_
  intro pr_ en_ st_ me_ args below meth_ co_ s₁ Bd hml0 hP hK
  obtain ⟨rfl, hZ, hh, hCH, hSF⟩ := hP
  have hx := Bd.exec
  have hby := Bd.bytes
  have hEL := own_hEL hw
  have wS := own_wS hw
  have hml : co_.maxLocals = 6 := hml0
  have hown : st_.vm.findClass "java/lang/String" = some me_.cls := findClass_of_methodNamed Bd.named
  have hnm := (name_of_methodNamed Bd.named Bd.method).1
  have X0 : Stand pr_ l en_ (own_R 1 4 8 12) (st_.setVm st_.vm) me_ #[(.ref a), (.ref d), (.int 0), (.int 0), .null] below meth_ co_ s₁ [] 0 0 := Stand.of_body Bd
  have e0 : s₁.heap = h0 := by rw [← hh, Bd.state]; rfl
  have N0 := Fr.nil n0
  have K0 := Keep.refl h0 [a]
  have hS : st_.Since st_.vm 0 := (State.WarmedH.refl st_).since 0
  have hk : 0 ≤ h0.size := Nat.zero_le _
  have CR : CHr Z own_EL st_.vm h0 st_.vm h0 := CHr.refl hCH
  have sf_a := hSF a (List.mem_of_getElem? (i := 0) rfl)
  obtain ⟨G, gv, gf, gb⟩ := own_GW Z own_EL pr_.tables en_ below st_ (Q_sci0 Z a d kd h0 n0) (own_R 1 4 8 12).cells (own_R 1 4 8 12).slots
  show own_FinW Z own_EL pr_.tables en_ below st_ (Q_sci0 Z a d kd h0 n0) (own_R 1 4 8 12).cells (own_R 1 4 8 12).slots (s₁.setTop (entryFrame me_ #[(.ref a), (.ref d), (.int 0), (.int 0), .null] 6))
  refine gb _ (gv (fun _ kQ => castTop (ef_6 me_ a d (0 : Int32) (0 : Int32)) kQ) ?_)
  show G (s₁.setTop (mkF me_ 0 #[.val (.ref a), .val (.ref d), .val (.int 0), .val (.int 0), .val .null, .unset] []))
  refine gv (fun _ kQ => XS.aloadN X0.here hx rfl (hb hby d5_0) rfl rfl kQ) ?_
  obtain ⟨T433, X433, e433, st433⟩ := initO X0 hx hZ hown (t_22 hw) (t_23 hw) (t_24 hw) e0 (g := (mkF me_ 1 #[.val (.ref a), .val (.ref d), .val (.int 0), .val (.int 0), .val .null, .unset] [(.ref a)])) rfl (by rw [hml]; rfl) rfl (hb hby d5_1) (by decide) (W := 0) (by show 2 * 0 + _ ≤ _; exact Nat.le_of_eq rfl) (by decide)
  refine gv st433 ?_
  refine gv (fun _ kQ => XS.iloadN X433.here hx rfl (hb hby d5_4) rfl (XS.ifNo X433.here hx rfl (hb hby d5_5) rfl ((if0 _ _).trans (teq (by decide : (0 : Int32) = (0 : Int32))).2) (XS.aloadN X433.here hx rfl (hb hby d5_8) rfl rfl kQ))) ?_
  show G (T433.setTop (mkF me_ 9 #[.val (.ref a), .val (.ref d), .val (.int 0), .val (.int 0), .val .null, .unset] [(.ref a)]))
  obtain ⟨a434, T434, h434, k434, b434, kc434, X434, e434, E434, hS, hk, hZ, hown, ES434, FC434, FV434, AV434, -, -, CRn434, L434, sn434, st434⟩ := ldcCH X433 hx hZ hown (t_25 hw) wS e433 hS hk hEL (List.mem_of_getElem? (i := 0) rfl) CR.1 (vs := []) (z := (0 : Int32)) ⟨by decide, by decide⟩ (by decide) (by decide) (g := (mkF me_ 9 #[.val (.ref a), .val (.ref d), .val (.int 0), .val (.int 0), .val .null, .unset] [(.ref a)])) rfl (hb hby d5_9) (n := 0) (by decide) (by decide) (by decide) (by decide)
  refine gv st434 ?_
  have sf435 := CRn434.safe u0.lt sf_a
  have f436 := u0.ext E434
  have f437 := u1.ext E434
  have f438 := u2.ext E434
  have K441 := K0.ext E434
  have CR := CR.trans CRn434
  have ne443 : a ≠ b434 := (sn434 a sf435).2
  obtain ⟨T444, X444, e444, st444⟩ := getF X434 hx hZ hown (host := "") (Or.inl (t_31 hw)) Via.refl e434 FV434 (g := (mkF me_ 11 #[.val (.ref a), .val (.ref d), .val (.int 0), .val (.int 0), .val .null, .unset] [(.ref a434), (.ref a)])) rfl rfl (hb hby d5_11)
  refine gv st444 ?_
  obtain ⟨T445, h445, X445, e445, W445, st445⟩ := putF X444 hx hZ hown (host := "") (Or.inl (t_31 hw)) Via.refl e444 f437 f436 (Or.inr ⟨(t_27 hw), rfl, hnm⟩) (t_12 hw) (ty := (.array .byte)) (by decide) rfl rfl (g := (mkF me_ 14 #[.val (.ref a), .val (.ref d), .val (.int 0), .val (.int 0), .val .null, .unset] [(.ref b434), (.ref a)])) rfl rfl (hb hby d5_14)
  refine gv st445 ?_
  have sf447 := Safe.wr W445 sf435 CR.1 sf435
  have CR := CR.trans (CHr.wr W445 sf435 CR.1)
  have hk := Nat.le_trans hk (Keep.of_wr W445).1
  have f448 := f436.wr W445
  have f449 := f438.other W445 (Or.inr (slot_ne (Or.inr (t_28 hw)) (Or.inr (t_27 hw)) (by decide) (t := .byte) (t' := (.array .byte)) (by decide) (by decide)))
  have f454 := AV434.other W445 (Ne.symm ne443)
  have K456 := K441.wr W445 (Or.inl (List.mem_of_getElem? (i := 0) rfl))
  have N457 := Fr.snoc X445 N0 u3
  have f446 : Fld Z h445 a "java/lang/String" "value" "[B" (.ref b434) := f437.same W445
  refine gv (fun _ kQ => XS.aloadN X445.here hx rfl (hb hby d5_17) rfl rfl kQ) ?_
  obtain ⟨a458, T458, h458, k458, b458, kc458, X458, e458, E458, hS, hk, hZ, hown, ES458, FC458, FV458, AV458, -, -, CRn458, L458, sn458, st458⟩ := ldcCH X445 hx hZ hown (t_25 hw) wS e445 hS hk hEL (List.mem_of_getElem? (i := 0) rfl) CR.1 (vs := []) (z := (0 : Int32)) ⟨by decide, by decide⟩ (by decide) (by decide) (g := (mkF me_ 18 #[.val (.ref a), .val (.ref d), .val (.int 0), .val (.int 0), .val .null, .unset] [(.ref a)])) rfl (hb hby d5_18) (n := 0) (by decide) (by decide) (by decide) (by decide)
  refine gv st458 ?_
  have sf459 := CRn458.safe f448.lt sf447
  have f460 := f448.ext E458
  have f461 := f446.ext E458
  have f462 := f449.ext E458
  have f467 := f454.ext E458
  have K469 := K456.ext E458
  have CR := CR.trans CRn458
  obtain ⟨T472, X472, e472, st472⟩ := getF X458 hx hZ hown (host := "") (Or.inl (t_32 hw)) Via.refl e458 FC458 (g := (mkF me_ 20 #[.val (.ref a), .val (.ref d), .val (.int 0), .val (.int 0), .val .null, .unset] [(.ref a458), (.ref a)])) rfl rfl (hb hby d5_20)
  refine gv st472 ?_
  obtain ⟨T473, h473, X473, e473, W473, st473⟩ := putFN X472 hx hZ hown (t_32 hw) Via.refl e472 f462 f460 (Or.inr ⟨(t_28 hw), rfl, hnm⟩) (t_12 hw) (ty := .byte) (v' := (.int 0)) (by decide) rfl rfl (g := (mkF me_ 23 #[.val (.ref a), .val (.ref d), .val (.int 0), .val (.int 0), .val .null, .unset] [(.int 0), (.ref a)])) rfl rfl (hb hby d5_23)
  refine gv st473 ?_
  have CR := CR.trans (CHr.wr W473 sf459 CR.1)
  have hk := Nat.le_trans hk (Keep.of_wr W473).1
  have f476 := f460.wr W473
  have f477 := f461.other W473 (Or.inr (slot_ne (Or.inr (t_27 hw)) (Or.inr (t_28 hw)) (by decide) (t := (.array .byte)) (t' := .byte) (by decide) (by decide)))
  have f482 := f467.other W473 (Ne.symm ne443)
  have K488 := K469.wr W473 (Or.inl (List.mem_of_getElem? (i := 0) rfl))
  have N489 := Fr.snoc X473 N457 u3
  have f474 : Fld Z h473 a "java/lang/String" "coder" "B" (.int 0) := f462.same W473
  refine gf _ (own_retW X473 Bd.notSynchronized hS (by rw [e473]; exact hk) (v := none) (fun _ => rfl) ?_ (by decide) (by decide) (by rw [hh, e473]; exact CR.trans (CHv.at X473 hZ hEL CR.1)) (fun fs hr => X473.returnOut hx Bd.returns (hb hby d5_26) hr))
  show Q_sci0 Z a d kd h0 n0 _ T473.heap _
  rw [e473]
  exact ⟨b434, kc434, rfl, N489, K488, f476, f474, f477, f482⟩
theorem ef_7 (m : MethodId) (x0 : Addr) (x1 : Addr)  : entryFrame m #[(.ref x0), (.ref x1)] 2 = mkF m 0 #[.val (.ref x0), .val (.ref x1)] [] := by first | (simp [entryFrame, mkF, argsToLocals, Value.category]; done) | rfl
theorem d4_0 : decode jdk_42_method_3_code 0 = .ok (.aload_n 0, 1) := by decide +kernel
theorem d4_1 : decode jdk_42_method_3_code 1 = .ok (.aload_n 1, 1) := by decide +kernel
theorem d4_2 : decode jdk_42_method_3_code 2 = .ok (.iconst 0, 1) := by decide +kernel
theorem d4_3 : decode jdk_42_method_3_code 3 = .ok (.aload_n 1, 1) := by decide +kernel
theorem d4_4 : decode jdk_42_method_3_code 4 = .ok (.arraylength, 1) := by decide +kernel
theorem d4_5 : decode jdk_42_method_3_code 5 = .ok (.aconst_null, 1) := by decide +kernel
theorem d4_6 : decode jdk_42_method_3_code 6 = .ok (.invokespecial 27, 3) := by decide +kernel
theorem pd_7 : parseMethodDescriptor "([CIILjava/lang/Void;)V" = some ⟨[(.array .char), .int, .int, (.object "java/lang/Void")], none⟩ := by decide +kernel
theorem d4_9 : decode jdk_42_method_3_code 9 = .ok (.return_, 1) := by decide +kernel
def Q_sc0 (Z : State) (a d : Addr) (kd : ClassId) (h0 : Heap) (n0 : Nat) (v : Option Value) (h : Heap) (L : List Loc) : Prop := ∃ (b : Addr), ∃ (k : ClassId), v = none ∧ Fr n0 L ∧ Keep h0 h [a] ∧ (Exa Z h a "java/lang/String") ∧ (Fld Z h a "java/lang/String" "coder" "B" (.int 0)) ∧ (Fld Z h a "java/lang/String" "value" "[B" (.ref b)) ∧ (Arv Z h b k .byte (0 : Int32) [] (.int 0))
theorem rm_sc0 (l : Launch) (Z : State) (a0 : Array Value) (hw : own_HW Z a0) (ws : List Jvm.Cond) (a d : Addr) (kd : ClassId) (h0 : Heap) (n0 : Nat) (O0 : Old Z n0 h0) (u0 : Exa Z h0 a "java/lang/String") (u1 : Fld Z h0 a "java/lang/String" "value" "[B" .null) (u2 : Fld Z h0 a "java/lang/String" "coder" "B" (.int 0)) (u3 : n0 ≤ a) (u4 : Arv Z h0 d kd .char (0 : Int32) [] (.int 0)) :
    MetFree l m_6 (head1 (Jvm.Cond.code m_6 jdk_42_method_3_code 2 none :: ws) (own_R 2 4 8 29)) (fun aV U => aV = #[(.ref a), (.ref d)] ∧ Z.Warmed39 U.vm ∧ U.heap = h0 ∧ CHv Z own_EL U.vm h0 ∧ ∀ x ∈ ([a] : List Addr), Safe Z own_EL U.vm h0 x) (fun _ _ _ _ _ => True) (fun _ U o U' => ∃ v L, o = .returned v ∧ Q_sc0 Z a d kd h0 n0 v U'.heap L ∧ CHr Z own_EL U.vm U.heap U'.vm U'.heap ∧ ReturnedEndW U o U' L (own_R 2 4 8 29).cells (own_R 2 4 8 29).slots) := by
  refine MetFree.of_bodySF (plainFor_of_name pn_0) hisR ?_
  intro pr_ en_ st_ me_ args below meth_ co_ s₁ Bd hml0 hP hK
  obtain ⟨rfl, hZ, hh, hCH, hSF⟩ := hP
  have hx := Bd.exec
  have hby := Bd.bytes
  have hEL := own_hEL hw
  have wS := own_wS hw
  have hml : co_.maxLocals = 2 := hml0
  have hown : st_.vm.findClass "java/lang/String" = some me_.cls := findClass_of_methodNamed Bd.named
  have X0 : Stand pr_ l en_ (own_R 2 4 8 29) (st_.setVm st_.vm) me_ #[(.ref a), (.ref d)] below meth_ co_ s₁ [] 0 0 := Stand.of_body Bd
  have e0 : s₁.heap = h0 := by rw [← hh, Bd.state]; rfl
  have N0 := Fr.nil n0
  have K0 := Keep.refl h0 [a]
  have hS : st_.Since st_.vm 0 := (State.WarmedH.refl st_).since 0
  have hk : 0 ≤ h0.size := Nat.zero_le _
  have CR : CHr Z own_EL st_.vm h0 st_.vm h0 := CHr.refl hCH
  have sf_a := hSF a (List.mem_of_getElem? (i := 0) rfl)
  obtain ⟨G, gv, gf, gb⟩ := own_GW Z own_EL pr_.tables en_ below st_ (Q_sc0 Z a d kd h0 n0) (own_R 2 4 8 29).cells (own_R 2 4 8 29).slots
  show own_FinW Z own_EL pr_.tables en_ below st_ (Q_sc0 Z a d kd h0 n0) (own_R 2 4 8 29).cells (own_R 2 4 8 29).slots (s₁.setTop (entryFrame me_ #[(.ref a), (.ref d)] 2))
  refine gb _ (gv (fun _ kQ => castTop (ef_7 me_ a d) kQ) ?_)
  show G (s₁.setTop (mkF me_ 0 #[.val (.ref a), .val (.ref d)] []))
  refine gv (fun _ kQ => XS.aloadN X0.here hx rfl (hb hby d4_0) rfl rfl (XS.aloadN X0.here hx rfl (hb hby d4_1) rfl rfl (XS.iconst X0.here hx rfl (hb hby d4_2) (XS.aloadN X0.here hx rfl (hb hby d4_3) rfl rfl kQ)))) ?_
  show G (s₁.setTop (mkF me_ 4 #[.val (.ref a), .val (.ref d)] [(.ref d), (.int 0), (.ref d), (.ref a)]))
  obtain ⟨cl490, Ar490, -, S490, n490, -, -⟩ := (id u4)
  refine gv (X0.arraylength hx (by rw [e0]; exact Ar490.1) (State.isArrayOf_alike hZ.alike Ar490.2.1) (g := (mkF me_ 4 #[.val (.ref a), .val (.ref d)] [(.ref d), (.int 0), (.ref d), (.ref a)])) rfl rfl (hb hby d4_4)) ?_
  rw [len_of S490 n490]
  refine gv (fun _ kQ => XS.aconstNull X0.here hx rfl (hb hby d4_5) kQ) ?_
  obtain ⟨_, _, ⟨T491, L491, k491, n491⟩, -, X491, hS491, hg491, ⟨Lc491, hQ491, l491, y491, z491, CRn491⟩, st491⟩ := X0.specialBackS hx (y := m_7) rfl hown (mvT hZ (t_18 hw)) (mvT hZ (t_19 hw)) (mvT hZ (t_21 hw)) (by decide) (own_backH (W := 0) (rm_sci0 l Z a0 hw [] a d kd h0 n0 O0 u0 u1 u2 u3 u4) hZ (t_21 hw) (t_13 hw) (by decide) (by decide) hEL CR.1 (own_sfS u0.lt sf_a own_sf0)) (g := (mkF me_ 6 #[.val (.ref a), .val (.ref d)] [.null, (.int 0), (.int 0), (.ref d), (.ref a)])) rfl (by rw [hml]; rfl) (Steps.refl _) (a := a) (argsL := [(.ref d), (.int 0), (.int 0), .null]) (rest := []) (lenOf pd_7 rfl) rfl (by show 2 * 0 + _ ≤ _; exact Nat.le_of_eq rfl) (hb hby d4_6) (fun _ _ => ⟨rfl, e0, (by decide : 0 + 4 ≤ _), (by decide : 0 + 8 ≤ _)⟩)
  dsimp only [Pt.U, Pt.locs, Pt.cells, Pt.slots] at X491 l491 y491 z491 st491 hQ491 hS491 hg491 CRn491
  subst l491 y491 z491
  have hS := foldS hS (by rw [e0]; exact hk) hS491 hg491
  have hZ : Z.Warmed39 T491.vm := State.Warmed39.trans (t := st_.setVm st_.vm) hZ hS491.1
  have X491 : Stand pr_ l en_ _ (st_.setVm T491.vm) me_ _ below meth_ co_ T491 _ _ _ := X491
  obtain ⟨b_491, k_491, rfl, Nq491, Kq491, w491_0, w491_1, w491_2, w491_3⟩ := hQ491
  have N492 := Fr.app N0 Nq491
  obtain ⟨h491, e491⟩ : ∃ z, T491.heap = z := ⟨_, rfl⟩
  rw [e491] at Kq491 CRn491 w491_0 w491_1 w491_2 w491_3
  have CR := CR.trans CRn491
  obtain ⟨kk491, hkk491⟩ : ∃ z, z = T491.heap.size := ⟨_, rfl⟩
  rw [← hkk491] at hS
  have hk : kk491 ≤ h491.size := by rw [hkk491, e491]; exact Nat.le_refl _
  have K497 := K0.trans Kq491 (allS (Or.inl (List.mem_of_getElem? (i := 0) rfl)) all0)
  refine gv (fun _ kQ => st491.trans kQ) ?_
  refine gf _ (own_retW X491 Bd.notSynchronized hS (by rw [e491]; exact hk) (v := none) (fun _ => rfl) ?_ (by decide) (by decide) (by rw [hh, e491]; exact CR.trans (CHv.at X491 hZ hEL CR.1)) (fun fs hr => X491.returnOut hx Bd.returns (hb hby d4_9) hr))
  show Q_sc0 Z a d kd h0 n0 _ T491.heap _
  rw [e491]
  exact ⟨b_491, k_491, rfl, N492, K497, w491_0, w491_1, w491_2, w491_3⟩
theorem ef_8 (m : MethodId) (x0 : Int32)  : entryFrame m #[(.int x0)] 1 = mkF m 0 #[.val (.int x0)] [] := by first | (simp [entryFrame, mkF, argsToLocals, Value.category]; done) | rfl
theorem d15_0 : decode jdk_52_method_3_code 0 = .ok (.iload_n 0, 1) := by decide +kernel
theorem d15_1 : decode jdk_52_method_3_code 1 = .ok (.ifCond .ge 11, 3) := by decide +kernel
theorem d15_12 : decode jdk_52_method_3_code 12 = .ok (.iload_n 0, 1) := by decide +kernel
theorem d15_13 : decode jdk_52_method_3_code 13 = .ok (.ldc 20, 2) := by decide +kernel
theorem d15_15 : decode jdk_52_method_3_code 15 = .ok (.if_icmp .lt 40, 3) := by decide +kernel
theorem d15_55 : decode jdk_52_method_3_code 55 = .ok (.iload_n 0, 1) := by decide +kernel
theorem d15_56 : decode jdk_52_method_3_code 56 = .ok (.iconst 1, 1) := by decide +kernel
theorem d15_57 : decode jdk_52_method_3_code 57 = .ok (.ishl, 1) := by decide +kernel
theorem d15_58 : decode jdk_52_method_3_code 58 = .ok (.ireturn, 1) := by decide +kernel
def Q_nbl1 (Z : State)  (h0 : Heap) (n0 : Nat) (v : Option Value) (h : Heap) (L : List Loc) : Prop := v = some (.int 2) ∧ Fr n0 L ∧ h = h0
theorem rm_nbl1 (l : Launch) (Z : State) (a0 : Array Value) (hw : own_HW Z a0) (ws : List Jvm.Cond)  (h0 : Heap) (n0 : Nat) (O0 : Old Z n0 h0)  :
    own_Met l Z m_22 jdk_52_method_3_code 1 (some .int) ws (own_R 0 0 0 0) #[(.int 1)] h0 (Q_nbl1 Z  h0 n0) := by
  refine own_open (plainFor_of_name pn_2) (fun pr_ en_ st_ me_ below meth_ co_ s₁ Bd hx hby hml hown hZ X0 e0 G gv gf => ?_)
  have N0 := Fr.nil n0
  refine gv (fun _ kQ => castTop (ef_8 me_ (1 : Int32)) kQ) ?_
  show G (s₁.setTop (mkF me_ 0 #[.val (.int 1)] []))
  refine gv (fun _ kQ => XS.iloadN X0.here hx rfl (hb hby d15_0) rfl (XS.ifYes X0.here hx rfl (pc0 := 1) (pc' := 12) rfl (hb hby d15_1) rfl ((if0 _ _).trans (flt (by decide : ¬ ((1 : Int32) < (0 : Int32)))).2.1) (by decide) (by decide) (XS.iloadN X0.here hx rfl (hb hby d15_12) rfl kQ))) ?_
  show G (s₁.setTop (mkF me_ 13 #[.val (.int 1)] [(.int 1)]))
  refine gv (X0.ldcInt hx hown (mvT hZ (t_67 hw)) (g := (mkF me_ 13 #[.val (.int 1)] [(.int 1)])) rfl (hb hby d15_13)) ?_
  show G (s₁.setTop (mkF me_ 15 #[.val (.int 1)] [(.int 1073741823), (.int 1)]))
  refine gv (fun _ kQ => XS.icmpYes X0.here hx rfl (pc0 := 15) (pc' := 55) rfl (hb hby d15_15) rfl (tlt (by decide : (1 : Int32) < (1073741823 : Int32))).1 (by decide) (by decide) (XS.iloadN X0.here hx rfl (hb hby d15_55) rfl (XS.iconst X0.here hx rfl (hb hby d15_56) (XS.ishl X0.here hx rfl (hb hby d15_57) rfl kQ)))) ?_
  show G (s₁.setTop (mkF me_ 58 #[.val (.int 1)] [(.int ((1 : Int32) <<< ((1 : Int32) &&& 31)))]))
  rw [(by decide : ((1 : Int32) <<< ((1 : Int32) &&& 31)) = (2 : Int32))]
  refine gf _ (own_ret X0 Bd.notSynchronized (v := some (.int 2)) (own_rv Bd.returns) ?_ (by decide) (by decide) (fun fs hr => retOut X0 hx (t := .int) Bd.returns rfl (Or.inl ⟨rfl, Or.inl rfl, _, rfl⟩) (hb hby d15_58) hr))
  show Q_nbl1 Z  h0 n0 _ s₁.heap _
  rw [e0]
  exact ⟨rfl, N0, rfl⟩
theorem d14_0 : decode jdk_52_method_2_code 0 = .ok (.iload_n 0, 1) := by decide +kernel
theorem d14_1 : decode jdk_52_method_2_code 1 = .ok (.invokestatic 11, 3) := by decide +kernel
theorem pd_8 : parseMethodDescriptor "(I)I" = some ⟨[.int], some .int⟩ := by decide +kernel
theorem d14_4 : decode jdk_52_method_2_code 4 = .ok (.newarray .byte, 2) := by decide +kernel
theorem d14_6 : decode jdk_52_method_2_code 6 = .ok (.areturn, 1) := by decide +kernel
def Q_nbf1 (Z : State)  (h0 : Heap) (n0 : Nat) (v : Option Value) (h : Heap) (L : List Loc) : Prop := ∃ (b : Addr), ∃ (k : ClassId), v = some (.ref b) ∧ Fr n0 L ∧ Keep h0 h [] ∧ h0.size ≤ b ∧ (Arv Z h b k .byte (2 : Int32) [(.int 0), (.int 0)] (.int 0))
theorem rm_nbf1 (l : Launch) (Z : State) (a0 : Array Value) (hw : own_HW Z a0) (ws : List Jvm.Cond)  (h0 : Heap) (n0 : Nat) (O0 : Old Z n0 h0)  :
    own_Met l Z m_21 jdk_52_method_2_code 1 (some (.array .byte)) ws (own_R 1 1 2 12) #[(.int 1)] h0 (Q_nbf1 Z  h0 n0) := by
  refine own_open (plainFor_of_name pn_2) (fun pr_ en_ st_ me_ below meth_ co_ s₁ Bd hx hby hml hown hZ X0 e0 G gv gf => ?_)
  have N0 := Fr.nil n0
  have K0 := Keep.refl h0 []
  refine gv (fun _ kQ => castTop (ef_8 me_ (1 : Int32)) kQ) ?_
  show G (s₁.setTop (mkF me_ 0 #[.val (.int 1)] []))
  refine gv (fun _ kQ => XS.iloadN X0.here hx rfl (hb hby d14_0) rfl kQ) ?_
  obtain ⟨_, _, ⟨T498, L498, k498, n498⟩, -, X498, ⟨Lc498, hQ498, l498, y498, z498⟩, st498⟩ := Jvm.LawKit.callS X0 hx (y := m_22) hown (mvT hZ (t_64 hw)) (mvT hZ (t_65 hw)) (mvT hZ (t_50 hw)) (mvT hZ (t_66 hw)) (by decide) (backOf (W := 0) (rm_nbl1 l Z a0 hw []  h0 n0 O0 ) hZ (t_66 hw) (t_50 hw) (by decide) (by decide)) (g := (mkF me_ 1 #[.val (.int 1)] [(.int 1)])) rfl (by rw [hml]; rfl) (argsL := [(.int 1)]) (rest := []) (lenOf pd_8 rfl) rfl (by show 2 * 0 + _ ≤ _; exact Nat.le_of_eq rfl) (hb hby d14_1) (fun _ _ => ⟨rfl, e0, (by decide : 0 + 0 ≤ _), (by decide : 0 + 0 ≤ _)⟩)
  dsimp only [Pt.U, Pt.locs, Pt.cells, Pt.slots] at X498 l498 y498 z498 st498 hQ498
  subst l498 y498 z498
  obtain ⟨rfl, Nq498, eq498⟩ := hQ498
  have N499 := Fr.app N0 Nq498
  refine gv st498 ?_
  obtain ⟨T500, h500, k500, X500, e500, E500, A500, st500⟩ := newP X498 hx hZ (hw _ (List.mem_of_getElem? (i := 26) rfl)) eq498 (g := (mkF me_ 4 #[.val (.int 1)] [(.int 2)])) rfl (hb hby d14_4) rfl (by decide) (cap := 2) (by decide) (by decide) (by decide) (by decide)
  obtain ⟨b500, g500⟩ : ∃ z, z = h0.size := ⟨_, rfl⟩
  rw [← g500] at A500 st500
  refine gv st500 ?_
  have z502 : h0.size ≤ b500 := Nat.le_trans K0.1 (Nat.le_of_eq g500.symm)
  have K504 := K0.ext E500
  have V500 : Arv Z h500 b500 k500 .byte (2 : Int32) [(.int 0), (.int 0)] (.int 0) := (Arv.new A500 (by decide)).pad (pad_rep [] (.int 0) 2)
  refine gf _ (own_ret X500 Bd.notSynchronized (v := some (.ref b500)) (own_rv Bd.returns) ?_ (by decide) (by decide) (fun fs hr => retOut X500 hx (t := (.array .byte)) Bd.returns rfl (Or.inr (Or.inr (Or.inr (Or.inr ⟨rfl, rfl, rfl⟩)))) (hb hby d14_6) hr))
  show Q_nbf1 Z  h0 n0 _ T500.heap _
  rw [e500]
  exact ⟨b500, k500, rfl, N499, K504, z502, V500⟩
theorem ef_9 (m : MethodId) (x0 : Addr) (x1 : Int32) (x2 : Int32)  : entryFrame m #[(.ref x0), (.int x1), (.int x2)] 5 = mkF m 0 #[.val (.ref x0), .val (.int x1), .val (.int x2), .unset, .unset] [] := by first | (simp [entryFrame, mkF, argsToLocals, Value.category]; done) | rfl
theorem d13_0 : decode jdk_52_method_14_code 0 = .ok (.iload_n 2, 1) := by decide +kernel
theorem d13_1 : decode jdk_52_method_14_code 1 = .ok (.invokestatic 107, 3) := by decide +kernel
theorem pd_9 : parseMethodDescriptor "(I)[B" = some ⟨[.int], some (.array .byte)⟩ := by decide +kernel
theorem d13_4 : decode jdk_52_method_14_code 4 = .ok (.astore_n 3, 1) := by decide +kernel
theorem d13_5 : decode jdk_52_method_14_code 5 = .ok (.iconst 0, 1) := by decide +kernel
theorem d13_6 : decode jdk_52_method_14_code 6 = .ok (.istore 4, 2) := by decide +kernel
theorem d13_8 : decode jdk_52_method_14_code 8 = .ok (.iload 4, 2) := by decide +kernel
theorem d13_10 : decode jdk_52_method_14_code 10 = .ok (.iload_n 2, 1) := by decide +kernel
theorem d13_11 : decode jdk_52_method_14_code 11 = .ok (.if_icmp .ge 21, 3) := by decide +kernel
theorem d13_14 : decode jdk_52_method_14_code 14 = .ok (.aload_n 3, 1) := by decide +kernel
theorem d13_15 : decode jdk_52_method_14_code 15 = .ok (.iload 4, 2) := by decide +kernel
theorem d13_17 : decode jdk_52_method_14_code 17 = .ok (.aload_n 0, 1) := by decide +kernel
theorem d13_18 : decode jdk_52_method_14_code 18 = .ok (.iload_n 1, 1) := by decide +kernel
theorem d13_19 : decode jdk_52_method_14_code 19 = .ok (.caload, 1) := by decide +kernel
theorem d13_20 : decode jdk_52_method_14_code 20 = .ok (.invokestatic 111, 3) := by decide +kernel
theorem pd_10 : parseMethodDescriptor "([BII)V" = some ⟨[(.array .byte), .int, .int], none⟩ := by decide +kernel
theorem d13_23 : decode jdk_52_method_14_code 23 = .ok (.iinc 1 1, 3) := by decide +kernel
theorem d13_26 : decode jdk_52_method_14_code 26 = .ok (.iinc 4 1, 3) := by decide +kernel
theorem d13_29 : decode jdk_52_method_14_code 29 = .ok (.goto (-21), 3) := by decide +kernel
theorem d13_32 : decode jdk_52_method_14_code 32 = .ok (.aload_n 3, 1) := by decide +kernel
theorem d13_33 : decode jdk_52_method_14_code 33 = .ok (.areturn, 1) := by decide +kernel
def Q_utb1 (Z : State) (d : Addr) (kd : ClassId) (c0 : Int32) (h0 : Heap) (n0 : Nat) (v : Option Value) (h : Heap) (L : List Loc) : Prop := ∃ (b : Addr), ∃ (k : ClassId), v = some (.ref b) ∧ Fr n0 L ∧ Keep h0 h [] ∧ h0.size ≤ b ∧ (Arv Z h b k .byte (2 : Int32) [(.int ((c0 >>> ((0 : Int32) &&& 31)).toInt8.toInt32)), (.int ((c0 >>> ((8 : Int32) &&& 31)).toInt8.toInt32))] (.int 0))
theorem rm_utb1 (l : Launch) (Z : State) (a0 : Array Value) (hw : own_HW Z a0) (ws : List Jvm.Cond) (d : Addr) (kd : ClassId) (c0 : Int32) (h0 : Heap) (n0 : Nat) (O0 : Old Z n0 h0) (u0 : Sta Z Z.heap "java/lang/StringUTF16" "$assertionsDisabled" "Z" (.int 1)) (u1 : Sta Z Z.heap "java/lang/StringUTF16" "HI_BYTE_SHIFT" "I" (.int 0)) (u2 : Sta Z Z.heap "java/lang/StringUTF16" "LO_BYTE_SHIFT" "I" (.int 8)) (u3 : Arv Z h0 d kd .char (1 : Int32) [(.int c0)] (.int 0)) :
    own_Met l Z m_24 jdk_52_method_14_code 5 (some (.array .byte)) ws (own_R 2 1 2 24) #[(.ref d), (.int 0), (.int 1)] h0 (Q_utb1 Z d kd c0 h0 n0) := by
  refine own_open (plainFor_of_name pn_2) (fun pr_ en_ st_ me_ below meth_ co_ s₁ Bd hx hby hml hown hZ X0 e0 G gv gf => ?_)
  have N0 := Fr.nil n0
  have K0 := Keep.refl h0 []
  refine gv (fun _ kQ => castTop (ef_9 me_ d (0 : Int32) (1 : Int32)) kQ) ?_
  show G (s₁.setTop (mkF me_ 0 #[.val (.ref d), .val (.int 0), .val (.int 1), .unset, .unset] []))
  refine gv (fun _ kQ => XS.iloadN X0.here hx rfl (hb hby d13_0) rfl kQ) ?_
  obtain ⟨_, _, ⟨T505, L505, k505, n505⟩, -, X505, ⟨Lc505, hQ505, l505, y505, z505⟩, st505⟩ := Jvm.LawKit.callS X0 hx (y := m_21) hown (mvT hZ (t_61 hw)) (mvT hZ (t_62 hw)) (mvT hZ (t_50 hw)) (mvT hZ (t_63 hw)) (by decide) (backOf (W := 0) (rm_nbf1 l Z a0 hw []  h0 n0 O0 ) hZ (t_63 hw) (t_50 hw) (by decide) (by decide)) (g := (mkF me_ 1 #[.val (.ref d), .val (.int 0), .val (.int 1), .unset, .unset] [(.int 1)])) rfl (by rw [hml]; rfl) (argsL := [(.int 1)]) (rest := []) (lenOf pd_9 rfl) rfl (by show 2 * 0 + _ ≤ _; exact Nat.le_of_eq rfl) (hb hby d13_1) (fun _ _ => ⟨rfl, e0, (by decide : 0 + 1 ≤ _), (by decide : 0 + 2 ≤ _)⟩)
  dsimp only [Pt.U, Pt.locs, Pt.cells, Pt.slots] at X505 l505 y505 z505 st505 hQ505
  subst l505 y505 z505
  obtain ⟨b_505, k_505, rfl, Nq505, Kq505, w505_0, w505_1⟩ := hQ505
  have N506 := Fr.app N0 Nq505
  obtain ⟨h505, e505⟩ : ∃ z, T505.heap = z := ⟨_, rfl⟩
  rw [e505] at Kq505 w505_1
  have g508 : n0 ≤ b_505 := Nat.le_trans (own_old O0) w505_0
  have z509 : h0.size ≤ b_505 := Nat.le_trans K0.1 w505_0
  have f510 := u3.keep Kq505 nin0
  have O511 := O0.keep Kq505 all0
  have K512 := K0.trans Kq505 all0
  refine gv st505 ?_
  refine gv (fun _ kQ => XS.astoreN X505.here hx rfl (hb hby d13_4) rfl rfl (l' := #[.val (.ref d), .val (.int 0), .val (.int 1), .val (.ref b_505), .unset]) rfl (XS.iconst X505.here hx rfl (hb hby d13_5) (XS.istore X505.here hx rfl (hb hby d13_6) rfl (l' := #[.val (.ref d), .val (.int 0), .val (.int 1), .val (.ref b_505), .val (.int 0)]) rfl (XS.iload X505.here hx rfl (hb hby d13_8) rfl (XS.iloadN X505.here hx rfl (hb hby d13_10) rfl (XS.icmpNo X505.here hx rfl (hb hby d13_11) rfl (tlt (by decide : (0 : Int32) < (1 : Int32))).2.1 (XS.aloadN X505.here hx rfl (hb hby d13_14) rfl rfl (XS.iload X505.here hx rfl (hb hby d13_15) rfl kQ)))))))) ?_
  show G (T505.setTop (mkF me_ 17 #[.val (.ref d), .val (.int 0), .val (.int 1), .val (.ref b_505), .val (.int 0)] [(.int 0), (.ref b_505)]))
  refine gv (fun _ kQ => XS.aloadN X505.here hx rfl (hb hby d13_17) rfl rfl (XS.iloadN X505.here hx rfl (hb hby d13_18) rfl kQ)) ?_
  obtain ⟨cl513, Ar513, q513, S513, n513, H513, G513⟩ := (id f510)
  have in513 : ¬ ((0 : Int32) < 0 ∨ cl513.slots.size ≤ ((0 : Int32)).toNatClampNeg) := inb_of S513 ⟨by decide, by decide⟩
  refine gv (X505.caload hx (j := (0 : Int32)) (v := (.int c0)) (by rw [e505]; exact Ar513.1) (State.isArrayOf_alike hZ.alike Ar513.2.1) Ar513.2.2 in513 (Has.at H513 in513 rfl) (g := (mkF me_ 19 #[.val (.ref d), .val (.int 0), .val (.int 1), .val (.ref b_505), .val (.int 0)] [(.int 0), (.ref d), (.int 0), (.ref b_505)])) rfl rfl (hb hby d13_19)) ?_
  show G (T505.setTop (mkF me_ 20 #[.val (.ref d), .val (.int 0), .val (.int 1), .val (.ref b_505), .val (.int 0)] [(.int c0), (.int 0), (.ref b_505)]))
  obtain ⟨_, _, ⟨T514, L514, k514, n514⟩, -, X514, ⟨Lc514, hQ514, l514, y514, z514⟩, st514⟩ := Jvm.LawKit.callS X505 hx (y := m_23) hown (mvT hZ (t_68 hw)) (mvT hZ (t_69 hw)) (mvT hZ (t_50 hw)) (mvT hZ (t_70 hw)) (by decide) (backOf (W := 0) (rm_put2_0 l Z a0 hw [] b_505 c0 k_505 (0 : Int32) (0 : Int32) h505 n0 O511 u0 u1 u2 w505_1 g508) hZ (t_70 hw) (t_50 hw) (by decide) (by decide)) (g := (mkF me_ 20 #[.val (.ref d), .val (.int 0), .val (.int 1), .val (.ref b_505), .val (.int 0)] [(.int c0), (.int 0), (.ref b_505)])) rfl (by rw [hml]; rfl) (argsL := [(.ref b_505), (.int 0), (.int c0)]) (rest := []) (lenOf pd_10 rfl) rfl (by show 2 * 0 + _ ≤ _; exact Nat.le_of_eq rfl) (hb hby d13_20) (fun _ _ => ⟨rfl, e505, (by decide : 1 + 0 ≤ _), (by decide : 2 + 0 ≤ _)⟩)
  dsimp only [Pt.U, Pt.locs, Pt.cells, Pt.slots] at X514 l514 y514 z514 st514 hQ514
  subst l514 y514 z514
  obtain ⟨rfl, Nq514, Kq514, w514_0⟩ := hQ514
  have N515 := Fr.app N506 Nq514
  obtain ⟨h514, e514⟩ : ∃ z, T514.heap = z := ⟨_, rfl⟩
  rw [e514] at Kq514 w514_0
  have K518 := K512.trans Kq514 (allS (Or.inr z509) all0)
  refine gv st514 ?_
  refine gv (fun _ kQ => XS.iinc X514.here hx rfl (hb hby d13_23) rfl (l' := #[.val (.ref d), .val (.int ((0 : Int32) + (1 : Int32))), .val (.int 1), .val (.ref b_505), .val (.int 0)]) rfl kQ) ?_
  show G (T514.setTop (mkF me_ 26 #[.val (.ref d), .val (.int ((0 : Int32) + (1 : Int32))), .val (.int 1), .val (.ref b_505), .val (.int 0)] []))
  rw [(by decide : ((0 : Int32) + (1 : Int32)) = (1 : Int32))]
  refine gv (fun _ kQ => XS.iinc X514.here hx rfl (hb hby d13_26) rfl (l' := #[.val (.ref d), .val (.int 1), .val (.int 1), .val (.ref b_505), .val (.int ((0 : Int32) + (1 : Int32)))]) rfl kQ) ?_
  show G (T514.setTop (mkF me_ 29 #[.val (.ref d), .val (.int 1), .val (.int 1), .val (.ref b_505), .val (.int ((0 : Int32) + (1 : Int32)))] []))
  rw [(by decide : ((0 : Int32) + (1 : Int32)) = (1 : Int32))]
  refine gv (fun _ kQ => XS.goto X514.here hx rfl (pc0 := 29) (pc' := 8) rfl (hb hby d13_29) (by decide) (by decide) (XS.iload X514.here hx rfl (hb hby d13_8) rfl (XS.iloadN X514.here hx rfl (hb hby d13_10) rfl (XS.icmpYes X514.here hx rfl (pc0 := 11) (pc' := 32) rfl (hb hby d13_11) rfl (flt (by decide : ¬ ((1 : Int32) < (1 : Int32)))).2.1 (by decide) (by decide) (XS.aloadN X514.here hx rfl (hb hby d13_32) rfl rfl kQ))))) ?_
  refine gf _ (own_ret X514 Bd.notSynchronized (v := some (.ref b_505)) (own_rv Bd.returns) ?_ (by decide) (by decide) (fun fs hr => retOut X514 hx (t := (.array .byte)) Bd.returns rfl (Or.inr (Or.inr (Or.inr (Or.inr ⟨rfl, rfl, rfl⟩)))) (hb hby d13_33) hr))
  show Q_utb1 Z d kd c0 h0 n0 _ T514.heap _
  rw [e514]
  exact ⟨b_505, k_505, rfl, N515, K518, z509, w514_0⟩
theorem ef_10 (m : MethodId) (x0 : Addr) (x1 : Int32) (x2 : Addr) (x3 : Int32) (x4 : Int32)  : entryFrame m #[(.ref x0), (.int x1), (.ref x2), (.int x3), (.int x4)] 7 = mkF m 0 #[.val (.ref x0), .val (.int x1), .val (.ref x2), .val (.int x3), .val (.int x4), .unset, .unset] [] := by first | (simp [entryFrame, mkF, argsToLocals, Value.category]; done) | rfl
theorem d11_0 : decode jdk_52_method_21_code 0 = .ok (.iconst 0, 1) := by decide +kernel
theorem d11_1 : decode jdk_52_method_21_code 1 = .ok (.istore 5, 2) := by decide +kernel
theorem d11_3 : decode jdk_52_method_21_code 3 = .ok (.iload 5, 2) := by decide +kernel
theorem d11_5 : decode jdk_52_method_21_code 5 = .ok (.iload 4, 2) := by decide +kernel
theorem d11_7 : decode jdk_52_method_21_code 7 = .ok (.if_icmp .ge 37, 3) := by decide +kernel
theorem d11_10 : decode jdk_52_method_21_code 10 = .ok (.aload_n 0, 1) := by decide +kernel
theorem d11_11 : decode jdk_52_method_21_code 11 = .ok (.iload_n 1, 1) := by decide +kernel
theorem d11_12 : decode jdk_52_method_21_code 12 = .ok (.caload, 1) := by decide +kernel
theorem d11_13 : decode jdk_52_method_21_code 13 = .ok (.istore 6, 2) := by decide +kernel
theorem d11_15 : decode jdk_52_method_21_code 15 = .ok (.iload 6, 2) := by decide +kernel
theorem d11_17 : decode jdk_52_method_21_code 17 = .ok (.sipush 255, 3) := by decide +kernel
theorem d11_20 : decode jdk_52_method_21_code 20 = .ok (.if_icmp .le 6, 3) := by decide +kernel
theorem d11_23 : decode jdk_52_method_21_code 23 = .ok (.iload 5, 2) := by decide +kernel
theorem d11_25 : decode jdk_52_method_21_code 25 = .ok (.ireturn, 1) := by decide +kernel
theorem d11_26 : decode jdk_52_method_21_code 26 = .ok (.aload_n 2, 1) := by decide +kernel
theorem d11_27 : decode jdk_52_method_21_code 27 = .ok (.iload_n 3, 1) := by decide +kernel
theorem d11_28 : decode jdk_52_method_21_code 28 = .ok (.iload 6, 2) := by decide +kernel
theorem d11_30 : decode jdk_52_method_21_code 30 = .ok (.i2b, 1) := by decide +kernel
theorem d11_31 : decode jdk_52_method_21_code 31 = .ok (.bastore, 1) := by decide +kernel
theorem d11_32 : decode jdk_52_method_21_code 32 = .ok (.iinc 1 1, 3) := by decide +kernel
theorem d11_35 : decode jdk_52_method_21_code 35 = .ok (.iinc 3 1, 3) := by decide +kernel
theorem d11_38 : decode jdk_52_method_21_code 38 = .ok (.iinc 5 1, 3) := by decide +kernel
theorem d11_41 : decode jdk_52_method_21_code 41 = .ok (.goto (-38), 3) := by decide +kernel
theorem d11_44 : decode jdk_52_method_21_code 44 = .ok (.iload 4, 2) := by decide +kernel
theorem d11_46 : decode jdk_52_method_21_code 46 = .ok (.ireturn, 1) := by decide +kernel
def Q_cmp1 (Z : State) (d : Addr) (kd : ClassId) (b : Addr) (k : ClassId) (c0 : Int32) (h0 : Heap) (n0 : Nat) (v : Option Value) (h : Heap) (L : List Loc) : Prop := ∃ (r : Int32), v = some (.int r) ∧ Fr n0 L ∧ Keep h0 h [b] ∧ (own_B1 Z h b r c0)
theorem rm_cmp1 (l : Launch) (Z : State) (a0 : Array Value) (hw : own_HW Z a0) (ws : List Jvm.Cond) (d : Addr) (kd : ClassId) (b : Addr) (k : ClassId) (c0 : Int32) (h0 : Heap) (n0 : Nat) (O0 : Old Z n0 h0) (u0 : Arv Z h0 d kd .char (1 : Int32) [(.int c0)] (.int 0)) (u1 : Arv Z h0 b k .byte (1 : Int32) [(.int 0)] (.int 0)) (u2 : n0 ≤ b) (u3 : d ≠ b) :
    own_Met l Z m_18 jdk_52_method_21_code 7 (some .int) ws (own_R 0 0 0 0) #[(.ref d), (.int 0), (.ref b), (.int 0), (.int 1)] h0 (Q_cmp1 Z d kd b k c0 h0 n0) := by
  refine own_open (plainFor_of_name pn_2) (fun pr_ en_ st_ me_ below meth_ co_ s₁ Bd hx hby hml hown hZ X0 e0 G gv gf => ?_)
  have N0 := Fr.nil n0
  have K0 := Keep.refl h0 [b]
  refine gv (fun _ kQ => castTop (ef_10 me_ d (0 : Int32) b (0 : Int32) (1 : Int32)) kQ) ?_
  show G (s₁.setTop (mkF me_ 0 #[.val (.ref d), .val (.int 0), .val (.ref b), .val (.int 0), .val (.int 1), .unset, .unset] []))
  refine gv (fun _ kQ => XS.iconst X0.here hx rfl (hb hby d11_0) (XS.istore X0.here hx rfl (hb hby d11_1) rfl (l' := #[.val (.ref d), .val (.int 0), .val (.ref b), .val (.int 0), .val (.int 1), .val (.int 0), .unset]) rfl (XS.iload X0.here hx rfl (hb hby d11_3) rfl (XS.iload X0.here hx rfl (hb hby d11_5) rfl (XS.icmpNo X0.here hx rfl (hb hby d11_7) rfl (tlt (by decide : (0 : Int32) < (1 : Int32))).2.1 (XS.aloadN X0.here hx rfl (hb hby d11_10) rfl rfl (XS.iloadN X0.here hx rfl (hb hby d11_11) rfl kQ))))))) ?_
  show G (s₁.setTop (mkF me_ 12 #[.val (.ref d), .val (.int 0), .val (.ref b), .val (.int 0), .val (.int 1), .val (.int 0), .unset] [(.int 0), (.ref d)]))
  obtain ⟨cl519, Ar519, q519, S519, n519, H519, G519⟩ := (id u0)
  have in519 : ¬ ((0 : Int32) < 0 ∨ cl519.slots.size ≤ ((0 : Int32)).toNatClampNeg) := inb_of S519 ⟨by decide, by decide⟩
  refine gv (X0.caload hx (j := (0 : Int32)) (v := (.int c0)) (by rw [e0]; exact Ar519.1) (State.isArrayOf_alike hZ.alike Ar519.2.1) Ar519.2.2 in519 (Has.at H519 in519 rfl) (g := (mkF me_ 12 #[.val (.ref d), .val (.int 0), .val (.ref b), .val (.int 0), .val (.int 1), .val (.int 0), .unset] [(.int 0), (.ref d)])) rfl rfl (hb hby d11_12)) ?_
  show G (s₁.setTop (mkF me_ 13 #[.val (.ref d), .val (.int 0), .val (.ref b), .val (.int 0), .val (.int 1), .val (.int 0), .unset] [(.int c0)]))
  refine gv (fun _ kQ => XS.istore X0.here hx rfl (hb hby d11_13) rfl (l' := #[.val (.ref d), .val (.int 0), .val (.ref b), .val (.int 0), .val (.int 1), .val (.int 0), .val (.int c0)]) rfl (XS.iload X0.here hx rfl (hb hby d11_15) rfl (XS.sipush X0.here hx rfl (hb hby d11_17) kQ))) ?_
  show G (s₁.setTop (mkF me_ 20 #[.val (.ref d), .val (.int 0), .val (.ref b), .val (.int 0), .val (.int 1), .val (.int 0), .val (.int c0)] [(.int 255), (.int c0)]))
  by_cases hc520 : (255 : Int32) < c0
  · refine gv (fun _ kQ => XS.icmpNo X0.here hx rfl (hb hby d11_20) rfl (tlt hc520).2.2.2 kQ) ?_
    refine gv (fun _ kQ => XS.iload X0.here hx rfl (hb hby d11_23) rfl kQ) ?_
    refine gf _ (own_ret X0 Bd.notSynchronized (v := some (.int 0)) (own_rv Bd.returns) ?_ (by decide) (by decide) (fun fs hr => retOut X0 hx (t := .int) Bd.returns rfl (Or.inl ⟨rfl, Or.inl rfl, _, rfl⟩) (hb hby d11_25) hr))
    show Q_cmp1 Z d kd b k c0 h0 n0 _ s₁.heap _
    rw [e0]
    exact ⟨(0 : Int32), rfl, N0, K0, (Or.inr (⟨rfl, hc520⟩))⟩
  · refine gv (fun _ kQ => XS.icmpYes X0.here hx rfl (pc0 := 20) (pc' := 26) rfl (hb hby d11_20) rfl (flt hc520).2.2.2 (by decide) (by decide) kQ) ?_
    refine gv (fun _ kQ => XS.aloadN X0.here hx rfl (hb hby d11_26) rfl rfl (XS.iloadN X0.here hx rfl (hb hby d11_27) rfl (XS.iload X0.here hx rfl (hb hby d11_28) rfl (XS.i2b X0.here hx rfl (hb hby d11_30) rfl kQ)))) ?_
    show G (s₁.setTop (mkF me_ 31 #[.val (.ref d), .val (.int 0), .val (.ref b), .val (.int 0), .val (.int 1), .val (.int 0), .val (.int c0)] [(.int (c0.toInt8.toInt32)), (.int 0), (.ref b)]))
    obtain ⟨cl521, Ar521, q521, S521, n521, H521, G521⟩ := (id u1)
    have in521 : ¬ ((0 : Int32) < 0 ∨ cl521.slots.size ≤ ((0 : Int32)).toNatClampNeg) := inb_of S521 ⟨by decide, by decide⟩
    obtain ⟨T521, h521, X521, e521, W521, st521⟩ := stB X0 hx hZ e0 Ar521 (j := (0 : Int32)) in521 (g := (mkF me_ 31 #[.val (.ref d), .val (.int 0), .val (.ref b), .val (.int 0), .val (.int 1), .val (.int 0), .val (.int c0)] [(.int (c0.toInt8.toInt32)), (.int 0), (.ref b)])) rfl rfl (hb hby d11_31)
    have W521 : Wr h0 h521 b ((0 : Int32)).toNatClampNeg (.int (c0.toInt8.toInt32)) := by have z := W521; rw [(own_narB _)] at z; exact z
    refine gv st521 ?_
    have K525 := K0.wr W521 (Or.inl (List.mem_of_getElem? (i := 0) rfl))
    have N526 := Fr.snoc X521 N0 u2
    have f522 : Arv Z h521 b k .byte (1 : Int32) [(.int (c0.toInt8.toInt32))] (.int 0) := Arv.set Ar521 q521 S521 n521 H521 G521 (fits_nar_byte _) W521 0 rfl (Nat.le_of_ble_eq_true rfl)
    refine gv (fun _ kQ => XS.iinc X521.here hx rfl (hb hby d11_32) rfl (l' := #[.val (.ref d), .val (.int ((0 : Int32) + (1 : Int32))), .val (.ref b), .val (.int 0), .val (.int 1), .val (.int 0), .val (.int c0)]) rfl kQ) ?_
    show G (T521.setTop (mkF me_ 35 #[.val (.ref d), .val (.int ((0 : Int32) + (1 : Int32))), .val (.ref b), .val (.int 0), .val (.int 1), .val (.int 0), .val (.int c0)] []))
    rw [(by decide : ((0 : Int32) + (1 : Int32)) = (1 : Int32))]
    refine gv (fun _ kQ => XS.iinc X521.here hx rfl (hb hby d11_35) rfl (l' := #[.val (.ref d), .val (.int 1), .val (.ref b), .val (.int ((0 : Int32) + (1 : Int32))), .val (.int 1), .val (.int 0), .val (.int c0)]) rfl kQ) ?_
    show G (T521.setTop (mkF me_ 38 #[.val (.ref d), .val (.int 1), .val (.ref b), .val (.int ((0 : Int32) + (1 : Int32))), .val (.int 1), .val (.int 0), .val (.int c0)] []))
    rw [(by decide : ((0 : Int32) + (1 : Int32)) = (1 : Int32))]
    refine gv (fun _ kQ => XS.iinc X521.here hx rfl (hb hby d11_38) rfl (l' := #[.val (.ref d), .val (.int 1), .val (.ref b), .val (.int 1), .val (.int 1), .val (.int ((0 : Int32) + (1 : Int32))), .val (.int c0)]) rfl kQ) ?_
    show G (T521.setTop (mkF me_ 41 #[.val (.ref d), .val (.int 1), .val (.ref b), .val (.int 1), .val (.int 1), .val (.int ((0 : Int32) + (1 : Int32))), .val (.int c0)] []))
    rw [(by decide : ((0 : Int32) + (1 : Int32)) = (1 : Int32))]
    refine gv (fun _ kQ => XS.goto X521.here hx rfl (pc0 := 41) (pc' := 3) rfl (hb hby d11_41) (by decide) (by decide) (XS.iload X521.here hx rfl (hb hby d11_3) rfl (XS.iload X521.here hx rfl (hb hby d11_5) rfl (XS.icmpYes X521.here hx rfl (pc0 := 7) (pc' := 44) rfl (hb hby d11_7) rfl (flt (by decide : ¬ ((1 : Int32) < (1 : Int32)))).2.1 (by decide) (by decide) (XS.iload X521.here hx rfl (hb hby d11_44) rfl kQ))))) ?_
    refine gf _ (own_ret X521 Bd.notSynchronized (v := some (.int 1)) (own_rv Bd.returns) ?_ (by decide) (by decide) (fun fs hr => retOut X521 hx (t := .int) Bd.returns rfl (Or.inl ⟨rfl, Or.inl rfl, _, rfl⟩) (hb hby d11_46) hr))
    show Q_cmp1 Z d kd b k c0 h0 n0 _ T521.heap _
    rw [e521]
    exact ⟨(1 : Int32), rfl, N526, K525, (Or.inl ⟨rfl, k, f522, hc520⟩)⟩
theorem ef_11 (m : MethodId) (x0 : Addr) (x1 : Int32) (x2 : Int32)  : entryFrame m #[(.ref x0), (.int x1), (.int x2)] 6 = mkF m 0 #[.val (.ref x0), .val (.int x1), .val (.int x2), .unset, .unset, .unset] [] := by first | (simp [entryFrame, mkF, argsToLocals, Value.category]; done) | rfl
theorem d10_0 : decode jdk_52_method_16_code 0 = .ok (.iload_n 2, 1) := by decide +kernel
theorem d10_1 : decode jdk_52_method_16_code 1 = .ok (.newarray .byte, 2) := by decide +kernel
theorem d10_3 : decode jdk_52_method_16_code 3 = .ok (.astore_n 3, 1) := by decide +kernel
theorem d10_4 : decode jdk_52_method_16_code 4 = .ok (.aload_n 0, 1) := by decide +kernel
theorem d10_5 : decode jdk_52_method_16_code 5 = .ok (.iload_n 1, 1) := by decide +kernel
theorem d10_6 : decode jdk_52_method_16_code 6 = .ok (.aload_n 3, 1) := by decide +kernel
theorem d10_7 : decode jdk_52_method_16_code 7 = .ok (.iconst 0, 1) := by decide +kernel
theorem d10_8 : decode jdk_52_method_16_code 8 = .ok (.iload_n 2, 1) := by decide +kernel
theorem d10_9 : decode jdk_52_method_16_code 9 = .ok (.invokestatic 115, 3) := by decide +kernel
theorem pd_11 : parseMethodDescriptor "([CI[BII)I" = some ⟨[(.array .char), .int, (.array .byte), .int, .int], some .int⟩ := by decide +kernel
theorem d10_12 : decode jdk_52_method_16_code 12 = .ok (.istore 4, 2) := by decide +kernel
theorem d10_14 : decode jdk_52_method_16_code 14 = .ok (.iload 4, 2) := by decide +kernel
theorem d10_16 : decode jdk_52_method_16_code 16 = .ok (.iload_n 2, 1) := by decide +kernel
theorem d10_17 : decode jdk_52_method_16_code 17 = .ok (.if_icmp .eq 40, 3) := by decide +kernel
theorem d10_57 : decode jdk_52_method_16_code 57 = .ok (.aload_n 3, 1) := by decide +kernel
theorem d10_58 : decode jdk_52_method_16_code 58 = .ok (.areturn, 1) := by decide +kernel
theorem d10_20 : decode jdk_52_method_16_code 20 = .ok (.aload_n 0, 1) := by decide +kernel
theorem d10_21 : decode jdk_52_method_16_code 21 = .ok (.iload_n 1, 1) := by decide +kernel
theorem d10_22 : decode jdk_52_method_16_code 22 = .ok (.iload_n 2, 1) := by decide +kernel
theorem d10_23 : decode jdk_52_method_16_code 23 = .ok (.invokestatic 119, 3) := by decide +kernel
theorem pd_12 : parseMethodDescriptor "([CII)[B" = some ⟨[(.array .char), .int, .int], some (.array .byte)⟩ := by decide +kernel
theorem d10_26 : decode jdk_52_method_16_code 26 = .ok (.astore 5, 2) := by decide +kernel
theorem d10_28 : decode jdk_52_method_16_code 28 = .ok (.aload 5, 2) := by decide +kernel
theorem d10_30 : decode jdk_52_method_16_code 30 = .ok (.iload 4, 2) := by decide +kernel
theorem d10_32 : decode jdk_52_method_16_code 32 = .ok (.invokestatic 71, 3) := by decide +kernel
theorem d10_35 : decode jdk_52_method_16_code 35 = .ok (.sipush 255, 3) := by decide +kernel
theorem d10_38 : decode jdk_52_method_16_code 38 = .ok (.if_icmp .gt 16, 3) := by decide +kernel
theorem d10_54 : decode jdk_52_method_16_code 54 = .ok (.aload 5, 2) := by decide +kernel
theorem d10_56 : decode jdk_52_method_16_code 56 = .ok (.areturn, 1) := by decide +kernel
def Q_cmpr1 (Z : State) (d : Addr) (kd : ClassId) (c0 : Int32) (h0 : Heap) (n0 : Nat) (v : Option Value) (h : Heap) (L : List Loc) : Prop := ∃ (b : Addr), v = some (.ref b) ∧ Fr n0 L ∧ Keep h0 h [] ∧ h0.size ≤ b ∧ (own_C1 Z h b c0)
theorem rm_cmpr1 (l : Launch) (Z : State) (a0 : Array Value) (hw : own_HW Z a0) (ws : List Jvm.Cond) (d : Addr) (kd : ClassId) (c0 : Int32) (h0 : Heap) (n0 : Nat) (O0 : Old Z n0 h0) (u0 : nar .char c0 = c0) (u1 : Sta Z Z.heap "java/lang/StringUTF16" "$assertionsDisabled" "Z" (.int 1)) (u2 : Sta Z Z.heap "java/lang/StringUTF16" "HI_BYTE_SHIFT" "I" (.int 0)) (u3 : Sta Z Z.heap "java/lang/StringUTF16" "LO_BYTE_SHIFT" "I" (.int 8)) (u4 : Arv Z h0 d kd .char (1 : Int32) [(.int c0)] (.int 0)) :
    own_Met l Z m_17 jdk_52_method_16_code 6 (some (.array .byte)) ws (own_R 3 2 3 40) #[(.ref d), (.int 0), (.int 1)] h0 (Q_cmpr1 Z d kd c0 h0 n0) := by
  refine own_open (plainFor_of_name pn_2) (fun pr_ en_ st_ me_ below meth_ co_ s₁ Bd hx hby hml hown hZ X0 e0 G gv gf => ?_)
  have N0 := Fr.nil n0
  have K0 := Keep.refl h0 []
  refine gv (fun _ kQ => castTop (ef_11 me_ d (0 : Int32) (1 : Int32)) kQ) ?_
  show G (s₁.setTop (mkF me_ 0 #[.val (.ref d), .val (.int 0), .val (.int 1), .unset, .unset, .unset] []))
  refine gv (fun _ kQ => XS.iloadN X0.here hx rfl (hb hby d10_0) rfl kQ) ?_
  obtain ⟨T527, h527, k527, X527, e527, E527, A527, st527⟩ := newP X0 hx hZ (hw _ (List.mem_of_getElem? (i := 26) rfl)) e0 (g := (mkF me_ 1 #[.val (.ref d), .val (.int 0), .val (.int 1), .unset, .unset, .unset] [(.int 1)])) rfl (hb hby d10_1) rfl (by decide) (cap := 1) (by decide) (by decide) (by decide) (by decide)
  obtain ⟨b527, g527⟩ : ∃ z, z = h0.size := ⟨_, rfl⟩
  rw [← g527] at A527 st527
  refine gv st527 ?_
  have ne528 : d ≠ b527 := Nat.ne_of_lt (Nat.lt_of_lt_of_le u4.lt (Nat.le_of_eq g527.symm))
  have g529 : n0 ≤ b527 := Nat.le_trans (own_old O0) (Nat.le_of_eq g527.symm)
  have z530 : h0.size ≤ b527 := Nat.le_trans K0.1 (Nat.le_of_eq g527.symm)
  have f531 := u4.ext E527
  have O532 := O0.ext E527
  have K533 := K0.ext E527
  have V527 : Arv Z h527 b527 k527 .byte (1 : Int32) [(.int 0)] (.int 0) := (Arv.new A527 (by decide)).pad (pad_rep [] (.int 0) 1)
  refine gv (fun _ kQ => XS.astoreN X527.here hx rfl (hb hby d10_3) rfl rfl (l' := #[.val (.ref d), .val (.int 0), .val (.int 1), .val (.ref b527), .unset, .unset]) rfl (XS.aloadN X527.here hx rfl (hb hby d10_4) rfl rfl (XS.iloadN X527.here hx rfl (hb hby d10_5) rfl (XS.aloadN X527.here hx rfl (hb hby d10_6) rfl rfl (XS.iconst X527.here hx rfl (hb hby d10_7) (XS.iloadN X527.here hx rfl (hb hby d10_8) rfl kQ)))))) ?_
  show G (T527.setTop (mkF me_ 9 #[.val (.ref d), .val (.int 0), .val (.int 1), .val (.ref b527), .unset, .unset] [(.int 1), (.int 0), (.ref b527), (.int 0), (.ref d)]))
  obtain ⟨_, _, ⟨T534, L534, k534, n534⟩, -, X534, ⟨Lc534, hQ534, l534, y534, z534⟩, st534⟩ := Jvm.LawKit.callS X527 hx (y := m_18) hown (mvT hZ (t_52 hw)) (mvT hZ (t_53 hw)) (mvT hZ (t_50 hw)) (mvT hZ (t_54 hw)) (by decide) (backOf (W := 0) (rm_cmp1 l Z a0 hw [] d kd b527 k527 c0 h527 n0 O532 f531 V527 g529 ne528) hZ (t_54 hw) (t_50 hw) (by decide) (by decide)) (g := (mkF me_ 9 #[.val (.ref d), .val (.int 0), .val (.int 1), .val (.ref b527), .unset, .unset] [(.int 1), (.int 0), (.ref b527), (.int 0), (.ref d)])) rfl (by rw [hml]; rfl) (argsL := [(.ref d), (.int 0), (.ref b527), (.int 0), (.int 1)]) (rest := []) (lenOf pd_11 rfl) rfl (by show 2 * 0 + _ ≤ _; exact Nat.le_of_eq rfl) (hb hby d10_9) (fun _ _ => ⟨rfl, e527, (by decide : 1 + 0 ≤ _), (by decide : 1 + 0 ≤ _)⟩)
  dsimp only [Pt.U, Pt.locs, Pt.cells, Pt.slots] at X534 l534 y534 z534 st534 hQ534
  subst l534 y534 z534
  obtain ⟨r_534, rfl, Nq534, Kq534, w534_0⟩ := hQ534
  have N535 := Fr.app N0 Nq534
  obtain ⟨h534, e534⟩ : ∃ z, T534.heap = z := ⟨_, rfl⟩
  rw [e534] at Kq534 w534_0
  have f536 := f531.keep Kq534 (ninS ne528 nin0)
  have O537 := O532.keep Kq534 (allS g529 all0)
  have K538 := K533.trans Kq534 (allS (Or.inr z530) all0)
  refine gv st534 ?_
  rcases w534_0 with ⟨q539, k539, A539, l539_0⟩ | ⟨q539, l539⟩
  · rw [q539]
    refine gv (fun _ kQ => XS.istore X534.here hx rfl (hb hby d10_12) rfl (l' := #[.val (.ref d), .val (.int 0), .val (.int 1), .val (.ref b527), .val (.int 1), .unset]) rfl (XS.iload X534.here hx rfl (hb hby d10_14) rfl (XS.iloadN X534.here hx rfl (hb hby d10_16) rfl (XS.icmpYes X534.here hx rfl (pc0 := 17) (pc' := 57) rfl (hb hby d10_17) rfl (teq (by decide : (1 : Int32) = (1 : Int32))).1 (by decide) (by decide) (XS.aloadN X534.here hx rfl (hb hby d10_57) rfl rfl kQ))))) ?_
    refine gf _ (own_ret X534 Bd.notSynchronized (v := some (.ref b527)) (own_rv Bd.returns) ?_ (by decide) (by decide) (fun fs hr => retOut X534 hx (t := (.array .byte)) Bd.returns rfl (Or.inr (Or.inr (Or.inr (Or.inr ⟨rfl, rfl, rfl⟩)))) (hb hby d10_58) hr))
    show Q_cmpr1 Z d kd c0 h0 n0 _ T534.heap _
    rw [e534]
    exact ⟨b527, rfl, N535, K538, z530, (Or.inl ⟨k539, A539, l539_0⟩)⟩
  · rw [q539]
    show G (T534.setTop (mkF me_ 12 #[.val (.ref d), .val (.int 0), .val (.int 1), .val (.ref b527), .unset, .unset] [(.int 0)]))
    refine gv (fun _ kQ => XS.istore X534.here hx rfl (hb hby d10_12) rfl (l' := #[.val (.ref d), .val (.int 0), .val (.int 1), .val (.ref b527), .val (.int 0), .unset]) rfl (XS.iload X534.here hx rfl (hb hby d10_14) rfl (XS.iloadN X534.here hx rfl (hb hby d10_16) rfl (XS.icmpNo X534.here hx rfl (hb hby d10_17) rfl (feq (by decide : ¬ ((0 : Int32) = (1 : Int32)))).1 (XS.aloadN X534.here hx rfl (hb hby d10_20) rfl rfl (XS.iloadN X534.here hx rfl (hb hby d10_21) rfl (XS.iloadN X534.here hx rfl (hb hby d10_22) rfl kQ))))))) ?_
    show G (T534.setTop (mkF me_ 23 #[.val (.ref d), .val (.int 0), .val (.int 1), .val (.ref b527), .val (.int 0), .unset] [(.int 1), (.int 0), (.ref d)]))
    obtain ⟨_, _, ⟨T540, L540, k540, n540⟩, -, X540, ⟨Lc540, hQ540, l540, y540, z540⟩, st540⟩ := Jvm.LawKit.callS X534 hx (y := m_24) hown (mvT hZ (t_58 hw)) (mvT hZ (t_59 hw)) (mvT hZ (t_50 hw)) (mvT hZ (t_60 hw)) (by decide) (backOf (W := 0) (rm_utb1 l Z a0 hw [] d kd c0 h534 n0 O537 u1 u2 u3 f536) hZ (t_60 hw) (t_50 hw) (by decide) (by decide)) (g := (mkF me_ 23 #[.val (.ref d), .val (.int 0), .val (.int 1), .val (.ref b527), .val (.int 0), .unset] [(.int 1), (.int 0), (.ref d)])) rfl (by rw [hml]; rfl) (argsL := [(.ref d), (.int 0), (.int 1)]) (rest := []) (lenOf pd_12 rfl) rfl (by show 2 * 0 + _ ≤ _; exact Nat.le_of_eq rfl) (hb hby d10_23) (fun _ _ => ⟨rfl, e534, (by decide : 1 + 1 ≤ _), (by decide : 1 + 2 ≤ _)⟩)
    dsimp only [Pt.U, Pt.locs, Pt.cells, Pt.slots] at X540 l540 y540 z540 st540 hQ540
    subst l540 y540 z540
    obtain ⟨b_540, k_540, rfl, Nq540, Kq540, w540_0, w540_1⟩ := hQ540
    have N541 := Fr.app N535 Nq540
    obtain ⟨h540, e540⟩ : ∃ z, T540.heap = z := ⟨_, rfl⟩
    rw [e540] at Kq540 w540_1
    have z544 : h0.size ≤ b_540 := Nat.le_trans K538.1 w540_0
    have O546 := O537.keep Kq540 all0
    have K547 := K538.trans Kq540 all0
    refine gv st540 ?_
    refine gv (fun _ kQ => XS.astore X540.here hx rfl (hb hby d10_26) rfl rfl (l' := #[.val (.ref d), .val (.int 0), .val (.int 1), .val (.ref b527), .val (.int 0), .val (.ref b_540)]) rfl (XS.aload X540.here hx rfl (hb hby d10_28) rfl rfl (XS.iload X540.here hx rfl (hb hby d10_30) rfl kQ))) ?_
    show G (T540.setTop (mkF me_ 32 #[.val (.ref d), .val (.int 0), .val (.int 1), .val (.ref b527), .val (.int 0), .val (.ref b_540)] [(.int 0), (.ref b_540)]))
    obtain ⟨_, _, ⟨T548, L548, k548, n548⟩, -, X548, ⟨Lc548, hQ548, l548, y548, z548⟩, st548⟩ := Jvm.LawKit.callS X540 hx (y := m_19) hown (mvT hZ (t_74 hw)) (mvT hZ (t_75 hw)) (mvT hZ (t_50 hw)) (mvT hZ (t_76 hw)) (by decide) (backOf (W := 0) (rm_getc1_0 l Z a0 hw [] b_540 k_540 ((c0 >>> ((0 : Int32) &&& 31)).toInt8.toInt32) ((c0 >>> ((8 : Int32) &&& 31)).toInt8.toInt32) h540 n0 O546 u1 u2 u3 w540_1) hZ (t_76 hw) (t_50 hw) (by decide) (by decide)) (g := (mkF me_ 32 #[.val (.ref d), .val (.int 0), .val (.int 1), .val (.ref b527), .val (.int 0), .val (.ref b_540)] [(.int 0), (.ref b_540)])) rfl (by rw [hml]; rfl) (argsL := [(.ref b_540), (.int 0)]) (rest := []) (lenOf pd_4 rfl) rfl (by show 2 * 0 + _ ≤ _; exact Nat.le_of_eq rfl) (hb hby d10_32) (fun _ _ => ⟨rfl, e540, (by decide : 2 + 0 ≤ _), (by decide : 3 + 0 ≤ _)⟩)
    dsimp only [Pt.U, Pt.locs, Pt.cells, Pt.slots] at X548 l548 y548 z548 st548 hQ548
    subst l548 y548 z548
    obtain ⟨rfl, Nq548, eq548⟩ := hQ548
    have N549 := Fr.app N541 Nq548
    refine gv st548 ?_
    refine gv (fun _ kQ => XS.sipush X548.here hx rfl (hb hby d10_35) (XS.icmpYes X548.here hx rfl (pc0 := 38) (pc' := 54) rfl (hb hby d10_38) rfl (tlt (own_gcgt u0 l539)).2.2.1 (by decide) (by decide) (XS.aload X548.here hx rfl (hb hby d10_54) rfl rfl kQ))) ?_
    refine gf _ (own_ret X548 Bd.notSynchronized (v := some (.ref b_540)) (own_rv Bd.returns) ?_ (by decide) (by decide) (fun fs hr => retOut X548 hx (t := (.array .byte)) Bd.returns rfl (Or.inr (Or.inr (Or.inr (Or.inr ⟨rfl, rfl, rfl⟩)))) (hb hby d10_56) hr))
    show Q_cmpr1 Z d kd c0 h0 n0 _ T548.heap _
    rw [eq548]
    exact ⟨b_540, rfl, N549, K547, z544, (Or.inr ⟨k_540, w540_1⟩)⟩
theorem d12_0 : decode jdk_52_method_15_code 0 = .ok (.iload_n 1, 1) := by decide +kernel
theorem d12_1 : decode jdk_52_method_15_code 1 = .ok (.aload_n 0, 1) := by decide +kernel
theorem d12_2 : decode jdk_52_method_15_code 2 = .ok (.arraylength, 1) := by decide +kernel
theorem d12_3 : decode jdk_52_method_15_code 3 = .ok (.isub, 1) := by decide +kernel
theorem d12_4 : decode jdk_52_method_15_code 4 = .ok (.bipush 31, 2) := by decide +kernel
theorem d12_6 : decode jdk_52_method_15_code 6 = .ok (.iushr, 1) := by decide +kernel
theorem d12_7 : decode jdk_52_method_15_code 7 = .ok (.i2b, 1) := by decide +kernel
theorem d12_8 : decode jdk_52_method_15_code 8 = .ok (.ireturn, 1) := by decide +kernel
def Q_cfal1_1 (Z : State) (b : Addr) (k : ClassId) (x0 : Int32) (h0 : Heap) (n0 : Nat) (v : Option Value) (h : Heap) (L : List Loc) : Prop := v = some (.int 0) ∧ Fr n0 L ∧ h = h0
theorem rm_cfal1_1 (l : Launch) (Z : State) (a0 : Array Value) (hw : own_HW Z a0) (ws : List Jvm.Cond) (b : Addr) (k : ClassId) (x0 : Int32) (h0 : Heap) (n0 : Nat) (O0 : Old Z n0 h0) (u0 : Arv Z h0 b k .byte (1 : Int32) [(.int x0)] (.int 0)) :
    own_Met l Z m_16 jdk_52_method_15_code 2 (some .byte) ws (own_R 0 0 0 0) #[(.ref b), (.int 1)] h0 (Q_cfal1_1 Z b k x0 h0 n0) := by
  refine own_open (plainFor_of_name pn_2) (fun pr_ en_ st_ me_ below meth_ co_ s₁ Bd hx hby hml hown hZ X0 e0 G gv gf => ?_)
  have N0 := Fr.nil n0
  refine gv (fun _ kQ => castTop (ef_4 me_ b (1 : Int32)) kQ) ?_
  show G (s₁.setTop (mkF me_ 0 #[.val (.ref b), .val (.int 1)] []))
  refine gv (fun _ kQ => XS.iloadN X0.here hx rfl (hb hby d12_0) rfl (XS.aloadN X0.here hx rfl (hb hby d12_1) rfl rfl kQ)) ?_
  obtain ⟨cl550, Ar550, -, S550, n550, -, -⟩ := (id u0)
  refine gv (X0.arraylength hx (by rw [e0]; exact Ar550.1) (State.isArrayOf_alike hZ.alike Ar550.2.1) (g := (mkF me_ 2 #[.val (.ref b), .val (.int 1)] [(.ref b), (.int 1)])) rfl rfl (hb hby d12_2)) ?_
  rw [len_of S550 n550]
  refine gv (fun _ kQ => XS.isub X0.here hx rfl (hb hby d12_3) rfl kQ) ?_
  show G (s₁.setTop (mkF me_ 4 #[.val (.ref b), .val (.int 1)] [(.int ((1 : Int32) - (1 : Int32)))]))
  rw [(by decide : ((1 : Int32) - (1 : Int32)) = (0 : Int32))]
  refine gv (fun _ kQ => XS.bipush X0.here hx rfl (hb hby d12_4) (XS.iushr X0.here hx rfl (hb hby d12_6) rfl kQ)) ?_
  show G (s₁.setTop (mkF me_ 7 #[.val (.ref b), .val (.int 1)] [(.int (((0 : Int32).toUInt32 >>> ((31 : Int32) &&& 31).toUInt32).toInt32))]))
  rw [(by decide : (((0 : Int32).toUInt32 >>> ((31 : Int32) &&& 31).toUInt32).toInt32) = (0 : Int32))]
  refine gv (fun _ kQ => XS.i2b X0.here hx rfl (hb hby d12_7) rfl kQ) ?_
  show G (s₁.setTop (mkF me_ 8 #[.val (.ref b), .val (.int 1)] [(.int ((0 : Int32).toInt8.toInt32))]))
  rw [(by decide : ((0 : Int32).toInt8.toInt32) = (0 : Int32))]
  refine gf _ (own_ret X0 Bd.notSynchronized (v := some (.int 0)) (own_rv Bd.returns) ?_ (by decide) (by decide) (fun fs hr => retN X0 hx (t := .byte) Bd.returns (by simp) (hb hby d12_8) hr))
  show Q_cfal1_1 Z b k x0 h0 n0 _ s₁.heap _
  rw [e0]
  exact ⟨rfl, N0, rfl⟩
def Q_cfal1_2 (Z : State) (b : Addr) (k : ClassId) (x0 x1 : Int32) (h0 : Heap) (n0 : Nat) (v : Option Value) (h : Heap) (L : List Loc) : Prop := v = some (.int 1) ∧ Fr n0 L ∧ h = h0
theorem rm_cfal1_2 (l : Launch) (Z : State) (a0 : Array Value) (hw : own_HW Z a0) (ws : List Jvm.Cond) (b : Addr) (k : ClassId) (x0 x1 : Int32) (h0 : Heap) (n0 : Nat) (O0 : Old Z n0 h0) (u0 : Arv Z h0 b k .byte (2 : Int32) [(.int x0), (.int x1)] (.int 0)) :
    own_Met l Z m_16 jdk_52_method_15_code 2 (some .byte) ws (own_R 0 0 0 0) #[(.ref b), (.int 1)] h0 (Q_cfal1_2 Z b k x0 x1 h0 n0) := by
  refine own_open (plainFor_of_name pn_2) (fun pr_ en_ st_ me_ below meth_ co_ s₁ Bd hx hby hml hown hZ X0 e0 G gv gf => ?_)
  have N0 := Fr.nil n0
  refine gv (fun _ kQ => castTop (ef_4 me_ b (1 : Int32)) kQ) ?_
  show G (s₁.setTop (mkF me_ 0 #[.val (.ref b), .val (.int 1)] []))
  refine gv (fun _ kQ => XS.iloadN X0.here hx rfl (hb hby d12_0) rfl (XS.aloadN X0.here hx rfl (hb hby d12_1) rfl rfl kQ)) ?_
  obtain ⟨cl551, Ar551, -, S551, n551, -, -⟩ := (id u0)
  refine gv (X0.arraylength hx (by rw [e0]; exact Ar551.1) (State.isArrayOf_alike hZ.alike Ar551.2.1) (g := (mkF me_ 2 #[.val (.ref b), .val (.int 1)] [(.ref b), (.int 1)])) rfl rfl (hb hby d12_2)) ?_
  rw [len_of S551 n551]
  refine gv (fun _ kQ => XS.isub X0.here hx rfl (hb hby d12_3) rfl kQ) ?_
  show G (s₁.setTop (mkF me_ 4 #[.val (.ref b), .val (.int 1)] [(.int ((1 : Int32) - (2 : Int32)))]))
  rw [(by decide : ((1 : Int32) - (2 : Int32)) = (-1 : Int32))]
  refine gv (fun _ kQ => XS.bipush X0.here hx rfl (hb hby d12_4) (XS.iushr X0.here hx rfl (hb hby d12_6) rfl kQ)) ?_
  show G (s₁.setTop (mkF me_ 7 #[.val (.ref b), .val (.int 1)] [(.int (((-1 : Int32).toUInt32 >>> ((31 : Int32) &&& 31).toUInt32).toInt32))]))
  rw [(by decide : (((-1 : Int32).toUInt32 >>> ((31 : Int32) &&& 31).toUInt32).toInt32) = (1 : Int32))]
  refine gv (fun _ kQ => XS.i2b X0.here hx rfl (hb hby d12_7) rfl kQ) ?_
  show G (s₁.setTop (mkF me_ 8 #[.val (.ref b), .val (.int 1)] [(.int ((1 : Int32).toInt8.toInt32))]))
  rw [(by decide : ((1 : Int32).toInt8.toInt32) = (1 : Int32))]
  refine gf _ (own_ret X0 Bd.notSynchronized (v := some (.int 1)) (own_rv Bd.returns) ?_ (by decide) (by decide) (fun fs hr => retN X0 hx (t := .byte) Bd.returns (by simp) (hb hby d12_8) hr))
  show Q_cfal1_2 Z b k x0 x1 h0 n0 _ s₁.heap _
  rw [e0]
  exact ⟨rfl, N0, rfl⟩
theorem d5_27 : decode jdk_42_method_149_code 27 = .ok (.getstatic 38, 3) := by decide +kernel
theorem d5_30 : decode jdk_42_method_149_code 30 = .ok (.ifCond .eq 28, 3) := by decide +kernel
theorem d5_33 : decode jdk_42_method_149_code 33 = .ok (.aload_n 1, 1) := by decide +kernel
theorem d5_34 : decode jdk_42_method_149_code 34 = .ok (.iload_n 2, 1) := by decide +kernel
theorem d5_35 : decode jdk_42_method_149_code 35 = .ok (.iload_n 3, 1) := by decide +kernel
theorem d5_36 : decode jdk_42_method_149_code 36 = .ok (.invokestatic 177, 3) := by decide +kernel
theorem d5_39 : decode jdk_42_method_149_code 39 = .ok (.astore 5, 2) := by decide +kernel
theorem d5_41 : decode jdk_42_method_149_code 41 = .ok (.aload_n 0, 1) := by decide +kernel
theorem d5_42 : decode jdk_42_method_149_code 42 = .ok (.aload 5, 2) := by decide +kernel
theorem d5_44 : decode jdk_42_method_149_code 44 = .ok (.iload_n 3, 1) := by decide +kernel
theorem d5_45 : decode jdk_42_method_149_code 45 = .ok (.invokestatic 47, 3) := by decide +kernel
theorem pd_13 : parseMethodDescriptor "([BI)B" = some ⟨[(.array .byte), .int], some .byte⟩ := by decide +kernel
theorem d5_48 : decode jdk_42_method_149_code 48 = .ok (.putfield 15, 3) := by decide +kernel
theorem d5_51 : decode jdk_42_method_149_code 51 = .ok (.aload_n 0, 1) := by decide +kernel
theorem d5_52 : decode jdk_42_method_149_code 52 = .ok (.aload 5, 2) := by decide +kernel
theorem d5_54 : decode jdk_42_method_149_code 54 = .ok (.putfield 9, 3) := by decide +kernel
theorem d5_57 : decode jdk_42_method_149_code 57 = .ok (.return_, 1) := by decide +kernel
def Q_sciX1 (Z : State) (a d : Addr) (kd : ClassId) (c0 cs : Int32) (h0 : Heap) (n0 : Nat) (v : Option Value) (h : Heap) (L : List Loc) : Prop := v = none ∧ Fr n0 L ∧ Keep h0 h [a] ∧ (Exa Z h a "java/lang/String") ∧ (own_S1 Z h a c0)
theorem rm_sciX1 (l : Launch) (Z : State) (a0 : Array Value) (hw : own_HW Z a0) (ws : List Jvm.Cond) (a d : Addr) (kd : ClassId) (c0 cs : Int32) (h0 : Heap) (n0 : Nat) (O0 : Old Z n0 h0) (u0 : Sta Z Z.heap "java/lang/String" "COMPACT_STRINGS" "Z" (.int cs)) (u1 : ¬ (cs = (0 : Int32))) (u2 : Sta Z Z.heap "java/lang/StringUTF16" "$assertionsDisabled" "Z" (.int 1)) (u3 : Sta Z Z.heap "java/lang/StringUTF16" "HI_BYTE_SHIFT" "I" (.int 0)) (u4 : Sta Z Z.heap "java/lang/StringUTF16" "LO_BYTE_SHIFT" "I" (.int 8)) (u5 : nar .char c0 = c0) (u6 : Exa Z h0 a "java/lang/String") (u7 : Fld Z h0 a "java/lang/String" "value" "[B" .null) (u8 : Fld Z h0 a "java/lang/String" "coder" "B" (.int 0)) (u9 : n0 ≤ a) (u10 : Arv Z h0 d kd .char (1 : Int32) [(.int c0)] (.int 0)) (u11 : a ≠ d) :
    own_Met l Z m_7 jdk_42_method_149_code 6 none ws (own_R 4 2 3 57) #[(.ref a), (.ref d), (.int 0), (.int 1), .null] h0 (Q_sciX1 Z a d kd c0 cs h0 n0) := by
  refine own_open (plainFor_of_name pn_0) (fun pr_ en_ st_ me_ below meth_ co_ s₁ Bd hx hby hml hown hZ X0 e0 G gv gf => ?_)
  have hnm := (name_of_methodNamed Bd.named Bd.method).1
  have N0 := Fr.nil n0
  have K0 := Keep.refl h0 [a]
  refine gv (fun _ kQ => castTop (ef_6 me_ a d (0 : Int32) (1 : Int32)) kQ) ?_
  show G (s₁.setTop (mkF me_ 0 #[.val (.ref a), .val (.ref d), .val (.int 0), .val (.int 1), .val .null, .unset] []))
  refine gv (fun _ kQ => XS.aloadN X0.here hx rfl (hb hby d5_0) rfl rfl kQ) ?_
  obtain ⟨T552, X552, e552, st552⟩ := initO X0 hx hZ hown (t_22 hw) (t_23 hw) (t_24 hw) e0 (g := (mkF me_ 1 #[.val (.ref a), .val (.ref d), .val (.int 0), .val (.int 1), .val .null, .unset] [(.ref a)])) rfl (by rw [hml]; rfl) rfl (hb hby d5_1) (by decide) (W := 0) (by show 2 * 0 + _ ≤ _; exact Nat.le_of_eq rfl) (by decide)
  refine gv st552 ?_
  refine gv (fun _ kQ => XS.iloadN X552.here hx rfl (hb hby d5_4) rfl (XS.ifYes X552.here hx rfl (pc0 := 5) (pc' := 27) rfl (hb hby d5_5) rfl ((if0 _ _).trans (feq (by decide : ¬ ((1 : Int32) = (0 : Int32)))).2) (by decide) (by decide) kQ)) ?_
  show G (T552.setTop (mkF me_ 27 #[.val (.ref a), .val (.ref d), .val (.int 0), .val (.int 1), .val .null, .unset] []))
  obtain ⟨T553, X553, e553, st553⟩ := getS2 X552 hx hZ hown (host := "") (Or.inl (t_47 hw)) Via.refl e552 (u0.ext O0.2) (g := (mkF me_ 27 #[.val (.ref a), .val (.ref d), .val (.int 0), .val (.int 1), .val .null, .unset] [])) rfl (hb hby d5_27)
  refine gv st553 ?_
  refine gv (fun _ kQ => XS.ifNo X553.here hx rfl (hb hby d5_30) rfl ((if0 _ _).trans (feq u1).1) (XS.aloadN X553.here hx rfl (hb hby d5_33) rfl rfl (XS.iloadN X553.here hx rfl (hb hby d5_34) rfl (XS.iloadN X553.here hx rfl (hb hby d5_35) rfl kQ)))) ?_
  show G (T553.setTop (mkF me_ 36 #[.val (.ref a), .val (.ref d), .val (.int 0), .val (.int 1), .val .null, .unset] [(.int 1), (.int 0), (.ref d)]))
  obtain ⟨_, _, ⟨T554, L554, k554, n554⟩, -, X554, ⟨Lc554, hQ554, l554, y554, z554⟩, st554⟩ := Jvm.LawKit.callS X553 hx (y := m_17) hown (mvT hZ (t_48 hw)) (mvT hZ (t_49 hw)) (mvT hZ (t_50 hw)) (mvT hZ (t_51 hw)) (by decide) (backOf (W := 0) (rm_cmpr1 l Z a0 hw [] d kd c0 h0 n0 O0 u5 u2 u3 u4 u10) hZ (t_51 hw) (t_50 hw) (by decide) (by decide)) (g := (mkF me_ 36 #[.val (.ref a), .val (.ref d), .val (.int 0), .val (.int 1), .val .null, .unset] [(.int 1), (.int 0), (.ref d)])) rfl (by rw [hml]; rfl) (argsL := [(.ref d), (.int 0), (.int 1)]) (rest := []) (lenOf pd_12 rfl) rfl (by show 2 * 0 + _ ≤ _; exact Nat.le_of_eq rfl) (hb hby d5_36) (fun _ _ => ⟨rfl, e553, (by decide : 0 + 2 ≤ _), (by decide : 0 + 3 ≤ _)⟩)
  dsimp only [Pt.U, Pt.locs, Pt.cells, Pt.slots] at X554 l554 y554 z554 st554 hQ554
  subst l554 y554 z554
  obtain ⟨b_554, rfl, Nq554, Kq554, w554_0, w554_1⟩ := hQ554
  have N555 := Fr.app N0 Nq554
  obtain ⟨h554, e554⟩ : ∃ z, T554.heap = z := ⟨_, rfl⟩
  rw [e554] at Kq554 w554_1
  have ne556 : a ≠ b_554 := Nat.ne_of_lt (Nat.lt_of_lt_of_le u6.lt w554_0)
  have f560 := u6.keep Kq554
  have f561 := u7.keep Kq554 nin0
  have f562 := u8.keep Kq554 nin0
  have O564 := O0.keep Kq554 all0
  have K565 := K0.trans Kq554 all0
  refine gv st554 ?_
  rcases w554_1 with ⟨k566, A566, l566_0⟩ | ⟨k566, A566⟩
  · skip
    refine gv (fun _ kQ => XS.astore X554.here hx rfl (hb hby d5_39) rfl rfl (l' := #[.val (.ref a), .val (.ref d), .val (.int 0), .val (.int 1), .val .null, .val (.ref b_554)]) rfl (XS.aloadN X554.here hx rfl (hb hby d5_41) rfl rfl (XS.aload X554.here hx rfl (hb hby d5_42) rfl rfl (XS.iloadN X554.here hx rfl (hb hby d5_44) rfl kQ)))) ?_
    show G (T554.setTop (mkF me_ 45 #[.val (.ref a), .val (.ref d), .val (.int 0), .val (.int 1), .val .null, .val (.ref b_554)] [(.int 1), (.ref b_554), (.ref a)]))
    obtain ⟨_, _, ⟨T567, L567, k567, n567⟩, -, X567, ⟨Lc567, hQ567, l567, y567, z567⟩, st567⟩ := Jvm.LawKit.callS X554 hx (y := m_16) hown (mvT hZ (t_55 hw)) (mvT hZ (t_56 hw)) (mvT hZ (t_50 hw)) (mvT hZ (t_57 hw)) (by decide) (backOf (W := 1) (rm_cfal1_1 l Z a0 hw [] b_554 k566 (c0.toInt8.toInt32) h554 n0 O564 A566) hZ (t_57 hw) (t_50 hw) (by decide) (by decide)) (g := (mkF me_ 45 #[.val (.ref a), .val (.ref d), .val (.int 0), .val (.int 1), .val .null, .val (.ref b_554)] [(.int 1), (.ref b_554), (.ref a)])) rfl (by rw [hml]; rfl) (argsL := [(.ref b_554), (.int 1)]) (rest := [(.ref a)]) (lenOf pd_13 rfl) rfl (by show 2 * 0 + _ ≤ _; exact Nat.le_of_eq rfl) (hb hby d5_45) (fun _ _ => ⟨rfl, e554, (by decide : 2 + 0 ≤ _), (by decide : 3 + 0 ≤ _)⟩)
    dsimp only [Pt.U, Pt.locs, Pt.cells, Pt.slots] at X567 l567 y567 z567 st567 hQ567
    subst l567 y567 z567
    obtain ⟨rfl, Nq567, eq567⟩ := hQ567
    have N568 := Fr.app N555 Nq567
    refine gv st567 ?_
    obtain ⟨T569, h569, X569, e569, W569, st569⟩ := putFN X567 hx hZ hown (t_32 hw) Via.refl eq567 f562 f560 (Or.inr ⟨(t_28 hw), rfl, hnm⟩) (t_12 hw) (ty := .byte) (v' := (.int 0)) (by decide) rfl rfl (g := (mkF me_ 48 #[.val (.ref a), .val (.ref d), .val (.int 0), .val (.int 1), .val .null, .val (.ref b_554)] [(.int 0), (.ref a)])) rfl rfl (hb hby d5_48)
    refine gv st569 ?_
    have f571 := f560.wr W569
    have f572 := f561.other W569 (Or.inr (slot_ne (Or.inr (t_27 hw)) (Or.inr (t_28 hw)) (by decide) (t := (.array .byte)) (t' := .byte) (by decide) (by decide)))
    have f574 := A566.other W569 (Ne.symm ne556)
    have K576 := K565.wr W569 (Or.inl (List.mem_of_getElem? (i := 0) rfl))
    have N577 := Fr.snoc X569 N568 u9
    have f570 : Fld Z h569 a "java/lang/String" "coder" "B" (.int 0) := f562.same W569
    refine gv (fun _ kQ => XS.aloadN X569.here hx rfl (hb hby d5_51) rfl rfl (XS.aload X569.here hx rfl (hb hby d5_52) rfl rfl kQ)) ?_
    show G (T569.setTop (mkF me_ 54 #[.val (.ref a), .val (.ref d), .val (.int 0), .val (.int 1), .val .null, .val (.ref b_554)] [(.ref b_554), (.ref a)]))
    obtain ⟨T578, h578, X578, e578, W578, st578⟩ := putF X569 hx hZ hown (host := "") (Or.inl (t_31 hw)) Via.refl e569 f572 f571 (Or.inr ⟨(t_27 hw), rfl, hnm⟩) (t_12 hw) (ty := (.array .byte)) (by decide) rfl rfl (g := (mkF me_ 54 #[.val (.ref a), .val (.ref d), .val (.int 0), .val (.int 1), .val .null, .val (.ref b_554)] [(.ref b_554), (.ref a)])) rfl rfl (hb hby d5_54)
    refine gv st578 ?_
    have f580 := f571.wr W578
    have f581 := f570.other W578 (Or.inr (slot_ne (Or.inr (t_28 hw)) (Or.inr (t_27 hw)) (by decide) (t := .byte) (t' := (.array .byte)) (by decide) (by decide)))
    have f583 := f574.other W578 (Ne.symm ne556)
    have K585 := K576.wr W578 (Or.inl (List.mem_of_getElem? (i := 0) rfl))
    have N586 := Fr.snoc X578 N577 u9
    have f579 : Fld Z h578 a "java/lang/String" "value" "[B" (.ref b_554) := f572.same W578
    refine gf _ (own_ret X578 Bd.notSynchronized (v := none) (fun _ => rfl) ?_ (by decide) (by decide) (fun fs hr => X578.returnOut hx Bd.returns (hb hby d5_57) hr))
    show Q_sciX1 Z a d kd c0 cs h0 n0 _ T578.heap _
    rw [e578]
    exact ⟨rfl, N586, K585, f580, ⟨Or.inl ⟨b_554, k566, f580, f581, f579, f583, l566_0⟩, u5⟩⟩
  · skip
    refine gv (fun _ kQ => XS.astore X554.here hx rfl (hb hby d5_39) rfl rfl (l' := #[.val (.ref a), .val (.ref d), .val (.int 0), .val (.int 1), .val .null, .val (.ref b_554)]) rfl (XS.aloadN X554.here hx rfl (hb hby d5_41) rfl rfl (XS.aload X554.here hx rfl (hb hby d5_42) rfl rfl (XS.iloadN X554.here hx rfl (hb hby d5_44) rfl kQ)))) ?_
    show G (T554.setTop (mkF me_ 45 #[.val (.ref a), .val (.ref d), .val (.int 0), .val (.int 1), .val .null, .val (.ref b_554)] [(.int 1), (.ref b_554), (.ref a)]))
    obtain ⟨_, _, ⟨T587, L587, k587, n587⟩, -, X587, ⟨Lc587, hQ587, l587, y587, z587⟩, st587⟩ := Jvm.LawKit.callS X554 hx (y := m_16) hown (mvT hZ (t_55 hw)) (mvT hZ (t_56 hw)) (mvT hZ (t_50 hw)) (mvT hZ (t_57 hw)) (by decide) (backOf (W := 1) (rm_cfal1_2 l Z a0 hw [] b_554 k566 ((c0 >>> ((0 : Int32) &&& 31)).toInt8.toInt32) ((c0 >>> ((8 : Int32) &&& 31)).toInt8.toInt32) h554 n0 O564 A566) hZ (t_57 hw) (t_50 hw) (by decide) (by decide)) (g := (mkF me_ 45 #[.val (.ref a), .val (.ref d), .val (.int 0), .val (.int 1), .val .null, .val (.ref b_554)] [(.int 1), (.ref b_554), (.ref a)])) rfl (by rw [hml]; rfl) (argsL := [(.ref b_554), (.int 1)]) (rest := [(.ref a)]) (lenOf pd_13 rfl) rfl (by show 2 * 0 + _ ≤ _; exact Nat.le_of_eq rfl) (hb hby d5_45) (fun _ _ => ⟨rfl, e554, (by decide : 2 + 0 ≤ _), (by decide : 3 + 0 ≤ _)⟩)
    dsimp only [Pt.U, Pt.locs, Pt.cells, Pt.slots] at X587 l587 y587 z587 st587 hQ587
    subst l587 y587 z587
    obtain ⟨rfl, Nq587, eq587⟩ := hQ587
    have N588 := Fr.app N555 Nq587
    refine gv st587 ?_
    obtain ⟨T589, h589, X589, e589, W589, st589⟩ := putFN X587 hx hZ hown (t_32 hw) Via.refl eq587 f562 f560 (Or.inr ⟨(t_28 hw), rfl, hnm⟩) (t_12 hw) (ty := .byte) (v' := (.int 1)) (by decide) rfl rfl (g := (mkF me_ 48 #[.val (.ref a), .val (.ref d), .val (.int 0), .val (.int 1), .val .null, .val (.ref b_554)] [(.int 1), (.ref a)])) rfl rfl (hb hby d5_48)
    refine gv st589 ?_
    have f591 := f560.wr W589
    have f592 := f561.other W589 (Or.inr (slot_ne (Or.inr (t_27 hw)) (Or.inr (t_28 hw)) (by decide) (t := (.array .byte)) (t' := .byte) (by decide) (by decide)))
    have f594 := A566.other W589 (Ne.symm ne556)
    have K596 := K565.wr W589 (Or.inl (List.mem_of_getElem? (i := 0) rfl))
    have N597 := Fr.snoc X589 N588 u9
    have f590 : Fld Z h589 a "java/lang/String" "coder" "B" (.int 1) := f562.same W589
    refine gv (fun _ kQ => XS.aloadN X589.here hx rfl (hb hby d5_51) rfl rfl (XS.aload X589.here hx rfl (hb hby d5_52) rfl rfl kQ)) ?_
    show G (T589.setTop (mkF me_ 54 #[.val (.ref a), .val (.ref d), .val (.int 0), .val (.int 1), .val .null, .val (.ref b_554)] [(.ref b_554), (.ref a)]))
    obtain ⟨T598, h598, X598, e598, W598, st598⟩ := putF X589 hx hZ hown (host := "") (Or.inl (t_31 hw)) Via.refl e589 f592 f591 (Or.inr ⟨(t_27 hw), rfl, hnm⟩) (t_12 hw) (ty := (.array .byte)) (by decide) rfl rfl (g := (mkF me_ 54 #[.val (.ref a), .val (.ref d), .val (.int 0), .val (.int 1), .val .null, .val (.ref b_554)] [(.ref b_554), (.ref a)])) rfl rfl (hb hby d5_54)
    refine gv st598 ?_
    have f600 := f591.wr W598
    have f601 := f590.other W598 (Or.inr (slot_ne (Or.inr (t_28 hw)) (Or.inr (t_27 hw)) (by decide) (t := .byte) (t' := (.array .byte)) (by decide) (by decide)))
    have f603 := f594.other W598 (Ne.symm ne556)
    have K605 := K596.wr W598 (Or.inl (List.mem_of_getElem? (i := 0) rfl))
    have N606 := Fr.snoc X598 N597 u9
    have f599 : Fld Z h598 a "java/lang/String" "value" "[B" (.ref b_554) := f592.same W598
    refine gf _ (own_ret X598 Bd.notSynchronized (v := none) (fun _ => rfl) ?_ (by decide) (by decide) (fun fs hr => X598.returnOut hx Bd.returns (hb hby d5_57) hr))
    show Q_sciX1 Z a d kd c0 cs h0 n0 _ T598.heap _
    rw [e598]
    exact ⟨rfl, N606, K605, f600, ⟨Or.inr ⟨b_554, k566, f600, f601, f599, f603⟩, u5⟩⟩
def Q_scX1 (Z : State) (a d : Addr) (kd : ClassId) (c0 cs : Int32) (h0 : Heap) (n0 : Nat) (v : Option Value) (h : Heap) (L : List Loc) : Prop := v = none ∧ Fr n0 L ∧ Keep h0 h [a] ∧ (Exa Z h a "java/lang/String") ∧ (own_S1 Z h a c0)
theorem rm_scX1 (l : Launch) (Z : State) (a0 : Array Value) (hw : own_HW Z a0) (ws : List Jvm.Cond) (a d : Addr) (kd : ClassId) (c0 cs : Int32) (h0 : Heap) (n0 : Nat) (O0 : Old Z n0 h0) (u0 : Sta Z Z.heap "java/lang/String" "COMPACT_STRINGS" "Z" (.int cs)) (u1 : ¬ (cs = (0 : Int32))) (u2 : Sta Z Z.heap "java/lang/StringUTF16" "$assertionsDisabled" "Z" (.int 1)) (u3 : Sta Z Z.heap "java/lang/StringUTF16" "HI_BYTE_SHIFT" "I" (.int 0)) (u4 : Sta Z Z.heap "java/lang/StringUTF16" "LO_BYTE_SHIFT" "I" (.int 8)) (u5 : nar .char c0 = c0) (u6 : Exa Z h0 a "java/lang/String") (u7 : Fld Z h0 a "java/lang/String" "value" "[B" .null) (u8 : Fld Z h0 a "java/lang/String" "coder" "B" (.int 0)) (u9 : n0 ≤ a) (u10 : Arv Z h0 d kd .char (1 : Int32) [(.int c0)] (.int 0)) (u11 : a ≠ d) :
    own_Met l Z m_6 jdk_42_method_3_code 2 none ws (own_R 5 2 3 74) #[(.ref a), (.ref d)] h0 (Q_scX1 Z a d kd c0 cs h0 n0) := by
  refine own_open (plainFor_of_name pn_0) (fun pr_ en_ st_ me_ below meth_ co_ s₁ Bd hx hby hml hown hZ X0 e0 G gv gf => ?_)
  have N0 := Fr.nil n0
  have K0 := Keep.refl h0 [a]
  refine gv (fun _ kQ => castTop (ef_7 me_ a d) kQ) ?_
  show G (s₁.setTop (mkF me_ 0 #[.val (.ref a), .val (.ref d)] []))
  refine gv (fun _ kQ => XS.aloadN X0.here hx rfl (hb hby d4_0) rfl rfl (XS.aloadN X0.here hx rfl (hb hby d4_1) rfl rfl (XS.iconst X0.here hx rfl (hb hby d4_2) (XS.aloadN X0.here hx rfl (hb hby d4_3) rfl rfl kQ)))) ?_
  show G (s₁.setTop (mkF me_ 4 #[.val (.ref a), .val (.ref d)] [(.ref d), (.int 0), (.ref d), (.ref a)]))
  obtain ⟨cl607, Ar607, -, S607, n607, -, -⟩ := (id u10)
  refine gv (X0.arraylength hx (by rw [e0]; exact Ar607.1) (State.isArrayOf_alike hZ.alike Ar607.2.1) (g := (mkF me_ 4 #[.val (.ref a), .val (.ref d)] [(.ref d), (.int 0), (.ref d), (.ref a)])) rfl rfl (hb hby d4_4)) ?_
  rw [len_of S607 n607]
  refine gv (fun _ kQ => XS.aconstNull X0.here hx rfl (hb hby d4_5) kQ) ?_
  obtain ⟨_, _, ⟨T608, L608, k608, n608⟩, -, X608, ⟨Lc608, hQ608, l608, y608, z608⟩, st608⟩ := X0.specialBack hx (y := m_7) rfl hown (mvT hZ (t_18 hw)) (mvT hZ (t_19 hw)) (mvT hZ (t_21 hw)) (by decide) (backOf (W := 0) (rm_sciX1 l Z a0 hw [] a d kd c0 cs h0 n0 O0 u0 u1 u2 u3 u4 u5 u6 u7 u8 u9 u10 u11) hZ (t_21 hw) (t_13 hw) (by decide) (by decide)) (g := (mkF me_ 6 #[.val (.ref a), .val (.ref d)] [.null, (.int 1), (.int 0), (.ref d), (.ref a)])) rfl (by rw [hml]; rfl) (Steps.refl _) (a := a) (argsL := [(.ref d), (.int 0), (.int 1), .null]) (rest := []) (lenOf pd_7 rfl) rfl (by show 2 * 0 + _ ≤ _; exact Nat.le_of_eq rfl) (hb hby d4_6) (fun _ _ => ⟨rfl, e0, (by decide : 0 + 2 ≤ _), (by decide : 0 + 3 ≤ _)⟩)
  dsimp only [Pt.U, Pt.locs, Pt.cells, Pt.slots] at X608 l608 y608 z608 st608 hQ608
  subst l608 y608 z608
  obtain ⟨rfl, Nq608, Kq608, w608_0, w608_1⟩ := hQ608
  have N609 := Fr.app N0 Nq608
  obtain ⟨h608, e608⟩ : ∃ z, T608.heap = z := ⟨_, rfl⟩
  rw [e608] at Kq608 w608_0 w608_1
  have K613 := K0.trans Kq608 (allS (Or.inl (List.mem_of_getElem? (i := 0) rfl)) all0)
  refine gv (fun _ kQ => st608.trans kQ) ?_
  refine gf _ (own_ret X608 Bd.notSynchronized (v := none) (fun _ => rfl) ?_ (by decide) (by decide) (fun fs hr => X608.returnOut hx Bd.returns (hb hby d4_9) hr))
  show Q_scX1 Z a d kd c0 cs h0 n0 _ T608.heap _
  rw [e608]
  exact ⟨rfl, N609, K613, w608_0, w608_1⟩
def Q_nbl2 (Z : State)  (h0 : Heap) (n0 : Nat) (v : Option Value) (h : Heap) (L : List Loc) : Prop := v = some (.int 4) ∧ Fr n0 L ∧ h = h0
theorem rm_nbl2 (l : Launch) (Z : State) (a0 : Array Value) (hw : own_HW Z a0) (ws : List Jvm.Cond)  (h0 : Heap) (n0 : Nat) (O0 : Old Z n0 h0)  :
    own_Met l Z m_22 jdk_52_method_3_code 1 (some .int) ws (own_R 0 0 0 0) #[(.int 2)] h0 (Q_nbl2 Z  h0 n0) := by
  refine own_open (plainFor_of_name pn_2) (fun pr_ en_ st_ me_ below meth_ co_ s₁ Bd hx hby hml hown hZ X0 e0 G gv gf => ?_)
  have N0 := Fr.nil n0
  refine gv (fun _ kQ => castTop (ef_8 me_ (2 : Int32)) kQ) ?_
  show G (s₁.setTop (mkF me_ 0 #[.val (.int 2)] []))
  refine gv (fun _ kQ => XS.iloadN X0.here hx rfl (hb hby d15_0) rfl (XS.ifYes X0.here hx rfl (pc0 := 1) (pc' := 12) rfl (hb hby d15_1) rfl ((if0 _ _).trans (flt (by decide : ¬ ((2 : Int32) < (0 : Int32)))).2.1) (by decide) (by decide) (XS.iloadN X0.here hx rfl (hb hby d15_12) rfl kQ))) ?_
  show G (s₁.setTop (mkF me_ 13 #[.val (.int 2)] [(.int 2)]))
  refine gv (X0.ldcInt hx hown (mvT hZ (t_67 hw)) (g := (mkF me_ 13 #[.val (.int 2)] [(.int 2)])) rfl (hb hby d15_13)) ?_
  show G (s₁.setTop (mkF me_ 15 #[.val (.int 2)] [(.int 1073741823), (.int 2)]))
  refine gv (fun _ kQ => XS.icmpYes X0.here hx rfl (pc0 := 15) (pc' := 55) rfl (hb hby d15_15) rfl (tlt (by decide : (2 : Int32) < (1073741823 : Int32))).1 (by decide) (by decide) (XS.iloadN X0.here hx rfl (hb hby d15_55) rfl (XS.iconst X0.here hx rfl (hb hby d15_56) (XS.ishl X0.here hx rfl (hb hby d15_57) rfl kQ)))) ?_
  show G (s₁.setTop (mkF me_ 58 #[.val (.int 2)] [(.int ((2 : Int32) <<< ((1 : Int32) &&& 31)))]))
  rw [(by decide : ((2 : Int32) <<< ((1 : Int32) &&& 31)) = (4 : Int32))]
  refine gf _ (own_ret X0 Bd.notSynchronized (v := some (.int 4)) (own_rv Bd.returns) ?_ (by decide) (by decide) (fun fs hr => retOut X0 hx (t := .int) Bd.returns rfl (Or.inl ⟨rfl, Or.inl rfl, _, rfl⟩) (hb hby d15_58) hr))
  show Q_nbl2 Z  h0 n0 _ s₁.heap _
  rw [e0]
  exact ⟨rfl, N0, rfl⟩
def Q_nbf2 (Z : State)  (h0 : Heap) (n0 : Nat) (v : Option Value) (h : Heap) (L : List Loc) : Prop := ∃ (b : Addr), ∃ (k : ClassId), v = some (.ref b) ∧ Fr n0 L ∧ Keep h0 h [] ∧ h0.size ≤ b ∧ (Arv Z h b k .byte (4 : Int32) [(.int 0), (.int 0), (.int 0), (.int 0)] (.int 0))
theorem rm_nbf2 (l : Launch) (Z : State) (a0 : Array Value) (hw : own_HW Z a0) (ws : List Jvm.Cond)  (h0 : Heap) (n0 : Nat) (O0 : Old Z n0 h0)  :
    own_Met l Z m_21 jdk_52_method_2_code 1 (some (.array .byte)) ws (own_R 1 1 4 12) #[(.int 2)] h0 (Q_nbf2 Z  h0 n0) := by
  refine own_open (plainFor_of_name pn_2) (fun pr_ en_ st_ me_ below meth_ co_ s₁ Bd hx hby hml hown hZ X0 e0 G gv gf => ?_)
  have N0 := Fr.nil n0
  have K0 := Keep.refl h0 []
  refine gv (fun _ kQ => castTop (ef_8 me_ (2 : Int32)) kQ) ?_
  show G (s₁.setTop (mkF me_ 0 #[.val (.int 2)] []))
  refine gv (fun _ kQ => XS.iloadN X0.here hx rfl (hb hby d14_0) rfl kQ) ?_
  obtain ⟨_, _, ⟨T614, L614, k614, n614⟩, -, X614, ⟨Lc614, hQ614, l614, y614, z614⟩, st614⟩ := Jvm.LawKit.callS X0 hx (y := m_22) hown (mvT hZ (t_64 hw)) (mvT hZ (t_65 hw)) (mvT hZ (t_50 hw)) (mvT hZ (t_66 hw)) (by decide) (backOf (W := 0) (rm_nbl2 l Z a0 hw []  h0 n0 O0 ) hZ (t_66 hw) (t_50 hw) (by decide) (by decide)) (g := (mkF me_ 1 #[.val (.int 2)] [(.int 2)])) rfl (by rw [hml]; rfl) (argsL := [(.int 2)]) (rest := []) (lenOf pd_8 rfl) rfl (by show 2 * 0 + _ ≤ _; exact Nat.le_of_eq rfl) (hb hby d14_1) (fun _ _ => ⟨rfl, e0, (by decide : 0 + 0 ≤ _), (by decide : 0 + 0 ≤ _)⟩)
  dsimp only [Pt.U, Pt.locs, Pt.cells, Pt.slots] at X614 l614 y614 z614 st614 hQ614
  subst l614 y614 z614
  obtain ⟨rfl, Nq614, eq614⟩ := hQ614
  have N615 := Fr.app N0 Nq614
  refine gv st614 ?_
  obtain ⟨T616, h616, k616, X616, e616, E616, A616, st616⟩ := newP X614 hx hZ (hw _ (List.mem_of_getElem? (i := 26) rfl)) eq614 (g := (mkF me_ 4 #[.val (.int 2)] [(.int 4)])) rfl (hb hby d14_4) rfl (by decide) (cap := 4) (by decide) (by decide) (by decide) (by decide)
  obtain ⟨b616, g616⟩ : ∃ z, z = h0.size := ⟨_, rfl⟩
  rw [← g616] at A616 st616
  refine gv st616 ?_
  have z618 : h0.size ≤ b616 := Nat.le_trans K0.1 (Nat.le_of_eq g616.symm)
  have K620 := K0.ext E616
  have V616 : Arv Z h616 b616 k616 .byte (4 : Int32) [(.int 0), (.int 0), (.int 0), (.int 0)] (.int 0) := (Arv.new A616 (by decide)).pad (pad_rep [] (.int 0) 4)
  refine gf _ (own_ret X616 Bd.notSynchronized (v := some (.ref b616)) (own_rv Bd.returns) ?_ (by decide) (by decide) (fun fs hr => retOut X616 hx (t := (.array .byte)) Bd.returns rfl (Or.inr (Or.inr (Or.inr (Or.inr ⟨rfl, rfl, rfl⟩)))) (hb hby d14_6) hr))
  show Q_nbf2 Z  h0 n0 _ T616.heap _
  rw [e616]
  exact ⟨b616, k616, rfl, N615, K620, z618, V616⟩
def Q_utb2 (Z : State) (d : Addr) (kd : ClassId) (c0 c1 : Int32) (h0 : Heap) (n0 : Nat) (v : Option Value) (h : Heap) (L : List Loc) : Prop := ∃ (b : Addr), ∃ (k : ClassId), v = some (.ref b) ∧ Fr n0 L ∧ Keep h0 h [] ∧ h0.size ≤ b ∧ (Arv Z h b k .byte (4 : Int32) [(.int ((c0 >>> ((0 : Int32) &&& 31)).toInt8.toInt32)), (.int ((c0 >>> ((8 : Int32) &&& 31)).toInt8.toInt32)), (.int ((c1 >>> ((0 : Int32) &&& 31)).toInt8.toInt32)), (.int ((c1 >>> ((8 : Int32) &&& 31)).toInt8.toInt32))] (.int 0))
theorem rm_utb2 (l : Launch) (Z : State) (a0 : Array Value) (hw : own_HW Z a0) (ws : List Jvm.Cond) (d : Addr) (kd : ClassId) (c0 c1 : Int32) (h0 : Heap) (n0 : Nat) (O0 : Old Z n0 h0) (u0 : Sta Z Z.heap "java/lang/StringUTF16" "$assertionsDisabled" "Z" (.int 1)) (u1 : Sta Z Z.heap "java/lang/StringUTF16" "HI_BYTE_SHIFT" "I" (.int 0)) (u2 : Sta Z Z.heap "java/lang/StringUTF16" "LO_BYTE_SHIFT" "I" (.int 8)) (u3 : Arv Z h0 d kd .char (2 : Int32) [(.int c0), (.int c1)] (.int 0)) :
    own_Met l Z m_24 jdk_52_method_14_code 5 (some (.array .byte)) ws (own_R 2 1 4 24) #[(.ref d), (.int 0), (.int 2)] h0 (Q_utb2 Z d kd c0 c1 h0 n0) := by
  refine own_open (plainFor_of_name pn_2) (fun pr_ en_ st_ me_ below meth_ co_ s₁ Bd hx hby hml hown hZ X0 e0 G gv gf => ?_)
  have N0 := Fr.nil n0
  have K0 := Keep.refl h0 []
  refine gv (fun _ kQ => castTop (ef_9 me_ d (0 : Int32) (2 : Int32)) kQ) ?_
  show G (s₁.setTop (mkF me_ 0 #[.val (.ref d), .val (.int 0), .val (.int 2), .unset, .unset] []))
  refine gv (fun _ kQ => XS.iloadN X0.here hx rfl (hb hby d13_0) rfl kQ) ?_
  obtain ⟨_, _, ⟨T621, L621, k621, n621⟩, -, X621, ⟨Lc621, hQ621, l621, y621, z621⟩, st621⟩ := Jvm.LawKit.callS X0 hx (y := m_21) hown (mvT hZ (t_61 hw)) (mvT hZ (t_62 hw)) (mvT hZ (t_50 hw)) (mvT hZ (t_63 hw)) (by decide) (backOf (W := 0) (rm_nbf2 l Z a0 hw []  h0 n0 O0 ) hZ (t_63 hw) (t_50 hw) (by decide) (by decide)) (g := (mkF me_ 1 #[.val (.ref d), .val (.int 0), .val (.int 2), .unset, .unset] [(.int 2)])) rfl (by rw [hml]; rfl) (argsL := [(.int 2)]) (rest := []) (lenOf pd_9 rfl) rfl (by show 2 * 0 + _ ≤ _; exact Nat.le_of_eq rfl) (hb hby d13_1) (fun _ _ => ⟨rfl, e0, (by decide : 0 + 1 ≤ _), (by decide : 0 + 4 ≤ _)⟩)
  dsimp only [Pt.U, Pt.locs, Pt.cells, Pt.slots] at X621 l621 y621 z621 st621 hQ621
  subst l621 y621 z621
  obtain ⟨b_621, k_621, rfl, Nq621, Kq621, w621_0, w621_1⟩ := hQ621
  have N622 := Fr.app N0 Nq621
  obtain ⟨h621, e621⟩ : ∃ z, T621.heap = z := ⟨_, rfl⟩
  rw [e621] at Kq621 w621_1
  have ne623 : d ≠ b_621 := Nat.ne_of_lt (Nat.lt_of_lt_of_le u3.lt w621_0)
  have g624 : n0 ≤ b_621 := Nat.le_trans (own_old O0) w621_0
  have z625 : h0.size ≤ b_621 := Nat.le_trans K0.1 w621_0
  have f626 := u3.keep Kq621 nin0
  have O627 := O0.keep Kq621 all0
  have K628 := K0.trans Kq621 all0
  refine gv st621 ?_
  refine gv (fun _ kQ => XS.astoreN X621.here hx rfl (hb hby d13_4) rfl rfl (l' := #[.val (.ref d), .val (.int 0), .val (.int 2), .val (.ref b_621), .unset]) rfl (XS.iconst X621.here hx rfl (hb hby d13_5) (XS.istore X621.here hx rfl (hb hby d13_6) rfl (l' := #[.val (.ref d), .val (.int 0), .val (.int 2), .val (.ref b_621), .val (.int 0)]) rfl (XS.iload X621.here hx rfl (hb hby d13_8) rfl (XS.iloadN X621.here hx rfl (hb hby d13_10) rfl (XS.icmpNo X621.here hx rfl (hb hby d13_11) rfl (tlt (by decide : (0 : Int32) < (2 : Int32))).2.1 (XS.aloadN X621.here hx rfl (hb hby d13_14) rfl rfl (XS.iload X621.here hx rfl (hb hby d13_15) rfl kQ)))))))) ?_
  show G (T621.setTop (mkF me_ 17 #[.val (.ref d), .val (.int 0), .val (.int 2), .val (.ref b_621), .val (.int 0)] [(.int 0), (.ref b_621)]))
  refine gv (fun _ kQ => XS.aloadN X621.here hx rfl (hb hby d13_17) rfl rfl (XS.iloadN X621.here hx rfl (hb hby d13_18) rfl kQ)) ?_
  obtain ⟨cl629, Ar629, q629, S629, n629, H629, G629⟩ := (id f626)
  have in629 : ¬ ((0 : Int32) < 0 ∨ cl629.slots.size ≤ ((0 : Int32)).toNatClampNeg) := inb_of S629 ⟨by decide, by decide⟩
  refine gv (X621.caload hx (j := (0 : Int32)) (v := (.int c0)) (by rw [e621]; exact Ar629.1) (State.isArrayOf_alike hZ.alike Ar629.2.1) Ar629.2.2 in629 (Has.at H629 in629 rfl) (g := (mkF me_ 19 #[.val (.ref d), .val (.int 0), .val (.int 2), .val (.ref b_621), .val (.int 0)] [(.int 0), (.ref d), (.int 0), (.ref b_621)])) rfl rfl (hb hby d13_19)) ?_
  show G (T621.setTop (mkF me_ 20 #[.val (.ref d), .val (.int 0), .val (.int 2), .val (.ref b_621), .val (.int 0)] [(.int c0), (.int 0), (.ref b_621)]))
  obtain ⟨_, _, ⟨T630, L630, k630, n630⟩, -, X630, ⟨Lc630, hQ630, l630, y630, z630⟩, st630⟩ := Jvm.LawKit.callS X621 hx (y := m_23) hown (mvT hZ (t_68 hw)) (mvT hZ (t_69 hw)) (mvT hZ (t_50 hw)) (mvT hZ (t_70 hw)) (by decide) (backOf (W := 0) (rm_put4_0 l Z a0 hw [] b_621 c0 k_621 (0 : Int32) (0 : Int32) (0 : Int32) (0 : Int32) h621 n0 O627 u0 u1 u2 w621_1 g624) hZ (t_70 hw) (t_50 hw) (by decide) (by decide)) (g := (mkF me_ 20 #[.val (.ref d), .val (.int 0), .val (.int 2), .val (.ref b_621), .val (.int 0)] [(.int c0), (.int 0), (.ref b_621)])) rfl (by rw [hml]; rfl) (argsL := [(.ref b_621), (.int 0), (.int c0)]) (rest := []) (lenOf pd_10 rfl) rfl (by show 2 * 0 + _ ≤ _; exact Nat.le_of_eq rfl) (hb hby d13_20) (fun _ _ => ⟨rfl, e621, (by decide : 1 + 0 ≤ _), (by decide : 4 + 0 ≤ _)⟩)
  dsimp only [Pt.U, Pt.locs, Pt.cells, Pt.slots] at X630 l630 y630 z630 st630 hQ630
  subst l630 y630 z630
  obtain ⟨rfl, Nq630, Kq630, w630_0⟩ := hQ630
  have N631 := Fr.app N622 Nq630
  obtain ⟨h630, e630⟩ : ∃ z, T630.heap = z := ⟨_, rfl⟩
  rw [e630] at Kq630 w630_0
  have f632 := f626.keep Kq630 (ninS ne623 nin0)
  have O633 := O627.keep Kq630 (allS g624 all0)
  have K634 := K628.trans Kq630 (allS (Or.inr z625) all0)
  refine gv st630 ?_
  refine gv (fun _ kQ => XS.iinc X630.here hx rfl (hb hby d13_23) rfl (l' := #[.val (.ref d), .val (.int ((0 : Int32) + (1 : Int32))), .val (.int 2), .val (.ref b_621), .val (.int 0)]) rfl kQ) ?_
  show G (T630.setTop (mkF me_ 26 #[.val (.ref d), .val (.int ((0 : Int32) + (1 : Int32))), .val (.int 2), .val (.ref b_621), .val (.int 0)] []))
  rw [(by decide : ((0 : Int32) + (1 : Int32)) = (1 : Int32))]
  refine gv (fun _ kQ => XS.iinc X630.here hx rfl (hb hby d13_26) rfl (l' := #[.val (.ref d), .val (.int 1), .val (.int 2), .val (.ref b_621), .val (.int ((0 : Int32) + (1 : Int32)))]) rfl kQ) ?_
  show G (T630.setTop (mkF me_ 29 #[.val (.ref d), .val (.int 1), .val (.int 2), .val (.ref b_621), .val (.int ((0 : Int32) + (1 : Int32)))] []))
  rw [(by decide : ((0 : Int32) + (1 : Int32)) = (1 : Int32))]
  refine gv (fun _ kQ => XS.goto X630.here hx rfl (pc0 := 29) (pc' := 8) rfl (hb hby d13_29) (by decide) (by decide) (XS.iload X630.here hx rfl (hb hby d13_8) rfl (XS.iloadN X630.here hx rfl (hb hby d13_10) rfl (XS.icmpNo X630.here hx rfl (hb hby d13_11) rfl (tlt (by decide : (1 : Int32) < (2 : Int32))).2.1 (XS.aloadN X630.here hx rfl (hb hby d13_14) rfl rfl (XS.iload X630.here hx rfl (hb hby d13_15) rfl (XS.aloadN X630.here hx rfl (hb hby d13_17) rfl rfl (XS.iloadN X630.here hx rfl (hb hby d13_18) rfl kQ)))))))) ?_
  show G (T630.setTop (mkF me_ 19 #[.val (.ref d), .val (.int 1), .val (.int 2), .val (.ref b_621), .val (.int 1)] [(.int 1), (.ref d), (.int 1), (.ref b_621)]))
  obtain ⟨cl635, Ar635, q635, S635, n635, H635, G635⟩ := (id f632)
  have in635 : ¬ ((1 : Int32) < 0 ∨ cl635.slots.size ≤ ((1 : Int32)).toNatClampNeg) := inb_of S635 ⟨by decide, by decide⟩
  refine gv (X630.caload hx (j := (1 : Int32)) (v := (.int c1)) (by rw [e630]; exact Ar635.1) (State.isArrayOf_alike hZ.alike Ar635.2.1) Ar635.2.2 in635 (Has.at H635 in635 rfl) (g := (mkF me_ 19 #[.val (.ref d), .val (.int 1), .val (.int 2), .val (.ref b_621), .val (.int 1)] [(.int 1), (.ref d), (.int 1), (.ref b_621)])) rfl rfl (hb hby d13_19)) ?_
  show G (T630.setTop (mkF me_ 20 #[.val (.ref d), .val (.int 1), .val (.int 2), .val (.ref b_621), .val (.int 1)] [(.int c1), (.int 1), (.ref b_621)]))
  obtain ⟨_, _, ⟨T636, L636, k636, n636⟩, -, X636, ⟨Lc636, hQ636, l636, y636, z636⟩, st636⟩ := Jvm.LawKit.callS X630 hx (y := m_23) hown (mvT hZ (t_68 hw)) (mvT hZ (t_69 hw)) (mvT hZ (t_50 hw)) (mvT hZ (t_70 hw)) (by decide) (backOf (W := 0) (rm_put4_1 l Z a0 hw [] b_621 c1 k_621 ((c0 >>> ((0 : Int32) &&& 31)).toInt8.toInt32) ((c0 >>> ((8 : Int32) &&& 31)).toInt8.toInt32) (0 : Int32) (0 : Int32) h630 n0 O633 u0 u1 u2 w630_0 g624) hZ (t_70 hw) (t_50 hw) (by decide) (by decide)) (g := (mkF me_ 20 #[.val (.ref d), .val (.int 1), .val (.int 2), .val (.ref b_621), .val (.int 1)] [(.int c1), (.int 1), (.ref b_621)])) rfl (by rw [hml]; rfl) (argsL := [(.ref b_621), (.int 1), (.int c1)]) (rest := []) (lenOf pd_10 rfl) rfl (by show 2 * 0 + _ ≤ _; exact Nat.le_of_eq rfl) (hb hby d13_20) (fun _ _ => ⟨rfl, e630, (by decide : 1 + 0 ≤ _), (by decide : 4 + 0 ≤ _)⟩)
  dsimp only [Pt.U, Pt.locs, Pt.cells, Pt.slots] at X636 l636 y636 z636 st636 hQ636
  subst l636 y636 z636
  obtain ⟨rfl, Nq636, Kq636, w636_0⟩ := hQ636
  have N637 := Fr.app N631 Nq636
  obtain ⟨h636, e636⟩ : ∃ z, T636.heap = z := ⟨_, rfl⟩
  rw [e636] at Kq636 w636_0
  have K640 := K634.trans Kq636 (allS (Or.inr z625) all0)
  refine gv st636 ?_
  refine gv (fun _ kQ => XS.iinc X636.here hx rfl (hb hby d13_23) rfl (l' := #[.val (.ref d), .val (.int ((1 : Int32) + (1 : Int32))), .val (.int 2), .val (.ref b_621), .val (.int 1)]) rfl kQ) ?_
  show G (T636.setTop (mkF me_ 26 #[.val (.ref d), .val (.int ((1 : Int32) + (1 : Int32))), .val (.int 2), .val (.ref b_621), .val (.int 1)] []))
  rw [(by decide : ((1 : Int32) + (1 : Int32)) = (2 : Int32))]
  refine gv (fun _ kQ => XS.iinc X636.here hx rfl (hb hby d13_26) rfl (l' := #[.val (.ref d), .val (.int 2), .val (.int 2), .val (.ref b_621), .val (.int ((1 : Int32) + (1 : Int32)))]) rfl kQ) ?_
  show G (T636.setTop (mkF me_ 29 #[.val (.ref d), .val (.int 2), .val (.int 2), .val (.ref b_621), .val (.int ((1 : Int32) + (1 : Int32)))] []))
  rw [(by decide : ((1 : Int32) + (1 : Int32)) = (2 : Int32))]
  refine gv (fun _ kQ => XS.goto X636.here hx rfl (pc0 := 29) (pc' := 8) rfl (hb hby d13_29) (by decide) (by decide) (XS.iload X636.here hx rfl (hb hby d13_8) rfl (XS.iloadN X636.here hx rfl (hb hby d13_10) rfl (XS.icmpYes X636.here hx rfl (pc0 := 11) (pc' := 32) rfl (hb hby d13_11) rfl (flt (by decide : ¬ ((2 : Int32) < (2 : Int32)))).2.1 (by decide) (by decide) (XS.aloadN X636.here hx rfl (hb hby d13_32) rfl rfl kQ))))) ?_
  refine gf _ (own_ret X636 Bd.notSynchronized (v := some (.ref b_621)) (own_rv Bd.returns) ?_ (by decide) (by decide) (fun fs hr => retOut X636 hx (t := (.array .byte)) Bd.returns rfl (Or.inr (Or.inr (Or.inr (Or.inr ⟨rfl, rfl, rfl⟩)))) (hb hby d13_33) hr))
  show Q_utb2 Z d kd c0 c1 h0 n0 _ T636.heap _
  rw [e636]
  exact ⟨b_621, k_621, rfl, N637, K640, z625, w636_0⟩
def Q_cmp2 (Z : State) (d : Addr) (kd : ClassId) (b : Addr) (k : ClassId) (c0 c1 : Int32) (h0 : Heap) (n0 : Nat) (v : Option Value) (h : Heap) (L : List Loc) : Prop := ∃ (r : Int32), v = some (.int r) ∧ Fr n0 L ∧ Keep h0 h [b] ∧ (own_B2 Z h b r c0 c1)
theorem rm_cmp2 (l : Launch) (Z : State) (a0 : Array Value) (hw : own_HW Z a0) (ws : List Jvm.Cond) (d : Addr) (kd : ClassId) (b : Addr) (k : ClassId) (c0 c1 : Int32) (h0 : Heap) (n0 : Nat) (O0 : Old Z n0 h0) (u0 : Arv Z h0 d kd .char (2 : Int32) [(.int c0), (.int c1)] (.int 0)) (u1 : Arv Z h0 b k .byte (2 : Int32) [(.int 0), (.int 0)] (.int 0)) (u2 : n0 ≤ b) (u3 : d ≠ b) :
    own_Met l Z m_18 jdk_52_method_21_code 7 (some .int) ws (own_R 0 0 0 0) #[(.ref d), (.int 0), (.ref b), (.int 0), (.int 2)] h0 (Q_cmp2 Z d kd b k c0 c1 h0 n0) := by
  refine own_open (plainFor_of_name pn_2) (fun pr_ en_ st_ me_ below meth_ co_ s₁ Bd hx hby hml hown hZ X0 e0 G gv gf => ?_)
  have N0 := Fr.nil n0
  have K0 := Keep.refl h0 [b]
  refine gv (fun _ kQ => castTop (ef_10 me_ d (0 : Int32) b (0 : Int32) (2 : Int32)) kQ) ?_
  show G (s₁.setTop (mkF me_ 0 #[.val (.ref d), .val (.int 0), .val (.ref b), .val (.int 0), .val (.int 2), .unset, .unset] []))
  refine gv (fun _ kQ => XS.iconst X0.here hx rfl (hb hby d11_0) (XS.istore X0.here hx rfl (hb hby d11_1) rfl (l' := #[.val (.ref d), .val (.int 0), .val (.ref b), .val (.int 0), .val (.int 2), .val (.int 0), .unset]) rfl (XS.iload X0.here hx rfl (hb hby d11_3) rfl (XS.iload X0.here hx rfl (hb hby d11_5) rfl (XS.icmpNo X0.here hx rfl (hb hby d11_7) rfl (tlt (by decide : (0 : Int32) < (2 : Int32))).2.1 (XS.aloadN X0.here hx rfl (hb hby d11_10) rfl rfl (XS.iloadN X0.here hx rfl (hb hby d11_11) rfl kQ))))))) ?_
  show G (s₁.setTop (mkF me_ 12 #[.val (.ref d), .val (.int 0), .val (.ref b), .val (.int 0), .val (.int 2), .val (.int 0), .unset] [(.int 0), (.ref d)]))
  obtain ⟨cl641, Ar641, q641, S641, n641, H641, G641⟩ := (id u0)
  have in641 : ¬ ((0 : Int32) < 0 ∨ cl641.slots.size ≤ ((0 : Int32)).toNatClampNeg) := inb_of S641 ⟨by decide, by decide⟩
  refine gv (X0.caload hx (j := (0 : Int32)) (v := (.int c0)) (by rw [e0]; exact Ar641.1) (State.isArrayOf_alike hZ.alike Ar641.2.1) Ar641.2.2 in641 (Has.at H641 in641 rfl) (g := (mkF me_ 12 #[.val (.ref d), .val (.int 0), .val (.ref b), .val (.int 0), .val (.int 2), .val (.int 0), .unset] [(.int 0), (.ref d)])) rfl rfl (hb hby d11_12)) ?_
  show G (s₁.setTop (mkF me_ 13 #[.val (.ref d), .val (.int 0), .val (.ref b), .val (.int 0), .val (.int 2), .val (.int 0), .unset] [(.int c0)]))
  refine gv (fun _ kQ => XS.istore X0.here hx rfl (hb hby d11_13) rfl (l' := #[.val (.ref d), .val (.int 0), .val (.ref b), .val (.int 0), .val (.int 2), .val (.int 0), .val (.int c0)]) rfl (XS.iload X0.here hx rfl (hb hby d11_15) rfl (XS.sipush X0.here hx rfl (hb hby d11_17) kQ))) ?_
  show G (s₁.setTop (mkF me_ 20 #[.val (.ref d), .val (.int 0), .val (.ref b), .val (.int 0), .val (.int 2), .val (.int 0), .val (.int c0)] [(.int 255), (.int c0)]))
  by_cases hc642 : (255 : Int32) < c0
  · refine gv (fun _ kQ => XS.icmpNo X0.here hx rfl (hb hby d11_20) rfl (tlt hc642).2.2.2 kQ) ?_
    refine gv (fun _ kQ => XS.iload X0.here hx rfl (hb hby d11_23) rfl kQ) ?_
    refine gf _ (own_ret X0 Bd.notSynchronized (v := some (.int 0)) (own_rv Bd.returns) ?_ (by decide) (by decide) (fun fs hr => retOut X0 hx (t := .int) Bd.returns rfl (Or.inl ⟨rfl, Or.inl rfl, _, rfl⟩) (hb hby d11_25) hr))
    show Q_cmp2 Z d kd b k c0 c1 h0 n0 _ s₁.heap _
    rw [e0]
    exact ⟨(0 : Int32), rfl, N0, K0, (Or.inr (Or.inl ⟨rfl, hc642⟩))⟩
  · refine gv (fun _ kQ => XS.icmpYes X0.here hx rfl (pc0 := 20) (pc' := 26) rfl (hb hby d11_20) rfl (flt hc642).2.2.2 (by decide) (by decide) kQ) ?_
    refine gv (fun _ kQ => XS.aloadN X0.here hx rfl (hb hby d11_26) rfl rfl (XS.iloadN X0.here hx rfl (hb hby d11_27) rfl (XS.iload X0.here hx rfl (hb hby d11_28) rfl (XS.i2b X0.here hx rfl (hb hby d11_30) rfl kQ)))) ?_
    show G (s₁.setTop (mkF me_ 31 #[.val (.ref d), .val (.int 0), .val (.ref b), .val (.int 0), .val (.int 2), .val (.int 0), .val (.int c0)] [(.int (c0.toInt8.toInt32)), (.int 0), (.ref b)]))
    obtain ⟨cl643, Ar643, q643, S643, n643, H643, G643⟩ := (id u1)
    have in643 : ¬ ((0 : Int32) < 0 ∨ cl643.slots.size ≤ ((0 : Int32)).toNatClampNeg) := inb_of S643 ⟨by decide, by decide⟩
    obtain ⟨T643, h643, X643, e643, W643, st643⟩ := stB X0 hx hZ e0 Ar643 (j := (0 : Int32)) in643 (g := (mkF me_ 31 #[.val (.ref d), .val (.int 0), .val (.ref b), .val (.int 0), .val (.int 2), .val (.int 0), .val (.int c0)] [(.int (c0.toInt8.toInt32)), (.int 0), (.ref b)])) rfl rfl (hb hby d11_31)
    have W643 : Wr h0 h643 b ((0 : Int32)).toNatClampNeg (.int (c0.toInt8.toInt32)) := by have z := W643; rw [(own_narB _)] at z; exact z
    refine gv st643 ?_
    have f645 := u0.other W643 u3
    have K647 := K0.wr W643 (Or.inl (List.mem_of_getElem? (i := 0) rfl))
    have N648 := Fr.snoc X643 N0 u2
    have f644 : Arv Z h643 b k .byte (2 : Int32) [(.int (c0.toInt8.toInt32)), (.int 0)] (.int 0) := Arv.set Ar643 q643 S643 n643 H643 G643 (fits_nar_byte _) W643 0 rfl (Nat.le_of_ble_eq_true rfl)
    refine gv (fun _ kQ => XS.iinc X643.here hx rfl (hb hby d11_32) rfl (l' := #[.val (.ref d), .val (.int ((0 : Int32) + (1 : Int32))), .val (.ref b), .val (.int 0), .val (.int 2), .val (.int 0), .val (.int c0)]) rfl kQ) ?_
    show G (T643.setTop (mkF me_ 35 #[.val (.ref d), .val (.int ((0 : Int32) + (1 : Int32))), .val (.ref b), .val (.int 0), .val (.int 2), .val (.int 0), .val (.int c0)] []))
    rw [(by decide : ((0 : Int32) + (1 : Int32)) = (1 : Int32))]
    refine gv (fun _ kQ => XS.iinc X643.here hx rfl (hb hby d11_35) rfl (l' := #[.val (.ref d), .val (.int 1), .val (.ref b), .val (.int ((0 : Int32) + (1 : Int32))), .val (.int 2), .val (.int 0), .val (.int c0)]) rfl kQ) ?_
    show G (T643.setTop (mkF me_ 38 #[.val (.ref d), .val (.int 1), .val (.ref b), .val (.int ((0 : Int32) + (1 : Int32))), .val (.int 2), .val (.int 0), .val (.int c0)] []))
    rw [(by decide : ((0 : Int32) + (1 : Int32)) = (1 : Int32))]
    refine gv (fun _ kQ => XS.iinc X643.here hx rfl (hb hby d11_38) rfl (l' := #[.val (.ref d), .val (.int 1), .val (.ref b), .val (.int 1), .val (.int 2), .val (.int ((0 : Int32) + (1 : Int32))), .val (.int c0)]) rfl kQ) ?_
    show G (T643.setTop (mkF me_ 41 #[.val (.ref d), .val (.int 1), .val (.ref b), .val (.int 1), .val (.int 2), .val (.int ((0 : Int32) + (1 : Int32))), .val (.int c0)] []))
    rw [(by decide : ((0 : Int32) + (1 : Int32)) = (1 : Int32))]
    refine gv (fun _ kQ => XS.goto X643.here hx rfl (pc0 := 41) (pc' := 3) rfl (hb hby d11_41) (by decide) (by decide) (XS.iload X643.here hx rfl (hb hby d11_3) rfl (XS.iload X643.here hx rfl (hb hby d11_5) rfl (XS.icmpNo X643.here hx rfl (hb hby d11_7) rfl (tlt (by decide : (1 : Int32) < (2 : Int32))).2.1 (XS.aloadN X643.here hx rfl (hb hby d11_10) rfl rfl (XS.iloadN X643.here hx rfl (hb hby d11_11) rfl kQ)))))) ?_
    show G (T643.setTop (mkF me_ 12 #[.val (.ref d), .val (.int 1), .val (.ref b), .val (.int 1), .val (.int 2), .val (.int 1), .val (.int c0)] [(.int 1), (.ref d)]))
    obtain ⟨cl649, Ar649, q649, S649, n649, H649, G649⟩ := (id f645)
    have in649 : ¬ ((1 : Int32) < 0 ∨ cl649.slots.size ≤ ((1 : Int32)).toNatClampNeg) := inb_of S649 ⟨by decide, by decide⟩
    refine gv (X643.caload hx (j := (1 : Int32)) (v := (.int c1)) (by rw [e643]; exact Ar649.1) (State.isArrayOf_alike hZ.alike Ar649.2.1) Ar649.2.2 in649 (Has.at H649 in649 rfl) (g := (mkF me_ 12 #[.val (.ref d), .val (.int 1), .val (.ref b), .val (.int 1), .val (.int 2), .val (.int 1), .val (.int c0)] [(.int 1), (.ref d)])) rfl rfl (hb hby d11_12)) ?_
    show G (T643.setTop (mkF me_ 13 #[.val (.ref d), .val (.int 1), .val (.ref b), .val (.int 1), .val (.int 2), .val (.int 1), .val (.int c0)] [(.int c1)]))
    refine gv (fun _ kQ => XS.istore X643.here hx rfl (hb hby d11_13) rfl (l' := #[.val (.ref d), .val (.int 1), .val (.ref b), .val (.int 1), .val (.int 2), .val (.int 1), .val (.int c1)]) rfl (XS.iload X643.here hx rfl (hb hby d11_15) rfl (XS.sipush X643.here hx rfl (hb hby d11_17) kQ))) ?_
    show G (T643.setTop (mkF me_ 20 #[.val (.ref d), .val (.int 1), .val (.ref b), .val (.int 1), .val (.int 2), .val (.int 1), .val (.int c1)] [(.int 255), (.int c1)]))
    by_cases hc650 : (255 : Int32) < c1
    · refine gv (fun _ kQ => XS.icmpNo X643.here hx rfl (hb hby d11_20) rfl (tlt hc650).2.2.2 kQ) ?_
      refine gv (fun _ kQ => XS.iload X643.here hx rfl (hb hby d11_23) rfl kQ) ?_
      refine gf _ (own_ret X643 Bd.notSynchronized (v := some (.int 1)) (own_rv Bd.returns) ?_ (by decide) (by decide) (fun fs hr => retOut X643 hx (t := .int) Bd.returns rfl (Or.inl ⟨rfl, Or.inl rfl, _, rfl⟩) (hb hby d11_25) hr))
      show Q_cmp2 Z d kd b k c0 c1 h0 n0 _ T643.heap _
      rw [e643]
      exact ⟨(1 : Int32), rfl, N648, K647, (Or.inr (Or.inr (⟨rfl, hc650⟩)))⟩
    · refine gv (fun _ kQ => XS.icmpYes X643.here hx rfl (pc0 := 20) (pc' := 26) rfl (hb hby d11_20) rfl (flt hc650).2.2.2 (by decide) (by decide) kQ) ?_
      refine gv (fun _ kQ => XS.aloadN X643.here hx rfl (hb hby d11_26) rfl rfl (XS.iloadN X643.here hx rfl (hb hby d11_27) rfl (XS.iload X643.here hx rfl (hb hby d11_28) rfl (XS.i2b X643.here hx rfl (hb hby d11_30) rfl kQ)))) ?_
      show G (T643.setTop (mkF me_ 31 #[.val (.ref d), .val (.int 1), .val (.ref b), .val (.int 1), .val (.int 2), .val (.int 1), .val (.int c1)] [(.int (c1.toInt8.toInt32)), (.int 1), (.ref b)]))
      obtain ⟨cl651, Ar651, q651, S651, n651, H651, G651⟩ := (id f644)
      have in651 : ¬ ((1 : Int32) < 0 ∨ cl651.slots.size ≤ ((1 : Int32)).toNatClampNeg) := inb_of S651 ⟨by decide, by decide⟩
      obtain ⟨T651, h651, X651, e651, W651, st651⟩ := stB X643 hx hZ e643 Ar651 (j := (1 : Int32)) in651 (g := (mkF me_ 31 #[.val (.ref d), .val (.int 1), .val (.ref b), .val (.int 1), .val (.int 2), .val (.int 1), .val (.int c1)] [(.int (c1.toInt8.toInt32)), (.int 1), (.ref b)])) rfl rfl (hb hby d11_31)
      have W651 : Wr h643 h651 b ((1 : Int32)).toNatClampNeg (.int (c1.toInt8.toInt32)) := by have z := W651; rw [(own_narB _)] at z; exact z
      refine gv st651 ?_
      have K655 := K647.wr W651 (Or.inl (List.mem_of_getElem? (i := 0) rfl))
      have N656 := Fr.snoc X651 N648 u2
      have f652 : Arv Z h651 b k .byte (2 : Int32) [(.int (c0.toInt8.toInt32)), (.int (c1.toInt8.toInt32))] (.int 0) := Arv.set Ar651 q651 S651 n651 H651 G651 (fits_nar_byte _) W651 1 rfl (Nat.le_of_ble_eq_true rfl)
      refine gv (fun _ kQ => XS.iinc X651.here hx rfl (hb hby d11_32) rfl (l' := #[.val (.ref d), .val (.int ((1 : Int32) + (1 : Int32))), .val (.ref b), .val (.int 1), .val (.int 2), .val (.int 1), .val (.int c1)]) rfl kQ) ?_
      show G (T651.setTop (mkF me_ 35 #[.val (.ref d), .val (.int ((1 : Int32) + (1 : Int32))), .val (.ref b), .val (.int 1), .val (.int 2), .val (.int 1), .val (.int c1)] []))
      rw [(by decide : ((1 : Int32) + (1 : Int32)) = (2 : Int32))]
      refine gv (fun _ kQ => XS.iinc X651.here hx rfl (hb hby d11_35) rfl (l' := #[.val (.ref d), .val (.int 2), .val (.ref b), .val (.int ((1 : Int32) + (1 : Int32))), .val (.int 2), .val (.int 1), .val (.int c1)]) rfl kQ) ?_
      show G (T651.setTop (mkF me_ 38 #[.val (.ref d), .val (.int 2), .val (.ref b), .val (.int ((1 : Int32) + (1 : Int32))), .val (.int 2), .val (.int 1), .val (.int c1)] []))
      rw [(by decide : ((1 : Int32) + (1 : Int32)) = (2 : Int32))]
      refine gv (fun _ kQ => XS.iinc X651.here hx rfl (hb hby d11_38) rfl (l' := #[.val (.ref d), .val (.int 2), .val (.ref b), .val (.int 2), .val (.int 2), .val (.int ((1 : Int32) + (1 : Int32))), .val (.int c1)]) rfl kQ) ?_
      show G (T651.setTop (mkF me_ 41 #[.val (.ref d), .val (.int 2), .val (.ref b), .val (.int 2), .val (.int 2), .val (.int ((1 : Int32) + (1 : Int32))), .val (.int c1)] []))
      rw [(by decide : ((1 : Int32) + (1 : Int32)) = (2 : Int32))]
      refine gv (fun _ kQ => XS.goto X651.here hx rfl (pc0 := 41) (pc' := 3) rfl (hb hby d11_41) (by decide) (by decide) (XS.iload X651.here hx rfl (hb hby d11_3) rfl (XS.iload X651.here hx rfl (hb hby d11_5) rfl (XS.icmpYes X651.here hx rfl (pc0 := 7) (pc' := 44) rfl (hb hby d11_7) rfl (flt (by decide : ¬ ((2 : Int32) < (2 : Int32)))).2.1 (by decide) (by decide) (XS.iload X651.here hx rfl (hb hby d11_44) rfl kQ))))) ?_
      refine gf _ (own_ret X651 Bd.notSynchronized (v := some (.int 2)) (own_rv Bd.returns) ?_ (by decide) (by decide) (fun fs hr => retOut X651 hx (t := .int) Bd.returns rfl (Or.inl ⟨rfl, Or.inl rfl, _, rfl⟩) (hb hby d11_46) hr))
      show Q_cmp2 Z d kd b k c0 c1 h0 n0 _ T651.heap _
      rw [e651]
      exact ⟨(2 : Int32), rfl, N656, K655, (Or.inl ⟨rfl, k, f652, hc642, hc650⟩)⟩
def Q_cmpr2 (Z : State) (d : Addr) (kd : ClassId) (c0 c1 : Int32) (h0 : Heap) (n0 : Nat) (v : Option Value) (h : Heap) (L : List Loc) : Prop := ∃ (b : Addr), v = some (.ref b) ∧ Fr n0 L ∧ Keep h0 h [] ∧ h0.size ≤ b ∧ (own_C2 Z h b c0 c1)
theorem rm_cmpr2 (l : Launch) (Z : State) (a0 : Array Value) (hw : own_HW Z a0) (ws : List Jvm.Cond) (d : Addr) (kd : ClassId) (c0 c1 : Int32) (h0 : Heap) (n0 : Nat) (O0 : Old Z n0 h0) (u0 : nar .char c0 = c0) (u1 : nar .char c1 = c1) (u2 : Sta Z Z.heap "java/lang/StringUTF16" "$assertionsDisabled" "Z" (.int 1)) (u3 : Sta Z Z.heap "java/lang/StringUTF16" "HI_BYTE_SHIFT" "I" (.int 0)) (u4 : Sta Z Z.heap "java/lang/StringUTF16" "LO_BYTE_SHIFT" "I" (.int 8)) (u5 : Arv Z h0 d kd .char (2 : Int32) [(.int c0), (.int c1)] (.int 0)) :
    own_Met l Z m_17 jdk_52_method_16_code 6 (some (.array .byte)) ws (own_R 3 2 6 40) #[(.ref d), (.int 0), (.int 2)] h0 (Q_cmpr2 Z d kd c0 c1 h0 n0) := by
  refine own_open (plainFor_of_name pn_2) (fun pr_ en_ st_ me_ below meth_ co_ s₁ Bd hx hby hml hown hZ X0 e0 G gv gf => ?_)
  have N0 := Fr.nil n0
  have K0 := Keep.refl h0 []
  refine gv (fun _ kQ => castTop (ef_11 me_ d (0 : Int32) (2 : Int32)) kQ) ?_
  show G (s₁.setTop (mkF me_ 0 #[.val (.ref d), .val (.int 0), .val (.int 2), .unset, .unset, .unset] []))
  refine gv (fun _ kQ => XS.iloadN X0.here hx rfl (hb hby d10_0) rfl kQ) ?_
  obtain ⟨T657, h657, k657, X657, e657, E657, A657, st657⟩ := newP X0 hx hZ (hw _ (List.mem_of_getElem? (i := 26) rfl)) e0 (g := (mkF me_ 1 #[.val (.ref d), .val (.int 0), .val (.int 2), .unset, .unset, .unset] [(.int 2)])) rfl (hb hby d10_1) rfl (by decide) (cap := 2) (by decide) (by decide) (by decide) (by decide)
  obtain ⟨b657, g657⟩ : ∃ z, z = h0.size := ⟨_, rfl⟩
  rw [← g657] at A657 st657
  refine gv st657 ?_
  have ne658 : d ≠ b657 := Nat.ne_of_lt (Nat.lt_of_lt_of_le u5.lt (Nat.le_of_eq g657.symm))
  have g659 : n0 ≤ b657 := Nat.le_trans (own_old O0) (Nat.le_of_eq g657.symm)
  have z660 : h0.size ≤ b657 := Nat.le_trans K0.1 (Nat.le_of_eq g657.symm)
  have f661 := u5.ext E657
  have O662 := O0.ext E657
  have K663 := K0.ext E657
  have V657 : Arv Z h657 b657 k657 .byte (2 : Int32) [(.int 0), (.int 0)] (.int 0) := (Arv.new A657 (by decide)).pad (pad_rep [] (.int 0) 2)
  refine gv (fun _ kQ => XS.astoreN X657.here hx rfl (hb hby d10_3) rfl rfl (l' := #[.val (.ref d), .val (.int 0), .val (.int 2), .val (.ref b657), .unset, .unset]) rfl (XS.aloadN X657.here hx rfl (hb hby d10_4) rfl rfl (XS.iloadN X657.here hx rfl (hb hby d10_5) rfl (XS.aloadN X657.here hx rfl (hb hby d10_6) rfl rfl (XS.iconst X657.here hx rfl (hb hby d10_7) (XS.iloadN X657.here hx rfl (hb hby d10_8) rfl kQ)))))) ?_
  show G (T657.setTop (mkF me_ 9 #[.val (.ref d), .val (.int 0), .val (.int 2), .val (.ref b657), .unset, .unset] [(.int 2), (.int 0), (.ref b657), (.int 0), (.ref d)]))
  obtain ⟨_, _, ⟨T664, L664, k664, n664⟩, -, X664, ⟨Lc664, hQ664, l664, y664, z664⟩, st664⟩ := Jvm.LawKit.callS X657 hx (y := m_18) hown (mvT hZ (t_52 hw)) (mvT hZ (t_53 hw)) (mvT hZ (t_50 hw)) (mvT hZ (t_54 hw)) (by decide) (backOf (W := 0) (rm_cmp2 l Z a0 hw [] d kd b657 k657 c0 c1 h657 n0 O662 f661 V657 g659 ne658) hZ (t_54 hw) (t_50 hw) (by decide) (by decide)) (g := (mkF me_ 9 #[.val (.ref d), .val (.int 0), .val (.int 2), .val (.ref b657), .unset, .unset] [(.int 2), (.int 0), (.ref b657), (.int 0), (.ref d)])) rfl (by rw [hml]; rfl) (argsL := [(.ref d), (.int 0), (.ref b657), (.int 0), (.int 2)]) (rest := []) (lenOf pd_11 rfl) rfl (by show 2 * 0 + _ ≤ _; exact Nat.le_of_eq rfl) (hb hby d10_9) (fun _ _ => ⟨rfl, e657, (by decide : 1 + 0 ≤ _), (by decide : 2 + 0 ≤ _)⟩)
  dsimp only [Pt.U, Pt.locs, Pt.cells, Pt.slots] at X664 l664 y664 z664 st664 hQ664
  subst l664 y664 z664
  obtain ⟨r_664, rfl, Nq664, Kq664, w664_0⟩ := hQ664
  have N665 := Fr.app N0 Nq664
  obtain ⟨h664, e664⟩ : ∃ z, T664.heap = z := ⟨_, rfl⟩
  rw [e664] at Kq664 w664_0
  have f666 := f661.keep Kq664 (ninS ne658 nin0)
  have O667 := O662.keep Kq664 (allS g659 all0)
  have K668 := K663.trans Kq664 (allS (Or.inr z660) all0)
  refine gv st664 ?_
  rcases w664_0 with ⟨q669, k669, A669, l669_0, l669_1⟩ | ⟨q669, l669⟩ | ⟨q669, l669⟩
  · rw [q669]
    refine gv (fun _ kQ => XS.istore X664.here hx rfl (hb hby d10_12) rfl (l' := #[.val (.ref d), .val (.int 0), .val (.int 2), .val (.ref b657), .val (.int 2), .unset]) rfl (XS.iload X664.here hx rfl (hb hby d10_14) rfl (XS.iloadN X664.here hx rfl (hb hby d10_16) rfl (XS.icmpYes X664.here hx rfl (pc0 := 17) (pc' := 57) rfl (hb hby d10_17) rfl (teq (by decide : (2 : Int32) = (2 : Int32))).1 (by decide) (by decide) (XS.aloadN X664.here hx rfl (hb hby d10_57) rfl rfl kQ))))) ?_
    refine gf _ (own_ret X664 Bd.notSynchronized (v := some (.ref b657)) (own_rv Bd.returns) ?_ (by decide) (by decide) (fun fs hr => retOut X664 hx (t := (.array .byte)) Bd.returns rfl (Or.inr (Or.inr (Or.inr (Or.inr ⟨rfl, rfl, rfl⟩)))) (hb hby d10_58) hr))
    show Q_cmpr2 Z d kd c0 c1 h0 n0 _ T664.heap _
    rw [e664]
    exact ⟨b657, rfl, N665, K668, z660, (Or.inl ⟨k669, A669, l669_0, l669_1⟩)⟩
  · rw [q669]
    show G (T664.setTop (mkF me_ 12 #[.val (.ref d), .val (.int 0), .val (.int 2), .val (.ref b657), .unset, .unset] [(.int 0)]))
    refine gv (fun _ kQ => XS.istore X664.here hx rfl (hb hby d10_12) rfl (l' := #[.val (.ref d), .val (.int 0), .val (.int 2), .val (.ref b657), .val (.int 0), .unset]) rfl (XS.iload X664.here hx rfl (hb hby d10_14) rfl (XS.iloadN X664.here hx rfl (hb hby d10_16) rfl (XS.icmpNo X664.here hx rfl (hb hby d10_17) rfl (feq (by decide : ¬ ((0 : Int32) = (2 : Int32)))).1 (XS.aloadN X664.here hx rfl (hb hby d10_20) rfl rfl (XS.iloadN X664.here hx rfl (hb hby d10_21) rfl (XS.iloadN X664.here hx rfl (hb hby d10_22) rfl kQ))))))) ?_
    show G (T664.setTop (mkF me_ 23 #[.val (.ref d), .val (.int 0), .val (.int 2), .val (.ref b657), .val (.int 0), .unset] [(.int 2), (.int 0), (.ref d)]))
    obtain ⟨_, _, ⟨T670, L670, k670, n670⟩, -, X670, ⟨Lc670, hQ670, l670, y670, z670⟩, st670⟩ := Jvm.LawKit.callS X664 hx (y := m_24) hown (mvT hZ (t_58 hw)) (mvT hZ (t_59 hw)) (mvT hZ (t_50 hw)) (mvT hZ (t_60 hw)) (by decide) (backOf (W := 0) (rm_utb2 l Z a0 hw [] d kd c0 c1 h664 n0 O667 u2 u3 u4 f666) hZ (t_60 hw) (t_50 hw) (by decide) (by decide)) (g := (mkF me_ 23 #[.val (.ref d), .val (.int 0), .val (.int 2), .val (.ref b657), .val (.int 0), .unset] [(.int 2), (.int 0), (.ref d)])) rfl (by rw [hml]; rfl) (argsL := [(.ref d), (.int 0), (.int 2)]) (rest := []) (lenOf pd_12 rfl) rfl (by show 2 * 0 + _ ≤ _; exact Nat.le_of_eq rfl) (hb hby d10_23) (fun _ _ => ⟨rfl, e664, (by decide : 1 + 1 ≤ _), (by decide : 2 + 4 ≤ _)⟩)
    dsimp only [Pt.U, Pt.locs, Pt.cells, Pt.slots] at X670 l670 y670 z670 st670 hQ670
    subst l670 y670 z670
    obtain ⟨b_670, k_670, rfl, Nq670, Kq670, w670_0, w670_1⟩ := hQ670
    have N671 := Fr.app N665 Nq670
    obtain ⟨h670, e670⟩ : ∃ z, T670.heap = z := ⟨_, rfl⟩
    rw [e670] at Kq670 w670_1
    have z674 : h0.size ≤ b_670 := Nat.le_trans K668.1 w670_0
    have O676 := O667.keep Kq670 all0
    have K677 := K668.trans Kq670 all0
    refine gv st670 ?_
    refine gv (fun _ kQ => XS.astore X670.here hx rfl (hb hby d10_26) rfl rfl (l' := #[.val (.ref d), .val (.int 0), .val (.int 2), .val (.ref b657), .val (.int 0), .val (.ref b_670)]) rfl (XS.aload X670.here hx rfl (hb hby d10_28) rfl rfl (XS.iload X670.here hx rfl (hb hby d10_30) rfl kQ))) ?_
    show G (T670.setTop (mkF me_ 32 #[.val (.ref d), .val (.int 0), .val (.int 2), .val (.ref b657), .val (.int 0), .val (.ref b_670)] [(.int 0), (.ref b_670)]))
    obtain ⟨_, _, ⟨T678, L678, k678, n678⟩, -, X678, ⟨Lc678, hQ678, l678, y678, z678⟩, st678⟩ := Jvm.LawKit.callS X670 hx (y := m_19) hown (mvT hZ (t_74 hw)) (mvT hZ (t_75 hw)) (mvT hZ (t_50 hw)) (mvT hZ (t_76 hw)) (by decide) (backOf (W := 0) (rm_getc2_0 l Z a0 hw [] b_670 k_670 ((c0 >>> ((0 : Int32) &&& 31)).toInt8.toInt32) ((c0 >>> ((8 : Int32) &&& 31)).toInt8.toInt32) ((c1 >>> ((0 : Int32) &&& 31)).toInt8.toInt32) ((c1 >>> ((8 : Int32) &&& 31)).toInt8.toInt32) h670 n0 O676 u2 u3 u4 w670_1) hZ (t_76 hw) (t_50 hw) (by decide) (by decide)) (g := (mkF me_ 32 #[.val (.ref d), .val (.int 0), .val (.int 2), .val (.ref b657), .val (.int 0), .val (.ref b_670)] [(.int 0), (.ref b_670)])) rfl (by rw [hml]; rfl) (argsL := [(.ref b_670), (.int 0)]) (rest := []) (lenOf pd_4 rfl) rfl (by show 2 * 0 + _ ≤ _; exact Nat.le_of_eq rfl) (hb hby d10_32) (fun _ _ => ⟨rfl, e670, (by decide : 2 + 0 ≤ _), (by decide : 6 + 0 ≤ _)⟩)
    dsimp only [Pt.U, Pt.locs, Pt.cells, Pt.slots] at X678 l678 y678 z678 st678 hQ678
    subst l678 y678 z678
    obtain ⟨rfl, Nq678, eq678⟩ := hQ678
    have N679 := Fr.app N671 Nq678
    refine gv st678 ?_
    refine gv (fun _ kQ => XS.sipush X678.here hx rfl (hb hby d10_35) (XS.icmpYes X678.here hx rfl (pc0 := 38) (pc' := 54) rfl (hb hby d10_38) rfl (tlt (own_gcgt u0 l669)).2.2.1 (by decide) (by decide) (XS.aload X678.here hx rfl (hb hby d10_54) rfl rfl kQ))) ?_
    refine gf _ (own_ret X678 Bd.notSynchronized (v := some (.ref b_670)) (own_rv Bd.returns) ?_ (by decide) (by decide) (fun fs hr => retOut X678 hx (t := (.array .byte)) Bd.returns rfl (Or.inr (Or.inr (Or.inr (Or.inr ⟨rfl, rfl, rfl⟩)))) (hb hby d10_56) hr))
    show Q_cmpr2 Z d kd c0 c1 h0 n0 _ T678.heap _
    rw [eq678]
    exact ⟨b_670, rfl, N679, K677, z674, (Or.inr ⟨k_670, w670_1⟩)⟩
  · rw [q669]
    show G (T664.setTop (mkF me_ 12 #[.val (.ref d), .val (.int 0), .val (.int 2), .val (.ref b657), .unset, .unset] [(.int 1)]))
    refine gv (fun _ kQ => XS.istore X664.here hx rfl (hb hby d10_12) rfl (l' := #[.val (.ref d), .val (.int 0), .val (.int 2), .val (.ref b657), .val (.int 1), .unset]) rfl (XS.iload X664.here hx rfl (hb hby d10_14) rfl (XS.iloadN X664.here hx rfl (hb hby d10_16) rfl (XS.icmpNo X664.here hx rfl (hb hby d10_17) rfl (feq (by decide : ¬ ((1 : Int32) = (2 : Int32)))).1 (XS.aloadN X664.here hx rfl (hb hby d10_20) rfl rfl (XS.iloadN X664.here hx rfl (hb hby d10_21) rfl (XS.iloadN X664.here hx rfl (hb hby d10_22) rfl kQ))))))) ?_
    show G (T664.setTop (mkF me_ 23 #[.val (.ref d), .val (.int 0), .val (.int 2), .val (.ref b657), .val (.int 1), .unset] [(.int 2), (.int 0), (.ref d)]))
    obtain ⟨_, _, ⟨T680, L680, k680, n680⟩, -, X680, ⟨Lc680, hQ680, l680, y680, z680⟩, st680⟩ := Jvm.LawKit.callS X664 hx (y := m_24) hown (mvT hZ (t_58 hw)) (mvT hZ (t_59 hw)) (mvT hZ (t_50 hw)) (mvT hZ (t_60 hw)) (by decide) (backOf (W := 0) (rm_utb2 l Z a0 hw [] d kd c0 c1 h664 n0 O667 u2 u3 u4 f666) hZ (t_60 hw) (t_50 hw) (by decide) (by decide)) (g := (mkF me_ 23 #[.val (.ref d), .val (.int 0), .val (.int 2), .val (.ref b657), .val (.int 1), .unset] [(.int 2), (.int 0), (.ref d)])) rfl (by rw [hml]; rfl) (argsL := [(.ref d), (.int 0), (.int 2)]) (rest := []) (lenOf pd_12 rfl) rfl (by show 2 * 0 + _ ≤ _; exact Nat.le_of_eq rfl) (hb hby d10_23) (fun _ _ => ⟨rfl, e664, (by decide : 1 + 1 ≤ _), (by decide : 2 + 4 ≤ _)⟩)
    dsimp only [Pt.U, Pt.locs, Pt.cells, Pt.slots] at X680 l680 y680 z680 st680 hQ680
    subst l680 y680 z680
    obtain ⟨b_680, k_680, rfl, Nq680, Kq680, w680_0, w680_1⟩ := hQ680
    have N681 := Fr.app N665 Nq680
    obtain ⟨h680, e680⟩ : ∃ z, T680.heap = z := ⟨_, rfl⟩
    rw [e680] at Kq680 w680_1
    have z684 : h0.size ≤ b_680 := Nat.le_trans K668.1 w680_0
    have O686 := O667.keep Kq680 all0
    have K687 := K668.trans Kq680 all0
    refine gv st680 ?_
    refine gv (fun _ kQ => XS.astore X680.here hx rfl (hb hby d10_26) rfl rfl (l' := #[.val (.ref d), .val (.int 0), .val (.int 2), .val (.ref b657), .val (.int 1), .val (.ref b_680)]) rfl (XS.aload X680.here hx rfl (hb hby d10_28) rfl rfl (XS.iload X680.here hx rfl (hb hby d10_30) rfl kQ))) ?_
    show G (T680.setTop (mkF me_ 32 #[.val (.ref d), .val (.int 0), .val (.int 2), .val (.ref b657), .val (.int 1), .val (.ref b_680)] [(.int 1), (.ref b_680)]))
    obtain ⟨_, _, ⟨T688, L688, k688, n688⟩, -, X688, ⟨Lc688, hQ688, l688, y688, z688⟩, st688⟩ := Jvm.LawKit.callS X680 hx (y := m_19) hown (mvT hZ (t_74 hw)) (mvT hZ (t_75 hw)) (mvT hZ (t_50 hw)) (mvT hZ (t_76 hw)) (by decide) (backOf (W := 0) (rm_getc2_1 l Z a0 hw [] b_680 k_680 ((c0 >>> ((0 : Int32) &&& 31)).toInt8.toInt32) ((c0 >>> ((8 : Int32) &&& 31)).toInt8.toInt32) ((c1 >>> ((0 : Int32) &&& 31)).toInt8.toInt32) ((c1 >>> ((8 : Int32) &&& 31)).toInt8.toInt32) h680 n0 O686 u2 u3 u4 w680_1) hZ (t_76 hw) (t_50 hw) (by decide) (by decide)) (g := (mkF me_ 32 #[.val (.ref d), .val (.int 0), .val (.int 2), .val (.ref b657), .val (.int 1), .val (.ref b_680)] [(.int 1), (.ref b_680)])) rfl (by rw [hml]; rfl) (argsL := [(.ref b_680), (.int 1)]) (rest := []) (lenOf pd_4 rfl) rfl (by show 2 * 0 + _ ≤ _; exact Nat.le_of_eq rfl) (hb hby d10_32) (fun _ _ => ⟨rfl, e680, (by decide : 2 + 0 ≤ _), (by decide : 6 + 0 ≤ _)⟩)
    dsimp only [Pt.U, Pt.locs, Pt.cells, Pt.slots] at X688 l688 y688 z688 st688 hQ688
    subst l688 y688 z688
    obtain ⟨rfl, Nq688, eq688⟩ := hQ688
    have N689 := Fr.app N681 Nq688
    refine gv st688 ?_
    refine gv (fun _ kQ => XS.sipush X688.here hx rfl (hb hby d10_35) (XS.icmpYes X688.here hx rfl (pc0 := 38) (pc' := 54) rfl (hb hby d10_38) rfl (tlt (own_gcgt u1 l669)).2.2.1 (by decide) (by decide) (XS.aload X688.here hx rfl (hb hby d10_54) rfl rfl kQ))) ?_
    refine gf _ (own_ret X688 Bd.notSynchronized (v := some (.ref b_680)) (own_rv Bd.returns) ?_ (by decide) (by decide) (fun fs hr => retOut X688 hx (t := (.array .byte)) Bd.returns rfl (Or.inr (Or.inr (Or.inr (Or.inr ⟨rfl, rfl, rfl⟩)))) (hb hby d10_56) hr))
    show Q_cmpr2 Z d kd c0 c1 h0 n0 _ T688.heap _
    rw [eq688]
    exact ⟨b_680, rfl, N689, K687, z684, (Or.inr ⟨k_680, w680_1⟩)⟩
def Q_cfal2_2 (Z : State) (b : Addr) (k : ClassId) (x0 x1 : Int32) (h0 : Heap) (n0 : Nat) (v : Option Value) (h : Heap) (L : List Loc) : Prop := v = some (.int 0) ∧ Fr n0 L ∧ h = h0
theorem rm_cfal2_2 (l : Launch) (Z : State) (a0 : Array Value) (hw : own_HW Z a0) (ws : List Jvm.Cond) (b : Addr) (k : ClassId) (x0 x1 : Int32) (h0 : Heap) (n0 : Nat) (O0 : Old Z n0 h0) (u0 : Arv Z h0 b k .byte (2 : Int32) [(.int x0), (.int x1)] (.int 0)) :
    own_Met l Z m_16 jdk_52_method_15_code 2 (some .byte) ws (own_R 0 0 0 0) #[(.ref b), (.int 2)] h0 (Q_cfal2_2 Z b k x0 x1 h0 n0) := by
  refine own_open (plainFor_of_name pn_2) (fun pr_ en_ st_ me_ below meth_ co_ s₁ Bd hx hby hml hown hZ X0 e0 G gv gf => ?_)
  have N0 := Fr.nil n0
  refine gv (fun _ kQ => castTop (ef_4 me_ b (2 : Int32)) kQ) ?_
  show G (s₁.setTop (mkF me_ 0 #[.val (.ref b), .val (.int 2)] []))
  refine gv (fun _ kQ => XS.iloadN X0.here hx rfl (hb hby d12_0) rfl (XS.aloadN X0.here hx rfl (hb hby d12_1) rfl rfl kQ)) ?_
  obtain ⟨cl690, Ar690, -, S690, n690, -, -⟩ := (id u0)
  refine gv (X0.arraylength hx (by rw [e0]; exact Ar690.1) (State.isArrayOf_alike hZ.alike Ar690.2.1) (g := (mkF me_ 2 #[.val (.ref b), .val (.int 2)] [(.ref b), (.int 2)])) rfl rfl (hb hby d12_2)) ?_
  rw [len_of S690 n690]
  refine gv (fun _ kQ => XS.isub X0.here hx rfl (hb hby d12_3) rfl kQ) ?_
  show G (s₁.setTop (mkF me_ 4 #[.val (.ref b), .val (.int 2)] [(.int ((2 : Int32) - (2 : Int32)))]))
  rw [(by decide : ((2 : Int32) - (2 : Int32)) = (0 : Int32))]
  refine gv (fun _ kQ => XS.bipush X0.here hx rfl (hb hby d12_4) (XS.iushr X0.here hx rfl (hb hby d12_6) rfl kQ)) ?_
  show G (s₁.setTop (mkF me_ 7 #[.val (.ref b), .val (.int 2)] [(.int (((0 : Int32).toUInt32 >>> ((31 : Int32) &&& 31).toUInt32).toInt32))]))
  rw [(by decide : (((0 : Int32).toUInt32 >>> ((31 : Int32) &&& 31).toUInt32).toInt32) = (0 : Int32))]
  refine gv (fun _ kQ => XS.i2b X0.here hx rfl (hb hby d12_7) rfl kQ) ?_
  show G (s₁.setTop (mkF me_ 8 #[.val (.ref b), .val (.int 2)] [(.int ((0 : Int32).toInt8.toInt32))]))
  rw [(by decide : ((0 : Int32).toInt8.toInt32) = (0 : Int32))]
  refine gf _ (own_ret X0 Bd.notSynchronized (v := some (.int 0)) (own_rv Bd.returns) ?_ (by decide) (by decide) (fun fs hr => retN X0 hx (t := .byte) Bd.returns (by simp) (hb hby d12_8) hr))
  show Q_cfal2_2 Z b k x0 x1 h0 n0 _ s₁.heap _
  rw [e0]
  exact ⟨rfl, N0, rfl⟩
def Q_cfal2_4 (Z : State) (b : Addr) (k : ClassId) (x0 x1 : Int32) (x2 x3 : Int32) (h0 : Heap) (n0 : Nat) (v : Option Value) (h : Heap) (L : List Loc) : Prop := v = some (.int 1) ∧ Fr n0 L ∧ h = h0
theorem rm_cfal2_4 (l : Launch) (Z : State) (a0 : Array Value) (hw : own_HW Z a0) (ws : List Jvm.Cond) (b : Addr) (k : ClassId) (x0 x1 : Int32) (x2 x3 : Int32) (h0 : Heap) (n0 : Nat) (O0 : Old Z n0 h0) (u0 : Arv Z h0 b k .byte (4 : Int32) [(.int x0), (.int x1), (.int x2), (.int x3)] (.int 0)) :
    own_Met l Z m_16 jdk_52_method_15_code 2 (some .byte) ws (own_R 0 0 0 0) #[(.ref b), (.int 2)] h0 (Q_cfal2_4 Z b k x0 x1 x2 x3 h0 n0) := by
  refine own_open (plainFor_of_name pn_2) (fun pr_ en_ st_ me_ below meth_ co_ s₁ Bd hx hby hml hown hZ X0 e0 G gv gf => ?_)
  have N0 := Fr.nil n0
  refine gv (fun _ kQ => castTop (ef_4 me_ b (2 : Int32)) kQ) ?_
  show G (s₁.setTop (mkF me_ 0 #[.val (.ref b), .val (.int 2)] []))
  refine gv (fun _ kQ => XS.iloadN X0.here hx rfl (hb hby d12_0) rfl (XS.aloadN X0.here hx rfl (hb hby d12_1) rfl rfl kQ)) ?_
  obtain ⟨cl691, Ar691, -, S691, n691, -, -⟩ := (id u0)
  refine gv (X0.arraylength hx (by rw [e0]; exact Ar691.1) (State.isArrayOf_alike hZ.alike Ar691.2.1) (g := (mkF me_ 2 #[.val (.ref b), .val (.int 2)] [(.ref b), (.int 2)])) rfl rfl (hb hby d12_2)) ?_
  rw [len_of S691 n691]
  refine gv (fun _ kQ => XS.isub X0.here hx rfl (hb hby d12_3) rfl kQ) ?_
  show G (s₁.setTop (mkF me_ 4 #[.val (.ref b), .val (.int 2)] [(.int ((2 : Int32) - (4 : Int32)))]))
  rw [(by decide : ((2 : Int32) - (4 : Int32)) = (-2 : Int32))]
  refine gv (fun _ kQ => XS.bipush X0.here hx rfl (hb hby d12_4) (XS.iushr X0.here hx rfl (hb hby d12_6) rfl kQ)) ?_
  show G (s₁.setTop (mkF me_ 7 #[.val (.ref b), .val (.int 2)] [(.int (((-2 : Int32).toUInt32 >>> ((31 : Int32) &&& 31).toUInt32).toInt32))]))
  rw [(by decide : (((-2 : Int32).toUInt32 >>> ((31 : Int32) &&& 31).toUInt32).toInt32) = (1 : Int32))]
  refine gv (fun _ kQ => XS.i2b X0.here hx rfl (hb hby d12_7) rfl kQ) ?_
  show G (s₁.setTop (mkF me_ 8 #[.val (.ref b), .val (.int 2)] [(.int ((1 : Int32).toInt8.toInt32))]))
  rw [(by decide : ((1 : Int32).toInt8.toInt32) = (1 : Int32))]
  refine gf _ (own_ret X0 Bd.notSynchronized (v := some (.int 1)) (own_rv Bd.returns) ?_ (by decide) (by decide) (fun fs hr => retN X0 hx (t := .byte) Bd.returns (by simp) (hb hby d12_8) hr))
  show Q_cfal2_4 Z b k x0 x1 x2 x3 h0 n0 _ s₁.heap _
  rw [e0]
  exact ⟨rfl, N0, rfl⟩
def Q_sciX2 (Z : State) (a d : Addr) (kd : ClassId) (c0 c1 cs : Int32) (h0 : Heap) (n0 : Nat) (v : Option Value) (h : Heap) (L : List Loc) : Prop := v = none ∧ Fr n0 L ∧ Keep h0 h [a] ∧ (Exa Z h a "java/lang/String") ∧ (own_S2 Z h a c0 c1)
theorem rm_sciX2 (l : Launch) (Z : State) (a0 : Array Value) (hw : own_HW Z a0) (ws : List Jvm.Cond) (a d : Addr) (kd : ClassId) (c0 c1 cs : Int32) (h0 : Heap) (n0 : Nat) (O0 : Old Z n0 h0) (u0 : Sta Z Z.heap "java/lang/String" "COMPACT_STRINGS" "Z" (.int cs)) (u1 : ¬ (cs = (0 : Int32))) (u2 : Sta Z Z.heap "java/lang/StringUTF16" "$assertionsDisabled" "Z" (.int 1)) (u3 : Sta Z Z.heap "java/lang/StringUTF16" "HI_BYTE_SHIFT" "I" (.int 0)) (u4 : Sta Z Z.heap "java/lang/StringUTF16" "LO_BYTE_SHIFT" "I" (.int 8)) (u5 : nar .char c0 = c0) (u6 : nar .char c1 = c1) (u7 : Exa Z h0 a "java/lang/String") (u8 : Fld Z h0 a "java/lang/String" "value" "[B" .null) (u9 : Fld Z h0 a "java/lang/String" "coder" "B" (.int 0)) (u10 : n0 ≤ a) (u11 : Arv Z h0 d kd .char (2 : Int32) [(.int c0), (.int c1)] (.int 0)) (u12 : a ≠ d) :
    own_Met l Z m_7 jdk_42_method_149_code 6 none ws (own_R 4 2 6 57) #[(.ref a), (.ref d), (.int 0), (.int 2), .null] h0 (Q_sciX2 Z a d kd c0 c1 cs h0 n0) := by
  refine own_open (plainFor_of_name pn_0) (fun pr_ en_ st_ me_ below meth_ co_ s₁ Bd hx hby hml hown hZ X0 e0 G gv gf => ?_)
  have hnm := (name_of_methodNamed Bd.named Bd.method).1
  have N0 := Fr.nil n0
  have K0 := Keep.refl h0 [a]
  refine gv (fun _ kQ => castTop (ef_6 me_ a d (0 : Int32) (2 : Int32)) kQ) ?_
  show G (s₁.setTop (mkF me_ 0 #[.val (.ref a), .val (.ref d), .val (.int 0), .val (.int 2), .val .null, .unset] []))
  refine gv (fun _ kQ => XS.aloadN X0.here hx rfl (hb hby d5_0) rfl rfl kQ) ?_
  obtain ⟨T692, X692, e692, st692⟩ := initO X0 hx hZ hown (t_22 hw) (t_23 hw) (t_24 hw) e0 (g := (mkF me_ 1 #[.val (.ref a), .val (.ref d), .val (.int 0), .val (.int 2), .val .null, .unset] [(.ref a)])) rfl (by rw [hml]; rfl) rfl (hb hby d5_1) (by decide) (W := 0) (by show 2 * 0 + _ ≤ _; exact Nat.le_of_eq rfl) (by decide)
  refine gv st692 ?_
  refine gv (fun _ kQ => XS.iloadN X692.here hx rfl (hb hby d5_4) rfl (XS.ifYes X692.here hx rfl (pc0 := 5) (pc' := 27) rfl (hb hby d5_5) rfl ((if0 _ _).trans (feq (by decide : ¬ ((2 : Int32) = (0 : Int32)))).2) (by decide) (by decide) kQ)) ?_
  show G (T692.setTop (mkF me_ 27 #[.val (.ref a), .val (.ref d), .val (.int 0), .val (.int 2), .val .null, .unset] []))
  obtain ⟨T693, X693, e693, st693⟩ := getS2 X692 hx hZ hown (host := "") (Or.inl (t_47 hw)) Via.refl e692 (u0.ext O0.2) (g := (mkF me_ 27 #[.val (.ref a), .val (.ref d), .val (.int 0), .val (.int 2), .val .null, .unset] [])) rfl (hb hby d5_27)
  refine gv st693 ?_
  refine gv (fun _ kQ => XS.ifNo X693.here hx rfl (hb hby d5_30) rfl ((if0 _ _).trans (feq u1).1) (XS.aloadN X693.here hx rfl (hb hby d5_33) rfl rfl (XS.iloadN X693.here hx rfl (hb hby d5_34) rfl (XS.iloadN X693.here hx rfl (hb hby d5_35) rfl kQ)))) ?_
  show G (T693.setTop (mkF me_ 36 #[.val (.ref a), .val (.ref d), .val (.int 0), .val (.int 2), .val .null, .unset] [(.int 2), (.int 0), (.ref d)]))
  obtain ⟨_, _, ⟨T694, L694, k694, n694⟩, -, X694, ⟨Lc694, hQ694, l694, y694, z694⟩, st694⟩ := Jvm.LawKit.callS X693 hx (y := m_17) hown (mvT hZ (t_48 hw)) (mvT hZ (t_49 hw)) (mvT hZ (t_50 hw)) (mvT hZ (t_51 hw)) (by decide) (backOf (W := 0) (rm_cmpr2 l Z a0 hw [] d kd c0 c1 h0 n0 O0 u5 u6 u2 u3 u4 u11) hZ (t_51 hw) (t_50 hw) (by decide) (by decide)) (g := (mkF me_ 36 #[.val (.ref a), .val (.ref d), .val (.int 0), .val (.int 2), .val .null, .unset] [(.int 2), (.int 0), (.ref d)])) rfl (by rw [hml]; rfl) (argsL := [(.ref d), (.int 0), (.int 2)]) (rest := []) (lenOf pd_12 rfl) rfl (by show 2 * 0 + _ ≤ _; exact Nat.le_of_eq rfl) (hb hby d5_36) (fun _ _ => ⟨rfl, e693, (by decide : 0 + 2 ≤ _), (by decide : 0 + 6 ≤ _)⟩)
  dsimp only [Pt.U, Pt.locs, Pt.cells, Pt.slots] at X694 l694 y694 z694 st694 hQ694
  subst l694 y694 z694
  obtain ⟨b_694, rfl, Nq694, Kq694, w694_0, w694_1⟩ := hQ694
  have N695 := Fr.app N0 Nq694
  obtain ⟨h694, e694⟩ : ∃ z, T694.heap = z := ⟨_, rfl⟩
  rw [e694] at Kq694 w694_1
  have ne696 : a ≠ b_694 := Nat.ne_of_lt (Nat.lt_of_lt_of_le u7.lt w694_0)
  have f700 := u7.keep Kq694
  have f701 := u8.keep Kq694 nin0
  have f702 := u9.keep Kq694 nin0
  have O704 := O0.keep Kq694 all0
  have K705 := K0.trans Kq694 all0
  refine gv st694 ?_
  rcases w694_1 with ⟨k706, A706, l706_0, l706_1⟩ | ⟨k706, A706⟩
  · skip
    refine gv (fun _ kQ => XS.astore X694.here hx rfl (hb hby d5_39) rfl rfl (l' := #[.val (.ref a), .val (.ref d), .val (.int 0), .val (.int 2), .val .null, .val (.ref b_694)]) rfl (XS.aloadN X694.here hx rfl (hb hby d5_41) rfl rfl (XS.aload X694.here hx rfl (hb hby d5_42) rfl rfl (XS.iloadN X694.here hx rfl (hb hby d5_44) rfl kQ)))) ?_
    show G (T694.setTop (mkF me_ 45 #[.val (.ref a), .val (.ref d), .val (.int 0), .val (.int 2), .val .null, .val (.ref b_694)] [(.int 2), (.ref b_694), (.ref a)]))
    obtain ⟨_, _, ⟨T707, L707, k707, n707⟩, -, X707, ⟨Lc707, hQ707, l707, y707, z707⟩, st707⟩ := Jvm.LawKit.callS X694 hx (y := m_16) hown (mvT hZ (t_55 hw)) (mvT hZ (t_56 hw)) (mvT hZ (t_50 hw)) (mvT hZ (t_57 hw)) (by decide) (backOf (W := 1) (rm_cfal2_2 l Z a0 hw [] b_694 k706 (c0.toInt8.toInt32) (c1.toInt8.toInt32) h694 n0 O704 A706) hZ (t_57 hw) (t_50 hw) (by decide) (by decide)) (g := (mkF me_ 45 #[.val (.ref a), .val (.ref d), .val (.int 0), .val (.int 2), .val .null, .val (.ref b_694)] [(.int 2), (.ref b_694), (.ref a)])) rfl (by rw [hml]; rfl) (argsL := [(.ref b_694), (.int 2)]) (rest := [(.ref a)]) (lenOf pd_13 rfl) rfl (by show 2 * 0 + _ ≤ _; exact Nat.le_of_eq rfl) (hb hby d5_45) (fun _ _ => ⟨rfl, e694, (by decide : 2 + 0 ≤ _), (by decide : 6 + 0 ≤ _)⟩)
    dsimp only [Pt.U, Pt.locs, Pt.cells, Pt.slots] at X707 l707 y707 z707 st707 hQ707
    subst l707 y707 z707
    obtain ⟨rfl, Nq707, eq707⟩ := hQ707
    have N708 := Fr.app N695 Nq707
    refine gv st707 ?_
    obtain ⟨T709, h709, X709, e709, W709, st709⟩ := putFN X707 hx hZ hown (t_32 hw) Via.refl eq707 f702 f700 (Or.inr ⟨(t_28 hw), rfl, hnm⟩) (t_12 hw) (ty := .byte) (v' := (.int 0)) (by decide) rfl rfl (g := (mkF me_ 48 #[.val (.ref a), .val (.ref d), .val (.int 0), .val (.int 2), .val .null, .val (.ref b_694)] [(.int 0), (.ref a)])) rfl rfl (hb hby d5_48)
    refine gv st709 ?_
    have f711 := f700.wr W709
    have f712 := f701.other W709 (Or.inr (slot_ne (Or.inr (t_27 hw)) (Or.inr (t_28 hw)) (by decide) (t := (.array .byte)) (t' := .byte) (by decide) (by decide)))
    have f714 := A706.other W709 (Ne.symm ne696)
    have K716 := K705.wr W709 (Or.inl (List.mem_of_getElem? (i := 0) rfl))
    have N717 := Fr.snoc X709 N708 u10
    have f710 : Fld Z h709 a "java/lang/String" "coder" "B" (.int 0) := f702.same W709
    refine gv (fun _ kQ => XS.aloadN X709.here hx rfl (hb hby d5_51) rfl rfl (XS.aload X709.here hx rfl (hb hby d5_52) rfl rfl kQ)) ?_
    show G (T709.setTop (mkF me_ 54 #[.val (.ref a), .val (.ref d), .val (.int 0), .val (.int 2), .val .null, .val (.ref b_694)] [(.ref b_694), (.ref a)]))
    obtain ⟨T718, h718, X718, e718, W718, st718⟩ := putF X709 hx hZ hown (host := "") (Or.inl (t_31 hw)) Via.refl e709 f712 f711 (Or.inr ⟨(t_27 hw), rfl, hnm⟩) (t_12 hw) (ty := (.array .byte)) (by decide) rfl rfl (g := (mkF me_ 54 #[.val (.ref a), .val (.ref d), .val (.int 0), .val (.int 2), .val .null, .val (.ref b_694)] [(.ref b_694), (.ref a)])) rfl rfl (hb hby d5_54)
    refine gv st718 ?_
    have f720 := f711.wr W718
    have f721 := f710.other W718 (Or.inr (slot_ne (Or.inr (t_28 hw)) (Or.inr (t_27 hw)) (by decide) (t := .byte) (t' := (.array .byte)) (by decide) (by decide)))
    have f723 := f714.other W718 (Ne.symm ne696)
    have K725 := K716.wr W718 (Or.inl (List.mem_of_getElem? (i := 0) rfl))
    have N726 := Fr.snoc X718 N717 u10
    have f719 : Fld Z h718 a "java/lang/String" "value" "[B" (.ref b_694) := f712.same W718
    refine gf _ (own_ret X718 Bd.notSynchronized (v := none) (fun _ => rfl) ?_ (by decide) (by decide) (fun fs hr => X718.returnOut hx Bd.returns (hb hby d5_57) hr))
    show Q_sciX2 Z a d kd c0 c1 cs h0 n0 _ T718.heap _
    rw [e718]
    exact ⟨rfl, N726, K725, f720, ⟨Or.inl ⟨b_694, k706, f720, f721, f719, f723, l706_0, l706_1⟩, u5, u6⟩⟩
  · skip
    refine gv (fun _ kQ => XS.astore X694.here hx rfl (hb hby d5_39) rfl rfl (l' := #[.val (.ref a), .val (.ref d), .val (.int 0), .val (.int 2), .val .null, .val (.ref b_694)]) rfl (XS.aloadN X694.here hx rfl (hb hby d5_41) rfl rfl (XS.aload X694.here hx rfl (hb hby d5_42) rfl rfl (XS.iloadN X694.here hx rfl (hb hby d5_44) rfl kQ)))) ?_
    show G (T694.setTop (mkF me_ 45 #[.val (.ref a), .val (.ref d), .val (.int 0), .val (.int 2), .val .null, .val (.ref b_694)] [(.int 2), (.ref b_694), (.ref a)]))
    obtain ⟨_, _, ⟨T727, L727, k727, n727⟩, -, X727, ⟨Lc727, hQ727, l727, y727, z727⟩, st727⟩ := Jvm.LawKit.callS X694 hx (y := m_16) hown (mvT hZ (t_55 hw)) (mvT hZ (t_56 hw)) (mvT hZ (t_50 hw)) (mvT hZ (t_57 hw)) (by decide) (backOf (W := 1) (rm_cfal2_4 l Z a0 hw [] b_694 k706 ((c0 >>> ((0 : Int32) &&& 31)).toInt8.toInt32) ((c0 >>> ((8 : Int32) &&& 31)).toInt8.toInt32) ((c1 >>> ((0 : Int32) &&& 31)).toInt8.toInt32) ((c1 >>> ((8 : Int32) &&& 31)).toInt8.toInt32) h694 n0 O704 A706) hZ (t_57 hw) (t_50 hw) (by decide) (by decide)) (g := (mkF me_ 45 #[.val (.ref a), .val (.ref d), .val (.int 0), .val (.int 2), .val .null, .val (.ref b_694)] [(.int 2), (.ref b_694), (.ref a)])) rfl (by rw [hml]; rfl) (argsL := [(.ref b_694), (.int 2)]) (rest := [(.ref a)]) (lenOf pd_13 rfl) rfl (by show 2 * 0 + _ ≤ _; exact Nat.le_of_eq rfl) (hb hby d5_45) (fun _ _ => ⟨rfl, e694, (by decide : 2 + 0 ≤ _), (by decide : 6 + 0 ≤ _)⟩)
    dsimp only [Pt.U, Pt.locs, Pt.cells, Pt.slots] at X727 l727 y727 z727 st727 hQ727
    subst l727 y727 z727
    obtain ⟨rfl, Nq727, eq727⟩ := hQ727
    have N728 := Fr.app N695 Nq727
    refine gv st727 ?_
    obtain ⟨T729, h729, X729, e729, W729, st729⟩ := putFN X727 hx hZ hown (t_32 hw) Via.refl eq727 f702 f700 (Or.inr ⟨(t_28 hw), rfl, hnm⟩) (t_12 hw) (ty := .byte) (v' := (.int 1)) (by decide) rfl rfl (g := (mkF me_ 48 #[.val (.ref a), .val (.ref d), .val (.int 0), .val (.int 2), .val .null, .val (.ref b_694)] [(.int 1), (.ref a)])) rfl rfl (hb hby d5_48)
    refine gv st729 ?_
    have f731 := f700.wr W729
    have f732 := f701.other W729 (Or.inr (slot_ne (Or.inr (t_27 hw)) (Or.inr (t_28 hw)) (by decide) (t := (.array .byte)) (t' := .byte) (by decide) (by decide)))
    have f734 := A706.other W729 (Ne.symm ne696)
    have K736 := K705.wr W729 (Or.inl (List.mem_of_getElem? (i := 0) rfl))
    have N737 := Fr.snoc X729 N728 u10
    have f730 : Fld Z h729 a "java/lang/String" "coder" "B" (.int 1) := f702.same W729
    refine gv (fun _ kQ => XS.aloadN X729.here hx rfl (hb hby d5_51) rfl rfl (XS.aload X729.here hx rfl (hb hby d5_52) rfl rfl kQ)) ?_
    show G (T729.setTop (mkF me_ 54 #[.val (.ref a), .val (.ref d), .val (.int 0), .val (.int 2), .val .null, .val (.ref b_694)] [(.ref b_694), (.ref a)]))
    obtain ⟨T738, h738, X738, e738, W738, st738⟩ := putF X729 hx hZ hown (host := "") (Or.inl (t_31 hw)) Via.refl e729 f732 f731 (Or.inr ⟨(t_27 hw), rfl, hnm⟩) (t_12 hw) (ty := (.array .byte)) (by decide) rfl rfl (g := (mkF me_ 54 #[.val (.ref a), .val (.ref d), .val (.int 0), .val (.int 2), .val .null, .val (.ref b_694)] [(.ref b_694), (.ref a)])) rfl rfl (hb hby d5_54)
    refine gv st738 ?_
    have f740 := f731.wr W738
    have f741 := f730.other W738 (Or.inr (slot_ne (Or.inr (t_28 hw)) (Or.inr (t_27 hw)) (by decide) (t := .byte) (t' := (.array .byte)) (by decide) (by decide)))
    have f743 := f734.other W738 (Ne.symm ne696)
    have K745 := K736.wr W738 (Or.inl (List.mem_of_getElem? (i := 0) rfl))
    have N746 := Fr.snoc X738 N737 u10
    have f739 : Fld Z h738 a "java/lang/String" "value" "[B" (.ref b_694) := f732.same W738
    refine gf _ (own_ret X738 Bd.notSynchronized (v := none) (fun _ => rfl) ?_ (by decide) (by decide) (fun fs hr => X738.returnOut hx Bd.returns (hb hby d5_57) hr))
    show Q_sciX2 Z a d kd c0 c1 cs h0 n0 _ T738.heap _
    rw [e738]
    exact ⟨rfl, N746, K745, f740, ⟨Or.inr ⟨b_694, k706, f740, f741, f739, f743⟩, u5, u6⟩⟩
def Q_scX2 (Z : State) (a d : Addr) (kd : ClassId) (c0 c1 cs : Int32) (h0 : Heap) (n0 : Nat) (v : Option Value) (h : Heap) (L : List Loc) : Prop := v = none ∧ Fr n0 L ∧ Keep h0 h [a] ∧ (Exa Z h a "java/lang/String") ∧ (own_S2 Z h a c0 c1)
theorem rm_scX2 (l : Launch) (Z : State) (a0 : Array Value) (hw : own_HW Z a0) (ws : List Jvm.Cond) (a d : Addr) (kd : ClassId) (c0 c1 cs : Int32) (h0 : Heap) (n0 : Nat) (O0 : Old Z n0 h0) (u0 : Sta Z Z.heap "java/lang/String" "COMPACT_STRINGS" "Z" (.int cs)) (u1 : ¬ (cs = (0 : Int32))) (u2 : Sta Z Z.heap "java/lang/StringUTF16" "$assertionsDisabled" "Z" (.int 1)) (u3 : Sta Z Z.heap "java/lang/StringUTF16" "HI_BYTE_SHIFT" "I" (.int 0)) (u4 : Sta Z Z.heap "java/lang/StringUTF16" "LO_BYTE_SHIFT" "I" (.int 8)) (u5 : nar .char c0 = c0) (u6 : nar .char c1 = c1) (u7 : Exa Z h0 a "java/lang/String") (u8 : Fld Z h0 a "java/lang/String" "value" "[B" .null) (u9 : Fld Z h0 a "java/lang/String" "coder" "B" (.int 0)) (u10 : n0 ≤ a) (u11 : Arv Z h0 d kd .char (2 : Int32) [(.int c0), (.int c1)] (.int 0)) (u12 : a ≠ d) :
    own_Met l Z m_6 jdk_42_method_3_code 2 none ws (own_R 5 2 6 74) #[(.ref a), (.ref d)] h0 (Q_scX2 Z a d kd c0 c1 cs h0 n0) := by
  refine own_open (plainFor_of_name pn_0) (fun pr_ en_ st_ me_ below meth_ co_ s₁ Bd hx hby hml hown hZ X0 e0 G gv gf => ?_)
  have N0 := Fr.nil n0
  have K0 := Keep.refl h0 [a]
  refine gv (fun _ kQ => castTop (ef_7 me_ a d) kQ) ?_
  show G (s₁.setTop (mkF me_ 0 #[.val (.ref a), .val (.ref d)] []))
  refine gv (fun _ kQ => XS.aloadN X0.here hx rfl (hb hby d4_0) rfl rfl (XS.aloadN X0.here hx rfl (hb hby d4_1) rfl rfl (XS.iconst X0.here hx rfl (hb hby d4_2) (XS.aloadN X0.here hx rfl (hb hby d4_3) rfl rfl kQ)))) ?_
  show G (s₁.setTop (mkF me_ 4 #[.val (.ref a), .val (.ref d)] [(.ref d), (.int 0), (.ref d), (.ref a)]))
  obtain ⟨cl747, Ar747, -, S747, n747, -, -⟩ := (id u11)
  refine gv (X0.arraylength hx (by rw [e0]; exact Ar747.1) (State.isArrayOf_alike hZ.alike Ar747.2.1) (g := (mkF me_ 4 #[.val (.ref a), .val (.ref d)] [(.ref d), (.int 0), (.ref d), (.ref a)])) rfl rfl (hb hby d4_4)) ?_
  rw [len_of S747 n747]
  refine gv (fun _ kQ => XS.aconstNull X0.here hx rfl (hb hby d4_5) kQ) ?_
  obtain ⟨_, _, ⟨T748, L748, k748, n748⟩, -, X748, ⟨Lc748, hQ748, l748, y748, z748⟩, st748⟩ := X0.specialBack hx (y := m_7) rfl hown (mvT hZ (t_18 hw)) (mvT hZ (t_19 hw)) (mvT hZ (t_21 hw)) (by decide) (backOf (W := 0) (rm_sciX2 l Z a0 hw [] a d kd c0 c1 cs h0 n0 O0 u0 u1 u2 u3 u4 u5 u6 u7 u8 u9 u10 u11 u12) hZ (t_21 hw) (t_13 hw) (by decide) (by decide)) (g := (mkF me_ 6 #[.val (.ref a), .val (.ref d)] [.null, (.int 2), (.int 0), (.ref d), (.ref a)])) rfl (by rw [hml]; rfl) (Steps.refl _) (a := a) (argsL := [(.ref d), (.int 0), (.int 2), .null]) (rest := []) (lenOf pd_7 rfl) rfl (by show 2 * 0 + _ ≤ _; exact Nat.le_of_eq rfl) (hb hby d4_6) (fun _ _ => ⟨rfl, e0, (by decide : 0 + 2 ≤ _), (by decide : 0 + 6 ≤ _)⟩)
  dsimp only [Pt.U, Pt.locs, Pt.cells, Pt.slots] at X748 l748 y748 z748 st748 hQ748
  subst l748 y748 z748
  obtain ⟨rfl, Nq748, Kq748, w748_0, w748_1⟩ := hQ748
  have N749 := Fr.app N0 Nq748
  obtain ⟨h748, e748⟩ : ∃ z, T748.heap = z := ⟨_, rfl⟩
  rw [e748] at Kq748 w748_0 w748_1
  have K753 := K0.trans Kq748 (allS (Or.inl (List.mem_of_getElem? (i := 0) rfl)) all0)
  refine gv (fun _ kQ => st748.trans kQ) ?_
  refine gf _ (own_ret X748 Bd.notSynchronized (v := none) (fun _ => rfl) ?_ (by decide) (by decide) (fun fs hr => X748.returnOut hx Bd.returns (hb hby d4_9) hr))
  show Q_scX2 Z a d kd c0 c1 cs h0 n0 _ T748.heap _
  rw [e748]
  exact ⟨rfl, N749, K753, w748_0, w748_1⟩
def Q_nbl3 (Z : State)  (h0 : Heap) (n0 : Nat) (v : Option Value) (h : Heap) (L : List Loc) : Prop := v = some (.int 6) ∧ Fr n0 L ∧ h = h0
theorem rm_nbl3 (l : Launch) (Z : State) (a0 : Array Value) (hw : own_HW Z a0) (ws : List Jvm.Cond)  (h0 : Heap) (n0 : Nat) (O0 : Old Z n0 h0)  :
    own_Met l Z m_22 jdk_52_method_3_code 1 (some .int) ws (own_R 0 0 0 0) #[(.int 3)] h0 (Q_nbl3 Z  h0 n0) := by
  refine own_open (plainFor_of_name pn_2) (fun pr_ en_ st_ me_ below meth_ co_ s₁ Bd hx hby hml hown hZ X0 e0 G gv gf => ?_)
  have N0 := Fr.nil n0
  refine gv (fun _ kQ => castTop (ef_8 me_ (3 : Int32)) kQ) ?_
  show G (s₁.setTop (mkF me_ 0 #[.val (.int 3)] []))
  refine gv (fun _ kQ => XS.iloadN X0.here hx rfl (hb hby d15_0) rfl (XS.ifYes X0.here hx rfl (pc0 := 1) (pc' := 12) rfl (hb hby d15_1) rfl ((if0 _ _).trans (flt (by decide : ¬ ((3 : Int32) < (0 : Int32)))).2.1) (by decide) (by decide) (XS.iloadN X0.here hx rfl (hb hby d15_12) rfl kQ))) ?_
  show G (s₁.setTop (mkF me_ 13 #[.val (.int 3)] [(.int 3)]))
  refine gv (X0.ldcInt hx hown (mvT hZ (t_67 hw)) (g := (mkF me_ 13 #[.val (.int 3)] [(.int 3)])) rfl (hb hby d15_13)) ?_
  show G (s₁.setTop (mkF me_ 15 #[.val (.int 3)] [(.int 1073741823), (.int 3)]))
  refine gv (fun _ kQ => XS.icmpYes X0.here hx rfl (pc0 := 15) (pc' := 55) rfl (hb hby d15_15) rfl (tlt (by decide : (3 : Int32) < (1073741823 : Int32))).1 (by decide) (by decide) (XS.iloadN X0.here hx rfl (hb hby d15_55) rfl (XS.iconst X0.here hx rfl (hb hby d15_56) (XS.ishl X0.here hx rfl (hb hby d15_57) rfl kQ)))) ?_
  show G (s₁.setTop (mkF me_ 58 #[.val (.int 3)] [(.int ((3 : Int32) <<< ((1 : Int32) &&& 31)))]))
  rw [(by decide : ((3 : Int32) <<< ((1 : Int32) &&& 31)) = (6 : Int32))]
  refine gf _ (own_ret X0 Bd.notSynchronized (v := some (.int 6)) (own_rv Bd.returns) ?_ (by decide) (by decide) (fun fs hr => retOut X0 hx (t := .int) Bd.returns rfl (Or.inl ⟨rfl, Or.inl rfl, _, rfl⟩) (hb hby d15_58) hr))
  show Q_nbl3 Z  h0 n0 _ s₁.heap _
  rw [e0]
  exact ⟨rfl, N0, rfl⟩
def Q_nbf3 (Z : State)  (h0 : Heap) (n0 : Nat) (v : Option Value) (h : Heap) (L : List Loc) : Prop := ∃ (b : Addr), ∃ (k : ClassId), v = some (.ref b) ∧ Fr n0 L ∧ Keep h0 h [] ∧ h0.size ≤ b ∧ (Arv Z h b k .byte (6 : Int32) [(.int 0), (.int 0), (.int 0), (.int 0), (.int 0), (.int 0)] (.int 0))
theorem rm_nbf3 (l : Launch) (Z : State) (a0 : Array Value) (hw : own_HW Z a0) (ws : List Jvm.Cond)  (h0 : Heap) (n0 : Nat) (O0 : Old Z n0 h0)  :
    own_Met l Z m_21 jdk_52_method_2_code 1 (some (.array .byte)) ws (own_R 1 1 6 12) #[(.int 3)] h0 (Q_nbf3 Z  h0 n0) := by
  refine own_open (plainFor_of_name pn_2) (fun pr_ en_ st_ me_ below meth_ co_ s₁ Bd hx hby hml hown hZ X0 e0 G gv gf => ?_)
  have N0 := Fr.nil n0
  have K0 := Keep.refl h0 []
  refine gv (fun _ kQ => castTop (ef_8 me_ (3 : Int32)) kQ) ?_
  show G (s₁.setTop (mkF me_ 0 #[.val (.int 3)] []))
  refine gv (fun _ kQ => XS.iloadN X0.here hx rfl (hb hby d14_0) rfl kQ) ?_
  obtain ⟨_, _, ⟨T754, L754, k754, n754⟩, -, X754, ⟨Lc754, hQ754, l754, y754, z754⟩, st754⟩ := Jvm.LawKit.callS X0 hx (y := m_22) hown (mvT hZ (t_64 hw)) (mvT hZ (t_65 hw)) (mvT hZ (t_50 hw)) (mvT hZ (t_66 hw)) (by decide) (backOf (W := 0) (rm_nbl3 l Z a0 hw []  h0 n0 O0 ) hZ (t_66 hw) (t_50 hw) (by decide) (by decide)) (g := (mkF me_ 1 #[.val (.int 3)] [(.int 3)])) rfl (by rw [hml]; rfl) (argsL := [(.int 3)]) (rest := []) (lenOf pd_8 rfl) rfl (by show 2 * 0 + _ ≤ _; exact Nat.le_of_eq rfl) (hb hby d14_1) (fun _ _ => ⟨rfl, e0, (by decide : 0 + 0 ≤ _), (by decide : 0 + 0 ≤ _)⟩)
  dsimp only [Pt.U, Pt.locs, Pt.cells, Pt.slots] at X754 l754 y754 z754 st754 hQ754
  subst l754 y754 z754
  obtain ⟨rfl, Nq754, eq754⟩ := hQ754
  have N755 := Fr.app N0 Nq754
  refine gv st754 ?_
  obtain ⟨T756, h756, k756, X756, e756, E756, A756, st756⟩ := newP X754 hx hZ (hw _ (List.mem_of_getElem? (i := 26) rfl)) eq754 (g := (mkF me_ 4 #[.val (.int 3)] [(.int 6)])) rfl (hb hby d14_4) rfl (by decide) (cap := 6) (by decide) (by decide) (by decide) (by decide)
  obtain ⟨b756, g756⟩ : ∃ z, z = h0.size := ⟨_, rfl⟩
  rw [← g756] at A756 st756
  refine gv st756 ?_
  have z758 : h0.size ≤ b756 := Nat.le_trans K0.1 (Nat.le_of_eq g756.symm)
  have K760 := K0.ext E756
  have V756 : Arv Z h756 b756 k756 .byte (6 : Int32) [(.int 0), (.int 0), (.int 0), (.int 0), (.int 0), (.int 0)] (.int 0) := (Arv.new A756 (by decide)).pad (pad_rep [] (.int 0) 6)
  refine gf _ (own_ret X756 Bd.notSynchronized (v := some (.ref b756)) (own_rv Bd.returns) ?_ (by decide) (by decide) (fun fs hr => retOut X756 hx (t := (.array .byte)) Bd.returns rfl (Or.inr (Or.inr (Or.inr (Or.inr ⟨rfl, rfl, rfl⟩)))) (hb hby d14_6) hr))
  show Q_nbf3 Z  h0 n0 _ T756.heap _
  rw [e756]
  exact ⟨b756, k756, rfl, N755, K760, z758, V756⟩
def Q_utb3 (Z : State) (d : Addr) (kd : ClassId) (c0 c1 c2 : Int32) (h0 : Heap) (n0 : Nat) (v : Option Value) (h : Heap) (L : List Loc) : Prop := ∃ (b : Addr), ∃ (k : ClassId), v = some (.ref b) ∧ Fr n0 L ∧ Keep h0 h [] ∧ h0.size ≤ b ∧ (Arv Z h b k .byte (6 : Int32) [(.int ((c0 >>> ((0 : Int32) &&& 31)).toInt8.toInt32)), (.int ((c0 >>> ((8 : Int32) &&& 31)).toInt8.toInt32)), (.int ((c1 >>> ((0 : Int32) &&& 31)).toInt8.toInt32)), (.int ((c1 >>> ((8 : Int32) &&& 31)).toInt8.toInt32)), (.int ((c2 >>> ((0 : Int32) &&& 31)).toInt8.toInt32)), (.int ((c2 >>> ((8 : Int32) &&& 31)).toInt8.toInt32))] (.int 0))
theorem rm_utb3 (l : Launch) (Z : State) (a0 : Array Value) (hw : own_HW Z a0) (ws : List Jvm.Cond) (d : Addr) (kd : ClassId) (c0 c1 c2 : Int32) (h0 : Heap) (n0 : Nat) (O0 : Old Z n0 h0) (u0 : Sta Z Z.heap "java/lang/StringUTF16" "$assertionsDisabled" "Z" (.int 1)) (u1 : Sta Z Z.heap "java/lang/StringUTF16" "HI_BYTE_SHIFT" "I" (.int 0)) (u2 : Sta Z Z.heap "java/lang/StringUTF16" "LO_BYTE_SHIFT" "I" (.int 8)) (u3 : Arv Z h0 d kd .char (3 : Int32) [(.int c0), (.int c1), (.int c2)] (.int 0)) :
    own_Met l Z m_24 jdk_52_method_14_code 5 (some (.array .byte)) ws (own_R 2 1 6 24) #[(.ref d), (.int 0), (.int 3)] h0 (Q_utb3 Z d kd c0 c1 c2 h0 n0) := by
  refine own_open (plainFor_of_name pn_2) (fun pr_ en_ st_ me_ below meth_ co_ s₁ Bd hx hby hml hown hZ X0 e0 G gv gf => ?_)
  have N0 := Fr.nil n0
  have K0 := Keep.refl h0 []
  refine gv (fun _ kQ => castTop (ef_9 me_ d (0 : Int32) (3 : Int32)) kQ) ?_
  show G (s₁.setTop (mkF me_ 0 #[.val (.ref d), .val (.int 0), .val (.int 3), .unset, .unset] []))
  refine gv (fun _ kQ => XS.iloadN X0.here hx rfl (hb hby d13_0) rfl kQ) ?_
  obtain ⟨_, _, ⟨T761, L761, k761, n761⟩, -, X761, ⟨Lc761, hQ761, l761, y761, z761⟩, st761⟩ := Jvm.LawKit.callS X0 hx (y := m_21) hown (mvT hZ (t_61 hw)) (mvT hZ (t_62 hw)) (mvT hZ (t_50 hw)) (mvT hZ (t_63 hw)) (by decide) (backOf (W := 0) (rm_nbf3 l Z a0 hw []  h0 n0 O0 ) hZ (t_63 hw) (t_50 hw) (by decide) (by decide)) (g := (mkF me_ 1 #[.val (.ref d), .val (.int 0), .val (.int 3), .unset, .unset] [(.int 3)])) rfl (by rw [hml]; rfl) (argsL := [(.int 3)]) (rest := []) (lenOf pd_9 rfl) rfl (by show 2 * 0 + _ ≤ _; exact Nat.le_of_eq rfl) (hb hby d13_1) (fun _ _ => ⟨rfl, e0, (by decide : 0 + 1 ≤ _), (by decide : 0 + 6 ≤ _)⟩)
  dsimp only [Pt.U, Pt.locs, Pt.cells, Pt.slots] at X761 l761 y761 z761 st761 hQ761
  subst l761 y761 z761
  obtain ⟨b_761, k_761, rfl, Nq761, Kq761, w761_0, w761_1⟩ := hQ761
  have N762 := Fr.app N0 Nq761
  obtain ⟨h761, e761⟩ : ∃ z, T761.heap = z := ⟨_, rfl⟩
  rw [e761] at Kq761 w761_1
  have ne763 : d ≠ b_761 := Nat.ne_of_lt (Nat.lt_of_lt_of_le u3.lt w761_0)
  have g764 : n0 ≤ b_761 := Nat.le_trans (own_old O0) w761_0
  have z765 : h0.size ≤ b_761 := Nat.le_trans K0.1 w761_0
  have f766 := u3.keep Kq761 nin0
  have O767 := O0.keep Kq761 all0
  have K768 := K0.trans Kq761 all0
  refine gv st761 ?_
  refine gv (fun _ kQ => XS.astoreN X761.here hx rfl (hb hby d13_4) rfl rfl (l' := #[.val (.ref d), .val (.int 0), .val (.int 3), .val (.ref b_761), .unset]) rfl (XS.iconst X761.here hx rfl (hb hby d13_5) (XS.istore X761.here hx rfl (hb hby d13_6) rfl (l' := #[.val (.ref d), .val (.int 0), .val (.int 3), .val (.ref b_761), .val (.int 0)]) rfl (XS.iload X761.here hx rfl (hb hby d13_8) rfl (XS.iloadN X761.here hx rfl (hb hby d13_10) rfl (XS.icmpNo X761.here hx rfl (hb hby d13_11) rfl (tlt (by decide : (0 : Int32) < (3 : Int32))).2.1 (XS.aloadN X761.here hx rfl (hb hby d13_14) rfl rfl (XS.iload X761.here hx rfl (hb hby d13_15) rfl kQ)))))))) ?_
  show G (T761.setTop (mkF me_ 17 #[.val (.ref d), .val (.int 0), .val (.int 3), .val (.ref b_761), .val (.int 0)] [(.int 0), (.ref b_761)]))
  refine gv (fun _ kQ => XS.aloadN X761.here hx rfl (hb hby d13_17) rfl rfl (XS.iloadN X761.here hx rfl (hb hby d13_18) rfl kQ)) ?_
  obtain ⟨cl769, Ar769, q769, S769, n769, H769, G769⟩ := (id f766)
  have in769 : ¬ ((0 : Int32) < 0 ∨ cl769.slots.size ≤ ((0 : Int32)).toNatClampNeg) := inb_of S769 ⟨by decide, by decide⟩
  refine gv (X761.caload hx (j := (0 : Int32)) (v := (.int c0)) (by rw [e761]; exact Ar769.1) (State.isArrayOf_alike hZ.alike Ar769.2.1) Ar769.2.2 in769 (Has.at H769 in769 rfl) (g := (mkF me_ 19 #[.val (.ref d), .val (.int 0), .val (.int 3), .val (.ref b_761), .val (.int 0)] [(.int 0), (.ref d), (.int 0), (.ref b_761)])) rfl rfl (hb hby d13_19)) ?_
  show G (T761.setTop (mkF me_ 20 #[.val (.ref d), .val (.int 0), .val (.int 3), .val (.ref b_761), .val (.int 0)] [(.int c0), (.int 0), (.ref b_761)]))
  obtain ⟨_, _, ⟨T770, L770, k770, n770⟩, -, X770, ⟨Lc770, hQ770, l770, y770, z770⟩, st770⟩ := Jvm.LawKit.callS X761 hx (y := m_23) hown (mvT hZ (t_68 hw)) (mvT hZ (t_69 hw)) (mvT hZ (t_50 hw)) (mvT hZ (t_70 hw)) (by decide) (backOf (W := 0) (rm_put6_0 l Z a0 hw [] b_761 c0 k_761 (0 : Int32) (0 : Int32) (0 : Int32) (0 : Int32) (0 : Int32) (0 : Int32) h761 n0 O767 u0 u1 u2 w761_1 g764) hZ (t_70 hw) (t_50 hw) (by decide) (by decide)) (g := (mkF me_ 20 #[.val (.ref d), .val (.int 0), .val (.int 3), .val (.ref b_761), .val (.int 0)] [(.int c0), (.int 0), (.ref b_761)])) rfl (by rw [hml]; rfl) (argsL := [(.ref b_761), (.int 0), (.int c0)]) (rest := []) (lenOf pd_10 rfl) rfl (by show 2 * 0 + _ ≤ _; exact Nat.le_of_eq rfl) (hb hby d13_20) (fun _ _ => ⟨rfl, e761, (by decide : 1 + 0 ≤ _), (by decide : 6 + 0 ≤ _)⟩)
  dsimp only [Pt.U, Pt.locs, Pt.cells, Pt.slots] at X770 l770 y770 z770 st770 hQ770
  subst l770 y770 z770
  obtain ⟨rfl, Nq770, Kq770, w770_0⟩ := hQ770
  have N771 := Fr.app N762 Nq770
  obtain ⟨h770, e770⟩ : ∃ z, T770.heap = z := ⟨_, rfl⟩
  rw [e770] at Kq770 w770_0
  have f772 := f766.keep Kq770 (ninS ne763 nin0)
  have O773 := O767.keep Kq770 (allS g764 all0)
  have K774 := K768.trans Kq770 (allS (Or.inr z765) all0)
  refine gv st770 ?_
  refine gv (fun _ kQ => XS.iinc X770.here hx rfl (hb hby d13_23) rfl (l' := #[.val (.ref d), .val (.int ((0 : Int32) + (1 : Int32))), .val (.int 3), .val (.ref b_761), .val (.int 0)]) rfl kQ) ?_
  show G (T770.setTop (mkF me_ 26 #[.val (.ref d), .val (.int ((0 : Int32) + (1 : Int32))), .val (.int 3), .val (.ref b_761), .val (.int 0)] []))
  rw [(by decide : ((0 : Int32) + (1 : Int32)) = (1 : Int32))]
  refine gv (fun _ kQ => XS.iinc X770.here hx rfl (hb hby d13_26) rfl (l' := #[.val (.ref d), .val (.int 1), .val (.int 3), .val (.ref b_761), .val (.int ((0 : Int32) + (1 : Int32)))]) rfl kQ) ?_
  show G (T770.setTop (mkF me_ 29 #[.val (.ref d), .val (.int 1), .val (.int 3), .val (.ref b_761), .val (.int ((0 : Int32) + (1 : Int32)))] []))
  rw [(by decide : ((0 : Int32) + (1 : Int32)) = (1 : Int32))]
  refine gv (fun _ kQ => XS.goto X770.here hx rfl (pc0 := 29) (pc' := 8) rfl (hb hby d13_29) (by decide) (by decide) (XS.iload X770.here hx rfl (hb hby d13_8) rfl (XS.iloadN X770.here hx rfl (hb hby d13_10) rfl (XS.icmpNo X770.here hx rfl (hb hby d13_11) rfl (tlt (by decide : (1 : Int32) < (3 : Int32))).2.1 (XS.aloadN X770.here hx rfl (hb hby d13_14) rfl rfl (XS.iload X770.here hx rfl (hb hby d13_15) rfl (XS.aloadN X770.here hx rfl (hb hby d13_17) rfl rfl (XS.iloadN X770.here hx rfl (hb hby d13_18) rfl kQ)))))))) ?_
  show G (T770.setTop (mkF me_ 19 #[.val (.ref d), .val (.int 1), .val (.int 3), .val (.ref b_761), .val (.int 1)] [(.int 1), (.ref d), (.int 1), (.ref b_761)]))
  obtain ⟨cl775, Ar775, q775, S775, n775, H775, G775⟩ := (id f772)
  have in775 : ¬ ((1 : Int32) < 0 ∨ cl775.slots.size ≤ ((1 : Int32)).toNatClampNeg) := inb_of S775 ⟨by decide, by decide⟩
  refine gv (X770.caload hx (j := (1 : Int32)) (v := (.int c1)) (by rw [e770]; exact Ar775.1) (State.isArrayOf_alike hZ.alike Ar775.2.1) Ar775.2.2 in775 (Has.at H775 in775 rfl) (g := (mkF me_ 19 #[.val (.ref d), .val (.int 1), .val (.int 3), .val (.ref b_761), .val (.int 1)] [(.int 1), (.ref d), (.int 1), (.ref b_761)])) rfl rfl (hb hby d13_19)) ?_
  show G (T770.setTop (mkF me_ 20 #[.val (.ref d), .val (.int 1), .val (.int 3), .val (.ref b_761), .val (.int 1)] [(.int c1), (.int 1), (.ref b_761)]))
  obtain ⟨_, _, ⟨T776, L776, k776, n776⟩, -, X776, ⟨Lc776, hQ776, l776, y776, z776⟩, st776⟩ := Jvm.LawKit.callS X770 hx (y := m_23) hown (mvT hZ (t_68 hw)) (mvT hZ (t_69 hw)) (mvT hZ (t_50 hw)) (mvT hZ (t_70 hw)) (by decide) (backOf (W := 0) (rm_put6_1 l Z a0 hw [] b_761 c1 k_761 ((c0 >>> ((0 : Int32) &&& 31)).toInt8.toInt32) ((c0 >>> ((8 : Int32) &&& 31)).toInt8.toInt32) (0 : Int32) (0 : Int32) (0 : Int32) (0 : Int32) h770 n0 O773 u0 u1 u2 w770_0 g764) hZ (t_70 hw) (t_50 hw) (by decide) (by decide)) (g := (mkF me_ 20 #[.val (.ref d), .val (.int 1), .val (.int 3), .val (.ref b_761), .val (.int 1)] [(.int c1), (.int 1), (.ref b_761)])) rfl (by rw [hml]; rfl) (argsL := [(.ref b_761), (.int 1), (.int c1)]) (rest := []) (lenOf pd_10 rfl) rfl (by show 2 * 0 + _ ≤ _; exact Nat.le_of_eq rfl) (hb hby d13_20) (fun _ _ => ⟨rfl, e770, (by decide : 1 + 0 ≤ _), (by decide : 6 + 0 ≤ _)⟩)
  dsimp only [Pt.U, Pt.locs, Pt.cells, Pt.slots] at X776 l776 y776 z776 st776 hQ776
  subst l776 y776 z776
  obtain ⟨rfl, Nq776, Kq776, w776_0⟩ := hQ776
  have N777 := Fr.app N771 Nq776
  obtain ⟨h776, e776⟩ : ∃ z, T776.heap = z := ⟨_, rfl⟩
  rw [e776] at Kq776 w776_0
  have f778 := f772.keep Kq776 (ninS ne763 nin0)
  have O779 := O773.keep Kq776 (allS g764 all0)
  have K780 := K774.trans Kq776 (allS (Or.inr z765) all0)
  refine gv st776 ?_
  refine gv (fun _ kQ => XS.iinc X776.here hx rfl (hb hby d13_23) rfl (l' := #[.val (.ref d), .val (.int ((1 : Int32) + (1 : Int32))), .val (.int 3), .val (.ref b_761), .val (.int 1)]) rfl kQ) ?_
  show G (T776.setTop (mkF me_ 26 #[.val (.ref d), .val (.int ((1 : Int32) + (1 : Int32))), .val (.int 3), .val (.ref b_761), .val (.int 1)] []))
  rw [(by decide : ((1 : Int32) + (1 : Int32)) = (2 : Int32))]
  refine gv (fun _ kQ => XS.iinc X776.here hx rfl (hb hby d13_26) rfl (l' := #[.val (.ref d), .val (.int 2), .val (.int 3), .val (.ref b_761), .val (.int ((1 : Int32) + (1 : Int32)))]) rfl kQ) ?_
  show G (T776.setTop (mkF me_ 29 #[.val (.ref d), .val (.int 2), .val (.int 3), .val (.ref b_761), .val (.int ((1 : Int32) + (1 : Int32)))] []))
  rw [(by decide : ((1 : Int32) + (1 : Int32)) = (2 : Int32))]
  refine gv (fun _ kQ => XS.goto X776.here hx rfl (pc0 := 29) (pc' := 8) rfl (hb hby d13_29) (by decide) (by decide) (XS.iload X776.here hx rfl (hb hby d13_8) rfl (XS.iloadN X776.here hx rfl (hb hby d13_10) rfl (XS.icmpNo X776.here hx rfl (hb hby d13_11) rfl (tlt (by decide : (2 : Int32) < (3 : Int32))).2.1 (XS.aloadN X776.here hx rfl (hb hby d13_14) rfl rfl (XS.iload X776.here hx rfl (hb hby d13_15) rfl (XS.aloadN X776.here hx rfl (hb hby d13_17) rfl rfl (XS.iloadN X776.here hx rfl (hb hby d13_18) rfl kQ)))))))) ?_
  show G (T776.setTop (mkF me_ 19 #[.val (.ref d), .val (.int 2), .val (.int 3), .val (.ref b_761), .val (.int 2)] [(.int 2), (.ref d), (.int 2), (.ref b_761)]))
  obtain ⟨cl781, Ar781, q781, S781, n781, H781, G781⟩ := (id f778)
  have in781 : ¬ ((2 : Int32) < 0 ∨ cl781.slots.size ≤ ((2 : Int32)).toNatClampNeg) := inb_of S781 ⟨by decide, by decide⟩
  refine gv (X776.caload hx (j := (2 : Int32)) (v := (.int c2)) (by rw [e776]; exact Ar781.1) (State.isArrayOf_alike hZ.alike Ar781.2.1) Ar781.2.2 in781 (Has.at H781 in781 rfl) (g := (mkF me_ 19 #[.val (.ref d), .val (.int 2), .val (.int 3), .val (.ref b_761), .val (.int 2)] [(.int 2), (.ref d), (.int 2), (.ref b_761)])) rfl rfl (hb hby d13_19)) ?_
  show G (T776.setTop (mkF me_ 20 #[.val (.ref d), .val (.int 2), .val (.int 3), .val (.ref b_761), .val (.int 2)] [(.int c2), (.int 2), (.ref b_761)]))
  obtain ⟨_, _, ⟨T782, L782, k782, n782⟩, -, X782, ⟨Lc782, hQ782, l782, y782, z782⟩, st782⟩ := Jvm.LawKit.callS X776 hx (y := m_23) hown (mvT hZ (t_68 hw)) (mvT hZ (t_69 hw)) (mvT hZ (t_50 hw)) (mvT hZ (t_70 hw)) (by decide) (backOf (W := 0) (rm_put6_2 l Z a0 hw [] b_761 c2 k_761 ((c0 >>> ((0 : Int32) &&& 31)).toInt8.toInt32) ((c0 >>> ((8 : Int32) &&& 31)).toInt8.toInt32) ((c1 >>> ((0 : Int32) &&& 31)).toInt8.toInt32) ((c1 >>> ((8 : Int32) &&& 31)).toInt8.toInt32) (0 : Int32) (0 : Int32) h776 n0 O779 u0 u1 u2 w776_0 g764) hZ (t_70 hw) (t_50 hw) (by decide) (by decide)) (g := (mkF me_ 20 #[.val (.ref d), .val (.int 2), .val (.int 3), .val (.ref b_761), .val (.int 2)] [(.int c2), (.int 2), (.ref b_761)])) rfl (by rw [hml]; rfl) (argsL := [(.ref b_761), (.int 2), (.int c2)]) (rest := []) (lenOf pd_10 rfl) rfl (by show 2 * 0 + _ ≤ _; exact Nat.le_of_eq rfl) (hb hby d13_20) (fun _ _ => ⟨rfl, e776, (by decide : 1 + 0 ≤ _), (by decide : 6 + 0 ≤ _)⟩)
  dsimp only [Pt.U, Pt.locs, Pt.cells, Pt.slots] at X782 l782 y782 z782 st782 hQ782
  subst l782 y782 z782
  obtain ⟨rfl, Nq782, Kq782, w782_0⟩ := hQ782
  have N783 := Fr.app N777 Nq782
  obtain ⟨h782, e782⟩ : ∃ z, T782.heap = z := ⟨_, rfl⟩
  rw [e782] at Kq782 w782_0
  have K786 := K780.trans Kq782 (allS (Or.inr z765) all0)
  refine gv st782 ?_
  refine gv (fun _ kQ => XS.iinc X782.here hx rfl (hb hby d13_23) rfl (l' := #[.val (.ref d), .val (.int ((2 : Int32) + (1 : Int32))), .val (.int 3), .val (.ref b_761), .val (.int 2)]) rfl kQ) ?_
  show G (T782.setTop (mkF me_ 26 #[.val (.ref d), .val (.int ((2 : Int32) + (1 : Int32))), .val (.int 3), .val (.ref b_761), .val (.int 2)] []))
  rw [(by decide : ((2 : Int32) + (1 : Int32)) = (3 : Int32))]
  refine gv (fun _ kQ => XS.iinc X782.here hx rfl (hb hby d13_26) rfl (l' := #[.val (.ref d), .val (.int 3), .val (.int 3), .val (.ref b_761), .val (.int ((2 : Int32) + (1 : Int32)))]) rfl kQ) ?_
  show G (T782.setTop (mkF me_ 29 #[.val (.ref d), .val (.int 3), .val (.int 3), .val (.ref b_761), .val (.int ((2 : Int32) + (1 : Int32)))] []))
  rw [(by decide : ((2 : Int32) + (1 : Int32)) = (3 : Int32))]
  refine gv (fun _ kQ => XS.goto X782.here hx rfl (pc0 := 29) (pc' := 8) rfl (hb hby d13_29) (by decide) (by decide) (XS.iload X782.here hx rfl (hb hby d13_8) rfl (XS.iloadN X782.here hx rfl (hb hby d13_10) rfl (XS.icmpYes X782.here hx rfl (pc0 := 11) (pc' := 32) rfl (hb hby d13_11) rfl (flt (by decide : ¬ ((3 : Int32) < (3 : Int32)))).2.1 (by decide) (by decide) (XS.aloadN X782.here hx rfl (hb hby d13_32) rfl rfl kQ))))) ?_
  refine gf _ (own_ret X782 Bd.notSynchronized (v := some (.ref b_761)) (own_rv Bd.returns) ?_ (by decide) (by decide) (fun fs hr => retOut X782 hx (t := (.array .byte)) Bd.returns rfl (Or.inr (Or.inr (Or.inr (Or.inr ⟨rfl, rfl, rfl⟩)))) (hb hby d13_33) hr))
  show Q_utb3 Z d kd c0 c1 c2 h0 n0 _ T782.heap _
  rw [e782]
  exact ⟨b_761, k_761, rfl, N783, K786, z765, w782_0⟩
def Q_cmp3 (Z : State) (d : Addr) (kd : ClassId) (b : Addr) (k : ClassId) (c0 c1 c2 : Int32) (h0 : Heap) (n0 : Nat) (v : Option Value) (h : Heap) (L : List Loc) : Prop := ∃ (r : Int32), v = some (.int r) ∧ Fr n0 L ∧ Keep h0 h [b] ∧ (own_B3 Z h b r c0 c1 c2)
theorem rm_cmp3 (l : Launch) (Z : State) (a0 : Array Value) (hw : own_HW Z a0) (ws : List Jvm.Cond) (d : Addr) (kd : ClassId) (b : Addr) (k : ClassId) (c0 c1 c2 : Int32) (h0 : Heap) (n0 : Nat) (O0 : Old Z n0 h0) (u0 : Arv Z h0 d kd .char (3 : Int32) [(.int c0), (.int c1), (.int c2)] (.int 0)) (u1 : Arv Z h0 b k .byte (3 : Int32) [(.int 0), (.int 0), (.int 0)] (.int 0)) (u2 : n0 ≤ b) (u3 : d ≠ b) :
    own_Met l Z m_18 jdk_52_method_21_code 7 (some .int) ws (own_R 0 0 0 0) #[(.ref d), (.int 0), (.ref b), (.int 0), (.int 3)] h0 (Q_cmp3 Z d kd b k c0 c1 c2 h0 n0) := by
  refine own_open (plainFor_of_name pn_2) (fun pr_ en_ st_ me_ below meth_ co_ s₁ Bd hx hby hml hown hZ X0 e0 G gv gf => ?_)
  have N0 := Fr.nil n0
  have K0 := Keep.refl h0 [b]
  refine gv (fun _ kQ => castTop (ef_10 me_ d (0 : Int32) b (0 : Int32) (3 : Int32)) kQ) ?_
  show G (s₁.setTop (mkF me_ 0 #[.val (.ref d), .val (.int 0), .val (.ref b), .val (.int 0), .val (.int 3), .unset, .unset] []))
  refine gv (fun _ kQ => XS.iconst X0.here hx rfl (hb hby d11_0) (XS.istore X0.here hx rfl (hb hby d11_1) rfl (l' := #[.val (.ref d), .val (.int 0), .val (.ref b), .val (.int 0), .val (.int 3), .val (.int 0), .unset]) rfl (XS.iload X0.here hx rfl (hb hby d11_3) rfl (XS.iload X0.here hx rfl (hb hby d11_5) rfl (XS.icmpNo X0.here hx rfl (hb hby d11_7) rfl (tlt (by decide : (0 : Int32) < (3 : Int32))).2.1 (XS.aloadN X0.here hx rfl (hb hby d11_10) rfl rfl (XS.iloadN X0.here hx rfl (hb hby d11_11) rfl kQ))))))) ?_
  show G (s₁.setTop (mkF me_ 12 #[.val (.ref d), .val (.int 0), .val (.ref b), .val (.int 0), .val (.int 3), .val (.int 0), .unset] [(.int 0), (.ref d)]))
  obtain ⟨cl787, Ar787, q787, S787, n787, H787, G787⟩ := (id u0)
  have in787 : ¬ ((0 : Int32) < 0 ∨ cl787.slots.size ≤ ((0 : Int32)).toNatClampNeg) := inb_of S787 ⟨by decide, by decide⟩
  refine gv (X0.caload hx (j := (0 : Int32)) (v := (.int c0)) (by rw [e0]; exact Ar787.1) (State.isArrayOf_alike hZ.alike Ar787.2.1) Ar787.2.2 in787 (Has.at H787 in787 rfl) (g := (mkF me_ 12 #[.val (.ref d), .val (.int 0), .val (.ref b), .val (.int 0), .val (.int 3), .val (.int 0), .unset] [(.int 0), (.ref d)])) rfl rfl (hb hby d11_12)) ?_
  show G (s₁.setTop (mkF me_ 13 #[.val (.ref d), .val (.int 0), .val (.ref b), .val (.int 0), .val (.int 3), .val (.int 0), .unset] [(.int c0)]))
  refine gv (fun _ kQ => XS.istore X0.here hx rfl (hb hby d11_13) rfl (l' := #[.val (.ref d), .val (.int 0), .val (.ref b), .val (.int 0), .val (.int 3), .val (.int 0), .val (.int c0)]) rfl (XS.iload X0.here hx rfl (hb hby d11_15) rfl (XS.sipush X0.here hx rfl (hb hby d11_17) kQ))) ?_
  show G (s₁.setTop (mkF me_ 20 #[.val (.ref d), .val (.int 0), .val (.ref b), .val (.int 0), .val (.int 3), .val (.int 0), .val (.int c0)] [(.int 255), (.int c0)]))
  by_cases hc788 : (255 : Int32) < c0
  · refine gv (fun _ kQ => XS.icmpNo X0.here hx rfl (hb hby d11_20) rfl (tlt hc788).2.2.2 kQ) ?_
    refine gv (fun _ kQ => XS.iload X0.here hx rfl (hb hby d11_23) rfl kQ) ?_
    refine gf _ (own_ret X0 Bd.notSynchronized (v := some (.int 0)) (own_rv Bd.returns) ?_ (by decide) (by decide) (fun fs hr => retOut X0 hx (t := .int) Bd.returns rfl (Or.inl ⟨rfl, Or.inl rfl, _, rfl⟩) (hb hby d11_25) hr))
    show Q_cmp3 Z d kd b k c0 c1 c2 h0 n0 _ s₁.heap _
    rw [e0]
    exact ⟨(0 : Int32), rfl, N0, K0, (Or.inr (Or.inl ⟨rfl, hc788⟩))⟩
  · refine gv (fun _ kQ => XS.icmpYes X0.here hx rfl (pc0 := 20) (pc' := 26) rfl (hb hby d11_20) rfl (flt hc788).2.2.2 (by decide) (by decide) kQ) ?_
    refine gv (fun _ kQ => XS.aloadN X0.here hx rfl (hb hby d11_26) rfl rfl (XS.iloadN X0.here hx rfl (hb hby d11_27) rfl (XS.iload X0.here hx rfl (hb hby d11_28) rfl (XS.i2b X0.here hx rfl (hb hby d11_30) rfl kQ)))) ?_
    show G (s₁.setTop (mkF me_ 31 #[.val (.ref d), .val (.int 0), .val (.ref b), .val (.int 0), .val (.int 3), .val (.int 0), .val (.int c0)] [(.int (c0.toInt8.toInt32)), (.int 0), (.ref b)]))
    obtain ⟨cl789, Ar789, q789, S789, n789, H789, G789⟩ := (id u1)
    have in789 : ¬ ((0 : Int32) < 0 ∨ cl789.slots.size ≤ ((0 : Int32)).toNatClampNeg) := inb_of S789 ⟨by decide, by decide⟩
    obtain ⟨T789, h789, X789, e789, W789, st789⟩ := stB X0 hx hZ e0 Ar789 (j := (0 : Int32)) in789 (g := (mkF me_ 31 #[.val (.ref d), .val (.int 0), .val (.ref b), .val (.int 0), .val (.int 3), .val (.int 0), .val (.int c0)] [(.int (c0.toInt8.toInt32)), (.int 0), (.ref b)])) rfl rfl (hb hby d11_31)
    have W789 : Wr h0 h789 b ((0 : Int32)).toNatClampNeg (.int (c0.toInt8.toInt32)) := by have z := W789; rw [(own_narB _)] at z; exact z
    refine gv st789 ?_
    have f791 := u0.other W789 u3
    have K793 := K0.wr W789 (Or.inl (List.mem_of_getElem? (i := 0) rfl))
    have N794 := Fr.snoc X789 N0 u2
    have f790 : Arv Z h789 b k .byte (3 : Int32) [(.int (c0.toInt8.toInt32)), (.int 0), (.int 0)] (.int 0) := Arv.set Ar789 q789 S789 n789 H789 G789 (fits_nar_byte _) W789 0 rfl (Nat.le_of_ble_eq_true rfl)
    refine gv (fun _ kQ => XS.iinc X789.here hx rfl (hb hby d11_32) rfl (l' := #[.val (.ref d), .val (.int ((0 : Int32) + (1 : Int32))), .val (.ref b), .val (.int 0), .val (.int 3), .val (.int 0), .val (.int c0)]) rfl kQ) ?_
    show G (T789.setTop (mkF me_ 35 #[.val (.ref d), .val (.int ((0 : Int32) + (1 : Int32))), .val (.ref b), .val (.int 0), .val (.int 3), .val (.int 0), .val (.int c0)] []))
    rw [(by decide : ((0 : Int32) + (1 : Int32)) = (1 : Int32))]
    refine gv (fun _ kQ => XS.iinc X789.here hx rfl (hb hby d11_35) rfl (l' := #[.val (.ref d), .val (.int 1), .val (.ref b), .val (.int ((0 : Int32) + (1 : Int32))), .val (.int 3), .val (.int 0), .val (.int c0)]) rfl kQ) ?_
    show G (T789.setTop (mkF me_ 38 #[.val (.ref d), .val (.int 1), .val (.ref b), .val (.int ((0 : Int32) + (1 : Int32))), .val (.int 3), .val (.int 0), .val (.int c0)] []))
    rw [(by decide : ((0 : Int32) + (1 : Int32)) = (1 : Int32))]
    refine gv (fun _ kQ => XS.iinc X789.here hx rfl (hb hby d11_38) rfl (l' := #[.val (.ref d), .val (.int 1), .val (.ref b), .val (.int 1), .val (.int 3), .val (.int ((0 : Int32) + (1 : Int32))), .val (.int c0)]) rfl kQ) ?_
    show G (T789.setTop (mkF me_ 41 #[.val (.ref d), .val (.int 1), .val (.ref b), .val (.int 1), .val (.int 3), .val (.int ((0 : Int32) + (1 : Int32))), .val (.int c0)] []))
    rw [(by decide : ((0 : Int32) + (1 : Int32)) = (1 : Int32))]
    refine gv (fun _ kQ => XS.goto X789.here hx rfl (pc0 := 41) (pc' := 3) rfl (hb hby d11_41) (by decide) (by decide) (XS.iload X789.here hx rfl (hb hby d11_3) rfl (XS.iload X789.here hx rfl (hb hby d11_5) rfl (XS.icmpNo X789.here hx rfl (hb hby d11_7) rfl (tlt (by decide : (1 : Int32) < (3 : Int32))).2.1 (XS.aloadN X789.here hx rfl (hb hby d11_10) rfl rfl (XS.iloadN X789.here hx rfl (hb hby d11_11) rfl kQ)))))) ?_
    show G (T789.setTop (mkF me_ 12 #[.val (.ref d), .val (.int 1), .val (.ref b), .val (.int 1), .val (.int 3), .val (.int 1), .val (.int c0)] [(.int 1), (.ref d)]))
    obtain ⟨cl795, Ar795, q795, S795, n795, H795, G795⟩ := (id f791)
    have in795 : ¬ ((1 : Int32) < 0 ∨ cl795.slots.size ≤ ((1 : Int32)).toNatClampNeg) := inb_of S795 ⟨by decide, by decide⟩
    refine gv (X789.caload hx (j := (1 : Int32)) (v := (.int c1)) (by rw [e789]; exact Ar795.1) (State.isArrayOf_alike hZ.alike Ar795.2.1) Ar795.2.2 in795 (Has.at H795 in795 rfl) (g := (mkF me_ 12 #[.val (.ref d), .val (.int 1), .val (.ref b), .val (.int 1), .val (.int 3), .val (.int 1), .val (.int c0)] [(.int 1), (.ref d)])) rfl rfl (hb hby d11_12)) ?_
    show G (T789.setTop (mkF me_ 13 #[.val (.ref d), .val (.int 1), .val (.ref b), .val (.int 1), .val (.int 3), .val (.int 1), .val (.int c0)] [(.int c1)]))
    refine gv (fun _ kQ => XS.istore X789.here hx rfl (hb hby d11_13) rfl (l' := #[.val (.ref d), .val (.int 1), .val (.ref b), .val (.int 1), .val (.int 3), .val (.int 1), .val (.int c1)]) rfl (XS.iload X789.here hx rfl (hb hby d11_15) rfl (XS.sipush X789.here hx rfl (hb hby d11_17) kQ))) ?_
    show G (T789.setTop (mkF me_ 20 #[.val (.ref d), .val (.int 1), .val (.ref b), .val (.int 1), .val (.int 3), .val (.int 1), .val (.int c1)] [(.int 255), (.int c1)]))
    by_cases hc796 : (255 : Int32) < c1
    · refine gv (fun _ kQ => XS.icmpNo X789.here hx rfl (hb hby d11_20) rfl (tlt hc796).2.2.2 kQ) ?_
      refine gv (fun _ kQ => XS.iload X789.here hx rfl (hb hby d11_23) rfl kQ) ?_
      refine gf _ (own_ret X789 Bd.notSynchronized (v := some (.int 1)) (own_rv Bd.returns) ?_ (by decide) (by decide) (fun fs hr => retOut X789 hx (t := .int) Bd.returns rfl (Or.inl ⟨rfl, Or.inl rfl, _, rfl⟩) (hb hby d11_25) hr))
      show Q_cmp3 Z d kd b k c0 c1 c2 h0 n0 _ T789.heap _
      rw [e789]
      exact ⟨(1 : Int32), rfl, N794, K793, (Or.inr (Or.inr (Or.inl ⟨rfl, hc796⟩)))⟩
    · refine gv (fun _ kQ => XS.icmpYes X789.here hx rfl (pc0 := 20) (pc' := 26) rfl (hb hby d11_20) rfl (flt hc796).2.2.2 (by decide) (by decide) kQ) ?_
      refine gv (fun _ kQ => XS.aloadN X789.here hx rfl (hb hby d11_26) rfl rfl (XS.iloadN X789.here hx rfl (hb hby d11_27) rfl (XS.iload X789.here hx rfl (hb hby d11_28) rfl (XS.i2b X789.here hx rfl (hb hby d11_30) rfl kQ)))) ?_
      show G (T789.setTop (mkF me_ 31 #[.val (.ref d), .val (.int 1), .val (.ref b), .val (.int 1), .val (.int 3), .val (.int 1), .val (.int c1)] [(.int (c1.toInt8.toInt32)), (.int 1), (.ref b)]))
      obtain ⟨cl797, Ar797, q797, S797, n797, H797, G797⟩ := (id f790)
      have in797 : ¬ ((1 : Int32) < 0 ∨ cl797.slots.size ≤ ((1 : Int32)).toNatClampNeg) := inb_of S797 ⟨by decide, by decide⟩
      obtain ⟨T797, h797, X797, e797, W797, st797⟩ := stB X789 hx hZ e789 Ar797 (j := (1 : Int32)) in797 (g := (mkF me_ 31 #[.val (.ref d), .val (.int 1), .val (.ref b), .val (.int 1), .val (.int 3), .val (.int 1), .val (.int c1)] [(.int (c1.toInt8.toInt32)), (.int 1), (.ref b)])) rfl rfl (hb hby d11_31)
      have W797 : Wr h789 h797 b ((1 : Int32)).toNatClampNeg (.int (c1.toInt8.toInt32)) := by have z := W797; rw [(own_narB _)] at z; exact z
      refine gv st797 ?_
      have f799 := f791.other W797 u3
      have K801 := K793.wr W797 (Or.inl (List.mem_of_getElem? (i := 0) rfl))
      have N802 := Fr.snoc X797 N794 u2
      have f798 : Arv Z h797 b k .byte (3 : Int32) [(.int (c0.toInt8.toInt32)), (.int (c1.toInt8.toInt32)), (.int 0)] (.int 0) := Arv.set Ar797 q797 S797 n797 H797 G797 (fits_nar_byte _) W797 1 rfl (Nat.le_of_ble_eq_true rfl)
      refine gv (fun _ kQ => XS.iinc X797.here hx rfl (hb hby d11_32) rfl (l' := #[.val (.ref d), .val (.int ((1 : Int32) + (1 : Int32))), .val (.ref b), .val (.int 1), .val (.int 3), .val (.int 1), .val (.int c1)]) rfl kQ) ?_
      show G (T797.setTop (mkF me_ 35 #[.val (.ref d), .val (.int ((1 : Int32) + (1 : Int32))), .val (.ref b), .val (.int 1), .val (.int 3), .val (.int 1), .val (.int c1)] []))
      rw [(by decide : ((1 : Int32) + (1 : Int32)) = (2 : Int32))]
      refine gv (fun _ kQ => XS.iinc X797.here hx rfl (hb hby d11_35) rfl (l' := #[.val (.ref d), .val (.int 2), .val (.ref b), .val (.int ((1 : Int32) + (1 : Int32))), .val (.int 3), .val (.int 1), .val (.int c1)]) rfl kQ) ?_
      show G (T797.setTop (mkF me_ 38 #[.val (.ref d), .val (.int 2), .val (.ref b), .val (.int ((1 : Int32) + (1 : Int32))), .val (.int 3), .val (.int 1), .val (.int c1)] []))
      rw [(by decide : ((1 : Int32) + (1 : Int32)) = (2 : Int32))]
      refine gv (fun _ kQ => XS.iinc X797.here hx rfl (hb hby d11_38) rfl (l' := #[.val (.ref d), .val (.int 2), .val (.ref b), .val (.int 2), .val (.int 3), .val (.int ((1 : Int32) + (1 : Int32))), .val (.int c1)]) rfl kQ) ?_
      show G (T797.setTop (mkF me_ 41 #[.val (.ref d), .val (.int 2), .val (.ref b), .val (.int 2), .val (.int 3), .val (.int ((1 : Int32) + (1 : Int32))), .val (.int c1)] []))
      rw [(by decide : ((1 : Int32) + (1 : Int32)) = (2 : Int32))]
      refine gv (fun _ kQ => XS.goto X797.here hx rfl (pc0 := 41) (pc' := 3) rfl (hb hby d11_41) (by decide) (by decide) (XS.iload X797.here hx rfl (hb hby d11_3) rfl (XS.iload X797.here hx rfl (hb hby d11_5) rfl (XS.icmpNo X797.here hx rfl (hb hby d11_7) rfl (tlt (by decide : (2 : Int32) < (3 : Int32))).2.1 (XS.aloadN X797.here hx rfl (hb hby d11_10) rfl rfl (XS.iloadN X797.here hx rfl (hb hby d11_11) rfl kQ)))))) ?_
      show G (T797.setTop (mkF me_ 12 #[.val (.ref d), .val (.int 2), .val (.ref b), .val (.int 2), .val (.int 3), .val (.int 2), .val (.int c1)] [(.int 2), (.ref d)]))
      obtain ⟨cl803, Ar803, q803, S803, n803, H803, G803⟩ := (id f799)
      have in803 : ¬ ((2 : Int32) < 0 ∨ cl803.slots.size ≤ ((2 : Int32)).toNatClampNeg) := inb_of S803 ⟨by decide, by decide⟩
      refine gv (X797.caload hx (j := (2 : Int32)) (v := (.int c2)) (by rw [e797]; exact Ar803.1) (State.isArrayOf_alike hZ.alike Ar803.2.1) Ar803.2.2 in803 (Has.at H803 in803 rfl) (g := (mkF me_ 12 #[.val (.ref d), .val (.int 2), .val (.ref b), .val (.int 2), .val (.int 3), .val (.int 2), .val (.int c1)] [(.int 2), (.ref d)])) rfl rfl (hb hby d11_12)) ?_
      show G (T797.setTop (mkF me_ 13 #[.val (.ref d), .val (.int 2), .val (.ref b), .val (.int 2), .val (.int 3), .val (.int 2), .val (.int c1)] [(.int c2)]))
      refine gv (fun _ kQ => XS.istore X797.here hx rfl (hb hby d11_13) rfl (l' := #[.val (.ref d), .val (.int 2), .val (.ref b), .val (.int 2), .val (.int 3), .val (.int 2), .val (.int c2)]) rfl (XS.iload X797.here hx rfl (hb hby d11_15) rfl (XS.sipush X797.here hx rfl (hb hby d11_17) kQ))) ?_
      show G (T797.setTop (mkF me_ 20 #[.val (.ref d), .val (.int 2), .val (.ref b), .val (.int 2), .val (.int 3), .val (.int 2), .val (.int c2)] [(.int 255), (.int c2)]))
      by_cases hc804 : (255 : Int32) < c2
      · refine gv (fun _ kQ => XS.icmpNo X797.here hx rfl (hb hby d11_20) rfl (tlt hc804).2.2.2 kQ) ?_
        refine gv (fun _ kQ => XS.iload X797.here hx rfl (hb hby d11_23) rfl kQ) ?_
        refine gf _ (own_ret X797 Bd.notSynchronized (v := some (.int 2)) (own_rv Bd.returns) ?_ (by decide) (by decide) (fun fs hr => retOut X797 hx (t := .int) Bd.returns rfl (Or.inl ⟨rfl, Or.inl rfl, _, rfl⟩) (hb hby d11_25) hr))
        show Q_cmp3 Z d kd b k c0 c1 c2 h0 n0 _ T797.heap _
        rw [e797]
        exact ⟨(2 : Int32), rfl, N802, K801, (Or.inr (Or.inr (Or.inr (⟨rfl, hc804⟩))))⟩
      · refine gv (fun _ kQ => XS.icmpYes X797.here hx rfl (pc0 := 20) (pc' := 26) rfl (hb hby d11_20) rfl (flt hc804).2.2.2 (by decide) (by decide) kQ) ?_
        refine gv (fun _ kQ => XS.aloadN X797.here hx rfl (hb hby d11_26) rfl rfl (XS.iloadN X797.here hx rfl (hb hby d11_27) rfl (XS.iload X797.here hx rfl (hb hby d11_28) rfl (XS.i2b X797.here hx rfl (hb hby d11_30) rfl kQ)))) ?_
        show G (T797.setTop (mkF me_ 31 #[.val (.ref d), .val (.int 2), .val (.ref b), .val (.int 2), .val (.int 3), .val (.int 2), .val (.int c2)] [(.int (c2.toInt8.toInt32)), (.int 2), (.ref b)]))
        obtain ⟨cl805, Ar805, q805, S805, n805, H805, G805⟩ := (id f798)
        have in805 : ¬ ((2 : Int32) < 0 ∨ cl805.slots.size ≤ ((2 : Int32)).toNatClampNeg) := inb_of S805 ⟨by decide, by decide⟩
        obtain ⟨T805, h805, X805, e805, W805, st805⟩ := stB X797 hx hZ e797 Ar805 (j := (2 : Int32)) in805 (g := (mkF me_ 31 #[.val (.ref d), .val (.int 2), .val (.ref b), .val (.int 2), .val (.int 3), .val (.int 2), .val (.int c2)] [(.int (c2.toInt8.toInt32)), (.int 2), (.ref b)])) rfl rfl (hb hby d11_31)
        have W805 : Wr h797 h805 b ((2 : Int32)).toNatClampNeg (.int (c2.toInt8.toInt32)) := by have z := W805; rw [(own_narB _)] at z; exact z
        refine gv st805 ?_
        have K809 := K801.wr W805 (Or.inl (List.mem_of_getElem? (i := 0) rfl))
        have N810 := Fr.snoc X805 N802 u2
        have f806 : Arv Z h805 b k .byte (3 : Int32) [(.int (c0.toInt8.toInt32)), (.int (c1.toInt8.toInt32)), (.int (c2.toInt8.toInt32))] (.int 0) := Arv.set Ar805 q805 S805 n805 H805 G805 (fits_nar_byte _) W805 2 rfl (Nat.le_of_ble_eq_true rfl)
        refine gv (fun _ kQ => XS.iinc X805.here hx rfl (hb hby d11_32) rfl (l' := #[.val (.ref d), .val (.int ((2 : Int32) + (1 : Int32))), .val (.ref b), .val (.int 2), .val (.int 3), .val (.int 2), .val (.int c2)]) rfl kQ) ?_
        show G (T805.setTop (mkF me_ 35 #[.val (.ref d), .val (.int ((2 : Int32) + (1 : Int32))), .val (.ref b), .val (.int 2), .val (.int 3), .val (.int 2), .val (.int c2)] []))
        rw [(by decide : ((2 : Int32) + (1 : Int32)) = (3 : Int32))]
        refine gv (fun _ kQ => XS.iinc X805.here hx rfl (hb hby d11_35) rfl (l' := #[.val (.ref d), .val (.int 3), .val (.ref b), .val (.int ((2 : Int32) + (1 : Int32))), .val (.int 3), .val (.int 2), .val (.int c2)]) rfl kQ) ?_
        show G (T805.setTop (mkF me_ 38 #[.val (.ref d), .val (.int 3), .val (.ref b), .val (.int ((2 : Int32) + (1 : Int32))), .val (.int 3), .val (.int 2), .val (.int c2)] []))
        rw [(by decide : ((2 : Int32) + (1 : Int32)) = (3 : Int32))]
        refine gv (fun _ kQ => XS.iinc X805.here hx rfl (hb hby d11_38) rfl (l' := #[.val (.ref d), .val (.int 3), .val (.ref b), .val (.int 3), .val (.int 3), .val (.int ((2 : Int32) + (1 : Int32))), .val (.int c2)]) rfl kQ) ?_
        show G (T805.setTop (mkF me_ 41 #[.val (.ref d), .val (.int 3), .val (.ref b), .val (.int 3), .val (.int 3), .val (.int ((2 : Int32) + (1 : Int32))), .val (.int c2)] []))
        rw [(by decide : ((2 : Int32) + (1 : Int32)) = (3 : Int32))]
        refine gv (fun _ kQ => XS.goto X805.here hx rfl (pc0 := 41) (pc' := 3) rfl (hb hby d11_41) (by decide) (by decide) (XS.iload X805.here hx rfl (hb hby d11_3) rfl (XS.iload X805.here hx rfl (hb hby d11_5) rfl (XS.icmpYes X805.here hx rfl (pc0 := 7) (pc' := 44) rfl (hb hby d11_7) rfl (flt (by decide : ¬ ((3 : Int32) < (3 : Int32)))).2.1 (by decide) (by decide) (XS.iload X805.here hx rfl (hb hby d11_44) rfl kQ))))) ?_
        refine gf _ (own_ret X805 Bd.notSynchronized (v := some (.int 3)) (own_rv Bd.returns) ?_ (by decide) (by decide) (fun fs hr => retOut X805 hx (t := .int) Bd.returns rfl (Or.inl ⟨rfl, Or.inl rfl, _, rfl⟩) (hb hby d11_46) hr))
        show Q_cmp3 Z d kd b k c0 c1 c2 h0 n0 _ T805.heap _
        rw [e805]
        exact ⟨(3 : Int32), rfl, N810, K809, (Or.inl ⟨rfl, k, f806, hc788, hc796, hc804⟩)⟩
def Q_cmpr3 (Z : State) (d : Addr) (kd : ClassId) (c0 c1 c2 : Int32) (h0 : Heap) (n0 : Nat) (v : Option Value) (h : Heap) (L : List Loc) : Prop := ∃ (b : Addr), v = some (.ref b) ∧ Fr n0 L ∧ Keep h0 h [] ∧ h0.size ≤ b ∧ (own_C3 Z h b c0 c1 c2)
theorem rm_cmpr3 (l : Launch) (Z : State) (a0 : Array Value) (hw : own_HW Z a0) (ws : List Jvm.Cond) (d : Addr) (kd : ClassId) (c0 c1 c2 : Int32) (h0 : Heap) (n0 : Nat) (O0 : Old Z n0 h0) (u0 : nar .char c0 = c0) (u1 : nar .char c1 = c1) (u2 : nar .char c2 = c2) (u3 : Sta Z Z.heap "java/lang/StringUTF16" "$assertionsDisabled" "Z" (.int 1)) (u4 : Sta Z Z.heap "java/lang/StringUTF16" "HI_BYTE_SHIFT" "I" (.int 0)) (u5 : Sta Z Z.heap "java/lang/StringUTF16" "LO_BYTE_SHIFT" "I" (.int 8)) (u6 : Arv Z h0 d kd .char (3 : Int32) [(.int c0), (.int c1), (.int c2)] (.int 0)) :
    own_Met l Z m_17 jdk_52_method_16_code 6 (some (.array .byte)) ws (own_R 3 2 9 40) #[(.ref d), (.int 0), (.int 3)] h0 (Q_cmpr3 Z d kd c0 c1 c2 h0 n0) := by
  refine own_open (plainFor_of_name pn_2) (fun pr_ en_ st_ me_ below meth_ co_ s₁ Bd hx hby hml hown hZ X0 e0 G gv gf => ?_)
  have N0 := Fr.nil n0
  have K0 := Keep.refl h0 []
  refine gv (fun _ kQ => castTop (ef_11 me_ d (0 : Int32) (3 : Int32)) kQ) ?_
  show G (s₁.setTop (mkF me_ 0 #[.val (.ref d), .val (.int 0), .val (.int 3), .unset, .unset, .unset] []))
  refine gv (fun _ kQ => XS.iloadN X0.here hx rfl (hb hby d10_0) rfl kQ) ?_
  obtain ⟨T811, h811, k811, X811, e811, E811, A811, st811⟩ := newP X0 hx hZ (hw _ (List.mem_of_getElem? (i := 26) rfl)) e0 (g := (mkF me_ 1 #[.val (.ref d), .val (.int 0), .val (.int 3), .unset, .unset, .unset] [(.int 3)])) rfl (hb hby d10_1) rfl (by decide) (cap := 3) (by decide) (by decide) (by decide) (by decide)
  obtain ⟨b811, g811⟩ : ∃ z, z = h0.size := ⟨_, rfl⟩
  rw [← g811] at A811 st811
  refine gv st811 ?_
  have ne812 : d ≠ b811 := Nat.ne_of_lt (Nat.lt_of_lt_of_le u6.lt (Nat.le_of_eq g811.symm))
  have g813 : n0 ≤ b811 := Nat.le_trans (own_old O0) (Nat.le_of_eq g811.symm)
  have z814 : h0.size ≤ b811 := Nat.le_trans K0.1 (Nat.le_of_eq g811.symm)
  have f815 := u6.ext E811
  have O816 := O0.ext E811
  have K817 := K0.ext E811
  have V811 : Arv Z h811 b811 k811 .byte (3 : Int32) [(.int 0), (.int 0), (.int 0)] (.int 0) := (Arv.new A811 (by decide)).pad (pad_rep [] (.int 0) 3)
  refine gv (fun _ kQ => XS.astoreN X811.here hx rfl (hb hby d10_3) rfl rfl (l' := #[.val (.ref d), .val (.int 0), .val (.int 3), .val (.ref b811), .unset, .unset]) rfl (XS.aloadN X811.here hx rfl (hb hby d10_4) rfl rfl (XS.iloadN X811.here hx rfl (hb hby d10_5) rfl (XS.aloadN X811.here hx rfl (hb hby d10_6) rfl rfl (XS.iconst X811.here hx rfl (hb hby d10_7) (XS.iloadN X811.here hx rfl (hb hby d10_8) rfl kQ)))))) ?_
  show G (T811.setTop (mkF me_ 9 #[.val (.ref d), .val (.int 0), .val (.int 3), .val (.ref b811), .unset, .unset] [(.int 3), (.int 0), (.ref b811), (.int 0), (.ref d)]))
  obtain ⟨_, _, ⟨T818, L818, k818, n818⟩, -, X818, ⟨Lc818, hQ818, l818, y818, z818⟩, st818⟩ := Jvm.LawKit.callS X811 hx (y := m_18) hown (mvT hZ (t_52 hw)) (mvT hZ (t_53 hw)) (mvT hZ (t_50 hw)) (mvT hZ (t_54 hw)) (by decide) (backOf (W := 0) (rm_cmp3 l Z a0 hw [] d kd b811 k811 c0 c1 c2 h811 n0 O816 f815 V811 g813 ne812) hZ (t_54 hw) (t_50 hw) (by decide) (by decide)) (g := (mkF me_ 9 #[.val (.ref d), .val (.int 0), .val (.int 3), .val (.ref b811), .unset, .unset] [(.int 3), (.int 0), (.ref b811), (.int 0), (.ref d)])) rfl (by rw [hml]; rfl) (argsL := [(.ref d), (.int 0), (.ref b811), (.int 0), (.int 3)]) (rest := []) (lenOf pd_11 rfl) rfl (by show 2 * 0 + _ ≤ _; exact Nat.le_of_eq rfl) (hb hby d10_9) (fun _ _ => ⟨rfl, e811, (by decide : 1 + 0 ≤ _), (by decide : 3 + 0 ≤ _)⟩)
  dsimp only [Pt.U, Pt.locs, Pt.cells, Pt.slots] at X818 l818 y818 z818 st818 hQ818
  subst l818 y818 z818
  obtain ⟨r_818, rfl, Nq818, Kq818, w818_0⟩ := hQ818
  have N819 := Fr.app N0 Nq818
  obtain ⟨h818, e818⟩ : ∃ z, T818.heap = z := ⟨_, rfl⟩
  rw [e818] at Kq818 w818_0
  have f820 := f815.keep Kq818 (ninS ne812 nin0)
  have O821 := O816.keep Kq818 (allS g813 all0)
  have K822 := K817.trans Kq818 (allS (Or.inr z814) all0)
  refine gv st818 ?_
  rcases w818_0 with ⟨q823, k823, A823, l823_0, l823_1, l823_2⟩ | ⟨q823, l823⟩ | ⟨q823, l823⟩ | ⟨q823, l823⟩
  · rw [q823]
    refine gv (fun _ kQ => XS.istore X818.here hx rfl (hb hby d10_12) rfl (l' := #[.val (.ref d), .val (.int 0), .val (.int 3), .val (.ref b811), .val (.int 3), .unset]) rfl (XS.iload X818.here hx rfl (hb hby d10_14) rfl (XS.iloadN X818.here hx rfl (hb hby d10_16) rfl (XS.icmpYes X818.here hx rfl (pc0 := 17) (pc' := 57) rfl (hb hby d10_17) rfl (teq (by decide : (3 : Int32) = (3 : Int32))).1 (by decide) (by decide) (XS.aloadN X818.here hx rfl (hb hby d10_57) rfl rfl kQ))))) ?_
    refine gf _ (own_ret X818 Bd.notSynchronized (v := some (.ref b811)) (own_rv Bd.returns) ?_ (by decide) (by decide) (fun fs hr => retOut X818 hx (t := (.array .byte)) Bd.returns rfl (Or.inr (Or.inr (Or.inr (Or.inr ⟨rfl, rfl, rfl⟩)))) (hb hby d10_58) hr))
    show Q_cmpr3 Z d kd c0 c1 c2 h0 n0 _ T818.heap _
    rw [e818]
    exact ⟨b811, rfl, N819, K822, z814, (Or.inl ⟨k823, A823, l823_0, l823_1, l823_2⟩)⟩
  · rw [q823]
    show G (T818.setTop (mkF me_ 12 #[.val (.ref d), .val (.int 0), .val (.int 3), .val (.ref b811), .unset, .unset] [(.int 0)]))
    refine gv (fun _ kQ => XS.istore X818.here hx rfl (hb hby d10_12) rfl (l' := #[.val (.ref d), .val (.int 0), .val (.int 3), .val (.ref b811), .val (.int 0), .unset]) rfl (XS.iload X818.here hx rfl (hb hby d10_14) rfl (XS.iloadN X818.here hx rfl (hb hby d10_16) rfl (XS.icmpNo X818.here hx rfl (hb hby d10_17) rfl (feq (by decide : ¬ ((0 : Int32) = (3 : Int32)))).1 (XS.aloadN X818.here hx rfl (hb hby d10_20) rfl rfl (XS.iloadN X818.here hx rfl (hb hby d10_21) rfl (XS.iloadN X818.here hx rfl (hb hby d10_22) rfl kQ))))))) ?_
    show G (T818.setTop (mkF me_ 23 #[.val (.ref d), .val (.int 0), .val (.int 3), .val (.ref b811), .val (.int 0), .unset] [(.int 3), (.int 0), (.ref d)]))
    obtain ⟨_, _, ⟨T824, L824, k824, n824⟩, -, X824, ⟨Lc824, hQ824, l824, y824, z824⟩, st824⟩ := Jvm.LawKit.callS X818 hx (y := m_24) hown (mvT hZ (t_58 hw)) (mvT hZ (t_59 hw)) (mvT hZ (t_50 hw)) (mvT hZ (t_60 hw)) (by decide) (backOf (W := 0) (rm_utb3 l Z a0 hw [] d kd c0 c1 c2 h818 n0 O821 u3 u4 u5 f820) hZ (t_60 hw) (t_50 hw) (by decide) (by decide)) (g := (mkF me_ 23 #[.val (.ref d), .val (.int 0), .val (.int 3), .val (.ref b811), .val (.int 0), .unset] [(.int 3), (.int 0), (.ref d)])) rfl (by rw [hml]; rfl) (argsL := [(.ref d), (.int 0), (.int 3)]) (rest := []) (lenOf pd_12 rfl) rfl (by show 2 * 0 + _ ≤ _; exact Nat.le_of_eq rfl) (hb hby d10_23) (fun _ _ => ⟨rfl, e818, (by decide : 1 + 1 ≤ _), (by decide : 3 + 6 ≤ _)⟩)
    dsimp only [Pt.U, Pt.locs, Pt.cells, Pt.slots] at X824 l824 y824 z824 st824 hQ824
    subst l824 y824 z824
    obtain ⟨b_824, k_824, rfl, Nq824, Kq824, w824_0, w824_1⟩ := hQ824
    have N825 := Fr.app N819 Nq824
    obtain ⟨h824, e824⟩ : ∃ z, T824.heap = z := ⟨_, rfl⟩
    rw [e824] at Kq824 w824_1
    have z828 : h0.size ≤ b_824 := Nat.le_trans K822.1 w824_0
    have O830 := O821.keep Kq824 all0
    have K831 := K822.trans Kq824 all0
    refine gv st824 ?_
    refine gv (fun _ kQ => XS.astore X824.here hx rfl (hb hby d10_26) rfl rfl (l' := #[.val (.ref d), .val (.int 0), .val (.int 3), .val (.ref b811), .val (.int 0), .val (.ref b_824)]) rfl (XS.aload X824.here hx rfl (hb hby d10_28) rfl rfl (XS.iload X824.here hx rfl (hb hby d10_30) rfl kQ))) ?_
    show G (T824.setTop (mkF me_ 32 #[.val (.ref d), .val (.int 0), .val (.int 3), .val (.ref b811), .val (.int 0), .val (.ref b_824)] [(.int 0), (.ref b_824)]))
    obtain ⟨_, _, ⟨T832, L832, k832, n832⟩, -, X832, ⟨Lc832, hQ832, l832, y832, z832⟩, st832⟩ := Jvm.LawKit.callS X824 hx (y := m_19) hown (mvT hZ (t_74 hw)) (mvT hZ (t_75 hw)) (mvT hZ (t_50 hw)) (mvT hZ (t_76 hw)) (by decide) (backOf (W := 0) (rm_getc3_0 l Z a0 hw [] b_824 k_824 ((c0 >>> ((0 : Int32) &&& 31)).toInt8.toInt32) ((c0 >>> ((8 : Int32) &&& 31)).toInt8.toInt32) ((c1 >>> ((0 : Int32) &&& 31)).toInt8.toInt32) ((c1 >>> ((8 : Int32) &&& 31)).toInt8.toInt32) ((c2 >>> ((0 : Int32) &&& 31)).toInt8.toInt32) ((c2 >>> ((8 : Int32) &&& 31)).toInt8.toInt32) h824 n0 O830 u3 u4 u5 w824_1) hZ (t_76 hw) (t_50 hw) (by decide) (by decide)) (g := (mkF me_ 32 #[.val (.ref d), .val (.int 0), .val (.int 3), .val (.ref b811), .val (.int 0), .val (.ref b_824)] [(.int 0), (.ref b_824)])) rfl (by rw [hml]; rfl) (argsL := [(.ref b_824), (.int 0)]) (rest := []) (lenOf pd_4 rfl) rfl (by show 2 * 0 + _ ≤ _; exact Nat.le_of_eq rfl) (hb hby d10_32) (fun _ _ => ⟨rfl, e824, (by decide : 2 + 0 ≤ _), (by decide : 9 + 0 ≤ _)⟩)
    dsimp only [Pt.U, Pt.locs, Pt.cells, Pt.slots] at X832 l832 y832 z832 st832 hQ832
    subst l832 y832 z832
    obtain ⟨rfl, Nq832, eq832⟩ := hQ832
    have N833 := Fr.app N825 Nq832
    refine gv st832 ?_
    refine gv (fun _ kQ => XS.sipush X832.here hx rfl (hb hby d10_35) (XS.icmpYes X832.here hx rfl (pc0 := 38) (pc' := 54) rfl (hb hby d10_38) rfl (tlt (own_gcgt u0 l823)).2.2.1 (by decide) (by decide) (XS.aload X832.here hx rfl (hb hby d10_54) rfl rfl kQ))) ?_
    refine gf _ (own_ret X832 Bd.notSynchronized (v := some (.ref b_824)) (own_rv Bd.returns) ?_ (by decide) (by decide) (fun fs hr => retOut X832 hx (t := (.array .byte)) Bd.returns rfl (Or.inr (Or.inr (Or.inr (Or.inr ⟨rfl, rfl, rfl⟩)))) (hb hby d10_56) hr))
    show Q_cmpr3 Z d kd c0 c1 c2 h0 n0 _ T832.heap _
    rw [eq832]
    exact ⟨b_824, rfl, N833, K831, z828, (Or.inr ⟨k_824, w824_1⟩)⟩
  · rw [q823]
    show G (T818.setTop (mkF me_ 12 #[.val (.ref d), .val (.int 0), .val (.int 3), .val (.ref b811), .unset, .unset] [(.int 1)]))
    refine gv (fun _ kQ => XS.istore X818.here hx rfl (hb hby d10_12) rfl (l' := #[.val (.ref d), .val (.int 0), .val (.int 3), .val (.ref b811), .val (.int 1), .unset]) rfl (XS.iload X818.here hx rfl (hb hby d10_14) rfl (XS.iloadN X818.here hx rfl (hb hby d10_16) rfl (XS.icmpNo X818.here hx rfl (hb hby d10_17) rfl (feq (by decide : ¬ ((1 : Int32) = (3 : Int32)))).1 (XS.aloadN X818.here hx rfl (hb hby d10_20) rfl rfl (XS.iloadN X818.here hx rfl (hb hby d10_21) rfl (XS.iloadN X818.here hx rfl (hb hby d10_22) rfl kQ))))))) ?_
    show G (T818.setTop (mkF me_ 23 #[.val (.ref d), .val (.int 0), .val (.int 3), .val (.ref b811), .val (.int 1), .unset] [(.int 3), (.int 0), (.ref d)]))
    obtain ⟨_, _, ⟨T834, L834, k834, n834⟩, -, X834, ⟨Lc834, hQ834, l834, y834, z834⟩, st834⟩ := Jvm.LawKit.callS X818 hx (y := m_24) hown (mvT hZ (t_58 hw)) (mvT hZ (t_59 hw)) (mvT hZ (t_50 hw)) (mvT hZ (t_60 hw)) (by decide) (backOf (W := 0) (rm_utb3 l Z a0 hw [] d kd c0 c1 c2 h818 n0 O821 u3 u4 u5 f820) hZ (t_60 hw) (t_50 hw) (by decide) (by decide)) (g := (mkF me_ 23 #[.val (.ref d), .val (.int 0), .val (.int 3), .val (.ref b811), .val (.int 1), .unset] [(.int 3), (.int 0), (.ref d)])) rfl (by rw [hml]; rfl) (argsL := [(.ref d), (.int 0), (.int 3)]) (rest := []) (lenOf pd_12 rfl) rfl (by show 2 * 0 + _ ≤ _; exact Nat.le_of_eq rfl) (hb hby d10_23) (fun _ _ => ⟨rfl, e818, (by decide : 1 + 1 ≤ _), (by decide : 3 + 6 ≤ _)⟩)
    dsimp only [Pt.U, Pt.locs, Pt.cells, Pt.slots] at X834 l834 y834 z834 st834 hQ834
    subst l834 y834 z834
    obtain ⟨b_834, k_834, rfl, Nq834, Kq834, w834_0, w834_1⟩ := hQ834
    have N835 := Fr.app N819 Nq834
    obtain ⟨h834, e834⟩ : ∃ z, T834.heap = z := ⟨_, rfl⟩
    rw [e834] at Kq834 w834_1
    have z838 : h0.size ≤ b_834 := Nat.le_trans K822.1 w834_0
    have O840 := O821.keep Kq834 all0
    have K841 := K822.trans Kq834 all0
    refine gv st834 ?_
    refine gv (fun _ kQ => XS.astore X834.here hx rfl (hb hby d10_26) rfl rfl (l' := #[.val (.ref d), .val (.int 0), .val (.int 3), .val (.ref b811), .val (.int 1), .val (.ref b_834)]) rfl (XS.aload X834.here hx rfl (hb hby d10_28) rfl rfl (XS.iload X834.here hx rfl (hb hby d10_30) rfl kQ))) ?_
    show G (T834.setTop (mkF me_ 32 #[.val (.ref d), .val (.int 0), .val (.int 3), .val (.ref b811), .val (.int 1), .val (.ref b_834)] [(.int 1), (.ref b_834)]))
    obtain ⟨_, _, ⟨T842, L842, k842, n842⟩, -, X842, ⟨Lc842, hQ842, l842, y842, z842⟩, st842⟩ := Jvm.LawKit.callS X834 hx (y := m_19) hown (mvT hZ (t_74 hw)) (mvT hZ (t_75 hw)) (mvT hZ (t_50 hw)) (mvT hZ (t_76 hw)) (by decide) (backOf (W := 0) (rm_getc3_1 l Z a0 hw [] b_834 k_834 ((c0 >>> ((0 : Int32) &&& 31)).toInt8.toInt32) ((c0 >>> ((8 : Int32) &&& 31)).toInt8.toInt32) ((c1 >>> ((0 : Int32) &&& 31)).toInt8.toInt32) ((c1 >>> ((8 : Int32) &&& 31)).toInt8.toInt32) ((c2 >>> ((0 : Int32) &&& 31)).toInt8.toInt32) ((c2 >>> ((8 : Int32) &&& 31)).toInt8.toInt32) h834 n0 O840 u3 u4 u5 w834_1) hZ (t_76 hw) (t_50 hw) (by decide) (by decide)) (g := (mkF me_ 32 #[.val (.ref d), .val (.int 0), .val (.int 3), .val (.ref b811), .val (.int 1), .val (.ref b_834)] [(.int 1), (.ref b_834)])) rfl (by rw [hml]; rfl) (argsL := [(.ref b_834), (.int 1)]) (rest := []) (lenOf pd_4 rfl) rfl (by show 2 * 0 + _ ≤ _; exact Nat.le_of_eq rfl) (hb hby d10_32) (fun _ _ => ⟨rfl, e834, (by decide : 2 + 0 ≤ _), (by decide : 9 + 0 ≤ _)⟩)
    dsimp only [Pt.U, Pt.locs, Pt.cells, Pt.slots] at X842 l842 y842 z842 st842 hQ842
    subst l842 y842 z842
    obtain ⟨rfl, Nq842, eq842⟩ := hQ842
    have N843 := Fr.app N835 Nq842
    refine gv st842 ?_
    refine gv (fun _ kQ => XS.sipush X842.here hx rfl (hb hby d10_35) (XS.icmpYes X842.here hx rfl (pc0 := 38) (pc' := 54) rfl (hb hby d10_38) rfl (tlt (own_gcgt u1 l823)).2.2.1 (by decide) (by decide) (XS.aload X842.here hx rfl (hb hby d10_54) rfl rfl kQ))) ?_
    refine gf _ (own_ret X842 Bd.notSynchronized (v := some (.ref b_834)) (own_rv Bd.returns) ?_ (by decide) (by decide) (fun fs hr => retOut X842 hx (t := (.array .byte)) Bd.returns rfl (Or.inr (Or.inr (Or.inr (Or.inr ⟨rfl, rfl, rfl⟩)))) (hb hby d10_56) hr))
    show Q_cmpr3 Z d kd c0 c1 c2 h0 n0 _ T842.heap _
    rw [eq842]
    exact ⟨b_834, rfl, N843, K841, z838, (Or.inr ⟨k_834, w834_1⟩)⟩
  · rw [q823]
    show G (T818.setTop (mkF me_ 12 #[.val (.ref d), .val (.int 0), .val (.int 3), .val (.ref b811), .unset, .unset] [(.int 2)]))
    refine gv (fun _ kQ => XS.istore X818.here hx rfl (hb hby d10_12) rfl (l' := #[.val (.ref d), .val (.int 0), .val (.int 3), .val (.ref b811), .val (.int 2), .unset]) rfl (XS.iload X818.here hx rfl (hb hby d10_14) rfl (XS.iloadN X818.here hx rfl (hb hby d10_16) rfl (XS.icmpNo X818.here hx rfl (hb hby d10_17) rfl (feq (by decide : ¬ ((2 : Int32) = (3 : Int32)))).1 (XS.aloadN X818.here hx rfl (hb hby d10_20) rfl rfl (XS.iloadN X818.here hx rfl (hb hby d10_21) rfl (XS.iloadN X818.here hx rfl (hb hby d10_22) rfl kQ))))))) ?_
    show G (T818.setTop (mkF me_ 23 #[.val (.ref d), .val (.int 0), .val (.int 3), .val (.ref b811), .val (.int 2), .unset] [(.int 3), (.int 0), (.ref d)]))
    obtain ⟨_, _, ⟨T844, L844, k844, n844⟩, -, X844, ⟨Lc844, hQ844, l844, y844, z844⟩, st844⟩ := Jvm.LawKit.callS X818 hx (y := m_24) hown (mvT hZ (t_58 hw)) (mvT hZ (t_59 hw)) (mvT hZ (t_50 hw)) (mvT hZ (t_60 hw)) (by decide) (backOf (W := 0) (rm_utb3 l Z a0 hw [] d kd c0 c1 c2 h818 n0 O821 u3 u4 u5 f820) hZ (t_60 hw) (t_50 hw) (by decide) (by decide)) (g := (mkF me_ 23 #[.val (.ref d), .val (.int 0), .val (.int 3), .val (.ref b811), .val (.int 2), .unset] [(.int 3), (.int 0), (.ref d)])) rfl (by rw [hml]; rfl) (argsL := [(.ref d), (.int 0), (.int 3)]) (rest := []) (lenOf pd_12 rfl) rfl (by show 2 * 0 + _ ≤ _; exact Nat.le_of_eq rfl) (hb hby d10_23) (fun _ _ => ⟨rfl, e818, (by decide : 1 + 1 ≤ _), (by decide : 3 + 6 ≤ _)⟩)
    dsimp only [Pt.U, Pt.locs, Pt.cells, Pt.slots] at X844 l844 y844 z844 st844 hQ844
    subst l844 y844 z844
    obtain ⟨b_844, k_844, rfl, Nq844, Kq844, w844_0, w844_1⟩ := hQ844
    have N845 := Fr.app N819 Nq844
    obtain ⟨h844, e844⟩ : ∃ z, T844.heap = z := ⟨_, rfl⟩
    rw [e844] at Kq844 w844_1
    have z848 : h0.size ≤ b_844 := Nat.le_trans K822.1 w844_0
    have O850 := O821.keep Kq844 all0
    have K851 := K822.trans Kq844 all0
    refine gv st844 ?_
    refine gv (fun _ kQ => XS.astore X844.here hx rfl (hb hby d10_26) rfl rfl (l' := #[.val (.ref d), .val (.int 0), .val (.int 3), .val (.ref b811), .val (.int 2), .val (.ref b_844)]) rfl (XS.aload X844.here hx rfl (hb hby d10_28) rfl rfl (XS.iload X844.here hx rfl (hb hby d10_30) rfl kQ))) ?_
    show G (T844.setTop (mkF me_ 32 #[.val (.ref d), .val (.int 0), .val (.int 3), .val (.ref b811), .val (.int 2), .val (.ref b_844)] [(.int 2), (.ref b_844)]))
    obtain ⟨_, _, ⟨T852, L852, k852, n852⟩, -, X852, ⟨Lc852, hQ852, l852, y852, z852⟩, st852⟩ := Jvm.LawKit.callS X844 hx (y := m_19) hown (mvT hZ (t_74 hw)) (mvT hZ (t_75 hw)) (mvT hZ (t_50 hw)) (mvT hZ (t_76 hw)) (by decide) (backOf (W := 0) (rm_getc3_2 l Z a0 hw [] b_844 k_844 ((c0 >>> ((0 : Int32) &&& 31)).toInt8.toInt32) ((c0 >>> ((8 : Int32) &&& 31)).toInt8.toInt32) ((c1 >>> ((0 : Int32) &&& 31)).toInt8.toInt32) ((c1 >>> ((8 : Int32) &&& 31)).toInt8.toInt32) ((c2 >>> ((0 : Int32) &&& 31)).toInt8.toInt32) ((c2 >>> ((8 : Int32) &&& 31)).toInt8.toInt32) h844 n0 O850 u3 u4 u5 w844_1) hZ (t_76 hw) (t_50 hw) (by decide) (by decide)) (g := (mkF me_ 32 #[.val (.ref d), .val (.int 0), .val (.int 3), .val (.ref b811), .val (.int 2), .val (.ref b_844)] [(.int 2), (.ref b_844)])) rfl (by rw [hml]; rfl) (argsL := [(.ref b_844), (.int 2)]) (rest := []) (lenOf pd_4 rfl) rfl (by show 2 * 0 + _ ≤ _; exact Nat.le_of_eq rfl) (hb hby d10_32) (fun _ _ => ⟨rfl, e844, (by decide : 2 + 0 ≤ _), (by decide : 9 + 0 ≤ _)⟩)
    dsimp only [Pt.U, Pt.locs, Pt.cells, Pt.slots] at X852 l852 y852 z852 st852 hQ852
    subst l852 y852 z852
    obtain ⟨rfl, Nq852, eq852⟩ := hQ852
    have N853 := Fr.app N845 Nq852
    refine gv st852 ?_
    refine gv (fun _ kQ => XS.sipush X852.here hx rfl (hb hby d10_35) (XS.icmpYes X852.here hx rfl (pc0 := 38) (pc' := 54) rfl (hb hby d10_38) rfl (tlt (own_gcgt u2 l823)).2.2.1 (by decide) (by decide) (XS.aload X852.here hx rfl (hb hby d10_54) rfl rfl kQ))) ?_
    refine gf _ (own_ret X852 Bd.notSynchronized (v := some (.ref b_844)) (own_rv Bd.returns) ?_ (by decide) (by decide) (fun fs hr => retOut X852 hx (t := (.array .byte)) Bd.returns rfl (Or.inr (Or.inr (Or.inr (Or.inr ⟨rfl, rfl, rfl⟩)))) (hb hby d10_56) hr))
    show Q_cmpr3 Z d kd c0 c1 c2 h0 n0 _ T852.heap _
    rw [eq852]
    exact ⟨b_844, rfl, N853, K851, z848, (Or.inr ⟨k_844, w844_1⟩)⟩
def Q_cfal3_3 (Z : State) (b : Addr) (k : ClassId) (x0 x1 x2 : Int32) (h0 : Heap) (n0 : Nat) (v : Option Value) (h : Heap) (L : List Loc) : Prop := v = some (.int 0) ∧ Fr n0 L ∧ h = h0
theorem rm_cfal3_3 (l : Launch) (Z : State) (a0 : Array Value) (hw : own_HW Z a0) (ws : List Jvm.Cond) (b : Addr) (k : ClassId) (x0 x1 x2 : Int32) (h0 : Heap) (n0 : Nat) (O0 : Old Z n0 h0) (u0 : Arv Z h0 b k .byte (3 : Int32) [(.int x0), (.int x1), (.int x2)] (.int 0)) :
    own_Met l Z m_16 jdk_52_method_15_code 2 (some .byte) ws (own_R 0 0 0 0) #[(.ref b), (.int 3)] h0 (Q_cfal3_3 Z b k x0 x1 x2 h0 n0) := by
  refine own_open (plainFor_of_name pn_2) (fun pr_ en_ st_ me_ below meth_ co_ s₁ Bd hx hby hml hown hZ X0 e0 G gv gf => ?_)
  have N0 := Fr.nil n0
  refine gv (fun _ kQ => castTop (ef_4 me_ b (3 : Int32)) kQ) ?_
  show G (s₁.setTop (mkF me_ 0 #[.val (.ref b), .val (.int 3)] []))
  refine gv (fun _ kQ => XS.iloadN X0.here hx rfl (hb hby d12_0) rfl (XS.aloadN X0.here hx rfl (hb hby d12_1) rfl rfl kQ)) ?_
  obtain ⟨cl854, Ar854, -, S854, n854, -, -⟩ := (id u0)
  refine gv (X0.arraylength hx (by rw [e0]; exact Ar854.1) (State.isArrayOf_alike hZ.alike Ar854.2.1) (g := (mkF me_ 2 #[.val (.ref b), .val (.int 3)] [(.ref b), (.int 3)])) rfl rfl (hb hby d12_2)) ?_
  rw [len_of S854 n854]
  refine gv (fun _ kQ => XS.isub X0.here hx rfl (hb hby d12_3) rfl kQ) ?_
  show G (s₁.setTop (mkF me_ 4 #[.val (.ref b), .val (.int 3)] [(.int ((3 : Int32) - (3 : Int32)))]))
  rw [(by decide : ((3 : Int32) - (3 : Int32)) = (0 : Int32))]
  refine gv (fun _ kQ => XS.bipush X0.here hx rfl (hb hby d12_4) (XS.iushr X0.here hx rfl (hb hby d12_6) rfl kQ)) ?_
  show G (s₁.setTop (mkF me_ 7 #[.val (.ref b), .val (.int 3)] [(.int (((0 : Int32).toUInt32 >>> ((31 : Int32) &&& 31).toUInt32).toInt32))]))
  rw [(by decide : (((0 : Int32).toUInt32 >>> ((31 : Int32) &&& 31).toUInt32).toInt32) = (0 : Int32))]
  refine gv (fun _ kQ => XS.i2b X0.here hx rfl (hb hby d12_7) rfl kQ) ?_
  show G (s₁.setTop (mkF me_ 8 #[.val (.ref b), .val (.int 3)] [(.int ((0 : Int32).toInt8.toInt32))]))
  rw [(by decide : ((0 : Int32).toInt8.toInt32) = (0 : Int32))]
  refine gf _ (own_ret X0 Bd.notSynchronized (v := some (.int 0)) (own_rv Bd.returns) ?_ (by decide) (by decide) (fun fs hr => retN X0 hx (t := .byte) Bd.returns (by simp) (hb hby d12_8) hr))
  show Q_cfal3_3 Z b k x0 x1 x2 h0 n0 _ s₁.heap _
  rw [e0]
  exact ⟨rfl, N0, rfl⟩
def Q_cfal3_6 (Z : State) (b : Addr) (k : ClassId) (x0 x1 : Int32) (x2 x3 : Int32) (x4 x5 : Int32) (h0 : Heap) (n0 : Nat) (v : Option Value) (h : Heap) (L : List Loc) : Prop := v = some (.int 1) ∧ Fr n0 L ∧ h = h0
theorem rm_cfal3_6 (l : Launch) (Z : State) (a0 : Array Value) (hw : own_HW Z a0) (ws : List Jvm.Cond) (b : Addr) (k : ClassId) (x0 x1 : Int32) (x2 x3 : Int32) (x4 x5 : Int32) (h0 : Heap) (n0 : Nat) (O0 : Old Z n0 h0) (u0 : Arv Z h0 b k .byte (6 : Int32) [(.int x0), (.int x1), (.int x2), (.int x3), (.int x4), (.int x5)] (.int 0)) :
    own_Met l Z m_16 jdk_52_method_15_code 2 (some .byte) ws (own_R 0 0 0 0) #[(.ref b), (.int 3)] h0 (Q_cfal3_6 Z b k x0 x1 x2 x3 x4 x5 h0 n0) := by
  refine own_open (plainFor_of_name pn_2) (fun pr_ en_ st_ me_ below meth_ co_ s₁ Bd hx hby hml hown hZ X0 e0 G gv gf => ?_)
  have N0 := Fr.nil n0
  refine gv (fun _ kQ => castTop (ef_4 me_ b (3 : Int32)) kQ) ?_
  show G (s₁.setTop (mkF me_ 0 #[.val (.ref b), .val (.int 3)] []))
  refine gv (fun _ kQ => XS.iloadN X0.here hx rfl (hb hby d12_0) rfl (XS.aloadN X0.here hx rfl (hb hby d12_1) rfl rfl kQ)) ?_
  obtain ⟨cl855, Ar855, -, S855, n855, -, -⟩ := (id u0)
  refine gv (X0.arraylength hx (by rw [e0]; exact Ar855.1) (State.isArrayOf_alike hZ.alike Ar855.2.1) (g := (mkF me_ 2 #[.val (.ref b), .val (.int 3)] [(.ref b), (.int 3)])) rfl rfl (hb hby d12_2)) ?_
  rw [len_of S855 n855]
  refine gv (fun _ kQ => XS.isub X0.here hx rfl (hb hby d12_3) rfl kQ) ?_
  show G (s₁.setTop (mkF me_ 4 #[.val (.ref b), .val (.int 3)] [(.int ((3 : Int32) - (6 : Int32)))]))
  rw [(by decide : ((3 : Int32) - (6 : Int32)) = (-3 : Int32))]
  refine gv (fun _ kQ => XS.bipush X0.here hx rfl (hb hby d12_4) (XS.iushr X0.here hx rfl (hb hby d12_6) rfl kQ)) ?_
  show G (s₁.setTop (mkF me_ 7 #[.val (.ref b), .val (.int 3)] [(.int (((-3 : Int32).toUInt32 >>> ((31 : Int32) &&& 31).toUInt32).toInt32))]))
  rw [(by decide : (((-3 : Int32).toUInt32 >>> ((31 : Int32) &&& 31).toUInt32).toInt32) = (1 : Int32))]
  refine gv (fun _ kQ => XS.i2b X0.here hx rfl (hb hby d12_7) rfl kQ) ?_
  show G (s₁.setTop (mkF me_ 8 #[.val (.ref b), .val (.int 3)] [(.int ((1 : Int32).toInt8.toInt32))]))
  rw [(by decide : ((1 : Int32).toInt8.toInt32) = (1 : Int32))]
  refine gf _ (own_ret X0 Bd.notSynchronized (v := some (.int 1)) (own_rv Bd.returns) ?_ (by decide) (by decide) (fun fs hr => retN X0 hx (t := .byte) Bd.returns (by simp) (hb hby d12_8) hr))
  show Q_cfal3_6 Z b k x0 x1 x2 x3 x4 x5 h0 n0 _ s₁.heap _
  rw [e0]
  exact ⟨rfl, N0, rfl⟩
def Q_sciX3 (Z : State) (a d : Addr) (kd : ClassId) (c0 c1 : Int32) (c2 cs : Int32) (h0 : Heap) (n0 : Nat) (v : Option Value) (h : Heap) (L : List Loc) : Prop := v = none ∧ Fr n0 L ∧ Keep h0 h [a] ∧ (Exa Z h a "java/lang/String") ∧ (own_S3 Z h a c0 c1 c2)
theorem rm_sciX3 (l : Launch) (Z : State) (a0 : Array Value) (hw : own_HW Z a0) (ws : List Jvm.Cond) (a d : Addr) (kd : ClassId) (c0 c1 : Int32) (c2 cs : Int32) (h0 : Heap) (n0 : Nat) (O0 : Old Z n0 h0) (u0 : Sta Z Z.heap "java/lang/String" "COMPACT_STRINGS" "Z" (.int cs)) (u1 : ¬ (cs = (0 : Int32))) (u2 : Sta Z Z.heap "java/lang/StringUTF16" "$assertionsDisabled" "Z" (.int 1)) (u3 : Sta Z Z.heap "java/lang/StringUTF16" "HI_BYTE_SHIFT" "I" (.int 0)) (u4 : Sta Z Z.heap "java/lang/StringUTF16" "LO_BYTE_SHIFT" "I" (.int 8)) (u5 : nar .char c0 = c0) (u6 : nar .char c1 = c1) (u7 : nar .char c2 = c2) (u8 : Exa Z h0 a "java/lang/String") (u9 : Fld Z h0 a "java/lang/String" "value" "[B" .null) (u10 : Fld Z h0 a "java/lang/String" "coder" "B" (.int 0)) (u11 : n0 ≤ a) (u12 : Arv Z h0 d kd .char (3 : Int32) [(.int c0), (.int c1), (.int c2)] (.int 0)) (u13 : a ≠ d) :
    own_Met l Z m_7 jdk_42_method_149_code 6 none ws (own_R 4 2 9 57) #[(.ref a), (.ref d), (.int 0), (.int 3), .null] h0 (Q_sciX3 Z a d kd c0 c1 c2 cs h0 n0) := by
  refine own_open (plainFor_of_name pn_0) (fun pr_ en_ st_ me_ below meth_ co_ s₁ Bd hx hby hml hown hZ X0 e0 G gv gf => ?_)
  have hnm := (name_of_methodNamed Bd.named Bd.method).1
  have N0 := Fr.nil n0
  have K0 := Keep.refl h0 [a]
  refine gv (fun _ kQ => castTop (ef_6 me_ a d (0 : Int32) (3 : Int32)) kQ) ?_
  show G (s₁.setTop (mkF me_ 0 #[.val (.ref a), .val (.ref d), .val (.int 0), .val (.int 3), .val .null, .unset] []))
  refine gv (fun _ kQ => XS.aloadN X0.here hx rfl (hb hby d5_0) rfl rfl kQ) ?_
  obtain ⟨T856, X856, e856, st856⟩ := initO X0 hx hZ hown (t_22 hw) (t_23 hw) (t_24 hw) e0 (g := (mkF me_ 1 #[.val (.ref a), .val (.ref d), .val (.int 0), .val (.int 3), .val .null, .unset] [(.ref a)])) rfl (by rw [hml]; rfl) rfl (hb hby d5_1) (by decide) (W := 0) (by show 2 * 0 + _ ≤ _; exact Nat.le_of_eq rfl) (by decide)
  refine gv st856 ?_
  refine gv (fun _ kQ => XS.iloadN X856.here hx rfl (hb hby d5_4) rfl (XS.ifYes X856.here hx rfl (pc0 := 5) (pc' := 27) rfl (hb hby d5_5) rfl ((if0 _ _).trans (feq (by decide : ¬ ((3 : Int32) = (0 : Int32)))).2) (by decide) (by decide) kQ)) ?_
  show G (T856.setTop (mkF me_ 27 #[.val (.ref a), .val (.ref d), .val (.int 0), .val (.int 3), .val .null, .unset] []))
  obtain ⟨T857, X857, e857, st857⟩ := getS2 X856 hx hZ hown (host := "") (Or.inl (t_47 hw)) Via.refl e856 (u0.ext O0.2) (g := (mkF me_ 27 #[.val (.ref a), .val (.ref d), .val (.int 0), .val (.int 3), .val .null, .unset] [])) rfl (hb hby d5_27)
  refine gv st857 ?_
  refine gv (fun _ kQ => XS.ifNo X857.here hx rfl (hb hby d5_30) rfl ((if0 _ _).trans (feq u1).1) (XS.aloadN X857.here hx rfl (hb hby d5_33) rfl rfl (XS.iloadN X857.here hx rfl (hb hby d5_34) rfl (XS.iloadN X857.here hx rfl (hb hby d5_35) rfl kQ)))) ?_
  show G (T857.setTop (mkF me_ 36 #[.val (.ref a), .val (.ref d), .val (.int 0), .val (.int 3), .val .null, .unset] [(.int 3), (.int 0), (.ref d)]))
  obtain ⟨_, _, ⟨T858, L858, k858, n858⟩, -, X858, ⟨Lc858, hQ858, l858, y858, z858⟩, st858⟩ := Jvm.LawKit.callS X857 hx (y := m_17) hown (mvT hZ (t_48 hw)) (mvT hZ (t_49 hw)) (mvT hZ (t_50 hw)) (mvT hZ (t_51 hw)) (by decide) (backOf (W := 0) (rm_cmpr3 l Z a0 hw [] d kd c0 c1 c2 h0 n0 O0 u5 u6 u7 u2 u3 u4 u12) hZ (t_51 hw) (t_50 hw) (by decide) (by decide)) (g := (mkF me_ 36 #[.val (.ref a), .val (.ref d), .val (.int 0), .val (.int 3), .val .null, .unset] [(.int 3), (.int 0), (.ref d)])) rfl (by rw [hml]; rfl) (argsL := [(.ref d), (.int 0), (.int 3)]) (rest := []) (lenOf pd_12 rfl) rfl (by show 2 * 0 + _ ≤ _; exact Nat.le_of_eq rfl) (hb hby d5_36) (fun _ _ => ⟨rfl, e857, (by decide : 0 + 2 ≤ _), (by decide : 0 + 9 ≤ _)⟩)
  dsimp only [Pt.U, Pt.locs, Pt.cells, Pt.slots] at X858 l858 y858 z858 st858 hQ858
  subst l858 y858 z858
  obtain ⟨b_858, rfl, Nq858, Kq858, w858_0, w858_1⟩ := hQ858
  have N859 := Fr.app N0 Nq858
  obtain ⟨h858, e858⟩ : ∃ z, T858.heap = z := ⟨_, rfl⟩
  rw [e858] at Kq858 w858_1
  have ne860 : a ≠ b_858 := Nat.ne_of_lt (Nat.lt_of_lt_of_le u8.lt w858_0)
  have f864 := u8.keep Kq858
  have f865 := u9.keep Kq858 nin0
  have f866 := u10.keep Kq858 nin0
  have O868 := O0.keep Kq858 all0
  have K869 := K0.trans Kq858 all0
  refine gv st858 ?_
  rcases w858_1 with ⟨k870, A870, l870_0, l870_1, l870_2⟩ | ⟨k870, A870⟩
  · skip
    refine gv (fun _ kQ => XS.astore X858.here hx rfl (hb hby d5_39) rfl rfl (l' := #[.val (.ref a), .val (.ref d), .val (.int 0), .val (.int 3), .val .null, .val (.ref b_858)]) rfl (XS.aloadN X858.here hx rfl (hb hby d5_41) rfl rfl (XS.aload X858.here hx rfl (hb hby d5_42) rfl rfl (XS.iloadN X858.here hx rfl (hb hby d5_44) rfl kQ)))) ?_
    show G (T858.setTop (mkF me_ 45 #[.val (.ref a), .val (.ref d), .val (.int 0), .val (.int 3), .val .null, .val (.ref b_858)] [(.int 3), (.ref b_858), (.ref a)]))
    obtain ⟨_, _, ⟨T871, L871, k871, n871⟩, -, X871, ⟨Lc871, hQ871, l871, y871, z871⟩, st871⟩ := Jvm.LawKit.callS X858 hx (y := m_16) hown (mvT hZ (t_55 hw)) (mvT hZ (t_56 hw)) (mvT hZ (t_50 hw)) (mvT hZ (t_57 hw)) (by decide) (backOf (W := 1) (rm_cfal3_3 l Z a0 hw [] b_858 k870 (c0.toInt8.toInt32) (c1.toInt8.toInt32) (c2.toInt8.toInt32) h858 n0 O868 A870) hZ (t_57 hw) (t_50 hw) (by decide) (by decide)) (g := (mkF me_ 45 #[.val (.ref a), .val (.ref d), .val (.int 0), .val (.int 3), .val .null, .val (.ref b_858)] [(.int 3), (.ref b_858), (.ref a)])) rfl (by rw [hml]; rfl) (argsL := [(.ref b_858), (.int 3)]) (rest := [(.ref a)]) (lenOf pd_13 rfl) rfl (by show 2 * 0 + _ ≤ _; exact Nat.le_of_eq rfl) (hb hby d5_45) (fun _ _ => ⟨rfl, e858, (by decide : 2 + 0 ≤ _), (by decide : 9 + 0 ≤ _)⟩)
    dsimp only [Pt.U, Pt.locs, Pt.cells, Pt.slots] at X871 l871 y871 z871 st871 hQ871
    subst l871 y871 z871
    obtain ⟨rfl, Nq871, eq871⟩ := hQ871
    have N872 := Fr.app N859 Nq871
    refine gv st871 ?_
    obtain ⟨T873, h873, X873, e873, W873, st873⟩ := putFN X871 hx hZ hown (t_32 hw) Via.refl eq871 f866 f864 (Or.inr ⟨(t_28 hw), rfl, hnm⟩) (t_12 hw) (ty := .byte) (v' := (.int 0)) (by decide) rfl rfl (g := (mkF me_ 48 #[.val (.ref a), .val (.ref d), .val (.int 0), .val (.int 3), .val .null, .val (.ref b_858)] [(.int 0), (.ref a)])) rfl rfl (hb hby d5_48)
    refine gv st873 ?_
    have f875 := f864.wr W873
    have f876 := f865.other W873 (Or.inr (slot_ne (Or.inr (t_27 hw)) (Or.inr (t_28 hw)) (by decide) (t := (.array .byte)) (t' := .byte) (by decide) (by decide)))
    have f878 := A870.other W873 (Ne.symm ne860)
    have K880 := K869.wr W873 (Or.inl (List.mem_of_getElem? (i := 0) rfl))
    have N881 := Fr.snoc X873 N872 u11
    have f874 : Fld Z h873 a "java/lang/String" "coder" "B" (.int 0) := f866.same W873
    refine gv (fun _ kQ => XS.aloadN X873.here hx rfl (hb hby d5_51) rfl rfl (XS.aload X873.here hx rfl (hb hby d5_52) rfl rfl kQ)) ?_
    show G (T873.setTop (mkF me_ 54 #[.val (.ref a), .val (.ref d), .val (.int 0), .val (.int 3), .val .null, .val (.ref b_858)] [(.ref b_858), (.ref a)]))
    obtain ⟨T882, h882, X882, e882, W882, st882⟩ := putF X873 hx hZ hown (host := "") (Or.inl (t_31 hw)) Via.refl e873 f876 f875 (Or.inr ⟨(t_27 hw), rfl, hnm⟩) (t_12 hw) (ty := (.array .byte)) (by decide) rfl rfl (g := (mkF me_ 54 #[.val (.ref a), .val (.ref d), .val (.int 0), .val (.int 3), .val .null, .val (.ref b_858)] [(.ref b_858), (.ref a)])) rfl rfl (hb hby d5_54)
    refine gv st882 ?_
    have f884 := f875.wr W882
    have f885 := f874.other W882 (Or.inr (slot_ne (Or.inr (t_28 hw)) (Or.inr (t_27 hw)) (by decide) (t := .byte) (t' := (.array .byte)) (by decide) (by decide)))
    have f887 := f878.other W882 (Ne.symm ne860)
    have K889 := K880.wr W882 (Or.inl (List.mem_of_getElem? (i := 0) rfl))
    have N890 := Fr.snoc X882 N881 u11
    have f883 : Fld Z h882 a "java/lang/String" "value" "[B" (.ref b_858) := f876.same W882
    refine gf _ (own_ret X882 Bd.notSynchronized (v := none) (fun _ => rfl) ?_ (by decide) (by decide) (fun fs hr => X882.returnOut hx Bd.returns (hb hby d5_57) hr))
    show Q_sciX3 Z a d kd c0 c1 c2 cs h0 n0 _ T882.heap _
    rw [e882]
    exact ⟨rfl, N890, K889, f884, ⟨Or.inl ⟨b_858, k870, f884, f885, f883, f887, l870_0, l870_1, l870_2⟩, u5, u6, u7⟩⟩
  · skip
    refine gv (fun _ kQ => XS.astore X858.here hx rfl (hb hby d5_39) rfl rfl (l' := #[.val (.ref a), .val (.ref d), .val (.int 0), .val (.int 3), .val .null, .val (.ref b_858)]) rfl (XS.aloadN X858.here hx rfl (hb hby d5_41) rfl rfl (XS.aload X858.here hx rfl (hb hby d5_42) rfl rfl (XS.iloadN X858.here hx rfl (hb hby d5_44) rfl kQ)))) ?_
    show G (T858.setTop (mkF me_ 45 #[.val (.ref a), .val (.ref d), .val (.int 0), .val (.int 3), .val .null, .val (.ref b_858)] [(.int 3), (.ref b_858), (.ref a)]))
    obtain ⟨_, _, ⟨T891, L891, k891, n891⟩, -, X891, ⟨Lc891, hQ891, l891, y891, z891⟩, st891⟩ := Jvm.LawKit.callS X858 hx (y := m_16) hown (mvT hZ (t_55 hw)) (mvT hZ (t_56 hw)) (mvT hZ (t_50 hw)) (mvT hZ (t_57 hw)) (by decide) (backOf (W := 1) (rm_cfal3_6 l Z a0 hw [] b_858 k870 ((c0 >>> ((0 : Int32) &&& 31)).toInt8.toInt32) ((c0 >>> ((8 : Int32) &&& 31)).toInt8.toInt32) ((c1 >>> ((0 : Int32) &&& 31)).toInt8.toInt32) ((c1 >>> ((8 : Int32) &&& 31)).toInt8.toInt32) ((c2 >>> ((0 : Int32) &&& 31)).toInt8.toInt32) ((c2 >>> ((8 : Int32) &&& 31)).toInt8.toInt32) h858 n0 O868 A870) hZ (t_57 hw) (t_50 hw) (by decide) (by decide)) (g := (mkF me_ 45 #[.val (.ref a), .val (.ref d), .val (.int 0), .val (.int 3), .val .null, .val (.ref b_858)] [(.int 3), (.ref b_858), (.ref a)])) rfl (by rw [hml]; rfl) (argsL := [(.ref b_858), (.int 3)]) (rest := [(.ref a)]) (lenOf pd_13 rfl) rfl (by show 2 * 0 + _ ≤ _; exact Nat.le_of_eq rfl) (hb hby d5_45) (fun _ _ => ⟨rfl, e858, (by decide : 2 + 0 ≤ _), (by decide : 9 + 0 ≤ _)⟩)
    dsimp only [Pt.U, Pt.locs, Pt.cells, Pt.slots] at X891 l891 y891 z891 st891 hQ891
    subst l891 y891 z891
    obtain ⟨rfl, Nq891, eq891⟩ := hQ891
    have N892 := Fr.app N859 Nq891
    refine gv st891 ?_
    obtain ⟨T893, h893, X893, e893, W893, st893⟩ := putFN X891 hx hZ hown (t_32 hw) Via.refl eq891 f866 f864 (Or.inr ⟨(t_28 hw), rfl, hnm⟩) (t_12 hw) (ty := .byte) (v' := (.int 1)) (by decide) rfl rfl (g := (mkF me_ 48 #[.val (.ref a), .val (.ref d), .val (.int 0), .val (.int 3), .val .null, .val (.ref b_858)] [(.int 1), (.ref a)])) rfl rfl (hb hby d5_48)
    refine gv st893 ?_
    have f895 := f864.wr W893
    have f896 := f865.other W893 (Or.inr (slot_ne (Or.inr (t_27 hw)) (Or.inr (t_28 hw)) (by decide) (t := (.array .byte)) (t' := .byte) (by decide) (by decide)))
    have f898 := A870.other W893 (Ne.symm ne860)
    have K900 := K869.wr W893 (Or.inl (List.mem_of_getElem? (i := 0) rfl))
    have N901 := Fr.snoc X893 N892 u11
    have f894 : Fld Z h893 a "java/lang/String" "coder" "B" (.int 1) := f866.same W893
    refine gv (fun _ kQ => XS.aloadN X893.here hx rfl (hb hby d5_51) rfl rfl (XS.aload X893.here hx rfl (hb hby d5_52) rfl rfl kQ)) ?_
    show G (T893.setTop (mkF me_ 54 #[.val (.ref a), .val (.ref d), .val (.int 0), .val (.int 3), .val .null, .val (.ref b_858)] [(.ref b_858), (.ref a)]))
    obtain ⟨T902, h902, X902, e902, W902, st902⟩ := putF X893 hx hZ hown (host := "") (Or.inl (t_31 hw)) Via.refl e893 f896 f895 (Or.inr ⟨(t_27 hw), rfl, hnm⟩) (t_12 hw) (ty := (.array .byte)) (by decide) rfl rfl (g := (mkF me_ 54 #[.val (.ref a), .val (.ref d), .val (.int 0), .val (.int 3), .val .null, .val (.ref b_858)] [(.ref b_858), (.ref a)])) rfl rfl (hb hby d5_54)
    refine gv st902 ?_
    have f904 := f895.wr W902
    have f905 := f894.other W902 (Or.inr (slot_ne (Or.inr (t_28 hw)) (Or.inr (t_27 hw)) (by decide) (t := .byte) (t' := (.array .byte)) (by decide) (by decide)))
    have f907 := f898.other W902 (Ne.symm ne860)
    have K909 := K900.wr W902 (Or.inl (List.mem_of_getElem? (i := 0) rfl))
    have N910 := Fr.snoc X902 N901 u11
    have f903 : Fld Z h902 a "java/lang/String" "value" "[B" (.ref b_858) := f896.same W902
    refine gf _ (own_ret X902 Bd.notSynchronized (v := none) (fun _ => rfl) ?_ (by decide) (by decide) (fun fs hr => X902.returnOut hx Bd.returns (hb hby d5_57) hr))
    show Q_sciX3 Z a d kd c0 c1 c2 cs h0 n0 _ T902.heap _
    rw [e902]
    exact ⟨rfl, N910, K909, f904, ⟨Or.inr ⟨b_858, k870, f904, f905, f903, f907⟩, u5, u6, u7⟩⟩
def Q_scX3 (Z : State) (a d : Addr) (kd : ClassId) (c0 c1 : Int32) (c2 cs : Int32) (h0 : Heap) (n0 : Nat) (v : Option Value) (h : Heap) (L : List Loc) : Prop := v = none ∧ Fr n0 L ∧ Keep h0 h [a] ∧ (Exa Z h a "java/lang/String") ∧ (own_S3 Z h a c0 c1 c2)
theorem rm_scX3 (l : Launch) (Z : State) (a0 : Array Value) (hw : own_HW Z a0) (ws : List Jvm.Cond) (a d : Addr) (kd : ClassId) (c0 c1 : Int32) (c2 cs : Int32) (h0 : Heap) (n0 : Nat) (O0 : Old Z n0 h0) (u0 : Sta Z Z.heap "java/lang/String" "COMPACT_STRINGS" "Z" (.int cs)) (u1 : ¬ (cs = (0 : Int32))) (u2 : Sta Z Z.heap "java/lang/StringUTF16" "$assertionsDisabled" "Z" (.int 1)) (u3 : Sta Z Z.heap "java/lang/StringUTF16" "HI_BYTE_SHIFT" "I" (.int 0)) (u4 : Sta Z Z.heap "java/lang/StringUTF16" "LO_BYTE_SHIFT" "I" (.int 8)) (u5 : nar .char c0 = c0) (u6 : nar .char c1 = c1) (u7 : nar .char c2 = c2) (u8 : Exa Z h0 a "java/lang/String") (u9 : Fld Z h0 a "java/lang/String" "value" "[B" .null) (u10 : Fld Z h0 a "java/lang/String" "coder" "B" (.int 0)) (u11 : n0 ≤ a) (u12 : Arv Z h0 d kd .char (3 : Int32) [(.int c0), (.int c1), (.int c2)] (.int 0)) (u13 : a ≠ d) :
    own_Met l Z m_6 jdk_42_method_3_code 2 none ws (own_R 5 2 9 74) #[(.ref a), (.ref d)] h0 (Q_scX3 Z a d kd c0 c1 c2 cs h0 n0) := by
  refine own_open (plainFor_of_name pn_0) (fun pr_ en_ st_ me_ below meth_ co_ s₁ Bd hx hby hml hown hZ X0 e0 G gv gf => ?_)
  have N0 := Fr.nil n0
  have K0 := Keep.refl h0 [a]
  refine gv (fun _ kQ => castTop (ef_7 me_ a d) kQ) ?_
  show G (s₁.setTop (mkF me_ 0 #[.val (.ref a), .val (.ref d)] []))
  refine gv (fun _ kQ => XS.aloadN X0.here hx rfl (hb hby d4_0) rfl rfl (XS.aloadN X0.here hx rfl (hb hby d4_1) rfl rfl (XS.iconst X0.here hx rfl (hb hby d4_2) (XS.aloadN X0.here hx rfl (hb hby d4_3) rfl rfl kQ)))) ?_
  show G (s₁.setTop (mkF me_ 4 #[.val (.ref a), .val (.ref d)] [(.ref d), (.int 0), (.ref d), (.ref a)]))
  obtain ⟨cl911, Ar911, -, S911, n911, -, -⟩ := (id u12)
  refine gv (X0.arraylength hx (by rw [e0]; exact Ar911.1) (State.isArrayOf_alike hZ.alike Ar911.2.1) (g := (mkF me_ 4 #[.val (.ref a), .val (.ref d)] [(.ref d), (.int 0), (.ref d), (.ref a)])) rfl rfl (hb hby d4_4)) ?_
  rw [len_of S911 n911]
  refine gv (fun _ kQ => XS.aconstNull X0.here hx rfl (hb hby d4_5) kQ) ?_
  obtain ⟨_, _, ⟨T912, L912, k912, n912⟩, -, X912, ⟨Lc912, hQ912, l912, y912, z912⟩, st912⟩ := X0.specialBack hx (y := m_7) rfl hown (mvT hZ (t_18 hw)) (mvT hZ (t_19 hw)) (mvT hZ (t_21 hw)) (by decide) (backOf (W := 0) (rm_sciX3 l Z a0 hw [] a d kd c0 c1 c2 cs h0 n0 O0 u0 u1 u2 u3 u4 u5 u6 u7 u8 u9 u10 u11 u12 u13) hZ (t_21 hw) (t_13 hw) (by decide) (by decide)) (g := (mkF me_ 6 #[.val (.ref a), .val (.ref d)] [.null, (.int 3), (.int 0), (.ref d), (.ref a)])) rfl (by rw [hml]; rfl) (Steps.refl _) (a := a) (argsL := [(.ref d), (.int 0), (.int 3), .null]) (rest := []) (lenOf pd_7 rfl) rfl (by show 2 * 0 + _ ≤ _; exact Nat.le_of_eq rfl) (hb hby d4_6) (fun _ _ => ⟨rfl, e0, (by decide : 0 + 2 ≤ _), (by decide : 0 + 9 ≤ _)⟩)
  dsimp only [Pt.U, Pt.locs, Pt.cells, Pt.slots] at X912 l912 y912 z912 st912 hQ912
  subst l912 y912 z912
  obtain ⟨rfl, Nq912, Kq912, w912_0, w912_1⟩ := hQ912
  have N913 := Fr.app N0 Nq912
  obtain ⟨h912, e912⟩ : ∃ z, T912.heap = z := ⟨_, rfl⟩
  rw [e912] at Kq912 w912_0 w912_1
  have K917 := K0.trans Kq912 (allS (Or.inl (List.mem_of_getElem? (i := 0) rfl)) all0)
  refine gv (fun _ kQ => st912.trans kQ) ?_
  refine gf _ (own_ret X912 Bd.notSynchronized (v := none) (fun _ => rfl) ?_ (by decide) (by decide) (fun fs hr => X912.returnOut hx Bd.returns (hb hby d4_9) hr))
  show Q_scX3 Z a d kd c0 c1 c2 cs h0 n0 _ T912.heap _
  rw [e912]
  exact ⟨rfl, N913, K917, w912_0, w912_1⟩
def Q_nbl4 (Z : State)  (h0 : Heap) (n0 : Nat) (v : Option Value) (h : Heap) (L : List Loc) : Prop := v = some (.int 8) ∧ Fr n0 L ∧ h = h0
theorem rm_nbl4 (l : Launch) (Z : State) (a0 : Array Value) (hw : own_HW Z a0) (ws : List Jvm.Cond)  (h0 : Heap) (n0 : Nat) (O0 : Old Z n0 h0)  :
    own_Met l Z m_22 jdk_52_method_3_code 1 (some .int) ws (own_R 0 0 0 0) #[(.int 4)] h0 (Q_nbl4 Z  h0 n0) := by
  refine own_open (plainFor_of_name pn_2) (fun pr_ en_ st_ me_ below meth_ co_ s₁ Bd hx hby hml hown hZ X0 e0 G gv gf => ?_)
  have N0 := Fr.nil n0
  refine gv (fun _ kQ => castTop (ef_8 me_ (4 : Int32)) kQ) ?_
  show G (s₁.setTop (mkF me_ 0 #[.val (.int 4)] []))
  refine gv (fun _ kQ => XS.iloadN X0.here hx rfl (hb hby d15_0) rfl (XS.ifYes X0.here hx rfl (pc0 := 1) (pc' := 12) rfl (hb hby d15_1) rfl ((if0 _ _).trans (flt (by decide : ¬ ((4 : Int32) < (0 : Int32)))).2.1) (by decide) (by decide) (XS.iloadN X0.here hx rfl (hb hby d15_12) rfl kQ))) ?_
  show G (s₁.setTop (mkF me_ 13 #[.val (.int 4)] [(.int 4)]))
  refine gv (X0.ldcInt hx hown (mvT hZ (t_67 hw)) (g := (mkF me_ 13 #[.val (.int 4)] [(.int 4)])) rfl (hb hby d15_13)) ?_
  show G (s₁.setTop (mkF me_ 15 #[.val (.int 4)] [(.int 1073741823), (.int 4)]))
  refine gv (fun _ kQ => XS.icmpYes X0.here hx rfl (pc0 := 15) (pc' := 55) rfl (hb hby d15_15) rfl (tlt (by decide : (4 : Int32) < (1073741823 : Int32))).1 (by decide) (by decide) (XS.iloadN X0.here hx rfl (hb hby d15_55) rfl (XS.iconst X0.here hx rfl (hb hby d15_56) (XS.ishl X0.here hx rfl (hb hby d15_57) rfl kQ)))) ?_
  show G (s₁.setTop (mkF me_ 58 #[.val (.int 4)] [(.int ((4 : Int32) <<< ((1 : Int32) &&& 31)))]))
  rw [(by decide : ((4 : Int32) <<< ((1 : Int32) &&& 31)) = (8 : Int32))]
  refine gf _ (own_ret X0 Bd.notSynchronized (v := some (.int 8)) (own_rv Bd.returns) ?_ (by decide) (by decide) (fun fs hr => retOut X0 hx (t := .int) Bd.returns rfl (Or.inl ⟨rfl, Or.inl rfl, _, rfl⟩) (hb hby d15_58) hr))
  show Q_nbl4 Z  h0 n0 _ s₁.heap _
  rw [e0]
  exact ⟨rfl, N0, rfl⟩
def Q_nbf4 (Z : State)  (h0 : Heap) (n0 : Nat) (v : Option Value) (h : Heap) (L : List Loc) : Prop := ∃ (b : Addr), ∃ (k : ClassId), v = some (.ref b) ∧ Fr n0 L ∧ Keep h0 h [] ∧ h0.size ≤ b ∧ (Arv Z h b k .byte (8 : Int32) [(.int 0), (.int 0), (.int 0), (.int 0), (.int 0), (.int 0), (.int 0), (.int 0)] (.int 0))
theorem rm_nbf4 (l : Launch) (Z : State) (a0 : Array Value) (hw : own_HW Z a0) (ws : List Jvm.Cond)  (h0 : Heap) (n0 : Nat) (O0 : Old Z n0 h0)  :
    own_Met l Z m_21 jdk_52_method_2_code 1 (some (.array .byte)) ws (own_R 1 1 8 12) #[(.int 4)] h0 (Q_nbf4 Z  h0 n0) := by
  refine own_open (plainFor_of_name pn_2) (fun pr_ en_ st_ me_ below meth_ co_ s₁ Bd hx hby hml hown hZ X0 e0 G gv gf => ?_)
  have N0 := Fr.nil n0
  have K0 := Keep.refl h0 []
  refine gv (fun _ kQ => castTop (ef_8 me_ (4 : Int32)) kQ) ?_
  show G (s₁.setTop (mkF me_ 0 #[.val (.int 4)] []))
  refine gv (fun _ kQ => XS.iloadN X0.here hx rfl (hb hby d14_0) rfl kQ) ?_
  obtain ⟨_, _, ⟨T918, L918, k918, n918⟩, -, X918, ⟨Lc918, hQ918, l918, y918, z918⟩, st918⟩ := Jvm.LawKit.callS X0 hx (y := m_22) hown (mvT hZ (t_64 hw)) (mvT hZ (t_65 hw)) (mvT hZ (t_50 hw)) (mvT hZ (t_66 hw)) (by decide) (backOf (W := 0) (rm_nbl4 l Z a0 hw []  h0 n0 O0 ) hZ (t_66 hw) (t_50 hw) (by decide) (by decide)) (g := (mkF me_ 1 #[.val (.int 4)] [(.int 4)])) rfl (by rw [hml]; rfl) (argsL := [(.int 4)]) (rest := []) (lenOf pd_8 rfl) rfl (by show 2 * 0 + _ ≤ _; exact Nat.le_of_eq rfl) (hb hby d14_1) (fun _ _ => ⟨rfl, e0, (by decide : 0 + 0 ≤ _), (by decide : 0 + 0 ≤ _)⟩)
  dsimp only [Pt.U, Pt.locs, Pt.cells, Pt.slots] at X918 l918 y918 z918 st918 hQ918
  subst l918 y918 z918
  obtain ⟨rfl, Nq918, eq918⟩ := hQ918
  have N919 := Fr.app N0 Nq918
  refine gv st918 ?_
  obtain ⟨T920, h920, k920, X920, e920, E920, A920, st920⟩ := newP X918 hx hZ (hw _ (List.mem_of_getElem? (i := 26) rfl)) eq918 (g := (mkF me_ 4 #[.val (.int 4)] [(.int 8)])) rfl (hb hby d14_4) rfl (by decide) (cap := 8) (by decide) (by decide) (by decide) (by decide)
  obtain ⟨b920, g920⟩ : ∃ z, z = h0.size := ⟨_, rfl⟩
  rw [← g920] at A920 st920
  refine gv st920 ?_
  have z922 : h0.size ≤ b920 := Nat.le_trans K0.1 (Nat.le_of_eq g920.symm)
  have K924 := K0.ext E920
  have V920 : Arv Z h920 b920 k920 .byte (8 : Int32) [(.int 0), (.int 0), (.int 0), (.int 0), (.int 0), (.int 0), (.int 0), (.int 0)] (.int 0) := (Arv.new A920 (by decide)).pad (pad_rep [] (.int 0) 8)
  refine gf _ (own_ret X920 Bd.notSynchronized (v := some (.ref b920)) (own_rv Bd.returns) ?_ (by decide) (by decide) (fun fs hr => retOut X920 hx (t := (.array .byte)) Bd.returns rfl (Or.inr (Or.inr (Or.inr (Or.inr ⟨rfl, rfl, rfl⟩)))) (hb hby d14_6) hr))
  show Q_nbf4 Z  h0 n0 _ T920.heap _
  rw [e920]
  exact ⟨b920, k920, rfl, N919, K924, z922, V920⟩
def Q_utb4 (Z : State) (d : Addr) (kd : ClassId) (c0 c1 : Int32) (c2 c3 : Int32) (h0 : Heap) (n0 : Nat) (v : Option Value) (h : Heap) (L : List Loc) : Prop := ∃ (b : Addr), ∃ (k : ClassId), v = some (.ref b) ∧ Fr n0 L ∧ Keep h0 h [] ∧ h0.size ≤ b ∧ (Arv Z h b k .byte (8 : Int32) [(.int ((c0 >>> ((0 : Int32) &&& 31)).toInt8.toInt32)), (.int ((c0 >>> ((8 : Int32) &&& 31)).toInt8.toInt32)), (.int ((c1 >>> ((0 : Int32) &&& 31)).toInt8.toInt32)), (.int ((c1 >>> ((8 : Int32) &&& 31)).toInt8.toInt32)), (.int ((c2 >>> ((0 : Int32) &&& 31)).toInt8.toInt32)), (.int ((c2 >>> ((8 : Int32) &&& 31)).toInt8.toInt32)), (.int ((c3 >>> ((0 : Int32) &&& 31)).toInt8.toInt32)), (.int ((c3 >>> ((8 : Int32) &&& 31)).toInt8.toInt32))] (.int 0))
theorem rm_utb4 (l : Launch) (Z : State) (a0 : Array Value) (hw : own_HW Z a0) (ws : List Jvm.Cond) (d : Addr) (kd : ClassId) (c0 c1 : Int32) (c2 c3 : Int32) (h0 : Heap) (n0 : Nat) (O0 : Old Z n0 h0) (u0 : Sta Z Z.heap "java/lang/StringUTF16" "$assertionsDisabled" "Z" (.int 1)) (u1 : Sta Z Z.heap "java/lang/StringUTF16" "HI_BYTE_SHIFT" "I" (.int 0)) (u2 : Sta Z Z.heap "java/lang/StringUTF16" "LO_BYTE_SHIFT" "I" (.int 8)) (u3 : Arv Z h0 d kd .char (4 : Int32) [(.int c0), (.int c1), (.int c2), (.int c3)] (.int 0)) :
    own_Met l Z m_24 jdk_52_method_14_code 5 (some (.array .byte)) ws (own_R 2 1 8 24) #[(.ref d), (.int 0), (.int 4)] h0 (Q_utb4 Z d kd c0 c1 c2 c3 h0 n0) := by
  refine own_open (plainFor_of_name pn_2) (fun pr_ en_ st_ me_ below meth_ co_ s₁ Bd hx hby hml hown hZ X0 e0 G gv gf => ?_)
  have N0 := Fr.nil n0
  have K0 := Keep.refl h0 []
  refine gv (fun _ kQ => castTop (ef_9 me_ d (0 : Int32) (4 : Int32)) kQ) ?_
  show G (s₁.setTop (mkF me_ 0 #[.val (.ref d), .val (.int 0), .val (.int 4), .unset, .unset] []))
  refine gv (fun _ kQ => XS.iloadN X0.here hx rfl (hb hby d13_0) rfl kQ) ?_
  obtain ⟨_, _, ⟨T925, L925, k925, n925⟩, -, X925, ⟨Lc925, hQ925, l925, y925, z925⟩, st925⟩ := Jvm.LawKit.callS X0 hx (y := m_21) hown (mvT hZ (t_61 hw)) (mvT hZ (t_62 hw)) (mvT hZ (t_50 hw)) (mvT hZ (t_63 hw)) (by decide) (backOf (W := 0) (rm_nbf4 l Z a0 hw []  h0 n0 O0 ) hZ (t_63 hw) (t_50 hw) (by decide) (by decide)) (g := (mkF me_ 1 #[.val (.ref d), .val (.int 0), .val (.int 4), .unset, .unset] [(.int 4)])) rfl (by rw [hml]; rfl) (argsL := [(.int 4)]) (rest := []) (lenOf pd_9 rfl) rfl (by show 2 * 0 + _ ≤ _; exact Nat.le_of_eq rfl) (hb hby d13_1) (fun _ _ => ⟨rfl, e0, (by decide : 0 + 1 ≤ _), (by decide : 0 + 8 ≤ _)⟩)
  dsimp only [Pt.U, Pt.locs, Pt.cells, Pt.slots] at X925 l925 y925 z925 st925 hQ925
  subst l925 y925 z925
  obtain ⟨b_925, k_925, rfl, Nq925, Kq925, w925_0, w925_1⟩ := hQ925
  have N926 := Fr.app N0 Nq925
  obtain ⟨h925, e925⟩ : ∃ z, T925.heap = z := ⟨_, rfl⟩
  rw [e925] at Kq925 w925_1
  have ne927 : d ≠ b_925 := Nat.ne_of_lt (Nat.lt_of_lt_of_le u3.lt w925_0)
  have g928 : n0 ≤ b_925 := Nat.le_trans (own_old O0) w925_0
  have z929 : h0.size ≤ b_925 := Nat.le_trans K0.1 w925_0
  have f930 := u3.keep Kq925 nin0
  have O931 := O0.keep Kq925 all0
  have K932 := K0.trans Kq925 all0
  refine gv st925 ?_
  refine gv (fun _ kQ => XS.astoreN X925.here hx rfl (hb hby d13_4) rfl rfl (l' := #[.val (.ref d), .val (.int 0), .val (.int 4), .val (.ref b_925), .unset]) rfl (XS.iconst X925.here hx rfl (hb hby d13_5) (XS.istore X925.here hx rfl (hb hby d13_6) rfl (l' := #[.val (.ref d), .val (.int 0), .val (.int 4), .val (.ref b_925), .val (.int 0)]) rfl (XS.iload X925.here hx rfl (hb hby d13_8) rfl (XS.iloadN X925.here hx rfl (hb hby d13_10) rfl (XS.icmpNo X925.here hx rfl (hb hby d13_11) rfl (tlt (by decide : (0 : Int32) < (4 : Int32))).2.1 (XS.aloadN X925.here hx rfl (hb hby d13_14) rfl rfl (XS.iload X925.here hx rfl (hb hby d13_15) rfl kQ)))))))) ?_
  show G (T925.setTop (mkF me_ 17 #[.val (.ref d), .val (.int 0), .val (.int 4), .val (.ref b_925), .val (.int 0)] [(.int 0), (.ref b_925)]))
  refine gv (fun _ kQ => XS.aloadN X925.here hx rfl (hb hby d13_17) rfl rfl (XS.iloadN X925.here hx rfl (hb hby d13_18) rfl kQ)) ?_
  obtain ⟨cl933, Ar933, q933, S933, n933, H933, G933⟩ := (id f930)
  have in933 : ¬ ((0 : Int32) < 0 ∨ cl933.slots.size ≤ ((0 : Int32)).toNatClampNeg) := inb_of S933 ⟨by decide, by decide⟩
  refine gv (X925.caload hx (j := (0 : Int32)) (v := (.int c0)) (by rw [e925]; exact Ar933.1) (State.isArrayOf_alike hZ.alike Ar933.2.1) Ar933.2.2 in933 (Has.at H933 in933 rfl) (g := (mkF me_ 19 #[.val (.ref d), .val (.int 0), .val (.int 4), .val (.ref b_925), .val (.int 0)] [(.int 0), (.ref d), (.int 0), (.ref b_925)])) rfl rfl (hb hby d13_19)) ?_
  show G (T925.setTop (mkF me_ 20 #[.val (.ref d), .val (.int 0), .val (.int 4), .val (.ref b_925), .val (.int 0)] [(.int c0), (.int 0), (.ref b_925)]))
  obtain ⟨_, _, ⟨T934, L934, k934, n934⟩, -, X934, ⟨Lc934, hQ934, l934, y934, z934⟩, st934⟩ := Jvm.LawKit.callS X925 hx (y := m_23) hown (mvT hZ (t_68 hw)) (mvT hZ (t_69 hw)) (mvT hZ (t_50 hw)) (mvT hZ (t_70 hw)) (by decide) (backOf (W := 0) (rm_put8_0 l Z a0 hw [] b_925 c0 k_925 (0 : Int32) (0 : Int32) (0 : Int32) (0 : Int32) (0 : Int32) (0 : Int32) (0 : Int32) (0 : Int32) h925 n0 O931 u0 u1 u2 w925_1 g928) hZ (t_70 hw) (t_50 hw) (by decide) (by decide)) (g := (mkF me_ 20 #[.val (.ref d), .val (.int 0), .val (.int 4), .val (.ref b_925), .val (.int 0)] [(.int c0), (.int 0), (.ref b_925)])) rfl (by rw [hml]; rfl) (argsL := [(.ref b_925), (.int 0), (.int c0)]) (rest := []) (lenOf pd_10 rfl) rfl (by show 2 * 0 + _ ≤ _; exact Nat.le_of_eq rfl) (hb hby d13_20) (fun _ _ => ⟨rfl, e925, (by decide : 1 + 0 ≤ _), (by decide : 8 + 0 ≤ _)⟩)
  dsimp only [Pt.U, Pt.locs, Pt.cells, Pt.slots] at X934 l934 y934 z934 st934 hQ934
  subst l934 y934 z934
  obtain ⟨rfl, Nq934, Kq934, w934_0⟩ := hQ934
  have N935 := Fr.app N926 Nq934
  obtain ⟨h934, e934⟩ : ∃ z, T934.heap = z := ⟨_, rfl⟩
  rw [e934] at Kq934 w934_0
  have f936 := f930.keep Kq934 (ninS ne927 nin0)
  have O937 := O931.keep Kq934 (allS g928 all0)
  have K938 := K932.trans Kq934 (allS (Or.inr z929) all0)
  refine gv st934 ?_
  refine gv (fun _ kQ => XS.iinc X934.here hx rfl (hb hby d13_23) rfl (l' := #[.val (.ref d), .val (.int ((0 : Int32) + (1 : Int32))), .val (.int 4), .val (.ref b_925), .val (.int 0)]) rfl kQ) ?_
  show G (T934.setTop (mkF me_ 26 #[.val (.ref d), .val (.int ((0 : Int32) + (1 : Int32))), .val (.int 4), .val (.ref b_925), .val (.int 0)] []))
  rw [(by decide : ((0 : Int32) + (1 : Int32)) = (1 : Int32))]
  refine gv (fun _ kQ => XS.iinc X934.here hx rfl (hb hby d13_26) rfl (l' := #[.val (.ref d), .val (.int 1), .val (.int 4), .val (.ref b_925), .val (.int ((0 : Int32) + (1 : Int32)))]) rfl kQ) ?_
  show G (T934.setTop (mkF me_ 29 #[.val (.ref d), .val (.int 1), .val (.int 4), .val (.ref b_925), .val (.int ((0 : Int32) + (1 : Int32)))] []))
  rw [(by decide : ((0 : Int32) + (1 : Int32)) = (1 : Int32))]
  refine gv (fun _ kQ => XS.goto X934.here hx rfl (pc0 := 29) (pc' := 8) rfl (hb hby d13_29) (by decide) (by decide) (XS.iload X934.here hx rfl (hb hby d13_8) rfl (XS.iloadN X934.here hx rfl (hb hby d13_10) rfl (XS.icmpNo X934.here hx rfl (hb hby d13_11) rfl (tlt (by decide : (1 : Int32) < (4 : Int32))).2.1 (XS.aloadN X934.here hx rfl (hb hby d13_14) rfl rfl (XS.iload X934.here hx rfl (hb hby d13_15) rfl (XS.aloadN X934.here hx rfl (hb hby d13_17) rfl rfl (XS.iloadN X934.here hx rfl (hb hby d13_18) rfl kQ)))))))) ?_
  show G (T934.setTop (mkF me_ 19 #[.val (.ref d), .val (.int 1), .val (.int 4), .val (.ref b_925), .val (.int 1)] [(.int 1), (.ref d), (.int 1), (.ref b_925)]))
  obtain ⟨cl939, Ar939, q939, S939, n939, H939, G939⟩ := (id f936)
  have in939 : ¬ ((1 : Int32) < 0 ∨ cl939.slots.size ≤ ((1 : Int32)).toNatClampNeg) := inb_of S939 ⟨by decide, by decide⟩
  refine gv (X934.caload hx (j := (1 : Int32)) (v := (.int c1)) (by rw [e934]; exact Ar939.1) (State.isArrayOf_alike hZ.alike Ar939.2.1) Ar939.2.2 in939 (Has.at H939 in939 rfl) (g := (mkF me_ 19 #[.val (.ref d), .val (.int 1), .val (.int 4), .val (.ref b_925), .val (.int 1)] [(.int 1), (.ref d), (.int 1), (.ref b_925)])) rfl rfl (hb hby d13_19)) ?_
  show G (T934.setTop (mkF me_ 20 #[.val (.ref d), .val (.int 1), .val (.int 4), .val (.ref b_925), .val (.int 1)] [(.int c1), (.int 1), (.ref b_925)]))
  obtain ⟨_, _, ⟨T940, L940, k940, n940⟩, -, X940, ⟨Lc940, hQ940, l940, y940, z940⟩, st940⟩ := Jvm.LawKit.callS X934 hx (y := m_23) hown (mvT hZ (t_68 hw)) (mvT hZ (t_69 hw)) (mvT hZ (t_50 hw)) (mvT hZ (t_70 hw)) (by decide) (backOf (W := 0) (rm_put8_1 l Z a0 hw [] b_925 c1 k_925 ((c0 >>> ((0 : Int32) &&& 31)).toInt8.toInt32) ((c0 >>> ((8 : Int32) &&& 31)).toInt8.toInt32) (0 : Int32) (0 : Int32) (0 : Int32) (0 : Int32) (0 : Int32) (0 : Int32) h934 n0 O937 u0 u1 u2 w934_0 g928) hZ (t_70 hw) (t_50 hw) (by decide) (by decide)) (g := (mkF me_ 20 #[.val (.ref d), .val (.int 1), .val (.int 4), .val (.ref b_925), .val (.int 1)] [(.int c1), (.int 1), (.ref b_925)])) rfl (by rw [hml]; rfl) (argsL := [(.ref b_925), (.int 1), (.int c1)]) (rest := []) (lenOf pd_10 rfl) rfl (by show 2 * 0 + _ ≤ _; exact Nat.le_of_eq rfl) (hb hby d13_20) (fun _ _ => ⟨rfl, e934, (by decide : 1 + 0 ≤ _), (by decide : 8 + 0 ≤ _)⟩)
  dsimp only [Pt.U, Pt.locs, Pt.cells, Pt.slots] at X940 l940 y940 z940 st940 hQ940
  subst l940 y940 z940
  obtain ⟨rfl, Nq940, Kq940, w940_0⟩ := hQ940
  have N941 := Fr.app N935 Nq940
  obtain ⟨h940, e940⟩ : ∃ z, T940.heap = z := ⟨_, rfl⟩
  rw [e940] at Kq940 w940_0
  have f942 := f936.keep Kq940 (ninS ne927 nin0)
  have O943 := O937.keep Kq940 (allS g928 all0)
  have K944 := K938.trans Kq940 (allS (Or.inr z929) all0)
  refine gv st940 ?_
  refine gv (fun _ kQ => XS.iinc X940.here hx rfl (hb hby d13_23) rfl (l' := #[.val (.ref d), .val (.int ((1 : Int32) + (1 : Int32))), .val (.int 4), .val (.ref b_925), .val (.int 1)]) rfl kQ) ?_
  show G (T940.setTop (mkF me_ 26 #[.val (.ref d), .val (.int ((1 : Int32) + (1 : Int32))), .val (.int 4), .val (.ref b_925), .val (.int 1)] []))
  rw [(by decide : ((1 : Int32) + (1 : Int32)) = (2 : Int32))]
  refine gv (fun _ kQ => XS.iinc X940.here hx rfl (hb hby d13_26) rfl (l' := #[.val (.ref d), .val (.int 2), .val (.int 4), .val (.ref b_925), .val (.int ((1 : Int32) + (1 : Int32)))]) rfl kQ) ?_
  show G (T940.setTop (mkF me_ 29 #[.val (.ref d), .val (.int 2), .val (.int 4), .val (.ref b_925), .val (.int ((1 : Int32) + (1 : Int32)))] []))
  rw [(by decide : ((1 : Int32) + (1 : Int32)) = (2 : Int32))]
  refine gv (fun _ kQ => XS.goto X940.here hx rfl (pc0 := 29) (pc' := 8) rfl (hb hby d13_29) (by decide) (by decide) (XS.iload X940.here hx rfl (hb hby d13_8) rfl (XS.iloadN X940.here hx rfl (hb hby d13_10) rfl (XS.icmpNo X940.here hx rfl (hb hby d13_11) rfl (tlt (by decide : (2 : Int32) < (4 : Int32))).2.1 (XS.aloadN X940.here hx rfl (hb hby d13_14) rfl rfl (XS.iload X940.here hx rfl (hb hby d13_15) rfl (XS.aloadN X940.here hx rfl (hb hby d13_17) rfl rfl (XS.iloadN X940.here hx rfl (hb hby d13_18) rfl kQ)))))))) ?_
  show G (T940.setTop (mkF me_ 19 #[.val (.ref d), .val (.int 2), .val (.int 4), .val (.ref b_925), .val (.int 2)] [(.int 2), (.ref d), (.int 2), (.ref b_925)]))
  obtain ⟨cl945, Ar945, q945, S945, n945, H945, G945⟩ := (id f942)
  have in945 : ¬ ((2 : Int32) < 0 ∨ cl945.slots.size ≤ ((2 : Int32)).toNatClampNeg) := inb_of S945 ⟨by decide, by decide⟩
  refine gv (X940.caload hx (j := (2 : Int32)) (v := (.int c2)) (by rw [e940]; exact Ar945.1) (State.isArrayOf_alike hZ.alike Ar945.2.1) Ar945.2.2 in945 (Has.at H945 in945 rfl) (g := (mkF me_ 19 #[.val (.ref d), .val (.int 2), .val (.int 4), .val (.ref b_925), .val (.int 2)] [(.int 2), (.ref d), (.int 2), (.ref b_925)])) rfl rfl (hb hby d13_19)) ?_
  show G (T940.setTop (mkF me_ 20 #[.val (.ref d), .val (.int 2), .val (.int 4), .val (.ref b_925), .val (.int 2)] [(.int c2), (.int 2), (.ref b_925)]))
  obtain ⟨_, _, ⟨T946, L946, k946, n946⟩, -, X946, ⟨Lc946, hQ946, l946, y946, z946⟩, st946⟩ := Jvm.LawKit.callS X940 hx (y := m_23) hown (mvT hZ (t_68 hw)) (mvT hZ (t_69 hw)) (mvT hZ (t_50 hw)) (mvT hZ (t_70 hw)) (by decide) (backOf (W := 0) (rm_put8_2 l Z a0 hw [] b_925 c2 k_925 ((c0 >>> ((0 : Int32) &&& 31)).toInt8.toInt32) ((c0 >>> ((8 : Int32) &&& 31)).toInt8.toInt32) ((c1 >>> ((0 : Int32) &&& 31)).toInt8.toInt32) ((c1 >>> ((8 : Int32) &&& 31)).toInt8.toInt32) (0 : Int32) (0 : Int32) (0 : Int32) (0 : Int32) h940 n0 O943 u0 u1 u2 w940_0 g928) hZ (t_70 hw) (t_50 hw) (by decide) (by decide)) (g := (mkF me_ 20 #[.val (.ref d), .val (.int 2), .val (.int 4), .val (.ref b_925), .val (.int 2)] [(.int c2), (.int 2), (.ref b_925)])) rfl (by rw [hml]; rfl) (argsL := [(.ref b_925), (.int 2), (.int c2)]) (rest := []) (lenOf pd_10 rfl) rfl (by show 2 * 0 + _ ≤ _; exact Nat.le_of_eq rfl) (hb hby d13_20) (fun _ _ => ⟨rfl, e940, (by decide : 1 + 0 ≤ _), (by decide : 8 + 0 ≤ _)⟩)
  dsimp only [Pt.U, Pt.locs, Pt.cells, Pt.slots] at X946 l946 y946 z946 st946 hQ946
  subst l946 y946 z946
  obtain ⟨rfl, Nq946, Kq946, w946_0⟩ := hQ946
  have N947 := Fr.app N941 Nq946
  obtain ⟨h946, e946⟩ : ∃ z, T946.heap = z := ⟨_, rfl⟩
  rw [e946] at Kq946 w946_0
  have f948 := f942.keep Kq946 (ninS ne927 nin0)
  have O949 := O943.keep Kq946 (allS g928 all0)
  have K950 := K944.trans Kq946 (allS (Or.inr z929) all0)
  refine gv st946 ?_
  refine gv (fun _ kQ => XS.iinc X946.here hx rfl (hb hby d13_23) rfl (l' := #[.val (.ref d), .val (.int ((2 : Int32) + (1 : Int32))), .val (.int 4), .val (.ref b_925), .val (.int 2)]) rfl kQ) ?_
  show G (T946.setTop (mkF me_ 26 #[.val (.ref d), .val (.int ((2 : Int32) + (1 : Int32))), .val (.int 4), .val (.ref b_925), .val (.int 2)] []))
  rw [(by decide : ((2 : Int32) + (1 : Int32)) = (3 : Int32))]
  refine gv (fun _ kQ => XS.iinc X946.here hx rfl (hb hby d13_26) rfl (l' := #[.val (.ref d), .val (.int 3), .val (.int 4), .val (.ref b_925), .val (.int ((2 : Int32) + (1 : Int32)))]) rfl kQ) ?_
  show G (T946.setTop (mkF me_ 29 #[.val (.ref d), .val (.int 3), .val (.int 4), .val (.ref b_925), .val (.int ((2 : Int32) + (1 : Int32)))] []))
  rw [(by decide : ((2 : Int32) + (1 : Int32)) = (3 : Int32))]
  refine gv (fun _ kQ => XS.goto X946.here hx rfl (pc0 := 29) (pc' := 8) rfl (hb hby d13_29) (by decide) (by decide) (XS.iload X946.here hx rfl (hb hby d13_8) rfl (XS.iloadN X946.here hx rfl (hb hby d13_10) rfl (XS.icmpNo X946.here hx rfl (hb hby d13_11) rfl (tlt (by decide : (3 : Int32) < (4 : Int32))).2.1 (XS.aloadN X946.here hx rfl (hb hby d13_14) rfl rfl (XS.iload X946.here hx rfl (hb hby d13_15) rfl (XS.aloadN X946.here hx rfl (hb hby d13_17) rfl rfl (XS.iloadN X946.here hx rfl (hb hby d13_18) rfl kQ)))))))) ?_
  show G (T946.setTop (mkF me_ 19 #[.val (.ref d), .val (.int 3), .val (.int 4), .val (.ref b_925), .val (.int 3)] [(.int 3), (.ref d), (.int 3), (.ref b_925)]))
  obtain ⟨cl951, Ar951, q951, S951, n951, H951, G951⟩ := (id f948)
  have in951 : ¬ ((3 : Int32) < 0 ∨ cl951.slots.size ≤ ((3 : Int32)).toNatClampNeg) := inb_of S951 ⟨by decide, by decide⟩
  refine gv (X946.caload hx (j := (3 : Int32)) (v := (.int c3)) (by rw [e946]; exact Ar951.1) (State.isArrayOf_alike hZ.alike Ar951.2.1) Ar951.2.2 in951 (Has.at H951 in951 rfl) (g := (mkF me_ 19 #[.val (.ref d), .val (.int 3), .val (.int 4), .val (.ref b_925), .val (.int 3)] [(.int 3), (.ref d), (.int 3), (.ref b_925)])) rfl rfl (hb hby d13_19)) ?_
  show G (T946.setTop (mkF me_ 20 #[.val (.ref d), .val (.int 3), .val (.int 4), .val (.ref b_925), .val (.int 3)] [(.int c3), (.int 3), (.ref b_925)]))
  obtain ⟨_, _, ⟨T952, L952, k952, n952⟩, -, X952, ⟨Lc952, hQ952, l952, y952, z952⟩, st952⟩ := Jvm.LawKit.callS X946 hx (y := m_23) hown (mvT hZ (t_68 hw)) (mvT hZ (t_69 hw)) (mvT hZ (t_50 hw)) (mvT hZ (t_70 hw)) (by decide) (backOf (W := 0) (rm_put8_3 l Z a0 hw [] b_925 c3 k_925 ((c0 >>> ((0 : Int32) &&& 31)).toInt8.toInt32) ((c0 >>> ((8 : Int32) &&& 31)).toInt8.toInt32) ((c1 >>> ((0 : Int32) &&& 31)).toInt8.toInt32) ((c1 >>> ((8 : Int32) &&& 31)).toInt8.toInt32) ((c2 >>> ((0 : Int32) &&& 31)).toInt8.toInt32) ((c2 >>> ((8 : Int32) &&& 31)).toInt8.toInt32) (0 : Int32) (0 : Int32) h946 n0 O949 u0 u1 u2 w946_0 g928) hZ (t_70 hw) (t_50 hw) (by decide) (by decide)) (g := (mkF me_ 20 #[.val (.ref d), .val (.int 3), .val (.int 4), .val (.ref b_925), .val (.int 3)] [(.int c3), (.int 3), (.ref b_925)])) rfl (by rw [hml]; rfl) (argsL := [(.ref b_925), (.int 3), (.int c3)]) (rest := []) (lenOf pd_10 rfl) rfl (by show 2 * 0 + _ ≤ _; exact Nat.le_of_eq rfl) (hb hby d13_20) (fun _ _ => ⟨rfl, e946, (by decide : 1 + 0 ≤ _), (by decide : 8 + 0 ≤ _)⟩)
  dsimp only [Pt.U, Pt.locs, Pt.cells, Pt.slots] at X952 l952 y952 z952 st952 hQ952
  subst l952 y952 z952
  obtain ⟨rfl, Nq952, Kq952, w952_0⟩ := hQ952
  have N953 := Fr.app N947 Nq952
  obtain ⟨h952, e952⟩ : ∃ z, T952.heap = z := ⟨_, rfl⟩
  rw [e952] at Kq952 w952_0
  have K956 := K950.trans Kq952 (allS (Or.inr z929) all0)
  refine gv st952 ?_
  refine gv (fun _ kQ => XS.iinc X952.here hx rfl (hb hby d13_23) rfl (l' := #[.val (.ref d), .val (.int ((3 : Int32) + (1 : Int32))), .val (.int 4), .val (.ref b_925), .val (.int 3)]) rfl kQ) ?_
  show G (T952.setTop (mkF me_ 26 #[.val (.ref d), .val (.int ((3 : Int32) + (1 : Int32))), .val (.int 4), .val (.ref b_925), .val (.int 3)] []))
  rw [(by decide : ((3 : Int32) + (1 : Int32)) = (4 : Int32))]
  refine gv (fun _ kQ => XS.iinc X952.here hx rfl (hb hby d13_26) rfl (l' := #[.val (.ref d), .val (.int 4), .val (.int 4), .val (.ref b_925), .val (.int ((3 : Int32) + (1 : Int32)))]) rfl kQ) ?_
  show G (T952.setTop (mkF me_ 29 #[.val (.ref d), .val (.int 4), .val (.int 4), .val (.ref b_925), .val (.int ((3 : Int32) + (1 : Int32)))] []))
  rw [(by decide : ((3 : Int32) + (1 : Int32)) = (4 : Int32))]
  refine gv (fun _ kQ => XS.goto X952.here hx rfl (pc0 := 29) (pc' := 8) rfl (hb hby d13_29) (by decide) (by decide) (XS.iload X952.here hx rfl (hb hby d13_8) rfl (XS.iloadN X952.here hx rfl (hb hby d13_10) rfl (XS.icmpYes X952.here hx rfl (pc0 := 11) (pc' := 32) rfl (hb hby d13_11) rfl (flt (by decide : ¬ ((4 : Int32) < (4 : Int32)))).2.1 (by decide) (by decide) (XS.aloadN X952.here hx rfl (hb hby d13_32) rfl rfl kQ))))) ?_
  refine gf _ (own_ret X952 Bd.notSynchronized (v := some (.ref b_925)) (own_rv Bd.returns) ?_ (by decide) (by decide) (fun fs hr => retOut X952 hx (t := (.array .byte)) Bd.returns rfl (Or.inr (Or.inr (Or.inr (Or.inr ⟨rfl, rfl, rfl⟩)))) (hb hby d13_33) hr))
  show Q_utb4 Z d kd c0 c1 c2 c3 h0 n0 _ T952.heap _
  rw [e952]
  exact ⟨b_925, k_925, rfl, N953, K956, z929, w952_0⟩
def Q_cmp4 (Z : State) (d : Addr) (kd : ClassId) (b : Addr) (k : ClassId) (c0 c1 : Int32) (c2 c3 : Int32) (h0 : Heap) (n0 : Nat) (v : Option Value) (h : Heap) (L : List Loc) : Prop := ∃ (r : Int32), v = some (.int r) ∧ Fr n0 L ∧ Keep h0 h [b] ∧ (own_B4 Z h b r c0 c1 c2 c3)
theorem rm_cmp4 (l : Launch) (Z : State) (a0 : Array Value) (hw : own_HW Z a0) (ws : List Jvm.Cond) (d : Addr) (kd : ClassId) (b : Addr) (k : ClassId) (c0 c1 : Int32) (c2 c3 : Int32) (h0 : Heap) (n0 : Nat) (O0 : Old Z n0 h0) (u0 : Arv Z h0 d kd .char (4 : Int32) [(.int c0), (.int c1), (.int c2), (.int c3)] (.int 0)) (u1 : Arv Z h0 b k .byte (4 : Int32) [(.int 0), (.int 0), (.int 0), (.int 0)] (.int 0)) (u2 : n0 ≤ b) (u3 : d ≠ b) :
    own_Met l Z m_18 jdk_52_method_21_code 7 (some .int) ws (own_R 0 0 0 0) #[(.ref d), (.int 0), (.ref b), (.int 0), (.int 4)] h0 (Q_cmp4 Z d kd b k c0 c1 c2 c3 h0 n0) := by
  refine own_open (plainFor_of_name pn_2) (fun pr_ en_ st_ me_ below meth_ co_ s₁ Bd hx hby hml hown hZ X0 e0 G gv gf => ?_)
  have N0 := Fr.nil n0
  have K0 := Keep.refl h0 [b]
  refine gv (fun _ kQ => castTop (ef_10 me_ d (0 : Int32) b (0 : Int32) (4 : Int32)) kQ) ?_
  show G (s₁.setTop (mkF me_ 0 #[.val (.ref d), .val (.int 0), .val (.ref b), .val (.int 0), .val (.int 4), .unset, .unset] []))
  refine gv (fun _ kQ => XS.iconst X0.here hx rfl (hb hby d11_0) (XS.istore X0.here hx rfl (hb hby d11_1) rfl (l' := #[.val (.ref d), .val (.int 0), .val (.ref b), .val (.int 0), .val (.int 4), .val (.int 0), .unset]) rfl (XS.iload X0.here hx rfl (hb hby d11_3) rfl (XS.iload X0.here hx rfl (hb hby d11_5) rfl (XS.icmpNo X0.here hx rfl (hb hby d11_7) rfl (tlt (by decide : (0 : Int32) < (4 : Int32))).2.1 (XS.aloadN X0.here hx rfl (hb hby d11_10) rfl rfl (XS.iloadN X0.here hx rfl (hb hby d11_11) rfl kQ))))))) ?_
  show G (s₁.setTop (mkF me_ 12 #[.val (.ref d), .val (.int 0), .val (.ref b), .val (.int 0), .val (.int 4), .val (.int 0), .unset] [(.int 0), (.ref d)]))
  obtain ⟨cl957, Ar957, q957, S957, n957, H957, G957⟩ := (id u0)
  have in957 : ¬ ((0 : Int32) < 0 ∨ cl957.slots.size ≤ ((0 : Int32)).toNatClampNeg) := inb_of S957 ⟨by decide, by decide⟩
  refine gv (X0.caload hx (j := (0 : Int32)) (v := (.int c0)) (by rw [e0]; exact Ar957.1) (State.isArrayOf_alike hZ.alike Ar957.2.1) Ar957.2.2 in957 (Has.at H957 in957 rfl) (g := (mkF me_ 12 #[.val (.ref d), .val (.int 0), .val (.ref b), .val (.int 0), .val (.int 4), .val (.int 0), .unset] [(.int 0), (.ref d)])) rfl rfl (hb hby d11_12)) ?_
  show G (s₁.setTop (mkF me_ 13 #[.val (.ref d), .val (.int 0), .val (.ref b), .val (.int 0), .val (.int 4), .val (.int 0), .unset] [(.int c0)]))
  refine gv (fun _ kQ => XS.istore X0.here hx rfl (hb hby d11_13) rfl (l' := #[.val (.ref d), .val (.int 0), .val (.ref b), .val (.int 0), .val (.int 4), .val (.int 0), .val (.int c0)]) rfl (XS.iload X0.here hx rfl (hb hby d11_15) rfl (XS.sipush X0.here hx rfl (hb hby d11_17) kQ))) ?_
  show G (s₁.setTop (mkF me_ 20 #[.val (.ref d), .val (.int 0), .val (.ref b), .val (.int 0), .val (.int 4), .val (.int 0), .val (.int c0)] [(.int 255), (.int c0)]))
  by_cases hc958 : (255 : Int32) < c0
  · refine gv (fun _ kQ => XS.icmpNo X0.here hx rfl (hb hby d11_20) rfl (tlt hc958).2.2.2 kQ) ?_
    refine gv (fun _ kQ => XS.iload X0.here hx rfl (hb hby d11_23) rfl kQ) ?_
    refine gf _ (own_ret X0 Bd.notSynchronized (v := some (.int 0)) (own_rv Bd.returns) ?_ (by decide) (by decide) (fun fs hr => retOut X0 hx (t := .int) Bd.returns rfl (Or.inl ⟨rfl, Or.inl rfl, _, rfl⟩) (hb hby d11_25) hr))
    show Q_cmp4 Z d kd b k c0 c1 c2 c3 h0 n0 _ s₁.heap _
    rw [e0]
    exact ⟨(0 : Int32), rfl, N0, K0, (Or.inr (Or.inl ⟨rfl, hc958⟩))⟩
  · refine gv (fun _ kQ => XS.icmpYes X0.here hx rfl (pc0 := 20) (pc' := 26) rfl (hb hby d11_20) rfl (flt hc958).2.2.2 (by decide) (by decide) kQ) ?_
    refine gv (fun _ kQ => XS.aloadN X0.here hx rfl (hb hby d11_26) rfl rfl (XS.iloadN X0.here hx rfl (hb hby d11_27) rfl (XS.iload X0.here hx rfl (hb hby d11_28) rfl (XS.i2b X0.here hx rfl (hb hby d11_30) rfl kQ)))) ?_
    show G (s₁.setTop (mkF me_ 31 #[.val (.ref d), .val (.int 0), .val (.ref b), .val (.int 0), .val (.int 4), .val (.int 0), .val (.int c0)] [(.int (c0.toInt8.toInt32)), (.int 0), (.ref b)]))
    obtain ⟨cl959, Ar959, q959, S959, n959, H959, G959⟩ := (id u1)
    have in959 : ¬ ((0 : Int32) < 0 ∨ cl959.slots.size ≤ ((0 : Int32)).toNatClampNeg) := inb_of S959 ⟨by decide, by decide⟩
    obtain ⟨T959, h959, X959, e959, W959, st959⟩ := stB X0 hx hZ e0 Ar959 (j := (0 : Int32)) in959 (g := (mkF me_ 31 #[.val (.ref d), .val (.int 0), .val (.ref b), .val (.int 0), .val (.int 4), .val (.int 0), .val (.int c0)] [(.int (c0.toInt8.toInt32)), (.int 0), (.ref b)])) rfl rfl (hb hby d11_31)
    have W959 : Wr h0 h959 b ((0 : Int32)).toNatClampNeg (.int (c0.toInt8.toInt32)) := by have z := W959; rw [(own_narB _)] at z; exact z
    refine gv st959 ?_
    have f961 := u0.other W959 u3
    have K963 := K0.wr W959 (Or.inl (List.mem_of_getElem? (i := 0) rfl))
    have N964 := Fr.snoc X959 N0 u2
    have f960 : Arv Z h959 b k .byte (4 : Int32) [(.int (c0.toInt8.toInt32)), (.int 0), (.int 0), (.int 0)] (.int 0) := Arv.set Ar959 q959 S959 n959 H959 G959 (fits_nar_byte _) W959 0 rfl (Nat.le_of_ble_eq_true rfl)
    refine gv (fun _ kQ => XS.iinc X959.here hx rfl (hb hby d11_32) rfl (l' := #[.val (.ref d), .val (.int ((0 : Int32) + (1 : Int32))), .val (.ref b), .val (.int 0), .val (.int 4), .val (.int 0), .val (.int c0)]) rfl kQ) ?_
    show G (T959.setTop (mkF me_ 35 #[.val (.ref d), .val (.int ((0 : Int32) + (1 : Int32))), .val (.ref b), .val (.int 0), .val (.int 4), .val (.int 0), .val (.int c0)] []))
    rw [(by decide : ((0 : Int32) + (1 : Int32)) = (1 : Int32))]
    refine gv (fun _ kQ => XS.iinc X959.here hx rfl (hb hby d11_35) rfl (l' := #[.val (.ref d), .val (.int 1), .val (.ref b), .val (.int ((0 : Int32) + (1 : Int32))), .val (.int 4), .val (.int 0), .val (.int c0)]) rfl kQ) ?_
    show G (T959.setTop (mkF me_ 38 #[.val (.ref d), .val (.int 1), .val (.ref b), .val (.int ((0 : Int32) + (1 : Int32))), .val (.int 4), .val (.int 0), .val (.int c0)] []))
    rw [(by decide : ((0 : Int32) + (1 : Int32)) = (1 : Int32))]
    refine gv (fun _ kQ => XS.iinc X959.here hx rfl (hb hby d11_38) rfl (l' := #[.val (.ref d), .val (.int 1), .val (.ref b), .val (.int 1), .val (.int 4), .val (.int ((0 : Int32) + (1 : Int32))), .val (.int c0)]) rfl kQ) ?_
    show G (T959.setTop (mkF me_ 41 #[.val (.ref d), .val (.int 1), .val (.ref b), .val (.int 1), .val (.int 4), .val (.int ((0 : Int32) + (1 : Int32))), .val (.int c0)] []))
    rw [(by decide : ((0 : Int32) + (1 : Int32)) = (1 : Int32))]
    refine gv (fun _ kQ => XS.goto X959.here hx rfl (pc0 := 41) (pc' := 3) rfl (hb hby d11_41) (by decide) (by decide) (XS.iload X959.here hx rfl (hb hby d11_3) rfl (XS.iload X959.here hx rfl (hb hby d11_5) rfl (XS.icmpNo X959.here hx rfl (hb hby d11_7) rfl (tlt (by decide : (1 : Int32) < (4 : Int32))).2.1 (XS.aloadN X959.here hx rfl (hb hby d11_10) rfl rfl (XS.iloadN X959.here hx rfl (hb hby d11_11) rfl kQ)))))) ?_
    show G (T959.setTop (mkF me_ 12 #[.val (.ref d), .val (.int 1), .val (.ref b), .val (.int 1), .val (.int 4), .val (.int 1), .val (.int c0)] [(.int 1), (.ref d)]))
    obtain ⟨cl965, Ar965, q965, S965, n965, H965, G965⟩ := (id f961)
    have in965 : ¬ ((1 : Int32) < 0 ∨ cl965.slots.size ≤ ((1 : Int32)).toNatClampNeg) := inb_of S965 ⟨by decide, by decide⟩
    refine gv (X959.caload hx (j := (1 : Int32)) (v := (.int c1)) (by rw [e959]; exact Ar965.1) (State.isArrayOf_alike hZ.alike Ar965.2.1) Ar965.2.2 in965 (Has.at H965 in965 rfl) (g := (mkF me_ 12 #[.val (.ref d), .val (.int 1), .val (.ref b), .val (.int 1), .val (.int 4), .val (.int 1), .val (.int c0)] [(.int 1), (.ref d)])) rfl rfl (hb hby d11_12)) ?_
    show G (T959.setTop (mkF me_ 13 #[.val (.ref d), .val (.int 1), .val (.ref b), .val (.int 1), .val (.int 4), .val (.int 1), .val (.int c0)] [(.int c1)]))
    refine gv (fun _ kQ => XS.istore X959.here hx rfl (hb hby d11_13) rfl (l' := #[.val (.ref d), .val (.int 1), .val (.ref b), .val (.int 1), .val (.int 4), .val (.int 1), .val (.int c1)]) rfl (XS.iload X959.here hx rfl (hb hby d11_15) rfl (XS.sipush X959.here hx rfl (hb hby d11_17) kQ))) ?_
    show G (T959.setTop (mkF me_ 20 #[.val (.ref d), .val (.int 1), .val (.ref b), .val (.int 1), .val (.int 4), .val (.int 1), .val (.int c1)] [(.int 255), (.int c1)]))
    by_cases hc966 : (255 : Int32) < c1
    · refine gv (fun _ kQ => XS.icmpNo X959.here hx rfl (hb hby d11_20) rfl (tlt hc966).2.2.2 kQ) ?_
      refine gv (fun _ kQ => XS.iload X959.here hx rfl (hb hby d11_23) rfl kQ) ?_
      refine gf _ (own_ret X959 Bd.notSynchronized (v := some (.int 1)) (own_rv Bd.returns) ?_ (by decide) (by decide) (fun fs hr => retOut X959 hx (t := .int) Bd.returns rfl (Or.inl ⟨rfl, Or.inl rfl, _, rfl⟩) (hb hby d11_25) hr))
      show Q_cmp4 Z d kd b k c0 c1 c2 c3 h0 n0 _ T959.heap _
      rw [e959]
      exact ⟨(1 : Int32), rfl, N964, K963, (Or.inr (Or.inr (Or.inl ⟨rfl, hc966⟩)))⟩
    · refine gv (fun _ kQ => XS.icmpYes X959.here hx rfl (pc0 := 20) (pc' := 26) rfl (hb hby d11_20) rfl (flt hc966).2.2.2 (by decide) (by decide) kQ) ?_
      refine gv (fun _ kQ => XS.aloadN X959.here hx rfl (hb hby d11_26) rfl rfl (XS.iloadN X959.here hx rfl (hb hby d11_27) rfl (XS.iload X959.here hx rfl (hb hby d11_28) rfl (XS.i2b X959.here hx rfl (hb hby d11_30) rfl kQ)))) ?_
      show G (T959.setTop (mkF me_ 31 #[.val (.ref d), .val (.int 1), .val (.ref b), .val (.int 1), .val (.int 4), .val (.int 1), .val (.int c1)] [(.int (c1.toInt8.toInt32)), (.int 1), (.ref b)]))
      obtain ⟨cl967, Ar967, q967, S967, n967, H967, G967⟩ := (id f960)
      have in967 : ¬ ((1 : Int32) < 0 ∨ cl967.slots.size ≤ ((1 : Int32)).toNatClampNeg) := inb_of S967 ⟨by decide, by decide⟩
      obtain ⟨T967, h967, X967, e967, W967, st967⟩ := stB X959 hx hZ e959 Ar967 (j := (1 : Int32)) in967 (g := (mkF me_ 31 #[.val (.ref d), .val (.int 1), .val (.ref b), .val (.int 1), .val (.int 4), .val (.int 1), .val (.int c1)] [(.int (c1.toInt8.toInt32)), (.int 1), (.ref b)])) rfl rfl (hb hby d11_31)
      have W967 : Wr h959 h967 b ((1 : Int32)).toNatClampNeg (.int (c1.toInt8.toInt32)) := by have z := W967; rw [(own_narB _)] at z; exact z
      refine gv st967 ?_
      have f969 := f961.other W967 u3
      have K971 := K963.wr W967 (Or.inl (List.mem_of_getElem? (i := 0) rfl))
      have N972 := Fr.snoc X967 N964 u2
      have f968 : Arv Z h967 b k .byte (4 : Int32) [(.int (c0.toInt8.toInt32)), (.int (c1.toInt8.toInt32)), (.int 0), (.int 0)] (.int 0) := Arv.set Ar967 q967 S967 n967 H967 G967 (fits_nar_byte _) W967 1 rfl (Nat.le_of_ble_eq_true rfl)
      refine gv (fun _ kQ => XS.iinc X967.here hx rfl (hb hby d11_32) rfl (l' := #[.val (.ref d), .val (.int ((1 : Int32) + (1 : Int32))), .val (.ref b), .val (.int 1), .val (.int 4), .val (.int 1), .val (.int c1)]) rfl kQ) ?_
      show G (T967.setTop (mkF me_ 35 #[.val (.ref d), .val (.int ((1 : Int32) + (1 : Int32))), .val (.ref b), .val (.int 1), .val (.int 4), .val (.int 1), .val (.int c1)] []))
      rw [(by decide : ((1 : Int32) + (1 : Int32)) = (2 : Int32))]
      refine gv (fun _ kQ => XS.iinc X967.here hx rfl (hb hby d11_35) rfl (l' := #[.val (.ref d), .val (.int 2), .val (.ref b), .val (.int ((1 : Int32) + (1 : Int32))), .val (.int 4), .val (.int 1), .val (.int c1)]) rfl kQ) ?_
      show G (T967.setTop (mkF me_ 38 #[.val (.ref d), .val (.int 2), .val (.ref b), .val (.int ((1 : Int32) + (1 : Int32))), .val (.int 4), .val (.int 1), .val (.int c1)] []))
      rw [(by decide : ((1 : Int32) + (1 : Int32)) = (2 : Int32))]
      refine gv (fun _ kQ => XS.iinc X967.here hx rfl (hb hby d11_38) rfl (l' := #[.val (.ref d), .val (.int 2), .val (.ref b), .val (.int 2), .val (.int 4), .val (.int ((1 : Int32) + (1 : Int32))), .val (.int c1)]) rfl kQ) ?_
      show G (T967.setTop (mkF me_ 41 #[.val (.ref d), .val (.int 2), .val (.ref b), .val (.int 2), .val (.int 4), .val (.int ((1 : Int32) + (1 : Int32))), .val (.int c1)] []))
      rw [(by decide : ((1 : Int32) + (1 : Int32)) = (2 : Int32))]
      refine gv (fun _ kQ => XS.goto X967.here hx rfl (pc0 := 41) (pc' := 3) rfl (hb hby d11_41) (by decide) (by decide) (XS.iload X967.here hx rfl (hb hby d11_3) rfl (XS.iload X967.here hx rfl (hb hby d11_5) rfl (XS.icmpNo X967.here hx rfl (hb hby d11_7) rfl (tlt (by decide : (2 : Int32) < (4 : Int32))).2.1 (XS.aloadN X967.here hx rfl (hb hby d11_10) rfl rfl (XS.iloadN X967.here hx rfl (hb hby d11_11) rfl kQ)))))) ?_
      show G (T967.setTop (mkF me_ 12 #[.val (.ref d), .val (.int 2), .val (.ref b), .val (.int 2), .val (.int 4), .val (.int 2), .val (.int c1)] [(.int 2), (.ref d)]))
      obtain ⟨cl973, Ar973, q973, S973, n973, H973, G973⟩ := (id f969)
      have in973 : ¬ ((2 : Int32) < 0 ∨ cl973.slots.size ≤ ((2 : Int32)).toNatClampNeg) := inb_of S973 ⟨by decide, by decide⟩
      refine gv (X967.caload hx (j := (2 : Int32)) (v := (.int c2)) (by rw [e967]; exact Ar973.1) (State.isArrayOf_alike hZ.alike Ar973.2.1) Ar973.2.2 in973 (Has.at H973 in973 rfl) (g := (mkF me_ 12 #[.val (.ref d), .val (.int 2), .val (.ref b), .val (.int 2), .val (.int 4), .val (.int 2), .val (.int c1)] [(.int 2), (.ref d)])) rfl rfl (hb hby d11_12)) ?_
      show G (T967.setTop (mkF me_ 13 #[.val (.ref d), .val (.int 2), .val (.ref b), .val (.int 2), .val (.int 4), .val (.int 2), .val (.int c1)] [(.int c2)]))
      refine gv (fun _ kQ => XS.istore X967.here hx rfl (hb hby d11_13) rfl (l' := #[.val (.ref d), .val (.int 2), .val (.ref b), .val (.int 2), .val (.int 4), .val (.int 2), .val (.int c2)]) rfl (XS.iload X967.here hx rfl (hb hby d11_15) rfl (XS.sipush X967.here hx rfl (hb hby d11_17) kQ))) ?_
      show G (T967.setTop (mkF me_ 20 #[.val (.ref d), .val (.int 2), .val (.ref b), .val (.int 2), .val (.int 4), .val (.int 2), .val (.int c2)] [(.int 255), (.int c2)]))
      by_cases hc974 : (255 : Int32) < c2
      · refine gv (fun _ kQ => XS.icmpNo X967.here hx rfl (hb hby d11_20) rfl (tlt hc974).2.2.2 kQ) ?_
        refine gv (fun _ kQ => XS.iload X967.here hx rfl (hb hby d11_23) rfl kQ) ?_
        refine gf _ (own_ret X967 Bd.notSynchronized (v := some (.int 2)) (own_rv Bd.returns) ?_ (by decide) (by decide) (fun fs hr => retOut X967 hx (t := .int) Bd.returns rfl (Or.inl ⟨rfl, Or.inl rfl, _, rfl⟩) (hb hby d11_25) hr))
        show Q_cmp4 Z d kd b k c0 c1 c2 c3 h0 n0 _ T967.heap _
        rw [e967]
        exact ⟨(2 : Int32), rfl, N972, K971, (Or.inr (Or.inr (Or.inr (Or.inl ⟨rfl, hc974⟩))))⟩
      · refine gv (fun _ kQ => XS.icmpYes X967.here hx rfl (pc0 := 20) (pc' := 26) rfl (hb hby d11_20) rfl (flt hc974).2.2.2 (by decide) (by decide) kQ) ?_
        refine gv (fun _ kQ => XS.aloadN X967.here hx rfl (hb hby d11_26) rfl rfl (XS.iloadN X967.here hx rfl (hb hby d11_27) rfl (XS.iload X967.here hx rfl (hb hby d11_28) rfl (XS.i2b X967.here hx rfl (hb hby d11_30) rfl kQ)))) ?_
        show G (T967.setTop (mkF me_ 31 #[.val (.ref d), .val (.int 2), .val (.ref b), .val (.int 2), .val (.int 4), .val (.int 2), .val (.int c2)] [(.int (c2.toInt8.toInt32)), (.int 2), (.ref b)]))
        obtain ⟨cl975, Ar975, q975, S975, n975, H975, G975⟩ := (id f968)
        have in975 : ¬ ((2 : Int32) < 0 ∨ cl975.slots.size ≤ ((2 : Int32)).toNatClampNeg) := inb_of S975 ⟨by decide, by decide⟩
        obtain ⟨T975, h975, X975, e975, W975, st975⟩ := stB X967 hx hZ e967 Ar975 (j := (2 : Int32)) in975 (g := (mkF me_ 31 #[.val (.ref d), .val (.int 2), .val (.ref b), .val (.int 2), .val (.int 4), .val (.int 2), .val (.int c2)] [(.int (c2.toInt8.toInt32)), (.int 2), (.ref b)])) rfl rfl (hb hby d11_31)
        have W975 : Wr h967 h975 b ((2 : Int32)).toNatClampNeg (.int (c2.toInt8.toInt32)) := by have z := W975; rw [(own_narB _)] at z; exact z
        refine gv st975 ?_
        have f977 := f969.other W975 u3
        have K979 := K971.wr W975 (Or.inl (List.mem_of_getElem? (i := 0) rfl))
        have N980 := Fr.snoc X975 N972 u2
        have f976 : Arv Z h975 b k .byte (4 : Int32) [(.int (c0.toInt8.toInt32)), (.int (c1.toInt8.toInt32)), (.int (c2.toInt8.toInt32)), (.int 0)] (.int 0) := Arv.set Ar975 q975 S975 n975 H975 G975 (fits_nar_byte _) W975 2 rfl (Nat.le_of_ble_eq_true rfl)
        refine gv (fun _ kQ => XS.iinc X975.here hx rfl (hb hby d11_32) rfl (l' := #[.val (.ref d), .val (.int ((2 : Int32) + (1 : Int32))), .val (.ref b), .val (.int 2), .val (.int 4), .val (.int 2), .val (.int c2)]) rfl kQ) ?_
        show G (T975.setTop (mkF me_ 35 #[.val (.ref d), .val (.int ((2 : Int32) + (1 : Int32))), .val (.ref b), .val (.int 2), .val (.int 4), .val (.int 2), .val (.int c2)] []))
        rw [(by decide : ((2 : Int32) + (1 : Int32)) = (3 : Int32))]
        refine gv (fun _ kQ => XS.iinc X975.here hx rfl (hb hby d11_35) rfl (l' := #[.val (.ref d), .val (.int 3), .val (.ref b), .val (.int ((2 : Int32) + (1 : Int32))), .val (.int 4), .val (.int 2), .val (.int c2)]) rfl kQ) ?_
        show G (T975.setTop (mkF me_ 38 #[.val (.ref d), .val (.int 3), .val (.ref b), .val (.int ((2 : Int32) + (1 : Int32))), .val (.int 4), .val (.int 2), .val (.int c2)] []))
        rw [(by decide : ((2 : Int32) + (1 : Int32)) = (3 : Int32))]
        refine gv (fun _ kQ => XS.iinc X975.here hx rfl (hb hby d11_38) rfl (l' := #[.val (.ref d), .val (.int 3), .val (.ref b), .val (.int 3), .val (.int 4), .val (.int ((2 : Int32) + (1 : Int32))), .val (.int c2)]) rfl kQ) ?_
        show G (T975.setTop (mkF me_ 41 #[.val (.ref d), .val (.int 3), .val (.ref b), .val (.int 3), .val (.int 4), .val (.int ((2 : Int32) + (1 : Int32))), .val (.int c2)] []))
        rw [(by decide : ((2 : Int32) + (1 : Int32)) = (3 : Int32))]
        refine gv (fun _ kQ => XS.goto X975.here hx rfl (pc0 := 41) (pc' := 3) rfl (hb hby d11_41) (by decide) (by decide) (XS.iload X975.here hx rfl (hb hby d11_3) rfl (XS.iload X975.here hx rfl (hb hby d11_5) rfl (XS.icmpNo X975.here hx rfl (hb hby d11_7) rfl (tlt (by decide : (3 : Int32) < (4 : Int32))).2.1 (XS.aloadN X975.here hx rfl (hb hby d11_10) rfl rfl (XS.iloadN X975.here hx rfl (hb hby d11_11) rfl kQ)))))) ?_
        show G (T975.setTop (mkF me_ 12 #[.val (.ref d), .val (.int 3), .val (.ref b), .val (.int 3), .val (.int 4), .val (.int 3), .val (.int c2)] [(.int 3), (.ref d)]))
        obtain ⟨cl981, Ar981, q981, S981, n981, H981, G981⟩ := (id f977)
        have in981 : ¬ ((3 : Int32) < 0 ∨ cl981.slots.size ≤ ((3 : Int32)).toNatClampNeg) := inb_of S981 ⟨by decide, by decide⟩
        refine gv (X975.caload hx (j := (3 : Int32)) (v := (.int c3)) (by rw [e975]; exact Ar981.1) (State.isArrayOf_alike hZ.alike Ar981.2.1) Ar981.2.2 in981 (Has.at H981 in981 rfl) (g := (mkF me_ 12 #[.val (.ref d), .val (.int 3), .val (.ref b), .val (.int 3), .val (.int 4), .val (.int 3), .val (.int c2)] [(.int 3), (.ref d)])) rfl rfl (hb hby d11_12)) ?_
        show G (T975.setTop (mkF me_ 13 #[.val (.ref d), .val (.int 3), .val (.ref b), .val (.int 3), .val (.int 4), .val (.int 3), .val (.int c2)] [(.int c3)]))
        refine gv (fun _ kQ => XS.istore X975.here hx rfl (hb hby d11_13) rfl (l' := #[.val (.ref d), .val (.int 3), .val (.ref b), .val (.int 3), .val (.int 4), .val (.int 3), .val (.int c3)]) rfl (XS.iload X975.here hx rfl (hb hby d11_15) rfl (XS.sipush X975.here hx rfl (hb hby d11_17) kQ))) ?_
        show G (T975.setTop (mkF me_ 20 #[.val (.ref d), .val (.int 3), .val (.ref b), .val (.int 3), .val (.int 4), .val (.int 3), .val (.int c3)] [(.int 255), (.int c3)]))
        by_cases hc982 : (255 : Int32) < c3
        · refine gv (fun _ kQ => XS.icmpNo X975.here hx rfl (hb hby d11_20) rfl (tlt hc982).2.2.2 kQ) ?_
          refine gv (fun _ kQ => XS.iload X975.here hx rfl (hb hby d11_23) rfl kQ) ?_
          refine gf _ (own_ret X975 Bd.notSynchronized (v := some (.int 3)) (own_rv Bd.returns) ?_ (by decide) (by decide) (fun fs hr => retOut X975 hx (t := .int) Bd.returns rfl (Or.inl ⟨rfl, Or.inl rfl, _, rfl⟩) (hb hby d11_25) hr))
          show Q_cmp4 Z d kd b k c0 c1 c2 c3 h0 n0 _ T975.heap _
          rw [e975]
          exact ⟨(3 : Int32), rfl, N980, K979, (Or.inr (Or.inr (Or.inr (Or.inr (⟨rfl, hc982⟩)))))⟩
        · refine gv (fun _ kQ => XS.icmpYes X975.here hx rfl (pc0 := 20) (pc' := 26) rfl (hb hby d11_20) rfl (flt hc982).2.2.2 (by decide) (by decide) kQ) ?_
          refine gv (fun _ kQ => XS.aloadN X975.here hx rfl (hb hby d11_26) rfl rfl (XS.iloadN X975.here hx rfl (hb hby d11_27) rfl (XS.iload X975.here hx rfl (hb hby d11_28) rfl (XS.i2b X975.here hx rfl (hb hby d11_30) rfl kQ)))) ?_
          show G (T975.setTop (mkF me_ 31 #[.val (.ref d), .val (.int 3), .val (.ref b), .val (.int 3), .val (.int 4), .val (.int 3), .val (.int c3)] [(.int (c3.toInt8.toInt32)), (.int 3), (.ref b)]))
          obtain ⟨cl983, Ar983, q983, S983, n983, H983, G983⟩ := (id f976)
          have in983 : ¬ ((3 : Int32) < 0 ∨ cl983.slots.size ≤ ((3 : Int32)).toNatClampNeg) := inb_of S983 ⟨by decide, by decide⟩
          obtain ⟨T983, h983, X983, e983, W983, st983⟩ := stB X975 hx hZ e975 Ar983 (j := (3 : Int32)) in983 (g := (mkF me_ 31 #[.val (.ref d), .val (.int 3), .val (.ref b), .val (.int 3), .val (.int 4), .val (.int 3), .val (.int c3)] [(.int (c3.toInt8.toInt32)), (.int 3), (.ref b)])) rfl rfl (hb hby d11_31)
          have W983 : Wr h975 h983 b ((3 : Int32)).toNatClampNeg (.int (c3.toInt8.toInt32)) := by have z := W983; rw [(own_narB _)] at z; exact z
          refine gv st983 ?_
          have K987 := K979.wr W983 (Or.inl (List.mem_of_getElem? (i := 0) rfl))
          have N988 := Fr.snoc X983 N980 u2
          have f984 : Arv Z h983 b k .byte (4 : Int32) [(.int (c0.toInt8.toInt32)), (.int (c1.toInt8.toInt32)), (.int (c2.toInt8.toInt32)), (.int (c3.toInt8.toInt32))] (.int 0) := Arv.set Ar983 q983 S983 n983 H983 G983 (fits_nar_byte _) W983 3 rfl (Nat.le_of_ble_eq_true rfl)
          refine gv (fun _ kQ => XS.iinc X983.here hx rfl (hb hby d11_32) rfl (l' := #[.val (.ref d), .val (.int ((3 : Int32) + (1 : Int32))), .val (.ref b), .val (.int 3), .val (.int 4), .val (.int 3), .val (.int c3)]) rfl kQ) ?_
          show G (T983.setTop (mkF me_ 35 #[.val (.ref d), .val (.int ((3 : Int32) + (1 : Int32))), .val (.ref b), .val (.int 3), .val (.int 4), .val (.int 3), .val (.int c3)] []))
          rw [(by decide : ((3 : Int32) + (1 : Int32)) = (4 : Int32))]
          refine gv (fun _ kQ => XS.iinc X983.here hx rfl (hb hby d11_35) rfl (l' := #[.val (.ref d), .val (.int 4), .val (.ref b), .val (.int ((3 : Int32) + (1 : Int32))), .val (.int 4), .val (.int 3), .val (.int c3)]) rfl kQ) ?_
          show G (T983.setTop (mkF me_ 38 #[.val (.ref d), .val (.int 4), .val (.ref b), .val (.int ((3 : Int32) + (1 : Int32))), .val (.int 4), .val (.int 3), .val (.int c3)] []))
          rw [(by decide : ((3 : Int32) + (1 : Int32)) = (4 : Int32))]
          refine gv (fun _ kQ => XS.iinc X983.here hx rfl (hb hby d11_38) rfl (l' := #[.val (.ref d), .val (.int 4), .val (.ref b), .val (.int 4), .val (.int 4), .val (.int ((3 : Int32) + (1 : Int32))), .val (.int c3)]) rfl kQ) ?_
          show G (T983.setTop (mkF me_ 41 #[.val (.ref d), .val (.int 4), .val (.ref b), .val (.int 4), .val (.int 4), .val (.int ((3 : Int32) + (1 : Int32))), .val (.int c3)] []))
          rw [(by decide : ((3 : Int32) + (1 : Int32)) = (4 : Int32))]
          refine gv (fun _ kQ => XS.goto X983.here hx rfl (pc0 := 41) (pc' := 3) rfl (hb hby d11_41) (by decide) (by decide) (XS.iload X983.here hx rfl (hb hby d11_3) rfl (XS.iload X983.here hx rfl (hb hby d11_5) rfl (XS.icmpYes X983.here hx rfl (pc0 := 7) (pc' := 44) rfl (hb hby d11_7) rfl (flt (by decide : ¬ ((4 : Int32) < (4 : Int32)))).2.1 (by decide) (by decide) (XS.iload X983.here hx rfl (hb hby d11_44) rfl kQ))))) ?_
          refine gf _ (own_ret X983 Bd.notSynchronized (v := some (.int 4)) (own_rv Bd.returns) ?_ (by decide) (by decide) (fun fs hr => retOut X983 hx (t := .int) Bd.returns rfl (Or.inl ⟨rfl, Or.inl rfl, _, rfl⟩) (hb hby d11_46) hr))
          show Q_cmp4 Z d kd b k c0 c1 c2 c3 h0 n0 _ T983.heap _
          rw [e983]
          exact ⟨(4 : Int32), rfl, N988, K987, (Or.inl ⟨rfl, k, f984, hc958, hc966, hc974, hc982⟩)⟩
def Q_cmpr4 (Z : State) (d : Addr) (kd : ClassId) (c0 c1 : Int32) (c2 c3 : Int32) (h0 : Heap) (n0 : Nat) (v : Option Value) (h : Heap) (L : List Loc) : Prop := ∃ (b : Addr), v = some (.ref b) ∧ Fr n0 L ∧ Keep h0 h [] ∧ h0.size ≤ b ∧ (own_C4 Z h b c0 c1 c2 c3)
theorem rm_cmpr4 (l : Launch) (Z : State) (a0 : Array Value) (hw : own_HW Z a0) (ws : List Jvm.Cond) (d : Addr) (kd : ClassId) (c0 c1 : Int32) (c2 c3 : Int32) (h0 : Heap) (n0 : Nat) (O0 : Old Z n0 h0) (u0 : nar .char c0 = c0) (u1 : nar .char c1 = c1) (u2 : nar .char c2 = c2) (u3 : nar .char c3 = c3) (u4 : Sta Z Z.heap "java/lang/StringUTF16" "$assertionsDisabled" "Z" (.int 1)) (u5 : Sta Z Z.heap "java/lang/StringUTF16" "HI_BYTE_SHIFT" "I" (.int 0)) (u6 : Sta Z Z.heap "java/lang/StringUTF16" "LO_BYTE_SHIFT" "I" (.int 8)) (u7 : Arv Z h0 d kd .char (4 : Int32) [(.int c0), (.int c1), (.int c2), (.int c3)] (.int 0)) :
    own_Met l Z m_17 jdk_52_method_16_code 6 (some (.array .byte)) ws (own_R 3 2 12 40) #[(.ref d), (.int 0), (.int 4)] h0 (Q_cmpr4 Z d kd c0 c1 c2 c3 h0 n0) := by
  refine own_open (plainFor_of_name pn_2) (fun pr_ en_ st_ me_ below meth_ co_ s₁ Bd hx hby hml hown hZ X0 e0 G gv gf => ?_)
  have N0 := Fr.nil n0
  have K0 := Keep.refl h0 []
  refine gv (fun _ kQ => castTop (ef_11 me_ d (0 : Int32) (4 : Int32)) kQ) ?_
  show G (s₁.setTop (mkF me_ 0 #[.val (.ref d), .val (.int 0), .val (.int 4), .unset, .unset, .unset] []))
  refine gv (fun _ kQ => XS.iloadN X0.here hx rfl (hb hby d10_0) rfl kQ) ?_
  obtain ⟨T989, h989, k989, X989, e989, E989, A989, st989⟩ := newP X0 hx hZ (hw _ (List.mem_of_getElem? (i := 26) rfl)) e0 (g := (mkF me_ 1 #[.val (.ref d), .val (.int 0), .val (.int 4), .unset, .unset, .unset] [(.int 4)])) rfl (hb hby d10_1) rfl (by decide) (cap := 4) (by decide) (by decide) (by decide) (by decide)
  obtain ⟨b989, g989⟩ : ∃ z, z = h0.size := ⟨_, rfl⟩
  rw [← g989] at A989 st989
  refine gv st989 ?_
  have ne990 : d ≠ b989 := Nat.ne_of_lt (Nat.lt_of_lt_of_le u7.lt (Nat.le_of_eq g989.symm))
  have g991 : n0 ≤ b989 := Nat.le_trans (own_old O0) (Nat.le_of_eq g989.symm)
  have z992 : h0.size ≤ b989 := Nat.le_trans K0.1 (Nat.le_of_eq g989.symm)
  have f993 := u7.ext E989
  have O994 := O0.ext E989
  have K995 := K0.ext E989
  have V989 : Arv Z h989 b989 k989 .byte (4 : Int32) [(.int 0), (.int 0), (.int 0), (.int 0)] (.int 0) := (Arv.new A989 (by decide)).pad (pad_rep [] (.int 0) 4)
  refine gv (fun _ kQ => XS.astoreN X989.here hx rfl (hb hby d10_3) rfl rfl (l' := #[.val (.ref d), .val (.int 0), .val (.int 4), .val (.ref b989), .unset, .unset]) rfl (XS.aloadN X989.here hx rfl (hb hby d10_4) rfl rfl (XS.iloadN X989.here hx rfl (hb hby d10_5) rfl (XS.aloadN X989.here hx rfl (hb hby d10_6) rfl rfl (XS.iconst X989.here hx rfl (hb hby d10_7) (XS.iloadN X989.here hx rfl (hb hby d10_8) rfl kQ)))))) ?_
  show G (T989.setTop (mkF me_ 9 #[.val (.ref d), .val (.int 0), .val (.int 4), .val (.ref b989), .unset, .unset] [(.int 4), (.int 0), (.ref b989), (.int 0), (.ref d)]))
  obtain ⟨_, _, ⟨T996, L996, k996, n996⟩, -, X996, ⟨Lc996, hQ996, l996, y996, z996⟩, st996⟩ := Jvm.LawKit.callS X989 hx (y := m_18) hown (mvT hZ (t_52 hw)) (mvT hZ (t_53 hw)) (mvT hZ (t_50 hw)) (mvT hZ (t_54 hw)) (by decide) (backOf (W := 0) (rm_cmp4 l Z a0 hw [] d kd b989 k989 c0 c1 c2 c3 h989 n0 O994 f993 V989 g991 ne990) hZ (t_54 hw) (t_50 hw) (by decide) (by decide)) (g := (mkF me_ 9 #[.val (.ref d), .val (.int 0), .val (.int 4), .val (.ref b989), .unset, .unset] [(.int 4), (.int 0), (.ref b989), (.int 0), (.ref d)])) rfl (by rw [hml]; rfl) (argsL := [(.ref d), (.int 0), (.ref b989), (.int 0), (.int 4)]) (rest := []) (lenOf pd_11 rfl) rfl (by show 2 * 0 + _ ≤ _; exact Nat.le_of_eq rfl) (hb hby d10_9) (fun _ _ => ⟨rfl, e989, (by decide : 1 + 0 ≤ _), (by decide : 4 + 0 ≤ _)⟩)
  dsimp only [Pt.U, Pt.locs, Pt.cells, Pt.slots] at X996 l996 y996 z996 st996 hQ996
  subst l996 y996 z996
  obtain ⟨r_996, rfl, Nq996, Kq996, w996_0⟩ := hQ996
  have N997 := Fr.app N0 Nq996
  obtain ⟨h996, e996⟩ : ∃ z, T996.heap = z := ⟨_, rfl⟩
  rw [e996] at Kq996 w996_0
  have f998 := f993.keep Kq996 (ninS ne990 nin0)
  have O999 := O994.keep Kq996 (allS g991 all0)
  have K1000 := K995.trans Kq996 (allS (Or.inr z992) all0)
  refine gv st996 ?_
  rcases w996_0 with ⟨q1001, k1001, A1001, l1001_0, l1001_1, l1001_2, l1001_3⟩ | ⟨q1001, l1001⟩ | ⟨q1001, l1001⟩ | ⟨q1001, l1001⟩ | ⟨q1001, l1001⟩
  · rw [q1001]
    refine gv (fun _ kQ => XS.istore X996.here hx rfl (hb hby d10_12) rfl (l' := #[.val (.ref d), .val (.int 0), .val (.int 4), .val (.ref b989), .val (.int 4), .unset]) rfl (XS.iload X996.here hx rfl (hb hby d10_14) rfl (XS.iloadN X996.here hx rfl (hb hby d10_16) rfl (XS.icmpYes X996.here hx rfl (pc0 := 17) (pc' := 57) rfl (hb hby d10_17) rfl (teq (by decide : (4 : Int32) = (4 : Int32))).1 (by decide) (by decide) (XS.aloadN X996.here hx rfl (hb hby d10_57) rfl rfl kQ))))) ?_
    refine gf _ (own_ret X996 Bd.notSynchronized (v := some (.ref b989)) (own_rv Bd.returns) ?_ (by decide) (by decide) (fun fs hr => retOut X996 hx (t := (.array .byte)) Bd.returns rfl (Or.inr (Or.inr (Or.inr (Or.inr ⟨rfl, rfl, rfl⟩)))) (hb hby d10_58) hr))
    show Q_cmpr4 Z d kd c0 c1 c2 c3 h0 n0 _ T996.heap _
    rw [e996]
    exact ⟨b989, rfl, N997, K1000, z992, (Or.inl ⟨k1001, A1001, l1001_0, l1001_1, l1001_2, l1001_3⟩)⟩
  · rw [q1001]
    show G (T996.setTop (mkF me_ 12 #[.val (.ref d), .val (.int 0), .val (.int 4), .val (.ref b989), .unset, .unset] [(.int 0)]))
    refine gv (fun _ kQ => XS.istore X996.here hx rfl (hb hby d10_12) rfl (l' := #[.val (.ref d), .val (.int 0), .val (.int 4), .val (.ref b989), .val (.int 0), .unset]) rfl (XS.iload X996.here hx rfl (hb hby d10_14) rfl (XS.iloadN X996.here hx rfl (hb hby d10_16) rfl (XS.icmpNo X996.here hx rfl (hb hby d10_17) rfl (feq (by decide : ¬ ((0 : Int32) = (4 : Int32)))).1 (XS.aloadN X996.here hx rfl (hb hby d10_20) rfl rfl (XS.iloadN X996.here hx rfl (hb hby d10_21) rfl (XS.iloadN X996.here hx rfl (hb hby d10_22) rfl kQ))))))) ?_
    show G (T996.setTop (mkF me_ 23 #[.val (.ref d), .val (.int 0), .val (.int 4), .val (.ref b989), .val (.int 0), .unset] [(.int 4), (.int 0), (.ref d)]))
    obtain ⟨_, _, ⟨T1002, L1002, k1002, n1002⟩, -, X1002, ⟨Lc1002, hQ1002, l1002, y1002, z1002⟩, st1002⟩ := Jvm.LawKit.callS X996 hx (y := m_24) hown (mvT hZ (t_58 hw)) (mvT hZ (t_59 hw)) (mvT hZ (t_50 hw)) (mvT hZ (t_60 hw)) (by decide) (backOf (W := 0) (rm_utb4 l Z a0 hw [] d kd c0 c1 c2 c3 h996 n0 O999 u4 u5 u6 f998) hZ (t_60 hw) (t_50 hw) (by decide) (by decide)) (g := (mkF me_ 23 #[.val (.ref d), .val (.int 0), .val (.int 4), .val (.ref b989), .val (.int 0), .unset] [(.int 4), (.int 0), (.ref d)])) rfl (by rw [hml]; rfl) (argsL := [(.ref d), (.int 0), (.int 4)]) (rest := []) (lenOf pd_12 rfl) rfl (by show 2 * 0 + _ ≤ _; exact Nat.le_of_eq rfl) (hb hby d10_23) (fun _ _ => ⟨rfl, e996, (by decide : 1 + 1 ≤ _), (by decide : 4 + 8 ≤ _)⟩)
    dsimp only [Pt.U, Pt.locs, Pt.cells, Pt.slots] at X1002 l1002 y1002 z1002 st1002 hQ1002
    subst l1002 y1002 z1002
    obtain ⟨b_1002, k_1002, rfl, Nq1002, Kq1002, w1002_0, w1002_1⟩ := hQ1002
    have N1003 := Fr.app N997 Nq1002
    obtain ⟨h1002, e1002⟩ : ∃ z, T1002.heap = z := ⟨_, rfl⟩
    rw [e1002] at Kq1002 w1002_1
    have z1006 : h0.size ≤ b_1002 := Nat.le_trans K1000.1 w1002_0
    have O1008 := O999.keep Kq1002 all0
    have K1009 := K1000.trans Kq1002 all0
    refine gv st1002 ?_
    refine gv (fun _ kQ => XS.astore X1002.here hx rfl (hb hby d10_26) rfl rfl (l' := #[.val (.ref d), .val (.int 0), .val (.int 4), .val (.ref b989), .val (.int 0), .val (.ref b_1002)]) rfl (XS.aload X1002.here hx rfl (hb hby d10_28) rfl rfl (XS.iload X1002.here hx rfl (hb hby d10_30) rfl kQ))) ?_
    show G (T1002.setTop (mkF me_ 32 #[.val (.ref d), .val (.int 0), .val (.int 4), .val (.ref b989), .val (.int 0), .val (.ref b_1002)] [(.int 0), (.ref b_1002)]))
    obtain ⟨_, _, ⟨T1010, L1010, k1010, n1010⟩, -, X1010, ⟨Lc1010, hQ1010, l1010, y1010, z1010⟩, st1010⟩ := Jvm.LawKit.callS X1002 hx (y := m_19) hown (mvT hZ (t_74 hw)) (mvT hZ (t_75 hw)) (mvT hZ (t_50 hw)) (mvT hZ (t_76 hw)) (by decide) (backOf (W := 0) (rm_getc4_0 l Z a0 hw [] b_1002 k_1002 ((c0 >>> ((0 : Int32) &&& 31)).toInt8.toInt32) ((c0 >>> ((8 : Int32) &&& 31)).toInt8.toInt32) ((c1 >>> ((0 : Int32) &&& 31)).toInt8.toInt32) ((c1 >>> ((8 : Int32) &&& 31)).toInt8.toInt32) ((c2 >>> ((0 : Int32) &&& 31)).toInt8.toInt32) ((c2 >>> ((8 : Int32) &&& 31)).toInt8.toInt32) ((c3 >>> ((0 : Int32) &&& 31)).toInt8.toInt32) ((c3 >>> ((8 : Int32) &&& 31)).toInt8.toInt32) h1002 n0 O1008 u4 u5 u6 w1002_1) hZ (t_76 hw) (t_50 hw) (by decide) (by decide)) (g := (mkF me_ 32 #[.val (.ref d), .val (.int 0), .val (.int 4), .val (.ref b989), .val (.int 0), .val (.ref b_1002)] [(.int 0), (.ref b_1002)])) rfl (by rw [hml]; rfl) (argsL := [(.ref b_1002), (.int 0)]) (rest := []) (lenOf pd_4 rfl) rfl (by show 2 * 0 + _ ≤ _; exact Nat.le_of_eq rfl) (hb hby d10_32) (fun _ _ => ⟨rfl, e1002, (by decide : 2 + 0 ≤ _), (by decide : 12 + 0 ≤ _)⟩)
    dsimp only [Pt.U, Pt.locs, Pt.cells, Pt.slots] at X1010 l1010 y1010 z1010 st1010 hQ1010
    subst l1010 y1010 z1010
    obtain ⟨rfl, Nq1010, eq1010⟩ := hQ1010
    have N1011 := Fr.app N1003 Nq1010
    refine gv st1010 ?_
    refine gv (fun _ kQ => XS.sipush X1010.here hx rfl (hb hby d10_35) (XS.icmpYes X1010.here hx rfl (pc0 := 38) (pc' := 54) rfl (hb hby d10_38) rfl (tlt (own_gcgt u0 l1001)).2.2.1 (by decide) (by decide) (XS.aload X1010.here hx rfl (hb hby d10_54) rfl rfl kQ))) ?_
    refine gf _ (own_ret X1010 Bd.notSynchronized (v := some (.ref b_1002)) (own_rv Bd.returns) ?_ (by decide) (by decide) (fun fs hr => retOut X1010 hx (t := (.array .byte)) Bd.returns rfl (Or.inr (Or.inr (Or.inr (Or.inr ⟨rfl, rfl, rfl⟩)))) (hb hby d10_56) hr))
    show Q_cmpr4 Z d kd c0 c1 c2 c3 h0 n0 _ T1010.heap _
    rw [eq1010]
    exact ⟨b_1002, rfl, N1011, K1009, z1006, (Or.inr ⟨k_1002, w1002_1⟩)⟩
  · rw [q1001]
    show G (T996.setTop (mkF me_ 12 #[.val (.ref d), .val (.int 0), .val (.int 4), .val (.ref b989), .unset, .unset] [(.int 1)]))
    refine gv (fun _ kQ => XS.istore X996.here hx rfl (hb hby d10_12) rfl (l' := #[.val (.ref d), .val (.int 0), .val (.int 4), .val (.ref b989), .val (.int 1), .unset]) rfl (XS.iload X996.here hx rfl (hb hby d10_14) rfl (XS.iloadN X996.here hx rfl (hb hby d10_16) rfl (XS.icmpNo X996.here hx rfl (hb hby d10_17) rfl (feq (by decide : ¬ ((1 : Int32) = (4 : Int32)))).1 (XS.aloadN X996.here hx rfl (hb hby d10_20) rfl rfl (XS.iloadN X996.here hx rfl (hb hby d10_21) rfl (XS.iloadN X996.here hx rfl (hb hby d10_22) rfl kQ))))))) ?_
    show G (T996.setTop (mkF me_ 23 #[.val (.ref d), .val (.int 0), .val (.int 4), .val (.ref b989), .val (.int 1), .unset] [(.int 4), (.int 0), (.ref d)]))
    obtain ⟨_, _, ⟨T1012, L1012, k1012, n1012⟩, -, X1012, ⟨Lc1012, hQ1012, l1012, y1012, z1012⟩, st1012⟩ := Jvm.LawKit.callS X996 hx (y := m_24) hown (mvT hZ (t_58 hw)) (mvT hZ (t_59 hw)) (mvT hZ (t_50 hw)) (mvT hZ (t_60 hw)) (by decide) (backOf (W := 0) (rm_utb4 l Z a0 hw [] d kd c0 c1 c2 c3 h996 n0 O999 u4 u5 u6 f998) hZ (t_60 hw) (t_50 hw) (by decide) (by decide)) (g := (mkF me_ 23 #[.val (.ref d), .val (.int 0), .val (.int 4), .val (.ref b989), .val (.int 1), .unset] [(.int 4), (.int 0), (.ref d)])) rfl (by rw [hml]; rfl) (argsL := [(.ref d), (.int 0), (.int 4)]) (rest := []) (lenOf pd_12 rfl) rfl (by show 2 * 0 + _ ≤ _; exact Nat.le_of_eq rfl) (hb hby d10_23) (fun _ _ => ⟨rfl, e996, (by decide : 1 + 1 ≤ _), (by decide : 4 + 8 ≤ _)⟩)
    dsimp only [Pt.U, Pt.locs, Pt.cells, Pt.slots] at X1012 l1012 y1012 z1012 st1012 hQ1012
    subst l1012 y1012 z1012
    obtain ⟨b_1012, k_1012, rfl, Nq1012, Kq1012, w1012_0, w1012_1⟩ := hQ1012
    have N1013 := Fr.app N997 Nq1012
    obtain ⟨h1012, e1012⟩ : ∃ z, T1012.heap = z := ⟨_, rfl⟩
    rw [e1012] at Kq1012 w1012_1
    have z1016 : h0.size ≤ b_1012 := Nat.le_trans K1000.1 w1012_0
    have O1018 := O999.keep Kq1012 all0
    have K1019 := K1000.trans Kq1012 all0
    refine gv st1012 ?_
    refine gv (fun _ kQ => XS.astore X1012.here hx rfl (hb hby d10_26) rfl rfl (l' := #[.val (.ref d), .val (.int 0), .val (.int 4), .val (.ref b989), .val (.int 1), .val (.ref b_1012)]) rfl (XS.aload X1012.here hx rfl (hb hby d10_28) rfl rfl (XS.iload X1012.here hx rfl (hb hby d10_30) rfl kQ))) ?_
    show G (T1012.setTop (mkF me_ 32 #[.val (.ref d), .val (.int 0), .val (.int 4), .val (.ref b989), .val (.int 1), .val (.ref b_1012)] [(.int 1), (.ref b_1012)]))
    obtain ⟨_, _, ⟨T1020, L1020, k1020, n1020⟩, -, X1020, ⟨Lc1020, hQ1020, l1020, y1020, z1020⟩, st1020⟩ := Jvm.LawKit.callS X1012 hx (y := m_19) hown (mvT hZ (t_74 hw)) (mvT hZ (t_75 hw)) (mvT hZ (t_50 hw)) (mvT hZ (t_76 hw)) (by decide) (backOf (W := 0) (rm_getc4_1 l Z a0 hw [] b_1012 k_1012 ((c0 >>> ((0 : Int32) &&& 31)).toInt8.toInt32) ((c0 >>> ((8 : Int32) &&& 31)).toInt8.toInt32) ((c1 >>> ((0 : Int32) &&& 31)).toInt8.toInt32) ((c1 >>> ((8 : Int32) &&& 31)).toInt8.toInt32) ((c2 >>> ((0 : Int32) &&& 31)).toInt8.toInt32) ((c2 >>> ((8 : Int32) &&& 31)).toInt8.toInt32) ((c3 >>> ((0 : Int32) &&& 31)).toInt8.toInt32) ((c3 >>> ((8 : Int32) &&& 31)).toInt8.toInt32) h1012 n0 O1018 u4 u5 u6 w1012_1) hZ (t_76 hw) (t_50 hw) (by decide) (by decide)) (g := (mkF me_ 32 #[.val (.ref d), .val (.int 0), .val (.int 4), .val (.ref b989), .val (.int 1), .val (.ref b_1012)] [(.int 1), (.ref b_1012)])) rfl (by rw [hml]; rfl) (argsL := [(.ref b_1012), (.int 1)]) (rest := []) (lenOf pd_4 rfl) rfl (by show 2 * 0 + _ ≤ _; exact Nat.le_of_eq rfl) (hb hby d10_32) (fun _ _ => ⟨rfl, e1012, (by decide : 2 + 0 ≤ _), (by decide : 12 + 0 ≤ _)⟩)
    dsimp only [Pt.U, Pt.locs, Pt.cells, Pt.slots] at X1020 l1020 y1020 z1020 st1020 hQ1020
    subst l1020 y1020 z1020
    obtain ⟨rfl, Nq1020, eq1020⟩ := hQ1020
    have N1021 := Fr.app N1013 Nq1020
    refine gv st1020 ?_
    refine gv (fun _ kQ => XS.sipush X1020.here hx rfl (hb hby d10_35) (XS.icmpYes X1020.here hx rfl (pc0 := 38) (pc' := 54) rfl (hb hby d10_38) rfl (tlt (own_gcgt u1 l1001)).2.2.1 (by decide) (by decide) (XS.aload X1020.here hx rfl (hb hby d10_54) rfl rfl kQ))) ?_
    refine gf _ (own_ret X1020 Bd.notSynchronized (v := some (.ref b_1012)) (own_rv Bd.returns) ?_ (by decide) (by decide) (fun fs hr => retOut X1020 hx (t := (.array .byte)) Bd.returns rfl (Or.inr (Or.inr (Or.inr (Or.inr ⟨rfl, rfl, rfl⟩)))) (hb hby d10_56) hr))
    show Q_cmpr4 Z d kd c0 c1 c2 c3 h0 n0 _ T1020.heap _
    rw [eq1020]
    exact ⟨b_1012, rfl, N1021, K1019, z1016, (Or.inr ⟨k_1012, w1012_1⟩)⟩
  · rw [q1001]
    show G (T996.setTop (mkF me_ 12 #[.val (.ref d), .val (.int 0), .val (.int 4), .val (.ref b989), .unset, .unset] [(.int 2)]))
    refine gv (fun _ kQ => XS.istore X996.here hx rfl (hb hby d10_12) rfl (l' := #[.val (.ref d), .val (.int 0), .val (.int 4), .val (.ref b989), .val (.int 2), .unset]) rfl (XS.iload X996.here hx rfl (hb hby d10_14) rfl (XS.iloadN X996.here hx rfl (hb hby d10_16) rfl (XS.icmpNo X996.here hx rfl (hb hby d10_17) rfl (feq (by decide : ¬ ((2 : Int32) = (4 : Int32)))).1 (XS.aloadN X996.here hx rfl (hb hby d10_20) rfl rfl (XS.iloadN X996.here hx rfl (hb hby d10_21) rfl (XS.iloadN X996.here hx rfl (hb hby d10_22) rfl kQ))))))) ?_
    show G (T996.setTop (mkF me_ 23 #[.val (.ref d), .val (.int 0), .val (.int 4), .val (.ref b989), .val (.int 2), .unset] [(.int 4), (.int 0), (.ref d)]))
    obtain ⟨_, _, ⟨T1022, L1022, k1022, n1022⟩, -, X1022, ⟨Lc1022, hQ1022, l1022, y1022, z1022⟩, st1022⟩ := Jvm.LawKit.callS X996 hx (y := m_24) hown (mvT hZ (t_58 hw)) (mvT hZ (t_59 hw)) (mvT hZ (t_50 hw)) (mvT hZ (t_60 hw)) (by decide) (backOf (W := 0) (rm_utb4 l Z a0 hw [] d kd c0 c1 c2 c3 h996 n0 O999 u4 u5 u6 f998) hZ (t_60 hw) (t_50 hw) (by decide) (by decide)) (g := (mkF me_ 23 #[.val (.ref d), .val (.int 0), .val (.int 4), .val (.ref b989), .val (.int 2), .unset] [(.int 4), (.int 0), (.ref d)])) rfl (by rw [hml]; rfl) (argsL := [(.ref d), (.int 0), (.int 4)]) (rest := []) (lenOf pd_12 rfl) rfl (by show 2 * 0 + _ ≤ _; exact Nat.le_of_eq rfl) (hb hby d10_23) (fun _ _ => ⟨rfl, e996, (by decide : 1 + 1 ≤ _), (by decide : 4 + 8 ≤ _)⟩)
    dsimp only [Pt.U, Pt.locs, Pt.cells, Pt.slots] at X1022 l1022 y1022 z1022 st1022 hQ1022
    subst l1022 y1022 z1022
    obtain ⟨b_1022, k_1022, rfl, Nq1022, Kq1022, w1022_0, w1022_1⟩ := hQ1022
    have N1023 := Fr.app N997 Nq1022
    obtain ⟨h1022, e1022⟩ : ∃ z, T1022.heap = z := ⟨_, rfl⟩
    rw [e1022] at Kq1022 w1022_1
    have z1026 : h0.size ≤ b_1022 := Nat.le_trans K1000.1 w1022_0
    have O1028 := O999.keep Kq1022 all0
    have K1029 := K1000.trans Kq1022 all0
    refine gv st1022 ?_
    refine gv (fun _ kQ => XS.astore X1022.here hx rfl (hb hby d10_26) rfl rfl (l' := #[.val (.ref d), .val (.int 0), .val (.int 4), .val (.ref b989), .val (.int 2), .val (.ref b_1022)]) rfl (XS.aload X1022.here hx rfl (hb hby d10_28) rfl rfl (XS.iload X1022.here hx rfl (hb hby d10_30) rfl kQ))) ?_
    show G (T1022.setTop (mkF me_ 32 #[.val (.ref d), .val (.int 0), .val (.int 4), .val (.ref b989), .val (.int 2), .val (.ref b_1022)] [(.int 2), (.ref b_1022)]))
    obtain ⟨_, _, ⟨T1030, L1030, k1030, n1030⟩, -, X1030, ⟨Lc1030, hQ1030, l1030, y1030, z1030⟩, st1030⟩ := Jvm.LawKit.callS X1022 hx (y := m_19) hown (mvT hZ (t_74 hw)) (mvT hZ (t_75 hw)) (mvT hZ (t_50 hw)) (mvT hZ (t_76 hw)) (by decide) (backOf (W := 0) (rm_getc4_2 l Z a0 hw [] b_1022 k_1022 ((c0 >>> ((0 : Int32) &&& 31)).toInt8.toInt32) ((c0 >>> ((8 : Int32) &&& 31)).toInt8.toInt32) ((c1 >>> ((0 : Int32) &&& 31)).toInt8.toInt32) ((c1 >>> ((8 : Int32) &&& 31)).toInt8.toInt32) ((c2 >>> ((0 : Int32) &&& 31)).toInt8.toInt32) ((c2 >>> ((8 : Int32) &&& 31)).toInt8.toInt32) ((c3 >>> ((0 : Int32) &&& 31)).toInt8.toInt32) ((c3 >>> ((8 : Int32) &&& 31)).toInt8.toInt32) h1022 n0 O1028 u4 u5 u6 w1022_1) hZ (t_76 hw) (t_50 hw) (by decide) (by decide)) (g := (mkF me_ 32 #[.val (.ref d), .val (.int 0), .val (.int 4), .val (.ref b989), .val (.int 2), .val (.ref b_1022)] [(.int 2), (.ref b_1022)])) rfl (by rw [hml]; rfl) (argsL := [(.ref b_1022), (.int 2)]) (rest := []) (lenOf pd_4 rfl) rfl (by show 2 * 0 + _ ≤ _; exact Nat.le_of_eq rfl) (hb hby d10_32) (fun _ _ => ⟨rfl, e1022, (by decide : 2 + 0 ≤ _), (by decide : 12 + 0 ≤ _)⟩)
    dsimp only [Pt.U, Pt.locs, Pt.cells, Pt.slots] at X1030 l1030 y1030 z1030 st1030 hQ1030
    subst l1030 y1030 z1030
    obtain ⟨rfl, Nq1030, eq1030⟩ := hQ1030
    have N1031 := Fr.app N1023 Nq1030
    refine gv st1030 ?_
    refine gv (fun _ kQ => XS.sipush X1030.here hx rfl (hb hby d10_35) (XS.icmpYes X1030.here hx rfl (pc0 := 38) (pc' := 54) rfl (hb hby d10_38) rfl (tlt (own_gcgt u2 l1001)).2.2.1 (by decide) (by decide) (XS.aload X1030.here hx rfl (hb hby d10_54) rfl rfl kQ))) ?_
    refine gf _ (own_ret X1030 Bd.notSynchronized (v := some (.ref b_1022)) (own_rv Bd.returns) ?_ (by decide) (by decide) (fun fs hr => retOut X1030 hx (t := (.array .byte)) Bd.returns rfl (Or.inr (Or.inr (Or.inr (Or.inr ⟨rfl, rfl, rfl⟩)))) (hb hby d10_56) hr))
    show Q_cmpr4 Z d kd c0 c1 c2 c3 h0 n0 _ T1030.heap _
    rw [eq1030]
    exact ⟨b_1022, rfl, N1031, K1029, z1026, (Or.inr ⟨k_1022, w1022_1⟩)⟩
  · rw [q1001]
    show G (T996.setTop (mkF me_ 12 #[.val (.ref d), .val (.int 0), .val (.int 4), .val (.ref b989), .unset, .unset] [(.int 3)]))
    refine gv (fun _ kQ => XS.istore X996.here hx rfl (hb hby d10_12) rfl (l' := #[.val (.ref d), .val (.int 0), .val (.int 4), .val (.ref b989), .val (.int 3), .unset]) rfl (XS.iload X996.here hx rfl (hb hby d10_14) rfl (XS.iloadN X996.here hx rfl (hb hby d10_16) rfl (XS.icmpNo X996.here hx rfl (hb hby d10_17) rfl (feq (by decide : ¬ ((3 : Int32) = (4 : Int32)))).1 (XS.aloadN X996.here hx rfl (hb hby d10_20) rfl rfl (XS.iloadN X996.here hx rfl (hb hby d10_21) rfl (XS.iloadN X996.here hx rfl (hb hby d10_22) rfl kQ))))))) ?_
    show G (T996.setTop (mkF me_ 23 #[.val (.ref d), .val (.int 0), .val (.int 4), .val (.ref b989), .val (.int 3), .unset] [(.int 4), (.int 0), (.ref d)]))
    obtain ⟨_, _, ⟨T1032, L1032, k1032, n1032⟩, -, X1032, ⟨Lc1032, hQ1032, l1032, y1032, z1032⟩, st1032⟩ := Jvm.LawKit.callS X996 hx (y := m_24) hown (mvT hZ (t_58 hw)) (mvT hZ (t_59 hw)) (mvT hZ (t_50 hw)) (mvT hZ (t_60 hw)) (by decide) (backOf (W := 0) (rm_utb4 l Z a0 hw [] d kd c0 c1 c2 c3 h996 n0 O999 u4 u5 u6 f998) hZ (t_60 hw) (t_50 hw) (by decide) (by decide)) (g := (mkF me_ 23 #[.val (.ref d), .val (.int 0), .val (.int 4), .val (.ref b989), .val (.int 3), .unset] [(.int 4), (.int 0), (.ref d)])) rfl (by rw [hml]; rfl) (argsL := [(.ref d), (.int 0), (.int 4)]) (rest := []) (lenOf pd_12 rfl) rfl (by show 2 * 0 + _ ≤ _; exact Nat.le_of_eq rfl) (hb hby d10_23) (fun _ _ => ⟨rfl, e996, (by decide : 1 + 1 ≤ _), (by decide : 4 + 8 ≤ _)⟩)
    dsimp only [Pt.U, Pt.locs, Pt.cells, Pt.slots] at X1032 l1032 y1032 z1032 st1032 hQ1032
    subst l1032 y1032 z1032
    obtain ⟨b_1032, k_1032, rfl, Nq1032, Kq1032, w1032_0, w1032_1⟩ := hQ1032
    have N1033 := Fr.app N997 Nq1032
    obtain ⟨h1032, e1032⟩ : ∃ z, T1032.heap = z := ⟨_, rfl⟩
    rw [e1032] at Kq1032 w1032_1
    have z1036 : h0.size ≤ b_1032 := Nat.le_trans K1000.1 w1032_0
    have O1038 := O999.keep Kq1032 all0
    have K1039 := K1000.trans Kq1032 all0
    refine gv st1032 ?_
    refine gv (fun _ kQ => XS.astore X1032.here hx rfl (hb hby d10_26) rfl rfl (l' := #[.val (.ref d), .val (.int 0), .val (.int 4), .val (.ref b989), .val (.int 3), .val (.ref b_1032)]) rfl (XS.aload X1032.here hx rfl (hb hby d10_28) rfl rfl (XS.iload X1032.here hx rfl (hb hby d10_30) rfl kQ))) ?_
    show G (T1032.setTop (mkF me_ 32 #[.val (.ref d), .val (.int 0), .val (.int 4), .val (.ref b989), .val (.int 3), .val (.ref b_1032)] [(.int 3), (.ref b_1032)]))
    obtain ⟨_, _, ⟨T1040, L1040, k1040, n1040⟩, -, X1040, ⟨Lc1040, hQ1040, l1040, y1040, z1040⟩, st1040⟩ := Jvm.LawKit.callS X1032 hx (y := m_19) hown (mvT hZ (t_74 hw)) (mvT hZ (t_75 hw)) (mvT hZ (t_50 hw)) (mvT hZ (t_76 hw)) (by decide) (backOf (W := 0) (rm_getc4_3 l Z a0 hw [] b_1032 k_1032 ((c0 >>> ((0 : Int32) &&& 31)).toInt8.toInt32) ((c0 >>> ((8 : Int32) &&& 31)).toInt8.toInt32) ((c1 >>> ((0 : Int32) &&& 31)).toInt8.toInt32) ((c1 >>> ((8 : Int32) &&& 31)).toInt8.toInt32) ((c2 >>> ((0 : Int32) &&& 31)).toInt8.toInt32) ((c2 >>> ((8 : Int32) &&& 31)).toInt8.toInt32) ((c3 >>> ((0 : Int32) &&& 31)).toInt8.toInt32) ((c3 >>> ((8 : Int32) &&& 31)).toInt8.toInt32) h1032 n0 O1038 u4 u5 u6 w1032_1) hZ (t_76 hw) (t_50 hw) (by decide) (by decide)) (g := (mkF me_ 32 #[.val (.ref d), .val (.int 0), .val (.int 4), .val (.ref b989), .val (.int 3), .val (.ref b_1032)] [(.int 3), (.ref b_1032)])) rfl (by rw [hml]; rfl) (argsL := [(.ref b_1032), (.int 3)]) (rest := []) (lenOf pd_4 rfl) rfl (by show 2 * 0 + _ ≤ _; exact Nat.le_of_eq rfl) (hb hby d10_32) (fun _ _ => ⟨rfl, e1032, (by decide : 2 + 0 ≤ _), (by decide : 12 + 0 ≤ _)⟩)
    dsimp only [Pt.U, Pt.locs, Pt.cells, Pt.slots] at X1040 l1040 y1040 z1040 st1040 hQ1040
    subst l1040 y1040 z1040
    obtain ⟨rfl, Nq1040, eq1040⟩ := hQ1040
    have N1041 := Fr.app N1033 Nq1040
    refine gv st1040 ?_
    refine gv (fun _ kQ => XS.sipush X1040.here hx rfl (hb hby d10_35) (XS.icmpYes X1040.here hx rfl (pc0 := 38) (pc' := 54) rfl (hb hby d10_38) rfl (tlt (own_gcgt u3 l1001)).2.2.1 (by decide) (by decide) (XS.aload X1040.here hx rfl (hb hby d10_54) rfl rfl kQ))) ?_
    refine gf _ (own_ret X1040 Bd.notSynchronized (v := some (.ref b_1032)) (own_rv Bd.returns) ?_ (by decide) (by decide) (fun fs hr => retOut X1040 hx (t := (.array .byte)) Bd.returns rfl (Or.inr (Or.inr (Or.inr (Or.inr ⟨rfl, rfl, rfl⟩)))) (hb hby d10_56) hr))
    show Q_cmpr4 Z d kd c0 c1 c2 c3 h0 n0 _ T1040.heap _
    rw [eq1040]
    exact ⟨b_1032, rfl, N1041, K1039, z1036, (Or.inr ⟨k_1032, w1032_1⟩)⟩
def Q_cfal4_4 (Z : State) (b : Addr) (k : ClassId) (x0 x1 : Int32) (x2 x3 : Int32) (h0 : Heap) (n0 : Nat) (v : Option Value) (h : Heap) (L : List Loc) : Prop := v = some (.int 0) ∧ Fr n0 L ∧ h = h0
theorem rm_cfal4_4 (l : Launch) (Z : State) (a0 : Array Value) (hw : own_HW Z a0) (ws : List Jvm.Cond) (b : Addr) (k : ClassId) (x0 x1 : Int32) (x2 x3 : Int32) (h0 : Heap) (n0 : Nat) (O0 : Old Z n0 h0) (u0 : Arv Z h0 b k .byte (4 : Int32) [(.int x0), (.int x1), (.int x2), (.int x3)] (.int 0)) :
    own_Met l Z m_16 jdk_52_method_15_code 2 (some .byte) ws (own_R 0 0 0 0) #[(.ref b), (.int 4)] h0 (Q_cfal4_4 Z b k x0 x1 x2 x3 h0 n0) := by
  refine own_open (plainFor_of_name pn_2) (fun pr_ en_ st_ me_ below meth_ co_ s₁ Bd hx hby hml hown hZ X0 e0 G gv gf => ?_)
  have N0 := Fr.nil n0
  refine gv (fun _ kQ => castTop (ef_4 me_ b (4 : Int32)) kQ) ?_
  show G (s₁.setTop (mkF me_ 0 #[.val (.ref b), .val (.int 4)] []))
  refine gv (fun _ kQ => XS.iloadN X0.here hx rfl (hb hby d12_0) rfl (XS.aloadN X0.here hx rfl (hb hby d12_1) rfl rfl kQ)) ?_
  obtain ⟨cl1042, Ar1042, -, S1042, n1042, -, -⟩ := (id u0)
  refine gv (X0.arraylength hx (by rw [e0]; exact Ar1042.1) (State.isArrayOf_alike hZ.alike Ar1042.2.1) (g := (mkF me_ 2 #[.val (.ref b), .val (.int 4)] [(.ref b), (.int 4)])) rfl rfl (hb hby d12_2)) ?_
  rw [len_of S1042 n1042]
  refine gv (fun _ kQ => XS.isub X0.here hx rfl (hb hby d12_3) rfl kQ) ?_
  show G (s₁.setTop (mkF me_ 4 #[.val (.ref b), .val (.int 4)] [(.int ((4 : Int32) - (4 : Int32)))]))
  rw [(by decide : ((4 : Int32) - (4 : Int32)) = (0 : Int32))]
  refine gv (fun _ kQ => XS.bipush X0.here hx rfl (hb hby d12_4) (XS.iushr X0.here hx rfl (hb hby d12_6) rfl kQ)) ?_
  show G (s₁.setTop (mkF me_ 7 #[.val (.ref b), .val (.int 4)] [(.int (((0 : Int32).toUInt32 >>> ((31 : Int32) &&& 31).toUInt32).toInt32))]))
  rw [(by decide : (((0 : Int32).toUInt32 >>> ((31 : Int32) &&& 31).toUInt32).toInt32) = (0 : Int32))]
  refine gv (fun _ kQ => XS.i2b X0.here hx rfl (hb hby d12_7) rfl kQ) ?_
  show G (s₁.setTop (mkF me_ 8 #[.val (.ref b), .val (.int 4)] [(.int ((0 : Int32).toInt8.toInt32))]))
  rw [(by decide : ((0 : Int32).toInt8.toInt32) = (0 : Int32))]
  refine gf _ (own_ret X0 Bd.notSynchronized (v := some (.int 0)) (own_rv Bd.returns) ?_ (by decide) (by decide) (fun fs hr => retN X0 hx (t := .byte) Bd.returns (by simp) (hb hby d12_8) hr))
  show Q_cfal4_4 Z b k x0 x1 x2 x3 h0 n0 _ s₁.heap _
  rw [e0]
  exact ⟨rfl, N0, rfl⟩
def Q_cfal4_8 (Z : State) (b : Addr) (k : ClassId) (x0 x1 : Int32) (x2 x3 : Int32) (x4 x5 : Int32) (x6 x7 : Int32) (h0 : Heap) (n0 : Nat) (v : Option Value) (h : Heap) (L : List Loc) : Prop := v = some (.int 1) ∧ Fr n0 L ∧ h = h0
theorem rm_cfal4_8 (l : Launch) (Z : State) (a0 : Array Value) (hw : own_HW Z a0) (ws : List Jvm.Cond) (b : Addr) (k : ClassId) (x0 x1 : Int32) (x2 x3 : Int32) (x4 x5 : Int32) (x6 x7 : Int32) (h0 : Heap) (n0 : Nat) (O0 : Old Z n0 h0) (u0 : Arv Z h0 b k .byte (8 : Int32) [(.int x0), (.int x1), (.int x2), (.int x3), (.int x4), (.int x5), (.int x6), (.int x7)] (.int 0)) :
    own_Met l Z m_16 jdk_52_method_15_code 2 (some .byte) ws (own_R 0 0 0 0) #[(.ref b), (.int 4)] h0 (Q_cfal4_8 Z b k x0 x1 x2 x3 x4 x5 x6 x7 h0 n0) := by
  refine own_open (plainFor_of_name pn_2) (fun pr_ en_ st_ me_ below meth_ co_ s₁ Bd hx hby hml hown hZ X0 e0 G gv gf => ?_)
  have N0 := Fr.nil n0
  refine gv (fun _ kQ => castTop (ef_4 me_ b (4 : Int32)) kQ) ?_
  show G (s₁.setTop (mkF me_ 0 #[.val (.ref b), .val (.int 4)] []))
  refine gv (fun _ kQ => XS.iloadN X0.here hx rfl (hb hby d12_0) rfl (XS.aloadN X0.here hx rfl (hb hby d12_1) rfl rfl kQ)) ?_
  obtain ⟨cl1043, Ar1043, -, S1043, n1043, -, -⟩ := (id u0)
  refine gv (X0.arraylength hx (by rw [e0]; exact Ar1043.1) (State.isArrayOf_alike hZ.alike Ar1043.2.1) (g := (mkF me_ 2 #[.val (.ref b), .val (.int 4)] [(.ref b), (.int 4)])) rfl rfl (hb hby d12_2)) ?_
  rw [len_of S1043 n1043]
  refine gv (fun _ kQ => XS.isub X0.here hx rfl (hb hby d12_3) rfl kQ) ?_
  show G (s₁.setTop (mkF me_ 4 #[.val (.ref b), .val (.int 4)] [(.int ((4 : Int32) - (8 : Int32)))]))
  rw [(by decide : ((4 : Int32) - (8 : Int32)) = (-4 : Int32))]
  refine gv (fun _ kQ => XS.bipush X0.here hx rfl (hb hby d12_4) (XS.iushr X0.here hx rfl (hb hby d12_6) rfl kQ)) ?_
  show G (s₁.setTop (mkF me_ 7 #[.val (.ref b), .val (.int 4)] [(.int (((-4 : Int32).toUInt32 >>> ((31 : Int32) &&& 31).toUInt32).toInt32))]))
  rw [(by decide : (((-4 : Int32).toUInt32 >>> ((31 : Int32) &&& 31).toUInt32).toInt32) = (1 : Int32))]
  refine gv (fun _ kQ => XS.i2b X0.here hx rfl (hb hby d12_7) rfl kQ) ?_
  show G (s₁.setTop (mkF me_ 8 #[.val (.ref b), .val (.int 4)] [(.int ((1 : Int32).toInt8.toInt32))]))
  rw [(by decide : ((1 : Int32).toInt8.toInt32) = (1 : Int32))]
  refine gf _ (own_ret X0 Bd.notSynchronized (v := some (.int 1)) (own_rv Bd.returns) ?_ (by decide) (by decide) (fun fs hr => retN X0 hx (t := .byte) Bd.returns (by simp) (hb hby d12_8) hr))
  show Q_cfal4_8 Z b k x0 x1 x2 x3 x4 x5 x6 x7 h0 n0 _ s₁.heap _
  rw [e0]
  exact ⟨rfl, N0, rfl⟩
def Q_sciX4 (Z : State) (a d : Addr) (kd : ClassId) (c0 c1 : Int32) (c2 c3 cs : Int32) (h0 : Heap) (n0 : Nat) (v : Option Value) (h : Heap) (L : List Loc) : Prop := v = none ∧ Fr n0 L ∧ Keep h0 h [a] ∧ (Exa Z h a "java/lang/String") ∧ (own_S4 Z h a c0 c1 c2 c3)
theorem rm_sciX4 (l : Launch) (Z : State) (a0 : Array Value) (hw : own_HW Z a0) (ws : List Jvm.Cond) (a d : Addr) (kd : ClassId) (c0 c1 : Int32) (c2 c3 cs : Int32) (h0 : Heap) (n0 : Nat) (O0 : Old Z n0 h0) (u0 : Sta Z Z.heap "java/lang/String" "COMPACT_STRINGS" "Z" (.int cs)) (u1 : ¬ (cs = (0 : Int32))) (u2 : Sta Z Z.heap "java/lang/StringUTF16" "$assertionsDisabled" "Z" (.int 1)) (u3 : Sta Z Z.heap "java/lang/StringUTF16" "HI_BYTE_SHIFT" "I" (.int 0)) (u4 : Sta Z Z.heap "java/lang/StringUTF16" "LO_BYTE_SHIFT" "I" (.int 8)) (u5 : nar .char c0 = c0) (u6 : nar .char c1 = c1) (u7 : nar .char c2 = c2) (u8 : nar .char c3 = c3) (u9 : Exa Z h0 a "java/lang/String") (u10 : Fld Z h0 a "java/lang/String" "value" "[B" .null) (u11 : Fld Z h0 a "java/lang/String" "coder" "B" (.int 0)) (u12 : n0 ≤ a) (u13 : Arv Z h0 d kd .char (4 : Int32) [(.int c0), (.int c1), (.int c2), (.int c3)] (.int 0)) (u14 : a ≠ d) :
    own_Met l Z m_7 jdk_42_method_149_code 6 none ws (own_R 4 2 12 57) #[(.ref a), (.ref d), (.int 0), (.int 4), .null] h0 (Q_sciX4 Z a d kd c0 c1 c2 c3 cs h0 n0) := by
  refine own_open (plainFor_of_name pn_0) (fun pr_ en_ st_ me_ below meth_ co_ s₁ Bd hx hby hml hown hZ X0 e0 G gv gf => ?_)
  have hnm := (name_of_methodNamed Bd.named Bd.method).1
  have N0 := Fr.nil n0
  have K0 := Keep.refl h0 [a]
  refine gv (fun _ kQ => castTop (ef_6 me_ a d (0 : Int32) (4 : Int32)) kQ) ?_
  show G (s₁.setTop (mkF me_ 0 #[.val (.ref a), .val (.ref d), .val (.int 0), .val (.int 4), .val .null, .unset] []))
  refine gv (fun _ kQ => XS.aloadN X0.here hx rfl (hb hby d5_0) rfl rfl kQ) ?_
  obtain ⟨T1044, X1044, e1044, st1044⟩ := initO X0 hx hZ hown (t_22 hw) (t_23 hw) (t_24 hw) e0 (g := (mkF me_ 1 #[.val (.ref a), .val (.ref d), .val (.int 0), .val (.int 4), .val .null, .unset] [(.ref a)])) rfl (by rw [hml]; rfl) rfl (hb hby d5_1) (by decide) (W := 0) (by show 2 * 0 + _ ≤ _; exact Nat.le_of_eq rfl) (by decide)
  refine gv st1044 ?_
  refine gv (fun _ kQ => XS.iloadN X1044.here hx rfl (hb hby d5_4) rfl (XS.ifYes X1044.here hx rfl (pc0 := 5) (pc' := 27) rfl (hb hby d5_5) rfl ((if0 _ _).trans (feq (by decide : ¬ ((4 : Int32) = (0 : Int32)))).2) (by decide) (by decide) kQ)) ?_
  show G (T1044.setTop (mkF me_ 27 #[.val (.ref a), .val (.ref d), .val (.int 0), .val (.int 4), .val .null, .unset] []))
  obtain ⟨T1045, X1045, e1045, st1045⟩ := getS2 X1044 hx hZ hown (host := "") (Or.inl (t_47 hw)) Via.refl e1044 (u0.ext O0.2) (g := (mkF me_ 27 #[.val (.ref a), .val (.ref d), .val (.int 0), .val (.int 4), .val .null, .unset] [])) rfl (hb hby d5_27)
  refine gv st1045 ?_
  refine gv (fun _ kQ => XS.ifNo X1045.here hx rfl (hb hby d5_30) rfl ((if0 _ _).trans (feq u1).1) (XS.aloadN X1045.here hx rfl (hb hby d5_33) rfl rfl (XS.iloadN X1045.here hx rfl (hb hby d5_34) rfl (XS.iloadN X1045.here hx rfl (hb hby d5_35) rfl kQ)))) ?_
  show G (T1045.setTop (mkF me_ 36 #[.val (.ref a), .val (.ref d), .val (.int 0), .val (.int 4), .val .null, .unset] [(.int 4), (.int 0), (.ref d)]))
  obtain ⟨_, _, ⟨T1046, L1046, k1046, n1046⟩, -, X1046, ⟨Lc1046, hQ1046, l1046, y1046, z1046⟩, st1046⟩ := Jvm.LawKit.callS X1045 hx (y := m_17) hown (mvT hZ (t_48 hw)) (mvT hZ (t_49 hw)) (mvT hZ (t_50 hw)) (mvT hZ (t_51 hw)) (by decide) (backOf (W := 0) (rm_cmpr4 l Z a0 hw [] d kd c0 c1 c2 c3 h0 n0 O0 u5 u6 u7 u8 u2 u3 u4 u13) hZ (t_51 hw) (t_50 hw) (by decide) (by decide)) (g := (mkF me_ 36 #[.val (.ref a), .val (.ref d), .val (.int 0), .val (.int 4), .val .null, .unset] [(.int 4), (.int 0), (.ref d)])) rfl (by rw [hml]; rfl) (argsL := [(.ref d), (.int 0), (.int 4)]) (rest := []) (lenOf pd_12 rfl) rfl (by show 2 * 0 + _ ≤ _; exact Nat.le_of_eq rfl) (hb hby d5_36) (fun _ _ => ⟨rfl, e1045, (by decide : 0 + 2 ≤ _), (by decide : 0 + 12 ≤ _)⟩)
  dsimp only [Pt.U, Pt.locs, Pt.cells, Pt.slots] at X1046 l1046 y1046 z1046 st1046 hQ1046
  subst l1046 y1046 z1046
  obtain ⟨b_1046, rfl, Nq1046, Kq1046, w1046_0, w1046_1⟩ := hQ1046
  have N1047 := Fr.app N0 Nq1046
  obtain ⟨h1046, e1046⟩ : ∃ z, T1046.heap = z := ⟨_, rfl⟩
  rw [e1046] at Kq1046 w1046_1
  have ne1048 : a ≠ b_1046 := Nat.ne_of_lt (Nat.lt_of_lt_of_le u9.lt w1046_0)
  have f1052 := u9.keep Kq1046
  have f1053 := u10.keep Kq1046 nin0
  have f1054 := u11.keep Kq1046 nin0
  have O1056 := O0.keep Kq1046 all0
  have K1057 := K0.trans Kq1046 all0
  refine gv st1046 ?_
  rcases w1046_1 with ⟨k1058, A1058, l1058_0, l1058_1, l1058_2, l1058_3⟩ | ⟨k1058, A1058⟩
  · skip
    refine gv (fun _ kQ => XS.astore X1046.here hx rfl (hb hby d5_39) rfl rfl (l' := #[.val (.ref a), .val (.ref d), .val (.int 0), .val (.int 4), .val .null, .val (.ref b_1046)]) rfl (XS.aloadN X1046.here hx rfl (hb hby d5_41) rfl rfl (XS.aload X1046.here hx rfl (hb hby d5_42) rfl rfl (XS.iloadN X1046.here hx rfl (hb hby d5_44) rfl kQ)))) ?_
    show G (T1046.setTop (mkF me_ 45 #[.val (.ref a), .val (.ref d), .val (.int 0), .val (.int 4), .val .null, .val (.ref b_1046)] [(.int 4), (.ref b_1046), (.ref a)]))
    obtain ⟨_, _, ⟨T1059, L1059, k1059, n1059⟩, -, X1059, ⟨Lc1059, hQ1059, l1059, y1059, z1059⟩, st1059⟩ := Jvm.LawKit.callS X1046 hx (y := m_16) hown (mvT hZ (t_55 hw)) (mvT hZ (t_56 hw)) (mvT hZ (t_50 hw)) (mvT hZ (t_57 hw)) (by decide) (backOf (W := 1) (rm_cfal4_4 l Z a0 hw [] b_1046 k1058 (c0.toInt8.toInt32) (c1.toInt8.toInt32) (c2.toInt8.toInt32) (c3.toInt8.toInt32) h1046 n0 O1056 A1058) hZ (t_57 hw) (t_50 hw) (by decide) (by decide)) (g := (mkF me_ 45 #[.val (.ref a), .val (.ref d), .val (.int 0), .val (.int 4), .val .null, .val (.ref b_1046)] [(.int 4), (.ref b_1046), (.ref a)])) rfl (by rw [hml]; rfl) (argsL := [(.ref b_1046), (.int 4)]) (rest := [(.ref a)]) (lenOf pd_13 rfl) rfl (by show 2 * 0 + _ ≤ _; exact Nat.le_of_eq rfl) (hb hby d5_45) (fun _ _ => ⟨rfl, e1046, (by decide : 2 + 0 ≤ _), (by decide : 12 + 0 ≤ _)⟩)
    dsimp only [Pt.U, Pt.locs, Pt.cells, Pt.slots] at X1059 l1059 y1059 z1059 st1059 hQ1059
    subst l1059 y1059 z1059
    obtain ⟨rfl, Nq1059, eq1059⟩ := hQ1059
    have N1060 := Fr.app N1047 Nq1059
    refine gv st1059 ?_
    obtain ⟨T1061, h1061, X1061, e1061, W1061, st1061⟩ := putFN X1059 hx hZ hown (t_32 hw) Via.refl eq1059 f1054 f1052 (Or.inr ⟨(t_28 hw), rfl, hnm⟩) (t_12 hw) (ty := .byte) (v' := (.int 0)) (by decide) rfl rfl (g := (mkF me_ 48 #[.val (.ref a), .val (.ref d), .val (.int 0), .val (.int 4), .val .null, .val (.ref b_1046)] [(.int 0), (.ref a)])) rfl rfl (hb hby d5_48)
    refine gv st1061 ?_
    have f1063 := f1052.wr W1061
    have f1064 := f1053.other W1061 (Or.inr (slot_ne (Or.inr (t_27 hw)) (Or.inr (t_28 hw)) (by decide) (t := (.array .byte)) (t' := .byte) (by decide) (by decide)))
    have f1066 := A1058.other W1061 (Ne.symm ne1048)
    have K1068 := K1057.wr W1061 (Or.inl (List.mem_of_getElem? (i := 0) rfl))
    have N1069 := Fr.snoc X1061 N1060 u12
    have f1062 : Fld Z h1061 a "java/lang/String" "coder" "B" (.int 0) := f1054.same W1061
    refine gv (fun _ kQ => XS.aloadN X1061.here hx rfl (hb hby d5_51) rfl rfl (XS.aload X1061.here hx rfl (hb hby d5_52) rfl rfl kQ)) ?_
    show G (T1061.setTop (mkF me_ 54 #[.val (.ref a), .val (.ref d), .val (.int 0), .val (.int 4), .val .null, .val (.ref b_1046)] [(.ref b_1046), (.ref a)]))
    obtain ⟨T1070, h1070, X1070, e1070, W1070, st1070⟩ := putF X1061 hx hZ hown (host := "") (Or.inl (t_31 hw)) Via.refl e1061 f1064 f1063 (Or.inr ⟨(t_27 hw), rfl, hnm⟩) (t_12 hw) (ty := (.array .byte)) (by decide) rfl rfl (g := (mkF me_ 54 #[.val (.ref a), .val (.ref d), .val (.int 0), .val (.int 4), .val .null, .val (.ref b_1046)] [(.ref b_1046), (.ref a)])) rfl rfl (hb hby d5_54)
    refine gv st1070 ?_
    have f1072 := f1063.wr W1070
    have f1073 := f1062.other W1070 (Or.inr (slot_ne (Or.inr (t_28 hw)) (Or.inr (t_27 hw)) (by decide) (t := .byte) (t' := (.array .byte)) (by decide) (by decide)))
    have f1075 := f1066.other W1070 (Ne.symm ne1048)
    have K1077 := K1068.wr W1070 (Or.inl (List.mem_of_getElem? (i := 0) rfl))
    have N1078 := Fr.snoc X1070 N1069 u12
    have f1071 : Fld Z h1070 a "java/lang/String" "value" "[B" (.ref b_1046) := f1064.same W1070
    refine gf _ (own_ret X1070 Bd.notSynchronized (v := none) (fun _ => rfl) ?_ (by decide) (by decide) (fun fs hr => X1070.returnOut hx Bd.returns (hb hby d5_57) hr))
    show Q_sciX4 Z a d kd c0 c1 c2 c3 cs h0 n0 _ T1070.heap _
    rw [e1070]
    exact ⟨rfl, N1078, K1077, f1072, ⟨Or.inl ⟨b_1046, k1058, f1072, f1073, f1071, f1075, l1058_0, l1058_1, l1058_2, l1058_3⟩, u5, u6, u7, u8⟩⟩
  · skip
    refine gv (fun _ kQ => XS.astore X1046.here hx rfl (hb hby d5_39) rfl rfl (l' := #[.val (.ref a), .val (.ref d), .val (.int 0), .val (.int 4), .val .null, .val (.ref b_1046)]) rfl (XS.aloadN X1046.here hx rfl (hb hby d5_41) rfl rfl (XS.aload X1046.here hx rfl (hb hby d5_42) rfl rfl (XS.iloadN X1046.here hx rfl (hb hby d5_44) rfl kQ)))) ?_
    show G (T1046.setTop (mkF me_ 45 #[.val (.ref a), .val (.ref d), .val (.int 0), .val (.int 4), .val .null, .val (.ref b_1046)] [(.int 4), (.ref b_1046), (.ref a)]))
    obtain ⟨_, _, ⟨T1079, L1079, k1079, n1079⟩, -, X1079, ⟨Lc1079, hQ1079, l1079, y1079, z1079⟩, st1079⟩ := Jvm.LawKit.callS X1046 hx (y := m_16) hown (mvT hZ (t_55 hw)) (mvT hZ (t_56 hw)) (mvT hZ (t_50 hw)) (mvT hZ (t_57 hw)) (by decide) (backOf (W := 1) (rm_cfal4_8 l Z a0 hw [] b_1046 k1058 ((c0 >>> ((0 : Int32) &&& 31)).toInt8.toInt32) ((c0 >>> ((8 : Int32) &&& 31)).toInt8.toInt32) ((c1 >>> ((0 : Int32) &&& 31)).toInt8.toInt32) ((c1 >>> ((8 : Int32) &&& 31)).toInt8.toInt32) ((c2 >>> ((0 : Int32) &&& 31)).toInt8.toInt32) ((c2 >>> ((8 : Int32) &&& 31)).toInt8.toInt32) ((c3 >>> ((0 : Int32) &&& 31)).toInt8.toInt32) ((c3 >>> ((8 : Int32) &&& 31)).toInt8.toInt32) h1046 n0 O1056 A1058) hZ (t_57 hw) (t_50 hw) (by decide) (by decide)) (g := (mkF me_ 45 #[.val (.ref a), .val (.ref d), .val (.int 0), .val (.int 4), .val .null, .val (.ref b_1046)] [(.int 4), (.ref b_1046), (.ref a)])) rfl (by rw [hml]; rfl) (argsL := [(.ref b_1046), (.int 4)]) (rest := [(.ref a)]) (lenOf pd_13 rfl) rfl (by show 2 * 0 + _ ≤ _; exact Nat.le_of_eq rfl) (hb hby d5_45) (fun _ _ => ⟨rfl, e1046, (by decide : 2 + 0 ≤ _), (by decide : 12 + 0 ≤ _)⟩)
    dsimp only [Pt.U, Pt.locs, Pt.cells, Pt.slots] at X1079 l1079 y1079 z1079 st1079 hQ1079
    subst l1079 y1079 z1079
    obtain ⟨rfl, Nq1079, eq1079⟩ := hQ1079
    have N1080 := Fr.app N1047 Nq1079
    refine gv st1079 ?_
    obtain ⟨T1081, h1081, X1081, e1081, W1081, st1081⟩ := putFN X1079 hx hZ hown (t_32 hw) Via.refl eq1079 f1054 f1052 (Or.inr ⟨(t_28 hw), rfl, hnm⟩) (t_12 hw) (ty := .byte) (v' := (.int 1)) (by decide) rfl rfl (g := (mkF me_ 48 #[.val (.ref a), .val (.ref d), .val (.int 0), .val (.int 4), .val .null, .val (.ref b_1046)] [(.int 1), (.ref a)])) rfl rfl (hb hby d5_48)
    refine gv st1081 ?_
    have f1083 := f1052.wr W1081
    have f1084 := f1053.other W1081 (Or.inr (slot_ne (Or.inr (t_27 hw)) (Or.inr (t_28 hw)) (by decide) (t := (.array .byte)) (t' := .byte) (by decide) (by decide)))
    have f1086 := A1058.other W1081 (Ne.symm ne1048)
    have K1088 := K1057.wr W1081 (Or.inl (List.mem_of_getElem? (i := 0) rfl))
    have N1089 := Fr.snoc X1081 N1080 u12
    have f1082 : Fld Z h1081 a "java/lang/String" "coder" "B" (.int 1) := f1054.same W1081
    refine gv (fun _ kQ => XS.aloadN X1081.here hx rfl (hb hby d5_51) rfl rfl (XS.aload X1081.here hx rfl (hb hby d5_52) rfl rfl kQ)) ?_
    show G (T1081.setTop (mkF me_ 54 #[.val (.ref a), .val (.ref d), .val (.int 0), .val (.int 4), .val .null, .val (.ref b_1046)] [(.ref b_1046), (.ref a)]))
    obtain ⟨T1090, h1090, X1090, e1090, W1090, st1090⟩ := putF X1081 hx hZ hown (host := "") (Or.inl (t_31 hw)) Via.refl e1081 f1084 f1083 (Or.inr ⟨(t_27 hw), rfl, hnm⟩) (t_12 hw) (ty := (.array .byte)) (by decide) rfl rfl (g := (mkF me_ 54 #[.val (.ref a), .val (.ref d), .val (.int 0), .val (.int 4), .val .null, .val (.ref b_1046)] [(.ref b_1046), (.ref a)])) rfl rfl (hb hby d5_54)
    refine gv st1090 ?_
    have f1092 := f1083.wr W1090
    have f1093 := f1082.other W1090 (Or.inr (slot_ne (Or.inr (t_28 hw)) (Or.inr (t_27 hw)) (by decide) (t := .byte) (t' := (.array .byte)) (by decide) (by decide)))
    have f1095 := f1086.other W1090 (Ne.symm ne1048)
    have K1097 := K1088.wr W1090 (Or.inl (List.mem_of_getElem? (i := 0) rfl))
    have N1098 := Fr.snoc X1090 N1089 u12
    have f1091 : Fld Z h1090 a "java/lang/String" "value" "[B" (.ref b_1046) := f1084.same W1090
    refine gf _ (own_ret X1090 Bd.notSynchronized (v := none) (fun _ => rfl) ?_ (by decide) (by decide) (fun fs hr => X1090.returnOut hx Bd.returns (hb hby d5_57) hr))
    show Q_sciX4 Z a d kd c0 c1 c2 c3 cs h0 n0 _ T1090.heap _
    rw [e1090]
    exact ⟨rfl, N1098, K1097, f1092, ⟨Or.inr ⟨b_1046, k1058, f1092, f1093, f1091, f1095⟩, u5, u6, u7, u8⟩⟩
def Q_scX4 (Z : State) (a d : Addr) (kd : ClassId) (c0 c1 : Int32) (c2 c3 cs : Int32) (h0 : Heap) (n0 : Nat) (v : Option Value) (h : Heap) (L : List Loc) : Prop := v = none ∧ Fr n0 L ∧ Keep h0 h [a] ∧ (Exa Z h a "java/lang/String") ∧ (own_S4 Z h a c0 c1 c2 c3)
theorem rm_scX4 (l : Launch) (Z : State) (a0 : Array Value) (hw : own_HW Z a0) (ws : List Jvm.Cond) (a d : Addr) (kd : ClassId) (c0 c1 : Int32) (c2 c3 cs : Int32) (h0 : Heap) (n0 : Nat) (O0 : Old Z n0 h0) (u0 : Sta Z Z.heap "java/lang/String" "COMPACT_STRINGS" "Z" (.int cs)) (u1 : ¬ (cs = (0 : Int32))) (u2 : Sta Z Z.heap "java/lang/StringUTF16" "$assertionsDisabled" "Z" (.int 1)) (u3 : Sta Z Z.heap "java/lang/StringUTF16" "HI_BYTE_SHIFT" "I" (.int 0)) (u4 : Sta Z Z.heap "java/lang/StringUTF16" "LO_BYTE_SHIFT" "I" (.int 8)) (u5 : nar .char c0 = c0) (u6 : nar .char c1 = c1) (u7 : nar .char c2 = c2) (u8 : nar .char c3 = c3) (u9 : Exa Z h0 a "java/lang/String") (u10 : Fld Z h0 a "java/lang/String" "value" "[B" .null) (u11 : Fld Z h0 a "java/lang/String" "coder" "B" (.int 0)) (u12 : n0 ≤ a) (u13 : Arv Z h0 d kd .char (4 : Int32) [(.int c0), (.int c1), (.int c2), (.int c3)] (.int 0)) (u14 : a ≠ d) :
    own_Met l Z m_6 jdk_42_method_3_code 2 none ws (own_R 5 2 12 74) #[(.ref a), (.ref d)] h0 (Q_scX4 Z a d kd c0 c1 c2 c3 cs h0 n0) := by
  refine own_open (plainFor_of_name pn_0) (fun pr_ en_ st_ me_ below meth_ co_ s₁ Bd hx hby hml hown hZ X0 e0 G gv gf => ?_)
  have N0 := Fr.nil n0
  have K0 := Keep.refl h0 [a]
  refine gv (fun _ kQ => castTop (ef_7 me_ a d) kQ) ?_
  show G (s₁.setTop (mkF me_ 0 #[.val (.ref a), .val (.ref d)] []))
  refine gv (fun _ kQ => XS.aloadN X0.here hx rfl (hb hby d4_0) rfl rfl (XS.aloadN X0.here hx rfl (hb hby d4_1) rfl rfl (XS.iconst X0.here hx rfl (hb hby d4_2) (XS.aloadN X0.here hx rfl (hb hby d4_3) rfl rfl kQ)))) ?_
  show G (s₁.setTop (mkF me_ 4 #[.val (.ref a), .val (.ref d)] [(.ref d), (.int 0), (.ref d), (.ref a)]))
  obtain ⟨cl1099, Ar1099, -, S1099, n1099, -, -⟩ := (id u13)
  refine gv (X0.arraylength hx (by rw [e0]; exact Ar1099.1) (State.isArrayOf_alike hZ.alike Ar1099.2.1) (g := (mkF me_ 4 #[.val (.ref a), .val (.ref d)] [(.ref d), (.int 0), (.ref d), (.ref a)])) rfl rfl (hb hby d4_4)) ?_
  rw [len_of S1099 n1099]
  refine gv (fun _ kQ => XS.aconstNull X0.here hx rfl (hb hby d4_5) kQ) ?_
  obtain ⟨_, _, ⟨T1100, L1100, k1100, n1100⟩, -, X1100, ⟨Lc1100, hQ1100, l1100, y1100, z1100⟩, st1100⟩ := X0.specialBack hx (y := m_7) rfl hown (mvT hZ (t_18 hw)) (mvT hZ (t_19 hw)) (mvT hZ (t_21 hw)) (by decide) (backOf (W := 0) (rm_sciX4 l Z a0 hw [] a d kd c0 c1 c2 c3 cs h0 n0 O0 u0 u1 u2 u3 u4 u5 u6 u7 u8 u9 u10 u11 u12 u13 u14) hZ (t_21 hw) (t_13 hw) (by decide) (by decide)) (g := (mkF me_ 6 #[.val (.ref a), .val (.ref d)] [.null, (.int 4), (.int 0), (.ref d), (.ref a)])) rfl (by rw [hml]; rfl) (Steps.refl _) (a := a) (argsL := [(.ref d), (.int 0), (.int 4), .null]) (rest := []) (lenOf pd_7 rfl) rfl (by show 2 * 0 + _ ≤ _; exact Nat.le_of_eq rfl) (hb hby d4_6) (fun _ _ => ⟨rfl, e0, (by decide : 0 + 2 ≤ _), (by decide : 0 + 12 ≤ _)⟩)
  dsimp only [Pt.U, Pt.locs, Pt.cells, Pt.slots] at X1100 l1100 y1100 z1100 st1100 hQ1100
  subst l1100 y1100 z1100
  obtain ⟨rfl, Nq1100, Kq1100, w1100_0, w1100_1⟩ := hQ1100
  have N1101 := Fr.app N0 Nq1100
  obtain ⟨h1100, e1100⟩ : ∃ z, T1100.heap = z := ⟨_, rfl⟩
  rw [e1100] at Kq1100 w1100_0 w1100_1
  have K1105 := K0.trans Kq1100 (allS (Or.inl (List.mem_of_getElem? (i := 0) rfl)) all0)
  refine gv (fun _ kQ => st1100.trans kQ) ?_
  refine gf _ (own_ret X1100 Bd.notSynchronized (v := none) (fun _ => rfl) ?_ (by decide) (by decide) (fun fs hr => X1100.returnOut hx Bd.returns (hb hby d4_9) hr))
  show Q_scX4 Z a d kd c0 c1 c2 c3 cs h0 n0 _ T1100.heap _
  rw [e1100]
  exact ⟨rfl, N1101, K1105, w1100_0, w1100_1⟩
theorem ef_12 (m : MethodId) (x0 : Int32) (x1 : Int32) (x2 : Int32) (x3 : Int32) (x4 : Int32)  : entryFrame m #[(.int x0), (.int x1), (.int x2), (.int x3), (.int x4)] 5 = mkF m 0 #[.val (.int x0), .val (.int x1), .val (.int x2), .val (.int x3), .val (.int x4)] [] := by first | (simp [entryFrame, mkF, argsToLocals, Value.category]; done) | rfl
theorem pn_4 : plainName "com/example/closemark/closemark/csv/CsvReaderHasShapePinLaw" = true := by first | (simp [plainName, overriddenIn]; done) | decide +kernel
theorem d3_0 : decode method_6_code 0 = .ok (.iload 4, 2) := by decide +kernel
theorem d3_2 : decode method_6_code 2 = .ok (.ifCond .ne 14, 3) := by decide +kernel
theorem d3_5 : decode method_6_code 5 = .ok (.new 32, 3) := by decide +kernel
theorem d3_8 : decode method_6_code 8 = .ok (.dup, 1) := by decide +kernel
theorem d3_9 : decode method_6_code 9 = .ok (.iconst 0, 1) := by decide +kernel
theorem d3_10 : decode method_6_code 10 = .ok (.newarray .char, 2) := by decide +kernel
theorem d3_12 : decode method_6_code 12 = .ok (.invokespecial 34, 3) := by decide +kernel
theorem pd_14 : parseMethodDescriptor "([C)V" = some ⟨[(.array .char)], none⟩ := by decide +kernel
theorem d3_15 : decode method_6_code 15 = .ok (.areturn, 1) := by decide +kernel
theorem d3_16 : decode method_6_code 16 = .ok (.iload 4, 2) := by decide +kernel
theorem d3_18 : decode method_6_code 18 = .ok (.iconst 1, 1) := by decide +kernel
theorem d3_19 : decode method_6_code 19 = .ok (.if_icmp .ne 18, 3) := by decide +kernel
theorem d3_22 : decode method_6_code 22 = .ok (.new 32, 3) := by decide +kernel
theorem d3_25 : decode method_6_code 25 = .ok (.dup, 1) := by decide +kernel
theorem d3_26 : decode method_6_code 26 = .ok (.iconst 1, 1) := by decide +kernel
theorem d3_27 : decode method_6_code 27 = .ok (.newarray .char, 2) := by decide +kernel
theorem d3_29 : decode method_6_code 29 = .ok (.dup, 1) := by decide +kernel
theorem d3_30 : decode method_6_code 30 = .ok (.iconst 0, 1) := by decide +kernel
theorem d3_31 : decode method_6_code 31 = .ok (.iload_n 0, 1) := by decide +kernel
theorem d3_32 : decode method_6_code 32 = .ok (.castore, 1) := by decide +kernel
theorem d3_33 : decode method_6_code 33 = .ok (.invokespecial 34, 3) := by decide +kernel
theorem d3_36 : decode method_6_code 36 = .ok (.areturn, 1) := by decide +kernel
theorem d3_37 : decode method_6_code 37 = .ok (.iload 4, 2) := by decide +kernel
theorem d3_39 : decode method_6_code 39 = .ok (.iconst 2, 1) := by decide +kernel
theorem d3_40 : decode method_6_code 40 = .ok (.if_icmp .ne 22, 3) := by decide +kernel
theorem d3_43 : decode method_6_code 43 = .ok (.new 32, 3) := by decide +kernel
theorem d3_46 : decode method_6_code 46 = .ok (.dup, 1) := by decide +kernel
theorem d3_47 : decode method_6_code 47 = .ok (.iconst 2, 1) := by decide +kernel
theorem d3_48 : decode method_6_code 48 = .ok (.newarray .char, 2) := by decide +kernel
theorem d3_50 : decode method_6_code 50 = .ok (.dup, 1) := by decide +kernel
theorem d3_51 : decode method_6_code 51 = .ok (.iconst 0, 1) := by decide +kernel
theorem d3_52 : decode method_6_code 52 = .ok (.iload_n 0, 1) := by decide +kernel
theorem d3_53 : decode method_6_code 53 = .ok (.castore, 1) := by decide +kernel
theorem d3_54 : decode method_6_code 54 = .ok (.dup, 1) := by decide +kernel
theorem d3_55 : decode method_6_code 55 = .ok (.iconst 1, 1) := by decide +kernel
theorem d3_56 : decode method_6_code 56 = .ok (.iload_n 1, 1) := by decide +kernel
theorem d3_57 : decode method_6_code 57 = .ok (.castore, 1) := by decide +kernel
theorem d3_58 : decode method_6_code 58 = .ok (.invokespecial 34, 3) := by decide +kernel
theorem d3_61 : decode method_6_code 61 = .ok (.areturn, 1) := by decide +kernel
theorem d3_62 : decode method_6_code 62 = .ok (.iload 4, 2) := by decide +kernel
theorem d3_64 : decode method_6_code 64 = .ok (.iconst 3, 1) := by decide +kernel
theorem d3_65 : decode method_6_code 65 = .ok (.if_icmp .ne 26, 3) := by decide +kernel
theorem d3_68 : decode method_6_code 68 = .ok (.new 32, 3) := by decide +kernel
theorem d3_71 : decode method_6_code 71 = .ok (.dup, 1) := by decide +kernel
theorem d3_72 : decode method_6_code 72 = .ok (.iconst 3, 1) := by decide +kernel
theorem d3_73 : decode method_6_code 73 = .ok (.newarray .char, 2) := by decide +kernel
theorem d3_75 : decode method_6_code 75 = .ok (.dup, 1) := by decide +kernel
theorem d3_76 : decode method_6_code 76 = .ok (.iconst 0, 1) := by decide +kernel
theorem d3_77 : decode method_6_code 77 = .ok (.iload_n 0, 1) := by decide +kernel
theorem d3_78 : decode method_6_code 78 = .ok (.castore, 1) := by decide +kernel
theorem d3_79 : decode method_6_code 79 = .ok (.dup, 1) := by decide +kernel
theorem d3_80 : decode method_6_code 80 = .ok (.iconst 1, 1) := by decide +kernel
theorem d3_81 : decode method_6_code 81 = .ok (.iload_n 1, 1) := by decide +kernel
theorem d3_82 : decode method_6_code 82 = .ok (.castore, 1) := by decide +kernel
theorem d3_83 : decode method_6_code 83 = .ok (.dup, 1) := by decide +kernel
theorem d3_84 : decode method_6_code 84 = .ok (.iconst 2, 1) := by decide +kernel
theorem d3_85 : decode method_6_code 85 = .ok (.iload_n 2, 1) := by decide +kernel
theorem d3_86 : decode method_6_code 86 = .ok (.castore, 1) := by decide +kernel
theorem d3_87 : decode method_6_code 87 = .ok (.invokespecial 34, 3) := by decide +kernel
theorem d3_90 : decode method_6_code 90 = .ok (.areturn, 1) := by decide +kernel
theorem d3_91 : decode method_6_code 91 = .ok (.new 32, 3) := by decide +kernel
theorem d3_94 : decode method_6_code 94 = .ok (.dup, 1) := by decide +kernel
theorem d3_95 : decode method_6_code 95 = .ok (.iconst 4, 1) := by decide +kernel
theorem d3_96 : decode method_6_code 96 = .ok (.newarray .char, 2) := by decide +kernel
theorem d3_98 : decode method_6_code 98 = .ok (.dup, 1) := by decide +kernel
theorem d3_99 : decode method_6_code 99 = .ok (.iconst 0, 1) := by decide +kernel
theorem d3_100 : decode method_6_code 100 = .ok (.iload_n 0, 1) := by decide +kernel
theorem d3_101 : decode method_6_code 101 = .ok (.castore, 1) := by decide +kernel
theorem d3_102 : decode method_6_code 102 = .ok (.dup, 1) := by decide +kernel
theorem d3_103 : decode method_6_code 103 = .ok (.iconst 1, 1) := by decide +kernel
theorem d3_104 : decode method_6_code 104 = .ok (.iload_n 1, 1) := by decide +kernel
theorem d3_105 : decode method_6_code 105 = .ok (.castore, 1) := by decide +kernel
theorem d3_106 : decode method_6_code 106 = .ok (.dup, 1) := by decide +kernel
theorem d3_107 : decode method_6_code 107 = .ok (.iconst 2, 1) := by decide +kernel
theorem d3_108 : decode method_6_code 108 = .ok (.iload_n 2, 1) := by decide +kernel
theorem d3_109 : decode method_6_code 109 = .ok (.castore, 1) := by decide +kernel
theorem d3_110 : decode method_6_code 110 = .ok (.dup, 1) := by decide +kernel
theorem d3_111 : decode method_6_code 111 = .ok (.iconst 3, 1) := by decide +kernel
theorem d3_112 : decode method_6_code 112 = .ok (.iload_n 3, 1) := by decide +kernel
theorem d3_113 : decode method_6_code 113 = .ok (.castore, 1) := by decide +kernel
theorem d3_114 : decode method_6_code 114 = .ok (.invokespecial 34, 3) := by decide +kernel
theorem d3_117 : decode method_6_code 117 = .ok (.areturn, 1) := by decide +kernel
def Q_str (Z : State) (c0 c1 : Int32) (c2 c3 : Int32) (ln cs : Int32) (h0 : Heap) (n0 : Nat) (v : Option Value) (h : Heap) (L : List Loc) : Prop := ∃ (s : Addr), v = some (.ref s) ∧ Fr n0 L ∧ Keep h0 h [] ∧ h0.size ≤ s ∧ (Exa Z h s "java/lang/String") ∧ (own_SX Z h s ln c0 c1 c2 c3)
theorem rm_str (l : Launch) (Z : State) (a0 : Array Value) (hw : own_HW Z a0) (ws : List Jvm.Cond) (c0 c1 : Int32) (c2 c3 : Int32) (ln cs : Int32) (h0 : Heap) (n0 : Nat) (O0 : Old Z n0 h0) (u0 : Sta Z Z.heap "java/lang/String" "COMPACT_STRINGS" "Z" (.int cs)) (u1 : ¬ (cs = (0 : Int32))) (u2 : Sta Z Z.heap "java/lang/StringUTF16" "$assertionsDisabled" "Z" (.int 1)) (u3 : Sta Z Z.heap "java/lang/StringUTF16" "HI_BYTE_SHIFT" "I" (.int 0)) (u4 : Sta Z Z.heap "java/lang/StringUTF16" "LO_BYTE_SHIFT" "I" (.int 8)) (u5 : nar .char c0 = c0) (u6 : nar .char c1 = c1) (u7 : nar .char c2 = c2) (u8 : nar .char c3 = c3) (u9 : (own_le4 ln)) :
    MetFree l m_4 (head1 (Jvm.Cond.code m_4 method_6_code 5 (some (.object "java/lang/String")) :: ws) (own_R 6 6 20 88)) (fun aV U => aV = #[(.int c0), (.int c1), (.int c2), (.int c3), (.int ln)] ∧ Z.Warmed39 U.vm ∧ U.heap = h0 ∧ CHv Z own_EL U.vm h0 ∧ ∀ x ∈ ([] : List Addr), Safe Z own_EL U.vm h0 x) (fun _ _ _ _ _ => True) (fun _ U o U' => ∃ v L, o = .returned v ∧ Q_str Z c0 c1 c2 c3 ln cs h0 n0 v U'.heap L ∧ CHr Z own_EL U.vm U.heap U'.vm U'.heap ∧ ReturnedEndW U o U' L (own_R 6 6 20 88).cells (own_R 6 6 20 88).slots) := by
  refine MetFree.of_bodySF (plainFor_of_name pn_4) hisR ?_
  intro pr_ en_ st_ me_ args below meth_ co_ s₁ Bd hml0 hP hK
  obtain ⟨rfl, hZ, hh, hCH, hSF⟩ := hP
  have hx := Bd.exec
  have hby := Bd.bytes
  have hEL := own_hEL hw
  have wS := own_wS hw
  have hml : co_.maxLocals = 5 := hml0
  have hown : st_.vm.findClass "com/example/closemark/closemark/csv/CsvReaderHasShapePinLaw" = some me_.cls := findClass_of_methodNamed Bd.named
  have X0 : Stand pr_ l en_ (own_R 6 6 20 88) (st_.setVm st_.vm) me_ #[(.int c0), (.int c1), (.int c2), (.int c3), (.int ln)] below meth_ co_ s₁ [] 0 0 := Stand.of_body Bd
  have e0 : s₁.heap = h0 := by rw [← hh, Bd.state]; rfl
  have N0 := Fr.nil n0
  have K0 := Keep.refl h0 []
  have hS : st_.Since st_.vm 0 := (State.WarmedH.refl st_).since 0
  have hk : 0 ≤ h0.size := Nat.zero_le _
  have CR : CHr Z own_EL st_.vm h0 st_.vm h0 := CHr.refl hCH
  obtain ⟨G, gv, gf, gb⟩ := own_GW Z own_EL pr_.tables en_ below st_ (Q_str Z c0 c1 c2 c3 ln cs h0 n0) (own_R 6 6 20 88).cells (own_R 6 6 20 88).slots
  show own_FinW Z own_EL pr_.tables en_ below st_ (Q_str Z c0 c1 c2 c3 ln cs h0 n0) (own_R 6 6 20 88).cells (own_R 6 6 20 88).slots (s₁.setTop (entryFrame me_ #[(.int c0), (.int c1), (.int c2), (.int c3), (.int ln)] 5))
  refine gb _ (gv (fun _ kQ => castTop (ef_12 me_ c0 c1 c2 c3 ln) kQ) ?_)
  show G (s₁.setTop (mkF me_ 0 #[.val (.int c0), .val (.int c1), .val (.int c2), .val (.int c3), .val (.int ln)] []))
  refine gv (fun _ kQ => XS.iload X0.here hx rfl (hb hby d3_0) rfl kQ) ?_
  by_cases hc1106 : ln = (0 : Int32)
  · refine gv (fun _ kQ => XS.ifNo X0.here hx rfl (hb hby d3_2) rfl ((if0 _ _).trans (teq hc1106).2) kQ) ?_
    obtain ⟨T1107, h1107, X1107, e1107, E1107, A1107, D1107, -, st1107⟩ := newO X0 hx hZ hown (t_11 hw) (t_12 hw) (t_13 hw) e0 (g := (mkF me_ 5 #[.val (.int c0), .val (.int c1), .val (.int c2), .val (.int c3), .val (.int ln)] [])) rfl (hb hby d3_5) (by decide) (by decide)
    obtain ⟨b1107, g1107⟩ : ∃ z, z = h0.size := ⟨_, rfl⟩
    rw [← g1107] at A1107 D1107 st1107
    refine gv st1107 ?_
    have g1108 : n0 ≤ b1107 := Nat.le_trans (own_old O0) (Nat.le_of_eq g1107.symm)
    have z1109 : h0.size ≤ b1107 := Nat.le_trans K0.1 (Nat.le_of_eq g1107.symm)
    have sf1110 : Safe Z own_EL st_.vm h0 b1107 := Safe.new (Nat.le_of_eq g1107.symm)
    have sf1111 := Safe.ext E1107 CR.1 sf1110
    have CR := CR.trans (CHr.ext E1107 CR.1)
    have hk := Nat.le_trans hk E1107.1
    have O1112 := O0.ext E1107
    have K1113 := K0.ext E1107
    have f1114 : Fld Z h1107 b1107 "java/lang/String" "value" "[B" .null := D1107 (Or.inr (t_27 hw)) (ty := (.array .byte)) (by decide)
    have f1115 : Fld Z h1107 b1107 "java/lang/String" "coder" "B" (.int 0) := D1107 (Or.inr (t_28 hw)) (ty := .byte) (by decide)
    refine gv (fun _ kQ => XS.dup X1107.here hx rfl (hb hby d3_8) rfl rfl (XS.iconst X1107.here hx rfl (hb hby d3_9) kQ)) ?_
    show G (T1107.setTop (mkF me_ 10 #[.val (.int c0), .val (.int c1), .val (.int c2), .val (.int c3), .val (.int ln)] [(.int 0), (.ref b1107), (.ref b1107)]))
    obtain ⟨T1116, h1116, k1116, X1116, e1116, E1116, A1116, st1116⟩ := newP X1107 hx hZ (hw _ (List.mem_of_getElem? (i := 14) rfl)) e1107 (g := (mkF me_ 10 #[.val (.int c0), .val (.int c1), .val (.int c2), .val (.int c3), .val (.int ln)] [(.int 0), (.ref b1107), (.ref b1107)])) rfl (hb hby d3_10) rfl (by decide) (cap := 0) (by decide) (by decide) (by decide) (by decide)
    obtain ⟨b1116, g1116⟩ : ∃ z, z = h1107.size := ⟨_, rfl⟩
    rw [← g1116] at A1116 st1116
    refine gv st1116 ?_
    have f1121 := A1107.ext E1116
    have f1122 := f1114.ext E1116
    have f1123 := f1115.ext E1116
    have sf1124 := Safe.ext E1116 CR.1 sf1111
    have CR := CR.trans (CHr.ext E1116 CR.1)
    have hk := Nat.le_trans hk E1116.1
    have O1126 := O1112.ext E1116
    have K1127 := K1113.ext E1116
    have V1116 : Arv Z h1116 b1116 k1116 .char (0 : Int32) [] (.int 0) := (Arv.new A1116 (by decide)).pad (pad_rep [] (.int 0) 0)
    obtain ⟨_, _, ⟨T1128, L1128, k1128, n1128⟩, -, X1128, hS1128, hg1128, ⟨Lc1128, hQ1128, l1128, y1128, z1128, CRn1128⟩, st1128⟩ := X1116.specialBackS hx (y := m_6) rfl hown (mvT hZ (t_15 hw)) (mvT hZ (t_16 hw)) (mvT hZ (t_17 hw)) (by decide) (own_backH (W := 1) (rm_sc0 l Z a0 hw [] b1107 b1116 k1116 h1116 n0 O1126 f1121 f1122 f1123 g1108 V1116) hZ (t_17 hw) (t_13 hw) (by decide) (by decide) hEL CR.1 (own_sfS f1121.lt sf1124 own_sf0)) (g := (mkF me_ 12 #[.val (.int c0), .val (.int c1), .val (.int c2), .val (.int c3), .val (.int ln)] [(.ref b1116), (.ref b1107), (.ref b1107)])) rfl (by rw [hml]; rfl) (Steps.refl _) (a := b1107) (argsL := [(.ref b1116)]) (rest := [(.ref b1107)]) (lenOf pd_14 rfl) rfl (by show 2 * 0 + _ ≤ _; exact Nat.le_of_eq rfl) (hb hby d3_12) (fun _ _ => ⟨rfl, e1116, (by decide : 2 + 4 ≤ _), (by decide : 4 + 8 ≤ _)⟩)
    dsimp only [Pt.U, Pt.locs, Pt.cells, Pt.slots] at X1128 l1128 y1128 z1128 st1128 hQ1128 hS1128 hg1128 CRn1128
    subst l1128 y1128 z1128
    have hS := foldS hS (by rw [e1116]; exact hk) hS1128 hg1128
    have hZ : Z.Warmed39 T1128.vm := State.Warmed39.trans (t := st_.setVm st_.vm) hZ hS1128.1
    have hown : T1128.vm.findClass "com/example/closemark/closemark/csv/CsvReaderHasShapePinLaw" = some me_.cls := by rw [hS1128.1.alike.findClass]; exact hown
    have X1128 : Stand pr_ l en_ _ (st_.setVm T1128.vm) me_ _ below meth_ co_ T1128 _ _ _ := X1128
    obtain ⟨b_1128, k_1128, rfl, Nq1128, Kq1128, w1128_0, w1128_1, w1128_2, w1128_3⟩ := hQ1128
    have N1129 := Fr.app N0 Nq1128
    obtain ⟨h1128, e1128⟩ : ∃ z, T1128.heap = z := ⟨_, rfl⟩
    rw [e1128] at Kq1128 CRn1128 w1128_0 w1128_1 w1128_2 w1128_3
    have CR := CR.trans CRn1128
    obtain ⟨kk1128, hkk1128⟩ : ∃ z, z = T1128.heap.size := ⟨_, rfl⟩
    rw [← hkk1128] at hS
    have hk : kk1128 ≤ h1128.size := by rw [hkk1128, e1128]; exact Nat.le_refl _
    have K1135 := K1127.trans Kq1128 (allS (Or.inr z1109) all0)
    refine gv (fun _ kQ => st1128.trans kQ) ?_
    refine gf _ (own_retW X1128 Bd.notSynchronized hS (by rw [e1128]; exact hk) (v := some (.ref b1107)) (own_rv Bd.returns) ?_ (by decide) (by decide) (by rw [hh, e1128]; exact CR.trans (CHv.at X1128 hZ hEL CR.1)) (fun fs hr => retOut X1128 hx (t := (.object "java/lang/String")) Bd.returns rfl (Or.inr (Or.inr (Or.inr (Or.inr ⟨rfl, rfl, rfl⟩)))) (hb hby d3_15) hr))
    show Q_str Z c0 c1 c2 c3 ln cs h0 n0 _ T1128.heap _
    rw [e1128]
    exact ⟨b1107, rfl, N1129, K1135, z1109, w1128_0, Or.inl (⟨hc1106, ⟨b_1128, k_1128, w1128_0, w1128_1, w1128_2, w1128_3⟩⟩)⟩
  · refine gv (fun _ kQ => XS.ifYes X0.here hx rfl (pc0 := 2) (pc' := 16) rfl (hb hby d3_2) rfl ((if0 _ _).trans (feq hc1106).2) (by decide) (by decide) kQ) ?_
    refine gv (fun _ kQ => XS.iload X0.here hx rfl (hb hby d3_16) rfl (XS.iconst X0.here hx rfl (hb hby d3_18) kQ)) ?_
    show G (s₁.setTop (mkF me_ 19 #[.val (.int c0), .val (.int c1), .val (.int c2), .val (.int c3), .val (.int ln)] [(.int 1), (.int ln)]))
    by_cases hc1136 : ln = (1 : Int32)
    · refine gv (fun _ kQ => XS.icmpNo X0.here hx rfl (hb hby d3_19) rfl (teq hc1136).2 kQ) ?_
      obtain ⟨T1137, h1137, X1137, e1137, E1137, A1137, D1137, -, st1137⟩ := newO X0 hx hZ hown (t_11 hw) (t_12 hw) (t_13 hw) e0 (g := (mkF me_ 22 #[.val (.int c0), .val (.int c1), .val (.int c2), .val (.int c3), .val (.int ln)] [])) rfl (hb hby d3_22) (by decide) (by decide)
      obtain ⟨b1137, g1137⟩ : ∃ z, z = h0.size := ⟨_, rfl⟩
      rw [← g1137] at A1137 D1137 st1137
      refine gv st1137 ?_
      have g1138 : n0 ≤ b1137 := Nat.le_trans (own_old O0) (Nat.le_of_eq g1137.symm)
      have z1139 : h0.size ≤ b1137 := Nat.le_trans K0.1 (Nat.le_of_eq g1137.symm)
      have sf1140 : Safe Z own_EL st_.vm h0 b1137 := Safe.new (Nat.le_of_eq g1137.symm)
      have sf1141 := Safe.ext E1137 CR.1 sf1140
      have CR := CR.trans (CHr.ext E1137 CR.1)
      have hk := Nat.le_trans hk E1137.1
      have O1142 := O0.ext E1137
      have K1143 := K0.ext E1137
      have f1144 : Fld Z h1137 b1137 "java/lang/String" "value" "[B" .null := D1137 (Or.inr (t_27 hw)) (ty := (.array .byte)) (by decide)
      have f1145 : Fld Z h1137 b1137 "java/lang/String" "coder" "B" (.int 0) := D1137 (Or.inr (t_28 hw)) (ty := .byte) (by decide)
      refine gv (fun _ kQ => XS.dup X1137.here hx rfl (hb hby d3_25) rfl rfl (XS.iconst X1137.here hx rfl (hb hby d3_26) kQ)) ?_
      show G (T1137.setTop (mkF me_ 27 #[.val (.int c0), .val (.int c1), .val (.int c2), .val (.int c3), .val (.int ln)] [(.int 1), (.ref b1137), (.ref b1137)]))
      obtain ⟨T1146, h1146, k1146, X1146, e1146, E1146, A1146, st1146⟩ := newP X1137 hx hZ (hw _ (List.mem_of_getElem? (i := 14) rfl)) e1137 (g := (mkF me_ 27 #[.val (.int c0), .val (.int c1), .val (.int c2), .val (.int c3), .val (.int ln)] [(.int 1), (.ref b1137), (.ref b1137)])) rfl (hb hby d3_27) rfl (by decide) (cap := 1) (by decide) (by decide) (by decide) (by decide)
      obtain ⟨b1146, g1146⟩ : ∃ z, z = h1137.size := ⟨_, rfl⟩
      rw [← g1146] at A1146 st1146
      refine gv st1146 ?_
      have ne1147 : b1137 ≠ b1146 := Nat.ne_of_lt (Nat.lt_of_lt_of_le A1137.lt (Nat.le_of_eq g1146.symm))
      have g1148 : n0 ≤ b1146 := Nat.le_trans (own_old O1142) (Nat.le_of_eq g1146.symm)
      have z1149 : h0.size ≤ b1146 := Nat.le_trans K1143.1 (Nat.le_of_eq g1146.symm)
      have f1151 := A1137.ext E1146
      have f1152 := f1144.ext E1146
      have f1153 := f1145.ext E1146
      have sf1154 := Safe.ext E1146 CR.1 sf1141
      have CR := CR.trans (CHr.ext E1146 CR.1)
      have hk := Nat.le_trans hk E1146.1
      have O1156 := O1142.ext E1146
      have K1157 := K1143.ext E1146
      have V1146 : Arv Z h1146 b1146 k1146 .char (1 : Int32) [(.int 0)] (.int 0) := (Arv.new A1146 (by decide)).pad (pad_rep [] (.int 0) 1)
      refine gv (fun _ kQ => XS.dup X1146.here hx rfl (hb hby d3_29) rfl rfl (XS.iconst X1146.here hx rfl (hb hby d3_30) (XS.iloadN X1146.here hx rfl (hb hby d3_31) rfl kQ))) ?_
      show G (T1146.setTop (mkF me_ 32 #[.val (.int c0), .val (.int c1), .val (.int c2), .val (.int c3), .val (.int ln)] [(.int c0), (.int 0), (.ref b1146), (.ref b1146), (.ref b1137), (.ref b1137)]))
      obtain ⟨cl1158, Ar1158, q1158, S1158, n1158, H1158, G1158⟩ := (id V1146)
      have in1158 : ¬ ((0 : Int32) < 0 ∨ cl1158.slots.size ≤ ((0 : Int32)).toNatClampNeg) := inb_of S1158 ⟨by decide, by decide⟩
      obtain ⟨T1158, h1158, X1158, e1158, W1158, st1158⟩ := stC X1146 hx hZ e1146 Ar1158 (j := (0 : Int32)) in1158 (g := (mkF me_ 32 #[.val (.int c0), .val (.int c1), .val (.int c2), .val (.int c3), .val (.int ln)] [(.int c0), (.int 0), (.ref b1146), (.ref b1146), (.ref b1137), (.ref b1137)])) rfl rfl (hb hby d3_32)
      have W1158 : Wr h1146 h1158 b1146 ((0 : Int32)).toNatClampNeg (.int c0) := by have z := W1158; rw [u5] at z; exact z
      refine gv st1158 ?_
      have sf1160 := Safe.wr W1158 (Safe.arv hZ.alike V1146 (by simp)) CR.1 sf1154
      have CR := CR.trans (CHr.wr W1158 (Safe.arv hZ.alike V1146 (by simp)) CR.1)
      have hk := Nat.le_trans hk (Keep.of_wr W1158).1
      have f1162 := f1151.wr W1158
      have f1163 := f1152.other W1158 (Or.inl ne1147)
      have f1164 := f1153.other W1158 (Or.inl ne1147)
      have O1165 := O1156.wr W1158 g1148
      have K1166 := K1157.wr W1158 (Or.inr z1149)
      have N1167 := Fr.snoc X1158 N0 g1148
      have f1159 : Arv Z h1158 b1146 k1146 .char (1 : Int32) [(.int c0)] (.int 0) := Arv.set Ar1158 q1158 S1158 n1158 H1158 G1158 (by have z := fits_nar_char c0; rw [u5] at z; exact z) W1158 0 rfl (Nat.le_of_ble_eq_true rfl)
      obtain ⟨_, _, ⟨T1168, L1168, k1168, n1168⟩, -, X1168, ⟨Lc1168, hQ1168, l1168, y1168, z1168⟩, st1168⟩ := X1158.specialBack hx (y := m_6) rfl hown (mvT hZ (t_15 hw)) (mvT hZ (t_16 hw)) (mvT hZ (t_17 hw)) (by decide) (backOf (W := 1) (rm_scX1 l Z a0 hw [] b1137 b1146 k1146 c0 cs h1158 n0 O1165 u0 u1 u2 u3 u4 u5 f1162 f1163 f1164 g1138 f1159 ne1147) hZ (t_17 hw) (t_13 hw) (by decide) (by decide)) (g := (mkF me_ 33 #[.val (.int c0), .val (.int c1), .val (.int c2), .val (.int c3), .val (.int ln)] [(.ref b1146), (.ref b1137), (.ref b1137)])) rfl (by rw [hml]; rfl) (Steps.refl _) (a := b1137) (argsL := [(.ref b1146)]) (rest := [(.ref b1137)]) (lenOf pd_14 rfl) rfl (by show 2 * 0 + _ ≤ _; exact Nat.le_of_eq rfl) (hb hby d3_33) (fun _ _ => ⟨rfl, e1158, (by decide : 2 + 2 ≤ _), (by decide : 5 + 3 ≤ _)⟩)
      dsimp only [Pt.U, Pt.locs, Pt.cells, Pt.slots] at X1168 l1168 y1168 z1168 st1168 hQ1168
      subst l1168 y1168 z1168
      obtain ⟨rfl, Nq1168, Kq1168, w1168_0, w1168_1⟩ := hQ1168
      have N1169 := Fr.app N1167 Nq1168
      obtain ⟨h1168, e1168⟩ : ∃ z, T1168.heap = z := ⟨_, rfl⟩
      rw [e1168] at Kq1168 w1168_0 w1168_1
      have CR := CR.trans (CHr.keep Kq1168 (sfS sf1160 sf0) CR.1)
      have hk := Nat.le_trans hk Kq1168.1
      have K1175 := K1166.trans Kq1168 (allS (Or.inr z1139) all0)
      refine gv (fun _ kQ => st1168.trans kQ) ?_
      refine gf _ (own_retW X1168 Bd.notSynchronized hS (by rw [e1168]; exact hk) (v := some (.ref b1137)) (own_rv Bd.returns) ?_ (by decide) (by decide) (by rw [hh, e1168]; exact CR.trans (CHv.at X1168 hZ hEL CR.1)) (fun fs hr => retOut X1168 hx (t := (.object "java/lang/String")) Bd.returns rfl (Or.inr (Or.inr (Or.inr (Or.inr ⟨rfl, rfl, rfl⟩)))) (hb hby d3_36) hr))
      show Q_str Z c0 c1 c2 c3 ln cs h0 n0 _ T1168.heap _
      rw [e1168]
      exact ⟨b1137, rfl, N1169, K1175, z1139, w1168_0, Or.inr (Or.inl (⟨hc1136, w1168_1⟩))⟩
    · refine gv (fun _ kQ => XS.icmpYes X0.here hx rfl (pc0 := 19) (pc' := 37) rfl (hb hby d3_19) rfl (feq hc1136).2 (by decide) (by decide) kQ) ?_
      refine gv (fun _ kQ => XS.iload X0.here hx rfl (hb hby d3_37) rfl (XS.iconst X0.here hx rfl (hb hby d3_39) kQ)) ?_
      show G (s₁.setTop (mkF me_ 40 #[.val (.int c0), .val (.int c1), .val (.int c2), .val (.int c3), .val (.int ln)] [(.int 2), (.int ln)]))
      by_cases hc1176 : ln = (2 : Int32)
      · refine gv (fun _ kQ => XS.icmpNo X0.here hx rfl (hb hby d3_40) rfl (teq hc1176).2 kQ) ?_
        obtain ⟨T1177, h1177, X1177, e1177, E1177, A1177, D1177, -, st1177⟩ := newO X0 hx hZ hown (t_11 hw) (t_12 hw) (t_13 hw) e0 (g := (mkF me_ 43 #[.val (.int c0), .val (.int c1), .val (.int c2), .val (.int c3), .val (.int ln)] [])) rfl (hb hby d3_43) (by decide) (by decide)
        obtain ⟨b1177, g1177⟩ : ∃ z, z = h0.size := ⟨_, rfl⟩
        rw [← g1177] at A1177 D1177 st1177
        refine gv st1177 ?_
        have g1178 : n0 ≤ b1177 := Nat.le_trans (own_old O0) (Nat.le_of_eq g1177.symm)
        have z1179 : h0.size ≤ b1177 := Nat.le_trans K0.1 (Nat.le_of_eq g1177.symm)
        have sf1180 : Safe Z own_EL st_.vm h0 b1177 := Safe.new (Nat.le_of_eq g1177.symm)
        have sf1181 := Safe.ext E1177 CR.1 sf1180
        have CR := CR.trans (CHr.ext E1177 CR.1)
        have hk := Nat.le_trans hk E1177.1
        have O1182 := O0.ext E1177
        have K1183 := K0.ext E1177
        have f1184 : Fld Z h1177 b1177 "java/lang/String" "value" "[B" .null := D1177 (Or.inr (t_27 hw)) (ty := (.array .byte)) (by decide)
        have f1185 : Fld Z h1177 b1177 "java/lang/String" "coder" "B" (.int 0) := D1177 (Or.inr (t_28 hw)) (ty := .byte) (by decide)
        refine gv (fun _ kQ => XS.dup X1177.here hx rfl (hb hby d3_46) rfl rfl (XS.iconst X1177.here hx rfl (hb hby d3_47) kQ)) ?_
        show G (T1177.setTop (mkF me_ 48 #[.val (.int c0), .val (.int c1), .val (.int c2), .val (.int c3), .val (.int ln)] [(.int 2), (.ref b1177), (.ref b1177)]))
        obtain ⟨T1186, h1186, k1186, X1186, e1186, E1186, A1186, st1186⟩ := newP X1177 hx hZ (hw _ (List.mem_of_getElem? (i := 14) rfl)) e1177 (g := (mkF me_ 48 #[.val (.int c0), .val (.int c1), .val (.int c2), .val (.int c3), .val (.int ln)] [(.int 2), (.ref b1177), (.ref b1177)])) rfl (hb hby d3_48) rfl (by decide) (cap := 2) (by decide) (by decide) (by decide) (by decide)
        obtain ⟨b1186, g1186⟩ : ∃ z, z = h1177.size := ⟨_, rfl⟩
        rw [← g1186] at A1186 st1186
        refine gv st1186 ?_
        have ne1187 : b1177 ≠ b1186 := Nat.ne_of_lt (Nat.lt_of_lt_of_le A1177.lt (Nat.le_of_eq g1186.symm))
        have g1188 : n0 ≤ b1186 := Nat.le_trans (own_old O1182) (Nat.le_of_eq g1186.symm)
        have z1189 : h0.size ≤ b1186 := Nat.le_trans K1183.1 (Nat.le_of_eq g1186.symm)
        have f1191 := A1177.ext E1186
        have f1192 := f1184.ext E1186
        have f1193 := f1185.ext E1186
        have sf1194 := Safe.ext E1186 CR.1 sf1181
        have CR := CR.trans (CHr.ext E1186 CR.1)
        have hk := Nat.le_trans hk E1186.1
        have O1196 := O1182.ext E1186
        have K1197 := K1183.ext E1186
        have V1186 : Arv Z h1186 b1186 k1186 .char (2 : Int32) [(.int 0), (.int 0)] (.int 0) := (Arv.new A1186 (by decide)).pad (pad_rep [] (.int 0) 2)
        refine gv (fun _ kQ => XS.dup X1186.here hx rfl (hb hby d3_50) rfl rfl (XS.iconst X1186.here hx rfl (hb hby d3_51) (XS.iloadN X1186.here hx rfl (hb hby d3_52) rfl kQ))) ?_
        show G (T1186.setTop (mkF me_ 53 #[.val (.int c0), .val (.int c1), .val (.int c2), .val (.int c3), .val (.int ln)] [(.int c0), (.int 0), (.ref b1186), (.ref b1186), (.ref b1177), (.ref b1177)]))
        obtain ⟨cl1198, Ar1198, q1198, S1198, n1198, H1198, G1198⟩ := (id V1186)
        have in1198 : ¬ ((0 : Int32) < 0 ∨ cl1198.slots.size ≤ ((0 : Int32)).toNatClampNeg) := inb_of S1198 ⟨by decide, by decide⟩
        obtain ⟨T1198, h1198, X1198, e1198, W1198, st1198⟩ := stC X1186 hx hZ e1186 Ar1198 (j := (0 : Int32)) in1198 (g := (mkF me_ 53 #[.val (.int c0), .val (.int c1), .val (.int c2), .val (.int c3), .val (.int ln)] [(.int c0), (.int 0), (.ref b1186), (.ref b1186), (.ref b1177), (.ref b1177)])) rfl rfl (hb hby d3_53)
        have W1198 : Wr h1186 h1198 b1186 ((0 : Int32)).toNatClampNeg (.int c0) := by have z := W1198; rw [u5] at z; exact z
        refine gv st1198 ?_
        have sf1200 := Safe.wr W1198 (Safe.arv hZ.alike V1186 (by simp)) CR.1 sf1194
        have CR := CR.trans (CHr.wr W1198 (Safe.arv hZ.alike V1186 (by simp)) CR.1)
        have hk := Nat.le_trans hk (Keep.of_wr W1198).1
        have f1202 := f1191.wr W1198
        have f1203 := f1192.other W1198 (Or.inl ne1187)
        have f1204 := f1193.other W1198 (Or.inl ne1187)
        have O1205 := O1196.wr W1198 g1188
        have K1206 := K1197.wr W1198 (Or.inr z1189)
        have N1207 := Fr.snoc X1198 N0 g1188
        have f1199 : Arv Z h1198 b1186 k1186 .char (2 : Int32) [(.int c0), (.int 0)] (.int 0) := Arv.set Ar1198 q1198 S1198 n1198 H1198 G1198 (by have z := fits_nar_char c0; rw [u5] at z; exact z) W1198 0 rfl (Nat.le_of_ble_eq_true rfl)
        refine gv (fun _ kQ => XS.dup X1198.here hx rfl (hb hby d3_54) rfl rfl (XS.iconst X1198.here hx rfl (hb hby d3_55) (XS.iloadN X1198.here hx rfl (hb hby d3_56) rfl kQ))) ?_
        show G (T1198.setTop (mkF me_ 57 #[.val (.int c0), .val (.int c1), .val (.int c2), .val (.int c3), .val (.int ln)] [(.int c1), (.int 1), (.ref b1186), (.ref b1186), (.ref b1177), (.ref b1177)]))
        obtain ⟨cl1208, Ar1208, q1208, S1208, n1208, H1208, G1208⟩ := (id f1199)
        have in1208 : ¬ ((1 : Int32) < 0 ∨ cl1208.slots.size ≤ ((1 : Int32)).toNatClampNeg) := inb_of S1208 ⟨by decide, by decide⟩
        obtain ⟨T1208, h1208, X1208, e1208, W1208, st1208⟩ := stC X1198 hx hZ e1198 Ar1208 (j := (1 : Int32)) in1208 (g := (mkF me_ 57 #[.val (.int c0), .val (.int c1), .val (.int c2), .val (.int c3), .val (.int ln)] [(.int c1), (.int 1), (.ref b1186), (.ref b1186), (.ref b1177), (.ref b1177)])) rfl rfl (hb hby d3_57)
        have W1208 : Wr h1198 h1208 b1186 ((1 : Int32)).toNatClampNeg (.int c1) := by have z := W1208; rw [u6] at z; exact z
        refine gv st1208 ?_
        have sf1210 := Safe.wr W1208 (Safe.arv hZ.alike f1199 (by simp)) CR.1 sf1200
        have CR := CR.trans (CHr.wr W1208 (Safe.arv hZ.alike f1199 (by simp)) CR.1)
        have hk := Nat.le_trans hk (Keep.of_wr W1208).1
        have f1212 := f1202.wr W1208
        have f1213 := f1203.other W1208 (Or.inl ne1187)
        have f1214 := f1204.other W1208 (Or.inl ne1187)
        have O1215 := O1205.wr W1208 g1188
        have K1216 := K1206.wr W1208 (Or.inr z1189)
        have N1217 := Fr.snoc X1208 N1207 g1188
        have f1209 : Arv Z h1208 b1186 k1186 .char (2 : Int32) [(.int c0), (.int c1)] (.int 0) := Arv.set Ar1208 q1208 S1208 n1208 H1208 G1208 (by have z := fits_nar_char c1; rw [u6] at z; exact z) W1208 1 rfl (Nat.le_of_ble_eq_true rfl)
        obtain ⟨_, _, ⟨T1218, L1218, k1218, n1218⟩, -, X1218, ⟨Lc1218, hQ1218, l1218, y1218, z1218⟩, st1218⟩ := X1208.specialBack hx (y := m_6) rfl hown (mvT hZ (t_15 hw)) (mvT hZ (t_16 hw)) (mvT hZ (t_17 hw)) (by decide) (backOf (W := 1) (rm_scX2 l Z a0 hw [] b1177 b1186 k1186 c0 c1 cs h1208 n0 O1215 u0 u1 u2 u3 u4 u5 u6 f1212 f1213 f1214 g1178 f1209 ne1187) hZ (t_17 hw) (t_13 hw) (by decide) (by decide)) (g := (mkF me_ 58 #[.val (.int c0), .val (.int c1), .val (.int c2), .val (.int c3), .val (.int ln)] [(.ref b1186), (.ref b1177), (.ref b1177)])) rfl (by rw [hml]; rfl) (Steps.refl _) (a := b1177) (argsL := [(.ref b1186)]) (rest := [(.ref b1177)]) (lenOf pd_14 rfl) rfl (by show 2 * 0 + _ ≤ _; exact Nat.le_of_eq rfl) (hb hby d3_58) (fun _ _ => ⟨rfl, e1208, (by decide : 2 + 2 ≤ _), (by decide : 6 + 6 ≤ _)⟩)
        dsimp only [Pt.U, Pt.locs, Pt.cells, Pt.slots] at X1218 l1218 y1218 z1218 st1218 hQ1218
        subst l1218 y1218 z1218
        obtain ⟨rfl, Nq1218, Kq1218, w1218_0, w1218_1⟩ := hQ1218
        have N1219 := Fr.app N1217 Nq1218
        obtain ⟨h1218, e1218⟩ : ∃ z, T1218.heap = z := ⟨_, rfl⟩
        rw [e1218] at Kq1218 w1218_0 w1218_1
        have CR := CR.trans (CHr.keep Kq1218 (sfS sf1210 sf0) CR.1)
        have hk := Nat.le_trans hk Kq1218.1
        have K1225 := K1216.trans Kq1218 (allS (Or.inr z1179) all0)
        refine gv (fun _ kQ => st1218.trans kQ) ?_
        refine gf _ (own_retW X1218 Bd.notSynchronized hS (by rw [e1218]; exact hk) (v := some (.ref b1177)) (own_rv Bd.returns) ?_ (by decide) (by decide) (by rw [hh, e1218]; exact CR.trans (CHv.at X1218 hZ hEL CR.1)) (fun fs hr => retOut X1218 hx (t := (.object "java/lang/String")) Bd.returns rfl (Or.inr (Or.inr (Or.inr (Or.inr ⟨rfl, rfl, rfl⟩)))) (hb hby d3_61) hr))
        show Q_str Z c0 c1 c2 c3 ln cs h0 n0 _ T1218.heap _
        rw [e1218]
        exact ⟨b1177, rfl, N1219, K1225, z1179, w1218_0, Or.inr (Or.inr (Or.inl (⟨hc1176, w1218_1⟩)))⟩
      · refine gv (fun _ kQ => XS.icmpYes X0.here hx rfl (pc0 := 40) (pc' := 62) rfl (hb hby d3_40) rfl (feq hc1176).2 (by decide) (by decide) kQ) ?_
        refine gv (fun _ kQ => XS.iload X0.here hx rfl (hb hby d3_62) rfl (XS.iconst X0.here hx rfl (hb hby d3_64) kQ)) ?_
        show G (s₁.setTop (mkF me_ 65 #[.val (.int c0), .val (.int c1), .val (.int c2), .val (.int c3), .val (.int ln)] [(.int 3), (.int ln)]))
        by_cases hc1226 : ln = (3 : Int32)
        · refine gv (fun _ kQ => XS.icmpNo X0.here hx rfl (hb hby d3_65) rfl (teq hc1226).2 kQ) ?_
          obtain ⟨T1227, h1227, X1227, e1227, E1227, A1227, D1227, -, st1227⟩ := newO X0 hx hZ hown (t_11 hw) (t_12 hw) (t_13 hw) e0 (g := (mkF me_ 68 #[.val (.int c0), .val (.int c1), .val (.int c2), .val (.int c3), .val (.int ln)] [])) rfl (hb hby d3_68) (by decide) (by decide)
          obtain ⟨b1227, g1227⟩ : ∃ z, z = h0.size := ⟨_, rfl⟩
          rw [← g1227] at A1227 D1227 st1227
          refine gv st1227 ?_
          have g1228 : n0 ≤ b1227 := Nat.le_trans (own_old O0) (Nat.le_of_eq g1227.symm)
          have z1229 : h0.size ≤ b1227 := Nat.le_trans K0.1 (Nat.le_of_eq g1227.symm)
          have sf1230 : Safe Z own_EL st_.vm h0 b1227 := Safe.new (Nat.le_of_eq g1227.symm)
          have sf1231 := Safe.ext E1227 CR.1 sf1230
          have CR := CR.trans (CHr.ext E1227 CR.1)
          have hk := Nat.le_trans hk E1227.1
          have O1232 := O0.ext E1227
          have K1233 := K0.ext E1227
          have f1234 : Fld Z h1227 b1227 "java/lang/String" "value" "[B" .null := D1227 (Or.inr (t_27 hw)) (ty := (.array .byte)) (by decide)
          have f1235 : Fld Z h1227 b1227 "java/lang/String" "coder" "B" (.int 0) := D1227 (Or.inr (t_28 hw)) (ty := .byte) (by decide)
          refine gv (fun _ kQ => XS.dup X1227.here hx rfl (hb hby d3_71) rfl rfl (XS.iconst X1227.here hx rfl (hb hby d3_72) kQ)) ?_
          show G (T1227.setTop (mkF me_ 73 #[.val (.int c0), .val (.int c1), .val (.int c2), .val (.int c3), .val (.int ln)] [(.int 3), (.ref b1227), (.ref b1227)]))
          obtain ⟨T1236, h1236, k1236, X1236, e1236, E1236, A1236, st1236⟩ := newP X1227 hx hZ (hw _ (List.mem_of_getElem? (i := 14) rfl)) e1227 (g := (mkF me_ 73 #[.val (.int c0), .val (.int c1), .val (.int c2), .val (.int c3), .val (.int ln)] [(.int 3), (.ref b1227), (.ref b1227)])) rfl (hb hby d3_73) rfl (by decide) (cap := 3) (by decide) (by decide) (by decide) (by decide)
          obtain ⟨b1236, g1236⟩ : ∃ z, z = h1227.size := ⟨_, rfl⟩
          rw [← g1236] at A1236 st1236
          refine gv st1236 ?_
          have ne1237 : b1227 ≠ b1236 := Nat.ne_of_lt (Nat.lt_of_lt_of_le A1227.lt (Nat.le_of_eq g1236.symm))
          have g1238 : n0 ≤ b1236 := Nat.le_trans (own_old O1232) (Nat.le_of_eq g1236.symm)
          have z1239 : h0.size ≤ b1236 := Nat.le_trans K1233.1 (Nat.le_of_eq g1236.symm)
          have f1241 := A1227.ext E1236
          have f1242 := f1234.ext E1236
          have f1243 := f1235.ext E1236
          have sf1244 := Safe.ext E1236 CR.1 sf1231
          have CR := CR.trans (CHr.ext E1236 CR.1)
          have hk := Nat.le_trans hk E1236.1
          have O1246 := O1232.ext E1236
          have K1247 := K1233.ext E1236
          have V1236 : Arv Z h1236 b1236 k1236 .char (3 : Int32) [(.int 0), (.int 0), (.int 0)] (.int 0) := (Arv.new A1236 (by decide)).pad (pad_rep [] (.int 0) 3)
          refine gv (fun _ kQ => XS.dup X1236.here hx rfl (hb hby d3_75) rfl rfl (XS.iconst X1236.here hx rfl (hb hby d3_76) (XS.iloadN X1236.here hx rfl (hb hby d3_77) rfl kQ))) ?_
          show G (T1236.setTop (mkF me_ 78 #[.val (.int c0), .val (.int c1), .val (.int c2), .val (.int c3), .val (.int ln)] [(.int c0), (.int 0), (.ref b1236), (.ref b1236), (.ref b1227), (.ref b1227)]))
          obtain ⟨cl1248, Ar1248, q1248, S1248, n1248, H1248, G1248⟩ := (id V1236)
          have in1248 : ¬ ((0 : Int32) < 0 ∨ cl1248.slots.size ≤ ((0 : Int32)).toNatClampNeg) := inb_of S1248 ⟨by decide, by decide⟩
          obtain ⟨T1248, h1248, X1248, e1248, W1248, st1248⟩ := stC X1236 hx hZ e1236 Ar1248 (j := (0 : Int32)) in1248 (g := (mkF me_ 78 #[.val (.int c0), .val (.int c1), .val (.int c2), .val (.int c3), .val (.int ln)] [(.int c0), (.int 0), (.ref b1236), (.ref b1236), (.ref b1227), (.ref b1227)])) rfl rfl (hb hby d3_78)
          have W1248 : Wr h1236 h1248 b1236 ((0 : Int32)).toNatClampNeg (.int c0) := by have z := W1248; rw [u5] at z; exact z
          refine gv st1248 ?_
          have sf1250 := Safe.wr W1248 (Safe.arv hZ.alike V1236 (by simp)) CR.1 sf1244
          have CR := CR.trans (CHr.wr W1248 (Safe.arv hZ.alike V1236 (by simp)) CR.1)
          have hk := Nat.le_trans hk (Keep.of_wr W1248).1
          have f1252 := f1241.wr W1248
          have f1253 := f1242.other W1248 (Or.inl ne1237)
          have f1254 := f1243.other W1248 (Or.inl ne1237)
          have O1255 := O1246.wr W1248 g1238
          have K1256 := K1247.wr W1248 (Or.inr z1239)
          have N1257 := Fr.snoc X1248 N0 g1238
          have f1249 : Arv Z h1248 b1236 k1236 .char (3 : Int32) [(.int c0), (.int 0), (.int 0)] (.int 0) := Arv.set Ar1248 q1248 S1248 n1248 H1248 G1248 (by have z := fits_nar_char c0; rw [u5] at z; exact z) W1248 0 rfl (Nat.le_of_ble_eq_true rfl)
          refine gv (fun _ kQ => XS.dup X1248.here hx rfl (hb hby d3_79) rfl rfl (XS.iconst X1248.here hx rfl (hb hby d3_80) (XS.iloadN X1248.here hx rfl (hb hby d3_81) rfl kQ))) ?_
          show G (T1248.setTop (mkF me_ 82 #[.val (.int c0), .val (.int c1), .val (.int c2), .val (.int c3), .val (.int ln)] [(.int c1), (.int 1), (.ref b1236), (.ref b1236), (.ref b1227), (.ref b1227)]))
          obtain ⟨cl1258, Ar1258, q1258, S1258, n1258, H1258, G1258⟩ := (id f1249)
          have in1258 : ¬ ((1 : Int32) < 0 ∨ cl1258.slots.size ≤ ((1 : Int32)).toNatClampNeg) := inb_of S1258 ⟨by decide, by decide⟩
          obtain ⟨T1258, h1258, X1258, e1258, W1258, st1258⟩ := stC X1248 hx hZ e1248 Ar1258 (j := (1 : Int32)) in1258 (g := (mkF me_ 82 #[.val (.int c0), .val (.int c1), .val (.int c2), .val (.int c3), .val (.int ln)] [(.int c1), (.int 1), (.ref b1236), (.ref b1236), (.ref b1227), (.ref b1227)])) rfl rfl (hb hby d3_82)
          have W1258 : Wr h1248 h1258 b1236 ((1 : Int32)).toNatClampNeg (.int c1) := by have z := W1258; rw [u6] at z; exact z
          refine gv st1258 ?_
          have sf1260 := Safe.wr W1258 (Safe.arv hZ.alike f1249 (by simp)) CR.1 sf1250
          have CR := CR.trans (CHr.wr W1258 (Safe.arv hZ.alike f1249 (by simp)) CR.1)
          have hk := Nat.le_trans hk (Keep.of_wr W1258).1
          have f1262 := f1252.wr W1258
          have f1263 := f1253.other W1258 (Or.inl ne1237)
          have f1264 := f1254.other W1258 (Or.inl ne1237)
          have O1265 := O1255.wr W1258 g1238
          have K1266 := K1256.wr W1258 (Or.inr z1239)
          have N1267 := Fr.snoc X1258 N1257 g1238
          have f1259 : Arv Z h1258 b1236 k1236 .char (3 : Int32) [(.int c0), (.int c1), (.int 0)] (.int 0) := Arv.set Ar1258 q1258 S1258 n1258 H1258 G1258 (by have z := fits_nar_char c1; rw [u6] at z; exact z) W1258 1 rfl (Nat.le_of_ble_eq_true rfl)
          refine gv (fun _ kQ => XS.dup X1258.here hx rfl (hb hby d3_83) rfl rfl (XS.iconst X1258.here hx rfl (hb hby d3_84) (XS.iloadN X1258.here hx rfl (hb hby d3_85) rfl kQ))) ?_
          show G (T1258.setTop (mkF me_ 86 #[.val (.int c0), .val (.int c1), .val (.int c2), .val (.int c3), .val (.int ln)] [(.int c2), (.int 2), (.ref b1236), (.ref b1236), (.ref b1227), (.ref b1227)]))
          obtain ⟨cl1268, Ar1268, q1268, S1268, n1268, H1268, G1268⟩ := (id f1259)
          have in1268 : ¬ ((2 : Int32) < 0 ∨ cl1268.slots.size ≤ ((2 : Int32)).toNatClampNeg) := inb_of S1268 ⟨by decide, by decide⟩
          obtain ⟨T1268, h1268, X1268, e1268, W1268, st1268⟩ := stC X1258 hx hZ e1258 Ar1268 (j := (2 : Int32)) in1268 (g := (mkF me_ 86 #[.val (.int c0), .val (.int c1), .val (.int c2), .val (.int c3), .val (.int ln)] [(.int c2), (.int 2), (.ref b1236), (.ref b1236), (.ref b1227), (.ref b1227)])) rfl rfl (hb hby d3_86)
          have W1268 : Wr h1258 h1268 b1236 ((2 : Int32)).toNatClampNeg (.int c2) := by have z := W1268; rw [u7] at z; exact z
          refine gv st1268 ?_
          have sf1270 := Safe.wr W1268 (Safe.arv hZ.alike f1259 (by simp)) CR.1 sf1260
          have CR := CR.trans (CHr.wr W1268 (Safe.arv hZ.alike f1259 (by simp)) CR.1)
          have hk := Nat.le_trans hk (Keep.of_wr W1268).1
          have f1272 := f1262.wr W1268
          have f1273 := f1263.other W1268 (Or.inl ne1237)
          have f1274 := f1264.other W1268 (Or.inl ne1237)
          have O1275 := O1265.wr W1268 g1238
          have K1276 := K1266.wr W1268 (Or.inr z1239)
          have N1277 := Fr.snoc X1268 N1267 g1238
          have f1269 : Arv Z h1268 b1236 k1236 .char (3 : Int32) [(.int c0), (.int c1), (.int c2)] (.int 0) := Arv.set Ar1268 q1268 S1268 n1268 H1268 G1268 (by have z := fits_nar_char c2; rw [u7] at z; exact z) W1268 2 rfl (Nat.le_of_ble_eq_true rfl)
          obtain ⟨_, _, ⟨T1278, L1278, k1278, n1278⟩, -, X1278, ⟨Lc1278, hQ1278, l1278, y1278, z1278⟩, st1278⟩ := X1268.specialBack hx (y := m_6) rfl hown (mvT hZ (t_15 hw)) (mvT hZ (t_16 hw)) (mvT hZ (t_17 hw)) (by decide) (backOf (W := 1) (rm_scX3 l Z a0 hw [] b1227 b1236 k1236 c0 c1 c2 cs h1268 n0 O1275 u0 u1 u2 u3 u4 u5 u6 u7 f1272 f1273 f1274 g1228 f1269 ne1237) hZ (t_17 hw) (t_13 hw) (by decide) (by decide)) (g := (mkF me_ 87 #[.val (.int c0), .val (.int c1), .val (.int c2), .val (.int c3), .val (.int ln)] [(.ref b1236), (.ref b1227), (.ref b1227)])) rfl (by rw [hml]; rfl) (Steps.refl _) (a := b1227) (argsL := [(.ref b1236)]) (rest := [(.ref b1227)]) (lenOf pd_14 rfl) rfl (by show 2 * 0 + _ ≤ _; exact Nat.le_of_eq rfl) (hb hby d3_87) (fun _ _ => ⟨rfl, e1268, (by decide : 2 + 2 ≤ _), (by decide : 7 + 9 ≤ _)⟩)
          dsimp only [Pt.U, Pt.locs, Pt.cells, Pt.slots] at X1278 l1278 y1278 z1278 st1278 hQ1278
          subst l1278 y1278 z1278
          obtain ⟨rfl, Nq1278, Kq1278, w1278_0, w1278_1⟩ := hQ1278
          have N1279 := Fr.app N1277 Nq1278
          obtain ⟨h1278, e1278⟩ : ∃ z, T1278.heap = z := ⟨_, rfl⟩
          rw [e1278] at Kq1278 w1278_0 w1278_1
          have CR := CR.trans (CHr.keep Kq1278 (sfS sf1270 sf0) CR.1)
          have hk := Nat.le_trans hk Kq1278.1
          have K1285 := K1276.trans Kq1278 (allS (Or.inr z1229) all0)
          refine gv (fun _ kQ => st1278.trans kQ) ?_
          refine gf _ (own_retW X1278 Bd.notSynchronized hS (by rw [e1278]; exact hk) (v := some (.ref b1227)) (own_rv Bd.returns) ?_ (by decide) (by decide) (by rw [hh, e1278]; exact CR.trans (CHv.at X1278 hZ hEL CR.1)) (fun fs hr => retOut X1278 hx (t := (.object "java/lang/String")) Bd.returns rfl (Or.inr (Or.inr (Or.inr (Or.inr ⟨rfl, rfl, rfl⟩)))) (hb hby d3_90) hr))
          show Q_str Z c0 c1 c2 c3 ln cs h0 n0 _ T1278.heap _
          rw [e1278]
          exact ⟨b1227, rfl, N1279, K1285, z1229, w1278_0, Or.inr (Or.inr (Or.inr (Or.inl (⟨hc1226, w1278_1⟩))))⟩
        · refine gv (fun _ kQ => XS.icmpYes X0.here hx rfl (pc0 := 65) (pc' := 91) rfl (hb hby d3_65) rfl (feq hc1226).2 (by decide) (by decide) kQ) ?_
          obtain ⟨T1286, h1286, X1286, e1286, E1286, A1286, D1286, -, st1286⟩ := newO X0 hx hZ hown (t_11 hw) (t_12 hw) (t_13 hw) e0 (g := (mkF me_ 91 #[.val (.int c0), .val (.int c1), .val (.int c2), .val (.int c3), .val (.int ln)] [])) rfl (hb hby d3_91) (by decide) (by decide)
          obtain ⟨b1286, g1286⟩ : ∃ z, z = h0.size := ⟨_, rfl⟩
          rw [← g1286] at A1286 D1286 st1286
          refine gv st1286 ?_
          have g1287 : n0 ≤ b1286 := Nat.le_trans (own_old O0) (Nat.le_of_eq g1286.symm)
          have z1288 : h0.size ≤ b1286 := Nat.le_trans K0.1 (Nat.le_of_eq g1286.symm)
          have sf1289 : Safe Z own_EL st_.vm h0 b1286 := Safe.new (Nat.le_of_eq g1286.symm)
          have sf1290 := Safe.ext E1286 CR.1 sf1289
          have CR := CR.trans (CHr.ext E1286 CR.1)
          have hk := Nat.le_trans hk E1286.1
          have O1291 := O0.ext E1286
          have K1292 := K0.ext E1286
          have f1293 : Fld Z h1286 b1286 "java/lang/String" "value" "[B" .null := D1286 (Or.inr (t_27 hw)) (ty := (.array .byte)) (by decide)
          have f1294 : Fld Z h1286 b1286 "java/lang/String" "coder" "B" (.int 0) := D1286 (Or.inr (t_28 hw)) (ty := .byte) (by decide)
          refine gv (fun _ kQ => XS.dup X1286.here hx rfl (hb hby d3_94) rfl rfl (XS.iconst X1286.here hx rfl (hb hby d3_95) kQ)) ?_
          show G (T1286.setTop (mkF me_ 96 #[.val (.int c0), .val (.int c1), .val (.int c2), .val (.int c3), .val (.int ln)] [(.int 4), (.ref b1286), (.ref b1286)]))
          obtain ⟨T1295, h1295, k1295, X1295, e1295, E1295, A1295, st1295⟩ := newP X1286 hx hZ (hw _ (List.mem_of_getElem? (i := 14) rfl)) e1286 (g := (mkF me_ 96 #[.val (.int c0), .val (.int c1), .val (.int c2), .val (.int c3), .val (.int ln)] [(.int 4), (.ref b1286), (.ref b1286)])) rfl (hb hby d3_96) rfl (by decide) (cap := 4) (by decide) (by decide) (by decide) (by decide)
          obtain ⟨b1295, g1295⟩ : ∃ z, z = h1286.size := ⟨_, rfl⟩
          rw [← g1295] at A1295 st1295
          refine gv st1295 ?_
          have ne1296 : b1286 ≠ b1295 := Nat.ne_of_lt (Nat.lt_of_lt_of_le A1286.lt (Nat.le_of_eq g1295.symm))
          have g1297 : n0 ≤ b1295 := Nat.le_trans (own_old O1291) (Nat.le_of_eq g1295.symm)
          have z1298 : h0.size ≤ b1295 := Nat.le_trans K1292.1 (Nat.le_of_eq g1295.symm)
          have f1300 := A1286.ext E1295
          have f1301 := f1293.ext E1295
          have f1302 := f1294.ext E1295
          have sf1303 := Safe.ext E1295 CR.1 sf1290
          have CR := CR.trans (CHr.ext E1295 CR.1)
          have hk := Nat.le_trans hk E1295.1
          have O1305 := O1291.ext E1295
          have K1306 := K1292.ext E1295
          have V1295 : Arv Z h1295 b1295 k1295 .char (4 : Int32) [(.int 0), (.int 0), (.int 0), (.int 0)] (.int 0) := (Arv.new A1295 (by decide)).pad (pad_rep [] (.int 0) 4)
          refine gv (fun _ kQ => XS.dup X1295.here hx rfl (hb hby d3_98) rfl rfl (XS.iconst X1295.here hx rfl (hb hby d3_99) (XS.iloadN X1295.here hx rfl (hb hby d3_100) rfl kQ))) ?_
          show G (T1295.setTop (mkF me_ 101 #[.val (.int c0), .val (.int c1), .val (.int c2), .val (.int c3), .val (.int ln)] [(.int c0), (.int 0), (.ref b1295), (.ref b1295), (.ref b1286), (.ref b1286)]))
          obtain ⟨cl1307, Ar1307, q1307, S1307, n1307, H1307, G1307⟩ := (id V1295)
          have in1307 : ¬ ((0 : Int32) < 0 ∨ cl1307.slots.size ≤ ((0 : Int32)).toNatClampNeg) := inb_of S1307 ⟨by decide, by decide⟩
          obtain ⟨T1307, h1307, X1307, e1307, W1307, st1307⟩ := stC X1295 hx hZ e1295 Ar1307 (j := (0 : Int32)) in1307 (g := (mkF me_ 101 #[.val (.int c0), .val (.int c1), .val (.int c2), .val (.int c3), .val (.int ln)] [(.int c0), (.int 0), (.ref b1295), (.ref b1295), (.ref b1286), (.ref b1286)])) rfl rfl (hb hby d3_101)
          have W1307 : Wr h1295 h1307 b1295 ((0 : Int32)).toNatClampNeg (.int c0) := by have z := W1307; rw [u5] at z; exact z
          refine gv st1307 ?_
          have sf1309 := Safe.wr W1307 (Safe.arv hZ.alike V1295 (by simp)) CR.1 sf1303
          have CR := CR.trans (CHr.wr W1307 (Safe.arv hZ.alike V1295 (by simp)) CR.1)
          have hk := Nat.le_trans hk (Keep.of_wr W1307).1
          have f1311 := f1300.wr W1307
          have f1312 := f1301.other W1307 (Or.inl ne1296)
          have f1313 := f1302.other W1307 (Or.inl ne1296)
          have O1314 := O1305.wr W1307 g1297
          have K1315 := K1306.wr W1307 (Or.inr z1298)
          have N1316 := Fr.snoc X1307 N0 g1297
          have f1308 : Arv Z h1307 b1295 k1295 .char (4 : Int32) [(.int c0), (.int 0), (.int 0), (.int 0)] (.int 0) := Arv.set Ar1307 q1307 S1307 n1307 H1307 G1307 (by have z := fits_nar_char c0; rw [u5] at z; exact z) W1307 0 rfl (Nat.le_of_ble_eq_true rfl)
          refine gv (fun _ kQ => XS.dup X1307.here hx rfl (hb hby d3_102) rfl rfl (XS.iconst X1307.here hx rfl (hb hby d3_103) (XS.iloadN X1307.here hx rfl (hb hby d3_104) rfl kQ))) ?_
          show G (T1307.setTop (mkF me_ 105 #[.val (.int c0), .val (.int c1), .val (.int c2), .val (.int c3), .val (.int ln)] [(.int c1), (.int 1), (.ref b1295), (.ref b1295), (.ref b1286), (.ref b1286)]))
          obtain ⟨cl1317, Ar1317, q1317, S1317, n1317, H1317, G1317⟩ := (id f1308)
          have in1317 : ¬ ((1 : Int32) < 0 ∨ cl1317.slots.size ≤ ((1 : Int32)).toNatClampNeg) := inb_of S1317 ⟨by decide, by decide⟩
          obtain ⟨T1317, h1317, X1317, e1317, W1317, st1317⟩ := stC X1307 hx hZ e1307 Ar1317 (j := (1 : Int32)) in1317 (g := (mkF me_ 105 #[.val (.int c0), .val (.int c1), .val (.int c2), .val (.int c3), .val (.int ln)] [(.int c1), (.int 1), (.ref b1295), (.ref b1295), (.ref b1286), (.ref b1286)])) rfl rfl (hb hby d3_105)
          have W1317 : Wr h1307 h1317 b1295 ((1 : Int32)).toNatClampNeg (.int c1) := by have z := W1317; rw [u6] at z; exact z
          refine gv st1317 ?_
          have sf1319 := Safe.wr W1317 (Safe.arv hZ.alike f1308 (by simp)) CR.1 sf1309
          have CR := CR.trans (CHr.wr W1317 (Safe.arv hZ.alike f1308 (by simp)) CR.1)
          have hk := Nat.le_trans hk (Keep.of_wr W1317).1
          have f1321 := f1311.wr W1317
          have f1322 := f1312.other W1317 (Or.inl ne1296)
          have f1323 := f1313.other W1317 (Or.inl ne1296)
          have O1324 := O1314.wr W1317 g1297
          have K1325 := K1315.wr W1317 (Or.inr z1298)
          have N1326 := Fr.snoc X1317 N1316 g1297
          have f1318 : Arv Z h1317 b1295 k1295 .char (4 : Int32) [(.int c0), (.int c1), (.int 0), (.int 0)] (.int 0) := Arv.set Ar1317 q1317 S1317 n1317 H1317 G1317 (by have z := fits_nar_char c1; rw [u6] at z; exact z) W1317 1 rfl (Nat.le_of_ble_eq_true rfl)
          refine gv (fun _ kQ => XS.dup X1317.here hx rfl (hb hby d3_106) rfl rfl (XS.iconst X1317.here hx rfl (hb hby d3_107) (XS.iloadN X1317.here hx rfl (hb hby d3_108) rfl kQ))) ?_
          show G (T1317.setTop (mkF me_ 109 #[.val (.int c0), .val (.int c1), .val (.int c2), .val (.int c3), .val (.int ln)] [(.int c2), (.int 2), (.ref b1295), (.ref b1295), (.ref b1286), (.ref b1286)]))
          obtain ⟨cl1327, Ar1327, q1327, S1327, n1327, H1327, G1327⟩ := (id f1318)
          have in1327 : ¬ ((2 : Int32) < 0 ∨ cl1327.slots.size ≤ ((2 : Int32)).toNatClampNeg) := inb_of S1327 ⟨by decide, by decide⟩
          obtain ⟨T1327, h1327, X1327, e1327, W1327, st1327⟩ := stC X1317 hx hZ e1317 Ar1327 (j := (2 : Int32)) in1327 (g := (mkF me_ 109 #[.val (.int c0), .val (.int c1), .val (.int c2), .val (.int c3), .val (.int ln)] [(.int c2), (.int 2), (.ref b1295), (.ref b1295), (.ref b1286), (.ref b1286)])) rfl rfl (hb hby d3_109)
          have W1327 : Wr h1317 h1327 b1295 ((2 : Int32)).toNatClampNeg (.int c2) := by have z := W1327; rw [u7] at z; exact z
          refine gv st1327 ?_
          have sf1329 := Safe.wr W1327 (Safe.arv hZ.alike f1318 (by simp)) CR.1 sf1319
          have CR := CR.trans (CHr.wr W1327 (Safe.arv hZ.alike f1318 (by simp)) CR.1)
          have hk := Nat.le_trans hk (Keep.of_wr W1327).1
          have f1331 := f1321.wr W1327
          have f1332 := f1322.other W1327 (Or.inl ne1296)
          have f1333 := f1323.other W1327 (Or.inl ne1296)
          have O1334 := O1324.wr W1327 g1297
          have K1335 := K1325.wr W1327 (Or.inr z1298)
          have N1336 := Fr.snoc X1327 N1326 g1297
          have f1328 : Arv Z h1327 b1295 k1295 .char (4 : Int32) [(.int c0), (.int c1), (.int c2), (.int 0)] (.int 0) := Arv.set Ar1327 q1327 S1327 n1327 H1327 G1327 (by have z := fits_nar_char c2; rw [u7] at z; exact z) W1327 2 rfl (Nat.le_of_ble_eq_true rfl)
          refine gv (fun _ kQ => XS.dup X1327.here hx rfl (hb hby d3_110) rfl rfl (XS.iconst X1327.here hx rfl (hb hby d3_111) (XS.iloadN X1327.here hx rfl (hb hby d3_112) rfl kQ))) ?_
          show G (T1327.setTop (mkF me_ 113 #[.val (.int c0), .val (.int c1), .val (.int c2), .val (.int c3), .val (.int ln)] [(.int c3), (.int 3), (.ref b1295), (.ref b1295), (.ref b1286), (.ref b1286)]))
          obtain ⟨cl1337, Ar1337, q1337, S1337, n1337, H1337, G1337⟩ := (id f1328)
          have in1337 : ¬ ((3 : Int32) < 0 ∨ cl1337.slots.size ≤ ((3 : Int32)).toNatClampNeg) := inb_of S1337 ⟨by decide, by decide⟩
          obtain ⟨T1337, h1337, X1337, e1337, W1337, st1337⟩ := stC X1327 hx hZ e1327 Ar1337 (j := (3 : Int32)) in1337 (g := (mkF me_ 113 #[.val (.int c0), .val (.int c1), .val (.int c2), .val (.int c3), .val (.int ln)] [(.int c3), (.int 3), (.ref b1295), (.ref b1295), (.ref b1286), (.ref b1286)])) rfl rfl (hb hby d3_113)
          have W1337 : Wr h1327 h1337 b1295 ((3 : Int32)).toNatClampNeg (.int c3) := by have z := W1337; rw [u8] at z; exact z
          refine gv st1337 ?_
          have sf1339 := Safe.wr W1337 (Safe.arv hZ.alike f1328 (by simp)) CR.1 sf1329
          have CR := CR.trans (CHr.wr W1337 (Safe.arv hZ.alike f1328 (by simp)) CR.1)
          have hk := Nat.le_trans hk (Keep.of_wr W1337).1
          have f1341 := f1331.wr W1337
          have f1342 := f1332.other W1337 (Or.inl ne1296)
          have f1343 := f1333.other W1337 (Or.inl ne1296)
          have O1344 := O1334.wr W1337 g1297
          have K1345 := K1335.wr W1337 (Or.inr z1298)
          have N1346 := Fr.snoc X1337 N1336 g1297
          have f1338 : Arv Z h1337 b1295 k1295 .char (4 : Int32) [(.int c0), (.int c1), (.int c2), (.int c3)] (.int 0) := Arv.set Ar1337 q1337 S1337 n1337 H1337 G1337 (by have z := fits_nar_char c3; rw [u8] at z; exact z) W1337 3 rfl (Nat.le_of_ble_eq_true rfl)
          obtain ⟨_, _, ⟨T1347, L1347, k1347, n1347⟩, -, X1347, ⟨Lc1347, hQ1347, l1347, y1347, z1347⟩, st1347⟩ := X1337.specialBack hx (y := m_6) rfl hown (mvT hZ (t_15 hw)) (mvT hZ (t_16 hw)) (mvT hZ (t_17 hw)) (by decide) (backOf (W := 1) (rm_scX4 l Z a0 hw [] b1286 b1295 k1295 c0 c1 c2 c3 cs h1337 n0 O1344 u0 u1 u2 u3 u4 u5 u6 u7 u8 f1341 f1342 f1343 g1287 f1338 ne1296) hZ (t_17 hw) (t_13 hw) (by decide) (by decide)) (g := (mkF me_ 114 #[.val (.int c0), .val (.int c1), .val (.int c2), .val (.int c3), .val (.int ln)] [(.ref b1295), (.ref b1286), (.ref b1286)])) rfl (by rw [hml]; rfl) (Steps.refl _) (a := b1286) (argsL := [(.ref b1295)]) (rest := [(.ref b1286)]) (lenOf pd_14 rfl) rfl (by show 2 * 0 + _ ≤ _; exact Nat.le_of_eq rfl) (hb hby d3_114) (fun _ _ => ⟨rfl, e1337, (by decide : 2 + 2 ≤ _), (by decide : 8 + 12 ≤ _)⟩)
          dsimp only [Pt.U, Pt.locs, Pt.cells, Pt.slots] at X1347 l1347 y1347 z1347 st1347 hQ1347
          subst l1347 y1347 z1347
          obtain ⟨rfl, Nq1347, Kq1347, w1347_0, w1347_1⟩ := hQ1347
          have N1348 := Fr.app N1346 Nq1347
          obtain ⟨h1347, e1347⟩ : ∃ z, T1347.heap = z := ⟨_, rfl⟩
          rw [e1347] at Kq1347 w1347_0 w1347_1
          have CR := CR.trans (CHr.keep Kq1347 (sfS sf1339 sf0) CR.1)
          have hk := Nat.le_trans hk Kq1347.1
          have K1354 := K1345.trans Kq1347 (allS (Or.inr z1288) all0)
          refine gv (fun _ kQ => st1347.trans kQ) ?_
          refine gf _ (own_retW X1347 Bd.notSynchronized hS (by rw [e1347]; exact hk) (v := some (.ref b1286)) (own_rv Bd.returns) ?_ (by decide) (by decide) (by rw [hh, e1347]; exact CR.trans (CHv.at X1347 hZ hEL CR.1)) (fun fs hr => retOut X1347 hx (t := (.object "java/lang/String")) Bd.returns rfl (Or.inr (Or.inr (Or.inr (Or.inr ⟨rfl, rfl, rfl⟩)))) (hb hby d3_117) hr))
          show Q_str Z c0 c1 c2 c3 ln cs h0 n0 _ T1347.heap _
          rw [e1347]
          exact ⟨b1286, rfl, N1348, K1354, z1288, w1347_0, Or.inr (Or.inr (Or.inr (Or.inr ((⟨(own_is4 u9 hc1106 hc1136 hc1176 hc1226), w1347_1⟩)))))⟩
theorem ef_13 (m : MethodId) (x0 : Int64) (x1 : Int32) (x2 : Int32)  : entryFrame m #[(.long x0), (.int x1), (.int x2)] 5 = mkF m 0 #[.val (.long x0), .second, .val (.int x1), .val (.int x2), .unset] [] := by first | (simp [entryFrame, mkF, argsToLocals, Value.category]; done) | rfl
theorem d1_0 : decode method_4_code 0 = .ok (.lload_n 0, 1) := by decide +kernel
theorem d1_1 : decode method_4_code 1 = .ok (.bipush 16, 2) := by decide +kernel
theorem d1_3 : decode method_4_code 3 = .ok (.iload_n 2, 1) := by decide +kernel
theorem d1_4 : decode method_4_code 4 = .ok (.imul, 1) := by decide +kernel
theorem d1_5 : decode method_4_code 5 = .ok (.lushr, 1) := by decide +kernel
theorem d1_6 : decode method_4_code 6 = .ok (.l2i, 1) := by decide +kernel
theorem d1_7 : decode method_4_code 7 = .ok (.ldc 31, 2) := by decide +kernel
theorem d1_9 : decode method_4_code 9 = .ok (.iand, 1) := by decide +kernel
theorem d1_10 : decode method_4_code 10 = .ok (.istore 4, 2) := by decide +kernel
theorem d1_12 : decode method_4_code 12 = .ok (.iload_n 3, 1) := by decide +kernel
theorem d1_13 : decode method_4_code 13 = .ok (.bipush 7, 2) := by decide +kernel
theorem d1_15 : decode method_4_code 15 = .ok (.iload_n 2, 1) := by decide +kernel
theorem d1_16 : decode method_4_code 16 = .ok (.iadd, 1) := by decide +kernel
theorem d1_17 : decode method_4_code 17 = .ok (.iushr, 1) := by decide +kernel
theorem d1_18 : decode method_4_code 18 = .ok (.iconst 1, 1) := by decide +kernel
theorem d1_19 : decode method_4_code 19 = .ok (.iand, 1) := by decide +kernel
theorem d1_20 : decode method_4_code 20 = .ok (.ifCond .eq 10, 3) := by decide +kernel
theorem d1_30 : decode method_4_code 30 = .ok (.iload 4, 2) := by decide +kernel
theorem d1_32 : decode method_4_code 32 = .ok (.i2c, 1) := by decide +kernel
theorem d1_33 : decode method_4_code 33 = .ok (.ireturn, 1) := by decide +kernel
theorem d1_23 : decode method_4_code 23 = .ok (.iload 4, 2) := by decide +kernel
theorem d1_25 : decode method_4_code 25 = .ok (.bipush 63, 2) := by decide +kernel
theorem d1_27 : decode method_4_code 27 = .ok (.iand, 1) := by decide +kernel
theorem d1_28 : decode method_4_code 28 = .ok (.istore 4, 2) := by decide +kernel
def Q_tch (Z : State) (t_ : Int64) (i_ q_ : Int32) (h0 : Heap) (n0 : Nat) (v : Option Value) (h : Heap) (L : List Loc) : Prop := ∃ (c : Int32), v = some (.int c) ∧ Fr n0 L ∧ h = h0 ∧ (nar .char c = c)
theorem rm_tch (l : Launch) (Z : State) (a0 : Array Value) (hw : own_HW Z a0) (ws : List Jvm.Cond) (t_ : Int64) (i_ q_ : Int32) (h0 : Heap) (n0 : Nat) (O0 : Old Z n0 h0)  :
    own_Met l Z m_5 method_4_code 5 (some .char) ws (own_R 0 0 0 0) #[(.long t_), (.int i_), (.int q_)] h0 (Q_tch Z t_ i_ q_ h0 n0) := by
  refine own_open (plainFor_of_name pn_4) (fun pr_ en_ st_ me_ below meth_ co_ s₁ Bd hx hby hml hown hZ X0 e0 G gv gf => ?_)
  have N0 := Fr.nil n0
  refine gv (fun _ kQ => castTop (ef_13 me_ t_ i_ q_) kQ) ?_
  show G (s₁.setTop (mkF me_ 0 #[.val (.long t_), .second, .val (.int i_), .val (.int q_), .unset] []))
  refine gv (fun _ kQ => XS.lloadN X0.here hx rfl (hb hby d1_0) rfl (XS.bipush X0.here hx rfl (hb hby d1_1) (XS.iloadN X0.here hx rfl (hb hby d1_3) rfl (XS.imul X0.here hx rfl (hb hby d1_4) rfl (XS.lushr X0.here hx rfl (hb hby d1_5) rfl (XS.l2i X0.here hx rfl (hb hby d1_6) rfl kQ)))))) ?_
  show G (s₁.setTop (mkF me_ 7 #[.val (.long t_), .second, .val (.int i_), .val (.int q_), .unset] [(.int (((t_.toUInt64 >>> (((16 : Int32) * i_) &&& 0x3f).toInt64.toUInt64).toInt64).toInt32))]))
  refine gv (X0.ldcInt hx hown (mvT hZ (t_4 hw)) (g := (mkF me_ 7 #[.val (.long t_), .second, .val (.int i_), .val (.int q_), .unset] [(.int (((t_.toUInt64 >>> (((16 : Int32) * i_) &&& 0x3f).toInt64.toUInt64).toInt64).toInt32))])) rfl (hb hby d1_7)) ?_
  show G (s₁.setTop (mkF me_ 9 #[.val (.long t_), .second, .val (.int i_), .val (.int q_), .unset] [(.int 65535), (.int (((t_.toUInt64 >>> (((16 : Int32) * i_) &&& 0x3f).toInt64.toUInt64).toInt64).toInt32))]))
  refine gv (fun _ kQ => XS.iand X0.here hx rfl (hb hby d1_9) rfl (XS.istore X0.here hx rfl (hb hby d1_10) rfl (l' := #[.val (.long t_), .second, .val (.int i_), .val (.int q_), .val (.int ((((t_.toUInt64 >>> (((16 : Int32) * i_) &&& 0x3f).toInt64.toUInt64).toInt64).toInt32) &&& (65535 : Int32)))]) rfl (XS.iloadN X0.here hx rfl (hb hby d1_12) rfl (XS.bipush X0.here hx rfl (hb hby d1_13) (XS.iloadN X0.here hx rfl (hb hby d1_15) rfl (XS.iadd X0.here hx rfl (hb hby d1_16) rfl (XS.iushr X0.here hx rfl (hb hby d1_17) rfl (XS.iconst X0.here hx rfl (hb hby d1_18) kQ)))))))) ?_
  show G (s₁.setTop (mkF me_ 19 #[.val (.long t_), .second, .val (.int i_), .val (.int q_), .val (.int ((((t_.toUInt64 >>> (((16 : Int32) * i_) &&& 0x3f).toInt64.toUInt64).toInt64).toInt32) &&& (65535 : Int32)))] [(.int 1), (.int ((q_.toUInt32 >>> (((7 : Int32) + i_) &&& 31).toUInt32).toInt32))]))
  refine gv (fun _ kQ => XS.iand X0.here hx rfl (hb hby d1_19) rfl kQ) ?_
  by_cases hc1355 : (((q_.toUInt32 >>> (((7 : Int32) + i_) &&& 31).toUInt32).toInt32) &&& (1 : Int32)) = (0 : Int32)
  · refine gv (fun _ kQ => XS.ifYes X0.here hx rfl (pc0 := 20) (pc' := 30) rfl (hb hby d1_20) rfl ((if0 _ _).trans (teq hc1355).1) (by decide) (by decide) kQ) ?_
    refine gv (fun _ kQ => XS.iload X0.here hx rfl (hb hby d1_30) rfl (XS.i2c X0.here hx rfl (hb hby d1_32) rfl kQ)) ?_
    refine gf _ (own_ret X0 Bd.notSynchronized (v := some (.int (((((t_.toUInt64 >>> (((16 : Int32) * i_) &&& 0x3f).toInt64.toUInt64).toInt64).toInt32) &&& (65535 : Int32)).toUInt32.toUInt16.toUInt32.toInt32))) (own_rv Bd.returns) ?_ (by decide) (by decide) (fun fs hr => retN X0 hx (t := .char) Bd.returns (by simp) (hb hby d1_33) (by rw [(own_narC _)]; exact hr)))
    show Q_tch Z t_ i_ q_ h0 n0 _ s₁.heap _
    rw [e0]
    exact ⟨(((((t_.toUInt64 >>> (((16 : Int32) * i_) &&& 0x3f).toInt64.toUInt64).toInt64).toInt32) &&& (65535 : Int32)).toUInt32.toUInt16.toUInt32.toInt32), rfl, N0, rfl, (own_narC _)⟩
  · refine gv (fun _ kQ => XS.ifNo X0.here hx rfl (hb hby d1_20) rfl ((if0 _ _).trans (feq hc1355).1) kQ) ?_
    show G (s₁.setTop (mkF me_ 23 #[.val (.long t_), .second, .val (.int i_), .val (.int q_), .val (.int ((((t_.toUInt64 >>> (((16 : Int32) * i_) &&& 0x3f).toInt64.toUInt64).toInt64).toInt32) &&& (65535 : Int32)))] []))
    refine gv (fun _ kQ => XS.iload X0.here hx rfl (hb hby d1_23) rfl (XS.bipush X0.here hx rfl (hb hby d1_25) (XS.iand X0.here hx rfl (hb hby d1_27) rfl (XS.istore X0.here hx rfl (hb hby d1_28) rfl (l' := #[.val (.long t_), .second, .val (.int i_), .val (.int q_), .val (.int (((((t_.toUInt64 >>> (((16 : Int32) * i_) &&& 0x3f).toInt64.toUInt64).toInt64).toInt32) &&& (65535 : Int32)) &&& (63 : Int32)))]) rfl (XS.iload X0.here hx rfl (hb hby d1_30) rfl (XS.i2c X0.here hx rfl (hb hby d1_32) rfl kQ)))))) ?_
    refine gf _ (own_ret X0 Bd.notSynchronized (v := some (.int ((((((t_.toUInt64 >>> (((16 : Int32) * i_) &&& 0x3f).toInt64.toUInt64).toInt64).toInt32) &&& (65535 : Int32)) &&& (63 : Int32)).toUInt32.toUInt16.toUInt32.toInt32))) (own_rv Bd.returns) ?_ (by decide) (by decide) (fun fs hr => retN X0 hx (t := .char) Bd.returns (by simp) (hb hby d1_33) (by rw [(own_narC _)]; exact hr)))
    show Q_tch Z t_ i_ q_ h0 n0 _ s₁.heap _
    rw [e0]
    exact ⟨((((((t_.toUInt64 >>> (((16 : Int32) * i_) &&& 0x3f).toInt64.toUInt64).toInt64).toInt32) &&& (65535 : Int32)) &&& (63 : Int32)).toUInt32.toUInt16.toUInt32.toInt32), rfl, N0, rfl, (own_narC _)⟩
theorem ef_14 (m : MethodId) (x0 : Int64) (x1 : Int32) (x2 : Int32) (x3 : Int32)  : entryFrame m #[(.long x0), (.int x1), (.int x2), (.int x3)] 7 = mkF m 0 #[.val (.long x0), .second, .val (.int x1), .val (.int x2), .val (.int x3), .unset, .unset] [] := by first | (simp [entryFrame, mkF, argsToLocals, Value.category]; done) | rfl
theorem d2_0 : decode method_5_code 0 = .ok (.iload_n 3, 1) := by decide +kernel
theorem d2_1 : decode method_5_code 1 = .ok (.bipush 11, 2) := by decide +kernel
theorem d2_3 : decode method_5_code 3 = .ok (.iconst 2, 1) := by decide +kernel
theorem d2_4 : decode method_5_code 4 = .ok (.iload_n 2, 1) := by decide +kernel
theorem d2_5 : decode method_5_code 5 = .ok (.imul, 1) := by decide +kernel
theorem d2_6 : decode method_5_code 6 = .ok (.iadd, 1) := by decide +kernel
theorem d2_7 : decode method_5_code 7 = .ok (.iushr, 1) := by decide +kernel
theorem d2_8 : decode method_5_code 8 = .ok (.iconst 3, 1) := by decide +kernel
theorem d2_9 : decode method_5_code 9 = .ok (.iand, 1) := by decide +kernel
theorem d2_10 : decode method_5_code 10 = .ok (.istore 5, 2) := by decide +kernel
theorem d2_12 : decode method_5_code 12 = .ok (.iload 5, 2) := by decide +kernel
theorem d2_14 : decode method_5_code 14 = .ok (.iconst 1, 1) := by decide +kernel
theorem d2_15 : decode method_5_code 15 = .ok (.if_icmp .ne 6, 3) := by decide +kernel
theorem d2_18 : decode method_5_code 18 = .ok (.bipush 48, 2) := by decide +kernel
theorem d2_20 : decode method_5_code 20 = .ok (.ireturn, 1) := by decide +kernel
theorem d2_21 : decode method_5_code 21 = .ok (.iload 5, 2) := by decide +kernel
theorem d2_23 : decode method_5_code 23 = .ok (.iconst 2, 1) := by decide +kernel
theorem d2_24 : decode method_5_code 24 = .ok (.if_icmp .ne 6, 3) := by decide +kernel
theorem d2_27 : decode method_5_code 27 = .ok (.iload 4, 2) := by decide +kernel
theorem d2_29 : decode method_5_code 29 = .ok (.ireturn, 1) := by decide +kernel
theorem d2_30 : decode method_5_code 30 = .ok (.lload_n 0, 1) := by decide +kernel
theorem d2_31 : decode method_5_code 31 = .ok (.bipush 16, 2) := by decide +kernel
theorem d2_33 : decode method_5_code 33 = .ok (.iload_n 2, 1) := by decide +kernel
theorem d2_34 : decode method_5_code 34 = .ok (.imul, 1) := by decide +kernel
theorem d2_35 : decode method_5_code 35 = .ok (.lushr, 1) := by decide +kernel
theorem d2_36 : decode method_5_code 36 = .ok (.l2i, 1) := by decide +kernel
theorem d2_37 : decode method_5_code 37 = .ok (.ldc 31, 2) := by decide +kernel
theorem d2_39 : decode method_5_code 39 = .ok (.iand, 1) := by decide +kernel
theorem d2_40 : decode method_5_code 40 = .ok (.istore 6, 2) := by decide +kernel
theorem d2_42 : decode method_5_code 42 = .ok (.iload 5, 2) := by decide +kernel
theorem d2_44 : decode method_5_code 44 = .ok (.iconst 3, 1) := by decide +kernel
theorem d2_45 : decode method_5_code 45 = .ok (.if_icmp .ne 10, 3) := by decide +kernel
theorem d2_48 : decode method_5_code 48 = .ok (.iload 6, 2) := by decide +kernel
theorem d2_50 : decode method_5_code 50 = .ok (.bipush 63, 2) := by decide +kernel
theorem d2_52 : decode method_5_code 52 = .ok (.iand, 1) := by decide +kernel
theorem d2_53 : decode method_5_code 53 = .ok (.istore 6, 2) := by decide +kernel
theorem d2_55 : decode method_5_code 55 = .ok (.iload 6, 2) := by decide +kernel
theorem d2_57 : decode method_5_code 57 = .ok (.i2c, 1) := by decide +kernel
theorem d2_58 : decode method_5_code 58 = .ok (.ireturn, 1) := by decide +kernel
def Q_sch (Z : State) (t_ : Int64) (i_ q_ z_ : Int32) (h0 : Heap) (n0 : Nat) (v : Option Value) (h : Heap) (L : List Loc) : Prop := ∃ (c : Int32), v = some (.int c) ∧ Fr n0 L ∧ h = h0 ∧ (nar .char c = c)
theorem rm_sch (l : Launch) (Z : State) (a0 : Array Value) (hw : own_HW Z a0) (ws : List Jvm.Cond) (t_ : Int64) (i_ q_ z_ : Int32) (h0 : Heap) (n0 : Nat) (O0 : Old Z n0 h0) (u0 : nar .char z_ = z_) :
    own_Met l Z m_3 method_5_code 7 (some .char) ws (own_R 0 0 0 0) #[(.long t_), (.int i_), (.int q_), (.int z_)] h0 (Q_sch Z t_ i_ q_ z_ h0 n0) := by
  refine own_open (plainFor_of_name pn_4) (fun pr_ en_ st_ me_ below meth_ co_ s₁ Bd hx hby hml hown hZ X0 e0 G gv gf => ?_)
  have N0 := Fr.nil n0
  refine gv (fun _ kQ => castTop (ef_14 me_ t_ i_ q_ z_) kQ) ?_
  show G (s₁.setTop (mkF me_ 0 #[.val (.long t_), .second, .val (.int i_), .val (.int q_), .val (.int z_), .unset, .unset] []))
  refine gv (fun _ kQ => XS.iloadN X0.here hx rfl (hb hby d2_0) rfl (XS.bipush X0.here hx rfl (hb hby d2_1) (XS.iconst X0.here hx rfl (hb hby d2_3) (XS.iloadN X0.here hx rfl (hb hby d2_4) rfl (XS.imul X0.here hx rfl (hb hby d2_5) rfl (XS.iadd X0.here hx rfl (hb hby d2_6) rfl (XS.iushr X0.here hx rfl (hb hby d2_7) rfl (XS.iconst X0.here hx rfl (hb hby d2_8) kQ)))))))) ?_
  show G (s₁.setTop (mkF me_ 9 #[.val (.long t_), .second, .val (.int i_), .val (.int q_), .val (.int z_), .unset, .unset] [(.int 3), (.int ((q_.toUInt32 >>> (((11 : Int32) + ((2 : Int32) * i_)) &&& 31).toUInt32).toInt32))]))
  refine gv (fun _ kQ => XS.iand X0.here hx rfl (hb hby d2_9) rfl (XS.istore X0.here hx rfl (hb hby d2_10) rfl (l' := #[.val (.long t_), .second, .val (.int i_), .val (.int q_), .val (.int z_), .val (.int (((q_.toUInt32 >>> (((11 : Int32) + ((2 : Int32) * i_)) &&& 31).toUInt32).toInt32) &&& (3 : Int32))), .unset]) rfl (XS.iload X0.here hx rfl (hb hby d2_12) rfl (XS.iconst X0.here hx rfl (hb hby d2_14) kQ)))) ?_
  show G (s₁.setTop (mkF me_ 15 #[.val (.long t_), .second, .val (.int i_), .val (.int q_), .val (.int z_), .val (.int (((q_.toUInt32 >>> (((11 : Int32) + ((2 : Int32) * i_)) &&& 31).toUInt32).toInt32) &&& (3 : Int32))), .unset] [(.int 1), (.int (((q_.toUInt32 >>> (((11 : Int32) + ((2 : Int32) * i_)) &&& 31).toUInt32).toInt32) &&& (3 : Int32)))]))
  by_cases hc1356 : (((q_.toUInt32 >>> (((11 : Int32) + ((2 : Int32) * i_)) &&& 31).toUInt32).toInt32) &&& (3 : Int32)) = (1 : Int32)
  · refine gv (fun _ kQ => XS.icmpNo X0.here hx rfl (hb hby d2_15) rfl (teq hc1356).2 kQ) ?_
    refine gv (fun _ kQ => XS.bipush X0.here hx rfl (hb hby d2_18) kQ) ?_
    refine gf _ (own_ret X0 Bd.notSynchronized (v := some (.int 48)) (own_rv Bd.returns) ?_ (by decide) (by decide) (fun fs hr => retN X0 hx (t := .char) Bd.returns (by simp) (hb hby d2_20) hr))
    show Q_sch Z t_ i_ q_ z_ h0 n0 _ s₁.heap _
    rw [e0]
    exact ⟨(48 : Int32), rfl, N0, rfl, (by decide)⟩
  · refine gv (fun _ kQ => XS.icmpYes X0.here hx rfl (pc0 := 15) (pc' := 21) rfl (hb hby d2_15) rfl (feq hc1356).2 (by decide) (by decide) kQ) ?_
    refine gv (fun _ kQ => XS.iload X0.here hx rfl (hb hby d2_21) rfl (XS.iconst X0.here hx rfl (hb hby d2_23) kQ)) ?_
    show G (s₁.setTop (mkF me_ 24 #[.val (.long t_), .second, .val (.int i_), .val (.int q_), .val (.int z_), .val (.int (((q_.toUInt32 >>> (((11 : Int32) + ((2 : Int32) * i_)) &&& 31).toUInt32).toInt32) &&& (3 : Int32))), .unset] [(.int 2), (.int (((q_.toUInt32 >>> (((11 : Int32) + ((2 : Int32) * i_)) &&& 31).toUInt32).toInt32) &&& (3 : Int32)))]))
    by_cases hc1357 : (((q_.toUInt32 >>> (((11 : Int32) + ((2 : Int32) * i_)) &&& 31).toUInt32).toInt32) &&& (3 : Int32)) = (2 : Int32)
    · refine gv (fun _ kQ => XS.icmpNo X0.here hx rfl (hb hby d2_24) rfl (teq hc1357).2 kQ) ?_
      refine gv (fun _ kQ => XS.iload X0.here hx rfl (hb hby d2_27) rfl kQ) ?_
      refine gf _ (own_ret X0 Bd.notSynchronized (v := some (.int z_)) (own_rv Bd.returns) ?_ (by decide) (by decide) (fun fs hr => retN X0 hx (t := .char) Bd.returns (by simp) (hb hby d2_29) (by rw [u0]; exact hr)))
      show Q_sch Z t_ i_ q_ z_ h0 n0 _ s₁.heap _
      rw [e0]
      exact ⟨z_, rfl, N0, rfl, u0⟩
    · refine gv (fun _ kQ => XS.icmpYes X0.here hx rfl (pc0 := 24) (pc' := 30) rfl (hb hby d2_24) rfl (feq hc1357).2 (by decide) (by decide) kQ) ?_
      refine gv (fun _ kQ => XS.lloadN X0.here hx rfl (hb hby d2_30) rfl (XS.bipush X0.here hx rfl (hb hby d2_31) (XS.iloadN X0.here hx rfl (hb hby d2_33) rfl (XS.imul X0.here hx rfl (hb hby d2_34) rfl (XS.lushr X0.here hx rfl (hb hby d2_35) rfl (XS.l2i X0.here hx rfl (hb hby d2_36) rfl kQ)))))) ?_
      show G (s₁.setTop (mkF me_ 37 #[.val (.long t_), .second, .val (.int i_), .val (.int q_), .val (.int z_), .val (.int (((q_.toUInt32 >>> (((11 : Int32) + ((2 : Int32) * i_)) &&& 31).toUInt32).toInt32) &&& (3 : Int32))), .unset] [(.int (((t_.toUInt64 >>> (((16 : Int32) * i_) &&& 0x3f).toInt64.toUInt64).toInt64).toInt32))]))
      refine gv (X0.ldcInt hx hown (mvT hZ (t_4 hw)) (g := (mkF me_ 37 #[.val (.long t_), .second, .val (.int i_), .val (.int q_), .val (.int z_), .val (.int (((q_.toUInt32 >>> (((11 : Int32) + ((2 : Int32) * i_)) &&& 31).toUInt32).toInt32) &&& (3 : Int32))), .unset] [(.int (((t_.toUInt64 >>> (((16 : Int32) * i_) &&& 0x3f).toInt64.toUInt64).toInt64).toInt32))])) rfl (hb hby d2_37)) ?_
      show G (s₁.setTop (mkF me_ 39 #[.val (.long t_), .second, .val (.int i_), .val (.int q_), .val (.int z_), .val (.int (((q_.toUInt32 >>> (((11 : Int32) + ((2 : Int32) * i_)) &&& 31).toUInt32).toInt32) &&& (3 : Int32))), .unset] [(.int 65535), (.int (((t_.toUInt64 >>> (((16 : Int32) * i_) &&& 0x3f).toInt64.toUInt64).toInt64).toInt32))]))
      refine gv (fun _ kQ => XS.iand X0.here hx rfl (hb hby d2_39) rfl (XS.istore X0.here hx rfl (hb hby d2_40) rfl (l' := #[.val (.long t_), .second, .val (.int i_), .val (.int q_), .val (.int z_), .val (.int (((q_.toUInt32 >>> (((11 : Int32) + ((2 : Int32) * i_)) &&& 31).toUInt32).toInt32) &&& (3 : Int32))), .val (.int ((((t_.toUInt64 >>> (((16 : Int32) * i_) &&& 0x3f).toInt64.toUInt64).toInt64).toInt32) &&& (65535 : Int32)))]) rfl (XS.iload X0.here hx rfl (hb hby d2_42) rfl (XS.iconst X0.here hx rfl (hb hby d2_44) kQ)))) ?_
      show G (s₁.setTop (mkF me_ 45 #[.val (.long t_), .second, .val (.int i_), .val (.int q_), .val (.int z_), .val (.int (((q_.toUInt32 >>> (((11 : Int32) + ((2 : Int32) * i_)) &&& 31).toUInt32).toInt32) &&& (3 : Int32))), .val (.int ((((t_.toUInt64 >>> (((16 : Int32) * i_) &&& 0x3f).toInt64.toUInt64).toInt64).toInt32) &&& (65535 : Int32)))] [(.int 3), (.int (((q_.toUInt32 >>> (((11 : Int32) + ((2 : Int32) * i_)) &&& 31).toUInt32).toInt32) &&& (3 : Int32)))]))
      by_cases hc1358 : (((q_.toUInt32 >>> (((11 : Int32) + ((2 : Int32) * i_)) &&& 31).toUInt32).toInt32) &&& (3 : Int32)) = (3 : Int32)
      · refine gv (fun _ kQ => XS.icmpNo X0.here hx rfl (hb hby d2_45) rfl (teq hc1358).2 kQ) ?_
        refine gv (fun _ kQ => XS.iload X0.here hx rfl (hb hby d2_48) rfl (XS.bipush X0.here hx rfl (hb hby d2_50) (XS.iand X0.here hx rfl (hb hby d2_52) rfl (XS.istore X0.here hx rfl (hb hby d2_53) rfl (l' := #[.val (.long t_), .second, .val (.int i_), .val (.int q_), .val (.int z_), .val (.int (((q_.toUInt32 >>> (((11 : Int32) + ((2 : Int32) * i_)) &&& 31).toUInt32).toInt32) &&& (3 : Int32))), .val (.int (((((t_.toUInt64 >>> (((16 : Int32) * i_) &&& 0x3f).toInt64.toUInt64).toInt64).toInt32) &&& (65535 : Int32)) &&& (63 : Int32)))]) rfl (XS.iload X0.here hx rfl (hb hby d2_55) rfl (XS.i2c X0.here hx rfl (hb hby d2_57) rfl kQ)))))) ?_
        refine gf _ (own_ret X0 Bd.notSynchronized (v := some (.int ((((((t_.toUInt64 >>> (((16 : Int32) * i_) &&& 0x3f).toInt64.toUInt64).toInt64).toInt32) &&& (65535 : Int32)) &&& (63 : Int32)).toUInt32.toUInt16.toUInt32.toInt32))) (own_rv Bd.returns) ?_ (by decide) (by decide) (fun fs hr => retN X0 hx (t := .char) Bd.returns (by simp) (hb hby d2_58) (by rw [(own_narC _)]; exact hr)))
        show Q_sch Z t_ i_ q_ z_ h0 n0 _ s₁.heap _
        rw [e0]
        exact ⟨((((((t_.toUInt64 >>> (((16 : Int32) * i_) &&& 0x3f).toInt64.toUInt64).toInt64).toInt32) &&& (65535 : Int32)) &&& (63 : Int32)).toUInt32.toUInt16.toUInt32.toInt32), rfl, N0, rfl, (own_narC _)⟩
      · refine gv (fun _ kQ => XS.icmpYes X0.here hx rfl (pc0 := 45) (pc' := 55) rfl (hb hby d2_45) rfl (feq hc1358).2 (by decide) (by decide) kQ) ?_
        show G (s₁.setTop (mkF me_ 55 #[.val (.long t_), .second, .val (.int i_), .val (.int q_), .val (.int z_), .val (.int (((q_.toUInt32 >>> (((11 : Int32) + ((2 : Int32) * i_)) &&& 31).toUInt32).toInt32) &&& (3 : Int32))), .val (.int ((((t_.toUInt64 >>> (((16 : Int32) * i_) &&& 0x3f).toInt64.toUInt64).toInt64).toInt32) &&& (65535 : Int32)))] []))
        refine gv (fun _ kQ => XS.iload X0.here hx rfl (hb hby d2_55) rfl (XS.i2c X0.here hx rfl (hb hby d2_57) rfl kQ)) ?_
        refine gf _ (own_ret X0 Bd.notSynchronized (v := some (.int (((((t_.toUInt64 >>> (((16 : Int32) * i_) &&& 0x3f).toInt64.toUInt64).toInt64).toInt32) &&& (65535 : Int32)).toUInt32.toUInt16.toUInt32.toInt32))) (own_rv Bd.returns) ?_ (by decide) (by decide) (fun fs hr => retN X0 hx (t := .char) Bd.returns (by simp) (hb hby d2_58) (by rw [(own_narC _)]; exact hr)))
        show Q_sch Z t_ i_ q_ z_ h0 n0 _ s₁.heap _
        rw [e0]
        exact ⟨(((((t_.toUInt64 >>> (((16 : Int32) * i_) &&& 0x3f).toInt64.toUInt64).toInt64).toInt32) &&& (65535 : Int32)).toUInt32.toUInt16.toUInt32.toInt32), rfl, N0, rfl, (own_narC _)⟩
theorem d18_0 : decode method_3_code 0 = .ok (.iload_n 1, 1) := by decide +kernel
theorem d18_1 : decode method_3_code 1 = .ok (.bipush 48, 2) := by decide +kernel
theorem d18_3 : decode method_3_code 3 = .ok (.if_icmp .ne 21, 3) := by decide +kernel
theorem d18_6 : decode method_3_code 6 = .ok (.iload_n 0, 1) := by decide +kernel
theorem d18_7 : decode method_3_code 7 = .ok (.bipush 48, 2) := by decide +kernel
theorem d18_9 : decode method_3_code 9 = .ok (.if_icmp .lt 13, 3) := by decide +kernel
theorem d18_22 : decode method_3_code 22 = .ok (.iconst 0, 1) := by decide +kernel
theorem d18_23 : decode method_3_code 23 = .ok (.ireturn, 1) := by decide +kernel
theorem d18_12 : decode method_3_code 12 = .ok (.iload_n 0, 1) := by decide +kernel
theorem d18_13 : decode method_3_code 13 = .ok (.bipush 58, 2) := by decide +kernel
theorem d18_15 : decode method_3_code 15 = .ok (.if_icmp .ge 7, 3) := by decide +kernel
theorem d18_18 : decode method_3_code 18 = .ok (.iconst 1, 1) := by decide +kernel
theorem d18_19 : decode method_3_code 19 = .ok (.goto 4, 3) := by decide +kernel
theorem d18_24 : decode method_3_code 24 = .ok (.iload_n 0, 1) := by decide +kernel
theorem d18_25 : decode method_3_code 25 = .ok (.iload_n 1, 1) := by decide +kernel
theorem d18_26 : decode method_3_code 26 = .ok (.if_icmp .ne 7, 3) := by decide +kernel
theorem d18_29 : decode method_3_code 29 = .ok (.iconst 1, 1) := by decide +kernel
theorem d18_30 : decode method_3_code 30 = .ok (.goto 4, 3) := by decide +kernel
theorem d18_34 : decode method_3_code 34 = .ok (.ireturn, 1) := by decide +kernel
theorem d18_33 : decode method_3_code 33 = .ok (.iconst 0, 1) := by decide +kernel
def Q_fits (Z : State) (c e_ : Int32) (h0 : Heap) (n0 : Nat) (v : Option Value) (h : Heap) (L : List Loc) : Prop := v = some (.int (own_fv c e_)) ∧ Fr n0 L ∧ h = h0
theorem rm_fits (l : Launch) (Z : State) (a0 : Array Value) (hw : own_HW Z a0) (ws : List Jvm.Cond) (c e_ : Int32) (h0 : Heap) (n0 : Nat) (O0 : Old Z n0 h0)  :
    own_Met l Z m_2 method_3_code 2 (some .boolean) ws (own_R 0 0 0 0) #[(.int c), (.int e_)] h0 (Q_fits Z c e_ h0 n0) := by
  refine own_open (plainFor_of_name pn_4) (fun pr_ en_ st_ me_ below meth_ co_ s₁ Bd hx hby hml hown hZ X0 e0 G gv gf => ?_)
  have N0 := Fr.nil n0
  refine gv (fun _ kQ => castTop (ef_2 me_ c e_) kQ) ?_
  show G (s₁.setTop (mkF me_ 0 #[.val (.int c), .val (.int e_)] []))
  refine gv (fun _ kQ => XS.iloadN X0.here hx rfl (hb hby d18_0) rfl (XS.bipush X0.here hx rfl (hb hby d18_1) kQ)) ?_
  by_cases hc1359 : e_ = (48 : Int32)
  · refine gv (fun _ kQ => XS.icmpNo X0.here hx rfl (hb hby d18_3) rfl (teq hc1359).2 kQ) ?_
    refine gv (fun _ kQ => XS.iloadN X0.here hx rfl (hb hby d18_6) rfl (XS.bipush X0.here hx rfl (hb hby d18_7) kQ)) ?_
    show G (s₁.setTop (mkF me_ 9 #[.val (.int c), .val (.int e_)] [(.int 48), (.int c)]))
    by_cases hc1360 : c < (48 : Int32)
    · refine gv (fun _ kQ => XS.icmpYes X0.here hx rfl (pc0 := 9) (pc' := 22) rfl (hb hby d18_9) rfl (tlt hc1360).1 (by decide) (by decide) kQ) ?_
      refine gv (fun _ kQ => XS.iconst X0.here hx rfl (hb hby d18_22) kQ) ?_
      refine gf _ (own_ret X0 Bd.notSynchronized (v := some (.int 0)) (own_rv Bd.returns) ?_ (by decide) (by decide) (fun fs hr => retN X0 hx (t := .boolean) Bd.returns (by simp) (hb hby d18_23) hr))
      show Q_fits Z c e_ h0 n0 _ s₁.heap _
      rw [e0]
      exact ⟨(own_sv (own_fva hc1359 hc1360)), N0, rfl⟩
    · refine gv (fun _ kQ => XS.icmpNo X0.here hx rfl (hb hby d18_9) rfl (flt hc1360).1 kQ) ?_
      refine gv (fun _ kQ => XS.iloadN X0.here hx rfl (hb hby d18_12) rfl (XS.bipush X0.here hx rfl (hb hby d18_13) kQ)) ?_
      show G (s₁.setTop (mkF me_ 15 #[.val (.int c), .val (.int e_)] [(.int 58), (.int c)]))
      by_cases hc1361 : c < (58 : Int32)
      · refine gv (fun _ kQ => XS.icmpNo X0.here hx rfl (hb hby d18_15) rfl (tlt hc1361).2.1 kQ) ?_
        refine gv (fun _ kQ => XS.iconst X0.here hx rfl (hb hby d18_18) (XS.goto X0.here hx rfl (pc0 := 19) (pc' := 23) rfl (hb hby d18_19) (by decide) (by decide) kQ)) ?_
        refine gf _ (own_ret X0 Bd.notSynchronized (v := some (.int 1)) (own_rv Bd.returns) ?_ (by decide) (by decide) (fun fs hr => retN X0 hx (t := .boolean) Bd.returns (by simp) (hb hby d18_23) hr))
        show Q_fits Z c e_ h0 n0 _ s₁.heap _
        rw [e0]
        exact ⟨(own_sv (own_fvc hc1359 hc1360 ((own_58 _).mp hc1361))), N0, rfl⟩
      · refine gv (fun _ kQ => XS.icmpYes X0.here hx rfl (pc0 := 15) (pc' := 22) rfl (hb hby d18_15) rfl (flt hc1361).2.1 (by decide) (by decide) kQ) ?_
        refine gv (fun _ kQ => XS.iconst X0.here hx rfl (hb hby d18_22) kQ) ?_
        refine gf _ (own_ret X0 Bd.notSynchronized (v := some (.int 0)) (own_rv Bd.returns) ?_ (by decide) (by decide) (fun fs hr => retN X0 hx (t := .boolean) Bd.returns (by simp) (hb hby d18_23) hr))
        show Q_fits Z c e_ h0 n0 _ s₁.heap _
        rw [e0]
        exact ⟨(own_sv (own_fvb hc1359 hc1360 (Decidable.not_not.mp (fun z => hc1361 ((own_58 _).mpr z))))), N0, rfl⟩
  · refine gv (fun _ kQ => XS.icmpYes X0.here hx rfl (pc0 := 3) (pc' := 24) rfl (hb hby d18_3) rfl (feq hc1359).2 (by decide) (by decide) kQ) ?_
    show G (s₁.setTop (mkF me_ 24 #[.val (.int c), .val (.int e_)] []))
    refine gv (fun _ kQ => XS.iloadN X0.here hx rfl (hb hby d18_24) rfl (XS.iloadN X0.here hx rfl (hb hby d18_25) rfl kQ)) ?_
    by_cases hc1362 : c = e_
    · refine gv (fun _ kQ => XS.icmpNo X0.here hx rfl (hb hby d18_26) rfl (teq hc1362).2 kQ) ?_
      refine gv (fun _ kQ => XS.iconst X0.here hx rfl (hb hby d18_29) (XS.goto X0.here hx rfl (pc0 := 30) (pc' := 34) rfl (hb hby d18_30) (by decide) (by decide) kQ)) ?_
      refine gf _ (own_ret X0 Bd.notSynchronized (v := some (.int 1)) (own_rv Bd.returns) ?_ (by decide) (by decide) (fun fs hr => retN X0 hx (t := .boolean) Bd.returns (by simp) (hb hby d18_34) hr))
      show Q_fits Z c e_ h0 n0 _ s₁.heap _
      rw [e0]
      exact ⟨(own_sv (own_fvd hc1359 hc1362)), N0, rfl⟩
    · refine gv (fun _ kQ => XS.icmpYes X0.here hx rfl (pc0 := 26) (pc' := 33) rfl (hb hby d18_26) rfl (feq hc1362).2 (by decide) (by decide) kQ) ?_
      show G (s₁.setTop (mkF me_ 33 #[.val (.int c), .val (.int e_)] []))
      refine gv (fun _ kQ => XS.iconst X0.here hx rfl (hb hby d18_33) kQ) ?_
      refine gf _ (own_ret X0 Bd.notSynchronized (v := some (.int 0)) (own_rv Bd.returns) ?_ (by decide) (by decide) (fun fs hr => retN X0 hx (t := .boolean) Bd.returns (by simp) (hb hby d18_34) hr))
      show Q_fits Z c e_ h0 n0 _ s₁.heap _
      rw [e0]
      exact ⟨(own_sv (own_fve hc1359 hc1362)), N0, rfl⟩
theorem pn_5 : plainName "com/example/closemark/closemark/csv/CsvReader" = true := by first | (simp [plainName, overriddenIn]; done) | decide +kernel
theorem d27_0 : decode prog_11_method_29_code 0 = .ok (.iload_n 0, 1) := by decide +kernel
theorem d27_1 : decode prog_11_method_29_code 1 = .ok (.bipush 48, 2) := by decide +kernel
theorem d27_3 : decode prog_11_method_29_code 3 = .ok (.if_icmp .lt 13, 3) := by decide +kernel
theorem d27_16 : decode prog_11_method_29_code 16 = .ok (.iconst 0, 1) := by decide +kernel
theorem d27_17 : decode prog_11_method_29_code 17 = .ok (.ireturn, 1) := by decide +kernel
theorem d27_6 : decode prog_11_method_29_code 6 = .ok (.iload_n 0, 1) := by decide +kernel
theorem d27_7 : decode prog_11_method_29_code 7 = .ok (.bipush 57, 2) := by decide +kernel
theorem d27_9 : decode prog_11_method_29_code 9 = .ok (.if_icmp .gt 7, 3) := by decide +kernel
theorem d27_12 : decode prog_11_method_29_code 12 = .ok (.iconst 1, 1) := by decide +kernel
theorem d27_13 : decode prog_11_method_29_code 13 = .ok (.goto 4, 3) := by decide +kernel
def Q_dig (Z : State) (c : Int32) (h0 : Heap) (n0 : Nat) (v : Option Value) (h : Heap) (L : List Loc) : Prop := v = some (.int (if c < (48 : Int32) then (0 : Int32) else (if (57 : Int32) < c then (0 : Int32) else (1 : Int32)))) ∧ Fr n0 L ∧ h = h0
theorem rm_dig (l : Launch) (Z : State) (a0 : Array Value) (hw : own_HW Z a0) (ws : List Jvm.Cond) (c : Int32) (h0 : Heap) (n0 : Nat) (O0 : Old Z n0 h0)  :
    own_Met l Z m_1 prog_11_method_29_code 1 (some .boolean) ws (own_R 0 0 0 0) #[(.int c)] h0 (Q_dig Z c h0 n0) := by
  refine own_open (plainFor_of_name pn_5) (fun pr_ en_ st_ me_ below meth_ co_ s₁ Bd hx hby hml hown hZ X0 e0 G gv gf => ?_)
  have N0 := Fr.nil n0
  refine gv (fun _ kQ => castTop (ef_8 me_ c) kQ) ?_
  show G (s₁.setTop (mkF me_ 0 #[.val (.int c)] []))
  refine gv (fun _ kQ => XS.iloadN X0.here hx rfl (hb hby d27_0) rfl (XS.bipush X0.here hx rfl (hb hby d27_1) kQ)) ?_
  by_cases hc1363 : c < (48 : Int32)
  · refine gv (fun _ kQ => XS.icmpYes X0.here hx rfl (pc0 := 3) (pc' := 16) rfl (hb hby d27_3) rfl (tlt hc1363).1 (by decide) (by decide) kQ) ?_
    refine gv (fun _ kQ => XS.iconst X0.here hx rfl (hb hby d27_16) kQ) ?_
    refine gf _ (own_ret X0 Bd.notSynchronized (v := some (.int 0)) (own_rv Bd.returns) ?_ (by decide) (by decide) (fun fs hr => retN X0 hx (t := .boolean) Bd.returns (by simp) (hb hby d27_17) hr))
    show Q_dig Z c h0 n0 _ s₁.heap _
    rw [e0]
    exact ⟨(by rw [if_pos hc1363]), N0, rfl⟩
  · refine gv (fun _ kQ => XS.icmpNo X0.here hx rfl (hb hby d27_3) rfl (flt hc1363).1 kQ) ?_
    show G (s₁.setTop (mkF me_ 6 #[.val (.int c)] []))
    refine gv (fun _ kQ => XS.iloadN X0.here hx rfl (hb hby d27_6) rfl (XS.bipush X0.here hx rfl (hb hby d27_7) kQ)) ?_
    by_cases hc1364 : (57 : Int32) < c
    · refine gv (fun _ kQ => XS.icmpYes X0.here hx rfl (pc0 := 9) (pc' := 16) rfl (hb hby d27_9) rfl (tlt hc1364).2.2.1 (by decide) (by decide) kQ) ?_
      refine gv (fun _ kQ => XS.iconst X0.here hx rfl (hb hby d27_16) kQ) ?_
      refine gf _ (own_ret X0 Bd.notSynchronized (v := some (.int 0)) (own_rv Bd.returns) ?_ (by decide) (by decide) (fun fs hr => retN X0 hx (t := .boolean) Bd.returns (by simp) (hb hby d27_17) hr))
      show Q_dig Z c h0 n0 _ s₁.heap _
      rw [e0]
      exact ⟨(by rw [if_neg hc1363, if_pos hc1364]), N0, rfl⟩
    · refine gv (fun _ kQ => XS.icmpNo X0.here hx rfl (hb hby d27_9) rfl (flt hc1364).2.2.1 kQ) ?_
      show G (s₁.setTop (mkF me_ 12 #[.val (.int c)] []))
      refine gv (fun _ kQ => XS.iconst X0.here hx rfl (hb hby d27_12) (XS.goto X0.here hx rfl (pc0 := 13) (pc' := 17) rfl (hb hby d27_13) (by decide) (by decide) kQ)) ?_
      refine gf _ (own_ret X0 Bd.notSynchronized (v := some (.int 1)) (own_rv Bd.returns) ?_ (by decide) (by decide) (fun fs hr => retN X0 hx (t := .boolean) Bd.returns (by simp) (hb hby d27_17) hr))
      show Q_dig Z c h0 n0 _ s₁.heap _
      rw [e0]
      exact ⟨(by rw [if_neg hc1363, if_neg hc1364]), N0, rfl⟩
theorem ef_15 (m : MethodId) (x0 : Addr) (x1 : Addr)  : entryFrame m #[(.ref x0), (.ref x1)] 6 = mkF m 0 #[.val (.ref x0), .val (.ref x1), .unset, .unset, .unset, .unset] [] := by first | (simp [entryFrame, mkF, argsToLocals, Value.category]; done) | rfl
theorem d7_15 : decode prog_11_method_24_code 15 = .ok (.iload_n 2, 1) := by decide +kernel
theorem d7_16 : decode prog_11_method_24_code 16 = .ok (.aload_n 1, 1) := by decide +kernel
theorem d7_17 : decode prog_11_method_24_code 17 = .ok (.invokevirtual 176, 3) := by decide +kernel
theorem pd_15 : parseMethodDescriptor "()I" = some ⟨[], some .int⟩ := by decide +kernel
theorem d7_20 : decode prog_11_method_24_code 20 = .ok (.if_icmp .ge 56, 3) := by decide +kernel
theorem d7_76 : decode prog_11_method_24_code 76 = .ok (.iconst 1, 1) := by decide +kernel
theorem d7_77 : decode prog_11_method_24_code 77 = .ok (.ireturn, 1) := by decide +kernel
theorem d7_23 : decode prog_11_method_24_code 23 = .ok (.aload_n 1, 1) := by decide +kernel
theorem d7_24 : decode prog_11_method_24_code 24 = .ok (.iload_n 2, 1) := by decide +kernel
theorem d7_25 : decode prog_11_method_24_code 25 = .ok (.invokevirtual 230, 3) := by decide +kernel
theorem pd_16 : parseMethodDescriptor "(I)C" = some ⟨[.int], some .char⟩ := by decide +kernel
theorem d7_28 : decode prog_11_method_24_code 28 = .ok (.istore_n 3, 1) := by decide +kernel
theorem d7_29 : decode prog_11_method_24_code 29 = .ok (.aload_n 0, 1) := by decide +kernel
theorem d7_30 : decode prog_11_method_24_code 30 = .ok (.iload_n 2, 1) := by decide +kernel
theorem d7_31 : decode prog_11_method_24_code 31 = .ok (.invokevirtual 230, 3) := by decide +kernel
theorem d7_34 : decode prog_11_method_24_code 34 = .ok (.istore 4, 2) := by decide +kernel
theorem d7_36 : decode prog_11_method_24_code 36 = .ok (.iload_n 3, 1) := by decide +kernel
theorem d7_37 : decode prog_11_method_24_code 37 = .ok (.bipush 48, 2) := by decide +kernel
theorem d7_39 : decode prog_11_method_24_code 39 = .ok (.if_icmp .ne 11, 3) := by decide +kernel
theorem d7_42 : decode prog_11_method_24_code 42 = .ok (.iload 4, 2) := by decide +kernel
theorem d7_44 : decode prog_11_method_24_code 44 = .ok (.invokestatic 234, 3) := by decide +kernel
theorem pd_17 : parseMethodDescriptor "(C)Z" = some ⟨[.char], some .boolean⟩ := by decide +kernel
theorem d7_47 : decode prog_11_method_24_code 47 = .ok (.goto 14, 3) := by decide +kernel
theorem d7_61 : decode prog_11_method_24_code 61 = .ok (.istore 5, 2) := by decide +kernel
theorem d7_63 : decode prog_11_method_24_code 63 = .ok (.iload 5, 2) := by decide +kernel
theorem d7_65 : decode prog_11_method_24_code 65 = .ok (.ifCond .ne 5, 3) := by decide +kernel
theorem d7_68 : decode prog_11_method_24_code 68 = .ok (.iconst 0, 1) := by decide +kernel
theorem d7_69 : decode prog_11_method_24_code 69 = .ok (.ireturn, 1) := by decide +kernel
theorem d7_70 : decode prog_11_method_24_code 70 = .ok (.iinc 2 1, 3) := by decide +kernel
theorem d7_73 : decode prog_11_method_24_code 73 = .ok (.goto (-58), 3) := by decide +kernel
theorem d7_50 : decode prog_11_method_24_code 50 = .ok (.iload 4, 2) := by decide +kernel
theorem d7_52 : decode prog_11_method_24_code 52 = .ok (.iload_n 3, 1) := by decide +kernel
theorem d7_53 : decode prog_11_method_24_code 53 = .ok (.if_icmp .ne 7, 3) := by decide +kernel
theorem d7_56 : decode prog_11_method_24_code 56 = .ok (.iconst 1, 1) := by decide +kernel
theorem d7_57 : decode prog_11_method_24_code 57 = .ok (.goto 4, 3) := by decide +kernel
theorem d7_60 : decode prog_11_method_24_code 60 = .ok (.iconst 0, 1) := by decide +kernel
theorem d7_0 : decode prog_11_method_24_code 0 = .ok (.aload_n 0, 1) := by decide +kernel
theorem d7_1 : decode prog_11_method_24_code 1 = .ok (.invokevirtual 176, 3) := by decide +kernel
theorem d7_4 : decode prog_11_method_24_code 4 = .ok (.aload_n 1, 1) := by decide +kernel
theorem d7_5 : decode prog_11_method_24_code 5 = .ok (.invokevirtual 176, 3) := by decide +kernel
theorem d7_8 : decode prog_11_method_24_code 8 = .ok (.if_icmp .eq 5, 3) := by decide +kernel
theorem d7_13 : decode prog_11_method_24_code 13 = .ok (.iconst 0, 1) := by decide +kernel
theorem d7_14 : decode prog_11_method_24_code 14 = .ok (.istore_n 2, 1) := by decide +kernel
theorem d7_11 : decode prog_11_method_24_code 11 = .ok (.iconst 0, 1) := by decide +kernel
theorem d7_12 : decode prog_11_method_24_code 12 = .ok (.ireturn, 1) := by decide +kernel
def Q_hs (Z : State) (a b_ : Addr) (tl sl : Int32) (tc0 tc1 : Int32) (tc2 tc3 : Int32) (sc0 sc1 : Int32) (sc2 sc3 cs : Int32) (fmt : Value) (h0 : Heap) (n0 : Nat) (v : Option Value) (h : Heap) (L : List Loc) : Prop := v = some (.int (if (own_df tl sl) = (1 : Int32) then (0 : Int32) else (if sl < (1 : Int32) then (1 : Int32) else (if (own_fv tc0 sc0) = (0 : Int32) then (0 : Int32) else (if sl < (2 : Int32) then (1 : Int32) else (if (own_fv tc1 sc1) = (0 : Int32) then (0 : Int32) else (if sl < (3 : Int32) then (1 : Int32) else (if (own_fv tc2 sc2) = (0 : Int32) then (0 : Int32) else (if sl < (4 : Int32) then (1 : Int32) else (if (own_fv tc3 sc3) = (0 : Int32) then (0 : Int32) else (1 : Int32))))))))))) ∧ Fr n0 L ∧ h = h0
theorem rm_hs (l : Launch) (Z : State) (a0 : Array Value) (hw : own_HW Z a0) (ws : List Jvm.Cond) (a b_ : Addr) (tl sl : Int32) (tc0 tc1 : Int32) (tc2 tc3 : Int32) (sc0 sc1 : Int32) (sc2 sc3 cs : Int32) (fmt : Value) (h0 : Heap) (n0 : Nat) (O0 : Old Z n0 h0) (u0 : Sta Z Z.heap "java/lang/String" "COMPACT_STRINGS" "Z" (.int cs)) (u1 : ¬ (cs = (0 : Int32))) (u2 : Sta Z Z.heap "java/lang/StringUTF16" "$assertionsDisabled" "Z" (.int 1)) (u3 : Sta Z Z.heap "java/lang/StringUTF16" "HI_BYTE_SHIFT" "I" (.int 0)) (u4 : Sta Z Z.heap "java/lang/StringUTF16" "LO_BYTE_SHIFT" "I" (.int 8)) (u5 : fmt.isRef = true) (u6 : Sta Z Z.heap "jdk/internal/util/Preconditions" "SIOOBE_FORMATTER" "Ljava/util/function/BiFunction;" fmt) (u7 : Exa Z h0 a "java/lang/String") (u8 : own_SX Z h0 a tl tc0 tc1 tc2 tc3) (u9 : Exa Z h0 b_ "java/lang/String") (u10 : own_SX Z h0 b_ sl sc0 sc1 sc2 sc3) (u11 : (own_le4 sl)) :
    own_Met l Z m_0 prog_11_method_24_code 6 (some .boolean) ws (own_R 5 0 0 66) #[(.ref a), (.ref b_)] h0 (Q_hs Z a b_ tl sl tc0 tc1 tc2 tc3 sc0 sc1 sc2 sc3 cs fmt h0 n0) := by
  refine own_open (plainFor_of_name pn_5) (fun pr_ en_ st_ me_ below meth_ co_ s₁ Bd hx hby hml hown hZ X0 e0 G gv gf => ?_)
  have N0 := Fr.nil n0
  refine gv (fun _ kQ => castTop (ef_15 me_ a b_) kQ) ?_
  show G (s₁.setTop (mkF me_ 0 #[.val (.ref a), .val (.ref b_), .unset, .unset, .unset, .unset] []))
  have J4 : ∀ (Tj : State) (Lj : List Loc) (Xj : Stand pr_ l en_ (own_R 5 0 0 66) st_ me_ #[(.ref a), (.ref b_)] below meth_ co_ Tj Lj 0 0) (Ej : Tj.heap = h0) (Nj : Fr n0 Lj) (pj0 : tl = sl) (pj1 : (0 : Int32) < sl) (pj2 : (1 : Int32) < sl) (pj3 : (2 : Int32) < sl) (pj4 : (3 : Int32) < sl) (pj5 : ¬ ((own_fv tc0 sc0) = (0 : Int32))) (pj6 : ¬ ((own_fv tc1 sc1) = (0 : Int32))) (pj7 : ¬ ((own_fv tc2 sc2) = (0 : Int32))) (pj8 : ¬ ((own_fv tc3 sc3) = (0 : Int32))), G (Tj.setTop (mkF me_ 15 #[.val (.ref a), .val (.ref b_), .val (.int 4), .val (.int sc3), .val (.int tc3), .val (.int 1)] [])) := by
    intro Tj Lj Xj Ej Nj pj0 pj1 pj2 pj3 pj4 pj5 pj6 pj7 pj8
    refine gv (fun _ kQ => XS.iloadN Xj.here hx rfl (hb hby d7_15) rfl (XS.aloadN Xj.here hx rfl (hb hby d7_16) rfl rfl kQ)) ?_
    obtain ⟨cq1365, kq1365, q1365a, q1365b, q1365c⟩ := isOf hZ Ej u9
    obtain ⟨_, _, ⟨T1365, L1365, k1365, n1365⟩, -, X1365, ⟨Lc1365, hQ1365, l1365, y1365, z1365⟩, st1365⟩ := Xj.virtualBack hx (y := m_12) (z := m_12) hown (mvT hZ (t_37 hw)) (mvT hZ (t_38 hw)) (notFace_of_selects (args := #[]) (mvT hZ (t_40 hw))) (mvT hZ (t_40 hw)) (mvT hZ (t_39 hw)) (by decide) (backOf (W := 1) (rm_xlen l Z a0 hw [] b_ sl sc0 sc1 sc2 sc3 cs h0 n0 O0 u0 u1 u9 u10) hZ (t_41 hw) (t_13 hw) (by decide) (by decide)) q1365a q1365c (g := (mkF me_ 17 #[.val (.ref a), .val (.ref b_), .val (.int 4), .val (.int sc3), .val (.int tc3), .val (.int 1)] [(.ref b_), (.int 4)])) rfl (by rw [hml]; rfl) (Steps.refl _) (argsL := []) (rest := [(.int 4)]) (lenOf pd_15 rfl) rfl (by show 2 * 0 + _ ≤ _; exact Nat.le_of_eq rfl) (hb hby d7_17) (fun _ _ => ⟨rfl, Ej, (by decide : 0 + 0 ≤ _), (by decide : 0 + 0 ≤ _)⟩)
    dsimp only [Pt.U, Pt.locs, Pt.cells, Pt.slots] at X1365 l1365 y1365 z1365 st1365 hQ1365
    subst l1365 y1365 z1365
    obtain ⟨rfl, Nq1365, eq1365⟩ := hQ1365
    have N1366 := Fr.app Nj Nq1365
    refine gv (fun _ kQ => st1365.trans (XS.icmpYes X1365.here hx rfl (pc0 := 20) (pc' := 76) rfl (hb hby d7_20) rfl (flt (own_no4 u11)).2.1 (by decide) (by decide) (XS.iconst X1365.here hx rfl (hb hby d7_76) kQ))) ?_
    refine gf _ (own_ret X1365 Bd.notSynchronized (v := some (.int 1)) (own_rv Bd.returns) ?_ (by decide) (by decide) (fun fs hr => retN X1365 hx (t := .boolean) Bd.returns (by simp) (hb hby d7_77) hr))
    show Q_hs Z a b_ tl sl tc0 tc1 tc2 tc3 sc0 sc1 sc2 sc3 cs fmt h0 n0 _ T1365.heap _
    rw [eq1365]
    exact ⟨(by rw [if_neg (own_df0 pj0), if_neg (fun z => (own_sw u11).1.mp z pj1), if_neg pj5, if_neg (fun z => (own_sw u11).2.1.mp z pj2), if_neg pj6, if_neg (fun z => (own_sw u11).2.2.1.mp z pj3), if_neg pj7, if_neg (fun z => (own_sw u11).2.2.2.mp z pj4), if_neg pj8]), N1366, rfl⟩
  have J3 : ∀ (Tj : State) (Lj : List Loc) (Xj : Stand pr_ l en_ (own_R 5 0 0 66) st_ me_ #[(.ref a), (.ref b_)] below meth_ co_ Tj Lj 0 0) (Ej : Tj.heap = h0) (Nj : Fr n0 Lj) (pj0 : tl = sl) (pj1 : (0 : Int32) < sl) (pj2 : (1 : Int32) < sl) (pj3 : (2 : Int32) < sl) (pj4 : ¬ ((own_fv tc0 sc0) = (0 : Int32))) (pj5 : ¬ ((own_fv tc1 sc1) = (0 : Int32))) (pj6 : ¬ ((own_fv tc2 sc2) = (0 : Int32))), G (Tj.setTop (mkF me_ 15 #[.val (.ref a), .val (.ref b_), .val (.int 3), .val (.int sc2), .val (.int tc2), .val (.int 1)] [])) := by
    intro Tj Lj Xj Ej Nj pj0 pj1 pj2 pj3 pj4 pj5 pj6
    show G (Tj.setTop (mkF me_ 15 #[.val (.ref a), .val (.ref b_), .val (.int 3), .val (.int sc2), .val (.int tc2), .val (.int 1)] []))
    refine gv (fun _ kQ => XS.iloadN Xj.here hx rfl (hb hby d7_15) rfl (XS.aloadN Xj.here hx rfl (hb hby d7_16) rfl rfl kQ)) ?_
    obtain ⟨cq1367, kq1367, q1367a, q1367b, q1367c⟩ := isOf hZ Ej u9
    obtain ⟨_, _, ⟨T1367, L1367, k1367, n1367⟩, -, X1367, ⟨Lc1367, hQ1367, l1367, y1367, z1367⟩, st1367⟩ := Xj.virtualBack hx (y := m_12) (z := m_12) hown (mvT hZ (t_37 hw)) (mvT hZ (t_38 hw)) (notFace_of_selects (args := #[]) (mvT hZ (t_40 hw))) (mvT hZ (t_40 hw)) (mvT hZ (t_39 hw)) (by decide) (backOf (W := 1) (rm_xlen l Z a0 hw [] b_ sl sc0 sc1 sc2 sc3 cs h0 n0 O0 u0 u1 u9 u10) hZ (t_41 hw) (t_13 hw) (by decide) (by decide)) q1367a q1367c (g := (mkF me_ 17 #[.val (.ref a), .val (.ref b_), .val (.int 3), .val (.int sc2), .val (.int tc2), .val (.int 1)] [(.ref b_), (.int 3)])) rfl (by rw [hml]; rfl) (Steps.refl _) (argsL := []) (rest := [(.int 3)]) (lenOf pd_15 rfl) rfl (by show 2 * 0 + _ ≤ _; exact Nat.le_of_eq rfl) (hb hby d7_17) (fun _ _ => ⟨rfl, Ej, (by decide : 0 + 0 ≤ _), (by decide : 0 + 0 ≤ _)⟩)
    dsimp only [Pt.U, Pt.locs, Pt.cells, Pt.slots] at X1367 l1367 y1367 z1367 st1367 hQ1367
    subst l1367 y1367 z1367
    obtain ⟨rfl, Nq1367, eq1367⟩ := hQ1367
    have N1368 := Fr.app Nj Nq1367
    refine gv (fun _ kQ => st1367.trans kQ) ?_
    show G (T1367.setTop (mkF me_ 20 #[.val (.ref a), .val (.ref b_), .val (.int 3), .val (.int sc2), .val (.int tc2), .val (.int 1)] [(.int sl), (.int 3)]))
    by_cases hc1369 : (3 : Int32) < sl
    · refine gv (fun _ kQ => XS.icmpNo X1367.here hx rfl (hb hby d7_20) rfl (tlt hc1369).2.1 kQ) ?_
      refine gv (fun _ kQ => XS.aloadN X1367.here hx rfl (hb hby d7_23) rfl rfl (XS.iloadN X1367.here hx rfl (hb hby d7_24) rfl kQ)) ?_
      obtain ⟨cq1370, kq1370, q1370a, q1370b, q1370c⟩ := isOf hZ eq1367 u9
      obtain ⟨_, _, ⟨T1370, L1370, k1370, n1370⟩, -, X1370, ⟨Lc1370, hQ1370, l1370, y1370, z1370⟩, st1370⟩ := X1367.virtualBack hx (y := m_8) (z := m_8) hown (mvT hZ (t_80 hw)) (mvT hZ (t_81 hw)) (notFace_of_selects (args := #[]) (mvT hZ (t_83 hw))) (mvT hZ (t_83 hw)) (mvT hZ (t_82 hw)) (by decide) (backOf (W := 0) (rm_xat3 l Z a0 hw [] b_ sl sc0 sc1 sc2 sc3 cs fmt h0 n0 O0 u0 u1 u2 u3 u4 u5 u6 u9 u10 hc1369) hZ (t_84 hw) (t_13 hw) (by decide) (by decide)) q1370a q1370c (g := (mkF me_ 25 #[.val (.ref a), .val (.ref b_), .val (.int 3), .val (.int sc2), .val (.int tc2), .val (.int 1)] [(.int 3), (.ref b_)])) rfl (by rw [hml]; rfl) (Steps.refl _) (argsL := [(.int 3)]) (rest := []) (lenOf pd_16 rfl) rfl (by show 2 * 0 + _ ≤ _; exact Nat.le_of_eq rfl) (hb hby d7_25) (fun _ _ => ⟨rfl, eq1367, (by decide : 0 + 0 ≤ _), (by decide : 0 + 0 ≤ _)⟩)
      dsimp only [Pt.U, Pt.locs, Pt.cells, Pt.slots] at X1370 l1370 y1370 z1370 st1370 hQ1370
      subst l1370 y1370 z1370
      obtain ⟨rfl, Nq1370, eq1370⟩ := hQ1370
      have N1371 := Fr.app N1368 Nq1370
      refine gv (fun _ kQ => st1370.trans (XS.istoreN X1370.here hx rfl (hb hby d7_28) rfl (l' := #[.val (.ref a), .val (.ref b_), .val (.int 3), .val (.int sc3), .val (.int tc2), .val (.int 1)]) rfl (XS.aloadN X1370.here hx rfl (hb hby d7_29) rfl rfl (XS.iloadN X1370.here hx rfl (hb hby d7_30) rfl kQ)))) ?_
      show G (T1370.setTop (mkF me_ 31 #[.val (.ref a), .val (.ref b_), .val (.int 3), .val (.int sc3), .val (.int tc2), .val (.int 1)] [(.int 3), (.ref a)]))
      obtain ⟨cq1372, kq1372, q1372a, q1372b, q1372c⟩ := isOf hZ eq1370 u7
      obtain ⟨_, _, ⟨T1372, L1372, k1372, n1372⟩, -, X1372, ⟨Lc1372, hQ1372, l1372, y1372, z1372⟩, st1372⟩ := X1370.virtualBack hx (y := m_8) (z := m_8) hown (mvT hZ (t_80 hw)) (mvT hZ (t_81 hw)) (notFace_of_selects (args := #[]) (mvT hZ (t_83 hw))) (mvT hZ (t_83 hw)) (mvT hZ (t_82 hw)) (by decide) (backOf (W := 0) (rm_xat3 l Z a0 hw [] a tl tc0 tc1 tc2 tc3 cs fmt h0 n0 O0 u0 u1 u2 u3 u4 u5 u6 u7 u8 (own_ltr pj0 hc1369)) hZ (t_84 hw) (t_13 hw) (by decide) (by decide)) q1372a q1372c (g := (mkF me_ 31 #[.val (.ref a), .val (.ref b_), .val (.int 3), .val (.int sc3), .val (.int tc2), .val (.int 1)] [(.int 3), (.ref a)])) rfl (by rw [hml]; rfl) (Steps.refl _) (argsL := [(.int 3)]) (rest := []) (lenOf pd_16 rfl) rfl (by show 2 * 0 + _ ≤ _; exact Nat.le_of_eq rfl) (hb hby d7_31) (fun _ _ => ⟨rfl, eq1370, (by decide : 0 + 0 ≤ _), (by decide : 0 + 0 ≤ _)⟩)
      dsimp only [Pt.U, Pt.locs, Pt.cells, Pt.slots] at X1372 l1372 y1372 z1372 st1372 hQ1372
      subst l1372 y1372 z1372
      obtain ⟨rfl, Nq1372, eq1372⟩ := hQ1372
      have N1373 := Fr.app N1371 Nq1372
      refine gv (fun _ kQ => st1372.trans (XS.istore X1372.here hx rfl (hb hby d7_34) rfl (l' := #[.val (.ref a), .val (.ref b_), .val (.int 3), .val (.int sc3), .val (.int tc3), .val (.int 1)]) rfl (XS.iloadN X1372.here hx rfl (hb hby d7_36) rfl (XS.bipush X1372.here hx rfl (hb hby d7_37) kQ)))) ?_
      show G (T1372.setTop (mkF me_ 39 #[.val (.ref a), .val (.ref b_), .val (.int 3), .val (.int sc3), .val (.int tc3), .val (.int 1)] [(.int 48), (.int sc3)]))
      by_cases hc1374 : sc3 = (48 : Int32)
      · refine gv (fun _ kQ => XS.icmpNo X1372.here hx rfl (hb hby d7_39) rfl (teq hc1374).2 kQ) ?_
        refine gv (fun _ kQ => XS.iload X1372.here hx rfl (hb hby d7_42) rfl kQ) ?_
        obtain ⟨_, _, ⟨T1375, L1375, k1375, n1375⟩, -, X1375, ⟨Lc1375, hQ1375, l1375, y1375, z1375⟩, st1375⟩ := Jvm.LawKit.callS X1372 hx (y := m_1) hown (mvT hZ (t_112 hw)) (mvT hZ (t_113 hw)) (mvT hZ (t_35 hw)) (mvT hZ (t_114 hw)) (by decide) (backOf (W := 0) (rm_dig l Z a0 hw [] tc3 h0 n0 O0 ) hZ (t_114 hw) (t_35 hw) (by decide) (by decide)) (g := (mkF me_ 44 #[.val (.ref a), .val (.ref b_), .val (.int 3), .val (.int sc3), .val (.int tc3), .val (.int 1)] [(.int tc3)])) rfl (by rw [hml]; rfl) (argsL := [(.int tc3)]) (rest := []) (lenOf pd_17 rfl) rfl (by show 2 * 0 + _ ≤ _; exact Nat.le_of_eq rfl) (hb hby d7_44) (fun _ _ => ⟨rfl, eq1372, (by decide : 0 + 0 ≤ _), (by decide : 0 + 0 ≤ _)⟩)
        dsimp only [Pt.U, Pt.locs, Pt.cells, Pt.slots] at X1375 l1375 y1375 z1375 st1375 hQ1375
        subst l1375 y1375 z1375
        obtain ⟨rfl, Nq1375, eq1375⟩ := hQ1375
        have N1376 := Fr.app N1373 Nq1375
        by_cases hb1377 : tc3 < (48 : Int32)
        · rw [if_pos hb1377] at st1375
          refine gv st1375 ?_
          refine gv (fun _ kQ => XS.goto X1375.here hx rfl (pc0 := 47) (pc' := 61) rfl (hb hby d7_47) (by decide) (by decide) (XS.istore X1375.here hx rfl (hb hby d7_61) rfl (l' := #[.val (.ref a), .val (.ref b_), .val (.int 3), .val (.int sc3), .val (.int tc3), .val (.int 0)]) rfl (XS.iload X1375.here hx rfl (hb hby d7_63) rfl (XS.ifNo X1375.here hx rfl (hb hby d7_65) rfl ((if0 _ _).trans (teq (by decide : (0 : Int32) = (0 : Int32))).2) (XS.iconst X1375.here hx rfl (hb hby d7_68) kQ))))) ?_
          refine gf _ (own_ret X1375 Bd.notSynchronized (v := some (.int 0)) (own_rv Bd.returns) ?_ (by decide) (by decide) (fun fs hr => retN X1375 hx (t := .boolean) Bd.returns (by simp) (hb hby d7_69) hr))
          show Q_hs Z a b_ tl sl tc0 tc1 tc2 tc3 sc0 sc1 sc2 sc3 cs fmt h0 n0 _ T1375.heap _
          rw [eq1375]
          exact ⟨(by rw [if_neg (own_df0 pj0), if_neg (fun z => (own_sw u11).1.mp z pj1), if_neg pj4, if_neg (fun z => (own_sw u11).2.1.mp z pj2), if_neg pj5, if_neg (fun z => (own_sw u11).2.2.1.mp z pj3), if_neg pj6, if_neg (fun z => (own_sw u11).2.2.2.mp z hc1369), if_pos (own_fva hc1374 hb1377)]), N1376, rfl⟩
        · skip
          by_cases hb1378 : (57 : Int32) < tc3
          · rw [if_neg hb1377, if_pos hb1378] at st1375
            refine gv st1375 ?_
            refine gv (fun _ kQ => XS.goto X1375.here hx rfl (pc0 := 47) (pc' := 61) rfl (hb hby d7_47) (by decide) (by decide) (XS.istore X1375.here hx rfl (hb hby d7_61) rfl (l' := #[.val (.ref a), .val (.ref b_), .val (.int 3), .val (.int sc3), .val (.int tc3), .val (.int 0)]) rfl (XS.iload X1375.here hx rfl (hb hby d7_63) rfl (XS.ifNo X1375.here hx rfl (hb hby d7_65) rfl ((if0 _ _).trans (teq (by decide : (0 : Int32) = (0 : Int32))).2) (XS.iconst X1375.here hx rfl (hb hby d7_68) kQ))))) ?_
            refine gf _ (own_ret X1375 Bd.notSynchronized (v := some (.int 0)) (own_rv Bd.returns) ?_ (by decide) (by decide) (fun fs hr => retN X1375 hx (t := .boolean) Bd.returns (by simp) (hb hby d7_69) hr))
            show Q_hs Z a b_ tl sl tc0 tc1 tc2 tc3 sc0 sc1 sc2 sc3 cs fmt h0 n0 _ T1375.heap _
            rw [eq1375]
            exact ⟨(by rw [if_neg (own_df0 pj0), if_neg (fun z => (own_sw u11).1.mp z pj1), if_neg pj4, if_neg (fun z => (own_sw u11).2.1.mp z pj2), if_neg pj5, if_neg (fun z => (own_sw u11).2.2.1.mp z pj3), if_neg pj6, if_neg (fun z => (own_sw u11).2.2.2.mp z hc1369), if_pos (own_fvb hc1374 hb1377 hb1378)]), N1376, rfl⟩
          · skip
            rw [if_neg hb1377, if_neg hb1378] at st1375
            refine gv st1375 ?_
            refine gv (fun _ kQ => XS.goto X1375.here hx rfl (pc0 := 47) (pc' := 61) rfl (hb hby d7_47) (by decide) (by decide) (XS.istore X1375.here hx rfl (hb hby d7_61) rfl (l' := #[.val (.ref a), .val (.ref b_), .val (.int 3), .val (.int sc3), .val (.int tc3), .val (.int 1)]) rfl (XS.iload X1375.here hx rfl (hb hby d7_63) rfl (XS.ifYes X1375.here hx rfl (pc0 := 65) (pc' := 70) rfl (hb hby d7_65) rfl ((if0 _ _).trans (feq (by decide : ¬ ((1 : Int32) = (0 : Int32)))).2) (by decide) (by decide) (XS.iinc X1375.here hx rfl (hb hby d7_70) rfl (l' := #[.val (.ref a), .val (.ref b_), .val (.int ((3 : Int32) + (1 : Int32))), .val (.int sc3), .val (.int tc3), .val (.int 1)]) rfl kQ))))) ?_
            show G (T1375.setTop (mkF me_ 73 #[.val (.ref a), .val (.ref b_), .val (.int ((3 : Int32) + (1 : Int32))), .val (.int sc3), .val (.int tc3), .val (.int 1)] []))
            rw [(by decide : ((3 : Int32) + (1 : Int32)) = (4 : Int32))]
            refine gv (fun _ kQ => XS.goto X1375.here hx rfl (pc0 := 73) (pc' := 15) rfl (hb hby d7_73) (by decide) (by decide) kQ) ?_
            exact J4 _ _ X1375 eq1375 N1376 pj0 pj1 pj2 pj3 hc1369 pj4 pj5 pj6 (own_n0 (own_fvc hc1374 hb1377 hb1378))
      · refine gv (fun _ kQ => XS.icmpYes X1372.here hx rfl (pc0 := 39) (pc' := 50) rfl (hb hby d7_39) rfl (feq hc1374).2 (by decide) (by decide) kQ) ?_
        refine gv (fun _ kQ => XS.iload X1372.here hx rfl (hb hby d7_50) rfl (XS.iloadN X1372.here hx rfl (hb hby d7_52) rfl kQ)) ?_
        show G (T1372.setTop (mkF me_ 53 #[.val (.ref a), .val (.ref b_), .val (.int 3), .val (.int sc3), .val (.int tc3), .val (.int 1)] [(.int sc3), (.int tc3)]))
        by_cases hc1379 : tc3 = sc3
        · refine gv (fun _ kQ => XS.icmpNo X1372.here hx rfl (hb hby d7_53) rfl (teq hc1379).2 kQ) ?_
          refine gv (fun _ kQ => XS.iconst X1372.here hx rfl (hb hby d7_56) (XS.goto X1372.here hx rfl (pc0 := 57) (pc' := 61) rfl (hb hby d7_57) (by decide) (by decide) (XS.istore X1372.here hx rfl (hb hby d7_61) rfl (l' := #[.val (.ref a), .val (.ref b_), .val (.int 3), .val (.int sc3), .val (.int tc3), .val (.int 1)]) rfl (XS.iload X1372.here hx rfl (hb hby d7_63) rfl (XS.ifYes X1372.here hx rfl (pc0 := 65) (pc' := 70) rfl (hb hby d7_65) rfl ((if0 _ _).trans (feq (by decide : ¬ ((1 : Int32) = (0 : Int32)))).2) (by decide) (by decide) (XS.iinc X1372.here hx rfl (hb hby d7_70) rfl (l' := #[.val (.ref a), .val (.ref b_), .val (.int ((3 : Int32) + (1 : Int32))), .val (.int sc3), .val (.int tc3), .val (.int 1)]) rfl kQ)))))) ?_
          show G (T1372.setTop (mkF me_ 73 #[.val (.ref a), .val (.ref b_), .val (.int ((3 : Int32) + (1 : Int32))), .val (.int sc3), .val (.int tc3), .val (.int 1)] []))
          rw [(by decide : ((3 : Int32) + (1 : Int32)) = (4 : Int32))]
          refine gv (fun _ kQ => XS.goto X1372.here hx rfl (pc0 := 73) (pc' := 15) rfl (hb hby d7_73) (by decide) (by decide) kQ) ?_
          exact J4 _ _ X1372 eq1372 N1373 pj0 pj1 pj2 pj3 hc1369 pj4 pj5 pj6 (own_n0 (own_fvd hc1374 hc1379))
        · refine gv (fun _ kQ => XS.icmpYes X1372.here hx rfl (pc0 := 53) (pc' := 60) rfl (hb hby d7_53) rfl (feq hc1379).2 (by decide) (by decide) kQ) ?_
          refine gv (fun _ kQ => XS.iconst X1372.here hx rfl (hb hby d7_60) (XS.istore X1372.here hx rfl (hb hby d7_61) rfl (l' := #[.val (.ref a), .val (.ref b_), .val (.int 3), .val (.int sc3), .val (.int tc3), .val (.int 0)]) rfl (XS.iload X1372.here hx rfl (hb hby d7_63) rfl (XS.ifNo X1372.here hx rfl (hb hby d7_65) rfl ((if0 _ _).trans (teq (by decide : (0 : Int32) = (0 : Int32))).2) (XS.iconst X1372.here hx rfl (hb hby d7_68) kQ))))) ?_
          refine gf _ (own_ret X1372 Bd.notSynchronized (v := some (.int 0)) (own_rv Bd.returns) ?_ (by decide) (by decide) (fun fs hr => retN X1372 hx (t := .boolean) Bd.returns (by simp) (hb hby d7_69) hr))
          show Q_hs Z a b_ tl sl tc0 tc1 tc2 tc3 sc0 sc1 sc2 sc3 cs fmt h0 n0 _ T1372.heap _
          rw [eq1372]
          exact ⟨(by rw [if_neg (own_df0 pj0), if_neg (fun z => (own_sw u11).1.mp z pj1), if_neg pj4, if_neg (fun z => (own_sw u11).2.1.mp z pj2), if_neg pj5, if_neg (fun z => (own_sw u11).2.2.1.mp z pj3), if_neg pj6, if_neg (fun z => (own_sw u11).2.2.2.mp z hc1369), if_pos (own_fve hc1374 hc1379)]), N1373, rfl⟩
    · refine gv (fun _ kQ => XS.icmpYes X1367.here hx rfl (pc0 := 20) (pc' := 76) rfl (hb hby d7_20) rfl (flt hc1369).2.1 (by decide) (by decide) kQ) ?_
      show G (T1367.setTop (mkF me_ 76 #[.val (.ref a), .val (.ref b_), .val (.int 3), .val (.int sc2), .val (.int tc2), .val (.int 1)] []))
      refine gv (fun _ kQ => XS.iconst X1367.here hx rfl (hb hby d7_76) kQ) ?_
      refine gf _ (own_ret X1367 Bd.notSynchronized (v := some (.int 1)) (own_rv Bd.returns) ?_ (by decide) (by decide) (fun fs hr => retN X1367 hx (t := .boolean) Bd.returns (by simp) (hb hby d7_77) hr))
      show Q_hs Z a b_ tl sl tc0 tc1 tc2 tc3 sc0 sc1 sc2 sc3 cs fmt h0 n0 _ T1367.heap _
      rw [eq1367]
      exact ⟨(by rw [if_neg (own_df0 pj0), if_neg (fun z => (own_sw u11).1.mp z pj1), if_neg pj4, if_neg (fun z => (own_sw u11).2.1.mp z pj2), if_neg pj5, if_neg (fun z => (own_sw u11).2.2.1.mp z pj3), if_neg pj6, if_pos ((own_sw u11).2.2.2.mpr hc1369)]), N1368, rfl⟩
  have J2 : ∀ (Tj : State) (Lj : List Loc) (Xj : Stand pr_ l en_ (own_R 5 0 0 66) st_ me_ #[(.ref a), (.ref b_)] below meth_ co_ Tj Lj 0 0) (Ej : Tj.heap = h0) (Nj : Fr n0 Lj) (pj0 : tl = sl) (pj1 : (0 : Int32) < sl) (pj2 : (1 : Int32) < sl) (pj3 : ¬ ((own_fv tc0 sc0) = (0 : Int32))) (pj4 : ¬ ((own_fv tc1 sc1) = (0 : Int32))), G (Tj.setTop (mkF me_ 15 #[.val (.ref a), .val (.ref b_), .val (.int 2), .val (.int sc1), .val (.int tc1), .val (.int 1)] [])) := by
    intro Tj Lj Xj Ej Nj pj0 pj1 pj2 pj3 pj4
    refine gv (fun _ kQ => XS.iloadN Xj.here hx rfl (hb hby d7_15) rfl (XS.aloadN Xj.here hx rfl (hb hby d7_16) rfl rfl kQ)) ?_
    show G (Tj.setTop (mkF me_ 17 #[.val (.ref a), .val (.ref b_), .val (.int 2), .val (.int sc1), .val (.int tc1), .val (.int 1)] [(.ref b_), (.int 2)]))
    obtain ⟨cq1380, kq1380, q1380a, q1380b, q1380c⟩ := isOf hZ Ej u9
    obtain ⟨_, _, ⟨T1380, L1380, k1380, n1380⟩, -, X1380, ⟨Lc1380, hQ1380, l1380, y1380, z1380⟩, st1380⟩ := Xj.virtualBack hx (y := m_12) (z := m_12) hown (mvT hZ (t_37 hw)) (mvT hZ (t_38 hw)) (notFace_of_selects (args := #[]) (mvT hZ (t_40 hw))) (mvT hZ (t_40 hw)) (mvT hZ (t_39 hw)) (by decide) (backOf (W := 1) (rm_xlen l Z a0 hw [] b_ sl sc0 sc1 sc2 sc3 cs h0 n0 O0 u0 u1 u9 u10) hZ (t_41 hw) (t_13 hw) (by decide) (by decide)) q1380a q1380c (g := (mkF me_ 17 #[.val (.ref a), .val (.ref b_), .val (.int 2), .val (.int sc1), .val (.int tc1), .val (.int 1)] [(.ref b_), (.int 2)])) rfl (by rw [hml]; rfl) (Steps.refl _) (argsL := []) (rest := [(.int 2)]) (lenOf pd_15 rfl) rfl (by show 2 * 0 + _ ≤ _; exact Nat.le_of_eq rfl) (hb hby d7_17) (fun _ _ => ⟨rfl, Ej, (by decide : 0 + 0 ≤ _), (by decide : 0 + 0 ≤ _)⟩)
    dsimp only [Pt.U, Pt.locs, Pt.cells, Pt.slots] at X1380 l1380 y1380 z1380 st1380 hQ1380
    subst l1380 y1380 z1380
    obtain ⟨rfl, Nq1380, eq1380⟩ := hQ1380
    have N1381 := Fr.app Nj Nq1380
    refine gv (fun _ kQ => st1380.trans kQ) ?_
    by_cases hc1382 : (2 : Int32) < sl
    · refine gv (fun _ kQ => XS.icmpNo X1380.here hx rfl (hb hby d7_20) rfl (tlt hc1382).2.1 kQ) ?_
      refine gv (fun _ kQ => XS.aloadN X1380.here hx rfl (hb hby d7_23) rfl rfl (XS.iloadN X1380.here hx rfl (hb hby d7_24) rfl kQ)) ?_
      show G (T1380.setTop (mkF me_ 25 #[.val (.ref a), .val (.ref b_), .val (.int 2), .val (.int sc1), .val (.int tc1), .val (.int 1)] [(.int 2), (.ref b_)]))
      obtain ⟨cq1383, kq1383, q1383a, q1383b, q1383c⟩ := isOf hZ eq1380 u9
      obtain ⟨_, _, ⟨T1383, L1383, k1383, n1383⟩, -, X1383, ⟨Lc1383, hQ1383, l1383, y1383, z1383⟩, st1383⟩ := X1380.virtualBack hx (y := m_8) (z := m_8) hown (mvT hZ (t_80 hw)) (mvT hZ (t_81 hw)) (notFace_of_selects (args := #[]) (mvT hZ (t_83 hw))) (mvT hZ (t_83 hw)) (mvT hZ (t_82 hw)) (by decide) (backOf (W := 0) (rm_xat2 l Z a0 hw [] b_ sl sc0 sc1 sc2 sc3 cs fmt h0 n0 O0 u0 u1 u2 u3 u4 u5 u6 u9 u10 hc1382) hZ (t_84 hw) (t_13 hw) (by decide) (by decide)) q1383a q1383c (g := (mkF me_ 25 #[.val (.ref a), .val (.ref b_), .val (.int 2), .val (.int sc1), .val (.int tc1), .val (.int 1)] [(.int 2), (.ref b_)])) rfl (by rw [hml]; rfl) (Steps.refl _) (argsL := [(.int 2)]) (rest := []) (lenOf pd_16 rfl) rfl (by show 2 * 0 + _ ≤ _; exact Nat.le_of_eq rfl) (hb hby d7_25) (fun _ _ => ⟨rfl, eq1380, (by decide : 0 + 0 ≤ _), (by decide : 0 + 0 ≤ _)⟩)
      dsimp only [Pt.U, Pt.locs, Pt.cells, Pt.slots] at X1383 l1383 y1383 z1383 st1383 hQ1383
      subst l1383 y1383 z1383
      obtain ⟨rfl, Nq1383, eq1383⟩ := hQ1383
      have N1384 := Fr.app N1381 Nq1383
      refine gv (fun _ kQ => st1383.trans (XS.istoreN X1383.here hx rfl (hb hby d7_28) rfl (l' := #[.val (.ref a), .val (.ref b_), .val (.int 2), .val (.int sc2), .val (.int tc1), .val (.int 1)]) rfl (XS.aloadN X1383.here hx rfl (hb hby d7_29) rfl rfl (XS.iloadN X1383.here hx rfl (hb hby d7_30) rfl kQ)))) ?_
      show G (T1383.setTop (mkF me_ 31 #[.val (.ref a), .val (.ref b_), .val (.int 2), .val (.int sc2), .val (.int tc1), .val (.int 1)] [(.int 2), (.ref a)]))
      obtain ⟨cq1385, kq1385, q1385a, q1385b, q1385c⟩ := isOf hZ eq1383 u7
      obtain ⟨_, _, ⟨T1385, L1385, k1385, n1385⟩, -, X1385, ⟨Lc1385, hQ1385, l1385, y1385, z1385⟩, st1385⟩ := X1383.virtualBack hx (y := m_8) (z := m_8) hown (mvT hZ (t_80 hw)) (mvT hZ (t_81 hw)) (notFace_of_selects (args := #[]) (mvT hZ (t_83 hw))) (mvT hZ (t_83 hw)) (mvT hZ (t_82 hw)) (by decide) (backOf (W := 0) (rm_xat2 l Z a0 hw [] a tl tc0 tc1 tc2 tc3 cs fmt h0 n0 O0 u0 u1 u2 u3 u4 u5 u6 u7 u8 (own_ltr pj0 hc1382)) hZ (t_84 hw) (t_13 hw) (by decide) (by decide)) q1385a q1385c (g := (mkF me_ 31 #[.val (.ref a), .val (.ref b_), .val (.int 2), .val (.int sc2), .val (.int tc1), .val (.int 1)] [(.int 2), (.ref a)])) rfl (by rw [hml]; rfl) (Steps.refl _) (argsL := [(.int 2)]) (rest := []) (lenOf pd_16 rfl) rfl (by show 2 * 0 + _ ≤ _; exact Nat.le_of_eq rfl) (hb hby d7_31) (fun _ _ => ⟨rfl, eq1383, (by decide : 0 + 0 ≤ _), (by decide : 0 + 0 ≤ _)⟩)
      dsimp only [Pt.U, Pt.locs, Pt.cells, Pt.slots] at X1385 l1385 y1385 z1385 st1385 hQ1385
      subst l1385 y1385 z1385
      obtain ⟨rfl, Nq1385, eq1385⟩ := hQ1385
      have N1386 := Fr.app N1384 Nq1385
      refine gv (fun _ kQ => st1385.trans (XS.istore X1385.here hx rfl (hb hby d7_34) rfl (l' := #[.val (.ref a), .val (.ref b_), .val (.int 2), .val (.int sc2), .val (.int tc2), .val (.int 1)]) rfl (XS.iloadN X1385.here hx rfl (hb hby d7_36) rfl (XS.bipush X1385.here hx rfl (hb hby d7_37) kQ)))) ?_
      show G (T1385.setTop (mkF me_ 39 #[.val (.ref a), .val (.ref b_), .val (.int 2), .val (.int sc2), .val (.int tc2), .val (.int 1)] [(.int 48), (.int sc2)]))
      by_cases hc1387 : sc2 = (48 : Int32)
      · refine gv (fun _ kQ => XS.icmpNo X1385.here hx rfl (hb hby d7_39) rfl (teq hc1387).2 kQ) ?_
        refine gv (fun _ kQ => XS.iload X1385.here hx rfl (hb hby d7_42) rfl kQ) ?_
        obtain ⟨_, _, ⟨T1388, L1388, k1388, n1388⟩, -, X1388, ⟨Lc1388, hQ1388, l1388, y1388, z1388⟩, st1388⟩ := Jvm.LawKit.callS X1385 hx (y := m_1) hown (mvT hZ (t_112 hw)) (mvT hZ (t_113 hw)) (mvT hZ (t_35 hw)) (mvT hZ (t_114 hw)) (by decide) (backOf (W := 0) (rm_dig l Z a0 hw [] tc2 h0 n0 O0 ) hZ (t_114 hw) (t_35 hw) (by decide) (by decide)) (g := (mkF me_ 44 #[.val (.ref a), .val (.ref b_), .val (.int 2), .val (.int sc2), .val (.int tc2), .val (.int 1)] [(.int tc2)])) rfl (by rw [hml]; rfl) (argsL := [(.int tc2)]) (rest := []) (lenOf pd_17 rfl) rfl (by show 2 * 0 + _ ≤ _; exact Nat.le_of_eq rfl) (hb hby d7_44) (fun _ _ => ⟨rfl, eq1385, (by decide : 0 + 0 ≤ _), (by decide : 0 + 0 ≤ _)⟩)
        dsimp only [Pt.U, Pt.locs, Pt.cells, Pt.slots] at X1388 l1388 y1388 z1388 st1388 hQ1388
        subst l1388 y1388 z1388
        obtain ⟨rfl, Nq1388, eq1388⟩ := hQ1388
        have N1389 := Fr.app N1386 Nq1388
        by_cases hb1390 : tc2 < (48 : Int32)
        · rw [if_pos hb1390] at st1388
          refine gv st1388 ?_
          refine gv (fun _ kQ => XS.goto X1388.here hx rfl (pc0 := 47) (pc' := 61) rfl (hb hby d7_47) (by decide) (by decide) (XS.istore X1388.here hx rfl (hb hby d7_61) rfl (l' := #[.val (.ref a), .val (.ref b_), .val (.int 2), .val (.int sc2), .val (.int tc2), .val (.int 0)]) rfl (XS.iload X1388.here hx rfl (hb hby d7_63) rfl (XS.ifNo X1388.here hx rfl (hb hby d7_65) rfl ((if0 _ _).trans (teq (by decide : (0 : Int32) = (0 : Int32))).2) (XS.iconst X1388.here hx rfl (hb hby d7_68) kQ))))) ?_
          refine gf _ (own_ret X1388 Bd.notSynchronized (v := some (.int 0)) (own_rv Bd.returns) ?_ (by decide) (by decide) (fun fs hr => retN X1388 hx (t := .boolean) Bd.returns (by simp) (hb hby d7_69) hr))
          show Q_hs Z a b_ tl sl tc0 tc1 tc2 tc3 sc0 sc1 sc2 sc3 cs fmt h0 n0 _ T1388.heap _
          rw [eq1388]
          exact ⟨(by rw [if_neg (own_df0 pj0), if_neg (fun z => (own_sw u11).1.mp z pj1), if_neg pj3, if_neg (fun z => (own_sw u11).2.1.mp z pj2), if_neg pj4, if_neg (fun z => (own_sw u11).2.2.1.mp z hc1382), if_pos (own_fva hc1387 hb1390)]), N1389, rfl⟩
        · skip
          by_cases hb1391 : (57 : Int32) < tc2
          · rw [if_neg hb1390, if_pos hb1391] at st1388
            refine gv st1388 ?_
            refine gv (fun _ kQ => XS.goto X1388.here hx rfl (pc0 := 47) (pc' := 61) rfl (hb hby d7_47) (by decide) (by decide) (XS.istore X1388.here hx rfl (hb hby d7_61) rfl (l' := #[.val (.ref a), .val (.ref b_), .val (.int 2), .val (.int sc2), .val (.int tc2), .val (.int 0)]) rfl (XS.iload X1388.here hx rfl (hb hby d7_63) rfl (XS.ifNo X1388.here hx rfl (hb hby d7_65) rfl ((if0 _ _).trans (teq (by decide : (0 : Int32) = (0 : Int32))).2) (XS.iconst X1388.here hx rfl (hb hby d7_68) kQ))))) ?_
            refine gf _ (own_ret X1388 Bd.notSynchronized (v := some (.int 0)) (own_rv Bd.returns) ?_ (by decide) (by decide) (fun fs hr => retN X1388 hx (t := .boolean) Bd.returns (by simp) (hb hby d7_69) hr))
            show Q_hs Z a b_ tl sl tc0 tc1 tc2 tc3 sc0 sc1 sc2 sc3 cs fmt h0 n0 _ T1388.heap _
            rw [eq1388]
            exact ⟨(by rw [if_neg (own_df0 pj0), if_neg (fun z => (own_sw u11).1.mp z pj1), if_neg pj3, if_neg (fun z => (own_sw u11).2.1.mp z pj2), if_neg pj4, if_neg (fun z => (own_sw u11).2.2.1.mp z hc1382), if_pos (own_fvb hc1387 hb1390 hb1391)]), N1389, rfl⟩
          · skip
            rw [if_neg hb1390, if_neg hb1391] at st1388
            refine gv st1388 ?_
            refine gv (fun _ kQ => XS.goto X1388.here hx rfl (pc0 := 47) (pc' := 61) rfl (hb hby d7_47) (by decide) (by decide) (XS.istore X1388.here hx rfl (hb hby d7_61) rfl (l' := #[.val (.ref a), .val (.ref b_), .val (.int 2), .val (.int sc2), .val (.int tc2), .val (.int 1)]) rfl (XS.iload X1388.here hx rfl (hb hby d7_63) rfl (XS.ifYes X1388.here hx rfl (pc0 := 65) (pc' := 70) rfl (hb hby d7_65) rfl ((if0 _ _).trans (feq (by decide : ¬ ((1 : Int32) = (0 : Int32)))).2) (by decide) (by decide) (XS.iinc X1388.here hx rfl (hb hby d7_70) rfl (l' := #[.val (.ref a), .val (.ref b_), .val (.int ((2 : Int32) + (1 : Int32))), .val (.int sc2), .val (.int tc2), .val (.int 1)]) rfl kQ))))) ?_
            show G (T1388.setTop (mkF me_ 73 #[.val (.ref a), .val (.ref b_), .val (.int ((2 : Int32) + (1 : Int32))), .val (.int sc2), .val (.int tc2), .val (.int 1)] []))
            rw [(by decide : ((2 : Int32) + (1 : Int32)) = (3 : Int32))]
            refine gv (fun _ kQ => XS.goto X1388.here hx rfl (pc0 := 73) (pc' := 15) rfl (hb hby d7_73) (by decide) (by decide) kQ) ?_
            exact J3 _ _ X1388 eq1388 N1389 pj0 pj1 pj2 hc1382 pj3 pj4 (own_n0 (own_fvc hc1387 hb1390 hb1391))
      · refine gv (fun _ kQ => XS.icmpYes X1385.here hx rfl (pc0 := 39) (pc' := 50) rfl (hb hby d7_39) rfl (feq hc1387).2 (by decide) (by decide) kQ) ?_
        refine gv (fun _ kQ => XS.iload X1385.here hx rfl (hb hby d7_50) rfl (XS.iloadN X1385.here hx rfl (hb hby d7_52) rfl kQ)) ?_
        show G (T1385.setTop (mkF me_ 53 #[.val (.ref a), .val (.ref b_), .val (.int 2), .val (.int sc2), .val (.int tc2), .val (.int 1)] [(.int sc2), (.int tc2)]))
        by_cases hc1392 : tc2 = sc2
        · refine gv (fun _ kQ => XS.icmpNo X1385.here hx rfl (hb hby d7_53) rfl (teq hc1392).2 kQ) ?_
          refine gv (fun _ kQ => XS.iconst X1385.here hx rfl (hb hby d7_56) (XS.goto X1385.here hx rfl (pc0 := 57) (pc' := 61) rfl (hb hby d7_57) (by decide) (by decide) (XS.istore X1385.here hx rfl (hb hby d7_61) rfl (l' := #[.val (.ref a), .val (.ref b_), .val (.int 2), .val (.int sc2), .val (.int tc2), .val (.int 1)]) rfl (XS.iload X1385.here hx rfl (hb hby d7_63) rfl (XS.ifYes X1385.here hx rfl (pc0 := 65) (pc' := 70) rfl (hb hby d7_65) rfl ((if0 _ _).trans (feq (by decide : ¬ ((1 : Int32) = (0 : Int32)))).2) (by decide) (by decide) (XS.iinc X1385.here hx rfl (hb hby d7_70) rfl (l' := #[.val (.ref a), .val (.ref b_), .val (.int ((2 : Int32) + (1 : Int32))), .val (.int sc2), .val (.int tc2), .val (.int 1)]) rfl kQ)))))) ?_
          show G (T1385.setTop (mkF me_ 73 #[.val (.ref a), .val (.ref b_), .val (.int ((2 : Int32) + (1 : Int32))), .val (.int sc2), .val (.int tc2), .val (.int 1)] []))
          rw [(by decide : ((2 : Int32) + (1 : Int32)) = (3 : Int32))]
          refine gv (fun _ kQ => XS.goto X1385.here hx rfl (pc0 := 73) (pc' := 15) rfl (hb hby d7_73) (by decide) (by decide) kQ) ?_
          exact J3 _ _ X1385 eq1385 N1386 pj0 pj1 pj2 hc1382 pj3 pj4 (own_n0 (own_fvd hc1387 hc1392))
        · refine gv (fun _ kQ => XS.icmpYes X1385.here hx rfl (pc0 := 53) (pc' := 60) rfl (hb hby d7_53) rfl (feq hc1392).2 (by decide) (by decide) kQ) ?_
          refine gv (fun _ kQ => XS.iconst X1385.here hx rfl (hb hby d7_60) (XS.istore X1385.here hx rfl (hb hby d7_61) rfl (l' := #[.val (.ref a), .val (.ref b_), .val (.int 2), .val (.int sc2), .val (.int tc2), .val (.int 0)]) rfl (XS.iload X1385.here hx rfl (hb hby d7_63) rfl (XS.ifNo X1385.here hx rfl (hb hby d7_65) rfl ((if0 _ _).trans (teq (by decide : (0 : Int32) = (0 : Int32))).2) (XS.iconst X1385.here hx rfl (hb hby d7_68) kQ))))) ?_
          refine gf _ (own_ret X1385 Bd.notSynchronized (v := some (.int 0)) (own_rv Bd.returns) ?_ (by decide) (by decide) (fun fs hr => retN X1385 hx (t := .boolean) Bd.returns (by simp) (hb hby d7_69) hr))
          show Q_hs Z a b_ tl sl tc0 tc1 tc2 tc3 sc0 sc1 sc2 sc3 cs fmt h0 n0 _ T1385.heap _
          rw [eq1385]
          exact ⟨(by rw [if_neg (own_df0 pj0), if_neg (fun z => (own_sw u11).1.mp z pj1), if_neg pj3, if_neg (fun z => (own_sw u11).2.1.mp z pj2), if_neg pj4, if_neg (fun z => (own_sw u11).2.2.1.mp z hc1382), if_pos (own_fve hc1387 hc1392)]), N1386, rfl⟩
    · refine gv (fun _ kQ => XS.icmpYes X1380.here hx rfl (pc0 := 20) (pc' := 76) rfl (hb hby d7_20) rfl (flt hc1382).2.1 (by decide) (by decide) kQ) ?_
      show G (T1380.setTop (mkF me_ 76 #[.val (.ref a), .val (.ref b_), .val (.int 2), .val (.int sc1), .val (.int tc1), .val (.int 1)] []))
      refine gv (fun _ kQ => XS.iconst X1380.here hx rfl (hb hby d7_76) kQ) ?_
      refine gf _ (own_ret X1380 Bd.notSynchronized (v := some (.int 1)) (own_rv Bd.returns) ?_ (by decide) (by decide) (fun fs hr => retN X1380 hx (t := .boolean) Bd.returns (by simp) (hb hby d7_77) hr))
      show Q_hs Z a b_ tl sl tc0 tc1 tc2 tc3 sc0 sc1 sc2 sc3 cs fmt h0 n0 _ T1380.heap _
      rw [eq1380]
      exact ⟨(by rw [if_neg (own_df0 pj0), if_neg (fun z => (own_sw u11).1.mp z pj1), if_neg pj3, if_neg (fun z => (own_sw u11).2.1.mp z pj2), if_neg pj4, if_pos ((own_sw u11).2.2.1.mpr hc1382)]), N1381, rfl⟩
  have J1 : ∀ (Tj : State) (Lj : List Loc) (Xj : Stand pr_ l en_ (own_R 5 0 0 66) st_ me_ #[(.ref a), (.ref b_)] below meth_ co_ Tj Lj 0 0) (Ej : Tj.heap = h0) (Nj : Fr n0 Lj) (pj0 : tl = sl) (pj1 : (0 : Int32) < sl) (pj2 : ¬ ((own_fv tc0 sc0) = (0 : Int32))), G (Tj.setTop (mkF me_ 15 #[.val (.ref a), .val (.ref b_), .val (.int 1), .val (.int sc0), .val (.int tc0), .val (.int 1)] [])) := by
    intro Tj Lj Xj Ej Nj pj0 pj1 pj2
    refine gv (fun _ kQ => XS.iloadN Xj.here hx rfl (hb hby d7_15) rfl (XS.aloadN Xj.here hx rfl (hb hby d7_16) rfl rfl kQ)) ?_
    show G (Tj.setTop (mkF me_ 17 #[.val (.ref a), .val (.ref b_), .val (.int 1), .val (.int sc0), .val (.int tc0), .val (.int 1)] [(.ref b_), (.int 1)]))
    obtain ⟨cq1393, kq1393, q1393a, q1393b, q1393c⟩ := isOf hZ Ej u9
    obtain ⟨_, _, ⟨T1393, L1393, k1393, n1393⟩, -, X1393, ⟨Lc1393, hQ1393, l1393, y1393, z1393⟩, st1393⟩ := Xj.virtualBack hx (y := m_12) (z := m_12) hown (mvT hZ (t_37 hw)) (mvT hZ (t_38 hw)) (notFace_of_selects (args := #[]) (mvT hZ (t_40 hw))) (mvT hZ (t_40 hw)) (mvT hZ (t_39 hw)) (by decide) (backOf (W := 1) (rm_xlen l Z a0 hw [] b_ sl sc0 sc1 sc2 sc3 cs h0 n0 O0 u0 u1 u9 u10) hZ (t_41 hw) (t_13 hw) (by decide) (by decide)) q1393a q1393c (g := (mkF me_ 17 #[.val (.ref a), .val (.ref b_), .val (.int 1), .val (.int sc0), .val (.int tc0), .val (.int 1)] [(.ref b_), (.int 1)])) rfl (by rw [hml]; rfl) (Steps.refl _) (argsL := []) (rest := [(.int 1)]) (lenOf pd_15 rfl) rfl (by show 2 * 0 + _ ≤ _; exact Nat.le_of_eq rfl) (hb hby d7_17) (fun _ _ => ⟨rfl, Ej, (by decide : 0 + 0 ≤ _), (by decide : 0 + 0 ≤ _)⟩)
    dsimp only [Pt.U, Pt.locs, Pt.cells, Pt.slots] at X1393 l1393 y1393 z1393 st1393 hQ1393
    subst l1393 y1393 z1393
    obtain ⟨rfl, Nq1393, eq1393⟩ := hQ1393
    have N1394 := Fr.app Nj Nq1393
    refine gv (fun _ kQ => st1393.trans kQ) ?_
    by_cases hc1395 : (1 : Int32) < sl
    · refine gv (fun _ kQ => XS.icmpNo X1393.here hx rfl (hb hby d7_20) rfl (tlt hc1395).2.1 kQ) ?_
      refine gv (fun _ kQ => XS.aloadN X1393.here hx rfl (hb hby d7_23) rfl rfl (XS.iloadN X1393.here hx rfl (hb hby d7_24) rfl kQ)) ?_
      show G (T1393.setTop (mkF me_ 25 #[.val (.ref a), .val (.ref b_), .val (.int 1), .val (.int sc0), .val (.int tc0), .val (.int 1)] [(.int 1), (.ref b_)]))
      obtain ⟨cq1396, kq1396, q1396a, q1396b, q1396c⟩ := isOf hZ eq1393 u9
      obtain ⟨_, _, ⟨T1396, L1396, k1396, n1396⟩, -, X1396, ⟨Lc1396, hQ1396, l1396, y1396, z1396⟩, st1396⟩ := X1393.virtualBack hx (y := m_8) (z := m_8) hown (mvT hZ (t_80 hw)) (mvT hZ (t_81 hw)) (notFace_of_selects (args := #[]) (mvT hZ (t_83 hw))) (mvT hZ (t_83 hw)) (mvT hZ (t_82 hw)) (by decide) (backOf (W := 0) (rm_xat1 l Z a0 hw [] b_ sl sc0 sc1 sc2 sc3 cs fmt h0 n0 O0 u0 u1 u2 u3 u4 u5 u6 u9 u10 hc1395) hZ (t_84 hw) (t_13 hw) (by decide) (by decide)) q1396a q1396c (g := (mkF me_ 25 #[.val (.ref a), .val (.ref b_), .val (.int 1), .val (.int sc0), .val (.int tc0), .val (.int 1)] [(.int 1), (.ref b_)])) rfl (by rw [hml]; rfl) (Steps.refl _) (argsL := [(.int 1)]) (rest := []) (lenOf pd_16 rfl) rfl (by show 2 * 0 + _ ≤ _; exact Nat.le_of_eq rfl) (hb hby d7_25) (fun _ _ => ⟨rfl, eq1393, (by decide : 0 + 0 ≤ _), (by decide : 0 + 0 ≤ _)⟩)
      dsimp only [Pt.U, Pt.locs, Pt.cells, Pt.slots] at X1396 l1396 y1396 z1396 st1396 hQ1396
      subst l1396 y1396 z1396
      obtain ⟨rfl, Nq1396, eq1396⟩ := hQ1396
      have N1397 := Fr.app N1394 Nq1396
      refine gv (fun _ kQ => st1396.trans (XS.istoreN X1396.here hx rfl (hb hby d7_28) rfl (l' := #[.val (.ref a), .val (.ref b_), .val (.int 1), .val (.int sc1), .val (.int tc0), .val (.int 1)]) rfl (XS.aloadN X1396.here hx rfl (hb hby d7_29) rfl rfl (XS.iloadN X1396.here hx rfl (hb hby d7_30) rfl kQ)))) ?_
      show G (T1396.setTop (mkF me_ 31 #[.val (.ref a), .val (.ref b_), .val (.int 1), .val (.int sc1), .val (.int tc0), .val (.int 1)] [(.int 1), (.ref a)]))
      obtain ⟨cq1398, kq1398, q1398a, q1398b, q1398c⟩ := isOf hZ eq1396 u7
      obtain ⟨_, _, ⟨T1398, L1398, k1398, n1398⟩, -, X1398, ⟨Lc1398, hQ1398, l1398, y1398, z1398⟩, st1398⟩ := X1396.virtualBack hx (y := m_8) (z := m_8) hown (mvT hZ (t_80 hw)) (mvT hZ (t_81 hw)) (notFace_of_selects (args := #[]) (mvT hZ (t_83 hw))) (mvT hZ (t_83 hw)) (mvT hZ (t_82 hw)) (by decide) (backOf (W := 0) (rm_xat1 l Z a0 hw [] a tl tc0 tc1 tc2 tc3 cs fmt h0 n0 O0 u0 u1 u2 u3 u4 u5 u6 u7 u8 (own_ltr pj0 hc1395)) hZ (t_84 hw) (t_13 hw) (by decide) (by decide)) q1398a q1398c (g := (mkF me_ 31 #[.val (.ref a), .val (.ref b_), .val (.int 1), .val (.int sc1), .val (.int tc0), .val (.int 1)] [(.int 1), (.ref a)])) rfl (by rw [hml]; rfl) (Steps.refl _) (argsL := [(.int 1)]) (rest := []) (lenOf pd_16 rfl) rfl (by show 2 * 0 + _ ≤ _; exact Nat.le_of_eq rfl) (hb hby d7_31) (fun _ _ => ⟨rfl, eq1396, (by decide : 0 + 0 ≤ _), (by decide : 0 + 0 ≤ _)⟩)
      dsimp only [Pt.U, Pt.locs, Pt.cells, Pt.slots] at X1398 l1398 y1398 z1398 st1398 hQ1398
      subst l1398 y1398 z1398
      obtain ⟨rfl, Nq1398, eq1398⟩ := hQ1398
      have N1399 := Fr.app N1397 Nq1398
      refine gv (fun _ kQ => st1398.trans (XS.istore X1398.here hx rfl (hb hby d7_34) rfl (l' := #[.val (.ref a), .val (.ref b_), .val (.int 1), .val (.int sc1), .val (.int tc1), .val (.int 1)]) rfl (XS.iloadN X1398.here hx rfl (hb hby d7_36) rfl (XS.bipush X1398.here hx rfl (hb hby d7_37) kQ)))) ?_
      show G (T1398.setTop (mkF me_ 39 #[.val (.ref a), .val (.ref b_), .val (.int 1), .val (.int sc1), .val (.int tc1), .val (.int 1)] [(.int 48), (.int sc1)]))
      by_cases hc1400 : sc1 = (48 : Int32)
      · refine gv (fun _ kQ => XS.icmpNo X1398.here hx rfl (hb hby d7_39) rfl (teq hc1400).2 kQ) ?_
        refine gv (fun _ kQ => XS.iload X1398.here hx rfl (hb hby d7_42) rfl kQ) ?_
        obtain ⟨_, _, ⟨T1401, L1401, k1401, n1401⟩, -, X1401, ⟨Lc1401, hQ1401, l1401, y1401, z1401⟩, st1401⟩ := Jvm.LawKit.callS X1398 hx (y := m_1) hown (mvT hZ (t_112 hw)) (mvT hZ (t_113 hw)) (mvT hZ (t_35 hw)) (mvT hZ (t_114 hw)) (by decide) (backOf (W := 0) (rm_dig l Z a0 hw [] tc1 h0 n0 O0 ) hZ (t_114 hw) (t_35 hw) (by decide) (by decide)) (g := (mkF me_ 44 #[.val (.ref a), .val (.ref b_), .val (.int 1), .val (.int sc1), .val (.int tc1), .val (.int 1)] [(.int tc1)])) rfl (by rw [hml]; rfl) (argsL := [(.int tc1)]) (rest := []) (lenOf pd_17 rfl) rfl (by show 2 * 0 + _ ≤ _; exact Nat.le_of_eq rfl) (hb hby d7_44) (fun _ _ => ⟨rfl, eq1398, (by decide : 0 + 0 ≤ _), (by decide : 0 + 0 ≤ _)⟩)
        dsimp only [Pt.U, Pt.locs, Pt.cells, Pt.slots] at X1401 l1401 y1401 z1401 st1401 hQ1401
        subst l1401 y1401 z1401
        obtain ⟨rfl, Nq1401, eq1401⟩ := hQ1401
        have N1402 := Fr.app N1399 Nq1401
        by_cases hb1403 : tc1 < (48 : Int32)
        · rw [if_pos hb1403] at st1401
          refine gv st1401 ?_
          refine gv (fun _ kQ => XS.goto X1401.here hx rfl (pc0 := 47) (pc' := 61) rfl (hb hby d7_47) (by decide) (by decide) (XS.istore X1401.here hx rfl (hb hby d7_61) rfl (l' := #[.val (.ref a), .val (.ref b_), .val (.int 1), .val (.int sc1), .val (.int tc1), .val (.int 0)]) rfl (XS.iload X1401.here hx rfl (hb hby d7_63) rfl (XS.ifNo X1401.here hx rfl (hb hby d7_65) rfl ((if0 _ _).trans (teq (by decide : (0 : Int32) = (0 : Int32))).2) (XS.iconst X1401.here hx rfl (hb hby d7_68) kQ))))) ?_
          refine gf _ (own_ret X1401 Bd.notSynchronized (v := some (.int 0)) (own_rv Bd.returns) ?_ (by decide) (by decide) (fun fs hr => retN X1401 hx (t := .boolean) Bd.returns (by simp) (hb hby d7_69) hr))
          show Q_hs Z a b_ tl sl tc0 tc1 tc2 tc3 sc0 sc1 sc2 sc3 cs fmt h0 n0 _ T1401.heap _
          rw [eq1401]
          exact ⟨(by rw [if_neg (own_df0 pj0), if_neg (fun z => (own_sw u11).1.mp z pj1), if_neg pj2, if_neg (fun z => (own_sw u11).2.1.mp z hc1395), if_pos (own_fva hc1400 hb1403)]), N1402, rfl⟩
        · skip
          by_cases hb1404 : (57 : Int32) < tc1
          · rw [if_neg hb1403, if_pos hb1404] at st1401
            refine gv st1401 ?_
            refine gv (fun _ kQ => XS.goto X1401.here hx rfl (pc0 := 47) (pc' := 61) rfl (hb hby d7_47) (by decide) (by decide) (XS.istore X1401.here hx rfl (hb hby d7_61) rfl (l' := #[.val (.ref a), .val (.ref b_), .val (.int 1), .val (.int sc1), .val (.int tc1), .val (.int 0)]) rfl (XS.iload X1401.here hx rfl (hb hby d7_63) rfl (XS.ifNo X1401.here hx rfl (hb hby d7_65) rfl ((if0 _ _).trans (teq (by decide : (0 : Int32) = (0 : Int32))).2) (XS.iconst X1401.here hx rfl (hb hby d7_68) kQ))))) ?_
            refine gf _ (own_ret X1401 Bd.notSynchronized (v := some (.int 0)) (own_rv Bd.returns) ?_ (by decide) (by decide) (fun fs hr => retN X1401 hx (t := .boolean) Bd.returns (by simp) (hb hby d7_69) hr))
            show Q_hs Z a b_ tl sl tc0 tc1 tc2 tc3 sc0 sc1 sc2 sc3 cs fmt h0 n0 _ T1401.heap _
            rw [eq1401]
            exact ⟨(by rw [if_neg (own_df0 pj0), if_neg (fun z => (own_sw u11).1.mp z pj1), if_neg pj2, if_neg (fun z => (own_sw u11).2.1.mp z hc1395), if_pos (own_fvb hc1400 hb1403 hb1404)]), N1402, rfl⟩
          · skip
            rw [if_neg hb1403, if_neg hb1404] at st1401
            refine gv st1401 ?_
            refine gv (fun _ kQ => XS.goto X1401.here hx rfl (pc0 := 47) (pc' := 61) rfl (hb hby d7_47) (by decide) (by decide) (XS.istore X1401.here hx rfl (hb hby d7_61) rfl (l' := #[.val (.ref a), .val (.ref b_), .val (.int 1), .val (.int sc1), .val (.int tc1), .val (.int 1)]) rfl (XS.iload X1401.here hx rfl (hb hby d7_63) rfl (XS.ifYes X1401.here hx rfl (pc0 := 65) (pc' := 70) rfl (hb hby d7_65) rfl ((if0 _ _).trans (feq (by decide : ¬ ((1 : Int32) = (0 : Int32)))).2) (by decide) (by decide) (XS.iinc X1401.here hx rfl (hb hby d7_70) rfl (l' := #[.val (.ref a), .val (.ref b_), .val (.int ((1 : Int32) + (1 : Int32))), .val (.int sc1), .val (.int tc1), .val (.int 1)]) rfl kQ))))) ?_
            show G (T1401.setTop (mkF me_ 73 #[.val (.ref a), .val (.ref b_), .val (.int ((1 : Int32) + (1 : Int32))), .val (.int sc1), .val (.int tc1), .val (.int 1)] []))
            rw [(by decide : ((1 : Int32) + (1 : Int32)) = (2 : Int32))]
            refine gv (fun _ kQ => XS.goto X1401.here hx rfl (pc0 := 73) (pc' := 15) rfl (hb hby d7_73) (by decide) (by decide) kQ) ?_
            exact J2 _ _ X1401 eq1401 N1402 pj0 pj1 hc1395 pj2 (own_n0 (own_fvc hc1400 hb1403 hb1404))
      · refine gv (fun _ kQ => XS.icmpYes X1398.here hx rfl (pc0 := 39) (pc' := 50) rfl (hb hby d7_39) rfl (feq hc1400).2 (by decide) (by decide) kQ) ?_
        refine gv (fun _ kQ => XS.iload X1398.here hx rfl (hb hby d7_50) rfl (XS.iloadN X1398.here hx rfl (hb hby d7_52) rfl kQ)) ?_
        show G (T1398.setTop (mkF me_ 53 #[.val (.ref a), .val (.ref b_), .val (.int 1), .val (.int sc1), .val (.int tc1), .val (.int 1)] [(.int sc1), (.int tc1)]))
        by_cases hc1405 : tc1 = sc1
        · refine gv (fun _ kQ => XS.icmpNo X1398.here hx rfl (hb hby d7_53) rfl (teq hc1405).2 kQ) ?_
          refine gv (fun _ kQ => XS.iconst X1398.here hx rfl (hb hby d7_56) (XS.goto X1398.here hx rfl (pc0 := 57) (pc' := 61) rfl (hb hby d7_57) (by decide) (by decide) (XS.istore X1398.here hx rfl (hb hby d7_61) rfl (l' := #[.val (.ref a), .val (.ref b_), .val (.int 1), .val (.int sc1), .val (.int tc1), .val (.int 1)]) rfl (XS.iload X1398.here hx rfl (hb hby d7_63) rfl (XS.ifYes X1398.here hx rfl (pc0 := 65) (pc' := 70) rfl (hb hby d7_65) rfl ((if0 _ _).trans (feq (by decide : ¬ ((1 : Int32) = (0 : Int32)))).2) (by decide) (by decide) (XS.iinc X1398.here hx rfl (hb hby d7_70) rfl (l' := #[.val (.ref a), .val (.ref b_), .val (.int ((1 : Int32) + (1 : Int32))), .val (.int sc1), .val (.int tc1), .val (.int 1)]) rfl kQ)))))) ?_
          show G (T1398.setTop (mkF me_ 73 #[.val (.ref a), .val (.ref b_), .val (.int ((1 : Int32) + (1 : Int32))), .val (.int sc1), .val (.int tc1), .val (.int 1)] []))
          rw [(by decide : ((1 : Int32) + (1 : Int32)) = (2 : Int32))]
          refine gv (fun _ kQ => XS.goto X1398.here hx rfl (pc0 := 73) (pc' := 15) rfl (hb hby d7_73) (by decide) (by decide) kQ) ?_
          exact J2 _ _ X1398 eq1398 N1399 pj0 pj1 hc1395 pj2 (own_n0 (own_fvd hc1400 hc1405))
        · refine gv (fun _ kQ => XS.icmpYes X1398.here hx rfl (pc0 := 53) (pc' := 60) rfl (hb hby d7_53) rfl (feq hc1405).2 (by decide) (by decide) kQ) ?_
          refine gv (fun _ kQ => XS.iconst X1398.here hx rfl (hb hby d7_60) (XS.istore X1398.here hx rfl (hb hby d7_61) rfl (l' := #[.val (.ref a), .val (.ref b_), .val (.int 1), .val (.int sc1), .val (.int tc1), .val (.int 0)]) rfl (XS.iload X1398.here hx rfl (hb hby d7_63) rfl (XS.ifNo X1398.here hx rfl (hb hby d7_65) rfl ((if0 _ _).trans (teq (by decide : (0 : Int32) = (0 : Int32))).2) (XS.iconst X1398.here hx rfl (hb hby d7_68) kQ))))) ?_
          refine gf _ (own_ret X1398 Bd.notSynchronized (v := some (.int 0)) (own_rv Bd.returns) ?_ (by decide) (by decide) (fun fs hr => retN X1398 hx (t := .boolean) Bd.returns (by simp) (hb hby d7_69) hr))
          show Q_hs Z a b_ tl sl tc0 tc1 tc2 tc3 sc0 sc1 sc2 sc3 cs fmt h0 n0 _ T1398.heap _
          rw [eq1398]
          exact ⟨(by rw [if_neg (own_df0 pj0), if_neg (fun z => (own_sw u11).1.mp z pj1), if_neg pj2, if_neg (fun z => (own_sw u11).2.1.mp z hc1395), if_pos (own_fve hc1400 hc1405)]), N1399, rfl⟩
    · refine gv (fun _ kQ => XS.icmpYes X1393.here hx rfl (pc0 := 20) (pc' := 76) rfl (hb hby d7_20) rfl (flt hc1395).2.1 (by decide) (by decide) kQ) ?_
      show G (T1393.setTop (mkF me_ 76 #[.val (.ref a), .val (.ref b_), .val (.int 1), .val (.int sc0), .val (.int tc0), .val (.int 1)] []))
      refine gv (fun _ kQ => XS.iconst X1393.here hx rfl (hb hby d7_76) kQ) ?_
      refine gf _ (own_ret X1393 Bd.notSynchronized (v := some (.int 1)) (own_rv Bd.returns) ?_ (by decide) (by decide) (fun fs hr => retN X1393 hx (t := .boolean) Bd.returns (by simp) (hb hby d7_77) hr))
      show Q_hs Z a b_ tl sl tc0 tc1 tc2 tc3 sc0 sc1 sc2 sc3 cs fmt h0 n0 _ T1393.heap _
      rw [eq1393]
      exact ⟨(by rw [if_neg (own_df0 pj0), if_neg (fun z => (own_sw u11).1.mp z pj1), if_neg pj2, if_pos ((own_sw u11).2.1.mpr hc1395)]), N1394, rfl⟩
  refine gv (fun _ kQ => XS.aloadN X0.here hx rfl (hb hby d7_0) rfl rfl kQ) ?_
  obtain ⟨cq1406, kq1406, q1406a, q1406b, q1406c⟩ := isOf hZ e0 u7
  obtain ⟨_, _, ⟨T1406, L1406, k1406, n1406⟩, -, X1406, ⟨Lc1406, hQ1406, l1406, y1406, z1406⟩, st1406⟩ := X0.virtualBack hx (y := m_12) (z := m_12) hown (mvT hZ (t_37 hw)) (mvT hZ (t_38 hw)) (notFace_of_selects (args := #[]) (mvT hZ (t_40 hw))) (mvT hZ (t_40 hw)) (mvT hZ (t_39 hw)) (by decide) (backOf (W := 0) (rm_xlen l Z a0 hw [] a tl tc0 tc1 tc2 tc3 cs h0 n0 O0 u0 u1 u7 u8) hZ (t_41 hw) (t_13 hw) (by decide) (by decide)) q1406a q1406c (g := (mkF me_ 1 #[.val (.ref a), .val (.ref b_), .unset, .unset, .unset, .unset] [(.ref a)])) rfl (by rw [hml]; rfl) (Steps.refl _) (argsL := []) (rest := []) (lenOf pd_15 rfl) rfl (by show 2 * 0 + _ ≤ _; exact Nat.le_of_eq rfl) (hb hby d7_1) (fun _ _ => ⟨rfl, e0, (by decide : 0 + 0 ≤ _), (by decide : 0 + 0 ≤ _)⟩)
  dsimp only [Pt.U, Pt.locs, Pt.cells, Pt.slots] at X1406 l1406 y1406 z1406 st1406 hQ1406
  subst l1406 y1406 z1406
  obtain ⟨rfl, Nq1406, eq1406⟩ := hQ1406
  have N1407 := Fr.app N0 Nq1406
  refine gv (fun _ kQ => st1406.trans (XS.aloadN X1406.here hx rfl (hb hby d7_4) rfl rfl kQ)) ?_
  show G (T1406.setTop (mkF me_ 5 #[.val (.ref a), .val (.ref b_), .unset, .unset, .unset, .unset] [(.ref b_), (.int tl)]))
  obtain ⟨cq1408, kq1408, q1408a, q1408b, q1408c⟩ := isOf hZ eq1406 u9
  obtain ⟨_, _, ⟨T1408, L1408, k1408, n1408⟩, -, X1408, ⟨Lc1408, hQ1408, l1408, y1408, z1408⟩, st1408⟩ := X1406.virtualBack hx (y := m_12) (z := m_12) hown (mvT hZ (t_37 hw)) (mvT hZ (t_38 hw)) (notFace_of_selects (args := #[]) (mvT hZ (t_40 hw))) (mvT hZ (t_40 hw)) (mvT hZ (t_39 hw)) (by decide) (backOf (W := 1) (rm_xlen l Z a0 hw [] b_ sl sc0 sc1 sc2 sc3 cs h0 n0 O0 u0 u1 u9 u10) hZ (t_41 hw) (t_13 hw) (by decide) (by decide)) q1408a q1408c (g := (mkF me_ 5 #[.val (.ref a), .val (.ref b_), .unset, .unset, .unset, .unset] [(.ref b_), (.int tl)])) rfl (by rw [hml]; rfl) (Steps.refl _) (argsL := []) (rest := [(.int tl)]) (lenOf pd_15 rfl) rfl (by show 2 * 0 + _ ≤ _; exact Nat.le_of_eq rfl) (hb hby d7_5) (fun _ _ => ⟨rfl, eq1406, (by decide : 0 + 0 ≤ _), (by decide : 0 + 0 ≤ _)⟩)
  dsimp only [Pt.U, Pt.locs, Pt.cells, Pt.slots] at X1408 l1408 y1408 z1408 st1408 hQ1408
  subst l1408 y1408 z1408
  obtain ⟨rfl, Nq1408, eq1408⟩ := hQ1408
  have N1409 := Fr.app N1407 Nq1408
  refine gv (fun _ kQ => st1408.trans kQ) ?_
  by_cases hc1410 : tl = sl
  · refine gv (fun _ kQ => XS.icmpYes X1408.here hx rfl (pc0 := 8) (pc' := 13) rfl (hb hby d7_8) rfl (teq hc1410).1 (by decide) (by decide) kQ) ?_
    refine gv (fun _ kQ => XS.iconst X1408.here hx rfl (hb hby d7_13) (XS.istoreN X1408.here hx rfl (hb hby d7_14) rfl (l' := #[.val (.ref a), .val (.ref b_), .val (.int 0), .unset, .unset, .unset]) rfl (XS.iloadN X1408.here hx rfl (hb hby d7_15) rfl (XS.aloadN X1408.here hx rfl (hb hby d7_16) rfl rfl kQ)))) ?_
    show G (T1408.setTop (mkF me_ 17 #[.val (.ref a), .val (.ref b_), .val (.int 0), .unset, .unset, .unset] [(.ref b_), (.int 0)]))
    obtain ⟨cq1411, kq1411, q1411a, q1411b, q1411c⟩ := isOf hZ eq1408 u9
    obtain ⟨_, _, ⟨T1411, L1411, k1411, n1411⟩, -, X1411, ⟨Lc1411, hQ1411, l1411, y1411, z1411⟩, st1411⟩ := X1408.virtualBack hx (y := m_12) (z := m_12) hown (mvT hZ (t_37 hw)) (mvT hZ (t_38 hw)) (notFace_of_selects (args := #[]) (mvT hZ (t_40 hw))) (mvT hZ (t_40 hw)) (mvT hZ (t_39 hw)) (by decide) (backOf (W := 1) (rm_xlen l Z a0 hw [] b_ sl sc0 sc1 sc2 sc3 cs h0 n0 O0 u0 u1 u9 u10) hZ (t_41 hw) (t_13 hw) (by decide) (by decide)) q1411a q1411c (g := (mkF me_ 17 #[.val (.ref a), .val (.ref b_), .val (.int 0), .unset, .unset, .unset] [(.ref b_), (.int 0)])) rfl (by rw [hml]; rfl) (Steps.refl _) (argsL := []) (rest := [(.int 0)]) (lenOf pd_15 rfl) rfl (by show 2 * 0 + _ ≤ _; exact Nat.le_of_eq rfl) (hb hby d7_17) (fun _ _ => ⟨rfl, eq1408, (by decide : 0 + 0 ≤ _), (by decide : 0 + 0 ≤ _)⟩)
    dsimp only [Pt.U, Pt.locs, Pt.cells, Pt.slots] at X1411 l1411 y1411 z1411 st1411 hQ1411
    subst l1411 y1411 z1411
    obtain ⟨rfl, Nq1411, eq1411⟩ := hQ1411
    have N1412 := Fr.app N1409 Nq1411
    refine gv (fun _ kQ => st1411.trans kQ) ?_
    by_cases hc1413 : (0 : Int32) < sl
    · refine gv (fun _ kQ => XS.icmpNo X1411.here hx rfl (hb hby d7_20) rfl (tlt hc1413).2.1 kQ) ?_
      refine gv (fun _ kQ => XS.aloadN X1411.here hx rfl (hb hby d7_23) rfl rfl (XS.iloadN X1411.here hx rfl (hb hby d7_24) rfl kQ)) ?_
      show G (T1411.setTop (mkF me_ 25 #[.val (.ref a), .val (.ref b_), .val (.int 0), .unset, .unset, .unset] [(.int 0), (.ref b_)]))
      obtain ⟨cq1414, kq1414, q1414a, q1414b, q1414c⟩ := isOf hZ eq1411 u9
      obtain ⟨_, _, ⟨T1414, L1414, k1414, n1414⟩, -, X1414, ⟨Lc1414, hQ1414, l1414, y1414, z1414⟩, st1414⟩ := X1411.virtualBack hx (y := m_8) (z := m_8) hown (mvT hZ (t_80 hw)) (mvT hZ (t_81 hw)) (notFace_of_selects (args := #[]) (mvT hZ (t_83 hw))) (mvT hZ (t_83 hw)) (mvT hZ (t_82 hw)) (by decide) (backOf (W := 0) (rm_xat0 l Z a0 hw [] b_ sl sc0 sc1 sc2 sc3 cs fmt h0 n0 O0 u0 u1 u2 u3 u4 u5 u6 u9 u10 hc1413) hZ (t_84 hw) (t_13 hw) (by decide) (by decide)) q1414a q1414c (g := (mkF me_ 25 #[.val (.ref a), .val (.ref b_), .val (.int 0), .unset, .unset, .unset] [(.int 0), (.ref b_)])) rfl (by rw [hml]; rfl) (Steps.refl _) (argsL := [(.int 0)]) (rest := []) (lenOf pd_16 rfl) rfl (by show 2 * 0 + _ ≤ _; exact Nat.le_of_eq rfl) (hb hby d7_25) (fun _ _ => ⟨rfl, eq1411, (by decide : 0 + 0 ≤ _), (by decide : 0 + 0 ≤ _)⟩)
      dsimp only [Pt.U, Pt.locs, Pt.cells, Pt.slots] at X1414 l1414 y1414 z1414 st1414 hQ1414
      subst l1414 y1414 z1414
      obtain ⟨rfl, Nq1414, eq1414⟩ := hQ1414
      have N1415 := Fr.app N1412 Nq1414
      refine gv (fun _ kQ => st1414.trans (XS.istoreN X1414.here hx rfl (hb hby d7_28) rfl (l' := #[.val (.ref a), .val (.ref b_), .val (.int 0), .val (.int sc0), .unset, .unset]) rfl (XS.aloadN X1414.here hx rfl (hb hby d7_29) rfl rfl (XS.iloadN X1414.here hx rfl (hb hby d7_30) rfl kQ)))) ?_
      show G (T1414.setTop (mkF me_ 31 #[.val (.ref a), .val (.ref b_), .val (.int 0), .val (.int sc0), .unset, .unset] [(.int 0), (.ref a)]))
      obtain ⟨cq1416, kq1416, q1416a, q1416b, q1416c⟩ := isOf hZ eq1414 u7
      obtain ⟨_, _, ⟨T1416, L1416, k1416, n1416⟩, -, X1416, ⟨Lc1416, hQ1416, l1416, y1416, z1416⟩, st1416⟩ := X1414.virtualBack hx (y := m_8) (z := m_8) hown (mvT hZ (t_80 hw)) (mvT hZ (t_81 hw)) (notFace_of_selects (args := #[]) (mvT hZ (t_83 hw))) (mvT hZ (t_83 hw)) (mvT hZ (t_82 hw)) (by decide) (backOf (W := 0) (rm_xat0 l Z a0 hw [] a tl tc0 tc1 tc2 tc3 cs fmt h0 n0 O0 u0 u1 u2 u3 u4 u5 u6 u7 u8 (own_ltr hc1410 hc1413)) hZ (t_84 hw) (t_13 hw) (by decide) (by decide)) q1416a q1416c (g := (mkF me_ 31 #[.val (.ref a), .val (.ref b_), .val (.int 0), .val (.int sc0), .unset, .unset] [(.int 0), (.ref a)])) rfl (by rw [hml]; rfl) (Steps.refl _) (argsL := [(.int 0)]) (rest := []) (lenOf pd_16 rfl) rfl (by show 2 * 0 + _ ≤ _; exact Nat.le_of_eq rfl) (hb hby d7_31) (fun _ _ => ⟨rfl, eq1414, (by decide : 0 + 0 ≤ _), (by decide : 0 + 0 ≤ _)⟩)
      dsimp only [Pt.U, Pt.locs, Pt.cells, Pt.slots] at X1416 l1416 y1416 z1416 st1416 hQ1416
      subst l1416 y1416 z1416
      obtain ⟨rfl, Nq1416, eq1416⟩ := hQ1416
      have N1417 := Fr.app N1415 Nq1416
      refine gv (fun _ kQ => st1416.trans (XS.istore X1416.here hx rfl (hb hby d7_34) rfl (l' := #[.val (.ref a), .val (.ref b_), .val (.int 0), .val (.int sc0), .val (.int tc0), .unset]) rfl (XS.iloadN X1416.here hx rfl (hb hby d7_36) rfl (XS.bipush X1416.here hx rfl (hb hby d7_37) kQ)))) ?_
      show G (T1416.setTop (mkF me_ 39 #[.val (.ref a), .val (.ref b_), .val (.int 0), .val (.int sc0), .val (.int tc0), .unset] [(.int 48), (.int sc0)]))
      by_cases hc1418 : sc0 = (48 : Int32)
      · refine gv (fun _ kQ => XS.icmpNo X1416.here hx rfl (hb hby d7_39) rfl (teq hc1418).2 kQ) ?_
        refine gv (fun _ kQ => XS.iload X1416.here hx rfl (hb hby d7_42) rfl kQ) ?_
        obtain ⟨_, _, ⟨T1419, L1419, k1419, n1419⟩, -, X1419, ⟨Lc1419, hQ1419, l1419, y1419, z1419⟩, st1419⟩ := Jvm.LawKit.callS X1416 hx (y := m_1) hown (mvT hZ (t_112 hw)) (mvT hZ (t_113 hw)) (mvT hZ (t_35 hw)) (mvT hZ (t_114 hw)) (by decide) (backOf (W := 0) (rm_dig l Z a0 hw [] tc0 h0 n0 O0 ) hZ (t_114 hw) (t_35 hw) (by decide) (by decide)) (g := (mkF me_ 44 #[.val (.ref a), .val (.ref b_), .val (.int 0), .val (.int sc0), .val (.int tc0), .unset] [(.int tc0)])) rfl (by rw [hml]; rfl) (argsL := [(.int tc0)]) (rest := []) (lenOf pd_17 rfl) rfl (by show 2 * 0 + _ ≤ _; exact Nat.le_of_eq rfl) (hb hby d7_44) (fun _ _ => ⟨rfl, eq1416, (by decide : 0 + 0 ≤ _), (by decide : 0 + 0 ≤ _)⟩)
        dsimp only [Pt.U, Pt.locs, Pt.cells, Pt.slots] at X1419 l1419 y1419 z1419 st1419 hQ1419
        subst l1419 y1419 z1419
        obtain ⟨rfl, Nq1419, eq1419⟩ := hQ1419
        have N1420 := Fr.app N1417 Nq1419
        by_cases hb1421 : tc0 < (48 : Int32)
        · rw [if_pos hb1421] at st1419
          refine gv st1419 ?_
          refine gv (fun _ kQ => XS.goto X1419.here hx rfl (pc0 := 47) (pc' := 61) rfl (hb hby d7_47) (by decide) (by decide) (XS.istore X1419.here hx rfl (hb hby d7_61) rfl (l' := #[.val (.ref a), .val (.ref b_), .val (.int 0), .val (.int sc0), .val (.int tc0), .val (.int 0)]) rfl (XS.iload X1419.here hx rfl (hb hby d7_63) rfl (XS.ifNo X1419.here hx rfl (hb hby d7_65) rfl ((if0 _ _).trans (teq (by decide : (0 : Int32) = (0 : Int32))).2) (XS.iconst X1419.here hx rfl (hb hby d7_68) kQ))))) ?_
          refine gf _ (own_ret X1419 Bd.notSynchronized (v := some (.int 0)) (own_rv Bd.returns) ?_ (by decide) (by decide) (fun fs hr => retN X1419 hx (t := .boolean) Bd.returns (by simp) (hb hby d7_69) hr))
          show Q_hs Z a b_ tl sl tc0 tc1 tc2 tc3 sc0 sc1 sc2 sc3 cs fmt h0 n0 _ T1419.heap _
          rw [eq1419]
          exact ⟨(by rw [if_neg (own_df0 hc1410), if_neg (fun z => (own_sw u11).1.mp z hc1413), if_pos (own_fva hc1418 hb1421)]), N1420, rfl⟩
        · skip
          by_cases hb1422 : (57 : Int32) < tc0
          · rw [if_neg hb1421, if_pos hb1422] at st1419
            refine gv st1419 ?_
            refine gv (fun _ kQ => XS.goto X1419.here hx rfl (pc0 := 47) (pc' := 61) rfl (hb hby d7_47) (by decide) (by decide) (XS.istore X1419.here hx rfl (hb hby d7_61) rfl (l' := #[.val (.ref a), .val (.ref b_), .val (.int 0), .val (.int sc0), .val (.int tc0), .val (.int 0)]) rfl (XS.iload X1419.here hx rfl (hb hby d7_63) rfl (XS.ifNo X1419.here hx rfl (hb hby d7_65) rfl ((if0 _ _).trans (teq (by decide : (0 : Int32) = (0 : Int32))).2) (XS.iconst X1419.here hx rfl (hb hby d7_68) kQ))))) ?_
            refine gf _ (own_ret X1419 Bd.notSynchronized (v := some (.int 0)) (own_rv Bd.returns) ?_ (by decide) (by decide) (fun fs hr => retN X1419 hx (t := .boolean) Bd.returns (by simp) (hb hby d7_69) hr))
            show Q_hs Z a b_ tl sl tc0 tc1 tc2 tc3 sc0 sc1 sc2 sc3 cs fmt h0 n0 _ T1419.heap _
            rw [eq1419]
            exact ⟨(by rw [if_neg (own_df0 hc1410), if_neg (fun z => (own_sw u11).1.mp z hc1413), if_pos (own_fvb hc1418 hb1421 hb1422)]), N1420, rfl⟩
          · skip
            rw [if_neg hb1421, if_neg hb1422] at st1419
            refine gv st1419 ?_
            refine gv (fun _ kQ => XS.goto X1419.here hx rfl (pc0 := 47) (pc' := 61) rfl (hb hby d7_47) (by decide) (by decide) (XS.istore X1419.here hx rfl (hb hby d7_61) rfl (l' := #[.val (.ref a), .val (.ref b_), .val (.int 0), .val (.int sc0), .val (.int tc0), .val (.int 1)]) rfl (XS.iload X1419.here hx rfl (hb hby d7_63) rfl (XS.ifYes X1419.here hx rfl (pc0 := 65) (pc' := 70) rfl (hb hby d7_65) rfl ((if0 _ _).trans (feq (by decide : ¬ ((1 : Int32) = (0 : Int32)))).2) (by decide) (by decide) (XS.iinc X1419.here hx rfl (hb hby d7_70) rfl (l' := #[.val (.ref a), .val (.ref b_), .val (.int ((0 : Int32) + (1 : Int32))), .val (.int sc0), .val (.int tc0), .val (.int 1)]) rfl kQ))))) ?_
            show G (T1419.setTop (mkF me_ 73 #[.val (.ref a), .val (.ref b_), .val (.int ((0 : Int32) + (1 : Int32))), .val (.int sc0), .val (.int tc0), .val (.int 1)] []))
            rw [(by decide : ((0 : Int32) + (1 : Int32)) = (1 : Int32))]
            refine gv (fun _ kQ => XS.goto X1419.here hx rfl (pc0 := 73) (pc' := 15) rfl (hb hby d7_73) (by decide) (by decide) kQ) ?_
            exact J1 _ _ X1419 eq1419 N1420 hc1410 hc1413 (own_n0 (own_fvc hc1418 hb1421 hb1422))
      · refine gv (fun _ kQ => XS.icmpYes X1416.here hx rfl (pc0 := 39) (pc' := 50) rfl (hb hby d7_39) rfl (feq hc1418).2 (by decide) (by decide) kQ) ?_
        refine gv (fun _ kQ => XS.iload X1416.here hx rfl (hb hby d7_50) rfl (XS.iloadN X1416.here hx rfl (hb hby d7_52) rfl kQ)) ?_
        show G (T1416.setTop (mkF me_ 53 #[.val (.ref a), .val (.ref b_), .val (.int 0), .val (.int sc0), .val (.int tc0), .unset] [(.int sc0), (.int tc0)]))
        by_cases hc1423 : tc0 = sc0
        · refine gv (fun _ kQ => XS.icmpNo X1416.here hx rfl (hb hby d7_53) rfl (teq hc1423).2 kQ) ?_
          refine gv (fun _ kQ => XS.iconst X1416.here hx rfl (hb hby d7_56) (XS.goto X1416.here hx rfl (pc0 := 57) (pc' := 61) rfl (hb hby d7_57) (by decide) (by decide) (XS.istore X1416.here hx rfl (hb hby d7_61) rfl (l' := #[.val (.ref a), .val (.ref b_), .val (.int 0), .val (.int sc0), .val (.int tc0), .val (.int 1)]) rfl (XS.iload X1416.here hx rfl (hb hby d7_63) rfl (XS.ifYes X1416.here hx rfl (pc0 := 65) (pc' := 70) rfl (hb hby d7_65) rfl ((if0 _ _).trans (feq (by decide : ¬ ((1 : Int32) = (0 : Int32)))).2) (by decide) (by decide) (XS.iinc X1416.here hx rfl (hb hby d7_70) rfl (l' := #[.val (.ref a), .val (.ref b_), .val (.int ((0 : Int32) + (1 : Int32))), .val (.int sc0), .val (.int tc0), .val (.int 1)]) rfl kQ)))))) ?_
          show G (T1416.setTop (mkF me_ 73 #[.val (.ref a), .val (.ref b_), .val (.int ((0 : Int32) + (1 : Int32))), .val (.int sc0), .val (.int tc0), .val (.int 1)] []))
          rw [(by decide : ((0 : Int32) + (1 : Int32)) = (1 : Int32))]
          refine gv (fun _ kQ => XS.goto X1416.here hx rfl (pc0 := 73) (pc' := 15) rfl (hb hby d7_73) (by decide) (by decide) kQ) ?_
          exact J1 _ _ X1416 eq1416 N1417 hc1410 hc1413 (own_n0 (own_fvd hc1418 hc1423))
        · refine gv (fun _ kQ => XS.icmpYes X1416.here hx rfl (pc0 := 53) (pc' := 60) rfl (hb hby d7_53) rfl (feq hc1423).2 (by decide) (by decide) kQ) ?_
          refine gv (fun _ kQ => XS.iconst X1416.here hx rfl (hb hby d7_60) (XS.istore X1416.here hx rfl (hb hby d7_61) rfl (l' := #[.val (.ref a), .val (.ref b_), .val (.int 0), .val (.int sc0), .val (.int tc0), .val (.int 0)]) rfl (XS.iload X1416.here hx rfl (hb hby d7_63) rfl (XS.ifNo X1416.here hx rfl (hb hby d7_65) rfl ((if0 _ _).trans (teq (by decide : (0 : Int32) = (0 : Int32))).2) (XS.iconst X1416.here hx rfl (hb hby d7_68) kQ))))) ?_
          refine gf _ (own_ret X1416 Bd.notSynchronized (v := some (.int 0)) (own_rv Bd.returns) ?_ (by decide) (by decide) (fun fs hr => retN X1416 hx (t := .boolean) Bd.returns (by simp) (hb hby d7_69) hr))
          show Q_hs Z a b_ tl sl tc0 tc1 tc2 tc3 sc0 sc1 sc2 sc3 cs fmt h0 n0 _ T1416.heap _
          rw [eq1416]
          exact ⟨(by rw [if_neg (own_df0 hc1410), if_neg (fun z => (own_sw u11).1.mp z hc1413), if_pos (own_fve hc1418 hc1423)]), N1417, rfl⟩
    · refine gv (fun _ kQ => XS.icmpYes X1411.here hx rfl (pc0 := 20) (pc' := 76) rfl (hb hby d7_20) rfl (flt hc1413).2.1 (by decide) (by decide) kQ) ?_
      show G (T1411.setTop (mkF me_ 76 #[.val (.ref a), .val (.ref b_), .val (.int 0), .unset, .unset, .unset] []))
      refine gv (fun _ kQ => XS.iconst X1411.here hx rfl (hb hby d7_76) kQ) ?_
      refine gf _ (own_ret X1411 Bd.notSynchronized (v := some (.int 1)) (own_rv Bd.returns) ?_ (by decide) (by decide) (fun fs hr => retN X1411 hx (t := .boolean) Bd.returns (by simp) (hb hby d7_77) hr))
      show Q_hs Z a b_ tl sl tc0 tc1 tc2 tc3 sc0 sc1 sc2 sc3 cs fmt h0 n0 _ T1411.heap _
      rw [eq1411]
      exact ⟨(by rw [if_neg (own_df0 hc1410), if_pos ((own_sw u11).1.mpr hc1413)]), N1412, rfl⟩
  · refine gv (fun _ kQ => XS.icmpNo X1408.here hx rfl (hb hby d7_8) rfl (feq hc1410).1 kQ) ?_
    refine gv (fun _ kQ => XS.iconst X1408.here hx rfl (hb hby d7_11) kQ) ?_
    refine gf _ (own_ret X1408 Bd.notSynchronized (v := some (.int 0)) (own_rv Bd.returns) ?_ (by decide) (by decide) (fun fs hr => retN X1408 hx (t := .boolean) Bd.returns (by simp) (hb hby d7_12) hr))
    show Q_hs Z a b_ tl sl tc0 tc1 tc2 tc3 sc0 sc1 sc2 sc3 cs fmt h0 n0 _ T1408.heap _
    rw [eq1408]
    exact ⟨(by rw [if_pos (own_df1 hc1410)]), N1409, rfl⟩
theorem ef_16 (m : MethodId) (x0 : Int64) (x1 : Int64) (x2 : Int32)  : entryFrame m #[(.long x0), (.long x1), (.int x2)] maxLocals = mkF m 0 #[.val (.long x0), .second, .val (.long x1), .second, .val (.int x2), .unset, .unset, .unset, .unset, .unset, .unset, .unset, .unset, .unset, .unset, .unset, .unset, .unset] [] := by first | (simp [entryFrame, mkF, argsToLocals, Value.category, maxLocals]; done) | rfl
theorem pd_18 : parseMethodDescriptor "(JII)C" = some ⟨[.long, .int, .int], some .char⟩ := by decide +kernel
theorem pd_19 : parseMethodDescriptor "(JIIC)C" = some ⟨[.long, .int, .int, .char], some .char⟩ := by decide +kernel
theorem pd_20 : parseMethodDescriptor "(CCCCI)Ljava/lang/String;" = some ⟨[.char, .char, .char, .char, .int], some (.object "java/lang/String")⟩ := by decide +kernel
theorem pd_21 : parseMethodDescriptor "(Ljava/lang/String;Ljava/lang/String;)Z" = some ⟨[(.object "java/lang/String"), (.object "java/lang/String")], some .boolean⟩ := by decide +kernel
theorem pd_22 : parseMethodDescriptor "(CC)Z" = some ⟨[.char, .char], some .boolean⟩ := by decide +kernel
def Q0 (Z : State) (p0 p1 : Int64) (p2 cs : Int32) (fmt : Value) (h0 : Heap) (n0 : Nat) (v : Option Value) (h : Heap) (L : List Loc) : Prop := v = some (.int 1) ∧ Fr n0 L
theorem rm0 (l : Launch) (Z : State) (a0 : Array Value) (hw : own_HW Z a0) (ws : List Jvm.Cond) (p0 p1 : Int64) (p2 cs : Int32) (fmt : Value) (h0 : Heap) (n0 : Nat) (O0 : Old Z n0 h0) (u0 : Sta Z Z.heap "java/lang/String" "COMPACT_STRINGS" "Z" (.int cs)) (u1 : ¬ (cs = (0 : Int32))) (u2 : Sta Z Z.heap "java/lang/StringUTF16" "$assertionsDisabled" "Z" (.int 1)) (u3 : Sta Z Z.heap "java/lang/StringUTF16" "HI_BYTE_SHIFT" "I" (.int 0)) (u4 : Sta Z Z.heap "java/lang/StringUTF16" "LO_BYTE_SHIFT" "I" (.int 8)) (u5 : fmt.isRef = true) (u6 : Sta Z Z.heap "jdk/internal/util/Preconditions" "SIOOBE_FORMATTER" "Ljava/util/function/BiFunction;" fmt) :
    MetFree l x (head1 (Jvm.Cond.code x code maxLocals ret :: ws) room_1) (fun aV U => aV = #[(.long p0), (.long p1), (.int p2)] ∧ Z.Warmed39 U.vm ∧ U.heap = h0 ∧ CHv Z own_EL U.vm h0 ∧ ∀ x ∈ ([] : List Addr), Safe Z own_EL U.vm h0 x) (fun _ _ _ _ _ => True) (fun _ U o U' => ∃ v L, o = .returned v ∧ Q0 Z p0 p1 p2 cs fmt h0 n0 v U'.heap L ∧ CHr Z own_EL U.vm U.heap U'.vm U'.heap ∧ ReturnedEndW U o U' L room_1.cells room_1.slots) := by
  refine MetFree.of_bodySF (plainFor_of_name pn_4) hisR ?_
  intro pr_ en_ st_ me_ args below meth_ co_ s₁ Bd hml0 hP hK
  obtain ⟨rfl, hZ, hh, hCH, hSF⟩ := hP
  have hx := Bd.exec
  have hby := Bd.bytes
  have hEL := own_hEL hw
  have wS := own_wS hw
  have hml : co_.maxLocals = 18 := hml0
  have hown : st_.vm.findClass "com/example/closemark/closemark/csv/CsvReaderHasShapePinLaw" = some me_.cls := findClass_of_methodNamed Bd.named
  have X0 : Stand pr_ l en_ room_1 (st_.setVm st_.vm) me_ #[(.long p0), (.long p1), (.int p2)] below meth_ co_ s₁ [] 0 0 := Stand.of_body Bd
  have e0 : s₁.heap = h0 := by rw [← hh, Bd.state]; rfl
  have N0 := Fr.nil n0
  have hS : st_.Since st_.vm 0 := (State.WarmedH.refl st_).since 0
  have hk : 0 ≤ h0.size := Nat.zero_le _
  have CR : CHr Z own_EL st_.vm h0 st_.vm h0 := CHr.refl hCH
  obtain ⟨G, gv, gf, gb⟩ := own_GW Z own_EL pr_.tables en_ below st_ (Q0 Z p0 p1 p2 cs fmt h0 n0) room_1.cells room_1.slots
  show own_FinW Z own_EL pr_.tables en_ below st_ (Q0 Z p0 p1 p2 cs fmt h0 n0) room_1.cells room_1.slots (s₁.setTop (entryFrame me_ #[(.long p0), (.long p1), (.int p2)] maxLocals))
  refine gb _ (gv (fun _ kQ => castTop (ef_16 me_ p0 p1 p2) kQ) ?_)
  show G (s₁.setTop (mkF me_ 0 #[.val (.long p0), .second, .val (.long p1), .second, .val (.int p2), .unset, .unset, .unset, .unset, .unset, .unset, .unset, .unset, .unset, .unset, .unset, .unset, .unset] []))
  refine gv (fun _ kQ => XS.iload X0.here hx rfl (hb hby at_0) rfl (XS.bipush X0.here hx rfl (hb hby at_2) (XS.iand X0.here hx rfl (hb hby at_4) rfl (XS.iconst X0.here hx rfl (hb hby at_5) (iremM X0 hx rfl (hb hby at_6) rfl (by decide) (XS.istore X0.here hx rfl (hb hby at_7) rfl (l' := #[.val (.long p0), .second, .val (.long p1), .second, .val (.int p2), .val (.int ((p2 &&& (7 : Int32)) % (5 : Int32))), .unset, .unset, .unset, .unset, .unset, .unset, .unset, .unset, .unset, .unset, .unset, .unset]) rfl (XS.iload X0.here hx rfl (hb hby at_9) rfl (XS.bipush X0.here hx rfl (hb hby at_11) kQ)))))))) ?_
  show G (s₁.setTop (mkF me_ 13 #[.val (.long p0), .second, .val (.long p1), .second, .val (.int p2), .val (.int ((p2 &&& (7 : Int32)) % (5 : Int32))), .unset, .unset, .unset, .unset, .unset, .unset, .unset, .unset, .unset, .unset, .unset, .unset] [(.int 6), (.int p2)]))
  refine gv (fun _ kQ => XS.iushr X0.here hx rfl (hb hby at_13) rfl (XS.iconst X0.here hx rfl (hb hby at_14) (XS.iand X0.here hx rfl (hb hby at_15) rfl kQ))) ?_
  show G (s₁.setTop (mkF me_ 16 #[.val (.long p0), .second, .val (.long p1), .second, .val (.int p2), .val (.int ((p2 &&& (7 : Int32)) % (5 : Int32))), .unset, .unset, .unset, .unset, .unset, .unset, .unset, .unset, .unset, .unset, .unset, .unset] [(.int (((p2.toUInt32 >>> ((6 : Int32) &&& 31).toUInt32).toInt32) &&& (1 : Int32)))]))
  have J33 : ∀ (tl sl : Int32) (hj1 : own_le4 tl) (hj2 : own_le4 sl), G (s₁.setTop (mkF me_ 33 #[.val (.long p0), .second, .val (.long p1), .second, .val (.int p2), .val (.int tl), .unset, .unset, .unset, .unset, .unset, .unset, .unset, .unset, .unset, .unset, .unset, .unset] [(.int sl)])) := by
    intro tl sl hj1 hj2
    refine gv (fun _ kQ => XS.istore X0.here hx rfl (hb hby at_33) rfl (l' := #[.val (.long p0), .second, .val (.long p1), .second, .val (.int p2), .val (.int tl), .val (.int sl), .unset, .unset, .unset, .unset, .unset, .unset, .unset, .unset, .unset, .unset, .unset]) rfl (XS.lloadN X0.here hx rfl (hb hby at_35) rfl (XS.iconst X0.here hx rfl (hb hby at_36) (XS.iload X0.here hx rfl (hb hby at_37) rfl kQ)))) ?_
    show G (s₁.setTop (mkF me_ 39 #[.val (.long p0), .second, .val (.long p1), .second, .val (.int p2), .val (.int tl), .val (.int sl), .unset, .unset, .unset, .unset, .unset, .unset, .unset, .unset, .unset, .unset, .unset] [(.int p2), (.int 0), (.long p0)]))
    obtain ⟨_, _, ⟨T1424, L1424, k1424, n1424⟩, -, X1424, ⟨Lc1424, hQ1424, l1424, y1424, z1424⟩, st1424⟩ := Jvm.LawKit.callS X0 hx (y := m_5) hown (mvT hZ (t_0 hw)) (mvT hZ (t_1 hw)) (mvT hZ (t_2 hw)) (mvT hZ (t_3 hw)) (by decide) (backOf (W := 0) (rm_tch l Z a0 hw [] p0 (0 : Int32) p2 h0 n0 O0 ) hZ (t_3 hw) (t_2 hw) (by decide) (by decide)) (g := (mkF me_ 39 #[.val (.long p0), .second, .val (.long p1), .second, .val (.int p2), .val (.int tl), .val (.int sl), .unset, .unset, .unset, .unset, .unset, .unset, .unset, .unset, .unset, .unset, .unset] [(.int p2), (.int 0), (.long p0)])) rfl (by rw [hml]; rfl) (argsL := [(.long p0), (.int 0), (.int p2)]) (rest := []) (lenOf pd_18 rfl) rfl (by show 2 * 0 + _ ≤ _; exact Nat.le_of_eq rfl) (hb hby at_39) (fun _ _ => ⟨rfl, e0, (by decide : 0 + 0 ≤ _), (by decide : 0 + 0 ≤ _)⟩)
    dsimp only [Pt.U, Pt.locs, Pt.cells, Pt.slots] at X1424 l1424 y1424 z1424 st1424 hQ1424
    subst l1424 y1424 z1424
    obtain ⟨c_1424, rfl, Nq1424, eq1424, w1424_0⟩ := hQ1424
    have N1425 := Fr.app N0 Nq1424
    refine gv st1424 ?_
    refine gv (fun _ kQ => XS.istore X1424.here hx rfl (hb hby at_42) rfl (l' := #[.val (.long p0), .second, .val (.long p1), .second, .val (.int p2), .val (.int tl), .val (.int sl), .val (.int c_1424), .unset, .unset, .unset, .unset, .unset, .unset, .unset, .unset, .unset, .unset]) rfl (XS.lloadN X1424.here hx rfl (hb hby at_44) rfl (XS.iconst X1424.here hx rfl (hb hby at_45) (XS.iload X1424.here hx rfl (hb hby at_46) rfl kQ)))) ?_
    show G (T1424.setTop (mkF me_ 48 #[.val (.long p0), .second, .val (.long p1), .second, .val (.int p2), .val (.int tl), .val (.int sl), .val (.int c_1424), .unset, .unset, .unset, .unset, .unset, .unset, .unset, .unset, .unset, .unset] [(.int p2), (.int 1), (.long p0)]))
    obtain ⟨_, _, ⟨T1426, L1426, k1426, n1426⟩, -, X1426, ⟨Lc1426, hQ1426, l1426, y1426, z1426⟩, st1426⟩ := Jvm.LawKit.callS X1424 hx (y := m_5) hown (mvT hZ (t_0 hw)) (mvT hZ (t_1 hw)) (mvT hZ (t_2 hw)) (mvT hZ (t_3 hw)) (by decide) (backOf (W := 0) (rm_tch l Z a0 hw [] p0 (1 : Int32) p2 h0 n0 O0 ) hZ (t_3 hw) (t_2 hw) (by decide) (by decide)) (g := (mkF me_ 48 #[.val (.long p0), .second, .val (.long p1), .second, .val (.int p2), .val (.int tl), .val (.int sl), .val (.int c_1424), .unset, .unset, .unset, .unset, .unset, .unset, .unset, .unset, .unset, .unset] [(.int p2), (.int 1), (.long p0)])) rfl (by rw [hml]; rfl) (argsL := [(.long p0), (.int 1), (.int p2)]) (rest := []) (lenOf pd_18 rfl) rfl (by show 2 * 0 + _ ≤ _; exact Nat.le_of_eq rfl) (hb hby at_48) (fun _ _ => ⟨rfl, eq1424, (by decide : 0 + 0 ≤ _), (by decide : 0 + 0 ≤ _)⟩)
    dsimp only [Pt.U, Pt.locs, Pt.cells, Pt.slots] at X1426 l1426 y1426 z1426 st1426 hQ1426
    subst l1426 y1426 z1426
    obtain ⟨c_1426, rfl, Nq1426, eq1426, w1426_0⟩ := hQ1426
    have N1427 := Fr.app N1425 Nq1426
    refine gv st1426 ?_
    refine gv (fun _ kQ => XS.istore X1426.here hx rfl (hb hby at_51) rfl (l' := #[.val (.long p0), .second, .val (.long p1), .second, .val (.int p2), .val (.int tl), .val (.int sl), .val (.int c_1424), .val (.int c_1426), .unset, .unset, .unset, .unset, .unset, .unset, .unset, .unset, .unset]) rfl (XS.lloadN X1426.here hx rfl (hb hby at_53) rfl (XS.iconst X1426.here hx rfl (hb hby at_54) (XS.iload X1426.here hx rfl (hb hby at_55) rfl kQ)))) ?_
    show G (T1426.setTop (mkF me_ 57 #[.val (.long p0), .second, .val (.long p1), .second, .val (.int p2), .val (.int tl), .val (.int sl), .val (.int c_1424), .val (.int c_1426), .unset, .unset, .unset, .unset, .unset, .unset, .unset, .unset, .unset] [(.int p2), (.int 2), (.long p0)]))
    obtain ⟨_, _, ⟨T1428, L1428, k1428, n1428⟩, -, X1428, ⟨Lc1428, hQ1428, l1428, y1428, z1428⟩, st1428⟩ := Jvm.LawKit.callS X1426 hx (y := m_5) hown (mvT hZ (t_0 hw)) (mvT hZ (t_1 hw)) (mvT hZ (t_2 hw)) (mvT hZ (t_3 hw)) (by decide) (backOf (W := 0) (rm_tch l Z a0 hw [] p0 (2 : Int32) p2 h0 n0 O0 ) hZ (t_3 hw) (t_2 hw) (by decide) (by decide)) (g := (mkF me_ 57 #[.val (.long p0), .second, .val (.long p1), .second, .val (.int p2), .val (.int tl), .val (.int sl), .val (.int c_1424), .val (.int c_1426), .unset, .unset, .unset, .unset, .unset, .unset, .unset, .unset, .unset] [(.int p2), (.int 2), (.long p0)])) rfl (by rw [hml]; rfl) (argsL := [(.long p0), (.int 2), (.int p2)]) (rest := []) (lenOf pd_18 rfl) rfl (by show 2 * 0 + _ ≤ _; exact Nat.le_of_eq rfl) (hb hby at_57) (fun _ _ => ⟨rfl, eq1426, (by decide : 0 + 0 ≤ _), (by decide : 0 + 0 ≤ _)⟩)
    dsimp only [Pt.U, Pt.locs, Pt.cells, Pt.slots] at X1428 l1428 y1428 z1428 st1428 hQ1428
    subst l1428 y1428 z1428
    obtain ⟨c_1428, rfl, Nq1428, eq1428, w1428_0⟩ := hQ1428
    have N1429 := Fr.app N1427 Nq1428
    refine gv st1428 ?_
    refine gv (fun _ kQ => XS.istore X1428.here hx rfl (hb hby at_60) rfl (l' := #[.val (.long p0), .second, .val (.long p1), .second, .val (.int p2), .val (.int tl), .val (.int sl), .val (.int c_1424), .val (.int c_1426), .val (.int c_1428), .unset, .unset, .unset, .unset, .unset, .unset, .unset, .unset]) rfl (XS.lloadN X1428.here hx rfl (hb hby at_62) rfl (XS.iconst X1428.here hx rfl (hb hby at_63) (XS.iload X1428.here hx rfl (hb hby at_64) rfl kQ)))) ?_
    show G (T1428.setTop (mkF me_ 66 #[.val (.long p0), .second, .val (.long p1), .second, .val (.int p2), .val (.int tl), .val (.int sl), .val (.int c_1424), .val (.int c_1426), .val (.int c_1428), .unset, .unset, .unset, .unset, .unset, .unset, .unset, .unset] [(.int p2), (.int 3), (.long p0)]))
    obtain ⟨_, _, ⟨T1430, L1430, k1430, n1430⟩, -, X1430, ⟨Lc1430, hQ1430, l1430, y1430, z1430⟩, st1430⟩ := Jvm.LawKit.callS X1428 hx (y := m_5) hown (mvT hZ (t_0 hw)) (mvT hZ (t_1 hw)) (mvT hZ (t_2 hw)) (mvT hZ (t_3 hw)) (by decide) (backOf (W := 0) (rm_tch l Z a0 hw [] p0 (3 : Int32) p2 h0 n0 O0 ) hZ (t_3 hw) (t_2 hw) (by decide) (by decide)) (g := (mkF me_ 66 #[.val (.long p0), .second, .val (.long p1), .second, .val (.int p2), .val (.int tl), .val (.int sl), .val (.int c_1424), .val (.int c_1426), .val (.int c_1428), .unset, .unset, .unset, .unset, .unset, .unset, .unset, .unset] [(.int p2), (.int 3), (.long p0)])) rfl (by rw [hml]; rfl) (argsL := [(.long p0), (.int 3), (.int p2)]) (rest := []) (lenOf pd_18 rfl) rfl (by show 2 * 0 + _ ≤ _; exact Nat.le_of_eq rfl) (hb hby at_66) (fun _ _ => ⟨rfl, eq1428, (by decide : 0 + 0 ≤ _), (by decide : 0 + 0 ≤ _)⟩)
    dsimp only [Pt.U, Pt.locs, Pt.cells, Pt.slots] at X1430 l1430 y1430 z1430 st1430 hQ1430
    subst l1430 y1430 z1430
    obtain ⟨c_1430, rfl, Nq1430, eq1430, w1430_0⟩ := hQ1430
    have N1431 := Fr.app N1429 Nq1430
    refine gv st1430 ?_
    refine gv (fun _ kQ => XS.istore X1430.here hx rfl (hb hby at_69) rfl (l' := #[.val (.long p0), .second, .val (.long p1), .second, .val (.int p2), .val (.int tl), .val (.int sl), .val (.int c_1424), .val (.int c_1426), .val (.int c_1428), .val (.int c_1430), .unset, .unset, .unset, .unset, .unset, .unset, .unset]) rfl (XS.lloadN X1430.here hx rfl (hb hby at_71) rfl (XS.iconst X1430.here hx rfl (hb hby at_72) (XS.iload X1430.here hx rfl (hb hby at_73) rfl (XS.iload X1430.here hx rfl (hb hby at_75) rfl kQ))))) ?_
    show G (T1430.setTop (mkF me_ 77 #[.val (.long p0), .second, .val (.long p1), .second, .val (.int p2), .val (.int tl), .val (.int sl), .val (.int c_1424), .val (.int c_1426), .val (.int c_1428), .val (.int c_1430), .unset, .unset, .unset, .unset, .unset, .unset, .unset] [(.int c_1424), (.int p2), (.int 0), (.long p1)]))
    obtain ⟨_, _, ⟨T1432, L1432, k1432, n1432⟩, -, X1432, ⟨Lc1432, hQ1432, l1432, y1432, z1432⟩, st1432⟩ := Jvm.LawKit.callS X1430 hx (y := m_3) hown (mvT hZ (t_5 hw)) (mvT hZ (t_6 hw)) (mvT hZ (t_2 hw)) (mvT hZ (t_7 hw)) (by decide) (backOf (W := 0) (rm_sch l Z a0 hw [] p1 (0 : Int32) p2 c_1424 h0 n0 O0 w1424_0) hZ (t_7 hw) (t_2 hw) (by decide) (by decide)) (g := (mkF me_ 77 #[.val (.long p0), .second, .val (.long p1), .second, .val (.int p2), .val (.int tl), .val (.int sl), .val (.int c_1424), .val (.int c_1426), .val (.int c_1428), .val (.int c_1430), .unset, .unset, .unset, .unset, .unset, .unset, .unset] [(.int c_1424), (.int p2), (.int 0), (.long p1)])) rfl (by rw [hml]; rfl) (argsL := [(.long p1), (.int 0), (.int p2), (.int c_1424)]) (rest := []) (lenOf pd_19 rfl) rfl (by show 2 * 0 + _ ≤ _; exact Nat.le_of_eq rfl) (hb hby at_77) (fun _ _ => ⟨rfl, eq1430, (by decide : 0 + 0 ≤ _), (by decide : 0 + 0 ≤ _)⟩)
    dsimp only [Pt.U, Pt.locs, Pt.cells, Pt.slots] at X1432 l1432 y1432 z1432 st1432 hQ1432
    subst l1432 y1432 z1432
    obtain ⟨c_1432, rfl, Nq1432, eq1432, w1432_0⟩ := hQ1432
    have N1433 := Fr.app N1431 Nq1432
    refine gv st1432 ?_
    refine gv (fun _ kQ => XS.istore X1432.here hx rfl (hb hby at_80) rfl (l' := #[.val (.long p0), .second, .val (.long p1), .second, .val (.int p2), .val (.int tl), .val (.int sl), .val (.int c_1424), .val (.int c_1426), .val (.int c_1428), .val (.int c_1430), .val (.int c_1432), .unset, .unset, .unset, .unset, .unset, .unset]) rfl (XS.lloadN X1432.here hx rfl (hb hby at_82) rfl (XS.iconst X1432.here hx rfl (hb hby at_83) (XS.iload X1432.here hx rfl (hb hby at_84) rfl (XS.iload X1432.here hx rfl (hb hby at_86) rfl kQ))))) ?_
    show G (T1432.setTop (mkF me_ 88 #[.val (.long p0), .second, .val (.long p1), .second, .val (.int p2), .val (.int tl), .val (.int sl), .val (.int c_1424), .val (.int c_1426), .val (.int c_1428), .val (.int c_1430), .val (.int c_1432), .unset, .unset, .unset, .unset, .unset, .unset] [(.int c_1426), (.int p2), (.int 1), (.long p1)]))
    obtain ⟨_, _, ⟨T1434, L1434, k1434, n1434⟩, -, X1434, ⟨Lc1434, hQ1434, l1434, y1434, z1434⟩, st1434⟩ := Jvm.LawKit.callS X1432 hx (y := m_3) hown (mvT hZ (t_5 hw)) (mvT hZ (t_6 hw)) (mvT hZ (t_2 hw)) (mvT hZ (t_7 hw)) (by decide) (backOf (W := 0) (rm_sch l Z a0 hw [] p1 (1 : Int32) p2 c_1426 h0 n0 O0 w1426_0) hZ (t_7 hw) (t_2 hw) (by decide) (by decide)) (g := (mkF me_ 88 #[.val (.long p0), .second, .val (.long p1), .second, .val (.int p2), .val (.int tl), .val (.int sl), .val (.int c_1424), .val (.int c_1426), .val (.int c_1428), .val (.int c_1430), .val (.int c_1432), .unset, .unset, .unset, .unset, .unset, .unset] [(.int c_1426), (.int p2), (.int 1), (.long p1)])) rfl (by rw [hml]; rfl) (argsL := [(.long p1), (.int 1), (.int p2), (.int c_1426)]) (rest := []) (lenOf pd_19 rfl) rfl (by show 2 * 0 + _ ≤ _; exact Nat.le_of_eq rfl) (hb hby at_88) (fun _ _ => ⟨rfl, eq1432, (by decide : 0 + 0 ≤ _), (by decide : 0 + 0 ≤ _)⟩)
    dsimp only [Pt.U, Pt.locs, Pt.cells, Pt.slots] at X1434 l1434 y1434 z1434 st1434 hQ1434
    subst l1434 y1434 z1434
    obtain ⟨c_1434, rfl, Nq1434, eq1434, w1434_0⟩ := hQ1434
    have N1435 := Fr.app N1433 Nq1434
    refine gv st1434 ?_
    refine gv (fun _ kQ => XS.istore X1434.here hx rfl (hb hby at_91) rfl (l' := #[.val (.long p0), .second, .val (.long p1), .second, .val (.int p2), .val (.int tl), .val (.int sl), .val (.int c_1424), .val (.int c_1426), .val (.int c_1428), .val (.int c_1430), .val (.int c_1432), .val (.int c_1434), .unset, .unset, .unset, .unset, .unset]) rfl (XS.lloadN X1434.here hx rfl (hb hby at_93) rfl (XS.iconst X1434.here hx rfl (hb hby at_94) (XS.iload X1434.here hx rfl (hb hby at_95) rfl (XS.iload X1434.here hx rfl (hb hby at_97) rfl kQ))))) ?_
    show G (T1434.setTop (mkF me_ 99 #[.val (.long p0), .second, .val (.long p1), .second, .val (.int p2), .val (.int tl), .val (.int sl), .val (.int c_1424), .val (.int c_1426), .val (.int c_1428), .val (.int c_1430), .val (.int c_1432), .val (.int c_1434), .unset, .unset, .unset, .unset, .unset] [(.int c_1428), (.int p2), (.int 2), (.long p1)]))
    obtain ⟨_, _, ⟨T1436, L1436, k1436, n1436⟩, -, X1436, ⟨Lc1436, hQ1436, l1436, y1436, z1436⟩, st1436⟩ := Jvm.LawKit.callS X1434 hx (y := m_3) hown (mvT hZ (t_5 hw)) (mvT hZ (t_6 hw)) (mvT hZ (t_2 hw)) (mvT hZ (t_7 hw)) (by decide) (backOf (W := 0) (rm_sch l Z a0 hw [] p1 (2 : Int32) p2 c_1428 h0 n0 O0 w1428_0) hZ (t_7 hw) (t_2 hw) (by decide) (by decide)) (g := (mkF me_ 99 #[.val (.long p0), .second, .val (.long p1), .second, .val (.int p2), .val (.int tl), .val (.int sl), .val (.int c_1424), .val (.int c_1426), .val (.int c_1428), .val (.int c_1430), .val (.int c_1432), .val (.int c_1434), .unset, .unset, .unset, .unset, .unset] [(.int c_1428), (.int p2), (.int 2), (.long p1)])) rfl (by rw [hml]; rfl) (argsL := [(.long p1), (.int 2), (.int p2), (.int c_1428)]) (rest := []) (lenOf pd_19 rfl) rfl (by show 2 * 0 + _ ≤ _; exact Nat.le_of_eq rfl) (hb hby at_99) (fun _ _ => ⟨rfl, eq1434, (by decide : 0 + 0 ≤ _), (by decide : 0 + 0 ≤ _)⟩)
    dsimp only [Pt.U, Pt.locs, Pt.cells, Pt.slots] at X1436 l1436 y1436 z1436 st1436 hQ1436
    subst l1436 y1436 z1436
    obtain ⟨c_1436, rfl, Nq1436, eq1436, w1436_0⟩ := hQ1436
    have N1437 := Fr.app N1435 Nq1436
    refine gv st1436 ?_
    refine gv (fun _ kQ => XS.istore X1436.here hx rfl (hb hby at_102) rfl (l' := #[.val (.long p0), .second, .val (.long p1), .second, .val (.int p2), .val (.int tl), .val (.int sl), .val (.int c_1424), .val (.int c_1426), .val (.int c_1428), .val (.int c_1430), .val (.int c_1432), .val (.int c_1434), .val (.int c_1436), .unset, .unset, .unset, .unset]) rfl (XS.lloadN X1436.here hx rfl (hb hby at_104) rfl (XS.iconst X1436.here hx rfl (hb hby at_105) (XS.iload X1436.here hx rfl (hb hby at_106) rfl (XS.iload X1436.here hx rfl (hb hby at_108) rfl kQ))))) ?_
    show G (T1436.setTop (mkF me_ 110 #[.val (.long p0), .second, .val (.long p1), .second, .val (.int p2), .val (.int tl), .val (.int sl), .val (.int c_1424), .val (.int c_1426), .val (.int c_1428), .val (.int c_1430), .val (.int c_1432), .val (.int c_1434), .val (.int c_1436), .unset, .unset, .unset, .unset] [(.int c_1430), (.int p2), (.int 3), (.long p1)]))
    obtain ⟨_, _, ⟨T1438, L1438, k1438, n1438⟩, -, X1438, ⟨Lc1438, hQ1438, l1438, y1438, z1438⟩, st1438⟩ := Jvm.LawKit.callS X1436 hx (y := m_3) hown (mvT hZ (t_5 hw)) (mvT hZ (t_6 hw)) (mvT hZ (t_2 hw)) (mvT hZ (t_7 hw)) (by decide) (backOf (W := 0) (rm_sch l Z a0 hw [] p1 (3 : Int32) p2 c_1430 h0 n0 O0 w1430_0) hZ (t_7 hw) (t_2 hw) (by decide) (by decide)) (g := (mkF me_ 110 #[.val (.long p0), .second, .val (.long p1), .second, .val (.int p2), .val (.int tl), .val (.int sl), .val (.int c_1424), .val (.int c_1426), .val (.int c_1428), .val (.int c_1430), .val (.int c_1432), .val (.int c_1434), .val (.int c_1436), .unset, .unset, .unset, .unset] [(.int c_1430), (.int p2), (.int 3), (.long p1)])) rfl (by rw [hml]; rfl) (argsL := [(.long p1), (.int 3), (.int p2), (.int c_1430)]) (rest := []) (lenOf pd_19 rfl) rfl (by show 2 * 0 + _ ≤ _; exact Nat.le_of_eq rfl) (hb hby at_110) (fun _ _ => ⟨rfl, eq1436, (by decide : 0 + 0 ≤ _), (by decide : 0 + 0 ≤ _)⟩)
    dsimp only [Pt.U, Pt.locs, Pt.cells, Pt.slots] at X1438 l1438 y1438 z1438 st1438 hQ1438
    subst l1438 y1438 z1438
    obtain ⟨c_1438, rfl, Nq1438, eq1438, w1438_0⟩ := hQ1438
    have N1439 := Fr.app N1437 Nq1438
    refine gv st1438 ?_
    refine gv (fun _ kQ => XS.istore X1438.here hx rfl (hb hby at_113) rfl (l' := #[.val (.long p0), .second, .val (.long p1), .second, .val (.int p2), .val (.int tl), .val (.int sl), .val (.int c_1424), .val (.int c_1426), .val (.int c_1428), .val (.int c_1430), .val (.int c_1432), .val (.int c_1434), .val (.int c_1436), .val (.int c_1438), .unset, .unset, .unset]) rfl (XS.iload X1438.here hx rfl (hb hby at_115) rfl (XS.iload X1438.here hx rfl (hb hby at_117) rfl (XS.iload X1438.here hx rfl (hb hby at_119) rfl (XS.iload X1438.here hx rfl (hb hby at_121) rfl (XS.iload X1438.here hx rfl (hb hby at_123) rfl kQ)))))) ?_
    show G (T1438.setTop (mkF me_ 125 #[.val (.long p0), .second, .val (.long p1), .second, .val (.int p2), .val (.int tl), .val (.int sl), .val (.int c_1424), .val (.int c_1426), .val (.int c_1428), .val (.int c_1430), .val (.int c_1432), .val (.int c_1434), .val (.int c_1436), .val (.int c_1438), .unset, .unset, .unset] [(.int tl), (.int c_1430), (.int c_1428), (.int c_1426), (.int c_1424)]))
    obtain ⟨_, _, ⟨T1440, L1440, k1440, n1440⟩, -, X1440, hS1440, hg1440, ⟨Lc1440, hQ1440, l1440, y1440, z1440, CRn1440⟩, st1440⟩ := callSS X1438 hx (y := m_4) hown (mvT hZ (t_8 hw)) (mvT hZ (t_9 hw)) (mvT hZ (t_2 hw)) (mvT hZ (t_10 hw)) (by decide) (own_backH (W := 0) (rm_str l Z a0 hw [] c_1424 c_1426 c_1428 c_1430 tl cs h0 n0 O0 u0 u1 u2 u3 u4 w1424_0 w1426_0 w1428_0 w1430_0 hj1) hZ (t_10 hw) (t_2 hw) (by decide) (by decide) hEL CR.1 own_sf0) (g := (mkF me_ 125 #[.val (.long p0), .second, .val (.long p1), .second, .val (.int p2), .val (.int tl), .val (.int sl), .val (.int c_1424), .val (.int c_1426), .val (.int c_1428), .val (.int c_1430), .val (.int c_1432), .val (.int c_1434), .val (.int c_1436), .val (.int c_1438), .unset, .unset, .unset] [(.int tl), (.int c_1430), (.int c_1428), (.int c_1426), (.int c_1424)])) rfl (by rw [hml]; rfl) (argsL := [(.int c_1424), (.int c_1426), (.int c_1428), (.int c_1430), (.int tl)]) (rest := []) (lenOf pd_20 rfl) rfl (by show 2 * 0 + _ ≤ _; exact Nat.le_of_eq rfl) (hb hby at_125) (fun _ _ => ⟨rfl, eq1438, (by decide : 0 + 6 ≤ _), (by decide : 0 + 20 ≤ _)⟩)
    dsimp only [Pt.U, Pt.locs, Pt.cells, Pt.slots] at X1440 l1440 y1440 z1440 st1440 hQ1440 hS1440 hg1440 CRn1440
    subst l1440 y1440 z1440
    have hS := foldS hS (by rw [eq1438]; exact hk) hS1440 hg1440
    have hZ : Z.Warmed39 T1440.vm := State.Warmed39.trans (t := st_.setVm st_.vm) hZ hS1440.1
    have hown : T1440.vm.findClass "com/example/closemark/closemark/csv/CsvReaderHasShapePinLaw" = some me_.cls := by rw [hS1440.1.alike.findClass]; exact hown
    have X1440 : Stand pr_ l en_ _ (st_.setVm T1440.vm) me_ _ below meth_ co_ T1440 _ _ _ := X1440
    obtain ⟨s_1440, rfl, Nq1440, Kq1440, w1440_0, w1440_1, w1440_2⟩ := hQ1440
    have N1441 := Fr.app N1439 Nq1440
    obtain ⟨h1440, e1440⟩ : ∃ z, T1440.heap = z := ⟨_, rfl⟩
    rw [e1440] at Kq1440 CRn1440 w1440_1 w1440_2
    have CR := CR.trans CRn1440
    obtain ⟨kk1440, hkk1440⟩ : ∃ z, z = T1440.heap.size := ⟨_, rfl⟩
    rw [← hkk1440] at hS
    have hk : kk1440 ≤ h1440.size := by rw [hkk1440, e1440]; exact Nat.le_refl _
    have O1445 := O0.keep Kq1440 all0
    refine gv (fun _ kQ => st1440.trans (XS.astore X1440.here hx rfl (hb hby at_128) rfl rfl (l' := #[.val (.long p0), .second, .val (.long p1), .second, .val (.int p2), .val (.int tl), .val (.int sl), .val (.int c_1424), .val (.int c_1426), .val (.int c_1428), .val (.int c_1430), .val (.int c_1432), .val (.int c_1434), .val (.int c_1436), .val (.int c_1438), .val (.ref s_1440), .unset, .unset]) rfl (XS.iload X1440.here hx rfl (hb hby at_130) rfl (XS.iload X1440.here hx rfl (hb hby at_132) rfl (XS.iload X1440.here hx rfl (hb hby at_134) rfl (XS.iload X1440.here hx rfl (hb hby at_136) rfl (XS.iload X1440.here hx rfl (hb hby at_138) rfl kQ))))))) ?_
    show G (T1440.setTop (mkF me_ 140 #[.val (.long p0), .second, .val (.long p1), .second, .val (.int p2), .val (.int tl), .val (.int sl), .val (.int c_1424), .val (.int c_1426), .val (.int c_1428), .val (.int c_1430), .val (.int c_1432), .val (.int c_1434), .val (.int c_1436), .val (.int c_1438), .val (.ref s_1440), .unset, .unset] [(.int sl), (.int c_1438), (.int c_1436), (.int c_1434), (.int c_1432)]))
    obtain ⟨_, _, ⟨T1446, L1446, k1446, n1446⟩, -, X1446, hS1446, hg1446, ⟨Lc1446, hQ1446, l1446, y1446, z1446, CRn1446⟩, st1446⟩ := callSS X1440 hx (y := m_4) hown (mvT hZ (t_8 hw)) (mvT hZ (t_9 hw)) (mvT hZ (t_2 hw)) (mvT hZ (t_10 hw)) (by decide) (own_backH (W := 0) (rm_str l Z a0 hw [] c_1432 c_1434 c_1436 c_1438 sl cs h1440 n0 O1445 u0 u1 u2 u3 u4 w1432_0 w1434_0 w1436_0 w1438_0 hj2) hZ (t_10 hw) (t_2 hw) (by decide) (by decide) hEL CR.1 own_sf0) (g := (mkF me_ 140 #[.val (.long p0), .second, .val (.long p1), .second, .val (.int p2), .val (.int tl), .val (.int sl), .val (.int c_1424), .val (.int c_1426), .val (.int c_1428), .val (.int c_1430), .val (.int c_1432), .val (.int c_1434), .val (.int c_1436), .val (.int c_1438), .val (.ref s_1440), .unset, .unset] [(.int sl), (.int c_1438), (.int c_1436), (.int c_1434), (.int c_1432)])) rfl (by rw [hml]; rfl) (argsL := [(.int c_1432), (.int c_1434), (.int c_1436), (.int c_1438), (.int sl)]) (rest := []) (lenOf pd_20 rfl) rfl (by show 2 * 0 + _ ≤ _; exact Nat.le_of_eq rfl) (hb hby at_140) (fun _ _ => ⟨rfl, e1440, (by decide : 6 + 6 ≤ _), (by decide : 20 + 20 ≤ _)⟩)
    dsimp only [Pt.U, Pt.locs, Pt.cells, Pt.slots] at X1446 l1446 y1446 z1446 st1446 hQ1446 hS1446 hg1446 CRn1446
    subst l1446 y1446 z1446
    have hS := foldS hS (by rw [e1440]; exact hk) hS1446 hg1446
    have hZ : Z.Warmed39 T1446.vm := State.Warmed39.trans (t := st_.setVm T1440.vm) hZ hS1446.1
    have hown : T1446.vm.findClass "com/example/closemark/closemark/csv/CsvReaderHasShapePinLaw" = some me_.cls := by rw [hS1446.1.alike.findClass]; exact hown
    have X1446 : Stand pr_ l en_ _ (st_.setVm T1446.vm) me_ _ below meth_ co_ T1446 _ _ _ := X1446
    obtain ⟨s_1446, rfl, Nq1446, Kq1446, w1446_0, w1446_1, w1446_2⟩ := hQ1446
    have N1447 := Fr.app N1441 Nq1446
    obtain ⟨h1446, e1446⟩ : ∃ z, T1446.heap = z := ⟨_, rfl⟩
    rw [e1446] at Kq1446 CRn1446 w1446_1 w1446_2
    have CR := CR.trans CRn1446
    obtain ⟨kk1446, hkk1446⟩ : ∃ z, z = T1446.heap.size := ⟨_, rfl⟩
    rw [← hkk1446] at hS
    have hk : kk1446 ≤ h1446.size := by rw [hkk1446, e1446]; exact Nat.le_refl _
    have f1452 := w1440_1.keep Kq1446
    have f1453 := w1440_2.keep Kq1446
    have O1454 := O1445.keep Kq1446 all0
    refine gv (fun _ kQ => st1446.trans (XS.astore X1446.here hx rfl (hb hby at_143) rfl rfl (l' := #[.val (.long p0), .second, .val (.long p1), .second, .val (.int p2), .val (.int tl), .val (.int sl), .val (.int c_1424), .val (.int c_1426), .val (.int c_1428), .val (.int c_1430), .val (.int c_1432), .val (.int c_1434), .val (.int c_1436), .val (.int c_1438), .val (.ref s_1440), .val (.ref s_1446), .unset]) rfl (XS.iload X1446.here hx rfl (hb hby at_145) rfl (XS.iload X1446.here hx rfl (hb hby at_147) rfl kQ)))) ?_
    show G (T1446.setTop (mkF me_ 149 #[.val (.long p0), .second, .val (.long p1), .second, .val (.int p2), .val (.int tl), .val (.int sl), .val (.int c_1424), .val (.int c_1426), .val (.int c_1428), .val (.int c_1430), .val (.int c_1432), .val (.int c_1434), .val (.int c_1436), .val (.int c_1438), .val (.ref s_1440), .val (.ref s_1446), .unset] [(.int sl), (.int tl)]))
    by_cases hc1455 : tl = sl
    · refine gv (fun _ kQ => XS.icmpNo X1446.here hx rfl (hb hby at_149) rfl (teq hc1455).2 kQ) ?_
      refine gv (fun _ kQ => XS.iload X1446.here hx rfl (hb hby at_152) rfl (XS.iconst X1446.here hx rfl (hb hby at_154) kQ)) ?_
      by_cases hc1456 : sl < (1 : Int32)
      · refine gv (fun _ kQ => XS.icmpYes X1446.here hx rfl (pc0 := 155) (pc' := 168) rfl (hb hby at_155) rfl (tlt hc1456).1 (by decide) (by decide) kQ) ?_
        refine gv (fun _ kQ => XS.iload X1446.here hx rfl (hb hby at_168) rfl (XS.iconst X1446.here hx rfl (hb hby at_170) (XS.icmpYes X1446.here hx rfl (pc0 := 171) (pc' := 184) rfl (hb hby at_171) rfl (tlt (Int32.lt_trans hc1456 (by decide : (1 : Int32) < (2 : Int32)))).1 (by decide) (by decide) (XS.iload X1446.here hx rfl (hb hby at_184) rfl (XS.iconst X1446.here hx rfl (hb hby at_186) (XS.icmpYes X1446.here hx rfl (pc0 := 187) (pc' := 200) rfl (hb hby at_187) rfl (tlt (Int32.lt_trans hc1456 (by decide : (1 : Int32) < (3 : Int32)))).1 (by decide) (by decide) (XS.iload X1446.here hx rfl (hb hby at_200) rfl (XS.iconst X1446.here hx rfl (hb hby at_202) kQ)))))))) ?_
        show G (T1446.setTop (mkF me_ 203 #[.val (.long p0), .second, .val (.long p1), .second, .val (.int p2), .val (.int tl), .val (.int sl), .val (.int c_1424), .val (.int c_1426), .val (.int c_1428), .val (.int c_1430), .val (.int c_1432), .val (.int c_1434), .val (.int c_1436), .val (.int c_1438), .val (.ref s_1440), .val (.ref s_1446), .unset] [(.int 4), (.int sl)]))
        refine gv (fun _ kQ => XS.icmpYes X1446.here hx rfl (pc0 := 203) (pc' := 216) rfl (hb hby at_203) rfl (tlt (Int32.lt_trans hc1456 (by decide : (1 : Int32) < (4 : Int32)))).1 (by decide) (by decide) (XS.iconst X1446.here hx rfl (hb hby at_216) (XS.goto X1446.here hx rfl (pc0 := 217) (pc' := 221) rfl (hb hby at_217) (by decide) (by decide) (XS.istore X1446.here hx rfl (hb hby at_221) rfl (l' := #[.val (.long p0), .second, .val (.long p1), .second, .val (.int p2), .val (.int tl), .val (.int sl), .val (.int c_1424), .val (.int c_1426), .val (.int c_1428), .val (.int c_1430), .val (.int c_1432), .val (.int c_1434), .val (.int c_1436), .val (.int c_1438), .val (.ref s_1440), .val (.ref s_1446), .val (.int 1)]) rfl (XS.aload X1446.here hx rfl (hb hby at_223) rfl rfl (XS.aload X1446.here hx rfl (hb hby at_225) rfl rfl kQ)))))) ?_
        show G (T1446.setTop (mkF me_ 227 #[.val (.long p0), .second, .val (.long p1), .second, .val (.int p2), .val (.int tl), .val (.int sl), .val (.int c_1424), .val (.int c_1426), .val (.int c_1428), .val (.int c_1430), .val (.int c_1432), .val (.int c_1434), .val (.int c_1436), .val (.int c_1438), .val (.ref s_1440), .val (.ref s_1446), .val (.int 1)] [(.ref s_1446), (.ref s_1440)]))
        obtain ⟨_, _, ⟨T1457, L1457, k1457, n1457⟩, -, X1457, ⟨Lc1457, hQ1457, l1457, y1457, z1457⟩, st1457⟩ := Jvm.LawKit.callS X1446 hx (y := m_0) hown (mvT hZ (t_33 hw)) (mvT hZ (t_34 hw)) (mvT hZ (t_35 hw)) (mvT hZ (t_36 hw)) (by decide) (backOf (W := 0) (rm_hs l Z a0 hw [] s_1440 s_1446 tl sl c_1424 c_1426 c_1428 c_1430 c_1432 c_1434 c_1436 c_1438 cs fmt h1446 n0 O1454 u0 u1 u2 u3 u4 u5 u6 f1452 f1453 w1446_1 w1446_2 hj2) hZ (t_36 hw) (t_35 hw) (by decide) (by decide)) (g := (mkF me_ 227 #[.val (.long p0), .second, .val (.long p1), .second, .val (.int p2), .val (.int tl), .val (.int sl), .val (.int c_1424), .val (.int c_1426), .val (.int c_1428), .val (.int c_1430), .val (.int c_1432), .val (.int c_1434), .val (.int c_1436), .val (.int c_1438), .val (.ref s_1440), .val (.ref s_1446), .val (.int 1)] [(.ref s_1446), (.ref s_1440)])) rfl (by rw [hml]; rfl) (argsL := [(.ref s_1440), (.ref s_1446)]) (rest := []) (lenOf pd_21 rfl) rfl (by show 2 * 0 + _ ≤ _; exact Nat.le_of_eq rfl) (hb hby at_227) (fun _ _ => ⟨rfl, e1446, (by decide : 12 + 0 ≤ _), (by decide : 40 + 0 ≤ _)⟩)
        dsimp only [Pt.U, Pt.locs, Pt.cells, Pt.slots] at X1457 l1457 y1457 z1457 st1457 hQ1457
        subst l1457 y1457 z1457
        obtain ⟨rfl, Nq1457, eq1457⟩ := hQ1457
        have N1458 := Fr.app N1447 Nq1457
        rw [if_neg (own_df0 hc1455), if_pos hc1456] at st1457
        refine gv st1457 ?_
        refine gv (fun _ kQ => XS.iload X1457.here hx rfl (hb hby at_230) rfl (XS.icmpNo X1457.here hx rfl (hb hby at_232) rfl (teq (by decide : (1 : Int32) = (1 : Int32))).2 (XS.iconst X1457.here hx rfl (hb hby at_235) (XS.goto X1457.here hx rfl (pc0 := 236) (pc' := 240) rfl (hb hby at_236) (by decide) (by decide) kQ)))) ?_
        refine gf _ (own_retW X1457 Bd.notSynchronized hS (by rw [eq1457]; exact hk) (v := some (.int 1)) (own_rv Bd.returns) ?_ (by decide) (by decide) (by rw [hh, eq1457]; exact CR.trans (CHv.at X1457 hZ hEL CR.1)) (fun fs hr => retN X1457 hx (t := .boolean) Bd.returns (by simp) (hb hby at_240) hr))
        show Q0 Z p0 p1 p2 cs fmt h0 n0 _ T1457.heap _
        rw [eq1457]
        exact ⟨rfl, N1458⟩
      · refine gv (fun _ kQ => XS.icmpNo X1446.here hx rfl (hb hby at_155) rfl (flt hc1456).1 kQ) ?_
        show G (T1446.setTop (mkF me_ 158 #[.val (.long p0), .second, .val (.long p1), .second, .val (.int p2), .val (.int tl), .val (.int sl), .val (.int c_1424), .val (.int c_1426), .val (.int c_1428), .val (.int c_1430), .val (.int c_1432), .val (.int c_1434), .val (.int c_1436), .val (.int c_1438), .val (.ref s_1440), .val (.ref s_1446), .unset] []))
        refine gv (fun _ kQ => XS.iload X1446.here hx rfl (hb hby at_158) rfl (XS.iload X1446.here hx rfl (hb hby at_160) rfl kQ)) ?_
        obtain ⟨_, _, ⟨T1459, L1459, k1459, n1459⟩, -, X1459, ⟨Lc1459, hQ1459, l1459, y1459, z1459⟩, st1459⟩ := Jvm.LawKit.callS X1446 hx (y := m_2) hown (mvT hZ (t_77 hw)) (mvT hZ (t_78 hw)) (mvT hZ (t_2 hw)) (mvT hZ (t_79 hw)) (by decide) (backOf (W := 0) (rm_fits l Z a0 hw [] c_1424 c_1432 h1446 n0 O1454 ) hZ (t_79 hw) (t_2 hw) (by decide) (by decide)) (g := (mkF me_ 162 #[.val (.long p0), .second, .val (.long p1), .second, .val (.int p2), .val (.int tl), .val (.int sl), .val (.int c_1424), .val (.int c_1426), .val (.int c_1428), .val (.int c_1430), .val (.int c_1432), .val (.int c_1434), .val (.int c_1436), .val (.int c_1438), .val (.ref s_1440), .val (.ref s_1446), .unset] [(.int c_1432), (.int c_1424)])) rfl (by rw [hml]; rfl) (argsL := [(.int c_1424), (.int c_1432)]) (rest := []) (lenOf pd_22 rfl) rfl (by show 2 * 0 + _ ≤ _; exact Nat.le_of_eq rfl) (hb hby at_162) (fun _ _ => ⟨rfl, e1446, (by decide : 12 + 0 ≤ _), (by decide : 40 + 0 ≤ _)⟩)
        dsimp only [Pt.U, Pt.locs, Pt.cells, Pt.slots] at X1459 l1459 y1459 z1459 st1459 hQ1459
        subst l1459 y1459 z1459
        obtain ⟨rfl, Nq1459, eq1459⟩ := hQ1459
        have N1460 := Fr.app N1447 Nq1459
        refine gv st1459 ?_
        by_cases hc1461 : (own_fv c_1424 c_1432) = (0 : Int32)
        · refine gv (fun _ kQ => XS.ifYes X1459.here hx rfl (pc0 := 165) (pc' := 220) rfl (hb hby at_165) rfl ((if0 _ _).trans (teq hc1461).1) (by decide) (by decide) kQ) ?_
          refine gv (fun _ kQ => XS.iconst X1459.here hx rfl (hb hby at_220) (XS.istore X1459.here hx rfl (hb hby at_221) rfl (l' := #[.val (.long p0), .second, .val (.long p1), .second, .val (.int p2), .val (.int tl), .val (.int sl), .val (.int c_1424), .val (.int c_1426), .val (.int c_1428), .val (.int c_1430), .val (.int c_1432), .val (.int c_1434), .val (.int c_1436), .val (.int c_1438), .val (.ref s_1440), .val (.ref s_1446), .val (.int 0)]) rfl (XS.aload X1459.here hx rfl (hb hby at_223) rfl rfl (XS.aload X1459.here hx rfl (hb hby at_225) rfl rfl kQ)))) ?_
          show G (T1459.setTop (mkF me_ 227 #[.val (.long p0), .second, .val (.long p1), .second, .val (.int p2), .val (.int tl), .val (.int sl), .val (.int c_1424), .val (.int c_1426), .val (.int c_1428), .val (.int c_1430), .val (.int c_1432), .val (.int c_1434), .val (.int c_1436), .val (.int c_1438), .val (.ref s_1440), .val (.ref s_1446), .val (.int 0)] [(.ref s_1446), (.ref s_1440)]))
          obtain ⟨_, _, ⟨T1462, L1462, k1462, n1462⟩, -, X1462, ⟨Lc1462, hQ1462, l1462, y1462, z1462⟩, st1462⟩ := Jvm.LawKit.callS X1459 hx (y := m_0) hown (mvT hZ (t_33 hw)) (mvT hZ (t_34 hw)) (mvT hZ (t_35 hw)) (mvT hZ (t_36 hw)) (by decide) (backOf (W := 0) (rm_hs l Z a0 hw [] s_1440 s_1446 tl sl c_1424 c_1426 c_1428 c_1430 c_1432 c_1434 c_1436 c_1438 cs fmt h1446 n0 O1454 u0 u1 u2 u3 u4 u5 u6 f1452 f1453 w1446_1 w1446_2 hj2) hZ (t_36 hw) (t_35 hw) (by decide) (by decide)) (g := (mkF me_ 227 #[.val (.long p0), .second, .val (.long p1), .second, .val (.int p2), .val (.int tl), .val (.int sl), .val (.int c_1424), .val (.int c_1426), .val (.int c_1428), .val (.int c_1430), .val (.int c_1432), .val (.int c_1434), .val (.int c_1436), .val (.int c_1438), .val (.ref s_1440), .val (.ref s_1446), .val (.int 0)] [(.ref s_1446), (.ref s_1440)])) rfl (by rw [hml]; rfl) (argsL := [(.ref s_1440), (.ref s_1446)]) (rest := []) (lenOf pd_21 rfl) rfl (by show 2 * 0 + _ ≤ _; exact Nat.le_of_eq rfl) (hb hby at_227) (fun _ _ => ⟨rfl, eq1459, (by decide : 12 + 0 ≤ _), (by decide : 40 + 0 ≤ _)⟩)
          dsimp only [Pt.U, Pt.locs, Pt.cells, Pt.slots] at X1462 l1462 y1462 z1462 st1462 hQ1462
          subst l1462 y1462 z1462
          obtain ⟨rfl, Nq1462, eq1462⟩ := hQ1462
          have N1463 := Fr.app N1460 Nq1462
          rw [if_neg (own_df0 hc1455), if_neg hc1456, if_pos hc1461] at st1462
          refine gv st1462 ?_
          refine gv (fun _ kQ => XS.iload X1462.here hx rfl (hb hby at_230) rfl (XS.icmpNo X1462.here hx rfl (hb hby at_232) rfl (teq (by decide : (0 : Int32) = (0 : Int32))).2 (XS.iconst X1462.here hx rfl (hb hby at_235) (XS.goto X1462.here hx rfl (pc0 := 236) (pc' := 240) rfl (hb hby at_236) (by decide) (by decide) kQ)))) ?_
          refine gf _ (own_retW X1462 Bd.notSynchronized hS (by rw [eq1462]; exact hk) (v := some (.int 1)) (own_rv Bd.returns) ?_ (by decide) (by decide) (by rw [hh, eq1462]; exact CR.trans (CHv.at X1462 hZ hEL CR.1)) (fun fs hr => retN X1462 hx (t := .boolean) Bd.returns (by simp) (hb hby at_240) hr))
          show Q0 Z p0 p1 p2 cs fmt h0 n0 _ T1462.heap _
          rw [eq1462]
          exact ⟨rfl, N1463⟩
        · refine gv (fun _ kQ => XS.ifNo X1459.here hx rfl (hb hby at_165) rfl ((if0 _ _).trans (feq hc1461).1) kQ) ?_
          show G (T1459.setTop (mkF me_ 168 #[.val (.long p0), .second, .val (.long p1), .second, .val (.int p2), .val (.int tl), .val (.int sl), .val (.int c_1424), .val (.int c_1426), .val (.int c_1428), .val (.int c_1430), .val (.int c_1432), .val (.int c_1434), .val (.int c_1436), .val (.int c_1438), .val (.ref s_1440), .val (.ref s_1446), .unset] []))
          refine gv (fun _ kQ => XS.iload X1459.here hx rfl (hb hby at_168) rfl (XS.iconst X1459.here hx rfl (hb hby at_170) kQ)) ?_
          by_cases hc1464 : sl < (2 : Int32)
          · refine gv (fun _ kQ => XS.icmpYes X1459.here hx rfl (pc0 := 171) (pc' := 184) rfl (hb hby at_171) rfl (tlt hc1464).1 (by decide) (by decide) kQ) ?_
            refine gv (fun _ kQ => XS.iload X1459.here hx rfl (hb hby at_184) rfl (XS.iconst X1459.here hx rfl (hb hby at_186) (XS.icmpYes X1459.here hx rfl (pc0 := 187) (pc' := 200) rfl (hb hby at_187) rfl (tlt (Int32.lt_trans hc1464 (by decide : (2 : Int32) < (3 : Int32)))).1 (by decide) (by decide) (XS.iload X1459.here hx rfl (hb hby at_200) rfl (XS.iconst X1459.here hx rfl (hb hby at_202) (XS.icmpYes X1459.here hx rfl (pc0 := 203) (pc' := 216) rfl (hb hby at_203) rfl (tlt (Int32.lt_trans hc1464 (by decide : (2 : Int32) < (4 : Int32)))).1 (by decide) (by decide) (XS.iconst X1459.here hx rfl (hb hby at_216) (XS.goto X1459.here hx rfl (pc0 := 217) (pc' := 221) rfl (hb hby at_217) (by decide) (by decide) kQ)))))))) ?_
            show G (T1459.setTop (mkF me_ 221 #[.val (.long p0), .second, .val (.long p1), .second, .val (.int p2), .val (.int tl), .val (.int sl), .val (.int c_1424), .val (.int c_1426), .val (.int c_1428), .val (.int c_1430), .val (.int c_1432), .val (.int c_1434), .val (.int c_1436), .val (.int c_1438), .val (.ref s_1440), .val (.ref s_1446), .unset] [(.int 1)]))
            refine gv (fun _ kQ => XS.istore X1459.here hx rfl (hb hby at_221) rfl (l' := #[.val (.long p0), .second, .val (.long p1), .second, .val (.int p2), .val (.int tl), .val (.int sl), .val (.int c_1424), .val (.int c_1426), .val (.int c_1428), .val (.int c_1430), .val (.int c_1432), .val (.int c_1434), .val (.int c_1436), .val (.int c_1438), .val (.ref s_1440), .val (.ref s_1446), .val (.int 1)]) rfl (XS.aload X1459.here hx rfl (hb hby at_223) rfl rfl (XS.aload X1459.here hx rfl (hb hby at_225) rfl rfl kQ))) ?_
            show G (T1459.setTop (mkF me_ 227 #[.val (.long p0), .second, .val (.long p1), .second, .val (.int p2), .val (.int tl), .val (.int sl), .val (.int c_1424), .val (.int c_1426), .val (.int c_1428), .val (.int c_1430), .val (.int c_1432), .val (.int c_1434), .val (.int c_1436), .val (.int c_1438), .val (.ref s_1440), .val (.ref s_1446), .val (.int 1)] [(.ref s_1446), (.ref s_1440)]))
            obtain ⟨_, _, ⟨T1465, L1465, k1465, n1465⟩, -, X1465, ⟨Lc1465, hQ1465, l1465, y1465, z1465⟩, st1465⟩ := Jvm.LawKit.callS X1459 hx (y := m_0) hown (mvT hZ (t_33 hw)) (mvT hZ (t_34 hw)) (mvT hZ (t_35 hw)) (mvT hZ (t_36 hw)) (by decide) (backOf (W := 0) (rm_hs l Z a0 hw [] s_1440 s_1446 tl sl c_1424 c_1426 c_1428 c_1430 c_1432 c_1434 c_1436 c_1438 cs fmt h1446 n0 O1454 u0 u1 u2 u3 u4 u5 u6 f1452 f1453 w1446_1 w1446_2 hj2) hZ (t_36 hw) (t_35 hw) (by decide) (by decide)) (g := (mkF me_ 227 #[.val (.long p0), .second, .val (.long p1), .second, .val (.int p2), .val (.int tl), .val (.int sl), .val (.int c_1424), .val (.int c_1426), .val (.int c_1428), .val (.int c_1430), .val (.int c_1432), .val (.int c_1434), .val (.int c_1436), .val (.int c_1438), .val (.ref s_1440), .val (.ref s_1446), .val (.int 1)] [(.ref s_1446), (.ref s_1440)])) rfl (by rw [hml]; rfl) (argsL := [(.ref s_1440), (.ref s_1446)]) (rest := []) (lenOf pd_21 rfl) rfl (by show 2 * 0 + _ ≤ _; exact Nat.le_of_eq rfl) (hb hby at_227) (fun _ _ => ⟨rfl, eq1459, (by decide : 12 + 0 ≤ _), (by decide : 40 + 0 ≤ _)⟩)
            dsimp only [Pt.U, Pt.locs, Pt.cells, Pt.slots] at X1465 l1465 y1465 z1465 st1465 hQ1465
            subst l1465 y1465 z1465
            obtain ⟨rfl, Nq1465, eq1465⟩ := hQ1465
            have N1466 := Fr.app N1460 Nq1465
            rw [if_neg (own_df0 hc1455), if_neg hc1456, if_neg hc1461, if_pos hc1464] at st1465
            refine gv st1465 ?_
            refine gv (fun _ kQ => XS.iload X1465.here hx rfl (hb hby at_230) rfl (XS.icmpNo X1465.here hx rfl (hb hby at_232) rfl (teq (by decide : (1 : Int32) = (1 : Int32))).2 (XS.iconst X1465.here hx rfl (hb hby at_235) (XS.goto X1465.here hx rfl (pc0 := 236) (pc' := 240) rfl (hb hby at_236) (by decide) (by decide) kQ)))) ?_
            refine gf _ (own_retW X1465 Bd.notSynchronized hS (by rw [eq1465]; exact hk) (v := some (.int 1)) (own_rv Bd.returns) ?_ (by decide) (by decide) (by rw [hh, eq1465]; exact CR.trans (CHv.at X1465 hZ hEL CR.1)) (fun fs hr => retN X1465 hx (t := .boolean) Bd.returns (by simp) (hb hby at_240) hr))
            show Q0 Z p0 p1 p2 cs fmt h0 n0 _ T1465.heap _
            rw [eq1465]
            exact ⟨rfl, N1466⟩
          · refine gv (fun _ kQ => XS.icmpNo X1459.here hx rfl (hb hby at_171) rfl (flt hc1464).1 kQ) ?_
            show G (T1459.setTop (mkF me_ 174 #[.val (.long p0), .second, .val (.long p1), .second, .val (.int p2), .val (.int tl), .val (.int sl), .val (.int c_1424), .val (.int c_1426), .val (.int c_1428), .val (.int c_1430), .val (.int c_1432), .val (.int c_1434), .val (.int c_1436), .val (.int c_1438), .val (.ref s_1440), .val (.ref s_1446), .unset] []))
            refine gv (fun _ kQ => XS.iload X1459.here hx rfl (hb hby at_174) rfl (XS.iload X1459.here hx rfl (hb hby at_176) rfl kQ)) ?_
            obtain ⟨_, _, ⟨T1467, L1467, k1467, n1467⟩, -, X1467, ⟨Lc1467, hQ1467, l1467, y1467, z1467⟩, st1467⟩ := Jvm.LawKit.callS X1459 hx (y := m_2) hown (mvT hZ (t_77 hw)) (mvT hZ (t_78 hw)) (mvT hZ (t_2 hw)) (mvT hZ (t_79 hw)) (by decide) (backOf (W := 0) (rm_fits l Z a0 hw [] c_1426 c_1434 h1446 n0 O1454 ) hZ (t_79 hw) (t_2 hw) (by decide) (by decide)) (g := (mkF me_ 178 #[.val (.long p0), .second, .val (.long p1), .second, .val (.int p2), .val (.int tl), .val (.int sl), .val (.int c_1424), .val (.int c_1426), .val (.int c_1428), .val (.int c_1430), .val (.int c_1432), .val (.int c_1434), .val (.int c_1436), .val (.int c_1438), .val (.ref s_1440), .val (.ref s_1446), .unset] [(.int c_1434), (.int c_1426)])) rfl (by rw [hml]; rfl) (argsL := [(.int c_1426), (.int c_1434)]) (rest := []) (lenOf pd_22 rfl) rfl (by show 2 * 0 + _ ≤ _; exact Nat.le_of_eq rfl) (hb hby at_178) (fun _ _ => ⟨rfl, eq1459, (by decide : 12 + 0 ≤ _), (by decide : 40 + 0 ≤ _)⟩)
            dsimp only [Pt.U, Pt.locs, Pt.cells, Pt.slots] at X1467 l1467 y1467 z1467 st1467 hQ1467
            subst l1467 y1467 z1467
            obtain ⟨rfl, Nq1467, eq1467⟩ := hQ1467
            have N1468 := Fr.app N1460 Nq1467
            refine gv st1467 ?_
            by_cases hc1469 : (own_fv c_1426 c_1434) = (0 : Int32)
            · refine gv (fun _ kQ => XS.ifYes X1467.here hx rfl (pc0 := 181) (pc' := 220) rfl (hb hby at_181) rfl ((if0 _ _).trans (teq hc1469).1) (by decide) (by decide) kQ) ?_
              refine gv (fun _ kQ => XS.iconst X1467.here hx rfl (hb hby at_220) (XS.istore X1467.here hx rfl (hb hby at_221) rfl (l' := #[.val (.long p0), .second, .val (.long p1), .second, .val (.int p2), .val (.int tl), .val (.int sl), .val (.int c_1424), .val (.int c_1426), .val (.int c_1428), .val (.int c_1430), .val (.int c_1432), .val (.int c_1434), .val (.int c_1436), .val (.int c_1438), .val (.ref s_1440), .val (.ref s_1446), .val (.int 0)]) rfl (XS.aload X1467.here hx rfl (hb hby at_223) rfl rfl (XS.aload X1467.here hx rfl (hb hby at_225) rfl rfl kQ)))) ?_
              show G (T1467.setTop (mkF me_ 227 #[.val (.long p0), .second, .val (.long p1), .second, .val (.int p2), .val (.int tl), .val (.int sl), .val (.int c_1424), .val (.int c_1426), .val (.int c_1428), .val (.int c_1430), .val (.int c_1432), .val (.int c_1434), .val (.int c_1436), .val (.int c_1438), .val (.ref s_1440), .val (.ref s_1446), .val (.int 0)] [(.ref s_1446), (.ref s_1440)]))
              obtain ⟨_, _, ⟨T1470, L1470, k1470, n1470⟩, -, X1470, ⟨Lc1470, hQ1470, l1470, y1470, z1470⟩, st1470⟩ := Jvm.LawKit.callS X1467 hx (y := m_0) hown (mvT hZ (t_33 hw)) (mvT hZ (t_34 hw)) (mvT hZ (t_35 hw)) (mvT hZ (t_36 hw)) (by decide) (backOf (W := 0) (rm_hs l Z a0 hw [] s_1440 s_1446 tl sl c_1424 c_1426 c_1428 c_1430 c_1432 c_1434 c_1436 c_1438 cs fmt h1446 n0 O1454 u0 u1 u2 u3 u4 u5 u6 f1452 f1453 w1446_1 w1446_2 hj2) hZ (t_36 hw) (t_35 hw) (by decide) (by decide)) (g := (mkF me_ 227 #[.val (.long p0), .second, .val (.long p1), .second, .val (.int p2), .val (.int tl), .val (.int sl), .val (.int c_1424), .val (.int c_1426), .val (.int c_1428), .val (.int c_1430), .val (.int c_1432), .val (.int c_1434), .val (.int c_1436), .val (.int c_1438), .val (.ref s_1440), .val (.ref s_1446), .val (.int 0)] [(.ref s_1446), (.ref s_1440)])) rfl (by rw [hml]; rfl) (argsL := [(.ref s_1440), (.ref s_1446)]) (rest := []) (lenOf pd_21 rfl) rfl (by show 2 * 0 + _ ≤ _; exact Nat.le_of_eq rfl) (hb hby at_227) (fun _ _ => ⟨rfl, eq1467, (by decide : 12 + 0 ≤ _), (by decide : 40 + 0 ≤ _)⟩)
              dsimp only [Pt.U, Pt.locs, Pt.cells, Pt.slots] at X1470 l1470 y1470 z1470 st1470 hQ1470
              subst l1470 y1470 z1470
              obtain ⟨rfl, Nq1470, eq1470⟩ := hQ1470
              have N1471 := Fr.app N1468 Nq1470
              rw [if_neg (own_df0 hc1455), if_neg hc1456, if_neg hc1461, if_neg hc1464, if_pos hc1469] at st1470
              refine gv st1470 ?_
              refine gv (fun _ kQ => XS.iload X1470.here hx rfl (hb hby at_230) rfl (XS.icmpNo X1470.here hx rfl (hb hby at_232) rfl (teq (by decide : (0 : Int32) = (0 : Int32))).2 (XS.iconst X1470.here hx rfl (hb hby at_235) (XS.goto X1470.here hx rfl (pc0 := 236) (pc' := 240) rfl (hb hby at_236) (by decide) (by decide) kQ)))) ?_
              refine gf _ (own_retW X1470 Bd.notSynchronized hS (by rw [eq1470]; exact hk) (v := some (.int 1)) (own_rv Bd.returns) ?_ (by decide) (by decide) (by rw [hh, eq1470]; exact CR.trans (CHv.at X1470 hZ hEL CR.1)) (fun fs hr => retN X1470 hx (t := .boolean) Bd.returns (by simp) (hb hby at_240) hr))
              show Q0 Z p0 p1 p2 cs fmt h0 n0 _ T1470.heap _
              rw [eq1470]
              exact ⟨rfl, N1471⟩
            · refine gv (fun _ kQ => XS.ifNo X1467.here hx rfl (hb hby at_181) rfl ((if0 _ _).trans (feq hc1469).1) kQ) ?_
              show G (T1467.setTop (mkF me_ 184 #[.val (.long p0), .second, .val (.long p1), .second, .val (.int p2), .val (.int tl), .val (.int sl), .val (.int c_1424), .val (.int c_1426), .val (.int c_1428), .val (.int c_1430), .val (.int c_1432), .val (.int c_1434), .val (.int c_1436), .val (.int c_1438), .val (.ref s_1440), .val (.ref s_1446), .unset] []))
              refine gv (fun _ kQ => XS.iload X1467.here hx rfl (hb hby at_184) rfl (XS.iconst X1467.here hx rfl (hb hby at_186) kQ)) ?_
              by_cases hc1472 : sl < (3 : Int32)
              · refine gv (fun _ kQ => XS.icmpYes X1467.here hx rfl (pc0 := 187) (pc' := 200) rfl (hb hby at_187) rfl (tlt hc1472).1 (by decide) (by decide) kQ) ?_
                refine gv (fun _ kQ => XS.iload X1467.here hx rfl (hb hby at_200) rfl (XS.iconst X1467.here hx rfl (hb hby at_202) (XS.icmpYes X1467.here hx rfl (pc0 := 203) (pc' := 216) rfl (hb hby at_203) rfl (tlt (Int32.lt_trans hc1472 (by decide : (3 : Int32) < (4 : Int32)))).1 (by decide) (by decide) (XS.iconst X1467.here hx rfl (hb hby at_216) (XS.goto X1467.here hx rfl (pc0 := 217) (pc' := 221) rfl (hb hby at_217) (by decide) (by decide) (XS.istore X1467.here hx rfl (hb hby at_221) rfl (l' := #[.val (.long p0), .second, .val (.long p1), .second, .val (.int p2), .val (.int tl), .val (.int sl), .val (.int c_1424), .val (.int c_1426), .val (.int c_1428), .val (.int c_1430), .val (.int c_1432), .val (.int c_1434), .val (.int c_1436), .val (.int c_1438), .val (.ref s_1440), .val (.ref s_1446), .val (.int 1)]) rfl (XS.aload X1467.here hx rfl (hb hby at_223) rfl rfl (XS.aload X1467.here hx rfl (hb hby at_225) rfl rfl kQ)))))))) ?_
                show G (T1467.setTop (mkF me_ 227 #[.val (.long p0), .second, .val (.long p1), .second, .val (.int p2), .val (.int tl), .val (.int sl), .val (.int c_1424), .val (.int c_1426), .val (.int c_1428), .val (.int c_1430), .val (.int c_1432), .val (.int c_1434), .val (.int c_1436), .val (.int c_1438), .val (.ref s_1440), .val (.ref s_1446), .val (.int 1)] [(.ref s_1446), (.ref s_1440)]))
                obtain ⟨_, _, ⟨T1473, L1473, k1473, n1473⟩, -, X1473, ⟨Lc1473, hQ1473, l1473, y1473, z1473⟩, st1473⟩ := Jvm.LawKit.callS X1467 hx (y := m_0) hown (mvT hZ (t_33 hw)) (mvT hZ (t_34 hw)) (mvT hZ (t_35 hw)) (mvT hZ (t_36 hw)) (by decide) (backOf (W := 0) (rm_hs l Z a0 hw [] s_1440 s_1446 tl sl c_1424 c_1426 c_1428 c_1430 c_1432 c_1434 c_1436 c_1438 cs fmt h1446 n0 O1454 u0 u1 u2 u3 u4 u5 u6 f1452 f1453 w1446_1 w1446_2 hj2) hZ (t_36 hw) (t_35 hw) (by decide) (by decide)) (g := (mkF me_ 227 #[.val (.long p0), .second, .val (.long p1), .second, .val (.int p2), .val (.int tl), .val (.int sl), .val (.int c_1424), .val (.int c_1426), .val (.int c_1428), .val (.int c_1430), .val (.int c_1432), .val (.int c_1434), .val (.int c_1436), .val (.int c_1438), .val (.ref s_1440), .val (.ref s_1446), .val (.int 1)] [(.ref s_1446), (.ref s_1440)])) rfl (by rw [hml]; rfl) (argsL := [(.ref s_1440), (.ref s_1446)]) (rest := []) (lenOf pd_21 rfl) rfl (by show 2 * 0 + _ ≤ _; exact Nat.le_of_eq rfl) (hb hby at_227) (fun _ _ => ⟨rfl, eq1467, (by decide : 12 + 0 ≤ _), (by decide : 40 + 0 ≤ _)⟩)
                dsimp only [Pt.U, Pt.locs, Pt.cells, Pt.slots] at X1473 l1473 y1473 z1473 st1473 hQ1473
                subst l1473 y1473 z1473
                obtain ⟨rfl, Nq1473, eq1473⟩ := hQ1473
                have N1474 := Fr.app N1468 Nq1473
                rw [if_neg (own_df0 hc1455), if_neg hc1456, if_neg hc1461, if_neg hc1464, if_neg hc1469, if_pos hc1472] at st1473
                refine gv st1473 ?_
                refine gv (fun _ kQ => XS.iload X1473.here hx rfl (hb hby at_230) rfl (XS.icmpNo X1473.here hx rfl (hb hby at_232) rfl (teq (by decide : (1 : Int32) = (1 : Int32))).2 (XS.iconst X1473.here hx rfl (hb hby at_235) (XS.goto X1473.here hx rfl (pc0 := 236) (pc' := 240) rfl (hb hby at_236) (by decide) (by decide) kQ)))) ?_
                refine gf _ (own_retW X1473 Bd.notSynchronized hS (by rw [eq1473]; exact hk) (v := some (.int 1)) (own_rv Bd.returns) ?_ (by decide) (by decide) (by rw [hh, eq1473]; exact CR.trans (CHv.at X1473 hZ hEL CR.1)) (fun fs hr => retN X1473 hx (t := .boolean) Bd.returns (by simp) (hb hby at_240) hr))
                show Q0 Z p0 p1 p2 cs fmt h0 n0 _ T1473.heap _
                rw [eq1473]
                exact ⟨rfl, N1474⟩
              · refine gv (fun _ kQ => XS.icmpNo X1467.here hx rfl (hb hby at_187) rfl (flt hc1472).1 kQ) ?_
                show G (T1467.setTop (mkF me_ 190 #[.val (.long p0), .second, .val (.long p1), .second, .val (.int p2), .val (.int tl), .val (.int sl), .val (.int c_1424), .val (.int c_1426), .val (.int c_1428), .val (.int c_1430), .val (.int c_1432), .val (.int c_1434), .val (.int c_1436), .val (.int c_1438), .val (.ref s_1440), .val (.ref s_1446), .unset] []))
                refine gv (fun _ kQ => XS.iload X1467.here hx rfl (hb hby at_190) rfl (XS.iload X1467.here hx rfl (hb hby at_192) rfl kQ)) ?_
                obtain ⟨_, _, ⟨T1475, L1475, k1475, n1475⟩, -, X1475, ⟨Lc1475, hQ1475, l1475, y1475, z1475⟩, st1475⟩ := Jvm.LawKit.callS X1467 hx (y := m_2) hown (mvT hZ (t_77 hw)) (mvT hZ (t_78 hw)) (mvT hZ (t_2 hw)) (mvT hZ (t_79 hw)) (by decide) (backOf (W := 0) (rm_fits l Z a0 hw [] c_1428 c_1436 h1446 n0 O1454 ) hZ (t_79 hw) (t_2 hw) (by decide) (by decide)) (g := (mkF me_ 194 #[.val (.long p0), .second, .val (.long p1), .second, .val (.int p2), .val (.int tl), .val (.int sl), .val (.int c_1424), .val (.int c_1426), .val (.int c_1428), .val (.int c_1430), .val (.int c_1432), .val (.int c_1434), .val (.int c_1436), .val (.int c_1438), .val (.ref s_1440), .val (.ref s_1446), .unset] [(.int c_1436), (.int c_1428)])) rfl (by rw [hml]; rfl) (argsL := [(.int c_1428), (.int c_1436)]) (rest := []) (lenOf pd_22 rfl) rfl (by show 2 * 0 + _ ≤ _; exact Nat.le_of_eq rfl) (hb hby at_194) (fun _ _ => ⟨rfl, eq1467, (by decide : 12 + 0 ≤ _), (by decide : 40 + 0 ≤ _)⟩)
                dsimp only [Pt.U, Pt.locs, Pt.cells, Pt.slots] at X1475 l1475 y1475 z1475 st1475 hQ1475
                subst l1475 y1475 z1475
                obtain ⟨rfl, Nq1475, eq1475⟩ := hQ1475
                have N1476 := Fr.app N1468 Nq1475
                refine gv st1475 ?_
                by_cases hc1477 : (own_fv c_1428 c_1436) = (0 : Int32)
                · refine gv (fun _ kQ => XS.ifYes X1475.here hx rfl (pc0 := 197) (pc' := 220) rfl (hb hby at_197) rfl ((if0 _ _).trans (teq hc1477).1) (by decide) (by decide) kQ) ?_
                  refine gv (fun _ kQ => XS.iconst X1475.here hx rfl (hb hby at_220) (XS.istore X1475.here hx rfl (hb hby at_221) rfl (l' := #[.val (.long p0), .second, .val (.long p1), .second, .val (.int p2), .val (.int tl), .val (.int sl), .val (.int c_1424), .val (.int c_1426), .val (.int c_1428), .val (.int c_1430), .val (.int c_1432), .val (.int c_1434), .val (.int c_1436), .val (.int c_1438), .val (.ref s_1440), .val (.ref s_1446), .val (.int 0)]) rfl (XS.aload X1475.here hx rfl (hb hby at_223) rfl rfl (XS.aload X1475.here hx rfl (hb hby at_225) rfl rfl kQ)))) ?_
                  show G (T1475.setTop (mkF me_ 227 #[.val (.long p0), .second, .val (.long p1), .second, .val (.int p2), .val (.int tl), .val (.int sl), .val (.int c_1424), .val (.int c_1426), .val (.int c_1428), .val (.int c_1430), .val (.int c_1432), .val (.int c_1434), .val (.int c_1436), .val (.int c_1438), .val (.ref s_1440), .val (.ref s_1446), .val (.int 0)] [(.ref s_1446), (.ref s_1440)]))
                  obtain ⟨_, _, ⟨T1478, L1478, k1478, n1478⟩, -, X1478, ⟨Lc1478, hQ1478, l1478, y1478, z1478⟩, st1478⟩ := Jvm.LawKit.callS X1475 hx (y := m_0) hown (mvT hZ (t_33 hw)) (mvT hZ (t_34 hw)) (mvT hZ (t_35 hw)) (mvT hZ (t_36 hw)) (by decide) (backOf (W := 0) (rm_hs l Z a0 hw [] s_1440 s_1446 tl sl c_1424 c_1426 c_1428 c_1430 c_1432 c_1434 c_1436 c_1438 cs fmt h1446 n0 O1454 u0 u1 u2 u3 u4 u5 u6 f1452 f1453 w1446_1 w1446_2 hj2) hZ (t_36 hw) (t_35 hw) (by decide) (by decide)) (g := (mkF me_ 227 #[.val (.long p0), .second, .val (.long p1), .second, .val (.int p2), .val (.int tl), .val (.int sl), .val (.int c_1424), .val (.int c_1426), .val (.int c_1428), .val (.int c_1430), .val (.int c_1432), .val (.int c_1434), .val (.int c_1436), .val (.int c_1438), .val (.ref s_1440), .val (.ref s_1446), .val (.int 0)] [(.ref s_1446), (.ref s_1440)])) rfl (by rw [hml]; rfl) (argsL := [(.ref s_1440), (.ref s_1446)]) (rest := []) (lenOf pd_21 rfl) rfl (by show 2 * 0 + _ ≤ _; exact Nat.le_of_eq rfl) (hb hby at_227) (fun _ _ => ⟨rfl, eq1475, (by decide : 12 + 0 ≤ _), (by decide : 40 + 0 ≤ _)⟩)
                  dsimp only [Pt.U, Pt.locs, Pt.cells, Pt.slots] at X1478 l1478 y1478 z1478 st1478 hQ1478
                  subst l1478 y1478 z1478
                  obtain ⟨rfl, Nq1478, eq1478⟩ := hQ1478
                  have N1479 := Fr.app N1476 Nq1478
                  rw [if_neg (own_df0 hc1455), if_neg hc1456, if_neg hc1461, if_neg hc1464, if_neg hc1469, if_neg hc1472, if_pos hc1477] at st1478
                  refine gv st1478 ?_
                  refine gv (fun _ kQ => XS.iload X1478.here hx rfl (hb hby at_230) rfl (XS.icmpNo X1478.here hx rfl (hb hby at_232) rfl (teq (by decide : (0 : Int32) = (0 : Int32))).2 (XS.iconst X1478.here hx rfl (hb hby at_235) (XS.goto X1478.here hx rfl (pc0 := 236) (pc' := 240) rfl (hb hby at_236) (by decide) (by decide) kQ)))) ?_
                  refine gf _ (own_retW X1478 Bd.notSynchronized hS (by rw [eq1478]; exact hk) (v := some (.int 1)) (own_rv Bd.returns) ?_ (by decide) (by decide) (by rw [hh, eq1478]; exact CR.trans (CHv.at X1478 hZ hEL CR.1)) (fun fs hr => retN X1478 hx (t := .boolean) Bd.returns (by simp) (hb hby at_240) hr))
                  show Q0 Z p0 p1 p2 cs fmt h0 n0 _ T1478.heap _
                  rw [eq1478]
                  exact ⟨rfl, N1479⟩
                · refine gv (fun _ kQ => XS.ifNo X1475.here hx rfl (hb hby at_197) rfl ((if0 _ _).trans (feq hc1477).1) kQ) ?_
                  show G (T1475.setTop (mkF me_ 200 #[.val (.long p0), .second, .val (.long p1), .second, .val (.int p2), .val (.int tl), .val (.int sl), .val (.int c_1424), .val (.int c_1426), .val (.int c_1428), .val (.int c_1430), .val (.int c_1432), .val (.int c_1434), .val (.int c_1436), .val (.int c_1438), .val (.ref s_1440), .val (.ref s_1446), .unset] []))
                  refine gv (fun _ kQ => XS.iload X1475.here hx rfl (hb hby at_200) rfl (XS.iconst X1475.here hx rfl (hb hby at_202) kQ)) ?_
                  by_cases hc1480 : sl < (4 : Int32)
                  · refine gv (fun _ kQ => XS.icmpYes X1475.here hx rfl (pc0 := 203) (pc' := 216) rfl (hb hby at_203) rfl (tlt hc1480).1 (by decide) (by decide) kQ) ?_
                    refine gv (fun _ kQ => XS.iconst X1475.here hx rfl (hb hby at_216) (XS.goto X1475.here hx rfl (pc0 := 217) (pc' := 221) rfl (hb hby at_217) (by decide) (by decide) (XS.istore X1475.here hx rfl (hb hby at_221) rfl (l' := #[.val (.long p0), .second, .val (.long p1), .second, .val (.int p2), .val (.int tl), .val (.int sl), .val (.int c_1424), .val (.int c_1426), .val (.int c_1428), .val (.int c_1430), .val (.int c_1432), .val (.int c_1434), .val (.int c_1436), .val (.int c_1438), .val (.ref s_1440), .val (.ref s_1446), .val (.int 1)]) rfl (XS.aload X1475.here hx rfl (hb hby at_223) rfl rfl (XS.aload X1475.here hx rfl (hb hby at_225) rfl rfl kQ))))) ?_
                    show G (T1475.setTop (mkF me_ 227 #[.val (.long p0), .second, .val (.long p1), .second, .val (.int p2), .val (.int tl), .val (.int sl), .val (.int c_1424), .val (.int c_1426), .val (.int c_1428), .val (.int c_1430), .val (.int c_1432), .val (.int c_1434), .val (.int c_1436), .val (.int c_1438), .val (.ref s_1440), .val (.ref s_1446), .val (.int 1)] [(.ref s_1446), (.ref s_1440)]))
                    obtain ⟨_, _, ⟨T1481, L1481, k1481, n1481⟩, -, X1481, ⟨Lc1481, hQ1481, l1481, y1481, z1481⟩, st1481⟩ := Jvm.LawKit.callS X1475 hx (y := m_0) hown (mvT hZ (t_33 hw)) (mvT hZ (t_34 hw)) (mvT hZ (t_35 hw)) (mvT hZ (t_36 hw)) (by decide) (backOf (W := 0) (rm_hs l Z a0 hw [] s_1440 s_1446 tl sl c_1424 c_1426 c_1428 c_1430 c_1432 c_1434 c_1436 c_1438 cs fmt h1446 n0 O1454 u0 u1 u2 u3 u4 u5 u6 f1452 f1453 w1446_1 w1446_2 hj2) hZ (t_36 hw) (t_35 hw) (by decide) (by decide)) (g := (mkF me_ 227 #[.val (.long p0), .second, .val (.long p1), .second, .val (.int p2), .val (.int tl), .val (.int sl), .val (.int c_1424), .val (.int c_1426), .val (.int c_1428), .val (.int c_1430), .val (.int c_1432), .val (.int c_1434), .val (.int c_1436), .val (.int c_1438), .val (.ref s_1440), .val (.ref s_1446), .val (.int 1)] [(.ref s_1446), (.ref s_1440)])) rfl (by rw [hml]; rfl) (argsL := [(.ref s_1440), (.ref s_1446)]) (rest := []) (lenOf pd_21 rfl) rfl (by show 2 * 0 + _ ≤ _; exact Nat.le_of_eq rfl) (hb hby at_227) (fun _ _ => ⟨rfl, eq1475, (by decide : 12 + 0 ≤ _), (by decide : 40 + 0 ≤ _)⟩)
                    dsimp only [Pt.U, Pt.locs, Pt.cells, Pt.slots] at X1481 l1481 y1481 z1481 st1481 hQ1481
                    subst l1481 y1481 z1481
                    obtain ⟨rfl, Nq1481, eq1481⟩ := hQ1481
                    have N1482 := Fr.app N1476 Nq1481
                    rw [if_neg (own_df0 hc1455), if_neg hc1456, if_neg hc1461, if_neg hc1464, if_neg hc1469, if_neg hc1472, if_neg hc1477, if_pos hc1480] at st1481
                    refine gv st1481 ?_
                    refine gv (fun _ kQ => XS.iload X1481.here hx rfl (hb hby at_230) rfl (XS.icmpNo X1481.here hx rfl (hb hby at_232) rfl (teq (by decide : (1 : Int32) = (1 : Int32))).2 (XS.iconst X1481.here hx rfl (hb hby at_235) (XS.goto X1481.here hx rfl (pc0 := 236) (pc' := 240) rfl (hb hby at_236) (by decide) (by decide) kQ)))) ?_
                    refine gf _ (own_retW X1481 Bd.notSynchronized hS (by rw [eq1481]; exact hk) (v := some (.int 1)) (own_rv Bd.returns) ?_ (by decide) (by decide) (by rw [hh, eq1481]; exact CR.trans (CHv.at X1481 hZ hEL CR.1)) (fun fs hr => retN X1481 hx (t := .boolean) Bd.returns (by simp) (hb hby at_240) hr))
                    show Q0 Z p0 p1 p2 cs fmt h0 n0 _ T1481.heap _
                    rw [eq1481]
                    exact ⟨rfl, N1482⟩
                  · refine gv (fun _ kQ => XS.icmpNo X1475.here hx rfl (hb hby at_203) rfl (flt hc1480).1 kQ) ?_
                    show G (T1475.setTop (mkF me_ 206 #[.val (.long p0), .second, .val (.long p1), .second, .val (.int p2), .val (.int tl), .val (.int sl), .val (.int c_1424), .val (.int c_1426), .val (.int c_1428), .val (.int c_1430), .val (.int c_1432), .val (.int c_1434), .val (.int c_1436), .val (.int c_1438), .val (.ref s_1440), .val (.ref s_1446), .unset] []))
                    refine gv (fun _ kQ => XS.iload X1475.here hx rfl (hb hby at_206) rfl (XS.iload X1475.here hx rfl (hb hby at_208) rfl kQ)) ?_
                    obtain ⟨_, _, ⟨T1483, L1483, k1483, n1483⟩, -, X1483, ⟨Lc1483, hQ1483, l1483, y1483, z1483⟩, st1483⟩ := Jvm.LawKit.callS X1475 hx (y := m_2) hown (mvT hZ (t_77 hw)) (mvT hZ (t_78 hw)) (mvT hZ (t_2 hw)) (mvT hZ (t_79 hw)) (by decide) (backOf (W := 0) (rm_fits l Z a0 hw [] c_1430 c_1438 h1446 n0 O1454 ) hZ (t_79 hw) (t_2 hw) (by decide) (by decide)) (g := (mkF me_ 210 #[.val (.long p0), .second, .val (.long p1), .second, .val (.int p2), .val (.int tl), .val (.int sl), .val (.int c_1424), .val (.int c_1426), .val (.int c_1428), .val (.int c_1430), .val (.int c_1432), .val (.int c_1434), .val (.int c_1436), .val (.int c_1438), .val (.ref s_1440), .val (.ref s_1446), .unset] [(.int c_1438), (.int c_1430)])) rfl (by rw [hml]; rfl) (argsL := [(.int c_1430), (.int c_1438)]) (rest := []) (lenOf pd_22 rfl) rfl (by show 2 * 0 + _ ≤ _; exact Nat.le_of_eq rfl) (hb hby at_210) (fun _ _ => ⟨rfl, eq1475, (by decide : 12 + 0 ≤ _), (by decide : 40 + 0 ≤ _)⟩)
                    dsimp only [Pt.U, Pt.locs, Pt.cells, Pt.slots] at X1483 l1483 y1483 z1483 st1483 hQ1483
                    subst l1483 y1483 z1483
                    obtain ⟨rfl, Nq1483, eq1483⟩ := hQ1483
                    have N1484 := Fr.app N1476 Nq1483
                    refine gv st1483 ?_
                    by_cases hc1485 : (own_fv c_1430 c_1438) = (0 : Int32)
                    · refine gv (fun _ kQ => XS.ifYes X1483.here hx rfl (pc0 := 213) (pc' := 220) rfl (hb hby at_213) rfl ((if0 _ _).trans (teq hc1485).1) (by decide) (by decide) kQ) ?_
                      refine gv (fun _ kQ => XS.iconst X1483.here hx rfl (hb hby at_220) (XS.istore X1483.here hx rfl (hb hby at_221) rfl (l' := #[.val (.long p0), .second, .val (.long p1), .second, .val (.int p2), .val (.int tl), .val (.int sl), .val (.int c_1424), .val (.int c_1426), .val (.int c_1428), .val (.int c_1430), .val (.int c_1432), .val (.int c_1434), .val (.int c_1436), .val (.int c_1438), .val (.ref s_1440), .val (.ref s_1446), .val (.int 0)]) rfl (XS.aload X1483.here hx rfl (hb hby at_223) rfl rfl (XS.aload X1483.here hx rfl (hb hby at_225) rfl rfl kQ)))) ?_
                      show G (T1483.setTop (mkF me_ 227 #[.val (.long p0), .second, .val (.long p1), .second, .val (.int p2), .val (.int tl), .val (.int sl), .val (.int c_1424), .val (.int c_1426), .val (.int c_1428), .val (.int c_1430), .val (.int c_1432), .val (.int c_1434), .val (.int c_1436), .val (.int c_1438), .val (.ref s_1440), .val (.ref s_1446), .val (.int 0)] [(.ref s_1446), (.ref s_1440)]))
                      obtain ⟨_, _, ⟨T1486, L1486, k1486, n1486⟩, -, X1486, ⟨Lc1486, hQ1486, l1486, y1486, z1486⟩, st1486⟩ := Jvm.LawKit.callS X1483 hx (y := m_0) hown (mvT hZ (t_33 hw)) (mvT hZ (t_34 hw)) (mvT hZ (t_35 hw)) (mvT hZ (t_36 hw)) (by decide) (backOf (W := 0) (rm_hs l Z a0 hw [] s_1440 s_1446 tl sl c_1424 c_1426 c_1428 c_1430 c_1432 c_1434 c_1436 c_1438 cs fmt h1446 n0 O1454 u0 u1 u2 u3 u4 u5 u6 f1452 f1453 w1446_1 w1446_2 hj2) hZ (t_36 hw) (t_35 hw) (by decide) (by decide)) (g := (mkF me_ 227 #[.val (.long p0), .second, .val (.long p1), .second, .val (.int p2), .val (.int tl), .val (.int sl), .val (.int c_1424), .val (.int c_1426), .val (.int c_1428), .val (.int c_1430), .val (.int c_1432), .val (.int c_1434), .val (.int c_1436), .val (.int c_1438), .val (.ref s_1440), .val (.ref s_1446), .val (.int 0)] [(.ref s_1446), (.ref s_1440)])) rfl (by rw [hml]; rfl) (argsL := [(.ref s_1440), (.ref s_1446)]) (rest := []) (lenOf pd_21 rfl) rfl (by show 2 * 0 + _ ≤ _; exact Nat.le_of_eq rfl) (hb hby at_227) (fun _ _ => ⟨rfl, eq1483, (by decide : 12 + 0 ≤ _), (by decide : 40 + 0 ≤ _)⟩)
                      dsimp only [Pt.U, Pt.locs, Pt.cells, Pt.slots] at X1486 l1486 y1486 z1486 st1486 hQ1486
                      subst l1486 y1486 z1486
                      obtain ⟨rfl, Nq1486, eq1486⟩ := hQ1486
                      have N1487 := Fr.app N1484 Nq1486
                      rw [if_neg (own_df0 hc1455), if_neg hc1456, if_neg hc1461, if_neg hc1464, if_neg hc1469, if_neg hc1472, if_neg hc1477, if_neg hc1480, if_pos hc1485] at st1486
                      refine gv st1486 ?_
                      refine gv (fun _ kQ => XS.iload X1486.here hx rfl (hb hby at_230) rfl (XS.icmpNo X1486.here hx rfl (hb hby at_232) rfl (teq (by decide : (0 : Int32) = (0 : Int32))).2 (XS.iconst X1486.here hx rfl (hb hby at_235) (XS.goto X1486.here hx rfl (pc0 := 236) (pc' := 240) rfl (hb hby at_236) (by decide) (by decide) kQ)))) ?_
                      refine gf _ (own_retW X1486 Bd.notSynchronized hS (by rw [eq1486]; exact hk) (v := some (.int 1)) (own_rv Bd.returns) ?_ (by decide) (by decide) (by rw [hh, eq1486]; exact CR.trans (CHv.at X1486 hZ hEL CR.1)) (fun fs hr => retN X1486 hx (t := .boolean) Bd.returns (by simp) (hb hby at_240) hr))
                      show Q0 Z p0 p1 p2 cs fmt h0 n0 _ T1486.heap _
                      rw [eq1486]
                      exact ⟨rfl, N1487⟩
                    · refine gv (fun _ kQ => XS.ifNo X1483.here hx rfl (hb hby at_213) rfl ((if0 _ _).trans (feq hc1485).1) kQ) ?_
                      show G (T1483.setTop (mkF me_ 216 #[.val (.long p0), .second, .val (.long p1), .second, .val (.int p2), .val (.int tl), .val (.int sl), .val (.int c_1424), .val (.int c_1426), .val (.int c_1428), .val (.int c_1430), .val (.int c_1432), .val (.int c_1434), .val (.int c_1436), .val (.int c_1438), .val (.ref s_1440), .val (.ref s_1446), .unset] []))
                      refine gv (fun _ kQ => XS.iconst X1483.here hx rfl (hb hby at_216) (XS.goto X1483.here hx rfl (pc0 := 217) (pc' := 221) rfl (hb hby at_217) (by decide) (by decide) (XS.istore X1483.here hx rfl (hb hby at_221) rfl (l' := #[.val (.long p0), .second, .val (.long p1), .second, .val (.int p2), .val (.int tl), .val (.int sl), .val (.int c_1424), .val (.int c_1426), .val (.int c_1428), .val (.int c_1430), .val (.int c_1432), .val (.int c_1434), .val (.int c_1436), .val (.int c_1438), .val (.ref s_1440), .val (.ref s_1446), .val (.int 1)]) rfl (XS.aload X1483.here hx rfl (hb hby at_223) rfl rfl (XS.aload X1483.here hx rfl (hb hby at_225) rfl rfl kQ))))) ?_
                      show G (T1483.setTop (mkF me_ 227 #[.val (.long p0), .second, .val (.long p1), .second, .val (.int p2), .val (.int tl), .val (.int sl), .val (.int c_1424), .val (.int c_1426), .val (.int c_1428), .val (.int c_1430), .val (.int c_1432), .val (.int c_1434), .val (.int c_1436), .val (.int c_1438), .val (.ref s_1440), .val (.ref s_1446), .val (.int 1)] [(.ref s_1446), (.ref s_1440)]))
                      obtain ⟨_, _, ⟨T1488, L1488, k1488, n1488⟩, -, X1488, ⟨Lc1488, hQ1488, l1488, y1488, z1488⟩, st1488⟩ := Jvm.LawKit.callS X1483 hx (y := m_0) hown (mvT hZ (t_33 hw)) (mvT hZ (t_34 hw)) (mvT hZ (t_35 hw)) (mvT hZ (t_36 hw)) (by decide) (backOf (W := 0) (rm_hs l Z a0 hw [] s_1440 s_1446 tl sl c_1424 c_1426 c_1428 c_1430 c_1432 c_1434 c_1436 c_1438 cs fmt h1446 n0 O1454 u0 u1 u2 u3 u4 u5 u6 f1452 f1453 w1446_1 w1446_2 hj2) hZ (t_36 hw) (t_35 hw) (by decide) (by decide)) (g := (mkF me_ 227 #[.val (.long p0), .second, .val (.long p1), .second, .val (.int p2), .val (.int tl), .val (.int sl), .val (.int c_1424), .val (.int c_1426), .val (.int c_1428), .val (.int c_1430), .val (.int c_1432), .val (.int c_1434), .val (.int c_1436), .val (.int c_1438), .val (.ref s_1440), .val (.ref s_1446), .val (.int 1)] [(.ref s_1446), (.ref s_1440)])) rfl (by rw [hml]; rfl) (argsL := [(.ref s_1440), (.ref s_1446)]) (rest := []) (lenOf pd_21 rfl) rfl (by show 2 * 0 + _ ≤ _; exact Nat.le_of_eq rfl) (hb hby at_227) (fun _ _ => ⟨rfl, eq1483, (by decide : 12 + 0 ≤ _), (by decide : 40 + 0 ≤ _)⟩)
                      dsimp only [Pt.U, Pt.locs, Pt.cells, Pt.slots] at X1488 l1488 y1488 z1488 st1488 hQ1488
                      subst l1488 y1488 z1488
                      obtain ⟨rfl, Nq1488, eq1488⟩ := hQ1488
                      have N1489 := Fr.app N1484 Nq1488
                      rw [if_neg (own_df0 hc1455), if_neg hc1456, if_neg hc1461, if_neg hc1464, if_neg hc1469, if_neg hc1472, if_neg hc1477, if_neg hc1480, if_neg hc1485] at st1488
                      refine gv st1488 ?_
                      refine gv (fun _ kQ => XS.iload X1488.here hx rfl (hb hby at_230) rfl (XS.icmpNo X1488.here hx rfl (hb hby at_232) rfl (teq (by decide : (1 : Int32) = (1 : Int32))).2 (XS.iconst X1488.here hx rfl (hb hby at_235) (XS.goto X1488.here hx rfl (pc0 := 236) (pc' := 240) rfl (hb hby at_236) (by decide) (by decide) kQ)))) ?_
                      refine gf _ (own_retW X1488 Bd.notSynchronized hS (by rw [eq1488]; exact hk) (v := some (.int 1)) (own_rv Bd.returns) ?_ (by decide) (by decide) (by rw [hh, eq1488]; exact CR.trans (CHv.at X1488 hZ hEL CR.1)) (fun fs hr => retN X1488 hx (t := .boolean) Bd.returns (by simp) (hb hby at_240) hr))
                      show Q0 Z p0 p1 p2 cs fmt h0 n0 _ T1488.heap _
                      rw [eq1488]
                      exact ⟨rfl, N1489⟩
    · refine gv (fun _ kQ => XS.icmpYes X1446.here hx rfl (pc0 := 149) (pc' := 220) rfl (hb hby at_149) rfl (feq hc1455).2 (by decide) (by decide) kQ) ?_
      show G (T1446.setTop (mkF me_ 220 #[.val (.long p0), .second, .val (.long p1), .second, .val (.int p2), .val (.int tl), .val (.int sl), .val (.int c_1424), .val (.int c_1426), .val (.int c_1428), .val (.int c_1430), .val (.int c_1432), .val (.int c_1434), .val (.int c_1436), .val (.int c_1438), .val (.ref s_1440), .val (.ref s_1446), .unset] []))
      refine gv (fun _ kQ => XS.iconst X1446.here hx rfl (hb hby at_220) (XS.istore X1446.here hx rfl (hb hby at_221) rfl (l' := #[.val (.long p0), .second, .val (.long p1), .second, .val (.int p2), .val (.int tl), .val (.int sl), .val (.int c_1424), .val (.int c_1426), .val (.int c_1428), .val (.int c_1430), .val (.int c_1432), .val (.int c_1434), .val (.int c_1436), .val (.int c_1438), .val (.ref s_1440), .val (.ref s_1446), .val (.int 0)]) rfl (XS.aload X1446.here hx rfl (hb hby at_223) rfl rfl (XS.aload X1446.here hx rfl (hb hby at_225) rfl rfl kQ)))) ?_
      show G (T1446.setTop (mkF me_ 227 #[.val (.long p0), .second, .val (.long p1), .second, .val (.int p2), .val (.int tl), .val (.int sl), .val (.int c_1424), .val (.int c_1426), .val (.int c_1428), .val (.int c_1430), .val (.int c_1432), .val (.int c_1434), .val (.int c_1436), .val (.int c_1438), .val (.ref s_1440), .val (.ref s_1446), .val (.int 0)] [(.ref s_1446), (.ref s_1440)]))
      obtain ⟨_, _, ⟨T1490, L1490, k1490, n1490⟩, -, X1490, ⟨Lc1490, hQ1490, l1490, y1490, z1490⟩, st1490⟩ := Jvm.LawKit.callS X1446 hx (y := m_0) hown (mvT hZ (t_33 hw)) (mvT hZ (t_34 hw)) (mvT hZ (t_35 hw)) (mvT hZ (t_36 hw)) (by decide) (backOf (W := 0) (rm_hs l Z a0 hw [] s_1440 s_1446 tl sl c_1424 c_1426 c_1428 c_1430 c_1432 c_1434 c_1436 c_1438 cs fmt h1446 n0 O1454 u0 u1 u2 u3 u4 u5 u6 f1452 f1453 w1446_1 w1446_2 hj2) hZ (t_36 hw) (t_35 hw) (by decide) (by decide)) (g := (mkF me_ 227 #[.val (.long p0), .second, .val (.long p1), .second, .val (.int p2), .val (.int tl), .val (.int sl), .val (.int c_1424), .val (.int c_1426), .val (.int c_1428), .val (.int c_1430), .val (.int c_1432), .val (.int c_1434), .val (.int c_1436), .val (.int c_1438), .val (.ref s_1440), .val (.ref s_1446), .val (.int 0)] [(.ref s_1446), (.ref s_1440)])) rfl (by rw [hml]; rfl) (argsL := [(.ref s_1440), (.ref s_1446)]) (rest := []) (lenOf pd_21 rfl) rfl (by show 2 * 0 + _ ≤ _; exact Nat.le_of_eq rfl) (hb hby at_227) (fun _ _ => ⟨rfl, e1446, (by decide : 12 + 0 ≤ _), (by decide : 40 + 0 ≤ _)⟩)
      dsimp only [Pt.U, Pt.locs, Pt.cells, Pt.slots] at X1490 l1490 y1490 z1490 st1490 hQ1490
      subst l1490 y1490 z1490
      obtain ⟨rfl, Nq1490, eq1490⟩ := hQ1490
      have N1491 := Fr.app N1447 Nq1490
      rw [if_pos (own_df1 hc1455)] at st1490
      refine gv st1490 ?_
      refine gv (fun _ kQ => XS.iload X1490.here hx rfl (hb hby at_230) rfl (XS.icmpNo X1490.here hx rfl (hb hby at_232) rfl (teq (by decide : (0 : Int32) = (0 : Int32))).2 (XS.iconst X1490.here hx rfl (hb hby at_235) (XS.goto X1490.here hx rfl (pc0 := 236) (pc' := 240) rfl (hb hby at_236) (by decide) (by decide) kQ)))) ?_
      refine gf _ (own_retW X1490 Bd.notSynchronized hS (by rw [eq1490]; exact hk) (v := some (.int 1)) (own_rv Bd.returns) ?_ (by decide) (by decide) (by rw [hh, eq1490]; exact CR.trans (CHv.at X1490 hZ hEL CR.1)) (fun fs hr => retN X1490 hx (t := .boolean) Bd.returns (by simp) (hb hby at_240) hr))
      show Q0 Z p0 p1 p2 cs fmt h0 n0 _ T1490.heap _
      rw [eq1490]
      exact ⟨rfl, N1491⟩
  by_cases hc1492 : (((p2.toUInt32 >>> ((6 : Int32) &&& 31).toUInt32).toInt32) &&& (1 : Int32)) = (0 : Int32)
  · refine gv (fun _ kQ => XS.ifYes X0.here hx rfl (pc0 := 16) (pc' := 24) rfl (hb hby at_16) rfl ((if0 _ _).trans (teq hc1492).1) (by decide) (by decide) kQ) ?_
    show G (s₁.setTop (mkF me_ 24 #[.val (.long p0), .second, .val (.long p1), .second, .val (.int p2), .val (.int ((p2 &&& (7 : Int32)) % (5 : Int32))), .unset, .unset, .unset, .unset, .unset, .unset, .unset, .unset, .unset, .unset, .unset, .unset] []))
    refine gv (fun _ kQ => XS.iload X0.here hx rfl (hb hby at_24) rfl (XS.iconst X0.here hx rfl (hb hby at_26) (XS.iushr X0.here hx rfl (hb hby at_27) rfl (XS.bipush X0.here hx rfl (hb hby at_28) (XS.iand X0.here hx rfl (hb hby at_30) rfl (XS.iconst X0.here hx rfl (hb hby at_31) (iremM X0 hx rfl (hb hby at_32) rfl (by decide) kQ))))))) ?_
    show G (s₁.setTop (mkF me_ 33 #[.val (.long p0), .second, .val (.long p1), .second, .val (.int p2), .val (.int ((p2 &&& (7 : Int32)) % (5 : Int32))), .unset, .unset, .unset, .unset, .unset, .unset, .unset, .unset, .unset, .unset, .unset, .unset] [(.int ((((p2.toUInt32 >>> ((3 : Int32) &&& 31).toUInt32).toInt32) &&& (7 : Int32)) % (5 : Int32)))]))
    exact J33 _ _ (own_t5 p2) (own_t5 ((p2.toUInt32 >>> ((3 : Int32) &&& 31).toUInt32).toInt32))
  · refine gv (fun _ kQ => XS.ifNo X0.here hx rfl (hb hby at_16) rfl ((if0 _ _).trans (feq hc1492).1) kQ) ?_
    refine gv (fun _ kQ => XS.iload X0.here hx rfl (hb hby at_19) rfl (XS.goto X0.here hx rfl (pc0 := 21) (pc' := 33) rfl (hb hby at_21) (by decide) (by decide) kQ)) ?_
    exact J33 _ _ (own_t5 p2) (own_t5 p2)
theorem comes_1 {Post : Tables → Env → Array Value → State → Outcome → State → Prop} (hpost : ∀ tb e args s v u, (limb_1_1.after args s (.returned v) u = true ∧ limb_1_2.after args s (.returned v) u = true ∧ True) → ReturnedEndW s (.returned v) u (Jvm.fieldLocs frame_1_writes args s ++ Jvm.arrayLocs frame_1_arrays args s ++ Jvm.staticLocs frame_1_statics s) 32 1216 → Post tb e args s (.returned v) u) :
    ArmFor flags0 classFile x code maxLocals ret World_1 tables_1 room_1 Calls_1 rest_1 Pre_1 Post := by
  intro l hfl _ _ p e ha hc hk s m args below hf hA hF happ hP
  obtain ⟨hcalls, hrest, hpre⟩ := hP
  obtain ⟨-, -, -, hnamed, -, -, -, hat⟩ := (Spec.applies_iff hf).mp happ
  obtain ⟨hg, hn⟩ := and_e (Cond.before_iff.mp (show (Jvm.Cond.and given_1 narrow_1).before args s = true from hpre))
  obtain ⟨g1, g2⟩ := and_e hg
  obtain ⟨g3, g4⟩ := and_e g2
  obtain ⟨g5, g6⟩ := and_e g4
  obtain ⟨w0, w1, w2, rfl⟩ : ∃ w0 w1 w2 : Value, args = #[w0, w1, w2] := by
    have hs : args.size = 3 := by simpa [Cond.value, given_1] using g1
    obtain ⟨L⟩ := args
    match L, hs with
    | [w0, w1, w2], _ => exact ⟨w0, w1, w2, rfl⟩
  have hw := fun d (hd : d ∈ tables_1) => atoms_spec (ws := Jvm.Cond.code x code maxLocals ret :: tables_1) hat d (List.mem_cons_of_mem _ hd)
  have hfit : Fit s := fun {y c} hc i hi => by
    obtain ⟨ha, rfl⟩ := Array.getElem?_eq_some_iff.mp hc
    have q := List.all_eq_true.mp ((Array.all_eq_true_iff_forall_mem.mp hF) _ (Array.getElem_mem ha)) i (List.mem_range.mpr hi)
    simpa [Array.getElem?_eq_getElem hi] using q
  obtain ⟨hsets, hown0⟩ := atoms_of _ (rest_1_c_eq ▸ (show rest_1_c.before _ s = true from hrest))
  obtain ⟨i0, ei0⟩ := isL_v g3
  obtain rfl : w0 = (.long i0) := Option.some.inj ei0
  obtain ⟨i1, ei1⟩ := isL_v g5
  obtain rfl : w1 = (.long i1) := Option.some.inj ei1
  obtain ⟨i2, ei2⟩ := is_v g6
  obtain rfl : w2 = (.int i2) := Option.some.inj ei2
  obtain ⟨cs, ev_cs⟩ := is_v (Cond.before_iff.mp (hsets _ (List.mem_of_getElem? (i := 1) rfl)))
  have S_cs : Sta s s.heap "java/lang/String" "COMPACT_STRINGS" "Z" (.int cs) := Sta.start ev_cs (Or.inl (hsets _ (List.mem_of_getElem? (i := 0) rfl)))
  have n_cs : ¬ (cs = (0 : Int32)) := own_not0 ev_cs (Cond.before_iff.mp (hsets _ (List.mem_of_getElem? (i := 2) rfl)))
  have S_ad : Sta s s.heap "java/lang/StringUTF16" "$assertionsDisabled" "Z" (.int 1) := Sta.start (eqv_i (Term.int_eval 1) (Cond.before_iff.mp (hsets _ (List.mem_of_getElem? (i := 12) rfl)))) (Or.inl (hsets _ (List.mem_of_getElem? (i := 11) rfl)))
  have S_hi : Sta s s.heap "java/lang/StringUTF16" "HI_BYTE_SHIFT" "I" (.int 0) := Sta.start (eqv_i (Term.int_eval 0) (Cond.before_iff.mp (hsets _ (List.mem_of_getElem? (i := 15) rfl)))) (Or.inl (hsets _ (List.mem_of_getElem? (i := 14) rfl)))
  have S_lo : Sta s s.heap "java/lang/StringUTF16" "LO_BYTE_SHIFT" "I" (.int 8) := Sta.start (eqv_i (Term.int_eval 8) (Cond.before_iff.mp (hsets _ (List.mem_of_getElem? (i := 18) rfl)))) (Or.inl (hsets _ (List.mem_of_getElem? (i := 17) rfl)))
  obtain ⟨fmt, ev_fm, r_fm⟩ := own_isref (Cond.before_iff.mp (hsets _ (List.mem_of_getElem? (i := 8) rfl)))
  have S_fm : Sta s s.heap "jdk/internal/util/Preconditions" "SIOOBE_FORMATTER" "Ljava/util/function/BiFunction;" fmt := Sta.start ev_fm (Or.inl (hsets _ (List.mem_of_getElem? (i := 7) rfl)))
  obtain ⟨n, o, h1, h2, h3, _, L, rfl, ⟨rfl, N⟩, -, hq⟩ := rm0 l s _ hw tables_1 i0 i1 i2 cs fmt s.heap s.heap.size (Old.start s) S_cs n_cs S_ad S_hi S_lo r_fm S_fm p e ha hc hk s m _ below hf ((Spec.applies_iff_loose hf).mp happ).1 ⟨rfl, State.Warmed39.refl s, rfl, CHv.start (own_hEL hw) (fun q hq => hcalls.1 q hq) (hsets _ (List.mem_of_getElem? (i := 2) rfl)) (t_26 hw) (t_12 hw), fun _ q => nomatch q⟩ trivial
  refine ⟨n, _, h1, h2, h3, hpost _ _ _ _ _ _ ⟨Cond.after_iff.mpr rfl, Cond.after_iff.mpr (eq_i res_at (Term.int_eval (1)) rfl), trivial⟩ ⟨hq.1, hq.2.1, hq.2.2.1, (hq.2.2.2.sift fun y hy => Or.inr (N y hy)).mono (by decide) (by decide)⟩⟩
theorem main_1_1 : Claimed_1_1 := comes_1 fun _ _ _ _ _ _ h hF => ⟨h.1, hF⟩
theorem main_1_2 : Claimed_1_2 := comes_1 fun _ _ _ _ _ _ h hF => ⟨h.2.1, hF⟩
end Jvm.Pilot.@@N@@
namespace Jvm.Pilot.@@N@@
open Jvm Jvm.ClassFile Sem Op Lib Jvm.Free Jvm.Stand Jvm.Pilot.@@N@@.Jvm.D
/-! MADE BY PROGRAM (witnessworld.py) out of the Statement's table words and the real class files: 22 classes; the members and pool entries that the words name. The judged class is class 1, her method 1. -/
namespace start1
open Jvm.ClassFile
def u (s : String) : CpInfo := .utf8 (stringToUtf16 s)
/-- a pool by its gaps: so many unusable entries, then the entry; so many at the end -/
def gap : Nat → List CpInfo → List CpInfo
  | 0, r => r
  | n + 1, r => .unusable :: gap n r
def poolList (es : List (Nat × CpInfo)) (last : Nat) : List CpInfo := es.foldr (fun e r => gap e.1 (e.2 :: r)) (gap last [])
def pool (es : List (Nat × CpInfo)) (last : Nat) : Array CpInfo := ⟨poolList es last⟩
def fileOf (pool : Array CpInfo) (this : Nat) (attrs : Array Attribute := #[]) (ms : Array MethodInfo := #[]) (fl : Nat := 33) (sup : Nat := 0) (ifs : Array Nat := #[]) (fds : Array FieldInfo := #[]) : ClassFile where
  minorVersion := 0
  majorVersion := 65
  constantPool := pool
  accessFlags := fl
  thisClass := this
  superClass := sup
  interfaces := ifs
  fields := fds
  methods := ms
  attributes := attrs
def plain (name : String) (sup : Option ClassId) : Class where
  name := name
  kind := .ordinary
  loader := none
  accessFlags := 33
  super := sup
  interfaces := #[]
  cf := none
  fields := #[]
  methods := #[]
  instanceTypes := #[]
  staticTypes := #[]
  resolved := #[]
  callSites := []
  init := .initialized
  statics := none
  mirror := none

def pool0 : Array CpInfo := pool [(5, u "<init>"), (0, u "()V"), (1, .class_ 10), (1, u "java/lang/Object")] 113

def k0c0 : Code := { maxStack := 0, maxLocals := 1, code := object_method_1_code, exceptionTable := #[], attributes := #[] }
def k0m0 : Method := { name := "<init>", desc := "()V", sig := { parameters := [], returnType := none }, accessFlags := 1, code := some k0c0 }
/-- java/lang/Object -/
def k0 : Class := { plain "java/lang/Object" none with
  accessFlags := 33
  interfaces := #[]
  cf := some (fileOf pool0 8 #[] #[{ accessFlags := 1, nameIndex := 5, descriptorIndex := 6, attributes := #[] }] 33 0 #[] #[])
  fields := #[]
  methods := #[k0m0]
  instanceTypes := #[]
  staticTypes := #[]
  resolved := Array.replicate 124 none
  statics := none }

def pool1 : Array CpInfo := pool [(2, .class_ 4), (1, u "java/lang/Object"), (0, u "<init>"), (0, u "()V"), (0, .methodref 8 9), (0, .class_ 10), (0, .nameAndType 11 12), (0, u "com/example/closemark/closemark/csv/CsvReaderHasShapePinLaw"), (0, u "textChar"), (0, u "(JII)C"), (0, .methodref 8 14), (0, .nameAndType 15 16), (0, u "shapeChar"), (0, u "(JIIC)C"), (0, .methodref 8 18), (0, .nameAndType 19 20), (0, u "str"), (0, u "(CCCCI)Ljava/lang/String;"), (0, .methodref 8 22), (0, .nameAndType 23 24), (0, u "fits"), (0, u "(CC)Z"), (0, .methodref 26 27), (0, .class_ 28), (0, .nameAndType 29 30), (0, u "com/example/closemark/closemark/csv/CsvReader"), (0, u "hasShape"), (0, u "(Ljava/lang/String;Ljava/lang/String;)Z"), (0, .integer 65535), (0, .class_ 33), (0, u "java/lang/String"), (0, .methodref 32 35), (0, .nameAndType 5 36), (0, u "([C)V"), (2, u "law"), (0, u "(JJI)Z")] 3

def k1m0 : Method := { name := "<init>", desc := "()V", sig := { parameters := [], returnType := none }, accessFlags := 1, code := none }
def k1c1 : Code := { maxStack := 5, maxLocals := 18, code := code, exceptionTable := #[], attributes := #[] }
def k1m1 : Method := { name := "law", desc := "(JJI)Z", sig := { parameters := [.long, .long, .int], returnType := some .boolean }, accessFlags := 9, code := some k1c1 }
def k1c2 : Code := { maxStack := 2, maxLocals := 2, code := method_3_code, exceptionTable := #[], attributes := #[] }
def k1m2 : Method := { name := "fits", desc := "(CC)Z", sig := { parameters := [.char, .char], returnType := some .boolean }, accessFlags := 10, code := some k1c2 }
def k1c3 : Code := { maxStack := 4, maxLocals := 5, code := method_4_code, exceptionTable := #[], attributes := #[] }
def k1m3 : Method := { name := "textChar", desc := "(JII)C", sig := { parameters := [.long, .int, .int], returnType := some .char }, accessFlags := 10, code := some k1c3 }
def k1c4 : Code := { maxStack := 4, maxLocals := 7, code := method_5_code, exceptionTable := #[], attributes := #[] }
def k1m4 : Method := { name := "shapeChar", desc := "(JIIC)C", sig := { parameters := [.long, .int, .int, .char], returnType := some .char }, accessFlags := 10, code := some k1c4 }
def k1c5 : Code := { maxStack := 6, maxLocals := 5, code := method_6_code, exceptionTable := #[], attributes := #[] }
def k1m5 : Method := { name := "str", desc := "(CCCCI)Ljava/lang/String;", sig := { parameters := [.char, .char, .char, .char, .int], returnType := some (.object "java/lang/String") }, accessFlags := 10, code := some k1c5 }
/-- com/example/closemark/closemark/csv/CsvReaderHasShapePinLaw -/
def k1 : Class := { plain "com/example/closemark/closemark/csv/CsvReaderHasShapePinLaw" (some 0) with
  accessFlags := 49
  interfaces := #[]
  cf := some (fileOf pool1 8 #[] #[{ accessFlags := 1, nameIndex := 5, descriptorIndex := 6, attributes := #[] }, { accessFlags := 9, nameIndex := 39, descriptorIndex := 40, attributes := #[] }, { accessFlags := 10, nameIndex := 23, descriptorIndex := 24, attributes := #[] }, { accessFlags := 10, nameIndex := 11, descriptorIndex := 12, attributes := #[] }, { accessFlags := 10, nameIndex := 15, descriptorIndex := 16, attributes := #[] }, { accessFlags := 10, nameIndex := 19, descriptorIndex := 20, attributes := #[] }] 49 2 #[] #[])
  fields := #[]
  methods := #[k1m0, k1m1, k1m2, k1m3, k1m4, k1m5]
  instanceTypes := #[]
  staticTypes := #[]
  resolved := Array.replicate 44 none
  statics := none }

def pool2 : Array CpInfo := pool [(1, .class_ 2), (0, u "java/io/Serializable"), (0, .class_ 4), (0, u "java/lang/Object")] 2

/-- java/io/Serializable -/
def k2 : Class := { plain "java/io/Serializable" (some 0) with
  accessFlags := 1537
  interfaces := #[]
  cf := some (fileOf pool2 1 #[] #[] 1537 3 #[] #[])
  fields := #[]
  methods := #[]
  instanceTypes := #[]
  staticTypes := #[]
  resolved := Array.replicate 7 none
  statics := none }

def pool3 : Array CpInfo := pool [(1, .class_ 2), (0, u "java/lang/Comparable"), (0, .class_ 4), (0, u "java/lang/Object")] 7

/-- java/lang/Comparable -/
def k3 : Class := { plain "java/lang/Comparable" (some 0) with
  accessFlags := 1537
  interfaces := #[]
  cf := some (fileOf pool3 1 #[] #[] 1537 3 #[] #[])
  fields := #[]
  methods := #[]
  instanceTypes := #[]
  staticTypes := #[]
  resolved := Array.replicate 12 none
  statics := none }

def pool4 : Array CpInfo := pool [(2, .class_ 4), (1, u "java/lang/CharSequence"), (42, .class_ 48), (0, u "java/lang/CharSequence$1CodePointIterator"), (10, .class_ 60), (0, u "java/lang/CharSequence$1CharIterator"), (5, .class_ 67), (0, u "java/lang/Object")] 63

/-- java/lang/CharSequence -/
def k4 : Class := { plain "java/lang/CharSequence" (some 0) with
  accessFlags := 1537
  interfaces := #[]
  cf := some (fileOf pool4 2 #[.nestMembers #[47, 59]] #[] 1537 66 #[] #[])
  fields := #[]
  methods := #[]
  instanceTypes := #[]
  staticTypes := #[]
  resolved := Array.replicate 131 none
  statics := none }

def pool5 : Array CpInfo := pool [(1, .class_ 2), (0, u "java/lang/constant/Constable"), (0, .class_ 4), (0, u "java/lang/Object")] 6

/-- java/lang/constant/Constable -/
def k5 : Class := { plain "java/lang/constant/Constable" (some 0) with
  accessFlags := 1537
  interfaces := #[]
  cf := some (fileOf pool5 1 #[] #[] 1537 3 #[] #[])
  fields := #[]
  methods := #[]
  instanceTypes := #[]
  staticTypes := #[]
  resolved := Array.replicate 11 none
  statics := none }

def pool6 : Array CpInfo := pool [(1, .class_ 2), (0, u "java/lang/constant/ConstantDesc"), (0, .class_ 4), (0, u "java/lang/Object")] 32

/-- java/lang/constant/ConstantDesc -/
def k6 : Class := { plain "java/lang/constant/ConstantDesc" (some 0) with
  accessFlags := 1537
  interfaces := #[]
  cf := some (fileOf pool6 1 #[] #[] 1537 3 #[] #[])
  fields := #[]
  methods := #[]
  instanceTypes := #[]
  staticTypes := #[]
  resolved := Array.replicate 37 none
  statics := none }

def pool7 : Array CpInfo := pool [(1, .methodref 2 3), (0, .class_ 4), (0, .nameAndType 5 6), (0, u "java/lang/Object"), (0, u "<init>"), (0, u "()V"), (0, .string 8), (0, u ""), (0, .fieldref 10 11), (0, .class_ 12), (0, .nameAndType 13 14), (0, u "java/lang/String"), (0, u "value"), (0, u "[B"), (0, .fieldref 10 16), (0, .nameAndType 17 18), (0, u "coder"), (0, u "B"), (2, u "hash"), (0, u "I"), (2, u "hashIsZero"), (0, u "Z"), (0, .methodref 10 28), (0, .nameAndType 5 29), (0, u "([CIILjava/lang/Void;)V"), (8, .fieldref 10 39), (0, .nameAndType 40 26), (0, u "COMPACT_STRINGS"), (1, .class_ 44), (1, u "java/lang/StringUTF16"), (0, u "compress"), (1, .methodref 42 48), (0, .nameAndType 49 50), (0, u "coderFromArrayLen"), (0, u "([BI)B"), (56, .class_ 109), (1, u "java/lang/StringLatin1"), (32, u "()Z"), (34, .methodref 42 178), (0, .nameAndType 45 179), (0, u "([CII)[B"), (154, u "()I"), (0, .methodref 10 336), (0, .nameAndType 17 337), (0, u "()B"), (25, u "([BI)C"), (27, u "(II)V"), (35, u "(I)C"), (64, .methodref 10 493), (0, .nameAndType 494 142), (0, u "isLatin1"), (0, .methodref 107 496), (0, .nameAndType 497 363), (0, u "charAt"), (0, .methodref 42 496), (2, u "checkIndex"), (5, u "length"), (67, .class_ 576), (0, u "java/lang/CharSequence"), (22, u "CASE_INSENSITIVE_ORDER"), (0, u "Ljava/util/Comparator;"), (409, u "([C)V"), (42, .fieldref 1054 1055), (0, .class_ 1056), (0, .nameAndType 1057 1058), (0, u "jdk/internal/util/Preconditions"), (0, u "SIOOBE_FORMATTER"), (0, u "Ljava/util/function/BiFunction;"), (0, .methodref 1054 1060), (0, .nameAndType 501 1061), (0, u "(IILjava/util/function/BiFunction;)I"), (39, u "serialPersistentFields"), (0, u "[Ljava/io/ObjectStreamField;"), (0, .class_ 1104), (0, u "java/lang/String$CaseInsensitiveComparator"), (1, .class_ 1107), (0, u "java/io/Serializable"), (0, .class_ 1109), (0, u "java/lang/Comparable"), (0, .class_ 1111), (0, u "java/lang/constant/Constable"), (0, .class_ 1113), (0, u "java/lang/constant/ConstantDesc"), (2, u "serialVersionUID"), (0, u "J"), (3, u "REPL"), (0, u "C"), (2, u "LATIN1"), (1, u "UTF16")] 323

def k7m0 : Method := { name := "<init>", desc := "()V", sig := { parameters := [], returnType := none }, accessFlags := 1, code := none }
def k7c1 : Code := { maxStack := 5, maxLocals := 2, code := jdk_42_method_3_code, exceptionTable := #[], attributes := #[] }
def k7m1 : Method := { name := "<init>", desc := "([C)V", sig := { parameters := [(.array .char)], returnType := none }, accessFlags := 1, code := some k7c1 }
def k7c2 : Code := { maxStack := 2, maxLocals := 1, code := jdk_42_method_54_code, exceptionTable := #[], attributes := #[] }
def k7m2 : Method := { name := "length", desc := "()I", sig := { parameters := [], returnType := some .int }, accessFlags := 1, code := some k7c2 }
def k7c3 : Code := { maxStack := 2, maxLocals := 2, code := jdk_42_method_56_code, exceptionTable := #[], attributes := #[] }
def k7m3 : Method := { name := "charAt", desc := "(I)C", sig := { parameters := [.int], returnType := some .char }, accessFlags := 1, code := some k7c3 }
def k7c4 : Code := { maxStack := 4, maxLocals := 6, code := jdk_42_method_149_code, exceptionTable := #[], attributes := #[] }
def k7m4 : Method := { name := "<init>", desc := "([CIILjava/lang/Void;)V", sig := { parameters := [(.array .char), .int, .int, (.object "java/lang/Void")], returnType := none }, accessFlags := 2, code := some k7c4 }
def k7c5 : Code := { maxStack := 1, maxLocals := 1, code := jdk_42_method_152_code, exceptionTable := #[], attributes := #[] }
def k7m5 : Method := { name := "coder", desc := "()B", sig := { parameters := [], returnType := some .byte }, accessFlags := 0, code := some k7c5 }
def k7c6 : Code := { maxStack := 1, maxLocals := 1, code := jdk_42_method_154_code, exceptionTable := #[], attributes := #[] }
def k7m6 : Method := { name := "isLatin1", desc := "()Z", sig := { parameters := [], returnType := some .boolean }, accessFlags := 0, code := some k7c6 }
def k7c7 : Code := { maxStack := 3, maxLocals := 2, code := jdk_42_method_155_code, exceptionTable := #[], attributes := #[] }
def k7m7 : Method := { name := "checkIndex", desc := "(II)V", sig := { parameters := [.int, .int], returnType := none }, accessFlags := 8, code := some k7c7 }
/-- java/lang/String -/
def k7 : Class := { plain "java/lang/String" (some 0) with
  accessFlags := 49
  interfaces := #[2, 3, 4, 5, 6]
  cf := some (fileOf pool7 10 #[.nestMembers #[1103]] #[{ accessFlags := 1, nameIndex := 5, descriptorIndex := 6, attributes := #[] }, { accessFlags := 1, nameIndex := 5, descriptorIndex := 1010, attributes := #[] }, { accessFlags := 1, nameIndex := 507, descriptorIndex := 334, attributes := #[] }, { accessFlags := 1, nameIndex := 497, descriptorIndex := 427, attributes := #[] }, { accessFlags := 2, nameIndex := 5, descriptorIndex := 29, attributes := #[] }, { accessFlags := 0, nameIndex := 17, descriptorIndex := 337, attributes := #[] }, { accessFlags := 0, nameIndex := 494, descriptorIndex := 142, attributes := #[] }, { accessFlags := 8, nameIndex := 501, descriptorIndex := 391, attributes := #[] }] 49 2 #[1106, 1108, 575, 1110, 1112] #[{ accessFlags := 18, nameIndex := 13, descriptorIndex := 14, attributes := #[] }, { accessFlags := 18, nameIndex := 17, descriptorIndex := 18, attributes := #[] }, { accessFlags := 2, nameIndex := 21, descriptorIndex := 22, attributes := #[] }, { accessFlags := 2, nameIndex := 25, descriptorIndex := 26, attributes := #[] }, { accessFlags := 26, nameIndex := 1116, descriptorIndex := 1117, attributes := #[] }, { accessFlags := 24, nameIndex := 40, descriptorIndex := 26, attributes := #[] }, { accessFlags := 26, nameIndex := 1101, descriptorIndex := 1102, attributes := #[] }, { accessFlags := 26, nameIndex := 1121, descriptorIndex := 1122, attributes := #[] }, { accessFlags := 25, nameIndex := 599, descriptorIndex := 600, attributes := #[] }, { accessFlags := 24, nameIndex := 1125, descriptorIndex := 18, attributes := #[] }, { accessFlags := 24, nameIndex := 1127, descriptorIndex := 18, attributes := #[] }])
  fields := #[{ name := "value", type := (.array .byte), accessFlags := 18, slot := 0, constantValue := 0 }, { name := "coder", type := .byte, accessFlags := 18, slot := 1, constantValue := 0 }, { name := "hash", type := .int, accessFlags := 2, slot := 2, constantValue := 0 }, { name := "hashIsZero", type := .boolean, accessFlags := 2, slot := 3, constantValue := 0 }, { name := "serialVersionUID", type := .long, accessFlags := 26, slot := 0, constantValue := 0 }, { name := "COMPACT_STRINGS", type := .boolean, accessFlags := 24, slot := 1, constantValue := 0 }, { name := "serialPersistentFields", type := (.array (.object "java/io/ObjectStreamField")), accessFlags := 26, slot := 2, constantValue := 0 }, { name := "REPL", type := .char, accessFlags := 26, slot := 3, constantValue := 0 }, { name := "CASE_INSENSITIVE_ORDER", type := (.object "java/util/Comparator"), accessFlags := 25, slot := 4, constantValue := 0 }, { name := "LATIN1", type := .byte, accessFlags := 24, slot := 5, constantValue := 0 }, { name := "UTF16", type := .byte, accessFlags := 24, slot := 6, constantValue := 0 }]
  methods := #[k7m0, k7m1, k7m2, k7m3, k7m4, k7m5, k7m6, k7m7]
  instanceTypes := #[(.array .byte), .byte, .int, .boolean]
  staticTypes := #[.long, .boolean, (.array (.object "java/io/ObjectStreamField")), .char, (.object "java/util/Comparator"), .byte, .byte]
  resolved := Array.replicate 1451 none
  statics := some 0 }

def pool8 : Array CpInfo := pool [(1, .class_ 2), (0, u "java/lang/AutoCloseable"), (0, .class_ 4), (0, u "java/lang/Object")] 7

/-- java/lang/AutoCloseable -/
def k8 : Class := { plain "java/lang/AutoCloseable" (some 0) with
  accessFlags := 1537
  interfaces := #[]
  cf := some (fileOf pool8 1 #[] #[] 1537 3 #[] #[])
  fields := #[]
  methods := #[]
  instanceTypes := #[]
  staticTypes := #[]
  resolved := Array.replicate 12 none
  statics := none }

def pool9 : Array CpInfo := pool [(1, .class_ 2), (0, u "java/io/Closeable"), (0, .class_ 4), (0, u "java/lang/Object"), (0, .class_ 6), (0, u "java/lang/AutoCloseable")] 7

/-- java/io/Closeable -/
def k9 : Class := { plain "java/io/Closeable" (some 0) with
  accessFlags := 1537
  interfaces := #[8]
  cf := some (fileOf pool9 1 #[] #[] 1537 3 #[5] #[])
  fields := #[]
  methods := #[]
  instanceTypes := #[]
  staticTypes := #[]
  resolved := Array.replicate 14 none
  statics := none }

def pool10 : Array CpInfo := pool [(2, .class_ 4), (1, u "java/lang/Object"), (3, .class_ 10), (1, u "com/example/closemark/closemark/csv/CsvReader"), (0, u "file"), (0, u "Ljava/nio/file/Path;"), (2, u "everyLine"), (0, u "Lcom/example/closemark/closemark/csv/ByteLines;"), (2, u "lines"), (0, u "Lcom/example/closemark/closemark/csv/Lines;"), (2, u "fields"), (0, u "I"), (2, u "splitLimit"), (2, u "columns"), (0, u "[I"), (2, u "lineNumber"), (0, u "J"), (27, .class_ 65), (1, u "java/lang/String"), (86, u "()I"), (23, .methodref 63 177), (0, .nameAndType 178 152), (0, u "length"), (18, u "hasShape"), (0, u "(Ljava/lang/String;Ljava/lang/String;)Z"), (31, .methodref 63 231), (0, .nameAndType 232 233), (0, u "charAt"), (0, u "(I)C"), (0, .methodref 8 235), (0, .nameAndType 236 237), (0, u "isDigit"), (0, u "(C)Z"), (12, .class_ 251), (0, u "java/io/Closeable"), (0, u "REPLACEMENT_CHARACTER"), (0, u "C"), (1, u "DATE_SHAPE"), (0, u "Ljava/lang/String;")] 76

def k10c0 : Code := { maxStack := 2, maxLocals := 6, code := prog_11_method_24_code, exceptionTable := #[], attributes := #[] }
def k10m0 : Method := { name := "hasShape", desc := "(Ljava/lang/String;Ljava/lang/String;)Z", sig := { parameters := [(.object "java/lang/String"), (.object "java/lang/String")], returnType := some .boolean }, accessFlags := 9, code := some k10c0 }
def k10c1 : Code := { maxStack := 2, maxLocals := 1, code := prog_11_method_29_code, exceptionTable := #[], attributes := #[] }
def k10m1 : Method := { name := "isDigit", desc := "(C)Z", sig := { parameters := [.char], returnType := some .boolean }, accessFlags := 10, code := some k10c1 }
/-- com/example/closemark/closemark/csv/CsvReader -/
def k10 : Class := { plain "com/example/closemark/closemark/csv/CsvReader" (some 0) with
  accessFlags := 49
  interfaces := #[9]
  cf := some (fileOf pool10 8 #[] #[{ accessFlags := 9, nameIndex := 197, descriptorIndex := 198, attributes := #[] }, { accessFlags := 10, nameIndex := 236, descriptorIndex := 237, attributes := #[] }] 49 2 #[250] #[{ accessFlags := 26, nameIndex := 252, descriptorIndex := 253, attributes := #[] }, { accessFlags := 26, nameIndex := 255, descriptorIndex := 256, attributes := #[] }, { accessFlags := 18, nameIndex := 11, descriptorIndex := 12, attributes := #[] }, { accessFlags := 18, nameIndex := 15, descriptorIndex := 16, attributes := #[] }, { accessFlags := 2, nameIndex := 19, descriptorIndex := 20, attributes := #[] }, { accessFlags := 18, nameIndex := 23, descriptorIndex := 24, attributes := #[] }, { accessFlags := 18, nameIndex := 27, descriptorIndex := 24, attributes := #[] }, { accessFlags := 18, nameIndex := 30, descriptorIndex := 31, attributes := #[] }, { accessFlags := 2, nameIndex := 34, descriptorIndex := 35, attributes := #[] }])
  fields := #[{ name := "REPLACEMENT_CHARACTER", type := .char, accessFlags := 26, slot := 0, constantValue := 0 }, { name := "DATE_SHAPE", type := (.object "java/lang/String"), accessFlags := 26, slot := 1, constantValue := 0 }, { name := "file", type := (.object "java/nio/file/Path"), accessFlags := 18, slot := 0, constantValue := 0 }, { name := "everyLine", type := (.object "com/example/closemark/closemark/csv/ByteLines"), accessFlags := 18, slot := 1, constantValue := 0 }, { name := "lines", type := (.object "com/example/closemark/closemark/csv/Lines"), accessFlags := 2, slot := 2, constantValue := 0 }, { name := "fields", type := .int, accessFlags := 18, slot := 3, constantValue := 0 }, { name := "splitLimit", type := .int, accessFlags := 18, slot := 4, constantValue := 0 }, { name := "columns", type := (.array .int), accessFlags := 18, slot := 5, constantValue := 0 }, { name := "lineNumber", type := .long, accessFlags := 2, slot := 6, constantValue := 0 }]
  methods := #[k10m0, k10m1]
  instanceTypes := #[(.object "java/nio/file/Path"), (.object "com/example/closemark/closemark/csv/ByteLines"), (.object "com/example/closemark/closemark/csv/Lines"), .int, .int, (.array .int), .long]
  staticTypes := #[.char, (.object "java/lang/String")]
  resolved := Array.replicate 333 none
  statics := none }

def pool11 : Array CpInfo := pool [(3, .class_ 4), (0, u "java/lang/String"), (1, .class_ 8), (1, u "java/lang/Object"), (0, u "<init>"), (0, u "()V"), (0, .methodref 12 13), (0, .class_ 14), (0, .nameAndType 15 16), (0, u "java/lang/StringUTF16"), (0, u "newBytesLength"), (0, u "(I)I"), (3, .integer 1073741823), (23, .fieldref 12 45), (0, .nameAndType 46 47), (0, u "$assertionsDisabled"), (0, u "Z"), (0, .methodref 12 49), (0, .nameAndType 50 51), (0, u "length"), (0, u "([B)I"), (7, .fieldref 12 60), (0, .nameAndType 61 62), (0, u "HI_BYTE_SHIFT"), (0, u "I"), (0, .fieldref 12 64), (0, .nameAndType 65 62), (0, u "LO_BYTE_SHIFT"), (1, .methodref 12 68), (0, .nameAndType 69 70), (0, u "checkIndex"), (0, u "(I[B)V"), (0, .methodref 12 72), (0, .nameAndType 73 74), (0, u "getChar"), (0, u "([BI)C"), (32, .methodref 12 108), (0, .nameAndType 109 110), (0, u "newBytesFor"), (0, u "(I)[B"), (0, .methodref 12 112), (0, .nameAndType 113 114), (0, u "putChar"), (0, u "([BII)V"), (0, .methodref 12 116), (0, .nameAndType 117 118), (0, u "compress"), (0, u "([CI[BII)I"), (0, .methodref 12 120), (0, .nameAndType 121 122), (0, u "toBytes"), (0, u "([CII)[B"), (138, u "coderFromArrayLen"), (0, u "([BI)B"), (106, .class_ 371), (1, u "java/lang/StringUTF16$LinesSpliterator"), (20, u "charAt"), (21, .methodref 3 415), (0, .nameAndType 69 416), (0, u "(II)V"), (13, u "MAX_LENGTH"), (196, .class_ 628), (0, u "java/lang/StringUTF16$CodePointsSpliterator"), (0, .class_ 630), (0, u "java/lang/StringUTF16$CharsSpliterator")] 4

def k11m0 : Method := { name := "<init>", desc := "()V", sig := { parameters := [], returnType := none }, accessFlags := 0, code := none }
def k11c1 : Code := { maxStack := 1, maxLocals := 1, code := jdk_52_method_2_code, exceptionTable := #[], attributes := #[] }
def k11m1 : Method := { name := "newBytesFor", desc := "(I)[B", sig := { parameters := [.int], returnType := some (.array .byte) }, accessFlags := 9, code := some k11c1 }
def k11c2 : Code := { maxStack := 4, maxLocals := 1, code := jdk_52_method_3_code, exceptionTable := #[], attributes := #[] }
def k11m2 : Method := { name := "newBytesLength", desc := "(I)I", sig := { parameters := [.int], returnType := some .int }, accessFlags := 9, code := some k11c2 }
def k11c3 : Code := { maxStack := 4, maxLocals := 3, code := jdk_52_method_4_code, exceptionTable := #[], attributes := #[] }
def k11m3 : Method := { name := "putChar", desc := "([BII)V", sig := { parameters := [(.array .byte), .int, .int], returnType := none }, accessFlags := 8, code := some k11c3 }
def k11c4 : Code := { maxStack := 3, maxLocals := 2, code := jdk_52_method_5_code, exceptionTable := #[], attributes := #[] }
def k11m4 : Method := { name := "getChar", desc := "([BI)C", sig := { parameters := [(.array .byte), .int], returnType := some .char }, accessFlags := 8, code := some k11c4 }
def k11c5 : Code := { maxStack := 2, maxLocals := 1, code := jdk_52_method_6_code, exceptionTable := #[], attributes := #[] }
def k11m5 : Method := { name := "length", desc := "([B)I", sig := { parameters := [(.array .byte)], returnType := some .int }, accessFlags := 9, code := some k11c5 }
def k11c6 : Code := { maxStack := 4, maxLocals := 5, code := jdk_52_method_14_code, exceptionTable := #[], attributes := #[] }
def k11m6 : Method := { name := "toBytes", desc := "([CII)[B", sig := { parameters := [(.array .char), .int, .int], returnType := some (.array .byte) }, accessFlags := 9, code := some k11c6 }
def k11c7 : Code := { maxStack := 2, maxLocals := 2, code := jdk_52_method_15_code, exceptionTable := #[], attributes := #[] }
def k11m7 : Method := { name := "coderFromArrayLen", desc := "([BI)B", sig := { parameters := [(.array .byte), .int], returnType := some .byte }, accessFlags := 8, code := some k11c7 }
def k11c8 : Code := { maxStack := 5, maxLocals := 6, code := jdk_52_method_16_code, exceptionTable := #[], attributes := #[] }
def k11m8 : Method := { name := "compress", desc := "([CII)[B", sig := { parameters := [(.array .char), .int, .int], returnType := some (.array .byte) }, accessFlags := 9, code := some k11c8 }
def k11c9 : Code := { maxStack := 3, maxLocals := 7, code := jdk_52_method_21_code, exceptionTable := #[], attributes := #[] }
def k11m9 : Method := { name := "compress", desc := "([CI[BII)I", sig := { parameters := [(.array .char), .int, (.array .byte), .int, .int], returnType := some .int }, accessFlags := 9, code := some k11c9 }
def k11c10 : Code := { maxStack := 2, maxLocals := 2, code := jdk_52_method_83_code, exceptionTable := #[], attributes := #[] }
def k11m10 : Method := { name := "charAt", desc := "([BI)C", sig := { parameters := [(.array .byte), .int], returnType := some .char }, accessFlags := 9, code := some k11c10 }
def k11c11 : Code := { maxStack := 2, maxLocals := 2, code := jdk_52_method_91_code, exceptionTable := #[], attributes := #[] }
def k11m11 : Method := { name := "checkIndex", desc := "(I[B)V", sig := { parameters := [.int, (.array .byte)], returnType := none }, accessFlags := 9, code := some k11c11 }
/-- java/lang/StringUTF16 -/
def k11 : Class := { plain "java/lang/StringUTF16" (some 0) with
  accessFlags := 48
  interfaces := #[]
  cf := some (fileOf pool11 12 #[.nestMembers #[627, 629, 369]] #[{ accessFlags := 0, nameIndex := 9, descriptorIndex := 10, attributes := #[] }, { accessFlags := 9, nameIndex := 109, descriptorIndex := 110, attributes := #[] }, { accessFlags := 9, nameIndex := 15, descriptorIndex := 16, attributes := #[] }, { accessFlags := 8, nameIndex := 113, descriptorIndex := 114, attributes := #[] }, { accessFlags := 8, nameIndex := 73, descriptorIndex := 74, attributes := #[] }, { accessFlags := 9, nameIndex := 50, descriptorIndex := 51, attributes := #[] }, { accessFlags := 9, nameIndex := 121, descriptorIndex := 122, attributes := #[] }, { accessFlags := 8, nameIndex := 261, descriptorIndex := 262, attributes := #[] }, { accessFlags := 9, nameIndex := 117, descriptorIndex := 122, attributes := #[] }, { accessFlags := 9, nameIndex := 117, descriptorIndex := 118, attributes := #[] }, { accessFlags := 9, nameIndex := 392, descriptorIndex := 74, attributes := #[] }, { accessFlags := 9, nameIndex := 69, descriptorIndex := 70, attributes := #[] }] 48 6 #[] #[{ accessFlags := 26, nameIndex := 61, descriptorIndex := 62, attributes := #[] }, { accessFlags := 26, nameIndex := 65, descriptorIndex := 62, attributes := #[] }, { accessFlags := 24, nameIndex := 430, descriptorIndex := 62, attributes := #[] }, { accessFlags := 4120, nameIndex := 46, descriptorIndex := 47, attributes := #[] }])
  fields := #[{ name := "HI_BYTE_SHIFT", type := .int, accessFlags := 26, slot := 0, constantValue := 0 }, { name := "LO_BYTE_SHIFT", type := .int, accessFlags := 26, slot := 1, constantValue := 0 }, { name := "MAX_LENGTH", type := .int, accessFlags := 24, slot := 2, constantValue := 0 }, { name := "$assertionsDisabled", type := .boolean, accessFlags := 4120, slot := 3, constantValue := 0 }]
  methods := #[k11m0, k11m1, k11m2, k11m3, k11m4, k11m5, k11m6, k11m7, k11m8, k11m9, k11m10, k11m11]
  instanceTypes := #[]
  staticTypes := #[.int, .int, .int, .boolean]
  resolved := Array.replicate 635 none
  statics := some 1 }

def pool12 : Array CpInfo := pool [(2, .class_ 4), (1, u "java/lang/Object"), (0, u "<init>"), (0, u "()V"), (17, .class_ 26), (1, u "jdk/internal/util/Preconditions"), (6, u "checkIndex"), (21, .class_ 56), (0, u "jdk/internal/util/Preconditions$4"), (57, .class_ 115), (0, u "jdk/internal/util/Preconditions$1"), (7, u "SIOOBE_FORMATTER"), (0, u "Ljava/util/function/BiFunction;"), (0, .class_ 126), (0, u "jdk/internal/util/Preconditions$2"), (3, u "AIOOBE_FORMATTER"), (0, .class_ 132), (0, u "jdk/internal/util/Preconditions$3"), (3, u "IOOBE_FORMATTER"), (41, u "(IILjava/util/function/BiFunction;)I")] 15

def k12m0 : Method := { name := "<init>", desc := "()V", sig := { parameters := [], returnType := none }, accessFlags := 1, code := none }
def k12c1 : Code := { maxStack := 3, maxLocals := 3, code := jdk_41_method_11_code, exceptionTable := #[], attributes := #[] }
def k12m1 : Method := { name := "checkIndex", desc := "(IILjava/util/function/BiFunction;)I", sig := { parameters := [.int, .int, (.object "java/util/function/BiFunction")], returnType := some .int }, accessFlags := 9, code := some k12c1 }
/-- jdk/internal/util/Preconditions -/
def k12 : Class := { plain "jdk/internal/util/Preconditions" (some 0) with
  accessFlags := 33
  interfaces := #[]
  cf := some (fileOf pool12 24 #[.nestMembers #[55, 131, 125, 114]] #[{ accessFlags := 1, nameIndex := 5, descriptorIndex := 6, attributes := #[] }, { accessFlags := 9, nameIndex := 33, descriptorIndex := 178, attributes := #[] }] 33 2 #[] #[{ accessFlags := 25, nameIndex := 123, descriptorIndex := 124, attributes := #[] }, { accessFlags := 25, nameIndex := 130, descriptorIndex := 124, attributes := #[] }, { accessFlags := 25, nameIndex := 136, descriptorIndex := 124, attributes := #[] }])
  fields := #[{ name := "SIOOBE_FORMATTER", type := (.object "java/util/function/BiFunction"), accessFlags := 25, slot := 0, constantValue := 0 }, { name := "AIOOBE_FORMATTER", type := (.object "java/util/function/BiFunction"), accessFlags := 25, slot := 1, constantValue := 0 }, { name := "IOOBE_FORMATTER", type := (.object "java/util/function/BiFunction"), accessFlags := 25, slot := 2, constantValue := 0 }]
  methods := #[k12m0, k12m1]
  instanceTypes := #[]
  staticTypes := #[(.object "java/util/function/BiFunction"), (.object "java/util/function/BiFunction"), (.object "java/util/function/BiFunction")]
  resolved := Array.replicate 194 none
  statics := some 2 }

def pool13 : Array CpInfo := pool [(1, .class_ 2), (0, u "java/lang/String"), (1, .class_ 6), (1, u "java/lang/Object"), (0, u "<init>"), (0, u "()V"), (0, .methodref 1 10), (0, .nameAndType 11 12), (0, u "checkIndex"), (0, u "(II)V"), (1, .class_ 16), (1, u "java/lang/StringLatin1"), (36, u "([BI)C"), (67, u "$assertionsDisabled"), (0, u "Z"), (98, .class_ 223), (1, u "java/lang/StringLatin1$LinesSpliterator"), (28, u "charAt"), (137, .class_ 391), (0, u "java/lang/StringLatin1$CharsSpliterator")] 3

def k13m0 : Method := { name := "<init>", desc := "()V", sig := { parameters := [], returnType := none }, accessFlags := 0, code := none }
def k13c1 : Code := { maxStack := 2, maxLocals := 2, code := jdk_43_method_2_code, exceptionTable := #[], attributes := #[] }
def k13m1 : Method := { name := "charAt", desc := "([BI)C", sig := { parameters := [(.array .byte), .int], returnType := some .char }, accessFlags := 9, code := some k13c1 }
/-- java/lang/StringLatin1 -/
def k13 : Class := { plain "java/lang/StringLatin1" (some 0) with
  accessFlags := 48
  interfaces := #[]
  cf := some (fileOf pool13 14 #[.nestMembers #[390, 221]] #[{ accessFlags := 0, nameIndex := 7, descriptorIndex := 8, attributes := #[] }, { accessFlags := 9, nameIndex := 252, descriptorIndex := 53, attributes := #[] }] 48 4 #[] #[{ accessFlags := 4120, nameIndex := 121, descriptorIndex := 122, attributes := #[] }])
  fields := #[{ name := "$assertionsDisabled", type := .boolean, accessFlags := 4120, slot := 0, constantValue := 0 }]
  methods := #[k13m0, k13m1]
  instanceTypes := #[]
  staticTypes := #[.boolean]
  resolved := Array.replicate 395 none
  statics := none }

def pool14 : Array CpInfo := pool [(9, u "<init>"), (6, .class_ 18), (1, u "java/lang/Object"), (0, u "()V"), (1, .class_ 23), (1, u "jdk/internal/util/ArraysSupport"), (0, u "LOG2_ARRAY_LONG_INDEX_SCALE"), (0, u "I"), (2, u "U"), (0, u "Ljdk/internal/misc/Unsafe;"), (8, u "BIG_ENDIAN"), (0, u "Z"), (8, u "LOG2_BYTE_BIT_SIZE"), (4, u "LOG2_ARRAY_INT_INDEX_SCALE"), (54, u "JLA"), (0, u "Ljdk/internal/access/JavaLangAccess;"), (11, u "LOG2_ARRAY_BOOLEAN_INDEX_SCALE"), (9, u "LOG2_ARRAY_BYTE_INDEX_SCALE"), (5, u "LOG2_ARRAY_CHAR_INDEX_SCALE"), (5, u "LOG2_ARRAY_SHORT_INDEX_SCALE"), (18, u "LOG2_ARRAY_FLOAT_INDEX_SCALE"), (24, u "LOG2_ARRAY_DOUBLE_INDEX_SCALE"), (89, u "T_BOOLEAN"), (2, u "T_CHAR"), (1, u "T_FLOAT"), (1, u "T_DOUBLE"), (1, u "T_BYTE"), (1, u "T_SHORT"), (1, u "T_INT"), (1, u "T_LONG"), (1, u "SOFT_MAX_ARRAY_LENGTH")] 83

def k14m0 : Method := { name := "<init>", desc := "()V", sig := { parameters := [], returnType := none }, accessFlags := 2, code := none }
/-- jdk/internal/util/ArraysSupport -/
def k14 : Class := { plain "jdk/internal/util/ArraysSupport" (some 0) with
  accessFlags := 33
  interfaces := #[]
  cf := some (fileOf pool14 21 #[] #[{ accessFlags := 2, nameIndex := 9, descriptorIndex := 19, attributes := #[] }] 33 16 #[] #[{ accessFlags := 24, nameIndex := 28, descriptorIndex := 29, attributes := #[] }, { accessFlags := 26, nameIndex := 38, descriptorIndex := 39, attributes := #[] }, { accessFlags := 25, nameIndex := 121, descriptorIndex := 25, attributes := #[] }, { accessFlags := 25, nameIndex := 131, descriptorIndex := 25, attributes := #[] }, { accessFlags := 25, nameIndex := 137, descriptorIndex := 25, attributes := #[] }, { accessFlags := 25, nameIndex := 143, descriptorIndex := 25, attributes := #[] }, { accessFlags := 25, nameIndex := 53, descriptorIndex := 25, attributes := #[] }, { accessFlags := 25, nameIndex := 24, descriptorIndex := 25, attributes := #[] }, { accessFlags := 25, nameIndex := 162, descriptorIndex := 25, attributes := #[] }, { accessFlags := 25, nameIndex := 187, descriptorIndex := 25, attributes := #[] }, { accessFlags := 26, nameIndex := 48, descriptorIndex := 25, attributes := #[] }, { accessFlags := 25, nameIndex := 277, descriptorIndex := 25, attributes := #[] }, { accessFlags := 25, nameIndex := 280, descriptorIndex := 25, attributes := #[] }, { accessFlags := 25, nameIndex := 282, descriptorIndex := 25, attributes := #[] }, { accessFlags := 25, nameIndex := 284, descriptorIndex := 25, attributes := #[] }, { accessFlags := 25, nameIndex := 286, descriptorIndex := 25, attributes := #[] }, { accessFlags := 25, nameIndex := 288, descriptorIndex := 25, attributes := #[] }, { accessFlags := 25, nameIndex := 290, descriptorIndex := 25, attributes := #[] }, { accessFlags := 25, nameIndex := 292, descriptorIndex := 25, attributes := #[] }, { accessFlags := 26, nameIndex := 108, descriptorIndex := 109, attributes := #[] }, { accessFlags := 25, nameIndex := 294, descriptorIndex := 25, attributes := #[] }])
  fields := #[{ name := "U", type := (.object "jdk/internal/misc/Unsafe"), accessFlags := 24, slot := 0, constantValue := 0 }, { name := "BIG_ENDIAN", type := .boolean, accessFlags := 26, slot := 1, constantValue := 0 }, { name := "LOG2_ARRAY_BOOLEAN_INDEX_SCALE", type := .int, accessFlags := 25, slot := 2, constantValue := 0 }, { name := "LOG2_ARRAY_BYTE_INDEX_SCALE", type := .int, accessFlags := 25, slot := 3, constantValue := 0 }, { name := "LOG2_ARRAY_CHAR_INDEX_SCALE", type := .int, accessFlags := 25, slot := 4, constantValue := 0 }, { name := "LOG2_ARRAY_SHORT_INDEX_SCALE", type := .int, accessFlags := 25, slot := 5, constantValue := 0 }, { name := "LOG2_ARRAY_INT_INDEX_SCALE", type := .int, accessFlags := 25, slot := 6, constantValue := 0 }, { name := "LOG2_ARRAY_LONG_INDEX_SCALE", type := .int, accessFlags := 25, slot := 7, constantValue := 0 }, { name := "LOG2_ARRAY_FLOAT_INDEX_SCALE", type := .int, accessFlags := 25, slot := 8, constantValue := 0 }, { name := "LOG2_ARRAY_DOUBLE_INDEX_SCALE", type := .int, accessFlags := 25, slot := 9, constantValue := 0 }, { name := "LOG2_BYTE_BIT_SIZE", type := .int, accessFlags := 26, slot := 10, constantValue := 0 }, { name := "T_BOOLEAN", type := .int, accessFlags := 25, slot := 11, constantValue := 0 }, { name := "T_CHAR", type := .int, accessFlags := 25, slot := 12, constantValue := 0 }, { name := "T_FLOAT", type := .int, accessFlags := 25, slot := 13, constantValue := 0 }, { name := "T_DOUBLE", type := .int, accessFlags := 25, slot := 14, constantValue := 0 }, { name := "T_BYTE", type := .int, accessFlags := 25, slot := 15, constantValue := 0 }, { name := "T_SHORT", type := .int, accessFlags := 25, slot := 16, constantValue := 0 }, { name := "T_INT", type := .int, accessFlags := 25, slot := 17, constantValue := 0 }, { name := "T_LONG", type := .int, accessFlags := 25, slot := 18, constantValue := 0 }, { name := "JLA", type := (.object "jdk/internal/access/JavaLangAccess"), accessFlags := 26, slot := 19, constantValue := 0 }, { name := "SOFT_MAX_ARRAY_LENGTH", type := .int, accessFlags := 25, slot := 20, constantValue := 0 }]
  methods := #[k14m0]
  instanceTypes := #[]
  staticTypes := #[(.object "jdk/internal/misc/Unsafe"), .boolean, .int, .int, .int, .int, .int, .int, .int, .int, .int, .int, .int, .int, .int, .int, .int, .int, .int, (.object "jdk/internal/access/JavaLangAccess"), .int]
  resolved := Array.replicate 378 none
  statics := none }

def pool15 : Array CpInfo := pool [(1, u "java/lang/Cloneable"), (0, .class_ 1), (0, u "java/lang/Object"), (0, .class_ 3)] 3

/-- java/lang/Cloneable -/
def k15 : Class := { plain "java/lang/Cloneable" (some 0) with
  accessFlags := 1537
  interfaces := #[]
  cf := some (fileOf pool15 2 #[] #[] 1537 4 #[] #[])
  fields := #[]
  methods := #[]
  instanceTypes := #[]
  staticTypes := #[]
  resolved := Array.replicate 8 none
  statics := none }

/-- the primitive byte -/
def k16 : Class := { plain "byte" none with kind := .primitive 'B', accessFlags := 0x411 }
/-- [B -/
def k17 : Class := { plain "[B" (some 0) with kind := .array 16 .byte, interfaces := #[15, 2], accessFlags := 1041 }

/-- the primitive char -/
def k18 : Class := { plain "char" none with kind := .primitive 'C', accessFlags := 0x411 }
/-- [C -/
def k19 : Class := { plain "[C" (some 0) with kind := .array 18 .char, interfaces := #[15, 2], accessFlags := 1041 }

/-- the primitive int -/
def k20 : Class := { plain "int" none with kind := .primitive 'I', accessFlags := 0x411 }
/-- [I -/
def k21 : Class := { plain "[I" (some 0) with kind := .array 20 .int, interfaces := #[15, 2], accessFlags := 1041 }

def heap : Heap := #[{ cls := 7, slots := #[.long 0, .int 1, .null, .int 0, .null, .int 0, .int 0], vm := .statics 7 },
  { cls := 11, slots := #[.int 0, .int 8, .int 0, .int 1], vm := .statics 11 },
  { cls := 12, slots := #[.null, .null, .null], vm := .statics 12 }]
def classes : Array Class := #[k0, k1, k2, k3, k4, k5, k6, k7, k8, k9, k10, k11, k12, k13, k14, k15, k16, k17, k18, k19, k20, k21]
def interned : List (Array UInt16 × Addr) := []
def slotsUsed : Nat := 14
def theMethod : MethodId := ⟨1, 1⟩
def args0 : Array Value := #[.long 5, .long 65, .int 66]
def aboutOver (below : List Frame) : State where
  vm := { classes := classes, interned := interned.toArray }
  heap := heap
  slotsUsed := slotsUsed
  threads := #[{ frames := .invoking theMethod args0 :: below }]
def below0 : List Frame := [.native { method := ⟨0, 0⟩, args := #[] }]
def about1 : State := aboutOver below0
def p0 : Program := .bare "" "" ""
def e0 : Env := launch0.env 0 0 0
theorem w_frames : about1.frames = Frame.invoking theMethod args0 :: below0 := rfl
set_option maxRecDepth 65536 in
theorem w_args : argsFit about1.vm theMethod args0 = true := by decide +kernel
set_option maxRecDepth 65536 in
theorem w_heap : heapFits about1 = true := by decide +kernel
set_option maxRecDepth 65536 in
theorem w_runnable : about1.curStatus? = some .runnable := by decide +kernel
set_option maxRecDepth 65536 in
theorem w_alone : about1.alone = true := by decide +kernel
set_option maxRecDepth 65536 in
theorem w_named : about1.methodNamed? x = some theMethod := by decide +kernel
set_option maxRecDepth 65536 in
theorem w_hears : about1.hears theMethod below0 = true := by decide +kernel
set_option maxRecDepth 65536 in
theorem w_ripe : about1.ripe theMethod args0 below0 = true := by decide +kernel
theorem w_running : about1.status = .running := rfl
set_option maxRecDepth 65536 in
theorem w_room : about1.hasRoom e0.platform room_1 = true :=
  launch0.hasRoom_least _ room_1 (by decide +kernel) (by decide +kernel) (by decide +kernel) (by decide +kernel) (by decide +kernel) (by decide +kernel)
theorem allAtoms_all (ts : List Jvm.Cond) (a : Array Jvm.Value) (st : Jvm.State) : (allAtoms ts).before a st = ts.all (fun c => c.before a st) := by
  induction ts with
  | nil => rfl
  | cons c t ih =>
    show (Jvm.Cond.and c (allAtoms t)).before a st = _
    rw [Jvm.Cond.before_and, ih, List.all_cons]
def words1 : List Jvm.Cond := Jvm.Cond.code x code maxLocals ret :: tables_1
/-- a 'code' word, met by the world's own term for the bytes: nothing is compared byte by byte -/
theorem code_word {y : MethodName} {bytes : ByteArray} {mx : Nat} {rt : Option FieldType} {a : Array Value} {s : State} {m : MethodId} {meth : Method} {c : Code} (h1 : s.methodNamed? y = some m) (h2 : s.vm.method? m = some meth) (h3 : meth.code = some c) (h4 : c.code = bytes)
    (h5 : (c.maxLocals == mx && c.exceptionTable.isEmpty && decide (c.maxStack ≤ mostOperands) && decide (meth.sig.returnType = rt) && !meth.locks && decide (parseMethodDescriptor y.desc = some meth.sig)) = true) : (Jvm.Cond.code y bytes mx rt).before a s = true := by
  simp only [Bool.and_eq_true, beq_iff_eq, Bool.not_eq_true', decide_eq_true_eq] at h5
  obtain ⟨⟨⟨⟨⟨g1, g2⟩, g3⟩, g4⟩, g5⟩, g6⟩ := h5
  simp [Cond.before, Cond.holds, Cond.value, h1, h2, h3, h4, g1, g2, g3, g4, g5, g6]
def isCode : Jvm.Cond → Bool
  | .code _ _ _ _ => true
  | _ => false
theorem all_split {L : List Jvm.Cond} {P : Jvm.Cond → Bool} (h1 : L.all (fun c => isCode c || P c) = true) (h2 : ∀ c ∈ L.filter isCode, P c = true) : L.all P = true := by
  refine List.all_eq_true.mpr fun c hc => ?_
  have h := List.all_eq_true.mp h1 c hc
  rcases Bool.eq_false_or_eq_true (isCode c) with hi | hi
  · exact h2 c (List.mem_filter.mpr ⟨hc, hi⟩)
  · simpa [hi] using h
set_option maxRecDepth 65536 in
theorem w_c0 : (Jvm.Cond.code x code maxLocals ret).before args0 about1 = true := code_word (m := ⟨1, 1⟩) (meth := k1m1) (c := k1c1) (by decide +kernel) rfl rfl rfl (by decide +kernel)
set_option maxRecDepth 65536 in
theorem w_c1 : (Jvm.Cond.code ({ cls := "com/example/closemark/closemark/csv/CsvReaderHasShapePinLaw", name := "textChar", desc := "(JII)C" } : Jvm.MethodName) method_4_code (5 : Nat) (Option.some Jvm.ClassFile.FieldType.char)).before args0 about1 = true := code_word (m := ⟨1, 3⟩) (meth := k1m3) (c := k1c3) (by decide +kernel) rfl rfl rfl (by decide +kernel)
set_option maxRecDepth 65536 in
theorem w_c2 : (Jvm.Cond.code ({ cls := "com/example/closemark/closemark/csv/CsvReaderHasShapePinLaw", name := "shapeChar", desc := "(JIIC)C" } : Jvm.MethodName) method_5_code (7 : Nat) (Option.some Jvm.ClassFile.FieldType.char)).before args0 about1 = true := code_word (m := ⟨1, 4⟩) (meth := k1m4) (c := k1c4) (by decide +kernel) rfl rfl rfl (by decide +kernel)
set_option maxRecDepth 65536 in
theorem w_c3 : (Jvm.Cond.code ({ cls := "com/example/closemark/closemark/csv/CsvReaderHasShapePinLaw", name := "str", desc := "(CCCCI)Ljava/lang/String;" } : Jvm.MethodName) method_6_code (5 : Nat) (Option.some (Jvm.ClassFile.FieldType.object "java/lang/String"))).before args0 about1 = true := code_word (m := ⟨1, 5⟩) (meth := k1m5) (c := k1c5) (by decide +kernel) rfl rfl rfl (by decide +kernel)
set_option maxRecDepth 65536 in
theorem w_c4 : (Jvm.Cond.code ({ cls := "java/lang/String", name := "<init>", desc := "([C)V" } : Jvm.MethodName) jdk_42_method_3_code (2 : Nat) (Option.none : Option Jvm.ClassFile.FieldType)).before args0 about1 = true := code_word (m := ⟨7, 1⟩) (meth := k7m1) (c := k7c1) (by decide +kernel) rfl rfl rfl (by decide +kernel)
set_option maxRecDepth 65536 in
theorem w_c5 : (Jvm.Cond.code ({ cls := "java/lang/String", name := "<init>", desc := "([CIILjava/lang/Void;)V" } : Jvm.MethodName) jdk_42_method_149_code (6 : Nat) (Option.none : Option Jvm.ClassFile.FieldType)).before args0 about1 = true := code_word (m := ⟨7, 4⟩) (meth := k7m4) (c := k7c4) (by decide +kernel) rfl rfl rfl (by decide +kernel)
set_option maxRecDepth 65536 in
theorem w_c6 : (Jvm.Cond.code ({ cls := "java/lang/Object", name := "<init>", desc := "()V" } : Jvm.MethodName) object_method_1_code (1 : Nat) (Option.none : Option Jvm.ClassFile.FieldType)).before args0 about1 = true := code_word (m := ⟨0, 0⟩) (meth := k0m0) (c := k0c0) (by decide +kernel) rfl rfl rfl (by decide +kernel)
set_option maxRecDepth 65536 in
theorem w_c7 : (Jvm.Cond.code ({ cls := "com/example/closemark/closemark/csv/CsvReader", name := "hasShape", desc := "(Ljava/lang/String;Ljava/lang/String;)Z" } : Jvm.MethodName) prog_11_method_24_code (6 : Nat) (Option.some Jvm.ClassFile.FieldType.boolean)).before args0 about1 = true := code_word (m := ⟨10, 0⟩) (meth := k10m0) (c := k10c0) (by decide +kernel) rfl rfl rfl (by decide +kernel)
set_option maxRecDepth 65536 in
theorem w_c8 : (Jvm.Cond.code ({ cls := "java/lang/String", name := "length", desc := "()I" } : Jvm.MethodName) jdk_42_method_54_code (1 : Nat) (Option.some Jvm.ClassFile.FieldType.int)).before args0 about1 = true := code_word (m := ⟨7, 2⟩) (meth := k7m2) (c := k7c2) (by decide +kernel) rfl rfl rfl (by decide +kernel)
set_option maxRecDepth 65536 in
theorem w_c9 : (Jvm.Cond.code ({ cls := "java/lang/String", name := "coder", desc := "()B" } : Jvm.MethodName) jdk_42_method_152_code (1 : Nat) (Option.some Jvm.ClassFile.FieldType.byte)).before args0 about1 = true := code_word (m := ⟨7, 5⟩) (meth := k7m5) (c := k7c5) (by decide +kernel) rfl rfl rfl (by decide +kernel)
set_option maxRecDepth 65536 in
theorem w_c10 : (Jvm.Cond.code ({ cls := "java/lang/StringUTF16", name := "compress", desc := "([CII)[B" } : Jvm.MethodName) jdk_52_method_16_code (6 : Nat) (Option.some (Jvm.ClassFile.FieldType.array Jvm.ClassFile.FieldType.byte))).before args0 about1 = true := code_word (m := ⟨11, 8⟩) (meth := k11m8) (c := k11c8) (by decide +kernel) rfl rfl rfl (by decide +kernel)
set_option maxRecDepth 65536 in
theorem w_c11 : (Jvm.Cond.code ({ cls := "java/lang/StringUTF16", name := "compress", desc := "([CI[BII)I" } : Jvm.MethodName) jdk_52_method_21_code (7 : Nat) (Option.some Jvm.ClassFile.FieldType.int)).before args0 about1 = true := code_word (m := ⟨11, 9⟩) (meth := k11m9) (c := k11c9) (by decide +kernel) rfl rfl rfl (by decide +kernel)
set_option maxRecDepth 65536 in
theorem w_c12 : (Jvm.Cond.code ({ cls := "java/lang/StringUTF16", name := "coderFromArrayLen", desc := "([BI)B" } : Jvm.MethodName) jdk_52_method_15_code (2 : Nat) (Option.some Jvm.ClassFile.FieldType.byte)).before args0 about1 = true := code_word (m := ⟨11, 7⟩) (meth := k11m7) (c := k11c7) (by decide +kernel) rfl rfl rfl (by decide +kernel)
set_option maxRecDepth 65536 in
theorem w_c13 : (Jvm.Cond.code ({ cls := "java/lang/StringUTF16", name := "toBytes", desc := "([CII)[B" } : Jvm.MethodName) jdk_52_method_14_code (5 : Nat) (Option.some (Jvm.ClassFile.FieldType.array Jvm.ClassFile.FieldType.byte))).before args0 about1 = true := code_word (m := ⟨11, 6⟩) (meth := k11m6) (c := k11c6) (by decide +kernel) rfl rfl rfl (by decide +kernel)
set_option maxRecDepth 65536 in
theorem w_c14 : (Jvm.Cond.code ({ cls := "java/lang/StringUTF16", name := "newBytesFor", desc := "(I)[B" } : Jvm.MethodName) jdk_52_method_2_code (1 : Nat) (Option.some (Jvm.ClassFile.FieldType.array Jvm.ClassFile.FieldType.byte))).before args0 about1 = true := code_word (m := ⟨11, 1⟩) (meth := k11m1) (c := k11c1) (by decide +kernel) rfl rfl rfl (by decide +kernel)
set_option maxRecDepth 65536 in
theorem w_c15 : (Jvm.Cond.code ({ cls := "java/lang/StringUTF16", name := "newBytesLength", desc := "(I)I" } : Jvm.MethodName) jdk_52_method_3_code (1 : Nat) (Option.some Jvm.ClassFile.FieldType.int)).before args0 about1 = true := code_word (m := ⟨11, 2⟩) (meth := k11m2) (c := k11c2) (by decide +kernel) rfl rfl rfl (by decide +kernel)
set_option maxRecDepth 65536 in
theorem w_c16 : (Jvm.Cond.code ({ cls := "java/lang/StringUTF16", name := "putChar", desc := "([BII)V" } : Jvm.MethodName) jdk_52_method_4_code (3 : Nat) (Option.none : Option Jvm.ClassFile.FieldType)).before args0 about1 = true := code_word (m := ⟨11, 3⟩) (meth := k11m3) (c := k11c3) (by decide +kernel) rfl rfl rfl (by decide +kernel)
set_option maxRecDepth 65536 in
theorem w_c17 : (Jvm.Cond.code ({ cls := "java/lang/StringUTF16", name := "getChar", desc := "([BI)C" } : Jvm.MethodName) jdk_52_method_5_code (2 : Nat) (Option.some Jvm.ClassFile.FieldType.char)).before args0 about1 = true := code_word (m := ⟨11, 4⟩) (meth := k11m4) (c := k11c4) (by decide +kernel) rfl rfl rfl (by decide +kernel)
set_option maxRecDepth 65536 in
theorem w_c18 : (Jvm.Cond.code ({ cls := "com/example/closemark/closemark/csv/CsvReaderHasShapePinLaw", name := "fits", desc := "(CC)Z" } : Jvm.MethodName) method_3_code (2 : Nat) (Option.some Jvm.ClassFile.FieldType.boolean)).before args0 about1 = true := code_word (m := ⟨1, 2⟩) (meth := k1m2) (c := k1c2) (by decide +kernel) rfl rfl rfl (by decide +kernel)
set_option maxRecDepth 65536 in
theorem w_c19 : (Jvm.Cond.code ({ cls := "java/lang/String", name := "charAt", desc := "(I)C" } : Jvm.MethodName) jdk_42_method_56_code (2 : Nat) (Option.some Jvm.ClassFile.FieldType.char)).before args0 about1 = true := code_word (m := ⟨7, 3⟩) (meth := k7m3) (c := k7c3) (by decide +kernel) rfl rfl rfl (by decide +kernel)
set_option maxRecDepth 65536 in
theorem w_c20 : (Jvm.Cond.code ({ cls := "java/lang/String", name := "isLatin1", desc := "()Z" } : Jvm.MethodName) jdk_42_method_154_code (1 : Nat) (Option.some Jvm.ClassFile.FieldType.boolean)).before args0 about1 = true := code_word (m := ⟨7, 6⟩) (meth := k7m6) (c := k7c6) (by decide +kernel) rfl rfl rfl (by decide +kernel)
set_option maxRecDepth 65536 in
theorem w_c21 : (Jvm.Cond.code ({ cls := "java/lang/StringUTF16", name := "charAt", desc := "([BI)C" } : Jvm.MethodName) jdk_52_method_83_code (2 : Nat) (Option.some Jvm.ClassFile.FieldType.char)).before args0 about1 = true := code_word (m := ⟨11, 10⟩) (meth := k11m10) (c := k11c10) (by decide +kernel) rfl rfl rfl (by decide +kernel)
set_option maxRecDepth 65536 in
theorem w_c22 : (Jvm.Cond.code ({ cls := "java/lang/StringUTF16", name := "checkIndex", desc := "(I[B)V" } : Jvm.MethodName) jdk_52_method_91_code (2 : Nat) (Option.none : Option Jvm.ClassFile.FieldType)).before args0 about1 = true := code_word (m := ⟨11, 11⟩) (meth := k11m11) (c := k11c11) (by decide +kernel) rfl rfl rfl (by decide +kernel)
set_option maxRecDepth 65536 in
theorem w_c23 : (Jvm.Cond.code ({ cls := "java/lang/StringUTF16", name := "length", desc := "([B)I" } : Jvm.MethodName) jdk_52_method_6_code (1 : Nat) (Option.some Jvm.ClassFile.FieldType.int)).before args0 about1 = true := code_word (m := ⟨11, 5⟩) (meth := k11m5) (c := k11c5) (by decide +kernel) rfl rfl rfl (by decide +kernel)
set_option maxRecDepth 65536 in
theorem w_c24 : (Jvm.Cond.code ({ cls := "java/lang/String", name := "checkIndex", desc := "(II)V" } : Jvm.MethodName) jdk_42_method_155_code (2 : Nat) (Option.none : Option Jvm.ClassFile.FieldType)).before args0 about1 = true := code_word (m := ⟨7, 7⟩) (meth := k7m7) (c := k7c7) (by decide +kernel) rfl rfl rfl (by decide +kernel)
set_option maxRecDepth 65536 in
theorem w_c25 : (Jvm.Cond.code ({ cls := "jdk/internal/util/Preconditions", name := "checkIndex", desc := "(IILjava/util/function/BiFunction;)I" } : Jvm.MethodName) jdk_41_method_11_code (3 : Nat) (Option.some Jvm.ClassFile.FieldType.int)).before args0 about1 = true := code_word (m := ⟨12, 1⟩) (meth := k12m1) (c := k12c1) (by decide +kernel) rfl rfl rfl (by decide +kernel)
set_option maxRecDepth 65536 in
theorem w_c26 : (Jvm.Cond.code ({ cls := "java/lang/StringLatin1", name := "charAt", desc := "([BI)C" } : Jvm.MethodName) jdk_43_method_2_code (2 : Nat) (Option.some Jvm.ClassFile.FieldType.char)).before args0 about1 = true := code_word (m := ⟨13, 1⟩) (meth := k13m1) (c := k13c1) (by decide +kernel) rfl rfl rfl (by decide +kernel)
set_option maxRecDepth 65536 in
theorem w_c27 : (Jvm.Cond.code ({ cls := "com/example/closemark/closemark/csv/CsvReader", name := "isDigit", desc := "(C)Z" } : Jvm.MethodName) prog_11_method_29_code (1 : Nat) (Option.some Jvm.ClassFile.FieldType.boolean)).before args0 about1 = true := code_word (m := ⟨10, 1⟩) (meth := k10m1) (c := k10c1) (by decide +kernel) rfl rfl rfl (by decide +kernel)
def codes1 : List Jvm.Cond := [Jvm.Cond.code x code maxLocals ret, Jvm.Cond.code ({ cls := "com/example/closemark/closemark/csv/CsvReaderHasShapePinLaw", name := "textChar", desc := "(JII)C" } : Jvm.MethodName) method_4_code (5 : Nat) (Option.some Jvm.ClassFile.FieldType.char), Jvm.Cond.code ({ cls := "com/example/closemark/closemark/csv/CsvReaderHasShapePinLaw", name := "shapeChar", desc := "(JIIC)C" } : Jvm.MethodName) method_5_code (7 : Nat) (Option.some Jvm.ClassFile.FieldType.char), Jvm.Cond.code ({ cls := "com/example/closemark/closemark/csv/CsvReaderHasShapePinLaw", name := "str", desc := "(CCCCI)Ljava/lang/String;" } : Jvm.MethodName) method_6_code (5 : Nat) (Option.some (Jvm.ClassFile.FieldType.object "java/lang/String")), Jvm.Cond.code ({ cls := "java/lang/String", name := "<init>", desc := "([C)V" } : Jvm.MethodName) jdk_42_method_3_code (2 : Nat) (Option.none : Option Jvm.ClassFile.FieldType), Jvm.Cond.code ({ cls := "java/lang/String", name := "<init>", desc := "([CIILjava/lang/Void;)V" } : Jvm.MethodName) jdk_42_method_149_code (6 : Nat) (Option.none : Option Jvm.ClassFile.FieldType), Jvm.Cond.code ({ cls := "java/lang/Object", name := "<init>", desc := "()V" } : Jvm.MethodName) object_method_1_code (1 : Nat) (Option.none : Option Jvm.ClassFile.FieldType), Jvm.Cond.code ({ cls := "com/example/closemark/closemark/csv/CsvReader", name := "hasShape", desc := "(Ljava/lang/String;Ljava/lang/String;)Z" } : Jvm.MethodName) prog_11_method_24_code (6 : Nat) (Option.some Jvm.ClassFile.FieldType.boolean), Jvm.Cond.code ({ cls := "java/lang/String", name := "length", desc := "()I" } : Jvm.MethodName) jdk_42_method_54_code (1 : Nat) (Option.some Jvm.ClassFile.FieldType.int), Jvm.Cond.code ({ cls := "java/lang/String", name := "coder", desc := "()B" } : Jvm.MethodName) jdk_42_method_152_code (1 : Nat) (Option.some Jvm.ClassFile.FieldType.byte), Jvm.Cond.code ({ cls := "java/lang/StringUTF16", name := "compress", desc := "([CII)[B" } : Jvm.MethodName) jdk_52_method_16_code (6 : Nat) (Option.some (Jvm.ClassFile.FieldType.array Jvm.ClassFile.FieldType.byte)), Jvm.Cond.code ({ cls := "java/lang/StringUTF16", name := "compress", desc := "([CI[BII)I" } : Jvm.MethodName) jdk_52_method_21_code (7 : Nat) (Option.some Jvm.ClassFile.FieldType.int), Jvm.Cond.code ({ cls := "java/lang/StringUTF16", name := "coderFromArrayLen", desc := "([BI)B" } : Jvm.MethodName) jdk_52_method_15_code (2 : Nat) (Option.some Jvm.ClassFile.FieldType.byte), Jvm.Cond.code ({ cls := "java/lang/StringUTF16", name := "toBytes", desc := "([CII)[B" } : Jvm.MethodName) jdk_52_method_14_code (5 : Nat) (Option.some (Jvm.ClassFile.FieldType.array Jvm.ClassFile.FieldType.byte)), Jvm.Cond.code ({ cls := "java/lang/StringUTF16", name := "newBytesFor", desc := "(I)[B" } : Jvm.MethodName) jdk_52_method_2_code (1 : Nat) (Option.some (Jvm.ClassFile.FieldType.array Jvm.ClassFile.FieldType.byte)), Jvm.Cond.code ({ cls := "java/lang/StringUTF16", name := "newBytesLength", desc := "(I)I" } : Jvm.MethodName) jdk_52_method_3_code (1 : Nat) (Option.some Jvm.ClassFile.FieldType.int), Jvm.Cond.code ({ cls := "java/lang/StringUTF16", name := "putChar", desc := "([BII)V" } : Jvm.MethodName) jdk_52_method_4_code (3 : Nat) (Option.none : Option Jvm.ClassFile.FieldType), Jvm.Cond.code ({ cls := "java/lang/StringUTF16", name := "getChar", desc := "([BI)C" } : Jvm.MethodName) jdk_52_method_5_code (2 : Nat) (Option.some Jvm.ClassFile.FieldType.char), Jvm.Cond.code ({ cls := "com/example/closemark/closemark/csv/CsvReaderHasShapePinLaw", name := "fits", desc := "(CC)Z" } : Jvm.MethodName) method_3_code (2 : Nat) (Option.some Jvm.ClassFile.FieldType.boolean), Jvm.Cond.code ({ cls := "java/lang/String", name := "charAt", desc := "(I)C" } : Jvm.MethodName) jdk_42_method_56_code (2 : Nat) (Option.some Jvm.ClassFile.FieldType.char), Jvm.Cond.code ({ cls := "java/lang/String", name := "isLatin1", desc := "()Z" } : Jvm.MethodName) jdk_42_method_154_code (1 : Nat) (Option.some Jvm.ClassFile.FieldType.boolean), Jvm.Cond.code ({ cls := "java/lang/StringUTF16", name := "charAt", desc := "([BI)C" } : Jvm.MethodName) jdk_52_method_83_code (2 : Nat) (Option.some Jvm.ClassFile.FieldType.char), Jvm.Cond.code ({ cls := "java/lang/StringUTF16", name := "checkIndex", desc := "(I[B)V" } : Jvm.MethodName) jdk_52_method_91_code (2 : Nat) (Option.none : Option Jvm.ClassFile.FieldType), Jvm.Cond.code ({ cls := "java/lang/StringUTF16", name := "length", desc := "([B)I" } : Jvm.MethodName) jdk_52_method_6_code (1 : Nat) (Option.some Jvm.ClassFile.FieldType.int), Jvm.Cond.code ({ cls := "java/lang/String", name := "checkIndex", desc := "(II)V" } : Jvm.MethodName) jdk_42_method_155_code (2 : Nat) (Option.none : Option Jvm.ClassFile.FieldType), Jvm.Cond.code ({ cls := "jdk/internal/util/Preconditions", name := "checkIndex", desc := "(IILjava/util/function/BiFunction;)I" } : Jvm.MethodName) jdk_41_method_11_code (3 : Nat) (Option.some Jvm.ClassFile.FieldType.int), Jvm.Cond.code ({ cls := "java/lang/StringLatin1", name := "charAt", desc := "([BI)C" } : Jvm.MethodName) jdk_43_method_2_code (2 : Nat) (Option.some Jvm.ClassFile.FieldType.char), Jvm.Cond.code ({ cls := "com/example/closemark/closemark/csv/CsvReader", name := "isDigit", desc := "(C)Z" } : Jvm.MethodName) prog_11_method_29_code (1 : Nat) (Option.some Jvm.ClassFile.FieldType.boolean)]
set_option maxRecDepth 65536 in
theorem codes_eq : words1.filter isCode = codes1 := rfl
theorem w_codes : ∀ c ∈ words1.filter isCode, c.before args0 about1 = true := by
  rw [codes_eq]
  intro c hc
  simp only [codes1, List.mem_cons, List.not_mem_nil, or_false] at hc
  rcases hc with rfl | rfl | rfl | rfl | rfl | rfl | rfl | rfl | rfl | rfl | rfl | rfl | rfl | rfl | rfl | rfl | rfl | rfl | rfl | rfl | rfl | rfl | rfl | rfl | rfl | rfl | rfl | rfl
  · exact w_c0
  · exact w_c1
  · exact w_c2
  · exact w_c3
  · exact w_c4
  · exact w_c5
  · exact w_c6
  · exact w_c7
  · exact w_c8
  · exact w_c9
  · exact w_c10
  · exact w_c11
  · exact w_c12
  · exact w_c13
  · exact w_c14
  · exact w_c15
  · exact w_c16
  · exact w_c17
  · exact w_c18
  · exact w_c19
  · exact w_c20
  · exact w_c21
  · exact w_c22
  · exact w_c23
  · exact w_c24
  · exact w_c25
  · exact w_c26
  · exact w_c27
set_option maxRecDepth 65536 in
theorem w_t1 : (words1.take 24).all (fun c => isCode c || c.before args0 about1) = true := by decide +kernel
set_option maxRecDepth 65536 in
theorem w_t2 : ((words1.drop 24).take 24).all (fun c => isCode c || c.before args0 about1) = true := by decide +kernel
set_option maxRecDepth 65536 in
theorem w_t3 : (((words1.drop 24).drop 24).take 24).all (fun c => isCode c || c.before args0 about1) = true := by decide +kernel
set_option maxRecDepth 65536 in
theorem w_t4 : ((((words1.drop 24).drop 24).drop 24).take 24).all (fun c => isCode c || c.before args0 about1) = true := by decide +kernel
set_option maxRecDepth 65536 in
theorem w_t5 : ((((words1.drop 24).drop 24).drop 24).drop 24).all (fun c => isCode c || c.before args0 about1) = true := by decide +kernel
theorem w_tables : (allAtoms (Jvm.Cond.code x code maxLocals ret :: tables_1)).before args0 about1 = true := by
  rw [allAtoms_all]
  show words1.all (fun c => c.before args0 about1) = true
  refine all_split ?_ w_codes
  rw [← List.take_append_drop 24 words1, List.all_append, w_t1, ← List.take_append_drop 24 (words1.drop 24), List.all_append, w_t2, ← List.take_append_drop 24 ((words1.drop 24).drop 24), List.all_append, w_t3, ← List.take_append_drop 24 (((words1.drop 24).drop 24).drop 24), List.all_append, w_t4, w_t5]
  rfl
set_option maxRecDepth 65536 in
theorem w_rest : rest_1_c.before args0 about1 = true := by decide +kernel
set_option maxRecDepth 65536 in
theorem w_case : (Jvm.Cond.and given_1 narrow_1).before args0 about1 = true := by decide +kernel
set_option maxRecDepth 65536 in
theorem w_consts : constsHeld consts_1 about1 := Jvm.Lit.constsHeldB_iff.mp (by decide +kernel)
theorem w_applies : (headSpec (Jvm.Cond.code x code maxLocals ret :: tables_1) room_1).applies x e0.platform about1 = true :=
  (Spec.applies_iff w_frames).mpr ⟨w_running, w_runnable, w_alone, w_named, w_hears, w_ripe, w_room, w_tables⟩
theorem atStart : AtStart classFile x code maxLocals ret World_1 tables_1 room_1 Calls_1 rest_1 Pre_1 launch0 p0 e0 about1 theMethod args0 below0 :=
  ⟨lists_1, trivial, launch0.admits_env _ _ _, launch0.least_env, fairChoices_fair.cas, fairChoices_fair.clock, w_frames, w_args, w_heap, w_applies, ⟨w_consts, trivial⟩, w_rest, w_case⟩
end start1
theorem witness_1 : WitnessClaimed_1 := ⟨start1.p0, start1.e0, start1.about1, start1.theMethod, start1.args0, start1.below0, start1.atStart⟩
end Jvm.Pilot.@@N@@
