import JvmDerived
import JvmDerived.Pilot.@@N@@Statement
import JvmDerived.Pilot.@@N@@Code
set_option linter.unusedVariables false
set_option linter.unusedSimpArgs false
@@BLOCK:NumsL.lean.txt@@
namespace Jvm.RoadKit
open Sem ClassFile Op Lib Jvm.Stand Jvm.Free Jvm.LawKit
section Own
variable {p : Program} {l : Launch} {e : Env} {R : Room} {s : State} {m : MethodId} {args : Array Value} {below : List Frame} {meth : Method} {c : Code} {T : State} {locs : List Loc} {cells slots : Nat}
/-- from U the run ends, and P is said of the end -/
def Go (p : Program) (e : Env) (below : List Frame) (U : State) (P : Outcome → State → Prop) : Prop := ∃ s₂ o, Steps p.tables e below U s₂ ∧ s₂.status = .running ∧ Ended s₂ below o ∧ P o s₂
theorem Go.st {U U' : State} {P : Outcome → State → Prop} (k : ∀ t, Steps p.tables e below U' t → Steps p.tables e below U t) (g : Go p e below U' P) : Go p e below U P := by
  obtain ⟨t, o, a, r⟩ := g
  exact ⟨t, o, k t a, r⟩
theorem Go.tr {U U' : State} {P : Outcome → State → Prop} (k : Steps p.tables e below U U') (g : Go p e below U' P) : Go p e below U P := by
  obtain ⟨t, o, a, r⟩ := g
  exact ⟨t, o, k.trans a, r⟩
theorem Go.fin (X : Stand p l e R s m args below meth c T locs cells slots) {v : Option Value} (hv : meth.sig.returnType = none → v = none) (hlocks : meth.locks = false) {U : State} {P : Outcome → State → Prop}
    (st : ∀ fs, (∀ (f : JFrame) (acts : List Action), f.method = m → f.locked = none → f.entered = [] → (doReturn e (T.setTop f) acts v).1 = T.setFrames fs) → Steps p.tables e below U (T.setFrames fs))
    (hP : ∀ U' : State, U'.heap = T.heap → FrameEnd s (.returned v) U' locs cells slots → P (.returned v) U') : Go p e below U P := by
  obtain ⟨fs, hr, hrun, hended, hW, hsame⟩ := X.leave hv hlocks
  exact ⟨_, _, st fs hr, hrun, hended, hP _ rfl ⟨⟨_, rfl⟩, hW, hsame⟩⟩
theorem own_ord {a0 : Array Value} {t : Term} {a : Addr} {C n d : String} {k : Int32} (ev : t.eval a0 s none [] s = some (.ref a)) (h : (Cond.eq (.field t C n d) (.int k)).value a0 s none s [] = some true) : s.fieldOf? a C n d = some (.int k) := by
  have e1 := fld_at (C := C) (n := n) (dd := d) ev
  have e2 : (Term.int k).eval a0 s none [] s = some (.int k) := rfl
  cases hf : s.fieldOf? a C n d with
  | none => rw [hf] at e1; simp [Cond.value, e1] at h
  | some w =>
    rw [hf] at e1
    cases w <;> simp [Cond.value, e1, e2] at h
    rw [h]
theorem own_ne {a b : Addr} {C n d : String} {j k : Int32} (h1 : s.fieldOf? a C n d = some (.int j)) (h2 : s.fieldOf? b C n d = some (.int k)) (hne : j ≠ k) : a ≠ b := fun q => by
  subst q
  rw [h1] at h2
  exact hne (by injection (Option.some.inj h2))
theorem own_lsw {g : JFrame} {target : State} (X : Stand p l e R s m args below meth c T locs cells slots) (hx : p.tables.exec = Jvm.exec) (hg : g.method = m) {dflt : Int} {pairs : Array (Int × Int)} {len : Nat} {pc0 pc' : Nat} (hpc : g.pc = pc0)
    (hd : decode c.code g.pc = .ok (.lookupswitch dflt pairs, len)) {i : Int32} {rest : List Value} (hs : g.stack = .int i :: rest) {o : Int} (ho : lookupswitch.offset pairs.toList dflt i.toInt = o) (hso : ∀ (a b a_1 b_1 : Int), ((a, b), a_1, b_1) ∈ pairs.toList.zip pairs.toList.tail → a < a_1) (h0 : 0 ≤ (pc0 : Int) + o) (hp : ((pc0 : Int) + o).toNat = pc')
    (hr : Steps p.tables e below (T.setTop { g with pc := pc', stack := rest }) target) : Steps p.tables e below (T.setTop g) target := by
  subst hg hpc hp ho
  jvm_step X.here [X.here.top, hx, hd, hs, h0, lookupswitch.wp_chain]
  exact ⟨hso, hr⟩
theorem own_arvlt {Z : State} {h : Heap} {a : Addr} {k : ClassId} {ty : FieldType} {n : Int32} {vs : List Value} {d : Value} (V : Arv Z h a k ty n vs d) : a < h.size := by
  obtain ⟨c, A, -⟩ := V
  exact A.lt
end Own
end Jvm.RoadKit
namespace Jvm.Pilot.@@N@@
open Jvm Jvm.ClassFile Sem Op Lib Jvm.Free Jvm.Stand Jvm.LawKit Jvm.RoadKit Bundle Jvm.Pilot.@@N@@.Jvm.D
theorem own_elem {args : Array Value} {s : State} {t u : Term} {x w : Addr} {cl : Cell} {j : Int32} (ev : t.eval args s none [] s = some (.ref x)) (hA : s.arrayAt? x = some cl) (eu : u.eval args s none [] s = some (.ref w)) (hj : ¬ j < 0) (h : (Cond.eq (.elem t (.int j)) u).value args s none s [] = some true) : cl.slots[j.toNatClampNeg]? = some (.ref w) := by
  have e := elem_f (a := .int j) (cl := cl) ev (Term.int_eval j) hA hj
  cases hc : cl.slots[j.toNatClampNeg]? with
  | none => rw [hc] at e; simp [Cond.value, e] at h
  | some v =>
    rw [hc] at e
    cases v <;> simp [Cond.value, e, eu] at h
    rw [h]
theorem own_len {args : Array Value} {s : State} {t : Term} {x : Addr} {cl : Cell} {z : Int32} (ev : t.eval args s none [] s = some (.ref x)) (hA : s.arrayAt? x = some cl) (h : (Cond.eq (.length t) (.int z)).value args s none s [] = some true) : cl.slots.size < 2 ^ 31 ∧ cl.slots.size.toInt32 = z := by
  by_cases hl : cl.slots.size < 2 ^ 31
  · have e := len_f ev hA hl
    have e2 : (Term.int z).eval args s none [] s = some (.int z) := rfl
    simp [Cond.value, e, e2] at h
    exact ⟨hl, h⟩
  · have e : (Term.length t).eval args s none [] s = none := by simp [Term.eval, ev, hA, hl]
    simp [Cond.value, e] at h
theorem d2_0 : decode prog_8_method_1_code 0 = .ok (.getstatic 16, 3) := by decide +kernel
theorem d2_3 : decode prog_8_method_1_code 3 = .ok (.invokevirtual 20, 3) := by decide +kernel
theorem d2_6 : decode prog_8_method_1_code 6 = .ok (.checkcast 21, 3) := by decide +kernel
theorem d2_9 : decode prog_8_method_1_code 9 = .ok (.areturn, 1) := by decide +kernel
theorem pn_4 : plainName "com/example/patuxent/patuxent/PasswordComplexity" = true := by first | (simp [plainName, overriddenIn]; done) | decide +kernel
theorem ef_rm2 (m : MethodId)  : entryFrame m #[] 0 = mkF m 0 #[] [] := by first | (simp [entryFrame, mkF, argsToLocals, Value.category]; done) | rfl
def Q_rm2 (Z : State) (w_ANY : Addr) (w_LETTER : Addr) (w_LETTER_DIGIT : Addr) (w_LETTER_DIGIT_SPECIAL : Addr) (kv : ClassId) (w__VALUES : Addr) (h0 : Heap) (n0 : Nat) (v : Option Value) (h : Heap) (L : List Loc) : Prop := v = some (.ref h0.size) ∧ Fr n0 L ∧ Ext h0 h ∧ Arv Z h h0.size kv (.object "com/example/patuxent/patuxent/PasswordComplexity") (4 : Int32) [(.ref w_ANY), (.ref w_LETTER), (.ref w_LETTER_DIGIT), (.ref w_LETTER_DIGIT_SPECIAL)] .null
set_option maxRecDepth 65536 in
set_option maxHeartbeats 40000000 in
theorem rm2 (l : Launch) (Z : State) (a0 : Array Value) (hw : ∀ d ∈ tables_1, d.before a0 Z = true) (ws : List Jvm.Cond) (w_ANY : Addr) (w_LETTER : Addr) (w_LETTER_DIGIT : Addr) (w_LETTER_DIGIT_SPECIAL : Addr) (kv : ClassId) (w__VALUES : Addr) (h0 : Heap) (n0 : Nat) (Z0 : n0 ≤ h0.size) (S__VALUES : Sta Z h0 "com/example/patuxent/patuxent/PasswordComplexity" "$VALUES" "[Lcom/example/patuxent/patuxent/PasswordComplexity;" (.ref w__VALUES)) (V_vals : Arv Z h0 w__VALUES kv (.object "com/example/patuxent/patuxent/PasswordComplexity") (4 : Int32) [(.ref w_ANY), (.ref w_LETTER), (.ref w_LETTER_DIGIT), (.ref w_LETTER_DIGIT_SPECIAL)] .null) (E_vals : Exa Z h0 w__VALUES "[Lcom/example/patuxent/patuxent/PasswordComplexity;") :
    MetFree l (⟨"com/example/patuxent/patuxent/PasswordComplexity", "values", "()[Lcom/example/patuxent/patuxent/PasswordComplexity;"⟩ : MethodName) (head1 (Jvm.Cond.code (⟨"com/example/patuxent/patuxent/PasswordComplexity", "values", "()[Lcom/example/patuxent/patuxent/PasswordComplexity;"⟩ : MethodName) prog_8_method_1_code 0 (some (.array (.object "com/example/patuxent/patuxent/PasswordComplexity"))) :: ws) ({ frames := 1, cells := 1, slots := 4, locals := 14 } : Room)) (fun a U => a = #[] ∧ Z.Warmed39 U.vm ∧ U.heap = h0) (fun _ _ _ _ _ => True) (fun _ U o U' => ∃ v L, o = .returned v ∧ Q_rm2 Z w_ANY w_LETTER w_LETTER_DIGIT w_LETTER_DIGIT_SPECIAL kv w__VALUES h0 n0 v U'.heap L ∧ FrameEnd U o U' L ({ frames := 1, cells := 1, slots := 4, locals := 14 } : Room).cells ({ frames := 1, cells := 1, slots := 4, locals := 14 } : Room).slots) := by
  refine MetFree.of_bodySF (plainFor_of_name pn_4) hisR ?_
  intro p e s m args below meth c s₁ Bd hml0 hP hK
  obtain ⟨rfl, hZ, hh⟩ := hP
  have hx := Bd.exec
  have hby := Bd.bytes
  have hml : c.maxLocals = 0 := hml0
  have hown : s.vm.findClass "com/example/patuxent/patuxent/PasswordComplexity" = some m.cls := findClass_of_methodNamed Bd.named
  have hnm := (name_of_methodNamed Bd.named Bd.method).1
  have X0 : Stand p l e ({ frames := 1, cells := 1, slots := 4, locals := 14 } : Room) s m #[] below meth c s₁ [] 0 0 := Stand.of_body Bd
  have e0 : s₁.heap = h0 := by rw [← hh, Bd.state]; rfl
  have N0 := Fr.nil n0
  show Go p e below (s₁.setTop (entryFrame m #[] 0)) (fun o U' => ∃ v L, o = .returned v ∧ Q_rm2 Z w_ANY w_LETTER w_LETTER_DIGIT w_LETTER_DIGIT_SPECIAL kv w__VALUES h0 n0 v U'.heap L ∧ FrameEnd s o U' L ({ frames := 1, cells := 1, slots := 4, locals := 14 } : Room).cells ({ frames := 1, cells := 1, slots := 4, locals := 14 } : Room).slots)
  rw [ef_rm2]
  show Go p e below (s₁.setTop (mkF m 0 #[] [])) _
  obtain ⟨T1, X1, e1, st1⟩ := getS2 X0 hx hZ hown (host := "") (Or.inl (hw _ (List.mem_of_getElem? (i := 7) rfl))) Via.refl e0 S__VALUES (g := (mkF m 0 #[] [])) rfl (hb hby d2_0)
  refine Go.st st1 ?_
  show Go p e below (T1.setTop (mkF m 3 #[] [(.ref w__VALUES)])) _
  obtain ⟨T3, h3, X3, e3, E3, A3, B3, st3⟩ := cloneH X1 hx hZ hown (hw _ (List.mem_of_getElem? (i := 9) rfl)) (hw _ (List.mem_of_getElem? (i := 10) rfl)) (hw _ (List.mem_of_getElem? (i := 14) rfl)) (hw _ (List.mem_of_getElem? (i := 12) rfl)) (hw _ (List.mem_of_getElem? (i := 13) rfl)) (hw _ (List.mem_of_getElem? (i := 15) rfl)) e1 (Arv.arh V_vals) E_vals (g := (mkF m 3 #[] [(.ref w__VALUES)])) rfl (by rw [hml]; rfl) rfl (hb hby d2_3) (by decide) (W := 0) (cap := 4) (by show 2 * 0 + _ ≤ _; exact Nat.le_of_eq rfl) (by decide) (by decide) (by decide) (by decide)
  obtain ⟨b3, g3⟩ : ∃ z_, z_ = h0.size := ⟨_, rfl⟩
  rw [← g3] at A3 B3 st3
  have g_b3 : n0 ≤ b3 := Nat.le_trans Z0 (Nat.le_of_eq g3.symm)
  have V_b3 : Arv Z h3 b3 kv (.object "com/example/patuxent/patuxent/PasswordComplexity") (4 : Int32) [(.ref w_ANY), (.ref w_LETTER), (.ref w_LETTER_DIGIT), (.ref w_LETTER_DIGIT_SPECIAL)] .null := A3
  have lt_b3 : b3 < h3.size := own_arvlt V_b3
  refine Go.st st3 ?_
  show Go p e below (T3.setTop (mkF m 6 #[] [(.ref b3)])) _
  obtain ⟨T4, X4, e4, st4⟩ := castY X3 hx hZ hown (hw _ (List.mem_of_getElem? (i := 21) rfl)) e3 (Ins.self B3) (g := (mkF m 6 #[] [(.ref b3)])) rfl rfl (hb hby d2_6)
  refine Go.st st4 ?_
  show Go p e below (T4.setTop (mkF m 9 #[] [(.ref b3)])) _
  refine Go.fin X4 (v := some (.ref b3)) (fun h_ => by rw [Bd.returns] at h_; cases h_) Bd.notSynchronized (fun _ hr => retOut X4 hx Bd.returns rfl (Or.inr (Or.inr (Or.inr (Or.inr ⟨rfl, rfl, rfl⟩)))) (hb hby d2_9) hr) (fun U' hU hF => ⟨_, _, rfl, ?_, hF.1, hF.2.1, hF.2.2.mono (by decide) (by decide)⟩)
  rw [hU, e4]
  exact ⟨(congrArg (fun z_ : Addr => some (Value.ref z_)) (show b3 = h0.size from g3)), N0, E3, (g3 ▸ V_b3)⟩
theorem pd_0 : parseMethodDescriptor "()[Lcom/example/patuxent/patuxent/PasswordComplexity;" = some ⟨[], some (.array (.object "com/example/patuxent/patuxent/PasswordComplexity"))⟩ := by decide +kernel
theorem d1_0 : decode prog_8_method_6_code 0 = .ok (.aconst_null, 1) := by decide +kernel
theorem d1_1 : decode prog_8_method_6_code 1 = .ok (.astore_n 1, 1) := by decide +kernel
theorem d1_2 : decode prog_8_method_6_code 2 = .ok (.invokestatic 43, 3) := by decide +kernel
theorem d1_5 : decode prog_8_method_6_code 5 = .ok (.astore_n 2, 1) := by decide +kernel
theorem d1_6 : decode prog_8_method_6_code 6 = .ok (.aload_n 2, 1) := by decide +kernel
theorem d1_7 : decode prog_8_method_6_code 7 = .ok (.arraylength, 1) := by decide +kernel
theorem d1_8 : decode prog_8_method_6_code 8 = .ok (.istore_n 3, 1) := by decide +kernel
theorem d1_9 : decode prog_8_method_6_code 9 = .ok (.iconst 0, 1) := by decide +kernel
theorem d1_10 : decode prog_8_method_6_code 10 = .ok (.istore 4, 2) := by decide +kernel
theorem d1_12 : decode prog_8_method_6_code 12 = .ok (.iload 4, 2) := by decide +kernel
theorem d1_14 : decode prog_8_method_6_code 14 = .ok (.iload_n 3, 1) := by decide +kernel
theorem d1_15 : decode prog_8_method_6_code 15 = .ok (.if_icmp .ge 27, 3) := by decide +kernel
theorem d1_18 : decode prog_8_method_6_code 18 = .ok (.aload_n 2, 1) := by decide +kernel
theorem d1_19 : decode prog_8_method_6_code 19 = .ok (.iload 4, 2) := by decide +kernel
theorem d1_21 : decode prog_8_method_6_code 21 = .ok (.aaload, 1) := by decide +kernel
theorem d1_22 : decode prog_8_method_6_code 22 = .ok (.astore 5, 2) := by decide +kernel
theorem d1_24 : decode prog_8_method_6_code 24 = .ok (.aload 5, 2) := by decide +kernel
theorem d1_26 : decode prog_8_method_6_code 26 = .ok (.getfield 39, 3) := by decide +kernel
theorem d1_29 : decode prog_8_method_6_code 29 = .ok (.iload_n 0, 1) := by decide +kernel
theorem d1_30 : decode prog_8_method_6_code 30 = .ok (.if_icmp .ne 6, 3) := by decide +kernel
theorem d1_33 : decode prog_8_method_6_code 33 = .ok (.aload 5, 2) := by decide +kernel
theorem d1_35 : decode prog_8_method_6_code 35 = .ok (.astore_n 1, 1) := by decide +kernel
theorem d1_36 : decode prog_8_method_6_code 36 = .ok (.iinc 4 1, 3) := by decide +kernel
theorem d1_39 : decode prog_8_method_6_code 39 = .ok (.goto (-27), 3) := by decide +kernel
theorem d1_42 : decode prog_8_method_6_code 42 = .ok (.aload_n 1, 1) := by decide +kernel
theorem d1_43 : decode prog_8_method_6_code 43 = .ok (.areturn, 1) := by decide +kernel
theorem ef_rm1_0 (m : MethodId)  : entryFrame m #[(.int (0 : Int32))] 6 = mkF m 0 #[.val (.int (0 : Int32)), .unset, .unset, .unset, .unset, .unset] [] := by first | (simp [entryFrame, mkF, argsToLocals, Value.category]; done) | rfl
def Q_rm1_0 (Z : State) (w_ANY : Addr) (w_LETTER : Addr) (w_LETTER_DIGIT : Addr) (w_LETTER_DIGIT_SPECIAL : Addr) (kv : ClassId) (w__VALUES : Addr) (h0 : Heap) (n0 : Nat) (v : Option Value) (h : Heap) (L : List Loc) : Prop := v = some (.ref w_ANY) ∧ Fr n0 L ∧ Keep h0 h []
set_option maxRecDepth 65536 in
set_option maxHeartbeats 40000000 in
theorem rm1_0 (l : Launch) (Z : State) (a0 : Array Value) (hw : ∀ d ∈ tables_1, d.before a0 Z = true) (ws : List Jvm.Cond) (w_ANY : Addr) (w_LETTER : Addr) (w_LETTER_DIGIT : Addr) (w_LETTER_DIGIT_SPECIAL : Addr) (kv : ClassId) (w__VALUES : Addr) (h0 : Heap) (n0 : Nat) (Z0 : n0 ≤ h0.size) (S__VALUES : Sta Z h0 "com/example/patuxent/patuxent/PasswordComplexity" "$VALUES" "[Lcom/example/patuxent/patuxent/PasswordComplexity;" (.ref w__VALUES)) (V_vals : Arv Z h0 w__VALUES kv (.object "com/example/patuxent/patuxent/PasswordComplexity") (4 : Int32) [(.ref w_ANY), (.ref w_LETTER), (.ref w_LETTER_DIGIT), (.ref w_LETTER_DIGIT_SPECIAL)] .null) (E_vals : Exa Z h0 w__VALUES "[Lcom/example/patuxent/patuxent/PasswordComplexity;") (F_code_ANY : Fld Z h0 w_ANY "com/example/patuxent/patuxent/PasswordComplexity" "code" "I" (.int (0 : Int32))) (F_code_LETTER : Fld Z h0 w_LETTER "com/example/patuxent/patuxent/PasswordComplexity" "code" "I" (.int (1 : Int32))) (F_code_LETTER_DIGIT : Fld Z h0 w_LETTER_DIGIT "com/example/patuxent/patuxent/PasswordComplexity" "code" "I" (.int (2 : Int32))) (F_code_LETTER_DIGIT_SPECIAL : Fld Z h0 w_LETTER_DIGIT_SPECIAL "com/example/patuxent/patuxent/PasswordComplexity" "code" "I" (.int (3 : Int32))) :
    MetFree l (⟨"com/example/patuxent/patuxent/PasswordComplexity", "ofCode", "(I)Lcom/example/patuxent/patuxent/PasswordComplexity;"⟩ : MethodName) (head1 (Jvm.Cond.code (⟨"com/example/patuxent/patuxent/PasswordComplexity", "ofCode", "(I)Lcom/example/patuxent/patuxent/PasswordComplexity;"⟩ : MethodName) prog_8_method_6_code 6 (some (.object "com/example/patuxent/patuxent/PasswordComplexity")) :: ws) ({ frames := 2, cells := 1, slots := 4, locals := 25 } : Room)) (fun a U => a = #[(.int (0 : Int32))] ∧ Z.Warmed39 U.vm ∧ U.heap = h0) (fun _ _ _ _ _ => True) (fun _ U o U' => ∃ v L, o = .returned v ∧ Q_rm1_0 Z w_ANY w_LETTER w_LETTER_DIGIT w_LETTER_DIGIT_SPECIAL kv w__VALUES h0 n0 v U'.heap L ∧ FrameEnd U o U' L ({ frames := 2, cells := 1, slots := 4, locals := 25 } : Room).cells ({ frames := 2, cells := 1, slots := 4, locals := 25 } : Room).slots) := by
  refine MetFree.of_bodySF (plainFor_of_name pn_4) hisR ?_
  intro p e s m args below meth c s₁ Bd hml0 hP hK
  obtain ⟨rfl, hZ, hh⟩ := hP
  have hx := Bd.exec
  have hby := Bd.bytes
  have hml : c.maxLocals = 6 := hml0
  have hown : s.vm.findClass "com/example/patuxent/patuxent/PasswordComplexity" = some m.cls := findClass_of_methodNamed Bd.named
  have hnm := (name_of_methodNamed Bd.named Bd.method).1
  have X0 : Stand p l e ({ frames := 2, cells := 1, slots := 4, locals := 25 } : Room) s m #[(.int (0 : Int32))] below meth c s₁ [] 0 0 := Stand.of_body Bd
  have e0 : s₁.heap = h0 := by rw [← hh, Bd.state]; rfl
  have N0 := Fr.nil n0
  show Go p e below (s₁.setTop (entryFrame m #[(.int (0 : Int32))] 6)) (fun o U' => ∃ v L, o = .returned v ∧ Q_rm1_0 Z w_ANY w_LETTER w_LETTER_DIGIT w_LETTER_DIGIT_SPECIAL kv w__VALUES h0 n0 v U'.heap L ∧ FrameEnd s o U' L ({ frames := 2, cells := 1, slots := 4, locals := 25 } : Room).cells ({ frames := 2, cells := 1, slots := 4, locals := 25 } : Room).slots)
  rw [ef_rm1_0]
  show Go p e below (s₁.setTop (mkF m 0 #[.val (.int (0 : Int32)), .unset, .unset, .unset, .unset, .unset] [])) _
  refine Go.st (fun _ k_ => XS.aconstNull X0.here hx rfl (hb hby d1_0) k_) ?_
  show Go p e below (s₁.setTop (mkF m 1 #[.val (.int (0 : Int32)), .unset, .unset, .unset, .unset, .unset] [.null])) _
  refine Go.st (fun _ k_ => XS.astoreN X0.here hx rfl (hb hby d1_1) rfl rfl (l' := #[.val (.int (0 : Int32)), .val .null, .unset, .unset, .unset, .unset]) rfl k_) ?_
  show Go p e below (s₁.setTop (mkF m 2 #[.val (.int (0 : Int32)), .val .null, .unset, .unset, .unset, .unset] [])) _
  obtain ⟨_, _, ⟨T1, L1, k1_, n1_⟩, -, X1, ⟨Lc1, hQ1, l1_, y1_, z1_⟩, st1⟩ := Jvm.LawKit.callS X0 hx (y := (⟨"com/example/patuxent/patuxent/PasswordComplexity", "values", "()[Lcom/example/patuxent/patuxent/PasswordComplexity;"⟩ : MethodName)) hown (mvT hZ (hw _ (List.mem_of_getElem? (i := 4) rfl))) (mvT hZ (hw _ (List.mem_of_getElem? (i := 5) rfl))) (mvT hZ (hw _ (List.mem_of_getElem? (i := 2) rfl))) (mvT hZ (hw _ (List.mem_of_getElem? (i := 6) rfl))) (by decide) (backOf (W := 0) (rm2 l Z a0 hw [] w_ANY w_LETTER w_LETTER_DIGIT w_LETTER_DIGIT_SPECIAL kv w__VALUES h0 n0 Z0 S__VALUES V_vals E_vals) hZ (hw _ (List.mem_of_getElem? (i := 6) rfl)) (hw _ (List.mem_of_getElem? (i := 2) rfl)) (by decide) (by decide)) (g := (mkF m 2 #[.val (.int (0 : Int32)), .val .null, .unset, .unset, .unset, .unset] [])) rfl (by rw [hml]; rfl) (argsL := []) (rest := []) (lenOf pd_0 rfl) rfl (by show 2 * 0 + _ ≤ _; exact Nat.le_of_eq rfl) (hb hby d1_2) (fun _ _ => ⟨rfl, e0, (by decide : 0 + 1 ≤ _), (by decide : 0 + 4 ≤ _)⟩)
  dsimp only [Pt.U, Pt.locs, Pt.cells, Pt.slots] at X1 l1_ y1_ z1_ st1 hQ1
  subst l1_ y1_ z1_
  obtain ⟨rfl, N1q, E1, A1⟩ := hQ1
  have N1 := Fr.app N0 N1q
  obtain ⟨b1, g1⟩ : ∃ z_, z_ = h0.size := ⟨_, rfl⟩
  rw [← g1] at A1 st1
  have g_b1 : n0 ≤ b1 := Nat.le_trans Z0 (Nat.le_of_eq g1.symm)
  have V_b1 := A1
  have lt_b1 : b1 < T1.heap.size := own_arvlt V_b1
  refine Go.st st1 ?_
  show Go p e below (T1.setTop (mkF m 5 #[.val (.int (0 : Int32)), .val .null, .unset, .unset, .unset, .unset] [(.ref b1)])) _
  refine Go.st (fun _ k_ => XS.astoreN X1.here hx rfl (hb hby d1_5) rfl rfl (l' := #[.val (.int (0 : Int32)), .val .null, .val (.ref b1), .unset, .unset, .unset]) rfl k_) ?_
  show Go p e below (T1.setTop (mkF m 6 #[.val (.int (0 : Int32)), .val .null, .val (.ref b1), .unset, .unset, .unset] [])) _
  refine Go.st (fun _ k_ => XS.aloadN X1.here hx rfl (hb hby d1_6) rfl rfl k_) ?_
  show Go p e below (T1.setTop (mkF m 7 #[.val (.int (0 : Int32)), .val .null, .val (.ref b1), .unset, .unset, .unset] [(.ref b1)])) _
  obtain ⟨cl2, Ar2, -, S2, N2_, -, -⟩ := id V_b1
  refine Go.st (X1.arraylength hx (by exact Ar2.1) (State.isArrayOf_alike hZ.alike Ar2.2.1) (g := (mkF m 7 #[.val (.int (0 : Int32)), .val .null, .val (.ref b1), .unset, .unset, .unset] [(.ref b1)])) rfl rfl (hb hby d1_7)) ?_
  rw [len_of S2 N2_]
  show Go p e below (T1.setTop (mkF m 8 #[.val (.int (0 : Int32)), .val .null, .val (.ref b1), .unset, .unset, .unset] [(.int (4 : Int32))])) _
  refine Go.st (fun _ k_ => XS.istoreN X1.here hx rfl (hb hby d1_8) rfl (l' := #[.val (.int (0 : Int32)), .val .null, .val (.ref b1), .val (.int (4 : Int32)), .unset, .unset]) rfl k_) ?_
  show Go p e below (T1.setTop (mkF m 9 #[.val (.int (0 : Int32)), .val .null, .val (.ref b1), .val (.int (4 : Int32)), .unset, .unset] [])) _
  refine Go.st (fun _ k_ => XS.iconst X1.here hx rfl (hb hby d1_9) k_) ?_
  show Go p e below (T1.setTop (mkF m 10 #[.val (.int (0 : Int32)), .val .null, .val (.ref b1), .val (.int (4 : Int32)), .unset, .unset] [(.int (0 : Int32))])) _
  refine Go.st (fun _ k_ => XS.istore X1.here hx rfl (hb hby d1_10) rfl (l' := #[.val (.int (0 : Int32)), .val .null, .val (.ref b1), .val (.int (4 : Int32)), .val (.int (0 : Int32)), .unset]) rfl k_) ?_
  show Go p e below (T1.setTop (mkF m 12 #[.val (.int (0 : Int32)), .val .null, .val (.ref b1), .val (.int (4 : Int32)), .val (.int (0 : Int32)), .unset] [])) _
  refine Go.st (fun _ k_ => XS.iload X1.here hx rfl (hb hby d1_12) rfl k_) ?_
  show Go p e below (T1.setTop (mkF m 14 #[.val (.int (0 : Int32)), .val .null, .val (.ref b1), .val (.int (4 : Int32)), .val (.int (0 : Int32)), .unset] [(.int (0 : Int32))])) _
  refine Go.st (fun _ k_ => XS.iloadN X1.here hx rfl (hb hby d1_14) rfl k_) ?_
  show Go p e below (T1.setTop (mkF m 15 #[.val (.int (0 : Int32)), .val .null, .val (.ref b1), .val (.int (4 : Int32)), .val (.int (0 : Int32)), .unset] [(.int (4 : Int32)), (.int (0 : Int32))])) _
  refine Go.st (fun _ k_ => XS.icmpNo X1.here hx rfl (hb hby d1_15) rfl (tlt (by decide : (0 : Int32) < (4 : Int32))).2.1 k_) ?_
  show Go p e below (T1.setTop (mkF m 18 #[.val (.int (0 : Int32)), .val .null, .val (.ref b1), .val (.int (4 : Int32)), .val (.int (0 : Int32)), .unset] [])) _
  refine Go.st (fun _ k_ => XS.aloadN X1.here hx rfl (hb hby d1_18) rfl rfl k_) ?_
  show Go p e below (T1.setTop (mkF m 19 #[.val (.int (0 : Int32)), .val .null, .val (.ref b1), .val (.int (4 : Int32)), .val (.int (0 : Int32)), .unset] [(.ref b1)])) _
  refine Go.st (fun _ k_ => XS.iload X1.here hx rfl (hb hby d1_19) rfl k_) ?_
  show Go p e below (T1.setTop (mkF m 21 #[.val (.int (0 : Int32)), .val .null, .val (.ref b1), .val (.int (4 : Int32)), .val (.int (0 : Int32)), .unset] [(.int (0 : Int32)), (.ref b1)])) _
  obtain ⟨cl3, Ar3, q3, S3, N3_, H3, G3⟩ := id V_b1
  have hin3 : ¬ ((0 : Int32) < 0 ∨ cl3.slots.size ≤ ((0 : Int32)).toNatClampNeg) := inb_of S3 ⟨by decide, by decide⟩
  have hat3 : cl3.slots[((0 : Int32)).toNatClampNeg]? = some (.ref w_ANY) := H3 _ (Nat.lt_of_not_le fun q_ => hin3 (Or.inr q_))
  refine Go.st (X1.aaload hx (j := (0 : Int32)) (v := (.ref w_ANY)) (by exact Ar3.1) (State.isArrayOf_alike hZ.alike Ar3.2.1) rfl Ar3.2.2 hin3 hat3 (g := (mkF m 21 #[.val (.int (0 : Int32)), .val .null, .val (.ref b1), .val (.int (4 : Int32)), .val (.int (0 : Int32)), .unset] [(.int (0 : Int32)), (.ref b1)])) rfl rfl (hb hby d1_21)) ?_
  show Go p e below (T1.setTop (mkF m 22 #[.val (.int (0 : Int32)), .val .null, .val (.ref b1), .val (.int (4 : Int32)), .val (.int (0 : Int32)), .unset] [(.ref w_ANY)])) _
  refine Go.st (fun _ k_ => XS.astore X1.here hx rfl (hb hby d1_22) rfl rfl (l' := #[.val (.int (0 : Int32)), .val .null, .val (.ref b1), .val (.int (4 : Int32)), .val (.int (0 : Int32)), .val (.ref w_ANY)]) rfl k_) ?_
  show Go p e below (T1.setTop (mkF m 24 #[.val (.int (0 : Int32)), .val .null, .val (.ref b1), .val (.int (4 : Int32)), .val (.int (0 : Int32)), .val (.ref w_ANY)] [])) _
  refine Go.st (fun _ k_ => XS.aload X1.here hx rfl (hb hby d1_24) rfl rfl k_) ?_
  show Go p e below (T1.setTop (mkF m 26 #[.val (.int (0 : Int32)), .val .null, .val (.ref b1), .val (.int (4 : Int32)), .val (.int (0 : Int32)), .val (.ref w_ANY)] [(.ref w_ANY)])) _
  have H4 := (F_code_ANY.ext E1)
  obtain ⟨T5, X5, e5, st5⟩ := getF X1 hx hZ hown (host := "") (Or.inl (hw _ (List.mem_of_getElem? (i := 23) rfl))) Via.refl rfl H4 (g := (mkF m 26 #[.val (.int (0 : Int32)), .val .null, .val (.ref b1), .val (.int (4 : Int32)), .val (.int (0 : Int32)), .val (.ref w_ANY)] [(.ref w_ANY)])) rfl rfl (hb hby d1_26)
  refine Go.st st5 ?_
  show Go p e below (T5.setTop (mkF m 29 #[.val (.int (0 : Int32)), .val .null, .val (.ref b1), .val (.int (4 : Int32)), .val (.int (0 : Int32)), .val (.ref w_ANY)] [(.int (0 : Int32))])) _
  refine Go.st (fun _ k_ => XS.iloadN X5.here hx rfl (hb hby d1_29) rfl k_) ?_
  show Go p e below (T5.setTop (mkF m 30 #[.val (.int (0 : Int32)), .val .null, .val (.ref b1), .val (.int (4 : Int32)), .val (.int (0 : Int32)), .val (.ref w_ANY)] [(.int (0 : Int32)), (.int (0 : Int32))])) _
  refine Go.st (fun _ k_ => XS.icmpNo X5.here hx rfl (hb hby d1_30) rfl (teq (by decide : (0 : Int32) = (0 : Int32))).2 k_) ?_
  show Go p e below (T5.setTop (mkF m 33 #[.val (.int (0 : Int32)), .val .null, .val (.ref b1), .val (.int (4 : Int32)), .val (.int (0 : Int32)), .val (.ref w_ANY)] [])) _
  refine Go.st (fun _ k_ => XS.aload X5.here hx rfl (hb hby d1_33) rfl rfl k_) ?_
  show Go p e below (T5.setTop (mkF m 35 #[.val (.int (0 : Int32)), .val .null, .val (.ref b1), .val (.int (4 : Int32)), .val (.int (0 : Int32)), .val (.ref w_ANY)] [(.ref w_ANY)])) _
  refine Go.st (fun _ k_ => XS.astoreN X5.here hx rfl (hb hby d1_35) rfl rfl (l' := #[.val (.int (0 : Int32)), .val (.ref w_ANY), .val (.ref b1), .val (.int (4 : Int32)), .val (.int (0 : Int32)), .val (.ref w_ANY)]) rfl k_) ?_
  show Go p e below (T5.setTop (mkF m 36 #[.val (.int (0 : Int32)), .val (.ref w_ANY), .val (.ref b1), .val (.int (4 : Int32)), .val (.int (0 : Int32)), .val (.ref w_ANY)] [])) _
  refine Go.st (fun _ k_ => XS.iinc X5.here hx rfl (hb hby d1_36) rfl (l' := #[.val (.int (0 : Int32)), .val (.ref w_ANY), .val (.ref b1), .val (.int (4 : Int32)), .val (.int (1 : Int32)), .val (.ref w_ANY)]) rfl k_) ?_
  show Go p e below (T5.setTop (mkF m 39 #[.val (.int (0 : Int32)), .val (.ref w_ANY), .val (.ref b1), .val (.int (4 : Int32)), .val (.int (1 : Int32)), .val (.ref w_ANY)] [])) _
  refine Go.st (fun _ k_ => XS.goto X5.here hx rfl (pc0 := 39) (pc' := 12) rfl (hb hby d1_39) (by decide) (by decide) k_) ?_
  show Go p e below (T5.setTop (mkF m 12 #[.val (.int (0 : Int32)), .val (.ref w_ANY), .val (.ref b1), .val (.int (4 : Int32)), .val (.int (1 : Int32)), .val (.ref w_ANY)] [])) _
  refine Go.st (fun _ k_ => XS.iload X5.here hx rfl (hb hby d1_12) rfl k_) ?_
  show Go p e below (T5.setTop (mkF m 14 #[.val (.int (0 : Int32)), .val (.ref w_ANY), .val (.ref b1), .val (.int (4 : Int32)), .val (.int (1 : Int32)), .val (.ref w_ANY)] [(.int (1 : Int32))])) _
  refine Go.st (fun _ k_ => XS.iloadN X5.here hx rfl (hb hby d1_14) rfl k_) ?_
  show Go p e below (T5.setTop (mkF m 15 #[.val (.int (0 : Int32)), .val (.ref w_ANY), .val (.ref b1), .val (.int (4 : Int32)), .val (.int (1 : Int32)), .val (.ref w_ANY)] [(.int (4 : Int32)), (.int (1 : Int32))])) _
  refine Go.st (fun _ k_ => XS.icmpNo X5.here hx rfl (hb hby d1_15) rfl (tlt (by decide : (1 : Int32) < (4 : Int32))).2.1 k_) ?_
  show Go p e below (T5.setTop (mkF m 18 #[.val (.int (0 : Int32)), .val (.ref w_ANY), .val (.ref b1), .val (.int (4 : Int32)), .val (.int (1 : Int32)), .val (.ref w_ANY)] [])) _
  refine Go.st (fun _ k_ => XS.aloadN X5.here hx rfl (hb hby d1_18) rfl rfl k_) ?_
  show Go p e below (T5.setTop (mkF m 19 #[.val (.int (0 : Int32)), .val (.ref w_ANY), .val (.ref b1), .val (.int (4 : Int32)), .val (.int (1 : Int32)), .val (.ref w_ANY)] [(.ref b1)])) _
  refine Go.st (fun _ k_ => XS.iload X5.here hx rfl (hb hby d1_19) rfl k_) ?_
  show Go p e below (T5.setTop (mkF m 21 #[.val (.int (0 : Int32)), .val (.ref w_ANY), .val (.ref b1), .val (.int (4 : Int32)), .val (.int (1 : Int32)), .val (.ref w_ANY)] [(.int (1 : Int32)), (.ref b1)])) _
  obtain ⟨cl6, Ar6, q6, S6, N6_, H6, G6⟩ := id V_b1
  have hin6 : ¬ ((1 : Int32) < 0 ∨ cl6.slots.size ≤ ((1 : Int32)).toNatClampNeg) := inb_of S6 ⟨by decide, by decide⟩
  have hat6 : cl6.slots[((1 : Int32)).toNatClampNeg]? = some (.ref w_LETTER) := H6 _ (Nat.lt_of_not_le fun q_ => hin6 (Or.inr q_))
  refine Go.st (X5.aaload hx (j := (1 : Int32)) (v := (.ref w_LETTER)) (by rw [e5]; exact Ar6.1) (State.isArrayOf_alike hZ.alike Ar6.2.1) rfl Ar6.2.2 hin6 hat6 (g := (mkF m 21 #[.val (.int (0 : Int32)), .val (.ref w_ANY), .val (.ref b1), .val (.int (4 : Int32)), .val (.int (1 : Int32)), .val (.ref w_ANY)] [(.int (1 : Int32)), (.ref b1)])) rfl rfl (hb hby d1_21)) ?_
  show Go p e below (T5.setTop (mkF m 22 #[.val (.int (0 : Int32)), .val (.ref w_ANY), .val (.ref b1), .val (.int (4 : Int32)), .val (.int (1 : Int32)), .val (.ref w_ANY)] [(.ref w_LETTER)])) _
  refine Go.st (fun _ k_ => XS.astore X5.here hx rfl (hb hby d1_22) rfl rfl (l' := #[.val (.int (0 : Int32)), .val (.ref w_ANY), .val (.ref b1), .val (.int (4 : Int32)), .val (.int (1 : Int32)), .val (.ref w_LETTER)]) rfl k_) ?_
  show Go p e below (T5.setTop (mkF m 24 #[.val (.int (0 : Int32)), .val (.ref w_ANY), .val (.ref b1), .val (.int (4 : Int32)), .val (.int (1 : Int32)), .val (.ref w_LETTER)] [])) _
  refine Go.st (fun _ k_ => XS.aload X5.here hx rfl (hb hby d1_24) rfl rfl k_) ?_
  show Go p e below (T5.setTop (mkF m 26 #[.val (.int (0 : Int32)), .val (.ref w_ANY), .val (.ref b1), .val (.int (4 : Int32)), .val (.int (1 : Int32)), .val (.ref w_LETTER)] [(.ref w_LETTER)])) _
  have H7 := (F_code_LETTER.ext E1)
  obtain ⟨T8, X8, e8, st8⟩ := getF X5 hx hZ hown (host := "") (Or.inl (hw _ (List.mem_of_getElem? (i := 23) rfl))) Via.refl e5 H7 (g := (mkF m 26 #[.val (.int (0 : Int32)), .val (.ref w_ANY), .val (.ref b1), .val (.int (4 : Int32)), .val (.int (1 : Int32)), .val (.ref w_LETTER)] [(.ref w_LETTER)])) rfl rfl (hb hby d1_26)
  refine Go.st st8 ?_
  show Go p e below (T8.setTop (mkF m 29 #[.val (.int (0 : Int32)), .val (.ref w_ANY), .val (.ref b1), .val (.int (4 : Int32)), .val (.int (1 : Int32)), .val (.ref w_LETTER)] [(.int (1 : Int32))])) _
  refine Go.st (fun _ k_ => XS.iloadN X8.here hx rfl (hb hby d1_29) rfl k_) ?_
  show Go p e below (T8.setTop (mkF m 30 #[.val (.int (0 : Int32)), .val (.ref w_ANY), .val (.ref b1), .val (.int (4 : Int32)), .val (.int (1 : Int32)), .val (.ref w_LETTER)] [(.int (0 : Int32)), (.int (1 : Int32))])) _
  refine Go.st (fun _ k_ => XS.icmpYes X8.here hx rfl (pc0 := 30) (pc' := 36) rfl (hb hby d1_30) rfl (feq (by decide : ¬ ((1 : Int32) = (0 : Int32)))).2 (by decide) (by decide) k_) ?_
  show Go p e below (T8.setTop (mkF m 36 #[.val (.int (0 : Int32)), .val (.ref w_ANY), .val (.ref b1), .val (.int (4 : Int32)), .val (.int (1 : Int32)), .val (.ref w_LETTER)] [])) _
  refine Go.st (fun _ k_ => XS.iinc X8.here hx rfl (hb hby d1_36) rfl (l' := #[.val (.int (0 : Int32)), .val (.ref w_ANY), .val (.ref b1), .val (.int (4 : Int32)), .val (.int (2 : Int32)), .val (.ref w_LETTER)]) rfl k_) ?_
  show Go p e below (T8.setTop (mkF m 39 #[.val (.int (0 : Int32)), .val (.ref w_ANY), .val (.ref b1), .val (.int (4 : Int32)), .val (.int (2 : Int32)), .val (.ref w_LETTER)] [])) _
  refine Go.st (fun _ k_ => XS.goto X8.here hx rfl (pc0 := 39) (pc' := 12) rfl (hb hby d1_39) (by decide) (by decide) k_) ?_
  show Go p e below (T8.setTop (mkF m 12 #[.val (.int (0 : Int32)), .val (.ref w_ANY), .val (.ref b1), .val (.int (4 : Int32)), .val (.int (2 : Int32)), .val (.ref w_LETTER)] [])) _
  refine Go.st (fun _ k_ => XS.iload X8.here hx rfl (hb hby d1_12) rfl k_) ?_
  show Go p e below (T8.setTop (mkF m 14 #[.val (.int (0 : Int32)), .val (.ref w_ANY), .val (.ref b1), .val (.int (4 : Int32)), .val (.int (2 : Int32)), .val (.ref w_LETTER)] [(.int (2 : Int32))])) _
  refine Go.st (fun _ k_ => XS.iloadN X8.here hx rfl (hb hby d1_14) rfl k_) ?_
  show Go p e below (T8.setTop (mkF m 15 #[.val (.int (0 : Int32)), .val (.ref w_ANY), .val (.ref b1), .val (.int (4 : Int32)), .val (.int (2 : Int32)), .val (.ref w_LETTER)] [(.int (4 : Int32)), (.int (2 : Int32))])) _
  refine Go.st (fun _ k_ => XS.icmpNo X8.here hx rfl (hb hby d1_15) rfl (tlt (by decide : (2 : Int32) < (4 : Int32))).2.1 k_) ?_
  show Go p e below (T8.setTop (mkF m 18 #[.val (.int (0 : Int32)), .val (.ref w_ANY), .val (.ref b1), .val (.int (4 : Int32)), .val (.int (2 : Int32)), .val (.ref w_LETTER)] [])) _
  refine Go.st (fun _ k_ => XS.aloadN X8.here hx rfl (hb hby d1_18) rfl rfl k_) ?_
  show Go p e below (T8.setTop (mkF m 19 #[.val (.int (0 : Int32)), .val (.ref w_ANY), .val (.ref b1), .val (.int (4 : Int32)), .val (.int (2 : Int32)), .val (.ref w_LETTER)] [(.ref b1)])) _
  refine Go.st (fun _ k_ => XS.iload X8.here hx rfl (hb hby d1_19) rfl k_) ?_
  show Go p e below (T8.setTop (mkF m 21 #[.val (.int (0 : Int32)), .val (.ref w_ANY), .val (.ref b1), .val (.int (4 : Int32)), .val (.int (2 : Int32)), .val (.ref w_LETTER)] [(.int (2 : Int32)), (.ref b1)])) _
  obtain ⟨cl9, Ar9, q9, S9, N9_, H9, G9⟩ := id V_b1
  have hin9 : ¬ ((2 : Int32) < 0 ∨ cl9.slots.size ≤ ((2 : Int32)).toNatClampNeg) := inb_of S9 ⟨by decide, by decide⟩
  have hat9 : cl9.slots[((2 : Int32)).toNatClampNeg]? = some (.ref w_LETTER_DIGIT) := H9 _ (Nat.lt_of_not_le fun q_ => hin9 (Or.inr q_))
  refine Go.st (X8.aaload hx (j := (2 : Int32)) (v := (.ref w_LETTER_DIGIT)) (by rw [e8]; exact Ar9.1) (State.isArrayOf_alike hZ.alike Ar9.2.1) rfl Ar9.2.2 hin9 hat9 (g := (mkF m 21 #[.val (.int (0 : Int32)), .val (.ref w_ANY), .val (.ref b1), .val (.int (4 : Int32)), .val (.int (2 : Int32)), .val (.ref w_LETTER)] [(.int (2 : Int32)), (.ref b1)])) rfl rfl (hb hby d1_21)) ?_
  show Go p e below (T8.setTop (mkF m 22 #[.val (.int (0 : Int32)), .val (.ref w_ANY), .val (.ref b1), .val (.int (4 : Int32)), .val (.int (2 : Int32)), .val (.ref w_LETTER)] [(.ref w_LETTER_DIGIT)])) _
  refine Go.st (fun _ k_ => XS.astore X8.here hx rfl (hb hby d1_22) rfl rfl (l' := #[.val (.int (0 : Int32)), .val (.ref w_ANY), .val (.ref b1), .val (.int (4 : Int32)), .val (.int (2 : Int32)), .val (.ref w_LETTER_DIGIT)]) rfl k_) ?_
  show Go p e below (T8.setTop (mkF m 24 #[.val (.int (0 : Int32)), .val (.ref w_ANY), .val (.ref b1), .val (.int (4 : Int32)), .val (.int (2 : Int32)), .val (.ref w_LETTER_DIGIT)] [])) _
  refine Go.st (fun _ k_ => XS.aload X8.here hx rfl (hb hby d1_24) rfl rfl k_) ?_
  show Go p e below (T8.setTop (mkF m 26 #[.val (.int (0 : Int32)), .val (.ref w_ANY), .val (.ref b1), .val (.int (4 : Int32)), .val (.int (2 : Int32)), .val (.ref w_LETTER_DIGIT)] [(.ref w_LETTER_DIGIT)])) _
  have H10 := (F_code_LETTER_DIGIT.ext E1)
  obtain ⟨T11, X11, e11, st11⟩ := getF X8 hx hZ hown (host := "") (Or.inl (hw _ (List.mem_of_getElem? (i := 23) rfl))) Via.refl e8 H10 (g := (mkF m 26 #[.val (.int (0 : Int32)), .val (.ref w_ANY), .val (.ref b1), .val (.int (4 : Int32)), .val (.int (2 : Int32)), .val (.ref w_LETTER_DIGIT)] [(.ref w_LETTER_DIGIT)])) rfl rfl (hb hby d1_26)
  refine Go.st st11 ?_
  show Go p e below (T11.setTop (mkF m 29 #[.val (.int (0 : Int32)), .val (.ref w_ANY), .val (.ref b1), .val (.int (4 : Int32)), .val (.int (2 : Int32)), .val (.ref w_LETTER_DIGIT)] [(.int (2 : Int32))])) _
  refine Go.st (fun _ k_ => XS.iloadN X11.here hx rfl (hb hby d1_29) rfl k_) ?_
  show Go p e below (T11.setTop (mkF m 30 #[.val (.int (0 : Int32)), .val (.ref w_ANY), .val (.ref b1), .val (.int (4 : Int32)), .val (.int (2 : Int32)), .val (.ref w_LETTER_DIGIT)] [(.int (0 : Int32)), (.int (2 : Int32))])) _
  refine Go.st (fun _ k_ => XS.icmpYes X11.here hx rfl (pc0 := 30) (pc' := 36) rfl (hb hby d1_30) rfl (feq (by decide : ¬ ((2 : Int32) = (0 : Int32)))).2 (by decide) (by decide) k_) ?_
  show Go p e below (T11.setTop (mkF m 36 #[.val (.int (0 : Int32)), .val (.ref w_ANY), .val (.ref b1), .val (.int (4 : Int32)), .val (.int (2 : Int32)), .val (.ref w_LETTER_DIGIT)] [])) _
  refine Go.st (fun _ k_ => XS.iinc X11.here hx rfl (hb hby d1_36) rfl (l' := #[.val (.int (0 : Int32)), .val (.ref w_ANY), .val (.ref b1), .val (.int (4 : Int32)), .val (.int (3 : Int32)), .val (.ref w_LETTER_DIGIT)]) rfl k_) ?_
  show Go p e below (T11.setTop (mkF m 39 #[.val (.int (0 : Int32)), .val (.ref w_ANY), .val (.ref b1), .val (.int (4 : Int32)), .val (.int (3 : Int32)), .val (.ref w_LETTER_DIGIT)] [])) _
  refine Go.st (fun _ k_ => XS.goto X11.here hx rfl (pc0 := 39) (pc' := 12) rfl (hb hby d1_39) (by decide) (by decide) k_) ?_
  show Go p e below (T11.setTop (mkF m 12 #[.val (.int (0 : Int32)), .val (.ref w_ANY), .val (.ref b1), .val (.int (4 : Int32)), .val (.int (3 : Int32)), .val (.ref w_LETTER_DIGIT)] [])) _
  refine Go.st (fun _ k_ => XS.iload X11.here hx rfl (hb hby d1_12) rfl k_) ?_
  show Go p e below (T11.setTop (mkF m 14 #[.val (.int (0 : Int32)), .val (.ref w_ANY), .val (.ref b1), .val (.int (4 : Int32)), .val (.int (3 : Int32)), .val (.ref w_LETTER_DIGIT)] [(.int (3 : Int32))])) _
  refine Go.st (fun _ k_ => XS.iloadN X11.here hx rfl (hb hby d1_14) rfl k_) ?_
  show Go p e below (T11.setTop (mkF m 15 #[.val (.int (0 : Int32)), .val (.ref w_ANY), .val (.ref b1), .val (.int (4 : Int32)), .val (.int (3 : Int32)), .val (.ref w_LETTER_DIGIT)] [(.int (4 : Int32)), (.int (3 : Int32))])) _
  refine Go.st (fun _ k_ => XS.icmpNo X11.here hx rfl (hb hby d1_15) rfl (tlt (by decide : (3 : Int32) < (4 : Int32))).2.1 k_) ?_
  show Go p e below (T11.setTop (mkF m 18 #[.val (.int (0 : Int32)), .val (.ref w_ANY), .val (.ref b1), .val (.int (4 : Int32)), .val (.int (3 : Int32)), .val (.ref w_LETTER_DIGIT)] [])) _
  refine Go.st (fun _ k_ => XS.aloadN X11.here hx rfl (hb hby d1_18) rfl rfl k_) ?_
  show Go p e below (T11.setTop (mkF m 19 #[.val (.int (0 : Int32)), .val (.ref w_ANY), .val (.ref b1), .val (.int (4 : Int32)), .val (.int (3 : Int32)), .val (.ref w_LETTER_DIGIT)] [(.ref b1)])) _
  refine Go.st (fun _ k_ => XS.iload X11.here hx rfl (hb hby d1_19) rfl k_) ?_
  show Go p e below (T11.setTop (mkF m 21 #[.val (.int (0 : Int32)), .val (.ref w_ANY), .val (.ref b1), .val (.int (4 : Int32)), .val (.int (3 : Int32)), .val (.ref w_LETTER_DIGIT)] [(.int (3 : Int32)), (.ref b1)])) _
  obtain ⟨cl12, Ar12, q12, S12, N12_, H12, G12⟩ := id V_b1
  have hin12 : ¬ ((3 : Int32) < 0 ∨ cl12.slots.size ≤ ((3 : Int32)).toNatClampNeg) := inb_of S12 ⟨by decide, by decide⟩
  have hat12 : cl12.slots[((3 : Int32)).toNatClampNeg]? = some (.ref w_LETTER_DIGIT_SPECIAL) := H12 _ (Nat.lt_of_not_le fun q_ => hin12 (Or.inr q_))
  refine Go.st (X11.aaload hx (j := (3 : Int32)) (v := (.ref w_LETTER_DIGIT_SPECIAL)) (by rw [e11]; exact Ar12.1) (State.isArrayOf_alike hZ.alike Ar12.2.1) rfl Ar12.2.2 hin12 hat12 (g := (mkF m 21 #[.val (.int (0 : Int32)), .val (.ref w_ANY), .val (.ref b1), .val (.int (4 : Int32)), .val (.int (3 : Int32)), .val (.ref w_LETTER_DIGIT)] [(.int (3 : Int32)), (.ref b1)])) rfl rfl (hb hby d1_21)) ?_
  show Go p e below (T11.setTop (mkF m 22 #[.val (.int (0 : Int32)), .val (.ref w_ANY), .val (.ref b1), .val (.int (4 : Int32)), .val (.int (3 : Int32)), .val (.ref w_LETTER_DIGIT)] [(.ref w_LETTER_DIGIT_SPECIAL)])) _
  refine Go.st (fun _ k_ => XS.astore X11.here hx rfl (hb hby d1_22) rfl rfl (l' := #[.val (.int (0 : Int32)), .val (.ref w_ANY), .val (.ref b1), .val (.int (4 : Int32)), .val (.int (3 : Int32)), .val (.ref w_LETTER_DIGIT_SPECIAL)]) rfl k_) ?_
  show Go p e below (T11.setTop (mkF m 24 #[.val (.int (0 : Int32)), .val (.ref w_ANY), .val (.ref b1), .val (.int (4 : Int32)), .val (.int (3 : Int32)), .val (.ref w_LETTER_DIGIT_SPECIAL)] [])) _
  refine Go.st (fun _ k_ => XS.aload X11.here hx rfl (hb hby d1_24) rfl rfl k_) ?_
  show Go p e below (T11.setTop (mkF m 26 #[.val (.int (0 : Int32)), .val (.ref w_ANY), .val (.ref b1), .val (.int (4 : Int32)), .val (.int (3 : Int32)), .val (.ref w_LETTER_DIGIT_SPECIAL)] [(.ref w_LETTER_DIGIT_SPECIAL)])) _
  have H13 := (F_code_LETTER_DIGIT_SPECIAL.ext E1)
  obtain ⟨T14, X14, e14, st14⟩ := getF X11 hx hZ hown (host := "") (Or.inl (hw _ (List.mem_of_getElem? (i := 23) rfl))) Via.refl e11 H13 (g := (mkF m 26 #[.val (.int (0 : Int32)), .val (.ref w_ANY), .val (.ref b1), .val (.int (4 : Int32)), .val (.int (3 : Int32)), .val (.ref w_LETTER_DIGIT_SPECIAL)] [(.ref w_LETTER_DIGIT_SPECIAL)])) rfl rfl (hb hby d1_26)
  refine Go.st st14 ?_
  show Go p e below (T14.setTop (mkF m 29 #[.val (.int (0 : Int32)), .val (.ref w_ANY), .val (.ref b1), .val (.int (4 : Int32)), .val (.int (3 : Int32)), .val (.ref w_LETTER_DIGIT_SPECIAL)] [(.int (3 : Int32))])) _
  refine Go.st (fun _ k_ => XS.iloadN X14.here hx rfl (hb hby d1_29) rfl k_) ?_
  show Go p e below (T14.setTop (mkF m 30 #[.val (.int (0 : Int32)), .val (.ref w_ANY), .val (.ref b1), .val (.int (4 : Int32)), .val (.int (3 : Int32)), .val (.ref w_LETTER_DIGIT_SPECIAL)] [(.int (0 : Int32)), (.int (3 : Int32))])) _
  refine Go.st (fun _ k_ => XS.icmpYes X14.here hx rfl (pc0 := 30) (pc' := 36) rfl (hb hby d1_30) rfl (feq (by decide : ¬ ((3 : Int32) = (0 : Int32)))).2 (by decide) (by decide) k_) ?_
  show Go p e below (T14.setTop (mkF m 36 #[.val (.int (0 : Int32)), .val (.ref w_ANY), .val (.ref b1), .val (.int (4 : Int32)), .val (.int (3 : Int32)), .val (.ref w_LETTER_DIGIT_SPECIAL)] [])) _
  refine Go.st (fun _ k_ => XS.iinc X14.here hx rfl (hb hby d1_36) rfl (l' := #[.val (.int (0 : Int32)), .val (.ref w_ANY), .val (.ref b1), .val (.int (4 : Int32)), .val (.int (4 : Int32)), .val (.ref w_LETTER_DIGIT_SPECIAL)]) rfl k_) ?_
  show Go p e below (T14.setTop (mkF m 39 #[.val (.int (0 : Int32)), .val (.ref w_ANY), .val (.ref b1), .val (.int (4 : Int32)), .val (.int (4 : Int32)), .val (.ref w_LETTER_DIGIT_SPECIAL)] [])) _
  refine Go.st (fun _ k_ => XS.goto X14.here hx rfl (pc0 := 39) (pc' := 12) rfl (hb hby d1_39) (by decide) (by decide) k_) ?_
  show Go p e below (T14.setTop (mkF m 12 #[.val (.int (0 : Int32)), .val (.ref w_ANY), .val (.ref b1), .val (.int (4 : Int32)), .val (.int (4 : Int32)), .val (.ref w_LETTER_DIGIT_SPECIAL)] [])) _
  refine Go.st (fun _ k_ => XS.iload X14.here hx rfl (hb hby d1_12) rfl k_) ?_
  show Go p e below (T14.setTop (mkF m 14 #[.val (.int (0 : Int32)), .val (.ref w_ANY), .val (.ref b1), .val (.int (4 : Int32)), .val (.int (4 : Int32)), .val (.ref w_LETTER_DIGIT_SPECIAL)] [(.int (4 : Int32))])) _
  refine Go.st (fun _ k_ => XS.iloadN X14.here hx rfl (hb hby d1_14) rfl k_) ?_
  show Go p e below (T14.setTop (mkF m 15 #[.val (.int (0 : Int32)), .val (.ref w_ANY), .val (.ref b1), .val (.int (4 : Int32)), .val (.int (4 : Int32)), .val (.ref w_LETTER_DIGIT_SPECIAL)] [(.int (4 : Int32)), (.int (4 : Int32))])) _
  refine Go.st (fun _ k_ => XS.icmpYes X14.here hx rfl (pc0 := 15) (pc' := 42) rfl (hb hby d1_15) rfl (flt (by decide : ¬ ((4 : Int32) < (4 : Int32)))).2.1 (by decide) (by decide) k_) ?_
  show Go p e below (T14.setTop (mkF m 42 #[.val (.int (0 : Int32)), .val (.ref w_ANY), .val (.ref b1), .val (.int (4 : Int32)), .val (.int (4 : Int32)), .val (.ref w_LETTER_DIGIT_SPECIAL)] [])) _
  refine Go.st (fun _ k_ => XS.aloadN X14.here hx rfl (hb hby d1_42) rfl rfl k_) ?_
  show Go p e below (T14.setTop (mkF m 43 #[.val (.int (0 : Int32)), .val (.ref w_ANY), .val (.ref b1), .val (.int (4 : Int32)), .val (.int (4 : Int32)), .val (.ref w_LETTER_DIGIT_SPECIAL)] [(.ref w_ANY)])) _
  refine Go.fin X14 (v := some (.ref w_ANY)) (fun h_ => by rw [Bd.returns] at h_; cases h_) Bd.notSynchronized (fun _ hr => retOut X14 hx Bd.returns rfl (Or.inr (Or.inr (Or.inr (Or.inr ⟨rfl, rfl, rfl⟩)))) (hb hby d1_43) hr) (fun U' hU hF => ⟨_, _, rfl, ?_, hF.1, hF.2.1, hF.2.2.mono (by decide) (by decide)⟩)
  rw [hU, e14]
  exact ⟨(congrArg (fun z_ : Addr => some (Value.ref z_)) (show w_ANY = w_ANY from rfl)), N1, ((Keep.refl h0 []).ext E1)⟩
theorem ef_rm1_1 (m : MethodId)  : entryFrame m #[(.int (1 : Int32))] 6 = mkF m 0 #[.val (.int (1 : Int32)), .unset, .unset, .unset, .unset, .unset] [] := by first | (simp [entryFrame, mkF, argsToLocals, Value.category]; done) | rfl
def Q_rm1_1 (Z : State) (w_ANY : Addr) (w_LETTER : Addr) (w_LETTER_DIGIT : Addr) (w_LETTER_DIGIT_SPECIAL : Addr) (kv : ClassId) (w__VALUES : Addr) (h0 : Heap) (n0 : Nat) (v : Option Value) (h : Heap) (L : List Loc) : Prop := v = some (.ref w_LETTER) ∧ Fr n0 L ∧ Keep h0 h []
set_option maxRecDepth 65536 in
set_option maxHeartbeats 40000000 in
theorem rm1_1 (l : Launch) (Z : State) (a0 : Array Value) (hw : ∀ d ∈ tables_1, d.before a0 Z = true) (ws : List Jvm.Cond) (w_ANY : Addr) (w_LETTER : Addr) (w_LETTER_DIGIT : Addr) (w_LETTER_DIGIT_SPECIAL : Addr) (kv : ClassId) (w__VALUES : Addr) (h0 : Heap) (n0 : Nat) (Z0 : n0 ≤ h0.size) (S__VALUES : Sta Z h0 "com/example/patuxent/patuxent/PasswordComplexity" "$VALUES" "[Lcom/example/patuxent/patuxent/PasswordComplexity;" (.ref w__VALUES)) (V_vals : Arv Z h0 w__VALUES kv (.object "com/example/patuxent/patuxent/PasswordComplexity") (4 : Int32) [(.ref w_ANY), (.ref w_LETTER), (.ref w_LETTER_DIGIT), (.ref w_LETTER_DIGIT_SPECIAL)] .null) (E_vals : Exa Z h0 w__VALUES "[Lcom/example/patuxent/patuxent/PasswordComplexity;") (F_code_ANY : Fld Z h0 w_ANY "com/example/patuxent/patuxent/PasswordComplexity" "code" "I" (.int (0 : Int32))) (F_code_LETTER : Fld Z h0 w_LETTER "com/example/patuxent/patuxent/PasswordComplexity" "code" "I" (.int (1 : Int32))) (F_code_LETTER_DIGIT : Fld Z h0 w_LETTER_DIGIT "com/example/patuxent/patuxent/PasswordComplexity" "code" "I" (.int (2 : Int32))) (F_code_LETTER_DIGIT_SPECIAL : Fld Z h0 w_LETTER_DIGIT_SPECIAL "com/example/patuxent/patuxent/PasswordComplexity" "code" "I" (.int (3 : Int32))) :
    MetFree l (⟨"com/example/patuxent/patuxent/PasswordComplexity", "ofCode", "(I)Lcom/example/patuxent/patuxent/PasswordComplexity;"⟩ : MethodName) (head1 (Jvm.Cond.code (⟨"com/example/patuxent/patuxent/PasswordComplexity", "ofCode", "(I)Lcom/example/patuxent/patuxent/PasswordComplexity;"⟩ : MethodName) prog_8_method_6_code 6 (some (.object "com/example/patuxent/patuxent/PasswordComplexity")) :: ws) ({ frames := 2, cells := 1, slots := 4, locals := 25 } : Room)) (fun a U => a = #[(.int (1 : Int32))] ∧ Z.Warmed39 U.vm ∧ U.heap = h0) (fun _ _ _ _ _ => True) (fun _ U o U' => ∃ v L, o = .returned v ∧ Q_rm1_1 Z w_ANY w_LETTER w_LETTER_DIGIT w_LETTER_DIGIT_SPECIAL kv w__VALUES h0 n0 v U'.heap L ∧ FrameEnd U o U' L ({ frames := 2, cells := 1, slots := 4, locals := 25 } : Room).cells ({ frames := 2, cells := 1, slots := 4, locals := 25 } : Room).slots) := by
  refine MetFree.of_bodySF (plainFor_of_name pn_4) hisR ?_
  intro p e s m args below meth c s₁ Bd hml0 hP hK
  obtain ⟨rfl, hZ, hh⟩ := hP
  have hx := Bd.exec
  have hby := Bd.bytes
  have hml : c.maxLocals = 6 := hml0
  have hown : s.vm.findClass "com/example/patuxent/patuxent/PasswordComplexity" = some m.cls := findClass_of_methodNamed Bd.named
  have hnm := (name_of_methodNamed Bd.named Bd.method).1
  have X0 : Stand p l e ({ frames := 2, cells := 1, slots := 4, locals := 25 } : Room) s m #[(.int (1 : Int32))] below meth c s₁ [] 0 0 := Stand.of_body Bd
  have e0 : s₁.heap = h0 := by rw [← hh, Bd.state]; rfl
  have N0 := Fr.nil n0
  show Go p e below (s₁.setTop (entryFrame m #[(.int (1 : Int32))] 6)) (fun o U' => ∃ v L, o = .returned v ∧ Q_rm1_1 Z w_ANY w_LETTER w_LETTER_DIGIT w_LETTER_DIGIT_SPECIAL kv w__VALUES h0 n0 v U'.heap L ∧ FrameEnd s o U' L ({ frames := 2, cells := 1, slots := 4, locals := 25 } : Room).cells ({ frames := 2, cells := 1, slots := 4, locals := 25 } : Room).slots)
  rw [ef_rm1_1]
  show Go p e below (s₁.setTop (mkF m 0 #[.val (.int (1 : Int32)), .unset, .unset, .unset, .unset, .unset] [])) _
  refine Go.st (fun _ k_ => XS.aconstNull X0.here hx rfl (hb hby d1_0) k_) ?_
  show Go p e below (s₁.setTop (mkF m 1 #[.val (.int (1 : Int32)), .unset, .unset, .unset, .unset, .unset] [.null])) _
  refine Go.st (fun _ k_ => XS.astoreN X0.here hx rfl (hb hby d1_1) rfl rfl (l' := #[.val (.int (1 : Int32)), .val .null, .unset, .unset, .unset, .unset]) rfl k_) ?_
  show Go p e below (s₁.setTop (mkF m 2 #[.val (.int (1 : Int32)), .val .null, .unset, .unset, .unset, .unset] [])) _
  obtain ⟨_, _, ⟨T1, L1, k1_, n1_⟩, -, X1, ⟨Lc1, hQ1, l1_, y1_, z1_⟩, st1⟩ := Jvm.LawKit.callS X0 hx (y := (⟨"com/example/patuxent/patuxent/PasswordComplexity", "values", "()[Lcom/example/patuxent/patuxent/PasswordComplexity;"⟩ : MethodName)) hown (mvT hZ (hw _ (List.mem_of_getElem? (i := 4) rfl))) (mvT hZ (hw _ (List.mem_of_getElem? (i := 5) rfl))) (mvT hZ (hw _ (List.mem_of_getElem? (i := 2) rfl))) (mvT hZ (hw _ (List.mem_of_getElem? (i := 6) rfl))) (by decide) (backOf (W := 0) (rm2 l Z a0 hw [] w_ANY w_LETTER w_LETTER_DIGIT w_LETTER_DIGIT_SPECIAL kv w__VALUES h0 n0 Z0 S__VALUES V_vals E_vals) hZ (hw _ (List.mem_of_getElem? (i := 6) rfl)) (hw _ (List.mem_of_getElem? (i := 2) rfl)) (by decide) (by decide)) (g := (mkF m 2 #[.val (.int (1 : Int32)), .val .null, .unset, .unset, .unset, .unset] [])) rfl (by rw [hml]; rfl) (argsL := []) (rest := []) (lenOf pd_0 rfl) rfl (by show 2 * 0 + _ ≤ _; exact Nat.le_of_eq rfl) (hb hby d1_2) (fun _ _ => ⟨rfl, e0, (by decide : 0 + 1 ≤ _), (by decide : 0 + 4 ≤ _)⟩)
  dsimp only [Pt.U, Pt.locs, Pt.cells, Pt.slots] at X1 l1_ y1_ z1_ st1 hQ1
  subst l1_ y1_ z1_
  obtain ⟨rfl, N1q, E1, A1⟩ := hQ1
  have N1 := Fr.app N0 N1q
  obtain ⟨b1, g1⟩ : ∃ z_, z_ = h0.size := ⟨_, rfl⟩
  rw [← g1] at A1 st1
  have g_b1 : n0 ≤ b1 := Nat.le_trans Z0 (Nat.le_of_eq g1.symm)
  have V_b1 := A1
  have lt_b1 : b1 < T1.heap.size := own_arvlt V_b1
  refine Go.st st1 ?_
  show Go p e below (T1.setTop (mkF m 5 #[.val (.int (1 : Int32)), .val .null, .unset, .unset, .unset, .unset] [(.ref b1)])) _
  refine Go.st (fun _ k_ => XS.astoreN X1.here hx rfl (hb hby d1_5) rfl rfl (l' := #[.val (.int (1 : Int32)), .val .null, .val (.ref b1), .unset, .unset, .unset]) rfl k_) ?_
  show Go p e below (T1.setTop (mkF m 6 #[.val (.int (1 : Int32)), .val .null, .val (.ref b1), .unset, .unset, .unset] [])) _
  refine Go.st (fun _ k_ => XS.aloadN X1.here hx rfl (hb hby d1_6) rfl rfl k_) ?_
  show Go p e below (T1.setTop (mkF m 7 #[.val (.int (1 : Int32)), .val .null, .val (.ref b1), .unset, .unset, .unset] [(.ref b1)])) _
  obtain ⟨cl2, Ar2, -, S2, N2_, -, -⟩ := id V_b1
  refine Go.st (X1.arraylength hx (by exact Ar2.1) (State.isArrayOf_alike hZ.alike Ar2.2.1) (g := (mkF m 7 #[.val (.int (1 : Int32)), .val .null, .val (.ref b1), .unset, .unset, .unset] [(.ref b1)])) rfl rfl (hb hby d1_7)) ?_
  rw [len_of S2 N2_]
  show Go p e below (T1.setTop (mkF m 8 #[.val (.int (1 : Int32)), .val .null, .val (.ref b1), .unset, .unset, .unset] [(.int (4 : Int32))])) _
  refine Go.st (fun _ k_ => XS.istoreN X1.here hx rfl (hb hby d1_8) rfl (l' := #[.val (.int (1 : Int32)), .val .null, .val (.ref b1), .val (.int (4 : Int32)), .unset, .unset]) rfl k_) ?_
  show Go p e below (T1.setTop (mkF m 9 #[.val (.int (1 : Int32)), .val .null, .val (.ref b1), .val (.int (4 : Int32)), .unset, .unset] [])) _
  refine Go.st (fun _ k_ => XS.iconst X1.here hx rfl (hb hby d1_9) k_) ?_
  show Go p e below (T1.setTop (mkF m 10 #[.val (.int (1 : Int32)), .val .null, .val (.ref b1), .val (.int (4 : Int32)), .unset, .unset] [(.int (0 : Int32))])) _
  refine Go.st (fun _ k_ => XS.istore X1.here hx rfl (hb hby d1_10) rfl (l' := #[.val (.int (1 : Int32)), .val .null, .val (.ref b1), .val (.int (4 : Int32)), .val (.int (0 : Int32)), .unset]) rfl k_) ?_
  show Go p e below (T1.setTop (mkF m 12 #[.val (.int (1 : Int32)), .val .null, .val (.ref b1), .val (.int (4 : Int32)), .val (.int (0 : Int32)), .unset] [])) _
  refine Go.st (fun _ k_ => XS.iload X1.here hx rfl (hb hby d1_12) rfl k_) ?_
  show Go p e below (T1.setTop (mkF m 14 #[.val (.int (1 : Int32)), .val .null, .val (.ref b1), .val (.int (4 : Int32)), .val (.int (0 : Int32)), .unset] [(.int (0 : Int32))])) _
  refine Go.st (fun _ k_ => XS.iloadN X1.here hx rfl (hb hby d1_14) rfl k_) ?_
  show Go p e below (T1.setTop (mkF m 15 #[.val (.int (1 : Int32)), .val .null, .val (.ref b1), .val (.int (4 : Int32)), .val (.int (0 : Int32)), .unset] [(.int (4 : Int32)), (.int (0 : Int32))])) _
  refine Go.st (fun _ k_ => XS.icmpNo X1.here hx rfl (hb hby d1_15) rfl (tlt (by decide : (0 : Int32) < (4 : Int32))).2.1 k_) ?_
  show Go p e below (T1.setTop (mkF m 18 #[.val (.int (1 : Int32)), .val .null, .val (.ref b1), .val (.int (4 : Int32)), .val (.int (0 : Int32)), .unset] [])) _
  refine Go.st (fun _ k_ => XS.aloadN X1.here hx rfl (hb hby d1_18) rfl rfl k_) ?_
  show Go p e below (T1.setTop (mkF m 19 #[.val (.int (1 : Int32)), .val .null, .val (.ref b1), .val (.int (4 : Int32)), .val (.int (0 : Int32)), .unset] [(.ref b1)])) _
  refine Go.st (fun _ k_ => XS.iload X1.here hx rfl (hb hby d1_19) rfl k_) ?_
  show Go p e below (T1.setTop (mkF m 21 #[.val (.int (1 : Int32)), .val .null, .val (.ref b1), .val (.int (4 : Int32)), .val (.int (0 : Int32)), .unset] [(.int (0 : Int32)), (.ref b1)])) _
  obtain ⟨cl3, Ar3, q3, S3, N3_, H3, G3⟩ := id V_b1
  have hin3 : ¬ ((0 : Int32) < 0 ∨ cl3.slots.size ≤ ((0 : Int32)).toNatClampNeg) := inb_of S3 ⟨by decide, by decide⟩
  have hat3 : cl3.slots[((0 : Int32)).toNatClampNeg]? = some (.ref w_ANY) := H3 _ (Nat.lt_of_not_le fun q_ => hin3 (Or.inr q_))
  refine Go.st (X1.aaload hx (j := (0 : Int32)) (v := (.ref w_ANY)) (by exact Ar3.1) (State.isArrayOf_alike hZ.alike Ar3.2.1) rfl Ar3.2.2 hin3 hat3 (g := (mkF m 21 #[.val (.int (1 : Int32)), .val .null, .val (.ref b1), .val (.int (4 : Int32)), .val (.int (0 : Int32)), .unset] [(.int (0 : Int32)), (.ref b1)])) rfl rfl (hb hby d1_21)) ?_
  show Go p e below (T1.setTop (mkF m 22 #[.val (.int (1 : Int32)), .val .null, .val (.ref b1), .val (.int (4 : Int32)), .val (.int (0 : Int32)), .unset] [(.ref w_ANY)])) _
  refine Go.st (fun _ k_ => XS.astore X1.here hx rfl (hb hby d1_22) rfl rfl (l' := #[.val (.int (1 : Int32)), .val .null, .val (.ref b1), .val (.int (4 : Int32)), .val (.int (0 : Int32)), .val (.ref w_ANY)]) rfl k_) ?_
  show Go p e below (T1.setTop (mkF m 24 #[.val (.int (1 : Int32)), .val .null, .val (.ref b1), .val (.int (4 : Int32)), .val (.int (0 : Int32)), .val (.ref w_ANY)] [])) _
  refine Go.st (fun _ k_ => XS.aload X1.here hx rfl (hb hby d1_24) rfl rfl k_) ?_
  show Go p e below (T1.setTop (mkF m 26 #[.val (.int (1 : Int32)), .val .null, .val (.ref b1), .val (.int (4 : Int32)), .val (.int (0 : Int32)), .val (.ref w_ANY)] [(.ref w_ANY)])) _
  have H4 := (F_code_ANY.ext E1)
  obtain ⟨T5, X5, e5, st5⟩ := getF X1 hx hZ hown (host := "") (Or.inl (hw _ (List.mem_of_getElem? (i := 23) rfl))) Via.refl rfl H4 (g := (mkF m 26 #[.val (.int (1 : Int32)), .val .null, .val (.ref b1), .val (.int (4 : Int32)), .val (.int (0 : Int32)), .val (.ref w_ANY)] [(.ref w_ANY)])) rfl rfl (hb hby d1_26)
  refine Go.st st5 ?_
  show Go p e below (T5.setTop (mkF m 29 #[.val (.int (1 : Int32)), .val .null, .val (.ref b1), .val (.int (4 : Int32)), .val (.int (0 : Int32)), .val (.ref w_ANY)] [(.int (0 : Int32))])) _
  refine Go.st (fun _ k_ => XS.iloadN X5.here hx rfl (hb hby d1_29) rfl k_) ?_
  show Go p e below (T5.setTop (mkF m 30 #[.val (.int (1 : Int32)), .val .null, .val (.ref b1), .val (.int (4 : Int32)), .val (.int (0 : Int32)), .val (.ref w_ANY)] [(.int (1 : Int32)), (.int (0 : Int32))])) _
  refine Go.st (fun _ k_ => XS.icmpYes X5.here hx rfl (pc0 := 30) (pc' := 36) rfl (hb hby d1_30) rfl (feq (by decide : ¬ ((0 : Int32) = (1 : Int32)))).2 (by decide) (by decide) k_) ?_
  show Go p e below (T5.setTop (mkF m 36 #[.val (.int (1 : Int32)), .val .null, .val (.ref b1), .val (.int (4 : Int32)), .val (.int (0 : Int32)), .val (.ref w_ANY)] [])) _
  refine Go.st (fun _ k_ => XS.iinc X5.here hx rfl (hb hby d1_36) rfl (l' := #[.val (.int (1 : Int32)), .val .null, .val (.ref b1), .val (.int (4 : Int32)), .val (.int (1 : Int32)), .val (.ref w_ANY)]) rfl k_) ?_
  show Go p e below (T5.setTop (mkF m 39 #[.val (.int (1 : Int32)), .val .null, .val (.ref b1), .val (.int (4 : Int32)), .val (.int (1 : Int32)), .val (.ref w_ANY)] [])) _
  refine Go.st (fun _ k_ => XS.goto X5.here hx rfl (pc0 := 39) (pc' := 12) rfl (hb hby d1_39) (by decide) (by decide) k_) ?_
  show Go p e below (T5.setTop (mkF m 12 #[.val (.int (1 : Int32)), .val .null, .val (.ref b1), .val (.int (4 : Int32)), .val (.int (1 : Int32)), .val (.ref w_ANY)] [])) _
  refine Go.st (fun _ k_ => XS.iload X5.here hx rfl (hb hby d1_12) rfl k_) ?_
  show Go p e below (T5.setTop (mkF m 14 #[.val (.int (1 : Int32)), .val .null, .val (.ref b1), .val (.int (4 : Int32)), .val (.int (1 : Int32)), .val (.ref w_ANY)] [(.int (1 : Int32))])) _
  refine Go.st (fun _ k_ => XS.iloadN X5.here hx rfl (hb hby d1_14) rfl k_) ?_
  show Go p e below (T5.setTop (mkF m 15 #[.val (.int (1 : Int32)), .val .null, .val (.ref b1), .val (.int (4 : Int32)), .val (.int (1 : Int32)), .val (.ref w_ANY)] [(.int (4 : Int32)), (.int (1 : Int32))])) _
  refine Go.st (fun _ k_ => XS.icmpNo X5.here hx rfl (hb hby d1_15) rfl (tlt (by decide : (1 : Int32) < (4 : Int32))).2.1 k_) ?_
  show Go p e below (T5.setTop (mkF m 18 #[.val (.int (1 : Int32)), .val .null, .val (.ref b1), .val (.int (4 : Int32)), .val (.int (1 : Int32)), .val (.ref w_ANY)] [])) _
  refine Go.st (fun _ k_ => XS.aloadN X5.here hx rfl (hb hby d1_18) rfl rfl k_) ?_
  show Go p e below (T5.setTop (mkF m 19 #[.val (.int (1 : Int32)), .val .null, .val (.ref b1), .val (.int (4 : Int32)), .val (.int (1 : Int32)), .val (.ref w_ANY)] [(.ref b1)])) _
  refine Go.st (fun _ k_ => XS.iload X5.here hx rfl (hb hby d1_19) rfl k_) ?_
  show Go p e below (T5.setTop (mkF m 21 #[.val (.int (1 : Int32)), .val .null, .val (.ref b1), .val (.int (4 : Int32)), .val (.int (1 : Int32)), .val (.ref w_ANY)] [(.int (1 : Int32)), (.ref b1)])) _
  obtain ⟨cl6, Ar6, q6, S6, N6_, H6, G6⟩ := id V_b1
  have hin6 : ¬ ((1 : Int32) < 0 ∨ cl6.slots.size ≤ ((1 : Int32)).toNatClampNeg) := inb_of S6 ⟨by decide, by decide⟩
  have hat6 : cl6.slots[((1 : Int32)).toNatClampNeg]? = some (.ref w_LETTER) := H6 _ (Nat.lt_of_not_le fun q_ => hin6 (Or.inr q_))
  refine Go.st (X5.aaload hx (j := (1 : Int32)) (v := (.ref w_LETTER)) (by rw [e5]; exact Ar6.1) (State.isArrayOf_alike hZ.alike Ar6.2.1) rfl Ar6.2.2 hin6 hat6 (g := (mkF m 21 #[.val (.int (1 : Int32)), .val .null, .val (.ref b1), .val (.int (4 : Int32)), .val (.int (1 : Int32)), .val (.ref w_ANY)] [(.int (1 : Int32)), (.ref b1)])) rfl rfl (hb hby d1_21)) ?_
  show Go p e below (T5.setTop (mkF m 22 #[.val (.int (1 : Int32)), .val .null, .val (.ref b1), .val (.int (4 : Int32)), .val (.int (1 : Int32)), .val (.ref w_ANY)] [(.ref w_LETTER)])) _
  refine Go.st (fun _ k_ => XS.astore X5.here hx rfl (hb hby d1_22) rfl rfl (l' := #[.val (.int (1 : Int32)), .val .null, .val (.ref b1), .val (.int (4 : Int32)), .val (.int (1 : Int32)), .val (.ref w_LETTER)]) rfl k_) ?_
  show Go p e below (T5.setTop (mkF m 24 #[.val (.int (1 : Int32)), .val .null, .val (.ref b1), .val (.int (4 : Int32)), .val (.int (1 : Int32)), .val (.ref w_LETTER)] [])) _
  refine Go.st (fun _ k_ => XS.aload X5.here hx rfl (hb hby d1_24) rfl rfl k_) ?_
  show Go p e below (T5.setTop (mkF m 26 #[.val (.int (1 : Int32)), .val .null, .val (.ref b1), .val (.int (4 : Int32)), .val (.int (1 : Int32)), .val (.ref w_LETTER)] [(.ref w_LETTER)])) _
  have H7 := (F_code_LETTER.ext E1)
  obtain ⟨T8, X8, e8, st8⟩ := getF X5 hx hZ hown (host := "") (Or.inl (hw _ (List.mem_of_getElem? (i := 23) rfl))) Via.refl e5 H7 (g := (mkF m 26 #[.val (.int (1 : Int32)), .val .null, .val (.ref b1), .val (.int (4 : Int32)), .val (.int (1 : Int32)), .val (.ref w_LETTER)] [(.ref w_LETTER)])) rfl rfl (hb hby d1_26)
  refine Go.st st8 ?_
  show Go p e below (T8.setTop (mkF m 29 #[.val (.int (1 : Int32)), .val .null, .val (.ref b1), .val (.int (4 : Int32)), .val (.int (1 : Int32)), .val (.ref w_LETTER)] [(.int (1 : Int32))])) _
  refine Go.st (fun _ k_ => XS.iloadN X8.here hx rfl (hb hby d1_29) rfl k_) ?_
  show Go p e below (T8.setTop (mkF m 30 #[.val (.int (1 : Int32)), .val .null, .val (.ref b1), .val (.int (4 : Int32)), .val (.int (1 : Int32)), .val (.ref w_LETTER)] [(.int (1 : Int32)), (.int (1 : Int32))])) _
  refine Go.st (fun _ k_ => XS.icmpNo X8.here hx rfl (hb hby d1_30) rfl (teq (by decide : (1 : Int32) = (1 : Int32))).2 k_) ?_
  show Go p e below (T8.setTop (mkF m 33 #[.val (.int (1 : Int32)), .val .null, .val (.ref b1), .val (.int (4 : Int32)), .val (.int (1 : Int32)), .val (.ref w_LETTER)] [])) _
  refine Go.st (fun _ k_ => XS.aload X8.here hx rfl (hb hby d1_33) rfl rfl k_) ?_
  show Go p e below (T8.setTop (mkF m 35 #[.val (.int (1 : Int32)), .val .null, .val (.ref b1), .val (.int (4 : Int32)), .val (.int (1 : Int32)), .val (.ref w_LETTER)] [(.ref w_LETTER)])) _
  refine Go.st (fun _ k_ => XS.astoreN X8.here hx rfl (hb hby d1_35) rfl rfl (l' := #[.val (.int (1 : Int32)), .val (.ref w_LETTER), .val (.ref b1), .val (.int (4 : Int32)), .val (.int (1 : Int32)), .val (.ref w_LETTER)]) rfl k_) ?_
  show Go p e below (T8.setTop (mkF m 36 #[.val (.int (1 : Int32)), .val (.ref w_LETTER), .val (.ref b1), .val (.int (4 : Int32)), .val (.int (1 : Int32)), .val (.ref w_LETTER)] [])) _
  refine Go.st (fun _ k_ => XS.iinc X8.here hx rfl (hb hby d1_36) rfl (l' := #[.val (.int (1 : Int32)), .val (.ref w_LETTER), .val (.ref b1), .val (.int (4 : Int32)), .val (.int (2 : Int32)), .val (.ref w_LETTER)]) rfl k_) ?_
  show Go p e below (T8.setTop (mkF m 39 #[.val (.int (1 : Int32)), .val (.ref w_LETTER), .val (.ref b1), .val (.int (4 : Int32)), .val (.int (2 : Int32)), .val (.ref w_LETTER)] [])) _
  refine Go.st (fun _ k_ => XS.goto X8.here hx rfl (pc0 := 39) (pc' := 12) rfl (hb hby d1_39) (by decide) (by decide) k_) ?_
  show Go p e below (T8.setTop (mkF m 12 #[.val (.int (1 : Int32)), .val (.ref w_LETTER), .val (.ref b1), .val (.int (4 : Int32)), .val (.int (2 : Int32)), .val (.ref w_LETTER)] [])) _
  refine Go.st (fun _ k_ => XS.iload X8.here hx rfl (hb hby d1_12) rfl k_) ?_
  show Go p e below (T8.setTop (mkF m 14 #[.val (.int (1 : Int32)), .val (.ref w_LETTER), .val (.ref b1), .val (.int (4 : Int32)), .val (.int (2 : Int32)), .val (.ref w_LETTER)] [(.int (2 : Int32))])) _
  refine Go.st (fun _ k_ => XS.iloadN X8.here hx rfl (hb hby d1_14) rfl k_) ?_
  show Go p e below (T8.setTop (mkF m 15 #[.val (.int (1 : Int32)), .val (.ref w_LETTER), .val (.ref b1), .val (.int (4 : Int32)), .val (.int (2 : Int32)), .val (.ref w_LETTER)] [(.int (4 : Int32)), (.int (2 : Int32))])) _
  refine Go.st (fun _ k_ => XS.icmpNo X8.here hx rfl (hb hby d1_15) rfl (tlt (by decide : (2 : Int32) < (4 : Int32))).2.1 k_) ?_
  show Go p e below (T8.setTop (mkF m 18 #[.val (.int (1 : Int32)), .val (.ref w_LETTER), .val (.ref b1), .val (.int (4 : Int32)), .val (.int (2 : Int32)), .val (.ref w_LETTER)] [])) _
  refine Go.st (fun _ k_ => XS.aloadN X8.here hx rfl (hb hby d1_18) rfl rfl k_) ?_
  show Go p e below (T8.setTop (mkF m 19 #[.val (.int (1 : Int32)), .val (.ref w_LETTER), .val (.ref b1), .val (.int (4 : Int32)), .val (.int (2 : Int32)), .val (.ref w_LETTER)] [(.ref b1)])) _
  refine Go.st (fun _ k_ => XS.iload X8.here hx rfl (hb hby d1_19) rfl k_) ?_
  show Go p e below (T8.setTop (mkF m 21 #[.val (.int (1 : Int32)), .val (.ref w_LETTER), .val (.ref b1), .val (.int (4 : Int32)), .val (.int (2 : Int32)), .val (.ref w_LETTER)] [(.int (2 : Int32)), (.ref b1)])) _
  obtain ⟨cl9, Ar9, q9, S9, N9_, H9, G9⟩ := id V_b1
  have hin9 : ¬ ((2 : Int32) < 0 ∨ cl9.slots.size ≤ ((2 : Int32)).toNatClampNeg) := inb_of S9 ⟨by decide, by decide⟩
  have hat9 : cl9.slots[((2 : Int32)).toNatClampNeg]? = some (.ref w_LETTER_DIGIT) := H9 _ (Nat.lt_of_not_le fun q_ => hin9 (Or.inr q_))
  refine Go.st (X8.aaload hx (j := (2 : Int32)) (v := (.ref w_LETTER_DIGIT)) (by rw [e8]; exact Ar9.1) (State.isArrayOf_alike hZ.alike Ar9.2.1) rfl Ar9.2.2 hin9 hat9 (g := (mkF m 21 #[.val (.int (1 : Int32)), .val (.ref w_LETTER), .val (.ref b1), .val (.int (4 : Int32)), .val (.int (2 : Int32)), .val (.ref w_LETTER)] [(.int (2 : Int32)), (.ref b1)])) rfl rfl (hb hby d1_21)) ?_
  show Go p e below (T8.setTop (mkF m 22 #[.val (.int (1 : Int32)), .val (.ref w_LETTER), .val (.ref b1), .val (.int (4 : Int32)), .val (.int (2 : Int32)), .val (.ref w_LETTER)] [(.ref w_LETTER_DIGIT)])) _
  refine Go.st (fun _ k_ => XS.astore X8.here hx rfl (hb hby d1_22) rfl rfl (l' := #[.val (.int (1 : Int32)), .val (.ref w_LETTER), .val (.ref b1), .val (.int (4 : Int32)), .val (.int (2 : Int32)), .val (.ref w_LETTER_DIGIT)]) rfl k_) ?_
  show Go p e below (T8.setTop (mkF m 24 #[.val (.int (1 : Int32)), .val (.ref w_LETTER), .val (.ref b1), .val (.int (4 : Int32)), .val (.int (2 : Int32)), .val (.ref w_LETTER_DIGIT)] [])) _
  refine Go.st (fun _ k_ => XS.aload X8.here hx rfl (hb hby d1_24) rfl rfl k_) ?_
  show Go p e below (T8.setTop (mkF m 26 #[.val (.int (1 : Int32)), .val (.ref w_LETTER), .val (.ref b1), .val (.int (4 : Int32)), .val (.int (2 : Int32)), .val (.ref w_LETTER_DIGIT)] [(.ref w_LETTER_DIGIT)])) _
  have H10 := (F_code_LETTER_DIGIT.ext E1)
  obtain ⟨T11, X11, e11, st11⟩ := getF X8 hx hZ hown (host := "") (Or.inl (hw _ (List.mem_of_getElem? (i := 23) rfl))) Via.refl e8 H10 (g := (mkF m 26 #[.val (.int (1 : Int32)), .val (.ref w_LETTER), .val (.ref b1), .val (.int (4 : Int32)), .val (.int (2 : Int32)), .val (.ref w_LETTER_DIGIT)] [(.ref w_LETTER_DIGIT)])) rfl rfl (hb hby d1_26)
  refine Go.st st11 ?_
  show Go p e below (T11.setTop (mkF m 29 #[.val (.int (1 : Int32)), .val (.ref w_LETTER), .val (.ref b1), .val (.int (4 : Int32)), .val (.int (2 : Int32)), .val (.ref w_LETTER_DIGIT)] [(.int (2 : Int32))])) _
  refine Go.st (fun _ k_ => XS.iloadN X11.here hx rfl (hb hby d1_29) rfl k_) ?_
  show Go p e below (T11.setTop (mkF m 30 #[.val (.int (1 : Int32)), .val (.ref w_LETTER), .val (.ref b1), .val (.int (4 : Int32)), .val (.int (2 : Int32)), .val (.ref w_LETTER_DIGIT)] [(.int (1 : Int32)), (.int (2 : Int32))])) _
  refine Go.st (fun _ k_ => XS.icmpYes X11.here hx rfl (pc0 := 30) (pc' := 36) rfl (hb hby d1_30) rfl (feq (by decide : ¬ ((2 : Int32) = (1 : Int32)))).2 (by decide) (by decide) k_) ?_
  show Go p e below (T11.setTop (mkF m 36 #[.val (.int (1 : Int32)), .val (.ref w_LETTER), .val (.ref b1), .val (.int (4 : Int32)), .val (.int (2 : Int32)), .val (.ref w_LETTER_DIGIT)] [])) _
  refine Go.st (fun _ k_ => XS.iinc X11.here hx rfl (hb hby d1_36) rfl (l' := #[.val (.int (1 : Int32)), .val (.ref w_LETTER), .val (.ref b1), .val (.int (4 : Int32)), .val (.int (3 : Int32)), .val (.ref w_LETTER_DIGIT)]) rfl k_) ?_
  show Go p e below (T11.setTop (mkF m 39 #[.val (.int (1 : Int32)), .val (.ref w_LETTER), .val (.ref b1), .val (.int (4 : Int32)), .val (.int (3 : Int32)), .val (.ref w_LETTER_DIGIT)] [])) _
  refine Go.st (fun _ k_ => XS.goto X11.here hx rfl (pc0 := 39) (pc' := 12) rfl (hb hby d1_39) (by decide) (by decide) k_) ?_
  show Go p e below (T11.setTop (mkF m 12 #[.val (.int (1 : Int32)), .val (.ref w_LETTER), .val (.ref b1), .val (.int (4 : Int32)), .val (.int (3 : Int32)), .val (.ref w_LETTER_DIGIT)] [])) _
  refine Go.st (fun _ k_ => XS.iload X11.here hx rfl (hb hby d1_12) rfl k_) ?_
  show Go p e below (T11.setTop (mkF m 14 #[.val (.int (1 : Int32)), .val (.ref w_LETTER), .val (.ref b1), .val (.int (4 : Int32)), .val (.int (3 : Int32)), .val (.ref w_LETTER_DIGIT)] [(.int (3 : Int32))])) _
  refine Go.st (fun _ k_ => XS.iloadN X11.here hx rfl (hb hby d1_14) rfl k_) ?_
  show Go p e below (T11.setTop (mkF m 15 #[.val (.int (1 : Int32)), .val (.ref w_LETTER), .val (.ref b1), .val (.int (4 : Int32)), .val (.int (3 : Int32)), .val (.ref w_LETTER_DIGIT)] [(.int (4 : Int32)), (.int (3 : Int32))])) _
  refine Go.st (fun _ k_ => XS.icmpNo X11.here hx rfl (hb hby d1_15) rfl (tlt (by decide : (3 : Int32) < (4 : Int32))).2.1 k_) ?_
  show Go p e below (T11.setTop (mkF m 18 #[.val (.int (1 : Int32)), .val (.ref w_LETTER), .val (.ref b1), .val (.int (4 : Int32)), .val (.int (3 : Int32)), .val (.ref w_LETTER_DIGIT)] [])) _
  refine Go.st (fun _ k_ => XS.aloadN X11.here hx rfl (hb hby d1_18) rfl rfl k_) ?_
  show Go p e below (T11.setTop (mkF m 19 #[.val (.int (1 : Int32)), .val (.ref w_LETTER), .val (.ref b1), .val (.int (4 : Int32)), .val (.int (3 : Int32)), .val (.ref w_LETTER_DIGIT)] [(.ref b1)])) _
  refine Go.st (fun _ k_ => XS.iload X11.here hx rfl (hb hby d1_19) rfl k_) ?_
  show Go p e below (T11.setTop (mkF m 21 #[.val (.int (1 : Int32)), .val (.ref w_LETTER), .val (.ref b1), .val (.int (4 : Int32)), .val (.int (3 : Int32)), .val (.ref w_LETTER_DIGIT)] [(.int (3 : Int32)), (.ref b1)])) _
  obtain ⟨cl12, Ar12, q12, S12, N12_, H12, G12⟩ := id V_b1
  have hin12 : ¬ ((3 : Int32) < 0 ∨ cl12.slots.size ≤ ((3 : Int32)).toNatClampNeg) := inb_of S12 ⟨by decide, by decide⟩
  have hat12 : cl12.slots[((3 : Int32)).toNatClampNeg]? = some (.ref w_LETTER_DIGIT_SPECIAL) := H12 _ (Nat.lt_of_not_le fun q_ => hin12 (Or.inr q_))
  refine Go.st (X11.aaload hx (j := (3 : Int32)) (v := (.ref w_LETTER_DIGIT_SPECIAL)) (by rw [e11]; exact Ar12.1) (State.isArrayOf_alike hZ.alike Ar12.2.1) rfl Ar12.2.2 hin12 hat12 (g := (mkF m 21 #[.val (.int (1 : Int32)), .val (.ref w_LETTER), .val (.ref b1), .val (.int (4 : Int32)), .val (.int (3 : Int32)), .val (.ref w_LETTER_DIGIT)] [(.int (3 : Int32)), (.ref b1)])) rfl rfl (hb hby d1_21)) ?_
  show Go p e below (T11.setTop (mkF m 22 #[.val (.int (1 : Int32)), .val (.ref w_LETTER), .val (.ref b1), .val (.int (4 : Int32)), .val (.int (3 : Int32)), .val (.ref w_LETTER_DIGIT)] [(.ref w_LETTER_DIGIT_SPECIAL)])) _
  refine Go.st (fun _ k_ => XS.astore X11.here hx rfl (hb hby d1_22) rfl rfl (l' := #[.val (.int (1 : Int32)), .val (.ref w_LETTER), .val (.ref b1), .val (.int (4 : Int32)), .val (.int (3 : Int32)), .val (.ref w_LETTER_DIGIT_SPECIAL)]) rfl k_) ?_
  show Go p e below (T11.setTop (mkF m 24 #[.val (.int (1 : Int32)), .val (.ref w_LETTER), .val (.ref b1), .val (.int (4 : Int32)), .val (.int (3 : Int32)), .val (.ref w_LETTER_DIGIT_SPECIAL)] [])) _
  refine Go.st (fun _ k_ => XS.aload X11.here hx rfl (hb hby d1_24) rfl rfl k_) ?_
  show Go p e below (T11.setTop (mkF m 26 #[.val (.int (1 : Int32)), .val (.ref w_LETTER), .val (.ref b1), .val (.int (4 : Int32)), .val (.int (3 : Int32)), .val (.ref w_LETTER_DIGIT_SPECIAL)] [(.ref w_LETTER_DIGIT_SPECIAL)])) _
  have H13 := (F_code_LETTER_DIGIT_SPECIAL.ext E1)
  obtain ⟨T14, X14, e14, st14⟩ := getF X11 hx hZ hown (host := "") (Or.inl (hw _ (List.mem_of_getElem? (i := 23) rfl))) Via.refl e11 H13 (g := (mkF m 26 #[.val (.int (1 : Int32)), .val (.ref w_LETTER), .val (.ref b1), .val (.int (4 : Int32)), .val (.int (3 : Int32)), .val (.ref w_LETTER_DIGIT_SPECIAL)] [(.ref w_LETTER_DIGIT_SPECIAL)])) rfl rfl (hb hby d1_26)
  refine Go.st st14 ?_
  show Go p e below (T14.setTop (mkF m 29 #[.val (.int (1 : Int32)), .val (.ref w_LETTER), .val (.ref b1), .val (.int (4 : Int32)), .val (.int (3 : Int32)), .val (.ref w_LETTER_DIGIT_SPECIAL)] [(.int (3 : Int32))])) _
  refine Go.st (fun _ k_ => XS.iloadN X14.here hx rfl (hb hby d1_29) rfl k_) ?_
  show Go p e below (T14.setTop (mkF m 30 #[.val (.int (1 : Int32)), .val (.ref w_LETTER), .val (.ref b1), .val (.int (4 : Int32)), .val (.int (3 : Int32)), .val (.ref w_LETTER_DIGIT_SPECIAL)] [(.int (1 : Int32)), (.int (3 : Int32))])) _
  refine Go.st (fun _ k_ => XS.icmpYes X14.here hx rfl (pc0 := 30) (pc' := 36) rfl (hb hby d1_30) rfl (feq (by decide : ¬ ((3 : Int32) = (1 : Int32)))).2 (by decide) (by decide) k_) ?_
  show Go p e below (T14.setTop (mkF m 36 #[.val (.int (1 : Int32)), .val (.ref w_LETTER), .val (.ref b1), .val (.int (4 : Int32)), .val (.int (3 : Int32)), .val (.ref w_LETTER_DIGIT_SPECIAL)] [])) _
  refine Go.st (fun _ k_ => XS.iinc X14.here hx rfl (hb hby d1_36) rfl (l' := #[.val (.int (1 : Int32)), .val (.ref w_LETTER), .val (.ref b1), .val (.int (4 : Int32)), .val (.int (4 : Int32)), .val (.ref w_LETTER_DIGIT_SPECIAL)]) rfl k_) ?_
  show Go p e below (T14.setTop (mkF m 39 #[.val (.int (1 : Int32)), .val (.ref w_LETTER), .val (.ref b1), .val (.int (4 : Int32)), .val (.int (4 : Int32)), .val (.ref w_LETTER_DIGIT_SPECIAL)] [])) _
  refine Go.st (fun _ k_ => XS.goto X14.here hx rfl (pc0 := 39) (pc' := 12) rfl (hb hby d1_39) (by decide) (by decide) k_) ?_
  show Go p e below (T14.setTop (mkF m 12 #[.val (.int (1 : Int32)), .val (.ref w_LETTER), .val (.ref b1), .val (.int (4 : Int32)), .val (.int (4 : Int32)), .val (.ref w_LETTER_DIGIT_SPECIAL)] [])) _
  refine Go.st (fun _ k_ => XS.iload X14.here hx rfl (hb hby d1_12) rfl k_) ?_
  show Go p e below (T14.setTop (mkF m 14 #[.val (.int (1 : Int32)), .val (.ref w_LETTER), .val (.ref b1), .val (.int (4 : Int32)), .val (.int (4 : Int32)), .val (.ref w_LETTER_DIGIT_SPECIAL)] [(.int (4 : Int32))])) _
  refine Go.st (fun _ k_ => XS.iloadN X14.here hx rfl (hb hby d1_14) rfl k_) ?_
  show Go p e below (T14.setTop (mkF m 15 #[.val (.int (1 : Int32)), .val (.ref w_LETTER), .val (.ref b1), .val (.int (4 : Int32)), .val (.int (4 : Int32)), .val (.ref w_LETTER_DIGIT_SPECIAL)] [(.int (4 : Int32)), (.int (4 : Int32))])) _
  refine Go.st (fun _ k_ => XS.icmpYes X14.here hx rfl (pc0 := 15) (pc' := 42) rfl (hb hby d1_15) rfl (flt (by decide : ¬ ((4 : Int32) < (4 : Int32)))).2.1 (by decide) (by decide) k_) ?_
  show Go p e below (T14.setTop (mkF m 42 #[.val (.int (1 : Int32)), .val (.ref w_LETTER), .val (.ref b1), .val (.int (4 : Int32)), .val (.int (4 : Int32)), .val (.ref w_LETTER_DIGIT_SPECIAL)] [])) _
  refine Go.st (fun _ k_ => XS.aloadN X14.here hx rfl (hb hby d1_42) rfl rfl k_) ?_
  show Go p e below (T14.setTop (mkF m 43 #[.val (.int (1 : Int32)), .val (.ref w_LETTER), .val (.ref b1), .val (.int (4 : Int32)), .val (.int (4 : Int32)), .val (.ref w_LETTER_DIGIT_SPECIAL)] [(.ref w_LETTER)])) _
  refine Go.fin X14 (v := some (.ref w_LETTER)) (fun h_ => by rw [Bd.returns] at h_; cases h_) Bd.notSynchronized (fun _ hr => retOut X14 hx Bd.returns rfl (Or.inr (Or.inr (Or.inr (Or.inr ⟨rfl, rfl, rfl⟩)))) (hb hby d1_43) hr) (fun U' hU hF => ⟨_, _, rfl, ?_, hF.1, hF.2.1, hF.2.2.mono (by decide) (by decide)⟩)
  rw [hU, e14]
  exact ⟨(congrArg (fun z_ : Addr => some (Value.ref z_)) (show w_LETTER = w_LETTER from rfl)), N1, ((Keep.refl h0 []).ext E1)⟩
theorem ef_rm1_2 (m : MethodId)  : entryFrame m #[(.int (2 : Int32))] 6 = mkF m 0 #[.val (.int (2 : Int32)), .unset, .unset, .unset, .unset, .unset] [] := by first | (simp [entryFrame, mkF, argsToLocals, Value.category]; done) | rfl
def Q_rm1_2 (Z : State) (w_ANY : Addr) (w_LETTER : Addr) (w_LETTER_DIGIT : Addr) (w_LETTER_DIGIT_SPECIAL : Addr) (kv : ClassId) (w__VALUES : Addr) (h0 : Heap) (n0 : Nat) (v : Option Value) (h : Heap) (L : List Loc) : Prop := v = some (.ref w_LETTER_DIGIT) ∧ Fr n0 L ∧ Keep h0 h []
set_option maxRecDepth 65536 in
set_option maxHeartbeats 40000000 in
theorem rm1_2 (l : Launch) (Z : State) (a0 : Array Value) (hw : ∀ d ∈ tables_1, d.before a0 Z = true) (ws : List Jvm.Cond) (w_ANY : Addr) (w_LETTER : Addr) (w_LETTER_DIGIT : Addr) (w_LETTER_DIGIT_SPECIAL : Addr) (kv : ClassId) (w__VALUES : Addr) (h0 : Heap) (n0 : Nat) (Z0 : n0 ≤ h0.size) (S__VALUES : Sta Z h0 "com/example/patuxent/patuxent/PasswordComplexity" "$VALUES" "[Lcom/example/patuxent/patuxent/PasswordComplexity;" (.ref w__VALUES)) (V_vals : Arv Z h0 w__VALUES kv (.object "com/example/patuxent/patuxent/PasswordComplexity") (4 : Int32) [(.ref w_ANY), (.ref w_LETTER), (.ref w_LETTER_DIGIT), (.ref w_LETTER_DIGIT_SPECIAL)] .null) (E_vals : Exa Z h0 w__VALUES "[Lcom/example/patuxent/patuxent/PasswordComplexity;") (F_code_ANY : Fld Z h0 w_ANY "com/example/patuxent/patuxent/PasswordComplexity" "code" "I" (.int (0 : Int32))) (F_code_LETTER : Fld Z h0 w_LETTER "com/example/patuxent/patuxent/PasswordComplexity" "code" "I" (.int (1 : Int32))) (F_code_LETTER_DIGIT : Fld Z h0 w_LETTER_DIGIT "com/example/patuxent/patuxent/PasswordComplexity" "code" "I" (.int (2 : Int32))) (F_code_LETTER_DIGIT_SPECIAL : Fld Z h0 w_LETTER_DIGIT_SPECIAL "com/example/patuxent/patuxent/PasswordComplexity" "code" "I" (.int (3 : Int32))) :
    MetFree l (⟨"com/example/patuxent/patuxent/PasswordComplexity", "ofCode", "(I)Lcom/example/patuxent/patuxent/PasswordComplexity;"⟩ : MethodName) (head1 (Jvm.Cond.code (⟨"com/example/patuxent/patuxent/PasswordComplexity", "ofCode", "(I)Lcom/example/patuxent/patuxent/PasswordComplexity;"⟩ : MethodName) prog_8_method_6_code 6 (some (.object "com/example/patuxent/patuxent/PasswordComplexity")) :: ws) ({ frames := 2, cells := 1, slots := 4, locals := 25 } : Room)) (fun a U => a = #[(.int (2 : Int32))] ∧ Z.Warmed39 U.vm ∧ U.heap = h0) (fun _ _ _ _ _ => True) (fun _ U o U' => ∃ v L, o = .returned v ∧ Q_rm1_2 Z w_ANY w_LETTER w_LETTER_DIGIT w_LETTER_DIGIT_SPECIAL kv w__VALUES h0 n0 v U'.heap L ∧ FrameEnd U o U' L ({ frames := 2, cells := 1, slots := 4, locals := 25 } : Room).cells ({ frames := 2, cells := 1, slots := 4, locals := 25 } : Room).slots) := by
  refine MetFree.of_bodySF (plainFor_of_name pn_4) hisR ?_
  intro p e s m args below meth c s₁ Bd hml0 hP hK
  obtain ⟨rfl, hZ, hh⟩ := hP
  have hx := Bd.exec
  have hby := Bd.bytes
  have hml : c.maxLocals = 6 := hml0
  have hown : s.vm.findClass "com/example/patuxent/patuxent/PasswordComplexity" = some m.cls := findClass_of_methodNamed Bd.named
  have hnm := (name_of_methodNamed Bd.named Bd.method).1
  have X0 : Stand p l e ({ frames := 2, cells := 1, slots := 4, locals := 25 } : Room) s m #[(.int (2 : Int32))] below meth c s₁ [] 0 0 := Stand.of_body Bd
  have e0 : s₁.heap = h0 := by rw [← hh, Bd.state]; rfl
  have N0 := Fr.nil n0
  show Go p e below (s₁.setTop (entryFrame m #[(.int (2 : Int32))] 6)) (fun o U' => ∃ v L, o = .returned v ∧ Q_rm1_2 Z w_ANY w_LETTER w_LETTER_DIGIT w_LETTER_DIGIT_SPECIAL kv w__VALUES h0 n0 v U'.heap L ∧ FrameEnd s o U' L ({ frames := 2, cells := 1, slots := 4, locals := 25 } : Room).cells ({ frames := 2, cells := 1, slots := 4, locals := 25 } : Room).slots)
  rw [ef_rm1_2]
  show Go p e below (s₁.setTop (mkF m 0 #[.val (.int (2 : Int32)), .unset, .unset, .unset, .unset, .unset] [])) _
  refine Go.st (fun _ k_ => XS.aconstNull X0.here hx rfl (hb hby d1_0) k_) ?_
  show Go p e below (s₁.setTop (mkF m 1 #[.val (.int (2 : Int32)), .unset, .unset, .unset, .unset, .unset] [.null])) _
  refine Go.st (fun _ k_ => XS.astoreN X0.here hx rfl (hb hby d1_1) rfl rfl (l' := #[.val (.int (2 : Int32)), .val .null, .unset, .unset, .unset, .unset]) rfl k_) ?_
  show Go p e below (s₁.setTop (mkF m 2 #[.val (.int (2 : Int32)), .val .null, .unset, .unset, .unset, .unset] [])) _
  obtain ⟨_, _, ⟨T1, L1, k1_, n1_⟩, -, X1, ⟨Lc1, hQ1, l1_, y1_, z1_⟩, st1⟩ := Jvm.LawKit.callS X0 hx (y := (⟨"com/example/patuxent/patuxent/PasswordComplexity", "values", "()[Lcom/example/patuxent/patuxent/PasswordComplexity;"⟩ : MethodName)) hown (mvT hZ (hw _ (List.mem_of_getElem? (i := 4) rfl))) (mvT hZ (hw _ (List.mem_of_getElem? (i := 5) rfl))) (mvT hZ (hw _ (List.mem_of_getElem? (i := 2) rfl))) (mvT hZ (hw _ (List.mem_of_getElem? (i := 6) rfl))) (by decide) (backOf (W := 0) (rm2 l Z a0 hw [] w_ANY w_LETTER w_LETTER_DIGIT w_LETTER_DIGIT_SPECIAL kv w__VALUES h0 n0 Z0 S__VALUES V_vals E_vals) hZ (hw _ (List.mem_of_getElem? (i := 6) rfl)) (hw _ (List.mem_of_getElem? (i := 2) rfl)) (by decide) (by decide)) (g := (mkF m 2 #[.val (.int (2 : Int32)), .val .null, .unset, .unset, .unset, .unset] [])) rfl (by rw [hml]; rfl) (argsL := []) (rest := []) (lenOf pd_0 rfl) rfl (by show 2 * 0 + _ ≤ _; exact Nat.le_of_eq rfl) (hb hby d1_2) (fun _ _ => ⟨rfl, e0, (by decide : 0 + 1 ≤ _), (by decide : 0 + 4 ≤ _)⟩)
  dsimp only [Pt.U, Pt.locs, Pt.cells, Pt.slots] at X1 l1_ y1_ z1_ st1 hQ1
  subst l1_ y1_ z1_
  obtain ⟨rfl, N1q, E1, A1⟩ := hQ1
  have N1 := Fr.app N0 N1q
  obtain ⟨b1, g1⟩ : ∃ z_, z_ = h0.size := ⟨_, rfl⟩
  rw [← g1] at A1 st1
  have g_b1 : n0 ≤ b1 := Nat.le_trans Z0 (Nat.le_of_eq g1.symm)
  have V_b1 := A1
  have lt_b1 : b1 < T1.heap.size := own_arvlt V_b1
  refine Go.st st1 ?_
  show Go p e below (T1.setTop (mkF m 5 #[.val (.int (2 : Int32)), .val .null, .unset, .unset, .unset, .unset] [(.ref b1)])) _
  refine Go.st (fun _ k_ => XS.astoreN X1.here hx rfl (hb hby d1_5) rfl rfl (l' := #[.val (.int (2 : Int32)), .val .null, .val (.ref b1), .unset, .unset, .unset]) rfl k_) ?_
  show Go p e below (T1.setTop (mkF m 6 #[.val (.int (2 : Int32)), .val .null, .val (.ref b1), .unset, .unset, .unset] [])) _
  refine Go.st (fun _ k_ => XS.aloadN X1.here hx rfl (hb hby d1_6) rfl rfl k_) ?_
  show Go p e below (T1.setTop (mkF m 7 #[.val (.int (2 : Int32)), .val .null, .val (.ref b1), .unset, .unset, .unset] [(.ref b1)])) _
  obtain ⟨cl2, Ar2, -, S2, N2_, -, -⟩ := id V_b1
  refine Go.st (X1.arraylength hx (by exact Ar2.1) (State.isArrayOf_alike hZ.alike Ar2.2.1) (g := (mkF m 7 #[.val (.int (2 : Int32)), .val .null, .val (.ref b1), .unset, .unset, .unset] [(.ref b1)])) rfl rfl (hb hby d1_7)) ?_
  rw [len_of S2 N2_]
  show Go p e below (T1.setTop (mkF m 8 #[.val (.int (2 : Int32)), .val .null, .val (.ref b1), .unset, .unset, .unset] [(.int (4 : Int32))])) _
  refine Go.st (fun _ k_ => XS.istoreN X1.here hx rfl (hb hby d1_8) rfl (l' := #[.val (.int (2 : Int32)), .val .null, .val (.ref b1), .val (.int (4 : Int32)), .unset, .unset]) rfl k_) ?_
  show Go p e below (T1.setTop (mkF m 9 #[.val (.int (2 : Int32)), .val .null, .val (.ref b1), .val (.int (4 : Int32)), .unset, .unset] [])) _
  refine Go.st (fun _ k_ => XS.iconst X1.here hx rfl (hb hby d1_9) k_) ?_
  show Go p e below (T1.setTop (mkF m 10 #[.val (.int (2 : Int32)), .val .null, .val (.ref b1), .val (.int (4 : Int32)), .unset, .unset] [(.int (0 : Int32))])) _
  refine Go.st (fun _ k_ => XS.istore X1.here hx rfl (hb hby d1_10) rfl (l' := #[.val (.int (2 : Int32)), .val .null, .val (.ref b1), .val (.int (4 : Int32)), .val (.int (0 : Int32)), .unset]) rfl k_) ?_
  show Go p e below (T1.setTop (mkF m 12 #[.val (.int (2 : Int32)), .val .null, .val (.ref b1), .val (.int (4 : Int32)), .val (.int (0 : Int32)), .unset] [])) _
  refine Go.st (fun _ k_ => XS.iload X1.here hx rfl (hb hby d1_12) rfl k_) ?_
  show Go p e below (T1.setTop (mkF m 14 #[.val (.int (2 : Int32)), .val .null, .val (.ref b1), .val (.int (4 : Int32)), .val (.int (0 : Int32)), .unset] [(.int (0 : Int32))])) _
  refine Go.st (fun _ k_ => XS.iloadN X1.here hx rfl (hb hby d1_14) rfl k_) ?_
  show Go p e below (T1.setTop (mkF m 15 #[.val (.int (2 : Int32)), .val .null, .val (.ref b1), .val (.int (4 : Int32)), .val (.int (0 : Int32)), .unset] [(.int (4 : Int32)), (.int (0 : Int32))])) _
  refine Go.st (fun _ k_ => XS.icmpNo X1.here hx rfl (hb hby d1_15) rfl (tlt (by decide : (0 : Int32) < (4 : Int32))).2.1 k_) ?_
  show Go p e below (T1.setTop (mkF m 18 #[.val (.int (2 : Int32)), .val .null, .val (.ref b1), .val (.int (4 : Int32)), .val (.int (0 : Int32)), .unset] [])) _
  refine Go.st (fun _ k_ => XS.aloadN X1.here hx rfl (hb hby d1_18) rfl rfl k_) ?_
  show Go p e below (T1.setTop (mkF m 19 #[.val (.int (2 : Int32)), .val .null, .val (.ref b1), .val (.int (4 : Int32)), .val (.int (0 : Int32)), .unset] [(.ref b1)])) _
  refine Go.st (fun _ k_ => XS.iload X1.here hx rfl (hb hby d1_19) rfl k_) ?_
  show Go p e below (T1.setTop (mkF m 21 #[.val (.int (2 : Int32)), .val .null, .val (.ref b1), .val (.int (4 : Int32)), .val (.int (0 : Int32)), .unset] [(.int (0 : Int32)), (.ref b1)])) _
  obtain ⟨cl3, Ar3, q3, S3, N3_, H3, G3⟩ := id V_b1
  have hin3 : ¬ ((0 : Int32) < 0 ∨ cl3.slots.size ≤ ((0 : Int32)).toNatClampNeg) := inb_of S3 ⟨by decide, by decide⟩
  have hat3 : cl3.slots[((0 : Int32)).toNatClampNeg]? = some (.ref w_ANY) := H3 _ (Nat.lt_of_not_le fun q_ => hin3 (Or.inr q_))
  refine Go.st (X1.aaload hx (j := (0 : Int32)) (v := (.ref w_ANY)) (by exact Ar3.1) (State.isArrayOf_alike hZ.alike Ar3.2.1) rfl Ar3.2.2 hin3 hat3 (g := (mkF m 21 #[.val (.int (2 : Int32)), .val .null, .val (.ref b1), .val (.int (4 : Int32)), .val (.int (0 : Int32)), .unset] [(.int (0 : Int32)), (.ref b1)])) rfl rfl (hb hby d1_21)) ?_
  show Go p e below (T1.setTop (mkF m 22 #[.val (.int (2 : Int32)), .val .null, .val (.ref b1), .val (.int (4 : Int32)), .val (.int (0 : Int32)), .unset] [(.ref w_ANY)])) _
  refine Go.st (fun _ k_ => XS.astore X1.here hx rfl (hb hby d1_22) rfl rfl (l' := #[.val (.int (2 : Int32)), .val .null, .val (.ref b1), .val (.int (4 : Int32)), .val (.int (0 : Int32)), .val (.ref w_ANY)]) rfl k_) ?_
  show Go p e below (T1.setTop (mkF m 24 #[.val (.int (2 : Int32)), .val .null, .val (.ref b1), .val (.int (4 : Int32)), .val (.int (0 : Int32)), .val (.ref w_ANY)] [])) _
  refine Go.st (fun _ k_ => XS.aload X1.here hx rfl (hb hby d1_24) rfl rfl k_) ?_
  show Go p e below (T1.setTop (mkF m 26 #[.val (.int (2 : Int32)), .val .null, .val (.ref b1), .val (.int (4 : Int32)), .val (.int (0 : Int32)), .val (.ref w_ANY)] [(.ref w_ANY)])) _
  have H4 := (F_code_ANY.ext E1)
  obtain ⟨T5, X5, e5, st5⟩ := getF X1 hx hZ hown (host := "") (Or.inl (hw _ (List.mem_of_getElem? (i := 23) rfl))) Via.refl rfl H4 (g := (mkF m 26 #[.val (.int (2 : Int32)), .val .null, .val (.ref b1), .val (.int (4 : Int32)), .val (.int (0 : Int32)), .val (.ref w_ANY)] [(.ref w_ANY)])) rfl rfl (hb hby d1_26)
  refine Go.st st5 ?_
  show Go p e below (T5.setTop (mkF m 29 #[.val (.int (2 : Int32)), .val .null, .val (.ref b1), .val (.int (4 : Int32)), .val (.int (0 : Int32)), .val (.ref w_ANY)] [(.int (0 : Int32))])) _
  refine Go.st (fun _ k_ => XS.iloadN X5.here hx rfl (hb hby d1_29) rfl k_) ?_
  show Go p e below (T5.setTop (mkF m 30 #[.val (.int (2 : Int32)), .val .null, .val (.ref b1), .val (.int (4 : Int32)), .val (.int (0 : Int32)), .val (.ref w_ANY)] [(.int (2 : Int32)), (.int (0 : Int32))])) _
  refine Go.st (fun _ k_ => XS.icmpYes X5.here hx rfl (pc0 := 30) (pc' := 36) rfl (hb hby d1_30) rfl (feq (by decide : ¬ ((0 : Int32) = (2 : Int32)))).2 (by decide) (by decide) k_) ?_
  show Go p e below (T5.setTop (mkF m 36 #[.val (.int (2 : Int32)), .val .null, .val (.ref b1), .val (.int (4 : Int32)), .val (.int (0 : Int32)), .val (.ref w_ANY)] [])) _
  refine Go.st (fun _ k_ => XS.iinc X5.here hx rfl (hb hby d1_36) rfl (l' := #[.val (.int (2 : Int32)), .val .null, .val (.ref b1), .val (.int (4 : Int32)), .val (.int (1 : Int32)), .val (.ref w_ANY)]) rfl k_) ?_
  show Go p e below (T5.setTop (mkF m 39 #[.val (.int (2 : Int32)), .val .null, .val (.ref b1), .val (.int (4 : Int32)), .val (.int (1 : Int32)), .val (.ref w_ANY)] [])) _
  refine Go.st (fun _ k_ => XS.goto X5.here hx rfl (pc0 := 39) (pc' := 12) rfl (hb hby d1_39) (by decide) (by decide) k_) ?_
  show Go p e below (T5.setTop (mkF m 12 #[.val (.int (2 : Int32)), .val .null, .val (.ref b1), .val (.int (4 : Int32)), .val (.int (1 : Int32)), .val (.ref w_ANY)] [])) _
  refine Go.st (fun _ k_ => XS.iload X5.here hx rfl (hb hby d1_12) rfl k_) ?_
  show Go p e below (T5.setTop (mkF m 14 #[.val (.int (2 : Int32)), .val .null, .val (.ref b1), .val (.int (4 : Int32)), .val (.int (1 : Int32)), .val (.ref w_ANY)] [(.int (1 : Int32))])) _
  refine Go.st (fun _ k_ => XS.iloadN X5.here hx rfl (hb hby d1_14) rfl k_) ?_
  show Go p e below (T5.setTop (mkF m 15 #[.val (.int (2 : Int32)), .val .null, .val (.ref b1), .val (.int (4 : Int32)), .val (.int (1 : Int32)), .val (.ref w_ANY)] [(.int (4 : Int32)), (.int (1 : Int32))])) _
  refine Go.st (fun _ k_ => XS.icmpNo X5.here hx rfl (hb hby d1_15) rfl (tlt (by decide : (1 : Int32) < (4 : Int32))).2.1 k_) ?_
  show Go p e below (T5.setTop (mkF m 18 #[.val (.int (2 : Int32)), .val .null, .val (.ref b1), .val (.int (4 : Int32)), .val (.int (1 : Int32)), .val (.ref w_ANY)] [])) _
  refine Go.st (fun _ k_ => XS.aloadN X5.here hx rfl (hb hby d1_18) rfl rfl k_) ?_
  show Go p e below (T5.setTop (mkF m 19 #[.val (.int (2 : Int32)), .val .null, .val (.ref b1), .val (.int (4 : Int32)), .val (.int (1 : Int32)), .val (.ref w_ANY)] [(.ref b1)])) _
  refine Go.st (fun _ k_ => XS.iload X5.here hx rfl (hb hby d1_19) rfl k_) ?_
  show Go p e below (T5.setTop (mkF m 21 #[.val (.int (2 : Int32)), .val .null, .val (.ref b1), .val (.int (4 : Int32)), .val (.int (1 : Int32)), .val (.ref w_ANY)] [(.int (1 : Int32)), (.ref b1)])) _
  obtain ⟨cl6, Ar6, q6, S6, N6_, H6, G6⟩ := id V_b1
  have hin6 : ¬ ((1 : Int32) < 0 ∨ cl6.slots.size ≤ ((1 : Int32)).toNatClampNeg) := inb_of S6 ⟨by decide, by decide⟩
  have hat6 : cl6.slots[((1 : Int32)).toNatClampNeg]? = some (.ref w_LETTER) := H6 _ (Nat.lt_of_not_le fun q_ => hin6 (Or.inr q_))
  refine Go.st (X5.aaload hx (j := (1 : Int32)) (v := (.ref w_LETTER)) (by rw [e5]; exact Ar6.1) (State.isArrayOf_alike hZ.alike Ar6.2.1) rfl Ar6.2.2 hin6 hat6 (g := (mkF m 21 #[.val (.int (2 : Int32)), .val .null, .val (.ref b1), .val (.int (4 : Int32)), .val (.int (1 : Int32)), .val (.ref w_ANY)] [(.int (1 : Int32)), (.ref b1)])) rfl rfl (hb hby d1_21)) ?_
  show Go p e below (T5.setTop (mkF m 22 #[.val (.int (2 : Int32)), .val .null, .val (.ref b1), .val (.int (4 : Int32)), .val (.int (1 : Int32)), .val (.ref w_ANY)] [(.ref w_LETTER)])) _
  refine Go.st (fun _ k_ => XS.astore X5.here hx rfl (hb hby d1_22) rfl rfl (l' := #[.val (.int (2 : Int32)), .val .null, .val (.ref b1), .val (.int (4 : Int32)), .val (.int (1 : Int32)), .val (.ref w_LETTER)]) rfl k_) ?_
  show Go p e below (T5.setTop (mkF m 24 #[.val (.int (2 : Int32)), .val .null, .val (.ref b1), .val (.int (4 : Int32)), .val (.int (1 : Int32)), .val (.ref w_LETTER)] [])) _
  refine Go.st (fun _ k_ => XS.aload X5.here hx rfl (hb hby d1_24) rfl rfl k_) ?_
  show Go p e below (T5.setTop (mkF m 26 #[.val (.int (2 : Int32)), .val .null, .val (.ref b1), .val (.int (4 : Int32)), .val (.int (1 : Int32)), .val (.ref w_LETTER)] [(.ref w_LETTER)])) _
  have H7 := (F_code_LETTER.ext E1)
  obtain ⟨T8, X8, e8, st8⟩ := getF X5 hx hZ hown (host := "") (Or.inl (hw _ (List.mem_of_getElem? (i := 23) rfl))) Via.refl e5 H7 (g := (mkF m 26 #[.val (.int (2 : Int32)), .val .null, .val (.ref b1), .val (.int (4 : Int32)), .val (.int (1 : Int32)), .val (.ref w_LETTER)] [(.ref w_LETTER)])) rfl rfl (hb hby d1_26)
  refine Go.st st8 ?_
  show Go p e below (T8.setTop (mkF m 29 #[.val (.int (2 : Int32)), .val .null, .val (.ref b1), .val (.int (4 : Int32)), .val (.int (1 : Int32)), .val (.ref w_LETTER)] [(.int (1 : Int32))])) _
  refine Go.st (fun _ k_ => XS.iloadN X8.here hx rfl (hb hby d1_29) rfl k_) ?_
  show Go p e below (T8.setTop (mkF m 30 #[.val (.int (2 : Int32)), .val .null, .val (.ref b1), .val (.int (4 : Int32)), .val (.int (1 : Int32)), .val (.ref w_LETTER)] [(.int (2 : Int32)), (.int (1 : Int32))])) _
  refine Go.st (fun _ k_ => XS.icmpYes X8.here hx rfl (pc0 := 30) (pc' := 36) rfl (hb hby d1_30) rfl (feq (by decide : ¬ ((1 : Int32) = (2 : Int32)))).2 (by decide) (by decide) k_) ?_
  show Go p e below (T8.setTop (mkF m 36 #[.val (.int (2 : Int32)), .val .null, .val (.ref b1), .val (.int (4 : Int32)), .val (.int (1 : Int32)), .val (.ref w_LETTER)] [])) _
  refine Go.st (fun _ k_ => XS.iinc X8.here hx rfl (hb hby d1_36) rfl (l' := #[.val (.int (2 : Int32)), .val .null, .val (.ref b1), .val (.int (4 : Int32)), .val (.int (2 : Int32)), .val (.ref w_LETTER)]) rfl k_) ?_
  show Go p e below (T8.setTop (mkF m 39 #[.val (.int (2 : Int32)), .val .null, .val (.ref b1), .val (.int (4 : Int32)), .val (.int (2 : Int32)), .val (.ref w_LETTER)] [])) _
  refine Go.st (fun _ k_ => XS.goto X8.here hx rfl (pc0 := 39) (pc' := 12) rfl (hb hby d1_39) (by decide) (by decide) k_) ?_
  show Go p e below (T8.setTop (mkF m 12 #[.val (.int (2 : Int32)), .val .null, .val (.ref b1), .val (.int (4 : Int32)), .val (.int (2 : Int32)), .val (.ref w_LETTER)] [])) _
  refine Go.st (fun _ k_ => XS.iload X8.here hx rfl (hb hby d1_12) rfl k_) ?_
  show Go p e below (T8.setTop (mkF m 14 #[.val (.int (2 : Int32)), .val .null, .val (.ref b1), .val (.int (4 : Int32)), .val (.int (2 : Int32)), .val (.ref w_LETTER)] [(.int (2 : Int32))])) _
  refine Go.st (fun _ k_ => XS.iloadN X8.here hx rfl (hb hby d1_14) rfl k_) ?_
  show Go p e below (T8.setTop (mkF m 15 #[.val (.int (2 : Int32)), .val .null, .val (.ref b1), .val (.int (4 : Int32)), .val (.int (2 : Int32)), .val (.ref w_LETTER)] [(.int (4 : Int32)), (.int (2 : Int32))])) _
  refine Go.st (fun _ k_ => XS.icmpNo X8.here hx rfl (hb hby d1_15) rfl (tlt (by decide : (2 : Int32) < (4 : Int32))).2.1 k_) ?_
  show Go p e below (T8.setTop (mkF m 18 #[.val (.int (2 : Int32)), .val .null, .val (.ref b1), .val (.int (4 : Int32)), .val (.int (2 : Int32)), .val (.ref w_LETTER)] [])) _
  refine Go.st (fun _ k_ => XS.aloadN X8.here hx rfl (hb hby d1_18) rfl rfl k_) ?_
  show Go p e below (T8.setTop (mkF m 19 #[.val (.int (2 : Int32)), .val .null, .val (.ref b1), .val (.int (4 : Int32)), .val (.int (2 : Int32)), .val (.ref w_LETTER)] [(.ref b1)])) _
  refine Go.st (fun _ k_ => XS.iload X8.here hx rfl (hb hby d1_19) rfl k_) ?_
  show Go p e below (T8.setTop (mkF m 21 #[.val (.int (2 : Int32)), .val .null, .val (.ref b1), .val (.int (4 : Int32)), .val (.int (2 : Int32)), .val (.ref w_LETTER)] [(.int (2 : Int32)), (.ref b1)])) _
  obtain ⟨cl9, Ar9, q9, S9, N9_, H9, G9⟩ := id V_b1
  have hin9 : ¬ ((2 : Int32) < 0 ∨ cl9.slots.size ≤ ((2 : Int32)).toNatClampNeg) := inb_of S9 ⟨by decide, by decide⟩
  have hat9 : cl9.slots[((2 : Int32)).toNatClampNeg]? = some (.ref w_LETTER_DIGIT) := H9 _ (Nat.lt_of_not_le fun q_ => hin9 (Or.inr q_))
  refine Go.st (X8.aaload hx (j := (2 : Int32)) (v := (.ref w_LETTER_DIGIT)) (by rw [e8]; exact Ar9.1) (State.isArrayOf_alike hZ.alike Ar9.2.1) rfl Ar9.2.2 hin9 hat9 (g := (mkF m 21 #[.val (.int (2 : Int32)), .val .null, .val (.ref b1), .val (.int (4 : Int32)), .val (.int (2 : Int32)), .val (.ref w_LETTER)] [(.int (2 : Int32)), (.ref b1)])) rfl rfl (hb hby d1_21)) ?_
  show Go p e below (T8.setTop (mkF m 22 #[.val (.int (2 : Int32)), .val .null, .val (.ref b1), .val (.int (4 : Int32)), .val (.int (2 : Int32)), .val (.ref w_LETTER)] [(.ref w_LETTER_DIGIT)])) _
  refine Go.st (fun _ k_ => XS.astore X8.here hx rfl (hb hby d1_22) rfl rfl (l' := #[.val (.int (2 : Int32)), .val .null, .val (.ref b1), .val (.int (4 : Int32)), .val (.int (2 : Int32)), .val (.ref w_LETTER_DIGIT)]) rfl k_) ?_
  show Go p e below (T8.setTop (mkF m 24 #[.val (.int (2 : Int32)), .val .null, .val (.ref b1), .val (.int (4 : Int32)), .val (.int (2 : Int32)), .val (.ref w_LETTER_DIGIT)] [])) _
  refine Go.st (fun _ k_ => XS.aload X8.here hx rfl (hb hby d1_24) rfl rfl k_) ?_
  show Go p e below (T8.setTop (mkF m 26 #[.val (.int (2 : Int32)), .val .null, .val (.ref b1), .val (.int (4 : Int32)), .val (.int (2 : Int32)), .val (.ref w_LETTER_DIGIT)] [(.ref w_LETTER_DIGIT)])) _
  have H10 := (F_code_LETTER_DIGIT.ext E1)
  obtain ⟨T11, X11, e11, st11⟩ := getF X8 hx hZ hown (host := "") (Or.inl (hw _ (List.mem_of_getElem? (i := 23) rfl))) Via.refl e8 H10 (g := (mkF m 26 #[.val (.int (2 : Int32)), .val .null, .val (.ref b1), .val (.int (4 : Int32)), .val (.int (2 : Int32)), .val (.ref w_LETTER_DIGIT)] [(.ref w_LETTER_DIGIT)])) rfl rfl (hb hby d1_26)
  refine Go.st st11 ?_
  show Go p e below (T11.setTop (mkF m 29 #[.val (.int (2 : Int32)), .val .null, .val (.ref b1), .val (.int (4 : Int32)), .val (.int (2 : Int32)), .val (.ref w_LETTER_DIGIT)] [(.int (2 : Int32))])) _
  refine Go.st (fun _ k_ => XS.iloadN X11.here hx rfl (hb hby d1_29) rfl k_) ?_
  show Go p e below (T11.setTop (mkF m 30 #[.val (.int (2 : Int32)), .val .null, .val (.ref b1), .val (.int (4 : Int32)), .val (.int (2 : Int32)), .val (.ref w_LETTER_DIGIT)] [(.int (2 : Int32)), (.int (2 : Int32))])) _
  refine Go.st (fun _ k_ => XS.icmpNo X11.here hx rfl (hb hby d1_30) rfl (teq (by decide : (2 : Int32) = (2 : Int32))).2 k_) ?_
  show Go p e below (T11.setTop (mkF m 33 #[.val (.int (2 : Int32)), .val .null, .val (.ref b1), .val (.int (4 : Int32)), .val (.int (2 : Int32)), .val (.ref w_LETTER_DIGIT)] [])) _
  refine Go.st (fun _ k_ => XS.aload X11.here hx rfl (hb hby d1_33) rfl rfl k_) ?_
  show Go p e below (T11.setTop (mkF m 35 #[.val (.int (2 : Int32)), .val .null, .val (.ref b1), .val (.int (4 : Int32)), .val (.int (2 : Int32)), .val (.ref w_LETTER_DIGIT)] [(.ref w_LETTER_DIGIT)])) _
  refine Go.st (fun _ k_ => XS.astoreN X11.here hx rfl (hb hby d1_35) rfl rfl (l' := #[.val (.int (2 : Int32)), .val (.ref w_LETTER_DIGIT), .val (.ref b1), .val (.int (4 : Int32)), .val (.int (2 : Int32)), .val (.ref w_LETTER_DIGIT)]) rfl k_) ?_
  show Go p e below (T11.setTop (mkF m 36 #[.val (.int (2 : Int32)), .val (.ref w_LETTER_DIGIT), .val (.ref b1), .val (.int (4 : Int32)), .val (.int (2 : Int32)), .val (.ref w_LETTER_DIGIT)] [])) _
  refine Go.st (fun _ k_ => XS.iinc X11.here hx rfl (hb hby d1_36) rfl (l' := #[.val (.int (2 : Int32)), .val (.ref w_LETTER_DIGIT), .val (.ref b1), .val (.int (4 : Int32)), .val (.int (3 : Int32)), .val (.ref w_LETTER_DIGIT)]) rfl k_) ?_
  show Go p e below (T11.setTop (mkF m 39 #[.val (.int (2 : Int32)), .val (.ref w_LETTER_DIGIT), .val (.ref b1), .val (.int (4 : Int32)), .val (.int (3 : Int32)), .val (.ref w_LETTER_DIGIT)] [])) _
  refine Go.st (fun _ k_ => XS.goto X11.here hx rfl (pc0 := 39) (pc' := 12) rfl (hb hby d1_39) (by decide) (by decide) k_) ?_
  show Go p e below (T11.setTop (mkF m 12 #[.val (.int (2 : Int32)), .val (.ref w_LETTER_DIGIT), .val (.ref b1), .val (.int (4 : Int32)), .val (.int (3 : Int32)), .val (.ref w_LETTER_DIGIT)] [])) _
  refine Go.st (fun _ k_ => XS.iload X11.here hx rfl (hb hby d1_12) rfl k_) ?_
  show Go p e below (T11.setTop (mkF m 14 #[.val (.int (2 : Int32)), .val (.ref w_LETTER_DIGIT), .val (.ref b1), .val (.int (4 : Int32)), .val (.int (3 : Int32)), .val (.ref w_LETTER_DIGIT)] [(.int (3 : Int32))])) _
  refine Go.st (fun _ k_ => XS.iloadN X11.here hx rfl (hb hby d1_14) rfl k_) ?_
  show Go p e below (T11.setTop (mkF m 15 #[.val (.int (2 : Int32)), .val (.ref w_LETTER_DIGIT), .val (.ref b1), .val (.int (4 : Int32)), .val (.int (3 : Int32)), .val (.ref w_LETTER_DIGIT)] [(.int (4 : Int32)), (.int (3 : Int32))])) _
  refine Go.st (fun _ k_ => XS.icmpNo X11.here hx rfl (hb hby d1_15) rfl (tlt (by decide : (3 : Int32) < (4 : Int32))).2.1 k_) ?_
  show Go p e below (T11.setTop (mkF m 18 #[.val (.int (2 : Int32)), .val (.ref w_LETTER_DIGIT), .val (.ref b1), .val (.int (4 : Int32)), .val (.int (3 : Int32)), .val (.ref w_LETTER_DIGIT)] [])) _
  refine Go.st (fun _ k_ => XS.aloadN X11.here hx rfl (hb hby d1_18) rfl rfl k_) ?_
  show Go p e below (T11.setTop (mkF m 19 #[.val (.int (2 : Int32)), .val (.ref w_LETTER_DIGIT), .val (.ref b1), .val (.int (4 : Int32)), .val (.int (3 : Int32)), .val (.ref w_LETTER_DIGIT)] [(.ref b1)])) _
  refine Go.st (fun _ k_ => XS.iload X11.here hx rfl (hb hby d1_19) rfl k_) ?_
  show Go p e below (T11.setTop (mkF m 21 #[.val (.int (2 : Int32)), .val (.ref w_LETTER_DIGIT), .val (.ref b1), .val (.int (4 : Int32)), .val (.int (3 : Int32)), .val (.ref w_LETTER_DIGIT)] [(.int (3 : Int32)), (.ref b1)])) _
  obtain ⟨cl12, Ar12, q12, S12, N12_, H12, G12⟩ := id V_b1
  have hin12 : ¬ ((3 : Int32) < 0 ∨ cl12.slots.size ≤ ((3 : Int32)).toNatClampNeg) := inb_of S12 ⟨by decide, by decide⟩
  have hat12 : cl12.slots[((3 : Int32)).toNatClampNeg]? = some (.ref w_LETTER_DIGIT_SPECIAL) := H12 _ (Nat.lt_of_not_le fun q_ => hin12 (Or.inr q_))
  refine Go.st (X11.aaload hx (j := (3 : Int32)) (v := (.ref w_LETTER_DIGIT_SPECIAL)) (by rw [e11]; exact Ar12.1) (State.isArrayOf_alike hZ.alike Ar12.2.1) rfl Ar12.2.2 hin12 hat12 (g := (mkF m 21 #[.val (.int (2 : Int32)), .val (.ref w_LETTER_DIGIT), .val (.ref b1), .val (.int (4 : Int32)), .val (.int (3 : Int32)), .val (.ref w_LETTER_DIGIT)] [(.int (3 : Int32)), (.ref b1)])) rfl rfl (hb hby d1_21)) ?_
  show Go p e below (T11.setTop (mkF m 22 #[.val (.int (2 : Int32)), .val (.ref w_LETTER_DIGIT), .val (.ref b1), .val (.int (4 : Int32)), .val (.int (3 : Int32)), .val (.ref w_LETTER_DIGIT)] [(.ref w_LETTER_DIGIT_SPECIAL)])) _
  refine Go.st (fun _ k_ => XS.astore X11.here hx rfl (hb hby d1_22) rfl rfl (l' := #[.val (.int (2 : Int32)), .val (.ref w_LETTER_DIGIT), .val (.ref b1), .val (.int (4 : Int32)), .val (.int (3 : Int32)), .val (.ref w_LETTER_DIGIT_SPECIAL)]) rfl k_) ?_
  show Go p e below (T11.setTop (mkF m 24 #[.val (.int (2 : Int32)), .val (.ref w_LETTER_DIGIT), .val (.ref b1), .val (.int (4 : Int32)), .val (.int (3 : Int32)), .val (.ref w_LETTER_DIGIT_SPECIAL)] [])) _
  refine Go.st (fun _ k_ => XS.aload X11.here hx rfl (hb hby d1_24) rfl rfl k_) ?_
  show Go p e below (T11.setTop (mkF m 26 #[.val (.int (2 : Int32)), .val (.ref w_LETTER_DIGIT), .val (.ref b1), .val (.int (4 : Int32)), .val (.int (3 : Int32)), .val (.ref w_LETTER_DIGIT_SPECIAL)] [(.ref w_LETTER_DIGIT_SPECIAL)])) _
  have H13 := (F_code_LETTER_DIGIT_SPECIAL.ext E1)
  obtain ⟨T14, X14, e14, st14⟩ := getF X11 hx hZ hown (host := "") (Or.inl (hw _ (List.mem_of_getElem? (i := 23) rfl))) Via.refl e11 H13 (g := (mkF m 26 #[.val (.int (2 : Int32)), .val (.ref w_LETTER_DIGIT), .val (.ref b1), .val (.int (4 : Int32)), .val (.int (3 : Int32)), .val (.ref w_LETTER_DIGIT_SPECIAL)] [(.ref w_LETTER_DIGIT_SPECIAL)])) rfl rfl (hb hby d1_26)
  refine Go.st st14 ?_
  show Go p e below (T14.setTop (mkF m 29 #[.val (.int (2 : Int32)), .val (.ref w_LETTER_DIGIT), .val (.ref b1), .val (.int (4 : Int32)), .val (.int (3 : Int32)), .val (.ref w_LETTER_DIGIT_SPECIAL)] [(.int (3 : Int32))])) _
  refine Go.st (fun _ k_ => XS.iloadN X14.here hx rfl (hb hby d1_29) rfl k_) ?_
  show Go p e below (T14.setTop (mkF m 30 #[.val (.int (2 : Int32)), .val (.ref w_LETTER_DIGIT), .val (.ref b1), .val (.int (4 : Int32)), .val (.int (3 : Int32)), .val (.ref w_LETTER_DIGIT_SPECIAL)] [(.int (2 : Int32)), (.int (3 : Int32))])) _
  refine Go.st (fun _ k_ => XS.icmpYes X14.here hx rfl (pc0 := 30) (pc' := 36) rfl (hb hby d1_30) rfl (feq (by decide : ¬ ((3 : Int32) = (2 : Int32)))).2 (by decide) (by decide) k_) ?_
  show Go p e below (T14.setTop (mkF m 36 #[.val (.int (2 : Int32)), .val (.ref w_LETTER_DIGIT), .val (.ref b1), .val (.int (4 : Int32)), .val (.int (3 : Int32)), .val (.ref w_LETTER_DIGIT_SPECIAL)] [])) _
  refine Go.st (fun _ k_ => XS.iinc X14.here hx rfl (hb hby d1_36) rfl (l' := #[.val (.int (2 : Int32)), .val (.ref w_LETTER_DIGIT), .val (.ref b1), .val (.int (4 : Int32)), .val (.int (4 : Int32)), .val (.ref w_LETTER_DIGIT_SPECIAL)]) rfl k_) ?_
  show Go p e below (T14.setTop (mkF m 39 #[.val (.int (2 : Int32)), .val (.ref w_LETTER_DIGIT), .val (.ref b1), .val (.int (4 : Int32)), .val (.int (4 : Int32)), .val (.ref w_LETTER_DIGIT_SPECIAL)] [])) _
  refine Go.st (fun _ k_ => XS.goto X14.here hx rfl (pc0 := 39) (pc' := 12) rfl (hb hby d1_39) (by decide) (by decide) k_) ?_
  show Go p e below (T14.setTop (mkF m 12 #[.val (.int (2 : Int32)), .val (.ref w_LETTER_DIGIT), .val (.ref b1), .val (.int (4 : Int32)), .val (.int (4 : Int32)), .val (.ref w_LETTER_DIGIT_SPECIAL)] [])) _
  refine Go.st (fun _ k_ => XS.iload X14.here hx rfl (hb hby d1_12) rfl k_) ?_
  show Go p e below (T14.setTop (mkF m 14 #[.val (.int (2 : Int32)), .val (.ref w_LETTER_DIGIT), .val (.ref b1), .val (.int (4 : Int32)), .val (.int (4 : Int32)), .val (.ref w_LETTER_DIGIT_SPECIAL)] [(.int (4 : Int32))])) _
  refine Go.st (fun _ k_ => XS.iloadN X14.here hx rfl (hb hby d1_14) rfl k_) ?_
  show Go p e below (T14.setTop (mkF m 15 #[.val (.int (2 : Int32)), .val (.ref w_LETTER_DIGIT), .val (.ref b1), .val (.int (4 : Int32)), .val (.int (4 : Int32)), .val (.ref w_LETTER_DIGIT_SPECIAL)] [(.int (4 : Int32)), (.int (4 : Int32))])) _
  refine Go.st (fun _ k_ => XS.icmpYes X14.here hx rfl (pc0 := 15) (pc' := 42) rfl (hb hby d1_15) rfl (flt (by decide : ¬ ((4 : Int32) < (4 : Int32)))).2.1 (by decide) (by decide) k_) ?_
  show Go p e below (T14.setTop (mkF m 42 #[.val (.int (2 : Int32)), .val (.ref w_LETTER_DIGIT), .val (.ref b1), .val (.int (4 : Int32)), .val (.int (4 : Int32)), .val (.ref w_LETTER_DIGIT_SPECIAL)] [])) _
  refine Go.st (fun _ k_ => XS.aloadN X14.here hx rfl (hb hby d1_42) rfl rfl k_) ?_
  show Go p e below (T14.setTop (mkF m 43 #[.val (.int (2 : Int32)), .val (.ref w_LETTER_DIGIT), .val (.ref b1), .val (.int (4 : Int32)), .val (.int (4 : Int32)), .val (.ref w_LETTER_DIGIT_SPECIAL)] [(.ref w_LETTER_DIGIT)])) _
  refine Go.fin X14 (v := some (.ref w_LETTER_DIGIT)) (fun h_ => by rw [Bd.returns] at h_; cases h_) Bd.notSynchronized (fun _ hr => retOut X14 hx Bd.returns rfl (Or.inr (Or.inr (Or.inr (Or.inr ⟨rfl, rfl, rfl⟩)))) (hb hby d1_43) hr) (fun U' hU hF => ⟨_, _, rfl, ?_, hF.1, hF.2.1, hF.2.2.mono (by decide) (by decide)⟩)
  rw [hU, e14]
  exact ⟨(congrArg (fun z_ : Addr => some (Value.ref z_)) (show w_LETTER_DIGIT = w_LETTER_DIGIT from rfl)), N1, ((Keep.refl h0 []).ext E1)⟩
theorem ef_rm1_3 (m : MethodId)  : entryFrame m #[(.int (3 : Int32))] 6 = mkF m 0 #[.val (.int (3 : Int32)), .unset, .unset, .unset, .unset, .unset] [] := by first | (simp [entryFrame, mkF, argsToLocals, Value.category]; done) | rfl
def Q_rm1_3 (Z : State) (w_ANY : Addr) (w_LETTER : Addr) (w_LETTER_DIGIT : Addr) (w_LETTER_DIGIT_SPECIAL : Addr) (kv : ClassId) (w__VALUES : Addr) (h0 : Heap) (n0 : Nat) (v : Option Value) (h : Heap) (L : List Loc) : Prop := v = some (.ref w_LETTER_DIGIT_SPECIAL) ∧ Fr n0 L ∧ Keep h0 h []
set_option maxRecDepth 65536 in
set_option maxHeartbeats 40000000 in
theorem rm1_3 (l : Launch) (Z : State) (a0 : Array Value) (hw : ∀ d ∈ tables_1, d.before a0 Z = true) (ws : List Jvm.Cond) (w_ANY : Addr) (w_LETTER : Addr) (w_LETTER_DIGIT : Addr) (w_LETTER_DIGIT_SPECIAL : Addr) (kv : ClassId) (w__VALUES : Addr) (h0 : Heap) (n0 : Nat) (Z0 : n0 ≤ h0.size) (S__VALUES : Sta Z h0 "com/example/patuxent/patuxent/PasswordComplexity" "$VALUES" "[Lcom/example/patuxent/patuxent/PasswordComplexity;" (.ref w__VALUES)) (V_vals : Arv Z h0 w__VALUES kv (.object "com/example/patuxent/patuxent/PasswordComplexity") (4 : Int32) [(.ref w_ANY), (.ref w_LETTER), (.ref w_LETTER_DIGIT), (.ref w_LETTER_DIGIT_SPECIAL)] .null) (E_vals : Exa Z h0 w__VALUES "[Lcom/example/patuxent/patuxent/PasswordComplexity;") (F_code_ANY : Fld Z h0 w_ANY "com/example/patuxent/patuxent/PasswordComplexity" "code" "I" (.int (0 : Int32))) (F_code_LETTER : Fld Z h0 w_LETTER "com/example/patuxent/patuxent/PasswordComplexity" "code" "I" (.int (1 : Int32))) (F_code_LETTER_DIGIT : Fld Z h0 w_LETTER_DIGIT "com/example/patuxent/patuxent/PasswordComplexity" "code" "I" (.int (2 : Int32))) (F_code_LETTER_DIGIT_SPECIAL : Fld Z h0 w_LETTER_DIGIT_SPECIAL "com/example/patuxent/patuxent/PasswordComplexity" "code" "I" (.int (3 : Int32))) :
    MetFree l (⟨"com/example/patuxent/patuxent/PasswordComplexity", "ofCode", "(I)Lcom/example/patuxent/patuxent/PasswordComplexity;"⟩ : MethodName) (head1 (Jvm.Cond.code (⟨"com/example/patuxent/patuxent/PasswordComplexity", "ofCode", "(I)Lcom/example/patuxent/patuxent/PasswordComplexity;"⟩ : MethodName) prog_8_method_6_code 6 (some (.object "com/example/patuxent/patuxent/PasswordComplexity")) :: ws) ({ frames := 2, cells := 1, slots := 4, locals := 25 } : Room)) (fun a U => a = #[(.int (3 : Int32))] ∧ Z.Warmed39 U.vm ∧ U.heap = h0) (fun _ _ _ _ _ => True) (fun _ U o U' => ∃ v L, o = .returned v ∧ Q_rm1_3 Z w_ANY w_LETTER w_LETTER_DIGIT w_LETTER_DIGIT_SPECIAL kv w__VALUES h0 n0 v U'.heap L ∧ FrameEnd U o U' L ({ frames := 2, cells := 1, slots := 4, locals := 25 } : Room).cells ({ frames := 2, cells := 1, slots := 4, locals := 25 } : Room).slots) := by
  refine MetFree.of_bodySF (plainFor_of_name pn_4) hisR ?_
  intro p e s m args below meth c s₁ Bd hml0 hP hK
  obtain ⟨rfl, hZ, hh⟩ := hP
  have hx := Bd.exec
  have hby := Bd.bytes
  have hml : c.maxLocals = 6 := hml0
  have hown : s.vm.findClass "com/example/patuxent/patuxent/PasswordComplexity" = some m.cls := findClass_of_methodNamed Bd.named
  have hnm := (name_of_methodNamed Bd.named Bd.method).1
  have X0 : Stand p l e ({ frames := 2, cells := 1, slots := 4, locals := 25 } : Room) s m #[(.int (3 : Int32))] below meth c s₁ [] 0 0 := Stand.of_body Bd
  have e0 : s₁.heap = h0 := by rw [← hh, Bd.state]; rfl
  have N0 := Fr.nil n0
  show Go p e below (s₁.setTop (entryFrame m #[(.int (3 : Int32))] 6)) (fun o U' => ∃ v L, o = .returned v ∧ Q_rm1_3 Z w_ANY w_LETTER w_LETTER_DIGIT w_LETTER_DIGIT_SPECIAL kv w__VALUES h0 n0 v U'.heap L ∧ FrameEnd s o U' L ({ frames := 2, cells := 1, slots := 4, locals := 25 } : Room).cells ({ frames := 2, cells := 1, slots := 4, locals := 25 } : Room).slots)
  rw [ef_rm1_3]
  show Go p e below (s₁.setTop (mkF m 0 #[.val (.int (3 : Int32)), .unset, .unset, .unset, .unset, .unset] [])) _
  refine Go.st (fun _ k_ => XS.aconstNull X0.here hx rfl (hb hby d1_0) k_) ?_
  show Go p e below (s₁.setTop (mkF m 1 #[.val (.int (3 : Int32)), .unset, .unset, .unset, .unset, .unset] [.null])) _
  refine Go.st (fun _ k_ => XS.astoreN X0.here hx rfl (hb hby d1_1) rfl rfl (l' := #[.val (.int (3 : Int32)), .val .null, .unset, .unset, .unset, .unset]) rfl k_) ?_
  show Go p e below (s₁.setTop (mkF m 2 #[.val (.int (3 : Int32)), .val .null, .unset, .unset, .unset, .unset] [])) _
  obtain ⟨_, _, ⟨T1, L1, k1_, n1_⟩, -, X1, ⟨Lc1, hQ1, l1_, y1_, z1_⟩, st1⟩ := Jvm.LawKit.callS X0 hx (y := (⟨"com/example/patuxent/patuxent/PasswordComplexity", "values", "()[Lcom/example/patuxent/patuxent/PasswordComplexity;"⟩ : MethodName)) hown (mvT hZ (hw _ (List.mem_of_getElem? (i := 4) rfl))) (mvT hZ (hw _ (List.mem_of_getElem? (i := 5) rfl))) (mvT hZ (hw _ (List.mem_of_getElem? (i := 2) rfl))) (mvT hZ (hw _ (List.mem_of_getElem? (i := 6) rfl))) (by decide) (backOf (W := 0) (rm2 l Z a0 hw [] w_ANY w_LETTER w_LETTER_DIGIT w_LETTER_DIGIT_SPECIAL kv w__VALUES h0 n0 Z0 S__VALUES V_vals E_vals) hZ (hw _ (List.mem_of_getElem? (i := 6) rfl)) (hw _ (List.mem_of_getElem? (i := 2) rfl)) (by decide) (by decide)) (g := (mkF m 2 #[.val (.int (3 : Int32)), .val .null, .unset, .unset, .unset, .unset] [])) rfl (by rw [hml]; rfl) (argsL := []) (rest := []) (lenOf pd_0 rfl) rfl (by show 2 * 0 + _ ≤ _; exact Nat.le_of_eq rfl) (hb hby d1_2) (fun _ _ => ⟨rfl, e0, (by decide : 0 + 1 ≤ _), (by decide : 0 + 4 ≤ _)⟩)
  dsimp only [Pt.U, Pt.locs, Pt.cells, Pt.slots] at X1 l1_ y1_ z1_ st1 hQ1
  subst l1_ y1_ z1_
  obtain ⟨rfl, N1q, E1, A1⟩ := hQ1
  have N1 := Fr.app N0 N1q
  obtain ⟨b1, g1⟩ : ∃ z_, z_ = h0.size := ⟨_, rfl⟩
  rw [← g1] at A1 st1
  have g_b1 : n0 ≤ b1 := Nat.le_trans Z0 (Nat.le_of_eq g1.symm)
  have V_b1 := A1
  have lt_b1 : b1 < T1.heap.size := own_arvlt V_b1
  refine Go.st st1 ?_
  show Go p e below (T1.setTop (mkF m 5 #[.val (.int (3 : Int32)), .val .null, .unset, .unset, .unset, .unset] [(.ref b1)])) _
  refine Go.st (fun _ k_ => XS.astoreN X1.here hx rfl (hb hby d1_5) rfl rfl (l' := #[.val (.int (3 : Int32)), .val .null, .val (.ref b1), .unset, .unset, .unset]) rfl k_) ?_
  show Go p e below (T1.setTop (mkF m 6 #[.val (.int (3 : Int32)), .val .null, .val (.ref b1), .unset, .unset, .unset] [])) _
  refine Go.st (fun _ k_ => XS.aloadN X1.here hx rfl (hb hby d1_6) rfl rfl k_) ?_
  show Go p e below (T1.setTop (mkF m 7 #[.val (.int (3 : Int32)), .val .null, .val (.ref b1), .unset, .unset, .unset] [(.ref b1)])) _
  obtain ⟨cl2, Ar2, -, S2, N2_, -, -⟩ := id V_b1
  refine Go.st (X1.arraylength hx (by exact Ar2.1) (State.isArrayOf_alike hZ.alike Ar2.2.1) (g := (mkF m 7 #[.val (.int (3 : Int32)), .val .null, .val (.ref b1), .unset, .unset, .unset] [(.ref b1)])) rfl rfl (hb hby d1_7)) ?_
  rw [len_of S2 N2_]
  show Go p e below (T1.setTop (mkF m 8 #[.val (.int (3 : Int32)), .val .null, .val (.ref b1), .unset, .unset, .unset] [(.int (4 : Int32))])) _
  refine Go.st (fun _ k_ => XS.istoreN X1.here hx rfl (hb hby d1_8) rfl (l' := #[.val (.int (3 : Int32)), .val .null, .val (.ref b1), .val (.int (4 : Int32)), .unset, .unset]) rfl k_) ?_
  show Go p e below (T1.setTop (mkF m 9 #[.val (.int (3 : Int32)), .val .null, .val (.ref b1), .val (.int (4 : Int32)), .unset, .unset] [])) _
  refine Go.st (fun _ k_ => XS.iconst X1.here hx rfl (hb hby d1_9) k_) ?_
  show Go p e below (T1.setTop (mkF m 10 #[.val (.int (3 : Int32)), .val .null, .val (.ref b1), .val (.int (4 : Int32)), .unset, .unset] [(.int (0 : Int32))])) _
  refine Go.st (fun _ k_ => XS.istore X1.here hx rfl (hb hby d1_10) rfl (l' := #[.val (.int (3 : Int32)), .val .null, .val (.ref b1), .val (.int (4 : Int32)), .val (.int (0 : Int32)), .unset]) rfl k_) ?_
  show Go p e below (T1.setTop (mkF m 12 #[.val (.int (3 : Int32)), .val .null, .val (.ref b1), .val (.int (4 : Int32)), .val (.int (0 : Int32)), .unset] [])) _
  refine Go.st (fun _ k_ => XS.iload X1.here hx rfl (hb hby d1_12) rfl k_) ?_
  show Go p e below (T1.setTop (mkF m 14 #[.val (.int (3 : Int32)), .val .null, .val (.ref b1), .val (.int (4 : Int32)), .val (.int (0 : Int32)), .unset] [(.int (0 : Int32))])) _
  refine Go.st (fun _ k_ => XS.iloadN X1.here hx rfl (hb hby d1_14) rfl k_) ?_
  show Go p e below (T1.setTop (mkF m 15 #[.val (.int (3 : Int32)), .val .null, .val (.ref b1), .val (.int (4 : Int32)), .val (.int (0 : Int32)), .unset] [(.int (4 : Int32)), (.int (0 : Int32))])) _
  refine Go.st (fun _ k_ => XS.icmpNo X1.here hx rfl (hb hby d1_15) rfl (tlt (by decide : (0 : Int32) < (4 : Int32))).2.1 k_) ?_
  show Go p e below (T1.setTop (mkF m 18 #[.val (.int (3 : Int32)), .val .null, .val (.ref b1), .val (.int (4 : Int32)), .val (.int (0 : Int32)), .unset] [])) _
  refine Go.st (fun _ k_ => XS.aloadN X1.here hx rfl (hb hby d1_18) rfl rfl k_) ?_
  show Go p e below (T1.setTop (mkF m 19 #[.val (.int (3 : Int32)), .val .null, .val (.ref b1), .val (.int (4 : Int32)), .val (.int (0 : Int32)), .unset] [(.ref b1)])) _
  refine Go.st (fun _ k_ => XS.iload X1.here hx rfl (hb hby d1_19) rfl k_) ?_
  show Go p e below (T1.setTop (mkF m 21 #[.val (.int (3 : Int32)), .val .null, .val (.ref b1), .val (.int (4 : Int32)), .val (.int (0 : Int32)), .unset] [(.int (0 : Int32)), (.ref b1)])) _
  obtain ⟨cl3, Ar3, q3, S3, N3_, H3, G3⟩ := id V_b1
  have hin3 : ¬ ((0 : Int32) < 0 ∨ cl3.slots.size ≤ ((0 : Int32)).toNatClampNeg) := inb_of S3 ⟨by decide, by decide⟩
  have hat3 : cl3.slots[((0 : Int32)).toNatClampNeg]? = some (.ref w_ANY) := H3 _ (Nat.lt_of_not_le fun q_ => hin3 (Or.inr q_))
  refine Go.st (X1.aaload hx (j := (0 : Int32)) (v := (.ref w_ANY)) (by exact Ar3.1) (State.isArrayOf_alike hZ.alike Ar3.2.1) rfl Ar3.2.2 hin3 hat3 (g := (mkF m 21 #[.val (.int (3 : Int32)), .val .null, .val (.ref b1), .val (.int (4 : Int32)), .val (.int (0 : Int32)), .unset] [(.int (0 : Int32)), (.ref b1)])) rfl rfl (hb hby d1_21)) ?_
  show Go p e below (T1.setTop (mkF m 22 #[.val (.int (3 : Int32)), .val .null, .val (.ref b1), .val (.int (4 : Int32)), .val (.int (0 : Int32)), .unset] [(.ref w_ANY)])) _
  refine Go.st (fun _ k_ => XS.astore X1.here hx rfl (hb hby d1_22) rfl rfl (l' := #[.val (.int (3 : Int32)), .val .null, .val (.ref b1), .val (.int (4 : Int32)), .val (.int (0 : Int32)), .val (.ref w_ANY)]) rfl k_) ?_
  show Go p e below (T1.setTop (mkF m 24 #[.val (.int (3 : Int32)), .val .null, .val (.ref b1), .val (.int (4 : Int32)), .val (.int (0 : Int32)), .val (.ref w_ANY)] [])) _
  refine Go.st (fun _ k_ => XS.aload X1.here hx rfl (hb hby d1_24) rfl rfl k_) ?_
  show Go p e below (T1.setTop (mkF m 26 #[.val (.int (3 : Int32)), .val .null, .val (.ref b1), .val (.int (4 : Int32)), .val (.int (0 : Int32)), .val (.ref w_ANY)] [(.ref w_ANY)])) _
  have H4 := (F_code_ANY.ext E1)
  obtain ⟨T5, X5, e5, st5⟩ := getF X1 hx hZ hown (host := "") (Or.inl (hw _ (List.mem_of_getElem? (i := 23) rfl))) Via.refl rfl H4 (g := (mkF m 26 #[.val (.int (3 : Int32)), .val .null, .val (.ref b1), .val (.int (4 : Int32)), .val (.int (0 : Int32)), .val (.ref w_ANY)] [(.ref w_ANY)])) rfl rfl (hb hby d1_26)
  refine Go.st st5 ?_
  show Go p e below (T5.setTop (mkF m 29 #[.val (.int (3 : Int32)), .val .null, .val (.ref b1), .val (.int (4 : Int32)), .val (.int (0 : Int32)), .val (.ref w_ANY)] [(.int (0 : Int32))])) _
  refine Go.st (fun _ k_ => XS.iloadN X5.here hx rfl (hb hby d1_29) rfl k_) ?_
  show Go p e below (T5.setTop (mkF m 30 #[.val (.int (3 : Int32)), .val .null, .val (.ref b1), .val (.int (4 : Int32)), .val (.int (0 : Int32)), .val (.ref w_ANY)] [(.int (3 : Int32)), (.int (0 : Int32))])) _
  refine Go.st (fun _ k_ => XS.icmpYes X5.here hx rfl (pc0 := 30) (pc' := 36) rfl (hb hby d1_30) rfl (feq (by decide : ¬ ((0 : Int32) = (3 : Int32)))).2 (by decide) (by decide) k_) ?_
  show Go p e below (T5.setTop (mkF m 36 #[.val (.int (3 : Int32)), .val .null, .val (.ref b1), .val (.int (4 : Int32)), .val (.int (0 : Int32)), .val (.ref w_ANY)] [])) _
  refine Go.st (fun _ k_ => XS.iinc X5.here hx rfl (hb hby d1_36) rfl (l' := #[.val (.int (3 : Int32)), .val .null, .val (.ref b1), .val (.int (4 : Int32)), .val (.int (1 : Int32)), .val (.ref w_ANY)]) rfl k_) ?_
  show Go p e below (T5.setTop (mkF m 39 #[.val (.int (3 : Int32)), .val .null, .val (.ref b1), .val (.int (4 : Int32)), .val (.int (1 : Int32)), .val (.ref w_ANY)] [])) _
  refine Go.st (fun _ k_ => XS.goto X5.here hx rfl (pc0 := 39) (pc' := 12) rfl (hb hby d1_39) (by decide) (by decide) k_) ?_
  show Go p e below (T5.setTop (mkF m 12 #[.val (.int (3 : Int32)), .val .null, .val (.ref b1), .val (.int (4 : Int32)), .val (.int (1 : Int32)), .val (.ref w_ANY)] [])) _
  refine Go.st (fun _ k_ => XS.iload X5.here hx rfl (hb hby d1_12) rfl k_) ?_
  show Go p e below (T5.setTop (mkF m 14 #[.val (.int (3 : Int32)), .val .null, .val (.ref b1), .val (.int (4 : Int32)), .val (.int (1 : Int32)), .val (.ref w_ANY)] [(.int (1 : Int32))])) _
  refine Go.st (fun _ k_ => XS.iloadN X5.here hx rfl (hb hby d1_14) rfl k_) ?_
  show Go p e below (T5.setTop (mkF m 15 #[.val (.int (3 : Int32)), .val .null, .val (.ref b1), .val (.int (4 : Int32)), .val (.int (1 : Int32)), .val (.ref w_ANY)] [(.int (4 : Int32)), (.int (1 : Int32))])) _
  refine Go.st (fun _ k_ => XS.icmpNo X5.here hx rfl (hb hby d1_15) rfl (tlt (by decide : (1 : Int32) < (4 : Int32))).2.1 k_) ?_
  show Go p e below (T5.setTop (mkF m 18 #[.val (.int (3 : Int32)), .val .null, .val (.ref b1), .val (.int (4 : Int32)), .val (.int (1 : Int32)), .val (.ref w_ANY)] [])) _
  refine Go.st (fun _ k_ => XS.aloadN X5.here hx rfl (hb hby d1_18) rfl rfl k_) ?_
  show Go p e below (T5.setTop (mkF m 19 #[.val (.int (3 : Int32)), .val .null, .val (.ref b1), .val (.int (4 : Int32)), .val (.int (1 : Int32)), .val (.ref w_ANY)] [(.ref b1)])) _
  refine Go.st (fun _ k_ => XS.iload X5.here hx rfl (hb hby d1_19) rfl k_) ?_
  show Go p e below (T5.setTop (mkF m 21 #[.val (.int (3 : Int32)), .val .null, .val (.ref b1), .val (.int (4 : Int32)), .val (.int (1 : Int32)), .val (.ref w_ANY)] [(.int (1 : Int32)), (.ref b1)])) _
  obtain ⟨cl6, Ar6, q6, S6, N6_, H6, G6⟩ := id V_b1
  have hin6 : ¬ ((1 : Int32) < 0 ∨ cl6.slots.size ≤ ((1 : Int32)).toNatClampNeg) := inb_of S6 ⟨by decide, by decide⟩
  have hat6 : cl6.slots[((1 : Int32)).toNatClampNeg]? = some (.ref w_LETTER) := H6 _ (Nat.lt_of_not_le fun q_ => hin6 (Or.inr q_))
  refine Go.st (X5.aaload hx (j := (1 : Int32)) (v := (.ref w_LETTER)) (by rw [e5]; exact Ar6.1) (State.isArrayOf_alike hZ.alike Ar6.2.1) rfl Ar6.2.2 hin6 hat6 (g := (mkF m 21 #[.val (.int (3 : Int32)), .val .null, .val (.ref b1), .val (.int (4 : Int32)), .val (.int (1 : Int32)), .val (.ref w_ANY)] [(.int (1 : Int32)), (.ref b1)])) rfl rfl (hb hby d1_21)) ?_
  show Go p e below (T5.setTop (mkF m 22 #[.val (.int (3 : Int32)), .val .null, .val (.ref b1), .val (.int (4 : Int32)), .val (.int (1 : Int32)), .val (.ref w_ANY)] [(.ref w_LETTER)])) _
  refine Go.st (fun _ k_ => XS.astore X5.here hx rfl (hb hby d1_22) rfl rfl (l' := #[.val (.int (3 : Int32)), .val .null, .val (.ref b1), .val (.int (4 : Int32)), .val (.int (1 : Int32)), .val (.ref w_LETTER)]) rfl k_) ?_
  show Go p e below (T5.setTop (mkF m 24 #[.val (.int (3 : Int32)), .val .null, .val (.ref b1), .val (.int (4 : Int32)), .val (.int (1 : Int32)), .val (.ref w_LETTER)] [])) _
  refine Go.st (fun _ k_ => XS.aload X5.here hx rfl (hb hby d1_24) rfl rfl k_) ?_
  show Go p e below (T5.setTop (mkF m 26 #[.val (.int (3 : Int32)), .val .null, .val (.ref b1), .val (.int (4 : Int32)), .val (.int (1 : Int32)), .val (.ref w_LETTER)] [(.ref w_LETTER)])) _
  have H7 := (F_code_LETTER.ext E1)
  obtain ⟨T8, X8, e8, st8⟩ := getF X5 hx hZ hown (host := "") (Or.inl (hw _ (List.mem_of_getElem? (i := 23) rfl))) Via.refl e5 H7 (g := (mkF m 26 #[.val (.int (3 : Int32)), .val .null, .val (.ref b1), .val (.int (4 : Int32)), .val (.int (1 : Int32)), .val (.ref w_LETTER)] [(.ref w_LETTER)])) rfl rfl (hb hby d1_26)
  refine Go.st st8 ?_
  show Go p e below (T8.setTop (mkF m 29 #[.val (.int (3 : Int32)), .val .null, .val (.ref b1), .val (.int (4 : Int32)), .val (.int (1 : Int32)), .val (.ref w_LETTER)] [(.int (1 : Int32))])) _
  refine Go.st (fun _ k_ => XS.iloadN X8.here hx rfl (hb hby d1_29) rfl k_) ?_
  show Go p e below (T8.setTop (mkF m 30 #[.val (.int (3 : Int32)), .val .null, .val (.ref b1), .val (.int (4 : Int32)), .val (.int (1 : Int32)), .val (.ref w_LETTER)] [(.int (3 : Int32)), (.int (1 : Int32))])) _
  refine Go.st (fun _ k_ => XS.icmpYes X8.here hx rfl (pc0 := 30) (pc' := 36) rfl (hb hby d1_30) rfl (feq (by decide : ¬ ((1 : Int32) = (3 : Int32)))).2 (by decide) (by decide) k_) ?_
  show Go p e below (T8.setTop (mkF m 36 #[.val (.int (3 : Int32)), .val .null, .val (.ref b1), .val (.int (4 : Int32)), .val (.int (1 : Int32)), .val (.ref w_LETTER)] [])) _
  refine Go.st (fun _ k_ => XS.iinc X8.here hx rfl (hb hby d1_36) rfl (l' := #[.val (.int (3 : Int32)), .val .null, .val (.ref b1), .val (.int (4 : Int32)), .val (.int (2 : Int32)), .val (.ref w_LETTER)]) rfl k_) ?_
  show Go p e below (T8.setTop (mkF m 39 #[.val (.int (3 : Int32)), .val .null, .val (.ref b1), .val (.int (4 : Int32)), .val (.int (2 : Int32)), .val (.ref w_LETTER)] [])) _
  refine Go.st (fun _ k_ => XS.goto X8.here hx rfl (pc0 := 39) (pc' := 12) rfl (hb hby d1_39) (by decide) (by decide) k_) ?_
  show Go p e below (T8.setTop (mkF m 12 #[.val (.int (3 : Int32)), .val .null, .val (.ref b1), .val (.int (4 : Int32)), .val (.int (2 : Int32)), .val (.ref w_LETTER)] [])) _
  refine Go.st (fun _ k_ => XS.iload X8.here hx rfl (hb hby d1_12) rfl k_) ?_
  show Go p e below (T8.setTop (mkF m 14 #[.val (.int (3 : Int32)), .val .null, .val (.ref b1), .val (.int (4 : Int32)), .val (.int (2 : Int32)), .val (.ref w_LETTER)] [(.int (2 : Int32))])) _
  refine Go.st (fun _ k_ => XS.iloadN X8.here hx rfl (hb hby d1_14) rfl k_) ?_
  show Go p e below (T8.setTop (mkF m 15 #[.val (.int (3 : Int32)), .val .null, .val (.ref b1), .val (.int (4 : Int32)), .val (.int (2 : Int32)), .val (.ref w_LETTER)] [(.int (4 : Int32)), (.int (2 : Int32))])) _
  refine Go.st (fun _ k_ => XS.icmpNo X8.here hx rfl (hb hby d1_15) rfl (tlt (by decide : (2 : Int32) < (4 : Int32))).2.1 k_) ?_
  show Go p e below (T8.setTop (mkF m 18 #[.val (.int (3 : Int32)), .val .null, .val (.ref b1), .val (.int (4 : Int32)), .val (.int (2 : Int32)), .val (.ref w_LETTER)] [])) _
  refine Go.st (fun _ k_ => XS.aloadN X8.here hx rfl (hb hby d1_18) rfl rfl k_) ?_
  show Go p e below (T8.setTop (mkF m 19 #[.val (.int (3 : Int32)), .val .null, .val (.ref b1), .val (.int (4 : Int32)), .val (.int (2 : Int32)), .val (.ref w_LETTER)] [(.ref b1)])) _
  refine Go.st (fun _ k_ => XS.iload X8.here hx rfl (hb hby d1_19) rfl k_) ?_
  show Go p e below (T8.setTop (mkF m 21 #[.val (.int (3 : Int32)), .val .null, .val (.ref b1), .val (.int (4 : Int32)), .val (.int (2 : Int32)), .val (.ref w_LETTER)] [(.int (2 : Int32)), (.ref b1)])) _
  obtain ⟨cl9, Ar9, q9, S9, N9_, H9, G9⟩ := id V_b1
  have hin9 : ¬ ((2 : Int32) < 0 ∨ cl9.slots.size ≤ ((2 : Int32)).toNatClampNeg) := inb_of S9 ⟨by decide, by decide⟩
  have hat9 : cl9.slots[((2 : Int32)).toNatClampNeg]? = some (.ref w_LETTER_DIGIT) := H9 _ (Nat.lt_of_not_le fun q_ => hin9 (Or.inr q_))
  refine Go.st (X8.aaload hx (j := (2 : Int32)) (v := (.ref w_LETTER_DIGIT)) (by rw [e8]; exact Ar9.1) (State.isArrayOf_alike hZ.alike Ar9.2.1) rfl Ar9.2.2 hin9 hat9 (g := (mkF m 21 #[.val (.int (3 : Int32)), .val .null, .val (.ref b1), .val (.int (4 : Int32)), .val (.int (2 : Int32)), .val (.ref w_LETTER)] [(.int (2 : Int32)), (.ref b1)])) rfl rfl (hb hby d1_21)) ?_
  show Go p e below (T8.setTop (mkF m 22 #[.val (.int (3 : Int32)), .val .null, .val (.ref b1), .val (.int (4 : Int32)), .val (.int (2 : Int32)), .val (.ref w_LETTER)] [(.ref w_LETTER_DIGIT)])) _
  refine Go.st (fun _ k_ => XS.astore X8.here hx rfl (hb hby d1_22) rfl rfl (l' := #[.val (.int (3 : Int32)), .val .null, .val (.ref b1), .val (.int (4 : Int32)), .val (.int (2 : Int32)), .val (.ref w_LETTER_DIGIT)]) rfl k_) ?_
  show Go p e below (T8.setTop (mkF m 24 #[.val (.int (3 : Int32)), .val .null, .val (.ref b1), .val (.int (4 : Int32)), .val (.int (2 : Int32)), .val (.ref w_LETTER_DIGIT)] [])) _
  refine Go.st (fun _ k_ => XS.aload X8.here hx rfl (hb hby d1_24) rfl rfl k_) ?_
  show Go p e below (T8.setTop (mkF m 26 #[.val (.int (3 : Int32)), .val .null, .val (.ref b1), .val (.int (4 : Int32)), .val (.int (2 : Int32)), .val (.ref w_LETTER_DIGIT)] [(.ref w_LETTER_DIGIT)])) _
  have H10 := (F_code_LETTER_DIGIT.ext E1)
  obtain ⟨T11, X11, e11, st11⟩ := getF X8 hx hZ hown (host := "") (Or.inl (hw _ (List.mem_of_getElem? (i := 23) rfl))) Via.refl e8 H10 (g := (mkF m 26 #[.val (.int (3 : Int32)), .val .null, .val (.ref b1), .val (.int (4 : Int32)), .val (.int (2 : Int32)), .val (.ref w_LETTER_DIGIT)] [(.ref w_LETTER_DIGIT)])) rfl rfl (hb hby d1_26)
  refine Go.st st11 ?_
  show Go p e below (T11.setTop (mkF m 29 #[.val (.int (3 : Int32)), .val .null, .val (.ref b1), .val (.int (4 : Int32)), .val (.int (2 : Int32)), .val (.ref w_LETTER_DIGIT)] [(.int (2 : Int32))])) _
  refine Go.st (fun _ k_ => XS.iloadN X11.here hx rfl (hb hby d1_29) rfl k_) ?_
  show Go p e below (T11.setTop (mkF m 30 #[.val (.int (3 : Int32)), .val .null, .val (.ref b1), .val (.int (4 : Int32)), .val (.int (2 : Int32)), .val (.ref w_LETTER_DIGIT)] [(.int (3 : Int32)), (.int (2 : Int32))])) _
  refine Go.st (fun _ k_ => XS.icmpYes X11.here hx rfl (pc0 := 30) (pc' := 36) rfl (hb hby d1_30) rfl (feq (by decide : ¬ ((2 : Int32) = (3 : Int32)))).2 (by decide) (by decide) k_) ?_
  show Go p e below (T11.setTop (mkF m 36 #[.val (.int (3 : Int32)), .val .null, .val (.ref b1), .val (.int (4 : Int32)), .val (.int (2 : Int32)), .val (.ref w_LETTER_DIGIT)] [])) _
  refine Go.st (fun _ k_ => XS.iinc X11.here hx rfl (hb hby d1_36) rfl (l' := #[.val (.int (3 : Int32)), .val .null, .val (.ref b1), .val (.int (4 : Int32)), .val (.int (3 : Int32)), .val (.ref w_LETTER_DIGIT)]) rfl k_) ?_
  show Go p e below (T11.setTop (mkF m 39 #[.val (.int (3 : Int32)), .val .null, .val (.ref b1), .val (.int (4 : Int32)), .val (.int (3 : Int32)), .val (.ref w_LETTER_DIGIT)] [])) _
  refine Go.st (fun _ k_ => XS.goto X11.here hx rfl (pc0 := 39) (pc' := 12) rfl (hb hby d1_39) (by decide) (by decide) k_) ?_
  show Go p e below (T11.setTop (mkF m 12 #[.val (.int (3 : Int32)), .val .null, .val (.ref b1), .val (.int (4 : Int32)), .val (.int (3 : Int32)), .val (.ref w_LETTER_DIGIT)] [])) _
  refine Go.st (fun _ k_ => XS.iload X11.here hx rfl (hb hby d1_12) rfl k_) ?_
  show Go p e below (T11.setTop (mkF m 14 #[.val (.int (3 : Int32)), .val .null, .val (.ref b1), .val (.int (4 : Int32)), .val (.int (3 : Int32)), .val (.ref w_LETTER_DIGIT)] [(.int (3 : Int32))])) _
  refine Go.st (fun _ k_ => XS.iloadN X11.here hx rfl (hb hby d1_14) rfl k_) ?_
  show Go p e below (T11.setTop (mkF m 15 #[.val (.int (3 : Int32)), .val .null, .val (.ref b1), .val (.int (4 : Int32)), .val (.int (3 : Int32)), .val (.ref w_LETTER_DIGIT)] [(.int (4 : Int32)), (.int (3 : Int32))])) _
  refine Go.st (fun _ k_ => XS.icmpNo X11.here hx rfl (hb hby d1_15) rfl (tlt (by decide : (3 : Int32) < (4 : Int32))).2.1 k_) ?_
  show Go p e below (T11.setTop (mkF m 18 #[.val (.int (3 : Int32)), .val .null, .val (.ref b1), .val (.int (4 : Int32)), .val (.int (3 : Int32)), .val (.ref w_LETTER_DIGIT)] [])) _
  refine Go.st (fun _ k_ => XS.aloadN X11.here hx rfl (hb hby d1_18) rfl rfl k_) ?_
  show Go p e below (T11.setTop (mkF m 19 #[.val (.int (3 : Int32)), .val .null, .val (.ref b1), .val (.int (4 : Int32)), .val (.int (3 : Int32)), .val (.ref w_LETTER_DIGIT)] [(.ref b1)])) _
  refine Go.st (fun _ k_ => XS.iload X11.here hx rfl (hb hby d1_19) rfl k_) ?_
  show Go p e below (T11.setTop (mkF m 21 #[.val (.int (3 : Int32)), .val .null, .val (.ref b1), .val (.int (4 : Int32)), .val (.int (3 : Int32)), .val (.ref w_LETTER_DIGIT)] [(.int (3 : Int32)), (.ref b1)])) _
  obtain ⟨cl12, Ar12, q12, S12, N12_, H12, G12⟩ := id V_b1
  have hin12 : ¬ ((3 : Int32) < 0 ∨ cl12.slots.size ≤ ((3 : Int32)).toNatClampNeg) := inb_of S12 ⟨by decide, by decide⟩
  have hat12 : cl12.slots[((3 : Int32)).toNatClampNeg]? = some (.ref w_LETTER_DIGIT_SPECIAL) := H12 _ (Nat.lt_of_not_le fun q_ => hin12 (Or.inr q_))
  refine Go.st (X11.aaload hx (j := (3 : Int32)) (v := (.ref w_LETTER_DIGIT_SPECIAL)) (by rw [e11]; exact Ar12.1) (State.isArrayOf_alike hZ.alike Ar12.2.1) rfl Ar12.2.2 hin12 hat12 (g := (mkF m 21 #[.val (.int (3 : Int32)), .val .null, .val (.ref b1), .val (.int (4 : Int32)), .val (.int (3 : Int32)), .val (.ref w_LETTER_DIGIT)] [(.int (3 : Int32)), (.ref b1)])) rfl rfl (hb hby d1_21)) ?_
  show Go p e below (T11.setTop (mkF m 22 #[.val (.int (3 : Int32)), .val .null, .val (.ref b1), .val (.int (4 : Int32)), .val (.int (3 : Int32)), .val (.ref w_LETTER_DIGIT)] [(.ref w_LETTER_DIGIT_SPECIAL)])) _
  refine Go.st (fun _ k_ => XS.astore X11.here hx rfl (hb hby d1_22) rfl rfl (l' := #[.val (.int (3 : Int32)), .val .null, .val (.ref b1), .val (.int (4 : Int32)), .val (.int (3 : Int32)), .val (.ref w_LETTER_DIGIT_SPECIAL)]) rfl k_) ?_
  show Go p e below (T11.setTop (mkF m 24 #[.val (.int (3 : Int32)), .val .null, .val (.ref b1), .val (.int (4 : Int32)), .val (.int (3 : Int32)), .val (.ref w_LETTER_DIGIT_SPECIAL)] [])) _
  refine Go.st (fun _ k_ => XS.aload X11.here hx rfl (hb hby d1_24) rfl rfl k_) ?_
  show Go p e below (T11.setTop (mkF m 26 #[.val (.int (3 : Int32)), .val .null, .val (.ref b1), .val (.int (4 : Int32)), .val (.int (3 : Int32)), .val (.ref w_LETTER_DIGIT_SPECIAL)] [(.ref w_LETTER_DIGIT_SPECIAL)])) _
  have H13 := (F_code_LETTER_DIGIT_SPECIAL.ext E1)
  obtain ⟨T14, X14, e14, st14⟩ := getF X11 hx hZ hown (host := "") (Or.inl (hw _ (List.mem_of_getElem? (i := 23) rfl))) Via.refl e11 H13 (g := (mkF m 26 #[.val (.int (3 : Int32)), .val .null, .val (.ref b1), .val (.int (4 : Int32)), .val (.int (3 : Int32)), .val (.ref w_LETTER_DIGIT_SPECIAL)] [(.ref w_LETTER_DIGIT_SPECIAL)])) rfl rfl (hb hby d1_26)
  refine Go.st st14 ?_
  show Go p e below (T14.setTop (mkF m 29 #[.val (.int (3 : Int32)), .val .null, .val (.ref b1), .val (.int (4 : Int32)), .val (.int (3 : Int32)), .val (.ref w_LETTER_DIGIT_SPECIAL)] [(.int (3 : Int32))])) _
  refine Go.st (fun _ k_ => XS.iloadN X14.here hx rfl (hb hby d1_29) rfl k_) ?_
  show Go p e below (T14.setTop (mkF m 30 #[.val (.int (3 : Int32)), .val .null, .val (.ref b1), .val (.int (4 : Int32)), .val (.int (3 : Int32)), .val (.ref w_LETTER_DIGIT_SPECIAL)] [(.int (3 : Int32)), (.int (3 : Int32))])) _
  refine Go.st (fun _ k_ => XS.icmpNo X14.here hx rfl (hb hby d1_30) rfl (teq (by decide : (3 : Int32) = (3 : Int32))).2 k_) ?_
  show Go p e below (T14.setTop (mkF m 33 #[.val (.int (3 : Int32)), .val .null, .val (.ref b1), .val (.int (4 : Int32)), .val (.int (3 : Int32)), .val (.ref w_LETTER_DIGIT_SPECIAL)] [])) _
  refine Go.st (fun _ k_ => XS.aload X14.here hx rfl (hb hby d1_33) rfl rfl k_) ?_
  show Go p e below (T14.setTop (mkF m 35 #[.val (.int (3 : Int32)), .val .null, .val (.ref b1), .val (.int (4 : Int32)), .val (.int (3 : Int32)), .val (.ref w_LETTER_DIGIT_SPECIAL)] [(.ref w_LETTER_DIGIT_SPECIAL)])) _
  refine Go.st (fun _ k_ => XS.astoreN X14.here hx rfl (hb hby d1_35) rfl rfl (l' := #[.val (.int (3 : Int32)), .val (.ref w_LETTER_DIGIT_SPECIAL), .val (.ref b1), .val (.int (4 : Int32)), .val (.int (3 : Int32)), .val (.ref w_LETTER_DIGIT_SPECIAL)]) rfl k_) ?_
  show Go p e below (T14.setTop (mkF m 36 #[.val (.int (3 : Int32)), .val (.ref w_LETTER_DIGIT_SPECIAL), .val (.ref b1), .val (.int (4 : Int32)), .val (.int (3 : Int32)), .val (.ref w_LETTER_DIGIT_SPECIAL)] [])) _
  refine Go.st (fun _ k_ => XS.iinc X14.here hx rfl (hb hby d1_36) rfl (l' := #[.val (.int (3 : Int32)), .val (.ref w_LETTER_DIGIT_SPECIAL), .val (.ref b1), .val (.int (4 : Int32)), .val (.int (4 : Int32)), .val (.ref w_LETTER_DIGIT_SPECIAL)]) rfl k_) ?_
  show Go p e below (T14.setTop (mkF m 39 #[.val (.int (3 : Int32)), .val (.ref w_LETTER_DIGIT_SPECIAL), .val (.ref b1), .val (.int (4 : Int32)), .val (.int (4 : Int32)), .val (.ref w_LETTER_DIGIT_SPECIAL)] [])) _
  refine Go.st (fun _ k_ => XS.goto X14.here hx rfl (pc0 := 39) (pc' := 12) rfl (hb hby d1_39) (by decide) (by decide) k_) ?_
  show Go p e below (T14.setTop (mkF m 12 #[.val (.int (3 : Int32)), .val (.ref w_LETTER_DIGIT_SPECIAL), .val (.ref b1), .val (.int (4 : Int32)), .val (.int (4 : Int32)), .val (.ref w_LETTER_DIGIT_SPECIAL)] [])) _
  refine Go.st (fun _ k_ => XS.iload X14.here hx rfl (hb hby d1_12) rfl k_) ?_
  show Go p e below (T14.setTop (mkF m 14 #[.val (.int (3 : Int32)), .val (.ref w_LETTER_DIGIT_SPECIAL), .val (.ref b1), .val (.int (4 : Int32)), .val (.int (4 : Int32)), .val (.ref w_LETTER_DIGIT_SPECIAL)] [(.int (4 : Int32))])) _
  refine Go.st (fun _ k_ => XS.iloadN X14.here hx rfl (hb hby d1_14) rfl k_) ?_
  show Go p e below (T14.setTop (mkF m 15 #[.val (.int (3 : Int32)), .val (.ref w_LETTER_DIGIT_SPECIAL), .val (.ref b1), .val (.int (4 : Int32)), .val (.int (4 : Int32)), .val (.ref w_LETTER_DIGIT_SPECIAL)] [(.int (4 : Int32)), (.int (4 : Int32))])) _
  refine Go.st (fun _ k_ => XS.icmpYes X14.here hx rfl (pc0 := 15) (pc' := 42) rfl (hb hby d1_15) rfl (flt (by decide : ¬ ((4 : Int32) < (4 : Int32)))).2.1 (by decide) (by decide) k_) ?_
  show Go p e below (T14.setTop (mkF m 42 #[.val (.int (3 : Int32)), .val (.ref w_LETTER_DIGIT_SPECIAL), .val (.ref b1), .val (.int (4 : Int32)), .val (.int (4 : Int32)), .val (.ref w_LETTER_DIGIT_SPECIAL)] [])) _
  refine Go.st (fun _ k_ => XS.aloadN X14.here hx rfl (hb hby d1_42) rfl rfl k_) ?_
  show Go p e below (T14.setTop (mkF m 43 #[.val (.int (3 : Int32)), .val (.ref w_LETTER_DIGIT_SPECIAL), .val (.ref b1), .val (.int (4 : Int32)), .val (.int (4 : Int32)), .val (.ref w_LETTER_DIGIT_SPECIAL)] [(.ref w_LETTER_DIGIT_SPECIAL)])) _
  refine Go.fin X14 (v := some (.ref w_LETTER_DIGIT_SPECIAL)) (fun h_ => by rw [Bd.returns] at h_; cases h_) Bd.notSynchronized (fun _ hr => retOut X14 hx Bd.returns rfl (Or.inr (Or.inr (Or.inr (Or.inr ⟨rfl, rfl, rfl⟩)))) (hb hby d1_43) hr) (fun U' hU hF => ⟨_, _, rfl, ?_, hF.1, hF.2.1, hF.2.2.mono (by decide) (by decide)⟩)
  rw [hU, e14]
  exact ⟨(congrArg (fun z_ : Addr => some (Value.ref z_)) (show w_LETTER_DIGIT_SPECIAL = w_LETTER_DIGIT_SPECIAL from rfl)), N1, ((Keep.refl h0 []).ext E1)⟩
theorem ef_rm1_4 (m : MethodId) (p1 : Int32) : entryFrame m #[(.int p1)] 6 = mkF m 0 #[.val (.int p1), .unset, .unset, .unset, .unset, .unset] [] := by first | (simp [entryFrame, mkF, argsToLocals, Value.category]; done) | rfl
def Q_rm1_4 (Z : State) (p1 : Int32) (w_ANY : Addr) (w_LETTER : Addr) (w_LETTER_DIGIT : Addr) (w_LETTER_DIGIT_SPECIAL : Addr) (kv : ClassId) (w__VALUES : Addr) (h0 : Heap) (n0 : Nat) (v : Option Value) (h : Heap) (L : List Loc) : Prop := v = some .null ∧ Fr n0 L ∧ Keep h0 h []
set_option maxRecDepth 65536 in
set_option maxHeartbeats 40000000 in
theorem rm1_4 (l : Launch) (Z : State) (a0 : Array Value) (hw : ∀ d ∈ tables_1, d.before a0 Z = true) (ws : List Jvm.Cond) (p1 : Int32) (w_ANY : Addr) (w_LETTER : Addr) (w_LETTER_DIGIT : Addr) (w_LETTER_DIGIT_SPECIAL : Addr) (kv : ClassId) (w__VALUES : Addr) (h0 : Heap) (n0 : Nat) (Z0 : n0 ≤ h0.size) (S__VALUES : Sta Z h0 "com/example/patuxent/patuxent/PasswordComplexity" "$VALUES" "[Lcom/example/patuxent/patuxent/PasswordComplexity;" (.ref w__VALUES)) (V_vals : Arv Z h0 w__VALUES kv (.object "com/example/patuxent/patuxent/PasswordComplexity") (4 : Int32) [(.ref w_ANY), (.ref w_LETTER), (.ref w_LETTER_DIGIT), (.ref w_LETTER_DIGIT_SPECIAL)] .null) (E_vals : Exa Z h0 w__VALUES "[Lcom/example/patuxent/patuxent/PasswordComplexity;") (F_code_ANY : Fld Z h0 w_ANY "com/example/patuxent/patuxent/PasswordComplexity" "code" "I" (.int (0 : Int32))) (F_code_LETTER : Fld Z h0 w_LETTER "com/example/patuxent/patuxent/PasswordComplexity" "code" "I" (.int (1 : Int32))) (F_code_LETTER_DIGIT : Fld Z h0 w_LETTER_DIGIT "com/example/patuxent/patuxent/PasswordComplexity" "code" "I" (.int (2 : Int32))) (F_code_LETTER_DIGIT_SPECIAL : Fld Z h0 w_LETTER_DIGIT_SPECIAL "com/example/patuxent/patuxent/PasswordComplexity" "code" "I" (.int (3 : Int32))) (hn0 : ¬ (p1 = (0 : Int32))) (hn1 : ¬ (p1 = (1 : Int32))) (hn2 : ¬ (p1 = (2 : Int32))) (hn3 : ¬ (p1 = (3 : Int32))) :
    MetFree l (⟨"com/example/patuxent/patuxent/PasswordComplexity", "ofCode", "(I)Lcom/example/patuxent/patuxent/PasswordComplexity;"⟩ : MethodName) (head1 (Jvm.Cond.code (⟨"com/example/patuxent/patuxent/PasswordComplexity", "ofCode", "(I)Lcom/example/patuxent/patuxent/PasswordComplexity;"⟩ : MethodName) prog_8_method_6_code 6 (some (.object "com/example/patuxent/patuxent/PasswordComplexity")) :: ws) ({ frames := 2, cells := 1, slots := 4, locals := 25 } : Room)) (fun a U => a = #[(.int p1)] ∧ Z.Warmed39 U.vm ∧ U.heap = h0) (fun _ _ _ _ _ => True) (fun _ U o U' => ∃ v L, o = .returned v ∧ Q_rm1_4 Z p1 w_ANY w_LETTER w_LETTER_DIGIT w_LETTER_DIGIT_SPECIAL kv w__VALUES h0 n0 v U'.heap L ∧ FrameEnd U o U' L ({ frames := 2, cells := 1, slots := 4, locals := 25 } : Room).cells ({ frames := 2, cells := 1, slots := 4, locals := 25 } : Room).slots) := by
  refine MetFree.of_bodySF (plainFor_of_name pn_4) hisR ?_
  intro p e s m args below meth c s₁ Bd hml0 hP hK
  obtain ⟨rfl, hZ, hh⟩ := hP
  have hx := Bd.exec
  have hby := Bd.bytes
  have hml : c.maxLocals = 6 := hml0
  have hown : s.vm.findClass "com/example/patuxent/patuxent/PasswordComplexity" = some m.cls := findClass_of_methodNamed Bd.named
  have hnm := (name_of_methodNamed Bd.named Bd.method).1
  have X0 : Stand p l e ({ frames := 2, cells := 1, slots := 4, locals := 25 } : Room) s m #[(.int p1)] below meth c s₁ [] 0 0 := Stand.of_body Bd
  have e0 : s₁.heap = h0 := by rw [← hh, Bd.state]; rfl
  have N0 := Fr.nil n0
  show Go p e below (s₁.setTop (entryFrame m #[(.int p1)] 6)) (fun o U' => ∃ v L, o = .returned v ∧ Q_rm1_4 Z p1 w_ANY w_LETTER w_LETTER_DIGIT w_LETTER_DIGIT_SPECIAL kv w__VALUES h0 n0 v U'.heap L ∧ FrameEnd s o U' L ({ frames := 2, cells := 1, slots := 4, locals := 25 } : Room).cells ({ frames := 2, cells := 1, slots := 4, locals := 25 } : Room).slots)
  rw [ef_rm1_4]
  show Go p e below (s₁.setTop (mkF m 0 #[.val (.int p1), .unset, .unset, .unset, .unset, .unset] [])) _
  refine Go.st (fun _ k_ => XS.aconstNull X0.here hx rfl (hb hby d1_0) k_) ?_
  show Go p e below (s₁.setTop (mkF m 1 #[.val (.int p1), .unset, .unset, .unset, .unset, .unset] [.null])) _
  refine Go.st (fun _ k_ => XS.astoreN X0.here hx rfl (hb hby d1_1) rfl rfl (l' := #[.val (.int p1), .val .null, .unset, .unset, .unset, .unset]) rfl k_) ?_
  show Go p e below (s₁.setTop (mkF m 2 #[.val (.int p1), .val .null, .unset, .unset, .unset, .unset] [])) _
  obtain ⟨_, _, ⟨T1, L1, k1_, n1_⟩, -, X1, ⟨Lc1, hQ1, l1_, y1_, z1_⟩, st1⟩ := Jvm.LawKit.callS X0 hx (y := (⟨"com/example/patuxent/patuxent/PasswordComplexity", "values", "()[Lcom/example/patuxent/patuxent/PasswordComplexity;"⟩ : MethodName)) hown (mvT hZ (hw _ (List.mem_of_getElem? (i := 4) rfl))) (mvT hZ (hw _ (List.mem_of_getElem? (i := 5) rfl))) (mvT hZ (hw _ (List.mem_of_getElem? (i := 2) rfl))) (mvT hZ (hw _ (List.mem_of_getElem? (i := 6) rfl))) (by decide) (backOf (W := 0) (rm2 l Z a0 hw [] w_ANY w_LETTER w_LETTER_DIGIT w_LETTER_DIGIT_SPECIAL kv w__VALUES h0 n0 Z0 S__VALUES V_vals E_vals) hZ (hw _ (List.mem_of_getElem? (i := 6) rfl)) (hw _ (List.mem_of_getElem? (i := 2) rfl)) (by decide) (by decide)) (g := (mkF m 2 #[.val (.int p1), .val .null, .unset, .unset, .unset, .unset] [])) rfl (by rw [hml]; rfl) (argsL := []) (rest := []) (lenOf pd_0 rfl) rfl (by show 2 * 0 + _ ≤ _; exact Nat.le_of_eq rfl) (hb hby d1_2) (fun _ _ => ⟨rfl, e0, (by decide : 0 + 1 ≤ _), (by decide : 0 + 4 ≤ _)⟩)
  dsimp only [Pt.U, Pt.locs, Pt.cells, Pt.slots] at X1 l1_ y1_ z1_ st1 hQ1
  subst l1_ y1_ z1_
  obtain ⟨rfl, N1q, E1, A1⟩ := hQ1
  have N1 := Fr.app N0 N1q
  obtain ⟨b1, g1⟩ : ∃ z_, z_ = h0.size := ⟨_, rfl⟩
  rw [← g1] at A1 st1
  have g_b1 : n0 ≤ b1 := Nat.le_trans Z0 (Nat.le_of_eq g1.symm)
  have V_b1 := A1
  have lt_b1 : b1 < T1.heap.size := own_arvlt V_b1
  refine Go.st st1 ?_
  show Go p e below (T1.setTop (mkF m 5 #[.val (.int p1), .val .null, .unset, .unset, .unset, .unset] [(.ref b1)])) _
  refine Go.st (fun _ k_ => XS.astoreN X1.here hx rfl (hb hby d1_5) rfl rfl (l' := #[.val (.int p1), .val .null, .val (.ref b1), .unset, .unset, .unset]) rfl k_) ?_
  show Go p e below (T1.setTop (mkF m 6 #[.val (.int p1), .val .null, .val (.ref b1), .unset, .unset, .unset] [])) _
  refine Go.st (fun _ k_ => XS.aloadN X1.here hx rfl (hb hby d1_6) rfl rfl k_) ?_
  show Go p e below (T1.setTop (mkF m 7 #[.val (.int p1), .val .null, .val (.ref b1), .unset, .unset, .unset] [(.ref b1)])) _
  obtain ⟨cl2, Ar2, -, S2, N2_, -, -⟩ := id V_b1
  refine Go.st (X1.arraylength hx (by exact Ar2.1) (State.isArrayOf_alike hZ.alike Ar2.2.1) (g := (mkF m 7 #[.val (.int p1), .val .null, .val (.ref b1), .unset, .unset, .unset] [(.ref b1)])) rfl rfl (hb hby d1_7)) ?_
  rw [len_of S2 N2_]
  show Go p e below (T1.setTop (mkF m 8 #[.val (.int p1), .val .null, .val (.ref b1), .unset, .unset, .unset] [(.int (4 : Int32))])) _
  refine Go.st (fun _ k_ => XS.istoreN X1.here hx rfl (hb hby d1_8) rfl (l' := #[.val (.int p1), .val .null, .val (.ref b1), .val (.int (4 : Int32)), .unset, .unset]) rfl k_) ?_
  show Go p e below (T1.setTop (mkF m 9 #[.val (.int p1), .val .null, .val (.ref b1), .val (.int (4 : Int32)), .unset, .unset] [])) _
  refine Go.st (fun _ k_ => XS.iconst X1.here hx rfl (hb hby d1_9) k_) ?_
  show Go p e below (T1.setTop (mkF m 10 #[.val (.int p1), .val .null, .val (.ref b1), .val (.int (4 : Int32)), .unset, .unset] [(.int (0 : Int32))])) _
  refine Go.st (fun _ k_ => XS.istore X1.here hx rfl (hb hby d1_10) rfl (l' := #[.val (.int p1), .val .null, .val (.ref b1), .val (.int (4 : Int32)), .val (.int (0 : Int32)), .unset]) rfl k_) ?_
  show Go p e below (T1.setTop (mkF m 12 #[.val (.int p1), .val .null, .val (.ref b1), .val (.int (4 : Int32)), .val (.int (0 : Int32)), .unset] [])) _
  refine Go.st (fun _ k_ => XS.iload X1.here hx rfl (hb hby d1_12) rfl k_) ?_
  show Go p e below (T1.setTop (mkF m 14 #[.val (.int p1), .val .null, .val (.ref b1), .val (.int (4 : Int32)), .val (.int (0 : Int32)), .unset] [(.int (0 : Int32))])) _
  refine Go.st (fun _ k_ => XS.iloadN X1.here hx rfl (hb hby d1_14) rfl k_) ?_
  show Go p e below (T1.setTop (mkF m 15 #[.val (.int p1), .val .null, .val (.ref b1), .val (.int (4 : Int32)), .val (.int (0 : Int32)), .unset] [(.int (4 : Int32)), (.int (0 : Int32))])) _
  refine Go.st (fun _ k_ => XS.icmpNo X1.here hx rfl (hb hby d1_15) rfl (tlt (by decide : (0 : Int32) < (4 : Int32))).2.1 k_) ?_
  show Go p e below (T1.setTop (mkF m 18 #[.val (.int p1), .val .null, .val (.ref b1), .val (.int (4 : Int32)), .val (.int (0 : Int32)), .unset] [])) _
  refine Go.st (fun _ k_ => XS.aloadN X1.here hx rfl (hb hby d1_18) rfl rfl k_) ?_
  show Go p e below (T1.setTop (mkF m 19 #[.val (.int p1), .val .null, .val (.ref b1), .val (.int (4 : Int32)), .val (.int (0 : Int32)), .unset] [(.ref b1)])) _
  refine Go.st (fun _ k_ => XS.iload X1.here hx rfl (hb hby d1_19) rfl k_) ?_
  show Go p e below (T1.setTop (mkF m 21 #[.val (.int p1), .val .null, .val (.ref b1), .val (.int (4 : Int32)), .val (.int (0 : Int32)), .unset] [(.int (0 : Int32)), (.ref b1)])) _
  obtain ⟨cl3, Ar3, q3, S3, N3_, H3, G3⟩ := id V_b1
  have hin3 : ¬ ((0 : Int32) < 0 ∨ cl3.slots.size ≤ ((0 : Int32)).toNatClampNeg) := inb_of S3 ⟨by decide, by decide⟩
  have hat3 : cl3.slots[((0 : Int32)).toNatClampNeg]? = some (.ref w_ANY) := H3 _ (Nat.lt_of_not_le fun q_ => hin3 (Or.inr q_))
  refine Go.st (X1.aaload hx (j := (0 : Int32)) (v := (.ref w_ANY)) (by exact Ar3.1) (State.isArrayOf_alike hZ.alike Ar3.2.1) rfl Ar3.2.2 hin3 hat3 (g := (mkF m 21 #[.val (.int p1), .val .null, .val (.ref b1), .val (.int (4 : Int32)), .val (.int (0 : Int32)), .unset] [(.int (0 : Int32)), (.ref b1)])) rfl rfl (hb hby d1_21)) ?_
  show Go p e below (T1.setTop (mkF m 22 #[.val (.int p1), .val .null, .val (.ref b1), .val (.int (4 : Int32)), .val (.int (0 : Int32)), .unset] [(.ref w_ANY)])) _
  refine Go.st (fun _ k_ => XS.astore X1.here hx rfl (hb hby d1_22) rfl rfl (l' := #[.val (.int p1), .val .null, .val (.ref b1), .val (.int (4 : Int32)), .val (.int (0 : Int32)), .val (.ref w_ANY)]) rfl k_) ?_
  show Go p e below (T1.setTop (mkF m 24 #[.val (.int p1), .val .null, .val (.ref b1), .val (.int (4 : Int32)), .val (.int (0 : Int32)), .val (.ref w_ANY)] [])) _
  refine Go.st (fun _ k_ => XS.aload X1.here hx rfl (hb hby d1_24) rfl rfl k_) ?_
  show Go p e below (T1.setTop (mkF m 26 #[.val (.int p1), .val .null, .val (.ref b1), .val (.int (4 : Int32)), .val (.int (0 : Int32)), .val (.ref w_ANY)] [(.ref w_ANY)])) _
  have H4 := (F_code_ANY.ext E1)
  obtain ⟨T5, X5, e5, st5⟩ := getF X1 hx hZ hown (host := "") (Or.inl (hw _ (List.mem_of_getElem? (i := 23) rfl))) Via.refl rfl H4 (g := (mkF m 26 #[.val (.int p1), .val .null, .val (.ref b1), .val (.int (4 : Int32)), .val (.int (0 : Int32)), .val (.ref w_ANY)] [(.ref w_ANY)])) rfl rfl (hb hby d1_26)
  refine Go.st st5 ?_
  show Go p e below (T5.setTop (mkF m 29 #[.val (.int p1), .val .null, .val (.ref b1), .val (.int (4 : Int32)), .val (.int (0 : Int32)), .val (.ref w_ANY)] [(.int (0 : Int32))])) _
  refine Go.st (fun _ k_ => XS.iloadN X5.here hx rfl (hb hby d1_29) rfl k_) ?_
  show Go p e below (T5.setTop (mkF m 30 #[.val (.int p1), .val .null, .val (.ref b1), .val (.int (4 : Int32)), .val (.int (0 : Int32)), .val (.ref w_ANY)] [(.int p1), (.int (0 : Int32))])) _
  have hc30 : ¬ ((0 : Int32) = p1) := fun q_ => hn0 q_.symm
  refine Go.st (fun _ k_ => XS.icmpYes X5.here hx rfl (pc0 := 30) (pc' := 36) rfl (hb hby d1_30) rfl (feq hc30).2 (by decide) (by decide) k_) ?_
  show Go p e below (T5.setTop (mkF m 36 #[.val (.int p1), .val .null, .val (.ref b1), .val (.int (4 : Int32)), .val (.int (0 : Int32)), .val (.ref w_ANY)] [])) _
  refine Go.st (fun _ k_ => XS.iinc X5.here hx rfl (hb hby d1_36) rfl (l' := #[.val (.int p1), .val .null, .val (.ref b1), .val (.int (4 : Int32)), .val (.int (1 : Int32)), .val (.ref w_ANY)]) rfl k_) ?_
  show Go p e below (T5.setTop (mkF m 39 #[.val (.int p1), .val .null, .val (.ref b1), .val (.int (4 : Int32)), .val (.int (1 : Int32)), .val (.ref w_ANY)] [])) _
  refine Go.st (fun _ k_ => XS.goto X5.here hx rfl (pc0 := 39) (pc' := 12) rfl (hb hby d1_39) (by decide) (by decide) k_) ?_
  show Go p e below (T5.setTop (mkF m 12 #[.val (.int p1), .val .null, .val (.ref b1), .val (.int (4 : Int32)), .val (.int (1 : Int32)), .val (.ref w_ANY)] [])) _
  refine Go.st (fun _ k_ => XS.iload X5.here hx rfl (hb hby d1_12) rfl k_) ?_
  show Go p e below (T5.setTop (mkF m 14 #[.val (.int p1), .val .null, .val (.ref b1), .val (.int (4 : Int32)), .val (.int (1 : Int32)), .val (.ref w_ANY)] [(.int (1 : Int32))])) _
  refine Go.st (fun _ k_ => XS.iloadN X5.here hx rfl (hb hby d1_14) rfl k_) ?_
  show Go p e below (T5.setTop (mkF m 15 #[.val (.int p1), .val .null, .val (.ref b1), .val (.int (4 : Int32)), .val (.int (1 : Int32)), .val (.ref w_ANY)] [(.int (4 : Int32)), (.int (1 : Int32))])) _
  refine Go.st (fun _ k_ => XS.icmpNo X5.here hx rfl (hb hby d1_15) rfl (tlt (by decide : (1 : Int32) < (4 : Int32))).2.1 k_) ?_
  show Go p e below (T5.setTop (mkF m 18 #[.val (.int p1), .val .null, .val (.ref b1), .val (.int (4 : Int32)), .val (.int (1 : Int32)), .val (.ref w_ANY)] [])) _
  refine Go.st (fun _ k_ => XS.aloadN X5.here hx rfl (hb hby d1_18) rfl rfl k_) ?_
  show Go p e below (T5.setTop (mkF m 19 #[.val (.int p1), .val .null, .val (.ref b1), .val (.int (4 : Int32)), .val (.int (1 : Int32)), .val (.ref w_ANY)] [(.ref b1)])) _
  refine Go.st (fun _ k_ => XS.iload X5.here hx rfl (hb hby d1_19) rfl k_) ?_
  show Go p e below (T5.setTop (mkF m 21 #[.val (.int p1), .val .null, .val (.ref b1), .val (.int (4 : Int32)), .val (.int (1 : Int32)), .val (.ref w_ANY)] [(.int (1 : Int32)), (.ref b1)])) _
  obtain ⟨cl6, Ar6, q6, S6, N6_, H6, G6⟩ := id V_b1
  have hin6 : ¬ ((1 : Int32) < 0 ∨ cl6.slots.size ≤ ((1 : Int32)).toNatClampNeg) := inb_of S6 ⟨by decide, by decide⟩
  have hat6 : cl6.slots[((1 : Int32)).toNatClampNeg]? = some (.ref w_LETTER) := H6 _ (Nat.lt_of_not_le fun q_ => hin6 (Or.inr q_))
  refine Go.st (X5.aaload hx (j := (1 : Int32)) (v := (.ref w_LETTER)) (by rw [e5]; exact Ar6.1) (State.isArrayOf_alike hZ.alike Ar6.2.1) rfl Ar6.2.2 hin6 hat6 (g := (mkF m 21 #[.val (.int p1), .val .null, .val (.ref b1), .val (.int (4 : Int32)), .val (.int (1 : Int32)), .val (.ref w_ANY)] [(.int (1 : Int32)), (.ref b1)])) rfl rfl (hb hby d1_21)) ?_
  show Go p e below (T5.setTop (mkF m 22 #[.val (.int p1), .val .null, .val (.ref b1), .val (.int (4 : Int32)), .val (.int (1 : Int32)), .val (.ref w_ANY)] [(.ref w_LETTER)])) _
  refine Go.st (fun _ k_ => XS.astore X5.here hx rfl (hb hby d1_22) rfl rfl (l' := #[.val (.int p1), .val .null, .val (.ref b1), .val (.int (4 : Int32)), .val (.int (1 : Int32)), .val (.ref w_LETTER)]) rfl k_) ?_
  show Go p e below (T5.setTop (mkF m 24 #[.val (.int p1), .val .null, .val (.ref b1), .val (.int (4 : Int32)), .val (.int (1 : Int32)), .val (.ref w_LETTER)] [])) _
  refine Go.st (fun _ k_ => XS.aload X5.here hx rfl (hb hby d1_24) rfl rfl k_) ?_
  show Go p e below (T5.setTop (mkF m 26 #[.val (.int p1), .val .null, .val (.ref b1), .val (.int (4 : Int32)), .val (.int (1 : Int32)), .val (.ref w_LETTER)] [(.ref w_LETTER)])) _
  have H7 := (F_code_LETTER.ext E1)
  obtain ⟨T8, X8, e8, st8⟩ := getF X5 hx hZ hown (host := "") (Or.inl (hw _ (List.mem_of_getElem? (i := 23) rfl))) Via.refl e5 H7 (g := (mkF m 26 #[.val (.int p1), .val .null, .val (.ref b1), .val (.int (4 : Int32)), .val (.int (1 : Int32)), .val (.ref w_LETTER)] [(.ref w_LETTER)])) rfl rfl (hb hby d1_26)
  refine Go.st st8 ?_
  show Go p e below (T8.setTop (mkF m 29 #[.val (.int p1), .val .null, .val (.ref b1), .val (.int (4 : Int32)), .val (.int (1 : Int32)), .val (.ref w_LETTER)] [(.int (1 : Int32))])) _
  refine Go.st (fun _ k_ => XS.iloadN X8.here hx rfl (hb hby d1_29) rfl k_) ?_
  show Go p e below (T8.setTop (mkF m 30 #[.val (.int p1), .val .null, .val (.ref b1), .val (.int (4 : Int32)), .val (.int (1 : Int32)), .val (.ref w_LETTER)] [(.int p1), (.int (1 : Int32))])) _
  have hc30_1 : ¬ ((1 : Int32) = p1) := fun q_ => hn1 q_.symm
  refine Go.st (fun _ k_ => XS.icmpYes X8.here hx rfl (pc0 := 30) (pc' := 36) rfl (hb hby d1_30) rfl (feq hc30_1).2 (by decide) (by decide) k_) ?_
  show Go p e below (T8.setTop (mkF m 36 #[.val (.int p1), .val .null, .val (.ref b1), .val (.int (4 : Int32)), .val (.int (1 : Int32)), .val (.ref w_LETTER)] [])) _
  refine Go.st (fun _ k_ => XS.iinc X8.here hx rfl (hb hby d1_36) rfl (l' := #[.val (.int p1), .val .null, .val (.ref b1), .val (.int (4 : Int32)), .val (.int (2 : Int32)), .val (.ref w_LETTER)]) rfl k_) ?_
  show Go p e below (T8.setTop (mkF m 39 #[.val (.int p1), .val .null, .val (.ref b1), .val (.int (4 : Int32)), .val (.int (2 : Int32)), .val (.ref w_LETTER)] [])) _
  refine Go.st (fun _ k_ => XS.goto X8.here hx rfl (pc0 := 39) (pc' := 12) rfl (hb hby d1_39) (by decide) (by decide) k_) ?_
  show Go p e below (T8.setTop (mkF m 12 #[.val (.int p1), .val .null, .val (.ref b1), .val (.int (4 : Int32)), .val (.int (2 : Int32)), .val (.ref w_LETTER)] [])) _
  refine Go.st (fun _ k_ => XS.iload X8.here hx rfl (hb hby d1_12) rfl k_) ?_
  show Go p e below (T8.setTop (mkF m 14 #[.val (.int p1), .val .null, .val (.ref b1), .val (.int (4 : Int32)), .val (.int (2 : Int32)), .val (.ref w_LETTER)] [(.int (2 : Int32))])) _
  refine Go.st (fun _ k_ => XS.iloadN X8.here hx rfl (hb hby d1_14) rfl k_) ?_
  show Go p e below (T8.setTop (mkF m 15 #[.val (.int p1), .val .null, .val (.ref b1), .val (.int (4 : Int32)), .val (.int (2 : Int32)), .val (.ref w_LETTER)] [(.int (4 : Int32)), (.int (2 : Int32))])) _
  refine Go.st (fun _ k_ => XS.icmpNo X8.here hx rfl (hb hby d1_15) rfl (tlt (by decide : (2 : Int32) < (4 : Int32))).2.1 k_) ?_
  show Go p e below (T8.setTop (mkF m 18 #[.val (.int p1), .val .null, .val (.ref b1), .val (.int (4 : Int32)), .val (.int (2 : Int32)), .val (.ref w_LETTER)] [])) _
  refine Go.st (fun _ k_ => XS.aloadN X8.here hx rfl (hb hby d1_18) rfl rfl k_) ?_
  show Go p e below (T8.setTop (mkF m 19 #[.val (.int p1), .val .null, .val (.ref b1), .val (.int (4 : Int32)), .val (.int (2 : Int32)), .val (.ref w_LETTER)] [(.ref b1)])) _
  refine Go.st (fun _ k_ => XS.iload X8.here hx rfl (hb hby d1_19) rfl k_) ?_
  show Go p e below (T8.setTop (mkF m 21 #[.val (.int p1), .val .null, .val (.ref b1), .val (.int (4 : Int32)), .val (.int (2 : Int32)), .val (.ref w_LETTER)] [(.int (2 : Int32)), (.ref b1)])) _
  obtain ⟨cl9, Ar9, q9, S9, N9_, H9, G9⟩ := id V_b1
  have hin9 : ¬ ((2 : Int32) < 0 ∨ cl9.slots.size ≤ ((2 : Int32)).toNatClampNeg) := inb_of S9 ⟨by decide, by decide⟩
  have hat9 : cl9.slots[((2 : Int32)).toNatClampNeg]? = some (.ref w_LETTER_DIGIT) := H9 _ (Nat.lt_of_not_le fun q_ => hin9 (Or.inr q_))
  refine Go.st (X8.aaload hx (j := (2 : Int32)) (v := (.ref w_LETTER_DIGIT)) (by rw [e8]; exact Ar9.1) (State.isArrayOf_alike hZ.alike Ar9.2.1) rfl Ar9.2.2 hin9 hat9 (g := (mkF m 21 #[.val (.int p1), .val .null, .val (.ref b1), .val (.int (4 : Int32)), .val (.int (2 : Int32)), .val (.ref w_LETTER)] [(.int (2 : Int32)), (.ref b1)])) rfl rfl (hb hby d1_21)) ?_
  show Go p e below (T8.setTop (mkF m 22 #[.val (.int p1), .val .null, .val (.ref b1), .val (.int (4 : Int32)), .val (.int (2 : Int32)), .val (.ref w_LETTER)] [(.ref w_LETTER_DIGIT)])) _
  refine Go.st (fun _ k_ => XS.astore X8.here hx rfl (hb hby d1_22) rfl rfl (l' := #[.val (.int p1), .val .null, .val (.ref b1), .val (.int (4 : Int32)), .val (.int (2 : Int32)), .val (.ref w_LETTER_DIGIT)]) rfl k_) ?_
  show Go p e below (T8.setTop (mkF m 24 #[.val (.int p1), .val .null, .val (.ref b1), .val (.int (4 : Int32)), .val (.int (2 : Int32)), .val (.ref w_LETTER_DIGIT)] [])) _
  refine Go.st (fun _ k_ => XS.aload X8.here hx rfl (hb hby d1_24) rfl rfl k_) ?_
  show Go p e below (T8.setTop (mkF m 26 #[.val (.int p1), .val .null, .val (.ref b1), .val (.int (4 : Int32)), .val (.int (2 : Int32)), .val (.ref w_LETTER_DIGIT)] [(.ref w_LETTER_DIGIT)])) _
  have H10 := (F_code_LETTER_DIGIT.ext E1)
  obtain ⟨T11, X11, e11, st11⟩ := getF X8 hx hZ hown (host := "") (Or.inl (hw _ (List.mem_of_getElem? (i := 23) rfl))) Via.refl e8 H10 (g := (mkF m 26 #[.val (.int p1), .val .null, .val (.ref b1), .val (.int (4 : Int32)), .val (.int (2 : Int32)), .val (.ref w_LETTER_DIGIT)] [(.ref w_LETTER_DIGIT)])) rfl rfl (hb hby d1_26)
  refine Go.st st11 ?_
  show Go p e below (T11.setTop (mkF m 29 #[.val (.int p1), .val .null, .val (.ref b1), .val (.int (4 : Int32)), .val (.int (2 : Int32)), .val (.ref w_LETTER_DIGIT)] [(.int (2 : Int32))])) _
  refine Go.st (fun _ k_ => XS.iloadN X11.here hx rfl (hb hby d1_29) rfl k_) ?_
  show Go p e below (T11.setTop (mkF m 30 #[.val (.int p1), .val .null, .val (.ref b1), .val (.int (4 : Int32)), .val (.int (2 : Int32)), .val (.ref w_LETTER_DIGIT)] [(.int p1), (.int (2 : Int32))])) _
  have hc30_2 : ¬ ((2 : Int32) = p1) := fun q_ => hn2 q_.symm
  refine Go.st (fun _ k_ => XS.icmpYes X11.here hx rfl (pc0 := 30) (pc' := 36) rfl (hb hby d1_30) rfl (feq hc30_2).2 (by decide) (by decide) k_) ?_
  show Go p e below (T11.setTop (mkF m 36 #[.val (.int p1), .val .null, .val (.ref b1), .val (.int (4 : Int32)), .val (.int (2 : Int32)), .val (.ref w_LETTER_DIGIT)] [])) _
  refine Go.st (fun _ k_ => XS.iinc X11.here hx rfl (hb hby d1_36) rfl (l' := #[.val (.int p1), .val .null, .val (.ref b1), .val (.int (4 : Int32)), .val (.int (3 : Int32)), .val (.ref w_LETTER_DIGIT)]) rfl k_) ?_
  show Go p e below (T11.setTop (mkF m 39 #[.val (.int p1), .val .null, .val (.ref b1), .val (.int (4 : Int32)), .val (.int (3 : Int32)), .val (.ref w_LETTER_DIGIT)] [])) _
  refine Go.st (fun _ k_ => XS.goto X11.here hx rfl (pc0 := 39) (pc' := 12) rfl (hb hby d1_39) (by decide) (by decide) k_) ?_
  show Go p e below (T11.setTop (mkF m 12 #[.val (.int p1), .val .null, .val (.ref b1), .val (.int (4 : Int32)), .val (.int (3 : Int32)), .val (.ref w_LETTER_DIGIT)] [])) _
  refine Go.st (fun _ k_ => XS.iload X11.here hx rfl (hb hby d1_12) rfl k_) ?_
  show Go p e below (T11.setTop (mkF m 14 #[.val (.int p1), .val .null, .val (.ref b1), .val (.int (4 : Int32)), .val (.int (3 : Int32)), .val (.ref w_LETTER_DIGIT)] [(.int (3 : Int32))])) _
  refine Go.st (fun _ k_ => XS.iloadN X11.here hx rfl (hb hby d1_14) rfl k_) ?_
  show Go p e below (T11.setTop (mkF m 15 #[.val (.int p1), .val .null, .val (.ref b1), .val (.int (4 : Int32)), .val (.int (3 : Int32)), .val (.ref w_LETTER_DIGIT)] [(.int (4 : Int32)), (.int (3 : Int32))])) _
  refine Go.st (fun _ k_ => XS.icmpNo X11.here hx rfl (hb hby d1_15) rfl (tlt (by decide : (3 : Int32) < (4 : Int32))).2.1 k_) ?_
  show Go p e below (T11.setTop (mkF m 18 #[.val (.int p1), .val .null, .val (.ref b1), .val (.int (4 : Int32)), .val (.int (3 : Int32)), .val (.ref w_LETTER_DIGIT)] [])) _
  refine Go.st (fun _ k_ => XS.aloadN X11.here hx rfl (hb hby d1_18) rfl rfl k_) ?_
  show Go p e below (T11.setTop (mkF m 19 #[.val (.int p1), .val .null, .val (.ref b1), .val (.int (4 : Int32)), .val (.int (3 : Int32)), .val (.ref w_LETTER_DIGIT)] [(.ref b1)])) _
  refine Go.st (fun _ k_ => XS.iload X11.here hx rfl (hb hby d1_19) rfl k_) ?_
  show Go p e below (T11.setTop (mkF m 21 #[.val (.int p1), .val .null, .val (.ref b1), .val (.int (4 : Int32)), .val (.int (3 : Int32)), .val (.ref w_LETTER_DIGIT)] [(.int (3 : Int32)), (.ref b1)])) _
  obtain ⟨cl12, Ar12, q12, S12, N12_, H12, G12⟩ := id V_b1
  have hin12 : ¬ ((3 : Int32) < 0 ∨ cl12.slots.size ≤ ((3 : Int32)).toNatClampNeg) := inb_of S12 ⟨by decide, by decide⟩
  have hat12 : cl12.slots[((3 : Int32)).toNatClampNeg]? = some (.ref w_LETTER_DIGIT_SPECIAL) := H12 _ (Nat.lt_of_not_le fun q_ => hin12 (Or.inr q_))
  refine Go.st (X11.aaload hx (j := (3 : Int32)) (v := (.ref w_LETTER_DIGIT_SPECIAL)) (by rw [e11]; exact Ar12.1) (State.isArrayOf_alike hZ.alike Ar12.2.1) rfl Ar12.2.2 hin12 hat12 (g := (mkF m 21 #[.val (.int p1), .val .null, .val (.ref b1), .val (.int (4 : Int32)), .val (.int (3 : Int32)), .val (.ref w_LETTER_DIGIT)] [(.int (3 : Int32)), (.ref b1)])) rfl rfl (hb hby d1_21)) ?_
  show Go p e below (T11.setTop (mkF m 22 #[.val (.int p1), .val .null, .val (.ref b1), .val (.int (4 : Int32)), .val (.int (3 : Int32)), .val (.ref w_LETTER_DIGIT)] [(.ref w_LETTER_DIGIT_SPECIAL)])) _
  refine Go.st (fun _ k_ => XS.astore X11.here hx rfl (hb hby d1_22) rfl rfl (l' := #[.val (.int p1), .val .null, .val (.ref b1), .val (.int (4 : Int32)), .val (.int (3 : Int32)), .val (.ref w_LETTER_DIGIT_SPECIAL)]) rfl k_) ?_
  show Go p e below (T11.setTop (mkF m 24 #[.val (.int p1), .val .null, .val (.ref b1), .val (.int (4 : Int32)), .val (.int (3 : Int32)), .val (.ref w_LETTER_DIGIT_SPECIAL)] [])) _
  refine Go.st (fun _ k_ => XS.aload X11.here hx rfl (hb hby d1_24) rfl rfl k_) ?_
  show Go p e below (T11.setTop (mkF m 26 #[.val (.int p1), .val .null, .val (.ref b1), .val (.int (4 : Int32)), .val (.int (3 : Int32)), .val (.ref w_LETTER_DIGIT_SPECIAL)] [(.ref w_LETTER_DIGIT_SPECIAL)])) _
  have H13 := (F_code_LETTER_DIGIT_SPECIAL.ext E1)
  obtain ⟨T14, X14, e14, st14⟩ := getF X11 hx hZ hown (host := "") (Or.inl (hw _ (List.mem_of_getElem? (i := 23) rfl))) Via.refl e11 H13 (g := (mkF m 26 #[.val (.int p1), .val .null, .val (.ref b1), .val (.int (4 : Int32)), .val (.int (3 : Int32)), .val (.ref w_LETTER_DIGIT_SPECIAL)] [(.ref w_LETTER_DIGIT_SPECIAL)])) rfl rfl (hb hby d1_26)
  refine Go.st st14 ?_
  show Go p e below (T14.setTop (mkF m 29 #[.val (.int p1), .val .null, .val (.ref b1), .val (.int (4 : Int32)), .val (.int (3 : Int32)), .val (.ref w_LETTER_DIGIT_SPECIAL)] [(.int (3 : Int32))])) _
  refine Go.st (fun _ k_ => XS.iloadN X14.here hx rfl (hb hby d1_29) rfl k_) ?_
  show Go p e below (T14.setTop (mkF m 30 #[.val (.int p1), .val .null, .val (.ref b1), .val (.int (4 : Int32)), .val (.int (3 : Int32)), .val (.ref w_LETTER_DIGIT_SPECIAL)] [(.int p1), (.int (3 : Int32))])) _
  have hc30_3 : ¬ ((3 : Int32) = p1) := fun q_ => hn3 q_.symm
  refine Go.st (fun _ k_ => XS.icmpYes X14.here hx rfl (pc0 := 30) (pc' := 36) rfl (hb hby d1_30) rfl (feq hc30_3).2 (by decide) (by decide) k_) ?_
  show Go p e below (T14.setTop (mkF m 36 #[.val (.int p1), .val .null, .val (.ref b1), .val (.int (4 : Int32)), .val (.int (3 : Int32)), .val (.ref w_LETTER_DIGIT_SPECIAL)] [])) _
  refine Go.st (fun _ k_ => XS.iinc X14.here hx rfl (hb hby d1_36) rfl (l' := #[.val (.int p1), .val .null, .val (.ref b1), .val (.int (4 : Int32)), .val (.int (4 : Int32)), .val (.ref w_LETTER_DIGIT_SPECIAL)]) rfl k_) ?_
  show Go p e below (T14.setTop (mkF m 39 #[.val (.int p1), .val .null, .val (.ref b1), .val (.int (4 : Int32)), .val (.int (4 : Int32)), .val (.ref w_LETTER_DIGIT_SPECIAL)] [])) _
  refine Go.st (fun _ k_ => XS.goto X14.here hx rfl (pc0 := 39) (pc' := 12) rfl (hb hby d1_39) (by decide) (by decide) k_) ?_
  show Go p e below (T14.setTop (mkF m 12 #[.val (.int p1), .val .null, .val (.ref b1), .val (.int (4 : Int32)), .val (.int (4 : Int32)), .val (.ref w_LETTER_DIGIT_SPECIAL)] [])) _
  refine Go.st (fun _ k_ => XS.iload X14.here hx rfl (hb hby d1_12) rfl k_) ?_
  show Go p e below (T14.setTop (mkF m 14 #[.val (.int p1), .val .null, .val (.ref b1), .val (.int (4 : Int32)), .val (.int (4 : Int32)), .val (.ref w_LETTER_DIGIT_SPECIAL)] [(.int (4 : Int32))])) _
  refine Go.st (fun _ k_ => XS.iloadN X14.here hx rfl (hb hby d1_14) rfl k_) ?_
  show Go p e below (T14.setTop (mkF m 15 #[.val (.int p1), .val .null, .val (.ref b1), .val (.int (4 : Int32)), .val (.int (4 : Int32)), .val (.ref w_LETTER_DIGIT_SPECIAL)] [(.int (4 : Int32)), (.int (4 : Int32))])) _
  refine Go.st (fun _ k_ => XS.icmpYes X14.here hx rfl (pc0 := 15) (pc' := 42) rfl (hb hby d1_15) rfl (flt (by decide : ¬ ((4 : Int32) < (4 : Int32)))).2.1 (by decide) (by decide) k_) ?_
  show Go p e below (T14.setTop (mkF m 42 #[.val (.int p1), .val .null, .val (.ref b1), .val (.int (4 : Int32)), .val (.int (4 : Int32)), .val (.ref w_LETTER_DIGIT_SPECIAL)] [])) _
  refine Go.st (fun _ k_ => XS.aloadN X14.here hx rfl (hb hby d1_42) rfl rfl k_) ?_
  show Go p e below (T14.setTop (mkF m 43 #[.val (.int p1), .val .null, .val (.ref b1), .val (.int (4 : Int32)), .val (.int (4 : Int32)), .val (.ref w_LETTER_DIGIT_SPECIAL)] [.null])) _
  refine Go.fin X14 (v := some .null) (fun h_ => by rw [Bd.returns] at h_; cases h_) Bd.notSynchronized (fun _ hr => retOut X14 hx Bd.returns rfl (Or.inr (Or.inr (Or.inr (Or.inr ⟨rfl, rfl, rfl⟩)))) (hb hby d1_43) hr) (fun U' hU hF => ⟨_, _, rfl, ?_, hF.1, hF.2.1, hF.2.2.mono (by decide) (by decide)⟩)
  rw [hU, e14]
  exact ⟨rfl, N1, ((Keep.refl h0 []).ext E1)⟩
theorem d3_0 : decode method_3_code 0 = .ok (.iload_n 0, 1) := by decide +kernel
theorem d3_1 : decode method_3_code 1 = .ok (.ifCond .ne 7, 3) := by decide +kernel
theorem d3_4 : decode method_3_code 4 = .ok (.getstatic 18, 3) := by decide +kernel
theorem d3_7 : decode method_3_code 7 = .ok (.areturn, 1) := by decide +kernel
theorem pn_35 : plainName "com/example/patuxent/patuxent/PasswordComplexityOfCodePinLaw" = true := by first | (simp [plainName, overriddenIn]; done) | decide +kernel
theorem ef_rm3_0 (m : MethodId)  : entryFrame m #[(.int (0 : Int32))] 1 = mkF m 0 #[.val (.int (0 : Int32))] [] := by first | (simp [entryFrame, mkF, argsToLocals, Value.category]; done) | rfl
def Q_rm3_0 (Z : State) (w_ANY : Addr) (h0 : Heap) (n0 : Nat) (v : Option Value) (h : Heap) (L : List Loc) : Prop := v = some (.ref w_ANY) ∧ Fr n0 L ∧ h = h0
set_option maxRecDepth 65536 in
set_option maxHeartbeats 40000000 in
theorem rm3_0 (l : Launch) (Z : State) (a0 : Array Value) (hw : ∀ d ∈ tables_1, d.before a0 Z = true) (ws : List Jvm.Cond) (w_ANY : Addr) (h0 : Heap) (n0 : Nat) (Z0 : n0 ≤ h0.size) (S_ANY : Sta Z h0 "com/example/patuxent/patuxent/PasswordComplexity" "ANY" "Lcom/example/patuxent/patuxent/PasswordComplexity;" (.ref w_ANY)) :
    MetFree l (⟨"com/example/patuxent/patuxent/PasswordComplexityOfCodePinLaw", "expected", "(I)Lcom/example/patuxent/patuxent/PasswordComplexity;"⟩ : MethodName) (head1 (Jvm.Cond.code (⟨"com/example/patuxent/patuxent/PasswordComplexityOfCodePinLaw", "expected", "(I)Lcom/example/patuxent/patuxent/PasswordComplexity;"⟩ : MethodName) method_3_code 1 (some (.object "com/example/patuxent/patuxent/PasswordComplexity")) :: ws) ({ frames := 0, cells := 0, slots := 0, locals := 0 } : Room)) (fun a U => a = #[(.int (0 : Int32))] ∧ Z.Warmed39 U.vm ∧ U.heap = h0) (fun _ _ _ _ _ => True) (fun _ U o U' => ∃ v L, o = .returned v ∧ Q_rm3_0 Z w_ANY h0 n0 v U'.heap L ∧ FrameEnd U o U' L ({ frames := 0, cells := 0, slots := 0, locals := 0 } : Room).cells ({ frames := 0, cells := 0, slots := 0, locals := 0 } : Room).slots) := by
  refine MetFree.of_bodySF (plainFor_of_name pn_35) hisR ?_
  intro p e s m args below meth c s₁ Bd hml0 hP hK
  obtain ⟨rfl, hZ, hh⟩ := hP
  have hx := Bd.exec
  have hby := Bd.bytes
  have hml : c.maxLocals = 1 := hml0
  have hown : s.vm.findClass "com/example/patuxent/patuxent/PasswordComplexityOfCodePinLaw" = some m.cls := findClass_of_methodNamed Bd.named
  have hnm := (name_of_methodNamed Bd.named Bd.method).1
  have X0 : Stand p l e ({ frames := 0, cells := 0, slots := 0, locals := 0 } : Room) s m #[(.int (0 : Int32))] below meth c s₁ [] 0 0 := Stand.of_body Bd
  have e0 : s₁.heap = h0 := by rw [← hh, Bd.state]; rfl
  have N0 := Fr.nil n0
  show Go p e below (s₁.setTop (entryFrame m #[(.int (0 : Int32))] 1)) (fun o U' => ∃ v L, o = .returned v ∧ Q_rm3_0 Z w_ANY h0 n0 v U'.heap L ∧ FrameEnd s o U' L ({ frames := 0, cells := 0, slots := 0, locals := 0 } : Room).cells ({ frames := 0, cells := 0, slots := 0, locals := 0 } : Room).slots)
  rw [ef_rm3_0]
  show Go p e below (s₁.setTop (mkF m 0 #[.val (.int (0 : Int32))] [])) _
  refine Go.st (fun _ k_ => XS.iloadN X0.here hx rfl (hb hby d3_0) rfl k_) ?_
  show Go p e below (s₁.setTop (mkF m 1 #[.val (.int (0 : Int32))] [(.int (0 : Int32))])) _
  refine Go.st (fun _ k_ => XS.ifNo X0.here hx rfl (hb hby d3_1) rfl ((if0 _ _).trans (teq (by decide : (0 : Int32) = (0 : Int32))).2) k_) ?_
  show Go p e below (s₁.setTop (mkF m 4 #[.val (.int (0 : Int32))] [])) _
  obtain ⟨T1, X1, e1, st1⟩ := getS2 X0 hx hZ hown (host := "") (Or.inl (hw _ (List.mem_of_getElem? (i := 32) rfl))) Via.refl e0 S_ANY (g := (mkF m 4 #[.val (.int (0 : Int32))] [])) rfl (hb hby d3_4)
  refine Go.st st1 ?_
  show Go p e below (T1.setTop (mkF m 7 #[.val (.int (0 : Int32))] [(.ref w_ANY)])) _
  refine Go.fin X1 (v := some (.ref w_ANY)) (fun h_ => by rw [Bd.returns] at h_; cases h_) Bd.notSynchronized (fun _ hr => retOut X1 hx Bd.returns rfl (Or.inr (Or.inr (Or.inr (Or.inr ⟨rfl, rfl, rfl⟩)))) (hb hby d3_7) hr) (fun U' hU hF => ⟨_, _, rfl, ?_, hF.1, hF.2.1, hF.2.2.mono (by decide) (by decide)⟩)
  rw [hU, e1]
  exact ⟨(congrArg (fun z_ : Addr => some (Value.ref z_)) (show w_ANY = w_ANY from rfl)), N0, rfl⟩
theorem d3_8 : decode method_3_code 8 = .ok (.iload_n 0, 1) := by decide +kernel
theorem d3_9 : decode method_3_code 9 = .ok (.iconst 1, 1) := by decide +kernel
theorem d3_10 : decode method_3_code 10 = .ok (.if_icmp .ne 7, 3) := by decide +kernel
theorem d3_13 : decode method_3_code 13 = .ok (.getstatic 22, 3) := by decide +kernel
theorem d3_16 : decode method_3_code 16 = .ok (.areturn, 1) := by decide +kernel
theorem ef_rm3_1 (m : MethodId)  : entryFrame m #[(.int (1 : Int32))] 1 = mkF m 0 #[.val (.int (1 : Int32))] [] := by first | (simp [entryFrame, mkF, argsToLocals, Value.category]; done) | rfl
def Q_rm3_1 (Z : State) (w_LETTER : Addr) (h0 : Heap) (n0 : Nat) (v : Option Value) (h : Heap) (L : List Loc) : Prop := v = some (.ref w_LETTER) ∧ Fr n0 L ∧ h = h0
set_option maxRecDepth 65536 in
set_option maxHeartbeats 40000000 in
theorem rm3_1 (l : Launch) (Z : State) (a0 : Array Value) (hw : ∀ d ∈ tables_1, d.before a0 Z = true) (ws : List Jvm.Cond) (w_LETTER : Addr) (h0 : Heap) (n0 : Nat) (Z0 : n0 ≤ h0.size) (S_LETTER : Sta Z h0 "com/example/patuxent/patuxent/PasswordComplexity" "LETTER" "Lcom/example/patuxent/patuxent/PasswordComplexity;" (.ref w_LETTER)) :
    MetFree l (⟨"com/example/patuxent/patuxent/PasswordComplexityOfCodePinLaw", "expected", "(I)Lcom/example/patuxent/patuxent/PasswordComplexity;"⟩ : MethodName) (head1 (Jvm.Cond.code (⟨"com/example/patuxent/patuxent/PasswordComplexityOfCodePinLaw", "expected", "(I)Lcom/example/patuxent/patuxent/PasswordComplexity;"⟩ : MethodName) method_3_code 1 (some (.object "com/example/patuxent/patuxent/PasswordComplexity")) :: ws) ({ frames := 0, cells := 0, slots := 0, locals := 0 } : Room)) (fun a U => a = #[(.int (1 : Int32))] ∧ Z.Warmed39 U.vm ∧ U.heap = h0) (fun _ _ _ _ _ => True) (fun _ U o U' => ∃ v L, o = .returned v ∧ Q_rm3_1 Z w_LETTER h0 n0 v U'.heap L ∧ FrameEnd U o U' L ({ frames := 0, cells := 0, slots := 0, locals := 0 } : Room).cells ({ frames := 0, cells := 0, slots := 0, locals := 0 } : Room).slots) := by
  refine MetFree.of_bodySF (plainFor_of_name pn_35) hisR ?_
  intro p e s m args below meth c s₁ Bd hml0 hP hK
  obtain ⟨rfl, hZ, hh⟩ := hP
  have hx := Bd.exec
  have hby := Bd.bytes
  have hml : c.maxLocals = 1 := hml0
  have hown : s.vm.findClass "com/example/patuxent/patuxent/PasswordComplexityOfCodePinLaw" = some m.cls := findClass_of_methodNamed Bd.named
  have hnm := (name_of_methodNamed Bd.named Bd.method).1
  have X0 : Stand p l e ({ frames := 0, cells := 0, slots := 0, locals := 0 } : Room) s m #[(.int (1 : Int32))] below meth c s₁ [] 0 0 := Stand.of_body Bd
  have e0 : s₁.heap = h0 := by rw [← hh, Bd.state]; rfl
  have N0 := Fr.nil n0
  show Go p e below (s₁.setTop (entryFrame m #[(.int (1 : Int32))] 1)) (fun o U' => ∃ v L, o = .returned v ∧ Q_rm3_1 Z w_LETTER h0 n0 v U'.heap L ∧ FrameEnd s o U' L ({ frames := 0, cells := 0, slots := 0, locals := 0 } : Room).cells ({ frames := 0, cells := 0, slots := 0, locals := 0 } : Room).slots)
  rw [ef_rm3_1]
  show Go p e below (s₁.setTop (mkF m 0 #[.val (.int (1 : Int32))] [])) _
  refine Go.st (fun _ k_ => XS.iloadN X0.here hx rfl (hb hby d3_0) rfl k_) ?_
  show Go p e below (s₁.setTop (mkF m 1 #[.val (.int (1 : Int32))] [(.int (1 : Int32))])) _
  refine Go.st (fun _ k_ => XS.ifYes X0.here hx rfl (pc0 := 1) (pc' := 8) rfl (hb hby d3_1) rfl ((if0 _ _).trans (feq (by decide : ¬ ((1 : Int32) = (0 : Int32)))).2) (by decide) (by decide) k_) ?_
  show Go p e below (s₁.setTop (mkF m 8 #[.val (.int (1 : Int32))] [])) _
  refine Go.st (fun _ k_ => XS.iloadN X0.here hx rfl (hb hby d3_8) rfl k_) ?_
  show Go p e below (s₁.setTop (mkF m 9 #[.val (.int (1 : Int32))] [(.int (1 : Int32))])) _
  refine Go.st (fun _ k_ => XS.iconst X0.here hx rfl (hb hby d3_9) k_) ?_
  show Go p e below (s₁.setTop (mkF m 10 #[.val (.int (1 : Int32))] [(.int (1 : Int32)), (.int (1 : Int32))])) _
  refine Go.st (fun _ k_ => XS.icmpNo X0.here hx rfl (hb hby d3_10) rfl (teq (by decide : (1 : Int32) = (1 : Int32))).2 k_) ?_
  show Go p e below (s₁.setTop (mkF m 13 #[.val (.int (1 : Int32))] [])) _
  obtain ⟨T1, X1, e1, st1⟩ := getS2 X0 hx hZ hown (host := "") (Or.inl (hw _ (List.mem_of_getElem? (i := 31) rfl))) Via.refl e0 S_LETTER (g := (mkF m 13 #[.val (.int (1 : Int32))] [])) rfl (hb hby d3_13)
  refine Go.st st1 ?_
  show Go p e below (T1.setTop (mkF m 16 #[.val (.int (1 : Int32))] [(.ref w_LETTER)])) _
  refine Go.fin X1 (v := some (.ref w_LETTER)) (fun h_ => by rw [Bd.returns] at h_; cases h_) Bd.notSynchronized (fun _ hr => retOut X1 hx Bd.returns rfl (Or.inr (Or.inr (Or.inr (Or.inr ⟨rfl, rfl, rfl⟩)))) (hb hby d3_16) hr) (fun U' hU hF => ⟨_, _, rfl, ?_, hF.1, hF.2.1, hF.2.2.mono (by decide) (by decide)⟩)
  rw [hU, e1]
  exact ⟨(congrArg (fun z_ : Addr => some (Value.ref z_)) (show w_LETTER = w_LETTER from rfl)), N0, rfl⟩
theorem d3_17 : decode method_3_code 17 = .ok (.iload_n 0, 1) := by decide +kernel
theorem d3_18 : decode method_3_code 18 = .ok (.iconst 2, 1) := by decide +kernel
theorem d3_19 : decode method_3_code 19 = .ok (.if_icmp .ne 7, 3) := by decide +kernel
theorem d3_22 : decode method_3_code 22 = .ok (.getstatic 25, 3) := by decide +kernel
theorem d3_25 : decode method_3_code 25 = .ok (.areturn, 1) := by decide +kernel
theorem ef_rm3_2 (m : MethodId)  : entryFrame m #[(.int (2 : Int32))] 1 = mkF m 0 #[.val (.int (2 : Int32))] [] := by first | (simp [entryFrame, mkF, argsToLocals, Value.category]; done) | rfl
def Q_rm3_2 (Z : State) (w_LETTER_DIGIT : Addr) (h0 : Heap) (n0 : Nat) (v : Option Value) (h : Heap) (L : List Loc) : Prop := v = some (.ref w_LETTER_DIGIT) ∧ Fr n0 L ∧ h = h0
set_option maxRecDepth 65536 in
set_option maxHeartbeats 40000000 in
theorem rm3_2 (l : Launch) (Z : State) (a0 : Array Value) (hw : ∀ d ∈ tables_1, d.before a0 Z = true) (ws : List Jvm.Cond) (w_LETTER_DIGIT : Addr) (h0 : Heap) (n0 : Nat) (Z0 : n0 ≤ h0.size) (S_LETTER_DIGIT : Sta Z h0 "com/example/patuxent/patuxent/PasswordComplexity" "LETTER_DIGIT" "Lcom/example/patuxent/patuxent/PasswordComplexity;" (.ref w_LETTER_DIGIT)) :
    MetFree l (⟨"com/example/patuxent/patuxent/PasswordComplexityOfCodePinLaw", "expected", "(I)Lcom/example/patuxent/patuxent/PasswordComplexity;"⟩ : MethodName) (head1 (Jvm.Cond.code (⟨"com/example/patuxent/patuxent/PasswordComplexityOfCodePinLaw", "expected", "(I)Lcom/example/patuxent/patuxent/PasswordComplexity;"⟩ : MethodName) method_3_code 1 (some (.object "com/example/patuxent/patuxent/PasswordComplexity")) :: ws) ({ frames := 0, cells := 0, slots := 0, locals := 0 } : Room)) (fun a U => a = #[(.int (2 : Int32))] ∧ Z.Warmed39 U.vm ∧ U.heap = h0) (fun _ _ _ _ _ => True) (fun _ U o U' => ∃ v L, o = .returned v ∧ Q_rm3_2 Z w_LETTER_DIGIT h0 n0 v U'.heap L ∧ FrameEnd U o U' L ({ frames := 0, cells := 0, slots := 0, locals := 0 } : Room).cells ({ frames := 0, cells := 0, slots := 0, locals := 0 } : Room).slots) := by
  refine MetFree.of_bodySF (plainFor_of_name pn_35) hisR ?_
  intro p e s m args below meth c s₁ Bd hml0 hP hK
  obtain ⟨rfl, hZ, hh⟩ := hP
  have hx := Bd.exec
  have hby := Bd.bytes
  have hml : c.maxLocals = 1 := hml0
  have hown : s.vm.findClass "com/example/patuxent/patuxent/PasswordComplexityOfCodePinLaw" = some m.cls := findClass_of_methodNamed Bd.named
  have hnm := (name_of_methodNamed Bd.named Bd.method).1
  have X0 : Stand p l e ({ frames := 0, cells := 0, slots := 0, locals := 0 } : Room) s m #[(.int (2 : Int32))] below meth c s₁ [] 0 0 := Stand.of_body Bd
  have e0 : s₁.heap = h0 := by rw [← hh, Bd.state]; rfl
  have N0 := Fr.nil n0
  show Go p e below (s₁.setTop (entryFrame m #[(.int (2 : Int32))] 1)) (fun o U' => ∃ v L, o = .returned v ∧ Q_rm3_2 Z w_LETTER_DIGIT h0 n0 v U'.heap L ∧ FrameEnd s o U' L ({ frames := 0, cells := 0, slots := 0, locals := 0 } : Room).cells ({ frames := 0, cells := 0, slots := 0, locals := 0 } : Room).slots)
  rw [ef_rm3_2]
  show Go p e below (s₁.setTop (mkF m 0 #[.val (.int (2 : Int32))] [])) _
  refine Go.st (fun _ k_ => XS.iloadN X0.here hx rfl (hb hby d3_0) rfl k_) ?_
  show Go p e below (s₁.setTop (mkF m 1 #[.val (.int (2 : Int32))] [(.int (2 : Int32))])) _
  refine Go.st (fun _ k_ => XS.ifYes X0.here hx rfl (pc0 := 1) (pc' := 8) rfl (hb hby d3_1) rfl ((if0 _ _).trans (feq (by decide : ¬ ((2 : Int32) = (0 : Int32)))).2) (by decide) (by decide) k_) ?_
  show Go p e below (s₁.setTop (mkF m 8 #[.val (.int (2 : Int32))] [])) _
  refine Go.st (fun _ k_ => XS.iloadN X0.here hx rfl (hb hby d3_8) rfl k_) ?_
  show Go p e below (s₁.setTop (mkF m 9 #[.val (.int (2 : Int32))] [(.int (2 : Int32))])) _
  refine Go.st (fun _ k_ => XS.iconst X0.here hx rfl (hb hby d3_9) k_) ?_
  show Go p e below (s₁.setTop (mkF m 10 #[.val (.int (2 : Int32))] [(.int (1 : Int32)), (.int (2 : Int32))])) _
  refine Go.st (fun _ k_ => XS.icmpYes X0.here hx rfl (pc0 := 10) (pc' := 17) rfl (hb hby d3_10) rfl (feq (by decide : ¬ ((2 : Int32) = (1 : Int32)))).2 (by decide) (by decide) k_) ?_
  show Go p e below (s₁.setTop (mkF m 17 #[.val (.int (2 : Int32))] [])) _
  refine Go.st (fun _ k_ => XS.iloadN X0.here hx rfl (hb hby d3_17) rfl k_) ?_
  show Go p e below (s₁.setTop (mkF m 18 #[.val (.int (2 : Int32))] [(.int (2 : Int32))])) _
  refine Go.st (fun _ k_ => XS.iconst X0.here hx rfl (hb hby d3_18) k_) ?_
  show Go p e below (s₁.setTop (mkF m 19 #[.val (.int (2 : Int32))] [(.int (2 : Int32)), (.int (2 : Int32))])) _
  refine Go.st (fun _ k_ => XS.icmpNo X0.here hx rfl (hb hby d3_19) rfl (teq (by decide : (2 : Int32) = (2 : Int32))).2 k_) ?_
  show Go p e below (s₁.setTop (mkF m 22 #[.val (.int (2 : Int32))] [])) _
  obtain ⟨T1, X1, e1, st1⟩ := getS2 X0 hx hZ hown (host := "") (Or.inl (hw _ (List.mem_of_getElem? (i := 29) rfl))) Via.refl e0 S_LETTER_DIGIT (g := (mkF m 22 #[.val (.int (2 : Int32))] [])) rfl (hb hby d3_22)
  refine Go.st st1 ?_
  show Go p e below (T1.setTop (mkF m 25 #[.val (.int (2 : Int32))] [(.ref w_LETTER_DIGIT)])) _
  refine Go.fin X1 (v := some (.ref w_LETTER_DIGIT)) (fun h_ => by rw [Bd.returns] at h_; cases h_) Bd.notSynchronized (fun _ hr => retOut X1 hx Bd.returns rfl (Or.inr (Or.inr (Or.inr (Or.inr ⟨rfl, rfl, rfl⟩)))) (hb hby d3_25) hr) (fun U' hU hF => ⟨_, _, rfl, ?_, hF.1, hF.2.1, hF.2.2.mono (by decide) (by decide)⟩)
  rw [hU, e1]
  exact ⟨(congrArg (fun z_ : Addr => some (Value.ref z_)) (show w_LETTER_DIGIT = w_LETTER_DIGIT from rfl)), N0, rfl⟩
theorem d3_26 : decode method_3_code 26 = .ok (.iload_n 0, 1) := by decide +kernel
theorem d3_27 : decode method_3_code 27 = .ok (.iconst 3, 1) := by decide +kernel
theorem d3_28 : decode method_3_code 28 = .ok (.if_icmp .ne 7, 3) := by decide +kernel
theorem d3_31 : decode method_3_code 31 = .ok (.getstatic 28, 3) := by decide +kernel
theorem d3_34 : decode method_3_code 34 = .ok (.areturn, 1) := by decide +kernel
theorem ef_rm3_3 (m : MethodId)  : entryFrame m #[(.int (3 : Int32))] 1 = mkF m 0 #[.val (.int (3 : Int32))] [] := by first | (simp [entryFrame, mkF, argsToLocals, Value.category]; done) | rfl
def Q_rm3_3 (Z : State) (w_LETTER_DIGIT_SPECIAL : Addr) (h0 : Heap) (n0 : Nat) (v : Option Value) (h : Heap) (L : List Loc) : Prop := v = some (.ref w_LETTER_DIGIT_SPECIAL) ∧ Fr n0 L ∧ h = h0
set_option maxRecDepth 65536 in
set_option maxHeartbeats 40000000 in
theorem rm3_3 (l : Launch) (Z : State) (a0 : Array Value) (hw : ∀ d ∈ tables_1, d.before a0 Z = true) (ws : List Jvm.Cond) (w_LETTER_DIGIT_SPECIAL : Addr) (h0 : Heap) (n0 : Nat) (Z0 : n0 ≤ h0.size) (S_LETTER_DIGIT_SPECIAL : Sta Z h0 "com/example/patuxent/patuxent/PasswordComplexity" "LETTER_DIGIT_SPECIAL" "Lcom/example/patuxent/patuxent/PasswordComplexity;" (.ref w_LETTER_DIGIT_SPECIAL)) :
    MetFree l (⟨"com/example/patuxent/patuxent/PasswordComplexityOfCodePinLaw", "expected", "(I)Lcom/example/patuxent/patuxent/PasswordComplexity;"⟩ : MethodName) (head1 (Jvm.Cond.code (⟨"com/example/patuxent/patuxent/PasswordComplexityOfCodePinLaw", "expected", "(I)Lcom/example/patuxent/patuxent/PasswordComplexity;"⟩ : MethodName) method_3_code 1 (some (.object "com/example/patuxent/patuxent/PasswordComplexity")) :: ws) ({ frames := 0, cells := 0, slots := 0, locals := 0 } : Room)) (fun a U => a = #[(.int (3 : Int32))] ∧ Z.Warmed39 U.vm ∧ U.heap = h0) (fun _ _ _ _ _ => True) (fun _ U o U' => ∃ v L, o = .returned v ∧ Q_rm3_3 Z w_LETTER_DIGIT_SPECIAL h0 n0 v U'.heap L ∧ FrameEnd U o U' L ({ frames := 0, cells := 0, slots := 0, locals := 0 } : Room).cells ({ frames := 0, cells := 0, slots := 0, locals := 0 } : Room).slots) := by
  refine MetFree.of_bodySF (plainFor_of_name pn_35) hisR ?_
  intro p e s m args below meth c s₁ Bd hml0 hP hK
  obtain ⟨rfl, hZ, hh⟩ := hP
  have hx := Bd.exec
  have hby := Bd.bytes
  have hml : c.maxLocals = 1 := hml0
  have hown : s.vm.findClass "com/example/patuxent/patuxent/PasswordComplexityOfCodePinLaw" = some m.cls := findClass_of_methodNamed Bd.named
  have hnm := (name_of_methodNamed Bd.named Bd.method).1
  have X0 : Stand p l e ({ frames := 0, cells := 0, slots := 0, locals := 0 } : Room) s m #[(.int (3 : Int32))] below meth c s₁ [] 0 0 := Stand.of_body Bd
  have e0 : s₁.heap = h0 := by rw [← hh, Bd.state]; rfl
  have N0 := Fr.nil n0
  show Go p e below (s₁.setTop (entryFrame m #[(.int (3 : Int32))] 1)) (fun o U' => ∃ v L, o = .returned v ∧ Q_rm3_3 Z w_LETTER_DIGIT_SPECIAL h0 n0 v U'.heap L ∧ FrameEnd s o U' L ({ frames := 0, cells := 0, slots := 0, locals := 0 } : Room).cells ({ frames := 0, cells := 0, slots := 0, locals := 0 } : Room).slots)
  rw [ef_rm3_3]
  show Go p e below (s₁.setTop (mkF m 0 #[.val (.int (3 : Int32))] [])) _
  refine Go.st (fun _ k_ => XS.iloadN X0.here hx rfl (hb hby d3_0) rfl k_) ?_
  show Go p e below (s₁.setTop (mkF m 1 #[.val (.int (3 : Int32))] [(.int (3 : Int32))])) _
  refine Go.st (fun _ k_ => XS.ifYes X0.here hx rfl (pc0 := 1) (pc' := 8) rfl (hb hby d3_1) rfl ((if0 _ _).trans (feq (by decide : ¬ ((3 : Int32) = (0 : Int32)))).2) (by decide) (by decide) k_) ?_
  show Go p e below (s₁.setTop (mkF m 8 #[.val (.int (3 : Int32))] [])) _
  refine Go.st (fun _ k_ => XS.iloadN X0.here hx rfl (hb hby d3_8) rfl k_) ?_
  show Go p e below (s₁.setTop (mkF m 9 #[.val (.int (3 : Int32))] [(.int (3 : Int32))])) _
  refine Go.st (fun _ k_ => XS.iconst X0.here hx rfl (hb hby d3_9) k_) ?_
  show Go p e below (s₁.setTop (mkF m 10 #[.val (.int (3 : Int32))] [(.int (1 : Int32)), (.int (3 : Int32))])) _
  refine Go.st (fun _ k_ => XS.icmpYes X0.here hx rfl (pc0 := 10) (pc' := 17) rfl (hb hby d3_10) rfl (feq (by decide : ¬ ((3 : Int32) = (1 : Int32)))).2 (by decide) (by decide) k_) ?_
  show Go p e below (s₁.setTop (mkF m 17 #[.val (.int (3 : Int32))] [])) _
  refine Go.st (fun _ k_ => XS.iloadN X0.here hx rfl (hb hby d3_17) rfl k_) ?_
  show Go p e below (s₁.setTop (mkF m 18 #[.val (.int (3 : Int32))] [(.int (3 : Int32))])) _
  refine Go.st (fun _ k_ => XS.iconst X0.here hx rfl (hb hby d3_18) k_) ?_
  show Go p e below (s₁.setTop (mkF m 19 #[.val (.int (3 : Int32))] [(.int (2 : Int32)), (.int (3 : Int32))])) _
  refine Go.st (fun _ k_ => XS.icmpYes X0.here hx rfl (pc0 := 19) (pc' := 26) rfl (hb hby d3_19) rfl (feq (by decide : ¬ ((3 : Int32) = (2 : Int32)))).2 (by decide) (by decide) k_) ?_
  show Go p e below (s₁.setTop (mkF m 26 #[.val (.int (3 : Int32))] [])) _
  refine Go.st (fun _ k_ => XS.iloadN X0.here hx rfl (hb hby d3_26) rfl k_) ?_
  show Go p e below (s₁.setTop (mkF m 27 #[.val (.int (3 : Int32))] [(.int (3 : Int32))])) _
  refine Go.st (fun _ k_ => XS.iconst X0.here hx rfl (hb hby d3_27) k_) ?_
  show Go p e below (s₁.setTop (mkF m 28 #[.val (.int (3 : Int32))] [(.int (3 : Int32)), (.int (3 : Int32))])) _
  refine Go.st (fun _ k_ => XS.icmpNo X0.here hx rfl (hb hby d3_28) rfl (teq (by decide : (3 : Int32) = (3 : Int32))).2 k_) ?_
  show Go p e below (s₁.setTop (mkF m 31 #[.val (.int (3 : Int32))] [])) _
  obtain ⟨T1, X1, e1, st1⟩ := getS2 X0 hx hZ hown (host := "") (Or.inl (hw _ (List.mem_of_getElem? (i := 30) rfl))) Via.refl e0 S_LETTER_DIGIT_SPECIAL (g := (mkF m 31 #[.val (.int (3 : Int32))] [])) rfl (hb hby d3_31)
  refine Go.st st1 ?_
  show Go p e below (T1.setTop (mkF m 34 #[.val (.int (3 : Int32))] [(.ref w_LETTER_DIGIT_SPECIAL)])) _
  refine Go.fin X1 (v := some (.ref w_LETTER_DIGIT_SPECIAL)) (fun h_ => by rw [Bd.returns] at h_; cases h_) Bd.notSynchronized (fun _ hr => retOut X1 hx Bd.returns rfl (Or.inr (Or.inr (Or.inr (Or.inr ⟨rfl, rfl, rfl⟩)))) (hb hby d3_34) hr) (fun U' hU hF => ⟨_, _, rfl, ?_, hF.1, hF.2.1, hF.2.2.mono (by decide) (by decide)⟩)
  rw [hU, e1]
  exact ⟨(congrArg (fun z_ : Addr => some (Value.ref z_)) (show w_LETTER_DIGIT_SPECIAL = w_LETTER_DIGIT_SPECIAL from rfl)), N0, rfl⟩
theorem d3_35 : decode method_3_code 35 = .ok (.aconst_null, 1) := by decide +kernel
theorem d3_36 : decode method_3_code 36 = .ok (.areturn, 1) := by decide +kernel
theorem ef_rm3_4 (m : MethodId) (p1 : Int32) : entryFrame m #[(.int p1)] 1 = mkF m 0 #[.val (.int p1)] [] := by first | (simp [entryFrame, mkF, argsToLocals, Value.category]; done) | rfl
def Q_rm3_4 (Z : State) (p1 : Int32) (h0 : Heap) (n0 : Nat) (v : Option Value) (h : Heap) (L : List Loc) : Prop := v = some .null ∧ Fr n0 L ∧ h = h0
set_option maxRecDepth 65536 in
set_option maxHeartbeats 40000000 in
theorem rm3_4 (l : Launch) (Z : State) (a0 : Array Value) (hw : ∀ d ∈ tables_1, d.before a0 Z = true) (ws : List Jvm.Cond) (p1 : Int32) (h0 : Heap) (n0 : Nat) (Z0 : n0 ≤ h0.size) (hn0 : ¬ (p1 = (0 : Int32))) (hn1 : ¬ (p1 = (1 : Int32))) (hn2 : ¬ (p1 = (2 : Int32))) (hn3 : ¬ (p1 = (3 : Int32))) :
    MetFree l (⟨"com/example/patuxent/patuxent/PasswordComplexityOfCodePinLaw", "expected", "(I)Lcom/example/patuxent/patuxent/PasswordComplexity;"⟩ : MethodName) (head1 (Jvm.Cond.code (⟨"com/example/patuxent/patuxent/PasswordComplexityOfCodePinLaw", "expected", "(I)Lcom/example/patuxent/patuxent/PasswordComplexity;"⟩ : MethodName) method_3_code 1 (some (.object "com/example/patuxent/patuxent/PasswordComplexity")) :: ws) ({ frames := 0, cells := 0, slots := 0, locals := 0 } : Room)) (fun a U => a = #[(.int p1)] ∧ Z.Warmed39 U.vm ∧ U.heap = h0) (fun _ _ _ _ _ => True) (fun _ U o U' => ∃ v L, o = .returned v ∧ Q_rm3_4 Z p1 h0 n0 v U'.heap L ∧ FrameEnd U o U' L ({ frames := 0, cells := 0, slots := 0, locals := 0 } : Room).cells ({ frames := 0, cells := 0, slots := 0, locals := 0 } : Room).slots) := by
  refine MetFree.of_bodySF (plainFor_of_name pn_35) hisR ?_
  intro p e s m args below meth c s₁ Bd hml0 hP hK
  obtain ⟨rfl, hZ, hh⟩ := hP
  have hx := Bd.exec
  have hby := Bd.bytes
  have hml : c.maxLocals = 1 := hml0
  have hown : s.vm.findClass "com/example/patuxent/patuxent/PasswordComplexityOfCodePinLaw" = some m.cls := findClass_of_methodNamed Bd.named
  have hnm := (name_of_methodNamed Bd.named Bd.method).1
  have X0 : Stand p l e ({ frames := 0, cells := 0, slots := 0, locals := 0 } : Room) s m #[(.int p1)] below meth c s₁ [] 0 0 := Stand.of_body Bd
  have e0 : s₁.heap = h0 := by rw [← hh, Bd.state]; rfl
  have N0 := Fr.nil n0
  show Go p e below (s₁.setTop (entryFrame m #[(.int p1)] 1)) (fun o U' => ∃ v L, o = .returned v ∧ Q_rm3_4 Z p1 h0 n0 v U'.heap L ∧ FrameEnd s o U' L ({ frames := 0, cells := 0, slots := 0, locals := 0 } : Room).cells ({ frames := 0, cells := 0, slots := 0, locals := 0 } : Room).slots)
  rw [ef_rm3_4]
  show Go p e below (s₁.setTop (mkF m 0 #[.val (.int p1)] [])) _
  refine Go.st (fun _ k_ => XS.iloadN X0.here hx rfl (hb hby d3_0) rfl k_) ?_
  show Go p e below (s₁.setTop (mkF m 1 #[.val (.int p1)] [(.int p1)])) _
  have hc1 : ¬ (p1 = (0 : Int32)) := hn0
  refine Go.st (fun _ k_ => XS.ifYes X0.here hx rfl (pc0 := 1) (pc' := 8) rfl (hb hby d3_1) rfl ((if0 _ _).trans (feq hc1).2) (by decide) (by decide) k_) ?_
  show Go p e below (s₁.setTop (mkF m 8 #[.val (.int p1)] [])) _
  refine Go.st (fun _ k_ => XS.iloadN X0.here hx rfl (hb hby d3_8) rfl k_) ?_
  show Go p e below (s₁.setTop (mkF m 9 #[.val (.int p1)] [(.int p1)])) _
  refine Go.st (fun _ k_ => XS.iconst X0.here hx rfl (hb hby d3_9) k_) ?_
  show Go p e below (s₁.setTop (mkF m 10 #[.val (.int p1)] [(.int (1 : Int32)), (.int p1)])) _
  have hc10 : ¬ (p1 = (1 : Int32)) := hn1
  refine Go.st (fun _ k_ => XS.icmpYes X0.here hx rfl (pc0 := 10) (pc' := 17) rfl (hb hby d3_10) rfl (feq hc10).2 (by decide) (by decide) k_) ?_
  show Go p e below (s₁.setTop (mkF m 17 #[.val (.int p1)] [])) _
  refine Go.st (fun _ k_ => XS.iloadN X0.here hx rfl (hb hby d3_17) rfl k_) ?_
  show Go p e below (s₁.setTop (mkF m 18 #[.val (.int p1)] [(.int p1)])) _
  refine Go.st (fun _ k_ => XS.iconst X0.here hx rfl (hb hby d3_18) k_) ?_
  show Go p e below (s₁.setTop (mkF m 19 #[.val (.int p1)] [(.int (2 : Int32)), (.int p1)])) _
  have hc19 : ¬ (p1 = (2 : Int32)) := hn2
  refine Go.st (fun _ k_ => XS.icmpYes X0.here hx rfl (pc0 := 19) (pc' := 26) rfl (hb hby d3_19) rfl (feq hc19).2 (by decide) (by decide) k_) ?_
  show Go p e below (s₁.setTop (mkF m 26 #[.val (.int p1)] [])) _
  refine Go.st (fun _ k_ => XS.iloadN X0.here hx rfl (hb hby d3_26) rfl k_) ?_
  show Go p e below (s₁.setTop (mkF m 27 #[.val (.int p1)] [(.int p1)])) _
  refine Go.st (fun _ k_ => XS.iconst X0.here hx rfl (hb hby d3_27) k_) ?_
  show Go p e below (s₁.setTop (mkF m 28 #[.val (.int p1)] [(.int (3 : Int32)), (.int p1)])) _
  have hc28 : ¬ (p1 = (3 : Int32)) := hn3
  refine Go.st (fun _ k_ => XS.icmpYes X0.here hx rfl (pc0 := 28) (pc' := 35) rfl (hb hby d3_28) rfl (feq hc28).2 (by decide) (by decide) k_) ?_
  show Go p e below (s₁.setTop (mkF m 35 #[.val (.int p1)] [])) _
  refine Go.st (fun _ k_ => XS.aconstNull X0.here hx rfl (hb hby d3_35) k_) ?_
  show Go p e below (s₁.setTop (mkF m 36 #[.val (.int p1)] [.null])) _
  refine Go.fin X0 (v := some .null) (fun h_ => by rw [Bd.returns] at h_; cases h_) Bd.notSynchronized (fun _ hr => retOut X0 hx Bd.returns rfl (Or.inr (Or.inr (Or.inr (Or.inr ⟨rfl, rfl, rfl⟩)))) (hb hby d3_36) hr) (fun U' hU hF => ⟨_, _, rfl, ?_, hF.1, hF.2.1, hF.2.2.mono (by decide) (by decide)⟩)
  rw [hU, e0]
  exact ⟨rfl, N0, rfl⟩
theorem own_five (x : Int32) : x = 0 ∨ x = 1 ∨ x = 2 ∨ x = 3 ∨ (¬ (x = 0) ∧ ¬ (x = 1) ∧ ¬ (x = 2) ∧ ¬ (x = 3)) := by
  by_cases h0 : x = 0
  · exact Or.inl h0
  by_cases h1 : x = 1
  · exact Or.inr (Or.inl h1)
  by_cases h2 : x = 2
  · exact Or.inr (Or.inr (Or.inl h2))
  by_cases h3 : x = 3
  · exact Or.inr (Or.inr (Or.inr (Or.inl h3)))
  exact Or.inr (Or.inr (Or.inr (Or.inr ⟨h0, h1, h2, h3⟩)))
theorem own_staKeep {Z : State} {h h' : Heap} {C n d : String} {v : Value} (F : Sta Z h C n d v) (K : Keep h h' []) : Sta Z h' C n d v := by
  obtain ⟨cf, i, k, f, st, cell, h1, h2, h3, h4, h5, r⟩ := F
  exact ⟨cf, i, k, f, st, cell, h1, h2, h3, h4, K.2.1 _ _ h5 nin0, r⟩
theorem pd_1 : parseMethodDescriptor "(I)Lcom/example/patuxent/patuxent/PasswordComplexity;" = some ⟨[.int], some (.object "com/example/patuxent/patuxent/PasswordComplexity")⟩ := by decide +kernel
theorem ef_rm0 (m : MethodId) (p1 : Int32) (p2 : Int32) : entryFrame m #[(.int p1), (.int p2)] maxLocals = mkF m 0 #[.val (.int p1), .val (.int p2), .unset, .unset, .unset] [] := by first | (simp [entryFrame, mkF, argsToLocals, Value.category, maxLocals]; done) | rfl
def Q_rm0 (Z : State) (p1 : Int32) (p2 : Int32) (kv : ClassId) (w_ANY : Addr) (w_LETTER : Addr) (w_LETTER_DIGIT : Addr) (w_LETTER_DIGIT_SPECIAL : Addr) (w__VALUES : Addr) (h0 : Heap) (n0 : Nat) (v : Option Value) (h : Heap) (L : List Loc) : Prop := v = some (.int (1 : Int32)) ∧ Fr n0 L
set_option maxRecDepth 65536 in
set_option maxHeartbeats 40000000 in
theorem rm0 (l : Launch) (Z : State) (a0 : Array Value) (hw : ∀ d ∈ tables_1, d.before a0 Z = true) (ws : List Jvm.Cond) (p1 : Int32) (p2 : Int32) (kv : ClassId) (w_ANY : Addr) (w_LETTER : Addr) (w_LETTER_DIGIT : Addr) (w_LETTER_DIGIT_SPECIAL : Addr) (w__VALUES : Addr) (h0 : Heap) (n0 : Nat) (Z0 : n0 ≤ h0.size) (S_ANY : Sta Z h0 "com/example/patuxent/patuxent/PasswordComplexity" "ANY" "Lcom/example/patuxent/patuxent/PasswordComplexity;" (.ref w_ANY)) (S_LETTER : Sta Z h0 "com/example/patuxent/patuxent/PasswordComplexity" "LETTER" "Lcom/example/patuxent/patuxent/PasswordComplexity;" (.ref w_LETTER)) (S_LETTER_DIGIT : Sta Z h0 "com/example/patuxent/patuxent/PasswordComplexity" "LETTER_DIGIT" "Lcom/example/patuxent/patuxent/PasswordComplexity;" (.ref w_LETTER_DIGIT)) (S_LETTER_DIGIT_SPECIAL : Sta Z h0 "com/example/patuxent/patuxent/PasswordComplexity" "LETTER_DIGIT_SPECIAL" "Lcom/example/patuxent/patuxent/PasswordComplexity;" (.ref w_LETTER_DIGIT_SPECIAL)) (S__VALUES : Sta Z h0 "com/example/patuxent/patuxent/PasswordComplexity" "$VALUES" "[Lcom/example/patuxent/patuxent/PasswordComplexity;" (.ref w__VALUES)) (V_vals : Arv Z h0 w__VALUES kv (.object "com/example/patuxent/patuxent/PasswordComplexity") (4 : Int32) [(.ref w_ANY), (.ref w_LETTER), (.ref w_LETTER_DIGIT), (.ref w_LETTER_DIGIT_SPECIAL)] .null) (E_vals : Exa Z h0 w__VALUES "[Lcom/example/patuxent/patuxent/PasswordComplexity;") (F_code_ANY : Fld Z h0 w_ANY "com/example/patuxent/patuxent/PasswordComplexity" "code" "I" (.int (0 : Int32))) (F_code_LETTER : Fld Z h0 w_LETTER "com/example/patuxent/patuxent/PasswordComplexity" "code" "I" (.int (1 : Int32))) (F_code_LETTER_DIGIT : Fld Z h0 w_LETTER_DIGIT "com/example/patuxent/patuxent/PasswordComplexity" "code" "I" (.int (2 : Int32))) (F_code_LETTER_DIGIT_SPECIAL : Fld Z h0 w_LETTER_DIGIT_SPECIAL "com/example/patuxent/patuxent/PasswordComplexity" "code" "I" (.int (3 : Int32))) :
    MetFree l x (head1 (Jvm.Cond.code x code maxLocals ret :: ws) room_1) (fun a U => a = #[(.int p1), (.int p2)] ∧ Z.Warmed39 U.vm ∧ U.heap = h0) (fun _ _ _ _ _ => True) (fun _ U o U' => ∃ v L, o = .returned v ∧ Q_rm0 Z p1 p2 kv w_ANY w_LETTER w_LETTER_DIGIT w_LETTER_DIGIT_SPECIAL w__VALUES h0 n0 v U'.heap L ∧ FrameEnd U o U' L room_1.cells room_1.slots) := by
  refine MetFree.of_bodySF (plainFor_of_name pn_35) hisR ?_
  intro p e s m args below meth c s₁ Bd hml0 hP hK
  obtain ⟨rfl, hZ, hh⟩ := hP
  have hx := Bd.exec
  have hby := Bd.bytes
  have hml : c.maxLocals = 5 := hml0
  have hown : s.vm.findClass "com/example/patuxent/patuxent/PasswordComplexityOfCodePinLaw" = some m.cls := findClass_of_methodNamed Bd.named
  have hnm := (name_of_methodNamed Bd.named Bd.method).1
  have X0 : Stand p l e room_1 s m #[(.int p1), (.int p2)] below meth c s₁ [] 0 0 := Stand.of_body Bd
  have e0 : s₁.heap = h0 := by rw [← hh, Bd.state]; rfl
  have N0 := Fr.nil n0
  show Go p e below (s₁.setTop (entryFrame m #[(.int p1), (.int p2)] maxLocals)) (fun o U' => ∃ v L, o = .returned v ∧ Q_rm0 Z p1 p2 kv w_ANY w_LETTER w_LETTER_DIGIT w_LETTER_DIGIT_SPECIAL w__VALUES h0 n0 v U'.heap L ∧ FrameEnd s o U' L room_1.cells room_1.slots)
  rw [ef_rm0]
  show Go p e below (s₁.setTop (mkF m 0 #[.val (.int p1), .val (.int p2), .unset, .unset, .unset] [])) _
  refine Go.st (fun _ k_ => XS.iloadN X0.here hx rfl (hb hby at_0) rfl k_) ?_
  show Go p e below (s₁.setTop (mkF m 1 #[.val (.int p1), .val (.int p2), .unset, .unset, .unset] [(.int p2)])) _
  refine Go.st (fun _ k_ => XS.iconst X0.here hx rfl (hb hby at_1) k_) ?_
  show Go p e below (s₁.setTop (mkF m 2 #[.val (.int p1), .val (.int p2), .unset, .unset, .unset] [(.int (1 : Int32)), (.int p2)])) _
  refine Go.st (fun _ k_ => XS.iand X0.here hx rfl (hb hby at_2) rfl k_) ?_
  show Go p e below (s₁.setTop (mkF m 3 #[.val (.int p1), .val (.int p2), .unset, .unset, .unset] [(.int (p2 &&& (1 : Int32)))])) _
  by_cases hc3 : (p2 &&& (1 : Int32)) = (0 : Int32)
  · refine Go.st (fun _ k_ => XS.ifYes X0.here hx rfl (pc0 := 3) (pc' := 15) rfl (hb hby at_3) rfl ((if0 _ _).trans (teq hc3).1) (by decide) (by decide) k_) ?_
    show Go p e below (s₁.setTop (mkF m 15 #[.val (.int p1), .val (.int p2), .unset, .unset, .unset] [])) _
    refine Go.st (fun _ k_ => XS.iloadN X0.here hx rfl (hb hby at_15) rfl k_) ?_
    show Go p e below (s₁.setTop (mkF m 16 #[.val (.int p1), .val (.int p2), .unset, .unset, .unset] [(.int p1)])) _
    obtain ⟨cd, ecd⟩ : ∃ z_ : Int32, z_ = p1 := ⟨_, rfl⟩
    rw [← ecd]
    show Go p e below (s₁.setTop (mkF m 16 #[.val (.int cd), .val (.int p2), .unset, .unset, .unset] [(.int cd)])) _
    refine Go.st (fun _ k_ => XS.istoreN X0.here hx rfl (hb hby at_16) rfl (l' := #[.val (.int cd), .val (.int p2), .val (.int cd), .unset, .unset]) rfl k_) ?_
    show Go p e below (s₁.setTop (mkF m 17 #[.val (.int cd), .val (.int p2), .val (.int cd), .unset, .unset] [])) _
    rcases own_five cd with hk | hk | hk | hk | hk
    · rw [hk]
      show Go p e below (s₁.setTop (mkF m 17 #[.val (.int (0 : Int32)), .val (.int p2), .val (.int (0 : Int32)), .unset, .unset] [])) _
      refine Go.st (fun _ k_ => XS.iloadN X0.here hx rfl (hb hby at_17) rfl k_) ?_
      show Go p e below (s₁.setTop (mkF m 18 #[.val (.int (0 : Int32)), .val (.int p2), .val (.int (0 : Int32)), .unset, .unset] [(.int (0 : Int32))])) _
      obtain ⟨_, _, ⟨T1, L1, k1_, n1_⟩, -, X1, ⟨Lc1, hQ1, l1_, y1_, z1_⟩, st1⟩ := Jvm.LawKit.callS X0 hx (y := (⟨"com/example/patuxent/patuxent/PasswordComplexity", "ofCode", "(I)Lcom/example/patuxent/patuxent/PasswordComplexity;"⟩ : MethodName)) hown (mvT hZ (hw _ (List.mem_of_getElem? (i := 0) rfl))) (mvT hZ (hw _ (List.mem_of_getElem? (i := 1) rfl))) (mvT hZ (hw _ (List.mem_of_getElem? (i := 2) rfl))) (mvT hZ (hw _ (List.mem_of_getElem? (i := 3) rfl))) (by decide) (backOf (W := 0) (rm1_0 l Z a0 hw [] w_ANY w_LETTER w_LETTER_DIGIT w_LETTER_DIGIT_SPECIAL kv w__VALUES h0 n0 Z0 S__VALUES V_vals E_vals F_code_ANY F_code_LETTER F_code_LETTER_DIGIT F_code_LETTER_DIGIT_SPECIAL) hZ (hw _ (List.mem_of_getElem? (i := 3) rfl)) (hw _ (List.mem_of_getElem? (i := 2) rfl)) (by decide) (by decide)) (g := (mkF m 18 #[.val (.int (0 : Int32)), .val (.int p2), .val (.int (0 : Int32)), .unset, .unset] [(.int (0 : Int32))])) rfl (by rw [hml]; rfl) (argsL := [(.int (0 : Int32))]) (rest := []) (lenOf pd_1 rfl) rfl (by show 2 * 0 + _ ≤ _; exact Nat.le_of_eq rfl) (hb hby at_18) (fun _ _ => ⟨rfl, e0, (by decide : 0 + 1 ≤ _), (by decide : 0 + 4 ≤ _)⟩)
      dsimp only [Pt.U, Pt.locs, Pt.cells, Pt.slots] at X1 l1_ y1_ z1_ st1 hQ1
      subst l1_ y1_ z1_
      obtain ⟨rfl, N1q, K1⟩ := hQ1
      have N1 := Fr.app N0 N1q
      refine Go.st st1 ?_
      show Go p e below (T1.setTop (mkF m 21 #[.val (.int (0 : Int32)), .val (.int p2), .val (.int (0 : Int32)), .unset, .unset] [(.ref w_ANY)])) _
      refine Go.st (fun _ k_ => XS.astoreN X1.here hx rfl (hb hby at_21) rfl rfl (l' := #[.val (.int (0 : Int32)), .val (.int p2), .val (.int (0 : Int32)), .val (.ref w_ANY), .unset]) rfl k_) ?_
      show Go p e below (T1.setTop (mkF m 22 #[.val (.int (0 : Int32)), .val (.int p2), .val (.int (0 : Int32)), .val (.ref w_ANY), .unset] [])) _
      refine Go.st (fun _ k_ => XS.iloadN X1.here hx rfl (hb hby at_22) rfl k_) ?_
      show Go p e below (T1.setTop (mkF m 23 #[.val (.int (0 : Int32)), .val (.int p2), .val (.int (0 : Int32)), .val (.ref w_ANY), .unset] [(.int (0 : Int32))])) _
      have H3 := (own_staKeep S_ANY K1)
      obtain ⟨_, _, ⟨T2, L2, k2_, n2_⟩, -, X2, ⟨Lc2, hQ2, l2_, y2_, z2_⟩, st2⟩ := Jvm.LawKit.callS X1 hx (y := (⟨"com/example/patuxent/patuxent/PasswordComplexityOfCodePinLaw", "expected", "(I)Lcom/example/patuxent/patuxent/PasswordComplexity;"⟩ : MethodName)) hown (mvT hZ (hw _ (List.mem_of_getElem? (i := 25) rfl))) (mvT hZ (hw _ (List.mem_of_getElem? (i := 26) rfl))) (mvT hZ (hw _ (List.mem_of_getElem? (i := 27) rfl))) (mvT hZ (hw _ (List.mem_of_getElem? (i := 28) rfl))) (by decide) (backOf (W := 0) (rm3_0 l Z a0 hw [] w_ANY T1.heap n0 (Nat.le_trans Z0 K1.1) H3) hZ (hw _ (List.mem_of_getElem? (i := 28) rfl)) (hw _ (List.mem_of_getElem? (i := 27) rfl)) (by decide) (by decide)) (g := (mkF m 23 #[.val (.int (0 : Int32)), .val (.int p2), .val (.int (0 : Int32)), .val (.ref w_ANY), .unset] [(.int (0 : Int32))])) rfl (by rw [hml]; rfl) (argsL := [(.int (0 : Int32))]) (rest := []) (lenOf pd_1 rfl) rfl (by show 2 * 0 + _ ≤ _; exact Nat.le_of_eq rfl) (hb hby at_23) (fun _ _ => ⟨rfl, rfl, (by decide : 1 + 0 ≤ _), (by decide : 4 + 0 ≤ _)⟩)
      dsimp only [Pt.U, Pt.locs, Pt.cells, Pt.slots] at X2 l2_ y2_ z2_ st2 hQ2
      subst l2_ y2_ z2_
      obtain ⟨rfl, N2q, e2⟩ := hQ2
      have N2 := Fr.app N1 N2q
      refine Go.st st2 ?_
      show Go p e below (T2.setTop (mkF m 26 #[.val (.int (0 : Int32)), .val (.int p2), .val (.int (0 : Int32)), .val (.ref w_ANY), .unset] [(.ref w_ANY)])) _
      refine Go.st (fun _ k_ => XS.astore X2.here hx rfl (hb hby at_26) rfl rfl (l' := #[.val (.int (0 : Int32)), .val (.int p2), .val (.int (0 : Int32)), .val (.ref w_ANY), .val (.ref w_ANY)]) rfl k_) ?_
      show Go p e below (T2.setTop (mkF m 28 #[.val (.int (0 : Int32)), .val (.int p2), .val (.int (0 : Int32)), .val (.ref w_ANY), .val (.ref w_ANY)] [])) _
      refine Go.st (fun _ k_ => XS.aloadN X2.here hx rfl (hb hby at_28) rfl rfl k_) ?_
      show Go p e below (T2.setTop (mkF m 29 #[.val (.int (0 : Int32)), .val (.int p2), .val (.int (0 : Int32)), .val (.ref w_ANY), .val (.ref w_ANY)] [(.ref w_ANY)])) _
      refine Go.st (fun _ k_ => XS.aload X2.here hx rfl (hb hby at_29) rfl rfl k_) ?_
      show Go p e below (T2.setTop (mkF m 31 #[.val (.int (0 : Int32)), .val (.int p2), .val (.int (0 : Int32)), .val (.ref w_ANY), .val (.ref w_ANY)] [(.ref w_ANY), (.ref w_ANY)])) _
      refine Go.st (fun _ k_ => Jvm.RoadKit.acmp (g := (mkF m 31 #[.val (.int (0 : Int32)), .val (.int p2), .val (.int (0 : Int32)), .val (.ref w_ANY), .val (.ref w_ANY)] [(.ref w_ANY), (.ref w_ANY)])) X2 hx rfl rfl rfl (pc0 := 31) (pc' := 34) (same := true) rfl (hb hby at_31) rfl (decide_eq_true rfl) (by decide) (by decide) k_) ?_
      show Go p e below (T2.setTop (mkF m 34 #[.val (.int (0 : Int32)), .val (.int p2), .val (.int (0 : Int32)), .val (.ref w_ANY), .val (.ref w_ANY)] [])) _
      refine Go.st (fun _ k_ => XS.iconst X2.here hx rfl (hb hby at_34) k_) ?_
      show Go p e below (T2.setTop (mkF m 35 #[.val (.int (0 : Int32)), .val (.int p2), .val (.int (0 : Int32)), .val (.ref w_ANY), .val (.ref w_ANY)] [(.int (1 : Int32))])) _
      refine Go.st (fun _ k_ => XS.goto X2.here hx rfl (pc0 := 35) (pc' := 39) rfl (hb hby at_35) (by decide) (by decide) k_) ?_
      show Go p e below (T2.setTop (mkF m 39 #[.val (.int (0 : Int32)), .val (.int p2), .val (.int (0 : Int32)), .val (.ref w_ANY), .val (.ref w_ANY)] [(.int (1 : Int32))])) _
      refine Go.fin X2 (v := some (.int (1 : Int32))) (fun h_ => by rw [Bd.returns] at h_; cases h_) Bd.notSynchronized (fun _ hr => retN X2 hx (t := .boolean) Bd.returns (by simp) (hb hby at_39) hr) (fun U' hU hF => ⟨_, _, rfl, ?_, hF.1, hF.2.1, hF.2.2.mono (by decide) (by decide)⟩)
      exact ⟨(congrArg (fun z_ : Int32 => some (Value.int z_)) (show (1 : Int32) = (1 : Int32) from rfl)), N2⟩
    · rw [hk]
      show Go p e below (s₁.setTop (mkF m 17 #[.val (.int (1 : Int32)), .val (.int p2), .val (.int (1 : Int32)), .unset, .unset] [])) _
      refine Go.st (fun _ k_ => XS.iloadN X0.here hx rfl (hb hby at_17) rfl k_) ?_
      show Go p e below (s₁.setTop (mkF m 18 #[.val (.int (1 : Int32)), .val (.int p2), .val (.int (1 : Int32)), .unset, .unset] [(.int (1 : Int32))])) _
      obtain ⟨_, _, ⟨T4, L4, k4_, n4_⟩, -, X4, ⟨Lc4, hQ4, l4_, y4_, z4_⟩, st4⟩ := Jvm.LawKit.callS X0 hx (y := (⟨"com/example/patuxent/patuxent/PasswordComplexity", "ofCode", "(I)Lcom/example/patuxent/patuxent/PasswordComplexity;"⟩ : MethodName)) hown (mvT hZ (hw _ (List.mem_of_getElem? (i := 0) rfl))) (mvT hZ (hw _ (List.mem_of_getElem? (i := 1) rfl))) (mvT hZ (hw _ (List.mem_of_getElem? (i := 2) rfl))) (mvT hZ (hw _ (List.mem_of_getElem? (i := 3) rfl))) (by decide) (backOf (W := 0) (rm1_1 l Z a0 hw [] w_ANY w_LETTER w_LETTER_DIGIT w_LETTER_DIGIT_SPECIAL kv w__VALUES h0 n0 Z0 S__VALUES V_vals E_vals F_code_ANY F_code_LETTER F_code_LETTER_DIGIT F_code_LETTER_DIGIT_SPECIAL) hZ (hw _ (List.mem_of_getElem? (i := 3) rfl)) (hw _ (List.mem_of_getElem? (i := 2) rfl)) (by decide) (by decide)) (g := (mkF m 18 #[.val (.int (1 : Int32)), .val (.int p2), .val (.int (1 : Int32)), .unset, .unset] [(.int (1 : Int32))])) rfl (by rw [hml]; rfl) (argsL := [(.int (1 : Int32))]) (rest := []) (lenOf pd_1 rfl) rfl (by show 2 * 0 + _ ≤ _; exact Nat.le_of_eq rfl) (hb hby at_18) (fun _ _ => ⟨rfl, e0, (by decide : 0 + 1 ≤ _), (by decide : 0 + 4 ≤ _)⟩)
      dsimp only [Pt.U, Pt.locs, Pt.cells, Pt.slots] at X4 l4_ y4_ z4_ st4 hQ4
      subst l4_ y4_ z4_
      obtain ⟨rfl, N4q, K4⟩ := hQ4
      have N4 := Fr.app N0 N4q
      refine Go.st st4 ?_
      show Go p e below (T4.setTop (mkF m 21 #[.val (.int (1 : Int32)), .val (.int p2), .val (.int (1 : Int32)), .unset, .unset] [(.ref w_LETTER)])) _
      refine Go.st (fun _ k_ => XS.astoreN X4.here hx rfl (hb hby at_21) rfl rfl (l' := #[.val (.int (1 : Int32)), .val (.int p2), .val (.int (1 : Int32)), .val (.ref w_LETTER), .unset]) rfl k_) ?_
      show Go p e below (T4.setTop (mkF m 22 #[.val (.int (1 : Int32)), .val (.int p2), .val (.int (1 : Int32)), .val (.ref w_LETTER), .unset] [])) _
      refine Go.st (fun _ k_ => XS.iloadN X4.here hx rfl (hb hby at_22) rfl k_) ?_
      show Go p e below (T4.setTop (mkF m 23 #[.val (.int (1 : Int32)), .val (.int p2), .val (.int (1 : Int32)), .val (.ref w_LETTER), .unset] [(.int (1 : Int32))])) _
      have H6 := (own_staKeep S_LETTER K4)
      obtain ⟨_, _, ⟨T5, L5, k5_, n5_⟩, -, X5, ⟨Lc5, hQ5, l5_, y5_, z5_⟩, st5⟩ := Jvm.LawKit.callS X4 hx (y := (⟨"com/example/patuxent/patuxent/PasswordComplexityOfCodePinLaw", "expected", "(I)Lcom/example/patuxent/patuxent/PasswordComplexity;"⟩ : MethodName)) hown (mvT hZ (hw _ (List.mem_of_getElem? (i := 25) rfl))) (mvT hZ (hw _ (List.mem_of_getElem? (i := 26) rfl))) (mvT hZ (hw _ (List.mem_of_getElem? (i := 27) rfl))) (mvT hZ (hw _ (List.mem_of_getElem? (i := 28) rfl))) (by decide) (backOf (W := 0) (rm3_1 l Z a0 hw [] w_LETTER T4.heap n0 (Nat.le_trans Z0 K4.1) H6) hZ (hw _ (List.mem_of_getElem? (i := 28) rfl)) (hw _ (List.mem_of_getElem? (i := 27) rfl)) (by decide) (by decide)) (g := (mkF m 23 #[.val (.int (1 : Int32)), .val (.int p2), .val (.int (1 : Int32)), .val (.ref w_LETTER), .unset] [(.int (1 : Int32))])) rfl (by rw [hml]; rfl) (argsL := [(.int (1 : Int32))]) (rest := []) (lenOf pd_1 rfl) rfl (by show 2 * 0 + _ ≤ _; exact Nat.le_of_eq rfl) (hb hby at_23) (fun _ _ => ⟨rfl, rfl, (by decide : 1 + 0 ≤ _), (by decide : 4 + 0 ≤ _)⟩)
      dsimp only [Pt.U, Pt.locs, Pt.cells, Pt.slots] at X5 l5_ y5_ z5_ st5 hQ5
      subst l5_ y5_ z5_
      obtain ⟨rfl, N5q, e5⟩ := hQ5
      have N5 := Fr.app N4 N5q
      refine Go.st st5 ?_
      show Go p e below (T5.setTop (mkF m 26 #[.val (.int (1 : Int32)), .val (.int p2), .val (.int (1 : Int32)), .val (.ref w_LETTER), .unset] [(.ref w_LETTER)])) _
      refine Go.st (fun _ k_ => XS.astore X5.here hx rfl (hb hby at_26) rfl rfl (l' := #[.val (.int (1 : Int32)), .val (.int p2), .val (.int (1 : Int32)), .val (.ref w_LETTER), .val (.ref w_LETTER)]) rfl k_) ?_
      show Go p e below (T5.setTop (mkF m 28 #[.val (.int (1 : Int32)), .val (.int p2), .val (.int (1 : Int32)), .val (.ref w_LETTER), .val (.ref w_LETTER)] [])) _
      refine Go.st (fun _ k_ => XS.aloadN X5.here hx rfl (hb hby at_28) rfl rfl k_) ?_
      show Go p e below (T5.setTop (mkF m 29 #[.val (.int (1 : Int32)), .val (.int p2), .val (.int (1 : Int32)), .val (.ref w_LETTER), .val (.ref w_LETTER)] [(.ref w_LETTER)])) _
      refine Go.st (fun _ k_ => XS.aload X5.here hx rfl (hb hby at_29) rfl rfl k_) ?_
      show Go p e below (T5.setTop (mkF m 31 #[.val (.int (1 : Int32)), .val (.int p2), .val (.int (1 : Int32)), .val (.ref w_LETTER), .val (.ref w_LETTER)] [(.ref w_LETTER), (.ref w_LETTER)])) _
      refine Go.st (fun _ k_ => Jvm.RoadKit.acmp (g := (mkF m 31 #[.val (.int (1 : Int32)), .val (.int p2), .val (.int (1 : Int32)), .val (.ref w_LETTER), .val (.ref w_LETTER)] [(.ref w_LETTER), (.ref w_LETTER)])) X5 hx rfl rfl rfl (pc0 := 31) (pc' := 34) (same := true) rfl (hb hby at_31) rfl (decide_eq_true rfl) (by decide) (by decide) k_) ?_
      show Go p e below (T5.setTop (mkF m 34 #[.val (.int (1 : Int32)), .val (.int p2), .val (.int (1 : Int32)), .val (.ref w_LETTER), .val (.ref w_LETTER)] [])) _
      refine Go.st (fun _ k_ => XS.iconst X5.here hx rfl (hb hby at_34) k_) ?_
      show Go p e below (T5.setTop (mkF m 35 #[.val (.int (1 : Int32)), .val (.int p2), .val (.int (1 : Int32)), .val (.ref w_LETTER), .val (.ref w_LETTER)] [(.int (1 : Int32))])) _
      refine Go.st (fun _ k_ => XS.goto X5.here hx rfl (pc0 := 35) (pc' := 39) rfl (hb hby at_35) (by decide) (by decide) k_) ?_
      show Go p e below (T5.setTop (mkF m 39 #[.val (.int (1 : Int32)), .val (.int p2), .val (.int (1 : Int32)), .val (.ref w_LETTER), .val (.ref w_LETTER)] [(.int (1 : Int32))])) _
      refine Go.fin X5 (v := some (.int (1 : Int32))) (fun h_ => by rw [Bd.returns] at h_; cases h_) Bd.notSynchronized (fun _ hr => retN X5 hx (t := .boolean) Bd.returns (by simp) (hb hby at_39) hr) (fun U' hU hF => ⟨_, _, rfl, ?_, hF.1, hF.2.1, hF.2.2.mono (by decide) (by decide)⟩)
      exact ⟨(congrArg (fun z_ : Int32 => some (Value.int z_)) (show (1 : Int32) = (1 : Int32) from rfl)), N5⟩
    · rw [hk]
      show Go p e below (s₁.setTop (mkF m 17 #[.val (.int (2 : Int32)), .val (.int p2), .val (.int (2 : Int32)), .unset, .unset] [])) _
      refine Go.st (fun _ k_ => XS.iloadN X0.here hx rfl (hb hby at_17) rfl k_) ?_
      show Go p e below (s₁.setTop (mkF m 18 #[.val (.int (2 : Int32)), .val (.int p2), .val (.int (2 : Int32)), .unset, .unset] [(.int (2 : Int32))])) _
      obtain ⟨_, _, ⟨T7, L7, k7_, n7_⟩, -, X7, ⟨Lc7, hQ7, l7_, y7_, z7_⟩, st7⟩ := Jvm.LawKit.callS X0 hx (y := (⟨"com/example/patuxent/patuxent/PasswordComplexity", "ofCode", "(I)Lcom/example/patuxent/patuxent/PasswordComplexity;"⟩ : MethodName)) hown (mvT hZ (hw _ (List.mem_of_getElem? (i := 0) rfl))) (mvT hZ (hw _ (List.mem_of_getElem? (i := 1) rfl))) (mvT hZ (hw _ (List.mem_of_getElem? (i := 2) rfl))) (mvT hZ (hw _ (List.mem_of_getElem? (i := 3) rfl))) (by decide) (backOf (W := 0) (rm1_2 l Z a0 hw [] w_ANY w_LETTER w_LETTER_DIGIT w_LETTER_DIGIT_SPECIAL kv w__VALUES h0 n0 Z0 S__VALUES V_vals E_vals F_code_ANY F_code_LETTER F_code_LETTER_DIGIT F_code_LETTER_DIGIT_SPECIAL) hZ (hw _ (List.mem_of_getElem? (i := 3) rfl)) (hw _ (List.mem_of_getElem? (i := 2) rfl)) (by decide) (by decide)) (g := (mkF m 18 #[.val (.int (2 : Int32)), .val (.int p2), .val (.int (2 : Int32)), .unset, .unset] [(.int (2 : Int32))])) rfl (by rw [hml]; rfl) (argsL := [(.int (2 : Int32))]) (rest := []) (lenOf pd_1 rfl) rfl (by show 2 * 0 + _ ≤ _; exact Nat.le_of_eq rfl) (hb hby at_18) (fun _ _ => ⟨rfl, e0, (by decide : 0 + 1 ≤ _), (by decide : 0 + 4 ≤ _)⟩)
      dsimp only [Pt.U, Pt.locs, Pt.cells, Pt.slots] at X7 l7_ y7_ z7_ st7 hQ7
      subst l7_ y7_ z7_
      obtain ⟨rfl, N7q, K7⟩ := hQ7
      have N7 := Fr.app N0 N7q
      refine Go.st st7 ?_
      show Go p e below (T7.setTop (mkF m 21 #[.val (.int (2 : Int32)), .val (.int p2), .val (.int (2 : Int32)), .unset, .unset] [(.ref w_LETTER_DIGIT)])) _
      refine Go.st (fun _ k_ => XS.astoreN X7.here hx rfl (hb hby at_21) rfl rfl (l' := #[.val (.int (2 : Int32)), .val (.int p2), .val (.int (2 : Int32)), .val (.ref w_LETTER_DIGIT), .unset]) rfl k_) ?_
      show Go p e below (T7.setTop (mkF m 22 #[.val (.int (2 : Int32)), .val (.int p2), .val (.int (2 : Int32)), .val (.ref w_LETTER_DIGIT), .unset] [])) _
      refine Go.st (fun _ k_ => XS.iloadN X7.here hx rfl (hb hby at_22) rfl k_) ?_
      show Go p e below (T7.setTop (mkF m 23 #[.val (.int (2 : Int32)), .val (.int p2), .val (.int (2 : Int32)), .val (.ref w_LETTER_DIGIT), .unset] [(.int (2 : Int32))])) _
      have H9 := (own_staKeep S_LETTER_DIGIT K7)
      obtain ⟨_, _, ⟨T8, L8, k8_, n8_⟩, -, X8, ⟨Lc8, hQ8, l8_, y8_, z8_⟩, st8⟩ := Jvm.LawKit.callS X7 hx (y := (⟨"com/example/patuxent/patuxent/PasswordComplexityOfCodePinLaw", "expected", "(I)Lcom/example/patuxent/patuxent/PasswordComplexity;"⟩ : MethodName)) hown (mvT hZ (hw _ (List.mem_of_getElem? (i := 25) rfl))) (mvT hZ (hw _ (List.mem_of_getElem? (i := 26) rfl))) (mvT hZ (hw _ (List.mem_of_getElem? (i := 27) rfl))) (mvT hZ (hw _ (List.mem_of_getElem? (i := 28) rfl))) (by decide) (backOf (W := 0) (rm3_2 l Z a0 hw [] w_LETTER_DIGIT T7.heap n0 (Nat.le_trans Z0 K7.1) H9) hZ (hw _ (List.mem_of_getElem? (i := 28) rfl)) (hw _ (List.mem_of_getElem? (i := 27) rfl)) (by decide) (by decide)) (g := (mkF m 23 #[.val (.int (2 : Int32)), .val (.int p2), .val (.int (2 : Int32)), .val (.ref w_LETTER_DIGIT), .unset] [(.int (2 : Int32))])) rfl (by rw [hml]; rfl) (argsL := [(.int (2 : Int32))]) (rest := []) (lenOf pd_1 rfl) rfl (by show 2 * 0 + _ ≤ _; exact Nat.le_of_eq rfl) (hb hby at_23) (fun _ _ => ⟨rfl, rfl, (by decide : 1 + 0 ≤ _), (by decide : 4 + 0 ≤ _)⟩)
      dsimp only [Pt.U, Pt.locs, Pt.cells, Pt.slots] at X8 l8_ y8_ z8_ st8 hQ8
      subst l8_ y8_ z8_
      obtain ⟨rfl, N8q, e8⟩ := hQ8
      have N8 := Fr.app N7 N8q
      refine Go.st st8 ?_
      show Go p e below (T8.setTop (mkF m 26 #[.val (.int (2 : Int32)), .val (.int p2), .val (.int (2 : Int32)), .val (.ref w_LETTER_DIGIT), .unset] [(.ref w_LETTER_DIGIT)])) _
      refine Go.st (fun _ k_ => XS.astore X8.here hx rfl (hb hby at_26) rfl rfl (l' := #[.val (.int (2 : Int32)), .val (.int p2), .val (.int (2 : Int32)), .val (.ref w_LETTER_DIGIT), .val (.ref w_LETTER_DIGIT)]) rfl k_) ?_
      show Go p e below (T8.setTop (mkF m 28 #[.val (.int (2 : Int32)), .val (.int p2), .val (.int (2 : Int32)), .val (.ref w_LETTER_DIGIT), .val (.ref w_LETTER_DIGIT)] [])) _
      refine Go.st (fun _ k_ => XS.aloadN X8.here hx rfl (hb hby at_28) rfl rfl k_) ?_
      show Go p e below (T8.setTop (mkF m 29 #[.val (.int (2 : Int32)), .val (.int p2), .val (.int (2 : Int32)), .val (.ref w_LETTER_DIGIT), .val (.ref w_LETTER_DIGIT)] [(.ref w_LETTER_DIGIT)])) _
      refine Go.st (fun _ k_ => XS.aload X8.here hx rfl (hb hby at_29) rfl rfl k_) ?_
      show Go p e below (T8.setTop (mkF m 31 #[.val (.int (2 : Int32)), .val (.int p2), .val (.int (2 : Int32)), .val (.ref w_LETTER_DIGIT), .val (.ref w_LETTER_DIGIT)] [(.ref w_LETTER_DIGIT), (.ref w_LETTER_DIGIT)])) _
      refine Go.st (fun _ k_ => Jvm.RoadKit.acmp (g := (mkF m 31 #[.val (.int (2 : Int32)), .val (.int p2), .val (.int (2 : Int32)), .val (.ref w_LETTER_DIGIT), .val (.ref w_LETTER_DIGIT)] [(.ref w_LETTER_DIGIT), (.ref w_LETTER_DIGIT)])) X8 hx rfl rfl rfl (pc0 := 31) (pc' := 34) (same := true) rfl (hb hby at_31) rfl (decide_eq_true rfl) (by decide) (by decide) k_) ?_
      show Go p e below (T8.setTop (mkF m 34 #[.val (.int (2 : Int32)), .val (.int p2), .val (.int (2 : Int32)), .val (.ref w_LETTER_DIGIT), .val (.ref w_LETTER_DIGIT)] [])) _
      refine Go.st (fun _ k_ => XS.iconst X8.here hx rfl (hb hby at_34) k_) ?_
      show Go p e below (T8.setTop (mkF m 35 #[.val (.int (2 : Int32)), .val (.int p2), .val (.int (2 : Int32)), .val (.ref w_LETTER_DIGIT), .val (.ref w_LETTER_DIGIT)] [(.int (1 : Int32))])) _
      refine Go.st (fun _ k_ => XS.goto X8.here hx rfl (pc0 := 35) (pc' := 39) rfl (hb hby at_35) (by decide) (by decide) k_) ?_
      show Go p e below (T8.setTop (mkF m 39 #[.val (.int (2 : Int32)), .val (.int p2), .val (.int (2 : Int32)), .val (.ref w_LETTER_DIGIT), .val (.ref w_LETTER_DIGIT)] [(.int (1 : Int32))])) _
      refine Go.fin X8 (v := some (.int (1 : Int32))) (fun h_ => by rw [Bd.returns] at h_; cases h_) Bd.notSynchronized (fun _ hr => retN X8 hx (t := .boolean) Bd.returns (by simp) (hb hby at_39) hr) (fun U' hU hF => ⟨_, _, rfl, ?_, hF.1, hF.2.1, hF.2.2.mono (by decide) (by decide)⟩)
      exact ⟨(congrArg (fun z_ : Int32 => some (Value.int z_)) (show (1 : Int32) = (1 : Int32) from rfl)), N8⟩
    · rw [hk]
      show Go p e below (s₁.setTop (mkF m 17 #[.val (.int (3 : Int32)), .val (.int p2), .val (.int (3 : Int32)), .unset, .unset] [])) _
      refine Go.st (fun _ k_ => XS.iloadN X0.here hx rfl (hb hby at_17) rfl k_) ?_
      show Go p e below (s₁.setTop (mkF m 18 #[.val (.int (3 : Int32)), .val (.int p2), .val (.int (3 : Int32)), .unset, .unset] [(.int (3 : Int32))])) _
      obtain ⟨_, _, ⟨T10, L10, k10_, n10_⟩, -, X10, ⟨Lc10, hQ10, l10_, y10_, z10_⟩, st10⟩ := Jvm.LawKit.callS X0 hx (y := (⟨"com/example/patuxent/patuxent/PasswordComplexity", "ofCode", "(I)Lcom/example/patuxent/patuxent/PasswordComplexity;"⟩ : MethodName)) hown (mvT hZ (hw _ (List.mem_of_getElem? (i := 0) rfl))) (mvT hZ (hw _ (List.mem_of_getElem? (i := 1) rfl))) (mvT hZ (hw _ (List.mem_of_getElem? (i := 2) rfl))) (mvT hZ (hw _ (List.mem_of_getElem? (i := 3) rfl))) (by decide) (backOf (W := 0) (rm1_3 l Z a0 hw [] w_ANY w_LETTER w_LETTER_DIGIT w_LETTER_DIGIT_SPECIAL kv w__VALUES h0 n0 Z0 S__VALUES V_vals E_vals F_code_ANY F_code_LETTER F_code_LETTER_DIGIT F_code_LETTER_DIGIT_SPECIAL) hZ (hw _ (List.mem_of_getElem? (i := 3) rfl)) (hw _ (List.mem_of_getElem? (i := 2) rfl)) (by decide) (by decide)) (g := (mkF m 18 #[.val (.int (3 : Int32)), .val (.int p2), .val (.int (3 : Int32)), .unset, .unset] [(.int (3 : Int32))])) rfl (by rw [hml]; rfl) (argsL := [(.int (3 : Int32))]) (rest := []) (lenOf pd_1 rfl) rfl (by show 2 * 0 + _ ≤ _; exact Nat.le_of_eq rfl) (hb hby at_18) (fun _ _ => ⟨rfl, e0, (by decide : 0 + 1 ≤ _), (by decide : 0 + 4 ≤ _)⟩)
      dsimp only [Pt.U, Pt.locs, Pt.cells, Pt.slots] at X10 l10_ y10_ z10_ st10 hQ10
      subst l10_ y10_ z10_
      obtain ⟨rfl, N10q, K10⟩ := hQ10
      have N10 := Fr.app N0 N10q
      refine Go.st st10 ?_
      show Go p e below (T10.setTop (mkF m 21 #[.val (.int (3 : Int32)), .val (.int p2), .val (.int (3 : Int32)), .unset, .unset] [(.ref w_LETTER_DIGIT_SPECIAL)])) _
      refine Go.st (fun _ k_ => XS.astoreN X10.here hx rfl (hb hby at_21) rfl rfl (l' := #[.val (.int (3 : Int32)), .val (.int p2), .val (.int (3 : Int32)), .val (.ref w_LETTER_DIGIT_SPECIAL), .unset]) rfl k_) ?_
      show Go p e below (T10.setTop (mkF m 22 #[.val (.int (3 : Int32)), .val (.int p2), .val (.int (3 : Int32)), .val (.ref w_LETTER_DIGIT_SPECIAL), .unset] [])) _
      refine Go.st (fun _ k_ => XS.iloadN X10.here hx rfl (hb hby at_22) rfl k_) ?_
      show Go p e below (T10.setTop (mkF m 23 #[.val (.int (3 : Int32)), .val (.int p2), .val (.int (3 : Int32)), .val (.ref w_LETTER_DIGIT_SPECIAL), .unset] [(.int (3 : Int32))])) _
      have H12 := (own_staKeep S_LETTER_DIGIT_SPECIAL K10)
      obtain ⟨_, _, ⟨T11, L11, k11_, n11_⟩, -, X11, ⟨Lc11, hQ11, l11_, y11_, z11_⟩, st11⟩ := Jvm.LawKit.callS X10 hx (y := (⟨"com/example/patuxent/patuxent/PasswordComplexityOfCodePinLaw", "expected", "(I)Lcom/example/patuxent/patuxent/PasswordComplexity;"⟩ : MethodName)) hown (mvT hZ (hw _ (List.mem_of_getElem? (i := 25) rfl))) (mvT hZ (hw _ (List.mem_of_getElem? (i := 26) rfl))) (mvT hZ (hw _ (List.mem_of_getElem? (i := 27) rfl))) (mvT hZ (hw _ (List.mem_of_getElem? (i := 28) rfl))) (by decide) (backOf (W := 0) (rm3_3 l Z a0 hw [] w_LETTER_DIGIT_SPECIAL T10.heap n0 (Nat.le_trans Z0 K10.1) H12) hZ (hw _ (List.mem_of_getElem? (i := 28) rfl)) (hw _ (List.mem_of_getElem? (i := 27) rfl)) (by decide) (by decide)) (g := (mkF m 23 #[.val (.int (3 : Int32)), .val (.int p2), .val (.int (3 : Int32)), .val (.ref w_LETTER_DIGIT_SPECIAL), .unset] [(.int (3 : Int32))])) rfl (by rw [hml]; rfl) (argsL := [(.int (3 : Int32))]) (rest := []) (lenOf pd_1 rfl) rfl (by show 2 * 0 + _ ≤ _; exact Nat.le_of_eq rfl) (hb hby at_23) (fun _ _ => ⟨rfl, rfl, (by decide : 1 + 0 ≤ _), (by decide : 4 + 0 ≤ _)⟩)
      dsimp only [Pt.U, Pt.locs, Pt.cells, Pt.slots] at X11 l11_ y11_ z11_ st11 hQ11
      subst l11_ y11_ z11_
      obtain ⟨rfl, N11q, e11⟩ := hQ11
      have N11 := Fr.app N10 N11q
      refine Go.st st11 ?_
      show Go p e below (T11.setTop (mkF m 26 #[.val (.int (3 : Int32)), .val (.int p2), .val (.int (3 : Int32)), .val (.ref w_LETTER_DIGIT_SPECIAL), .unset] [(.ref w_LETTER_DIGIT_SPECIAL)])) _
      refine Go.st (fun _ k_ => XS.astore X11.here hx rfl (hb hby at_26) rfl rfl (l' := #[.val (.int (3 : Int32)), .val (.int p2), .val (.int (3 : Int32)), .val (.ref w_LETTER_DIGIT_SPECIAL), .val (.ref w_LETTER_DIGIT_SPECIAL)]) rfl k_) ?_
      show Go p e below (T11.setTop (mkF m 28 #[.val (.int (3 : Int32)), .val (.int p2), .val (.int (3 : Int32)), .val (.ref w_LETTER_DIGIT_SPECIAL), .val (.ref w_LETTER_DIGIT_SPECIAL)] [])) _
      refine Go.st (fun _ k_ => XS.aloadN X11.here hx rfl (hb hby at_28) rfl rfl k_) ?_
      show Go p e below (T11.setTop (mkF m 29 #[.val (.int (3 : Int32)), .val (.int p2), .val (.int (3 : Int32)), .val (.ref w_LETTER_DIGIT_SPECIAL), .val (.ref w_LETTER_DIGIT_SPECIAL)] [(.ref w_LETTER_DIGIT_SPECIAL)])) _
      refine Go.st (fun _ k_ => XS.aload X11.here hx rfl (hb hby at_29) rfl rfl k_) ?_
      show Go p e below (T11.setTop (mkF m 31 #[.val (.int (3 : Int32)), .val (.int p2), .val (.int (3 : Int32)), .val (.ref w_LETTER_DIGIT_SPECIAL), .val (.ref w_LETTER_DIGIT_SPECIAL)] [(.ref w_LETTER_DIGIT_SPECIAL), (.ref w_LETTER_DIGIT_SPECIAL)])) _
      refine Go.st (fun _ k_ => Jvm.RoadKit.acmp (g := (mkF m 31 #[.val (.int (3 : Int32)), .val (.int p2), .val (.int (3 : Int32)), .val (.ref w_LETTER_DIGIT_SPECIAL), .val (.ref w_LETTER_DIGIT_SPECIAL)] [(.ref w_LETTER_DIGIT_SPECIAL), (.ref w_LETTER_DIGIT_SPECIAL)])) X11 hx rfl rfl rfl (pc0 := 31) (pc' := 34) (same := true) rfl (hb hby at_31) rfl (decide_eq_true rfl) (by decide) (by decide) k_) ?_
      show Go p e below (T11.setTop (mkF m 34 #[.val (.int (3 : Int32)), .val (.int p2), .val (.int (3 : Int32)), .val (.ref w_LETTER_DIGIT_SPECIAL), .val (.ref w_LETTER_DIGIT_SPECIAL)] [])) _
      refine Go.st (fun _ k_ => XS.iconst X11.here hx rfl (hb hby at_34) k_) ?_
      show Go p e below (T11.setTop (mkF m 35 #[.val (.int (3 : Int32)), .val (.int p2), .val (.int (3 : Int32)), .val (.ref w_LETTER_DIGIT_SPECIAL), .val (.ref w_LETTER_DIGIT_SPECIAL)] [(.int (1 : Int32))])) _
      refine Go.st (fun _ k_ => XS.goto X11.here hx rfl (pc0 := 35) (pc' := 39) rfl (hb hby at_35) (by decide) (by decide) k_) ?_
      show Go p e below (T11.setTop (mkF m 39 #[.val (.int (3 : Int32)), .val (.int p2), .val (.int (3 : Int32)), .val (.ref w_LETTER_DIGIT_SPECIAL), .val (.ref w_LETTER_DIGIT_SPECIAL)] [(.int (1 : Int32))])) _
      refine Go.fin X11 (v := some (.int (1 : Int32))) (fun h_ => by rw [Bd.returns] at h_; cases h_) Bd.notSynchronized (fun _ hr => retN X11 hx (t := .boolean) Bd.returns (by simp) (hb hby at_39) hr) (fun U' hU hF => ⟨_, _, rfl, ?_, hF.1, hF.2.1, hF.2.2.mono (by decide) (by decide)⟩)
      exact ⟨(congrArg (fun z_ : Int32 => some (Value.int z_)) (show (1 : Int32) = (1 : Int32) from rfl)), N11⟩
    · obtain ⟨hn0, hn1, hn2, hn3⟩ := hk
      show Go p e below (s₁.setTop (mkF m 17 #[.val (.int cd), .val (.int p2), .val (.int cd), .unset, .unset] [])) _
      refine Go.st (fun _ k_ => XS.iloadN X0.here hx rfl (hb hby at_17) rfl k_) ?_
      show Go p e below (s₁.setTop (mkF m 18 #[.val (.int cd), .val (.int p2), .val (.int cd), .unset, .unset] [(.int cd)])) _
      obtain ⟨_, _, ⟨T13, L13, k13_, n13_⟩, -, X13, ⟨Lc13, hQ13, l13_, y13_, z13_⟩, st13⟩ := Jvm.LawKit.callS X0 hx (y := (⟨"com/example/patuxent/patuxent/PasswordComplexity", "ofCode", "(I)Lcom/example/patuxent/patuxent/PasswordComplexity;"⟩ : MethodName)) hown (mvT hZ (hw _ (List.mem_of_getElem? (i := 0) rfl))) (mvT hZ (hw _ (List.mem_of_getElem? (i := 1) rfl))) (mvT hZ (hw _ (List.mem_of_getElem? (i := 2) rfl))) (mvT hZ (hw _ (List.mem_of_getElem? (i := 3) rfl))) (by decide) (backOf (W := 0) (rm1_4 l Z a0 hw [] cd w_ANY w_LETTER w_LETTER_DIGIT w_LETTER_DIGIT_SPECIAL kv w__VALUES h0 n0 Z0 S__VALUES V_vals E_vals F_code_ANY F_code_LETTER F_code_LETTER_DIGIT F_code_LETTER_DIGIT_SPECIAL hn0 hn1 hn2 hn3) hZ (hw _ (List.mem_of_getElem? (i := 3) rfl)) (hw _ (List.mem_of_getElem? (i := 2) rfl)) (by decide) (by decide)) (g := (mkF m 18 #[.val (.int cd), .val (.int p2), .val (.int cd), .unset, .unset] [(.int cd)])) rfl (by rw [hml]; rfl) (argsL := [(.int cd)]) (rest := []) (lenOf pd_1 rfl) rfl (by show 2 * 0 + _ ≤ _; exact Nat.le_of_eq rfl) (hb hby at_18) (fun _ _ => ⟨rfl, e0, (by decide : 0 + 1 ≤ _), (by decide : 0 + 4 ≤ _)⟩)
      dsimp only [Pt.U, Pt.locs, Pt.cells, Pt.slots] at X13 l13_ y13_ z13_ st13 hQ13
      subst l13_ y13_ z13_
      obtain ⟨rfl, N13q, K13⟩ := hQ13
      have N13 := Fr.app N0 N13q
      refine Go.st st13 ?_
      show Go p e below (T13.setTop (mkF m 21 #[.val (.int cd), .val (.int p2), .val (.int cd), .unset, .unset] [.null])) _
      refine Go.st (fun _ k_ => XS.astoreN X13.here hx rfl (hb hby at_21) rfl rfl (l' := #[.val (.int cd), .val (.int p2), .val (.int cd), .val .null, .unset]) rfl k_) ?_
      show Go p e below (T13.setTop (mkF m 22 #[.val (.int cd), .val (.int p2), .val (.int cd), .val .null, .unset] [])) _
      refine Go.st (fun _ k_ => XS.iloadN X13.here hx rfl (hb hby at_22) rfl k_) ?_
      show Go p e below (T13.setTop (mkF m 23 #[.val (.int cd), .val (.int p2), .val (.int cd), .val .null, .unset] [(.int cd)])) _
      obtain ⟨_, _, ⟨T14, L14, k14_, n14_⟩, -, X14, ⟨Lc14, hQ14, l14_, y14_, z14_⟩, st14⟩ := Jvm.LawKit.callS X13 hx (y := (⟨"com/example/patuxent/patuxent/PasswordComplexityOfCodePinLaw", "expected", "(I)Lcom/example/patuxent/patuxent/PasswordComplexity;"⟩ : MethodName)) hown (mvT hZ (hw _ (List.mem_of_getElem? (i := 25) rfl))) (mvT hZ (hw _ (List.mem_of_getElem? (i := 26) rfl))) (mvT hZ (hw _ (List.mem_of_getElem? (i := 27) rfl))) (mvT hZ (hw _ (List.mem_of_getElem? (i := 28) rfl))) (by decide) (backOf (W := 0) (rm3_4 l Z a0 hw [] cd T13.heap n0 (Nat.le_trans Z0 K13.1) hn0 hn1 hn2 hn3) hZ (hw _ (List.mem_of_getElem? (i := 28) rfl)) (hw _ (List.mem_of_getElem? (i := 27) rfl)) (by decide) (by decide)) (g := (mkF m 23 #[.val (.int cd), .val (.int p2), .val (.int cd), .val .null, .unset] [(.int cd)])) rfl (by rw [hml]; rfl) (argsL := [(.int cd)]) (rest := []) (lenOf pd_1 rfl) rfl (by show 2 * 0 + _ ≤ _; exact Nat.le_of_eq rfl) (hb hby at_23) (fun _ _ => ⟨rfl, rfl, (by decide : 1 + 0 ≤ _), (by decide : 4 + 0 ≤ _)⟩)
      dsimp only [Pt.U, Pt.locs, Pt.cells, Pt.slots] at X14 l14_ y14_ z14_ st14 hQ14
      subst l14_ y14_ z14_
      obtain ⟨rfl, N14q, e14⟩ := hQ14
      have N14 := Fr.app N13 N14q
      refine Go.st st14 ?_
      show Go p e below (T14.setTop (mkF m 26 #[.val (.int cd), .val (.int p2), .val (.int cd), .val .null, .unset] [.null])) _
      refine Go.st (fun _ k_ => XS.astore X14.here hx rfl (hb hby at_26) rfl rfl (l' := #[.val (.int cd), .val (.int p2), .val (.int cd), .val .null, .val .null]) rfl k_) ?_
      show Go p e below (T14.setTop (mkF m 28 #[.val (.int cd), .val (.int p2), .val (.int cd), .val .null, .val .null] [])) _
      refine Go.st (fun _ k_ => XS.aloadN X14.here hx rfl (hb hby at_28) rfl rfl k_) ?_
      show Go p e below (T14.setTop (mkF m 29 #[.val (.int cd), .val (.int p2), .val (.int cd), .val .null, .val .null] [.null])) _
      refine Go.st (fun _ k_ => XS.aload X14.here hx rfl (hb hby at_29) rfl rfl k_) ?_
      show Go p e below (T14.setTop (mkF m 31 #[.val (.int cd), .val (.int p2), .val (.int cd), .val .null, .val .null] [.null, .null])) _
      refine Go.st (fun _ k_ => Jvm.RoadKit.acmp (g := (mkF m 31 #[.val (.int cd), .val (.int p2), .val (.int cd), .val .null, .val .null] [.null, .null])) X14 hx rfl rfl rfl (pc0 := 31) (pc' := 34) (same := true) rfl (hb hby at_31) rfl (decide_eq_true rfl) (by decide) (by decide) k_) ?_
      show Go p e below (T14.setTop (mkF m 34 #[.val (.int cd), .val (.int p2), .val (.int cd), .val .null, .val .null] [])) _
      refine Go.st (fun _ k_ => XS.iconst X14.here hx rfl (hb hby at_34) k_) ?_
      show Go p e below (T14.setTop (mkF m 35 #[.val (.int cd), .val (.int p2), .val (.int cd), .val .null, .val .null] [(.int (1 : Int32))])) _
      refine Go.st (fun _ k_ => XS.goto X14.here hx rfl (pc0 := 35) (pc' := 39) rfl (hb hby at_35) (by decide) (by decide) k_) ?_
      show Go p e below (T14.setTop (mkF m 39 #[.val (.int cd), .val (.int p2), .val (.int cd), .val .null, .val .null] [(.int (1 : Int32))])) _
      refine Go.fin X14 (v := some (.int (1 : Int32))) (fun h_ => by rw [Bd.returns] at h_; cases h_) Bd.notSynchronized (fun _ hr => retN X14 hx (t := .boolean) Bd.returns (by simp) (hb hby at_39) hr) (fun U' hU hF => ⟨_, _, rfl, ?_, hF.1, hF.2.1, hF.2.2.mono (by decide) (by decide)⟩)
      exact ⟨(congrArg (fun z_ : Int32 => some (Value.int z_)) (show (1 : Int32) = (1 : Int32) from rfl)), N14⟩
  · refine Go.st (fun _ k_ => XS.ifNo X0.here hx rfl (hb hby at_3) rfl ((if0 _ _).trans (feq hc3).1) k_) ?_
    show Go p e below (s₁.setTop (mkF m 6 #[.val (.int p1), .val (.int p2), .unset, .unset, .unset] [])) _
    refine Go.st (fun _ k_ => XS.iloadN X0.here hx rfl (hb hby at_6) rfl k_) ?_
    show Go p e below (s₁.setTop (mkF m 7 #[.val (.int p1), .val (.int p2), .unset, .unset, .unset] [(.int p1)])) _
    refine Go.st (fun _ k_ => XS.bipush X0.here hx rfl (hb hby at_7) k_) ?_
    show Go p e below (s₁.setTop (mkF m 9 #[.val (.int p1), .val (.int p2), .unset, .unset, .unset] [(.int (7 : Int32)), (.int p1)])) _
    refine Go.st (fun _ k_ => XS.iand X0.here hx rfl (hb hby at_9) rfl k_) ?_
    show Go p e below (s₁.setTop (mkF m 10 #[.val (.int p1), .val (.int p2), .unset, .unset, .unset] [(.int (p1 &&& (7 : Int32)))])) _
    refine Go.st (fun _ k_ => XS.iconst X0.here hx rfl (hb hby at_10) k_) ?_
    show Go p e below (s₁.setTop (mkF m 11 #[.val (.int p1), .val (.int p2), .unset, .unset, .unset] [(.int (2 : Int32)), (.int (p1 &&& (7 : Int32)))])) _
    refine Go.st (fun _ k_ => XS.isub X0.here hx rfl (hb hby at_11) rfl k_) ?_
    show Go p e below (s₁.setTop (mkF m 12 #[.val (.int p1), .val (.int p2), .unset, .unset, .unset] [(.int ((p1 &&& (7 : Int32)) - (2 : Int32)))])) _
    refine Go.st (fun _ k_ => XS.goto X0.here hx rfl (pc0 := 12) (pc' := 16) rfl (hb hby at_12) (by decide) (by decide) k_) ?_
    show Go p e below (s₁.setTop (mkF m 16 #[.val (.int p1), .val (.int p2), .unset, .unset, .unset] [(.int ((p1 &&& (7 : Int32)) - (2 : Int32)))])) _
    obtain ⟨cd, ecd⟩ : ∃ z_ : Int32, z_ = ((p1 &&& (7 : Int32)) - (2 : Int32)) := ⟨_, rfl⟩
    rw [← ecd]
    show Go p e below (s₁.setTop (mkF m 16 #[.val (.int p1), .val (.int p2), .unset, .unset, .unset] [(.int cd)])) _
    refine Go.st (fun _ k_ => XS.istoreN X0.here hx rfl (hb hby at_16) rfl (l' := #[.val (.int p1), .val (.int p2), .val (.int cd), .unset, .unset]) rfl k_) ?_
    show Go p e below (s₁.setTop (mkF m 17 #[.val (.int p1), .val (.int p2), .val (.int cd), .unset, .unset] [])) _
    rcases own_five cd with hk | hk | hk | hk | hk
    · rw [hk]
      show Go p e below (s₁.setTop (mkF m 17 #[.val (.int p1), .val (.int p2), .val (.int (0 : Int32)), .unset, .unset] [])) _
      refine Go.st (fun _ k_ => XS.iloadN X0.here hx rfl (hb hby at_17) rfl k_) ?_
      show Go p e below (s₁.setTop (mkF m 18 #[.val (.int p1), .val (.int p2), .val (.int (0 : Int32)), .unset, .unset] [(.int (0 : Int32))])) _
      obtain ⟨_, _, ⟨T15, L15, k15_, n15_⟩, -, X15, ⟨Lc15, hQ15, l15_, y15_, z15_⟩, st15⟩ := Jvm.LawKit.callS X0 hx (y := (⟨"com/example/patuxent/patuxent/PasswordComplexity", "ofCode", "(I)Lcom/example/patuxent/patuxent/PasswordComplexity;"⟩ : MethodName)) hown (mvT hZ (hw _ (List.mem_of_getElem? (i := 0) rfl))) (mvT hZ (hw _ (List.mem_of_getElem? (i := 1) rfl))) (mvT hZ (hw _ (List.mem_of_getElem? (i := 2) rfl))) (mvT hZ (hw _ (List.mem_of_getElem? (i := 3) rfl))) (by decide) (backOf (W := 0) (rm1_0 l Z a0 hw [] w_ANY w_LETTER w_LETTER_DIGIT w_LETTER_DIGIT_SPECIAL kv w__VALUES h0 n0 Z0 S__VALUES V_vals E_vals F_code_ANY F_code_LETTER F_code_LETTER_DIGIT F_code_LETTER_DIGIT_SPECIAL) hZ (hw _ (List.mem_of_getElem? (i := 3) rfl)) (hw _ (List.mem_of_getElem? (i := 2) rfl)) (by decide) (by decide)) (g := (mkF m 18 #[.val (.int p1), .val (.int p2), .val (.int (0 : Int32)), .unset, .unset] [(.int (0 : Int32))])) rfl (by rw [hml]; rfl) (argsL := [(.int (0 : Int32))]) (rest := []) (lenOf pd_1 rfl) rfl (by show 2 * 0 + _ ≤ _; exact Nat.le_of_eq rfl) (hb hby at_18) (fun _ _ => ⟨rfl, e0, (by decide : 0 + 1 ≤ _), (by decide : 0 + 4 ≤ _)⟩)
      dsimp only [Pt.U, Pt.locs, Pt.cells, Pt.slots] at X15 l15_ y15_ z15_ st15 hQ15
      subst l15_ y15_ z15_
      obtain ⟨rfl, N15q, K15⟩ := hQ15
      have N15 := Fr.app N0 N15q
      refine Go.st st15 ?_
      show Go p e below (T15.setTop (mkF m 21 #[.val (.int p1), .val (.int p2), .val (.int (0 : Int32)), .unset, .unset] [(.ref w_ANY)])) _
      refine Go.st (fun _ k_ => XS.astoreN X15.here hx rfl (hb hby at_21) rfl rfl (l' := #[.val (.int p1), .val (.int p2), .val (.int (0 : Int32)), .val (.ref w_ANY), .unset]) rfl k_) ?_
      show Go p e below (T15.setTop (mkF m 22 #[.val (.int p1), .val (.int p2), .val (.int (0 : Int32)), .val (.ref w_ANY), .unset] [])) _
      refine Go.st (fun _ k_ => XS.iloadN X15.here hx rfl (hb hby at_22) rfl k_) ?_
      show Go p e below (T15.setTop (mkF m 23 #[.val (.int p1), .val (.int p2), .val (.int (0 : Int32)), .val (.ref w_ANY), .unset] [(.int (0 : Int32))])) _
      have H17 := (own_staKeep S_ANY K15)
      obtain ⟨_, _, ⟨T16, L16, k16_, n16_⟩, -, X16, ⟨Lc16, hQ16, l16_, y16_, z16_⟩, st16⟩ := Jvm.LawKit.callS X15 hx (y := (⟨"com/example/patuxent/patuxent/PasswordComplexityOfCodePinLaw", "expected", "(I)Lcom/example/patuxent/patuxent/PasswordComplexity;"⟩ : MethodName)) hown (mvT hZ (hw _ (List.mem_of_getElem? (i := 25) rfl))) (mvT hZ (hw _ (List.mem_of_getElem? (i := 26) rfl))) (mvT hZ (hw _ (List.mem_of_getElem? (i := 27) rfl))) (mvT hZ (hw _ (List.mem_of_getElem? (i := 28) rfl))) (by decide) (backOf (W := 0) (rm3_0 l Z a0 hw [] w_ANY T15.heap n0 (Nat.le_trans Z0 K15.1) H17) hZ (hw _ (List.mem_of_getElem? (i := 28) rfl)) (hw _ (List.mem_of_getElem? (i := 27) rfl)) (by decide) (by decide)) (g := (mkF m 23 #[.val (.int p1), .val (.int p2), .val (.int (0 : Int32)), .val (.ref w_ANY), .unset] [(.int (0 : Int32))])) rfl (by rw [hml]; rfl) (argsL := [(.int (0 : Int32))]) (rest := []) (lenOf pd_1 rfl) rfl (by show 2 * 0 + _ ≤ _; exact Nat.le_of_eq rfl) (hb hby at_23) (fun _ _ => ⟨rfl, rfl, (by decide : 1 + 0 ≤ _), (by decide : 4 + 0 ≤ _)⟩)
      dsimp only [Pt.U, Pt.locs, Pt.cells, Pt.slots] at X16 l16_ y16_ z16_ st16 hQ16
      subst l16_ y16_ z16_
      obtain ⟨rfl, N16q, e16⟩ := hQ16
      have N16 := Fr.app N15 N16q
      refine Go.st st16 ?_
      show Go p e below (T16.setTop (mkF m 26 #[.val (.int p1), .val (.int p2), .val (.int (0 : Int32)), .val (.ref w_ANY), .unset] [(.ref w_ANY)])) _
      refine Go.st (fun _ k_ => XS.astore X16.here hx rfl (hb hby at_26) rfl rfl (l' := #[.val (.int p1), .val (.int p2), .val (.int (0 : Int32)), .val (.ref w_ANY), .val (.ref w_ANY)]) rfl k_) ?_
      show Go p e below (T16.setTop (mkF m 28 #[.val (.int p1), .val (.int p2), .val (.int (0 : Int32)), .val (.ref w_ANY), .val (.ref w_ANY)] [])) _
      refine Go.st (fun _ k_ => XS.aloadN X16.here hx rfl (hb hby at_28) rfl rfl k_) ?_
      show Go p e below (T16.setTop (mkF m 29 #[.val (.int p1), .val (.int p2), .val (.int (0 : Int32)), .val (.ref w_ANY), .val (.ref w_ANY)] [(.ref w_ANY)])) _
      refine Go.st (fun _ k_ => XS.aload X16.here hx rfl (hb hby at_29) rfl rfl k_) ?_
      show Go p e below (T16.setTop (mkF m 31 #[.val (.int p1), .val (.int p2), .val (.int (0 : Int32)), .val (.ref w_ANY), .val (.ref w_ANY)] [(.ref w_ANY), (.ref w_ANY)])) _
      refine Go.st (fun _ k_ => Jvm.RoadKit.acmp (g := (mkF m 31 #[.val (.int p1), .val (.int p2), .val (.int (0 : Int32)), .val (.ref w_ANY), .val (.ref w_ANY)] [(.ref w_ANY), (.ref w_ANY)])) X16 hx rfl rfl rfl (pc0 := 31) (pc' := 34) (same := true) rfl (hb hby at_31) rfl (decide_eq_true rfl) (by decide) (by decide) k_) ?_
      show Go p e below (T16.setTop (mkF m 34 #[.val (.int p1), .val (.int p2), .val (.int (0 : Int32)), .val (.ref w_ANY), .val (.ref w_ANY)] [])) _
      refine Go.st (fun _ k_ => XS.iconst X16.here hx rfl (hb hby at_34) k_) ?_
      show Go p e below (T16.setTop (mkF m 35 #[.val (.int p1), .val (.int p2), .val (.int (0 : Int32)), .val (.ref w_ANY), .val (.ref w_ANY)] [(.int (1 : Int32))])) _
      refine Go.st (fun _ k_ => XS.goto X16.here hx rfl (pc0 := 35) (pc' := 39) rfl (hb hby at_35) (by decide) (by decide) k_) ?_
      show Go p e below (T16.setTop (mkF m 39 #[.val (.int p1), .val (.int p2), .val (.int (0 : Int32)), .val (.ref w_ANY), .val (.ref w_ANY)] [(.int (1 : Int32))])) _
      refine Go.fin X16 (v := some (.int (1 : Int32))) (fun h_ => by rw [Bd.returns] at h_; cases h_) Bd.notSynchronized (fun _ hr => retN X16 hx (t := .boolean) Bd.returns (by simp) (hb hby at_39) hr) (fun U' hU hF => ⟨_, _, rfl, ?_, hF.1, hF.2.1, hF.2.2.mono (by decide) (by decide)⟩)
      exact ⟨(congrArg (fun z_ : Int32 => some (Value.int z_)) (show (1 : Int32) = (1 : Int32) from rfl)), N16⟩
    · rw [hk]
      show Go p e below (s₁.setTop (mkF m 17 #[.val (.int p1), .val (.int p2), .val (.int (1 : Int32)), .unset, .unset] [])) _
      refine Go.st (fun _ k_ => XS.iloadN X0.here hx rfl (hb hby at_17) rfl k_) ?_
      show Go p e below (s₁.setTop (mkF m 18 #[.val (.int p1), .val (.int p2), .val (.int (1 : Int32)), .unset, .unset] [(.int (1 : Int32))])) _
      obtain ⟨_, _, ⟨T18, L18, k18_, n18_⟩, -, X18, ⟨Lc18, hQ18, l18_, y18_, z18_⟩, st18⟩ := Jvm.LawKit.callS X0 hx (y := (⟨"com/example/patuxent/patuxent/PasswordComplexity", "ofCode", "(I)Lcom/example/patuxent/patuxent/PasswordComplexity;"⟩ : MethodName)) hown (mvT hZ (hw _ (List.mem_of_getElem? (i := 0) rfl))) (mvT hZ (hw _ (List.mem_of_getElem? (i := 1) rfl))) (mvT hZ (hw _ (List.mem_of_getElem? (i := 2) rfl))) (mvT hZ (hw _ (List.mem_of_getElem? (i := 3) rfl))) (by decide) (backOf (W := 0) (rm1_1 l Z a0 hw [] w_ANY w_LETTER w_LETTER_DIGIT w_LETTER_DIGIT_SPECIAL kv w__VALUES h0 n0 Z0 S__VALUES V_vals E_vals F_code_ANY F_code_LETTER F_code_LETTER_DIGIT F_code_LETTER_DIGIT_SPECIAL) hZ (hw _ (List.mem_of_getElem? (i := 3) rfl)) (hw _ (List.mem_of_getElem? (i := 2) rfl)) (by decide) (by decide)) (g := (mkF m 18 #[.val (.int p1), .val (.int p2), .val (.int (1 : Int32)), .unset, .unset] [(.int (1 : Int32))])) rfl (by rw [hml]; rfl) (argsL := [(.int (1 : Int32))]) (rest := []) (lenOf pd_1 rfl) rfl (by show 2 * 0 + _ ≤ _; exact Nat.le_of_eq rfl) (hb hby at_18) (fun _ _ => ⟨rfl, e0, (by decide : 0 + 1 ≤ _), (by decide : 0 + 4 ≤ _)⟩)
      dsimp only [Pt.U, Pt.locs, Pt.cells, Pt.slots] at X18 l18_ y18_ z18_ st18 hQ18
      subst l18_ y18_ z18_
      obtain ⟨rfl, N18q, K18⟩ := hQ18
      have N18 := Fr.app N0 N18q
      refine Go.st st18 ?_
      show Go p e below (T18.setTop (mkF m 21 #[.val (.int p1), .val (.int p2), .val (.int (1 : Int32)), .unset, .unset] [(.ref w_LETTER)])) _
      refine Go.st (fun _ k_ => XS.astoreN X18.here hx rfl (hb hby at_21) rfl rfl (l' := #[.val (.int p1), .val (.int p2), .val (.int (1 : Int32)), .val (.ref w_LETTER), .unset]) rfl k_) ?_
      show Go p e below (T18.setTop (mkF m 22 #[.val (.int p1), .val (.int p2), .val (.int (1 : Int32)), .val (.ref w_LETTER), .unset] [])) _
      refine Go.st (fun _ k_ => XS.iloadN X18.here hx rfl (hb hby at_22) rfl k_) ?_
      show Go p e below (T18.setTop (mkF m 23 #[.val (.int p1), .val (.int p2), .val (.int (1 : Int32)), .val (.ref w_LETTER), .unset] [(.int (1 : Int32))])) _
      have H20 := (own_staKeep S_LETTER K18)
      obtain ⟨_, _, ⟨T19, L19, k19_, n19_⟩, -, X19, ⟨Lc19, hQ19, l19_, y19_, z19_⟩, st19⟩ := Jvm.LawKit.callS X18 hx (y := (⟨"com/example/patuxent/patuxent/PasswordComplexityOfCodePinLaw", "expected", "(I)Lcom/example/patuxent/patuxent/PasswordComplexity;"⟩ : MethodName)) hown (mvT hZ (hw _ (List.mem_of_getElem? (i := 25) rfl))) (mvT hZ (hw _ (List.mem_of_getElem? (i := 26) rfl))) (mvT hZ (hw _ (List.mem_of_getElem? (i := 27) rfl))) (mvT hZ (hw _ (List.mem_of_getElem? (i := 28) rfl))) (by decide) (backOf (W := 0) (rm3_1 l Z a0 hw [] w_LETTER T18.heap n0 (Nat.le_trans Z0 K18.1) H20) hZ (hw _ (List.mem_of_getElem? (i := 28) rfl)) (hw _ (List.mem_of_getElem? (i := 27) rfl)) (by decide) (by decide)) (g := (mkF m 23 #[.val (.int p1), .val (.int p2), .val (.int (1 : Int32)), .val (.ref w_LETTER), .unset] [(.int (1 : Int32))])) rfl (by rw [hml]; rfl) (argsL := [(.int (1 : Int32))]) (rest := []) (lenOf pd_1 rfl) rfl (by show 2 * 0 + _ ≤ _; exact Nat.le_of_eq rfl) (hb hby at_23) (fun _ _ => ⟨rfl, rfl, (by decide : 1 + 0 ≤ _), (by decide : 4 + 0 ≤ _)⟩)
      dsimp only [Pt.U, Pt.locs, Pt.cells, Pt.slots] at X19 l19_ y19_ z19_ st19 hQ19
      subst l19_ y19_ z19_
      obtain ⟨rfl, N19q, e19⟩ := hQ19
      have N19 := Fr.app N18 N19q
      refine Go.st st19 ?_
      show Go p e below (T19.setTop (mkF m 26 #[.val (.int p1), .val (.int p2), .val (.int (1 : Int32)), .val (.ref w_LETTER), .unset] [(.ref w_LETTER)])) _
      refine Go.st (fun _ k_ => XS.astore X19.here hx rfl (hb hby at_26) rfl rfl (l' := #[.val (.int p1), .val (.int p2), .val (.int (1 : Int32)), .val (.ref w_LETTER), .val (.ref w_LETTER)]) rfl k_) ?_
      show Go p e below (T19.setTop (mkF m 28 #[.val (.int p1), .val (.int p2), .val (.int (1 : Int32)), .val (.ref w_LETTER), .val (.ref w_LETTER)] [])) _
      refine Go.st (fun _ k_ => XS.aloadN X19.here hx rfl (hb hby at_28) rfl rfl k_) ?_
      show Go p e below (T19.setTop (mkF m 29 #[.val (.int p1), .val (.int p2), .val (.int (1 : Int32)), .val (.ref w_LETTER), .val (.ref w_LETTER)] [(.ref w_LETTER)])) _
      refine Go.st (fun _ k_ => XS.aload X19.here hx rfl (hb hby at_29) rfl rfl k_) ?_
      show Go p e below (T19.setTop (mkF m 31 #[.val (.int p1), .val (.int p2), .val (.int (1 : Int32)), .val (.ref w_LETTER), .val (.ref w_LETTER)] [(.ref w_LETTER), (.ref w_LETTER)])) _
      refine Go.st (fun _ k_ => Jvm.RoadKit.acmp (g := (mkF m 31 #[.val (.int p1), .val (.int p2), .val (.int (1 : Int32)), .val (.ref w_LETTER), .val (.ref w_LETTER)] [(.ref w_LETTER), (.ref w_LETTER)])) X19 hx rfl rfl rfl (pc0 := 31) (pc' := 34) (same := true) rfl (hb hby at_31) rfl (decide_eq_true rfl) (by decide) (by decide) k_) ?_
      show Go p e below (T19.setTop (mkF m 34 #[.val (.int p1), .val (.int p2), .val (.int (1 : Int32)), .val (.ref w_LETTER), .val (.ref w_LETTER)] [])) _
      refine Go.st (fun _ k_ => XS.iconst X19.here hx rfl (hb hby at_34) k_) ?_
      show Go p e below (T19.setTop (mkF m 35 #[.val (.int p1), .val (.int p2), .val (.int (1 : Int32)), .val (.ref w_LETTER), .val (.ref w_LETTER)] [(.int (1 : Int32))])) _
      refine Go.st (fun _ k_ => XS.goto X19.here hx rfl (pc0 := 35) (pc' := 39) rfl (hb hby at_35) (by decide) (by decide) k_) ?_
      show Go p e below (T19.setTop (mkF m 39 #[.val (.int p1), .val (.int p2), .val (.int (1 : Int32)), .val (.ref w_LETTER), .val (.ref w_LETTER)] [(.int (1 : Int32))])) _
      refine Go.fin X19 (v := some (.int (1 : Int32))) (fun h_ => by rw [Bd.returns] at h_; cases h_) Bd.notSynchronized (fun _ hr => retN X19 hx (t := .boolean) Bd.returns (by simp) (hb hby at_39) hr) (fun U' hU hF => ⟨_, _, rfl, ?_, hF.1, hF.2.1, hF.2.2.mono (by decide) (by decide)⟩)
      exact ⟨(congrArg (fun z_ : Int32 => some (Value.int z_)) (show (1 : Int32) = (1 : Int32) from rfl)), N19⟩
    · rw [hk]
      show Go p e below (s₁.setTop (mkF m 17 #[.val (.int p1), .val (.int p2), .val (.int (2 : Int32)), .unset, .unset] [])) _
      refine Go.st (fun _ k_ => XS.iloadN X0.here hx rfl (hb hby at_17) rfl k_) ?_
      show Go p e below (s₁.setTop (mkF m 18 #[.val (.int p1), .val (.int p2), .val (.int (2 : Int32)), .unset, .unset] [(.int (2 : Int32))])) _
      obtain ⟨_, _, ⟨T21, L21, k21_, n21_⟩, -, X21, ⟨Lc21, hQ21, l21_, y21_, z21_⟩, st21⟩ := Jvm.LawKit.callS X0 hx (y := (⟨"com/example/patuxent/patuxent/PasswordComplexity", "ofCode", "(I)Lcom/example/patuxent/patuxent/PasswordComplexity;"⟩ : MethodName)) hown (mvT hZ (hw _ (List.mem_of_getElem? (i := 0) rfl))) (mvT hZ (hw _ (List.mem_of_getElem? (i := 1) rfl))) (mvT hZ (hw _ (List.mem_of_getElem? (i := 2) rfl))) (mvT hZ (hw _ (List.mem_of_getElem? (i := 3) rfl))) (by decide) (backOf (W := 0) (rm1_2 l Z a0 hw [] w_ANY w_LETTER w_LETTER_DIGIT w_LETTER_DIGIT_SPECIAL kv w__VALUES h0 n0 Z0 S__VALUES V_vals E_vals F_code_ANY F_code_LETTER F_code_LETTER_DIGIT F_code_LETTER_DIGIT_SPECIAL) hZ (hw _ (List.mem_of_getElem? (i := 3) rfl)) (hw _ (List.mem_of_getElem? (i := 2) rfl)) (by decide) (by decide)) (g := (mkF m 18 #[.val (.int p1), .val (.int p2), .val (.int (2 : Int32)), .unset, .unset] [(.int (2 : Int32))])) rfl (by rw [hml]; rfl) (argsL := [(.int (2 : Int32))]) (rest := []) (lenOf pd_1 rfl) rfl (by show 2 * 0 + _ ≤ _; exact Nat.le_of_eq rfl) (hb hby at_18) (fun _ _ => ⟨rfl, e0, (by decide : 0 + 1 ≤ _), (by decide : 0 + 4 ≤ _)⟩)
      dsimp only [Pt.U, Pt.locs, Pt.cells, Pt.slots] at X21 l21_ y21_ z21_ st21 hQ21
      subst l21_ y21_ z21_
      obtain ⟨rfl, N21q, K21⟩ := hQ21
      have N21 := Fr.app N0 N21q
      refine Go.st st21 ?_
      show Go p e below (T21.setTop (mkF m 21 #[.val (.int p1), .val (.int p2), .val (.int (2 : Int32)), .unset, .unset] [(.ref w_LETTER_DIGIT)])) _
      refine Go.st (fun _ k_ => XS.astoreN X21.here hx rfl (hb hby at_21) rfl rfl (l' := #[.val (.int p1), .val (.int p2), .val (.int (2 : Int32)), .val (.ref w_LETTER_DIGIT), .unset]) rfl k_) ?_
      show Go p e below (T21.setTop (mkF m 22 #[.val (.int p1), .val (.int p2), .val (.int (2 : Int32)), .val (.ref w_LETTER_DIGIT), .unset] [])) _
      refine Go.st (fun _ k_ => XS.iloadN X21.here hx rfl (hb hby at_22) rfl k_) ?_
      show Go p e below (T21.setTop (mkF m 23 #[.val (.int p1), .val (.int p2), .val (.int (2 : Int32)), .val (.ref w_LETTER_DIGIT), .unset] [(.int (2 : Int32))])) _
      have H23 := (own_staKeep S_LETTER_DIGIT K21)
      obtain ⟨_, _, ⟨T22, L22, k22_, n22_⟩, -, X22, ⟨Lc22, hQ22, l22_, y22_, z22_⟩, st22⟩ := Jvm.LawKit.callS X21 hx (y := (⟨"com/example/patuxent/patuxent/PasswordComplexityOfCodePinLaw", "expected", "(I)Lcom/example/patuxent/patuxent/PasswordComplexity;"⟩ : MethodName)) hown (mvT hZ (hw _ (List.mem_of_getElem? (i := 25) rfl))) (mvT hZ (hw _ (List.mem_of_getElem? (i := 26) rfl))) (mvT hZ (hw _ (List.mem_of_getElem? (i := 27) rfl))) (mvT hZ (hw _ (List.mem_of_getElem? (i := 28) rfl))) (by decide) (backOf (W := 0) (rm3_2 l Z a0 hw [] w_LETTER_DIGIT T21.heap n0 (Nat.le_trans Z0 K21.1) H23) hZ (hw _ (List.mem_of_getElem? (i := 28) rfl)) (hw _ (List.mem_of_getElem? (i := 27) rfl)) (by decide) (by decide)) (g := (mkF m 23 #[.val (.int p1), .val (.int p2), .val (.int (2 : Int32)), .val (.ref w_LETTER_DIGIT), .unset] [(.int (2 : Int32))])) rfl (by rw [hml]; rfl) (argsL := [(.int (2 : Int32))]) (rest := []) (lenOf pd_1 rfl) rfl (by show 2 * 0 + _ ≤ _; exact Nat.le_of_eq rfl) (hb hby at_23) (fun _ _ => ⟨rfl, rfl, (by decide : 1 + 0 ≤ _), (by decide : 4 + 0 ≤ _)⟩)
      dsimp only [Pt.U, Pt.locs, Pt.cells, Pt.slots] at X22 l22_ y22_ z22_ st22 hQ22
      subst l22_ y22_ z22_
      obtain ⟨rfl, N22q, e22⟩ := hQ22
      have N22 := Fr.app N21 N22q
      refine Go.st st22 ?_
      show Go p e below (T22.setTop (mkF m 26 #[.val (.int p1), .val (.int p2), .val (.int (2 : Int32)), .val (.ref w_LETTER_DIGIT), .unset] [(.ref w_LETTER_DIGIT)])) _
      refine Go.st (fun _ k_ => XS.astore X22.here hx rfl (hb hby at_26) rfl rfl (l' := #[.val (.int p1), .val (.int p2), .val (.int (2 : Int32)), .val (.ref w_LETTER_DIGIT), .val (.ref w_LETTER_DIGIT)]) rfl k_) ?_
      show Go p e below (T22.setTop (mkF m 28 #[.val (.int p1), .val (.int p2), .val (.int (2 : Int32)), .val (.ref w_LETTER_DIGIT), .val (.ref w_LETTER_DIGIT)] [])) _
      refine Go.st (fun _ k_ => XS.aloadN X22.here hx rfl (hb hby at_28) rfl rfl k_) ?_
      show Go p e below (T22.setTop (mkF m 29 #[.val (.int p1), .val (.int p2), .val (.int (2 : Int32)), .val (.ref w_LETTER_DIGIT), .val (.ref w_LETTER_DIGIT)] [(.ref w_LETTER_DIGIT)])) _
      refine Go.st (fun _ k_ => XS.aload X22.here hx rfl (hb hby at_29) rfl rfl k_) ?_
      show Go p e below (T22.setTop (mkF m 31 #[.val (.int p1), .val (.int p2), .val (.int (2 : Int32)), .val (.ref w_LETTER_DIGIT), .val (.ref w_LETTER_DIGIT)] [(.ref w_LETTER_DIGIT), (.ref w_LETTER_DIGIT)])) _
      refine Go.st (fun _ k_ => Jvm.RoadKit.acmp (g := (mkF m 31 #[.val (.int p1), .val (.int p2), .val (.int (2 : Int32)), .val (.ref w_LETTER_DIGIT), .val (.ref w_LETTER_DIGIT)] [(.ref w_LETTER_DIGIT), (.ref w_LETTER_DIGIT)])) X22 hx rfl rfl rfl (pc0 := 31) (pc' := 34) (same := true) rfl (hb hby at_31) rfl (decide_eq_true rfl) (by decide) (by decide) k_) ?_
      show Go p e below (T22.setTop (mkF m 34 #[.val (.int p1), .val (.int p2), .val (.int (2 : Int32)), .val (.ref w_LETTER_DIGIT), .val (.ref w_LETTER_DIGIT)] [])) _
      refine Go.st (fun _ k_ => XS.iconst X22.here hx rfl (hb hby at_34) k_) ?_
      show Go p e below (T22.setTop (mkF m 35 #[.val (.int p1), .val (.int p2), .val (.int (2 : Int32)), .val (.ref w_LETTER_DIGIT), .val (.ref w_LETTER_DIGIT)] [(.int (1 : Int32))])) _
      refine Go.st (fun _ k_ => XS.goto X22.here hx rfl (pc0 := 35) (pc' := 39) rfl (hb hby at_35) (by decide) (by decide) k_) ?_
      show Go p e below (T22.setTop (mkF m 39 #[.val (.int p1), .val (.int p2), .val (.int (2 : Int32)), .val (.ref w_LETTER_DIGIT), .val (.ref w_LETTER_DIGIT)] [(.int (1 : Int32))])) _
      refine Go.fin X22 (v := some (.int (1 : Int32))) (fun h_ => by rw [Bd.returns] at h_; cases h_) Bd.notSynchronized (fun _ hr => retN X22 hx (t := .boolean) Bd.returns (by simp) (hb hby at_39) hr) (fun U' hU hF => ⟨_, _, rfl, ?_, hF.1, hF.2.1, hF.2.2.mono (by decide) (by decide)⟩)
      exact ⟨(congrArg (fun z_ : Int32 => some (Value.int z_)) (show (1 : Int32) = (1 : Int32) from rfl)), N22⟩
    · rw [hk]
      show Go p e below (s₁.setTop (mkF m 17 #[.val (.int p1), .val (.int p2), .val (.int (3 : Int32)), .unset, .unset] [])) _
      refine Go.st (fun _ k_ => XS.iloadN X0.here hx rfl (hb hby at_17) rfl k_) ?_
      show Go p e below (s₁.setTop (mkF m 18 #[.val (.int p1), .val (.int p2), .val (.int (3 : Int32)), .unset, .unset] [(.int (3 : Int32))])) _
      obtain ⟨_, _, ⟨T24, L24, k24_, n24_⟩, -, X24, ⟨Lc24, hQ24, l24_, y24_, z24_⟩, st24⟩ := Jvm.LawKit.callS X0 hx (y := (⟨"com/example/patuxent/patuxent/PasswordComplexity", "ofCode", "(I)Lcom/example/patuxent/patuxent/PasswordComplexity;"⟩ : MethodName)) hown (mvT hZ (hw _ (List.mem_of_getElem? (i := 0) rfl))) (mvT hZ (hw _ (List.mem_of_getElem? (i := 1) rfl))) (mvT hZ (hw _ (List.mem_of_getElem? (i := 2) rfl))) (mvT hZ (hw _ (List.mem_of_getElem? (i := 3) rfl))) (by decide) (backOf (W := 0) (rm1_3 l Z a0 hw [] w_ANY w_LETTER w_LETTER_DIGIT w_LETTER_DIGIT_SPECIAL kv w__VALUES h0 n0 Z0 S__VALUES V_vals E_vals F_code_ANY F_code_LETTER F_code_LETTER_DIGIT F_code_LETTER_DIGIT_SPECIAL) hZ (hw _ (List.mem_of_getElem? (i := 3) rfl)) (hw _ (List.mem_of_getElem? (i := 2) rfl)) (by decide) (by decide)) (g := (mkF m 18 #[.val (.int p1), .val (.int p2), .val (.int (3 : Int32)), .unset, .unset] [(.int (3 : Int32))])) rfl (by rw [hml]; rfl) (argsL := [(.int (3 : Int32))]) (rest := []) (lenOf pd_1 rfl) rfl (by show 2 * 0 + _ ≤ _; exact Nat.le_of_eq rfl) (hb hby at_18) (fun _ _ => ⟨rfl, e0, (by decide : 0 + 1 ≤ _), (by decide : 0 + 4 ≤ _)⟩)
      dsimp only [Pt.U, Pt.locs, Pt.cells, Pt.slots] at X24 l24_ y24_ z24_ st24 hQ24
      subst l24_ y24_ z24_
      obtain ⟨rfl, N24q, K24⟩ := hQ24
      have N24 := Fr.app N0 N24q
      refine Go.st st24 ?_
      show Go p e below (T24.setTop (mkF m 21 #[.val (.int p1), .val (.int p2), .val (.int (3 : Int32)), .unset, .unset] [(.ref w_LETTER_DIGIT_SPECIAL)])) _
      refine Go.st (fun _ k_ => XS.astoreN X24.here hx rfl (hb hby at_21) rfl rfl (l' := #[.val (.int p1), .val (.int p2), .val (.int (3 : Int32)), .val (.ref w_LETTER_DIGIT_SPECIAL), .unset]) rfl k_) ?_
      show Go p e below (T24.setTop (mkF m 22 #[.val (.int p1), .val (.int p2), .val (.int (3 : Int32)), .val (.ref w_LETTER_DIGIT_SPECIAL), .unset] [])) _
      refine Go.st (fun _ k_ => XS.iloadN X24.here hx rfl (hb hby at_22) rfl k_) ?_
      show Go p e below (T24.setTop (mkF m 23 #[.val (.int p1), .val (.int p2), .val (.int (3 : Int32)), .val (.ref w_LETTER_DIGIT_SPECIAL), .unset] [(.int (3 : Int32))])) _
      have H26 := (own_staKeep S_LETTER_DIGIT_SPECIAL K24)
      obtain ⟨_, _, ⟨T25, L25, k25_, n25_⟩, -, X25, ⟨Lc25, hQ25, l25_, y25_, z25_⟩, st25⟩ := Jvm.LawKit.callS X24 hx (y := (⟨"com/example/patuxent/patuxent/PasswordComplexityOfCodePinLaw", "expected", "(I)Lcom/example/patuxent/patuxent/PasswordComplexity;"⟩ : MethodName)) hown (mvT hZ (hw _ (List.mem_of_getElem? (i := 25) rfl))) (mvT hZ (hw _ (List.mem_of_getElem? (i := 26) rfl))) (mvT hZ (hw _ (List.mem_of_getElem? (i := 27) rfl))) (mvT hZ (hw _ (List.mem_of_getElem? (i := 28) rfl))) (by decide) (backOf (W := 0) (rm3_3 l Z a0 hw [] w_LETTER_DIGIT_SPECIAL T24.heap n0 (Nat.le_trans Z0 K24.1) H26) hZ (hw _ (List.mem_of_getElem? (i := 28) rfl)) (hw _ (List.mem_of_getElem? (i := 27) rfl)) (by decide) (by decide)) (g := (mkF m 23 #[.val (.int p1), .val (.int p2), .val (.int (3 : Int32)), .val (.ref w_LETTER_DIGIT_SPECIAL), .unset] [(.int (3 : Int32))])) rfl (by rw [hml]; rfl) (argsL := [(.int (3 : Int32))]) (rest := []) (lenOf pd_1 rfl) rfl (by show 2 * 0 + _ ≤ _; exact Nat.le_of_eq rfl) (hb hby at_23) (fun _ _ => ⟨rfl, rfl, (by decide : 1 + 0 ≤ _), (by decide : 4 + 0 ≤ _)⟩)
      dsimp only [Pt.U, Pt.locs, Pt.cells, Pt.slots] at X25 l25_ y25_ z25_ st25 hQ25
      subst l25_ y25_ z25_
      obtain ⟨rfl, N25q, e25⟩ := hQ25
      have N25 := Fr.app N24 N25q
      refine Go.st st25 ?_
      show Go p e below (T25.setTop (mkF m 26 #[.val (.int p1), .val (.int p2), .val (.int (3 : Int32)), .val (.ref w_LETTER_DIGIT_SPECIAL), .unset] [(.ref w_LETTER_DIGIT_SPECIAL)])) _
      refine Go.st (fun _ k_ => XS.astore X25.here hx rfl (hb hby at_26) rfl rfl (l' := #[.val (.int p1), .val (.int p2), .val (.int (3 : Int32)), .val (.ref w_LETTER_DIGIT_SPECIAL), .val (.ref w_LETTER_DIGIT_SPECIAL)]) rfl k_) ?_
      show Go p e below (T25.setTop (mkF m 28 #[.val (.int p1), .val (.int p2), .val (.int (3 : Int32)), .val (.ref w_LETTER_DIGIT_SPECIAL), .val (.ref w_LETTER_DIGIT_SPECIAL)] [])) _
      refine Go.st (fun _ k_ => XS.aloadN X25.here hx rfl (hb hby at_28) rfl rfl k_) ?_
      show Go p e below (T25.setTop (mkF m 29 #[.val (.int p1), .val (.int p2), .val (.int (3 : Int32)), .val (.ref w_LETTER_DIGIT_SPECIAL), .val (.ref w_LETTER_DIGIT_SPECIAL)] [(.ref w_LETTER_DIGIT_SPECIAL)])) _
      refine Go.st (fun _ k_ => XS.aload X25.here hx rfl (hb hby at_29) rfl rfl k_) ?_
      show Go p e below (T25.setTop (mkF m 31 #[.val (.int p1), .val (.int p2), .val (.int (3 : Int32)), .val (.ref w_LETTER_DIGIT_SPECIAL), .val (.ref w_LETTER_DIGIT_SPECIAL)] [(.ref w_LETTER_DIGIT_SPECIAL), (.ref w_LETTER_DIGIT_SPECIAL)])) _
      refine Go.st (fun _ k_ => Jvm.RoadKit.acmp (g := (mkF m 31 #[.val (.int p1), .val (.int p2), .val (.int (3 : Int32)), .val (.ref w_LETTER_DIGIT_SPECIAL), .val (.ref w_LETTER_DIGIT_SPECIAL)] [(.ref w_LETTER_DIGIT_SPECIAL), (.ref w_LETTER_DIGIT_SPECIAL)])) X25 hx rfl rfl rfl (pc0 := 31) (pc' := 34) (same := true) rfl (hb hby at_31) rfl (decide_eq_true rfl) (by decide) (by decide) k_) ?_
      show Go p e below (T25.setTop (mkF m 34 #[.val (.int p1), .val (.int p2), .val (.int (3 : Int32)), .val (.ref w_LETTER_DIGIT_SPECIAL), .val (.ref w_LETTER_DIGIT_SPECIAL)] [])) _
      refine Go.st (fun _ k_ => XS.iconst X25.here hx rfl (hb hby at_34) k_) ?_
      show Go p e below (T25.setTop (mkF m 35 #[.val (.int p1), .val (.int p2), .val (.int (3 : Int32)), .val (.ref w_LETTER_DIGIT_SPECIAL), .val (.ref w_LETTER_DIGIT_SPECIAL)] [(.int (1 : Int32))])) _
      refine Go.st (fun _ k_ => XS.goto X25.here hx rfl (pc0 := 35) (pc' := 39) rfl (hb hby at_35) (by decide) (by decide) k_) ?_
      show Go p e below (T25.setTop (mkF m 39 #[.val (.int p1), .val (.int p2), .val (.int (3 : Int32)), .val (.ref w_LETTER_DIGIT_SPECIAL), .val (.ref w_LETTER_DIGIT_SPECIAL)] [(.int (1 : Int32))])) _
      refine Go.fin X25 (v := some (.int (1 : Int32))) (fun h_ => by rw [Bd.returns] at h_; cases h_) Bd.notSynchronized (fun _ hr => retN X25 hx (t := .boolean) Bd.returns (by simp) (hb hby at_39) hr) (fun U' hU hF => ⟨_, _, rfl, ?_, hF.1, hF.2.1, hF.2.2.mono (by decide) (by decide)⟩)
      exact ⟨(congrArg (fun z_ : Int32 => some (Value.int z_)) (show (1 : Int32) = (1 : Int32) from rfl)), N25⟩
    · obtain ⟨hn0, hn1, hn2, hn3⟩ := hk
      show Go p e below (s₁.setTop (mkF m 17 #[.val (.int p1), .val (.int p2), .val (.int cd), .unset, .unset] [])) _
      refine Go.st (fun _ k_ => XS.iloadN X0.here hx rfl (hb hby at_17) rfl k_) ?_
      show Go p e below (s₁.setTop (mkF m 18 #[.val (.int p1), .val (.int p2), .val (.int cd), .unset, .unset] [(.int cd)])) _
      obtain ⟨_, _, ⟨T27, L27, k27_, n27_⟩, -, X27, ⟨Lc27, hQ27, l27_, y27_, z27_⟩, st27⟩ := Jvm.LawKit.callS X0 hx (y := (⟨"com/example/patuxent/patuxent/PasswordComplexity", "ofCode", "(I)Lcom/example/patuxent/patuxent/PasswordComplexity;"⟩ : MethodName)) hown (mvT hZ (hw _ (List.mem_of_getElem? (i := 0) rfl))) (mvT hZ (hw _ (List.mem_of_getElem? (i := 1) rfl))) (mvT hZ (hw _ (List.mem_of_getElem? (i := 2) rfl))) (mvT hZ (hw _ (List.mem_of_getElem? (i := 3) rfl))) (by decide) (backOf (W := 0) (rm1_4 l Z a0 hw [] cd w_ANY w_LETTER w_LETTER_DIGIT w_LETTER_DIGIT_SPECIAL kv w__VALUES h0 n0 Z0 S__VALUES V_vals E_vals F_code_ANY F_code_LETTER F_code_LETTER_DIGIT F_code_LETTER_DIGIT_SPECIAL hn0 hn1 hn2 hn3) hZ (hw _ (List.mem_of_getElem? (i := 3) rfl)) (hw _ (List.mem_of_getElem? (i := 2) rfl)) (by decide) (by decide)) (g := (mkF m 18 #[.val (.int p1), .val (.int p2), .val (.int cd), .unset, .unset] [(.int cd)])) rfl (by rw [hml]; rfl) (argsL := [(.int cd)]) (rest := []) (lenOf pd_1 rfl) rfl (by show 2 * 0 + _ ≤ _; exact Nat.le_of_eq rfl) (hb hby at_18) (fun _ _ => ⟨rfl, e0, (by decide : 0 + 1 ≤ _), (by decide : 0 + 4 ≤ _)⟩)
      dsimp only [Pt.U, Pt.locs, Pt.cells, Pt.slots] at X27 l27_ y27_ z27_ st27 hQ27
      subst l27_ y27_ z27_
      obtain ⟨rfl, N27q, K27⟩ := hQ27
      have N27 := Fr.app N0 N27q
      refine Go.st st27 ?_
      show Go p e below (T27.setTop (mkF m 21 #[.val (.int p1), .val (.int p2), .val (.int cd), .unset, .unset] [.null])) _
      refine Go.st (fun _ k_ => XS.astoreN X27.here hx rfl (hb hby at_21) rfl rfl (l' := #[.val (.int p1), .val (.int p2), .val (.int cd), .val .null, .unset]) rfl k_) ?_
      show Go p e below (T27.setTop (mkF m 22 #[.val (.int p1), .val (.int p2), .val (.int cd), .val .null, .unset] [])) _
      refine Go.st (fun _ k_ => XS.iloadN X27.here hx rfl (hb hby at_22) rfl k_) ?_
      show Go p e below (T27.setTop (mkF m 23 #[.val (.int p1), .val (.int p2), .val (.int cd), .val .null, .unset] [(.int cd)])) _
      obtain ⟨_, _, ⟨T28, L28, k28_, n28_⟩, -, X28, ⟨Lc28, hQ28, l28_, y28_, z28_⟩, st28⟩ := Jvm.LawKit.callS X27 hx (y := (⟨"com/example/patuxent/patuxent/PasswordComplexityOfCodePinLaw", "expected", "(I)Lcom/example/patuxent/patuxent/PasswordComplexity;"⟩ : MethodName)) hown (mvT hZ (hw _ (List.mem_of_getElem? (i := 25) rfl))) (mvT hZ (hw _ (List.mem_of_getElem? (i := 26) rfl))) (mvT hZ (hw _ (List.mem_of_getElem? (i := 27) rfl))) (mvT hZ (hw _ (List.mem_of_getElem? (i := 28) rfl))) (by decide) (backOf (W := 0) (rm3_4 l Z a0 hw [] cd T27.heap n0 (Nat.le_trans Z0 K27.1) hn0 hn1 hn2 hn3) hZ (hw _ (List.mem_of_getElem? (i := 28) rfl)) (hw _ (List.mem_of_getElem? (i := 27) rfl)) (by decide) (by decide)) (g := (mkF m 23 #[.val (.int p1), .val (.int p2), .val (.int cd), .val .null, .unset] [(.int cd)])) rfl (by rw [hml]; rfl) (argsL := [(.int cd)]) (rest := []) (lenOf pd_1 rfl) rfl (by show 2 * 0 + _ ≤ _; exact Nat.le_of_eq rfl) (hb hby at_23) (fun _ _ => ⟨rfl, rfl, (by decide : 1 + 0 ≤ _), (by decide : 4 + 0 ≤ _)⟩)
      dsimp only [Pt.U, Pt.locs, Pt.cells, Pt.slots] at X28 l28_ y28_ z28_ st28 hQ28
      subst l28_ y28_ z28_
      obtain ⟨rfl, N28q, e28⟩ := hQ28
      have N28 := Fr.app N27 N28q
      refine Go.st st28 ?_
      show Go p e below (T28.setTop (mkF m 26 #[.val (.int p1), .val (.int p2), .val (.int cd), .val .null, .unset] [.null])) _
      refine Go.st (fun _ k_ => XS.astore X28.here hx rfl (hb hby at_26) rfl rfl (l' := #[.val (.int p1), .val (.int p2), .val (.int cd), .val .null, .val .null]) rfl k_) ?_
      show Go p e below (T28.setTop (mkF m 28 #[.val (.int p1), .val (.int p2), .val (.int cd), .val .null, .val .null] [])) _
      refine Go.st (fun _ k_ => XS.aloadN X28.here hx rfl (hb hby at_28) rfl rfl k_) ?_
      show Go p e below (T28.setTop (mkF m 29 #[.val (.int p1), .val (.int p2), .val (.int cd), .val .null, .val .null] [.null])) _
      refine Go.st (fun _ k_ => XS.aload X28.here hx rfl (hb hby at_29) rfl rfl k_) ?_
      show Go p e below (T28.setTop (mkF m 31 #[.val (.int p1), .val (.int p2), .val (.int cd), .val .null, .val .null] [.null, .null])) _
      refine Go.st (fun _ k_ => Jvm.RoadKit.acmp (g := (mkF m 31 #[.val (.int p1), .val (.int p2), .val (.int cd), .val .null, .val .null] [.null, .null])) X28 hx rfl rfl rfl (pc0 := 31) (pc' := 34) (same := true) rfl (hb hby at_31) rfl (decide_eq_true rfl) (by decide) (by decide) k_) ?_
      show Go p e below (T28.setTop (mkF m 34 #[.val (.int p1), .val (.int p2), .val (.int cd), .val .null, .val .null] [])) _
      refine Go.st (fun _ k_ => XS.iconst X28.here hx rfl (hb hby at_34) k_) ?_
      show Go p e below (T28.setTop (mkF m 35 #[.val (.int p1), .val (.int p2), .val (.int cd), .val .null, .val .null] [(.int (1 : Int32))])) _
      refine Go.st (fun _ k_ => XS.goto X28.here hx rfl (pc0 := 35) (pc' := 39) rfl (hb hby at_35) (by decide) (by decide) k_) ?_
      show Go p e below (T28.setTop (mkF m 39 #[.val (.int p1), .val (.int p2), .val (.int cd), .val .null, .val .null] [(.int (1 : Int32))])) _
      refine Go.fin X28 (v := some (.int (1 : Int32))) (fun h_ => by rw [Bd.returns] at h_; cases h_) Bd.notSynchronized (fun _ hr => retN X28 hx (t := .boolean) Bd.returns (by simp) (hb hby at_39) hr) (fun U' hU hF => ⟨_, _, rfl, ?_, hF.1, hF.2.1, hF.2.2.mono (by decide) (by decide)⟩)
      exact ⟨(congrArg (fun z_ : Int32 => some (Value.int z_)) (show (1 : Int32) = (1 : Int32) from rfl)), N28⟩
set_option maxRecDepth 65536 in
set_option maxHeartbeats 40000000 in
theorem comes_1 {Post : Tables → Env → Array Value → State → Outcome → State → Prop} (hpost : ∀ tb e args s v u, (limb_1_1.after args s (.returned v) u = true ∧ limb_1_2.after args s (.returned v) u = true ∧ True) → FrameEnd s (.returned v) u (Jvm.fieldLocs frame_1_writes args s ++ Jvm.arrayLocs frame_1_arrays args s ++ Jvm.staticLocs frame_1_statics s) 16 128 → Post tb e args s (.returned v) u) :
    ArmFor flags0 classFile x code maxLocals ret World_1 tables_1 room_1 Calls_1 rest_1 Pre_1 Post := by
  intro l hfl _ _ p e ha hc hk s m args below hf hA hF happ hP
  obtain ⟨hcalls, hrest, hpre⟩ := hP
  obtain ⟨-, -, -, hnamed, -, -, -, hat⟩ := (Spec.applies_iff hf).mp happ
  obtain ⟨hg, hn⟩ := and_e (Cond.before_iff.mp (show (Jvm.Cond.and given_1 narrow_1).before args s = true from hpre))
  obtain ⟨g1, g2⟩ := and_e hg
  obtain ⟨g3, g4⟩ := and_e g2
  obtain ⟨g5, g6⟩ := and_e hn
  obtain ⟨g7, g8⟩ := and_e g6
  obtain ⟨g9, g10⟩ := and_e g8
  obtain ⟨g11, g12⟩ := and_e g10
  obtain ⟨g13, g14⟩ := and_e g12
  obtain ⟨g15, g16⟩ := and_e g14
  obtain ⟨g17, g18⟩ := and_e g16
  obtain ⟨g19, g20⟩ := and_e g18
  obtain ⟨g21, g22⟩ := and_e g20
  obtain ⟨g23, g24⟩ := and_e g22
  obtain ⟨g25, g26⟩ := and_e g24
  obtain ⟨g27, g28⟩ := and_e g26
  obtain ⟨g29, g30⟩ := and_e g28
  obtain ⟨g31, g32⟩ := and_e g30
  obtain ⟨w0, w1, rfl⟩ : ∃ w0 w1 : Value, args = #[w0, w1] := by
    have hs : args.size = 2 := by simpa [Cond.value, given_1] using g1
    obtain ⟨L⟩ := args
    match L, hs with
    | [w0, w1], _ => exact ⟨w0, w1, rfl⟩
  have hw := fun d (hd : d ∈ tables_1) => atoms_spec (ws := Jvm.Cond.code x code maxLocals ret :: tables_1) hat d (List.mem_cons_of_mem _ hd)
  have hfit : Fit s := fun {y c} hc i hi => by
    obtain ⟨ha, rfl⟩ := Array.getElem?_eq_some_iff.mp hc
    have q := List.all_eq_true.mp ((Array.all_eq_true_iff_forall_mem.mp hF) _ (Array.getElem_mem ha)) i (List.mem_range.mpr hi)
    simpa [Array.getElem?_eq_getElem hi] using q
  obtain ⟨i0, ei0⟩ := is_v g3
  obtain rfl : w0 = (.int i0) := Option.some.inj ei0
  obtain ⟨i1, ei1⟩ := is_v g4
  obtain rfl : w1 = (.int i1) := Option.some.inj ei1
  -- g5 : (Jvm.Cond.arrayOf (Jvm.Term.static "com/example/patuxent/patuxent/PasswordComplexity" "$VALUES" "[Lcom/example/patuxent/patuxent/PasswordComplexity;") (Jvm.ClassFile.FieldType.object "com/example/patuxent/patuxent/PasswordComplexity"))
  obtain ⟨w__VALUES, ew__VALUES⟩ := exa_v g7
  have E_w__VALUES := Exa.start ew__VALUES g7
  have S__VALUES := Sta.start ew__VALUES (Or.inl (hw _ (List.mem_of_getElem? (i := 20) rfl)))
  -- g9 : (Jvm.Cond.eq (Jvm.Term.length (Jvm.Term.static "com/example/patuxent/patuxent/PasswordComplexity" "$VALUES" "[Lcom/example/patuxent/patuxent/PasswordComplexity;")) (Jvm.Term.int (4 : Int32)))
  obtain ⟨w_ANY, ew_ANY⟩ := exa_v g11
  have E_w_ANY := Exa.start ew_ANY g11
  have S_ANY := Sta.start ew_ANY (Or.inr ⟨(hw _ (List.mem_of_getElem? (i := 2) rfl)), (hw _ (List.mem_of_getElem? (i := 16) rfl))⟩)
  -- g13 : (Jvm.Cond.eq (Jvm.Term.elem (Jvm.Term.static "com/example/patuxent/patuxent/PasswordComplexity" "$VALUES" "[Lcom/example/patuxent/patuxent/PasswordComplexity;") (Jvm.Term.int (0 : Int32))) (Jvm.Term.static "com/example/patuxent/patuxent/PasswordComplexity" "ANY" "Lcom/example/patuxent/patuxent/Passw
  obtain ⟨w_LETTER, ew_LETTER⟩ := exa_v g15
  have E_w_LETTER := Exa.start ew_LETTER g15
  have S_LETTER := Sta.start ew_LETTER (Or.inr ⟨(hw _ (List.mem_of_getElem? (i := 2) rfl)), (hw _ (List.mem_of_getElem? (i := 17) rfl))⟩)
  -- g17 : (Jvm.Cond.eq (Jvm.Term.elem (Jvm.Term.static "com/example/patuxent/patuxent/PasswordComplexity" "$VALUES" "[Lcom/example/patuxent/patuxent/PasswordComplexity;") (Jvm.Term.int (1 : Int32))) (Jvm.Term.static "com/example/patuxent/patuxent/PasswordComplexity" "LETTER" "Lcom/example/patuxent/patuxent/Pa
  obtain ⟨w_LETTER_DIGIT, ew_LETTER_DIGIT⟩ := exa_v g19
  have E_w_LETTER_DIGIT := Exa.start ew_LETTER_DIGIT g19
  have S_LETTER_DIGIT := Sta.start ew_LETTER_DIGIT (Or.inr ⟨(hw _ (List.mem_of_getElem? (i := 2) rfl)), (hw _ (List.mem_of_getElem? (i := 18) rfl))⟩)
  -- g21 : (Jvm.Cond.eq (Jvm.Term.elem (Jvm.Term.static "com/example/patuxent/patuxent/PasswordComplexity" "$VALUES" "[Lcom/example/patuxent/patuxent/PasswordComplexity;") (Jvm.Term.int (2 : Int32))) (Jvm.Term.static "com/example/patuxent/patuxent/PasswordComplexity" "LETTER_DIGIT" "Lcom/example/patuxent/patux
  obtain ⟨w_LETTER_DIGIT_SPECIAL, ew_LETTER_DIGIT_SPECIAL⟩ := exa_v g23
  have E_w_LETTER_DIGIT_SPECIAL := Exa.start ew_LETTER_DIGIT_SPECIAL g23
  have S_LETTER_DIGIT_SPECIAL := Sta.start ew_LETTER_DIGIT_SPECIAL (Or.inr ⟨(hw _ (List.mem_of_getElem? (i := 2) rfl)), (hw _ (List.mem_of_getElem? (i := 19) rfl))⟩)
  -- g25 : (Jvm.Cond.eq (Jvm.Term.elem (Jvm.Term.static "com/example/patuxent/patuxent/PasswordComplexity" "$VALUES" "[Lcom/example/patuxent/patuxent/PasswordComplexity;") (Jvm.Term.int (3 : Int32))) (Jvm.Term.static "com/example/patuxent/patuxent/PasswordComplexity" "LETTER_DIGIT_SPECIAL" "Lcom/example/patuxe
  have o_code_ANY := own_ord ew_ANY g27
  have o_code_LETTER := own_ord ew_LETTER g29
  have o_code_LETTER_DIGIT := own_ord ew_LETTER_DIGIT g31
  have o_code_LETTER_DIGIT_SPECIAL := own_ord ew_LETTER_DIGIT_SPECIAL g32
  obtain ⟨clv, A_vals⟩ := Arr.start ew__VALUES g5
  have hAt := A_vals.fin (Vm.Alike.refl _)
  obtain ⟨hl1, hl2⟩ := own_len ew__VALUES hAt g9
  have V_vals : Arv s s.heap w__VALUES clv.cls (.object "com/example/patuxent/patuxent/PasswordComplexity") (4 : Int32) [(.ref w_ANY), (.ref w_LETTER), (.ref w_LETTER_DIGIT), (.ref w_LETTER_DIGIT_SPECIAL)] .null := Arv.start hfit A_vals hl1 hl2 (by decide) rfl ⟨own_elem ew__VALUES hAt ew_ANY (by decide) g13, own_elem ew__VALUES hAt ew_LETTER (by decide) g17, own_elem ew__VALUES hAt ew_LETTER_DIGIT (by decide) g21, own_elem ew__VALUES hAt ew_LETTER_DIGIT_SPECIAL (by decide) g25, trivial⟩
  obtain ⟨n, o, h1, h2, h3, _, L, rfl, ⟨rfl, N⟩, hq⟩ := rm0 l s _ hw tables_1 i0 i1 clv.cls w_ANY w_LETTER w_LETTER_DIGIT w_LETTER_DIGIT_SPECIAL w__VALUES s.heap s.heap.size (Nat.le_refl _) S_ANY S_LETTER S_LETTER_DIGIT S_LETTER_DIGIT_SPECIAL S__VALUES V_vals E_w__VALUES (Fld.start o_code_ANY) (Fld.start o_code_LETTER) (Fld.start o_code_LETTER_DIGIT) (Fld.start o_code_LETTER_DIGIT_SPECIAL) p e ha hc hk s m _ below hf ((Spec.applies_iff_loose hf).mp happ).1 ⟨rfl, State.Warmed39.refl s, rfl⟩ trivial
  refine ⟨n, _, h1, h2, h3, hpost _ _ _ _ _ _ ⟨Cond.after_iff.mpr rfl, Cond.after_iff.mpr (eq_i res_at (Term.int_eval (1)) rfl), trivial⟩ ⟨hq.1, hq.2.1, (hq.2.2.sift fun y hy => Or.inr (N y hy)).mono (by decide) (by decide)⟩⟩
theorem main_1_1 : Claimed_1_1 := comes_1 fun _ _ _ _ _ _ h hF => ⟨h.1, hF⟩
theorem main_1_2 : Claimed_1_2 := comes_1 fun _ _ _ _ _ _ h hF => ⟨h.2.1, hF⟩
end Jvm.Pilot.@@N@@
namespace Jvm.Pilot.@@N@@
open Jvm Jvm.ClassFile Sem Op Lib Jvm.Free Jvm.Stand Jvm.Pilot.@@N@@.Jvm.D
/-! MADE BY PROGRAM (witnessworld.py) out of the Statement's table words and the real class files: 13 classes; the members and pool entries that the words name. The judged class is class 1, her method 1. -/
namespace start1
open Jvm.ClassFile
def u (s : String) : CpInfo := .utf8 (stringToUtf16 s)
/-- a pool by its gaps: so many unusable entries, then the entry; so many at the end -/
def gap : Nat → List CpInfo → List CpInfo
  | 0, r => r
  | n + 1, r => .unusable :: gap n r
def poolList (es : List (Nat × CpInfo)) (last : Nat) : List CpInfo := es.foldr (fun e r => gap e.1 (e.2 :: r)) (gap last [])
def pool (es : List (Nat × CpInfo)) (last : Nat) : Array CpInfo := ⟨poolList es last⟩
def fileOf (pool : Array CpInfo) (this : Nat) (attrs : Array Attribute := #[]) (ms : Array MethodInfo := #[]) (fl : Nat := 33) (sup : Nat := 0) (ifs : Array Nat := #[]) (fds : Array FieldInfo := #[]) : ClassFile where
  minorVersion := 0
  majorVersion := 65
  constantPool := pool
  accessFlags := fl
  thisClass := this
  superClass := sup
  interfaces := ifs
  fields := fds
  methods := ms
  attributes := attrs
def plain (name : String) (sup : Option ClassId) : Class where
  name := name
  kind := .ordinary
  loader := none
  accessFlags := 33
  super := sup
  interfaces := #[]
  cf := none
  fields := #[]
  methods := #[]
  instanceTypes := #[]
  staticTypes := #[]
  resolved := #[]
  callSites := []
  init := .initialized
  statics := none
  mirror := none

def pool0 : Array CpInfo := pool [(5, u "<init>"), (0, u "()V"), (1, .class_ 10), (1, u "java/lang/Object"), (85, u "clone"), (0, u "()Ljava/lang/Object;")] 26

def k0m0 : Method := { name := "<init>", desc := "()V", sig := { parameters := [], returnType := none }, accessFlags := 1, code := none }
def k0m1 : Method := { name := "clone", desc := "()Ljava/lang/Object;", sig := { parameters := [], returnType := some (.object "java/lang/Object") }, accessFlags := 260, code := none }
/-- java/lang/Object -/
def k0 : Class := { plain "java/lang/Object" none with
  accessFlags := 33
  interfaces := #[]
  cf := some (fileOf pool0 8 #[] #[{ accessFlags := 1, nameIndex := 5, descriptorIndex := 6, attributes := #[] }, { accessFlags := 260, nameIndex := 96, descriptorIndex := 97, attributes := #[] }] 33 0 #[] #[])
  fields := #[]
  methods := #[k0m0, k0m1]
  instanceTypes := #[]
  staticTypes := #[]
  resolved := Array.replicate 124 none
  statics := none }

def pool1 : Array CpInfo := pool [(2, .class_ 4), (1, u "java/lang/Object"), (0, u "<init>"), (0, u "()V"), (0, .methodref 8 9), (0, .class_ 10), (0, .nameAndType 11 12), (0, u "com/example/patuxent/patuxent/PasswordComplexity"), (0, u "ofCode"), (0, u "(I)Lcom/example/patuxent/patuxent/PasswordComplexity;"), (0, .methodref 14 15), (0, .class_ 16), (0, .nameAndType 17 12), (0, u "com/example/patuxent/patuxent/PasswordComplexityOfCodePinLaw"), (0, u "expected"), (0, .fieldref 8 19), (0, .nameAndType 20 21), (0, u "ANY"), (0, u "Lcom/example/patuxent/patuxent/PasswordComplexity;"), (0, .fieldref 8 23), (0, .nameAndType 24 21), (0, u "LETTER"), (0, .fieldref 8 26), (0, .nameAndType 27 21), (0, u "LETTER_DIGIT"), (0, .fieldref 8 29), (0, .nameAndType 30 21), (0, u "LETTER_DIGIT_SPECIAL"), (2, u "law"), (0, u "(II)Z")] 3

def k1m0 : Method := { name := "<init>", desc := "()V", sig := { parameters := [], returnType := none }, accessFlags := 1, code := none }
def k1c1 : Code := { maxStack := 2, maxLocals := 5, code := code, exceptionTable := #[], attributes := #[] }
def k1m1 : Method := { name := "law", desc := "(II)Z", sig := { parameters := [.int, .int], returnType := some .boolean }, accessFlags := 9, code := some k1c1 }
def k1c2 : Code := { maxStack := 2, maxLocals := 1, code := method_3_code, exceptionTable := #[], attributes := #[] }
def k1m2 : Method := { name := "expected", desc := "(I)Lcom/example/patuxent/patuxent/PasswordComplexity;", sig := { parameters := [.int], returnType := some (.object "com/example/patuxent/patuxent/PasswordComplexity") }, accessFlags := 10, code := some k1c2 }
/-- com/example/patuxent/patuxent/PasswordComplexityOfCodePinLaw -/
def k1 : Class := { plain "com/example/patuxent/patuxent/PasswordComplexityOfCodePinLaw" (some 0) with
  accessFlags := 49
  interfaces := #[]
  cf := some (fileOf pool1 14 #[] #[{ accessFlags := 1, nameIndex := 5, descriptorIndex := 6, attributes := #[] }, { accessFlags := 9, nameIndex := 33, descriptorIndex := 34, attributes := #[] }, { accessFlags := 10, nameIndex := 17, descriptorIndex := 12, attributes := #[] }] 49 2 #[] #[])
  fields := #[]
  methods := #[k1m0, k1m1, k1m2]
  instanceTypes := #[]
  staticTypes := #[]
  resolved := Array.replicate 38 none
  statics := none }

def pool2 : Array CpInfo := pool [(1, .class_ 2), (0, u "java/lang/constant/Constable"), (0, .class_ 4), (0, u "java/lang/Object")] 6

/-- java/lang/constant/Constable -/
def k2 : Class := { plain "java/lang/constant/Constable" (some 0) with
  accessFlags := 1537
  interfaces := #[]
  cf := some (fileOf pool2 1 #[] #[] 1537 3 #[] #[])
  fields := #[]
  methods := #[]
  instanceTypes := #[]
  staticTypes := #[]
  resolved := Array.replicate 11 none
  statics := none }

def pool3 : Array CpInfo := pool [(1, .class_ 2), (0, u "java/lang/Comparable"), (0, .class_ 4), (0, u "java/lang/Object")] 7

/-- java/lang/Comparable -/
def k3 : Class := { plain "java/lang/Comparable" (some 0) with
  accessFlags := 1537
  interfaces := #[]
  cf := some (fileOf pool3 1 #[] #[] 1537 3 #[] #[])
  fields := #[]
  methods := #[]
  instanceTypes := #[]
  staticTypes := #[]
  resolved := Array.replicate 12 none
  statics := none }

def pool4 : Array CpInfo := pool [(1, .class_ 2), (0, u "java/io/Serializable"), (0, .class_ 4), (0, u "java/lang/Object")] 2

/-- java/io/Serializable -/
def k4 : Class := { plain "java/io/Serializable" (some 0) with
  accessFlags := 1537
  interfaces := #[]
  cf := some (fileOf pool4 1 #[] #[] 1537 3 #[] #[])
  fields := #[]
  methods := #[]
  instanceTypes := #[]
  staticTypes := #[]
  resolved := Array.replicate 7 none
  statics := none }

def pool5 : Array CpInfo := pool [(2, .class_ 4), (1, u "java/lang/Enum"), (0, u "name"), (0, u "Ljava/lang/String;"), (2, u "ordinal"), (0, u "I"), (1, .class_ 14), (1, u "java/lang/Object"), (4, u "hash"), (86, .class_ 108), (1, u "java/lang/Enum$EnumDesc"), (2, .class_ 112), (0, u "java/lang/constant/Constable"), (0, .class_ 114), (0, u "java/lang/Comparable"), (0, .class_ 116), (0, u "java/io/Serializable")] 87

/-- java/lang/Enum -/
def k5 : Class := { plain "java/lang/Enum" (some 0) with
  accessFlags := 1057
  interfaces := #[2, 3, 4]
  cf := some (fileOf pool5 2 #[.nestMembers #[106]] #[] 1057 12 #[111, 113, 115] #[{ accessFlags := 18, nameIndex := 5, descriptorIndex := 6, attributes := #[] }, { accessFlags := 18, nameIndex := 9, descriptorIndex := 10, attributes := #[] }, { accessFlags := 2, nameIndex := 19, descriptorIndex := 10, attributes := #[] }])
  fields := #[{ name := "name", type := (.object "java/lang/String"), accessFlags := 18, slot := 0, constantValue := 0 }, { name := "ordinal", type := .int, accessFlags := 18, slot := 1, constantValue := 0 }, { name := "hash", type := .int, accessFlags := 2, slot := 2, constantValue := 0 }]
  methods := #[]
  instanceTypes := #[(.object "java/lang/String"), .int, .int]
  staticTypes := #[]
  resolved := Array.replicate 204 none
  statics := none }

def pool6 : Array CpInfo := pool [(1, .class_ 2), (0, u "com/example/patuxent/patuxent/PasswordComplexity"), (2, u "ANY"), (0, u "Lcom/example/patuxent/patuxent/PasswordComplexity;"), (2, u "LETTER"), (2, u "LETTER_DIGIT"), (2, u "LETTER_DIGIT_SPECIAL"), (0, .fieldref 1 17), (0, .nameAndType 18 19), (0, u "$VALUES"), (0, u "[Lcom/example/patuxent/patuxent/PasswordComplexity;"), (0, .methodref 21 22), (0, .class_ 19), (0, .nameAndType 23 24), (0, u "clone"), (0, u "()Ljava/lang/Object;"), (1, .class_ 28), (1, u "java/lang/Enum"), (8, u "label"), (0, u "Ljava/lang/String;"), (0, .fieldref 1 40), (0, .nameAndType 41 42), (0, u "code"), (0, u "I"), (0, .methodref 1 44), (0, .nameAndType 45 46), (0, u "values"), (0, u "()[Lcom/example/patuxent/patuxent/PasswordComplexity;"), (57, u "ofCode"), (0, u "(I)Lcom/example/patuxent/patuxent/PasswordComplexity;")] 23

def k6c0 : Code := { maxStack := 1, maxLocals := 0, code := prog_8_method_1_code, exceptionTable := #[], attributes := #[] }
def k6m0 : Method := { name := "values", desc := "()[Lcom/example/patuxent/patuxent/PasswordComplexity;", sig := { parameters := [], returnType := some (.array (.object "com/example/patuxent/patuxent/PasswordComplexity")) }, accessFlags := 9, code := some k6c0 }
def k6c1 : Code := { maxStack := 2, maxLocals := 6, code := prog_8_method_6_code, exceptionTable := #[], attributes := #[] }
def k6m1 : Method := { name := "ofCode", desc := "(I)Lcom/example/patuxent/patuxent/PasswordComplexity;", sig := { parameters := [.int], returnType := some (.object "com/example/patuxent/patuxent/PasswordComplexity") }, accessFlags := 8, code := some k6c1 }
/-- com/example/patuxent/patuxent/PasswordComplexity -/
def k6 : Class := { plain "com/example/patuxent/patuxent/PasswordComplexity" (some 5) with
  accessFlags := 16433
  interfaces := #[]
  cf := some (fileOf pool6 1 #[] #[{ accessFlags := 9, nameIndex := 45, descriptorIndex := 46, attributes := #[] }, { accessFlags := 8, nameIndex := 104, descriptorIndex := 105, attributes := #[] }] 16433 26 #[] #[{ accessFlags := 16409, nameIndex := 5, descriptorIndex := 6, attributes := #[] }, { accessFlags := 16409, nameIndex := 9, descriptorIndex := 6, attributes := #[] }, { accessFlags := 16409, nameIndex := 12, descriptorIndex := 6, attributes := #[] }, { accessFlags := 16409, nameIndex := 15, descriptorIndex := 6, attributes := #[] }, { accessFlags := 18, nameIndex := 37, descriptorIndex := 38, attributes := #[] }, { accessFlags := 18, nameIndex := 41, descriptorIndex := 42, attributes := #[] }, { accessFlags := 4122, nameIndex := 18, descriptorIndex := 19, attributes := #[] }])
  fields := #[{ name := "ANY", type := (.object "com/example/patuxent/patuxent/PasswordComplexity"), accessFlags := 16409, slot := 0, constantValue := 0 }, { name := "LETTER", type := (.object "com/example/patuxent/patuxent/PasswordComplexity"), accessFlags := 16409, slot := 1, constantValue := 0 }, { name := "LETTER_DIGIT", type := (.object "com/example/patuxent/patuxent/PasswordComplexity"), accessFlags := 16409, slot := 2, constantValue := 0 }, { name := "LETTER_DIGIT_SPECIAL", type := (.object "com/example/patuxent/patuxent/PasswordComplexity"), accessFlags := 16409, slot := 3, constantValue := 0 }, { name := "label", type := (.object "java/lang/String"), accessFlags := 18, slot := 3, constantValue := 0 }, { name := "code", type := .int, accessFlags := 18, slot := 4, constantValue := 0 }, { name := "$VALUES", type := (.array (.object "com/example/patuxent/patuxent/PasswordComplexity")), accessFlags := 4122, slot := 4, constantValue := 0 }]
  methods := #[k6m0, k6m1]
  instanceTypes := #[(.object "java/lang/String"), .int, .int, (.object "java/lang/String"), .int]
  staticTypes := #[(.object "com/example/patuxent/patuxent/PasswordComplexity"), (.object "com/example/patuxent/patuxent/PasswordComplexity"), (.object "com/example/patuxent/patuxent/PasswordComplexity"), (.object "com/example/patuxent/patuxent/PasswordComplexity"), (.array (.object "com/example/patuxent/patuxent/PasswordComplexity"))]
  resolved := Array.replicate 129 none
  statics := some 0 }

def pool7 : Array CpInfo := pool [(1, .class_ 2), (0, u "java/lang/Cloneable"), (0, .class_ 4), (0, u "java/lang/Object")] 2

/-- java/lang/Cloneable -/
def k7 : Class := { plain "java/lang/Cloneable" (some 0) with
  accessFlags := 1537
  interfaces := #[]
  cf := some (fileOf pool7 1 #[] #[] 1537 3 #[] #[])
  fields := #[]
  methods := #[]
  instanceTypes := #[]
  staticTypes := #[]
  resolved := Array.replicate 7 none
  statics := none }

/-- the primitive byte -/
def k8 : Class := { plain "byte" none with kind := .primitive 'B', accessFlags := 0x411 }
/-- [B -/
def k9 : Class := { plain "[B" (some 0) with kind := .array 8 .byte, interfaces := #[7, 4], accessFlags := 1041 }

/-- the primitive int -/
def k10 : Class := { plain "int" none with kind := .primitive 'I', accessFlags := 0x411 }
/-- [I -/
def k11 : Class := { plain "[I" (some 0) with kind := .array 10 .int, interfaces := #[7, 4], accessFlags := 1041 }

/-- [Lcom/example/patuxent/patuxent/PasswordComplexity; -/
def k12 : Class := { plain "[Lcom/example/patuxent/patuxent/PasswordComplexity;" (some 0) with kind := .array 6 (.object "com/example/patuxent/patuxent/PasswordComplexity"), interfaces := #[7, 4], accessFlags := 1041 }

def heap : Heap := #[{ cls := 6, slots := #[.ref 2, .ref 3, .ref 4, .ref 5, .ref 1], vm := .statics 6 },
  { cls := 12, slots := #[.ref 2, .ref 3, .ref 4, .ref 5], vm := .none },
  { cls := 6, slots := #[.null, .int 0, .int 0, .null, .int 0], vm := .none },
  { cls := 6, slots := #[.null, .int 1, .int 0, .null, .int 1], vm := .none },
  { cls := 6, slots := #[.null, .int 2, .int 0, .null, .int 2], vm := .none },
  { cls := 6, slots := #[.null, .int 3, .int 0, .null, .int 3], vm := .none }]
def classes : Array Class := #[k0, k1, k2, k3, k4, k5, k6, k7, k8, k9, k10, k11, k12]
def interned : List (Array UInt16 × Addr) := []
def slotsUsed : Nat := 29
def theMethod : MethodId := ⟨1, 1⟩
def args0 : Array Value := #[.int 5, .int 1]
def aboutOver (below : List Frame) : State where
  vm := { classes := classes, interned := interned.toArray }
  heap := heap
  slotsUsed := slotsUsed
  threads := #[{ frames := .invoking theMethod args0 :: below }]
def below0 : List Frame := [.native { method := ⟨0, 0⟩, args := #[] }]
def about1 : State := aboutOver below0
def p0 : Program := .bare "" "" ""
def e0 : Env := launch0.env 0 0 0
theorem w_frames : about1.frames = Frame.invoking theMethod args0 :: below0 := rfl
set_option maxRecDepth 65536 in
theorem w_args : argsFit about1.vm theMethod args0 = true := by decide +kernel
set_option maxRecDepth 65536 in
theorem w_heap : heapFits about1 = true := by decide +kernel
set_option maxRecDepth 65536 in
theorem w_runnable : about1.curStatus? = some .runnable := by decide +kernel
set_option maxRecDepth 65536 in
theorem w_alone : about1.alone = true := by decide +kernel
set_option maxRecDepth 65536 in
theorem w_named : about1.methodNamed? x = some theMethod := by decide +kernel
set_option maxRecDepth 65536 in
theorem w_hears : about1.hears theMethod below0 = true := by decide +kernel
set_option maxRecDepth 65536 in
theorem w_ripe : about1.ripe theMethod args0 below0 = true := by decide +kernel
theorem w_running : about1.status = .running := rfl
set_option maxRecDepth 65536 in
theorem w_room : about1.hasRoom e0.platform room_1 = true :=
  launch0.hasRoom_least _ room_1 (by decide +kernel) (by decide +kernel) (by decide +kernel) (by decide +kernel) (by decide +kernel) (by decide +kernel)
theorem allAtoms_all (ts : List Jvm.Cond) (a : Array Jvm.Value) (st : Jvm.State) : (allAtoms ts).before a st = ts.all (fun c => c.before a st) := by
  induction ts with
  | nil => rfl
  | cons c t ih =>
    show (Jvm.Cond.and c (allAtoms t)).before a st = _
    rw [Jvm.Cond.before_and, ih, List.all_cons]
def words1 : List Jvm.Cond := Jvm.Cond.code x code maxLocals ret :: tables_1
/-- a 'code' word, met by the world's own term for the bytes: nothing is compared byte by byte -/
theorem code_word {y : MethodName} {bytes : ByteArray} {mx : Nat} {rt : Option FieldType} {a : Array Value} {s : State} {m : MethodId} {meth : Method} {c : Code} (h1 : s.methodNamed? y = some m) (h2 : s.vm.method? m = some meth) (h3 : meth.code = some c) (h4 : c.code = bytes)
    (h5 : (c.maxLocals == mx && c.exceptionTable.isEmpty && decide (c.maxStack ≤ mostOperands) && decide (meth.sig.returnType = rt) && !meth.locks && decide (parseMethodDescriptor y.desc = some meth.sig)) = true) : (Jvm.Cond.code y bytes mx rt).before a s = true := by
  simp only [Bool.and_eq_true, beq_iff_eq, Bool.not_eq_true', decide_eq_true_eq] at h5
  obtain ⟨⟨⟨⟨⟨g1, g2⟩, g3⟩, g4⟩, g5⟩, g6⟩ := h5
  simp [Cond.before, Cond.holds, Cond.value, h1, h2, h3, h4, g1, g2, g3, g4, g5, g6]
def isCode : Jvm.Cond → Bool
  | .code _ _ _ _ => true
  | _ => false
theorem all_split {L : List Jvm.Cond} {P : Jvm.Cond → Bool} (h1 : L.all (fun c => isCode c || P c) = true) (h2 : ∀ c ∈ L.filter isCode, P c = true) : L.all P = true := by
  refine List.all_eq_true.mpr fun c hc => ?_
  have h := List.all_eq_true.mp h1 c hc
  rcases Bool.eq_false_or_eq_true (isCode c) with hi | hi
  · exact h2 c (List.mem_filter.mpr ⟨hc, hi⟩)
  · simpa [hi] using h
set_option maxRecDepth 65536 in
theorem w_c0 : (Jvm.Cond.code x code maxLocals ret).before args0 about1 = true := code_word (m := ⟨1, 1⟩) (meth := k1m1) (c := k1c1) (by decide +kernel) rfl rfl rfl (by decide +kernel)
set_option maxRecDepth 65536 in
theorem w_c1 : (Jvm.Cond.code ({ cls := "com/example/patuxent/patuxent/PasswordComplexity", name := "ofCode", desc := "(I)Lcom/example/patuxent/patuxent/PasswordComplexity;" } : Jvm.MethodName) prog_8_method_6_code (6 : Nat) (Option.some (Jvm.ClassFile.FieldType.object "com/example/patuxent/patuxent/PasswordComplexity"))).before args0 about1 = true := code_word (m := ⟨6, 1⟩) (meth := k6m1) (c := k6c1) (by decide +kernel) rfl rfl rfl (by decide +kernel)
set_option maxRecDepth 65536 in
theorem w_c2 : (Jvm.Cond.code ({ cls := "com/example/patuxent/patuxent/PasswordComplexity", name := "values", desc := "()[Lcom/example/patuxent/patuxent/PasswordComplexity;" } : Jvm.MethodName) prog_8_method_1_code (0 : Nat) (Option.some (Jvm.ClassFile.FieldType.array (Jvm.ClassFile.FieldType.object "com/example/patuxent/patuxent/PasswordComplexity")))).before args0 about1 = true := code_word (m := ⟨6, 0⟩) (meth := k6m0) (c := k6c0) (by decide +kernel) rfl rfl rfl (by decide +kernel)
set_option maxRecDepth 65536 in
theorem w_c3 : (Jvm.Cond.code ({ cls := "com/example/patuxent/patuxent/PasswordComplexityOfCodePinLaw", name := "expected", desc := "(I)Lcom/example/patuxent/patuxent/PasswordComplexity;" } : Jvm.MethodName) method_3_code (1 : Nat) (Option.some (Jvm.ClassFile.FieldType.object "com/example/patuxent/patuxent/PasswordComplexity"))).before args0 about1 = true := code_word (m := ⟨1, 2⟩) (meth := k1m2) (c := k1c2) (by decide +kernel) rfl rfl rfl (by decide +kernel)
def codes1 : List Jvm.Cond := [Jvm.Cond.code x code maxLocals ret, Jvm.Cond.code ({ cls := "com/example/patuxent/patuxent/PasswordComplexity", name := "ofCode", desc := "(I)Lcom/example/patuxent/patuxent/PasswordComplexity;" } : Jvm.MethodName) prog_8_method_6_code (6 : Nat) (Option.some (Jvm.ClassFile.FieldType.object "com/example/patuxent/patuxent/PasswordComplexity")), Jvm.Cond.code ({ cls := "com/example/patuxent/patuxent/PasswordComplexity", name := "values", desc := "()[Lcom/example/patuxent/patuxent/PasswordComplexity;" } : Jvm.MethodName) prog_8_method_1_code (0 : Nat) (Option.some (Jvm.ClassFile.FieldType.array (Jvm.ClassFile.FieldType.object "com/example/patuxent/patuxent/PasswordComplexity"))), Jvm.Cond.code ({ cls := "com/example/patuxent/patuxent/PasswordComplexityOfCodePinLaw", name := "expected", desc := "(I)Lcom/example/patuxent/patuxent/PasswordComplexity;" } : Jvm.MethodName) method_3_code (1 : Nat) (Option.some (Jvm.ClassFile.FieldType.object "com/example/patuxent/patuxent/PasswordComplexity"))]
set_option maxRecDepth 65536 in
theorem codes_eq : words1.filter isCode = codes1 := rfl
theorem w_codes : ∀ c ∈ words1.filter isCode, c.before args0 about1 = true := by
  rw [codes_eq]
  intro c hc
  simp only [codes1, List.mem_cons, List.not_mem_nil, or_false] at hc
  rcases hc with rfl | rfl | rfl | rfl
  · exact w_c0
  · exact w_c1
  · exact w_c2
  · exact w_c3
set_option maxRecDepth 65536 in
theorem w_t1 : (words1.take 24).all (fun c => isCode c || c.before args0 about1) = true := by decide +kernel
set_option maxRecDepth 65536 in
theorem w_t2 : (words1.drop 24).all (fun c => isCode c || c.before args0 about1) = true := by decide +kernel
theorem w_tables : (allAtoms (Jvm.Cond.code x code maxLocals ret :: tables_1)).before args0 about1 = true := by
  rw [allAtoms_all]
  show words1.all (fun c => c.before args0 about1) = true
  refine all_split ?_ w_codes
  rw [← List.take_append_drop 24 words1, List.all_append, w_t1, w_t2]
  rfl
set_option maxRecDepth 65536 in
theorem w_case : (Jvm.Cond.and given_1 narrow_1).before args0 about1 = true := by decide +kernel
theorem w_applies : (headSpec (Jvm.Cond.code x code maxLocals ret :: tables_1) room_1).applies x e0.platform about1 = true :=
  (Spec.applies_iff w_frames).mpr ⟨w_running, w_runnable, w_alone, w_named, w_hears, w_ripe, w_room, w_tables⟩
theorem atStart : AtStart classFile x code maxLocals ret World_1 tables_1 room_1 Calls_1 rest_1 Pre_1 launch0 p0 e0 about1 theMethod args0 below0 :=
  ⟨lists_1, trivial, launch0.admits_env _ _ _, launch0.least_env, fairChoices_fair.cas, fairChoices_fair.clock, w_frames, w_args, w_heap, w_applies, trivial, trivial, w_case⟩
end start1
theorem witness_1 : WitnessClaimed_1 := ⟨start1.p0, start1.e0, start1.about1, start1.theMethod, start1.args0, start1.below0, start1.atStart⟩
end Jvm.Pilot.@@N@@
