import JvmDerived
import JvmDerived.Pilot.@@N@@Statement
import JvmDerived.Pilot.@@N@@Code
set_option linter.unusedVariables false
set_option linter.unusedSimpArgs false
namespace Jvm.RoadKit
open Sem ClassFile Op Lib Jvm.Stand Jvm.Free Jvm.LawKit
section Own
variable {p : Program} {l : Launch} {e : Env} {R : Room} {s : State} {m : MethodId} {args : Array Value} {below : List Frame} {meth : Method} {c : Code} {T : State} {locs : List Loc} {cells slots : Nat}
/-- from U the run ends, and P is said of the end -/
def Go (p : Program) (e : Env) (below : List Frame) (U : State) (P : Outcome → State → Prop) : Prop := ∃ s₂ o, Steps p.tables e below U s₂ ∧ s₂.status = .running ∧ Ended s₂ below o ∧ P o s₂
theorem Go.st {U U' : State} {P : Outcome → State → Prop} (k : ∀ t, Steps p.tables e below U' t → Steps p.tables e below U t) (g : Go p e below U' P) : Go p e below U P := by
  obtain ⟨t, o, a, r⟩ := g
  exact ⟨t, o, k t a, r⟩
theorem Go.tr {U U' : State} {P : Outcome → State → Prop} (k : Steps p.tables e below U U') (g : Go p e below U' P) : Go p e below U P := by
  obtain ⟨t, o, a, r⟩ := g
  exact ⟨t, o, k.trans a, r⟩
theorem Go.fin (X : Stand p l e R s m args below meth c T locs cells slots) {v : Option Value} (hv : meth.sig.returnType = none → v = none) (hlocks : meth.locks = false) {U : State} {P : Outcome → State → Prop}
    (st : ∀ fs, (∀ (f : JFrame) (acts : List Action), f.method = m → f.locked = none → f.entered = [] → (doReturn e (T.setTop f) acts v).1 = T.setFrames fs) → Steps p.tables e below U (T.setFrames fs))
    (hP : ∀ U' : State, U'.heap = T.heap → FrameEnd s (.returned v) U' locs cells slots → P (.returned v) U') : Go p e below U P := by
  obtain ⟨fs, hr, hrun, hended, hW, hsame⟩ := X.leave hv hlocks
  exact ⟨_, _, st fs hr, hrun, hended, hP _ rfl ⟨⟨_, rfl⟩, hW, hsame⟩⟩
theorem own_ord {a0 : Array Value} {t : Term} {a : Addr} {C n d : String} {k : Int32} (ev : t.eval a0 s none [] s = some (.ref a)) (h : (Cond.eq (.field t C n d) (.int k)).value a0 s none s [] = some true) : s.fieldOf? a C n d = some (.int k) := by
  have e1 := fld_at (C := C) (n := n) (dd := d) ev
  have e2 : (Term.int k).eval a0 s none [] s = some (.int k) := rfl
  cases hf : s.fieldOf? a C n d with
  | none => rw [hf] at e1; simp [Cond.value, e1] at h
  | some w =>
    rw [hf] at e1
    cases w <;> simp [Cond.value, e1, e2] at h
    rw [h]
theorem own_ne {a b : Addr} {C n d : String} {j k : Int32} (h1 : s.fieldOf? a C n d = some (.int j)) (h2 : s.fieldOf? b C n d = some (.int k)) (hne : j ≠ k) : a ≠ b := fun q => by
  subst q
  rw [h1] at h2
  exact hne (by injection (Option.some.inj h2))
theorem own_lsw {g : JFrame} {target : State} (X : Stand p l e R s m args below meth c T locs cells slots) (hx : p.tables.exec = Jvm.exec) (hg : g.method = m) {dflt : Int} {pairs : Array (Int × Int)} {len : Nat} {pc0 pc' : Nat} (hpc : g.pc = pc0)
    (hd : decode c.code g.pc = .ok (.lookupswitch dflt pairs, len)) {i : Int32} {rest : List Value} (hs : g.stack = .int i :: rest) {o : Int} (ho : lookupswitch.offset pairs.toList dflt i.toInt = o) (hso : ∀ (a b a_1 b_1 : Int), ((a, b), a_1, b_1) ∈ pairs.toList.zip pairs.toList.tail → a < a_1) (h0 : 0 ≤ (pc0 : Int) + o) (hp : ((pc0 : Int) + o).toNat = pc')
    (hr : Steps p.tables e below (T.setTop { g with pc := pc', stack := rest }) target) : Steps p.tables e below (T.setTop g) target := by
  subst hg hpc hp ho
  jvm_step X.here [X.here.top, hx, hd, hs, h0, lookupswitch.wp_chain]
  exact ⟨hso, hr⟩
theorem own_arvlt {Z : State} {h : Heap} {a : Addr} {k : ClassId} {ty : FieldType} {n : Int32} {vs : List Value} {d : Value} (V : Arv Z h a k ty n vs d) : a < h.size := by
  obtain ⟨c, A, -⟩ := V
  exact A.lt
end Own
end Jvm.RoadKit
namespace Jvm.Pilot.@@N@@
open Jvm Jvm.ClassFile Sem Op Lib Jvm.Free Jvm.Stand Jvm.LawKit Jvm.RoadKit Bundle Jvm.Pilot.@@N@@.Jvm.D
def own_it (a v m : Addr) : Int32 := if a = v then 0 else if a = m then 0 else 1
theorem d1_0 : decode prog_66_method_4_code 0 = .ok (.aload_n 0, 1) := by decide +kernel
theorem d1_1 : decode prog_66_method_4_code 1 = .ok (.getstatic 3, 3) := by decide +kernel
theorem d1_4 : decode prog_66_method_4_code 4 = .ok (.if_acmp .eq 14, 3) := by decide +kernel
theorem d1_7 : decode prog_66_method_4_code 7 = .ok (.aload_n 0, 1) := by decide +kernel
theorem d1_8 : decode prog_66_method_4_code 8 = .ok (.getstatic 19, 3) := by decide +kernel
theorem d1_11 : decode prog_66_method_4_code 11 = .ok (.if_acmp .eq 7, 3) := by decide +kernel
theorem d1_14 : decode prog_66_method_4_code 14 = .ok (.iconst 1, 1) := by decide +kernel
theorem d1_15 : decode prog_66_method_4_code 15 = .ok (.goto 4, 3) := by decide +kernel
theorem d1_18 : decode prog_66_method_4_code 18 = .ok (.iconst 0, 1) := by decide +kernel
theorem d1_19 : decode prog_66_method_4_code 19 = .ok (.ireturn, 1) := by decide +kernel
theorem pn_10 : plainName "com/example/addenda/addenda/xdr/Definition$Kind" = true := by first | (simp [plainName, overriddenIn]; done) | decide +kernel
theorem ef_rm1 (m : MethodId) (a1 : Addr) : entryFrame m #[(.ref a1)] 1 = mkF m 0 #[.val (.ref a1)] [] := by first | (simp [entryFrame, mkF, argsToLocals, Value.category]; done) | rfl
def Q_rm1 (Z : State) (a1 : Addr) (w_CONST : Addr) (w_PROGRAM : Addr) (h0 : Heap) (n0 : Nat) (v : Option Value) (h : Heap) (L : List Loc) : Prop := v = some (.int (own_it a1 w_CONST w_PROGRAM)) ∧ Fr n0 L ∧ h = h0
set_option maxRecDepth 65536 in
set_option maxHeartbeats 40000000 in
theorem rm1 (l : Launch) (Z : State) (a0 : Array Value) (hw : ∀ d ∈ tables_1, d.before a0 Z = true) (ws : List Jvm.Cond) (a1 : Addr) (w_CONST : Addr) (w_PROGRAM : Addr) (h0 : Heap) (n0 : Nat) (Z0 : n0 ≤ h0.size) (S_CONST : Sta Z h0 "com/example/addenda/addenda/xdr/Definition$Kind" "CONST" "Lcom/example/addenda/addenda/xdr/Definition$Kind;" (.ref w_CONST)) (S_PROGRAM : Sta Z h0 "com/example/addenda/addenda/xdr/Definition$Kind" "PROGRAM" "Lcom/example/addenda/addenda/xdr/Definition$Kind;" (.ref w_PROGRAM)) :
    MetFree l (⟨"com/example/addenda/addenda/xdr/Definition$Kind", "isType", "()Z"⟩ : MethodName) (head1 (Jvm.Cond.code (⟨"com/example/addenda/addenda/xdr/Definition$Kind", "isType", "()Z"⟩ : MethodName) prog_66_method_4_code 1 (some .boolean) :: ws) ({ frames := 0, cells := 0, slots := 0, locals := 0 } : Room)) (fun a U => a = #[(.ref a1)] ∧ Z.Warmed39 U.vm ∧ U.heap = h0) (fun _ _ _ _ _ => True) (fun _ U o U' => ∃ v L, o = .returned v ∧ Q_rm1 Z a1 w_CONST w_PROGRAM h0 n0 v U'.heap L ∧ FrameEnd U o U' L ({ frames := 0, cells := 0, slots := 0, locals := 0 } : Room).cells ({ frames := 0, cells := 0, slots := 0, locals := 0 } : Room).slots) := by
  refine MetFree.of_bodySF (plainFor_of_name pn_10) hisR ?_
  intro p e s m args below meth c s₁ Bd hml0 hP hK
  obtain ⟨rfl, hZ, hh⟩ := hP
  have hx := Bd.exec
  have hby := Bd.bytes
  have hml : c.maxLocals = 1 := hml0
  have hown : s.vm.findClass "com/example/addenda/addenda/xdr/Definition$Kind" = some m.cls := findClass_of_methodNamed Bd.named
  have hnm := (name_of_methodNamed Bd.named Bd.method).1
  have X0 : Stand p l e ({ frames := 0, cells := 0, slots := 0, locals := 0 } : Room) s m #[(.ref a1)] below meth c s₁ [] 0 0 := Stand.of_body Bd
  have e0 : s₁.heap = h0 := by rw [← hh, Bd.state]; rfl
  have N0 := Fr.nil n0
  show Go p e below (s₁.setTop (entryFrame m #[(.ref a1)] 1)) (fun o U' => ∃ v L, o = .returned v ∧ Q_rm1 Z a1 w_CONST w_PROGRAM h0 n0 v U'.heap L ∧ FrameEnd s o U' L ({ frames := 0, cells := 0, slots := 0, locals := 0 } : Room).cells ({ frames := 0, cells := 0, slots := 0, locals := 0 } : Room).slots)
  rw [ef_rm1]
  show Go p e below (s₁.setTop (mkF m 0 #[.val (.ref a1)] [])) _
  refine Go.st (fun _ k_ => XS.aloadN X0.here hx rfl (hb hby d1_0) rfl rfl k_) ?_
  show Go p e below (s₁.setTop (mkF m 1 #[.val (.ref a1)] [(.ref a1)])) _
  obtain ⟨T1, X1, e1, st1⟩ := getS2 X0 hx hZ hown (host := "") (Or.inl (hw _ (List.mem_of_getElem? (i := 9) rfl))) Via.refl e0 S_CONST (g := (mkF m 1 #[.val (.ref a1)] [(.ref a1)])) rfl (hb hby d1_1)
  refine Go.st st1 ?_
  show Go p e below (T1.setTop (mkF m 4 #[.val (.ref a1)] [(.ref w_CONST), (.ref a1)])) _
  by_cases hc4 : a1 = w_CONST
  · refine Go.st (fun _ k_ => Jvm.RoadKit.acmp (g := (mkF m 4 #[.val (.ref a1)] [(.ref w_CONST), (.ref a1)])) X1 hx rfl rfl rfl (pc0 := 4) (pc' := 18) (same := true) rfl (hb hby d1_4) rfl (decide_eq_true (congrArg Value.ref hc4)) (by decide) (by decide) k_) ?_
    show Go p e below (T1.setTop (mkF m 18 #[.val (.ref a1)] [])) _
    refine Go.st (fun _ k_ => XS.iconst X1.here hx rfl (hb hby d1_18) k_) ?_
    show Go p e below (T1.setTop (mkF m 19 #[.val (.ref a1)] [(.int (0 : Int32))])) _
    refine Go.fin X1 (v := some (.int (0 : Int32))) (fun h_ => by rw [Bd.returns] at h_; cases h_) Bd.notSynchronized (fun _ hr => retN X1 hx (t := .boolean) Bd.returns (by simp) (hb hby d1_19) hr) (fun U' hU hF => ⟨_, _, rfl, ?_, hF.1, hF.2.1, hF.2.2.mono (by decide) (by decide)⟩)
    rw [hU, e1]
    exact ⟨(congrArg (fun z_ : Int32 => some (Value.int z_)) (show (0 : Int32) = (own_it a1 w_CONST w_PROGRAM) from by simp [own_it, hc4])), N0, rfl⟩
  · refine Go.st (fun _ k_ => Jvm.RoadKit.acmp (g := (mkF m 4 #[.val (.ref a1)] [(.ref w_CONST), (.ref a1)])) X1 hx rfl rfl rfl (pc0 := 4) (pc' := 7) (same := false) rfl (hb hby d1_4) rfl (decide_eq_false fun q_ => hc4 (Value.ref.inj q_)) (by decide) (by decide) k_) ?_
    show Go p e below (T1.setTop (mkF m 7 #[.val (.ref a1)] [])) _
    refine Go.st (fun _ k_ => XS.aloadN X1.here hx rfl (hb hby d1_7) rfl rfl k_) ?_
    show Go p e below (T1.setTop (mkF m 8 #[.val (.ref a1)] [(.ref a1)])) _
    obtain ⟨T2, X2, e2, st2⟩ := getS2 X1 hx hZ hown (host := "") (Or.inl (hw _ (List.mem_of_getElem? (i := 12) rfl))) Via.refl e1 S_PROGRAM (g := (mkF m 8 #[.val (.ref a1)] [(.ref a1)])) rfl (hb hby d1_8)
    refine Go.st st2 ?_
    show Go p e below (T2.setTop (mkF m 11 #[.val (.ref a1)] [(.ref w_PROGRAM), (.ref a1)])) _
    by_cases hc11 : a1 = w_PROGRAM
    · refine Go.st (fun _ k_ => Jvm.RoadKit.acmp (g := (mkF m 11 #[.val (.ref a1)] [(.ref w_PROGRAM), (.ref a1)])) X2 hx rfl rfl rfl (pc0 := 11) (pc' := 18) (same := true) rfl (hb hby d1_11) rfl (decide_eq_true (congrArg Value.ref hc11)) (by decide) (by decide) k_) ?_
      show Go p e below (T2.setTop (mkF m 18 #[.val (.ref a1)] [])) _
      refine Go.st (fun _ k_ => XS.iconst X2.here hx rfl (hb hby d1_18) k_) ?_
      show Go p e below (T2.setTop (mkF m 19 #[.val (.ref a1)] [(.int (0 : Int32))])) _
      refine Go.fin X2 (v := some (.int (0 : Int32))) (fun h_ => by rw [Bd.returns] at h_; cases h_) Bd.notSynchronized (fun _ hr => retN X2 hx (t := .boolean) Bd.returns (by simp) (hb hby d1_19) hr) (fun U' hU hF => ⟨_, _, rfl, ?_, hF.1, hF.2.1, hF.2.2.mono (by decide) (by decide)⟩)
      rw [hU, e2]
      exact ⟨(congrArg (fun z_ : Int32 => some (Value.int z_)) (show (0 : Int32) = (own_it a1 w_CONST w_PROGRAM) from by simp [own_it, hc4, hc11])), N0, rfl⟩
    · refine Go.st (fun _ k_ => Jvm.RoadKit.acmp (g := (mkF m 11 #[.val (.ref a1)] [(.ref w_PROGRAM), (.ref a1)])) X2 hx rfl rfl rfl (pc0 := 11) (pc' := 14) (same := false) rfl (hb hby d1_11) rfl (decide_eq_false fun q_ => hc11 (Value.ref.inj q_)) (by decide) (by decide) k_) ?_
      show Go p e below (T2.setTop (mkF m 14 #[.val (.ref a1)] [])) _
      refine Go.st (fun _ k_ => XS.iconst X2.here hx rfl (hb hby d1_14) k_) ?_
      show Go p e below (T2.setTop (mkF m 15 #[.val (.ref a1)] [(.int (1 : Int32))])) _
      refine Go.st (fun _ k_ => XS.goto X2.here hx rfl (pc0 := 15) (pc' := 19) rfl (hb hby d1_15) (by decide) (by decide) k_) ?_
      show Go p e below (T2.setTop (mkF m 19 #[.val (.ref a1)] [(.int (1 : Int32))])) _
      refine Go.fin X2 (v := some (.int (1 : Int32))) (fun h_ => by rw [Bd.returns] at h_; cases h_) Bd.notSynchronized (fun _ hr => retN X2 hx (t := .boolean) Bd.returns (by simp) (hb hby d1_19) hr) (fun U' hU hF => ⟨_, _, rfl, ?_, hF.1, hF.2.1, hF.2.2.mono (by decide) (by decide)⟩)
      rw [hU, e2]
      exact ⟨(congrArg (fun z_ : Int32 => some (Value.int z_)) (show (1 : Int32) = (own_it a1 w_CONST w_PROGRAM) from by simp [own_it, hc4, hc11])), N0, rfl⟩
theorem pd_0 : parseMethodDescriptor "()Z" = some ⟨[], some .boolean⟩ := by decide +kernel
theorem pn_11 : plainName "com/example/addenda/addenda/xdr/KindIsTypePinLaw" = true := by first | (simp [plainName, overriddenIn]; done) | decide +kernel
theorem ef_rm0 (m : MethodId) (p1 : Int32) : entryFrame m #[(.int p1)] maxLocals = mkF m 0 #[.val (.int p1), .unset, .unset, .unset] [] := by first | (simp [entryFrame, mkF, argsToLocals, Value.category, maxLocals]; done) | rfl
def Q_rm0 (Z : State) (p1 : Int32) (w_CONST : Addr) (w_PROGRAM : Addr) (w_TYPEDEF : Addr) (w_ENUM : Addr) (w_STRUCT : Addr) (w_UNION : Addr) (h0 : Heap) (n0 : Nat) (v : Option Value) (h : Heap) (L : List Loc) : Prop := v = some (.int (1 : Int32)) ∧ Fr n0 L
set_option maxRecDepth 65536 in
set_option maxHeartbeats 40000000 in
theorem rm0 (l : Launch) (Z : State) (a0 : Array Value) (hw : ∀ d ∈ tables_1, d.before a0 Z = true) (ws : List Jvm.Cond) (p1 : Int32) (w_CONST : Addr) (w_PROGRAM : Addr) (w_TYPEDEF : Addr) (w_ENUM : Addr) (w_STRUCT : Addr) (w_UNION : Addr) (h0 : Heap) (n0 : Nat) (Z0 : n0 ≤ h0.size) (S_CONST : Sta Z h0 "com/example/addenda/addenda/xdr/Definition$Kind" "CONST" "Lcom/example/addenda/addenda/xdr/Definition$Kind;" (.ref w_CONST)) (S_PROGRAM : Sta Z h0 "com/example/addenda/addenda/xdr/Definition$Kind" "PROGRAM" "Lcom/example/addenda/addenda/xdr/Definition$Kind;" (.ref w_PROGRAM)) (S_TYPEDEF : Sta Z h0 "com/example/addenda/addenda/xdr/Definition$Kind" "TYPEDEF" "Lcom/example/addenda/addenda/xdr/Definition$Kind;" (.ref w_TYPEDEF)) (S_ENUM : Sta Z h0 "com/example/addenda/addenda/xdr/Definition$Kind" "ENUM" "Lcom/example/addenda/addenda/xdr/Definition$Kind;" (.ref w_ENUM)) (S_STRUCT : Sta Z h0 "com/example/addenda/addenda/xdr/Definition$Kind" "STRUCT" "Lcom/example/addenda/addenda/xdr/Definition$Kind;" (.ref w_STRUCT)) (S_UNION : Sta Z h0 "com/example/addenda/addenda/xdr/Definition$Kind" "UNION" "Lcom/example/addenda/addenda/xdr/Definition$Kind;" (.ref w_UNION)) (E_w_CONST : Exa Z h0 w_CONST "com/example/addenda/addenda/xdr/Definition$Kind") (E_w_TYPEDEF : Exa Z h0 w_TYPEDEF "com/example/addenda/addenda/xdr/Definition$Kind") (E_w_ENUM : Exa Z h0 w_ENUM "com/example/addenda/addenda/xdr/Definition$Kind") (E_w_STRUCT : Exa Z h0 w_STRUCT "com/example/addenda/addenda/xdr/Definition$Kind") (E_w_UNION : Exa Z h0 w_UNION "com/example/addenda/addenda/xdr/Definition$Kind") (E_w_PROGRAM : Exa Z h0 w_PROGRAM "com/example/addenda/addenda/xdr/Definition$Kind") (ne_TYPEDEF_CONST : w_TYPEDEF ≠ w_CONST) (ne_TYPEDEF_PROGRAM : w_TYPEDEF ≠ w_PROGRAM) (ne_ENUM_CONST : w_ENUM ≠ w_CONST) (ne_ENUM_PROGRAM : w_ENUM ≠ w_PROGRAM) (ne_STRUCT_CONST : w_STRUCT ≠ w_CONST) (ne_STRUCT_PROGRAM : w_STRUCT ≠ w_PROGRAM) (ne_UNION_CONST : w_UNION ≠ w_CONST) (ne_UNION_PROGRAM : w_UNION ≠ w_PROGRAM) :
    MetFree l x (head1 (Jvm.Cond.code x code maxLocals ret :: ws) room_1) (fun a U => a = #[(.int p1)] ∧ Z.Warmed39 U.vm ∧ U.heap = h0) (fun _ _ _ _ _ => True) (fun _ U o U' => ∃ v L, o = .returned v ∧ Q_rm0 Z p1 w_CONST w_PROGRAM w_TYPEDEF w_ENUM w_STRUCT w_UNION h0 n0 v U'.heap L ∧ FrameEnd U o U' L room_1.cells room_1.slots) := by
  refine MetFree.of_bodySF (plainFor_of_name pn_11) hisR ?_
  intro p e s m args below meth c s₁ Bd hml0 hP hK
  obtain ⟨rfl, hZ, hh⟩ := hP
  have hx := Bd.exec
  have hby := Bd.bytes
  have hml : c.maxLocals = 4 := hml0
  have hown : s.vm.findClass "com/example/addenda/addenda/xdr/KindIsTypePinLaw" = some m.cls := findClass_of_methodNamed Bd.named
  have hnm := (name_of_methodNamed Bd.named Bd.method).1
  have X0 : Stand p l e room_1 s m #[(.int p1)] below meth c s₁ [] 0 0 := Stand.of_body Bd
  have e0 : s₁.heap = h0 := by rw [← hh, Bd.state]; rfl
  have N0 := Fr.nil n0
  show Go p e below (s₁.setTop (entryFrame m #[(.int p1)] maxLocals)) (fun o U' => ∃ v L, o = .returned v ∧ Q_rm0 Z p1 w_CONST w_PROGRAM w_TYPEDEF w_ENUM w_STRUCT w_UNION h0 n0 v U'.heap L ∧ FrameEnd s o U' L room_1.cells room_1.slots)
  rw [ef_rm0]
  show Go p e below (s₁.setTop (mkF m 0 #[.val (.int p1), .unset, .unset, .unset] [])) _
  refine Go.st (fun _ k_ => XS.iloadN X0.here hx rfl (hb hby at_0) rfl k_) ?_
  show Go p e below (s₁.setTop (mkF m 1 #[.val (.int p1), .unset, .unset, .unset] [(.int p1)])) _
  refine Go.st (X0.ldcInt hx hown (mvT hZ (hw _ (List.mem_of_getElem? (i := 0) rfl))) (g := (mkF m 1 #[.val (.int p1), .unset, .unset, .unset] [(.int p1)])) rfl (hb hby at_1)) ?_
  show Go p e below (s₁.setTop (mkF m 3 #[.val (.int p1), .unset, .unset, .unset] [(.int (2147483647 : Int32)), (.int p1)])) _
  refine Go.st (fun _ k_ => XS.iand X0.here hx rfl (hb hby at_3) rfl k_) ?_
  show Go p e below (s₁.setTop (mkF m 4 #[.val (.int p1), .unset, .unset, .unset] [(.int (p1 &&& (2147483647 : Int32)))])) _
  refine Go.st (fun _ k_ => XS.bipush X0.here hx rfl (hb hby at_4) k_) ?_
  show Go p e below (s₁.setTop (mkF m 6 #[.val (.int p1), .unset, .unset, .unset] [(.int (6 : Int32)), (.int (p1 &&& (2147483647 : Int32)))])) _
  refine Go.st (fun _ k_ => Jvm.RoadKit.iremM (g := (mkF m 6 #[.val (.int p1), .unset, .unset, .unset] [(.int (6 : Int32)), (.int (p1 &&& (2147483647 : Int32)))])) X0 hx rfl (hb hby at_6) rfl (by decide) k_) ?_
  show Go p e below (s₁.setTop (mkF m 7 #[.val (.int p1), .unset, .unset, .unset] [(.int ((p1 &&& (2147483647 : Int32)) % (6 : Int32)))])) _
  obtain ⟨cc, ecc⟩ : ∃ z_ : Int32, z_ = ((p1 &&& (2147483647 : Int32)) % (6 : Int32)) := ⟨_, rfl⟩
  rw [← ecc]
  show Go p e below (s₁.setTop (mkF m 7 #[.val (.int p1), .unset, .unset, .unset] [(.int cc)])) _
  refine Go.st (fun _ k_ => XS.istoreN X0.here hx rfl (hb hby at_7) rfl (l' := #[.val (.int p1), .val (.int cc), .unset, .unset]) rfl k_) ?_
  show Go p e below (s₁.setTop (mkF m 8 #[.val (.int p1), .val (.int cc), .unset, .unset] [])) _
  refine Go.st (fun _ k_ => XS.iloadN X0.here hx rfl (hb hby at_8) rfl k_) ?_
  show Go p e below (s₁.setTop (mkF m 9 #[.val (.int p1), .val (.int cc), .unset, .unset] [(.int cc)])) _
  by_cases hc9 : cc = (0 : Int32)
  · refine Go.st (fun _ k_ => XS.ifNo X0.here hx rfl (hb hby at_9) rfl ((if0 _ _).trans (teq hc9).2) k_) ?_
    show Go p e below (s₁.setTop (mkF m 12 #[.val (.int p1), .val (.int cc), .unset, .unset] [])) _
    obtain ⟨T1, X1, e1, st1⟩ := getS2 X0 hx hZ hown (host := "") (Or.inl (hw _ (List.mem_of_getElem? (i := 1) rfl))) Via.refl e0 S_CONST (g := (mkF m 12 #[.val (.int p1), .val (.int cc), .unset, .unset] [])) rfl (hb hby at_12)
    refine Go.st st1 ?_
    show Go p e below (T1.setTop (mkF m 15 #[.val (.int p1), .val (.int cc), .unset, .unset] [(.ref w_CONST)])) _
    refine Go.st (fun _ k_ => XS.astoreN X1.here hx rfl (hb hby at_15) rfl rfl (l' := #[.val (.int p1), .val (.int cc), .val (.ref w_CONST), .unset]) rfl k_) ?_
    show Go p e below (T1.setTop (mkF m 16 #[.val (.int p1), .val (.int cc), .val (.ref w_CONST), .unset] [])) _
    refine Go.st (fun _ k_ => XS.iconst X1.here hx rfl (hb hby at_16) k_) ?_
    show Go p e below (T1.setTop (mkF m 17 #[.val (.int p1), .val (.int cc), .val (.ref w_CONST), .unset] [(.int (0 : Int32))])) _
    refine Go.st (fun _ k_ => XS.istoreN X1.here hx rfl (hb hby at_17) rfl (l' := #[.val (.int p1), .val (.int cc), .val (.ref w_CONST), .val (.int (0 : Int32))]) rfl k_) ?_
    show Go p e below (T1.setTop (mkF m 18 #[.val (.int p1), .val (.int cc), .val (.ref w_CONST), .val (.int (0 : Int32))] [])) _
    refine Go.st (fun _ k_ => XS.goto X1.here hx rfl (pc0 := 18) (pc' := 83) rfl (hb hby at_18) (by decide) (by decide) k_) ?_
    show Go p e below (T1.setTop (mkF m 83 #[.val (.int p1), .val (.int cc), .val (.ref w_CONST), .val (.int (0 : Int32))] [])) _
    refine Go.st (fun _ k_ => XS.aloadN X1.here hx rfl (hb hby at_83) rfl rfl k_) ?_
    show Go p e below (T1.setTop (mkF m 84 #[.val (.int p1), .val (.int cc), .val (.ref w_CONST), .val (.int (0 : Int32))] [(.ref w_CONST)])) _
    obtain ⟨cq2, kq2, q2a, q2b, q2c⟩ := isOf hZ e1 E_w_CONST
    obtain ⟨_, _, ⟨T2, L2, k2_, n2_⟩, -, X2, ⟨Lc2, hQ2, l2_, y2_, z2_⟩, st2⟩ := X1.virtualBack hx (y := (⟨"com/example/addenda/addenda/xdr/Definition$Kind", "isType", "()Z"⟩ : MethodName)) (z := (⟨"com/example/addenda/addenda/xdr/Definition$Kind", "isType", "()Z"⟩ : MethodName)) hown (mvT hZ (hw _ (List.mem_of_getElem? (i := 4) rfl))) (mvT hZ (hw _ (List.mem_of_getElem? (i := 5) rfl))) (notFace_of_selects (args := #[]) (mvT hZ (hw _ (List.mem_of_getElem? (i := 7) rfl)))) (mvT hZ (hw _ (List.mem_of_getElem? (i := 7) rfl))) (mvT hZ (hw _ (List.mem_of_getElem? (i := 6) rfl))) (by decide) (backOf (W := 0) (rm1 l Z a0 hw [] w_CONST w_CONST w_PROGRAM h0 n0 Z0 S_CONST S_PROGRAM) hZ (hw _ (List.mem_of_getElem? (i := 8) rfl)) (hw _ (List.mem_of_getElem? (i := 2) rfl)) (by decide) (by decide)) q2a q2c (g := (mkF m 84 #[.val (.int p1), .val (.int cc), .val (.ref w_CONST), .val (.int (0 : Int32))] [(.ref w_CONST)])) rfl (by rw [hml]; rfl) (Steps.refl _) (argsL := []) (rest := []) (lenOf pd_0 rfl) rfl (by show 2 * 0 + _ ≤ _; exact Nat.le_of_eq rfl) (hb hby at_84) (fun _ _ => ⟨rfl, e1, (by decide : 0 + 0 ≤ _), (by decide : 0 + 0 ≤ _)⟩)
    dsimp only [Pt.U, Pt.locs, Pt.cells, Pt.slots] at X2 l2_ y2_ z2_ st2 hQ2
    subst l2_ y2_ z2_
    obtain ⟨rfl, N2q, e2⟩ := hQ2
    have N2 := Fr.app N0 N2q
    refine Go.tr st2 ?_
    show Go p e below (T2.setTop (mkF m 87 #[.val (.int p1), .val (.int cc), .val (.ref w_CONST), .val (.int (0 : Int32))] [(.int (own_it w_CONST w_CONST w_PROGRAM))])) _
    refine Go.st (fun _ k_ => XS.iloadN X2.here hx rfl (hb hby at_87) rfl k_) ?_
    show Go p e below (T2.setTop (mkF m 88 #[.val (.int p1), .val (.int cc), .val (.ref w_CONST), .val (.int (0 : Int32))] [(.int (0 : Int32)), (.int (own_it w_CONST w_CONST w_PROGRAM))])) _
    have hc88 : (own_it w_CONST w_CONST w_PROGRAM) = (0 : Int32) := by simp [own_it, ne_TYPEDEF_CONST, ne_TYPEDEF_PROGRAM, ne_ENUM_CONST, ne_ENUM_PROGRAM, ne_STRUCT_CONST, ne_STRUCT_PROGRAM, ne_UNION_CONST, ne_UNION_PROGRAM]
    refine Go.st (fun _ k_ => XS.icmpNo X2.here hx rfl (hb hby at_88) rfl (teq hc88).2 k_) ?_
    show Go p e below (T2.setTop (mkF m 91 #[.val (.int p1), .val (.int cc), .val (.ref w_CONST), .val (.int (0 : Int32))] [])) _
    refine Go.st (fun _ k_ => XS.iconst X2.here hx rfl (hb hby at_91) k_) ?_
    show Go p e below (T2.setTop (mkF m 92 #[.val (.int p1), .val (.int cc), .val (.ref w_CONST), .val (.int (0 : Int32))] [(.int (1 : Int32))])) _
    refine Go.st (fun _ k_ => XS.goto X2.here hx rfl (pc0 := 92) (pc' := 96) rfl (hb hby at_92) (by decide) (by decide) k_) ?_
    show Go p e below (T2.setTop (mkF m 96 #[.val (.int p1), .val (.int cc), .val (.ref w_CONST), .val (.int (0 : Int32))] [(.int (1 : Int32))])) _
    refine Go.fin X2 (v := some (.int (1 : Int32))) (fun h_ => by rw [Bd.returns] at h_; cases h_) Bd.notSynchronized (fun _ hr => retN X2 hx (t := .boolean) Bd.returns (by simp) (hb hby at_96) hr) (fun U' hU hF => ⟨_, _, rfl, ?_, hF.1, hF.2.1, hF.2.2.mono (by decide) (by decide)⟩)
    exact ⟨(congrArg (fun z_ : Int32 => some (Value.int z_)) (show (1 : Int32) = (1 : Int32) from rfl)), N2⟩
  · refine Go.st (fun _ k_ => XS.ifYes X0.here hx rfl (pc0 := 9) (pc' := 21) rfl (hb hby at_9) rfl ((if0 _ _).trans (feq hc9).2) (by decide) (by decide) k_) ?_
    show Go p e below (s₁.setTop (mkF m 21 #[.val (.int p1), .val (.int cc), .unset, .unset] [])) _
    refine Go.st (fun _ k_ => XS.iloadN X0.here hx rfl (hb hby at_21) rfl k_) ?_
    show Go p e below (s₁.setTop (mkF m 22 #[.val (.int p1), .val (.int cc), .unset, .unset] [(.int cc)])) _
    refine Go.st (fun _ k_ => XS.iconst X0.here hx rfl (hb hby at_22) k_) ?_
    show Go p e below (s₁.setTop (mkF m 23 #[.val (.int p1), .val (.int cc), .unset, .unset] [(.int (1 : Int32)), (.int cc)])) _
    by_cases hc23 : cc = (1 : Int32)
    · refine Go.st (fun _ k_ => XS.icmpNo X0.here hx rfl (hb hby at_23) rfl (teq hc23).2 k_) ?_
      show Go p e below (s₁.setTop (mkF m 26 #[.val (.int p1), .val (.int cc), .unset, .unset] [])) _
      obtain ⟨T3, X3, e3, st3⟩ := getS2 X0 hx hZ hown (host := "") (Or.inl (hw _ (List.mem_of_getElem? (i := 16) rfl))) Via.refl e0 S_TYPEDEF (g := (mkF m 26 #[.val (.int p1), .val (.int cc), .unset, .unset] [])) rfl (hb hby at_26)
      refine Go.st st3 ?_
      show Go p e below (T3.setTop (mkF m 29 #[.val (.int p1), .val (.int cc), .unset, .unset] [(.ref w_TYPEDEF)])) _
      refine Go.st (fun _ k_ => XS.astoreN X3.here hx rfl (hb hby at_29) rfl rfl (l' := #[.val (.int p1), .val (.int cc), .val (.ref w_TYPEDEF), .unset]) rfl k_) ?_
      show Go p e below (T3.setTop (mkF m 30 #[.val (.int p1), .val (.int cc), .val (.ref w_TYPEDEF), .unset] [])) _
      refine Go.st (fun _ k_ => XS.iconst X3.here hx rfl (hb hby at_30) k_) ?_
      show Go p e below (T3.setTop (mkF m 31 #[.val (.int p1), .val (.int cc), .val (.ref w_TYPEDEF), .unset] [(.int (1 : Int32))])) _
      refine Go.st (fun _ k_ => XS.istoreN X3.here hx rfl (hb hby at_31) rfl (l' := #[.val (.int p1), .val (.int cc), .val (.ref w_TYPEDEF), .val (.int (1 : Int32))]) rfl k_) ?_
      show Go p e below (T3.setTop (mkF m 32 #[.val (.int p1), .val (.int cc), .val (.ref w_TYPEDEF), .val (.int (1 : Int32))] [])) _
      refine Go.st (fun _ k_ => XS.goto X3.here hx rfl (pc0 := 32) (pc' := 83) rfl (hb hby at_32) (by decide) (by decide) k_) ?_
      show Go p e below (T3.setTop (mkF m 83 #[.val (.int p1), .val (.int cc), .val (.ref w_TYPEDEF), .val (.int (1 : Int32))] [])) _
      refine Go.st (fun _ k_ => XS.aloadN X3.here hx rfl (hb hby at_83) rfl rfl k_) ?_
      show Go p e below (T3.setTop (mkF m 84 #[.val (.int p1), .val (.int cc), .val (.ref w_TYPEDEF), .val (.int (1 : Int32))] [(.ref w_TYPEDEF)])) _
      obtain ⟨cq4, kq4, q4a, q4b, q4c⟩ := isOf hZ e3 E_w_TYPEDEF
      obtain ⟨_, _, ⟨T4, L4, k4_, n4_⟩, -, X4, ⟨Lc4, hQ4, l4_, y4_, z4_⟩, st4⟩ := X3.virtualBack hx (y := (⟨"com/example/addenda/addenda/xdr/Definition$Kind", "isType", "()Z"⟩ : MethodName)) (z := (⟨"com/example/addenda/addenda/xdr/Definition$Kind", "isType", "()Z"⟩ : MethodName)) hown (mvT hZ (hw _ (List.mem_of_getElem? (i := 4) rfl))) (mvT hZ (hw _ (List.mem_of_getElem? (i := 5) rfl))) (notFace_of_selects (args := #[]) (mvT hZ (hw _ (List.mem_of_getElem? (i := 7) rfl)))) (mvT hZ (hw _ (List.mem_of_getElem? (i := 7) rfl))) (mvT hZ (hw _ (List.mem_of_getElem? (i := 6) rfl))) (by decide) (backOf (W := 0) (rm1 l Z a0 hw [] w_TYPEDEF w_CONST w_PROGRAM h0 n0 Z0 S_CONST S_PROGRAM) hZ (hw _ (List.mem_of_getElem? (i := 8) rfl)) (hw _ (List.mem_of_getElem? (i := 2) rfl)) (by decide) (by decide)) q4a q4c (g := (mkF m 84 #[.val (.int p1), .val (.int cc), .val (.ref w_TYPEDEF), .val (.int (1 : Int32))] [(.ref w_TYPEDEF)])) rfl (by rw [hml]; rfl) (Steps.refl _) (argsL := []) (rest := []) (lenOf pd_0 rfl) rfl (by show 2 * 0 + _ ≤ _; exact Nat.le_of_eq rfl) (hb hby at_84) (fun _ _ => ⟨rfl, e3, (by decide : 0 + 0 ≤ _), (by decide : 0 + 0 ≤ _)⟩)
      dsimp only [Pt.U, Pt.locs, Pt.cells, Pt.slots] at X4 l4_ y4_ z4_ st4 hQ4
      subst l4_ y4_ z4_
      obtain ⟨rfl, N4q, e4⟩ := hQ4
      have N4 := Fr.app N0 N4q
      refine Go.tr st4 ?_
      show Go p e below (T4.setTop (mkF m 87 #[.val (.int p1), .val (.int cc), .val (.ref w_TYPEDEF), .val (.int (1 : Int32))] [(.int (own_it w_TYPEDEF w_CONST w_PROGRAM))])) _
      refine Go.st (fun _ k_ => XS.iloadN X4.here hx rfl (hb hby at_87) rfl k_) ?_
      show Go p e below (T4.setTop (mkF m 88 #[.val (.int p1), .val (.int cc), .val (.ref w_TYPEDEF), .val (.int (1 : Int32))] [(.int (1 : Int32)), (.int (own_it w_TYPEDEF w_CONST w_PROGRAM))])) _
      have hc88 : (own_it w_TYPEDEF w_CONST w_PROGRAM) = (1 : Int32) := by simp [own_it, ne_TYPEDEF_CONST, ne_TYPEDEF_PROGRAM, ne_ENUM_CONST, ne_ENUM_PROGRAM, ne_STRUCT_CONST, ne_STRUCT_PROGRAM, ne_UNION_CONST, ne_UNION_PROGRAM]
      refine Go.st (fun _ k_ => XS.icmpNo X4.here hx rfl (hb hby at_88) rfl (teq hc88).2 k_) ?_
      show Go p e below (T4.setTop (mkF m 91 #[.val (.int p1), .val (.int cc), .val (.ref w_TYPEDEF), .val (.int (1 : Int32))] [])) _
      refine Go.st (fun _ k_ => XS.iconst X4.here hx rfl (hb hby at_91) k_) ?_
      show Go p e below (T4.setTop (mkF m 92 #[.val (.int p1), .val (.int cc), .val (.ref w_TYPEDEF), .val (.int (1 : Int32))] [(.int (1 : Int32))])) _
      refine Go.st (fun _ k_ => XS.goto X4.here hx rfl (pc0 := 92) (pc' := 96) rfl (hb hby at_92) (by decide) (by decide) k_) ?_
      show Go p e below (T4.setTop (mkF m 96 #[.val (.int p1), .val (.int cc), .val (.ref w_TYPEDEF), .val (.int (1 : Int32))] [(.int (1 : Int32))])) _
      refine Go.fin X4 (v := some (.int (1 : Int32))) (fun h_ => by rw [Bd.returns] at h_; cases h_) Bd.notSynchronized (fun _ hr => retN X4 hx (t := .boolean) Bd.returns (by simp) (hb hby at_96) hr) (fun U' hU hF => ⟨_, _, rfl, ?_, hF.1, hF.2.1, hF.2.2.mono (by decide) (by decide)⟩)
      exact ⟨(congrArg (fun z_ : Int32 => some (Value.int z_)) (show (1 : Int32) = (1 : Int32) from rfl)), N4⟩
    · refine Go.st (fun _ k_ => XS.icmpYes X0.here hx rfl (pc0 := 23) (pc' := 35) rfl (hb hby at_23) rfl (feq hc23).2 (by decide) (by decide) k_) ?_
      show Go p e below (s₁.setTop (mkF m 35 #[.val (.int p1), .val (.int cc), .unset, .unset] [])) _
      refine Go.st (fun _ k_ => XS.iloadN X0.here hx rfl (hb hby at_35) rfl k_) ?_
      show Go p e below (s₁.setTop (mkF m 36 #[.val (.int p1), .val (.int cc), .unset, .unset] [(.int cc)])) _
      refine Go.st (fun _ k_ => XS.iconst X0.here hx rfl (hb hby at_36) k_) ?_
      show Go p e below (s₁.setTop (mkF m 37 #[.val (.int p1), .val (.int cc), .unset, .unset] [(.int (2 : Int32)), (.int cc)])) _
      by_cases hc37 : cc = (2 : Int32)
      · refine Go.st (fun _ k_ => XS.icmpNo X0.here hx rfl (hb hby at_37) rfl (teq hc37).2 k_) ?_
        show Go p e below (s₁.setTop (mkF m 40 #[.val (.int p1), .val (.int cc), .unset, .unset] [])) _
        obtain ⟨T5, X5, e5, st5⟩ := getS2 X0 hx hZ hown (host := "") (Or.inl (hw _ (List.mem_of_getElem? (i := 14) rfl))) Via.refl e0 S_ENUM (g := (mkF m 40 #[.val (.int p1), .val (.int cc), .unset, .unset] [])) rfl (hb hby at_40)
        refine Go.st st5 ?_
        show Go p e below (T5.setTop (mkF m 43 #[.val (.int p1), .val (.int cc), .unset, .unset] [(.ref w_ENUM)])) _
        refine Go.st (fun _ k_ => XS.astoreN X5.here hx rfl (hb hby at_43) rfl rfl (l' := #[.val (.int p1), .val (.int cc), .val (.ref w_ENUM), .unset]) rfl k_) ?_
        show Go p e below (T5.setTop (mkF m 44 #[.val (.int p1), .val (.int cc), .val (.ref w_ENUM), .unset] [])) _
        refine Go.st (fun _ k_ => XS.iconst X5.here hx rfl (hb hby at_44) k_) ?_
        show Go p e below (T5.setTop (mkF m 45 #[.val (.int p1), .val (.int cc), .val (.ref w_ENUM), .unset] [(.int (1 : Int32))])) _
        refine Go.st (fun _ k_ => XS.istoreN X5.here hx rfl (hb hby at_45) rfl (l' := #[.val (.int p1), .val (.int cc), .val (.ref w_ENUM), .val (.int (1 : Int32))]) rfl k_) ?_
        show Go p e below (T5.setTop (mkF m 46 #[.val (.int p1), .val (.int cc), .val (.ref w_ENUM), .val (.int (1 : Int32))] [])) _
        refine Go.st (fun _ k_ => XS.goto X5.here hx rfl (pc0 := 46) (pc' := 83) rfl (hb hby at_46) (by decide) (by decide) k_) ?_
        show Go p e below (T5.setTop (mkF m 83 #[.val (.int p1), .val (.int cc), .val (.ref w_ENUM), .val (.int (1 : Int32))] [])) _
        refine Go.st (fun _ k_ => XS.aloadN X5.here hx rfl (hb hby at_83) rfl rfl k_) ?_
        show Go p e below (T5.setTop (mkF m 84 #[.val (.int p1), .val (.int cc), .val (.ref w_ENUM), .val (.int (1 : Int32))] [(.ref w_ENUM)])) _
        obtain ⟨cq6, kq6, q6a, q6b, q6c⟩ := isOf hZ e5 E_w_ENUM
        obtain ⟨_, _, ⟨T6, L6, k6_, n6_⟩, -, X6, ⟨Lc6, hQ6, l6_, y6_, z6_⟩, st6⟩ := X5.virtualBack hx (y := (⟨"com/example/addenda/addenda/xdr/Definition$Kind", "isType", "()Z"⟩ : MethodName)) (z := (⟨"com/example/addenda/addenda/xdr/Definition$Kind", "isType", "()Z"⟩ : MethodName)) hown (mvT hZ (hw _ (List.mem_of_getElem? (i := 4) rfl))) (mvT hZ (hw _ (List.mem_of_getElem? (i := 5) rfl))) (notFace_of_selects (args := #[]) (mvT hZ (hw _ (List.mem_of_getElem? (i := 7) rfl)))) (mvT hZ (hw _ (List.mem_of_getElem? (i := 7) rfl))) (mvT hZ (hw _ (List.mem_of_getElem? (i := 6) rfl))) (by decide) (backOf (W := 0) (rm1 l Z a0 hw [] w_ENUM w_CONST w_PROGRAM h0 n0 Z0 S_CONST S_PROGRAM) hZ (hw _ (List.mem_of_getElem? (i := 8) rfl)) (hw _ (List.mem_of_getElem? (i := 2) rfl)) (by decide) (by decide)) q6a q6c (g := (mkF m 84 #[.val (.int p1), .val (.int cc), .val (.ref w_ENUM), .val (.int (1 : Int32))] [(.ref w_ENUM)])) rfl (by rw [hml]; rfl) (Steps.refl _) (argsL := []) (rest := []) (lenOf pd_0 rfl) rfl (by show 2 * 0 + _ ≤ _; exact Nat.le_of_eq rfl) (hb hby at_84) (fun _ _ => ⟨rfl, e5, (by decide : 0 + 0 ≤ _), (by decide : 0 + 0 ≤ _)⟩)
        dsimp only [Pt.U, Pt.locs, Pt.cells, Pt.slots] at X6 l6_ y6_ z6_ st6 hQ6
        subst l6_ y6_ z6_
        obtain ⟨rfl, N6q, e6⟩ := hQ6
        have N6 := Fr.app N0 N6q
        refine Go.tr st6 ?_
        show Go p e below (T6.setTop (mkF m 87 #[.val (.int p1), .val (.int cc), .val (.ref w_ENUM), .val (.int (1 : Int32))] [(.int (own_it w_ENUM w_CONST w_PROGRAM))])) _
        refine Go.st (fun _ k_ => XS.iloadN X6.here hx rfl (hb hby at_87) rfl k_) ?_
        show Go p e below (T6.setTop (mkF m 88 #[.val (.int p1), .val (.int cc), .val (.ref w_ENUM), .val (.int (1 : Int32))] [(.int (1 : Int32)), (.int (own_it w_ENUM w_CONST w_PROGRAM))])) _
        have hc88 : (own_it w_ENUM w_CONST w_PROGRAM) = (1 : Int32) := by simp [own_it, ne_TYPEDEF_CONST, ne_TYPEDEF_PROGRAM, ne_ENUM_CONST, ne_ENUM_PROGRAM, ne_STRUCT_CONST, ne_STRUCT_PROGRAM, ne_UNION_CONST, ne_UNION_PROGRAM]
        refine Go.st (fun _ k_ => XS.icmpNo X6.here hx rfl (hb hby at_88) rfl (teq hc88).2 k_) ?_
        show Go p e below (T6.setTop (mkF m 91 #[.val (.int p1), .val (.int cc), .val (.ref w_ENUM), .val (.int (1 : Int32))] [])) _
        refine Go.st (fun _ k_ => XS.iconst X6.here hx rfl (hb hby at_91) k_) ?_
        show Go p e below (T6.setTop (mkF m 92 #[.val (.int p1), .val (.int cc), .val (.ref w_ENUM), .val (.int (1 : Int32))] [(.int (1 : Int32))])) _
        refine Go.st (fun _ k_ => XS.goto X6.here hx rfl (pc0 := 92) (pc' := 96) rfl (hb hby at_92) (by decide) (by decide) k_) ?_
        show Go p e below (T6.setTop (mkF m 96 #[.val (.int p1), .val (.int cc), .val (.ref w_ENUM), .val (.int (1 : Int32))] [(.int (1 : Int32))])) _
        refine Go.fin X6 (v := some (.int (1 : Int32))) (fun h_ => by rw [Bd.returns] at h_; cases h_) Bd.notSynchronized (fun _ hr => retN X6 hx (t := .boolean) Bd.returns (by simp) (hb hby at_96) hr) (fun U' hU hF => ⟨_, _, rfl, ?_, hF.1, hF.2.1, hF.2.2.mono (by decide) (by decide)⟩)
        exact ⟨(congrArg (fun z_ : Int32 => some (Value.int z_)) (show (1 : Int32) = (1 : Int32) from rfl)), N6⟩
      · refine Go.st (fun _ k_ => XS.icmpYes X0.here hx rfl (pc0 := 37) (pc' := 49) rfl (hb hby at_37) rfl (feq hc37).2 (by decide) (by decide) k_) ?_
        show Go p e below (s₁.setTop (mkF m 49 #[.val (.int p1), .val (.int cc), .unset, .unset] [])) _
        refine Go.st (fun _ k_ => XS.iloadN X0.here hx rfl (hb hby at_49) rfl k_) ?_
        show Go p e below (s₁.setTop (mkF m 50 #[.val (.int p1), .val (.int cc), .unset, .unset] [(.int cc)])) _
        refine Go.st (fun _ k_ => XS.iconst X0.here hx rfl (hb hby at_50) k_) ?_
        show Go p e below (s₁.setTop (mkF m 51 #[.val (.int p1), .val (.int cc), .unset, .unset] [(.int (3 : Int32)), (.int cc)])) _
        by_cases hc51 : cc = (3 : Int32)
        · refine Go.st (fun _ k_ => XS.icmpNo X0.here hx rfl (hb hby at_51) rfl (teq hc51).2 k_) ?_
          show Go p e below (s₁.setTop (mkF m 54 #[.val (.int p1), .val (.int cc), .unset, .unset] [])) _
          obtain ⟨T7, X7, e7, st7⟩ := getS2 X0 hx hZ hown (host := "") (Or.inl (hw _ (List.mem_of_getElem? (i := 10) rfl))) Via.refl e0 S_STRUCT (g := (mkF m 54 #[.val (.int p1), .val (.int cc), .unset, .unset] [])) rfl (hb hby at_54)
          refine Go.st st7 ?_
          show Go p e below (T7.setTop (mkF m 57 #[.val (.int p1), .val (.int cc), .unset, .unset] [(.ref w_STRUCT)])) _
          refine Go.st (fun _ k_ => XS.astoreN X7.here hx rfl (hb hby at_57) rfl rfl (l' := #[.val (.int p1), .val (.int cc), .val (.ref w_STRUCT), .unset]) rfl k_) ?_
          show Go p e below (T7.setTop (mkF m 58 #[.val (.int p1), .val (.int cc), .val (.ref w_STRUCT), .unset] [])) _
          refine Go.st (fun _ k_ => XS.iconst X7.here hx rfl (hb hby at_58) k_) ?_
          show Go p e below (T7.setTop (mkF m 59 #[.val (.int p1), .val (.int cc), .val (.ref w_STRUCT), .unset] [(.int (1 : Int32))])) _
          refine Go.st (fun _ k_ => XS.istoreN X7.here hx rfl (hb hby at_59) rfl (l' := #[.val (.int p1), .val (.int cc), .val (.ref w_STRUCT), .val (.int (1 : Int32))]) rfl k_) ?_
          show Go p e below (T7.setTop (mkF m 60 #[.val (.int p1), .val (.int cc), .val (.ref w_STRUCT), .val (.int (1 : Int32))] [])) _
          refine Go.st (fun _ k_ => XS.goto X7.here hx rfl (pc0 := 60) (pc' := 83) rfl (hb hby at_60) (by decide) (by decide) k_) ?_
          show Go p e below (T7.setTop (mkF m 83 #[.val (.int p1), .val (.int cc), .val (.ref w_STRUCT), .val (.int (1 : Int32))] [])) _
          refine Go.st (fun _ k_ => XS.aloadN X7.here hx rfl (hb hby at_83) rfl rfl k_) ?_
          show Go p e below (T7.setTop (mkF m 84 #[.val (.int p1), .val (.int cc), .val (.ref w_STRUCT), .val (.int (1 : Int32))] [(.ref w_STRUCT)])) _
          obtain ⟨cq8, kq8, q8a, q8b, q8c⟩ := isOf hZ e7 E_w_STRUCT
          obtain ⟨_, _, ⟨T8, L8, k8_, n8_⟩, -, X8, ⟨Lc8, hQ8, l8_, y8_, z8_⟩, st8⟩ := X7.virtualBack hx (y := (⟨"com/example/addenda/addenda/xdr/Definition$Kind", "isType", "()Z"⟩ : MethodName)) (z := (⟨"com/example/addenda/addenda/xdr/Definition$Kind", "isType", "()Z"⟩ : MethodName)) hown (mvT hZ (hw _ (List.mem_of_getElem? (i := 4) rfl))) (mvT hZ (hw _ (List.mem_of_getElem? (i := 5) rfl))) (notFace_of_selects (args := #[]) (mvT hZ (hw _ (List.mem_of_getElem? (i := 7) rfl)))) (mvT hZ (hw _ (List.mem_of_getElem? (i := 7) rfl))) (mvT hZ (hw _ (List.mem_of_getElem? (i := 6) rfl))) (by decide) (backOf (W := 0) (rm1 l Z a0 hw [] w_STRUCT w_CONST w_PROGRAM h0 n0 Z0 S_CONST S_PROGRAM) hZ (hw _ (List.mem_of_getElem? (i := 8) rfl)) (hw _ (List.mem_of_getElem? (i := 2) rfl)) (by decide) (by decide)) q8a q8c (g := (mkF m 84 #[.val (.int p1), .val (.int cc), .val (.ref w_STRUCT), .val (.int (1 : Int32))] [(.ref w_STRUCT)])) rfl (by rw [hml]; rfl) (Steps.refl _) (argsL := []) (rest := []) (lenOf pd_0 rfl) rfl (by show 2 * 0 + _ ≤ _; exact Nat.le_of_eq rfl) (hb hby at_84) (fun _ _ => ⟨rfl, e7, (by decide : 0 + 0 ≤ _), (by decide : 0 + 0 ≤ _)⟩)
          dsimp only [Pt.U, Pt.locs, Pt.cells, Pt.slots] at X8 l8_ y8_ z8_ st8 hQ8
          subst l8_ y8_ z8_
          obtain ⟨rfl, N8q, e8⟩ := hQ8
          have N8 := Fr.app N0 N8q
          refine Go.tr st8 ?_
          show Go p e below (T8.setTop (mkF m 87 #[.val (.int p1), .val (.int cc), .val (.ref w_STRUCT), .val (.int (1 : Int32))] [(.int (own_it w_STRUCT w_CONST w_PROGRAM))])) _
          refine Go.st (fun _ k_ => XS.iloadN X8.here hx rfl (hb hby at_87) rfl k_) ?_
          show Go p e below (T8.setTop (mkF m 88 #[.val (.int p1), .val (.int cc), .val (.ref w_STRUCT), .val (.int (1 : Int32))] [(.int (1 : Int32)), (.int (own_it w_STRUCT w_CONST w_PROGRAM))])) _
          have hc88 : (own_it w_STRUCT w_CONST w_PROGRAM) = (1 : Int32) := by simp [own_it, ne_TYPEDEF_CONST, ne_TYPEDEF_PROGRAM, ne_ENUM_CONST, ne_ENUM_PROGRAM, ne_STRUCT_CONST, ne_STRUCT_PROGRAM, ne_UNION_CONST, ne_UNION_PROGRAM]
          refine Go.st (fun _ k_ => XS.icmpNo X8.here hx rfl (hb hby at_88) rfl (teq hc88).2 k_) ?_
          show Go p e below (T8.setTop (mkF m 91 #[.val (.int p1), .val (.int cc), .val (.ref w_STRUCT), .val (.int (1 : Int32))] [])) _
          refine Go.st (fun _ k_ => XS.iconst X8.here hx rfl (hb hby at_91) k_) ?_
          show Go p e below (T8.setTop (mkF m 92 #[.val (.int p1), .val (.int cc), .val (.ref w_STRUCT), .val (.int (1 : Int32))] [(.int (1 : Int32))])) _
          refine Go.st (fun _ k_ => XS.goto X8.here hx rfl (pc0 := 92) (pc' := 96) rfl (hb hby at_92) (by decide) (by decide) k_) ?_
          show Go p e below (T8.setTop (mkF m 96 #[.val (.int p1), .val (.int cc), .val (.ref w_STRUCT), .val (.int (1 : Int32))] [(.int (1 : Int32))])) _
          refine Go.fin X8 (v := some (.int (1 : Int32))) (fun h_ => by rw [Bd.returns] at h_; cases h_) Bd.notSynchronized (fun _ hr => retN X8 hx (t := .boolean) Bd.returns (by simp) (hb hby at_96) hr) (fun U' hU hF => ⟨_, _, rfl, ?_, hF.1, hF.2.1, hF.2.2.mono (by decide) (by decide)⟩)
          exact ⟨(congrArg (fun z_ : Int32 => some (Value.int z_)) (show (1 : Int32) = (1 : Int32) from rfl)), N8⟩
        · refine Go.st (fun _ k_ => XS.icmpYes X0.here hx rfl (pc0 := 51) (pc' := 63) rfl (hb hby at_51) rfl (feq hc51).2 (by decide) (by decide) k_) ?_
          show Go p e below (s₁.setTop (mkF m 63 #[.val (.int p1), .val (.int cc), .unset, .unset] [])) _
          refine Go.st (fun _ k_ => XS.iloadN X0.here hx rfl (hb hby at_63) rfl k_) ?_
          show Go p e below (s₁.setTop (mkF m 64 #[.val (.int p1), .val (.int cc), .unset, .unset] [(.int cc)])) _
          refine Go.st (fun _ k_ => XS.iconst X0.here hx rfl (hb hby at_64) k_) ?_
          show Go p e below (s₁.setTop (mkF m 65 #[.val (.int p1), .val (.int cc), .unset, .unset] [(.int (4 : Int32)), (.int cc)])) _
          by_cases hc65 : cc = (4 : Int32)
          · refine Go.st (fun _ k_ => XS.icmpNo X0.here hx rfl (hb hby at_65) rfl (teq hc65).2 k_) ?_
            show Go p e below (s₁.setTop (mkF m 68 #[.val (.int p1), .val (.int cc), .unset, .unset] [])) _
            obtain ⟨T9, X9, e9, st9⟩ := getS2 X0 hx hZ hown (host := "") (Or.inl (hw _ (List.mem_of_getElem? (i := 19) rfl))) Via.refl e0 S_UNION (g := (mkF m 68 #[.val (.int p1), .val (.int cc), .unset, .unset] [])) rfl (hb hby at_68)
            refine Go.st st9 ?_
            show Go p e below (T9.setTop (mkF m 71 #[.val (.int p1), .val (.int cc), .unset, .unset] [(.ref w_UNION)])) _
            refine Go.st (fun _ k_ => XS.astoreN X9.here hx rfl (hb hby at_71) rfl rfl (l' := #[.val (.int p1), .val (.int cc), .val (.ref w_UNION), .unset]) rfl k_) ?_
            show Go p e below (T9.setTop (mkF m 72 #[.val (.int p1), .val (.int cc), .val (.ref w_UNION), .unset] [])) _
            refine Go.st (fun _ k_ => XS.iconst X9.here hx rfl (hb hby at_72) k_) ?_
            show Go p e below (T9.setTop (mkF m 73 #[.val (.int p1), .val (.int cc), .val (.ref w_UNION), .unset] [(.int (1 : Int32))])) _
            refine Go.st (fun _ k_ => XS.istoreN X9.here hx rfl (hb hby at_73) rfl (l' := #[.val (.int p1), .val (.int cc), .val (.ref w_UNION), .val (.int (1 : Int32))]) rfl k_) ?_
            show Go p e below (T9.setTop (mkF m 74 #[.val (.int p1), .val (.int cc), .val (.ref w_UNION), .val (.int (1 : Int32))] [])) _
            refine Go.st (fun _ k_ => XS.goto X9.here hx rfl (pc0 := 74) (pc' := 83) rfl (hb hby at_74) (by decide) (by decide) k_) ?_
            show Go p e below (T9.setTop (mkF m 83 #[.val (.int p1), .val (.int cc), .val (.ref w_UNION), .val (.int (1 : Int32))] [])) _
            refine Go.st (fun _ k_ => XS.aloadN X9.here hx rfl (hb hby at_83) rfl rfl k_) ?_
            show Go p e below (T9.setTop (mkF m 84 #[.val (.int p1), .val (.int cc), .val (.ref w_UNION), .val (.int (1 : Int32))] [(.ref w_UNION)])) _
            obtain ⟨cq10, kq10, q10a, q10b, q10c⟩ := isOf hZ e9 E_w_UNION
            obtain ⟨_, _, ⟨T10, L10, k10_, n10_⟩, -, X10, ⟨Lc10, hQ10, l10_, y10_, z10_⟩, st10⟩ := X9.virtualBack hx (y := (⟨"com/example/addenda/addenda/xdr/Definition$Kind", "isType", "()Z"⟩ : MethodName)) (z := (⟨"com/example/addenda/addenda/xdr/Definition$Kind", "isType", "()Z"⟩ : MethodName)) hown (mvT hZ (hw _ (List.mem_of_getElem? (i := 4) rfl))) (mvT hZ (hw _ (List.mem_of_getElem? (i := 5) rfl))) (notFace_of_selects (args := #[]) (mvT hZ (hw _ (List.mem_of_getElem? (i := 7) rfl)))) (mvT hZ (hw _ (List.mem_of_getElem? (i := 7) rfl))) (mvT hZ (hw _ (List.mem_of_getElem? (i := 6) rfl))) (by decide) (backOf (W := 0) (rm1 l Z a0 hw [] w_UNION w_CONST w_PROGRAM h0 n0 Z0 S_CONST S_PROGRAM) hZ (hw _ (List.mem_of_getElem? (i := 8) rfl)) (hw _ (List.mem_of_getElem? (i := 2) rfl)) (by decide) (by decide)) q10a q10c (g := (mkF m 84 #[.val (.int p1), .val (.int cc), .val (.ref w_UNION), .val (.int (1 : Int32))] [(.ref w_UNION)])) rfl (by rw [hml]; rfl) (Steps.refl _) (argsL := []) (rest := []) (lenOf pd_0 rfl) rfl (by show 2 * 0 + _ ≤ _; exact Nat.le_of_eq rfl) (hb hby at_84) (fun _ _ => ⟨rfl, e9, (by decide : 0 + 0 ≤ _), (by decide : 0 + 0 ≤ _)⟩)
            dsimp only [Pt.U, Pt.locs, Pt.cells, Pt.slots] at X10 l10_ y10_ z10_ st10 hQ10
            subst l10_ y10_ z10_
            obtain ⟨rfl, N10q, e10⟩ := hQ10
            have N10 := Fr.app N0 N10q
            refine Go.tr st10 ?_
            show Go p e below (T10.setTop (mkF m 87 #[.val (.int p1), .val (.int cc), .val (.ref w_UNION), .val (.int (1 : Int32))] [(.int (own_it w_UNION w_CONST w_PROGRAM))])) _
            refine Go.st (fun _ k_ => XS.iloadN X10.here hx rfl (hb hby at_87) rfl k_) ?_
            show Go p e below (T10.setTop (mkF m 88 #[.val (.int p1), .val (.int cc), .val (.ref w_UNION), .val (.int (1 : Int32))] [(.int (1 : Int32)), (.int (own_it w_UNION w_CONST w_PROGRAM))])) _
            have hc88 : (own_it w_UNION w_CONST w_PROGRAM) = (1 : Int32) := by simp [own_it, ne_TYPEDEF_CONST, ne_TYPEDEF_PROGRAM, ne_ENUM_CONST, ne_ENUM_PROGRAM, ne_STRUCT_CONST, ne_STRUCT_PROGRAM, ne_UNION_CONST, ne_UNION_PROGRAM]
            refine Go.st (fun _ k_ => XS.icmpNo X10.here hx rfl (hb hby at_88) rfl (teq hc88).2 k_) ?_
            show Go p e below (T10.setTop (mkF m 91 #[.val (.int p1), .val (.int cc), .val (.ref w_UNION), .val (.int (1 : Int32))] [])) _
            refine Go.st (fun _ k_ => XS.iconst X10.here hx rfl (hb hby at_91) k_) ?_
            show Go p e below (T10.setTop (mkF m 92 #[.val (.int p1), .val (.int cc), .val (.ref w_UNION), .val (.int (1 : Int32))] [(.int (1 : Int32))])) _
            refine Go.st (fun _ k_ => XS.goto X10.here hx rfl (pc0 := 92) (pc' := 96) rfl (hb hby at_92) (by decide) (by decide) k_) ?_
            show Go p e below (T10.setTop (mkF m 96 #[.val (.int p1), .val (.int cc), .val (.ref w_UNION), .val (.int (1 : Int32))] [(.int (1 : Int32))])) _
            refine Go.fin X10 (v := some (.int (1 : Int32))) (fun h_ => by rw [Bd.returns] at h_; cases h_) Bd.notSynchronized (fun _ hr => retN X10 hx (t := .boolean) Bd.returns (by simp) (hb hby at_96) hr) (fun U' hU hF => ⟨_, _, rfl, ?_, hF.1, hF.2.1, hF.2.2.mono (by decide) (by decide)⟩)
            exact ⟨(congrArg (fun z_ : Int32 => some (Value.int z_)) (show (1 : Int32) = (1 : Int32) from rfl)), N10⟩
          · refine Go.st (fun _ k_ => XS.icmpYes X0.here hx rfl (pc0 := 65) (pc' := 77) rfl (hb hby at_65) rfl (feq hc65).2 (by decide) (by decide) k_) ?_
            show Go p e below (s₁.setTop (mkF m 77 #[.val (.int p1), .val (.int cc), .unset, .unset] [])) _
            obtain ⟨T11, X11, e11, st11⟩ := getS2 X0 hx hZ hown (host := "") (Or.inl (hw _ (List.mem_of_getElem? (i := 18) rfl))) Via.refl e0 S_PROGRAM (g := (mkF m 77 #[.val (.int p1), .val (.int cc), .unset, .unset] [])) rfl (hb hby at_77)
            refine Go.st st11 ?_
            show Go p e below (T11.setTop (mkF m 80 #[.val (.int p1), .val (.int cc), .unset, .unset] [(.ref w_PROGRAM)])) _
            refine Go.st (fun _ k_ => XS.astoreN X11.here hx rfl (hb hby at_80) rfl rfl (l' := #[.val (.int p1), .val (.int cc), .val (.ref w_PROGRAM), .unset]) rfl k_) ?_
            show Go p e below (T11.setTop (mkF m 81 #[.val (.int p1), .val (.int cc), .val (.ref w_PROGRAM), .unset] [])) _
            refine Go.st (fun _ k_ => XS.iconst X11.here hx rfl (hb hby at_81) k_) ?_
            show Go p e below (T11.setTop (mkF m 82 #[.val (.int p1), .val (.int cc), .val (.ref w_PROGRAM), .unset] [(.int (0 : Int32))])) _
            refine Go.st (fun _ k_ => XS.istoreN X11.here hx rfl (hb hby at_82) rfl (l' := #[.val (.int p1), .val (.int cc), .val (.ref w_PROGRAM), .val (.int (0 : Int32))]) rfl k_) ?_
            show Go p e below (T11.setTop (mkF m 83 #[.val (.int p1), .val (.int cc), .val (.ref w_PROGRAM), .val (.int (0 : Int32))] [])) _
            refine Go.st (fun _ k_ => XS.aloadN X11.here hx rfl (hb hby at_83) rfl rfl k_) ?_
            show Go p e below (T11.setTop (mkF m 84 #[.val (.int p1), .val (.int cc), .val (.ref w_PROGRAM), .val (.int (0 : Int32))] [(.ref w_PROGRAM)])) _
            obtain ⟨cq12, kq12, q12a, q12b, q12c⟩ := isOf hZ e11 E_w_PROGRAM
            obtain ⟨_, _, ⟨T12, L12, k12_, n12_⟩, -, X12, ⟨Lc12, hQ12, l12_, y12_, z12_⟩, st12⟩ := X11.virtualBack hx (y := (⟨"com/example/addenda/addenda/xdr/Definition$Kind", "isType", "()Z"⟩ : MethodName)) (z := (⟨"com/example/addenda/addenda/xdr/Definition$Kind", "isType", "()Z"⟩ : MethodName)) hown (mvT hZ (hw _ (List.mem_of_getElem? (i := 4) rfl))) (mvT hZ (hw _ (List.mem_of_getElem? (i := 5) rfl))) (notFace_of_selects (args := #[]) (mvT hZ (hw _ (List.mem_of_getElem? (i := 7) rfl)))) (mvT hZ (hw _ (List.mem_of_getElem? (i := 7) rfl))) (mvT hZ (hw _ (List.mem_of_getElem? (i := 6) rfl))) (by decide) (backOf (W := 0) (rm1 l Z a0 hw [] w_PROGRAM w_CONST w_PROGRAM h0 n0 Z0 S_CONST S_PROGRAM) hZ (hw _ (List.mem_of_getElem? (i := 8) rfl)) (hw _ (List.mem_of_getElem? (i := 2) rfl)) (by decide) (by decide)) q12a q12c (g := (mkF m 84 #[.val (.int p1), .val (.int cc), .val (.ref w_PROGRAM), .val (.int (0 : Int32))] [(.ref w_PROGRAM)])) rfl (by rw [hml]; rfl) (Steps.refl _) (argsL := []) (rest := []) (lenOf pd_0 rfl) rfl (by show 2 * 0 + _ ≤ _; exact Nat.le_of_eq rfl) (hb hby at_84) (fun _ _ => ⟨rfl, e11, (by decide : 0 + 0 ≤ _), (by decide : 0 + 0 ≤ _)⟩)
            dsimp only [Pt.U, Pt.locs, Pt.cells, Pt.slots] at X12 l12_ y12_ z12_ st12 hQ12
            subst l12_ y12_ z12_
            obtain ⟨rfl, N12q, e12⟩ := hQ12
            have N12 := Fr.app N0 N12q
            refine Go.tr st12 ?_
            show Go p e below (T12.setTop (mkF m 87 #[.val (.int p1), .val (.int cc), .val (.ref w_PROGRAM), .val (.int (0 : Int32))] [(.int (own_it w_PROGRAM w_CONST w_PROGRAM))])) _
            refine Go.st (fun _ k_ => XS.iloadN X12.here hx rfl (hb hby at_87) rfl k_) ?_
            show Go p e below (T12.setTop (mkF m 88 #[.val (.int p1), .val (.int cc), .val (.ref w_PROGRAM), .val (.int (0 : Int32))] [(.int (0 : Int32)), (.int (own_it w_PROGRAM w_CONST w_PROGRAM))])) _
            have hc88 : (own_it w_PROGRAM w_CONST w_PROGRAM) = (0 : Int32) := by simp [own_it, ne_TYPEDEF_CONST, ne_TYPEDEF_PROGRAM, ne_ENUM_CONST, ne_ENUM_PROGRAM, ne_STRUCT_CONST, ne_STRUCT_PROGRAM, ne_UNION_CONST, ne_UNION_PROGRAM]
            refine Go.st (fun _ k_ => XS.icmpNo X12.here hx rfl (hb hby at_88) rfl (teq hc88).2 k_) ?_
            show Go p e below (T12.setTop (mkF m 91 #[.val (.int p1), .val (.int cc), .val (.ref w_PROGRAM), .val (.int (0 : Int32))] [])) _
            refine Go.st (fun _ k_ => XS.iconst X12.here hx rfl (hb hby at_91) k_) ?_
            show Go p e below (T12.setTop (mkF m 92 #[.val (.int p1), .val (.int cc), .val (.ref w_PROGRAM), .val (.int (0 : Int32))] [(.int (1 : Int32))])) _
            refine Go.st (fun _ k_ => XS.goto X12.here hx rfl (pc0 := 92) (pc' := 96) rfl (hb hby at_92) (by decide) (by decide) k_) ?_
            show Go p e below (T12.setTop (mkF m 96 #[.val (.int p1), .val (.int cc), .val (.ref w_PROGRAM), .val (.int (0 : Int32))] [(.int (1 : Int32))])) _
            refine Go.fin X12 (v := some (.int (1 : Int32))) (fun h_ => by rw [Bd.returns] at h_; cases h_) Bd.notSynchronized (fun _ hr => retN X12 hx (t := .boolean) Bd.returns (by simp) (hb hby at_96) hr) (fun U' hU hF => ⟨_, _, rfl, ?_, hF.1, hF.2.1, hF.2.2.mono (by decide) (by decide)⟩)
            exact ⟨(congrArg (fun z_ : Int32 => some (Value.int z_)) (show (1 : Int32) = (1 : Int32) from rfl)), N12⟩
set_option maxRecDepth 65536 in
set_option maxHeartbeats 40000000 in
theorem comes_1 {Post : Tables → Env → Array Value → State → Outcome → State → Prop} (hpost : ∀ tb e args s v u, (limb_1_1.after args s (.returned v) u = true ∧ limb_1_2.after args s (.returned v) u = true ∧ True) → FrameEnd s (.returned v) u (Jvm.fieldLocs frame_1_writes args s ++ Jvm.arrayLocs frame_1_arrays args s ++ Jvm.staticLocs frame_1_statics s) 0 0 → Post tb e args s (.returned v) u) :
    ArmFor flags0 classFile x code maxLocals ret World_1 tables_1 room_1 Calls_1 rest_1 Pre_1 Post := by
  intro l hfl _ _ p e ha hc hk s m args below hf hA hF happ hP
  obtain ⟨hcalls, hrest, hpre⟩ := hP
  obtain ⟨-, -, -, hnamed, -, -, -, hat⟩ := (Spec.applies_iff hf).mp happ
  obtain ⟨hg, hn⟩ := and_e (Cond.before_iff.mp (show (Jvm.Cond.and given_1 narrow_1).before args s = true from hpre))
  obtain ⟨g1, g2⟩ := and_e hg
  obtain ⟨g3, g4⟩ := and_e hn
  obtain ⟨g5, g6⟩ := and_e g4
  obtain ⟨g7, g8⟩ := and_e g6
  obtain ⟨g9, g10⟩ := and_e g8
  obtain ⟨g11, g12⟩ := and_e g10
  obtain ⟨g13, g14⟩ := and_e g12
  obtain ⟨g15, g16⟩ := and_e g14
  obtain ⟨g17, g18⟩ := and_e g16
  obtain ⟨g19, g20⟩ := and_e g18
  obtain ⟨g21, g22⟩ := and_e g20
  obtain ⟨g23, g24⟩ := and_e g22
  obtain ⟨w0, rfl⟩ : ∃ w0 : Value, args = #[w0] := by
    have hs : args.size = 1 := by simpa [Cond.value, given_1] using g1
    obtain ⟨L⟩ := args
    match L, hs with
    | [w0], _ => exact ⟨w0, rfl⟩
  have hw := fun d (hd : d ∈ tables_1) => atoms_spec (ws := Jvm.Cond.code x code maxLocals ret :: tables_1) hat d (List.mem_cons_of_mem _ hd)
  have hfit : Fit s := fun {y c} hc i hi => by
    obtain ⟨ha, rfl⟩ := Array.getElem?_eq_some_iff.mp hc
    have q := List.all_eq_true.mp ((Array.all_eq_true_iff_forall_mem.mp hF) _ (Array.getElem_mem ha)) i (List.mem_range.mpr hi)
    simpa [Array.getElem?_eq_getElem hi] using q
  obtain ⟨i0, ei0⟩ := is_v g2
  obtain rfl : w0 = (.int i0) := Option.some.inj ei0
  obtain ⟨w_CONST, ew_CONST⟩ := exa_v g3
  have E_w_CONST := Exa.start ew_CONST g3
  have S_CONST := Sta.start ew_CONST (Or.inr ⟨(hw _ (List.mem_of_getElem? (i := 2) rfl)), (hw _ (List.mem_of_getElem? (i := 3) rfl))⟩)
  obtain ⟨w_STRUCT, ew_STRUCT⟩ := exa_v g5
  have E_w_STRUCT := Exa.start ew_STRUCT g5
  have S_STRUCT := Sta.start ew_STRUCT (Or.inr ⟨(hw _ (List.mem_of_getElem? (i := 2) rfl)), (hw _ (List.mem_of_getElem? (i := 11) rfl))⟩)
  obtain ⟨w_PROGRAM, ew_PROGRAM⟩ := exa_v g11
  have E_w_PROGRAM := Exa.start ew_PROGRAM g11
  have S_PROGRAM := Sta.start ew_PROGRAM (Or.inr ⟨(hw _ (List.mem_of_getElem? (i := 2) rfl)), (hw _ (List.mem_of_getElem? (i := 13) rfl))⟩)
  obtain ⟨w_ENUM, ew_ENUM⟩ := exa_v g15
  have E_w_ENUM := Exa.start ew_ENUM g15
  have S_ENUM := Sta.start ew_ENUM (Or.inr ⟨(hw _ (List.mem_of_getElem? (i := 2) rfl)), (hw _ (List.mem_of_getElem? (i := 15) rfl))⟩)
  obtain ⟨w_TYPEDEF, ew_TYPEDEF⟩ := exa_v g19
  have E_w_TYPEDEF := Exa.start ew_TYPEDEF g19
  have S_TYPEDEF := Sta.start ew_TYPEDEF (Or.inr ⟨(hw _ (List.mem_of_getElem? (i := 2) rfl)), (hw _ (List.mem_of_getElem? (i := 17) rfl))⟩)
  obtain ⟨w_UNION, ew_UNION⟩ := exa_v g23
  have E_w_UNION := Exa.start ew_UNION g23
  have S_UNION := Sta.start ew_UNION (Or.inr ⟨(hw _ (List.mem_of_getElem? (i := 2) rfl)), (hw _ (List.mem_of_getElem? (i := 20) rfl))⟩)
  have o_ordinal_STRUCT := own_ord ew_STRUCT g7
  have o_ordinal_CONST := own_ord ew_CONST g9
  have o_ordinal_PROGRAM := own_ord ew_PROGRAM g13
  have o_ordinal_ENUM := own_ord ew_ENUM g17
  have o_ordinal_TYPEDEF := own_ord ew_TYPEDEF g21
  have o_ordinal_UNION := own_ord ew_UNION g24
  have ne_TYPEDEF_CONST : w_TYPEDEF ≠ w_CONST := own_ne o_ordinal_TYPEDEF o_ordinal_CONST (by decide)
  have ne_TYPEDEF_PROGRAM : w_TYPEDEF ≠ w_PROGRAM := own_ne o_ordinal_TYPEDEF o_ordinal_PROGRAM (by decide)
  have ne_ENUM_CONST : w_ENUM ≠ w_CONST := own_ne o_ordinal_ENUM o_ordinal_CONST (by decide)
  have ne_ENUM_PROGRAM : w_ENUM ≠ w_PROGRAM := own_ne o_ordinal_ENUM o_ordinal_PROGRAM (by decide)
  have ne_STRUCT_CONST : w_STRUCT ≠ w_CONST := own_ne o_ordinal_STRUCT o_ordinal_CONST (by decide)
  have ne_STRUCT_PROGRAM : w_STRUCT ≠ w_PROGRAM := own_ne o_ordinal_STRUCT o_ordinal_PROGRAM (by decide)
  have ne_UNION_CONST : w_UNION ≠ w_CONST := own_ne o_ordinal_UNION o_ordinal_CONST (by decide)
  have ne_UNION_PROGRAM : w_UNION ≠ w_PROGRAM := own_ne o_ordinal_UNION o_ordinal_PROGRAM (by decide)
  obtain ⟨n, o, h1, h2, h3, _, L, rfl, ⟨rfl, N⟩, hq⟩ := rm0 l s _ hw tables_1 i0 w_CONST w_PROGRAM w_TYPEDEF w_ENUM w_STRUCT w_UNION s.heap s.heap.size (Nat.le_refl _) S_CONST S_PROGRAM S_TYPEDEF S_ENUM S_STRUCT S_UNION E_w_CONST E_w_TYPEDEF E_w_ENUM E_w_STRUCT E_w_UNION E_w_PROGRAM ne_TYPEDEF_CONST ne_TYPEDEF_PROGRAM ne_ENUM_CONST ne_ENUM_PROGRAM ne_STRUCT_CONST ne_STRUCT_PROGRAM ne_UNION_CONST ne_UNION_PROGRAM p e ha hc hk s m _ below hf ((Spec.applies_iff_loose hf).mp happ).1 ⟨rfl, State.Warmed39.refl s, rfl⟩ trivial
  refine ⟨n, _, h1, h2, h3, hpost _ _ _ _ _ _ ⟨Cond.after_iff.mpr rfl, Cond.after_iff.mpr (eq_i res_at (Term.int_eval (1)) rfl), trivial⟩ ⟨hq.1, hq.2.1, (hq.2.2.sift fun y hy => Or.inr (N y hy)).mono (by decide) (by decide)⟩⟩
theorem main_1_1 : Claimed_1_1 := comes_1 fun _ _ _ _ _ _ h hF => ⟨h.1, hF⟩
theorem main_1_2 : Claimed_1_2 := comes_1 fun _ _ _ _ _ _ h hF => ⟨h.2.1, hF⟩
end Jvm.Pilot.@@N@@
namespace Jvm.Pilot.@@N@@
open Jvm Jvm.ClassFile Sem Op Lib Jvm.Free Jvm.Stand Jvm.Pilot.@@N@@.Jvm.D
/-! MADE BY PROGRAM (witnessworld.py) out of the Statement's table words and the real class files: 12 classes; the members and pool entries that the words name. The judged class is class 1, her method 1. -/
namespace start1
open Jvm.ClassFile
def u (s : String) : CpInfo := .utf8 (stringToUtf16 s)
/-- a pool by its gaps: so many unusable entries, then the entry; so many at the end -/
def gap : Nat → List CpInfo → List CpInfo
  | 0, r => r
  | n + 1, r => .unusable :: gap n r
def poolList (es : List (Nat × CpInfo)) (last : Nat) : List CpInfo := es.foldr (fun e r => gap e.1 (e.2 :: r)) (gap last [])
def pool (es : List (Nat × CpInfo)) (last : Nat) : Array CpInfo := ⟨poolList es last⟩
def fileOf (pool : Array CpInfo) (this : Nat) (attrs : Array Attribute := #[]) (ms : Array MethodInfo := #[]) (fl : Nat := 33) (sup : Nat := 0) (ifs : Array Nat := #[]) (fds : Array FieldInfo := #[]) : ClassFile where
  minorVersion := 0
  majorVersion := 65
  constantPool := pool
  accessFlags := fl
  thisClass := this
  superClass := sup
  interfaces := ifs
  fields := fds
  methods := ms
  attributes := attrs
def plain (name : String) (sup : Option ClassId) : Class where
  name := name
  kind := .ordinary
  loader := none
  accessFlags := 33
  super := sup
  interfaces := #[]
  cf := none
  fields := #[]
  methods := #[]
  instanceTypes := #[]
  staticTypes := #[]
  resolved := #[]
  callSites := []
  init := .initialized
  statics := none
  mirror := none

def pool0 : Array CpInfo := pool [(5, u "<init>"), (0, u "()V"), (1, .class_ 10), (1, u "java/lang/Object")] 113

def k0m0 : Method := { name := "<init>", desc := "()V", sig := { parameters := [], returnType := none }, accessFlags := 1, code := none }
/-- java/lang/Object -/
def k0 : Class := { plain "java/lang/Object" none with
  accessFlags := 33
  interfaces := #[]
  cf := some (fileOf pool0 8 #[] #[{ accessFlags := 1, nameIndex := 5, descriptorIndex := 6, attributes := #[] }] 33 0 #[] #[])
  fields := #[]
  methods := #[k0m0]
  instanceTypes := #[]
  staticTypes := #[]
  resolved := Array.replicate 124 none
  statics := none }

def pool1 : Array CpInfo := pool [(2, .class_ 4), (1, u "java/lang/Object"), (0, u "<init>"), (0, u "()V"), (0, .integer 2147483647), (0, .fieldref 9 10), (0, .class_ 11), (0, .nameAndType 12 13), (0, u "com/example/addenda/addenda/xdr/Definition$Kind"), (0, u "CONST"), (0, u "Lcom/example/addenda/addenda/xdr/Definition$Kind;"), (0, .fieldref 9 15), (0, .nameAndType 16 13), (0, u "TYPEDEF"), (0, .fieldref 9 18), (0, .nameAndType 19 13), (0, u "ENUM"), (0, .fieldref 9 21), (0, .nameAndType 22 13), (0, u "STRUCT"), (0, .fieldref 9 24), (0, .nameAndType 25 13), (0, u "UNION"), (0, .fieldref 9 27), (0, .nameAndType 28 13), (0, u "PROGRAM"), (0, .methodref 9 30), (0, .nameAndType 31 32), (0, u "isType"), (0, u "()Z"), (0, .class_ 34), (0, u "com/example/addenda/addenda/xdr/KindIsTypePinLaw"), (2, u "law"), (0, u "(I)Z")] 7

def k1m0 : Method := { name := "<init>", desc := "()V", sig := { parameters := [], returnType := none }, accessFlags := 2, code := none }
def k1c1 : Code := { maxStack := 2, maxLocals := 4, code := code, exceptionTable := #[], attributes := #[] }
def k1m1 : Method := { name := "law", desc := "(I)Z", sig := { parameters := [.int], returnType := some .boolean }, accessFlags := 9, code := some k1c1 }
/-- com/example/addenda/addenda/xdr/KindIsTypePinLaw -/
def k1 : Class := { plain "com/example/addenda/addenda/xdr/KindIsTypePinLaw" (some 0) with
  accessFlags := 49
  interfaces := #[]
  cf := some (fileOf pool1 33 #[] #[{ accessFlags := 2, nameIndex := 5, descriptorIndex := 6, attributes := #[] }, { accessFlags := 9, nameIndex := 37, descriptorIndex := 38, attributes := #[] }] 49 2 #[] #[])
  fields := #[]
  methods := #[k1m0, k1m1]
  instanceTypes := #[]
  staticTypes := #[]
  resolved := Array.replicate 46 none
  statics := none }

def pool2 : Array CpInfo := pool [(1, .class_ 2), (0, u "java/lang/constant/Constable"), (0, .class_ 4), (0, u "java/lang/Object")] 6

/-- java/lang/constant/Constable -/
def k2 : Class := { plain "java/lang/constant/Constable" (some 0) with
  accessFlags := 1537
  interfaces := #[]
  cf := some (fileOf pool2 1 #[] #[] 1537 3 #[] #[])
  fields := #[]
  methods := #[]
  instanceTypes := #[]
  staticTypes := #[]
  resolved := Array.replicate 11 none
  statics := none }

def pool3 : Array CpInfo := pool [(1, .class_ 2), (0, u "java/lang/Comparable"), (0, .class_ 4), (0, u "java/lang/Object")] 7

/-- java/lang/Comparable -/
def k3 : Class := { plain "java/lang/Comparable" (some 0) with
  accessFlags := 1537
  interfaces := #[]
  cf := some (fileOf pool3 1 #[] #[] 1537 3 #[] #[])
  fields := #[]
  methods := #[]
  instanceTypes := #[]
  staticTypes := #[]
  resolved := Array.replicate 12 none
  statics := none }

def pool4 : Array CpInfo := pool [(1, .class_ 2), (0, u "java/io/Serializable"), (0, .class_ 4), (0, u "java/lang/Object")] 2

/-- java/io/Serializable -/
def k4 : Class := { plain "java/io/Serializable" (some 0) with
  accessFlags := 1537
  interfaces := #[]
  cf := some (fileOf pool4 1 #[] #[] 1537 3 #[] #[])
  fields := #[]
  methods := #[]
  instanceTypes := #[]
  staticTypes := #[]
  resolved := Array.replicate 7 none
  statics := none }

def pool5 : Array CpInfo := pool [(2, .class_ 4), (1, u "java/lang/Enum"), (0, u "name"), (0, u "Ljava/lang/String;"), (2, u "ordinal"), (0, u "I"), (1, .class_ 14), (1, u "java/lang/Object"), (4, u "hash"), (86, .class_ 108), (1, u "java/lang/Enum$EnumDesc"), (2, .class_ 112), (0, u "java/lang/constant/Constable"), (0, .class_ 114), (0, u "java/lang/Comparable"), (0, .class_ 116), (0, u "java/io/Serializable")] 87

/-- java/lang/Enum -/
def k5 : Class := { plain "java/lang/Enum" (some 0) with
  accessFlags := 1057
  interfaces := #[2, 3, 4]
  cf := some (fileOf pool5 2 #[.nestMembers #[106]] #[] 1057 12 #[111, 113, 115] #[{ accessFlags := 18, nameIndex := 5, descriptorIndex := 6, attributes := #[] }, { accessFlags := 18, nameIndex := 9, descriptorIndex := 10, attributes := #[] }, { accessFlags := 2, nameIndex := 19, descriptorIndex := 10, attributes := #[] }])
  fields := #[{ name := "name", type := (.object "java/lang/String"), accessFlags := 18, slot := 0, constantValue := 0 }, { name := "ordinal", type := .int, accessFlags := 18, slot := 1, constantValue := 0 }, { name := "hash", type := .int, accessFlags := 2, slot := 2, constantValue := 0 }]
  methods := #[]
  instanceTypes := #[(.object "java/lang/String"), .int, .int]
  staticTypes := #[]
  resolved := Array.replicate 204 none
  statics := none }

def pool6 : Array CpInfo := pool [(1, .class_ 2), (0, u "com/example/addenda/addenda/xdr/Definition$Kind"), (0, .fieldref 1 4), (0, .nameAndType 5 6), (0, u "CONST"), (0, u "Lcom/example/addenda/addenda/xdr/Definition$Kind;"), (2, u "TYPEDEF"), (2, u "ENUM"), (2, u "STRUCT"), (2, u "UNION"), (0, .fieldref 1 20), (0, .nameAndType 21 6), (0, u "PROGRAM"), (2, u "$VALUES"), (0, u "[Lcom/example/addenda/addenda/xdr/Definition$Kind;"), (6, .class_ 34), (1, u "java/lang/Enum"), (24, u "isType"), (0, u "()Z"), (6, .class_ 68), (0, u "com/example/addenda/addenda/xdr/Definition")] 2

def k6c0 : Code := { maxStack := 2, maxLocals := 1, code := prog_66_method_4_code, exceptionTable := #[], attributes := #[] }
def k6m0 : Method := { name := "isType", desc := "()Z", sig := { parameters := [], returnType := some .boolean }, accessFlags := 1, code := some k6c0 }
/-- com/example/addenda/addenda/xdr/Definition$Kind -/
def k6 : Class := { plain "com/example/addenda/addenda/xdr/Definition$Kind" (some 5) with
  accessFlags := 16433
  interfaces := #[]
  cf := some (fileOf pool6 1 #[.nestHost 67] #[{ accessFlags := 1, nameIndex := 59, descriptorIndex := 60, attributes := #[] }] 16433 32 #[] #[{ accessFlags := 16409, nameIndex := 5, descriptorIndex := 6, attributes := #[] }, { accessFlags := 16409, nameIndex := 9, descriptorIndex := 6, attributes := #[] }, { accessFlags := 16409, nameIndex := 12, descriptorIndex := 6, attributes := #[] }, { accessFlags := 16409, nameIndex := 15, descriptorIndex := 6, attributes := #[] }, { accessFlags := 16409, nameIndex := 18, descriptorIndex := 6, attributes := #[] }, { accessFlags := 16409, nameIndex := 21, descriptorIndex := 6, attributes := #[] }, { accessFlags := 4122, nameIndex := 24, descriptorIndex := 25, attributes := #[] }])
  fields := #[{ name := "CONST", type := (.object "com/example/addenda/addenda/xdr/Definition$Kind"), accessFlags := 16409, slot := 0, constantValue := 0 }, { name := "TYPEDEF", type := (.object "com/example/addenda/addenda/xdr/Definition$Kind"), accessFlags := 16409, slot := 1, constantValue := 0 }, { name := "ENUM", type := (.object "com/example/addenda/addenda/xdr/Definition$Kind"), accessFlags := 16409, slot := 2, constantValue := 0 }, { name := "STRUCT", type := (.object "com/example/addenda/addenda/xdr/Definition$Kind"), accessFlags := 16409, slot := 3, constantValue := 0 }, { name := "UNION", type := (.object "com/example/addenda/addenda/xdr/Definition$Kind"), accessFlags := 16409, slot := 4, constantValue := 0 }, { name := "PROGRAM", type := (.object "com/example/addenda/addenda/xdr/Definition$Kind"), accessFlags := 16409, slot := 5, constantValue := 0 }, { name := "$VALUES", type := (.array (.object "com/example/addenda/addenda/xdr/Definition$Kind")), accessFlags := 4122, slot := 6, constantValue := 0 }]
  methods := #[k6m0]
  instanceTypes := #[(.object "java/lang/String"), .int, .int]
  staticTypes := #[(.object "com/example/addenda/addenda/xdr/Definition$Kind"), (.object "com/example/addenda/addenda/xdr/Definition$Kind"), (.object "com/example/addenda/addenda/xdr/Definition$Kind"), (.object "com/example/addenda/addenda/xdr/Definition$Kind"), (.object "com/example/addenda/addenda/xdr/Definition$Kind"), (.object "com/example/addenda/addenda/xdr/Definition$Kind"), (.array (.object "com/example/addenda/addenda/xdr/Definition$Kind"))]
  resolved := Array.replicate 71 none
  statics := some 0 }

def pool7 : Array CpInfo := pool [(1, u "java/lang/Cloneable"), (0, .class_ 1), (0, u "java/lang/Object"), (0, .class_ 3)] 3

/-- java/lang/Cloneable -/
def k7 : Class := { plain "java/lang/Cloneable" (some 0) with
  accessFlags := 1537
  interfaces := #[]
  cf := some (fileOf pool7 2 #[] #[] 1537 4 #[] #[])
  fields := #[]
  methods := #[]
  instanceTypes := #[]
  staticTypes := #[]
  resolved := Array.replicate 8 none
  statics := none }

/-- the primitive byte -/
def k8 : Class := { plain "byte" none with kind := .primitive 'B', accessFlags := 0x411 }
/-- [B -/
def k9 : Class := { plain "[B" (some 0) with kind := .array 8 .byte, interfaces := #[7, 4], accessFlags := 1041 }

/-- the primitive int -/
def k10 : Class := { plain "int" none with kind := .primitive 'I', accessFlags := 0x411 }
/-- [I -/
def k11 : Class := { plain "[I" (some 0) with kind := .array 10 .int, interfaces := #[7, 4], accessFlags := 1041 }

def heap : Heap := #[{ cls := 6, slots := #[.ref 1, .ref 2, .ref 3, .ref 4, .ref 5, .ref 6, .null], vm := .statics 6 },
  { cls := 6, slots := #[.null, .int 0, .int 0], vm := .none },
  { cls := 6, slots := #[.null, .int 1, .int 0], vm := .none },
  { cls := 6, slots := #[.null, .int 2, .int 0], vm := .none },
  { cls := 6, slots := #[.null, .int 3, .int 0], vm := .none },
  { cls := 6, slots := #[.null, .int 4, .int 0], vm := .none },
  { cls := 6, slots := #[.null, .int 5, .int 0], vm := .none }]
def classes : Array Class := #[k0, k1, k2, k3, k4, k5, k6, k7, k8, k9, k10, k11]
def interned : List (Array UInt16 × Addr) := []
def slotsUsed : Nat := 25
def theMethod : MethodId := ⟨1, 1⟩
def args0 : Array Value := #[.int 5]
def aboutOver (below : List Frame) : State where
  vm := { classes := classes, interned := interned.toArray }
  heap := heap
  slotsUsed := slotsUsed
  threads := #[{ frames := .invoking theMethod args0 :: below }]
def below0 : List Frame := [.native { method := ⟨0, 0⟩, args := #[] }]
def about1 : State := aboutOver below0
def p0 : Program := .bare "" "" ""
def e0 : Env := launch0.env 0 0 0
theorem w_frames : about1.frames = Frame.invoking theMethod args0 :: below0 := rfl
set_option maxRecDepth 65536 in
theorem w_args : argsFit about1.vm theMethod args0 = true := by decide +kernel
set_option maxRecDepth 65536 in
theorem w_heap : heapFits about1 = true := by decide +kernel
set_option maxRecDepth 65536 in
theorem w_runnable : about1.curStatus? = some .runnable := by decide +kernel
set_option maxRecDepth 65536 in
theorem w_alone : about1.alone = true := by decide +kernel
set_option maxRecDepth 65536 in
theorem w_named : about1.methodNamed? x = some theMethod := by decide +kernel
set_option maxRecDepth 65536 in
theorem w_hears : about1.hears theMethod below0 = true := by decide +kernel
set_option maxRecDepth 65536 in
theorem w_ripe : about1.ripe theMethod args0 below0 = true := by decide +kernel
theorem w_running : about1.status = .running := rfl
set_option maxRecDepth 65536 in
theorem w_room : about1.hasRoom e0.platform room_1 = true :=
  launch0.hasRoom_least _ room_1 (by decide +kernel) (by decide +kernel) (by decide +kernel) (by decide +kernel) (by decide +kernel) (by decide +kernel)
theorem allAtoms_all (ts : List Jvm.Cond) (a : Array Jvm.Value) (st : Jvm.State) : (allAtoms ts).before a st = ts.all (fun c => c.before a st) := by
  induction ts with
  | nil => rfl
  | cons c t ih =>
    show (Jvm.Cond.and c (allAtoms t)).before a st = _
    rw [Jvm.Cond.before_and, ih, List.all_cons]
def words1 : List Jvm.Cond := Jvm.Cond.code x code maxLocals ret :: tables_1
/-- a 'code' word, met by the world's own term for the bytes: nothing is compared byte by byte -/
theorem code_word {y : MethodName} {bytes : ByteArray} {mx : Nat} {rt : Option FieldType} {a : Array Value} {s : State} {m : MethodId} {meth : Method} {c : Code} (h1 : s.methodNamed? y = some m) (h2 : s.vm.method? m = some meth) (h3 : meth.code = some c) (h4 : c.code = bytes)
    (h5 : (c.maxLocals == mx && c.exceptionTable.isEmpty && decide (c.maxStack ≤ mostOperands) && decide (meth.sig.returnType = rt) && !meth.locks && decide (parseMethodDescriptor y.desc = some meth.sig)) = true) : (Jvm.Cond.code y bytes mx rt).before a s = true := by
  simp only [Bool.and_eq_true, beq_iff_eq, Bool.not_eq_true', decide_eq_true_eq] at h5
  obtain ⟨⟨⟨⟨⟨g1, g2⟩, g3⟩, g4⟩, g5⟩, g6⟩ := h5
  simp [Cond.before, Cond.holds, Cond.value, h1, h2, h3, h4, g1, g2, g3, g4, g5, g6]
def isCode : Jvm.Cond → Bool
  | .code _ _ _ _ => true
  | _ => false
theorem all_split {L : List Jvm.Cond} {P : Jvm.Cond → Bool} (h1 : L.all (fun c => isCode c || P c) = true) (h2 : ∀ c ∈ L.filter isCode, P c = true) : L.all P = true := by
  refine List.all_eq_true.mpr fun c hc => ?_
  have h := List.all_eq_true.mp h1 c hc
  rcases Bool.eq_false_or_eq_true (isCode c) with hi | hi
  · exact h2 c (List.mem_filter.mpr ⟨hc, hi⟩)
  · simpa [hi] using h
set_option maxRecDepth 65536 in
theorem w_c0 : (Jvm.Cond.code x code maxLocals ret).before args0 about1 = true := code_word (m := ⟨1, 1⟩) (meth := k1m1) (c := k1c1) (by decide +kernel) rfl rfl rfl (by decide +kernel)
set_option maxRecDepth 65536 in
theorem w_c1 : (Jvm.Cond.code ({ cls := "com/example/addenda/addenda/xdr/Definition$Kind", name := "isType", desc := "()Z" } : Jvm.MethodName) prog_66_method_4_code (1 : Nat) (Option.some Jvm.ClassFile.FieldType.boolean)).before args0 about1 = true := code_word (m := ⟨6, 0⟩) (meth := k6m0) (c := k6c0) (by decide +kernel) rfl rfl rfl (by decide +kernel)
def codes1 : List Jvm.Cond := [Jvm.Cond.code x code maxLocals ret, Jvm.Cond.code ({ cls := "com/example/addenda/addenda/xdr/Definition$Kind", name := "isType", desc := "()Z" } : Jvm.MethodName) prog_66_method_4_code (1 : Nat) (Option.some Jvm.ClassFile.FieldType.boolean)]
set_option maxRecDepth 65536 in
theorem codes_eq : words1.filter isCode = codes1 := rfl
theorem w_codes : ∀ c ∈ words1.filter isCode, c.before args0 about1 = true := by
  rw [codes_eq]
  intro c hc
  simp only [codes1, List.mem_cons, List.not_mem_nil, or_false] at hc
  rcases hc with rfl | rfl
  · exact w_c0
  · exact w_c1
set_option maxRecDepth 65536 in
theorem w_t1 : words1.all (fun c => isCode c || c.before args0 about1) = true := by decide +kernel
theorem w_tables : (allAtoms (Jvm.Cond.code x code maxLocals ret :: tables_1)).before args0 about1 = true := by
  rw [allAtoms_all]
  show words1.all (fun c => c.before args0 about1) = true
  refine all_split ?_ w_codes
  rw [w_t1]
set_option maxRecDepth 65536 in
theorem w_case : (Jvm.Cond.and given_1 narrow_1).before args0 about1 = true := by decide +kernel
theorem w_applies : (headSpec (Jvm.Cond.code x code maxLocals ret :: tables_1) room_1).applies x e0.platform about1 = true :=
  (Spec.applies_iff w_frames).mpr ⟨w_running, w_runnable, w_alone, w_named, w_hears, w_ripe, w_room, w_tables⟩
theorem atStart : AtStart classFile x code maxLocals ret World_1 tables_1 room_1 Calls_1 rest_1 Pre_1 launch0 p0 e0 about1 theMethod args0 below0 :=
  ⟨lists_1, trivial, launch0.admits_env _ _ _, launch0.least_env, fairChoices_fair.cas, fairChoices_fair.clock, w_frames, w_args, w_heap, w_applies, trivial, trivial, w_case⟩
end start1
theorem witness_1 : WitnessClaimed_1 := ⟨start1.p0, start1.e0, start1.about1, start1.theMethod, start1.args0, start1.below0, start1.atStart⟩
end Jvm.Pilot.@@N@@
