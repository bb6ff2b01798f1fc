import JvmDerived
import JvmDerived.Pilot.@@N@@Statement
import JvmDerived.Pilot.@@N@@Code
set_option linter.unusedVariables false
set_option linter.unusedSimpArgs false
namespace Jvm.RoadKit
open Sem ClassFile Op Lib Jvm.Stand Jvm.Free Jvm.LawKit
section Own
variable {p : Program} {l : Launch} {e : Env} {R : Room} {s : State} {m : MethodId} {args : Array Value} {below : List Frame} {meth : Method} {c : Code} {T : State} {locs : List Loc} {cells slots : Nat}
/-- from U the run ends, and P is said of the end -/
def Go (p : Program) (e : Env) (below : List Frame) (U : State) (P : Outcome → State → Prop) : Prop := ∃ s₂ o, Steps p.tables e below U s₂ ∧ s₂.status = .running ∧ Ended s₂ below o ∧ P o s₂
theorem Go.st {U U' : State} {P : Outcome → State → Prop} (k : ∀ t, Steps p.tables e below U' t → Steps p.tables e below U t) (g : Go p e below U' P) : Go p e below U P := by
  obtain ⟨t, o, a, r⟩ := g
  exact ⟨t, o, k t a, r⟩
theorem Go.tr {U U' : State} {P : Outcome → State → Prop} (k : Steps p.tables e below U U') (g : Go p e below U' P) : Go p e below U P := by
  obtain ⟨t, o, a, r⟩ := g
  exact ⟨t, o, k.trans a, r⟩
theorem Go.fin (X : Stand p l e R s m args below meth c T locs cells slots) {v : Option Value} (hv : meth.sig.returnType = none → v = none) (hlocks : meth.locks = false) {U : State} {P : Outcome → State → Prop}
    (st : ∀ fs, (∀ (f : JFrame) (acts : List Action), f.method = m → f.locked = none → f.entered = [] → (doReturn e (T.setTop f) acts v).1 = T.setFrames fs) → Steps p.tables e below U (T.setFrames fs))
    (hP : ∀ U' : State, U'.heap = T.heap → FrameEnd s (.returned v) U' locs cells slots → P (.returned v) U') : Go p e below U P := by
  obtain ⟨fs, hr, hrun, hended, hW, hsame⟩ := X.leave hv hlocks
  exact ⟨_, _, st fs hr, hrun, hended, hP _ rfl ⟨⟨_, rfl⟩, hW, hsame⟩⟩
theorem own_ord {a0 : Array Value} {t : Term} {a : Addr} {C n d : String} {k : Int32} (ev : t.eval a0 s none [] s = some (.ref a)) (h : (Cond.eq (.field t C n d) (.int k)).value a0 s none s [] = some true) : s.fieldOf? a C n d = some (.int k) := by
  have e1 := fld_at (C := C) (n := n) (dd := d) ev
  have e2 : (Term.int k).eval a0 s none [] s = some (.int k) := rfl
  cases hf : s.fieldOf? a C n d with
  | none => rw [hf] at e1; simp [Cond.value, e1] at h
  | some w =>
    rw [hf] at e1
    cases w <;> simp [Cond.value, e1, e2] at h
    rw [h]
theorem own_ne {a b : Addr} {C n d : String} {j k : Int32} (h1 : s.fieldOf? a C n d = some (.int j)) (h2 : s.fieldOf? b C n d = some (.int k)) (hne : j ≠ k) : a ≠ b := fun q => by
  subst q
  rw [h1] at h2
  exact hne (by injection (Option.some.inj h2))
theorem own_lsw {g : JFrame} {target : State} (X : Stand p l e R s m args below meth c T locs cells slots) (hx : p.tables.exec = Jvm.exec) (hg : g.method = m) {dflt : Int} {pairs : Array (Int × Int)} {len : Nat} {pc0 pc' : Nat} (hpc : g.pc = pc0)
    (hd : decode c.code g.pc = .ok (.lookupswitch dflt pairs, len)) {i : Int32} {rest : List Value} (hs : g.stack = .int i :: rest) {o : Int} (ho : lookupswitch.offset pairs.toList dflt i.toInt = o) (hso : ∀ (a b a_1 b_1 : Int), ((a, b), a_1, b_1) ∈ pairs.toList.zip pairs.toList.tail → a < a_1) (h0 : 0 ≤ (pc0 : Int) + o) (hp : ((pc0 : Int) + o).toNat = pc')
    (hr : Steps p.tables e below (T.setTop { g with pc := pc', stack := rest }) target) : Steps p.tables e below (T.setTop g) target := by
  subst hg hpc hp ho
  jvm_step X.here [X.here.top, hx, hd, hs, h0, lookupswitch.wp_chain]
  exact ⟨hso, hr⟩
theorem own_arvlt {Z : State} {h : Heap} {a : Addr} {k : ClassId} {ty : FieldType} {n : Int32} {vs : List Value} {d : Value} (V : Arv Z h a k ty n vs d) : a < h.size := by
  obtain ⟨c, A, -⟩ := V
  exact A.lt
end Own
end Jvm.RoadKit
namespace Jvm.Pilot.@@N@@
open Jvm Jvm.ClassFile Sem Op Lib Jvm.Free Jvm.Stand Jvm.LawKit Jvm.RoadKit Bundle Jvm.Pilot.@@N@@.Jvm.D
def own_ca (a v m : Addr) : Int32 := if a = v then 1 else if a = m then 1 else 0
theorem d1_0 : decode prog_17_method_4_code 0 = .ok (.aload_n 0, 1) := by decide +kernel
theorem d1_1 : decode prog_17_method_4_code 1 = .ok (.getstatic 3, 3) := by decide +kernel
theorem d1_4 : decode prog_17_method_4_code 4 = .ok (.if_acmp .eq 10, 3) := by decide +kernel
theorem d1_7 : decode prog_17_method_4_code 7 = .ok (.aload_n 0, 1) := by decide +kernel
theorem d1_8 : decode prog_17_method_4_code 8 = .ok (.getstatic 10, 3) := by decide +kernel
theorem d1_11 : decode prog_17_method_4_code 11 = .ok (.if_acmp .ne 7, 3) := by decide +kernel
theorem d1_14 : decode prog_17_method_4_code 14 = .ok (.iconst 1, 1) := by decide +kernel
theorem d1_15 : decode prog_17_method_4_code 15 = .ok (.goto 4, 3) := by decide +kernel
theorem d1_18 : decode prog_17_method_4_code 18 = .ok (.iconst 0, 1) := by decide +kernel
theorem d1_19 : decode prog_17_method_4_code 19 = .ok (.ireturn, 1) := by decide +kernel
theorem pn_10 : plainName "com/example/mooring/mooring/dnssec/KeyState" = true := by first | (simp [plainName, overriddenIn]; done) | decide +kernel
theorem ef_rm1 (m : MethodId) (a1 : Addr) : entryFrame m #[(.ref a1)] 1 = mkF m 0 #[.val (.ref a1)] [] := by first | (simp [entryFrame, mkF, argsToLocals, Value.category]; done) | rfl
def Q_rm1 (Z : State) (a1 : Addr) (w_VALID : Addr) (w_MISSING : Addr) (h0 : Heap) (n0 : Nat) (v : Option Value) (h : Heap) (L : List Loc) : Prop := v = some (.int (own_ca a1 w_VALID w_MISSING)) ∧ Fr n0 L ∧ h = h0
set_option maxRecDepth 65536 in
set_option maxHeartbeats 40000000 in
theorem rm1 (l : Launch) (Z : State) (a0 : Array Value) (hw : ∀ d ∈ tables_1, d.before a0 Z = true) (ws : List Jvm.Cond) (a1 : Addr) (w_VALID : Addr) (w_MISSING : Addr) (h0 : Heap) (n0 : Nat) (Z0 : n0 ≤ h0.size) (S_VALID : Sta Z h0 "com/example/mooring/mooring/dnssec/KeyState" "VALID" "Lcom/example/mooring/mooring/dnssec/KeyState;" (.ref w_VALID)) (S_MISSING : Sta Z h0 "com/example/mooring/mooring/dnssec/KeyState" "MISSING" "Lcom/example/mooring/mooring/dnssec/KeyState;" (.ref w_MISSING)) :
    MetFree l (⟨"com/example/mooring/mooring/dnssec/KeyState", "isCurrentAnchor", "()Z"⟩ : MethodName) (head1 (Jvm.Cond.code (⟨"com/example/mooring/mooring/dnssec/KeyState", "isCurrentAnchor", "()Z"⟩ : MethodName) prog_17_method_4_code 1 (some .boolean) :: ws) ({ frames := 0, cells := 0, slots := 0, locals := 0 } : Room)) (fun a U => a = #[(.ref a1)] ∧ Z.Warmed39 U.vm ∧ U.heap = h0) (fun _ _ _ _ _ => True) (fun _ U o U' => ∃ v L, o = .returned v ∧ Q_rm1 Z a1 w_VALID w_MISSING h0 n0 v U'.heap L ∧ FrameEnd U o U' L ({ frames := 0, cells := 0, slots := 0, locals := 0 } : Room).cells ({ frames := 0, cells := 0, slots := 0, locals := 0 } : Room).slots) := by
  refine MetFree.of_bodySF (plainFor_of_name pn_10) hisR ?_
  intro p e s m args below meth c s₁ Bd hml0 hP hK
  obtain ⟨rfl, hZ, hh⟩ := hP
  have hx := Bd.exec
  have hby := Bd.bytes
  have hml : c.maxLocals = 1 := hml0
  have hown : s.vm.findClass "com/example/mooring/mooring/dnssec/KeyState" = some m.cls := findClass_of_methodNamed Bd.named
  have hnm := (name_of_methodNamed Bd.named Bd.method).1
  have X0 : Stand p l e ({ frames := 0, cells := 0, slots := 0, locals := 0 } : Room) s m #[(.ref a1)] below meth c s₁ [] 0 0 := Stand.of_body Bd
  have e0 : s₁.heap = h0 := by rw [← hh, Bd.state]; rfl
  have N0 := Fr.nil n0
  show Go p e below (s₁.setTop (entryFrame m #[(.ref a1)] 1)) (fun o U' => ∃ v L, o = .returned v ∧ Q_rm1 Z a1 w_VALID w_MISSING h0 n0 v U'.heap L ∧ FrameEnd s o U' L ({ frames := 0, cells := 0, slots := 0, locals := 0 } : Room).cells ({ frames := 0, cells := 0, slots := 0, locals := 0 } : Room).slots)
  rw [ef_rm1]
  show Go p e below (s₁.setTop (mkF m 0 #[.val (.ref a1)] [])) _
  refine Go.st (fun _ k_ => XS.aloadN X0.here hx rfl (hb hby d1_0) rfl rfl k_) ?_
  show Go p e below (s₁.setTop (mkF m 1 #[.val (.ref a1)] [(.ref a1)])) _
  obtain ⟨T1, X1, e1, st1⟩ := getS2 X0 hx hZ hown (host := "") (Or.inl (hw _ (List.mem_of_getElem? (i := 8) rfl))) Via.refl e0 S_VALID (g := (mkF m 1 #[.val (.ref a1)] [(.ref a1)])) rfl (hb hby d1_1)
  refine Go.st st1 ?_
  show Go p e below (T1.setTop (mkF m 4 #[.val (.ref a1)] [(.ref w_VALID), (.ref a1)])) _
  by_cases hc4 : a1 = w_VALID
  · refine Go.st (fun _ k_ => Jvm.RoadKit.acmp (g := (mkF m 4 #[.val (.ref a1)] [(.ref w_VALID), (.ref a1)])) X1 hx rfl rfl rfl (pc0 := 4) (pc' := 14) (same := true) rfl (hb hby d1_4) rfl (decide_eq_true (congrArg Value.ref hc4)) (by decide) (by decide) k_) ?_
    show Go p e below (T1.setTop (mkF m 14 #[.val (.ref a1)] [])) _
    refine Go.st (fun _ k_ => XS.iconst X1.here hx rfl (hb hby d1_14) k_) ?_
    show Go p e below (T1.setTop (mkF m 15 #[.val (.ref a1)] [(.int (1 : Int32))])) _
    refine Go.st (fun _ k_ => XS.goto X1.here hx rfl (pc0 := 15) (pc' := 19) rfl (hb hby d1_15) (by decide) (by decide) k_) ?_
    show Go p e below (T1.setTop (mkF m 19 #[.val (.ref a1)] [(.int (1 : Int32))])) _
    refine Go.fin X1 (v := some (.int (1 : Int32))) (fun h_ => by rw [Bd.returns] at h_; cases h_) Bd.notSynchronized (fun _ hr => retN X1 hx (t := .boolean) Bd.returns (by simp) (hb hby d1_19) hr) (fun U' hU hF => ⟨_, _, rfl, ?_, hF.1, hF.2.1, hF.2.2.mono (by decide) (by decide)⟩)
    rw [hU, e1]
    exact ⟨(congrArg (fun z_ : Int32 => some (Value.int z_)) (show (1 : Int32) = (own_ca a1 w_VALID w_MISSING) from by simp [own_ca, hc4])), N0, rfl⟩
  · refine Go.st (fun _ k_ => Jvm.RoadKit.acmp (g := (mkF m 4 #[.val (.ref a1)] [(.ref w_VALID), (.ref a1)])) X1 hx rfl rfl rfl (pc0 := 4) (pc' := 7) (same := false) rfl (hb hby d1_4) rfl (decide_eq_false fun q_ => hc4 (Value.ref.inj q_)) (by decide) (by decide) k_) ?_
    show Go p e below (T1.setTop (mkF m 7 #[.val (.ref a1)] [])) _
    refine Go.st (fun _ k_ => XS.aloadN X1.here hx rfl (hb hby d1_7) rfl rfl k_) ?_
    show Go p e below (T1.setTop (mkF m 8 #[.val (.ref a1)] [(.ref a1)])) _
    obtain ⟨T2, X2, e2, st2⟩ := getS2 X1 hx hZ hown (host := "") (Or.inl (hw _ (List.mem_of_getElem? (i := 11) rfl))) Via.refl e1 S_MISSING (g := (mkF m 8 #[.val (.ref a1)] [(.ref a1)])) rfl (hb hby d1_8)
    refine Go.st st2 ?_
    show Go p e below (T2.setTop (mkF m 11 #[.val (.ref a1)] [(.ref w_MISSING), (.ref a1)])) _
    by_cases hc11 : a1 = w_MISSING
    · refine Go.st (fun _ k_ => Jvm.RoadKit.acmp (g := (mkF m 11 #[.val (.ref a1)] [(.ref w_MISSING), (.ref a1)])) X2 hx rfl rfl rfl (pc0 := 11) (pc' := 14) (same := true) rfl (hb hby d1_11) rfl (decide_eq_true (congrArg Value.ref hc11)) (by decide) (by decide) k_) ?_
      show Go p e below (T2.setTop (mkF m 14 #[.val (.ref a1)] [])) _
      refine Go.st (fun _ k_ => XS.iconst X2.here hx rfl (hb hby d1_14) k_) ?_
      show Go p e below (T2.setTop (mkF m 15 #[.val (.ref a1)] [(.int (1 : Int32))])) _
      refine Go.st (fun _ k_ => XS.goto X2.here hx rfl (pc0 := 15) (pc' := 19) rfl (hb hby d1_15) (by decide) (by decide) k_) ?_
      show Go p e below (T2.setTop (mkF m 19 #[.val (.ref a1)] [(.int (1 : Int32))])) _
      refine Go.fin X2 (v := some (.int (1 : Int32))) (fun h_ => by rw [Bd.returns] at h_; cases h_) Bd.notSynchronized (fun _ hr => retN X2 hx (t := .boolean) Bd.returns (by simp) (hb hby d1_19) hr) (fun U' hU hF => ⟨_, _, rfl, ?_, hF.1, hF.2.1, hF.2.2.mono (by decide) (by decide)⟩)
      rw [hU, e2]
      exact ⟨(congrArg (fun z_ : Int32 => some (Value.int z_)) (show (1 : Int32) = (own_ca a1 w_VALID w_MISSING) from by simp [own_ca, hc4, hc11])), N0, rfl⟩
    · refine Go.st (fun _ k_ => Jvm.RoadKit.acmp (g := (mkF m 11 #[.val (.ref a1)] [(.ref w_MISSING), (.ref a1)])) X2 hx rfl rfl rfl (pc0 := 11) (pc' := 18) (same := false) rfl (hb hby d1_11) rfl (decide_eq_false fun q_ => hc11 (Value.ref.inj q_)) (by decide) (by decide) k_) ?_
      show Go p e below (T2.setTop (mkF m 18 #[.val (.ref a1)] [])) _
      refine Go.st (fun _ k_ => XS.iconst X2.here hx rfl (hb hby d1_18) k_) ?_
      show Go p e below (T2.setTop (mkF m 19 #[.val (.ref a1)] [(.int (0 : Int32))])) _
      refine Go.fin X2 (v := some (.int (0 : Int32))) (fun h_ => by rw [Bd.returns] at h_; cases h_) Bd.notSynchronized (fun _ hr => retN X2 hx (t := .boolean) Bd.returns (by simp) (hb hby d1_19) hr) (fun U' hU hF => ⟨_, _, rfl, ?_, hF.1, hF.2.1, hF.2.2.mono (by decide) (by decide)⟩)
      rw [hU, e2]
      exact ⟨(congrArg (fun z_ : Int32 => some (Value.int z_)) (show (0 : Int32) = (own_ca a1 w_VALID w_MISSING) from by simp [own_ca, hc4, hc11])), N0, rfl⟩
theorem pd_0 : parseMethodDescriptor "()Z" = some ⟨[], some .boolean⟩ := by decide +kernel
theorem pn_11 : plainName "com/example/mooring/mooring/dnssec/KeyStateIsCurrentAnchorPinLaw" = true := by first | (simp [plainName, overriddenIn]; done) | decide +kernel
theorem ef_rm0 (m : MethodId) (p1 : Int32) : entryFrame m #[(.int p1)] maxLocals = mkF m 0 #[.val (.int p1), .unset, .unset, .unset] [] := by first | (simp [entryFrame, mkF, argsToLocals, Value.category, maxLocals]; done) | rfl
def Q_rm0 (Z : State) (p1 : Int32) (w_VALID : Addr) (w_MISSING : Addr) (w_ADDPEND : Addr) (w_REVOKED : Addr) (h0 : Heap) (n0 : Nat) (v : Option Value) (h : Heap) (L : List Loc) : Prop := v = some (.int (1 : Int32)) ∧ Fr n0 L
set_option maxRecDepth 65536 in
set_option maxHeartbeats 40000000 in
theorem rm0 (l : Launch) (Z : State) (a0 : Array Value) (hw : ∀ d ∈ tables_1, d.before a0 Z = true) (ws : List Jvm.Cond) (p1 : Int32) (w_VALID : Addr) (w_MISSING : Addr) (w_ADDPEND : Addr) (w_REVOKED : Addr) (h0 : Heap) (n0 : Nat) (Z0 : n0 ≤ h0.size) (S_VALID : Sta Z h0 "com/example/mooring/mooring/dnssec/KeyState" "VALID" "Lcom/example/mooring/mooring/dnssec/KeyState;" (.ref w_VALID)) (S_MISSING : Sta Z h0 "com/example/mooring/mooring/dnssec/KeyState" "MISSING" "Lcom/example/mooring/mooring/dnssec/KeyState;" (.ref w_MISSING)) (S_ADDPEND : Sta Z h0 "com/example/mooring/mooring/dnssec/KeyState" "ADDPEND" "Lcom/example/mooring/mooring/dnssec/KeyState;" (.ref w_ADDPEND)) (S_REVOKED : Sta Z h0 "com/example/mooring/mooring/dnssec/KeyState" "REVOKED" "Lcom/example/mooring/mooring/dnssec/KeyState;" (.ref w_REVOKED)) (E_w_VALID : Exa Z h0 w_VALID "com/example/mooring/mooring/dnssec/KeyState") (E_w_ADDPEND : Exa Z h0 w_ADDPEND "com/example/mooring/mooring/dnssec/KeyState") (E_w_MISSING : Exa Z h0 w_MISSING "com/example/mooring/mooring/dnssec/KeyState") (E_w_REVOKED : Exa Z h0 w_REVOKED "com/example/mooring/mooring/dnssec/KeyState") (ne_ADDPEND_VALID : w_ADDPEND ≠ w_VALID) (ne_ADDPEND_MISSING : w_ADDPEND ≠ w_MISSING) (ne_REVOKED_VALID : w_REVOKED ≠ w_VALID) (ne_REVOKED_MISSING : w_REVOKED ≠ w_MISSING) (ne_MISSING_VALID : w_MISSING ≠ w_VALID) :
    MetFree l x (head1 (Jvm.Cond.code x code maxLocals ret :: ws) room_1) (fun a U => a = #[(.int p1)] ∧ Z.Warmed39 U.vm ∧ U.heap = h0) (fun _ _ _ _ _ => True) (fun _ U o U' => ∃ v L, o = .returned v ∧ Q_rm0 Z p1 w_VALID w_MISSING w_ADDPEND w_REVOKED h0 n0 v U'.heap L ∧ FrameEnd U o U' L room_1.cells room_1.slots) := by
  refine MetFree.of_bodySF (plainFor_of_name pn_11) hisR ?_
  intro p e s m args below meth c s₁ Bd hml0 hP hK
  obtain ⟨rfl, hZ, hh⟩ := hP
  have hx := Bd.exec
  have hby := Bd.bytes
  have hml : c.maxLocals = 4 := hml0
  have hown : s.vm.findClass "com/example/mooring/mooring/dnssec/KeyStateIsCurrentAnchorPinLaw" = some m.cls := findClass_of_methodNamed Bd.named
  have hnm := (name_of_methodNamed Bd.named Bd.method).1
  have X0 : Stand p l e room_1 s m #[(.int p1)] below meth c s₁ [] 0 0 := Stand.of_body Bd
  have e0 : s₁.heap = h0 := by rw [← hh, Bd.state]; rfl
  have N0 := Fr.nil n0
  show Go p e below (s₁.setTop (entryFrame m #[(.int p1)] maxLocals)) (fun o U' => ∃ v L, o = .returned v ∧ Q_rm0 Z p1 w_VALID w_MISSING w_ADDPEND w_REVOKED h0 n0 v U'.heap L ∧ FrameEnd s o U' L room_1.cells room_1.slots)
  rw [ef_rm0]
  show Go p e below (s₁.setTop (mkF m 0 #[.val (.int p1), .unset, .unset, .unset] [])) _
  refine Go.st (fun _ k_ => XS.iloadN X0.here hx rfl (hb hby at_0) rfl k_) ?_
  show Go p e below (s₁.setTop (mkF m 1 #[.val (.int p1), .unset, .unset, .unset] [(.int p1)])) _
  refine Go.st (fun _ k_ => XS.iconst X0.here hx rfl (hb hby at_1) k_) ?_
  show Go p e below (s₁.setTop (mkF m 2 #[.val (.int p1), .unset, .unset, .unset] [(.int (3 : Int32)), (.int p1)])) _
  refine Go.st (fun _ k_ => XS.iand X0.here hx rfl (hb hby at_2) rfl k_) ?_
  show Go p e below (s₁.setTop (mkF m 3 #[.val (.int p1), .unset, .unset, .unset] [(.int (p1 &&& (3 : Int32)))])) _
  obtain ⟨cc, ecc⟩ : ∃ z_ : Int32, z_ = (p1 &&& (3 : Int32)) := ⟨_, rfl⟩
  rw [← ecc]
  show Go p e below (s₁.setTop (mkF m 3 #[.val (.int p1), .unset, .unset, .unset] [(.int cc)])) _
  refine Go.st (fun _ k_ => XS.istoreN X0.here hx rfl (hb hby at_3) rfl (l' := #[.val (.int p1), .val (.int cc), .unset, .unset]) rfl k_) ?_
  show Go p e below (s₁.setTop (mkF m 4 #[.val (.int p1), .val (.int cc), .unset, .unset] [])) _
  refine Go.st (fun _ k_ => XS.iloadN X0.here hx rfl (hb hby at_4) rfl k_) ?_
  show Go p e below (s₁.setTop (mkF m 5 #[.val (.int p1), .val (.int cc), .unset, .unset] [(.int cc)])) _
  by_cases hc5 : cc = (0 : Int32)
  · refine Go.st (fun _ k_ => XS.ifNo X0.here hx rfl (hb hby at_5) rfl ((if0 _ _).trans (teq hc5).2) k_) ?_
    show Go p e below (s₁.setTop (mkF m 8 #[.val (.int p1), .val (.int cc), .unset, .unset] [])) _
    obtain ⟨T1, X1, e1, st1⟩ := getS2 X0 hx hZ hown (host := "") (Or.inl (hw _ (List.mem_of_getElem? (i := 0) rfl))) Via.refl e0 S_VALID (g := (mkF m 8 #[.val (.int p1), .val (.int cc), .unset, .unset] [])) rfl (hb hby at_8)
    refine Go.st st1 ?_
    show Go p e below (T1.setTop (mkF m 11 #[.val (.int p1), .val (.int cc), .unset, .unset] [(.ref w_VALID)])) _
    refine Go.st (fun _ k_ => XS.astoreN X1.here hx rfl (hb hby at_11) rfl rfl (l' := #[.val (.int p1), .val (.int cc), .val (.ref w_VALID), .unset]) rfl k_) ?_
    show Go p e below (T1.setTop (mkF m 12 #[.val (.int p1), .val (.int cc), .val (.ref w_VALID), .unset] [])) _
    refine Go.st (fun _ k_ => XS.iconst X1.here hx rfl (hb hby at_12) k_) ?_
    show Go p e below (T1.setTop (mkF m 13 #[.val (.int p1), .val (.int cc), .val (.ref w_VALID), .unset] [(.int (1 : Int32))])) _
    refine Go.st (fun _ k_ => XS.istoreN X1.here hx rfl (hb hby at_13) rfl (l' := #[.val (.int p1), .val (.int cc), .val (.ref w_VALID), .val (.int (1 : Int32))]) rfl k_) ?_
    show Go p e below (T1.setTop (mkF m 14 #[.val (.int p1), .val (.int cc), .val (.ref w_VALID), .val (.int (1 : Int32))] [])) _
    refine Go.st (fun _ k_ => XS.goto X1.here hx rfl (pc0 := 14) (pc' := 51) rfl (hb hby at_14) (by decide) (by decide) k_) ?_
    show Go p e below (T1.setTop (mkF m 51 #[.val (.int p1), .val (.int cc), .val (.ref w_VALID), .val (.int (1 : Int32))] [])) _
    refine Go.st (fun _ k_ => XS.aloadN X1.here hx rfl (hb hby at_51) rfl rfl k_) ?_
    show Go p e below (T1.setTop (mkF m 52 #[.val (.int p1), .val (.int cc), .val (.ref w_VALID), .val (.int (1 : Int32))] [(.ref w_VALID)])) _
    obtain ⟨cq2, kq2, q2a, q2b, q2c⟩ := isOf hZ e1 E_w_VALID
    obtain ⟨_, _, ⟨T2, L2, k2_, n2_⟩, -, X2, ⟨Lc2, hQ2, l2_, y2_, z2_⟩, st2⟩ := X1.virtualBack hx (y := (⟨"com/example/mooring/mooring/dnssec/KeyState", "isCurrentAnchor", "()Z"⟩ : MethodName)) (z := (⟨"com/example/mooring/mooring/dnssec/KeyState", "isCurrentAnchor", "()Z"⟩ : MethodName)) hown (mvT hZ (hw _ (List.mem_of_getElem? (i := 3) rfl))) (mvT hZ (hw _ (List.mem_of_getElem? (i := 4) rfl))) (notFace_of_selects (args := #[]) (mvT hZ (hw _ (List.mem_of_getElem? (i := 6) rfl)))) (mvT hZ (hw _ (List.mem_of_getElem? (i := 6) rfl))) (mvT hZ (hw _ (List.mem_of_getElem? (i := 5) rfl))) (by decide) (backOf (W := 0) (rm1 l Z a0 hw [] w_VALID w_VALID w_MISSING h0 n0 Z0 S_VALID S_MISSING) hZ (hw _ (List.mem_of_getElem? (i := 7) rfl)) (hw _ (List.mem_of_getElem? (i := 1) rfl)) (by decide) (by decide)) q2a q2c (g := (mkF m 52 #[.val (.int p1), .val (.int cc), .val (.ref w_VALID), .val (.int (1 : Int32))] [(.ref w_VALID)])) rfl (by rw [hml]; rfl) (Steps.refl _) (argsL := []) (rest := []) (lenOf pd_0 rfl) rfl (by show 2 * 0 + _ ≤ _; exact Nat.le_of_eq rfl) (hb hby at_52) (fun _ _ => ⟨rfl, e1, (by decide : 0 + 0 ≤ _), (by decide : 0 + 0 ≤ _)⟩)
    dsimp only [Pt.U, Pt.locs, Pt.cells, Pt.slots] at X2 l2_ y2_ z2_ st2 hQ2
    subst l2_ y2_ z2_
    obtain ⟨rfl, N2q, e2⟩ := hQ2
    have N2 := Fr.app N0 N2q
    refine Go.tr st2 ?_
    show Go p e below (T2.setTop (mkF m 55 #[.val (.int p1), .val (.int cc), .val (.ref w_VALID), .val (.int (1 : Int32))] [(.int (own_ca w_VALID w_VALID w_MISSING))])) _
    refine Go.st (fun _ k_ => XS.iloadN X2.here hx rfl (hb hby at_55) rfl k_) ?_
    show Go p e below (T2.setTop (mkF m 56 #[.val (.int p1), .val (.int cc), .val (.ref w_VALID), .val (.int (1 : Int32))] [(.int (1 : Int32)), (.int (own_ca w_VALID w_VALID w_MISSING))])) _
    have hc56 : (own_ca w_VALID w_VALID w_MISSING) = (1 : Int32) := by simp [own_ca, ne_ADDPEND_VALID, ne_ADDPEND_MISSING, ne_REVOKED_VALID, ne_REVOKED_MISSING, ne_MISSING_VALID]
    refine Go.st (fun _ k_ => XS.icmpNo X2.here hx rfl (hb hby at_56) rfl (teq hc56).2 k_) ?_
    show Go p e below (T2.setTop (mkF m 59 #[.val (.int p1), .val (.int cc), .val (.ref w_VALID), .val (.int (1 : Int32))] [])) _
    refine Go.st (fun _ k_ => XS.iconst X2.here hx rfl (hb hby at_59) k_) ?_
    show Go p e below (T2.setTop (mkF m 60 #[.val (.int p1), .val (.int cc), .val (.ref w_VALID), .val (.int (1 : Int32))] [(.int (1 : Int32))])) _
    refine Go.st (fun _ k_ => XS.goto X2.here hx rfl (pc0 := 60) (pc' := 64) rfl (hb hby at_60) (by decide) (by decide) k_) ?_
    show Go p e below (T2.setTop (mkF m 64 #[.val (.int p1), .val (.int cc), .val (.ref w_VALID), .val (.int (1 : Int32))] [(.int (1 : Int32))])) _
    refine Go.fin X2 (v := some (.int (1 : Int32))) (fun h_ => by rw [Bd.returns] at h_; cases h_) Bd.notSynchronized (fun _ hr => retN X2 hx (t := .boolean) Bd.returns (by simp) (hb hby at_64) hr) (fun U' hU hF => ⟨_, _, rfl, ?_, hF.1, hF.2.1, hF.2.2.mono (by decide) (by decide)⟩)
    exact ⟨(congrArg (fun z_ : Int32 => some (Value.int z_)) (show (1 : Int32) = (1 : Int32) from rfl)), N2⟩
  · refine Go.st (fun _ k_ => XS.ifYes X0.here hx rfl (pc0 := 5) (pc' := 17) rfl (hb hby at_5) rfl ((if0 _ _).trans (feq hc5).2) (by decide) (by decide) k_) ?_
    show Go p e below (s₁.setTop (mkF m 17 #[.val (.int p1), .val (.int cc), .unset, .unset] [])) _
    refine Go.st (fun _ k_ => XS.iloadN X0.here hx rfl (hb hby at_17) rfl k_) ?_
    show Go p e below (s₁.setTop (mkF m 18 #[.val (.int p1), .val (.int cc), .unset, .unset] [(.int cc)])) _
    refine Go.st (fun _ k_ => XS.iconst X0.here hx rfl (hb hby at_18) k_) ?_
    show Go p e below (s₁.setTop (mkF m 19 #[.val (.int p1), .val (.int cc), .unset, .unset] [(.int (1 : Int32)), (.int cc)])) _
    by_cases hc19 : cc = (1 : Int32)
    · refine Go.st (fun _ k_ => XS.icmpNo X0.here hx rfl (hb hby at_19) rfl (teq hc19).2 k_) ?_
      show Go p e below (s₁.setTop (mkF m 22 #[.val (.int p1), .val (.int cc), .unset, .unset] [])) _
      obtain ⟨T3, X3, e3, st3⟩ := getS2 X0 hx hZ hown (host := "") (Or.inl (hw _ (List.mem_of_getElem? (i := 14) rfl))) Via.refl e0 S_ADDPEND (g := (mkF m 22 #[.val (.int p1), .val (.int cc), .unset, .unset] [])) rfl (hb hby at_22)
      refine Go.st st3 ?_
      show Go p e below (T3.setTop (mkF m 25 #[.val (.int p1), .val (.int cc), .unset, .unset] [(.ref w_ADDPEND)])) _
      refine Go.st (fun _ k_ => XS.astoreN X3.here hx rfl (hb hby at_25) rfl rfl (l' := #[.val (.int p1), .val (.int cc), .val (.ref w_ADDPEND), .unset]) rfl k_) ?_
      show Go p e below (T3.setTop (mkF m 26 #[.val (.int p1), .val (.int cc), .val (.ref w_ADDPEND), .unset] [])) _
      refine Go.st (fun _ k_ => XS.iconst X3.here hx rfl (hb hby at_26) k_) ?_
      show Go p e below (T3.setTop (mkF m 27 #[.val (.int p1), .val (.int cc), .val (.ref w_ADDPEND), .unset] [(.int (0 : Int32))])) _
      refine Go.st (fun _ k_ => XS.istoreN X3.here hx rfl (hb hby at_27) rfl (l' := #[.val (.int p1), .val (.int cc), .val (.ref w_ADDPEND), .val (.int (0 : Int32))]) rfl k_) ?_
      show Go p e below (T3.setTop (mkF m 28 #[.val (.int p1), .val (.int cc), .val (.ref w_ADDPEND), .val (.int (0 : Int32))] [])) _
      refine Go.st (fun _ k_ => XS.goto X3.here hx rfl (pc0 := 28) (pc' := 51) rfl (hb hby at_28) (by decide) (by decide) k_) ?_
      show Go p e below (T3.setTop (mkF m 51 #[.val (.int p1), .val (.int cc), .val (.ref w_ADDPEND), .val (.int (0 : Int32))] [])) _
      refine Go.st (fun _ k_ => XS.aloadN X3.here hx rfl (hb hby at_51) rfl rfl k_) ?_
      show Go p e below (T3.setTop (mkF m 52 #[.val (.int p1), .val (.int cc), .val (.ref w_ADDPEND), .val (.int (0 : Int32))] [(.ref w_ADDPEND)])) _
      obtain ⟨cq4, kq4, q4a, q4b, q4c⟩ := isOf hZ e3 E_w_ADDPEND
      obtain ⟨_, _, ⟨T4, L4, k4_, n4_⟩, -, X4, ⟨Lc4, hQ4, l4_, y4_, z4_⟩, st4⟩ := X3.virtualBack hx (y := (⟨"com/example/mooring/mooring/dnssec/KeyState", "isCurrentAnchor", "()Z"⟩ : MethodName)) (z := (⟨"com/example/mooring/mooring/dnssec/KeyState", "isCurrentAnchor", "()Z"⟩ : MethodName)) hown (mvT hZ (hw _ (List.mem_of_getElem? (i := 3) rfl))) (mvT hZ (hw _ (List.mem_of_getElem? (i := 4) rfl))) (notFace_of_selects (args := #[]) (mvT hZ (hw _ (List.mem_of_getElem? (i := 6) rfl)))) (mvT hZ (hw _ (List.mem_of_getElem? (i := 6) rfl))) (mvT hZ (hw _ (List.mem_of_getElem? (i := 5) rfl))) (by decide) (backOf (W := 0) (rm1 l Z a0 hw [] w_ADDPEND w_VALID w_MISSING h0 n0 Z0 S_VALID S_MISSING) hZ (hw _ (List.mem_of_getElem? (i := 7) rfl)) (hw _ (List.mem_of_getElem? (i := 1) rfl)) (by decide) (by decide)) q4a q4c (g := (mkF m 52 #[.val (.int p1), .val (.int cc), .val (.ref w_ADDPEND), .val (.int (0 : Int32))] [(.ref w_ADDPEND)])) rfl (by rw [hml]; rfl) (Steps.refl _) (argsL := []) (rest := []) (lenOf pd_0 rfl) rfl (by show 2 * 0 + _ ≤ _; exact Nat.le_of_eq rfl) (hb hby at_52) (fun _ _ => ⟨rfl, e3, (by decide : 0 + 0 ≤ _), (by decide : 0 + 0 ≤ _)⟩)
      dsimp only [Pt.U, Pt.locs, Pt.cells, Pt.slots] at X4 l4_ y4_ z4_ st4 hQ4
      subst l4_ y4_ z4_
      obtain ⟨rfl, N4q, e4⟩ := hQ4
      have N4 := Fr.app N0 N4q
      refine Go.tr st4 ?_
      show Go p e below (T4.setTop (mkF m 55 #[.val (.int p1), .val (.int cc), .val (.ref w_ADDPEND), .val (.int (0 : Int32))] [(.int (own_ca w_ADDPEND w_VALID w_MISSING))])) _
      refine Go.st (fun _ k_ => XS.iloadN X4.here hx rfl (hb hby at_55) rfl k_) ?_
      show Go p e below (T4.setTop (mkF m 56 #[.val (.int p1), .val (.int cc), .val (.ref w_ADDPEND), .val (.int (0 : Int32))] [(.int (0 : Int32)), (.int (own_ca w_ADDPEND w_VALID w_MISSING))])) _
      have hc56 : (own_ca w_ADDPEND w_VALID w_MISSING) = (0 : Int32) := by simp [own_ca, ne_ADDPEND_VALID, ne_ADDPEND_MISSING, ne_REVOKED_VALID, ne_REVOKED_MISSING, ne_MISSING_VALID]
      refine Go.st (fun _ k_ => XS.icmpNo X4.here hx rfl (hb hby at_56) rfl (teq hc56).2 k_) ?_
      show Go p e below (T4.setTop (mkF m 59 #[.val (.int p1), .val (.int cc), .val (.ref w_ADDPEND), .val (.int (0 : Int32))] [])) _
      refine Go.st (fun _ k_ => XS.iconst X4.here hx rfl (hb hby at_59) k_) ?_
      show Go p e below (T4.setTop (mkF m 60 #[.val (.int p1), .val (.int cc), .val (.ref w_ADDPEND), .val (.int (0 : Int32))] [(.int (1 : Int32))])) _
      refine Go.st (fun _ k_ => XS.goto X4.here hx rfl (pc0 := 60) (pc' := 64) rfl (hb hby at_60) (by decide) (by decide) k_) ?_
      show Go p e below (T4.setTop (mkF m 64 #[.val (.int p1), .val (.int cc), .val (.ref w_ADDPEND), .val (.int (0 : Int32))] [(.int (1 : Int32))])) _
      refine Go.fin X4 (v := some (.int (1 : Int32))) (fun h_ => by rw [Bd.returns] at h_; cases h_) Bd.notSynchronized (fun _ hr => retN X4 hx (t := .boolean) Bd.returns (by simp) (hb hby at_64) hr) (fun U' hU hF => ⟨_, _, rfl, ?_, hF.1, hF.2.1, hF.2.2.mono (by decide) (by decide)⟩)
      exact ⟨(congrArg (fun z_ : Int32 => some (Value.int z_)) (show (1 : Int32) = (1 : Int32) from rfl)), N4⟩
    · refine Go.st (fun _ k_ => XS.icmpYes X0.here hx rfl (pc0 := 19) (pc' := 31) rfl (hb hby at_19) rfl (feq hc19).2 (by decide) (by decide) k_) ?_
      show Go p e below (s₁.setTop (mkF m 31 #[.val (.int p1), .val (.int cc), .unset, .unset] [])) _
      refine Go.st (fun _ k_ => XS.iloadN X0.here hx rfl (hb hby at_31) rfl k_) ?_
      show Go p e below (s₁.setTop (mkF m 32 #[.val (.int p1), .val (.int cc), .unset, .unset] [(.int cc)])) _
      refine Go.st (fun _ k_ => XS.iconst X0.here hx rfl (hb hby at_32) k_) ?_
      show Go p e below (s₁.setTop (mkF m 33 #[.val (.int p1), .val (.int cc), .unset, .unset] [(.int (2 : Int32)), (.int cc)])) _
      by_cases hc33 : cc = (2 : Int32)
      · refine Go.st (fun _ k_ => XS.icmpNo X0.here hx rfl (hb hby at_33) rfl (teq hc33).2 k_) ?_
        show Go p e below (s₁.setTop (mkF m 36 #[.val (.int p1), .val (.int cc), .unset, .unset] [])) _
        obtain ⟨T5, X5, e5, st5⟩ := getS2 X0 hx hZ hown (host := "") (Or.inl (hw _ (List.mem_of_getElem? (i := 13) rfl))) Via.refl e0 S_MISSING (g := (mkF m 36 #[.val (.int p1), .val (.int cc), .unset, .unset] [])) rfl (hb hby at_36)
        refine Go.st st5 ?_
        show Go p e below (T5.setTop (mkF m 39 #[.val (.int p1), .val (.int cc), .unset, .unset] [(.ref w_MISSING)])) _
        refine Go.st (fun _ k_ => XS.astoreN X5.here hx rfl (hb hby at_39) rfl rfl (l' := #[.val (.int p1), .val (.int cc), .val (.ref w_MISSING), .unset]) rfl k_) ?_
        show Go p e below (T5.setTop (mkF m 40 #[.val (.int p1), .val (.int cc), .val (.ref w_MISSING), .unset] [])) _
        refine Go.st (fun _ k_ => XS.iconst X5.here hx rfl (hb hby at_40) k_) ?_
        show Go p e below (T5.setTop (mkF m 41 #[.val (.int p1), .val (.int cc), .val (.ref w_MISSING), .unset] [(.int (1 : Int32))])) _
        refine Go.st (fun _ k_ => XS.istoreN X5.here hx rfl (hb hby at_41) rfl (l' := #[.val (.int p1), .val (.int cc), .val (.ref w_MISSING), .val (.int (1 : Int32))]) rfl k_) ?_
        show Go p e below (T5.setTop (mkF m 42 #[.val (.int p1), .val (.int cc), .val (.ref w_MISSING), .val (.int (1 : Int32))] [])) _
        refine Go.st (fun _ k_ => XS.goto X5.here hx rfl (pc0 := 42) (pc' := 51) rfl (hb hby at_42) (by decide) (by decide) k_) ?_
        show Go p e below (T5.setTop (mkF m 51 #[.val (.int p1), .val (.int cc), .val (.ref w_MISSING), .val (.int (1 : Int32))] [])) _
        refine Go.st (fun _ k_ => XS.aloadN X5.here hx rfl (hb hby at_51) rfl rfl k_) ?_
        show Go p e below (T5.setTop (mkF m 52 #[.val (.int p1), .val (.int cc), .val (.ref w_MISSING), .val (.int (1 : Int32))] [(.ref w_MISSING)])) _
        obtain ⟨cq6, kq6, q6a, q6b, q6c⟩ := isOf hZ e5 E_w_MISSING
        obtain ⟨_, _, ⟨T6, L6, k6_, n6_⟩, -, X6, ⟨Lc6, hQ6, l6_, y6_, z6_⟩, st6⟩ := X5.virtualBack hx (y := (⟨"com/example/mooring/mooring/dnssec/KeyState", "isCurrentAnchor", "()Z"⟩ : MethodName)) (z := (⟨"com/example/mooring/mooring/dnssec/KeyState", "isCurrentAnchor", "()Z"⟩ : MethodName)) hown (mvT hZ (hw _ (List.mem_of_getElem? (i := 3) rfl))) (mvT hZ (hw _ (List.mem_of_getElem? (i := 4) rfl))) (notFace_of_selects (args := #[]) (mvT hZ (hw _ (List.mem_of_getElem? (i := 6) rfl)))) (mvT hZ (hw _ (List.mem_of_getElem? (i := 6) rfl))) (mvT hZ (hw _ (List.mem_of_getElem? (i := 5) rfl))) (by decide) (backOf (W := 0) (rm1 l Z a0 hw [] w_MISSING w_VALID w_MISSING h0 n0 Z0 S_VALID S_MISSING) hZ (hw _ (List.mem_of_getElem? (i := 7) rfl)) (hw _ (List.mem_of_getElem? (i := 1) rfl)) (by decide) (by decide)) q6a q6c (g := (mkF m 52 #[.val (.int p1), .val (.int cc), .val (.ref w_MISSING), .val (.int (1 : Int32))] [(.ref w_MISSING)])) rfl (by rw [hml]; rfl) (Steps.refl _) (argsL := []) (rest := []) (lenOf pd_0 rfl) rfl (by show 2 * 0 + _ ≤ _; exact Nat.le_of_eq rfl) (hb hby at_52) (fun _ _ => ⟨rfl, e5, (by decide : 0 + 0 ≤ _), (by decide : 0 + 0 ≤ _)⟩)
        dsimp only [Pt.U, Pt.locs, Pt.cells, Pt.slots] at X6 l6_ y6_ z6_ st6 hQ6
        subst l6_ y6_ z6_
        obtain ⟨rfl, N6q, e6⟩ := hQ6
        have N6 := Fr.app N0 N6q
        refine Go.tr st6 ?_
        show Go p e below (T6.setTop (mkF m 55 #[.val (.int p1), .val (.int cc), .val (.ref w_MISSING), .val (.int (1 : Int32))] [(.int (own_ca w_MISSING w_VALID w_MISSING))])) _
        refine Go.st (fun _ k_ => XS.iloadN X6.here hx rfl (hb hby at_55) rfl k_) ?_
        show Go p e below (T6.setTop (mkF m 56 #[.val (.int p1), .val (.int cc), .val (.ref w_MISSING), .val (.int (1 : Int32))] [(.int (1 : Int32)), (.int (own_ca w_MISSING w_VALID w_MISSING))])) _
        have hc56 : (own_ca w_MISSING w_VALID w_MISSING) = (1 : Int32) := by simp [own_ca, ne_ADDPEND_VALID, ne_ADDPEND_MISSING, ne_REVOKED_VALID, ne_REVOKED_MISSING, ne_MISSING_VALID]
        refine Go.st (fun _ k_ => XS.icmpNo X6.here hx rfl (hb hby at_56) rfl (teq hc56).2 k_) ?_
        show Go p e below (T6.setTop (mkF m 59 #[.val (.int p1), .val (.int cc), .val (.ref w_MISSING), .val (.int (1 : Int32))] [])) _
        refine Go.st (fun _ k_ => XS.iconst X6.here hx rfl (hb hby at_59) k_) ?_
        show Go p e below (T6.setTop (mkF m 60 #[.val (.int p1), .val (.int cc), .val (.ref w_MISSING), .val (.int (1 : Int32))] [(.int (1 : Int32))])) _
        refine Go.st (fun _ k_ => XS.goto X6.here hx rfl (pc0 := 60) (pc' := 64) rfl (hb hby at_60) (by decide) (by decide) k_) ?_
        show Go p e below (T6.setTop (mkF m 64 #[.val (.int p1), .val (.int cc), .val (.ref w_MISSING), .val (.int (1 : Int32))] [(.int (1 : Int32))])) _
        refine Go.fin X6 (v := some (.int (1 : Int32))) (fun h_ => by rw [Bd.returns] at h_; cases h_) Bd.notSynchronized (fun _ hr => retN X6 hx (t := .boolean) Bd.returns (by simp) (hb hby at_64) hr) (fun U' hU hF => ⟨_, _, rfl, ?_, hF.1, hF.2.1, hF.2.2.mono (by decide) (by decide)⟩)
        exact ⟨(congrArg (fun z_ : Int32 => some (Value.int z_)) (show (1 : Int32) = (1 : Int32) from rfl)), N6⟩
      · refine Go.st (fun _ k_ => XS.icmpYes X0.here hx rfl (pc0 := 33) (pc' := 45) rfl (hb hby at_33) rfl (feq hc33).2 (by decide) (by decide) k_) ?_
        show Go p e below (s₁.setTop (mkF m 45 #[.val (.int p1), .val (.int cc), .unset, .unset] [])) _
        obtain ⟨T7, X7, e7, st7⟩ := getS2 X0 hx hZ hown (host := "") (Or.inl (hw _ (List.mem_of_getElem? (i := 9) rfl))) Via.refl e0 S_REVOKED (g := (mkF m 45 #[.val (.int p1), .val (.int cc), .unset, .unset] [])) rfl (hb hby at_45)
        refine Go.st st7 ?_
        show Go p e below (T7.setTop (mkF m 48 #[.val (.int p1), .val (.int cc), .unset, .unset] [(.ref w_REVOKED)])) _
        refine Go.st (fun _ k_ => XS.astoreN X7.here hx rfl (hb hby at_48) rfl rfl (l' := #[.val (.int p1), .val (.int cc), .val (.ref w_REVOKED), .unset]) rfl k_) ?_
        show Go p e below (T7.setTop (mkF m 49 #[.val (.int p1), .val (.int cc), .val (.ref w_REVOKED), .unset] [])) _
        refine Go.st (fun _ k_ => XS.iconst X7.here hx rfl (hb hby at_49) k_) ?_
        show Go p e below (T7.setTop (mkF m 50 #[.val (.int p1), .val (.int cc), .val (.ref w_REVOKED), .unset] [(.int (0 : Int32))])) _
        refine Go.st (fun _ k_ => XS.istoreN X7.here hx rfl (hb hby at_50) rfl (l' := #[.val (.int p1), .val (.int cc), .val (.ref w_REVOKED), .val (.int (0 : Int32))]) rfl k_) ?_
        show Go p e below (T7.setTop (mkF m 51 #[.val (.int p1), .val (.int cc), .val (.ref w_REVOKED), .val (.int (0 : Int32))] [])) _
        refine Go.st (fun _ k_ => XS.aloadN X7.here hx rfl (hb hby at_51) rfl rfl k_) ?_
        show Go p e below (T7.setTop (mkF m 52 #[.val (.int p1), .val (.int cc), .val (.ref w_REVOKED), .val (.int (0 : Int32))] [(.ref w_REVOKED)])) _
        obtain ⟨cq8, kq8, q8a, q8b, q8c⟩ := isOf hZ e7 E_w_REVOKED
        obtain ⟨_, _, ⟨T8, L8, k8_, n8_⟩, -, X8, ⟨Lc8, hQ8, l8_, y8_, z8_⟩, st8⟩ := X7.virtualBack hx (y := (⟨"com/example/mooring/mooring/dnssec/KeyState", "isCurrentAnchor", "()Z"⟩ : MethodName)) (z := (⟨"com/example/mooring/mooring/dnssec/KeyState", "isCurrentAnchor", "()Z"⟩ : MethodName)) hown (mvT hZ (hw _ (List.mem_of_getElem? (i := 3) rfl))) (mvT hZ (hw _ (List.mem_of_getElem? (i := 4) rfl))) (notFace_of_selects (args := #[]) (mvT hZ (hw _ (List.mem_of_getElem? (i := 6) rfl)))) (mvT hZ (hw _ (List.mem_of_getElem? (i := 6) rfl))) (mvT hZ (hw _ (List.mem_of_getElem? (i := 5) rfl))) (by decide) (backOf (W := 0) (rm1 l Z a0 hw [] w_REVOKED w_VALID w_MISSING h0 n0 Z0 S_VALID S_MISSING) hZ (hw _ (List.mem_of_getElem? (i := 7) rfl)) (hw _ (List.mem_of_getElem? (i := 1) rfl)) (by decide) (by decide)) q8a q8c (g := (mkF m 52 #[.val (.int p1), .val (.int cc), .val (.ref w_REVOKED), .val (.int (0 : Int32))] [(.ref w_REVOKED)])) rfl (by rw [hml]; rfl) (Steps.refl _) (argsL := []) (rest := []) (lenOf pd_0 rfl) rfl (by show 2 * 0 + _ ≤ _; exact Nat.le_of_eq rfl) (hb hby at_52) (fun _ _ => ⟨rfl, e7, (by decide : 0 + 0 ≤ _), (by decide : 0 + 0 ≤ _)⟩)
        dsimp only [Pt.U, Pt.locs, Pt.cells, Pt.slots] at X8 l8_ y8_ z8_ st8 hQ8
        subst l8_ y8_ z8_
        obtain ⟨rfl, N8q, e8⟩ := hQ8
        have N8 := Fr.app N0 N8q
        refine Go.tr st8 ?_
        show Go p e below (T8.setTop (mkF m 55 #[.val (.int p1), .val (.int cc), .val (.ref w_REVOKED), .val (.int (0 : Int32))] [(.int (own_ca w_REVOKED w_VALID w_MISSING))])) _
        refine Go.st (fun _ k_ => XS.iloadN X8.here hx rfl (hb hby at_55) rfl k_) ?_
        show Go p e below (T8.setTop (mkF m 56 #[.val (.int p1), .val (.int cc), .val (.ref w_REVOKED), .val (.int (0 : Int32))] [(.int (0 : Int32)), (.int (own_ca w_REVOKED w_VALID w_MISSING))])) _
        have hc56 : (own_ca w_REVOKED w_VALID w_MISSING) = (0 : Int32) := by simp [own_ca, ne_ADDPEND_VALID, ne_ADDPEND_MISSING, ne_REVOKED_VALID, ne_REVOKED_MISSING, ne_MISSING_VALID]
        refine Go.st (fun _ k_ => XS.icmpNo X8.here hx rfl (hb hby at_56) rfl (teq hc56).2 k_) ?_
        show Go p e below (T8.setTop (mkF m 59 #[.val (.int p1), .val (.int cc), .val (.ref w_REVOKED), .val (.int (0 : Int32))] [])) _
        refine Go.st (fun _ k_ => XS.iconst X8.here hx rfl (hb hby at_59) k_) ?_
        show Go p e below (T8.setTop (mkF m 60 #[.val (.int p1), .val (.int cc), .val (.ref w_REVOKED), .val (.int (0 : Int32))] [(.int (1 : Int32))])) _
        refine Go.st (fun _ k_ => XS.goto X8.here hx rfl (pc0 := 60) (pc' := 64) rfl (hb hby at_60) (by decide) (by decide) k_) ?_
        show Go p e below (T8.setTop (mkF m 64 #[.val (.int p1), .val (.int cc), .val (.ref w_REVOKED), .val (.int (0 : Int32))] [(.int (1 : Int32))])) _
        refine Go.fin X8 (v := some (.int (1 : Int32))) (fun h_ => by rw [Bd.returns] at h_; cases h_) Bd.notSynchronized (fun _ hr => retN X8 hx (t := .boolean) Bd.returns (by simp) (hb hby at_64) hr) (fun U' hU hF => ⟨_, _, rfl, ?_, hF.1, hF.2.1, hF.2.2.mono (by decide) (by decide)⟩)
        exact ⟨(congrArg (fun z_ : Int32 => some (Value.int z_)) (show (1 : Int32) = (1 : Int32) from rfl)), N8⟩
set_option maxRecDepth 65536 in
set_option maxHeartbeats 40000000 in
theorem comes_1 {Post : Tables → Env → Array Value → State → Outcome → State → Prop} (hpost : ∀ tb e args s v u, (limb_1_1.after args s (.returned v) u = true ∧ limb_1_2.after args s (.returned v) u = true ∧ True) → FrameEnd s (.returned v) u (Jvm.fieldLocs frame_1_writes args s ++ Jvm.arrayLocs frame_1_arrays args s ++ Jvm.staticLocs frame_1_statics s) 0 0 → Post tb e args s (.returned v) u) :
    ArmFor flags0 classFile x code maxLocals ret World_1 tables_1 room_1 Calls_1 rest_1 Pre_1 Post := by
  intro l hfl _ _ p e ha hc hk s m args below hf hA hF happ hP
  obtain ⟨hcalls, hrest, hpre⟩ := hP
  obtain ⟨-, -, -, hnamed, -, -, -, hat⟩ := (Spec.applies_iff hf).mp happ
  obtain ⟨hg, hn⟩ := and_e (Cond.before_iff.mp (show (Jvm.Cond.and given_1 narrow_1).before args s = true from hpre))
  obtain ⟨g1, g2⟩ := and_e hg
  obtain ⟨g3, g4⟩ := and_e hn
  obtain ⟨g5, g6⟩ := and_e g4
  obtain ⟨g7, g8⟩ := and_e g6
  obtain ⟨g9, g10⟩ := and_e g8
  obtain ⟨g11, g12⟩ := and_e g10
  obtain ⟨g13, g14⟩ := and_e g12
  obtain ⟨g15, g16⟩ := and_e g14
  obtain ⟨w0, rfl⟩ : ∃ w0 : Value, args = #[w0] := by
    have hs : args.size = 1 := by simpa [Cond.value, given_1] using g1
    obtain ⟨L⟩ := args
    match L, hs with
    | [w0], _ => exact ⟨w0, rfl⟩
  have hw := fun d (hd : d ∈ tables_1) => atoms_spec (ws := Jvm.Cond.code x code maxLocals ret :: tables_1) hat d (List.mem_cons_of_mem _ hd)
  have hfit : Fit s := fun {y c} hc i hi => by
    obtain ⟨ha, rfl⟩ := Array.getElem?_eq_some_iff.mp hc
    have q := List.all_eq_true.mp ((Array.all_eq_true_iff_forall_mem.mp hF) _ (Array.getElem_mem ha)) i (List.mem_range.mpr hi)
    simpa [Array.getElem?_eq_getElem hi] using q
  obtain ⟨i0, ei0⟩ := is_v g2
  obtain rfl : w0 = (.int i0) := Option.some.inj ei0
  obtain ⟨w_VALID, ew_VALID⟩ := exa_v g3
  have E_w_VALID := Exa.start ew_VALID g3
  have S_VALID := Sta.start ew_VALID (Or.inr ⟨(hw _ (List.mem_of_getElem? (i := 1) rfl)), (hw _ (List.mem_of_getElem? (i := 2) rfl))⟩)
  obtain ⟨w_REVOKED, ew_REVOKED⟩ := exa_v g5
  have E_w_REVOKED := Exa.start ew_REVOKED g5
  have S_REVOKED := Sta.start ew_REVOKED (Or.inr ⟨(hw _ (List.mem_of_getElem? (i := 1) rfl)), (hw _ (List.mem_of_getElem? (i := 10) rfl))⟩)
  obtain ⟨w_MISSING, ew_MISSING⟩ := exa_v g11
  have E_w_MISSING := Exa.start ew_MISSING g11
  have S_MISSING := Sta.start ew_MISSING (Or.inr ⟨(hw _ (List.mem_of_getElem? (i := 1) rfl)), (hw _ (List.mem_of_getElem? (i := 12) rfl))⟩)
  obtain ⟨w_ADDPEND, ew_ADDPEND⟩ := exa_v g15
  have E_w_ADDPEND := Exa.start ew_ADDPEND g15
  have S_ADDPEND := Sta.start ew_ADDPEND (Or.inr ⟨(hw _ (List.mem_of_getElem? (i := 1) rfl)), (hw _ (List.mem_of_getElem? (i := 15) rfl))⟩)
  have o_ordinal_REVOKED := own_ord ew_REVOKED g7
  have o_ordinal_VALID := own_ord ew_VALID g9
  have o_ordinal_MISSING := own_ord ew_MISSING g13
  have o_ordinal_ADDPEND := own_ord ew_ADDPEND g16
  have ne_ADDPEND_VALID : w_ADDPEND ≠ w_VALID := own_ne o_ordinal_ADDPEND o_ordinal_VALID (by decide)
  have ne_ADDPEND_MISSING : w_ADDPEND ≠ w_MISSING := own_ne o_ordinal_ADDPEND o_ordinal_MISSING (by decide)
  have ne_REVOKED_VALID : w_REVOKED ≠ w_VALID := own_ne o_ordinal_REVOKED o_ordinal_VALID (by decide)
  have ne_REVOKED_MISSING : w_REVOKED ≠ w_MISSING := own_ne o_ordinal_REVOKED o_ordinal_MISSING (by decide)
  have ne_MISSING_VALID : w_MISSING ≠ w_VALID := own_ne o_ordinal_MISSING o_ordinal_VALID (by decide)
  obtain ⟨n, o, h1, h2, h3, _, L, rfl, ⟨rfl, N⟩, hq⟩ := rm0 l s _ hw tables_1 i0 w_VALID w_MISSING w_ADDPEND w_REVOKED s.heap s.heap.size (Nat.le_refl _) S_VALID S_MISSING S_ADDPEND S_REVOKED E_w_VALID E_w_ADDPEND E_w_MISSING E_w_REVOKED ne_ADDPEND_VALID ne_ADDPEND_MISSING ne_REVOKED_VALID ne_REVOKED_MISSING ne_MISSING_VALID p e ha hc hk s m _ below hf ((Spec.applies_iff_loose hf).mp happ).1 ⟨rfl, State.Warmed39.refl s, rfl⟩ trivial
  refine ⟨n, _, h1, h2, h3, hpost _ _ _ _ _ _ ⟨Cond.after_iff.mpr rfl, Cond.after_iff.mpr (eq_i res_at (Term.int_eval (1)) rfl), trivial⟩ ⟨hq.1, hq.2.1, (hq.2.2.sift fun y hy => Or.inr (N y hy)).mono (by decide) (by decide)⟩⟩
theorem main_1_1 : Claimed_1_1 := comes_1 fun _ _ _ _ _ _ h hF => ⟨h.1, hF⟩
theorem main_1_2 : Claimed_1_2 := comes_1 fun _ _ _ _ _ _ h hF => ⟨h.2.1, hF⟩
end Jvm.Pilot.@@N@@
namespace Jvm.Pilot.@@N@@
open Jvm Jvm.ClassFile Sem Op Lib Jvm.Free Jvm.Stand Jvm.Pilot.@@N@@.Jvm.D
/-! MADE BY PROGRAM (witnessworld.py) out of the Statement's table words and the real class files: 12 classes; the members and pool entries that the words name. The judged class is class 1, her method 1. -/
namespace start1
open Jvm.ClassFile
def u (s : String) : CpInfo := .utf8 (stringToUtf16 s)
/-- a pool by its gaps: so many unusable entries, then the entry; so many at the end -/
def gap : Nat → List CpInfo → List CpInfo
  | 0, r => r
  | n + 1, r => .unusable :: gap n r
def poolList (es : List (Nat × CpInfo)) (last : Nat) : List CpInfo := es.foldr (fun e r => gap e.1 (e.2 :: r)) (gap last [])
def pool (es : List (Nat × CpInfo)) (last : Nat) : Array CpInfo := ⟨poolList es last⟩
def fileOf (pool : Array CpInfo) (this : Nat) (attrs : Array Attribute := #[]) (ms : Array MethodInfo := #[]) (fl : Nat := 33) (sup : Nat := 0) (ifs : Array Nat := #[]) (fds : Array FieldInfo := #[]) : ClassFile where
  minorVersion := 0
  majorVersion := 65
  constantPool := pool
  accessFlags := fl
  thisClass := this
  superClass := sup
  interfaces := ifs
  fields := fds
  methods := ms
  attributes := attrs
def plain (name : String) (sup : Option ClassId) : Class where
  name := name
  kind := .ordinary
  loader := none
  accessFlags := 33
  super := sup
  interfaces := #[]
  cf := none
  fields := #[]
  methods := #[]
  instanceTypes := #[]
  staticTypes := #[]
  resolved := #[]
  callSites := []
  init := .initialized
  statics := none
  mirror := none

def pool0 : Array CpInfo := pool [(5, u "<init>"), (0, u "()V"), (1, .class_ 10), (1, u "java/lang/Object")] 113

def k0m0 : Method := { name := "<init>", desc := "()V", sig := { parameters := [], returnType := none }, accessFlags := 1, code := none }
/-- java/lang/Object -/
def k0 : Class := { plain "java/lang/Object" none with
  accessFlags := 33
  interfaces := #[]
  cf := some (fileOf pool0 8 #[] #[{ accessFlags := 1, nameIndex := 5, descriptorIndex := 6, attributes := #[] }] 33 0 #[] #[])
  fields := #[]
  methods := #[k0m0]
  instanceTypes := #[]
  staticTypes := #[]
  resolved := Array.replicate 124 none
  statics := none }

def pool1 : Array CpInfo := pool [(2, .class_ 4), (1, u "java/lang/Object"), (0, u "<init>"), (0, u "()V"), (0, .fieldref 8 9), (0, .class_ 10), (0, .nameAndType 11 12), (0, u "com/example/mooring/mooring/dnssec/KeyState"), (0, u "VALID"), (0, u "Lcom/example/mooring/mooring/dnssec/KeyState;"), (0, .fieldref 8 14), (0, .nameAndType 15 12), (0, u "ADDPEND"), (0, .fieldref 8 17), (0, .nameAndType 18 12), (0, u "MISSING"), (0, .fieldref 8 20), (0, .nameAndType 21 12), (0, u "REVOKED"), (0, .methodref 8 23), (0, .nameAndType 24 25), (0, u "isCurrentAnchor"), (0, u "()Z"), (0, .class_ 27), (0, u "com/example/mooring/mooring/dnssec/KeyStateIsCurrentAnchorPinLaw"), (2, u "law"), (0, u "(I)Z")] 3

def k1m0 : Method := { name := "<init>", desc := "()V", sig := { parameters := [], returnType := none }, accessFlags := 1, code := none }
def k1c1 : Code := { maxStack := 2, maxLocals := 4, code := code, exceptionTable := #[], attributes := #[] }
def k1m1 : Method := { name := "law", desc := "(I)Z", sig := { parameters := [.int], returnType := some .boolean }, accessFlags := 9, code := some k1c1 }
/-- com/example/mooring/mooring/dnssec/KeyStateIsCurrentAnchorPinLaw -/
def k1 : Class := { plain "com/example/mooring/mooring/dnssec/KeyStateIsCurrentAnchorPinLaw" (some 0) with
  accessFlags := 49
  interfaces := #[]
  cf := some (fileOf pool1 26 #[] #[{ accessFlags := 1, nameIndex := 5, descriptorIndex := 6, attributes := #[] }, { accessFlags := 9, nameIndex := 30, descriptorIndex := 31, attributes := #[] }] 49 2 #[] #[])
  fields := #[]
  methods := #[k1m0, k1m1]
  instanceTypes := #[]
  staticTypes := #[]
  resolved := Array.replicate 35 none
  statics := none }

def pool2 : Array CpInfo := pool [(1, .class_ 2), (0, u "java/lang/constant/Constable"), (0, .class_ 4), (0, u "java/lang/Object")] 6

/-- java/lang/constant/Constable -/
def k2 : Class := { plain "java/lang/constant/Constable" (some 0) with
  accessFlags := 1537
  interfaces := #[]
  cf := some (fileOf pool2 1 #[] #[] 1537 3 #[] #[])
  fields := #[]
  methods := #[]
  instanceTypes := #[]
  staticTypes := #[]
  resolved := Array.replicate 11 none
  statics := none }

def pool3 : Array CpInfo := pool [(1, .class_ 2), (0, u "java/lang/Comparable"), (0, .class_ 4), (0, u "java/lang/Object")] 7

/-- java/lang/Comparable -/
def k3 : Class := { plain "java/lang/Comparable" (some 0) with
  accessFlags := 1537
  interfaces := #[]
  cf := some (fileOf pool3 1 #[] #[] 1537 3 #[] #[])
  fields := #[]
  methods := #[]
  instanceTypes := #[]
  staticTypes := #[]
  resolved := Array.replicate 12 none
  statics := none }

def pool4 : Array CpInfo := pool [(1, .class_ 2), (0, u "java/io/Serializable"), (0, .class_ 4), (0, u "java/lang/Object")] 2

/-- java/io/Serializable -/
def k4 : Class := { plain "java/io/Serializable" (some 0) with
  accessFlags := 1537
  interfaces := #[]
  cf := some (fileOf pool4 1 #[] #[] 1537 3 #[] #[])
  fields := #[]
  methods := #[]
  instanceTypes := #[]
  staticTypes := #[]
  resolved := Array.replicate 7 none
  statics := none }

def pool5 : Array CpInfo := pool [(2, .class_ 4), (1, u "java/lang/Enum"), (0, u "name"), (0, u "Ljava/lang/String;"), (2, u "ordinal"), (0, u "I"), (1, .class_ 14), (1, u "java/lang/Object"), (4, u "hash"), (86, .class_ 108), (1, u "java/lang/Enum$EnumDesc"), (2, .class_ 112), (0, u "java/lang/constant/Constable"), (0, .class_ 114), (0, u "java/lang/Comparable"), (0, .class_ 116), (0, u "java/io/Serializable")] 87

/-- java/lang/Enum -/
def k5 : Class := { plain "java/lang/Enum" (some 0) with
  accessFlags := 1057
  interfaces := #[2, 3, 4]
  cf := some (fileOf pool5 2 #[.nestMembers #[106]] #[] 1057 12 #[111, 113, 115] #[{ accessFlags := 18, nameIndex := 5, descriptorIndex := 6, attributes := #[] }, { accessFlags := 18, nameIndex := 9, descriptorIndex := 10, attributes := #[] }, { accessFlags := 2, nameIndex := 19, descriptorIndex := 10, attributes := #[] }])
  fields := #[{ name := "name", type := (.object "java/lang/String"), accessFlags := 18, slot := 0, constantValue := 0 }, { name := "ordinal", type := .int, accessFlags := 18, slot := 1, constantValue := 0 }, { name := "hash", type := .int, accessFlags := 2, slot := 2, constantValue := 0 }]
  methods := #[]
  instanceTypes := #[(.object "java/lang/String"), .int, .int]
  staticTypes := #[]
  resolved := Array.replicate 204 none
  statics := none }

def pool6 : Array CpInfo := pool [(1, .class_ 2), (0, u "com/example/mooring/mooring/dnssec/KeyState"), (0, .fieldref 1 4), (0, .nameAndType 5 6), (0, u "VALID"), (0, u "Lcom/example/mooring/mooring/dnssec/KeyState;"), (2, u "ADDPEND"), (0, .fieldref 1 11), (0, .nameAndType 12 6), (0, u "MISSING"), (2, u "REVOKED"), (2, u "$VALUES"), (0, u "[Lcom/example/mooring/mooring/dnssec/KeyState;"), (6, .class_ 28), (1, u "java/lang/Enum"), (22, u "isCurrentAnchor"), (0, u "()Z")] 5

def k6c0 : Code := { maxStack := 2, maxLocals := 1, code := prog_17_method_4_code, exceptionTable := #[], attributes := #[] }
def k6m0 : Method := { name := "isCurrentAnchor", desc := "()Z", sig := { parameters := [], returnType := some .boolean }, accessFlags := 1, code := some k6c0 }
/-- com/example/mooring/mooring/dnssec/KeyState -/
def k6 : Class := { plain "com/example/mooring/mooring/dnssec/KeyState" (some 5) with
  accessFlags := 16433
  interfaces := #[]
  cf := some (fileOf pool6 1 #[] #[{ accessFlags := 1, nameIndex := 51, descriptorIndex := 52, attributes := #[] }] 16433 26 #[] #[{ accessFlags := 16409, nameIndex := 5, descriptorIndex := 6, attributes := #[] }, { accessFlags := 16409, nameIndex := 9, descriptorIndex := 6, attributes := #[] }, { accessFlags := 16409, nameIndex := 12, descriptorIndex := 6, attributes := #[] }, { accessFlags := 16409, nameIndex := 15, descriptorIndex := 6, attributes := #[] }, { accessFlags := 4122, nameIndex := 18, descriptorIndex := 19, attributes := #[] }])
  fields := #[{ name := "VALID", type := (.object "com/example/mooring/mooring/dnssec/KeyState"), accessFlags := 16409, slot := 0, constantValue := 0 }, { name := "ADDPEND", type := (.object "com/example/mooring/mooring/dnssec/KeyState"), accessFlags := 16409, slot := 1, constantValue := 0 }, { name := "MISSING", type := (.object "com/example/mooring/mooring/dnssec/KeyState"), accessFlags := 16409, slot := 2, constantValue := 0 }, { name := "REVOKED", type := (.object "com/example/mooring/mooring/dnssec/KeyState"), accessFlags := 16409, slot := 3, constantValue := 0 }, { name := "$VALUES", type := (.array (.object "com/example/mooring/mooring/dnssec/KeyState")), accessFlags := 4122, slot := 4, constantValue := 0 }]
  methods := #[k6m0]
  instanceTypes := #[(.object "java/lang/String"), .int, .int]
  staticTypes := #[(.object "com/example/mooring/mooring/dnssec/KeyState"), (.object "com/example/mooring/mooring/dnssec/KeyState"), (.object "com/example/mooring/mooring/dnssec/KeyState"), (.object "com/example/mooring/mooring/dnssec/KeyState"), (.array (.object "com/example/mooring/mooring/dnssec/KeyState"))]
  resolved := Array.replicate 58 none
  statics := some 0 }

def pool7 : Array CpInfo := pool [(1, u "java/lang/Cloneable"), (0, .class_ 1), (0, u "java/lang/Object"), (0, .class_ 3)] 3

/-- java/lang/Cloneable -/
def k7 : Class := { plain "java/lang/Cloneable" (some 0) with
  accessFlags := 1537
  interfaces := #[]
  cf := some (fileOf pool7 2 #[] #[] 1537 4 #[] #[])
  fields := #[]
  methods := #[]
  instanceTypes := #[]
  staticTypes := #[]
  resolved := Array.replicate 8 none
  statics := none }

/-- the primitive byte -/
def k8 : Class := { plain "byte" none with kind := .primitive 'B', accessFlags := 0x411 }
/-- [B -/
def k9 : Class := { plain "[B" (some 0) with kind := .array 8 .byte, interfaces := #[7, 4], accessFlags := 1041 }

/-- the primitive int -/
def k10 : Class := { plain "int" none with kind := .primitive 'I', accessFlags := 0x411 }
/-- [I -/
def k11 : Class := { plain "[I" (some 0) with kind := .array 10 .int, interfaces := #[7, 4], accessFlags := 1041 }

def heap : Heap := #[{ cls := 6, slots := #[.ref 1, .ref 2, .ref 3, .ref 4, .null], vm := .statics 6 },
  { cls := 6, slots := #[.null, .int 0, .int 0], vm := .none },
  { cls := 6, slots := #[.null, .int 1, .int 0], vm := .none },
  { cls := 6, slots := #[.null, .int 2, .int 0], vm := .none },
  { cls := 6, slots := #[.null, .int 3, .int 0], vm := .none }]
def classes : Array Class := #[k0, k1, k2, k3, k4, k5, k6, k7, k8, k9, k10, k11]
def interned : List (Array UInt16 × Addr) := []
def slotsUsed : Nat := 17
def theMethod : MethodId := ⟨1, 1⟩
def args0 : Array Value := #[.int 5]
def aboutOver (below : List Frame) : State where
  vm := { classes := classes, interned := interned.toArray }
  heap := heap
  slotsUsed := slotsUsed
  threads := #[{ frames := .invoking theMethod args0 :: below }]
def below0 : List Frame := [.native { method := ⟨0, 0⟩, args := #[] }]
def about1 : State := aboutOver below0
def p0 : Program := .bare "" "" ""
def e0 : Env := launch0.env 0 0 0
theorem w_frames : about1.frames = Frame.invoking theMethod args0 :: below0 := rfl
set_option maxRecDepth 65536 in
theorem w_args : argsFit about1.vm theMethod args0 = true := by decide +kernel
set_option maxRecDepth 65536 in
theorem w_heap : heapFits about1 = true := by decide +kernel
set_option maxRecDepth 65536 in
theorem w_runnable : about1.curStatus? = some .runnable := by decide +kernel
set_option maxRecDepth 65536 in
theorem w_alone : about1.alone = true := by decide +kernel
set_option maxRecDepth 65536 in
theorem w_named : about1.methodNamed? x = some theMethod := by decide +kernel
set_option maxRecDepth 65536 in
theorem w_hears : about1.hears theMethod below0 = true := by decide +kernel
set_option maxRecDepth 65536 in
theorem w_ripe : about1.ripe theMethod args0 below0 = true := by decide +kernel
theorem w_running : about1.status = .running := rfl
set_option maxRecDepth 65536 in
theorem w_room : about1.hasRoom e0.platform room_1 = true :=
  launch0.hasRoom_least _ room_1 (by decide +kernel) (by decide +kernel) (by decide +kernel) (by decide +kernel) (by decide +kernel) (by decide +kernel)
theorem allAtoms_all (ts : List Jvm.Cond) (a : Array Jvm.Value) (st : Jvm.State) : (allAtoms ts).before a st = ts.all (fun c => c.before a st) := by
  induction ts with
  | nil => rfl
  | cons c t ih =>
    show (Jvm.Cond.and c (allAtoms t)).before a st = _
    rw [Jvm.Cond.before_and, ih, List.all_cons]
def words1 : List Jvm.Cond := Jvm.Cond.code x code maxLocals ret :: tables_1
/-- a 'code' word, met by the world's own term for the bytes: nothing is compared byte by byte -/
theorem code_word {y : MethodName} {bytes : ByteArray} {mx : Nat} {rt : Option FieldType} {a : Array Value} {s : State} {m : MethodId} {meth : Method} {c : Code} (h1 : s.methodNamed? y = some m) (h2 : s.vm.method? m = some meth) (h3 : meth.code = some c) (h4 : c.code = bytes)
    (h5 : (c.maxLocals == mx && c.exceptionTable.isEmpty && decide (c.maxStack ≤ mostOperands) && decide (meth.sig.returnType = rt) && !meth.locks && decide (parseMethodDescriptor y.desc = some meth.sig)) = true) : (Jvm.Cond.code y bytes mx rt).before a s = true := by
  simp only [Bool.and_eq_true, beq_iff_eq, Bool.not_eq_true', decide_eq_true_eq] at h5
  obtain ⟨⟨⟨⟨⟨g1, g2⟩, g3⟩, g4⟩, g5⟩, g6⟩ := h5
  simp [Cond.before, Cond.holds, Cond.value, h1, h2, h3, h4, g1, g2, g3, g4, g5, g6]
def isCode : Jvm.Cond → Bool
  | .code _ _ _ _ => true
  | _ => false
theorem all_split {L : List Jvm.Cond} {P : Jvm.Cond → Bool} (h1 : L.all (fun c => isCode c || P c) = true) (h2 : ∀ c ∈ L.filter isCode, P c = true) : L.all P = true := by
  refine List.all_eq_true.mpr fun c hc => ?_
  have h := List.all_eq_true.mp h1 c hc
  rcases Bool.eq_false_or_eq_true (isCode c) with hi | hi
  · exact h2 c (List.mem_filter.mpr ⟨hc, hi⟩)
  · simpa [hi] using h
set_option maxRecDepth 65536 in
theorem w_c0 : (Jvm.Cond.code x code maxLocals ret).before args0 about1 = true := code_word (m := ⟨1, 1⟩) (meth := k1m1) (c := k1c1) (by decide +kernel) rfl rfl rfl (by decide +kernel)
set_option maxRecDepth 65536 in
theorem w_c1 : (Jvm.Cond.code ({ cls := "com/example/mooring/mooring/dnssec/KeyState", name := "isCurrentAnchor", desc := "()Z" } : Jvm.MethodName) prog_17_method_4_code (1 : Nat) (Option.some Jvm.ClassFile.FieldType.boolean)).before args0 about1 = true := code_word (m := ⟨6, 0⟩) (meth := k6m0) (c := k6c0) (by decide +kernel) rfl rfl rfl (by decide +kernel)
def codes1 : List Jvm.Cond := [Jvm.Cond.code x code maxLocals ret, Jvm.Cond.code ({ cls := "com/example/mooring/mooring/dnssec/KeyState", name := "isCurrentAnchor", desc := "()Z" } : Jvm.MethodName) prog_17_method_4_code (1 : Nat) (Option.some Jvm.ClassFile.FieldType.boolean)]
set_option maxRecDepth 65536 in
theorem codes_eq : words1.filter isCode = codes1 := rfl
theorem w_codes : ∀ c ∈ words1.filter isCode, c.before args0 about1 = true := by
  rw [codes_eq]
  intro c hc
  simp only [codes1, List.mem_cons, List.not_mem_nil, or_false] at hc
  rcases hc with rfl | rfl
  · exact w_c0
  · exact w_c1
set_option maxRecDepth 65536 in
theorem w_t1 : words1.all (fun c => isCode c || c.before args0 about1) = true := by decide +kernel
theorem w_tables : (allAtoms (Jvm.Cond.code x code maxLocals ret :: tables_1)).before args0 about1 = true := by
  rw [allAtoms_all]
  show words1.all (fun c => c.before args0 about1) = true
  refine all_split ?_ w_codes
  rw [w_t1]
set_option maxRecDepth 65536 in
theorem w_case : (Jvm.Cond.and given_1 narrow_1).before args0 about1 = true := by decide +kernel
theorem w_applies : (headSpec (Jvm.Cond.code x code maxLocals ret :: tables_1) room_1).applies x e0.platform about1 = true :=
  (Spec.applies_iff w_frames).mpr ⟨w_running, w_runnable, w_alone, w_named, w_hears, w_ripe, w_room, w_tables⟩
theorem atStart : AtStart classFile x code maxLocals ret World_1 tables_1 room_1 Calls_1 rest_1 Pre_1 launch0 p0 e0 about1 theMethod args0 below0 :=
  ⟨lists_1, trivial, launch0.admits_env _ _ _, launch0.least_env, fairChoices_fair.cas, fairChoices_fair.clock, w_frames, w_args, w_heap, w_applies, trivial, trivial, w_case⟩
end start1
theorem witness_1 : WitnessClaimed_1 := ⟨start1.p0, start1.e0, start1.about1, start1.theMethod, start1.args0, start1.below0, start1.atStart⟩
end Jvm.Pilot.@@N@@
