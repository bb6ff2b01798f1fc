import JvmDerived
import JvmDerived.Pilot.@@N@@Statement
import JvmDerived.Pilot.@@N@@Code
set_option linter.unusedVariables false
set_option linter.unusedSimpArgs false
@@BLOCK:NumsL.lean.txt@@
namespace Jvm.RoadKit
open Sem ClassFile Op Lib Jvm.Stand Jvm.Free Jvm.LawKit
section Own
variable {p : Program} {l : Launch} {e : Env} {R : Room} {s : State} {m : MethodId} {args : Array Value} {below : List Frame} {meth : Method} {c : Code} {T : State} {locs : List Loc} {cells slots : Nat}
/-- from U the run ends, and P is said of the end -/
def Go (p : Program) (e : Env) (below : List Frame) (U : State) (P : Outcome → State → Prop) : Prop := ∃ s₂ o, Steps p.tables e below U s₂ ∧ s₂.status = .running ∧ Ended s₂ below o ∧ P o s₂
theorem Go.st {U U' : State} {P : Outcome → State → Prop} (k : ∀ t, Steps p.tables e below U' t → Steps p.tables e below U t) (g : Go p e below U' P) : Go p e below U P := by
  obtain ⟨t, o, a, r⟩ := g
  exact ⟨t, o, k t a, r⟩
theorem Go.tr {U U' : State} {P : Outcome → State → Prop} (k : Steps p.tables e below U U') (g : Go p e below U' P) : Go p e below U P := by
  obtain ⟨t, o, a, r⟩ := g
  exact ⟨t, o, k.trans a, r⟩
theorem Go.fin (X : Stand p l e R s m args below meth c T locs cells slots) {v : Option Value} (hv : meth.sig.returnType = none → v = none) (hlocks : meth.locks = false) {U : State} {P : Outcome → State → Prop}
    (st : ∀ fs, (∀ (f : JFrame) (acts : List Action), f.method = m → f.locked = none → f.entered = [] → (doReturn e (T.setTop f) acts v).1 = T.setFrames fs) → Steps p.tables e below U (T.setFrames fs))
    (hP : ∀ U' : State, U'.heap = T.heap → FrameEnd s (.returned v) U' locs cells slots → P (.returned v) U') : Go p e below U P := by
  obtain ⟨fs, hr, hrun, hended, hW, hsame⟩ := X.leave hv hlocks
  exact ⟨_, _, st fs hr, hrun, hended, hP _ rfl ⟨⟨_, rfl⟩, hW, hsame⟩⟩
theorem own_ord {a0 : Array Value} {t : Term} {a : Addr} {C n d : String} {k : Int32} (ev : t.eval a0 s none [] s = some (.ref a)) (h : (Cond.eq (.field t C n d) (.int k)).value a0 s none s [] = some true) : s.fieldOf? a C n d = some (.int k) := by
  have e1 := fld_at (C := C) (n := n) (dd := d) ev
  have e2 : (Term.int k).eval a0 s none [] s = some (.int k) := rfl
  cases hf : s.fieldOf? a C n d with
  | none => rw [hf] at e1; simp [Cond.value, e1] at h
  | some w =>
    rw [hf] at e1
    cases w <;> simp [Cond.value, e1, e2] at h
    rw [h]
theorem own_ne {a b : Addr} {C n d : String} {j k : Int32} (h1 : s.fieldOf? a C n d = some (.int j)) (h2 : s.fieldOf? b C n d = some (.int k)) (hne : j ≠ k) : a ≠ b := fun q => by
  subst q
  rw [h1] at h2
  exact hne (by injection (Option.some.inj h2))
theorem own_lsw {g : JFrame} {target : State} (X : Stand p l e R s m args below meth c T locs cells slots) (hx : p.tables.exec = Jvm.exec) (hg : g.method = m) {dflt : Int} {pairs : Array (Int × Int)} {len : Nat} {pc0 pc' : Nat} (hpc : g.pc = pc0)
    (hd : decode c.code g.pc = .ok (.lookupswitch dflt pairs, len)) {i : Int32} {rest : List Value} (hs : g.stack = .int i :: rest) {o : Int} (ho : lookupswitch.offset pairs.toList dflt i.toInt = o) (hso : ∀ (a b a_1 b_1 : Int), ((a, b), a_1, b_1) ∈ pairs.toList.zip pairs.toList.tail → a < a_1) (h0 : 0 ≤ (pc0 : Int) + o) (hp : ((pc0 : Int) + o).toNat = pc')
    (hr : Steps p.tables e below (T.setTop { g with pc := pc', stack := rest }) target) : Steps p.tables e below (T.setTop g) target := by
  subst hg hpc hp ho
  jvm_step X.here [X.here.top, hx, hd, hs, h0, lookupswitch.wp_chain]
  exact ⟨hso, hr⟩
theorem own_arvlt {Z : State} {h : Heap} {a : Addr} {k : ClassId} {ty : FieldType} {n : Int32} {vs : List Value} {d : Value} (V : Arv Z h a k ty n vs d) : a < h.size := by
  obtain ⟨c, A, -⟩ := V
  exact A.lt
end Own
end Jvm.RoadKit
namespace Jvm.Pilot.@@N@@
open Jvm Jvm.ClassFile Sem Op Lib Jvm.Free Jvm.Stand Jvm.LawKit Jvm.RoadKit Bundle Jvm.Pilot.@@N@@.Jvm.D
def own_stored (q : Int64) : Int64 := if q = (0 : Int64) then (0 : Int64) else (if q < (16 : Int64) then (16 : Int64) else q)
theorem d2_0 : decode jdk_29_method_66_code 0 = .ok (.lload_n 0, 1) := by decide +kernel
theorem d2_1 : decode jdk_29_method_66_code 1 = .ok (.lload_n 2, 1) := by decide +kernel
theorem d2_2 : decode jdk_29_method_66_code 2 = .ok (.lcmp, 1) := by decide +kernel
theorem d2_3 : decode jdk_29_method_66_code 3 = .ok (.ifCond .lt 7, 3) := by decide +kernel
theorem d2_6 : decode jdk_29_method_66_code 6 = .ok (.lload_n 0, 1) := by decide +kernel
theorem d2_7 : decode jdk_29_method_66_code 7 = .ok (.goto 4, 3) := by decide +kernel
theorem d2_10 : decode jdk_29_method_66_code 10 = .ok (.lload_n 2, 1) := by decide +kernel
theorem d2_11 : decode jdk_29_method_66_code 11 = .ok (.lreturn, 1) := by decide +kernel
theorem ef_rm2 (m : MethodId) (q1 : Int64) (q2 : Int64) : entryFrame m #[(.long q1), (.long q2)] 4 = mkF m 0 #[.val (.long q1), .second, .val (.long q2), .second] [] := by first | (simp [entryFrame, mkF, argsToLocals, Value.category]; done) | rfl
def Q_rm2 (Z : State) (q1 : Int64) (q2 : Int64) (h0 : Heap) (n0 : Nat) (v : Option Value) (h : Heap) (L : List Loc) : Prop := v = some (.long (if q1 < q2 then q2 else q1)) ∧ Fr n0 L ∧ h = h0
set_option maxRecDepth 65536 in
set_option maxHeartbeats 40000000 in
theorem rm2 (l : Launch) (Z : State) (a0 : Array Value) (hw : ∀ d ∈ tables_1, d.before a0 Z = true) (ws : List Jvm.Cond) (q1 : Int64) (q2 : Int64) (h0 : Heap) (n0 : Nat) (Z0 : n0 ≤ h0.size) :
    MetFree l (⟨"java/lang/Math", "max", "(JJ)J"⟩ : MethodName) (head1 (Jvm.Cond.code (⟨"java/lang/Math", "max", "(JJ)J"⟩ : MethodName) jdk_29_method_66_code 4 (some .long) :: ws) ({ frames := 0, cells := 0, slots := 0, locals := 0 } : Room)) (fun a U => a = #[(.long q1), (.long q2)] ∧ Z.Warmed39 U.vm ∧ U.heap = h0) (fun _ _ _ _ _ => True) (fun _ U o U' => ∃ v L, o = .returned v ∧ Q_rm2 Z q1 q2 h0 n0 v U'.heap L ∧ FrameEnd U o U' L ({ frames := 0, cells := 0, slots := 0, locals := 0 } : Room).cells ({ frames := 0, cells := 0, slots := 0, locals := 0 } : Room).slots) := by
  refine MetFree.of_bodySF (Jvm.Free.JP.mathPlain rfl (by decide +kernel)) hisR ?_
  intro p e s m args below meth c s₁ Bd hml0 hP hK
  obtain ⟨rfl, hZ, hh⟩ := hP
  have hx := Bd.exec
  have hby := Bd.bytes
  have hml : c.maxLocals = 4 := hml0
  have hown : s.vm.findClass "java/lang/Math" = some m.cls := findClass_of_methodNamed Bd.named
  have hnm := (name_of_methodNamed Bd.named Bd.method).1
  have X0 : Stand p l e ({ frames := 0, cells := 0, slots := 0, locals := 0 } : Room) s m #[(.long q1), (.long q2)] below meth c s₁ [] 0 0 := Stand.of_body Bd
  have e0 : s₁.heap = h0 := by rw [← hh, Bd.state]; rfl
  have N0 := Fr.nil n0
  show Go p e below (s₁.setTop (entryFrame m #[(.long q1), (.long q2)] 4)) (fun o U' => ∃ v L, o = .returned v ∧ Q_rm2 Z q1 q2 h0 n0 v U'.heap L ∧ FrameEnd s o U' L ({ frames := 0, cells := 0, slots := 0, locals := 0 } : Room).cells ({ frames := 0, cells := 0, slots := 0, locals := 0 } : Room).slots)
  rw [ef_rm2]
  show Go p e below (s₁.setTop (mkF m 0 #[.val (.long q1), .second, .val (.long q2), .second] [])) _
  refine Go.st (fun _ k_ => XS.lloadN X0.here hx rfl (hb hby d2_0) rfl k_) ?_
  show Go p e below (s₁.setTop (mkF m 1 #[.val (.long q1), .second, .val (.long q2), .second] [(.long q1)])) _
  refine Go.st (fun _ k_ => XS.lloadN X0.here hx rfl (hb hby d2_1) rfl k_) ?_
  show Go p e below (s₁.setTop (mkF m 2 #[.val (.long q1), .second, .val (.long q2), .second] [(.long q2), (.long q1)])) _
  refine Go.st (fun _ k_ => XS.lcmp X0.here hx rfl (hb hby d2_2) rfl k_) ?_
  show Go p e below (s₁.setTop (mkF m 3 #[.val (.long q1), .second, .val (.long q2), .second] [(.int (lcmpW q1 q2))])) _
  by_cases hc3 : q1 < q2
  · refine Go.st (fun _ k_ => XS.ifYes X0.here hx rfl (pc0 := 3) (pc' := 10) rfl (hb hby d2_3) rfl ((if0 _ _).trans (tlt ((lw_lt _ _).mpr hc3)).1) (by decide) (by decide) k_) ?_
    show Go p e below (s₁.setTop (mkF m 10 #[.val (.long q1), .second, .val (.long q2), .second] [])) _
    refine Go.st (fun _ k_ => XS.lloadN X0.here hx rfl (hb hby d2_10) rfl k_) ?_
    show Go p e below (s₁.setTop (mkF m 11 #[.val (.long q1), .second, .val (.long q2), .second] [(.long q2)])) _
    refine Go.fin X0 (v := some (.long q2)) (fun h_ => by rw [Bd.returns] at h_; cases h_) Bd.notSynchronized (fun _ hr => retOut X0 hx Bd.returns rfl (Or.inr (Or.inl ⟨rfl, rfl, _, rfl⟩)) (hb hby d2_11) hr) (fun U' hU hF => ⟨_, _, rfl, ?_, hF.1, hF.2.1, hF.2.2.mono (by decide) (by decide)⟩)
    rw [hU, e0]
    exact ⟨(congrArg (fun z_ : Int64 => some (Value.long z_)) (show q2 = (if q1 < q2 then q2 else q1) from by simp [hc3])), N0, rfl⟩
  · refine Go.st (fun _ k_ => XS.ifNo X0.here hx rfl (hb hby d2_3) rfl ((if0 _ _).trans (flt (fun q_ => hc3 ((lw_lt _ _).mp q_))).1) k_) ?_
    show Go p e below (s₁.setTop (mkF m 6 #[.val (.long q1), .second, .val (.long q2), .second] [])) _
    refine Go.st (fun _ k_ => XS.lloadN X0.here hx rfl (hb hby d2_6) rfl k_) ?_
    show Go p e below (s₁.setTop (mkF m 7 #[.val (.long q1), .second, .val (.long q2), .second] [(.long q1)])) _
    refine Go.st (fun _ k_ => XS.goto X0.here hx rfl (pc0 := 7) (pc' := 11) rfl (hb hby d2_7) (by decide) (by decide) k_) ?_
    show Go p e below (s₁.setTop (mkF m 11 #[.val (.long q1), .second, .val (.long q2), .second] [(.long q1)])) _
    refine Go.fin X0 (v := some (.long q1)) (fun h_ => by rw [Bd.returns] at h_; cases h_) Bd.notSynchronized (fun _ hr => retOut X0 hx Bd.returns rfl (Or.inr (Or.inl ⟨rfl, rfl, _, rfl⟩)) (hb hby d2_11) hr) (fun U' hU hF => ⟨_, _, rfl, ?_, hF.1, hF.2.1, hF.2.2.mono (by decide) (by decide)⟩)
    rw [hU, e0]
    exact ⟨(congrArg (fun z_ : Int64 => some (Value.long z_)) (show q1 = (if q1 < q2 then q2 else q1) from by simp [hc3])), N0, rfl⟩
theorem pd_0 : parseMethodDescriptor "(JJ)J" = some ⟨[.long, .long], some .long⟩ := by decide +kernel
theorem d1_0 : decode prog_2_method_2_code 0 = .ok (.lload_n 0, 1) := by decide +kernel
theorem d1_1 : decode prog_2_method_2_code 1 = .ok (.lconst 0, 1) := by decide +kernel
theorem d1_2 : decode prog_2_method_2_code 2 = .ok (.lcmp, 1) := by decide +kernel
theorem d1_3 : decode prog_2_method_2_code 3 = .ok (.ifCond .ne 7, 3) := by decide +kernel
theorem d1_6 : decode prog_2_method_2_code 6 = .ok (.lconst 0, 1) := by decide +kernel
theorem d1_7 : decode prog_2_method_2_code 7 = .ok (.goto 10, 3) := by decide +kernel
theorem d1_10 : decode prog_2_method_2_code 10 = .ok (.lload_n 0, 1) := by decide +kernel
theorem d1_11 : decode prog_2_method_2_code 11 = .ok (.ldc2_w 9, 3) := by decide +kernel
theorem d1_14 : decode prog_2_method_2_code 14 = .ok (.invokestatic 11, 3) := by decide +kernel
theorem d1_17 : decode prog_2_method_2_code 17 = .ok (.lreturn, 1) := by decide +kernel
theorem pn_18 : plainName "com/example/patuxent/patuxent/Contents" = true := by first | (simp [plainName, overriddenIn]; done) | decide +kernel
theorem ef_rm1 (m : MethodId) (q1 : Int64) : entryFrame m #[(.long q1)] 2 = mkF m 0 #[.val (.long q1), .second] [] := by first | (simp [entryFrame, mkF, argsToLocals, Value.category]; done) | rfl
def Q_rm1 (Z : State) (q1 : Int64) (h0 : Heap) (n0 : Nat) (v : Option Value) (h : Heap) (L : List Loc) : Prop := v = some (.long (own_stored q1)) ∧ Fr n0 L ∧ h = h0
set_option maxRecDepth 65536 in
set_option maxHeartbeats 40000000 in
theorem rm1 (l : Launch) (Z : State) (a0 : Array Value) (hw : ∀ d ∈ tables_1, d.before a0 Z = true) (ws : List Jvm.Cond) (q1 : Int64) (h0 : Heap) (n0 : Nat) (Z0 : n0 ≤ h0.size) :
    MetFree l (⟨"com/example/patuxent/patuxent/Contents", "storedLength", "(J)J"⟩ : MethodName) (head1 (Jvm.Cond.code (⟨"com/example/patuxent/patuxent/Contents", "storedLength", "(J)J"⟩ : MethodName) prog_2_method_2_code 2 (some .long) :: ws) ({ frames := 1, cells := 0, slots := 0, locals := 15 } : Room)) (fun a U => a = #[(.long q1)] ∧ Z.Warmed39 U.vm ∧ U.heap = h0) (fun _ _ _ _ _ => True) (fun _ U o U' => ∃ v L, o = .returned v ∧ Q_rm1 Z q1 h0 n0 v U'.heap L ∧ FrameEnd U o U' L ({ frames := 1, cells := 0, slots := 0, locals := 15 } : Room).cells ({ frames := 1, cells := 0, slots := 0, locals := 15 } : Room).slots) := by
  refine MetFree.of_bodySF (plainFor_of_name pn_18) hisR ?_
  intro p e s m args below meth c s₁ Bd hml0 hP hK
  obtain ⟨rfl, hZ, hh⟩ := hP
  have hx := Bd.exec
  have hby := Bd.bytes
  have hml : c.maxLocals = 2 := hml0
  have hown : s.vm.findClass "com/example/patuxent/patuxent/Contents" = some m.cls := findClass_of_methodNamed Bd.named
  have hnm := (name_of_methodNamed Bd.named Bd.method).1
  have X0 : Stand p l e ({ frames := 1, cells := 0, slots := 0, locals := 15 } : Room) s m #[(.long q1)] below meth c s₁ [] 0 0 := Stand.of_body Bd
  have e0 : s₁.heap = h0 := by rw [← hh, Bd.state]; rfl
  have N0 := Fr.nil n0
  show Go p e below (s₁.setTop (entryFrame m #[(.long q1)] 2)) (fun o U' => ∃ v L, o = .returned v ∧ Q_rm1 Z q1 h0 n0 v U'.heap L ∧ FrameEnd s o U' L ({ frames := 1, cells := 0, slots := 0, locals := 15 } : Room).cells ({ frames := 1, cells := 0, slots := 0, locals := 15 } : Room).slots)
  rw [ef_rm1]
  show Go p e below (s₁.setTop (mkF m 0 #[.val (.long q1), .second] [])) _
  refine Go.st (fun _ k_ => XS.lloadN X0.here hx rfl (hb hby d1_0) rfl k_) ?_
  show Go p e below (s₁.setTop (mkF m 1 #[.val (.long q1), .second] [(.long q1)])) _
  refine Go.st (fun _ k_ => XS.lconst X0.here hx rfl (hb hby d1_1) k_) ?_
  show Go p e below (s₁.setTop (mkF m 2 #[.val (.long q1), .second] [(.long (0 : Int64)), (.long q1)])) _
  refine Go.st (fun _ k_ => XS.lcmp X0.here hx rfl (hb hby d1_2) rfl k_) ?_
  show Go p e below (s₁.setTop (mkF m 3 #[.val (.long q1), .second] [(.int (lcmpW q1 (0 : Int64)))])) _
  by_cases hc3 : q1 = (0 : Int64)
  · refine Go.st (fun _ k_ => XS.ifNo X0.here hx rfl (hb hby d1_3) rfl ((if0 _ _).trans (teq ((lw_eq _ _).mpr hc3)).2) k_) ?_
    show Go p e below (s₁.setTop (mkF m 6 #[.val (.long q1), .second] [])) _
    refine Go.st (fun _ k_ => XS.lconst X0.here hx rfl (hb hby d1_6) k_) ?_
    show Go p e below (s₁.setTop (mkF m 7 #[.val (.long q1), .second] [(.long (0 : Int64))])) _
    refine Go.st (fun _ k_ => XS.goto X0.here hx rfl (pc0 := 7) (pc' := 17) rfl (hb hby d1_7) (by decide) (by decide) k_) ?_
    show Go p e below (s₁.setTop (mkF m 17 #[.val (.long q1), .second] [(.long (0 : Int64))])) _
    refine Go.fin X0 (v := some (.long (0 : Int64))) (fun h_ => by rw [Bd.returns] at h_; cases h_) Bd.notSynchronized (fun _ hr => retOut X0 hx Bd.returns rfl (Or.inr (Or.inl ⟨rfl, rfl, _, rfl⟩)) (hb hby d1_17) hr) (fun U' hU hF => ⟨_, _, rfl, ?_, hF.1, hF.2.1, hF.2.2.mono (by decide) (by decide)⟩)
    rw [hU, e0]
    exact ⟨(congrArg (fun z_ : Int64 => some (Value.long z_)) (show (0 : Int64) = (own_stored q1) from by simp [own_stored, hc3])), N0, rfl⟩
  · refine Go.st (fun _ k_ => XS.ifYes X0.here hx rfl (pc0 := 3) (pc' := 10) rfl (hb hby d1_3) rfl ((if0 _ _).trans (feq (fun q_ => hc3 ((lw_eq _ _).mp q_))).2) (by decide) (by decide) k_) ?_
    show Go p e below (s₁.setTop (mkF m 10 #[.val (.long q1), .second] [])) _
    refine Go.st (fun _ k_ => XS.lloadN X0.here hx rfl (hb hby d1_10) rfl k_) ?_
    show Go p e below (s₁.setTop (mkF m 11 #[.val (.long q1), .second] [(.long q1)])) _
    refine Go.st (X0.ldc2Long hx hown (mvT hZ (hw _ (List.mem_of_getElem? (i := 5) rfl))) (g := (mkF m 11 #[.val (.long q1), .second] [(.long q1)])) rfl (hb hby d1_11)) ?_
    show Go p e below (s₁.setTop (mkF m 14 #[.val (.long q1), .second] [(.long (16 : Int64)), (.long q1)])) _
    obtain ⟨_, _, ⟨T1, L1, k1_, n1_⟩, -, X1, ⟨Lc1, hQ1, l1_, y1_, z1_⟩, st1⟩ := Jvm.LawKit.callS X0 hx (y := (⟨"java/lang/Math", "max", "(JJ)J"⟩ : MethodName)) hown (mvT hZ (hw _ (List.mem_of_getElem? (i := 6) rfl))) (mvT hZ (hw _ (List.mem_of_getElem? (i := 7) rfl))) (mvT hZ (hw _ (List.mem_of_getElem? (i := 8) rfl))) (mvT hZ (hw _ (List.mem_of_getElem? (i := 9) rfl))) (by decide) (backOf (W := 0) (rm2 l Z a0 hw [] q1 (16 : Int64) h0 n0 Z0) hZ (hw _ (List.mem_of_getElem? (i := 9) rfl)) (hw _ (List.mem_of_getElem? (i := 8) rfl)) (by decide) (by decide)) (g := (mkF m 14 #[.val (.long q1), .second] [(.long (16 : Int64)), (.long q1)])) rfl (by rw [hml]; rfl) (argsL := [(.long q1), (.long (16 : Int64))]) (rest := []) (lenOf pd_0 rfl) rfl (by show 2 * 0 + _ ≤ _; exact Nat.le_of_eq rfl) (hb hby d1_14) (fun _ _ => ⟨rfl, e0, (by decide : 0 + 0 ≤ _), (by decide : 0 + 0 ≤ _)⟩)
    dsimp only [Pt.U, Pt.locs, Pt.cells, Pt.slots] at X1 l1_ y1_ z1_ st1 hQ1
    subst l1_ y1_ z1_
    obtain ⟨rfl, N1q, e1⟩ := hQ1
    have N1 := Fr.app N0 N1q
    refine Go.st st1 ?_
    show Go p e below (T1.setTop (mkF m 17 #[.val (.long q1), .second] [(.long (if q1 < (16 : Int64) then (16 : Int64) else q1))])) _
    refine Go.fin X1 (v := some (.long (if q1 < (16 : Int64) then (16 : Int64) else q1))) (fun h_ => by rw [Bd.returns] at h_; cases h_) Bd.notSynchronized (fun _ hr => retOut X1 hx Bd.returns rfl (Or.inr (Or.inl ⟨rfl, rfl, _, rfl⟩)) (hb hby d1_17) hr) (fun U' hU hF => ⟨_, _, rfl, ?_, hF.1, hF.2.1, hF.2.2.mono (by decide) (by decide)⟩)
    rw [hU, e1]
    exact ⟨(congrArg (fun z_ : Int64 => some (Value.long z_)) (show (if q1 < (16 : Int64) then (16 : Int64) else q1) = (own_stored q1) from by simp [own_stored, hc3])), N1, rfl⟩
theorem pd_1 : parseMethodDescriptor "(J)J" = some ⟨[.long], some .long⟩ := by decide +kernel
theorem pn_19 : plainName "com/example/patuxent/patuxent/ContentsStoredLengthPinLaw" = true := by first | (simp [plainName, overriddenIn]; done) | decide +kernel
theorem ef_rm0 (m : MethodId) (q1 : Int64) (p2 : Int32) : entryFrame m #[(.long q1), (.int p2)] maxLocals = mkF m 0 #[.val (.long q1), .second, .val (.int p2), .unset, .unset, .unset, .unset, .unset, .unset] [] := by first | (simp [entryFrame, mkF, argsToLocals, Value.category, maxLocals]; done) | rfl
def Q_rm0 (Z : State) (q1 : Int64) (p2 : Int32) (h0 : Heap) (n0 : Nat) (v : Option Value) (h : Heap) (L : List Loc) : Prop := v = some (.int (1 : Int32)) ∧ Fr n0 L
set_option maxRecDepth 65536 in
set_option maxHeartbeats 40000000 in
theorem rm0 (l : Launch) (Z : State) (a0 : Array Value) (hw : ∀ d ∈ tables_1, d.before a0 Z = true) (ws : List Jvm.Cond) (q1 : Int64) (p2 : Int32) (h0 : Heap) (n0 : Nat) (Z0 : n0 ≤ h0.size) :
    MetFree l x (head1 (Jvm.Cond.code x code maxLocals ret :: ws) room_1) (fun a U => a = #[(.long q1), (.int p2)] ∧ Z.Warmed39 U.vm ∧ U.heap = h0) (fun _ _ _ _ _ => True) (fun _ U o U' => ∃ v L, o = .returned v ∧ Q_rm0 Z q1 p2 h0 n0 v U'.heap L ∧ FrameEnd U o U' L room_1.cells room_1.slots) := by
  refine MetFree.of_bodySF (plainFor_of_name pn_19) hisR ?_
  intro p e s m args below meth c s₁ Bd hml0 hP hK
  obtain ⟨rfl, hZ, hh⟩ := hP
  have hx := Bd.exec
  have hby := Bd.bytes
  have hml : c.maxLocals = 9 := hml0
  have hown : s.vm.findClass "com/example/patuxent/patuxent/ContentsStoredLengthPinLaw" = some m.cls := findClass_of_methodNamed Bd.named
  have hnm := (name_of_methodNamed Bd.named Bd.method).1
  have X0 : Stand p l e room_1 s m #[(.long q1), (.int p2)] below meth c s₁ [] 0 0 := Stand.of_body Bd
  have e0 : s₁.heap = h0 := by rw [← hh, Bd.state]; rfl
  have N0 := Fr.nil n0
  show Go p e below (s₁.setTop (entryFrame m #[(.long q1), (.int p2)] maxLocals)) (fun o U' => ∃ v L, o = .returned v ∧ Q_rm0 Z q1 p2 h0 n0 v U'.heap L ∧ FrameEnd s o U' L room_1.cells room_1.slots)
  rw [ef_rm0]
  show Go p e below (s₁.setTop (mkF m 0 #[.val (.long q1), .second, .val (.int p2), .unset, .unset, .unset, .unset, .unset, .unset] [])) _
  refine Go.st (fun _ k_ => XS.iloadN X0.here hx rfl (hb hby at_0) rfl k_) ?_
  show Go p e below (s₁.setTop (mkF m 1 #[.val (.long q1), .second, .val (.int p2), .unset, .unset, .unset, .unset, .unset, .unset] [(.int p2)])) _
  refine Go.st (fun _ k_ => XS.iconst X0.here hx rfl (hb hby at_1) k_) ?_
  show Go p e below (s₁.setTop (mkF m 2 #[.val (.long q1), .second, .val (.int p2), .unset, .unset, .unset, .unset, .unset, .unset] [(.int (1 : Int32)), (.int p2)])) _
  refine Go.st (fun _ k_ => XS.iand X0.here hx rfl (hb hby at_2) rfl k_) ?_
  show Go p e below (s₁.setTop (mkF m 3 #[.val (.long q1), .second, .val (.int p2), .unset, .unset, .unset, .unset, .unset, .unset] [(.int (p2 &&& (1 : Int32)))])) _
  by_cases hc3 : (p2 &&& (1 : Int32)) = (0 : Int32)
  · refine Go.st (fun _ k_ => XS.ifYes X0.here hx rfl (pc0 := 3) (pc' := 15) rfl (hb hby at_3) rfl ((if0 _ _).trans (teq hc3).1) (by decide) (by decide) k_) ?_
    show Go p e below (s₁.setTop (mkF m 15 #[.val (.long q1), .second, .val (.int p2), .unset, .unset, .unset, .unset, .unset, .unset] [])) _
    refine Go.st (fun _ k_ => XS.lloadN X0.here hx rfl (hb hby at_15) rfl k_) ?_
    show Go p e below (s₁.setTop (mkF m 16 #[.val (.long q1), .second, .val (.int p2), .unset, .unset, .unset, .unset, .unset, .unset] [(.long q1)])) _
    refine Go.st (X0.ldc2Long hx hown (mvT hZ (hw _ (List.mem_of_getElem? (i := 0) rfl))) (g := (mkF m 16 #[.val (.long q1), .second, .val (.int p2), .unset, .unset, .unset, .unset, .unset, .unset] [(.long q1)])) rfl (hb hby at_16)) ?_
    show Go p e below (s₁.setTop (mkF m 19 #[.val (.long q1), .second, .val (.int p2), .unset, .unset, .unset, .unset, .unset, .unset] [(.long (9223372036854775807 : Int64)), (.long q1)])) _
    refine Go.st (fun _ k_ => XS.land X0.here hx rfl (hb hby at_19) rfl k_) ?_
    show Go p e below (s₁.setTop (mkF m 20 #[.val (.long q1), .second, .val (.int p2), .unset, .unset, .unset, .unset, .unset, .unset] [(.long (q1 &&& (9223372036854775807 : Int64)))])) _
    obtain ⟨ln, eln⟩ : ∃ z_ : Int64, z_ = (q1 &&& (9223372036854775807 : Int64)) := ⟨_, rfl⟩
    rw [← eln]
    show Go p e below (s₁.setTop (mkF m 20 #[.val (.long q1), .second, .val (.int p2), .unset, .unset, .unset, .unset, .unset, .unset] [(.long ln)])) _
    refine Go.st (fun _ k_ => XS.lstoreN X0.here hx rfl (hb hby at_20) rfl (l' := #[.val (.long q1), .second, .val (.int p2), .val (.long ln), .second, .unset, .unset, .unset, .unset]) rfl k_) ?_
    show Go p e below (s₁.setTop (mkF m 21 #[.val (.long q1), .second, .val (.int p2), .val (.long ln), .second, .unset, .unset, .unset, .unset] [])) _
    refine Go.st (fun _ k_ => XS.lloadN X0.here hx rfl (hb hby at_21) rfl k_) ?_
    show Go p e below (s₁.setTop (mkF m 22 #[.val (.long q1), .second, .val (.int p2), .val (.long ln), .second, .unset, .unset, .unset, .unset] [(.long ln)])) _
    obtain ⟨_, _, ⟨T1, L1, k1_, n1_⟩, -, X1, ⟨Lc1, hQ1, l1_, y1_, z1_⟩, st1⟩ := Jvm.LawKit.callS X0 hx (y := (⟨"com/example/patuxent/patuxent/Contents", "storedLength", "(J)J"⟩ : MethodName)) hown (mvT hZ (hw _ (List.mem_of_getElem? (i := 1) rfl))) (mvT hZ (hw _ (List.mem_of_getElem? (i := 2) rfl))) (mvT hZ (hw _ (List.mem_of_getElem? (i := 3) rfl))) (mvT hZ (hw _ (List.mem_of_getElem? (i := 4) rfl))) (by decide) (backOf (W := 0) (rm1 l Z a0 hw [] ln h0 n0 Z0) hZ (hw _ (List.mem_of_getElem? (i := 4) rfl)) (hw _ (List.mem_of_getElem? (i := 3) rfl)) (by decide) (by decide)) (g := (mkF m 22 #[.val (.long q1), .second, .val (.int p2), .val (.long ln), .second, .unset, .unset, .unset, .unset] [(.long ln)])) rfl (by rw [hml]; rfl) (argsL := [(.long ln)]) (rest := []) (lenOf pd_1 rfl) rfl (by show 2 * 0 + _ ≤ _; exact Nat.le_of_eq rfl) (hb hby at_22) (fun _ _ => ⟨rfl, e0, (by decide : 0 + 0 ≤ _), (by decide : 0 + 0 ≤ _)⟩)
    dsimp only [Pt.U, Pt.locs, Pt.cells, Pt.slots] at X1 l1_ y1_ z1_ st1 hQ1
    subst l1_ y1_ z1_
    obtain ⟨rfl, N1q, e1⟩ := hQ1
    have N1 := Fr.app N0 N1q
    refine Go.st st1 ?_
    show Go p e below (T1.setTop (mkF m 25 #[.val (.long q1), .second, .val (.int p2), .val (.long ln), .second, .unset, .unset, .unset, .unset] [(.long (own_stored ln))])) _
    refine Go.st (fun _ k_ => XS.lstore X1.here hx rfl (hb hby at_25) rfl (l' := #[.val (.long q1), .second, .val (.int p2), .val (.long ln), .second, .val (.long (own_stored ln)), .second, .unset, .unset]) rfl k_) ?_
    show Go p e below (T1.setTop (mkF m 27 #[.val (.long q1), .second, .val (.int p2), .val (.long ln), .second, .val (.long (own_stored ln)), .second, .unset, .unset] [])) _
    refine Go.st (fun _ k_ => XS.lloadN X1.here hx rfl (hb hby at_27) rfl k_) ?_
    show Go p e below (T1.setTop (mkF m 28 #[.val (.long q1), .second, .val (.int p2), .val (.long ln), .second, .val (.long (own_stored ln)), .second, .unset, .unset] [(.long ln)])) _
    refine Go.st (fun _ k_ => XS.lconst X1.here hx rfl (hb hby at_28) k_) ?_
    show Go p e below (T1.setTop (mkF m 29 #[.val (.long q1), .second, .val (.int p2), .val (.long ln), .second, .val (.long (own_stored ln)), .second, .unset, .unset] [(.long (0 : Int64)), (.long ln)])) _
    refine Go.st (fun _ k_ => XS.lcmp X1.here hx rfl (hb hby at_29) rfl k_) ?_
    show Go p e below (T1.setTop (mkF m 30 #[.val (.long q1), .second, .val (.int p2), .val (.long ln), .second, .val (.long (own_stored ln)), .second, .unset, .unset] [(.int (lcmpW ln (0 : Int64)))])) _
    by_cases hc30 : ln = (0 : Int64)
    · refine Go.st (fun _ k_ => XS.ifNo X1.here hx rfl (hb hby at_30) rfl ((if0 _ _).trans (teq ((lw_eq _ _).mpr hc30)).2) k_) ?_
      show Go p e below (T1.setTop (mkF m 33 #[.val (.long q1), .second, .val (.int p2), .val (.long ln), .second, .val (.long (own_stored ln)), .second, .unset, .unset] [])) _
      refine Go.st (fun _ k_ => XS.lconst X1.here hx rfl (hb hby at_33) k_) ?_
      show Go p e below (T1.setTop (mkF m 34 #[.val (.long q1), .second, .val (.int p2), .val (.long ln), .second, .val (.long (own_stored ln)), .second, .unset, .unset] [(.long (0 : Int64))])) _
      refine Go.st (fun _ k_ => XS.lstore X1.here hx rfl (hb hby at_34) rfl (l' := #[.val (.long q1), .second, .val (.int p2), .val (.long ln), .second, .val (.long (own_stored ln)), .second, .val (.long (0 : Int64)), .second]) rfl k_) ?_
      show Go p e below (T1.setTop (mkF m 36 #[.val (.long q1), .second, .val (.int p2), .val (.long ln), .second, .val (.long (own_stored ln)), .second, .val (.long (0 : Int64)), .second] [])) _
      refine Go.st (fun _ k_ => XS.goto X1.here hx rfl (pc0 := 36) (pc' := 58) rfl (hb hby at_36) (by decide) (by decide) k_) ?_
      show Go p e below (T1.setTop (mkF m 58 #[.val (.long q1), .second, .val (.int p2), .val (.long ln), .second, .val (.long (own_stored ln)), .second, .val (.long (0 : Int64)), .second] [])) _
      refine Go.st (fun _ k_ => XS.lload X1.here hx rfl (hb hby at_58) rfl k_) ?_
      show Go p e below (T1.setTop (mkF m 60 #[.val (.long q1), .second, .val (.int p2), .val (.long ln), .second, .val (.long (own_stored ln)), .second, .val (.long (0 : Int64)), .second] [(.long (own_stored ln))])) _
      refine Go.st (fun _ k_ => XS.lload X1.here hx rfl (hb hby at_60) rfl k_) ?_
      show Go p e below (T1.setTop (mkF m 62 #[.val (.long q1), .second, .val (.int p2), .val (.long ln), .second, .val (.long (own_stored ln)), .second, .val (.long (0 : Int64)), .second] [(.long (0 : Int64)), (.long (own_stored ln))])) _
      refine Go.st (fun _ k_ => XS.lcmp X1.here hx rfl (hb hby at_62) rfl k_) ?_
      show Go p e below (T1.setTop (mkF m 63 #[.val (.long q1), .second, .val (.int p2), .val (.long ln), .second, .val (.long (own_stored ln)), .second, .val (.long (0 : Int64)), .second] [(.int (lcmpW (own_stored ln) (0 : Int64)))])) _
      have hc63 : (own_stored ln) = (0 : Int64) := by simp [own_stored, hc30]
      refine Go.st (fun _ k_ => XS.ifNo X1.here hx rfl (hb hby at_63) rfl ((if0 _ _).trans (teq ((lw_eq _ _).mpr hc63)).2) k_) ?_
      show Go p e below (T1.setTop (mkF m 66 #[.val (.long q1), .second, .val (.int p2), .val (.long ln), .second, .val (.long (own_stored ln)), .second, .val (.long (0 : Int64)), .second] [])) _
      refine Go.st (fun _ k_ => XS.iconst X1.here hx rfl (hb hby at_66) k_) ?_
      show Go p e below (T1.setTop (mkF m 67 #[.val (.long q1), .second, .val (.int p2), .val (.long ln), .second, .val (.long (own_stored ln)), .second, .val (.long (0 : Int64)), .second] [(.int (1 : Int32))])) _
      refine Go.st (fun _ k_ => XS.goto X1.here hx rfl (pc0 := 67) (pc' := 71) rfl (hb hby at_67) (by decide) (by decide) k_) ?_
      show Go p e below (T1.setTop (mkF m 71 #[.val (.long q1), .second, .val (.int p2), .val (.long ln), .second, .val (.long (own_stored ln)), .second, .val (.long (0 : Int64)), .second] [(.int (1 : Int32))])) _
      refine Go.fin X1 (v := some (.int (1 : Int32))) (fun h_ => by rw [Bd.returns] at h_; cases h_) Bd.notSynchronized (fun _ hr => retN X1 hx (t := .boolean) Bd.returns (by simp) (hb hby at_71) hr) (fun U' hU hF => ⟨_, _, rfl, ?_, hF.1, hF.2.1, hF.2.2.mono (by decide) (by decide)⟩)
      exact ⟨(congrArg (fun z_ : Int32 => some (Value.int z_)) (show (1 : Int32) = (1 : Int32) from rfl)), N1⟩
    · refine Go.st (fun _ k_ => XS.ifYes X1.here hx rfl (pc0 := 30) (pc' := 39) rfl (hb hby at_30) rfl ((if0 _ _).trans (feq (fun q_ => hc30 ((lw_eq _ _).mp q_))).2) (by decide) (by decide) k_) ?_
      show Go p e below (T1.setTop (mkF m 39 #[.val (.long q1), .second, .val (.int p2), .val (.long ln), .second, .val (.long (own_stored ln)), .second, .unset, .unset] [])) _
      refine Go.st (fun _ k_ => XS.lloadN X1.here hx rfl (hb hby at_39) rfl k_) ?_
      show Go p e below (T1.setTop (mkF m 40 #[.val (.long q1), .second, .val (.int p2), .val (.long ln), .second, .val (.long (own_stored ln)), .second, .unset, .unset] [(.long ln)])) _
      refine Go.st (X1.ldc2Long hx hown (mvT hZ (hw _ (List.mem_of_getElem? (i := 10) rfl))) (g := (mkF m 40 #[.val (.long q1), .second, .val (.int p2), .val (.long ln), .second, .val (.long (own_stored ln)), .second, .unset, .unset] [(.long ln)])) rfl (hb hby at_40)) ?_
      show Go p e below (T1.setTop (mkF m 43 #[.val (.long q1), .second, .val (.int p2), .val (.long ln), .second, .val (.long (own_stored ln)), .second, .unset, .unset] [(.long (16 : Int64)), (.long ln)])) _
      refine Go.st (fun _ k_ => XS.lcmp X1.here hx rfl (hb hby at_43) rfl k_) ?_
      show Go p e below (T1.setTop (mkF m 44 #[.val (.long q1), .second, .val (.int p2), .val (.long ln), .second, .val (.long (own_stored ln)), .second, .unset, .unset] [(.int (lcmpW ln (16 : Int64)))])) _
      by_cases hc44 : ln < (16 : Int64)
      · refine Go.st (fun _ k_ => XS.ifNo X1.here hx rfl (hb hby at_44) rfl ((if0 _ _).trans (tlt ((lw_lt _ _).mpr hc44)).2.1) k_) ?_
        show Go p e below (T1.setTop (mkF m 47 #[.val (.long q1), .second, .val (.int p2), .val (.long ln), .second, .val (.long (own_stored ln)), .second, .unset, .unset] [])) _
        refine Go.st (X1.ldc2Long hx hown (mvT hZ (hw _ (List.mem_of_getElem? (i := 10) rfl))) (g := (mkF m 47 #[.val (.long q1), .second, .val (.int p2), .val (.long ln), .second, .val (.long (own_stored ln)), .second, .unset, .unset] [])) rfl (hb hby at_47)) ?_
        show Go p e below (T1.setTop (mkF m 50 #[.val (.long q1), .second, .val (.int p2), .val (.long ln), .second, .val (.long (own_stored ln)), .second, .unset, .unset] [(.long (16 : Int64))])) _
        refine Go.st (fun _ k_ => XS.lstore X1.here hx rfl (hb hby at_50) rfl (l' := #[.val (.long q1), .second, .val (.int p2), .val (.long ln), .second, .val (.long (own_stored ln)), .second, .val (.long (16 : Int64)), .second]) rfl k_) ?_
        show Go p e below (T1.setTop (mkF m 52 #[.val (.long q1), .second, .val (.int p2), .val (.long ln), .second, .val (.long (own_stored ln)), .second, .val (.long (16 : Int64)), .second] [])) _
        refine Go.st (fun _ k_ => XS.goto X1.here hx rfl (pc0 := 52) (pc' := 58) rfl (hb hby at_52) (by decide) (by decide) k_) ?_
        show Go p e below (T1.setTop (mkF m 58 #[.val (.long q1), .second, .val (.int p2), .val (.long ln), .second, .val (.long (own_stored ln)), .second, .val (.long (16 : Int64)), .second] [])) _
        refine Go.st (fun _ k_ => XS.lload X1.here hx rfl (hb hby at_58) rfl k_) ?_
        show Go p e below (T1.setTop (mkF m 60 #[.val (.long q1), .second, .val (.int p2), .val (.long ln), .second, .val (.long (own_stored ln)), .second, .val (.long (16 : Int64)), .second] [(.long (own_stored ln))])) _
        refine Go.st (fun _ k_ => XS.lload X1.here hx rfl (hb hby at_60) rfl k_) ?_
        show Go p e below (T1.setTop (mkF m 62 #[.val (.long q1), .second, .val (.int p2), .val (.long ln), .second, .val (.long (own_stored ln)), .second, .val (.long (16 : Int64)), .second] [(.long (16 : Int64)), (.long (own_stored ln))])) _
        refine Go.st (fun _ k_ => XS.lcmp X1.here hx rfl (hb hby at_62) rfl k_) ?_
        show Go p e below (T1.setTop (mkF m 63 #[.val (.long q1), .second, .val (.int p2), .val (.long ln), .second, .val (.long (own_stored ln)), .second, .val (.long (16 : Int64)), .second] [(.int (lcmpW (own_stored ln) (16 : Int64)))])) _
        have hc63 : (own_stored ln) = (16 : Int64) := by simp [own_stored, hc30, hc44]
        refine Go.st (fun _ k_ => XS.ifNo X1.here hx rfl (hb hby at_63) rfl ((if0 _ _).trans (teq ((lw_eq _ _).mpr hc63)).2) k_) ?_
        show Go p e below (T1.setTop (mkF m 66 #[.val (.long q1), .second, .val (.int p2), .val (.long ln), .second, .val (.long (own_stored ln)), .second, .val (.long (16 : Int64)), .second] [])) _
        refine Go.st (fun _ k_ => XS.iconst X1.here hx rfl (hb hby at_66) k_) ?_
        show Go p e below (T1.setTop (mkF m 67 #[.val (.long q1), .second, .val (.int p2), .val (.long ln), .second, .val (.long (own_stored ln)), .second, .val (.long (16 : Int64)), .second] [(.int (1 : Int32))])) _
        refine Go.st (fun _ k_ => XS.goto X1.here hx rfl (pc0 := 67) (pc' := 71) rfl (hb hby at_67) (by decide) (by decide) k_) ?_
        show Go p e below (T1.setTop (mkF m 71 #[.val (.long q1), .second, .val (.int p2), .val (.long ln), .second, .val (.long (own_stored ln)), .second, .val (.long (16 : Int64)), .second] [(.int (1 : Int32))])) _
        refine Go.fin X1 (v := some (.int (1 : Int32))) (fun h_ => by rw [Bd.returns] at h_; cases h_) Bd.notSynchronized (fun _ hr => retN X1 hx (t := .boolean) Bd.returns (by simp) (hb hby at_71) hr) (fun U' hU hF => ⟨_, _, rfl, ?_, hF.1, hF.2.1, hF.2.2.mono (by decide) (by decide)⟩)
        exact ⟨(congrArg (fun z_ : Int32 => some (Value.int z_)) (show (1 : Int32) = (1 : Int32) from rfl)), N1⟩
      · refine Go.st (fun _ k_ => XS.ifYes X1.here hx rfl (pc0 := 44) (pc' := 55) rfl (hb hby at_44) rfl ((if0 _ _).trans (flt (fun q_ => hc44 ((lw_lt _ _).mp q_))).2.1) (by decide) (by decide) k_) ?_
        show Go p e below (T1.setTop (mkF m 55 #[.val (.long q1), .second, .val (.int p2), .val (.long ln), .second, .val (.long (own_stored ln)), .second, .unset, .unset] [])) _
        refine Go.st (fun _ k_ => XS.lloadN X1.here hx rfl (hb hby at_55) rfl k_) ?_
        show Go p e below (T1.setTop (mkF m 56 #[.val (.long q1), .second, .val (.int p2), .val (.long ln), .second, .val (.long (own_stored ln)), .second, .unset, .unset] [(.long ln)])) _
        refine Go.st (fun _ k_ => XS.lstore X1.here hx rfl (hb hby at_56) rfl (l' := #[.val (.long q1), .second, .val (.int p2), .val (.long ln), .second, .val (.long (own_stored ln)), .second, .val (.long ln), .second]) rfl k_) ?_
        show Go p e below (T1.setTop (mkF m 58 #[.val (.long q1), .second, .val (.int p2), .val (.long ln), .second, .val (.long (own_stored ln)), .second, .val (.long ln), .second] [])) _
        refine Go.st (fun _ k_ => XS.lload X1.here hx rfl (hb hby at_58) rfl k_) ?_
        show Go p e below (T1.setTop (mkF m 60 #[.val (.long q1), .second, .val (.int p2), .val (.long ln), .second, .val (.long (own_stored ln)), .second, .val (.long ln), .second] [(.long (own_stored ln))])) _
        refine Go.st (fun _ k_ => XS.lload X1.here hx rfl (hb hby at_60) rfl k_) ?_
        show Go p e below (T1.setTop (mkF m 62 #[.val (.long q1), .second, .val (.int p2), .val (.long ln), .second, .val (.long (own_stored ln)), .second, .val (.long ln), .second] [(.long ln), (.long (own_stored ln))])) _
        refine Go.st (fun _ k_ => XS.lcmp X1.here hx rfl (hb hby at_62) rfl k_) ?_
        show Go p e below (T1.setTop (mkF m 63 #[.val (.long q1), .second, .val (.int p2), .val (.long ln), .second, .val (.long (own_stored ln)), .second, .val (.long ln), .second] [(.int (lcmpW (own_stored ln) ln))])) _
        have hc63 : (own_stored ln) = ln := by simp [own_stored, hc30, hc44]
        refine Go.st (fun _ k_ => XS.ifNo X1.here hx rfl (hb hby at_63) rfl ((if0 _ _).trans (teq ((lw_eq _ _).mpr hc63)).2) k_) ?_
        show Go p e below (T1.setTop (mkF m 66 #[.val (.long q1), .second, .val (.int p2), .val (.long ln), .second, .val (.long (own_stored ln)), .second, .val (.long ln), .second] [])) _
        refine Go.st (fun _ k_ => XS.iconst X1.here hx rfl (hb hby at_66) k_) ?_
        show Go p e below (T1.setTop (mkF m 67 #[.val (.long q1), .second, .val (.int p2), .val (.long ln), .second, .val (.long (own_stored ln)), .second, .val (.long ln), .second] [(.int (1 : Int32))])) _
        refine Go.st (fun _ k_ => XS.goto X1.here hx rfl (pc0 := 67) (pc' := 71) rfl (hb hby at_67) (by decide) (by decide) k_) ?_
        show Go p e below (T1.setTop (mkF m 71 #[.val (.long q1), .second, .val (.int p2), .val (.long ln), .second, .val (.long (own_stored ln)), .second, .val (.long ln), .second] [(.int (1 : Int32))])) _
        refine Go.fin X1 (v := some (.int (1 : Int32))) (fun h_ => by rw [Bd.returns] at h_; cases h_) Bd.notSynchronized (fun _ hr => retN X1 hx (t := .boolean) Bd.returns (by simp) (hb hby at_71) hr) (fun U' hU hF => ⟨_, _, rfl, ?_, hF.1, hF.2.1, hF.2.2.mono (by decide) (by decide)⟩)
        exact ⟨(congrArg (fun z_ : Int32 => some (Value.int z_)) (show (1 : Int32) = (1 : Int32) from rfl)), N1⟩
  · refine Go.st (fun _ k_ => XS.ifNo X0.here hx rfl (hb hby at_3) rfl ((if0 _ _).trans (feq hc3).1) k_) ?_
    show Go p e below (s₁.setTop (mkF m 6 #[.val (.long q1), .second, .val (.int p2), .unset, .unset, .unset, .unset, .unset, .unset] [])) _
    refine Go.st (fun _ k_ => XS.lloadN X0.here hx rfl (hb hby at_6) rfl k_) ?_
    show Go p e below (s₁.setTop (mkF m 7 #[.val (.long q1), .second, .val (.int p2), .unset, .unset, .unset, .unset, .unset, .unset] [(.long q1)])) _
    refine Go.st (X0.ldc2Long hx hown (mvT hZ (hw _ (List.mem_of_getElem? (i := 11) rfl))) (g := (mkF m 7 #[.val (.long q1), .second, .val (.int p2), .unset, .unset, .unset, .unset, .unset, .unset] [(.long q1)])) rfl (hb hby at_7)) ?_
    show Go p e below (s₁.setTop (mkF m 10 #[.val (.long q1), .second, .val (.int p2), .unset, .unset, .unset, .unset, .unset, .unset] [(.long (31 : Int64)), (.long q1)])) _
    refine Go.st (fun _ k_ => XS.land X0.here hx rfl (hb hby at_10) rfl k_) ?_
    show Go p e below (s₁.setTop (mkF m 11 #[.val (.long q1), .second, .val (.int p2), .unset, .unset, .unset, .unset, .unset, .unset] [(.long (q1 &&& (31 : Int64)))])) _
    obtain ⟨ln, eln⟩ : ∃ z_ : Int64, z_ = (q1 &&& (31 : Int64)) := ⟨_, rfl⟩
    rw [← eln]
    show Go p e below (s₁.setTop (mkF m 11 #[.val (.long q1), .second, .val (.int p2), .unset, .unset, .unset, .unset, .unset, .unset] [(.long ln)])) _
    refine Go.st (fun _ k_ => XS.lstoreN X0.here hx rfl (hb hby at_11) rfl (l' := #[.val (.long q1), .second, .val (.int p2), .val (.long ln), .second, .unset, .unset, .unset, .unset]) rfl k_) ?_
    show Go p e below (s₁.setTop (mkF m 12 #[.val (.long q1), .second, .val (.int p2), .val (.long ln), .second, .unset, .unset, .unset, .unset] [])) _
    refine Go.st (fun _ k_ => XS.goto X0.here hx rfl (pc0 := 12) (pc' := 21) rfl (hb hby at_12) (by decide) (by decide) k_) ?_
    show Go p e below (s₁.setTop (mkF m 21 #[.val (.long q1), .second, .val (.int p2), .val (.long ln), .second, .unset, .unset, .unset, .unset] [])) _
    refine Go.st (fun _ k_ => XS.lloadN X0.here hx rfl (hb hby at_21) rfl k_) ?_
    show Go p e below (s₁.setTop (mkF m 22 #[.val (.long q1), .second, .val (.int p2), .val (.long ln), .second, .unset, .unset, .unset, .unset] [(.long ln)])) _
    obtain ⟨_, _, ⟨T2, L2, k2_, n2_⟩, -, X2, ⟨Lc2, hQ2, l2_, y2_, z2_⟩, st2⟩ := Jvm.LawKit.callS X0 hx (y := (⟨"com/example/patuxent/patuxent/Contents", "storedLength", "(J)J"⟩ : MethodName)) hown (mvT hZ (hw _ (List.mem_of_getElem? (i := 1) rfl))) (mvT hZ (hw _ (List.mem_of_getElem? (i := 2) rfl))) (mvT hZ (hw _ (List.mem_of_getElem? (i := 3) rfl))) (mvT hZ (hw _ (List.mem_of_getElem? (i := 4) rfl))) (by decide) (backOf (W := 0) (rm1 l Z a0 hw [] ln h0 n0 Z0) hZ (hw _ (List.mem_of_getElem? (i := 4) rfl)) (hw _ (List.mem_of_getElem? (i := 3) rfl)) (by decide) (by decide)) (g := (mkF m 22 #[.val (.long q1), .second, .val (.int p2), .val (.long ln), .second, .unset, .unset, .unset, .unset] [(.long ln)])) rfl (by rw [hml]; rfl) (argsL := [(.long ln)]) (rest := []) (lenOf pd_1 rfl) rfl (by show 2 * 0 + _ ≤ _; exact Nat.le_of_eq rfl) (hb hby at_22) (fun _ _ => ⟨rfl, e0, (by decide : 0 + 0 ≤ _), (by decide : 0 + 0 ≤ _)⟩)
    dsimp only [Pt.U, Pt.locs, Pt.cells, Pt.slots] at X2 l2_ y2_ z2_ st2 hQ2
    subst l2_ y2_ z2_
    obtain ⟨rfl, N2q, e2⟩ := hQ2
    have N2 := Fr.app N0 N2q
    refine Go.st st2 ?_
    show Go p e below (T2.setTop (mkF m 25 #[.val (.long q1), .second, .val (.int p2), .val (.long ln), .second, .unset, .unset, .unset, .unset] [(.long (own_stored ln))])) _
    refine Go.st (fun _ k_ => XS.lstore X2.here hx rfl (hb hby at_25) rfl (l' := #[.val (.long q1), .second, .val (.int p2), .val (.long ln), .second, .val (.long (own_stored ln)), .second, .unset, .unset]) rfl k_) ?_
    show Go p e below (T2.setTop (mkF m 27 #[.val (.long q1), .second, .val (.int p2), .val (.long ln), .second, .val (.long (own_stored ln)), .second, .unset, .unset] [])) _
    refine Go.st (fun _ k_ => XS.lloadN X2.here hx rfl (hb hby at_27) rfl k_) ?_
    show Go p e below (T2.setTop (mkF m 28 #[.val (.long q1), .second, .val (.int p2), .val (.long ln), .second, .val (.long (own_stored ln)), .second, .unset, .unset] [(.long ln)])) _
    refine Go.st (fun _ k_ => XS.lconst X2.here hx rfl (hb hby at_28) k_) ?_
    show Go p e below (T2.setTop (mkF m 29 #[.val (.long q1), .second, .val (.int p2), .val (.long ln), .second, .val (.long (own_stored ln)), .second, .unset, .unset] [(.long (0 : Int64)), (.long ln)])) _
    refine Go.st (fun _ k_ => XS.lcmp X2.here hx rfl (hb hby at_29) rfl k_) ?_
    show Go p e below (T2.setTop (mkF m 30 #[.val (.long q1), .second, .val (.int p2), .val (.long ln), .second, .val (.long (own_stored ln)), .second, .unset, .unset] [(.int (lcmpW ln (0 : Int64)))])) _
    by_cases hc30 : ln = (0 : Int64)
    · refine Go.st (fun _ k_ => XS.ifNo X2.here hx rfl (hb hby at_30) rfl ((if0 _ _).trans (teq ((lw_eq _ _).mpr hc30)).2) k_) ?_
      show Go p e below (T2.setTop (mkF m 33 #[.val (.long q1), .second, .val (.int p2), .val (.long ln), .second, .val (.long (own_stored ln)), .second, .unset, .unset] [])) _
      refine Go.st (fun _ k_ => XS.lconst X2.here hx rfl (hb hby at_33) k_) ?_
      show Go p e below (T2.setTop (mkF m 34 #[.val (.long q1), .second, .val (.int p2), .val (.long ln), .second, .val (.long (own_stored ln)), .second, .unset, .unset] [(.long (0 : Int64))])) _
      refine Go.st (fun _ k_ => XS.lstore X2.here hx rfl (hb hby at_34) rfl (l' := #[.val (.long q1), .second, .val (.int p2), .val (.long ln), .second, .val (.long (own_stored ln)), .second, .val (.long (0 : Int64)), .second]) rfl k_) ?_
      show Go p e below (T2.setTop (mkF m 36 #[.val (.long q1), .second, .val (.int p2), .val (.long ln), .second, .val (.long (own_stored ln)), .second, .val (.long (0 : Int64)), .second] [])) _
      refine Go.st (fun _ k_ => XS.goto X2.here hx rfl (pc0 := 36) (pc' := 58) rfl (hb hby at_36) (by decide) (by decide) k_) ?_
      show Go p e below (T2.setTop (mkF m 58 #[.val (.long q1), .second, .val (.int p2), .val (.long ln), .second, .val (.long (own_stored ln)), .second, .val (.long (0 : Int64)), .second] [])) _
      refine Go.st (fun _ k_ => XS.lload X2.here hx rfl (hb hby at_58) rfl k_) ?_
      show Go p e below (T2.setTop (mkF m 60 #[.val (.long q1), .second, .val (.int p2), .val (.long ln), .second, .val (.long (own_stored ln)), .second, .val (.long (0 : Int64)), .second] [(.long (own_stored ln))])) _
      refine Go.st (fun _ k_ => XS.lload X2.here hx rfl (hb hby at_60) rfl k_) ?_
      show Go p e below (T2.setTop (mkF m 62 #[.val (.long q1), .second, .val (.int p2), .val (.long ln), .second, .val (.long (own_stored ln)), .second, .val (.long (0 : Int64)), .second] [(.long (0 : Int64)), (.long (own_stored ln))])) _
      refine Go.st (fun _ k_ => XS.lcmp X2.here hx rfl (hb hby at_62) rfl k_) ?_
      show Go p e below (T2.setTop (mkF m 63 #[.val (.long q1), .second, .val (.int p2), .val (.long ln), .second, .val (.long (own_stored ln)), .second, .val (.long (0 : Int64)), .second] [(.int (lcmpW (own_stored ln) (0 : Int64)))])) _
      have hc63 : (own_stored ln) = (0 : Int64) := by simp [own_stored, hc30]
      refine Go.st (fun _ k_ => XS.ifNo X2.here hx rfl (hb hby at_63) rfl ((if0 _ _).trans (teq ((lw_eq _ _).mpr hc63)).2) k_) ?_
      show Go p e below (T2.setTop (mkF m 66 #[.val (.long q1), .second, .val (.int p2), .val (.long ln), .second, .val (.long (own_stored ln)), .second, .val (.long (0 : Int64)), .second] [])) _
      refine Go.st (fun _ k_ => XS.iconst X2.here hx rfl (hb hby at_66) k_) ?_
      show Go p e below (T2.setTop (mkF m 67 #[.val (.long q1), .second, .val (.int p2), .val (.long ln), .second, .val (.long (own_stored ln)), .second, .val (.long (0 : Int64)), .second] [(.int (1 : Int32))])) _
      refine Go.st (fun _ k_ => XS.goto X2.here hx rfl (pc0 := 67) (pc' := 71) rfl (hb hby at_67) (by decide) (by decide) k_) ?_
      show Go p e below (T2.setTop (mkF m 71 #[.val (.long q1), .second, .val (.int p2), .val (.long ln), .second, .val (.long (own_stored ln)), .second, .val (.long (0 : Int64)), .second] [(.int (1 : Int32))])) _
      refine Go.fin X2 (v := some (.int (1 : Int32))) (fun h_ => by rw [Bd.returns] at h_; cases h_) Bd.notSynchronized (fun _ hr => retN X2 hx (t := .boolean) Bd.returns (by simp) (hb hby at_71) hr) (fun U' hU hF => ⟨_, _, rfl, ?_, hF.1, hF.2.1, hF.2.2.mono (by decide) (by decide)⟩)
      exact ⟨(congrArg (fun z_ : Int32 => some (Value.int z_)) (show (1 : Int32) = (1 : Int32) from rfl)), N2⟩
    · refine Go.st (fun _ k_ => XS.ifYes X2.here hx rfl (pc0 := 30) (pc' := 39) rfl (hb hby at_30) rfl ((if0 _ _).trans (feq (fun q_ => hc30 ((lw_eq _ _).mp q_))).2) (by decide) (by decide) k_) ?_
      show Go p e below (T2.setTop (mkF m 39 #[.val (.long q1), .second, .val (.int p2), .val (.long ln), .second, .val (.long (own_stored ln)), .second, .unset, .unset] [])) _
      refine Go.st (fun _ k_ => XS.lloadN X2.here hx rfl (hb hby at_39) rfl k_) ?_
      show Go p e below (T2.setTop (mkF m 40 #[.val (.long q1), .second, .val (.int p2), .val (.long ln), .second, .val (.long (own_stored ln)), .second, .unset, .unset] [(.long ln)])) _
      refine Go.st (X2.ldc2Long hx hown (mvT hZ (hw _ (List.mem_of_getElem? (i := 10) rfl))) (g := (mkF m 40 #[.val (.long q1), .second, .val (.int p2), .val (.long ln), .second, .val (.long (own_stored ln)), .second, .unset, .unset] [(.long ln)])) rfl (hb hby at_40)) ?_
      show Go p e below (T2.setTop (mkF m 43 #[.val (.long q1), .second, .val (.int p2), .val (.long ln), .second, .val (.long (own_stored ln)), .second, .unset, .unset] [(.long (16 : Int64)), (.long ln)])) _
      refine Go.st (fun _ k_ => XS.lcmp X2.here hx rfl (hb hby at_43) rfl k_) ?_
      show Go p e below (T2.setTop (mkF m 44 #[.val (.long q1), .second, .val (.int p2), .val (.long ln), .second, .val (.long (own_stored ln)), .second, .unset, .unset] [(.int (lcmpW ln (16 : Int64)))])) _
      by_cases hc44 : ln < (16 : Int64)
      · refine Go.st (fun _ k_ => XS.ifNo X2.here hx rfl (hb hby at_44) rfl ((if0 _ _).trans (tlt ((lw_lt _ _).mpr hc44)).2.1) k_) ?_
        show Go p e below (T2.setTop (mkF m 47 #[.val (.long q1), .second, .val (.int p2), .val (.long ln), .second, .val (.long (own_stored ln)), .second, .unset, .unset] [])) _
        refine Go.st (X2.ldc2Long hx hown (mvT hZ (hw _ (List.mem_of_getElem? (i := 10) rfl))) (g := (mkF m 47 #[.val (.long q1), .second, .val (.int p2), .val (.long ln), .second, .val (.long (own_stored ln)), .second, .unset, .unset] [])) rfl (hb hby at_47)) ?_
        show Go p e below (T2.setTop (mkF m 50 #[.val (.long q1), .second, .val (.int p2), .val (.long ln), .second, .val (.long (own_stored ln)), .second, .unset, .unset] [(.long (16 : Int64))])) _
        refine Go.st (fun _ k_ => XS.lstore X2.here hx rfl (hb hby at_50) rfl (l' := #[.val (.long q1), .second, .val (.int p2), .val (.long ln), .second, .val (.long (own_stored ln)), .second, .val (.long (16 : Int64)), .second]) rfl k_) ?_
        show Go p e below (T2.setTop (mkF m 52 #[.val (.long q1), .second, .val (.int p2), .val (.long ln), .second, .val (.long (own_stored ln)), .second, .val (.long (16 : Int64)), .second] [])) _
        refine Go.st (fun _ k_ => XS.goto X2.here hx rfl (pc0 := 52) (pc' := 58) rfl (hb hby at_52) (by decide) (by decide) k_) ?_
        show Go p e below (T2.setTop (mkF m 58 #[.val (.long q1), .second, .val (.int p2), .val (.long ln), .second, .val (.long (own_stored ln)), .second, .val (.long (16 : Int64)), .second] [])) _
        refine Go.st (fun _ k_ => XS.lload X2.here hx rfl (hb hby at_58) rfl k_) ?_
        show Go p e below (T2.setTop (mkF m 60 #[.val (.long q1), .second, .val (.int p2), .val (.long ln), .second, .val (.long (own_stored ln)), .second, .val (.long (16 : Int64)), .second] [(.long (own_stored ln))])) _
        refine Go.st (fun _ k_ => XS.lload X2.here hx rfl (hb hby at_60) rfl k_) ?_
        show Go p e below (T2.setTop (mkF m 62 #[.val (.long q1), .second, .val (.int p2), .val (.long ln), .second, .val (.long (own_stored ln)), .second, .val (.long (16 : Int64)), .second] [(.long (16 : Int64)), (.long (own_stored ln))])) _
        refine Go.st (fun _ k_ => XS.lcmp X2.here hx rfl (hb hby at_62) rfl k_) ?_
        show Go p e below (T2.setTop (mkF m 63 #[.val (.long q1), .second, .val (.int p2), .val (.long ln), .second, .val (.long (own_stored ln)), .second, .val (.long (16 : Int64)), .second] [(.int (lcmpW (own_stored ln) (16 : Int64)))])) _
        have hc63 : (own_stored ln) = (16 : Int64) := by simp [own_stored, hc30, hc44]
        refine Go.st (fun _ k_ => XS.ifNo X2.here hx rfl (hb hby at_63) rfl ((if0 _ _).trans (teq ((lw_eq _ _).mpr hc63)).2) k_) ?_
        show Go p e below (T2.setTop (mkF m 66 #[.val (.long q1), .second, .val (.int p2), .val (.long ln), .second, .val (.long (own_stored ln)), .second, .val (.long (16 : Int64)), .second] [])) _
        refine Go.st (fun _ k_ => XS.iconst X2.here hx rfl (hb hby at_66) k_) ?_
        show Go p e below (T2.setTop (mkF m 67 #[.val (.long q1), .second, .val (.int p2), .val (.long ln), .second, .val (.long (own_stored ln)), .second, .val (.long (16 : Int64)), .second] [(.int (1 : Int32))])) _
        refine Go.st (fun _ k_ => XS.goto X2.here hx rfl (pc0 := 67) (pc' := 71) rfl (hb hby at_67) (by decide) (by decide) k_) ?_
        show Go p e below (T2.setTop (mkF m 71 #[.val (.long q1), .second, .val (.int p2), .val (.long ln), .second, .val (.long (own_stored ln)), .second, .val (.long (16 : Int64)), .second] [(.int (1 : Int32))])) _
        refine Go.fin X2 (v := some (.int (1 : Int32))) (fun h_ => by rw [Bd.returns] at h_; cases h_) Bd.notSynchronized (fun _ hr => retN X2 hx (t := .boolean) Bd.returns (by simp) (hb hby at_71) hr) (fun U' hU hF => ⟨_, _, rfl, ?_, hF.1, hF.2.1, hF.2.2.mono (by decide) (by decide)⟩)
        exact ⟨(congrArg (fun z_ : Int32 => some (Value.int z_)) (show (1 : Int32) = (1 : Int32) from rfl)), N2⟩
      · refine Go.st (fun _ k_ => XS.ifYes X2.here hx rfl (pc0 := 44) (pc' := 55) rfl (hb hby at_44) rfl ((if0 _ _).trans (flt (fun q_ => hc44 ((lw_lt _ _).mp q_))).2.1) (by decide) (by decide) k_) ?_
        show Go p e below (T2.setTop (mkF m 55 #[.val (.long q1), .second, .val (.int p2), .val (.long ln), .second, .val (.long (own_stored ln)), .second, .unset, .unset] [])) _
        refine Go.st (fun _ k_ => XS.lloadN X2.here hx rfl (hb hby at_55) rfl k_) ?_
        show Go p e below (T2.setTop (mkF m 56 #[.val (.long q1), .second, .val (.int p2), .val (.long ln), .second, .val (.long (own_stored ln)), .second, .unset, .unset] [(.long ln)])) _
        refine Go.st (fun _ k_ => XS.lstore X2.here hx rfl (hb hby at_56) rfl (l' := #[.val (.long q1), .second, .val (.int p2), .val (.long ln), .second, .val (.long (own_stored ln)), .second, .val (.long ln), .second]) rfl k_) ?_
        show Go p e below (T2.setTop (mkF m 58 #[.val (.long q1), .second, .val (.int p2), .val (.long ln), .second, .val (.long (own_stored ln)), .second, .val (.long ln), .second] [])) _
        refine Go.st (fun _ k_ => XS.lload X2.here hx rfl (hb hby at_58) rfl k_) ?_
        show Go p e below (T2.setTop (mkF m 60 #[.val (.long q1), .second, .val (.int p2), .val (.long ln), .second, .val (.long (own_stored ln)), .second, .val (.long ln), .second] [(.long (own_stored ln))])) _
        refine Go.st (fun _ k_ => XS.lload X2.here hx rfl (hb hby at_60) rfl k_) ?_
        show Go p e below (T2.setTop (mkF m 62 #[.val (.long q1), .second, .val (.int p2), .val (.long ln), .second, .val (.long (own_stored ln)), .second, .val (.long ln), .second] [(.long ln), (.long (own_stored ln))])) _
        refine Go.st (fun _ k_ => XS.lcmp X2.here hx rfl (hb hby at_62) rfl k_) ?_
        show Go p e below (T2.setTop (mkF m 63 #[.val (.long q1), .second, .val (.int p2), .val (.long ln), .second, .val (.long (own_stored ln)), .second, .val (.long ln), .second] [(.int (lcmpW (own_stored ln) ln))])) _
        have hc63 : (own_stored ln) = ln := by simp [own_stored, hc30, hc44]
        refine Go.st (fun _ k_ => XS.ifNo X2.here hx rfl (hb hby at_63) rfl ((if0 _ _).trans (teq ((lw_eq _ _).mpr hc63)).2) k_) ?_
        show Go p e below (T2.setTop (mkF m 66 #[.val (.long q1), .second, .val (.int p2), .val (.long ln), .second, .val (.long (own_stored ln)), .second, .val (.long ln), .second] [])) _
        refine Go.st (fun _ k_ => XS.iconst X2.here hx rfl (hb hby at_66) k_) ?_
        show Go p e below (T2.setTop (mkF m 67 #[.val (.long q1), .second, .val (.int p2), .val (.long ln), .second, .val (.long (own_stored ln)), .second, .val (.long ln), .second] [(.int (1 : Int32))])) _
        refine Go.st (fun _ k_ => XS.goto X2.here hx rfl (pc0 := 67) (pc' := 71) rfl (hb hby at_67) (by decide) (by decide) k_) ?_
        show Go p e below (T2.setTop (mkF m 71 #[.val (.long q1), .second, .val (.int p2), .val (.long ln), .second, .val (.long (own_stored ln)), .second, .val (.long ln), .second] [(.int (1 : Int32))])) _
        refine Go.fin X2 (v := some (.int (1 : Int32))) (fun h_ => by rw [Bd.returns] at h_; cases h_) Bd.notSynchronized (fun _ hr => retN X2 hx (t := .boolean) Bd.returns (by simp) (hb hby at_71) hr) (fun U' hU hF => ⟨_, _, rfl, ?_, hF.1, hF.2.1, hF.2.2.mono (by decide) (by decide)⟩)
        exact ⟨(congrArg (fun z_ : Int32 => some (Value.int z_)) (show (1 : Int32) = (1 : Int32) from rfl)), N2⟩
set_option maxRecDepth 65536 in
set_option maxHeartbeats 40000000 in
theorem comes_1 {Post : Tables → Env → Array Value → State → Outcome → State → Prop} (hpost : ∀ tb e args s v u, (limb_1_1.after args s (.returned v) u = true ∧ limb_1_2.after args s (.returned v) u = true ∧ True) → FrameEnd s (.returned v) u (Jvm.fieldLocs frame_1_writes args s ++ Jvm.arrayLocs frame_1_arrays args s ++ Jvm.staticLocs frame_1_statics s) 0 0 → Post tb e args s (.returned v) u) :
    ArmFor flags0 classFile x code maxLocals ret World_1 tables_1 room_1 Calls_1 rest_1 Pre_1 Post := by
  intro l hfl _ _ p e ha hc hk s m args below hf hA hF happ hP
  obtain ⟨hcalls, hrest, hpre⟩ := hP
  obtain ⟨-, -, -, hnamed, -, -, -, hat⟩ := (Spec.applies_iff hf).mp happ
  obtain ⟨hg, hn⟩ := and_e (Cond.before_iff.mp (show (Jvm.Cond.and given_1 narrow_1).before args s = true from hpre))
  obtain ⟨g1, g2⟩ := and_e hg
  obtain ⟨g3, g4⟩ := and_e g2
  obtain ⟨w0, w1, rfl⟩ : ∃ w0 w1 : Value, args = #[w0, w1] := by
    have hs : args.size = 2 := by simpa [Cond.value, given_1] using g1
    obtain ⟨L⟩ := args
    match L, hs with
    | [w0, w1], _ => exact ⟨w0, w1, rfl⟩
  have hw := fun d (hd : d ∈ tables_1) => atoms_spec (ws := Jvm.Cond.code x code maxLocals ret :: tables_1) hat d (List.mem_cons_of_mem _ hd)
  have hfit : Fit s := fun {y c} hc i hi => by
    obtain ⟨ha, rfl⟩ := Array.getElem?_eq_some_iff.mp hc
    have q := List.all_eq_true.mp ((Array.all_eq_true_iff_forall_mem.mp hF) _ (Array.getElem_mem ha)) i (List.mem_range.mpr hi)
    simpa [Array.getElem?_eq_getElem hi] using q
  obtain ⟨i0, ei0⟩ := isL_v g3
  obtain rfl : w0 = (.long i0) := Option.some.inj ei0
  obtain ⟨i1, ei1⟩ := is_v g4
  obtain rfl : w1 = (.int i1) := Option.some.inj ei1
  obtain ⟨n, o, h1, h2, h3, _, L, rfl, ⟨rfl, N⟩, hq⟩ := rm0 l s _ hw tables_1 i0 i1 s.heap s.heap.size (Nat.le_refl _) p e ha hc hk s m _ below hf ((Spec.applies_iff_loose hf).mp happ).1 ⟨rfl, State.Warmed39.refl s, rfl⟩ trivial
  refine ⟨n, _, h1, h2, h3, hpost _ _ _ _ _ _ ⟨Cond.after_iff.mpr rfl, Cond.after_iff.mpr (eq_i res_at (Term.int_eval (1)) rfl), trivial⟩ ⟨hq.1, hq.2.1, (hq.2.2.sift fun y hy => Or.inr (N y hy)).mono (by decide) (by decide)⟩⟩
theorem main_1_1 : Claimed_1_1 := comes_1 fun _ _ _ _ _ _ h hF => ⟨h.1, hF⟩
theorem main_1_2 : Claimed_1_2 := comes_1 fun _ _ _ _ _ _ h hF => ⟨h.2.1, hF⟩
end Jvm.Pilot.@@N@@
namespace Jvm.Pilot.@@N@@
open Jvm Jvm.ClassFile Sem Op Lib Jvm.Free Jvm.Stand Jvm.Pilot.@@N@@.Jvm.D
/-! MADE BY PROGRAM (witnessworld.py) out of the Statement's table words and the real class files: 10 classes; the members and pool entries that the words name. The judged class is class 1, her method 1. -/
namespace start1
open Jvm.ClassFile
def u (s : String) : CpInfo := .utf8 (stringToUtf16 s)
/-- a pool by its gaps: so many unusable entries, then the entry; so many at the end -/
def gap : Nat → List CpInfo → List CpInfo
  | 0, r => r
  | n + 1, r => .unusable :: gap n r
def poolList (es : List (Nat × CpInfo)) (last : Nat) : List CpInfo := es.foldr (fun e r => gap e.1 (e.2 :: r)) (gap last [])
def pool (es : List (Nat × CpInfo)) (last : Nat) : Array CpInfo := ⟨poolList es last⟩
def fileOf (pool : Array CpInfo) (this : Nat) (attrs : Array Attribute := #[]) (ms : Array MethodInfo := #[]) (fl : Nat := 33) (sup : Nat := 0) (ifs : Array Nat := #[]) (fds : Array FieldInfo := #[]) : ClassFile where
  minorVersion := 0
  majorVersion := 65
  constantPool := pool
  accessFlags := fl
  thisClass := this
  superClass := sup
  interfaces := ifs
  fields := fds
  methods := ms
  attributes := attrs
def plain (name : String) (sup : Option ClassId) : Class where
  name := name
  kind := .ordinary
  loader := none
  accessFlags := 33
  super := sup
  interfaces := #[]
  cf := none
  fields := #[]
  methods := #[]
  instanceTypes := #[]
  staticTypes := #[]
  resolved := #[]
  callSites := []
  init := .initialized
  statics := none
  mirror := none

def pool0 : Array CpInfo := pool [(5, u "<init>"), (0, u "()V"), (1, .class_ 10), (1, u "java/lang/Object")] 113

def k0m0 : Method := { name := "<init>", desc := "()V", sig := { parameters := [], returnType := none }, accessFlags := 1, code := none }
/-- java/lang/Object -/
def k0 : Class := { plain "java/lang/Object" none with
  accessFlags := 33
  interfaces := #[]
  cf := some (fileOf pool0 8 #[] #[{ accessFlags := 1, nameIndex := 5, descriptorIndex := 6, attributes := #[] }] 33 0 #[] #[])
  fields := #[]
  methods := #[k0m0]
  instanceTypes := #[]
  staticTypes := #[]
  resolved := Array.replicate 124 none
  statics := none }

def pool1 : Array CpInfo := pool [(2, .class_ 4), (1, u "java/lang/Object"), (0, u "<init>"), (0, u "()V"), (0, .long 31), (3, .long 9223372036854775807), (1, .methodref 14 15), (0, .class_ 16), (0, .nameAndType 17 18), (0, u "com/example/patuxent/patuxent/Contents"), (0, u "storedLength"), (0, u "(J)J"), (0, .long 16), (1, .class_ 22), (0, u "com/example/patuxent/patuxent/ContentsStoredLengthPinLaw"), (2, u "law"), (0, u "(JI)Z")] 3

def k1m0 : Method := { name := "<init>", desc := "()V", sig := { parameters := [], returnType := none }, accessFlags := 2, code := none }
def k1c1 : Code := { maxStack := 4, maxLocals := 9, code := code, exceptionTable := #[], attributes := #[] }
def k1m1 : Method := { name := "law", desc := "(JI)Z", sig := { parameters := [.long, .int], returnType := some .boolean }, accessFlags := 9, code := some k1c1 }
/-- com/example/patuxent/patuxent/ContentsStoredLengthPinLaw -/
def k1 : Class := { plain "com/example/patuxent/patuxent/ContentsStoredLengthPinLaw" (some 0) with
  accessFlags := 49
  interfaces := #[]
  cf := some (fileOf pool1 21 #[] #[{ accessFlags := 2, nameIndex := 5, descriptorIndex := 6, attributes := #[] }, { accessFlags := 9, nameIndex := 25, descriptorIndex := 26, attributes := #[] }] 49 2 #[] #[])
  fields := #[]
  methods := #[k1m0, k1m1]
  instanceTypes := #[]
  staticTypes := #[]
  resolved := Array.replicate 30 none
  statics := none }

def pool2 : Array CpInfo := pool [(2, .class_ 4), (1, u "java/lang/Object"), (0, u "<init>"), (0, u "()V"), (0, .class_ 8), (0, u "com/example/patuxent/patuxent/Contents"), (0, .long 16), (1, .methodref 12 13), (0, .class_ 14), (0, .nameAndType 15 16), (0, u "java/lang/Math"), (0, u "max"), (0, u "(JJ)J"), (20, u "THREADS"), (0, u "I"), (13, .class_ 53), (0, u "com/example/patuxent/patuxent/Contents$Batch"), (13, u "MAX_PENDING"), (151, u "UNIT_BYTES"), (2, u "BLOCK_BYTES"), (1, u "UNITS_PER_BATCH"), (0, u "MAX_THREADS"), (3, u "storedLength"), (0, u "(J)J")] 53

def k2m0 : Method := { name := "<init>", desc := "()V", sig := { parameters := [], returnType := none }, accessFlags := 2, code := none }
def k2c1 : Code := { maxStack := 4, maxLocals := 2, code := prog_2_method_2_code, exceptionTable := #[], attributes := #[] }
def k2m1 : Method := { name := "storedLength", desc := "(J)J", sig := { parameters := [.long], returnType := some .long }, accessFlags := 8, code := some k2c1 }
/-- com/example/patuxent/patuxent/Contents -/
def k2 : Class := { plain "com/example/patuxent/patuxent/Contents" (some 0) with
  accessFlags := 32
  interfaces := #[]
  cf := some (fileOf pool2 7 #[.nestMembers #[52]] #[{ accessFlags := 2, nameIndex := 5, descriptorIndex := 6, attributes := #[] }, { accessFlags := 8, nameIndex := 229, descriptorIndex := 230, attributes := #[] }] 32 2 #[] #[{ accessFlags := 24, nameIndex := 219, descriptorIndex := 38, attributes := #[] }, { accessFlags := 26, nameIndex := 222, descriptorIndex := 38, attributes := #[] }, { accessFlags := 26, nameIndex := 224, descriptorIndex := 38, attributes := #[] }, { accessFlags := 26, nameIndex := 225, descriptorIndex := 38, attributes := #[] }, { accessFlags := 26, nameIndex := 37, descriptorIndex := 38, attributes := #[] }, { accessFlags := 26, nameIndex := 67, descriptorIndex := 38, attributes := #[] }])
  fields := #[{ name := "UNIT_BYTES", type := .int, accessFlags := 24, slot := 0, constantValue := 0 }, { name := "BLOCK_BYTES", type := .int, accessFlags := 26, slot := 1, constantValue := 0 }, { name := "UNITS_PER_BATCH", type := .int, accessFlags := 26, slot := 2, constantValue := 0 }, { name := "MAX_THREADS", type := .int, accessFlags := 26, slot := 3, constantValue := 0 }, { name := "THREADS", type := .int, accessFlags := 26, slot := 4, constantValue := 0 }, { name := "MAX_PENDING", type := .int, accessFlags := 26, slot := 5, constantValue := 0 }]
  methods := #[k2m0, k2m1]
  instanceTypes := #[]
  staticTypes := #[.int, .int, .int, .int, .int, .int]
  resolved := Array.replicate 284 none
  statics := none }

def pool3 : Array CpInfo := pool [(1, .class_ 2), (0, u "java/lang/Math"), (1, .class_ 6), (1, u "java/lang/Object"), (0, u "<init>"), (0, u "()V"), (89, .class_ 100), (1, u "java/lang/Math$RandomNumberGeneratorHolder"), (20, u "(JJ)J"), (50, u "negativeZeroFloatBits"), (0, u "J"), (2, u "negativeZeroDoubleBits"), (21, u "max"), (46, u "$assertionsDisabled"), (0, u "Z"), (91, u "twoToTheDoubleScaleDown"), (0, u "D"), (4, u "twoToTheDoubleScaleUp"), (9, u "E"), (3, u "PI"), (2, u "TAU"), (2, u "DEGREES_TO_RADIANS"), (0, u "RADIANS_TO_DEGREES")] 94

def k3m0 : Method := { name := "<init>", desc := "()V", sig := { parameters := [], returnType := none }, accessFlags := 2, code := none }
def k3c1 : Code := { maxStack := 4, maxLocals := 4, code := jdk_29_method_66_code, exceptionTable := #[], attributes := #[] }
def k3m1 : Method := { name := "max", desc := "(JJ)J", sig := { parameters := [.long, .long], returnType := some .long }, accessFlags := 9, code := some k3c1 }
/-- java/lang/Math -/
def k3 : Class := { plain "java/lang/Math" (some 0) with
  accessFlags := 49
  interfaces := #[]
  cf := some (fileOf pool3 1 #[.nestMembers #[98]] #[{ accessFlags := 2, nameIndex := 7, descriptorIndex := 8, attributes := #[] }, { accessFlags := 9, nameIndex := 198, descriptorIndex := 121, attributes := #[] }] 49 4 #[] #[{ accessFlags := 25, nameIndex := 354, descriptorIndex := 339, attributes := #[] }, { accessFlags := 25, nameIndex := 358, descriptorIndex := 339, attributes := #[] }, { accessFlags := 25, nameIndex := 361, descriptorIndex := 339, attributes := #[] }, { accessFlags := 26, nameIndex := 364, descriptorIndex := 339, attributes := #[] }, { accessFlags := 26, nameIndex := 365, descriptorIndex := 339, attributes := #[] }, { accessFlags := 26, nameIndex := 172, descriptorIndex := 173, attributes := #[] }, { accessFlags := 26, nameIndex := 176, descriptorIndex := 173, attributes := #[] }, { accessFlags := 8, nameIndex := 344, descriptorIndex := 339, attributes := #[] }, { accessFlags := 8, nameIndex := 338, descriptorIndex := 339, attributes := #[] }, { accessFlags := 4120, nameIndex := 245, descriptorIndex := 246, attributes := #[] }])
  fields := #[{ name := "E", type := .double, accessFlags := 25, slot := 0, constantValue := 0 }, { name := "PI", type := .double, accessFlags := 25, slot := 1, constantValue := 0 }, { name := "TAU", type := .double, accessFlags := 25, slot := 2, constantValue := 0 }, { name := "DEGREES_TO_RADIANS", type := .double, accessFlags := 26, slot := 3, constantValue := 0 }, { name := "RADIANS_TO_DEGREES", type := .double, accessFlags := 26, slot := 4, constantValue := 0 }, { name := "negativeZeroFloatBits", type := .long, accessFlags := 26, slot := 5, constantValue := 0 }, { name := "negativeZeroDoubleBits", type := .long, accessFlags := 26, slot := 6, constantValue := 0 }, { name := "twoToTheDoubleScaleUp", type := .double, accessFlags := 8, slot := 7, constantValue := 0 }, { name := "twoToTheDoubleScaleDown", type := .double, accessFlags := 8, slot := 8, constantValue := 0 }, { name := "$assertionsDisabled", type := .boolean, accessFlags := 4120, slot := 9, constantValue := 0 }]
  methods := #[k3m0, k3m1]
  instanceTypes := #[]
  staticTypes := #[.double, .double, .double, .double, .double, .long, .long, .double, .double, .boolean]
  resolved := Array.replicate 460 none
  statics := none }

def pool4 : Array CpInfo := pool [(1, u "java/lang/Cloneable"), (0, .class_ 1), (0, u "java/lang/Object"), (0, .class_ 3)] 3

/-- java/lang/Cloneable -/
def k4 : Class := { plain "java/lang/Cloneable" (some 0) with
  accessFlags := 1537
  interfaces := #[]
  cf := some (fileOf pool4 2 #[] #[] 1537 4 #[] #[])
  fields := #[]
  methods := #[]
  instanceTypes := #[]
  staticTypes := #[]
  resolved := Array.replicate 8 none
  statics := none }

def pool5 : Array CpInfo := pool [(1, u "java/io/Serializable"), (0, .class_ 1), (0, u "java/lang/Object"), (0, .class_ 3)] 3

/-- java/io/Serializable -/
def k5 : Class := { plain "java/io/Serializable" (some 0) with
  accessFlags := 1537
  interfaces := #[]
  cf := some (fileOf pool5 2 #[] #[] 1537 4 #[] #[])
  fields := #[]
  methods := #[]
  instanceTypes := #[]
  staticTypes := #[]
  resolved := Array.replicate 8 none
  statics := none }

/-- the primitive byte -/
def k6 : Class := { plain "byte" none with kind := .primitive 'B', accessFlags := 0x411 }
/-- [B -/
def k7 : Class := { plain "[B" (some 0) with kind := .array 6 .byte, interfaces := #[4, 5], accessFlags := 1041 }

/-- the primitive int -/
def k8 : Class := { plain "int" none with kind := .primitive 'I', accessFlags := 0x411 }
/-- [I -/
def k9 : Class := { plain "[I" (some 0) with kind := .array 8 .int, interfaces := #[4, 5], accessFlags := 1041 }

def heap : Heap := #[]
def classes : Array Class := #[k0, k1, k2, k3, k4, k5, k6, k7, k8, k9]
def interned : List (Array UInt16 × Addr) := []
def slotsUsed : Nat := 0
def theMethod : MethodId := ⟨1, 1⟩
def args0 : Array Value := #[.long 5, .int 1]
def aboutOver (below : List Frame) : State where
  vm := { classes := classes, interned := interned.toArray }
  heap := heap
  slotsUsed := slotsUsed
  threads := #[{ frames := .invoking theMethod args0 :: below }]
def below0 : List Frame := [.native { method := ⟨0, 0⟩, args := #[] }]
def about1 : State := aboutOver below0
def p0 : Program := .bare "" "" ""
def e0 : Env := launch0.env 0 0 0
theorem w_frames : about1.frames = Frame.invoking theMethod args0 :: below0 := rfl
set_option maxRecDepth 65536 in
theorem w_args : argsFit about1.vm theMethod args0 = true := by decide +kernel
set_option maxRecDepth 65536 in
theorem w_heap : heapFits about1 = true := by decide +kernel
set_option maxRecDepth 65536 in
theorem w_runnable : about1.curStatus? = some .runnable := by decide +kernel
set_option maxRecDepth 65536 in
theorem w_alone : about1.alone = true := by decide +kernel
set_option maxRecDepth 65536 in
theorem w_named : about1.methodNamed? x = some theMethod := by decide +kernel
set_option maxRecDepth 65536 in
theorem w_hears : about1.hears theMethod below0 = true := by decide +kernel
set_option maxRecDepth 65536 in
theorem w_ripe : about1.ripe theMethod args0 below0 = true := by decide +kernel
theorem w_running : about1.status = .running := rfl
set_option maxRecDepth 65536 in
theorem w_room : about1.hasRoom e0.platform room_1 = true :=
  launch0.hasRoom_least _ room_1 (by decide +kernel) (by decide +kernel) (by decide +kernel) (by decide +kernel) (by decide +kernel) (by decide +kernel)
theorem allAtoms_all (ts : List Jvm.Cond) (a : Array Jvm.Value) (st : Jvm.State) : (allAtoms ts).before a st = ts.all (fun c => c.before a st) := by
  induction ts with
  | nil => rfl
  | cons c t ih =>
    show (Jvm.Cond.and c (allAtoms t)).before a st = _
    rw [Jvm.Cond.before_and, ih, List.all_cons]
def words1 : List Jvm.Cond := Jvm.Cond.code x code maxLocals ret :: tables_1
/-- a 'code' word, met by the world's own term for the bytes: nothing is compared byte by byte -/
theorem code_word {y : MethodName} {bytes : ByteArray} {mx : Nat} {rt : Option FieldType} {a : Array Value} {s : State} {m : MethodId} {meth : Method} {c : Code} (h1 : s.methodNamed? y = some m) (h2 : s.vm.method? m = some meth) (h3 : meth.code = some c) (h4 : c.code = bytes)
    (h5 : (c.maxLocals == mx && c.exceptionTable.isEmpty && decide (c.maxStack ≤ mostOperands) && decide (meth.sig.returnType = rt) && !meth.locks && decide (parseMethodDescriptor y.desc = some meth.sig)) = true) : (Jvm.Cond.code y bytes mx rt).before a s = true := by
  simp only [Bool.and_eq_true, beq_iff_eq, Bool.not_eq_true', decide_eq_true_eq] at h5
  obtain ⟨⟨⟨⟨⟨g1, g2⟩, g3⟩, g4⟩, g5⟩, g6⟩ := h5
  simp [Cond.before, Cond.holds, Cond.value, h1, h2, h3, h4, g1, g2, g3, g4, g5, g6]
def isCode : Jvm.Cond → Bool
  | .code _ _ _ _ => true
  | _ => false
theorem all_split {L : List Jvm.Cond} {P : Jvm.Cond → Bool} (h1 : L.all (fun c => isCode c || P c) = true) (h2 : ∀ c ∈ L.filter isCode, P c = true) : L.all P = true := by
  refine List.all_eq_true.mpr fun c hc => ?_
  have h := List.all_eq_true.mp h1 c hc
  rcases Bool.eq_false_or_eq_true (isCode c) with hi | hi
  · exact h2 c (List.mem_filter.mpr ⟨hc, hi⟩)
  · simpa [hi] using h
set_option maxRecDepth 65536 in
theorem w_c0 : (Jvm.Cond.code x code maxLocals ret).before args0 about1 = true := code_word (m := ⟨1, 1⟩) (meth := k1m1) (c := k1c1) (by decide +kernel) rfl rfl rfl (by decide +kernel)
set_option maxRecDepth 65536 in
theorem w_c1 : (Jvm.Cond.code ({ cls := "com/example/patuxent/patuxent/Contents", name := "storedLength", desc := "(J)J" } : Jvm.MethodName) prog_2_method_2_code (2 : Nat) (Option.some Jvm.ClassFile.FieldType.long)).before args0 about1 = true := code_word (m := ⟨2, 1⟩) (meth := k2m1) (c := k2c1) (by decide +kernel) rfl rfl rfl (by decide +kernel)
set_option maxRecDepth 65536 in
theorem w_c2 : (Jvm.Cond.code ({ cls := "java/lang/Math", name := "max", desc := "(JJ)J" } : Jvm.MethodName) jdk_29_method_66_code (4 : Nat) (Option.some Jvm.ClassFile.FieldType.long)).before args0 about1 = true := code_word (m := ⟨3, 1⟩) (meth := k3m1) (c := k3c1) (by decide +kernel) rfl rfl rfl (by decide +kernel)
def codes1 : List Jvm.Cond := [Jvm.Cond.code x code maxLocals ret, Jvm.Cond.code ({ cls := "com/example/patuxent/patuxent/Contents", name := "storedLength", desc := "(J)J" } : Jvm.MethodName) prog_2_method_2_code (2 : Nat) (Option.some Jvm.ClassFile.FieldType.long), Jvm.Cond.code ({ cls := "java/lang/Math", name := "max", desc := "(JJ)J" } : Jvm.MethodName) jdk_29_method_66_code (4 : Nat) (Option.some Jvm.ClassFile.FieldType.long)]
set_option maxRecDepth 65536 in
theorem codes_eq : words1.filter isCode = codes1 := rfl
theorem w_codes : ∀ c ∈ words1.filter isCode, c.before args0 about1 = true := by
  rw [codes_eq]
  intro c hc
  simp only [codes1, List.mem_cons, List.not_mem_nil, or_false] at hc
  rcases hc with rfl | rfl | rfl
  · exact w_c0
  · exact w_c1
  · exact w_c2
set_option maxRecDepth 65536 in
theorem w_t1 : words1.all (fun c => isCode c || c.before args0 about1) = true := by decide +kernel
theorem w_tables : (allAtoms (Jvm.Cond.code x code maxLocals ret :: tables_1)).before args0 about1 = true := by
  rw [allAtoms_all]
  show words1.all (fun c => c.before args0 about1) = true
  refine all_split ?_ w_codes
  rw [w_t1]
set_option maxRecDepth 65536 in
theorem w_case : (Jvm.Cond.and given_1 narrow_1).before args0 about1 = true := by decide +kernel
theorem w_applies : (headSpec (Jvm.Cond.code x code maxLocals ret :: tables_1) room_1).applies x e0.platform about1 = true :=
  (Spec.applies_iff w_frames).mpr ⟨w_running, w_runnable, w_alone, w_named, w_hears, w_ripe, w_room, w_tables⟩
theorem atStart : AtStart classFile x code maxLocals ret World_1 tables_1 room_1 Calls_1 rest_1 Pre_1 launch0 p0 e0 about1 theMethod args0 below0 :=
  ⟨lists_1, trivial, launch0.admits_env _ _ _, launch0.least_env, fairChoices_fair.cas, fairChoices_fair.clock, w_frames, w_args, w_heap, w_applies, trivial, trivial, w_case⟩
end start1
theorem witness_1 : WitnessClaimed_1 := ⟨start1.p0, start1.e0, start1.about1, start1.theMethod, start1.args0, start1.below0, start1.atStart⟩
end Jvm.Pilot.@@N@@
