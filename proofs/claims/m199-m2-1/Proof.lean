import JvmDerived
import JvmDerived.Pilot.@@N@@Statement
import JvmDerived.Pilot.@@N@@Code
set_option linter.unusedVariables false
set_option linter.unusedSimpArgs false
@@BLOCK:NumsL.lean.txt@@
namespace Jvm.RoadKit
open Sem ClassFile Op Lib Jvm.Stand Jvm.Free Jvm.LawKit
section Own
variable {p : Program} {l : Launch} {e : Env} {R : Room} {s : State} {m : MethodId} {args : Array Value} {below : List Frame} {meth : Method} {c : Code} {T : State} {locs : List Loc} {cells slots : Nat}
/-- from U the run ends, and P is said of the end -/
def Go (p : Program) (e : Env) (below : List Frame) (U : State) (P : Outcome → State → Prop) : Prop := ∃ s₂ o, Steps p.tables e below U s₂ ∧ s₂.status = .running ∧ Ended s₂ below o ∧ P o s₂
theorem Go.st {U U' : State} {P : Outcome → State → Prop} (k : ∀ t, Steps p.tables e below U' t → Steps p.tables e below U t) (g : Go p e below U' P) : Go p e below U P := by
  obtain ⟨t, o, a, r⟩ := g
  exact ⟨t, o, k t a, r⟩
theorem Go.tr {U U' : State} {P : Outcome → State → Prop} (k : Steps p.tables e below U U') (g : Go p e below U' P) : Go p e below U P := by
  obtain ⟨t, o, a, r⟩ := g
  exact ⟨t, o, k.trans a, r⟩
theorem Go.fin (X : Stand p l e R s m args below meth c T locs cells slots) {v : Option Value} (hv : meth.sig.returnType = none → v = none) (hlocks : meth.locks = false) {U : State} {P : Outcome → State → Prop}
    (st : ∀ fs, (∀ (f : JFrame) (acts : List Action), f.method = m → f.locked = none → f.entered = [] → (doReturn e (T.setTop f) acts v).1 = T.setFrames fs) → Steps p.tables e below U (T.setFrames fs))
    (hP : ∀ U' : State, U'.heap = T.heap → FrameEnd s (.returned v) U' locs cells slots → P (.returned v) U') : Go p e below U P := by
  obtain ⟨fs, hr, hrun, hended, hW, hsame⟩ := X.leave hv hlocks
  exact ⟨_, _, st fs hr, hrun, hended, hP _ rfl ⟨⟨_, rfl⟩, hW, hsame⟩⟩
theorem own_ord {a0 : Array Value} {t : Term} {a : Addr} {C n d : String} {k : Int32} (ev : t.eval a0 s none [] s = some (.ref a)) (h : (Cond.eq (.field t C n d) (.int k)).value a0 s none s [] = some true) : s.fieldOf? a C n d = some (.int k) := by
  have e1 := fld_at (C := C) (n := n) (dd := d) ev
  have e2 : (Term.int k).eval a0 s none [] s = some (.int k) := rfl
  cases hf : s.fieldOf? a C n d with
  | none => rw [hf] at e1; simp [Cond.value, e1] at h
  | some w =>
    rw [hf] at e1
    cases w <;> simp [Cond.value, e1, e2] at h
    rw [h]
theorem own_ne {a b : Addr} {C n d : String} {j k : Int32} (h1 : s.fieldOf? a C n d = some (.int j)) (h2 : s.fieldOf? b C n d = some (.int k)) (hne : j ≠ k) : a ≠ b := fun q => by
  subst q
  rw [h1] at h2
  exact hne (by injection (Option.some.inj h2))
theorem own_lsw {g : JFrame} {target : State} (X : Stand p l e R s m args below meth c T locs cells slots) (hx : p.tables.exec = Jvm.exec) (hg : g.method = m) {dflt : Int} {pairs : Array (Int × Int)} {len : Nat} {pc0 pc' : Nat} (hpc : g.pc = pc0)
    (hd : decode c.code g.pc = .ok (.lookupswitch dflt pairs, len)) {i : Int32} {rest : List Value} (hs : g.stack = .int i :: rest) {o : Int} (ho : lookupswitch.offset pairs.toList dflt i.toInt = o) (hso : ∀ (a b a_1 b_1 : Int), ((a, b), a_1, b_1) ∈ pairs.toList.zip pairs.toList.tail → a < a_1) (h0 : 0 ≤ (pc0 : Int) + o) (hp : ((pc0 : Int) + o).toNat = pc')
    (hr : Steps p.tables e below (T.setTop { g with pc := pc', stack := rest }) target) : Steps p.tables e below (T.setTop g) target := by
  subst hg hpc hp ho
  jvm_step X.here [X.here.top, hx, hd, hs, h0, lookupswitch.wp_chain]
  exact ⟨hso, hr⟩
theorem own_arvlt {Z : State} {h : Heap} {a : Addr} {k : ClassId} {ty : FieldType} {n : Int32} {vs : List Value} {d : Value} (V : Arv Z h a k ty n vs d) : a < h.size := by
  obtain ⟨c, A, -⟩ := V
  exact A.lt
end Own
end Jvm.RoadKit
namespace Jvm.Pilot.@@N@@
open Jvm Jvm.ClassFile Sem Op Lib Jvm.Free Jvm.Stand Jvm.LawKit Jvm.RoadKit Bundle Jvm.Pilot.@@N@@.Jvm.D
def own_met2 (x y : Int32) : Int32 := if x = 0 then 0 else if y = 0 then 0 else 1
def own_met3 (x y z : Int32) : Int32 := if x = 0 then 0 else if y = 0 then 0 else if z = 0 then 0 else 1
theorem own_k {q k : Int32} (e : k = q &&& (3 : Int32)) : k = 0 ∨ k = 1 ∨ k = 2 ∨ k = 3 := by
  have h := Jvm.Kit.i32_mask q 3 (k := 2) (by decide) (by decide)
  rw [← e] at h
  have hb : k = Int32.ofNat k.toInt.toNat := by
    apply Int32.toInt_inj.mp
    rw [Int32.toInt_ofNat_small (by omega)]
    omega
  have q : ∀ n : Fin 4, (Int32.ofNat n.val) = 0 ∨ (Int32.ofNat n.val) = 1 ∨ (Int32.ofNat n.val) = 2 ∨ (Int32.ofNat n.val) = 3 := by decide +kernel
  have := q ⟨k.toInt.toNat, by omega⟩
  rw [← hb] at this
  exact this
theorem d1_0 : decode method_2_code 0 = .ok (.iload_n 0, 1) := by decide +kernel
theorem d1_1 : decode method_2_code 1 = .ok (.ifCond .ne 7, 3) := by decide +kernel
theorem d1_4 : decode method_2_code 4 = .ok (.getstatic 7, 3) := by decide +kernel
theorem d1_7 : decode method_2_code 7 = .ok (.areturn, 1) := by decide +kernel
theorem pn_4 : plainName "com/example/patuxent/patuxent/PasswordComplexityIsMetByPinLaw" = true := by first | (simp [plainName, overriddenIn]; done) | decide +kernel
theorem ef_rm1_0 (m : MethodId)  : entryFrame m #[(.int (0 : Int32))] 1 = mkF m 0 #[.val (.int (0 : Int32))] [] := by first | (simp [entryFrame, mkF, argsToLocals, Value.category]; done) | rfl
def Q_rm1_0 (Z : State) (w_ANY : Addr) (h0 : Heap) (n0 : Nat) (v : Option Value) (h : Heap) (L : List Loc) : Prop := v = some (.ref w_ANY) ∧ Fr n0 L ∧ h = h0
set_option maxRecDepth 65536 in
set_option maxHeartbeats 40000000 in
theorem rm1_0 (l : Launch) (Z : State) (a0 : Array Value) (hw : ∀ d ∈ tables_1, d.before a0 Z = true) (ws : List Jvm.Cond) (w_ANY : Addr) (h0 : Heap) (n0 : Nat) (Z0 : n0 ≤ h0.size) (S_ANY : Sta Z h0 "com/example/patuxent/patuxent/PasswordComplexity" "ANY" "Lcom/example/patuxent/patuxent/PasswordComplexity;" (.ref w_ANY)) :
    MetFree l (⟨"com/example/patuxent/patuxent/PasswordComplexityIsMetByPinLaw", "levelOf", "(I)Lcom/example/patuxent/patuxent/PasswordComplexity;"⟩ : MethodName) (head1 (Jvm.Cond.code (⟨"com/example/patuxent/patuxent/PasswordComplexityIsMetByPinLaw", "levelOf", "(I)Lcom/example/patuxent/patuxent/PasswordComplexity;"⟩ : MethodName) method_2_code 1 (some (.object "com/example/patuxent/patuxent/PasswordComplexity")) :: ws) ({ frames := 0, cells := 0, slots := 0, locals := 0 } : Room)) (fun a U => a = #[(.int (0 : Int32))] ∧ Z.Warmed39 U.vm ∧ U.heap = h0) (fun _ _ _ _ _ => True) (fun _ U o U' => ∃ v L, o = .returned v ∧ Q_rm1_0 Z w_ANY h0 n0 v U'.heap L ∧ FrameEnd U o U' L ({ frames := 0, cells := 0, slots := 0, locals := 0 } : Room).cells ({ frames := 0, cells := 0, slots := 0, locals := 0 } : Room).slots) := by
  refine MetFree.of_bodySF (plainFor_of_name pn_4) hisR ?_
  intro p e s m args below meth c s₁ Bd hml0 hP hK
  obtain ⟨rfl, hZ, hh⟩ := hP
  have hx := Bd.exec
  have hby := Bd.bytes
  have hml : c.maxLocals = 1 := hml0
  have hown : s.vm.findClass "com/example/patuxent/patuxent/PasswordComplexityIsMetByPinLaw" = some m.cls := findClass_of_methodNamed Bd.named
  have hnm := (name_of_methodNamed Bd.named Bd.method).1
  have X0 : Stand p l e ({ frames := 0, cells := 0, slots := 0, locals := 0 } : Room) s m #[(.int (0 : Int32))] below meth c s₁ [] 0 0 := Stand.of_body Bd
  have e0 : s₁.heap = h0 := by rw [← hh, Bd.state]; rfl
  have N0 := Fr.nil n0
  show Go p e below (s₁.setTop (entryFrame m #[(.int (0 : Int32))] 1)) (fun o U' => ∃ v L, o = .returned v ∧ Q_rm1_0 Z w_ANY h0 n0 v U'.heap L ∧ FrameEnd s o U' L ({ frames := 0, cells := 0, slots := 0, locals := 0 } : Room).cells ({ frames := 0, cells := 0, slots := 0, locals := 0 } : Room).slots)
  rw [ef_rm1_0]
  show Go p e below (s₁.setTop (mkF m 0 #[.val (.int (0 : Int32))] [])) _
  refine Go.st (fun _ k_ => XS.iloadN X0.here hx rfl (hb hby d1_0) rfl k_) ?_
  show Go p e below (s₁.setTop (mkF m 1 #[.val (.int (0 : Int32))] [(.int (0 : Int32))])) _
  refine Go.st (fun _ k_ => XS.ifNo X0.here hx rfl (hb hby d1_1) rfl ((if0 _ _).trans (teq (by decide : (0 : Int32) = (0 : Int32))).2) k_) ?_
  show Go p e below (s₁.setTop (mkF m 4 #[.val (.int (0 : Int32))] [])) _
  obtain ⟨T1, X1, e1, st1⟩ := getS2 X0 hx hZ hown (host := "") (Or.inl (hw _ (List.mem_of_getElem? (i := 4) rfl))) Via.refl e0 S_ANY (g := (mkF m 4 #[.val (.int (0 : Int32))] [])) rfl (hb hby d1_4)
  refine Go.st st1 ?_
  show Go p e below (T1.setTop (mkF m 7 #[.val (.int (0 : Int32))] [(.ref w_ANY)])) _
  refine Go.fin X1 (v := some (.ref w_ANY)) (fun h_ => by rw [Bd.returns] at h_; cases h_) Bd.notSynchronized (fun _ hr => retOut X1 hx Bd.returns rfl (Or.inr (Or.inr (Or.inr (Or.inr ⟨rfl, rfl, rfl⟩)))) (hb hby d1_7) hr) (fun U' hU hF => ⟨_, _, rfl, ?_, hF.1, hF.2.1, hF.2.2.mono (by decide) (by decide)⟩)
  rw [hU, e1]
  exact ⟨(congrArg (fun z_ : Addr => some (Value.ref z_)) (show w_ANY = w_ANY from rfl)), N0, rfl⟩
theorem d1_8 : decode method_2_code 8 = .ok (.iload_n 0, 1) := by decide +kernel
theorem d1_9 : decode method_2_code 9 = .ok (.iconst 1, 1) := by decide +kernel
theorem d1_10 : decode method_2_code 10 = .ok (.if_icmp .ne 7, 3) := by decide +kernel
theorem d1_13 : decode method_2_code 13 = .ok (.getstatic 13, 3) := by decide +kernel
theorem d1_16 : decode method_2_code 16 = .ok (.areturn, 1) := by decide +kernel
theorem ef_rm1_1 (m : MethodId)  : entryFrame m #[(.int (1 : Int32))] 1 = mkF m 0 #[.val (.int (1 : Int32))] [] := by first | (simp [entryFrame, mkF, argsToLocals, Value.category]; done) | rfl
def Q_rm1_1 (Z : State) (w_LETTER : Addr) (h0 : Heap) (n0 : Nat) (v : Option Value) (h : Heap) (L : List Loc) : Prop := v = some (.ref w_LETTER) ∧ Fr n0 L ∧ h = h0
set_option maxRecDepth 65536 in
set_option maxHeartbeats 40000000 in
theorem rm1_1 (l : Launch) (Z : State) (a0 : Array Value) (hw : ∀ d ∈ tables_1, d.before a0 Z = true) (ws : List Jvm.Cond) (w_LETTER : Addr) (h0 : Heap) (n0 : Nat) (Z0 : n0 ≤ h0.size) (S_LETTER : Sta Z h0 "com/example/patuxent/patuxent/PasswordComplexity" "LETTER" "Lcom/example/patuxent/patuxent/PasswordComplexity;" (.ref w_LETTER)) :
    MetFree l (⟨"com/example/patuxent/patuxent/PasswordComplexityIsMetByPinLaw", "levelOf", "(I)Lcom/example/patuxent/patuxent/PasswordComplexity;"⟩ : MethodName) (head1 (Jvm.Cond.code (⟨"com/example/patuxent/patuxent/PasswordComplexityIsMetByPinLaw", "levelOf", "(I)Lcom/example/patuxent/patuxent/PasswordComplexity;"⟩ : MethodName) method_2_code 1 (some (.object "com/example/patuxent/patuxent/PasswordComplexity")) :: ws) ({ frames := 0, cells := 0, slots := 0, locals := 0 } : Room)) (fun a U => a = #[(.int (1 : Int32))] ∧ Z.Warmed39 U.vm ∧ U.heap = h0) (fun _ _ _ _ _ => True) (fun _ U o U' => ∃ v L, o = .returned v ∧ Q_rm1_1 Z w_LETTER h0 n0 v U'.heap L ∧ FrameEnd U o U' L ({ frames := 0, cells := 0, slots := 0, locals := 0 } : Room).cells ({ frames := 0, cells := 0, slots := 0, locals := 0 } : Room).slots) := by
  refine MetFree.of_bodySF (plainFor_of_name pn_4) hisR ?_
  intro p e s m args below meth c s₁ Bd hml0 hP hK
  obtain ⟨rfl, hZ, hh⟩ := hP
  have hx := Bd.exec
  have hby := Bd.bytes
  have hml : c.maxLocals = 1 := hml0
  have hown : s.vm.findClass "com/example/patuxent/patuxent/PasswordComplexityIsMetByPinLaw" = some m.cls := findClass_of_methodNamed Bd.named
  have hnm := (name_of_methodNamed Bd.named Bd.method).1
  have X0 : Stand p l e ({ frames := 0, cells := 0, slots := 0, locals := 0 } : Room) s m #[(.int (1 : Int32))] below meth c s₁ [] 0 0 := Stand.of_body Bd
  have e0 : s₁.heap = h0 := by rw [← hh, Bd.state]; rfl
  have N0 := Fr.nil n0
  show Go p e below (s₁.setTop (entryFrame m #[(.int (1 : Int32))] 1)) (fun o U' => ∃ v L, o = .returned v ∧ Q_rm1_1 Z w_LETTER h0 n0 v U'.heap L ∧ FrameEnd s o U' L ({ frames := 0, cells := 0, slots := 0, locals := 0 } : Room).cells ({ frames := 0, cells := 0, slots := 0, locals := 0 } : Room).slots)
  rw [ef_rm1_1]
  show Go p e below (s₁.setTop (mkF m 0 #[.val (.int (1 : Int32))] [])) _
  refine Go.st (fun _ k_ => XS.iloadN X0.here hx rfl (hb hby d1_0) rfl k_) ?_
  show Go p e below (s₁.setTop (mkF m 1 #[.val (.int (1 : Int32))] [(.int (1 : Int32))])) _
  refine Go.st (fun _ k_ => XS.ifYes X0.here hx rfl (pc0 := 1) (pc' := 8) rfl (hb hby d1_1) rfl ((if0 _ _).trans (feq (by decide : ¬ ((1 : Int32) = (0 : Int32)))).2) (by decide) (by decide) k_) ?_
  show Go p e below (s₁.setTop (mkF m 8 #[.val (.int (1 : Int32))] [])) _
  refine Go.st (fun _ k_ => XS.iloadN X0.here hx rfl (hb hby d1_8) rfl k_) ?_
  show Go p e below (s₁.setTop (mkF m 9 #[.val (.int (1 : Int32))] [(.int (1 : Int32))])) _
  refine Go.st (fun _ k_ => XS.iconst X0.here hx rfl (hb hby d1_9) k_) ?_
  show Go p e below (s₁.setTop (mkF m 10 #[.val (.int (1 : Int32))] [(.int (1 : Int32)), (.int (1 : Int32))])) _
  refine Go.st (fun _ k_ => XS.icmpNo X0.here hx rfl (hb hby d1_10) rfl (teq (by decide : (1 : Int32) = (1 : Int32))).2 k_) ?_
  show Go p e below (s₁.setTop (mkF m 13 #[.val (.int (1 : Int32))] [])) _
  obtain ⟨T1, X1, e1, st1⟩ := getS2 X0 hx hZ hown (host := "") (Or.inl (hw _ (List.mem_of_getElem? (i := 23) rfl))) Via.refl e0 S_LETTER (g := (mkF m 13 #[.val (.int (1 : Int32))] [])) rfl (hb hby d1_13)
  refine Go.st st1 ?_
  show Go p e below (T1.setTop (mkF m 16 #[.val (.int (1 : Int32))] [(.ref w_LETTER)])) _
  refine Go.fin X1 (v := some (.ref w_LETTER)) (fun h_ => by rw [Bd.returns] at h_; cases h_) Bd.notSynchronized (fun _ hr => retOut X1 hx Bd.returns rfl (Or.inr (Or.inr (Or.inr (Or.inr ⟨rfl, rfl, rfl⟩)))) (hb hby d1_16) hr) (fun U' hU hF => ⟨_, _, rfl, ?_, hF.1, hF.2.1, hF.2.2.mono (by decide) (by decide)⟩)
  rw [hU, e1]
  exact ⟨(congrArg (fun z_ : Addr => some (Value.ref z_)) (show w_LETTER = w_LETTER from rfl)), N0, rfl⟩
theorem d1_17 : decode method_2_code 17 = .ok (.iload_n 0, 1) := by decide +kernel
theorem d1_18 : decode method_2_code 18 = .ok (.iconst 2, 1) := by decide +kernel
theorem d1_19 : decode method_2_code 19 = .ok (.if_icmp .ne 7, 3) := by decide +kernel
theorem d1_22 : decode method_2_code 22 = .ok (.getstatic 16, 3) := by decide +kernel
theorem d1_25 : decode method_2_code 25 = .ok (.areturn, 1) := by decide +kernel
theorem ef_rm1_2 (m : MethodId)  : entryFrame m #[(.int (2 : Int32))] 1 = mkF m 0 #[.val (.int (2 : Int32))] [] := by first | (simp [entryFrame, mkF, argsToLocals, Value.category]; done) | rfl
def Q_rm1_2 (Z : State) (w_LETTER_DIGIT : Addr) (h0 : Heap) (n0 : Nat) (v : Option Value) (h : Heap) (L : List Loc) : Prop := v = some (.ref w_LETTER_DIGIT) ∧ Fr n0 L ∧ h = h0
set_option maxRecDepth 65536 in
set_option maxHeartbeats 40000000 in
theorem rm1_2 (l : Launch) (Z : State) (a0 : Array Value) (hw : ∀ d ∈ tables_1, d.before a0 Z = true) (ws : List Jvm.Cond) (w_LETTER_DIGIT : Addr) (h0 : Heap) (n0 : Nat) (Z0 : n0 ≤ h0.size) (S_LETTER_DIGIT : Sta Z h0 "com/example/patuxent/patuxent/PasswordComplexity" "LETTER_DIGIT" "Lcom/example/patuxent/patuxent/PasswordComplexity;" (.ref w_LETTER_DIGIT)) :
    MetFree l (⟨"com/example/patuxent/patuxent/PasswordComplexityIsMetByPinLaw", "levelOf", "(I)Lcom/example/patuxent/patuxent/PasswordComplexity;"⟩ : MethodName) (head1 (Jvm.Cond.code (⟨"com/example/patuxent/patuxent/PasswordComplexityIsMetByPinLaw", "levelOf", "(I)Lcom/example/patuxent/patuxent/PasswordComplexity;"⟩ : MethodName) method_2_code 1 (some (.object "com/example/patuxent/patuxent/PasswordComplexity")) :: ws) ({ frames := 0, cells := 0, slots := 0, locals := 0 } : Room)) (fun a U => a = #[(.int (2 : Int32))] ∧ Z.Warmed39 U.vm ∧ U.heap = h0) (fun _ _ _ _ _ => True) (fun _ U o U' => ∃ v L, o = .returned v ∧ Q_rm1_2 Z w_LETTER_DIGIT h0 n0 v U'.heap L ∧ FrameEnd U o U' L ({ frames := 0, cells := 0, slots := 0, locals := 0 } : Room).cells ({ frames := 0, cells := 0, slots := 0, locals := 0 } : Room).slots) := by
  refine MetFree.of_bodySF (plainFor_of_name pn_4) hisR ?_
  intro p e s m args below meth c s₁ Bd hml0 hP hK
  obtain ⟨rfl, hZ, hh⟩ := hP
  have hx := Bd.exec
  have hby := Bd.bytes
  have hml : c.maxLocals = 1 := hml0
  have hown : s.vm.findClass "com/example/patuxent/patuxent/PasswordComplexityIsMetByPinLaw" = some m.cls := findClass_of_methodNamed Bd.named
  have hnm := (name_of_methodNamed Bd.named Bd.method).1
  have X0 : Stand p l e ({ frames := 0, cells := 0, slots := 0, locals := 0 } : Room) s m #[(.int (2 : Int32))] below meth c s₁ [] 0 0 := Stand.of_body Bd
  have e0 : s₁.heap = h0 := by rw [← hh, Bd.state]; rfl
  have N0 := Fr.nil n0
  show Go p e below (s₁.setTop (entryFrame m #[(.int (2 : Int32))] 1)) (fun o U' => ∃ v L, o = .returned v ∧ Q_rm1_2 Z w_LETTER_DIGIT h0 n0 v U'.heap L ∧ FrameEnd s o U' L ({ frames := 0, cells := 0, slots := 0, locals := 0 } : Room).cells ({ frames := 0, cells := 0, slots := 0, locals := 0 } : Room).slots)
  rw [ef_rm1_2]
  show Go p e below (s₁.setTop (mkF m 0 #[.val (.int (2 : Int32))] [])) _
  refine Go.st (fun _ k_ => XS.iloadN X0.here hx rfl (hb hby d1_0) rfl k_) ?_
  show Go p e below (s₁.setTop (mkF m 1 #[.val (.int (2 : Int32))] [(.int (2 : Int32))])) _
  refine Go.st (fun _ k_ => XS.ifYes X0.here hx rfl (pc0 := 1) (pc' := 8) rfl (hb hby d1_1) rfl ((if0 _ _).trans (feq (by decide : ¬ ((2 : Int32) = (0 : Int32)))).2) (by decide) (by decide) k_) ?_
  show Go p e below (s₁.setTop (mkF m 8 #[.val (.int (2 : Int32))] [])) _
  refine Go.st (fun _ k_ => XS.iloadN X0.here hx rfl (hb hby d1_8) rfl k_) ?_
  show Go p e below (s₁.setTop (mkF m 9 #[.val (.int (2 : Int32))] [(.int (2 : Int32))])) _
  refine Go.st (fun _ k_ => XS.iconst X0.here hx rfl (hb hby d1_9) k_) ?_
  show Go p e below (s₁.setTop (mkF m 10 #[.val (.int (2 : Int32))] [(.int (1 : Int32)), (.int (2 : Int32))])) _
  refine Go.st (fun _ k_ => XS.icmpYes X0.here hx rfl (pc0 := 10) (pc' := 17) rfl (hb hby d1_10) rfl (feq (by decide : ¬ ((2 : Int32) = (1 : Int32)))).2 (by decide) (by decide) k_) ?_
  show Go p e below (s₁.setTop (mkF m 17 #[.val (.int (2 : Int32))] [])) _
  refine Go.st (fun _ k_ => XS.iloadN X0.here hx rfl (hb hby d1_17) rfl k_) ?_
  show Go p e below (s₁.setTop (mkF m 18 #[.val (.int (2 : Int32))] [(.int (2 : Int32))])) _
  refine Go.st (fun _ k_ => XS.iconst X0.here hx rfl (hb hby d1_18) k_) ?_
  show Go p e below (s₁.setTop (mkF m 19 #[.val (.int (2 : Int32))] [(.int (2 : Int32)), (.int (2 : Int32))])) _
  refine Go.st (fun _ k_ => XS.icmpNo X0.here hx rfl (hb hby d1_19) rfl (teq (by decide : (2 : Int32) = (2 : Int32))).2 k_) ?_
  show Go p e below (s₁.setTop (mkF m 22 #[.val (.int (2 : Int32))] [])) _
  obtain ⟨T1, X1, e1, st1⟩ := getS2 X0 hx hZ hown (host := "") (Or.inl (hw _ (List.mem_of_getElem? (i := 21) rfl))) Via.refl e0 S_LETTER_DIGIT (g := (mkF m 22 #[.val (.int (2 : Int32))] [])) rfl (hb hby d1_22)
  refine Go.st st1 ?_
  show Go p e below (T1.setTop (mkF m 25 #[.val (.int (2 : Int32))] [(.ref w_LETTER_DIGIT)])) _
  refine Go.fin X1 (v := some (.ref w_LETTER_DIGIT)) (fun h_ => by rw [Bd.returns] at h_; cases h_) Bd.notSynchronized (fun _ hr => retOut X1 hx Bd.returns rfl (Or.inr (Or.inr (Or.inr (Or.inr ⟨rfl, rfl, rfl⟩)))) (hb hby d1_25) hr) (fun U' hU hF => ⟨_, _, rfl, ?_, hF.1, hF.2.1, hF.2.2.mono (by decide) (by decide)⟩)
  rw [hU, e1]
  exact ⟨(congrArg (fun z_ : Addr => some (Value.ref z_)) (show w_LETTER_DIGIT = w_LETTER_DIGIT from rfl)), N0, rfl⟩
theorem d1_26 : decode method_2_code 26 = .ok (.getstatic 19, 3) := by decide +kernel
theorem d1_29 : decode method_2_code 29 = .ok (.areturn, 1) := by decide +kernel
theorem ef_rm1_3 (m : MethodId)  : entryFrame m #[(.int (3 : Int32))] 1 = mkF m 0 #[.val (.int (3 : Int32))] [] := by first | (simp [entryFrame, mkF, argsToLocals, Value.category]; done) | rfl
def Q_rm1_3 (Z : State) (w_LETTER_DIGIT_SPECIAL : Addr) (h0 : Heap) (n0 : Nat) (v : Option Value) (h : Heap) (L : List Loc) : Prop := v = some (.ref w_LETTER_DIGIT_SPECIAL) ∧ Fr n0 L ∧ h = h0
set_option maxRecDepth 65536 in
set_option maxHeartbeats 40000000 in
theorem rm1_3 (l : Launch) (Z : State) (a0 : Array Value) (hw : ∀ d ∈ tables_1, d.before a0 Z = true) (ws : List Jvm.Cond) (w_LETTER_DIGIT_SPECIAL : Addr) (h0 : Heap) (n0 : Nat) (Z0 : n0 ≤ h0.size) (S_LETTER_DIGIT_SPECIAL : Sta Z h0 "com/example/patuxent/patuxent/PasswordComplexity" "LETTER_DIGIT_SPECIAL" "Lcom/example/patuxent/patuxent/PasswordComplexity;" (.ref w_LETTER_DIGIT_SPECIAL)) :
    MetFree l (⟨"com/example/patuxent/patuxent/PasswordComplexityIsMetByPinLaw", "levelOf", "(I)Lcom/example/patuxent/patuxent/PasswordComplexity;"⟩ : MethodName) (head1 (Jvm.Cond.code (⟨"com/example/patuxent/patuxent/PasswordComplexityIsMetByPinLaw", "levelOf", "(I)Lcom/example/patuxent/patuxent/PasswordComplexity;"⟩ : MethodName) method_2_code 1 (some (.object "com/example/patuxent/patuxent/PasswordComplexity")) :: ws) ({ frames := 0, cells := 0, slots := 0, locals := 0 } : Room)) (fun a U => a = #[(.int (3 : Int32))] ∧ Z.Warmed39 U.vm ∧ U.heap = h0) (fun _ _ _ _ _ => True) (fun _ U o U' => ∃ v L, o = .returned v ∧ Q_rm1_3 Z w_LETTER_DIGIT_SPECIAL h0 n0 v U'.heap L ∧ FrameEnd U o U' L ({ frames := 0, cells := 0, slots := 0, locals := 0 } : Room).cells ({ frames := 0, cells := 0, slots := 0, locals := 0 } : Room).slots) := by
  refine MetFree.of_bodySF (plainFor_of_name pn_4) hisR ?_
  intro p e s m args below meth c s₁ Bd hml0 hP hK
  obtain ⟨rfl, hZ, hh⟩ := hP
  have hx := Bd.exec
  have hby := Bd.bytes
  have hml : c.maxLocals = 1 := hml0
  have hown : s.vm.findClass "com/example/patuxent/patuxent/PasswordComplexityIsMetByPinLaw" = some m.cls := findClass_of_methodNamed Bd.named
  have hnm := (name_of_methodNamed Bd.named Bd.method).1
  have X0 : Stand p l e ({ frames := 0, cells := 0, slots := 0, locals := 0 } : Room) s m #[(.int (3 : Int32))] below meth c s₁ [] 0 0 := Stand.of_body Bd
  have e0 : s₁.heap = h0 := by rw [← hh, Bd.state]; rfl
  have N0 := Fr.nil n0
  show Go p e below (s₁.setTop (entryFrame m #[(.int (3 : Int32))] 1)) (fun o U' => ∃ v L, o = .returned v ∧ Q_rm1_3 Z w_LETTER_DIGIT_SPECIAL h0 n0 v U'.heap L ∧ FrameEnd s o U' L ({ frames := 0, cells := 0, slots := 0, locals := 0 } : Room).cells ({ frames := 0, cells := 0, slots := 0, locals := 0 } : Room).slots)
  rw [ef_rm1_3]
  show Go p e below (s₁.setTop (mkF m 0 #[.val (.int (3 : Int32))] [])) _
  refine Go.st (fun _ k_ => XS.iloadN X0.here hx rfl (hb hby d1_0) rfl k_) ?_
  show Go p e below (s₁.setTop (mkF m 1 #[.val (.int (3 : Int32))] [(.int (3 : Int32))])) _
  refine Go.st (fun _ k_ => XS.ifYes X0.here hx rfl (pc0 := 1) (pc' := 8) rfl (hb hby d1_1) rfl ((if0 _ _).trans (feq (by decide : ¬ ((3 : Int32) = (0 : Int32)))).2) (by decide) (by decide) k_) ?_
  show Go p e below (s₁.setTop (mkF m 8 #[.val (.int (3 : Int32))] [])) _
  refine Go.st (fun _ k_ => XS.iloadN X0.here hx rfl (hb hby d1_8) rfl k_) ?_
  show Go p e below (s₁.setTop (mkF m 9 #[.val (.int (3 : Int32))] [(.int (3 : Int32))])) _
  refine Go.st (fun _ k_ => XS.iconst X0.here hx rfl (hb hby d1_9) k_) ?_
  show Go p e below (s₁.setTop (mkF m 10 #[.val (.int (3 : Int32))] [(.int (1 : Int32)), (.int (3 : Int32))])) _
  refine Go.st (fun _ k_ => XS.icmpYes X0.here hx rfl (pc0 := 10) (pc' := 17) rfl (hb hby d1_10) rfl (feq (by decide : ¬ ((3 : Int32) = (1 : Int32)))).2 (by decide) (by decide) k_) ?_
  show Go p e below (s₁.setTop (mkF m 17 #[.val (.int (3 : Int32))] [])) _
  refine Go.st (fun _ k_ => XS.iloadN X0.here hx rfl (hb hby d1_17) rfl k_) ?_
  show Go p e below (s₁.setTop (mkF m 18 #[.val (.int (3 : Int32))] [(.int (3 : Int32))])) _
  refine Go.st (fun _ k_ => XS.iconst X0.here hx rfl (hb hby d1_18) k_) ?_
  show Go p e below (s₁.setTop (mkF m 19 #[.val (.int (3 : Int32))] [(.int (2 : Int32)), (.int (3 : Int32))])) _
  refine Go.st (fun _ k_ => XS.icmpYes X0.here hx rfl (pc0 := 19) (pc' := 26) rfl (hb hby d1_19) rfl (feq (by decide : ¬ ((3 : Int32) = (2 : Int32)))).2 (by decide) (by decide) k_) ?_
  show Go p e below (s₁.setTop (mkF m 26 #[.val (.int (3 : Int32))] [])) _
  obtain ⟨T1, X1, e1, st1⟩ := getS2 X0 hx hZ hown (host := "") (Or.inl (hw _ (List.mem_of_getElem? (i := 25) rfl))) Via.refl e0 S_LETTER_DIGIT_SPECIAL (g := (mkF m 26 #[.val (.int (3 : Int32))] [])) rfl (hb hby d1_26)
  refine Go.st st1 ?_
  show Go p e below (T1.setTop (mkF m 29 #[.val (.int (3 : Int32))] [(.ref w_LETTER_DIGIT_SPECIAL)])) _
  refine Go.fin X1 (v := some (.ref w_LETTER_DIGIT_SPECIAL)) (fun h_ => by rw [Bd.returns] at h_; cases h_) Bd.notSynchronized (fun _ hr => retOut X1 hx Bd.returns rfl (Or.inr (Or.inr (Or.inr (Or.inr ⟨rfl, rfl, rfl⟩)))) (hb hby d1_29) hr) (fun U' hU hF => ⟨_, _, rfl, ?_, hF.1, hF.2.1, hF.2.2.mono (by decide) (by decide)⟩)
  rw [hU, e1]
  exact ⟨(congrArg (fun z_ : Addr => some (Value.ref z_)) (show w_LETTER_DIGIT_SPECIAL = w_LETTER_DIGIT_SPECIAL from rfl)), N0, rfl⟩
theorem d3_0 : decode jdk_37_method_2_code 0 = .ok (.aload_n 0, 1) := by decide +kernel
theorem d3_1 : decode jdk_37_method_2_code 1 = .ok (.getfield 7, 3) := by decide +kernel
theorem d3_4 : decode jdk_37_method_2_code 4 = .ok (.ireturn, 1) := by decide +kernel
theorem pn_20 : plainName "java/lang/Enum" = true := by first | (simp [plainName, overriddenIn]; done) | decide +kernel
theorem ef_rm3 (m : MethodId) (a1 : Addr) : entryFrame m #[(.ref a1)] 1 = mkF m 0 #[.val (.ref a1)] [] := by first | (simp [entryFrame, mkF, argsToLocals, Value.category]; done) | rfl
def Q_rm3 (Z : State) (a1 : Addr) (f_ordinal_a1 : Int32) (h0 : Heap) (n0 : Nat) (v : Option Value) (h : Heap) (L : List Loc) : Prop := v = some (.int f_ordinal_a1) ∧ Fr n0 L ∧ h = h0
set_option maxRecDepth 65536 in
set_option maxHeartbeats 40000000 in
theorem rm3 (l : Launch) (Z : State) (a0 : Array Value) (hw : ∀ d ∈ tables_1, d.before a0 Z = true) (ws : List Jvm.Cond) (a1 : Addr) (f_ordinal_a1 : Int32) (h0 : Heap) (n0 : Nat) (Z0 : n0 ≤ h0.size) (F_ordinal_a1 : Fld Z h0 a1 "java/lang/Enum" "ordinal" "I" (.int f_ordinal_a1)) :
    MetFree l (⟨"java/lang/Enum", "ordinal", "()I"⟩ : MethodName) (head1 (Jvm.Cond.code (⟨"java/lang/Enum", "ordinal", "()I"⟩ : MethodName) jdk_37_method_2_code 1 (some .int) :: ws) ({ frames := 0, cells := 0, slots := 0, locals := 0 } : Room)) (fun a U => a = #[(.ref a1)] ∧ Z.Warmed39 U.vm ∧ U.heap = h0) (fun _ _ _ _ _ => True) (fun _ U o U' => ∃ v L, o = .returned v ∧ Q_rm3 Z a1 f_ordinal_a1 h0 n0 v U'.heap L ∧ FrameEnd U o U' L ({ frames := 0, cells := 0, slots := 0, locals := 0 } : Room).cells ({ frames := 0, cells := 0, slots := 0, locals := 0 } : Room).slots) := by
  refine MetFree.of_bodySF (plainFor_of_name pn_20) hisR ?_
  intro p e s m args below meth c s₁ Bd hml0 hP hK
  obtain ⟨rfl, hZ, hh⟩ := hP
  have hx := Bd.exec
  have hby := Bd.bytes
  have hml : c.maxLocals = 1 := hml0
  have hown : s.vm.findClass "java/lang/Enum" = some m.cls := findClass_of_methodNamed Bd.named
  have hnm := (name_of_methodNamed Bd.named Bd.method).1
  have X0 : Stand p l e ({ frames := 0, cells := 0, slots := 0, locals := 0 } : Room) s m #[(.ref a1)] below meth c s₁ [] 0 0 := Stand.of_body Bd
  have e0 : s₁.heap = h0 := by rw [← hh, Bd.state]; rfl
  have N0 := Fr.nil n0
  show Go p e below (s₁.setTop (entryFrame m #[(.ref a1)] 1)) (fun o U' => ∃ v L, o = .returned v ∧ Q_rm3 Z a1 f_ordinal_a1 h0 n0 v U'.heap L ∧ FrameEnd s o U' L ({ frames := 0, cells := 0, slots := 0, locals := 0 } : Room).cells ({ frames := 0, cells := 0, slots := 0, locals := 0 } : Room).slots)
  rw [ef_rm3]
  show Go p e below (s₁.setTop (mkF m 0 #[.val (.ref a1)] [])) _
  refine Go.st (fun _ k_ => XS.aloadN X0.here hx rfl (hb hby d3_0) rfl rfl k_) ?_
  show Go p e below (s₁.setTop (mkF m 1 #[.val (.ref a1)] [(.ref a1)])) _
  obtain ⟨T1, X1, e1, st1⟩ := getF X0 hx hZ hown (host := "") (Or.inl (hw _ (List.mem_of_getElem? (i := 19) rfl))) Via.refl e0 F_ordinal_a1 (g := (mkF m 1 #[.val (.ref a1)] [(.ref a1)])) rfl rfl (hb hby d3_1)
  refine Go.st st1 ?_
  show Go p e below (T1.setTop (mkF m 4 #[.val (.ref a1)] [(.int f_ordinal_a1)])) _
  refine Go.fin X1 (v := some (.int f_ordinal_a1)) (fun h_ => by rw [Bd.returns] at h_; cases h_) Bd.notSynchronized (fun _ hr => retOut X1 hx Bd.returns rfl (Or.inl ⟨rfl, Or.inl rfl, _, rfl⟩) (hb hby d3_4) hr) (fun U' hU hF => ⟨_, _, rfl, ?_, hF.1, hF.2.1, hF.2.2.mono (by decide) (by decide)⟩)
  rw [hU, e1]
  exact ⟨(congrArg (fun z_ : Int32 => some (Value.int z_)) (show f_ordinal_a1 = f_ordinal_a1 from rfl)), N0, rfl⟩
theorem pd_0 : parseMethodDescriptor "()I" = some ⟨[], some .int⟩ := by decide +kernel
theorem d2_0 : decode prog_8_method_8_code 0 = .ok (.aload_n 0, 1) := by decide +kernel
theorem d2_1 : decode prog_8_method_8_code 1 = .ok (.invokevirtual 68, 3) := by decide +kernel
theorem d2_4 : decode prog_8_method_8_code 4 = .ok (.tableswitch 32 0 3 #[42, 46, 50, 66], 32) := by decide +kernel
theorem d2_46 : decode prog_8_method_8_code 46 = .ok (.iconst 1, 1) := by decide +kernel
theorem d2_47 : decode prog_8_method_8_code 47 = .ok (.goto 40, 3) := by decide +kernel
theorem d2_87 : decode prog_8_method_8_code 87 = .ok (.ireturn, 1) := by decide +kernel
theorem pn_27 : plainName "com/example/patuxent/patuxent/PasswordComplexity" = true := by first | (simp [plainName, overriddenIn]; done) | decide +kernel
theorem ef_rm2_0 (m : MethodId) (a1 : Addr) (p2 : Int32) (p3 : Int32) (p4 : Int32) : entryFrame m #[(.ref a1), (.int p2), (.int p3), (.int p4)] 4 = mkF m 0 #[.val (.ref a1), .val (.int p2), .val (.int p3), .val (.int p4)] [] := by first | (simp [entryFrame, mkF, argsToLocals, Value.category]; done) | rfl
def Q_rm2_0 (Z : State) (a1 : Addr) (p2 : Int32) (p3 : Int32) (p4 : Int32) (h0 : Heap) (n0 : Nat) (v : Option Value) (h : Heap) (L : List Loc) : Prop := v = some (.int (1 : Int32)) ∧ Fr n0 L ∧ h = h0
set_option maxRecDepth 65536 in
set_option maxHeartbeats 40000000 in
theorem rm2_0 (l : Launch) (Z : State) (a0 : Array Value) (hw : ∀ d ∈ tables_1, d.before a0 Z = true) (ws : List Jvm.Cond) (a1 : Addr) (p2 : Int32) (p3 : Int32) (p4 : Int32) (h0 : Heap) (n0 : Nat) (Z0 : n0 ≤ h0.size) (E_a1 : Exa Z h0 a1 "com/example/patuxent/patuxent/PasswordComplexity") (F_od : Fld Z h0 a1 "java/lang/Enum" "ordinal" "I" (.int (0 : Int32))) :
    MetFree l (⟨"com/example/patuxent/patuxent/PasswordComplexity", "isMetBy", "(ZZZ)Z"⟩ : MethodName) (head1 (Jvm.Cond.code (⟨"com/example/patuxent/patuxent/PasswordComplexity", "isMetBy", "(ZZZ)Z"⟩ : MethodName) prog_8_method_8_code 4 (some .boolean) :: ws) ({ frames := 1, cells := 0, slots := 0, locals := 12 } : Room)) (fun a U => a = #[(.ref a1), (.int p2), (.int p3), (.int p4)] ∧ Z.Warmed39 U.vm ∧ U.heap = h0) (fun _ _ _ _ _ => True) (fun _ U o U' => ∃ v L, o = .returned v ∧ Q_rm2_0 Z a1 p2 p3 p4 h0 n0 v U'.heap L ∧ FrameEnd U o U' L ({ frames := 1, cells := 0, slots := 0, locals := 12 } : Room).cells ({ frames := 1, cells := 0, slots := 0, locals := 12 } : Room).slots) := by
  refine MetFree.of_bodySF (plainFor_of_name pn_27) hisR ?_
  intro p e s m args below meth c s₁ Bd hml0 hP hK
  obtain ⟨rfl, hZ, hh⟩ := hP
  have hx := Bd.exec
  have hby := Bd.bytes
  have hml : c.maxLocals = 4 := hml0
  have hown : s.vm.findClass "com/example/patuxent/patuxent/PasswordComplexity" = some m.cls := findClass_of_methodNamed Bd.named
  have hnm := (name_of_methodNamed Bd.named Bd.method).1
  have X0 : Stand p l e ({ frames := 1, cells := 0, slots := 0, locals := 12 } : Room) s m #[(.ref a1), (.int p2), (.int p3), (.int p4)] below meth c s₁ [] 0 0 := Stand.of_body Bd
  have e0 : s₁.heap = h0 := by rw [← hh, Bd.state]; rfl
  have N0 := Fr.nil n0
  show Go p e below (s₁.setTop (entryFrame m #[(.ref a1), (.int p2), (.int p3), (.int p4)] 4)) (fun o U' => ∃ v L, o = .returned v ∧ Q_rm2_0 Z a1 p2 p3 p4 h0 n0 v U'.heap L ∧ FrameEnd s o U' L ({ frames := 1, cells := 0, slots := 0, locals := 12 } : Room).cells ({ frames := 1, cells := 0, slots := 0, locals := 12 } : Room).slots)
  rw [ef_rm2_0]
  show Go p e below (s₁.setTop (mkF m 0 #[.val (.ref a1), .val (.int p2), .val (.int p3), .val (.int p4)] [])) _
  refine Go.st (fun _ k_ => XS.aloadN X0.here hx rfl (hb hby d2_0) rfl rfl k_) ?_
  show Go p e below (s₁.setTop (mkF m 1 #[.val (.ref a1), .val (.int p2), .val (.int p3), .val (.int p4)] [(.ref a1)])) _
  obtain ⟨cq1, kq1, q1a, q1b, q1c⟩ := isOf hZ e0 E_a1
  obtain ⟨_, _, ⟨T1, L1, k1_, n1_⟩, -, X1, ⟨Lc1, hQ1, l1_, y1_, z1_⟩, st1⟩ := X0.virtualBackUp hx (owner := "java/lang/Enum") (x := (⟨"com/example/patuxent/patuxent/PasswordComplexity", "ordinal", "()I"⟩ : MethodName)) (y := (⟨"java/lang/Enum", "ordinal", "()I"⟩ : MethodName)) hown (mvT hZ (hw _ (List.mem_of_getElem? (i := 12) rfl))) (mvT hZ (hw _ (List.mem_of_getElem? (i := 13) rfl))) (mvT hZ (hw _ (List.mem_of_getElem? (i := 14) rfl))) (by decide) (mvT hZ (hw _ (List.mem_of_getElem? (i := 16) rfl))) (mvT hZ (hw _ (List.mem_of_getElem? (i := 15) rfl))) (backOf (W := 0) (rm3 l Z a0 hw [] a1 (0 : Int32) h0 n0 Z0 F_od) hZ (hw _ (List.mem_of_getElem? (i := 18) rfl)) (hw _ (List.mem_of_getElem? (i := 17) rfl)) (by decide) (by decide)) q1a q1c (g := (mkF m 1 #[.val (.ref a1), .val (.int p2), .val (.int p3), .val (.int p4)] [(.ref a1)])) rfl (by rw [hml]; rfl) (Steps.refl _) (argsL := []) (rest := []) (lenOf pd_0 rfl) rfl (by show 2 * 0 + _ ≤ _; exact Nat.le_of_eq rfl) (hb hby d2_1) (fun _ _ => ⟨rfl, e0, (by decide : 0 + 0 ≤ _), (by decide : 0 + 0 ≤ _)⟩)
  dsimp only [Pt.U, Pt.locs, Pt.cells, Pt.slots] at X1 l1_ y1_ z1_ st1 hQ1
  subst l1_ y1_ z1_
  obtain ⟨rfl, N1q, e1⟩ := hQ1
  have N1 := Fr.app N0 N1q
  refine Go.tr st1 ?_
  show Go p e below (T1.setTop (mkF m 4 #[.val (.ref a1), .val (.int p2), .val (.int p3), .val (.int p4)] [(.int (0 : Int32))])) _
  refine Go.st (fun _ k_ => XS.tswIn X1.here hx rfl (pc0 := 4) (pc' := 46) rfl (hb hby d2_4) rfl (by decide) (o := 42) rfl (by decide) (by decide) k_) ?_
  show Go p e below (T1.setTop (mkF m 46 #[.val (.ref a1), .val (.int p2), .val (.int p3), .val (.int p4)] [])) _
  refine Go.st (fun _ k_ => XS.iconst X1.here hx rfl (hb hby d2_46) k_) ?_
  show Go p e below (T1.setTop (mkF m 47 #[.val (.ref a1), .val (.int p2), .val (.int p3), .val (.int p4)] [(.int (1 : Int32))])) _
  refine Go.st (fun _ k_ => XS.goto X1.here hx rfl (pc0 := 47) (pc' := 87) rfl (hb hby d2_47) (by decide) (by decide) k_) ?_
  show Go p e below (T1.setTop (mkF m 87 #[.val (.ref a1), .val (.int p2), .val (.int p3), .val (.int p4)] [(.int (1 : Int32))])) _
  refine Go.fin X1 (v := some (.int (1 : Int32))) (fun h_ => by rw [Bd.returns] at h_; cases h_) Bd.notSynchronized (fun _ hr => retN X1 hx (t := .boolean) Bd.returns (by simp) (hb hby d2_87) hr) (fun U' hU hF => ⟨_, _, rfl, ?_, hF.1, hF.2.1, hF.2.2.mono (by decide) (by decide)⟩)
  rw [hU, e1]
  exact ⟨(congrArg (fun z_ : Int32 => some (Value.int z_)) (show (1 : Int32) = (1 : Int32) from rfl)), N1, rfl⟩
theorem d2_50 : decode prog_8_method_8_code 50 = .ok (.iload_n 1, 1) := by decide +kernel
theorem d2_51 : decode prog_8_method_8_code 51 = .ok (.goto 36, 3) := by decide +kernel
theorem ef_rm2_1 (m : MethodId) (a1 : Addr) (p2 : Int32) (p3 : Int32) (p4 : Int32) : entryFrame m #[(.ref a1), (.int p2), (.int p3), (.int p4)] 4 = mkF m 0 #[.val (.ref a1), .val (.int p2), .val (.int p3), .val (.int p4)] [] := by first | (simp [entryFrame, mkF, argsToLocals, Value.category]; done) | rfl
def Q_rm2_1 (Z : State) (a1 : Addr) (p2 : Int32) (p3 : Int32) (p4 : Int32) (h0 : Heap) (n0 : Nat) (v : Option Value) (h : Heap) (L : List Loc) : Prop := v = some (.int (nar .boolean p2)) ∧ Fr n0 L ∧ h = h0
set_option maxRecDepth 65536 in
set_option maxHeartbeats 40000000 in
theorem rm2_1 (l : Launch) (Z : State) (a0 : Array Value) (hw : ∀ d ∈ tables_1, d.before a0 Z = true) (ws : List Jvm.Cond) (a1 : Addr) (p2 : Int32) (p3 : Int32) (p4 : Int32) (h0 : Heap) (n0 : Nat) (Z0 : n0 ≤ h0.size) (E_a1 : Exa Z h0 a1 "com/example/patuxent/patuxent/PasswordComplexity") (F_od : Fld Z h0 a1 "java/lang/Enum" "ordinal" "I" (.int (1 : Int32))) :
    MetFree l (⟨"com/example/patuxent/patuxent/PasswordComplexity", "isMetBy", "(ZZZ)Z"⟩ : MethodName) (head1 (Jvm.Cond.code (⟨"com/example/patuxent/patuxent/PasswordComplexity", "isMetBy", "(ZZZ)Z"⟩ : MethodName) prog_8_method_8_code 4 (some .boolean) :: ws) ({ frames := 1, cells := 0, slots := 0, locals := 12 } : Room)) (fun a U => a = #[(.ref a1), (.int p2), (.int p3), (.int p4)] ∧ Z.Warmed39 U.vm ∧ U.heap = h0) (fun _ _ _ _ _ => True) (fun _ U o U' => ∃ v L, o = .returned v ∧ Q_rm2_1 Z a1 p2 p3 p4 h0 n0 v U'.heap L ∧ FrameEnd U o U' L ({ frames := 1, cells := 0, slots := 0, locals := 12 } : Room).cells ({ frames := 1, cells := 0, slots := 0, locals := 12 } : Room).slots) := by
  refine MetFree.of_bodySF (plainFor_of_name pn_27) hisR ?_
  intro p e s m args below meth c s₁ Bd hml0 hP hK
  obtain ⟨rfl, hZ, hh⟩ := hP
  have hx := Bd.exec
  have hby := Bd.bytes
  have hml : c.maxLocals = 4 := hml0
  have hown : s.vm.findClass "com/example/patuxent/patuxent/PasswordComplexity" = some m.cls := findClass_of_methodNamed Bd.named
  have hnm := (name_of_methodNamed Bd.named Bd.method).1
  have X0 : Stand p l e ({ frames := 1, cells := 0, slots := 0, locals := 12 } : Room) s m #[(.ref a1), (.int p2), (.int p3), (.int p4)] below meth c s₁ [] 0 0 := Stand.of_body Bd
  have e0 : s₁.heap = h0 := by rw [← hh, Bd.state]; rfl
  have N0 := Fr.nil n0
  show Go p e below (s₁.setTop (entryFrame m #[(.ref a1), (.int p2), (.int p3), (.int p4)] 4)) (fun o U' => ∃ v L, o = .returned v ∧ Q_rm2_1 Z a1 p2 p3 p4 h0 n0 v U'.heap L ∧ FrameEnd s o U' L ({ frames := 1, cells := 0, slots := 0, locals := 12 } : Room).cells ({ frames := 1, cells := 0, slots := 0, locals := 12 } : Room).slots)
  rw [ef_rm2_1]
  show Go p e below (s₁.setTop (mkF m 0 #[.val (.ref a1), .val (.int p2), .val (.int p3), .val (.int p4)] [])) _
  refine Go.st (fun _ k_ => XS.aloadN X0.here hx rfl (hb hby d2_0) rfl rfl k_) ?_
  show Go p e below (s₁.setTop (mkF m 1 #[.val (.ref a1), .val (.int p2), .val (.int p3), .val (.int p4)] [(.ref a1)])) _
  obtain ⟨cq1, kq1, q1a, q1b, q1c⟩ := isOf hZ e0 E_a1
  obtain ⟨_, _, ⟨T1, L1, k1_, n1_⟩, -, X1, ⟨Lc1, hQ1, l1_, y1_, z1_⟩, st1⟩ := X0.virtualBackUp hx (owner := "java/lang/Enum") (x := (⟨"com/example/patuxent/patuxent/PasswordComplexity", "ordinal", "()I"⟩ : MethodName)) (y := (⟨"java/lang/Enum", "ordinal", "()I"⟩ : MethodName)) hown (mvT hZ (hw _ (List.mem_of_getElem? (i := 12) rfl))) (mvT hZ (hw _ (List.mem_of_getElem? (i := 13) rfl))) (mvT hZ (hw _ (List.mem_of_getElem? (i := 14) rfl))) (by decide) (mvT hZ (hw _ (List.mem_of_getElem? (i := 16) rfl))) (mvT hZ (hw _ (List.mem_of_getElem? (i := 15) rfl))) (backOf (W := 0) (rm3 l Z a0 hw [] a1 (1 : Int32) h0 n0 Z0 F_od) hZ (hw _ (List.mem_of_getElem? (i := 18) rfl)) (hw _ (List.mem_of_getElem? (i := 17) rfl)) (by decide) (by decide)) q1a q1c (g := (mkF m 1 #[.val (.ref a1), .val (.int p2), .val (.int p3), .val (.int p4)] [(.ref a1)])) rfl (by rw [hml]; rfl) (Steps.refl _) (argsL := []) (rest := []) (lenOf pd_0 rfl) rfl (by show 2 * 0 + _ ≤ _; exact Nat.le_of_eq rfl) (hb hby d2_1) (fun _ _ => ⟨rfl, e0, (by decide : 0 + 0 ≤ _), (by decide : 0 + 0 ≤ _)⟩)
  dsimp only [Pt.U, Pt.locs, Pt.cells, Pt.slots] at X1 l1_ y1_ z1_ st1 hQ1
  subst l1_ y1_ z1_
  obtain ⟨rfl, N1q, e1⟩ := hQ1
  have N1 := Fr.app N0 N1q
  refine Go.tr st1 ?_
  show Go p e below (T1.setTop (mkF m 4 #[.val (.ref a1), .val (.int p2), .val (.int p3), .val (.int p4)] [(.int (1 : Int32))])) _
  refine Go.st (fun _ k_ => XS.tswIn X1.here hx rfl (pc0 := 4) (pc' := 50) rfl (hb hby d2_4) rfl (by decide) (o := 46) rfl (by decide) (by decide) k_) ?_
  show Go p e below (T1.setTop (mkF m 50 #[.val (.ref a1), .val (.int p2), .val (.int p3), .val (.int p4)] [])) _
  refine Go.st (fun _ k_ => XS.iloadN X1.here hx rfl (hb hby d2_50) rfl k_) ?_
  show Go p e below (T1.setTop (mkF m 51 #[.val (.ref a1), .val (.int p2), .val (.int p3), .val (.int p4)] [(.int p2)])) _
  refine Go.st (fun _ k_ => XS.goto X1.here hx rfl (pc0 := 51) (pc' := 87) rfl (hb hby d2_51) (by decide) (by decide) k_) ?_
  show Go p e below (T1.setTop (mkF m 87 #[.val (.ref a1), .val (.int p2), .val (.int p3), .val (.int p4)] [(.int p2)])) _
  refine Go.fin X1 (v := some (.int (nar .boolean p2))) (fun h_ => by rw [Bd.returns] at h_; cases h_) Bd.notSynchronized (fun _ hr => retN X1 hx (t := .boolean) Bd.returns (by simp) (hb hby d2_87) hr) (fun U' hU hF => ⟨_, _, rfl, ?_, hF.1, hF.2.1, hF.2.2.mono (by decide) (by decide)⟩)
  rw [hU, e1]
  exact ⟨(congrArg (fun z_ : Int32 => some (Value.int z_)) (show (nar .boolean p2) = (nar .boolean p2) from rfl)), N1, rfl⟩
theorem d2_54 : decode prog_8_method_8_code 54 = .ok (.iload_n 1, 1) := by decide +kernel
theorem d2_55 : decode prog_8_method_8_code 55 = .ok (.ifCond .eq 11, 3) := by decide +kernel
theorem d2_58 : decode prog_8_method_8_code 58 = .ok (.iload_n 2, 1) := by decide +kernel
theorem d2_59 : decode prog_8_method_8_code 59 = .ok (.ifCond .eq 7, 3) := by decide +kernel
theorem d2_62 : decode prog_8_method_8_code 62 = .ok (.iconst 1, 1) := by decide +kernel
theorem d2_63 : decode prog_8_method_8_code 63 = .ok (.goto 24, 3) := by decide +kernel
theorem d2_66 : decode prog_8_method_8_code 66 = .ok (.iconst 0, 1) := by decide +kernel
theorem d2_67 : decode prog_8_method_8_code 67 = .ok (.goto 20, 3) := by decide +kernel
theorem ef_rm2_2 (m : MethodId) (a1 : Addr) (p2 : Int32) (p3 : Int32) (p4 : Int32) : entryFrame m #[(.ref a1), (.int p2), (.int p3), (.int p4)] 4 = mkF m 0 #[.val (.ref a1), .val (.int p2), .val (.int p3), .val (.int p4)] [] := by first | (simp [entryFrame, mkF, argsToLocals, Value.category]; done) | rfl
def Q_rm2_2 (Z : State) (a1 : Addr) (p2 : Int32) (p3 : Int32) (p4 : Int32) (h0 : Heap) (n0 : Nat) (v : Option Value) (h : Heap) (L : List Loc) : Prop := v = some (.int (own_met2 p2 p3)) ∧ Fr n0 L ∧ h = h0
set_option maxRecDepth 65536 in
set_option maxHeartbeats 40000000 in
theorem rm2_2 (l : Launch) (Z : State) (a0 : Array Value) (hw : ∀ d ∈ tables_1, d.before a0 Z = true) (ws : List Jvm.Cond) (a1 : Addr) (p2 : Int32) (p3 : Int32) (p4 : Int32) (h0 : Heap) (n0 : Nat) (Z0 : n0 ≤ h0.size) (E_a1 : Exa Z h0 a1 "com/example/patuxent/patuxent/PasswordComplexity") (F_od : Fld Z h0 a1 "java/lang/Enum" "ordinal" "I" (.int (2 : Int32))) :
    MetFree l (⟨"com/example/patuxent/patuxent/PasswordComplexity", "isMetBy", "(ZZZ)Z"⟩ : MethodName) (head1 (Jvm.Cond.code (⟨"com/example/patuxent/patuxent/PasswordComplexity", "isMetBy", "(ZZZ)Z"⟩ : MethodName) prog_8_method_8_code 4 (some .boolean) :: ws) ({ frames := 1, cells := 0, slots := 0, locals := 12 } : Room)) (fun a U => a = #[(.ref a1), (.int p2), (.int p3), (.int p4)] ∧ Z.Warmed39 U.vm ∧ U.heap = h0) (fun _ _ _ _ _ => True) (fun _ U o U' => ∃ v L, o = .returned v ∧ Q_rm2_2 Z a1 p2 p3 p4 h0 n0 v U'.heap L ∧ FrameEnd U o U' L ({ frames := 1, cells := 0, slots := 0, locals := 12 } : Room).cells ({ frames := 1, cells := 0, slots := 0, locals := 12 } : Room).slots) := by
  refine MetFree.of_bodySF (plainFor_of_name pn_27) hisR ?_
  intro p e s m args below meth c s₁ Bd hml0 hP hK
  obtain ⟨rfl, hZ, hh⟩ := hP
  have hx := Bd.exec
  have hby := Bd.bytes
  have hml : c.maxLocals = 4 := hml0
  have hown : s.vm.findClass "com/example/patuxent/patuxent/PasswordComplexity" = some m.cls := findClass_of_methodNamed Bd.named
  have hnm := (name_of_methodNamed Bd.named Bd.method).1
  have X0 : Stand p l e ({ frames := 1, cells := 0, slots := 0, locals := 12 } : Room) s m #[(.ref a1), (.int p2), (.int p3), (.int p4)] below meth c s₁ [] 0 0 := Stand.of_body Bd
  have e0 : s₁.heap = h0 := by rw [← hh, Bd.state]; rfl
  have N0 := Fr.nil n0
  show Go p e below (s₁.setTop (entryFrame m #[(.ref a1), (.int p2), (.int p3), (.int p4)] 4)) (fun o U' => ∃ v L, o = .returned v ∧ Q_rm2_2 Z a1 p2 p3 p4 h0 n0 v U'.heap L ∧ FrameEnd s o U' L ({ frames := 1, cells := 0, slots := 0, locals := 12 } : Room).cells ({ frames := 1, cells := 0, slots := 0, locals := 12 } : Room).slots)
  rw [ef_rm2_2]
  show Go p e below (s₁.setTop (mkF m 0 #[.val (.ref a1), .val (.int p2), .val (.int p3), .val (.int p4)] [])) _
  refine Go.st (fun _ k_ => XS.aloadN X0.here hx rfl (hb hby d2_0) rfl rfl k_) ?_
  show Go p e below (s₁.setTop (mkF m 1 #[.val (.ref a1), .val (.int p2), .val (.int p3), .val (.int p4)] [(.ref a1)])) _
  obtain ⟨cq1, kq1, q1a, q1b, q1c⟩ := isOf hZ e0 E_a1
  obtain ⟨_, _, ⟨T1, L1, k1_, n1_⟩, -, X1, ⟨Lc1, hQ1, l1_, y1_, z1_⟩, st1⟩ := X0.virtualBackUp hx (owner := "java/lang/Enum") (x := (⟨"com/example/patuxent/patuxent/PasswordComplexity", "ordinal", "()I"⟩ : MethodName)) (y := (⟨"java/lang/Enum", "ordinal", "()I"⟩ : MethodName)) hown (mvT hZ (hw _ (List.mem_of_getElem? (i := 12) rfl))) (mvT hZ (hw _ (List.mem_of_getElem? (i := 13) rfl))) (mvT hZ (hw _ (List.mem_of_getElem? (i := 14) rfl))) (by decide) (mvT hZ (hw _ (List.mem_of_getElem? (i := 16) rfl))) (mvT hZ (hw _ (List.mem_of_getElem? (i := 15) rfl))) (backOf (W := 0) (rm3 l Z a0 hw [] a1 (2 : Int32) h0 n0 Z0 F_od) hZ (hw _ (List.mem_of_getElem? (i := 18) rfl)) (hw _ (List.mem_of_getElem? (i := 17) rfl)) (by decide) (by decide)) q1a q1c (g := (mkF m 1 #[.val (.ref a1), .val (.int p2), .val (.int p3), .val (.int p4)] [(.ref a1)])) rfl (by rw [hml]; rfl) (Steps.refl _) (argsL := []) (rest := []) (lenOf pd_0 rfl) rfl (by show 2 * 0 + _ ≤ _; exact Nat.le_of_eq rfl) (hb hby d2_1) (fun _ _ => ⟨rfl, e0, (by decide : 0 + 0 ≤ _), (by decide : 0 + 0 ≤ _)⟩)
  dsimp only [Pt.U, Pt.locs, Pt.cells, Pt.slots] at X1 l1_ y1_ z1_ st1 hQ1
  subst l1_ y1_ z1_
  obtain ⟨rfl, N1q, e1⟩ := hQ1
  have N1 := Fr.app N0 N1q
  refine Go.tr st1 ?_
  show Go p e below (T1.setTop (mkF m 4 #[.val (.ref a1), .val (.int p2), .val (.int p3), .val (.int p4)] [(.int (2 : Int32))])) _
  refine Go.st (fun _ k_ => XS.tswIn X1.here hx rfl (pc0 := 4) (pc' := 54) rfl (hb hby d2_4) rfl (by decide) (o := 50) rfl (by decide) (by decide) k_) ?_
  show Go p e below (T1.setTop (mkF m 54 #[.val (.ref a1), .val (.int p2), .val (.int p3), .val (.int p4)] [])) _
  refine Go.st (fun _ k_ => XS.iloadN X1.here hx rfl (hb hby d2_54) rfl k_) ?_
  show Go p e below (T1.setTop (mkF m 55 #[.val (.ref a1), .val (.int p2), .val (.int p3), .val (.int p4)] [(.int p2)])) _
  by_cases hc55 : p2 = (0 : Int32)
  · refine Go.st (fun _ k_ => XS.ifYes X1.here hx rfl (pc0 := 55) (pc' := 66) rfl (hb hby d2_55) rfl ((if0 _ _).trans (teq hc55).1) (by decide) (by decide) k_) ?_
    show Go p e below (T1.setTop (mkF m 66 #[.val (.ref a1), .val (.int p2), .val (.int p3), .val (.int p4)] [])) _
    refine Go.st (fun _ k_ => XS.iconst X1.here hx rfl (hb hby d2_66) k_) ?_
    show Go p e below (T1.setTop (mkF m 67 #[.val (.ref a1), .val (.int p2), .val (.int p3), .val (.int p4)] [(.int (0 : Int32))])) _
    refine Go.st (fun _ k_ => XS.goto X1.here hx rfl (pc0 := 67) (pc' := 87) rfl (hb hby d2_67) (by decide) (by decide) k_) ?_
    show Go p e below (T1.setTop (mkF m 87 #[.val (.ref a1), .val (.int p2), .val (.int p3), .val (.int p4)] [(.int (0 : Int32))])) _
    refine Go.fin X1 (v := some (.int (0 : Int32))) (fun h_ => by rw [Bd.returns] at h_; cases h_) Bd.notSynchronized (fun _ hr => retN X1 hx (t := .boolean) Bd.returns (by simp) (hb hby d2_87) hr) (fun U' hU hF => ⟨_, _, rfl, ?_, hF.1, hF.2.1, hF.2.2.mono (by decide) (by decide)⟩)
    rw [hU, e1]
    exact ⟨(congrArg (fun z_ : Int32 => some (Value.int z_)) (show (0 : Int32) = (own_met2 p2 p3) from by simp [own_met2, own_met3, hc55])), N1, rfl⟩
  · refine Go.st (fun _ k_ => XS.ifNo X1.here hx rfl (hb hby d2_55) rfl ((if0 _ _).trans (feq hc55).1) k_) ?_
    show Go p e below (T1.setTop (mkF m 58 #[.val (.ref a1), .val (.int p2), .val (.int p3), .val (.int p4)] [])) _
    refine Go.st (fun _ k_ => XS.iloadN X1.here hx rfl (hb hby d2_58) rfl k_) ?_
    show Go p e below (T1.setTop (mkF m 59 #[.val (.ref a1), .val (.int p2), .val (.int p3), .val (.int p4)] [(.int p3)])) _
    by_cases hc59 : p3 = (0 : Int32)
    · refine Go.st (fun _ k_ => XS.ifYes X1.here hx rfl (pc0 := 59) (pc' := 66) rfl (hb hby d2_59) rfl ((if0 _ _).trans (teq hc59).1) (by decide) (by decide) k_) ?_
      show Go p e below (T1.setTop (mkF m 66 #[.val (.ref a1), .val (.int p2), .val (.int p3), .val (.int p4)] [])) _
      refine Go.st (fun _ k_ => XS.iconst X1.here hx rfl (hb hby d2_66) k_) ?_
      show Go p e below (T1.setTop (mkF m 67 #[.val (.ref a1), .val (.int p2), .val (.int p3), .val (.int p4)] [(.int (0 : Int32))])) _
      refine Go.st (fun _ k_ => XS.goto X1.here hx rfl (pc0 := 67) (pc' := 87) rfl (hb hby d2_67) (by decide) (by decide) k_) ?_
      show Go p e below (T1.setTop (mkF m 87 #[.val (.ref a1), .val (.int p2), .val (.int p3), .val (.int p4)] [(.int (0 : Int32))])) _
      refine Go.fin X1 (v := some (.int (0 : Int32))) (fun h_ => by rw [Bd.returns] at h_; cases h_) Bd.notSynchronized (fun _ hr => retN X1 hx (t := .boolean) Bd.returns (by simp) (hb hby d2_87) hr) (fun U' hU hF => ⟨_, _, rfl, ?_, hF.1, hF.2.1, hF.2.2.mono (by decide) (by decide)⟩)
      rw [hU, e1]
      exact ⟨(congrArg (fun z_ : Int32 => some (Value.int z_)) (show (0 : Int32) = (own_met2 p2 p3) from by simp [own_met2, own_met3, hc55, hc59])), N1, rfl⟩
    · refine Go.st (fun _ k_ => XS.ifNo X1.here hx rfl (hb hby d2_59) rfl ((if0 _ _).trans (feq hc59).1) k_) ?_
      show Go p e below (T1.setTop (mkF m 62 #[.val (.ref a1), .val (.int p2), .val (.int p3), .val (.int p4)] [])) _
      refine Go.st (fun _ k_ => XS.iconst X1.here hx rfl (hb hby d2_62) k_) ?_
      show Go p e below (T1.setTop (mkF m 63 #[.val (.ref a1), .val (.int p2), .val (.int p3), .val (.int p4)] [(.int (1 : Int32))])) _
      refine Go.st (fun _ k_ => XS.goto X1.here hx rfl (pc0 := 63) (pc' := 87) rfl (hb hby d2_63) (by decide) (by decide) k_) ?_
      show Go p e below (T1.setTop (mkF m 87 #[.val (.ref a1), .val (.int p2), .val (.int p3), .val (.int p4)] [(.int (1 : Int32))])) _
      refine Go.fin X1 (v := some (.int (1 : Int32))) (fun h_ => by rw [Bd.returns] at h_; cases h_) Bd.notSynchronized (fun _ hr => retN X1 hx (t := .boolean) Bd.returns (by simp) (hb hby d2_87) hr) (fun U' hU hF => ⟨_, _, rfl, ?_, hF.1, hF.2.1, hF.2.2.mono (by decide) (by decide)⟩)
      rw [hU, e1]
      exact ⟨(congrArg (fun z_ : Int32 => some (Value.int z_)) (show (1 : Int32) = (own_met2 p2 p3) from by simp [own_met2, own_met3, hc55, hc59])), N1, rfl⟩
theorem d2_70 : decode prog_8_method_8_code 70 = .ok (.iload_n 1, 1) := by decide +kernel
theorem d2_71 : decode prog_8_method_8_code 71 = .ok (.ifCond .eq 15, 3) := by decide +kernel
theorem d2_74 : decode prog_8_method_8_code 74 = .ok (.iload_n 2, 1) := by decide +kernel
theorem d2_75 : decode prog_8_method_8_code 75 = .ok (.ifCond .eq 11, 3) := by decide +kernel
theorem d2_78 : decode prog_8_method_8_code 78 = .ok (.iload_n 3, 1) := by decide +kernel
theorem d2_79 : decode prog_8_method_8_code 79 = .ok (.ifCond .eq 7, 3) := by decide +kernel
theorem d2_82 : decode prog_8_method_8_code 82 = .ok (.iconst 1, 1) := by decide +kernel
theorem d2_83 : decode prog_8_method_8_code 83 = .ok (.goto 4, 3) := by decide +kernel
theorem d2_86 : decode prog_8_method_8_code 86 = .ok (.iconst 0, 1) := by decide +kernel
theorem ef_rm2_3 (m : MethodId) (a1 : Addr) (p2 : Int32) (p3 : Int32) (p4 : Int32) : entryFrame m #[(.ref a1), (.int p2), (.int p3), (.int p4)] 4 = mkF m 0 #[.val (.ref a1), .val (.int p2), .val (.int p3), .val (.int p4)] [] := by first | (simp [entryFrame, mkF, argsToLocals, Value.category]; done) | rfl
def Q_rm2_3 (Z : State) (a1 : Addr) (p2 : Int32) (p3 : Int32) (p4 : Int32) (h0 : Heap) (n0 : Nat) (v : Option Value) (h : Heap) (L : List Loc) : Prop := v = some (.int (own_met3 p2 p3 p4)) ∧ Fr n0 L ∧ h = h0
set_option maxRecDepth 65536 in
set_option maxHeartbeats 40000000 in
theorem rm2_3 (l : Launch) (Z : State) (a0 : Array Value) (hw : ∀ d ∈ tables_1, d.before a0 Z = true) (ws : List Jvm.Cond) (a1 : Addr) (p2 : Int32) (p3 : Int32) (p4 : Int32) (h0 : Heap) (n0 : Nat) (Z0 : n0 ≤ h0.size) (E_a1 : Exa Z h0 a1 "com/example/patuxent/patuxent/PasswordComplexity") (F_od : Fld Z h0 a1 "java/lang/Enum" "ordinal" "I" (.int (3 : Int32))) :
    MetFree l (⟨"com/example/patuxent/patuxent/PasswordComplexity", "isMetBy", "(ZZZ)Z"⟩ : MethodName) (head1 (Jvm.Cond.code (⟨"com/example/patuxent/patuxent/PasswordComplexity", "isMetBy", "(ZZZ)Z"⟩ : MethodName) prog_8_method_8_code 4 (some .boolean) :: ws) ({ frames := 1, cells := 0, slots := 0, locals := 12 } : Room)) (fun a U => a = #[(.ref a1), (.int p2), (.int p3), (.int p4)] ∧ Z.Warmed39 U.vm ∧ U.heap = h0) (fun _ _ _ _ _ => True) (fun _ U o U' => ∃ v L, o = .returned v ∧ Q_rm2_3 Z a1 p2 p3 p4 h0 n0 v U'.heap L ∧ FrameEnd U o U' L ({ frames := 1, cells := 0, slots := 0, locals := 12 } : Room).cells ({ frames := 1, cells := 0, slots := 0, locals := 12 } : Room).slots) := by
  refine MetFree.of_bodySF (plainFor_of_name pn_27) hisR ?_
  intro p e s m args below meth c s₁ Bd hml0 hP hK
  obtain ⟨rfl, hZ, hh⟩ := hP
  have hx := Bd.exec
  have hby := Bd.bytes
  have hml : c.maxLocals = 4 := hml0
  have hown : s.vm.findClass "com/example/patuxent/patuxent/PasswordComplexity" = some m.cls := findClass_of_methodNamed Bd.named
  have hnm := (name_of_methodNamed Bd.named Bd.method).1
  have X0 : Stand p l e ({ frames := 1, cells := 0, slots := 0, locals := 12 } : Room) s m #[(.ref a1), (.int p2), (.int p3), (.int p4)] below meth c s₁ [] 0 0 := Stand.of_body Bd
  have e0 : s₁.heap = h0 := by rw [← hh, Bd.state]; rfl
  have N0 := Fr.nil n0
  show Go p e below (s₁.setTop (entryFrame m #[(.ref a1), (.int p2), (.int p3), (.int p4)] 4)) (fun o U' => ∃ v L, o = .returned v ∧ Q_rm2_3 Z a1 p2 p3 p4 h0 n0 v U'.heap L ∧ FrameEnd s o U' L ({ frames := 1, cells := 0, slots := 0, locals := 12 } : Room).cells ({ frames := 1, cells := 0, slots := 0, locals := 12 } : Room).slots)
  rw [ef_rm2_3]
  show Go p e below (s₁.setTop (mkF m 0 #[.val (.ref a1), .val (.int p2), .val (.int p3), .val (.int p4)] [])) _
  refine Go.st (fun _ k_ => XS.aloadN X0.here hx rfl (hb hby d2_0) rfl rfl k_) ?_
  show Go p e below (s₁.setTop (mkF m 1 #[.val (.ref a1), .val (.int p2), .val (.int p3), .val (.int p4)] [(.ref a1)])) _
  obtain ⟨cq1, kq1, q1a, q1b, q1c⟩ := isOf hZ e0 E_a1
  obtain ⟨_, _, ⟨T1, L1, k1_, n1_⟩, -, X1, ⟨Lc1, hQ1, l1_, y1_, z1_⟩, st1⟩ := X0.virtualBackUp hx (owner := "java/lang/Enum") (x := (⟨"com/example/patuxent/patuxent/PasswordComplexity", "ordinal", "()I"⟩ : MethodName)) (y := (⟨"java/lang/Enum", "ordinal", "()I"⟩ : MethodName)) hown (mvT hZ (hw _ (List.mem_of_getElem? (i := 12) rfl))) (mvT hZ (hw _ (List.mem_of_getElem? (i := 13) rfl))) (mvT hZ (hw _ (List.mem_of_getElem? (i := 14) rfl))) (by decide) (mvT hZ (hw _ (List.mem_of_getElem? (i := 16) rfl))) (mvT hZ (hw _ (List.mem_of_getElem? (i := 15) rfl))) (backOf (W := 0) (rm3 l Z a0 hw [] a1 (3 : Int32) h0 n0 Z0 F_od) hZ (hw _ (List.mem_of_getElem? (i := 18) rfl)) (hw _ (List.mem_of_getElem? (i := 17) rfl)) (by decide) (by decide)) q1a q1c (g := (mkF m 1 #[.val (.ref a1), .val (.int p2), .val (.int p3), .val (.int p4)] [(.ref a1)])) rfl (by rw [hml]; rfl) (Steps.refl _) (argsL := []) (rest := []) (lenOf pd_0 rfl) rfl (by show 2 * 0 + _ ≤ _; exact Nat.le_of_eq rfl) (hb hby d2_1) (fun _ _ => ⟨rfl, e0, (by decide : 0 + 0 ≤ _), (by decide : 0 + 0 ≤ _)⟩)
  dsimp only [Pt.U, Pt.locs, Pt.cells, Pt.slots] at X1 l1_ y1_ z1_ st1 hQ1
  subst l1_ y1_ z1_
  obtain ⟨rfl, N1q, e1⟩ := hQ1
  have N1 := Fr.app N0 N1q
  refine Go.tr st1 ?_
  show Go p e below (T1.setTop (mkF m 4 #[.val (.ref a1), .val (.int p2), .val (.int p3), .val (.int p4)] [(.int (3 : Int32))])) _
  refine Go.st (fun _ k_ => XS.tswIn X1.here hx rfl (pc0 := 4) (pc' := 70) rfl (hb hby d2_4) rfl (by decide) (o := 66) rfl (by decide) (by decide) k_) ?_
  show Go p e below (T1.setTop (mkF m 70 #[.val (.ref a1), .val (.int p2), .val (.int p3), .val (.int p4)] [])) _
  refine Go.st (fun _ k_ => XS.iloadN X1.here hx rfl (hb hby d2_70) rfl k_) ?_
  show Go p e below (T1.setTop (mkF m 71 #[.val (.ref a1), .val (.int p2), .val (.int p3), .val (.int p4)] [(.int p2)])) _
  by_cases hc71 : p2 = (0 : Int32)
  · refine Go.st (fun _ k_ => XS.ifYes X1.here hx rfl (pc0 := 71) (pc' := 86) rfl (hb hby d2_71) rfl ((if0 _ _).trans (teq hc71).1) (by decide) (by decide) k_) ?_
    show Go p e below (T1.setTop (mkF m 86 #[.val (.ref a1), .val (.int p2), .val (.int p3), .val (.int p4)] [])) _
    refine Go.st (fun _ k_ => XS.iconst X1.here hx rfl (hb hby d2_86) k_) ?_
    show Go p e below (T1.setTop (mkF m 87 #[.val (.ref a1), .val (.int p2), .val (.int p3), .val (.int p4)] [(.int (0 : Int32))])) _
    refine Go.fin X1 (v := some (.int (0 : Int32))) (fun h_ => by rw [Bd.returns] at h_; cases h_) Bd.notSynchronized (fun _ hr => retN X1 hx (t := .boolean) Bd.returns (by simp) (hb hby d2_87) hr) (fun U' hU hF => ⟨_, _, rfl, ?_, hF.1, hF.2.1, hF.2.2.mono (by decide) (by decide)⟩)
    rw [hU, e1]
    exact ⟨(congrArg (fun z_ : Int32 => some (Value.int z_)) (show (0 : Int32) = (own_met3 p2 p3 p4) from by simp [own_met2, own_met3, hc71])), N1, rfl⟩
  · refine Go.st (fun _ k_ => XS.ifNo X1.here hx rfl (hb hby d2_71) rfl ((if0 _ _).trans (feq hc71).1) k_) ?_
    show Go p e below (T1.setTop (mkF m 74 #[.val (.ref a1), .val (.int p2), .val (.int p3), .val (.int p4)] [])) _
    refine Go.st (fun _ k_ => XS.iloadN X1.here hx rfl (hb hby d2_74) rfl k_) ?_
    show Go p e below (T1.setTop (mkF m 75 #[.val (.ref a1), .val (.int p2), .val (.int p3), .val (.int p4)] [(.int p3)])) _
    by_cases hc75 : p3 = (0 : Int32)
    · refine Go.st (fun _ k_ => XS.ifYes X1.here hx rfl (pc0 := 75) (pc' := 86) rfl (hb hby d2_75) rfl ((if0 _ _).trans (teq hc75).1) (by decide) (by decide) k_) ?_
      show Go p e below (T1.setTop (mkF m 86 #[.val (.ref a1), .val (.int p2), .val (.int p3), .val (.int p4)] [])) _
      refine Go.st (fun _ k_ => XS.iconst X1.here hx rfl (hb hby d2_86) k_) ?_
      show Go p e below (T1.setTop (mkF m 87 #[.val (.ref a1), .val (.int p2), .val (.int p3), .val (.int p4)] [(.int (0 : Int32))])) _
      refine Go.fin X1 (v := some (.int (0 : Int32))) (fun h_ => by rw [Bd.returns] at h_; cases h_) Bd.notSynchronized (fun _ hr => retN X1 hx (t := .boolean) Bd.returns (by simp) (hb hby d2_87) hr) (fun U' hU hF => ⟨_, _, rfl, ?_, hF.1, hF.2.1, hF.2.2.mono (by decide) (by decide)⟩)
      rw [hU, e1]
      exact ⟨(congrArg (fun z_ : Int32 => some (Value.int z_)) (show (0 : Int32) = (own_met3 p2 p3 p4) from by simp [own_met2, own_met3, hc71, hc75])), N1, rfl⟩
    · refine Go.st (fun _ k_ => XS.ifNo X1.here hx rfl (hb hby d2_75) rfl ((if0 _ _).trans (feq hc75).1) k_) ?_
      show Go p e below (T1.setTop (mkF m 78 #[.val (.ref a1), .val (.int p2), .val (.int p3), .val (.int p4)] [])) _
      refine Go.st (fun _ k_ => XS.iloadN X1.here hx rfl (hb hby d2_78) rfl k_) ?_
      show Go p e below (T1.setTop (mkF m 79 #[.val (.ref a1), .val (.int p2), .val (.int p3), .val (.int p4)] [(.int p4)])) _
      by_cases hc79 : p4 = (0 : Int32)
      · refine Go.st (fun _ k_ => XS.ifYes X1.here hx rfl (pc0 := 79) (pc' := 86) rfl (hb hby d2_79) rfl ((if0 _ _).trans (teq hc79).1) (by decide) (by decide) k_) ?_
        show Go p e below (T1.setTop (mkF m 86 #[.val (.ref a1), .val (.int p2), .val (.int p3), .val (.int p4)] [])) _
        refine Go.st (fun _ k_ => XS.iconst X1.here hx rfl (hb hby d2_86) k_) ?_
        show Go p e below (T1.setTop (mkF m 87 #[.val (.ref a1), .val (.int p2), .val (.int p3), .val (.int p4)] [(.int (0 : Int32))])) _
        refine Go.fin X1 (v := some (.int (0 : Int32))) (fun h_ => by rw [Bd.returns] at h_; cases h_) Bd.notSynchronized (fun _ hr => retN X1 hx (t := .boolean) Bd.returns (by simp) (hb hby d2_87) hr) (fun U' hU hF => ⟨_, _, rfl, ?_, hF.1, hF.2.1, hF.2.2.mono (by decide) (by decide)⟩)
        rw [hU, e1]
        exact ⟨(congrArg (fun z_ : Int32 => some (Value.int z_)) (show (0 : Int32) = (own_met3 p2 p3 p4) from by simp [own_met2, own_met3, hc71, hc75, hc79])), N1, rfl⟩
      · refine Go.st (fun _ k_ => XS.ifNo X1.here hx rfl (hb hby d2_79) rfl ((if0 _ _).trans (feq hc79).1) k_) ?_
        show Go p e below (T1.setTop (mkF m 82 #[.val (.ref a1), .val (.int p2), .val (.int p3), .val (.int p4)] [])) _
        refine Go.st (fun _ k_ => XS.iconst X1.here hx rfl (hb hby d2_82) k_) ?_
        show Go p e below (T1.setTop (mkF m 83 #[.val (.ref a1), .val (.int p2), .val (.int p3), .val (.int p4)] [(.int (1 : Int32))])) _
        refine Go.st (fun _ k_ => XS.goto X1.here hx rfl (pc0 := 83) (pc' := 87) rfl (hb hby d2_83) (by decide) (by decide) k_) ?_
        show Go p e below (T1.setTop (mkF m 87 #[.val (.ref a1), .val (.int p2), .val (.int p3), .val (.int p4)] [(.int (1 : Int32))])) _
        refine Go.fin X1 (v := some (.int (1 : Int32))) (fun h_ => by rw [Bd.returns] at h_; cases h_) Bd.notSynchronized (fun _ hr => retN X1 hx (t := .boolean) Bd.returns (by simp) (hb hby d2_87) hr) (fun U' hU hF => ⟨_, _, rfl, ?_, hF.1, hF.2.1, hF.2.2.mono (by decide) (by decide)⟩)
        rw [hU, e1]
        exact ⟨(congrArg (fun z_ : Int32 => some (Value.int z_)) (show (1 : Int32) = (own_met3 p2 p3 p4) from by simp [own_met2, own_met3, hc71, hc75, hc79])), N1, rfl⟩
theorem pd_1 : parseMethodDescriptor "(I)Lcom/example/patuxent/patuxent/PasswordComplexity;" = some ⟨[.int], some (.object "com/example/patuxent/patuxent/PasswordComplexity")⟩ := by decide +kernel
theorem pd_2 : parseMethodDescriptor "(ZZZ)Z" = some ⟨[.boolean, .boolean, .boolean], some .boolean⟩ := by decide +kernel
theorem ef_rm0 (m : MethodId) (p1 : Int32) (p2 : Int32) : entryFrame m #[(.int p1), (.int p2)] maxLocals = mkF m 0 #[.val (.int p1), .val (.int p2), .unset, .unset, .unset, .unset, .unset, .unset] [] := by first | (simp [entryFrame, mkF, argsToLocals, Value.category, maxLocals]; done) | rfl
def Q_rm0 (Z : State) (p1 : Int32) (p2 : Int32) (w_ANY : Addr) (w_LETTER : Addr) (w_LETTER_DIGIT : Addr) (w_LETTER_DIGIT_SPECIAL : Addr) (h0 : Heap) (n0 : Nat) (v : Option Value) (h : Heap) (L : List Loc) : Prop := v = some (.int (1 : Int32)) ∧ Fr n0 L
set_option maxRecDepth 65536 in
set_option maxHeartbeats 40000000 in
theorem rm0 (l : Launch) (Z : State) (a0 : Array Value) (hw : ∀ d ∈ tables_1, d.before a0 Z = true) (ws : List Jvm.Cond) (p1 : Int32) (p2 : Int32) (w_ANY : Addr) (w_LETTER : Addr) (w_LETTER_DIGIT : Addr) (w_LETTER_DIGIT_SPECIAL : Addr) (h0 : Heap) (n0 : Nat) (Z0 : n0 ≤ h0.size) (S_ANY : Sta Z h0 "com/example/patuxent/patuxent/PasswordComplexity" "ANY" "Lcom/example/patuxent/patuxent/PasswordComplexity;" (.ref w_ANY)) (S_LETTER : Sta Z h0 "com/example/patuxent/patuxent/PasswordComplexity" "LETTER" "Lcom/example/patuxent/patuxent/PasswordComplexity;" (.ref w_LETTER)) (S_LETTER_DIGIT : Sta Z h0 "com/example/patuxent/patuxent/PasswordComplexity" "LETTER_DIGIT" "Lcom/example/patuxent/patuxent/PasswordComplexity;" (.ref w_LETTER_DIGIT)) (S_LETTER_DIGIT_SPECIAL : Sta Z h0 "com/example/patuxent/patuxent/PasswordComplexity" "LETTER_DIGIT_SPECIAL" "Lcom/example/patuxent/patuxent/PasswordComplexity;" (.ref w_LETTER_DIGIT_SPECIAL)) (E_w_ANY : Exa Z h0 w_ANY "com/example/patuxent/patuxent/PasswordComplexity") (E_w_LETTER : Exa Z h0 w_LETTER "com/example/patuxent/patuxent/PasswordComplexity") (E_w_LETTER_DIGIT : Exa Z h0 w_LETTER_DIGIT "com/example/patuxent/patuxent/PasswordComplexity") (E_w_LETTER_DIGIT_SPECIAL : Exa Z h0 w_LETTER_DIGIT_SPECIAL "com/example/patuxent/patuxent/PasswordComplexity") (F_ANY : Fld Z h0 w_ANY "java/lang/Enum" "ordinal" "I" (.int (0 : Int32))) (F_LETTER : Fld Z h0 w_LETTER "java/lang/Enum" "ordinal" "I" (.int (1 : Int32))) (F_LETTER_DIGIT : Fld Z h0 w_LETTER_DIGIT "java/lang/Enum" "ordinal" "I" (.int (2 : Int32))) (F_LETTER_DIGIT_SPECIAL : Fld Z h0 w_LETTER_DIGIT_SPECIAL "java/lang/Enum" "ordinal" "I" (.int (3 : Int32))) :
    MetFree l x (head1 (Jvm.Cond.code x code maxLocals ret :: ws) room_1) (fun a U => a = #[(.int p1), (.int p2)] ∧ Z.Warmed39 U.vm ∧ U.heap = h0) (fun _ _ _ _ _ => True) (fun _ U o U' => ∃ v L, o = .returned v ∧ Q_rm0 Z p1 p2 w_ANY w_LETTER w_LETTER_DIGIT w_LETTER_DIGIT_SPECIAL h0 n0 v U'.heap L ∧ FrameEnd U o U' L room_1.cells room_1.slots) := by
  refine MetFree.of_bodySF (plainFor_of_name pn_4) hisR ?_
  intro p e s m args below meth c s₁ Bd hml0 hP hK
  obtain ⟨rfl, hZ, hh⟩ := hP
  have hx := Bd.exec
  have hby := Bd.bytes
  have hml : c.maxLocals = 8 := hml0
  have hown : s.vm.findClass "com/example/patuxent/patuxent/PasswordComplexityIsMetByPinLaw" = some m.cls := findClass_of_methodNamed Bd.named
  have hnm := (name_of_methodNamed Bd.named Bd.method).1
  have X0 : Stand p l e room_1 s m #[(.int p1), (.int p2)] below meth c s₁ [] 0 0 := Stand.of_body Bd
  have e0 : s₁.heap = h0 := by rw [← hh, Bd.state]; rfl
  have N0 := Fr.nil n0
  show Go p e below (s₁.setTop (entryFrame m #[(.int p1), (.int p2)] maxLocals)) (fun o U' => ∃ v L, o = .returned v ∧ Q_rm0 Z p1 p2 w_ANY w_LETTER w_LETTER_DIGIT w_LETTER_DIGIT_SPECIAL h0 n0 v U'.heap L ∧ FrameEnd s o U' L room_1.cells room_1.slots)
  rw [ef_rm0]
  show Go p e below (s₁.setTop (mkF m 0 #[.val (.int p1), .val (.int p2), .unset, .unset, .unset, .unset, .unset, .unset] [])) _
  refine Go.st (fun _ k_ => XS.iloadN X0.here hx rfl (hb hby at_0) rfl k_) ?_
  show Go p e below (s₁.setTop (mkF m 1 #[.val (.int p1), .val (.int p2), .unset, .unset, .unset, .unset, .unset, .unset] [(.int p1)])) _
  refine Go.st (fun _ k_ => XS.iconst X0.here hx rfl (hb hby at_1) k_) ?_
  show Go p e below (s₁.setTop (mkF m 2 #[.val (.int p1), .val (.int p2), .unset, .unset, .unset, .unset, .unset, .unset] [(.int (3 : Int32)), (.int p1)])) _
  refine Go.st (fun _ k_ => XS.iand X0.here hx rfl (hb hby at_2) rfl k_) ?_
  show Go p e below (s₁.setTop (mkF m 3 #[.val (.int p1), .val (.int p2), .unset, .unset, .unset, .unset, .unset, .unset] [(.int (p1 &&& (3 : Int32)))])) _
  obtain ⟨kk, ekk⟩ : ∃ z_ : Int32, z_ = (p1 &&& (3 : Int32)) := ⟨_, rfl⟩
  rw [← ekk]
  show Go p e below (s₁.setTop (mkF m 3 #[.val (.int p1), .val (.int p2), .unset, .unset, .unset, .unset, .unset, .unset] [(.int kk)])) _
  refine Go.st (fun _ k_ => XS.istoreN X0.here hx rfl (hb hby at_3) rfl (l' := #[.val (.int p1), .val (.int p2), .val (.int kk), .unset, .unset, .unset, .unset, .unset]) rfl k_) ?_
  show Go p e below (s₁.setTop (mkF m 4 #[.val (.int p1), .val (.int p2), .val (.int kk), .unset, .unset, .unset, .unset, .unset] [])) _
  rcases own_k ekk with hk | hk | hk | hk
  · rw [hk]
    show Go p e below (s₁.setTop (mkF m 4 #[.val (.int p1), .val (.int p2), .val (.int (0 : Int32)), .unset, .unset, .unset, .unset, .unset] [])) _
    refine Go.st (fun _ k_ => XS.iloadN X0.here hx rfl (hb hby at_4) rfl k_) ?_
    show Go p e below (s₁.setTop (mkF m 5 #[.val (.int p1), .val (.int p2), .val (.int (0 : Int32)), .unset, .unset, .unset, .unset, .unset] [(.int (0 : Int32))])) _
    obtain ⟨_, _, ⟨T1, L1, k1_, n1_⟩, -, X1, ⟨Lc1, hQ1, l1_, y1_, z1_⟩, st1⟩ := Jvm.LawKit.callS X0 hx (y := (⟨"com/example/patuxent/patuxent/PasswordComplexityIsMetByPinLaw", "levelOf", "(I)Lcom/example/patuxent/patuxent/PasswordComplexity;"⟩ : MethodName)) hown (mvT hZ (hw _ (List.mem_of_getElem? (i := 0) rfl))) (mvT hZ (hw _ (List.mem_of_getElem? (i := 1) rfl))) (mvT hZ (hw _ (List.mem_of_getElem? (i := 2) rfl))) (mvT hZ (hw _ (List.mem_of_getElem? (i := 3) rfl))) (by decide) (backOf (W := 0) (rm1_0 l Z a0 hw [] w_ANY h0 n0 Z0 S_ANY) hZ (hw _ (List.mem_of_getElem? (i := 3) rfl)) (hw _ (List.mem_of_getElem? (i := 2) rfl)) (by decide) (by decide)) (g := (mkF m 5 #[.val (.int p1), .val (.int p2), .val (.int (0 : Int32)), .unset, .unset, .unset, .unset, .unset] [(.int (0 : Int32))])) rfl (by rw [hml]; rfl) (argsL := [(.int (0 : Int32))]) (rest := []) (lenOf pd_1 rfl) rfl (by show 2 * 0 + _ ≤ _; exact Nat.le_of_eq rfl) (hb hby at_5) (fun _ _ => ⟨rfl, e0, (by decide : 0 + 0 ≤ _), (by decide : 0 + 0 ≤ _)⟩)
    dsimp only [Pt.U, Pt.locs, Pt.cells, Pt.slots] at X1 l1_ y1_ z1_ st1 hQ1
    subst l1_ y1_ z1_
    obtain ⟨rfl, N1q, e1⟩ := hQ1
    have N1 := Fr.app N0 N1q
    refine Go.st st1 ?_
    show Go p e below (T1.setTop (mkF m 8 #[.val (.int p1), .val (.int p2), .val (.int (0 : Int32)), .unset, .unset, .unset, .unset, .unset] [(.ref w_ANY)])) _
    refine Go.st (fun _ k_ => XS.astoreN X1.here hx rfl (hb hby at_8) rfl rfl (l' := #[.val (.int p1), .val (.int p2), .val (.int (0 : Int32)), .val (.ref w_ANY), .unset, .unset, .unset, .unset]) rfl k_) ?_
    show Go p e below (T1.setTop (mkF m 9 #[.val (.int p1), .val (.int p2), .val (.int (0 : Int32)), .val (.ref w_ANY), .unset, .unset, .unset, .unset] [])) _
    refine Go.st (fun _ k_ => XS.iloadN X1.here hx rfl (hb hby at_9) rfl k_) ?_
    show Go p e below (T1.setTop (mkF m 10 #[.val (.int p1), .val (.int p2), .val (.int (0 : Int32)), .val (.ref w_ANY), .unset, .unset, .unset, .unset] [(.int p2)])) _
    refine Go.st (fun _ k_ => XS.iconst X1.here hx rfl (hb hby at_10) k_) ?_
    show Go p e below (T1.setTop (mkF m 11 #[.val (.int p1), .val (.int p2), .val (.int (0 : Int32)), .val (.ref w_ANY), .unset, .unset, .unset, .unset] [(.int (1 : Int32)), (.int p2)])) _
    refine Go.st (fun _ k_ => XS.iand X1.here hx rfl (hb hby at_11) rfl k_) ?_
    show Go p e below (T1.setTop (mkF m 12 #[.val (.int p1), .val (.int p2), .val (.int (0 : Int32)), .val (.ref w_ANY), .unset, .unset, .unset, .unset] [(.int (p2 &&& (1 : Int32)))])) _
    by_cases hc12 : (p2 &&& (1 : Int32)) = (0 : Int32)
    · refine Go.st (fun _ k_ => XS.ifYes X1.here hx rfl (pc0 := 12) (pc' := 19) rfl (hb hby at_12) rfl ((if0 _ _).trans (teq hc12).1) (by decide) (by decide) k_) ?_
      show Go p e below (T1.setTop (mkF m 19 #[.val (.int p1), .val (.int p2), .val (.int (0 : Int32)), .val (.ref w_ANY), .unset, .unset, .unset, .unset] [])) _
      refine Go.st (fun _ k_ => XS.iconst X1.here hx rfl (hb hby at_19) k_) ?_
      show Go p e below (T1.setTop (mkF m 20 #[.val (.int p1), .val (.int p2), .val (.int (0 : Int32)), .val (.ref w_ANY), .unset, .unset, .unset, .unset] [(.int (0 : Int32))])) _
      refine Go.st (fun _ k_ => XS.istore X1.here hx rfl (hb hby at_20) rfl (l' := #[.val (.int p1), .val (.int p2), .val (.int (0 : Int32)), .val (.ref w_ANY), .val (.int (0 : Int32)), .unset, .unset, .unset]) rfl k_) ?_
      show Go p e below (T1.setTop (mkF m 22 #[.val (.int p1), .val (.int p2), .val (.int (0 : Int32)), .val (.ref w_ANY), .val (.int (0 : Int32)), .unset, .unset, .unset] [])) _
      refine Go.st (fun _ k_ => XS.iloadN X1.here hx rfl (hb hby at_22) rfl k_) ?_
      show Go p e below (T1.setTop (mkF m 23 #[.val (.int p1), .val (.int p2), .val (.int (0 : Int32)), .val (.ref w_ANY), .val (.int (0 : Int32)), .unset, .unset, .unset] [(.int p2)])) _
      refine Go.st (fun _ k_ => XS.iconst X1.here hx rfl (hb hby at_23) k_) ?_
      show Go p e below (T1.setTop (mkF m 24 #[.val (.int p1), .val (.int p2), .val (.int (0 : Int32)), .val (.ref w_ANY), .val (.int (0 : Int32)), .unset, .unset, .unset] [(.int (2 : Int32)), (.int p2)])) _
      refine Go.st (fun _ k_ => XS.iand X1.here hx rfl (hb hby at_24) rfl k_) ?_
      show Go p e below (T1.setTop (mkF m 25 #[.val (.int p1), .val (.int p2), .val (.int (0 : Int32)), .val (.ref w_ANY), .val (.int (0 : Int32)), .unset, .unset, .unset] [(.int (p2 &&& (2 : Int32)))])) _
      by_cases hc25 : (p2 &&& (2 : Int32)) = (0 : Int32)
      · refine Go.st (fun _ k_ => XS.ifYes X1.here hx rfl (pc0 := 25) (pc' := 32) rfl (hb hby at_25) rfl ((if0 _ _).trans (teq hc25).1) (by decide) (by decide) k_) ?_
        show Go p e below (T1.setTop (mkF m 32 #[.val (.int p1), .val (.int p2), .val (.int (0 : Int32)), .val (.ref w_ANY), .val (.int (0 : Int32)), .unset, .unset, .unset] [])) _
        refine Go.st (fun _ k_ => XS.iconst X1.here hx rfl (hb hby at_32) k_) ?_
        show Go p e below (T1.setTop (mkF m 33 #[.val (.int p1), .val (.int p2), .val (.int (0 : Int32)), .val (.ref w_ANY), .val (.int (0 : Int32)), .unset, .unset, .unset] [(.int (0 : Int32))])) _
        refine Go.st (fun _ k_ => XS.istore X1.here hx rfl (hb hby at_33) rfl (l' := #[.val (.int p1), .val (.int p2), .val (.int (0 : Int32)), .val (.ref w_ANY), .val (.int (0 : Int32)), .val (.int (0 : Int32)), .unset, .unset]) rfl k_) ?_
        show Go p e below (T1.setTop (mkF m 35 #[.val (.int p1), .val (.int p2), .val (.int (0 : Int32)), .val (.ref w_ANY), .val (.int (0 : Int32)), .val (.int (0 : Int32)), .unset, .unset] [])) _
        refine Go.st (fun _ k_ => XS.iloadN X1.here hx rfl (hb hby at_35) rfl k_) ?_
        show Go p e below (T1.setTop (mkF m 36 #[.val (.int p1), .val (.int p2), .val (.int (0 : Int32)), .val (.ref w_ANY), .val (.int (0 : Int32)), .val (.int (0 : Int32)), .unset, .unset] [(.int p2)])) _
        refine Go.st (fun _ k_ => XS.iconst X1.here hx rfl (hb hby at_36) k_) ?_
        show Go p e below (T1.setTop (mkF m 37 #[.val (.int p1), .val (.int p2), .val (.int (0 : Int32)), .val (.ref w_ANY), .val (.int (0 : Int32)), .val (.int (0 : Int32)), .unset, .unset] [(.int (4 : Int32)), (.int p2)])) _
        refine Go.st (fun _ k_ => XS.iand X1.here hx rfl (hb hby at_37) rfl k_) ?_
        show Go p e below (T1.setTop (mkF m 38 #[.val (.int p1), .val (.int p2), .val (.int (0 : Int32)), .val (.ref w_ANY), .val (.int (0 : Int32)), .val (.int (0 : Int32)), .unset, .unset] [(.int (p2 &&& (4 : Int32)))])) _
        by_cases hc38 : (p2 &&& (4 : Int32)) = (0 : Int32)
        · refine Go.st (fun _ k_ => XS.ifYes X1.here hx rfl (pc0 := 38) (pc' := 45) rfl (hb hby at_38) rfl ((if0 _ _).trans (teq hc38).1) (by decide) (by decide) k_) ?_
          show Go p e below (T1.setTop (mkF m 45 #[.val (.int p1), .val (.int p2), .val (.int (0 : Int32)), .val (.ref w_ANY), .val (.int (0 : Int32)), .val (.int (0 : Int32)), .unset, .unset] [])) _
          refine Go.st (fun _ k_ => XS.iconst X1.here hx rfl (hb hby at_45) k_) ?_
          show Go p e below (T1.setTop (mkF m 46 #[.val (.int p1), .val (.int p2), .val (.int (0 : Int32)), .val (.ref w_ANY), .val (.int (0 : Int32)), .val (.int (0 : Int32)), .unset, .unset] [(.int (0 : Int32))])) _
          refine Go.st (fun _ k_ => XS.istore X1.here hx rfl (hb hby at_46) rfl (l' := #[.val (.int p1), .val (.int p2), .val (.int (0 : Int32)), .val (.ref w_ANY), .val (.int (0 : Int32)), .val (.int (0 : Int32)), .val (.int (0 : Int32)), .unset]) rfl k_) ?_
          show Go p e below (T1.setTop (mkF m 48 #[.val (.int p1), .val (.int p2), .val (.int (0 : Int32)), .val (.ref w_ANY), .val (.int (0 : Int32)), .val (.int (0 : Int32)), .val (.int (0 : Int32)), .unset] [])) _
          refine Go.st (fun _ k_ => XS.iloadN X1.here hx rfl (hb hby at_48) rfl k_) ?_
          show Go p e below (T1.setTop (mkF m 49 #[.val (.int p1), .val (.int p2), .val (.int (0 : Int32)), .val (.ref w_ANY), .val (.int (0 : Int32)), .val (.int (0 : Int32)), .val (.int (0 : Int32)), .unset] [(.int (0 : Int32))])) _
          refine Go.st (fun _ k_ => XS.iconst X1.here hx rfl (hb hby at_49) k_) ?_
          show Go p e below (T1.setTop (mkF m 50 #[.val (.int p1), .val (.int p2), .val (.int (0 : Int32)), .val (.ref w_ANY), .val (.int (0 : Int32)), .val (.int (0 : Int32)), .val (.int (0 : Int32)), .unset] [(.int (1 : Int32)), (.int (0 : Int32))])) _
          refine Go.st (fun _ k_ => XS.icmpYes X1.here hx rfl (pc0 := 50) (pc' := 58) rfl (hb hby at_50) rfl (tlt (by decide : (0 : Int32) < (1 : Int32))).1 (by decide) (by decide) k_) ?_
          show Go p e below (T1.setTop (mkF m 58 #[.val (.int p1), .val (.int p2), .val (.int (0 : Int32)), .val (.ref w_ANY), .val (.int (0 : Int32)), .val (.int (0 : Int32)), .val (.int (0 : Int32)), .unset] [])) _
          refine Go.st (fun _ k_ => XS.iloadN X1.here hx rfl (hb hby at_58) rfl k_) ?_
          show Go p e below (T1.setTop (mkF m 59 #[.val (.int p1), .val (.int p2), .val (.int (0 : Int32)), .val (.ref w_ANY), .val (.int (0 : Int32)), .val (.int (0 : Int32)), .val (.int (0 : Int32)), .unset] [(.int (0 : Int32))])) _
          refine Go.st (fun _ k_ => XS.iconst X1.here hx rfl (hb hby at_59) k_) ?_
          show Go p e below (T1.setTop (mkF m 60 #[.val (.int p1), .val (.int p2), .val (.int (0 : Int32)), .val (.ref w_ANY), .val (.int (0 : Int32)), .val (.int (0 : Int32)), .val (.int (0 : Int32)), .unset] [(.int (2 : Int32)), (.int (0 : Int32))])) _
          refine Go.st (fun _ k_ => XS.icmpYes X1.here hx rfl (pc0 := 60) (pc' := 68) rfl (hb hby at_60) rfl (tlt (by decide : (0 : Int32) < (2 : Int32))).1 (by decide) (by decide) k_) ?_
          show Go p e below (T1.setTop (mkF m 68 #[.val (.int p1), .val (.int p2), .val (.int (0 : Int32)), .val (.ref w_ANY), .val (.int (0 : Int32)), .val (.int (0 : Int32)), .val (.int (0 : Int32)), .unset] [])) _
          refine Go.st (fun _ k_ => XS.iloadN X1.here hx rfl (hb hby at_68) rfl k_) ?_
          show Go p e below (T1.setTop (mkF m 69 #[.val (.int p1), .val (.int p2), .val (.int (0 : Int32)), .val (.ref w_ANY), .val (.int (0 : Int32)), .val (.int (0 : Int32)), .val (.int (0 : Int32)), .unset] [(.int (0 : Int32))])) _
          refine Go.st (fun _ k_ => XS.iconst X1.here hx rfl (hb hby at_69) k_) ?_
          show Go p e below (T1.setTop (mkF m 70 #[.val (.int p1), .val (.int p2), .val (.int (0 : Int32)), .val (.ref w_ANY), .val (.int (0 : Int32)), .val (.int (0 : Int32)), .val (.int (0 : Int32)), .unset] [(.int (3 : Int32)), (.int (0 : Int32))])) _
          refine Go.st (fun _ k_ => XS.icmpYes X1.here hx rfl (pc0 := 70) (pc' := 78) rfl (hb hby at_70) rfl (tlt (by decide : (0 : Int32) < (3 : Int32))).1 (by decide) (by decide) k_) ?_
          show Go p e below (T1.setTop (mkF m 78 #[.val (.int p1), .val (.int p2), .val (.int (0 : Int32)), .val (.ref w_ANY), .val (.int (0 : Int32)), .val (.int (0 : Int32)), .val (.int (0 : Int32)), .unset] [])) _
          refine Go.st (fun _ k_ => XS.iconst X1.here hx rfl (hb hby at_78) k_) ?_
          show Go p e below (T1.setTop (mkF m 79 #[.val (.int p1), .val (.int p2), .val (.int (0 : Int32)), .val (.ref w_ANY), .val (.int (0 : Int32)), .val (.int (0 : Int32)), .val (.int (0 : Int32)), .unset] [(.int (1 : Int32))])) _
          refine Go.st (fun _ k_ => XS.goto X1.here hx rfl (pc0 := 79) (pc' := 83) rfl (hb hby at_79) (by decide) (by decide) k_) ?_
          show Go p e below (T1.setTop (mkF m 83 #[.val (.int p1), .val (.int p2), .val (.int (0 : Int32)), .val (.ref w_ANY), .val (.int (0 : Int32)), .val (.int (0 : Int32)), .val (.int (0 : Int32)), .unset] [(.int (1 : Int32))])) _
          refine Go.st (fun _ k_ => XS.istore X1.here hx rfl (hb hby at_83) rfl (l' := #[.val (.int p1), .val (.int p2), .val (.int (0 : Int32)), .val (.ref w_ANY), .val (.int (0 : Int32)), .val (.int (0 : Int32)), .val (.int (0 : Int32)), .val (.int (1 : Int32))]) rfl k_) ?_
          show Go p e below (T1.setTop (mkF m 85 #[.val (.int p1), .val (.int p2), .val (.int (0 : Int32)), .val (.ref w_ANY), .val (.int (0 : Int32)), .val (.int (0 : Int32)), .val (.int (0 : Int32)), .val (.int (1 : Int32))] [])) _
          refine Go.st (fun _ k_ => XS.aloadN X1.here hx rfl (hb hby at_85) rfl rfl k_) ?_
          show Go p e below (T1.setTop (mkF m 86 #[.val (.int p1), .val (.int p2), .val (.int (0 : Int32)), .val (.ref w_ANY), .val (.int (0 : Int32)), .val (.int (0 : Int32)), .val (.int (0 : Int32)), .val (.int (1 : Int32))] [(.ref w_ANY)])) _
          refine Go.st (fun _ k_ => XS.iload X1.here hx rfl (hb hby at_86) rfl k_) ?_
          show Go p e below (T1.setTop (mkF m 88 #[.val (.int p1), .val (.int p2), .val (.int (0 : Int32)), .val (.ref w_ANY), .val (.int (0 : Int32)), .val (.int (0 : Int32)), .val (.int (0 : Int32)), .val (.int (1 : Int32))] [(.int (0 : Int32)), (.ref w_ANY)])) _
          refine Go.st (fun _ k_ => XS.iload X1.here hx rfl (hb hby at_88) rfl k_) ?_
          show Go p e below (T1.setTop (mkF m 90 #[.val (.int p1), .val (.int p2), .val (.int (0 : Int32)), .val (.ref w_ANY), .val (.int (0 : Int32)), .val (.int (0 : Int32)), .val (.int (0 : Int32)), .val (.int (1 : Int32))] [(.int (0 : Int32)), (.int (0 : Int32)), (.ref w_ANY)])) _
          refine Go.st (fun _ k_ => XS.iload X1.here hx rfl (hb hby at_90) rfl k_) ?_
          show Go p e below (T1.setTop (mkF m 92 #[.val (.int p1), .val (.int p2), .val (.int (0 : Int32)), .val (.ref w_ANY), .val (.int (0 : Int32)), .val (.int (0 : Int32)), .val (.int (0 : Int32)), .val (.int (1 : Int32))] [(.int (0 : Int32)), (.int (0 : Int32)), (.int (0 : Int32)), (.ref w_ANY)])) _
          obtain ⟨cq2, kq2, q2a, q2b, q2c⟩ := isOf hZ e1 E_w_ANY
          obtain ⟨_, _, ⟨T2, L2, k2_, n2_⟩, -, X2, ⟨Lc2, hQ2, l2_, y2_, z2_⟩, st2⟩ := X1.virtualBack hx (y := (⟨"com/example/patuxent/patuxent/PasswordComplexity", "isMetBy", "(ZZZ)Z"⟩ : MethodName)) (z := (⟨"com/example/patuxent/patuxent/PasswordComplexity", "isMetBy", "(ZZZ)Z"⟩ : MethodName)) hown (mvT hZ (hw _ (List.mem_of_getElem? (i := 7) rfl))) (mvT hZ (hw _ (List.mem_of_getElem? (i := 8) rfl))) (notFace_of_selects (args := #[]) (mvT hZ (hw _ (List.mem_of_getElem? (i := 10) rfl)))) (mvT hZ (hw _ (List.mem_of_getElem? (i := 10) rfl))) (mvT hZ (hw _ (List.mem_of_getElem? (i := 9) rfl))) (by decide) (backOf (W := 0) (rm2_0 l Z a0 hw [] w_ANY (0 : Int32) (0 : Int32) (0 : Int32) h0 n0 Z0 E_w_ANY F_ANY) hZ (hw _ (List.mem_of_getElem? (i := 11) rfl)) (hw _ (List.mem_of_getElem? (i := 5) rfl)) (by decide) (by decide)) q2a q2c (g := (mkF m 92 #[.val (.int p1), .val (.int p2), .val (.int (0 : Int32)), .val (.ref w_ANY), .val (.int (0 : Int32)), .val (.int (0 : Int32)), .val (.int (0 : Int32)), .val (.int (1 : Int32))] [(.int (0 : Int32)), (.int (0 : Int32)), (.int (0 : Int32)), (.ref w_ANY)])) rfl (by rw [hml]; rfl) (Steps.refl _) (argsL := [(.int (0 : Int32)), (.int (0 : Int32)), (.int (0 : Int32))]) (rest := []) (lenOf pd_2 rfl) rfl (by show 2 * 0 + _ ≤ _; exact Nat.le_of_eq rfl) (hb hby at_92) (fun _ _ => ⟨rfl, e1, (by decide : 0 + 0 ≤ _), (by decide : 0 + 0 ≤ _)⟩)
          dsimp only [Pt.U, Pt.locs, Pt.cells, Pt.slots] at X2 l2_ y2_ z2_ st2 hQ2
          subst l2_ y2_ z2_
          obtain ⟨rfl, N2q, e2⟩ := hQ2
          have N2 := Fr.app N1 N2q
          refine Go.tr st2 ?_
          show Go p e below (T2.setTop (mkF m 95 #[.val (.int p1), .val (.int p2), .val (.int (0 : Int32)), .val (.ref w_ANY), .val (.int (0 : Int32)), .val (.int (0 : Int32)), .val (.int (0 : Int32)), .val (.int (1 : Int32))] [(.int (1 : Int32))])) _
          refine Go.st (fun _ k_ => XS.iload X2.here hx rfl (hb hby at_95) rfl k_) ?_
          show Go p e below (T2.setTop (mkF m 97 #[.val (.int p1), .val (.int p2), .val (.int (0 : Int32)), .val (.ref w_ANY), .val (.int (0 : Int32)), .val (.int (0 : Int32)), .val (.int (0 : Int32)), .val (.int (1 : Int32))] [(.int (1 : Int32)), (.int (1 : Int32))])) _
          have hc97 : (1 : Int32) = (1 : Int32) := by decide
          refine Go.st (fun _ k_ => XS.icmpNo X2.here hx rfl (hb hby at_97) rfl (teq hc97).2 k_) ?_
          show Go p e below (T2.setTop (mkF m 100 #[.val (.int p1), .val (.int p2), .val (.int (0 : Int32)), .val (.ref w_ANY), .val (.int (0 : Int32)), .val (.int (0 : Int32)), .val (.int (0 : Int32)), .val (.int (1 : Int32))] [])) _
          refine Go.st (fun _ k_ => XS.iconst X2.here hx rfl (hb hby at_100) k_) ?_
          show Go p e below (T2.setTop (mkF m 101 #[.val (.int p1), .val (.int p2), .val (.int (0 : Int32)), .val (.ref w_ANY), .val (.int (0 : Int32)), .val (.int (0 : Int32)), .val (.int (0 : Int32)), .val (.int (1 : Int32))] [(.int (1 : Int32))])) _
          refine Go.st (fun _ k_ => XS.goto X2.here hx rfl (pc0 := 101) (pc' := 105) rfl (hb hby at_101) (by decide) (by decide) k_) ?_
          show Go p e below (T2.setTop (mkF m 105 #[.val (.int p1), .val (.int p2), .val (.int (0 : Int32)), .val (.ref w_ANY), .val (.int (0 : Int32)), .val (.int (0 : Int32)), .val (.int (0 : Int32)), .val (.int (1 : Int32))] [(.int (1 : Int32))])) _
          refine Go.fin X2 (v := some (.int (1 : Int32))) (fun h_ => by rw [Bd.returns] at h_; cases h_) Bd.notSynchronized (fun _ hr => retN X2 hx (t := .boolean) Bd.returns (by simp) (hb hby at_105) hr) (fun U' hU hF => ⟨_, _, rfl, ?_, hF.1, hF.2.1, hF.2.2.mono (by decide) (by decide)⟩)
          exact ⟨(congrArg (fun z_ : Int32 => some (Value.int z_)) (show (1 : Int32) = (1 : Int32) from rfl)), N2⟩
        · refine Go.st (fun _ k_ => XS.ifNo X1.here hx rfl (hb hby at_38) rfl ((if0 _ _).trans (feq hc38).1) k_) ?_
          show Go p e below (T1.setTop (mkF m 41 #[.val (.int p1), .val (.int p2), .val (.int (0 : Int32)), .val (.ref w_ANY), .val (.int (0 : Int32)), .val (.int (0 : Int32)), .unset, .unset] [])) _
          refine Go.st (fun _ k_ => XS.iconst X1.here hx rfl (hb hby at_41) k_) ?_
          show Go p e below (T1.setTop (mkF m 42 #[.val (.int p1), .val (.int p2), .val (.int (0 : Int32)), .val (.ref w_ANY), .val (.int (0 : Int32)), .val (.int (0 : Int32)), .unset, .unset] [(.int (1 : Int32))])) _
          refine Go.st (fun _ k_ => XS.goto X1.here hx rfl (pc0 := 42) (pc' := 46) rfl (hb hby at_42) (by decide) (by decide) k_) ?_
          show Go p e below (T1.setTop (mkF m 46 #[.val (.int p1), .val (.int p2), .val (.int (0 : Int32)), .val (.ref w_ANY), .val (.int (0 : Int32)), .val (.int (0 : Int32)), .unset, .unset] [(.int (1 : Int32))])) _
          refine Go.st (fun _ k_ => XS.istore X1.here hx rfl (hb hby at_46) rfl (l' := #[.val (.int p1), .val (.int p2), .val (.int (0 : Int32)), .val (.ref w_ANY), .val (.int (0 : Int32)), .val (.int (0 : Int32)), .val (.int (1 : Int32)), .unset]) rfl k_) ?_
          show Go p e below (T1.setTop (mkF m 48 #[.val (.int p1), .val (.int p2), .val (.int (0 : Int32)), .val (.ref w_ANY), .val (.int (0 : Int32)), .val (.int (0 : Int32)), .val (.int (1 : Int32)), .unset] [])) _
          refine Go.st (fun _ k_ => XS.iloadN X1.here hx rfl (hb hby at_48) rfl k_) ?_
          show Go p e below (T1.setTop (mkF m 49 #[.val (.int p1), .val (.int p2), .val (.int (0 : Int32)), .val (.ref w_ANY), .val (.int (0 : Int32)), .val (.int (0 : Int32)), .val (.int (1 : Int32)), .unset] [(.int (0 : Int32))])) _
          refine Go.st (fun _ k_ => XS.iconst X1.here hx rfl (hb hby at_49) k_) ?_
          show Go p e below (T1.setTop (mkF m 50 #[.val (.int p1), .val (.int p2), .val (.int (0 : Int32)), .val (.ref w_ANY), .val (.int (0 : Int32)), .val (.int (0 : Int32)), .val (.int (1 : Int32)), .unset] [(.int (1 : Int32)), (.int (0 : Int32))])) _
          refine Go.st (fun _ k_ => XS.icmpYes X1.here hx rfl (pc0 := 50) (pc' := 58) rfl (hb hby at_50) rfl (tlt (by decide : (0 : Int32) < (1 : Int32))).1 (by decide) (by decide) k_) ?_
          show Go p e below (T1.setTop (mkF m 58 #[.val (.int p1), .val (.int p2), .val (.int (0 : Int32)), .val (.ref w_ANY), .val (.int (0 : Int32)), .val (.int (0 : Int32)), .val (.int (1 : Int32)), .unset] [])) _
          refine Go.st (fun _ k_ => XS.iloadN X1.here hx rfl (hb hby at_58) rfl k_) ?_
          show Go p e below (T1.setTop (mkF m 59 #[.val (.int p1), .val (.int p2), .val (.int (0 : Int32)), .val (.ref w_ANY), .val (.int (0 : Int32)), .val (.int (0 : Int32)), .val (.int (1 : Int32)), .unset] [(.int (0 : Int32))])) _
          refine Go.st (fun _ k_ => XS.iconst X1.here hx rfl (hb hby at_59) k_) ?_
          show Go p e below (T1.setTop (mkF m 60 #[.val (.int p1), .val (.int p2), .val (.int (0 : Int32)), .val (.ref w_ANY), .val (.int (0 : Int32)), .val (.int (0 : Int32)), .val (.int (1 : Int32)), .unset] [(.int (2 : Int32)), (.int (0 : Int32))])) _
          refine Go.st (fun _ k_ => XS.icmpYes X1.here hx rfl (pc0 := 60) (pc' := 68) rfl (hb hby at_60) rfl (tlt (by decide : (0 : Int32) < (2 : Int32))).1 (by decide) (by decide) k_) ?_
          show Go p e below (T1.setTop (mkF m 68 #[.val (.int p1), .val (.int p2), .val (.int (0 : Int32)), .val (.ref w_ANY), .val (.int (0 : Int32)), .val (.int (0 : Int32)), .val (.int (1 : Int32)), .unset] [])) _
          refine Go.st (fun _ k_ => XS.iloadN X1.here hx rfl (hb hby at_68) rfl k_) ?_
          show Go p e below (T1.setTop (mkF m 69 #[.val (.int p1), .val (.int p2), .val (.int (0 : Int32)), .val (.ref w_ANY), .val (.int (0 : Int32)), .val (.int (0 : Int32)), .val (.int (1 : Int32)), .unset] [(.int (0 : Int32))])) _
          refine Go.st (fun _ k_ => XS.iconst X1.here hx rfl (hb hby at_69) k_) ?_
          show Go p e below (T1.setTop (mkF m 70 #[.val (.int p1), .val (.int p2), .val (.int (0 : Int32)), .val (.ref w_ANY), .val (.int (0 : Int32)), .val (.int (0 : Int32)), .val (.int (1 : Int32)), .unset] [(.int (3 : Int32)), (.int (0 : Int32))])) _
          refine Go.st (fun _ k_ => XS.icmpYes X1.here hx rfl (pc0 := 70) (pc' := 78) rfl (hb hby at_70) rfl (tlt (by decide : (0 : Int32) < (3 : Int32))).1 (by decide) (by decide) k_) ?_
          show Go p e below (T1.setTop (mkF m 78 #[.val (.int p1), .val (.int p2), .val (.int (0 : Int32)), .val (.ref w_ANY), .val (.int (0 : Int32)), .val (.int (0 : Int32)), .val (.int (1 : Int32)), .unset] [])) _
          refine Go.st (fun _ k_ => XS.iconst X1.here hx rfl (hb hby at_78) k_) ?_
          show Go p e below (T1.setTop (mkF m 79 #[.val (.int p1), .val (.int p2), .val (.int (0 : Int32)), .val (.ref w_ANY), .val (.int (0 : Int32)), .val (.int (0 : Int32)), .val (.int (1 : Int32)), .unset] [(.int (1 : Int32))])) _
          refine Go.st (fun _ k_ => XS.goto X1.here hx rfl (pc0 := 79) (pc' := 83) rfl (hb hby at_79) (by decide) (by decide) k_) ?_
          show Go p e below (T1.setTop (mkF m 83 #[.val (.int p1), .val (.int p2), .val (.int (0 : Int32)), .val (.ref w_ANY), .val (.int (0 : Int32)), .val (.int (0 : Int32)), .val (.int (1 : Int32)), .unset] [(.int (1 : Int32))])) _
          refine Go.st (fun _ k_ => XS.istore X1.here hx rfl (hb hby at_83) rfl (l' := #[.val (.int p1), .val (.int p2), .val (.int (0 : Int32)), .val (.ref w_ANY), .val (.int (0 : Int32)), .val (.int (0 : Int32)), .val (.int (1 : Int32)), .val (.int (1 : Int32))]) rfl k_) ?_
          show Go p e below (T1.setTop (mkF m 85 #[.val (.int p1), .val (.int p2), .val (.int (0 : Int32)), .val (.ref w_ANY), .val (.int (0 : Int32)), .val (.int (0 : Int32)), .val (.int (1 : Int32)), .val (.int (1 : Int32))] [])) _
          refine Go.st (fun _ k_ => XS.aloadN X1.here hx rfl (hb hby at_85) rfl rfl k_) ?_
          show Go p e below (T1.setTop (mkF m 86 #[.val (.int p1), .val (.int p2), .val (.int (0 : Int32)), .val (.ref w_ANY), .val (.int (0 : Int32)), .val (.int (0 : Int32)), .val (.int (1 : Int32)), .val (.int (1 : Int32))] [(.ref w_ANY)])) _
          refine Go.st (fun _ k_ => XS.iload X1.here hx rfl (hb hby at_86) rfl k_) ?_
          show Go p e below (T1.setTop (mkF m 88 #[.val (.int p1), .val (.int p2), .val (.int (0 : Int32)), .val (.ref w_ANY), .val (.int (0 : Int32)), .val (.int (0 : Int32)), .val (.int (1 : Int32)), .val (.int (1 : Int32))] [(.int (0 : Int32)), (.ref w_ANY)])) _
          refine Go.st (fun _ k_ => XS.iload X1.here hx rfl (hb hby at_88) rfl k_) ?_
          show Go p e below (T1.setTop (mkF m 90 #[.val (.int p1), .val (.int p2), .val (.int (0 : Int32)), .val (.ref w_ANY), .val (.int (0 : Int32)), .val (.int (0 : Int32)), .val (.int (1 : Int32)), .val (.int (1 : Int32))] [(.int (0 : Int32)), (.int (0 : Int32)), (.ref w_ANY)])) _
          refine Go.st (fun _ k_ => XS.iload X1.here hx rfl (hb hby at_90) rfl k_) ?_
          show Go p e below (T1.setTop (mkF m 92 #[.val (.int p1), .val (.int p2), .val (.int (0 : Int32)), .val (.ref w_ANY), .val (.int (0 : Int32)), .val (.int (0 : Int32)), .val (.int (1 : Int32)), .val (.int (1 : Int32))] [(.int (1 : Int32)), (.int (0 : Int32)), (.int (0 : Int32)), (.ref w_ANY)])) _
          obtain ⟨cq3, kq3, q3a, q3b, q3c⟩ := isOf hZ e1 E_w_ANY
          obtain ⟨_, _, ⟨T3, L3, k3_, n3_⟩, -, X3, ⟨Lc3, hQ3, l3_, y3_, z3_⟩, st3⟩ := X1.virtualBack hx (y := (⟨"com/example/patuxent/patuxent/PasswordComplexity", "isMetBy", "(ZZZ)Z"⟩ : MethodName)) (z := (⟨"com/example/patuxent/patuxent/PasswordComplexity", "isMetBy", "(ZZZ)Z"⟩ : MethodName)) hown (mvT hZ (hw _ (List.mem_of_getElem? (i := 7) rfl))) (mvT hZ (hw _ (List.mem_of_getElem? (i := 8) rfl))) (notFace_of_selects (args := #[]) (mvT hZ (hw _ (List.mem_of_getElem? (i := 10) rfl)))) (mvT hZ (hw _ (List.mem_of_getElem? (i := 10) rfl))) (mvT hZ (hw _ (List.mem_of_getElem? (i := 9) rfl))) (by decide) (backOf (W := 0) (rm2_0 l Z a0 hw [] w_ANY (0 : Int32) (0 : Int32) (1 : Int32) h0 n0 Z0 E_w_ANY F_ANY) hZ (hw _ (List.mem_of_getElem? (i := 11) rfl)) (hw _ (List.mem_of_getElem? (i := 5) rfl)) (by decide) (by decide)) q3a q3c (g := (mkF m 92 #[.val (.int p1), .val (.int p2), .val (.int (0 : Int32)), .val (.ref w_ANY), .val (.int (0 : Int32)), .val (.int (0 : Int32)), .val (.int (1 : Int32)), .val (.int (1 : Int32))] [(.int (1 : Int32)), (.int (0 : Int32)), (.int (0 : Int32)), (.ref w_ANY)])) rfl (by rw [hml]; rfl) (Steps.refl _) (argsL := [(.int (0 : Int32)), (.int (0 : Int32)), (.int (1 : Int32))]) (rest := []) (lenOf pd_2 rfl) rfl (by show 2 * 0 + _ ≤ _; exact Nat.le_of_eq rfl) (hb hby at_92) (fun _ _ => ⟨rfl, e1, (by decide : 0 + 0 ≤ _), (by decide : 0 + 0 ≤ _)⟩)
          dsimp only [Pt.U, Pt.locs, Pt.cells, Pt.slots] at X3 l3_ y3_ z3_ st3 hQ3
          subst l3_ y3_ z3_
          obtain ⟨rfl, N3q, e3⟩ := hQ3
          have N3 := Fr.app N1 N3q
          refine Go.tr st3 ?_
          show Go p e below (T3.setTop (mkF m 95 #[.val (.int p1), .val (.int p2), .val (.int (0 : Int32)), .val (.ref w_ANY), .val (.int (0 : Int32)), .val (.int (0 : Int32)), .val (.int (1 : Int32)), .val (.int (1 : Int32))] [(.int (1 : Int32))])) _
          refine Go.st (fun _ k_ => XS.iload X3.here hx rfl (hb hby at_95) rfl k_) ?_
          show Go p e below (T3.setTop (mkF m 97 #[.val (.int p1), .val (.int p2), .val (.int (0 : Int32)), .val (.ref w_ANY), .val (.int (0 : Int32)), .val (.int (0 : Int32)), .val (.int (1 : Int32)), .val (.int (1 : Int32))] [(.int (1 : Int32)), (.int (1 : Int32))])) _
          have hc97 : (1 : Int32) = (1 : Int32) := by decide
          refine Go.st (fun _ k_ => XS.icmpNo X3.here hx rfl (hb hby at_97) rfl (teq hc97).2 k_) ?_
          show Go p e below (T3.setTop (mkF m 100 #[.val (.int p1), .val (.int p2), .val (.int (0 : Int32)), .val (.ref w_ANY), .val (.int (0 : Int32)), .val (.int (0 : Int32)), .val (.int (1 : Int32)), .val (.int (1 : Int32))] [])) _
          refine Go.st (fun _ k_ => XS.iconst X3.here hx rfl (hb hby at_100) k_) ?_
          show Go p e below (T3.setTop (mkF m 101 #[.val (.int p1), .val (.int p2), .val (.int (0 : Int32)), .val (.ref w_ANY), .val (.int (0 : Int32)), .val (.int (0 : Int32)), .val (.int (1 : Int32)), .val (.int (1 : Int32))] [(.int (1 : Int32))])) _
          refine Go.st (fun _ k_ => XS.goto X3.here hx rfl (pc0 := 101) (pc' := 105) rfl (hb hby at_101) (by decide) (by decide) k_) ?_
          show Go p e below (T3.setTop (mkF m 105 #[.val (.int p1), .val (.int p2), .val (.int (0 : Int32)), .val (.ref w_ANY), .val (.int (0 : Int32)), .val (.int (0 : Int32)), .val (.int (1 : Int32)), .val (.int (1 : Int32))] [(.int (1 : Int32))])) _
          refine Go.fin X3 (v := some (.int (1 : Int32))) (fun h_ => by rw [Bd.returns] at h_; cases h_) Bd.notSynchronized (fun _ hr => retN X3 hx (t := .boolean) Bd.returns (by simp) (hb hby at_105) hr) (fun U' hU hF => ⟨_, _, rfl, ?_, hF.1, hF.2.1, hF.2.2.mono (by decide) (by decide)⟩)
          exact ⟨(congrArg (fun z_ : Int32 => some (Value.int z_)) (show (1 : Int32) = (1 : Int32) from rfl)), N3⟩
      · refine Go.st (fun _ k_ => XS.ifNo X1.here hx rfl (hb hby at_25) rfl ((if0 _ _).trans (feq hc25).1) k_) ?_
        show Go p e below (T1.setTop (mkF m 28 #[.val (.int p1), .val (.int p2), .val (.int (0 : Int32)), .val (.ref w_ANY), .val (.int (0 : Int32)), .unset, .unset, .unset] [])) _
        refine Go.st (fun _ k_ => XS.iconst X1.here hx rfl (hb hby at_28) k_) ?_
        show Go p e below (T1.setTop (mkF m 29 #[.val (.int p1), .val (.int p2), .val (.int (0 : Int32)), .val (.ref w_ANY), .val (.int (0 : Int32)), .unset, .unset, .unset] [(.int (1 : Int32))])) _
        refine Go.st (fun _ k_ => XS.goto X1.here hx rfl (pc0 := 29) (pc' := 33) rfl (hb hby at_29) (by decide) (by decide) k_) ?_
        show Go p e below (T1.setTop (mkF m 33 #[.val (.int p1), .val (.int p2), .val (.int (0 : Int32)), .val (.ref w_ANY), .val (.int (0 : Int32)), .unset, .unset, .unset] [(.int (1 : Int32))])) _
        refine Go.st (fun _ k_ => XS.istore X1.here hx rfl (hb hby at_33) rfl (l' := #[.val (.int p1), .val (.int p2), .val (.int (0 : Int32)), .val (.ref w_ANY), .val (.int (0 : Int32)), .val (.int (1 : Int32)), .unset, .unset]) rfl k_) ?_
        show Go p e below (T1.setTop (mkF m 35 #[.val (.int p1), .val (.int p2), .val (.int (0 : Int32)), .val (.ref w_ANY), .val (.int (0 : Int32)), .val (.int (1 : Int32)), .unset, .unset] [])) _
        refine Go.st (fun _ k_ => XS.iloadN X1.here hx rfl (hb hby at_35) rfl k_) ?_
        show Go p e below (T1.setTop (mkF m 36 #[.val (.int p1), .val (.int p2), .val (.int (0 : Int32)), .val (.ref w_ANY), .val (.int (0 : Int32)), .val (.int (1 : Int32)), .unset, .unset] [(.int p2)])) _
        refine Go.st (fun _ k_ => XS.iconst X1.here hx rfl (hb hby at_36) k_) ?_
        show Go p e below (T1.setTop (mkF m 37 #[.val (.int p1), .val (.int p2), .val (.int (0 : Int32)), .val (.ref w_ANY), .val (.int (0 : Int32)), .val (.int (1 : Int32)), .unset, .unset] [(.int (4 : Int32)), (.int p2)])) _
        refine Go.st (fun _ k_ => XS.iand X1.here hx rfl (hb hby at_37) rfl k_) ?_
        show Go p e below (T1.setTop (mkF m 38 #[.val (.int p1), .val (.int p2), .val (.int (0 : Int32)), .val (.ref w_ANY), .val (.int (0 : Int32)), .val (.int (1 : Int32)), .unset, .unset] [(.int (p2 &&& (4 : Int32)))])) _
        by_cases hc38 : (p2 &&& (4 : Int32)) = (0 : Int32)
        · refine Go.st (fun _ k_ => XS.ifYes X1.here hx rfl (pc0 := 38) (pc' := 45) rfl (hb hby at_38) rfl ((if0 _ _).trans (teq hc38).1) (by decide) (by decide) k_) ?_
          show Go p e below (T1.setTop (mkF m 45 #[.val (.int p1), .val (.int p2), .val (.int (0 : Int32)), .val (.ref w_ANY), .val (.int (0 : Int32)), .val (.int (1 : Int32)), .unset, .unset] [])) _
          refine Go.st (fun _ k_ => XS.iconst X1.here hx rfl (hb hby at_45) k_) ?_
          show Go p e below (T1.setTop (mkF m 46 #[.val (.int p1), .val (.int p2), .val (.int (0 : Int32)), .val (.ref w_ANY), .val (.int (0 : Int32)), .val (.int (1 : Int32)), .unset, .unset] [(.int (0 : Int32))])) _
          refine Go.st (fun _ k_ => XS.istore X1.here hx rfl (hb hby at_46) rfl (l' := #[.val (.int p1), .val (.int p2), .val (.int (0 : Int32)), .val (.ref w_ANY), .val (.int (0 : Int32)), .val (.int (1 : Int32)), .val (.int (0 : Int32)), .unset]) rfl k_) ?_
          show Go p e below (T1.setTop (mkF m 48 #[.val (.int p1), .val (.int p2), .val (.int (0 : Int32)), .val (.ref w_ANY), .val (.int (0 : Int32)), .val (.int (1 : Int32)), .val (.int (0 : Int32)), .unset] [])) _
          refine Go.st (fun _ k_ => XS.iloadN X1.here hx rfl (hb hby at_48) rfl k_) ?_
          show Go p e below (T1.setTop (mkF m 49 #[.val (.int p1), .val (.int p2), .val (.int (0 : Int32)), .val (.ref w_ANY), .val (.int (0 : Int32)), .val (.int (1 : Int32)), .val (.int (0 : Int32)), .unset] [(.int (0 : Int32))])) _
          refine Go.st (fun _ k_ => XS.iconst X1.here hx rfl (hb hby at_49) k_) ?_
          show Go p e below (T1.setTop (mkF m 50 #[.val (.int p1), .val (.int p2), .val (.int (0 : Int32)), .val (.ref w_ANY), .val (.int (0 : Int32)), .val (.int (1 : Int32)), .val (.int (0 : Int32)), .unset] [(.int (1 : Int32)), (.int (0 : Int32))])) _
          refine Go.st (fun _ k_ => XS.icmpYes X1.here hx rfl (pc0 := 50) (pc' := 58) rfl (hb hby at_50) rfl (tlt (by decide : (0 : Int32) < (1 : Int32))).1 (by decide) (by decide) k_) ?_
          show Go p e below (T1.setTop (mkF m 58 #[.val (.int p1), .val (.int p2), .val (.int (0 : Int32)), .val (.ref w_ANY), .val (.int (0 : Int32)), .val (.int (1 : Int32)), .val (.int (0 : Int32)), .unset] [])) _
          refine Go.st (fun _ k_ => XS.iloadN X1.here hx rfl (hb hby at_58) rfl k_) ?_
          show Go p e below (T1.setTop (mkF m 59 #[.val (.int p1), .val (.int p2), .val (.int (0 : Int32)), .val (.ref w_ANY), .val (.int (0 : Int32)), .val (.int (1 : Int32)), .val (.int (0 : Int32)), .unset] [(.int (0 : Int32))])) _
          refine Go.st (fun _ k_ => XS.iconst X1.here hx rfl (hb hby at_59) k_) ?_
          show Go p e below (T1.setTop (mkF m 60 #[.val (.int p1), .val (.int p2), .val (.int (0 : Int32)), .val (.ref w_ANY), .val (.int (0 : Int32)), .val (.int (1 : Int32)), .val (.int (0 : Int32)), .unset] [(.int (2 : Int32)), (.int (0 : Int32))])) _
          refine Go.st (fun _ k_ => XS.icmpYes X1.here hx rfl (pc0 := 60) (pc' := 68) rfl (hb hby at_60) rfl (tlt (by decide : (0 : Int32) < (2 : Int32))).1 (by decide) (by decide) k_) ?_
          show Go p e below (T1.setTop (mkF m 68 #[.val (.int p1), .val (.int p2), .val (.int (0 : Int32)), .val (.ref w_ANY), .val (.int (0 : Int32)), .val (.int (1 : Int32)), .val (.int (0 : Int32)), .unset] [])) _
          refine Go.st (fun _ k_ => XS.iloadN X1.here hx rfl (hb hby at_68) rfl k_) ?_
          show Go p e below (T1.setTop (mkF m 69 #[.val (.int p1), .val (.int p2), .val (.int (0 : Int32)), .val (.ref w_ANY), .val (.int (0 : Int32)), .val (.int (1 : Int32)), .val (.int (0 : Int32)), .unset] [(.int (0 : Int32))])) _
          refine Go.st (fun _ k_ => XS.iconst X1.here hx rfl (hb hby at_69) k_) ?_
          show Go p e below (T1.setTop (mkF m 70 #[.val (.int p1), .val (.int p2), .val (.int (0 : Int32)), .val (.ref w_ANY), .val (.int (0 : Int32)), .val (.int (1 : Int32)), .val (.int (0 : Int32)), .unset] [(.int (3 : Int32)), (.int (0 : Int32))])) _
          refine Go.st (fun _ k_ => XS.icmpYes X1.here hx rfl (pc0 := 70) (pc' := 78) rfl (hb hby at_70) rfl (tlt (by decide : (0 : Int32) < (3 : Int32))).1 (by decide) (by decide) k_) ?_
          show Go p e below (T1.setTop (mkF m 78 #[.val (.int p1), .val (.int p2), .val (.int (0 : Int32)), .val (.ref w_ANY), .val (.int (0 : Int32)), .val (.int (1 : Int32)), .val (.int (0 : Int32)), .unset] [])) _
          refine Go.st (fun _ k_ => XS.iconst X1.here hx rfl (hb hby at_78) k_) ?_
          show Go p e below (T1.setTop (mkF m 79 #[.val (.int p1), .val (.int p2), .val (.int (0 : Int32)), .val (.ref w_ANY), .val (.int (0 : Int32)), .val (.int (1 : Int32)), .val (.int (0 : Int32)), .unset] [(.int (1 : Int32))])) _
          refine Go.st (fun _ k_ => XS.goto X1.here hx rfl (pc0 := 79) (pc' := 83) rfl (hb hby at_79) (by decide) (by decide) k_) ?_
          show Go p e below (T1.setTop (mkF m 83 #[.val (.int p1), .val (.int p2), .val (.int (0 : Int32)), .val (.ref w_ANY), .val (.int (0 : Int32)), .val (.int (1 : Int32)), .val (.int (0 : Int32)), .unset] [(.int (1 : Int32))])) _
          refine Go.st (fun _ k_ => XS.istore X1.here hx rfl (hb hby at_83) rfl (l' := #[.val (.int p1), .val (.int p2), .val (.int (0 : Int32)), .val (.ref w_ANY), .val (.int (0 : Int32)), .val (.int (1 : Int32)), .val (.int (0 : Int32)), .val (.int (1 : Int32))]) rfl k_) ?_
          show Go p e below (T1.setTop (mkF m 85 #[.val (.int p1), .val (.int p2), .val (.int (0 : Int32)), .val (.ref w_ANY), .val (.int (0 : Int32)), .val (.int (1 : Int32)), .val (.int (0 : Int32)), .val (.int (1 : Int32))] [])) _
          refine Go.st (fun _ k_ => XS.aloadN X1.here hx rfl (hb hby at_85) rfl rfl k_) ?_
          show Go p e below (T1.setTop (mkF m 86 #[.val (.int p1), .val (.int p2), .val (.int (0 : Int32)), .val (.ref w_ANY), .val (.int (0 : Int32)), .val (.int (1 : Int32)), .val (.int (0 : Int32)), .val (.int (1 : Int32))] [(.ref w_ANY)])) _
          refine Go.st (fun _ k_ => XS.iload X1.here hx rfl (hb hby at_86) rfl k_) ?_
          show Go p e below (T1.setTop (mkF m 88 #[.val (.int p1), .val (.int p2), .val (.int (0 : Int32)), .val (.ref w_ANY), .val (.int (0 : Int32)), .val (.int (1 : Int32)), .val (.int (0 : Int32)), .val (.int (1 : Int32))] [(.int (0 : Int32)), (.ref w_ANY)])) _
          refine Go.st (fun _ k_ => XS.iload X1.here hx rfl (hb hby at_88) rfl k_) ?_
          show Go p e below (T1.setTop (mkF m 90 #[.val (.int p1), .val (.int p2), .val (.int (0 : Int32)), .val (.ref w_ANY), .val (.int (0 : Int32)), .val (.int (1 : Int32)), .val (.int (0 : Int32)), .val (.int (1 : Int32))] [(.int (1 : Int32)), (.int (0 : Int32)), (.ref w_ANY)])) _
          refine Go.st (fun _ k_ => XS.iload X1.here hx rfl (hb hby at_90) rfl k_) ?_
          show Go p e below (T1.setTop (mkF m 92 #[.val (.int p1), .val (.int p2), .val (.int (0 : Int32)), .val (.ref w_ANY), .val (.int (0 : Int32)), .val (.int (1 : Int32)), .val (.int (0 : Int32)), .val (.int (1 : Int32))] [(.int (0 : Int32)), (.int (1 : Int32)), (.int (0 : Int32)), (.ref w_ANY)])) _
          obtain ⟨cq4, kq4, q4a, q4b, q4c⟩ := isOf hZ e1 E_w_ANY
          obtain ⟨_, _, ⟨T4, L4, k4_, n4_⟩, -, X4, ⟨Lc4, hQ4, l4_, y4_, z4_⟩, st4⟩ := X1.virtualBack hx (y := (⟨"com/example/patuxent/patuxent/PasswordComplexity", "isMetBy", "(ZZZ)Z"⟩ : MethodName)) (z := (⟨"com/example/patuxent/patuxent/PasswordComplexity", "isMetBy", "(ZZZ)Z"⟩ : MethodName)) hown (mvT hZ (hw _ (List.mem_of_getElem? (i := 7) rfl))) (mvT hZ (hw _ (List.mem_of_getElem? (i := 8) rfl))) (notFace_of_selects (args := #[]) (mvT hZ (hw _ (List.mem_of_getElem? (i := 10) rfl)))) (mvT hZ (hw _ (List.mem_of_getElem? (i := 10) rfl))) (mvT hZ (hw _ (List.mem_of_getElem? (i := 9) rfl))) (by decide) (backOf (W := 0) (rm2_0 l Z a0 hw [] w_ANY (0 : Int32) (1 : Int32) (0 : Int32) h0 n0 Z0 E_w_ANY F_ANY) hZ (hw _ (List.mem_of_getElem? (i := 11) rfl)) (hw _ (List.mem_of_getElem? (i := 5) rfl)) (by decide) (by decide)) q4a q4c (g := (mkF m 92 #[.val (.int p1), .val (.int p2), .val (.int (0 : Int32)), .val (.ref w_ANY), .val (.int (0 : Int32)), .val (.int (1 : Int32)), .val (.int (0 : Int32)), .val (.int (1 : Int32))] [(.int (0 : Int32)), (.int (1 : Int32)), (.int (0 : Int32)), (.ref w_ANY)])) rfl (by rw [hml]; rfl) (Steps.refl _) (argsL := [(.int (0 : Int32)), (.int (1 : Int32)), (.int (0 : Int32))]) (rest := []) (lenOf pd_2 rfl) rfl (by show 2 * 0 + _ ≤ _; exact Nat.le_of_eq rfl) (hb hby at_92) (fun _ _ => ⟨rfl, e1, (by decide : 0 + 0 ≤ _), (by decide : 0 + 0 ≤ _)⟩)
          dsimp only [Pt.U, Pt.locs, Pt.cells, Pt.slots] at X4 l4_ y4_ z4_ st4 hQ4
          subst l4_ y4_ z4_
          obtain ⟨rfl, N4q, e4⟩ := hQ4
          have N4 := Fr.app N1 N4q
          refine Go.tr st4 ?_
          show Go p e below (T4.setTop (mkF m 95 #[.val (.int p1), .val (.int p2), .val (.int (0 : Int32)), .val (.ref w_ANY), .val (.int (0 : Int32)), .val (.int (1 : Int32)), .val (.int (0 : Int32)), .val (.int (1 : Int32))] [(.int (1 : Int32))])) _
          refine Go.st (fun _ k_ => XS.iload X4.here hx rfl (hb hby at_95) rfl k_) ?_
          show Go p e below (T4.setTop (mkF m 97 #[.val (.int p1), .val (.int p2), .val (.int (0 : Int32)), .val (.ref w_ANY), .val (.int (0 : Int32)), .val (.int (1 : Int32)), .val (.int (0 : Int32)), .val (.int (1 : Int32))] [(.int (1 : Int32)), (.int (1 : Int32))])) _
          have hc97 : (1 : Int32) = (1 : Int32) := by decide
          refine Go.st (fun _ k_ => XS.icmpNo X4.here hx rfl (hb hby at_97) rfl (teq hc97).2 k_) ?_
          show Go p e below (T4.setTop (mkF m 100 #[.val (.int p1), .val (.int p2), .val (.int (0 : Int32)), .val (.ref w_ANY), .val (.int (0 : Int32)), .val (.int (1 : Int32)), .val (.int (0 : Int32)), .val (.int (1 : Int32))] [])) _
          refine Go.st (fun _ k_ => XS.iconst X4.here hx rfl (hb hby at_100) k_) ?_
          show Go p e below (T4.setTop (mkF m 101 #[.val (.int p1), .val (.int p2), .val (.int (0 : Int32)), .val (.ref w_ANY), .val (.int (0 : Int32)), .val (.int (1 : Int32)), .val (.int (0 : Int32)), .val (.int (1 : Int32))] [(.int (1 : Int32))])) _
          refine Go.st (fun _ k_ => XS.goto X4.here hx rfl (pc0 := 101) (pc' := 105) rfl (hb hby at_101) (by decide) (by decide) k_) ?_
          show Go p e below (T4.setTop (mkF m 105 #[.val (.int p1), .val (.int p2), .val (.int (0 : Int32)), .val (.ref w_ANY), .val (.int (0 : Int32)), .val (.int (1 : Int32)), .val (.int (0 : Int32)), .val (.int (1 : Int32))] [(.int (1 : Int32))])) _
          refine Go.fin X4 (v := some (.int (1 : Int32))) (fun h_ => by rw [Bd.returns] at h_; cases h_) Bd.notSynchronized (fun _ hr => retN X4 hx (t := .boolean) Bd.returns (by simp) (hb hby at_105) hr) (fun U' hU hF => ⟨_, _, rfl, ?_, hF.1, hF.2.1, hF.2.2.mono (by decide) (by decide)⟩)
          exact ⟨(congrArg (fun z_ : Int32 => some (Value.int z_)) (show (1 : Int32) = (1 : Int32) from rfl)), N4⟩
        · refine Go.st (fun _ k_ => XS.ifNo X1.here hx rfl (hb hby at_38) rfl ((if0 _ _).trans (feq hc38).1) k_) ?_
          show Go p e below (T1.setTop (mkF m 41 #[.val (.int p1), .val (.int p2), .val (.int (0 : Int32)), .val (.ref w_ANY), .val (.int (0 : Int32)), .val (.int (1 : Int32)), .unset, .unset] [])) _
          refine Go.st (fun _ k_ => XS.iconst X1.here hx rfl (hb hby at_41) k_) ?_
          show Go p e below (T1.setTop (mkF m 42 #[.val (.int p1), .val (.int p2), .val (.int (0 : Int32)), .val (.ref w_ANY), .val (.int (0 : Int32)), .val (.int (1 : Int32)), .unset, .unset] [(.int (1 : Int32))])) _
          refine Go.st (fun _ k_ => XS.goto X1.here hx rfl (pc0 := 42) (pc' := 46) rfl (hb hby at_42) (by decide) (by decide) k_) ?_
          show Go p e below (T1.setTop (mkF m 46 #[.val (.int p1), .val (.int p2), .val (.int (0 : Int32)), .val (.ref w_ANY), .val (.int (0 : Int32)), .val (.int (1 : Int32)), .unset, .unset] [(.int (1 : Int32))])) _
          refine Go.st (fun _ k_ => XS.istore X1.here hx rfl (hb hby at_46) rfl (l' := #[.val (.int p1), .val (.int p2), .val (.int (0 : Int32)), .val (.ref w_ANY), .val (.int (0 : Int32)), .val (.int (1 : Int32)), .val (.int (1 : Int32)), .unset]) rfl k_) ?_
          show Go p e below (T1.setTop (mkF m 48 #[.val (.int p1), .val (.int p2), .val (.int (0 : Int32)), .val (.ref w_ANY), .val (.int (0 : Int32)), .val (.int (1 : Int32)), .val (.int (1 : Int32)), .unset] [])) _
          refine Go.st (fun _ k_ => XS.iloadN X1.here hx rfl (hb hby at_48) rfl k_) ?_
          show Go p e below (T1.setTop (mkF m 49 #[.val (.int p1), .val (.int p2), .val (.int (0 : Int32)), .val (.ref w_ANY), .val (.int (0 : Int32)), .val (.int (1 : Int32)), .val (.int (1 : Int32)), .unset] [(.int (0 : Int32))])) _
          refine Go.st (fun _ k_ => XS.iconst X1.here hx rfl (hb hby at_49) k_) ?_
          show Go p e below (T1.setTop (mkF m 50 #[.val (.int p1), .val (.int p2), .val (.int (0 : Int32)), .val (.ref w_ANY), .val (.int (0 : Int32)), .val (.int (1 : Int32)), .val (.int (1 : Int32)), .unset] [(.int (1 : Int32)), (.int (0 : Int32))])) _
          refine Go.st (fun _ k_ => XS.icmpYes X1.here hx rfl (pc0 := 50) (pc' := 58) rfl (hb hby at_50) rfl (tlt (by decide : (0 : Int32) < (1 : Int32))).1 (by decide) (by decide) k_) ?_
          show Go p e below (T1.setTop (mkF m 58 #[.val (.int p1), .val (.int p2), .val (.int (0 : Int32)), .val (.ref w_ANY), .val (.int (0 : Int32)), .val (.int (1 : Int32)), .val (.int (1 : Int32)), .unset] [])) _
          refine Go.st (fun _ k_ => XS.iloadN X1.here hx rfl (hb hby at_58) rfl k_) ?_
          show Go p e below (T1.setTop (mkF m 59 #[.val (.int p1), .val (.int p2), .val (.int (0 : Int32)), .val (.ref w_ANY), .val (.int (0 : Int32)), .val (.int (1 : Int32)), .val (.int (1 : Int32)), .unset] [(.int (0 : Int32))])) _
          refine Go.st (fun _ k_ => XS.iconst X1.here hx rfl (hb hby at_59) k_) ?_
          show Go p e below (T1.setTop (mkF m 60 #[.val (.int p1), .val (.int p2), .val (.int (0 : Int32)), .val (.ref w_ANY), .val (.int (0 : Int32)), .val (.int (1 : Int32)), .val (.int (1 : Int32)), .unset] [(.int (2 : Int32)), (.int (0 : Int32))])) _
          refine Go.st (fun _ k_ => XS.icmpYes X1.here hx rfl (pc0 := 60) (pc' := 68) rfl (hb hby at_60) rfl (tlt (by decide : (0 : Int32) < (2 : Int32))).1 (by decide) (by decide) k_) ?_
          show Go p e below (T1.setTop (mkF m 68 #[.val (.int p1), .val (.int p2), .val (.int (0 : Int32)), .val (.ref w_ANY), .val (.int (0 : Int32)), .val (.int (1 : Int32)), .val (.int (1 : Int32)), .unset] [])) _
          refine Go.st (fun _ k_ => XS.iloadN X1.here hx rfl (hb hby at_68) rfl k_) ?_
          show Go p e below (T1.setTop (mkF m 69 #[.val (.int p1), .val (.int p2), .val (.int (0 : Int32)), .val (.ref w_ANY), .val (.int (0 : Int32)), .val (.int (1 : Int32)), .val (.int (1 : Int32)), .unset] [(.int (0 : Int32))])) _
          refine Go.st (fun _ k_ => XS.iconst X1.here hx rfl (hb hby at_69) k_) ?_
          show Go p e below (T1.setTop (mkF m 70 #[.val (.int p1), .val (.int p2), .val (.int (0 : Int32)), .val (.ref w_ANY), .val (.int (0 : Int32)), .val (.int (1 : Int32)), .val (.int (1 : Int32)), .unset] [(.int (3 : Int32)), (.int (0 : Int32))])) _
          refine Go.st (fun _ k_ => XS.icmpYes X1.here hx rfl (pc0 := 70) (pc' := 78) rfl (hb hby at_70) rfl (tlt (by decide : (0 : Int32) < (3 : Int32))).1 (by decide) (by decide) k_) ?_
          show Go p e below (T1.setTop (mkF m 78 #[.val (.int p1), .val (.int p2), .val (.int (0 : Int32)), .val (.ref w_ANY), .val (.int (0 : Int32)), .val (.int (1 : Int32)), .val (.int (1 : Int32)), .unset] [])) _
          refine Go.st (fun _ k_ => XS.iconst X1.here hx rfl (hb hby at_78) k_) ?_
          show Go p e below (T1.setTop (mkF m 79 #[.val (.int p1), .val (.int p2), .val (.int (0 : Int32)), .val (.ref w_ANY), .val (.int (0 : Int32)), .val (.int (1 : Int32)), .val (.int (1 : Int32)), .unset] [(.int (1 : Int32))])) _
          refine Go.st (fun _ k_ => XS.goto X1.here hx rfl (pc0 := 79) (pc' := 83) rfl (hb hby at_79) (by decide) (by decide) k_) ?_
          show Go p e below (T1.setTop (mkF m 83 #[.val (.int p1), .val (.int p2), .val (.int (0 : Int32)), .val (.ref w_ANY), .val (.int (0 : Int32)), .val (.int (1 : Int32)), .val (.int (1 : Int32)), .unset] [(.int (1 : Int32))])) _
          refine Go.st (fun _ k_ => XS.istore X1.here hx rfl (hb hby at_83) rfl (l' := #[.val (.int p1), .val (.int p2), .val (.int (0 : Int32)), .val (.ref w_ANY), .val (.int (0 : Int32)), .val (.int (1 : Int32)), .val (.int (1 : Int32)), .val (.int (1 : Int32))]) rfl k_) ?_
          show Go p e below (T1.setTop (mkF m 85 #[.val (.int p1), .val (.int p2), .val (.int (0 : Int32)), .val (.ref w_ANY), .val (.int (0 : Int32)), .val (.int (1 : Int32)), .val (.int (1 : Int32)), .val (.int (1 : Int32))] [])) _
          refine Go.st (fun _ k_ => XS.aloadN X1.here hx rfl (hb hby at_85) rfl rfl k_) ?_
          show Go p e below (T1.setTop (mkF m 86 #[.val (.int p1), .val (.int p2), .val (.int (0 : Int32)), .val (.ref w_ANY), .val (.int (0 : Int32)), .val (.int (1 : Int32)), .val (.int (1 : Int32)), .val (.int (1 : Int32))] [(.ref w_ANY)])) _
          refine Go.st (fun _ k_ => XS.iload X1.here hx rfl (hb hby at_86) rfl k_) ?_
          show Go p e below (T1.setTop (mkF m 88 #[.val (.int p1), .val (.int p2), .val (.int (0 : Int32)), .val (.ref w_ANY), .val (.int (0 : Int32)), .val (.int (1 : Int32)), .val (.int (1 : Int32)), .val (.int (1 : Int32))] [(.int (0 : Int32)), (.ref w_ANY)])) _
          refine Go.st (fun _ k_ => XS.iload X1.here hx rfl (hb hby at_88) rfl k_) ?_
          show Go p e below (T1.setTop (mkF m 90 #[.val (.int p1), .val (.int p2), .val (.int (0 : Int32)), .val (.ref w_ANY), .val (.int (0 : Int32)), .val (.int (1 : Int32)), .val (.int (1 : Int32)), .val (.int (1 : Int32))] [(.int (1 : Int32)), (.int (0 : Int32)), (.ref w_ANY)])) _
          refine Go.st (fun _ k_ => XS.iload X1.here hx rfl (hb hby at_90) rfl k_) ?_
          show Go p e below (T1.setTop (mkF m 92 #[.val (.int p1), .val (.int p2), .val (.int (0 : Int32)), .val (.ref w_ANY), .val (.int (0 : Int32)), .val (.int (1 : Int32)), .val (.int (1 : Int32)), .val (.int (1 : Int32))] [(.int (1 : Int32)), (.int (1 : Int32)), (.int (0 : Int32)), (.ref w_ANY)])) _
          obtain ⟨cq5, kq5, q5a, q5b, q5c⟩ := isOf hZ e1 E_w_ANY
          obtain ⟨_, _, ⟨T5, L5, k5_, n5_⟩, -, X5, ⟨Lc5, hQ5, l5_, y5_, z5_⟩, st5⟩ := X1.virtualBack hx (y := (⟨"com/example/patuxent/patuxent/PasswordComplexity", "isMetBy", "(ZZZ)Z"⟩ : MethodName)) (z := (⟨"com/example/patuxent/patuxent/PasswordComplexity", "isMetBy", "(ZZZ)Z"⟩ : MethodName)) hown (mvT hZ (hw _ (List.mem_of_getElem? (i := 7) rfl))) (mvT hZ (hw _ (List.mem_of_getElem? (i := 8) rfl))) (notFace_of_selects (args := #[]) (mvT hZ (hw _ (List.mem_of_getElem? (i := 10) rfl)))) (mvT hZ (hw _ (List.mem_of_getElem? (i := 10) rfl))) (mvT hZ (hw _ (List.mem_of_getElem? (i := 9) rfl))) (by decide) (backOf (W := 0) (rm2_0 l Z a0 hw [] w_ANY (0 : Int32) (1 : Int32) (1 : Int32) h0 n0 Z0 E_w_ANY F_ANY) hZ (hw _ (List.mem_of_getElem? (i := 11) rfl)) (hw _ (List.mem_of_getElem? (i := 5) rfl)) (by decide) (by decide)) q5a q5c (g := (mkF m 92 #[.val (.int p1), .val (.int p2), .val (.int (0 : Int32)), .val (.ref w_ANY), .val (.int (0 : Int32)), .val (.int (1 : Int32)), .val (.int (1 : Int32)), .val (.int (1 : Int32))] [(.int (1 : Int32)), (.int (1 : Int32)), (.int (0 : Int32)), (.ref w_ANY)])) rfl (by rw [hml]; rfl) (Steps.refl _) (argsL := [(.int (0 : Int32)), (.int (1 : Int32)), (.int (1 : Int32))]) (rest := []) (lenOf pd_2 rfl) rfl (by show 2 * 0 + _ ≤ _; exact Nat.le_of_eq rfl) (hb hby at_92) (fun _ _ => ⟨rfl, e1, (by decide : 0 + 0 ≤ _), (by decide : 0 + 0 ≤ _)⟩)
          dsimp only [Pt.U, Pt.locs, Pt.cells, Pt.slots] at X5 l5_ y5_ z5_ st5 hQ5
          subst l5_ y5_ z5_
          obtain ⟨rfl, N5q, e5⟩ := hQ5
          have N5 := Fr.app N1 N5q
          refine Go.tr st5 ?_
          show Go p e below (T5.setTop (mkF m 95 #[.val (.int p1), .val (.int p2), .val (.int (0 : Int32)), .val (.ref w_ANY), .val (.int (0 : Int32)), .val (.int (1 : Int32)), .val (.int (1 : Int32)), .val (.int (1 : Int32))] [(.int (1 : Int32))])) _
          refine Go.st (fun _ k_ => XS.iload X5.here hx rfl (hb hby at_95) rfl k_) ?_
          show Go p e below (T5.setTop (mkF m 97 #[.val (.int p1), .val (.int p2), .val (.int (0 : Int32)), .val (.ref w_ANY), .val (.int (0 : Int32)), .val (.int (1 : Int32)), .val (.int (1 : Int32)), .val (.int (1 : Int32))] [(.int (1 : Int32)), (.int (1 : Int32))])) _
          have hc97 : (1 : Int32) = (1 : Int32) := by decide
          refine Go.st (fun _ k_ => XS.icmpNo X5.here hx rfl (hb hby at_97) rfl (teq hc97).2 k_) ?_
          show Go p e below (T5.setTop (mkF m 100 #[.val (.int p1), .val (.int p2), .val (.int (0 : Int32)), .val (.ref w_ANY), .val (.int (0 : Int32)), .val (.int (1 : Int32)), .val (.int (1 : Int32)), .val (.int (1 : Int32))] [])) _
          refine Go.st (fun _ k_ => XS.iconst X5.here hx rfl (hb hby at_100) k_) ?_
          show Go p e below (T5.setTop (mkF m 101 #[.val (.int p1), .val (.int p2), .val (.int (0 : Int32)), .val (.ref w_ANY), .val (.int (0 : Int32)), .val (.int (1 : Int32)), .val (.int (1 : Int32)), .val (.int (1 : Int32))] [(.int (1 : Int32))])) _
          refine Go.st (fun _ k_ => XS.goto X5.here hx rfl (pc0 := 101) (pc' := 105) rfl (hb hby at_101) (by decide) (by decide) k_) ?_
          show Go p e below (T5.setTop (mkF m 105 #[.val (.int p1), .val (.int p2), .val (.int (0 : Int32)), .val (.ref w_ANY), .val (.int (0 : Int32)), .val (.int (1 : Int32)), .val (.int (1 : Int32)), .val (.int (1 : Int32))] [(.int (1 : Int32))])) _
          refine Go.fin X5 (v := some (.int (1 : Int32))) (fun h_ => by rw [Bd.returns] at h_; cases h_) Bd.notSynchronized (fun _ hr => retN X5 hx (t := .boolean) Bd.returns (by simp) (hb hby at_105) hr) (fun U' hU hF => ⟨_, _, rfl, ?_, hF.1, hF.2.1, hF.2.2.mono (by decide) (by decide)⟩)
          exact ⟨(congrArg (fun z_ : Int32 => some (Value.int z_)) (show (1 : Int32) = (1 : Int32) from rfl)), N5⟩
    · refine Go.st (fun _ k_ => XS.ifNo X1.here hx rfl (hb hby at_12) rfl ((if0 _ _).trans (feq hc12).1) k_) ?_
      show Go p e below (T1.setTop (mkF m 15 #[.val (.int p1), .val (.int p2), .val (.int (0 : Int32)), .val (.ref w_ANY), .unset, .unset, .unset, .unset] [])) _
      refine Go.st (fun _ k_ => XS.iconst X1.here hx rfl (hb hby at_15) k_) ?_
      show Go p e below (T1.setTop (mkF m 16 #[.val (.int p1), .val (.int p2), .val (.int (0 : Int32)), .val (.ref w_ANY), .unset, .unset, .unset, .unset] [(.int (1 : Int32))])) _
      refine Go.st (fun _ k_ => XS.goto X1.here hx rfl (pc0 := 16) (pc' := 20) rfl (hb hby at_16) (by decide) (by decide) k_) ?_
      show Go p e below (T1.setTop (mkF m 20 #[.val (.int p1), .val (.int p2), .val (.int (0 : Int32)), .val (.ref w_ANY), .unset, .unset, .unset, .unset] [(.int (1 : Int32))])) _
      refine Go.st (fun _ k_ => XS.istore X1.here hx rfl (hb hby at_20) rfl (l' := #[.val (.int p1), .val (.int p2), .val (.int (0 : Int32)), .val (.ref w_ANY), .val (.int (1 : Int32)), .unset, .unset, .unset]) rfl k_) ?_
      show Go p e below (T1.setTop (mkF m 22 #[.val (.int p1), .val (.int p2), .val (.int (0 : Int32)), .val (.ref w_ANY), .val (.int (1 : Int32)), .unset, .unset, .unset] [])) _
      refine Go.st (fun _ k_ => XS.iloadN X1.here hx rfl (hb hby at_22) rfl k_) ?_
      show Go p e below (T1.setTop (mkF m 23 #[.val (.int p1), .val (.int p2), .val (.int (0 : Int32)), .val (.ref w_ANY), .val (.int (1 : Int32)), .unset, .unset, .unset] [(.int p2)])) _
      refine Go.st (fun _ k_ => XS.iconst X1.here hx rfl (hb hby at_23) k_) ?_
      show Go p e below (T1.setTop (mkF m 24 #[.val (.int p1), .val (.int p2), .val (.int (0 : Int32)), .val (.ref w_ANY), .val (.int (1 : Int32)), .unset, .unset, .unset] [(.int (2 : Int32)), (.int p2)])) _
      refine Go.st (fun _ k_ => XS.iand X1.here hx rfl (hb hby at_24) rfl k_) ?_
      show Go p e below (T1.setTop (mkF m 25 #[.val (.int p1), .val (.int p2), .val (.int (0 : Int32)), .val (.ref w_ANY), .val (.int (1 : Int32)), .unset, .unset, .unset] [(.int (p2 &&& (2 : Int32)))])) _
      by_cases hc25 : (p2 &&& (2 : Int32)) = (0 : Int32)
      · refine Go.st (fun _ k_ => XS.ifYes X1.here hx rfl (pc0 := 25) (pc' := 32) rfl (hb hby at_25) rfl ((if0 _ _).trans (teq hc25).1) (by decide) (by decide) k_) ?_
        show Go p e below (T1.setTop (mkF m 32 #[.val (.int p1), .val (.int p2), .val (.int (0 : Int32)), .val (.ref w_ANY), .val (.int (1 : Int32)), .unset, .unset, .unset] [])) _
        refine Go.st (fun _ k_ => XS.iconst X1.here hx rfl (hb hby at_32) k_) ?_
        show Go p e below (T1.setTop (mkF m 33 #[.val (.int p1), .val (.int p2), .val (.int (0 : Int32)), .val (.ref w_ANY), .val (.int (1 : Int32)), .unset, .unset, .unset] [(.int (0 : Int32))])) _
        refine Go.st (fun _ k_ => XS.istore X1.here hx rfl (hb hby at_33) rfl (l' := #[.val (.int p1), .val (.int p2), .val (.int (0 : Int32)), .val (.ref w_ANY), .val (.int (1 : Int32)), .val (.int (0 : Int32)), .unset, .unset]) rfl k_) ?_
        show Go p e below (T1.setTop (mkF m 35 #[.val (.int p1), .val (.int p2), .val (.int (0 : Int32)), .val (.ref w_ANY), .val (.int (1 : Int32)), .val (.int (0 : Int32)), .unset, .unset] [])) _
        refine Go.st (fun _ k_ => XS.iloadN X1.here hx rfl (hb hby at_35) rfl k_) ?_
        show Go p e below (T1.setTop (mkF m 36 #[.val (.int p1), .val (.int p2), .val (.int (0 : Int32)), .val (.ref w_ANY), .val (.int (1 : Int32)), .val (.int (0 : Int32)), .unset, .unset] [(.int p2)])) _
        refine Go.st (fun _ k_ => XS.iconst X1.here hx rfl (hb hby at_36) k_) ?_
        show Go p e below (T1.setTop (mkF m 37 #[.val (.int p1), .val (.int p2), .val (.int (0 : Int32)), .val (.ref w_ANY), .val (.int (1 : Int32)), .val (.int (0 : Int32)), .unset, .unset] [(.int (4 : Int32)), (.int p2)])) _
        refine Go.st (fun _ k_ => XS.iand X1.here hx rfl (hb hby at_37) rfl k_) ?_
        show Go p e below (T1.setTop (mkF m 38 #[.val (.int p1), .val (.int p2), .val (.int (0 : Int32)), .val (.ref w_ANY), .val (.int (1 : Int32)), .val (.int (0 : Int32)), .unset, .unset] [(.int (p2 &&& (4 : Int32)))])) _
        by_cases hc38 : (p2 &&& (4 : Int32)) = (0 : Int32)
        · refine Go.st (fun _ k_ => XS.ifYes X1.here hx rfl (pc0 := 38) (pc' := 45) rfl (hb hby at_38) rfl ((if0 _ _).trans (teq hc38).1) (by decide) (by decide) k_) ?_
          show Go p e below (T1.setTop (mkF m 45 #[.val (.int p1), .val (.int p2), .val (.int (0 : Int32)), .val (.ref w_ANY), .val (.int (1 : Int32)), .val (.int (0 : Int32)), .unset, .unset] [])) _
          refine Go.st (fun _ k_ => XS.iconst X1.here hx rfl (hb hby at_45) k_) ?_
          show Go p e below (T1.setTop (mkF m 46 #[.val (.int p1), .val (.int p2), .val (.int (0 : Int32)), .val (.ref w_ANY), .val (.int (1 : Int32)), .val (.int (0 : Int32)), .unset, .unset] [(.int (0 : Int32))])) _
          refine Go.st (fun _ k_ => XS.istore X1.here hx rfl (hb hby at_46) rfl (l' := #[.val (.int p1), .val (.int p2), .val (.int (0 : Int32)), .val (.ref w_ANY), .val (.int (1 : Int32)), .val (.int (0 : Int32)), .val (.int (0 : Int32)), .unset]) rfl k_) ?_
          show Go p e below (T1.setTop (mkF m 48 #[.val (.int p1), .val (.int p2), .val (.int (0 : Int32)), .val (.ref w_ANY), .val (.int (1 : Int32)), .val (.int (0 : Int32)), .val (.int (0 : Int32)), .unset] [])) _
          refine Go.st (fun _ k_ => XS.iloadN X1.here hx rfl (hb hby at_48) rfl k_) ?_
          show Go p e below (T1.setTop (mkF m 49 #[.val (.int p1), .val (.int p2), .val (.int (0 : Int32)), .val (.ref w_ANY), .val (.int (1 : Int32)), .val (.int (0 : Int32)), .val (.int (0 : Int32)), .unset] [(.int (0 : Int32))])) _
          refine Go.st (fun _ k_ => XS.iconst X1.here hx rfl (hb hby at_49) k_) ?_
          show Go p e below (T1.setTop (mkF m 50 #[.val (.int p1), .val (.int p2), .val (.int (0 : Int32)), .val (.ref w_ANY), .val (.int (1 : Int32)), .val (.int (0 : Int32)), .val (.int (0 : Int32)), .unset] [(.int (1 : Int32)), (.int (0 : Int32))])) _
          refine Go.st (fun _ k_ => XS.icmpYes X1.here hx rfl (pc0 := 50) (pc' := 58) rfl (hb hby at_50) rfl (tlt (by decide : (0 : Int32) < (1 : Int32))).1 (by decide) (by decide) k_) ?_
          show Go p e below (T1.setTop (mkF m 58 #[.val (.int p1), .val (.int p2), .val (.int (0 : Int32)), .val (.ref w_ANY), .val (.int (1 : Int32)), .val (.int (0 : Int32)), .val (.int (0 : Int32)), .unset] [])) _
          refine Go.st (fun _ k_ => XS.iloadN X1.here hx rfl (hb hby at_58) rfl k_) ?_
          show Go p e below (T1.setTop (mkF m 59 #[.val (.int p1), .val (.int p2), .val (.int (0 : Int32)), .val (.ref w_ANY), .val (.int (1 : Int32)), .val (.int (0 : Int32)), .val (.int (0 : Int32)), .unset] [(.int (0 : Int32))])) _
          refine Go.st (fun _ k_ => XS.iconst X1.here hx rfl (hb hby at_59) k_) ?_
          show Go p e below (T1.setTop (mkF m 60 #[.val (.int p1), .val (.int p2), .val (.int (0 : Int32)), .val (.ref w_ANY), .val (.int (1 : Int32)), .val (.int (0 : Int32)), .val (.int (0 : Int32)), .unset] [(.int (2 : Int32)), (.int (0 : Int32))])) _
          refine Go.st (fun _ k_ => XS.icmpYes X1.here hx rfl (pc0 := 60) (pc' := 68) rfl (hb hby at_60) rfl (tlt (by decide : (0 : Int32) < (2 : Int32))).1 (by decide) (by decide) k_) ?_
          show Go p e below (T1.setTop (mkF m 68 #[.val (.int p1), .val (.int p2), .val (.int (0 : Int32)), .val (.ref w_ANY), .val (.int (1 : Int32)), .val (.int (0 : Int32)), .val (.int (0 : Int32)), .unset] [])) _
          refine Go.st (fun _ k_ => XS.iloadN X1.here hx rfl (hb hby at_68) rfl k_) ?_
          show Go p e below (T1.setTop (mkF m 69 #[.val (.int p1), .val (.int p2), .val (.int (0 : Int32)), .val (.ref w_ANY), .val (.int (1 : Int32)), .val (.int (0 : Int32)), .val (.int (0 : Int32)), .unset] [(.int (0 : Int32))])) _
          refine Go.st (fun _ k_ => XS.iconst X1.here hx rfl (hb hby at_69) k_) ?_
          show Go p e below (T1.setTop (mkF m 70 #[.val (.int p1), .val (.int p2), .val (.int (0 : Int32)), .val (.ref w_ANY), .val (.int (1 : Int32)), .val (.int (0 : Int32)), .val (.int (0 : Int32)), .unset] [(.int (3 : Int32)), (.int (0 : Int32))])) _
          refine Go.st (fun _ k_ => XS.icmpYes X1.here hx rfl (pc0 := 70) (pc' := 78) rfl (hb hby at_70) rfl (tlt (by decide : (0 : Int32) < (3 : Int32))).1 (by decide) (by decide) k_) ?_
          show Go p e below (T1.setTop (mkF m 78 #[.val (.int p1), .val (.int p2), .val (.int (0 : Int32)), .val (.ref w_ANY), .val (.int (1 : Int32)), .val (.int (0 : Int32)), .val (.int (0 : Int32)), .unset] [])) _
          refine Go.st (fun _ k_ => XS.iconst X1.here hx rfl (hb hby at_78) k_) ?_
          show Go p e below (T1.setTop (mkF m 79 #[.val (.int p1), .val (.int p2), .val (.int (0 : Int32)), .val (.ref w_ANY), .val (.int (1 : Int32)), .val (.int (0 : Int32)), .val (.int (0 : Int32)), .unset] [(.int (1 : Int32))])) _
          refine Go.st (fun _ k_ => XS.goto X1.here hx rfl (pc0 := 79) (pc' := 83) rfl (hb hby at_79) (by decide) (by decide) k_) ?_
          show Go p e below (T1.setTop (mkF m 83 #[.val (.int p1), .val (.int p2), .val (.int (0 : Int32)), .val (.ref w_ANY), .val (.int (1 : Int32)), .val (.int (0 : Int32)), .val (.int (0 : Int32)), .unset] [(.int (1 : Int32))])) _
          refine Go.st (fun _ k_ => XS.istore X1.here hx rfl (hb hby at_83) rfl (l' := #[.val (.int p1), .val (.int p2), .val (.int (0 : Int32)), .val (.ref w_ANY), .val (.int (1 : Int32)), .val (.int (0 : Int32)), .val (.int (0 : Int32)), .val (.int (1 : Int32))]) rfl k_) ?_
          show Go p e below (T1.setTop (mkF m 85 #[.val (.int p1), .val (.int p2), .val (.int (0 : Int32)), .val (.ref w_ANY), .val (.int (1 : Int32)), .val (.int (0 : Int32)), .val (.int (0 : Int32)), .val (.int (1 : Int32))] [])) _
          refine Go.st (fun _ k_ => XS.aloadN X1.here hx rfl (hb hby at_85) rfl rfl k_) ?_
          show Go p e below (T1.setTop (mkF m 86 #[.val (.int p1), .val (.int p2), .val (.int (0 : Int32)), .val (.ref w_ANY), .val (.int (1 : Int32)), .val (.int (0 : Int32)), .val (.int (0 : Int32)), .val (.int (1 : Int32))] [(.ref w_ANY)])) _
          refine Go.st (fun _ k_ => XS.iload X1.here hx rfl (hb hby at_86) rfl k_) ?_
          show Go p e below (T1.setTop (mkF m 88 #[.val (.int p1), .val (.int p2), .val (.int (0 : Int32)), .val (.ref w_ANY), .val (.int (1 : Int32)), .val (.int (0 : Int32)), .val (.int (0 : Int32)), .val (.int (1 : Int32))] [(.int (1 : Int32)), (.ref w_ANY)])) _
          refine Go.st (fun _ k_ => XS.iload X1.here hx rfl (hb hby at_88) rfl k_) ?_
          show Go p e below (T1.setTop (mkF m 90 #[.val (.int p1), .val (.int p2), .val (.int (0 : Int32)), .val (.ref w_ANY), .val (.int (1 : Int32)), .val (.int (0 : Int32)), .val (.int (0 : Int32)), .val (.int (1 : Int32))] [(.int (0 : Int32)), (.int (1 : Int32)), (.ref w_ANY)])) _
          refine Go.st (fun _ k_ => XS.iload X1.here hx rfl (hb hby at_90) rfl k_) ?_
          show Go p e below (T1.setTop (mkF m 92 #[.val (.int p1), .val (.int p2), .val (.int (0 : Int32)), .val (.ref w_ANY), .val (.int (1 : Int32)), .val (.int (0 : Int32)), .val (.int (0 : Int32)), .val (.int (1 : Int32))] [(.int (0 : Int32)), (.int (0 : Int32)), (.int (1 : Int32)), (.ref w_ANY)])) _
          obtain ⟨cq6, kq6, q6a, q6b, q6c⟩ := isOf hZ e1 E_w_ANY
          obtain ⟨_, _, ⟨T6, L6, k6_, n6_⟩, -, X6, ⟨Lc6, hQ6, l6_, y6_, z6_⟩, st6⟩ := X1.virtualBack hx (y := (⟨"com/example/patuxent/patuxent/PasswordComplexity", "isMetBy", "(ZZZ)Z"⟩ : MethodName)) (z := (⟨"com/example/patuxent/patuxent/PasswordComplexity", "isMetBy", "(ZZZ)Z"⟩ : MethodName)) hown (mvT hZ (hw _ (List.mem_of_getElem? (i := 7) rfl))) (mvT hZ (hw _ (List.mem_of_getElem? (i := 8) rfl))) (notFace_of_selects (args := #[]) (mvT hZ (hw _ (List.mem_of_getElem? (i := 10) rfl)))) (mvT hZ (hw _ (List.mem_of_getElem? (i := 10) rfl))) (mvT hZ (hw _ (List.mem_of_getElem? (i := 9) rfl))) (by decide) (backOf (W := 0) (rm2_0 l Z a0 hw [] w_ANY (1 : Int32) (0 : Int32) (0 : Int32) h0 n0 Z0 E_w_ANY F_ANY) hZ (hw _ (List.mem_of_getElem? (i := 11) rfl)) (hw _ (List.mem_of_getElem? (i := 5) rfl)) (by decide) (by decide)) q6a q6c (g := (mkF m 92 #[.val (.int p1), .val (.int p2), .val (.int (0 : Int32)), .val (.ref w_ANY), .val (.int (1 : Int32)), .val (.int (0 : Int32)), .val (.int (0 : Int32)), .val (.int (1 : Int32))] [(.int (0 : Int32)), (.int (0 : Int32)), (.int (1 : Int32)), (.ref w_ANY)])) rfl (by rw [hml]; rfl) (Steps.refl _) (argsL := [(.int (1 : Int32)), (.int (0 : Int32)), (.int (0 : Int32))]) (rest := []) (lenOf pd_2 rfl) rfl (by show 2 * 0 + _ ≤ _; exact Nat.le_of_eq rfl) (hb hby at_92) (fun _ _ => ⟨rfl, e1, (by decide : 0 + 0 ≤ _), (by decide : 0 + 0 ≤ _)⟩)
          dsimp only [Pt.U, Pt.locs, Pt.cells, Pt.slots] at X6 l6_ y6_ z6_ st6 hQ6
          subst l6_ y6_ z6_
          obtain ⟨rfl, N6q, e6⟩ := hQ6
          have N6 := Fr.app N1 N6q
          refine Go.tr st6 ?_
          show Go p e below (T6.setTop (mkF m 95 #[.val (.int p1), .val (.int p2), .val (.int (0 : Int32)), .val (.ref w_ANY), .val (.int (1 : Int32)), .val (.int (0 : Int32)), .val (.int (0 : Int32)), .val (.int (1 : Int32))] [(.int (1 : Int32))])) _
          refine Go.st (fun _ k_ => XS.iload X6.here hx rfl (hb hby at_95) rfl k_) ?_
          show Go p e below (T6.setTop (mkF m 97 #[.val (.int p1), .val (.int p2), .val (.int (0 : Int32)), .val (.ref w_ANY), .val (.int (1 : Int32)), .val (.int (0 : Int32)), .val (.int (0 : Int32)), .val (.int (1 : Int32))] [(.int (1 : Int32)), (.int (1 : Int32))])) _
          have hc97 : (1 : Int32) = (1 : Int32) := by decide
          refine Go.st (fun _ k_ => XS.icmpNo X6.here hx rfl (hb hby at_97) rfl (teq hc97).2 k_) ?_
          show Go p e below (T6.setTop (mkF m 100 #[.val (.int p1), .val (.int p2), .val (.int (0 : Int32)), .val (.ref w_ANY), .val (.int (1 : Int32)), .val (.int (0 : Int32)), .val (.int (0 : Int32)), .val (.int (1 : Int32))] [])) _
          refine Go.st (fun _ k_ => XS.iconst X6.here hx rfl (hb hby at_100) k_) ?_
          show Go p e below (T6.setTop (mkF m 101 #[.val (.int p1), .val (.int p2), .val (.int (0 : Int32)), .val (.ref w_ANY), .val (.int (1 : Int32)), .val (.int (0 : Int32)), .val (.int (0 : Int32)), .val (.int (1 : Int32))] [(.int (1 : Int32))])) _
          refine Go.st (fun _ k_ => XS.goto X6.here hx rfl (pc0 := 101) (pc' := 105) rfl (hb hby at_101) (by decide) (by decide) k_) ?_
          show Go p e below (T6.setTop (mkF m 105 #[.val (.int p1), .val (.int p2), .val (.int (0 : Int32)), .val (.ref w_ANY), .val (.int (1 : Int32)), .val (.int (0 : Int32)), .val (.int (0 : Int32)), .val (.int (1 : Int32))] [(.int (1 : Int32))])) _
          refine Go.fin X6 (v := some (.int (1 : Int32))) (fun h_ => by rw [Bd.returns] at h_; cases h_) Bd.notSynchronized (fun _ hr => retN X6 hx (t := .boolean) Bd.returns (by simp) (hb hby at_105) hr) (fun U' hU hF => ⟨_, _, rfl, ?_, hF.1, hF.2.1, hF.2.2.mono (by decide) (by decide)⟩)
          exact ⟨(congrArg (fun z_ : Int32 => some (Value.int z_)) (show (1 : Int32) = (1 : Int32) from rfl)), N6⟩
        · refine Go.st (fun _ k_ => XS.ifNo X1.here hx rfl (hb hby at_38) rfl ((if0 _ _).trans (feq hc38).1) k_) ?_
          show Go p e below (T1.setTop (mkF m 41 #[.val (.int p1), .val (.int p2), .val (.int (0 : Int32)), .val (.ref w_ANY), .val (.int (1 : Int32)), .val (.int (0 : Int32)), .unset, .unset] [])) _
          refine Go.st (fun _ k_ => XS.iconst X1.here hx rfl (hb hby at_41) k_) ?_
          show Go p e below (T1.setTop (mkF m 42 #[.val (.int p1), .val (.int p2), .val (.int (0 : Int32)), .val (.ref w_ANY), .val (.int (1 : Int32)), .val (.int (0 : Int32)), .unset, .unset] [(.int (1 : Int32))])) _
          refine Go.st (fun _ k_ => XS.goto X1.here hx rfl (pc0 := 42) (pc' := 46) rfl (hb hby at_42) (by decide) (by decide) k_) ?_
          show Go p e below (T1.setTop (mkF m 46 #[.val (.int p1), .val (.int p2), .val (.int (0 : Int32)), .val (.ref w_ANY), .val (.int (1 : Int32)), .val (.int (0 : Int32)), .unset, .unset] [(.int (1 : Int32))])) _
          refine Go.st (fun _ k_ => XS.istore X1.here hx rfl (hb hby at_46) rfl (l' := #[.val (.int p1), .val (.int p2), .val (.int (0 : Int32)), .val (.ref w_ANY), .val (.int (1 : Int32)), .val (.int (0 : Int32)), .val (.int (1 : Int32)), .unset]) rfl k_) ?_
          show Go p e below (T1.setTop (mkF m 48 #[.val (.int p1), .val (.int p2), .val (.int (0 : Int32)), .val (.ref w_ANY), .val (.int (1 : Int32)), .val (.int (0 : Int32)), .val (.int (1 : Int32)), .unset] [])) _
          refine Go.st (fun _ k_ => XS.iloadN X1.here hx rfl (hb hby at_48) rfl k_) ?_
          show Go p e below (T1.setTop (mkF m 49 #[.val (.int p1), .val (.int p2), .val (.int (0 : Int32)), .val (.ref w_ANY), .val (.int (1 : Int32)), .val (.int (0 : Int32)), .val (.int (1 : Int32)), .unset] [(.int (0 : Int32))])) _
          refine Go.st (fun _ k_ => XS.iconst X1.here hx rfl (hb hby at_49) k_) ?_
          show Go p e below (T1.setTop (mkF m 50 #[.val (.int p1), .val (.int p2), .val (.int (0 : Int32)), .val (.ref w_ANY), .val (.int (1 : Int32)), .val (.int (0 : Int32)), .val (.int (1 : Int32)), .unset] [(.int (1 : Int32)), (.int (0 : Int32))])) _
          refine Go.st (fun _ k_ => XS.icmpYes X1.here hx rfl (pc0 := 50) (pc' := 58) rfl (hb hby at_50) rfl (tlt (by decide : (0 : Int32) < (1 : Int32))).1 (by decide) (by decide) k_) ?_
          show Go p e below (T1.setTop (mkF m 58 #[.val (.int p1), .val (.int p2), .val (.int (0 : Int32)), .val (.ref w_ANY), .val (.int (1 : Int32)), .val (.int (0 : Int32)), .val (.int (1 : Int32)), .unset] [])) _
          refine Go.st (fun _ k_ => XS.iloadN X1.here hx rfl (hb hby at_58) rfl k_) ?_
          show Go p e below (T1.setTop (mkF m 59 #[.val (.int p1), .val (.int p2), .val (.int (0 : Int32)), .val (.ref w_ANY), .val (.int (1 : Int32)), .val (.int (0 : Int32)), .val (.int (1 : Int32)), .unset] [(.int (0 : Int32))])) _
          refine Go.st (fun _ k_ => XS.iconst X1.here hx rfl (hb hby at_59) k_) ?_
          show Go p e below (T1.setTop (mkF m 60 #[.val (.int p1), .val (.int p2), .val (.int (0 : Int32)), .val (.ref w_ANY), .val (.int (1 : Int32)), .val (.int (0 : Int32)), .val (.int (1 : Int32)), .unset] [(.int (2 : Int32)), (.int (0 : Int32))])) _
          refine Go.st (fun _ k_ => XS.icmpYes X1.here hx rfl (pc0 := 60) (pc' := 68) rfl (hb hby at_60) rfl (tlt (by decide : (0 : Int32) < (2 : Int32))).1 (by decide) (by decide) k_) ?_
          show Go p e below (T1.setTop (mkF m 68 #[.val (.int p1), .val (.int p2), .val (.int (0 : Int32)), .val (.ref w_ANY), .val (.int (1 : Int32)), .val (.int (0 : Int32)), .val (.int (1 : Int32)), .unset] [])) _
          refine Go.st (fun _ k_ => XS.iloadN X1.here hx rfl (hb hby at_68) rfl k_) ?_
          show Go p e below (T1.setTop (mkF m 69 #[.val (.int p1), .val (.int p2), .val (.int (0 : Int32)), .val (.ref w_ANY), .val (.int (1 : Int32)), .val (.int (0 : Int32)), .val (.int (1 : Int32)), .unset] [(.int (0 : Int32))])) _
          refine Go.st (fun _ k_ => XS.iconst X1.here hx rfl (hb hby at_69) k_) ?_
          show Go p e below (T1.setTop (mkF m 70 #[.val (.int p1), .val (.int p2), .val (.int (0 : Int32)), .val (.ref w_ANY), .val (.int (1 : Int32)), .val (.int (0 : Int32)), .val (.int (1 : Int32)), .unset] [(.int (3 : Int32)), (.int (0 : Int32))])) _
          refine Go.st (fun _ k_ => XS.icmpYes X1.here hx rfl (pc0 := 70) (pc' := 78) rfl (hb hby at_70) rfl (tlt (by decide : (0 : Int32) < (3 : Int32))).1 (by decide) (by decide) k_) ?_
          show Go p e below (T1.setTop (mkF m 78 #[.val (.int p1), .val (.int p2), .val (.int (0 : Int32)), .val (.ref w_ANY), .val (.int (1 : Int32)), .val (.int (0 : Int32)), .val (.int (1 : Int32)), .unset] [])) _
          refine Go.st (fun _ k_ => XS.iconst X1.here hx rfl (hb hby at_78) k_) ?_
          show Go p e below (T1.setTop (mkF m 79 #[.val (.int p1), .val (.int p2), .val (.int (0 : Int32)), .val (.ref w_ANY), .val (.int (1 : Int32)), .val (.int (0 : Int32)), .val (.int (1 : Int32)), .unset] [(.int (1 : Int32))])) _
          refine Go.st (fun _ k_ => XS.goto X1.here hx rfl (pc0 := 79) (pc' := 83) rfl (hb hby at_79) (by decide) (by decide) k_) ?_
          show Go p e below (T1.setTop (mkF m 83 #[.val (.int p1), .val (.int p2), .val (.int (0 : Int32)), .val (.ref w_ANY), .val (.int (1 : Int32)), .val (.int (0 : Int32)), .val (.int (1 : Int32)), .unset] [(.int (1 : Int32))])) _
          refine Go.st (fun _ k_ => XS.istore X1.here hx rfl (hb hby at_83) rfl (l' := #[.val (.int p1), .val (.int p2), .val (.int (0 : Int32)), .val (.ref w_ANY), .val (.int (1 : Int32)), .val (.int (0 : Int32)), .val (.int (1 : Int32)), .val (.int (1 : Int32))]) rfl k_) ?_
          show Go p e below (T1.setTop (mkF m 85 #[.val (.int p1), .val (.int p2), .val (.int (0 : Int32)), .val (.ref w_ANY), .val (.int (1 : Int32)), .val (.int (0 : Int32)), .val (.int (1 : Int32)), .val (.int (1 : Int32))] [])) _
          refine Go.st (fun _ k_ => XS.aloadN X1.here hx rfl (hb hby at_85) rfl rfl k_) ?_
          show Go p e below (T1.setTop (mkF m 86 #[.val (.int p1), .val (.int p2), .val (.int (0 : Int32)), .val (.ref w_ANY), .val (.int (1 : Int32)), .val (.int (0 : Int32)), .val (.int (1 : Int32)), .val (.int (1 : Int32))] [(.ref w_ANY)])) _
          refine Go.st (fun _ k_ => XS.iload X1.here hx rfl (hb hby at_86) rfl k_) ?_
          show Go p e below (T1.setTop (mkF m 88 #[.val (.int p1), .val (.int p2), .val (.int (0 : Int32)), .val (.ref w_ANY), .val (.int (1 : Int32)), .val (.int (0 : Int32)), .val (.int (1 : Int32)), .val (.int (1 : Int32))] [(.int (1 : Int32)), (.ref w_ANY)])) _
          refine Go.st (fun _ k_ => XS.iload X1.here hx rfl (hb hby at_88) rfl k_) ?_
          show Go p e below (T1.setTop (mkF m 90 #[.val (.int p1), .val (.int p2), .val (.int (0 : Int32)), .val (.ref w_ANY), .val (.int (1 : Int32)), .val (.int (0 : Int32)), .val (.int (1 : Int32)), .val (.int (1 : Int32))] [(.int (0 : Int32)), (.int (1 : Int32)), (.ref w_ANY)])) _
          refine Go.st (fun _ k_ => XS.iload X1.here hx rfl (hb hby at_90) rfl k_) ?_
          show Go p e below (T1.setTop (mkF m 92 #[.val (.int p1), .val (.int p2), .val (.int (0 : Int32)), .val (.ref w_ANY), .val (.int (1 : Int32)), .val (.int (0 : Int32)), .val (.int (1 : Int32)), .val (.int (1 : Int32))] [(.int (1 : Int32)), (.int (0 : Int32)), (.int (1 : Int32)), (.ref w_ANY)])) _
          obtain ⟨cq7, kq7, q7a, q7b, q7c⟩ := isOf hZ e1 E_w_ANY
          obtain ⟨_, _, ⟨T7, L7, k7_, n7_⟩, -, X7, ⟨Lc7, hQ7, l7_, y7_, z7_⟩, st7⟩ := X1.virtualBack hx (y := (⟨"com/example/patuxent/patuxent/PasswordComplexity", "isMetBy", "(ZZZ)Z"⟩ : MethodName)) (z := (⟨"com/example/patuxent/patuxent/PasswordComplexity", "isMetBy", "(ZZZ)Z"⟩ : MethodName)) hown (mvT hZ (hw _ (List.mem_of_getElem? (i := 7) rfl))) (mvT hZ (hw _ (List.mem_of_getElem? (i := 8) rfl))) (notFace_of_selects (args := #[]) (mvT hZ (hw _ (List.mem_of_getElem? (i := 10) rfl)))) (mvT hZ (hw _ (List.mem_of_getElem? (i := 10) rfl))) (mvT hZ (hw _ (List.mem_of_getElem? (i := 9) rfl))) (by decide) (backOf (W := 0) (rm2_0 l Z a0 hw [] w_ANY (1 : Int32) (0 : Int32) (1 : Int32) h0 n0 Z0 E_w_ANY F_ANY) hZ (hw _ (List.mem_of_getElem? (i := 11) rfl)) (hw _ (List.mem_of_getElem? (i := 5) rfl)) (by decide) (by decide)) q7a q7c (g := (mkF m 92 #[.val (.int p1), .val (.int p2), .val (.int (0 : Int32)), .val (.ref w_ANY), .val (.int (1 : Int32)), .val (.int (0 : Int32)), .val (.int (1 : Int32)), .val (.int (1 : Int32))] [(.int (1 : Int32)), (.int (0 : Int32)), (.int (1 : Int32)), (.ref w_ANY)])) rfl (by rw [hml]; rfl) (Steps.refl _) (argsL := [(.int (1 : Int32)), (.int (0 : Int32)), (.int (1 : Int32))]) (rest := []) (lenOf pd_2 rfl) rfl (by show 2 * 0 + _ ≤ _; exact Nat.le_of_eq rfl) (hb hby at_92) (fun _ _ => ⟨rfl, e1, (by decide : 0 + 0 ≤ _), (by decide : 0 + 0 ≤ _)⟩)
          dsimp only [Pt.U, Pt.locs, Pt.cells, Pt.slots] at X7 l7_ y7_ z7_ st7 hQ7
          subst l7_ y7_ z7_
          obtain ⟨rfl, N7q, e7⟩ := hQ7
          have N7 := Fr.app N1 N7q
          refine Go.tr st7 ?_
          show Go p e below (T7.setTop (mkF m 95 #[.val (.int p1), .val (.int p2), .val (.int (0 : Int32)), .val (.ref w_ANY), .val (.int (1 : Int32)), .val (.int (0 : Int32)), .val (.int (1 : Int32)), .val (.int (1 : Int32))] [(.int (1 : Int32))])) _
          refine Go.st (fun _ k_ => XS.iload X7.here hx rfl (hb hby at_95) rfl k_) ?_
          show Go p e below (T7.setTop (mkF m 97 #[.val (.int p1), .val (.int p2), .val (.int (0 : Int32)), .val (.ref w_ANY), .val (.int (1 : Int32)), .val (.int (0 : Int32)), .val (.int (1 : Int32)), .val (.int (1 : Int32))] [(.int (1 : Int32)), (.int (1 : Int32))])) _
          have hc97 : (1 : Int32) = (1 : Int32) := by decide
          refine Go.st (fun _ k_ => XS.icmpNo X7.here hx rfl (hb hby at_97) rfl (teq hc97).2 k_) ?_
          show Go p e below (T7.setTop (mkF m 100 #[.val (.int p1), .val (.int p2), .val (.int (0 : Int32)), .val (.ref w_ANY), .val (.int (1 : Int32)), .val (.int (0 : Int32)), .val (.int (1 : Int32)), .val (.int (1 : Int32))] [])) _
          refine Go.st (fun _ k_ => XS.iconst X7.here hx rfl (hb hby at_100) k_) ?_
          show Go p e below (T7.setTop (mkF m 101 #[.val (.int p1), .val (.int p2), .val (.int (0 : Int32)), .val (.ref w_ANY), .val (.int (1 : Int32)), .val (.int (0 : Int32)), .val (.int (1 : Int32)), .val (.int (1 : Int32))] [(.int (1 : Int32))])) _
          refine Go.st (fun _ k_ => XS.goto X7.here hx rfl (pc0 := 101) (pc' := 105) rfl (hb hby at_101) (by decide) (by decide) k_) ?_
          show Go p e below (T7.setTop (mkF m 105 #[.val (.int p1), .val (.int p2), .val (.int (0 : Int32)), .val (.ref w_ANY), .val (.int (1 : Int32)), .val (.int (0 : Int32)), .val (.int (1 : Int32)), .val (.int (1 : Int32))] [(.int (1 : Int32))])) _
          refine Go.fin X7 (v := some (.int (1 : Int32))) (fun h_ => by rw [Bd.returns] at h_; cases h_) Bd.notSynchronized (fun _ hr => retN X7 hx (t := .boolean) Bd.returns (by simp) (hb hby at_105) hr) (fun U' hU hF => ⟨_, _, rfl, ?_, hF.1, hF.2.1, hF.2.2.mono (by decide) (by decide)⟩)
          exact ⟨(congrArg (fun z_ : Int32 => some (Value.int z_)) (show (1 : Int32) = (1 : Int32) from rfl)), N7⟩
      · refine Go.st (fun _ k_ => XS.ifNo X1.here hx rfl (hb hby at_25) rfl ((if0 _ _).trans (feq hc25).1) k_) ?_
        show Go p e below (T1.setTop (mkF m 28 #[.val (.int p1), .val (.int p2), .val (.int (0 : Int32)), .val (.ref w_ANY), .val (.int (1 : Int32)), .unset, .unset, .unset] [])) _
        refine Go.st (fun _ k_ => XS.iconst X1.here hx rfl (hb hby at_28) k_) ?_
        show Go p e below (T1.setTop (mkF m 29 #[.val (.int p1), .val (.int p2), .val (.int (0 : Int32)), .val (.ref w_ANY), .val (.int (1 : Int32)), .unset, .unset, .unset] [(.int (1 : Int32))])) _
        refine Go.st (fun _ k_ => XS.goto X1.here hx rfl (pc0 := 29) (pc' := 33) rfl (hb hby at_29) (by decide) (by decide) k_) ?_
        show Go p e below (T1.setTop (mkF m 33 #[.val (.int p1), .val (.int p2), .val (.int (0 : Int32)), .val (.ref w_ANY), .val (.int (1 : Int32)), .unset, .unset, .unset] [(.int (1 : Int32))])) _
        refine Go.st (fun _ k_ => XS.istore X1.here hx rfl (hb hby at_33) rfl (l' := #[.val (.int p1), .val (.int p2), .val (.int (0 : Int32)), .val (.ref w_ANY), .val (.int (1 : Int32)), .val (.int (1 : Int32)), .unset, .unset]) rfl k_) ?_
        show Go p e below (T1.setTop (mkF m 35 #[.val (.int p1), .val (.int p2), .val (.int (0 : Int32)), .val (.ref w_ANY), .val (.int (1 : Int32)), .val (.int (1 : Int32)), .unset, .unset] [])) _
        refine Go.st (fun _ k_ => XS.iloadN X1.here hx rfl (hb hby at_35) rfl k_) ?_
        show Go p e below (T1.setTop (mkF m 36 #[.val (.int p1), .val (.int p2), .val (.int (0 : Int32)), .val (.ref w_ANY), .val (.int (1 : Int32)), .val (.int (1 : Int32)), .unset, .unset] [(.int p2)])) _
        refine Go.st (fun _ k_ => XS.iconst X1.here hx rfl (hb hby at_36) k_) ?_
        show Go p e below (T1.setTop (mkF m 37 #[.val (.int p1), .val (.int p2), .val (.int (0 : Int32)), .val (.ref w_ANY), .val (.int (1 : Int32)), .val (.int (1 : Int32)), .unset, .unset] [(.int (4 : Int32)), (.int p2)])) _
        refine Go.st (fun _ k_ => XS.iand X1.here hx rfl (hb hby at_37) rfl k_) ?_
        show Go p e below (T1.setTop (mkF m 38 #[.val (.int p1), .val (.int p2), .val (.int (0 : Int32)), .val (.ref w_ANY), .val (.int (1 : Int32)), .val (.int (1 : Int32)), .unset, .unset] [(.int (p2 &&& (4 : Int32)))])) _
        by_cases hc38 : (p2 &&& (4 : Int32)) = (0 : Int32)
        · refine Go.st (fun _ k_ => XS.ifYes X1.here hx rfl (pc0 := 38) (pc' := 45) rfl (hb hby at_38) rfl ((if0 _ _).trans (teq hc38).1) (by decide) (by decide) k_) ?_
          show Go p e below (T1.setTop (mkF m 45 #[.val (.int p1), .val (.int p2), .val (.int (0 : Int32)), .val (.ref w_ANY), .val (.int (1 : Int32)), .val (.int (1 : Int32)), .unset, .unset] [])) _
          refine Go.st (fun _ k_ => XS.iconst X1.here hx rfl (hb hby at_45) k_) ?_
          show Go p e below (T1.setTop (mkF m 46 #[.val (.int p1), .val (.int p2), .val (.int (0 : Int32)), .val (.ref w_ANY), .val (.int (1 : Int32)), .val (.int (1 : Int32)), .unset, .unset] [(.int (0 : Int32))])) _
          refine Go.st (fun _ k_ => XS.istore X1.here hx rfl (hb hby at_46) rfl (l' := #[.val (.int p1), .val (.int p2), .val (.int (0 : Int32)), .val (.ref w_ANY), .val (.int (1 : Int32)), .val (.int (1 : Int32)), .val (.int (0 : Int32)), .unset]) rfl k_) ?_
          show Go p e below (T1.setTop (mkF m 48 #[.val (.int p1), .val (.int p2), .val (.int (0 : Int32)), .val (.ref w_ANY), .val (.int (1 : Int32)), .val (.int (1 : Int32)), .val (.int (0 : Int32)), .unset] [])) _
          refine Go.st (fun _ k_ => XS.iloadN X1.here hx rfl (hb hby at_48) rfl k_) ?_
          show Go p e below (T1.setTop (mkF m 49 #[.val (.int p1), .val (.int p2), .val (.int (0 : Int32)), .val (.ref w_ANY), .val (.int (1 : Int32)), .val (.int (1 : Int32)), .val (.int (0 : Int32)), .unset] [(.int (0 : Int32))])) _
          refine Go.st (fun _ k_ => XS.iconst X1.here hx rfl (hb hby at_49) k_) ?_
          show Go p e below (T1.setTop (mkF m 50 #[.val (.int p1), .val (.int p2), .val (.int (0 : Int32)), .val (.ref w_ANY), .val (.int (1 : Int32)), .val (.int (1 : Int32)), .val (.int (0 : Int32)), .unset] [(.int (1 : Int32)), (.int (0 : Int32))])) _
          refine Go.st (fun _ k_ => XS.icmpYes X1.here hx rfl (pc0 := 50) (pc' := 58) rfl (hb hby at_50) rfl (tlt (by decide : (0 : Int32) < (1 : Int32))).1 (by decide) (by decide) k_) ?_
          show Go p e below (T1.setTop (mkF m 58 #[.val (.int p1), .val (.int p2), .val (.int (0 : Int32)), .val (.ref w_ANY), .val (.int (1 : Int32)), .val (.int (1 : Int32)), .val (.int (0 : Int32)), .unset] [])) _
          refine Go.st (fun _ k_ => XS.iloadN X1.here hx rfl (hb hby at_58) rfl k_) ?_
          show Go p e below (T1.setTop (mkF m 59 #[.val (.int p1), .val (.int p2), .val (.int (0 : Int32)), .val (.ref w_ANY), .val (.int (1 : Int32)), .val (.int (1 : Int32)), .val (.int (0 : Int32)), .unset] [(.int (0 : Int32))])) _
          refine Go.st (fun _ k_ => XS.iconst X1.here hx rfl (hb hby at_59) k_) ?_
          show Go p e below (T1.setTop (mkF m 60 #[.val (.int p1), .val (.int p2), .val (.int (0 : Int32)), .val (.ref w_ANY), .val (.int (1 : Int32)), .val (.int (1 : Int32)), .val (.int (0 : Int32)), .unset] [(.int (2 : Int32)), (.int (0 : Int32))])) _
          refine Go.st (fun _ k_ => XS.icmpYes X1.here hx rfl (pc0 := 60) (pc' := 68) rfl (hb hby at_60) rfl (tlt (by decide : (0 : Int32) < (2 : Int32))).1 (by decide) (by decide) k_) ?_
          show Go p e below (T1.setTop (mkF m 68 #[.val (.int p1), .val (.int p2), .val (.int (0 : Int32)), .val (.ref w_ANY), .val (.int (1 : Int32)), .val (.int (1 : Int32)), .val (.int (0 : Int32)), .unset] [])) _
          refine Go.st (fun _ k_ => XS.iloadN X1.here hx rfl (hb hby at_68) rfl k_) ?_
          show Go p e below (T1.setTop (mkF m 69 #[.val (.int p1), .val (.int p2), .val (.int (0 : Int32)), .val (.ref w_ANY), .val (.int (1 : Int32)), .val (.int (1 : Int32)), .val (.int (0 : Int32)), .unset] [(.int (0 : Int32))])) _
          refine Go.st (fun _ k_ => XS.iconst X1.here hx rfl (hb hby at_69) k_) ?_
          show Go p e below (T1.setTop (mkF m 70 #[.val (.int p1), .val (.int p2), .val (.int (0 : Int32)), .val (.ref w_ANY), .val (.int (1 : Int32)), .val (.int (1 : Int32)), .val (.int (0 : Int32)), .unset] [(.int (3 : Int32)), (.int (0 : Int32))])) _
          refine Go.st (fun _ k_ => XS.icmpYes X1.here hx rfl (pc0 := 70) (pc' := 78) rfl (hb hby at_70) rfl (tlt (by decide : (0 : Int32) < (3 : Int32))).1 (by decide) (by decide) k_) ?_
          show Go p e below (T1.setTop (mkF m 78 #[.val (.int p1), .val (.int p2), .val (.int (0 : Int32)), .val (.ref w_ANY), .val (.int (1 : Int32)), .val (.int (1 : Int32)), .val (.int (0 : Int32)), .unset] [])) _
          refine Go.st (fun _ k_ => XS.iconst X1.here hx rfl (hb hby at_78) k_) ?_
          show Go p e below (T1.setTop (mkF m 79 #[.val (.int p1), .val (.int p2), .val (.int (0 : Int32)), .val (.ref w_ANY), .val (.int (1 : Int32)), .val (.int (1 : Int32)), .val (.int (0 : Int32)), .unset] [(.int (1 : Int32))])) _
          refine Go.st (fun _ k_ => XS.goto X1.here hx rfl (pc0 := 79) (pc' := 83) rfl (hb hby at_79) (by decide) (by decide) k_) ?_
          show Go p e below (T1.setTop (mkF m 83 #[.val (.int p1), .val (.int p2), .val (.int (0 : Int32)), .val (.ref w_ANY), .val (.int (1 : Int32)), .val (.int (1 : Int32)), .val (.int (0 : Int32)), .unset] [(.int (1 : Int32))])) _
          refine Go.st (fun _ k_ => XS.istore X1.here hx rfl (hb hby at_83) rfl (l' := #[.val (.int p1), .val (.int p2), .val (.int (0 : Int32)), .val (.ref w_ANY), .val (.int (1 : Int32)), .val (.int (1 : Int32)), .val (.int (0 : Int32)), .val (.int (1 : Int32))]) rfl k_) ?_
          show Go p e below (T1.setTop (mkF m 85 #[.val (.int p1), .val (.int p2), .val (.int (0 : Int32)), .val (.ref w_ANY), .val (.int (1 : Int32)), .val (.int (1 : Int32)), .val (.int (0 : Int32)), .val (.int (1 : Int32))] [])) _
          refine Go.st (fun _ k_ => XS.aloadN X1.here hx rfl (hb hby at_85) rfl rfl k_) ?_
          show Go p e below (T1.setTop (mkF m 86 #[.val (.int p1), .val (.int p2), .val (.int (0 : Int32)), .val (.ref w_ANY), .val (.int (1 : Int32)), .val (.int (1 : Int32)), .val (.int (0 : Int32)), .val (.int (1 : Int32))] [(.ref w_ANY)])) _
          refine Go.st (fun _ k_ => XS.iload X1.here hx rfl (hb hby at_86) rfl k_) ?_
          show Go p e below (T1.setTop (mkF m 88 #[.val (.int p1), .val (.int p2), .val (.int (0 : Int32)), .val (.ref w_ANY), .val (.int (1 : Int32)), .val (.int (1 : Int32)), .val (.int (0 : Int32)), .val (.int (1 : Int32))] [(.int (1 : Int32)), (.ref w_ANY)])) _
          refine Go.st (fun _ k_ => XS.iload X1.here hx rfl (hb hby at_88) rfl k_) ?_
          show Go p e below (T1.setTop (mkF m 90 #[.val (.int p1), .val (.int p2), .val (.int (0 : Int32)), .val (.ref w_ANY), .val (.int (1 : Int32)), .val (.int (1 : Int32)), .val (.int (0 : Int32)), .val (.int (1 : Int32))] [(.int (1 : Int32)), (.int (1 : Int32)), (.ref w_ANY)])) _
          refine Go.st (fun _ k_ => XS.iload X1.here hx rfl (hb hby at_90) rfl k_) ?_
          show Go p e below (T1.setTop (mkF m 92 #[.val (.int p1), .val (.int p2), .val (.int (0 : Int32)), .val (.ref w_ANY), .val (.int (1 : Int32)), .val (.int (1 : Int32)), .val (.int (0 : Int32)), .val (.int (1 : Int32))] [(.int (0 : Int32)), (.int (1 : Int32)), (.int (1 : Int32)), (.ref w_ANY)])) _
          obtain ⟨cq8, kq8, q8a, q8b, q8c⟩ := isOf hZ e1 E_w_ANY
          obtain ⟨_, _, ⟨T8, L8, k8_, n8_⟩, -, X8, ⟨Lc8, hQ8, l8_, y8_, z8_⟩, st8⟩ := X1.virtualBack hx (y := (⟨"com/example/patuxent/patuxent/PasswordComplexity", "isMetBy", "(ZZZ)Z"⟩ : MethodName)) (z := (⟨"com/example/patuxent/patuxent/PasswordComplexity", "isMetBy", "(ZZZ)Z"⟩ : MethodName)) hown (mvT hZ (hw _ (List.mem_of_getElem? (i := 7) rfl))) (mvT hZ (hw _ (List.mem_of_getElem? (i := 8) rfl))) (notFace_of_selects (args := #[]) (mvT hZ (hw _ (List.mem_of_getElem? (i := 10) rfl)))) (mvT hZ (hw _ (List.mem_of_getElem? (i := 10) rfl))) (mvT hZ (hw _ (List.mem_of_getElem? (i := 9) rfl))) (by decide) (backOf (W := 0) (rm2_0 l Z a0 hw [] w_ANY (1 : Int32) (1 : Int32) (0 : Int32) h0 n0 Z0 E_w_ANY F_ANY) hZ (hw _ (List.mem_of_getElem? (i := 11) rfl)) (hw _ (List.mem_of_getElem? (i := 5) rfl)) (by decide) (by decide)) q8a q8c (g := (mkF m 92 #[.val (.int p1), .val (.int p2), .val (.int (0 : Int32)), .val (.ref w_ANY), .val (.int (1 : Int32)), .val (.int (1 : Int32)), .val (.int (0 : Int32)), .val (.int (1 : Int32))] [(.int (0 : Int32)), (.int (1 : Int32)), (.int (1 : Int32)), (.ref w_ANY)])) rfl (by rw [hml]; rfl) (Steps.refl _) (argsL := [(.int (1 : Int32)), (.int (1 : Int32)), (.int (0 : Int32))]) (rest := []) (lenOf pd_2 rfl) rfl (by show 2 * 0 + _ ≤ _; exact Nat.le_of_eq rfl) (hb hby at_92) (fun _ _ => ⟨rfl, e1, (by decide : 0 + 0 ≤ _), (by decide : 0 + 0 ≤ _)⟩)
          dsimp only [Pt.U, Pt.locs, Pt.cells, Pt.slots] at X8 l8_ y8_ z8_ st8 hQ8
          subst l8_ y8_ z8_
          obtain ⟨rfl, N8q, e8⟩ := hQ8
          have N8 := Fr.app N1 N8q
          refine Go.tr st8 ?_
          show Go p e below (T8.setTop (mkF m 95 #[.val (.int p1), .val (.int p2), .val (.int (0 : Int32)), .val (.ref w_ANY), .val (.int (1 : Int32)), .val (.int (1 : Int32)), .val (.int (0 : Int32)), .val (.int (1 : Int32))] [(.int (1 : Int32))])) _
          refine Go.st (fun _ k_ => XS.iload X8.here hx rfl (hb hby at_95) rfl k_) ?_
          show Go p e below (T8.setTop (mkF m 97 #[.val (.int p1), .val (.int p2), .val (.int (0 : Int32)), .val (.ref w_ANY), .val (.int (1 : Int32)), .val (.int (1 : Int32)), .val (.int (0 : Int32)), .val (.int (1 : Int32))] [(.int (1 : Int32)), (.int (1 : Int32))])) _
          have hc97 : (1 : Int32) = (1 : Int32) := by decide
          refine Go.st (fun _ k_ => XS.icmpNo X8.here hx rfl (hb hby at_97) rfl (teq hc97).2 k_) ?_
          show Go p e below (T8.setTop (mkF m 100 #[.val (.int p1), .val (.int p2), .val (.int (0 : Int32)), .val (.ref w_ANY), .val (.int (1 : Int32)), .val (.int (1 : Int32)), .val (.int (0 : Int32)), .val (.int (1 : Int32))] [])) _
          refine Go.st (fun _ k_ => XS.iconst X8.here hx rfl (hb hby at_100) k_) ?_
          show Go p e below (T8.setTop (mkF m 101 #[.val (.int p1), .val (.int p2), .val (.int (0 : Int32)), .val (.ref w_ANY), .val (.int (1 : Int32)), .val (.int (1 : Int32)), .val (.int (0 : Int32)), .val (.int (1 : Int32))] [(.int (1 : Int32))])) _
          refine Go.st (fun _ k_ => XS.goto X8.here hx rfl (pc0 := 101) (pc' := 105) rfl (hb hby at_101) (by decide) (by decide) k_) ?_
          show Go p e below (T8.setTop (mkF m 105 #[.val (.int p1), .val (.int p2), .val (.int (0 : Int32)), .val (.ref w_ANY), .val (.int (1 : Int32)), .val (.int (1 : Int32)), .val (.int (0 : Int32)), .val (.int (1 : Int32))] [(.int (1 : Int32))])) _
          refine Go.fin X8 (v := some (.int (1 : Int32))) (fun h_ => by rw [Bd.returns] at h_; cases h_) Bd.notSynchronized (fun _ hr => retN X8 hx (t := .boolean) Bd.returns (by simp) (hb hby at_105) hr) (fun U' hU hF => ⟨_, _, rfl, ?_, hF.1, hF.2.1, hF.2.2.mono (by decide) (by decide)⟩)
          exact ⟨(congrArg (fun z_ : Int32 => some (Value.int z_)) (show (1 : Int32) = (1 : Int32) from rfl)), N8⟩
        · refine Go.st (fun _ k_ => XS.ifNo X1.here hx rfl (hb hby at_38) rfl ((if0 _ _).trans (feq hc38).1) k_) ?_
          show Go p e below (T1.setTop (mkF m 41 #[.val (.int p1), .val (.int p2), .val (.int (0 : Int32)), .val (.ref w_ANY), .val (.int (1 : Int32)), .val (.int (1 : Int32)), .unset, .unset] [])) _
          refine Go.st (fun _ k_ => XS.iconst X1.here hx rfl (hb hby at_41) k_) ?_
          show Go p e below (T1.setTop (mkF m 42 #[.val (.int p1), .val (.int p2), .val (.int (0 : Int32)), .val (.ref w_ANY), .val (.int (1 : Int32)), .val (.int (1 : Int32)), .unset, .unset] [(.int (1 : Int32))])) _
          refine Go.st (fun _ k_ => XS.goto X1.here hx rfl (pc0 := 42) (pc' := 46) rfl (hb hby at_42) (by decide) (by decide) k_) ?_
          show Go p e below (T1.setTop (mkF m 46 #[.val (.int p1), .val (.int p2), .val (.int (0 : Int32)), .val (.ref w_ANY), .val (.int (1 : Int32)), .val (.int (1 : Int32)), .unset, .unset] [(.int (1 : Int32))])) _
          refine Go.st (fun _ k_ => XS.istore X1.here hx rfl (hb hby at_46) rfl (l' := #[.val (.int p1), .val (.int p2), .val (.int (0 : Int32)), .val (.ref w_ANY), .val (.int (1 : Int32)), .val (.int (1 : Int32)), .val (.int (1 : Int32)), .unset]) rfl k_) ?_
          show Go p e below (T1.setTop (mkF m 48 #[.val (.int p1), .val (.int p2), .val (.int (0 : Int32)), .val (.ref w_ANY), .val (.int (1 : Int32)), .val (.int (1 : Int32)), .val (.int (1 : Int32)), .unset] [])) _
          refine Go.st (fun _ k_ => XS.iloadN X1.here hx rfl (hb hby at_48) rfl k_) ?_
          show Go p e below (T1.setTop (mkF m 49 #[.val (.int p1), .val (.int p2), .val (.int (0 : Int32)), .val (.ref w_ANY), .val (.int (1 : Int32)), .val (.int (1 : Int32)), .val (.int (1 : Int32)), .unset] [(.int (0 : Int32))])) _
          refine Go.st (fun _ k_ => XS.iconst X1.here hx rfl (hb hby at_49) k_) ?_
          show Go p e below (T1.setTop (mkF m 50 #[.val (.int p1), .val (.int p2), .val (.int (0 : Int32)), .val (.ref w_ANY), .val (.int (1 : Int32)), .val (.int (1 : Int32)), .val (.int (1 : Int32)), .unset] [(.int (1 : Int32)), (.int (0 : Int32))])) _
          refine Go.st (fun _ k_ => XS.icmpYes X1.here hx rfl (pc0 := 50) (pc' := 58) rfl (hb hby at_50) rfl (tlt (by decide : (0 : Int32) < (1 : Int32))).1 (by decide) (by decide) k_) ?_
          show Go p e below (T1.setTop (mkF m 58 #[.val (.int p1), .val (.int p2), .val (.int (0 : Int32)), .val (.ref w_ANY), .val (.int (1 : Int32)), .val (.int (1 : Int32)), .val (.int (1 : Int32)), .unset] [])) _
          refine Go.st (fun _ k_ => XS.iloadN X1.here hx rfl (hb hby at_58) rfl k_) ?_
          show Go p e below (T1.setTop (mkF m 59 #[.val (.int p1), .val (.int p2), .val (.int (0 : Int32)), .val (.ref w_ANY), .val (.int (1 : Int32)), .val (.int (1 : Int32)), .val (.int (1 : Int32)), .unset] [(.int (0 : Int32))])) _
          refine Go.st (fun _ k_ => XS.iconst X1.here hx rfl (hb hby at_59) k_) ?_
          show Go p e below (T1.setTop (mkF m 60 #[.val (.int p1), .val (.int p2), .val (.int (0 : Int32)), .val (.ref w_ANY), .val (.int (1 : Int32)), .val (.int (1 : Int32)), .val (.int (1 : Int32)), .unset] [(.int (2 : Int32)), (.int (0 : Int32))])) _
          refine Go.st (fun _ k_ => XS.icmpYes X1.here hx rfl (pc0 := 60) (pc' := 68) rfl (hb hby at_60) rfl (tlt (by decide : (0 : Int32) < (2 : Int32))).1 (by decide) (by decide) k_) ?_
          show Go p e below (T1.setTop (mkF m 68 #[.val (.int p1), .val (.int p2), .val (.int (0 : Int32)), .val (.ref w_ANY), .val (.int (1 : Int32)), .val (.int (1 : Int32)), .val (.int (1 : Int32)), .unset] [])) _
          refine Go.st (fun _ k_ => XS.iloadN X1.here hx rfl (hb hby at_68) rfl k_) ?_
          show Go p e below (T1.setTop (mkF m 69 #[.val (.int p1), .val (.int p2), .val (.int (0 : Int32)), .val (.ref w_ANY), .val (.int (1 : Int32)), .val (.int (1 : Int32)), .val (.int (1 : Int32)), .unset] [(.int (0 : Int32))])) _
          refine Go.st (fun _ k_ => XS.iconst X1.here hx rfl (hb hby at_69) k_) ?_
          show Go p e below (T1.setTop (mkF m 70 #[.val (.int p1), .val (.int p2), .val (.int (0 : Int32)), .val (.ref w_ANY), .val (.int (1 : Int32)), .val (.int (1 : Int32)), .val (.int (1 : Int32)), .unset] [(.int (3 : Int32)), (.int (0 : Int32))])) _
          refine Go.st (fun _ k_ => XS.icmpYes X1.here hx rfl (pc0 := 70) (pc' := 78) rfl (hb hby at_70) rfl (tlt (by decide : (0 : Int32) < (3 : Int32))).1 (by decide) (by decide) k_) ?_
          show Go p e below (T1.setTop (mkF m 78 #[.val (.int p1), .val (.int p2), .val (.int (0 : Int32)), .val (.ref w_ANY), .val (.int (1 : Int32)), .val (.int (1 : Int32)), .val (.int (1 : Int32)), .unset] [])) _
          refine Go.st (fun _ k_ => XS.iconst X1.here hx rfl (hb hby at_78) k_) ?_
          show Go p e below (T1.setTop (mkF m 79 #[.val (.int p1), .val (.int p2), .val (.int (0 : Int32)), .val (.ref w_ANY), .val (.int (1 : Int32)), .val (.int (1 : Int32)), .val (.int (1 : Int32)), .unset] [(.int (1 : Int32))])) _
          refine Go.st (fun _ k_ => XS.goto X1.here hx rfl (pc0 := 79) (pc' := 83) rfl (hb hby at_79) (by decide) (by decide) k_) ?_
          show Go p e below (T1.setTop (mkF m 83 #[.val (.int p1), .val (.int p2), .val (.int (0 : Int32)), .val (.ref w_ANY), .val (.int (1 : Int32)), .val (.int (1 : Int32)), .val (.int (1 : Int32)), .unset] [(.int (1 : Int32))])) _
          refine Go.st (fun _ k_ => XS.istore X1.here hx rfl (hb hby at_83) rfl (l' := #[.val (.int p1), .val (.int p2), .val (.int (0 : Int32)), .val (.ref w_ANY), .val (.int (1 : Int32)), .val (.int (1 : Int32)), .val (.int (1 : Int32)), .val (.int (1 : Int32))]) rfl k_) ?_
          show Go p e below (T1.setTop (mkF m 85 #[.val (.int p1), .val (.int p2), .val (.int (0 : Int32)), .val (.ref w_ANY), .val (.int (1 : Int32)), .val (.int (1 : Int32)), .val (.int (1 : Int32)), .val (.int (1 : Int32))] [])) _
          refine Go.st (fun _ k_ => XS.aloadN X1.here hx rfl (hb hby at_85) rfl rfl k_) ?_
          show Go p e below (T1.setTop (mkF m 86 #[.val (.int p1), .val (.int p2), .val (.int (0 : Int32)), .val (.ref w_ANY), .val (.int (1 : Int32)), .val (.int (1 : Int32)), .val (.int (1 : Int32)), .val (.int (1 : Int32))] [(.ref w_ANY)])) _
          refine Go.st (fun _ k_ => XS.iload X1.here hx rfl (hb hby at_86) rfl k_) ?_
          show Go p e below (T1.setTop (mkF m 88 #[.val (.int p1), .val (.int p2), .val (.int (0 : Int32)), .val (.ref w_ANY), .val (.int (1 : Int32)), .val (.int (1 : Int32)), .val (.int (1 : Int32)), .val (.int (1 : Int32))] [(.int (1 : Int32)), (.ref w_ANY)])) _
          refine Go.st (fun _ k_ => XS.iload X1.here hx rfl (hb hby at_88) rfl k_) ?_
          show Go p e below (T1.setTop (mkF m 90 #[.val (.int p1), .val (.int p2), .val (.int (0 : Int32)), .val (.ref w_ANY), .val (.int (1 : Int32)), .val (.int (1 : Int32)), .val (.int (1 : Int32)), .val (.int (1 : Int32))] [(.int (1 : Int32)), (.int (1 : Int32)), (.ref w_ANY)])) _
          refine Go.st (fun _ k_ => XS.iload X1.here hx rfl (hb hby at_90) rfl k_) ?_
          show Go p e below (T1.setTop (mkF m 92 #[.val (.int p1), .val (.int p2), .val (.int (0 : Int32)), .val (.ref w_ANY), .val (.int (1 : Int32)), .val (.int (1 : Int32)), .val (.int (1 : Int32)), .val (.int (1 : Int32))] [(.int (1 : Int32)), (.int (1 : Int32)), (.int (1 : Int32)), (.ref w_ANY)])) _
          obtain ⟨cq9, kq9, q9a, q9b, q9c⟩ := isOf hZ e1 E_w_ANY
          obtain ⟨_, _, ⟨T9, L9, k9_, n9_⟩, -, X9, ⟨Lc9, hQ9, l9_, y9_, z9_⟩, st9⟩ := X1.virtualBack hx (y := (⟨"com/example/patuxent/patuxent/PasswordComplexity", "isMetBy", "(ZZZ)Z"⟩ : MethodName)) (z := (⟨"com/example/patuxent/patuxent/PasswordComplexity", "isMetBy", "(ZZZ)Z"⟩ : MethodName)) hown (mvT hZ (hw _ (List.mem_of_getElem? (i := 7) rfl))) (mvT hZ (hw _ (List.mem_of_getElem? (i := 8) rfl))) (notFace_of_selects (args := #[]) (mvT hZ (hw _ (List.mem_of_getElem? (i := 10) rfl)))) (mvT hZ (hw _ (List.mem_of_getElem? (i := 10) rfl))) (mvT hZ (hw _ (List.mem_of_getElem? (i := 9) rfl))) (by decide) (backOf (W := 0) (rm2_0 l Z a0 hw [] w_ANY (1 : Int32) (1 : Int32) (1 : Int32) h0 n0 Z0 E_w_ANY F_ANY) hZ (hw _ (List.mem_of_getElem? (i := 11) rfl)) (hw _ (List.mem_of_getElem? (i := 5) rfl)) (by decide) (by decide)) q9a q9c (g := (mkF m 92 #[.val (.int p1), .val (.int p2), .val (.int (0 : Int32)), .val (.ref w_ANY), .val (.int (1 : Int32)), .val (.int (1 : Int32)), .val (.int (1 : Int32)), .val (.int (1 : Int32))] [(.int (1 : Int32)), (.int (1 : Int32)), (.int (1 : Int32)), (.ref w_ANY)])) rfl (by rw [hml]; rfl) (Steps.refl _) (argsL := [(.int (1 : Int32)), (.int (1 : Int32)), (.int (1 : Int32))]) (rest := []) (lenOf pd_2 rfl) rfl (by show 2 * 0 + _ ≤ _; exact Nat.le_of_eq rfl) (hb hby at_92) (fun _ _ => ⟨rfl, e1, (by decide : 0 + 0 ≤ _), (by decide : 0 + 0 ≤ _)⟩)
          dsimp only [Pt.U, Pt.locs, Pt.cells, Pt.slots] at X9 l9_ y9_ z9_ st9 hQ9
          subst l9_ y9_ z9_
          obtain ⟨rfl, N9q, e9⟩ := hQ9
          have N9 := Fr.app N1 N9q
          refine Go.tr st9 ?_
          show Go p e below (T9.setTop (mkF m 95 #[.val (.int p1), .val (.int p2), .val (.int (0 : Int32)), .val (.ref w_ANY), .val (.int (1 : Int32)), .val (.int (1 : Int32)), .val (.int (1 : Int32)), .val (.int (1 : Int32))] [(.int (1 : Int32))])) _
          refine Go.st (fun _ k_ => XS.iload X9.here hx rfl (hb hby at_95) rfl k_) ?_
          show Go p e below (T9.setTop (mkF m 97 #[.val (.int p1), .val (.int p2), .val (.int (0 : Int32)), .val (.ref w_ANY), .val (.int (1 : Int32)), .val (.int (1 : Int32)), .val (.int (1 : Int32)), .val (.int (1 : Int32))] [(.int (1 : Int32)), (.int (1 : Int32))])) _
          have hc97 : (1 : Int32) = (1 : Int32) := by decide
          refine Go.st (fun _ k_ => XS.icmpNo X9.here hx rfl (hb hby at_97) rfl (teq hc97).2 k_) ?_
          show Go p e below (T9.setTop (mkF m 100 #[.val (.int p1), .val (.int p2), .val (.int (0 : Int32)), .val (.ref w_ANY), .val (.int (1 : Int32)), .val (.int (1 : Int32)), .val (.int (1 : Int32)), .val (.int (1 : Int32))] [])) _
          refine Go.st (fun _ k_ => XS.iconst X9.here hx rfl (hb hby at_100) k_) ?_
          show Go p e below (T9.setTop (mkF m 101 #[.val (.int p1), .val (.int p2), .val (.int (0 : Int32)), .val (.ref w_ANY), .val (.int (1 : Int32)), .val (.int (1 : Int32)), .val (.int (1 : Int32)), .val (.int (1 : Int32))] [(.int (1 : Int32))])) _
          refine Go.st (fun _ k_ => XS.goto X9.here hx rfl (pc0 := 101) (pc' := 105) rfl (hb hby at_101) (by decide) (by decide) k_) ?_
          show Go p e below (T9.setTop (mkF m 105 #[.val (.int p1), .val (.int p2), .val (.int (0 : Int32)), .val (.ref w_ANY), .val (.int (1 : Int32)), .val (.int (1 : Int32)), .val (.int (1 : Int32)), .val (.int (1 : Int32))] [(.int (1 : Int32))])) _
          refine Go.fin X9 (v := some (.int (1 : Int32))) (fun h_ => by rw [Bd.returns] at h_; cases h_) Bd.notSynchronized (fun _ hr => retN X9 hx (t := .boolean) Bd.returns (by simp) (hb hby at_105) hr) (fun U' hU hF => ⟨_, _, rfl, ?_, hF.1, hF.2.1, hF.2.2.mono (by decide) (by decide)⟩)
          exact ⟨(congrArg (fun z_ : Int32 => some (Value.int z_)) (show (1 : Int32) = (1 : Int32) from rfl)), N9⟩
  · rw [hk]
    show Go p e below (s₁.setTop (mkF m 4 #[.val (.int p1), .val (.int p2), .val (.int (1 : Int32)), .unset, .unset, .unset, .unset, .unset] [])) _
    refine Go.st (fun _ k_ => XS.iloadN X0.here hx rfl (hb hby at_4) rfl k_) ?_
    show Go p e below (s₁.setTop (mkF m 5 #[.val (.int p1), .val (.int p2), .val (.int (1 : Int32)), .unset, .unset, .unset, .unset, .unset] [(.int (1 : Int32))])) _
    obtain ⟨_, _, ⟨T10, L10, k10_, n10_⟩, -, X10, ⟨Lc10, hQ10, l10_, y10_, z10_⟩, st10⟩ := Jvm.LawKit.callS X0 hx (y := (⟨"com/example/patuxent/patuxent/PasswordComplexityIsMetByPinLaw", "levelOf", "(I)Lcom/example/patuxent/patuxent/PasswordComplexity;"⟩ : MethodName)) hown (mvT hZ (hw _ (List.mem_of_getElem? (i := 0) rfl))) (mvT hZ (hw _ (List.mem_of_getElem? (i := 1) rfl))) (mvT hZ (hw _ (List.mem_of_getElem? (i := 2) rfl))) (mvT hZ (hw _ (List.mem_of_getElem? (i := 3) rfl))) (by decide) (backOf (W := 0) (rm1_1 l Z a0 hw [] w_LETTER h0 n0 Z0 S_LETTER) hZ (hw _ (List.mem_of_getElem? (i := 3) rfl)) (hw _ (List.mem_of_getElem? (i := 2) rfl)) (by decide) (by decide)) (g := (mkF m 5 #[.val (.int p1), .val (.int p2), .val (.int (1 : Int32)), .unset, .unset, .unset, .unset, .unset] [(.int (1 : Int32))])) rfl (by rw [hml]; rfl) (argsL := [(.int (1 : Int32))]) (rest := []) (lenOf pd_1 rfl) rfl (by show 2 * 0 + _ ≤ _; exact Nat.le_of_eq rfl) (hb hby at_5) (fun _ _ => ⟨rfl, e0, (by decide : 0 + 0 ≤ _), (by decide : 0 + 0 ≤ _)⟩)
    dsimp only [Pt.U, Pt.locs, Pt.cells, Pt.slots] at X10 l10_ y10_ z10_ st10 hQ10
    subst l10_ y10_ z10_
    obtain ⟨rfl, N10q, e10⟩ := hQ10
    have N10 := Fr.app N0 N10q
    refine Go.st st10 ?_
    show Go p e below (T10.setTop (mkF m 8 #[.val (.int p1), .val (.int p2), .val (.int (1 : Int32)), .unset, .unset, .unset, .unset, .unset] [(.ref w_LETTER)])) _
    refine Go.st (fun _ k_ => XS.astoreN X10.here hx rfl (hb hby at_8) rfl rfl (l' := #[.val (.int p1), .val (.int p2), .val (.int (1 : Int32)), .val (.ref w_LETTER), .unset, .unset, .unset, .unset]) rfl k_) ?_
    show Go p e below (T10.setTop (mkF m 9 #[.val (.int p1), .val (.int p2), .val (.int (1 : Int32)), .val (.ref w_LETTER), .unset, .unset, .unset, .unset] [])) _
    refine Go.st (fun _ k_ => XS.iloadN X10.here hx rfl (hb hby at_9) rfl k_) ?_
    show Go p e below (T10.setTop (mkF m 10 #[.val (.int p1), .val (.int p2), .val (.int (1 : Int32)), .val (.ref w_LETTER), .unset, .unset, .unset, .unset] [(.int p2)])) _
    refine Go.st (fun _ k_ => XS.iconst X10.here hx rfl (hb hby at_10) k_) ?_
    show Go p e below (T10.setTop (mkF m 11 #[.val (.int p1), .val (.int p2), .val (.int (1 : Int32)), .val (.ref w_LETTER), .unset, .unset, .unset, .unset] [(.int (1 : Int32)), (.int p2)])) _
    refine Go.st (fun _ k_ => XS.iand X10.here hx rfl (hb hby at_11) rfl k_) ?_
    show Go p e below (T10.setTop (mkF m 12 #[.val (.int p1), .val (.int p2), .val (.int (1 : Int32)), .val (.ref w_LETTER), .unset, .unset, .unset, .unset] [(.int (p2 &&& (1 : Int32)))])) _
    by_cases hc12 : (p2 &&& (1 : Int32)) = (0 : Int32)
    · refine Go.st (fun _ k_ => XS.ifYes X10.here hx rfl (pc0 := 12) (pc' := 19) rfl (hb hby at_12) rfl ((if0 _ _).trans (teq hc12).1) (by decide) (by decide) k_) ?_
      show Go p e below (T10.setTop (mkF m 19 #[.val (.int p1), .val (.int p2), .val (.int (1 : Int32)), .val (.ref w_LETTER), .unset, .unset, .unset, .unset] [])) _
      refine Go.st (fun _ k_ => XS.iconst X10.here hx rfl (hb hby at_19) k_) ?_
      show Go p e below (T10.setTop (mkF m 20 #[.val (.int p1), .val (.int p2), .val (.int (1 : Int32)), .val (.ref w_LETTER), .unset, .unset, .unset, .unset] [(.int (0 : Int32))])) _
      refine Go.st (fun _ k_ => XS.istore X10.here hx rfl (hb hby at_20) rfl (l' := #[.val (.int p1), .val (.int p2), .val (.int (1 : Int32)), .val (.ref w_LETTER), .val (.int (0 : Int32)), .unset, .unset, .unset]) rfl k_) ?_
      show Go p e below (T10.setTop (mkF m 22 #[.val (.int p1), .val (.int p2), .val (.int (1 : Int32)), .val (.ref w_LETTER), .val (.int (0 : Int32)), .unset, .unset, .unset] [])) _
      refine Go.st (fun _ k_ => XS.iloadN X10.here hx rfl (hb hby at_22) rfl k_) ?_
      show Go p e below (T10.setTop (mkF m 23 #[.val (.int p1), .val (.int p2), .val (.int (1 : Int32)), .val (.ref w_LETTER), .val (.int (0 : Int32)), .unset, .unset, .unset] [(.int p2)])) _
      refine Go.st (fun _ k_ => XS.iconst X10.here hx rfl (hb hby at_23) k_) ?_
      show Go p e below (T10.setTop (mkF m 24 #[.val (.int p1), .val (.int p2), .val (.int (1 : Int32)), .val (.ref w_LETTER), .val (.int (0 : Int32)), .unset, .unset, .unset] [(.int (2 : Int32)), (.int p2)])) _
      refine Go.st (fun _ k_ => XS.iand X10.here hx rfl (hb hby at_24) rfl k_) ?_
      show Go p e below (T10.setTop (mkF m 25 #[.val (.int p1), .val (.int p2), .val (.int (1 : Int32)), .val (.ref w_LETTER), .val (.int (0 : Int32)), .unset, .unset, .unset] [(.int (p2 &&& (2 : Int32)))])) _
      by_cases hc25 : (p2 &&& (2 : Int32)) = (0 : Int32)
      · refine Go.st (fun _ k_ => XS.ifYes X10.here hx rfl (pc0 := 25) (pc' := 32) rfl (hb hby at_25) rfl ((if0 _ _).trans (teq hc25).1) (by decide) (by decide) k_) ?_
        show Go p e below (T10.setTop (mkF m 32 #[.val (.int p1), .val (.int p2), .val (.int (1 : Int32)), .val (.ref w_LETTER), .val (.int (0 : Int32)), .unset, .unset, .unset] [])) _
        refine Go.st (fun _ k_ => XS.iconst X10.here hx rfl (hb hby at_32) k_) ?_
        show Go p e below (T10.setTop (mkF m 33 #[.val (.int p1), .val (.int p2), .val (.int (1 : Int32)), .val (.ref w_LETTER), .val (.int (0 : Int32)), .unset, .unset, .unset] [(.int (0 : Int32))])) _
        refine Go.st (fun _ k_ => XS.istore X10.here hx rfl (hb hby at_33) rfl (l' := #[.val (.int p1), .val (.int p2), .val (.int (1 : Int32)), .val (.ref w_LETTER), .val (.int (0 : Int32)), .val (.int (0 : Int32)), .unset, .unset]) rfl k_) ?_
        show Go p e below (T10.setTop (mkF m 35 #[.val (.int p1), .val (.int p2), .val (.int (1 : Int32)), .val (.ref w_LETTER), .val (.int (0 : Int32)), .val (.int (0 : Int32)), .unset, .unset] [])) _
        refine Go.st (fun _ k_ => XS.iloadN X10.here hx rfl (hb hby at_35) rfl k_) ?_
        show Go p e below (T10.setTop (mkF m 36 #[.val (.int p1), .val (.int p2), .val (.int (1 : Int32)), .val (.ref w_LETTER), .val (.int (0 : Int32)), .val (.int (0 : Int32)), .unset, .unset] [(.int p2)])) _
        refine Go.st (fun _ k_ => XS.iconst X10.here hx rfl (hb hby at_36) k_) ?_
        show Go p e below (T10.setTop (mkF m 37 #[.val (.int p1), .val (.int p2), .val (.int (1 : Int32)), .val (.ref w_LETTER), .val (.int (0 : Int32)), .val (.int (0 : Int32)), .unset, .unset] [(.int (4 : Int32)), (.int p2)])) _
        refine Go.st (fun _ k_ => XS.iand X10.here hx rfl (hb hby at_37) rfl k_) ?_
        show Go p e below (T10.setTop (mkF m 38 #[.val (.int p1), .val (.int p2), .val (.int (1 : Int32)), .val (.ref w_LETTER), .val (.int (0 : Int32)), .val (.int (0 : Int32)), .unset, .unset] [(.int (p2 &&& (4 : Int32)))])) _
        by_cases hc38 : (p2 &&& (4 : Int32)) = (0 : Int32)
        · refine Go.st (fun _ k_ => XS.ifYes X10.here hx rfl (pc0 := 38) (pc' := 45) rfl (hb hby at_38) rfl ((if0 _ _).trans (teq hc38).1) (by decide) (by decide) k_) ?_
          show Go p e below (T10.setTop (mkF m 45 #[.val (.int p1), .val (.int p2), .val (.int (1 : Int32)), .val (.ref w_LETTER), .val (.int (0 : Int32)), .val (.int (0 : Int32)), .unset, .unset] [])) _
          refine Go.st (fun _ k_ => XS.iconst X10.here hx rfl (hb hby at_45) k_) ?_
          show Go p e below (T10.setTop (mkF m 46 #[.val (.int p1), .val (.int p2), .val (.int (1 : Int32)), .val (.ref w_LETTER), .val (.int (0 : Int32)), .val (.int (0 : Int32)), .unset, .unset] [(.int (0 : Int32))])) _
          refine Go.st (fun _ k_ => XS.istore X10.here hx rfl (hb hby at_46) rfl (l' := #[.val (.int p1), .val (.int p2), .val (.int (1 : Int32)), .val (.ref w_LETTER), .val (.int (0 : Int32)), .val (.int (0 : Int32)), .val (.int (0 : Int32)), .unset]) rfl k_) ?_
          show Go p e below (T10.setTop (mkF m 48 #[.val (.int p1), .val (.int p2), .val (.int (1 : Int32)), .val (.ref w_LETTER), .val (.int (0 : Int32)), .val (.int (0 : Int32)), .val (.int (0 : Int32)), .unset] [])) _
          refine Go.st (fun _ k_ => XS.iloadN X10.here hx rfl (hb hby at_48) rfl k_) ?_
          show Go p e below (T10.setTop (mkF m 49 #[.val (.int p1), .val (.int p2), .val (.int (1 : Int32)), .val (.ref w_LETTER), .val (.int (0 : Int32)), .val (.int (0 : Int32)), .val (.int (0 : Int32)), .unset] [(.int (1 : Int32))])) _
          refine Go.st (fun _ k_ => XS.iconst X10.here hx rfl (hb hby at_49) k_) ?_
          show Go p e below (T10.setTop (mkF m 50 #[.val (.int p1), .val (.int p2), .val (.int (1 : Int32)), .val (.ref w_LETTER), .val (.int (0 : Int32)), .val (.int (0 : Int32)), .val (.int (0 : Int32)), .unset] [(.int (1 : Int32)), (.int (1 : Int32))])) _
          refine Go.st (fun _ k_ => XS.icmpNo X10.here hx rfl (hb hby at_50) rfl (flt (by decide : ¬ ((1 : Int32) < (1 : Int32)))).1 k_) ?_
          show Go p e below (T10.setTop (mkF m 53 #[.val (.int p1), .val (.int p2), .val (.int (1 : Int32)), .val (.ref w_LETTER), .val (.int (0 : Int32)), .val (.int (0 : Int32)), .val (.int (0 : Int32)), .unset] [])) _
          refine Go.st (fun _ k_ => XS.iload X10.here hx rfl (hb hby at_53) rfl k_) ?_
          show Go p e below (T10.setTop (mkF m 55 #[.val (.int p1), .val (.int p2), .val (.int (1 : Int32)), .val (.ref w_LETTER), .val (.int (0 : Int32)), .val (.int (0 : Int32)), .val (.int (0 : Int32)), .unset] [(.int (0 : Int32))])) _
          refine Go.st (fun _ k_ => XS.ifYes X10.here hx rfl (pc0 := 55) (pc' := 82) rfl (hb hby at_55) rfl ((if0 _ _).trans (teq (by decide : (0 : Int32) = (0 : Int32))).1) (by decide) (by decide) k_) ?_
          show Go p e below (T10.setTop (mkF m 82 #[.val (.int p1), .val (.int p2), .val (.int (1 : Int32)), .val (.ref w_LETTER), .val (.int (0 : Int32)), .val (.int (0 : Int32)), .val (.int (0 : Int32)), .unset] [])) _
          refine Go.st (fun _ k_ => XS.iconst X10.here hx rfl (hb hby at_82) k_) ?_
          show Go p e below (T10.setTop (mkF m 83 #[.val (.int p1), .val (.int p2), .val (.int (1 : Int32)), .val (.ref w_LETTER), .val (.int (0 : Int32)), .val (.int (0 : Int32)), .val (.int (0 : Int32)), .unset] [(.int (0 : Int32))])) _
          refine Go.st (fun _ k_ => XS.istore X10.here hx rfl (hb hby at_83) rfl (l' := #[.val (.int p1), .val (.int p2), .val (.int (1 : Int32)), .val (.ref w_LETTER), .val (.int (0 : Int32)), .val (.int (0 : Int32)), .val (.int (0 : Int32)), .val (.int (0 : Int32))]) rfl k_) ?_
          show Go p e below (T10.setTop (mkF m 85 #[.val (.int p1), .val (.int p2), .val (.int (1 : Int32)), .val (.ref w_LETTER), .val (.int (0 : Int32)), .val (.int (0 : Int32)), .val (.int (0 : Int32)), .val (.int (0 : Int32))] [])) _
          refine Go.st (fun _ k_ => XS.aloadN X10.here hx rfl (hb hby at_85) rfl rfl k_) ?_
          show Go p e below (T10.setTop (mkF m 86 #[.val (.int p1), .val (.int p2), .val (.int (1 : Int32)), .val (.ref w_LETTER), .val (.int (0 : Int32)), .val (.int (0 : Int32)), .val (.int (0 : Int32)), .val (.int (0 : Int32))] [(.ref w_LETTER)])) _
          refine Go.st (fun _ k_ => XS.iload X10.here hx rfl (hb hby at_86) rfl k_) ?_
          show Go p e below (T10.setTop (mkF m 88 #[.val (.int p1), .val (.int p2), .val (.int (1 : Int32)), .val (.ref w_LETTER), .val (.int (0 : Int32)), .val (.int (0 : Int32)), .val (.int (0 : Int32)), .val (.int (0 : Int32))] [(.int (0 : Int32)), (.ref w_LETTER)])) _
          refine Go.st (fun _ k_ => XS.iload X10.here hx rfl (hb hby at_88) rfl k_) ?_
          show Go p e below (T10.setTop (mkF m 90 #[.val (.int p1), .val (.int p2), .val (.int (1 : Int32)), .val (.ref w_LETTER), .val (.int (0 : Int32)), .val (.int (0 : Int32)), .val (.int (0 : Int32)), .val (.int (0 : Int32))] [(.int (0 : Int32)), (.int (0 : Int32)), (.ref w_LETTER)])) _
          refine Go.st (fun _ k_ => XS.iload X10.here hx rfl (hb hby at_90) rfl k_) ?_
          show Go p e below (T10.setTop (mkF m 92 #[.val (.int p1), .val (.int p2), .val (.int (1 : Int32)), .val (.ref w_LETTER), .val (.int (0 : Int32)), .val (.int (0 : Int32)), .val (.int (0 : Int32)), .val (.int (0 : Int32))] [(.int (0 : Int32)), (.int (0 : Int32)), (.int (0 : Int32)), (.ref w_LETTER)])) _
          obtain ⟨cq11, kq11, q11a, q11b, q11c⟩ := isOf hZ e10 E_w_LETTER
          obtain ⟨_, _, ⟨T11, L11, k11_, n11_⟩, -, X11, ⟨Lc11, hQ11, l11_, y11_, z11_⟩, st11⟩ := X10.virtualBack hx (y := (⟨"com/example/patuxent/patuxent/PasswordComplexity", "isMetBy", "(ZZZ)Z"⟩ : MethodName)) (z := (⟨"com/example/patuxent/patuxent/PasswordComplexity", "isMetBy", "(ZZZ)Z"⟩ : MethodName)) hown (mvT hZ (hw _ (List.mem_of_getElem? (i := 7) rfl))) (mvT hZ (hw _ (List.mem_of_getElem? (i := 8) rfl))) (notFace_of_selects (args := #[]) (mvT hZ (hw _ (List.mem_of_getElem? (i := 10) rfl)))) (mvT hZ (hw _ (List.mem_of_getElem? (i := 10) rfl))) (mvT hZ (hw _ (List.mem_of_getElem? (i := 9) rfl))) (by decide) (backOf (W := 0) (rm2_1 l Z a0 hw [] w_LETTER (0 : Int32) (0 : Int32) (0 : Int32) h0 n0 Z0 E_w_LETTER F_LETTER) hZ (hw _ (List.mem_of_getElem? (i := 11) rfl)) (hw _ (List.mem_of_getElem? (i := 5) rfl)) (by decide) (by decide)) q11a q11c (g := (mkF m 92 #[.val (.int p1), .val (.int p2), .val (.int (1 : Int32)), .val (.ref w_LETTER), .val (.int (0 : Int32)), .val (.int (0 : Int32)), .val (.int (0 : Int32)), .val (.int (0 : Int32))] [(.int (0 : Int32)), (.int (0 : Int32)), (.int (0 : Int32)), (.ref w_LETTER)])) rfl (by rw [hml]; rfl) (Steps.refl _) (argsL := [(.int (0 : Int32)), (.int (0 : Int32)), (.int (0 : Int32))]) (rest := []) (lenOf pd_2 rfl) rfl (by show 2 * 0 + _ ≤ _; exact Nat.le_of_eq rfl) (hb hby at_92) (fun _ _ => ⟨rfl, e10, (by decide : 0 + 0 ≤ _), (by decide : 0 + 0 ≤ _)⟩)
          dsimp only [Pt.U, Pt.locs, Pt.cells, Pt.slots] at X11 l11_ y11_ z11_ st11 hQ11
          subst l11_ y11_ z11_
          obtain ⟨rfl, N11q, e11⟩ := hQ11
          have N11 := Fr.app N10 N11q
          refine Go.tr st11 ?_
          show Go p e below (T11.setTop (mkF m 95 #[.val (.int p1), .val (.int p2), .val (.int (1 : Int32)), .val (.ref w_LETTER), .val (.int (0 : Int32)), .val (.int (0 : Int32)), .val (.int (0 : Int32)), .val (.int (0 : Int32))] [(.int (nar .boolean (0 : Int32)))])) _
          refine Go.st (fun _ k_ => XS.iload X11.here hx rfl (hb hby at_95) rfl k_) ?_
          show Go p e below (T11.setTop (mkF m 97 #[.val (.int p1), .val (.int p2), .val (.int (1 : Int32)), .val (.ref w_LETTER), .val (.int (0 : Int32)), .val (.int (0 : Int32)), .val (.int (0 : Int32)), .val (.int (0 : Int32))] [(.int (0 : Int32)), (.int (nar .boolean (0 : Int32)))])) _
          have hc97 : (nar .boolean (0 : Int32)) = (0 : Int32) := by decide
          refine Go.st (fun _ k_ => XS.icmpNo X11.here hx rfl (hb hby at_97) rfl (teq hc97).2 k_) ?_
          show Go p e below (T11.setTop (mkF m 100 #[.val (.int p1), .val (.int p2), .val (.int (1 : Int32)), .val (.ref w_LETTER), .val (.int (0 : Int32)), .val (.int (0 : Int32)), .val (.int (0 : Int32)), .val (.int (0 : Int32))] [])) _
          refine Go.st (fun _ k_ => XS.iconst X11.here hx rfl (hb hby at_100) k_) ?_
          show Go p e below (T11.setTop (mkF m 101 #[.val (.int p1), .val (.int p2), .val (.int (1 : Int32)), .val (.ref w_LETTER), .val (.int (0 : Int32)), .val (.int (0 : Int32)), .val (.int (0 : Int32)), .val (.int (0 : Int32))] [(.int (1 : Int32))])) _
          refine Go.st (fun _ k_ => XS.goto X11.here hx rfl (pc0 := 101) (pc' := 105) rfl (hb hby at_101) (by decide) (by decide) k_) ?_
          show Go p e below (T11.setTop (mkF m 105 #[.val (.int p1), .val (.int p2), .val (.int (1 : Int32)), .val (.ref w_LETTER), .val (.int (0 : Int32)), .val (.int (0 : Int32)), .val (.int (0 : Int32)), .val (.int (0 : Int32))] [(.int (1 : Int32))])) _
          refine Go.fin X11 (v := some (.int (1 : Int32))) (fun h_ => by rw [Bd.returns] at h_; cases h_) Bd.notSynchronized (fun _ hr => retN X11 hx (t := .boolean) Bd.returns (by simp) (hb hby at_105) hr) (fun U' hU hF => ⟨_, _, rfl, ?_, hF.1, hF.2.1, hF.2.2.mono (by decide) (by decide)⟩)
          exact ⟨(congrArg (fun z_ : Int32 => some (Value.int z_)) (show (1 : Int32) = (1 : Int32) from rfl)), N11⟩
        · refine Go.st (fun _ k_ => XS.ifNo X10.here hx rfl (hb hby at_38) rfl ((if0 _ _).trans (feq hc38).1) k_) ?_
          show Go p e below (T10.setTop (mkF m 41 #[.val (.int p1), .val (.int p2), .val (.int (1 : Int32)), .val (.ref w_LETTER), .val (.int (0 : Int32)), .val (.int (0 : Int32)), .unset, .unset] [])) _
          refine Go.st (fun _ k_ => XS.iconst X10.here hx rfl (hb hby at_41) k_) ?_
          show Go p e below (T10.setTop (mkF m 42 #[.val (.int p1), .val (.int p2), .val (.int (1 : Int32)), .val (.ref w_LETTER), .val (.int (0 : Int32)), .val (.int (0 : Int32)), .unset, .unset] [(.int (1 : Int32))])) _
          refine Go.st (fun _ k_ => XS.goto X10.here hx rfl (pc0 := 42) (pc' := 46) rfl (hb hby at_42) (by decide) (by decide) k_) ?_
          show Go p e below (T10.setTop (mkF m 46 #[.val (.int p1), .val (.int p2), .val (.int (1 : Int32)), .val (.ref w_LETTER), .val (.int (0 : Int32)), .val (.int (0 : Int32)), .unset, .unset] [(.int (1 : Int32))])) _
          refine Go.st (fun _ k_ => XS.istore X10.here hx rfl (hb hby at_46) rfl (l' := #[.val (.int p1), .val (.int p2), .val (.int (1 : Int32)), .val (.ref w_LETTER), .val (.int (0 : Int32)), .val (.int (0 : Int32)), .val (.int (1 : Int32)), .unset]) rfl k_) ?_
          show Go p e below (T10.setTop (mkF m 48 #[.val (.int p1), .val (.int p2), .val (.int (1 : Int32)), .val (.ref w_LETTER), .val (.int (0 : Int32)), .val (.int (0 : Int32)), .val (.int (1 : Int32)), .unset] [])) _
          refine Go.st (fun _ k_ => XS.iloadN X10.here hx rfl (hb hby at_48) rfl k_) ?_
          show Go p e below (T10.setTop (mkF m 49 #[.val (.int p1), .val (.int p2), .val (.int (1 : Int32)), .val (.ref w_LETTER), .val (.int (0 : Int32)), .val (.int (0 : Int32)), .val (.int (1 : Int32)), .unset] [(.int (1 : Int32))])) _
          refine Go.st (fun _ k_ => XS.iconst X10.here hx rfl (hb hby at_49) k_) ?_
          show Go p e below (T10.setTop (mkF m 50 #[.val (.int p1), .val (.int p2), .val (.int (1 : Int32)), .val (.ref w_LETTER), .val (.int (0 : Int32)), .val (.int (0 : Int32)), .val (.int (1 : Int32)), .unset] [(.int (1 : Int32)), (.int (1 : Int32))])) _
          refine Go.st (fun _ k_ => XS.icmpNo X10.here hx rfl (hb hby at_50) rfl (flt (by decide : ¬ ((1 : Int32) < (1 : Int32)))).1 k_) ?_
          show Go p e below (T10.setTop (mkF m 53 #[.val (.int p1), .val (.int p2), .val (.int (1 : Int32)), .val (.ref w_LETTER), .val (.int (0 : Int32)), .val (.int (0 : Int32)), .val (.int (1 : Int32)), .unset] [])) _
          refine Go.st (fun _ k_ => XS.iload X10.here hx rfl (hb hby at_53) rfl k_) ?_
          show Go p e below (T10.setTop (mkF m 55 #[.val (.int p1), .val (.int p2), .val (.int (1 : Int32)), .val (.ref w_LETTER), .val (.int (0 : Int32)), .val (.int (0 : Int32)), .val (.int (1 : Int32)), .unset] [(.int (0 : Int32))])) _
          refine Go.st (fun _ k_ => XS.ifYes X10.here hx rfl (pc0 := 55) (pc' := 82) rfl (hb hby at_55) rfl ((if0 _ _).trans (teq (by decide : (0 : Int32) = (0 : Int32))).1) (by decide) (by decide) k_) ?_
          show Go p e below (T10.setTop (mkF m 82 #[.val (.int p1), .val (.int p2), .val (.int (1 : Int32)), .val (.ref w_LETTER), .val (.int (0 : Int32)), .val (.int (0 : Int32)), .val (.int (1 : Int32)), .unset] [])) _
          refine Go.st (fun _ k_ => XS.iconst X10.here hx rfl (hb hby at_82) k_) ?_
          show Go p e below (T10.setTop (mkF m 83 #[.val (.int p1), .val (.int p2), .val (.int (1 : Int32)), .val (.ref w_LETTER), .val (.int (0 : Int32)), .val (.int (0 : Int32)), .val (.int (1 : Int32)), .unset] [(.int (0 : Int32))])) _
          refine Go.st (fun _ k_ => XS.istore X10.here hx rfl (hb hby at_83) rfl (l' := #[.val (.int p1), .val (.int p2), .val (.int (1 : Int32)), .val (.ref w_LETTER), .val (.int (0 : Int32)), .val (.int (0 : Int32)), .val (.int (1 : Int32)), .val (.int (0 : Int32))]) rfl k_) ?_
          show Go p e below (T10.setTop (mkF m 85 #[.val (.int p1), .val (.int p2), .val (.int (1 : Int32)), .val (.ref w_LETTER), .val (.int (0 : Int32)), .val (.int (0 : Int32)), .val (.int (1 : Int32)), .val (.int (0 : Int32))] [])) _
          refine Go.st (fun _ k_ => XS.aloadN X10.here hx rfl (hb hby at_85) rfl rfl k_) ?_
          show Go p e below (T10.setTop (mkF m 86 #[.val (.int p1), .val (.int p2), .val (.int (1 : Int32)), .val (.ref w_LETTER), .val (.int (0 : Int32)), .val (.int (0 : Int32)), .val (.int (1 : Int32)), .val (.int (0 : Int32))] [(.ref w_LETTER)])) _
          refine Go.st (fun _ k_ => XS.iload X10.here hx rfl (hb hby at_86) rfl k_) ?_
          show Go p e below (T10.setTop (mkF m 88 #[.val (.int p1), .val (.int p2), .val (.int (1 : Int32)), .val (.ref w_LETTER), .val (.int (0 : Int32)), .val (.int (0 : Int32)), .val (.int (1 : Int32)), .val (.int (0 : Int32))] [(.int (0 : Int32)), (.ref w_LETTER)])) _
          refine Go.st (fun _ k_ => XS.iload X10.here hx rfl (hb hby at_88) rfl k_) ?_
          show Go p e below (T10.setTop (mkF m 90 #[.val (.int p1), .val (.int p2), .val (.int (1 : Int32)), .val (.ref w_LETTER), .val (.int (0 : Int32)), .val (.int (0 : Int32)), .val (.int (1 : Int32)), .val (.int (0 : Int32))] [(.int (0 : Int32)), (.int (0 : Int32)), (.ref w_LETTER)])) _
          refine Go.st (fun _ k_ => XS.iload X10.here hx rfl (hb hby at_90) rfl k_) ?_
          show Go p e below (T10.setTop (mkF m 92 #[.val (.int p1), .val (.int p2), .val (.int (1 : Int32)), .val (.ref w_LETTER), .val (.int (0 : Int32)), .val (.int (0 : Int32)), .val (.int (1 : Int32)), .val (.int (0 : Int32))] [(.int (1 : Int32)), (.int (0 : Int32)), (.int (0 : Int32)), (.ref w_LETTER)])) _
          obtain ⟨cq12, kq12, q12a, q12b, q12c⟩ := isOf hZ e10 E_w_LETTER
          obtain ⟨_, _, ⟨T12, L12, k12_, n12_⟩, -, X12, ⟨Lc12, hQ12, l12_, y12_, z12_⟩, st12⟩ := X10.virtualBack hx (y := (⟨"com/example/patuxent/patuxent/PasswordComplexity", "isMetBy", "(ZZZ)Z"⟩ : MethodName)) (z := (⟨"com/example/patuxent/patuxent/PasswordComplexity", "isMetBy", "(ZZZ)Z"⟩ : MethodName)) hown (mvT hZ (hw _ (List.mem_of_getElem? (i := 7) rfl))) (mvT hZ (hw _ (List.mem_of_getElem? (i := 8) rfl))) (notFace_of_selects (args := #[]) (mvT hZ (hw _ (List.mem_of_getElem? (i := 10) rfl)))) (mvT hZ (hw _ (List.mem_of_getElem? (i := 10) rfl))) (mvT hZ (hw _ (List.mem_of_getElem? (i := 9) rfl))) (by decide) (backOf (W := 0) (rm2_1 l Z a0 hw [] w_LETTER (0 : Int32) (0 : Int32) (1 : Int32) h0 n0 Z0 E_w_LETTER F_LETTER) hZ (hw _ (List.mem_of_getElem? (i := 11) rfl)) (hw _ (List.mem_of_getElem? (i := 5) rfl)) (by decide) (by decide)) q12a q12c (g := (mkF m 92 #[.val (.int p1), .val (.int p2), .val (.int (1 : Int32)), .val (.ref w_LETTER), .val (.int (0 : Int32)), .val (.int (0 : Int32)), .val (.int (1 : Int32)), .val (.int (0 : Int32))] [(.int (1 : Int32)), (.int (0 : Int32)), (.int (0 : Int32)), (.ref w_LETTER)])) rfl (by rw [hml]; rfl) (Steps.refl _) (argsL := [(.int (0 : Int32)), (.int (0 : Int32)), (.int (1 : Int32))]) (rest := []) (lenOf pd_2 rfl) rfl (by show 2 * 0 + _ ≤ _; exact Nat.le_of_eq rfl) (hb hby at_92) (fun _ _ => ⟨rfl, e10, (by decide : 0 + 0 ≤ _), (by decide : 0 + 0 ≤ _)⟩)
          dsimp only [Pt.U, Pt.locs, Pt.cells, Pt.slots] at X12 l12_ y12_ z12_ st12 hQ12
          subst l12_ y12_ z12_
          obtain ⟨rfl, N12q, e12⟩ := hQ12
          have N12 := Fr.app N10 N12q
          refine Go.tr st12 ?_
          show Go p e below (T12.setTop (mkF m 95 #[.val (.int p1), .val (.int p2), .val (.int (1 : Int32)), .val (.ref w_LETTER), .val (.int (0 : Int32)), .val (.int (0 : Int32)), .val (.int (1 : Int32)), .val (.int (0 : Int32))] [(.int (nar .boolean (0 : Int32)))])) _
          refine Go.st (fun _ k_ => XS.iload X12.here hx rfl (hb hby at_95) rfl k_) ?_
          show Go p e below (T12.setTop (mkF m 97 #[.val (.int p1), .val (.int p2), .val (.int (1 : Int32)), .val (.ref w_LETTER), .val (.int (0 : Int32)), .val (.int (0 : Int32)), .val (.int (1 : Int32)), .val (.int (0 : Int32))] [(.int (0 : Int32)), (.int (nar .boolean (0 : Int32)))])) _
          have hc97 : (nar .boolean (0 : Int32)) = (0 : Int32) := by decide
          refine Go.st (fun _ k_ => XS.icmpNo X12.here hx rfl (hb hby at_97) rfl (teq hc97).2 k_) ?_
          show Go p e below (T12.setTop (mkF m 100 #[.val (.int p1), .val (.int p2), .val (.int (1 : Int32)), .val (.ref w_LETTER), .val (.int (0 : Int32)), .val (.int (0 : Int32)), .val (.int (1 : Int32)), .val (.int (0 : Int32))] [])) _
          refine Go.st (fun _ k_ => XS.iconst X12.here hx rfl (hb hby at_100) k_) ?_
          show Go p e below (T12.setTop (mkF m 101 #[.val (.int p1), .val (.int p2), .val (.int (1 : Int32)), .val (.ref w_LETTER), .val (.int (0 : Int32)), .val (.int (0 : Int32)), .val (.int (1 : Int32)), .val (.int (0 : Int32))] [(.int (1 : Int32))])) _
          refine Go.st (fun _ k_ => XS.goto X12.here hx rfl (pc0 := 101) (pc' := 105) rfl (hb hby at_101) (by decide) (by decide) k_) ?_
          show Go p e below (T12.setTop (mkF m 105 #[.val (.int p1), .val (.int p2), .val (.int (1 : Int32)), .val (.ref w_LETTER), .val (.int (0 : Int32)), .val (.int (0 : Int32)), .val (.int (1 : Int32)), .val (.int (0 : Int32))] [(.int (1 : Int32))])) _
          refine Go.fin X12 (v := some (.int (1 : Int32))) (fun h_ => by rw [Bd.returns] at h_; cases h_) Bd.notSynchronized (fun _ hr => retN X12 hx (t := .boolean) Bd.returns (by simp) (hb hby at_105) hr) (fun U' hU hF => ⟨_, _, rfl, ?_, hF.1, hF.2.1, hF.2.2.mono (by decide) (by decide)⟩)
          exact ⟨(congrArg (fun z_ : Int32 => some (Value.int z_)) (show (1 : Int32) = (1 : Int32) from rfl)), N12⟩
      · refine Go.st (fun _ k_ => XS.ifNo X10.here hx rfl (hb hby at_25) rfl ((if0 _ _).trans (feq hc25).1) k_) ?_
        show Go p e below (T10.setTop (mkF m 28 #[.val (.int p1), .val (.int p2), .val (.int (1 : Int32)), .val (.ref w_LETTER), .val (.int (0 : Int32)), .unset, .unset, .unset] [])) _
        refine Go.st (fun _ k_ => XS.iconst X10.here hx rfl (hb hby at_28) k_) ?_
        show Go p e below (T10.setTop (mkF m 29 #[.val (.int p1), .val (.int p2), .val (.int (1 : Int32)), .val (.ref w_LETTER), .val (.int (0 : Int32)), .unset, .unset, .unset] [(.int (1 : Int32))])) _
        refine Go.st (fun _ k_ => XS.goto X10.here hx rfl (pc0 := 29) (pc' := 33) rfl (hb hby at_29) (by decide) (by decide) k_) ?_
        show Go p e below (T10.setTop (mkF m 33 #[.val (.int p1), .val (.int p2), .val (.int (1 : Int32)), .val (.ref w_LETTER), .val (.int (0 : Int32)), .unset, .unset, .unset] [(.int (1 : Int32))])) _
        refine Go.st (fun _ k_ => XS.istore X10.here hx rfl (hb hby at_33) rfl (l' := #[.val (.int p1), .val (.int p2), .val (.int (1 : Int32)), .val (.ref w_LETTER), .val (.int (0 : Int32)), .val (.int (1 : Int32)), .unset, .unset]) rfl k_) ?_
        show Go p e below (T10.setTop (mkF m 35 #[.val (.int p1), .val (.int p2), .val (.int (1 : Int32)), .val (.ref w_LETTER), .val (.int (0 : Int32)), .val (.int (1 : Int32)), .unset, .unset] [])) _
        refine Go.st (fun _ k_ => XS.iloadN X10.here hx rfl (hb hby at_35) rfl k_) ?_
        show Go p e below (T10.setTop (mkF m 36 #[.val (.int p1), .val (.int p2), .val (.int (1 : Int32)), .val (.ref w_LETTER), .val (.int (0 : Int32)), .val (.int (1 : Int32)), .unset, .unset] [(.int p2)])) _
        refine Go.st (fun _ k_ => XS.iconst X10.here hx rfl (hb hby at_36) k_) ?_
        show Go p e below (T10.setTop (mkF m 37 #[.val (.int p1), .val (.int p2), .val (.int (1 : Int32)), .val (.ref w_LETTER), .val (.int (0 : Int32)), .val (.int (1 : Int32)), .unset, .unset] [(.int (4 : Int32)), (.int p2)])) _
        refine Go.st (fun _ k_ => XS.iand X10.here hx rfl (hb hby at_37) rfl k_) ?_
        show Go p e below (T10.setTop (mkF m 38 #[.val (.int p1), .val (.int p2), .val (.int (1 : Int32)), .val (.ref w_LETTER), .val (.int (0 : Int32)), .val (.int (1 : Int32)), .unset, .unset] [(.int (p2 &&& (4 : Int32)))])) _
        by_cases hc38 : (p2 &&& (4 : Int32)) = (0 : Int32)
        · refine Go.st (fun _ k_ => XS.ifYes X10.here hx rfl (pc0 := 38) (pc' := 45) rfl (hb hby at_38) rfl ((if0 _ _).trans (teq hc38).1) (by decide) (by decide) k_) ?_
          show Go p e below (T10.setTop (mkF m 45 #[.val (.int p1), .val (.int p2), .val (.int (1 : Int32)), .val (.ref w_LETTER), .val (.int (0 : Int32)), .val (.int (1 : Int32)), .unset, .unset] [])) _
          refine Go.st (fun _ k_ => XS.iconst X10.here hx rfl (hb hby at_45) k_) ?_
          show Go p e below (T10.setTop (mkF m 46 #[.val (.int p1), .val (.int p2), .val (.int (1 : Int32)), .val (.ref w_LETTER), .val (.int (0 : Int32)), .val (.int (1 : Int32)), .unset, .unset] [(.int (0 : Int32))])) _
          refine Go.st (fun _ k_ => XS.istore X10.here hx rfl (hb hby at_46) rfl (l' := #[.val (.int p1), .val (.int p2), .val (.int (1 : Int32)), .val (.ref w_LETTER), .val (.int (0 : Int32)), .val (.int (1 : Int32)), .val (.int (0 : Int32)), .unset]) rfl k_) ?_
          show Go p e below (T10.setTop (mkF m 48 #[.val (.int p1), .val (.int p2), .val (.int (1 : Int32)), .val (.ref w_LETTER), .val (.int (0 : Int32)), .val (.int (1 : Int32)), .val (.int (0 : Int32)), .unset] [])) _
          refine Go.st (fun _ k_ => XS.iloadN X10.here hx rfl (hb hby at_48) rfl k_) ?_
          show Go p e below (T10.setTop (mkF m 49 #[.val (.int p1), .val (.int p2), .val (.int (1 : Int32)), .val (.ref w_LETTER), .val (.int (0 : Int32)), .val (.int (1 : Int32)), .val (.int (0 : Int32)), .unset] [(.int (1 : Int32))])) _
          refine Go.st (fun _ k_ => XS.iconst X10.here hx rfl (hb hby at_49) k_) ?_
          show Go p e below (T10.setTop (mkF m 50 #[.val (.int p1), .val (.int p2), .val (.int (1 : Int32)), .val (.ref w_LETTER), .val (.int (0 : Int32)), .val (.int (1 : Int32)), .val (.int (0 : Int32)), .unset] [(.int (1 : Int32)), (.int (1 : Int32))])) _
          refine Go.st (fun _ k_ => XS.icmpNo X10.here hx rfl (hb hby at_50) rfl (flt (by decide : ¬ ((1 : Int32) < (1 : Int32)))).1 k_) ?_
          show Go p e below (T10.setTop (mkF m 53 #[.val (.int p1), .val (.int p2), .val (.int (1 : Int32)), .val (.ref w_LETTER), .val (.int (0 : Int32)), .val (.int (1 : Int32)), .val (.int (0 : Int32)), .unset] [])) _
          refine Go.st (fun _ k_ => XS.iload X10.here hx rfl (hb hby at_53) rfl k_) ?_
          show Go p e below (T10.setTop (mkF m 55 #[.val (.int p1), .val (.int p2), .val (.int (1 : Int32)), .val (.ref w_LETTER), .val (.int (0 : Int32)), .val (.int (1 : Int32)), .val (.int (0 : Int32)), .unset] [(.int (0 : Int32))])) _
          refine Go.st (fun _ k_ => XS.ifYes X10.here hx rfl (pc0 := 55) (pc' := 82) rfl (hb hby at_55) rfl ((if0 _ _).trans (teq (by decide : (0 : Int32) = (0 : Int32))).1) (by decide) (by decide) k_) ?_
          show Go p e below (T10.setTop (mkF m 82 #[.val (.int p1), .val (.int p2), .val (.int (1 : Int32)), .val (.ref w_LETTER), .val (.int (0 : Int32)), .val (.int (1 : Int32)), .val (.int (0 : Int32)), .unset] [])) _
          refine Go.st (fun _ k_ => XS.iconst X10.here hx rfl (hb hby at_82) k_) ?_
          show Go p e below (T10.setTop (mkF m 83 #[.val (.int p1), .val (.int p2), .val (.int (1 : Int32)), .val (.ref w_LETTER), .val (.int (0 : Int32)), .val (.int (1 : Int32)), .val (.int (0 : Int32)), .unset] [(.int (0 : Int32))])) _
          refine Go.st (fun _ k_ => XS.istore X10.here hx rfl (hb hby at_83) rfl (l' := #[.val (.int p1), .val (.int p2), .val (.int (1 : Int32)), .val (.ref w_LETTER), .val (.int (0 : Int32)), .val (.int (1 : Int32)), .val (.int (0 : Int32)), .val (.int (0 : Int32))]) rfl k_) ?_
          show Go p e below (T10.setTop (mkF m 85 #[.val (.int p1), .val (.int p2), .val (.int (1 : Int32)), .val (.ref w_LETTER), .val (.int (0 : Int32)), .val (.int (1 : Int32)), .val (.int (0 : Int32)), .val (.int (0 : Int32))] [])) _
          refine Go.st (fun _ k_ => XS.aloadN X10.here hx rfl (hb hby at_85) rfl rfl k_) ?_
          show Go p e below (T10.setTop (mkF m 86 #[.val (.int p1), .val (.int p2), .val (.int (1 : Int32)), .val (.ref w_LETTER), .val (.int (0 : Int32)), .val (.int (1 : Int32)), .val (.int (0 : Int32)), .val (.int (0 : Int32))] [(.ref w_LETTER)])) _
          refine Go.st (fun _ k_ => XS.iload X10.here hx rfl (hb hby at_86) rfl k_) ?_
          show Go p e below (T10.setTop (mkF m 88 #[.val (.int p1), .val (.int p2), .val (.int (1 : Int32)), .val (.ref w_LETTER), .val (.int (0 : Int32)), .val (.int (1 : Int32)), .val (.int (0 : Int32)), .val (.int (0 : Int32))] [(.int (0 : Int32)), (.ref w_LETTER)])) _
          refine Go.st (fun _ k_ => XS.iload X10.here hx rfl (hb hby at_88) rfl k_) ?_
          show Go p e below (T10.setTop (mkF m 90 #[.val (.int p1), .val (.int p2), .val (.int (1 : Int32)), .val (.ref w_LETTER), .val (.int (0 : Int32)), .val (.int (1 : Int32)), .val (.int (0 : Int32)), .val (.int (0 : Int32))] [(.int (1 : Int32)), (.int (0 : Int32)), (.ref w_LETTER)])) _
          refine Go.st (fun _ k_ => XS.iload X10.here hx rfl (hb hby at_90) rfl k_) ?_
          show Go p e below (T10.setTop (mkF m 92 #[.val (.int p1), .val (.int p2), .val (.int (1 : Int32)), .val (.ref w_LETTER), .val (.int (0 : Int32)), .val (.int (1 : Int32)), .val (.int (0 : Int32)), .val (.int (0 : Int32))] [(.int (0 : Int32)), (.int (1 : Int32)), (.int (0 : Int32)), (.ref w_LETTER)])) _
          obtain ⟨cq13, kq13, q13a, q13b, q13c⟩ := isOf hZ e10 E_w_LETTER
          obtain ⟨_, _, ⟨T13, L13, k13_, n13_⟩, -, X13, ⟨Lc13, hQ13, l13_, y13_, z13_⟩, st13⟩ := X10.virtualBack hx (y := (⟨"com/example/patuxent/patuxent/PasswordComplexity", "isMetBy", "(ZZZ)Z"⟩ : MethodName)) (z := (⟨"com/example/patuxent/patuxent/PasswordComplexity", "isMetBy", "(ZZZ)Z"⟩ : MethodName)) hown (mvT hZ (hw _ (List.mem_of_getElem? (i := 7) rfl))) (mvT hZ (hw _ (List.mem_of_getElem? (i := 8) rfl))) (notFace_of_selects (args := #[]) (mvT hZ (hw _ (List.mem_of_getElem? (i := 10) rfl)))) (mvT hZ (hw _ (List.mem_of_getElem? (i := 10) rfl))) (mvT hZ (hw _ (List.mem_of_getElem? (i := 9) rfl))) (by decide) (backOf (W := 0) (rm2_1 l Z a0 hw [] w_LETTER (0 : Int32) (1 : Int32) (0 : Int32) h0 n0 Z0 E_w_LETTER F_LETTER) hZ (hw _ (List.mem_of_getElem? (i := 11) rfl)) (hw _ (List.mem_of_getElem? (i := 5) rfl)) (by decide) (by decide)) q13a q13c (g := (mkF m 92 #[.val (.int p1), .val (.int p2), .val (.int (1 : Int32)), .val (.ref w_LETTER), .val (.int (0 : Int32)), .val (.int (1 : Int32)), .val (.int (0 : Int32)), .val (.int (0 : Int32))] [(.int (0 : Int32)), (.int (1 : Int32)), (.int (0 : Int32)), (.ref w_LETTER)])) rfl (by rw [hml]; rfl) (Steps.refl _) (argsL := [(.int (0 : Int32)), (.int (1 : Int32)), (.int (0 : Int32))]) (rest := []) (lenOf pd_2 rfl) rfl (by show 2 * 0 + _ ≤ _; exact Nat.le_of_eq rfl) (hb hby at_92) (fun _ _ => ⟨rfl, e10, (by decide : 0 + 0 ≤ _), (by decide : 0 + 0 ≤ _)⟩)
          dsimp only [Pt.U, Pt.locs, Pt.cells, Pt.slots] at X13 l13_ y13_ z13_ st13 hQ13
          subst l13_ y13_ z13_
          obtain ⟨rfl, N13q, e13⟩ := hQ13
          have N13 := Fr.app N10 N13q
          refine Go.tr st13 ?_
          show Go p e below (T13.setTop (mkF m 95 #[.val (.int p1), .val (.int p2), .val (.int (1 : Int32)), .val (.ref w_LETTER), .val (.int (0 : Int32)), .val (.int (1 : Int32)), .val (.int (0 : Int32)), .val (.int (0 : Int32))] [(.int (nar .boolean (0 : Int32)))])) _
          refine Go.st (fun _ k_ => XS.iload X13.here hx rfl (hb hby at_95) rfl k_) ?_
          show Go p e below (T13.setTop (mkF m 97 #[.val (.int p1), .val (.int p2), .val (.int (1 : Int32)), .val (.ref w_LETTER), .val (.int (0 : Int32)), .val (.int (1 : Int32)), .val (.int (0 : Int32)), .val (.int (0 : Int32))] [(.int (0 : Int32)), (.int (nar .boolean (0 : Int32)))])) _
          have hc97 : (nar .boolean (0 : Int32)) = (0 : Int32) := by decide
          refine Go.st (fun _ k_ => XS.icmpNo X13.here hx rfl (hb hby at_97) rfl (teq hc97).2 k_) ?_
          show Go p e below (T13.setTop (mkF m 100 #[.val (.int p1), .val (.int p2), .val (.int (1 : Int32)), .val (.ref w_LETTER), .val (.int (0 : Int32)), .val (.int (1 : Int32)), .val (.int (0 : Int32)), .val (.int (0 : Int32))] [])) _
          refine Go.st (fun _ k_ => XS.iconst X13.here hx rfl (hb hby at_100) k_) ?_
          show Go p e below (T13.setTop (mkF m 101 #[.val (.int p1), .val (.int p2), .val (.int (1 : Int32)), .val (.ref w_LETTER), .val (.int (0 : Int32)), .val (.int (1 : Int32)), .val (.int (0 : Int32)), .val (.int (0 : Int32))] [(.int (1 : Int32))])) _
          refine Go.st (fun _ k_ => XS.goto X13.here hx rfl (pc0 := 101) (pc' := 105) rfl (hb hby at_101) (by decide) (by decide) k_) ?_
          show Go p e below (T13.setTop (mkF m 105 #[.val (.int p1), .val (.int p2), .val (.int (1 : Int32)), .val (.ref w_LETTER), .val (.int (0 : Int32)), .val (.int (1 : Int32)), .val (.int (0 : Int32)), .val (.int (0 : Int32))] [(.int (1 : Int32))])) _
          refine Go.fin X13 (v := some (.int (1 : Int32))) (fun h_ => by rw [Bd.returns] at h_; cases h_) Bd.notSynchronized (fun _ hr => retN X13 hx (t := .boolean) Bd.returns (by simp) (hb hby at_105) hr) (fun U' hU hF => ⟨_, _, rfl, ?_, hF.1, hF.2.1, hF.2.2.mono (by decide) (by decide)⟩)
          exact ⟨(congrArg (fun z_ : Int32 => some (Value.int z_)) (show (1 : Int32) = (1 : Int32) from rfl)), N13⟩
        · refine Go.st (fun _ k_ => XS.ifNo X10.here hx rfl (hb hby at_38) rfl ((if0 _ _).trans (feq hc38).1) k_) ?_
          show Go p e below (T10.setTop (mkF m 41 #[.val (.int p1), .val (.int p2), .val (.int (1 : Int32)), .val (.ref w_LETTER), .val (.int (0 : Int32)), .val (.int (1 : Int32)), .unset, .unset] [])) _
          refine Go.st (fun _ k_ => XS.iconst X10.here hx rfl (hb hby at_41) k_) ?_
          show Go p e below (T10.setTop (mkF m 42 #[.val (.int p1), .val (.int p2), .val (.int (1 : Int32)), .val (.ref w_LETTER), .val (.int (0 : Int32)), .val (.int (1 : Int32)), .unset, .unset] [(.int (1 : Int32))])) _
          refine Go.st (fun _ k_ => XS.goto X10.here hx rfl (pc0 := 42) (pc' := 46) rfl (hb hby at_42) (by decide) (by decide) k_) ?_
          show Go p e below (T10.setTop (mkF m 46 #[.val (.int p1), .val (.int p2), .val (.int (1 : Int32)), .val (.ref w_LETTER), .val (.int (0 : Int32)), .val (.int (1 : Int32)), .unset, .unset] [(.int (1 : Int32))])) _
          refine Go.st (fun _ k_ => XS.istore X10.here hx rfl (hb hby at_46) rfl (l' := #[.val (.int p1), .val (.int p2), .val (.int (1 : Int32)), .val (.ref w_LETTER), .val (.int (0 : Int32)), .val (.int (1 : Int32)), .val (.int (1 : Int32)), .unset]) rfl k_) ?_
          show Go p e below (T10.setTop (mkF m 48 #[.val (.int p1), .val (.int p2), .val (.int (1 : Int32)), .val (.ref w_LETTER), .val (.int (0 : Int32)), .val (.int (1 : Int32)), .val (.int (1 : Int32)), .unset] [])) _
          refine Go.st (fun _ k_ => XS.iloadN X10.here hx rfl (hb hby at_48) rfl k_) ?_
          show Go p e below (T10.setTop (mkF m 49 #[.val (.int p1), .val (.int p2), .val (.int (1 : Int32)), .val (.ref w_LETTER), .val (.int (0 : Int32)), .val (.int (1 : Int32)), .val (.int (1 : Int32)), .unset] [(.int (1 : Int32))])) _
          refine Go.st (fun _ k_ => XS.iconst X10.here hx rfl (hb hby at_49) k_) ?_
          show Go p e below (T10.setTop (mkF m 50 #[.val (.int p1), .val (.int p2), .val (.int (1 : Int32)), .val (.ref w_LETTER), .val (.int (0 : Int32)), .val (.int (1 : Int32)), .val (.int (1 : Int32)), .unset] [(.int (1 : Int32)), (.int (1 : Int32))])) _
          refine Go.st (fun _ k_ => XS.icmpNo X10.here hx rfl (hb hby at_50) rfl (flt (by decide : ¬ ((1 : Int32) < (1 : Int32)))).1 k_) ?_
          show Go p e below (T10.setTop (mkF m 53 #[.val (.int p1), .val (.int p2), .val (.int (1 : Int32)), .val (.ref w_LETTER), .val (.int (0 : Int32)), .val (.int (1 : Int32)), .val (.int (1 : Int32)), .unset] [])) _
          refine Go.st (fun _ k_ => XS.iload X10.here hx rfl (hb hby at_53) rfl k_) ?_
          show Go p e below (T10.setTop (mkF m 55 #[.val (.int p1), .val (.int p2), .val (.int (1 : Int32)), .val (.ref w_LETTER), .val (.int (0 : Int32)), .val (.int (1 : Int32)), .val (.int (1 : Int32)), .unset] [(.int (0 : Int32))])) _
          refine Go.st (fun _ k_ => XS.ifYes X10.here hx rfl (pc0 := 55) (pc' := 82) rfl (hb hby at_55) rfl ((if0 _ _).trans (teq (by decide : (0 : Int32) = (0 : Int32))).1) (by decide) (by decide) k_) ?_
          show Go p e below (T10.setTop (mkF m 82 #[.val (.int p1), .val (.int p2), .val (.int (1 : Int32)), .val (.ref w_LETTER), .val (.int (0 : Int32)), .val (.int (1 : Int32)), .val (.int (1 : Int32)), .unset] [])) _
          refine Go.st (fun _ k_ => XS.iconst X10.here hx rfl (hb hby at_82) k_) ?_
          show Go p e below (T10.setTop (mkF m 83 #[.val (.int p1), .val (.int p2), .val (.int (1 : Int32)), .val (.ref w_LETTER), .val (.int (0 : Int32)), .val (.int (1 : Int32)), .val (.int (1 : Int32)), .unset] [(.int (0 : Int32))])) _
          refine Go.st (fun _ k_ => XS.istore X10.here hx rfl (hb hby at_83) rfl (l' := #[.val (.int p1), .val (.int p2), .val (.int (1 : Int32)), .val (.ref w_LETTER), .val (.int (0 : Int32)), .val (.int (1 : Int32)), .val (.int (1 : Int32)), .val (.int (0 : Int32))]) rfl k_) ?_
          show Go p e below (T10.setTop (mkF m 85 #[.val (.int p1), .val (.int p2), .val (.int (1 : Int32)), .val (.ref w_LETTER), .val (.int (0 : Int32)), .val (.int (1 : Int32)), .val (.int (1 : Int32)), .val (.int (0 : Int32))] [])) _
          refine Go.st (fun _ k_ => XS.aloadN X10.here hx rfl (hb hby at_85) rfl rfl k_) ?_
          show Go p e below (T10.setTop (mkF m 86 #[.val (.int p1), .val (.int p2), .val (.int (1 : Int32)), .val (.ref w_LETTER), .val (.int (0 : Int32)), .val (.int (1 : Int32)), .val (.int (1 : Int32)), .val (.int (0 : Int32))] [(.ref w_LETTER)])) _
          refine Go.st (fun _ k_ => XS.iload X10.here hx rfl (hb hby at_86) rfl k_) ?_
          show Go p e below (T10.setTop (mkF m 88 #[.val (.int p1), .val (.int p2), .val (.int (1 : Int32)), .val (.ref w_LETTER), .val (.int (0 : Int32)), .val (.int (1 : Int32)), .val (.int (1 : Int32)), .val (.int (0 : Int32))] [(.int (0 : Int32)), (.ref w_LETTER)])) _
          refine Go.st (fun _ k_ => XS.iload X10.here hx rfl (hb hby at_88) rfl k_) ?_
          show Go p e below (T10.setTop (mkF m 90 #[.val (.int p1), .val (.int p2), .val (.int (1 : Int32)), .val (.ref w_LETTER), .val (.int (0 : Int32)), .val (.int (1 : Int32)), .val (.int (1 : Int32)), .val (.int (0 : Int32))] [(.int (1 : Int32)), (.int (0 : Int32)), (.ref w_LETTER)])) _
          refine Go.st (fun _ k_ => XS.iload X10.here hx rfl (hb hby at_90) rfl k_) ?_
          show Go p e below (T10.setTop (mkF m 92 #[.val (.int p1), .val (.int p2), .val (.int (1 : Int32)), .val (.ref w_LETTER), .val (.int (0 : Int32)), .val (.int (1 : Int32)), .val (.int (1 : Int32)), .val (.int (0 : Int32))] [(.int (1 : Int32)), (.int (1 : Int32)), (.int (0 : Int32)), (.ref w_LETTER)])) _
          obtain ⟨cq14, kq14, q14a, q14b, q14c⟩ := isOf hZ e10 E_w_LETTER
          obtain ⟨_, _, ⟨T14, L14, k14_, n14_⟩, -, X14, ⟨Lc14, hQ14, l14_, y14_, z14_⟩, st14⟩ := X10.virtualBack hx (y := (⟨"com/example/patuxent/patuxent/PasswordComplexity", "isMetBy", "(ZZZ)Z"⟩ : MethodName)) (z := (⟨"com/example/patuxent/patuxent/PasswordComplexity", "isMetBy", "(ZZZ)Z"⟩ : MethodName)) hown (mvT hZ (hw _ (List.mem_of_getElem? (i := 7) rfl))) (mvT hZ (hw _ (List.mem_of_getElem? (i := 8) rfl))) (notFace_of_selects (args := #[]) (mvT hZ (hw _ (List.mem_of_getElem? (i := 10) rfl)))) (mvT hZ (hw _ (List.mem_of_getElem? (i := 10) rfl))) (mvT hZ (hw _ (List.mem_of_getElem? (i := 9) rfl))) (by decide) (backOf (W := 0) (rm2_1 l Z a0 hw [] w_LETTER (0 : Int32) (1 : Int32) (1 : Int32) h0 n0 Z0 E_w_LETTER F_LETTER) hZ (hw _ (List.mem_of_getElem? (i := 11) rfl)) (hw _ (List.mem_of_getElem? (i := 5) rfl)) (by decide) (by decide)) q14a q14c (g := (mkF m 92 #[.val (.int p1), .val (.int p2), .val (.int (1 : Int32)), .val (.ref w_LETTER), .val (.int (0 : Int32)), .val (.int (1 : Int32)), .val (.int (1 : Int32)), .val (.int (0 : Int32))] [(.int (1 : Int32)), (.int (1 : Int32)), (.int (0 : Int32)), (.ref w_LETTER)])) rfl (by rw [hml]; rfl) (Steps.refl _) (argsL := [(.int (0 : Int32)), (.int (1 : Int32)), (.int (1 : Int32))]) (rest := []) (lenOf pd_2 rfl) rfl (by show 2 * 0 + _ ≤ _; exact Nat.le_of_eq rfl) (hb hby at_92) (fun _ _ => ⟨rfl, e10, (by decide : 0 + 0 ≤ _), (by decide : 0 + 0 ≤ _)⟩)
          dsimp only [Pt.U, Pt.locs, Pt.cells, Pt.slots] at X14 l14_ y14_ z14_ st14 hQ14
          subst l14_ y14_ z14_
          obtain ⟨rfl, N14q, e14⟩ := hQ14
          have N14 := Fr.app N10 N14q
          refine Go.tr st14 ?_
          show Go p e below (T14.setTop (mkF m 95 #[.val (.int p1), .val (.int p2), .val (.int (1 : Int32)), .val (.ref w_LETTER), .val (.int (0 : Int32)), .val (.int (1 : Int32)), .val (.int (1 : Int32)), .val (.int (0 : Int32))] [(.int (nar .boolean (0 : Int32)))])) _
          refine Go.st (fun _ k_ => XS.iload X14.here hx rfl (hb hby at_95) rfl k_) ?_
          show Go p e below (T14.setTop (mkF m 97 #[.val (.int p1), .val (.int p2), .val (.int (1 : Int32)), .val (.ref w_LETTER), .val (.int (0 : Int32)), .val (.int (1 : Int32)), .val (.int (1 : Int32)), .val (.int (0 : Int32))] [(.int (0 : Int32)), (.int (nar .boolean (0 : Int32)))])) _
          have hc97 : (nar .boolean (0 : Int32)) = (0 : Int32) := by decide
          refine Go.st (fun _ k_ => XS.icmpNo X14.here hx rfl (hb hby at_97) rfl (teq hc97).2 k_) ?_
          show Go p e below (T14.setTop (mkF m 100 #[.val (.int p1), .val (.int p2), .val (.int (1 : Int32)), .val (.ref w_LETTER), .val (.int (0 : Int32)), .val (.int (1 : Int32)), .val (.int (1 : Int32)), .val (.int (0 : Int32))] [])) _
          refine Go.st (fun _ k_ => XS.iconst X14.here hx rfl (hb hby at_100) k_) ?_
          show Go p e below (T14.setTop (mkF m 101 #[.val (.int p1), .val (.int p2), .val (.int (1 : Int32)), .val (.ref w_LETTER), .val (.int (0 : Int32)), .val (.int (1 : Int32)), .val (.int (1 : Int32)), .val (.int (0 : Int32))] [(.int (1 : Int32))])) _
          refine Go.st (fun _ k_ => XS.goto X14.here hx rfl (pc0 := 101) (pc' := 105) rfl (hb hby at_101) (by decide) (by decide) k_) ?_
          show Go p e below (T14.setTop (mkF m 105 #[.val (.int p1), .val (.int p2), .val (.int (1 : Int32)), .val (.ref w_LETTER), .val (.int (0 : Int32)), .val (.int (1 : Int32)), .val (.int (1 : Int32)), .val (.int (0 : Int32))] [(.int (1 : Int32))])) _
          refine Go.fin X14 (v := some (.int (1 : Int32))) (fun h_ => by rw [Bd.returns] at h_; cases h_) Bd.notSynchronized (fun _ hr => retN X14 hx (t := .boolean) Bd.returns (by simp) (hb hby at_105) hr) (fun U' hU hF => ⟨_, _, rfl, ?_, hF.1, hF.2.1, hF.2.2.mono (by decide) (by decide)⟩)
          exact ⟨(congrArg (fun z_ : Int32 => some (Value.int z_)) (show (1 : Int32) = (1 : Int32) from rfl)), N14⟩
    · refine Go.st (fun _ k_ => XS.ifNo X10.here hx rfl (hb hby at_12) rfl ((if0 _ _).trans (feq hc12).1) k_) ?_
      show Go p e below (T10.setTop (mkF m 15 #[.val (.int p1), .val (.int p2), .val (.int (1 : Int32)), .val (.ref w_LETTER), .unset, .unset, .unset, .unset] [])) _
      refine Go.st (fun _ k_ => XS.iconst X10.here hx rfl (hb hby at_15) k_) ?_
      show Go p e below (T10.setTop (mkF m 16 #[.val (.int p1), .val (.int p2), .val (.int (1 : Int32)), .val (.ref w_LETTER), .unset, .unset, .unset, .unset] [(.int (1 : Int32))])) _
      refine Go.st (fun _ k_ => XS.goto X10.here hx rfl (pc0 := 16) (pc' := 20) rfl (hb hby at_16) (by decide) (by decide) k_) ?_
      show Go p e below (T10.setTop (mkF m 20 #[.val (.int p1), .val (.int p2), .val (.int (1 : Int32)), .val (.ref w_LETTER), .unset, .unset, .unset, .unset] [(.int (1 : Int32))])) _
      refine Go.st (fun _ k_ => XS.istore X10.here hx rfl (hb hby at_20) rfl (l' := #[.val (.int p1), .val (.int p2), .val (.int (1 : Int32)), .val (.ref w_LETTER), .val (.int (1 : Int32)), .unset, .unset, .unset]) rfl k_) ?_
      show Go p e below (T10.setTop (mkF m 22 #[.val (.int p1), .val (.int p2), .val (.int (1 : Int32)), .val (.ref w_LETTER), .val (.int (1 : Int32)), .unset, .unset, .unset] [])) _
      refine Go.st (fun _ k_ => XS.iloadN X10.here hx rfl (hb hby at_22) rfl k_) ?_
      show Go p e below (T10.setTop (mkF m 23 #[.val (.int p1), .val (.int p2), .val (.int (1 : Int32)), .val (.ref w_LETTER), .val (.int (1 : Int32)), .unset, .unset, .unset] [(.int p2)])) _
      refine Go.st (fun _ k_ => XS.iconst X10.here hx rfl (hb hby at_23) k_) ?_
      show Go p e below (T10.setTop (mkF m 24 #[.val (.int p1), .val (.int p2), .val (.int (1 : Int32)), .val (.ref w_LETTER), .val (.int (1 : Int32)), .unset, .unset, .unset] [(.int (2 : Int32)), (.int p2)])) _
      refine Go.st (fun _ k_ => XS.iand X10.here hx rfl (hb hby at_24) rfl k_) ?_
      show Go p e below (T10.setTop (mkF m 25 #[.val (.int p1), .val (.int p2), .val (.int (1 : Int32)), .val (.ref w_LETTER), .val (.int (1 : Int32)), .unset, .unset, .unset] [(.int (p2 &&& (2 : Int32)))])) _
      by_cases hc25 : (p2 &&& (2 : Int32)) = (0 : Int32)
      · refine Go.st (fun _ k_ => XS.ifYes X10.here hx rfl (pc0 := 25) (pc' := 32) rfl (hb hby at_25) rfl ((if0 _ _).trans (teq hc25).1) (by decide) (by decide) k_) ?_
        show Go p e below (T10.setTop (mkF m 32 #[.val (.int p1), .val (.int p2), .val (.int (1 : Int32)), .val (.ref w_LETTER), .val (.int (1 : Int32)), .unset, .unset, .unset] [])) _
        refine Go.st (fun _ k_ => XS.iconst X10.here hx rfl (hb hby at_32) k_) ?_
        show Go p e below (T10.setTop (mkF m 33 #[.val (.int p1), .val (.int p2), .val (.int (1 : Int32)), .val (.ref w_LETTER), .val (.int (1 : Int32)), .unset, .unset, .unset] [(.int (0 : Int32))])) _
        refine Go.st (fun _ k_ => XS.istore X10.here hx rfl (hb hby at_33) rfl (l' := #[.val (.int p1), .val (.int p2), .val (.int (1 : Int32)), .val (.ref w_LETTER), .val (.int (1 : Int32)), .val (.int (0 : Int32)), .unset, .unset]) rfl k_) ?_
        show Go p e below (T10.setTop (mkF m 35 #[.val (.int p1), .val (.int p2), .val (.int (1 : Int32)), .val (.ref w_LETTER), .val (.int (1 : Int32)), .val (.int (0 : Int32)), .unset, .unset] [])) _
        refine Go.st (fun _ k_ => XS.iloadN X10.here hx rfl (hb hby at_35) rfl k_) ?_
        show Go p e below (T10.setTop (mkF m 36 #[.val (.int p1), .val (.int p2), .val (.int (1 : Int32)), .val (.ref w_LETTER), .val (.int (1 : Int32)), .val (.int (0 : Int32)), .unset, .unset] [(.int p2)])) _
        refine Go.st (fun _ k_ => XS.iconst X10.here hx rfl (hb hby at_36) k_) ?_
        show Go p e below (T10.setTop (mkF m 37 #[.val (.int p1), .val (.int p2), .val (.int (1 : Int32)), .val (.ref w_LETTER), .val (.int (1 : Int32)), .val (.int (0 : Int32)), .unset, .unset] [(.int (4 : Int32)), (.int p2)])) _
        refine Go.st (fun _ k_ => XS.iand X10.here hx rfl (hb hby at_37) rfl k_) ?_
        show Go p e below (T10.setTop (mkF m 38 #[.val (.int p1), .val (.int p2), .val (.int (1 : Int32)), .val (.ref w_LETTER), .val (.int (1 : Int32)), .val (.int (0 : Int32)), .unset, .unset] [(.int (p2 &&& (4 : Int32)))])) _
        by_cases hc38 : (p2 &&& (4 : Int32)) = (0 : Int32)
        · refine Go.st (fun _ k_ => XS.ifYes X10.here hx rfl (pc0 := 38) (pc' := 45) rfl (hb hby at_38) rfl ((if0 _ _).trans (teq hc38).1) (by decide) (by decide) k_) ?_
          show Go p e below (T10.setTop (mkF m 45 #[.val (.int p1), .val (.int p2), .val (.int (1 : Int32)), .val (.ref w_LETTER), .val (.int (1 : Int32)), .val (.int (0 : Int32)), .unset, .unset] [])) _
          refine Go.st (fun _ k_ => XS.iconst X10.here hx rfl (hb hby at_45) k_) ?_
          show Go p e below (T10.setTop (mkF m 46 #[.val (.int p1), .val (.int p2), .val (.int (1 : Int32)), .val (.ref w_LETTER), .val (.int (1 : Int32)), .val (.int (0 : Int32)), .unset, .unset] [(.int (0 : Int32))])) _
          refine Go.st (fun _ k_ => XS.istore X10.here hx rfl (hb hby at_46) rfl (l' := #[.val (.int p1), .val (.int p2), .val (.int (1 : Int32)), .val (.ref w_LETTER), .val (.int (1 : Int32)), .val (.int (0 : Int32)), .val (.int (0 : Int32)), .unset]) rfl k_) ?_
          show Go p e below (T10.setTop (mkF m 48 #[.val (.int p1), .val (.int p2), .val (.int (1 : Int32)), .val (.ref w_LETTER), .val (.int (1 : Int32)), .val (.int (0 : Int32)), .val (.int (0 : Int32)), .unset] [])) _
          refine Go.st (fun _ k_ => XS.iloadN X10.here hx rfl (hb hby at_48) rfl k_) ?_
          show Go p e below (T10.setTop (mkF m 49 #[.val (.int p1), .val (.int p2), .val (.int (1 : Int32)), .val (.ref w_LETTER), .val (.int (1 : Int32)), .val (.int (0 : Int32)), .val (.int (0 : Int32)), .unset] [(.int (1 : Int32))])) _
          refine Go.st (fun _ k_ => XS.iconst X10.here hx rfl (hb hby at_49) k_) ?_
          show Go p e below (T10.setTop (mkF m 50 #[.val (.int p1), .val (.int p2), .val (.int (1 : Int32)), .val (.ref w_LETTER), .val (.int (1 : Int32)), .val (.int (0 : Int32)), .val (.int (0 : Int32)), .unset] [(.int (1 : Int32)), (.int (1 : Int32))])) _
          refine Go.st (fun _ k_ => XS.icmpNo X10.here hx rfl (hb hby at_50) rfl (flt (by decide : ¬ ((1 : Int32) < (1 : Int32)))).1 k_) ?_
          show Go p e below (T10.setTop (mkF m 53 #[.val (.int p1), .val (.int p2), .val (.int (1 : Int32)), .val (.ref w_LETTER), .val (.int (1 : Int32)), .val (.int (0 : Int32)), .val (.int (0 : Int32)), .unset] [])) _
          refine Go.st (fun _ k_ => XS.iload X10.here hx rfl (hb hby at_53) rfl k_) ?_
          show Go p e below (T10.setTop (mkF m 55 #[.val (.int p1), .val (.int p2), .val (.int (1 : Int32)), .val (.ref w_LETTER), .val (.int (1 : Int32)), .val (.int (0 : Int32)), .val (.int (0 : Int32)), .unset] [(.int (1 : Int32))])) _
          refine Go.st (fun _ k_ => XS.ifNo X10.here hx rfl (hb hby at_55) rfl ((if0 _ _).trans (feq (by decide : ¬ ((1 : Int32) = (0 : Int32)))).1) k_) ?_
          show Go p e below (T10.setTop (mkF m 58 #[.val (.int p1), .val (.int p2), .val (.int (1 : Int32)), .val (.ref w_LETTER), .val (.int (1 : Int32)), .val (.int (0 : Int32)), .val (.int (0 : Int32)), .unset] [])) _
          refine Go.st (fun _ k_ => XS.iloadN X10.here hx rfl (hb hby at_58) rfl k_) ?_
          show Go p e below (T10.setTop (mkF m 59 #[.val (.int p1), .val (.int p2), .val (.int (1 : Int32)), .val (.ref w_LETTER), .val (.int (1 : Int32)), .val (.int (0 : Int32)), .val (.int (0 : Int32)), .unset] [(.int (1 : Int32))])) _
          refine Go.st (fun _ k_ => XS.iconst X10.here hx rfl (hb hby at_59) k_) ?_
          show Go p e below (T10.setTop (mkF m 60 #[.val (.int p1), .val (.int p2), .val (.int (1 : Int32)), .val (.ref w_LETTER), .val (.int (1 : Int32)), .val (.int (0 : Int32)), .val (.int (0 : Int32)), .unset] [(.int (2 : Int32)), (.int (1 : Int32))])) _
          refine Go.st (fun _ k_ => XS.icmpYes X10.here hx rfl (pc0 := 60) (pc' := 68) rfl (hb hby at_60) rfl (tlt (by decide : (1 : Int32) < (2 : Int32))).1 (by decide) (by decide) k_) ?_
          show Go p e below (T10.setTop (mkF m 68 #[.val (.int p1), .val (.int p2), .val (.int (1 : Int32)), .val (.ref w_LETTER), .val (.int (1 : Int32)), .val (.int (0 : Int32)), .val (.int (0 : Int32)), .unset] [])) _
          refine Go.st (fun _ k_ => XS.iloadN X10.here hx rfl (hb hby at_68) rfl k_) ?_
          show Go p e below (T10.setTop (mkF m 69 #[.val (.int p1), .val (.int p2), .val (.int (1 : Int32)), .val (.ref w_LETTER), .val (.int (1 : Int32)), .val (.int (0 : Int32)), .val (.int (0 : Int32)), .unset] [(.int (1 : Int32))])) _
          refine Go.st (fun _ k_ => XS.iconst X10.here hx rfl (hb hby at_69) k_) ?_
          show Go p e below (T10.setTop (mkF m 70 #[.val (.int p1), .val (.int p2), .val (.int (1 : Int32)), .val (.ref w_LETTER), .val (.int (1 : Int32)), .val (.int (0 : Int32)), .val (.int (0 : Int32)), .unset] [(.int (3 : Int32)), (.int (1 : Int32))])) _
          refine Go.st (fun _ k_ => XS.icmpYes X10.here hx rfl (pc0 := 70) (pc' := 78) rfl (hb hby at_70) rfl (tlt (by decide : (1 : Int32) < (3 : Int32))).1 (by decide) (by decide) k_) ?_
          show Go p e below (T10.setTop (mkF m 78 #[.val (.int p1), .val (.int p2), .val (.int (1 : Int32)), .val (.ref w_LETTER), .val (.int (1 : Int32)), .val (.int (0 : Int32)), .val (.int (0 : Int32)), .unset] [])) _
          refine Go.st (fun _ k_ => XS.iconst X10.here hx rfl (hb hby at_78) k_) ?_
          show Go p e below (T10.setTop (mkF m 79 #[.val (.int p1), .val (.int p2), .val (.int (1 : Int32)), .val (.ref w_LETTER), .val (.int (1 : Int32)), .val (.int (0 : Int32)), .val (.int (0 : Int32)), .unset] [(.int (1 : Int32))])) _
          refine Go.st (fun _ k_ => XS.goto X10.here hx rfl (pc0 := 79) (pc' := 83) rfl (hb hby at_79) (by decide) (by decide) k_) ?_
          show Go p e below (T10.setTop (mkF m 83 #[.val (.int p1), .val (.int p2), .val (.int (1 : Int32)), .val (.ref w_LETTER), .val (.int (1 : Int32)), .val (.int (0 : Int32)), .val (.int (0 : Int32)), .unset] [(.int (1 : Int32))])) _
          refine Go.st (fun _ k_ => XS.istore X10.here hx rfl (hb hby at_83) rfl (l' := #[.val (.int p1), .val (.int p2), .val (.int (1 : Int32)), .val (.ref w_LETTER), .val (.int (1 : Int32)), .val (.int (0 : Int32)), .val (.int (0 : Int32)), .val (.int (1 : Int32))]) rfl k_) ?_
          show Go p e below (T10.setTop (mkF m 85 #[.val (.int p1), .val (.int p2), .val (.int (1 : Int32)), .val (.ref w_LETTER), .val (.int (1 : Int32)), .val (.int (0 : Int32)), .val (.int (0 : Int32)), .val (.int (1 : Int32))] [])) _
          refine Go.st (fun _ k_ => XS.aloadN X10.here hx rfl (hb hby at_85) rfl rfl k_) ?_
          show Go p e below (T10.setTop (mkF m 86 #[.val (.int p1), .val (.int p2), .val (.int (1 : Int32)), .val (.ref w_LETTER), .val (.int (1 : Int32)), .val (.int (0 : Int32)), .val (.int (0 : Int32)), .val (.int (1 : Int32))] [(.ref w_LETTER)])) _
          refine Go.st (fun _ k_ => XS.iload X10.here hx rfl (hb hby at_86) rfl k_) ?_
          show Go p e below (T10.setTop (mkF m 88 #[.val (.int p1), .val (.int p2), .val (.int (1 : Int32)), .val (.ref w_LETTER), .val (.int (1 : Int32)), .val (.int (0 : Int32)), .val (.int (0 : Int32)), .val (.int (1 : Int32))] [(.int (1 : Int32)), (.ref w_LETTER)])) _
          refine Go.st (fun _ k_ => XS.iload X10.here hx rfl (hb hby at_88) rfl k_) ?_
          show Go p e below (T10.setTop (mkF m 90 #[.val (.int p1), .val (.int p2), .val (.int (1 : Int32)), .val (.ref w_LETTER), .val (.int (1 : Int32)), .val (.int (0 : Int32)), .val (.int (0 : Int32)), .val (.int (1 : Int32))] [(.int (0 : Int32)), (.int (1 : Int32)), (.ref w_LETTER)])) _
          refine Go.st (fun _ k_ => XS.iload X10.here hx rfl (hb hby at_90) rfl k_) ?_
          show Go p e below (T10.setTop (mkF m 92 #[.val (.int p1), .val (.int p2), .val (.int (1 : Int32)), .val (.ref w_LETTER), .val (.int (1 : Int32)), .val (.int (0 : Int32)), .val (.int (0 : Int32)), .val (.int (1 : Int32))] [(.int (0 : Int32)), (.int (0 : Int32)), (.int (1 : Int32)), (.ref w_LETTER)])) _
          obtain ⟨cq15, kq15, q15a, q15b, q15c⟩ := isOf hZ e10 E_w_LETTER
          obtain ⟨_, _, ⟨T15, L15, k15_, n15_⟩, -, X15, ⟨Lc15, hQ15, l15_, y15_, z15_⟩, st15⟩ := X10.virtualBack hx (y := (⟨"com/example/patuxent/patuxent/PasswordComplexity", "isMetBy", "(ZZZ)Z"⟩ : MethodName)) (z := (⟨"com/example/patuxent/patuxent/PasswordComplexity", "isMetBy", "(ZZZ)Z"⟩ : MethodName)) hown (mvT hZ (hw _ (List.mem_of_getElem? (i := 7) rfl))) (mvT hZ (hw _ (List.mem_of_getElem? (i := 8) rfl))) (notFace_of_selects (args := #[]) (mvT hZ (hw _ (List.mem_of_getElem? (i := 10) rfl)))) (mvT hZ (hw _ (List.mem_of_getElem? (i := 10) rfl))) (mvT hZ (hw _ (List.mem_of_getElem? (i := 9) rfl))) (by decide) (backOf (W := 0) (rm2_1 l Z a0 hw [] w_LETTER (1 : Int32) (0 : Int32) (0 : Int32) h0 n0 Z0 E_w_LETTER F_LETTER) hZ (hw _ (List.mem_of_getElem? (i := 11) rfl)) (hw _ (List.mem_of_getElem? (i := 5) rfl)) (by decide) (by decide)) q15a q15c (g := (mkF m 92 #[.val (.int p1), .val (.int p2), .val (.int (1 : Int32)), .val (.ref w_LETTER), .val (.int (1 : Int32)), .val (.int (0 : Int32)), .val (.int (0 : Int32)), .val (.int (1 : Int32))] [(.int (0 : Int32)), (.int (0 : Int32)), (.int (1 : Int32)), (.ref w_LETTER)])) rfl (by rw [hml]; rfl) (Steps.refl _) (argsL := [(.int (1 : Int32)), (.int (0 : Int32)), (.int (0 : Int32))]) (rest := []) (lenOf pd_2 rfl) rfl (by show 2 * 0 + _ ≤ _; exact Nat.le_of_eq rfl) (hb hby at_92) (fun _ _ => ⟨rfl, e10, (by decide : 0 + 0 ≤ _), (by decide : 0 + 0 ≤ _)⟩)
          dsimp only [Pt.U, Pt.locs, Pt.cells, Pt.slots] at X15 l15_ y15_ z15_ st15 hQ15
          subst l15_ y15_ z15_
          obtain ⟨rfl, N15q, e15⟩ := hQ15
          have N15 := Fr.app N10 N15q
          refine Go.tr st15 ?_
          show Go p e below (T15.setTop (mkF m 95 #[.val (.int p1), .val (.int p2), .val (.int (1 : Int32)), .val (.ref w_LETTER), .val (.int (1 : Int32)), .val (.int (0 : Int32)), .val (.int (0 : Int32)), .val (.int (1 : Int32))] [(.int (nar .boolean (1 : Int32)))])) _
          refine Go.st (fun _ k_ => XS.iload X15.here hx rfl (hb hby at_95) rfl k_) ?_
          show Go p e below (T15.setTop (mkF m 97 #[.val (.int p1), .val (.int p2), .val (.int (1 : Int32)), .val (.ref w_LETTER), .val (.int (1 : Int32)), .val (.int (0 : Int32)), .val (.int (0 : Int32)), .val (.int (1 : Int32))] [(.int (1 : Int32)), (.int (nar .boolean (1 : Int32)))])) _
          have hc97 : (nar .boolean (1 : Int32)) = (1 : Int32) := by decide
          refine Go.st (fun _ k_ => XS.icmpNo X15.here hx rfl (hb hby at_97) rfl (teq hc97).2 k_) ?_
          show Go p e below (T15.setTop (mkF m 100 #[.val (.int p1), .val (.int p2), .val (.int (1 : Int32)), .val (.ref w_LETTER), .val (.int (1 : Int32)), .val (.int (0 : Int32)), .val (.int (0 : Int32)), .val (.int (1 : Int32))] [])) _
          refine Go.st (fun _ k_ => XS.iconst X15.here hx rfl (hb hby at_100) k_) ?_
          show Go p e below (T15.setTop (mkF m 101 #[.val (.int p1), .val (.int p2), .val (.int (1 : Int32)), .val (.ref w_LETTER), .val (.int (1 : Int32)), .val (.int (0 : Int32)), .val (.int (0 : Int32)), .val (.int (1 : Int32))] [(.int (1 : Int32))])) _
          refine Go.st (fun _ k_ => XS.goto X15.here hx rfl (pc0 := 101) (pc' := 105) rfl (hb hby at_101) (by decide) (by decide) k_) ?_
          show Go p e below (T15.setTop (mkF m 105 #[.val (.int p1), .val (.int p2), .val (.int (1 : Int32)), .val (.ref w_LETTER), .val (.int (1 : Int32)), .val (.int (0 : Int32)), .val (.int (0 : Int32)), .val (.int (1 : Int32))] [(.int (1 : Int32))])) _
          refine Go.fin X15 (v := some (.int (1 : Int32))) (fun h_ => by rw [Bd.returns] at h_; cases h_) Bd.notSynchronized (fun _ hr => retN X15 hx (t := .boolean) Bd.returns (by simp) (hb hby at_105) hr) (fun U' hU hF => ⟨_, _, rfl, ?_, hF.1, hF.2.1, hF.2.2.mono (by decide) (by decide)⟩)
          exact ⟨(congrArg (fun z_ : Int32 => some (Value.int z_)) (show (1 : Int32) = (1 : Int32) from rfl)), N15⟩
        · refine Go.st (fun _ k_ => XS.ifNo X10.here hx rfl (hb hby at_38) rfl ((if0 _ _).trans (feq hc38).1) k_) ?_
          show Go p e below (T10.setTop (mkF m 41 #[.val (.int p1), .val (.int p2), .val (.int (1 : Int32)), .val (.ref w_LETTER), .val (.int (1 : Int32)), .val (.int (0 : Int32)), .unset, .unset] [])) _
          refine Go.st (fun _ k_ => XS.iconst X10.here hx rfl (hb hby at_41) k_) ?_
          show Go p e below (T10.setTop (mkF m 42 #[.val (.int p1), .val (.int p2), .val (.int (1 : Int32)), .val (.ref w_LETTER), .val (.int (1 : Int32)), .val (.int (0 : Int32)), .unset, .unset] [(.int (1 : Int32))])) _
          refine Go.st (fun _ k_ => XS.goto X10.here hx rfl (pc0 := 42) (pc' := 46) rfl (hb hby at_42) (by decide) (by decide) k_) ?_
          show Go p e below (T10.setTop (mkF m 46 #[.val (.int p1), .val (.int p2), .val (.int (1 : Int32)), .val (.ref w_LETTER), .val (.int (1 : Int32)), .val (.int (0 : Int32)), .unset, .unset] [(.int (1 : Int32))])) _
          refine Go.st (fun _ k_ => XS.istore X10.here hx rfl (hb hby at_46) rfl (l' := #[.val (.int p1), .val (.int p2), .val (.int (1 : Int32)), .val (.ref w_LETTER), .val (.int (1 : Int32)), .val (.int (0 : Int32)), .val (.int (1 : Int32)), .unset]) rfl k_) ?_
          show Go p e below (T10.setTop (mkF m 48 #[.val (.int p1), .val (.int p2), .val (.int (1 : Int32)), .val (.ref w_LETTER), .val (.int (1 : Int32)), .val (.int (0 : Int32)), .val (.int (1 : Int32)), .unset] [])) _
          refine Go.st (fun _ k_ => XS.iloadN X10.here hx rfl (hb hby at_48) rfl k_) ?_
          show Go p e below (T10.setTop (mkF m 49 #[.val (.int p1), .val (.int p2), .val (.int (1 : Int32)), .val (.ref w_LETTER), .val (.int (1 : Int32)), .val (.int (0 : Int32)), .val (.int (1 : Int32)), .unset] [(.int (1 : Int32))])) _
          refine Go.st (fun _ k_ => XS.iconst X10.here hx rfl (hb hby at_49) k_) ?_
          show Go p e below (T10.setTop (mkF m 50 #[.val (.int p1), .val (.int p2), .val (.int (1 : Int32)), .val (.ref w_LETTER), .val (.int (1 : Int32)), .val (.int (0 : Int32)), .val (.int (1 : Int32)), .unset] [(.int (1 : Int32)), (.int (1 : Int32))])) _
          refine Go.st (fun _ k_ => XS.icmpNo X10.here hx rfl (hb hby at_50) rfl (flt (by decide : ¬ ((1 : Int32) < (1 : Int32)))).1 k_) ?_
          show Go p e below (T10.setTop (mkF m 53 #[.val (.int p1), .val (.int p2), .val (.int (1 : Int32)), .val (.ref w_LETTER), .val (.int (1 : Int32)), .val (.int (0 : Int32)), .val (.int (1 : Int32)), .unset] [])) _
          refine Go.st (fun _ k_ => XS.iload X10.here hx rfl (hb hby at_53) rfl k_) ?_
          show Go p e below (T10.setTop (mkF m 55 #[.val (.int p1), .val (.int p2), .val (.int (1 : Int32)), .val (.ref w_LETTER), .val (.int (1 : Int32)), .val (.int (0 : Int32)), .val (.int (1 : Int32)), .unset] [(.int (1 : Int32))])) _
          refine Go.st (fun _ k_ => XS.ifNo X10.here hx rfl (hb hby at_55) rfl ((if0 _ _).trans (feq (by decide : ¬ ((1 : Int32) = (0 : Int32)))).1) k_) ?_
          show Go p e below (T10.setTop (mkF m 58 #[.val (.int p1), .val (.int p2), .val (.int (1 : Int32)), .val (.ref w_LETTER), .val (.int (1 : Int32)), .val (.int (0 : Int32)), .val (.int (1 : Int32)), .unset] [])) _
          refine Go.st (fun _ k_ => XS.iloadN X10.here hx rfl (hb hby at_58) rfl k_) ?_
          show Go p e below (T10.setTop (mkF m 59 #[.val (.int p1), .val (.int p2), .val (.int (1 : Int32)), .val (.ref w_LETTER), .val (.int (1 : Int32)), .val (.int (0 : Int32)), .val (.int (1 : Int32)), .unset] [(.int (1 : Int32))])) _
          refine Go.st (fun _ k_ => XS.iconst X10.here hx rfl (hb hby at_59) k_) ?_
          show Go p e below (T10.setTop (mkF m 60 #[.val (.int p1), .val (.int p2), .val (.int (1 : Int32)), .val (.ref w_LETTER), .val (.int (1 : Int32)), .val (.int (0 : Int32)), .val (.int (1 : Int32)), .unset] [(.int (2 : Int32)), (.int (1 : Int32))])) _
          refine Go.st (fun _ k_ => XS.icmpYes X10.here hx rfl (pc0 := 60) (pc' := 68) rfl (hb hby at_60) rfl (tlt (by decide : (1 : Int32) < (2 : Int32))).1 (by decide) (by decide) k_) ?_
          show Go p e below (T10.setTop (mkF m 68 #[.val (.int p1), .val (.int p2), .val (.int (1 : Int32)), .val (.ref w_LETTER), .val (.int (1 : Int32)), .val (.int (0 : Int32)), .val (.int (1 : Int32)), .unset] [])) _
          refine Go.st (fun _ k_ => XS.iloadN X10.here hx rfl (hb hby at_68) rfl k_) ?_
          show Go p e below (T10.setTop (mkF m 69 #[.val (.int p1), .val (.int p2), .val (.int (1 : Int32)), .val (.ref w_LETTER), .val (.int (1 : Int32)), .val (.int (0 : Int32)), .val (.int (1 : Int32)), .unset] [(.int (1 : Int32))])) _
          refine Go.st (fun _ k_ => XS.iconst X10.here hx rfl (hb hby at_69) k_) ?_
          show Go p e below (T10.setTop (mkF m 70 #[.val (.int p1), .val (.int p2), .val (.int (1 : Int32)), .val (.ref w_LETTER), .val (.int (1 : Int32)), .val (.int (0 : Int32)), .val (.int (1 : Int32)), .unset] [(.int (3 : Int32)), (.int (1 : Int32))])) _
          refine Go.st (fun _ k_ => XS.icmpYes X10.here hx rfl (pc0 := 70) (pc' := 78) rfl (hb hby at_70) rfl (tlt (by decide : (1 : Int32) < (3 : Int32))).1 (by decide) (by decide) k_) ?_
          show Go p e below (T10.setTop (mkF m 78 #[.val (.int p1), .val (.int p2), .val (.int (1 : Int32)), .val (.ref w_LETTER), .val (.int (1 : Int32)), .val (.int (0 : Int32)), .val (.int (1 : Int32)), .unset] [])) _
          refine Go.st (fun _ k_ => XS.iconst X10.here hx rfl (hb hby at_78) k_) ?_
          show Go p e below (T10.setTop (mkF m 79 #[.val (.int p1), .val (.int p2), .val (.int (1 : Int32)), .val (.ref w_LETTER), .val (.int (1 : Int32)), .val (.int (0 : Int32)), .val (.int (1 : Int32)), .unset] [(.int (1 : Int32))])) _
          refine Go.st (fun _ k_ => XS.goto X10.here hx rfl (pc0 := 79) (pc' := 83) rfl (hb hby at_79) (by decide) (by decide) k_) ?_
          show Go p e below (T10.setTop (mkF m 83 #[.val (.int p1), .val (.int p2), .val (.int (1 : Int32)), .val (.ref w_LETTER), .val (.int (1 : Int32)), .val (.int (0 : Int32)), .val (.int (1 : Int32)), .unset] [(.int (1 : Int32))])) _
          refine Go.st (fun _ k_ => XS.istore X10.here hx rfl (hb hby at_83) rfl (l' := #[.val (.int p1), .val (.int p2), .val (.int (1 : Int32)), .val (.ref w_LETTER), .val (.int (1 : Int32)), .val (.int (0 : Int32)), .val (.int (1 : Int32)), .val (.int (1 : Int32))]) rfl k_) ?_
          show Go p e below (T10.setTop (mkF m 85 #[.val (.int p1), .val (.int p2), .val (.int (1 : Int32)), .val (.ref w_LETTER), .val (.int (1 : Int32)), .val (.int (0 : Int32)), .val (.int (1 : Int32)), .val (.int (1 : Int32))] [])) _
          refine Go.st (fun _ k_ => XS.aloadN X10.here hx rfl (hb hby at_85) rfl rfl k_) ?_
          show Go p e below (T10.setTop (mkF m 86 #[.val (.int p1), .val (.int p2), .val (.int (1 : Int32)), .val (.ref w_LETTER), .val (.int (1 : Int32)), .val (.int (0 : Int32)), .val (.int (1 : Int32)), .val (.int (1 : Int32))] [(.ref w_LETTER)])) _
          refine Go.st (fun _ k_ => XS.iload X10.here hx rfl (hb hby at_86) rfl k_) ?_
          show Go p e below (T10.setTop (mkF m 88 #[.val (.int p1), .val (.int p2), .val (.int (1 : Int32)), .val (.ref w_LETTER), .val (.int (1 : Int32)), .val (.int (0 : Int32)), .val (.int (1 : Int32)), .val (.int (1 : Int32))] [(.int (1 : Int32)), (.ref w_LETTER)])) _
          refine Go.st (fun _ k_ => XS.iload X10.here hx rfl (hb hby at_88) rfl k_) ?_
          show Go p e below (T10.setTop (mkF m 90 #[.val (.int p1), .val (.int p2), .val (.int (1 : Int32)), .val (.ref w_LETTER), .val (.int (1 : Int32)), .val (.int (0 : Int32)), .val (.int (1 : Int32)), .val (.int (1 : Int32))] [(.int (0 : Int32)), (.int (1 : Int32)), (.ref w_LETTER)])) _
          refine Go.st (fun _ k_ => XS.iload X10.here hx rfl (hb hby at_90) rfl k_) ?_
          show Go p e below (T10.setTop (mkF m 92 #[.val (.int p1), .val (.int p2), .val (.int (1 : Int32)), .val (.ref w_LETTER), .val (.int (1 : Int32)), .val (.int (0 : Int32)), .val (.int (1 : Int32)), .val (.int (1 : Int32))] [(.int (1 : Int32)), (.int (0 : Int32)), (.int (1 : Int32)), (.ref w_LETTER)])) _
          obtain ⟨cq16, kq16, q16a, q16b, q16c⟩ := isOf hZ e10 E_w_LETTER
          obtain ⟨_, _, ⟨T16, L16, k16_, n16_⟩, -, X16, ⟨Lc16, hQ16, l16_, y16_, z16_⟩, st16⟩ := X10.virtualBack hx (y := (⟨"com/example/patuxent/patuxent/PasswordComplexity", "isMetBy", "(ZZZ)Z"⟩ : MethodName)) (z := (⟨"com/example/patuxent/patuxent/PasswordComplexity", "isMetBy", "(ZZZ)Z"⟩ : MethodName)) hown (mvT hZ (hw _ (List.mem_of_getElem? (i := 7) rfl))) (mvT hZ (hw _ (List.mem_of_getElem? (i := 8) rfl))) (notFace_of_selects (args := #[]) (mvT hZ (hw _ (List.mem_of_getElem? (i := 10) rfl)))) (mvT hZ (hw _ (List.mem_of_getElem? (i := 10) rfl))) (mvT hZ (hw _ (List.mem_of_getElem? (i := 9) rfl))) (by decide) (backOf (W := 0) (rm2_1 l Z a0 hw [] w_LETTER (1 : Int32) (0 : Int32) (1 : Int32) h0 n0 Z0 E_w_LETTER F_LETTER) hZ (hw _ (List.mem_of_getElem? (i := 11) rfl)) (hw _ (List.mem_of_getElem? (i := 5) rfl)) (by decide) (by decide)) q16a q16c (g := (mkF m 92 #[.val (.int p1), .val (.int p2), .val (.int (1 : Int32)), .val (.ref w_LETTER), .val (.int (1 : Int32)), .val (.int (0 : Int32)), .val (.int (1 : Int32)), .val (.int (1 : Int32))] [(.int (1 : Int32)), (.int (0 : Int32)), (.int (1 : Int32)), (.ref w_LETTER)])) rfl (by rw [hml]; rfl) (Steps.refl _) (argsL := [(.int (1 : Int32)), (.int (0 : Int32)), (.int (1 : Int32))]) (rest := []) (lenOf pd_2 rfl) rfl (by show 2 * 0 + _ ≤ _; exact Nat.le_of_eq rfl) (hb hby at_92) (fun _ _ => ⟨rfl, e10, (by decide : 0 + 0 ≤ _), (by decide : 0 + 0 ≤ _)⟩)
          dsimp only [Pt.U, Pt.locs, Pt.cells, Pt.slots] at X16 l16_ y16_ z16_ st16 hQ16
          subst l16_ y16_ z16_
          obtain ⟨rfl, N16q, e16⟩ := hQ16
          have N16 := Fr.app N10 N16q
          refine Go.tr st16 ?_
          show Go p e below (T16.setTop (mkF m 95 #[.val (.int p1), .val (.int p2), .val (.int (1 : Int32)), .val (.ref w_LETTER), .val (.int (1 : Int32)), .val (.int (0 : Int32)), .val (.int (1 : Int32)), .val (.int (1 : Int32))] [(.int (nar .boolean (1 : Int32)))])) _
          refine Go.st (fun _ k_ => XS.iload X16.here hx rfl (hb hby at_95) rfl k_) ?_
          show Go p e below (T16.setTop (mkF m 97 #[.val (.int p1), .val (.int p2), .val (.int (1 : Int32)), .val (.ref w_LETTER), .val (.int (1 : Int32)), .val (.int (0 : Int32)), .val (.int (1 : Int32)), .val (.int (1 : Int32))] [(.int (1 : Int32)), (.int (nar .boolean (1 : Int32)))])) _
          have hc97 : (nar .boolean (1 : Int32)) = (1 : Int32) := by decide
          refine Go.st (fun _ k_ => XS.icmpNo X16.here hx rfl (hb hby at_97) rfl (teq hc97).2 k_) ?_
          show Go p e below (T16.setTop (mkF m 100 #[.val (.int p1), .val (.int p2), .val (.int (1 : Int32)), .val (.ref w_LETTER), .val (.int (1 : Int32)), .val (.int (0 : Int32)), .val (.int (1 : Int32)), .val (.int (1 : Int32))] [])) _
          refine Go.st (fun _ k_ => XS.iconst X16.here hx rfl (hb hby at_100) k_) ?_
          show Go p e below (T16.setTop (mkF m 101 #[.val (.int p1), .val (.int p2), .val (.int (1 : Int32)), .val (.ref w_LETTER), .val (.int (1 : Int32)), .val (.int (0 : Int32)), .val (.int (1 : Int32)), .val (.int (1 : Int32))] [(.int (1 : Int32))])) _
          refine Go.st (fun _ k_ => XS.goto X16.here hx rfl (pc0 := 101) (pc' := 105) rfl (hb hby at_101) (by decide) (by decide) k_) ?_
          show Go p e below (T16.setTop (mkF m 105 #[.val (.int p1), .val (.int p2), .val (.int (1 : Int32)), .val (.ref w_LETTER), .val (.int (1 : Int32)), .val (.int (0 : Int32)), .val (.int (1 : Int32)), .val (.int (1 : Int32))] [(.int (1 : Int32))])) _
          refine Go.fin X16 (v := some (.int (1 : Int32))) (fun h_ => by rw [Bd.returns] at h_; cases h_) Bd.notSynchronized (fun _ hr => retN X16 hx (t := .boolean) Bd.returns (by simp) (hb hby at_105) hr) (fun U' hU hF => ⟨_, _, rfl, ?_, hF.1, hF.2.1, hF.2.2.mono (by decide) (by decide)⟩)
          exact ⟨(congrArg (fun z_ : Int32 => some (Value.int z_)) (show (1 : Int32) = (1 : Int32) from rfl)), N16⟩
      · refine Go.st (fun _ k_ => XS.ifNo X10.here hx rfl (hb hby at_25) rfl ((if0 _ _).trans (feq hc25).1) k_) ?_
        show Go p e below (T10.setTop (mkF m 28 #[.val (.int p1), .val (.int p2), .val (.int (1 : Int32)), .val (.ref w_LETTER), .val (.int (1 : Int32)), .unset, .unset, .unset] [])) _
        refine Go.st (fun _ k_ => XS.iconst X10.here hx rfl (hb hby at_28) k_) ?_
        show Go p e below (T10.setTop (mkF m 29 #[.val (.int p1), .val (.int p2), .val (.int (1 : Int32)), .val (.ref w_LETTER), .val (.int (1 : Int32)), .unset, .unset, .unset] [(.int (1 : Int32))])) _
        refine Go.st (fun _ k_ => XS.goto X10.here hx rfl (pc0 := 29) (pc' := 33) rfl (hb hby at_29) (by decide) (by decide) k_) ?_
        show Go p e below (T10.setTop (mkF m 33 #[.val (.int p1), .val (.int p2), .val (.int (1 : Int32)), .val (.ref w_LETTER), .val (.int (1 : Int32)), .unset, .unset, .unset] [(.int (1 : Int32))])) _
        refine Go.st (fun _ k_ => XS.istore X10.here hx rfl (hb hby at_33) rfl (l' := #[.val (.int p1), .val (.int p2), .val (.int (1 : Int32)), .val (.ref w_LETTER), .val (.int (1 : Int32)), .val (.int (1 : Int32)), .unset, .unset]) rfl k_) ?_
        show Go p e below (T10.setTop (mkF m 35 #[.val (.int p1), .val (.int p2), .val (.int (1 : Int32)), .val (.ref w_LETTER), .val (.int (1 : Int32)), .val (.int (1 : Int32)), .unset, .unset] [])) _
        refine Go.st (fun _ k_ => XS.iloadN X10.here hx rfl (hb hby at_35) rfl k_) ?_
        show Go p e below (T10.setTop (mkF m 36 #[.val (.int p1), .val (.int p2), .val (.int (1 : Int32)), .val (.ref w_LETTER), .val (.int (1 : Int32)), .val (.int (1 : Int32)), .unset, .unset] [(.int p2)])) _
        refine Go.st (fun _ k_ => XS.iconst X10.here hx rfl (hb hby at_36) k_) ?_
        show Go p e below (T10.setTop (mkF m 37 #[.val (.int p1), .val (.int p2), .val (.int (1 : Int32)), .val (.ref w_LETTER), .val (.int (1 : Int32)), .val (.int (1 : Int32)), .unset, .unset] [(.int (4 : Int32)), (.int p2)])) _
        refine Go.st (fun _ k_ => XS.iand X10.here hx rfl (hb hby at_37) rfl k_) ?_
        show Go p e below (T10.setTop (mkF m 38 #[.val (.int p1), .val (.int p2), .val (.int (1 : Int32)), .val (.ref w_LETTER), .val (.int (1 : Int32)), .val (.int (1 : Int32)), .unset, .unset] [(.int (p2 &&& (4 : Int32)))])) _
        by_cases hc38 : (p2 &&& (4 : Int32)) = (0 : Int32)
        · refine Go.st (fun _ k_ => XS.ifYes X10.here hx rfl (pc0 := 38) (pc' := 45) rfl (hb hby at_38) rfl ((if0 _ _).trans (teq hc38).1) (by decide) (by decide) k_) ?_
          show Go p e below (T10.setTop (mkF m 45 #[.val (.int p1), .val (.int p2), .val (.int (1 : Int32)), .val (.ref w_LETTER), .val (.int (1 : Int32)), .val (.int (1 : Int32)), .unset, .unset] [])) _
          refine Go.st (fun _ k_ => XS.iconst X10.here hx rfl (hb hby at_45) k_) ?_
          show Go p e below (T10.setTop (mkF m 46 #[.val (.int p1), .val (.int p2), .val (.int (1 : Int32)), .val (.ref w_LETTER), .val (.int (1 : Int32)), .val (.int (1 : Int32)), .unset, .unset] [(.int (0 : Int32))])) _
          refine Go.st (fun _ k_ => XS.istore X10.here hx rfl (hb hby at_46) rfl (l' := #[.val (.int p1), .val (.int p2), .val (.int (1 : Int32)), .val (.ref w_LETTER), .val (.int (1 : Int32)), .val (.int (1 : Int32)), .val (.int (0 : Int32)), .unset]) rfl k_) ?_
          show Go p e below (T10.setTop (mkF m 48 #[.val (.int p1), .val (.int p2), .val (.int (1 : Int32)), .val (.ref w_LETTER), .val (.int (1 : Int32)), .val (.int (1 : Int32)), .val (.int (0 : Int32)), .unset] [])) _
          refine Go.st (fun _ k_ => XS.iloadN X10.here hx rfl (hb hby at_48) rfl k_) ?_
          show Go p e below (T10.setTop (mkF m 49 #[.val (.int p1), .val (.int p2), .val (.int (1 : Int32)), .val (.ref w_LETTER), .val (.int (1 : Int32)), .val (.int (1 : Int32)), .val (.int (0 : Int32)), .unset] [(.int (1 : Int32))])) _
          refine Go.st (fun _ k_ => XS.iconst X10.here hx rfl (hb hby at_49) k_) ?_
          show Go p e below (T10.setTop (mkF m 50 #[.val (.int p1), .val (.int p2), .val (.int (1 : Int32)), .val (.ref w_LETTER), .val (.int (1 : Int32)), .val (.int (1 : Int32)), .val (.int (0 : Int32)), .unset] [(.int (1 : Int32)), (.int (1 : Int32))])) _
          refine Go.st (fun _ k_ => XS.icmpNo X10.here hx rfl (hb hby at_50) rfl (flt (by decide : ¬ ((1 : Int32) < (1 : Int32)))).1 k_) ?_
          show Go p e below (T10.setTop (mkF m 53 #[.val (.int p1), .val (.int p2), .val (.int (1 : Int32)), .val (.ref w_LETTER), .val (.int (1 : Int32)), .val (.int (1 : Int32)), .val (.int (0 : Int32)), .unset] [])) _
          refine Go.st (fun _ k_ => XS.iload X10.here hx rfl (hb hby at_53) rfl k_) ?_
          show Go p e below (T10.setTop (mkF m 55 #[.val (.int p1), .val (.int p2), .val (.int (1 : Int32)), .val (.ref w_LETTER), .val (.int (1 : Int32)), .val (.int (1 : Int32)), .val (.int (0 : Int32)), .unset] [(.int (1 : Int32))])) _
          refine Go.st (fun _ k_ => XS.ifNo X10.here hx rfl (hb hby at_55) rfl ((if0 _ _).trans (feq (by decide : ¬ ((1 : Int32) = (0 : Int32)))).1) k_) ?_
          show Go p e below (T10.setTop (mkF m 58 #[.val (.int p1), .val (.int p2), .val (.int (1 : Int32)), .val (.ref w_LETTER), .val (.int (1 : Int32)), .val (.int (1 : Int32)), .val (.int (0 : Int32)), .unset] [])) _
          refine Go.st (fun _ k_ => XS.iloadN X10.here hx rfl (hb hby at_58) rfl k_) ?_
          show Go p e below (T10.setTop (mkF m 59 #[.val (.int p1), .val (.int p2), .val (.int (1 : Int32)), .val (.ref w_LETTER), .val (.int (1 : Int32)), .val (.int (1 : Int32)), .val (.int (0 : Int32)), .unset] [(.int (1 : Int32))])) _
          refine Go.st (fun _ k_ => XS.iconst X10.here hx rfl (hb hby at_59) k_) ?_
          show Go p e below (T10.setTop (mkF m 60 #[.val (.int p1), .val (.int p2), .val (.int (1 : Int32)), .val (.ref w_LETTER), .val (.int (1 : Int32)), .val (.int (1 : Int32)), .val (.int (0 : Int32)), .unset] [(.int (2 : Int32)), (.int (1 : Int32))])) _
          refine Go.st (fun _ k_ => XS.icmpYes X10.here hx rfl (pc0 := 60) (pc' := 68) rfl (hb hby at_60) rfl (tlt (by decide : (1 : Int32) < (2 : Int32))).1 (by decide) (by decide) k_) ?_
          show Go p e below (T10.setTop (mkF m 68 #[.val (.int p1), .val (.int p2), .val (.int (1 : Int32)), .val (.ref w_LETTER), .val (.int (1 : Int32)), .val (.int (1 : Int32)), .val (.int (0 : Int32)), .unset] [])) _
          refine Go.st (fun _ k_ => XS.iloadN X10.here hx rfl (hb hby at_68) rfl k_) ?_
          show Go p e below (T10.setTop (mkF m 69 #[.val (.int p1), .val (.int p2), .val (.int (1 : Int32)), .val (.ref w_LETTER), .val (.int (1 : Int32)), .val (.int (1 : Int32)), .val (.int (0 : Int32)), .unset] [(.int (1 : Int32))])) _
          refine Go.st (fun _ k_ => XS.iconst X10.here hx rfl (hb hby at_69) k_) ?_
          show Go p e below (T10.setTop (mkF m 70 #[.val (.int p1), .val (.int p2), .val (.int (1 : Int32)), .val (.ref w_LETTER), .val (.int (1 : Int32)), .val (.int (1 : Int32)), .val (.int (0 : Int32)), .unset] [(.int (3 : Int32)), (.int (1 : Int32))])) _
          refine Go.st (fun _ k_ => XS.icmpYes X10.here hx rfl (pc0 := 70) (pc' := 78) rfl (hb hby at_70) rfl (tlt (by decide : (1 : Int32) < (3 : Int32))).1 (by decide) (by decide) k_) ?_
          show Go p e below (T10.setTop (mkF m 78 #[.val (.int p1), .val (.int p2), .val (.int (1 : Int32)), .val (.ref w_LETTER), .val (.int (1 : Int32)), .val (.int (1 : Int32)), .val (.int (0 : Int32)), .unset] [])) _
          refine Go.st (fun _ k_ => XS.iconst X10.here hx rfl (hb hby at_78) k_) ?_
          show Go p e below (T10.setTop (mkF m 79 #[.val (.int p1), .val (.int p2), .val (.int (1 : Int32)), .val (.ref w_LETTER), .val (.int (1 : Int32)), .val (.int (1 : Int32)), .val (.int (0 : Int32)), .unset] [(.int (1 : Int32))])) _
          refine Go.st (fun _ k_ => XS.goto X10.here hx rfl (pc0 := 79) (pc' := 83) rfl (hb hby at_79) (by decide) (by decide) k_) ?_
          show Go p e below (T10.setTop (mkF m 83 #[.val (.int p1), .val (.int p2), .val (.int (1 : Int32)), .val (.ref w_LETTER), .val (.int (1 : Int32)), .val (.int (1 : Int32)), .val (.int (0 : Int32)), .unset] [(.int (1 : Int32))])) _
          refine Go.st (fun _ k_ => XS.istore X10.here hx rfl (hb hby at_83) rfl (l' := #[.val (.int p1), .val (.int p2), .val (.int (1 : Int32)), .val (.ref w_LETTER), .val (.int (1 : Int32)), .val (.int (1 : Int32)), .val (.int (0 : Int32)), .val (.int (1 : Int32))]) rfl k_) ?_
          show Go p e below (T10.setTop (mkF m 85 #[.val (.int p1), .val (.int p2), .val (.int (1 : Int32)), .val (.ref w_LETTER), .val (.int (1 : Int32)), .val (.int (1 : Int32)), .val (.int (0 : Int32)), .val (.int (1 : Int32))] [])) _
          refine Go.st (fun _ k_ => XS.aloadN X10.here hx rfl (hb hby at_85) rfl rfl k_) ?_
          show Go p e below (T10.setTop (mkF m 86 #[.val (.int p1), .val (.int p2), .val (.int (1 : Int32)), .val (.ref w_LETTER), .val (.int (1 : Int32)), .val (.int (1 : Int32)), .val (.int (0 : Int32)), .val (.int (1 : Int32))] [(.ref w_LETTER)])) _
          refine Go.st (fun _ k_ => XS.iload X10.here hx rfl (hb hby at_86) rfl k_) ?_
          show Go p e below (T10.setTop (mkF m 88 #[.val (.int p1), .val (.int p2), .val (.int (1 : Int32)), .val (.ref w_LETTER), .val (.int (1 : Int32)), .val (.int (1 : Int32)), .val (.int (0 : Int32)), .val (.int (1 : Int32))] [(.int (1 : Int32)), (.ref w_LETTER)])) _
          refine Go.st (fun _ k_ => XS.iload X10.here hx rfl (hb hby at_88) rfl k_) ?_
          show Go p e below (T10.setTop (mkF m 90 #[.val (.int p1), .val (.int p2), .val (.int (1 : Int32)), .val (.ref w_LETTER), .val (.int (1 : Int32)), .val (.int (1 : Int32)), .val (.int (0 : Int32)), .val (.int (1 : Int32))] [(.int (1 : Int32)), (.int (1 : Int32)), (.ref w_LETTER)])) _
          refine Go.st (fun _ k_ => XS.iload X10.here hx rfl (hb hby at_90) rfl k_) ?_
          show Go p e below (T10.setTop (mkF m 92 #[.val (.int p1), .val (.int p2), .val (.int (1 : Int32)), .val (.ref w_LETTER), .val (.int (1 : Int32)), .val (.int (1 : Int32)), .val (.int (0 : Int32)), .val (.int (1 : Int32))] [(.int (0 : Int32)), (.int (1 : Int32)), (.int (1 : Int32)), (.ref w_LETTER)])) _
          obtain ⟨cq17, kq17, q17a, q17b, q17c⟩ := isOf hZ e10 E_w_LETTER
          obtain ⟨_, _, ⟨T17, L17, k17_, n17_⟩, -, X17, ⟨Lc17, hQ17, l17_, y17_, z17_⟩, st17⟩ := X10.virtualBack hx (y := (⟨"com/example/patuxent/patuxent/PasswordComplexity", "isMetBy", "(ZZZ)Z"⟩ : MethodName)) (z := (⟨"com/example/patuxent/patuxent/PasswordComplexity", "isMetBy", "(ZZZ)Z"⟩ : MethodName)) hown (mvT hZ (hw _ (List.mem_of_getElem? (i := 7) rfl))) (mvT hZ (hw _ (List.mem_of_getElem? (i := 8) rfl))) (notFace_of_selects (args := #[]) (mvT hZ (hw _ (List.mem_of_getElem? (i := 10) rfl)))) (mvT hZ (hw _ (List.mem_of_getElem? (i := 10) rfl))) (mvT hZ (hw _ (List.mem_of_getElem? (i := 9) rfl))) (by decide) (backOf (W := 0) (rm2_1 l Z a0 hw [] w_LETTER (1 : Int32) (1 : Int32) (0 : Int32) h0 n0 Z0 E_w_LETTER F_LETTER) hZ (hw _ (List.mem_of_getElem? (i := 11) rfl)) (hw _ (List.mem_of_getElem? (i := 5) rfl)) (by decide) (by decide)) q17a q17c (g := (mkF m 92 #[.val (.int p1), .val (.int p2), .val (.int (1 : Int32)), .val (.ref w_LETTER), .val (.int (1 : Int32)), .val (.int (1 : Int32)), .val (.int (0 : Int32)), .val (.int (1 : Int32))] [(.int (0 : Int32)), (.int (1 : Int32)), (.int (1 : Int32)), (.ref w_LETTER)])) rfl (by rw [hml]; rfl) (Steps.refl _) (argsL := [(.int (1 : Int32)), (.int (1 : Int32)), (.int (0 : Int32))]) (rest := []) (lenOf pd_2 rfl) rfl (by show 2 * 0 + _ ≤ _; exact Nat.le_of_eq rfl) (hb hby at_92) (fun _ _ => ⟨rfl, e10, (by decide : 0 + 0 ≤ _), (by decide : 0 + 0 ≤ _)⟩)
          dsimp only [Pt.U, Pt.locs, Pt.cells, Pt.slots] at X17 l17_ y17_ z17_ st17 hQ17
          subst l17_ y17_ z17_
          obtain ⟨rfl, N17q, e17⟩ := hQ17
          have N17 := Fr.app N10 N17q
          refine Go.tr st17 ?_
          show Go p e below (T17.setTop (mkF m 95 #[.val (.int p1), .val (.int p2), .val (.int (1 : Int32)), .val (.ref w_LETTER), .val (.int (1 : Int32)), .val (.int (1 : Int32)), .val (.int (0 : Int32)), .val (.int (1 : Int32))] [(.int (nar .boolean (1 : Int32)))])) _
          refine Go.st (fun _ k_ => XS.iload X17.here hx rfl (hb hby at_95) rfl k_) ?_
          show Go p e below (T17.setTop (mkF m 97 #[.val (.int p1), .val (.int p2), .val (.int (1 : Int32)), .val (.ref w_LETTER), .val (.int (1 : Int32)), .val (.int (1 : Int32)), .val (.int (0 : Int32)), .val (.int (1 : Int32))] [(.int (1 : Int32)), (.int (nar .boolean (1 : Int32)))])) _
          have hc97 : (nar .boolean (1 : Int32)) = (1 : Int32) := by decide
          refine Go.st (fun _ k_ => XS.icmpNo X17.here hx rfl (hb hby at_97) rfl (teq hc97).2 k_) ?_
          show Go p e below (T17.setTop (mkF m 100 #[.val (.int p1), .val (.int p2), .val (.int (1 : Int32)), .val (.ref w_LETTER), .val (.int (1 : Int32)), .val (.int (1 : Int32)), .val (.int (0 : Int32)), .val (.int (1 : Int32))] [])) _
          refine Go.st (fun _ k_ => XS.iconst X17.here hx rfl (hb hby at_100) k_) ?_
          show Go p e below (T17.setTop (mkF m 101 #[.val (.int p1), .val (.int p2), .val (.int (1 : Int32)), .val (.ref w_LETTER), .val (.int (1 : Int32)), .val (.int (1 : Int32)), .val (.int (0 : Int32)), .val (.int (1 : Int32))] [(.int (1 : Int32))])) _
          refine Go.st (fun _ k_ => XS.goto X17.here hx rfl (pc0 := 101) (pc' := 105) rfl (hb hby at_101) (by decide) (by decide) k_) ?_
          show Go p e below (T17.setTop (mkF m 105 #[.val (.int p1), .val (.int p2), .val (.int (1 : Int32)), .val (.ref w_LETTER), .val (.int (1 : Int32)), .val (.int (1 : Int32)), .val (.int (0 : Int32)), .val (.int (1 : Int32))] [(.int (1 : Int32))])) _
          refine Go.fin X17 (v := some (.int (1 : Int32))) (fun h_ => by rw [Bd.returns] at h_; cases h_) Bd.notSynchronized (fun _ hr => retN X17 hx (t := .boolean) Bd.returns (by simp) (hb hby at_105) hr) (fun U' hU hF => ⟨_, _, rfl, ?_, hF.1, hF.2.1, hF.2.2.mono (by decide) (by decide)⟩)
          exact ⟨(congrArg (fun z_ : Int32 => some (Value.int z_)) (show (1 : Int32) = (1 : Int32) from rfl)), N17⟩
        · refine Go.st (fun _ k_ => XS.ifNo X10.here hx rfl (hb hby at_38) rfl ((if0 _ _).trans (feq hc38).1) k_) ?_
          show Go p e below (T10.setTop (mkF m 41 #[.val (.int p1), .val (.int p2), .val (.int (1 : Int32)), .val (.ref w_LETTER), .val (.int (1 : Int32)), .val (.int (1 : Int32)), .unset, .unset] [])) _
          refine Go.st (fun _ k_ => XS.iconst X10.here hx rfl (hb hby at_41) k_) ?_
          show Go p e below (T10.setTop (mkF m 42 #[.val (.int p1), .val (.int p2), .val (.int (1 : Int32)), .val (.ref w_LETTER), .val (.int (1 : Int32)), .val (.int (1 : Int32)), .unset, .unset] [(.int (1 : Int32))])) _
          refine Go.st (fun _ k_ => XS.goto X10.here hx rfl (pc0 := 42) (pc' := 46) rfl (hb hby at_42) (by decide) (by decide) k_) ?_
          show Go p e below (T10.setTop (mkF m 46 #[.val (.int p1), .val (.int p2), .val (.int (1 : Int32)), .val (.ref w_LETTER), .val (.int (1 : Int32)), .val (.int (1 : Int32)), .unset, .unset] [(.int (1 : Int32))])) _
          refine Go.st (fun _ k_ => XS.istore X10.here hx rfl (hb hby at_46) rfl (l' := #[.val (.int p1), .val (.int p2), .val (.int (1 : Int32)), .val (.ref w_LETTER), .val (.int (1 : Int32)), .val (.int (1 : Int32)), .val (.int (1 : Int32)), .unset]) rfl k_) ?_
          show Go p e below (T10.setTop (mkF m 48 #[.val (.int p1), .val (.int p2), .val (.int (1 : Int32)), .val (.ref w_LETTER), .val (.int (1 : Int32)), .val (.int (1 : Int32)), .val (.int (1 : Int32)), .unset] [])) _
          refine Go.st (fun _ k_ => XS.iloadN X10.here hx rfl (hb hby at_48) rfl k_) ?_
          show Go p e below (T10.setTop (mkF m 49 #[.val (.int p1), .val (.int p2), .val (.int (1 : Int32)), .val (.ref w_LETTER), .val (.int (1 : Int32)), .val (.int (1 : Int32)), .val (.int (1 : Int32)), .unset] [(.int (1 : Int32))])) _
          refine Go.st (fun _ k_ => XS.iconst X10.here hx rfl (hb hby at_49) k_) ?_
          show Go p e below (T10.setTop (mkF m 50 #[.val (.int p1), .val (.int p2), .val (.int (1 : Int32)), .val (.ref w_LETTER), .val (.int (1 : Int32)), .val (.int (1 : Int32)), .val (.int (1 : Int32)), .unset] [(.int (1 : Int32)), (.int (1 : Int32))])) _
          refine Go.st (fun _ k_ => XS.icmpNo X10.here hx rfl (hb hby at_50) rfl (flt (by decide : ¬ ((1 : Int32) < (1 : Int32)))).1 k_) ?_
          show Go p e below (T10.setTop (mkF m 53 #[.val (.int p1), .val (.int p2), .val (.int (1 : Int32)), .val (.ref w_LETTER), .val (.int (1 : Int32)), .val (.int (1 : Int32)), .val (.int (1 : Int32)), .unset] [])) _
          refine Go.st (fun _ k_ => XS.iload X10.here hx rfl (hb hby at_53) rfl k_) ?_
          show Go p e below (T10.setTop (mkF m 55 #[.val (.int p1), .val (.int p2), .val (.int (1 : Int32)), .val (.ref w_LETTER), .val (.int (1 : Int32)), .val (.int (1 : Int32)), .val (.int (1 : Int32)), .unset] [(.int (1 : Int32))])) _
          refine Go.st (fun _ k_ => XS.ifNo X10.here hx rfl (hb hby at_55) rfl ((if0 _ _).trans (feq (by decide : ¬ ((1 : Int32) = (0 : Int32)))).1) k_) ?_
          show Go p e below (T10.setTop (mkF m 58 #[.val (.int p1), .val (.int p2), .val (.int (1 : Int32)), .val (.ref w_LETTER), .val (.int (1 : Int32)), .val (.int (1 : Int32)), .val (.int (1 : Int32)), .unset] [])) _
          refine Go.st (fun _ k_ => XS.iloadN X10.here hx rfl (hb hby at_58) rfl k_) ?_
          show Go p e below (T10.setTop (mkF m 59 #[.val (.int p1), .val (.int p2), .val (.int (1 : Int32)), .val (.ref w_LETTER), .val (.int (1 : Int32)), .val (.int (1 : Int32)), .val (.int (1 : Int32)), .unset] [(.int (1 : Int32))])) _
          refine Go.st (fun _ k_ => XS.iconst X10.here hx rfl (hb hby at_59) k_) ?_
          show Go p e below (T10.setTop (mkF m 60 #[.val (.int p1), .val (.int p2), .val (.int (1 : Int32)), .val (.ref w_LETTER), .val (.int (1 : Int32)), .val (.int (1 : Int32)), .val (.int (1 : Int32)), .unset] [(.int (2 : Int32)), (.int (1 : Int32))])) _
          refine Go.st (fun _ k_ => XS.icmpYes X10.here hx rfl (pc0 := 60) (pc' := 68) rfl (hb hby at_60) rfl (tlt (by decide : (1 : Int32) < (2 : Int32))).1 (by decide) (by decide) k_) ?_
          show Go p e below (T10.setTop (mkF m 68 #[.val (.int p1), .val (.int p2), .val (.int (1 : Int32)), .val (.ref w_LETTER), .val (.int (1 : Int32)), .val (.int (1 : Int32)), .val (.int (1 : Int32)), .unset] [])) _
          refine Go.st (fun _ k_ => XS.iloadN X10.here hx rfl (hb hby at_68) rfl k_) ?_
          show Go p e below (T10.setTop (mkF m 69 #[.val (.int p1), .val (.int p2), .val (.int (1 : Int32)), .val (.ref w_LETTER), .val (.int (1 : Int32)), .val (.int (1 : Int32)), .val (.int (1 : Int32)), .unset] [(.int (1 : Int32))])) _
          refine Go.st (fun _ k_ => XS.iconst X10.here hx rfl (hb hby at_69) k_) ?_
          show Go p e below (T10.setTop (mkF m 70 #[.val (.int p1), .val (.int p2), .val (.int (1 : Int32)), .val (.ref w_LETTER), .val (.int (1 : Int32)), .val (.int (1 : Int32)), .val (.int (1 : Int32)), .unset] [(.int (3 : Int32)), (.int (1 : Int32))])) _
          refine Go.st (fun _ k_ => XS.icmpYes X10.here hx rfl (pc0 := 70) (pc' := 78) rfl (hb hby at_70) rfl (tlt (by decide : (1 : Int32) < (3 : Int32))).1 (by decide) (by decide) k_) ?_
          show Go p e below (T10.setTop (mkF m 78 #[.val (.int p1), .val (.int p2), .val (.int (1 : Int32)), .val (.ref w_LETTER), .val (.int (1 : Int32)), .val (.int (1 : Int32)), .val (.int (1 : Int32)), .unset] [])) _
          refine Go.st (fun _ k_ => XS.iconst X10.here hx rfl (hb hby at_78) k_) ?_
          show Go p e below (T10.setTop (mkF m 79 #[.val (.int p1), .val (.int p2), .val (.int (1 : Int32)), .val (.ref w_LETTER), .val (.int (1 : Int32)), .val (.int (1 : Int32)), .val (.int (1 : Int32)), .unset] [(.int (1 : Int32))])) _
          refine Go.st (fun _ k_ => XS.goto X10.here hx rfl (pc0 := 79) (pc' := 83) rfl (hb hby at_79) (by decide) (by decide) k_) ?_
          show Go p e below (T10.setTop (mkF m 83 #[.val (.int p1), .val (.int p2), .val (.int (1 : Int32)), .val (.ref w_LETTER), .val (.int (1 : Int32)), .val (.int (1 : Int32)), .val (.int (1 : Int32)), .unset] [(.int (1 : Int32))])) _
          refine Go.st (fun _ k_ => XS.istore X10.here hx rfl (hb hby at_83) rfl (l' := #[.val (.int p1), .val (.int p2), .val (.int (1 : Int32)), .val (.ref w_LETTER), .val (.int (1 : Int32)), .val (.int (1 : Int32)), .val (.int (1 : Int32)), .val (.int (1 : Int32))]) rfl k_) ?_
          show Go p e below (T10.setTop (mkF m 85 #[.val (.int p1), .val (.int p2), .val (.int (1 : Int32)), .val (.ref w_LETTER), .val (.int (1 : Int32)), .val (.int (1 : Int32)), .val (.int (1 : Int32)), .val (.int (1 : Int32))] [])) _
          refine Go.st (fun _ k_ => XS.aloadN X10.here hx rfl (hb hby at_85) rfl rfl k_) ?_
          show Go p e below (T10.setTop (mkF m 86 #[.val (.int p1), .val (.int p2), .val (.int (1 : Int32)), .val (.ref w_LETTER), .val (.int (1 : Int32)), .val (.int (1 : Int32)), .val (.int (1 : Int32)), .val (.int (1 : Int32))] [(.ref w_LETTER)])) _
          refine Go.st (fun _ k_ => XS.iload X10.here hx rfl (hb hby at_86) rfl k_) ?_
          show Go p e below (T10.setTop (mkF m 88 #[.val (.int p1), .val (.int p2), .val (.int (1 : Int32)), .val (.ref w_LETTER), .val (.int (1 : Int32)), .val (.int (1 : Int32)), .val (.int (1 : Int32)), .val (.int (1 : Int32))] [(.int (1 : Int32)), (.ref w_LETTER)])) _
          refine Go.st (fun _ k_ => XS.iload X10.here hx rfl (hb hby at_88) rfl k_) ?_
          show Go p e below (T10.setTop (mkF m 90 #[.val (.int p1), .val (.int p2), .val (.int (1 : Int32)), .val (.ref w_LETTER), .val (.int (1 : Int32)), .val (.int (1 : Int32)), .val (.int (1 : Int32)), .val (.int (1 : Int32))] [(.int (1 : Int32)), (.int (1 : Int32)), (.ref w_LETTER)])) _
          refine Go.st (fun _ k_ => XS.iload X10.here hx rfl (hb hby at_90) rfl k_) ?_
          show Go p e below (T10.setTop (mkF m 92 #[.val (.int p1), .val (.int p2), .val (.int (1 : Int32)), .val (.ref w_LETTER), .val (.int (1 : Int32)), .val (.int (1 : Int32)), .val (.int (1 : Int32)), .val (.int (1 : Int32))] [(.int (1 : Int32)), (.int (1 : Int32)), (.int (1 : Int32)), (.ref w_LETTER)])) _
          obtain ⟨cq18, kq18, q18a, q18b, q18c⟩ := isOf hZ e10 E_w_LETTER
          obtain ⟨_, _, ⟨T18, L18, k18_, n18_⟩, -, X18, ⟨Lc18, hQ18, l18_, y18_, z18_⟩, st18⟩ := X10.virtualBack hx (y := (⟨"com/example/patuxent/patuxent/PasswordComplexity", "isMetBy", "(ZZZ)Z"⟩ : MethodName)) (z := (⟨"com/example/patuxent/patuxent/PasswordComplexity", "isMetBy", "(ZZZ)Z"⟩ : MethodName)) hown (mvT hZ (hw _ (List.mem_of_getElem? (i := 7) rfl))) (mvT hZ (hw _ (List.mem_of_getElem? (i := 8) rfl))) (notFace_of_selects (args := #[]) (mvT hZ (hw _ (List.mem_of_getElem? (i := 10) rfl)))) (mvT hZ (hw _ (List.mem_of_getElem? (i := 10) rfl))) (mvT hZ (hw _ (List.mem_of_getElem? (i := 9) rfl))) (by decide) (backOf (W := 0) (rm2_1 l Z a0 hw [] w_LETTER (1 : Int32) (1 : Int32) (1 : Int32) h0 n0 Z0 E_w_LETTER F_LETTER) hZ (hw _ (List.mem_of_getElem? (i := 11) rfl)) (hw _ (List.mem_of_getElem? (i := 5) rfl)) (by decide) (by decide)) q18a q18c (g := (mkF m 92 #[.val (.int p1), .val (.int p2), .val (.int (1 : Int32)), .val (.ref w_LETTER), .val (.int (1 : Int32)), .val (.int (1 : Int32)), .val (.int (1 : Int32)), .val (.int (1 : Int32))] [(.int (1 : Int32)), (.int (1 : Int32)), (.int (1 : Int32)), (.ref w_LETTER)])) rfl (by rw [hml]; rfl) (Steps.refl _) (argsL := [(.int (1 : Int32)), (.int (1 : Int32)), (.int (1 : Int32))]) (rest := []) (lenOf pd_2 rfl) rfl (by show 2 * 0 + _ ≤ _; exact Nat.le_of_eq rfl) (hb hby at_92) (fun _ _ => ⟨rfl, e10, (by decide : 0 + 0 ≤ _), (by decide : 0 + 0 ≤ _)⟩)
          dsimp only [Pt.U, Pt.locs, Pt.cells, Pt.slots] at X18 l18_ y18_ z18_ st18 hQ18
          subst l18_ y18_ z18_
          obtain ⟨rfl, N18q, e18⟩ := hQ18
          have N18 := Fr.app N10 N18q
          refine Go.tr st18 ?_
          show Go p e below (T18.setTop (mkF m 95 #[.val (.int p1), .val (.int p2), .val (.int (1 : Int32)), .val (.ref w_LETTER), .val (.int (1 : Int32)), .val (.int (1 : Int32)), .val (.int (1 : Int32)), .val (.int (1 : Int32))] [(.int (nar .boolean (1 : Int32)))])) _
          refine Go.st (fun _ k_ => XS.iload X18.here hx rfl (hb hby at_95) rfl k_) ?_
          show Go p e below (T18.setTop (mkF m 97 #[.val (.int p1), .val (.int p2), .val (.int (1 : Int32)), .val (.ref w_LETTER), .val (.int (1 : Int32)), .val (.int (1 : Int32)), .val (.int (1 : Int32)), .val (.int (1 : Int32))] [(.int (1 : Int32)), (.int (nar .boolean (1 : Int32)))])) _
          have hc97 : (nar .boolean (1 : Int32)) = (1 : Int32) := by decide
          refine Go.st (fun _ k_ => XS.icmpNo X18.here hx rfl (hb hby at_97) rfl (teq hc97).2 k_) ?_
          show Go p e below (T18.setTop (mkF m 100 #[.val (.int p1), .val (.int p2), .val (.int (1 : Int32)), .val (.ref w_LETTER), .val (.int (1 : Int32)), .val (.int (1 : Int32)), .val (.int (1 : Int32)), .val (.int (1 : Int32))] [])) _
          refine Go.st (fun _ k_ => XS.iconst X18.here hx rfl (hb hby at_100) k_) ?_
          show Go p e below (T18.setTop (mkF m 101 #[.val (.int p1), .val (.int p2), .val (.int (1 : Int32)), .val (.ref w_LETTER), .val (.int (1 : Int32)), .val (.int (1 : Int32)), .val (.int (1 : Int32)), .val (.int (1 : Int32))] [(.int (1 : Int32))])) _
          refine Go.st (fun _ k_ => XS.goto X18.here hx rfl (pc0 := 101) (pc' := 105) rfl (hb hby at_101) (by decide) (by decide) k_) ?_
          show Go p e below (T18.setTop (mkF m 105 #[.val (.int p1), .val (.int p2), .val (.int (1 : Int32)), .val (.ref w_LETTER), .val (.int (1 : Int32)), .val (.int (1 : Int32)), .val (.int (1 : Int32)), .val (.int (1 : Int32))] [(.int (1 : Int32))])) _
          refine Go.fin X18 (v := some (.int (1 : Int32))) (fun h_ => by rw [Bd.returns] at h_; cases h_) Bd.notSynchronized (fun _ hr => retN X18 hx (t := .boolean) Bd.returns (by simp) (hb hby at_105) hr) (fun U' hU hF => ⟨_, _, rfl, ?_, hF.1, hF.2.1, hF.2.2.mono (by decide) (by decide)⟩)
          exact ⟨(congrArg (fun z_ : Int32 => some (Value.int z_)) (show (1 : Int32) = (1 : Int32) from rfl)), N18⟩
  · rw [hk]
    show Go p e below (s₁.setTop (mkF m 4 #[.val (.int p1), .val (.int p2), .val (.int (2 : Int32)), .unset, .unset, .unset, .unset, .unset] [])) _
    refine Go.st (fun _ k_ => XS.iloadN X0.here hx rfl (hb hby at_4) rfl k_) ?_
    show Go p e below (s₁.setTop (mkF m 5 #[.val (.int p1), .val (.int p2), .val (.int (2 : Int32)), .unset, .unset, .unset, .unset, .unset] [(.int (2 : Int32))])) _
    obtain ⟨_, _, ⟨T19, L19, k19_, n19_⟩, -, X19, ⟨Lc19, hQ19, l19_, y19_, z19_⟩, st19⟩ := Jvm.LawKit.callS X0 hx (y := (⟨"com/example/patuxent/patuxent/PasswordComplexityIsMetByPinLaw", "levelOf", "(I)Lcom/example/patuxent/patuxent/PasswordComplexity;"⟩ : MethodName)) hown (mvT hZ (hw _ (List.mem_of_getElem? (i := 0) rfl))) (mvT hZ (hw _ (List.mem_of_getElem? (i := 1) rfl))) (mvT hZ (hw _ (List.mem_of_getElem? (i := 2) rfl))) (mvT hZ (hw _ (List.mem_of_getElem? (i := 3) rfl))) (by decide) (backOf (W := 0) (rm1_2 l Z a0 hw [] w_LETTER_DIGIT h0 n0 Z0 S_LETTER_DIGIT) hZ (hw _ (List.mem_of_getElem? (i := 3) rfl)) (hw _ (List.mem_of_getElem? (i := 2) rfl)) (by decide) (by decide)) (g := (mkF m 5 #[.val (.int p1), .val (.int p2), .val (.int (2 : Int32)), .unset, .unset, .unset, .unset, .unset] [(.int (2 : Int32))])) rfl (by rw [hml]; rfl) (argsL := [(.int (2 : Int32))]) (rest := []) (lenOf pd_1 rfl) rfl (by show 2 * 0 + _ ≤ _; exact Nat.le_of_eq rfl) (hb hby at_5) (fun _ _ => ⟨rfl, e0, (by decide : 0 + 0 ≤ _), (by decide : 0 + 0 ≤ _)⟩)
    dsimp only [Pt.U, Pt.locs, Pt.cells, Pt.slots] at X19 l19_ y19_ z19_ st19 hQ19
    subst l19_ y19_ z19_
    obtain ⟨rfl, N19q, e19⟩ := hQ19
    have N19 := Fr.app N0 N19q
    refine Go.st st19 ?_
    show Go p e below (T19.setTop (mkF m 8 #[.val (.int p1), .val (.int p2), .val (.int (2 : Int32)), .unset, .unset, .unset, .unset, .unset] [(.ref w_LETTER_DIGIT)])) _
    refine Go.st (fun _ k_ => XS.astoreN X19.here hx rfl (hb hby at_8) rfl rfl (l' := #[.val (.int p1), .val (.int p2), .val (.int (2 : Int32)), .val (.ref w_LETTER_DIGIT), .unset, .unset, .unset, .unset]) rfl k_) ?_
    show Go p e below (T19.setTop (mkF m 9 #[.val (.int p1), .val (.int p2), .val (.int (2 : Int32)), .val (.ref w_LETTER_DIGIT), .unset, .unset, .unset, .unset] [])) _
    refine Go.st (fun _ k_ => XS.iloadN X19.here hx rfl (hb hby at_9) rfl k_) ?_
    show Go p e below (T19.setTop (mkF m 10 #[.val (.int p1), .val (.int p2), .val (.int (2 : Int32)), .val (.ref w_LETTER_DIGIT), .unset, .unset, .unset, .unset] [(.int p2)])) _
    refine Go.st (fun _ k_ => XS.iconst X19.here hx rfl (hb hby at_10) k_) ?_
    show Go p e below (T19.setTop (mkF m 11 #[.val (.int p1), .val (.int p2), .val (.int (2 : Int32)), .val (.ref w_LETTER_DIGIT), .unset, .unset, .unset, .unset] [(.int (1 : Int32)), (.int p2)])) _
    refine Go.st (fun _ k_ => XS.iand X19.here hx rfl (hb hby at_11) rfl k_) ?_
    show Go p e below (T19.setTop (mkF m 12 #[.val (.int p1), .val (.int p2), .val (.int (2 : Int32)), .val (.ref w_LETTER_DIGIT), .unset, .unset, .unset, .unset] [(.int (p2 &&& (1 : Int32)))])) _
    by_cases hc12 : (p2 &&& (1 : Int32)) = (0 : Int32)
    · refine Go.st (fun _ k_ => XS.ifYes X19.here hx rfl (pc0 := 12) (pc' := 19) rfl (hb hby at_12) rfl ((if0 _ _).trans (teq hc12).1) (by decide) (by decide) k_) ?_
      show Go p e below (T19.setTop (mkF m 19 #[.val (.int p1), .val (.int p2), .val (.int (2 : Int32)), .val (.ref w_LETTER_DIGIT), .unset, .unset, .unset, .unset] [])) _
      refine Go.st (fun _ k_ => XS.iconst X19.here hx rfl (hb hby at_19) k_) ?_
      show Go p e below (T19.setTop (mkF m 20 #[.val (.int p1), .val (.int p2), .val (.int (2 : Int32)), .val (.ref w_LETTER_DIGIT), .unset, .unset, .unset, .unset] [(.int (0 : Int32))])) _
      refine Go.st (fun _ k_ => XS.istore X19.here hx rfl (hb hby at_20) rfl (l' := #[.val (.int p1), .val (.int p2), .val (.int (2 : Int32)), .val (.ref w_LETTER_DIGIT), .val (.int (0 : Int32)), .unset, .unset, .unset]) rfl k_) ?_
      show Go p e below (T19.setTop (mkF m 22 #[.val (.int p1), .val (.int p2), .val (.int (2 : Int32)), .val (.ref w_LETTER_DIGIT), .val (.int (0 : Int32)), .unset, .unset, .unset] [])) _
      refine Go.st (fun _ k_ => XS.iloadN X19.here hx rfl (hb hby at_22) rfl k_) ?_
      show Go p e below (T19.setTop (mkF m 23 #[.val (.int p1), .val (.int p2), .val (.int (2 : Int32)), .val (.ref w_LETTER_DIGIT), .val (.int (0 : Int32)), .unset, .unset, .unset] [(.int p2)])) _
      refine Go.st (fun _ k_ => XS.iconst X19.here hx rfl (hb hby at_23) k_) ?_
      show Go p e below (T19.setTop (mkF m 24 #[.val (.int p1), .val (.int p2), .val (.int (2 : Int32)), .val (.ref w_LETTER_DIGIT), .val (.int (0 : Int32)), .unset, .unset, .unset] [(.int (2 : Int32)), (.int p2)])) _
      refine Go.st (fun _ k_ => XS.iand X19.here hx rfl (hb hby at_24) rfl k_) ?_
      show Go p e below (T19.setTop (mkF m 25 #[.val (.int p1), .val (.int p2), .val (.int (2 : Int32)), .val (.ref w_LETTER_DIGIT), .val (.int (0 : Int32)), .unset, .unset, .unset] [(.int (p2 &&& (2 : Int32)))])) _
      by_cases hc25 : (p2 &&& (2 : Int32)) = (0 : Int32)
      · refine Go.st (fun _ k_ => XS.ifYes X19.here hx rfl (pc0 := 25) (pc' := 32) rfl (hb hby at_25) rfl ((if0 _ _).trans (teq hc25).1) (by decide) (by decide) k_) ?_
        show Go p e below (T19.setTop (mkF m 32 #[.val (.int p1), .val (.int p2), .val (.int (2 : Int32)), .val (.ref w_LETTER_DIGIT), .val (.int (0 : Int32)), .unset, .unset, .unset] [])) _
        refine Go.st (fun _ k_ => XS.iconst X19.here hx rfl (hb hby at_32) k_) ?_
        show Go p e below (T19.setTop (mkF m 33 #[.val (.int p1), .val (.int p2), .val (.int (2 : Int32)), .val (.ref w_LETTER_DIGIT), .val (.int (0 : Int32)), .unset, .unset, .unset] [(.int (0 : Int32))])) _
        refine Go.st (fun _ k_ => XS.istore X19.here hx rfl (hb hby at_33) rfl (l' := #[.val (.int p1), .val (.int p2), .val (.int (2 : Int32)), .val (.ref w_LETTER_DIGIT), .val (.int (0 : Int32)), .val (.int (0 : Int32)), .unset, .unset]) rfl k_) ?_
        show Go p e below (T19.setTop (mkF m 35 #[.val (.int p1), .val (.int p2), .val (.int (2 : Int32)), .val (.ref w_LETTER_DIGIT), .val (.int (0 : Int32)), .val (.int (0 : Int32)), .unset, .unset] [])) _
        refine Go.st (fun _ k_ => XS.iloadN X19.here hx rfl (hb hby at_35) rfl k_) ?_
        show Go p e below (T19.setTop (mkF m 36 #[.val (.int p1), .val (.int p2), .val (.int (2 : Int32)), .val (.ref w_LETTER_DIGIT), .val (.int (0 : Int32)), .val (.int (0 : Int32)), .unset, .unset] [(.int p2)])) _
        refine Go.st (fun _ k_ => XS.iconst X19.here hx rfl (hb hby at_36) k_) ?_
        show Go p e below (T19.setTop (mkF m 37 #[.val (.int p1), .val (.int p2), .val (.int (2 : Int32)), .val (.ref w_LETTER_DIGIT), .val (.int (0 : Int32)), .val (.int (0 : Int32)), .unset, .unset] [(.int (4 : Int32)), (.int p2)])) _
        refine Go.st (fun _ k_ => XS.iand X19.here hx rfl (hb hby at_37) rfl k_) ?_
        show Go p e below (T19.setTop (mkF m 38 #[.val (.int p1), .val (.int p2), .val (.int (2 : Int32)), .val (.ref w_LETTER_DIGIT), .val (.int (0 : Int32)), .val (.int (0 : Int32)), .unset, .unset] [(.int (p2 &&& (4 : Int32)))])) _
        by_cases hc38 : (p2 &&& (4 : Int32)) = (0 : Int32)
        · refine Go.st (fun _ k_ => XS.ifYes X19.here hx rfl (pc0 := 38) (pc' := 45) rfl (hb hby at_38) rfl ((if0 _ _).trans (teq hc38).1) (by decide) (by decide) k_) ?_
          show Go p e below (T19.setTop (mkF m 45 #[.val (.int p1), .val (.int p2), .val (.int (2 : Int32)), .val (.ref w_LETTER_DIGIT), .val (.int (0 : Int32)), .val (.int (0 : Int32)), .unset, .unset] [])) _
          refine Go.st (fun _ k_ => XS.iconst X19.here hx rfl (hb hby at_45) k_) ?_
          show Go p e below (T19.setTop (mkF m 46 #[.val (.int p1), .val (.int p2), .val (.int (2 : Int32)), .val (.ref w_LETTER_DIGIT), .val (.int (0 : Int32)), .val (.int (0 : Int32)), .unset, .unset] [(.int (0 : Int32))])) _
          refine Go.st (fun _ k_ => XS.istore X19.here hx rfl (hb hby at_46) rfl (l' := #[.val (.int p1), .val (.int p2), .val (.int (2 : Int32)), .val (.ref w_LETTER_DIGIT), .val (.int (0 : Int32)), .val (.int (0 : Int32)), .val (.int (0 : Int32)), .unset]) rfl k_) ?_
          show Go p e below (T19.setTop (mkF m 48 #[.val (.int p1), .val (.int p2), .val (.int (2 : Int32)), .val (.ref w_LETTER_DIGIT), .val (.int (0 : Int32)), .val (.int (0 : Int32)), .val (.int (0 : Int32)), .unset] [])) _
          refine Go.st (fun _ k_ => XS.iloadN X19.here hx rfl (hb hby at_48) rfl k_) ?_
          show Go p e below (T19.setTop (mkF m 49 #[.val (.int p1), .val (.int p2), .val (.int (2 : Int32)), .val (.ref w_LETTER_DIGIT), .val (.int (0 : Int32)), .val (.int (0 : Int32)), .val (.int (0 : Int32)), .unset] [(.int (2 : Int32))])) _
          refine Go.st (fun _ k_ => XS.iconst X19.here hx rfl (hb hby at_49) k_) ?_
          show Go p e below (T19.setTop (mkF m 50 #[.val (.int p1), .val (.int p2), .val (.int (2 : Int32)), .val (.ref w_LETTER_DIGIT), .val (.int (0 : Int32)), .val (.int (0 : Int32)), .val (.int (0 : Int32)), .unset] [(.int (1 : Int32)), (.int (2 : Int32))])) _
          refine Go.st (fun _ k_ => XS.icmpNo X19.here hx rfl (hb hby at_50) rfl (flt (by decide : ¬ ((2 : Int32) < (1 : Int32)))).1 k_) ?_
          show Go p e below (T19.setTop (mkF m 53 #[.val (.int p1), .val (.int p2), .val (.int (2 : Int32)), .val (.ref w_LETTER_DIGIT), .val (.int (0 : Int32)), .val (.int (0 : Int32)), .val (.int (0 : Int32)), .unset] [])) _
          refine Go.st (fun _ k_ => XS.iload X19.here hx rfl (hb hby at_53) rfl k_) ?_
          show Go p e below (T19.setTop (mkF m 55 #[.val (.int p1), .val (.int p2), .val (.int (2 : Int32)), .val (.ref w_LETTER_DIGIT), .val (.int (0 : Int32)), .val (.int (0 : Int32)), .val (.int (0 : Int32)), .unset] [(.int (0 : Int32))])) _
          refine Go.st (fun _ k_ => XS.ifYes X19.here hx rfl (pc0 := 55) (pc' := 82) rfl (hb hby at_55) rfl ((if0 _ _).trans (teq (by decide : (0 : Int32) = (0 : Int32))).1) (by decide) (by decide) k_) ?_
          show Go p e below (T19.setTop (mkF m 82 #[.val (.int p1), .val (.int p2), .val (.int (2 : Int32)), .val (.ref w_LETTER_DIGIT), .val (.int (0 : Int32)), .val (.int (0 : Int32)), .val (.int (0 : Int32)), .unset] [])) _
          refine Go.st (fun _ k_ => XS.iconst X19.here hx rfl (hb hby at_82) k_) ?_
          show Go p e below (T19.setTop (mkF m 83 #[.val (.int p1), .val (.int p2), .val (.int (2 : Int32)), .val (.ref w_LETTER_DIGIT), .val (.int (0 : Int32)), .val (.int (0 : Int32)), .val (.int (0 : Int32)), .unset] [(.int (0 : Int32))])) _
          refine Go.st (fun _ k_ => XS.istore X19.here hx rfl (hb hby at_83) rfl (l' := #[.val (.int p1), .val (.int p2), .val (.int (2 : Int32)), .val (.ref w_LETTER_DIGIT), .val (.int (0 : Int32)), .val (.int (0 : Int32)), .val (.int (0 : Int32)), .val (.int (0 : Int32))]) rfl k_) ?_
          show Go p e below (T19.setTop (mkF m 85 #[.val (.int p1), .val (.int p2), .val (.int (2 : Int32)), .val (.ref w_LETTER_DIGIT), .val (.int (0 : Int32)), .val (.int (0 : Int32)), .val (.int (0 : Int32)), .val (.int (0 : Int32))] [])) _
          refine Go.st (fun _ k_ => XS.aloadN X19.here hx rfl (hb hby at_85) rfl rfl k_) ?_
          show Go p e below (T19.setTop (mkF m 86 #[.val (.int p1), .val (.int p2), .val (.int (2 : Int32)), .val (.ref w_LETTER_DIGIT), .val (.int (0 : Int32)), .val (.int (0 : Int32)), .val (.int (0 : Int32)), .val (.int (0 : Int32))] [(.ref w_LETTER_DIGIT)])) _
          refine Go.st (fun _ k_ => XS.iload X19.here hx rfl (hb hby at_86) rfl k_) ?_
          show Go p e below (T19.setTop (mkF m 88 #[.val (.int p1), .val (.int p2), .val (.int (2 : Int32)), .val (.ref w_LETTER_DIGIT), .val (.int (0 : Int32)), .val (.int (0 : Int32)), .val (.int (0 : Int32)), .val (.int (0 : Int32))] [(.int (0 : Int32)), (.ref w_LETTER_DIGIT)])) _
          refine Go.st (fun _ k_ => XS.iload X19.here hx rfl (hb hby at_88) rfl k_) ?_
          show Go p e below (T19.setTop (mkF m 90 #[.val (.int p1), .val (.int p2), .val (.int (2 : Int32)), .val (.ref w_LETTER_DIGIT), .val (.int (0 : Int32)), .val (.int (0 : Int32)), .val (.int (0 : Int32)), .val (.int (0 : Int32))] [(.int (0 : Int32)), (.int (0 : Int32)), (.ref w_LETTER_DIGIT)])) _
          refine Go.st (fun _ k_ => XS.iload X19.here hx rfl (hb hby at_90) rfl k_) ?_
          show Go p e below (T19.setTop (mkF m 92 #[.val (.int p1), .val (.int p2), .val (.int (2 : Int32)), .val (.ref w_LETTER_DIGIT), .val (.int (0 : Int32)), .val (.int (0 : Int32)), .val (.int (0 : Int32)), .val (.int (0 : Int32))] [(.int (0 : Int32)), (.int (0 : Int32)), (.int (0 : Int32)), (.ref w_LETTER_DIGIT)])) _
          obtain ⟨cq20, kq20, q20a, q20b, q20c⟩ := isOf hZ e19 E_w_LETTER_DIGIT
          obtain ⟨_, _, ⟨T20, L20, k20_, n20_⟩, -, X20, ⟨Lc20, hQ20, l20_, y20_, z20_⟩, st20⟩ := X19.virtualBack hx (y := (⟨"com/example/patuxent/patuxent/PasswordComplexity", "isMetBy", "(ZZZ)Z"⟩ : MethodName)) (z := (⟨"com/example/patuxent/patuxent/PasswordComplexity", "isMetBy", "(ZZZ)Z"⟩ : MethodName)) hown (mvT hZ (hw _ (List.mem_of_getElem? (i := 7) rfl))) (mvT hZ (hw _ (List.mem_of_getElem? (i := 8) rfl))) (notFace_of_selects (args := #[]) (mvT hZ (hw _ (List.mem_of_getElem? (i := 10) rfl)))) (mvT hZ (hw _ (List.mem_of_getElem? (i := 10) rfl))) (mvT hZ (hw _ (List.mem_of_getElem? (i := 9) rfl))) (by decide) (backOf (W := 0) (rm2_2 l Z a0 hw [] w_LETTER_DIGIT (0 : Int32) (0 : Int32) (0 : Int32) h0 n0 Z0 E_w_LETTER_DIGIT F_LETTER_DIGIT) hZ (hw _ (List.mem_of_getElem? (i := 11) rfl)) (hw _ (List.mem_of_getElem? (i := 5) rfl)) (by decide) (by decide)) q20a q20c (g := (mkF m 92 #[.val (.int p1), .val (.int p2), .val (.int (2 : Int32)), .val (.ref w_LETTER_DIGIT), .val (.int (0 : Int32)), .val (.int (0 : Int32)), .val (.int (0 : Int32)), .val (.int (0 : Int32))] [(.int (0 : Int32)), (.int (0 : Int32)), (.int (0 : Int32)), (.ref w_LETTER_DIGIT)])) rfl (by rw [hml]; rfl) (Steps.refl _) (argsL := [(.int (0 : Int32)), (.int (0 : Int32)), (.int (0 : Int32))]) (rest := []) (lenOf pd_2 rfl) rfl (by show 2 * 0 + _ ≤ _; exact Nat.le_of_eq rfl) (hb hby at_92) (fun _ _ => ⟨rfl, e19, (by decide : 0 + 0 ≤ _), (by decide : 0 + 0 ≤ _)⟩)
          dsimp only [Pt.U, Pt.locs, Pt.cells, Pt.slots] at X20 l20_ y20_ z20_ st20 hQ20
          subst l20_ y20_ z20_
          obtain ⟨rfl, N20q, e20⟩ := hQ20
          have N20 := Fr.app N19 N20q
          refine Go.tr st20 ?_
          show Go p e below (T20.setTop (mkF m 95 #[.val (.int p1), .val (.int p2), .val (.int (2 : Int32)), .val (.ref w_LETTER_DIGIT), .val (.int (0 : Int32)), .val (.int (0 : Int32)), .val (.int (0 : Int32)), .val (.int (0 : Int32))] [(.int (own_met2 (0 : Int32) (0 : Int32)))])) _
          refine Go.st (fun _ k_ => XS.iload X20.here hx rfl (hb hby at_95) rfl k_) ?_
          show Go p e below (T20.setTop (mkF m 97 #[.val (.int p1), .val (.int p2), .val (.int (2 : Int32)), .val (.ref w_LETTER_DIGIT), .val (.int (0 : Int32)), .val (.int (0 : Int32)), .val (.int (0 : Int32)), .val (.int (0 : Int32))] [(.int (0 : Int32)), (.int (own_met2 (0 : Int32) (0 : Int32)))])) _
          have hc97 : (own_met2 (0 : Int32) (0 : Int32)) = (0 : Int32) := by decide
          refine Go.st (fun _ k_ => XS.icmpNo X20.here hx rfl (hb hby at_97) rfl (teq hc97).2 k_) ?_
          show Go p e below (T20.setTop (mkF m 100 #[.val (.int p1), .val (.int p2), .val (.int (2 : Int32)), .val (.ref w_LETTER_DIGIT), .val (.int (0 : Int32)), .val (.int (0 : Int32)), .val (.int (0 : Int32)), .val (.int (0 : Int32))] [])) _
          refine Go.st (fun _ k_ => XS.iconst X20.here hx rfl (hb hby at_100) k_) ?_
          show Go p e below (T20.setTop (mkF m 101 #[.val (.int p1), .val (.int p2), .val (.int (2 : Int32)), .val (.ref w_LETTER_DIGIT), .val (.int (0 : Int32)), .val (.int (0 : Int32)), .val (.int (0 : Int32)), .val (.int (0 : Int32))] [(.int (1 : Int32))])) _
          refine Go.st (fun _ k_ => XS.goto X20.here hx rfl (pc0 := 101) (pc' := 105) rfl (hb hby at_101) (by decide) (by decide) k_) ?_
          show Go p e below (T20.setTop (mkF m 105 #[.val (.int p1), .val (.int p2), .val (.int (2 : Int32)), .val (.ref w_LETTER_DIGIT), .val (.int (0 : Int32)), .val (.int (0 : Int32)), .val (.int (0 : Int32)), .val (.int (0 : Int32))] [(.int (1 : Int32))])) _
          refine Go.fin X20 (v := some (.int (1 : Int32))) (fun h_ => by rw [Bd.returns] at h_; cases h_) Bd.notSynchronized (fun _ hr => retN X20 hx (t := .boolean) Bd.returns (by simp) (hb hby at_105) hr) (fun U' hU hF => ⟨_, _, rfl, ?_, hF.1, hF.2.1, hF.2.2.mono (by decide) (by decide)⟩)
          exact ⟨(congrArg (fun z_ : Int32 => some (Value.int z_)) (show (1 : Int32) = (1 : Int32) from rfl)), N20⟩
        · refine Go.st (fun _ k_ => XS.ifNo X19.here hx rfl (hb hby at_38) rfl ((if0 _ _).trans (feq hc38).1) k_) ?_
          show Go p e below (T19.setTop (mkF m 41 #[.val (.int p1), .val (.int p2), .val (.int (2 : Int32)), .val (.ref w_LETTER_DIGIT), .val (.int (0 : Int32)), .val (.int (0 : Int32)), .unset, .unset] [])) _
          refine Go.st (fun _ k_ => XS.iconst X19.here hx rfl (hb hby at_41) k_) ?_
          show Go p e below (T19.setTop (mkF m 42 #[.val (.int p1), .val (.int p2), .val (.int (2 : Int32)), .val (.ref w_LETTER_DIGIT), .val (.int (0 : Int32)), .val (.int (0 : Int32)), .unset, .unset] [(.int (1 : Int32))])) _
          refine Go.st (fun _ k_ => XS.goto X19.here hx rfl (pc0 := 42) (pc' := 46) rfl (hb hby at_42) (by decide) (by decide) k_) ?_
          show Go p e below (T19.setTop (mkF m 46 #[.val (.int p1), .val (.int p2), .val (.int (2 : Int32)), .val (.ref w_LETTER_DIGIT), .val (.int (0 : Int32)), .val (.int (0 : Int32)), .unset, .unset] [(.int (1 : Int32))])) _
          refine Go.st (fun _ k_ => XS.istore X19.here hx rfl (hb hby at_46) rfl (l' := #[.val (.int p1), .val (.int p2), .val (.int (2 : Int32)), .val (.ref w_LETTER_DIGIT), .val (.int (0 : Int32)), .val (.int (0 : Int32)), .val (.int (1 : Int32)), .unset]) rfl k_) ?_
          show Go p e below (T19.setTop (mkF m 48 #[.val (.int p1), .val (.int p2), .val (.int (2 : Int32)), .val (.ref w_LETTER_DIGIT), .val (.int (0 : Int32)), .val (.int (0 : Int32)), .val (.int (1 : Int32)), .unset] [])) _
          refine Go.st (fun _ k_ => XS.iloadN X19.here hx rfl (hb hby at_48) rfl k_) ?_
          show Go p e below (T19.setTop (mkF m 49 #[.val (.int p1), .val (.int p2), .val (.int (2 : Int32)), .val (.ref w_LETTER_DIGIT), .val (.int (0 : Int32)), .val (.int (0 : Int32)), .val (.int (1 : Int32)), .unset] [(.int (2 : Int32))])) _
          refine Go.st (fun _ k_ => XS.iconst X19.here hx rfl (hb hby at_49) k_) ?_
          show Go p e below (T19.setTop (mkF m 50 #[.val (.int p1), .val (.int p2), .val (.int (2 : Int32)), .val (.ref w_LETTER_DIGIT), .val (.int (0 : Int32)), .val (.int (0 : Int32)), .val (.int (1 : Int32)), .unset] [(.int (1 : Int32)), (.int (2 : Int32))])) _
          refine Go.st (fun _ k_ => XS.icmpNo X19.here hx rfl (hb hby at_50) rfl (flt (by decide : ¬ ((2 : Int32) < (1 : Int32)))).1 k_) ?_
          show Go p e below (T19.setTop (mkF m 53 #[.val (.int p1), .val (.int p2), .val (.int (2 : Int32)), .val (.ref w_LETTER_DIGIT), .val (.int (0 : Int32)), .val (.int (0 : Int32)), .val (.int (1 : Int32)), .unset] [])) _
          refine Go.st (fun _ k_ => XS.iload X19.here hx rfl (hb hby at_53) rfl k_) ?_
          show Go p e below (T19.setTop (mkF m 55 #[.val (.int p1), .val (.int p2), .val (.int (2 : Int32)), .val (.ref w_LETTER_DIGIT), .val (.int (0 : Int32)), .val (.int (0 : Int32)), .val (.int (1 : Int32)), .unset] [(.int (0 : Int32))])) _
          refine Go.st (fun _ k_ => XS.ifYes X19.here hx rfl (pc0 := 55) (pc' := 82) rfl (hb hby at_55) rfl ((if0 _ _).trans (teq (by decide : (0 : Int32) = (0 : Int32))).1) (by decide) (by decide) k_) ?_
          show Go p e below (T19.setTop (mkF m 82 #[.val (.int p1), .val (.int p2), .val (.int (2 : Int32)), .val (.ref w_LETTER_DIGIT), .val (.int (0 : Int32)), .val (.int (0 : Int32)), .val (.int (1 : Int32)), .unset] [])) _
          refine Go.st (fun _ k_ => XS.iconst X19.here hx rfl (hb hby at_82) k_) ?_
          show Go p e below (T19.setTop (mkF m 83 #[.val (.int p1), .val (.int p2), .val (.int (2 : Int32)), .val (.ref w_LETTER_DIGIT), .val (.int (0 : Int32)), .val (.int (0 : Int32)), .val (.int (1 : Int32)), .unset] [(.int (0 : Int32))])) _
          refine Go.st (fun _ k_ => XS.istore X19.here hx rfl (hb hby at_83) rfl (l' := #[.val (.int p1), .val (.int p2), .val (.int (2 : Int32)), .val (.ref w_LETTER_DIGIT), .val (.int (0 : Int32)), .val (.int (0 : Int32)), .val (.int (1 : Int32)), .val (.int (0 : Int32))]) rfl k_) ?_
          show Go p e below (T19.setTop (mkF m 85 #[.val (.int p1), .val (.int p2), .val (.int (2 : Int32)), .val (.ref w_LETTER_DIGIT), .val (.int (0 : Int32)), .val (.int (0 : Int32)), .val (.int (1 : Int32)), .val (.int (0 : Int32))] [])) _
          refine Go.st (fun _ k_ => XS.aloadN X19.here hx rfl (hb hby at_85) rfl rfl k_) ?_
          show Go p e below (T19.setTop (mkF m 86 #[.val (.int p1), .val (.int p2), .val (.int (2 : Int32)), .val (.ref w_LETTER_DIGIT), .val (.int (0 : Int32)), .val (.int (0 : Int32)), .val (.int (1 : Int32)), .val (.int (0 : Int32))] [(.ref w_LETTER_DIGIT)])) _
          refine Go.st (fun _ k_ => XS.iload X19.here hx rfl (hb hby at_86) rfl k_) ?_
          show Go p e below (T19.setTop (mkF m 88 #[.val (.int p1), .val (.int p2), .val (.int (2 : Int32)), .val (.ref w_LETTER_DIGIT), .val (.int (0 : Int32)), .val (.int (0 : Int32)), .val (.int (1 : Int32)), .val (.int (0 : Int32))] [(.int (0 : Int32)), (.ref w_LETTER_DIGIT)])) _
          refine Go.st (fun _ k_ => XS.iload X19.here hx rfl (hb hby at_88) rfl k_) ?_
          show Go p e below (T19.setTop (mkF m 90 #[.val (.int p1), .val (.int p2), .val (.int (2 : Int32)), .val (.ref w_LETTER_DIGIT), .val (.int (0 : Int32)), .val (.int (0 : Int32)), .val (.int (1 : Int32)), .val (.int (0 : Int32))] [(.int (0 : Int32)), (.int (0 : Int32)), (.ref w_LETTER_DIGIT)])) _
          refine Go.st (fun _ k_ => XS.iload X19.here hx rfl (hb hby at_90) rfl k_) ?_
          show Go p e below (T19.setTop (mkF m 92 #[.val (.int p1), .val (.int p2), .val (.int (2 : Int32)), .val (.ref w_LETTER_DIGIT), .val (.int (0 : Int32)), .val (.int (0 : Int32)), .val (.int (1 : Int32)), .val (.int (0 : Int32))] [(.int (1 : Int32)), (.int (0 : Int32)), (.int (0 : Int32)), (.ref w_LETTER_DIGIT)])) _
          obtain ⟨cq21, kq21, q21a, q21b, q21c⟩ := isOf hZ e19 E_w_LETTER_DIGIT
          obtain ⟨_, _, ⟨T21, L21, k21_, n21_⟩, -, X21, ⟨Lc21, hQ21, l21_, y21_, z21_⟩, st21⟩ := X19.virtualBack hx (y := (⟨"com/example/patuxent/patuxent/PasswordComplexity", "isMetBy", "(ZZZ)Z"⟩ : MethodName)) (z := (⟨"com/example/patuxent/patuxent/PasswordComplexity", "isMetBy", "(ZZZ)Z"⟩ : MethodName)) hown (mvT hZ (hw _ (List.mem_of_getElem? (i := 7) rfl))) (mvT hZ (hw _ (List.mem_of_getElem? (i := 8) rfl))) (notFace_of_selects (args := #[]) (mvT hZ (hw _ (List.mem_of_getElem? (i := 10) rfl)))) (mvT hZ (hw _ (List.mem_of_getElem? (i := 10) rfl))) (mvT hZ (hw _ (List.mem_of_getElem? (i := 9) rfl))) (by decide) (backOf (W := 0) (rm2_2 l Z a0 hw [] w_LETTER_DIGIT (0 : Int32) (0 : Int32) (1 : Int32) h0 n0 Z0 E_w_LETTER_DIGIT F_LETTER_DIGIT) hZ (hw _ (List.mem_of_getElem? (i := 11) rfl)) (hw _ (List.mem_of_getElem? (i := 5) rfl)) (by decide) (by decide)) q21a q21c (g := (mkF m 92 #[.val (.int p1), .val (.int p2), .val (.int (2 : Int32)), .val (.ref w_LETTER_DIGIT), .val (.int (0 : Int32)), .val (.int (0 : Int32)), .val (.int (1 : Int32)), .val (.int (0 : Int32))] [(.int (1 : Int32)), (.int (0 : Int32)), (.int (0 : Int32)), (.ref w_LETTER_DIGIT)])) rfl (by rw [hml]; rfl) (Steps.refl _) (argsL := [(.int (0 : Int32)), (.int (0 : Int32)), (.int (1 : Int32))]) (rest := []) (lenOf pd_2 rfl) rfl (by show 2 * 0 + _ ≤ _; exact Nat.le_of_eq rfl) (hb hby at_92) (fun _ _ => ⟨rfl, e19, (by decide : 0 + 0 ≤ _), (by decide : 0 + 0 ≤ _)⟩)
          dsimp only [Pt.U, Pt.locs, Pt.cells, Pt.slots] at X21 l21_ y21_ z21_ st21 hQ21
          subst l21_ y21_ z21_
          obtain ⟨rfl, N21q, e21⟩ := hQ21
          have N21 := Fr.app N19 N21q
          refine Go.tr st21 ?_
          show Go p e below (T21.setTop (mkF m 95 #[.val (.int p1), .val (.int p2), .val (.int (2 : Int32)), .val (.ref w_LETTER_DIGIT), .val (.int (0 : Int32)), .val (.int (0 : Int32)), .val (.int (1 : Int32)), .val (.int (0 : Int32))] [(.int (own_met2 (0 : Int32) (0 : Int32)))])) _
          refine Go.st (fun _ k_ => XS.iload X21.here hx rfl (hb hby at_95) rfl k_) ?_
          show Go p e below (T21.setTop (mkF m 97 #[.val (.int p1), .val (.int p2), .val (.int (2 : Int32)), .val (.ref w_LETTER_DIGIT), .val (.int (0 : Int32)), .val (.int (0 : Int32)), .val (.int (1 : Int32)), .val (.int (0 : Int32))] [(.int (0 : Int32)), (.int (own_met2 (0 : Int32) (0 : Int32)))])) _
          have hc97 : (own_met2 (0 : Int32) (0 : Int32)) = (0 : Int32) := by decide
          refine Go.st (fun _ k_ => XS.icmpNo X21.here hx rfl (hb hby at_97) rfl (teq hc97).2 k_) ?_
          show Go p e below (T21.setTop (mkF m 100 #[.val (.int p1), .val (.int p2), .val (.int (2 : Int32)), .val (.ref w_LETTER_DIGIT), .val (.int (0 : Int32)), .val (.int (0 : Int32)), .val (.int (1 : Int32)), .val (.int (0 : Int32))] [])) _
          refine Go.st (fun _ k_ => XS.iconst X21.here hx rfl (hb hby at_100) k_) ?_
          show Go p e below (T21.setTop (mkF m 101 #[.val (.int p1), .val (.int p2), .val (.int (2 : Int32)), .val (.ref w_LETTER_DIGIT), .val (.int (0 : Int32)), .val (.int (0 : Int32)), .val (.int (1 : Int32)), .val (.int (0 : Int32))] [(.int (1 : Int32))])) _
          refine Go.st (fun _ k_ => XS.goto X21.here hx rfl (pc0 := 101) (pc' := 105) rfl (hb hby at_101) (by decide) (by decide) k_) ?_
          show Go p e below (T21.setTop (mkF m 105 #[.val (.int p1), .val (.int p2), .val (.int (2 : Int32)), .val (.ref w_LETTER_DIGIT), .val (.int (0 : Int32)), .val (.int (0 : Int32)), .val (.int (1 : Int32)), .val (.int (0 : Int32))] [(.int (1 : Int32))])) _
          refine Go.fin X21 (v := some (.int (1 : Int32))) (fun h_ => by rw [Bd.returns] at h_; cases h_) Bd.notSynchronized (fun _ hr => retN X21 hx (t := .boolean) Bd.returns (by simp) (hb hby at_105) hr) (fun U' hU hF => ⟨_, _, rfl, ?_, hF.1, hF.2.1, hF.2.2.mono (by decide) (by decide)⟩)
          exact ⟨(congrArg (fun z_ : Int32 => some (Value.int z_)) (show (1 : Int32) = (1 : Int32) from rfl)), N21⟩
      · refine Go.st (fun _ k_ => XS.ifNo X19.here hx rfl (hb hby at_25) rfl ((if0 _ _).trans (feq hc25).1) k_) ?_
        show Go p e below (T19.setTop (mkF m 28 #[.val (.int p1), .val (.int p2), .val (.int (2 : Int32)), .val (.ref w_LETTER_DIGIT), .val (.int (0 : Int32)), .unset, .unset, .unset] [])) _
        refine Go.st (fun _ k_ => XS.iconst X19.here hx rfl (hb hby at_28) k_) ?_
        show Go p e below (T19.setTop (mkF m 29 #[.val (.int p1), .val (.int p2), .val (.int (2 : Int32)), .val (.ref w_LETTER_DIGIT), .val (.int (0 : Int32)), .unset, .unset, .unset] [(.int (1 : Int32))])) _
        refine Go.st (fun _ k_ => XS.goto X19.here hx rfl (pc0 := 29) (pc' := 33) rfl (hb hby at_29) (by decide) (by decide) k_) ?_
        show Go p e below (T19.setTop (mkF m 33 #[.val (.int p1), .val (.int p2), .val (.int (2 : Int32)), .val (.ref w_LETTER_DIGIT), .val (.int (0 : Int32)), .unset, .unset, .unset] [(.int (1 : Int32))])) _
        refine Go.st (fun _ k_ => XS.istore X19.here hx rfl (hb hby at_33) rfl (l' := #[.val (.int p1), .val (.int p2), .val (.int (2 : Int32)), .val (.ref w_LETTER_DIGIT), .val (.int (0 : Int32)), .val (.int (1 : Int32)), .unset, .unset]) rfl k_) ?_
        show Go p e below (T19.setTop (mkF m 35 #[.val (.int p1), .val (.int p2), .val (.int (2 : Int32)), .val (.ref w_LETTER_DIGIT), .val (.int (0 : Int32)), .val (.int (1 : Int32)), .unset, .unset] [])) _
        refine Go.st (fun _ k_ => XS.iloadN X19.here hx rfl (hb hby at_35) rfl k_) ?_
        show Go p e below (T19.setTop (mkF m 36 #[.val (.int p1), .val (.int p2), .val (.int (2 : Int32)), .val (.ref w_LETTER_DIGIT), .val (.int (0 : Int32)), .val (.int (1 : Int32)), .unset, .unset] [(.int p2)])) _
        refine Go.st (fun _ k_ => XS.iconst X19.here hx rfl (hb hby at_36) k_) ?_
        show Go p e below (T19.setTop (mkF m 37 #[.val (.int p1), .val (.int p2), .val (.int (2 : Int32)), .val (.ref w_LETTER_DIGIT), .val (.int (0 : Int32)), .val (.int (1 : Int32)), .unset, .unset] [(.int (4 : Int32)), (.int p2)])) _
        refine Go.st (fun _ k_ => XS.iand X19.here hx rfl (hb hby at_37) rfl k_) ?_
        show Go p e below (T19.setTop (mkF m 38 #[.val (.int p1), .val (.int p2), .val (.int (2 : Int32)), .val (.ref w_LETTER_DIGIT), .val (.int (0 : Int32)), .val (.int (1 : Int32)), .unset, .unset] [(.int (p2 &&& (4 : Int32)))])) _
        by_cases hc38 : (p2 &&& (4 : Int32)) = (0 : Int32)
        · refine Go.st (fun _ k_ => XS.ifYes X19.here hx rfl (pc0 := 38) (pc' := 45) rfl (hb hby at_38) rfl ((if0 _ _).trans (teq hc38).1) (by decide) (by decide) k_) ?_
          show Go p e below (T19.setTop (mkF m 45 #[.val (.int p1), .val (.int p2), .val (.int (2 : Int32)), .val (.ref w_LETTER_DIGIT), .val (.int (0 : Int32)), .val (.int (1 : Int32)), .unset, .unset] [])) _
          refine Go.st (fun _ k_ => XS.iconst X19.here hx rfl (hb hby at_45) k_) ?_
          show Go p e below (T19.setTop (mkF m 46 #[.val (.int p1), .val (.int p2), .val (.int (2 : Int32)), .val (.ref w_LETTER_DIGIT), .val (.int (0 : Int32)), .val (.int (1 : Int32)), .unset, .unset] [(.int (0 : Int32))])) _
          refine Go.st (fun _ k_ => XS.istore X19.here hx rfl (hb hby at_46) rfl (l' := #[.val (.int p1), .val (.int p2), .val (.int (2 : Int32)), .val (.ref w_LETTER_DIGIT), .val (.int (0 : Int32)), .val (.int (1 : Int32)), .val (.int (0 : Int32)), .unset]) rfl k_) ?_
          show Go p e below (T19.setTop (mkF m 48 #[.val (.int p1), .val (.int p2), .val (.int (2 : Int32)), .val (.ref w_LETTER_DIGIT), .val (.int (0 : Int32)), .val (.int (1 : Int32)), .val (.int (0 : Int32)), .unset] [])) _
          refine Go.st (fun _ k_ => XS.iloadN X19.here hx rfl (hb hby at_48) rfl k_) ?_
          show Go p e below (T19.setTop (mkF m 49 #[.val (.int p1), .val (.int p2), .val (.int (2 : Int32)), .val (.ref w_LETTER_DIGIT), .val (.int (0 : Int32)), .val (.int (1 : Int32)), .val (.int (0 : Int32)), .unset] [(.int (2 : Int32))])) _
          refine Go.st (fun _ k_ => XS.iconst X19.here hx rfl (hb hby at_49) k_) ?_
          show Go p e below (T19.setTop (mkF m 50 #[.val (.int p1), .val (.int p2), .val (.int (2 : Int32)), .val (.ref w_LETTER_DIGIT), .val (.int (0 : Int32)), .val (.int (1 : Int32)), .val (.int (0 : Int32)), .unset] [(.int (1 : Int32)), (.int (2 : Int32))])) _
          refine Go.st (fun _ k_ => XS.icmpNo X19.here hx rfl (hb hby at_50) rfl (flt (by decide : ¬ ((2 : Int32) < (1 : Int32)))).1 k_) ?_
          show Go p e below (T19.setTop (mkF m 53 #[.val (.int p1), .val (.int p2), .val (.int (2 : Int32)), .val (.ref w_LETTER_DIGIT), .val (.int (0 : Int32)), .val (.int (1 : Int32)), .val (.int (0 : Int32)), .unset] [])) _
          refine Go.st (fun _ k_ => XS.iload X19.here hx rfl (hb hby at_53) rfl k_) ?_
          show Go p e below (T19.setTop (mkF m 55 #[.val (.int p1), .val (.int p2), .val (.int (2 : Int32)), .val (.ref w_LETTER_DIGIT), .val (.int (0 : Int32)), .val (.int (1 : Int32)), .val (.int (0 : Int32)), .unset] [(.int (0 : Int32))])) _
          refine Go.st (fun _ k_ => XS.ifYes X19.here hx rfl (pc0 := 55) (pc' := 82) rfl (hb hby at_55) rfl ((if0 _ _).trans (teq (by decide : (0 : Int32) = (0 : Int32))).1) (by decide) (by decide) k_) ?_
          show Go p e below (T19.setTop (mkF m 82 #[.val (.int p1), .val (.int p2), .val (.int (2 : Int32)), .val (.ref w_LETTER_DIGIT), .val (.int (0 : Int32)), .val (.int (1 : Int32)), .val (.int (0 : Int32)), .unset] [])) _
          refine Go.st (fun _ k_ => XS.iconst X19.here hx rfl (hb hby at_82) k_) ?_
          show Go p e below (T19.setTop (mkF m 83 #[.val (.int p1), .val (.int p2), .val (.int (2 : Int32)), .val (.ref w_LETTER_DIGIT), .val (.int (0 : Int32)), .val (.int (1 : Int32)), .val (.int (0 : Int32)), .unset] [(.int (0 : Int32))])) _
          refine Go.st (fun _ k_ => XS.istore X19.here hx rfl (hb hby at_83) rfl (l' := #[.val (.int p1), .val (.int p2), .val (.int (2 : Int32)), .val (.ref w_LETTER_DIGIT), .val (.int (0 : Int32)), .val (.int (1 : Int32)), .val (.int (0 : Int32)), .val (.int (0 : Int32))]) rfl k_) ?_
          show Go p e below (T19.setTop (mkF m 85 #[.val (.int p1), .val (.int p2), .val (.int (2 : Int32)), .val (.ref w_LETTER_DIGIT), .val (.int (0 : Int32)), .val (.int (1 : Int32)), .val (.int (0 : Int32)), .val (.int (0 : Int32))] [])) _
          refine Go.st (fun _ k_ => XS.aloadN X19.here hx rfl (hb hby at_85) rfl rfl k_) ?_
          show Go p e below (T19.setTop (mkF m 86 #[.val (.int p1), .val (.int p2), .val (.int (2 : Int32)), .val (.ref w_LETTER_DIGIT), .val (.int (0 : Int32)), .val (.int (1 : Int32)), .val (.int (0 : Int32)), .val (.int (0 : Int32))] [(.ref w_LETTER_DIGIT)])) _
          refine Go.st (fun _ k_ => XS.iload X19.here hx rfl (hb hby at_86) rfl k_) ?_
          show Go p e below (T19.setTop (mkF m 88 #[.val (.int p1), .val (.int p2), .val (.int (2 : Int32)), .val (.ref w_LETTER_DIGIT), .val (.int (0 : Int32)), .val (.int (1 : Int32)), .val (.int (0 : Int32)), .val (.int (0 : Int32))] [(.int (0 : Int32)), (.ref w_LETTER_DIGIT)])) _
          refine Go.st (fun _ k_ => XS.iload X19.here hx rfl (hb hby at_88) rfl k_) ?_
          show Go p e below (T19.setTop (mkF m 90 #[.val (.int p1), .val (.int p2), .val (.int (2 : Int32)), .val (.ref w_LETTER_DIGIT), .val (.int (0 : Int32)), .val (.int (1 : Int32)), .val (.int (0 : Int32)), .val (.int (0 : Int32))] [(.int (1 : Int32)), (.int (0 : Int32)), (.ref w_LETTER_DIGIT)])) _
          refine Go.st (fun _ k_ => XS.iload X19.here hx rfl (hb hby at_90) rfl k_) ?_
          show Go p e below (T19.setTop (mkF m 92 #[.val (.int p1), .val (.int p2), .val (.int (2 : Int32)), .val (.ref w_LETTER_DIGIT), .val (.int (0 : Int32)), .val (.int (1 : Int32)), .val (.int (0 : Int32)), .val (.int (0 : Int32))] [(.int (0 : Int32)), (.int (1 : Int32)), (.int (0 : Int32)), (.ref w_LETTER_DIGIT)])) _
          obtain ⟨cq22, kq22, q22a, q22b, q22c⟩ := isOf hZ e19 E_w_LETTER_DIGIT
          obtain ⟨_, _, ⟨T22, L22, k22_, n22_⟩, -, X22, ⟨Lc22, hQ22, l22_, y22_, z22_⟩, st22⟩ := X19.virtualBack hx (y := (⟨"com/example/patuxent/patuxent/PasswordComplexity", "isMetBy", "(ZZZ)Z"⟩ : MethodName)) (z := (⟨"com/example/patuxent/patuxent/PasswordComplexity", "isMetBy", "(ZZZ)Z"⟩ : MethodName)) hown (mvT hZ (hw _ (List.mem_of_getElem? (i := 7) rfl))) (mvT hZ (hw _ (List.mem_of_getElem? (i := 8) rfl))) (notFace_of_selects (args := #[]) (mvT hZ (hw _ (List.mem_of_getElem? (i := 10) rfl)))) (mvT hZ (hw _ (List.mem_of_getElem? (i := 10) rfl))) (mvT hZ (hw _ (List.mem_of_getElem? (i := 9) rfl))) (by decide) (backOf (W := 0) (rm2_2 l Z a0 hw [] w_LETTER_DIGIT (0 : Int32) (1 : Int32) (0 : Int32) h0 n0 Z0 E_w_LETTER_DIGIT F_LETTER_DIGIT) hZ (hw _ (List.mem_of_getElem? (i := 11) rfl)) (hw _ (List.mem_of_getElem? (i := 5) rfl)) (by decide) (by decide)) q22a q22c (g := (mkF m 92 #[.val (.int p1), .val (.int p2), .val (.int (2 : Int32)), .val (.ref w_LETTER_DIGIT), .val (.int (0 : Int32)), .val (.int (1 : Int32)), .val (.int (0 : Int32)), .val (.int (0 : Int32))] [(.int (0 : Int32)), (.int (1 : Int32)), (.int (0 : Int32)), (.ref w_LETTER_DIGIT)])) rfl (by rw [hml]; rfl) (Steps.refl _) (argsL := [(.int (0 : Int32)), (.int (1 : Int32)), (.int (0 : Int32))]) (rest := []) (lenOf pd_2 rfl) rfl (by show 2 * 0 + _ ≤ _; exact Nat.le_of_eq rfl) (hb hby at_92) (fun _ _ => ⟨rfl, e19, (by decide : 0 + 0 ≤ _), (by decide : 0 + 0 ≤ _)⟩)
          dsimp only [Pt.U, Pt.locs, Pt.cells, Pt.slots] at X22 l22_ y22_ z22_ st22 hQ22
          subst l22_ y22_ z22_
          obtain ⟨rfl, N22q, e22⟩ := hQ22
          have N22 := Fr.app N19 N22q
          refine Go.tr st22 ?_
          show Go p e below (T22.setTop (mkF m 95 #[.val (.int p1), .val (.int p2), .val (.int (2 : Int32)), .val (.ref w_LETTER_DIGIT), .val (.int (0 : Int32)), .val (.int (1 : Int32)), .val (.int (0 : Int32)), .val (.int (0 : Int32))] [(.int (own_met2 (0 : Int32) (1 : Int32)))])) _
          refine Go.st (fun _ k_ => XS.iload X22.here hx rfl (hb hby at_95) rfl k_) ?_
          show Go p e below (T22.setTop (mkF m 97 #[.val (.int p1), .val (.int p2), .val (.int (2 : Int32)), .val (.ref w_LETTER_DIGIT), .val (.int (0 : Int32)), .val (.int (1 : Int32)), .val (.int (0 : Int32)), .val (.int (0 : Int32))] [(.int (0 : Int32)), (.int (own_met2 (0 : Int32) (1 : Int32)))])) _
          have hc97 : (own_met2 (0 : Int32) (1 : Int32)) = (0 : Int32) := by decide
          refine Go.st (fun _ k_ => XS.icmpNo X22.here hx rfl (hb hby at_97) rfl (teq hc97).2 k_) ?_
          show Go p e below (T22.setTop (mkF m 100 #[.val (.int p1), .val (.int p2), .val (.int (2 : Int32)), .val (.ref w_LETTER_DIGIT), .val (.int (0 : Int32)), .val (.int (1 : Int32)), .val (.int (0 : Int32)), .val (.int (0 : Int32))] [])) _
          refine Go.st (fun _ k_ => XS.iconst X22.here hx rfl (hb hby at_100) k_) ?_
          show Go p e below (T22.setTop (mkF m 101 #[.val (.int p1), .val (.int p2), .val (.int (2 : Int32)), .val (.ref w_LETTER_DIGIT), .val (.int (0 : Int32)), .val (.int (1 : Int32)), .val (.int (0 : Int32)), .val (.int (0 : Int32))] [(.int (1 : Int32))])) _
          refine Go.st (fun _ k_ => XS.goto X22.here hx rfl (pc0 := 101) (pc' := 105) rfl (hb hby at_101) (by decide) (by decide) k_) ?_
          show Go p e below (T22.setTop (mkF m 105 #[.val (.int p1), .val (.int p2), .val (.int (2 : Int32)), .val (.ref w_LETTER_DIGIT), .val (.int (0 : Int32)), .val (.int (1 : Int32)), .val (.int (0 : Int32)), .val (.int (0 : Int32))] [(.int (1 : Int32))])) _
          refine Go.fin X22 (v := some (.int (1 : Int32))) (fun h_ => by rw [Bd.returns] at h_; cases h_) Bd.notSynchronized (fun _ hr => retN X22 hx (t := .boolean) Bd.returns (by simp) (hb hby at_105) hr) (fun U' hU hF => ⟨_, _, rfl, ?_, hF.1, hF.2.1, hF.2.2.mono (by decide) (by decide)⟩)
          exact ⟨(congrArg (fun z_ : Int32 => some (Value.int z_)) (show (1 : Int32) = (1 : Int32) from rfl)), N22⟩
        · refine Go.st (fun _ k_ => XS.ifNo X19.here hx rfl (hb hby at_38) rfl ((if0 _ _).trans (feq hc38).1) k_) ?_
          show Go p e below (T19.setTop (mkF m 41 #[.val (.int p1), .val (.int p2), .val (.int (2 : Int32)), .val (.ref w_LETTER_DIGIT), .val (.int (0 : Int32)), .val (.int (1 : Int32)), .unset, .unset] [])) _
          refine Go.st (fun _ k_ => XS.iconst X19.here hx rfl (hb hby at_41) k_) ?_
          show Go p e below (T19.setTop (mkF m 42 #[.val (.int p1), .val (.int p2), .val (.int (2 : Int32)), .val (.ref w_LETTER_DIGIT), .val (.int (0 : Int32)), .val (.int (1 : Int32)), .unset, .unset] [(.int (1 : Int32))])) _
          refine Go.st (fun _ k_ => XS.goto X19.here hx rfl (pc0 := 42) (pc' := 46) rfl (hb hby at_42) (by decide) (by decide) k_) ?_
          show Go p e below (T19.setTop (mkF m 46 #[.val (.int p1), .val (.int p2), .val (.int (2 : Int32)), .val (.ref w_LETTER_DIGIT), .val (.int (0 : Int32)), .val (.int (1 : Int32)), .unset, .unset] [(.int (1 : Int32))])) _
          refine Go.st (fun _ k_ => XS.istore X19.here hx rfl (hb hby at_46) rfl (l' := #[.val (.int p1), .val (.int p2), .val (.int (2 : Int32)), .val (.ref w_LETTER_DIGIT), .val (.int (0 : Int32)), .val (.int (1 : Int32)), .val (.int (1 : Int32)), .unset]) rfl k_) ?_
          show Go p e below (T19.setTop (mkF m 48 #[.val (.int p1), .val (.int p2), .val (.int (2 : Int32)), .val (.ref w_LETTER_DIGIT), .val (.int (0 : Int32)), .val (.int (1 : Int32)), .val (.int (1 : Int32)), .unset] [])) _
          refine Go.st (fun _ k_ => XS.iloadN X19.here hx rfl (hb hby at_48) rfl k_) ?_
          show Go p e below (T19.setTop (mkF m 49 #[.val (.int p1), .val (.int p2), .val (.int (2 : Int32)), .val (.ref w_LETTER_DIGIT), .val (.int (0 : Int32)), .val (.int (1 : Int32)), .val (.int (1 : Int32)), .unset] [(.int (2 : Int32))])) _
          refine Go.st (fun _ k_ => XS.iconst X19.here hx rfl (hb hby at_49) k_) ?_
          show Go p e below (T19.setTop (mkF m 50 #[.val (.int p1), .val (.int p2), .val (.int (2 : Int32)), .val (.ref w_LETTER_DIGIT), .val (.int (0 : Int32)), .val (.int (1 : Int32)), .val (.int (1 : Int32)), .unset] [(.int (1 : Int32)), (.int (2 : Int32))])) _
          refine Go.st (fun _ k_ => XS.icmpNo X19.here hx rfl (hb hby at_50) rfl (flt (by decide : ¬ ((2 : Int32) < (1 : Int32)))).1 k_) ?_
          show Go p e below (T19.setTop (mkF m 53 #[.val (.int p1), .val (.int p2), .val (.int (2 : Int32)), .val (.ref w_LETTER_DIGIT), .val (.int (0 : Int32)), .val (.int (1 : Int32)), .val (.int (1 : Int32)), .unset] [])) _
          refine Go.st (fun _ k_ => XS.iload X19.here hx rfl (hb hby at_53) rfl k_) ?_
          show Go p e below (T19.setTop (mkF m 55 #[.val (.int p1), .val (.int p2), .val (.int (2 : Int32)), .val (.ref w_LETTER_DIGIT), .val (.int (0 : Int32)), .val (.int (1 : Int32)), .val (.int (1 : Int32)), .unset] [(.int (0 : Int32))])) _
          refine Go.st (fun _ k_ => XS.ifYes X19.here hx rfl (pc0 := 55) (pc' := 82) rfl (hb hby at_55) rfl ((if0 _ _).trans (teq (by decide : (0 : Int32) = (0 : Int32))).1) (by decide) (by decide) k_) ?_
          show Go p e below (T19.setTop (mkF m 82 #[.val (.int p1), .val (.int p2), .val (.int (2 : Int32)), .val (.ref w_LETTER_DIGIT), .val (.int (0 : Int32)), .val (.int (1 : Int32)), .val (.int (1 : Int32)), .unset] [])) _
          refine Go.st (fun _ k_ => XS.iconst X19.here hx rfl (hb hby at_82) k_) ?_
          show Go p e below (T19.setTop (mkF m 83 #[.val (.int p1), .val (.int p2), .val (.int (2 : Int32)), .val (.ref w_LETTER_DIGIT), .val (.int (0 : Int32)), .val (.int (1 : Int32)), .val (.int (1 : Int32)), .unset] [(.int (0 : Int32))])) _
          refine Go.st (fun _ k_ => XS.istore X19.here hx rfl (hb hby at_83) rfl (l' := #[.val (.int p1), .val (.int p2), .val (.int (2 : Int32)), .val (.ref w_LETTER_DIGIT), .val (.int (0 : Int32)), .val (.int (1 : Int32)), .val (.int (1 : Int32)), .val (.int (0 : Int32))]) rfl k_) ?_
          show Go p e below (T19.setTop (mkF m 85 #[.val (.int p1), .val (.int p2), .val (.int (2 : Int32)), .val (.ref w_LETTER_DIGIT), .val (.int (0 : Int32)), .val (.int (1 : Int32)), .val (.int (1 : Int32)), .val (.int (0 : Int32))] [])) _
          refine Go.st (fun _ k_ => XS.aloadN X19.here hx rfl (hb hby at_85) rfl rfl k_) ?_
          show Go p e below (T19.setTop (mkF m 86 #[.val (.int p1), .val (.int p2), .val (.int (2 : Int32)), .val (.ref w_LETTER_DIGIT), .val (.int (0 : Int32)), .val (.int (1 : Int32)), .val (.int (1 : Int32)), .val (.int (0 : Int32))] [(.ref w_LETTER_DIGIT)])) _
          refine Go.st (fun _ k_ => XS.iload X19.here hx rfl (hb hby at_86) rfl k_) ?_
          show Go p e below (T19.setTop (mkF m 88 #[.val (.int p1), .val (.int p2), .val (.int (2 : Int32)), .val (.ref w_LETTER_DIGIT), .val (.int (0 : Int32)), .val (.int (1 : Int32)), .val (.int (1 : Int32)), .val (.int (0 : Int32))] [(.int (0 : Int32)), (.ref w_LETTER_DIGIT)])) _
          refine Go.st (fun _ k_ => XS.iload X19.here hx rfl (hb hby at_88) rfl k_) ?_
          show Go p e below (T19.setTop (mkF m 90 #[.val (.int p1), .val (.int p2), .val (.int (2 : Int32)), .val (.ref w_LETTER_DIGIT), .val (.int (0 : Int32)), .val (.int (1 : Int32)), .val (.int (1 : Int32)), .val (.int (0 : Int32))] [(.int (1 : Int32)), (.int (0 : Int32)), (.ref w_LETTER_DIGIT)])) _
          refine Go.st (fun _ k_ => XS.iload X19.here hx rfl (hb hby at_90) rfl k_) ?_
          show Go p e below (T19.setTop (mkF m 92 #[.val (.int p1), .val (.int p2), .val (.int (2 : Int32)), .val (.ref w_LETTER_DIGIT), .val (.int (0 : Int32)), .val (.int (1 : Int32)), .val (.int (1 : Int32)), .val (.int (0 : Int32))] [(.int (1 : Int32)), (.int (1 : Int32)), (.int (0 : Int32)), (.ref w_LETTER_DIGIT)])) _
          obtain ⟨cq23, kq23, q23a, q23b, q23c⟩ := isOf hZ e19 E_w_LETTER_DIGIT
          obtain ⟨_, _, ⟨T23, L23, k23_, n23_⟩, -, X23, ⟨Lc23, hQ23, l23_, y23_, z23_⟩, st23⟩ := X19.virtualBack hx (y := (⟨"com/example/patuxent/patuxent/PasswordComplexity", "isMetBy", "(ZZZ)Z"⟩ : MethodName)) (z := (⟨"com/example/patuxent/patuxent/PasswordComplexity", "isMetBy", "(ZZZ)Z"⟩ : MethodName)) hown (mvT hZ (hw _ (List.mem_of_getElem? (i := 7) rfl))) (mvT hZ (hw _ (List.mem_of_getElem? (i := 8) rfl))) (notFace_of_selects (args := #[]) (mvT hZ (hw _ (List.mem_of_getElem? (i := 10) rfl)))) (mvT hZ (hw _ (List.mem_of_getElem? (i := 10) rfl))) (mvT hZ (hw _ (List.mem_of_getElem? (i := 9) rfl))) (by decide) (backOf (W := 0) (rm2_2 l Z a0 hw [] w_LETTER_DIGIT (0 : Int32) (1 : Int32) (1 : Int32) h0 n0 Z0 E_w_LETTER_DIGIT F_LETTER_DIGIT) hZ (hw _ (List.mem_of_getElem? (i := 11) rfl)) (hw _ (List.mem_of_getElem? (i := 5) rfl)) (by decide) (by decide)) q23a q23c (g := (mkF m 92 #[.val (.int p1), .val (.int p2), .val (.int (2 : Int32)), .val (.ref w_LETTER_DIGIT), .val (.int (0 : Int32)), .val (.int (1 : Int32)), .val (.int (1 : Int32)), .val (.int (0 : Int32))] [(.int (1 : Int32)), (.int (1 : Int32)), (.int (0 : Int32)), (.ref w_LETTER_DIGIT)])) rfl (by rw [hml]; rfl) (Steps.refl _) (argsL := [(.int (0 : Int32)), (.int (1 : Int32)), (.int (1 : Int32))]) (rest := []) (lenOf pd_2 rfl) rfl (by show 2 * 0 + _ ≤ _; exact Nat.le_of_eq rfl) (hb hby at_92) (fun _ _ => ⟨rfl, e19, (by decide : 0 + 0 ≤ _), (by decide : 0 + 0 ≤ _)⟩)
          dsimp only [Pt.U, Pt.locs, Pt.cells, Pt.slots] at X23 l23_ y23_ z23_ st23 hQ23
          subst l23_ y23_ z23_
          obtain ⟨rfl, N23q, e23⟩ := hQ23
          have N23 := Fr.app N19 N23q
          refine Go.tr st23 ?_
          show Go p e below (T23.setTop (mkF m 95 #[.val (.int p1), .val (.int p2), .val (.int (2 : Int32)), .val (.ref w_LETTER_DIGIT), .val (.int (0 : Int32)), .val (.int (1 : Int32)), .val (.int (1 : Int32)), .val (.int (0 : Int32))] [(.int (own_met2 (0 : Int32) (1 : Int32)))])) _
          refine Go.st (fun _ k_ => XS.iload X23.here hx rfl (hb hby at_95) rfl k_) ?_
          show Go p e below (T23.setTop (mkF m 97 #[.val (.int p1), .val (.int p2), .val (.int (2 : Int32)), .val (.ref w_LETTER_DIGIT), .val (.int (0 : Int32)), .val (.int (1 : Int32)), .val (.int (1 : Int32)), .val (.int (0 : Int32))] [(.int (0 : Int32)), (.int (own_met2 (0 : Int32) (1 : Int32)))])) _
          have hc97 : (own_met2 (0 : Int32) (1 : Int32)) = (0 : Int32) := by decide
          refine Go.st (fun _ k_ => XS.icmpNo X23.here hx rfl (hb hby at_97) rfl (teq hc97).2 k_) ?_
          show Go p e below (T23.setTop (mkF m 100 #[.val (.int p1), .val (.int p2), .val (.int (2 : Int32)), .val (.ref w_LETTER_DIGIT), .val (.int (0 : Int32)), .val (.int (1 : Int32)), .val (.int (1 : Int32)), .val (.int (0 : Int32))] [])) _
          refine Go.st (fun _ k_ => XS.iconst X23.here hx rfl (hb hby at_100) k_) ?_
          show Go p e below (T23.setTop (mkF m 101 #[.val (.int p1), .val (.int p2), .val (.int (2 : Int32)), .val (.ref w_LETTER_DIGIT), .val (.int (0 : Int32)), .val (.int (1 : Int32)), .val (.int (1 : Int32)), .val (.int (0 : Int32))] [(.int (1 : Int32))])) _
          refine Go.st (fun _ k_ => XS.goto X23.here hx rfl (pc0 := 101) (pc' := 105) rfl (hb hby at_101) (by decide) (by decide) k_) ?_
          show Go p e below (T23.setTop (mkF m 105 #[.val (.int p1), .val (.int p2), .val (.int (2 : Int32)), .val (.ref w_LETTER_DIGIT), .val (.int (0 : Int32)), .val (.int (1 : Int32)), .val (.int (1 : Int32)), .val (.int (0 : Int32))] [(.int (1 : Int32))])) _
          refine Go.fin X23 (v := some (.int (1 : Int32))) (fun h_ => by rw [Bd.returns] at h_; cases h_) Bd.notSynchronized (fun _ hr => retN X23 hx (t := .boolean) Bd.returns (by simp) (hb hby at_105) hr) (fun U' hU hF => ⟨_, _, rfl, ?_, hF.1, hF.2.1, hF.2.2.mono (by decide) (by decide)⟩)
          exact ⟨(congrArg (fun z_ : Int32 => some (Value.int z_)) (show (1 : Int32) = (1 : Int32) from rfl)), N23⟩
    · refine Go.st (fun _ k_ => XS.ifNo X19.here hx rfl (hb hby at_12) rfl ((if0 _ _).trans (feq hc12).1) k_) ?_
      show Go p e below (T19.setTop (mkF m 15 #[.val (.int p1), .val (.int p2), .val (.int (2 : Int32)), .val (.ref w_LETTER_DIGIT), .unset, .unset, .unset, .unset] [])) _
      refine Go.st (fun _ k_ => XS.iconst X19.here hx rfl (hb hby at_15) k_) ?_
      show Go p e below (T19.setTop (mkF m 16 #[.val (.int p1), .val (.int p2), .val (.int (2 : Int32)), .val (.ref w_LETTER_DIGIT), .unset, .unset, .unset, .unset] [(.int (1 : Int32))])) _
      refine Go.st (fun _ k_ => XS.goto X19.here hx rfl (pc0 := 16) (pc' := 20) rfl (hb hby at_16) (by decide) (by decide) k_) ?_
      show Go p e below (T19.setTop (mkF m 20 #[.val (.int p1), .val (.int p2), .val (.int (2 : Int32)), .val (.ref w_LETTER_DIGIT), .unset, .unset, .unset, .unset] [(.int (1 : Int32))])) _
      refine Go.st (fun _ k_ => XS.istore X19.here hx rfl (hb hby at_20) rfl (l' := #[.val (.int p1), .val (.int p2), .val (.int (2 : Int32)), .val (.ref w_LETTER_DIGIT), .val (.int (1 : Int32)), .unset, .unset, .unset]) rfl k_) ?_
      show Go p e below (T19.setTop (mkF m 22 #[.val (.int p1), .val (.int p2), .val (.int (2 : Int32)), .val (.ref w_LETTER_DIGIT), .val (.int (1 : Int32)), .unset, .unset, .unset] [])) _
      refine Go.st (fun _ k_ => XS.iloadN X19.here hx rfl (hb hby at_22) rfl k_) ?_
      show Go p e below (T19.setTop (mkF m 23 #[.val (.int p1), .val (.int p2), .val (.int (2 : Int32)), .val (.ref w_LETTER_DIGIT), .val (.int (1 : Int32)), .unset, .unset, .unset] [(.int p2)])) _
      refine Go.st (fun _ k_ => XS.iconst X19.here hx rfl (hb hby at_23) k_) ?_
      show Go p e below (T19.setTop (mkF m 24 #[.val (.int p1), .val (.int p2), .val (.int (2 : Int32)), .val (.ref w_LETTER_DIGIT), .val (.int (1 : Int32)), .unset, .unset, .unset] [(.int (2 : Int32)), (.int p2)])) _
      refine Go.st (fun _ k_ => XS.iand X19.here hx rfl (hb hby at_24) rfl k_) ?_
      show Go p e below (T19.setTop (mkF m 25 #[.val (.int p1), .val (.int p2), .val (.int (2 : Int32)), .val (.ref w_LETTER_DIGIT), .val (.int (1 : Int32)), .unset, .unset, .unset] [(.int (p2 &&& (2 : Int32)))])) _
      by_cases hc25 : (p2 &&& (2 : Int32)) = (0 : Int32)
      · refine Go.st (fun _ k_ => XS.ifYes X19.here hx rfl (pc0 := 25) (pc' := 32) rfl (hb hby at_25) rfl ((if0 _ _).trans (teq hc25).1) (by decide) (by decide) k_) ?_
        show Go p e below (T19.setTop (mkF m 32 #[.val (.int p1), .val (.int p2), .val (.int (2 : Int32)), .val (.ref w_LETTER_DIGIT), .val (.int (1 : Int32)), .unset, .unset, .unset] [])) _
        refine Go.st (fun _ k_ => XS.iconst X19.here hx rfl (hb hby at_32) k_) ?_
        show Go p e below (T19.setTop (mkF m 33 #[.val (.int p1), .val (.int p2), .val (.int (2 : Int32)), .val (.ref w_LETTER_DIGIT), .val (.int (1 : Int32)), .unset, .unset, .unset] [(.int (0 : Int32))])) _
        refine Go.st (fun _ k_ => XS.istore X19.here hx rfl (hb hby at_33) rfl (l' := #[.val (.int p1), .val (.int p2), .val (.int (2 : Int32)), .val (.ref w_LETTER_DIGIT), .val (.int (1 : Int32)), .val (.int (0 : Int32)), .unset, .unset]) rfl k_) ?_
        show Go p e below (T19.setTop (mkF m 35 #[.val (.int p1), .val (.int p2), .val (.int (2 : Int32)), .val (.ref w_LETTER_DIGIT), .val (.int (1 : Int32)), .val (.int (0 : Int32)), .unset, .unset] [])) _
        refine Go.st (fun _ k_ => XS.iloadN X19.here hx rfl (hb hby at_35) rfl k_) ?_
        show Go p e below (T19.setTop (mkF m 36 #[.val (.int p1), .val (.int p2), .val (.int (2 : Int32)), .val (.ref w_LETTER_DIGIT), .val (.int (1 : Int32)), .val (.int (0 : Int32)), .unset, .unset] [(.int p2)])) _
        refine Go.st (fun _ k_ => XS.iconst X19.here hx rfl (hb hby at_36) k_) ?_
        show Go p e below (T19.setTop (mkF m 37 #[.val (.int p1), .val (.int p2), .val (.int (2 : Int32)), .val (.ref w_LETTER_DIGIT), .val (.int (1 : Int32)), .val (.int (0 : Int32)), .unset, .unset] [(.int (4 : Int32)), (.int p2)])) _
        refine Go.st (fun _ k_ => XS.iand X19.here hx rfl (hb hby at_37) rfl k_) ?_
        show Go p e below (T19.setTop (mkF m 38 #[.val (.int p1), .val (.int p2), .val (.int (2 : Int32)), .val (.ref w_LETTER_DIGIT), .val (.int (1 : Int32)), .val (.int (0 : Int32)), .unset, .unset] [(.int (p2 &&& (4 : Int32)))])) _
        by_cases hc38 : (p2 &&& (4 : Int32)) = (0 : Int32)
        · refine Go.st (fun _ k_ => XS.ifYes X19.here hx rfl (pc0 := 38) (pc' := 45) rfl (hb hby at_38) rfl ((if0 _ _).trans (teq hc38).1) (by decide) (by decide) k_) ?_
          show Go p e below (T19.setTop (mkF m 45 #[.val (.int p1), .val (.int p2), .val (.int (2 : Int32)), .val (.ref w_LETTER_DIGIT), .val (.int (1 : Int32)), .val (.int (0 : Int32)), .unset, .unset] [])) _
          refine Go.st (fun _ k_ => XS.iconst X19.here hx rfl (hb hby at_45) k_) ?_
          show Go p e below (T19.setTop (mkF m 46 #[.val (.int p1), .val (.int p2), .val (.int (2 : Int32)), .val (.ref w_LETTER_DIGIT), .val (.int (1 : Int32)), .val (.int (0 : Int32)), .unset, .unset] [(.int (0 : Int32))])) _
          refine Go.st (fun _ k_ => XS.istore X19.here hx rfl (hb hby at_46) rfl (l' := #[.val (.int p1), .val (.int p2), .val (.int (2 : Int32)), .val (.ref w_LETTER_DIGIT), .val (.int (1 : Int32)), .val (.int (0 : Int32)), .val (.int (0 : Int32)), .unset]) rfl k_) ?_
          show Go p e below (T19.setTop (mkF m 48 #[.val (.int p1), .val (.int p2), .val (.int (2 : Int32)), .val (.ref w_LETTER_DIGIT), .val (.int (1 : Int32)), .val (.int (0 : Int32)), .val (.int (0 : Int32)), .unset] [])) _
          refine Go.st (fun _ k_ => XS.iloadN X19.here hx rfl (hb hby at_48) rfl k_) ?_
          show Go p e below (T19.setTop (mkF m 49 #[.val (.int p1), .val (.int p2), .val (.int (2 : Int32)), .val (.ref w_LETTER_DIGIT), .val (.int (1 : Int32)), .val (.int (0 : Int32)), .val (.int (0 : Int32)), .unset] [(.int (2 : Int32))])) _
          refine Go.st (fun _ k_ => XS.iconst X19.here hx rfl (hb hby at_49) k_) ?_
          show Go p e below (T19.setTop (mkF m 50 #[.val (.int p1), .val (.int p2), .val (.int (2 : Int32)), .val (.ref w_LETTER_DIGIT), .val (.int (1 : Int32)), .val (.int (0 : Int32)), .val (.int (0 : Int32)), .unset] [(.int (1 : Int32)), (.int (2 : Int32))])) _
          refine Go.st (fun _ k_ => XS.icmpNo X19.here hx rfl (hb hby at_50) rfl (flt (by decide : ¬ ((2 : Int32) < (1 : Int32)))).1 k_) ?_
          show Go p e below (T19.setTop (mkF m 53 #[.val (.int p1), .val (.int p2), .val (.int (2 : Int32)), .val (.ref w_LETTER_DIGIT), .val (.int (1 : Int32)), .val (.int (0 : Int32)), .val (.int (0 : Int32)), .unset] [])) _
          refine Go.st (fun _ k_ => XS.iload X19.here hx rfl (hb hby at_53) rfl k_) ?_
          show Go p e below (T19.setTop (mkF m 55 #[.val (.int p1), .val (.int p2), .val (.int (2 : Int32)), .val (.ref w_LETTER_DIGIT), .val (.int (1 : Int32)), .val (.int (0 : Int32)), .val (.int (0 : Int32)), .unset] [(.int (1 : Int32))])) _
          refine Go.st (fun _ k_ => XS.ifNo X19.here hx rfl (hb hby at_55) rfl ((if0 _ _).trans (feq (by decide : ¬ ((1 : Int32) = (0 : Int32)))).1) k_) ?_
          show Go p e below (T19.setTop (mkF m 58 #[.val (.int p1), .val (.int p2), .val (.int (2 : Int32)), .val (.ref w_LETTER_DIGIT), .val (.int (1 : Int32)), .val (.int (0 : Int32)), .val (.int (0 : Int32)), .unset] [])) _
          refine Go.st (fun _ k_ => XS.iloadN X19.here hx rfl (hb hby at_58) rfl k_) ?_
          show Go p e below (T19.setTop (mkF m 59 #[.val (.int p1), .val (.int p2), .val (.int (2 : Int32)), .val (.ref w_LETTER_DIGIT), .val (.int (1 : Int32)), .val (.int (0 : Int32)), .val (.int (0 : Int32)), .unset] [(.int (2 : Int32))])) _
          refine Go.st (fun _ k_ => XS.iconst X19.here hx rfl (hb hby at_59) k_) ?_
          show Go p e below (T19.setTop (mkF m 60 #[.val (.int p1), .val (.int p2), .val (.int (2 : Int32)), .val (.ref w_LETTER_DIGIT), .val (.int (1 : Int32)), .val (.int (0 : Int32)), .val (.int (0 : Int32)), .unset] [(.int (2 : Int32)), (.int (2 : Int32))])) _
          refine Go.st (fun _ k_ => XS.icmpNo X19.here hx rfl (hb hby at_60) rfl (flt (by decide : ¬ ((2 : Int32) < (2 : Int32)))).1 k_) ?_
          show Go p e below (T19.setTop (mkF m 63 #[.val (.int p1), .val (.int p2), .val (.int (2 : Int32)), .val (.ref w_LETTER_DIGIT), .val (.int (1 : Int32)), .val (.int (0 : Int32)), .val (.int (0 : Int32)), .unset] [])) _
          refine Go.st (fun _ k_ => XS.iload X19.here hx rfl (hb hby at_63) rfl k_) ?_
          show Go p e below (T19.setTop (mkF m 65 #[.val (.int p1), .val (.int p2), .val (.int (2 : Int32)), .val (.ref w_LETTER_DIGIT), .val (.int (1 : Int32)), .val (.int (0 : Int32)), .val (.int (0 : Int32)), .unset] [(.int (0 : Int32))])) _
          refine Go.st (fun _ k_ => XS.ifYes X19.here hx rfl (pc0 := 65) (pc' := 82) rfl (hb hby at_65) rfl ((if0 _ _).trans (teq (by decide : (0 : Int32) = (0 : Int32))).1) (by decide) (by decide) k_) ?_
          show Go p e below (T19.setTop (mkF m 82 #[.val (.int p1), .val (.int p2), .val (.int (2 : Int32)), .val (.ref w_LETTER_DIGIT), .val (.int (1 : Int32)), .val (.int (0 : Int32)), .val (.int (0 : Int32)), .unset] [])) _
          refine Go.st (fun _ k_ => XS.iconst X19.here hx rfl (hb hby at_82) k_) ?_
          show Go p e below (T19.setTop (mkF m 83 #[.val (.int p1), .val (.int p2), .val (.int (2 : Int32)), .val (.ref w_LETTER_DIGIT), .val (.int (1 : Int32)), .val (.int (0 : Int32)), .val (.int (0 : Int32)), .unset] [(.int (0 : Int32))])) _
          refine Go.st (fun _ k_ => XS.istore X19.here hx rfl (hb hby at_83) rfl (l' := #[.val (.int p1), .val (.int p2), .val (.int (2 : Int32)), .val (.ref w_LETTER_DIGIT), .val (.int (1 : Int32)), .val (.int (0 : Int32)), .val (.int (0 : Int32)), .val (.int (0 : Int32))]) rfl k_) ?_
          show Go p e below (T19.setTop (mkF m 85 #[.val (.int p1), .val (.int p2), .val (.int (2 : Int32)), .val (.ref w_LETTER_DIGIT), .val (.int (1 : Int32)), .val (.int (0 : Int32)), .val (.int (0 : Int32)), .val (.int (0 : Int32))] [])) _
          refine Go.st (fun _ k_ => XS.aloadN X19.here hx rfl (hb hby at_85) rfl rfl k_) ?_
          show Go p e below (T19.setTop (mkF m 86 #[.val (.int p1), .val (.int p2), .val (.int (2 : Int32)), .val (.ref w_LETTER_DIGIT), .val (.int (1 : Int32)), .val (.int (0 : Int32)), .val (.int (0 : Int32)), .val (.int (0 : Int32))] [(.ref w_LETTER_DIGIT)])) _
          refine Go.st (fun _ k_ => XS.iload X19.here hx rfl (hb hby at_86) rfl k_) ?_
          show Go p e below (T19.setTop (mkF m 88 #[.val (.int p1), .val (.int p2), .val (.int (2 : Int32)), .val (.ref w_LETTER_DIGIT), .val (.int (1 : Int32)), .val (.int (0 : Int32)), .val (.int (0 : Int32)), .val (.int (0 : Int32))] [(.int (1 : Int32)), (.ref w_LETTER_DIGIT)])) _
          refine Go.st (fun _ k_ => XS.iload X19.here hx rfl (hb hby at_88) rfl k_) ?_
          show Go p e below (T19.setTop (mkF m 90 #[.val (.int p1), .val (.int p2), .val (.int (2 : Int32)), .val (.ref w_LETTER_DIGIT), .val (.int (1 : Int32)), .val (.int (0 : Int32)), .val (.int (0 : Int32)), .val (.int (0 : Int32))] [(.int (0 : Int32)), (.int (1 : Int32)), (.ref w_LETTER_DIGIT)])) _
          refine Go.st (fun _ k_ => XS.iload X19.here hx rfl (hb hby at_90) rfl k_) ?_
          show Go p e below (T19.setTop (mkF m 92 #[.val (.int p1), .val (.int p2), .val (.int (2 : Int32)), .val (.ref w_LETTER_DIGIT), .val (.int (1 : Int32)), .val (.int (0 : Int32)), .val (.int (0 : Int32)), .val (.int (0 : Int32))] [(.int (0 : Int32)), (.int (0 : Int32)), (.int (1 : Int32)), (.ref w_LETTER_DIGIT)])) _
          obtain ⟨cq24, kq24, q24a, q24b, q24c⟩ := isOf hZ e19 E_w_LETTER_DIGIT
          obtain ⟨_, _, ⟨T24, L24, k24_, n24_⟩, -, X24, ⟨Lc24, hQ24, l24_, y24_, z24_⟩, st24⟩ := X19.virtualBack hx (y := (⟨"com/example/patuxent/patuxent/PasswordComplexity", "isMetBy", "(ZZZ)Z"⟩ : MethodName)) (z := (⟨"com/example/patuxent/patuxent/PasswordComplexity", "isMetBy", "(ZZZ)Z"⟩ : MethodName)) hown (mvT hZ (hw _ (List.mem_of_getElem? (i := 7) rfl))) (mvT hZ (hw _ (List.mem_of_getElem? (i := 8) rfl))) (notFace_of_selects (args := #[]) (mvT hZ (hw _ (List.mem_of_getElem? (i := 10) rfl)))) (mvT hZ (hw _ (List.mem_of_getElem? (i := 10) rfl))) (mvT hZ (hw _ (List.mem_of_getElem? (i := 9) rfl))) (by decide) (backOf (W := 0) (rm2_2 l Z a0 hw [] w_LETTER_DIGIT (1 : Int32) (0 : Int32) (0 : Int32) h0 n0 Z0 E_w_LETTER_DIGIT F_LETTER_DIGIT) hZ (hw _ (List.mem_of_getElem? (i := 11) rfl)) (hw _ (List.mem_of_getElem? (i := 5) rfl)) (by decide) (by decide)) q24a q24c (g := (mkF m 92 #[.val (.int p1), .val (.int p2), .val (.int (2 : Int32)), .val (.ref w_LETTER_DIGIT), .val (.int (1 : Int32)), .val (.int (0 : Int32)), .val (.int (0 : Int32)), .val (.int (0 : Int32))] [(.int (0 : Int32)), (.int (0 : Int32)), (.int (1 : Int32)), (.ref w_LETTER_DIGIT)])) rfl (by rw [hml]; rfl) (Steps.refl _) (argsL := [(.int (1 : Int32)), (.int (0 : Int32)), (.int (0 : Int32))]) (rest := []) (lenOf pd_2 rfl) rfl (by show 2 * 0 + _ ≤ _; exact Nat.le_of_eq rfl) (hb hby at_92) (fun _ _ => ⟨rfl, e19, (by decide : 0 + 0 ≤ _), (by decide : 0 + 0 ≤ _)⟩)
          dsimp only [Pt.U, Pt.locs, Pt.cells, Pt.slots] at X24 l24_ y24_ z24_ st24 hQ24
          subst l24_ y24_ z24_
          obtain ⟨rfl, N24q, e24⟩ := hQ24
          have N24 := Fr.app N19 N24q
          refine Go.tr st24 ?_
          show Go p e below (T24.setTop (mkF m 95 #[.val (.int p1), .val (.int p2), .val (.int (2 : Int32)), .val (.ref w_LETTER_DIGIT), .val (.int (1 : Int32)), .val (.int (0 : Int32)), .val (.int (0 : Int32)), .val (.int (0 : Int32))] [(.int (own_met2 (1 : Int32) (0 : Int32)))])) _
          refine Go.st (fun _ k_ => XS.iload X24.here hx rfl (hb hby at_95) rfl k_) ?_
          show Go p e below (T24.setTop (mkF m 97 #[.val (.int p1), .val (.int p2), .val (.int (2 : Int32)), .val (.ref w_LETTER_DIGIT), .val (.int (1 : Int32)), .val (.int (0 : Int32)), .val (.int (0 : Int32)), .val (.int (0 : Int32))] [(.int (0 : Int32)), (.int (own_met2 (1 : Int32) (0 : Int32)))])) _
          have hc97 : (own_met2 (1 : Int32) (0 : Int32)) = (0 : Int32) := by decide
          refine Go.st (fun _ k_ => XS.icmpNo X24.here hx rfl (hb hby at_97) rfl (teq hc97).2 k_) ?_
          show Go p e below (T24.setTop (mkF m 100 #[.val (.int p1), .val (.int p2), .val (.int (2 : Int32)), .val (.ref w_LETTER_DIGIT), .val (.int (1 : Int32)), .val (.int (0 : Int32)), .val (.int (0 : Int32)), .val (.int (0 : Int32))] [])) _
          refine Go.st (fun _ k_ => XS.iconst X24.here hx rfl (hb hby at_100) k_) ?_
          show Go p e below (T24.setTop (mkF m 101 #[.val (.int p1), .val (.int p2), .val (.int (2 : Int32)), .val (.ref w_LETTER_DIGIT), .val (.int (1 : Int32)), .val (.int (0 : Int32)), .val (.int (0 : Int32)), .val (.int (0 : Int32))] [(.int (1 : Int32))])) _
          refine Go.st (fun _ k_ => XS.goto X24.here hx rfl (pc0 := 101) (pc' := 105) rfl (hb hby at_101) (by decide) (by decide) k_) ?_
          show Go p e below (T24.setTop (mkF m 105 #[.val (.int p1), .val (.int p2), .val (.int (2 : Int32)), .val (.ref w_LETTER_DIGIT), .val (.int (1 : Int32)), .val (.int (0 : Int32)), .val (.int (0 : Int32)), .val (.int (0 : Int32))] [(.int (1 : Int32))])) _
          refine Go.fin X24 (v := some (.int (1 : Int32))) (fun h_ => by rw [Bd.returns] at h_; cases h_) Bd.notSynchronized (fun _ hr => retN X24 hx (t := .boolean) Bd.returns (by simp) (hb hby at_105) hr) (fun U' hU hF => ⟨_, _, rfl, ?_, hF.1, hF.2.1, hF.2.2.mono (by decide) (by decide)⟩)
          exact ⟨(congrArg (fun z_ : Int32 => some (Value.int z_)) (show (1 : Int32) = (1 : Int32) from rfl)), N24⟩
        · refine Go.st (fun _ k_ => XS.ifNo X19.here hx rfl (hb hby at_38) rfl ((if0 _ _).trans (feq hc38).1) k_) ?_
          show Go p e below (T19.setTop (mkF m 41 #[.val (.int p1), .val (.int p2), .val (.int (2 : Int32)), .val (.ref w_LETTER_DIGIT), .val (.int (1 : Int32)), .val (.int (0 : Int32)), .unset, .unset] [])) _
          refine Go.st (fun _ k_ => XS.iconst X19.here hx rfl (hb hby at_41) k_) ?_
          show Go p e below (T19.setTop (mkF m 42 #[.val (.int p1), .val (.int p2), .val (.int (2 : Int32)), .val (.ref w_LETTER_DIGIT), .val (.int (1 : Int32)), .val (.int (0 : Int32)), .unset, .unset] [(.int (1 : Int32))])) _
          refine Go.st (fun _ k_ => XS.goto X19.here hx rfl (pc0 := 42) (pc' := 46) rfl (hb hby at_42) (by decide) (by decide) k_) ?_
          show Go p e below (T19.setTop (mkF m 46 #[.val (.int p1), .val (.int p2), .val (.int (2 : Int32)), .val (.ref w_LETTER_DIGIT), .val (.int (1 : Int32)), .val (.int (0 : Int32)), .unset, .unset] [(.int (1 : Int32))])) _
          refine Go.st (fun _ k_ => XS.istore X19.here hx rfl (hb hby at_46) rfl (l' := #[.val (.int p1), .val (.int p2), .val (.int (2 : Int32)), .val (.ref w_LETTER_DIGIT), .val (.int (1 : Int32)), .val (.int (0 : Int32)), .val (.int (1 : Int32)), .unset]) rfl k_) ?_
          show Go p e below (T19.setTop (mkF m 48 #[.val (.int p1), .val (.int p2), .val (.int (2 : Int32)), .val (.ref w_LETTER_DIGIT), .val (.int (1 : Int32)), .val (.int (0 : Int32)), .val (.int (1 : Int32)), .unset] [])) _
          refine Go.st (fun _ k_ => XS.iloadN X19.here hx rfl (hb hby at_48) rfl k_) ?_
          show Go p e below (T19.setTop (mkF m 49 #[.val (.int p1), .val (.int p2), .val (.int (2 : Int32)), .val (.ref w_LETTER_DIGIT), .val (.int (1 : Int32)), .val (.int (0 : Int32)), .val (.int (1 : Int32)), .unset] [(.int (2 : Int32))])) _
          refine Go.st (fun _ k_ => XS.iconst X19.here hx rfl (hb hby at_49) k_) ?_
          show Go p e below (T19.setTop (mkF m 50 #[.val (.int p1), .val (.int p2), .val (.int (2 : Int32)), .val (.ref w_LETTER_DIGIT), .val (.int (1 : Int32)), .val (.int (0 : Int32)), .val (.int (1 : Int32)), .unset] [(.int (1 : Int32)), (.int (2 : Int32))])) _
          refine Go.st (fun _ k_ => XS.icmpNo X19.here hx rfl (hb hby at_50) rfl (flt (by decide : ¬ ((2 : Int32) < (1 : Int32)))).1 k_) ?_
          show Go p e below (T19.setTop (mkF m 53 #[.val (.int p1), .val (.int p2), .val (.int (2 : Int32)), .val (.ref w_LETTER_DIGIT), .val (.int (1 : Int32)), .val (.int (0 : Int32)), .val (.int (1 : Int32)), .unset] [])) _
          refine Go.st (fun _ k_ => XS.iload X19.here hx rfl (hb hby at_53) rfl k_) ?_
          show Go p e below (T19.setTop (mkF m 55 #[.val (.int p1), .val (.int p2), .val (.int (2 : Int32)), .val (.ref w_LETTER_DIGIT), .val (.int (1 : Int32)), .val (.int (0 : Int32)), .val (.int (1 : Int32)), .unset] [(.int (1 : Int32))])) _
          refine Go.st (fun _ k_ => XS.ifNo X19.here hx rfl (hb hby at_55) rfl ((if0 _ _).trans (feq (by decide : ¬ ((1 : Int32) = (0 : Int32)))).1) k_) ?_
          show Go p e below (T19.setTop (mkF m 58 #[.val (.int p1), .val (.int p2), .val (.int (2 : Int32)), .val (.ref w_LETTER_DIGIT), .val (.int (1 : Int32)), .val (.int (0 : Int32)), .val (.int (1 : Int32)), .unset] [])) _
          refine Go.st (fun _ k_ => XS.iloadN X19.here hx rfl (hb hby at_58) rfl k_) ?_
          show Go p e below (T19.setTop (mkF m 59 #[.val (.int p1), .val (.int p2), .val (.int (2 : Int32)), .val (.ref w_LETTER_DIGIT), .val (.int (1 : Int32)), .val (.int (0 : Int32)), .val (.int (1 : Int32)), .unset] [(.int (2 : Int32))])) _
          refine Go.st (fun _ k_ => XS.iconst X19.here hx rfl (hb hby at_59) k_) ?_
          show Go p e below (T19.setTop (mkF m 60 #[.val (.int p1), .val (.int p2), .val (.int (2 : Int32)), .val (.ref w_LETTER_DIGIT), .val (.int (1 : Int32)), .val (.int (0 : Int32)), .val (.int (1 : Int32)), .unset] [(.int (2 : Int32)), (.int (2 : Int32))])) _
          refine Go.st (fun _ k_ => XS.icmpNo X19.here hx rfl (hb hby at_60) rfl (flt (by decide : ¬ ((2 : Int32) < (2 : Int32)))).1 k_) ?_
          show Go p e below (T19.setTop (mkF m 63 #[.val (.int p1), .val (.int p2), .val (.int (2 : Int32)), .val (.ref w_LETTER_DIGIT), .val (.int (1 : Int32)), .val (.int (0 : Int32)), .val (.int (1 : Int32)), .unset] [])) _
          refine Go.st (fun _ k_ => XS.iload X19.here hx rfl (hb hby at_63) rfl k_) ?_
          show Go p e below (T19.setTop (mkF m 65 #[.val (.int p1), .val (.int p2), .val (.int (2 : Int32)), .val (.ref w_LETTER_DIGIT), .val (.int (1 : Int32)), .val (.int (0 : Int32)), .val (.int (1 : Int32)), .unset] [(.int (0 : Int32))])) _
          refine Go.st (fun _ k_ => XS.ifYes X19.here hx rfl (pc0 := 65) (pc' := 82) rfl (hb hby at_65) rfl ((if0 _ _).trans (teq (by decide : (0 : Int32) = (0 : Int32))).1) (by decide) (by decide) k_) ?_
          show Go p e below (T19.setTop (mkF m 82 #[.val (.int p1), .val (.int p2), .val (.int (2 : Int32)), .val (.ref w_LETTER_DIGIT), .val (.int (1 : Int32)), .val (.int (0 : Int32)), .val (.int (1 : Int32)), .unset] [])) _
          refine Go.st (fun _ k_ => XS.iconst X19.here hx rfl (hb hby at_82) k_) ?_
          show Go p e below (T19.setTop (mkF m 83 #[.val (.int p1), .val (.int p2), .val (.int (2 : Int32)), .val (.ref w_LETTER_DIGIT), .val (.int (1 : Int32)), .val (.int (0 : Int32)), .val (.int (1 : Int32)), .unset] [(.int (0 : Int32))])) _
          refine Go.st (fun _ k_ => XS.istore X19.here hx rfl (hb hby at_83) rfl (l' := #[.val (.int p1), .val (.int p2), .val (.int (2 : Int32)), .val (.ref w_LETTER_DIGIT), .val (.int (1 : Int32)), .val (.int (0 : Int32)), .val (.int (1 : Int32)), .val (.int (0 : Int32))]) rfl k_) ?_
          show Go p e below (T19.setTop (mkF m 85 #[.val (.int p1), .val (.int p2), .val (.int (2 : Int32)), .val (.ref w_LETTER_DIGIT), .val (.int (1 : Int32)), .val (.int (0 : Int32)), .val (.int (1 : Int32)), .val (.int (0 : Int32))] [])) _
          refine Go.st (fun _ k_ => XS.aloadN X19.here hx rfl (hb hby at_85) rfl rfl k_) ?_
          show Go p e below (T19.setTop (mkF m 86 #[.val (.int p1), .val (.int p2), .val (.int (2 : Int32)), .val (.ref w_LETTER_DIGIT), .val (.int (1 : Int32)), .val (.int (0 : Int32)), .val (.int (1 : Int32)), .val (.int (0 : Int32))] [(.ref w_LETTER_DIGIT)])) _
          refine Go.st (fun _ k_ => XS.iload X19.here hx rfl (hb hby at_86) rfl k_) ?_
          show Go p e below (T19.setTop (mkF m 88 #[.val (.int p1), .val (.int p2), .val (.int (2 : Int32)), .val (.ref w_LETTER_DIGIT), .val (.int (1 : Int32)), .val (.int (0 : Int32)), .val (.int (1 : Int32)), .val (.int (0 : Int32))] [(.int (1 : Int32)), (.ref w_LETTER_DIGIT)])) _
          refine Go.st (fun _ k_ => XS.iload X19.here hx rfl (hb hby at_88) rfl k_) ?_
          show Go p e below (T19.setTop (mkF m 90 #[.val (.int p1), .val (.int p2), .val (.int (2 : Int32)), .val (.ref w_LETTER_DIGIT), .val (.int (1 : Int32)), .val (.int (0 : Int32)), .val (.int (1 : Int32)), .val (.int (0 : Int32))] [(.int (0 : Int32)), (.int (1 : Int32)), (.ref w_LETTER_DIGIT)])) _
          refine Go.st (fun _ k_ => XS.iload X19.here hx rfl (hb hby at_90) rfl k_) ?_
          show Go p e below (T19.setTop (mkF m 92 #[.val (.int p1), .val (.int p2), .val (.int (2 : Int32)), .val (.ref w_LETTER_DIGIT), .val (.int (1 : Int32)), .val (.int (0 : Int32)), .val (.int (1 : Int32)), .val (.int (0 : Int32))] [(.int (1 : Int32)), (.int (0 : Int32)), (.int (1 : Int32)), (.ref w_LETTER_DIGIT)])) _
          obtain ⟨cq25, kq25, q25a, q25b, q25c⟩ := isOf hZ e19 E_w_LETTER_DIGIT
          obtain ⟨_, _, ⟨T25, L25, k25_, n25_⟩, -, X25, ⟨Lc25, hQ25, l25_, y25_, z25_⟩, st25⟩ := X19.virtualBack hx (y := (⟨"com/example/patuxent/patuxent/PasswordComplexity", "isMetBy", "(ZZZ)Z"⟩ : MethodName)) (z := (⟨"com/example/patuxent/patuxent/PasswordComplexity", "isMetBy", "(ZZZ)Z"⟩ : MethodName)) hown (mvT hZ (hw _ (List.mem_of_getElem? (i := 7) rfl))) (mvT hZ (hw _ (List.mem_of_getElem? (i := 8) rfl))) (notFace_of_selects (args := #[]) (mvT hZ (hw _ (List.mem_of_getElem? (i := 10) rfl)))) (mvT hZ (hw _ (List.mem_of_getElem? (i := 10) rfl))) (mvT hZ (hw _ (List.mem_of_getElem? (i := 9) rfl))) (by decide) (backOf (W := 0) (rm2_2 l Z a0 hw [] w_LETTER_DIGIT (1 : Int32) (0 : Int32) (1 : Int32) h0 n0 Z0 E_w_LETTER_DIGIT F_LETTER_DIGIT) hZ (hw _ (List.mem_of_getElem? (i := 11) rfl)) (hw _ (List.mem_of_getElem? (i := 5) rfl)) (by decide) (by decide)) q25a q25c (g := (mkF m 92 #[.val (.int p1), .val (.int p2), .val (.int (2 : Int32)), .val (.ref w_LETTER_DIGIT), .val (.int (1 : Int32)), .val (.int (0 : Int32)), .val (.int (1 : Int32)), .val (.int (0 : Int32))] [(.int (1 : Int32)), (.int (0 : Int32)), (.int (1 : Int32)), (.ref w_LETTER_DIGIT)])) rfl (by rw [hml]; rfl) (Steps.refl _) (argsL := [(.int (1 : Int32)), (.int (0 : Int32)), (.int (1 : Int32))]) (rest := []) (lenOf pd_2 rfl) rfl (by show 2 * 0 + _ ≤ _; exact Nat.le_of_eq rfl) (hb hby at_92) (fun _ _ => ⟨rfl, e19, (by decide : 0 + 0 ≤ _), (by decide : 0 + 0 ≤ _)⟩)
          dsimp only [Pt.U, Pt.locs, Pt.cells, Pt.slots] at X25 l25_ y25_ z25_ st25 hQ25
          subst l25_ y25_ z25_
          obtain ⟨rfl, N25q, e25⟩ := hQ25
          have N25 := Fr.app N19 N25q
          refine Go.tr st25 ?_
          show Go p e below (T25.setTop (mkF m 95 #[.val (.int p1), .val (.int p2), .val (.int (2 : Int32)), .val (.ref w_LETTER_DIGIT), .val (.int (1 : Int32)), .val (.int (0 : Int32)), .val (.int (1 : Int32)), .val (.int (0 : Int32))] [(.int (own_met2 (1 : Int32) (0 : Int32)))])) _
          refine Go.st (fun _ k_ => XS.iload X25.here hx rfl (hb hby at_95) rfl k_) ?_
          show Go p e below (T25.setTop (mkF m 97 #[.val (.int p1), .val (.int p2), .val (.int (2 : Int32)), .val (.ref w_LETTER_DIGIT), .val (.int (1 : Int32)), .val (.int (0 : Int32)), .val (.int (1 : Int32)), .val (.int (0 : Int32))] [(.int (0 : Int32)), (.int (own_met2 (1 : Int32) (0 : Int32)))])) _
          have hc97 : (own_met2 (1 : Int32) (0 : Int32)) = (0 : Int32) := by decide
          refine Go.st (fun _ k_ => XS.icmpNo X25.here hx rfl (hb hby at_97) rfl (teq hc97).2 k_) ?_
          show Go p e below (T25.setTop (mkF m 100 #[.val (.int p1), .val (.int p2), .val (.int (2 : Int32)), .val (.ref w_LETTER_DIGIT), .val (.int (1 : Int32)), .val (.int (0 : Int32)), .val (.int (1 : Int32)), .val (.int (0 : Int32))] [])) _
          refine Go.st (fun _ k_ => XS.iconst X25.here hx rfl (hb hby at_100) k_) ?_
          show Go p e below (T25.setTop (mkF m 101 #[.val (.int p1), .val (.int p2), .val (.int (2 : Int32)), .val (.ref w_LETTER_DIGIT), .val (.int (1 : Int32)), .val (.int (0 : Int32)), .val (.int (1 : Int32)), .val (.int (0 : Int32))] [(.int (1 : Int32))])) _
          refine Go.st (fun _ k_ => XS.goto X25.here hx rfl (pc0 := 101) (pc' := 105) rfl (hb hby at_101) (by decide) (by decide) k_) ?_
          show Go p e below (T25.setTop (mkF m 105 #[.val (.int p1), .val (.int p2), .val (.int (2 : Int32)), .val (.ref w_LETTER_DIGIT), .val (.int (1 : Int32)), .val (.int (0 : Int32)), .val (.int (1 : Int32)), .val (.int (0 : Int32))] [(.int (1 : Int32))])) _
          refine Go.fin X25 (v := some (.int (1 : Int32))) (fun h_ => by rw [Bd.returns] at h_; cases h_) Bd.notSynchronized (fun _ hr => retN X25 hx (t := .boolean) Bd.returns (by simp) (hb hby at_105) hr) (fun U' hU hF => ⟨_, _, rfl, ?_, hF.1, hF.2.1, hF.2.2.mono (by decide) (by decide)⟩)
          exact ⟨(congrArg (fun z_ : Int32 => some (Value.int z_)) (show (1 : Int32) = (1 : Int32) from rfl)), N25⟩
      · refine Go.st (fun _ k_ => XS.ifNo X19.here hx rfl (hb hby at_25) rfl ((if0 _ _).trans (feq hc25).1) k_) ?_
        show Go p e below (T19.setTop (mkF m 28 #[.val (.int p1), .val (.int p2), .val (.int (2 : Int32)), .val (.ref w_LETTER_DIGIT), .val (.int (1 : Int32)), .unset, .unset, .unset] [])) _
        refine Go.st (fun _ k_ => XS.iconst X19.here hx rfl (hb hby at_28) k_) ?_
        show Go p e below (T19.setTop (mkF m 29 #[.val (.int p1), .val (.int p2), .val (.int (2 : Int32)), .val (.ref w_LETTER_DIGIT), .val (.int (1 : Int32)), .unset, .unset, .unset] [(.int (1 : Int32))])) _
        refine Go.st (fun _ k_ => XS.goto X19.here hx rfl (pc0 := 29) (pc' := 33) rfl (hb hby at_29) (by decide) (by decide) k_) ?_
        show Go p e below (T19.setTop (mkF m 33 #[.val (.int p1), .val (.int p2), .val (.int (2 : Int32)), .val (.ref w_LETTER_DIGIT), .val (.int (1 : Int32)), .unset, .unset, .unset] [(.int (1 : Int32))])) _
        refine Go.st (fun _ k_ => XS.istore X19.here hx rfl (hb hby at_33) rfl (l' := #[.val (.int p1), .val (.int p2), .val (.int (2 : Int32)), .val (.ref w_LETTER_DIGIT), .val (.int (1 : Int32)), .val (.int (1 : Int32)), .unset, .unset]) rfl k_) ?_
        show Go p e below (T19.setTop (mkF m 35 #[.val (.int p1), .val (.int p2), .val (.int (2 : Int32)), .val (.ref w_LETTER_DIGIT), .val (.int (1 : Int32)), .val (.int (1 : Int32)), .unset, .unset] [])) _
        refine Go.st (fun _ k_ => XS.iloadN X19.here hx rfl (hb hby at_35) rfl k_) ?_
        show Go p e below (T19.setTop (mkF m 36 #[.val (.int p1), .val (.int p2), .val (.int (2 : Int32)), .val (.ref w_LETTER_DIGIT), .val (.int (1 : Int32)), .val (.int (1 : Int32)), .unset, .unset] [(.int p2)])) _
        refine Go.st (fun _ k_ => XS.iconst X19.here hx rfl (hb hby at_36) k_) ?_
        show Go p e below (T19.setTop (mkF m 37 #[.val (.int p1), .val (.int p2), .val (.int (2 : Int32)), .val (.ref w_LETTER_DIGIT), .val (.int (1 : Int32)), .val (.int (1 : Int32)), .unset, .unset] [(.int (4 : Int32)), (.int p2)])) _
        refine Go.st (fun _ k_ => XS.iand X19.here hx rfl (hb hby at_37) rfl k_) ?_
        show Go p e below (T19.setTop (mkF m 38 #[.val (.int p1), .val (.int p2), .val (.int (2 : Int32)), .val (.ref w_LETTER_DIGIT), .val (.int (1 : Int32)), .val (.int (1 : Int32)), .unset, .unset] [(.int (p2 &&& (4 : Int32)))])) _
        by_cases hc38 : (p2 &&& (4 : Int32)) = (0 : Int32)
        · refine Go.st (fun _ k_ => XS.ifYes X19.here hx rfl (pc0 := 38) (pc' := 45) rfl (hb hby at_38) rfl ((if0 _ _).trans (teq hc38).1) (by decide) (by decide) k_) ?_
          show Go p e below (T19.setTop (mkF m 45 #[.val (.int p1), .val (.int p2), .val (.int (2 : Int32)), .val (.ref w_LETTER_DIGIT), .val (.int (1 : Int32)), .val (.int (1 : Int32)), .unset, .unset] [])) _
          refine Go.st (fun _ k_ => XS.iconst X19.here hx rfl (hb hby at_45) k_) ?_
          show Go p e below (T19.setTop (mkF m 46 #[.val (.int p1), .val (.int p2), .val (.int (2 : Int32)), .val (.ref w_LETTER_DIGIT), .val (.int (1 : Int32)), .val (.int (1 : Int32)), .unset, .unset] [(.int (0 : Int32))])) _
          refine Go.st (fun _ k_ => XS.istore X19.here hx rfl (hb hby at_46) rfl (l' := #[.val (.int p1), .val (.int p2), .val (.int (2 : Int32)), .val (.ref w_LETTER_DIGIT), .val (.int (1 : Int32)), .val (.int (1 : Int32)), .val (.int (0 : Int32)), .unset]) rfl k_) ?_
          show Go p e below (T19.setTop (mkF m 48 #[.val (.int p1), .val (.int p2), .val (.int (2 : Int32)), .val (.ref w_LETTER_DIGIT), .val (.int (1 : Int32)), .val (.int (1 : Int32)), .val (.int (0 : Int32)), .unset] [])) _
          refine Go.st (fun _ k_ => XS.iloadN X19.here hx rfl (hb hby at_48) rfl k_) ?_
          show Go p e below (T19.setTop (mkF m 49 #[.val (.int p1), .val (.int p2), .val (.int (2 : Int32)), .val (.ref w_LETTER_DIGIT), .val (.int (1 : Int32)), .val (.int (1 : Int32)), .val (.int (0 : Int32)), .unset] [(.int (2 : Int32))])) _
          refine Go.st (fun _ k_ => XS.iconst X19.here hx rfl (hb hby at_49) k_) ?_
          show Go p e below (T19.setTop (mkF m 50 #[.val (.int p1), .val (.int p2), .val (.int (2 : Int32)), .val (.ref w_LETTER_DIGIT), .val (.int (1 : Int32)), .val (.int (1 : Int32)), .val (.int (0 : Int32)), .unset] [(.int (1 : Int32)), (.int (2 : Int32))])) _
          refine Go.st (fun _ k_ => XS.icmpNo X19.here hx rfl (hb hby at_50) rfl (flt (by decide : ¬ ((2 : Int32) < (1 : Int32)))).1 k_) ?_
          show Go p e below (T19.setTop (mkF m 53 #[.val (.int p1), .val (.int p2), .val (.int (2 : Int32)), .val (.ref w_LETTER_DIGIT), .val (.int (1 : Int32)), .val (.int (1 : Int32)), .val (.int (0 : Int32)), .unset] [])) _
          refine Go.st (fun _ k_ => XS.iload X19.here hx rfl (hb hby at_53) rfl k_) ?_
          show Go p e below (T19.setTop (mkF m 55 #[.val (.int p1), .val (.int p2), .val (.int (2 : Int32)), .val (.ref w_LETTER_DIGIT), .val (.int (1 : Int32)), .val (.int (1 : Int32)), .val (.int (0 : Int32)), .unset] [(.int (1 : Int32))])) _
          refine Go.st (fun _ k_ => XS.ifNo X19.here hx rfl (hb hby at_55) rfl ((if0 _ _).trans (feq (by decide : ¬ ((1 : Int32) = (0 : Int32)))).1) k_) ?_
          show Go p e below (T19.setTop (mkF m 58 #[.val (.int p1), .val (.int p2), .val (.int (2 : Int32)), .val (.ref w_LETTER_DIGIT), .val (.int (1 : Int32)), .val (.int (1 : Int32)), .val (.int (0 : Int32)), .unset] [])) _
          refine Go.st (fun _ k_ => XS.iloadN X19.here hx rfl (hb hby at_58) rfl k_) ?_
          show Go p e below (T19.setTop (mkF m 59 #[.val (.int p1), .val (.int p2), .val (.int (2 : Int32)), .val (.ref w_LETTER_DIGIT), .val (.int (1 : Int32)), .val (.int (1 : Int32)), .val (.int (0 : Int32)), .unset] [(.int (2 : Int32))])) _
          refine Go.st (fun _ k_ => XS.iconst X19.here hx rfl (hb hby at_59) k_) ?_
          show Go p e below (T19.setTop (mkF m 60 #[.val (.int p1), .val (.int p2), .val (.int (2 : Int32)), .val (.ref w_LETTER_DIGIT), .val (.int (1 : Int32)), .val (.int (1 : Int32)), .val (.int (0 : Int32)), .unset] [(.int (2 : Int32)), (.int (2 : Int32))])) _
          refine Go.st (fun _ k_ => XS.icmpNo X19.here hx rfl (hb hby at_60) rfl (flt (by decide : ¬ ((2 : Int32) < (2 : Int32)))).1 k_) ?_
          show Go p e below (T19.setTop (mkF m 63 #[.val (.int p1), .val (.int p2), .val (.int (2 : Int32)), .val (.ref w_LETTER_DIGIT), .val (.int (1 : Int32)), .val (.int (1 : Int32)), .val (.int (0 : Int32)), .unset] [])) _
          refine Go.st (fun _ k_ => XS.iload X19.here hx rfl (hb hby at_63) rfl k_) ?_
          show Go p e below (T19.setTop (mkF m 65 #[.val (.int p1), .val (.int p2), .val (.int (2 : Int32)), .val (.ref w_LETTER_DIGIT), .val (.int (1 : Int32)), .val (.int (1 : Int32)), .val (.int (0 : Int32)), .unset] [(.int (1 : Int32))])) _
          refine Go.st (fun _ k_ => XS.ifNo X19.here hx rfl (hb hby at_65) rfl ((if0 _ _).trans (feq (by decide : ¬ ((1 : Int32) = (0 : Int32)))).1) k_) ?_
          show Go p e below (T19.setTop (mkF m 68 #[.val (.int p1), .val (.int p2), .val (.int (2 : Int32)), .val (.ref w_LETTER_DIGIT), .val (.int (1 : Int32)), .val (.int (1 : Int32)), .val (.int (0 : Int32)), .unset] [])) _
          refine Go.st (fun _ k_ => XS.iloadN X19.here hx rfl (hb hby at_68) rfl k_) ?_
          show Go p e below (T19.setTop (mkF m 69 #[.val (.int p1), .val (.int p2), .val (.int (2 : Int32)), .val (.ref w_LETTER_DIGIT), .val (.int (1 : Int32)), .val (.int (1 : Int32)), .val (.int (0 : Int32)), .unset] [(.int (2 : Int32))])) _
          refine Go.st (fun _ k_ => XS.iconst X19.here hx rfl (hb hby at_69) k_) ?_
          show Go p e below (T19.setTop (mkF m 70 #[.val (.int p1), .val (.int p2), .val (.int (2 : Int32)), .val (.ref w_LETTER_DIGIT), .val (.int (1 : Int32)), .val (.int (1 : Int32)), .val (.int (0 : Int32)), .unset] [(.int (3 : Int32)), (.int (2 : Int32))])) _
          refine Go.st (fun _ k_ => XS.icmpYes X19.here hx rfl (pc0 := 70) (pc' := 78) rfl (hb hby at_70) rfl (tlt (by decide : (2 : Int32) < (3 : Int32))).1 (by decide) (by decide) k_) ?_
          show Go p e below (T19.setTop (mkF m 78 #[.val (.int p1), .val (.int p2), .val (.int (2 : Int32)), .val (.ref w_LETTER_DIGIT), .val (.int (1 : Int32)), .val (.int (1 : Int32)), .val (.int (0 : Int32)), .unset] [])) _
          refine Go.st (fun _ k_ => XS.iconst X19.here hx rfl (hb hby at_78) k_) ?_
          show Go p e below (T19.setTop (mkF m 79 #[.val (.int p1), .val (.int p2), .val (.int (2 : Int32)), .val (.ref w_LETTER_DIGIT), .val (.int (1 : Int32)), .val (.int (1 : Int32)), .val (.int (0 : Int32)), .unset] [(.int (1 : Int32))])) _
          refine Go.st (fun _ k_ => XS.goto X19.here hx rfl (pc0 := 79) (pc' := 83) rfl (hb hby at_79) (by decide) (by decide) k_) ?_
          show Go p e below (T19.setTop (mkF m 83 #[.val (.int p1), .val (.int p2), .val (.int (2 : Int32)), .val (.ref w_LETTER_DIGIT), .val (.int (1 : Int32)), .val (.int (1 : Int32)), .val (.int (0 : Int32)), .unset] [(.int (1 : Int32))])) _
          refine Go.st (fun _ k_ => XS.istore X19.here hx rfl (hb hby at_83) rfl (l' := #[.val (.int p1), .val (.int p2), .val (.int (2 : Int32)), .val (.ref w_LETTER_DIGIT), .val (.int (1 : Int32)), .val (.int (1 : Int32)), .val (.int (0 : Int32)), .val (.int (1 : Int32))]) rfl k_) ?_
          show Go p e below (T19.setTop (mkF m 85 #[.val (.int p1), .val (.int p2), .val (.int (2 : Int32)), .val (.ref w_LETTER_DIGIT), .val (.int (1 : Int32)), .val (.int (1 : Int32)), .val (.int (0 : Int32)), .val (.int (1 : Int32))] [])) _
          refine Go.st (fun _ k_ => XS.aloadN X19.here hx rfl (hb hby at_85) rfl rfl k_) ?_
          show Go p e below (T19.setTop (mkF m 86 #[.val (.int p1), .val (.int p2), .val (.int (2 : Int32)), .val (.ref w_LETTER_DIGIT), .val (.int (1 : Int32)), .val (.int (1 : Int32)), .val (.int (0 : Int32)), .val (.int (1 : Int32))] [(.ref w_LETTER_DIGIT)])) _
          refine Go.st (fun _ k_ => XS.iload X19.here hx rfl (hb hby at_86) rfl k_) ?_
          show Go p e below (T19.setTop (mkF m 88 #[.val (.int p1), .val (.int p2), .val (.int (2 : Int32)), .val (.ref w_LETTER_DIGIT), .val (.int (1 : Int32)), .val (.int (1 : Int32)), .val (.int (0 : Int32)), .val (.int (1 : Int32))] [(.int (1 : Int32)), (.ref w_LETTER_DIGIT)])) _
          refine Go.st (fun _ k_ => XS.iload X19.here hx rfl (hb hby at_88) rfl k_) ?_
          show Go p e below (T19.setTop (mkF m 90 #[.val (.int p1), .val (.int p2), .val (.int (2 : Int32)), .val (.ref w_LETTER_DIGIT), .val (.int (1 : Int32)), .val (.int (1 : Int32)), .val (.int (0 : Int32)), .val (.int (1 : Int32))] [(.int (1 : Int32)), (.int (1 : Int32)), (.ref w_LETTER_DIGIT)])) _
          refine Go.st (fun _ k_ => XS.iload X19.here hx rfl (hb hby at_90) rfl k_) ?_
          show Go p e below (T19.setTop (mkF m 92 #[.val (.int p1), .val (.int p2), .val (.int (2 : Int32)), .val (.ref w_LETTER_DIGIT), .val (.int (1 : Int32)), .val (.int (1 : Int32)), .val (.int (0 : Int32)), .val (.int (1 : Int32))] [(.int (0 : Int32)), (.int (1 : Int32)), (.int (1 : Int32)), (.ref w_LETTER_DIGIT)])) _
          obtain ⟨cq26, kq26, q26a, q26b, q26c⟩ := isOf hZ e19 E_w_LETTER_DIGIT
          obtain ⟨_, _, ⟨T26, L26, k26_, n26_⟩, -, X26, ⟨Lc26, hQ26, l26_, y26_, z26_⟩, st26⟩ := X19.virtualBack hx (y := (⟨"com/example/patuxent/patuxent/PasswordComplexity", "isMetBy", "(ZZZ)Z"⟩ : MethodName)) (z := (⟨"com/example/patuxent/patuxent/PasswordComplexity", "isMetBy", "(ZZZ)Z"⟩ : MethodName)) hown (mvT hZ (hw _ (List.mem_of_getElem? (i := 7) rfl))) (mvT hZ (hw _ (List.mem_of_getElem? (i := 8) rfl))) (notFace_of_selects (args := #[]) (mvT hZ (hw _ (List.mem_of_getElem? (i := 10) rfl)))) (mvT hZ (hw _ (List.mem_of_getElem? (i := 10) rfl))) (mvT hZ (hw _ (List.mem_of_getElem? (i := 9) rfl))) (by decide) (backOf (W := 0) (rm2_2 l Z a0 hw [] w_LETTER_DIGIT (1 : Int32) (1 : Int32) (0 : Int32) h0 n0 Z0 E_w_LETTER_DIGIT F_LETTER_DIGIT) hZ (hw _ (List.mem_of_getElem? (i := 11) rfl)) (hw _ (List.mem_of_getElem? (i := 5) rfl)) (by decide) (by decide)) q26a q26c (g := (mkF m 92 #[.val (.int p1), .val (.int p2), .val (.int (2 : Int32)), .val (.ref w_LETTER_DIGIT), .val (.int (1 : Int32)), .val (.int (1 : Int32)), .val (.int (0 : Int32)), .val (.int (1 : Int32))] [(.int (0 : Int32)), (.int (1 : Int32)), (.int (1 : Int32)), (.ref w_LETTER_DIGIT)])) rfl (by rw [hml]; rfl) (Steps.refl _) (argsL := [(.int (1 : Int32)), (.int (1 : Int32)), (.int (0 : Int32))]) (rest := []) (lenOf pd_2 rfl) rfl (by show 2 * 0 + _ ≤ _; exact Nat.le_of_eq rfl) (hb hby at_92) (fun _ _ => ⟨rfl, e19, (by decide : 0 + 0 ≤ _), (by decide : 0 + 0 ≤ _)⟩)
          dsimp only [Pt.U, Pt.locs, Pt.cells, Pt.slots] at X26 l26_ y26_ z26_ st26 hQ26
          subst l26_ y26_ z26_
          obtain ⟨rfl, N26q, e26⟩ := hQ26
          have N26 := Fr.app N19 N26q
          refine Go.tr st26 ?_
          show Go p e below (T26.setTop (mkF m 95 #[.val (.int p1), .val (.int p2), .val (.int (2 : Int32)), .val (.ref w_LETTER_DIGIT), .val (.int (1 : Int32)), .val (.int (1 : Int32)), .val (.int (0 : Int32)), .val (.int (1 : Int32))] [(.int (own_met2 (1 : Int32) (1 : Int32)))])) _
          refine Go.st (fun _ k_ => XS.iload X26.here hx rfl (hb hby at_95) rfl k_) ?_
          show Go p e below (T26.setTop (mkF m 97 #[.val (.int p1), .val (.int p2), .val (.int (2 : Int32)), .val (.ref w_LETTER_DIGIT), .val (.int (1 : Int32)), .val (.int (1 : Int32)), .val (.int (0 : Int32)), .val (.int (1 : Int32))] [(.int (1 : Int32)), (.int (own_met2 (1 : Int32) (1 : Int32)))])) _
          have hc97 : (own_met2 (1 : Int32) (1 : Int32)) = (1 : Int32) := by decide
          refine Go.st (fun _ k_ => XS.icmpNo X26.here hx rfl (hb hby at_97) rfl (teq hc97).2 k_) ?_
          show Go p e below (T26.setTop (mkF m 100 #[.val (.int p1), .val (.int p2), .val (.int (2 : Int32)), .val (.ref w_LETTER_DIGIT), .val (.int (1 : Int32)), .val (.int (1 : Int32)), .val (.int (0 : Int32)), .val (.int (1 : Int32))] [])) _
          refine Go.st (fun _ k_ => XS.iconst X26.here hx rfl (hb hby at_100) k_) ?_
          show Go p e below (T26.setTop (mkF m 101 #[.val (.int p1), .val (.int p2), .val (.int (2 : Int32)), .val (.ref w_LETTER_DIGIT), .val (.int (1 : Int32)), .val (.int (1 : Int32)), .val (.int (0 : Int32)), .val (.int (1 : Int32))] [(.int (1 : Int32))])) _
          refine Go.st (fun _ k_ => XS.goto X26.here hx rfl (pc0 := 101) (pc' := 105) rfl (hb hby at_101) (by decide) (by decide) k_) ?_
          show Go p e below (T26.setTop (mkF m 105 #[.val (.int p1), .val (.int p2), .val (.int (2 : Int32)), .val (.ref w_LETTER_DIGIT), .val (.int (1 : Int32)), .val (.int (1 : Int32)), .val (.int (0 : Int32)), .val (.int (1 : Int32))] [(.int (1 : Int32))])) _
          refine Go.fin X26 (v := some (.int (1 : Int32))) (fun h_ => by rw [Bd.returns] at h_; cases h_) Bd.notSynchronized (fun _ hr => retN X26 hx (t := .boolean) Bd.returns (by simp) (hb hby at_105) hr) (fun U' hU hF => ⟨_, _, rfl, ?_, hF.1, hF.2.1, hF.2.2.mono (by decide) (by decide)⟩)
          exact ⟨(congrArg (fun z_ : Int32 => some (Value.int z_)) (show (1 : Int32) = (1 : Int32) from rfl)), N26⟩
        · refine Go.st (fun _ k_ => XS.ifNo X19.here hx rfl (hb hby at_38) rfl ((if0 _ _).trans (feq hc38).1) k_) ?_
          show Go p e below (T19.setTop (mkF m 41 #[.val (.int p1), .val (.int p2), .val (.int (2 : Int32)), .val (.ref w_LETTER_DIGIT), .val (.int (1 : Int32)), .val (.int (1 : Int32)), .unset, .unset] [])) _
          refine Go.st (fun _ k_ => XS.iconst X19.here hx rfl (hb hby at_41) k_) ?_
          show Go p e below (T19.setTop (mkF m 42 #[.val (.int p1), .val (.int p2), .val (.int (2 : Int32)), .val (.ref w_LETTER_DIGIT), .val (.int (1 : Int32)), .val (.int (1 : Int32)), .unset, .unset] [(.int (1 : Int32))])) _
          refine Go.st (fun _ k_ => XS.goto X19.here hx rfl (pc0 := 42) (pc' := 46) rfl (hb hby at_42) (by decide) (by decide) k_) ?_
          show Go p e below (T19.setTop (mkF m 46 #[.val (.int p1), .val (.int p2), .val (.int (2 : Int32)), .val (.ref w_LETTER_DIGIT), .val (.int (1 : Int32)), .val (.int (1 : Int32)), .unset, .unset] [(.int (1 : Int32))])) _
          refine Go.st (fun _ k_ => XS.istore X19.here hx rfl (hb hby at_46) rfl (l' := #[.val (.int p1), .val (.int p2), .val (.int (2 : Int32)), .val (.ref w_LETTER_DIGIT), .val (.int (1 : Int32)), .val (.int (1 : Int32)), .val (.int (1 : Int32)), .unset]) rfl k_) ?_
          show Go p e below (T19.setTop (mkF m 48 #[.val (.int p1), .val (.int p2), .val (.int (2 : Int32)), .val (.ref w_LETTER_DIGIT), .val (.int (1 : Int32)), .val (.int (1 : Int32)), .val (.int (1 : Int32)), .unset] [])) _
          refine Go.st (fun _ k_ => XS.iloadN X19.here hx rfl (hb hby at_48) rfl k_) ?_
          show Go p e below (T19.setTop (mkF m 49 #[.val (.int p1), .val (.int p2), .val (.int (2 : Int32)), .val (.ref w_LETTER_DIGIT), .val (.int (1 : Int32)), .val (.int (1 : Int32)), .val (.int (1 : Int32)), .unset] [(.int (2 : Int32))])) _
          refine Go.st (fun _ k_ => XS.iconst X19.here hx rfl (hb hby at_49) k_) ?_
          show Go p e below (T19.setTop (mkF m 50 #[.val (.int p1), .val (.int p2), .val (.int (2 : Int32)), .val (.ref w_LETTER_DIGIT), .val (.int (1 : Int32)), .val (.int (1 : Int32)), .val (.int (1 : Int32)), .unset] [(.int (1 : Int32)), (.int (2 : Int32))])) _
          refine Go.st (fun _ k_ => XS.icmpNo X19.here hx rfl (hb hby at_50) rfl (flt (by decide : ¬ ((2 : Int32) < (1 : Int32)))).1 k_) ?_
          show Go p e below (T19.setTop (mkF m 53 #[.val (.int p1), .val (.int p2), .val (.int (2 : Int32)), .val (.ref w_LETTER_DIGIT), .val (.int (1 : Int32)), .val (.int (1 : Int32)), .val (.int (1 : Int32)), .unset] [])) _
          refine Go.st (fun _ k_ => XS.iload X19.here hx rfl (hb hby at_53) rfl k_) ?_
          show Go p e below (T19.setTop (mkF m 55 #[.val (.int p1), .val (.int p2), .val (.int (2 : Int32)), .val (.ref w_LETTER_DIGIT), .val (.int (1 : Int32)), .val (.int (1 : Int32)), .val (.int (1 : Int32)), .unset] [(.int (1 : Int32))])) _
          refine Go.st (fun _ k_ => XS.ifNo X19.here hx rfl (hb hby at_55) rfl ((if0 _ _).trans (feq (by decide : ¬ ((1 : Int32) = (0 : Int32)))).1) k_) ?_
          show Go p e below (T19.setTop (mkF m 58 #[.val (.int p1), .val (.int p2), .val (.int (2 : Int32)), .val (.ref w_LETTER_DIGIT), .val (.int (1 : Int32)), .val (.int (1 : Int32)), .val (.int (1 : Int32)), .unset] [])) _
          refine Go.st (fun _ k_ => XS.iloadN X19.here hx rfl (hb hby at_58) rfl k_) ?_
          show Go p e below (T19.setTop (mkF m 59 #[.val (.int p1), .val (.int p2), .val (.int (2 : Int32)), .val (.ref w_LETTER_DIGIT), .val (.int (1 : Int32)), .val (.int (1 : Int32)), .val (.int (1 : Int32)), .unset] [(.int (2 : Int32))])) _
          refine Go.st (fun _ k_ => XS.iconst X19.here hx rfl (hb hby at_59) k_) ?_
          show Go p e below (T19.setTop (mkF m 60 #[.val (.int p1), .val (.int p2), .val (.int (2 : Int32)), .val (.ref w_LETTER_DIGIT), .val (.int (1 : Int32)), .val (.int (1 : Int32)), .val (.int (1 : Int32)), .unset] [(.int (2 : Int32)), (.int (2 : Int32))])) _
          refine Go.st (fun _ k_ => XS.icmpNo X19.here hx rfl (hb hby at_60) rfl (flt (by decide : ¬ ((2 : Int32) < (2 : Int32)))).1 k_) ?_
          show Go p e below (T19.setTop (mkF m 63 #[.val (.int p1), .val (.int p2), .val (.int (2 : Int32)), .val (.ref w_LETTER_DIGIT), .val (.int (1 : Int32)), .val (.int (1 : Int32)), .val (.int (1 : Int32)), .unset] [])) _
          refine Go.st (fun _ k_ => XS.iload X19.here hx rfl (hb hby at_63) rfl k_) ?_
          show Go p e below (T19.setTop (mkF m 65 #[.val (.int p1), .val (.int p2), .val (.int (2 : Int32)), .val (.ref w_LETTER_DIGIT), .val (.int (1 : Int32)), .val (.int (1 : Int32)), .val (.int (1 : Int32)), .unset] [(.int (1 : Int32))])) _
          refine Go.st (fun _ k_ => XS.ifNo X19.here hx rfl (hb hby at_65) rfl ((if0 _ _).trans (feq (by decide : ¬ ((1 : Int32) = (0 : Int32)))).1) k_) ?_
          show Go p e below (T19.setTop (mkF m 68 #[.val (.int p1), .val (.int p2), .val (.int (2 : Int32)), .val (.ref w_LETTER_DIGIT), .val (.int (1 : Int32)), .val (.int (1 : Int32)), .val (.int (1 : Int32)), .unset] [])) _
          refine Go.st (fun _ k_ => XS.iloadN X19.here hx rfl (hb hby at_68) rfl k_) ?_
          show Go p e below (T19.setTop (mkF m 69 #[.val (.int p1), .val (.int p2), .val (.int (2 : Int32)), .val (.ref w_LETTER_DIGIT), .val (.int (1 : Int32)), .val (.int (1 : Int32)), .val (.int (1 : Int32)), .unset] [(.int (2 : Int32))])) _
          refine Go.st (fun _ k_ => XS.iconst X19.here hx rfl (hb hby at_69) k_) ?_
          show Go p e below (T19.setTop (mkF m 70 #[.val (.int p1), .val (.int p2), .val (.int (2 : Int32)), .val (.ref w_LETTER_DIGIT), .val (.int (1 : Int32)), .val (.int (1 : Int32)), .val (.int (1 : Int32)), .unset] [(.int (3 : Int32)), (.int (2 : Int32))])) _
          refine Go.st (fun _ k_ => XS.icmpYes X19.here hx rfl (pc0 := 70) (pc' := 78) rfl (hb hby at_70) rfl (tlt (by decide : (2 : Int32) < (3 : Int32))).1 (by decide) (by decide) k_) ?_
          show Go p e below (T19.setTop (mkF m 78 #[.val (.int p1), .val (.int p2), .val (.int (2 : Int32)), .val (.ref w_LETTER_DIGIT), .val (.int (1 : Int32)), .val (.int (1 : Int32)), .val (.int (1 : Int32)), .unset] [])) _
          refine Go.st (fun _ k_ => XS.iconst X19.here hx rfl (hb hby at_78) k_) ?_
          show Go p e below (T19.setTop (mkF m 79 #[.val (.int p1), .val (.int p2), .val (.int (2 : Int32)), .val (.ref w_LETTER_DIGIT), .val (.int (1 : Int32)), .val (.int (1 : Int32)), .val (.int (1 : Int32)), .unset] [(.int (1 : Int32))])) _
          refine Go.st (fun _ k_ => XS.goto X19.here hx rfl (pc0 := 79) (pc' := 83) rfl (hb hby at_79) (by decide) (by decide) k_) ?_
          show Go p e below (T19.setTop (mkF m 83 #[.val (.int p1), .val (.int p2), .val (.int (2 : Int32)), .val (.ref w_LETTER_DIGIT), .val (.int (1 : Int32)), .val (.int (1 : Int32)), .val (.int (1 : Int32)), .unset] [(.int (1 : Int32))])) _
          refine Go.st (fun _ k_ => XS.istore X19.here hx rfl (hb hby at_83) rfl (l' := #[.val (.int p1), .val (.int p2), .val (.int (2 : Int32)), .val (.ref w_LETTER_DIGIT), .val (.int (1 : Int32)), .val (.int (1 : Int32)), .val (.int (1 : Int32)), .val (.int (1 : Int32))]) rfl k_) ?_
          show Go p e below (T19.setTop (mkF m 85 #[.val (.int p1), .val (.int p2), .val (.int (2 : Int32)), .val (.ref w_LETTER_DIGIT), .val (.int (1 : Int32)), .val (.int (1 : Int32)), .val (.int (1 : Int32)), .val (.int (1 : Int32))] [])) _
          refine Go.st (fun _ k_ => XS.aloadN X19.here hx rfl (hb hby at_85) rfl rfl k_) ?_
          show Go p e below (T19.setTop (mkF m 86 #[.val (.int p1), .val (.int p2), .val (.int (2 : Int32)), .val (.ref w_LETTER_DIGIT), .val (.int (1 : Int32)), .val (.int (1 : Int32)), .val (.int (1 : Int32)), .val (.int (1 : Int32))] [(.ref w_LETTER_DIGIT)])) _
          refine Go.st (fun _ k_ => XS.iload X19.here hx rfl (hb hby at_86) rfl k_) ?_
          show Go p e below (T19.setTop (mkF m 88 #[.val (.int p1), .val (.int p2), .val (.int (2 : Int32)), .val (.ref w_LETTER_DIGIT), .val (.int (1 : Int32)), .val (.int (1 : Int32)), .val (.int (1 : Int32)), .val (.int (1 : Int32))] [(.int (1 : Int32)), (.ref w_LETTER_DIGIT)])) _
          refine Go.st (fun _ k_ => XS.iload X19.here hx rfl (hb hby at_88) rfl k_) ?_
          show Go p e below (T19.setTop (mkF m 90 #[.val (.int p1), .val (.int p2), .val (.int (2 : Int32)), .val (.ref w_LETTER_DIGIT), .val (.int (1 : Int32)), .val (.int (1 : Int32)), .val (.int (1 : Int32)), .val (.int (1 : Int32))] [(.int (1 : Int32)), (.int (1 : Int32)), (.ref w_LETTER_DIGIT)])) _
          refine Go.st (fun _ k_ => XS.iload X19.here hx rfl (hb hby at_90) rfl k_) ?_
          show Go p e below (T19.setTop (mkF m 92 #[.val (.int p1), .val (.int p2), .val (.int (2 : Int32)), .val (.ref w_LETTER_DIGIT), .val (.int (1 : Int32)), .val (.int (1 : Int32)), .val (.int (1 : Int32)), .val (.int (1 : Int32))] [(.int (1 : Int32)), (.int (1 : Int32)), (.int (1 : Int32)), (.ref w_LETTER_DIGIT)])) _
          obtain ⟨cq27, kq27, q27a, q27b, q27c⟩ := isOf hZ e19 E_w_LETTER_DIGIT
          obtain ⟨_, _, ⟨T27, L27, k27_, n27_⟩, -, X27, ⟨Lc27, hQ27, l27_, y27_, z27_⟩, st27⟩ := X19.virtualBack hx (y := (⟨"com/example/patuxent/patuxent/PasswordComplexity", "isMetBy", "(ZZZ)Z"⟩ : MethodName)) (z := (⟨"com/example/patuxent/patuxent/PasswordComplexity", "isMetBy", "(ZZZ)Z"⟩ : MethodName)) hown (mvT hZ (hw _ (List.mem_of_getElem? (i := 7) rfl))) (mvT hZ (hw _ (List.mem_of_getElem? (i := 8) rfl))) (notFace_of_selects (args := #[]) (mvT hZ (hw _ (List.mem_of_getElem? (i := 10) rfl)))) (mvT hZ (hw _ (List.mem_of_getElem? (i := 10) rfl))) (mvT hZ (hw _ (List.mem_of_getElem? (i := 9) rfl))) (by decide) (backOf (W := 0) (rm2_2 l Z a0 hw [] w_LETTER_DIGIT (1 : Int32) (1 : Int32) (1 : Int32) h0 n0 Z0 E_w_LETTER_DIGIT F_LETTER_DIGIT) hZ (hw _ (List.mem_of_getElem? (i := 11) rfl)) (hw _ (List.mem_of_getElem? (i := 5) rfl)) (by decide) (by decide)) q27a q27c (g := (mkF m 92 #[.val (.int p1), .val (.int p2), .val (.int (2 : Int32)), .val (.ref w_LETTER_DIGIT), .val (.int (1 : Int32)), .val (.int (1 : Int32)), .val (.int (1 : Int32)), .val (.int (1 : Int32))] [(.int (1 : Int32)), (.int (1 : Int32)), (.int (1 : Int32)), (.ref w_LETTER_DIGIT)])) rfl (by rw [hml]; rfl) (Steps.refl _) (argsL := [(.int (1 : Int32)), (.int (1 : Int32)), (.int (1 : Int32))]) (rest := []) (lenOf pd_2 rfl) rfl (by show 2 * 0 + _ ≤ _; exact Nat.le_of_eq rfl) (hb hby at_92) (fun _ _ => ⟨rfl, e19, (by decide : 0 + 0 ≤ _), (by decide : 0 + 0 ≤ _)⟩)
          dsimp only [Pt.U, Pt.locs, Pt.cells, Pt.slots] at X27 l27_ y27_ z27_ st27 hQ27
          subst l27_ y27_ z27_
          obtain ⟨rfl, N27q, e27⟩ := hQ27
          have N27 := Fr.app N19 N27q
          refine Go.tr st27 ?_
          show Go p e below (T27.setTop (mkF m 95 #[.val (.int p1), .val (.int p2), .val (.int (2 : Int32)), .val (.ref w_LETTER_DIGIT), .val (.int (1 : Int32)), .val (.int (1 : Int32)), .val (.int (1 : Int32)), .val (.int (1 : Int32))] [(.int (own_met2 (1 : Int32) (1 : Int32)))])) _
          refine Go.st (fun _ k_ => XS.iload X27.here hx rfl (hb hby at_95) rfl k_) ?_
          show Go p e below (T27.setTop (mkF m 97 #[.val (.int p1), .val (.int p2), .val (.int (2 : Int32)), .val (.ref w_LETTER_DIGIT), .val (.int (1 : Int32)), .val (.int (1 : Int32)), .val (.int (1 : Int32)), .val (.int (1 : Int32))] [(.int (1 : Int32)), (.int (own_met2 (1 : Int32) (1 : Int32)))])) _
          have hc97 : (own_met2 (1 : Int32) (1 : Int32)) = (1 : Int32) := by decide
          refine Go.st (fun _ k_ => XS.icmpNo X27.here hx rfl (hb hby at_97) rfl (teq hc97).2 k_) ?_
          show Go p e below (T27.setTop (mkF m 100 #[.val (.int p1), .val (.int p2), .val (.int (2 : Int32)), .val (.ref w_LETTER_DIGIT), .val (.int (1 : Int32)), .val (.int (1 : Int32)), .val (.int (1 : Int32)), .val (.int (1 : Int32))] [])) _
          refine Go.st (fun _ k_ => XS.iconst X27.here hx rfl (hb hby at_100) k_) ?_
          show Go p e below (T27.setTop (mkF m 101 #[.val (.int p1), .val (.int p2), .val (.int (2 : Int32)), .val (.ref w_LETTER_DIGIT), .val (.int (1 : Int32)), .val (.int (1 : Int32)), .val (.int (1 : Int32)), .val (.int (1 : Int32))] [(.int (1 : Int32))])) _
          refine Go.st (fun _ k_ => XS.goto X27.here hx rfl (pc0 := 101) (pc' := 105) rfl (hb hby at_101) (by decide) (by decide) k_) ?_
          show Go p e below (T27.setTop (mkF m 105 #[.val (.int p1), .val (.int p2), .val (.int (2 : Int32)), .val (.ref w_LETTER_DIGIT), .val (.int (1 : Int32)), .val (.int (1 : Int32)), .val (.int (1 : Int32)), .val (.int (1 : Int32))] [(.int (1 : Int32))])) _
          refine Go.fin X27 (v := some (.int (1 : Int32))) (fun h_ => by rw [Bd.returns] at h_; cases h_) Bd.notSynchronized (fun _ hr => retN X27 hx (t := .boolean) Bd.returns (by simp) (hb hby at_105) hr) (fun U' hU hF => ⟨_, _, rfl, ?_, hF.1, hF.2.1, hF.2.2.mono (by decide) (by decide)⟩)
          exact ⟨(congrArg (fun z_ : Int32 => some (Value.int z_)) (show (1 : Int32) = (1 : Int32) from rfl)), N27⟩
  · rw [hk]
    show Go p e below (s₁.setTop (mkF m 4 #[.val (.int p1), .val (.int p2), .val (.int (3 : Int32)), .unset, .unset, .unset, .unset, .unset] [])) _
    refine Go.st (fun _ k_ => XS.iloadN X0.here hx rfl (hb hby at_4) rfl k_) ?_
    show Go p e below (s₁.setTop (mkF m 5 #[.val (.int p1), .val (.int p2), .val (.int (3 : Int32)), .unset, .unset, .unset, .unset, .unset] [(.int (3 : Int32))])) _
    obtain ⟨_, _, ⟨T28, L28, k28_, n28_⟩, -, X28, ⟨Lc28, hQ28, l28_, y28_, z28_⟩, st28⟩ := Jvm.LawKit.callS X0 hx (y := (⟨"com/example/patuxent/patuxent/PasswordComplexityIsMetByPinLaw", "levelOf", "(I)Lcom/example/patuxent/patuxent/PasswordComplexity;"⟩ : MethodName)) hown (mvT hZ (hw _ (List.mem_of_getElem? (i := 0) rfl))) (mvT hZ (hw _ (List.mem_of_getElem? (i := 1) rfl))) (mvT hZ (hw _ (List.mem_of_getElem? (i := 2) rfl))) (mvT hZ (hw _ (List.mem_of_getElem? (i := 3) rfl))) (by decide) (backOf (W := 0) (rm1_3 l Z a0 hw [] w_LETTER_DIGIT_SPECIAL h0 n0 Z0 S_LETTER_DIGIT_SPECIAL) hZ (hw _ (List.mem_of_getElem? (i := 3) rfl)) (hw _ (List.mem_of_getElem? (i := 2) rfl)) (by decide) (by decide)) (g := (mkF m 5 #[.val (.int p1), .val (.int p2), .val (.int (3 : Int32)), .unset, .unset, .unset, .unset, .unset] [(.int (3 : Int32))])) rfl (by rw [hml]; rfl) (argsL := [(.int (3 : Int32))]) (rest := []) (lenOf pd_1 rfl) rfl (by show 2 * 0 + _ ≤ _; exact Nat.le_of_eq rfl) (hb hby at_5) (fun _ _ => ⟨rfl, e0, (by decide : 0 + 0 ≤ _), (by decide : 0 + 0 ≤ _)⟩)
    dsimp only [Pt.U, Pt.locs, Pt.cells, Pt.slots] at X28 l28_ y28_ z28_ st28 hQ28
    subst l28_ y28_ z28_
    obtain ⟨rfl, N28q, e28⟩ := hQ28
    have N28 := Fr.app N0 N28q
    refine Go.st st28 ?_
    show Go p e below (T28.setTop (mkF m 8 #[.val (.int p1), .val (.int p2), .val (.int (3 : Int32)), .unset, .unset, .unset, .unset, .unset] [(.ref w_LETTER_DIGIT_SPECIAL)])) _
    refine Go.st (fun _ k_ => XS.astoreN X28.here hx rfl (hb hby at_8) rfl rfl (l' := #[.val (.int p1), .val (.int p2), .val (.int (3 : Int32)), .val (.ref w_LETTER_DIGIT_SPECIAL), .unset, .unset, .unset, .unset]) rfl k_) ?_
    show Go p e below (T28.setTop (mkF m 9 #[.val (.int p1), .val (.int p2), .val (.int (3 : Int32)), .val (.ref w_LETTER_DIGIT_SPECIAL), .unset, .unset, .unset, .unset] [])) _
    refine Go.st (fun _ k_ => XS.iloadN X28.here hx rfl (hb hby at_9) rfl k_) ?_
    show Go p e below (T28.setTop (mkF m 10 #[.val (.int p1), .val (.int p2), .val (.int (3 : Int32)), .val (.ref w_LETTER_DIGIT_SPECIAL), .unset, .unset, .unset, .unset] [(.int p2)])) _
    refine Go.st (fun _ k_ => XS.iconst X28.here hx rfl (hb hby at_10) k_) ?_
    show Go p e below (T28.setTop (mkF m 11 #[.val (.int p1), .val (.int p2), .val (.int (3 : Int32)), .val (.ref w_LETTER_DIGIT_SPECIAL), .unset, .unset, .unset, .unset] [(.int (1 : Int32)), (.int p2)])) _
    refine Go.st (fun _ k_ => XS.iand X28.here hx rfl (hb hby at_11) rfl k_) ?_
    show Go p e below (T28.setTop (mkF m 12 #[.val (.int p1), .val (.int p2), .val (.int (3 : Int32)), .val (.ref w_LETTER_DIGIT_SPECIAL), .unset, .unset, .unset, .unset] [(.int (p2 &&& (1 : Int32)))])) _
    by_cases hc12 : (p2 &&& (1 : Int32)) = (0 : Int32)
    · refine Go.st (fun _ k_ => XS.ifYes X28.here hx rfl (pc0 := 12) (pc' := 19) rfl (hb hby at_12) rfl ((if0 _ _).trans (teq hc12).1) (by decide) (by decide) k_) ?_
      show Go p e below (T28.setTop (mkF m 19 #[.val (.int p1), .val (.int p2), .val (.int (3 : Int32)), .val (.ref w_LETTER_DIGIT_SPECIAL), .unset, .unset, .unset, .unset] [])) _
      refine Go.st (fun _ k_ => XS.iconst X28.here hx rfl (hb hby at_19) k_) ?_
      show Go p e below (T28.setTop (mkF m 20 #[.val (.int p1), .val (.int p2), .val (.int (3 : Int32)), .val (.ref w_LETTER_DIGIT_SPECIAL), .unset, .unset, .unset, .unset] [(.int (0 : Int32))])) _
      refine Go.st (fun _ k_ => XS.istore X28.here hx rfl (hb hby at_20) rfl (l' := #[.val (.int p1), .val (.int p2), .val (.int (3 : Int32)), .val (.ref w_LETTER_DIGIT_SPECIAL), .val (.int (0 : Int32)), .unset, .unset, .unset]) rfl k_) ?_
      show Go p e below (T28.setTop (mkF m 22 #[.val (.int p1), .val (.int p2), .val (.int (3 : Int32)), .val (.ref w_LETTER_DIGIT_SPECIAL), .val (.int (0 : Int32)), .unset, .unset, .unset] [])) _
      refine Go.st (fun _ k_ => XS.iloadN X28.here hx rfl (hb hby at_22) rfl k_) ?_
      show Go p e below (T28.setTop (mkF m 23 #[.val (.int p1), .val (.int p2), .val (.int (3 : Int32)), .val (.ref w_LETTER_DIGIT_SPECIAL), .val (.int (0 : Int32)), .unset, .unset, .unset] [(.int p2)])) _
      refine Go.st (fun _ k_ => XS.iconst X28.here hx rfl (hb hby at_23) k_) ?_
      show Go p e below (T28.setTop (mkF m 24 #[.val (.int p1), .val (.int p2), .val (.int (3 : Int32)), .val (.ref w_LETTER_DIGIT_SPECIAL), .val (.int (0 : Int32)), .unset, .unset, .unset] [(.int (2 : Int32)), (.int p2)])) _
      refine Go.st (fun _ k_ => XS.iand X28.here hx rfl (hb hby at_24) rfl k_) ?_
      show Go p e below (T28.setTop (mkF m 25 #[.val (.int p1), .val (.int p2), .val (.int (3 : Int32)), .val (.ref w_LETTER_DIGIT_SPECIAL), .val (.int (0 : Int32)), .unset, .unset, .unset] [(.int (p2 &&& (2 : Int32)))])) _
      by_cases hc25 : (p2 &&& (2 : Int32)) = (0 : Int32)
      · refine Go.st (fun _ k_ => XS.ifYes X28.here hx rfl (pc0 := 25) (pc' := 32) rfl (hb hby at_25) rfl ((if0 _ _).trans (teq hc25).1) (by decide) (by decide) k_) ?_
        show Go p e below (T28.setTop (mkF m 32 #[.val (.int p1), .val (.int p2), .val (.int (3 : Int32)), .val (.ref w_LETTER_DIGIT_SPECIAL), .val (.int (0 : Int32)), .unset, .unset, .unset] [])) _
        refine Go.st (fun _ k_ => XS.iconst X28.here hx rfl (hb hby at_32) k_) ?_
        show Go p e below (T28.setTop (mkF m 33 #[.val (.int p1), .val (.int p2), .val (.int (3 : Int32)), .val (.ref w_LETTER_DIGIT_SPECIAL), .val (.int (0 : Int32)), .unset, .unset, .unset] [(.int (0 : Int32))])) _
        refine Go.st (fun _ k_ => XS.istore X28.here hx rfl (hb hby at_33) rfl (l' := #[.val (.int p1), .val (.int p2), .val (.int (3 : Int32)), .val (.ref w_LETTER_DIGIT_SPECIAL), .val (.int (0 : Int32)), .val (.int (0 : Int32)), .unset, .unset]) rfl k_) ?_
        show Go p e below (T28.setTop (mkF m 35 #[.val (.int p1), .val (.int p2), .val (.int (3 : Int32)), .val (.ref w_LETTER_DIGIT_SPECIAL), .val (.int (0 : Int32)), .val (.int (0 : Int32)), .unset, .unset] [])) _
        refine Go.st (fun _ k_ => XS.iloadN X28.here hx rfl (hb hby at_35) rfl k_) ?_
        show Go p e below (T28.setTop (mkF m 36 #[.val (.int p1), .val (.int p2), .val (.int (3 : Int32)), .val (.ref w_LETTER_DIGIT_SPECIAL), .val (.int (0 : Int32)), .val (.int (0 : Int32)), .unset, .unset] [(.int p2)])) _
        refine Go.st (fun _ k_ => XS.iconst X28.here hx rfl (hb hby at_36) k_) ?_
        show Go p e below (T28.setTop (mkF m 37 #[.val (.int p1), .val (.int p2), .val (.int (3 : Int32)), .val (.ref w_LETTER_DIGIT_SPECIAL), .val (.int (0 : Int32)), .val (.int (0 : Int32)), .unset, .unset] [(.int (4 : Int32)), (.int p2)])) _
        refine Go.st (fun _ k_ => XS.iand X28.here hx rfl (hb hby at_37) rfl k_) ?_
        show Go p e below (T28.setTop (mkF m 38 #[.val (.int p1), .val (.int p2), .val (.int (3 : Int32)), .val (.ref w_LETTER_DIGIT_SPECIAL), .val (.int (0 : Int32)), .val (.int (0 : Int32)), .unset, .unset] [(.int (p2 &&& (4 : Int32)))])) _
        by_cases hc38 : (p2 &&& (4 : Int32)) = (0 : Int32)
        · refine Go.st (fun _ k_ => XS.ifYes X28.here hx rfl (pc0 := 38) (pc' := 45) rfl (hb hby at_38) rfl ((if0 _ _).trans (teq hc38).1) (by decide) (by decide) k_) ?_
          show Go p e below (T28.setTop (mkF m 45 #[.val (.int p1), .val (.int p2), .val (.int (3 : Int32)), .val (.ref w_LETTER_DIGIT_SPECIAL), .val (.int (0 : Int32)), .val (.int (0 : Int32)), .unset, .unset] [])) _
          refine Go.st (fun _ k_ => XS.iconst X28.here hx rfl (hb hby at_45) k_) ?_
          show Go p e below (T28.setTop (mkF m 46 #[.val (.int p1), .val (.int p2), .val (.int (3 : Int32)), .val (.ref w_LETTER_DIGIT_SPECIAL), .val (.int (0 : Int32)), .val (.int (0 : Int32)), .unset, .unset] [(.int (0 : Int32))])) _
          refine Go.st (fun _ k_ => XS.istore X28.here hx rfl (hb hby at_46) rfl (l' := #[.val (.int p1), .val (.int p2), .val (.int (3 : Int32)), .val (.ref w_LETTER_DIGIT_SPECIAL), .val (.int (0 : Int32)), .val (.int (0 : Int32)), .val (.int (0 : Int32)), .unset]) rfl k_) ?_
          show Go p e below (T28.setTop (mkF m 48 #[.val (.int p1), .val (.int p2), .val (.int (3 : Int32)), .val (.ref w_LETTER_DIGIT_SPECIAL), .val (.int (0 : Int32)), .val (.int (0 : Int32)), .val (.int (0 : Int32)), .unset] [])) _
          refine Go.st (fun _ k_ => XS.iloadN X28.here hx rfl (hb hby at_48) rfl k_) ?_
          show Go p e below (T28.setTop (mkF m 49 #[.val (.int p1), .val (.int p2), .val (.int (3 : Int32)), .val (.ref w_LETTER_DIGIT_SPECIAL), .val (.int (0 : Int32)), .val (.int (0 : Int32)), .val (.int (0 : Int32)), .unset] [(.int (3 : Int32))])) _
          refine Go.st (fun _ k_ => XS.iconst X28.here hx rfl (hb hby at_49) k_) ?_
          show Go p e below (T28.setTop (mkF m 50 #[.val (.int p1), .val (.int p2), .val (.int (3 : Int32)), .val (.ref w_LETTER_DIGIT_SPECIAL), .val (.int (0 : Int32)), .val (.int (0 : Int32)), .val (.int (0 : Int32)), .unset] [(.int (1 : Int32)), (.int (3 : Int32))])) _
          refine Go.st (fun _ k_ => XS.icmpNo X28.here hx rfl (hb hby at_50) rfl (flt (by decide : ¬ ((3 : Int32) < (1 : Int32)))).1 k_) ?_
          show Go p e below (T28.setTop (mkF m 53 #[.val (.int p1), .val (.int p2), .val (.int (3 : Int32)), .val (.ref w_LETTER_DIGIT_SPECIAL), .val (.int (0 : Int32)), .val (.int (0 : Int32)), .val (.int (0 : Int32)), .unset] [])) _
          refine Go.st (fun _ k_ => XS.iload X28.here hx rfl (hb hby at_53) rfl k_) ?_
          show Go p e below (T28.setTop (mkF m 55 #[.val (.int p1), .val (.int p2), .val (.int (3 : Int32)), .val (.ref w_LETTER_DIGIT_SPECIAL), .val (.int (0 : Int32)), .val (.int (0 : Int32)), .val (.int (0 : Int32)), .unset] [(.int (0 : Int32))])) _
          refine Go.st (fun _ k_ => XS.ifYes X28.here hx rfl (pc0 := 55) (pc' := 82) rfl (hb hby at_55) rfl ((if0 _ _).trans (teq (by decide : (0 : Int32) = (0 : Int32))).1) (by decide) (by decide) k_) ?_
          show Go p e below (T28.setTop (mkF m 82 #[.val (.int p1), .val (.int p2), .val (.int (3 : Int32)), .val (.ref w_LETTER_DIGIT_SPECIAL), .val (.int (0 : Int32)), .val (.int (0 : Int32)), .val (.int (0 : Int32)), .unset] [])) _
          refine Go.st (fun _ k_ => XS.iconst X28.here hx rfl (hb hby at_82) k_) ?_
          show Go p e below (T28.setTop (mkF m 83 #[.val (.int p1), .val (.int p2), .val (.int (3 : Int32)), .val (.ref w_LETTER_DIGIT_SPECIAL), .val (.int (0 : Int32)), .val (.int (0 : Int32)), .val (.int (0 : Int32)), .unset] [(.int (0 : Int32))])) _
          refine Go.st (fun _ k_ => XS.istore X28.here hx rfl (hb hby at_83) rfl (l' := #[.val (.int p1), .val (.int p2), .val (.int (3 : Int32)), .val (.ref w_LETTER_DIGIT_SPECIAL), .val (.int (0 : Int32)), .val (.int (0 : Int32)), .val (.int (0 : Int32)), .val (.int (0 : Int32))]) rfl k_) ?_
          show Go p e below (T28.setTop (mkF m 85 #[.val (.int p1), .val (.int p2), .val (.int (3 : Int32)), .val (.ref w_LETTER_DIGIT_SPECIAL), .val (.int (0 : Int32)), .val (.int (0 : Int32)), .val (.int (0 : Int32)), .val (.int (0 : Int32))] [])) _
          refine Go.st (fun _ k_ => XS.aloadN X28.here hx rfl (hb hby at_85) rfl rfl k_) ?_
          show Go p e below (T28.setTop (mkF m 86 #[.val (.int p1), .val (.int p2), .val (.int (3 : Int32)), .val (.ref w_LETTER_DIGIT_SPECIAL), .val (.int (0 : Int32)), .val (.int (0 : Int32)), .val (.int (0 : Int32)), .val (.int (0 : Int32))] [(.ref w_LETTER_DIGIT_SPECIAL)])) _
          refine Go.st (fun _ k_ => XS.iload X28.here hx rfl (hb hby at_86) rfl k_) ?_
          show Go p e below (T28.setTop (mkF m 88 #[.val (.int p1), .val (.int p2), .val (.int (3 : Int32)), .val (.ref w_LETTER_DIGIT_SPECIAL), .val (.int (0 : Int32)), .val (.int (0 : Int32)), .val (.int (0 : Int32)), .val (.int (0 : Int32))] [(.int (0 : Int32)), (.ref w_LETTER_DIGIT_SPECIAL)])) _
          refine Go.st (fun _ k_ => XS.iload X28.here hx rfl (hb hby at_88) rfl k_) ?_
          show Go p e below (T28.setTop (mkF m 90 #[.val (.int p1), .val (.int p2), .val (.int (3 : Int32)), .val (.ref w_LETTER_DIGIT_SPECIAL), .val (.int (0 : Int32)), .val (.int (0 : Int32)), .val (.int (0 : Int32)), .val (.int (0 : Int32))] [(.int (0 : Int32)), (.int (0 : Int32)), (.ref w_LETTER_DIGIT_SPECIAL)])) _
          refine Go.st (fun _ k_ => XS.iload X28.here hx rfl (hb hby at_90) rfl k_) ?_
          show Go p e below (T28.setTop (mkF m 92 #[.val (.int p1), .val (.int p2), .val (.int (3 : Int32)), .val (.ref w_LETTER_DIGIT_SPECIAL), .val (.int (0 : Int32)), .val (.int (0 : Int32)), .val (.int (0 : Int32)), .val (.int (0 : Int32))] [(.int (0 : Int32)), (.int (0 : Int32)), (.int (0 : Int32)), (.ref w_LETTER_DIGIT_SPECIAL)])) _
          obtain ⟨cq29, kq29, q29a, q29b, q29c⟩ := isOf hZ e28 E_w_LETTER_DIGIT_SPECIAL
          obtain ⟨_, _, ⟨T29, L29, k29_, n29_⟩, -, X29, ⟨Lc29, hQ29, l29_, y29_, z29_⟩, st29⟩ := X28.virtualBack hx (y := (⟨"com/example/patuxent/patuxent/PasswordComplexity", "isMetBy", "(ZZZ)Z"⟩ : MethodName)) (z := (⟨"com/example/patuxent/patuxent/PasswordComplexity", "isMetBy", "(ZZZ)Z"⟩ : MethodName)) hown (mvT hZ (hw _ (List.mem_of_getElem? (i := 7) rfl))) (mvT hZ (hw _ (List.mem_of_getElem? (i := 8) rfl))) (notFace_of_selects (args := #[]) (mvT hZ (hw _ (List.mem_of_getElem? (i := 10) rfl)))) (mvT hZ (hw _ (List.mem_of_getElem? (i := 10) rfl))) (mvT hZ (hw _ (List.mem_of_getElem? (i := 9) rfl))) (by decide) (backOf (W := 0) (rm2_3 l Z a0 hw [] w_LETTER_DIGIT_SPECIAL (0 : Int32) (0 : Int32) (0 : Int32) h0 n0 Z0 E_w_LETTER_DIGIT_SPECIAL F_LETTER_DIGIT_SPECIAL) hZ (hw _ (List.mem_of_getElem? (i := 11) rfl)) (hw _ (List.mem_of_getElem? (i := 5) rfl)) (by decide) (by decide)) q29a q29c (g := (mkF m 92 #[.val (.int p1), .val (.int p2), .val (.int (3 : Int32)), .val (.ref w_LETTER_DIGIT_SPECIAL), .val (.int (0 : Int32)), .val (.int (0 : Int32)), .val (.int (0 : Int32)), .val (.int (0 : Int32))] [(.int (0 : Int32)), (.int (0 : Int32)), (.int (0 : Int32)), (.ref w_LETTER_DIGIT_SPECIAL)])) rfl (by rw [hml]; rfl) (Steps.refl _) (argsL := [(.int (0 : Int32)), (.int (0 : Int32)), (.int (0 : Int32))]) (rest := []) (lenOf pd_2 rfl) rfl (by show 2 * 0 + _ ≤ _; exact Nat.le_of_eq rfl) (hb hby at_92) (fun _ _ => ⟨rfl, e28, (by decide : 0 + 0 ≤ _), (by decide : 0 + 0 ≤ _)⟩)
          dsimp only [Pt.U, Pt.locs, Pt.cells, Pt.slots] at X29 l29_ y29_ z29_ st29 hQ29
          subst l29_ y29_ z29_
          obtain ⟨rfl, N29q, e29⟩ := hQ29
          have N29 := Fr.app N28 N29q
          refine Go.tr st29 ?_
          show Go p e below (T29.setTop (mkF m 95 #[.val (.int p1), .val (.int p2), .val (.int (3 : Int32)), .val (.ref w_LETTER_DIGIT_SPECIAL), .val (.int (0 : Int32)), .val (.int (0 : Int32)), .val (.int (0 : Int32)), .val (.int (0 : Int32))] [(.int (own_met3 (0 : Int32) (0 : Int32) (0 : Int32)))])) _
          refine Go.st (fun _ k_ => XS.iload X29.here hx rfl (hb hby at_95) rfl k_) ?_
          show Go p e below (T29.setTop (mkF m 97 #[.val (.int p1), .val (.int p2), .val (.int (3 : Int32)), .val (.ref w_LETTER_DIGIT_SPECIAL), .val (.int (0 : Int32)), .val (.int (0 : Int32)), .val (.int (0 : Int32)), .val (.int (0 : Int32))] [(.int (0 : Int32)), (.int (own_met3 (0 : Int32) (0 : Int32) (0 : Int32)))])) _
          have hc97 : (own_met3 (0 : Int32) (0 : Int32) (0 : Int32)) = (0 : Int32) := by decide
          refine Go.st (fun _ k_ => XS.icmpNo X29.here hx rfl (hb hby at_97) rfl (teq hc97).2 k_) ?_
          show Go p e below (T29.setTop (mkF m 100 #[.val (.int p1), .val (.int p2), .val (.int (3 : Int32)), .val (.ref w_LETTER_DIGIT_SPECIAL), .val (.int (0 : Int32)), .val (.int (0 : Int32)), .val (.int (0 : Int32)), .val (.int (0 : Int32))] [])) _
          refine Go.st (fun _ k_ => XS.iconst X29.here hx rfl (hb hby at_100) k_) ?_
          show Go p e below (T29.setTop (mkF m 101 #[.val (.int p1), .val (.int p2), .val (.int (3 : Int32)), .val (.ref w_LETTER_DIGIT_SPECIAL), .val (.int (0 : Int32)), .val (.int (0 : Int32)), .val (.int (0 : Int32)), .val (.int (0 : Int32))] [(.int (1 : Int32))])) _
          refine Go.st (fun _ k_ => XS.goto X29.here hx rfl (pc0 := 101) (pc' := 105) rfl (hb hby at_101) (by decide) (by decide) k_) ?_
          show Go p e below (T29.setTop (mkF m 105 #[.val (.int p1), .val (.int p2), .val (.int (3 : Int32)), .val (.ref w_LETTER_DIGIT_SPECIAL), .val (.int (0 : Int32)), .val (.int (0 : Int32)), .val (.int (0 : Int32)), .val (.int (0 : Int32))] [(.int (1 : Int32))])) _
          refine Go.fin X29 (v := some (.int (1 : Int32))) (fun h_ => by rw [Bd.returns] at h_; cases h_) Bd.notSynchronized (fun _ hr => retN X29 hx (t := .boolean) Bd.returns (by simp) (hb hby at_105) hr) (fun U' hU hF => ⟨_, _, rfl, ?_, hF.1, hF.2.1, hF.2.2.mono (by decide) (by decide)⟩)
          exact ⟨(congrArg (fun z_ : Int32 => some (Value.int z_)) (show (1 : Int32) = (1 : Int32) from rfl)), N29⟩
        · refine Go.st (fun _ k_ => XS.ifNo X28.here hx rfl (hb hby at_38) rfl ((if0 _ _).trans (feq hc38).1) k_) ?_
          show Go p e below (T28.setTop (mkF m 41 #[.val (.int p1), .val (.int p2), .val (.int (3 : Int32)), .val (.ref w_LETTER_DIGIT_SPECIAL), .val (.int (0 : Int32)), .val (.int (0 : Int32)), .unset, .unset] [])) _
          refine Go.st (fun _ k_ => XS.iconst X28.here hx rfl (hb hby at_41) k_) ?_
          show Go p e below (T28.setTop (mkF m 42 #[.val (.int p1), .val (.int p2), .val (.int (3 : Int32)), .val (.ref w_LETTER_DIGIT_SPECIAL), .val (.int (0 : Int32)), .val (.int (0 : Int32)), .unset, .unset] [(.int (1 : Int32))])) _
          refine Go.st (fun _ k_ => XS.goto X28.here hx rfl (pc0 := 42) (pc' := 46) rfl (hb hby at_42) (by decide) (by decide) k_) ?_
          show Go p e below (T28.setTop (mkF m 46 #[.val (.int p1), .val (.int p2), .val (.int (3 : Int32)), .val (.ref w_LETTER_DIGIT_SPECIAL), .val (.int (0 : Int32)), .val (.int (0 : Int32)), .unset, .unset] [(.int (1 : Int32))])) _
          refine Go.st (fun _ k_ => XS.istore X28.here hx rfl (hb hby at_46) rfl (l' := #[.val (.int p1), .val (.int p2), .val (.int (3 : Int32)), .val (.ref w_LETTER_DIGIT_SPECIAL), .val (.int (0 : Int32)), .val (.int (0 : Int32)), .val (.int (1 : Int32)), .unset]) rfl k_) ?_
          show Go p e below (T28.setTop (mkF m 48 #[.val (.int p1), .val (.int p2), .val (.int (3 : Int32)), .val (.ref w_LETTER_DIGIT_SPECIAL), .val (.int (0 : Int32)), .val (.int (0 : Int32)), .val (.int (1 : Int32)), .unset] [])) _
          refine Go.st (fun _ k_ => XS.iloadN X28.here hx rfl (hb hby at_48) rfl k_) ?_
          show Go p e below (T28.setTop (mkF m 49 #[.val (.int p1), .val (.int p2), .val (.int (3 : Int32)), .val (.ref w_LETTER_DIGIT_SPECIAL), .val (.int (0 : Int32)), .val (.int (0 : Int32)), .val (.int (1 : Int32)), .unset] [(.int (3 : Int32))])) _
          refine Go.st (fun _ k_ => XS.iconst X28.here hx rfl (hb hby at_49) k_) ?_
          show Go p e below (T28.setTop (mkF m 50 #[.val (.int p1), .val (.int p2), .val (.int (3 : Int32)), .val (.ref w_LETTER_DIGIT_SPECIAL), .val (.int (0 : Int32)), .val (.int (0 : Int32)), .val (.int (1 : Int32)), .unset] [(.int (1 : Int32)), (.int (3 : Int32))])) _
          refine Go.st (fun _ k_ => XS.icmpNo X28.here hx rfl (hb hby at_50) rfl (flt (by decide : ¬ ((3 : Int32) < (1 : Int32)))).1 k_) ?_
          show Go p e below (T28.setTop (mkF m 53 #[.val (.int p1), .val (.int p2), .val (.int (3 : Int32)), .val (.ref w_LETTER_DIGIT_SPECIAL), .val (.int (0 : Int32)), .val (.int (0 : Int32)), .val (.int (1 : Int32)), .unset] [])) _
          refine Go.st (fun _ k_ => XS.iload X28.here hx rfl (hb hby at_53) rfl k_) ?_
          show Go p e below (T28.setTop (mkF m 55 #[.val (.int p1), .val (.int p2), .val (.int (3 : Int32)), .val (.ref w_LETTER_DIGIT_SPECIAL), .val (.int (0 : Int32)), .val (.int (0 : Int32)), .val (.int (1 : Int32)), .unset] [(.int (0 : Int32))])) _
          refine Go.st (fun _ k_ => XS.ifYes X28.here hx rfl (pc0 := 55) (pc' := 82) rfl (hb hby at_55) rfl ((if0 _ _).trans (teq (by decide : (0 : Int32) = (0 : Int32))).1) (by decide) (by decide) k_) ?_
          show Go p e below (T28.setTop (mkF m 82 #[.val (.int p1), .val (.int p2), .val (.int (3 : Int32)), .val (.ref w_LETTER_DIGIT_SPECIAL), .val (.int (0 : Int32)), .val (.int (0 : Int32)), .val (.int (1 : Int32)), .unset] [])) _
          refine Go.st (fun _ k_ => XS.iconst X28.here hx rfl (hb hby at_82) k_) ?_
          show Go p e below (T28.setTop (mkF m 83 #[.val (.int p1), .val (.int p2), .val (.int (3 : Int32)), .val (.ref w_LETTER_DIGIT_SPECIAL), .val (.int (0 : Int32)), .val (.int (0 : Int32)), .val (.int (1 : Int32)), .unset] [(.int (0 : Int32))])) _
          refine Go.st (fun _ k_ => XS.istore X28.here hx rfl (hb hby at_83) rfl (l' := #[.val (.int p1), .val (.int p2), .val (.int (3 : Int32)), .val (.ref w_LETTER_DIGIT_SPECIAL), .val (.int (0 : Int32)), .val (.int (0 : Int32)), .val (.int (1 : Int32)), .val (.int (0 : Int32))]) rfl k_) ?_
          show Go p e below (T28.setTop (mkF m 85 #[.val (.int p1), .val (.int p2), .val (.int (3 : Int32)), .val (.ref w_LETTER_DIGIT_SPECIAL), .val (.int (0 : Int32)), .val (.int (0 : Int32)), .val (.int (1 : Int32)), .val (.int (0 : Int32))] [])) _
          refine Go.st (fun _ k_ => XS.aloadN X28.here hx rfl (hb hby at_85) rfl rfl k_) ?_
          show Go p e below (T28.setTop (mkF m 86 #[.val (.int p1), .val (.int p2), .val (.int (3 : Int32)), .val (.ref w_LETTER_DIGIT_SPECIAL), .val (.int (0 : Int32)), .val (.int (0 : Int32)), .val (.int (1 : Int32)), .val (.int (0 : Int32))] [(.ref w_LETTER_DIGIT_SPECIAL)])) _
          refine Go.st (fun _ k_ => XS.iload X28.here hx rfl (hb hby at_86) rfl k_) ?_
          show Go p e below (T28.setTop (mkF m 88 #[.val (.int p1), .val (.int p2), .val (.int (3 : Int32)), .val (.ref w_LETTER_DIGIT_SPECIAL), .val (.int (0 : Int32)), .val (.int (0 : Int32)), .val (.int (1 : Int32)), .val (.int (0 : Int32))] [(.int (0 : Int32)), (.ref w_LETTER_DIGIT_SPECIAL)])) _
          refine Go.st (fun _ k_ => XS.iload X28.here hx rfl (hb hby at_88) rfl k_) ?_
          show Go p e below (T28.setTop (mkF m 90 #[.val (.int p1), .val (.int p2), .val (.int (3 : Int32)), .val (.ref w_LETTER_DIGIT_SPECIAL), .val (.int (0 : Int32)), .val (.int (0 : Int32)), .val (.int (1 : Int32)), .val (.int (0 : Int32))] [(.int (0 : Int32)), (.int (0 : Int32)), (.ref w_LETTER_DIGIT_SPECIAL)])) _
          refine Go.st (fun _ k_ => XS.iload X28.here hx rfl (hb hby at_90) rfl k_) ?_
          show Go p e below (T28.setTop (mkF m 92 #[.val (.int p1), .val (.int p2), .val (.int (3 : Int32)), .val (.ref w_LETTER_DIGIT_SPECIAL), .val (.int (0 : Int32)), .val (.int (0 : Int32)), .val (.int (1 : Int32)), .val (.int (0 : Int32))] [(.int (1 : Int32)), (.int (0 : Int32)), (.int (0 : Int32)), (.ref w_LETTER_DIGIT_SPECIAL)])) _
          obtain ⟨cq30, kq30, q30a, q30b, q30c⟩ := isOf hZ e28 E_w_LETTER_DIGIT_SPECIAL
          obtain ⟨_, _, ⟨T30, L30, k30_, n30_⟩, -, X30, ⟨Lc30, hQ30, l30_, y30_, z30_⟩, st30⟩ := X28.virtualBack hx (y := (⟨"com/example/patuxent/patuxent/PasswordComplexity", "isMetBy", "(ZZZ)Z"⟩ : MethodName)) (z := (⟨"com/example/patuxent/patuxent/PasswordComplexity", "isMetBy", "(ZZZ)Z"⟩ : MethodName)) hown (mvT hZ (hw _ (List.mem_of_getElem? (i := 7) rfl))) (mvT hZ (hw _ (List.mem_of_getElem? (i := 8) rfl))) (notFace_of_selects (args := #[]) (mvT hZ (hw _ (List.mem_of_getElem? (i := 10) rfl)))) (mvT hZ (hw _ (List.mem_of_getElem? (i := 10) rfl))) (mvT hZ (hw _ (List.mem_of_getElem? (i := 9) rfl))) (by decide) (backOf (W := 0) (rm2_3 l Z a0 hw [] w_LETTER_DIGIT_SPECIAL (0 : Int32) (0 : Int32) (1 : Int32) h0 n0 Z0 E_w_LETTER_DIGIT_SPECIAL F_LETTER_DIGIT_SPECIAL) hZ (hw _ (List.mem_of_getElem? (i := 11) rfl)) (hw _ (List.mem_of_getElem? (i := 5) rfl)) (by decide) (by decide)) q30a q30c (g := (mkF m 92 #[.val (.int p1), .val (.int p2), .val (.int (3 : Int32)), .val (.ref w_LETTER_DIGIT_SPECIAL), .val (.int (0 : Int32)), .val (.int (0 : Int32)), .val (.int (1 : Int32)), .val (.int (0 : Int32))] [(.int (1 : Int32)), (.int (0 : Int32)), (.int (0 : Int32)), (.ref w_LETTER_DIGIT_SPECIAL)])) rfl (by rw [hml]; rfl) (Steps.refl _) (argsL := [(.int (0 : Int32)), (.int (0 : Int32)), (.int (1 : Int32))]) (rest := []) (lenOf pd_2 rfl) rfl (by show 2 * 0 + _ ≤ _; exact Nat.le_of_eq rfl) (hb hby at_92) (fun _ _ => ⟨rfl, e28, (by decide : 0 + 0 ≤ _), (by decide : 0 + 0 ≤ _)⟩)
          dsimp only [Pt.U, Pt.locs, Pt.cells, Pt.slots] at X30 l30_ y30_ z30_ st30 hQ30
          subst l30_ y30_ z30_
          obtain ⟨rfl, N30q, e30⟩ := hQ30
          have N30 := Fr.app N28 N30q
          refine Go.tr st30 ?_
          show Go p e below (T30.setTop (mkF m 95 #[.val (.int p1), .val (.int p2), .val (.int (3 : Int32)), .val (.ref w_LETTER_DIGIT_SPECIAL), .val (.int (0 : Int32)), .val (.int (0 : Int32)), .val (.int (1 : Int32)), .val (.int (0 : Int32))] [(.int (own_met3 (0 : Int32) (0 : Int32) (1 : Int32)))])) _
          refine Go.st (fun _ k_ => XS.iload X30.here hx rfl (hb hby at_95) rfl k_) ?_
          show Go p e below (T30.setTop (mkF m 97 #[.val (.int p1), .val (.int p2), .val (.int (3 : Int32)), .val (.ref w_LETTER_DIGIT_SPECIAL), .val (.int (0 : Int32)), .val (.int (0 : Int32)), .val (.int (1 : Int32)), .val (.int (0 : Int32))] [(.int (0 : Int32)), (.int (own_met3 (0 : Int32) (0 : Int32) (1 : Int32)))])) _
          have hc97 : (own_met3 (0 : Int32) (0 : Int32) (1 : Int32)) = (0 : Int32) := by decide
          refine Go.st (fun _ k_ => XS.icmpNo X30.here hx rfl (hb hby at_97) rfl (teq hc97).2 k_) ?_
          show Go p e below (T30.setTop (mkF m 100 #[.val (.int p1), .val (.int p2), .val (.int (3 : Int32)), .val (.ref w_LETTER_DIGIT_SPECIAL), .val (.int (0 : Int32)), .val (.int (0 : Int32)), .val (.int (1 : Int32)), .val (.int (0 : Int32))] [])) _
          refine Go.st (fun _ k_ => XS.iconst X30.here hx rfl (hb hby at_100) k_) ?_
          show Go p e below (T30.setTop (mkF m 101 #[.val (.int p1), .val (.int p2), .val (.int (3 : Int32)), .val (.ref w_LETTER_DIGIT_SPECIAL), .val (.int (0 : Int32)), .val (.int (0 : Int32)), .val (.int (1 : Int32)), .val (.int (0 : Int32))] [(.int (1 : Int32))])) _
          refine Go.st (fun _ k_ => XS.goto X30.here hx rfl (pc0 := 101) (pc' := 105) rfl (hb hby at_101) (by decide) (by decide) k_) ?_
          show Go p e below (T30.setTop (mkF m 105 #[.val (.int p1), .val (.int p2), .val (.int (3 : Int32)), .val (.ref w_LETTER_DIGIT_SPECIAL), .val (.int (0 : Int32)), .val (.int (0 : Int32)), .val (.int (1 : Int32)), .val (.int (0 : Int32))] [(.int (1 : Int32))])) _
          refine Go.fin X30 (v := some (.int (1 : Int32))) (fun h_ => by rw [Bd.returns] at h_; cases h_) Bd.notSynchronized (fun _ hr => retN X30 hx (t := .boolean) Bd.returns (by simp) (hb hby at_105) hr) (fun U' hU hF => ⟨_, _, rfl, ?_, hF.1, hF.2.1, hF.2.2.mono (by decide) (by decide)⟩)
          exact ⟨(congrArg (fun z_ : Int32 => some (Value.int z_)) (show (1 : Int32) = (1 : Int32) from rfl)), N30⟩
      · refine Go.st (fun _ k_ => XS.ifNo X28.here hx rfl (hb hby at_25) rfl ((if0 _ _).trans (feq hc25).1) k_) ?_
        show Go p e below (T28.setTop (mkF m 28 #[.val (.int p1), .val (.int p2), .val (.int (3 : Int32)), .val (.ref w_LETTER_DIGIT_SPECIAL), .val (.int (0 : Int32)), .unset, .unset, .unset] [])) _
        refine Go.st (fun _ k_ => XS.iconst X28.here hx rfl (hb hby at_28) k_) ?_
        show Go p e below (T28.setTop (mkF m 29 #[.val (.int p1), .val (.int p2), .val (.int (3 : Int32)), .val (.ref w_LETTER_DIGIT_SPECIAL), .val (.int (0 : Int32)), .unset, .unset, .unset] [(.int (1 : Int32))])) _
        refine Go.st (fun _ k_ => XS.goto X28.here hx rfl (pc0 := 29) (pc' := 33) rfl (hb hby at_29) (by decide) (by decide) k_) ?_
        show Go p e below (T28.setTop (mkF m 33 #[.val (.int p1), .val (.int p2), .val (.int (3 : Int32)), .val (.ref w_LETTER_DIGIT_SPECIAL), .val (.int (0 : Int32)), .unset, .unset, .unset] [(.int (1 : Int32))])) _
        refine Go.st (fun _ k_ => XS.istore X28.here hx rfl (hb hby at_33) rfl (l' := #[.val (.int p1), .val (.int p2), .val (.int (3 : Int32)), .val (.ref w_LETTER_DIGIT_SPECIAL), .val (.int (0 : Int32)), .val (.int (1 : Int32)), .unset, .unset]) rfl k_) ?_
        show Go p e below (T28.setTop (mkF m 35 #[.val (.int p1), .val (.int p2), .val (.int (3 : Int32)), .val (.ref w_LETTER_DIGIT_SPECIAL), .val (.int (0 : Int32)), .val (.int (1 : Int32)), .unset, .unset] [])) _
        refine Go.st (fun _ k_ => XS.iloadN X28.here hx rfl (hb hby at_35) rfl k_) ?_
        show Go p e below (T28.setTop (mkF m 36 #[.val (.int p1), .val (.int p2), .val (.int (3 : Int32)), .val (.ref w_LETTER_DIGIT_SPECIAL), .val (.int (0 : Int32)), .val (.int (1 : Int32)), .unset, .unset] [(.int p2)])) _
        refine Go.st (fun _ k_ => XS.iconst X28.here hx rfl (hb hby at_36) k_) ?_
        show Go p e below (T28.setTop (mkF m 37 #[.val (.int p1), .val (.int p2), .val (.int (3 : Int32)), .val (.ref w_LETTER_DIGIT_SPECIAL), .val (.int (0 : Int32)), .val (.int (1 : Int32)), .unset, .unset] [(.int (4 : Int32)), (.int p2)])) _
        refine Go.st (fun _ k_ => XS.iand X28.here hx rfl (hb hby at_37) rfl k_) ?_
        show Go p e below (T28.setTop (mkF m 38 #[.val (.int p1), .val (.int p2), .val (.int (3 : Int32)), .val (.ref w_LETTER_DIGIT_SPECIAL), .val (.int (0 : Int32)), .val (.int (1 : Int32)), .unset, .unset] [(.int (p2 &&& (4 : Int32)))])) _
        by_cases hc38 : (p2 &&& (4 : Int32)) = (0 : Int32)
        · refine Go.st (fun _ k_ => XS.ifYes X28.here hx rfl (pc0 := 38) (pc' := 45) rfl (hb hby at_38) rfl ((if0 _ _).trans (teq hc38).1) (by decide) (by decide) k_) ?_
          show Go p e below (T28.setTop (mkF m 45 #[.val (.int p1), .val (.int p2), .val (.int (3 : Int32)), .val (.ref w_LETTER_DIGIT_SPECIAL), .val (.int (0 : Int32)), .val (.int (1 : Int32)), .unset, .unset] [])) _
          refine Go.st (fun _ k_ => XS.iconst X28.here hx rfl (hb hby at_45) k_) ?_
          show Go p e below (T28.setTop (mkF m 46 #[.val (.int p1), .val (.int p2), .val (.int (3 : Int32)), .val (.ref w_LETTER_DIGIT_SPECIAL), .val (.int (0 : Int32)), .val (.int (1 : Int32)), .unset, .unset] [(.int (0 : Int32))])) _
          refine Go.st (fun _ k_ => XS.istore X28.here hx rfl (hb hby at_46) rfl (l' := #[.val (.int p1), .val (.int p2), .val (.int (3 : Int32)), .val (.ref w_LETTER_DIGIT_SPECIAL), .val (.int (0 : Int32)), .val (.int (1 : Int32)), .val (.int (0 : Int32)), .unset]) rfl k_) ?_
          show Go p e below (T28.setTop (mkF m 48 #[.val (.int p1), .val (.int p2), .val (.int (3 : Int32)), .val (.ref w_LETTER_DIGIT_SPECIAL), .val (.int (0 : Int32)), .val (.int (1 : Int32)), .val (.int (0 : Int32)), .unset] [])) _
          refine Go.st (fun _ k_ => XS.iloadN X28.here hx rfl (hb hby at_48) rfl k_) ?_
          show Go p e below (T28.setTop (mkF m 49 #[.val (.int p1), .val (.int p2), .val (.int (3 : Int32)), .val (.ref w_LETTER_DIGIT_SPECIAL), .val (.int (0 : Int32)), .val (.int (1 : Int32)), .val (.int (0 : Int32)), .unset] [(.int (3 : Int32))])) _
          refine Go.st (fun _ k_ => XS.iconst X28.here hx rfl (hb hby at_49) k_) ?_
          show Go p e below (T28.setTop (mkF m 50 #[.val (.int p1), .val (.int p2), .val (.int (3 : Int32)), .val (.ref w_LETTER_DIGIT_SPECIAL), .val (.int (0 : Int32)), .val (.int (1 : Int32)), .val (.int (0 : Int32)), .unset] [(.int (1 : Int32)), (.int (3 : Int32))])) _
          refine Go.st (fun _ k_ => XS.icmpNo X28.here hx rfl (hb hby at_50) rfl (flt (by decide : ¬ ((3 : Int32) < (1 : Int32)))).1 k_) ?_
          show Go p e below (T28.setTop (mkF m 53 #[.val (.int p1), .val (.int p2), .val (.int (3 : Int32)), .val (.ref w_LETTER_DIGIT_SPECIAL), .val (.int (0 : Int32)), .val (.int (1 : Int32)), .val (.int (0 : Int32)), .unset] [])) _
          refine Go.st (fun _ k_ => XS.iload X28.here hx rfl (hb hby at_53) rfl k_) ?_
          show Go p e below (T28.setTop (mkF m 55 #[.val (.int p1), .val (.int p2), .val (.int (3 : Int32)), .val (.ref w_LETTER_DIGIT_SPECIAL), .val (.int (0 : Int32)), .val (.int (1 : Int32)), .val (.int (0 : Int32)), .unset] [(.int (0 : Int32))])) _
          refine Go.st (fun _ k_ => XS.ifYes X28.here hx rfl (pc0 := 55) (pc' := 82) rfl (hb hby at_55) rfl ((if0 _ _).trans (teq (by decide : (0 : Int32) = (0 : Int32))).1) (by decide) (by decide) k_) ?_
          show Go p e below (T28.setTop (mkF m 82 #[.val (.int p1), .val (.int p2), .val (.int (3 : Int32)), .val (.ref w_LETTER_DIGIT_SPECIAL), .val (.int (0 : Int32)), .val (.int (1 : Int32)), .val (.int (0 : Int32)), .unset] [])) _
          refine Go.st (fun _ k_ => XS.iconst X28.here hx rfl (hb hby at_82) k_) ?_
          show Go p e below (T28.setTop (mkF m 83 #[.val (.int p1), .val (.int p2), .val (.int (3 : Int32)), .val (.ref w_LETTER_DIGIT_SPECIAL), .val (.int (0 : Int32)), .val (.int (1 : Int32)), .val (.int (0 : Int32)), .unset] [(.int (0 : Int32))])) _
          refine Go.st (fun _ k_ => XS.istore X28.here hx rfl (hb hby at_83) rfl (l' := #[.val (.int p1), .val (.int p2), .val (.int (3 : Int32)), .val (.ref w_LETTER_DIGIT_SPECIAL), .val (.int (0 : Int32)), .val (.int (1 : Int32)), .val (.int (0 : Int32)), .val (.int (0 : Int32))]) rfl k_) ?_
          show Go p e below (T28.setTop (mkF m 85 #[.val (.int p1), .val (.int p2), .val (.int (3 : Int32)), .val (.ref w_LETTER_DIGIT_SPECIAL), .val (.int (0 : Int32)), .val (.int (1 : Int32)), .val (.int (0 : Int32)), .val (.int (0 : Int32))] [])) _
          refine Go.st (fun _ k_ => XS.aloadN X28.here hx rfl (hb hby at_85) rfl rfl k_) ?_
          show Go p e below (T28.setTop (mkF m 86 #[.val (.int p1), .val (.int p2), .val (.int (3 : Int32)), .val (.ref w_LETTER_DIGIT_SPECIAL), .val (.int (0 : Int32)), .val (.int (1 : Int32)), .val (.int (0 : Int32)), .val (.int (0 : Int32))] [(.ref w_LETTER_DIGIT_SPECIAL)])) _
          refine Go.st (fun _ k_ => XS.iload X28.here hx rfl (hb hby at_86) rfl k_) ?_
          show Go p e below (T28.setTop (mkF m 88 #[.val (.int p1), .val (.int p2), .val (.int (3 : Int32)), .val (.ref w_LETTER_DIGIT_SPECIAL), .val (.int (0 : Int32)), .val (.int (1 : Int32)), .val (.int (0 : Int32)), .val (.int (0 : Int32))] [(.int (0 : Int32)), (.ref w_LETTER_DIGIT_SPECIAL)])) _
          refine Go.st (fun _ k_ => XS.iload X28.here hx rfl (hb hby at_88) rfl k_) ?_
          show Go p e below (T28.setTop (mkF m 90 #[.val (.int p1), .val (.int p2), .val (.int (3 : Int32)), .val (.ref w_LETTER_DIGIT_SPECIAL), .val (.int (0 : Int32)), .val (.int (1 : Int32)), .val (.int (0 : Int32)), .val (.int (0 : Int32))] [(.int (1 : Int32)), (.int (0 : Int32)), (.ref w_LETTER_DIGIT_SPECIAL)])) _
          refine Go.st (fun _ k_ => XS.iload X28.here hx rfl (hb hby at_90) rfl k_) ?_
          show Go p e below (T28.setTop (mkF m 92 #[.val (.int p1), .val (.int p2), .val (.int (3 : Int32)), .val (.ref w_LETTER_DIGIT_SPECIAL), .val (.int (0 : Int32)), .val (.int (1 : Int32)), .val (.int (0 : Int32)), .val (.int (0 : Int32))] [(.int (0 : Int32)), (.int (1 : Int32)), (.int (0 : Int32)), (.ref w_LETTER_DIGIT_SPECIAL)])) _
          obtain ⟨cq31, kq31, q31a, q31b, q31c⟩ := isOf hZ e28 E_w_LETTER_DIGIT_SPECIAL
          obtain ⟨_, _, ⟨T31, L31, k31_, n31_⟩, -, X31, ⟨Lc31, hQ31, l31_, y31_, z31_⟩, st31⟩ := X28.virtualBack hx (y := (⟨"com/example/patuxent/patuxent/PasswordComplexity", "isMetBy", "(ZZZ)Z"⟩ : MethodName)) (z := (⟨"com/example/patuxent/patuxent/PasswordComplexity", "isMetBy", "(ZZZ)Z"⟩ : MethodName)) hown (mvT hZ (hw _ (List.mem_of_getElem? (i := 7) rfl))) (mvT hZ (hw _ (List.mem_of_getElem? (i := 8) rfl))) (notFace_of_selects (args := #[]) (mvT hZ (hw _ (List.mem_of_getElem? (i := 10) rfl)))) (mvT hZ (hw _ (List.mem_of_getElem? (i := 10) rfl))) (mvT hZ (hw _ (List.mem_of_getElem? (i := 9) rfl))) (by decide) (backOf (W := 0) (rm2_3 l Z a0 hw [] w_LETTER_DIGIT_SPECIAL (0 : Int32) (1 : Int32) (0 : Int32) h0 n0 Z0 E_w_LETTER_DIGIT_SPECIAL F_LETTER_DIGIT_SPECIAL) hZ (hw _ (List.mem_of_getElem? (i := 11) rfl)) (hw _ (List.mem_of_getElem? (i := 5) rfl)) (by decide) (by decide)) q31a q31c (g := (mkF m 92 #[.val (.int p1), .val (.int p2), .val (.int (3 : Int32)), .val (.ref w_LETTER_DIGIT_SPECIAL), .val (.int (0 : Int32)), .val (.int (1 : Int32)), .val (.int (0 : Int32)), .val (.int (0 : Int32))] [(.int (0 : Int32)), (.int (1 : Int32)), (.int (0 : Int32)), (.ref w_LETTER_DIGIT_SPECIAL)])) rfl (by rw [hml]; rfl) (Steps.refl _) (argsL := [(.int (0 : Int32)), (.int (1 : Int32)), (.int (0 : Int32))]) (rest := []) (lenOf pd_2 rfl) rfl (by show 2 * 0 + _ ≤ _; exact Nat.le_of_eq rfl) (hb hby at_92) (fun _ _ => ⟨rfl, e28, (by decide : 0 + 0 ≤ _), (by decide : 0 + 0 ≤ _)⟩)
          dsimp only [Pt.U, Pt.locs, Pt.cells, Pt.slots] at X31 l31_ y31_ z31_ st31 hQ31
          subst l31_ y31_ z31_
          obtain ⟨rfl, N31q, e31⟩ := hQ31
          have N31 := Fr.app N28 N31q
          refine Go.tr st31 ?_
          show Go p e below (T31.setTop (mkF m 95 #[.val (.int p1), .val (.int p2), .val (.int (3 : Int32)), .val (.ref w_LETTER_DIGIT_SPECIAL), .val (.int (0 : Int32)), .val (.int (1 : Int32)), .val (.int (0 : Int32)), .val (.int (0 : Int32))] [(.int (own_met3 (0 : Int32) (1 : Int32) (0 : Int32)))])) _
          refine Go.st (fun _ k_ => XS.iload X31.here hx rfl (hb hby at_95) rfl k_) ?_
          show Go p e below (T31.setTop (mkF m 97 #[.val (.int p1), .val (.int p2), .val (.int (3 : Int32)), .val (.ref w_LETTER_DIGIT_SPECIAL), .val (.int (0 : Int32)), .val (.int (1 : Int32)), .val (.int (0 : Int32)), .val (.int (0 : Int32))] [(.int (0 : Int32)), (.int (own_met3 (0 : Int32) (1 : Int32) (0 : Int32)))])) _
          have hc97 : (own_met3 (0 : Int32) (1 : Int32) (0 : Int32)) = (0 : Int32) := by decide
          refine Go.st (fun _ k_ => XS.icmpNo X31.here hx rfl (hb hby at_97) rfl (teq hc97).2 k_) ?_
          show Go p e below (T31.setTop (mkF m 100 #[.val (.int p1), .val (.int p2), .val (.int (3 : Int32)), .val (.ref w_LETTER_DIGIT_SPECIAL), .val (.int (0 : Int32)), .val (.int (1 : Int32)), .val (.int (0 : Int32)), .val (.int (0 : Int32))] [])) _
          refine Go.st (fun _ k_ => XS.iconst X31.here hx rfl (hb hby at_100) k_) ?_
          show Go p e below (T31.setTop (mkF m 101 #[.val (.int p1), .val (.int p2), .val (.int (3 : Int32)), .val (.ref w_LETTER_DIGIT_SPECIAL), .val (.int (0 : Int32)), .val (.int (1 : Int32)), .val (.int (0 : Int32)), .val (.int (0 : Int32))] [(.int (1 : Int32))])) _
          refine Go.st (fun _ k_ => XS.goto X31.here hx rfl (pc0 := 101) (pc' := 105) rfl (hb hby at_101) (by decide) (by decide) k_) ?_
          show Go p e below (T31.setTop (mkF m 105 #[.val (.int p1), .val (.int p2), .val (.int (3 : Int32)), .val (.ref w_LETTER_DIGIT_SPECIAL), .val (.int (0 : Int32)), .val (.int (1 : Int32)), .val (.int (0 : Int32)), .val (.int (0 : Int32))] [(.int (1 : Int32))])) _
          refine Go.fin X31 (v := some (.int (1 : Int32))) (fun h_ => by rw [Bd.returns] at h_; cases h_) Bd.notSynchronized (fun _ hr => retN X31 hx (t := .boolean) Bd.returns (by simp) (hb hby at_105) hr) (fun U' hU hF => ⟨_, _, rfl, ?_, hF.1, hF.2.1, hF.2.2.mono (by decide) (by decide)⟩)
          exact ⟨(congrArg (fun z_ : Int32 => some (Value.int z_)) (show (1 : Int32) = (1 : Int32) from rfl)), N31⟩
        · refine Go.st (fun _ k_ => XS.ifNo X28.here hx rfl (hb hby at_38) rfl ((if0 _ _).trans (feq hc38).1) k_) ?_
          show Go p e below (T28.setTop (mkF m 41 #[.val (.int p1), .val (.int p2), .val (.int (3 : Int32)), .val (.ref w_LETTER_DIGIT_SPECIAL), .val (.int (0 : Int32)), .val (.int (1 : Int32)), .unset, .unset] [])) _
          refine Go.st (fun _ k_ => XS.iconst X28.here hx rfl (hb hby at_41) k_) ?_
          show Go p e below (T28.setTop (mkF m 42 #[.val (.int p1), .val (.int p2), .val (.int (3 : Int32)), .val (.ref w_LETTER_DIGIT_SPECIAL), .val (.int (0 : Int32)), .val (.int (1 : Int32)), .unset, .unset] [(.int (1 : Int32))])) _
          refine Go.st (fun _ k_ => XS.goto X28.here hx rfl (pc0 := 42) (pc' := 46) rfl (hb hby at_42) (by decide) (by decide) k_) ?_
          show Go p e below (T28.setTop (mkF m 46 #[.val (.int p1), .val (.int p2), .val (.int (3 : Int32)), .val (.ref w_LETTER_DIGIT_SPECIAL), .val (.int (0 : Int32)), .val (.int (1 : Int32)), .unset, .unset] [(.int (1 : Int32))])) _
          refine Go.st (fun _ k_ => XS.istore X28.here hx rfl (hb hby at_46) rfl (l' := #[.val (.int p1), .val (.int p2), .val (.int (3 : Int32)), .val (.ref w_LETTER_DIGIT_SPECIAL), .val (.int (0 : Int32)), .val (.int (1 : Int32)), .val (.int (1 : Int32)), .unset]) rfl k_) ?_
          show Go p e below (T28.setTop (mkF m 48 #[.val (.int p1), .val (.int p2), .val (.int (3 : Int32)), .val (.ref w_LETTER_DIGIT_SPECIAL), .val (.int (0 : Int32)), .val (.int (1 : Int32)), .val (.int (1 : Int32)), .unset] [])) _
          refine Go.st (fun _ k_ => XS.iloadN X28.here hx rfl (hb hby at_48) rfl k_) ?_
          show Go p e below (T28.setTop (mkF m 49 #[.val (.int p1), .val (.int p2), .val (.int (3 : Int32)), .val (.ref w_LETTER_DIGIT_SPECIAL), .val (.int (0 : Int32)), .val (.int (1 : Int32)), .val (.int (1 : Int32)), .unset] [(.int (3 : Int32))])) _
          refine Go.st (fun _ k_ => XS.iconst X28.here hx rfl (hb hby at_49) k_) ?_
          show Go p e below (T28.setTop (mkF m 50 #[.val (.int p1), .val (.int p2), .val (.int (3 : Int32)), .val (.ref w_LETTER_DIGIT_SPECIAL), .val (.int (0 : Int32)), .val (.int (1 : Int32)), .val (.int (1 : Int32)), .unset] [(.int (1 : Int32)), (.int (3 : Int32))])) _
          refine Go.st (fun _ k_ => XS.icmpNo X28.here hx rfl (hb hby at_50) rfl (flt (by decide : ¬ ((3 : Int32) < (1 : Int32)))).1 k_) ?_
          show Go p e below (T28.setTop (mkF m 53 #[.val (.int p1), .val (.int p2), .val (.int (3 : Int32)), .val (.ref w_LETTER_DIGIT_SPECIAL), .val (.int (0 : Int32)), .val (.int (1 : Int32)), .val (.int (1 : Int32)), .unset] [])) _
          refine Go.st (fun _ k_ => XS.iload X28.here hx rfl (hb hby at_53) rfl k_) ?_
          show Go p e below (T28.setTop (mkF m 55 #[.val (.int p1), .val (.int p2), .val (.int (3 : Int32)), .val (.ref w_LETTER_DIGIT_SPECIAL), .val (.int (0 : Int32)), .val (.int (1 : Int32)), .val (.int (1 : Int32)), .unset] [(.int (0 : Int32))])) _
          refine Go.st (fun _ k_ => XS.ifYes X28.here hx rfl (pc0 := 55) (pc' := 82) rfl (hb hby at_55) rfl ((if0 _ _).trans (teq (by decide : (0 : Int32) = (0 : Int32))).1) (by decide) (by decide) k_) ?_
          show Go p e below (T28.setTop (mkF m 82 #[.val (.int p1), .val (.int p2), .val (.int (3 : Int32)), .val (.ref w_LETTER_DIGIT_SPECIAL), .val (.int (0 : Int32)), .val (.int (1 : Int32)), .val (.int (1 : Int32)), .unset] [])) _
          refine Go.st (fun _ k_ => XS.iconst X28.here hx rfl (hb hby at_82) k_) ?_
          show Go p e below (T28.setTop (mkF m 83 #[.val (.int p1), .val (.int p2), .val (.int (3 : Int32)), .val (.ref w_LETTER_DIGIT_SPECIAL), .val (.int (0 : Int32)), .val (.int (1 : Int32)), .val (.int (1 : Int32)), .unset] [(.int (0 : Int32))])) _
          refine Go.st (fun _ k_ => XS.istore X28.here hx rfl (hb hby at_83) rfl (l' := #[.val (.int p1), .val (.int p2), .val (.int (3 : Int32)), .val (.ref w_LETTER_DIGIT_SPECIAL), .val (.int (0 : Int32)), .val (.int (1 : Int32)), .val (.int (1 : Int32)), .val (.int (0 : Int32))]) rfl k_) ?_
          show Go p e below (T28.setTop (mkF m 85 #[.val (.int p1), .val (.int p2), .val (.int (3 : Int32)), .val (.ref w_LETTER_DIGIT_SPECIAL), .val (.int (0 : Int32)), .val (.int (1 : Int32)), .val (.int (1 : Int32)), .val (.int (0 : Int32))] [])) _
          refine Go.st (fun _ k_ => XS.aloadN X28.here hx rfl (hb hby at_85) rfl rfl k_) ?_
          show Go p e below (T28.setTop (mkF m 86 #[.val (.int p1), .val (.int p2), .val (.int (3 : Int32)), .val (.ref w_LETTER_DIGIT_SPECIAL), .val (.int (0 : Int32)), .val (.int (1 : Int32)), .val (.int (1 : Int32)), .val (.int (0 : Int32))] [(.ref w_LETTER_DIGIT_SPECIAL)])) _
          refine Go.st (fun _ k_ => XS.iload X28.here hx rfl (hb hby at_86) rfl k_) ?_
          show Go p e below (T28.setTop (mkF m 88 #[.val (.int p1), .val (.int p2), .val (.int (3 : Int32)), .val (.ref w_LETTER_DIGIT_SPECIAL), .val (.int (0 : Int32)), .val (.int (1 : Int32)), .val (.int (1 : Int32)), .val (.int (0 : Int32))] [(.int (0 : Int32)), (.ref w_LETTER_DIGIT_SPECIAL)])) _
          refine Go.st (fun _ k_ => XS.iload X28.here hx rfl (hb hby at_88) rfl k_) ?_
          show Go p e below (T28.setTop (mkF m 90 #[.val (.int p1), .val (.int p2), .val (.int (3 : Int32)), .val (.ref w_LETTER_DIGIT_SPECIAL), .val (.int (0 : Int32)), .val (.int (1 : Int32)), .val (.int (1 : Int32)), .val (.int (0 : Int32))] [(.int (1 : Int32)), (.int (0 : Int32)), (.ref w_LETTER_DIGIT_SPECIAL)])) _
          refine Go.st (fun _ k_ => XS.iload X28.here hx rfl (hb hby at_90) rfl k_) ?_
          show Go p e below (T28.setTop (mkF m 92 #[.val (.int p1), .val (.int p2), .val (.int (3 : Int32)), .val (.ref w_LETTER_DIGIT_SPECIAL), .val (.int (0 : Int32)), .val (.int (1 : Int32)), .val (.int (1 : Int32)), .val (.int (0 : Int32))] [(.int (1 : Int32)), (.int (1 : Int32)), (.int (0 : Int32)), (.ref w_LETTER_DIGIT_SPECIAL)])) _
          obtain ⟨cq32, kq32, q32a, q32b, q32c⟩ := isOf hZ e28 E_w_LETTER_DIGIT_SPECIAL
          obtain ⟨_, _, ⟨T32, L32, k32_, n32_⟩, -, X32, ⟨Lc32, hQ32, l32_, y32_, z32_⟩, st32⟩ := X28.virtualBack hx (y := (⟨"com/example/patuxent/patuxent/PasswordComplexity", "isMetBy", "(ZZZ)Z"⟩ : MethodName)) (z := (⟨"com/example/patuxent/patuxent/PasswordComplexity", "isMetBy", "(ZZZ)Z"⟩ : MethodName)) hown (mvT hZ (hw _ (List.mem_of_getElem? (i := 7) rfl))) (mvT hZ (hw _ (List.mem_of_getElem? (i := 8) rfl))) (notFace_of_selects (args := #[]) (mvT hZ (hw _ (List.mem_of_getElem? (i := 10) rfl)))) (mvT hZ (hw _ (List.mem_of_getElem? (i := 10) rfl))) (mvT hZ (hw _ (List.mem_of_getElem? (i := 9) rfl))) (by decide) (backOf (W := 0) (rm2_3 l Z a0 hw [] w_LETTER_DIGIT_SPECIAL (0 : Int32) (1 : Int32) (1 : Int32) h0 n0 Z0 E_w_LETTER_DIGIT_SPECIAL F_LETTER_DIGIT_SPECIAL) hZ (hw _ (List.mem_of_getElem? (i := 11) rfl)) (hw _ (List.mem_of_getElem? (i := 5) rfl)) (by decide) (by decide)) q32a q32c (g := (mkF m 92 #[.val (.int p1), .val (.int p2), .val (.int (3 : Int32)), .val (.ref w_LETTER_DIGIT_SPECIAL), .val (.int (0 : Int32)), .val (.int (1 : Int32)), .val (.int (1 : Int32)), .val (.int (0 : Int32))] [(.int (1 : Int32)), (.int (1 : Int32)), (.int (0 : Int32)), (.ref w_LETTER_DIGIT_SPECIAL)])) rfl (by rw [hml]; rfl) (Steps.refl _) (argsL := [(.int (0 : Int32)), (.int (1 : Int32)), (.int (1 : Int32))]) (rest := []) (lenOf pd_2 rfl) rfl (by show 2 * 0 + _ ≤ _; exact Nat.le_of_eq rfl) (hb hby at_92) (fun _ _ => ⟨rfl, e28, (by decide : 0 + 0 ≤ _), (by decide : 0 + 0 ≤ _)⟩)
          dsimp only [Pt.U, Pt.locs, Pt.cells, Pt.slots] at X32 l32_ y32_ z32_ st32 hQ32
          subst l32_ y32_ z32_
          obtain ⟨rfl, N32q, e32⟩ := hQ32
          have N32 := Fr.app N28 N32q
          refine Go.tr st32 ?_
          show Go p e below (T32.setTop (mkF m 95 #[.val (.int p1), .val (.int p2), .val (.int (3 : Int32)), .val (.ref w_LETTER_DIGIT_SPECIAL), .val (.int (0 : Int32)), .val (.int (1 : Int32)), .val (.int (1 : Int32)), .val (.int (0 : Int32))] [(.int (own_met3 (0 : Int32) (1 : Int32) (1 : Int32)))])) _
          refine Go.st (fun _ k_ => XS.iload X32.here hx rfl (hb hby at_95) rfl k_) ?_
          show Go p e below (T32.setTop (mkF m 97 #[.val (.int p1), .val (.int p2), .val (.int (3 : Int32)), .val (.ref w_LETTER_DIGIT_SPECIAL), .val (.int (0 : Int32)), .val (.int (1 : Int32)), .val (.int (1 : Int32)), .val (.int (0 : Int32))] [(.int (0 : Int32)), (.int (own_met3 (0 : Int32) (1 : Int32) (1 : Int32)))])) _
          have hc97 : (own_met3 (0 : Int32) (1 : Int32) (1 : Int32)) = (0 : Int32) := by decide
          refine Go.st (fun _ k_ => XS.icmpNo X32.here hx rfl (hb hby at_97) rfl (teq hc97).2 k_) ?_
          show Go p e below (T32.setTop (mkF m 100 #[.val (.int p1), .val (.int p2), .val (.int (3 : Int32)), .val (.ref w_LETTER_DIGIT_SPECIAL), .val (.int (0 : Int32)), .val (.int (1 : Int32)), .val (.int (1 : Int32)), .val (.int (0 : Int32))] [])) _
          refine Go.st (fun _ k_ => XS.iconst X32.here hx rfl (hb hby at_100) k_) ?_
          show Go p e below (T32.setTop (mkF m 101 #[.val (.int p1), .val (.int p2), .val (.int (3 : Int32)), .val (.ref w_LETTER_DIGIT_SPECIAL), .val (.int (0 : Int32)), .val (.int (1 : Int32)), .val (.int (1 : Int32)), .val (.int (0 : Int32))] [(.int (1 : Int32))])) _
          refine Go.st (fun _ k_ => XS.goto X32.here hx rfl (pc0 := 101) (pc' := 105) rfl (hb hby at_101) (by decide) (by decide) k_) ?_
          show Go p e below (T32.setTop (mkF m 105 #[.val (.int p1), .val (.int p2), .val (.int (3 : Int32)), .val (.ref w_LETTER_DIGIT_SPECIAL), .val (.int (0 : Int32)), .val (.int (1 : Int32)), .val (.int (1 : Int32)), .val (.int (0 : Int32))] [(.int (1 : Int32))])) _
          refine Go.fin X32 (v := some (.int (1 : Int32))) (fun h_ => by rw [Bd.returns] at h_; cases h_) Bd.notSynchronized (fun _ hr => retN X32 hx (t := .boolean) Bd.returns (by simp) (hb hby at_105) hr) (fun U' hU hF => ⟨_, _, rfl, ?_, hF.1, hF.2.1, hF.2.2.mono (by decide) (by decide)⟩)
          exact ⟨(congrArg (fun z_ : Int32 => some (Value.int z_)) (show (1 : Int32) = (1 : Int32) from rfl)), N32⟩
    · refine Go.st (fun _ k_ => XS.ifNo X28.here hx rfl (hb hby at_12) rfl ((if0 _ _).trans (feq hc12).1) k_) ?_
      show Go p e below (T28.setTop (mkF m 15 #[.val (.int p1), .val (.int p2), .val (.int (3 : Int32)), .val (.ref w_LETTER_DIGIT_SPECIAL), .unset, .unset, .unset, .unset] [])) _
      refine Go.st (fun _ k_ => XS.iconst X28.here hx rfl (hb hby at_15) k_) ?_
      show Go p e below (T28.setTop (mkF m 16 #[.val (.int p1), .val (.int p2), .val (.int (3 : Int32)), .val (.ref w_LETTER_DIGIT_SPECIAL), .unset, .unset, .unset, .unset] [(.int (1 : Int32))])) _
      refine Go.st (fun _ k_ => XS.goto X28.here hx rfl (pc0 := 16) (pc' := 20) rfl (hb hby at_16) (by decide) (by decide) k_) ?_
      show Go p e below (T28.setTop (mkF m 20 #[.val (.int p1), .val (.int p2), .val (.int (3 : Int32)), .val (.ref w_LETTER_DIGIT_SPECIAL), .unset, .unset, .unset, .unset] [(.int (1 : Int32))])) _
      refine Go.st (fun _ k_ => XS.istore X28.here hx rfl (hb hby at_20) rfl (l' := #[.val (.int p1), .val (.int p2), .val (.int (3 : Int32)), .val (.ref w_LETTER_DIGIT_SPECIAL), .val (.int (1 : Int32)), .unset, .unset, .unset]) rfl k_) ?_
      show Go p e below (T28.setTop (mkF m 22 #[.val (.int p1), .val (.int p2), .val (.int (3 : Int32)), .val (.ref w_LETTER_DIGIT_SPECIAL), .val (.int (1 : Int32)), .unset, .unset, .unset] [])) _
      refine Go.st (fun _ k_ => XS.iloadN X28.here hx rfl (hb hby at_22) rfl k_) ?_
      show Go p e below (T28.setTop (mkF m 23 #[.val (.int p1), .val (.int p2), .val (.int (3 : Int32)), .val (.ref w_LETTER_DIGIT_SPECIAL), .val (.int (1 : Int32)), .unset, .unset, .unset] [(.int p2)])) _
      refine Go.st (fun _ k_ => XS.iconst X28.here hx rfl (hb hby at_23) k_) ?_
      show Go p e below (T28.setTop (mkF m 24 #[.val (.int p1), .val (.int p2), .val (.int (3 : Int32)), .val (.ref w_LETTER_DIGIT_SPECIAL), .val (.int (1 : Int32)), .unset, .unset, .unset] [(.int (2 : Int32)), (.int p2)])) _
      refine Go.st (fun _ k_ => XS.iand X28.here hx rfl (hb hby at_24) rfl k_) ?_
      show Go p e below (T28.setTop (mkF m 25 #[.val (.int p1), .val (.int p2), .val (.int (3 : Int32)), .val (.ref w_LETTER_DIGIT_SPECIAL), .val (.int (1 : Int32)), .unset, .unset, .unset] [(.int (p2 &&& (2 : Int32)))])) _
      by_cases hc25 : (p2 &&& (2 : Int32)) = (0 : Int32)
      · refine Go.st (fun _ k_ => XS.ifYes X28.here hx rfl (pc0 := 25) (pc' := 32) rfl (hb hby at_25) rfl ((if0 _ _).trans (teq hc25).1) (by decide) (by decide) k_) ?_
        show Go p e below (T28.setTop (mkF m 32 #[.val (.int p1), .val (.int p2), .val (.int (3 : Int32)), .val (.ref w_LETTER_DIGIT_SPECIAL), .val (.int (1 : Int32)), .unset, .unset, .unset] [])) _
        refine Go.st (fun _ k_ => XS.iconst X28.here hx rfl (hb hby at_32) k_) ?_
        show Go p e below (T28.setTop (mkF m 33 #[.val (.int p1), .val (.int p2), .val (.int (3 : Int32)), .val (.ref w_LETTER_DIGIT_SPECIAL), .val (.int (1 : Int32)), .unset, .unset, .unset] [(.int (0 : Int32))])) _
        refine Go.st (fun _ k_ => XS.istore X28.here hx rfl (hb hby at_33) rfl (l' := #[.val (.int p1), .val (.int p2), .val (.int (3 : Int32)), .val (.ref w_LETTER_DIGIT_SPECIAL), .val (.int (1 : Int32)), .val (.int (0 : Int32)), .unset, .unset]) rfl k_) ?_
        show Go p e below (T28.setTop (mkF m 35 #[.val (.int p1), .val (.int p2), .val (.int (3 : Int32)), .val (.ref w_LETTER_DIGIT_SPECIAL), .val (.int (1 : Int32)), .val (.int (0 : Int32)), .unset, .unset] [])) _
        refine Go.st (fun _ k_ => XS.iloadN X28.here hx rfl (hb hby at_35) rfl k_) ?_
        show Go p e below (T28.setTop (mkF m 36 #[.val (.int p1), .val (.int p2), .val (.int (3 : Int32)), .val (.ref w_LETTER_DIGIT_SPECIAL), .val (.int (1 : Int32)), .val (.int (0 : Int32)), .unset, .unset] [(.int p2)])) _
        refine Go.st (fun _ k_ => XS.iconst X28.here hx rfl (hb hby at_36) k_) ?_
        show Go p e below (T28.setTop (mkF m 37 #[.val (.int p1), .val (.int p2), .val (.int (3 : Int32)), .val (.ref w_LETTER_DIGIT_SPECIAL), .val (.int (1 : Int32)), .val (.int (0 : Int32)), .unset, .unset] [(.int (4 : Int32)), (.int p2)])) _
        refine Go.st (fun _ k_ => XS.iand X28.here hx rfl (hb hby at_37) rfl k_) ?_
        show Go p e below (T28.setTop (mkF m 38 #[.val (.int p1), .val (.int p2), .val (.int (3 : Int32)), .val (.ref w_LETTER_DIGIT_SPECIAL), .val (.int (1 : Int32)), .val (.int (0 : Int32)), .unset, .unset] [(.int (p2 &&& (4 : Int32)))])) _
        by_cases hc38 : (p2 &&& (4 : Int32)) = (0 : Int32)
        · refine Go.st (fun _ k_ => XS.ifYes X28.here hx rfl (pc0 := 38) (pc' := 45) rfl (hb hby at_38) rfl ((if0 _ _).trans (teq hc38).1) (by decide) (by decide) k_) ?_
          show Go p e below (T28.setTop (mkF m 45 #[.val (.int p1), .val (.int p2), .val (.int (3 : Int32)), .val (.ref w_LETTER_DIGIT_SPECIAL), .val (.int (1 : Int32)), .val (.int (0 : Int32)), .unset, .unset] [])) _
          refine Go.st (fun _ k_ => XS.iconst X28.here hx rfl (hb hby at_45) k_) ?_
          show Go p e below (T28.setTop (mkF m 46 #[.val (.int p1), .val (.int p2), .val (.int (3 : Int32)), .val (.ref w_LETTER_DIGIT_SPECIAL), .val (.int (1 : Int32)), .val (.int (0 : Int32)), .unset, .unset] [(.int (0 : Int32))])) _
          refine Go.st (fun _ k_ => XS.istore X28.here hx rfl (hb hby at_46) rfl (l' := #[.val (.int p1), .val (.int p2), .val (.int (3 : Int32)), .val (.ref w_LETTER_DIGIT_SPECIAL), .val (.int (1 : Int32)), .val (.int (0 : Int32)), .val (.int (0 : Int32)), .unset]) rfl k_) ?_
          show Go p e below (T28.setTop (mkF m 48 #[.val (.int p1), .val (.int p2), .val (.int (3 : Int32)), .val (.ref w_LETTER_DIGIT_SPECIAL), .val (.int (1 : Int32)), .val (.int (0 : Int32)), .val (.int (0 : Int32)), .unset] [])) _
          refine Go.st (fun _ k_ => XS.iloadN X28.here hx rfl (hb hby at_48) rfl k_) ?_
          show Go p e below (T28.setTop (mkF m 49 #[.val (.int p1), .val (.int p2), .val (.int (3 : Int32)), .val (.ref w_LETTER_DIGIT_SPECIAL), .val (.int (1 : Int32)), .val (.int (0 : Int32)), .val (.int (0 : Int32)), .unset] [(.int (3 : Int32))])) _
          refine Go.st (fun _ k_ => XS.iconst X28.here hx rfl (hb hby at_49) k_) ?_
          show Go p e below (T28.setTop (mkF m 50 #[.val (.int p1), .val (.int p2), .val (.int (3 : Int32)), .val (.ref w_LETTER_DIGIT_SPECIAL), .val (.int (1 : Int32)), .val (.int (0 : Int32)), .val (.int (0 : Int32)), .unset] [(.int (1 : Int32)), (.int (3 : Int32))])) _
          refine Go.st (fun _ k_ => XS.icmpNo X28.here hx rfl (hb hby at_50) rfl (flt (by decide : ¬ ((3 : Int32) < (1 : Int32)))).1 k_) ?_
          show Go p e below (T28.setTop (mkF m 53 #[.val (.int p1), .val (.int p2), .val (.int (3 : Int32)), .val (.ref w_LETTER_DIGIT_SPECIAL), .val (.int (1 : Int32)), .val (.int (0 : Int32)), .val (.int (0 : Int32)), .unset] [])) _
          refine Go.st (fun _ k_ => XS.iload X28.here hx rfl (hb hby at_53) rfl k_) ?_
          show Go p e below (T28.setTop (mkF m 55 #[.val (.int p1), .val (.int p2), .val (.int (3 : Int32)), .val (.ref w_LETTER_DIGIT_SPECIAL), .val (.int (1 : Int32)), .val (.int (0 : Int32)), .val (.int (0 : Int32)), .unset] [(.int (1 : Int32))])) _
          refine Go.st (fun _ k_ => XS.ifNo X28.here hx rfl (hb hby at_55) rfl ((if0 _ _).trans (feq (by decide : ¬ ((1 : Int32) = (0 : Int32)))).1) k_) ?_
          show Go p e below (T28.setTop (mkF m 58 #[.val (.int p1), .val (.int p2), .val (.int (3 : Int32)), .val (.ref w_LETTER_DIGIT_SPECIAL), .val (.int (1 : Int32)), .val (.int (0 : Int32)), .val (.int (0 : Int32)), .unset] [])) _
          refine Go.st (fun _ k_ => XS.iloadN X28.here hx rfl (hb hby at_58) rfl k_) ?_
          show Go p e below (T28.setTop (mkF m 59 #[.val (.int p1), .val (.int p2), .val (.int (3 : Int32)), .val (.ref w_LETTER_DIGIT_SPECIAL), .val (.int (1 : Int32)), .val (.int (0 : Int32)), .val (.int (0 : Int32)), .unset] [(.int (3 : Int32))])) _
          refine Go.st (fun _ k_ => XS.iconst X28.here hx rfl (hb hby at_59) k_) ?_
          show Go p e below (T28.setTop (mkF m 60 #[.val (.int p1), .val (.int p2), .val (.int (3 : Int32)), .val (.ref w_LETTER_DIGIT_SPECIAL), .val (.int (1 : Int32)), .val (.int (0 : Int32)), .val (.int (0 : Int32)), .unset] [(.int (2 : Int32)), (.int (3 : Int32))])) _
          refine Go.st (fun _ k_ => XS.icmpNo X28.here hx rfl (hb hby at_60) rfl (flt (by decide : ¬ ((3 : Int32) < (2 : Int32)))).1 k_) ?_
          show Go p e below (T28.setTop (mkF m 63 #[.val (.int p1), .val (.int p2), .val (.int (3 : Int32)), .val (.ref w_LETTER_DIGIT_SPECIAL), .val (.int (1 : Int32)), .val (.int (0 : Int32)), .val (.int (0 : Int32)), .unset] [])) _
          refine Go.st (fun _ k_ => XS.iload X28.here hx rfl (hb hby at_63) rfl k_) ?_
          show Go p e below (T28.setTop (mkF m 65 #[.val (.int p1), .val (.int p2), .val (.int (3 : Int32)), .val (.ref w_LETTER_DIGIT_SPECIAL), .val (.int (1 : Int32)), .val (.int (0 : Int32)), .val (.int (0 : Int32)), .unset] [(.int (0 : Int32))])) _
          refine Go.st (fun _ k_ => XS.ifYes X28.here hx rfl (pc0 := 65) (pc' := 82) rfl (hb hby at_65) rfl ((if0 _ _).trans (teq (by decide : (0 : Int32) = (0 : Int32))).1) (by decide) (by decide) k_) ?_
          show Go p e below (T28.setTop (mkF m 82 #[.val (.int p1), .val (.int p2), .val (.int (3 : Int32)), .val (.ref w_LETTER_DIGIT_SPECIAL), .val (.int (1 : Int32)), .val (.int (0 : Int32)), .val (.int (0 : Int32)), .unset] [])) _
          refine Go.st (fun _ k_ => XS.iconst X28.here hx rfl (hb hby at_82) k_) ?_
          show Go p e below (T28.setTop (mkF m 83 #[.val (.int p1), .val (.int p2), .val (.int (3 : Int32)), .val (.ref w_LETTER_DIGIT_SPECIAL), .val (.int (1 : Int32)), .val (.int (0 : Int32)), .val (.int (0 : Int32)), .unset] [(.int (0 : Int32))])) _
          refine Go.st (fun _ k_ => XS.istore X28.here hx rfl (hb hby at_83) rfl (l' := #[.val (.int p1), .val (.int p2), .val (.int (3 : Int32)), .val (.ref w_LETTER_DIGIT_SPECIAL), .val (.int (1 : Int32)), .val (.int (0 : Int32)), .val (.int (0 : Int32)), .val (.int (0 : Int32))]) rfl k_) ?_
          show Go p e below (T28.setTop (mkF m 85 #[.val (.int p1), .val (.int p2), .val (.int (3 : Int32)), .val (.ref w_LETTER_DIGIT_SPECIAL), .val (.int (1 : Int32)), .val (.int (0 : Int32)), .val (.int (0 : Int32)), .val (.int (0 : Int32))] [])) _
          refine Go.st (fun _ k_ => XS.aloadN X28.here hx rfl (hb hby at_85) rfl rfl k_) ?_
          show Go p e below (T28.setTop (mkF m 86 #[.val (.int p1), .val (.int p2), .val (.int (3 : Int32)), .val (.ref w_LETTER_DIGIT_SPECIAL), .val (.int (1 : Int32)), .val (.int (0 : Int32)), .val (.int (0 : Int32)), .val (.int (0 : Int32))] [(.ref w_LETTER_DIGIT_SPECIAL)])) _
          refine Go.st (fun _ k_ => XS.iload X28.here hx rfl (hb hby at_86) rfl k_) ?_
          show Go p e below (T28.setTop (mkF m 88 #[.val (.int p1), .val (.int p2), .val (.int (3 : Int32)), .val (.ref w_LETTER_DIGIT_SPECIAL), .val (.int (1 : Int32)), .val (.int (0 : Int32)), .val (.int (0 : Int32)), .val (.int (0 : Int32))] [(.int (1 : Int32)), (.ref w_LETTER_DIGIT_SPECIAL)])) _
          refine Go.st (fun _ k_ => XS.iload X28.here hx rfl (hb hby at_88) rfl k_) ?_
          show Go p e below (T28.setTop (mkF m 90 #[.val (.int p1), .val (.int p2), .val (.int (3 : Int32)), .val (.ref w_LETTER_DIGIT_SPECIAL), .val (.int (1 : Int32)), .val (.int (0 : Int32)), .val (.int (0 : Int32)), .val (.int (0 : Int32))] [(.int (0 : Int32)), (.int (1 : Int32)), (.ref w_LETTER_DIGIT_SPECIAL)])) _
          refine Go.st (fun _ k_ => XS.iload X28.here hx rfl (hb hby at_90) rfl k_) ?_
          show Go p e below (T28.setTop (mkF m 92 #[.val (.int p1), .val (.int p2), .val (.int (3 : Int32)), .val (.ref w_LETTER_DIGIT_SPECIAL), .val (.int (1 : Int32)), .val (.int (0 : Int32)), .val (.int (0 : Int32)), .val (.int (0 : Int32))] [(.int (0 : Int32)), (.int (0 : Int32)), (.int (1 : Int32)), (.ref w_LETTER_DIGIT_SPECIAL)])) _
          obtain ⟨cq33, kq33, q33a, q33b, q33c⟩ := isOf hZ e28 E_w_LETTER_DIGIT_SPECIAL
          obtain ⟨_, _, ⟨T33, L33, k33_, n33_⟩, -, X33, ⟨Lc33, hQ33, l33_, y33_, z33_⟩, st33⟩ := X28.virtualBack hx (y := (⟨"com/example/patuxent/patuxent/PasswordComplexity", "isMetBy", "(ZZZ)Z"⟩ : MethodName)) (z := (⟨"com/example/patuxent/patuxent/PasswordComplexity", "isMetBy", "(ZZZ)Z"⟩ : MethodName)) hown (mvT hZ (hw _ (List.mem_of_getElem? (i := 7) rfl))) (mvT hZ (hw _ (List.mem_of_getElem? (i := 8) rfl))) (notFace_of_selects (args := #[]) (mvT hZ (hw _ (List.mem_of_getElem? (i := 10) rfl)))) (mvT hZ (hw _ (List.mem_of_getElem? (i := 10) rfl))) (mvT hZ (hw _ (List.mem_of_getElem? (i := 9) rfl))) (by decide) (backOf (W := 0) (rm2_3 l Z a0 hw [] w_LETTER_DIGIT_SPECIAL (1 : Int32) (0 : Int32) (0 : Int32) h0 n0 Z0 E_w_LETTER_DIGIT_SPECIAL F_LETTER_DIGIT_SPECIAL) hZ (hw _ (List.mem_of_getElem? (i := 11) rfl)) (hw _ (List.mem_of_getElem? (i := 5) rfl)) (by decide) (by decide)) q33a q33c (g := (mkF m 92 #[.val (.int p1), .val (.int p2), .val (.int (3 : Int32)), .val (.ref w_LETTER_DIGIT_SPECIAL), .val (.int (1 : Int32)), .val (.int (0 : Int32)), .val (.int (0 : Int32)), .val (.int (0 : Int32))] [(.int (0 : Int32)), (.int (0 : Int32)), (.int (1 : Int32)), (.ref w_LETTER_DIGIT_SPECIAL)])) rfl (by rw [hml]; rfl) (Steps.refl _) (argsL := [(.int (1 : Int32)), (.int (0 : Int32)), (.int (0 : Int32))]) (rest := []) (lenOf pd_2 rfl) rfl (by show 2 * 0 + _ ≤ _; exact Nat.le_of_eq rfl) (hb hby at_92) (fun _ _ => ⟨rfl, e28, (by decide : 0 + 0 ≤ _), (by decide : 0 + 0 ≤ _)⟩)
          dsimp only [Pt.U, Pt.locs, Pt.cells, Pt.slots] at X33 l33_ y33_ z33_ st33 hQ33
          subst l33_ y33_ z33_
          obtain ⟨rfl, N33q, e33⟩ := hQ33
          have N33 := Fr.app N28 N33q
          refine Go.tr st33 ?_
          show Go p e below (T33.setTop (mkF m 95 #[.val (.int p1), .val (.int p2), .val (.int (3 : Int32)), .val (.ref w_LETTER_DIGIT_SPECIAL), .val (.int (1 : Int32)), .val (.int (0 : Int32)), .val (.int (0 : Int32)), .val (.int (0 : Int32))] [(.int (own_met3 (1 : Int32) (0 : Int32) (0 : Int32)))])) _
          refine Go.st (fun _ k_ => XS.iload X33.here hx rfl (hb hby at_95) rfl k_) ?_
          show Go p e below (T33.setTop (mkF m 97 #[.val (.int p1), .val (.int p2), .val (.int (3 : Int32)), .val (.ref w_LETTER_DIGIT_SPECIAL), .val (.int (1 : Int32)), .val (.int (0 : Int32)), .val (.int (0 : Int32)), .val (.int (0 : Int32))] [(.int (0 : Int32)), (.int (own_met3 (1 : Int32) (0 : Int32) (0 : Int32)))])) _
          have hc97 : (own_met3 (1 : Int32) (0 : Int32) (0 : Int32)) = (0 : Int32) := by decide
          refine Go.st (fun _ k_ => XS.icmpNo X33.here hx rfl (hb hby at_97) rfl (teq hc97).2 k_) ?_
          show Go p e below (T33.setTop (mkF m 100 #[.val (.int p1), .val (.int p2), .val (.int (3 : Int32)), .val (.ref w_LETTER_DIGIT_SPECIAL), .val (.int (1 : Int32)), .val (.int (0 : Int32)), .val (.int (0 : Int32)), .val (.int (0 : Int32))] [])) _
          refine Go.st (fun _ k_ => XS.iconst X33.here hx rfl (hb hby at_100) k_) ?_
          show Go p e below (T33.setTop (mkF m 101 #[.val (.int p1), .val (.int p2), .val (.int (3 : Int32)), .val (.ref w_LETTER_DIGIT_SPECIAL), .val (.int (1 : Int32)), .val (.int (0 : Int32)), .val (.int (0 : Int32)), .val (.int (0 : Int32))] [(.int (1 : Int32))])) _
          refine Go.st (fun _ k_ => XS.goto X33.here hx rfl (pc0 := 101) (pc' := 105) rfl (hb hby at_101) (by decide) (by decide) k_) ?_
          show Go p e below (T33.setTop (mkF m 105 #[.val (.int p1), .val (.int p2), .val (.int (3 : Int32)), .val (.ref w_LETTER_DIGIT_SPECIAL), .val (.int (1 : Int32)), .val (.int (0 : Int32)), .val (.int (0 : Int32)), .val (.int (0 : Int32))] [(.int (1 : Int32))])) _
          refine Go.fin X33 (v := some (.int (1 : Int32))) (fun h_ => by rw [Bd.returns] at h_; cases h_) Bd.notSynchronized (fun _ hr => retN X33 hx (t := .boolean) Bd.returns (by simp) (hb hby at_105) hr) (fun U' hU hF => ⟨_, _, rfl, ?_, hF.1, hF.2.1, hF.2.2.mono (by decide) (by decide)⟩)
          exact ⟨(congrArg (fun z_ : Int32 => some (Value.int z_)) (show (1 : Int32) = (1 : Int32) from rfl)), N33⟩
        · refine Go.st (fun _ k_ => XS.ifNo X28.here hx rfl (hb hby at_38) rfl ((if0 _ _).trans (feq hc38).1) k_) ?_
          show Go p e below (T28.setTop (mkF m 41 #[.val (.int p1), .val (.int p2), .val (.int (3 : Int32)), .val (.ref w_LETTER_DIGIT_SPECIAL), .val (.int (1 : Int32)), .val (.int (0 : Int32)), .unset, .unset] [])) _
          refine Go.st (fun _ k_ => XS.iconst X28.here hx rfl (hb hby at_41) k_) ?_
          show Go p e below (T28.setTop (mkF m 42 #[.val (.int p1), .val (.int p2), .val (.int (3 : Int32)), .val (.ref w_LETTER_DIGIT_SPECIAL), .val (.int (1 : Int32)), .val (.int (0 : Int32)), .unset, .unset] [(.int (1 : Int32))])) _
          refine Go.st (fun _ k_ => XS.goto X28.here hx rfl (pc0 := 42) (pc' := 46) rfl (hb hby at_42) (by decide) (by decide) k_) ?_
          show Go p e below (T28.setTop (mkF m 46 #[.val (.int p1), .val (.int p2), .val (.int (3 : Int32)), .val (.ref w_LETTER_DIGIT_SPECIAL), .val (.int (1 : Int32)), .val (.int (0 : Int32)), .unset, .unset] [(.int (1 : Int32))])) _
          refine Go.st (fun _ k_ => XS.istore X28.here hx rfl (hb hby at_46) rfl (l' := #[.val (.int p1), .val (.int p2), .val (.int (3 : Int32)), .val (.ref w_LETTER_DIGIT_SPECIAL), .val (.int (1 : Int32)), .val (.int (0 : Int32)), .val (.int (1 : Int32)), .unset]) rfl k_) ?_
          show Go p e below (T28.setTop (mkF m 48 #[.val (.int p1), .val (.int p2), .val (.int (3 : Int32)), .val (.ref w_LETTER_DIGIT_SPECIAL), .val (.int (1 : Int32)), .val (.int (0 : Int32)), .val (.int (1 : Int32)), .unset] [])) _
          refine Go.st (fun _ k_ => XS.iloadN X28.here hx rfl (hb hby at_48) rfl k_) ?_
          show Go p e below (T28.setTop (mkF m 49 #[.val (.int p1), .val (.int p2), .val (.int (3 : Int32)), .val (.ref w_LETTER_DIGIT_SPECIAL), .val (.int (1 : Int32)), .val (.int (0 : Int32)), .val (.int (1 : Int32)), .unset] [(.int (3 : Int32))])) _
          refine Go.st (fun _ k_ => XS.iconst X28.here hx rfl (hb hby at_49) k_) ?_
          show Go p e below (T28.setTop (mkF m 50 #[.val (.int p1), .val (.int p2), .val (.int (3 : Int32)), .val (.ref w_LETTER_DIGIT_SPECIAL), .val (.int (1 : Int32)), .val (.int (0 : Int32)), .val (.int (1 : Int32)), .unset] [(.int (1 : Int32)), (.int (3 : Int32))])) _
          refine Go.st (fun _ k_ => XS.icmpNo X28.here hx rfl (hb hby at_50) rfl (flt (by decide : ¬ ((3 : Int32) < (1 : Int32)))).1 k_) ?_
          show Go p e below (T28.setTop (mkF m 53 #[.val (.int p1), .val (.int p2), .val (.int (3 : Int32)), .val (.ref w_LETTER_DIGIT_SPECIAL), .val (.int (1 : Int32)), .val (.int (0 : Int32)), .val (.int (1 : Int32)), .unset] [])) _
          refine Go.st (fun _ k_ => XS.iload X28.here hx rfl (hb hby at_53) rfl k_) ?_
          show Go p e below (T28.setTop (mkF m 55 #[.val (.int p1), .val (.int p2), .val (.int (3 : Int32)), .val (.ref w_LETTER_DIGIT_SPECIAL), .val (.int (1 : Int32)), .val (.int (0 : Int32)), .val (.int (1 : Int32)), .unset] [(.int (1 : Int32))])) _
          refine Go.st (fun _ k_ => XS.ifNo X28.here hx rfl (hb hby at_55) rfl ((if0 _ _).trans (feq (by decide : ¬ ((1 : Int32) = (0 : Int32)))).1) k_) ?_
          show Go p e below (T28.setTop (mkF m 58 #[.val (.int p1), .val (.int p2), .val (.int (3 : Int32)), .val (.ref w_LETTER_DIGIT_SPECIAL), .val (.int (1 : Int32)), .val (.int (0 : Int32)), .val (.int (1 : Int32)), .unset] [])) _
          refine Go.st (fun _ k_ => XS.iloadN X28.here hx rfl (hb hby at_58) rfl k_) ?_
          show Go p e below (T28.setTop (mkF m 59 #[.val (.int p1), .val (.int p2), .val (.int (3 : Int32)), .val (.ref w_LETTER_DIGIT_SPECIAL), .val (.int (1 : Int32)), .val (.int (0 : Int32)), .val (.int (1 : Int32)), .unset] [(.int (3 : Int32))])) _
          refine Go.st (fun _ k_ => XS.iconst X28.here hx rfl (hb hby at_59) k_) ?_
          show Go p e below (T28.setTop (mkF m 60 #[.val (.int p1), .val (.int p2), .val (.int (3 : Int32)), .val (.ref w_LETTER_DIGIT_SPECIAL), .val (.int (1 : Int32)), .val (.int (0 : Int32)), .val (.int (1 : Int32)), .unset] [(.int (2 : Int32)), (.int (3 : Int32))])) _
          refine Go.st (fun _ k_ => XS.icmpNo X28.here hx rfl (hb hby at_60) rfl (flt (by decide : ¬ ((3 : Int32) < (2 : Int32)))).1 k_) ?_
          show Go p e below (T28.setTop (mkF m 63 #[.val (.int p1), .val (.int p2), .val (.int (3 : Int32)), .val (.ref w_LETTER_DIGIT_SPECIAL), .val (.int (1 : Int32)), .val (.int (0 : Int32)), .val (.int (1 : Int32)), .unset] [])) _
          refine Go.st (fun _ k_ => XS.iload X28.here hx rfl (hb hby at_63) rfl k_) ?_
          show Go p e below (T28.setTop (mkF m 65 #[.val (.int p1), .val (.int p2), .val (.int (3 : Int32)), .val (.ref w_LETTER_DIGIT_SPECIAL), .val (.int (1 : Int32)), .val (.int (0 : Int32)), .val (.int (1 : Int32)), .unset] [(.int (0 : Int32))])) _
          refine Go.st (fun _ k_ => XS.ifYes X28.here hx rfl (pc0 := 65) (pc' := 82) rfl (hb hby at_65) rfl ((if0 _ _).trans (teq (by decide : (0 : Int32) = (0 : Int32))).1) (by decide) (by decide) k_) ?_
          show Go p e below (T28.setTop (mkF m 82 #[.val (.int p1), .val (.int p2), .val (.int (3 : Int32)), .val (.ref w_LETTER_DIGIT_SPECIAL), .val (.int (1 : Int32)), .val (.int (0 : Int32)), .val (.int (1 : Int32)), .unset] [])) _
          refine Go.st (fun _ k_ => XS.iconst X28.here hx rfl (hb hby at_82) k_) ?_
          show Go p e below (T28.setTop (mkF m 83 #[.val (.int p1), .val (.int p2), .val (.int (3 : Int32)), .val (.ref w_LETTER_DIGIT_SPECIAL), .val (.int (1 : Int32)), .val (.int (0 : Int32)), .val (.int (1 : Int32)), .unset] [(.int (0 : Int32))])) _
          refine Go.st (fun _ k_ => XS.istore X28.here hx rfl (hb hby at_83) rfl (l' := #[.val (.int p1), .val (.int p2), .val (.int (3 : Int32)), .val (.ref w_LETTER_DIGIT_SPECIAL), .val (.int (1 : Int32)), .val (.int (0 : Int32)), .val (.int (1 : Int32)), .val (.int (0 : Int32))]) rfl k_) ?_
          show Go p e below (T28.setTop (mkF m 85 #[.val (.int p1), .val (.int p2), .val (.int (3 : Int32)), .val (.ref w_LETTER_DIGIT_SPECIAL), .val (.int (1 : Int32)), .val (.int (0 : Int32)), .val (.int (1 : Int32)), .val (.int (0 : Int32))] [])) _
          refine Go.st (fun _ k_ => XS.aloadN X28.here hx rfl (hb hby at_85) rfl rfl k_) ?_
          show Go p e below (T28.setTop (mkF m 86 #[.val (.int p1), .val (.int p2), .val (.int (3 : Int32)), .val (.ref w_LETTER_DIGIT_SPECIAL), .val (.int (1 : Int32)), .val (.int (0 : Int32)), .val (.int (1 : Int32)), .val (.int (0 : Int32))] [(.ref w_LETTER_DIGIT_SPECIAL)])) _
          refine Go.st (fun _ k_ => XS.iload X28.here hx rfl (hb hby at_86) rfl k_) ?_
          show Go p e below (T28.setTop (mkF m 88 #[.val (.int p1), .val (.int p2), .val (.int (3 : Int32)), .val (.ref w_LETTER_DIGIT_SPECIAL), .val (.int (1 : Int32)), .val (.int (0 : Int32)), .val (.int (1 : Int32)), .val (.int (0 : Int32))] [(.int (1 : Int32)), (.ref w_LETTER_DIGIT_SPECIAL)])) _
          refine Go.st (fun _ k_ => XS.iload X28.here hx rfl (hb hby at_88) rfl k_) ?_
          show Go p e below (T28.setTop (mkF m 90 #[.val (.int p1), .val (.int p2), .val (.int (3 : Int32)), .val (.ref w_LETTER_DIGIT_SPECIAL), .val (.int (1 : Int32)), .val (.int (0 : Int32)), .val (.int (1 : Int32)), .val (.int (0 : Int32))] [(.int (0 : Int32)), (.int (1 : Int32)), (.ref w_LETTER_DIGIT_SPECIAL)])) _
          refine Go.st (fun _ k_ => XS.iload X28.here hx rfl (hb hby at_90) rfl k_) ?_
          show Go p e below (T28.setTop (mkF m 92 #[.val (.int p1), .val (.int p2), .val (.int (3 : Int32)), .val (.ref w_LETTER_DIGIT_SPECIAL), .val (.int (1 : Int32)), .val (.int (0 : Int32)), .val (.int (1 : Int32)), .val (.int (0 : Int32))] [(.int (1 : Int32)), (.int (0 : Int32)), (.int (1 : Int32)), (.ref w_LETTER_DIGIT_SPECIAL)])) _
          obtain ⟨cq34, kq34, q34a, q34b, q34c⟩ := isOf hZ e28 E_w_LETTER_DIGIT_SPECIAL
          obtain ⟨_, _, ⟨T34, L34, k34_, n34_⟩, -, X34, ⟨Lc34, hQ34, l34_, y34_, z34_⟩, st34⟩ := X28.virtualBack hx (y := (⟨"com/example/patuxent/patuxent/PasswordComplexity", "isMetBy", "(ZZZ)Z"⟩ : MethodName)) (z := (⟨"com/example/patuxent/patuxent/PasswordComplexity", "isMetBy", "(ZZZ)Z"⟩ : MethodName)) hown (mvT hZ (hw _ (List.mem_of_getElem? (i := 7) rfl))) (mvT hZ (hw _ (List.mem_of_getElem? (i := 8) rfl))) (notFace_of_selects (args := #[]) (mvT hZ (hw _ (List.mem_of_getElem? (i := 10) rfl)))) (mvT hZ (hw _ (List.mem_of_getElem? (i := 10) rfl))) (mvT hZ (hw _ (List.mem_of_getElem? (i := 9) rfl))) (by decide) (backOf (W := 0) (rm2_3 l Z a0 hw [] w_LETTER_DIGIT_SPECIAL (1 : Int32) (0 : Int32) (1 : Int32) h0 n0 Z0 E_w_LETTER_DIGIT_SPECIAL F_LETTER_DIGIT_SPECIAL) hZ (hw _ (List.mem_of_getElem? (i := 11) rfl)) (hw _ (List.mem_of_getElem? (i := 5) rfl)) (by decide) (by decide)) q34a q34c (g := (mkF m 92 #[.val (.int p1), .val (.int p2), .val (.int (3 : Int32)), .val (.ref w_LETTER_DIGIT_SPECIAL), .val (.int (1 : Int32)), .val (.int (0 : Int32)), .val (.int (1 : Int32)), .val (.int (0 : Int32))] [(.int (1 : Int32)), (.int (0 : Int32)), (.int (1 : Int32)), (.ref w_LETTER_DIGIT_SPECIAL)])) rfl (by rw [hml]; rfl) (Steps.refl _) (argsL := [(.int (1 : Int32)), (.int (0 : Int32)), (.int (1 : Int32))]) (rest := []) (lenOf pd_2 rfl) rfl (by show 2 * 0 + _ ≤ _; exact Nat.le_of_eq rfl) (hb hby at_92) (fun _ _ => ⟨rfl, e28, (by decide : 0 + 0 ≤ _), (by decide : 0 + 0 ≤ _)⟩)
          dsimp only [Pt.U, Pt.locs, Pt.cells, Pt.slots] at X34 l34_ y34_ z34_ st34 hQ34
          subst l34_ y34_ z34_
          obtain ⟨rfl, N34q, e34⟩ := hQ34
          have N34 := Fr.app N28 N34q
          refine Go.tr st34 ?_
          show Go p e below (T34.setTop (mkF m 95 #[.val (.int p1), .val (.int p2), .val (.int (3 : Int32)), .val (.ref w_LETTER_DIGIT_SPECIAL), .val (.int (1 : Int32)), .val (.int (0 : Int32)), .val (.int (1 : Int32)), .val (.int (0 : Int32))] [(.int (own_met3 (1 : Int32) (0 : Int32) (1 : Int32)))])) _
          refine Go.st (fun _ k_ => XS.iload X34.here hx rfl (hb hby at_95) rfl k_) ?_
          show Go p e below (T34.setTop (mkF m 97 #[.val (.int p1), .val (.int p2), .val (.int (3 : Int32)), .val (.ref w_LETTER_DIGIT_SPECIAL), .val (.int (1 : Int32)), .val (.int (0 : Int32)), .val (.int (1 : Int32)), .val (.int (0 : Int32))] [(.int (0 : Int32)), (.int (own_met3 (1 : Int32) (0 : Int32) (1 : Int32)))])) _
          have hc97 : (own_met3 (1 : Int32) (0 : Int32) (1 : Int32)) = (0 : Int32) := by decide
          refine Go.st (fun _ k_ => XS.icmpNo X34.here hx rfl (hb hby at_97) rfl (teq hc97).2 k_) ?_
          show Go p e below (T34.setTop (mkF m 100 #[.val (.int p1), .val (.int p2), .val (.int (3 : Int32)), .val (.ref w_LETTER_DIGIT_SPECIAL), .val (.int (1 : Int32)), .val (.int (0 : Int32)), .val (.int (1 : Int32)), .val (.int (0 : Int32))] [])) _
          refine Go.st (fun _ k_ => XS.iconst X34.here hx rfl (hb hby at_100) k_) ?_
          show Go p e below (T34.setTop (mkF m 101 #[.val (.int p1), .val (.int p2), .val (.int (3 : Int32)), .val (.ref w_LETTER_DIGIT_SPECIAL), .val (.int (1 : Int32)), .val (.int (0 : Int32)), .val (.int (1 : Int32)), .val (.int (0 : Int32))] [(.int (1 : Int32))])) _
          refine Go.st (fun _ k_ => XS.goto X34.here hx rfl (pc0 := 101) (pc' := 105) rfl (hb hby at_101) (by decide) (by decide) k_) ?_
          show Go p e below (T34.setTop (mkF m 105 #[.val (.int p1), .val (.int p2), .val (.int (3 : Int32)), .val (.ref w_LETTER_DIGIT_SPECIAL), .val (.int (1 : Int32)), .val (.int (0 : Int32)), .val (.int (1 : Int32)), .val (.int (0 : Int32))] [(.int (1 : Int32))])) _
          refine Go.fin X34 (v := some (.int (1 : Int32))) (fun h_ => by rw [Bd.returns] at h_; cases h_) Bd.notSynchronized (fun _ hr => retN X34 hx (t := .boolean) Bd.returns (by simp) (hb hby at_105) hr) (fun U' hU hF => ⟨_, _, rfl, ?_, hF.1, hF.2.1, hF.2.2.mono (by decide) (by decide)⟩)
          exact ⟨(congrArg (fun z_ : Int32 => some (Value.int z_)) (show (1 : Int32) = (1 : Int32) from rfl)), N34⟩
      · refine Go.st (fun _ k_ => XS.ifNo X28.here hx rfl (hb hby at_25) rfl ((if0 _ _).trans (feq hc25).1) k_) ?_
        show Go p e below (T28.setTop (mkF m 28 #[.val (.int p1), .val (.int p2), .val (.int (3 : Int32)), .val (.ref w_LETTER_DIGIT_SPECIAL), .val (.int (1 : Int32)), .unset, .unset, .unset] [])) _
        refine Go.st (fun _ k_ => XS.iconst X28.here hx rfl (hb hby at_28) k_) ?_
        show Go p e below (T28.setTop (mkF m 29 #[.val (.int p1), .val (.int p2), .val (.int (3 : Int32)), .val (.ref w_LETTER_DIGIT_SPECIAL), .val (.int (1 : Int32)), .unset, .unset, .unset] [(.int (1 : Int32))])) _
        refine Go.st (fun _ k_ => XS.goto X28.here hx rfl (pc0 := 29) (pc' := 33) rfl (hb hby at_29) (by decide) (by decide) k_) ?_
        show Go p e below (T28.setTop (mkF m 33 #[.val (.int p1), .val (.int p2), .val (.int (3 : Int32)), .val (.ref w_LETTER_DIGIT_SPECIAL), .val (.int (1 : Int32)), .unset, .unset, .unset] [(.int (1 : Int32))])) _
        refine Go.st (fun _ k_ => XS.istore X28.here hx rfl (hb hby at_33) rfl (l' := #[.val (.int p1), .val (.int p2), .val (.int (3 : Int32)), .val (.ref w_LETTER_DIGIT_SPECIAL), .val (.int (1 : Int32)), .val (.int (1 : Int32)), .unset, .unset]) rfl k_) ?_
        show Go p e below (T28.setTop (mkF m 35 #[.val (.int p1), .val (.int p2), .val (.int (3 : Int32)), .val (.ref w_LETTER_DIGIT_SPECIAL), .val (.int (1 : Int32)), .val (.int (1 : Int32)), .unset, .unset] [])) _
        refine Go.st (fun _ k_ => XS.iloadN X28.here hx rfl (hb hby at_35) rfl k_) ?_
        show Go p e below (T28.setTop (mkF m 36 #[.val (.int p1), .val (.int p2), .val (.int (3 : Int32)), .val (.ref w_LETTER_DIGIT_SPECIAL), .val (.int (1 : Int32)), .val (.int (1 : Int32)), .unset, .unset] [(.int p2)])) _
        refine Go.st (fun _ k_ => XS.iconst X28.here hx rfl (hb hby at_36) k_) ?_
        show Go p e below (T28.setTop (mkF m 37 #[.val (.int p1), .val (.int p2), .val (.int (3 : Int32)), .val (.ref w_LETTER_DIGIT_SPECIAL), .val (.int (1 : Int32)), .val (.int (1 : Int32)), .unset, .unset] [(.int (4 : Int32)), (.int p2)])) _
        refine Go.st (fun _ k_ => XS.iand X28.here hx rfl (hb hby at_37) rfl k_) ?_
        show Go p e below (T28.setTop (mkF m 38 #[.val (.int p1), .val (.int p2), .val (.int (3 : Int32)), .val (.ref w_LETTER_DIGIT_SPECIAL), .val (.int (1 : Int32)), .val (.int (1 : Int32)), .unset, .unset] [(.int (p2 &&& (4 : Int32)))])) _
        by_cases hc38 : (p2 &&& (4 : Int32)) = (0 : Int32)
        · refine Go.st (fun _ k_ => XS.ifYes X28.here hx rfl (pc0 := 38) (pc' := 45) rfl (hb hby at_38) rfl ((if0 _ _).trans (teq hc38).1) (by decide) (by decide) k_) ?_
          show Go p e below (T28.setTop (mkF m 45 #[.val (.int p1), .val (.int p2), .val (.int (3 : Int32)), .val (.ref w_LETTER_DIGIT_SPECIAL), .val (.int (1 : Int32)), .val (.int (1 : Int32)), .unset, .unset] [])) _
          refine Go.st (fun _ k_ => XS.iconst X28.here hx rfl (hb hby at_45) k_) ?_
          show Go p e below (T28.setTop (mkF m 46 #[.val (.int p1), .val (.int p2), .val (.int (3 : Int32)), .val (.ref w_LETTER_DIGIT_SPECIAL), .val (.int (1 : Int32)), .val (.int (1 : Int32)), .unset, .unset] [(.int (0 : Int32))])) _
          refine Go.st (fun _ k_ => XS.istore X28.here hx rfl (hb hby at_46) rfl (l' := #[.val (.int p1), .val (.int p2), .val (.int (3 : Int32)), .val (.ref w_LETTER_DIGIT_SPECIAL), .val (.int (1 : Int32)), .val (.int (1 : Int32)), .val (.int (0 : Int32)), .unset]) rfl k_) ?_
          show Go p e below (T28.setTop (mkF m 48 #[.val (.int p1), .val (.int p2), .val (.int (3 : Int32)), .val (.ref w_LETTER_DIGIT_SPECIAL), .val (.int (1 : Int32)), .val (.int (1 : Int32)), .val (.int (0 : Int32)), .unset] [])) _
          refine Go.st (fun _ k_ => XS.iloadN X28.here hx rfl (hb hby at_48) rfl k_) ?_
          show Go p e below (T28.setTop (mkF m 49 #[.val (.int p1), .val (.int p2), .val (.int (3 : Int32)), .val (.ref w_LETTER_DIGIT_SPECIAL), .val (.int (1 : Int32)), .val (.int (1 : Int32)), .val (.int (0 : Int32)), .unset] [(.int (3 : Int32))])) _
          refine Go.st (fun _ k_ => XS.iconst X28.here hx rfl (hb hby at_49) k_) ?_
          show Go p e below (T28.setTop (mkF m 50 #[.val (.int p1), .val (.int p2), .val (.int (3 : Int32)), .val (.ref w_LETTER_DIGIT_SPECIAL), .val (.int (1 : Int32)), .val (.int (1 : Int32)), .val (.int (0 : Int32)), .unset] [(.int (1 : Int32)), (.int (3 : Int32))])) _
          refine Go.st (fun _ k_ => XS.icmpNo X28.here hx rfl (hb hby at_50) rfl (flt (by decide : ¬ ((3 : Int32) < (1 : Int32)))).1 k_) ?_
          show Go p e below (T28.setTop (mkF m 53 #[.val (.int p1), .val (.int p2), .val (.int (3 : Int32)), .val (.ref w_LETTER_DIGIT_SPECIAL), .val (.int (1 : Int32)), .val (.int (1 : Int32)), .val (.int (0 : Int32)), .unset] [])) _
          refine Go.st (fun _ k_ => XS.iload X28.here hx rfl (hb hby at_53) rfl k_) ?_
          show Go p e below (T28.setTop (mkF m 55 #[.val (.int p1), .val (.int p2), .val (.int (3 : Int32)), .val (.ref w_LETTER_DIGIT_SPECIAL), .val (.int (1 : Int32)), .val (.int (1 : Int32)), .val (.int (0 : Int32)), .unset] [(.int (1 : Int32))])) _
          refine Go.st (fun _ k_ => XS.ifNo X28.here hx rfl (hb hby at_55) rfl ((if0 _ _).trans (feq (by decide : ¬ ((1 : Int32) = (0 : Int32)))).1) k_) ?_
          show Go p e below (T28.setTop (mkF m 58 #[.val (.int p1), .val (.int p2), .val (.int (3 : Int32)), .val (.ref w_LETTER_DIGIT_SPECIAL), .val (.int (1 : Int32)), .val (.int (1 : Int32)), .val (.int (0 : Int32)), .unset] [])) _
          refine Go.st (fun _ k_ => XS.iloadN X28.here hx rfl (hb hby at_58) rfl k_) ?_
          show Go p e below (T28.setTop (mkF m 59 #[.val (.int p1), .val (.int p2), .val (.int (3 : Int32)), .val (.ref w_LETTER_DIGIT_SPECIAL), .val (.int (1 : Int32)), .val (.int (1 : Int32)), .val (.int (0 : Int32)), .unset] [(.int (3 : Int32))])) _
          refine Go.st (fun _ k_ => XS.iconst X28.here hx rfl (hb hby at_59) k_) ?_
          show Go p e below (T28.setTop (mkF m 60 #[.val (.int p1), .val (.int p2), .val (.int (3 : Int32)), .val (.ref w_LETTER_DIGIT_SPECIAL), .val (.int (1 : Int32)), .val (.int (1 : Int32)), .val (.int (0 : Int32)), .unset] [(.int (2 : Int32)), (.int (3 : Int32))])) _
          refine Go.st (fun _ k_ => XS.icmpNo X28.here hx rfl (hb hby at_60) rfl (flt (by decide : ¬ ((3 : Int32) < (2 : Int32)))).1 k_) ?_
          show Go p e below (T28.setTop (mkF m 63 #[.val (.int p1), .val (.int p2), .val (.int (3 : Int32)), .val (.ref w_LETTER_DIGIT_SPECIAL), .val (.int (1 : Int32)), .val (.int (1 : Int32)), .val (.int (0 : Int32)), .unset] [])) _
          refine Go.st (fun _ k_ => XS.iload X28.here hx rfl (hb hby at_63) rfl k_) ?_
          show Go p e below (T28.setTop (mkF m 65 #[.val (.int p1), .val (.int p2), .val (.int (3 : Int32)), .val (.ref w_LETTER_DIGIT_SPECIAL), .val (.int (1 : Int32)), .val (.int (1 : Int32)), .val (.int (0 : Int32)), .unset] [(.int (1 : Int32))])) _
          refine Go.st (fun _ k_ => XS.ifNo X28.here hx rfl (hb hby at_65) rfl ((if0 _ _).trans (feq (by decide : ¬ ((1 : Int32) = (0 : Int32)))).1) k_) ?_
          show Go p e below (T28.setTop (mkF m 68 #[.val (.int p1), .val (.int p2), .val (.int (3 : Int32)), .val (.ref w_LETTER_DIGIT_SPECIAL), .val (.int (1 : Int32)), .val (.int (1 : Int32)), .val (.int (0 : Int32)), .unset] [])) _
          refine Go.st (fun _ k_ => XS.iloadN X28.here hx rfl (hb hby at_68) rfl k_) ?_
          show Go p e below (T28.setTop (mkF m 69 #[.val (.int p1), .val (.int p2), .val (.int (3 : Int32)), .val (.ref w_LETTER_DIGIT_SPECIAL), .val (.int (1 : Int32)), .val (.int (1 : Int32)), .val (.int (0 : Int32)), .unset] [(.int (3 : Int32))])) _
          refine Go.st (fun _ k_ => XS.iconst X28.here hx rfl (hb hby at_69) k_) ?_
          show Go p e below (T28.setTop (mkF m 70 #[.val (.int p1), .val (.int p2), .val (.int (3 : Int32)), .val (.ref w_LETTER_DIGIT_SPECIAL), .val (.int (1 : Int32)), .val (.int (1 : Int32)), .val (.int (0 : Int32)), .unset] [(.int (3 : Int32)), (.int (3 : Int32))])) _
          refine Go.st (fun _ k_ => XS.icmpNo X28.here hx rfl (hb hby at_70) rfl (flt (by decide : ¬ ((3 : Int32) < (3 : Int32)))).1 k_) ?_
          show Go p e below (T28.setTop (mkF m 73 #[.val (.int p1), .val (.int p2), .val (.int (3 : Int32)), .val (.ref w_LETTER_DIGIT_SPECIAL), .val (.int (1 : Int32)), .val (.int (1 : Int32)), .val (.int (0 : Int32)), .unset] [])) _
          refine Go.st (fun _ k_ => XS.iload X28.here hx rfl (hb hby at_73) rfl k_) ?_
          show Go p e below (T28.setTop (mkF m 75 #[.val (.int p1), .val (.int p2), .val (.int (3 : Int32)), .val (.ref w_LETTER_DIGIT_SPECIAL), .val (.int (1 : Int32)), .val (.int (1 : Int32)), .val (.int (0 : Int32)), .unset] [(.int (0 : Int32))])) _
          refine Go.st (fun _ k_ => XS.ifYes X28.here hx rfl (pc0 := 75) (pc' := 82) rfl (hb hby at_75) rfl ((if0 _ _).trans (teq (by decide : (0 : Int32) = (0 : Int32))).1) (by decide) (by decide) k_) ?_
          show Go p e below (T28.setTop (mkF m 82 #[.val (.int p1), .val (.int p2), .val (.int (3 : Int32)), .val (.ref w_LETTER_DIGIT_SPECIAL), .val (.int (1 : Int32)), .val (.int (1 : Int32)), .val (.int (0 : Int32)), .unset] [])) _
          refine Go.st (fun _ k_ => XS.iconst X28.here hx rfl (hb hby at_82) k_) ?_
          show Go p e below (T28.setTop (mkF m 83 #[.val (.int p1), .val (.int p2), .val (.int (3 : Int32)), .val (.ref w_LETTER_DIGIT_SPECIAL), .val (.int (1 : Int32)), .val (.int (1 : Int32)), .val (.int (0 : Int32)), .unset] [(.int (0 : Int32))])) _
          refine Go.st (fun _ k_ => XS.istore X28.here hx rfl (hb hby at_83) rfl (l' := #[.val (.int p1), .val (.int p2), .val (.int (3 : Int32)), .val (.ref w_LETTER_DIGIT_SPECIAL), .val (.int (1 : Int32)), .val (.int (1 : Int32)), .val (.int (0 : Int32)), .val (.int (0 : Int32))]) rfl k_) ?_
          show Go p e below (T28.setTop (mkF m 85 #[.val (.int p1), .val (.int p2), .val (.int (3 : Int32)), .val (.ref w_LETTER_DIGIT_SPECIAL), .val (.int (1 : Int32)), .val (.int (1 : Int32)), .val (.int (0 : Int32)), .val (.int (0 : Int32))] [])) _
          refine Go.st (fun _ k_ => XS.aloadN X28.here hx rfl (hb hby at_85) rfl rfl k_) ?_
          show Go p e below (T28.setTop (mkF m 86 #[.val (.int p1), .val (.int p2), .val (.int (3 : Int32)), .val (.ref w_LETTER_DIGIT_SPECIAL), .val (.int (1 : Int32)), .val (.int (1 : Int32)), .val (.int (0 : Int32)), .val (.int (0 : Int32))] [(.ref w_LETTER_DIGIT_SPECIAL)])) _
          refine Go.st (fun _ k_ => XS.iload X28.here hx rfl (hb hby at_86) rfl k_) ?_
          show Go p e below (T28.setTop (mkF m 88 #[.val (.int p1), .val (.int p2), .val (.int (3 : Int32)), .val (.ref w_LETTER_DIGIT_SPECIAL), .val (.int (1 : Int32)), .val (.int (1 : Int32)), .val (.int (0 : Int32)), .val (.int (0 : Int32))] [(.int (1 : Int32)), (.ref w_LETTER_DIGIT_SPECIAL)])) _
          refine Go.st (fun _ k_ => XS.iload X28.here hx rfl (hb hby at_88) rfl k_) ?_
          show Go p e below (T28.setTop (mkF m 90 #[.val (.int p1), .val (.int p2), .val (.int (3 : Int32)), .val (.ref w_LETTER_DIGIT_SPECIAL), .val (.int (1 : Int32)), .val (.int (1 : Int32)), .val (.int (0 : Int32)), .val (.int (0 : Int32))] [(.int (1 : Int32)), (.int (1 : Int32)), (.ref w_LETTER_DIGIT_SPECIAL)])) _
          refine Go.st (fun _ k_ => XS.iload X28.here hx rfl (hb hby at_90) rfl k_) ?_
          show Go p e below (T28.setTop (mkF m 92 #[.val (.int p1), .val (.int p2), .val (.int (3 : Int32)), .val (.ref w_LETTER_DIGIT_SPECIAL), .val (.int (1 : Int32)), .val (.int (1 : Int32)), .val (.int (0 : Int32)), .val (.int (0 : Int32))] [(.int (0 : Int32)), (.int (1 : Int32)), (.int (1 : Int32)), (.ref w_LETTER_DIGIT_SPECIAL)])) _
          obtain ⟨cq35, kq35, q35a, q35b, q35c⟩ := isOf hZ e28 E_w_LETTER_DIGIT_SPECIAL
          obtain ⟨_, _, ⟨T35, L35, k35_, n35_⟩, -, X35, ⟨Lc35, hQ35, l35_, y35_, z35_⟩, st35⟩ := X28.virtualBack hx (y := (⟨"com/example/patuxent/patuxent/PasswordComplexity", "isMetBy", "(ZZZ)Z"⟩ : MethodName)) (z := (⟨"com/example/patuxent/patuxent/PasswordComplexity", "isMetBy", "(ZZZ)Z"⟩ : MethodName)) hown (mvT hZ (hw _ (List.mem_of_getElem? (i := 7) rfl))) (mvT hZ (hw _ (List.mem_of_getElem? (i := 8) rfl))) (notFace_of_selects (args := #[]) (mvT hZ (hw _ (List.mem_of_getElem? (i := 10) rfl)))) (mvT hZ (hw _ (List.mem_of_getElem? (i := 10) rfl))) (mvT hZ (hw _ (List.mem_of_getElem? (i := 9) rfl))) (by decide) (backOf (W := 0) (rm2_3 l Z a0 hw [] w_LETTER_DIGIT_SPECIAL (1 : Int32) (1 : Int32) (0 : Int32) h0 n0 Z0 E_w_LETTER_DIGIT_SPECIAL F_LETTER_DIGIT_SPECIAL) hZ (hw _ (List.mem_of_getElem? (i := 11) rfl)) (hw _ (List.mem_of_getElem? (i := 5) rfl)) (by decide) (by decide)) q35a q35c (g := (mkF m 92 #[.val (.int p1), .val (.int p2), .val (.int (3 : Int32)), .val (.ref w_LETTER_DIGIT_SPECIAL), .val (.int (1 : Int32)), .val (.int (1 : Int32)), .val (.int (0 : Int32)), .val (.int (0 : Int32))] [(.int (0 : Int32)), (.int (1 : Int32)), (.int (1 : Int32)), (.ref w_LETTER_DIGIT_SPECIAL)])) rfl (by rw [hml]; rfl) (Steps.refl _) (argsL := [(.int (1 : Int32)), (.int (1 : Int32)), (.int (0 : Int32))]) (rest := []) (lenOf pd_2 rfl) rfl (by show 2 * 0 + _ ≤ _; exact Nat.le_of_eq rfl) (hb hby at_92) (fun _ _ => ⟨rfl, e28, (by decide : 0 + 0 ≤ _), (by decide : 0 + 0 ≤ _)⟩)
          dsimp only [Pt.U, Pt.locs, Pt.cells, Pt.slots] at X35 l35_ y35_ z35_ st35 hQ35
          subst l35_ y35_ z35_
          obtain ⟨rfl, N35q, e35⟩ := hQ35
          have N35 := Fr.app N28 N35q
          refine Go.tr st35 ?_
          show Go p e below (T35.setTop (mkF m 95 #[.val (.int p1), .val (.int p2), .val (.int (3 : Int32)), .val (.ref w_LETTER_DIGIT_SPECIAL), .val (.int (1 : Int32)), .val (.int (1 : Int32)), .val (.int (0 : Int32)), .val (.int (0 : Int32))] [(.int (own_met3 (1 : Int32) (1 : Int32) (0 : Int32)))])) _
          refine Go.st (fun _ k_ => XS.iload X35.here hx rfl (hb hby at_95) rfl k_) ?_
          show Go p e below (T35.setTop (mkF m 97 #[.val (.int p1), .val (.int p2), .val (.int (3 : Int32)), .val (.ref w_LETTER_DIGIT_SPECIAL), .val (.int (1 : Int32)), .val (.int (1 : Int32)), .val (.int (0 : Int32)), .val (.int (0 : Int32))] [(.int (0 : Int32)), (.int (own_met3 (1 : Int32) (1 : Int32) (0 : Int32)))])) _
          have hc97 : (own_met3 (1 : Int32) (1 : Int32) (0 : Int32)) = (0 : Int32) := by decide
          refine Go.st (fun _ k_ => XS.icmpNo X35.here hx rfl (hb hby at_97) rfl (teq hc97).2 k_) ?_
          show Go p e below (T35.setTop (mkF m 100 #[.val (.int p1), .val (.int p2), .val (.int (3 : Int32)), .val (.ref w_LETTER_DIGIT_SPECIAL), .val (.int (1 : Int32)), .val (.int (1 : Int32)), .val (.int (0 : Int32)), .val (.int (0 : Int32))] [])) _
          refine Go.st (fun _ k_ => XS.iconst X35.here hx rfl (hb hby at_100) k_) ?_
          show Go p e below (T35.setTop (mkF m 101 #[.val (.int p1), .val (.int p2), .val (.int (3 : Int32)), .val (.ref w_LETTER_DIGIT_SPECIAL), .val (.int (1 : Int32)), .val (.int (1 : Int32)), .val (.int (0 : Int32)), .val (.int (0 : Int32))] [(.int (1 : Int32))])) _
          refine Go.st (fun _ k_ => XS.goto X35.here hx rfl (pc0 := 101) (pc' := 105) rfl (hb hby at_101) (by decide) (by decide) k_) ?_
          show Go p e below (T35.setTop (mkF m 105 #[.val (.int p1), .val (.int p2), .val (.int (3 : Int32)), .val (.ref w_LETTER_DIGIT_SPECIAL), .val (.int (1 : Int32)), .val (.int (1 : Int32)), .val (.int (0 : Int32)), .val (.int (0 : Int32))] [(.int (1 : Int32))])) _
          refine Go.fin X35 (v := some (.int (1 : Int32))) (fun h_ => by rw [Bd.returns] at h_; cases h_) Bd.notSynchronized (fun _ hr => retN X35 hx (t := .boolean) Bd.returns (by simp) (hb hby at_105) hr) (fun U' hU hF => ⟨_, _, rfl, ?_, hF.1, hF.2.1, hF.2.2.mono (by decide) (by decide)⟩)
          exact ⟨(congrArg (fun z_ : Int32 => some (Value.int z_)) (show (1 : Int32) = (1 : Int32) from rfl)), N35⟩
        · refine Go.st (fun _ k_ => XS.ifNo X28.here hx rfl (hb hby at_38) rfl ((if0 _ _).trans (feq hc38).1) k_) ?_
          show Go p e below (T28.setTop (mkF m 41 #[.val (.int p1), .val (.int p2), .val (.int (3 : Int32)), .val (.ref w_LETTER_DIGIT_SPECIAL), .val (.int (1 : Int32)), .val (.int (1 : Int32)), .unset, .unset] [])) _
          refine Go.st (fun _ k_ => XS.iconst X28.here hx rfl (hb hby at_41) k_) ?_
          show Go p e below (T28.setTop (mkF m 42 #[.val (.int p1), .val (.int p2), .val (.int (3 : Int32)), .val (.ref w_LETTER_DIGIT_SPECIAL), .val (.int (1 : Int32)), .val (.int (1 : Int32)), .unset, .unset] [(.int (1 : Int32))])) _
          refine Go.st (fun _ k_ => XS.goto X28.here hx rfl (pc0 := 42) (pc' := 46) rfl (hb hby at_42) (by decide) (by decide) k_) ?_
          show Go p e below (T28.setTop (mkF m 46 #[.val (.int p1), .val (.int p2), .val (.int (3 : Int32)), .val (.ref w_LETTER_DIGIT_SPECIAL), .val (.int (1 : Int32)), .val (.int (1 : Int32)), .unset, .unset] [(.int (1 : Int32))])) _
          refine Go.st (fun _ k_ => XS.istore X28.here hx rfl (hb hby at_46) rfl (l' := #[.val (.int p1), .val (.int p2), .val (.int (3 : Int32)), .val (.ref w_LETTER_DIGIT_SPECIAL), .val (.int (1 : Int32)), .val (.int (1 : Int32)), .val (.int (1 : Int32)), .unset]) rfl k_) ?_
          show Go p e below (T28.setTop (mkF m 48 #[.val (.int p1), .val (.int p2), .val (.int (3 : Int32)), .val (.ref w_LETTER_DIGIT_SPECIAL), .val (.int (1 : Int32)), .val (.int (1 : Int32)), .val (.int (1 : Int32)), .unset] [])) _
          refine Go.st (fun _ k_ => XS.iloadN X28.here hx rfl (hb hby at_48) rfl k_) ?_
          show Go p e below (T28.setTop (mkF m 49 #[.val (.int p1), .val (.int p2), .val (.int (3 : Int32)), .val (.ref w_LETTER_DIGIT_SPECIAL), .val (.int (1 : Int32)), .val (.int (1 : Int32)), .val (.int (1 : Int32)), .unset] [(.int (3 : Int32))])) _
          refine Go.st (fun _ k_ => XS.iconst X28.here hx rfl (hb hby at_49) k_) ?_
          show Go p e below (T28.setTop (mkF m 50 #[.val (.int p1), .val (.int p2), .val (.int (3 : Int32)), .val (.ref w_LETTER_DIGIT_SPECIAL), .val (.int (1 : Int32)), .val (.int (1 : Int32)), .val (.int (1 : Int32)), .unset] [(.int (1 : Int32)), (.int (3 : Int32))])) _
          refine Go.st (fun _ k_ => XS.icmpNo X28.here hx rfl (hb hby at_50) rfl (flt (by decide : ¬ ((3 : Int32) < (1 : Int32)))).1 k_) ?_
          show Go p e below (T28.setTop (mkF m 53 #[.val (.int p1), .val (.int p2), .val (.int (3 : Int32)), .val (.ref w_LETTER_DIGIT_SPECIAL), .val (.int (1 : Int32)), .val (.int (1 : Int32)), .val (.int (1 : Int32)), .unset] [])) _
          refine Go.st (fun _ k_ => XS.iload X28.here hx rfl (hb hby at_53) rfl k_) ?_
          show Go p e below (T28.setTop (mkF m 55 #[.val (.int p1), .val (.int p2), .val (.int (3 : Int32)), .val (.ref w_LETTER_DIGIT_SPECIAL), .val (.int (1 : Int32)), .val (.int (1 : Int32)), .val (.int (1 : Int32)), .unset] [(.int (1 : Int32))])) _
          refine Go.st (fun _ k_ => XS.ifNo X28.here hx rfl (hb hby at_55) rfl ((if0 _ _).trans (feq (by decide : ¬ ((1 : Int32) = (0 : Int32)))).1) k_) ?_
          show Go p e below (T28.setTop (mkF m 58 #[.val (.int p1), .val (.int p2), .val (.int (3 : Int32)), .val (.ref w_LETTER_DIGIT_SPECIAL), .val (.int (1 : Int32)), .val (.int (1 : Int32)), .val (.int (1 : Int32)), .unset] [])) _
          refine Go.st (fun _ k_ => XS.iloadN X28.here hx rfl (hb hby at_58) rfl k_) ?_
          show Go p e below (T28.setTop (mkF m 59 #[.val (.int p1), .val (.int p2), .val (.int (3 : Int32)), .val (.ref w_LETTER_DIGIT_SPECIAL), .val (.int (1 : Int32)), .val (.int (1 : Int32)), .val (.int (1 : Int32)), .unset] [(.int (3 : Int32))])) _
          refine Go.st (fun _ k_ => XS.iconst X28.here hx rfl (hb hby at_59) k_) ?_
          show Go p e below (T28.setTop (mkF m 60 #[.val (.int p1), .val (.int p2), .val (.int (3 : Int32)), .val (.ref w_LETTER_DIGIT_SPECIAL), .val (.int (1 : Int32)), .val (.int (1 : Int32)), .val (.int (1 : Int32)), .unset] [(.int (2 : Int32)), (.int (3 : Int32))])) _
          refine Go.st (fun _ k_ => XS.icmpNo X28.here hx rfl (hb hby at_60) rfl (flt (by decide : ¬ ((3 : Int32) < (2 : Int32)))).1 k_) ?_
          show Go p e below (T28.setTop (mkF m 63 #[.val (.int p1), .val (.int p2), .val (.int (3 : Int32)), .val (.ref w_LETTER_DIGIT_SPECIAL), .val (.int (1 : Int32)), .val (.int (1 : Int32)), .val (.int (1 : Int32)), .unset] [])) _
          refine Go.st (fun _ k_ => XS.iload X28.here hx rfl (hb hby at_63) rfl k_) ?_
          show Go p e below (T28.setTop (mkF m 65 #[.val (.int p1), .val (.int p2), .val (.int (3 : Int32)), .val (.ref w_LETTER_DIGIT_SPECIAL), .val (.int (1 : Int32)), .val (.int (1 : Int32)), .val (.int (1 : Int32)), .unset] [(.int (1 : Int32))])) _
          refine Go.st (fun _ k_ => XS.ifNo X28.here hx rfl (hb hby at_65) rfl ((if0 _ _).trans (feq (by decide : ¬ ((1 : Int32) = (0 : Int32)))).1) k_) ?_
          show Go p e below (T28.setTop (mkF m 68 #[.val (.int p1), .val (.int p2), .val (.int (3 : Int32)), .val (.ref w_LETTER_DIGIT_SPECIAL), .val (.int (1 : Int32)), .val (.int (1 : Int32)), .val (.int (1 : Int32)), .unset] [])) _
          refine Go.st (fun _ k_ => XS.iloadN X28.here hx rfl (hb hby at_68) rfl k_) ?_
          show Go p e below (T28.setTop (mkF m 69 #[.val (.int p1), .val (.int p2), .val (.int (3 : Int32)), .val (.ref w_LETTER_DIGIT_SPECIAL), .val (.int (1 : Int32)), .val (.int (1 : Int32)), .val (.int (1 : Int32)), .unset] [(.int (3 : Int32))])) _
          refine Go.st (fun _ k_ => XS.iconst X28.here hx rfl (hb hby at_69) k_) ?_
          show Go p e below (T28.setTop (mkF m 70 #[.val (.int p1), .val (.int p2), .val (.int (3 : Int32)), .val (.ref w_LETTER_DIGIT_SPECIAL), .val (.int (1 : Int32)), .val (.int (1 : Int32)), .val (.int (1 : Int32)), .unset] [(.int (3 : Int32)), (.int (3 : Int32))])) _
          refine Go.st (fun _ k_ => XS.icmpNo X28.here hx rfl (hb hby at_70) rfl (flt (by decide : ¬ ((3 : Int32) < (3 : Int32)))).1 k_) ?_
          show Go p e below (T28.setTop (mkF m 73 #[.val (.int p1), .val (.int p2), .val (.int (3 : Int32)), .val (.ref w_LETTER_DIGIT_SPECIAL), .val (.int (1 : Int32)), .val (.int (1 : Int32)), .val (.int (1 : Int32)), .unset] [])) _
          refine Go.st (fun _ k_ => XS.iload X28.here hx rfl (hb hby at_73) rfl k_) ?_
          show Go p e below (T28.setTop (mkF m 75 #[.val (.int p1), .val (.int p2), .val (.int (3 : Int32)), .val (.ref w_LETTER_DIGIT_SPECIAL), .val (.int (1 : Int32)), .val (.int (1 : Int32)), .val (.int (1 : Int32)), .unset] [(.int (1 : Int32))])) _
          refine Go.st (fun _ k_ => XS.ifNo X28.here hx rfl (hb hby at_75) rfl ((if0 _ _).trans (feq (by decide : ¬ ((1 : Int32) = (0 : Int32)))).1) k_) ?_
          show Go p e below (T28.setTop (mkF m 78 #[.val (.int p1), .val (.int p2), .val (.int (3 : Int32)), .val (.ref w_LETTER_DIGIT_SPECIAL), .val (.int (1 : Int32)), .val (.int (1 : Int32)), .val (.int (1 : Int32)), .unset] [])) _
          refine Go.st (fun _ k_ => XS.iconst X28.here hx rfl (hb hby at_78) k_) ?_
          show Go p e below (T28.setTop (mkF m 79 #[.val (.int p1), .val (.int p2), .val (.int (3 : Int32)), .val (.ref w_LETTER_DIGIT_SPECIAL), .val (.int (1 : Int32)), .val (.int (1 : Int32)), .val (.int (1 : Int32)), .unset] [(.int (1 : Int32))])) _
          refine Go.st (fun _ k_ => XS.goto X28.here hx rfl (pc0 := 79) (pc' := 83) rfl (hb hby at_79) (by decide) (by decide) k_) ?_
          show Go p e below (T28.setTop (mkF m 83 #[.val (.int p1), .val (.int p2), .val (.int (3 : Int32)), .val (.ref w_LETTER_DIGIT_SPECIAL), .val (.int (1 : Int32)), .val (.int (1 : Int32)), .val (.int (1 : Int32)), .unset] [(.int (1 : Int32))])) _
          refine Go.st (fun _ k_ => XS.istore X28.here hx rfl (hb hby at_83) rfl (l' := #[.val (.int p1), .val (.int p2), .val (.int (3 : Int32)), .val (.ref w_LETTER_DIGIT_SPECIAL), .val (.int (1 : Int32)), .val (.int (1 : Int32)), .val (.int (1 : Int32)), .val (.int (1 : Int32))]) rfl k_) ?_
          show Go p e below (T28.setTop (mkF m 85 #[.val (.int p1), .val (.int p2), .val (.int (3 : Int32)), .val (.ref w_LETTER_DIGIT_SPECIAL), .val (.int (1 : Int32)), .val (.int (1 : Int32)), .val (.int (1 : Int32)), .val (.int (1 : Int32))] [])) _
          refine Go.st (fun _ k_ => XS.aloadN X28.here hx rfl (hb hby at_85) rfl rfl k_) ?_
          show Go p e below (T28.setTop (mkF m 86 #[.val (.int p1), .val (.int p2), .val (.int (3 : Int32)), .val (.ref w_LETTER_DIGIT_SPECIAL), .val (.int (1 : Int32)), .val (.int (1 : Int32)), .val (.int (1 : Int32)), .val (.int (1 : Int32))] [(.ref w_LETTER_DIGIT_SPECIAL)])) _
          refine Go.st (fun _ k_ => XS.iload X28.here hx rfl (hb hby at_86) rfl k_) ?_
          show Go p e below (T28.setTop (mkF m 88 #[.val (.int p1), .val (.int p2), .val (.int (3 : Int32)), .val (.ref w_LETTER_DIGIT_SPECIAL), .val (.int (1 : Int32)), .val (.int (1 : Int32)), .val (.int (1 : Int32)), .val (.int (1 : Int32))] [(.int (1 : Int32)), (.ref w_LETTER_DIGIT_SPECIAL)])) _
          refine Go.st (fun _ k_ => XS.iload X28.here hx rfl (hb hby at_88) rfl k_) ?_
          show Go p e below (T28.setTop (mkF m 90 #[.val (.int p1), .val (.int p2), .val (.int (3 : Int32)), .val (.ref w_LETTER_DIGIT_SPECIAL), .val (.int (1 : Int32)), .val (.int (1 : Int32)), .val (.int (1 : Int32)), .val (.int (1 : Int32))] [(.int (1 : Int32)), (.int (1 : Int32)), (.ref w_LETTER_DIGIT_SPECIAL)])) _
          refine Go.st (fun _ k_ => XS.iload X28.here hx rfl (hb hby at_90) rfl k_) ?_
          show Go p e below (T28.setTop (mkF m 92 #[.val (.int p1), .val (.int p2), .val (.int (3 : Int32)), .val (.ref w_LETTER_DIGIT_SPECIAL), .val (.int (1 : Int32)), .val (.int (1 : Int32)), .val (.int (1 : Int32)), .val (.int (1 : Int32))] [(.int (1 : Int32)), (.int (1 : Int32)), (.int (1 : Int32)), (.ref w_LETTER_DIGIT_SPECIAL)])) _
          obtain ⟨cq36, kq36, q36a, q36b, q36c⟩ := isOf hZ e28 E_w_LETTER_DIGIT_SPECIAL
          obtain ⟨_, _, ⟨T36, L36, k36_, n36_⟩, -, X36, ⟨Lc36, hQ36, l36_, y36_, z36_⟩, st36⟩ := X28.virtualBack hx (y := (⟨"com/example/patuxent/patuxent/PasswordComplexity", "isMetBy", "(ZZZ)Z"⟩ : MethodName)) (z := (⟨"com/example/patuxent/patuxent/PasswordComplexity", "isMetBy", "(ZZZ)Z"⟩ : MethodName)) hown (mvT hZ (hw _ (List.mem_of_getElem? (i := 7) rfl))) (mvT hZ (hw _ (List.mem_of_getElem? (i := 8) rfl))) (notFace_of_selects (args := #[]) (mvT hZ (hw _ (List.mem_of_getElem? (i := 10) rfl)))) (mvT hZ (hw _ (List.mem_of_getElem? (i := 10) rfl))) (mvT hZ (hw _ (List.mem_of_getElem? (i := 9) rfl))) (by decide) (backOf (W := 0) (rm2_3 l Z a0 hw [] w_LETTER_DIGIT_SPECIAL (1 : Int32) (1 : Int32) (1 : Int32) h0 n0 Z0 E_w_LETTER_DIGIT_SPECIAL F_LETTER_DIGIT_SPECIAL) hZ (hw _ (List.mem_of_getElem? (i := 11) rfl)) (hw _ (List.mem_of_getElem? (i := 5) rfl)) (by decide) (by decide)) q36a q36c (g := (mkF m 92 #[.val (.int p1), .val (.int p2), .val (.int (3 : Int32)), .val (.ref w_LETTER_DIGIT_SPECIAL), .val (.int (1 : Int32)), .val (.int (1 : Int32)), .val (.int (1 : Int32)), .val (.int (1 : Int32))] [(.int (1 : Int32)), (.int (1 : Int32)), (.int (1 : Int32)), (.ref w_LETTER_DIGIT_SPECIAL)])) rfl (by rw [hml]; rfl) (Steps.refl _) (argsL := [(.int (1 : Int32)), (.int (1 : Int32)), (.int (1 : Int32))]) (rest := []) (lenOf pd_2 rfl) rfl (by show 2 * 0 + _ ≤ _; exact Nat.le_of_eq rfl) (hb hby at_92) (fun _ _ => ⟨rfl, e28, (by decide : 0 + 0 ≤ _), (by decide : 0 + 0 ≤ _)⟩)
          dsimp only [Pt.U, Pt.locs, Pt.cells, Pt.slots] at X36 l36_ y36_ z36_ st36 hQ36
          subst l36_ y36_ z36_
          obtain ⟨rfl, N36q, e36⟩ := hQ36
          have N36 := Fr.app N28 N36q
          refine Go.tr st36 ?_
          show Go p e below (T36.setTop (mkF m 95 #[.val (.int p1), .val (.int p2), .val (.int (3 : Int32)), .val (.ref w_LETTER_DIGIT_SPECIAL), .val (.int (1 : Int32)), .val (.int (1 : Int32)), .val (.int (1 : Int32)), .val (.int (1 : Int32))] [(.int (own_met3 (1 : Int32) (1 : Int32) (1 : Int32)))])) _
          refine Go.st (fun _ k_ => XS.iload X36.here hx rfl (hb hby at_95) rfl k_) ?_
          show Go p e below (T36.setTop (mkF m 97 #[.val (.int p1), .val (.int p2), .val (.int (3 : Int32)), .val (.ref w_LETTER_DIGIT_SPECIAL), .val (.int (1 : Int32)), .val (.int (1 : Int32)), .val (.int (1 : Int32)), .val (.int (1 : Int32))] [(.int (1 : Int32)), (.int (own_met3 (1 : Int32) (1 : Int32) (1 : Int32)))])) _
          have hc97 : (own_met3 (1 : Int32) (1 : Int32) (1 : Int32)) = (1 : Int32) := by decide
          refine Go.st (fun _ k_ => XS.icmpNo X36.here hx rfl (hb hby at_97) rfl (teq hc97).2 k_) ?_
          show Go p e below (T36.setTop (mkF m 100 #[.val (.int p1), .val (.int p2), .val (.int (3 : Int32)), .val (.ref w_LETTER_DIGIT_SPECIAL), .val (.int (1 : Int32)), .val (.int (1 : Int32)), .val (.int (1 : Int32)), .val (.int (1 : Int32))] [])) _
          refine Go.st (fun _ k_ => XS.iconst X36.here hx rfl (hb hby at_100) k_) ?_
          show Go p e below (T36.setTop (mkF m 101 #[.val (.int p1), .val (.int p2), .val (.int (3 : Int32)), .val (.ref w_LETTER_DIGIT_SPECIAL), .val (.int (1 : Int32)), .val (.int (1 : Int32)), .val (.int (1 : Int32)), .val (.int (1 : Int32))] [(.int (1 : Int32))])) _
          refine Go.st (fun _ k_ => XS.goto X36.here hx rfl (pc0 := 101) (pc' := 105) rfl (hb hby at_101) (by decide) (by decide) k_) ?_
          show Go p e below (T36.setTop (mkF m 105 #[.val (.int p1), .val (.int p2), .val (.int (3 : Int32)), .val (.ref w_LETTER_DIGIT_SPECIAL), .val (.int (1 : Int32)), .val (.int (1 : Int32)), .val (.int (1 : Int32)), .val (.int (1 : Int32))] [(.int (1 : Int32))])) _
          refine Go.fin X36 (v := some (.int (1 : Int32))) (fun h_ => by rw [Bd.returns] at h_; cases h_) Bd.notSynchronized (fun _ hr => retN X36 hx (t := .boolean) Bd.returns (by simp) (hb hby at_105) hr) (fun U' hU hF => ⟨_, _, rfl, ?_, hF.1, hF.2.1, hF.2.2.mono (by decide) (by decide)⟩)
          exact ⟨(congrArg (fun z_ : Int32 => some (Value.int z_)) (show (1 : Int32) = (1 : Int32) from rfl)), N36⟩
set_option maxRecDepth 65536 in
set_option maxHeartbeats 40000000 in
theorem comes_1 {Post : Tables → Env → Array Value → State → Outcome → State → Prop} (hpost : ∀ tb e args s v u, (limb_1_1.after args s (.returned v) u = true ∧ limb_1_2.after args s (.returned v) u = true ∧ True) → FrameEnd s (.returned v) u (Jvm.fieldLocs frame_1_writes args s ++ Jvm.arrayLocs frame_1_arrays args s ++ Jvm.staticLocs frame_1_statics s) 0 0 → Post tb e args s (.returned v) u) :
    ArmFor flags0 classFile x code maxLocals ret World_1 tables_1 room_1 Calls_1 rest_1 Pre_1 Post := by
  intro l hfl _ _ p e ha hc hk s m args below hf hA hF happ hP
  obtain ⟨hcalls, hrest, hpre⟩ := hP
  obtain ⟨-, -, -, hnamed, -, -, -, hat⟩ := (Spec.applies_iff hf).mp happ
  obtain ⟨hg, hn⟩ := and_e (Cond.before_iff.mp (show (Jvm.Cond.and given_1 narrow_1).before args s = true from hpre))
  obtain ⟨g1, g2⟩ := and_e hg
  obtain ⟨g3, g4⟩ := and_e g2
  obtain ⟨g5, g6⟩ := and_e hn
  obtain ⟨g7, g8⟩ := and_e g6
  obtain ⟨g9, g10⟩ := and_e g8
  obtain ⟨g11, g12⟩ := and_e g10
  obtain ⟨g13, g14⟩ := and_e g12
  obtain ⟨g15, g16⟩ := and_e g14
  obtain ⟨g17, g18⟩ := and_e g16
  obtain ⟨w0, w1, rfl⟩ : ∃ w0 w1 : Value, args = #[w0, w1] := by
    have hs : args.size = 2 := by simpa [Cond.value, given_1] using g1
    obtain ⟨L⟩ := args
    match L, hs with
    | [w0, w1], _ => exact ⟨w0, w1, rfl⟩
  have hw := fun d (hd : d ∈ tables_1) => atoms_spec (ws := Jvm.Cond.code x code maxLocals ret :: tables_1) hat d (List.mem_cons_of_mem _ hd)
  have hfit : Fit s := fun {y c} hc i hi => by
    obtain ⟨ha, rfl⟩ := Array.getElem?_eq_some_iff.mp hc
    have q := List.all_eq_true.mp ((Array.all_eq_true_iff_forall_mem.mp hF) _ (Array.getElem_mem ha)) i (List.mem_range.mpr hi)
    simpa [Array.getElem?_eq_getElem hi] using q
  obtain ⟨i0, ei0⟩ := is_v g3
  obtain rfl : w0 = (.int i0) := Option.some.inj ei0
  obtain ⟨i1, ei1⟩ := is_v g4
  obtain rfl : w1 = (.int i1) := Option.some.inj ei1
  obtain ⟨w_ANY, ew_ANY⟩ := exa_v g5
  have E_w_ANY := Exa.start ew_ANY g5
  have S_ANY := Sta.start ew_ANY (Or.inr ⟨(hw _ (List.mem_of_getElem? (i := 5) rfl)), (hw _ (List.mem_of_getElem? (i := 6) rfl))⟩)
  obtain ⟨w_LETTER_DIGIT, ew_LETTER_DIGIT⟩ := exa_v g9
  have E_w_LETTER_DIGIT := Exa.start ew_LETTER_DIGIT g9
  have S_LETTER_DIGIT := Sta.start ew_LETTER_DIGIT (Or.inr ⟨(hw _ (List.mem_of_getElem? (i := 5) rfl)), (hw _ (List.mem_of_getElem? (i := 22) rfl))⟩)
  obtain ⟨w_LETTER, ew_LETTER⟩ := exa_v g13
  have E_w_LETTER := Exa.start ew_LETTER g13
  have S_LETTER := Sta.start ew_LETTER (Or.inr ⟨(hw _ (List.mem_of_getElem? (i := 5) rfl)), (hw _ (List.mem_of_getElem? (i := 24) rfl))⟩)
  obtain ⟨w_LETTER_DIGIT_SPECIAL, ew_LETTER_DIGIT_SPECIAL⟩ := exa_v g17
  have E_w_LETTER_DIGIT_SPECIAL := Exa.start ew_LETTER_DIGIT_SPECIAL g17
  have S_LETTER_DIGIT_SPECIAL := Sta.start ew_LETTER_DIGIT_SPECIAL (Or.inr ⟨(hw _ (List.mem_of_getElem? (i := 5) rfl)), (hw _ (List.mem_of_getElem? (i := 26) rfl))⟩)
  have o_ordinal_ANY := own_ord ew_ANY g7
  have o_ordinal_LETTER_DIGIT := own_ord ew_LETTER_DIGIT g11
  have o_ordinal_LETTER := own_ord ew_LETTER g15
  have o_ordinal_LETTER_DIGIT_SPECIAL := own_ord ew_LETTER_DIGIT_SPECIAL g18
  obtain ⟨n, o, h1, h2, h3, _, L, rfl, ⟨rfl, N⟩, hq⟩ := rm0 l s _ hw tables_1 i0 i1 w_ANY w_LETTER w_LETTER_DIGIT w_LETTER_DIGIT_SPECIAL s.heap s.heap.size (Nat.le_refl _) S_ANY S_LETTER S_LETTER_DIGIT S_LETTER_DIGIT_SPECIAL E_w_ANY E_w_LETTER E_w_LETTER_DIGIT E_w_LETTER_DIGIT_SPECIAL (Fld.start o_ordinal_ANY) (Fld.start o_ordinal_LETTER) (Fld.start o_ordinal_LETTER_DIGIT) (Fld.start o_ordinal_LETTER_DIGIT_SPECIAL) p e ha hc hk s m _ below hf ((Spec.applies_iff_loose hf).mp happ).1 ⟨rfl, State.Warmed39.refl s, rfl⟩ trivial
  refine ⟨n, _, h1, h2, h3, hpost _ _ _ _ _ _ ⟨Cond.after_iff.mpr rfl, Cond.after_iff.mpr (eq_i res_at (Term.int_eval (1)) rfl), trivial⟩ ⟨hq.1, hq.2.1, (hq.2.2.sift fun y hy => Or.inr (N y hy)).mono (by decide) (by decide)⟩⟩
theorem main_1_1 : Claimed_1_1 := comes_1 fun _ _ _ _ _ _ h hF => ⟨h.1, hF⟩
theorem main_1_2 : Claimed_1_2 := comes_1 fun _ _ _ _ _ _ h hF => ⟨h.2.1, hF⟩
end Jvm.Pilot.@@N@@
namespace Jvm.Pilot.@@N@@
open Jvm Jvm.ClassFile Sem Op Lib Jvm.Free Jvm.Stand Jvm.Pilot.@@N@@.Jvm.D
/-! MADE BY PROGRAM (witnessworld.py) out of the Statement's table words and the real class files: 12 classes; the members and pool entries that the words name. The judged class is class 1, her method 2. -/
namespace start1
open Jvm.ClassFile
def u (s : String) : CpInfo := .utf8 (stringToUtf16 s)
/-- a pool by its gaps: so many unusable entries, then the entry; so many at the end -/
def gap : Nat → List CpInfo → List CpInfo
  | 0, r => r
  | n + 1, r => .unusable :: gap n r
def poolList (es : List (Nat × CpInfo)) (last : Nat) : List CpInfo := es.foldr (fun e r => gap e.1 (e.2 :: r)) (gap last [])
def pool (es : List (Nat × CpInfo)) (last : Nat) : Array CpInfo := ⟨poolList es last⟩
def fileOf (pool : Array CpInfo) (this : Nat) (attrs : Array Attribute := #[]) (ms : Array MethodInfo := #[]) (fl : Nat := 33) (sup : Nat := 0) (ifs : Array Nat := #[]) (fds : Array FieldInfo := #[]) : ClassFile where
  minorVersion := 0
  majorVersion := 65
  constantPool := pool
  accessFlags := fl
  thisClass := this
  superClass := sup
  interfaces := ifs
  fields := fds
  methods := ms
  attributes := attrs
def plain (name : String) (sup : Option ClassId) : Class where
  name := name
  kind := .ordinary
  loader := none
  accessFlags := 33
  super := sup
  interfaces := #[]
  cf := none
  fields := #[]
  methods := #[]
  instanceTypes := #[]
  staticTypes := #[]
  resolved := #[]
  callSites := []
  init := .initialized
  statics := none
  mirror := none

def pool0 : Array CpInfo := pool [(5, u "<init>"), (0, u "()V"), (1, .class_ 10), (1, u "java/lang/Object")] 113

def k0m0 : Method := { name := "<init>", desc := "()V", sig := { parameters := [], returnType := none }, accessFlags := 1, code := none }
/-- java/lang/Object -/
def k0 : Class := { plain "java/lang/Object" none with
  accessFlags := 33
  interfaces := #[]
  cf := some (fileOf pool0 8 #[] #[{ accessFlags := 1, nameIndex := 5, descriptorIndex := 6, attributes := #[] }] 33 0 #[] #[])
  fields := #[]
  methods := #[k0m0]
  instanceTypes := #[]
  staticTypes := #[]
  resolved := Array.replicate 124 none
  statics := none }

def pool1 : Array CpInfo := pool [(2, .class_ 4), (1, u "java/lang/Object"), (0, u "<init>"), (0, u "()V"), (0, .fieldref 8 9), (0, .class_ 10), (0, .nameAndType 11 12), (0, u "com/example/patuxent/patuxent/PasswordComplexity"), (0, u "ANY"), (0, u "Lcom/example/patuxent/patuxent/PasswordComplexity;"), (0, .fieldref 8 14), (0, .nameAndType 15 12), (0, u "LETTER"), (0, .fieldref 8 17), (0, .nameAndType 18 12), (0, u "LETTER_DIGIT"), (0, .fieldref 8 20), (0, .nameAndType 21 12), (0, u "LETTER_DIGIT_SPECIAL"), (0, .methodref 23 24), (0, .class_ 25), (0, .nameAndType 26 27), (0, u "com/example/patuxent/patuxent/PasswordComplexityIsMetByPinLaw"), (0, u "levelOf"), (0, u "(I)Lcom/example/patuxent/patuxent/PasswordComplexity;"), (0, .methodref 8 29), (0, .nameAndType 30 31), (0, u "isMetBy"), (0, u "(ZZZ)Z"), (3, u "law"), (0, u "(II)Z")] 2

def k1m0 : Method := { name := "<init>", desc := "()V", sig := { parameters := [], returnType := none }, accessFlags := 2, code := none }
def k1c1 : Code := { maxStack := 2, maxLocals := 1, code := method_2_code, exceptionTable := #[], attributes := #[] }
def k1m1 : Method := { name := "levelOf", desc := "(I)Lcom/example/patuxent/patuxent/PasswordComplexity;", sig := { parameters := [.int], returnType := some (.object "com/example/patuxent/patuxent/PasswordComplexity") }, accessFlags := 10, code := some k1c1 }
def k1c2 : Code := { maxStack := 4, maxLocals := 8, code := code, exceptionTable := #[], attributes := #[] }
def k1m2 : Method := { name := "law", desc := "(II)Z", sig := { parameters := [.int, .int], returnType := some .boolean }, accessFlags := 9, code := some k1c2 }
/-- com/example/patuxent/patuxent/PasswordComplexityIsMetByPinLaw -/
def k1 : Class := { plain "com/example/patuxent/patuxent/PasswordComplexityIsMetByPinLaw" (some 0) with
  accessFlags := 49
  interfaces := #[]
  cf := some (fileOf pool1 23 #[] #[{ accessFlags := 2, nameIndex := 5, descriptorIndex := 6, attributes := #[] }, { accessFlags := 10, nameIndex := 26, descriptorIndex := 27, attributes := #[] }, { accessFlags := 9, nameIndex := 35, descriptorIndex := 36, attributes := #[] }] 49 2 #[] #[])
  fields := #[]
  methods := #[k1m0, k1m1, k1m2]
  instanceTypes := #[]
  staticTypes := #[]
  resolved := Array.replicate 39 none
  statics := none }

def pool2 : Array CpInfo := pool [(1, .class_ 2), (0, u "java/lang/constant/Constable"), (0, .class_ 4), (0, u "java/lang/Object")] 6

/-- java/lang/constant/Constable -/
def k2 : Class := { plain "java/lang/constant/Constable" (some 0) with
  accessFlags := 1537
  interfaces := #[]
  cf := some (fileOf pool2 1 #[] #[] 1537 3 #[] #[])
  fields := #[]
  methods := #[]
  instanceTypes := #[]
  staticTypes := #[]
  resolved := Array.replicate 11 none
  statics := none }

def pool3 : Array CpInfo := pool [(1, .class_ 2), (0, u "java/lang/Comparable"), (0, .class_ 4), (0, u "java/lang/Object")] 7

/-- java/lang/Comparable -/
def k3 : Class := { plain "java/lang/Comparable" (some 0) with
  accessFlags := 1537
  interfaces := #[]
  cf := some (fileOf pool3 1 #[] #[] 1537 3 #[] #[])
  fields := #[]
  methods := #[]
  instanceTypes := #[]
  staticTypes := #[]
  resolved := Array.replicate 12 none
  statics := none }

def pool4 : Array CpInfo := pool [(1, .class_ 2), (0, u "java/io/Serializable"), (0, .class_ 4), (0, u "java/lang/Object")] 2

/-- java/io/Serializable -/
def k4 : Class := { plain "java/io/Serializable" (some 0) with
  accessFlags := 1537
  interfaces := #[]
  cf := some (fileOf pool4 1 #[] #[] 1537 3 #[] #[])
  fields := #[]
  methods := #[]
  instanceTypes := #[]
  staticTypes := #[]
  resolved := Array.replicate 7 none
  statics := none }

def pool5 : Array CpInfo := pool [(2, .class_ 4), (1, u "java/lang/Enum"), (0, u "name"), (0, u "Ljava/lang/String;"), (0, .fieldref 2 8), (0, .nameAndType 9 10), (0, u "ordinal"), (0, u "I"), (1, .class_ 14), (1, u "java/lang/Object"), (4, u "hash"), (86, .class_ 108), (1, u "java/lang/Enum$EnumDesc"), (2, .class_ 112), (0, u "java/lang/constant/Constable"), (0, .class_ 114), (0, u "java/lang/Comparable"), (0, .class_ 116), (0, u "java/io/Serializable"), (9, u "()I")] 77

def k5c0 : Code := { maxStack := 1, maxLocals := 1, code := jdk_37_method_2_code, exceptionTable := #[], attributes := #[] }
def k5m0 : Method := { name := "ordinal", desc := "()I", sig := { parameters := [], returnType := some .int }, accessFlags := 17, code := some k5c0 }
/-- java/lang/Enum -/
def k5 : Class := { plain "java/lang/Enum" (some 0) with
  accessFlags := 1057
  interfaces := #[2, 3, 4]
  cf := some (fileOf pool5 2 #[.nestMembers #[106]] #[{ accessFlags := 17, nameIndex := 9, descriptorIndex := 126, attributes := #[] }] 1057 12 #[111, 113, 115] #[{ accessFlags := 18, nameIndex := 5, descriptorIndex := 6, attributes := #[] }, { accessFlags := 18, nameIndex := 9, descriptorIndex := 10, attributes := #[] }, { accessFlags := 2, nameIndex := 19, descriptorIndex := 10, attributes := #[] }])
  fields := #[{ name := "name", type := (.object "java/lang/String"), accessFlags := 18, slot := 0, constantValue := 0 }, { name := "ordinal", type := .int, accessFlags := 18, slot := 1, constantValue := 0 }, { name := "hash", type := .int, accessFlags := 2, slot := 2, constantValue := 0 }]
  methods := #[k5m0]
  instanceTypes := #[(.object "java/lang/String"), .int, .int]
  staticTypes := #[]
  resolved := Array.replicate 204 none
  statics := none }

def pool6 : Array CpInfo := pool [(1, .class_ 2), (0, u "com/example/patuxent/patuxent/PasswordComplexity"), (2, u "ANY"), (0, u "Lcom/example/patuxent/patuxent/PasswordComplexity;"), (2, u "LETTER"), (2, u "LETTER_DIGIT"), (2, u "LETTER_DIGIT_SPECIAL"), (2, u "$VALUES"), (0, u "[Lcom/example/patuxent/patuxent/PasswordComplexity;"), (6, .class_ 28), (1, u "java/lang/Enum"), (8, u "label"), (0, u "Ljava/lang/String;"), (2, u "code"), (0, u "I"), (25, .methodref 1 69), (0, .nameAndType 70 71), (0, u "ordinal"), (0, u "()I"), (34, u "isMetBy"), (0, u "(ZZZ)Z")] 21

def k6c0 : Code := { maxStack := 4, maxLocals := 4, code := prog_8_method_8_code, exceptionTable := #[], attributes := #[] }
def k6m0 : Method := { name := "isMetBy", desc := "(ZZZ)Z", sig := { parameters := [.boolean, .boolean, .boolean], returnType := some .boolean }, accessFlags := 0, code := some k6c0 }
/-- com/example/patuxent/patuxent/PasswordComplexity -/
def k6 : Class := { plain "com/example/patuxent/patuxent/PasswordComplexity" (some 5) with
  accessFlags := 16433
  interfaces := #[]
  cf := some (fileOf pool6 1 #[] #[{ accessFlags := 0, nameIndex := 106, descriptorIndex := 107, attributes := #[] }] 16433 26 #[] #[{ accessFlags := 16409, nameIndex := 5, descriptorIndex := 6, attributes := #[] }, { accessFlags := 16409, nameIndex := 9, descriptorIndex := 6, attributes := #[] }, { accessFlags := 16409, nameIndex := 12, descriptorIndex := 6, attributes := #[] }, { accessFlags := 16409, nameIndex := 15, descriptorIndex := 6, attributes := #[] }, { accessFlags := 18, nameIndex := 37, descriptorIndex := 38, attributes := #[] }, { accessFlags := 18, nameIndex := 41, descriptorIndex := 42, attributes := #[] }, { accessFlags := 4122, nameIndex := 18, descriptorIndex := 19, attributes := #[] }])
  fields := #[{ name := "ANY", type := (.object "com/example/patuxent/patuxent/PasswordComplexity"), accessFlags := 16409, slot := 0, constantValue := 0 }, { name := "LETTER", type := (.object "com/example/patuxent/patuxent/PasswordComplexity"), accessFlags := 16409, slot := 1, constantValue := 0 }, { name := "LETTER_DIGIT", type := (.object "com/example/patuxent/patuxent/PasswordComplexity"), accessFlags := 16409, slot := 2, constantValue := 0 }, { name := "LETTER_DIGIT_SPECIAL", type := (.object "com/example/patuxent/patuxent/PasswordComplexity"), accessFlags := 16409, slot := 3, constantValue := 0 }, { name := "label", type := (.object "java/lang/String"), accessFlags := 18, slot := 3, constantValue := 0 }, { name := "code", type := .int, accessFlags := 18, slot := 4, constantValue := 0 }, { name := "$VALUES", type := (.array (.object "com/example/patuxent/patuxent/PasswordComplexity")), accessFlags := 4122, slot := 4, constantValue := 0 }]
  methods := #[k6m0]
  instanceTypes := #[(.object "java/lang/String"), .int, .int, (.object "java/lang/String"), .int]
  staticTypes := #[(.object "com/example/patuxent/patuxent/PasswordComplexity"), (.object "com/example/patuxent/patuxent/PasswordComplexity"), (.object "com/example/patuxent/patuxent/PasswordComplexity"), (.object "com/example/patuxent/patuxent/PasswordComplexity"), (.array (.object "com/example/patuxent/patuxent/PasswordComplexity"))]
  resolved := Array.replicate 129 none
  statics := some 0 }

def pool7 : Array CpInfo := pool [(1, u "java/lang/Cloneable"), (0, .class_ 1), (0, u "java/lang/Object"), (0, .class_ 3)] 3

/-- java/lang/Cloneable -/
def k7 : Class := { plain "java/lang/Cloneable" (some 0) with
  accessFlags := 1537
  interfaces := #[]
  cf := some (fileOf pool7 2 #[] #[] 1537 4 #[] #[])
  fields := #[]
  methods := #[]
  instanceTypes := #[]
  staticTypes := #[]
  resolved := Array.replicate 8 none
  statics := none }

/-- the primitive byte -/
def k8 : Class := { plain "byte" none with kind := .primitive 'B', accessFlags := 0x411 }
/-- [B -/
def k9 : Class := { plain "[B" (some 0) with kind := .array 8 .byte, interfaces := #[7, 4], accessFlags := 1041 }

/-- the primitive int -/
def k10 : Class := { plain "int" none with kind := .primitive 'I', accessFlags := 0x411 }
/-- [I -/
def k11 : Class := { plain "[I" (some 0) with kind := .array 10 .int, interfaces := #[7, 4], accessFlags := 1041 }

def heap : Heap := #[{ cls := 6, slots := #[.ref 1, .ref 2, .ref 3, .ref 4, .null], vm := .statics 6 },
  { cls := 6, slots := #[.null, .int 0, .int 0, .null, .int 0], vm := .none },
  { cls := 6, slots := #[.null, .int 1, .int 0, .null, .int 1], vm := .none },
  { cls := 6, slots := #[.null, .int 2, .int 0, .null, .int 2], vm := .none },
  { cls := 6, slots := #[.null, .int 3, .int 0, .null, .int 3], vm := .none }]
def classes : Array Class := #[k0, k1, k2, k3, k4, k5, k6, k7, k8, k9, k10, k11]
def interned : List (Array UInt16 × Addr) := []
def slotsUsed : Nat := 25
def theMethod : MethodId := ⟨1, 2⟩
def args0 : Array Value := #[.int 5, .int 7]
def aboutOver (below : List Frame) : State where
  vm := { classes := classes, interned := interned.toArray }
  heap := heap
  slotsUsed := slotsUsed
  threads := #[{ frames := .invoking theMethod args0 :: below }]
def below0 : List Frame := [.native { method := ⟨0, 0⟩, args := #[] }]
def about1 : State := aboutOver below0
def p0 : Program := .bare "" "" ""
def e0 : Env := launch0.env 0 0 0
theorem w_frames : about1.frames = Frame.invoking theMethod args0 :: below0 := rfl
set_option maxRecDepth 65536 in
theorem w_args : argsFit about1.vm theMethod args0 = true := by decide +kernel
set_option maxRecDepth 65536 in
theorem w_heap : heapFits about1 = true := by decide +kernel
set_option maxRecDepth 65536 in
theorem w_runnable : about1.curStatus? = some .runnable := by decide +kernel
set_option maxRecDepth 65536 in
theorem w_alone : about1.alone = true := by decide +kernel
set_option maxRecDepth 65536 in
theorem w_named : about1.methodNamed? x = some theMethod := by decide +kernel
set_option maxRecDepth 65536 in
theorem w_hears : about1.hears theMethod below0 = true := by decide +kernel
set_option maxRecDepth 65536 in
theorem w_ripe : about1.ripe theMethod args0 below0 = true := by decide +kernel
theorem w_running : about1.status = .running := rfl
set_option maxRecDepth 65536 in
theorem w_room : about1.hasRoom e0.platform room_1 = true :=
  launch0.hasRoom_least _ room_1 (by decide +kernel) (by decide +kernel) (by decide +kernel) (by decide +kernel) (by decide +kernel) (by decide +kernel)
theorem allAtoms_all (ts : List Jvm.Cond) (a : Array Jvm.Value) (st : Jvm.State) : (allAtoms ts).before a st = ts.all (fun c => c.before a st) := by
  induction ts with
  | nil => rfl
  | cons c t ih =>
    show (Jvm.Cond.and c (allAtoms t)).before a st = _
    rw [Jvm.Cond.before_and, ih, List.all_cons]
def words1 : List Jvm.Cond := Jvm.Cond.code x code maxLocals ret :: tables_1
/-- a 'code' word, met by the world's own term for the bytes: nothing is compared byte by byte -/
theorem code_word {y : MethodName} {bytes : ByteArray} {mx : Nat} {rt : Option FieldType} {a : Array Value} {s : State} {m : MethodId} {meth : Method} {c : Code} (h1 : s.methodNamed? y = some m) (h2 : s.vm.method? m = some meth) (h3 : meth.code = some c) (h4 : c.code = bytes)
    (h5 : (c.maxLocals == mx && c.exceptionTable.isEmpty && decide (c.maxStack ≤ mostOperands) && decide (meth.sig.returnType = rt) && !meth.locks && decide (parseMethodDescriptor y.desc = some meth.sig)) = true) : (Jvm.Cond.code y bytes mx rt).before a s = true := by
  simp only [Bool.and_eq_true, beq_iff_eq, Bool.not_eq_true', decide_eq_true_eq] at h5
  obtain ⟨⟨⟨⟨⟨g1, g2⟩, g3⟩, g4⟩, g5⟩, g6⟩ := h5
  simp [Cond.before, Cond.holds, Cond.value, h1, h2, h3, h4, g1, g2, g3, g4, g5, g6]
def isCode : Jvm.Cond → Bool
  | .code _ _ _ _ => true
  | _ => false
theorem all_split {L : List Jvm.Cond} {P : Jvm.Cond → Bool} (h1 : L.all (fun c => isCode c || P c) = true) (h2 : ∀ c ∈ L.filter isCode, P c = true) : L.all P = true := by
  refine List.all_eq_true.mpr fun c hc => ?_
  have h := List.all_eq_true.mp h1 c hc
  rcases Bool.eq_false_or_eq_true (isCode c) with hi | hi
  · exact h2 c (List.mem_filter.mpr ⟨hc, hi⟩)
  · simpa [hi] using h
set_option maxRecDepth 65536 in
theorem w_c0 : (Jvm.Cond.code x code maxLocals ret).before args0 about1 = true := code_word (m := ⟨1, 2⟩) (meth := k1m2) (c := k1c2) (by decide +kernel) rfl rfl rfl (by decide +kernel)
set_option maxRecDepth 65536 in
theorem w_c1 : (Jvm.Cond.code ({ cls := "com/example/patuxent/patuxent/PasswordComplexityIsMetByPinLaw", name := "levelOf", desc := "(I)Lcom/example/patuxent/patuxent/PasswordComplexity;" } : Jvm.MethodName) method_2_code (1 : Nat) (Option.some (Jvm.ClassFile.FieldType.object "com/example/patuxent/patuxent/PasswordComplexity"))).before args0 about1 = true := code_word (m := ⟨1, 1⟩) (meth := k1m1) (c := k1c1) (by decide +kernel) rfl rfl rfl (by decide +kernel)
set_option maxRecDepth 65536 in
theorem w_c2 : (Jvm.Cond.code ({ cls := "com/example/patuxent/patuxent/PasswordComplexity", name := "isMetBy", desc := "(ZZZ)Z" } : Jvm.MethodName) prog_8_method_8_code (4 : Nat) (Option.some Jvm.ClassFile.FieldType.boolean)).before args0 about1 = true := code_word (m := ⟨6, 0⟩) (meth := k6m0) (c := k6c0) (by decide +kernel) rfl rfl rfl (by decide +kernel)
set_option maxRecDepth 65536 in
theorem w_c3 : (Jvm.Cond.code ({ cls := "java/lang/Enum", name := "ordinal", desc := "()I" } : Jvm.MethodName) jdk_37_method_2_code (1 : Nat) (Option.some Jvm.ClassFile.FieldType.int)).before args0 about1 = true := code_word (m := ⟨5, 0⟩) (meth := k5m0) (c := k5c0) (by decide +kernel) rfl rfl rfl (by decide +kernel)
def codes1 : List Jvm.Cond := [Jvm.Cond.code x code maxLocals ret, Jvm.Cond.code ({ cls := "com/example/patuxent/patuxent/PasswordComplexityIsMetByPinLaw", name := "levelOf", desc := "(I)Lcom/example/patuxent/patuxent/PasswordComplexity;" } : Jvm.MethodName) method_2_code (1 : Nat) (Option.some (Jvm.ClassFile.FieldType.object "com/example/patuxent/patuxent/PasswordComplexity")), Jvm.Cond.code ({ cls := "com/example/patuxent/patuxent/PasswordComplexity", name := "isMetBy", desc := "(ZZZ)Z" } : Jvm.MethodName) prog_8_method_8_code (4 : Nat) (Option.some Jvm.ClassFile.FieldType.boolean), Jvm.Cond.code ({ cls := "java/lang/Enum", name := "ordinal", desc := "()I" } : Jvm.MethodName) jdk_37_method_2_code (1 : Nat) (Option.some Jvm.ClassFile.FieldType.int)]
set_option maxRecDepth 65536 in
theorem codes_eq : words1.filter isCode = codes1 := rfl
theorem w_codes : ∀ c ∈ words1.filter isCode, c.before args0 about1 = true := by
  rw [codes_eq]
  intro c hc
  simp only [codes1, List.mem_cons, List.not_mem_nil, or_false] at hc
  rcases hc with rfl | rfl | rfl | rfl
  · exact w_c0
  · exact w_c1
  · exact w_c2
  · exact w_c3
set_option maxRecDepth 65536 in
theorem w_t1 : (words1.take 24).all (fun c => isCode c || c.before args0 about1) = true := by decide +kernel
set_option maxRecDepth 65536 in
theorem w_t2 : (words1.drop 24).all (fun c => isCode c || c.before args0 about1) = true := by decide +kernel
theorem w_tables : (allAtoms (Jvm.Cond.code x code maxLocals ret :: tables_1)).before args0 about1 = true := by
  rw [allAtoms_all]
  show words1.all (fun c => c.before args0 about1) = true
  refine all_split ?_ w_codes
  rw [← List.take_append_drop 24 words1, List.all_append, w_t1, w_t2]
  rfl
set_option maxRecDepth 65536 in
theorem w_case : (Jvm.Cond.and given_1 narrow_1).before args0 about1 = true := by decide +kernel
theorem w_applies : (headSpec (Jvm.Cond.code x code maxLocals ret :: tables_1) room_1).applies x e0.platform about1 = true :=
  (Spec.applies_iff w_frames).mpr ⟨w_running, w_runnable, w_alone, w_named, w_hears, w_ripe, w_room, w_tables⟩
theorem atStart : AtStart classFile x code maxLocals ret World_1 tables_1 room_1 Calls_1 rest_1 Pre_1 launch0 p0 e0 about1 theMethod args0 below0 :=
  ⟨lists_1, trivial, launch0.admits_env _ _ _, launch0.least_env, fairChoices_fair.cas, fairChoices_fair.clock, w_frames, w_args, w_heap, w_applies, trivial, trivial, w_case⟩
end start1
theorem witness_1 : WitnessClaimed_1 := ⟨start1.p0, start1.e0, start1.about1, start1.theMethod, start1.args0, start1.below0, start1.atStart⟩
end Jvm.Pilot.@@N@@
