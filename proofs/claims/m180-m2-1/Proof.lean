import JvmDerived
import JvmDerived.Pilot.@@N@@Statement
import JvmDerived.Pilot.@@N@@Code
set_option linter.unusedVariables false
set_option linter.unusedSimpArgs false
@@BLOCK:NumsL.lean.txt@@
namespace Jvm.RoadKit
open Sem ClassFile Op Lib Jvm.Stand Jvm.Free Jvm.LawKit
section Own
variable {p : Program} {l : Launch} {e : Env} {R : Room} {s : State} {m : MethodId} {args : Array Value} {below : List Frame} {meth : Method} {c : Code} {T : State} {locs : List Loc} {cells slots : Nat}
/-- from U the run ends, and P is said of the end -/
def Go (p : Program) (e : Env) (below : List Frame) (U : State) (P : Outcome → State → Prop) : Prop := ∃ s₂ o, Steps p.tables e below U s₂ ∧ s₂.status = .running ∧ Ended s₂ below o ∧ P o s₂
theorem Go.st {U U' : State} {P : Outcome → State → Prop} (k : ∀ t, Steps p.tables e below U' t → Steps p.tables e below U t) (g : Go p e below U' P) : Go p e below U P := by
  obtain ⟨t, o, a, r⟩ := g
  exact ⟨t, o, k t a, r⟩
theorem Go.tr {U U' : State} {P : Outcome → State → Prop} (k : Steps p.tables e below U U') (g : Go p e below U' P) : Go p e below U P := by
  obtain ⟨t, o, a, r⟩ := g
  exact ⟨t, o, k.trans a, r⟩
theorem Go.fin (X : Stand p l e R s m args below meth c T locs cells slots) {v : Option Value} (hv : meth.sig.returnType = none → v = none) (hlocks : meth.locks = false) {U : State} {P : Outcome → State → Prop}
    (st : ∀ fs, (∀ (f : JFrame) (acts : List Action), f.method = m → f.locked = none → f.entered = [] → (doReturn e (T.setTop f) acts v).1 = T.setFrames fs) → Steps p.tables e below U (T.setFrames fs))
    (hP : ∀ U' : State, U'.heap = T.heap → FrameEnd s (.returned v) U' locs cells slots → P (.returned v) U') : Go p e below U P := by
  obtain ⟨fs, hr, hrun, hended, hW, hsame⟩ := X.leave hv hlocks
  exact ⟨_, _, st fs hr, hrun, hended, hP _ rfl ⟨⟨_, rfl⟩, hW, hsame⟩⟩
theorem own_ord {a0 : Array Value} {t : Term} {a : Addr} {C n d : String} {k : Int32} (ev : t.eval a0 s none [] s = some (.ref a)) (h : (Cond.eq (.field t C n d) (.int k)).value a0 s none s [] = some true) : s.fieldOf? a C n d = some (.int k) := by
  have e1 := fld_at (C := C) (n := n) (dd := d) ev
  have e2 : (Term.int k).eval a0 s none [] s = some (.int k) := rfl
  cases hf : s.fieldOf? a C n d with
  | none => rw [hf] at e1; simp [Cond.value, e1] at h
  | some w =>
    rw [hf] at e1
    cases w <;> simp [Cond.value, e1, e2] at h
    rw [h]
theorem own_ne {a b : Addr} {C n d : String} {j k : Int32} (h1 : s.fieldOf? a C n d = some (.int j)) (h2 : s.fieldOf? b C n d = some (.int k)) (hne : j ≠ k) : a ≠ b := fun q => by
  subst q
  rw [h1] at h2
  exact hne (by injection (Option.some.inj h2))
theorem own_lsw {g : JFrame} {target : State} (X : Stand p l e R s m args below meth c T locs cells slots) (hx : p.tables.exec = Jvm.exec) (hg : g.method = m) {dflt : Int} {pairs : Array (Int × Int)} {len : Nat} {pc0 pc' : Nat} (hpc : g.pc = pc0)
    (hd : decode c.code g.pc = .ok (.lookupswitch dflt pairs, len)) {i : Int32} {rest : List Value} (hs : g.stack = .int i :: rest) {o : Int} (ho : lookupswitch.offset pairs.toList dflt i.toInt = o) (hso : ∀ (a b a_1 b_1 : Int), ((a, b), a_1, b_1) ∈ pairs.toList.zip pairs.toList.tail → a < a_1) (h0 : 0 ≤ (pc0 : Int) + o) (hp : ((pc0 : Int) + o).toNat = pc')
    (hr : Steps p.tables e below (T.setTop { g with pc := pc', stack := rest }) target) : Steps p.tables e below (T.setTop g) target := by
  subst hg hpc hp ho
  jvm_step X.here [X.here.top, hx, hd, hs, h0, lookupswitch.wp_chain]
  exact ⟨hso, hr⟩
theorem own_arvlt {Z : State} {h : Heap} {a : Addr} {k : ClassId} {ty : FieldType} {n : Int32} {vs : List Value} {d : Value} (V : Arv Z h a k ty n vs d) : a < h.size := by
  obtain ⟨c, A, -⟩ := V
  exact A.lt
end Own
end Jvm.RoadKit
namespace Jvm.Pilot.@@N@@
open Jvm Jvm.ClassFile Sem Op Lib Jvm.Free Jvm.Stand Jvm.LawKit Jvm.RoadKit Bundle Jvm.Pilot.@@N@@.Jvm.D
def own_rep (a v : Addr) : Int32 := if a = v then 1 else 0
def own_exp (k : Int32) : Int32 := if k = 0 then 1 else 0
theorem own_k {q k : Int32} (e : k = q &&& (7 : Int32)) : k = 0 ∨ k = 1 ∨ k = 2 ∨ k = 3 ∨ k = 4 ∨ k = 5 ∨ k = 6 ∨ k = 7 := by
  have h := Jvm.Kit.i32_mask q 7 (k := 3) (by decide) (by decide)
  rw [← e] at h
  have hb : k = Int32.ofNat k.toInt.toNat := by
    apply Int32.toInt_inj.mp
    rw [Int32.toInt_ofNat_small (by omega)]
    omega
  have q : ∀ n : Fin 8, (Int32.ofNat n.val) = 0 ∨ (Int32.ofNat n.val) = 1 ∨ (Int32.ofNat n.val) = 2 ∨ (Int32.ofNat n.val) = 3 ∨ (Int32.ofNat n.val) = 4 ∨ (Int32.ofNat n.val) = 5 ∨ (Int32.ofNat n.val) = 6 ∨ (Int32.ofNat n.val) = 7 := by decide +kernel
  have := q ⟨k.toInt.toNat, by omega⟩
  rw [← hb] at this
  exact this
theorem d1_0 : decode method_2_code 0 = .ok (.iload_n 0, 1) := by decide +kernel
theorem d1_1 : decode method_2_code 1 = .ok (.ifCond .ne 7, 3) := by decide +kernel
theorem d1_4 : decode method_2_code 4 = .ok (.getstatic 7, 3) := by decide +kernel
theorem d1_7 : decode method_2_code 7 = .ok (.areturn, 1) := by decide +kernel
theorem pn_4 : plainName "com/example/method_to_route/methodtoroute/cli/OptionRepeatsPinLaw" = true := by first | (simp [plainName, overriddenIn]; done) | decide +kernel
theorem ef_rm1_0 (m : MethodId)  : entryFrame m #[(.int (0 : Int32))] 1 = mkF m 0 #[.val (.int (0 : Int32))] [] := by first | (simp [entryFrame, mkF, argsToLocals, Value.category]; done) | rfl
def Q_rm1_0 (Z : State) (w_CONFIG : Addr) (h0 : Heap) (n0 : Nat) (v : Option Value) (h : Heap) (L : List Loc) : Prop := v = some (.ref w_CONFIG) ∧ Fr n0 L ∧ h = h0
set_option maxRecDepth 65536 in
set_option maxHeartbeats 40000000 in
theorem rm1_0 (l : Launch) (Z : State) (a0 : Array Value) (hw : ∀ d ∈ tables_1, d.before a0 Z = true) (ws : List Jvm.Cond) (w_CONFIG : Addr) (h0 : Heap) (n0 : Nat) (Z0 : n0 ≤ h0.size) (S_CONFIG : Sta Z h0 "com/example/method_to_route/methodtoroute/cli/Option" "CONFIG" "Lcom/example/method_to_route/methodtoroute/cli/Option;" (.ref w_CONFIG)) :
    MetFree l (⟨"com/example/method_to_route/methodtoroute/cli/OptionRepeatsPinLaw", "pick", "(I)Lcom/example/method_to_route/methodtoroute/cli/Option;"⟩ : MethodName) (head1 (Jvm.Cond.code (⟨"com/example/method_to_route/methodtoroute/cli/OptionRepeatsPinLaw", "pick", "(I)Lcom/example/method_to_route/methodtoroute/cli/Option;"⟩ : MethodName) method_2_code 1 (some (.object "com/example/method_to_route/methodtoroute/cli/Option")) :: ws) ({ frames := 0, cells := 0, slots := 0, locals := 0 } : Room)) (fun a U => a = #[(.int (0 : Int32))] ∧ Z.Warmed39 U.vm ∧ U.heap = h0) (fun _ _ _ _ _ => True) (fun _ U o U' => ∃ v L, o = .returned v ∧ Q_rm1_0 Z w_CONFIG h0 n0 v U'.heap L ∧ FrameEnd U o U' L ({ frames := 0, cells := 0, slots := 0, locals := 0 } : Room).cells ({ frames := 0, cells := 0, slots := 0, locals := 0 } : Room).slots) := by
  refine MetFree.of_bodySF (plainFor_of_name pn_4) hisR ?_
  intro p e s m args below meth c s₁ Bd hml0 hP hK
  obtain ⟨rfl, hZ, hh⟩ := hP
  have hx := Bd.exec
  have hby := Bd.bytes
  have hml : c.maxLocals = 1 := hml0
  have hown : s.vm.findClass "com/example/method_to_route/methodtoroute/cli/OptionRepeatsPinLaw" = some m.cls := findClass_of_methodNamed Bd.named
  have hnm := (name_of_methodNamed Bd.named Bd.method).1
  have X0 : Stand p l e ({ frames := 0, cells := 0, slots := 0, locals := 0 } : Room) s m #[(.int (0 : Int32))] below meth c s₁ [] 0 0 := Stand.of_body Bd
  have e0 : s₁.heap = h0 := by rw [← hh, Bd.state]; rfl
  have N0 := Fr.nil n0
  show Go p e below (s₁.setTop (entryFrame m #[(.int (0 : Int32))] 1)) (fun o U' => ∃ v L, o = .returned v ∧ Q_rm1_0 Z w_CONFIG h0 n0 v U'.heap L ∧ FrameEnd s o U' L ({ frames := 0, cells := 0, slots := 0, locals := 0 } : Room).cells ({ frames := 0, cells := 0, slots := 0, locals := 0 } : Room).slots)
  rw [ef_rm1_0]
  show Go p e below (s₁.setTop (mkF m 0 #[.val (.int (0 : Int32))] [])) _
  refine Go.st (fun _ k_ => XS.iloadN X0.here hx rfl (hb hby d1_0) rfl k_) ?_
  show Go p e below (s₁.setTop (mkF m 1 #[.val (.int (0 : Int32))] [(.int (0 : Int32))])) _
  refine Go.st (fun _ k_ => XS.ifNo X0.here hx rfl (hb hby d1_1) rfl ((if0 _ _).trans (teq (by decide : (0 : Int32) = (0 : Int32))).2) k_) ?_
  show Go p e below (s₁.setTop (mkF m 4 #[.val (.int (0 : Int32))] [])) _
  obtain ⟨T1, X1, e1, st1⟩ := getS2 X0 hx hZ hown (host := "") (Or.inl (hw _ (List.mem_of_getElem? (i := 4) rfl))) Via.refl e0 S_CONFIG (g := (mkF m 4 #[.val (.int (0 : Int32))] [])) rfl (hb hby d1_4)
  refine Go.st st1 ?_
  show Go p e below (T1.setTop (mkF m 7 #[.val (.int (0 : Int32))] [(.ref w_CONFIG)])) _
  refine Go.fin X1 (v := some (.ref w_CONFIG)) (fun h_ => by rw [Bd.returns] at h_; cases h_) Bd.notSynchronized (fun _ hr => retOut X1 hx Bd.returns rfl (Or.inr (Or.inr (Or.inr (Or.inr ⟨rfl, rfl, rfl⟩)))) (hb hby d1_7) hr) (fun U' hU hF => ⟨_, _, rfl, ?_, hF.1, hF.2.1, hF.2.2.mono (by decide) (by decide)⟩)
  rw [hU, e1]
  exact ⟨(congrArg (fun z_ : Addr => some (Value.ref z_)) (show w_CONFIG = w_CONFIG from rfl)), N0, rfl⟩
theorem d1_8 : decode method_2_code 8 = .ok (.iload_n 0, 1) := by decide +kernel
theorem d1_9 : decode method_2_code 9 = .ok (.iconst 1, 1) := by decide +kernel
theorem d1_10 : decode method_2_code 10 = .ok (.if_icmp .ne 7, 3) := by decide +kernel
theorem d1_13 : decode method_2_code 13 = .ok (.getstatic 13, 3) := by decide +kernel
theorem d1_16 : decode method_2_code 16 = .ok (.areturn, 1) := by decide +kernel
theorem ef_rm1_1 (m : MethodId)  : entryFrame m #[(.int (1 : Int32))] 1 = mkF m 0 #[.val (.int (1 : Int32))] [] := by first | (simp [entryFrame, mkF, argsToLocals, Value.category]; done) | rfl
def Q_rm1_1 (Z : State) (w_DESCRIPTORS : Addr) (h0 : Heap) (n0 : Nat) (v : Option Value) (h : Heap) (L : List Loc) : Prop := v = some (.ref w_DESCRIPTORS) ∧ Fr n0 L ∧ h = h0
set_option maxRecDepth 65536 in
set_option maxHeartbeats 40000000 in
theorem rm1_1 (l : Launch) (Z : State) (a0 : Array Value) (hw : ∀ d ∈ tables_1, d.before a0 Z = true) (ws : List Jvm.Cond) (w_DESCRIPTORS : Addr) (h0 : Heap) (n0 : Nat) (Z0 : n0 ≤ h0.size) (S_DESCRIPTORS : Sta Z h0 "com/example/method_to_route/methodtoroute/cli/Option" "DESCRIPTORS" "Lcom/example/method_to_route/methodtoroute/cli/Option;" (.ref w_DESCRIPTORS)) :
    MetFree l (⟨"com/example/method_to_route/methodtoroute/cli/OptionRepeatsPinLaw", "pick", "(I)Lcom/example/method_to_route/methodtoroute/cli/Option;"⟩ : MethodName) (head1 (Jvm.Cond.code (⟨"com/example/method_to_route/methodtoroute/cli/OptionRepeatsPinLaw", "pick", "(I)Lcom/example/method_to_route/methodtoroute/cli/Option;"⟩ : MethodName) method_2_code 1 (some (.object "com/example/method_to_route/methodtoroute/cli/Option")) :: ws) ({ frames := 0, cells := 0, slots := 0, locals := 0 } : Room)) (fun a U => a = #[(.int (1 : Int32))] ∧ Z.Warmed39 U.vm ∧ U.heap = h0) (fun _ _ _ _ _ => True) (fun _ U o U' => ∃ v L, o = .returned v ∧ Q_rm1_1 Z w_DESCRIPTORS h0 n0 v U'.heap L ∧ FrameEnd U o U' L ({ frames := 0, cells := 0, slots := 0, locals := 0 } : Room).cells ({ frames := 0, cells := 0, slots := 0, locals := 0 } : Room).slots) := by
  refine MetFree.of_bodySF (plainFor_of_name pn_4) hisR ?_
  intro p e s m args below meth c s₁ Bd hml0 hP hK
  obtain ⟨rfl, hZ, hh⟩ := hP
  have hx := Bd.exec
  have hby := Bd.bytes
  have hml : c.maxLocals = 1 := hml0
  have hown : s.vm.findClass "com/example/method_to_route/methodtoroute/cli/OptionRepeatsPinLaw" = some m.cls := findClass_of_methodNamed Bd.named
  have hnm := (name_of_methodNamed Bd.named Bd.method).1
  have X0 : Stand p l e ({ frames := 0, cells := 0, slots := 0, locals := 0 } : Room) s m #[(.int (1 : Int32))] below meth c s₁ [] 0 0 := Stand.of_body Bd
  have e0 : s₁.heap = h0 := by rw [← hh, Bd.state]; rfl
  have N0 := Fr.nil n0
  show Go p e below (s₁.setTop (entryFrame m #[(.int (1 : Int32))] 1)) (fun o U' => ∃ v L, o = .returned v ∧ Q_rm1_1 Z w_DESCRIPTORS h0 n0 v U'.heap L ∧ FrameEnd s o U' L ({ frames := 0, cells := 0, slots := 0, locals := 0 } : Room).cells ({ frames := 0, cells := 0, slots := 0, locals := 0 } : Room).slots)
  rw [ef_rm1_1]
  show Go p e below (s₁.setTop (mkF m 0 #[.val (.int (1 : Int32))] [])) _
  refine Go.st (fun _ k_ => XS.iloadN X0.here hx rfl (hb hby d1_0) rfl k_) ?_
  show Go p e below (s₁.setTop (mkF m 1 #[.val (.int (1 : Int32))] [(.int (1 : Int32))])) _
  refine Go.st (fun _ k_ => XS.ifYes X0.here hx rfl (pc0 := 1) (pc' := 8) rfl (hb hby d1_1) rfl ((if0 _ _).trans (feq (by decide : ¬ ((1 : Int32) = (0 : Int32)))).2) (by decide) (by decide) k_) ?_
  show Go p e below (s₁.setTop (mkF m 8 #[.val (.int (1 : Int32))] [])) _
  refine Go.st (fun _ k_ => XS.iloadN X0.here hx rfl (hb hby d1_8) rfl k_) ?_
  show Go p e below (s₁.setTop (mkF m 9 #[.val (.int (1 : Int32))] [(.int (1 : Int32))])) _
  refine Go.st (fun _ k_ => XS.iconst X0.here hx rfl (hb hby d1_9) k_) ?_
  show Go p e below (s₁.setTop (mkF m 10 #[.val (.int (1 : Int32))] [(.int (1 : Int32)), (.int (1 : Int32))])) _
  refine Go.st (fun _ k_ => XS.icmpNo X0.here hx rfl (hb hby d1_10) rfl (teq (by decide : (1 : Int32) = (1 : Int32))).2 k_) ?_
  show Go p e below (s₁.setTop (mkF m 13 #[.val (.int (1 : Int32))] [])) _
  obtain ⟨T1, X1, e1, st1⟩ := getS2 X0 hx hZ hown (host := "") (Or.inl (hw _ (List.mem_of_getElem? (i := 24) rfl))) Via.refl e0 S_DESCRIPTORS (g := (mkF m 13 #[.val (.int (1 : Int32))] [])) rfl (hb hby d1_13)
  refine Go.st st1 ?_
  show Go p e below (T1.setTop (mkF m 16 #[.val (.int (1 : Int32))] [(.ref w_DESCRIPTORS)])) _
  refine Go.fin X1 (v := some (.ref w_DESCRIPTORS)) (fun h_ => by rw [Bd.returns] at h_; cases h_) Bd.notSynchronized (fun _ hr => retOut X1 hx Bd.returns rfl (Or.inr (Or.inr (Or.inr (Or.inr ⟨rfl, rfl, rfl⟩)))) (hb hby d1_16) hr) (fun U' hU hF => ⟨_, _, rfl, ?_, hF.1, hF.2.1, hF.2.2.mono (by decide) (by decide)⟩)
  rw [hU, e1]
  exact ⟨(congrArg (fun z_ : Addr => some (Value.ref z_)) (show w_DESCRIPTORS = w_DESCRIPTORS from rfl)), N0, rfl⟩
theorem d1_17 : decode method_2_code 17 = .ok (.iload_n 0, 1) := by decide +kernel
theorem d1_18 : decode method_2_code 18 = .ok (.iconst 2, 1) := by decide +kernel
theorem d1_19 : decode method_2_code 19 = .ok (.if_icmp .ne 7, 3) := by decide +kernel
theorem d1_22 : decode method_2_code 22 = .ok (.getstatic 16, 3) := by decide +kernel
theorem d1_25 : decode method_2_code 25 = .ok (.areturn, 1) := by decide +kernel
theorem ef_rm1_2 (m : MethodId)  : entryFrame m #[(.int (2 : Int32))] 1 = mkF m 0 #[.val (.int (2 : Int32))] [] := by first | (simp [entryFrame, mkF, argsToLocals, Value.category]; done) | rfl
def Q_rm1_2 (Z : State) (w_BODY : Addr) (h0 : Heap) (n0 : Nat) (v : Option Value) (h : Heap) (L : List Loc) : Prop := v = some (.ref w_BODY) ∧ Fr n0 L ∧ h = h0
set_option maxRecDepth 65536 in
set_option maxHeartbeats 40000000 in
theorem rm1_2 (l : Launch) (Z : State) (a0 : Array Value) (hw : ∀ d ∈ tables_1, d.before a0 Z = true) (ws : List Jvm.Cond) (w_BODY : Addr) (h0 : Heap) (n0 : Nat) (Z0 : n0 ≤ h0.size) (S_BODY : Sta Z h0 "com/example/method_to_route/methodtoroute/cli/Option" "BODY" "Lcom/example/method_to_route/methodtoroute/cli/Option;" (.ref w_BODY)) :
    MetFree l (⟨"com/example/method_to_route/methodtoroute/cli/OptionRepeatsPinLaw", "pick", "(I)Lcom/example/method_to_route/methodtoroute/cli/Option;"⟩ : MethodName) (head1 (Jvm.Cond.code (⟨"com/example/method_to_route/methodtoroute/cli/OptionRepeatsPinLaw", "pick", "(I)Lcom/example/method_to_route/methodtoroute/cli/Option;"⟩ : MethodName) method_2_code 1 (some (.object "com/example/method_to_route/methodtoroute/cli/Option")) :: ws) ({ frames := 0, cells := 0, slots := 0, locals := 0 } : Room)) (fun a U => a = #[(.int (2 : Int32))] ∧ Z.Warmed39 U.vm ∧ U.heap = h0) (fun _ _ _ _ _ => True) (fun _ U o U' => ∃ v L, o = .returned v ∧ Q_rm1_2 Z w_BODY h0 n0 v U'.heap L ∧ FrameEnd U o U' L ({ frames := 0, cells := 0, slots := 0, locals := 0 } : Room).cells ({ frames := 0, cells := 0, slots := 0, locals := 0 } : Room).slots) := by
  refine MetFree.of_bodySF (plainFor_of_name pn_4) hisR ?_
  intro p e s m args below meth c s₁ Bd hml0 hP hK
  obtain ⟨rfl, hZ, hh⟩ := hP
  have hx := Bd.exec
  have hby := Bd.bytes
  have hml : c.maxLocals = 1 := hml0
  have hown : s.vm.findClass "com/example/method_to_route/methodtoroute/cli/OptionRepeatsPinLaw" = some m.cls := findClass_of_methodNamed Bd.named
  have hnm := (name_of_methodNamed Bd.named Bd.method).1
  have X0 : Stand p l e ({ frames := 0, cells := 0, slots := 0, locals := 0 } : Room) s m #[(.int (2 : Int32))] below meth c s₁ [] 0 0 := Stand.of_body Bd
  have e0 : s₁.heap = h0 := by rw [← hh, Bd.state]; rfl
  have N0 := Fr.nil n0
  show Go p e below (s₁.setTop (entryFrame m #[(.int (2 : Int32))] 1)) (fun o U' => ∃ v L, o = .returned v ∧ Q_rm1_2 Z w_BODY h0 n0 v U'.heap L ∧ FrameEnd s o U' L ({ frames := 0, cells := 0, slots := 0, locals := 0 } : Room).cells ({ frames := 0, cells := 0, slots := 0, locals := 0 } : Room).slots)
  rw [ef_rm1_2]
  show Go p e below (s₁.setTop (mkF m 0 #[.val (.int (2 : Int32))] [])) _
  refine Go.st (fun _ k_ => XS.iloadN X0.here hx rfl (hb hby d1_0) rfl k_) ?_
  show Go p e below (s₁.setTop (mkF m 1 #[.val (.int (2 : Int32))] [(.int (2 : Int32))])) _
  refine Go.st (fun _ k_ => XS.ifYes X0.here hx rfl (pc0 := 1) (pc' := 8) rfl (hb hby d1_1) rfl ((if0 _ _).trans (feq (by decide : ¬ ((2 : Int32) = (0 : Int32)))).2) (by decide) (by decide) k_) ?_
  show Go p e below (s₁.setTop (mkF m 8 #[.val (.int (2 : Int32))] [])) _
  refine Go.st (fun _ k_ => XS.iloadN X0.here hx rfl (hb hby d1_8) rfl k_) ?_
  show Go p e below (s₁.setTop (mkF m 9 #[.val (.int (2 : Int32))] [(.int (2 : Int32))])) _
  refine Go.st (fun _ k_ => XS.iconst X0.here hx rfl (hb hby d1_9) k_) ?_
  show Go p e below (s₁.setTop (mkF m 10 #[.val (.int (2 : Int32))] [(.int (1 : Int32)), (.int (2 : Int32))])) _
  refine Go.st (fun _ k_ => XS.icmpYes X0.here hx rfl (pc0 := 10) (pc' := 17) rfl (hb hby d1_10) rfl (feq (by decide : ¬ ((2 : Int32) = (1 : Int32)))).2 (by decide) (by decide) k_) ?_
  show Go p e below (s₁.setTop (mkF m 17 #[.val (.int (2 : Int32))] [])) _
  refine Go.st (fun _ k_ => XS.iloadN X0.here hx rfl (hb hby d1_17) rfl k_) ?_
  show Go p e below (s₁.setTop (mkF m 18 #[.val (.int (2 : Int32))] [(.int (2 : Int32))])) _
  refine Go.st (fun _ k_ => XS.iconst X0.here hx rfl (hb hby d1_18) k_) ?_
  show Go p e below (s₁.setTop (mkF m 19 #[.val (.int (2 : Int32))] [(.int (2 : Int32)), (.int (2 : Int32))])) _
  refine Go.st (fun _ k_ => XS.icmpNo X0.here hx rfl (hb hby d1_19) rfl (teq (by decide : (2 : Int32) = (2 : Int32))).2 k_) ?_
  show Go p e below (s₁.setTop (mkF m 22 #[.val (.int (2 : Int32))] [])) _
  obtain ⟨T1, X1, e1, st1⟩ := getS2 X0 hx hZ hown (host := "") (Or.inl (hw _ (List.mem_of_getElem? (i := 22) rfl))) Via.refl e0 S_BODY (g := (mkF m 22 #[.val (.int (2 : Int32))] [])) rfl (hb hby d1_22)
  refine Go.st st1 ?_
  show Go p e below (T1.setTop (mkF m 25 #[.val (.int (2 : Int32))] [(.ref w_BODY)])) _
  refine Go.fin X1 (v := some (.ref w_BODY)) (fun h_ => by rw [Bd.returns] at h_; cases h_) Bd.notSynchronized (fun _ hr => retOut X1 hx Bd.returns rfl (Or.inr (Or.inr (Or.inr (Or.inr ⟨rfl, rfl, rfl⟩)))) (hb hby d1_25) hr) (fun U' hU hF => ⟨_, _, rfl, ?_, hF.1, hF.2.1, hF.2.2.mono (by decide) (by decide)⟩)
  rw [hU, e1]
  exact ⟨(congrArg (fun z_ : Addr => some (Value.ref z_)) (show w_BODY = w_BODY from rfl)), N0, rfl⟩
theorem d1_26 : decode method_2_code 26 = .ok (.iload_n 0, 1) := by decide +kernel
theorem d1_27 : decode method_2_code 27 = .ok (.iconst 3, 1) := by decide +kernel
theorem d1_28 : decode method_2_code 28 = .ok (.if_icmp .ne 7, 3) := by decide +kernel
theorem d1_31 : decode method_2_code 31 = .ok (.getstatic 19, 3) := by decide +kernel
theorem d1_34 : decode method_2_code 34 = .ok (.areturn, 1) := by decide +kernel
theorem ef_rm1_3 (m : MethodId)  : entryFrame m #[(.int (3 : Int32))] 1 = mkF m 0 #[.val (.int (3 : Int32))] [] := by first | (simp [entryFrame, mkF, argsToLocals, Value.category]; done) | rfl
def Q_rm1_3 (Z : State) (w_CONTENT_TYPE : Addr) (h0 : Heap) (n0 : Nat) (v : Option Value) (h : Heap) (L : List Loc) : Prop := v = some (.ref w_CONTENT_TYPE) ∧ Fr n0 L ∧ h = h0
set_option maxRecDepth 65536 in
set_option maxHeartbeats 40000000 in
theorem rm1_3 (l : Launch) (Z : State) (a0 : Array Value) (hw : ∀ d ∈ tables_1, d.before a0 Z = true) (ws : List Jvm.Cond) (w_CONTENT_TYPE : Addr) (h0 : Heap) (n0 : Nat) (Z0 : n0 ≤ h0.size) (S_CONTENT_TYPE : Sta Z h0 "com/example/method_to_route/methodtoroute/cli/Option" "CONTENT_TYPE" "Lcom/example/method_to_route/methodtoroute/cli/Option;" (.ref w_CONTENT_TYPE)) :
    MetFree l (⟨"com/example/method_to_route/methodtoroute/cli/OptionRepeatsPinLaw", "pick", "(I)Lcom/example/method_to_route/methodtoroute/cli/Option;"⟩ : MethodName) (head1 (Jvm.Cond.code (⟨"com/example/method_to_route/methodtoroute/cli/OptionRepeatsPinLaw", "pick", "(I)Lcom/example/method_to_route/methodtoroute/cli/Option;"⟩ : MethodName) method_2_code 1 (some (.object "com/example/method_to_route/methodtoroute/cli/Option")) :: ws) ({ frames := 0, cells := 0, slots := 0, locals := 0 } : Room)) (fun a U => a = #[(.int (3 : Int32))] ∧ Z.Warmed39 U.vm ∧ U.heap = h0) (fun _ _ _ _ _ => True) (fun _ U o U' => ∃ v L, o = .returned v ∧ Q_rm1_3 Z w_CONTENT_TYPE h0 n0 v U'.heap L ∧ FrameEnd U o U' L ({ frames := 0, cells := 0, slots := 0, locals := 0 } : Room).cells ({ frames := 0, cells := 0, slots := 0, locals := 0 } : Room).slots) := by
  refine MetFree.of_bodySF (plainFor_of_name pn_4) hisR ?_
  intro p e s m args below meth c s₁ Bd hml0 hP hK
  obtain ⟨rfl, hZ, hh⟩ := hP
  have hx := Bd.exec
  have hby := Bd.bytes
  have hml : c.maxLocals = 1 := hml0
  have hown : s.vm.findClass "com/example/method_to_route/methodtoroute/cli/OptionRepeatsPinLaw" = some m.cls := findClass_of_methodNamed Bd.named
  have hnm := (name_of_methodNamed Bd.named Bd.method).1
  have X0 : Stand p l e ({ frames := 0, cells := 0, slots := 0, locals := 0 } : Room) s m #[(.int (3 : Int32))] below meth c s₁ [] 0 0 := Stand.of_body Bd
  have e0 : s₁.heap = h0 := by rw [← hh, Bd.state]; rfl
  have N0 := Fr.nil n0
  show Go p e below (s₁.setTop (entryFrame m #[(.int (3 : Int32))] 1)) (fun o U' => ∃ v L, o = .returned v ∧ Q_rm1_3 Z w_CONTENT_TYPE h0 n0 v U'.heap L ∧ FrameEnd s o U' L ({ frames := 0, cells := 0, slots := 0, locals := 0 } : Room).cells ({ frames := 0, cells := 0, slots := 0, locals := 0 } : Room).slots)
  rw [ef_rm1_3]
  show Go p e below (s₁.setTop (mkF m 0 #[.val (.int (3 : Int32))] [])) _
  refine Go.st (fun _ k_ => XS.iloadN X0.here hx rfl (hb hby d1_0) rfl k_) ?_
  show Go p e below (s₁.setTop (mkF m 1 #[.val (.int (3 : Int32))] [(.int (3 : Int32))])) _
  refine Go.st (fun _ k_ => XS.ifYes X0.here hx rfl (pc0 := 1) (pc' := 8) rfl (hb hby d1_1) rfl ((if0 _ _).trans (feq (by decide : ¬ ((3 : Int32) = (0 : Int32)))).2) (by decide) (by decide) k_) ?_
  show Go p e below (s₁.setTop (mkF m 8 #[.val (.int (3 : Int32))] [])) _
  refine Go.st (fun _ k_ => XS.iloadN X0.here hx rfl (hb hby d1_8) rfl k_) ?_
  show Go p e below (s₁.setTop (mkF m 9 #[.val (.int (3 : Int32))] [(.int (3 : Int32))])) _
  refine Go.st (fun _ k_ => XS.iconst X0.here hx rfl (hb hby d1_9) k_) ?_
  show Go p e below (s₁.setTop (mkF m 10 #[.val (.int (3 : Int32))] [(.int (1 : Int32)), (.int (3 : Int32))])) _
  refine Go.st (fun _ k_ => XS.icmpYes X0.here hx rfl (pc0 := 10) (pc' := 17) rfl (hb hby d1_10) rfl (feq (by decide : ¬ ((3 : Int32) = (1 : Int32)))).2 (by decide) (by decide) k_) ?_
  show Go p e below (s₁.setTop (mkF m 17 #[.val (.int (3 : Int32))] [])) _
  refine Go.st (fun _ k_ => XS.iloadN X0.here hx rfl (hb hby d1_17) rfl k_) ?_
  show Go p e below (s₁.setTop (mkF m 18 #[.val (.int (3 : Int32))] [(.int (3 : Int32))])) _
  refine Go.st (fun _ k_ => XS.iconst X0.here hx rfl (hb hby d1_18) k_) ?_
  show Go p e below (s₁.setTop (mkF m 19 #[.val (.int (3 : Int32))] [(.int (2 : Int32)), (.int (3 : Int32))])) _
  refine Go.st (fun _ k_ => XS.icmpYes X0.here hx rfl (pc0 := 19) (pc' := 26) rfl (hb hby d1_19) rfl (feq (by decide : ¬ ((3 : Int32) = (2 : Int32)))).2 (by decide) (by decide) k_) ?_
  show Go p e below (s₁.setTop (mkF m 26 #[.val (.int (3 : Int32))] [])) _
  refine Go.st (fun _ k_ => XS.iloadN X0.here hx rfl (hb hby d1_26) rfl k_) ?_
  show Go p e below (s₁.setTop (mkF m 27 #[.val (.int (3 : Int32))] [(.int (3 : Int32))])) _
  refine Go.st (fun _ k_ => XS.iconst X0.here hx rfl (hb hby d1_27) k_) ?_
  show Go p e below (s₁.setTop (mkF m 28 #[.val (.int (3 : Int32))] [(.int (3 : Int32)), (.int (3 : Int32))])) _
  refine Go.st (fun _ k_ => XS.icmpNo X0.here hx rfl (hb hby d1_28) rfl (teq (by decide : (3 : Int32) = (3 : Int32))).2 k_) ?_
  show Go p e below (s₁.setTop (mkF m 31 #[.val (.int (3 : Int32))] [])) _
  obtain ⟨T1, X1, e1, st1⟩ := getS2 X0 hx hZ hown (host := "") (Or.inl (hw _ (List.mem_of_getElem? (i := 16) rfl))) Via.refl e0 S_CONTENT_TYPE (g := (mkF m 31 #[.val (.int (3 : Int32))] [])) rfl (hb hby d1_31)
  refine Go.st st1 ?_
  show Go p e below (T1.setTop (mkF m 34 #[.val (.int (3 : Int32))] [(.ref w_CONTENT_TYPE)])) _
  refine Go.fin X1 (v := some (.ref w_CONTENT_TYPE)) (fun h_ => by rw [Bd.returns] at h_; cases h_) Bd.notSynchronized (fun _ hr => retOut X1 hx Bd.returns rfl (Or.inr (Or.inr (Or.inr (Or.inr ⟨rfl, rfl, rfl⟩)))) (hb hby d1_34) hr) (fun U' hU hF => ⟨_, _, rfl, ?_, hF.1, hF.2.1, hF.2.2.mono (by decide) (by decide)⟩)
  rw [hU, e1]
  exact ⟨(congrArg (fun z_ : Addr => some (Value.ref z_)) (show w_CONTENT_TYPE = w_CONTENT_TYPE from rfl)), N0, rfl⟩
theorem d1_35 : decode method_2_code 35 = .ok (.iload_n 0, 1) := by decide +kernel
theorem d1_36 : decode method_2_code 36 = .ok (.iconst 4, 1) := by decide +kernel
theorem d1_37 : decode method_2_code 37 = .ok (.if_icmp .ne 7, 3) := by decide +kernel
theorem d1_40 : decode method_2_code 40 = .ok (.getstatic 22, 3) := by decide +kernel
theorem d1_43 : decode method_2_code 43 = .ok (.areturn, 1) := by decide +kernel
theorem ef_rm1_4 (m : MethodId)  : entryFrame m #[(.int (4 : Int32))] 1 = mkF m 0 #[.val (.int (4 : Int32))] [] := by first | (simp [entryFrame, mkF, argsToLocals, Value.category]; done) | rfl
def Q_rm1_4 (Z : State) (w_REQUESTS : Addr) (h0 : Heap) (n0 : Nat) (v : Option Value) (h : Heap) (L : List Loc) : Prop := v = some (.ref w_REQUESTS) ∧ Fr n0 L ∧ h = h0
set_option maxRecDepth 65536 in
set_option maxHeartbeats 40000000 in
theorem rm1_4 (l : Launch) (Z : State) (a0 : Array Value) (hw : ∀ d ∈ tables_1, d.before a0 Z = true) (ws : List Jvm.Cond) (w_REQUESTS : Addr) (h0 : Heap) (n0 : Nat) (Z0 : n0 ≤ h0.size) (S_REQUESTS : Sta Z h0 "com/example/method_to_route/methodtoroute/cli/Option" "REQUESTS" "Lcom/example/method_to_route/methodtoroute/cli/Option;" (.ref w_REQUESTS)) :
    MetFree l (⟨"com/example/method_to_route/methodtoroute/cli/OptionRepeatsPinLaw", "pick", "(I)Lcom/example/method_to_route/methodtoroute/cli/Option;"⟩ : MethodName) (head1 (Jvm.Cond.code (⟨"com/example/method_to_route/methodtoroute/cli/OptionRepeatsPinLaw", "pick", "(I)Lcom/example/method_to_route/methodtoroute/cli/Option;"⟩ : MethodName) method_2_code 1 (some (.object "com/example/method_to_route/methodtoroute/cli/Option")) :: ws) ({ frames := 0, cells := 0, slots := 0, locals := 0 } : Room)) (fun a U => a = #[(.int (4 : Int32))] ∧ Z.Warmed39 U.vm ∧ U.heap = h0) (fun _ _ _ _ _ => True) (fun _ U o U' => ∃ v L, o = .returned v ∧ Q_rm1_4 Z w_REQUESTS h0 n0 v U'.heap L ∧ FrameEnd U o U' L ({ frames := 0, cells := 0, slots := 0, locals := 0 } : Room).cells ({ frames := 0, cells := 0, slots := 0, locals := 0 } : Room).slots) := by
  refine MetFree.of_bodySF (plainFor_of_name pn_4) hisR ?_
  intro p e s m args below meth c s₁ Bd hml0 hP hK
  obtain ⟨rfl, hZ, hh⟩ := hP
  have hx := Bd.exec
  have hby := Bd.bytes
  have hml : c.maxLocals = 1 := hml0
  have hown : s.vm.findClass "com/example/method_to_route/methodtoroute/cli/OptionRepeatsPinLaw" = some m.cls := findClass_of_methodNamed Bd.named
  have hnm := (name_of_methodNamed Bd.named Bd.method).1
  have X0 : Stand p l e ({ frames := 0, cells := 0, slots := 0, locals := 0 } : Room) s m #[(.int (4 : Int32))] below meth c s₁ [] 0 0 := Stand.of_body Bd
  have e0 : s₁.heap = h0 := by rw [← hh, Bd.state]; rfl
  have N0 := Fr.nil n0
  show Go p e below (s₁.setTop (entryFrame m #[(.int (4 : Int32))] 1)) (fun o U' => ∃ v L, o = .returned v ∧ Q_rm1_4 Z w_REQUESTS h0 n0 v U'.heap L ∧ FrameEnd s o U' L ({ frames := 0, cells := 0, slots := 0, locals := 0 } : Room).cells ({ frames := 0, cells := 0, slots := 0, locals := 0 } : Room).slots)
  rw [ef_rm1_4]
  show Go p e below (s₁.setTop (mkF m 0 #[.val (.int (4 : Int32))] [])) _
  refine Go.st (fun _ k_ => XS.iloadN X0.here hx rfl (hb hby d1_0) rfl k_) ?_
  show Go p e below (s₁.setTop (mkF m 1 #[.val (.int (4 : Int32))] [(.int (4 : Int32))])) _
  refine Go.st (fun _ k_ => XS.ifYes X0.here hx rfl (pc0 := 1) (pc' := 8) rfl (hb hby d1_1) rfl ((if0 _ _).trans (feq (by decide : ¬ ((4 : Int32) = (0 : Int32)))).2) (by decide) (by decide) k_) ?_
  show Go p e below (s₁.setTop (mkF m 8 #[.val (.int (4 : Int32))] [])) _
  refine Go.st (fun _ k_ => XS.iloadN X0.here hx rfl (hb hby d1_8) rfl k_) ?_
  show Go p e below (s₁.setTop (mkF m 9 #[.val (.int (4 : Int32))] [(.int (4 : Int32))])) _
  refine Go.st (fun _ k_ => XS.iconst X0.here hx rfl (hb hby d1_9) k_) ?_
  show Go p e below (s₁.setTop (mkF m 10 #[.val (.int (4 : Int32))] [(.int (1 : Int32)), (.int (4 : Int32))])) _
  refine Go.st (fun _ k_ => XS.icmpYes X0.here hx rfl (pc0 := 10) (pc' := 17) rfl (hb hby d1_10) rfl (feq (by decide : ¬ ((4 : Int32) = (1 : Int32)))).2 (by decide) (by decide) k_) ?_
  show Go p e below (s₁.setTop (mkF m 17 #[.val (.int (4 : Int32))] [])) _
  refine Go.st (fun _ k_ => XS.iloadN X0.here hx rfl (hb hby d1_17) rfl k_) ?_
  show Go p e below (s₁.setTop (mkF m 18 #[.val (.int (4 : Int32))] [(.int (4 : Int32))])) _
  refine Go.st (fun _ k_ => XS.iconst X0.here hx rfl (hb hby d1_18) k_) ?_
  show Go p e below (s₁.setTop (mkF m 19 #[.val (.int (4 : Int32))] [(.int (2 : Int32)), (.int (4 : Int32))])) _
  refine Go.st (fun _ k_ => XS.icmpYes X0.here hx rfl (pc0 := 19) (pc' := 26) rfl (hb hby d1_19) rfl (feq (by decide : ¬ ((4 : Int32) = (2 : Int32)))).2 (by decide) (by decide) k_) ?_
  show Go p e below (s₁.setTop (mkF m 26 #[.val (.int (4 : Int32))] [])) _
  refine Go.st (fun _ k_ => XS.iloadN X0.here hx rfl (hb hby d1_26) rfl k_) ?_
  show Go p e below (s₁.setTop (mkF m 27 #[.val (.int (4 : Int32))] [(.int (4 : Int32))])) _
  refine Go.st (fun _ k_ => XS.iconst X0.here hx rfl (hb hby d1_27) k_) ?_
  show Go p e below (s₁.setTop (mkF m 28 #[.val (.int (4 : Int32))] [(.int (3 : Int32)), (.int (4 : Int32))])) _
  refine Go.st (fun _ k_ => XS.icmpYes X0.here hx rfl (pc0 := 28) (pc' := 35) rfl (hb hby d1_28) rfl (feq (by decide : ¬ ((4 : Int32) = (3 : Int32)))).2 (by decide) (by decide) k_) ?_
  show Go p e below (s₁.setTop (mkF m 35 #[.val (.int (4 : Int32))] [])) _
  refine Go.st (fun _ k_ => XS.iloadN X0.here hx rfl (hb hby d1_35) rfl k_) ?_
  show Go p e below (s₁.setTop (mkF m 36 #[.val (.int (4 : Int32))] [(.int (4 : Int32))])) _
  refine Go.st (fun _ k_ => XS.iconst X0.here hx rfl (hb hby d1_36) k_) ?_
  show Go p e below (s₁.setTop (mkF m 37 #[.val (.int (4 : Int32))] [(.int (4 : Int32)), (.int (4 : Int32))])) _
  refine Go.st (fun _ k_ => XS.icmpNo X0.here hx rfl (hb hby d1_37) rfl (teq (by decide : (4 : Int32) = (4 : Int32))).2 k_) ?_
  show Go p e below (s₁.setTop (mkF m 40 #[.val (.int (4 : Int32))] [])) _
  obtain ⟨T1, X1, e1, st1⟩ := getS2 X0 hx hZ hown (host := "") (Or.inl (hw _ (List.mem_of_getElem? (i := 26) rfl))) Via.refl e0 S_REQUESTS (g := (mkF m 40 #[.val (.int (4 : Int32))] [])) rfl (hb hby d1_40)
  refine Go.st st1 ?_
  show Go p e below (T1.setTop (mkF m 43 #[.val (.int (4 : Int32))] [(.ref w_REQUESTS)])) _
  refine Go.fin X1 (v := some (.ref w_REQUESTS)) (fun h_ => by rw [Bd.returns] at h_; cases h_) Bd.notSynchronized (fun _ hr => retOut X1 hx Bd.returns rfl (Or.inr (Or.inr (Or.inr (Or.inr ⟨rfl, rfl, rfl⟩)))) (hb hby d1_43) hr) (fun U' hU hF => ⟨_, _, rfl, ?_, hF.1, hF.2.1, hF.2.2.mono (by decide) (by decide)⟩)
  rw [hU, e1]
  exact ⟨(congrArg (fun z_ : Addr => some (Value.ref z_)) (show w_REQUESTS = w_REQUESTS from rfl)), N0, rfl⟩
theorem d1_44 : decode method_2_code 44 = .ok (.iload_n 0, 1) := by decide +kernel
theorem d1_45 : decode method_2_code 45 = .ok (.iconst 5, 1) := by decide +kernel
theorem d1_46 : decode method_2_code 46 = .ok (.if_icmp .ne 7, 3) := by decide +kernel
theorem d1_49 : decode method_2_code 49 = .ok (.getstatic 25, 3) := by decide +kernel
theorem d1_52 : decode method_2_code 52 = .ok (.areturn, 1) := by decide +kernel
theorem ef_rm1_5 (m : MethodId)  : entryFrame m #[(.int (5 : Int32))] 1 = mkF m 0 #[.val (.int (5 : Int32))] [] := by first | (simp [entryFrame, mkF, argsToLocals, Value.category]; done) | rfl
def Q_rm1_5 (Z : State) (w_BACKEND : Addr) (h0 : Heap) (n0 : Nat) (v : Option Value) (h : Heap) (L : List Loc) : Prop := v = some (.ref w_BACKEND) ∧ Fr n0 L ∧ h = h0
set_option maxRecDepth 65536 in
set_option maxHeartbeats 40000000 in
theorem rm1_5 (l : Launch) (Z : State) (a0 : Array Value) (hw : ∀ d ∈ tables_1, d.before a0 Z = true) (ws : List Jvm.Cond) (w_BACKEND : Addr) (h0 : Heap) (n0 : Nat) (Z0 : n0 ≤ h0.size) (S_BACKEND : Sta Z h0 "com/example/method_to_route/methodtoroute/cli/Option" "BACKEND" "Lcom/example/method_to_route/methodtoroute/cli/Option;" (.ref w_BACKEND)) :
    MetFree l (⟨"com/example/method_to_route/methodtoroute/cli/OptionRepeatsPinLaw", "pick", "(I)Lcom/example/method_to_route/methodtoroute/cli/Option;"⟩ : MethodName) (head1 (Jvm.Cond.code (⟨"com/example/method_to_route/methodtoroute/cli/OptionRepeatsPinLaw", "pick", "(I)Lcom/example/method_to_route/methodtoroute/cli/Option;"⟩ : MethodName) method_2_code 1 (some (.object "com/example/method_to_route/methodtoroute/cli/Option")) :: ws) ({ frames := 0, cells := 0, slots := 0, locals := 0 } : Room)) (fun a U => a = #[(.int (5 : Int32))] ∧ Z.Warmed39 U.vm ∧ U.heap = h0) (fun _ _ _ _ _ => True) (fun _ U o U' => ∃ v L, o = .returned v ∧ Q_rm1_5 Z w_BACKEND h0 n0 v U'.heap L ∧ FrameEnd U o U' L ({ frames := 0, cells := 0, slots := 0, locals := 0 } : Room).cells ({ frames := 0, cells := 0, slots := 0, locals := 0 } : Room).slots) := by
  refine MetFree.of_bodySF (plainFor_of_name pn_4) hisR ?_
  intro p e s m args below meth c s₁ Bd hml0 hP hK
  obtain ⟨rfl, hZ, hh⟩ := hP
  have hx := Bd.exec
  have hby := Bd.bytes
  have hml : c.maxLocals = 1 := hml0
  have hown : s.vm.findClass "com/example/method_to_route/methodtoroute/cli/OptionRepeatsPinLaw" = some m.cls := findClass_of_methodNamed Bd.named
  have hnm := (name_of_methodNamed Bd.named Bd.method).1
  have X0 : Stand p l e ({ frames := 0, cells := 0, slots := 0, locals := 0 } : Room) s m #[(.int (5 : Int32))] below meth c s₁ [] 0 0 := Stand.of_body Bd
  have e0 : s₁.heap = h0 := by rw [← hh, Bd.state]; rfl
  have N0 := Fr.nil n0
  show Go p e below (s₁.setTop (entryFrame m #[(.int (5 : Int32))] 1)) (fun o U' => ∃ v L, o = .returned v ∧ Q_rm1_5 Z w_BACKEND h0 n0 v U'.heap L ∧ FrameEnd s o U' L ({ frames := 0, cells := 0, slots := 0, locals := 0 } : Room).cells ({ frames := 0, cells := 0, slots := 0, locals := 0 } : Room).slots)
  rw [ef_rm1_5]
  show Go p e below (s₁.setTop (mkF m 0 #[.val (.int (5 : Int32))] [])) _
  refine Go.st (fun _ k_ => XS.iloadN X0.here hx rfl (hb hby d1_0) rfl k_) ?_
  show Go p e below (s₁.setTop (mkF m 1 #[.val (.int (5 : Int32))] [(.int (5 : Int32))])) _
  refine Go.st (fun _ k_ => XS.ifYes X0.here hx rfl (pc0 := 1) (pc' := 8) rfl (hb hby d1_1) rfl ((if0 _ _).trans (feq (by decide : ¬ ((5 : Int32) = (0 : Int32)))).2) (by decide) (by decide) k_) ?_
  show Go p e below (s₁.setTop (mkF m 8 #[.val (.int (5 : Int32))] [])) _
  refine Go.st (fun _ k_ => XS.iloadN X0.here hx rfl (hb hby d1_8) rfl k_) ?_
  show Go p e below (s₁.setTop (mkF m 9 #[.val (.int (5 : Int32))] [(.int (5 : Int32))])) _
  refine Go.st (fun _ k_ => XS.iconst X0.here hx rfl (hb hby d1_9) k_) ?_
  show Go p e below (s₁.setTop (mkF m 10 #[.val (.int (5 : Int32))] [(.int (1 : Int32)), (.int (5 : Int32))])) _
  refine Go.st (fun _ k_ => XS.icmpYes X0.here hx rfl (pc0 := 10) (pc' := 17) rfl (hb hby d1_10) rfl (feq (by decide : ¬ ((5 : Int32) = (1 : Int32)))).2 (by decide) (by decide) k_) ?_
  show Go p e below (s₁.setTop (mkF m 17 #[.val (.int (5 : Int32))] [])) _
  refine Go.st (fun _ k_ => XS.iloadN X0.here hx rfl (hb hby d1_17) rfl k_) ?_
  show Go p e below (s₁.setTop (mkF m 18 #[.val (.int (5 : Int32))] [(.int (5 : Int32))])) _
  refine Go.st (fun _ k_ => XS.iconst X0.here hx rfl (hb hby d1_18) k_) ?_
  show Go p e below (s₁.setTop (mkF m 19 #[.val (.int (5 : Int32))] [(.int (2 : Int32)), (.int (5 : Int32))])) _
  refine Go.st (fun _ k_ => XS.icmpYes X0.here hx rfl (pc0 := 19) (pc' := 26) rfl (hb hby d1_19) rfl (feq (by decide : ¬ ((5 : Int32) = (2 : Int32)))).2 (by decide) (by decide) k_) ?_
  show Go p e below (s₁.setTop (mkF m 26 #[.val (.int (5 : Int32))] [])) _
  refine Go.st (fun _ k_ => XS.iloadN X0.here hx rfl (hb hby d1_26) rfl k_) ?_
  show Go p e below (s₁.setTop (mkF m 27 #[.val (.int (5 : Int32))] [(.int (5 : Int32))])) _
  refine Go.st (fun _ k_ => XS.iconst X0.here hx rfl (hb hby d1_27) k_) ?_
  show Go p e below (s₁.setTop (mkF m 28 #[.val (.int (5 : Int32))] [(.int (3 : Int32)), (.int (5 : Int32))])) _
  refine Go.st (fun _ k_ => XS.icmpYes X0.here hx rfl (pc0 := 28) (pc' := 35) rfl (hb hby d1_28) rfl (feq (by decide : ¬ ((5 : Int32) = (3 : Int32)))).2 (by decide) (by decide) k_) ?_
  show Go p e below (s₁.setTop (mkF m 35 #[.val (.int (5 : Int32))] [])) _
  refine Go.st (fun _ k_ => XS.iloadN X0.here hx rfl (hb hby d1_35) rfl k_) ?_
  show Go p e below (s₁.setTop (mkF m 36 #[.val (.int (5 : Int32))] [(.int (5 : Int32))])) _
  refine Go.st (fun _ k_ => XS.iconst X0.here hx rfl (hb hby d1_36) k_) ?_
  show Go p e below (s₁.setTop (mkF m 37 #[.val (.int (5 : Int32))] [(.int (4 : Int32)), (.int (5 : Int32))])) _
  refine Go.st (fun _ k_ => XS.icmpYes X0.here hx rfl (pc0 := 37) (pc' := 44) rfl (hb hby d1_37) rfl (feq (by decide : ¬ ((5 : Int32) = (4 : Int32)))).2 (by decide) (by decide) k_) ?_
  show Go p e below (s₁.setTop (mkF m 44 #[.val (.int (5 : Int32))] [])) _
  refine Go.st (fun _ k_ => XS.iloadN X0.here hx rfl (hb hby d1_44) rfl k_) ?_
  show Go p e below (s₁.setTop (mkF m 45 #[.val (.int (5 : Int32))] [(.int (5 : Int32))])) _
  refine Go.st (fun _ k_ => XS.iconst X0.here hx rfl (hb hby d1_45) k_) ?_
  show Go p e below (s₁.setTop (mkF m 46 #[.val (.int (5 : Int32))] [(.int (5 : Int32)), (.int (5 : Int32))])) _
  refine Go.st (fun _ k_ => XS.icmpNo X0.here hx rfl (hb hby d1_46) rfl (teq (by decide : (5 : Int32) = (5 : Int32))).2 k_) ?_
  show Go p e below (s₁.setTop (mkF m 49 #[.val (.int (5 : Int32))] [])) _
  obtain ⟨T1, X1, e1, st1⟩ := getS2 X0 hx hZ hown (host := "") (Or.inl (hw _ (List.mem_of_getElem? (i := 28) rfl))) Via.refl e0 S_BACKEND (g := (mkF m 49 #[.val (.int (5 : Int32))] [])) rfl (hb hby d1_49)
  refine Go.st st1 ?_
  show Go p e below (T1.setTop (mkF m 52 #[.val (.int (5 : Int32))] [(.ref w_BACKEND)])) _
  refine Go.fin X1 (v := some (.ref w_BACKEND)) (fun h_ => by rw [Bd.returns] at h_; cases h_) Bd.notSynchronized (fun _ hr => retOut X1 hx Bd.returns rfl (Or.inr (Or.inr (Or.inr (Or.inr ⟨rfl, rfl, rfl⟩)))) (hb hby d1_52) hr) (fun U' hU hF => ⟨_, _, rfl, ?_, hF.1, hF.2.1, hF.2.2.mono (by decide) (by decide)⟩)
  rw [hU, e1]
  exact ⟨(congrArg (fun z_ : Addr => some (Value.ref z_)) (show w_BACKEND = w_BACKEND from rfl)), N0, rfl⟩
theorem d1_53 : decode method_2_code 53 = .ok (.iload_n 0, 1) := by decide +kernel
theorem d1_54 : decode method_2_code 54 = .ok (.bipush 6, 2) := by decide +kernel
theorem d1_56 : decode method_2_code 56 = .ok (.if_icmp .ne 7, 3) := by decide +kernel
theorem d1_59 : decode method_2_code 59 = .ok (.getstatic 28, 3) := by decide +kernel
theorem d1_62 : decode method_2_code 62 = .ok (.areturn, 1) := by decide +kernel
theorem ef_rm1_6 (m : MethodId)  : entryFrame m #[(.int (6 : Int32))] 1 = mkF m 0 #[.val (.int (6 : Int32))] [] := by first | (simp [entryFrame, mkF, argsToLocals, Value.category]; done) | rfl
def Q_rm1_6 (Z : State) (w_LISTEN : Addr) (h0 : Heap) (n0 : Nat) (v : Option Value) (h : Heap) (L : List Loc) : Prop := v = some (.ref w_LISTEN) ∧ Fr n0 L ∧ h = h0
set_option maxRecDepth 65536 in
set_option maxHeartbeats 40000000 in
theorem rm1_6 (l : Launch) (Z : State) (a0 : Array Value) (hw : ∀ d ∈ tables_1, d.before a0 Z = true) (ws : List Jvm.Cond) (w_LISTEN : Addr) (h0 : Heap) (n0 : Nat) (Z0 : n0 ≤ h0.size) (S_LISTEN : Sta Z h0 "com/example/method_to_route/methodtoroute/cli/Option" "LISTEN" "Lcom/example/method_to_route/methodtoroute/cli/Option;" (.ref w_LISTEN)) :
    MetFree l (⟨"com/example/method_to_route/methodtoroute/cli/OptionRepeatsPinLaw", "pick", "(I)Lcom/example/method_to_route/methodtoroute/cli/Option;"⟩ : MethodName) (head1 (Jvm.Cond.code (⟨"com/example/method_to_route/methodtoroute/cli/OptionRepeatsPinLaw", "pick", "(I)Lcom/example/method_to_route/methodtoroute/cli/Option;"⟩ : MethodName) method_2_code 1 (some (.object "com/example/method_to_route/methodtoroute/cli/Option")) :: ws) ({ frames := 0, cells := 0, slots := 0, locals := 0 } : Room)) (fun a U => a = #[(.int (6 : Int32))] ∧ Z.Warmed39 U.vm ∧ U.heap = h0) (fun _ _ _ _ _ => True) (fun _ U o U' => ∃ v L, o = .returned v ∧ Q_rm1_6 Z w_LISTEN h0 n0 v U'.heap L ∧ FrameEnd U o U' L ({ frames := 0, cells := 0, slots := 0, locals := 0 } : Room).cells ({ frames := 0, cells := 0, slots := 0, locals := 0 } : Room).slots) := by
  refine MetFree.of_bodySF (plainFor_of_name pn_4) hisR ?_
  intro p e s m args below meth c s₁ Bd hml0 hP hK
  obtain ⟨rfl, hZ, hh⟩ := hP
  have hx := Bd.exec
  have hby := Bd.bytes
  have hml : c.maxLocals = 1 := hml0
  have hown : s.vm.findClass "com/example/method_to_route/methodtoroute/cli/OptionRepeatsPinLaw" = some m.cls := findClass_of_methodNamed Bd.named
  have hnm := (name_of_methodNamed Bd.named Bd.method).1
  have X0 : Stand p l e ({ frames := 0, cells := 0, slots := 0, locals := 0 } : Room) s m #[(.int (6 : Int32))] below meth c s₁ [] 0 0 := Stand.of_body Bd
  have e0 : s₁.heap = h0 := by rw [← hh, Bd.state]; rfl
  have N0 := Fr.nil n0
  show Go p e below (s₁.setTop (entryFrame m #[(.int (6 : Int32))] 1)) (fun o U' => ∃ v L, o = .returned v ∧ Q_rm1_6 Z w_LISTEN h0 n0 v U'.heap L ∧ FrameEnd s o U' L ({ frames := 0, cells := 0, slots := 0, locals := 0 } : Room).cells ({ frames := 0, cells := 0, slots := 0, locals := 0 } : Room).slots)
  rw [ef_rm1_6]
  show Go p e below (s₁.setTop (mkF m 0 #[.val (.int (6 : Int32))] [])) _
  refine Go.st (fun _ k_ => XS.iloadN X0.here hx rfl (hb hby d1_0) rfl k_) ?_
  show Go p e below (s₁.setTop (mkF m 1 #[.val (.int (6 : Int32))] [(.int (6 : Int32))])) _
  refine Go.st (fun _ k_ => XS.ifYes X0.here hx rfl (pc0 := 1) (pc' := 8) rfl (hb hby d1_1) rfl ((if0 _ _).trans (feq (by decide : ¬ ((6 : Int32) = (0 : Int32)))).2) (by decide) (by decide) k_) ?_
  show Go p e below (s₁.setTop (mkF m 8 #[.val (.int (6 : Int32))] [])) _
  refine Go.st (fun _ k_ => XS.iloadN X0.here hx rfl (hb hby d1_8) rfl k_) ?_
  show Go p e below (s₁.setTop (mkF m 9 #[.val (.int (6 : Int32))] [(.int (6 : Int32))])) _
  refine Go.st (fun _ k_ => XS.iconst X0.here hx rfl (hb hby d1_9) k_) ?_
  show Go p e below (s₁.setTop (mkF m 10 #[.val (.int (6 : Int32))] [(.int (1 : Int32)), (.int (6 : Int32))])) _
  refine Go.st (fun _ k_ => XS.icmpYes X0.here hx rfl (pc0 := 10) (pc' := 17) rfl (hb hby d1_10) rfl (feq (by decide : ¬ ((6 : Int32) = (1 : Int32)))).2 (by decide) (by decide) k_) ?_
  show Go p e below (s₁.setTop (mkF m 17 #[.val (.int (6 : Int32))] [])) _
  refine Go.st (fun _ k_ => XS.iloadN X0.here hx rfl (hb hby d1_17) rfl k_) ?_
  show Go p e below (s₁.setTop (mkF m 18 #[.val (.int (6 : Int32))] [(.int (6 : Int32))])) _
  refine Go.st (fun _ k_ => XS.iconst X0.here hx rfl (hb hby d1_18) k_) ?_
  show Go p e below (s₁.setTop (mkF m 19 #[.val (.int (6 : Int32))] [(.int (2 : Int32)), (.int (6 : Int32))])) _
  refine Go.st (fun _ k_ => XS.icmpYes X0.here hx rfl (pc0 := 19) (pc' := 26) rfl (hb hby d1_19) rfl (feq (by decide : ¬ ((6 : Int32) = (2 : Int32)))).2 (by decide) (by decide) k_) ?_
  show Go p e below (s₁.setTop (mkF m 26 #[.val (.int (6 : Int32))] [])) _
  refine Go.st (fun _ k_ => XS.iloadN X0.here hx rfl (hb hby d1_26) rfl k_) ?_
  show Go p e below (s₁.setTop (mkF m 27 #[.val (.int (6 : Int32))] [(.int (6 : Int32))])) _
  refine Go.st (fun _ k_ => XS.iconst X0.here hx rfl (hb hby d1_27) k_) ?_
  show Go p e below (s₁.setTop (mkF m 28 #[.val (.int (6 : Int32))] [(.int (3 : Int32)), (.int (6 : Int32))])) _
  refine Go.st (fun _ k_ => XS.icmpYes X0.here hx rfl (pc0 := 28) (pc' := 35) rfl (hb hby d1_28) rfl (feq (by decide : ¬ ((6 : Int32) = (3 : Int32)))).2 (by decide) (by decide) k_) ?_
  show Go p e below (s₁.setTop (mkF m 35 #[.val (.int (6 : Int32))] [])) _
  refine Go.st (fun _ k_ => XS.iloadN X0.here hx rfl (hb hby d1_35) rfl k_) ?_
  show Go p e below (s₁.setTop (mkF m 36 #[.val (.int (6 : Int32))] [(.int (6 : Int32))])) _
  refine Go.st (fun _ k_ => XS.iconst X0.here hx rfl (hb hby d1_36) k_) ?_
  show Go p e below (s₁.setTop (mkF m 37 #[.val (.int (6 : Int32))] [(.int (4 : Int32)), (.int (6 : Int32))])) _
  refine Go.st (fun _ k_ => XS.icmpYes X0.here hx rfl (pc0 := 37) (pc' := 44) rfl (hb hby d1_37) rfl (feq (by decide : ¬ ((6 : Int32) = (4 : Int32)))).2 (by decide) (by decide) k_) ?_
  show Go p e below (s₁.setTop (mkF m 44 #[.val (.int (6 : Int32))] [])) _
  refine Go.st (fun _ k_ => XS.iloadN X0.here hx rfl (hb hby d1_44) rfl k_) ?_
  show Go p e below (s₁.setTop (mkF m 45 #[.val (.int (6 : Int32))] [(.int (6 : Int32))])) _
  refine Go.st (fun _ k_ => XS.iconst X0.here hx rfl (hb hby d1_45) k_) ?_
  show Go p e below (s₁.setTop (mkF m 46 #[.val (.int (6 : Int32))] [(.int (5 : Int32)), (.int (6 : Int32))])) _
  refine Go.st (fun _ k_ => XS.icmpYes X0.here hx rfl (pc0 := 46) (pc' := 53) rfl (hb hby d1_46) rfl (feq (by decide : ¬ ((6 : Int32) = (5 : Int32)))).2 (by decide) (by decide) k_) ?_
  show Go p e below (s₁.setTop (mkF m 53 #[.val (.int (6 : Int32))] [])) _
  refine Go.st (fun _ k_ => XS.iloadN X0.here hx rfl (hb hby d1_53) rfl k_) ?_
  show Go p e below (s₁.setTop (mkF m 54 #[.val (.int (6 : Int32))] [(.int (6 : Int32))])) _
  refine Go.st (fun _ k_ => XS.bipush X0.here hx rfl (hb hby d1_54) k_) ?_
  show Go p e below (s₁.setTop (mkF m 56 #[.val (.int (6 : Int32))] [(.int (6 : Int32)), (.int (6 : Int32))])) _
  refine Go.st (fun _ k_ => XS.icmpNo X0.here hx rfl (hb hby d1_56) rfl (teq (by decide : (6 : Int32) = (6 : Int32))).2 k_) ?_
  show Go p e below (s₁.setTop (mkF m 59 #[.val (.int (6 : Int32))] [])) _
  obtain ⟨T1, X1, e1, st1⟩ := getS2 X0 hx hZ hown (host := "") (Or.inl (hw _ (List.mem_of_getElem? (i := 18) rfl))) Via.refl e0 S_LISTEN (g := (mkF m 59 #[.val (.int (6 : Int32))] [])) rfl (hb hby d1_59)
  refine Go.st st1 ?_
  show Go p e below (T1.setTop (mkF m 62 #[.val (.int (6 : Int32))] [(.ref w_LISTEN)])) _
  refine Go.fin X1 (v := some (.ref w_LISTEN)) (fun h_ => by rw [Bd.returns] at h_; cases h_) Bd.notSynchronized (fun _ hr => retOut X1 hx Bd.returns rfl (Or.inr (Or.inr (Or.inr (Or.inr ⟨rfl, rfl, rfl⟩)))) (hb hby d1_62) hr) (fun U' hU hF => ⟨_, _, rfl, ?_, hF.1, hF.2.1, hF.2.2.mono (by decide) (by decide)⟩)
  rw [hU, e1]
  exact ⟨(congrArg (fun z_ : Addr => some (Value.ref z_)) (show w_LISTEN = w_LISTEN from rfl)), N0, rfl⟩
theorem d1_63 : decode method_2_code 63 = .ok (.getstatic 31, 3) := by decide +kernel
theorem d1_66 : decode method_2_code 66 = .ok (.areturn, 1) := by decide +kernel
theorem ef_rm1_7 (m : MethodId)  : entryFrame m #[(.int (7 : Int32))] 1 = mkF m 0 #[.val (.int (7 : Int32))] [] := by first | (simp [entryFrame, mkF, argsToLocals, Value.category]; done) | rfl
def Q_rm1_7 (Z : State) (w_TIMEOUT : Addr) (h0 : Heap) (n0 : Nat) (v : Option Value) (h : Heap) (L : List Loc) : Prop := v = some (.ref w_TIMEOUT) ∧ Fr n0 L ∧ h = h0
set_option maxRecDepth 65536 in
set_option maxHeartbeats 40000000 in
theorem rm1_7 (l : Launch) (Z : State) (a0 : Array Value) (hw : ∀ d ∈ tables_1, d.before a0 Z = true) (ws : List Jvm.Cond) (w_TIMEOUT : Addr) (h0 : Heap) (n0 : Nat) (Z0 : n0 ≤ h0.size) (S_TIMEOUT : Sta Z h0 "com/example/method_to_route/methodtoroute/cli/Option" "TIMEOUT" "Lcom/example/method_to_route/methodtoroute/cli/Option;" (.ref w_TIMEOUT)) :
    MetFree l (⟨"com/example/method_to_route/methodtoroute/cli/OptionRepeatsPinLaw", "pick", "(I)Lcom/example/method_to_route/methodtoroute/cli/Option;"⟩ : MethodName) (head1 (Jvm.Cond.code (⟨"com/example/method_to_route/methodtoroute/cli/OptionRepeatsPinLaw", "pick", "(I)Lcom/example/method_to_route/methodtoroute/cli/Option;"⟩ : MethodName) method_2_code 1 (some (.object "com/example/method_to_route/methodtoroute/cli/Option")) :: ws) ({ frames := 0, cells := 0, slots := 0, locals := 0 } : Room)) (fun a U => a = #[(.int (7 : Int32))] ∧ Z.Warmed39 U.vm ∧ U.heap = h0) (fun _ _ _ _ _ => True) (fun _ U o U' => ∃ v L, o = .returned v ∧ Q_rm1_7 Z w_TIMEOUT h0 n0 v U'.heap L ∧ FrameEnd U o U' L ({ frames := 0, cells := 0, slots := 0, locals := 0 } : Room).cells ({ frames := 0, cells := 0, slots := 0, locals := 0 } : Room).slots) := by
  refine MetFree.of_bodySF (plainFor_of_name pn_4) hisR ?_
  intro p e s m args below meth c s₁ Bd hml0 hP hK
  obtain ⟨rfl, hZ, hh⟩ := hP
  have hx := Bd.exec
  have hby := Bd.bytes
  have hml : c.maxLocals = 1 := hml0
  have hown : s.vm.findClass "com/example/method_to_route/methodtoroute/cli/OptionRepeatsPinLaw" = some m.cls := findClass_of_methodNamed Bd.named
  have hnm := (name_of_methodNamed Bd.named Bd.method).1
  have X0 : Stand p l e ({ frames := 0, cells := 0, slots := 0, locals := 0 } : Room) s m #[(.int (7 : Int32))] below meth c s₁ [] 0 0 := Stand.of_body Bd
  have e0 : s₁.heap = h0 := by rw [← hh, Bd.state]; rfl
  have N0 := Fr.nil n0
  show Go p e below (s₁.setTop (entryFrame m #[(.int (7 : Int32))] 1)) (fun o U' => ∃ v L, o = .returned v ∧ Q_rm1_7 Z w_TIMEOUT h0 n0 v U'.heap L ∧ FrameEnd s o U' L ({ frames := 0, cells := 0, slots := 0, locals := 0 } : Room).cells ({ frames := 0, cells := 0, slots := 0, locals := 0 } : Room).slots)
  rw [ef_rm1_7]
  show Go p e below (s₁.setTop (mkF m 0 #[.val (.int (7 : Int32))] [])) _
  refine Go.st (fun _ k_ => XS.iloadN X0.here hx rfl (hb hby d1_0) rfl k_) ?_
  show Go p e below (s₁.setTop (mkF m 1 #[.val (.int (7 : Int32))] [(.int (7 : Int32))])) _
  refine Go.st (fun _ k_ => XS.ifYes X0.here hx rfl (pc0 := 1) (pc' := 8) rfl (hb hby d1_1) rfl ((if0 _ _).trans (feq (by decide : ¬ ((7 : Int32) = (0 : Int32)))).2) (by decide) (by decide) k_) ?_
  show Go p e below (s₁.setTop (mkF m 8 #[.val (.int (7 : Int32))] [])) _
  refine Go.st (fun _ k_ => XS.iloadN X0.here hx rfl (hb hby d1_8) rfl k_) ?_
  show Go p e below (s₁.setTop (mkF m 9 #[.val (.int (7 : Int32))] [(.int (7 : Int32))])) _
  refine Go.st (fun _ k_ => XS.iconst X0.here hx rfl (hb hby d1_9) k_) ?_
  show Go p e below (s₁.setTop (mkF m 10 #[.val (.int (7 : Int32))] [(.int (1 : Int32)), (.int (7 : Int32))])) _
  refine Go.st (fun _ k_ => XS.icmpYes X0.here hx rfl (pc0 := 10) (pc' := 17) rfl (hb hby d1_10) rfl (feq (by decide : ¬ ((7 : Int32) = (1 : Int32)))).2 (by decide) (by decide) k_) ?_
  show Go p e below (s₁.setTop (mkF m 17 #[.val (.int (7 : Int32))] [])) _
  refine Go.st (fun _ k_ => XS.iloadN X0.here hx rfl (hb hby d1_17) rfl k_) ?_
  show Go p e below (s₁.setTop (mkF m 18 #[.val (.int (7 : Int32))] [(.int (7 : Int32))])) _
  refine Go.st (fun _ k_ => XS.iconst X0.here hx rfl (hb hby d1_18) k_) ?_
  show Go p e below (s₁.setTop (mkF m 19 #[.val (.int (7 : Int32))] [(.int (2 : Int32)), (.int (7 : Int32))])) _
  refine Go.st (fun _ k_ => XS.icmpYes X0.here hx rfl (pc0 := 19) (pc' := 26) rfl (hb hby d1_19) rfl (feq (by decide : ¬ ((7 : Int32) = (2 : Int32)))).2 (by decide) (by decide) k_) ?_
  show Go p e below (s₁.setTop (mkF m 26 #[.val (.int (7 : Int32))] [])) _
  refine Go.st (fun _ k_ => XS.iloadN X0.here hx rfl (hb hby d1_26) rfl k_) ?_
  show Go p e below (s₁.setTop (mkF m 27 #[.val (.int (7 : Int32))] [(.int (7 : Int32))])) _
  refine Go.st (fun _ k_ => XS.iconst X0.here hx rfl (hb hby d1_27) k_) ?_
  show Go p e below (s₁.setTop (mkF m 28 #[.val (.int (7 : Int32))] [(.int (3 : Int32)), (.int (7 : Int32))])) _
  refine Go.st (fun _ k_ => XS.icmpYes X0.here hx rfl (pc0 := 28) (pc' := 35) rfl (hb hby d1_28) rfl (feq (by decide : ¬ ((7 : Int32) = (3 : Int32)))).2 (by decide) (by decide) k_) ?_
  show Go p e below (s₁.setTop (mkF m 35 #[.val (.int (7 : Int32))] [])) _
  refine Go.st (fun _ k_ => XS.iloadN X0.here hx rfl (hb hby d1_35) rfl k_) ?_
  show Go p e below (s₁.setTop (mkF m 36 #[.val (.int (7 : Int32))] [(.int (7 : Int32))])) _
  refine Go.st (fun _ k_ => XS.iconst X0.here hx rfl (hb hby d1_36) k_) ?_
  show Go p e below (s₁.setTop (mkF m 37 #[.val (.int (7 : Int32))] [(.int (4 : Int32)), (.int (7 : Int32))])) _
  refine Go.st (fun _ k_ => XS.icmpYes X0.here hx rfl (pc0 := 37) (pc' := 44) rfl (hb hby d1_37) rfl (feq (by decide : ¬ ((7 : Int32) = (4 : Int32)))).2 (by decide) (by decide) k_) ?_
  show Go p e below (s₁.setTop (mkF m 44 #[.val (.int (7 : Int32))] [])) _
  refine Go.st (fun _ k_ => XS.iloadN X0.here hx rfl (hb hby d1_44) rfl k_) ?_
  show Go p e below (s₁.setTop (mkF m 45 #[.val (.int (7 : Int32))] [(.int (7 : Int32))])) _
  refine Go.st (fun _ k_ => XS.iconst X0.here hx rfl (hb hby d1_45) k_) ?_
  show Go p e below (s₁.setTop (mkF m 46 #[.val (.int (7 : Int32))] [(.int (5 : Int32)), (.int (7 : Int32))])) _
  refine Go.st (fun _ k_ => XS.icmpYes X0.here hx rfl (pc0 := 46) (pc' := 53) rfl (hb hby d1_46) rfl (feq (by decide : ¬ ((7 : Int32) = (5 : Int32)))).2 (by decide) (by decide) k_) ?_
  show Go p e below (s₁.setTop (mkF m 53 #[.val (.int (7 : Int32))] [])) _
  refine Go.st (fun _ k_ => XS.iloadN X0.here hx rfl (hb hby d1_53) rfl k_) ?_
  show Go p e below (s₁.setTop (mkF m 54 #[.val (.int (7 : Int32))] [(.int (7 : Int32))])) _
  refine Go.st (fun _ k_ => XS.bipush X0.here hx rfl (hb hby d1_54) k_) ?_
  show Go p e below (s₁.setTop (mkF m 56 #[.val (.int (7 : Int32))] [(.int (6 : Int32)), (.int (7 : Int32))])) _
  refine Go.st (fun _ k_ => XS.icmpYes X0.here hx rfl (pc0 := 56) (pc' := 63) rfl (hb hby d1_56) rfl (feq (by decide : ¬ ((7 : Int32) = (6 : Int32)))).2 (by decide) (by decide) k_) ?_
  show Go p e below (s₁.setTop (mkF m 63 #[.val (.int (7 : Int32))] [])) _
  obtain ⟨T1, X1, e1, st1⟩ := getS2 X0 hx hZ hown (host := "") (Or.inl (hw _ (List.mem_of_getElem? (i := 20) rfl))) Via.refl e0 S_TIMEOUT (g := (mkF m 63 #[.val (.int (7 : Int32))] [])) rfl (hb hby d1_63)
  refine Go.st st1 ?_
  show Go p e below (T1.setTop (mkF m 66 #[.val (.int (7 : Int32))] [(.ref w_TIMEOUT)])) _
  refine Go.fin X1 (v := some (.ref w_TIMEOUT)) (fun h_ => by rw [Bd.returns] at h_; cases h_) Bd.notSynchronized (fun _ hr => retOut X1 hx Bd.returns rfl (Or.inr (Or.inr (Or.inr (Or.inr ⟨rfl, rfl, rfl⟩)))) (hb hby d1_66) hr) (fun U' hU hF => ⟨_, _, rfl, ?_, hF.1, hF.2.1, hF.2.2.mono (by decide) (by decide)⟩)
  rw [hU, e1]
  exact ⟨(congrArg (fun z_ : Addr => some (Value.ref z_)) (show w_TIMEOUT = w_TIMEOUT from rfl)), N0, rfl⟩
theorem d2_0 : decode prog_28_method_5_code 0 = .ok (.aload_n 0, 1) := by decide +kernel
theorem d2_1 : decode prog_28_method_5_code 1 = .ok (.getstatic 3, 3) := by decide +kernel
theorem d2_4 : decode prog_28_method_5_code 4 = .ok (.if_acmp .ne 7, 3) := by decide +kernel
theorem d2_7 : decode prog_28_method_5_code 7 = .ok (.iconst 1, 1) := by decide +kernel
theorem d2_8 : decode prog_28_method_5_code 8 = .ok (.goto 4, 3) := by decide +kernel
theorem d2_11 : decode prog_28_method_5_code 11 = .ok (.iconst 0, 1) := by decide +kernel
theorem d2_12 : decode prog_28_method_5_code 12 = .ok (.ireturn, 1) := by decide +kernel
theorem pn_44 : plainName "com/example/method_to_route/methodtoroute/cli/Option" = true := by first | (simp [plainName, overriddenIn]; done) | decide +kernel
theorem ef_rm2 (m : MethodId) (a1 : Addr) : entryFrame m #[(.ref a1)] 1 = mkF m 0 #[.val (.ref a1)] [] := by first | (simp [entryFrame, mkF, argsToLocals, Value.category]; done) | rfl
def Q_rm2 (Z : State) (a1 : Addr) (w_CONFIG : Addr) (h0 : Heap) (n0 : Nat) (v : Option Value) (h : Heap) (L : List Loc) : Prop := v = some (.int (own_rep a1 w_CONFIG)) ∧ Fr n0 L ∧ h = h0
set_option maxRecDepth 65536 in
set_option maxHeartbeats 40000000 in
theorem rm2 (l : Launch) (Z : State) (a0 : Array Value) (hw : ∀ d ∈ tables_1, d.before a0 Z = true) (ws : List Jvm.Cond) (a1 : Addr) (w_CONFIG : Addr) (h0 : Heap) (n0 : Nat) (Z0 : n0 ≤ h0.size) (S_CONFIG : Sta Z h0 "com/example/method_to_route/methodtoroute/cli/Option" "CONFIG" "Lcom/example/method_to_route/methodtoroute/cli/Option;" (.ref w_CONFIG)) :
    MetFree l (⟨"com/example/method_to_route/methodtoroute/cli/Option", "repeats", "()Z"⟩ : MethodName) (head1 (Jvm.Cond.code (⟨"com/example/method_to_route/methodtoroute/cli/Option", "repeats", "()Z"⟩ : MethodName) prog_28_method_5_code 1 (some .boolean) :: ws) ({ frames := 0, cells := 0, slots := 0, locals := 0 } : Room)) (fun a U => a = #[(.ref a1)] ∧ Z.Warmed39 U.vm ∧ U.heap = h0) (fun _ _ _ _ _ => True) (fun _ U o U' => ∃ v L, o = .returned v ∧ Q_rm2 Z a1 w_CONFIG h0 n0 v U'.heap L ∧ FrameEnd U o U' L ({ frames := 0, cells := 0, slots := 0, locals := 0 } : Room).cells ({ frames := 0, cells := 0, slots := 0, locals := 0 } : Room).slots) := by
  refine MetFree.of_bodySF (plainFor_of_name pn_44) hisR ?_
  intro p e s m args below meth c s₁ Bd hml0 hP hK
  obtain ⟨rfl, hZ, hh⟩ := hP
  have hx := Bd.exec
  have hby := Bd.bytes
  have hml : c.maxLocals = 1 := hml0
  have hown : s.vm.findClass "com/example/method_to_route/methodtoroute/cli/Option" = some m.cls := findClass_of_methodNamed Bd.named
  have hnm := (name_of_methodNamed Bd.named Bd.method).1
  have X0 : Stand p l e ({ frames := 0, cells := 0, slots := 0, locals := 0 } : Room) s m #[(.ref a1)] below meth c s₁ [] 0 0 := Stand.of_body Bd
  have e0 : s₁.heap = h0 := by rw [← hh, Bd.state]; rfl
  have N0 := Fr.nil n0
  show Go p e below (s₁.setTop (entryFrame m #[(.ref a1)] 1)) (fun o U' => ∃ v L, o = .returned v ∧ Q_rm2 Z a1 w_CONFIG h0 n0 v U'.heap L ∧ FrameEnd s o U' L ({ frames := 0, cells := 0, slots := 0, locals := 0 } : Room).cells ({ frames := 0, cells := 0, slots := 0, locals := 0 } : Room).slots)
  rw [ef_rm2]
  show Go p e below (s₁.setTop (mkF m 0 #[.val (.ref a1)] [])) _
  refine Go.st (fun _ k_ => XS.aloadN X0.here hx rfl (hb hby d2_0) rfl rfl k_) ?_
  show Go p e below (s₁.setTop (mkF m 1 #[.val (.ref a1)] [(.ref a1)])) _
  obtain ⟨T1, X1, e1, st1⟩ := getS2 X0 hx hZ hown (host := "") (Or.inl (hw _ (List.mem_of_getElem? (i := 12) rfl))) Via.refl e0 S_CONFIG (g := (mkF m 1 #[.val (.ref a1)] [(.ref a1)])) rfl (hb hby d2_1)
  refine Go.st st1 ?_
  show Go p e below (T1.setTop (mkF m 4 #[.val (.ref a1)] [(.ref w_CONFIG), (.ref a1)])) _
  by_cases hc4 : a1 = w_CONFIG
  · refine Go.st (fun _ k_ => Jvm.RoadKit.acmp (g := (mkF m 4 #[.val (.ref a1)] [(.ref w_CONFIG), (.ref a1)])) X1 hx rfl rfl rfl (pc0 := 4) (pc' := 7) (same := true) rfl (hb hby d2_4) rfl (decide_eq_true (congrArg Value.ref hc4)) (by decide) (by decide) k_) ?_
    show Go p e below (T1.setTop (mkF m 7 #[.val (.ref a1)] [])) _
    refine Go.st (fun _ k_ => XS.iconst X1.here hx rfl (hb hby d2_7) k_) ?_
    show Go p e below (T1.setTop (mkF m 8 #[.val (.ref a1)] [(.int (1 : Int32))])) _
    refine Go.st (fun _ k_ => XS.goto X1.here hx rfl (pc0 := 8) (pc' := 12) rfl (hb hby d2_8) (by decide) (by decide) k_) ?_
    show Go p e below (T1.setTop (mkF m 12 #[.val (.ref a1)] [(.int (1 : Int32))])) _
    refine Go.fin X1 (v := some (.int (1 : Int32))) (fun h_ => by rw [Bd.returns] at h_; cases h_) Bd.notSynchronized (fun _ hr => retN X1 hx (t := .boolean) Bd.returns (by simp) (hb hby d2_12) hr) (fun U' hU hF => ⟨_, _, rfl, ?_, hF.1, hF.2.1, hF.2.2.mono (by decide) (by decide)⟩)
    rw [hU, e1]
    exact ⟨(congrArg (fun z_ : Int32 => some (Value.int z_)) (show (1 : Int32) = (own_rep a1 w_CONFIG) from by simp [own_rep, hc4])), N0, rfl⟩
  · refine Go.st (fun _ k_ => Jvm.RoadKit.acmp (g := (mkF m 4 #[.val (.ref a1)] [(.ref w_CONFIG), (.ref a1)])) X1 hx rfl rfl rfl (pc0 := 4) (pc' := 11) (same := false) rfl (hb hby d2_4) rfl (decide_eq_false fun q_ => hc4 (Value.ref.inj q_)) (by decide) (by decide) k_) ?_
    show Go p e below (T1.setTop (mkF m 11 #[.val (.ref a1)] [])) _
    refine Go.st (fun _ k_ => XS.iconst X1.here hx rfl (hb hby d2_11) k_) ?_
    show Go p e below (T1.setTop (mkF m 12 #[.val (.ref a1)] [(.int (0 : Int32))])) _
    refine Go.fin X1 (v := some (.int (0 : Int32))) (fun h_ => by rw [Bd.returns] at h_; cases h_) Bd.notSynchronized (fun _ hr => retN X1 hx (t := .boolean) Bd.returns (by simp) (hb hby d2_12) hr) (fun U' hU hF => ⟨_, _, rfl, ?_, hF.1, hF.2.1, hF.2.2.mono (by decide) (by decide)⟩)
    rw [hU, e1]
    exact ⟨(congrArg (fun z_ : Int32 => some (Value.int z_)) (show (0 : Int32) = (own_rep a1 w_CONFIG) from by simp [own_rep, hc4])), N0, rfl⟩
theorem d3_0 : decode method_3_code 0 = .ok (.iload_n 0, 1) := by decide +kernel
theorem d3_1 : decode method_3_code 1 = .ok (.ifCond .ne 7, 3) := by decide +kernel
theorem d3_4 : decode method_3_code 4 = .ok (.iconst 1, 1) := by decide +kernel
theorem d3_5 : decode method_3_code 5 = .ok (.goto 4, 3) := by decide +kernel
theorem d3_8 : decode method_3_code 8 = .ok (.iconst 0, 1) := by decide +kernel
theorem d3_9 : decode method_3_code 9 = .ok (.ireturn, 1) := by decide +kernel
theorem ef_rm3 (m : MethodId) (p1 : Int32) : entryFrame m #[(.int p1)] 1 = mkF m 0 #[.val (.int p1)] [] := by first | (simp [entryFrame, mkF, argsToLocals, Value.category]; done) | rfl
def Q_rm3 (Z : State) (p1 : Int32) (h0 : Heap) (n0 : Nat) (v : Option Value) (h : Heap) (L : List Loc) : Prop := v = some (.int (own_exp p1)) ∧ Fr n0 L ∧ h = h0
set_option maxRecDepth 65536 in
set_option maxHeartbeats 40000000 in
theorem rm3 (l : Launch) (Z : State) (a0 : Array Value) (hw : ∀ d ∈ tables_1, d.before a0 Z = true) (ws : List Jvm.Cond) (p1 : Int32) (h0 : Heap) (n0 : Nat) (Z0 : n0 ≤ h0.size) :
    MetFree l (⟨"com/example/method_to_route/methodtoroute/cli/OptionRepeatsPinLaw", "expected", "(I)Z"⟩ : MethodName) (head1 (Jvm.Cond.code (⟨"com/example/method_to_route/methodtoroute/cli/OptionRepeatsPinLaw", "expected", "(I)Z"⟩ : MethodName) method_3_code 1 (some .boolean) :: ws) ({ frames := 0, cells := 0, slots := 0, locals := 0 } : Room)) (fun a U => a = #[(.int p1)] ∧ Z.Warmed39 U.vm ∧ U.heap = h0) (fun _ _ _ _ _ => True) (fun _ U o U' => ∃ v L, o = .returned v ∧ Q_rm3 Z p1 h0 n0 v U'.heap L ∧ FrameEnd U o U' L ({ frames := 0, cells := 0, slots := 0, locals := 0 } : Room).cells ({ frames := 0, cells := 0, slots := 0, locals := 0 } : Room).slots) := by
  refine MetFree.of_bodySF (plainFor_of_name pn_4) hisR ?_
  intro p e s m args below meth c s₁ Bd hml0 hP hK
  obtain ⟨rfl, hZ, hh⟩ := hP
  have hx := Bd.exec
  have hby := Bd.bytes
  have hml : c.maxLocals = 1 := hml0
  have hown : s.vm.findClass "com/example/method_to_route/methodtoroute/cli/OptionRepeatsPinLaw" = some m.cls := findClass_of_methodNamed Bd.named
  have hnm := (name_of_methodNamed Bd.named Bd.method).1
  have X0 : Stand p l e ({ frames := 0, cells := 0, slots := 0, locals := 0 } : Room) s m #[(.int p1)] below meth c s₁ [] 0 0 := Stand.of_body Bd
  have e0 : s₁.heap = h0 := by rw [← hh, Bd.state]; rfl
  have N0 := Fr.nil n0
  show Go p e below (s₁.setTop (entryFrame m #[(.int p1)] 1)) (fun o U' => ∃ v L, o = .returned v ∧ Q_rm3 Z p1 h0 n0 v U'.heap L ∧ FrameEnd s o U' L ({ frames := 0, cells := 0, slots := 0, locals := 0 } : Room).cells ({ frames := 0, cells := 0, slots := 0, locals := 0 } : Room).slots)
  rw [ef_rm3]
  show Go p e below (s₁.setTop (mkF m 0 #[.val (.int p1)] [])) _
  refine Go.st (fun _ k_ => XS.iloadN X0.here hx rfl (hb hby d3_0) rfl k_) ?_
  show Go p e below (s₁.setTop (mkF m 1 #[.val (.int p1)] [(.int p1)])) _
  by_cases hc1 : p1 = (0 : Int32)
  · refine Go.st (fun _ k_ => XS.ifNo X0.here hx rfl (hb hby d3_1) rfl ((if0 _ _).trans (teq hc1).2) k_) ?_
    show Go p e below (s₁.setTop (mkF m 4 #[.val (.int p1)] [])) _
    refine Go.st (fun _ k_ => XS.iconst X0.here hx rfl (hb hby d3_4) k_) ?_
    show Go p e below (s₁.setTop (mkF m 5 #[.val (.int p1)] [(.int (1 : Int32))])) _
    refine Go.st (fun _ k_ => XS.goto X0.here hx rfl (pc0 := 5) (pc' := 9) rfl (hb hby d3_5) (by decide) (by decide) k_) ?_
    show Go p e below (s₁.setTop (mkF m 9 #[.val (.int p1)] [(.int (1 : Int32))])) _
    refine Go.fin X0 (v := some (.int (1 : Int32))) (fun h_ => by rw [Bd.returns] at h_; cases h_) Bd.notSynchronized (fun _ hr => retN X0 hx (t := .boolean) Bd.returns (by simp) (hb hby d3_9) hr) (fun U' hU hF => ⟨_, _, rfl, ?_, hF.1, hF.2.1, hF.2.2.mono (by decide) (by decide)⟩)
    rw [hU, e0]
    exact ⟨(congrArg (fun z_ : Int32 => some (Value.int z_)) (show (1 : Int32) = (own_exp p1) from by simp [own_exp, hc1])), N0, rfl⟩
  · refine Go.st (fun _ k_ => XS.ifYes X0.here hx rfl (pc0 := 1) (pc' := 8) rfl (hb hby d3_1) rfl ((if0 _ _).trans (feq hc1).2) (by decide) (by decide) k_) ?_
    show Go p e below (s₁.setTop (mkF m 8 #[.val (.int p1)] [])) _
    refine Go.st (fun _ k_ => XS.iconst X0.here hx rfl (hb hby d3_8) k_) ?_
    show Go p e below (s₁.setTop (mkF m 9 #[.val (.int p1)] [(.int (0 : Int32))])) _
    refine Go.fin X0 (v := some (.int (0 : Int32))) (fun h_ => by rw [Bd.returns] at h_; cases h_) Bd.notSynchronized (fun _ hr => retN X0 hx (t := .boolean) Bd.returns (by simp) (hb hby d3_9) hr) (fun U' hU hF => ⟨_, _, rfl, ?_, hF.1, hF.2.1, hF.2.2.mono (by decide) (by decide)⟩)
    rw [hU, e0]
    exact ⟨(congrArg (fun z_ : Int32 => some (Value.int z_)) (show (0 : Int32) = (own_exp p1) from by simp [own_exp, hc1])), N0, rfl⟩
theorem pd_0 : parseMethodDescriptor "(I)Lcom/example/method_to_route/methodtoroute/cli/Option;" = some ⟨[.int], some (.object "com/example/method_to_route/methodtoroute/cli/Option")⟩ := by decide +kernel
theorem pd_1 : parseMethodDescriptor "()Z" = some ⟨[], some .boolean⟩ := by decide +kernel
theorem pd_2 : parseMethodDescriptor "(I)Z" = some ⟨[.int], some .boolean⟩ := by decide +kernel
theorem ef_rm0 (m : MethodId) (p1 : Int32) : entryFrame m #[(.int p1)] maxLocals = mkF m 0 #[.val (.int p1), .unset, .unset] [] := by first | (simp [entryFrame, mkF, argsToLocals, Value.category, maxLocals]; done) | rfl
def Q_rm0 (Z : State) (p1 : Int32) (w_CONFIG : Addr) (w_DESCRIPTORS : Addr) (w_BODY : Addr) (w_CONTENT_TYPE : Addr) (w_REQUESTS : Addr) (w_BACKEND : Addr) (w_LISTEN : Addr) (w_TIMEOUT : Addr) (h0 : Heap) (n0 : Nat) (v : Option Value) (h : Heap) (L : List Loc) : Prop := v = some (.int (1 : Int32)) ∧ Fr n0 L
set_option maxRecDepth 65536 in
set_option maxHeartbeats 40000000 in
theorem rm0 (l : Launch) (Z : State) (a0 : Array Value) (hw : ∀ d ∈ tables_1, d.before a0 Z = true) (ws : List Jvm.Cond) (p1 : Int32) (w_CONFIG : Addr) (w_DESCRIPTORS : Addr) (w_BODY : Addr) (w_CONTENT_TYPE : Addr) (w_REQUESTS : Addr) (w_BACKEND : Addr) (w_LISTEN : Addr) (w_TIMEOUT : Addr) (h0 : Heap) (n0 : Nat) (Z0 : n0 ≤ h0.size) (S_CONFIG : Sta Z h0 "com/example/method_to_route/methodtoroute/cli/Option" "CONFIG" "Lcom/example/method_to_route/methodtoroute/cli/Option;" (.ref w_CONFIG)) (S_DESCRIPTORS : Sta Z h0 "com/example/method_to_route/methodtoroute/cli/Option" "DESCRIPTORS" "Lcom/example/method_to_route/methodtoroute/cli/Option;" (.ref w_DESCRIPTORS)) (S_BODY : Sta Z h0 "com/example/method_to_route/methodtoroute/cli/Option" "BODY" "Lcom/example/method_to_route/methodtoroute/cli/Option;" (.ref w_BODY)) (S_CONTENT_TYPE : Sta Z h0 "com/example/method_to_route/methodtoroute/cli/Option" "CONTENT_TYPE" "Lcom/example/method_to_route/methodtoroute/cli/Option;" (.ref w_CONTENT_TYPE)) (S_REQUESTS : Sta Z h0 "com/example/method_to_route/methodtoroute/cli/Option" "REQUESTS" "Lcom/example/method_to_route/methodtoroute/cli/Option;" (.ref w_REQUESTS)) (S_BACKEND : Sta Z h0 "com/example/method_to_route/methodtoroute/cli/Option" "BACKEND" "Lcom/example/method_to_route/methodtoroute/cli/Option;" (.ref w_BACKEND)) (S_LISTEN : Sta Z h0 "com/example/method_to_route/methodtoroute/cli/Option" "LISTEN" "Lcom/example/method_to_route/methodtoroute/cli/Option;" (.ref w_LISTEN)) (S_TIMEOUT : Sta Z h0 "com/example/method_to_route/methodtoroute/cli/Option" "TIMEOUT" "Lcom/example/method_to_route/methodtoroute/cli/Option;" (.ref w_TIMEOUT)) (E_w_CONFIG : Exa Z h0 w_CONFIG "com/example/method_to_route/methodtoroute/cli/Option") (E_w_DESCRIPTORS : Exa Z h0 w_DESCRIPTORS "com/example/method_to_route/methodtoroute/cli/Option") (E_w_BODY : Exa Z h0 w_BODY "com/example/method_to_route/methodtoroute/cli/Option") (E_w_CONTENT_TYPE : Exa Z h0 w_CONTENT_TYPE "com/example/method_to_route/methodtoroute/cli/Option") (E_w_REQUESTS : Exa Z h0 w_REQUESTS "com/example/method_to_route/methodtoroute/cli/Option") (E_w_BACKEND : Exa Z h0 w_BACKEND "com/example/method_to_route/methodtoroute/cli/Option") (E_w_LISTEN : Exa Z h0 w_LISTEN "com/example/method_to_route/methodtoroute/cli/Option") (E_w_TIMEOUT : Exa Z h0 w_TIMEOUT "com/example/method_to_route/methodtoroute/cli/Option") (ne_DESCRIPTORS_CONFIG : w_DESCRIPTORS ≠ w_CONFIG) (ne_BODY_CONFIG : w_BODY ≠ w_CONFIG) (ne_CONTENT_TYPE_CONFIG : w_CONTENT_TYPE ≠ w_CONFIG) (ne_REQUESTS_CONFIG : w_REQUESTS ≠ w_CONFIG) (ne_BACKEND_CONFIG : w_BACKEND ≠ w_CONFIG) (ne_LISTEN_CONFIG : w_LISTEN ≠ w_CONFIG) (ne_TIMEOUT_CONFIG : w_TIMEOUT ≠ w_CONFIG) :
    MetFree l x (head1 (Jvm.Cond.code x code maxLocals ret :: ws) room_1) (fun a U => a = #[(.int p1)] ∧ Z.Warmed39 U.vm ∧ U.heap = h0) (fun _ _ _ _ _ => True) (fun _ U o U' => ∃ v L, o = .returned v ∧ Q_rm0 Z p1 w_CONFIG w_DESCRIPTORS w_BODY w_CONTENT_TYPE w_REQUESTS w_BACKEND w_LISTEN w_TIMEOUT h0 n0 v U'.heap L ∧ FrameEnd U o U' L room_1.cells room_1.slots) := by
  refine MetFree.of_bodySF (plainFor_of_name pn_4) hisR ?_
  intro p e s m args below meth c s₁ Bd hml0 hP hK
  obtain ⟨rfl, hZ, hh⟩ := hP
  have hx := Bd.exec
  have hby := Bd.bytes
  have hml : c.maxLocals = 3 := hml0
  have hown : s.vm.findClass "com/example/method_to_route/methodtoroute/cli/OptionRepeatsPinLaw" = some m.cls := findClass_of_methodNamed Bd.named
  have hnm := (name_of_methodNamed Bd.named Bd.method).1
  have X0 : Stand p l e room_1 s m #[(.int p1)] below meth c s₁ [] 0 0 := Stand.of_body Bd
  have e0 : s₁.heap = h0 := by rw [← hh, Bd.state]; rfl
  have N0 := Fr.nil n0
  show Go p e below (s₁.setTop (entryFrame m #[(.int p1)] maxLocals)) (fun o U' => ∃ v L, o = .returned v ∧ Q_rm0 Z p1 w_CONFIG w_DESCRIPTORS w_BODY w_CONTENT_TYPE w_REQUESTS w_BACKEND w_LISTEN w_TIMEOUT h0 n0 v U'.heap L ∧ FrameEnd s o U' L room_1.cells room_1.slots)
  rw [ef_rm0]
  show Go p e below (s₁.setTop (mkF m 0 #[.val (.int p1), .unset, .unset] [])) _
  refine Go.st (fun _ k_ => XS.iloadN X0.here hx rfl (hb hby at_0) rfl k_) ?_
  show Go p e below (s₁.setTop (mkF m 1 #[.val (.int p1), .unset, .unset] [(.int p1)])) _
  refine Go.st (fun _ k_ => XS.bipush X0.here hx rfl (hb hby at_1) k_) ?_
  show Go p e below (s₁.setTop (mkF m 3 #[.val (.int p1), .unset, .unset] [(.int (7 : Int32)), (.int p1)])) _
  refine Go.st (fun _ k_ => XS.iand X0.here hx rfl (hb hby at_3) rfl k_) ?_
  show Go p e below (s₁.setTop (mkF m 4 #[.val (.int p1), .unset, .unset] [(.int (p1 &&& (7 : Int32)))])) _
  obtain ⟨kk, ekk⟩ : ∃ z_ : Int32, z_ = (p1 &&& (7 : Int32)) := ⟨_, rfl⟩
  rw [← ekk]
  show Go p e below (s₁.setTop (mkF m 4 #[.val (.int p1), .unset, .unset] [(.int kk)])) _
  refine Go.st (fun _ k_ => XS.istoreN X0.here hx rfl (hb hby at_4) rfl (l' := #[.val (.int p1), .val (.int kk), .unset]) rfl k_) ?_
  show Go p e below (s₁.setTop (mkF m 5 #[.val (.int p1), .val (.int kk), .unset] [])) _
  rcases own_k ekk with hk | hk | hk | hk | hk | hk | hk | hk
  · rw [hk]
    show Go p e below (s₁.setTop (mkF m 5 #[.val (.int p1), .val (.int (0 : Int32)), .unset] [])) _
    refine Go.st (fun _ k_ => XS.iloadN X0.here hx rfl (hb hby at_5) rfl k_) ?_
    show Go p e below (s₁.setTop (mkF m 6 #[.val (.int p1), .val (.int (0 : Int32)), .unset] [(.int (0 : Int32))])) _
    obtain ⟨_, _, ⟨T1, L1, k1_, n1_⟩, -, X1, ⟨Lc1, hQ1, l1_, y1_, z1_⟩, st1⟩ := Jvm.LawKit.callS X0 hx (y := (⟨"com/example/method_to_route/methodtoroute/cli/OptionRepeatsPinLaw", "pick", "(I)Lcom/example/method_to_route/methodtoroute/cli/Option;"⟩ : MethodName)) hown (mvT hZ (hw _ (List.mem_of_getElem? (i := 0) rfl))) (mvT hZ (hw _ (List.mem_of_getElem? (i := 1) rfl))) (mvT hZ (hw _ (List.mem_of_getElem? (i := 2) rfl))) (mvT hZ (hw _ (List.mem_of_getElem? (i := 3) rfl))) (by decide) (backOf (W := 0) (rm1_0 l Z a0 hw [] w_CONFIG h0 n0 Z0 S_CONFIG) hZ (hw _ (List.mem_of_getElem? (i := 3) rfl)) (hw _ (List.mem_of_getElem? (i := 2) rfl)) (by decide) (by decide)) (g := (mkF m 6 #[.val (.int p1), .val (.int (0 : Int32)), .unset] [(.int (0 : Int32))])) rfl (by rw [hml]; rfl) (argsL := [(.int (0 : Int32))]) (rest := []) (lenOf pd_0 rfl) rfl (by show 2 * 0 + _ ≤ _; exact Nat.le_of_eq rfl) (hb hby at_6) (fun _ _ => ⟨rfl, e0, (by decide : 0 + 0 ≤ _), (by decide : 0 + 0 ≤ _)⟩)
    dsimp only [Pt.U, Pt.locs, Pt.cells, Pt.slots] at X1 l1_ y1_ z1_ st1 hQ1
    subst l1_ y1_ z1_
    obtain ⟨rfl, N1q, e1⟩ := hQ1
    have N1 := Fr.app N0 N1q
    refine Go.st st1 ?_
    show Go p e below (T1.setTop (mkF m 9 #[.val (.int p1), .val (.int (0 : Int32)), .unset] [(.ref w_CONFIG)])) _
    refine Go.st (fun _ k_ => XS.astoreN X1.here hx rfl (hb hby at_9) rfl rfl (l' := #[.val (.int p1), .val (.int (0 : Int32)), .val (.ref w_CONFIG)]) rfl k_) ?_
    show Go p e below (T1.setTop (mkF m 10 #[.val (.int p1), .val (.int (0 : Int32)), .val (.ref w_CONFIG)] [])) _
    refine Go.st (fun _ k_ => XS.aloadN X1.here hx rfl (hb hby at_10) rfl rfl k_) ?_
    show Go p e below (T1.setTop (mkF m 11 #[.val (.int p1), .val (.int (0 : Int32)), .val (.ref w_CONFIG)] [(.ref w_CONFIG)])) _
    obtain ⟨cq2, kq2, q2a, q2b, q2c⟩ := isOf hZ e1 E_w_CONFIG
    obtain ⟨_, _, ⟨T2, L2, k2_, n2_⟩, -, X2, ⟨Lc2, hQ2, l2_, y2_, z2_⟩, st2⟩ := X1.virtualBack hx (y := (⟨"com/example/method_to_route/methodtoroute/cli/Option", "repeats", "()Z"⟩ : MethodName)) (z := (⟨"com/example/method_to_route/methodtoroute/cli/Option", "repeats", "()Z"⟩ : MethodName)) hown (mvT hZ (hw _ (List.mem_of_getElem? (i := 7) rfl))) (mvT hZ (hw _ (List.mem_of_getElem? (i := 8) rfl))) (notFace_of_selects (args := #[]) (mvT hZ (hw _ (List.mem_of_getElem? (i := 10) rfl)))) (mvT hZ (hw _ (List.mem_of_getElem? (i := 10) rfl))) (mvT hZ (hw _ (List.mem_of_getElem? (i := 9) rfl))) (by decide) (backOf (W := 0) (rm2 l Z a0 hw [] w_CONFIG w_CONFIG h0 n0 Z0 S_CONFIG) hZ (hw _ (List.mem_of_getElem? (i := 11) rfl)) (hw _ (List.mem_of_getElem? (i := 5) rfl)) (by decide) (by decide)) q2a q2c (g := (mkF m 11 #[.val (.int p1), .val (.int (0 : Int32)), .val (.ref w_CONFIG)] [(.ref w_CONFIG)])) rfl (by rw [hml]; rfl) (Steps.refl _) (argsL := []) (rest := []) (lenOf pd_1 rfl) rfl (by show 2 * 0 + _ ≤ _; exact Nat.le_of_eq rfl) (hb hby at_11) (fun _ _ => ⟨rfl, e1, (by decide : 0 + 0 ≤ _), (by decide : 0 + 0 ≤ _)⟩)
    dsimp only [Pt.U, Pt.locs, Pt.cells, Pt.slots] at X2 l2_ y2_ z2_ st2 hQ2
    subst l2_ y2_ z2_
    obtain ⟨rfl, N2q, e2⟩ := hQ2
    have N2 := Fr.app N1 N2q
    refine Go.tr st2 ?_
    show Go p e below (T2.setTop (mkF m 14 #[.val (.int p1), .val (.int (0 : Int32)), .val (.ref w_CONFIG)] [(.int (own_rep w_CONFIG w_CONFIG))])) _
    refine Go.st (fun _ k_ => XS.iloadN X2.here hx rfl (hb hby at_14) rfl k_) ?_
    show Go p e below (T2.setTop (mkF m 15 #[.val (.int p1), .val (.int (0 : Int32)), .val (.ref w_CONFIG)] [(.int (0 : Int32)), (.int (own_rep w_CONFIG w_CONFIG))])) _
    obtain ⟨_, _, ⟨T3, L3, k3_, n3_⟩, -, X3, ⟨Lc3, hQ3, l3_, y3_, z3_⟩, st3⟩ := Jvm.LawKit.callS X2 hx (y := (⟨"com/example/method_to_route/methodtoroute/cli/OptionRepeatsPinLaw", "expected", "(I)Z"⟩ : MethodName)) hown (mvT hZ (hw _ (List.mem_of_getElem? (i := 13) rfl))) (mvT hZ (hw _ (List.mem_of_getElem? (i := 14) rfl))) (mvT hZ (hw _ (List.mem_of_getElem? (i := 2) rfl))) (mvT hZ (hw _ (List.mem_of_getElem? (i := 15) rfl))) (by decide) (backOf (W := 1) (rm3 l Z a0 hw [] (0 : Int32) h0 n0 Z0) hZ (hw _ (List.mem_of_getElem? (i := 15) rfl)) (hw _ (List.mem_of_getElem? (i := 2) rfl)) (by decide) (by decide)) (g := (mkF m 15 #[.val (.int p1), .val (.int (0 : Int32)), .val (.ref w_CONFIG)] [(.int (0 : Int32)), (.int (own_rep w_CONFIG w_CONFIG))])) rfl (by rw [hml]; rfl) (argsL := [(.int (0 : Int32))]) (rest := [(.int (own_rep w_CONFIG w_CONFIG))]) (lenOf pd_2 rfl) rfl (by show 2 * 0 + _ ≤ _; exact Nat.le_of_eq rfl) (hb hby at_15) (fun _ _ => ⟨rfl, e2, (by decide : 0 + 0 ≤ _), (by decide : 0 + 0 ≤ _)⟩)
    dsimp only [Pt.U, Pt.locs, Pt.cells, Pt.slots] at X3 l3_ y3_ z3_ st3 hQ3
    subst l3_ y3_ z3_
    obtain ⟨rfl, N3q, e3⟩ := hQ3
    have N3 := Fr.app N2 N3q
    refine Go.st st3 ?_
    show Go p e below (T3.setTop (mkF m 18 #[.val (.int p1), .val (.int (0 : Int32)), .val (.ref w_CONFIG)] [(.int (own_exp (0 : Int32))), (.int (own_rep w_CONFIG w_CONFIG))])) _
    have hc18 : (own_rep w_CONFIG w_CONFIG) = (own_exp (0 : Int32)) := by simp [own_rep, own_exp, ne_DESCRIPTORS_CONFIG, ne_BODY_CONFIG, ne_CONTENT_TYPE_CONFIG, ne_REQUESTS_CONFIG, ne_BACKEND_CONFIG, ne_LISTEN_CONFIG, ne_TIMEOUT_CONFIG]
    refine Go.st (fun _ k_ => XS.icmpNo X3.here hx rfl (hb hby at_18) rfl (teq hc18).2 k_) ?_
    show Go p e below (T3.setTop (mkF m 21 #[.val (.int p1), .val (.int (0 : Int32)), .val (.ref w_CONFIG)] [])) _
    refine Go.st (fun _ k_ => XS.iconst X3.here hx rfl (hb hby at_21) k_) ?_
    show Go p e below (T3.setTop (mkF m 22 #[.val (.int p1), .val (.int (0 : Int32)), .val (.ref w_CONFIG)] [(.int (1 : Int32))])) _
    refine Go.st (fun _ k_ => XS.goto X3.here hx rfl (pc0 := 22) (pc' := 26) rfl (hb hby at_22) (by decide) (by decide) k_) ?_
    show Go p e below (T3.setTop (mkF m 26 #[.val (.int p1), .val (.int (0 : Int32)), .val (.ref w_CONFIG)] [(.int (1 : Int32))])) _
    refine Go.fin X3 (v := some (.int (1 : Int32))) (fun h_ => by rw [Bd.returns] at h_; cases h_) Bd.notSynchronized (fun _ hr => retN X3 hx (t := .boolean) Bd.returns (by simp) (hb hby at_26) hr) (fun U' hU hF => ⟨_, _, rfl, ?_, hF.1, hF.2.1, hF.2.2.mono (by decide) (by decide)⟩)
    exact ⟨(congrArg (fun z_ : Int32 => some (Value.int z_)) (show (1 : Int32) = (1 : Int32) from rfl)), N3⟩
  · rw [hk]
    show Go p e below (s₁.setTop (mkF m 5 #[.val (.int p1), .val (.int (1 : Int32)), .unset] [])) _
    refine Go.st (fun _ k_ => XS.iloadN X0.here hx rfl (hb hby at_5) rfl k_) ?_
    show Go p e below (s₁.setTop (mkF m 6 #[.val (.int p1), .val (.int (1 : Int32)), .unset] [(.int (1 : Int32))])) _
    obtain ⟨_, _, ⟨T4, L4, k4_, n4_⟩, -, X4, ⟨Lc4, hQ4, l4_, y4_, z4_⟩, st4⟩ := Jvm.LawKit.callS X0 hx (y := (⟨"com/example/method_to_route/methodtoroute/cli/OptionRepeatsPinLaw", "pick", "(I)Lcom/example/method_to_route/methodtoroute/cli/Option;"⟩ : MethodName)) hown (mvT hZ (hw _ (List.mem_of_getElem? (i := 0) rfl))) (mvT hZ (hw _ (List.mem_of_getElem? (i := 1) rfl))) (mvT hZ (hw _ (List.mem_of_getElem? (i := 2) rfl))) (mvT hZ (hw _ (List.mem_of_getElem? (i := 3) rfl))) (by decide) (backOf (W := 0) (rm1_1 l Z a0 hw [] w_DESCRIPTORS h0 n0 Z0 S_DESCRIPTORS) hZ (hw _ (List.mem_of_getElem? (i := 3) rfl)) (hw _ (List.mem_of_getElem? (i := 2) rfl)) (by decide) (by decide)) (g := (mkF m 6 #[.val (.int p1), .val (.int (1 : Int32)), .unset] [(.int (1 : Int32))])) rfl (by rw [hml]; rfl) (argsL := [(.int (1 : Int32))]) (rest := []) (lenOf pd_0 rfl) rfl (by show 2 * 0 + _ ≤ _; exact Nat.le_of_eq rfl) (hb hby at_6) (fun _ _ => ⟨rfl, e0, (by decide : 0 + 0 ≤ _), (by decide : 0 + 0 ≤ _)⟩)
    dsimp only [Pt.U, Pt.locs, Pt.cells, Pt.slots] at X4 l4_ y4_ z4_ st4 hQ4
    subst l4_ y4_ z4_
    obtain ⟨rfl, N4q, e4⟩ := hQ4
    have N4 := Fr.app N0 N4q
    refine Go.st st4 ?_
    show Go p e below (T4.setTop (mkF m 9 #[.val (.int p1), .val (.int (1 : Int32)), .unset] [(.ref w_DESCRIPTORS)])) _
    refine Go.st (fun _ k_ => XS.astoreN X4.here hx rfl (hb hby at_9) rfl rfl (l' := #[.val (.int p1), .val (.int (1 : Int32)), .val (.ref w_DESCRIPTORS)]) rfl k_) ?_
    show Go p e below (T4.setTop (mkF m 10 #[.val (.int p1), .val (.int (1 : Int32)), .val (.ref w_DESCRIPTORS)] [])) _
    refine Go.st (fun _ k_ => XS.aloadN X4.here hx rfl (hb hby at_10) rfl rfl k_) ?_
    show Go p e below (T4.setTop (mkF m 11 #[.val (.int p1), .val (.int (1 : Int32)), .val (.ref w_DESCRIPTORS)] [(.ref w_DESCRIPTORS)])) _
    obtain ⟨cq5, kq5, q5a, q5b, q5c⟩ := isOf hZ e4 E_w_DESCRIPTORS
    obtain ⟨_, _, ⟨T5, L5, k5_, n5_⟩, -, X5, ⟨Lc5, hQ5, l5_, y5_, z5_⟩, st5⟩ := X4.virtualBack hx (y := (⟨"com/example/method_to_route/methodtoroute/cli/Option", "repeats", "()Z"⟩ : MethodName)) (z := (⟨"com/example/method_to_route/methodtoroute/cli/Option", "repeats", "()Z"⟩ : MethodName)) hown (mvT hZ (hw _ (List.mem_of_getElem? (i := 7) rfl))) (mvT hZ (hw _ (List.mem_of_getElem? (i := 8) rfl))) (notFace_of_selects (args := #[]) (mvT hZ (hw _ (List.mem_of_getElem? (i := 10) rfl)))) (mvT hZ (hw _ (List.mem_of_getElem? (i := 10) rfl))) (mvT hZ (hw _ (List.mem_of_getElem? (i := 9) rfl))) (by decide) (backOf (W := 0) (rm2 l Z a0 hw [] w_DESCRIPTORS w_CONFIG h0 n0 Z0 S_CONFIG) hZ (hw _ (List.mem_of_getElem? (i := 11) rfl)) (hw _ (List.mem_of_getElem? (i := 5) rfl)) (by decide) (by decide)) q5a q5c (g := (mkF m 11 #[.val (.int p1), .val (.int (1 : Int32)), .val (.ref w_DESCRIPTORS)] [(.ref w_DESCRIPTORS)])) rfl (by rw [hml]; rfl) (Steps.refl _) (argsL := []) (rest := []) (lenOf pd_1 rfl) rfl (by show 2 * 0 + _ ≤ _; exact Nat.le_of_eq rfl) (hb hby at_11) (fun _ _ => ⟨rfl, e4, (by decide : 0 + 0 ≤ _), (by decide : 0 + 0 ≤ _)⟩)
    dsimp only [Pt.U, Pt.locs, Pt.cells, Pt.slots] at X5 l5_ y5_ z5_ st5 hQ5
    subst l5_ y5_ z5_
    obtain ⟨rfl, N5q, e5⟩ := hQ5
    have N5 := Fr.app N4 N5q
    refine Go.tr st5 ?_
    show Go p e below (T5.setTop (mkF m 14 #[.val (.int p1), .val (.int (1 : Int32)), .val (.ref w_DESCRIPTORS)] [(.int (own_rep w_DESCRIPTORS w_CONFIG))])) _
    refine Go.st (fun _ k_ => XS.iloadN X5.here hx rfl (hb hby at_14) rfl k_) ?_
    show Go p e below (T5.setTop (mkF m 15 #[.val (.int p1), .val (.int (1 : Int32)), .val (.ref w_DESCRIPTORS)] [(.int (1 : Int32)), (.int (own_rep w_DESCRIPTORS w_CONFIG))])) _
    obtain ⟨_, _, ⟨T6, L6, k6_, n6_⟩, -, X6, ⟨Lc6, hQ6, l6_, y6_, z6_⟩, st6⟩ := Jvm.LawKit.callS X5 hx (y := (⟨"com/example/method_to_route/methodtoroute/cli/OptionRepeatsPinLaw", "expected", "(I)Z"⟩ : MethodName)) hown (mvT hZ (hw _ (List.mem_of_getElem? (i := 13) rfl))) (mvT hZ (hw _ (List.mem_of_getElem? (i := 14) rfl))) (mvT hZ (hw _ (List.mem_of_getElem? (i := 2) rfl))) (mvT hZ (hw _ (List.mem_of_getElem? (i := 15) rfl))) (by decide) (backOf (W := 1) (rm3 l Z a0 hw [] (1 : Int32) h0 n0 Z0) hZ (hw _ (List.mem_of_getElem? (i := 15) rfl)) (hw _ (List.mem_of_getElem? (i := 2) rfl)) (by decide) (by decide)) (g := (mkF m 15 #[.val (.int p1), .val (.int (1 : Int32)), .val (.ref w_DESCRIPTORS)] [(.int (1 : Int32)), (.int (own_rep w_DESCRIPTORS w_CONFIG))])) rfl (by rw [hml]; rfl) (argsL := [(.int (1 : Int32))]) (rest := [(.int (own_rep w_DESCRIPTORS w_CONFIG))]) (lenOf pd_2 rfl) rfl (by show 2 * 0 + _ ≤ _; exact Nat.le_of_eq rfl) (hb hby at_15) (fun _ _ => ⟨rfl, e5, (by decide : 0 + 0 ≤ _), (by decide : 0 + 0 ≤ _)⟩)
    dsimp only [Pt.U, Pt.locs, Pt.cells, Pt.slots] at X6 l6_ y6_ z6_ st6 hQ6
    subst l6_ y6_ z6_
    obtain ⟨rfl, N6q, e6⟩ := hQ6
    have N6 := Fr.app N5 N6q
    refine Go.st st6 ?_
    show Go p e below (T6.setTop (mkF m 18 #[.val (.int p1), .val (.int (1 : Int32)), .val (.ref w_DESCRIPTORS)] [(.int (own_exp (1 : Int32))), (.int (own_rep w_DESCRIPTORS w_CONFIG))])) _
    have hc18 : (own_rep w_DESCRIPTORS w_CONFIG) = (own_exp (1 : Int32)) := by simp [own_rep, own_exp, ne_DESCRIPTORS_CONFIG, ne_BODY_CONFIG, ne_CONTENT_TYPE_CONFIG, ne_REQUESTS_CONFIG, ne_BACKEND_CONFIG, ne_LISTEN_CONFIG, ne_TIMEOUT_CONFIG]
    refine Go.st (fun _ k_ => XS.icmpNo X6.here hx rfl (hb hby at_18) rfl (teq hc18).2 k_) ?_
    show Go p e below (T6.setTop (mkF m 21 #[.val (.int p1), .val (.int (1 : Int32)), .val (.ref w_DESCRIPTORS)] [])) _
    refine Go.st (fun _ k_ => XS.iconst X6.here hx rfl (hb hby at_21) k_) ?_
    show Go p e below (T6.setTop (mkF m 22 #[.val (.int p1), .val (.int (1 : Int32)), .val (.ref w_DESCRIPTORS)] [(.int (1 : Int32))])) _
    refine Go.st (fun _ k_ => XS.goto X6.here hx rfl (pc0 := 22) (pc' := 26) rfl (hb hby at_22) (by decide) (by decide) k_) ?_
    show Go p e below (T6.setTop (mkF m 26 #[.val (.int p1), .val (.int (1 : Int32)), .val (.ref w_DESCRIPTORS)] [(.int (1 : Int32))])) _
    refine Go.fin X6 (v := some (.int (1 : Int32))) (fun h_ => by rw [Bd.returns] at h_; cases h_) Bd.notSynchronized (fun _ hr => retN X6 hx (t := .boolean) Bd.returns (by simp) (hb hby at_26) hr) (fun U' hU hF => ⟨_, _, rfl, ?_, hF.1, hF.2.1, hF.2.2.mono (by decide) (by decide)⟩)
    exact ⟨(congrArg (fun z_ : Int32 => some (Value.int z_)) (show (1 : Int32) = (1 : Int32) from rfl)), N6⟩
  · rw [hk]
    show Go p e below (s₁.setTop (mkF m 5 #[.val (.int p1), .val (.int (2 : Int32)), .unset] [])) _
    refine Go.st (fun _ k_ => XS.iloadN X0.here hx rfl (hb hby at_5) rfl k_) ?_
    show Go p e below (s₁.setTop (mkF m 6 #[.val (.int p1), .val (.int (2 : Int32)), .unset] [(.int (2 : Int32))])) _
    obtain ⟨_, _, ⟨T7, L7, k7_, n7_⟩, -, X7, ⟨Lc7, hQ7, l7_, y7_, z7_⟩, st7⟩ := Jvm.LawKit.callS X0 hx (y := (⟨"com/example/method_to_route/methodtoroute/cli/OptionRepeatsPinLaw", "pick", "(I)Lcom/example/method_to_route/methodtoroute/cli/Option;"⟩ : MethodName)) hown (mvT hZ (hw _ (List.mem_of_getElem? (i := 0) rfl))) (mvT hZ (hw _ (List.mem_of_getElem? (i := 1) rfl))) (mvT hZ (hw _ (List.mem_of_getElem? (i := 2) rfl))) (mvT hZ (hw _ (List.mem_of_getElem? (i := 3) rfl))) (by decide) (backOf (W := 0) (rm1_2 l Z a0 hw [] w_BODY h0 n0 Z0 S_BODY) hZ (hw _ (List.mem_of_getElem? (i := 3) rfl)) (hw _ (List.mem_of_getElem? (i := 2) rfl)) (by decide) (by decide)) (g := (mkF m 6 #[.val (.int p1), .val (.int (2 : Int32)), .unset] [(.int (2 : Int32))])) rfl (by rw [hml]; rfl) (argsL := [(.int (2 : Int32))]) (rest := []) (lenOf pd_0 rfl) rfl (by show 2 * 0 + _ ≤ _; exact Nat.le_of_eq rfl) (hb hby at_6) (fun _ _ => ⟨rfl, e0, (by decide : 0 + 0 ≤ _), (by decide : 0 + 0 ≤ _)⟩)
    dsimp only [Pt.U, Pt.locs, Pt.cells, Pt.slots] at X7 l7_ y7_ z7_ st7 hQ7
    subst l7_ y7_ z7_
    obtain ⟨rfl, N7q, e7⟩ := hQ7
    have N7 := Fr.app N0 N7q
    refine Go.st st7 ?_
    show Go p e below (T7.setTop (mkF m 9 #[.val (.int p1), .val (.int (2 : Int32)), .unset] [(.ref w_BODY)])) _
    refine Go.st (fun _ k_ => XS.astoreN X7.here hx rfl (hb hby at_9) rfl rfl (l' := #[.val (.int p1), .val (.int (2 : Int32)), .val (.ref w_BODY)]) rfl k_) ?_
    show Go p e below (T7.setTop (mkF m 10 #[.val (.int p1), .val (.int (2 : Int32)), .val (.ref w_BODY)] [])) _
    refine Go.st (fun _ k_ => XS.aloadN X7.here hx rfl (hb hby at_10) rfl rfl k_) ?_
    show Go p e below (T7.setTop (mkF m 11 #[.val (.int p1), .val (.int (2 : Int32)), .val (.ref w_BODY)] [(.ref w_BODY)])) _
    obtain ⟨cq8, kq8, q8a, q8b, q8c⟩ := isOf hZ e7 E_w_BODY
    obtain ⟨_, _, ⟨T8, L8, k8_, n8_⟩, -, X8, ⟨Lc8, hQ8, l8_, y8_, z8_⟩, st8⟩ := X7.virtualBack hx (y := (⟨"com/example/method_to_route/methodtoroute/cli/Option", "repeats", "()Z"⟩ : MethodName)) (z := (⟨"com/example/method_to_route/methodtoroute/cli/Option", "repeats", "()Z"⟩ : MethodName)) hown (mvT hZ (hw _ (List.mem_of_getElem? (i := 7) rfl))) (mvT hZ (hw _ (List.mem_of_getElem? (i := 8) rfl))) (notFace_of_selects (args := #[]) (mvT hZ (hw _ (List.mem_of_getElem? (i := 10) rfl)))) (mvT hZ (hw _ (List.mem_of_getElem? (i := 10) rfl))) (mvT hZ (hw _ (List.mem_of_getElem? (i := 9) rfl))) (by decide) (backOf (W := 0) (rm2 l Z a0 hw [] w_BODY w_CONFIG h0 n0 Z0 S_CONFIG) hZ (hw _ (List.mem_of_getElem? (i := 11) rfl)) (hw _ (List.mem_of_getElem? (i := 5) rfl)) (by decide) (by decide)) q8a q8c (g := (mkF m 11 #[.val (.int p1), .val (.int (2 : Int32)), .val (.ref w_BODY)] [(.ref w_BODY)])) rfl (by rw [hml]; rfl) (Steps.refl _) (argsL := []) (rest := []) (lenOf pd_1 rfl) rfl (by show 2 * 0 + _ ≤ _; exact Nat.le_of_eq rfl) (hb hby at_11) (fun _ _ => ⟨rfl, e7, (by decide : 0 + 0 ≤ _), (by decide : 0 + 0 ≤ _)⟩)
    dsimp only [Pt.U, Pt.locs, Pt.cells, Pt.slots] at X8 l8_ y8_ z8_ st8 hQ8
    subst l8_ y8_ z8_
    obtain ⟨rfl, N8q, e8⟩ := hQ8
    have N8 := Fr.app N7 N8q
    refine Go.tr st8 ?_
    show Go p e below (T8.setTop (mkF m 14 #[.val (.int p1), .val (.int (2 : Int32)), .val (.ref w_BODY)] [(.int (own_rep w_BODY w_CONFIG))])) _
    refine Go.st (fun _ k_ => XS.iloadN X8.here hx rfl (hb hby at_14) rfl k_) ?_
    show Go p e below (T8.setTop (mkF m 15 #[.val (.int p1), .val (.int (2 : Int32)), .val (.ref w_BODY)] [(.int (2 : Int32)), (.int (own_rep w_BODY w_CONFIG))])) _
    obtain ⟨_, _, ⟨T9, L9, k9_, n9_⟩, -, X9, ⟨Lc9, hQ9, l9_, y9_, z9_⟩, st9⟩ := Jvm.LawKit.callS X8 hx (y := (⟨"com/example/method_to_route/methodtoroute/cli/OptionRepeatsPinLaw", "expected", "(I)Z"⟩ : MethodName)) hown (mvT hZ (hw _ (List.mem_of_getElem? (i := 13) rfl))) (mvT hZ (hw _ (List.mem_of_getElem? (i := 14) rfl))) (mvT hZ (hw _ (List.mem_of_getElem? (i := 2) rfl))) (mvT hZ (hw _ (List.mem_of_getElem? (i := 15) rfl))) (by decide) (backOf (W := 1) (rm3 l Z a0 hw [] (2 : Int32) h0 n0 Z0) hZ (hw _ (List.mem_of_getElem? (i := 15) rfl)) (hw _ (List.mem_of_getElem? (i := 2) rfl)) (by decide) (by decide)) (g := (mkF m 15 #[.val (.int p1), .val (.int (2 : Int32)), .val (.ref w_BODY)] [(.int (2 : Int32)), (.int (own_rep w_BODY w_CONFIG))])) rfl (by rw [hml]; rfl) (argsL := [(.int (2 : Int32))]) (rest := [(.int (own_rep w_BODY w_CONFIG))]) (lenOf pd_2 rfl) rfl (by show 2 * 0 + _ ≤ _; exact Nat.le_of_eq rfl) (hb hby at_15) (fun _ _ => ⟨rfl, e8, (by decide : 0 + 0 ≤ _), (by decide : 0 + 0 ≤ _)⟩)
    dsimp only [Pt.U, Pt.locs, Pt.cells, Pt.slots] at X9 l9_ y9_ z9_ st9 hQ9
    subst l9_ y9_ z9_
    obtain ⟨rfl, N9q, e9⟩ := hQ9
    have N9 := Fr.app N8 N9q
    refine Go.st st9 ?_
    show Go p e below (T9.setTop (mkF m 18 #[.val (.int p1), .val (.int (2 : Int32)), .val (.ref w_BODY)] [(.int (own_exp (2 : Int32))), (.int (own_rep w_BODY w_CONFIG))])) _
    have hc18 : (own_rep w_BODY w_CONFIG) = (own_exp (2 : Int32)) := by simp [own_rep, own_exp, ne_DESCRIPTORS_CONFIG, ne_BODY_CONFIG, ne_CONTENT_TYPE_CONFIG, ne_REQUESTS_CONFIG, ne_BACKEND_CONFIG, ne_LISTEN_CONFIG, ne_TIMEOUT_CONFIG]
    refine Go.st (fun _ k_ => XS.icmpNo X9.here hx rfl (hb hby at_18) rfl (teq hc18).2 k_) ?_
    show Go p e below (T9.setTop (mkF m 21 #[.val (.int p1), .val (.int (2 : Int32)), .val (.ref w_BODY)] [])) _
    refine Go.st (fun _ k_ => XS.iconst X9.here hx rfl (hb hby at_21) k_) ?_
    show Go p e below (T9.setTop (mkF m 22 #[.val (.int p1), .val (.int (2 : Int32)), .val (.ref w_BODY)] [(.int (1 : Int32))])) _
    refine Go.st (fun _ k_ => XS.goto X9.here hx rfl (pc0 := 22) (pc' := 26) rfl (hb hby at_22) (by decide) (by decide) k_) ?_
    show Go p e below (T9.setTop (mkF m 26 #[.val (.int p1), .val (.int (2 : Int32)), .val (.ref w_BODY)] [(.int (1 : Int32))])) _
    refine Go.fin X9 (v := some (.int (1 : Int32))) (fun h_ => by rw [Bd.returns] at h_; cases h_) Bd.notSynchronized (fun _ hr => retN X9 hx (t := .boolean) Bd.returns (by simp) (hb hby at_26) hr) (fun U' hU hF => ⟨_, _, rfl, ?_, hF.1, hF.2.1, hF.2.2.mono (by decide) (by decide)⟩)
    exact ⟨(congrArg (fun z_ : Int32 => some (Value.int z_)) (show (1 : Int32) = (1 : Int32) from rfl)), N9⟩
  · rw [hk]
    show Go p e below (s₁.setTop (mkF m 5 #[.val (.int p1), .val (.int (3 : Int32)), .unset] [])) _
    refine Go.st (fun _ k_ => XS.iloadN X0.here hx rfl (hb hby at_5) rfl k_) ?_
    show Go p e below (s₁.setTop (mkF m 6 #[.val (.int p1), .val (.int (3 : Int32)), .unset] [(.int (3 : Int32))])) _
    obtain ⟨_, _, ⟨T10, L10, k10_, n10_⟩, -, X10, ⟨Lc10, hQ10, l10_, y10_, z10_⟩, st10⟩ := Jvm.LawKit.callS X0 hx (y := (⟨"com/example/method_to_route/methodtoroute/cli/OptionRepeatsPinLaw", "pick", "(I)Lcom/example/method_to_route/methodtoroute/cli/Option;"⟩ : MethodName)) hown (mvT hZ (hw _ (List.mem_of_getElem? (i := 0) rfl))) (mvT hZ (hw _ (List.mem_of_getElem? (i := 1) rfl))) (mvT hZ (hw _ (List.mem_of_getElem? (i := 2) rfl))) (mvT hZ (hw _ (List.mem_of_getElem? (i := 3) rfl))) (by decide) (backOf (W := 0) (rm1_3 l Z a0 hw [] w_CONTENT_TYPE h0 n0 Z0 S_CONTENT_TYPE) hZ (hw _ (List.mem_of_getElem? (i := 3) rfl)) (hw _ (List.mem_of_getElem? (i := 2) rfl)) (by decide) (by decide)) (g := (mkF m 6 #[.val (.int p1), .val (.int (3 : Int32)), .unset] [(.int (3 : Int32))])) rfl (by rw [hml]; rfl) (argsL := [(.int (3 : Int32))]) (rest := []) (lenOf pd_0 rfl) rfl (by show 2 * 0 + _ ≤ _; exact Nat.le_of_eq rfl) (hb hby at_6) (fun _ _ => ⟨rfl, e0, (by decide : 0 + 0 ≤ _), (by decide : 0 + 0 ≤ _)⟩)
    dsimp only [Pt.U, Pt.locs, Pt.cells, Pt.slots] at X10 l10_ y10_ z10_ st10 hQ10
    subst l10_ y10_ z10_
    obtain ⟨rfl, N10q, e10⟩ := hQ10
    have N10 := Fr.app N0 N10q
    refine Go.st st10 ?_
    show Go p e below (T10.setTop (mkF m 9 #[.val (.int p1), .val (.int (3 : Int32)), .unset] [(.ref w_CONTENT_TYPE)])) _
    refine Go.st (fun _ k_ => XS.astoreN X10.here hx rfl (hb hby at_9) rfl rfl (l' := #[.val (.int p1), .val (.int (3 : Int32)), .val (.ref w_CONTENT_TYPE)]) rfl k_) ?_
    show Go p e below (T10.setTop (mkF m 10 #[.val (.int p1), .val (.int (3 : Int32)), .val (.ref w_CONTENT_TYPE)] [])) _
    refine Go.st (fun _ k_ => XS.aloadN X10.here hx rfl (hb hby at_10) rfl rfl k_) ?_
    show Go p e below (T10.setTop (mkF m 11 #[.val (.int p1), .val (.int (3 : Int32)), .val (.ref w_CONTENT_TYPE)] [(.ref w_CONTENT_TYPE)])) _
    obtain ⟨cq11, kq11, q11a, q11b, q11c⟩ := isOf hZ e10 E_w_CONTENT_TYPE
    obtain ⟨_, _, ⟨T11, L11, k11_, n11_⟩, -, X11, ⟨Lc11, hQ11, l11_, y11_, z11_⟩, st11⟩ := X10.virtualBack hx (y := (⟨"com/example/method_to_route/methodtoroute/cli/Option", "repeats", "()Z"⟩ : MethodName)) (z := (⟨"com/example/method_to_route/methodtoroute/cli/Option", "repeats", "()Z"⟩ : MethodName)) hown (mvT hZ (hw _ (List.mem_of_getElem? (i := 7) rfl))) (mvT hZ (hw _ (List.mem_of_getElem? (i := 8) rfl))) (notFace_of_selects (args := #[]) (mvT hZ (hw _ (List.mem_of_getElem? (i := 10) rfl)))) (mvT hZ (hw _ (List.mem_of_getElem? (i := 10) rfl))) (mvT hZ (hw _ (List.mem_of_getElem? (i := 9) rfl))) (by decide) (backOf (W := 0) (rm2 l Z a0 hw [] w_CONTENT_TYPE w_CONFIG h0 n0 Z0 S_CONFIG) hZ (hw _ (List.mem_of_getElem? (i := 11) rfl)) (hw _ (List.mem_of_getElem? (i := 5) rfl)) (by decide) (by decide)) q11a q11c (g := (mkF m 11 #[.val (.int p1), .val (.int (3 : Int32)), .val (.ref w_CONTENT_TYPE)] [(.ref w_CONTENT_TYPE)])) rfl (by rw [hml]; rfl) (Steps.refl _) (argsL := []) (rest := []) (lenOf pd_1 rfl) rfl (by show 2 * 0 + _ ≤ _; exact Nat.le_of_eq rfl) (hb hby at_11) (fun _ _ => ⟨rfl, e10, (by decide : 0 + 0 ≤ _), (by decide : 0 + 0 ≤ _)⟩)
    dsimp only [Pt.U, Pt.locs, Pt.cells, Pt.slots] at X11 l11_ y11_ z11_ st11 hQ11
    subst l11_ y11_ z11_
    obtain ⟨rfl, N11q, e11⟩ := hQ11
    have N11 := Fr.app N10 N11q
    refine Go.tr st11 ?_
    show Go p e below (T11.setTop (mkF m 14 #[.val (.int p1), .val (.int (3 : Int32)), .val (.ref w_CONTENT_TYPE)] [(.int (own_rep w_CONTENT_TYPE w_CONFIG))])) _
    refine Go.st (fun _ k_ => XS.iloadN X11.here hx rfl (hb hby at_14) rfl k_) ?_
    show Go p e below (T11.setTop (mkF m 15 #[.val (.int p1), .val (.int (3 : Int32)), .val (.ref w_CONTENT_TYPE)] [(.int (3 : Int32)), (.int (own_rep w_CONTENT_TYPE w_CONFIG))])) _
    obtain ⟨_, _, ⟨T12, L12, k12_, n12_⟩, -, X12, ⟨Lc12, hQ12, l12_, y12_, z12_⟩, st12⟩ := Jvm.LawKit.callS X11 hx (y := (⟨"com/example/method_to_route/methodtoroute/cli/OptionRepeatsPinLaw", "expected", "(I)Z"⟩ : MethodName)) hown (mvT hZ (hw _ (List.mem_of_getElem? (i := 13) rfl))) (mvT hZ (hw _ (List.mem_of_getElem? (i := 14) rfl))) (mvT hZ (hw _ (List.mem_of_getElem? (i := 2) rfl))) (mvT hZ (hw _ (List.mem_of_getElem? (i := 15) rfl))) (by decide) (backOf (W := 1) (rm3 l Z a0 hw [] (3 : Int32) h0 n0 Z0) hZ (hw _ (List.mem_of_getElem? (i := 15) rfl)) (hw _ (List.mem_of_getElem? (i := 2) rfl)) (by decide) (by decide)) (g := (mkF m 15 #[.val (.int p1), .val (.int (3 : Int32)), .val (.ref w_CONTENT_TYPE)] [(.int (3 : Int32)), (.int (own_rep w_CONTENT_TYPE w_CONFIG))])) rfl (by rw [hml]; rfl) (argsL := [(.int (3 : Int32))]) (rest := [(.int (own_rep w_CONTENT_TYPE w_CONFIG))]) (lenOf pd_2 rfl) rfl (by show 2 * 0 + _ ≤ _; exact Nat.le_of_eq rfl) (hb hby at_15) (fun _ _ => ⟨rfl, e11, (by decide : 0 + 0 ≤ _), (by decide : 0 + 0 ≤ _)⟩)
    dsimp only [Pt.U, Pt.locs, Pt.cells, Pt.slots] at X12 l12_ y12_ z12_ st12 hQ12
    subst l12_ y12_ z12_
    obtain ⟨rfl, N12q, e12⟩ := hQ12
    have N12 := Fr.app N11 N12q
    refine Go.st st12 ?_
    show Go p e below (T12.setTop (mkF m 18 #[.val (.int p1), .val (.int (3 : Int32)), .val (.ref w_CONTENT_TYPE)] [(.int (own_exp (3 : Int32))), (.int (own_rep w_CONTENT_TYPE w_CONFIG))])) _
    have hc18 : (own_rep w_CONTENT_TYPE w_CONFIG) = (own_exp (3 : Int32)) := by simp [own_rep, own_exp, ne_DESCRIPTORS_CONFIG, ne_BODY_CONFIG, ne_CONTENT_TYPE_CONFIG, ne_REQUESTS_CONFIG, ne_BACKEND_CONFIG, ne_LISTEN_CONFIG, ne_TIMEOUT_CONFIG]
    refine Go.st (fun _ k_ => XS.icmpNo X12.here hx rfl (hb hby at_18) rfl (teq hc18).2 k_) ?_
    show Go p e below (T12.setTop (mkF m 21 #[.val (.int p1), .val (.int (3 : Int32)), .val (.ref w_CONTENT_TYPE)] [])) _
    refine Go.st (fun _ k_ => XS.iconst X12.here hx rfl (hb hby at_21) k_) ?_
    show Go p e below (T12.setTop (mkF m 22 #[.val (.int p1), .val (.int (3 : Int32)), .val (.ref w_CONTENT_TYPE)] [(.int (1 : Int32))])) _
    refine Go.st (fun _ k_ => XS.goto X12.here hx rfl (pc0 := 22) (pc' := 26) rfl (hb hby at_22) (by decide) (by decide) k_) ?_
    show Go p e below (T12.setTop (mkF m 26 #[.val (.int p1), .val (.int (3 : Int32)), .val (.ref w_CONTENT_TYPE)] [(.int (1 : Int32))])) _
    refine Go.fin X12 (v := some (.int (1 : Int32))) (fun h_ => by rw [Bd.returns] at h_; cases h_) Bd.notSynchronized (fun _ hr => retN X12 hx (t := .boolean) Bd.returns (by simp) (hb hby at_26) hr) (fun U' hU hF => ⟨_, _, rfl, ?_, hF.1, hF.2.1, hF.2.2.mono (by decide) (by decide)⟩)
    exact ⟨(congrArg (fun z_ : Int32 => some (Value.int z_)) (show (1 : Int32) = (1 : Int32) from rfl)), N12⟩
  · rw [hk]
    show Go p e below (s₁.setTop (mkF m 5 #[.val (.int p1), .val (.int (4 : Int32)), .unset] [])) _
    refine Go.st (fun _ k_ => XS.iloadN X0.here hx rfl (hb hby at_5) rfl k_) ?_
    show Go p e below (s₁.setTop (mkF m 6 #[.val (.int p1), .val (.int (4 : Int32)), .unset] [(.int (4 : Int32))])) _
    obtain ⟨_, _, ⟨T13, L13, k13_, n13_⟩, -, X13, ⟨Lc13, hQ13, l13_, y13_, z13_⟩, st13⟩ := Jvm.LawKit.callS X0 hx (y := (⟨"com/example/method_to_route/methodtoroute/cli/OptionRepeatsPinLaw", "pick", "(I)Lcom/example/method_to_route/methodtoroute/cli/Option;"⟩ : MethodName)) hown (mvT hZ (hw _ (List.mem_of_getElem? (i := 0) rfl))) (mvT hZ (hw _ (List.mem_of_getElem? (i := 1) rfl))) (mvT hZ (hw _ (List.mem_of_getElem? (i := 2) rfl))) (mvT hZ (hw _ (List.mem_of_getElem? (i := 3) rfl))) (by decide) (backOf (W := 0) (rm1_4 l Z a0 hw [] w_REQUESTS h0 n0 Z0 S_REQUESTS) hZ (hw _ (List.mem_of_getElem? (i := 3) rfl)) (hw _ (List.mem_of_getElem? (i := 2) rfl)) (by decide) (by decide)) (g := (mkF m 6 #[.val (.int p1), .val (.int (4 : Int32)), .unset] [(.int (4 : Int32))])) rfl (by rw [hml]; rfl) (argsL := [(.int (4 : Int32))]) (rest := []) (lenOf pd_0 rfl) rfl (by show 2 * 0 + _ ≤ _; exact Nat.le_of_eq rfl) (hb hby at_6) (fun _ _ => ⟨rfl, e0, (by decide : 0 + 0 ≤ _), (by decide : 0 + 0 ≤ _)⟩)
    dsimp only [Pt.U, Pt.locs, Pt.cells, Pt.slots] at X13 l13_ y13_ z13_ st13 hQ13
    subst l13_ y13_ z13_
    obtain ⟨rfl, N13q, e13⟩ := hQ13
    have N13 := Fr.app N0 N13q
    refine Go.st st13 ?_
    show Go p e below (T13.setTop (mkF m 9 #[.val (.int p1), .val (.int (4 : Int32)), .unset] [(.ref w_REQUESTS)])) _
    refine Go.st (fun _ k_ => XS.astoreN X13.here hx rfl (hb hby at_9) rfl rfl (l' := #[.val (.int p1), .val (.int (4 : Int32)), .val (.ref w_REQUESTS)]) rfl k_) ?_
    show Go p e below (T13.setTop (mkF m 10 #[.val (.int p1), .val (.int (4 : Int32)), .val (.ref w_REQUESTS)] [])) _
    refine Go.st (fun _ k_ => XS.aloadN X13.here hx rfl (hb hby at_10) rfl rfl k_) ?_
    show Go p e below (T13.setTop (mkF m 11 #[.val (.int p1), .val (.int (4 : Int32)), .val (.ref w_REQUESTS)] [(.ref w_REQUESTS)])) _
    obtain ⟨cq14, kq14, q14a, q14b, q14c⟩ := isOf hZ e13 E_w_REQUESTS
    obtain ⟨_, _, ⟨T14, L14, k14_, n14_⟩, -, X14, ⟨Lc14, hQ14, l14_, y14_, z14_⟩, st14⟩ := X13.virtualBack hx (y := (⟨"com/example/method_to_route/methodtoroute/cli/Option", "repeats", "()Z"⟩ : MethodName)) (z := (⟨"com/example/method_to_route/methodtoroute/cli/Option", "repeats", "()Z"⟩ : MethodName)) hown (mvT hZ (hw _ (List.mem_of_getElem? (i := 7) rfl))) (mvT hZ (hw _ (List.mem_of_getElem? (i := 8) rfl))) (notFace_of_selects (args := #[]) (mvT hZ (hw _ (List.mem_of_getElem? (i := 10) rfl)))) (mvT hZ (hw _ (List.mem_of_getElem? (i := 10) rfl))) (mvT hZ (hw _ (List.mem_of_getElem? (i := 9) rfl))) (by decide) (backOf (W := 0) (rm2 l Z a0 hw [] w_REQUESTS w_CONFIG h0 n0 Z0 S_CONFIG) hZ (hw _ (List.mem_of_getElem? (i := 11) rfl)) (hw _ (List.mem_of_getElem? (i := 5) rfl)) (by decide) (by decide)) q14a q14c (g := (mkF m 11 #[.val (.int p1), .val (.int (4 : Int32)), .val (.ref w_REQUESTS)] [(.ref w_REQUESTS)])) rfl (by rw [hml]; rfl) (Steps.refl _) (argsL := []) (rest := []) (lenOf pd_1 rfl) rfl (by show 2 * 0 + _ ≤ _; exact Nat.le_of_eq rfl) (hb hby at_11) (fun _ _ => ⟨rfl, e13, (by decide : 0 + 0 ≤ _), (by decide : 0 + 0 ≤ _)⟩)
    dsimp only [Pt.U, Pt.locs, Pt.cells, Pt.slots] at X14 l14_ y14_ z14_ st14 hQ14
    subst l14_ y14_ z14_
    obtain ⟨rfl, N14q, e14⟩ := hQ14
    have N14 := Fr.app N13 N14q
    refine Go.tr st14 ?_
    show Go p e below (T14.setTop (mkF m 14 #[.val (.int p1), .val (.int (4 : Int32)), .val (.ref w_REQUESTS)] [(.int (own_rep w_REQUESTS w_CONFIG))])) _
    refine Go.st (fun _ k_ => XS.iloadN X14.here hx rfl (hb hby at_14) rfl k_) ?_
    show Go p e below (T14.setTop (mkF m 15 #[.val (.int p1), .val (.int (4 : Int32)), .val (.ref w_REQUESTS)] [(.int (4 : Int32)), (.int (own_rep w_REQUESTS w_CONFIG))])) _
    obtain ⟨_, _, ⟨T15, L15, k15_, n15_⟩, -, X15, ⟨Lc15, hQ15, l15_, y15_, z15_⟩, st15⟩ := Jvm.LawKit.callS X14 hx (y := (⟨"com/example/method_to_route/methodtoroute/cli/OptionRepeatsPinLaw", "expected", "(I)Z"⟩ : MethodName)) hown (mvT hZ (hw _ (List.mem_of_getElem? (i := 13) rfl))) (mvT hZ (hw _ (List.mem_of_getElem? (i := 14) rfl))) (mvT hZ (hw _ (List.mem_of_getElem? (i := 2) rfl))) (mvT hZ (hw _ (List.mem_of_getElem? (i := 15) rfl))) (by decide) (backOf (W := 1) (rm3 l Z a0 hw [] (4 : Int32) h0 n0 Z0) hZ (hw _ (List.mem_of_getElem? (i := 15) rfl)) (hw _ (List.mem_of_getElem? (i := 2) rfl)) (by decide) (by decide)) (g := (mkF m 15 #[.val (.int p1), .val (.int (4 : Int32)), .val (.ref w_REQUESTS)] [(.int (4 : Int32)), (.int (own_rep w_REQUESTS w_CONFIG))])) rfl (by rw [hml]; rfl) (argsL := [(.int (4 : Int32))]) (rest := [(.int (own_rep w_REQUESTS w_CONFIG))]) (lenOf pd_2 rfl) rfl (by show 2 * 0 + _ ≤ _; exact Nat.le_of_eq rfl) (hb hby at_15) (fun _ _ => ⟨rfl, e14, (by decide : 0 + 0 ≤ _), (by decide : 0 + 0 ≤ _)⟩)
    dsimp only [Pt.U, Pt.locs, Pt.cells, Pt.slots] at X15 l15_ y15_ z15_ st15 hQ15
    subst l15_ y15_ z15_
    obtain ⟨rfl, N15q, e15⟩ := hQ15
    have N15 := Fr.app N14 N15q
    refine Go.st st15 ?_
    show Go p e below (T15.setTop (mkF m 18 #[.val (.int p1), .val (.int (4 : Int32)), .val (.ref w_REQUESTS)] [(.int (own_exp (4 : Int32))), (.int (own_rep w_REQUESTS w_CONFIG))])) _
    have hc18 : (own_rep w_REQUESTS w_CONFIG) = (own_exp (4 : Int32)) := by simp [own_rep, own_exp, ne_DESCRIPTORS_CONFIG, ne_BODY_CONFIG, ne_CONTENT_TYPE_CONFIG, ne_REQUESTS_CONFIG, ne_BACKEND_CONFIG, ne_LISTEN_CONFIG, ne_TIMEOUT_CONFIG]
    refine Go.st (fun _ k_ => XS.icmpNo X15.here hx rfl (hb hby at_18) rfl (teq hc18).2 k_) ?_
    show Go p e below (T15.setTop (mkF m 21 #[.val (.int p1), .val (.int (4 : Int32)), .val (.ref w_REQUESTS)] [])) _
    refine Go.st (fun _ k_ => XS.iconst X15.here hx rfl (hb hby at_21) k_) ?_
    show Go p e below (T15.setTop (mkF m 22 #[.val (.int p1), .val (.int (4 : Int32)), .val (.ref w_REQUESTS)] [(.int (1 : Int32))])) _
    refine Go.st (fun _ k_ => XS.goto X15.here hx rfl (pc0 := 22) (pc' := 26) rfl (hb hby at_22) (by decide) (by decide) k_) ?_
    show Go p e below (T15.setTop (mkF m 26 #[.val (.int p1), .val (.int (4 : Int32)), .val (.ref w_REQUESTS)] [(.int (1 : Int32))])) _
    refine Go.fin X15 (v := some (.int (1 : Int32))) (fun h_ => by rw [Bd.returns] at h_; cases h_) Bd.notSynchronized (fun _ hr => retN X15 hx (t := .boolean) Bd.returns (by simp) (hb hby at_26) hr) (fun U' hU hF => ⟨_, _, rfl, ?_, hF.1, hF.2.1, hF.2.2.mono (by decide) (by decide)⟩)
    exact ⟨(congrArg (fun z_ : Int32 => some (Value.int z_)) (show (1 : Int32) = (1 : Int32) from rfl)), N15⟩
  · rw [hk]
    show Go p e below (s₁.setTop (mkF m 5 #[.val (.int p1), .val (.int (5 : Int32)), .unset] [])) _
    refine Go.st (fun _ k_ => XS.iloadN X0.here hx rfl (hb hby at_5) rfl k_) ?_
    show Go p e below (s₁.setTop (mkF m 6 #[.val (.int p1), .val (.int (5 : Int32)), .unset] [(.int (5 : Int32))])) _
    obtain ⟨_, _, ⟨T16, L16, k16_, n16_⟩, -, X16, ⟨Lc16, hQ16, l16_, y16_, z16_⟩, st16⟩ := Jvm.LawKit.callS X0 hx (y := (⟨"com/example/method_to_route/methodtoroute/cli/OptionRepeatsPinLaw", "pick", "(I)Lcom/example/method_to_route/methodtoroute/cli/Option;"⟩ : MethodName)) hown (mvT hZ (hw _ (List.mem_of_getElem? (i := 0) rfl))) (mvT hZ (hw _ (List.mem_of_getElem? (i := 1) rfl))) (mvT hZ (hw _ (List.mem_of_getElem? (i := 2) rfl))) (mvT hZ (hw _ (List.mem_of_getElem? (i := 3) rfl))) (by decide) (backOf (W := 0) (rm1_5 l Z a0 hw [] w_BACKEND h0 n0 Z0 S_BACKEND) hZ (hw _ (List.mem_of_getElem? (i := 3) rfl)) (hw _ (List.mem_of_getElem? (i := 2) rfl)) (by decide) (by decide)) (g := (mkF m 6 #[.val (.int p1), .val (.int (5 : Int32)), .unset] [(.int (5 : Int32))])) rfl (by rw [hml]; rfl) (argsL := [(.int (5 : Int32))]) (rest := []) (lenOf pd_0 rfl) rfl (by show 2 * 0 + _ ≤ _; exact Nat.le_of_eq rfl) (hb hby at_6) (fun _ _ => ⟨rfl, e0, (by decide : 0 + 0 ≤ _), (by decide : 0 + 0 ≤ _)⟩)
    dsimp only [Pt.U, Pt.locs, Pt.cells, Pt.slots] at X16 l16_ y16_ z16_ st16 hQ16
    subst l16_ y16_ z16_
    obtain ⟨rfl, N16q, e16⟩ := hQ16
    have N16 := Fr.app N0 N16q
    refine Go.st st16 ?_
    show Go p e below (T16.setTop (mkF m 9 #[.val (.int p1), .val (.int (5 : Int32)), .unset] [(.ref w_BACKEND)])) _
    refine Go.st (fun _ k_ => XS.astoreN X16.here hx rfl (hb hby at_9) rfl rfl (l' := #[.val (.int p1), .val (.int (5 : Int32)), .val (.ref w_BACKEND)]) rfl k_) ?_
    show Go p e below (T16.setTop (mkF m 10 #[.val (.int p1), .val (.int (5 : Int32)), .val (.ref w_BACKEND)] [])) _
    refine Go.st (fun _ k_ => XS.aloadN X16.here hx rfl (hb hby at_10) rfl rfl k_) ?_
    show Go p e below (T16.setTop (mkF m 11 #[.val (.int p1), .val (.int (5 : Int32)), .val (.ref w_BACKEND)] [(.ref w_BACKEND)])) _
    obtain ⟨cq17, kq17, q17a, q17b, q17c⟩ := isOf hZ e16 E_w_BACKEND
    obtain ⟨_, _, ⟨T17, L17, k17_, n17_⟩, -, X17, ⟨Lc17, hQ17, l17_, y17_, z17_⟩, st17⟩ := X16.virtualBack hx (y := (⟨"com/example/method_to_route/methodtoroute/cli/Option", "repeats", "()Z"⟩ : MethodName)) (z := (⟨"com/example/method_to_route/methodtoroute/cli/Option", "repeats", "()Z"⟩ : MethodName)) hown (mvT hZ (hw _ (List.mem_of_getElem? (i := 7) rfl))) (mvT hZ (hw _ (List.mem_of_getElem? (i := 8) rfl))) (notFace_of_selects (args := #[]) (mvT hZ (hw _ (List.mem_of_getElem? (i := 10) rfl)))) (mvT hZ (hw _ (List.mem_of_getElem? (i := 10) rfl))) (mvT hZ (hw _ (List.mem_of_getElem? (i := 9) rfl))) (by decide) (backOf (W := 0) (rm2 l Z a0 hw [] w_BACKEND w_CONFIG h0 n0 Z0 S_CONFIG) hZ (hw _ (List.mem_of_getElem? (i := 11) rfl)) (hw _ (List.mem_of_getElem? (i := 5) rfl)) (by decide) (by decide)) q17a q17c (g := (mkF m 11 #[.val (.int p1), .val (.int (5 : Int32)), .val (.ref w_BACKEND)] [(.ref w_BACKEND)])) rfl (by rw [hml]; rfl) (Steps.refl _) (argsL := []) (rest := []) (lenOf pd_1 rfl) rfl (by show 2 * 0 + _ ≤ _; exact Nat.le_of_eq rfl) (hb hby at_11) (fun _ _ => ⟨rfl, e16, (by decide : 0 + 0 ≤ _), (by decide : 0 + 0 ≤ _)⟩)
    dsimp only [Pt.U, Pt.locs, Pt.cells, Pt.slots] at X17 l17_ y17_ z17_ st17 hQ17
    subst l17_ y17_ z17_
    obtain ⟨rfl, N17q, e17⟩ := hQ17
    have N17 := Fr.app N16 N17q
    refine Go.tr st17 ?_
    show Go p e below (T17.setTop (mkF m 14 #[.val (.int p1), .val (.int (5 : Int32)), .val (.ref w_BACKEND)] [(.int (own_rep w_BACKEND w_CONFIG))])) _
    refine Go.st (fun _ k_ => XS.iloadN X17.here hx rfl (hb hby at_14) rfl k_) ?_
    show Go p e below (T17.setTop (mkF m 15 #[.val (.int p1), .val (.int (5 : Int32)), .val (.ref w_BACKEND)] [(.int (5 : Int32)), (.int (own_rep w_BACKEND w_CONFIG))])) _
    obtain ⟨_, _, ⟨T18, L18, k18_, n18_⟩, -, X18, ⟨Lc18, hQ18, l18_, y18_, z18_⟩, st18⟩ := Jvm.LawKit.callS X17 hx (y := (⟨"com/example/method_to_route/methodtoroute/cli/OptionRepeatsPinLaw", "expected", "(I)Z"⟩ : MethodName)) hown (mvT hZ (hw _ (List.mem_of_getElem? (i := 13) rfl))) (mvT hZ (hw _ (List.mem_of_getElem? (i := 14) rfl))) (mvT hZ (hw _ (List.mem_of_getElem? (i := 2) rfl))) (mvT hZ (hw _ (List.mem_of_getElem? (i := 15) rfl))) (by decide) (backOf (W := 1) (rm3 l Z a0 hw [] (5 : Int32) h0 n0 Z0) hZ (hw _ (List.mem_of_getElem? (i := 15) rfl)) (hw _ (List.mem_of_getElem? (i := 2) rfl)) (by decide) (by decide)) (g := (mkF m 15 #[.val (.int p1), .val (.int (5 : Int32)), .val (.ref w_BACKEND)] [(.int (5 : Int32)), (.int (own_rep w_BACKEND w_CONFIG))])) rfl (by rw [hml]; rfl) (argsL := [(.int (5 : Int32))]) (rest := [(.int (own_rep w_BACKEND w_CONFIG))]) (lenOf pd_2 rfl) rfl (by show 2 * 0 + _ ≤ _; exact Nat.le_of_eq rfl) (hb hby at_15) (fun _ _ => ⟨rfl, e17, (by decide : 0 + 0 ≤ _), (by decide : 0 + 0 ≤ _)⟩)
    dsimp only [Pt.U, Pt.locs, Pt.cells, Pt.slots] at X18 l18_ y18_ z18_ st18 hQ18
    subst l18_ y18_ z18_
    obtain ⟨rfl, N18q, e18⟩ := hQ18
    have N18 := Fr.app N17 N18q
    refine Go.st st18 ?_
    show Go p e below (T18.setTop (mkF m 18 #[.val (.int p1), .val (.int (5 : Int32)), .val (.ref w_BACKEND)] [(.int (own_exp (5 : Int32))), (.int (own_rep w_BACKEND w_CONFIG))])) _
    have hc18 : (own_rep w_BACKEND w_CONFIG) = (own_exp (5 : Int32)) := by simp [own_rep, own_exp, ne_DESCRIPTORS_CONFIG, ne_BODY_CONFIG, ne_CONTENT_TYPE_CONFIG, ne_REQUESTS_CONFIG, ne_BACKEND_CONFIG, ne_LISTEN_CONFIG, ne_TIMEOUT_CONFIG]
    refine Go.st (fun _ k_ => XS.icmpNo X18.here hx rfl (hb hby at_18) rfl (teq hc18).2 k_) ?_
    show Go p e below (T18.setTop (mkF m 21 #[.val (.int p1), .val (.int (5 : Int32)), .val (.ref w_BACKEND)] [])) _
    refine Go.st (fun _ k_ => XS.iconst X18.here hx rfl (hb hby at_21) k_) ?_
    show Go p e below (T18.setTop (mkF m 22 #[.val (.int p1), .val (.int (5 : Int32)), .val (.ref w_BACKEND)] [(.int (1 : Int32))])) _
    refine Go.st (fun _ k_ => XS.goto X18.here hx rfl (pc0 := 22) (pc' := 26) rfl (hb hby at_22) (by decide) (by decide) k_) ?_
    show Go p e below (T18.setTop (mkF m 26 #[.val (.int p1), .val (.int (5 : Int32)), .val (.ref w_BACKEND)] [(.int (1 : Int32))])) _
    refine Go.fin X18 (v := some (.int (1 : Int32))) (fun h_ => by rw [Bd.returns] at h_; cases h_) Bd.notSynchronized (fun _ hr => retN X18 hx (t := .boolean) Bd.returns (by simp) (hb hby at_26) hr) (fun U' hU hF => ⟨_, _, rfl, ?_, hF.1, hF.2.1, hF.2.2.mono (by decide) (by decide)⟩)
    exact ⟨(congrArg (fun z_ : Int32 => some (Value.int z_)) (show (1 : Int32) = (1 : Int32) from rfl)), N18⟩
  · rw [hk]
    show Go p e below (s₁.setTop (mkF m 5 #[.val (.int p1), .val (.int (6 : Int32)), .unset] [])) _
    refine Go.st (fun _ k_ => XS.iloadN X0.here hx rfl (hb hby at_5) rfl k_) ?_
    show Go p e below (s₁.setTop (mkF m 6 #[.val (.int p1), .val (.int (6 : Int32)), .unset] [(.int (6 : Int32))])) _
    obtain ⟨_, _, ⟨T19, L19, k19_, n19_⟩, -, X19, ⟨Lc19, hQ19, l19_, y19_, z19_⟩, st19⟩ := Jvm.LawKit.callS X0 hx (y := (⟨"com/example/method_to_route/methodtoroute/cli/OptionRepeatsPinLaw", "pick", "(I)Lcom/example/method_to_route/methodtoroute/cli/Option;"⟩ : MethodName)) hown (mvT hZ (hw _ (List.mem_of_getElem? (i := 0) rfl))) (mvT hZ (hw _ (List.mem_of_getElem? (i := 1) rfl))) (mvT hZ (hw _ (List.mem_of_getElem? (i := 2) rfl))) (mvT hZ (hw _ (List.mem_of_getElem? (i := 3) rfl))) (by decide) (backOf (W := 0) (rm1_6 l Z a0 hw [] w_LISTEN h0 n0 Z0 S_LISTEN) hZ (hw _ (List.mem_of_getElem? (i := 3) rfl)) (hw _ (List.mem_of_getElem? (i := 2) rfl)) (by decide) (by decide)) (g := (mkF m 6 #[.val (.int p1), .val (.int (6 : Int32)), .unset] [(.int (6 : Int32))])) rfl (by rw [hml]; rfl) (argsL := [(.int (6 : Int32))]) (rest := []) (lenOf pd_0 rfl) rfl (by show 2 * 0 + _ ≤ _; exact Nat.le_of_eq rfl) (hb hby at_6) (fun _ _ => ⟨rfl, e0, (by decide : 0 + 0 ≤ _), (by decide : 0 + 0 ≤ _)⟩)
    dsimp only [Pt.U, Pt.locs, Pt.cells, Pt.slots] at X19 l19_ y19_ z19_ st19 hQ19
    subst l19_ y19_ z19_
    obtain ⟨rfl, N19q, e19⟩ := hQ19
    have N19 := Fr.app N0 N19q
    refine Go.st st19 ?_
    show Go p e below (T19.setTop (mkF m 9 #[.val (.int p1), .val (.int (6 : Int32)), .unset] [(.ref w_LISTEN)])) _
    refine Go.st (fun _ k_ => XS.astoreN X19.here hx rfl (hb hby at_9) rfl rfl (l' := #[.val (.int p1), .val (.int (6 : Int32)), .val (.ref w_LISTEN)]) rfl k_) ?_
    show Go p e below (T19.setTop (mkF m 10 #[.val (.int p1), .val (.int (6 : Int32)), .val (.ref w_LISTEN)] [])) _
    refine Go.st (fun _ k_ => XS.aloadN X19.here hx rfl (hb hby at_10) rfl rfl k_) ?_
    show Go p e below (T19.setTop (mkF m 11 #[.val (.int p1), .val (.int (6 : Int32)), .val (.ref w_LISTEN)] [(.ref w_LISTEN)])) _
    obtain ⟨cq20, kq20, q20a, q20b, q20c⟩ := isOf hZ e19 E_w_LISTEN
    obtain ⟨_, _, ⟨T20, L20, k20_, n20_⟩, -, X20, ⟨Lc20, hQ20, l20_, y20_, z20_⟩, st20⟩ := X19.virtualBack hx (y := (⟨"com/example/method_to_route/methodtoroute/cli/Option", "repeats", "()Z"⟩ : MethodName)) (z := (⟨"com/example/method_to_route/methodtoroute/cli/Option", "repeats", "()Z"⟩ : MethodName)) hown (mvT hZ (hw _ (List.mem_of_getElem? (i := 7) rfl))) (mvT hZ (hw _ (List.mem_of_getElem? (i := 8) rfl))) (notFace_of_selects (args := #[]) (mvT hZ (hw _ (List.mem_of_getElem? (i := 10) rfl)))) (mvT hZ (hw _ (List.mem_of_getElem? (i := 10) rfl))) (mvT hZ (hw _ (List.mem_of_getElem? (i := 9) rfl))) (by decide) (backOf (W := 0) (rm2 l Z a0 hw [] w_LISTEN w_CONFIG h0 n0 Z0 S_CONFIG) hZ (hw _ (List.mem_of_getElem? (i := 11) rfl)) (hw _ (List.mem_of_getElem? (i := 5) rfl)) (by decide) (by decide)) q20a q20c (g := (mkF m 11 #[.val (.int p1), .val (.int (6 : Int32)), .val (.ref w_LISTEN)] [(.ref w_LISTEN)])) rfl (by rw [hml]; rfl) (Steps.refl _) (argsL := []) (rest := []) (lenOf pd_1 rfl) rfl (by show 2 * 0 + _ ≤ _; exact Nat.le_of_eq rfl) (hb hby at_11) (fun _ _ => ⟨rfl, e19, (by decide : 0 + 0 ≤ _), (by decide : 0 + 0 ≤ _)⟩)
    dsimp only [Pt.U, Pt.locs, Pt.cells, Pt.slots] at X20 l20_ y20_ z20_ st20 hQ20
    subst l20_ y20_ z20_
    obtain ⟨rfl, N20q, e20⟩ := hQ20
    have N20 := Fr.app N19 N20q
    refine Go.tr st20 ?_
    show Go p e below (T20.setTop (mkF m 14 #[.val (.int p1), .val (.int (6 : Int32)), .val (.ref w_LISTEN)] [(.int (own_rep w_LISTEN w_CONFIG))])) _
    refine Go.st (fun _ k_ => XS.iloadN X20.here hx rfl (hb hby at_14) rfl k_) ?_
    show Go p e below (T20.setTop (mkF m 15 #[.val (.int p1), .val (.int (6 : Int32)), .val (.ref w_LISTEN)] [(.int (6 : Int32)), (.int (own_rep w_LISTEN w_CONFIG))])) _
    obtain ⟨_, _, ⟨T21, L21, k21_, n21_⟩, -, X21, ⟨Lc21, hQ21, l21_, y21_, z21_⟩, st21⟩ := Jvm.LawKit.callS X20 hx (y := (⟨"com/example/method_to_route/methodtoroute/cli/OptionRepeatsPinLaw", "expected", "(I)Z"⟩ : MethodName)) hown (mvT hZ (hw _ (List.mem_of_getElem? (i := 13) rfl))) (mvT hZ (hw _ (List.mem_of_getElem? (i := 14) rfl))) (mvT hZ (hw _ (List.mem_of_getElem? (i := 2) rfl))) (mvT hZ (hw _ (List.mem_of_getElem? (i := 15) rfl))) (by decide) (backOf (W := 1) (rm3 l Z a0 hw [] (6 : Int32) h0 n0 Z0) hZ (hw _ (List.mem_of_getElem? (i := 15) rfl)) (hw _ (List.mem_of_getElem? (i := 2) rfl)) (by decide) (by decide)) (g := (mkF m 15 #[.val (.int p1), .val (.int (6 : Int32)), .val (.ref w_LISTEN)] [(.int (6 : Int32)), (.int (own_rep w_LISTEN w_CONFIG))])) rfl (by rw [hml]; rfl) (argsL := [(.int (6 : Int32))]) (rest := [(.int (own_rep w_LISTEN w_CONFIG))]) (lenOf pd_2 rfl) rfl (by show 2 * 0 + _ ≤ _; exact Nat.le_of_eq rfl) (hb hby at_15) (fun _ _ => ⟨rfl, e20, (by decide : 0 + 0 ≤ _), (by decide : 0 + 0 ≤ _)⟩)
    dsimp only [Pt.U, Pt.locs, Pt.cells, Pt.slots] at X21 l21_ y21_ z21_ st21 hQ21
    subst l21_ y21_ z21_
    obtain ⟨rfl, N21q, e21⟩ := hQ21
    have N21 := Fr.app N20 N21q
    refine Go.st st21 ?_
    show Go p e below (T21.setTop (mkF m 18 #[.val (.int p1), .val (.int (6 : Int32)), .val (.ref w_LISTEN)] [(.int (own_exp (6 : Int32))), (.int (own_rep w_LISTEN w_CONFIG))])) _
    have hc18 : (own_rep w_LISTEN w_CONFIG) = (own_exp (6 : Int32)) := by simp [own_rep, own_exp, ne_DESCRIPTORS_CONFIG, ne_BODY_CONFIG, ne_CONTENT_TYPE_CONFIG, ne_REQUESTS_CONFIG, ne_BACKEND_CONFIG, ne_LISTEN_CONFIG, ne_TIMEOUT_CONFIG]
    refine Go.st (fun _ k_ => XS.icmpNo X21.here hx rfl (hb hby at_18) rfl (teq hc18).2 k_) ?_
    show Go p e below (T21.setTop (mkF m 21 #[.val (.int p1), .val (.int (6 : Int32)), .val (.ref w_LISTEN)] [])) _
    refine Go.st (fun _ k_ => XS.iconst X21.here hx rfl (hb hby at_21) k_) ?_
    show Go p e below (T21.setTop (mkF m 22 #[.val (.int p1), .val (.int (6 : Int32)), .val (.ref w_LISTEN)] [(.int (1 : Int32))])) _
    refine Go.st (fun _ k_ => XS.goto X21.here hx rfl (pc0 := 22) (pc' := 26) rfl (hb hby at_22) (by decide) (by decide) k_) ?_
    show Go p e below (T21.setTop (mkF m 26 #[.val (.int p1), .val (.int (6 : Int32)), .val (.ref w_LISTEN)] [(.int (1 : Int32))])) _
    refine Go.fin X21 (v := some (.int (1 : Int32))) (fun h_ => by rw [Bd.returns] at h_; cases h_) Bd.notSynchronized (fun _ hr => retN X21 hx (t := .boolean) Bd.returns (by simp) (hb hby at_26) hr) (fun U' hU hF => ⟨_, _, rfl, ?_, hF.1, hF.2.1, hF.2.2.mono (by decide) (by decide)⟩)
    exact ⟨(congrArg (fun z_ : Int32 => some (Value.int z_)) (show (1 : Int32) = (1 : Int32) from rfl)), N21⟩
  · rw [hk]
    show Go p e below (s₁.setTop (mkF m 5 #[.val (.int p1), .val (.int (7 : Int32)), .unset] [])) _
    refine Go.st (fun _ k_ => XS.iloadN X0.here hx rfl (hb hby at_5) rfl k_) ?_
    show Go p e below (s₁.setTop (mkF m 6 #[.val (.int p1), .val (.int (7 : Int32)), .unset] [(.int (7 : Int32))])) _
    obtain ⟨_, _, ⟨T22, L22, k22_, n22_⟩, -, X22, ⟨Lc22, hQ22, l22_, y22_, z22_⟩, st22⟩ := Jvm.LawKit.callS X0 hx (y := (⟨"com/example/method_to_route/methodtoroute/cli/OptionRepeatsPinLaw", "pick", "(I)Lcom/example/method_to_route/methodtoroute/cli/Option;"⟩ : MethodName)) hown (mvT hZ (hw _ (List.mem_of_getElem? (i := 0) rfl))) (mvT hZ (hw _ (List.mem_of_getElem? (i := 1) rfl))) (mvT hZ (hw _ (List.mem_of_getElem? (i := 2) rfl))) (mvT hZ (hw _ (List.mem_of_getElem? (i := 3) rfl))) (by decide) (backOf (W := 0) (rm1_7 l Z a0 hw [] w_TIMEOUT h0 n0 Z0 S_TIMEOUT) hZ (hw _ (List.mem_of_getElem? (i := 3) rfl)) (hw _ (List.mem_of_getElem? (i := 2) rfl)) (by decide) (by decide)) (g := (mkF m 6 #[.val (.int p1), .val (.int (7 : Int32)), .unset] [(.int (7 : Int32))])) rfl (by rw [hml]; rfl) (argsL := [(.int (7 : Int32))]) (rest := []) (lenOf pd_0 rfl) rfl (by show 2 * 0 + _ ≤ _; exact Nat.le_of_eq rfl) (hb hby at_6) (fun _ _ => ⟨rfl, e0, (by decide : 0 + 0 ≤ _), (by decide : 0 + 0 ≤ _)⟩)
    dsimp only [Pt.U, Pt.locs, Pt.cells, Pt.slots] at X22 l22_ y22_ z22_ st22 hQ22
    subst l22_ y22_ z22_
    obtain ⟨rfl, N22q, e22⟩ := hQ22
    have N22 := Fr.app N0 N22q
    refine Go.st st22 ?_
    show Go p e below (T22.setTop (mkF m 9 #[.val (.int p1), .val (.int (7 : Int32)), .unset] [(.ref w_TIMEOUT)])) _
    refine Go.st (fun _ k_ => XS.astoreN X22.here hx rfl (hb hby at_9) rfl rfl (l' := #[.val (.int p1), .val (.int (7 : Int32)), .val (.ref w_TIMEOUT)]) rfl k_) ?_
    show Go p e below (T22.setTop (mkF m 10 #[.val (.int p1), .val (.int (7 : Int32)), .val (.ref w_TIMEOUT)] [])) _
    refine Go.st (fun _ k_ => XS.aloadN X22.here hx rfl (hb hby at_10) rfl rfl k_) ?_
    show Go p e below (T22.setTop (mkF m 11 #[.val (.int p1), .val (.int (7 : Int32)), .val (.ref w_TIMEOUT)] [(.ref w_TIMEOUT)])) _
    obtain ⟨cq23, kq23, q23a, q23b, q23c⟩ := isOf hZ e22 E_w_TIMEOUT
    obtain ⟨_, _, ⟨T23, L23, k23_, n23_⟩, -, X23, ⟨Lc23, hQ23, l23_, y23_, z23_⟩, st23⟩ := X22.virtualBack hx (y := (⟨"com/example/method_to_route/methodtoroute/cli/Option", "repeats", "()Z"⟩ : MethodName)) (z := (⟨"com/example/method_to_route/methodtoroute/cli/Option", "repeats", "()Z"⟩ : MethodName)) hown (mvT hZ (hw _ (List.mem_of_getElem? (i := 7) rfl))) (mvT hZ (hw _ (List.mem_of_getElem? (i := 8) rfl))) (notFace_of_selects (args := #[]) (mvT hZ (hw _ (List.mem_of_getElem? (i := 10) rfl)))) (mvT hZ (hw _ (List.mem_of_getElem? (i := 10) rfl))) (mvT hZ (hw _ (List.mem_of_getElem? (i := 9) rfl))) (by decide) (backOf (W := 0) (rm2 l Z a0 hw [] w_TIMEOUT w_CONFIG h0 n0 Z0 S_CONFIG) hZ (hw _ (List.mem_of_getElem? (i := 11) rfl)) (hw _ (List.mem_of_getElem? (i := 5) rfl)) (by decide) (by decide)) q23a q23c (g := (mkF m 11 #[.val (.int p1), .val (.int (7 : Int32)), .val (.ref w_TIMEOUT)] [(.ref w_TIMEOUT)])) rfl (by rw [hml]; rfl) (Steps.refl _) (argsL := []) (rest := []) (lenOf pd_1 rfl) rfl (by show 2 * 0 + _ ≤ _; exact Nat.le_of_eq rfl) (hb hby at_11) (fun _ _ => ⟨rfl, e22, (by decide : 0 + 0 ≤ _), (by decide : 0 + 0 ≤ _)⟩)
    dsimp only [Pt.U, Pt.locs, Pt.cells, Pt.slots] at X23 l23_ y23_ z23_ st23 hQ23
    subst l23_ y23_ z23_
    obtain ⟨rfl, N23q, e23⟩ := hQ23
    have N23 := Fr.app N22 N23q
    refine Go.tr st23 ?_
    show Go p e below (T23.setTop (mkF m 14 #[.val (.int p1), .val (.int (7 : Int32)), .val (.ref w_TIMEOUT)] [(.int (own_rep w_TIMEOUT w_CONFIG))])) _
    refine Go.st (fun _ k_ => XS.iloadN X23.here hx rfl (hb hby at_14) rfl k_) ?_
    show Go p e below (T23.setTop (mkF m 15 #[.val (.int p1), .val (.int (7 : Int32)), .val (.ref w_TIMEOUT)] [(.int (7 : Int32)), (.int (own_rep w_TIMEOUT w_CONFIG))])) _
    obtain ⟨_, _, ⟨T24, L24, k24_, n24_⟩, -, X24, ⟨Lc24, hQ24, l24_, y24_, z24_⟩, st24⟩ := Jvm.LawKit.callS X23 hx (y := (⟨"com/example/method_to_route/methodtoroute/cli/OptionRepeatsPinLaw", "expected", "(I)Z"⟩ : MethodName)) hown (mvT hZ (hw _ (List.mem_of_getElem? (i := 13) rfl))) (mvT hZ (hw _ (List.mem_of_getElem? (i := 14) rfl))) (mvT hZ (hw _ (List.mem_of_getElem? (i := 2) rfl))) (mvT hZ (hw _ (List.mem_of_getElem? (i := 15) rfl))) (by decide) (backOf (W := 1) (rm3 l Z a0 hw [] (7 : Int32) h0 n0 Z0) hZ (hw _ (List.mem_of_getElem? (i := 15) rfl)) (hw _ (List.mem_of_getElem? (i := 2) rfl)) (by decide) (by decide)) (g := (mkF m 15 #[.val (.int p1), .val (.int (7 : Int32)), .val (.ref w_TIMEOUT)] [(.int (7 : Int32)), (.int (own_rep w_TIMEOUT w_CONFIG))])) rfl (by rw [hml]; rfl) (argsL := [(.int (7 : Int32))]) (rest := [(.int (own_rep w_TIMEOUT w_CONFIG))]) (lenOf pd_2 rfl) rfl (by show 2 * 0 + _ ≤ _; exact Nat.le_of_eq rfl) (hb hby at_15) (fun _ _ => ⟨rfl, e23, (by decide : 0 + 0 ≤ _), (by decide : 0 + 0 ≤ _)⟩)
    dsimp only [Pt.U, Pt.locs, Pt.cells, Pt.slots] at X24 l24_ y24_ z24_ st24 hQ24
    subst l24_ y24_ z24_
    obtain ⟨rfl, N24q, e24⟩ := hQ24
    have N24 := Fr.app N23 N24q
    refine Go.st st24 ?_
    show Go p e below (T24.setTop (mkF m 18 #[.val (.int p1), .val (.int (7 : Int32)), .val (.ref w_TIMEOUT)] [(.int (own_exp (7 : Int32))), (.int (own_rep w_TIMEOUT w_CONFIG))])) _
    have hc18 : (own_rep w_TIMEOUT w_CONFIG) = (own_exp (7 : Int32)) := by simp [own_rep, own_exp, ne_DESCRIPTORS_CONFIG, ne_BODY_CONFIG, ne_CONTENT_TYPE_CONFIG, ne_REQUESTS_CONFIG, ne_BACKEND_CONFIG, ne_LISTEN_CONFIG, ne_TIMEOUT_CONFIG]
    refine Go.st (fun _ k_ => XS.icmpNo X24.here hx rfl (hb hby at_18) rfl (teq hc18).2 k_) ?_
    show Go p e below (T24.setTop (mkF m 21 #[.val (.int p1), .val (.int (7 : Int32)), .val (.ref w_TIMEOUT)] [])) _
    refine Go.st (fun _ k_ => XS.iconst X24.here hx rfl (hb hby at_21) k_) ?_
    show Go p e below (T24.setTop (mkF m 22 #[.val (.int p1), .val (.int (7 : Int32)), .val (.ref w_TIMEOUT)] [(.int (1 : Int32))])) _
    refine Go.st (fun _ k_ => XS.goto X24.here hx rfl (pc0 := 22) (pc' := 26) rfl (hb hby at_22) (by decide) (by decide) k_) ?_
    show Go p e below (T24.setTop (mkF m 26 #[.val (.int p1), .val (.int (7 : Int32)), .val (.ref w_TIMEOUT)] [(.int (1 : Int32))])) _
    refine Go.fin X24 (v := some (.int (1 : Int32))) (fun h_ => by rw [Bd.returns] at h_; cases h_) Bd.notSynchronized (fun _ hr => retN X24 hx (t := .boolean) Bd.returns (by simp) (hb hby at_26) hr) (fun U' hU hF => ⟨_, _, rfl, ?_, hF.1, hF.2.1, hF.2.2.mono (by decide) (by decide)⟩)
    exact ⟨(congrArg (fun z_ : Int32 => some (Value.int z_)) (show (1 : Int32) = (1 : Int32) from rfl)), N24⟩
set_option maxRecDepth 65536 in
set_option maxHeartbeats 40000000 in
theorem comes_1 {Post : Tables → Env → Array Value → State → Outcome → State → Prop} (hpost : ∀ tb e args s v u, (limb_1_1.after args s (.returned v) u = true ∧ limb_1_2.after args s (.returned v) u = true ∧ True) → FrameEnd s (.returned v) u (Jvm.fieldLocs frame_1_writes args s ++ Jvm.arrayLocs frame_1_arrays args s ++ Jvm.staticLocs frame_1_statics s) 0 0 → Post tb e args s (.returned v) u) :
    ArmFor flags0 classFile x code maxLocals ret World_1 tables_1 room_1 Calls_1 rest_1 Pre_1 Post := by
  intro l hfl _ _ p e ha hc hk s m args below hf hA hF happ hP
  obtain ⟨hcalls, hrest, hpre⟩ := hP
  obtain ⟨-, -, -, hnamed, -, -, -, hat⟩ := (Spec.applies_iff hf).mp happ
  obtain ⟨hg, hn⟩ := and_e (Cond.before_iff.mp (show (Jvm.Cond.and given_1 narrow_1).before args s = true from hpre))
  obtain ⟨g1, g2⟩ := and_e hg
  obtain ⟨g3, g4⟩ := and_e hn
  obtain ⟨g5, g6⟩ := and_e g4
  obtain ⟨g7, g8⟩ := and_e g6
  obtain ⟨g9, g10⟩ := and_e g8
  obtain ⟨g11, g12⟩ := and_e g10
  obtain ⟨g13, g14⟩ := and_e g12
  obtain ⟨g15, g16⟩ := and_e g14
  obtain ⟨g17, g18⟩ := and_e g16
  obtain ⟨g19, g20⟩ := and_e g18
  obtain ⟨g21, g22⟩ := and_e g20
  obtain ⟨g23, g24⟩ := and_e g22
  obtain ⟨g25, g26⟩ := and_e g24
  obtain ⟨g27, g28⟩ := and_e g26
  obtain ⟨g29, g30⟩ := and_e g28
  obtain ⟨g31, g32⟩ := and_e g30
  obtain ⟨w0, rfl⟩ : ∃ w0 : Value, args = #[w0] := by
    have hs : args.size = 1 := by simpa [Cond.value, given_1] using g1
    obtain ⟨L⟩ := args
    match L, hs with
    | [w0], _ => exact ⟨w0, rfl⟩
  have hw := fun d (hd : d ∈ tables_1) => atoms_spec (ws := Jvm.Cond.code x code maxLocals ret :: tables_1) hat d (List.mem_cons_of_mem _ hd)
  have hfit : Fit s := fun {y c} hc i hi => by
    obtain ⟨ha, rfl⟩ := Array.getElem?_eq_some_iff.mp hc
    have q := List.all_eq_true.mp ((Array.all_eq_true_iff_forall_mem.mp hF) _ (Array.getElem_mem ha)) i (List.mem_range.mpr hi)
    simpa [Array.getElem?_eq_getElem hi] using q
  obtain ⟨i0, ei0⟩ := is_v g2
  obtain rfl : w0 = (.int i0) := Option.some.inj ei0
  obtain ⟨w_CONFIG, ew_CONFIG⟩ := exa_v g3
  have E_w_CONFIG := Exa.start ew_CONFIG g3
  have S_CONFIG := Sta.start ew_CONFIG (Or.inr ⟨(hw _ (List.mem_of_getElem? (i := 5) rfl)), (hw _ (List.mem_of_getElem? (i := 6) rfl))⟩)
  obtain ⟨w_CONTENT_TYPE, ew_CONTENT_TYPE⟩ := exa_v g5
  have E_w_CONTENT_TYPE := Exa.start ew_CONTENT_TYPE g5
  have S_CONTENT_TYPE := Sta.start ew_CONTENT_TYPE (Or.inr ⟨(hw _ (List.mem_of_getElem? (i := 5) rfl)), (hw _ (List.mem_of_getElem? (i := 17) rfl))⟩)
  obtain ⟨w_LISTEN, ew_LISTEN⟩ := exa_v g11
  have E_w_LISTEN := Exa.start ew_LISTEN g11
  have S_LISTEN := Sta.start ew_LISTEN (Or.inr ⟨(hw _ (List.mem_of_getElem? (i := 5) rfl)), (hw _ (List.mem_of_getElem? (i := 19) rfl))⟩)
  obtain ⟨w_TIMEOUT, ew_TIMEOUT⟩ := exa_v g15
  have E_w_TIMEOUT := Exa.start ew_TIMEOUT g15
  have S_TIMEOUT := Sta.start ew_TIMEOUT (Or.inr ⟨(hw _ (List.mem_of_getElem? (i := 5) rfl)), (hw _ (List.mem_of_getElem? (i := 21) rfl))⟩)
  obtain ⟨w_BODY, ew_BODY⟩ := exa_v g19
  have E_w_BODY := Exa.start ew_BODY g19
  have S_BODY := Sta.start ew_BODY (Or.inr ⟨(hw _ (List.mem_of_getElem? (i := 5) rfl)), (hw _ (List.mem_of_getElem? (i := 23) rfl))⟩)
  obtain ⟨w_DESCRIPTORS, ew_DESCRIPTORS⟩ := exa_v g23
  have E_w_DESCRIPTORS := Exa.start ew_DESCRIPTORS g23
  have S_DESCRIPTORS := Sta.start ew_DESCRIPTORS (Or.inr ⟨(hw _ (List.mem_of_getElem? (i := 5) rfl)), (hw _ (List.mem_of_getElem? (i := 25) rfl))⟩)
  obtain ⟨w_REQUESTS, ew_REQUESTS⟩ := exa_v g27
  have E_w_REQUESTS := Exa.start ew_REQUESTS g27
  have S_REQUESTS := Sta.start ew_REQUESTS (Or.inr ⟨(hw _ (List.mem_of_getElem? (i := 5) rfl)), (hw _ (List.mem_of_getElem? (i := 27) rfl))⟩)
  obtain ⟨w_BACKEND, ew_BACKEND⟩ := exa_v g31
  have E_w_BACKEND := Exa.start ew_BACKEND g31
  have S_BACKEND := Sta.start ew_BACKEND (Or.inr ⟨(hw _ (List.mem_of_getElem? (i := 5) rfl)), (hw _ (List.mem_of_getElem? (i := 29) rfl))⟩)
  have o_ordinal_CONTENT_TYPE := own_ord ew_CONTENT_TYPE g7
  have o_ordinal_CONFIG := own_ord ew_CONFIG g9
  have o_ordinal_LISTEN := own_ord ew_LISTEN g13
  have o_ordinal_TIMEOUT := own_ord ew_TIMEOUT g17
  have o_ordinal_BODY := own_ord ew_BODY g21
  have o_ordinal_DESCRIPTORS := own_ord ew_DESCRIPTORS g25
  have o_ordinal_REQUESTS := own_ord ew_REQUESTS g29
  have o_ordinal_BACKEND := own_ord ew_BACKEND g32
  have ne_DESCRIPTORS_CONFIG : w_DESCRIPTORS ≠ w_CONFIG := own_ne o_ordinal_DESCRIPTORS o_ordinal_CONFIG (by decide)
  have ne_BODY_CONFIG : w_BODY ≠ w_CONFIG := own_ne o_ordinal_BODY o_ordinal_CONFIG (by decide)
  have ne_CONTENT_TYPE_CONFIG : w_CONTENT_TYPE ≠ w_CONFIG := own_ne o_ordinal_CONTENT_TYPE o_ordinal_CONFIG (by decide)
  have ne_REQUESTS_CONFIG : w_REQUESTS ≠ w_CONFIG := own_ne o_ordinal_REQUESTS o_ordinal_CONFIG (by decide)
  have ne_BACKEND_CONFIG : w_BACKEND ≠ w_CONFIG := own_ne o_ordinal_BACKEND o_ordinal_CONFIG (by decide)
  have ne_LISTEN_CONFIG : w_LISTEN ≠ w_CONFIG := own_ne o_ordinal_LISTEN o_ordinal_CONFIG (by decide)
  have ne_TIMEOUT_CONFIG : w_TIMEOUT ≠ w_CONFIG := own_ne o_ordinal_TIMEOUT o_ordinal_CONFIG (by decide)
  obtain ⟨n, o, h1, h2, h3, _, L, rfl, ⟨rfl, N⟩, hq⟩ := rm0 l s _ hw tables_1 i0 w_CONFIG w_DESCRIPTORS w_BODY w_CONTENT_TYPE w_REQUESTS w_BACKEND w_LISTEN w_TIMEOUT s.heap s.heap.size (Nat.le_refl _) S_CONFIG S_DESCRIPTORS S_BODY S_CONTENT_TYPE S_REQUESTS S_BACKEND S_LISTEN S_TIMEOUT E_w_CONFIG E_w_DESCRIPTORS E_w_BODY E_w_CONTENT_TYPE E_w_REQUESTS E_w_BACKEND E_w_LISTEN E_w_TIMEOUT ne_DESCRIPTORS_CONFIG ne_BODY_CONFIG ne_CONTENT_TYPE_CONFIG ne_REQUESTS_CONFIG ne_BACKEND_CONFIG ne_LISTEN_CONFIG ne_TIMEOUT_CONFIG p e ha hc hk s m _ below hf ((Spec.applies_iff_loose hf).mp happ).1 ⟨rfl, State.Warmed39.refl s, rfl⟩ trivial
  refine ⟨n, _, h1, h2, h3, hpost _ _ _ _ _ _ ⟨Cond.after_iff.mpr rfl, Cond.after_iff.mpr (eq_i res_at (Term.int_eval (1)) rfl), trivial⟩ ⟨hq.1, hq.2.1, (hq.2.2.sift fun y hy => Or.inr (N y hy)).mono (by decide) (by decide)⟩⟩
theorem main_1_1 : Claimed_1_1 := comes_1 fun _ _ _ _ _ _ h hF => ⟨h.1, hF⟩
theorem main_1_2 : Claimed_1_2 := comes_1 fun _ _ _ _ _ _ h hF => ⟨h.2.1, hF⟩
end Jvm.Pilot.@@N@@
namespace Jvm.Pilot.@@N@@
open Jvm Jvm.ClassFile Sem Op Lib Jvm.Free Jvm.Stand Jvm.Pilot.@@N@@.Jvm.D
/-! MADE BY PROGRAM (witnessworld.py) out of the Statement's table words and the real class files: 12 classes; the members and pool entries that the words name. The judged class is class 1, her method 3. -/
namespace start1
open Jvm.ClassFile
def u (s : String) : CpInfo := .utf8 (stringToUtf16 s)
/-- a pool by its gaps: so many unusable entries, then the entry; so many at the end -/
def gap : Nat → List CpInfo → List CpInfo
  | 0, r => r
  | n + 1, r => .unusable :: gap n r
def poolList (es : List (Nat × CpInfo)) (last : Nat) : List CpInfo := es.foldr (fun e r => gap e.1 (e.2 :: r)) (gap last [])
def pool (es : List (Nat × CpInfo)) (last : Nat) : Array CpInfo := ⟨poolList es last⟩
def fileOf (pool : Array CpInfo) (this : Nat) (attrs : Array Attribute := #[]) (ms : Array MethodInfo := #[]) (fl : Nat := 33) (sup : Nat := 0) (ifs : Array Nat := #[]) (fds : Array FieldInfo := #[]) : ClassFile where
  minorVersion := 0
  majorVersion := 65
  constantPool := pool
  accessFlags := fl
  thisClass := this
  superClass := sup
  interfaces := ifs
  fields := fds
  methods := ms
  attributes := attrs
def plain (name : String) (sup : Option ClassId) : Class where
  name := name
  kind := .ordinary
  loader := none
  accessFlags := 33
  super := sup
  interfaces := #[]
  cf := none
  fields := #[]
  methods := #[]
  instanceTypes := #[]
  staticTypes := #[]
  resolved := #[]
  callSites := []
  init := .initialized
  statics := none
  mirror := none

def pool0 : Array CpInfo := pool [(5, u "<init>"), (0, u "()V"), (1, .class_ 10), (1, u "java/lang/Object")] 113

def k0m0 : Method := { name := "<init>", desc := "()V", sig := { parameters := [], returnType := none }, accessFlags := 1, code := none }
/-- java/lang/Object -/
def k0 : Class := { plain "java/lang/Object" none with
  accessFlags := 33
  interfaces := #[]
  cf := some (fileOf pool0 8 #[] #[{ accessFlags := 1, nameIndex := 5, descriptorIndex := 6, attributes := #[] }] 33 0 #[] #[])
  fields := #[]
  methods := #[k0m0]
  instanceTypes := #[]
  staticTypes := #[]
  resolved := Array.replicate 124 none
  statics := none }

def pool1 : Array CpInfo := pool [(2, .class_ 4), (1, u "java/lang/Object"), (0, u "<init>"), (0, u "()V"), (0, .fieldref 8 9), (0, .class_ 10), (0, .nameAndType 11 12), (0, u "com/example/method_to_route/methodtoroute/cli/Option"), (0, u "CONFIG"), (0, u "Lcom/example/method_to_route/methodtoroute/cli/Option;"), (0, .fieldref 8 14), (0, .nameAndType 15 12), (0, u "DESCRIPTORS"), (0, .fieldref 8 17), (0, .nameAndType 18 12), (0, u "BODY"), (0, .fieldref 8 20), (0, .nameAndType 21 12), (0, u "CONTENT_TYPE"), (0, .fieldref 8 23), (0, .nameAndType 24 12), (0, u "REQUESTS"), (0, .fieldref 8 26), (0, .nameAndType 27 12), (0, u "BACKEND"), (0, .fieldref 8 29), (0, .nameAndType 30 12), (0, u "LISTEN"), (0, .fieldref 8 32), (0, .nameAndType 33 12), (0, u "TIMEOUT"), (0, .methodref 35 36), (0, .class_ 37), (0, .nameAndType 38 39), (0, u "com/example/method_to_route/methodtoroute/cli/OptionRepeatsPinLaw"), (0, u "pick"), (0, u "(I)Lcom/example/method_to_route/methodtoroute/cli/Option;"), (0, .methodref 8 41), (0, .nameAndType 42 43), (0, u "repeats"), (0, u "()Z"), (0, .methodref 35 45), (0, .nameAndType 46 47), (0, u "expected"), (0, u "(I)Z"), (3, u "law")] 2

def k1m0 : Method := { name := "<init>", desc := "()V", sig := { parameters := [], returnType := none }, accessFlags := 2, code := none }
def k1c1 : Code := { maxStack := 2, maxLocals := 1, code := method_2_code, exceptionTable := #[], attributes := #[] }
def k1m1 : Method := { name := "pick", desc := "(I)Lcom/example/method_to_route/methodtoroute/cli/Option;", sig := { parameters := [.int], returnType := some (.object "com/example/method_to_route/methodtoroute/cli/Option") }, accessFlags := 10, code := some k1c1 }
def k1c2 : Code := { maxStack := 1, maxLocals := 1, code := method_3_code, exceptionTable := #[], attributes := #[] }
def k1m2 : Method := { name := "expected", desc := "(I)Z", sig := { parameters := [.int], returnType := some .boolean }, accessFlags := 10, code := some k1c2 }
def k1c3 : Code := { maxStack := 2, maxLocals := 3, code := code, exceptionTable := #[], attributes := #[] }
def k1m3 : Method := { name := "law", desc := "(I)Z", sig := { parameters := [.int], returnType := some .boolean }, accessFlags := 9, code := some k1c3 }
/-- com/example/method_to_route/methodtoroute/cli/OptionRepeatsPinLaw -/
def k1 : Class := { plain "com/example/method_to_route/methodtoroute/cli/OptionRepeatsPinLaw" (some 0) with
  accessFlags := 49
  interfaces := #[]
  cf := some (fileOf pool1 35 #[] #[{ accessFlags := 2, nameIndex := 5, descriptorIndex := 6, attributes := #[] }, { accessFlags := 10, nameIndex := 38, descriptorIndex := 39, attributes := #[] }, { accessFlags := 10, nameIndex := 46, descriptorIndex := 47, attributes := #[] }, { accessFlags := 9, nameIndex := 51, descriptorIndex := 47, attributes := #[] }] 49 2 #[] #[])
  fields := #[]
  methods := #[k1m0, k1m1, k1m2, k1m3]
  instanceTypes := #[]
  staticTypes := #[]
  resolved := Array.replicate 54 none
  statics := none }

def pool2 : Array CpInfo := pool [(1, .class_ 2), (0, u "java/lang/constant/Constable"), (0, .class_ 4), (0, u "java/lang/Object")] 6

/-- java/lang/constant/Constable -/
def k2 : Class := { plain "java/lang/constant/Constable" (some 0) with
  accessFlags := 1537
  interfaces := #[]
  cf := some (fileOf pool2 1 #[] #[] 1537 3 #[] #[])
  fields := #[]
  methods := #[]
  instanceTypes := #[]
  staticTypes := #[]
  resolved := Array.replicate 11 none
  statics := none }

def pool3 : Array CpInfo := pool [(1, .class_ 2), (0, u "java/lang/Comparable"), (0, .class_ 4), (0, u "java/lang/Object")] 7

/-- java/lang/Comparable -/
def k3 : Class := { plain "java/lang/Comparable" (some 0) with
  accessFlags := 1537
  interfaces := #[]
  cf := some (fileOf pool3 1 #[] #[] 1537 3 #[] #[])
  fields := #[]
  methods := #[]
  instanceTypes := #[]
  staticTypes := #[]
  resolved := Array.replicate 12 none
  statics := none }

def pool4 : Array CpInfo := pool [(1, .class_ 2), (0, u "java/io/Serializable"), (0, .class_ 4), (0, u "java/lang/Object")] 2

/-- java/io/Serializable -/
def k4 : Class := { plain "java/io/Serializable" (some 0) with
  accessFlags := 1537
  interfaces := #[]
  cf := some (fileOf pool4 1 #[] #[] 1537 3 #[] #[])
  fields := #[]
  methods := #[]
  instanceTypes := #[]
  staticTypes := #[]
  resolved := Array.replicate 7 none
  statics := none }

def pool5 : Array CpInfo := pool [(2, .class_ 4), (1, u "java/lang/Enum"), (0, u "name"), (0, u "Ljava/lang/String;"), (2, u "ordinal"), (0, u "I"), (1, .class_ 14), (1, u "java/lang/Object"), (4, u "hash"), (86, .class_ 108), (1, u "java/lang/Enum$EnumDesc"), (2, .class_ 112), (0, u "java/lang/constant/Constable"), (0, .class_ 114), (0, u "java/lang/Comparable"), (0, .class_ 116), (0, u "java/io/Serializable")] 87

/-- java/lang/Enum -/
def k5 : Class := { plain "java/lang/Enum" (some 0) with
  accessFlags := 1057
  interfaces := #[2, 3, 4]
  cf := some (fileOf pool5 2 #[.nestMembers #[106]] #[] 1057 12 #[111, 113, 115] #[{ accessFlags := 18, nameIndex := 5, descriptorIndex := 6, attributes := #[] }, { accessFlags := 18, nameIndex := 9, descriptorIndex := 10, attributes := #[] }, { accessFlags := 2, nameIndex := 19, descriptorIndex := 10, attributes := #[] }])
  fields := #[{ name := "name", type := (.object "java/lang/String"), accessFlags := 18, slot := 0, constantValue := 0 }, { name := "ordinal", type := .int, accessFlags := 18, slot := 1, constantValue := 0 }, { name := "hash", type := .int, accessFlags := 2, slot := 2, constantValue := 0 }]
  methods := #[]
  instanceTypes := #[(.object "java/lang/String"), .int, .int]
  staticTypes := #[]
  resolved := Array.replicate 204 none
  statics := none }

def pool6 : Array CpInfo := pool [(1, .class_ 2), (0, u "com/example/method_to_route/methodtoroute/cli/Option"), (0, .fieldref 1 4), (0, .nameAndType 5 6), (0, u "CONFIG"), (0, u "Lcom/example/method_to_route/methodtoroute/cli/Option;"), (2, u "DESCRIPTORS"), (2, u "BODY"), (2, u "CONTENT_TYPE"), (2, u "REQUESTS"), (2, u "BACKEND"), (2, u "LISTEN"), (2, u "TIMEOUT"), (2, u "$VALUES"), (0, u "[Lcom/example/method_to_route/methodtoroute/cli/Option;"), (6, .class_ 40), (1, u "java/lang/Enum"), (8, u "file"), (0, u "Ljava/util/function/Function;"), (90, u "repeats"), (0, u "()Z")] 62

def k6c0 : Code := { maxStack := 2, maxLocals := 1, code := prog_28_method_5_code, exceptionTable := #[], attributes := #[] }
def k6m0 : Method := { name := "repeats", desc := "()Z", sig := { parameters := [], returnType := some .boolean }, accessFlags := 0, code := some k6c0 }
/-- com/example/method_to_route/methodtoroute/cli/Option -/
def k6 : Class := { plain "com/example/method_to_route/methodtoroute/cli/Option" (some 5) with
  accessFlags := 16432
  interfaces := #[]
  cf := some (fileOf pool6 1 #[] #[{ accessFlags := 0, nameIndex := 141, descriptorIndex := 142, attributes := #[] }] 16432 38 #[] #[{ accessFlags := 16409, nameIndex := 5, descriptorIndex := 6, attributes := #[] }, { accessFlags := 16409, nameIndex := 9, descriptorIndex := 6, attributes := #[] }, { accessFlags := 16409, nameIndex := 12, descriptorIndex := 6, attributes := #[] }, { accessFlags := 16409, nameIndex := 15, descriptorIndex := 6, attributes := #[] }, { accessFlags := 16409, nameIndex := 18, descriptorIndex := 6, attributes := #[] }, { accessFlags := 16409, nameIndex := 21, descriptorIndex := 6, attributes := #[] }, { accessFlags := 16409, nameIndex := 24, descriptorIndex := 6, attributes := #[] }, { accessFlags := 16409, nameIndex := 27, descriptorIndex := 6, attributes := #[] }, { accessFlags := 18, nameIndex := 49, descriptorIndex := 50, attributes := #[] }, { accessFlags := 4122, nameIndex := 30, descriptorIndex := 31, attributes := #[] }])
  fields := #[{ name := "CONFIG", type := (.object "com/example/method_to_route/methodtoroute/cli/Option"), accessFlags := 16409, slot := 0, constantValue := 0 }, { name := "DESCRIPTORS", type := (.object "com/example/method_to_route/methodtoroute/cli/Option"), accessFlags := 16409, slot := 1, constantValue := 0 }, { name := "BODY", type := (.object "com/example/method_to_route/methodtoroute/cli/Option"), accessFlags := 16409, slot := 2, constantValue := 0 }, { name := "CONTENT_TYPE", type := (.object "com/example/method_to_route/methodtoroute/cli/Option"), accessFlags := 16409, slot := 3, constantValue := 0 }, { name := "REQUESTS", type := (.object "com/example/method_to_route/methodtoroute/cli/Option"), accessFlags := 16409, slot := 4, constantValue := 0 }, { name := "BACKEND", type := (.object "com/example/method_to_route/methodtoroute/cli/Option"), accessFlags := 16409, slot := 5, constantValue := 0 }, { name := "LISTEN", type := (.object "com/example/method_to_route/methodtoroute/cli/Option"), accessFlags := 16409, slot := 6, constantValue := 0 }, { name := "TIMEOUT", type := (.object "com/example/method_to_route/methodtoroute/cli/Option"), accessFlags := 16409, slot := 7, constantValue := 0 }, { name := "file", type := (.object "java/util/function/Function"), accessFlags := 18, slot := 3, constantValue := 0 }, { name := "$VALUES", type := (.array (.object "com/example/method_to_route/methodtoroute/cli/Option")), accessFlags := 4122, slot := 8, constantValue := 0 }]
  methods := #[k6m0]
  instanceTypes := #[(.object "java/lang/String"), .int, .int, (.object "java/util/function/Function")]
  staticTypes := #[(.object "com/example/method_to_route/methodtoroute/cli/Option"), (.object "com/example/method_to_route/methodtoroute/cli/Option"), (.object "com/example/method_to_route/methodtoroute/cli/Option"), (.object "com/example/method_to_route/methodtoroute/cli/Option"), (.object "com/example/method_to_route/methodtoroute/cli/Option"), (.object "com/example/method_to_route/methodtoroute/cli/Option"), (.object "com/example/method_to_route/methodtoroute/cli/Option"), (.object "com/example/method_to_route/methodtoroute/cli/Option"), (.array (.object "com/example/method_to_route/methodtoroute/cli/Option"))]
  resolved := Array.replicate 205 none
  statics := some 0 }

def pool7 : Array CpInfo := pool [(1, u "java/lang/Cloneable"), (0, .class_ 1), (0, u "java/lang/Object"), (0, .class_ 3)] 3

/-- java/lang/Cloneable -/
def k7 : Class := { plain "java/lang/Cloneable" (some 0) with
  accessFlags := 1537
  interfaces := #[]
  cf := some (fileOf pool7 2 #[] #[] 1537 4 #[] #[])
  fields := #[]
  methods := #[]
  instanceTypes := #[]
  staticTypes := #[]
  resolved := Array.replicate 8 none
  statics := none }

/-- the primitive byte -/
def k8 : Class := { plain "byte" none with kind := .primitive 'B', accessFlags := 0x411 }
/-- [B -/
def k9 : Class := { plain "[B" (some 0) with kind := .array 8 .byte, interfaces := #[7, 4], accessFlags := 1041 }

/-- the primitive int -/
def k10 : Class := { plain "int" none with kind := .primitive 'I', accessFlags := 0x411 }
/-- [I -/
def k11 : Class := { plain "[I" (some 0) with kind := .array 10 .int, interfaces := #[7, 4], accessFlags := 1041 }

def heap : Heap := #[{ cls := 6, slots := #[.ref 1, .ref 2, .ref 3, .ref 4, .ref 5, .ref 6, .ref 7, .ref 8, .null], vm := .statics 6 },
  { cls := 6, slots := #[.null, .int 0, .int 0, .null], vm := .none },
  { cls := 6, slots := #[.null, .int 1, .int 0, .null], vm := .none },
  { cls := 6, slots := #[.null, .int 2, .int 0, .null], vm := .none },
  { cls := 6, slots := #[.null, .int 3, .int 0, .null], vm := .none },
  { cls := 6, slots := #[.null, .int 4, .int 0, .null], vm := .none },
  { cls := 6, slots := #[.null, .int 5, .int 0, .null], vm := .none },
  { cls := 6, slots := #[.null, .int 6, .int 0, .null], vm := .none },
  { cls := 6, slots := #[.null, .int 7, .int 0, .null], vm := .none }]
def classes : Array Class := #[k0, k1, k2, k3, k4, k5, k6, k7, k8, k9, k10, k11]
def interned : List (Array UInt16 × Addr) := []
def slotsUsed : Nat := 41
def theMethod : MethodId := ⟨1, 3⟩
def args0 : Array Value := #[.int 5]
def aboutOver (below : List Frame) : State where
  vm := { classes := classes, interned := interned.toArray }
  heap := heap
  slotsUsed := slotsUsed
  threads := #[{ frames := .invoking theMethod args0 :: below }]
def below0 : List Frame := [.native { method := ⟨0, 0⟩, args := #[] }]
def about1 : State := aboutOver below0
def p0 : Program := .bare "" "" ""
def e0 : Env := launch0.env 0 0 0
theorem w_frames : about1.frames = Frame.invoking theMethod args0 :: below0 := rfl
set_option maxRecDepth 65536 in
theorem w_args : argsFit about1.vm theMethod args0 = true := by decide +kernel
set_option maxRecDepth 65536 in
theorem w_heap : heapFits about1 = true := by decide +kernel
set_option maxRecDepth 65536 in
theorem w_runnable : about1.curStatus? = some .runnable := by decide +kernel
set_option maxRecDepth 65536 in
theorem w_alone : about1.alone = true := by decide +kernel
set_option maxRecDepth 65536 in
theorem w_named : about1.methodNamed? x = some theMethod := by decide +kernel
set_option maxRecDepth 65536 in
theorem w_hears : about1.hears theMethod below0 = true := by decide +kernel
set_option maxRecDepth 65536 in
theorem w_ripe : about1.ripe theMethod args0 below0 = true := by decide +kernel
theorem w_running : about1.status = .running := rfl
set_option maxRecDepth 65536 in
theorem w_room : about1.hasRoom e0.platform room_1 = true :=
  launch0.hasRoom_least _ room_1 (by decide +kernel) (by decide +kernel) (by decide +kernel) (by decide +kernel) (by decide +kernel) (by decide +kernel)
theorem allAtoms_all (ts : List Jvm.Cond) (a : Array Jvm.Value) (st : Jvm.State) : (allAtoms ts).before a st = ts.all (fun c => c.before a st) := by
  induction ts with
  | nil => rfl
  | cons c t ih =>
    show (Jvm.Cond.and c (allAtoms t)).before a st = _
    rw [Jvm.Cond.before_and, ih, List.all_cons]
def words1 : List Jvm.Cond := Jvm.Cond.code x code maxLocals ret :: tables_1
/-- a 'code' word, met by the world's own term for the bytes: nothing is compared byte by byte -/
theorem code_word {y : MethodName} {bytes : ByteArray} {mx : Nat} {rt : Option FieldType} {a : Array Value} {s : State} {m : MethodId} {meth : Method} {c : Code} (h1 : s.methodNamed? y = some m) (h2 : s.vm.method? m = some meth) (h3 : meth.code = some c) (h4 : c.code = bytes)
    (h5 : (c.maxLocals == mx && c.exceptionTable.isEmpty && decide (c.maxStack ≤ mostOperands) && decide (meth.sig.returnType = rt) && !meth.locks && decide (parseMethodDescriptor y.desc = some meth.sig)) = true) : (Jvm.Cond.code y bytes mx rt).before a s = true := by
  simp only [Bool.and_eq_true, beq_iff_eq, Bool.not_eq_true', decide_eq_true_eq] at h5
  obtain ⟨⟨⟨⟨⟨g1, g2⟩, g3⟩, g4⟩, g5⟩, g6⟩ := h5
  simp [Cond.before, Cond.holds, Cond.value, h1, h2, h3, h4, g1, g2, g3, g4, g5, g6]
def isCode : Jvm.Cond → Bool
  | .code _ _ _ _ => true
  | _ => false
theorem all_split {L : List Jvm.Cond} {P : Jvm.Cond → Bool} (h1 : L.all (fun c => isCode c || P c) = true) (h2 : ∀ c ∈ L.filter isCode, P c = true) : L.all P = true := by
  refine List.all_eq_true.mpr fun c hc => ?_
  have h := List.all_eq_true.mp h1 c hc
  rcases Bool.eq_false_or_eq_true (isCode c) with hi | hi
  · exact h2 c (List.mem_filter.mpr ⟨hc, hi⟩)
  · simpa [hi] using h
set_option maxRecDepth 65536 in
theorem w_c0 : (Jvm.Cond.code x code maxLocals ret).before args0 about1 = true := code_word (m := ⟨1, 3⟩) (meth := k1m3) (c := k1c3) (by decide +kernel) rfl rfl rfl (by decide +kernel)
set_option maxRecDepth 65536 in
theorem w_c1 : (Jvm.Cond.code ({ cls := "com/example/method_to_route/methodtoroute/cli/OptionRepeatsPinLaw", name := "pick", desc := "(I)Lcom/example/method_to_route/methodtoroute/cli/Option;" } : Jvm.MethodName) method_2_code (1 : Nat) (Option.some (Jvm.ClassFile.FieldType.object "com/example/method_to_route/methodtoroute/cli/Option"))).before args0 about1 = true := code_word (m := ⟨1, 1⟩) (meth := k1m1) (c := k1c1) (by decide +kernel) rfl rfl rfl (by decide +kernel)
set_option maxRecDepth 65536 in
theorem w_c2 : (Jvm.Cond.code ({ cls := "com/example/method_to_route/methodtoroute/cli/Option", name := "repeats", desc := "()Z" } : Jvm.MethodName) prog_28_method_5_code (1 : Nat) (Option.some Jvm.ClassFile.FieldType.boolean)).before args0 about1 = true := code_word (m := ⟨6, 0⟩) (meth := k6m0) (c := k6c0) (by decide +kernel) rfl rfl rfl (by decide +kernel)
set_option maxRecDepth 65536 in
theorem w_c3 : (Jvm.Cond.code ({ cls := "com/example/method_to_route/methodtoroute/cli/OptionRepeatsPinLaw", name := "expected", desc := "(I)Z" } : Jvm.MethodName) method_3_code (1 : Nat) (Option.some Jvm.ClassFile.FieldType.boolean)).before args0 about1 = true := code_word (m := ⟨1, 2⟩) (meth := k1m2) (c := k1c2) (by decide +kernel) rfl rfl rfl (by decide +kernel)
def codes1 : List Jvm.Cond := [Jvm.Cond.code x code maxLocals ret, Jvm.Cond.code ({ cls := "com/example/method_to_route/methodtoroute/cli/OptionRepeatsPinLaw", name := "pick", desc := "(I)Lcom/example/method_to_route/methodtoroute/cli/Option;" } : Jvm.MethodName) method_2_code (1 : Nat) (Option.some (Jvm.ClassFile.FieldType.object "com/example/method_to_route/methodtoroute/cli/Option")), Jvm.Cond.code ({ cls := "com/example/method_to_route/methodtoroute/cli/Option", name := "repeats", desc := "()Z" } : Jvm.MethodName) prog_28_method_5_code (1 : Nat) (Option.some Jvm.ClassFile.FieldType.boolean), Jvm.Cond.code ({ cls := "com/example/method_to_route/methodtoroute/cli/OptionRepeatsPinLaw", name := "expected", desc := "(I)Z" } : Jvm.MethodName) method_3_code (1 : Nat) (Option.some Jvm.ClassFile.FieldType.boolean)]
set_option maxRecDepth 65536 in
theorem codes_eq : words1.filter isCode = codes1 := rfl
theorem w_codes : ∀ c ∈ words1.filter isCode, c.before args0 about1 = true := by
  rw [codes_eq]
  intro c hc
  simp only [codes1, List.mem_cons, List.not_mem_nil, or_false] at hc
  rcases hc with rfl | rfl | rfl | rfl
  · exact w_c0
  · exact w_c1
  · exact w_c2
  · exact w_c3
set_option maxRecDepth 65536 in
theorem w_t1 : (words1.take 24).all (fun c => isCode c || c.before args0 about1) = true := by decide +kernel
set_option maxRecDepth 65536 in
theorem w_t2 : (words1.drop 24).all (fun c => isCode c || c.before args0 about1) = true := by decide +kernel
theorem w_tables : (allAtoms (Jvm.Cond.code x code maxLocals ret :: tables_1)).before args0 about1 = true := by
  rw [allAtoms_all]
  show words1.all (fun c => c.before args0 about1) = true
  refine all_split ?_ w_codes
  rw [← List.take_append_drop 24 words1, List.all_append, w_t1, w_t2]
  rfl
set_option maxRecDepth 65536 in
theorem w_case : (Jvm.Cond.and given_1 narrow_1).before args0 about1 = true := by decide +kernel
theorem w_applies : (headSpec (Jvm.Cond.code x code maxLocals ret :: tables_1) room_1).applies x e0.platform about1 = true :=
  (Spec.applies_iff w_frames).mpr ⟨w_running, w_runnable, w_alone, w_named, w_hears, w_ripe, w_room, w_tables⟩
theorem atStart : AtStart classFile x code maxLocals ret World_1 tables_1 room_1 Calls_1 rest_1 Pre_1 launch0 p0 e0 about1 theMethod args0 below0 :=
  ⟨lists_1, trivial, launch0.admits_env _ _ _, launch0.least_env, fairChoices_fair.cas, fairChoices_fair.clock, w_frames, w_args, w_heap, w_applies, trivial, trivial, w_case⟩
end start1
theorem witness_1 : WitnessClaimed_1 := ⟨start1.p0, start1.e0, start1.about1, start1.theMethod, start1.args0, start1.below0, start1.atStart⟩
end Jvm.Pilot.@@N@@
