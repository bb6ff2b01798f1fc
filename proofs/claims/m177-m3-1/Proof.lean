import JvmDerived
import JvmDerived.Pilot.@@N@@Statement
import JvmDerived.Pilot.@@N@@Code
set_option linter.unusedVariables false
set_option linter.unusedSimpArgs false
@@BLOCK:NumsL.lean.txt@@
namespace Jvm.RoadKit
open Sem ClassFile Op Lib Jvm.Stand Jvm.Free Jvm.LawKit
section Own
variable {p : Program} {l : Launch} {e : Env} {R : Room} {s : State} {m : MethodId} {args : Array Value} {below : List Frame} {meth : Method} {c : Code} {T : State} {locs : List Loc} {cells slots : Nat}
/-- from U the run ends, and P is said of the end -/
def Go (p : Program) (e : Env) (below : List Frame) (U : State) (P : Outcome → State → Prop) : Prop := ∃ s₂ o, Steps p.tables e below U s₂ ∧ s₂.status = .running ∧ Ended s₂ below o ∧ P o s₂
theorem Go.st {U U' : State} {P : Outcome → State → Prop} (k : ∀ t, Steps p.tables e below U' t → Steps p.tables e below U t) (g : Go p e below U' P) : Go p e below U P := by
  obtain ⟨t, o, a, r⟩ := g
  exact ⟨t, o, k t a, r⟩
theorem Go.tr {U U' : State} {P : Outcome → State → Prop} (k : Steps p.tables e below U U') (g : Go p e below U' P) : Go p e below U P := by
  obtain ⟨t, o, a, r⟩ := g
  exact ⟨t, o, k.trans a, r⟩
theorem Go.fin (X : Stand p l e R s m args below meth c T locs cells slots) {v : Option Value} (hv : meth.sig.returnType = none → v = none) (hlocks : meth.locks = false) {U : State} {P : Outcome → State → Prop}
    (st : ∀ fs, (∀ (f : JFrame) (acts : List Action), f.method = m → f.locked = none → f.entered = [] → (doReturn e (T.setTop f) acts v).1 = T.setFrames fs) → Steps p.tables e below U (T.setFrames fs))
    (hP : ∀ U' : State, U'.heap = T.heap → FrameEnd s (.returned v) U' locs cells slots → P (.returned v) U') : Go p e below U P := by
  obtain ⟨fs, hr, hrun, hended, hW, hsame⟩ := X.leave hv hlocks
  exact ⟨_, _, st fs hr, hrun, hended, hP _ rfl ⟨⟨_, rfl⟩, hW, hsame⟩⟩
theorem own_ord {a0 : Array Value} {t : Term} {a : Addr} {C n d : String} {k : Int32} (ev : t.eval a0 s none [] s = some (.ref a)) (h : (Cond.eq (.field t C n d) (.int k)).value a0 s none s [] = some true) : s.fieldOf? a C n d = some (.int k) := by
  have e1 := fld_at (C := C) (n := n) (dd := d) ev
  have e2 : (Term.int k).eval a0 s none [] s = some (.int k) := rfl
  cases hf : s.fieldOf? a C n d with
  | none => rw [hf] at e1; simp [Cond.value, e1] at h
  | some w =>
    rw [hf] at e1
    cases w <;> simp [Cond.value, e1, e2] at h
    rw [h]
theorem own_ne {a b : Addr} {C n d : String} {j k : Int32} (h1 : s.fieldOf? a C n d = some (.int j)) (h2 : s.fieldOf? b C n d = some (.int k)) (hne : j ≠ k) : a ≠ b := fun q => by
  subst q
  rw [h1] at h2
  exact hne (by injection (Option.some.inj h2))
theorem own_lsw {g : JFrame} {target : State} (X : Stand p l e R s m args below meth c T locs cells slots) (hx : p.tables.exec = Jvm.exec) (hg : g.method = m) {dflt : Int} {pairs : Array (Int × Int)} {len : Nat} {pc0 pc' : Nat} (hpc : g.pc = pc0)
    (hd : decode c.code g.pc = .ok (.lookupswitch dflt pairs, len)) {i : Int32} {rest : List Value} (hs : g.stack = .int i :: rest) {o : Int} (ho : lookupswitch.offset pairs.toList dflt i.toInt = o) (hso : ∀ (a b a_1 b_1 : Int), ((a, b), a_1, b_1) ∈ pairs.toList.zip pairs.toList.tail → a < a_1) (h0 : 0 ≤ (pc0 : Int) + o) (hp : ((pc0 : Int) + o).toNat = pc')
    (hr : Steps p.tables e below (T.setTop { g with pc := pc', stack := rest }) target) : Steps p.tables e below (T.setTop g) target := by
  subst hg hpc hp ho
  jvm_step X.here [X.here.top, hx, hd, hs, h0, lookupswitch.wp_chain]
  exact ⟨hso, hr⟩
theorem own_arvlt {Z : State} {h : Heap} {a : Addr} {k : ClassId} {ty : FieldType} {n : Int32} {vs : List Value} {d : Value} (V : Arv Z h a k ty n vs d) : a < h.size := by
  obtain ⟨c, A, -⟩ := V
  exact A.lt
end Own
end Jvm.RoadKit
namespace Jvm.Pilot.@@N@@
open Jvm Jvm.ClassFile Sem Op Lib Jvm.Free Jvm.Stand Jvm.LawKit Jvm.RoadKit Bundle Jvm.Pilot.@@N@@.Jvm.D
def own_x (c : Int32) : Int32 := if ¬ (c < 32) ∧ ¬ (55295 < c) then 1 else if c = 9 then 1 else if c = 10 then 1 else if c = 13 then 1 else if ¬ (c < 57344) ∧ ¬ (65533 < c) then 1 else if ¬ (c < 65536) ∧ ¬ (1114111 < c) then 1 else 0
def own_r (c : Int32) : Int32 := if c < 32 then (if c = 9 then 1 else if c = 10 then 1 else if c = 13 then 1 else 0) else if c < 65536 then (if (c < 55296 ∨ 57343 < c) ∧ c < 65534 then 1 else 0) else if 1114111 < c then 0 else 1
theorem own_lt (c k : Int32) (z : Int) (h : k.toInt = z) : (c < k ↔ c.toInt < z) ∧ (k < c ↔ z < c.toInt) ∧ (c = k ↔ c.toInt = z) := by
  refine ⟨?_, ?_, ?_⟩
  · rw [Int32.lt_iff_toInt_lt, h]
  · rw [Int32.lt_iff_toInt_lt, h]
  · rw [← Int32.toInt_inj, h]
theorem own_eq (c : Int32) : own_x c = own_r c := by
  simp only [own_x, own_r, (own_lt c 32 32 (by decide)).1, (own_lt c 57344 57344 (by decide)).1, (own_lt c 65536 65536 (by decide)).1, (own_lt c 55296 55296 (by decide)).1, (own_lt c 65534 65534 (by decide)).1, (own_lt c 55295 55295 (by decide)).2.1, (own_lt c 65533 65533 (by decide)).2.1, (own_lt c 1114111 1114111 (by decide)).2.1, (own_lt c 57343 57343 (by decide)).2.1, (own_lt c 9 9 (by decide)).2.2, (own_lt c 10 10 (by decide)).2.2, (own_lt c 13 13 (by decide)).2.2]
  generalize c.toInt = z
  repeat' split
  all_goals first | rfl | (exfalso; omega)
theorem own_in {sel : Int32} {cl : Cell} (S : cl.slots.size = (16 : Int32).toNatClampNeg) : ¬ ((sel &&& (15 : Int32)) < 0 ∨ cl.slots.size ≤ ((sel &&& (15 : Int32))).toNatClampNeg) := by
  have h := Jvm.Kit.i32_mask sel 15 (k := 4) (by decide) (by decide)
  have z0 : (0 : Int32).toInt = 0 := by decide
  have z16 : (16 : Int32).toInt = 16 := by decide
  exact inb_of S ⟨by rw [Int32.lt_iff_toInt_lt]; omega, by rw [Int32.lt_iff_toInt_lt]; omega⟩
theorem d1_0 : decode prog_214_method_2_code 0 = .ok (.iload_n 0, 1) := by decide +kernel
theorem d1_1 : decode prog_214_method_2_code 1 = .ok (.bipush 32, 2) := by decide +kernel
theorem d1_3 : decode prog_214_method_2_code 3 = .ok (.if_icmp .lt 9, 3) := by decide +kernel
theorem d1_6 : decode prog_214_method_2_code 6 = .ok (.iload_n 0, 1) := by decide +kernel
theorem d1_7 : decode prog_214_method_2_code 7 = .ok (.ldc 65, 2) := by decide +kernel
theorem d1_9 : decode prog_214_method_2_code 9 = .ok (.if_icmp .le 45, 3) := by decide +kernel
theorem d1_12 : decode prog_214_method_2_code 12 = .ok (.iload_n 0, 1) := by decide +kernel
theorem d1_13 : decode prog_214_method_2_code 13 = .ok (.bipush 9, 2) := by decide +kernel
theorem d1_15 : decode prog_214_method_2_code 15 = .ok (.if_icmp .eq 39, 3) := by decide +kernel
theorem d1_18 : decode prog_214_method_2_code 18 = .ok (.iload_n 0, 1) := by decide +kernel
theorem d1_19 : decode prog_214_method_2_code 19 = .ok (.bipush 10, 2) := by decide +kernel
theorem d1_21 : decode prog_214_method_2_code 21 = .ok (.if_icmp .eq 33, 3) := by decide +kernel
theorem d1_24 : decode prog_214_method_2_code 24 = .ok (.iload_n 0, 1) := by decide +kernel
theorem d1_25 : decode prog_214_method_2_code 25 = .ok (.bipush 13, 2) := by decide +kernel
theorem d1_27 : decode prog_214_method_2_code 27 = .ok (.if_icmp .eq 27, 3) := by decide +kernel
theorem d1_30 : decode prog_214_method_2_code 30 = .ok (.iload_n 0, 1) := by decide +kernel
theorem d1_31 : decode prog_214_method_2_code 31 = .ok (.ldc 66, 2) := by decide +kernel
theorem d1_33 : decode prog_214_method_2_code 33 = .ok (.if_icmp .lt 9, 3) := by decide +kernel
theorem d1_36 : decode prog_214_method_2_code 36 = .ok (.iload_n 0, 1) := by decide +kernel
theorem d1_37 : decode prog_214_method_2_code 37 = .ok (.ldc 67, 2) := by decide +kernel
theorem d1_39 : decode prog_214_method_2_code 39 = .ok (.if_icmp .le 15, 3) := by decide +kernel
theorem d1_42 : decode prog_214_method_2_code 42 = .ok (.iload_n 0, 1) := by decide +kernel
theorem d1_43 : decode prog_214_method_2_code 43 = .ok (.ldc 68, 2) := by decide +kernel
theorem d1_45 : decode prog_214_method_2_code 45 = .ok (.if_icmp .lt 13, 3) := by decide +kernel
theorem d1_48 : decode prog_214_method_2_code 48 = .ok (.iload_n 0, 1) := by decide +kernel
theorem d1_49 : decode prog_214_method_2_code 49 = .ok (.ldc 69, 2) := by decide +kernel
theorem d1_51 : decode prog_214_method_2_code 51 = .ok (.if_icmp .gt 7, 3) := by decide +kernel
theorem d1_54 : decode prog_214_method_2_code 54 = .ok (.iconst 1, 1) := by decide +kernel
theorem d1_55 : decode prog_214_method_2_code 55 = .ok (.goto 4, 3) := by decide +kernel
theorem d1_58 : decode prog_214_method_2_code 58 = .ok (.iconst 0, 1) := by decide +kernel
theorem d1_59 : decode prog_214_method_2_code 59 = .ok (.ireturn, 1) := by decide +kernel
theorem pn_31 : plainName "com/example/tracewarden/tracewarden/xes/XmlScanner" = true := by first | (simp [plainName, overriddenIn]; done) | decide +kernel
theorem ef_rm1 (m : MethodId) (p1 : Int32) : entryFrame m #[(.int p1)] 1 = mkF m 0 #[.val (.int p1)] [] := by first | (simp [entryFrame, mkF, argsToLocals, Value.category]; done) | rfl
def Q_rm1 (Z : State) (p1 : Int32) (h0 : Heap) (n0 : Nat) (v : Option Value) (h : Heap) (L : List Loc) : Prop := v = some (.int (own_x p1)) ∧ Fr n0 L ∧ h = h0
set_option maxRecDepth 65536 in
set_option maxHeartbeats 40000000 in
theorem rm1 (l : Launch) (Z : State) (a0 : Array Value) (hw : ∀ d ∈ tables_1, d.before a0 Z = true) (ws : List Jvm.Cond) (p1 : Int32) (h0 : Heap) (n0 : Nat) (Z0 : n0 ≤ h0.size) :
    MetFree l (⟨"com/example/tracewarden/tracewarden/xes/XmlScanner", "isXmlChar", "(I)Z"⟩ : MethodName) (head1 (Jvm.Cond.code (⟨"com/example/tracewarden/tracewarden/xes/XmlScanner", "isXmlChar", "(I)Z"⟩ : MethodName) prog_214_method_2_code 1 (some .boolean) :: ws) ({ frames := 0, cells := 0, slots := 0, locals := 0 } : Room)) (fun a U => a = #[(.int p1)] ∧ Z.Warmed39 U.vm ∧ U.heap = h0) (fun _ _ _ _ _ => True) (fun _ U o U' => ∃ v L, o = .returned v ∧ Q_rm1 Z p1 h0 n0 v U'.heap L ∧ FrameEnd U o U' L ({ frames := 0, cells := 0, slots := 0, locals := 0 } : Room).cells ({ frames := 0, cells := 0, slots := 0, locals := 0 } : Room).slots) := by
  refine MetFree.of_bodySF (plainFor_of_name pn_31) hisR ?_
  intro p e s m args below meth c s₁ Bd hml0 hP hK
  obtain ⟨rfl, hZ, hh⟩ := hP
  have hx := Bd.exec
  have hby := Bd.bytes
  have hml : c.maxLocals = 1 := hml0
  have hown : s.vm.findClass "com/example/tracewarden/tracewarden/xes/XmlScanner" = some m.cls := findClass_of_methodNamed Bd.named
  have hnm := (name_of_methodNamed Bd.named Bd.method).1
  have X0 : Stand p l e ({ frames := 0, cells := 0, slots := 0, locals := 0 } : Room) s m #[(.int p1)] below meth c s₁ [] 0 0 := Stand.of_body Bd
  have e0 : s₁.heap = h0 := by rw [← hh, Bd.state]; rfl
  have N0 := Fr.nil n0
  show Go p e below (s₁.setTop (entryFrame m #[(.int p1)] 1)) (fun o U' => ∃ v L, o = .returned v ∧ Q_rm1 Z p1 h0 n0 v U'.heap L ∧ FrameEnd s o U' L ({ frames := 0, cells := 0, slots := 0, locals := 0 } : Room).cells ({ frames := 0, cells := 0, slots := 0, locals := 0 } : Room).slots)
  rw [ef_rm1]
  show Go p e below (s₁.setTop (mkF m 0 #[.val (.int p1)] [])) _
  refine Go.st (fun _ k_ => XS.iloadN X0.here hx rfl (hb hby d1_0) rfl k_) ?_
  show Go p e below (s₁.setTop (mkF m 1 #[.val (.int p1)] [(.int p1)])) _
  refine Go.st (fun _ k_ => XS.bipush X0.here hx rfl (hb hby d1_1) k_) ?_
  show Go p e below (s₁.setTop (mkF m 3 #[.val (.int p1)] [(.int (32 : Int32)), (.int p1)])) _
  by_cases hc3 : p1 < (32 : Int32)
  · refine Go.st (fun _ k_ => XS.icmpYes X0.here hx rfl (pc0 := 3) (pc' := 12) rfl (hb hby d1_3) rfl (tlt hc3).1 (by decide) (by decide) k_) ?_
    show Go p e below (s₁.setTop (mkF m 12 #[.val (.int p1)] [])) _
    refine Go.st (fun _ k_ => XS.iloadN X0.here hx rfl (hb hby d1_12) rfl k_) ?_
    show Go p e below (s₁.setTop (mkF m 13 #[.val (.int p1)] [(.int p1)])) _
    refine Go.st (fun _ k_ => XS.bipush X0.here hx rfl (hb hby d1_13) k_) ?_
    show Go p e below (s₁.setTop (mkF m 15 #[.val (.int p1)] [(.int (9 : Int32)), (.int p1)])) _
    by_cases hc15 : p1 = (9 : Int32)
    · refine Go.st (fun _ k_ => XS.icmpYes X0.here hx rfl (pc0 := 15) (pc' := 54) rfl (hb hby d1_15) rfl (teq hc15).1 (by decide) (by decide) k_) ?_
      show Go p e below (s₁.setTop (mkF m 54 #[.val (.int p1)] [])) _
      refine Go.st (fun _ k_ => XS.iconst X0.here hx rfl (hb hby d1_54) k_) ?_
      show Go p e below (s₁.setTop (mkF m 55 #[.val (.int p1)] [(.int (1 : Int32))])) _
      refine Go.st (fun _ k_ => XS.goto X0.here hx rfl (pc0 := 55) (pc' := 59) rfl (hb hby d1_55) (by decide) (by decide) k_) ?_
      show Go p e below (s₁.setTop (mkF m 59 #[.val (.int p1)] [(.int (1 : Int32))])) _
      refine Go.fin X0 (v := some (.int (1 : Int32))) (fun h_ => by rw [Bd.returns] at h_; cases h_) Bd.notSynchronized (fun _ hr => retN X0 hx (t := .boolean) Bd.returns (by simp) (hb hby d1_59) hr) (fun U' hU hF => ⟨_, _, rfl, ?_, hF.1, hF.2.1, hF.2.2.mono (by decide) (by decide)⟩)
      rw [hU, e0]
      exact ⟨(congrArg (fun z_ : Int32 => some (Value.int z_)) (show (1 : Int32) = (own_x p1) from by simp [own_x, hc3, hc15])), N0, rfl⟩
    · refine Go.st (fun _ k_ => XS.icmpNo X0.here hx rfl (hb hby d1_15) rfl (feq hc15).1 k_) ?_
      show Go p e below (s₁.setTop (mkF m 18 #[.val (.int p1)] [])) _
      refine Go.st (fun _ k_ => XS.iloadN X0.here hx rfl (hb hby d1_18) rfl k_) ?_
      show Go p e below (s₁.setTop (mkF m 19 #[.val (.int p1)] [(.int p1)])) _
      refine Go.st (fun _ k_ => XS.bipush X0.here hx rfl (hb hby d1_19) k_) ?_
      show Go p e below (s₁.setTop (mkF m 21 #[.val (.int p1)] [(.int (10 : Int32)), (.int p1)])) _
      by_cases hc21 : p1 = (10 : Int32)
      · refine Go.st (fun _ k_ => XS.icmpYes X0.here hx rfl (pc0 := 21) (pc' := 54) rfl (hb hby d1_21) rfl (teq hc21).1 (by decide) (by decide) k_) ?_
        show Go p e below (s₁.setTop (mkF m 54 #[.val (.int p1)] [])) _
        refine Go.st (fun _ k_ => XS.iconst X0.here hx rfl (hb hby d1_54) k_) ?_
        show Go p e below (s₁.setTop (mkF m 55 #[.val (.int p1)] [(.int (1 : Int32))])) _
        refine Go.st (fun _ k_ => XS.goto X0.here hx rfl (pc0 := 55) (pc' := 59) rfl (hb hby d1_55) (by decide) (by decide) k_) ?_
        show Go p e below (s₁.setTop (mkF m 59 #[.val (.int p1)] [(.int (1 : Int32))])) _
        refine Go.fin X0 (v := some (.int (1 : Int32))) (fun h_ => by rw [Bd.returns] at h_; cases h_) Bd.notSynchronized (fun _ hr => retN X0 hx (t := .boolean) Bd.returns (by simp) (hb hby d1_59) hr) (fun U' hU hF => ⟨_, _, rfl, ?_, hF.1, hF.2.1, hF.2.2.mono (by decide) (by decide)⟩)
        rw [hU, e0]
        exact ⟨(congrArg (fun z_ : Int32 => some (Value.int z_)) (show (1 : Int32) = (own_x p1) from by simp [own_x, hc3, hc15, hc21])), N0, rfl⟩
      · refine Go.st (fun _ k_ => XS.icmpNo X0.here hx rfl (hb hby d1_21) rfl (feq hc21).1 k_) ?_
        show Go p e below (s₁.setTop (mkF m 24 #[.val (.int p1)] [])) _
        refine Go.st (fun _ k_ => XS.iloadN X0.here hx rfl (hb hby d1_24) rfl k_) ?_
        show Go p e below (s₁.setTop (mkF m 25 #[.val (.int p1)] [(.int p1)])) _
        refine Go.st (fun _ k_ => XS.bipush X0.here hx rfl (hb hby d1_25) k_) ?_
        show Go p e below (s₁.setTop (mkF m 27 #[.val (.int p1)] [(.int (13 : Int32)), (.int p1)])) _
        by_cases hc27 : p1 = (13 : Int32)
        · refine Go.st (fun _ k_ => XS.icmpYes X0.here hx rfl (pc0 := 27) (pc' := 54) rfl (hb hby d1_27) rfl (teq hc27).1 (by decide) (by decide) k_) ?_
          show Go p e below (s₁.setTop (mkF m 54 #[.val (.int p1)] [])) _
          refine Go.st (fun _ k_ => XS.iconst X0.here hx rfl (hb hby d1_54) k_) ?_
          show Go p e below (s₁.setTop (mkF m 55 #[.val (.int p1)] [(.int (1 : Int32))])) _
          refine Go.st (fun _ k_ => XS.goto X0.here hx rfl (pc0 := 55) (pc' := 59) rfl (hb hby d1_55) (by decide) (by decide) k_) ?_
          show Go p e below (s₁.setTop (mkF m 59 #[.val (.int p1)] [(.int (1 : Int32))])) _
          refine Go.fin X0 (v := some (.int (1 : Int32))) (fun h_ => by rw [Bd.returns] at h_; cases h_) Bd.notSynchronized (fun _ hr => retN X0 hx (t := .boolean) Bd.returns (by simp) (hb hby d1_59) hr) (fun U' hU hF => ⟨_, _, rfl, ?_, hF.1, hF.2.1, hF.2.2.mono (by decide) (by decide)⟩)
          rw [hU, e0]
          exact ⟨(congrArg (fun z_ : Int32 => some (Value.int z_)) (show (1 : Int32) = (own_x p1) from by simp [own_x, hc3, hc15, hc21, hc27])), N0, rfl⟩
        · refine Go.st (fun _ k_ => XS.icmpNo X0.here hx rfl (hb hby d1_27) rfl (feq hc27).1 k_) ?_
          show Go p e below (s₁.setTop (mkF m 30 #[.val (.int p1)] [])) _
          refine Go.st (fun _ k_ => XS.iloadN X0.here hx rfl (hb hby d1_30) rfl k_) ?_
          show Go p e below (s₁.setTop (mkF m 31 #[.val (.int p1)] [(.int p1)])) _
          refine Go.st (X0.ldcInt hx hown (mvT hZ (hw _ (List.mem_of_getElem? (i := 14) rfl))) (g := (mkF m 31 #[.val (.int p1)] [(.int p1)])) rfl (hb hby d1_31)) ?_
          show Go p e below (s₁.setTop (mkF m 33 #[.val (.int p1)] [(.int (57344 : Int32)), (.int p1)])) _
          by_cases hc33 : p1 < (57344 : Int32)
          · refine Go.st (fun _ k_ => XS.icmpYes X0.here hx rfl (pc0 := 33) (pc' := 42) rfl (hb hby d1_33) rfl (tlt hc33).1 (by decide) (by decide) k_) ?_
            show Go p e below (s₁.setTop (mkF m 42 #[.val (.int p1)] [])) _
            refine Go.st (fun _ k_ => XS.iloadN X0.here hx rfl (hb hby d1_42) rfl k_) ?_
            show Go p e below (s₁.setTop (mkF m 43 #[.val (.int p1)] [(.int p1)])) _
            refine Go.st (X0.ldcInt hx hown (mvT hZ (hw _ (List.mem_of_getElem? (i := 15) rfl))) (g := (mkF m 43 #[.val (.int p1)] [(.int p1)])) rfl (hb hby d1_43)) ?_
            show Go p e below (s₁.setTop (mkF m 45 #[.val (.int p1)] [(.int (65536 : Int32)), (.int p1)])) _
            by_cases hc45 : p1 < (65536 : Int32)
            · refine Go.st (fun _ k_ => XS.icmpYes X0.here hx rfl (pc0 := 45) (pc' := 58) rfl (hb hby d1_45) rfl (tlt hc45).1 (by decide) (by decide) k_) ?_
              show Go p e below (s₁.setTop (mkF m 58 #[.val (.int p1)] [])) _
              refine Go.st (fun _ k_ => XS.iconst X0.here hx rfl (hb hby d1_58) k_) ?_
              show Go p e below (s₁.setTop (mkF m 59 #[.val (.int p1)] [(.int (0 : Int32))])) _
              refine Go.fin X0 (v := some (.int (0 : Int32))) (fun h_ => by rw [Bd.returns] at h_; cases h_) Bd.notSynchronized (fun _ hr => retN X0 hx (t := .boolean) Bd.returns (by simp) (hb hby d1_59) hr) (fun U' hU hF => ⟨_, _, rfl, ?_, hF.1, hF.2.1, hF.2.2.mono (by decide) (by decide)⟩)
              rw [hU, e0]
              exact ⟨(congrArg (fun z_ : Int32 => some (Value.int z_)) (show (0 : Int32) = (own_x p1) from by simp [own_x, hc3, hc15, hc21, hc27, hc33, hc45])), N0, rfl⟩
            · refine Go.st (fun _ k_ => XS.icmpNo X0.here hx rfl (hb hby d1_45) rfl (flt hc45).1 k_) ?_
              show Go p e below (s₁.setTop (mkF m 48 #[.val (.int p1)] [])) _
              refine Go.st (fun _ k_ => XS.iloadN X0.here hx rfl (hb hby d1_48) rfl k_) ?_
              show Go p e below (s₁.setTop (mkF m 49 #[.val (.int p1)] [(.int p1)])) _
              refine Go.st (X0.ldcInt hx hown (mvT hZ (hw _ (List.mem_of_getElem? (i := 24) rfl))) (g := (mkF m 49 #[.val (.int p1)] [(.int p1)])) rfl (hb hby d1_49)) ?_
              show Go p e below (s₁.setTop (mkF m 51 #[.val (.int p1)] [(.int (1114111 : Int32)), (.int p1)])) _
              by_cases hc51 : (1114111 : Int32) < p1
              · refine Go.st (fun _ k_ => XS.icmpYes X0.here hx rfl (pc0 := 51) (pc' := 58) rfl (hb hby d1_51) rfl (tlt hc51).2.2.1 (by decide) (by decide) k_) ?_
                show Go p e below (s₁.setTop (mkF m 58 #[.val (.int p1)] [])) _
                refine Go.st (fun _ k_ => XS.iconst X0.here hx rfl (hb hby d1_58) k_) ?_
                show Go p e below (s₁.setTop (mkF m 59 #[.val (.int p1)] [(.int (0 : Int32))])) _
                refine Go.fin X0 (v := some (.int (0 : Int32))) (fun h_ => by rw [Bd.returns] at h_; cases h_) Bd.notSynchronized (fun _ hr => retN X0 hx (t := .boolean) Bd.returns (by simp) (hb hby d1_59) hr) (fun U' hU hF => ⟨_, _, rfl, ?_, hF.1, hF.2.1, hF.2.2.mono (by decide) (by decide)⟩)
                rw [hU, e0]
                exact ⟨(congrArg (fun z_ : Int32 => some (Value.int z_)) (show (0 : Int32) = (own_x p1) from by simp [own_x, hc3, hc15, hc21, hc27, hc33, hc45, hc51])), N0, rfl⟩
              · refine Go.st (fun _ k_ => XS.icmpNo X0.here hx rfl (hb hby d1_51) rfl (flt hc51).2.2.1 k_) ?_
                show Go p e below (s₁.setTop (mkF m 54 #[.val (.int p1)] [])) _
                refine Go.st (fun _ k_ => XS.iconst X0.here hx rfl (hb hby d1_54) k_) ?_
                show Go p e below (s₁.setTop (mkF m 55 #[.val (.int p1)] [(.int (1 : Int32))])) _
                refine Go.st (fun _ k_ => XS.goto X0.here hx rfl (pc0 := 55) (pc' := 59) rfl (hb hby d1_55) (by decide) (by decide) k_) ?_
                show Go p e below (s₁.setTop (mkF m 59 #[.val (.int p1)] [(.int (1 : Int32))])) _
                refine Go.fin X0 (v := some (.int (1 : Int32))) (fun h_ => by rw [Bd.returns] at h_; cases h_) Bd.notSynchronized (fun _ hr => retN X0 hx (t := .boolean) Bd.returns (by simp) (hb hby d1_59) hr) (fun U' hU hF => ⟨_, _, rfl, ?_, hF.1, hF.2.1, hF.2.2.mono (by decide) (by decide)⟩)
                rw [hU, e0]
                exact ⟨(congrArg (fun z_ : Int32 => some (Value.int z_)) (show (1 : Int32) = (own_x p1) from by simp [own_x, hc3, hc15, hc21, hc27, hc33, hc45, hc51])), N0, rfl⟩
          · refine Go.st (fun _ k_ => XS.icmpNo X0.here hx rfl (hb hby d1_33) rfl (flt hc33).1 k_) ?_
            show Go p e below (s₁.setTop (mkF m 36 #[.val (.int p1)] [])) _
            refine Go.st (fun _ k_ => XS.iloadN X0.here hx rfl (hb hby d1_36) rfl k_) ?_
            show Go p e below (s₁.setTop (mkF m 37 #[.val (.int p1)] [(.int p1)])) _
            refine Go.st (X0.ldcInt hx hown (mvT hZ (hw _ (List.mem_of_getElem? (i := 23) rfl))) (g := (mkF m 37 #[.val (.int p1)] [(.int p1)])) rfl (hb hby d1_37)) ?_
            show Go p e below (s₁.setTop (mkF m 39 #[.val (.int p1)] [(.int (65533 : Int32)), (.int p1)])) _
            by_cases hc39 : (65533 : Int32) < p1
            · refine Go.st (fun _ k_ => XS.icmpNo X0.here hx rfl (hb hby d1_39) rfl (tlt hc39).2.2.2 k_) ?_
              show Go p e below (s₁.setTop (mkF m 42 #[.val (.int p1)] [])) _
              refine Go.st (fun _ k_ => XS.iloadN X0.here hx rfl (hb hby d1_42) rfl k_) ?_
              show Go p e below (s₁.setTop (mkF m 43 #[.val (.int p1)] [(.int p1)])) _
              refine Go.st (X0.ldcInt hx hown (mvT hZ (hw _ (List.mem_of_getElem? (i := 15) rfl))) (g := (mkF m 43 #[.val (.int p1)] [(.int p1)])) rfl (hb hby d1_43)) ?_
              show Go p e below (s₁.setTop (mkF m 45 #[.val (.int p1)] [(.int (65536 : Int32)), (.int p1)])) _
              by_cases hc45 : p1 < (65536 : Int32)
              · refine Go.st (fun _ k_ => XS.icmpYes X0.here hx rfl (pc0 := 45) (pc' := 58) rfl (hb hby d1_45) rfl (tlt hc45).1 (by decide) (by decide) k_) ?_
                show Go p e below (s₁.setTop (mkF m 58 #[.val (.int p1)] [])) _
                refine Go.st (fun _ k_ => XS.iconst X0.here hx rfl (hb hby d1_58) k_) ?_
                show Go p e below (s₁.setTop (mkF m 59 #[.val (.int p1)] [(.int (0 : Int32))])) _
                refine Go.fin X0 (v := some (.int (0 : Int32))) (fun h_ => by rw [Bd.returns] at h_; cases h_) Bd.notSynchronized (fun _ hr => retN X0 hx (t := .boolean) Bd.returns (by simp) (hb hby d1_59) hr) (fun U' hU hF => ⟨_, _, rfl, ?_, hF.1, hF.2.1, hF.2.2.mono (by decide) (by decide)⟩)
                rw [hU, e0]
                exact ⟨(congrArg (fun z_ : Int32 => some (Value.int z_)) (show (0 : Int32) = (own_x p1) from by simp [own_x, hc3, hc15, hc21, hc27, hc33, hc39, hc45])), N0, rfl⟩
              · refine Go.st (fun _ k_ => XS.icmpNo X0.here hx rfl (hb hby d1_45) rfl (flt hc45).1 k_) ?_
                show Go p e below (s₁.setTop (mkF m 48 #[.val (.int p1)] [])) _
                refine Go.st (fun _ k_ => XS.iloadN X0.here hx rfl (hb hby d1_48) rfl k_) ?_
                show Go p e below (s₁.setTop (mkF m 49 #[.val (.int p1)] [(.int p1)])) _
                refine Go.st (X0.ldcInt hx hown (mvT hZ (hw _ (List.mem_of_getElem? (i := 24) rfl))) (g := (mkF m 49 #[.val (.int p1)] [(.int p1)])) rfl (hb hby d1_49)) ?_
                show Go p e below (s₁.setTop (mkF m 51 #[.val (.int p1)] [(.int (1114111 : Int32)), (.int p1)])) _
                by_cases hc51 : (1114111 : Int32) < p1
                · refine Go.st (fun _ k_ => XS.icmpYes X0.here hx rfl (pc0 := 51) (pc' := 58) rfl (hb hby d1_51) rfl (tlt hc51).2.2.1 (by decide) (by decide) k_) ?_
                  show Go p e below (s₁.setTop (mkF m 58 #[.val (.int p1)] [])) _
                  refine Go.st (fun _ k_ => XS.iconst X0.here hx rfl (hb hby d1_58) k_) ?_
                  show Go p e below (s₁.setTop (mkF m 59 #[.val (.int p1)] [(.int (0 : Int32))])) _
                  refine Go.fin X0 (v := some (.int (0 : Int32))) (fun h_ => by rw [Bd.returns] at h_; cases h_) Bd.notSynchronized (fun _ hr => retN X0 hx (t := .boolean) Bd.returns (by simp) (hb hby d1_59) hr) (fun U' hU hF => ⟨_, _, rfl, ?_, hF.1, hF.2.1, hF.2.2.mono (by decide) (by decide)⟩)
                  rw [hU, e0]
                  exact ⟨(congrArg (fun z_ : Int32 => some (Value.int z_)) (show (0 : Int32) = (own_x p1) from by simp [own_x, hc3, hc15, hc21, hc27, hc33, hc39, hc45, hc51])), N0, rfl⟩
                · refine Go.st (fun _ k_ => XS.icmpNo X0.here hx rfl (hb hby d1_51) rfl (flt hc51).2.2.1 k_) ?_
                  show Go p e below (s₁.setTop (mkF m 54 #[.val (.int p1)] [])) _
                  refine Go.st (fun _ k_ => XS.iconst X0.here hx rfl (hb hby d1_54) k_) ?_
                  show Go p e below (s₁.setTop (mkF m 55 #[.val (.int p1)] [(.int (1 : Int32))])) _
                  refine Go.st (fun _ k_ => XS.goto X0.here hx rfl (pc0 := 55) (pc' := 59) rfl (hb hby d1_55) (by decide) (by decide) k_) ?_
                  show Go p e below (s₁.setTop (mkF m 59 #[.val (.int p1)] [(.int (1 : Int32))])) _
                  refine Go.fin X0 (v := some (.int (1 : Int32))) (fun h_ => by rw [Bd.returns] at h_; cases h_) Bd.notSynchronized (fun _ hr => retN X0 hx (t := .boolean) Bd.returns (by simp) (hb hby d1_59) hr) (fun U' hU hF => ⟨_, _, rfl, ?_, hF.1, hF.2.1, hF.2.2.mono (by decide) (by decide)⟩)
                  rw [hU, e0]
                  exact ⟨(congrArg (fun z_ : Int32 => some (Value.int z_)) (show (1 : Int32) = (own_x p1) from by simp [own_x, hc3, hc15, hc21, hc27, hc33, hc39, hc45, hc51])), N0, rfl⟩
            · refine Go.st (fun _ k_ => XS.icmpYes X0.here hx rfl (pc0 := 39) (pc' := 54) rfl (hb hby d1_39) rfl (flt hc39).2.2.2 (by decide) (by decide) k_) ?_
              show Go p e below (s₁.setTop (mkF m 54 #[.val (.int p1)] [])) _
              refine Go.st (fun _ k_ => XS.iconst X0.here hx rfl (hb hby d1_54) k_) ?_
              show Go p e below (s₁.setTop (mkF m 55 #[.val (.int p1)] [(.int (1 : Int32))])) _
              refine Go.st (fun _ k_ => XS.goto X0.here hx rfl (pc0 := 55) (pc' := 59) rfl (hb hby d1_55) (by decide) (by decide) k_) ?_
              show Go p e below (s₁.setTop (mkF m 59 #[.val (.int p1)] [(.int (1 : Int32))])) _
              refine Go.fin X0 (v := some (.int (1 : Int32))) (fun h_ => by rw [Bd.returns] at h_; cases h_) Bd.notSynchronized (fun _ hr => retN X0 hx (t := .boolean) Bd.returns (by simp) (hb hby d1_59) hr) (fun U' hU hF => ⟨_, _, rfl, ?_, hF.1, hF.2.1, hF.2.2.mono (by decide) (by decide)⟩)
              rw [hU, e0]
              exact ⟨(congrArg (fun z_ : Int32 => some (Value.int z_)) (show (1 : Int32) = (own_x p1) from by simp [own_x, hc3, hc15, hc21, hc27, hc33, hc39])), N0, rfl⟩
  · refine Go.st (fun _ k_ => XS.icmpNo X0.here hx rfl (hb hby d1_3) rfl (flt hc3).1 k_) ?_
    show Go p e below (s₁.setTop (mkF m 6 #[.val (.int p1)] [])) _
    refine Go.st (fun _ k_ => XS.iloadN X0.here hx rfl (hb hby d1_6) rfl k_) ?_
    show Go p e below (s₁.setTop (mkF m 7 #[.val (.int p1)] [(.int p1)])) _
    refine Go.st (X0.ldcInt hx hown (mvT hZ (hw _ (List.mem_of_getElem? (i := 20) rfl))) (g := (mkF m 7 #[.val (.int p1)] [(.int p1)])) rfl (hb hby d1_7)) ?_
    show Go p e below (s₁.setTop (mkF m 9 #[.val (.int p1)] [(.int (55295 : Int32)), (.int p1)])) _
    by_cases hc9 : (55295 : Int32) < p1
    · refine Go.st (fun _ k_ => XS.icmpNo X0.here hx rfl (hb hby d1_9) rfl (tlt hc9).2.2.2 k_) ?_
      show Go p e below (s₁.setTop (mkF m 12 #[.val (.int p1)] [])) _
      refine Go.st (fun _ k_ => XS.iloadN X0.here hx rfl (hb hby d1_12) rfl k_) ?_
      show Go p e below (s₁.setTop (mkF m 13 #[.val (.int p1)] [(.int p1)])) _
      refine Go.st (fun _ k_ => XS.bipush X0.here hx rfl (hb hby d1_13) k_) ?_
      show Go p e below (s₁.setTop (mkF m 15 #[.val (.int p1)] [(.int (9 : Int32)), (.int p1)])) _
      by_cases hc15 : p1 = (9 : Int32)
      · refine Go.st (fun _ k_ => XS.icmpYes X0.here hx rfl (pc0 := 15) (pc' := 54) rfl (hb hby d1_15) rfl (teq hc15).1 (by decide) (by decide) k_) ?_
        show Go p e below (s₁.setTop (mkF m 54 #[.val (.int p1)] [])) _
        refine Go.st (fun _ k_ => XS.iconst X0.here hx rfl (hb hby d1_54) k_) ?_
        show Go p e below (s₁.setTop (mkF m 55 #[.val (.int p1)] [(.int (1 : Int32))])) _
        refine Go.st (fun _ k_ => XS.goto X0.here hx rfl (pc0 := 55) (pc' := 59) rfl (hb hby d1_55) (by decide) (by decide) k_) ?_
        show Go p e below (s₁.setTop (mkF m 59 #[.val (.int p1)] [(.int (1 : Int32))])) _
        refine Go.fin X0 (v := some (.int (1 : Int32))) (fun h_ => by rw [Bd.returns] at h_; cases h_) Bd.notSynchronized (fun _ hr => retN X0 hx (t := .boolean) Bd.returns (by simp) (hb hby d1_59) hr) (fun U' hU hF => ⟨_, _, rfl, ?_, hF.1, hF.2.1, hF.2.2.mono (by decide) (by decide)⟩)
        rw [hU, e0]
        exact ⟨(congrArg (fun z_ : Int32 => some (Value.int z_)) (show (1 : Int32) = (own_x p1) from by simp [own_x, hc3, hc9, hc15])), N0, rfl⟩
      · refine Go.st (fun _ k_ => XS.icmpNo X0.here hx rfl (hb hby d1_15) rfl (feq hc15).1 k_) ?_
        show Go p e below (s₁.setTop (mkF m 18 #[.val (.int p1)] [])) _
        refine Go.st (fun _ k_ => XS.iloadN X0.here hx rfl (hb hby d1_18) rfl k_) ?_
        show Go p e below (s₁.setTop (mkF m 19 #[.val (.int p1)] [(.int p1)])) _
        refine Go.st (fun _ k_ => XS.bipush X0.here hx rfl (hb hby d1_19) k_) ?_
        show Go p e below (s₁.setTop (mkF m 21 #[.val (.int p1)] [(.int (10 : Int32)), (.int p1)])) _
        by_cases hc21 : p1 = (10 : Int32)
        · refine Go.st (fun _ k_ => XS.icmpYes X0.here hx rfl (pc0 := 21) (pc' := 54) rfl (hb hby d1_21) rfl (teq hc21).1 (by decide) (by decide) k_) ?_
          show Go p e below (s₁.setTop (mkF m 54 #[.val (.int p1)] [])) _
          refine Go.st (fun _ k_ => XS.iconst X0.here hx rfl (hb hby d1_54) k_) ?_
          show Go p e below (s₁.setTop (mkF m 55 #[.val (.int p1)] [(.int (1 : Int32))])) _
          refine Go.st (fun _ k_ => XS.goto X0.here hx rfl (pc0 := 55) (pc' := 59) rfl (hb hby d1_55) (by decide) (by decide) k_) ?_
          show Go p e below (s₁.setTop (mkF m 59 #[.val (.int p1)] [(.int (1 : Int32))])) _
          refine Go.fin X0 (v := some (.int (1 : Int32))) (fun h_ => by rw [Bd.returns] at h_; cases h_) Bd.notSynchronized (fun _ hr => retN X0 hx (t := .boolean) Bd.returns (by simp) (hb hby d1_59) hr) (fun U' hU hF => ⟨_, _, rfl, ?_, hF.1, hF.2.1, hF.2.2.mono (by decide) (by decide)⟩)
          rw [hU, e0]
          exact ⟨(congrArg (fun z_ : Int32 => some (Value.int z_)) (show (1 : Int32) = (own_x p1) from by simp [own_x, hc3, hc9, hc15, hc21])), N0, rfl⟩
        · refine Go.st (fun _ k_ => XS.icmpNo X0.here hx rfl (hb hby d1_21) rfl (feq hc21).1 k_) ?_
          show Go p e below (s₁.setTop (mkF m 24 #[.val (.int p1)] [])) _
          refine Go.st (fun _ k_ => XS.iloadN X0.here hx rfl (hb hby d1_24) rfl k_) ?_
          show Go p e below (s₁.setTop (mkF m 25 #[.val (.int p1)] [(.int p1)])) _
          refine Go.st (fun _ k_ => XS.bipush X0.here hx rfl (hb hby d1_25) k_) ?_
          show Go p e below (s₁.setTop (mkF m 27 #[.val (.int p1)] [(.int (13 : Int32)), (.int p1)])) _
          by_cases hc27 : p1 = (13 : Int32)
          · refine Go.st (fun _ k_ => XS.icmpYes X0.here hx rfl (pc0 := 27) (pc' := 54) rfl (hb hby d1_27) rfl (teq hc27).1 (by decide) (by decide) k_) ?_
            show Go p e below (s₁.setTop (mkF m 54 #[.val (.int p1)] [])) _
            refine Go.st (fun _ k_ => XS.iconst X0.here hx rfl (hb hby d1_54) k_) ?_
            show Go p e below (s₁.setTop (mkF m 55 #[.val (.int p1)] [(.int (1 : Int32))])) _
            refine Go.st (fun _ k_ => XS.goto X0.here hx rfl (pc0 := 55) (pc' := 59) rfl (hb hby d1_55) (by decide) (by decide) k_) ?_
            show Go p e below (s₁.setTop (mkF m 59 #[.val (.int p1)] [(.int (1 : Int32))])) _
            refine Go.fin X0 (v := some (.int (1 : Int32))) (fun h_ => by rw [Bd.returns] at h_; cases h_) Bd.notSynchronized (fun _ hr => retN X0 hx (t := .boolean) Bd.returns (by simp) (hb hby d1_59) hr) (fun U' hU hF => ⟨_, _, rfl, ?_, hF.1, hF.2.1, hF.2.2.mono (by decide) (by decide)⟩)
            rw [hU, e0]
            exact ⟨(congrArg (fun z_ : Int32 => some (Value.int z_)) (show (1 : Int32) = (own_x p1) from by simp [own_x, hc3, hc9, hc15, hc21, hc27])), N0, rfl⟩
          · refine Go.st (fun _ k_ => XS.icmpNo X0.here hx rfl (hb hby d1_27) rfl (feq hc27).1 k_) ?_
            show Go p e below (s₁.setTop (mkF m 30 #[.val (.int p1)] [])) _
            refine Go.st (fun _ k_ => XS.iloadN X0.here hx rfl (hb hby d1_30) rfl k_) ?_
            show Go p e below (s₁.setTop (mkF m 31 #[.val (.int p1)] [(.int p1)])) _
            refine Go.st (X0.ldcInt hx hown (mvT hZ (hw _ (List.mem_of_getElem? (i := 14) rfl))) (g := (mkF m 31 #[.val (.int p1)] [(.int p1)])) rfl (hb hby d1_31)) ?_
            show Go p e below (s₁.setTop (mkF m 33 #[.val (.int p1)] [(.int (57344 : Int32)), (.int p1)])) _
            by_cases hc33 : p1 < (57344 : Int32)
            · refine Go.st (fun _ k_ => XS.icmpYes X0.here hx rfl (pc0 := 33) (pc' := 42) rfl (hb hby d1_33) rfl (tlt hc33).1 (by decide) (by decide) k_) ?_
              show Go p e below (s₁.setTop (mkF m 42 #[.val (.int p1)] [])) _
              refine Go.st (fun _ k_ => XS.iloadN X0.here hx rfl (hb hby d1_42) rfl k_) ?_
              show Go p e below (s₁.setTop (mkF m 43 #[.val (.int p1)] [(.int p1)])) _
              refine Go.st (X0.ldcInt hx hown (mvT hZ (hw _ (List.mem_of_getElem? (i := 15) rfl))) (g := (mkF m 43 #[.val (.int p1)] [(.int p1)])) rfl (hb hby d1_43)) ?_
              show Go p e below (s₁.setTop (mkF m 45 #[.val (.int p1)] [(.int (65536 : Int32)), (.int p1)])) _
              by_cases hc45 : p1 < (65536 : Int32)
              · refine Go.st (fun _ k_ => XS.icmpYes X0.here hx rfl (pc0 := 45) (pc' := 58) rfl (hb hby d1_45) rfl (tlt hc45).1 (by decide) (by decide) k_) ?_
                show Go p e below (s₁.setTop (mkF m 58 #[.val (.int p1)] [])) _
                refine Go.st (fun _ k_ => XS.iconst X0.here hx rfl (hb hby d1_58) k_) ?_
                show Go p e below (s₁.setTop (mkF m 59 #[.val (.int p1)] [(.int (0 : Int32))])) _
                refine Go.fin X0 (v := some (.int (0 : Int32))) (fun h_ => by rw [Bd.returns] at h_; cases h_) Bd.notSynchronized (fun _ hr => retN X0 hx (t := .boolean) Bd.returns (by simp) (hb hby d1_59) hr) (fun U' hU hF => ⟨_, _, rfl, ?_, hF.1, hF.2.1, hF.2.2.mono (by decide) (by decide)⟩)
                rw [hU, e0]
                exact ⟨(congrArg (fun z_ : Int32 => some (Value.int z_)) (show (0 : Int32) = (own_x p1) from by simp [own_x, hc3, hc9, hc15, hc21, hc27, hc33, hc45])), N0, rfl⟩
              · refine Go.st (fun _ k_ => XS.icmpNo X0.here hx rfl (hb hby d1_45) rfl (flt hc45).1 k_) ?_
                show Go p e below (s₁.setTop (mkF m 48 #[.val (.int p1)] [])) _
                refine Go.st (fun _ k_ => XS.iloadN X0.here hx rfl (hb hby d1_48) rfl k_) ?_
                show Go p e below (s₁.setTop (mkF m 49 #[.val (.int p1)] [(.int p1)])) _
                refine Go.st (X0.ldcInt hx hown (mvT hZ (hw _ (List.mem_of_getElem? (i := 24) rfl))) (g := (mkF m 49 #[.val (.int p1)] [(.int p1)])) rfl (hb hby d1_49)) ?_
                show Go p e below (s₁.setTop (mkF m 51 #[.val (.int p1)] [(.int (1114111 : Int32)), (.int p1)])) _
                by_cases hc51 : (1114111 : Int32) < p1
                · refine Go.st (fun _ k_ => XS.icmpYes X0.here hx rfl (pc0 := 51) (pc' := 58) rfl (hb hby d1_51) rfl (tlt hc51).2.2.1 (by decide) (by decide) k_) ?_
                  show Go p e below (s₁.setTop (mkF m 58 #[.val (.int p1)] [])) _
                  refine Go.st (fun _ k_ => XS.iconst X0.here hx rfl (hb hby d1_58) k_) ?_
                  show Go p e below (s₁.setTop (mkF m 59 #[.val (.int p1)] [(.int (0 : Int32))])) _
                  refine Go.fin X0 (v := some (.int (0 : Int32))) (fun h_ => by rw [Bd.returns] at h_; cases h_) Bd.notSynchronized (fun _ hr => retN X0 hx (t := .boolean) Bd.returns (by simp) (hb hby d1_59) hr) (fun U' hU hF => ⟨_, _, rfl, ?_, hF.1, hF.2.1, hF.2.2.mono (by decide) (by decide)⟩)
                  rw [hU, e0]
                  exact ⟨(congrArg (fun z_ : Int32 => some (Value.int z_)) (show (0 : Int32) = (own_x p1) from by simp [own_x, hc3, hc9, hc15, hc21, hc27, hc33, hc45, hc51])), N0, rfl⟩
                · refine Go.st (fun _ k_ => XS.icmpNo X0.here hx rfl (hb hby d1_51) rfl (flt hc51).2.2.1 k_) ?_
                  show Go p e below (s₁.setTop (mkF m 54 #[.val (.int p1)] [])) _
                  refine Go.st (fun _ k_ => XS.iconst X0.here hx rfl (hb hby d1_54) k_) ?_
                  show Go p e below (s₁.setTop (mkF m 55 #[.val (.int p1)] [(.int (1 : Int32))])) _
                  refine Go.st (fun _ k_ => XS.goto X0.here hx rfl (pc0 := 55) (pc' := 59) rfl (hb hby d1_55) (by decide) (by decide) k_) ?_
                  show Go p e below (s₁.setTop (mkF m 59 #[.val (.int p1)] [(.int (1 : Int32))])) _
                  refine Go.fin X0 (v := some (.int (1 : Int32))) (fun h_ => by rw [Bd.returns] at h_; cases h_) Bd.notSynchronized (fun _ hr => retN X0 hx (t := .boolean) Bd.returns (by simp) (hb hby d1_59) hr) (fun U' hU hF => ⟨_, _, rfl, ?_, hF.1, hF.2.1, hF.2.2.mono (by decide) (by decide)⟩)
                  rw [hU, e0]
                  exact ⟨(congrArg (fun z_ : Int32 => some (Value.int z_)) (show (1 : Int32) = (own_x p1) from by simp [own_x, hc3, hc9, hc15, hc21, hc27, hc33, hc45, hc51])), N0, rfl⟩
            · refine Go.st (fun _ k_ => XS.icmpNo X0.here hx rfl (hb hby d1_33) rfl (flt hc33).1 k_) ?_
              show Go p e below (s₁.setTop (mkF m 36 #[.val (.int p1)] [])) _
              refine Go.st (fun _ k_ => XS.iloadN X0.here hx rfl (hb hby d1_36) rfl k_) ?_
              show Go p e below (s₁.setTop (mkF m 37 #[.val (.int p1)] [(.int p1)])) _
              refine Go.st (X0.ldcInt hx hown (mvT hZ (hw _ (List.mem_of_getElem? (i := 23) rfl))) (g := (mkF m 37 #[.val (.int p1)] [(.int p1)])) rfl (hb hby d1_37)) ?_
              show Go p e below (s₁.setTop (mkF m 39 #[.val (.int p1)] [(.int (65533 : Int32)), (.int p1)])) _
              by_cases hc39 : (65533 : Int32) < p1
              · refine Go.st (fun _ k_ => XS.icmpNo X0.here hx rfl (hb hby d1_39) rfl (tlt hc39).2.2.2 k_) ?_
                show Go p e below (s₁.setTop (mkF m 42 #[.val (.int p1)] [])) _
                refine Go.st (fun _ k_ => XS.iloadN X0.here hx rfl (hb hby d1_42) rfl k_) ?_
                show Go p e below (s₁.setTop (mkF m 43 #[.val (.int p1)] [(.int p1)])) _
                refine Go.st (X0.ldcInt hx hown (mvT hZ (hw _ (List.mem_of_getElem? (i := 15) rfl))) (g := (mkF m 43 #[.val (.int p1)] [(.int p1)])) rfl (hb hby d1_43)) ?_
                show Go p e below (s₁.setTop (mkF m 45 #[.val (.int p1)] [(.int (65536 : Int32)), (.int p1)])) _
                by_cases hc45 : p1 < (65536 : Int32)
                · refine Go.st (fun _ k_ => XS.icmpYes X0.here hx rfl (pc0 := 45) (pc' := 58) rfl (hb hby d1_45) rfl (tlt hc45).1 (by decide) (by decide) k_) ?_
                  show Go p e below (s₁.setTop (mkF m 58 #[.val (.int p1)] [])) _
                  refine Go.st (fun _ k_ => XS.iconst X0.here hx rfl (hb hby d1_58) k_) ?_
                  show Go p e below (s₁.setTop (mkF m 59 #[.val (.int p1)] [(.int (0 : Int32))])) _
                  refine Go.fin X0 (v := some (.int (0 : Int32))) (fun h_ => by rw [Bd.returns] at h_; cases h_) Bd.notSynchronized (fun _ hr => retN X0 hx (t := .boolean) Bd.returns (by simp) (hb hby d1_59) hr) (fun U' hU hF => ⟨_, _, rfl, ?_, hF.1, hF.2.1, hF.2.2.mono (by decide) (by decide)⟩)
                  rw [hU, e0]
                  exact ⟨(congrArg (fun z_ : Int32 => some (Value.int z_)) (show (0 : Int32) = (own_x p1) from by simp [own_x, hc3, hc9, hc15, hc21, hc27, hc33, hc39, hc45])), N0, rfl⟩
                · refine Go.st (fun _ k_ => XS.icmpNo X0.here hx rfl (hb hby d1_45) rfl (flt hc45).1 k_) ?_
                  show Go p e below (s₁.setTop (mkF m 48 #[.val (.int p1)] [])) _
                  refine Go.st (fun _ k_ => XS.iloadN X0.here hx rfl (hb hby d1_48) rfl k_) ?_
                  show Go p e below (s₁.setTop (mkF m 49 #[.val (.int p1)] [(.int p1)])) _
                  refine Go.st (X0.ldcInt hx hown (mvT hZ (hw _ (List.mem_of_getElem? (i := 24) rfl))) (g := (mkF m 49 #[.val (.int p1)] [(.int p1)])) rfl (hb hby d1_49)) ?_
                  show Go p e below (s₁.setTop (mkF m 51 #[.val (.int p1)] [(.int (1114111 : Int32)), (.int p1)])) _
                  by_cases hc51 : (1114111 : Int32) < p1
                  · refine Go.st (fun _ k_ => XS.icmpYes X0.here hx rfl (pc0 := 51) (pc' := 58) rfl (hb hby d1_51) rfl (tlt hc51).2.2.1 (by decide) (by decide) k_) ?_
                    show Go p e below (s₁.setTop (mkF m 58 #[.val (.int p1)] [])) _
                    refine Go.st (fun _ k_ => XS.iconst X0.here hx rfl (hb hby d1_58) k_) ?_
                    show Go p e below (s₁.setTop (mkF m 59 #[.val (.int p1)] [(.int (0 : Int32))])) _
                    refine Go.fin X0 (v := some (.int (0 : Int32))) (fun h_ => by rw [Bd.returns] at h_; cases h_) Bd.notSynchronized (fun _ hr => retN X0 hx (t := .boolean) Bd.returns (by simp) (hb hby d1_59) hr) (fun U' hU hF => ⟨_, _, rfl, ?_, hF.1, hF.2.1, hF.2.2.mono (by decide) (by decide)⟩)
                    rw [hU, e0]
                    exact ⟨(congrArg (fun z_ : Int32 => some (Value.int z_)) (show (0 : Int32) = (own_x p1) from by simp [own_x, hc3, hc9, hc15, hc21, hc27, hc33, hc39, hc45, hc51])), N0, rfl⟩
                  · refine Go.st (fun _ k_ => XS.icmpNo X0.here hx rfl (hb hby d1_51) rfl (flt hc51).2.2.1 k_) ?_
                    show Go p e below (s₁.setTop (mkF m 54 #[.val (.int p1)] [])) _
                    refine Go.st (fun _ k_ => XS.iconst X0.here hx rfl (hb hby d1_54) k_) ?_
                    show Go p e below (s₁.setTop (mkF m 55 #[.val (.int p1)] [(.int (1 : Int32))])) _
                    refine Go.st (fun _ k_ => XS.goto X0.here hx rfl (pc0 := 55) (pc' := 59) rfl (hb hby d1_55) (by decide) (by decide) k_) ?_
                    show Go p e below (s₁.setTop (mkF m 59 #[.val (.int p1)] [(.int (1 : Int32))])) _
                    refine Go.fin X0 (v := some (.int (1 : Int32))) (fun h_ => by rw [Bd.returns] at h_; cases h_) Bd.notSynchronized (fun _ hr => retN X0 hx (t := .boolean) Bd.returns (by simp) (hb hby d1_59) hr) (fun U' hU hF => ⟨_, _, rfl, ?_, hF.1, hF.2.1, hF.2.2.mono (by decide) (by decide)⟩)
                    rw [hU, e0]
                    exact ⟨(congrArg (fun z_ : Int32 => some (Value.int z_)) (show (1 : Int32) = (own_x p1) from by simp [own_x, hc3, hc9, hc15, hc21, hc27, hc33, hc39, hc45, hc51])), N0, rfl⟩
              · refine Go.st (fun _ k_ => XS.icmpYes X0.here hx rfl (pc0 := 39) (pc' := 54) rfl (hb hby d1_39) rfl (flt hc39).2.2.2 (by decide) (by decide) k_) ?_
                show Go p e below (s₁.setTop (mkF m 54 #[.val (.int p1)] [])) _
                refine Go.st (fun _ k_ => XS.iconst X0.here hx rfl (hb hby d1_54) k_) ?_
                show Go p e below (s₁.setTop (mkF m 55 #[.val (.int p1)] [(.int (1 : Int32))])) _
                refine Go.st (fun _ k_ => XS.goto X0.here hx rfl (pc0 := 55) (pc' := 59) rfl (hb hby d1_55) (by decide) (by decide) k_) ?_
                show Go p e below (s₁.setTop (mkF m 59 #[.val (.int p1)] [(.int (1 : Int32))])) _
                refine Go.fin X0 (v := some (.int (1 : Int32))) (fun h_ => by rw [Bd.returns] at h_; cases h_) Bd.notSynchronized (fun _ hr => retN X0 hx (t := .boolean) Bd.returns (by simp) (hb hby d1_59) hr) (fun U' hU hF => ⟨_, _, rfl, ?_, hF.1, hF.2.1, hF.2.2.mono (by decide) (by decide)⟩)
                rw [hU, e0]
                exact ⟨(congrArg (fun z_ : Int32 => some (Value.int z_)) (show (1 : Int32) = (own_x p1) from by simp [own_x, hc3, hc9, hc15, hc21, hc27, hc33, hc39])), N0, rfl⟩
    · refine Go.st (fun _ k_ => XS.icmpYes X0.here hx rfl (pc0 := 9) (pc' := 54) rfl (hb hby d1_9) rfl (flt hc9).2.2.2 (by decide) (by decide) k_) ?_
      show Go p e below (s₁.setTop (mkF m 54 #[.val (.int p1)] [])) _
      refine Go.st (fun _ k_ => XS.iconst X0.here hx rfl (hb hby d1_54) k_) ?_
      show Go p e below (s₁.setTop (mkF m 55 #[.val (.int p1)] [(.int (1 : Int32))])) _
      refine Go.st (fun _ k_ => XS.goto X0.here hx rfl (pc0 := 55) (pc' := 59) rfl (hb hby d1_55) (by decide) (by decide) k_) ?_
      show Go p e below (s₁.setTop (mkF m 59 #[.val (.int p1)] [(.int (1 : Int32))])) _
      refine Go.fin X0 (v := some (.int (1 : Int32))) (fun h_ => by rw [Bd.returns] at h_; cases h_) Bd.notSynchronized (fun _ hr => retN X0 hx (t := .boolean) Bd.returns (by simp) (hb hby d1_59) hr) (fun U' hU hF => ⟨_, _, rfl, ?_, hF.1, hF.2.1, hF.2.2.mono (by decide) (by decide)⟩)
      rw [hU, e0]
      exact ⟨(congrArg (fun z_ : Int32 => some (Value.int z_)) (show (1 : Int32) = (own_x p1) from by simp [own_x, hc3, hc9])), N0, rfl⟩
theorem d2_0 : decode method_2_code 0 = .ok (.iload_n 0, 1) := by decide +kernel
theorem d2_1 : decode method_2_code 1 = .ok (.bipush 32, 2) := by decide +kernel
theorem d2_3 : decode method_2_code 3 = .ok (.if_icmp .ge 27, 3) := by decide +kernel
theorem d2_6 : decode method_2_code 6 = .ok (.iload_n 0, 1) := by decide +kernel
theorem d2_7 : decode method_2_code 7 = .ok (.bipush 9, 2) := by decide +kernel
theorem d2_9 : decode method_2_code 9 = .ok (.if_icmp .eq 15, 3) := by decide +kernel
theorem d2_12 : decode method_2_code 12 = .ok (.iload_n 0, 1) := by decide +kernel
theorem d2_13 : decode method_2_code 13 = .ok (.bipush 10, 2) := by decide +kernel
theorem d2_15 : decode method_2_code 15 = .ok (.if_icmp .eq 9, 3) := by decide +kernel
theorem d2_18 : decode method_2_code 18 = .ok (.iload_n 0, 1) := by decide +kernel
theorem d2_19 : decode method_2_code 19 = .ok (.bipush 13, 2) := by decide +kernel
theorem d2_21 : decode method_2_code 21 = .ok (.if_icmp .ne 7, 3) := by decide +kernel
theorem d2_24 : decode method_2_code 24 = .ok (.iconst 1, 1) := by decide +kernel
theorem d2_25 : decode method_2_code 25 = .ok (.goto 4, 3) := by decide +kernel
theorem d2_28 : decode method_2_code 28 = .ok (.iconst 0, 1) := by decide +kernel
theorem d2_29 : decode method_2_code 29 = .ok (.ireturn, 1) := by decide +kernel
theorem d2_30 : decode method_2_code 30 = .ok (.iload_n 0, 1) := by decide +kernel
theorem d2_31 : decode method_2_code 31 = .ok (.ldc 7, 2) := by decide +kernel
theorem d2_33 : decode method_2_code 33 = .ok (.if_icmp .ge 27, 3) := by decide +kernel
theorem d2_36 : decode method_2_code 36 = .ok (.iload_n 0, 1) := by decide +kernel
theorem d2_37 : decode method_2_code 37 = .ok (.ldc 8, 2) := by decide +kernel
theorem d2_39 : decode method_2_code 39 = .ok (.if_icmp .lt 9, 3) := by decide +kernel
theorem d2_42 : decode method_2_code 42 = .ok (.iload_n 0, 1) := by decide +kernel
theorem d2_43 : decode method_2_code 43 = .ok (.ldc 9, 2) := by decide +kernel
theorem d2_45 : decode method_2_code 45 = .ok (.if_icmp .le 13, 3) := by decide +kernel
theorem d2_48 : decode method_2_code 48 = .ok (.iload_n 0, 1) := by decide +kernel
theorem d2_49 : decode method_2_code 49 = .ok (.ldc 10, 2) := by decide +kernel
theorem d2_51 : decode method_2_code 51 = .ok (.if_icmp .ge 7, 3) := by decide +kernel
theorem d2_54 : decode method_2_code 54 = .ok (.iconst 1, 1) := by decide +kernel
theorem d2_55 : decode method_2_code 55 = .ok (.goto 4, 3) := by decide +kernel
theorem d2_58 : decode method_2_code 58 = .ok (.iconst 0, 1) := by decide +kernel
theorem d2_59 : decode method_2_code 59 = .ok (.ireturn, 1) := by decide +kernel
theorem d2_60 : decode method_2_code 60 = .ok (.iload_n 0, 1) := by decide +kernel
theorem d2_61 : decode method_2_code 61 = .ok (.ldc 11, 2) := by decide +kernel
theorem d2_63 : decode method_2_code 63 = .ok (.if_icmp .gt 7, 3) := by decide +kernel
theorem d2_66 : decode method_2_code 66 = .ok (.iconst 1, 1) := by decide +kernel
theorem d2_67 : decode method_2_code 67 = .ok (.goto 4, 3) := by decide +kernel
theorem d2_70 : decode method_2_code 70 = .ok (.iconst 0, 1) := by decide +kernel
theorem d2_71 : decode method_2_code 71 = .ok (.ireturn, 1) := by decide +kernel
theorem pn_71 : plainName "com/example/tracewarden/tracewarden/xes/XmlScannerIsXmlCharPinLaw" = true := by first | (simp [plainName, overriddenIn]; done) | decide +kernel
theorem ef_rm2 (m : MethodId) (p1 : Int32) : entryFrame m #[(.int p1)] 1 = mkF m 0 #[.val (.int p1)] [] := by first | (simp [entryFrame, mkF, argsToLocals, Value.category]; done) | rfl
def Q_rm2 (Z : State) (p1 : Int32) (h0 : Heap) (n0 : Nat) (v : Option Value) (h : Heap) (L : List Loc) : Prop := v = some (.int (own_r p1)) ∧ Fr n0 L ∧ h = h0
set_option maxRecDepth 65536 in
set_option maxHeartbeats 40000000 in
theorem rm2 (l : Launch) (Z : State) (a0 : Array Value) (hw : ∀ d ∈ tables_1, d.before a0 Z = true) (ws : List Jvm.Cond) (p1 : Int32) (h0 : Heap) (n0 : Nat) (Z0 : n0 ≤ h0.size) :
    MetFree l (⟨"com/example/tracewarden/tracewarden/xes/XmlScannerIsXmlCharPinLaw", "reference", "(I)Z"⟩ : MethodName) (head1 (Jvm.Cond.code (⟨"com/example/tracewarden/tracewarden/xes/XmlScannerIsXmlCharPinLaw", "reference", "(I)Z"⟩ : MethodName) method_2_code 1 (some .boolean) :: ws) ({ frames := 0, cells := 0, slots := 0, locals := 0 } : Room)) (fun a U => a = #[(.int p1)] ∧ Z.Warmed39 U.vm ∧ U.heap = h0) (fun _ _ _ _ _ => True) (fun _ U o U' => ∃ v L, o = .returned v ∧ Q_rm2 Z p1 h0 n0 v U'.heap L ∧ FrameEnd U o U' L ({ frames := 0, cells := 0, slots := 0, locals := 0 } : Room).cells ({ frames := 0, cells := 0, slots := 0, locals := 0 } : Room).slots) := by
  refine MetFree.of_bodySF (plainFor_of_name pn_71) hisR ?_
  intro p e s m args below meth c s₁ Bd hml0 hP hK
  obtain ⟨rfl, hZ, hh⟩ := hP
  have hx := Bd.exec
  have hby := Bd.bytes
  have hml : c.maxLocals = 1 := hml0
  have hown : s.vm.findClass "com/example/tracewarden/tracewarden/xes/XmlScannerIsXmlCharPinLaw" = some m.cls := findClass_of_methodNamed Bd.named
  have hnm := (name_of_methodNamed Bd.named Bd.method).1
  have X0 : Stand p l e ({ frames := 0, cells := 0, slots := 0, locals := 0 } : Room) s m #[(.int p1)] below meth c s₁ [] 0 0 := Stand.of_body Bd
  have e0 : s₁.heap = h0 := by rw [← hh, Bd.state]; rfl
  have N0 := Fr.nil n0
  show Go p e below (s₁.setTop (entryFrame m #[(.int p1)] 1)) (fun o U' => ∃ v L, o = .returned v ∧ Q_rm2 Z p1 h0 n0 v U'.heap L ∧ FrameEnd s o U' L ({ frames := 0, cells := 0, slots := 0, locals := 0 } : Room).cells ({ frames := 0, cells := 0, slots := 0, locals := 0 } : Room).slots)
  rw [ef_rm2]
  show Go p e below (s₁.setTop (mkF m 0 #[.val (.int p1)] [])) _
  refine Go.st (fun _ k_ => XS.iloadN X0.here hx rfl (hb hby d2_0) rfl k_) ?_
  show Go p e below (s₁.setTop (mkF m 1 #[.val (.int p1)] [(.int p1)])) _
  refine Go.st (fun _ k_ => XS.bipush X0.here hx rfl (hb hby d2_1) k_) ?_
  show Go p e below (s₁.setTop (mkF m 3 #[.val (.int p1)] [(.int (32 : Int32)), (.int p1)])) _
  by_cases hc3 : p1 < (32 : Int32)
  · refine Go.st (fun _ k_ => XS.icmpNo X0.here hx rfl (hb hby d2_3) rfl (tlt hc3).2.1 k_) ?_
    show Go p e below (s₁.setTop (mkF m 6 #[.val (.int p1)] [])) _
    refine Go.st (fun _ k_ => XS.iloadN X0.here hx rfl (hb hby d2_6) rfl k_) ?_
    show Go p e below (s₁.setTop (mkF m 7 #[.val (.int p1)] [(.int p1)])) _
    refine Go.st (fun _ k_ => XS.bipush X0.here hx rfl (hb hby d2_7) k_) ?_
    show Go p e below (s₁.setTop (mkF m 9 #[.val (.int p1)] [(.int (9 : Int32)), (.int p1)])) _
    by_cases hc9 : p1 = (9 : Int32)
    · refine Go.st (fun _ k_ => XS.icmpYes X0.here hx rfl (pc0 := 9) (pc' := 24) rfl (hb hby d2_9) rfl (teq hc9).1 (by decide) (by decide) k_) ?_
      show Go p e below (s₁.setTop (mkF m 24 #[.val (.int p1)] [])) _
      refine Go.st (fun _ k_ => XS.iconst X0.here hx rfl (hb hby d2_24) k_) ?_
      show Go p e below (s₁.setTop (mkF m 25 #[.val (.int p1)] [(.int (1 : Int32))])) _
      refine Go.st (fun _ k_ => XS.goto X0.here hx rfl (pc0 := 25) (pc' := 29) rfl (hb hby d2_25) (by decide) (by decide) k_) ?_
      show Go p e below (s₁.setTop (mkF m 29 #[.val (.int p1)] [(.int (1 : Int32))])) _
      refine Go.fin X0 (v := some (.int (1 : Int32))) (fun h_ => by rw [Bd.returns] at h_; cases h_) Bd.notSynchronized (fun _ hr => retN X0 hx (t := .boolean) Bd.returns (by simp) (hb hby d2_29) hr) (fun U' hU hF => ⟨_, _, rfl, ?_, hF.1, hF.2.1, hF.2.2.mono (by decide) (by decide)⟩)
      rw [hU, e0]
      exact ⟨(congrArg (fun z_ : Int32 => some (Value.int z_)) (show (1 : Int32) = (own_r p1) from by simp [own_r, hc3, hc9])), N0, rfl⟩
    · refine Go.st (fun _ k_ => XS.icmpNo X0.here hx rfl (hb hby d2_9) rfl (feq hc9).1 k_) ?_
      show Go p e below (s₁.setTop (mkF m 12 #[.val (.int p1)] [])) _
      refine Go.st (fun _ k_ => XS.iloadN X0.here hx rfl (hb hby d2_12) rfl k_) ?_
      show Go p e below (s₁.setTop (mkF m 13 #[.val (.int p1)] [(.int p1)])) _
      refine Go.st (fun _ k_ => XS.bipush X0.here hx rfl (hb hby d2_13) k_) ?_
      show Go p e below (s₁.setTop (mkF m 15 #[.val (.int p1)] [(.int (10 : Int32)), (.int p1)])) _
      by_cases hc15 : p1 = (10 : Int32)
      · refine Go.st (fun _ k_ => XS.icmpYes X0.here hx rfl (pc0 := 15) (pc' := 24) rfl (hb hby d2_15) rfl (teq hc15).1 (by decide) (by decide) k_) ?_
        show Go p e below (s₁.setTop (mkF m 24 #[.val (.int p1)] [])) _
        refine Go.st (fun _ k_ => XS.iconst X0.here hx rfl (hb hby d2_24) k_) ?_
        show Go p e below (s₁.setTop (mkF m 25 #[.val (.int p1)] [(.int (1 : Int32))])) _
        refine Go.st (fun _ k_ => XS.goto X0.here hx rfl (pc0 := 25) (pc' := 29) rfl (hb hby d2_25) (by decide) (by decide) k_) ?_
        show Go p e below (s₁.setTop (mkF m 29 #[.val (.int p1)] [(.int (1 : Int32))])) _
        refine Go.fin X0 (v := some (.int (1 : Int32))) (fun h_ => by rw [Bd.returns] at h_; cases h_) Bd.notSynchronized (fun _ hr => retN X0 hx (t := .boolean) Bd.returns (by simp) (hb hby d2_29) hr) (fun U' hU hF => ⟨_, _, rfl, ?_, hF.1, hF.2.1, hF.2.2.mono (by decide) (by decide)⟩)
        rw [hU, e0]
        exact ⟨(congrArg (fun z_ : Int32 => some (Value.int z_)) (show (1 : Int32) = (own_r p1) from by simp [own_r, hc3, hc9, hc15])), N0, rfl⟩
      · refine Go.st (fun _ k_ => XS.icmpNo X0.here hx rfl (hb hby d2_15) rfl (feq hc15).1 k_) ?_
        show Go p e below (s₁.setTop (mkF m 18 #[.val (.int p1)] [])) _
        refine Go.st (fun _ k_ => XS.iloadN X0.here hx rfl (hb hby d2_18) rfl k_) ?_
        show Go p e below (s₁.setTop (mkF m 19 #[.val (.int p1)] [(.int p1)])) _
        refine Go.st (fun _ k_ => XS.bipush X0.here hx rfl (hb hby d2_19) k_) ?_
        show Go p e below (s₁.setTop (mkF m 21 #[.val (.int p1)] [(.int (13 : Int32)), (.int p1)])) _
        by_cases hc21 : p1 = (13 : Int32)
        · refine Go.st (fun _ k_ => XS.icmpNo X0.here hx rfl (hb hby d2_21) rfl (teq hc21).2 k_) ?_
          show Go p e below (s₁.setTop (mkF m 24 #[.val (.int p1)] [])) _
          refine Go.st (fun _ k_ => XS.iconst X0.here hx rfl (hb hby d2_24) k_) ?_
          show Go p e below (s₁.setTop (mkF m 25 #[.val (.int p1)] [(.int (1 : Int32))])) _
          refine Go.st (fun _ k_ => XS.goto X0.here hx rfl (pc0 := 25) (pc' := 29) rfl (hb hby d2_25) (by decide) (by decide) k_) ?_
          show Go p e below (s₁.setTop (mkF m 29 #[.val (.int p1)] [(.int (1 : Int32))])) _
          refine Go.fin X0 (v := some (.int (1 : Int32))) (fun h_ => by rw [Bd.returns] at h_; cases h_) Bd.notSynchronized (fun _ hr => retN X0 hx (t := .boolean) Bd.returns (by simp) (hb hby d2_29) hr) (fun U' hU hF => ⟨_, _, rfl, ?_, hF.1, hF.2.1, hF.2.2.mono (by decide) (by decide)⟩)
          rw [hU, e0]
          exact ⟨(congrArg (fun z_ : Int32 => some (Value.int z_)) (show (1 : Int32) = (own_r p1) from by simp [own_r, hc3, hc9, hc15, hc21])), N0, rfl⟩
        · refine Go.st (fun _ k_ => XS.icmpYes X0.here hx rfl (pc0 := 21) (pc' := 28) rfl (hb hby d2_21) rfl (feq hc21).2 (by decide) (by decide) k_) ?_
          show Go p e below (s₁.setTop (mkF m 28 #[.val (.int p1)] [])) _
          refine Go.st (fun _ k_ => XS.iconst X0.here hx rfl (hb hby d2_28) k_) ?_
          show Go p e below (s₁.setTop (mkF m 29 #[.val (.int p1)] [(.int (0 : Int32))])) _
          refine Go.fin X0 (v := some (.int (0 : Int32))) (fun h_ => by rw [Bd.returns] at h_; cases h_) Bd.notSynchronized (fun _ hr => retN X0 hx (t := .boolean) Bd.returns (by simp) (hb hby d2_29) hr) (fun U' hU hF => ⟨_, _, rfl, ?_, hF.1, hF.2.1, hF.2.2.mono (by decide) (by decide)⟩)
          rw [hU, e0]
          exact ⟨(congrArg (fun z_ : Int32 => some (Value.int z_)) (show (0 : Int32) = (own_r p1) from by simp [own_r, hc3, hc9, hc15, hc21])), N0, rfl⟩
  · refine Go.st (fun _ k_ => XS.icmpYes X0.here hx rfl (pc0 := 3) (pc' := 30) rfl (hb hby d2_3) rfl (flt hc3).2.1 (by decide) (by decide) k_) ?_
    show Go p e below (s₁.setTop (mkF m 30 #[.val (.int p1)] [])) _
    refine Go.st (fun _ k_ => XS.iloadN X0.here hx rfl (hb hby d2_30) rfl k_) ?_
    show Go p e below (s₁.setTop (mkF m 31 #[.val (.int p1)] [(.int p1)])) _
    refine Go.st (X0.ldcInt hx hown (mvT hZ (hw _ (List.mem_of_getElem? (i := 5) rfl))) (g := (mkF m 31 #[.val (.int p1)] [(.int p1)])) rfl (hb hby d2_31)) ?_
    show Go p e below (s₁.setTop (mkF m 33 #[.val (.int p1)] [(.int (65536 : Int32)), (.int p1)])) _
    by_cases hc33 : p1 < (65536 : Int32)
    · refine Go.st (fun _ k_ => XS.icmpNo X0.here hx rfl (hb hby d2_33) rfl (tlt hc33).2.1 k_) ?_
      show Go p e below (s₁.setTop (mkF m 36 #[.val (.int p1)] [])) _
      refine Go.st (fun _ k_ => XS.iloadN X0.here hx rfl (hb hby d2_36) rfl k_) ?_
      show Go p e below (s₁.setTop (mkF m 37 #[.val (.int p1)] [(.int p1)])) _
      refine Go.st (X0.ldcInt hx hown (mvT hZ (hw _ (List.mem_of_getElem? (i := 21) rfl))) (g := (mkF m 37 #[.val (.int p1)] [(.int p1)])) rfl (hb hby d2_37)) ?_
      show Go p e below (s₁.setTop (mkF m 39 #[.val (.int p1)] [(.int (55296 : Int32)), (.int p1)])) _
      by_cases hc39 : p1 < (55296 : Int32)
      · refine Go.st (fun _ k_ => XS.icmpYes X0.here hx rfl (pc0 := 39) (pc' := 48) rfl (hb hby d2_39) rfl (tlt hc39).1 (by decide) (by decide) k_) ?_
        show Go p e below (s₁.setTop (mkF m 48 #[.val (.int p1)] [])) _
        refine Go.st (fun _ k_ => XS.iloadN X0.here hx rfl (hb hby d2_48) rfl k_) ?_
        show Go p e below (s₁.setTop (mkF m 49 #[.val (.int p1)] [(.int p1)])) _
        refine Go.st (X0.ldcInt hx hown (mvT hZ (hw _ (List.mem_of_getElem? (i := 22) rfl))) (g := (mkF m 49 #[.val (.int p1)] [(.int p1)])) rfl (hb hby d2_49)) ?_
        show Go p e below (s₁.setTop (mkF m 51 #[.val (.int p1)] [(.int (65534 : Int32)), (.int p1)])) _
        by_cases hc51 : p1 < (65534 : Int32)
        · refine Go.st (fun _ k_ => XS.icmpNo X0.here hx rfl (hb hby d2_51) rfl (tlt hc51).2.1 k_) ?_
          show Go p e below (s₁.setTop (mkF m 54 #[.val (.int p1)] [])) _
          refine Go.st (fun _ k_ => XS.iconst X0.here hx rfl (hb hby d2_54) k_) ?_
          show Go p e below (s₁.setTop (mkF m 55 #[.val (.int p1)] [(.int (1 : Int32))])) _
          refine Go.st (fun _ k_ => XS.goto X0.here hx rfl (pc0 := 55) (pc' := 59) rfl (hb hby d2_55) (by decide) (by decide) k_) ?_
          show Go p e below (s₁.setTop (mkF m 59 #[.val (.int p1)] [(.int (1 : Int32))])) _
          refine Go.fin X0 (v := some (.int (1 : Int32))) (fun h_ => by rw [Bd.returns] at h_; cases h_) Bd.notSynchronized (fun _ hr => retN X0 hx (t := .boolean) Bd.returns (by simp) (hb hby d2_59) hr) (fun U' hU hF => ⟨_, _, rfl, ?_, hF.1, hF.2.1, hF.2.2.mono (by decide) (by decide)⟩)
          rw [hU, e0]
          exact ⟨(congrArg (fun z_ : Int32 => some (Value.int z_)) (show (1 : Int32) = (own_r p1) from by simp [own_r, hc3, hc33, hc39, hc51])), N0, rfl⟩
        · refine Go.st (fun _ k_ => XS.icmpYes X0.here hx rfl (pc0 := 51) (pc' := 58) rfl (hb hby d2_51) rfl (flt hc51).2.1 (by decide) (by decide) k_) ?_
          show Go p e below (s₁.setTop (mkF m 58 #[.val (.int p1)] [])) _
          refine Go.st (fun _ k_ => XS.iconst X0.here hx rfl (hb hby d2_58) k_) ?_
          show Go p e below (s₁.setTop (mkF m 59 #[.val (.int p1)] [(.int (0 : Int32))])) _
          refine Go.fin X0 (v := some (.int (0 : Int32))) (fun h_ => by rw [Bd.returns] at h_; cases h_) Bd.notSynchronized (fun _ hr => retN X0 hx (t := .boolean) Bd.returns (by simp) (hb hby d2_59) hr) (fun U' hU hF => ⟨_, _, rfl, ?_, hF.1, hF.2.1, hF.2.2.mono (by decide) (by decide)⟩)
          rw [hU, e0]
          exact ⟨(congrArg (fun z_ : Int32 => some (Value.int z_)) (show (0 : Int32) = (own_r p1) from by simp [own_r, hc3, hc33, hc39, hc51])), N0, rfl⟩
      · refine Go.st (fun _ k_ => XS.icmpNo X0.here hx rfl (hb hby d2_39) rfl (flt hc39).1 k_) ?_
        show Go p e below (s₁.setTop (mkF m 42 #[.val (.int p1)] [])) _
        refine Go.st (fun _ k_ => XS.iloadN X0.here hx rfl (hb hby d2_42) rfl k_) ?_
        show Go p e below (s₁.setTop (mkF m 43 #[.val (.int p1)] [(.int p1)])) _
        refine Go.st (X0.ldcInt hx hown (mvT hZ (hw _ (List.mem_of_getElem? (i := 9) rfl))) (g := (mkF m 43 #[.val (.int p1)] [(.int p1)])) rfl (hb hby d2_43)) ?_
        show Go p e below (s₁.setTop (mkF m 45 #[.val (.int p1)] [(.int (57343 : Int32)), (.int p1)])) _
        by_cases hc45 : (57343 : Int32) < p1
        · refine Go.st (fun _ k_ => XS.icmpNo X0.here hx rfl (hb hby d2_45) rfl (tlt hc45).2.2.2 k_) ?_
          show Go p e below (s₁.setTop (mkF m 48 #[.val (.int p1)] [])) _
          refine Go.st (fun _ k_ => XS.iloadN X0.here hx rfl (hb hby d2_48) rfl k_) ?_
          show Go p e below (s₁.setTop (mkF m 49 #[.val (.int p1)] [(.int p1)])) _
          refine Go.st (X0.ldcInt hx hown (mvT hZ (hw _ (List.mem_of_getElem? (i := 22) rfl))) (g := (mkF m 49 #[.val (.int p1)] [(.int p1)])) rfl (hb hby d2_49)) ?_
          show Go p e below (s₁.setTop (mkF m 51 #[.val (.int p1)] [(.int (65534 : Int32)), (.int p1)])) _
          by_cases hc51 : p1 < (65534 : Int32)
          · refine Go.st (fun _ k_ => XS.icmpNo X0.here hx rfl (hb hby d2_51) rfl (tlt hc51).2.1 k_) ?_
            show Go p e below (s₁.setTop (mkF m 54 #[.val (.int p1)] [])) _
            refine Go.st (fun _ k_ => XS.iconst X0.here hx rfl (hb hby d2_54) k_) ?_
            show Go p e below (s₁.setTop (mkF m 55 #[.val (.int p1)] [(.int (1 : Int32))])) _
            refine Go.st (fun _ k_ => XS.goto X0.here hx rfl (pc0 := 55) (pc' := 59) rfl (hb hby d2_55) (by decide) (by decide) k_) ?_
            show Go p e below (s₁.setTop (mkF m 59 #[.val (.int p1)] [(.int (1 : Int32))])) _
            refine Go.fin X0 (v := some (.int (1 : Int32))) (fun h_ => by rw [Bd.returns] at h_; cases h_) Bd.notSynchronized (fun _ hr => retN X0 hx (t := .boolean) Bd.returns (by simp) (hb hby d2_59) hr) (fun U' hU hF => ⟨_, _, rfl, ?_, hF.1, hF.2.1, hF.2.2.mono (by decide) (by decide)⟩)
            rw [hU, e0]
            exact ⟨(congrArg (fun z_ : Int32 => some (Value.int z_)) (show (1 : Int32) = (own_r p1) from by simp [own_r, hc3, hc33, hc39, hc45, hc51])), N0, rfl⟩
          · refine Go.st (fun _ k_ => XS.icmpYes X0.here hx rfl (pc0 := 51) (pc' := 58) rfl (hb hby d2_51) rfl (flt hc51).2.1 (by decide) (by decide) k_) ?_
            show Go p e below (s₁.setTop (mkF m 58 #[.val (.int p1)] [])) _
            refine Go.st (fun _ k_ => XS.iconst X0.here hx rfl (hb hby d2_58) k_) ?_
            show Go p e below (s₁.setTop (mkF m 59 #[.val (.int p1)] [(.int (0 : Int32))])) _
            refine Go.fin X0 (v := some (.int (0 : Int32))) (fun h_ => by rw [Bd.returns] at h_; cases h_) Bd.notSynchronized (fun _ hr => retN X0 hx (t := .boolean) Bd.returns (by simp) (hb hby d2_59) hr) (fun U' hU hF => ⟨_, _, rfl, ?_, hF.1, hF.2.1, hF.2.2.mono (by decide) (by decide)⟩)
            rw [hU, e0]
            exact ⟨(congrArg (fun z_ : Int32 => some (Value.int z_)) (show (0 : Int32) = (own_r p1) from by simp [own_r, hc3, hc33, hc39, hc45, hc51])), N0, rfl⟩
        · refine Go.st (fun _ k_ => XS.icmpYes X0.here hx rfl (pc0 := 45) (pc' := 58) rfl (hb hby d2_45) rfl (flt hc45).2.2.2 (by decide) (by decide) k_) ?_
          show Go p e below (s₁.setTop (mkF m 58 #[.val (.int p1)] [])) _
          refine Go.st (fun _ k_ => XS.iconst X0.here hx rfl (hb hby d2_58) k_) ?_
          show Go p e below (s₁.setTop (mkF m 59 #[.val (.int p1)] [(.int (0 : Int32))])) _
          refine Go.fin X0 (v := some (.int (0 : Int32))) (fun h_ => by rw [Bd.returns] at h_; cases h_) Bd.notSynchronized (fun _ hr => retN X0 hx (t := .boolean) Bd.returns (by simp) (hb hby d2_59) hr) (fun U' hU hF => ⟨_, _, rfl, ?_, hF.1, hF.2.1, hF.2.2.mono (by decide) (by decide)⟩)
          rw [hU, e0]
          exact ⟨(congrArg (fun z_ : Int32 => some (Value.int z_)) (show (0 : Int32) = (own_r p1) from by simp [own_r, hc3, hc33, hc39, hc45])), N0, rfl⟩
    · refine Go.st (fun _ k_ => XS.icmpYes X0.here hx rfl (pc0 := 33) (pc' := 60) rfl (hb hby d2_33) rfl (flt hc33).2.1 (by decide) (by decide) k_) ?_
      show Go p e below (s₁.setTop (mkF m 60 #[.val (.int p1)] [])) _
      refine Go.st (fun _ k_ => XS.iloadN X0.here hx rfl (hb hby d2_60) rfl k_) ?_
      show Go p e below (s₁.setTop (mkF m 61 #[.val (.int p1)] [(.int p1)])) _
      refine Go.st (X0.ldcInt hx hown (mvT hZ (hw _ (List.mem_of_getElem? (i := 6) rfl))) (g := (mkF m 61 #[.val (.int p1)] [(.int p1)])) rfl (hb hby d2_61)) ?_
      show Go p e below (s₁.setTop (mkF m 63 #[.val (.int p1)] [(.int (1114111 : Int32)), (.int p1)])) _
      by_cases hc63 : (1114111 : Int32) < p1
      · refine Go.st (fun _ k_ => XS.icmpYes X0.here hx rfl (pc0 := 63) (pc' := 70) rfl (hb hby d2_63) rfl (tlt hc63).2.2.1 (by decide) (by decide) k_) ?_
        show Go p e below (s₁.setTop (mkF m 70 #[.val (.int p1)] [])) _
        refine Go.st (fun _ k_ => XS.iconst X0.here hx rfl (hb hby d2_70) k_) ?_
        show Go p e below (s₁.setTop (mkF m 71 #[.val (.int p1)] [(.int (0 : Int32))])) _
        refine Go.fin X0 (v := some (.int (0 : Int32))) (fun h_ => by rw [Bd.returns] at h_; cases h_) Bd.notSynchronized (fun _ hr => retN X0 hx (t := .boolean) Bd.returns (by simp) (hb hby d2_71) hr) (fun U' hU hF => ⟨_, _, rfl, ?_, hF.1, hF.2.1, hF.2.2.mono (by decide) (by decide)⟩)
        rw [hU, e0]
        exact ⟨(congrArg (fun z_ : Int32 => some (Value.int z_)) (show (0 : Int32) = (own_r p1) from by simp [own_r, hc3, hc33, hc63])), N0, rfl⟩
      · refine Go.st (fun _ k_ => XS.icmpNo X0.here hx rfl (hb hby d2_63) rfl (flt hc63).2.2.1 k_) ?_
        show Go p e below (s₁.setTop (mkF m 66 #[.val (.int p1)] [])) _
        refine Go.st (fun _ k_ => XS.iconst X0.here hx rfl (hb hby d2_66) k_) ?_
        show Go p e below (s₁.setTop (mkF m 67 #[.val (.int p1)] [(.int (1 : Int32))])) _
        refine Go.st (fun _ k_ => XS.goto X0.here hx rfl (pc0 := 67) (pc' := 71) rfl (hb hby d2_67) (by decide) (by decide) k_) ?_
        show Go p e below (s₁.setTop (mkF m 71 #[.val (.int p1)] [(.int (1 : Int32))])) _
        refine Go.fin X0 (v := some (.int (1 : Int32))) (fun h_ => by rw [Bd.returns] at h_; cases h_) Bd.notSynchronized (fun _ hr => retN X0 hx (t := .boolean) Bd.returns (by simp) (hb hby d2_71) hr) (fun U' hU hF => ⟨_, _, rfl, ?_, hF.1, hF.2.1, hF.2.2.mono (by decide) (by decide)⟩)
        rw [hU, e0]
        exact ⟨(congrArg (fun z_ : Int32 => some (Value.int z_)) (show (1 : Int32) = (own_r p1) from by simp [own_r, hc3, hc33, hc63])), N0, rfl⟩
theorem pd_0 : parseMethodDescriptor "(I)Z" = some ⟨[.int], some .boolean⟩ := by decide +kernel
theorem ef_rm0 (m : MethodId) (p1 : Int32) (p2 : Int32) (p3 : Int32) : entryFrame m #[(.int p1), (.int p2), (.int p3)] maxLocals = mkF m 0 #[.val (.int p1), .val (.int p2), .val (.int p3), .unset, .unset, .unset, .unset] [] := by first | (simp [entryFrame, mkF, argsToLocals, Value.category, maxLocals]; done) | rfl
def Q_rm0 (Z : State) (p1 : Int32) (p2 : Int32) (p3 : Int32) (h0 : Heap) (n0 : Nat) (v : Option Value) (h : Heap) (L : List Loc) : Prop := v = some (.int (1 : Int32)) ∧ Fr n0 L
set_option maxRecDepth 65536 in
set_option maxHeartbeats 40000000 in
theorem rm0 (l : Launch) (Z : State) (a0 : Array Value) (hw : ∀ d ∈ tables_1, d.before a0 Z = true) (ws : List Jvm.Cond) (p1 : Int32) (p2 : Int32) (p3 : Int32) (h0 : Heap) (n0 : Nat) (Z0 : n0 ≤ h0.size) :
    MetFree l x (head1 (Jvm.Cond.code x code maxLocals ret :: ws) room_1) (fun a U => a = #[(.int p1), (.int p2), (.int p3)] ∧ Z.Warmed39 U.vm ∧ U.heap = h0) (fun _ _ _ _ _ => True) (fun _ U o U' => ∃ v L, o = .returned v ∧ Q_rm0 Z p1 p2 p3 h0 n0 v U'.heap L ∧ FrameEnd U o U' L room_1.cells room_1.slots) := by
  refine MetFree.of_bodySF (plainFor_of_name pn_71) hisR ?_
  intro p e s m args below meth c s₁ Bd hml0 hP hK
  obtain ⟨rfl, hZ, hh⟩ := hP
  have hx := Bd.exec
  have hby := Bd.bytes
  have hml : c.maxLocals = 7 := hml0
  have hown : s.vm.findClass "com/example/tracewarden/tracewarden/xes/XmlScannerIsXmlCharPinLaw" = some m.cls := findClass_of_methodNamed Bd.named
  have hnm := (name_of_methodNamed Bd.named Bd.method).1
  have X0 : Stand p l e room_1 s m #[(.int p1), (.int p2), (.int p3)] below meth c s₁ [] 0 0 := Stand.of_body Bd
  have e0 : s₁.heap = h0 := by rw [← hh, Bd.state]; rfl
  have N0 := Fr.nil n0
  show Go p e below (s₁.setTop (entryFrame m #[(.int p1), (.int p2), (.int p3)] maxLocals)) (fun o U' => ∃ v L, o = .returned v ∧ Q_rm0 Z p1 p2 p3 h0 n0 v U'.heap L ∧ FrameEnd s o U' L room_1.cells room_1.slots)
  rw [ef_rm0]
  show Go p e below (s₁.setTop (mkF m 0 #[.val (.int p1), .val (.int p2), .val (.int p3), .unset, .unset, .unset, .unset] [])) _
  refine Go.st (fun _ k_ => XS.bipush X0.here hx rfl (hb hby at_0) k_) ?_
  show Go p e below (s₁.setTop (mkF m 2 #[.val (.int p1), .val (.int p2), .val (.int p3), .unset, .unset, .unset, .unset] [(.int (16 : Int32))])) _
  obtain ⟨T1, h1, k1, X1, e1, E1, A1, st1⟩ := newP X0 hx hZ (hw _ (List.mem_of_getElem? (i := 0) rfl)) e0 (g := (mkF m 2 #[.val (.int p1), .val (.int p2), .val (.int p3), .unset, .unset, .unset, .unset] [(.int (16 : Int32))])) rfl (hb hby at_2) rfl (by decide) (cap := 16) (by decide) (by decide) (by decide) (by decide)
  obtain ⟨b1, g1⟩ : ∃ z_, z_ = h0.size := ⟨_, rfl⟩
  rw [← g1] at A1 st1
  have g_b1 : n0 ≤ b1 := Nat.le_trans Z0 (Nat.le_of_eq g1.symm)
  have V_b1 : Arv Z h1 b1 k1 .int (16 : Int32) [(.int (0 : Int32)), (.int (0 : Int32)), (.int (0 : Int32)), (.int (0 : Int32)), (.int (0 : Int32)), (.int (0 : Int32)), (.int (0 : Int32)), (.int (0 : Int32)), (.int (0 : Int32)), (.int (0 : Int32)), (.int (0 : Int32)), (.int (0 : Int32)), (.int (0 : Int32)), (.int (0 : Int32)), (.int (0 : Int32)), (.int (0 : Int32))] (.int (0 : Int32)) := (Arv.new A1 (by decide)).pad (pad_rep [] (.int (0 : Int32)) 16)
  have lt_b1 : b1 < h1.size := own_arvlt V_b1
  refine Go.st st1 ?_
  show Go p e below (T1.setTop (mkF m 4 #[.val (.int p1), .val (.int p2), .val (.int p3), .unset, .unset, .unset, .unset] [(.ref b1)])) _
  refine Go.st (fun _ k_ => XS.dup X1.here hx rfl (hb hby at_4) rfl rfl k_) ?_
  show Go p e below (T1.setTop (mkF m 5 #[.val (.int p1), .val (.int p2), .val (.int p3), .unset, .unset, .unset, .unset] [(.ref b1), (.ref b1)])) _
  refine Go.st (fun _ k_ => XS.iconst X1.here hx rfl (hb hby at_5) k_) ?_
  show Go p e below (T1.setTop (mkF m 6 #[.val (.int p1), .val (.int p2), .val (.int p3), .unset, .unset, .unset, .unset] [(.int (0 : Int32)), (.ref b1), (.ref b1)])) _
  refine Go.st (fun _ k_ => XS.bipush X1.here hx rfl (hb hby at_6) k_) ?_
  show Go p e below (T1.setTop (mkF m 8 #[.val (.int p1), .val (.int p2), .val (.int p3), .unset, .unset, .unset, .unset] [(.int (8 : Int32)), (.int (0 : Int32)), (.ref b1), (.ref b1)])) _
  obtain ⟨cl2, Ar2, q2, S2, N2_, H2, G2⟩ := V_b1
  have hin2 : ¬ ((0 : Int32) < 0 ∨ cl2.slots.size ≤ ((0 : Int32)).toNatClampNeg) := inb_of S2 ⟨by decide, by decide⟩
  obtain ⟨T2, h2, X2, e2, W2, st2⟩ := stI X1 hx hZ e1 Ar2 (j := (0 : Int32)) hin2 (g := (mkF m 8 #[.val (.int p1), .val (.int p2), .val (.int p3), .unset, .unset, .unset, .unset] [(.int (8 : Int32)), (.int (0 : Int32)), (.ref b1), (.ref b1)])) rfl rfl (hb hby at_8)
  have V2 : Arv Z h2 b1 k1 .int (16 : Int32) [(.int (8 : Int32)), (.int (0 : Int32)), (.int (0 : Int32)), (.int (0 : Int32)), (.int (0 : Int32)), (.int (0 : Int32)), (.int (0 : Int32)), (.int (0 : Int32)), (.int (0 : Int32)), (.int (0 : Int32)), (.int (0 : Int32)), (.int (0 : Int32)), (.int (0 : Int32)), (.int (0 : Int32)), (.int (0 : Int32)), (.int (0 : Int32))] (.int (0 : Int32)) := Arv.set Ar2 q2 S2 N2_ H2 G2 rfl W2 0 rfl (Nat.le_of_ble_eq_true rfl)
  have N2 := Fr.snoc X2 N0 g_b1
  refine Go.st st2 ?_
  show Go p e below (T2.setTop (mkF m 9 #[.val (.int p1), .val (.int p2), .val (.int p3), .unset, .unset, .unset, .unset] [(.ref b1)])) _
  refine Go.st (fun _ k_ => XS.dup X2.here hx rfl (hb hby at_9) rfl rfl k_) ?_
  show Go p e below (T2.setTop (mkF m 10 #[.val (.int p1), .val (.int p2), .val (.int p3), .unset, .unset, .unset, .unset] [(.ref b1), (.ref b1)])) _
  refine Go.st (fun _ k_ => XS.iconst X2.here hx rfl (hb hby at_10) k_) ?_
  show Go p e below (T2.setTop (mkF m 11 #[.val (.int p1), .val (.int p2), .val (.int p3), .unset, .unset, .unset, .unset] [(.int (1 : Int32)), (.ref b1), (.ref b1)])) _
  refine Go.st (fun _ k_ => XS.bipush X2.here hx rfl (hb hby at_11) k_) ?_
  show Go p e below (T2.setTop (mkF m 13 #[.val (.int p1), .val (.int p2), .val (.int p3), .unset, .unset, .unset, .unset] [(.int (9 : Int32)), (.int (1 : Int32)), (.ref b1), (.ref b1)])) _
  obtain ⟨cl3, Ar3, q3, S3, N3_, H3, G3⟩ := V2
  have hin3 : ¬ ((1 : Int32) < 0 ∨ cl3.slots.size ≤ ((1 : Int32)).toNatClampNeg) := inb_of S3 ⟨by decide, by decide⟩
  obtain ⟨T3, h3, X3, e3, W3, st3⟩ := stI X2 hx hZ e2 Ar3 (j := (1 : Int32)) hin3 (g := (mkF m 13 #[.val (.int p1), .val (.int p2), .val (.int p3), .unset, .unset, .unset, .unset] [(.int (9 : Int32)), (.int (1 : Int32)), (.ref b1), (.ref b1)])) rfl rfl (hb hby at_13)
  have V3 : Arv Z h3 b1 k1 .int (16 : Int32) [(.int (8 : Int32)), (.int (9 : Int32)), (.int (0 : Int32)), (.int (0 : Int32)), (.int (0 : Int32)), (.int (0 : Int32)), (.int (0 : Int32)), (.int (0 : Int32)), (.int (0 : Int32)), (.int (0 : Int32)), (.int (0 : Int32)), (.int (0 : Int32)), (.int (0 : Int32)), (.int (0 : Int32)), (.int (0 : Int32)), (.int (0 : Int32))] (.int (0 : Int32)) := Arv.set Ar3 q3 S3 N3_ H3 G3 rfl W3 1 rfl (Nat.le_of_ble_eq_true rfl)
  have N3 := Fr.snoc X3 N2 g_b1
  refine Go.st st3 ?_
  show Go p e below (T3.setTop (mkF m 14 #[.val (.int p1), .val (.int p2), .val (.int p3), .unset, .unset, .unset, .unset] [(.ref b1)])) _
  refine Go.st (fun _ k_ => XS.dup X3.here hx rfl (hb hby at_14) rfl rfl k_) ?_
  show Go p e below (T3.setTop (mkF m 15 #[.val (.int p1), .val (.int p2), .val (.int p3), .unset, .unset, .unset, .unset] [(.ref b1), (.ref b1)])) _
  refine Go.st (fun _ k_ => XS.iconst X3.here hx rfl (hb hby at_15) k_) ?_
  show Go p e below (T3.setTop (mkF m 16 #[.val (.int p1), .val (.int p2), .val (.int p3), .unset, .unset, .unset, .unset] [(.int (2 : Int32)), (.ref b1), (.ref b1)])) _
  refine Go.st (fun _ k_ => XS.bipush X3.here hx rfl (hb hby at_16) k_) ?_
  show Go p e below (T3.setTop (mkF m 18 #[.val (.int p1), .val (.int p2), .val (.int p3), .unset, .unset, .unset, .unset] [(.int (10 : Int32)), (.int (2 : Int32)), (.ref b1), (.ref b1)])) _
  obtain ⟨cl4, Ar4, q4, S4, N4_, H4, G4⟩ := V3
  have hin4 : ¬ ((2 : Int32) < 0 ∨ cl4.slots.size ≤ ((2 : Int32)).toNatClampNeg) := inb_of S4 ⟨by decide, by decide⟩
  obtain ⟨T4, h4, X4, e4, W4, st4⟩ := stI X3 hx hZ e3 Ar4 (j := (2 : Int32)) hin4 (g := (mkF m 18 #[.val (.int p1), .val (.int p2), .val (.int p3), .unset, .unset, .unset, .unset] [(.int (10 : Int32)), (.int (2 : Int32)), (.ref b1), (.ref b1)])) rfl rfl (hb hby at_18)
  have V4 : Arv Z h4 b1 k1 .int (16 : Int32) [(.int (8 : Int32)), (.int (9 : Int32)), (.int (10 : Int32)), (.int (0 : Int32)), (.int (0 : Int32)), (.int (0 : Int32)), (.int (0 : Int32)), (.int (0 : Int32)), (.int (0 : Int32)), (.int (0 : Int32)), (.int (0 : Int32)), (.int (0 : Int32)), (.int (0 : Int32)), (.int (0 : Int32)), (.int (0 : Int32)), (.int (0 : Int32))] (.int (0 : Int32)) := Arv.set Ar4 q4 S4 N4_ H4 G4 rfl W4 2 rfl (Nat.le_of_ble_eq_true rfl)
  have N4 := Fr.snoc X4 N3 g_b1
  refine Go.st st4 ?_
  show Go p e below (T4.setTop (mkF m 19 #[.val (.int p1), .val (.int p2), .val (.int p3), .unset, .unset, .unset, .unset] [(.ref b1)])) _
  refine Go.st (fun _ k_ => XS.dup X4.here hx rfl (hb hby at_19) rfl rfl k_) ?_
  show Go p e below (T4.setTop (mkF m 20 #[.val (.int p1), .val (.int p2), .val (.int p3), .unset, .unset, .unset, .unset] [(.ref b1), (.ref b1)])) _
  refine Go.st (fun _ k_ => XS.iconst X4.here hx rfl (hb hby at_20) k_) ?_
  show Go p e below (T4.setTop (mkF m 21 #[.val (.int p1), .val (.int p2), .val (.int p3), .unset, .unset, .unset, .unset] [(.int (3 : Int32)), (.ref b1), (.ref b1)])) _
  refine Go.st (fun _ k_ => XS.bipush X4.here hx rfl (hb hby at_21) k_) ?_
  show Go p e below (T4.setTop (mkF m 23 #[.val (.int p1), .val (.int p2), .val (.int p3), .unset, .unset, .unset, .unset] [(.int (11 : Int32)), (.int (3 : Int32)), (.ref b1), (.ref b1)])) _
  obtain ⟨cl5, Ar5, q5, S5, N5_, H5, G5⟩ := V4
  have hin5 : ¬ ((3 : Int32) < 0 ∨ cl5.slots.size ≤ ((3 : Int32)).toNatClampNeg) := inb_of S5 ⟨by decide, by decide⟩
  obtain ⟨T5, h5, X5, e5, W5, st5⟩ := stI X4 hx hZ e4 Ar5 (j := (3 : Int32)) hin5 (g := (mkF m 23 #[.val (.int p1), .val (.int p2), .val (.int p3), .unset, .unset, .unset, .unset] [(.int (11 : Int32)), (.int (3 : Int32)), (.ref b1), (.ref b1)])) rfl rfl (hb hby at_23)
  have V5 : Arv Z h5 b1 k1 .int (16 : Int32) [(.int (8 : Int32)), (.int (9 : Int32)), (.int (10 : Int32)), (.int (11 : Int32)), (.int (0 : Int32)), (.int (0 : Int32)), (.int (0 : Int32)), (.int (0 : Int32)), (.int (0 : Int32)), (.int (0 : Int32)), (.int (0 : Int32)), (.int (0 : Int32)), (.int (0 : Int32)), (.int (0 : Int32)), (.int (0 : Int32)), (.int (0 : Int32))] (.int (0 : Int32)) := Arv.set Ar5 q5 S5 N5_ H5 G5 rfl W5 3 rfl (Nat.le_of_ble_eq_true rfl)
  have N5 := Fr.snoc X5 N4 g_b1
  refine Go.st st5 ?_
  show Go p e below (T5.setTop (mkF m 24 #[.val (.int p1), .val (.int p2), .val (.int p3), .unset, .unset, .unset, .unset] [(.ref b1)])) _
  refine Go.st (fun _ k_ => XS.dup X5.here hx rfl (hb hby at_24) rfl rfl k_) ?_
  show Go p e below (T5.setTop (mkF m 25 #[.val (.int p1), .val (.int p2), .val (.int p3), .unset, .unset, .unset, .unset] [(.ref b1), (.ref b1)])) _
  refine Go.st (fun _ k_ => XS.iconst X5.here hx rfl (hb hby at_25) k_) ?_
  show Go p e below (T5.setTop (mkF m 26 #[.val (.int p1), .val (.int p2), .val (.int p3), .unset, .unset, .unset, .unset] [(.int (4 : Int32)), (.ref b1), (.ref b1)])) _
  refine Go.st (fun _ k_ => XS.bipush X5.here hx rfl (hb hby at_26) k_) ?_
  show Go p e below (T5.setTop (mkF m 28 #[.val (.int p1), .val (.int p2), .val (.int p3), .unset, .unset, .unset, .unset] [(.int (13 : Int32)), (.int (4 : Int32)), (.ref b1), (.ref b1)])) _
  obtain ⟨cl6, Ar6, q6, S6, N6_, H6, G6⟩ := V5
  have hin6 : ¬ ((4 : Int32) < 0 ∨ cl6.slots.size ≤ ((4 : Int32)).toNatClampNeg) := inb_of S6 ⟨by decide, by decide⟩
  obtain ⟨T6, h6, X6, e6, W6, st6⟩ := stI X5 hx hZ e5 Ar6 (j := (4 : Int32)) hin6 (g := (mkF m 28 #[.val (.int p1), .val (.int p2), .val (.int p3), .unset, .unset, .unset, .unset] [(.int (13 : Int32)), (.int (4 : Int32)), (.ref b1), (.ref b1)])) rfl rfl (hb hby at_28)
  have V6 : Arv Z h6 b1 k1 .int (16 : Int32) [(.int (8 : Int32)), (.int (9 : Int32)), (.int (10 : Int32)), (.int (11 : Int32)), (.int (13 : Int32)), (.int (0 : Int32)), (.int (0 : Int32)), (.int (0 : Int32)), (.int (0 : Int32)), (.int (0 : Int32)), (.int (0 : Int32)), (.int (0 : Int32)), (.int (0 : Int32)), (.int (0 : Int32)), (.int (0 : Int32)), (.int (0 : Int32))] (.int (0 : Int32)) := Arv.set Ar6 q6 S6 N6_ H6 G6 rfl W6 4 rfl (Nat.le_of_ble_eq_true rfl)
  have N6 := Fr.snoc X6 N5 g_b1
  refine Go.st st6 ?_
  show Go p e below (T6.setTop (mkF m 29 #[.val (.int p1), .val (.int p2), .val (.int p3), .unset, .unset, .unset, .unset] [(.ref b1)])) _
  refine Go.st (fun _ k_ => XS.dup X6.here hx rfl (hb hby at_29) rfl rfl k_) ?_
  show Go p e below (T6.setTop (mkF m 30 #[.val (.int p1), .val (.int p2), .val (.int p3), .unset, .unset, .unset, .unset] [(.ref b1), (.ref b1)])) _
  refine Go.st (fun _ k_ => XS.iconst X6.here hx rfl (hb hby at_30) k_) ?_
  show Go p e below (T6.setTop (mkF m 31 #[.val (.int p1), .val (.int p2), .val (.int p3), .unset, .unset, .unset, .unset] [(.int (5 : Int32)), (.ref b1), (.ref b1)])) _
  refine Go.st (fun _ k_ => XS.bipush X6.here hx rfl (hb hby at_31) k_) ?_
  show Go p e below (T6.setTop (mkF m 33 #[.val (.int p1), .val (.int p2), .val (.int p3), .unset, .unset, .unset, .unset] [(.int (32 : Int32)), (.int (5 : Int32)), (.ref b1), (.ref b1)])) _
  obtain ⟨cl7, Ar7, q7, S7, N7_, H7, G7⟩ := V6
  have hin7 : ¬ ((5 : Int32) < 0 ∨ cl7.slots.size ≤ ((5 : Int32)).toNatClampNeg) := inb_of S7 ⟨by decide, by decide⟩
  obtain ⟨T7, h7, X7, e7, W7, st7⟩ := stI X6 hx hZ e6 Ar7 (j := (5 : Int32)) hin7 (g := (mkF m 33 #[.val (.int p1), .val (.int p2), .val (.int p3), .unset, .unset, .unset, .unset] [(.int (32 : Int32)), (.int (5 : Int32)), (.ref b1), (.ref b1)])) rfl rfl (hb hby at_33)
  have V7 : Arv Z h7 b1 k1 .int (16 : Int32) [(.int (8 : Int32)), (.int (9 : Int32)), (.int (10 : Int32)), (.int (11 : Int32)), (.int (13 : Int32)), (.int (32 : Int32)), (.int (0 : Int32)), (.int (0 : Int32)), (.int (0 : Int32)), (.int (0 : Int32)), (.int (0 : Int32)), (.int (0 : Int32)), (.int (0 : Int32)), (.int (0 : Int32)), (.int (0 : Int32)), (.int (0 : Int32))] (.int (0 : Int32)) := Arv.set Ar7 q7 S7 N7_ H7 G7 rfl W7 5 rfl (Nat.le_of_ble_eq_true rfl)
  have N7 := Fr.snoc X7 N6 g_b1
  refine Go.st st7 ?_
  show Go p e below (T7.setTop (mkF m 34 #[.val (.int p1), .val (.int p2), .val (.int p3), .unset, .unset, .unset, .unset] [(.ref b1)])) _
  refine Go.st (fun _ k_ => XS.dup X7.here hx rfl (hb hby at_34) rfl rfl k_) ?_
  show Go p e below (T7.setTop (mkF m 35 #[.val (.int p1), .val (.int p2), .val (.int p3), .unset, .unset, .unset, .unset] [(.ref b1), (.ref b1)])) _
  refine Go.st (fun _ k_ => XS.bipush X7.here hx rfl (hb hby at_35) k_) ?_
  show Go p e below (T7.setTop (mkF m 37 #[.val (.int p1), .val (.int p2), .val (.int p3), .unset, .unset, .unset, .unset] [(.int (6 : Int32)), (.ref b1), (.ref b1)])) _
  refine Go.st (X7.ldcInt hx hown (mvT hZ (hw _ (List.mem_of_getElem? (i := 1) rfl))) (g := (mkF m 37 #[.val (.int p1), .val (.int p2), .val (.int p3), .unset, .unset, .unset, .unset] [(.int (6 : Int32)), (.ref b1), (.ref b1)])) rfl (hb hby at_37)) ?_
  show Go p e below (T7.setTop (mkF m 39 #[.val (.int p1), .val (.int p2), .val (.int p3), .unset, .unset, .unset, .unset] [(.int (55295 : Int32)), (.int (6 : Int32)), (.ref b1), (.ref b1)])) _
  obtain ⟨cl8, Ar8, q8, S8, N8_, H8, G8⟩ := V7
  have hin8 : ¬ ((6 : Int32) < 0 ∨ cl8.slots.size ≤ ((6 : Int32)).toNatClampNeg) := inb_of S8 ⟨by decide, by decide⟩
  obtain ⟨T8, h8, X8, e8, W8, st8⟩ := stI X7 hx hZ e7 Ar8 (j := (6 : Int32)) hin8 (g := (mkF m 39 #[.val (.int p1), .val (.int p2), .val (.int p3), .unset, .unset, .unset, .unset] [(.int (55295 : Int32)), (.int (6 : Int32)), (.ref b1), (.ref b1)])) rfl rfl (hb hby at_39)
  have V8 : Arv Z h8 b1 k1 .int (16 : Int32) [(.int (8 : Int32)), (.int (9 : Int32)), (.int (10 : Int32)), (.int (11 : Int32)), (.int (13 : Int32)), (.int (32 : Int32)), (.int (55295 : Int32)), (.int (0 : Int32)), (.int (0 : Int32)), (.int (0 : Int32)), (.int (0 : Int32)), (.int (0 : Int32)), (.int (0 : Int32)), (.int (0 : Int32)), (.int (0 : Int32)), (.int (0 : Int32))] (.int (0 : Int32)) := Arv.set Ar8 q8 S8 N8_ H8 G8 rfl W8 6 rfl (Nat.le_of_ble_eq_true rfl)
  have N8 := Fr.snoc X8 N7 g_b1
  refine Go.st st8 ?_
  show Go p e below (T8.setTop (mkF m 40 #[.val (.int p1), .val (.int p2), .val (.int p3), .unset, .unset, .unset, .unset] [(.ref b1)])) _
  refine Go.st (fun _ k_ => XS.dup X8.here hx rfl (hb hby at_40) rfl rfl k_) ?_
  show Go p e below (T8.setTop (mkF m 41 #[.val (.int p1), .val (.int p2), .val (.int p3), .unset, .unset, .unset, .unset] [(.ref b1), (.ref b1)])) _
  refine Go.st (fun _ k_ => XS.bipush X8.here hx rfl (hb hby at_41) k_) ?_
  show Go p e below (T8.setTop (mkF m 43 #[.val (.int p1), .val (.int p2), .val (.int p3), .unset, .unset, .unset, .unset] [(.int (7 : Int32)), (.ref b1), (.ref b1)])) _
  refine Go.st (X8.ldcInt hx hown (mvT hZ (hw _ (List.mem_of_getElem? (i := 2) rfl))) (g := (mkF m 43 #[.val (.int p1), .val (.int p2), .val (.int p3), .unset, .unset, .unset, .unset] [(.int (7 : Int32)), (.ref b1), (.ref b1)])) rfl (hb hby at_43)) ?_
  show Go p e below (T8.setTop (mkF m 45 #[.val (.int p1), .val (.int p2), .val (.int p3), .unset, .unset, .unset, .unset] [(.int (57344 : Int32)), (.int (7 : Int32)), (.ref b1), (.ref b1)])) _
  obtain ⟨cl9, Ar9, q9, S9, N9_, H9, G9⟩ := V8
  have hin9 : ¬ ((7 : Int32) < 0 ∨ cl9.slots.size ≤ ((7 : Int32)).toNatClampNeg) := inb_of S9 ⟨by decide, by decide⟩
  obtain ⟨T9, h9, X9, e9, W9, st9⟩ := stI X8 hx hZ e8 Ar9 (j := (7 : Int32)) hin9 (g := (mkF m 45 #[.val (.int p1), .val (.int p2), .val (.int p3), .unset, .unset, .unset, .unset] [(.int (57344 : Int32)), (.int (7 : Int32)), (.ref b1), (.ref b1)])) rfl rfl (hb hby at_45)
  have V9 : Arv Z h9 b1 k1 .int (16 : Int32) [(.int (8 : Int32)), (.int (9 : Int32)), (.int (10 : Int32)), (.int (11 : Int32)), (.int (13 : Int32)), (.int (32 : Int32)), (.int (55295 : Int32)), (.int (57344 : Int32)), (.int (0 : Int32)), (.int (0 : Int32)), (.int (0 : Int32)), (.int (0 : Int32)), (.int (0 : Int32)), (.int (0 : Int32)), (.int (0 : Int32)), (.int (0 : Int32))] (.int (0 : Int32)) := Arv.set Ar9 q9 S9 N9_ H9 G9 rfl W9 7 rfl (Nat.le_of_ble_eq_true rfl)
  have N9 := Fr.snoc X9 N8 g_b1
  refine Go.st st9 ?_
  show Go p e below (T9.setTop (mkF m 46 #[.val (.int p1), .val (.int p2), .val (.int p3), .unset, .unset, .unset, .unset] [(.ref b1)])) _
  refine Go.st (fun _ k_ => XS.dup X9.here hx rfl (hb hby at_46) rfl rfl k_) ?_
  show Go p e below (T9.setTop (mkF m 47 #[.val (.int p1), .val (.int p2), .val (.int p3), .unset, .unset, .unset, .unset] [(.ref b1), (.ref b1)])) _
  refine Go.st (fun _ k_ => XS.bipush X9.here hx rfl (hb hby at_47) k_) ?_
  show Go p e below (T9.setTop (mkF m 49 #[.val (.int p1), .val (.int p2), .val (.int p3), .unset, .unset, .unset, .unset] [(.int (8 : Int32)), (.ref b1), (.ref b1)])) _
  refine Go.st (X9.ldcInt hx hown (mvT hZ (hw _ (List.mem_of_getElem? (i := 3) rfl))) (g := (mkF m 49 #[.val (.int p1), .val (.int p2), .val (.int p3), .unset, .unset, .unset, .unset] [(.int (8 : Int32)), (.ref b1), (.ref b1)])) rfl (hb hby at_49)) ?_
  show Go p e below (T9.setTop (mkF m 51 #[.val (.int p1), .val (.int p2), .val (.int p3), .unset, .unset, .unset, .unset] [(.int (65533 : Int32)), (.int (8 : Int32)), (.ref b1), (.ref b1)])) _
  obtain ⟨cl10, Ar10, q10, S10, N10_, H10, G10⟩ := V9
  have hin10 : ¬ ((8 : Int32) < 0 ∨ cl10.slots.size ≤ ((8 : Int32)).toNatClampNeg) := inb_of S10 ⟨by decide, by decide⟩
  obtain ⟨T10, h10, X10, e10, W10, st10⟩ := stI X9 hx hZ e9 Ar10 (j := (8 : Int32)) hin10 (g := (mkF m 51 #[.val (.int p1), .val (.int p2), .val (.int p3), .unset, .unset, .unset, .unset] [(.int (65533 : Int32)), (.int (8 : Int32)), (.ref b1), (.ref b1)])) rfl rfl (hb hby at_51)
  have V10 : Arv Z h10 b1 k1 .int (16 : Int32) [(.int (8 : Int32)), (.int (9 : Int32)), (.int (10 : Int32)), (.int (11 : Int32)), (.int (13 : Int32)), (.int (32 : Int32)), (.int (55295 : Int32)), (.int (57344 : Int32)), (.int (65533 : Int32)), (.int (0 : Int32)), (.int (0 : Int32)), (.int (0 : Int32)), (.int (0 : Int32)), (.int (0 : Int32)), (.int (0 : Int32)), (.int (0 : Int32))] (.int (0 : Int32)) := Arv.set Ar10 q10 S10 N10_ H10 G10 rfl W10 8 rfl (Nat.le_of_ble_eq_true rfl)
  have N10 := Fr.snoc X10 N9 g_b1
  refine Go.st st10 ?_
  show Go p e below (T10.setTop (mkF m 52 #[.val (.int p1), .val (.int p2), .val (.int p3), .unset, .unset, .unset, .unset] [(.ref b1)])) _
  refine Go.st (fun _ k_ => XS.dup X10.here hx rfl (hb hby at_52) rfl rfl k_) ?_
  show Go p e below (T10.setTop (mkF m 53 #[.val (.int p1), .val (.int p2), .val (.int p3), .unset, .unset, .unset, .unset] [(.ref b1), (.ref b1)])) _
  refine Go.st (fun _ k_ => XS.bipush X10.here hx rfl (hb hby at_53) k_) ?_
  show Go p e below (T10.setTop (mkF m 55 #[.val (.int p1), .val (.int p2), .val (.int p3), .unset, .unset, .unset, .unset] [(.int (9 : Int32)), (.ref b1), (.ref b1)])) _
  refine Go.st (X10.ldcInt hx hown (mvT hZ (hw _ (List.mem_of_getElem? (i := 4) rfl))) (g := (mkF m 55 #[.val (.int p1), .val (.int p2), .val (.int p3), .unset, .unset, .unset, .unset] [(.int (9 : Int32)), (.ref b1), (.ref b1)])) rfl (hb hby at_55)) ?_
  show Go p e below (T10.setTop (mkF m 57 #[.val (.int p1), .val (.int p2), .val (.int p3), .unset, .unset, .unset, .unset] [(.int (65535 : Int32)), (.int (9 : Int32)), (.ref b1), (.ref b1)])) _
  obtain ⟨cl11, Ar11, q11, S11, N11_, H11, G11⟩ := V10
  have hin11 : ¬ ((9 : Int32) < 0 ∨ cl11.slots.size ≤ ((9 : Int32)).toNatClampNeg) := inb_of S11 ⟨by decide, by decide⟩
  obtain ⟨T11, h11, X11, e11, W11, st11⟩ := stI X10 hx hZ e10 Ar11 (j := (9 : Int32)) hin11 (g := (mkF m 57 #[.val (.int p1), .val (.int p2), .val (.int p3), .unset, .unset, .unset, .unset] [(.int (65535 : Int32)), (.int (9 : Int32)), (.ref b1), (.ref b1)])) rfl rfl (hb hby at_57)
  have V11 : Arv Z h11 b1 k1 .int (16 : Int32) [(.int (8 : Int32)), (.int (9 : Int32)), (.int (10 : Int32)), (.int (11 : Int32)), (.int (13 : Int32)), (.int (32 : Int32)), (.int (55295 : Int32)), (.int (57344 : Int32)), (.int (65533 : Int32)), (.int (65535 : Int32)), (.int (0 : Int32)), (.int (0 : Int32)), (.int (0 : Int32)), (.int (0 : Int32)), (.int (0 : Int32)), (.int (0 : Int32))] (.int (0 : Int32)) := Arv.set Ar11 q11 S11 N11_ H11 G11 rfl W11 9 rfl (Nat.le_of_ble_eq_true rfl)
  have N11 := Fr.snoc X11 N10 g_b1
  refine Go.st st11 ?_
  show Go p e below (T11.setTop (mkF m 58 #[.val (.int p1), .val (.int p2), .val (.int p3), .unset, .unset, .unset, .unset] [(.ref b1)])) _
  refine Go.st (fun _ k_ => XS.dup X11.here hx rfl (hb hby at_58) rfl rfl k_) ?_
  show Go p e below (T11.setTop (mkF m 59 #[.val (.int p1), .val (.int p2), .val (.int p3), .unset, .unset, .unset, .unset] [(.ref b1), (.ref b1)])) _
  refine Go.st (fun _ k_ => XS.bipush X11.here hx rfl (hb hby at_59) k_) ?_
  show Go p e below (T11.setTop (mkF m 61 #[.val (.int p1), .val (.int p2), .val (.int p3), .unset, .unset, .unset, .unset] [(.int (10 : Int32)), (.ref b1), (.ref b1)])) _
  refine Go.st (X11.ldcInt hx hown (mvT hZ (hw _ (List.mem_of_getElem? (i := 5) rfl))) (g := (mkF m 61 #[.val (.int p1), .val (.int p2), .val (.int p3), .unset, .unset, .unset, .unset] [(.int (10 : Int32)), (.ref b1), (.ref b1)])) rfl (hb hby at_61)) ?_
  show Go p e below (T11.setTop (mkF m 63 #[.val (.int p1), .val (.int p2), .val (.int p3), .unset, .unset, .unset, .unset] [(.int (65536 : Int32)), (.int (10 : Int32)), (.ref b1), (.ref b1)])) _
  obtain ⟨cl12, Ar12, q12, S12, N12_, H12, G12⟩ := V11
  have hin12 : ¬ ((10 : Int32) < 0 ∨ cl12.slots.size ≤ ((10 : Int32)).toNatClampNeg) := inb_of S12 ⟨by decide, by decide⟩
  obtain ⟨T12, h12, X12, e12, W12, st12⟩ := stI X11 hx hZ e11 Ar12 (j := (10 : Int32)) hin12 (g := (mkF m 63 #[.val (.int p1), .val (.int p2), .val (.int p3), .unset, .unset, .unset, .unset] [(.int (65536 : Int32)), (.int (10 : Int32)), (.ref b1), (.ref b1)])) rfl rfl (hb hby at_63)
  have V12 : Arv Z h12 b1 k1 .int (16 : Int32) [(.int (8 : Int32)), (.int (9 : Int32)), (.int (10 : Int32)), (.int (11 : Int32)), (.int (13 : Int32)), (.int (32 : Int32)), (.int (55295 : Int32)), (.int (57344 : Int32)), (.int (65533 : Int32)), (.int (65535 : Int32)), (.int (65536 : Int32)), (.int (0 : Int32)), (.int (0 : Int32)), (.int (0 : Int32)), (.int (0 : Int32)), (.int (0 : Int32))] (.int (0 : Int32)) := Arv.set Ar12 q12 S12 N12_ H12 G12 rfl W12 10 rfl (Nat.le_of_ble_eq_true rfl)
  have N12 := Fr.snoc X12 N11 g_b1
  refine Go.st st12 ?_
  show Go p e below (T12.setTop (mkF m 64 #[.val (.int p1), .val (.int p2), .val (.int p3), .unset, .unset, .unset, .unset] [(.ref b1)])) _
  refine Go.st (fun _ k_ => XS.dup X12.here hx rfl (hb hby at_64) rfl rfl k_) ?_
  show Go p e below (T12.setTop (mkF m 65 #[.val (.int p1), .val (.int p2), .val (.int p3), .unset, .unset, .unset, .unset] [(.ref b1), (.ref b1)])) _
  refine Go.st (fun _ k_ => XS.bipush X12.here hx rfl (hb hby at_65) k_) ?_
  show Go p e below (T12.setTop (mkF m 67 #[.val (.int p1), .val (.int p2), .val (.int p3), .unset, .unset, .unset, .unset] [(.int (11 : Int32)), (.ref b1), (.ref b1)])) _
  refine Go.st (X12.ldcInt hx hown (mvT hZ (hw _ (List.mem_of_getElem? (i := 6) rfl))) (g := (mkF m 67 #[.val (.int p1), .val (.int p2), .val (.int p3), .unset, .unset, .unset, .unset] [(.int (11 : Int32)), (.ref b1), (.ref b1)])) rfl (hb hby at_67)) ?_
  show Go p e below (T12.setTop (mkF m 69 #[.val (.int p1), .val (.int p2), .val (.int p3), .unset, .unset, .unset, .unset] [(.int (1114111 : Int32)), (.int (11 : Int32)), (.ref b1), (.ref b1)])) _
  obtain ⟨cl13, Ar13, q13, S13, N13_, H13, G13⟩ := V12
  have hin13 : ¬ ((11 : Int32) < 0 ∨ cl13.slots.size ≤ ((11 : Int32)).toNatClampNeg) := inb_of S13 ⟨by decide, by decide⟩
  obtain ⟨T13, h13, X13, e13, W13, st13⟩ := stI X12 hx hZ e12 Ar13 (j := (11 : Int32)) hin13 (g := (mkF m 69 #[.val (.int p1), .val (.int p2), .val (.int p3), .unset, .unset, .unset, .unset] [(.int (1114111 : Int32)), (.int (11 : Int32)), (.ref b1), (.ref b1)])) rfl rfl (hb hby at_69)
  have V13 : Arv Z h13 b1 k1 .int (16 : Int32) [(.int (8 : Int32)), (.int (9 : Int32)), (.int (10 : Int32)), (.int (11 : Int32)), (.int (13 : Int32)), (.int (32 : Int32)), (.int (55295 : Int32)), (.int (57344 : Int32)), (.int (65533 : Int32)), (.int (65535 : Int32)), (.int (65536 : Int32)), (.int (1114111 : Int32)), (.int (0 : Int32)), (.int (0 : Int32)), (.int (0 : Int32)), (.int (0 : Int32))] (.int (0 : Int32)) := Arv.set Ar13 q13 S13 N13_ H13 G13 rfl W13 11 rfl (Nat.le_of_ble_eq_true rfl)
  have N13 := Fr.snoc X13 N12 g_b1
  refine Go.st st13 ?_
  show Go p e below (T13.setTop (mkF m 70 #[.val (.int p1), .val (.int p2), .val (.int p3), .unset, .unset, .unset, .unset] [(.ref b1)])) _
  refine Go.st (fun _ k_ => XS.dup X13.here hx rfl (hb hby at_70) rfl rfl k_) ?_
  show Go p e below (T13.setTop (mkF m 71 #[.val (.int p1), .val (.int p2), .val (.int p3), .unset, .unset, .unset, .unset] [(.ref b1), (.ref b1)])) _
  refine Go.st (fun _ k_ => XS.bipush X13.here hx rfl (hb hby at_71) k_) ?_
  show Go p e below (T13.setTop (mkF m 73 #[.val (.int p1), .val (.int p2), .val (.int p3), .unset, .unset, .unset, .unset] [(.int (12 : Int32)), (.ref b1), (.ref b1)])) _
  refine Go.st (fun _ k_ => XS.iconst X13.here hx rfl (hb hby at_73) k_) ?_
  show Go p e below (T13.setTop (mkF m 74 #[.val (.int p1), .val (.int p2), .val (.int p3), .unset, .unset, .unset, .unset] [(.int (0 : Int32)), (.int (12 : Int32)), (.ref b1), (.ref b1)])) _
  obtain ⟨cl14, Ar14, q14, S14, N14_, H14, G14⟩ := V13
  have hin14 : ¬ ((12 : Int32) < 0 ∨ cl14.slots.size ≤ ((12 : Int32)).toNatClampNeg) := inb_of S14 ⟨by decide, by decide⟩
  obtain ⟨T14, h14, X14, e14, W14, st14⟩ := stI X13 hx hZ e13 Ar14 (j := (12 : Int32)) hin14 (g := (mkF m 74 #[.val (.int p1), .val (.int p2), .val (.int p3), .unset, .unset, .unset, .unset] [(.int (0 : Int32)), (.int (12 : Int32)), (.ref b1), (.ref b1)])) rfl rfl (hb hby at_74)
  have V14 : Arv Z h14 b1 k1 .int (16 : Int32) [(.int (8 : Int32)), (.int (9 : Int32)), (.int (10 : Int32)), (.int (11 : Int32)), (.int (13 : Int32)), (.int (32 : Int32)), (.int (55295 : Int32)), (.int (57344 : Int32)), (.int (65533 : Int32)), (.int (65535 : Int32)), (.int (65536 : Int32)), (.int (1114111 : Int32)), (.int (0 : Int32)), (.int (0 : Int32)), (.int (0 : Int32)), (.int (0 : Int32))] (.int (0 : Int32)) := Arv.set Ar14 q14 S14 N14_ H14 G14 rfl W14 12 rfl (Nat.le_of_ble_eq_true rfl)
  have N14 := Fr.snoc X14 N13 g_b1
  refine Go.st st14 ?_
  show Go p e below (T14.setTop (mkF m 75 #[.val (.int p1), .val (.int p2), .val (.int p3), .unset, .unset, .unset, .unset] [(.ref b1)])) _
  refine Go.st (fun _ k_ => XS.dup X14.here hx rfl (hb hby at_75) rfl rfl k_) ?_
  show Go p e below (T14.setTop (mkF m 76 #[.val (.int p1), .val (.int p2), .val (.int p3), .unset, .unset, .unset, .unset] [(.ref b1), (.ref b1)])) _
  refine Go.st (fun _ k_ => XS.bipush X14.here hx rfl (hb hby at_76) k_) ?_
  show Go p e below (T14.setTop (mkF m 78 #[.val (.int p1), .val (.int p2), .val (.int p3), .unset, .unset, .unset, .unset] [(.int (13 : Int32)), (.ref b1), (.ref b1)])) _
  refine Go.st (X14.ldcInt hx hown (mvT hZ (hw _ (List.mem_of_getElem? (i := 7) rfl))) (g := (mkF m 78 #[.val (.int p1), .val (.int p2), .val (.int p3), .unset, .unset, .unset, .unset] [(.int (13 : Int32)), (.ref b1), (.ref b1)])) rfl (hb hby at_78)) ?_
  show Go p e below (T14.setTop (mkF m 80 #[.val (.int p1), .val (.int p2), .val (.int p3), .unset, .unset, .unset, .unset] [(.int (-2147483648 : Int32)), (.int (13 : Int32)), (.ref b1), (.ref b1)])) _
  obtain ⟨cl15, Ar15, q15, S15, N15_, H15, G15⟩ := V14
  have hin15 : ¬ ((13 : Int32) < 0 ∨ cl15.slots.size ≤ ((13 : Int32)).toNatClampNeg) := inb_of S15 ⟨by decide, by decide⟩
  obtain ⟨T15, h15, X15, e15, W15, st15⟩ := stI X14 hx hZ e14 Ar15 (j := (13 : Int32)) hin15 (g := (mkF m 80 #[.val (.int p1), .val (.int p2), .val (.int p3), .unset, .unset, .unset, .unset] [(.int (-2147483648 : Int32)), (.int (13 : Int32)), (.ref b1), (.ref b1)])) rfl rfl (hb hby at_80)
  have V15 : Arv Z h15 b1 k1 .int (16 : Int32) [(.int (8 : Int32)), (.int (9 : Int32)), (.int (10 : Int32)), (.int (11 : Int32)), (.int (13 : Int32)), (.int (32 : Int32)), (.int (55295 : Int32)), (.int (57344 : Int32)), (.int (65533 : Int32)), (.int (65535 : Int32)), (.int (65536 : Int32)), (.int (1114111 : Int32)), (.int (0 : Int32)), (.int (-2147483648 : Int32)), (.int (0 : Int32)), (.int (0 : Int32))] (.int (0 : Int32)) := Arv.set Ar15 q15 S15 N15_ H15 G15 rfl W15 13 rfl (Nat.le_of_ble_eq_true rfl)
  have N15 := Fr.snoc X15 N14 g_b1
  refine Go.st st15 ?_
  show Go p e below (T15.setTop (mkF m 81 #[.val (.int p1), .val (.int p2), .val (.int p3), .unset, .unset, .unset, .unset] [(.ref b1)])) _
  refine Go.st (fun _ k_ => XS.dup X15.here hx rfl (hb hby at_81) rfl rfl k_) ?_
  show Go p e below (T15.setTop (mkF m 82 #[.val (.int p1), .val (.int p2), .val (.int p3), .unset, .unset, .unset, .unset] [(.ref b1), (.ref b1)])) _
  refine Go.st (fun _ k_ => XS.bipush X15.here hx rfl (hb hby at_82) k_) ?_
  show Go p e below (T15.setTop (mkF m 84 #[.val (.int p1), .val (.int p2), .val (.int p3), .unset, .unset, .unset, .unset] [(.int (14 : Int32)), (.ref b1), (.ref b1)])) _
  refine Go.st (X15.ldcInt hx hown (mvT hZ (hw _ (List.mem_of_getElem? (i := 8) rfl))) (g := (mkF m 84 #[.val (.int p1), .val (.int p2), .val (.int p3), .unset, .unset, .unset, .unset] [(.int (14 : Int32)), (.ref b1), (.ref b1)])) rfl (hb hby at_84)) ?_
  show Go p e below (T15.setTop (mkF m 86 #[.val (.int p1), .val (.int p2), .val (.int p3), .unset, .unset, .unset, .unset] [(.int (2147483647 : Int32)), (.int (14 : Int32)), (.ref b1), (.ref b1)])) _
  obtain ⟨cl16, Ar16, q16, S16, N16_, H16, G16⟩ := V15
  have hin16 : ¬ ((14 : Int32) < 0 ∨ cl16.slots.size ≤ ((14 : Int32)).toNatClampNeg) := inb_of S16 ⟨by decide, by decide⟩
  obtain ⟨T16, h16, X16, e16, W16, st16⟩ := stI X15 hx hZ e15 Ar16 (j := (14 : Int32)) hin16 (g := (mkF m 86 #[.val (.int p1), .val (.int p2), .val (.int p3), .unset, .unset, .unset, .unset] [(.int (2147483647 : Int32)), (.int (14 : Int32)), (.ref b1), (.ref b1)])) rfl rfl (hb hby at_86)
  have V16 : Arv Z h16 b1 k1 .int (16 : Int32) [(.int (8 : Int32)), (.int (9 : Int32)), (.int (10 : Int32)), (.int (11 : Int32)), (.int (13 : Int32)), (.int (32 : Int32)), (.int (55295 : Int32)), (.int (57344 : Int32)), (.int (65533 : Int32)), (.int (65535 : Int32)), (.int (65536 : Int32)), (.int (1114111 : Int32)), (.int (0 : Int32)), (.int (-2147483648 : Int32)), (.int (2147483647 : Int32)), (.int (0 : Int32))] (.int (0 : Int32)) := Arv.set Ar16 q16 S16 N16_ H16 G16 rfl W16 14 rfl (Nat.le_of_ble_eq_true rfl)
  have N16 := Fr.snoc X16 N15 g_b1
  refine Go.st st16 ?_
  show Go p e below (T16.setTop (mkF m 87 #[.val (.int p1), .val (.int p2), .val (.int p3), .unset, .unset, .unset, .unset] [(.ref b1)])) _
  refine Go.st (fun _ k_ => XS.dup X16.here hx rfl (hb hby at_87) rfl rfl k_) ?_
  show Go p e below (T16.setTop (mkF m 88 #[.val (.int p1), .val (.int p2), .val (.int p3), .unset, .unset, .unset, .unset] [(.ref b1), (.ref b1)])) _
  refine Go.st (fun _ k_ => XS.bipush X16.here hx rfl (hb hby at_88) k_) ?_
  show Go p e below (T16.setTop (mkF m 90 #[.val (.int p1), .val (.int p2), .val (.int p3), .unset, .unset, .unset, .unset] [(.int (15 : Int32)), (.ref b1), (.ref b1)])) _
  refine Go.st (X16.ldcInt hx hown (mvT hZ (hw _ (List.mem_of_getElem? (i := 9) rfl))) (g := (mkF m 90 #[.val (.int p1), .val (.int p2), .val (.int p3), .unset, .unset, .unset, .unset] [(.int (15 : Int32)), (.ref b1), (.ref b1)])) rfl (hb hby at_90)) ?_
  show Go p e below (T16.setTop (mkF m 92 #[.val (.int p1), .val (.int p2), .val (.int p3), .unset, .unset, .unset, .unset] [(.int (57343 : Int32)), (.int (15 : Int32)), (.ref b1), (.ref b1)])) _
  obtain ⟨cl17, Ar17, q17, S17, N17_, H17, G17⟩ := V16
  have hin17 : ¬ ((15 : Int32) < 0 ∨ cl17.slots.size ≤ ((15 : Int32)).toNatClampNeg) := inb_of S17 ⟨by decide, by decide⟩
  obtain ⟨T17, h17, X17, e17, W17, st17⟩ := stI X16 hx hZ e16 Ar17 (j := (15 : Int32)) hin17 (g := (mkF m 92 #[.val (.int p1), .val (.int p2), .val (.int p3), .unset, .unset, .unset, .unset] [(.int (57343 : Int32)), (.int (15 : Int32)), (.ref b1), (.ref b1)])) rfl rfl (hb hby at_92)
  have V17 : Arv Z h17 b1 k1 .int (16 : Int32) [(.int (8 : Int32)), (.int (9 : Int32)), (.int (10 : Int32)), (.int (11 : Int32)), (.int (13 : Int32)), (.int (32 : Int32)), (.int (55295 : Int32)), (.int (57344 : Int32)), (.int (65533 : Int32)), (.int (65535 : Int32)), (.int (65536 : Int32)), (.int (1114111 : Int32)), (.int (0 : Int32)), (.int (-2147483648 : Int32)), (.int (2147483647 : Int32)), (.int (57343 : Int32))] (.int (0 : Int32)) := Arv.set Ar17 q17 S17 N17_ H17 G17 rfl W17 15 rfl (Nat.le_of_ble_eq_true rfl)
  have N17 := Fr.snoc X17 N16 g_b1
  refine Go.st st17 ?_
  show Go p e below (T17.setTop (mkF m 93 #[.val (.int p1), .val (.int p2), .val (.int p3), .unset, .unset, .unset, .unset] [(.ref b1)])) _
  refine Go.st (fun _ k_ => XS.astoreN X17.here hx rfl (hb hby at_93) rfl rfl (l' := #[.val (.int p1), .val (.int p2), .val (.int p3), .val (.ref b1), .unset, .unset, .unset]) rfl k_) ?_
  show Go p e below (T17.setTop (mkF m 94 #[.val (.int p1), .val (.int p2), .val (.int p3), .val (.ref b1), .unset, .unset, .unset] [])) _
  refine Go.st (fun _ k_ => XS.aloadN X17.here hx rfl (hb hby at_94) rfl rfl k_) ?_
  show Go p e below (T17.setTop (mkF m 95 #[.val (.int p1), .val (.int p2), .val (.int p3), .val (.ref b1), .unset, .unset, .unset] [(.ref b1)])) _
  refine Go.st (fun _ k_ => XS.iloadN X17.here hx rfl (hb hby at_95) rfl k_) ?_
  show Go p e below (T17.setTop (mkF m 96 #[.val (.int p1), .val (.int p2), .val (.int p3), .val (.ref b1), .unset, .unset, .unset] [(.int p2), (.ref b1)])) _
  refine Go.st (fun _ k_ => XS.bipush X17.here hx rfl (hb hby at_96) k_) ?_
  show Go p e below (T17.setTop (mkF m 98 #[.val (.int p1), .val (.int p2), .val (.int p3), .val (.ref b1), .unset, .unset, .unset] [(.int (15 : Int32)), (.int p2), (.ref b1)])) _
  refine Go.st (fun _ k_ => XS.iand X17.here hx rfl (hb hby at_98) rfl k_) ?_
  show Go p e below (T17.setTop (mkF m 99 #[.val (.int p1), .val (.int p2), .val (.int p3), .val (.ref b1), .unset, .unset, .unset] [(.int (p2 &&& (15 : Int32))), (.ref b1)])) _
  obtain ⟨cl18, Ar18, q18, S18, N18_, H18, G18⟩ := V17
  have hi18 : ((p2 &&& (15 : Int32))).toNatClampNeg < cl18.slots.size := Nat.lt_of_not_le fun q_ => own_in (sel := p2) S18 (Or.inr q_)
  obtain ⟨yv, hyv⟩ := fit_I (G18 _ hi18) (Or.inl rfl)
  have hin18 : ¬ ((p2 &&& (15 : Int32)) < 0 ∨ cl18.slots.size ≤ ((p2 &&& (15 : Int32))).toNatClampNeg) := own_in S18
  have hat18 : cl18.slots[((p2 &&& (15 : Int32))).toNatClampNeg]? = some (.int yv) := by rw [H18 _ hi18, hyv]
  refine Go.st (X17.iaload hx (j := (p2 &&& (15 : Int32))) (v := (.int yv)) (by rw [e17]; exact Ar18.1) (State.isArrayOf_alike hZ.alike Ar18.2.1) Ar18.2.2 hin18 hat18 (g := (mkF m 99 #[.val (.int p1), .val (.int p2), .val (.int p3), .val (.ref b1), .unset, .unset, .unset] [(.int (p2 &&& (15 : Int32))), (.ref b1)])) rfl rfl (hb hby at_99)) ?_
  show Go p e below (T17.setTop (mkF m 100 #[.val (.int p1), .val (.int p2), .val (.int p3), .val (.ref b1), .unset, .unset, .unset] [(.int yv)])) _
  refine Go.st (fun _ k_ => XS.iloadN X17.here hx rfl (hb hby at_100) rfl k_) ?_
  show Go p e below (T17.setTop (mkF m 101 #[.val (.int p1), .val (.int p2), .val (.int p3), .val (.ref b1), .unset, .unset, .unset] [(.int p3), (.int yv)])) _
  refine Go.st (X17.ldcInt hx hown (mvT hZ (hw _ (List.mem_of_getElem? (i := 8) rfl))) (g := (mkF m 101 #[.val (.int p1), .val (.int p2), .val (.int p3), .val (.ref b1), .unset, .unset, .unset] [(.int p3), (.int yv)])) rfl (hb hby at_101)) ?_
  show Go p e below (T17.setTop (mkF m 103 #[.val (.int p1), .val (.int p2), .val (.int p3), .val (.ref b1), .unset, .unset, .unset] [(.int (2147483647 : Int32)), (.int p3), (.int yv)])) _
  refine Go.st (fun _ k_ => XS.iand X17.here hx rfl (hb hby at_103) rfl k_) ?_
  show Go p e below (T17.setTop (mkF m 104 #[.val (.int p1), .val (.int p2), .val (.int p3), .val (.ref b1), .unset, .unset, .unset] [(.int (p3 &&& (2147483647 : Int32))), (.int yv)])) _
  refine Go.st (fun _ k_ => XS.iconst X17.here hx rfl (hb hby at_104) k_) ?_
  show Go p e below (T17.setTop (mkF m 105 #[.val (.int p1), .val (.int p2), .val (.int p3), .val (.ref b1), .unset, .unset, .unset] [(.int (3 : Int32)), (.int (p3 &&& (2147483647 : Int32))), (.int yv)])) _
  refine Go.st (fun _ k_ => Jvm.RoadKit.iremM (g := (mkF m 105 #[.val (.int p1), .val (.int p2), .val (.int p3), .val (.ref b1), .unset, .unset, .unset] [(.int (3 : Int32)), (.int (p3 &&& (2147483647 : Int32))), (.int yv)])) X17 hx rfl (hb hby at_105) rfl (by decide) k_) ?_
  show Go p e below (T17.setTop (mkF m 106 #[.val (.int p1), .val (.int p2), .val (.int p3), .val (.ref b1), .unset, .unset, .unset] [(.int ((p3 &&& (2147483647 : Int32)) % (3 : Int32))), (.int yv)])) _
  refine Go.st (fun _ k_ => XS.iconst X17.here hx rfl (hb hby at_106) k_) ?_
  show Go p e below (T17.setTop (mkF m 107 #[.val (.int p1), .val (.int p2), .val (.int p3), .val (.ref b1), .unset, .unset, .unset] [(.int (1 : Int32)), (.int ((p3 &&& (2147483647 : Int32)) % (3 : Int32))), (.int yv)])) _
  refine Go.st (fun _ k_ => XS.isub X17.here hx rfl (hb hby at_107) rfl k_) ?_
  show Go p e below (T17.setTop (mkF m 108 #[.val (.int p1), .val (.int p2), .val (.int p3), .val (.ref b1), .unset, .unset, .unset] [(.int (((p3 &&& (2147483647 : Int32)) % (3 : Int32)) - (1 : Int32))), (.int yv)])) _
  refine Go.st (fun _ k_ => XS.iadd X17.here hx rfl (hb hby at_108) rfl k_) ?_
  show Go p e below (T17.setTop (mkF m 109 #[.val (.int p1), .val (.int p2), .val (.int p3), .val (.ref b1), .unset, .unset, .unset] [(.int (yv + (((p3 &&& (2147483647 : Int32)) % (3 : Int32)) - (1 : Int32))))])) _
  obtain ⟨yy, eyy⟩ : ∃ z_ : Int32, z_ = (yv + (((p3 &&& (2147483647 : Int32)) % (3 : Int32)) - (1 : Int32))) := ⟨_, rfl⟩
  rw [← eyy]
  show Go p e below (T17.setTop (mkF m 109 #[.val (.int p1), .val (.int p2), .val (.int p3), .val (.ref b1), .unset, .unset, .unset] [(.int yy)])) _
  refine Go.st (fun _ k_ => XS.istore X17.here hx rfl (hb hby at_109) rfl (l' := #[.val (.int p1), .val (.int p2), .val (.int p3), .val (.ref b1), .val (.int yy), .unset, .unset]) rfl k_) ?_
  show Go p e below (T17.setTop (mkF m 111 #[.val (.int p1), .val (.int p2), .val (.int p3), .val (.ref b1), .val (.int yy), .unset, .unset] [])) _
  refine Go.st (fun _ k_ => XS.iloadN X17.here hx rfl (hb hby at_111) rfl k_) ?_
  show Go p e below (T17.setTop (mkF m 112 #[.val (.int p1), .val (.int p2), .val (.int p3), .val (.ref b1), .val (.int yy), .unset, .unset] [(.int p1)])) _
  have gr20 := (Nat.le_trans (Nat.le_trans (Nat.le_trans (Nat.le_trans (Nat.le_trans (Nat.le_trans (Nat.le_trans (Nat.le_trans (Nat.le_trans (Nat.le_trans (Nat.le_trans (Nat.le_trans (Nat.le_trans (Nat.le_trans (Nat.le_trans (Nat.le_trans E1.1 (Keep.of_wr W2).1) (Keep.of_wr W3).1) (Keep.of_wr W4).1) (Keep.of_wr W5).1) (Keep.of_wr W6).1) (Keep.of_wr W7).1) (Keep.of_wr W8).1) (Keep.of_wr W9).1) (Keep.of_wr W10).1) (Keep.of_wr W11).1) (Keep.of_wr W12).1) (Keep.of_wr W13).1) (Keep.of_wr W14).1) (Keep.of_wr W15).1) (Keep.of_wr W16).1) (Keep.of_wr W17).1)
  obtain ⟨_, _, ⟨T19, L19, k19_, n19_⟩, -, X19, ⟨Lc19, hQ19, l19_, y19_, z19_⟩, st19⟩ := Jvm.LawKit.callS X17 hx (y := (⟨"com/example/tracewarden/tracewarden/xes/XmlScanner", "isXmlChar", "(I)Z"⟩ : MethodName)) hown (mvT hZ (hw _ (List.mem_of_getElem? (i := 10) rfl))) (mvT hZ (hw _ (List.mem_of_getElem? (i := 11) rfl))) (mvT hZ (hw _ (List.mem_of_getElem? (i := 12) rfl))) (mvT hZ (hw _ (List.mem_of_getElem? (i := 13) rfl))) (by decide) (backOf (W := 0) (rm1 l Z a0 hw [] p1 h17 n0 (Nat.le_trans Z0 gr20)) hZ (hw _ (List.mem_of_getElem? (i := 13) rfl)) (hw _ (List.mem_of_getElem? (i := 12) rfl)) (by decide) (by decide)) (g := (mkF m 112 #[.val (.int p1), .val (.int p2), .val (.int p3), .val (.ref b1), .val (.int yy), .unset, .unset] [(.int p1)])) rfl (by rw [hml]; rfl) (argsL := [(.int p1)]) (rest := []) (lenOf pd_0 rfl) rfl (by show 2 * 0 + _ ≤ _; exact Nat.le_of_eq rfl) (hb hby at_112) (fun _ _ => ⟨rfl, e17, (by decide : 1 + 0 ≤ _), (by decide : 16 + 0 ≤ _)⟩)
  dsimp only [Pt.U, Pt.locs, Pt.cells, Pt.slots] at X19 l19_ y19_ z19_ st19 hQ19
  subst l19_ y19_ z19_
  obtain ⟨rfl, N19q, e19⟩ := hQ19
  have N19 := Fr.app N17 N19q
  refine Go.st st19 ?_
  show Go p e below (T19.setTop (mkF m 115 #[.val (.int p1), .val (.int p2), .val (.int p3), .val (.ref b1), .val (.int yy), .unset, .unset] [(.int (own_x p1))])) _
  refine Go.st (fun _ k_ => XS.iloadN X19.here hx rfl (hb hby at_115) rfl k_) ?_
  show Go p e below (T19.setTop (mkF m 116 #[.val (.int p1), .val (.int p2), .val (.int p3), .val (.ref b1), .val (.int yy), .unset, .unset] [(.int p1), (.int (own_x p1))])) _
  obtain ⟨_, _, ⟨T21, L21, k21_, n21_⟩, -, X21, ⟨Lc21, hQ21, l21_, y21_, z21_⟩, st21⟩ := Jvm.LawKit.callS X19 hx (y := (⟨"com/example/tracewarden/tracewarden/xes/XmlScannerIsXmlCharPinLaw", "reference", "(I)Z"⟩ : MethodName)) hown (mvT hZ (hw _ (List.mem_of_getElem? (i := 16) rfl))) (mvT hZ (hw _ (List.mem_of_getElem? (i := 17) rfl))) (mvT hZ (hw _ (List.mem_of_getElem? (i := 18) rfl))) (mvT hZ (hw _ (List.mem_of_getElem? (i := 19) rfl))) (by decide) (backOf (W := 1) (rm2 l Z a0 hw [] p1 h17 n0 (Nat.le_trans Z0 gr20)) hZ (hw _ (List.mem_of_getElem? (i := 19) rfl)) (hw _ (List.mem_of_getElem? (i := 18) rfl)) (by decide) (by decide)) (g := (mkF m 116 #[.val (.int p1), .val (.int p2), .val (.int p3), .val (.ref b1), .val (.int yy), .unset, .unset] [(.int p1), (.int (own_x p1))])) rfl (by rw [hml]; rfl) (argsL := [(.int p1)]) (rest := [(.int (own_x p1))]) (lenOf pd_0 rfl) rfl (by show 2 * 0 + _ ≤ _; exact Nat.le_of_eq rfl) (hb hby at_116) (fun _ _ => ⟨rfl, e19, (by decide : 1 + 0 ≤ _), (by decide : 16 + 0 ≤ _)⟩)
  dsimp only [Pt.U, Pt.locs, Pt.cells, Pt.slots] at X21 l21_ y21_ z21_ st21 hQ21
  subst l21_ y21_ z21_
  obtain ⟨rfl, N21q, e21⟩ := hQ21
  have N21 := Fr.app N19 N21q
  refine Go.st st21 ?_
  show Go p e below (T21.setTop (mkF m 119 #[.val (.int p1), .val (.int p2), .val (.int p3), .val (.ref b1), .val (.int yy), .unset, .unset] [(.int (own_r p1)), (.int (own_x p1))])) _
  have hc119 : (own_x p1) = (own_r p1) := own_eq _
  refine Go.st (fun _ k_ => XS.icmpNo X21.here hx rfl (hb hby at_119) rfl (teq hc119).2 k_) ?_
  show Go p e below (T21.setTop (mkF m 122 #[.val (.int p1), .val (.int p2), .val (.int p3), .val (.ref b1), .val (.int yy), .unset, .unset] [])) _
  refine Go.st (fun _ k_ => XS.iconst X21.here hx rfl (hb hby at_122) k_) ?_
  show Go p e below (T21.setTop (mkF m 123 #[.val (.int p1), .val (.int p2), .val (.int p3), .val (.ref b1), .val (.int yy), .unset, .unset] [(.int (1 : Int32))])) _
  refine Go.st (fun _ k_ => XS.goto X21.here hx rfl (pc0 := 123) (pc' := 127) rfl (hb hby at_123) (by decide) (by decide) k_) ?_
  show Go p e below (T21.setTop (mkF m 127 #[.val (.int p1), .val (.int p2), .val (.int p3), .val (.ref b1), .val (.int yy), .unset, .unset] [(.int (1 : Int32))])) _
  refine Go.st (fun _ k_ => XS.istore X21.here hx rfl (hb hby at_127) rfl (l' := #[.val (.int p1), .val (.int p2), .val (.int p3), .val (.ref b1), .val (.int yy), .val (.int (1 : Int32)), .unset]) rfl k_) ?_
  show Go p e below (T21.setTop (mkF m 129 #[.val (.int p1), .val (.int p2), .val (.int p3), .val (.ref b1), .val (.int yy), .val (.int (1 : Int32)), .unset] [])) _
  refine Go.st (fun _ k_ => XS.iload X21.here hx rfl (hb hby at_129) rfl k_) ?_
  show Go p e below (T21.setTop (mkF m 131 #[.val (.int p1), .val (.int p2), .val (.int p3), .val (.ref b1), .val (.int yy), .val (.int (1 : Int32)), .unset] [(.int yy)])) _
  obtain ⟨_, _, ⟨T22, L22, k22_, n22_⟩, -, X22, ⟨Lc22, hQ22, l22_, y22_, z22_⟩, st22⟩ := Jvm.LawKit.callS X21 hx (y := (⟨"com/example/tracewarden/tracewarden/xes/XmlScanner", "isXmlChar", "(I)Z"⟩ : MethodName)) hown (mvT hZ (hw _ (List.mem_of_getElem? (i := 10) rfl))) (mvT hZ (hw _ (List.mem_of_getElem? (i := 11) rfl))) (mvT hZ (hw _ (List.mem_of_getElem? (i := 12) rfl))) (mvT hZ (hw _ (List.mem_of_getElem? (i := 13) rfl))) (by decide) (backOf (W := 0) (rm1 l Z a0 hw [] yy h17 n0 (Nat.le_trans Z0 gr20)) hZ (hw _ (List.mem_of_getElem? (i := 13) rfl)) (hw _ (List.mem_of_getElem? (i := 12) rfl)) (by decide) (by decide)) (g := (mkF m 131 #[.val (.int p1), .val (.int p2), .val (.int p3), .val (.ref b1), .val (.int yy), .val (.int (1 : Int32)), .unset] [(.int yy)])) rfl (by rw [hml]; rfl) (argsL := [(.int yy)]) (rest := []) (lenOf pd_0 rfl) rfl (by show 2 * 0 + _ ≤ _; exact Nat.le_of_eq rfl) (hb hby at_131) (fun _ _ => ⟨rfl, e21, (by decide : 1 + 0 ≤ _), (by decide : 16 + 0 ≤ _)⟩)
  dsimp only [Pt.U, Pt.locs, Pt.cells, Pt.slots] at X22 l22_ y22_ z22_ st22 hQ22
  subst l22_ y22_ z22_
  obtain ⟨rfl, N22q, e22⟩ := hQ22
  have N22 := Fr.app N21 N22q
  refine Go.st st22 ?_
  show Go p e below (T22.setTop (mkF m 134 #[.val (.int p1), .val (.int p2), .val (.int p3), .val (.ref b1), .val (.int yy), .val (.int (1 : Int32)), .unset] [(.int (own_x yy))])) _
  refine Go.st (fun _ k_ => XS.iload X22.here hx rfl (hb hby at_134) rfl k_) ?_
  show Go p e below (T22.setTop (mkF m 136 #[.val (.int p1), .val (.int p2), .val (.int p3), .val (.ref b1), .val (.int yy), .val (.int (1 : Int32)), .unset] [(.int yy), (.int (own_x yy))])) _
  obtain ⟨_, _, ⟨T23, L23, k23_, n23_⟩, -, X23, ⟨Lc23, hQ23, l23_, y23_, z23_⟩, st23⟩ := Jvm.LawKit.callS X22 hx (y := (⟨"com/example/tracewarden/tracewarden/xes/XmlScannerIsXmlCharPinLaw", "reference", "(I)Z"⟩ : MethodName)) hown (mvT hZ (hw _ (List.mem_of_getElem? (i := 16) rfl))) (mvT hZ (hw _ (List.mem_of_getElem? (i := 17) rfl))) (mvT hZ (hw _ (List.mem_of_getElem? (i := 18) rfl))) (mvT hZ (hw _ (List.mem_of_getElem? (i := 19) rfl))) (by decide) (backOf (W := 1) (rm2 l Z a0 hw [] yy h17 n0 (Nat.le_trans Z0 gr20)) hZ (hw _ (List.mem_of_getElem? (i := 19) rfl)) (hw _ (List.mem_of_getElem? (i := 18) rfl)) (by decide) (by decide)) (g := (mkF m 136 #[.val (.int p1), .val (.int p2), .val (.int p3), .val (.ref b1), .val (.int yy), .val (.int (1 : Int32)), .unset] [(.int yy), (.int (own_x yy))])) rfl (by rw [hml]; rfl) (argsL := [(.int yy)]) (rest := [(.int (own_x yy))]) (lenOf pd_0 rfl) rfl (by show 2 * 0 + _ ≤ _; exact Nat.le_of_eq rfl) (hb hby at_136) (fun _ _ => ⟨rfl, e22, (by decide : 1 + 0 ≤ _), (by decide : 16 + 0 ≤ _)⟩)
  dsimp only [Pt.U, Pt.locs, Pt.cells, Pt.slots] at X23 l23_ y23_ z23_ st23 hQ23
  subst l23_ y23_ z23_
  obtain ⟨rfl, N23q, e23⟩ := hQ23
  have N23 := Fr.app N22 N23q
  refine Go.st st23 ?_
  show Go p e below (T23.setTop (mkF m 139 #[.val (.int p1), .val (.int p2), .val (.int p3), .val (.ref b1), .val (.int yy), .val (.int (1 : Int32)), .unset] [(.int (own_r yy)), (.int (own_x yy))])) _
  have hc139 : (own_x yy) = (own_r yy) := own_eq _
  refine Go.st (fun _ k_ => XS.icmpNo X23.here hx rfl (hb hby at_139) rfl (teq hc139).2 k_) ?_
  show Go p e below (T23.setTop (mkF m 142 #[.val (.int p1), .val (.int p2), .val (.int p3), .val (.ref b1), .val (.int yy), .val (.int (1 : Int32)), .unset] [])) _
  refine Go.st (fun _ k_ => XS.iconst X23.here hx rfl (hb hby at_142) k_) ?_
  show Go p e below (T23.setTop (mkF m 143 #[.val (.int p1), .val (.int p2), .val (.int p3), .val (.ref b1), .val (.int yy), .val (.int (1 : Int32)), .unset] [(.int (1 : Int32))])) _
  refine Go.st (fun _ k_ => XS.goto X23.here hx rfl (pc0 := 143) (pc' := 147) rfl (hb hby at_143) (by decide) (by decide) k_) ?_
  show Go p e below (T23.setTop (mkF m 147 #[.val (.int p1), .val (.int p2), .val (.int p3), .val (.ref b1), .val (.int yy), .val (.int (1 : Int32)), .unset] [(.int (1 : Int32))])) _
  refine Go.st (fun _ k_ => XS.istore X23.here hx rfl (hb hby at_147) rfl (l' := #[.val (.int p1), .val (.int p2), .val (.int p3), .val (.ref b1), .val (.int yy), .val (.int (1 : Int32)), .val (.int (1 : Int32))]) rfl k_) ?_
  show Go p e below (T23.setTop (mkF m 149 #[.val (.int p1), .val (.int p2), .val (.int p3), .val (.ref b1), .val (.int yy), .val (.int (1 : Int32)), .val (.int (1 : Int32))] [])) _
  refine Go.st (fun _ k_ => XS.iload X23.here hx rfl (hb hby at_149) rfl k_) ?_
  show Go p e below (T23.setTop (mkF m 151 #[.val (.int p1), .val (.int p2), .val (.int p3), .val (.ref b1), .val (.int yy), .val (.int (1 : Int32)), .val (.int (1 : Int32))] [(.int (1 : Int32))])) _
  refine Go.st (fun _ k_ => XS.ifNo X23.here hx rfl (hb hby at_151) rfl ((if0 _ _).trans (feq (by decide : ¬ ((1 : Int32) = (0 : Int32)))).1) k_) ?_
  show Go p e below (T23.setTop (mkF m 154 #[.val (.int p1), .val (.int p2), .val (.int p3), .val (.ref b1), .val (.int yy), .val (.int (1 : Int32)), .val (.int (1 : Int32))] [])) _
  refine Go.st (fun _ k_ => XS.iload X23.here hx rfl (hb hby at_154) rfl k_) ?_
  show Go p e below (T23.setTop (mkF m 156 #[.val (.int p1), .val (.int p2), .val (.int p3), .val (.ref b1), .val (.int yy), .val (.int (1 : Int32)), .val (.int (1 : Int32))] [(.int (1 : Int32))])) _
  refine Go.st (fun _ k_ => XS.ifNo X23.here hx rfl (hb hby at_156) rfl ((if0 _ _).trans (feq (by decide : ¬ ((1 : Int32) = (0 : Int32)))).1) k_) ?_
  show Go p e below (T23.setTop (mkF m 159 #[.val (.int p1), .val (.int p2), .val (.int p3), .val (.ref b1), .val (.int yy), .val (.int (1 : Int32)), .val (.int (1 : Int32))] [])) _
  refine Go.st (fun _ k_ => XS.iconst X23.here hx rfl (hb hby at_159) k_) ?_
  show Go p e below (T23.setTop (mkF m 160 #[.val (.int p1), .val (.int p2), .val (.int p3), .val (.ref b1), .val (.int yy), .val (.int (1 : Int32)), .val (.int (1 : Int32))] [(.int (1 : Int32))])) _
  refine Go.st (fun _ k_ => XS.goto X23.here hx rfl (pc0 := 160) (pc' := 164) rfl (hb hby at_160) (by decide) (by decide) k_) ?_
  show Go p e below (T23.setTop (mkF m 164 #[.val (.int p1), .val (.int p2), .val (.int p3), .val (.ref b1), .val (.int yy), .val (.int (1 : Int32)), .val (.int (1 : Int32))] [(.int (1 : Int32))])) _
  refine Go.fin X23 (v := some (.int (1 : Int32))) (fun h_ => by rw [Bd.returns] at h_; cases h_) Bd.notSynchronized (fun _ hr => retN X23 hx (t := .boolean) Bd.returns (by simp) (hb hby at_164) hr) (fun U' hU hF => ⟨_, _, rfl, ?_, hF.1, hF.2.1, hF.2.2.mono (by decide) (by decide)⟩)
  exact ⟨(congrArg (fun z_ : Int32 => some (Value.int z_)) (show (1 : Int32) = (1 : Int32) from rfl)), N23⟩
set_option maxRecDepth 65536 in
set_option maxHeartbeats 40000000 in
theorem comes_1 {Post : Tables → Env → Array Value → State → Outcome → State → Prop} (hpost : ∀ tb e args s v u, (limb_1_1.after args s (.returned v) u = true ∧ limb_1_2.after args s (.returned v) u = true ∧ True) → FrameEnd s (.returned v) u (Jvm.fieldLocs frame_1_writes args s ++ Jvm.arrayLocs frame_1_arrays args s ++ Jvm.staticLocs frame_1_statics s) 16 128 → Post tb e args s (.returned v) u) :
    ArmFor flags0 classFile x code maxLocals ret World_1 tables_1 room_1 Calls_1 rest_1 Pre_1 Post := by
  intro l hfl _ _ p e ha hc hk s m args below hf hA hF happ hP
  obtain ⟨hcalls, hrest, hpre⟩ := hP
  obtain ⟨-, -, -, hnamed, -, -, -, hat⟩ := (Spec.applies_iff hf).mp happ
  obtain ⟨hg, hn⟩ := and_e (Cond.before_iff.mp (show (Jvm.Cond.and given_1 narrow_1).before args s = true from hpre))
  obtain ⟨g1, g2⟩ := and_e hg
  obtain ⟨g3, g4⟩ := and_e g2
  obtain ⟨g5, g6⟩ := and_e g4
  obtain ⟨w0, w1, w2, rfl⟩ : ∃ w0 w1 w2 : Value, args = #[w0, w1, w2] := by
    have hs : args.size = 3 := by simpa [Cond.value, given_1] using g1
    obtain ⟨L⟩ := args
    match L, hs with
    | [w0, w1, w2], _ => exact ⟨w0, w1, w2, rfl⟩
  have hw := fun d (hd : d ∈ tables_1) => atoms_spec (ws := Jvm.Cond.code x code maxLocals ret :: tables_1) hat d (List.mem_cons_of_mem _ hd)
  have hfit : Fit s := fun {y c} hc i hi => by
    obtain ⟨ha, rfl⟩ := Array.getElem?_eq_some_iff.mp hc
    have q := List.all_eq_true.mp ((Array.all_eq_true_iff_forall_mem.mp hF) _ (Array.getElem_mem ha)) i (List.mem_range.mpr hi)
    simpa [Array.getElem?_eq_getElem hi] using q
  obtain ⟨i0, ei0⟩ := is_v g3
  obtain rfl : w0 = (.int i0) := Option.some.inj ei0
  obtain ⟨i1, ei1⟩ := is_v g5
  obtain rfl : w1 = (.int i1) := Option.some.inj ei1
  obtain ⟨i2, ei2⟩ := is_v g6
  obtain rfl : w2 = (.int i2) := Option.some.inj ei2
  obtain ⟨n, o, h1, h2, h3, _, L, rfl, ⟨rfl, N⟩, hq⟩ := rm0 l s _ hw tables_1 i0 i1 i2 s.heap s.heap.size (Nat.le_refl _) p e ha hc hk s m _ below hf ((Spec.applies_iff_loose hf).mp happ).1 ⟨rfl, State.Warmed39.refl s, rfl⟩ trivial
  refine ⟨n, _, h1, h2, h3, hpost _ _ _ _ _ _ ⟨Cond.after_iff.mpr rfl, Cond.after_iff.mpr (eq_i res_at (Term.int_eval (1)) rfl), trivial⟩ ⟨hq.1, hq.2.1, (hq.2.2.sift fun y hy => Or.inr (N y hy)).mono (by decide) (by decide)⟩⟩
theorem main_1_1 : Claimed_1_1 := comes_1 fun _ _ _ _ _ _ h hF => ⟨h.1, hF⟩
theorem main_1_2 : Claimed_1_2 := comes_1 fun _ _ _ _ _ _ h hF => ⟨h.2.1, hF⟩
end Jvm.Pilot.@@N@@
namespace Jvm.Pilot.@@N@@
open Jvm Jvm.ClassFile Sem Op Lib Jvm.Free Jvm.Stand Jvm.Pilot.@@N@@.Jvm.D
/-! MADE BY PROGRAM (witnessworld.py) out of the Statement's table words and the real class files: 9 classes; the members and pool entries that the words name. The judged class is class 1, her method 2. -/
namespace start1
open Jvm.ClassFile
def u (s : String) : CpInfo := .utf8 (stringToUtf16 s)
/-- a pool by its gaps: so many unusable entries, then the entry; so many at the end -/
def gap : Nat → List CpInfo → List CpInfo
  | 0, r => r
  | n + 1, r => .unusable :: gap n r
def poolList (es : List (Nat × CpInfo)) (last : Nat) : List CpInfo := es.foldr (fun e r => gap e.1 (e.2 :: r)) (gap last [])
def pool (es : List (Nat × CpInfo)) (last : Nat) : Array CpInfo := ⟨poolList es last⟩
def fileOf (pool : Array CpInfo) (this : Nat) (attrs : Array Attribute := #[]) (ms : Array MethodInfo := #[]) (fl : Nat := 33) (sup : Nat := 0) (ifs : Array Nat := #[]) (fds : Array FieldInfo := #[]) : ClassFile where
  minorVersion := 0
  majorVersion := 65
  constantPool := pool
  accessFlags := fl
  thisClass := this
  superClass := sup
  interfaces := ifs
  fields := fds
  methods := ms
  attributes := attrs
def plain (name : String) (sup : Option ClassId) : Class where
  name := name
  kind := .ordinary
  loader := none
  accessFlags := 33
  super := sup
  interfaces := #[]
  cf := none
  fields := #[]
  methods := #[]
  instanceTypes := #[]
  staticTypes := #[]
  resolved := #[]
  callSites := []
  init := .initialized
  statics := none
  mirror := none

def pool0 : Array CpInfo := pool [(5, u "<init>"), (0, u "()V"), (1, .class_ 10), (1, u "java/lang/Object")] 113

def k0m0 : Method := { name := "<init>", desc := "()V", sig := { parameters := [], returnType := none }, accessFlags := 1, code := none }
/-- java/lang/Object -/
def k0 : Class := { plain "java/lang/Object" none with
  accessFlags := 33
  interfaces := #[]
  cf := some (fileOf pool0 8 #[] #[{ accessFlags := 1, nameIndex := 5, descriptorIndex := 6, attributes := #[] }] 33 0 #[] #[])
  fields := #[]
  methods := #[k0m0]
  instanceTypes := #[]
  staticTypes := #[]
  resolved := Array.replicate 124 none
  statics := none }

def pool1 : Array CpInfo := pool [(2, .class_ 4), (1, u "java/lang/Object"), (0, u "<init>"), (0, u "()V"), (0, .integer 65536), (0, .integer 55296), (0, .integer 57343), (0, .integer 65534), (0, .integer 1114111), (0, .integer 55295), (0, .integer 57344), (0, .integer 65533), (0, .integer 65535), (2, .integer 2147483648), (0, .integer 2147483647), (0, .methodref 21 22), (0, .class_ 23), (0, .nameAndType 24 25), (0, u "com/example/tracewarden/tracewarden/xes/XmlScanner"), (0, u "isXmlChar"), (0, u "(I)Z"), (0, .methodref 27 28), (0, .class_ 29), (0, .nameAndType 30 25), (0, u "com/example/tracewarden/tracewarden/xes/XmlScannerIsXmlCharPinLaw"), (0, u "reference"), (3, u "law"), (0, u "(III)Z")] 4

def k1m0 : Method := { name := "<init>", desc := "()V", sig := { parameters := [], returnType := none }, accessFlags := 2, code := none }
def k1c1 : Code := { maxStack := 2, maxLocals := 1, code := method_2_code, exceptionTable := #[], attributes := #[] }
def k1m1 : Method := { name := "reference", desc := "(I)Z", sig := { parameters := [.int], returnType := some .boolean }, accessFlags := 10, code := some k1c1 }
def k1c2 : Code := { maxStack := 4, maxLocals := 7, code := code, exceptionTable := #[], attributes := #[] }
def k1m2 : Method := { name := "law", desc := "(III)Z", sig := { parameters := [.int, .int, .int], returnType := some .boolean }, accessFlags := 9, code := some k1c2 }
/-- com/example/tracewarden/tracewarden/xes/XmlScannerIsXmlCharPinLaw -/
def k1 : Class := { plain "com/example/tracewarden/tracewarden/xes/XmlScannerIsXmlCharPinLaw" (some 0) with
  accessFlags := 49
  interfaces := #[]
  cf := some (fileOf pool1 27 #[] #[{ accessFlags := 2, nameIndex := 5, descriptorIndex := 6, attributes := #[] }, { accessFlags := 10, nameIndex := 30, descriptorIndex := 25, attributes := #[] }, { accessFlags := 9, nameIndex := 34, descriptorIndex := 35, attributes := #[] }] 49 2 #[] #[])
  fields := #[]
  methods := #[k1m0, k1m1, k1m2]
  instanceTypes := #[]
  staticTypes := #[]
  resolved := Array.replicate 40 none
  statics := none }

def pool2 : Array CpInfo := pool [(2, .class_ 4), (1, u "java/lang/Object"), (2, .class_ 8), (0, u "com/example/tracewarden/tracewarden/xes/XmlScanner"), (2, u "buffer"), (0, u "[C"), (2, u "line"), (0, u "I"), (2, u "name"), (2, u "tagName"), (4, u "tagNamespace"), (0, u "Ljava/lang/String;"), (2, u "attributeText"), (2, u "attributeBounds"), (0, u "[I"), (4, u "attributeNamespaces"), (0, u "[Ljava/lang/String;"), (2, u "openNames"), (2, u "openStarts"), (2, u "openBindings"), (2, u "prefixes"), (2, u "namespaces"), (2, u "file"), (0, u "Ljava/nio/file/Path;"), (2, u "text"), (0, u "Ljava/io/Reader;"), (0, .integer 55295), (0, .integer 57344), (0, .integer 65533), (0, .integer 65536), (0, .integer 1114111), (3, u "(I)Z"), (8, u "position"), (16, u "VERSION"), (0, u "Ljava/util/regex/Pattern;"), (22, u "ENCODING"), (22, u "emptyTag"), (0, u "Z"), (4, .class_ 154), (1, u "com/example/tracewarden/tracewarden/xes/XmlScanner$Tag"), (7, u "rootEnded"), (2, u "limit"), (4, u "depth"), (24, u "tagColon"), (2, u "tagNameLength"), (44, u "nameLength"), (2, u "attributeCount"), (2, u "attributeTextLength"), (14, u "rootStarted"), (34, u "bindings"), (111, u "doctypeRead"), (35, u "PREDEFINED"), (25, u "isXmlChar"), (27, u "nameColon"), (2, u "ASCII_NAME_START"), (0, u "[Z"), (2, u "ASCII_NAME"), (15, u "NAME_RANGES"), (13, u "endOfText"), (23, u "NAME_START_RANGES"), (53, u "XML_NAMESPACE"), (1, u "XMLNS_NAMESPACE"), (0, u "ASCII"), (1, u "PAIRWISE_ATTRIBUTES"), (1, u "BUFFER_SIZE")] 98

def k2c0 : Code := { maxStack := 2, maxLocals := 1, code := prog_214_method_2_code, exceptionTable := #[], attributes := #[] }
def k2m0 : Method := { name := "isXmlChar", desc := "(I)Z", sig := { parameters := [.int], returnType := some .boolean }, accessFlags := 8, code := some k2c0 }
/-- com/example/tracewarden/tracewarden/xes/XmlScanner -/
def k2 : Class := { plain "com/example/tracewarden/tracewarden/xes/XmlScanner" (some 0) with
  accessFlags := 48
  interfaces := #[]
  cf := some (fileOf pool2 7 #[.nestMembers #[152]] #[{ accessFlags := 8, nameIndex := 473, descriptorIndex := 73, attributes := #[] }] 48 2 #[] #[{ accessFlags := 26, nameIndex := 616, descriptorIndex := 28, attributes := #[] }, { accessFlags := 26, nameIndex := 618, descriptorIndex := 28, attributes := #[] }, { accessFlags := 26, nameIndex := 99, descriptorIndex := 100, attributes := #[] }, { accessFlags := 26, nameIndex := 123, descriptorIndex := 100, attributes := #[] }, { accessFlags := 26, nameIndex := 447, descriptorIndex := 41, attributes := #[] }, { accessFlags := 26, nameIndex := 562, descriptorIndex := 35, attributes := #[] }, { accessFlags := 26, nameIndex := 524, descriptorIndex := 35, attributes := #[] }, { accessFlags := 26, nameIndex := 619, descriptorIndex := 16, attributes := #[] }, { accessFlags := 26, nameIndex := 504, descriptorIndex := 505, attributes := #[] }, { accessFlags := 26, nameIndex := 508, descriptorIndex := 505, attributes := #[] }, { accessFlags := 26, nameIndex := 621, descriptorIndex := 16, attributes := #[] }, { accessFlags := 26, nameIndex := 623, descriptorIndex := 16, attributes := #[] }, { accessFlags := 18, nameIndex := 59, descriptorIndex := 60, attributes := #[] }, { accessFlags := 18, nameIndex := 63, descriptorIndex := 64, attributes := #[] }, { accessFlags := 18, nameIndex := 11, descriptorIndex := 12, attributes := #[] }, { accessFlags := 2, nameIndex := 82, descriptorIndex := 16, attributes := #[] }, { accessFlags := 2, nameIndex := 165, descriptorIndex := 16, attributes := #[] }, { accessFlags := 2, nameIndex := 538, descriptorIndex := 147, attributes := #[] }, { accessFlags := 2, nameIndex := 15, descriptorIndex := 16, attributes := #[] }, { accessFlags := 2, nameIndex := 19, descriptorIndex := 12, attributes := #[] }, { accessFlags := 2, nameIndex := 243, descriptorIndex := 16, attributes := #[] }, { accessFlags := 2, nameIndex := 501, descriptorIndex := 16, attributes := #[] }, { accessFlags := 2, nameIndex := 22, descriptorIndex := 12, attributes := #[] }, { accessFlags := 2, nameIndex := 198, descriptorIndex := 16, attributes := #[] }, { accessFlags := 2, nameIndex := 195, descriptorIndex := 16, attributes := #[] }, { accessFlags := 2, nameIndex := 27, descriptorIndex := 28, attributes := #[] }, { accessFlags := 2, nameIndex := 31, descriptorIndex := 12, attributes := #[] }, { accessFlags := 2, nameIndex := 249, descriptorIndex := 16, attributes := #[] }, { accessFlags := 2, nameIndex := 34, descriptorIndex := 35, attributes := #[] }, { accessFlags := 2, nameIndex := 246, descriptorIndex := 16, attributes := #[] }, { accessFlags := 2, nameIndex := 40, descriptorIndex := 41, attributes := #[] }, { accessFlags := 2, nameIndex := 146, descriptorIndex := 147, attributes := #[] }, { accessFlags := 2, nameIndex := 44, descriptorIndex := 12, attributes := #[] }, { accessFlags := 2, nameIndex := 47, descriptorIndex := 35, attributes := #[] }, { accessFlags := 2, nameIndex := 50, descriptorIndex := 35, attributes := #[] }, { accessFlags := 2, nameIndex := 170, descriptorIndex := 16, attributes := #[] }, { accessFlags := 2, nameIndex := 53, descriptorIndex := 41, attributes := #[] }, { accessFlags := 2, nameIndex := 56, descriptorIndex := 41, attributes := #[] }, { accessFlags := 2, nameIndex := 299, descriptorIndex := 16, attributes := #[] }, { accessFlags := 2, nameIndex := 264, descriptorIndex := 147, attributes := #[] }, { accessFlags := 2, nameIndex := 162, descriptorIndex := 147, attributes := #[] }, { accessFlags := 2, nameIndex := 411, descriptorIndex := 147, attributes := #[] }])
  fields := #[{ name := "XML_NAMESPACE", type := (.object "java/lang/String"), accessFlags := 26, slot := 0, constantValue := 0 }, { name := "XMLNS_NAMESPACE", type := (.object "java/lang/String"), accessFlags := 26, slot := 1, constantValue := 0 }, { name := "VERSION", type := (.object "java/util/regex/Pattern"), accessFlags := 26, slot := 2, constantValue := 0 }, { name := "ENCODING", type := (.object "java/util/regex/Pattern"), accessFlags := 26, slot := 3, constantValue := 0 }, { name := "PREDEFINED", type := (.array (.object "java/lang/String")), accessFlags := 26, slot := 4, constantValue := 0 }, { name := "NAME_START_RANGES", type := (.array .int), accessFlags := 26, slot := 5, constantValue := 0 }, { name := "NAME_RANGES", type := (.array .int), accessFlags := 26, slot := 6, constantValue := 0 }, { name := "ASCII", type := .int, accessFlags := 26, slot := 7, constantValue := 0 }, { name := "ASCII_NAME_START", type := (.array .boolean), accessFlags := 26, slot := 8, constantValue := 0 }, { name := "ASCII_NAME", type := (.array .boolean), accessFlags := 26, slot := 9, constantValue := 0 }, { name := "PAIRWISE_ATTRIBUTES", type := .int, accessFlags := 26, slot := 10, constantValue := 0 }, { name := "BUFFER_SIZE", type := .int, accessFlags := 26, slot := 11, constantValue := 0 }, { name := "file", type := (.object "java/nio/file/Path"), accessFlags := 18, slot := 0, constantValue := 0 }, { name := "text", type := (.object "java/io/Reader"), accessFlags := 18, slot := 1, constantValue := 0 }, { name := "buffer", type := (.array .char), accessFlags := 18, slot := 2, constantValue := 0 }, { name := "position", type := .int, accessFlags := 2, slot := 3, constantValue := 0 }, { name := "limit", type := .int, accessFlags := 2, slot := 4, constantValue := 0 }, { name := "endOfText", type := .boolean, accessFlags := 2, slot := 5, constantValue := 0 }, { name := "line", type := .int, accessFlags := 2, slot := 6, constantValue := 0 }, { name := "name", type := (.array .char), accessFlags := 2, slot := 7, constantValue := 0 }, { name := "nameLength", type := .int, accessFlags := 2, slot := 8, constantValue := 0 }, { name := "nameColon", type := .int, accessFlags := 2, slot := 9, constantValue := 0 }, { name := "tagName", type := (.array .char), accessFlags := 2, slot := 10, constantValue := 0 }, { name := "tagNameLength", type := .int, accessFlags := 2, slot := 11, constantValue := 0 }, { name := "tagColon", type := .int, accessFlags := 2, slot := 12, constantValue := 0 }, { name := "tagNamespace", type := (.object "java/lang/String"), accessFlags := 2, slot := 13, constantValue := 0 }, { name := "attributeText", type := (.array .char), accessFlags := 2, slot := 14, constantValue := 0 }, { name := "attributeTextLength", type := .int, accessFlags := 2, slot := 15, constantValue := 0 }, { name := "attributeBounds", type := (.array .int), accessFlags := 2, slot := 16, constantValue := 0 }, { name := "attributeCount", type := .int, accessFlags := 2, slot := 17, constantValue := 0 }, { name := "attributeNamespaces", type := (.array (.object "java/lang/String")), accessFlags := 2, slot := 18, constantValue := 0 }, { name := "emptyTag", type := .boolean, accessFlags := 2, slot := 19, constantValue := 0 }, { name := "openNames", type := (.array .char), accessFlags := 2, slot := 20, constantValue := 0 }, { name := "openStarts", type := (.array .int), accessFlags := 2, slot := 21, constantValue := 0 }, { name := "openBindings", type := (.array .int), accessFlags := 2, slot := 22, constantValue := 0 }, { name := "depth", type := .int, accessFlags := 2, slot := 23, constantValue := 0 }, { name := "prefixes", type := (.array (.object "java/lang/String")), accessFlags := 2, slot := 24, constantValue := 0 }, { name := "namespaces", type := (.array (.object "java/lang/String")), accessFlags := 2, slot := 25, constantValue := 0 }, { name := "bindings", type := .int, accessFlags := 2, slot := 26, constantValue := 0 }, { name := "rootStarted", type := .boolean, accessFlags := 2, slot := 27, constantValue := 0 }, { name := "rootEnded", type := .boolean, accessFlags := 2, slot := 28, constantValue := 0 }, { name := "doctypeRead", type := .boolean, accessFlags := 2, slot := 29, constantValue := 0 }]
  methods := #[k2m0]
  instanceTypes := #[(.object "java/nio/file/Path"), (.object "java/io/Reader"), (.array .char), .int, .int, .boolean, .int, (.array .char), .int, .int, (.array .char), .int, .int, (.object "java/lang/String"), (.array .char), .int, (.array .int), .int, (.array (.object "java/lang/String")), .boolean, (.array .char), (.array .int), (.array .int), .int, (.array (.object "java/lang/String")), (.array (.object "java/lang/String")), .int, .boolean, .boolean, .boolean]
  staticTypes := #[(.object "java/lang/String"), (.object "java/lang/String"), (.object "java/util/regex/Pattern"), (.object "java/util/regex/Pattern"), (.array (.object "java/lang/String")), (.array .int), (.array .int), .int, (.array .boolean), (.array .boolean), .int, .int]
  resolved := Array.replicate 722 none
  statics := none }

def pool3 : Array CpInfo := pool [(1, u "java/lang/Cloneable"), (0, .class_ 1), (0, u "java/lang/Object"), (0, .class_ 3)] 3

/-- java/lang/Cloneable -/
def k3 : Class := { plain "java/lang/Cloneable" (some 0) with
  accessFlags := 1537
  interfaces := #[]
  cf := some (fileOf pool3 2 #[] #[] 1537 4 #[] #[])
  fields := #[]
  methods := #[]
  instanceTypes := #[]
  staticTypes := #[]
  resolved := Array.replicate 8 none
  statics := none }

def pool4 : Array CpInfo := pool [(1, u "java/io/Serializable"), (0, .class_ 1), (0, u "java/lang/Object"), (0, .class_ 3)] 3

/-- java/io/Serializable -/
def k4 : Class := { plain "java/io/Serializable" (some 0) with
  accessFlags := 1537
  interfaces := #[]
  cf := some (fileOf pool4 2 #[] #[] 1537 4 #[] #[])
  fields := #[]
  methods := #[]
  instanceTypes := #[]
  staticTypes := #[]
  resolved := Array.replicate 8 none
  statics := none }

/-- the primitive byte -/
def k5 : Class := { plain "byte" none with kind := .primitive 'B', accessFlags := 0x411 }
/-- [B -/
def k6 : Class := { plain "[B" (some 0) with kind := .array 5 .byte, interfaces := #[3, 4], accessFlags := 1041 }

/-- the primitive int -/
def k7 : Class := { plain "int" none with kind := .primitive 'I', accessFlags := 0x411 }
/-- [I -/
def k8 : Class := { plain "[I" (some 0) with kind := .array 7 .int, interfaces := #[3, 4], accessFlags := 1041 }

def heap : Heap := #[]
def classes : Array Class := #[k0, k1, k2, k3, k4, k5, k6, k7, k8]
def interned : List (Array UInt16 × Addr) := []
def slotsUsed : Nat := 0
def theMethod : MethodId := ⟨1, 2⟩
def args0 : Array Value := #[.int 5, .int 7, .int 3]
def aboutOver (below : List Frame) : State where
  vm := { classes := classes, interned := interned.toArray }
  heap := heap
  slotsUsed := slotsUsed
  threads := #[{ frames := .invoking theMethod args0 :: below }]
def below0 : List Frame := [.native { method := ⟨0, 0⟩, args := #[] }]
def about1 : State := aboutOver below0
def p0 : Program := .bare "" "" ""
def e0 : Env := launch0.env 0 0 0
theorem w_frames : about1.frames = Frame.invoking theMethod args0 :: below0 := rfl
set_option maxRecDepth 65536 in
theorem w_args : argsFit about1.vm theMethod args0 = true := by decide +kernel
set_option maxRecDepth 65536 in
theorem w_heap : heapFits about1 = true := by decide +kernel
set_option maxRecDepth 65536 in
theorem w_runnable : about1.curStatus? = some .runnable := by decide +kernel
set_option maxRecDepth 65536 in
theorem w_alone : about1.alone = true := by decide +kernel
set_option maxRecDepth 65536 in
theorem w_named : about1.methodNamed? x = some theMethod := by decide +kernel
set_option maxRecDepth 65536 in
theorem w_hears : about1.hears theMethod below0 = true := by decide +kernel
set_option maxRecDepth 65536 in
theorem w_ripe : about1.ripe theMethod args0 below0 = true := by decide +kernel
theorem w_running : about1.status = .running := rfl
set_option maxRecDepth 65536 in
theorem w_room : about1.hasRoom e0.platform room_1 = true :=
  launch0.hasRoom_least _ room_1 (by decide +kernel) (by decide +kernel) (by decide +kernel) (by decide +kernel) (by decide +kernel) (by decide +kernel)
theorem allAtoms_all (ts : List Jvm.Cond) (a : Array Jvm.Value) (st : Jvm.State) : (allAtoms ts).before a st = ts.all (fun c => c.before a st) := by
  induction ts with
  | nil => rfl
  | cons c t ih =>
    show (Jvm.Cond.and c (allAtoms t)).before a st = _
    rw [Jvm.Cond.before_and, ih, List.all_cons]
def words1 : List Jvm.Cond := Jvm.Cond.code x code maxLocals ret :: tables_1
/-- a 'code' word, met by the world's own term for the bytes: nothing is compared byte by byte -/
theorem code_word {y : MethodName} {bytes : ByteArray} {mx : Nat} {rt : Option FieldType} {a : Array Value} {s : State} {m : MethodId} {meth : Method} {c : Code} (h1 : s.methodNamed? y = some m) (h2 : s.vm.method? m = some meth) (h3 : meth.code = some c) (h4 : c.code = bytes)
    (h5 : (c.maxLocals == mx && c.exceptionTable.isEmpty && decide (c.maxStack ≤ mostOperands) && decide (meth.sig.returnType = rt) && !meth.locks && decide (parseMethodDescriptor y.desc = some meth.sig)) = true) : (Jvm.Cond.code y bytes mx rt).before a s = true := by
  simp only [Bool.and_eq_true, beq_iff_eq, Bool.not_eq_true', decide_eq_true_eq] at h5
  obtain ⟨⟨⟨⟨⟨g1, g2⟩, g3⟩, g4⟩, g5⟩, g6⟩ := h5
  simp [Cond.before, Cond.holds, Cond.value, h1, h2, h3, h4, g1, g2, g3, g4, g5, g6]
def isCode : Jvm.Cond → Bool
  | .code _ _ _ _ => true
  | _ => false
theorem all_split {L : List Jvm.Cond} {P : Jvm.Cond → Bool} (h1 : L.all (fun c => isCode c || P c) = true) (h2 : ∀ c ∈ L.filter isCode, P c = true) : L.all P = true := by
  refine List.all_eq_true.mpr fun c hc => ?_
  have h := List.all_eq_true.mp h1 c hc
  rcases Bool.eq_false_or_eq_true (isCode c) with hi | hi
  · exact h2 c (List.mem_filter.mpr ⟨hc, hi⟩)
  · simpa [hi] using h
set_option maxRecDepth 65536 in
theorem w_c0 : (Jvm.Cond.code x code maxLocals ret).before args0 about1 = true := code_word (m := ⟨1, 2⟩) (meth := k1m2) (c := k1c2) (by decide +kernel) rfl rfl rfl (by decide +kernel)
set_option maxRecDepth 65536 in
theorem w_c1 : (Jvm.Cond.code ({ cls := "com/example/tracewarden/tracewarden/xes/XmlScanner", name := "isXmlChar", desc := "(I)Z" } : Jvm.MethodName) prog_214_method_2_code (1 : Nat) (Option.some Jvm.ClassFile.FieldType.boolean)).before args0 about1 = true := code_word (m := ⟨2, 0⟩) (meth := k2m0) (c := k2c0) (by decide +kernel) rfl rfl rfl (by decide +kernel)
set_option maxRecDepth 65536 in
theorem w_c2 : (Jvm.Cond.code ({ cls := "com/example/tracewarden/tracewarden/xes/XmlScannerIsXmlCharPinLaw", name := "reference", desc := "(I)Z" } : Jvm.MethodName) method_2_code (1 : Nat) (Option.some Jvm.ClassFile.FieldType.boolean)).before args0 about1 = true := code_word (m := ⟨1, 1⟩) (meth := k1m1) (c := k1c1) (by decide +kernel) rfl rfl rfl (by decide +kernel)
def codes1 : List Jvm.Cond := [Jvm.Cond.code x code maxLocals ret, Jvm.Cond.code ({ cls := "com/example/tracewarden/tracewarden/xes/XmlScanner", name := "isXmlChar", desc := "(I)Z" } : Jvm.MethodName) prog_214_method_2_code (1 : Nat) (Option.some Jvm.ClassFile.FieldType.boolean), Jvm.Cond.code ({ cls := "com/example/tracewarden/tracewarden/xes/XmlScannerIsXmlCharPinLaw", name := "reference", desc := "(I)Z" } : Jvm.MethodName) method_2_code (1 : Nat) (Option.some Jvm.ClassFile.FieldType.boolean)]
set_option maxRecDepth 65536 in
theorem codes_eq : words1.filter isCode = codes1 := rfl
theorem w_codes : ∀ c ∈ words1.filter isCode, c.before args0 about1 = true := by
  rw [codes_eq]
  intro c hc
  simp only [codes1, List.mem_cons, List.not_mem_nil, or_false] at hc
  rcases hc with rfl | rfl | rfl
  · exact w_c0
  · exact w_c1
  · exact w_c2
set_option maxRecDepth 65536 in
theorem w_t1 : (words1.take 24).all (fun c => isCode c || c.before args0 about1) = true := by decide +kernel
set_option maxRecDepth 65536 in
theorem w_t2 : (words1.drop 24).all (fun c => isCode c || c.before args0 about1) = true := by decide +kernel
theorem w_tables : (allAtoms (Jvm.Cond.code x code maxLocals ret :: tables_1)).before args0 about1 = true := by
  rw [allAtoms_all]
  show words1.all (fun c => c.before args0 about1) = true
  refine all_split ?_ w_codes
  rw [← List.take_append_drop 24 words1, List.all_append, w_t1, w_t2]
  rfl
set_option maxRecDepth 65536 in
theorem w_case : (Jvm.Cond.and given_1 narrow_1).before args0 about1 = true := by decide +kernel
theorem w_applies : (headSpec (Jvm.Cond.code x code maxLocals ret :: tables_1) room_1).applies x e0.platform about1 = true :=
  (Spec.applies_iff w_frames).mpr ⟨w_running, w_runnable, w_alone, w_named, w_hears, w_ripe, w_room, w_tables⟩
theorem atStart : AtStart classFile x code maxLocals ret World_1 tables_1 room_1 Calls_1 rest_1 Pre_1 launch0 p0 e0 about1 theMethod args0 below0 :=
  ⟨lists_1, trivial, launch0.admits_env _ _ _, launch0.least_env, fairChoices_fair.cas, fairChoices_fair.clock, w_frames, w_args, w_heap, w_applies, trivial, trivial, w_case⟩
end start1
theorem witness_1 : WitnessClaimed_1 := ⟨start1.p0, start1.e0, start1.about1, start1.theMethod, start1.args0, start1.below0, start1.atStart⟩
end Jvm.Pilot.@@N@@
