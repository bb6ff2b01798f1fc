import JvmDerived
import JvmDerived.Pilot.@@N@@Statement
import JvmDerived.Pilot.@@N@@Code
set_option linter.unusedVariables false
set_option linter.unusedSimpArgs false
@@BLOCK:NumsL.lean.txt@@
namespace Jvm.RoadKit
open Sem ClassFile Op Lib Jvm.Stand Jvm.Free Jvm.LawKit
section Own
variable {p : Program} {l : Launch} {e : Env} {R : Room} {s : State} {m : MethodId} {args : Array Value} {below : List Frame} {meth : Method} {c : Code} {T : State} {locs : List Loc} {cells slots : Nat}
/-- from U the run ends, and P is said of the end -/
def Go (p : Program) (e : Env) (below : List Frame) (U : State) (P : Outcome → State → Prop) : Prop := ∃ s₂ o, Steps p.tables e below U s₂ ∧ s₂.status = .running ∧ Ended s₂ below o ∧ P o s₂
theorem Go.st {U U' : State} {P : Outcome → State → Prop} (k : ∀ t, Steps p.tables e below U' t → Steps p.tables e below U t) (g : Go p e below U' P) : Go p e below U P := by
  obtain ⟨t, o, a, r⟩ := g
  exact ⟨t, o, k t a, r⟩
theorem Go.tr {U U' : State} {P : Outcome → State → Prop} (k : Steps p.tables e below U U') (g : Go p e below U' P) : Go p e below U P := by
  obtain ⟨t, o, a, r⟩ := g
  exact ⟨t, o, k.trans a, r⟩
theorem Go.fin (X : Stand p l e R s m args below meth c T locs cells slots) {v : Option Value} (hv : meth.sig.returnType = none → v = none) (hlocks : meth.locks = false) {U : State} {P : Outcome → State → Prop}
    (st : ∀ fs, (∀ (f : JFrame) (acts : List Action), f.method = m → f.locked = none → f.entered = [] → (doReturn e (T.setTop f) acts v).1 = T.setFrames fs) → Steps p.tables e below U (T.setFrames fs))
    (hP : ∀ U' : State, U'.heap = T.heap → FrameEnd s (.returned v) U' locs cells slots → P (.returned v) U') : Go p e below U P := by
  obtain ⟨fs, hr, hrun, hended, hW, hsame⟩ := X.leave hv hlocks
  exact ⟨_, _, st fs hr, hrun, hended, hP _ rfl ⟨⟨_, rfl⟩, hW, hsame⟩⟩
theorem own_ord {a0 : Array Value} {t : Term} {a : Addr} {C n d : String} {k : Int32} (ev : t.eval a0 s none [] s = some (.ref a)) (h : (Cond.eq (.field t C n d) (.int k)).value a0 s none s [] = some true) : s.fieldOf? a C n d = some (.int k) := by
  have e1 := fld_at (C := C) (n := n) (dd := d) ev
  have e2 : (Term.int k).eval a0 s none [] s = some (.int k) := rfl
  cases hf : s.fieldOf? a C n d with
  | none => rw [hf] at e1; simp [Cond.value, e1] at h
  | some w =>
    rw [hf] at e1
    cases w <;> simp [Cond.value, e1, e2] at h
    rw [h]
theorem own_ne {a b : Addr} {C n d : String} {j k : Int32} (h1 : s.fieldOf? a C n d = some (.int j)) (h2 : s.fieldOf? b C n d = some (.int k)) (hne : j ≠ k) : a ≠ b := fun q => by
  subst q
  rw [h1] at h2
  exact hne (by injection (Option.some.inj h2))
theorem own_lsw {g : JFrame} {target : State} (X : Stand p l e R s m args below meth c T locs cells slots) (hx : p.tables.exec = Jvm.exec) (hg : g.method = m) {dflt : Int} {pairs : Array (Int × Int)} {len : Nat} {pc0 pc' : Nat} (hpc : g.pc = pc0)
    (hd : decode c.code g.pc = .ok (.lookupswitch dflt pairs, len)) {i : Int32} {rest : List Value} (hs : g.stack = .int i :: rest) {o : Int} (ho : lookupswitch.offset pairs.toList dflt i.toInt = o) (hso : ∀ (a b a_1 b_1 : Int), ((a, b), a_1, b_1) ∈ pairs.toList.zip pairs.toList.tail → a < a_1) (h0 : 0 ≤ (pc0 : Int) + o) (hp : ((pc0 : Int) + o).toNat = pc')
    (hr : Steps p.tables e below (T.setTop { g with pc := pc', stack := rest }) target) : Steps p.tables e below (T.setTop g) target := by
  subst hg hpc hp ho
  jvm_step X.here [X.here.top, hx, hd, hs, h0, lookupswitch.wp_chain]
  exact ⟨hso, hr⟩
theorem own_arvlt {Z : State} {h : Heap} {a : Addr} {k : ClassId} {ty : FieldType} {n : Int32} {vs : List Value} {d : Value} (V : Arv Z h a k ty n vs d) : a < h.size := by
  obtain ⟨c, A, -⟩ := V
  exact A.lt
end Own
end Jvm.RoadKit
namespace Jvm.Pilot.@@N@@
open Jvm Jvm.ClassFile Sem Op Lib Jvm.Free Jvm.Stand Jvm.LawKit Jvm.RoadKit Bundle Jvm.Pilot.@@N@@.Jvm.D
def own_unr (b : Int32) : Int32 := if ¬ (b < 65) ∧ ¬ (90 < b) then 1 else if ¬ (b < 97) ∧ ¬ (122 < b) then 1 else if ¬ (b < 48) ∧ ¬ (57 < b) then 1 else if b = 45 then 1 else if b = 46 then 1 else if b = 95 then 1 else if b = 126 then 1 else 0
def own_ref (b : Int32) : Int32 := if b < 0 then 0 else if 127 < b then 0 else if b < 64 then (if ((((288054454291267584 : Int64).toUInt64 >>> (b &&& 0x3f).toInt64.toUInt64).toInt64) &&& (1 : Int64)) = (0 : Int64) then 0 else 1)
  else (if ((((5188146764422578174 : Int64).toUInt64 >>> ((b - (64 : Int32)) &&& 0x3f).toInt64.toUInt64).toInt64) &&& (1 : Int64)) = (0 : Int64) then 0 else 1)
theorem own_eq0 : ∀ n : Fin 128, own_unr (Int32.ofNat n.val) = own_ref (Int32.ofNat n.val) := by decide +kernel
theorem own_eq (b : Int32) : own_unr b = own_ref b := by
  have z0 : (0 : Int32).toInt = 0 := by decide
  have z127 : (127 : Int32).toInt = 127 := by decide
  by_cases h0 : b < 0
  · have e1 : own_ref b = 0 := by simp [own_ref, h0]
    have k : ∀ x : Int32, 0 ≤ x.toInt → b < x := fun x hx => by rw [Int32.lt_iff_toInt_lt] at h0 ⊢; omega
    have n45 : ¬ b = 45 := fun q => by subst q; revert h0; decide
    have n46 : ¬ b = 46 := fun q => by subst q; revert h0; decide
    have n95 : ¬ b = 95 := fun q => by subst q; revert h0; decide
    have n126 : ¬ b = 126 := fun q => by subst q; revert h0; decide
    rw [e1]
    simp [own_unr, k 65 (by decide), k 97 (by decide), k 48 (by decide), n45, n46, n95, n126]
  · by_cases h1 : 127 < b
    · have e1 : own_ref b = 0 := by simp [own_ref, h0, h1]
      have k : ∀ x : Int32, x.toInt ≤ 127 → x < b := fun x hx => by rw [Int32.lt_iff_toInt_lt] at h1 ⊢; omega
      have n45 : ¬ b = 45 := fun q => by subst q; revert h1; decide
      have n46 : ¬ b = 46 := fun q => by subst q; revert h1; decide
      have n95 : ¬ b = 95 := fun q => by subst q; revert h1; decide
      have n126 : ¬ b = 126 := fun q => by subst q; revert h1; decide
      rw [e1]
      simp [own_unr, k 90 (by decide), k 122 (by decide), k 57 (by decide), n45, n46, n95, n126]
    · rw [Int32.lt_iff_toInt_lt] at h0 h1
      have hb : b = Int32.ofNat b.toInt.toNat := by
        apply Int32.toInt_inj.mp
        rw [Int32.toInt_ofNat_small (by omega)]
        omega
      have q := own_eq0 ⟨b.toInt.toNat, by omega⟩
      rw [hb]; exact q
theorem d1_0 : decode prog_8_method_13_code 0 = .ok (.iload_n 0, 1) := by decide +kernel
theorem d1_1 : decode prog_8_method_13_code 1 = .ok (.bipush 65, 2) := by decide +kernel
theorem d1_3 : decode prog_8_method_13_code 3 = .ok (.if_icmp .lt 9, 3) := by decide +kernel
theorem d1_6 : decode prog_8_method_13_code 6 = .ok (.iload_n 0, 1) := by decide +kernel
theorem d1_7 : decode prog_8_method_13_code 7 = .ok (.bipush 90, 2) := by decide +kernel
theorem d1_9 : decode prog_8_method_13_code 9 = .ok (.if_icmp .le 51, 3) := by decide +kernel
theorem d1_12 : decode prog_8_method_13_code 12 = .ok (.iload_n 0, 1) := by decide +kernel
theorem d1_13 : decode prog_8_method_13_code 13 = .ok (.bipush 97, 2) := by decide +kernel
theorem d1_15 : decode prog_8_method_13_code 15 = .ok (.if_icmp .lt 9, 3) := by decide +kernel
theorem d1_18 : decode prog_8_method_13_code 18 = .ok (.iload_n 0, 1) := by decide +kernel
theorem d1_19 : decode prog_8_method_13_code 19 = .ok (.bipush 122, 2) := by decide +kernel
theorem d1_21 : decode prog_8_method_13_code 21 = .ok (.if_icmp .le 39, 3) := by decide +kernel
theorem d1_24 : decode prog_8_method_13_code 24 = .ok (.iload_n 0, 1) := by decide +kernel
theorem d1_25 : decode prog_8_method_13_code 25 = .ok (.bipush 48, 2) := by decide +kernel
theorem d1_27 : decode prog_8_method_13_code 27 = .ok (.if_icmp .lt 9, 3) := by decide +kernel
theorem d1_30 : decode prog_8_method_13_code 30 = .ok (.iload_n 0, 1) := by decide +kernel
theorem d1_31 : decode prog_8_method_13_code 31 = .ok (.bipush 57, 2) := by decide +kernel
theorem d1_33 : decode prog_8_method_13_code 33 = .ok (.if_icmp .le 27, 3) := by decide +kernel
theorem d1_36 : decode prog_8_method_13_code 36 = .ok (.iload_n 0, 1) := by decide +kernel
theorem d1_37 : decode prog_8_method_13_code 37 = .ok (.bipush 45, 2) := by decide +kernel
theorem d1_39 : decode prog_8_method_13_code 39 = .ok (.if_icmp .eq 21, 3) := by decide +kernel
theorem d1_42 : decode prog_8_method_13_code 42 = .ok (.iload_n 0, 1) := by decide +kernel
theorem d1_43 : decode prog_8_method_13_code 43 = .ok (.bipush 46, 2) := by decide +kernel
theorem d1_45 : decode prog_8_method_13_code 45 = .ok (.if_icmp .eq 15, 3) := by decide +kernel
theorem d1_48 : decode prog_8_method_13_code 48 = .ok (.iload_n 0, 1) := by decide +kernel
theorem d1_49 : decode prog_8_method_13_code 49 = .ok (.bipush 95, 2) := by decide +kernel
theorem d1_51 : decode prog_8_method_13_code 51 = .ok (.if_icmp .eq 9, 3) := by decide +kernel
theorem d1_54 : decode prog_8_method_13_code 54 = .ok (.iload_n 0, 1) := by decide +kernel
theorem d1_55 : decode prog_8_method_13_code 55 = .ok (.bipush 126, 2) := by decide +kernel
theorem d1_57 : decode prog_8_method_13_code 57 = .ok (.if_icmp .ne 7, 3) := by decide +kernel
theorem d1_60 : decode prog_8_method_13_code 60 = .ok (.iconst 1, 1) := by decide +kernel
theorem d1_61 : decode prog_8_method_13_code 61 = .ok (.goto 4, 3) := by decide +kernel
theorem d1_64 : decode prog_8_method_13_code 64 = .ok (.iconst 0, 1) := by decide +kernel
theorem d1_65 : decode prog_8_method_13_code 65 = .ok (.ireturn, 1) := by decide +kernel
theorem pn_34 : plainName "com/example/method_to_route/methodtoroute/PercentEncoding" = true := by first | (simp [plainName, overriddenIn]; done) | decide +kernel
theorem ef_rm1 (m : MethodId) (p1 : Int32) : entryFrame m #[(.int p1)] 1 = mkF m 0 #[.val (.int p1)] [] := by first | (simp [entryFrame, mkF, argsToLocals, Value.category]; done) | rfl
def Q_rm1 (Z : State) (p1 : Int32) (h0 : Heap) (n0 : Nat) (v : Option Value) (h : Heap) (L : List Loc) : Prop := v = some (.int (own_unr p1)) ∧ Fr n0 L ∧ h = h0
set_option maxRecDepth 65536 in
set_option maxHeartbeats 40000000 in
theorem rm1 (l : Launch) (Z : State) (a0 : Array Value) (hw : ∀ d ∈ tables_1, d.before a0 Z = true) (ws : List Jvm.Cond) (p1 : Int32) (h0 : Heap) (n0 : Nat) (Z0 : n0 ≤ h0.size) :
    MetFree l (⟨"com/example/method_to_route/methodtoroute/PercentEncoding", "isUnreserved", "(I)Z"⟩ : MethodName) (head1 (Jvm.Cond.code (⟨"com/example/method_to_route/methodtoroute/PercentEncoding", "isUnreserved", "(I)Z"⟩ : MethodName) prog_8_method_13_code 1 (some .boolean) :: ws) ({ frames := 0, cells := 0, slots := 0, locals := 0 } : Room)) (fun a U => a = #[(.int p1)] ∧ Z.Warmed39 U.vm ∧ U.heap = h0) (fun _ _ _ _ _ => True) (fun _ U o U' => ∃ v L, o = .returned v ∧ Q_rm1 Z p1 h0 n0 v U'.heap L ∧ FrameEnd U o U' L ({ frames := 0, cells := 0, slots := 0, locals := 0 } : Room).cells ({ frames := 0, cells := 0, slots := 0, locals := 0 } : Room).slots) := by
  refine MetFree.of_bodySF (plainFor_of_name pn_34) hisR ?_
  intro p e s m args below meth c s₁ Bd hml0 hP hK
  obtain ⟨rfl, hZ, hh⟩ := hP
  have hx := Bd.exec
  have hby := Bd.bytes
  have hml : c.maxLocals = 1 := hml0
  have hown : s.vm.findClass "com/example/method_to_route/methodtoroute/PercentEncoding" = some m.cls := findClass_of_methodNamed Bd.named
  have hnm := (name_of_methodNamed Bd.named Bd.method).1
  have X0 : Stand p l e ({ frames := 0, cells := 0, slots := 0, locals := 0 } : Room) s m #[(.int p1)] below meth c s₁ [] 0 0 := Stand.of_body Bd
  have e0 : s₁.heap = h0 := by rw [← hh, Bd.state]; rfl
  have N0 := Fr.nil n0
  show Go p e below (s₁.setTop (entryFrame m #[(.int p1)] 1)) (fun o U' => ∃ v L, o = .returned v ∧ Q_rm1 Z p1 h0 n0 v U'.heap L ∧ FrameEnd s o U' L ({ frames := 0, cells := 0, slots := 0, locals := 0 } : Room).cells ({ frames := 0, cells := 0, slots := 0, locals := 0 } : Room).slots)
  rw [ef_rm1]
  show Go p e below (s₁.setTop (mkF m 0 #[.val (.int p1)] [])) _
  refine Go.st (fun _ k_ => XS.iloadN X0.here hx rfl (hb hby d1_0) rfl k_) ?_
  show Go p e below (s₁.setTop (mkF m 1 #[.val (.int p1)] [(.int p1)])) _
  refine Go.st (fun _ k_ => XS.bipush X0.here hx rfl (hb hby d1_1) k_) ?_
  show Go p e below (s₁.setTop (mkF m 3 #[.val (.int p1)] [(.int (65 : Int32)), (.int p1)])) _
  by_cases hc3 : p1 < (65 : Int32)
  · refine Go.st (fun _ k_ => XS.icmpYes X0.here hx rfl (pc0 := 3) (pc' := 12) rfl (hb hby d1_3) rfl (tlt hc3).1 (by decide) (by decide) k_) ?_
    show Go p e below (s₁.setTop (mkF m 12 #[.val (.int p1)] [])) _
    refine Go.st (fun _ k_ => XS.iloadN X0.here hx rfl (hb hby d1_12) rfl k_) ?_
    show Go p e below (s₁.setTop (mkF m 13 #[.val (.int p1)] [(.int p1)])) _
    refine Go.st (fun _ k_ => XS.bipush X0.here hx rfl (hb hby d1_13) k_) ?_
    show Go p e below (s₁.setTop (mkF m 15 #[.val (.int p1)] [(.int (97 : Int32)), (.int p1)])) _
    by_cases hc15 : p1 < (97 : Int32)
    · refine Go.st (fun _ k_ => XS.icmpYes X0.here hx rfl (pc0 := 15) (pc' := 24) rfl (hb hby d1_15) rfl (tlt hc15).1 (by decide) (by decide) k_) ?_
      show Go p e below (s₁.setTop (mkF m 24 #[.val (.int p1)] [])) _
      refine Go.st (fun _ k_ => XS.iloadN X0.here hx rfl (hb hby d1_24) rfl k_) ?_
      show Go p e below (s₁.setTop (mkF m 25 #[.val (.int p1)] [(.int p1)])) _
      refine Go.st (fun _ k_ => XS.bipush X0.here hx rfl (hb hby d1_25) k_) ?_
      show Go p e below (s₁.setTop (mkF m 27 #[.val (.int p1)] [(.int (48 : Int32)), (.int p1)])) _
      by_cases hc27 : p1 < (48 : Int32)
      · refine Go.st (fun _ k_ => XS.icmpYes X0.here hx rfl (pc0 := 27) (pc' := 36) rfl (hb hby d1_27) rfl (tlt hc27).1 (by decide) (by decide) k_) ?_
        show Go p e below (s₁.setTop (mkF m 36 #[.val (.int p1)] [])) _
        refine Go.st (fun _ k_ => XS.iloadN X0.here hx rfl (hb hby d1_36) rfl k_) ?_
        show Go p e below (s₁.setTop (mkF m 37 #[.val (.int p1)] [(.int p1)])) _
        refine Go.st (fun _ k_ => XS.bipush X0.here hx rfl (hb hby d1_37) k_) ?_
        show Go p e below (s₁.setTop (mkF m 39 #[.val (.int p1)] [(.int (45 : Int32)), (.int p1)])) _
        by_cases hc39 : p1 = (45 : Int32)
        · refine Go.st (fun _ k_ => XS.icmpYes X0.here hx rfl (pc0 := 39) (pc' := 60) rfl (hb hby d1_39) rfl (teq hc39).1 (by decide) (by decide) k_) ?_
          show Go p e below (s₁.setTop (mkF m 60 #[.val (.int p1)] [])) _
          refine Go.st (fun _ k_ => XS.iconst X0.here hx rfl (hb hby d1_60) k_) ?_
          show Go p e below (s₁.setTop (mkF m 61 #[.val (.int p1)] [(.int (1 : Int32))])) _
          refine Go.st (fun _ k_ => XS.goto X0.here hx rfl (pc0 := 61) (pc' := 65) rfl (hb hby d1_61) (by decide) (by decide) k_) ?_
          show Go p e below (s₁.setTop (mkF m 65 #[.val (.int p1)] [(.int (1 : Int32))])) _
          refine Go.fin X0 (v := some (.int (1 : Int32))) (fun h_ => by rw [Bd.returns] at h_; cases h_) Bd.notSynchronized (fun _ hr => retN X0 hx (t := .boolean) Bd.returns (by simp) (hb hby d1_65) hr) (fun U' hU hF => ⟨_, _, rfl, ?_, hF.1, hF.2.1, hF.2.2.mono (by decide) (by decide)⟩)
          rw [hU, e0]
          exact ⟨(congrArg (fun z_ : Int32 => some (Value.int z_)) (show (1 : Int32) = (own_unr p1) from by simp [own_unr, hc3, hc15, hc27, hc39])), N0, rfl⟩
        · refine Go.st (fun _ k_ => XS.icmpNo X0.here hx rfl (hb hby d1_39) rfl (feq hc39).1 k_) ?_
          show Go p e below (s₁.setTop (mkF m 42 #[.val (.int p1)] [])) _
          refine Go.st (fun _ k_ => XS.iloadN X0.here hx rfl (hb hby d1_42) rfl k_) ?_
          show Go p e below (s₁.setTop (mkF m 43 #[.val (.int p1)] [(.int p1)])) _
          refine Go.st (fun _ k_ => XS.bipush X0.here hx rfl (hb hby d1_43) k_) ?_
          show Go p e below (s₁.setTop (mkF m 45 #[.val (.int p1)] [(.int (46 : Int32)), (.int p1)])) _
          by_cases hc45 : p1 = (46 : Int32)
          · refine Go.st (fun _ k_ => XS.icmpYes X0.here hx rfl (pc0 := 45) (pc' := 60) rfl (hb hby d1_45) rfl (teq hc45).1 (by decide) (by decide) k_) ?_
            show Go p e below (s₁.setTop (mkF m 60 #[.val (.int p1)] [])) _
            refine Go.st (fun _ k_ => XS.iconst X0.here hx rfl (hb hby d1_60) k_) ?_
            show Go p e below (s₁.setTop (mkF m 61 #[.val (.int p1)] [(.int (1 : Int32))])) _
            refine Go.st (fun _ k_ => XS.goto X0.here hx rfl (pc0 := 61) (pc' := 65) rfl (hb hby d1_61) (by decide) (by decide) k_) ?_
            show Go p e below (s₁.setTop (mkF m 65 #[.val (.int p1)] [(.int (1 : Int32))])) _
            refine Go.fin X0 (v := some (.int (1 : Int32))) (fun h_ => by rw [Bd.returns] at h_; cases h_) Bd.notSynchronized (fun _ hr => retN X0 hx (t := .boolean) Bd.returns (by simp) (hb hby d1_65) hr) (fun U' hU hF => ⟨_, _, rfl, ?_, hF.1, hF.2.1, hF.2.2.mono (by decide) (by decide)⟩)
            rw [hU, e0]
            exact ⟨(congrArg (fun z_ : Int32 => some (Value.int z_)) (show (1 : Int32) = (own_unr p1) from by simp [own_unr, hc3, hc15, hc27, hc39, hc45])), N0, rfl⟩
          · refine Go.st (fun _ k_ => XS.icmpNo X0.here hx rfl (hb hby d1_45) rfl (feq hc45).1 k_) ?_
            show Go p e below (s₁.setTop (mkF m 48 #[.val (.int p1)] [])) _
            refine Go.st (fun _ k_ => XS.iloadN X0.here hx rfl (hb hby d1_48) rfl k_) ?_
            show Go p e below (s₁.setTop (mkF m 49 #[.val (.int p1)] [(.int p1)])) _
            refine Go.st (fun _ k_ => XS.bipush X0.here hx rfl (hb hby d1_49) k_) ?_
            show Go p e below (s₁.setTop (mkF m 51 #[.val (.int p1)] [(.int (95 : Int32)), (.int p1)])) _
            by_cases hc51 : p1 = (95 : Int32)
            · refine Go.st (fun _ k_ => XS.icmpYes X0.here hx rfl (pc0 := 51) (pc' := 60) rfl (hb hby d1_51) rfl (teq hc51).1 (by decide) (by decide) k_) ?_
              show Go p e below (s₁.setTop (mkF m 60 #[.val (.int p1)] [])) _
              refine Go.st (fun _ k_ => XS.iconst X0.here hx rfl (hb hby d1_60) k_) ?_
              show Go p e below (s₁.setTop (mkF m 61 #[.val (.int p1)] [(.int (1 : Int32))])) _
              refine Go.st (fun _ k_ => XS.goto X0.here hx rfl (pc0 := 61) (pc' := 65) rfl (hb hby d1_61) (by decide) (by decide) k_) ?_
              show Go p e below (s₁.setTop (mkF m 65 #[.val (.int p1)] [(.int (1 : Int32))])) _
              refine Go.fin X0 (v := some (.int (1 : Int32))) (fun h_ => by rw [Bd.returns] at h_; cases h_) Bd.notSynchronized (fun _ hr => retN X0 hx (t := .boolean) Bd.returns (by simp) (hb hby d1_65) hr) (fun U' hU hF => ⟨_, _, rfl, ?_, hF.1, hF.2.1, hF.2.2.mono (by decide) (by decide)⟩)
              rw [hU, e0]
              exact ⟨(congrArg (fun z_ : Int32 => some (Value.int z_)) (show (1 : Int32) = (own_unr p1) from by simp [own_unr, hc3, hc15, hc27, hc39, hc45, hc51])), N0, rfl⟩
            · refine Go.st (fun _ k_ => XS.icmpNo X0.here hx rfl (hb hby d1_51) rfl (feq hc51).1 k_) ?_
              show Go p e below (s₁.setTop (mkF m 54 #[.val (.int p1)] [])) _
              refine Go.st (fun _ k_ => XS.iloadN X0.here hx rfl (hb hby d1_54) rfl k_) ?_
              show Go p e below (s₁.setTop (mkF m 55 #[.val (.int p1)] [(.int p1)])) _
              refine Go.st (fun _ k_ => XS.bipush X0.here hx rfl (hb hby d1_55) k_) ?_
              show Go p e below (s₁.setTop (mkF m 57 #[.val (.int p1)] [(.int (126 : Int32)), (.int p1)])) _
              by_cases hc57 : p1 = (126 : Int32)
              · refine Go.st (fun _ k_ => XS.icmpNo X0.here hx rfl (hb hby d1_57) rfl (teq hc57).2 k_) ?_
                show Go p e below (s₁.setTop (mkF m 60 #[.val (.int p1)] [])) _
                refine Go.st (fun _ k_ => XS.iconst X0.here hx rfl (hb hby d1_60) k_) ?_
                show Go p e below (s₁.setTop (mkF m 61 #[.val (.int p1)] [(.int (1 : Int32))])) _
                refine Go.st (fun _ k_ => XS.goto X0.here hx rfl (pc0 := 61) (pc' := 65) rfl (hb hby d1_61) (by decide) (by decide) k_) ?_
                show Go p e below (s₁.setTop (mkF m 65 #[.val (.int p1)] [(.int (1 : Int32))])) _
                refine Go.fin X0 (v := some (.int (1 : Int32))) (fun h_ => by rw [Bd.returns] at h_; cases h_) Bd.notSynchronized (fun _ hr => retN X0 hx (t := .boolean) Bd.returns (by simp) (hb hby d1_65) hr) (fun U' hU hF => ⟨_, _, rfl, ?_, hF.1, hF.2.1, hF.2.2.mono (by decide) (by decide)⟩)
                rw [hU, e0]
                exact ⟨(congrArg (fun z_ : Int32 => some (Value.int z_)) (show (1 : Int32) = (own_unr p1) from by simp [own_unr, hc3, hc15, hc27, hc39, hc45, hc51, hc57])), N0, rfl⟩
              · refine Go.st (fun _ k_ => XS.icmpYes X0.here hx rfl (pc0 := 57) (pc' := 64) rfl (hb hby d1_57) rfl (feq hc57).2 (by decide) (by decide) k_) ?_
                show Go p e below (s₁.setTop (mkF m 64 #[.val (.int p1)] [])) _
                refine Go.st (fun _ k_ => XS.iconst X0.here hx rfl (hb hby d1_64) k_) ?_
                show Go p e below (s₁.setTop (mkF m 65 #[.val (.int p1)] [(.int (0 : Int32))])) _
                refine Go.fin X0 (v := some (.int (0 : Int32))) (fun h_ => by rw [Bd.returns] at h_; cases h_) Bd.notSynchronized (fun _ hr => retN X0 hx (t := .boolean) Bd.returns (by simp) (hb hby d1_65) hr) (fun U' hU hF => ⟨_, _, rfl, ?_, hF.1, hF.2.1, hF.2.2.mono (by decide) (by decide)⟩)
                rw [hU, e0]
                exact ⟨(congrArg (fun z_ : Int32 => some (Value.int z_)) (show (0 : Int32) = (own_unr p1) from by simp [own_unr, hc3, hc15, hc27, hc39, hc45, hc51, hc57])), N0, rfl⟩
      · refine Go.st (fun _ k_ => XS.icmpNo X0.here hx rfl (hb hby d1_27) rfl (flt hc27).1 k_) ?_
        show Go p e below (s₁.setTop (mkF m 30 #[.val (.int p1)] [])) _
        refine Go.st (fun _ k_ => XS.iloadN X0.here hx rfl (hb hby d1_30) rfl k_) ?_
        show Go p e below (s₁.setTop (mkF m 31 #[.val (.int p1)] [(.int p1)])) _
        refine Go.st (fun _ k_ => XS.bipush X0.here hx rfl (hb hby d1_31) k_) ?_
        show Go p e below (s₁.setTop (mkF m 33 #[.val (.int p1)] [(.int (57 : Int32)), (.int p1)])) _
        by_cases hc33 : (57 : Int32) < p1
        · refine Go.st (fun _ k_ => XS.icmpNo X0.here hx rfl (hb hby d1_33) rfl (tlt hc33).2.2.2 k_) ?_
          show Go p e below (s₁.setTop (mkF m 36 #[.val (.int p1)] [])) _
          refine Go.st (fun _ k_ => XS.iloadN X0.here hx rfl (hb hby d1_36) rfl k_) ?_
          show Go p e below (s₁.setTop (mkF m 37 #[.val (.int p1)] [(.int p1)])) _
          refine Go.st (fun _ k_ => XS.bipush X0.here hx rfl (hb hby d1_37) k_) ?_
          show Go p e below (s₁.setTop (mkF m 39 #[.val (.int p1)] [(.int (45 : Int32)), (.int p1)])) _
          by_cases hc39 : p1 = (45 : Int32)
          · refine Go.st (fun _ k_ => XS.icmpYes X0.here hx rfl (pc0 := 39) (pc' := 60) rfl (hb hby d1_39) rfl (teq hc39).1 (by decide) (by decide) k_) ?_
            show Go p e below (s₁.setTop (mkF m 60 #[.val (.int p1)] [])) _
            refine Go.st (fun _ k_ => XS.iconst X0.here hx rfl (hb hby d1_60) k_) ?_
            show Go p e below (s₁.setTop (mkF m 61 #[.val (.int p1)] [(.int (1 : Int32))])) _
            refine Go.st (fun _ k_ => XS.goto X0.here hx rfl (pc0 := 61) (pc' := 65) rfl (hb hby d1_61) (by decide) (by decide) k_) ?_
            show Go p e below (s₁.setTop (mkF m 65 #[.val (.int p1)] [(.int (1 : Int32))])) _
            refine Go.fin X0 (v := some (.int (1 : Int32))) (fun h_ => by rw [Bd.returns] at h_; cases h_) Bd.notSynchronized (fun _ hr => retN X0 hx (t := .boolean) Bd.returns (by simp) (hb hby d1_65) hr) (fun U' hU hF => ⟨_, _, rfl, ?_, hF.1, hF.2.1, hF.2.2.mono (by decide) (by decide)⟩)
            rw [hU, e0]
            exact ⟨(congrArg (fun z_ : Int32 => some (Value.int z_)) (show (1 : Int32) = (own_unr p1) from by simp [own_unr, hc3, hc15, hc27, hc33, hc39])), N0, rfl⟩
          · refine Go.st (fun _ k_ => XS.icmpNo X0.here hx rfl (hb hby d1_39) rfl (feq hc39).1 k_) ?_
            show Go p e below (s₁.setTop (mkF m 42 #[.val (.int p1)] [])) _
            refine Go.st (fun _ k_ => XS.iloadN X0.here hx rfl (hb hby d1_42) rfl k_) ?_
            show Go p e below (s₁.setTop (mkF m 43 #[.val (.int p1)] [(.int p1)])) _
            refine Go.st (fun _ k_ => XS.bipush X0.here hx rfl (hb hby d1_43) k_) ?_
            show Go p e below (s₁.setTop (mkF m 45 #[.val (.int p1)] [(.int (46 : Int32)), (.int p1)])) _
            by_cases hc45 : p1 = (46 : Int32)
            · refine Go.st (fun _ k_ => XS.icmpYes X0.here hx rfl (pc0 := 45) (pc' := 60) rfl (hb hby d1_45) rfl (teq hc45).1 (by decide) (by decide) k_) ?_
              show Go p e below (s₁.setTop (mkF m 60 #[.val (.int p1)] [])) _
              refine Go.st (fun _ k_ => XS.iconst X0.here hx rfl (hb hby d1_60) k_) ?_
              show Go p e below (s₁.setTop (mkF m 61 #[.val (.int p1)] [(.int (1 : Int32))])) _
              refine Go.st (fun _ k_ => XS.goto X0.here hx rfl (pc0 := 61) (pc' := 65) rfl (hb hby d1_61) (by decide) (by decide) k_) ?_
              show Go p e below (s₁.setTop (mkF m 65 #[.val (.int p1)] [(.int (1 : Int32))])) _
              refine Go.fin X0 (v := some (.int (1 : Int32))) (fun h_ => by rw [Bd.returns] at h_; cases h_) Bd.notSynchronized (fun _ hr => retN X0 hx (t := .boolean) Bd.returns (by simp) (hb hby d1_65) hr) (fun U' hU hF => ⟨_, _, rfl, ?_, hF.1, hF.2.1, hF.2.2.mono (by decide) (by decide)⟩)
              rw [hU, e0]
              exact ⟨(congrArg (fun z_ : Int32 => some (Value.int z_)) (show (1 : Int32) = (own_unr p1) from by simp [own_unr, hc3, hc15, hc27, hc33, hc39, hc45])), N0, rfl⟩
            · refine Go.st (fun _ k_ => XS.icmpNo X0.here hx rfl (hb hby d1_45) rfl (feq hc45).1 k_) ?_
              show Go p e below (s₁.setTop (mkF m 48 #[.val (.int p1)] [])) _
              refine Go.st (fun _ k_ => XS.iloadN X0.here hx rfl (hb hby d1_48) rfl k_) ?_
              show Go p e below (s₁.setTop (mkF m 49 #[.val (.int p1)] [(.int p1)])) _
              refine Go.st (fun _ k_ => XS.bipush X0.here hx rfl (hb hby d1_49) k_) ?_
              show Go p e below (s₁.setTop (mkF m 51 #[.val (.int p1)] [(.int (95 : Int32)), (.int p1)])) _
              by_cases hc51 : p1 = (95 : Int32)
              · refine Go.st (fun _ k_ => XS.icmpYes X0.here hx rfl (pc0 := 51) (pc' := 60) rfl (hb hby d1_51) rfl (teq hc51).1 (by decide) (by decide) k_) ?_
                show Go p e below (s₁.setTop (mkF m 60 #[.val (.int p1)] [])) _
                refine Go.st (fun _ k_ => XS.iconst X0.here hx rfl (hb hby d1_60) k_) ?_
                show Go p e below (s₁.setTop (mkF m 61 #[.val (.int p1)] [(.int (1 : Int32))])) _
                refine Go.st (fun _ k_ => XS.goto X0.here hx rfl (pc0 := 61) (pc' := 65) rfl (hb hby d1_61) (by decide) (by decide) k_) ?_
                show Go p e below (s₁.setTop (mkF m 65 #[.val (.int p1)] [(.int (1 : Int32))])) _
                refine Go.fin X0 (v := some (.int (1 : Int32))) (fun h_ => by rw [Bd.returns] at h_; cases h_) Bd.notSynchronized (fun _ hr => retN X0 hx (t := .boolean) Bd.returns (by simp) (hb hby d1_65) hr) (fun U' hU hF => ⟨_, _, rfl, ?_, hF.1, hF.2.1, hF.2.2.mono (by decide) (by decide)⟩)
                rw [hU, e0]
                exact ⟨(congrArg (fun z_ : Int32 => some (Value.int z_)) (show (1 : Int32) = (own_unr p1) from by simp [own_unr, hc3, hc15, hc27, hc33, hc39, hc45, hc51])), N0, rfl⟩
              · refine Go.st (fun _ k_ => XS.icmpNo X0.here hx rfl (hb hby d1_51) rfl (feq hc51).1 k_) ?_
                show Go p e below (s₁.setTop (mkF m 54 #[.val (.int p1)] [])) _
                refine Go.st (fun _ k_ => XS.iloadN X0.here hx rfl (hb hby d1_54) rfl k_) ?_
                show Go p e below (s₁.setTop (mkF m 55 #[.val (.int p1)] [(.int p1)])) _
                refine Go.st (fun _ k_ => XS.bipush X0.here hx rfl (hb hby d1_55) k_) ?_
                show Go p e below (s₁.setTop (mkF m 57 #[.val (.int p1)] [(.int (126 : Int32)), (.int p1)])) _
                by_cases hc57 : p1 = (126 : Int32)
                · refine Go.st (fun _ k_ => XS.icmpNo X0.here hx rfl (hb hby d1_57) rfl (teq hc57).2 k_) ?_
                  show Go p e below (s₁.setTop (mkF m 60 #[.val (.int p1)] [])) _
                  refine Go.st (fun _ k_ => XS.iconst X0.here hx rfl (hb hby d1_60) k_) ?_
                  show Go p e below (s₁.setTop (mkF m 61 #[.val (.int p1)] [(.int (1 : Int32))])) _
                  refine Go.st (fun _ k_ => XS.goto X0.here hx rfl (pc0 := 61) (pc' := 65) rfl (hb hby d1_61) (by decide) (by decide) k_) ?_
                  show Go p e below (s₁.setTop (mkF m 65 #[.val (.int p1)] [(.int (1 : Int32))])) _
                  refine Go.fin X0 (v := some (.int (1 : Int32))) (fun h_ => by rw [Bd.returns] at h_; cases h_) Bd.notSynchronized (fun _ hr => retN X0 hx (t := .boolean) Bd.returns (by simp) (hb hby d1_65) hr) (fun U' hU hF => ⟨_, _, rfl, ?_, hF.1, hF.2.1, hF.2.2.mono (by decide) (by decide)⟩)
                  rw [hU, e0]
                  exact ⟨(congrArg (fun z_ : Int32 => some (Value.int z_)) (show (1 : Int32) = (own_unr p1) from by simp [own_unr, hc3, hc15, hc27, hc33, hc39, hc45, hc51, hc57])), N0, rfl⟩
                · refine Go.st (fun _ k_ => XS.icmpYes X0.here hx rfl (pc0 := 57) (pc' := 64) rfl (hb hby d1_57) rfl (feq hc57).2 (by decide) (by decide) k_) ?_
                  show Go p e below (s₁.setTop (mkF m 64 #[.val (.int p1)] [])) _
                  refine Go.st (fun _ k_ => XS.iconst X0.here hx rfl (hb hby d1_64) k_) ?_
                  show Go p e below (s₁.setTop (mkF m 65 #[.val (.int p1)] [(.int (0 : Int32))])) _
                  refine Go.fin X0 (v := some (.int (0 : Int32))) (fun h_ => by rw [Bd.returns] at h_; cases h_) Bd.notSynchronized (fun _ hr => retN X0 hx (t := .boolean) Bd.returns (by simp) (hb hby d1_65) hr) (fun U' hU hF => ⟨_, _, rfl, ?_, hF.1, hF.2.1, hF.2.2.mono (by decide) (by decide)⟩)
                  rw [hU, e0]
                  exact ⟨(congrArg (fun z_ : Int32 => some (Value.int z_)) (show (0 : Int32) = (own_unr p1) from by simp [own_unr, hc3, hc15, hc27, hc33, hc39, hc45, hc51, hc57])), N0, rfl⟩
        · refine Go.st (fun _ k_ => XS.icmpYes X0.here hx rfl (pc0 := 33) (pc' := 60) rfl (hb hby d1_33) rfl (flt hc33).2.2.2 (by decide) (by decide) k_) ?_
          show Go p e below (s₁.setTop (mkF m 60 #[.val (.int p1)] [])) _
          refine Go.st (fun _ k_ => XS.iconst X0.here hx rfl (hb hby d1_60) k_) ?_
          show Go p e below (s₁.setTop (mkF m 61 #[.val (.int p1)] [(.int (1 : Int32))])) _
          refine Go.st (fun _ k_ => XS.goto X0.here hx rfl (pc0 := 61) (pc' := 65) rfl (hb hby d1_61) (by decide) (by decide) k_) ?_
          show Go p e below (s₁.setTop (mkF m 65 #[.val (.int p1)] [(.int (1 : Int32))])) _
          refine Go.fin X0 (v := some (.int (1 : Int32))) (fun h_ => by rw [Bd.returns] at h_; cases h_) Bd.notSynchronized (fun _ hr => retN X0 hx (t := .boolean) Bd.returns (by simp) (hb hby d1_65) hr) (fun U' hU hF => ⟨_, _, rfl, ?_, hF.1, hF.2.1, hF.2.2.mono (by decide) (by decide)⟩)
          rw [hU, e0]
          exact ⟨(congrArg (fun z_ : Int32 => some (Value.int z_)) (show (1 : Int32) = (own_unr p1) from by simp [own_unr, hc3, hc15, hc27, hc33])), N0, rfl⟩
    · refine Go.st (fun _ k_ => XS.icmpNo X0.here hx rfl (hb hby d1_15) rfl (flt hc15).1 k_) ?_
      show Go p e below (s₁.setTop (mkF m 18 #[.val (.int p1)] [])) _
      refine Go.st (fun _ k_ => XS.iloadN X0.here hx rfl (hb hby d1_18) rfl k_) ?_
      show Go p e below (s₁.setTop (mkF m 19 #[.val (.int p1)] [(.int p1)])) _
      refine Go.st (fun _ k_ => XS.bipush X0.here hx rfl (hb hby d1_19) k_) ?_
      show Go p e below (s₁.setTop (mkF m 21 #[.val (.int p1)] [(.int (122 : Int32)), (.int p1)])) _
      by_cases hc21 : (122 : Int32) < p1
      · refine Go.st (fun _ k_ => XS.icmpNo X0.here hx rfl (hb hby d1_21) rfl (tlt hc21).2.2.2 k_) ?_
        show Go p e below (s₁.setTop (mkF m 24 #[.val (.int p1)] [])) _
        refine Go.st (fun _ k_ => XS.iloadN X0.here hx rfl (hb hby d1_24) rfl k_) ?_
        show Go p e below (s₁.setTop (mkF m 25 #[.val (.int p1)] [(.int p1)])) _
        refine Go.st (fun _ k_ => XS.bipush X0.here hx rfl (hb hby d1_25) k_) ?_
        show Go p e below (s₁.setTop (mkF m 27 #[.val (.int p1)] [(.int (48 : Int32)), (.int p1)])) _
        by_cases hc27 : p1 < (48 : Int32)
        · refine Go.st (fun _ k_ => XS.icmpYes X0.here hx rfl (pc0 := 27) (pc' := 36) rfl (hb hby d1_27) rfl (tlt hc27).1 (by decide) (by decide) k_) ?_
          show Go p e below (s₁.setTop (mkF m 36 #[.val (.int p1)] [])) _
          refine Go.st (fun _ k_ => XS.iloadN X0.here hx rfl (hb hby d1_36) rfl k_) ?_
          show Go p e below (s₁.setTop (mkF m 37 #[.val (.int p1)] [(.int p1)])) _
          refine Go.st (fun _ k_ => XS.bipush X0.here hx rfl (hb hby d1_37) k_) ?_
          show Go p e below (s₁.setTop (mkF m 39 #[.val (.int p1)] [(.int (45 : Int32)), (.int p1)])) _
          by_cases hc39 : p1 = (45 : Int32)
          · refine Go.st (fun _ k_ => XS.icmpYes X0.here hx rfl (pc0 := 39) (pc' := 60) rfl (hb hby d1_39) rfl (teq hc39).1 (by decide) (by decide) k_) ?_
            show Go p e below (s₁.setTop (mkF m 60 #[.val (.int p1)] [])) _
            refine Go.st (fun _ k_ => XS.iconst X0.here hx rfl (hb hby d1_60) k_) ?_
            show Go p e below (s₁.setTop (mkF m 61 #[.val (.int p1)] [(.int (1 : Int32))])) _
            refine Go.st (fun _ k_ => XS.goto X0.here hx rfl (pc0 := 61) (pc' := 65) rfl (hb hby d1_61) (by decide) (by decide) k_) ?_
            show Go p e below (s₁.setTop (mkF m 65 #[.val (.int p1)] [(.int (1 : Int32))])) _
            refine Go.fin X0 (v := some (.int (1 : Int32))) (fun h_ => by rw [Bd.returns] at h_; cases h_) Bd.notSynchronized (fun _ hr => retN X0 hx (t := .boolean) Bd.returns (by simp) (hb hby d1_65) hr) (fun U' hU hF => ⟨_, _, rfl, ?_, hF.1, hF.2.1, hF.2.2.mono (by decide) (by decide)⟩)
            rw [hU, e0]
            exact ⟨(congrArg (fun z_ : Int32 => some (Value.int z_)) (show (1 : Int32) = (own_unr p1) from by simp [own_unr, hc3, hc15, hc21, hc27, hc39])), N0, rfl⟩
          · refine Go.st (fun _ k_ => XS.icmpNo X0.here hx rfl (hb hby d1_39) rfl (feq hc39).1 k_) ?_
            show Go p e below (s₁.setTop (mkF m 42 #[.val (.int p1)] [])) _
            refine Go.st (fun _ k_ => XS.iloadN X0.here hx rfl (hb hby d1_42) rfl k_) ?_
            show Go p e below (s₁.setTop (mkF m 43 #[.val (.int p1)] [(.int p1)])) _
            refine Go.st (fun _ k_ => XS.bipush X0.here hx rfl (hb hby d1_43) k_) ?_
            show Go p e below (s₁.setTop (mkF m 45 #[.val (.int p1)] [(.int (46 : Int32)), (.int p1)])) _
            by_cases hc45 : p1 = (46 : Int32)
            · refine Go.st (fun _ k_ => XS.icmpYes X0.here hx rfl (pc0 := 45) (pc' := 60) rfl (hb hby d1_45) rfl (teq hc45).1 (by decide) (by decide) k_) ?_
              show Go p e below (s₁.setTop (mkF m 60 #[.val (.int p1)] [])) _
              refine Go.st (fun _ k_ => XS.iconst X0.here hx rfl (hb hby d1_60) k_) ?_
              show Go p e below (s₁.setTop (mkF m 61 #[.val (.int p1)] [(.int (1 : Int32))])) _
              refine Go.st (fun _ k_ => XS.goto X0.here hx rfl (pc0 := 61) (pc' := 65) rfl (hb hby d1_61) (by decide) (by decide) k_) ?_
              show Go p e below (s₁.setTop (mkF m 65 #[.val (.int p1)] [(.int (1 : Int32))])) _
              refine Go.fin X0 (v := some (.int (1 : Int32))) (fun h_ => by rw [Bd.returns] at h_; cases h_) Bd.notSynchronized (fun _ hr => retN X0 hx (t := .boolean) Bd.returns (by simp) (hb hby d1_65) hr) (fun U' hU hF => ⟨_, _, rfl, ?_, hF.1, hF.2.1, hF.2.2.mono (by decide) (by decide)⟩)
              rw [hU, e0]
              exact ⟨(congrArg (fun z_ : Int32 => some (Value.int z_)) (show (1 : Int32) = (own_unr p1) from by simp [own_unr, hc3, hc15, hc21, hc27, hc39, hc45])), N0, rfl⟩
            · refine Go.st (fun _ k_ => XS.icmpNo X0.here hx rfl (hb hby d1_45) rfl (feq hc45).1 k_) ?_
              show Go p e below (s₁.setTop (mkF m 48 #[.val (.int p1)] [])) _
              refine Go.st (fun _ k_ => XS.iloadN X0.here hx rfl (hb hby d1_48) rfl k_) ?_
              show Go p e below (s₁.setTop (mkF m 49 #[.val (.int p1)] [(.int p1)])) _
              refine Go.st (fun _ k_ => XS.bipush X0.here hx rfl (hb hby d1_49) k_) ?_
              show Go p e below (s₁.setTop (mkF m 51 #[.val (.int p1)] [(.int (95 : Int32)), (.int p1)])) _
              by_cases hc51 : p1 = (95 : Int32)
              · refine Go.st (fun _ k_ => XS.icmpYes X0.here hx rfl (pc0 := 51) (pc' := 60) rfl (hb hby d1_51) rfl (teq hc51).1 (by decide) (by decide) k_) ?_
                show Go p e below (s₁.setTop (mkF m 60 #[.val (.int p1)] [])) _
                refine Go.st (fun _ k_ => XS.iconst X0.here hx rfl (hb hby d1_60) k_) ?_
                show Go p e below (s₁.setTop (mkF m 61 #[.val (.int p1)] [(.int (1 : Int32))])) _
                refine Go.st (fun _ k_ => XS.goto X0.here hx rfl (pc0 := 61) (pc' := 65) rfl (hb hby d1_61) (by decide) (by decide) k_) ?_
                show Go p e below (s₁.setTop (mkF m 65 #[.val (.int p1)] [(.int (1 : Int32))])) _
                refine Go.fin X0 (v := some (.int (1 : Int32))) (fun h_ => by rw [Bd.returns] at h_; cases h_) Bd.notSynchronized (fun _ hr => retN X0 hx (t := .boolean) Bd.returns (by simp) (hb hby d1_65) hr) (fun U' hU hF => ⟨_, _, rfl, ?_, hF.1, hF.2.1, hF.2.2.mono (by decide) (by decide)⟩)
                rw [hU, e0]
                exact ⟨(congrArg (fun z_ : Int32 => some (Value.int z_)) (show (1 : Int32) = (own_unr p1) from by simp [own_unr, hc3, hc15, hc21, hc27, hc39, hc45, hc51])), N0, rfl⟩
              · refine Go.st (fun _ k_ => XS.icmpNo X0.here hx rfl (hb hby d1_51) rfl (feq hc51).1 k_) ?_
                show Go p e below (s₁.setTop (mkF m 54 #[.val (.int p1)] [])) _
                refine Go.st (fun _ k_ => XS.iloadN X0.here hx rfl (hb hby d1_54) rfl k_) ?_
                show Go p e below (s₁.setTop (mkF m 55 #[.val (.int p1)] [(.int p1)])) _
                refine Go.st (fun _ k_ => XS.bipush X0.here hx rfl (hb hby d1_55) k_) ?_
                show Go p e below (s₁.setTop (mkF m 57 #[.val (.int p1)] [(.int (126 : Int32)), (.int p1)])) _
                by_cases hc57 : p1 = (126 : Int32)
                · refine Go.st (fun _ k_ => XS.icmpNo X0.here hx rfl (hb hby d1_57) rfl (teq hc57).2 k_) ?_
                  show Go p e below (s₁.setTop (mkF m 60 #[.val (.int p1)] [])) _
                  refine Go.st (fun _ k_ => XS.iconst X0.here hx rfl (hb hby d1_60) k_) ?_
                  show Go p e below (s₁.setTop (mkF m 61 #[.val (.int p1)] [(.int (1 : Int32))])) _
                  refine Go.st (fun _ k_ => XS.goto X0.here hx rfl (pc0 := 61) (pc' := 65) rfl (hb hby d1_61) (by decide) (by decide) k_) ?_
                  show Go p e below (s₁.setTop (mkF m 65 #[.val (.int p1)] [(.int (1 : Int32))])) _
                  refine Go.fin X0 (v := some (.int (1 : Int32))) (fun h_ => by rw [Bd.returns] at h_; cases h_) Bd.notSynchronized (fun _ hr => retN X0 hx (t := .boolean) Bd.returns (by simp) (hb hby d1_65) hr) (fun U' hU hF => ⟨_, _, rfl, ?_, hF.1, hF.2.1, hF.2.2.mono (by decide) (by decide)⟩)
                  rw [hU, e0]
                  exact ⟨(congrArg (fun z_ : Int32 => some (Value.int z_)) (show (1 : Int32) = (own_unr p1) from by simp [own_unr, hc3, hc15, hc21, hc27, hc39, hc45, hc51, hc57])), N0, rfl⟩
                · refine Go.st (fun _ k_ => XS.icmpYes X0.here hx rfl (pc0 := 57) (pc' := 64) rfl (hb hby d1_57) rfl (feq hc57).2 (by decide) (by decide) k_) ?_
                  show Go p e below (s₁.setTop (mkF m 64 #[.val (.int p1)] [])) _
                  refine Go.st (fun _ k_ => XS.iconst X0.here hx rfl (hb hby d1_64) k_) ?_
                  show Go p e below (s₁.setTop (mkF m 65 #[.val (.int p1)] [(.int (0 : Int32))])) _
                  refine Go.fin X0 (v := some (.int (0 : Int32))) (fun h_ => by rw [Bd.returns] at h_; cases h_) Bd.notSynchronized (fun _ hr => retN X0 hx (t := .boolean) Bd.returns (by simp) (hb hby d1_65) hr) (fun U' hU hF => ⟨_, _, rfl, ?_, hF.1, hF.2.1, hF.2.2.mono (by decide) (by decide)⟩)
                  rw [hU, e0]
                  exact ⟨(congrArg (fun z_ : Int32 => some (Value.int z_)) (show (0 : Int32) = (own_unr p1) from by simp [own_unr, hc3, hc15, hc21, hc27, hc39, hc45, hc51, hc57])), N0, rfl⟩
        · refine Go.st (fun _ k_ => XS.icmpNo X0.here hx rfl (hb hby d1_27) rfl (flt hc27).1 k_) ?_
          show Go p e below (s₁.setTop (mkF m 30 #[.val (.int p1)] [])) _
          refine Go.st (fun _ k_ => XS.iloadN X0.here hx rfl (hb hby d1_30) rfl k_) ?_
          show Go p e below (s₁.setTop (mkF m 31 #[.val (.int p1)] [(.int p1)])) _
          refine Go.st (fun _ k_ => XS.bipush X0.here hx rfl (hb hby d1_31) k_) ?_
          show Go p e below (s₁.setTop (mkF m 33 #[.val (.int p1)] [(.int (57 : Int32)), (.int p1)])) _
          by_cases hc33 : (57 : Int32) < p1
          · refine Go.st (fun _ k_ => XS.icmpNo X0.here hx rfl (hb hby d1_33) rfl (tlt hc33).2.2.2 k_) ?_
            show Go p e below (s₁.setTop (mkF m 36 #[.val (.int p1)] [])) _
            refine Go.st (fun _ k_ => XS.iloadN X0.here hx rfl (hb hby d1_36) rfl k_) ?_
            show Go p e below (s₁.setTop (mkF m 37 #[.val (.int p1)] [(.int p1)])) _
            refine Go.st (fun _ k_ => XS.bipush X0.here hx rfl (hb hby d1_37) k_) ?_
            show Go p e below (s₁.setTop (mkF m 39 #[.val (.int p1)] [(.int (45 : Int32)), (.int p1)])) _
            by_cases hc39 : p1 = (45 : Int32)
            · refine Go.st (fun _ k_ => XS.icmpYes X0.here hx rfl (pc0 := 39) (pc' := 60) rfl (hb hby d1_39) rfl (teq hc39).1 (by decide) (by decide) k_) ?_
              show Go p e below (s₁.setTop (mkF m 60 #[.val (.int p1)] [])) _
              refine Go.st (fun _ k_ => XS.iconst X0.here hx rfl (hb hby d1_60) k_) ?_
              show Go p e below (s₁.setTop (mkF m 61 #[.val (.int p1)] [(.int (1 : Int32))])) _
              refine Go.st (fun _ k_ => XS.goto X0.here hx rfl (pc0 := 61) (pc' := 65) rfl (hb hby d1_61) (by decide) (by decide) k_) ?_
              show Go p e below (s₁.setTop (mkF m 65 #[.val (.int p1)] [(.int (1 : Int32))])) _
              refine Go.fin X0 (v := some (.int (1 : Int32))) (fun h_ => by rw [Bd.returns] at h_; cases h_) Bd.notSynchronized (fun _ hr => retN X0 hx (t := .boolean) Bd.returns (by simp) (hb hby d1_65) hr) (fun U' hU hF => ⟨_, _, rfl, ?_, hF.1, hF.2.1, hF.2.2.mono (by decide) (by decide)⟩)
              rw [hU, e0]
              exact ⟨(congrArg (fun z_ : Int32 => some (Value.int z_)) (show (1 : Int32) = (own_unr p1) from by simp [own_unr, hc3, hc15, hc21, hc27, hc33, hc39])), N0, rfl⟩
            · refine Go.st (fun _ k_ => XS.icmpNo X0.here hx rfl (hb hby d1_39) rfl (feq hc39).1 k_) ?_
              show Go p e below (s₁.setTop (mkF m 42 #[.val (.int p1)] [])) _
              refine Go.st (fun _ k_ => XS.iloadN X0.here hx rfl (hb hby d1_42) rfl k_) ?_
              show Go p e below (s₁.setTop (mkF m 43 #[.val (.int p1)] [(.int p1)])) _
              refine Go.st (fun _ k_ => XS.bipush X0.here hx rfl (hb hby d1_43) k_) ?_
              show Go p e below (s₁.setTop (mkF m 45 #[.val (.int p1)] [(.int (46 : Int32)), (.int p1)])) _
              by_cases hc45 : p1 = (46 : Int32)
              · refine Go.st (fun _ k_ => XS.icmpYes X0.here hx rfl (pc0 := 45) (pc' := 60) rfl (hb hby d1_45) rfl (teq hc45).1 (by decide) (by decide) k_) ?_
                show Go p e below (s₁.setTop (mkF m 60 #[.val (.int p1)] [])) _
                refine Go.st (fun _ k_ => XS.iconst X0.here hx rfl (hb hby d1_60) k_) ?_
                show Go p e below (s₁.setTop (mkF m 61 #[.val (.int p1)] [(.int (1 : Int32))])) _
                refine Go.st (fun _ k_ => XS.goto X0.here hx rfl (pc0 := 61) (pc' := 65) rfl (hb hby d1_61) (by decide) (by decide) k_) ?_
                show Go p e below (s₁.setTop (mkF m 65 #[.val (.int p1)] [(.int (1 : Int32))])) _
                refine Go.fin X0 (v := some (.int (1 : Int32))) (fun h_ => by rw [Bd.returns] at h_; cases h_) Bd.notSynchronized (fun _ hr => retN X0 hx (t := .boolean) Bd.returns (by simp) (hb hby d1_65) hr) (fun U' hU hF => ⟨_, _, rfl, ?_, hF.1, hF.2.1, hF.2.2.mono (by decide) (by decide)⟩)
                rw [hU, e0]
                exact ⟨(congrArg (fun z_ : Int32 => some (Value.int z_)) (show (1 : Int32) = (own_unr p1) from by simp [own_unr, hc3, hc15, hc21, hc27, hc33, hc39, hc45])), N0, rfl⟩
              · refine Go.st (fun _ k_ => XS.icmpNo X0.here hx rfl (hb hby d1_45) rfl (feq hc45).1 k_) ?_
                show Go p e below (s₁.setTop (mkF m 48 #[.val (.int p1)] [])) _
                refine Go.st (fun _ k_ => XS.iloadN X0.here hx rfl (hb hby d1_48) rfl k_) ?_
                show Go p e below (s₁.setTop (mkF m 49 #[.val (.int p1)] [(.int p1)])) _
                refine Go.st (fun _ k_ => XS.bipush X0.here hx rfl (hb hby d1_49) k_) ?_
                show Go p e below (s₁.setTop (mkF m 51 #[.val (.int p1)] [(.int (95 : Int32)), (.int p1)])) _
                by_cases hc51 : p1 = (95 : Int32)
                · refine Go.st (fun _ k_ => XS.icmpYes X0.here hx rfl (pc0 := 51) (pc' := 60) rfl (hb hby d1_51) rfl (teq hc51).1 (by decide) (by decide) k_) ?_
                  show Go p e below (s₁.setTop (mkF m 60 #[.val (.int p1)] [])) _
                  refine Go.st (fun _ k_ => XS.iconst X0.here hx rfl (hb hby d1_60) k_) ?_
                  show Go p e below (s₁.setTop (mkF m 61 #[.val (.int p1)] [(.int (1 : Int32))])) _
                  refine Go.st (fun _ k_ => XS.goto X0.here hx rfl (pc0 := 61) (pc' := 65) rfl (hb hby d1_61) (by decide) (by decide) k_) ?_
                  show Go p e below (s₁.setTop (mkF m 65 #[.val (.int p1)] [(.int (1 : Int32))])) _
                  refine Go.fin X0 (v := some (.int (1 : Int32))) (fun h_ => by rw [Bd.returns] at h_; cases h_) Bd.notSynchronized (fun _ hr => retN X0 hx (t := .boolean) Bd.returns (by simp) (hb hby d1_65) hr) (fun U' hU hF => ⟨_, _, rfl, ?_, hF.1, hF.2.1, hF.2.2.mono (by decide) (by decide)⟩)
                  rw [hU, e0]
                  exact ⟨(congrArg (fun z_ : Int32 => some (Value.int z_)) (show (1 : Int32) = (own_unr p1) from by simp [own_unr, hc3, hc15, hc21, hc27, hc33, hc39, hc45, hc51])), N0, rfl⟩
                · refine Go.st (fun _ k_ => XS.icmpNo X0.here hx rfl (hb hby d1_51) rfl (feq hc51).1 k_) ?_
                  show Go p e below (s₁.setTop (mkF m 54 #[.val (.int p1)] [])) _
                  refine Go.st (fun _ k_ => XS.iloadN X0.here hx rfl (hb hby d1_54) rfl k_) ?_
                  show Go p e below (s₁.setTop (mkF m 55 #[.val (.int p1)] [(.int p1)])) _
                  refine Go.st (fun _ k_ => XS.bipush X0.here hx rfl (hb hby d1_55) k_) ?_
                  show Go p e below (s₁.setTop (mkF m 57 #[.val (.int p1)] [(.int (126 : Int32)), (.int p1)])) _
                  by_cases hc57 : p1 = (126 : Int32)
                  · refine Go.st (fun _ k_ => XS.icmpNo X0.here hx rfl (hb hby d1_57) rfl (teq hc57).2 k_) ?_
                    show Go p e below (s₁.setTop (mkF m 60 #[.val (.int p1)] [])) _
                    refine Go.st (fun _ k_ => XS.iconst X0.here hx rfl (hb hby d1_60) k_) ?_
                    show Go p e below (s₁.setTop (mkF m 61 #[.val (.int p1)] [(.int (1 : Int32))])) _
                    refine Go.st (fun _ k_ => XS.goto X0.here hx rfl (pc0 := 61) (pc' := 65) rfl (hb hby d1_61) (by decide) (by decide) k_) ?_
                    show Go p e below (s₁.setTop (mkF m 65 #[.val (.int p1)] [(.int (1 : Int32))])) _
                    refine Go.fin X0 (v := some (.int (1 : Int32))) (fun h_ => by rw [Bd.returns] at h_; cases h_) Bd.notSynchronized (fun _ hr => retN X0 hx (t := .boolean) Bd.returns (by simp) (hb hby d1_65) hr) (fun U' hU hF => ⟨_, _, rfl, ?_, hF.1, hF.2.1, hF.2.2.mono (by decide) (by decide)⟩)
                    rw [hU, e0]
                    exact ⟨(congrArg (fun z_ : Int32 => some (Value.int z_)) (show (1 : Int32) = (own_unr p1) from by simp [own_unr, hc3, hc15, hc21, hc27, hc33, hc39, hc45, hc51, hc57])), N0, rfl⟩
                  · refine Go.st (fun _ k_ => XS.icmpYes X0.here hx rfl (pc0 := 57) (pc' := 64) rfl (hb hby d1_57) rfl (feq hc57).2 (by decide) (by decide) k_) ?_
                    show Go p e below (s₁.setTop (mkF m 64 #[.val (.int p1)] [])) _
                    refine Go.st (fun _ k_ => XS.iconst X0.here hx rfl (hb hby d1_64) k_) ?_
                    show Go p e below (s₁.setTop (mkF m 65 #[.val (.int p1)] [(.int (0 : Int32))])) _
                    refine Go.fin X0 (v := some (.int (0 : Int32))) (fun h_ => by rw [Bd.returns] at h_; cases h_) Bd.notSynchronized (fun _ hr => retN X0 hx (t := .boolean) Bd.returns (by simp) (hb hby d1_65) hr) (fun U' hU hF => ⟨_, _, rfl, ?_, hF.1, hF.2.1, hF.2.2.mono (by decide) (by decide)⟩)
                    rw [hU, e0]
                    exact ⟨(congrArg (fun z_ : Int32 => some (Value.int z_)) (show (0 : Int32) = (own_unr p1) from by simp [own_unr, hc3, hc15, hc21, hc27, hc33, hc39, hc45, hc51, hc57])), N0, rfl⟩
          · refine Go.st (fun _ k_ => XS.icmpYes X0.here hx rfl (pc0 := 33) (pc' := 60) rfl (hb hby d1_33) rfl (flt hc33).2.2.2 (by decide) (by decide) k_) ?_
            show Go p e below (s₁.setTop (mkF m 60 #[.val (.int p1)] [])) _
            refine Go.st (fun _ k_ => XS.iconst X0.here hx rfl (hb hby d1_60) k_) ?_
            show Go p e below (s₁.setTop (mkF m 61 #[.val (.int p1)] [(.int (1 : Int32))])) _
            refine Go.st (fun _ k_ => XS.goto X0.here hx rfl (pc0 := 61) (pc' := 65) rfl (hb hby d1_61) (by decide) (by decide) k_) ?_
            show Go p e below (s₁.setTop (mkF m 65 #[.val (.int p1)] [(.int (1 : Int32))])) _
            refine Go.fin X0 (v := some (.int (1 : Int32))) (fun h_ => by rw [Bd.returns] at h_; cases h_) Bd.notSynchronized (fun _ hr => retN X0 hx (t := .boolean) Bd.returns (by simp) (hb hby d1_65) hr) (fun U' hU hF => ⟨_, _, rfl, ?_, hF.1, hF.2.1, hF.2.2.mono (by decide) (by decide)⟩)
            rw [hU, e0]
            exact ⟨(congrArg (fun z_ : Int32 => some (Value.int z_)) (show (1 : Int32) = (own_unr p1) from by simp [own_unr, hc3, hc15, hc21, hc27, hc33])), N0, rfl⟩
      · refine Go.st (fun _ k_ => XS.icmpYes X0.here hx rfl (pc0 := 21) (pc' := 60) rfl (hb hby d1_21) rfl (flt hc21).2.2.2 (by decide) (by decide) k_) ?_
        show Go p e below (s₁.setTop (mkF m 60 #[.val (.int p1)] [])) _
        refine Go.st (fun _ k_ => XS.iconst X0.here hx rfl (hb hby d1_60) k_) ?_
        show Go p e below (s₁.setTop (mkF m 61 #[.val (.int p1)] [(.int (1 : Int32))])) _
        refine Go.st (fun _ k_ => XS.goto X0.here hx rfl (pc0 := 61) (pc' := 65) rfl (hb hby d1_61) (by decide) (by decide) k_) ?_
        show Go p e below (s₁.setTop (mkF m 65 #[.val (.int p1)] [(.int (1 : Int32))])) _
        refine Go.fin X0 (v := some (.int (1 : Int32))) (fun h_ => by rw [Bd.returns] at h_; cases h_) Bd.notSynchronized (fun _ hr => retN X0 hx (t := .boolean) Bd.returns (by simp) (hb hby d1_65) hr) (fun U' hU hF => ⟨_, _, rfl, ?_, hF.1, hF.2.1, hF.2.2.mono (by decide) (by decide)⟩)
        rw [hU, e0]
        exact ⟨(congrArg (fun z_ : Int32 => some (Value.int z_)) (show (1 : Int32) = (own_unr p1) from by simp [own_unr, hc3, hc15, hc21])), N0, rfl⟩
  · refine Go.st (fun _ k_ => XS.icmpNo X0.here hx rfl (hb hby d1_3) rfl (flt hc3).1 k_) ?_
    show Go p e below (s₁.setTop (mkF m 6 #[.val (.int p1)] [])) _
    refine Go.st (fun _ k_ => XS.iloadN X0.here hx rfl (hb hby d1_6) rfl k_) ?_
    show Go p e below (s₁.setTop (mkF m 7 #[.val (.int p1)] [(.int p1)])) _
    refine Go.st (fun _ k_ => XS.bipush X0.here hx rfl (hb hby d1_7) k_) ?_
    show Go p e below (s₁.setTop (mkF m 9 #[.val (.int p1)] [(.int (90 : Int32)), (.int p1)])) _
    by_cases hc9 : (90 : Int32) < p1
    · refine Go.st (fun _ k_ => XS.icmpNo X0.here hx rfl (hb hby d1_9) rfl (tlt hc9).2.2.2 k_) ?_
      show Go p e below (s₁.setTop (mkF m 12 #[.val (.int p1)] [])) _
      refine Go.st (fun _ k_ => XS.iloadN X0.here hx rfl (hb hby d1_12) rfl k_) ?_
      show Go p e below (s₁.setTop (mkF m 13 #[.val (.int p1)] [(.int p1)])) _
      refine Go.st (fun _ k_ => XS.bipush X0.here hx rfl (hb hby d1_13) k_) ?_
      show Go p e below (s₁.setTop (mkF m 15 #[.val (.int p1)] [(.int (97 : Int32)), (.int p1)])) _
      by_cases hc15 : p1 < (97 : Int32)
      · refine Go.st (fun _ k_ => XS.icmpYes X0.here hx rfl (pc0 := 15) (pc' := 24) rfl (hb hby d1_15) rfl (tlt hc15).1 (by decide) (by decide) k_) ?_
        show Go p e below (s₁.setTop (mkF m 24 #[.val (.int p1)] [])) _
        refine Go.st (fun _ k_ => XS.iloadN X0.here hx rfl (hb hby d1_24) rfl k_) ?_
        show Go p e below (s₁.setTop (mkF m 25 #[.val (.int p1)] [(.int p1)])) _
        refine Go.st (fun _ k_ => XS.bipush X0.here hx rfl (hb hby d1_25) k_) ?_
        show Go p e below (s₁.setTop (mkF m 27 #[.val (.int p1)] [(.int (48 : Int32)), (.int p1)])) _
        by_cases hc27 : p1 < (48 : Int32)
        · refine Go.st (fun _ k_ => XS.icmpYes X0.here hx rfl (pc0 := 27) (pc' := 36) rfl (hb hby d1_27) rfl (tlt hc27).1 (by decide) (by decide) k_) ?_
          show Go p e below (s₁.setTop (mkF m 36 #[.val (.int p1)] [])) _
          refine Go.st (fun _ k_ => XS.iloadN X0.here hx rfl (hb hby d1_36) rfl k_) ?_
          show Go p e below (s₁.setTop (mkF m 37 #[.val (.int p1)] [(.int p1)])) _
          refine Go.st (fun _ k_ => XS.bipush X0.here hx rfl (hb hby d1_37) k_) ?_
          show Go p e below (s₁.setTop (mkF m 39 #[.val (.int p1)] [(.int (45 : Int32)), (.int p1)])) _
          by_cases hc39 : p1 = (45 : Int32)
          · refine Go.st (fun _ k_ => XS.icmpYes X0.here hx rfl (pc0 := 39) (pc' := 60) rfl (hb hby d1_39) rfl (teq hc39).1 (by decide) (by decide) k_) ?_
            show Go p e below (s₁.setTop (mkF m 60 #[.val (.int p1)] [])) _
            refine Go.st (fun _ k_ => XS.iconst X0.here hx rfl (hb hby d1_60) k_) ?_
            show Go p e below (s₁.setTop (mkF m 61 #[.val (.int p1)] [(.int (1 : Int32))])) _
            refine Go.st (fun _ k_ => XS.goto X0.here hx rfl (pc0 := 61) (pc' := 65) rfl (hb hby d1_61) (by decide) (by decide) k_) ?_
            show Go p e below (s₁.setTop (mkF m 65 #[.val (.int p1)] [(.int (1 : Int32))])) _
            refine Go.fin X0 (v := some (.int (1 : Int32))) (fun h_ => by rw [Bd.returns] at h_; cases h_) Bd.notSynchronized (fun _ hr => retN X0 hx (t := .boolean) Bd.returns (by simp) (hb hby d1_65) hr) (fun U' hU hF => ⟨_, _, rfl, ?_, hF.1, hF.2.1, hF.2.2.mono (by decide) (by decide)⟩)
            rw [hU, e0]
            exact ⟨(congrArg (fun z_ : Int32 => some (Value.int z_)) (show (1 : Int32) = (own_unr p1) from by simp [own_unr, hc3, hc9, hc15, hc27, hc39])), N0, rfl⟩
          · refine Go.st (fun _ k_ => XS.icmpNo X0.here hx rfl (hb hby d1_39) rfl (feq hc39).1 k_) ?_
            show Go p e below (s₁.setTop (mkF m 42 #[.val (.int p1)] [])) _
            refine Go.st (fun _ k_ => XS.iloadN X0.here hx rfl (hb hby d1_42) rfl k_) ?_
            show Go p e below (s₁.setTop (mkF m 43 #[.val (.int p1)] [(.int p1)])) _
            refine Go.st (fun _ k_ => XS.bipush X0.here hx rfl (hb hby d1_43) k_) ?_
            show Go p e below (s₁.setTop (mkF m 45 #[.val (.int p1)] [(.int (46 : Int32)), (.int p1)])) _
            by_cases hc45 : p1 = (46 : Int32)
            · refine Go.st (fun _ k_ => XS.icmpYes X0.here hx rfl (pc0 := 45) (pc' := 60) rfl (hb hby d1_45) rfl (teq hc45).1 (by decide) (by decide) k_) ?_
              show Go p e below (s₁.setTop (mkF m 60 #[.val (.int p1)] [])) _
              refine Go.st (fun _ k_ => XS.iconst X0.here hx rfl (hb hby d1_60) k_) ?_
              show Go p e below (s₁.setTop (mkF m 61 #[.val (.int p1)] [(.int (1 : Int32))])) _
              refine Go.st (fun _ k_ => XS.goto X0.here hx rfl (pc0 := 61) (pc' := 65) rfl (hb hby d1_61) (by decide) (by decide) k_) ?_
              show Go p e below (s₁.setTop (mkF m 65 #[.val (.int p1)] [(.int (1 : Int32))])) _
              refine Go.fin X0 (v := some (.int (1 : Int32))) (fun h_ => by rw [Bd.returns] at h_; cases h_) Bd.notSynchronized (fun _ hr => retN X0 hx (t := .boolean) Bd.returns (by simp) (hb hby d1_65) hr) (fun U' hU hF => ⟨_, _, rfl, ?_, hF.1, hF.2.1, hF.2.2.mono (by decide) (by decide)⟩)
              rw [hU, e0]
              exact ⟨(congrArg (fun z_ : Int32 => some (Value.int z_)) (show (1 : Int32) = (own_unr p1) from by simp [own_unr, hc3, hc9, hc15, hc27, hc39, hc45])), N0, rfl⟩
            · refine Go.st (fun _ k_ => XS.icmpNo X0.here hx rfl (hb hby d1_45) rfl (feq hc45).1 k_) ?_
              show Go p e below (s₁.setTop (mkF m 48 #[.val (.int p1)] [])) _
              refine Go.st (fun _ k_ => XS.iloadN X0.here hx rfl (hb hby d1_48) rfl k_) ?_
              show Go p e below (s₁.setTop (mkF m 49 #[.val (.int p1)] [(.int p1)])) _
              refine Go.st (fun _ k_ => XS.bipush X0.here hx rfl (hb hby d1_49) k_) ?_
              show Go p e below (s₁.setTop (mkF m 51 #[.val (.int p1)] [(.int (95 : Int32)), (.int p1)])) _
              by_cases hc51 : p1 = (95 : Int32)
              · refine Go.st (fun _ k_ => XS.icmpYes X0.here hx rfl (pc0 := 51) (pc' := 60) rfl (hb hby d1_51) rfl (teq hc51).1 (by decide) (by decide) k_) ?_
                show Go p e below (s₁.setTop (mkF m 60 #[.val (.int p1)] [])) _
                refine Go.st (fun _ k_ => XS.iconst X0.here hx rfl (hb hby d1_60) k_) ?_
                show Go p e below (s₁.setTop (mkF m 61 #[.val (.int p1)] [(.int (1 : Int32))])) _
                refine Go.st (fun _ k_ => XS.goto X0.here hx rfl (pc0 := 61) (pc' := 65) rfl (hb hby d1_61) (by decide) (by decide) k_) ?_
                show Go p e below (s₁.setTop (mkF m 65 #[.val (.int p1)] [(.int (1 : Int32))])) _
                refine Go.fin X0 (v := some (.int (1 : Int32))) (fun h_ => by rw [Bd.returns] at h_; cases h_) Bd.notSynchronized (fun _ hr => retN X0 hx (t := .boolean) Bd.returns (by simp) (hb hby d1_65) hr) (fun U' hU hF => ⟨_, _, rfl, ?_, hF.1, hF.2.1, hF.2.2.mono (by decide) (by decide)⟩)
                rw [hU, e0]
                exact ⟨(congrArg (fun z_ : Int32 => some (Value.int z_)) (show (1 : Int32) = (own_unr p1) from by simp [own_unr, hc3, hc9, hc15, hc27, hc39, hc45, hc51])), N0, rfl⟩
              · refine Go.st (fun _ k_ => XS.icmpNo X0.here hx rfl (hb hby d1_51) rfl (feq hc51).1 k_) ?_
                show Go p e below (s₁.setTop (mkF m 54 #[.val (.int p1)] [])) _
                refine Go.st (fun _ k_ => XS.iloadN X0.here hx rfl (hb hby d1_54) rfl k_) ?_
                show Go p e below (s₁.setTop (mkF m 55 #[.val (.int p1)] [(.int p1)])) _
                refine Go.st (fun _ k_ => XS.bipush X0.here hx rfl (hb hby d1_55) k_) ?_
                show Go p e below (s₁.setTop (mkF m 57 #[.val (.int p1)] [(.int (126 : Int32)), (.int p1)])) _
                by_cases hc57 : p1 = (126 : Int32)
                · refine Go.st (fun _ k_ => XS.icmpNo X0.here hx rfl (hb hby d1_57) rfl (teq hc57).2 k_) ?_
                  show Go p e below (s₁.setTop (mkF m 60 #[.val (.int p1)] [])) _
                  refine Go.st (fun _ k_ => XS.iconst X0.here hx rfl (hb hby d1_60) k_) ?_
                  show Go p e below (s₁.setTop (mkF m 61 #[.val (.int p1)] [(.int (1 : Int32))])) _
                  refine Go.st (fun _ k_ => XS.goto X0.here hx rfl (pc0 := 61) (pc' := 65) rfl (hb hby d1_61) (by decide) (by decide) k_) ?_
                  show Go p e below (s₁.setTop (mkF m 65 #[.val (.int p1)] [(.int (1 : Int32))])) _
                  refine Go.fin X0 (v := some (.int (1 : Int32))) (fun h_ => by rw [Bd.returns] at h_; cases h_) Bd.notSynchronized (fun _ hr => retN X0 hx (t := .boolean) Bd.returns (by simp) (hb hby d1_65) hr) (fun U' hU hF => ⟨_, _, rfl, ?_, hF.1, hF.2.1, hF.2.2.mono (by decide) (by decide)⟩)
                  rw [hU, e0]
                  exact ⟨(congrArg (fun z_ : Int32 => some (Value.int z_)) (show (1 : Int32) = (own_unr p1) from by simp [own_unr, hc3, hc9, hc15, hc27, hc39, hc45, hc51, hc57])), N0, rfl⟩
                · refine Go.st (fun _ k_ => XS.icmpYes X0.here hx rfl (pc0 := 57) (pc' := 64) rfl (hb hby d1_57) rfl (feq hc57).2 (by decide) (by decide) k_) ?_
                  show Go p e below (s₁.setTop (mkF m 64 #[.val (.int p1)] [])) _
                  refine Go.st (fun _ k_ => XS.iconst X0.here hx rfl (hb hby d1_64) k_) ?_
                  show Go p e below (s₁.setTop (mkF m 65 #[.val (.int p1)] [(.int (0 : Int32))])) _
                  refine Go.fin X0 (v := some (.int (0 : Int32))) (fun h_ => by rw [Bd.returns] at h_; cases h_) Bd.notSynchronized (fun _ hr => retN X0 hx (t := .boolean) Bd.returns (by simp) (hb hby d1_65) hr) (fun U' hU hF => ⟨_, _, rfl, ?_, hF.1, hF.2.1, hF.2.2.mono (by decide) (by decide)⟩)
                  rw [hU, e0]
                  exact ⟨(congrArg (fun z_ : Int32 => some (Value.int z_)) (show (0 : Int32) = (own_unr p1) from by simp [own_unr, hc3, hc9, hc15, hc27, hc39, hc45, hc51, hc57])), N0, rfl⟩
        · refine Go.st (fun _ k_ => XS.icmpNo X0.here hx rfl (hb hby d1_27) rfl (flt hc27).1 k_) ?_
          show Go p e below (s₁.setTop (mkF m 30 #[.val (.int p1)] [])) _
          refine Go.st (fun _ k_ => XS.iloadN X0.here hx rfl (hb hby d1_30) rfl k_) ?_
          show Go p e below (s₁.setTop (mkF m 31 #[.val (.int p1)] [(.int p1)])) _
          refine Go.st (fun _ k_ => XS.bipush X0.here hx rfl (hb hby d1_31) k_) ?_
          show Go p e below (s₁.setTop (mkF m 33 #[.val (.int p1)] [(.int (57 : Int32)), (.int p1)])) _
          by_cases hc33 : (57 : Int32) < p1
          · refine Go.st (fun _ k_ => XS.icmpNo X0.here hx rfl (hb hby d1_33) rfl (tlt hc33).2.2.2 k_) ?_
            show Go p e below (s₁.setTop (mkF m 36 #[.val (.int p1)] [])) _
            refine Go.st (fun _ k_ => XS.iloadN X0.here hx rfl (hb hby d1_36) rfl k_) ?_
            show Go p e below (s₁.setTop (mkF m 37 #[.val (.int p1)] [(.int p1)])) _
            refine Go.st (fun _ k_ => XS.bipush X0.here hx rfl (hb hby d1_37) k_) ?_
            show Go p e below (s₁.setTop (mkF m 39 #[.val (.int p1)] [(.int (45 : Int32)), (.int p1)])) _
            by_cases hc39 : p1 = (45 : Int32)
            · refine Go.st (fun _ k_ => XS.icmpYes X0.here hx rfl (pc0 := 39) (pc' := 60) rfl (hb hby d1_39) rfl (teq hc39).1 (by decide) (by decide) k_) ?_
              show Go p e below (s₁.setTop (mkF m 60 #[.val (.int p1)] [])) _
              refine Go.st (fun _ k_ => XS.iconst X0.here hx rfl (hb hby d1_60) k_) ?_
              show Go p e below (s₁.setTop (mkF m 61 #[.val (.int p1)] [(.int (1 : Int32))])) _
              refine Go.st (fun _ k_ => XS.goto X0.here hx rfl (pc0 := 61) (pc' := 65) rfl (hb hby d1_61) (by decide) (by decide) k_) ?_
              show Go p e below (s₁.setTop (mkF m 65 #[.val (.int p1)] [(.int (1 : Int32))])) _
              refine Go.fin X0 (v := some (.int (1 : Int32))) (fun h_ => by rw [Bd.returns] at h_; cases h_) Bd.notSynchronized (fun _ hr => retN X0 hx (t := .boolean) Bd.returns (by simp) (hb hby d1_65) hr) (fun U' hU hF => ⟨_, _, rfl, ?_, hF.1, hF.2.1, hF.2.2.mono (by decide) (by decide)⟩)
              rw [hU, e0]
              exact ⟨(congrArg (fun z_ : Int32 => some (Value.int z_)) (show (1 : Int32) = (own_unr p1) from by simp [own_unr, hc3, hc9, hc15, hc27, hc33, hc39])), N0, rfl⟩
            · refine Go.st (fun _ k_ => XS.icmpNo X0.here hx rfl (hb hby d1_39) rfl (feq hc39).1 k_) ?_
              show Go p e below (s₁.setTop (mkF m 42 #[.val (.int p1)] [])) _
              refine Go.st (fun _ k_ => XS.iloadN X0.here hx rfl (hb hby d1_42) rfl k_) ?_
              show Go p e below (s₁.setTop (mkF m 43 #[.val (.int p1)] [(.int p1)])) _
              refine Go.st (fun _ k_ => XS.bipush X0.here hx rfl (hb hby d1_43) k_) ?_
              show Go p e below (s₁.setTop (mkF m 45 #[.val (.int p1)] [(.int (46 : Int32)), (.int p1)])) _
              by_cases hc45 : p1 = (46 : Int32)
              · refine Go.st (fun _ k_ => XS.icmpYes X0.here hx rfl (pc0 := 45) (pc' := 60) rfl (hb hby d1_45) rfl (teq hc45).1 (by decide) (by decide) k_) ?_
                show Go p e below (s₁.setTop (mkF m 60 #[.val (.int p1)] [])) _
                refine Go.st (fun _ k_ => XS.iconst X0.here hx rfl (hb hby d1_60) k_) ?_
                show Go p e below (s₁.setTop (mkF m 61 #[.val (.int p1)] [(.int (1 : Int32))])) _
                refine Go.st (fun _ k_ => XS.goto X0.here hx rfl (pc0 := 61) (pc' := 65) rfl (hb hby d1_61) (by decide) (by decide) k_) ?_
                show Go p e below (s₁.setTop (mkF m 65 #[.val (.int p1)] [(.int (1 : Int32))])) _
                refine Go.fin X0 (v := some (.int (1 : Int32))) (fun h_ => by rw [Bd.returns] at h_; cases h_) Bd.notSynchronized (fun _ hr => retN X0 hx (t := .boolean) Bd.returns (by simp) (hb hby d1_65) hr) (fun U' hU hF => ⟨_, _, rfl, ?_, hF.1, hF.2.1, hF.2.2.mono (by decide) (by decide)⟩)
                rw [hU, e0]
                exact ⟨(congrArg (fun z_ : Int32 => some (Value.int z_)) (show (1 : Int32) = (own_unr p1) from by simp [own_unr, hc3, hc9, hc15, hc27, hc33, hc39, hc45])), N0, rfl⟩
              · refine Go.st (fun _ k_ => XS.icmpNo X0.here hx rfl (hb hby d1_45) rfl (feq hc45).1 k_) ?_
                show Go p e below (s₁.setTop (mkF m 48 #[.val (.int p1)] [])) _
                refine Go.st (fun _ k_ => XS.iloadN X0.here hx rfl (hb hby d1_48) rfl k_) ?_
                show Go p e below (s₁.setTop (mkF m 49 #[.val (.int p1)] [(.int p1)])) _
                refine Go.st (fun _ k_ => XS.bipush X0.here hx rfl (hb hby d1_49) k_) ?_
                show Go p e below (s₁.setTop (mkF m 51 #[.val (.int p1)] [(.int (95 : Int32)), (.int p1)])) _
                by_cases hc51 : p1 = (95 : Int32)
                · refine Go.st (fun _ k_ => XS.icmpYes X0.here hx rfl (pc0 := 51) (pc' := 60) rfl (hb hby d1_51) rfl (teq hc51).1 (by decide) (by decide) k_) ?_
                  show Go p e below (s₁.setTop (mkF m 60 #[.val (.int p1)] [])) _
                  refine Go.st (fun _ k_ => XS.iconst X0.here hx rfl (hb hby d1_60) k_) ?_
                  show Go p e below (s₁.setTop (mkF m 61 #[.val (.int p1)] [(.int (1 : Int32))])) _
                  refine Go.st (fun _ k_ => XS.goto X0.here hx rfl (pc0 := 61) (pc' := 65) rfl (hb hby d1_61) (by decide) (by decide) k_) ?_
                  show Go p e below (s₁.setTop (mkF m 65 #[.val (.int p1)] [(.int (1 : Int32))])) _
                  refine Go.fin X0 (v := some (.int (1 : Int32))) (fun h_ => by rw [Bd.returns] at h_; cases h_) Bd.notSynchronized (fun _ hr => retN X0 hx (t := .boolean) Bd.returns (by simp) (hb hby d1_65) hr) (fun U' hU hF => ⟨_, _, rfl, ?_, hF.1, hF.2.1, hF.2.2.mono (by decide) (by decide)⟩)
                  rw [hU, e0]
                  exact ⟨(congrArg (fun z_ : Int32 => some (Value.int z_)) (show (1 : Int32) = (own_unr p1) from by simp [own_unr, hc3, hc9, hc15, hc27, hc33, hc39, hc45, hc51])), N0, rfl⟩
                · refine Go.st (fun _ k_ => XS.icmpNo X0.here hx rfl (hb hby d1_51) rfl (feq hc51).1 k_) ?_
                  show Go p e below (s₁.setTop (mkF m 54 #[.val (.int p1)] [])) _
                  refine Go.st (fun _ k_ => XS.iloadN X0.here hx rfl (hb hby d1_54) rfl k_) ?_
                  show Go p e below (s₁.setTop (mkF m 55 #[.val (.int p1)] [(.int p1)])) _
                  refine Go.st (fun _ k_ => XS.bipush X0.here hx rfl (hb hby d1_55) k_) ?_
                  show Go p e below (s₁.setTop (mkF m 57 #[.val (.int p1)] [(.int (126 : Int32)), (.int p1)])) _
                  by_cases hc57 : p1 = (126 : Int32)
                  · refine Go.st (fun _ k_ => XS.icmpNo X0.here hx rfl (hb hby d1_57) rfl (teq hc57).2 k_) ?_
                    show Go p e below (s₁.setTop (mkF m 60 #[.val (.int p1)] [])) _
                    refine Go.st (fun _ k_ => XS.iconst X0.here hx rfl (hb hby d1_60) k_) ?_
                    show Go p e below (s₁.setTop (mkF m 61 #[.val (.int p1)] [(.int (1 : Int32))])) _
                    refine Go.st (fun _ k_ => XS.goto X0.here hx rfl (pc0 := 61) (pc' := 65) rfl (hb hby d1_61) (by decide) (by decide) k_) ?_
                    show Go p e below (s₁.setTop (mkF m 65 #[.val (.int p1)] [(.int (1 : Int32))])) _
                    refine Go.fin X0 (v := some (.int (1 : Int32))) (fun h_ => by rw [Bd.returns] at h_; cases h_) Bd.notSynchronized (fun _ hr => retN X0 hx (t := .boolean) Bd.returns (by simp) (hb hby d1_65) hr) (fun U' hU hF => ⟨_, _, rfl, ?_, hF.1, hF.2.1, hF.2.2.mono (by decide) (by decide)⟩)
                    rw [hU, e0]
                    exact ⟨(congrArg (fun z_ : Int32 => some (Value.int z_)) (show (1 : Int32) = (own_unr p1) from by simp [own_unr, hc3, hc9, hc15, hc27, hc33, hc39, hc45, hc51, hc57])), N0, rfl⟩
                  · refine Go.st (fun _ k_ => XS.icmpYes X0.here hx rfl (pc0 := 57) (pc' := 64) rfl (hb hby d1_57) rfl (feq hc57).2 (by decide) (by decide) k_) ?_
                    show Go p e below (s₁.setTop (mkF m 64 #[.val (.int p1)] [])) _
                    refine Go.st (fun _ k_ => XS.iconst X0.here hx rfl (hb hby d1_64) k_) ?_
                    show Go p e below (s₁.setTop (mkF m 65 #[.val (.int p1)] [(.int (0 : Int32))])) _
                    refine Go.fin X0 (v := some (.int (0 : Int32))) (fun h_ => by rw [Bd.returns] at h_; cases h_) Bd.notSynchronized (fun _ hr => retN X0 hx (t := .boolean) Bd.returns (by simp) (hb hby d1_65) hr) (fun U' hU hF => ⟨_, _, rfl, ?_, hF.1, hF.2.1, hF.2.2.mono (by decide) (by decide)⟩)
                    rw [hU, e0]
                    exact ⟨(congrArg (fun z_ : Int32 => some (Value.int z_)) (show (0 : Int32) = (own_unr p1) from by simp [own_unr, hc3, hc9, hc15, hc27, hc33, hc39, hc45, hc51, hc57])), N0, rfl⟩
          · refine Go.st (fun _ k_ => XS.icmpYes X0.here hx rfl (pc0 := 33) (pc' := 60) rfl (hb hby d1_33) rfl (flt hc33).2.2.2 (by decide) (by decide) k_) ?_
            show Go p e below (s₁.setTop (mkF m 60 #[.val (.int p1)] [])) _
            refine Go.st (fun _ k_ => XS.iconst X0.here hx rfl (hb hby d1_60) k_) ?_
            show Go p e below (s₁.setTop (mkF m 61 #[.val (.int p1)] [(.int (1 : Int32))])) _
            refine Go.st (fun _ k_ => XS.goto X0.here hx rfl (pc0 := 61) (pc' := 65) rfl (hb hby d1_61) (by decide) (by decide) k_) ?_
            show Go p e below (s₁.setTop (mkF m 65 #[.val (.int p1)] [(.int (1 : Int32))])) _
            refine Go.fin X0 (v := some (.int (1 : Int32))) (fun h_ => by rw [Bd.returns] at h_; cases h_) Bd.notSynchronized (fun _ hr => retN X0 hx (t := .boolean) Bd.returns (by simp) (hb hby d1_65) hr) (fun U' hU hF => ⟨_, _, rfl, ?_, hF.1, hF.2.1, hF.2.2.mono (by decide) (by decide)⟩)
            rw [hU, e0]
            exact ⟨(congrArg (fun z_ : Int32 => some (Value.int z_)) (show (1 : Int32) = (own_unr p1) from by simp [own_unr, hc3, hc9, hc15, hc27, hc33])), N0, rfl⟩
      · refine Go.st (fun _ k_ => XS.icmpNo X0.here hx rfl (hb hby d1_15) rfl (flt hc15).1 k_) ?_
        show Go p e below (s₁.setTop (mkF m 18 #[.val (.int p1)] [])) _
        refine Go.st (fun _ k_ => XS.iloadN X0.here hx rfl (hb hby d1_18) rfl k_) ?_
        show Go p e below (s₁.setTop (mkF m 19 #[.val (.int p1)] [(.int p1)])) _
        refine Go.st (fun _ k_ => XS.bipush X0.here hx rfl (hb hby d1_19) k_) ?_
        show Go p e below (s₁.setTop (mkF m 21 #[.val (.int p1)] [(.int (122 : Int32)), (.int p1)])) _
        by_cases hc21 : (122 : Int32) < p1
        · refine Go.st (fun _ k_ => XS.icmpNo X0.here hx rfl (hb hby d1_21) rfl (tlt hc21).2.2.2 k_) ?_
          show Go p e below (s₁.setTop (mkF m 24 #[.val (.int p1)] [])) _
          refine Go.st (fun _ k_ => XS.iloadN X0.here hx rfl (hb hby d1_24) rfl k_) ?_
          show Go p e below (s₁.setTop (mkF m 25 #[.val (.int p1)] [(.int p1)])) _
          refine Go.st (fun _ k_ => XS.bipush X0.here hx rfl (hb hby d1_25) k_) ?_
          show Go p e below (s₁.setTop (mkF m 27 #[.val (.int p1)] [(.int (48 : Int32)), (.int p1)])) _
          by_cases hc27 : p1 < (48 : Int32)
          · refine Go.st (fun _ k_ => XS.icmpYes X0.here hx rfl (pc0 := 27) (pc' := 36) rfl (hb hby d1_27) rfl (tlt hc27).1 (by decide) (by decide) k_) ?_
            show Go p e below (s₁.setTop (mkF m 36 #[.val (.int p1)] [])) _
            refine Go.st (fun _ k_ => XS.iloadN X0.here hx rfl (hb hby d1_36) rfl k_) ?_
            show Go p e below (s₁.setTop (mkF m 37 #[.val (.int p1)] [(.int p1)])) _
            refine Go.st (fun _ k_ => XS.bipush X0.here hx rfl (hb hby d1_37) k_) ?_
            show Go p e below (s₁.setTop (mkF m 39 #[.val (.int p1)] [(.int (45 : Int32)), (.int p1)])) _
            by_cases hc39 : p1 = (45 : Int32)
            · refine Go.st (fun _ k_ => XS.icmpYes X0.here hx rfl (pc0 := 39) (pc' := 60) rfl (hb hby d1_39) rfl (teq hc39).1 (by decide) (by decide) k_) ?_
              show Go p e below (s₁.setTop (mkF m 60 #[.val (.int p1)] [])) _
              refine Go.st (fun _ k_ => XS.iconst X0.here hx rfl (hb hby d1_60) k_) ?_
              show Go p e below (s₁.setTop (mkF m 61 #[.val (.int p1)] [(.int (1 : Int32))])) _
              refine Go.st (fun _ k_ => XS.goto X0.here hx rfl (pc0 := 61) (pc' := 65) rfl (hb hby d1_61) (by decide) (by decide) k_) ?_
              show Go p e below (s₁.setTop (mkF m 65 #[.val (.int p1)] [(.int (1 : Int32))])) _
              refine Go.fin X0 (v := some (.int (1 : Int32))) (fun h_ => by rw [Bd.returns] at h_; cases h_) Bd.notSynchronized (fun _ hr => retN X0 hx (t := .boolean) Bd.returns (by simp) (hb hby d1_65) hr) (fun U' hU hF => ⟨_, _, rfl, ?_, hF.1, hF.2.1, hF.2.2.mono (by decide) (by decide)⟩)
              rw [hU, e0]
              exact ⟨(congrArg (fun z_ : Int32 => some (Value.int z_)) (show (1 : Int32) = (own_unr p1) from by simp [own_unr, hc3, hc9, hc15, hc21, hc27, hc39])), N0, rfl⟩
            · refine Go.st (fun _ k_ => XS.icmpNo X0.here hx rfl (hb hby d1_39) rfl (feq hc39).1 k_) ?_
              show Go p e below (s₁.setTop (mkF m 42 #[.val (.int p1)] [])) _
              refine Go.st (fun _ k_ => XS.iloadN X0.here hx rfl (hb hby d1_42) rfl k_) ?_
              show Go p e below (s₁.setTop (mkF m 43 #[.val (.int p1)] [(.int p1)])) _
              refine Go.st (fun _ k_ => XS.bipush X0.here hx rfl (hb hby d1_43) k_) ?_
              show Go p e below (s₁.setTop (mkF m 45 #[.val (.int p1)] [(.int (46 : Int32)), (.int p1)])) _
              by_cases hc45 : p1 = (46 : Int32)
              · refine Go.st (fun _ k_ => XS.icmpYes X0.here hx rfl (pc0 := 45) (pc' := 60) rfl (hb hby d1_45) rfl (teq hc45).1 (by decide) (by decide) k_) ?_
                show Go p e below (s₁.setTop (mkF m 60 #[.val (.int p1)] [])) _
                refine Go.st (fun _ k_ => XS.iconst X0.here hx rfl (hb hby d1_60) k_) ?_
                show Go p e below (s₁.setTop (mkF m 61 #[.val (.int p1)] [(.int (1 : Int32))])) _
                refine Go.st (fun _ k_ => XS.goto X0.here hx rfl (pc0 := 61) (pc' := 65) rfl (hb hby d1_61) (by decide) (by decide) k_) ?_
                show Go p e below (s₁.setTop (mkF m 65 #[.val (.int p1)] [(.int (1 : Int32))])) _
                refine Go.fin X0 (v := some (.int (1 : Int32))) (fun h_ => by rw [Bd.returns] at h_; cases h_) Bd.notSynchronized (fun _ hr => retN X0 hx (t := .boolean) Bd.returns (by simp) (hb hby d1_65) hr) (fun U' hU hF => ⟨_, _, rfl, ?_, hF.1, hF.2.1, hF.2.2.mono (by decide) (by decide)⟩)
                rw [hU, e0]
                exact ⟨(congrArg (fun z_ : Int32 => some (Value.int z_)) (show (1 : Int32) = (own_unr p1) from by simp [own_unr, hc3, hc9, hc15, hc21, hc27, hc39, hc45])), N0, rfl⟩
              · refine Go.st (fun _ k_ => XS.icmpNo X0.here hx rfl (hb hby d1_45) rfl (feq hc45).1 k_) ?_
                show Go p e below (s₁.setTop (mkF m 48 #[.val (.int p1)] [])) _
                refine Go.st (fun _ k_ => XS.iloadN X0.here hx rfl (hb hby d1_48) rfl k_) ?_
                show Go p e below (s₁.setTop (mkF m 49 #[.val (.int p1)] [(.int p1)])) _
                refine Go.st (fun _ k_ => XS.bipush X0.here hx rfl (hb hby d1_49) k_) ?_
                show Go p e below (s₁.setTop (mkF m 51 #[.val (.int p1)] [(.int (95 : Int32)), (.int p1)])) _
                by_cases hc51 : p1 = (95 : Int32)
                · refine Go.st (fun _ k_ => XS.icmpYes X0.here hx rfl (pc0 := 51) (pc' := 60) rfl (hb hby d1_51) rfl (teq hc51).1 (by decide) (by decide) k_) ?_
                  show Go p e below (s₁.setTop (mkF m 60 #[.val (.int p1)] [])) _
                  refine Go.st (fun _ k_ => XS.iconst X0.here hx rfl (hb hby d1_60) k_) ?_
                  show Go p e below (s₁.setTop (mkF m 61 #[.val (.int p1)] [(.int (1 : Int32))])) _
                  refine Go.st (fun _ k_ => XS.goto X0.here hx rfl (pc0 := 61) (pc' := 65) rfl (hb hby d1_61) (by decide) (by decide) k_) ?_
                  show Go p e below (s₁.setTop (mkF m 65 #[.val (.int p1)] [(.int (1 : Int32))])) _
                  refine Go.fin X0 (v := some (.int (1 : Int32))) (fun h_ => by rw [Bd.returns] at h_; cases h_) Bd.notSynchronized (fun _ hr => retN X0 hx (t := .boolean) Bd.returns (by simp) (hb hby d1_65) hr) (fun U' hU hF => ⟨_, _, rfl, ?_, hF.1, hF.2.1, hF.2.2.mono (by decide) (by decide)⟩)
                  rw [hU, e0]
                  exact ⟨(congrArg (fun z_ : Int32 => some (Value.int z_)) (show (1 : Int32) = (own_unr p1) from by simp [own_unr, hc3, hc9, hc15, hc21, hc27, hc39, hc45, hc51])), N0, rfl⟩
                · refine Go.st (fun _ k_ => XS.icmpNo X0.here hx rfl (hb hby d1_51) rfl (feq hc51).1 k_) ?_
                  show Go p e below (s₁.setTop (mkF m 54 #[.val (.int p1)] [])) _
                  refine Go.st (fun _ k_ => XS.iloadN X0.here hx rfl (hb hby d1_54) rfl k_) ?_
                  show Go p e below (s₁.setTop (mkF m 55 #[.val (.int p1)] [(.int p1)])) _
                  refine Go.st (fun _ k_ => XS.bipush X0.here hx rfl (hb hby d1_55) k_) ?_
                  show Go p e below (s₁.setTop (mkF m 57 #[.val (.int p1)] [(.int (126 : Int32)), (.int p1)])) _
                  by_cases hc57 : p1 = (126 : Int32)
                  · refine Go.st (fun _ k_ => XS.icmpNo X0.here hx rfl (hb hby d1_57) rfl (teq hc57).2 k_) ?_
                    show Go p e below (s₁.setTop (mkF m 60 #[.val (.int p1)] [])) _
                    refine Go.st (fun _ k_ => XS.iconst X0.here hx rfl (hb hby d1_60) k_) ?_
                    show Go p e below (s₁.setTop (mkF m 61 #[.val (.int p1)] [(.int (1 : Int32))])) _
                    refine Go.st (fun _ k_ => XS.goto X0.here hx rfl (pc0 := 61) (pc' := 65) rfl (hb hby d1_61) (by decide) (by decide) k_) ?_
                    show Go p e below (s₁.setTop (mkF m 65 #[.val (.int p1)] [(.int (1 : Int32))])) _
                    refine Go.fin X0 (v := some (.int (1 : Int32))) (fun h_ => by rw [Bd.returns] at h_; cases h_) Bd.notSynchronized (fun _ hr => retN X0 hx (t := .boolean) Bd.returns (by simp) (hb hby d1_65) hr) (fun U' hU hF => ⟨_, _, rfl, ?_, hF.1, hF.2.1, hF.2.2.mono (by decide) (by decide)⟩)
                    rw [hU, e0]
                    exact ⟨(congrArg (fun z_ : Int32 => some (Value.int z_)) (show (1 : Int32) = (own_unr p1) from by simp [own_unr, hc3, hc9, hc15, hc21, hc27, hc39, hc45, hc51, hc57])), N0, rfl⟩
                  · refine Go.st (fun _ k_ => XS.icmpYes X0.here hx rfl (pc0 := 57) (pc' := 64) rfl (hb hby d1_57) rfl (feq hc57).2 (by decide) (by decide) k_) ?_
                    show Go p e below (s₁.setTop (mkF m 64 #[.val (.int p1)] [])) _
                    refine Go.st (fun _ k_ => XS.iconst X0.here hx rfl (hb hby d1_64) k_) ?_
                    show Go p e below (s₁.setTop (mkF m 65 #[.val (.int p1)] [(.int (0 : Int32))])) _
                    refine Go.fin X0 (v := some (.int (0 : Int32))) (fun h_ => by rw [Bd.returns] at h_; cases h_) Bd.notSynchronized (fun _ hr => retN X0 hx (t := .boolean) Bd.returns (by simp) (hb hby d1_65) hr) (fun U' hU hF => ⟨_, _, rfl, ?_, hF.1, hF.2.1, hF.2.2.mono (by decide) (by decide)⟩)
                    rw [hU, e0]
                    exact ⟨(congrArg (fun z_ : Int32 => some (Value.int z_)) (show (0 : Int32) = (own_unr p1) from by simp [own_unr, hc3, hc9, hc15, hc21, hc27, hc39, hc45, hc51, hc57])), N0, rfl⟩
          · refine Go.st (fun _ k_ => XS.icmpNo X0.here hx rfl (hb hby d1_27) rfl (flt hc27).1 k_) ?_
            show Go p e below (s₁.setTop (mkF m 30 #[.val (.int p1)] [])) _
            refine Go.st (fun _ k_ => XS.iloadN X0.here hx rfl (hb hby d1_30) rfl k_) ?_
            show Go p e below (s₁.setTop (mkF m 31 #[.val (.int p1)] [(.int p1)])) _
            refine Go.st (fun _ k_ => XS.bipush X0.here hx rfl (hb hby d1_31) k_) ?_
            show Go p e below (s₁.setTop (mkF m 33 #[.val (.int p1)] [(.int (57 : Int32)), (.int p1)])) _
            by_cases hc33 : (57 : Int32) < p1
            · refine Go.st (fun _ k_ => XS.icmpNo X0.here hx rfl (hb hby d1_33) rfl (tlt hc33).2.2.2 k_) ?_
              show Go p e below (s₁.setTop (mkF m 36 #[.val (.int p1)] [])) _
              refine Go.st (fun _ k_ => XS.iloadN X0.here hx rfl (hb hby d1_36) rfl k_) ?_
              show Go p e below (s₁.setTop (mkF m 37 #[.val (.int p1)] [(.int p1)])) _
              refine Go.st (fun _ k_ => XS.bipush X0.here hx rfl (hb hby d1_37) k_) ?_
              show Go p e below (s₁.setTop (mkF m 39 #[.val (.int p1)] [(.int (45 : Int32)), (.int p1)])) _
              by_cases hc39 : p1 = (45 : Int32)
              · refine Go.st (fun _ k_ => XS.icmpYes X0.here hx rfl (pc0 := 39) (pc' := 60) rfl (hb hby d1_39) rfl (teq hc39).1 (by decide) (by decide) k_) ?_
                show Go p e below (s₁.setTop (mkF m 60 #[.val (.int p1)] [])) _
                refine Go.st (fun _ k_ => XS.iconst X0.here hx rfl (hb hby d1_60) k_) ?_
                show Go p e below (s₁.setTop (mkF m 61 #[.val (.int p1)] [(.int (1 : Int32))])) _
                refine Go.st (fun _ k_ => XS.goto X0.here hx rfl (pc0 := 61) (pc' := 65) rfl (hb hby d1_61) (by decide) (by decide) k_) ?_
                show Go p e below (s₁.setTop (mkF m 65 #[.val (.int p1)] [(.int (1 : Int32))])) _
                refine Go.fin X0 (v := some (.int (1 : Int32))) (fun h_ => by rw [Bd.returns] at h_; cases h_) Bd.notSynchronized (fun _ hr => retN X0 hx (t := .boolean) Bd.returns (by simp) (hb hby d1_65) hr) (fun U' hU hF => ⟨_, _, rfl, ?_, hF.1, hF.2.1, hF.2.2.mono (by decide) (by decide)⟩)
                rw [hU, e0]
                exact ⟨(congrArg (fun z_ : Int32 => some (Value.int z_)) (show (1 : Int32) = (own_unr p1) from by simp [own_unr, hc3, hc9, hc15, hc21, hc27, hc33, hc39])), N0, rfl⟩
              · refine Go.st (fun _ k_ => XS.icmpNo X0.here hx rfl (hb hby d1_39) rfl (feq hc39).1 k_) ?_
                show Go p e below (s₁.setTop (mkF m 42 #[.val (.int p1)] [])) _
                refine Go.st (fun _ k_ => XS.iloadN X0.here hx rfl (hb hby d1_42) rfl k_) ?_
                show Go p e below (s₁.setTop (mkF m 43 #[.val (.int p1)] [(.int p1)])) _
                refine Go.st (fun _ k_ => XS.bipush X0.here hx rfl (hb hby d1_43) k_) ?_
                show Go p e below (s₁.setTop (mkF m 45 #[.val (.int p1)] [(.int (46 : Int32)), (.int p1)])) _
                by_cases hc45 : p1 = (46 : Int32)
                · refine Go.st (fun _ k_ => XS.icmpYes X0.here hx rfl (pc0 := 45) (pc' := 60) rfl (hb hby d1_45) rfl (teq hc45).1 (by decide) (by decide) k_) ?_
                  show Go p e below (s₁.setTop (mkF m 60 #[.val (.int p1)] [])) _
                  refine Go.st (fun _ k_ => XS.iconst X0.here hx rfl (hb hby d1_60) k_) ?_
                  show Go p e below (s₁.setTop (mkF m 61 #[.val (.int p1)] [(.int (1 : Int32))])) _
                  refine Go.st (fun _ k_ => XS.goto X0.here hx rfl (pc0 := 61) (pc' := 65) rfl (hb hby d1_61) (by decide) (by decide) k_) ?_
                  show Go p e below (s₁.setTop (mkF m 65 #[.val (.int p1)] [(.int (1 : Int32))])) _
                  refine Go.fin X0 (v := some (.int (1 : Int32))) (fun h_ => by rw [Bd.returns] at h_; cases h_) Bd.notSynchronized (fun _ hr => retN X0 hx (t := .boolean) Bd.returns (by simp) (hb hby d1_65) hr) (fun U' hU hF => ⟨_, _, rfl, ?_, hF.1, hF.2.1, hF.2.2.mono (by decide) (by decide)⟩)
                  rw [hU, e0]
                  exact ⟨(congrArg (fun z_ : Int32 => some (Value.int z_)) (show (1 : Int32) = (own_unr p1) from by simp [own_unr, hc3, hc9, hc15, hc21, hc27, hc33, hc39, hc45])), N0, rfl⟩
                · refine Go.st (fun _ k_ => XS.icmpNo X0.here hx rfl (hb hby d1_45) rfl (feq hc45).1 k_) ?_
                  show Go p e below (s₁.setTop (mkF m 48 #[.val (.int p1)] [])) _
                  refine Go.st (fun _ k_ => XS.iloadN X0.here hx rfl (hb hby d1_48) rfl k_) ?_
                  show Go p e below (s₁.setTop (mkF m 49 #[.val (.int p1)] [(.int p1)])) _
                  refine Go.st (fun _ k_ => XS.bipush X0.here hx rfl (hb hby d1_49) k_) ?_
                  show Go p e below (s₁.setTop (mkF m 51 #[.val (.int p1)] [(.int (95 : Int32)), (.int p1)])) _
                  by_cases hc51 : p1 = (95 : Int32)
                  · refine Go.st (fun _ k_ => XS.icmpYes X0.here hx rfl (pc0 := 51) (pc' := 60) rfl (hb hby d1_51) rfl (teq hc51).1 (by decide) (by decide) k_) ?_
                    show Go p e below (s₁.setTop (mkF m 60 #[.val (.int p1)] [])) _
                    refine Go.st (fun _ k_ => XS.iconst X0.here hx rfl (hb hby d1_60) k_) ?_
                    show Go p e below (s₁.setTop (mkF m 61 #[.val (.int p1)] [(.int (1 : Int32))])) _
                    refine Go.st (fun _ k_ => XS.goto X0.here hx rfl (pc0 := 61) (pc' := 65) rfl (hb hby d1_61) (by decide) (by decide) k_) ?_
                    show Go p e below (s₁.setTop (mkF m 65 #[.val (.int p1)] [(.int (1 : Int32))])) _
                    refine Go.fin X0 (v := some (.int (1 : Int32))) (fun h_ => by rw [Bd.returns] at h_; cases h_) Bd.notSynchronized (fun _ hr => retN X0 hx (t := .boolean) Bd.returns (by simp) (hb hby d1_65) hr) (fun U' hU hF => ⟨_, _, rfl, ?_, hF.1, hF.2.1, hF.2.2.mono (by decide) (by decide)⟩)
                    rw [hU, e0]
                    exact ⟨(congrArg (fun z_ : Int32 => some (Value.int z_)) (show (1 : Int32) = (own_unr p1) from by simp [own_unr, hc3, hc9, hc15, hc21, hc27, hc33, hc39, hc45, hc51])), N0, rfl⟩
                  · refine Go.st (fun _ k_ => XS.icmpNo X0.here hx rfl (hb hby d1_51) rfl (feq hc51).1 k_) ?_
                    show Go p e below (s₁.setTop (mkF m 54 #[.val (.int p1)] [])) _
                    refine Go.st (fun _ k_ => XS.iloadN X0.here hx rfl (hb hby d1_54) rfl k_) ?_
                    show Go p e below (s₁.setTop (mkF m 55 #[.val (.int p1)] [(.int p1)])) _
                    refine Go.st (fun _ k_ => XS.bipush X0.here hx rfl (hb hby d1_55) k_) ?_
                    show Go p e below (s₁.setTop (mkF m 57 #[.val (.int p1)] [(.int (126 : Int32)), (.int p1)])) _
                    by_cases hc57 : p1 = (126 : Int32)
                    · refine Go.st (fun _ k_ => XS.icmpNo X0.here hx rfl (hb hby d1_57) rfl (teq hc57).2 k_) ?_
                      show Go p e below (s₁.setTop (mkF m 60 #[.val (.int p1)] [])) _
                      refine Go.st (fun _ k_ => XS.iconst X0.here hx rfl (hb hby d1_60) k_) ?_
                      show Go p e below (s₁.setTop (mkF m 61 #[.val (.int p1)] [(.int (1 : Int32))])) _
                      refine Go.st (fun _ k_ => XS.goto X0.here hx rfl (pc0 := 61) (pc' := 65) rfl (hb hby d1_61) (by decide) (by decide) k_) ?_
                      show Go p e below (s₁.setTop (mkF m 65 #[.val (.int p1)] [(.int (1 : Int32))])) _
                      refine Go.fin X0 (v := some (.int (1 : Int32))) (fun h_ => by rw [Bd.returns] at h_; cases h_) Bd.notSynchronized (fun _ hr => retN X0 hx (t := .boolean) Bd.returns (by simp) (hb hby d1_65) hr) (fun U' hU hF => ⟨_, _, rfl, ?_, hF.1, hF.2.1, hF.2.2.mono (by decide) (by decide)⟩)
                      rw [hU, e0]
                      exact ⟨(congrArg (fun z_ : Int32 => some (Value.int z_)) (show (1 : Int32) = (own_unr p1) from by simp [own_unr, hc3, hc9, hc15, hc21, hc27, hc33, hc39, hc45, hc51, hc57])), N0, rfl⟩
                    · refine Go.st (fun _ k_ => XS.icmpYes X0.here hx rfl (pc0 := 57) (pc' := 64) rfl (hb hby d1_57) rfl (feq hc57).2 (by decide) (by decide) k_) ?_
                      show Go p e below (s₁.setTop (mkF m 64 #[.val (.int p1)] [])) _
                      refine Go.st (fun _ k_ => XS.iconst X0.here hx rfl (hb hby d1_64) k_) ?_
                      show Go p e below (s₁.setTop (mkF m 65 #[.val (.int p1)] [(.int (0 : Int32))])) _
                      refine Go.fin X0 (v := some (.int (0 : Int32))) (fun h_ => by rw [Bd.returns] at h_; cases h_) Bd.notSynchronized (fun _ hr => retN X0 hx (t := .boolean) Bd.returns (by simp) (hb hby d1_65) hr) (fun U' hU hF => ⟨_, _, rfl, ?_, hF.1, hF.2.1, hF.2.2.mono (by decide) (by decide)⟩)
                      rw [hU, e0]
                      exact ⟨(congrArg (fun z_ : Int32 => some (Value.int z_)) (show (0 : Int32) = (own_unr p1) from by simp [own_unr, hc3, hc9, hc15, hc21, hc27, hc33, hc39, hc45, hc51, hc57])), N0, rfl⟩
            · refine Go.st (fun _ k_ => XS.icmpYes X0.here hx rfl (pc0 := 33) (pc' := 60) rfl (hb hby d1_33) rfl (flt hc33).2.2.2 (by decide) (by decide) k_) ?_
              show Go p e below (s₁.setTop (mkF m 60 #[.val (.int p1)] [])) _
              refine Go.st (fun _ k_ => XS.iconst X0.here hx rfl (hb hby d1_60) k_) ?_
              show Go p e below (s₁.setTop (mkF m 61 #[.val (.int p1)] [(.int (1 : Int32))])) _
              refine Go.st (fun _ k_ => XS.goto X0.here hx rfl (pc0 := 61) (pc' := 65) rfl (hb hby d1_61) (by decide) (by decide) k_) ?_
              show Go p e below (s₁.setTop (mkF m 65 #[.val (.int p1)] [(.int (1 : Int32))])) _
              refine Go.fin X0 (v := some (.int (1 : Int32))) (fun h_ => by rw [Bd.returns] at h_; cases h_) Bd.notSynchronized (fun _ hr => retN X0 hx (t := .boolean) Bd.returns (by simp) (hb hby d1_65) hr) (fun U' hU hF => ⟨_, _, rfl, ?_, hF.1, hF.2.1, hF.2.2.mono (by decide) (by decide)⟩)
              rw [hU, e0]
              exact ⟨(congrArg (fun z_ : Int32 => some (Value.int z_)) (show (1 : Int32) = (own_unr p1) from by simp [own_unr, hc3, hc9, hc15, hc21, hc27, hc33])), N0, rfl⟩
        · refine Go.st (fun _ k_ => XS.icmpYes X0.here hx rfl (pc0 := 21) (pc' := 60) rfl (hb hby d1_21) rfl (flt hc21).2.2.2 (by decide) (by decide) k_) ?_
          show Go p e below (s₁.setTop (mkF m 60 #[.val (.int p1)] [])) _
          refine Go.st (fun _ k_ => XS.iconst X0.here hx rfl (hb hby d1_60) k_) ?_
          show Go p e below (s₁.setTop (mkF m 61 #[.val (.int p1)] [(.int (1 : Int32))])) _
          refine Go.st (fun _ k_ => XS.goto X0.here hx rfl (pc0 := 61) (pc' := 65) rfl (hb hby d1_61) (by decide) (by decide) k_) ?_
          show Go p e below (s₁.setTop (mkF m 65 #[.val (.int p1)] [(.int (1 : Int32))])) _
          refine Go.fin X0 (v := some (.int (1 : Int32))) (fun h_ => by rw [Bd.returns] at h_; cases h_) Bd.notSynchronized (fun _ hr => retN X0 hx (t := .boolean) Bd.returns (by simp) (hb hby d1_65) hr) (fun U' hU hF => ⟨_, _, rfl, ?_, hF.1, hF.2.1, hF.2.2.mono (by decide) (by decide)⟩)
          rw [hU, e0]
          exact ⟨(congrArg (fun z_ : Int32 => some (Value.int z_)) (show (1 : Int32) = (own_unr p1) from by simp [own_unr, hc3, hc9, hc15, hc21])), N0, rfl⟩
    · refine Go.st (fun _ k_ => XS.icmpYes X0.here hx rfl (pc0 := 9) (pc' := 60) rfl (hb hby d1_9) rfl (flt hc9).2.2.2 (by decide) (by decide) k_) ?_
      show Go p e below (s₁.setTop (mkF m 60 #[.val (.int p1)] [])) _
      refine Go.st (fun _ k_ => XS.iconst X0.here hx rfl (hb hby d1_60) k_) ?_
      show Go p e below (s₁.setTop (mkF m 61 #[.val (.int p1)] [(.int (1 : Int32))])) _
      refine Go.st (fun _ k_ => XS.goto X0.here hx rfl (pc0 := 61) (pc' := 65) rfl (hb hby d1_61) (by decide) (by decide) k_) ?_
      show Go p e below (s₁.setTop (mkF m 65 #[.val (.int p1)] [(.int (1 : Int32))])) _
      refine Go.fin X0 (v := some (.int (1 : Int32))) (fun h_ => by rw [Bd.returns] at h_; cases h_) Bd.notSynchronized (fun _ hr => retN X0 hx (t := .boolean) Bd.returns (by simp) (hb hby d1_65) hr) (fun U' hU hF => ⟨_, _, rfl, ?_, hF.1, hF.2.1, hF.2.2.mono (by decide) (by decide)⟩)
      rw [hU, e0]
      exact ⟨(congrArg (fun z_ : Int32 => some (Value.int z_)) (show (1 : Int32) = (own_unr p1) from by simp [own_unr, hc3, hc9])), N0, rfl⟩
theorem d2_0 : decode method_2_code 0 = .ok (.iload_n 0, 1) := by decide +kernel
theorem d2_1 : decode method_2_code 1 = .ok (.ifCond .lt 9, 3) := by decide +kernel
theorem d2_4 : decode method_2_code 4 = .ok (.iload_n 0, 1) := by decide +kernel
theorem d2_5 : decode method_2_code 5 = .ok (.bipush 127, 2) := by decide +kernel
theorem d2_7 : decode method_2_code 7 = .ok (.if_icmp .le 5, 3) := by decide +kernel
theorem d2_10 : decode method_2_code 10 = .ok (.iconst 0, 1) := by decide +kernel
theorem d2_11 : decode method_2_code 11 = .ok (.ireturn, 1) := by decide +kernel
theorem d2_12 : decode method_2_code 12 = .ok (.iload_n 0, 1) := by decide +kernel
theorem d2_13 : decode method_2_code 13 = .ok (.bipush 64, 2) := by decide +kernel
theorem d2_15 : decode method_2_code 15 = .ok (.if_icmp .ge 21, 3) := by decide +kernel
theorem d2_18 : decode method_2_code 18 = .ok (.ldc2_w 9, 3) := by decide +kernel
theorem d2_21 : decode method_2_code 21 = .ok (.iload_n 0, 1) := by decide +kernel
theorem d2_22 : decode method_2_code 22 = .ok (.lushr, 1) := by decide +kernel
theorem d2_23 : decode method_2_code 23 = .ok (.lconst 1, 1) := by decide +kernel
theorem d2_24 : decode method_2_code 24 = .ok (.land, 1) := by decide +kernel
theorem d2_25 : decode method_2_code 25 = .ok (.lconst 0, 1) := by decide +kernel
theorem d2_26 : decode method_2_code 26 = .ok (.lcmp, 1) := by decide +kernel
theorem d2_27 : decode method_2_code 27 = .ok (.ifCond .eq 7, 3) := by decide +kernel
theorem d2_30 : decode method_2_code 30 = .ok (.iconst 1, 1) := by decide +kernel
theorem d2_31 : decode method_2_code 31 = .ok (.goto 4, 3) := by decide +kernel
theorem d2_34 : decode method_2_code 34 = .ok (.iconst 0, 1) := by decide +kernel
theorem d2_35 : decode method_2_code 35 = .ok (.ireturn, 1) := by decide +kernel
theorem d2_36 : decode method_2_code 36 = .ok (.ldc2_w 11, 3) := by decide +kernel
theorem d2_39 : decode method_2_code 39 = .ok (.iload_n 0, 1) := by decide +kernel
theorem d2_40 : decode method_2_code 40 = .ok (.bipush 64, 2) := by decide +kernel
theorem d2_42 : decode method_2_code 42 = .ok (.isub, 1) := by decide +kernel
theorem d2_43 : decode method_2_code 43 = .ok (.lushr, 1) := by decide +kernel
theorem d2_44 : decode method_2_code 44 = .ok (.lconst 1, 1) := by decide +kernel
theorem d2_45 : decode method_2_code 45 = .ok (.land, 1) := by decide +kernel
theorem d2_46 : decode method_2_code 46 = .ok (.lconst 0, 1) := by decide +kernel
theorem d2_47 : decode method_2_code 47 = .ok (.lcmp, 1) := by decide +kernel
theorem d2_48 : decode method_2_code 48 = .ok (.ifCond .eq 7, 3) := by decide +kernel
theorem d2_51 : decode method_2_code 51 = .ok (.iconst 1, 1) := by decide +kernel
theorem d2_52 : decode method_2_code 52 = .ok (.goto 4, 3) := by decide +kernel
theorem d2_55 : decode method_2_code 55 = .ok (.iconst 0, 1) := by decide +kernel
theorem d2_56 : decode method_2_code 56 = .ok (.ireturn, 1) := by decide +kernel
theorem pn_71 : plainName "com/example/method_to_route/methodtoroute/PercentEncodingIsUnreservedPinLaw" = true := by first | (simp [plainName, overriddenIn]; done) | decide +kernel
theorem ef_rm2 (m : MethodId) (p1 : Int32) : entryFrame m #[(.int p1)] 1 = mkF m 0 #[.val (.int p1)] [] := by first | (simp [entryFrame, mkF, argsToLocals, Value.category]; done) | rfl
def Q_rm2 (Z : State) (p1 : Int32) (h0 : Heap) (n0 : Nat) (v : Option Value) (h : Heap) (L : List Loc) : Prop := v = some (.int (own_ref p1)) ∧ Fr n0 L ∧ h = h0
set_option maxRecDepth 65536 in
set_option maxHeartbeats 40000000 in
theorem rm2 (l : Launch) (Z : State) (a0 : Array Value) (hw : ∀ d ∈ tables_1, d.before a0 Z = true) (ws : List Jvm.Cond) (p1 : Int32) (h0 : Heap) (n0 : Nat) (Z0 : n0 ≤ h0.size) :
    MetFree l (⟨"com/example/method_to_route/methodtoroute/PercentEncodingIsUnreservedPinLaw", "ref", "(I)Z"⟩ : MethodName) (head1 (Jvm.Cond.code (⟨"com/example/method_to_route/methodtoroute/PercentEncodingIsUnreservedPinLaw", "ref", "(I)Z"⟩ : MethodName) method_2_code 1 (some .boolean) :: ws) ({ frames := 0, cells := 0, slots := 0, locals := 0 } : Room)) (fun a U => a = #[(.int p1)] ∧ Z.Warmed39 U.vm ∧ U.heap = h0) (fun _ _ _ _ _ => True) (fun _ U o U' => ∃ v L, o = .returned v ∧ Q_rm2 Z p1 h0 n0 v U'.heap L ∧ FrameEnd U o U' L ({ frames := 0, cells := 0, slots := 0, locals := 0 } : Room).cells ({ frames := 0, cells := 0, slots := 0, locals := 0 } : Room).slots) := by
  refine MetFree.of_bodySF (plainFor_of_name pn_71) hisR ?_
  intro p e s m args below meth c s₁ Bd hml0 hP hK
  obtain ⟨rfl, hZ, hh⟩ := hP
  have hx := Bd.exec
  have hby := Bd.bytes
  have hml : c.maxLocals = 1 := hml0
  have hown : s.vm.findClass "com/example/method_to_route/methodtoroute/PercentEncodingIsUnreservedPinLaw" = some m.cls := findClass_of_methodNamed Bd.named
  have hnm := (name_of_methodNamed Bd.named Bd.method).1
  have X0 : Stand p l e ({ frames := 0, cells := 0, slots := 0, locals := 0 } : Room) s m #[(.int p1)] below meth c s₁ [] 0 0 := Stand.of_body Bd
  have e0 : s₁.heap = h0 := by rw [← hh, Bd.state]; rfl
  have N0 := Fr.nil n0
  show Go p e below (s₁.setTop (entryFrame m #[(.int p1)] 1)) (fun o U' => ∃ v L, o = .returned v ∧ Q_rm2 Z p1 h0 n0 v U'.heap L ∧ FrameEnd s o U' L ({ frames := 0, cells := 0, slots := 0, locals := 0 } : Room).cells ({ frames := 0, cells := 0, slots := 0, locals := 0 } : Room).slots)
  rw [ef_rm2]
  show Go p e below (s₁.setTop (mkF m 0 #[.val (.int p1)] [])) _
  refine Go.st (fun _ k_ => XS.iloadN X0.here hx rfl (hb hby d2_0) rfl k_) ?_
  show Go p e below (s₁.setTop (mkF m 1 #[.val (.int p1)] [(.int p1)])) _
  by_cases hc1 : p1 < (0 : Int32)
  · refine Go.st (fun _ k_ => XS.ifYes X0.here hx rfl (pc0 := 1) (pc' := 10) rfl (hb hby d2_1) rfl ((if0 _ _).trans (tlt hc1).1) (by decide) (by decide) k_) ?_
    show Go p e below (s₁.setTop (mkF m 10 #[.val (.int p1)] [])) _
    refine Go.st (fun _ k_ => XS.iconst X0.here hx rfl (hb hby d2_10) k_) ?_
    show Go p e below (s₁.setTop (mkF m 11 #[.val (.int p1)] [(.int (0 : Int32))])) _
    refine Go.fin X0 (v := some (.int (0 : Int32))) (fun h_ => by rw [Bd.returns] at h_; cases h_) Bd.notSynchronized (fun _ hr => retN X0 hx (t := .boolean) Bd.returns (by simp) (hb hby d2_11) hr) (fun U' hU hF => ⟨_, _, rfl, ?_, hF.1, hF.2.1, hF.2.2.mono (by decide) (by decide)⟩)
    rw [hU, e0]
    exact ⟨(congrArg (fun z_ : Int32 => some (Value.int z_)) (show (0 : Int32) = (own_ref p1) from by simp only [own_ref, hc1, if_true, if_false, ↓reduceIte])), N0, rfl⟩
  · refine Go.st (fun _ k_ => XS.ifNo X0.here hx rfl (hb hby d2_1) rfl ((if0 _ _).trans (flt hc1).1) k_) ?_
    show Go p e below (s₁.setTop (mkF m 4 #[.val (.int p1)] [])) _
    refine Go.st (fun _ k_ => XS.iloadN X0.here hx rfl (hb hby d2_4) rfl k_) ?_
    show Go p e below (s₁.setTop (mkF m 5 #[.val (.int p1)] [(.int p1)])) _
    refine Go.st (fun _ k_ => XS.bipush X0.here hx rfl (hb hby d2_5) k_) ?_
    show Go p e below (s₁.setTop (mkF m 7 #[.val (.int p1)] [(.int (127 : Int32)), (.int p1)])) _
    by_cases hc7 : (127 : Int32) < p1
    · refine Go.st (fun _ k_ => XS.icmpNo X0.here hx rfl (hb hby d2_7) rfl (tlt hc7).2.2.2 k_) ?_
      show Go p e below (s₁.setTop (mkF m 10 #[.val (.int p1)] [])) _
      refine Go.st (fun _ k_ => XS.iconst X0.here hx rfl (hb hby d2_10) k_) ?_
      show Go p e below (s₁.setTop (mkF m 11 #[.val (.int p1)] [(.int (0 : Int32))])) _
      refine Go.fin X0 (v := some (.int (0 : Int32))) (fun h_ => by rw [Bd.returns] at h_; cases h_) Bd.notSynchronized (fun _ hr => retN X0 hx (t := .boolean) Bd.returns (by simp) (hb hby d2_11) hr) (fun U' hU hF => ⟨_, _, rfl, ?_, hF.1, hF.2.1, hF.2.2.mono (by decide) (by decide)⟩)
      rw [hU, e0]
      exact ⟨(congrArg (fun z_ : Int32 => some (Value.int z_)) (show (0 : Int32) = (own_ref p1) from by simp only [own_ref, hc1, hc7, if_true, if_false, ↓reduceIte])), N0, rfl⟩
    · refine Go.st (fun _ k_ => XS.icmpYes X0.here hx rfl (pc0 := 7) (pc' := 12) rfl (hb hby d2_7) rfl (flt hc7).2.2.2 (by decide) (by decide) k_) ?_
      show Go p e below (s₁.setTop (mkF m 12 #[.val (.int p1)] [])) _
      refine Go.st (fun _ k_ => XS.iloadN X0.here hx rfl (hb hby d2_12) rfl k_) ?_
      show Go p e below (s₁.setTop (mkF m 13 #[.val (.int p1)] [(.int p1)])) _
      refine Go.st (fun _ k_ => XS.bipush X0.here hx rfl (hb hby d2_13) k_) ?_
      show Go p e below (s₁.setTop (mkF m 15 #[.val (.int p1)] [(.int (64 : Int32)), (.int p1)])) _
      by_cases hc15 : p1 < (64 : Int32)
      · refine Go.st (fun _ k_ => XS.icmpNo X0.here hx rfl (hb hby d2_15) rfl (tlt hc15).2.1 k_) ?_
        show Go p e below (s₁.setTop (mkF m 18 #[.val (.int p1)] [])) _
        refine Go.st (X0.ldc2Long hx hown (mvT hZ (hw _ (List.mem_of_getElem? (i := 8) rfl))) (g := (mkF m 18 #[.val (.int p1)] [])) rfl (hb hby d2_18)) ?_
        show Go p e below (s₁.setTop (mkF m 21 #[.val (.int p1)] [(.long (288054454291267584 : Int64))])) _
        refine Go.st (fun _ k_ => XS.iloadN X0.here hx rfl (hb hby d2_21) rfl k_) ?_
        show Go p e below (s₁.setTop (mkF m 22 #[.val (.int p1)] [(.int p1), (.long (288054454291267584 : Int64))])) _
        refine Go.st (fun _ k_ => XS.lushr X0.here hx rfl (hb hby d2_22) rfl k_) ?_
        show Go p e below (s₁.setTop (mkF m 23 #[.val (.int p1)] [(.long (((288054454291267584 : Int64).toUInt64 >>> (p1 &&& 0x3f).toInt64.toUInt64).toInt64))])) _
        refine Go.st (fun _ k_ => XS.lconst X0.here hx rfl (hb hby d2_23) k_) ?_
        show Go p e below (s₁.setTop (mkF m 24 #[.val (.int p1)] [(.long (1 : Int64)), (.long (((288054454291267584 : Int64).toUInt64 >>> (p1 &&& 0x3f).toInt64.toUInt64).toInt64))])) _
        refine Go.st (fun _ k_ => XS.land X0.here hx rfl (hb hby d2_24) rfl k_) ?_
        show Go p e below (s₁.setTop (mkF m 25 #[.val (.int p1)] [(.long ((((288054454291267584 : Int64).toUInt64 >>> (p1 &&& 0x3f).toInt64.toUInt64).toInt64) &&& (1 : Int64)))])) _
        refine Go.st (fun _ k_ => XS.lconst X0.here hx rfl (hb hby d2_25) k_) ?_
        show Go p e below (s₁.setTop (mkF m 26 #[.val (.int p1)] [(.long (0 : Int64)), (.long ((((288054454291267584 : Int64).toUInt64 >>> (p1 &&& 0x3f).toInt64.toUInt64).toInt64) &&& (1 : Int64)))])) _
        refine Go.st (fun _ k_ => XS.lcmp X0.here hx rfl (hb hby d2_26) rfl k_) ?_
        show Go p e below (s₁.setTop (mkF m 27 #[.val (.int p1)] [(.int (lcmpW ((((288054454291267584 : Int64).toUInt64 >>> (p1 &&& 0x3f).toInt64.toUInt64).toInt64) &&& (1 : Int64)) (0 : Int64)))])) _
        by_cases hc27 : ((((288054454291267584 : Int64).toUInt64 >>> (p1 &&& 0x3f).toInt64.toUInt64).toInt64) &&& (1 : Int64)) = (0 : Int64)
        · refine Go.st (fun _ k_ => XS.ifYes X0.here hx rfl (pc0 := 27) (pc' := 34) rfl (hb hby d2_27) rfl ((if0 _ _).trans (teq ((lw_eq _ _).mpr hc27)).1) (by decide) (by decide) k_) ?_
          show Go p e below (s₁.setTop (mkF m 34 #[.val (.int p1)] [])) _
          refine Go.st (fun _ k_ => XS.iconst X0.here hx rfl (hb hby d2_34) k_) ?_
          show Go p e below (s₁.setTop (mkF m 35 #[.val (.int p1)] [(.int (0 : Int32))])) _
          refine Go.fin X0 (v := some (.int (0 : Int32))) (fun h_ => by rw [Bd.returns] at h_; cases h_) Bd.notSynchronized (fun _ hr => retN X0 hx (t := .boolean) Bd.returns (by simp) (hb hby d2_35) hr) (fun U' hU hF => ⟨_, _, rfl, ?_, hF.1, hF.2.1, hF.2.2.mono (by decide) (by decide)⟩)
          rw [hU, e0]
          exact ⟨(congrArg (fun z_ : Int32 => some (Value.int z_)) (show (0 : Int32) = (own_ref p1) from by simp only [own_ref, hc1, hc7, hc15, hc27, if_true, if_false, ↓reduceIte])), N0, rfl⟩
        · refine Go.st (fun _ k_ => XS.ifNo X0.here hx rfl (hb hby d2_27) rfl ((if0 _ _).trans (feq (fun q_ => hc27 ((lw_eq _ _).mp q_))).1) k_) ?_
          show Go p e below (s₁.setTop (mkF m 30 #[.val (.int p1)] [])) _
          refine Go.st (fun _ k_ => XS.iconst X0.here hx rfl (hb hby d2_30) k_) ?_
          show Go p e below (s₁.setTop (mkF m 31 #[.val (.int p1)] [(.int (1 : Int32))])) _
          refine Go.st (fun _ k_ => XS.goto X0.here hx rfl (pc0 := 31) (pc' := 35) rfl (hb hby d2_31) (by decide) (by decide) k_) ?_
          show Go p e below (s₁.setTop (mkF m 35 #[.val (.int p1)] [(.int (1 : Int32))])) _
          refine Go.fin X0 (v := some (.int (1 : Int32))) (fun h_ => by rw [Bd.returns] at h_; cases h_) Bd.notSynchronized (fun _ hr => retN X0 hx (t := .boolean) Bd.returns (by simp) (hb hby d2_35) hr) (fun U' hU hF => ⟨_, _, rfl, ?_, hF.1, hF.2.1, hF.2.2.mono (by decide) (by decide)⟩)
          rw [hU, e0]
          exact ⟨(congrArg (fun z_ : Int32 => some (Value.int z_)) (show (1 : Int32) = (own_ref p1) from by simp only [own_ref, hc1, hc7, hc15, hc27, if_true, if_false, ↓reduceIte])), N0, rfl⟩
      · refine Go.st (fun _ k_ => XS.icmpYes X0.here hx rfl (pc0 := 15) (pc' := 36) rfl (hb hby d2_15) rfl (flt hc15).2.1 (by decide) (by decide) k_) ?_
        show Go p e below (s₁.setTop (mkF m 36 #[.val (.int p1)] [])) _
        refine Go.st (X0.ldc2Long hx hown (mvT hZ (hw _ (List.mem_of_getElem? (i := 9) rfl))) (g := (mkF m 36 #[.val (.int p1)] [])) rfl (hb hby d2_36)) ?_
        show Go p e below (s₁.setTop (mkF m 39 #[.val (.int p1)] [(.long (5188146764422578174 : Int64))])) _
        refine Go.st (fun _ k_ => XS.iloadN X0.here hx rfl (hb hby d2_39) rfl k_) ?_
        show Go p e below (s₁.setTop (mkF m 40 #[.val (.int p1)] [(.int p1), (.long (5188146764422578174 : Int64))])) _
        refine Go.st (fun _ k_ => XS.bipush X0.here hx rfl (hb hby d2_40) k_) ?_
        show Go p e below (s₁.setTop (mkF m 42 #[.val (.int p1)] [(.int (64 : Int32)), (.int p1), (.long (5188146764422578174 : Int64))])) _
        refine Go.st (fun _ k_ => XS.isub X0.here hx rfl (hb hby d2_42) rfl k_) ?_
        show Go p e below (s₁.setTop (mkF m 43 #[.val (.int p1)] [(.int (p1 - (64 : Int32))), (.long (5188146764422578174 : Int64))])) _
        refine Go.st (fun _ k_ => XS.lushr X0.here hx rfl (hb hby d2_43) rfl k_) ?_
        show Go p e below (s₁.setTop (mkF m 44 #[.val (.int p1)] [(.long (((5188146764422578174 : Int64).toUInt64 >>> ((p1 - (64 : Int32)) &&& 0x3f).toInt64.toUInt64).toInt64))])) _
        refine Go.st (fun _ k_ => XS.lconst X0.here hx rfl (hb hby d2_44) k_) ?_
        show Go p e below (s₁.setTop (mkF m 45 #[.val (.int p1)] [(.long (1 : Int64)), (.long (((5188146764422578174 : Int64).toUInt64 >>> ((p1 - (64 : Int32)) &&& 0x3f).toInt64.toUInt64).toInt64))])) _
        refine Go.st (fun _ k_ => XS.land X0.here hx rfl (hb hby d2_45) rfl k_) ?_
        show Go p e below (s₁.setTop (mkF m 46 #[.val (.int p1)] [(.long ((((5188146764422578174 : Int64).toUInt64 >>> ((p1 - (64 : Int32)) &&& 0x3f).toInt64.toUInt64).toInt64) &&& (1 : Int64)))])) _
        refine Go.st (fun _ k_ => XS.lconst X0.here hx rfl (hb hby d2_46) k_) ?_
        show Go p e below (s₁.setTop (mkF m 47 #[.val (.int p1)] [(.long (0 : Int64)), (.long ((((5188146764422578174 : Int64).toUInt64 >>> ((p1 - (64 : Int32)) &&& 0x3f).toInt64.toUInt64).toInt64) &&& (1 : Int64)))])) _
        refine Go.st (fun _ k_ => XS.lcmp X0.here hx rfl (hb hby d2_47) rfl k_) ?_
        show Go p e below (s₁.setTop (mkF m 48 #[.val (.int p1)] [(.int (lcmpW ((((5188146764422578174 : Int64).toUInt64 >>> ((p1 - (64 : Int32)) &&& 0x3f).toInt64.toUInt64).toInt64) &&& (1 : Int64)) (0 : Int64)))])) _
        by_cases hc48 : ((((5188146764422578174 : Int64).toUInt64 >>> ((p1 - (64 : Int32)) &&& 0x3f).toInt64.toUInt64).toInt64) &&& (1 : Int64)) = (0 : Int64)
        · refine Go.st (fun _ k_ => XS.ifYes X0.here hx rfl (pc0 := 48) (pc' := 55) rfl (hb hby d2_48) rfl ((if0 _ _).trans (teq ((lw_eq _ _).mpr hc48)).1) (by decide) (by decide) k_) ?_
          show Go p e below (s₁.setTop (mkF m 55 #[.val (.int p1)] [])) _
          refine Go.st (fun _ k_ => XS.iconst X0.here hx rfl (hb hby d2_55) k_) ?_
          show Go p e below (s₁.setTop (mkF m 56 #[.val (.int p1)] [(.int (0 : Int32))])) _
          refine Go.fin X0 (v := some (.int (0 : Int32))) (fun h_ => by rw [Bd.returns] at h_; cases h_) Bd.notSynchronized (fun _ hr => retN X0 hx (t := .boolean) Bd.returns (by simp) (hb hby d2_56) hr) (fun U' hU hF => ⟨_, _, rfl, ?_, hF.1, hF.2.1, hF.2.2.mono (by decide) (by decide)⟩)
          rw [hU, e0]
          exact ⟨(congrArg (fun z_ : Int32 => some (Value.int z_)) (show (0 : Int32) = (own_ref p1) from by simp only [own_ref, hc1, hc7, hc15, hc48, if_true, if_false, ↓reduceIte])), N0, rfl⟩
        · refine Go.st (fun _ k_ => XS.ifNo X0.here hx rfl (hb hby d2_48) rfl ((if0 _ _).trans (feq (fun q_ => hc48 ((lw_eq _ _).mp q_))).1) k_) ?_
          show Go p e below (s₁.setTop (mkF m 51 #[.val (.int p1)] [])) _
          refine Go.st (fun _ k_ => XS.iconst X0.here hx rfl (hb hby d2_51) k_) ?_
          show Go p e below (s₁.setTop (mkF m 52 #[.val (.int p1)] [(.int (1 : Int32))])) _
          refine Go.st (fun _ k_ => XS.goto X0.here hx rfl (pc0 := 52) (pc' := 56) rfl (hb hby d2_52) (by decide) (by decide) k_) ?_
          show Go p e below (s₁.setTop (mkF m 56 #[.val (.int p1)] [(.int (1 : Int32))])) _
          refine Go.fin X0 (v := some (.int (1 : Int32))) (fun h_ => by rw [Bd.returns] at h_; cases h_) Bd.notSynchronized (fun _ hr => retN X0 hx (t := .boolean) Bd.returns (by simp) (hb hby d2_56) hr) (fun U' hU hF => ⟨_, _, rfl, ?_, hF.1, hF.2.1, hF.2.2.mono (by decide) (by decide)⟩)
          rw [hU, e0]
          exact ⟨(congrArg (fun z_ : Int32 => some (Value.int z_)) (show (1 : Int32) = (own_ref p1) from by simp only [own_ref, hc1, hc7, hc15, hc48, if_true, if_false, ↓reduceIte])), N0, rfl⟩
theorem pd_0 : parseMethodDescriptor "(I)Z" = some ⟨[.int], some .boolean⟩ := by decide +kernel
theorem ef_rm0 (m : MethodId) (p1 : Int32) (p2 : Int32) : entryFrame m #[(.int p1), (.int p2)] maxLocals = mkF m 0 #[.val (.int p1), .val (.int p2), .unset, .unset, .unset] [] := by first | (simp [entryFrame, mkF, argsToLocals, Value.category, maxLocals]; done) | rfl
def Q_rm0 (Z : State) (p1 : Int32) (p2 : Int32) (h0 : Heap) (n0 : Nat) (v : Option Value) (h : Heap) (L : List Loc) : Prop := v = some (.int (1 : Int32)) ∧ Fr n0 L
set_option maxRecDepth 65536 in
set_option maxHeartbeats 40000000 in
theorem rm0 (l : Launch) (Z : State) (a0 : Array Value) (hw : ∀ d ∈ tables_1, d.before a0 Z = true) (ws : List Jvm.Cond) (p1 : Int32) (p2 : Int32) (h0 : Heap) (n0 : Nat) (Z0 : n0 ≤ h0.size) :
    MetFree l x (head1 (Jvm.Cond.code x code maxLocals ret :: ws) room_1) (fun a U => a = #[(.int p1), (.int p2)] ∧ Z.Warmed39 U.vm ∧ U.heap = h0) (fun _ _ _ _ _ => True) (fun _ U o U' => ∃ v L, o = .returned v ∧ Q_rm0 Z p1 p2 h0 n0 v U'.heap L ∧ FrameEnd U o U' L room_1.cells room_1.slots) := by
  refine MetFree.of_bodySF (plainFor_of_name pn_71) hisR ?_
  intro p e s m args below meth c s₁ Bd hml0 hP hK
  obtain ⟨rfl, hZ, hh⟩ := hP
  have hx := Bd.exec
  have hby := Bd.bytes
  have hml : c.maxLocals = 5 := hml0
  have hown : s.vm.findClass "com/example/method_to_route/methodtoroute/PercentEncodingIsUnreservedPinLaw" = some m.cls := findClass_of_methodNamed Bd.named
  have hnm := (name_of_methodNamed Bd.named Bd.method).1
  have X0 : Stand p l e room_1 s m #[(.int p1), (.int p2)] below meth c s₁ [] 0 0 := Stand.of_body Bd
  have e0 : s₁.heap = h0 := by rw [← hh, Bd.state]; rfl
  have N0 := Fr.nil n0
  show Go p e below (s₁.setTop (entryFrame m #[(.int p1), (.int p2)] maxLocals)) (fun o U' => ∃ v L, o = .returned v ∧ Q_rm0 Z p1 p2 h0 n0 v U'.heap L ∧ FrameEnd s o U' L room_1.cells room_1.slots)
  rw [ef_rm0]
  show Go p e below (s₁.setTop (mkF m 0 #[.val (.int p1), .val (.int p2), .unset, .unset, .unset] [])) _
  refine Go.st (fun _ k_ => XS.iloadN X0.here hx rfl (hb hby at_0) rfl k_) ?_
  show Go p e below (s₁.setTop (mkF m 1 #[.val (.int p1), .val (.int p2), .unset, .unset, .unset] [(.int p2)])) _
  refine Go.st (fun _ k_ => XS.sipush X0.here hx rfl (hb hby at_1) k_) ?_
  show Go p e below (s₁.setTop (mkF m 4 #[.val (.int p1), .val (.int p2), .unset, .unset, .unset] [(.int (255 : Int32)), (.int p2)])) _
  refine Go.st (fun _ k_ => XS.iand X0.here hx rfl (hb hby at_4) rfl k_) ?_
  show Go p e below (s₁.setTop (mkF m 5 #[.val (.int p1), .val (.int p2), .unset, .unset, .unset] [(.int (p2 &&& (255 : Int32)))])) _
  obtain ⟨sm, esm⟩ : ∃ z_ : Int32, z_ = (p2 &&& (255 : Int32)) := ⟨_, rfl⟩
  rw [← esm]
  show Go p e below (s₁.setTop (mkF m 5 #[.val (.int p1), .val (.int p2), .unset, .unset, .unset] [(.int sm)])) _
  refine Go.st (fun _ k_ => XS.istoreN X0.here hx rfl (hb hby at_5) rfl (l' := #[.val (.int p1), .val (.int p2), .val (.int sm), .unset, .unset]) rfl k_) ?_
  show Go p e below (s₁.setTop (mkF m 6 #[.val (.int p1), .val (.int p2), .val (.int sm), .unset, .unset] [])) _
  refine Go.st (fun _ k_ => XS.iloadN X0.here hx rfl (hb hby at_6) rfl k_) ?_
  show Go p e below (s₁.setTop (mkF m 7 #[.val (.int p1), .val (.int p2), .val (.int sm), .unset, .unset] [(.int p1)])) _
  obtain ⟨_, _, ⟨T1, L1, k1_, n1_⟩, -, X1, ⟨Lc1, hQ1, l1_, y1_, z1_⟩, st1⟩ := Jvm.LawKit.callS X0 hx (y := (⟨"com/example/method_to_route/methodtoroute/PercentEncoding", "isUnreserved", "(I)Z"⟩ : MethodName)) hown (mvT hZ (hw _ (List.mem_of_getElem? (i := 0) rfl))) (mvT hZ (hw _ (List.mem_of_getElem? (i := 1) rfl))) (mvT hZ (hw _ (List.mem_of_getElem? (i := 2) rfl))) (mvT hZ (hw _ (List.mem_of_getElem? (i := 3) rfl))) (by decide) (backOf (W := 0) (rm1 l Z a0 hw [] p1 h0 n0 Z0) hZ (hw _ (List.mem_of_getElem? (i := 3) rfl)) (hw _ (List.mem_of_getElem? (i := 2) rfl)) (by decide) (by decide)) (g := (mkF m 7 #[.val (.int p1), .val (.int p2), .val (.int sm), .unset, .unset] [(.int p1)])) rfl (by rw [hml]; rfl) (argsL := [(.int p1)]) (rest := []) (lenOf pd_0 rfl) rfl (by show 2 * 0 + _ ≤ _; exact Nat.le_of_eq rfl) (hb hby at_7) (fun _ _ => ⟨rfl, e0, (by decide : 0 + 0 ≤ _), (by decide : 0 + 0 ≤ _)⟩)
  dsimp only [Pt.U, Pt.locs, Pt.cells, Pt.slots] at X1 l1_ y1_ z1_ st1 hQ1
  subst l1_ y1_ z1_
  obtain ⟨rfl, N1q, e1⟩ := hQ1
  have N1 := Fr.app N0 N1q
  refine Go.st st1 ?_
  show Go p e below (T1.setTop (mkF m 10 #[.val (.int p1), .val (.int p2), .val (.int sm), .unset, .unset] [(.int (own_unr p1))])) _
  refine Go.st (fun _ k_ => XS.iloadN X1.here hx rfl (hb hby at_10) rfl k_) ?_
  show Go p e below (T1.setTop (mkF m 11 #[.val (.int p1), .val (.int p2), .val (.int sm), .unset, .unset] [(.int p1), (.int (own_unr p1))])) _
  obtain ⟨_, _, ⟨T2, L2, k2_, n2_⟩, -, X2, ⟨Lc2, hQ2, l2_, y2_, z2_⟩, st2⟩ := Jvm.LawKit.callS X1 hx (y := (⟨"com/example/method_to_route/methodtoroute/PercentEncodingIsUnreservedPinLaw", "ref", "(I)Z"⟩ : MethodName)) hown (mvT hZ (hw _ (List.mem_of_getElem? (i := 4) rfl))) (mvT hZ (hw _ (List.mem_of_getElem? (i := 5) rfl))) (mvT hZ (hw _ (List.mem_of_getElem? (i := 6) rfl))) (mvT hZ (hw _ (List.mem_of_getElem? (i := 7) rfl))) (by decide) (backOf (W := 1) (rm2 l Z a0 hw [] p1 h0 n0 Z0) hZ (hw _ (List.mem_of_getElem? (i := 7) rfl)) (hw _ (List.mem_of_getElem? (i := 6) rfl)) (by decide) (by decide)) (g := (mkF m 11 #[.val (.int p1), .val (.int p2), .val (.int sm), .unset, .unset] [(.int p1), (.int (own_unr p1))])) rfl (by rw [hml]; rfl) (argsL := [(.int p1)]) (rest := [(.int (own_unr p1))]) (lenOf pd_0 rfl) rfl (by show 2 * 0 + _ ≤ _; exact Nat.le_of_eq rfl) (hb hby at_11) (fun _ _ => ⟨rfl, e1, (by decide : 0 + 0 ≤ _), (by decide : 0 + 0 ≤ _)⟩)
  dsimp only [Pt.U, Pt.locs, Pt.cells, Pt.slots] at X2 l2_ y2_ z2_ st2 hQ2
  subst l2_ y2_ z2_
  obtain ⟨rfl, N2q, e2⟩ := hQ2
  have N2 := Fr.app N1 N2q
  refine Go.st st2 ?_
  show Go p e below (T2.setTop (mkF m 14 #[.val (.int p1), .val (.int p2), .val (.int sm), .unset, .unset] [(.int (own_ref p1)), (.int (own_unr p1))])) _
  have hc14 : (own_unr p1) = (own_ref p1) := own_eq _
  refine Go.st (fun _ k_ => XS.icmpNo X2.here hx rfl (hb hby at_14) rfl (teq hc14).2 k_) ?_
  show Go p e below (T2.setTop (mkF m 17 #[.val (.int p1), .val (.int p2), .val (.int sm), .unset, .unset] [])) _
  refine Go.st (fun _ k_ => XS.iconst X2.here hx rfl (hb hby at_17) k_) ?_
  show Go p e below (T2.setTop (mkF m 18 #[.val (.int p1), .val (.int p2), .val (.int sm), .unset, .unset] [(.int (1 : Int32))])) _
  refine Go.st (fun _ k_ => XS.goto X2.here hx rfl (pc0 := 18) (pc' := 22) rfl (hb hby at_18) (by decide) (by decide) k_) ?_
  show Go p e below (T2.setTop (mkF m 22 #[.val (.int p1), .val (.int p2), .val (.int sm), .unset, .unset] [(.int (1 : Int32))])) _
  refine Go.st (fun _ k_ => XS.istoreN X2.here hx rfl (hb hby at_22) rfl (l' := #[.val (.int p1), .val (.int p2), .val (.int sm), .val (.int (1 : Int32)), .unset]) rfl k_) ?_
  show Go p e below (T2.setTop (mkF m 23 #[.val (.int p1), .val (.int p2), .val (.int sm), .val (.int (1 : Int32)), .unset] [])) _
  refine Go.st (fun _ k_ => XS.iloadN X2.here hx rfl (hb hby at_23) rfl k_) ?_
  show Go p e below (T2.setTop (mkF m 24 #[.val (.int p1), .val (.int p2), .val (.int sm), .val (.int (1 : Int32)), .unset] [(.int sm)])) _
  obtain ⟨_, _, ⟨T3, L3, k3_, n3_⟩, -, X3, ⟨Lc3, hQ3, l3_, y3_, z3_⟩, st3⟩ := Jvm.LawKit.callS X2 hx (y := (⟨"com/example/method_to_route/methodtoroute/PercentEncoding", "isUnreserved", "(I)Z"⟩ : MethodName)) hown (mvT hZ (hw _ (List.mem_of_getElem? (i := 0) rfl))) (mvT hZ (hw _ (List.mem_of_getElem? (i := 1) rfl))) (mvT hZ (hw _ (List.mem_of_getElem? (i := 2) rfl))) (mvT hZ (hw _ (List.mem_of_getElem? (i := 3) rfl))) (by decide) (backOf (W := 0) (rm1 l Z a0 hw [] sm h0 n0 Z0) hZ (hw _ (List.mem_of_getElem? (i := 3) rfl)) (hw _ (List.mem_of_getElem? (i := 2) rfl)) (by decide) (by decide)) (g := (mkF m 24 #[.val (.int p1), .val (.int p2), .val (.int sm), .val (.int (1 : Int32)), .unset] [(.int sm)])) rfl (by rw [hml]; rfl) (argsL := [(.int sm)]) (rest := []) (lenOf pd_0 rfl) rfl (by show 2 * 0 + _ ≤ _; exact Nat.le_of_eq rfl) (hb hby at_24) (fun _ _ => ⟨rfl, e2, (by decide : 0 + 0 ≤ _), (by decide : 0 + 0 ≤ _)⟩)
  dsimp only [Pt.U, Pt.locs, Pt.cells, Pt.slots] at X3 l3_ y3_ z3_ st3 hQ3
  subst l3_ y3_ z3_
  obtain ⟨rfl, N3q, e3⟩ := hQ3
  have N3 := Fr.app N2 N3q
  refine Go.st st3 ?_
  show Go p e below (T3.setTop (mkF m 27 #[.val (.int p1), .val (.int p2), .val (.int sm), .val (.int (1 : Int32)), .unset] [(.int (own_unr sm))])) _
  refine Go.st (fun _ k_ => XS.iloadN X3.here hx rfl (hb hby at_27) rfl k_) ?_
  show Go p e below (T3.setTop (mkF m 28 #[.val (.int p1), .val (.int p2), .val (.int sm), .val (.int (1 : Int32)), .unset] [(.int sm), (.int (own_unr sm))])) _
  obtain ⟨_, _, ⟨T4, L4, k4_, n4_⟩, -, X4, ⟨Lc4, hQ4, l4_, y4_, z4_⟩, st4⟩ := Jvm.LawKit.callS X3 hx (y := (⟨"com/example/method_to_route/methodtoroute/PercentEncodingIsUnreservedPinLaw", "ref", "(I)Z"⟩ : MethodName)) hown (mvT hZ (hw _ (List.mem_of_getElem? (i := 4) rfl))) (mvT hZ (hw _ (List.mem_of_getElem? (i := 5) rfl))) (mvT hZ (hw _ (List.mem_of_getElem? (i := 6) rfl))) (mvT hZ (hw _ (List.mem_of_getElem? (i := 7) rfl))) (by decide) (backOf (W := 1) (rm2 l Z a0 hw [] sm h0 n0 Z0) hZ (hw _ (List.mem_of_getElem? (i := 7) rfl)) (hw _ (List.mem_of_getElem? (i := 6) rfl)) (by decide) (by decide)) (g := (mkF m 28 #[.val (.int p1), .val (.int p2), .val (.int sm), .val (.int (1 : Int32)), .unset] [(.int sm), (.int (own_unr sm))])) rfl (by rw [hml]; rfl) (argsL := [(.int sm)]) (rest := [(.int (own_unr sm))]) (lenOf pd_0 rfl) rfl (by show 2 * 0 + _ ≤ _; exact Nat.le_of_eq rfl) (hb hby at_28) (fun _ _ => ⟨rfl, e3, (by decide : 0 + 0 ≤ _), (by decide : 0 + 0 ≤ _)⟩)
  dsimp only [Pt.U, Pt.locs, Pt.cells, Pt.slots] at X4 l4_ y4_ z4_ st4 hQ4
  subst l4_ y4_ z4_
  obtain ⟨rfl, N4q, e4⟩ := hQ4
  have N4 := Fr.app N3 N4q
  refine Go.st st4 ?_
  show Go p e below (T4.setTop (mkF m 31 #[.val (.int p1), .val (.int p2), .val (.int sm), .val (.int (1 : Int32)), .unset] [(.int (own_ref sm)), (.int (own_unr sm))])) _
  have hc31 : (own_unr sm) = (own_ref sm) := own_eq _
  refine Go.st (fun _ k_ => XS.icmpNo X4.here hx rfl (hb hby at_31) rfl (teq hc31).2 k_) ?_
  show Go p e below (T4.setTop (mkF m 34 #[.val (.int p1), .val (.int p2), .val (.int sm), .val (.int (1 : Int32)), .unset] [])) _
  refine Go.st (fun _ k_ => XS.iconst X4.here hx rfl (hb hby at_34) k_) ?_
  show Go p e below (T4.setTop (mkF m 35 #[.val (.int p1), .val (.int p2), .val (.int sm), .val (.int (1 : Int32)), .unset] [(.int (1 : Int32))])) _
  refine Go.st (fun _ k_ => XS.goto X4.here hx rfl (pc0 := 35) (pc' := 39) rfl (hb hby at_35) (by decide) (by decide) k_) ?_
  show Go p e below (T4.setTop (mkF m 39 #[.val (.int p1), .val (.int p2), .val (.int sm), .val (.int (1 : Int32)), .unset] [(.int (1 : Int32))])) _
  refine Go.st (fun _ k_ => XS.istore X4.here hx rfl (hb hby at_39) rfl (l' := #[.val (.int p1), .val (.int p2), .val (.int sm), .val (.int (1 : Int32)), .val (.int (1 : Int32))]) rfl k_) ?_
  show Go p e below (T4.setTop (mkF m 41 #[.val (.int p1), .val (.int p2), .val (.int sm), .val (.int (1 : Int32)), .val (.int (1 : Int32))] [])) _
  refine Go.st (fun _ k_ => XS.iloadN X4.here hx rfl (hb hby at_41) rfl k_) ?_
  show Go p e below (T4.setTop (mkF m 42 #[.val (.int p1), .val (.int p2), .val (.int sm), .val (.int (1 : Int32)), .val (.int (1 : Int32))] [(.int (1 : Int32))])) _
  refine Go.st (fun _ k_ => XS.ifNo X4.here hx rfl (hb hby at_42) rfl ((if0 _ _).trans (feq (by decide : ¬ ((1 : Int32) = (0 : Int32)))).1) k_) ?_
  show Go p e below (T4.setTop (mkF m 45 #[.val (.int p1), .val (.int p2), .val (.int sm), .val (.int (1 : Int32)), .val (.int (1 : Int32))] [])) _
  refine Go.st (fun _ k_ => XS.iload X4.here hx rfl (hb hby at_45) rfl k_) ?_
  show Go p e below (T4.setTop (mkF m 47 #[.val (.int p1), .val (.int p2), .val (.int sm), .val (.int (1 : Int32)), .val (.int (1 : Int32))] [(.int (1 : Int32))])) _
  refine Go.st (fun _ k_ => XS.ifNo X4.here hx rfl (hb hby at_47) rfl ((if0 _ _).trans (feq (by decide : ¬ ((1 : Int32) = (0 : Int32)))).1) k_) ?_
  show Go p e below (T4.setTop (mkF m 50 #[.val (.int p1), .val (.int p2), .val (.int sm), .val (.int (1 : Int32)), .val (.int (1 : Int32))] [])) _
  refine Go.st (fun _ k_ => XS.iconst X4.here hx rfl (hb hby at_50) k_) ?_
  show Go p e below (T4.setTop (mkF m 51 #[.val (.int p1), .val (.int p2), .val (.int sm), .val (.int (1 : Int32)), .val (.int (1 : Int32))] [(.int (1 : Int32))])) _
  refine Go.st (fun _ k_ => XS.goto X4.here hx rfl (pc0 := 51) (pc' := 55) rfl (hb hby at_51) (by decide) (by decide) k_) ?_
  show Go p e below (T4.setTop (mkF m 55 #[.val (.int p1), .val (.int p2), .val (.int sm), .val (.int (1 : Int32)), .val (.int (1 : Int32))] [(.int (1 : Int32))])) _
  refine Go.fin X4 (v := some (.int (1 : Int32))) (fun h_ => by rw [Bd.returns] at h_; cases h_) Bd.notSynchronized (fun _ hr => retN X4 hx (t := .boolean) Bd.returns (by simp) (hb hby at_55) hr) (fun U' hU hF => ⟨_, _, rfl, ?_, hF.1, hF.2.1, hF.2.2.mono (by decide) (by decide)⟩)
  exact ⟨(congrArg (fun z_ : Int32 => some (Value.int z_)) (show (1 : Int32) = (1 : Int32) from rfl)), N4⟩
set_option maxRecDepth 65536 in
set_option maxHeartbeats 40000000 in
theorem comes_1 {Post : Tables → Env → Array Value → State → Outcome → State → Prop} (hpost : ∀ tb e args s v u, (limb_1_1.after args s (.returned v) u = true ∧ limb_1_2.after args s (.returned v) u = true ∧ True) → FrameEnd s (.returned v) u (Jvm.fieldLocs frame_1_writes args s ++ Jvm.arrayLocs frame_1_arrays args s ++ Jvm.staticLocs frame_1_statics s) 0 0 → Post tb e args s (.returned v) u) :
    ArmFor flags0 classFile x code maxLocals ret World_1 tables_1 room_1 Calls_1 rest_1 Pre_1 Post := by
  intro l hfl _ _ p e ha hc hk s m args below hf hA hF happ hP
  obtain ⟨hcalls, hrest, hpre⟩ := hP
  obtain ⟨-, -, -, hnamed, -, -, -, hat⟩ := (Spec.applies_iff hf).mp happ
  obtain ⟨hg, hn⟩ := and_e (Cond.before_iff.mp (show (Jvm.Cond.and given_1 narrow_1).before args s = true from hpre))
  obtain ⟨g1, g2⟩ := and_e hg
  obtain ⟨g3, g4⟩ := and_e g2
  obtain ⟨w0, w1, rfl⟩ : ∃ w0 w1 : Value, args = #[w0, w1] := by
    have hs : args.size = 2 := by simpa [Cond.value, given_1] using g1
    obtain ⟨L⟩ := args
    match L, hs with
    | [w0, w1], _ => exact ⟨w0, w1, rfl⟩
  have hw := fun d (hd : d ∈ tables_1) => atoms_spec (ws := Jvm.Cond.code x code maxLocals ret :: tables_1) hat d (List.mem_cons_of_mem _ hd)
  have hfit : Fit s := fun {y c} hc i hi => by
    obtain ⟨ha, rfl⟩ := Array.getElem?_eq_some_iff.mp hc
    have q := List.all_eq_true.mp ((Array.all_eq_true_iff_forall_mem.mp hF) _ (Array.getElem_mem ha)) i (List.mem_range.mpr hi)
    simpa [Array.getElem?_eq_getElem hi] using q
  obtain ⟨i0, ei0⟩ := is_v g3
  obtain rfl : w0 = (.int i0) := Option.some.inj ei0
  obtain ⟨i1, ei1⟩ := is_v g4
  obtain rfl : w1 = (.int i1) := Option.some.inj ei1
  obtain ⟨n, o, h1, h2, h3, _, L, rfl, ⟨rfl, N⟩, hq⟩ := rm0 l s _ hw tables_1 i0 i1 s.heap s.heap.size (Nat.le_refl _) p e ha hc hk s m _ below hf ((Spec.applies_iff_loose hf).mp happ).1 ⟨rfl, State.Warmed39.refl s, rfl⟩ trivial
  refine ⟨n, _, h1, h2, h3, hpost _ _ _ _ _ _ ⟨Cond.after_iff.mpr rfl, Cond.after_iff.mpr (eq_i res_at (Term.int_eval (1)) rfl), trivial⟩ ⟨hq.1, hq.2.1, (hq.2.2.sift fun y hy => Or.inr (N y hy)).mono (by decide) (by decide)⟩⟩
theorem main_1_1 : Claimed_1_1 := comes_1 fun _ _ _ _ _ _ h hF => ⟨h.1, hF⟩
theorem main_1_2 : Claimed_1_2 := comes_1 fun _ _ _ _ _ _ h hF => ⟨h.2.1, hF⟩
end Jvm.Pilot.@@N@@
namespace Jvm.Pilot.@@N@@
open Jvm Jvm.ClassFile Sem Op Lib Jvm.Free Jvm.Stand Jvm.Pilot.@@N@@.Jvm.D
/-! MADE BY PROGRAM (witnessworld.py) out of the Statement's table words and the real class files: 9 classes; the members and pool entries that the words name. The judged class is class 1, her method 2. -/
namespace start1
open Jvm.ClassFile
def u (s : String) : CpInfo := .utf8 (stringToUtf16 s)
/-- a pool by its gaps: so many unusable entries, then the entry; so many at the end -/
def gap : Nat → List CpInfo → List CpInfo
  | 0, r => r
  | n + 1, r => .unusable :: gap n r
def poolList (es : List (Nat × CpInfo)) (last : Nat) : List CpInfo := es.foldr (fun e r => gap e.1 (e.2 :: r)) (gap last [])
def pool (es : List (Nat × CpInfo)) (last : Nat) : Array CpInfo := ⟨poolList es last⟩
def fileOf (pool : Array CpInfo) (this : Nat) (attrs : Array Attribute := #[]) (ms : Array MethodInfo := #[]) (fl : Nat := 33) (sup : Nat := 0) (ifs : Array Nat := #[]) (fds : Array FieldInfo := #[]) : ClassFile where
  minorVersion := 0
  majorVersion := 65
  constantPool := pool
  accessFlags := fl
  thisClass := this
  superClass := sup
  interfaces := ifs
  fields := fds
  methods := ms
  attributes := attrs
def plain (name : String) (sup : Option ClassId) : Class where
  name := name
  kind := .ordinary
  loader := none
  accessFlags := 33
  super := sup
  interfaces := #[]
  cf := none
  fields := #[]
  methods := #[]
  instanceTypes := #[]
  staticTypes := #[]
  resolved := #[]
  callSites := []
  init := .initialized
  statics := none
  mirror := none

def pool0 : Array CpInfo := pool [(5, u "<init>"), (0, u "()V"), (1, .class_ 10), (1, u "java/lang/Object")] 113

def k0m0 : Method := { name := "<init>", desc := "()V", sig := { parameters := [], returnType := none }, accessFlags := 1, code := none }
/-- java/lang/Object -/
def k0 : Class := { plain "java/lang/Object" none with
  accessFlags := 33
  interfaces := #[]
  cf := some (fileOf pool0 8 #[] #[{ accessFlags := 1, nameIndex := 5, descriptorIndex := 6, attributes := #[] }] 33 0 #[] #[])
  fields := #[]
  methods := #[k0m0]
  instanceTypes := #[]
  staticTypes := #[]
  resolved := Array.replicate 124 none
  statics := none }

def pool1 : Array CpInfo := pool [(2, .class_ 4), (1, u "java/lang/Object"), (0, u "<init>"), (0, u "()V"), (0, .class_ 8), (0, u "com/example/method_to_route/methodtoroute/PercentEncodingIsUnreservedPinLaw"), (0, .long 288054454291267584), (1, .long 5188146764422578174), (1, .methodref 14 15), (0, .class_ 16), (0, .nameAndType 17 18), (0, u "com/example/method_to_route/methodtoroute/PercentEncoding"), (0, u "isUnreserved"), (0, u "(I)Z"), (0, .methodref 7 20), (0, .nameAndType 21 18), (0, u "ref"), (0, u "LO"), (0, u "J"), (1, u "HI"), (3, u "law"), (0, u "(II)Z")] 2

def k1m0 : Method := { name := "<init>", desc := "()V", sig := { parameters := [], returnType := none }, accessFlags := 2, code := none }
def k1c1 : Code := { maxStack := 4, maxLocals := 1, code := method_2_code, exceptionTable := #[], attributes := #[] }
def k1m1 : Method := { name := "ref", desc := "(I)Z", sig := { parameters := [.int], returnType := some .boolean }, accessFlags := 10, code := some k1c1 }
def k1c2 : Code := { maxStack := 2, maxLocals := 5, code := code, exceptionTable := #[], attributes := #[] }
def k1m2 : Method := { name := "law", desc := "(II)Z", sig := { parameters := [.int, .int], returnType := some .boolean }, accessFlags := 9, code := some k1c2 }
/-- com/example/method_to_route/methodtoroute/PercentEncodingIsUnreservedPinLaw -/
def k1 : Class := { plain "com/example/method_to_route/methodtoroute/PercentEncodingIsUnreservedPinLaw" (some 0) with
  accessFlags := 49
  interfaces := #[]
  cf := some (fileOf pool1 7 #[] #[{ accessFlags := 2, nameIndex := 5, descriptorIndex := 6, attributes := #[] }, { accessFlags := 10, nameIndex := 21, descriptorIndex := 18, attributes := #[] }, { accessFlags := 9, nameIndex := 29, descriptorIndex := 30, attributes := #[] }] 49 2 #[] #[{ accessFlags := 26, nameIndex := 22, descriptorIndex := 23, attributes := #[] }, { accessFlags := 26, nameIndex := 25, descriptorIndex := 23, attributes := #[] }])
  fields := #[{ name := "LO", type := .long, accessFlags := 26, slot := 0, constantValue := 0 }, { name := "HI", type := .long, accessFlags := 26, slot := 1, constantValue := 0 }]
  methods := #[k1m0, k1m1, k1m2]
  instanceTypes := #[]
  staticTypes := #[.long, .long]
  resolved := Array.replicate 33 none
  statics := none }

def pool2 : Array CpInfo := pool [(1, .class_ 2), (0, u "com/example/method_to_route/methodtoroute/PercentEncoding"), (1, .class_ 6), (1, u "java/lang/Object"), (0, u "<init>"), (0, u "()V"), (48, u "isUnreserved"), (0, u "(I)Z"), (115, u "RESERVED"), (0, u "Ljava/lang/String;"), (3, u "HEX"), (0, u "HEX_DIGITS")] 50

def k2m0 : Method := { name := "<init>", desc := "()V", sig := { parameters := [], returnType := none }, accessFlags := 2, code := none }
def k2c1 : Code := { maxStack := 2, maxLocals := 1, code := prog_8_method_13_code, exceptionTable := #[], attributes := #[] }
def k2m1 : Method := { name := "isUnreserved", desc := "(I)Z", sig := { parameters := [.int], returnType := some .boolean }, accessFlags := 8, code := some k2c1 }
/-- com/example/method_to_route/methodtoroute/PercentEncoding -/
def k2 : Class := { plain "com/example/method_to_route/methodtoroute/PercentEncoding" (some 0) with
  accessFlags := 48
  interfaces := #[]
  cf := some (fileOf pool2 1 #[] #[{ accessFlags := 2, nameIndex := 7, descriptorIndex := 8, attributes := #[] }, { accessFlags := 8, nameIndex := 57, descriptorIndex := 58, attributes := #[] }] 48 4 #[] #[{ accessFlags := 24, nameIndex := 174, descriptorIndex := 175, attributes := #[] }, { accessFlags := 26, nameIndex := 179, descriptorIndex := 175, attributes := #[] }, { accessFlags := 26, nameIndex := 180, descriptorIndex := 175, attributes := #[] }])
  fields := #[{ name := "RESERVED", type := (.object "java/lang/String"), accessFlags := 24, slot := 0, constantValue := 0 }, { name := "HEX", type := (.object "java/lang/String"), accessFlags := 26, slot := 1, constantValue := 0 }, { name := "HEX_DIGITS", type := (.object "java/lang/String"), accessFlags := 26, slot := 2, constantValue := 0 }]
  methods := #[k2m0, k2m1]
  instanceTypes := #[]
  staticTypes := #[(.object "java/lang/String"), (.object "java/lang/String"), (.object "java/lang/String")]
  resolved := Array.replicate 231 none
  statics := none }

def pool3 : Array CpInfo := pool [(1, u "java/lang/Cloneable"), (0, .class_ 1), (0, u "java/lang/Object"), (0, .class_ 3)] 3

/-- java/lang/Cloneable -/
def k3 : Class := { plain "java/lang/Cloneable" (some 0) with
  accessFlags := 1537
  interfaces := #[]
  cf := some (fileOf pool3 2 #[] #[] 1537 4 #[] #[])
  fields := #[]
  methods := #[]
  instanceTypes := #[]
  staticTypes := #[]
  resolved := Array.replicate 8 none
  statics := none }

def pool4 : Array CpInfo := pool [(1, u "java/io/Serializable"), (0, .class_ 1), (0, u "java/lang/Object"), (0, .class_ 3)] 3

/-- java/io/Serializable -/
def k4 : Class := { plain "java/io/Serializable" (some 0) with
  accessFlags := 1537
  interfaces := #[]
  cf := some (fileOf pool4 2 #[] #[] 1537 4 #[] #[])
  fields := #[]
  methods := #[]
  instanceTypes := #[]
  staticTypes := #[]
  resolved := Array.replicate 8 none
  statics := none }

/-- the primitive byte -/
def k5 : Class := { plain "byte" none with kind := .primitive 'B', accessFlags := 0x411 }
/-- [B -/
def k6 : Class := { plain "[B" (some 0) with kind := .array 5 .byte, interfaces := #[3, 4], accessFlags := 1041 }

/-- the primitive int -/
def k7 : Class := { plain "int" none with kind := .primitive 'I', accessFlags := 0x411 }
/-- [I -/
def k8 : Class := { plain "[I" (some 0) with kind := .array 7 .int, interfaces := #[3, 4], accessFlags := 1041 }

def heap : Heap := #[]
def classes : Array Class := #[k0, k1, k2, k3, k4, k5, k6, k7, k8]
def interned : List (Array UInt16 × Addr) := []
def slotsUsed : Nat := 0
def theMethod : MethodId := ⟨1, 2⟩
def args0 : Array Value := #[.int 5, .int 7]
def aboutOver (below : List Frame) : State where
  vm := { classes := classes, interned := interned.toArray }
  heap := heap
  slotsUsed := slotsUsed
  threads := #[{ frames := .invoking theMethod args0 :: below }]
def below0 : List Frame := [.native { method := ⟨0, 0⟩, args := #[] }]
def about1 : State := aboutOver below0
def p0 : Program := .bare "" "" ""
def e0 : Env := launch0.env 0 0 0
theorem w_frames : about1.frames = Frame.invoking theMethod args0 :: below0 := rfl
set_option maxRecDepth 65536 in
theorem w_args : argsFit about1.vm theMethod args0 = true := by decide +kernel
set_option maxRecDepth 65536 in
theorem w_heap : heapFits about1 = true := by decide +kernel
set_option maxRecDepth 65536 in
theorem w_runnable : about1.curStatus? = some .runnable := by decide +kernel
set_option maxRecDepth 65536 in
theorem w_alone : about1.alone = true := by decide +kernel
set_option maxRecDepth 65536 in
theorem w_named : about1.methodNamed? x = some theMethod := by decide +kernel
set_option maxRecDepth 65536 in
theorem w_hears : about1.hears theMethod below0 = true := by decide +kernel
set_option maxRecDepth 65536 in
theorem w_ripe : about1.ripe theMethod args0 below0 = true := by decide +kernel
theorem w_running : about1.status = .running := rfl
set_option maxRecDepth 65536 in
theorem w_room : about1.hasRoom e0.platform room_1 = true :=
  launch0.hasRoom_least _ room_1 (by decide +kernel) (by decide +kernel) (by decide +kernel) (by decide +kernel) (by decide +kernel) (by decide +kernel)
theorem allAtoms_all (ts : List Jvm.Cond) (a : Array Jvm.Value) (st : Jvm.State) : (allAtoms ts).before a st = ts.all (fun c => c.before a st) := by
  induction ts with
  | nil => rfl
  | cons c t ih =>
    show (Jvm.Cond.and c (allAtoms t)).before a st = _
    rw [Jvm.Cond.before_and, ih, List.all_cons]
def words1 : List Jvm.Cond := Jvm.Cond.code x code maxLocals ret :: tables_1
/-- a 'code' word, met by the world's own term for the bytes: nothing is compared byte by byte -/
theorem code_word {y : MethodName} {bytes : ByteArray} {mx : Nat} {rt : Option FieldType} {a : Array Value} {s : State} {m : MethodId} {meth : Method} {c : Code} (h1 : s.methodNamed? y = some m) (h2 : s.vm.method? m = some meth) (h3 : meth.code = some c) (h4 : c.code = bytes)
    (h5 : (c.maxLocals == mx && c.exceptionTable.isEmpty && decide (c.maxStack ≤ mostOperands) && decide (meth.sig.returnType = rt) && !meth.locks && decide (parseMethodDescriptor y.desc = some meth.sig)) = true) : (Jvm.Cond.code y bytes mx rt).before a s = true := by
  simp only [Bool.and_eq_true, beq_iff_eq, Bool.not_eq_true', decide_eq_true_eq] at h5
  obtain ⟨⟨⟨⟨⟨g1, g2⟩, g3⟩, g4⟩, g5⟩, g6⟩ := h5
  simp [Cond.before, Cond.holds, Cond.value, h1, h2, h3, h4, g1, g2, g3, g4, g5, g6]
def isCode : Jvm.Cond → Bool
  | .code _ _ _ _ => true
  | _ => false
theorem all_split {L : List Jvm.Cond} {P : Jvm.Cond → Bool} (h1 : L.all (fun c => isCode c || P c) = true) (h2 : ∀ c ∈ L.filter isCode, P c = true) : L.all P = true := by
  refine List.all_eq_true.mpr fun c hc => ?_
  have h := List.all_eq_true.mp h1 c hc
  rcases Bool.eq_false_or_eq_true (isCode c) with hi | hi
  · exact h2 c (List.mem_filter.mpr ⟨hc, hi⟩)
  · simpa [hi] using h
set_option maxRecDepth 65536 in
theorem w_c0 : (Jvm.Cond.code x code maxLocals ret).before args0 about1 = true := code_word (m := ⟨1, 2⟩) (meth := k1m2) (c := k1c2) (by decide +kernel) rfl rfl rfl (by decide +kernel)
set_option maxRecDepth 65536 in
theorem w_c1 : (Jvm.Cond.code ({ cls := "com/example/method_to_route/methodtoroute/PercentEncoding", name := "isUnreserved", desc := "(I)Z" } : Jvm.MethodName) prog_8_method_13_code (1 : Nat) (Option.some Jvm.ClassFile.FieldType.boolean)).before args0 about1 = true := code_word (m := ⟨2, 1⟩) (meth := k2m1) (c := k2c1) (by decide +kernel) rfl rfl rfl (by decide +kernel)
set_option maxRecDepth 65536 in
theorem w_c2 : (Jvm.Cond.code ({ cls := "com/example/method_to_route/methodtoroute/PercentEncodingIsUnreservedPinLaw", name := "ref", desc := "(I)Z" } : Jvm.MethodName) method_2_code (1 : Nat) (Option.some Jvm.ClassFile.FieldType.boolean)).before args0 about1 = true := code_word (m := ⟨1, 1⟩) (meth := k1m1) (c := k1c1) (by decide +kernel) rfl rfl rfl (by decide +kernel)
def codes1 : List Jvm.Cond := [Jvm.Cond.code x code maxLocals ret, Jvm.Cond.code ({ cls := "com/example/method_to_route/methodtoroute/PercentEncoding", name := "isUnreserved", desc := "(I)Z" } : Jvm.MethodName) prog_8_method_13_code (1 : Nat) (Option.some Jvm.ClassFile.FieldType.boolean), Jvm.Cond.code ({ cls := "com/example/method_to_route/methodtoroute/PercentEncodingIsUnreservedPinLaw", name := "ref", desc := "(I)Z" } : Jvm.MethodName) method_2_code (1 : Nat) (Option.some Jvm.ClassFile.FieldType.boolean)]
set_option maxRecDepth 65536 in
theorem codes_eq : words1.filter isCode = codes1 := rfl
theorem w_codes : ∀ c ∈ words1.filter isCode, c.before args0 about1 = true := by
  rw [codes_eq]
  intro c hc
  simp only [codes1, List.mem_cons, List.not_mem_nil, or_false] at hc
  rcases hc with rfl | rfl | rfl
  · exact w_c0
  · exact w_c1
  · exact w_c2
set_option maxRecDepth 65536 in
theorem w_t1 : words1.all (fun c => isCode c || c.before args0 about1) = true := by decide +kernel
theorem w_tables : (allAtoms (Jvm.Cond.code x code maxLocals ret :: tables_1)).before args0 about1 = true := by
  rw [allAtoms_all]
  show words1.all (fun c => c.before args0 about1) = true
  refine all_split ?_ w_codes
  rw [w_t1]
set_option maxRecDepth 65536 in
theorem w_case : (Jvm.Cond.and given_1 narrow_1).before args0 about1 = true := by decide +kernel
theorem w_applies : (headSpec (Jvm.Cond.code x code maxLocals ret :: tables_1) room_1).applies x e0.platform about1 = true :=
  (Spec.applies_iff w_frames).mpr ⟨w_running, w_runnable, w_alone, w_named, w_hears, w_ripe, w_room, w_tables⟩
theorem atStart : AtStart classFile x code maxLocals ret World_1 tables_1 room_1 Calls_1 rest_1 Pre_1 launch0 p0 e0 about1 theMethod args0 below0 :=
  ⟨lists_1, trivial, launch0.admits_env _ _ _, launch0.least_env, fairChoices_fair.cas, fairChoices_fair.clock, w_frames, w_args, w_heap, w_applies, trivial, trivial, w_case⟩
end start1
theorem witness_1 : WitnessClaimed_1 := ⟨start1.p0, start1.e0, start1.about1, start1.theMethod, start1.args0, start1.below0, start1.atStart⟩
end Jvm.Pilot.@@N@@
