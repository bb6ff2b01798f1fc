import JvmDerived
import JvmDerived.Pilot.@@N@@Statement
import JvmDerived.Pilot.@@N@@Code
set_option linter.unusedVariables false
set_option linter.unusedSimpArgs false
@@BLOCK:NumsL.lean.txt@@
namespace Jvm.RoadKit
open Sem ClassFile Op Lib Jvm.Stand Jvm.Free Jvm.LawKit
section Own
variable {p : Program} {l : Launch} {e : Env} {R : Room} {s : State} {m : MethodId} {args : Array Value} {below : List Frame} {meth : Method} {c : Code} {T : State} {locs : List Loc} {cells slots : Nat}
/-- from U the run ends, and P is said of the end -/
def Go (p : Program) (e : Env) (below : List Frame) (U : State) (P : Outcome → State → Prop) : Prop := ∃ s₂ o, Steps p.tables e below U s₂ ∧ s₂.status = .running ∧ Ended s₂ below o ∧ P o s₂
theorem Go.st {U U' : State} {P : Outcome → State → Prop} (k : ∀ t, Steps p.tables e below U' t → Steps p.tables e below U t) (g : Go p e below U' P) : Go p e below U P := by
  obtain ⟨t, o, a, r⟩ := g
  exact ⟨t, o, k t a, r⟩
theorem Go.tr {U U' : State} {P : Outcome → State → Prop} (k : Steps p.tables e below U U') (g : Go p e below U' P) : Go p e below U P := by
  obtain ⟨t, o, a, r⟩ := g
  exact ⟨t, o, k.trans a, r⟩
theorem Go.fin (X : Stand p l e R s m args below meth c T locs cells slots) {v : Option Value} (hv : meth.sig.returnType = none → v = none) (hlocks : meth.locks = false) {U : State} {P : Outcome → State → Prop}
    (st : ∀ fs, (∀ (f : JFrame) (acts : List Action), f.method = m → f.locked = none → f.entered = [] → (doReturn e (T.setTop f) acts v).1 = T.setFrames fs) → Steps p.tables e below U (T.setFrames fs))
    (hP : ∀ U' : State, U'.heap = T.heap → FrameEnd s (.returned v) U' locs cells slots → P (.returned v) U') : Go p e below U P := by
  obtain ⟨fs, hr, hrun, hended, hW, hsame⟩ := X.leave hv hlocks
  exact ⟨_, _, st fs hr, hrun, hended, hP _ rfl ⟨⟨_, rfl⟩, hW, hsame⟩⟩
theorem own_ord {a0 : Array Value} {t : Term} {a : Addr} {C n d : String} {k : Int32} (ev : t.eval a0 s none [] s = some (.ref a)) (h : (Cond.eq (.field t C n d) (.int k)).value a0 s none s [] = some true) : s.fieldOf? a C n d = some (.int k) := by
  have e1 := fld_at (C := C) (n := n) (dd := d) ev
  have e2 : (Term.int k).eval a0 s none [] s = some (.int k) := rfl
  cases hf : s.fieldOf? a C n d with
  | none => rw [hf] at e1; simp [Cond.value, e1] at h
  | some w =>
    rw [hf] at e1
    cases w <;> simp [Cond.value, e1, e2] at h
    rw [h]
theorem own_ne {a b : Addr} {C n d : String} {j k : Int32} (h1 : s.fieldOf? a C n d = some (.int j)) (h2 : s.fieldOf? b C n d = some (.int k)) (hne : j ≠ k) : a ≠ b := fun q => by
  subst q
  rw [h1] at h2
  exact hne (by injection (Option.some.inj h2))
theorem own_lsw {g : JFrame} {target : State} (X : Stand p l e R s m args below meth c T locs cells slots) (hx : p.tables.exec = Jvm.exec) (hg : g.method = m) {dflt : Int} {pairs : Array (Int × Int)} {len : Nat} {pc0 pc' : Nat} (hpc : g.pc = pc0)
    (hd : decode c.code g.pc = .ok (.lookupswitch dflt pairs, len)) {i : Int32} {rest : List Value} (hs : g.stack = .int i :: rest) {o : Int} (ho : lookupswitch.offset pairs.toList dflt i.toInt = o) (hso : ∀ (a b a_1 b_1 : Int), ((a, b), a_1, b_1) ∈ pairs.toList.zip pairs.toList.tail → a < a_1) (h0 : 0 ≤ (pc0 : Int) + o) (hp : ((pc0 : Int) + o).toNat = pc')
    (hr : Steps p.tables e below (T.setTop { g with pc := pc', stack := rest }) target) : Steps p.tables e below (T.setTop g) target := by
  subst hg hpc hp ho
  jvm_step X.here [X.here.top, hx, hd, hs, h0, lookupswitch.wp_chain]
  exact ⟨hso, hr⟩
theorem own_arvlt {Z : State} {h : Heap} {a : Addr} {k : ClassId} {ty : FieldType} {n : Int32} {vs : List Value} {d : Value} (V : Arv Z h a k ty n vs d) : a < h.size := by
  obtain ⟨c, A, -⟩ := V
  exact A.lt
end Own
end Jvm.RoadKit
namespace Jvm.Pilot.@@N@@
open Jvm Jvm.ClassFile Sem Op Lib Jvm.Free Jvm.Stand Jvm.LawKit Jvm.RoadKit Bundle Jvm.Pilot.@@N@@.Jvm.D
theorem own_mx (p : Int32) : 0 ≤ (p &&& (2147483647 : Int32)).toInt ∧ (p &&& (2147483647 : Int32)).toInt ≤ 2147483647 := by
  have h := Jvm.Kit.i32_mask p 2147483647 (k := 31) (by decide) (by decide)
  omega
theorem own_w {w wd : Int32} (e : wd = ((1 : Int32) + ((w &&& (2147483647 : Int32)) % (2147483647 : Int32)))) : 1 ≤ wd.toInt ∧ wd.toInt ≤ 2147483647 := by
  have h := own_mx w
  have z1 : (1 : Int32).toInt = 1 := by decide
  have zm : (2147483647 : Int32).toInt = 2147483647 := by decide
  have r : ((w &&& (2147483647 : Int32)) % (2147483647 : Int32)).toInt = (w &&& (2147483647 : Int32)).toInt % 2147483647 := by rw [Jvm.Kit.i32_rem_nonneg h.1, zm]
  have a : ((1 : Int32) + ((w &&& (2147483647 : Int32)) % (2147483647 : Int32))).toInt = 1 + (w &&& (2147483647 : Int32)).toInt % 2147483647 := by rw [Jvm.Kit.i32_add (by omega) (by omega), r, z1]
  rw [← e] at a
  omega
theorem own_nz {w wd : Int32} (e : wd = ((1 : Int32) + ((w &&& (2147483647 : Int32)) % (2147483647 : Int32)))) : wd ≠ 0 := fun q => by
  have h := own_w e
  rw [q] at h
  revert h; decide
theorem own_p {p wd pl : Int32} (hw : 1 ≤ wd.toInt ∧ wd.toInt ≤ 2147483647) (e : pl = ((p &&& (2147483647 : Int32)) % wd)) : 0 ≤ pl.toInt ∧ pl.toInt < wd.toInt := by
  have h := own_mx p
  have r : ((p &&& (2147483647 : Int32)) % wd).toInt = (p &&& (2147483647 : Int32)).toInt % wd.toInt := Jvm.Kit.i32_rem_nonneg h.1
  rw [← e] at r
  rw [r]
  exact ⟨Int.emod_nonneg _ (by omega), Int.emod_lt_of_pos _ (by omega)⟩
theorem own_m {wd pl mm : Int32} (hw : 1 ≤ wd.toInt ∧ wd.toInt ≤ 2147483647) (hp : 0 ≤ pl.toInt ∧ pl.toInt < wd.toInt) (e : mm = ((wd - (1 : Int32)) - pl)) : mm.toInt = wd.toInt - 1 - pl.toInt := by
  have z1 : (1 : Int32).toInt = 1 := by decide
  have a1 : (wd - (1 : Int32)).toInt = wd.toInt - 1 := by rw [Jvm.Kit.i32_sub (by omega) (by omega), z1]
  rw [e, Jvm.Kit.i32_sub (by omega) (by omega), a1]
theorem own_l {wd pl mm : Int32} (hw : 1 ≤ wd.toInt ∧ wd.toInt ≤ 2147483647) (hp : 0 ≤ pl.toInt ∧ pl.toInt < wd.toInt) (hm : mm.toInt = wd.toInt - 1 - pl.toInt) : (mm.toInt64) = (((wd.toInt64) - (1 : Int64)) - (pl.toInt64)) := by
  have z1 : (1 : Int64).toInt = 1 := by decide
  have e1 := Jvm.Kit.i64_of_i32 mm
  have e2 := Jvm.Kit.i64_of_i32 wd
  have e3 := Jvm.Kit.i64_of_i32 pl
  have a1 : (wd.toInt64 - (1 : Int64)).toInt = wd.toInt - 1 := by rw [Jvm.Kit.i64_sub (by omega) (by omega), z1, e2]
  apply Int64.toInt_inj.mp
  rw [Jvm.Kit.i64_sub (by omega) (by omega), a1, e1, e3, hm]
theorem d2_0 : decode jdk_37_method_2_code 0 = .ok (.aload_n 0, 1) := by decide +kernel
theorem d2_1 : decode jdk_37_method_2_code 1 = .ok (.getfield 7, 3) := by decide +kernel
theorem d2_4 : decode jdk_37_method_2_code 4 = .ok (.ireturn, 1) := by decide +kernel
theorem pn_3 : plainName "java/lang/Enum" = true := by first | (simp [plainName, overriddenIn]; done) | decide +kernel
theorem ef_rm2 (m : MethodId) (a1 : Addr) : entryFrame m #[(.ref a1)] 1 = mkF m 0 #[.val (.ref a1)] [] := by first | (simp [entryFrame, mkF, argsToLocals, Value.category]; done) | rfl
def Q_rm2 (Z : State) (a1 : Addr) (f_ordinal_a1 : Int32) (h0 : Heap) (n0 : Nat) (v : Option Value) (h : Heap) (L : List Loc) : Prop := v = some (.int f_ordinal_a1) ∧ Fr n0 L ∧ h = h0
set_option maxRecDepth 65536 in
set_option maxHeartbeats 40000000 in
theorem rm2 (l : Launch) (Z : State) (a0 : Array Value) (hw : ∀ d ∈ tables_1, d.before a0 Z = true) (ws : List Jvm.Cond) (a1 : Addr) (f_ordinal_a1 : Int32) (h0 : Heap) (n0 : Nat) (Z0 : n0 ≤ h0.size) (F_ordinal_a1 : Fld Z h0 a1 "java/lang/Enum" "ordinal" "I" (.int f_ordinal_a1)) :
    MetFree l (⟨"java/lang/Enum", "ordinal", "()I"⟩ : MethodName) (head1 (Jvm.Cond.code (⟨"java/lang/Enum", "ordinal", "()I"⟩ : MethodName) jdk_37_method_2_code 1 (some .int) :: ws) ({ frames := 0, cells := 0, slots := 0, locals := 0 } : Room)) (fun a U => a = #[(.ref a1)] ∧ Z.Warmed39 U.vm ∧ U.heap = h0) (fun _ _ _ _ _ => True) (fun _ U o U' => ∃ v L, o = .returned v ∧ Q_rm2 Z a1 f_ordinal_a1 h0 n0 v U'.heap L ∧ FrameEnd U o U' L ({ frames := 0, cells := 0, slots := 0, locals := 0 } : Room).cells ({ frames := 0, cells := 0, slots := 0, locals := 0 } : Room).slots) := by
  refine MetFree.of_bodySF (plainFor_of_name pn_3) hisR ?_
  intro p e s m args below meth c s₁ Bd hml0 hP hK
  obtain ⟨rfl, hZ, hh⟩ := hP
  have hx := Bd.exec
  have hby := Bd.bytes
  have hml : c.maxLocals = 1 := hml0
  have hown : s.vm.findClass "java/lang/Enum" = some m.cls := findClass_of_methodNamed Bd.named
  have hnm := (name_of_methodNamed Bd.named Bd.method).1
  have X0 : Stand p l e ({ frames := 0, cells := 0, slots := 0, locals := 0 } : Room) s m #[(.ref a1)] below meth c s₁ [] 0 0 := Stand.of_body Bd
  have e0 : s₁.heap = h0 := by rw [← hh, Bd.state]; rfl
  have N0 := Fr.nil n0
  show Go p e below (s₁.setTop (entryFrame m #[(.ref a1)] 1)) (fun o U' => ∃ v L, o = .returned v ∧ Q_rm2 Z a1 f_ordinal_a1 h0 n0 v U'.heap L ∧ FrameEnd s o U' L ({ frames := 0, cells := 0, slots := 0, locals := 0 } : Room).cells ({ frames := 0, cells := 0, slots := 0, locals := 0 } : Room).slots)
  rw [ef_rm2]
  show Go p e below (s₁.setTop (mkF m 0 #[.val (.ref a1)] [])) _
  refine Go.st (fun _ k_ => XS.aloadN X0.here hx rfl (hb hby d2_0) rfl rfl k_) ?_
  show Go p e below (s₁.setTop (mkF m 1 #[.val (.ref a1)] [(.ref a1)])) _
  obtain ⟨T1, X1, e1, st1⟩ := getF X0 hx hZ hown (host := "") (Or.inl (hw _ (List.mem_of_getElem? (i := 18) rfl))) Via.refl e0 F_ordinal_a1 (g := (mkF m 1 #[.val (.ref a1)] [(.ref a1)])) rfl rfl (hb hby d2_1)
  refine Go.st st1 ?_
  show Go p e below (T1.setTop (mkF m 4 #[.val (.ref a1)] [(.int f_ordinal_a1)])) _
  refine Go.fin X1 (v := some (.int f_ordinal_a1)) (fun h_ => by rw [Bd.returns] at h_; cases h_) Bd.notSynchronized (fun _ hr => retOut X1 hx Bd.returns rfl (Or.inl ⟨rfl, Or.inl rfl, _, rfl⟩) (hb hby d2_4) hr) (fun U' hU hF => ⟨_, _, rfl, ?_, hF.1, hF.2.1, hF.2.2.mono (by decide) (by decide)⟩)
  rw [hU, e1]
  exact ⟨(congrArg (fun z_ : Int32 => some (Value.int z_)) (show f_ordinal_a1 = f_ordinal_a1 from rfl)), N0, rfl⟩
theorem pd_0 : parseMethodDescriptor "()I" = some ⟨[], some .int⟩ := by decide +kernel
theorem d1_0 : decode prog_7_method_4_code 0 = .ok (.aload_n 0, 1) := by decide +kernel
theorem d1_1 : decode prog_7_method_4_code 1 = .ok (.invokevirtual 29, 3) := by decide +kernel
theorem d1_4 : decode prog_7_method_4_code 4 = .ok (.lookupswitch 28 #[(0, 38), (1, 42)], 28) := by decide +kernel
theorem d1_42 : decode prog_7_method_4_code 42 = .ok (.iload_n 1, 1) := by decide +kernel
theorem d1_43 : decode prog_7_method_4_code 43 = .ok (.goto 8, 3) := by decide +kernel
theorem d1_51 : decode prog_7_method_4_code 51 = .ok (.ireturn, 1) := by decide +kernel
theorem pn_10 : plainName "com/example/inkwire/inkwire/codec/DigitCodec$Order" = true := by first | (simp [plainName, overriddenIn]; done) | decide +kernel
theorem ef_rm1_0 (m : MethodId) (a1 : Addr) (p2 : Int32) (p3 : Int32) : entryFrame m #[(.ref a1), (.int p2), (.int p3)] 3 = mkF m 0 #[.val (.ref a1), .val (.int p2), .val (.int p3)] [] := by first | (simp [entryFrame, mkF, argsToLocals, Value.category]; done) | rfl
def Q_rm1_0 (Z : State) (a1 : Addr) (p2 : Int32) (p3 : Int32) (h0 : Heap) (n0 : Nat) (v : Option Value) (h : Heap) (L : List Loc) : Prop := v = some (.int p2) ∧ Fr n0 L ∧ h = h0
set_option maxRecDepth 65536 in
set_option maxHeartbeats 40000000 in
theorem rm1_0 (l : Launch) (Z : State) (a0 : Array Value) (hw : ∀ d ∈ tables_1, d.before a0 Z = true) (ws : List Jvm.Cond) (a1 : Addr) (p2 : Int32) (p3 : Int32) (h0 : Heap) (n0 : Nat) (Z0 : n0 ≤ h0.size) (E_a1 : Exa Z h0 a1 "com/example/inkwire/inkwire/codec/DigitCodec$Order") (F_od : Fld Z h0 a1 "java/lang/Enum" "ordinal" "I" (.int (0 : Int32))) :
    MetFree l (⟨"com/example/inkwire/inkwire/codec/DigitCodec$Order", "position", "(II)I"⟩ : MethodName) (head1 (Jvm.Cond.code (⟨"com/example/inkwire/inkwire/codec/DigitCodec$Order", "position", "(II)I"⟩ : MethodName) prog_7_method_4_code 3 (some .int) :: ws) ({ frames := 1, cells := 0, slots := 0, locals := 12 } : Room)) (fun a U => a = #[(.ref a1), (.int p2), (.int p3)] ∧ Z.Warmed39 U.vm ∧ U.heap = h0) (fun _ _ _ _ _ => True) (fun _ U o U' => ∃ v L, o = .returned v ∧ Q_rm1_0 Z a1 p2 p3 h0 n0 v U'.heap L ∧ FrameEnd U o U' L ({ frames := 1, cells := 0, slots := 0, locals := 12 } : Room).cells ({ frames := 1, cells := 0, slots := 0, locals := 12 } : Room).slots) := by
  refine MetFree.of_bodySF (plainFor_of_name pn_10) hisR ?_
  intro p e s m args below meth c s₁ Bd hml0 hP hK
  obtain ⟨rfl, hZ, hh⟩ := hP
  have hx := Bd.exec
  have hby := Bd.bytes
  have hml : c.maxLocals = 3 := hml0
  have hown : s.vm.findClass "com/example/inkwire/inkwire/codec/DigitCodec$Order" = some m.cls := findClass_of_methodNamed Bd.named
  have hnm := (name_of_methodNamed Bd.named Bd.method).1
  have X0 : Stand p l e ({ frames := 1, cells := 0, slots := 0, locals := 12 } : Room) s m #[(.ref a1), (.int p2), (.int p3)] below meth c s₁ [] 0 0 := Stand.of_body Bd
  have e0 : s₁.heap = h0 := by rw [← hh, Bd.state]; rfl
  have N0 := Fr.nil n0
  show Go p e below (s₁.setTop (entryFrame m #[(.ref a1), (.int p2), (.int p3)] 3)) (fun o U' => ∃ v L, o = .returned v ∧ Q_rm1_0 Z a1 p2 p3 h0 n0 v U'.heap L ∧ FrameEnd s o U' L ({ frames := 1, cells := 0, slots := 0, locals := 12 } : Room).cells ({ frames := 1, cells := 0, slots := 0, locals := 12 } : Room).slots)
  rw [ef_rm1_0]
  show Go p e below (s₁.setTop (mkF m 0 #[.val (.ref a1), .val (.int p2), .val (.int p3)] [])) _
  refine Go.st (fun _ k_ => XS.aloadN X0.here hx rfl (hb hby d1_0) rfl rfl k_) ?_
  show Go p e below (s₁.setTop (mkF m 1 #[.val (.ref a1), .val (.int p2), .val (.int p3)] [(.ref a1)])) _
  obtain ⟨cq1, kq1, q1a, q1b, q1c⟩ := isOf hZ e0 E_a1
  obtain ⟨_, _, ⟨T1, L1, k1_, n1_⟩, -, X1, ⟨Lc1, hQ1, l1_, y1_, z1_⟩, st1⟩ := X0.virtualBackUp hx (owner := "java/lang/Enum") (x := (⟨"com/example/inkwire/inkwire/codec/DigitCodec$Order", "ordinal", "()I"⟩ : MethodName)) (y := (⟨"java/lang/Enum", "ordinal", "()I"⟩ : MethodName)) hown (mvT hZ (hw _ (List.mem_of_getElem? (i := 11) rfl))) (mvT hZ (hw _ (List.mem_of_getElem? (i := 12) rfl))) (mvT hZ (hw _ (List.mem_of_getElem? (i := 13) rfl))) (by decide) (mvT hZ (hw _ (List.mem_of_getElem? (i := 15) rfl))) (mvT hZ (hw _ (List.mem_of_getElem? (i := 14) rfl))) (backOf (W := 0) (rm2 l Z a0 hw [] a1 (0 : Int32) h0 n0 Z0 F_od) hZ (hw _ (List.mem_of_getElem? (i := 17) rfl)) (hw _ (List.mem_of_getElem? (i := 16) rfl)) (by decide) (by decide)) q1a q1c (g := (mkF m 1 #[.val (.ref a1), .val (.int p2), .val (.int p3)] [(.ref a1)])) rfl (by rw [hml]; rfl) (Steps.refl _) (argsL := []) (rest := []) (lenOf pd_0 rfl) rfl (by show 2 * 0 + _ ≤ _; exact Nat.le_of_eq rfl) (hb hby d1_1) (fun _ _ => ⟨rfl, e0, (by decide : 0 + 0 ≤ _), (by decide : 0 + 0 ≤ _)⟩)
  dsimp only [Pt.U, Pt.locs, Pt.cells, Pt.slots] at X1 l1_ y1_ z1_ st1 hQ1
  subst l1_ y1_ z1_
  obtain ⟨rfl, N1q, e1⟩ := hQ1
  have N1 := Fr.app N0 N1q
  refine Go.tr st1 ?_
  show Go p e below (T1.setTop (mkF m 4 #[.val (.ref a1), .val (.int p2), .val (.int p3)] [(.int (0 : Int32))])) _
  refine Go.st (fun _ k_ => own_lsw (g := (mkF m 4 #[.val (.ref a1), .val (.int p2), .val (.int p3)] [(.int (0 : Int32))])) X1 hx rfl (pc0 := 4) (pc' := 42) rfl (hb hby d1_4) rfl (o := 38) (by decide) (by intro a b a' b' h_; simp at h_; omega) (by decide) (by decide) k_) ?_
  show Go p e below (T1.setTop (mkF m 42 #[.val (.ref a1), .val (.int p2), .val (.int p3)] [])) _
  refine Go.st (fun _ k_ => XS.iloadN X1.here hx rfl (hb hby d1_42) rfl k_) ?_
  show Go p e below (T1.setTop (mkF m 43 #[.val (.ref a1), .val (.int p2), .val (.int p3)] [(.int p2)])) _
  refine Go.st (fun _ k_ => XS.goto X1.here hx rfl (pc0 := 43) (pc' := 51) rfl (hb hby d1_43) (by decide) (by decide) k_) ?_
  show Go p e below (T1.setTop (mkF m 51 #[.val (.ref a1), .val (.int p2), .val (.int p3)] [(.int p2)])) _
  refine Go.fin X1 (v := some (.int p2)) (fun h_ => by rw [Bd.returns] at h_; cases h_) Bd.notSynchronized (fun _ hr => retOut X1 hx Bd.returns rfl (Or.inl ⟨rfl, Or.inl rfl, _, rfl⟩) (hb hby d1_51) hr) (fun U' hU hF => ⟨_, _, rfl, ?_, hF.1, hF.2.1, hF.2.2.mono (by decide) (by decide)⟩)
  rw [hU, e1]
  exact ⟨(congrArg (fun z_ : Int32 => some (Value.int z_)) (show p2 = p2 from rfl)), N1, rfl⟩
theorem d1_46 : decode prog_7_method_4_code 46 = .ok (.iload_n 2, 1) := by decide +kernel
theorem d1_47 : decode prog_7_method_4_code 47 = .ok (.iconst 1, 1) := by decide +kernel
theorem d1_48 : decode prog_7_method_4_code 48 = .ok (.isub, 1) := by decide +kernel
theorem d1_49 : decode prog_7_method_4_code 49 = .ok (.iload_n 1, 1) := by decide +kernel
theorem d1_50 : decode prog_7_method_4_code 50 = .ok (.isub, 1) := by decide +kernel
theorem ef_rm1_1 (m : MethodId) (a1 : Addr) (p2 : Int32) (p3 : Int32) : entryFrame m #[(.ref a1), (.int p2), (.int p3)] 3 = mkF m 0 #[.val (.ref a1), .val (.int p2), .val (.int p3)] [] := by first | (simp [entryFrame, mkF, argsToLocals, Value.category]; done) | rfl
def Q_rm1_1 (Z : State) (a1 : Addr) (p2 : Int32) (p3 : Int32) (h0 : Heap) (n0 : Nat) (v : Option Value) (h : Heap) (L : List Loc) : Prop := v = some (.int ((p3 - (1 : Int32)) - p2)) ∧ Fr n0 L ∧ h = h0
set_option maxRecDepth 65536 in
set_option maxHeartbeats 40000000 in
theorem rm1_1 (l : Launch) (Z : State) (a0 : Array Value) (hw : ∀ d ∈ tables_1, d.before a0 Z = true) (ws : List Jvm.Cond) (a1 : Addr) (p2 : Int32) (p3 : Int32) (h0 : Heap) (n0 : Nat) (Z0 : n0 ≤ h0.size) (E_a1 : Exa Z h0 a1 "com/example/inkwire/inkwire/codec/DigitCodec$Order") (F_od : Fld Z h0 a1 "java/lang/Enum" "ordinal" "I" (.int (1 : Int32))) :
    MetFree l (⟨"com/example/inkwire/inkwire/codec/DigitCodec$Order", "position", "(II)I"⟩ : MethodName) (head1 (Jvm.Cond.code (⟨"com/example/inkwire/inkwire/codec/DigitCodec$Order", "position", "(II)I"⟩ : MethodName) prog_7_method_4_code 3 (some .int) :: ws) ({ frames := 1, cells := 0, slots := 0, locals := 12 } : Room)) (fun a U => a = #[(.ref a1), (.int p2), (.int p3)] ∧ Z.Warmed39 U.vm ∧ U.heap = h0) (fun _ _ _ _ _ => True) (fun _ U o U' => ∃ v L, o = .returned v ∧ Q_rm1_1 Z a1 p2 p3 h0 n0 v U'.heap L ∧ FrameEnd U o U' L ({ frames := 1, cells := 0, slots := 0, locals := 12 } : Room).cells ({ frames := 1, cells := 0, slots := 0, locals := 12 } : Room).slots) := by
  refine MetFree.of_bodySF (plainFor_of_name pn_10) hisR ?_
  intro p e s m args below meth c s₁ Bd hml0 hP hK
  obtain ⟨rfl, hZ, hh⟩ := hP
  have hx := Bd.exec
  have hby := Bd.bytes
  have hml : c.maxLocals = 3 := hml0
  have hown : s.vm.findClass "com/example/inkwire/inkwire/codec/DigitCodec$Order" = some m.cls := findClass_of_methodNamed Bd.named
  have hnm := (name_of_methodNamed Bd.named Bd.method).1
  have X0 : Stand p l e ({ frames := 1, cells := 0, slots := 0, locals := 12 } : Room) s m #[(.ref a1), (.int p2), (.int p3)] below meth c s₁ [] 0 0 := Stand.of_body Bd
  have e0 : s₁.heap = h0 := by rw [← hh, Bd.state]; rfl
  have N0 := Fr.nil n0
  show Go p e below (s₁.setTop (entryFrame m #[(.ref a1), (.int p2), (.int p3)] 3)) (fun o U' => ∃ v L, o = .returned v ∧ Q_rm1_1 Z a1 p2 p3 h0 n0 v U'.heap L ∧ FrameEnd s o U' L ({ frames := 1, cells := 0, slots := 0, locals := 12 } : Room).cells ({ frames := 1, cells := 0, slots := 0, locals := 12 } : Room).slots)
  rw [ef_rm1_1]
  show Go p e below (s₁.setTop (mkF m 0 #[.val (.ref a1), .val (.int p2), .val (.int p3)] [])) _
  refine Go.st (fun _ k_ => XS.aloadN X0.here hx rfl (hb hby d1_0) rfl rfl k_) ?_
  show Go p e below (s₁.setTop (mkF m 1 #[.val (.ref a1), .val (.int p2), .val (.int p3)] [(.ref a1)])) _
  obtain ⟨cq1, kq1, q1a, q1b, q1c⟩ := isOf hZ e0 E_a1
  obtain ⟨_, _, ⟨T1, L1, k1_, n1_⟩, -, X1, ⟨Lc1, hQ1, l1_, y1_, z1_⟩, st1⟩ := X0.virtualBackUp hx (owner := "java/lang/Enum") (x := (⟨"com/example/inkwire/inkwire/codec/DigitCodec$Order", "ordinal", "()I"⟩ : MethodName)) (y := (⟨"java/lang/Enum", "ordinal", "()I"⟩ : MethodName)) hown (mvT hZ (hw _ (List.mem_of_getElem? (i := 11) rfl))) (mvT hZ (hw _ (List.mem_of_getElem? (i := 12) rfl))) (mvT hZ (hw _ (List.mem_of_getElem? (i := 13) rfl))) (by decide) (mvT hZ (hw _ (List.mem_of_getElem? (i := 15) rfl))) (mvT hZ (hw _ (List.mem_of_getElem? (i := 14) rfl))) (backOf (W := 0) (rm2 l Z a0 hw [] a1 (1 : Int32) h0 n0 Z0 F_od) hZ (hw _ (List.mem_of_getElem? (i := 17) rfl)) (hw _ (List.mem_of_getElem? (i := 16) rfl)) (by decide) (by decide)) q1a q1c (g := (mkF m 1 #[.val (.ref a1), .val (.int p2), .val (.int p3)] [(.ref a1)])) rfl (by rw [hml]; rfl) (Steps.refl _) (argsL := []) (rest := []) (lenOf pd_0 rfl) rfl (by show 2 * 0 + _ ≤ _; exact Nat.le_of_eq rfl) (hb hby d1_1) (fun _ _ => ⟨rfl, e0, (by decide : 0 + 0 ≤ _), (by decide : 0 + 0 ≤ _)⟩)
  dsimp only [Pt.U, Pt.locs, Pt.cells, Pt.slots] at X1 l1_ y1_ z1_ st1 hQ1
  subst l1_ y1_ z1_
  obtain ⟨rfl, N1q, e1⟩ := hQ1
  have N1 := Fr.app N0 N1q
  refine Go.tr st1 ?_
  show Go p e below (T1.setTop (mkF m 4 #[.val (.ref a1), .val (.int p2), .val (.int p3)] [(.int (1 : Int32))])) _
  refine Go.st (fun _ k_ => own_lsw (g := (mkF m 4 #[.val (.ref a1), .val (.int p2), .val (.int p3)] [(.int (1 : Int32))])) X1 hx rfl (pc0 := 4) (pc' := 46) rfl (hb hby d1_4) rfl (o := 42) (by decide) (by intro a b a' b' h_; simp at h_; omega) (by decide) (by decide) k_) ?_
  show Go p e below (T1.setTop (mkF m 46 #[.val (.ref a1), .val (.int p2), .val (.int p3)] [])) _
  refine Go.st (fun _ k_ => XS.iloadN X1.here hx rfl (hb hby d1_46) rfl k_) ?_
  show Go p e below (T1.setTop (mkF m 47 #[.val (.ref a1), .val (.int p2), .val (.int p3)] [(.int p3)])) _
  refine Go.st (fun _ k_ => XS.iconst X1.here hx rfl (hb hby d1_47) k_) ?_
  show Go p e below (T1.setTop (mkF m 48 #[.val (.ref a1), .val (.int p2), .val (.int p3)] [(.int (1 : Int32)), (.int p3)])) _
  refine Go.st (fun _ k_ => XS.isub X1.here hx rfl (hb hby d1_48) rfl k_) ?_
  show Go p e below (T1.setTop (mkF m 49 #[.val (.ref a1), .val (.int p2), .val (.int p3)] [(.int (p3 - (1 : Int32)))])) _
  refine Go.st (fun _ k_ => XS.iloadN X1.here hx rfl (hb hby d1_49) rfl k_) ?_
  show Go p e below (T1.setTop (mkF m 50 #[.val (.ref a1), .val (.int p2), .val (.int p3)] [(.int p2), (.int (p3 - (1 : Int32)))])) _
  refine Go.st (fun _ k_ => XS.isub X1.here hx rfl (hb hby d1_50) rfl k_) ?_
  show Go p e below (T1.setTop (mkF m 51 #[.val (.ref a1), .val (.int p2), .val (.int p3)] [(.int ((p3 - (1 : Int32)) - p2))])) _
  refine Go.fin X1 (v := some (.int ((p3 - (1 : Int32)) - p2))) (fun h_ => by rw [Bd.returns] at h_; cases h_) Bd.notSynchronized (fun _ hr => retOut X1 hx Bd.returns rfl (Or.inl ⟨rfl, Or.inl rfl, _, rfl⟩) (hb hby d1_51) hr) (fun U' hU hF => ⟨_, _, rfl, ?_, hF.1, hF.2.1, hF.2.2.mono (by decide) (by decide)⟩)
  rw [hU, e1]
  exact ⟨(congrArg (fun z_ : Int32 => some (Value.int z_)) (show ((p3 - (1 : Int32)) - p2) = ((p3 - (1 : Int32)) - p2) from rfl)), N1, rfl⟩
theorem pd_1 : parseMethodDescriptor "(II)I" = some ⟨[.int, .int], some .int⟩ := by decide +kernel
theorem pn_16 : plainName "com/example/inkwire/inkwire/codec/OrderPositionPinLaw" = true := by first | (simp [plainName, overriddenIn]; done) | decide +kernel
theorem ef_rm0 (m : MethodId) (p1 : Int32) (p2 : Int32) (p3 : Int32) : entryFrame m #[(.int p1), (.int p2), (.int p3)] maxLocals = mkF m 0 #[.val (.int p1), .val (.int p2), .val (.int p3), .unset, .unset, .unset, .unset, .unset, .unset, .unset, .unset, .unset, .unset, .unset, .unset, .unset, .unset] [] := by first | (simp [entryFrame, mkF, argsToLocals, Value.category, maxLocals]; done) | rfl
def Q_rm0 (Z : State) (p1 : Int32) (p2 : Int32) (p3 : Int32) (w_LEAST_SIGNIFICANT_FIRST : Addr) (w_MOST_SIGNIFICANT_FIRST : Addr) (h0 : Heap) (n0 : Nat) (v : Option Value) (h : Heap) (L : List Loc) : Prop := v = some (.int (1 : Int32)) ∧ Fr n0 L
set_option maxRecDepth 65536 in
set_option maxHeartbeats 40000000 in
theorem rm0 (l : Launch) (Z : State) (a0 : Array Value) (hw : ∀ d ∈ tables_1, d.before a0 Z = true) (ws : List Jvm.Cond) (p1 : Int32) (p2 : Int32) (p3 : Int32) (w_LEAST_SIGNIFICANT_FIRST : Addr) (w_MOST_SIGNIFICANT_FIRST : Addr) (h0 : Heap) (n0 : Nat) (Z0 : n0 ≤ h0.size) (S_LEAST_SIGNIFICANT_FIRST : Sta Z h0 "com/example/inkwire/inkwire/codec/DigitCodec$Order" "LEAST_SIGNIFICANT_FIRST" "Lcom/example/inkwire/inkwire/codec/DigitCodec$Order;" (.ref w_LEAST_SIGNIFICANT_FIRST)) (S_MOST_SIGNIFICANT_FIRST : Sta Z h0 "com/example/inkwire/inkwire/codec/DigitCodec$Order" "MOST_SIGNIFICANT_FIRST" "Lcom/example/inkwire/inkwire/codec/DigitCodec$Order;" (.ref w_MOST_SIGNIFICANT_FIRST)) (E_w_LEAST_SIGNIFICANT_FIRST : Exa Z h0 w_LEAST_SIGNIFICANT_FIRST "com/example/inkwire/inkwire/codec/DigitCodec$Order") (E_w_MOST_SIGNIFICANT_FIRST : Exa Z h0 w_MOST_SIGNIFICANT_FIRST "com/example/inkwire/inkwire/codec/DigitCodec$Order") (F_LEAST_SIGNIFICANT_FIRST : Fld Z h0 w_LEAST_SIGNIFICANT_FIRST "java/lang/Enum" "ordinal" "I" (.int (0 : Int32))) (F_MOST_SIGNIFICANT_FIRST : Fld Z h0 w_MOST_SIGNIFICANT_FIRST "java/lang/Enum" "ordinal" "I" (.int (1 : Int32))) :
    MetFree l x (head1 (Jvm.Cond.code x code maxLocals ret :: ws) room_1) (fun a U => a = #[(.int p1), (.int p2), (.int p3)] ∧ Z.Warmed39 U.vm ∧ U.heap = h0) (fun _ _ _ _ _ => True) (fun _ U o U' => ∃ v L, o = .returned v ∧ Q_rm0 Z p1 p2 p3 w_LEAST_SIGNIFICANT_FIRST w_MOST_SIGNIFICANT_FIRST h0 n0 v U'.heap L ∧ FrameEnd U o U' L room_1.cells room_1.slots) := by
  refine MetFree.of_bodySF (plainFor_of_name pn_16) hisR ?_
  intro p e s m args below meth c s₁ Bd hml0 hP hK
  obtain ⟨rfl, hZ, hh⟩ := hP
  have hx := Bd.exec
  have hby := Bd.bytes
  have hml : c.maxLocals = 17 := hml0
  have hown : s.vm.findClass "com/example/inkwire/inkwire/codec/OrderPositionPinLaw" = some m.cls := findClass_of_methodNamed Bd.named
  have hnm := (name_of_methodNamed Bd.named Bd.method).1
  have X0 : Stand p l e room_1 s m #[(.int p1), (.int p2), (.int p3)] below meth c s₁ [] 0 0 := Stand.of_body Bd
  have e0 : s₁.heap = h0 := by rw [← hh, Bd.state]; rfl
  have N0 := Fr.nil n0
  show Go p e below (s₁.setTop (entryFrame m #[(.int p1), (.int p2), (.int p3)] maxLocals)) (fun o U' => ∃ v L, o = .returned v ∧ Q_rm0 Z p1 p2 p3 w_LEAST_SIGNIFICANT_FIRST w_MOST_SIGNIFICANT_FIRST h0 n0 v U'.heap L ∧ FrameEnd s o U' L room_1.cells room_1.slots)
  rw [ef_rm0]
  show Go p e below (s₁.setTop (mkF m 0 #[.val (.int p1), .val (.int p2), .val (.int p3), .unset, .unset, .unset, .unset, .unset, .unset, .unset, .unset, .unset, .unset, .unset, .unset, .unset, .unset] [])) _
  refine Go.st (fun _ k_ => XS.iconst X0.here hx rfl (hb hby at_0) k_) ?_
  show Go p e below (s₁.setTop (mkF m 1 #[.val (.int p1), .val (.int p2), .val (.int p3), .unset, .unset, .unset, .unset, .unset, .unset, .unset, .unset, .unset, .unset, .unset, .unset, .unset, .unset] [(.int (1 : Int32))])) _
  refine Go.st (fun _ k_ => XS.iloadN X0.here hx rfl (hb hby at_1) rfl k_) ?_
  show Go p e below (s₁.setTop (mkF m 2 #[.val (.int p1), .val (.int p2), .val (.int p3), .unset, .unset, .unset, .unset, .unset, .unset, .unset, .unset, .unset, .unset, .unset, .unset, .unset, .unset] [(.int p1), (.int (1 : Int32))])) _
  refine Go.st (X0.ldcInt hx hown (mvT hZ (hw _ (List.mem_of_getElem? (i := 0) rfl))) (g := (mkF m 2 #[.val (.int p1), .val (.int p2), .val (.int p3), .unset, .unset, .unset, .unset, .unset, .unset, .unset, .unset, .unset, .unset, .unset, .unset, .unset, .unset] [(.int p1), (.int (1 : Int32))])) rfl (hb hby at_2)) ?_
  show Go p e below (s₁.setTop (mkF m 4 #[.val (.int p1), .val (.int p2), .val (.int p3), .unset, .unset, .unset, .unset, .unset, .unset, .unset, .unset, .unset, .unset, .unset, .unset, .unset, .unset] [(.int (2147483647 : Int32)), (.int p1), (.int (1 : Int32))])) _
  refine Go.st (fun _ k_ => XS.iand X0.here hx rfl (hb hby at_4) rfl k_) ?_
  show Go p e below (s₁.setTop (mkF m 5 #[.val (.int p1), .val (.int p2), .val (.int p3), .unset, .unset, .unset, .unset, .unset, .unset, .unset, .unset, .unset, .unset, .unset, .unset, .unset, .unset] [(.int (p1 &&& (2147483647 : Int32))), (.int (1 : Int32))])) _
  refine Go.st (X0.ldcInt hx hown (mvT hZ (hw _ (List.mem_of_getElem? (i := 0) rfl))) (g := (mkF m 5 #[.val (.int p1), .val (.int p2), .val (.int p3), .unset, .unset, .unset, .unset, .unset, .unset, .unset, .unset, .unset, .unset, .unset, .unset, .unset, .unset] [(.int (p1 &&& (2147483647 : Int32))), (.int (1 : Int32))])) rfl (hb hby at_5)) ?_
  show Go p e below (s₁.setTop (mkF m 7 #[.val (.int p1), .val (.int p2), .val (.int p3), .unset, .unset, .unset, .unset, .unset, .unset, .unset, .unset, .unset, .unset, .unset, .unset, .unset, .unset] [(.int (2147483647 : Int32)), (.int (p1 &&& (2147483647 : Int32))), (.int (1 : Int32))])) _
  refine Go.st (fun _ k_ => Jvm.RoadKit.iremM (g := (mkF m 7 #[.val (.int p1), .val (.int p2), .val (.int p3), .unset, .unset, .unset, .unset, .unset, .unset, .unset, .unset, .unset, .unset, .unset, .unset, .unset, .unset] [(.int (2147483647 : Int32)), (.int (p1 &&& (2147483647 : Int32))), (.int (1 : Int32))])) X0 hx rfl (hb hby at_7) rfl (by decide) k_) ?_
  show Go p e below (s₁.setTop (mkF m 8 #[.val (.int p1), .val (.int p2), .val (.int p3), .unset, .unset, .unset, .unset, .unset, .unset, .unset, .unset, .unset, .unset, .unset, .unset, .unset, .unset] [(.int ((p1 &&& (2147483647 : Int32)) % (2147483647 : Int32))), (.int (1 : Int32))])) _
  refine Go.st (fun _ k_ => XS.iadd X0.here hx rfl (hb hby at_8) rfl k_) ?_
  show Go p e below (s₁.setTop (mkF m 9 #[.val (.int p1), .val (.int p2), .val (.int p3), .unset, .unset, .unset, .unset, .unset, .unset, .unset, .unset, .unset, .unset, .unset, .unset, .unset, .unset] [(.int ((1 : Int32) + ((p1 &&& (2147483647 : Int32)) % (2147483647 : Int32))))])) _
  obtain ⟨wd, ewd⟩ : ∃ z_ : Int32, z_ = ((1 : Int32) + ((p1 &&& (2147483647 : Int32)) % (2147483647 : Int32))) := ⟨_, rfl⟩
  rw [← ewd]
  show Go p e below (s₁.setTop (mkF m 9 #[.val (.int p1), .val (.int p2), .val (.int p3), .unset, .unset, .unset, .unset, .unset, .unset, .unset, .unset, .unset, .unset, .unset, .unset, .unset, .unset] [(.int wd)])) _
  refine Go.st (fun _ k_ => XS.istoreN X0.here hx rfl (hb hby at_9) rfl (l' := #[.val (.int p1), .val (.int p2), .val (.int p3), .val (.int wd), .unset, .unset, .unset, .unset, .unset, .unset, .unset, .unset, .unset, .unset, .unset, .unset, .unset]) rfl k_) ?_
  show Go p e below (s₁.setTop (mkF m 10 #[.val (.int p1), .val (.int p2), .val (.int p3), .val (.int wd), .unset, .unset, .unset, .unset, .unset, .unset, .unset, .unset, .unset, .unset, .unset, .unset, .unset] [])) _
  refine Go.st (fun _ k_ => XS.iloadN X0.here hx rfl (hb hby at_10) rfl k_) ?_
  show Go p e below (s₁.setTop (mkF m 11 #[.val (.int p1), .val (.int p2), .val (.int p3), .val (.int wd), .unset, .unset, .unset, .unset, .unset, .unset, .unset, .unset, .unset, .unset, .unset, .unset, .unset] [(.int p2)])) _
  refine Go.st (X0.ldcInt hx hown (mvT hZ (hw _ (List.mem_of_getElem? (i := 0) rfl))) (g := (mkF m 11 #[.val (.int p1), .val (.int p2), .val (.int p3), .val (.int wd), .unset, .unset, .unset, .unset, .unset, .unset, .unset, .unset, .unset, .unset, .unset, .unset, .unset] [(.int p2)])) rfl (hb hby at_11)) ?_
  show Go p e below (s₁.setTop (mkF m 13 #[.val (.int p1), .val (.int p2), .val (.int p3), .val (.int wd), .unset, .unset, .unset, .unset, .unset, .unset, .unset, .unset, .unset, .unset, .unset, .unset, .unset] [(.int (2147483647 : Int32)), (.int p2)])) _
  refine Go.st (fun _ k_ => XS.iand X0.here hx rfl (hb hby at_13) rfl k_) ?_
  show Go p e below (s₁.setTop (mkF m 14 #[.val (.int p1), .val (.int p2), .val (.int p3), .val (.int wd), .unset, .unset, .unset, .unset, .unset, .unset, .unset, .unset, .unset, .unset, .unset, .unset, .unset] [(.int (p2 &&& (2147483647 : Int32)))])) _
  refine Go.st (fun _ k_ => XS.iloadN X0.here hx rfl (hb hby at_14) rfl k_) ?_
  show Go p e below (s₁.setTop (mkF m 15 #[.val (.int p1), .val (.int p2), .val (.int p3), .val (.int wd), .unset, .unset, .unset, .unset, .unset, .unset, .unset, .unset, .unset, .unset, .unset, .unset, .unset] [(.int wd), (.int (p2 &&& (2147483647 : Int32)))])) _
  refine Go.st (fun _ k_ => Jvm.RoadKit.iremM (g := (mkF m 15 #[.val (.int p1), .val (.int p2), .val (.int p3), .val (.int wd), .unset, .unset, .unset, .unset, .unset, .unset, .unset, .unset, .unset, .unset, .unset, .unset, .unset] [(.int wd), (.int (p2 &&& (2147483647 : Int32)))])) X0 hx rfl (hb hby at_15) rfl (own_nz ewd) k_) ?_
  show Go p e below (s₁.setTop (mkF m 16 #[.val (.int p1), .val (.int p2), .val (.int p3), .val (.int wd), .unset, .unset, .unset, .unset, .unset, .unset, .unset, .unset, .unset, .unset, .unset, .unset, .unset] [(.int ((p2 &&& (2147483647 : Int32)) % wd))])) _
  obtain ⟨pl, epl⟩ : ∃ z_ : Int32, z_ = ((p2 &&& (2147483647 : Int32)) % wd) := ⟨_, rfl⟩
  rw [← epl]
  show Go p e below (s₁.setTop (mkF m 16 #[.val (.int p1), .val (.int p2), .val (.int p3), .val (.int wd), .unset, .unset, .unset, .unset, .unset, .unset, .unset, .unset, .unset, .unset, .unset, .unset, .unset] [(.int pl)])) _
  refine Go.st (fun _ k_ => XS.istore X0.here hx rfl (hb hby at_16) rfl (l' := #[.val (.int p1), .val (.int p2), .val (.int p3), .val (.int wd), .val (.int pl), .unset, .unset, .unset, .unset, .unset, .unset, .unset, .unset, .unset, .unset, .unset, .unset]) rfl k_) ?_
  show Go p e below (s₁.setTop (mkF m 18 #[.val (.int p1), .val (.int p2), .val (.int p3), .val (.int wd), .val (.int pl), .unset, .unset, .unset, .unset, .unset, .unset, .unset, .unset, .unset, .unset, .unset, .unset] [])) _
  refine Go.st (fun _ k_ => XS.iloadN X0.here hx rfl (hb hby at_18) rfl k_) ?_
  show Go p e below (s₁.setTop (mkF m 19 #[.val (.int p1), .val (.int p2), .val (.int p3), .val (.int wd), .val (.int pl), .unset, .unset, .unset, .unset, .unset, .unset, .unset, .unset, .unset, .unset, .unset, .unset] [(.int p3)])) _
  refine Go.st (X0.ldcInt hx hown (mvT hZ (hw _ (List.mem_of_getElem? (i := 0) rfl))) (g := (mkF m 19 #[.val (.int p1), .val (.int p2), .val (.int p3), .val (.int wd), .val (.int pl), .unset, .unset, .unset, .unset, .unset, .unset, .unset, .unset, .unset, .unset, .unset, .unset] [(.int p3)])) rfl (hb hby at_19)) ?_
  show Go p e below (s₁.setTop (mkF m 21 #[.val (.int p1), .val (.int p2), .val (.int p3), .val (.int wd), .val (.int pl), .unset, .unset, .unset, .unset, .unset, .unset, .unset, .unset, .unset, .unset, .unset, .unset] [(.int (2147483647 : Int32)), (.int p3)])) _
  refine Go.st (fun _ k_ => XS.iand X0.here hx rfl (hb hby at_21) rfl k_) ?_
  show Go p e below (s₁.setTop (mkF m 22 #[.val (.int p1), .val (.int p2), .val (.int p3), .val (.int wd), .val (.int pl), .unset, .unset, .unset, .unset, .unset, .unset, .unset, .unset, .unset, .unset, .unset, .unset] [(.int (p3 &&& (2147483647 : Int32)))])) _
  refine Go.st (fun _ k_ => XS.iloadN X0.here hx rfl (hb hby at_22) rfl k_) ?_
  show Go p e below (s₁.setTop (mkF m 23 #[.val (.int p1), .val (.int p2), .val (.int p3), .val (.int wd), .val (.int pl), .unset, .unset, .unset, .unset, .unset, .unset, .unset, .unset, .unset, .unset, .unset, .unset] [(.int wd), (.int (p3 &&& (2147483647 : Int32)))])) _
  refine Go.st (fun _ k_ => Jvm.RoadKit.iremM (g := (mkF m 23 #[.val (.int p1), .val (.int p2), .val (.int p3), .val (.int wd), .val (.int pl), .unset, .unset, .unset, .unset, .unset, .unset, .unset, .unset, .unset, .unset, .unset, .unset] [(.int wd), (.int (p3 &&& (2147483647 : Int32)))])) X0 hx rfl (hb hby at_23) rfl (own_nz ewd) k_) ?_
  show Go p e below (s₁.setTop (mkF m 24 #[.val (.int p1), .val (.int p2), .val (.int p3), .val (.int wd), .val (.int pl), .unset, .unset, .unset, .unset, .unset, .unset, .unset, .unset, .unset, .unset, .unset, .unset] [(.int ((p3 &&& (2147483647 : Int32)) % wd))])) _
  obtain ⟨ot, eot⟩ : ∃ z_ : Int32, z_ = ((p3 &&& (2147483647 : Int32)) % wd) := ⟨_, rfl⟩
  rw [← eot]
  show Go p e below (s₁.setTop (mkF m 24 #[.val (.int p1), .val (.int p2), .val (.int p3), .val (.int wd), .val (.int pl), .unset, .unset, .unset, .unset, .unset, .unset, .unset, .unset, .unset, .unset, .unset, .unset] [(.int ot)])) _
  refine Go.st (fun _ k_ => XS.istore X0.here hx rfl (hb hby at_24) rfl (l' := #[.val (.int p1), .val (.int p2), .val (.int p3), .val (.int wd), .val (.int pl), .val (.int ot), .unset, .unset, .unset, .unset, .unset, .unset, .unset, .unset, .unset, .unset, .unset]) rfl k_) ?_
  show Go p e below (s₁.setTop (mkF m 26 #[.val (.int p1), .val (.int p2), .val (.int p3), .val (.int wd), .val (.int pl), .val (.int ot), .unset, .unset, .unset, .unset, .unset, .unset, .unset, .unset, .unset, .unset, .unset] [])) _
  obtain ⟨T1, X1, e1, st1⟩ := getS2 X0 hx hZ hown (host := "") (Or.inl (hw _ (List.mem_of_getElem? (i := 1) rfl))) Via.refl e0 S_LEAST_SIGNIFICANT_FIRST (g := (mkF m 26 #[.val (.int p1), .val (.int p2), .val (.int p3), .val (.int wd), .val (.int pl), .val (.int ot), .unset, .unset, .unset, .unset, .unset, .unset, .unset, .unset, .unset, .unset, .unset] [])) rfl (hb hby at_26)
  refine Go.st st1 ?_
  show Go p e below (T1.setTop (mkF m 29 #[.val (.int p1), .val (.int p2), .val (.int p3), .val (.int wd), .val (.int pl), .val (.int ot), .unset, .unset, .unset, .unset, .unset, .unset, .unset, .unset, .unset, .unset, .unset] [(.ref w_LEAST_SIGNIFICANT_FIRST)])) _
  refine Go.st (fun _ k_ => XS.astore X1.here hx rfl (hb hby at_29) rfl rfl (l' := #[.val (.int p1), .val (.int p2), .val (.int p3), .val (.int wd), .val (.int pl), .val (.int ot), .val (.ref w_LEAST_SIGNIFICANT_FIRST), .unset, .unset, .unset, .unset, .unset, .unset, .unset, .unset, .unset, .unset]) rfl k_) ?_
  show Go p e below (T1.setTop (mkF m 31 #[.val (.int p1), .val (.int p2), .val (.int p3), .val (.int wd), .val (.int pl), .val (.int ot), .val (.ref w_LEAST_SIGNIFICANT_FIRST), .unset, .unset, .unset, .unset, .unset, .unset, .unset, .unset, .unset, .unset] [])) _
  obtain ⟨T2, X2, e2, st2⟩ := getS2 X1 hx hZ hown (host := "") (Or.inl (hw _ (List.mem_of_getElem? (i := 4) rfl))) Via.refl e1 S_MOST_SIGNIFICANT_FIRST (g := (mkF m 31 #[.val (.int p1), .val (.int p2), .val (.int p3), .val (.int wd), .val (.int pl), .val (.int ot), .val (.ref w_LEAST_SIGNIFICANT_FIRST), .unset, .unset, .unset, .unset, .unset, .unset, .unset, .unset, .unset, .unset] [])) rfl (hb hby at_31)
  refine Go.st st2 ?_
  show Go p e below (T2.setTop (mkF m 34 #[.val (.int p1), .val (.int p2), .val (.int p3), .val (.int wd), .val (.int pl), .val (.int ot), .val (.ref w_LEAST_SIGNIFICANT_FIRST), .unset, .unset, .unset, .unset, .unset, .unset, .unset, .unset, .unset, .unset] [(.ref w_MOST_SIGNIFICANT_FIRST)])) _
  refine Go.st (fun _ k_ => XS.astore X2.here hx rfl (hb hby at_34) rfl rfl (l' := #[.val (.int p1), .val (.int p2), .val (.int p3), .val (.int wd), .val (.int pl), .val (.int ot), .val (.ref w_LEAST_SIGNIFICANT_FIRST), .val (.ref w_MOST_SIGNIFICANT_FIRST), .unset, .unset, .unset, .unset, .unset, .unset, .unset, .unset, .unset]) rfl k_) ?_
  show Go p e below (T2.setTop (mkF m 36 #[.val (.int p1), .val (.int p2), .val (.int p3), .val (.int wd), .val (.int pl), .val (.int ot), .val (.ref w_LEAST_SIGNIFICANT_FIRST), .val (.ref w_MOST_SIGNIFICANT_FIRST), .unset, .unset, .unset, .unset, .unset, .unset, .unset, .unset, .unset] [])) _
  refine Go.st (fun _ k_ => XS.aload X2.here hx rfl (hb hby at_36) rfl rfl k_) ?_
  show Go p e below (T2.setTop (mkF m 38 #[.val (.int p1), .val (.int p2), .val (.int p3), .val (.int wd), .val (.int pl), .val (.int ot), .val (.ref w_LEAST_SIGNIFICANT_FIRST), .val (.ref w_MOST_SIGNIFICANT_FIRST), .unset, .unset, .unset, .unset, .unset, .unset, .unset, .unset, .unset] [(.ref w_LEAST_SIGNIFICANT_FIRST)])) _
  refine Go.st (fun _ k_ => XS.iload X2.here hx rfl (hb hby at_38) rfl k_) ?_
  show Go p e below (T2.setTop (mkF m 40 #[.val (.int p1), .val (.int p2), .val (.int p3), .val (.int wd), .val (.int pl), .val (.int ot), .val (.ref w_LEAST_SIGNIFICANT_FIRST), .val (.ref w_MOST_SIGNIFICANT_FIRST), .unset, .unset, .unset, .unset, .unset, .unset, .unset, .unset, .unset] [(.int pl), (.ref w_LEAST_SIGNIFICANT_FIRST)])) _
  refine Go.st (fun _ k_ => XS.iloadN X2.here hx rfl (hb hby at_40) rfl k_) ?_
  show Go p e below (T2.setTop (mkF m 41 #[.val (.int p1), .val (.int p2), .val (.int p3), .val (.int wd), .val (.int pl), .val (.int ot), .val (.ref w_LEAST_SIGNIFICANT_FIRST), .val (.ref w_MOST_SIGNIFICANT_FIRST), .unset, .unset, .unset, .unset, .unset, .unset, .unset, .unset, .unset] [(.int wd), (.int pl), (.ref w_LEAST_SIGNIFICANT_FIRST)])) _
  obtain ⟨cq3, kq3, q3a, q3b, q3c⟩ := isOf hZ e2 E_w_LEAST_SIGNIFICANT_FIRST
  obtain ⟨_, _, ⟨T3, L3, k3_, n3_⟩, -, X3, ⟨Lc3, hQ3, l3_, y3_, z3_⟩, st3⟩ := X2.virtualBack hx (y := (⟨"com/example/inkwire/inkwire/codec/DigitCodec$Order", "position", "(II)I"⟩ : MethodName)) (z := (⟨"com/example/inkwire/inkwire/codec/DigitCodec$Order", "position", "(II)I"⟩ : MethodName)) hown (mvT hZ (hw _ (List.mem_of_getElem? (i := 6) rfl))) (mvT hZ (hw _ (List.mem_of_getElem? (i := 7) rfl))) (notFace_of_selects (args := #[]) (mvT hZ (hw _ (List.mem_of_getElem? (i := 9) rfl)))) (mvT hZ (hw _ (List.mem_of_getElem? (i := 9) rfl))) (mvT hZ (hw _ (List.mem_of_getElem? (i := 8) rfl))) (by decide) (backOf (W := 0) (rm1_0 l Z a0 hw [] w_LEAST_SIGNIFICANT_FIRST pl wd h0 n0 Z0 E_w_LEAST_SIGNIFICANT_FIRST F_LEAST_SIGNIFICANT_FIRST) hZ (hw _ (List.mem_of_getElem? (i := 10) rfl)) (hw _ (List.mem_of_getElem? (i := 2) rfl)) (by decide) (by decide)) q3a q3c (g := (mkF m 41 #[.val (.int p1), .val (.int p2), .val (.int p3), .val (.int wd), .val (.int pl), .val (.int ot), .val (.ref w_LEAST_SIGNIFICANT_FIRST), .val (.ref w_MOST_SIGNIFICANT_FIRST), .unset, .unset, .unset, .unset, .unset, .unset, .unset, .unset, .unset] [(.int wd), (.int pl), (.ref w_LEAST_SIGNIFICANT_FIRST)])) rfl (by rw [hml]; rfl) (Steps.refl _) (argsL := [(.int pl), (.int wd)]) (rest := []) (lenOf pd_1 rfl) rfl (by show 2 * 0 + _ ≤ _; exact Nat.le_of_eq rfl) (hb hby at_41) (fun _ _ => ⟨rfl, e2, (by decide : 0 + 0 ≤ _), (by decide : 0 + 0 ≤ _)⟩)
  dsimp only [Pt.U, Pt.locs, Pt.cells, Pt.slots] at X3 l3_ y3_ z3_ st3 hQ3
  subst l3_ y3_ z3_
  obtain ⟨rfl, N3q, e3⟩ := hQ3
  have N3 := Fr.app N0 N3q
  refine Go.tr st3 ?_
  show Go p e below (T3.setTop (mkF m 44 #[.val (.int p1), .val (.int p2), .val (.int p3), .val (.int wd), .val (.int pl), .val (.int ot), .val (.ref w_LEAST_SIGNIFICANT_FIRST), .val (.ref w_MOST_SIGNIFICANT_FIRST), .unset, .unset, .unset, .unset, .unset, .unset, .unset, .unset, .unset] [(.int pl)])) _
  refine Go.st (fun _ k_ => XS.istore X3.here hx rfl (hb hby at_44) rfl (l' := #[.val (.int p1), .val (.int p2), .val (.int p3), .val (.int wd), .val (.int pl), .val (.int ot), .val (.ref w_LEAST_SIGNIFICANT_FIRST), .val (.ref w_MOST_SIGNIFICANT_FIRST), .val (.int pl), .unset, .unset, .unset, .unset, .unset, .unset, .unset, .unset]) rfl k_) ?_
  show Go p e below (T3.setTop (mkF m 46 #[.val (.int p1), .val (.int p2), .val (.int p3), .val (.int wd), .val (.int pl), .val (.int ot), .val (.ref w_LEAST_SIGNIFICANT_FIRST), .val (.ref w_MOST_SIGNIFICANT_FIRST), .val (.int pl), .unset, .unset, .unset, .unset, .unset, .unset, .unset, .unset] [])) _
  refine Go.st (fun _ k_ => XS.aload X3.here hx rfl (hb hby at_46) rfl rfl k_) ?_
  show Go p e below (T3.setTop (mkF m 48 #[.val (.int p1), .val (.int p2), .val (.int p3), .val (.int wd), .val (.int pl), .val (.int ot), .val (.ref w_LEAST_SIGNIFICANT_FIRST), .val (.ref w_MOST_SIGNIFICANT_FIRST), .val (.int pl), .unset, .unset, .unset, .unset, .unset, .unset, .unset, .unset] [(.ref w_MOST_SIGNIFICANT_FIRST)])) _
  refine Go.st (fun _ k_ => XS.iload X3.here hx rfl (hb hby at_48) rfl k_) ?_
  show Go p e below (T3.setTop (mkF m 50 #[.val (.int p1), .val (.int p2), .val (.int p3), .val (.int wd), .val (.int pl), .val (.int ot), .val (.ref w_LEAST_SIGNIFICANT_FIRST), .val (.ref w_MOST_SIGNIFICANT_FIRST), .val (.int pl), .unset, .unset, .unset, .unset, .unset, .unset, .unset, .unset] [(.int pl), (.ref w_MOST_SIGNIFICANT_FIRST)])) _
  refine Go.st (fun _ k_ => XS.iloadN X3.here hx rfl (hb hby at_50) rfl k_) ?_
  show Go p e below (T3.setTop (mkF m 51 #[.val (.int p1), .val (.int p2), .val (.int p3), .val (.int wd), .val (.int pl), .val (.int ot), .val (.ref w_LEAST_SIGNIFICANT_FIRST), .val (.ref w_MOST_SIGNIFICANT_FIRST), .val (.int pl), .unset, .unset, .unset, .unset, .unset, .unset, .unset, .unset] [(.int wd), (.int pl), (.ref w_MOST_SIGNIFICANT_FIRST)])) _
  obtain ⟨cq4, kq4, q4a, q4b, q4c⟩ := isOf hZ e3 E_w_MOST_SIGNIFICANT_FIRST
  obtain ⟨_, _, ⟨T4, L4, k4_, n4_⟩, -, X4, ⟨Lc4, hQ4, l4_, y4_, z4_⟩, st4⟩ := X3.virtualBack hx (y := (⟨"com/example/inkwire/inkwire/codec/DigitCodec$Order", "position", "(II)I"⟩ : MethodName)) (z := (⟨"com/example/inkwire/inkwire/codec/DigitCodec$Order", "position", "(II)I"⟩ : MethodName)) hown (mvT hZ (hw _ (List.mem_of_getElem? (i := 6) rfl))) (mvT hZ (hw _ (List.mem_of_getElem? (i := 7) rfl))) (notFace_of_selects (args := #[]) (mvT hZ (hw _ (List.mem_of_getElem? (i := 9) rfl)))) (mvT hZ (hw _ (List.mem_of_getElem? (i := 9) rfl))) (mvT hZ (hw _ (List.mem_of_getElem? (i := 8) rfl))) (by decide) (backOf (W := 0) (rm1_1 l Z a0 hw [] w_MOST_SIGNIFICANT_FIRST pl wd h0 n0 Z0 E_w_MOST_SIGNIFICANT_FIRST F_MOST_SIGNIFICANT_FIRST) hZ (hw _ (List.mem_of_getElem? (i := 10) rfl)) (hw _ (List.mem_of_getElem? (i := 2) rfl)) (by decide) (by decide)) q4a q4c (g := (mkF m 51 #[.val (.int p1), .val (.int p2), .val (.int p3), .val (.int wd), .val (.int pl), .val (.int ot), .val (.ref w_LEAST_SIGNIFICANT_FIRST), .val (.ref w_MOST_SIGNIFICANT_FIRST), .val (.int pl), .unset, .unset, .unset, .unset, .unset, .unset, .unset, .unset] [(.int wd), (.int pl), (.ref w_MOST_SIGNIFICANT_FIRST)])) rfl (by rw [hml]; rfl) (Steps.refl _) (argsL := [(.int pl), (.int wd)]) (rest := []) (lenOf pd_1 rfl) rfl (by show 2 * 0 + _ ≤ _; exact Nat.le_of_eq rfl) (hb hby at_51) (fun _ _ => ⟨rfl, e3, (by decide : 0 + 0 ≤ _), (by decide : 0 + 0 ≤ _)⟩)
  dsimp only [Pt.U, Pt.locs, Pt.cells, Pt.slots] at X4 l4_ y4_ z4_ st4 hQ4
  subst l4_ y4_ z4_
  obtain ⟨rfl, N4q, e4⟩ := hQ4
  have N4 := Fr.app N3 N4q
  refine Go.tr st4 ?_
  show Go p e below (T4.setTop (mkF m 54 #[.val (.int p1), .val (.int p2), .val (.int p3), .val (.int wd), .val (.int pl), .val (.int ot), .val (.ref w_LEAST_SIGNIFICANT_FIRST), .val (.ref w_MOST_SIGNIFICANT_FIRST), .val (.int pl), .unset, .unset, .unset, .unset, .unset, .unset, .unset, .unset] [(.int ((wd - (1 : Int32)) - pl))])) _
  obtain ⟨mm, emm⟩ : ∃ z_ : Int32, z_ = ((wd - (1 : Int32)) - pl) := ⟨_, rfl⟩
  rw [← emm]
  show Go p e below (T4.setTop (mkF m 54 #[.val (.int p1), .val (.int p2), .val (.int p3), .val (.int wd), .val (.int pl), .val (.int ot), .val (.ref w_LEAST_SIGNIFICANT_FIRST), .val (.ref w_MOST_SIGNIFICANT_FIRST), .val (.int pl), .unset, .unset, .unset, .unset, .unset, .unset, .unset, .unset] [(.int mm)])) _
  refine Go.st (fun _ k_ => XS.istore X4.here hx rfl (hb hby at_54) rfl (l' := #[.val (.int p1), .val (.int p2), .val (.int p3), .val (.int wd), .val (.int pl), .val (.int ot), .val (.ref w_LEAST_SIGNIFICANT_FIRST), .val (.ref w_MOST_SIGNIFICANT_FIRST), .val (.int pl), .val (.int mm), .unset, .unset, .unset, .unset, .unset, .unset, .unset]) rfl k_) ?_
  show Go p e below (T4.setTop (mkF m 56 #[.val (.int p1), .val (.int p2), .val (.int p3), .val (.int wd), .val (.int pl), .val (.int ot), .val (.ref w_LEAST_SIGNIFICANT_FIRST), .val (.ref w_MOST_SIGNIFICANT_FIRST), .val (.int pl), .val (.int mm), .unset, .unset, .unset, .unset, .unset, .unset, .unset] [])) _
  refine Go.st (fun _ k_ => XS.aload X4.here hx rfl (hb hby at_56) rfl rfl k_) ?_
  show Go p e below (T4.setTop (mkF m 58 #[.val (.int p1), .val (.int p2), .val (.int p3), .val (.int wd), .val (.int pl), .val (.int ot), .val (.ref w_LEAST_SIGNIFICANT_FIRST), .val (.ref w_MOST_SIGNIFICANT_FIRST), .val (.int pl), .val (.int mm), .unset, .unset, .unset, .unset, .unset, .unset, .unset] [(.ref w_LEAST_SIGNIFICANT_FIRST)])) _
  refine Go.st (fun _ k_ => XS.iload X4.here hx rfl (hb hby at_58) rfl k_) ?_
  show Go p e below (T4.setTop (mkF m 60 #[.val (.int p1), .val (.int p2), .val (.int p3), .val (.int wd), .val (.int pl), .val (.int ot), .val (.ref w_LEAST_SIGNIFICANT_FIRST), .val (.ref w_MOST_SIGNIFICANT_FIRST), .val (.int pl), .val (.int mm), .unset, .unset, .unset, .unset, .unset, .unset, .unset] [(.int ot), (.ref w_LEAST_SIGNIFICANT_FIRST)])) _
  refine Go.st (fun _ k_ => XS.iloadN X4.here hx rfl (hb hby at_60) rfl k_) ?_
  show Go p e below (T4.setTop (mkF m 61 #[.val (.int p1), .val (.int p2), .val (.int p3), .val (.int wd), .val (.int pl), .val (.int ot), .val (.ref w_LEAST_SIGNIFICANT_FIRST), .val (.ref w_MOST_SIGNIFICANT_FIRST), .val (.int pl), .val (.int mm), .unset, .unset, .unset, .unset, .unset, .unset, .unset] [(.int wd), (.int ot), (.ref w_LEAST_SIGNIFICANT_FIRST)])) _
  obtain ⟨cq5, kq5, q5a, q5b, q5c⟩ := isOf hZ e4 E_w_LEAST_SIGNIFICANT_FIRST
  obtain ⟨_, _, ⟨T5, L5, k5_, n5_⟩, -, X5, ⟨Lc5, hQ5, l5_, y5_, z5_⟩, st5⟩ := X4.virtualBack hx (y := (⟨"com/example/inkwire/inkwire/codec/DigitCodec$Order", "position", "(II)I"⟩ : MethodName)) (z := (⟨"com/example/inkwire/inkwire/codec/DigitCodec$Order", "position", "(II)I"⟩ : MethodName)) hown (mvT hZ (hw _ (List.mem_of_getElem? (i := 6) rfl))) (mvT hZ (hw _ (List.mem_of_getElem? (i := 7) rfl))) (notFace_of_selects (args := #[]) (mvT hZ (hw _ (List.mem_of_getElem? (i := 9) rfl)))) (mvT hZ (hw _ (List.mem_of_getElem? (i := 9) rfl))) (mvT hZ (hw _ (List.mem_of_getElem? (i := 8) rfl))) (by decide) (backOf (W := 0) (rm1_0 l Z a0 hw [] w_LEAST_SIGNIFICANT_FIRST ot wd h0 n0 Z0 E_w_LEAST_SIGNIFICANT_FIRST F_LEAST_SIGNIFICANT_FIRST) hZ (hw _ (List.mem_of_getElem? (i := 10) rfl)) (hw _ (List.mem_of_getElem? (i := 2) rfl)) (by decide) (by decide)) q5a q5c (g := (mkF m 61 #[.val (.int p1), .val (.int p2), .val (.int p3), .val (.int wd), .val (.int pl), .val (.int ot), .val (.ref w_LEAST_SIGNIFICANT_FIRST), .val (.ref w_MOST_SIGNIFICANT_FIRST), .val (.int pl), .val (.int mm), .unset, .unset, .unset, .unset, .unset, .unset, .unset] [(.int wd), (.int ot), (.ref w_LEAST_SIGNIFICANT_FIRST)])) rfl (by rw [hml]; rfl) (Steps.refl _) (argsL := [(.int ot), (.int wd)]) (rest := []) (lenOf pd_1 rfl) rfl (by show 2 * 0 + _ ≤ _; exact Nat.le_of_eq rfl) (hb hby at_61) (fun _ _ => ⟨rfl, e4, (by decide : 0 + 0 ≤ _), (by decide : 0 + 0 ≤ _)⟩)
  dsimp only [Pt.U, Pt.locs, Pt.cells, Pt.slots] at X5 l5_ y5_ z5_ st5 hQ5
  subst l5_ y5_ z5_
  obtain ⟨rfl, N5q, e5⟩ := hQ5
  have N5 := Fr.app N4 N5q
  refine Go.tr st5 ?_
  show Go p e below (T5.setTop (mkF m 64 #[.val (.int p1), .val (.int p2), .val (.int p3), .val (.int wd), .val (.int pl), .val (.int ot), .val (.ref w_LEAST_SIGNIFICANT_FIRST), .val (.ref w_MOST_SIGNIFICANT_FIRST), .val (.int pl), .val (.int mm), .unset, .unset, .unset, .unset, .unset, .unset, .unset] [(.int ot)])) _
  refine Go.st (fun _ k_ => XS.istore X5.here hx rfl (hb hby at_64) rfl (l' := #[.val (.int p1), .val (.int p2), .val (.int p3), .val (.int wd), .val (.int pl), .val (.int ot), .val (.ref w_LEAST_SIGNIFICANT_FIRST), .val (.ref w_MOST_SIGNIFICANT_FIRST), .val (.int pl), .val (.int mm), .val (.int ot), .unset, .unset, .unset, .unset, .unset, .unset]) rfl k_) ?_
  show Go p e below (T5.setTop (mkF m 66 #[.val (.int p1), .val (.int p2), .val (.int p3), .val (.int wd), .val (.int pl), .val (.int ot), .val (.ref w_LEAST_SIGNIFICANT_FIRST), .val (.ref w_MOST_SIGNIFICANT_FIRST), .val (.int pl), .val (.int mm), .val (.int ot), .unset, .unset, .unset, .unset, .unset, .unset] [])) _
  refine Go.st (fun _ k_ => XS.aload X5.here hx rfl (hb hby at_66) rfl rfl k_) ?_
  show Go p e below (T5.setTop (mkF m 68 #[.val (.int p1), .val (.int p2), .val (.int p3), .val (.int wd), .val (.int pl), .val (.int ot), .val (.ref w_LEAST_SIGNIFICANT_FIRST), .val (.ref w_MOST_SIGNIFICANT_FIRST), .val (.int pl), .val (.int mm), .val (.int ot), .unset, .unset, .unset, .unset, .unset, .unset] [(.ref w_MOST_SIGNIFICANT_FIRST)])) _
  refine Go.st (fun _ k_ => XS.iload X5.here hx rfl (hb hby at_68) rfl k_) ?_
  show Go p e below (T5.setTop (mkF m 70 #[.val (.int p1), .val (.int p2), .val (.int p3), .val (.int wd), .val (.int pl), .val (.int ot), .val (.ref w_LEAST_SIGNIFICANT_FIRST), .val (.ref w_MOST_SIGNIFICANT_FIRST), .val (.int pl), .val (.int mm), .val (.int ot), .unset, .unset, .unset, .unset, .unset, .unset] [(.int ot), (.ref w_MOST_SIGNIFICANT_FIRST)])) _
  refine Go.st (fun _ k_ => XS.iloadN X5.here hx rfl (hb hby at_70) rfl k_) ?_
  show Go p e below (T5.setTop (mkF m 71 #[.val (.int p1), .val (.int p2), .val (.int p3), .val (.int wd), .val (.int pl), .val (.int ot), .val (.ref w_LEAST_SIGNIFICANT_FIRST), .val (.ref w_MOST_SIGNIFICANT_FIRST), .val (.int pl), .val (.int mm), .val (.int ot), .unset, .unset, .unset, .unset, .unset, .unset] [(.int wd), (.int ot), (.ref w_MOST_SIGNIFICANT_FIRST)])) _
  obtain ⟨cq6, kq6, q6a, q6b, q6c⟩ := isOf hZ e5 E_w_MOST_SIGNIFICANT_FIRST
  obtain ⟨_, _, ⟨T6, L6, k6_, n6_⟩, -, X6, ⟨Lc6, hQ6, l6_, y6_, z6_⟩, st6⟩ := X5.virtualBack hx (y := (⟨"com/example/inkwire/inkwire/codec/DigitCodec$Order", "position", "(II)I"⟩ : MethodName)) (z := (⟨"com/example/inkwire/inkwire/codec/DigitCodec$Order", "position", "(II)I"⟩ : MethodName)) hown (mvT hZ (hw _ (List.mem_of_getElem? (i := 6) rfl))) (mvT hZ (hw _ (List.mem_of_getElem? (i := 7) rfl))) (notFace_of_selects (args := #[]) (mvT hZ (hw _ (List.mem_of_getElem? (i := 9) rfl)))) (mvT hZ (hw _ (List.mem_of_getElem? (i := 9) rfl))) (mvT hZ (hw _ (List.mem_of_getElem? (i := 8) rfl))) (by decide) (backOf (W := 0) (rm1_1 l Z a0 hw [] w_MOST_SIGNIFICANT_FIRST ot wd h0 n0 Z0 E_w_MOST_SIGNIFICANT_FIRST F_MOST_SIGNIFICANT_FIRST) hZ (hw _ (List.mem_of_getElem? (i := 10) rfl)) (hw _ (List.mem_of_getElem? (i := 2) rfl)) (by decide) (by decide)) q6a q6c (g := (mkF m 71 #[.val (.int p1), .val (.int p2), .val (.int p3), .val (.int wd), .val (.int pl), .val (.int ot), .val (.ref w_LEAST_SIGNIFICANT_FIRST), .val (.ref w_MOST_SIGNIFICANT_FIRST), .val (.int pl), .val (.int mm), .val (.int ot), .unset, .unset, .unset, .unset, .unset, .unset] [(.int wd), (.int ot), (.ref w_MOST_SIGNIFICANT_FIRST)])) rfl (by rw [hml]; rfl) (Steps.refl _) (argsL := [(.int ot), (.int wd)]) (rest := []) (lenOf pd_1 rfl) rfl (by show 2 * 0 + _ ≤ _; exact Nat.le_of_eq rfl) (hb hby at_71) (fun _ _ => ⟨rfl, e5, (by decide : 0 + 0 ≤ _), (by decide : 0 + 0 ≤ _)⟩)
  dsimp only [Pt.U, Pt.locs, Pt.cells, Pt.slots] at X6 l6_ y6_ z6_ st6 hQ6
  subst l6_ y6_ z6_
  obtain ⟨rfl, N6q, e6⟩ := hQ6
  have N6 := Fr.app N5 N6q
  refine Go.tr st6 ?_
  show Go p e below (T6.setTop (mkF m 74 #[.val (.int p1), .val (.int p2), .val (.int p3), .val (.int wd), .val (.int pl), .val (.int ot), .val (.ref w_LEAST_SIGNIFICANT_FIRST), .val (.ref w_MOST_SIGNIFICANT_FIRST), .val (.int pl), .val (.int mm), .val (.int ot), .unset, .unset, .unset, .unset, .unset, .unset] [(.int ((wd - (1 : Int32)) - ot))])) _
  obtain ⟨mo, emo⟩ : ∃ z_ : Int32, z_ = ((wd - (1 : Int32)) - ot) := ⟨_, rfl⟩
  rw [← emo]
  show Go p e below (T6.setTop (mkF m 74 #[.val (.int p1), .val (.int p2), .val (.int p3), .val (.int wd), .val (.int pl), .val (.int ot), .val (.ref w_LEAST_SIGNIFICANT_FIRST), .val (.ref w_MOST_SIGNIFICANT_FIRST), .val (.int pl), .val (.int mm), .val (.int ot), .unset, .unset, .unset, .unset, .unset, .unset] [(.int mo)])) _
  refine Go.st (fun _ k_ => XS.istore X6.here hx rfl (hb hby at_74) rfl (l' := #[.val (.int p1), .val (.int p2), .val (.int p3), .val (.int wd), .val (.int pl), .val (.int ot), .val (.ref w_LEAST_SIGNIFICANT_FIRST), .val (.ref w_MOST_SIGNIFICANT_FIRST), .val (.int pl), .val (.int mm), .val (.int ot), .val (.int mo), .unset, .unset, .unset, .unset, .unset]) rfl k_) ?_
  show Go p e below (T6.setTop (mkF m 76 #[.val (.int p1), .val (.int p2), .val (.int p3), .val (.int wd), .val (.int pl), .val (.int ot), .val (.ref w_LEAST_SIGNIFICANT_FIRST), .val (.ref w_MOST_SIGNIFICANT_FIRST), .val (.int pl), .val (.int mm), .val (.int ot), .val (.int mo), .unset, .unset, .unset, .unset, .unset] [])) _
  have hW := own_w ewd
  have hP := own_p hW epl
  have hO := own_p hW eot
  have hM := own_m hW hP emm
  have hN := own_m hW hO emo
  refine Go.st (fun _ k_ => XS.iconst X6.here hx rfl (hb hby at_76) k_) ?_
  show Go p e below (T6.setTop (mkF m 77 #[.val (.int p1), .val (.int p2), .val (.int p3), .val (.int wd), .val (.int pl), .val (.int ot), .val (.ref w_LEAST_SIGNIFICANT_FIRST), .val (.ref w_MOST_SIGNIFICANT_FIRST), .val (.int pl), .val (.int mm), .val (.int ot), .val (.int mo), .unset, .unset, .unset, .unset, .unset] [(.int (0 : Int32))])) _
  refine Go.st (fun _ k_ => XS.iload X6.here hx rfl (hb hby at_77) rfl k_) ?_
  show Go p e below (T6.setTop (mkF m 79 #[.val (.int p1), .val (.int p2), .val (.int p3), .val (.int wd), .val (.int pl), .val (.int ot), .val (.ref w_LEAST_SIGNIFICANT_FIRST), .val (.ref w_MOST_SIGNIFICANT_FIRST), .val (.int pl), .val (.int mm), .val (.int ot), .val (.int mo), .unset, .unset, .unset, .unset, .unset] [(.int pl), (.int (0 : Int32))])) _
  have hc79 : ¬ (pl < (0 : Int32)) := by first | (rw [Int32.lt_iff_toInt_lt, Int32.toInt_zero]; omega) | (rw [Int32.lt_iff_toInt_lt]; omega)
  refine Go.st (fun _ k_ => XS.icmpNo X6.here hx rfl (hb hby at_79) rfl (flt hc79).2.2.1 k_) ?_
  show Go p e below (T6.setTop (mkF m 82 #[.val (.int p1), .val (.int p2), .val (.int p3), .val (.int wd), .val (.int pl), .val (.int ot), .val (.ref w_LEAST_SIGNIFICANT_FIRST), .val (.ref w_MOST_SIGNIFICANT_FIRST), .val (.int pl), .val (.int mm), .val (.int ot), .val (.int mo), .unset, .unset, .unset, .unset, .unset] [])) _
  refine Go.st (fun _ k_ => XS.iload X6.here hx rfl (hb hby at_82) rfl k_) ?_
  show Go p e below (T6.setTop (mkF m 84 #[.val (.int p1), .val (.int p2), .val (.int p3), .val (.int wd), .val (.int pl), .val (.int ot), .val (.ref w_LEAST_SIGNIFICANT_FIRST), .val (.ref w_MOST_SIGNIFICANT_FIRST), .val (.int pl), .val (.int mm), .val (.int ot), .val (.int mo), .unset, .unset, .unset, .unset, .unset] [(.int pl)])) _
  refine Go.st (fun _ k_ => XS.iloadN X6.here hx rfl (hb hby at_84) rfl k_) ?_
  show Go p e below (T6.setTop (mkF m 85 #[.val (.int p1), .val (.int p2), .val (.int p3), .val (.int wd), .val (.int pl), .val (.int ot), .val (.ref w_LEAST_SIGNIFICANT_FIRST), .val (.ref w_MOST_SIGNIFICANT_FIRST), .val (.int pl), .val (.int mm), .val (.int ot), .val (.int mo), .unset, .unset, .unset, .unset, .unset] [(.int wd), (.int pl)])) _
  have hc85 : pl < wd := by first | (rw [Int32.lt_iff_toInt_lt, Int32.toInt_zero]; omega) | (rw [Int32.lt_iff_toInt_lt]; omega)
  refine Go.st (fun _ k_ => XS.icmpNo X6.here hx rfl (hb hby at_85) rfl (tlt hc85).2.1 k_) ?_
  show Go p e below (T6.setTop (mkF m 88 #[.val (.int p1), .val (.int p2), .val (.int p3), .val (.int wd), .val (.int pl), .val (.int ot), .val (.ref w_LEAST_SIGNIFICANT_FIRST), .val (.ref w_MOST_SIGNIFICANT_FIRST), .val (.int pl), .val (.int mm), .val (.int ot), .val (.int mo), .unset, .unset, .unset, .unset, .unset] [])) _
  refine Go.st (fun _ k_ => XS.iconst X6.here hx rfl (hb hby at_88) k_) ?_
  show Go p e below (T6.setTop (mkF m 89 #[.val (.int p1), .val (.int p2), .val (.int p3), .val (.int wd), .val (.int pl), .val (.int ot), .val (.ref w_LEAST_SIGNIFICANT_FIRST), .val (.ref w_MOST_SIGNIFICANT_FIRST), .val (.int pl), .val (.int mm), .val (.int ot), .val (.int mo), .unset, .unset, .unset, .unset, .unset] [(.int (0 : Int32))])) _
  refine Go.st (fun _ k_ => XS.iload X6.here hx rfl (hb hby at_89) rfl k_) ?_
  show Go p e below (T6.setTop (mkF m 91 #[.val (.int p1), .val (.int p2), .val (.int p3), .val (.int wd), .val (.int pl), .val (.int ot), .val (.ref w_LEAST_SIGNIFICANT_FIRST), .val (.ref w_MOST_SIGNIFICANT_FIRST), .val (.int pl), .val (.int mm), .val (.int ot), .val (.int mo), .unset, .unset, .unset, .unset, .unset] [(.int mm), (.int (0 : Int32))])) _
  have hc91 : ¬ (mm < (0 : Int32)) := by first | (rw [Int32.lt_iff_toInt_lt, Int32.toInt_zero]; omega) | (rw [Int32.lt_iff_toInt_lt]; omega)
  refine Go.st (fun _ k_ => XS.icmpNo X6.here hx rfl (hb hby at_91) rfl (flt hc91).2.2.1 k_) ?_
  show Go p e below (T6.setTop (mkF m 94 #[.val (.int p1), .val (.int p2), .val (.int p3), .val (.int wd), .val (.int pl), .val (.int ot), .val (.ref w_LEAST_SIGNIFICANT_FIRST), .val (.ref w_MOST_SIGNIFICANT_FIRST), .val (.int pl), .val (.int mm), .val (.int ot), .val (.int mo), .unset, .unset, .unset, .unset, .unset] [])) _
  refine Go.st (fun _ k_ => XS.iload X6.here hx rfl (hb hby at_94) rfl k_) ?_
  show Go p e below (T6.setTop (mkF m 96 #[.val (.int p1), .val (.int p2), .val (.int p3), .val (.int wd), .val (.int pl), .val (.int ot), .val (.ref w_LEAST_SIGNIFICANT_FIRST), .val (.ref w_MOST_SIGNIFICANT_FIRST), .val (.int pl), .val (.int mm), .val (.int ot), .val (.int mo), .unset, .unset, .unset, .unset, .unset] [(.int mm)])) _
  refine Go.st (fun _ k_ => XS.iloadN X6.here hx rfl (hb hby at_96) rfl k_) ?_
  show Go p e below (T6.setTop (mkF m 97 #[.val (.int p1), .val (.int p2), .val (.int p3), .val (.int wd), .val (.int pl), .val (.int ot), .val (.ref w_LEAST_SIGNIFICANT_FIRST), .val (.ref w_MOST_SIGNIFICANT_FIRST), .val (.int pl), .val (.int mm), .val (.int ot), .val (.int mo), .unset, .unset, .unset, .unset, .unset] [(.int wd), (.int mm)])) _
  have hc97 : mm < wd := by first | (rw [Int32.lt_iff_toInt_lt, Int32.toInt_zero]; omega) | (rw [Int32.lt_iff_toInt_lt]; omega)
  refine Go.st (fun _ k_ => XS.icmpNo X6.here hx rfl (hb hby at_97) rfl (tlt hc97).2.1 k_) ?_
  show Go p e below (T6.setTop (mkF m 100 #[.val (.int p1), .val (.int p2), .val (.int p3), .val (.int wd), .val (.int pl), .val (.int ot), .val (.ref w_LEAST_SIGNIFICANT_FIRST), .val (.ref w_MOST_SIGNIFICANT_FIRST), .val (.int pl), .val (.int mm), .val (.int ot), .val (.int mo), .unset, .unset, .unset, .unset, .unset] [])) _
  refine Go.st (fun _ k_ => XS.iconst X6.here hx rfl (hb hby at_100) k_) ?_
  show Go p e below (T6.setTop (mkF m 101 #[.val (.int p1), .val (.int p2), .val (.int p3), .val (.int wd), .val (.int pl), .val (.int ot), .val (.ref w_LEAST_SIGNIFICANT_FIRST), .val (.ref w_MOST_SIGNIFICANT_FIRST), .val (.int pl), .val (.int mm), .val (.int ot), .val (.int mo), .unset, .unset, .unset, .unset, .unset] [(.int (0 : Int32))])) _
  refine Go.st (fun _ k_ => XS.iload X6.here hx rfl (hb hby at_101) rfl k_) ?_
  show Go p e below (T6.setTop (mkF m 103 #[.val (.int p1), .val (.int p2), .val (.int p3), .val (.int wd), .val (.int pl), .val (.int ot), .val (.ref w_LEAST_SIGNIFICANT_FIRST), .val (.ref w_MOST_SIGNIFICANT_FIRST), .val (.int pl), .val (.int mm), .val (.int ot), .val (.int mo), .unset, .unset, .unset, .unset, .unset] [(.int ot), (.int (0 : Int32))])) _
  have hc103 : ¬ (ot < (0 : Int32)) := by first | (rw [Int32.lt_iff_toInt_lt, Int32.toInt_zero]; omega) | (rw [Int32.lt_iff_toInt_lt]; omega)
  refine Go.st (fun _ k_ => XS.icmpNo X6.here hx rfl (hb hby at_103) rfl (flt hc103).2.2.1 k_) ?_
  show Go p e below (T6.setTop (mkF m 106 #[.val (.int p1), .val (.int p2), .val (.int p3), .val (.int wd), .val (.int pl), .val (.int ot), .val (.ref w_LEAST_SIGNIFICANT_FIRST), .val (.ref w_MOST_SIGNIFICANT_FIRST), .val (.int pl), .val (.int mm), .val (.int ot), .val (.int mo), .unset, .unset, .unset, .unset, .unset] [])) _
  refine Go.st (fun _ k_ => XS.iload X6.here hx rfl (hb hby at_106) rfl k_) ?_
  show Go p e below (T6.setTop (mkF m 108 #[.val (.int p1), .val (.int p2), .val (.int p3), .val (.int wd), .val (.int pl), .val (.int ot), .val (.ref w_LEAST_SIGNIFICANT_FIRST), .val (.ref w_MOST_SIGNIFICANT_FIRST), .val (.int pl), .val (.int mm), .val (.int ot), .val (.int mo), .unset, .unset, .unset, .unset, .unset] [(.int ot)])) _
  refine Go.st (fun _ k_ => XS.iloadN X6.here hx rfl (hb hby at_108) rfl k_) ?_
  show Go p e below (T6.setTop (mkF m 109 #[.val (.int p1), .val (.int p2), .val (.int p3), .val (.int wd), .val (.int pl), .val (.int ot), .val (.ref w_LEAST_SIGNIFICANT_FIRST), .val (.ref w_MOST_SIGNIFICANT_FIRST), .val (.int pl), .val (.int mm), .val (.int ot), .val (.int mo), .unset, .unset, .unset, .unset, .unset] [(.int wd), (.int ot)])) _
  have hc109 : ot < wd := by first | (rw [Int32.lt_iff_toInt_lt, Int32.toInt_zero]; omega) | (rw [Int32.lt_iff_toInt_lt]; omega)
  refine Go.st (fun _ k_ => XS.icmpNo X6.here hx rfl (hb hby at_109) rfl (tlt hc109).2.1 k_) ?_
  show Go p e below (T6.setTop (mkF m 112 #[.val (.int p1), .val (.int p2), .val (.int p3), .val (.int wd), .val (.int pl), .val (.int ot), .val (.ref w_LEAST_SIGNIFICANT_FIRST), .val (.ref w_MOST_SIGNIFICANT_FIRST), .val (.int pl), .val (.int mm), .val (.int ot), .val (.int mo), .unset, .unset, .unset, .unset, .unset] [])) _
  refine Go.st (fun _ k_ => XS.iconst X6.here hx rfl (hb hby at_112) k_) ?_
  show Go p e below (T6.setTop (mkF m 113 #[.val (.int p1), .val (.int p2), .val (.int p3), .val (.int wd), .val (.int pl), .val (.int ot), .val (.ref w_LEAST_SIGNIFICANT_FIRST), .val (.ref w_MOST_SIGNIFICANT_FIRST), .val (.int pl), .val (.int mm), .val (.int ot), .val (.int mo), .unset, .unset, .unset, .unset, .unset] [(.int (0 : Int32))])) _
  refine Go.st (fun _ k_ => XS.iload X6.here hx rfl (hb hby at_113) rfl k_) ?_
  show Go p e below (T6.setTop (mkF m 115 #[.val (.int p1), .val (.int p2), .val (.int p3), .val (.int wd), .val (.int pl), .val (.int ot), .val (.ref w_LEAST_SIGNIFICANT_FIRST), .val (.ref w_MOST_SIGNIFICANT_FIRST), .val (.int pl), .val (.int mm), .val (.int ot), .val (.int mo), .unset, .unset, .unset, .unset, .unset] [(.int mo), (.int (0 : Int32))])) _
  have hc115 : ¬ (mo < (0 : Int32)) := by first | (rw [Int32.lt_iff_toInt_lt, Int32.toInt_zero]; omega) | (rw [Int32.lt_iff_toInt_lt]; omega)
  refine Go.st (fun _ k_ => XS.icmpNo X6.here hx rfl (hb hby at_115) rfl (flt hc115).2.2.1 k_) ?_
  show Go p e below (T6.setTop (mkF m 118 #[.val (.int p1), .val (.int p2), .val (.int p3), .val (.int wd), .val (.int pl), .val (.int ot), .val (.ref w_LEAST_SIGNIFICANT_FIRST), .val (.ref w_MOST_SIGNIFICANT_FIRST), .val (.int pl), .val (.int mm), .val (.int ot), .val (.int mo), .unset, .unset, .unset, .unset, .unset] [])) _
  refine Go.st (fun _ k_ => XS.iload X6.here hx rfl (hb hby at_118) rfl k_) ?_
  show Go p e below (T6.setTop (mkF m 120 #[.val (.int p1), .val (.int p2), .val (.int p3), .val (.int wd), .val (.int pl), .val (.int ot), .val (.ref w_LEAST_SIGNIFICANT_FIRST), .val (.ref w_MOST_SIGNIFICANT_FIRST), .val (.int pl), .val (.int mm), .val (.int ot), .val (.int mo), .unset, .unset, .unset, .unset, .unset] [(.int mo)])) _
  refine Go.st (fun _ k_ => XS.iloadN X6.here hx rfl (hb hby at_120) rfl k_) ?_
  show Go p e below (T6.setTop (mkF m 121 #[.val (.int p1), .val (.int p2), .val (.int p3), .val (.int wd), .val (.int pl), .val (.int ot), .val (.ref w_LEAST_SIGNIFICANT_FIRST), .val (.ref w_MOST_SIGNIFICANT_FIRST), .val (.int pl), .val (.int mm), .val (.int ot), .val (.int mo), .unset, .unset, .unset, .unset, .unset] [(.int wd), (.int mo)])) _
  have hc121 : mo < wd := by first | (rw [Int32.lt_iff_toInt_lt, Int32.toInt_zero]; omega) | (rw [Int32.lt_iff_toInt_lt]; omega)
  refine Go.st (fun _ k_ => XS.icmpNo X6.here hx rfl (hb hby at_121) rfl (tlt hc121).2.1 k_) ?_
  show Go p e below (T6.setTop (mkF m 124 #[.val (.int p1), .val (.int p2), .val (.int p3), .val (.int wd), .val (.int pl), .val (.int ot), .val (.ref w_LEAST_SIGNIFICANT_FIRST), .val (.ref w_MOST_SIGNIFICANT_FIRST), .val (.int pl), .val (.int mm), .val (.int ot), .val (.int mo), .unset, .unset, .unset, .unset, .unset] [])) _
  refine Go.st (fun _ k_ => XS.iconst X6.here hx rfl (hb hby at_124) k_) ?_
  show Go p e below (T6.setTop (mkF m 125 #[.val (.int p1), .val (.int p2), .val (.int p3), .val (.int wd), .val (.int pl), .val (.int ot), .val (.ref w_LEAST_SIGNIFICANT_FIRST), .val (.ref w_MOST_SIGNIFICANT_FIRST), .val (.int pl), .val (.int mm), .val (.int ot), .val (.int mo), .unset, .unset, .unset, .unset, .unset] [(.int (1 : Int32))])) _
  refine Go.st (fun _ k_ => XS.goto X6.here hx rfl (pc0 := 125) (pc' := 129) rfl (hb hby at_125) (by decide) (by decide) k_) ?_
  show Go p e below (T6.setTop (mkF m 129 #[.val (.int p1), .val (.int p2), .val (.int p3), .val (.int wd), .val (.int pl), .val (.int ot), .val (.ref w_LEAST_SIGNIFICANT_FIRST), .val (.ref w_MOST_SIGNIFICANT_FIRST), .val (.int pl), .val (.int mm), .val (.int ot), .val (.int mo), .unset, .unset, .unset, .unset, .unset] [(.int (1 : Int32))])) _
  refine Go.st (fun _ k_ => XS.istore X6.here hx rfl (hb hby at_129) rfl (l' := #[.val (.int p1), .val (.int p2), .val (.int p3), .val (.int wd), .val (.int pl), .val (.int ot), .val (.ref w_LEAST_SIGNIFICANT_FIRST), .val (.ref w_MOST_SIGNIFICANT_FIRST), .val (.int pl), .val (.int mm), .val (.int ot), .val (.int mo), .val (.int (1 : Int32)), .unset, .unset, .unset, .unset]) rfl k_) ?_
  show Go p e below (T6.setTop (mkF m 131 #[.val (.int p1), .val (.int p2), .val (.int p3), .val (.int wd), .val (.int pl), .val (.int ot), .val (.ref w_LEAST_SIGNIFICANT_FIRST), .val (.ref w_MOST_SIGNIFICANT_FIRST), .val (.int pl), .val (.int mm), .val (.int ot), .val (.int mo), .val (.int (1 : Int32)), .unset, .unset, .unset, .unset] [])) _
  refine Go.st (fun _ k_ => XS.iload X6.here hx rfl (hb hby at_131) rfl k_) ?_
  show Go p e below (T6.setTop (mkF m 133 #[.val (.int p1), .val (.int p2), .val (.int p3), .val (.int wd), .val (.int pl), .val (.int ot), .val (.ref w_LEAST_SIGNIFICANT_FIRST), .val (.ref w_MOST_SIGNIFICANT_FIRST), .val (.int pl), .val (.int mm), .val (.int ot), .val (.int mo), .val (.int (1 : Int32)), .unset, .unset, .unset, .unset] [(.int pl)])) _
  refine Go.st (fun _ k_ => XS.iload X6.here hx rfl (hb hby at_133) rfl k_) ?_
  show Go p e below (T6.setTop (mkF m 135 #[.val (.int p1), .val (.int p2), .val (.int p3), .val (.int wd), .val (.int pl), .val (.int ot), .val (.ref w_LEAST_SIGNIFICANT_FIRST), .val (.ref w_MOST_SIGNIFICANT_FIRST), .val (.int pl), .val (.int mm), .val (.int ot), .val (.int mo), .val (.int (1 : Int32)), .unset, .unset, .unset, .unset] [(.int pl), (.int pl)])) _
  refine Go.st (fun _ k_ => XS.icmpNo X6.here hx rfl (hb hby at_135) rfl (teq (rfl : pl = pl)).2 k_) ?_
  show Go p e below (T6.setTop (mkF m 138 #[.val (.int p1), .val (.int p2), .val (.int p3), .val (.int wd), .val (.int pl), .val (.int ot), .val (.ref w_LEAST_SIGNIFICANT_FIRST), .val (.ref w_MOST_SIGNIFICANT_FIRST), .val (.int pl), .val (.int mm), .val (.int ot), .val (.int mo), .val (.int (1 : Int32)), .unset, .unset, .unset, .unset] [])) _
  refine Go.st (fun _ k_ => XS.iload X6.here hx rfl (hb hby at_138) rfl k_) ?_
  show Go p e below (T6.setTop (mkF m 140 #[.val (.int p1), .val (.int p2), .val (.int p3), .val (.int wd), .val (.int pl), .val (.int ot), .val (.ref w_LEAST_SIGNIFICANT_FIRST), .val (.ref w_MOST_SIGNIFICANT_FIRST), .val (.int pl), .val (.int mm), .val (.int ot), .val (.int mo), .val (.int (1 : Int32)), .unset, .unset, .unset, .unset] [(.int ot)])) _
  refine Go.st (fun _ k_ => XS.iload X6.here hx rfl (hb hby at_140) rfl k_) ?_
  show Go p e below (T6.setTop (mkF m 142 #[.val (.int p1), .val (.int p2), .val (.int p3), .val (.int wd), .val (.int pl), .val (.int ot), .val (.ref w_LEAST_SIGNIFICANT_FIRST), .val (.ref w_MOST_SIGNIFICANT_FIRST), .val (.int pl), .val (.int mm), .val (.int ot), .val (.int mo), .val (.int (1 : Int32)), .unset, .unset, .unset, .unset] [(.int ot), (.int ot)])) _
  refine Go.st (fun _ k_ => XS.icmpNo X6.here hx rfl (hb hby at_142) rfl (teq (rfl : ot = ot)).2 k_) ?_
  show Go p e below (T6.setTop (mkF m 145 #[.val (.int p1), .val (.int p2), .val (.int p3), .val (.int wd), .val (.int pl), .val (.int ot), .val (.ref w_LEAST_SIGNIFICANT_FIRST), .val (.ref w_MOST_SIGNIFICANT_FIRST), .val (.int pl), .val (.int mm), .val (.int ot), .val (.int mo), .val (.int (1 : Int32)), .unset, .unset, .unset, .unset] [])) _
  refine Go.st (fun _ k_ => XS.iconst X6.here hx rfl (hb hby at_145) k_) ?_
  show Go p e below (T6.setTop (mkF m 146 #[.val (.int p1), .val (.int p2), .val (.int p3), .val (.int wd), .val (.int pl), .val (.int ot), .val (.ref w_LEAST_SIGNIFICANT_FIRST), .val (.ref w_MOST_SIGNIFICANT_FIRST), .val (.int pl), .val (.int mm), .val (.int ot), .val (.int mo), .val (.int (1 : Int32)), .unset, .unset, .unset, .unset] [(.int (1 : Int32))])) _
  refine Go.st (fun _ k_ => XS.goto X6.here hx rfl (pc0 := 146) (pc' := 150) rfl (hb hby at_146) (by decide) (by decide) k_) ?_
  show Go p e below (T6.setTop (mkF m 150 #[.val (.int p1), .val (.int p2), .val (.int p3), .val (.int wd), .val (.int pl), .val (.int ot), .val (.ref w_LEAST_SIGNIFICANT_FIRST), .val (.ref w_MOST_SIGNIFICANT_FIRST), .val (.int pl), .val (.int mm), .val (.int ot), .val (.int mo), .val (.int (1 : Int32)), .unset, .unset, .unset, .unset] [(.int (1 : Int32))])) _
  refine Go.st (fun _ k_ => XS.istore X6.here hx rfl (hb hby at_150) rfl (l' := #[.val (.int p1), .val (.int p2), .val (.int p3), .val (.int wd), .val (.int pl), .val (.int ot), .val (.ref w_LEAST_SIGNIFICANT_FIRST), .val (.ref w_MOST_SIGNIFICANT_FIRST), .val (.int pl), .val (.int mm), .val (.int ot), .val (.int mo), .val (.int (1 : Int32)), .val (.int (1 : Int32)), .unset, .unset, .unset]) rfl k_) ?_
  show Go p e below (T6.setTop (mkF m 152 #[.val (.int p1), .val (.int p2), .val (.int p3), .val (.int wd), .val (.int pl), .val (.int ot), .val (.ref w_LEAST_SIGNIFICANT_FIRST), .val (.ref w_MOST_SIGNIFICANT_FIRST), .val (.int pl), .val (.int mm), .val (.int ot), .val (.int mo), .val (.int (1 : Int32)), .val (.int (1 : Int32)), .unset, .unset, .unset] [])) _
  refine Go.st (fun _ k_ => XS.iload X6.here hx rfl (hb hby at_152) rfl k_) ?_
  show Go p e below (T6.setTop (mkF m 154 #[.val (.int p1), .val (.int p2), .val (.int p3), .val (.int wd), .val (.int pl), .val (.int ot), .val (.ref w_LEAST_SIGNIFICANT_FIRST), .val (.ref w_MOST_SIGNIFICANT_FIRST), .val (.int pl), .val (.int mm), .val (.int ot), .val (.int mo), .val (.int (1 : Int32)), .val (.int (1 : Int32)), .unset, .unset, .unset] [(.int mm)])) _
  refine Go.st (fun _ k_ => XS.i2l X6.here hx rfl (hb hby at_154) rfl k_) ?_
  show Go p e below (T6.setTop (mkF m 155 #[.val (.int p1), .val (.int p2), .val (.int p3), .val (.int wd), .val (.int pl), .val (.int ot), .val (.ref w_LEAST_SIGNIFICANT_FIRST), .val (.ref w_MOST_SIGNIFICANT_FIRST), .val (.int pl), .val (.int mm), .val (.int ot), .val (.int mo), .val (.int (1 : Int32)), .val (.int (1 : Int32)), .unset, .unset, .unset] [(.long (mm.toInt64))])) _
  refine Go.st (fun _ k_ => XS.iloadN X6.here hx rfl (hb hby at_155) rfl k_) ?_
  show Go p e below (T6.setTop (mkF m 156 #[.val (.int p1), .val (.int p2), .val (.int p3), .val (.int wd), .val (.int pl), .val (.int ot), .val (.ref w_LEAST_SIGNIFICANT_FIRST), .val (.ref w_MOST_SIGNIFICANT_FIRST), .val (.int pl), .val (.int mm), .val (.int ot), .val (.int mo), .val (.int (1 : Int32)), .val (.int (1 : Int32)), .unset, .unset, .unset] [(.int wd), (.long (mm.toInt64))])) _
  refine Go.st (fun _ k_ => XS.i2l X6.here hx rfl (hb hby at_156) rfl k_) ?_
  show Go p e below (T6.setTop (mkF m 157 #[.val (.int p1), .val (.int p2), .val (.int p3), .val (.int wd), .val (.int pl), .val (.int ot), .val (.ref w_LEAST_SIGNIFICANT_FIRST), .val (.ref w_MOST_SIGNIFICANT_FIRST), .val (.int pl), .val (.int mm), .val (.int ot), .val (.int mo), .val (.int (1 : Int32)), .val (.int (1 : Int32)), .unset, .unset, .unset] [(.long (wd.toInt64)), (.long (mm.toInt64))])) _
  refine Go.st (fun _ k_ => XS.lconst X6.here hx rfl (hb hby at_157) k_) ?_
  show Go p e below (T6.setTop (mkF m 158 #[.val (.int p1), .val (.int p2), .val (.int p3), .val (.int wd), .val (.int pl), .val (.int ot), .val (.ref w_LEAST_SIGNIFICANT_FIRST), .val (.ref w_MOST_SIGNIFICANT_FIRST), .val (.int pl), .val (.int mm), .val (.int ot), .val (.int mo), .val (.int (1 : Int32)), .val (.int (1 : Int32)), .unset, .unset, .unset] [(.long (1 : Int64)), (.long (wd.toInt64)), (.long (mm.toInt64))])) _
  refine Go.st (fun _ k_ => XS.lsub X6.here hx rfl (hb hby at_158) rfl k_) ?_
  show Go p e below (T6.setTop (mkF m 159 #[.val (.int p1), .val (.int p2), .val (.int p3), .val (.int wd), .val (.int pl), .val (.int ot), .val (.ref w_LEAST_SIGNIFICANT_FIRST), .val (.ref w_MOST_SIGNIFICANT_FIRST), .val (.int pl), .val (.int mm), .val (.int ot), .val (.int mo), .val (.int (1 : Int32)), .val (.int (1 : Int32)), .unset, .unset, .unset] [(.long ((wd.toInt64) - (1 : Int64))), (.long (mm.toInt64))])) _
  refine Go.st (fun _ k_ => XS.iload X6.here hx rfl (hb hby at_159) rfl k_) ?_
  show Go p e below (T6.setTop (mkF m 161 #[.val (.int p1), .val (.int p2), .val (.int p3), .val (.int wd), .val (.int pl), .val (.int ot), .val (.ref w_LEAST_SIGNIFICANT_FIRST), .val (.ref w_MOST_SIGNIFICANT_FIRST), .val (.int pl), .val (.int mm), .val (.int ot), .val (.int mo), .val (.int (1 : Int32)), .val (.int (1 : Int32)), .unset, .unset, .unset] [(.int pl), (.long ((wd.toInt64) - (1 : Int64))), (.long (mm.toInt64))])) _
  refine Go.st (fun _ k_ => XS.i2l X6.here hx rfl (hb hby at_161) rfl k_) ?_
  show Go p e below (T6.setTop (mkF m 162 #[.val (.int p1), .val (.int p2), .val (.int p3), .val (.int wd), .val (.int pl), .val (.int ot), .val (.ref w_LEAST_SIGNIFICANT_FIRST), .val (.ref w_MOST_SIGNIFICANT_FIRST), .val (.int pl), .val (.int mm), .val (.int ot), .val (.int mo), .val (.int (1 : Int32)), .val (.int (1 : Int32)), .unset, .unset, .unset] [(.long (pl.toInt64)), (.long ((wd.toInt64) - (1 : Int64))), (.long (mm.toInt64))])) _
  refine Go.st (fun _ k_ => XS.lsub X6.here hx rfl (hb hby at_162) rfl k_) ?_
  show Go p e below (T6.setTop (mkF m 163 #[.val (.int p1), .val (.int p2), .val (.int p3), .val (.int wd), .val (.int pl), .val (.int ot), .val (.ref w_LEAST_SIGNIFICANT_FIRST), .val (.ref w_MOST_SIGNIFICANT_FIRST), .val (.int pl), .val (.int mm), .val (.int ot), .val (.int mo), .val (.int (1 : Int32)), .val (.int (1 : Int32)), .unset, .unset, .unset] [(.long (((wd.toInt64) - (1 : Int64)) - (pl.toInt64))), (.long (mm.toInt64))])) _
  refine Go.st (fun _ k_ => XS.lcmp X6.here hx rfl (hb hby at_163) rfl k_) ?_
  show Go p e below (T6.setTop (mkF m 164 #[.val (.int p1), .val (.int p2), .val (.int p3), .val (.int wd), .val (.int pl), .val (.int ot), .val (.ref w_LEAST_SIGNIFICANT_FIRST), .val (.ref w_MOST_SIGNIFICANT_FIRST), .val (.int pl), .val (.int mm), .val (.int ot), .val (.int mo), .val (.int (1 : Int32)), .val (.int (1 : Int32)), .unset, .unset, .unset] [(.int (lcmpW (mm.toInt64) (((wd.toInt64) - (1 : Int64)) - (pl.toInt64))))])) _
  have hc164 : (mm.toInt64) = (((wd.toInt64) - (1 : Int64)) - (pl.toInt64)) := own_l hW hP hM
  refine Go.st (fun _ k_ => XS.ifNo X6.here hx rfl (hb hby at_164) rfl ((if0 _ _).trans (teq ((lw_eq _ _).mpr hc164)).2) k_) ?_
  show Go p e below (T6.setTop (mkF m 167 #[.val (.int p1), .val (.int p2), .val (.int p3), .val (.int wd), .val (.int pl), .val (.int ot), .val (.ref w_LEAST_SIGNIFICANT_FIRST), .val (.ref w_MOST_SIGNIFICANT_FIRST), .val (.int pl), .val (.int mm), .val (.int ot), .val (.int mo), .val (.int (1 : Int32)), .val (.int (1 : Int32)), .unset, .unset, .unset] [])) _
  refine Go.st (fun _ k_ => XS.iload X6.here hx rfl (hb hby at_167) rfl k_) ?_
  show Go p e below (T6.setTop (mkF m 169 #[.val (.int p1), .val (.int p2), .val (.int p3), .val (.int wd), .val (.int pl), .val (.int ot), .val (.ref w_LEAST_SIGNIFICANT_FIRST), .val (.ref w_MOST_SIGNIFICANT_FIRST), .val (.int pl), .val (.int mm), .val (.int ot), .val (.int mo), .val (.int (1 : Int32)), .val (.int (1 : Int32)), .unset, .unset, .unset] [(.int mo)])) _
  refine Go.st (fun _ k_ => XS.i2l X6.here hx rfl (hb hby at_169) rfl k_) ?_
  show Go p e below (T6.setTop (mkF m 170 #[.val (.int p1), .val (.int p2), .val (.int p3), .val (.int wd), .val (.int pl), .val (.int ot), .val (.ref w_LEAST_SIGNIFICANT_FIRST), .val (.ref w_MOST_SIGNIFICANT_FIRST), .val (.int pl), .val (.int mm), .val (.int ot), .val (.int mo), .val (.int (1 : Int32)), .val (.int (1 : Int32)), .unset, .unset, .unset] [(.long (mo.toInt64))])) _
  refine Go.st (fun _ k_ => XS.iloadN X6.here hx rfl (hb hby at_170) rfl k_) ?_
  show Go p e below (T6.setTop (mkF m 171 #[.val (.int p1), .val (.int p2), .val (.int p3), .val (.int wd), .val (.int pl), .val (.int ot), .val (.ref w_LEAST_SIGNIFICANT_FIRST), .val (.ref w_MOST_SIGNIFICANT_FIRST), .val (.int pl), .val (.int mm), .val (.int ot), .val (.int mo), .val (.int (1 : Int32)), .val (.int (1 : Int32)), .unset, .unset, .unset] [(.int wd), (.long (mo.toInt64))])) _
  refine Go.st (fun _ k_ => XS.i2l X6.here hx rfl (hb hby at_171) rfl k_) ?_
  show Go p e below (T6.setTop (mkF m 172 #[.val (.int p1), .val (.int p2), .val (.int p3), .val (.int wd), .val (.int pl), .val (.int ot), .val (.ref w_LEAST_SIGNIFICANT_FIRST), .val (.ref w_MOST_SIGNIFICANT_FIRST), .val (.int pl), .val (.int mm), .val (.int ot), .val (.int mo), .val (.int (1 : Int32)), .val (.int (1 : Int32)), .unset, .unset, .unset] [(.long (wd.toInt64)), (.long (mo.toInt64))])) _
  refine Go.st (fun _ k_ => XS.lconst X6.here hx rfl (hb hby at_172) k_) ?_
  show Go p e below (T6.setTop (mkF m 173 #[.val (.int p1), .val (.int p2), .val (.int p3), .val (.int wd), .val (.int pl), .val (.int ot), .val (.ref w_LEAST_SIGNIFICANT_FIRST), .val (.ref w_MOST_SIGNIFICANT_FIRST), .val (.int pl), .val (.int mm), .val (.int ot), .val (.int mo), .val (.int (1 : Int32)), .val (.int (1 : Int32)), .unset, .unset, .unset] [(.long (1 : Int64)), (.long (wd.toInt64)), (.long (mo.toInt64))])) _
  refine Go.st (fun _ k_ => XS.lsub X6.here hx rfl (hb hby at_173) rfl k_) ?_
  show Go p e below (T6.setTop (mkF m 174 #[.val (.int p1), .val (.int p2), .val (.int p3), .val (.int wd), .val (.int pl), .val (.int ot), .val (.ref w_LEAST_SIGNIFICANT_FIRST), .val (.ref w_MOST_SIGNIFICANT_FIRST), .val (.int pl), .val (.int mm), .val (.int ot), .val (.int mo), .val (.int (1 : Int32)), .val (.int (1 : Int32)), .unset, .unset, .unset] [(.long ((wd.toInt64) - (1 : Int64))), (.long (mo.toInt64))])) _
  refine Go.st (fun _ k_ => XS.iload X6.here hx rfl (hb hby at_174) rfl k_) ?_
  show Go p e below (T6.setTop (mkF m 176 #[.val (.int p1), .val (.int p2), .val (.int p3), .val (.int wd), .val (.int pl), .val (.int ot), .val (.ref w_LEAST_SIGNIFICANT_FIRST), .val (.ref w_MOST_SIGNIFICANT_FIRST), .val (.int pl), .val (.int mm), .val (.int ot), .val (.int mo), .val (.int (1 : Int32)), .val (.int (1 : Int32)), .unset, .unset, .unset] [(.int ot), (.long ((wd.toInt64) - (1 : Int64))), (.long (mo.toInt64))])) _
  refine Go.st (fun _ k_ => XS.i2l X6.here hx rfl (hb hby at_176) rfl k_) ?_
  show Go p e below (T6.setTop (mkF m 177 #[.val (.int p1), .val (.int p2), .val (.int p3), .val (.int wd), .val (.int pl), .val (.int ot), .val (.ref w_LEAST_SIGNIFICANT_FIRST), .val (.ref w_MOST_SIGNIFICANT_FIRST), .val (.int pl), .val (.int mm), .val (.int ot), .val (.int mo), .val (.int (1 : Int32)), .val (.int (1 : Int32)), .unset, .unset, .unset] [(.long (ot.toInt64)), (.long ((wd.toInt64) - (1 : Int64))), (.long (mo.toInt64))])) _
  refine Go.st (fun _ k_ => XS.lsub X6.here hx rfl (hb hby at_177) rfl k_) ?_
  show Go p e below (T6.setTop (mkF m 178 #[.val (.int p1), .val (.int p2), .val (.int p3), .val (.int wd), .val (.int pl), .val (.int ot), .val (.ref w_LEAST_SIGNIFICANT_FIRST), .val (.ref w_MOST_SIGNIFICANT_FIRST), .val (.int pl), .val (.int mm), .val (.int ot), .val (.int mo), .val (.int (1 : Int32)), .val (.int (1 : Int32)), .unset, .unset, .unset] [(.long (((wd.toInt64) - (1 : Int64)) - (ot.toInt64))), (.long (mo.toInt64))])) _
  refine Go.st (fun _ k_ => XS.lcmp X6.here hx rfl (hb hby at_178) rfl k_) ?_
  show Go p e below (T6.setTop (mkF m 179 #[.val (.int p1), .val (.int p2), .val (.int p3), .val (.int wd), .val (.int pl), .val (.int ot), .val (.ref w_LEAST_SIGNIFICANT_FIRST), .val (.ref w_MOST_SIGNIFICANT_FIRST), .val (.int pl), .val (.int mm), .val (.int ot), .val (.int mo), .val (.int (1 : Int32)), .val (.int (1 : Int32)), .unset, .unset, .unset] [(.int (lcmpW (mo.toInt64) (((wd.toInt64) - (1 : Int64)) - (ot.toInt64))))])) _
  have hc179 : (mo.toInt64) = (((wd.toInt64) - (1 : Int64)) - (ot.toInt64)) := own_l hW hO hN
  refine Go.st (fun _ k_ => XS.ifNo X6.here hx rfl (hb hby at_179) rfl ((if0 _ _).trans (teq ((lw_eq _ _).mpr hc179)).2) k_) ?_
  show Go p e below (T6.setTop (mkF m 182 #[.val (.int p1), .val (.int p2), .val (.int p3), .val (.int wd), .val (.int pl), .val (.int ot), .val (.ref w_LEAST_SIGNIFICANT_FIRST), .val (.ref w_MOST_SIGNIFICANT_FIRST), .val (.int pl), .val (.int mm), .val (.int ot), .val (.int mo), .val (.int (1 : Int32)), .val (.int (1 : Int32)), .unset, .unset, .unset] [])) _
  refine Go.st (fun _ k_ => XS.iconst X6.here hx rfl (hb hby at_182) k_) ?_
  show Go p e below (T6.setTop (mkF m 183 #[.val (.int p1), .val (.int p2), .val (.int p3), .val (.int wd), .val (.int pl), .val (.int ot), .val (.ref w_LEAST_SIGNIFICANT_FIRST), .val (.ref w_MOST_SIGNIFICANT_FIRST), .val (.int pl), .val (.int mm), .val (.int ot), .val (.int mo), .val (.int (1 : Int32)), .val (.int (1 : Int32)), .unset, .unset, .unset] [(.int (1 : Int32))])) _
  refine Go.st (fun _ k_ => XS.goto X6.here hx rfl (pc0 := 183) (pc' := 187) rfl (hb hby at_183) (by decide) (by decide) k_) ?_
  show Go p e below (T6.setTop (mkF m 187 #[.val (.int p1), .val (.int p2), .val (.int p3), .val (.int wd), .val (.int pl), .val (.int ot), .val (.ref w_LEAST_SIGNIFICANT_FIRST), .val (.ref w_MOST_SIGNIFICANT_FIRST), .val (.int pl), .val (.int mm), .val (.int ot), .val (.int mo), .val (.int (1 : Int32)), .val (.int (1 : Int32)), .unset, .unset, .unset] [(.int (1 : Int32))])) _
  refine Go.st (fun _ k_ => XS.istore X6.here hx rfl (hb hby at_187) rfl (l' := #[.val (.int p1), .val (.int p2), .val (.int p3), .val (.int wd), .val (.int pl), .val (.int ot), .val (.ref w_LEAST_SIGNIFICANT_FIRST), .val (.ref w_MOST_SIGNIFICANT_FIRST), .val (.int pl), .val (.int mm), .val (.int ot), .val (.int mo), .val (.int (1 : Int32)), .val (.int (1 : Int32)), .val (.int (1 : Int32)), .unset, .unset]) rfl k_) ?_
  show Go p e below (T6.setTop (mkF m 189 #[.val (.int p1), .val (.int p2), .val (.int p3), .val (.int wd), .val (.int pl), .val (.int ot), .val (.ref w_LEAST_SIGNIFICANT_FIRST), .val (.ref w_MOST_SIGNIFICANT_FIRST), .val (.int pl), .val (.int mm), .val (.int ot), .val (.int mo), .val (.int (1 : Int32)), .val (.int (1 : Int32)), .val (.int (1 : Int32)), .unset, .unset] [])) _
  refine Go.st (fun _ k_ => XS.iload X6.here hx rfl (hb hby at_189) rfl k_) ?_
  show Go p e below (T6.setTop (mkF m 191 #[.val (.int p1), .val (.int p2), .val (.int p3), .val (.int wd), .val (.int pl), .val (.int ot), .val (.ref w_LEAST_SIGNIFICANT_FIRST), .val (.ref w_MOST_SIGNIFICANT_FIRST), .val (.int pl), .val (.int mm), .val (.int ot), .val (.int mo), .val (.int (1 : Int32)), .val (.int (1 : Int32)), .val (.int (1 : Int32)), .unset, .unset] [(.int pl)])) _
  refine Go.st (fun _ k_ => XS.iload X6.here hx rfl (hb hby at_191) rfl k_) ?_
  show Go p e below (T6.setTop (mkF m 193 #[.val (.int p1), .val (.int p2), .val (.int p3), .val (.int wd), .val (.int pl), .val (.int ot), .val (.ref w_LEAST_SIGNIFICANT_FIRST), .val (.ref w_MOST_SIGNIFICANT_FIRST), .val (.int pl), .val (.int mm), .val (.int ot), .val (.int mo), .val (.int (1 : Int32)), .val (.int (1 : Int32)), .val (.int (1 : Int32)), .unset, .unset] [(.int ot), (.int pl)])) _
  by_cases hc193 : pl = ot
  · refine Go.st (fun _ k_ => XS.icmpNo X6.here hx rfl (hb hby at_193) rfl (teq hc193).2 k_) ?_
    show Go p e below (T6.setTop (mkF m 196 #[.val (.int p1), .val (.int p2), .val (.int p3), .val (.int wd), .val (.int pl), .val (.int ot), .val (.ref w_LEAST_SIGNIFICANT_FIRST), .val (.ref w_MOST_SIGNIFICANT_FIRST), .val (.int pl), .val (.int mm), .val (.int ot), .val (.int mo), .val (.int (1 : Int32)), .val (.int (1 : Int32)), .val (.int (1 : Int32)), .unset, .unset] [])) _
    refine Go.st (fun _ k_ => XS.iconst X6.here hx rfl (hb hby at_196) k_) ?_
    show Go p e below (T6.setTop (mkF m 197 #[.val (.int p1), .val (.int p2), .val (.int p3), .val (.int wd), .val (.int pl), .val (.int ot), .val (.ref w_LEAST_SIGNIFICANT_FIRST), .val (.ref w_MOST_SIGNIFICANT_FIRST), .val (.int pl), .val (.int mm), .val (.int ot), .val (.int mo), .val (.int (1 : Int32)), .val (.int (1 : Int32)), .val (.int (1 : Int32)), .unset, .unset] [(.int (1 : Int32))])) _
    refine Go.st (fun _ k_ => XS.goto X6.here hx rfl (pc0 := 197) (pc' := 201) rfl (hb hby at_197) (by decide) (by decide) k_) ?_
    show Go p e below (T6.setTop (mkF m 201 #[.val (.int p1), .val (.int p2), .val (.int p3), .val (.int wd), .val (.int pl), .val (.int ot), .val (.ref w_LEAST_SIGNIFICANT_FIRST), .val (.ref w_MOST_SIGNIFICANT_FIRST), .val (.int pl), .val (.int mm), .val (.int ot), .val (.int mo), .val (.int (1 : Int32)), .val (.int (1 : Int32)), .val (.int (1 : Int32)), .unset, .unset] [(.int (1 : Int32))])) _
    refine Go.st (fun _ k_ => XS.iload X6.here hx rfl (hb hby at_201) rfl k_) ?_
    show Go p e below (T6.setTop (mkF m 203 #[.val (.int p1), .val (.int p2), .val (.int p3), .val (.int wd), .val (.int pl), .val (.int ot), .val (.ref w_LEAST_SIGNIFICANT_FIRST), .val (.ref w_MOST_SIGNIFICANT_FIRST), .val (.int pl), .val (.int mm), .val (.int ot), .val (.int mo), .val (.int (1 : Int32)), .val (.int (1 : Int32)), .val (.int (1 : Int32)), .unset, .unset] [(.int pl), (.int (1 : Int32))])) _
    refine Go.st (fun _ k_ => XS.iload X6.here hx rfl (hb hby at_203) rfl k_) ?_
    show Go p e below (T6.setTop (mkF m 205 #[.val (.int p1), .val (.int p2), .val (.int p3), .val (.int wd), .val (.int pl), .val (.int ot), .val (.ref w_LEAST_SIGNIFICANT_FIRST), .val (.ref w_MOST_SIGNIFICANT_FIRST), .val (.int pl), .val (.int mm), .val (.int ot), .val (.int mo), .val (.int (1 : Int32)), .val (.int (1 : Int32)), .val (.int (1 : Int32)), .unset, .unset] [(.int ot), (.int pl), (.int (1 : Int32))])) _
    refine Go.st (fun _ k_ => XS.icmpNo X6.here hx rfl (hb hby at_205) rfl (teq hc193).2 k_) ?_
    show Go p e below (T6.setTop (mkF m 208 #[.val (.int p1), .val (.int p2), .val (.int p3), .val (.int wd), .val (.int pl), .val (.int ot), .val (.ref w_LEAST_SIGNIFICANT_FIRST), .val (.ref w_MOST_SIGNIFICANT_FIRST), .val (.int pl), .val (.int mm), .val (.int ot), .val (.int mo), .val (.int (1 : Int32)), .val (.int (1 : Int32)), .val (.int (1 : Int32)), .unset, .unset] [(.int (1 : Int32))])) _
    refine Go.st (fun _ k_ => XS.iconst X6.here hx rfl (hb hby at_208) k_) ?_
    show Go p e below (T6.setTop (mkF m 209 #[.val (.int p1), .val (.int p2), .val (.int p3), .val (.int wd), .val (.int pl), .val (.int ot), .val (.ref w_LEAST_SIGNIFICANT_FIRST), .val (.ref w_MOST_SIGNIFICANT_FIRST), .val (.int pl), .val (.int mm), .val (.int ot), .val (.int mo), .val (.int (1 : Int32)), .val (.int (1 : Int32)), .val (.int (1 : Int32)), .unset, .unset] [(.int (1 : Int32)), (.int (1 : Int32))])) _
    refine Go.st (fun _ k_ => XS.goto X6.here hx rfl (pc0 := 209) (pc' := 213) rfl (hb hby at_209) (by decide) (by decide) k_) ?_
    show Go p e below (T6.setTop (mkF m 213 #[.val (.int p1), .val (.int p2), .val (.int p3), .val (.int wd), .val (.int pl), .val (.int ot), .val (.ref w_LEAST_SIGNIFICANT_FIRST), .val (.ref w_MOST_SIGNIFICANT_FIRST), .val (.int pl), .val (.int mm), .val (.int ot), .val (.int mo), .val (.int (1 : Int32)), .val (.int (1 : Int32)), .val (.int (1 : Int32)), .unset, .unset] [(.int (1 : Int32)), (.int (1 : Int32))])) _
    refine Go.st (fun _ k_ => XS.icmpNo X6.here hx rfl (hb hby at_213) rfl (teq (by decide : (1 : Int32) = (1 : Int32))).2 k_) ?_
    show Go p e below (T6.setTop (mkF m 216 #[.val (.int p1), .val (.int p2), .val (.int p3), .val (.int wd), .val (.int pl), .val (.int ot), .val (.ref w_LEAST_SIGNIFICANT_FIRST), .val (.ref w_MOST_SIGNIFICANT_FIRST), .val (.int pl), .val (.int mm), .val (.int ot), .val (.int mo), .val (.int (1 : Int32)), .val (.int (1 : Int32)), .val (.int (1 : Int32)), .unset, .unset] [])) _
    refine Go.st (fun _ k_ => XS.iload X6.here hx rfl (hb hby at_216) rfl k_) ?_
    show Go p e below (T6.setTop (mkF m 218 #[.val (.int p1), .val (.int p2), .val (.int p3), .val (.int wd), .val (.int pl), .val (.int ot), .val (.ref w_LEAST_SIGNIFICANT_FIRST), .val (.ref w_MOST_SIGNIFICANT_FIRST), .val (.int pl), .val (.int mm), .val (.int ot), .val (.int mo), .val (.int (1 : Int32)), .val (.int (1 : Int32)), .val (.int (1 : Int32)), .unset, .unset] [(.int pl)])) _
    refine Go.st (fun _ k_ => XS.iload X6.here hx rfl (hb hby at_218) rfl k_) ?_
    show Go p e below (T6.setTop (mkF m 220 #[.val (.int p1), .val (.int p2), .val (.int p3), .val (.int wd), .val (.int pl), .val (.int ot), .val (.ref w_LEAST_SIGNIFICANT_FIRST), .val (.ref w_MOST_SIGNIFICANT_FIRST), .val (.int pl), .val (.int mm), .val (.int ot), .val (.int mo), .val (.int (1 : Int32)), .val (.int (1 : Int32)), .val (.int (1 : Int32)), .unset, .unset] [(.int ot), (.int pl)])) _
    refine Go.st (fun _ k_ => XS.icmpNo X6.here hx rfl (hb hby at_220) rfl (teq hc193).2 k_) ?_
    show Go p e below (T6.setTop (mkF m 223 #[.val (.int p1), .val (.int p2), .val (.int p3), .val (.int wd), .val (.int pl), .val (.int ot), .val (.ref w_LEAST_SIGNIFICANT_FIRST), .val (.ref w_MOST_SIGNIFICANT_FIRST), .val (.int pl), .val (.int mm), .val (.int ot), .val (.int mo), .val (.int (1 : Int32)), .val (.int (1 : Int32)), .val (.int (1 : Int32)), .unset, .unset] [])) _
    refine Go.st (fun _ k_ => XS.iconst X6.here hx rfl (hb hby at_223) k_) ?_
    show Go p e below (T6.setTop (mkF m 224 #[.val (.int p1), .val (.int p2), .val (.int p3), .val (.int wd), .val (.int pl), .val (.int ot), .val (.ref w_LEAST_SIGNIFICANT_FIRST), .val (.ref w_MOST_SIGNIFICANT_FIRST), .val (.int pl), .val (.int mm), .val (.int ot), .val (.int mo), .val (.int (1 : Int32)), .val (.int (1 : Int32)), .val (.int (1 : Int32)), .unset, .unset] [(.int (1 : Int32))])) _
    refine Go.st (fun _ k_ => XS.goto X6.here hx rfl (pc0 := 224) (pc' := 228) rfl (hb hby at_224) (by decide) (by decide) k_) ?_
    show Go p e below (T6.setTop (mkF m 228 #[.val (.int p1), .val (.int p2), .val (.int p3), .val (.int wd), .val (.int pl), .val (.int ot), .val (.ref w_LEAST_SIGNIFICANT_FIRST), .val (.ref w_MOST_SIGNIFICANT_FIRST), .val (.int pl), .val (.int mm), .val (.int ot), .val (.int mo), .val (.int (1 : Int32)), .val (.int (1 : Int32)), .val (.int (1 : Int32)), .unset, .unset] [(.int (1 : Int32))])) _
    refine Go.st (fun _ k_ => XS.iload X6.here hx rfl (hb hby at_228) rfl k_) ?_
    show Go p e below (T6.setTop (mkF m 230 #[.val (.int p1), .val (.int p2), .val (.int p3), .val (.int wd), .val (.int pl), .val (.int ot), .val (.ref w_LEAST_SIGNIFICANT_FIRST), .val (.ref w_MOST_SIGNIFICANT_FIRST), .val (.int pl), .val (.int mm), .val (.int ot), .val (.int mo), .val (.int (1 : Int32)), .val (.int (1 : Int32)), .val (.int (1 : Int32)), .unset, .unset] [(.int mm), (.int (1 : Int32))])) _
    refine Go.st (fun _ k_ => XS.iload X6.here hx rfl (hb hby at_230) rfl k_) ?_
    show Go p e below (T6.setTop (mkF m 232 #[.val (.int p1), .val (.int p2), .val (.int p3), .val (.int wd), .val (.int pl), .val (.int ot), .val (.ref w_LEAST_SIGNIFICANT_FIRST), .val (.ref w_MOST_SIGNIFICANT_FIRST), .val (.int pl), .val (.int mm), .val (.int ot), .val (.int mo), .val (.int (1 : Int32)), .val (.int (1 : Int32)), .val (.int (1 : Int32)), .unset, .unset] [(.int mo), (.int mm), (.int (1 : Int32))])) _
    have hc232 : mm = mo := by rw [emm, emo, hc193]
    refine Go.st (fun _ k_ => XS.icmpNo X6.here hx rfl (hb hby at_232) rfl (teq hc232).2 k_) ?_
    show Go p e below (T6.setTop (mkF m 235 #[.val (.int p1), .val (.int p2), .val (.int p3), .val (.int wd), .val (.int pl), .val (.int ot), .val (.ref w_LEAST_SIGNIFICANT_FIRST), .val (.ref w_MOST_SIGNIFICANT_FIRST), .val (.int pl), .val (.int mm), .val (.int ot), .val (.int mo), .val (.int (1 : Int32)), .val (.int (1 : Int32)), .val (.int (1 : Int32)), .unset, .unset] [(.int (1 : Int32))])) _
    refine Go.st (fun _ k_ => XS.iconst X6.here hx rfl (hb hby at_235) k_) ?_
    show Go p e below (T6.setTop (mkF m 236 #[.val (.int p1), .val (.int p2), .val (.int p3), .val (.int wd), .val (.int pl), .val (.int ot), .val (.ref w_LEAST_SIGNIFICANT_FIRST), .val (.ref w_MOST_SIGNIFICANT_FIRST), .val (.int pl), .val (.int mm), .val (.int ot), .val (.int mo), .val (.int (1 : Int32)), .val (.int (1 : Int32)), .val (.int (1 : Int32)), .unset, .unset] [(.int (1 : Int32)), (.int (1 : Int32))])) _
    refine Go.st (fun _ k_ => XS.goto X6.here hx rfl (pc0 := 236) (pc' := 240) rfl (hb hby at_236) (by decide) (by decide) k_) ?_
    show Go p e below (T6.setTop (mkF m 240 #[.val (.int p1), .val (.int p2), .val (.int p3), .val (.int wd), .val (.int pl), .val (.int ot), .val (.ref w_LEAST_SIGNIFICANT_FIRST), .val (.ref w_MOST_SIGNIFICANT_FIRST), .val (.int pl), .val (.int mm), .val (.int ot), .val (.int mo), .val (.int (1 : Int32)), .val (.int (1 : Int32)), .val (.int (1 : Int32)), .unset, .unset] [(.int (1 : Int32)), (.int (1 : Int32))])) _
    refine Go.st (fun _ k_ => XS.icmpNo X6.here hx rfl (hb hby at_240) rfl (teq (by decide : (1 : Int32) = (1 : Int32))).2 k_) ?_
    show Go p e below (T6.setTop (mkF m 243 #[.val (.int p1), .val (.int p2), .val (.int p3), .val (.int wd), .val (.int pl), .val (.int ot), .val (.ref w_LEAST_SIGNIFICANT_FIRST), .val (.ref w_MOST_SIGNIFICANT_FIRST), .val (.int pl), .val (.int mm), .val (.int ot), .val (.int mo), .val (.int (1 : Int32)), .val (.int (1 : Int32)), .val (.int (1 : Int32)), .unset, .unset] [])) _
    refine Go.st (fun _ k_ => XS.iconst X6.here hx rfl (hb hby at_243) k_) ?_
    show Go p e below (T6.setTop (mkF m 244 #[.val (.int p1), .val (.int p2), .val (.int p3), .val (.int wd), .val (.int pl), .val (.int ot), .val (.ref w_LEAST_SIGNIFICANT_FIRST), .val (.ref w_MOST_SIGNIFICANT_FIRST), .val (.int pl), .val (.int mm), .val (.int ot), .val (.int mo), .val (.int (1 : Int32)), .val (.int (1 : Int32)), .val (.int (1 : Int32)), .unset, .unset] [(.int (1 : Int32))])) _
    refine Go.st (fun _ k_ => XS.goto X6.here hx rfl (pc0 := 244) (pc' := 248) rfl (hb hby at_244) (by decide) (by decide) k_) ?_
    show Go p e below (T6.setTop (mkF m 248 #[.val (.int p1), .val (.int p2), .val (.int p3), .val (.int wd), .val (.int pl), .val (.int ot), .val (.ref w_LEAST_SIGNIFICANT_FIRST), .val (.ref w_MOST_SIGNIFICANT_FIRST), .val (.int pl), .val (.int mm), .val (.int ot), .val (.int mo), .val (.int (1 : Int32)), .val (.int (1 : Int32)), .val (.int (1 : Int32)), .unset, .unset] [(.int (1 : Int32))])) _
    refine Go.st (fun _ k_ => XS.istore X6.here hx rfl (hb hby at_248) rfl (l' := #[.val (.int p1), .val (.int p2), .val (.int p3), .val (.int wd), .val (.int pl), .val (.int ot), .val (.ref w_LEAST_SIGNIFICANT_FIRST), .val (.ref w_MOST_SIGNIFICANT_FIRST), .val (.int pl), .val (.int mm), .val (.int ot), .val (.int mo), .val (.int (1 : Int32)), .val (.int (1 : Int32)), .val (.int (1 : Int32)), .val (.int (1 : Int32)), .unset]) rfl k_) ?_
    show Go p e below (T6.setTop (mkF m 250 #[.val (.int p1), .val (.int p2), .val (.int p3), .val (.int wd), .val (.int pl), .val (.int ot), .val (.ref w_LEAST_SIGNIFICANT_FIRST), .val (.ref w_MOST_SIGNIFICANT_FIRST), .val (.int pl), .val (.int mm), .val (.int ot), .val (.int mo), .val (.int (1 : Int32)), .val (.int (1 : Int32)), .val (.int (1 : Int32)), .val (.int (1 : Int32)), .unset] [])) _
    refine Go.st (fun _ k_ => XS.iload X6.here hx rfl (hb hby at_250) rfl k_) ?_
    show Go p e below (T6.setTop (mkF m 252 #[.val (.int p1), .val (.int p2), .val (.int p3), .val (.int wd), .val (.int pl), .val (.int ot), .val (.ref w_LEAST_SIGNIFICANT_FIRST), .val (.ref w_MOST_SIGNIFICANT_FIRST), .val (.int pl), .val (.int mm), .val (.int ot), .val (.int mo), .val (.int (1 : Int32)), .val (.int (1 : Int32)), .val (.int (1 : Int32)), .val (.int (1 : Int32)), .unset] [(.int pl)])) _
    refine Go.st (fun _ k_ => XS.iload X6.here hx rfl (hb hby at_252) rfl k_) ?_
    show Go p e below (T6.setTop (mkF m 254 #[.val (.int p1), .val (.int p2), .val (.int p3), .val (.int wd), .val (.int pl), .val (.int ot), .val (.ref w_LEAST_SIGNIFICANT_FIRST), .val (.ref w_MOST_SIGNIFICANT_FIRST), .val (.int pl), .val (.int mm), .val (.int ot), .val (.int mo), .val (.int (1 : Int32)), .val (.int (1 : Int32)), .val (.int (1 : Int32)), .val (.int (1 : Int32)), .unset] [(.int ot), (.int pl)])) _
    have hc254 : ¬ (pl < ot) := by rw [hc193]; exact fun q_ => Int32.lt_irrefl q_
    refine Go.st (fun _ k_ => XS.icmpYes X6.here hx rfl (pc0 := 254) (pc' := 279) rfl (hb hby at_254) rfl (flt hc254).2.1 (by decide) (by decide) k_) ?_
    show Go p e below (T6.setTop (mkF m 279 #[.val (.int p1), .val (.int p2), .val (.int p3), .val (.int wd), .val (.int pl), .val (.int ot), .val (.ref w_LEAST_SIGNIFICANT_FIRST), .val (.ref w_MOST_SIGNIFICANT_FIRST), .val (.int pl), .val (.int mm), .val (.int ot), .val (.int mo), .val (.int (1 : Int32)), .val (.int (1 : Int32)), .val (.int (1 : Int32)), .val (.int (1 : Int32)), .unset] [])) _
    refine Go.st (fun _ k_ => XS.iconst X6.here hx rfl (hb hby at_279) k_) ?_
    show Go p e below (T6.setTop (mkF m 280 #[.val (.int p1), .val (.int p2), .val (.int p3), .val (.int wd), .val (.int pl), .val (.int ot), .val (.ref w_LEAST_SIGNIFICANT_FIRST), .val (.ref w_MOST_SIGNIFICANT_FIRST), .val (.int pl), .val (.int mm), .val (.int ot), .val (.int mo), .val (.int (1 : Int32)), .val (.int (1 : Int32)), .val (.int (1 : Int32)), .val (.int (1 : Int32)), .unset] [(.int (1 : Int32))])) _
    refine Go.st (fun _ k_ => XS.istore X6.here hx rfl (hb hby at_280) rfl (l' := #[.val (.int p1), .val (.int p2), .val (.int p3), .val (.int wd), .val (.int pl), .val (.int ot), .val (.ref w_LEAST_SIGNIFICANT_FIRST), .val (.ref w_MOST_SIGNIFICANT_FIRST), .val (.int pl), .val (.int mm), .val (.int ot), .val (.int mo), .val (.int (1 : Int32)), .val (.int (1 : Int32)), .val (.int (1 : Int32)), .val (.int (1 : Int32)), .val (.int (1 : Int32))]) rfl k_) ?_
    show Go p e below (T6.setTop (mkF m 282 #[.val (.int p1), .val (.int p2), .val (.int p3), .val (.int wd), .val (.int pl), .val (.int ot), .val (.ref w_LEAST_SIGNIFICANT_FIRST), .val (.ref w_MOST_SIGNIFICANT_FIRST), .val (.int pl), .val (.int mm), .val (.int ot), .val (.int mo), .val (.int (1 : Int32)), .val (.int (1 : Int32)), .val (.int (1 : Int32)), .val (.int (1 : Int32)), .val (.int (1 : Int32))] [])) _
    refine Go.st (fun _ k_ => XS.iload X6.here hx rfl (hb hby at_282) rfl k_) ?_
    show Go p e below (T6.setTop (mkF m 284 #[.val (.int p1), .val (.int p2), .val (.int p3), .val (.int wd), .val (.int pl), .val (.int ot), .val (.ref w_LEAST_SIGNIFICANT_FIRST), .val (.ref w_MOST_SIGNIFICANT_FIRST), .val (.int pl), .val (.int mm), .val (.int ot), .val (.int mo), .val (.int (1 : Int32)), .val (.int (1 : Int32)), .val (.int (1 : Int32)), .val (.int (1 : Int32)), .val (.int (1 : Int32))] [(.int (1 : Int32))])) _
    refine Go.st (fun _ k_ => XS.ifNo X6.here hx rfl (hb hby at_284) rfl ((if0 _ _).trans (feq (by decide : ¬ ((1 : Int32) = (0 : Int32)))).1) k_) ?_
    show Go p e below (T6.setTop (mkF m 287 #[.val (.int p1), .val (.int p2), .val (.int p3), .val (.int wd), .val (.int pl), .val (.int ot), .val (.ref w_LEAST_SIGNIFICANT_FIRST), .val (.ref w_MOST_SIGNIFICANT_FIRST), .val (.int pl), .val (.int mm), .val (.int ot), .val (.int mo), .val (.int (1 : Int32)), .val (.int (1 : Int32)), .val (.int (1 : Int32)), .val (.int (1 : Int32)), .val (.int (1 : Int32))] [])) _
    refine Go.st (fun _ k_ => XS.iload X6.here hx rfl (hb hby at_287) rfl k_) ?_
    show Go p e below (T6.setTop (mkF m 289 #[.val (.int p1), .val (.int p2), .val (.int p3), .val (.int wd), .val (.int pl), .val (.int ot), .val (.ref w_LEAST_SIGNIFICANT_FIRST), .val (.ref w_MOST_SIGNIFICANT_FIRST), .val (.int pl), .val (.int mm), .val (.int ot), .val (.int mo), .val (.int (1 : Int32)), .val (.int (1 : Int32)), .val (.int (1 : Int32)), .val (.int (1 : Int32)), .val (.int (1 : Int32))] [(.int (1 : Int32))])) _
    refine Go.st (fun _ k_ => XS.ifNo X6.here hx rfl (hb hby at_289) rfl ((if0 _ _).trans (feq (by decide : ¬ ((1 : Int32) = (0 : Int32)))).1) k_) ?_
    show Go p e below (T6.setTop (mkF m 292 #[.val (.int p1), .val (.int p2), .val (.int p3), .val (.int wd), .val (.int pl), .val (.int ot), .val (.ref w_LEAST_SIGNIFICANT_FIRST), .val (.ref w_MOST_SIGNIFICANT_FIRST), .val (.int pl), .val (.int mm), .val (.int ot), .val (.int mo), .val (.int (1 : Int32)), .val (.int (1 : Int32)), .val (.int (1 : Int32)), .val (.int (1 : Int32)), .val (.int (1 : Int32))] [])) _
    refine Go.st (fun _ k_ => XS.iload X6.here hx rfl (hb hby at_292) rfl k_) ?_
    show Go p e below (T6.setTop (mkF m 294 #[.val (.int p1), .val (.int p2), .val (.int p3), .val (.int wd), .val (.int pl), .val (.int ot), .val (.ref w_LEAST_SIGNIFICANT_FIRST), .val (.ref w_MOST_SIGNIFICANT_FIRST), .val (.int pl), .val (.int mm), .val (.int ot), .val (.int mo), .val (.int (1 : Int32)), .val (.int (1 : Int32)), .val (.int (1 : Int32)), .val (.int (1 : Int32)), .val (.int (1 : Int32))] [(.int (1 : Int32))])) _
    refine Go.st (fun _ k_ => XS.ifNo X6.here hx rfl (hb hby at_294) rfl ((if0 _ _).trans (feq (by decide : ¬ ((1 : Int32) = (0 : Int32)))).1) k_) ?_
    show Go p e below (T6.setTop (mkF m 297 #[.val (.int p1), .val (.int p2), .val (.int p3), .val (.int wd), .val (.int pl), .val (.int ot), .val (.ref w_LEAST_SIGNIFICANT_FIRST), .val (.ref w_MOST_SIGNIFICANT_FIRST), .val (.int pl), .val (.int mm), .val (.int ot), .val (.int mo), .val (.int (1 : Int32)), .val (.int (1 : Int32)), .val (.int (1 : Int32)), .val (.int (1 : Int32)), .val (.int (1 : Int32))] [])) _
    refine Go.st (fun _ k_ => XS.iload X6.here hx rfl (hb hby at_297) rfl k_) ?_
    show Go p e below (T6.setTop (mkF m 299 #[.val (.int p1), .val (.int p2), .val (.int p3), .val (.int wd), .val (.int pl), .val (.int ot), .val (.ref w_LEAST_SIGNIFICANT_FIRST), .val (.ref w_MOST_SIGNIFICANT_FIRST), .val (.int pl), .val (.int mm), .val (.int ot), .val (.int mo), .val (.int (1 : Int32)), .val (.int (1 : Int32)), .val (.int (1 : Int32)), .val (.int (1 : Int32)), .val (.int (1 : Int32))] [(.int (1 : Int32))])) _
    refine Go.st (fun _ k_ => XS.ifNo X6.here hx rfl (hb hby at_299) rfl ((if0 _ _).trans (feq (by decide : ¬ ((1 : Int32) = (0 : Int32)))).1) k_) ?_
    show Go p e below (T6.setTop (mkF m 302 #[.val (.int p1), .val (.int p2), .val (.int p3), .val (.int wd), .val (.int pl), .val (.int ot), .val (.ref w_LEAST_SIGNIFICANT_FIRST), .val (.ref w_MOST_SIGNIFICANT_FIRST), .val (.int pl), .val (.int mm), .val (.int ot), .val (.int mo), .val (.int (1 : Int32)), .val (.int (1 : Int32)), .val (.int (1 : Int32)), .val (.int (1 : Int32)), .val (.int (1 : Int32))] [])) _
    refine Go.st (fun _ k_ => XS.iload X6.here hx rfl (hb hby at_302) rfl k_) ?_
    show Go p e below (T6.setTop (mkF m 304 #[.val (.int p1), .val (.int p2), .val (.int p3), .val (.int wd), .val (.int pl), .val (.int ot), .val (.ref w_LEAST_SIGNIFICANT_FIRST), .val (.ref w_MOST_SIGNIFICANT_FIRST), .val (.int pl), .val (.int mm), .val (.int ot), .val (.int mo), .val (.int (1 : Int32)), .val (.int (1 : Int32)), .val (.int (1 : Int32)), .val (.int (1 : Int32)), .val (.int (1 : Int32))] [(.int (1 : Int32))])) _
    refine Go.st (fun _ k_ => XS.ifNo X6.here hx rfl (hb hby at_304) rfl ((if0 _ _).trans (feq (by decide : ¬ ((1 : Int32) = (0 : Int32)))).1) k_) ?_
    show Go p e below (T6.setTop (mkF m 307 #[.val (.int p1), .val (.int p2), .val (.int p3), .val (.int wd), .val (.int pl), .val (.int ot), .val (.ref w_LEAST_SIGNIFICANT_FIRST), .val (.ref w_MOST_SIGNIFICANT_FIRST), .val (.int pl), .val (.int mm), .val (.int ot), .val (.int mo), .val (.int (1 : Int32)), .val (.int (1 : Int32)), .val (.int (1 : Int32)), .val (.int (1 : Int32)), .val (.int (1 : Int32))] [])) _
    refine Go.st (fun _ k_ => XS.iconst X6.here hx rfl (hb hby at_307) k_) ?_
    show Go p e below (T6.setTop (mkF m 308 #[.val (.int p1), .val (.int p2), .val (.int p3), .val (.int wd), .val (.int pl), .val (.int ot), .val (.ref w_LEAST_SIGNIFICANT_FIRST), .val (.ref w_MOST_SIGNIFICANT_FIRST), .val (.int pl), .val (.int mm), .val (.int ot), .val (.int mo), .val (.int (1 : Int32)), .val (.int (1 : Int32)), .val (.int (1 : Int32)), .val (.int (1 : Int32)), .val (.int (1 : Int32))] [(.int (1 : Int32))])) _
    refine Go.st (fun _ k_ => XS.goto X6.here hx rfl (pc0 := 308) (pc' := 312) rfl (hb hby at_308) (by decide) (by decide) k_) ?_
    show Go p e below (T6.setTop (mkF m 312 #[.val (.int p1), .val (.int p2), .val (.int p3), .val (.int wd), .val (.int pl), .val (.int ot), .val (.ref w_LEAST_SIGNIFICANT_FIRST), .val (.ref w_MOST_SIGNIFICANT_FIRST), .val (.int pl), .val (.int mm), .val (.int ot), .val (.int mo), .val (.int (1 : Int32)), .val (.int (1 : Int32)), .val (.int (1 : Int32)), .val (.int (1 : Int32)), .val (.int (1 : Int32))] [(.int (1 : Int32))])) _
    refine Go.fin X6 (v := some (.int (1 : Int32))) (fun h_ => by rw [Bd.returns] at h_; cases h_) Bd.notSynchronized (fun _ hr => retN X6 hx (t := .boolean) Bd.returns (by simp) (hb hby at_312) hr) (fun U' hU hF => ⟨_, _, rfl, ?_, hF.1, hF.2.1, hF.2.2.mono (by decide) (by decide)⟩)
    exact ⟨(congrArg (fun z_ : Int32 => some (Value.int z_)) (show (1 : Int32) = (1 : Int32) from rfl)), N6⟩
  · refine Go.st (fun _ k_ => XS.icmpYes X6.here hx rfl (pc0 := 193) (pc' := 200) rfl (hb hby at_193) rfl (feq hc193).2 (by decide) (by decide) k_) ?_
    show Go p e below (T6.setTop (mkF m 200 #[.val (.int p1), .val (.int p2), .val (.int p3), .val (.int wd), .val (.int pl), .val (.int ot), .val (.ref w_LEAST_SIGNIFICANT_FIRST), .val (.ref w_MOST_SIGNIFICANT_FIRST), .val (.int pl), .val (.int mm), .val (.int ot), .val (.int mo), .val (.int (1 : Int32)), .val (.int (1 : Int32)), .val (.int (1 : Int32)), .unset, .unset] [])) _
    refine Go.st (fun _ k_ => XS.iconst X6.here hx rfl (hb hby at_200) k_) ?_
    show Go p e below (T6.setTop (mkF m 201 #[.val (.int p1), .val (.int p2), .val (.int p3), .val (.int wd), .val (.int pl), .val (.int ot), .val (.ref w_LEAST_SIGNIFICANT_FIRST), .val (.ref w_MOST_SIGNIFICANT_FIRST), .val (.int pl), .val (.int mm), .val (.int ot), .val (.int mo), .val (.int (1 : Int32)), .val (.int (1 : Int32)), .val (.int (1 : Int32)), .unset, .unset] [(.int (0 : Int32))])) _
    refine Go.st (fun _ k_ => XS.iload X6.here hx rfl (hb hby at_201) rfl k_) ?_
    show Go p e below (T6.setTop (mkF m 203 #[.val (.int p1), .val (.int p2), .val (.int p3), .val (.int wd), .val (.int pl), .val (.int ot), .val (.ref w_LEAST_SIGNIFICANT_FIRST), .val (.ref w_MOST_SIGNIFICANT_FIRST), .val (.int pl), .val (.int mm), .val (.int ot), .val (.int mo), .val (.int (1 : Int32)), .val (.int (1 : Int32)), .val (.int (1 : Int32)), .unset, .unset] [(.int pl), (.int (0 : Int32))])) _
    refine Go.st (fun _ k_ => XS.iload X6.here hx rfl (hb hby at_203) rfl k_) ?_
    show Go p e below (T6.setTop (mkF m 205 #[.val (.int p1), .val (.int p2), .val (.int p3), .val (.int wd), .val (.int pl), .val (.int ot), .val (.ref w_LEAST_SIGNIFICANT_FIRST), .val (.ref w_MOST_SIGNIFICANT_FIRST), .val (.int pl), .val (.int mm), .val (.int ot), .val (.int mo), .val (.int (1 : Int32)), .val (.int (1 : Int32)), .val (.int (1 : Int32)), .unset, .unset] [(.int ot), (.int pl), (.int (0 : Int32))])) _
    refine Go.st (fun _ k_ => XS.icmpYes X6.here hx rfl (pc0 := 205) (pc' := 212) rfl (hb hby at_205) rfl (feq hc193).2 (by decide) (by decide) k_) ?_
    show Go p e below (T6.setTop (mkF m 212 #[.val (.int p1), .val (.int p2), .val (.int p3), .val (.int wd), .val (.int pl), .val (.int ot), .val (.ref w_LEAST_SIGNIFICANT_FIRST), .val (.ref w_MOST_SIGNIFICANT_FIRST), .val (.int pl), .val (.int mm), .val (.int ot), .val (.int mo), .val (.int (1 : Int32)), .val (.int (1 : Int32)), .val (.int (1 : Int32)), .unset, .unset] [(.int (0 : Int32))])) _
    refine Go.st (fun _ k_ => XS.iconst X6.here hx rfl (hb hby at_212) k_) ?_
    show Go p e below (T6.setTop (mkF m 213 #[.val (.int p1), .val (.int p2), .val (.int p3), .val (.int wd), .val (.int pl), .val (.int ot), .val (.ref w_LEAST_SIGNIFICANT_FIRST), .val (.ref w_MOST_SIGNIFICANT_FIRST), .val (.int pl), .val (.int mm), .val (.int ot), .val (.int mo), .val (.int (1 : Int32)), .val (.int (1 : Int32)), .val (.int (1 : Int32)), .unset, .unset] [(.int (0 : Int32)), (.int (0 : Int32))])) _
    refine Go.st (fun _ k_ => XS.icmpNo X6.here hx rfl (hb hby at_213) rfl (teq (by decide : (0 : Int32) = (0 : Int32))).2 k_) ?_
    show Go p e below (T6.setTop (mkF m 216 #[.val (.int p1), .val (.int p2), .val (.int p3), .val (.int wd), .val (.int pl), .val (.int ot), .val (.ref w_LEAST_SIGNIFICANT_FIRST), .val (.ref w_MOST_SIGNIFICANT_FIRST), .val (.int pl), .val (.int mm), .val (.int ot), .val (.int mo), .val (.int (1 : Int32)), .val (.int (1 : Int32)), .val (.int (1 : Int32)), .unset, .unset] [])) _
    refine Go.st (fun _ k_ => XS.iload X6.here hx rfl (hb hby at_216) rfl k_) ?_
    show Go p e below (T6.setTop (mkF m 218 #[.val (.int p1), .val (.int p2), .val (.int p3), .val (.int wd), .val (.int pl), .val (.int ot), .val (.ref w_LEAST_SIGNIFICANT_FIRST), .val (.ref w_MOST_SIGNIFICANT_FIRST), .val (.int pl), .val (.int mm), .val (.int ot), .val (.int mo), .val (.int (1 : Int32)), .val (.int (1 : Int32)), .val (.int (1 : Int32)), .unset, .unset] [(.int pl)])) _
    refine Go.st (fun _ k_ => XS.iload X6.here hx rfl (hb hby at_218) rfl k_) ?_
    show Go p e below (T6.setTop (mkF m 220 #[.val (.int p1), .val (.int p2), .val (.int p3), .val (.int wd), .val (.int pl), .val (.int ot), .val (.ref w_LEAST_SIGNIFICANT_FIRST), .val (.ref w_MOST_SIGNIFICANT_FIRST), .val (.int pl), .val (.int mm), .val (.int ot), .val (.int mo), .val (.int (1 : Int32)), .val (.int (1 : Int32)), .val (.int (1 : Int32)), .unset, .unset] [(.int ot), (.int pl)])) _
    refine Go.st (fun _ k_ => XS.icmpYes X6.here hx rfl (pc0 := 220) (pc' := 227) rfl (hb hby at_220) rfl (feq hc193).2 (by decide) (by decide) k_) ?_
    show Go p e below (T6.setTop (mkF m 227 #[.val (.int p1), .val (.int p2), .val (.int p3), .val (.int wd), .val (.int pl), .val (.int ot), .val (.ref w_LEAST_SIGNIFICANT_FIRST), .val (.ref w_MOST_SIGNIFICANT_FIRST), .val (.int pl), .val (.int mm), .val (.int ot), .val (.int mo), .val (.int (1 : Int32)), .val (.int (1 : Int32)), .val (.int (1 : Int32)), .unset, .unset] [])) _
    refine Go.st (fun _ k_ => XS.iconst X6.here hx rfl (hb hby at_227) k_) ?_
    show Go p e below (T6.setTop (mkF m 228 #[.val (.int p1), .val (.int p2), .val (.int p3), .val (.int wd), .val (.int pl), .val (.int ot), .val (.ref w_LEAST_SIGNIFICANT_FIRST), .val (.ref w_MOST_SIGNIFICANT_FIRST), .val (.int pl), .val (.int mm), .val (.int ot), .val (.int mo), .val (.int (1 : Int32)), .val (.int (1 : Int32)), .val (.int (1 : Int32)), .unset, .unset] [(.int (0 : Int32))])) _
    refine Go.st (fun _ k_ => XS.iload X6.here hx rfl (hb hby at_228) rfl k_) ?_
    show Go p e below (T6.setTop (mkF m 230 #[.val (.int p1), .val (.int p2), .val (.int p3), .val (.int wd), .val (.int pl), .val (.int ot), .val (.ref w_LEAST_SIGNIFICANT_FIRST), .val (.ref w_MOST_SIGNIFICANT_FIRST), .val (.int pl), .val (.int mm), .val (.int ot), .val (.int mo), .val (.int (1 : Int32)), .val (.int (1 : Int32)), .val (.int (1 : Int32)), .unset, .unset] [(.int mm), (.int (0 : Int32))])) _
    refine Go.st (fun _ k_ => XS.iload X6.here hx rfl (hb hby at_230) rfl k_) ?_
    show Go p e below (T6.setTop (mkF m 232 #[.val (.int p1), .val (.int p2), .val (.int p3), .val (.int wd), .val (.int pl), .val (.int ot), .val (.ref w_LEAST_SIGNIFICANT_FIRST), .val (.ref w_MOST_SIGNIFICANT_FIRST), .val (.int pl), .val (.int mm), .val (.int ot), .val (.int mo), .val (.int (1 : Int32)), .val (.int (1 : Int32)), .val (.int (1 : Int32)), .unset, .unset] [(.int mo), (.int mm), (.int (0 : Int32))])) _
    have hc232 : ¬ (mm = mo) := fun q_ => hc193 (Int32.toInt_inj.mp (by have q_' := congrArg Int32.toInt q_; omega))
    refine Go.st (fun _ k_ => XS.icmpYes X6.here hx rfl (pc0 := 232) (pc' := 239) rfl (hb hby at_232) rfl (feq hc232).2 (by decide) (by decide) k_) ?_
    show Go p e below (T6.setTop (mkF m 239 #[.val (.int p1), .val (.int p2), .val (.int p3), .val (.int wd), .val (.int pl), .val (.int ot), .val (.ref w_LEAST_SIGNIFICANT_FIRST), .val (.ref w_MOST_SIGNIFICANT_FIRST), .val (.int pl), .val (.int mm), .val (.int ot), .val (.int mo), .val (.int (1 : Int32)), .val (.int (1 : Int32)), .val (.int (1 : Int32)), .unset, .unset] [(.int (0 : Int32))])) _
    refine Go.st (fun _ k_ => XS.iconst X6.here hx rfl (hb hby at_239) k_) ?_
    show Go p e below (T6.setTop (mkF m 240 #[.val (.int p1), .val (.int p2), .val (.int p3), .val (.int wd), .val (.int pl), .val (.int ot), .val (.ref w_LEAST_SIGNIFICANT_FIRST), .val (.ref w_MOST_SIGNIFICANT_FIRST), .val (.int pl), .val (.int mm), .val (.int ot), .val (.int mo), .val (.int (1 : Int32)), .val (.int (1 : Int32)), .val (.int (1 : Int32)), .unset, .unset] [(.int (0 : Int32)), (.int (0 : Int32))])) _
    refine Go.st (fun _ k_ => XS.icmpNo X6.here hx rfl (hb hby at_240) rfl (teq (by decide : (0 : Int32) = (0 : Int32))).2 k_) ?_
    show Go p e below (T6.setTop (mkF m 243 #[.val (.int p1), .val (.int p2), .val (.int p3), .val (.int wd), .val (.int pl), .val (.int ot), .val (.ref w_LEAST_SIGNIFICANT_FIRST), .val (.ref w_MOST_SIGNIFICANT_FIRST), .val (.int pl), .val (.int mm), .val (.int ot), .val (.int mo), .val (.int (1 : Int32)), .val (.int (1 : Int32)), .val (.int (1 : Int32)), .unset, .unset] [])) _
    refine Go.st (fun _ k_ => XS.iconst X6.here hx rfl (hb hby at_243) k_) ?_
    show Go p e below (T6.setTop (mkF m 244 #[.val (.int p1), .val (.int p2), .val (.int p3), .val (.int wd), .val (.int pl), .val (.int ot), .val (.ref w_LEAST_SIGNIFICANT_FIRST), .val (.ref w_MOST_SIGNIFICANT_FIRST), .val (.int pl), .val (.int mm), .val (.int ot), .val (.int mo), .val (.int (1 : Int32)), .val (.int (1 : Int32)), .val (.int (1 : Int32)), .unset, .unset] [(.int (1 : Int32))])) _
    refine Go.st (fun _ k_ => XS.goto X6.here hx rfl (pc0 := 244) (pc' := 248) rfl (hb hby at_244) (by decide) (by decide) k_) ?_
    show Go p e below (T6.setTop (mkF m 248 #[.val (.int p1), .val (.int p2), .val (.int p3), .val (.int wd), .val (.int pl), .val (.int ot), .val (.ref w_LEAST_SIGNIFICANT_FIRST), .val (.ref w_MOST_SIGNIFICANT_FIRST), .val (.int pl), .val (.int mm), .val (.int ot), .val (.int mo), .val (.int (1 : Int32)), .val (.int (1 : Int32)), .val (.int (1 : Int32)), .unset, .unset] [(.int (1 : Int32))])) _
    refine Go.st (fun _ k_ => XS.istore X6.here hx rfl (hb hby at_248) rfl (l' := #[.val (.int p1), .val (.int p2), .val (.int p3), .val (.int wd), .val (.int pl), .val (.int ot), .val (.ref w_LEAST_SIGNIFICANT_FIRST), .val (.ref w_MOST_SIGNIFICANT_FIRST), .val (.int pl), .val (.int mm), .val (.int ot), .val (.int mo), .val (.int (1 : Int32)), .val (.int (1 : Int32)), .val (.int (1 : Int32)), .val (.int (1 : Int32)), .unset]) rfl k_) ?_
    show Go p e below (T6.setTop (mkF m 250 #[.val (.int p1), .val (.int p2), .val (.int p3), .val (.int wd), .val (.int pl), .val (.int ot), .val (.ref w_LEAST_SIGNIFICANT_FIRST), .val (.ref w_MOST_SIGNIFICANT_FIRST), .val (.int pl), .val (.int mm), .val (.int ot), .val (.int mo), .val (.int (1 : Int32)), .val (.int (1 : Int32)), .val (.int (1 : Int32)), .val (.int (1 : Int32)), .unset] [])) _
    refine Go.st (fun _ k_ => XS.iload X6.here hx rfl (hb hby at_250) rfl k_) ?_
    show Go p e below (T6.setTop (mkF m 252 #[.val (.int p1), .val (.int p2), .val (.int p3), .val (.int wd), .val (.int pl), .val (.int ot), .val (.ref w_LEAST_SIGNIFICANT_FIRST), .val (.ref w_MOST_SIGNIFICANT_FIRST), .val (.int pl), .val (.int mm), .val (.int ot), .val (.int mo), .val (.int (1 : Int32)), .val (.int (1 : Int32)), .val (.int (1 : Int32)), .val (.int (1 : Int32)), .unset] [(.int pl)])) _
    refine Go.st (fun _ k_ => XS.iload X6.here hx rfl (hb hby at_252) rfl k_) ?_
    show Go p e below (T6.setTop (mkF m 254 #[.val (.int p1), .val (.int p2), .val (.int p3), .val (.int wd), .val (.int pl), .val (.int ot), .val (.ref w_LEAST_SIGNIFICANT_FIRST), .val (.ref w_MOST_SIGNIFICANT_FIRST), .val (.int pl), .val (.int mm), .val (.int ot), .val (.int mo), .val (.int (1 : Int32)), .val (.int (1 : Int32)), .val (.int (1 : Int32)), .val (.int (1 : Int32)), .unset] [(.int ot), (.int pl)])) _
    by_cases hc254 : pl < ot
    · refine Go.st (fun _ k_ => XS.icmpNo X6.here hx rfl (hb hby at_254) rfl (tlt hc254).2.1 k_) ?_
      show Go p e below (T6.setTop (mkF m 257 #[.val (.int p1), .val (.int p2), .val (.int p3), .val (.int wd), .val (.int pl), .val (.int ot), .val (.ref w_LEAST_SIGNIFICANT_FIRST), .val (.ref w_MOST_SIGNIFICANT_FIRST), .val (.int pl), .val (.int mm), .val (.int ot), .val (.int mo), .val (.int (1 : Int32)), .val (.int (1 : Int32)), .val (.int (1 : Int32)), .val (.int (1 : Int32)), .unset] [])) _
      refine Go.st (fun _ k_ => XS.iload X6.here hx rfl (hb hby at_257) rfl k_) ?_
      show Go p e below (T6.setTop (mkF m 259 #[.val (.int p1), .val (.int p2), .val (.int p3), .val (.int wd), .val (.int pl), .val (.int ot), .val (.ref w_LEAST_SIGNIFICANT_FIRST), .val (.ref w_MOST_SIGNIFICANT_FIRST), .val (.int pl), .val (.int mm), .val (.int ot), .val (.int mo), .val (.int (1 : Int32)), .val (.int (1 : Int32)), .val (.int (1 : Int32)), .val (.int (1 : Int32)), .unset] [(.int pl)])) _
      refine Go.st (fun _ k_ => XS.iload X6.here hx rfl (hb hby at_259) rfl k_) ?_
      show Go p e below (T6.setTop (mkF m 261 #[.val (.int p1), .val (.int p2), .val (.int p3), .val (.int wd), .val (.int pl), .val (.int ot), .val (.ref w_LEAST_SIGNIFICANT_FIRST), .val (.ref w_MOST_SIGNIFICANT_FIRST), .val (.int pl), .val (.int mm), .val (.int ot), .val (.int mo), .val (.int (1 : Int32)), .val (.int (1 : Int32)), .val (.int (1 : Int32)), .val (.int (1 : Int32)), .unset] [(.int ot), (.int pl)])) _
      refine Go.st (fun _ k_ => XS.icmpNo X6.here hx rfl (hb hby at_261) rfl (tlt hc254).2.1 k_) ?_
      show Go p e below (T6.setTop (mkF m 264 #[.val (.int p1), .val (.int p2), .val (.int p3), .val (.int wd), .val (.int pl), .val (.int ot), .val (.ref w_LEAST_SIGNIFICANT_FIRST), .val (.ref w_MOST_SIGNIFICANT_FIRST), .val (.int pl), .val (.int mm), .val (.int ot), .val (.int mo), .val (.int (1 : Int32)), .val (.int (1 : Int32)), .val (.int (1 : Int32)), .val (.int (1 : Int32)), .unset] [])) _
      refine Go.st (fun _ k_ => XS.iload X6.here hx rfl (hb hby at_264) rfl k_) ?_
      show Go p e below (T6.setTop (mkF m 266 #[.val (.int p1), .val (.int p2), .val (.int p3), .val (.int wd), .val (.int pl), .val (.int ot), .val (.ref w_LEAST_SIGNIFICANT_FIRST), .val (.ref w_MOST_SIGNIFICANT_FIRST), .val (.int pl), .val (.int mm), .val (.int ot), .val (.int mo), .val (.int (1 : Int32)), .val (.int (1 : Int32)), .val (.int (1 : Int32)), .val (.int (1 : Int32)), .unset] [(.int mm)])) _
      refine Go.st (fun _ k_ => XS.iload X6.here hx rfl (hb hby at_266) rfl k_) ?_
      show Go p e below (T6.setTop (mkF m 268 #[.val (.int p1), .val (.int p2), .val (.int p3), .val (.int wd), .val (.int pl), .val (.int ot), .val (.ref w_LEAST_SIGNIFICANT_FIRST), .val (.ref w_MOST_SIGNIFICANT_FIRST), .val (.int pl), .val (.int mm), .val (.int ot), .val (.int mo), .val (.int (1 : Int32)), .val (.int (1 : Int32)), .val (.int (1 : Int32)), .val (.int (1 : Int32)), .unset] [(.int mo), (.int mm)])) _
      have hc268 : mo < mm := by have q_ := hc254; rw [Int32.lt_iff_toInt_lt] at q_ ⊢; omega
      refine Go.st (fun _ k_ => XS.icmpNo X6.here hx rfl (hb hby at_268) rfl (tlt hc268).2.2.2 k_) ?_
      show Go p e below (T6.setTop (mkF m 271 #[.val (.int p1), .val (.int p2), .val (.int p3), .val (.int wd), .val (.int pl), .val (.int ot), .val (.ref w_LEAST_SIGNIFICANT_FIRST), .val (.ref w_MOST_SIGNIFICANT_FIRST), .val (.int pl), .val (.int mm), .val (.int ot), .val (.int mo), .val (.int (1 : Int32)), .val (.int (1 : Int32)), .val (.int (1 : Int32)), .val (.int (1 : Int32)), .unset] [])) _
      refine Go.st (fun _ k_ => XS.iconst X6.here hx rfl (hb hby at_271) k_) ?_
      show Go p e below (T6.setTop (mkF m 272 #[.val (.int p1), .val (.int p2), .val (.int p3), .val (.int wd), .val (.int pl), .val (.int ot), .val (.ref w_LEAST_SIGNIFICANT_FIRST), .val (.ref w_MOST_SIGNIFICANT_FIRST), .val (.int pl), .val (.int mm), .val (.int ot), .val (.int mo), .val (.int (1 : Int32)), .val (.int (1 : Int32)), .val (.int (1 : Int32)), .val (.int (1 : Int32)), .unset] [(.int (1 : Int32))])) _
      refine Go.st (fun _ k_ => XS.goto X6.here hx rfl (pc0 := 272) (pc' := 280) rfl (hb hby at_272) (by decide) (by decide) k_) ?_
      show Go p e below (T6.setTop (mkF m 280 #[.val (.int p1), .val (.int p2), .val (.int p3), .val (.int wd), .val (.int pl), .val (.int ot), .val (.ref w_LEAST_SIGNIFICANT_FIRST), .val (.ref w_MOST_SIGNIFICANT_FIRST), .val (.int pl), .val (.int mm), .val (.int ot), .val (.int mo), .val (.int (1 : Int32)), .val (.int (1 : Int32)), .val (.int (1 : Int32)), .val (.int (1 : Int32)), .unset] [(.int (1 : Int32))])) _
      refine Go.st (fun _ k_ => XS.istore X6.here hx rfl (hb hby at_280) rfl (l' := #[.val (.int p1), .val (.int p2), .val (.int p3), .val (.int wd), .val (.int pl), .val (.int ot), .val (.ref w_LEAST_SIGNIFICANT_FIRST), .val (.ref w_MOST_SIGNIFICANT_FIRST), .val (.int pl), .val (.int mm), .val (.int ot), .val (.int mo), .val (.int (1 : Int32)), .val (.int (1 : Int32)), .val (.int (1 : Int32)), .val (.int (1 : Int32)), .val (.int (1 : Int32))]) rfl k_) ?_
      show Go p e below (T6.setTop (mkF m 282 #[.val (.int p1), .val (.int p2), .val (.int p3), .val (.int wd), .val (.int pl), .val (.int ot), .val (.ref w_LEAST_SIGNIFICANT_FIRST), .val (.ref w_MOST_SIGNIFICANT_FIRST), .val (.int pl), .val (.int mm), .val (.int ot), .val (.int mo), .val (.int (1 : Int32)), .val (.int (1 : Int32)), .val (.int (1 : Int32)), .val (.int (1 : Int32)), .val (.int (1 : Int32))] [])) _
      refine Go.st (fun _ k_ => XS.iload X6.here hx rfl (hb hby at_282) rfl k_) ?_
      show Go p e below (T6.setTop (mkF m 284 #[.val (.int p1), .val (.int p2), .val (.int p3), .val (.int wd), .val (.int pl), .val (.int ot), .val (.ref w_LEAST_SIGNIFICANT_FIRST), .val (.ref w_MOST_SIGNIFICANT_FIRST), .val (.int pl), .val (.int mm), .val (.int ot), .val (.int mo), .val (.int (1 : Int32)), .val (.int (1 : Int32)), .val (.int (1 : Int32)), .val (.int (1 : Int32)), .val (.int (1 : Int32))] [(.int (1 : Int32))])) _
      refine Go.st (fun _ k_ => XS.ifNo X6.here hx rfl (hb hby at_284) rfl ((if0 _ _).trans (feq (by decide : ¬ ((1 : Int32) = (0 : Int32)))).1) k_) ?_
      show Go p e below (T6.setTop (mkF m 287 #[.val (.int p1), .val (.int p2), .val (.int p3), .val (.int wd), .val (.int pl), .val (.int ot), .val (.ref w_LEAST_SIGNIFICANT_FIRST), .val (.ref w_MOST_SIGNIFICANT_FIRST), .val (.int pl), .val (.int mm), .val (.int ot), .val (.int mo), .val (.int (1 : Int32)), .val (.int (1 : Int32)), .val (.int (1 : Int32)), .val (.int (1 : Int32)), .val (.int (1 : Int32))] [])) _
      refine Go.st (fun _ k_ => XS.iload X6.here hx rfl (hb hby at_287) rfl k_) ?_
      show Go p e below (T6.setTop (mkF m 289 #[.val (.int p1), .val (.int p2), .val (.int p3), .val (.int wd), .val (.int pl), .val (.int ot), .val (.ref w_LEAST_SIGNIFICANT_FIRST), .val (.ref w_MOST_SIGNIFICANT_FIRST), .val (.int pl), .val (.int mm), .val (.int ot), .val (.int mo), .val (.int (1 : Int32)), .val (.int (1 : Int32)), .val (.int (1 : Int32)), .val (.int (1 : Int32)), .val (.int (1 : Int32))] [(.int (1 : Int32))])) _
      refine Go.st (fun _ k_ => XS.ifNo X6.here hx rfl (hb hby at_289) rfl ((if0 _ _).trans (feq (by decide : ¬ ((1 : Int32) = (0 : Int32)))).1) k_) ?_
      show Go p e below (T6.setTop (mkF m 292 #[.val (.int p1), .val (.int p2), .val (.int p3), .val (.int wd), .val (.int pl), .val (.int ot), .val (.ref w_LEAST_SIGNIFICANT_FIRST), .val (.ref w_MOST_SIGNIFICANT_FIRST), .val (.int pl), .val (.int mm), .val (.int ot), .val (.int mo), .val (.int (1 : Int32)), .val (.int (1 : Int32)), .val (.int (1 : Int32)), .val (.int (1 : Int32)), .val (.int (1 : Int32))] [])) _
      refine Go.st (fun _ k_ => XS.iload X6.here hx rfl (hb hby at_292) rfl k_) ?_
      show Go p e below (T6.setTop (mkF m 294 #[.val (.int p1), .val (.int p2), .val (.int p3), .val (.int wd), .val (.int pl), .val (.int ot), .val (.ref w_LEAST_SIGNIFICANT_FIRST), .val (.ref w_MOST_SIGNIFICANT_FIRST), .val (.int pl), .val (.int mm), .val (.int ot), .val (.int mo), .val (.int (1 : Int32)), .val (.int (1 : Int32)), .val (.int (1 : Int32)), .val (.int (1 : Int32)), .val (.int (1 : Int32))] [(.int (1 : Int32))])) _
      refine Go.st (fun _ k_ => XS.ifNo X6.here hx rfl (hb hby at_294) rfl ((if0 _ _).trans (feq (by decide : ¬ ((1 : Int32) = (0 : Int32)))).1) k_) ?_
      show Go p e below (T6.setTop (mkF m 297 #[.val (.int p1), .val (.int p2), .val (.int p3), .val (.int wd), .val (.int pl), .val (.int ot), .val (.ref w_LEAST_SIGNIFICANT_FIRST), .val (.ref w_MOST_SIGNIFICANT_FIRST), .val (.int pl), .val (.int mm), .val (.int ot), .val (.int mo), .val (.int (1 : Int32)), .val (.int (1 : Int32)), .val (.int (1 : Int32)), .val (.int (1 : Int32)), .val (.int (1 : Int32))] [])) _
      refine Go.st (fun _ k_ => XS.iload X6.here hx rfl (hb hby at_297) rfl k_) ?_
      show Go p e below (T6.setTop (mkF m 299 #[.val (.int p1), .val (.int p2), .val (.int p3), .val (.int wd), .val (.int pl), .val (.int ot), .val (.ref w_LEAST_SIGNIFICANT_FIRST), .val (.ref w_MOST_SIGNIFICANT_FIRST), .val (.int pl), .val (.int mm), .val (.int ot), .val (.int mo), .val (.int (1 : Int32)), .val (.int (1 : Int32)), .val (.int (1 : Int32)), .val (.int (1 : Int32)), .val (.int (1 : Int32))] [(.int (1 : Int32))])) _
      refine Go.st (fun _ k_ => XS.ifNo X6.here hx rfl (hb hby at_299) rfl ((if0 _ _).trans (feq (by decide : ¬ ((1 : Int32) = (0 : Int32)))).1) k_) ?_
      show Go p e below (T6.setTop (mkF m 302 #[.val (.int p1), .val (.int p2), .val (.int p3), .val (.int wd), .val (.int pl), .val (.int ot), .val (.ref w_LEAST_SIGNIFICANT_FIRST), .val (.ref w_MOST_SIGNIFICANT_FIRST), .val (.int pl), .val (.int mm), .val (.int ot), .val (.int mo), .val (.int (1 : Int32)), .val (.int (1 : Int32)), .val (.int (1 : Int32)), .val (.int (1 : Int32)), .val (.int (1 : Int32))] [])) _
      refine Go.st (fun _ k_ => XS.iload X6.here hx rfl (hb hby at_302) rfl k_) ?_
      show Go p e below (T6.setTop (mkF m 304 #[.val (.int p1), .val (.int p2), .val (.int p3), .val (.int wd), .val (.int pl), .val (.int ot), .val (.ref w_LEAST_SIGNIFICANT_FIRST), .val (.ref w_MOST_SIGNIFICANT_FIRST), .val (.int pl), .val (.int mm), .val (.int ot), .val (.int mo), .val (.int (1 : Int32)), .val (.int (1 : Int32)), .val (.int (1 : Int32)), .val (.int (1 : Int32)), .val (.int (1 : Int32))] [(.int (1 : Int32))])) _
      refine Go.st (fun _ k_ => XS.ifNo X6.here hx rfl (hb hby at_304) rfl ((if0 _ _).trans (feq (by decide : ¬ ((1 : Int32) = (0 : Int32)))).1) k_) ?_
      show Go p e below (T6.setTop (mkF m 307 #[.val (.int p1), .val (.int p2), .val (.int p3), .val (.int wd), .val (.int pl), .val (.int ot), .val (.ref w_LEAST_SIGNIFICANT_FIRST), .val (.ref w_MOST_SIGNIFICANT_FIRST), .val (.int pl), .val (.int mm), .val (.int ot), .val (.int mo), .val (.int (1 : Int32)), .val (.int (1 : Int32)), .val (.int (1 : Int32)), .val (.int (1 : Int32)), .val (.int (1 : Int32))] [])) _
      refine Go.st (fun _ k_ => XS.iconst X6.here hx rfl (hb hby at_307) k_) ?_
      show Go p e below (T6.setTop (mkF m 308 #[.val (.int p1), .val (.int p2), .val (.int p3), .val (.int wd), .val (.int pl), .val (.int ot), .val (.ref w_LEAST_SIGNIFICANT_FIRST), .val (.ref w_MOST_SIGNIFICANT_FIRST), .val (.int pl), .val (.int mm), .val (.int ot), .val (.int mo), .val (.int (1 : Int32)), .val (.int (1 : Int32)), .val (.int (1 : Int32)), .val (.int (1 : Int32)), .val (.int (1 : Int32))] [(.int (1 : Int32))])) _
      refine Go.st (fun _ k_ => XS.goto X6.here hx rfl (pc0 := 308) (pc' := 312) rfl (hb hby at_308) (by decide) (by decide) k_) ?_
      show Go p e below (T6.setTop (mkF m 312 #[.val (.int p1), .val (.int p2), .val (.int p3), .val (.int wd), .val (.int pl), .val (.int ot), .val (.ref w_LEAST_SIGNIFICANT_FIRST), .val (.ref w_MOST_SIGNIFICANT_FIRST), .val (.int pl), .val (.int mm), .val (.int ot), .val (.int mo), .val (.int (1 : Int32)), .val (.int (1 : Int32)), .val (.int (1 : Int32)), .val (.int (1 : Int32)), .val (.int (1 : Int32))] [(.int (1 : Int32))])) _
      refine Go.fin X6 (v := some (.int (1 : Int32))) (fun h_ => by rw [Bd.returns] at h_; cases h_) Bd.notSynchronized (fun _ hr => retN X6 hx (t := .boolean) Bd.returns (by simp) (hb hby at_312) hr) (fun U' hU hF => ⟨_, _, rfl, ?_, hF.1, hF.2.1, hF.2.2.mono (by decide) (by decide)⟩)
      exact ⟨(congrArg (fun z_ : Int32 => some (Value.int z_)) (show (1 : Int32) = (1 : Int32) from rfl)), N6⟩
    · refine Go.st (fun _ k_ => XS.icmpYes X6.here hx rfl (pc0 := 254) (pc' := 279) rfl (hb hby at_254) rfl (flt hc254).2.1 (by decide) (by decide) k_) ?_
      show Go p e below (T6.setTop (mkF m 279 #[.val (.int p1), .val (.int p2), .val (.int p3), .val (.int wd), .val (.int pl), .val (.int ot), .val (.ref w_LEAST_SIGNIFICANT_FIRST), .val (.ref w_MOST_SIGNIFICANT_FIRST), .val (.int pl), .val (.int mm), .val (.int ot), .val (.int mo), .val (.int (1 : Int32)), .val (.int (1 : Int32)), .val (.int (1 : Int32)), .val (.int (1 : Int32)), .unset] [])) _
      refine Go.st (fun _ k_ => XS.iconst X6.here hx rfl (hb hby at_279) k_) ?_
      show Go p e below (T6.setTop (mkF m 280 #[.val (.int p1), .val (.int p2), .val (.int p3), .val (.int wd), .val (.int pl), .val (.int ot), .val (.ref w_LEAST_SIGNIFICANT_FIRST), .val (.ref w_MOST_SIGNIFICANT_FIRST), .val (.int pl), .val (.int mm), .val (.int ot), .val (.int mo), .val (.int (1 : Int32)), .val (.int (1 : Int32)), .val (.int (1 : Int32)), .val (.int (1 : Int32)), .unset] [(.int (1 : Int32))])) _
      refine Go.st (fun _ k_ => XS.istore X6.here hx rfl (hb hby at_280) rfl (l' := #[.val (.int p1), .val (.int p2), .val (.int p3), .val (.int wd), .val (.int pl), .val (.int ot), .val (.ref w_LEAST_SIGNIFICANT_FIRST), .val (.ref w_MOST_SIGNIFICANT_FIRST), .val (.int pl), .val (.int mm), .val (.int ot), .val (.int mo), .val (.int (1 : Int32)), .val (.int (1 : Int32)), .val (.int (1 : Int32)), .val (.int (1 : Int32)), .val (.int (1 : Int32))]) rfl k_) ?_
      show Go p e below (T6.setTop (mkF m 282 #[.val (.int p1), .val (.int p2), .val (.int p3), .val (.int wd), .val (.int pl), .val (.int ot), .val (.ref w_LEAST_SIGNIFICANT_FIRST), .val (.ref w_MOST_SIGNIFICANT_FIRST), .val (.int pl), .val (.int mm), .val (.int ot), .val (.int mo), .val (.int (1 : Int32)), .val (.int (1 : Int32)), .val (.int (1 : Int32)), .val (.int (1 : Int32)), .val (.int (1 : Int32))] [])) _
      refine Go.st (fun _ k_ => XS.iload X6.here hx rfl (hb hby at_282) rfl k_) ?_
      show Go p e below (T6.setTop (mkF m 284 #[.val (.int p1), .val (.int p2), .val (.int p3), .val (.int wd), .val (.int pl), .val (.int ot), .val (.ref w_LEAST_SIGNIFICANT_FIRST), .val (.ref w_MOST_SIGNIFICANT_FIRST), .val (.int pl), .val (.int mm), .val (.int ot), .val (.int mo), .val (.int (1 : Int32)), .val (.int (1 : Int32)), .val (.int (1 : Int32)), .val (.int (1 : Int32)), .val (.int (1 : Int32))] [(.int (1 : Int32))])) _
      refine Go.st (fun _ k_ => XS.ifNo X6.here hx rfl (hb hby at_284) rfl ((if0 _ _).trans (feq (by decide : ¬ ((1 : Int32) = (0 : Int32)))).1) k_) ?_
      show Go p e below (T6.setTop (mkF m 287 #[.val (.int p1), .val (.int p2), .val (.int p3), .val (.int wd), .val (.int pl), .val (.int ot), .val (.ref w_LEAST_SIGNIFICANT_FIRST), .val (.ref w_MOST_SIGNIFICANT_FIRST), .val (.int pl), .val (.int mm), .val (.int ot), .val (.int mo), .val (.int (1 : Int32)), .val (.int (1 : Int32)), .val (.int (1 : Int32)), .val (.int (1 : Int32)), .val (.int (1 : Int32))] [])) _
      refine Go.st (fun _ k_ => XS.iload X6.here hx rfl (hb hby at_287) rfl k_) ?_
      show Go p e below (T6.setTop (mkF m 289 #[.val (.int p1), .val (.int p2), .val (.int p3), .val (.int wd), .val (.int pl), .val (.int ot), .val (.ref w_LEAST_SIGNIFICANT_FIRST), .val (.ref w_MOST_SIGNIFICANT_FIRST), .val (.int pl), .val (.int mm), .val (.int ot), .val (.int mo), .val (.int (1 : Int32)), .val (.int (1 : Int32)), .val (.int (1 : Int32)), .val (.int (1 : Int32)), .val (.int (1 : Int32))] [(.int (1 : Int32))])) _
      refine Go.st (fun _ k_ => XS.ifNo X6.here hx rfl (hb hby at_289) rfl ((if0 _ _).trans (feq (by decide : ¬ ((1 : Int32) = (0 : Int32)))).1) k_) ?_
      show Go p e below (T6.setTop (mkF m 292 #[.val (.int p1), .val (.int p2), .val (.int p3), .val (.int wd), .val (.int pl), .val (.int ot), .val (.ref w_LEAST_SIGNIFICANT_FIRST), .val (.ref w_MOST_SIGNIFICANT_FIRST), .val (.int pl), .val (.int mm), .val (.int ot), .val (.int mo), .val (.int (1 : Int32)), .val (.int (1 : Int32)), .val (.int (1 : Int32)), .val (.int (1 : Int32)), .val (.int (1 : Int32))] [])) _
      refine Go.st (fun _ k_ => XS.iload X6.here hx rfl (hb hby at_292) rfl k_) ?_
      show Go p e below (T6.setTop (mkF m 294 #[.val (.int p1), .val (.int p2), .val (.int p3), .val (.int wd), .val (.int pl), .val (.int ot), .val (.ref w_LEAST_SIGNIFICANT_FIRST), .val (.ref w_MOST_SIGNIFICANT_FIRST), .val (.int pl), .val (.int mm), .val (.int ot), .val (.int mo), .val (.int (1 : Int32)), .val (.int (1 : Int32)), .val (.int (1 : Int32)), .val (.int (1 : Int32)), .val (.int (1 : Int32))] [(.int (1 : Int32))])) _
      refine Go.st (fun _ k_ => XS.ifNo X6.here hx rfl (hb hby at_294) rfl ((if0 _ _).trans (feq (by decide : ¬ ((1 : Int32) = (0 : Int32)))).1) k_) ?_
      show Go p e below (T6.setTop (mkF m 297 #[.val (.int p1), .val (.int p2), .val (.int p3), .val (.int wd), .val (.int pl), .val (.int ot), .val (.ref w_LEAST_SIGNIFICANT_FIRST), .val (.ref w_MOST_SIGNIFICANT_FIRST), .val (.int pl), .val (.int mm), .val (.int ot), .val (.int mo), .val (.int (1 : Int32)), .val (.int (1 : Int32)), .val (.int (1 : Int32)), .val (.int (1 : Int32)), .val (.int (1 : Int32))] [])) _
      refine Go.st (fun _ k_ => XS.iload X6.here hx rfl (hb hby at_297) rfl k_) ?_
      show Go p e below (T6.setTop (mkF m 299 #[.val (.int p1), .val (.int p2), .val (.int p3), .val (.int wd), .val (.int pl), .val (.int ot), .val (.ref w_LEAST_SIGNIFICANT_FIRST), .val (.ref w_MOST_SIGNIFICANT_FIRST), .val (.int pl), .val (.int mm), .val (.int ot), .val (.int mo), .val (.int (1 : Int32)), .val (.int (1 : Int32)), .val (.int (1 : Int32)), .val (.int (1 : Int32)), .val (.int (1 : Int32))] [(.int (1 : Int32))])) _
      refine Go.st (fun _ k_ => XS.ifNo X6.here hx rfl (hb hby at_299) rfl ((if0 _ _).trans (feq (by decide : ¬ ((1 : Int32) = (0 : Int32)))).1) k_) ?_
      show Go p e below (T6.setTop (mkF m 302 #[.val (.int p1), .val (.int p2), .val (.int p3), .val (.int wd), .val (.int pl), .val (.int ot), .val (.ref w_LEAST_SIGNIFICANT_FIRST), .val (.ref w_MOST_SIGNIFICANT_FIRST), .val (.int pl), .val (.int mm), .val (.int ot), .val (.int mo), .val (.int (1 : Int32)), .val (.int (1 : Int32)), .val (.int (1 : Int32)), .val (.int (1 : Int32)), .val (.int (1 : Int32))] [])) _
      refine Go.st (fun _ k_ => XS.iload X6.here hx rfl (hb hby at_302) rfl k_) ?_
      show Go p e below (T6.setTop (mkF m 304 #[.val (.int p1), .val (.int p2), .val (.int p3), .val (.int wd), .val (.int pl), .val (.int ot), .val (.ref w_LEAST_SIGNIFICANT_FIRST), .val (.ref w_MOST_SIGNIFICANT_FIRST), .val (.int pl), .val (.int mm), .val (.int ot), .val (.int mo), .val (.int (1 : Int32)), .val (.int (1 : Int32)), .val (.int (1 : Int32)), .val (.int (1 : Int32)), .val (.int (1 : Int32))] [(.int (1 : Int32))])) _
      refine Go.st (fun _ k_ => XS.ifNo X6.here hx rfl (hb hby at_304) rfl ((if0 _ _).trans (feq (by decide : ¬ ((1 : Int32) = (0 : Int32)))).1) k_) ?_
      show Go p e below (T6.setTop (mkF m 307 #[.val (.int p1), .val (.int p2), .val (.int p3), .val (.int wd), .val (.int pl), .val (.int ot), .val (.ref w_LEAST_SIGNIFICANT_FIRST), .val (.ref w_MOST_SIGNIFICANT_FIRST), .val (.int pl), .val (.int mm), .val (.int ot), .val (.int mo), .val (.int (1 : Int32)), .val (.int (1 : Int32)), .val (.int (1 : Int32)), .val (.int (1 : Int32)), .val (.int (1 : Int32))] [])) _
      refine Go.st (fun _ k_ => XS.iconst X6.here hx rfl (hb hby at_307) k_) ?_
      show Go p e below (T6.setTop (mkF m 308 #[.val (.int p1), .val (.int p2), .val (.int p3), .val (.int wd), .val (.int pl), .val (.int ot), .val (.ref w_LEAST_SIGNIFICANT_FIRST), .val (.ref w_MOST_SIGNIFICANT_FIRST), .val (.int pl), .val (.int mm), .val (.int ot), .val (.int mo), .val (.int (1 : Int32)), .val (.int (1 : Int32)), .val (.int (1 : Int32)), .val (.int (1 : Int32)), .val (.int (1 : Int32))] [(.int (1 : Int32))])) _
      refine Go.st (fun _ k_ => XS.goto X6.here hx rfl (pc0 := 308) (pc' := 312) rfl (hb hby at_308) (by decide) (by decide) k_) ?_
      show Go p e below (T6.setTop (mkF m 312 #[.val (.int p1), .val (.int p2), .val (.int p3), .val (.int wd), .val (.int pl), .val (.int ot), .val (.ref w_LEAST_SIGNIFICANT_FIRST), .val (.ref w_MOST_SIGNIFICANT_FIRST), .val (.int pl), .val (.int mm), .val (.int ot), .val (.int mo), .val (.int (1 : Int32)), .val (.int (1 : Int32)), .val (.int (1 : Int32)), .val (.int (1 : Int32)), .val (.int (1 : Int32))] [(.int (1 : Int32))])) _
      refine Go.fin X6 (v := some (.int (1 : Int32))) (fun h_ => by rw [Bd.returns] at h_; cases h_) Bd.notSynchronized (fun _ hr => retN X6 hx (t := .boolean) Bd.returns (by simp) (hb hby at_312) hr) (fun U' hU hF => ⟨_, _, rfl, ?_, hF.1, hF.2.1, hF.2.2.mono (by decide) (by decide)⟩)
      exact ⟨(congrArg (fun z_ : Int32 => some (Value.int z_)) (show (1 : Int32) = (1 : Int32) from rfl)), N6⟩
set_option maxRecDepth 65536 in
set_option maxHeartbeats 40000000 in
theorem comes_1 {Post : Tables → Env → Array Value → State → Outcome → State → Prop} (hpost : ∀ tb e args s v u, (limb_1_1.after args s (.returned v) u = true ∧ limb_1_2.after args s (.returned v) u = true ∧ True) → FrameEnd s (.returned v) u (Jvm.fieldLocs frame_1_writes args s ++ Jvm.arrayLocs frame_1_arrays args s ++ Jvm.staticLocs frame_1_statics s) 0 0 → Post tb e args s (.returned v) u) :
    ArmFor flags0 classFile x code maxLocals ret World_1 tables_1 room_1 Calls_1 rest_1 Pre_1 Post := by
  intro l hfl _ _ p e ha hc hk s m args below hf hA hF happ hP
  obtain ⟨hcalls, hrest, hpre⟩ := hP
  obtain ⟨-, -, -, hnamed, -, -, -, hat⟩ := (Spec.applies_iff hf).mp happ
  obtain ⟨hg, hn⟩ := and_e (Cond.before_iff.mp (show (Jvm.Cond.and given_1 narrow_1).before args s = true from hpre))
  obtain ⟨g1, g2⟩ := and_e hg
  obtain ⟨g3, g4⟩ := and_e g2
  obtain ⟨g5, g6⟩ := and_e g4
  obtain ⟨g7, g8⟩ := and_e hn
  obtain ⟨g9, g10⟩ := and_e g8
  obtain ⟨g11, g12⟩ := and_e g10
  obtain ⟨w0, w1, w2, rfl⟩ : ∃ w0 w1 w2 : Value, args = #[w0, w1, w2] := by
    have hs : args.size = 3 := by simpa [Cond.value, given_1] using g1
    obtain ⟨L⟩ := args
    match L, hs with
    | [w0, w1, w2], _ => exact ⟨w0, w1, w2, rfl⟩
  have hw := fun d (hd : d ∈ tables_1) => atoms_spec (ws := Jvm.Cond.code x code maxLocals ret :: tables_1) hat d (List.mem_cons_of_mem _ hd)
  have hfit : Fit s := fun {y c} hc i hi => by
    obtain ⟨ha, rfl⟩ := Array.getElem?_eq_some_iff.mp hc
    have q := List.all_eq_true.mp ((Array.all_eq_true_iff_forall_mem.mp hF) _ (Array.getElem_mem ha)) i (List.mem_range.mpr hi)
    simpa [Array.getElem?_eq_getElem hi] using q
  obtain ⟨i0, ei0⟩ := is_v g3
  obtain rfl : w0 = (.int i0) := Option.some.inj ei0
  obtain ⟨i1, ei1⟩ := is_v g5
  obtain rfl : w1 = (.int i1) := Option.some.inj ei1
  obtain ⟨i2, ei2⟩ := is_v g6
  obtain rfl : w2 = (.int i2) := Option.some.inj ei2
  obtain ⟨w_LEAST_SIGNIFICANT_FIRST, ew_LEAST_SIGNIFICANT_FIRST⟩ := exa_v g7
  have E_w_LEAST_SIGNIFICANT_FIRST := Exa.start ew_LEAST_SIGNIFICANT_FIRST g7
  have S_LEAST_SIGNIFICANT_FIRST := Sta.start ew_LEAST_SIGNIFICANT_FIRST (Or.inr ⟨(hw _ (List.mem_of_getElem? (i := 2) rfl)), (hw _ (List.mem_of_getElem? (i := 3) rfl))⟩)
  obtain ⟨w_MOST_SIGNIFICANT_FIRST, ew_MOST_SIGNIFICANT_FIRST⟩ := exa_v g9
  have E_w_MOST_SIGNIFICANT_FIRST := Exa.start ew_MOST_SIGNIFICANT_FIRST g9
  have S_MOST_SIGNIFICANT_FIRST := Sta.start ew_MOST_SIGNIFICANT_FIRST (Or.inr ⟨(hw _ (List.mem_of_getElem? (i := 2) rfl)), (hw _ (List.mem_of_getElem? (i := 5) rfl))⟩)
  have o_ordinal_LEAST_SIGNIFICANT_FIRST := own_ord ew_LEAST_SIGNIFICANT_FIRST g11
  have o_ordinal_MOST_SIGNIFICANT_FIRST := own_ord ew_MOST_SIGNIFICANT_FIRST g12
  obtain ⟨n, o, h1, h2, h3, _, L, rfl, ⟨rfl, N⟩, hq⟩ := rm0 l s _ hw tables_1 i0 i1 i2 w_LEAST_SIGNIFICANT_FIRST w_MOST_SIGNIFICANT_FIRST s.heap s.heap.size (Nat.le_refl _) S_LEAST_SIGNIFICANT_FIRST S_MOST_SIGNIFICANT_FIRST E_w_LEAST_SIGNIFICANT_FIRST E_w_MOST_SIGNIFICANT_FIRST (Fld.start o_ordinal_LEAST_SIGNIFICANT_FIRST) (Fld.start o_ordinal_MOST_SIGNIFICANT_FIRST) p e ha hc hk s m _ below hf ((Spec.applies_iff_loose hf).mp happ).1 ⟨rfl, State.Warmed39.refl s, rfl⟩ trivial
  refine ⟨n, _, h1, h2, h3, hpost _ _ _ _ _ _ ⟨Cond.after_iff.mpr rfl, Cond.after_iff.mpr (eq_i res_at (Term.int_eval (1)) rfl), trivial⟩ ⟨hq.1, hq.2.1, (hq.2.2.sift fun y hy => Or.inr (N y hy)).mono (by decide) (by decide)⟩⟩
theorem main_1_1 : Claimed_1_1 := comes_1 fun _ _ _ _ _ _ h hF => ⟨h.1, hF⟩
theorem main_1_2 : Claimed_1_2 := comes_1 fun _ _ _ _ _ _ h hF => ⟨h.2.1, hF⟩
end Jvm.Pilot.@@N@@
namespace Jvm.Pilot.@@N@@
open Jvm Jvm.ClassFile Sem Op Lib Jvm.Free Jvm.Stand Jvm.Pilot.@@N@@.Jvm.D
/-! MADE BY PROGRAM (witnessworld.py) out of the Statement's table words and the real class files: 12 classes; the members and pool entries that the words name. The judged class is class 1, her method 1. -/
namespace start1
open Jvm.ClassFile
def u (s : String) : CpInfo := .utf8 (stringToUtf16 s)
/-- a pool by its gaps: so many unusable entries, then the entry; so many at the end -/
def gap : Nat → List CpInfo → List CpInfo
  | 0, r => r
  | n + 1, r => .unusable :: gap n r
def poolList (es : List (Nat × CpInfo)) (last : Nat) : List CpInfo := es.foldr (fun e r => gap e.1 (e.2 :: r)) (gap last [])
def pool (es : List (Nat × CpInfo)) (last : Nat) : Array CpInfo := ⟨poolList es last⟩
def fileOf (pool : Array CpInfo) (this : Nat) (attrs : Array Attribute := #[]) (ms : Array MethodInfo := #[]) (fl : Nat := 33) (sup : Nat := 0) (ifs : Array Nat := #[]) (fds : Array FieldInfo := #[]) : ClassFile where
  minorVersion := 0
  majorVersion := 65
  constantPool := pool
  accessFlags := fl
  thisClass := this
  superClass := sup
  interfaces := ifs
  fields := fds
  methods := ms
  attributes := attrs
def plain (name : String) (sup : Option ClassId) : Class where
  name := name
  kind := .ordinary
  loader := none
  accessFlags := 33
  super := sup
  interfaces := #[]
  cf := none
  fields := #[]
  methods := #[]
  instanceTypes := #[]
  staticTypes := #[]
  resolved := #[]
  callSites := []
  init := .initialized
  statics := none
  mirror := none

def pool0 : Array CpInfo := pool [(5, u "<init>"), (0, u "()V"), (1, .class_ 10), (1, u "java/lang/Object")] 113

def k0m0 : Method := { name := "<init>", desc := "()V", sig := { parameters := [], returnType := none }, accessFlags := 1, code := none }
/-- java/lang/Object -/
def k0 : Class := { plain "java/lang/Object" none with
  accessFlags := 33
  interfaces := #[]
  cf := some (fileOf pool0 8 #[] #[{ accessFlags := 1, nameIndex := 5, descriptorIndex := 6, attributes := #[] }] 33 0 #[] #[])
  fields := #[]
  methods := #[k0m0]
  instanceTypes := #[]
  staticTypes := #[]
  resolved := Array.replicate 124 none
  statics := none }

def pool1 : Array CpInfo := pool [(2, .class_ 4), (1, u "java/lang/Object"), (0, u "<init>"), (0, u "()V"), (0, .integer 2147483647), (0, .fieldref 9 10), (0, .class_ 11), (0, .nameAndType 12 13), (0, u "com/example/inkwire/inkwire/codec/DigitCodec$Order"), (0, u "LEAST_SIGNIFICANT_FIRST"), (0, u "Lcom/example/inkwire/inkwire/codec/DigitCodec$Order;"), (0, .fieldref 9 15), (0, .nameAndType 16 13), (0, u "MOST_SIGNIFICANT_FIRST"), (0, .methodref 9 18), (0, .nameAndType 19 20), (0, u "position"), (0, u "(II)I"), (0, .class_ 22), (0, u "com/example/inkwire/inkwire/codec/OrderPositionPinLaw"), (2, u "law"), (0, u "(III)Z")] 7

def k1m0 : Method := { name := "<init>", desc := "()V", sig := { parameters := [], returnType := none }, accessFlags := 1, code := none }
def k1c1 : Code := { maxStack := 6, maxLocals := 17, code := code, exceptionTable := #[], attributes := #[] }
def k1m1 : Method := { name := "law", desc := "(III)Z", sig := { parameters := [.int, .int, .int], returnType := some .boolean }, accessFlags := 9, code := some k1c1 }
/-- com/example/inkwire/inkwire/codec/OrderPositionPinLaw -/
def k1 : Class := { plain "com/example/inkwire/inkwire/codec/OrderPositionPinLaw" (some 0) with
  accessFlags := 49
  interfaces := #[]
  cf := some (fileOf pool1 21 #[] #[{ accessFlags := 1, nameIndex := 5, descriptorIndex := 6, attributes := #[] }, { accessFlags := 9, nameIndex := 25, descriptorIndex := 26, attributes := #[] }] 49 2 #[] #[])
  fields := #[]
  methods := #[k1m0, k1m1]
  instanceTypes := #[]
  staticTypes := #[]
  resolved := Array.replicate 34 none
  statics := none }

def pool2 : Array CpInfo := pool [(1, .class_ 2), (0, u "java/lang/constant/Constable"), (0, .class_ 4), (0, u "java/lang/Object")] 6

/-- java/lang/constant/Constable -/
def k2 : Class := { plain "java/lang/constant/Constable" (some 0) with
  accessFlags := 1537
  interfaces := #[]
  cf := some (fileOf pool2 1 #[] #[] 1537 3 #[] #[])
  fields := #[]
  methods := #[]
  instanceTypes := #[]
  staticTypes := #[]
  resolved := Array.replicate 11 none
  statics := none }

def pool3 : Array CpInfo := pool [(1, .class_ 2), (0, u "java/lang/Comparable"), (0, .class_ 4), (0, u "java/lang/Object")] 7

/-- java/lang/Comparable -/
def k3 : Class := { plain "java/lang/Comparable" (some 0) with
  accessFlags := 1537
  interfaces := #[]
  cf := some (fileOf pool3 1 #[] #[] 1537 3 #[] #[])
  fields := #[]
  methods := #[]
  instanceTypes := #[]
  staticTypes := #[]
  resolved := Array.replicate 12 none
  statics := none }

def pool4 : Array CpInfo := pool [(1, .class_ 2), (0, u "java/io/Serializable"), (0, .class_ 4), (0, u "java/lang/Object")] 2

/-- java/io/Serializable -/
def k4 : Class := { plain "java/io/Serializable" (some 0) with
  accessFlags := 1537
  interfaces := #[]
  cf := some (fileOf pool4 1 #[] #[] 1537 3 #[] #[])
  fields := #[]
  methods := #[]
  instanceTypes := #[]
  staticTypes := #[]
  resolved := Array.replicate 7 none
  statics := none }

def pool5 : Array CpInfo := pool [(2, .class_ 4), (1, u "java/lang/Enum"), (0, u "name"), (0, u "Ljava/lang/String;"), (0, .fieldref 2 8), (0, .nameAndType 9 10), (0, u "ordinal"), (0, u "I"), (1, .class_ 14), (1, u "java/lang/Object"), (4, u "hash"), (86, .class_ 108), (1, u "java/lang/Enum$EnumDesc"), (2, .class_ 112), (0, u "java/lang/constant/Constable"), (0, .class_ 114), (0, u "java/lang/Comparable"), (0, .class_ 116), (0, u "java/io/Serializable"), (9, u "()I")] 77

def k5c0 : Code := { maxStack := 1, maxLocals := 1, code := jdk_37_method_2_code, exceptionTable := #[], attributes := #[] }
def k5m0 : Method := { name := "ordinal", desc := "()I", sig := { parameters := [], returnType := some .int }, accessFlags := 17, code := some k5c0 }
/-- java/lang/Enum -/
def k5 : Class := { plain "java/lang/Enum" (some 0) with
  accessFlags := 1057
  interfaces := #[2, 3, 4]
  cf := some (fileOf pool5 2 #[.nestMembers #[106]] #[{ accessFlags := 17, nameIndex := 9, descriptorIndex := 126, attributes := #[] }] 1057 12 #[111, 113, 115] #[{ accessFlags := 18, nameIndex := 5, descriptorIndex := 6, attributes := #[] }, { accessFlags := 18, nameIndex := 9, descriptorIndex := 10, attributes := #[] }, { accessFlags := 2, nameIndex := 19, descriptorIndex := 10, attributes := #[] }])
  fields := #[{ name := "name", type := (.object "java/lang/String"), accessFlags := 18, slot := 0, constantValue := 0 }, { name := "ordinal", type := .int, accessFlags := 18, slot := 1, constantValue := 0 }, { name := "hash", type := .int, accessFlags := 2, slot := 2, constantValue := 0 }]
  methods := #[k5m0]
  instanceTypes := #[(.object "java/lang/String"), .int, .int]
  staticTypes := #[]
  resolved := Array.replicate 204 none
  statics := none }

def pool6 : Array CpInfo := pool [(1, .class_ 2), (0, u "com/example/inkwire/inkwire/codec/DigitCodec$Order"), (2, u "LEAST_SIGNIFICANT_FIRST"), (0, u "Lcom/example/inkwire/inkwire/codec/DigitCodec$Order;"), (2, u "MOST_SIGNIFICANT_FIRST"), (2, u "$VALUES"), (0, u "[Lcom/example/inkwire/inkwire/codec/DigitCodec$Order;"), (6, .class_ 22), (1, u "java/lang/Enum"), (6, .methodref 1 30), (0, .nameAndType 31 32), (0, u "ordinal"), (0, u "()I"), (19, u "position"), (0, u "(II)I"), (6, .class_ 61), (0, u "com/example/inkwire/inkwire/codec/DigitCodec")] 2

def k6c0 : Code := { maxStack := 4, maxLocals := 3, code := prog_7_method_4_code, exceptionTable := #[], attributes := #[] }
def k6m0 : Method := { name := "position", desc := "(II)I", sig := { parameters := [.int, .int], returnType := some .int }, accessFlags := 0, code := some k6c0 }
/-- com/example/inkwire/inkwire/codec/DigitCodec$Order -/
def k6 : Class := { plain "com/example/inkwire/inkwire/codec/DigitCodec$Order" (some 5) with
  accessFlags := 16433
  interfaces := #[]
  cf := some (fileOf pool6 1 #[.nestHost 60] #[{ accessFlags := 0, nameIndex := 52, descriptorIndex := 53, attributes := #[] }] 16433 20 #[] #[{ accessFlags := 16409, nameIndex := 5, descriptorIndex := 6, attributes := #[] }, { accessFlags := 16409, nameIndex := 9, descriptorIndex := 6, attributes := #[] }, { accessFlags := 4122, nameIndex := 12, descriptorIndex := 13, attributes := #[] }])
  fields := #[{ name := "LEAST_SIGNIFICANT_FIRST", type := (.object "com/example/inkwire/inkwire/codec/DigitCodec$Order"), accessFlags := 16409, slot := 0, constantValue := 0 }, { name := "MOST_SIGNIFICANT_FIRST", type := (.object "com/example/inkwire/inkwire/codec/DigitCodec$Order"), accessFlags := 16409, slot := 1, constantValue := 0 }, { name := "$VALUES", type := (.array (.object "com/example/inkwire/inkwire/codec/DigitCodec$Order")), accessFlags := 4122, slot := 2, constantValue := 0 }]
  methods := #[k6m0]
  instanceTypes := #[(.object "java/lang/String"), .int, .int]
  staticTypes := #[(.object "com/example/inkwire/inkwire/codec/DigitCodec$Order"), (.object "com/example/inkwire/inkwire/codec/DigitCodec$Order"), (.array (.object "com/example/inkwire/inkwire/codec/DigitCodec$Order"))]
  resolved := Array.replicate 64 none
  statics := some 0 }

def pool7 : Array CpInfo := pool [(1, u "java/lang/Cloneable"), (0, .class_ 1), (0, u "java/lang/Object"), (0, .class_ 3)] 3

/-- java/lang/Cloneable -/
def k7 : Class := { plain "java/lang/Cloneable" (some 0) with
  accessFlags := 1537
  interfaces := #[]
  cf := some (fileOf pool7 2 #[] #[] 1537 4 #[] #[])
  fields := #[]
  methods := #[]
  instanceTypes := #[]
  staticTypes := #[]
  resolved := Array.replicate 8 none
  statics := none }

/-- the primitive byte -/
def k8 : Class := { plain "byte" none with kind := .primitive 'B', accessFlags := 0x411 }
/-- [B -/
def k9 : Class := { plain "[B" (some 0) with kind := .array 8 .byte, interfaces := #[7, 4], accessFlags := 1041 }

/-- the primitive int -/
def k10 : Class := { plain "int" none with kind := .primitive 'I', accessFlags := 0x411 }
/-- [I -/
def k11 : Class := { plain "[I" (some 0) with kind := .array 10 .int, interfaces := #[7, 4], accessFlags := 1041 }

def heap : Heap := #[{ cls := 6, slots := #[.ref 1, .ref 2, .null], vm := .statics 6 },
  { cls := 6, slots := #[.null, .int 0, .int 0], vm := .none },
  { cls := 6, slots := #[.null, .int 1, .int 0], vm := .none }]
def classes : Array Class := #[k0, k1, k2, k3, k4, k5, k6, k7, k8, k9, k10, k11]
def interned : List (Array UInt16 × Addr) := []
def slotsUsed : Nat := 9
def theMethod : MethodId := ⟨1, 1⟩
def args0 : Array Value := #[.int 5, .int 7, .int 3]
def aboutOver (below : List Frame) : State where
  vm := { classes := classes, interned := interned.toArray }
  heap := heap
  slotsUsed := slotsUsed
  threads := #[{ frames := .invoking theMethod args0 :: below }]
def below0 : List Frame := [.native { method := ⟨0, 0⟩, args := #[] }]
def about1 : State := aboutOver below0
def p0 : Program := .bare "" "" ""
def e0 : Env := launch0.env 0 0 0
theorem w_frames : about1.frames = Frame.invoking theMethod args0 :: below0 := rfl
set_option maxRecDepth 65536 in
theorem w_args : argsFit about1.vm theMethod args0 = true := by decide +kernel
set_option maxRecDepth 65536 in
theorem w_heap : heapFits about1 = true := by decide +kernel
set_option maxRecDepth 65536 in
theorem w_runnable : about1.curStatus? = some .runnable := by decide +kernel
set_option maxRecDepth 65536 in
theorem w_alone : about1.alone = true := by decide +kernel
set_option maxRecDepth 65536 in
theorem w_named : about1.methodNamed? x = some theMethod := by decide +kernel
set_option maxRecDepth 65536 in
theorem w_hears : about1.hears theMethod below0 = true := by decide +kernel
set_option maxRecDepth 65536 in
theorem w_ripe : about1.ripe theMethod args0 below0 = true := by decide +kernel
theorem w_running : about1.status = .running := rfl
set_option maxRecDepth 65536 in
theorem w_room : about1.hasRoom e0.platform room_1 = true :=
  launch0.hasRoom_least _ room_1 (by decide +kernel) (by decide +kernel) (by decide +kernel) (by decide +kernel) (by decide +kernel) (by decide +kernel)
theorem allAtoms_all (ts : List Jvm.Cond) (a : Array Jvm.Value) (st : Jvm.State) : (allAtoms ts).before a st = ts.all (fun c => c.before a st) := by
  induction ts with
  | nil => rfl
  | cons c t ih =>
    show (Jvm.Cond.and c (allAtoms t)).before a st = _
    rw [Jvm.Cond.before_and, ih, List.all_cons]
def words1 : List Jvm.Cond := Jvm.Cond.code x code maxLocals ret :: tables_1
/-- a 'code' word, met by the world's own term for the bytes: nothing is compared byte by byte -/
theorem code_word {y : MethodName} {bytes : ByteArray} {mx : Nat} {rt : Option FieldType} {a : Array Value} {s : State} {m : MethodId} {meth : Method} {c : Code} (h1 : s.methodNamed? y = some m) (h2 : s.vm.method? m = some meth) (h3 : meth.code = some c) (h4 : c.code = bytes)
    (h5 : (c.maxLocals == mx && c.exceptionTable.isEmpty && decide (c.maxStack ≤ mostOperands) && decide (meth.sig.returnType = rt) && !meth.locks && decide (parseMethodDescriptor y.desc = some meth.sig)) = true) : (Jvm.Cond.code y bytes mx rt).before a s = true := by
  simp only [Bool.and_eq_true, beq_iff_eq, Bool.not_eq_true', decide_eq_true_eq] at h5
  obtain ⟨⟨⟨⟨⟨g1, g2⟩, g3⟩, g4⟩, g5⟩, g6⟩ := h5
  simp [Cond.before, Cond.holds, Cond.value, h1, h2, h3, h4, g1, g2, g3, g4, g5, g6]
def isCode : Jvm.Cond → Bool
  | .code _ _ _ _ => true
  | _ => false
theorem all_split {L : List Jvm.Cond} {P : Jvm.Cond → Bool} (h1 : L.all (fun c => isCode c || P c) = true) (h2 : ∀ c ∈ L.filter isCode, P c = true) : L.all P = true := by
  refine List.all_eq_true.mpr fun c hc => ?_
  have h := List.all_eq_true.mp h1 c hc
  rcases Bool.eq_false_or_eq_true (isCode c) with hi | hi
  · exact h2 c (List.mem_filter.mpr ⟨hc, hi⟩)
  · simpa [hi] using h
set_option maxRecDepth 65536 in
theorem w_c0 : (Jvm.Cond.code x code maxLocals ret).before args0 about1 = true := code_word (m := ⟨1, 1⟩) (meth := k1m1) (c := k1c1) (by decide +kernel) rfl rfl rfl (by decide +kernel)
set_option maxRecDepth 65536 in
theorem w_c1 : (Jvm.Cond.code ({ cls := "com/example/inkwire/inkwire/codec/DigitCodec$Order", name := "position", desc := "(II)I" } : Jvm.MethodName) prog_7_method_4_code (3 : Nat) (Option.some Jvm.ClassFile.FieldType.int)).before args0 about1 = true := code_word (m := ⟨6, 0⟩) (meth := k6m0) (c := k6c0) (by decide +kernel) rfl rfl rfl (by decide +kernel)
set_option maxRecDepth 65536 in
theorem w_c2 : (Jvm.Cond.code ({ cls := "java/lang/Enum", name := "ordinal", desc := "()I" } : Jvm.MethodName) jdk_37_method_2_code (1 : Nat) (Option.some Jvm.ClassFile.FieldType.int)).before args0 about1 = true := code_word (m := ⟨5, 0⟩) (meth := k5m0) (c := k5c0) (by decide +kernel) rfl rfl rfl (by decide +kernel)
def codes1 : List Jvm.Cond := [Jvm.Cond.code x code maxLocals ret, Jvm.Cond.code ({ cls := "com/example/inkwire/inkwire/codec/DigitCodec$Order", name := "position", desc := "(II)I" } : Jvm.MethodName) prog_7_method_4_code (3 : Nat) (Option.some Jvm.ClassFile.FieldType.int), Jvm.Cond.code ({ cls := "java/lang/Enum", name := "ordinal", desc := "()I" } : Jvm.MethodName) jdk_37_method_2_code (1 : Nat) (Option.some Jvm.ClassFile.FieldType.int)]
set_option maxRecDepth 65536 in
theorem codes_eq : words1.filter isCode = codes1 := rfl
theorem w_codes : ∀ c ∈ words1.filter isCode, c.before args0 about1 = true := by
  rw [codes_eq]
  intro c hc
  simp only [codes1, List.mem_cons, List.not_mem_nil, or_false] at hc
  rcases hc with rfl | rfl | rfl
  · exact w_c0
  · exact w_c1
  · exact w_c2
set_option maxRecDepth 65536 in
theorem w_t1 : words1.all (fun c => isCode c || c.before args0 about1) = true := by decide +kernel
theorem w_tables : (allAtoms (Jvm.Cond.code x code maxLocals ret :: tables_1)).before args0 about1 = true := by
  rw [allAtoms_all]
  show words1.all (fun c => c.before args0 about1) = true
  refine all_split ?_ w_codes
  rw [w_t1]
set_option maxRecDepth 65536 in
theorem w_case : (Jvm.Cond.and given_1 narrow_1).before args0 about1 = true := by decide +kernel
theorem w_applies : (headSpec (Jvm.Cond.code x code maxLocals ret :: tables_1) room_1).applies x e0.platform about1 = true :=
  (Spec.applies_iff w_frames).mpr ⟨w_running, w_runnable, w_alone, w_named, w_hears, w_ripe, w_room, w_tables⟩
theorem atStart : AtStart classFile x code maxLocals ret World_1 tables_1 room_1 Calls_1 rest_1 Pre_1 launch0 p0 e0 about1 theMethod args0 below0 :=
  ⟨lists_1, trivial, launch0.admits_env _ _ _, launch0.least_env, fairChoices_fair.cas, fairChoices_fair.clock, w_frames, w_args, w_heap, w_applies, trivial, trivial, w_case⟩
end start1
theorem witness_1 : WitnessClaimed_1 := ⟨start1.p0, start1.e0, start1.about1, start1.theMethod, start1.args0, start1.below0, start1.atStart⟩
end Jvm.Pilot.@@N@@
