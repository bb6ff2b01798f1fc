import JvmDerived
import JvmDerived.Pilot.@@N@@Statement
import JvmDerived.Pilot.@@N@@Code
set_option linter.unusedVariables false
set_option linter.unusedSimpArgs false
@@BLOCK:NumsL.lean.txt@@
namespace Jvm.RoadKit
open Sem ClassFile Op Lib Jvm.Stand Jvm.Free Jvm.LawKit
section Own
variable {p : Program} {l : Launch} {e : Env} {R : Room} {s : State} {m : MethodId} {args : Array Value} {below : List Frame} {meth : Method} {c : Code} {T : State} {locs : List Loc} {cells slots : Nat}
/-- from U the run ends, and P is said of the end -/
def Go (p : Program) (e : Env) (below : List Frame) (U : State) (P : Outcome → State → Prop) : Prop := ∃ s₂ o, Steps p.tables e below U s₂ ∧ s₂.status = .running ∧ Ended s₂ below o ∧ P o s₂
theorem Go.st {U U' : State} {P : Outcome → State → Prop} (k : ∀ t, Steps p.tables e below U' t → Steps p.tables e below U t) (g : Go p e below U' P) : Go p e below U P := by
  obtain ⟨t, o, a, r⟩ := g
  exact ⟨t, o, k t a, r⟩
theorem Go.tr {U U' : State} {P : Outcome → State → Prop} (k : Steps p.tables e below U U') (g : Go p e below U' P) : Go p e below U P := by
  obtain ⟨t, o, a, r⟩ := g
  exact ⟨t, o, k.trans a, r⟩
theorem Go.fin (X : Stand p l e R s m args below meth c T locs cells slots) {v : Option Value} (hv : meth.sig.returnType = none → v = none) (hlocks : meth.locks = false) {U : State} {P : Outcome → State → Prop}
    (st : ∀ fs, (∀ (f : JFrame) (acts : List Action), f.method = m → f.locked = none → f.entered = [] → (doReturn e (T.setTop f) acts v).1 = T.setFrames fs) → Steps p.tables e below U (T.setFrames fs))
    (hP : ∀ U' : State, U'.heap = T.heap → FrameEnd s (.returned v) U' locs cells slots → P (.returned v) U') : Go p e below U P := by
  obtain ⟨fs, hr, hrun, hended, hW, hsame⟩ := X.leave hv hlocks
  exact ⟨_, _, st fs hr, hrun, hended, hP _ rfl ⟨⟨_, rfl⟩, hW, hsame⟩⟩
theorem own_ord {a0 : Array Value} {t : Term} {a : Addr} {C n d : String} {k : Int32} (ev : t.eval a0 s none [] s = some (.ref a)) (h : (Cond.eq (.field t C n d) (.int k)).value a0 s none s [] = some true) : s.fieldOf? a C n d = some (.int k) := by
  have e1 := fld_at (C := C) (n := n) (dd := d) ev
  have e2 : (Term.int k).eval a0 s none [] s = some (.int k) := rfl
  cases hf : s.fieldOf? a C n d with
  | none => rw [hf] at e1; simp [Cond.value, e1] at h
  | some w =>
    rw [hf] at e1
    cases w <;> simp [Cond.value, e1, e2] at h
    rw [h]
theorem own_ne {a b : Addr} {C n d : String} {j k : Int32} (h1 : s.fieldOf? a C n d = some (.int j)) (h2 : s.fieldOf? b C n d = some (.int k)) (hne : j ≠ k) : a ≠ b := fun q => by
  subst q
  rw [h1] at h2
  exact hne (by injection (Option.some.inj h2))
theorem own_lsw {g : JFrame} {target : State} (X : Stand p l e R s m args below meth c T locs cells slots) (hx : p.tables.exec = Jvm.exec) (hg : g.method = m) {dflt : Int} {pairs : Array (Int × Int)} {len : Nat} {pc0 pc' : Nat} (hpc : g.pc = pc0)
    (hd : decode c.code g.pc = .ok (.lookupswitch dflt pairs, len)) {i : Int32} {rest : List Value} (hs : g.stack = .int i :: rest) {o : Int} (ho : lookupswitch.offset pairs.toList dflt i.toInt = o) (hso : ∀ (a b a_1 b_1 : Int), ((a, b), a_1, b_1) ∈ pairs.toList.zip pairs.toList.tail → a < a_1) (h0 : 0 ≤ (pc0 : Int) + o) (hp : ((pc0 : Int) + o).toNat = pc')
    (hr : Steps p.tables e below (T.setTop { g with pc := pc', stack := rest }) target) : Steps p.tables e below (T.setTop g) target := by
  subst hg hpc hp ho
  jvm_step X.here [X.here.top, hx, hd, hs, h0, lookupswitch.wp_chain]
  exact ⟨hso, hr⟩
theorem own_arvlt {Z : State} {h : Heap} {a : Addr} {k : ClassId} {ty : FieldType} {n : Int32} {vs : List Value} {d : Value} (V : Arv Z h a k ty n vs d) : a < h.size := by
  obtain ⟨c, A, -⟩ := V
  exact A.lt
end Own
end Jvm.RoadKit
namespace Jvm.Pilot.@@N@@
open Jvm Jvm.ClassFile Sem Op Lib Jvm.Free Jvm.Stand Jvm.LawKit Jvm.RoadKit Bundle Jvm.Pilot.@@N@@.Jvm.D

section ArfKit
variable {Z : State} {h h' : Heap} {a b : Addr} {k : ClassId} {ty : FieldType} {z : Int32} {f g : Nat → Value} {sl : Nat} {v w dv : Value} {ws : List Addr} {vs : List Value}
def Arf (Z : State) (h : Heap) (a : Addr) (k : ClassId) (ty : FieldType) (n : Int32) (f : Nat → Value) : Prop := ∃ c : Cell, Arr Z h a c ty ∧ c.cls = k ∧ c.slots.size = n.toNatClampNeg ∧ ¬ n < 0 ∧ (∀ i, i < c.slots.size → c.slots[i]? = some (f i)) ∧ ∀ i, i < c.slots.size → fits ty (f i) = true
def upd (f : Nat → Value) (i : Nat) (v : Value) : Nat → Value := fun j => if j = i then v else f j
theorem Arf.lt (F : Arf Z h a k ty z f) : a < h.size := by obtain ⟨c, A, -⟩ := F; exact A.lt
theorem Arf.ext (F : Arf Z h a k ty z f) (E : Ext h h') : Arf Z h' a k ty z f := by obtain ⟨c, A, r⟩ := F; exact ⟨c, A.ext E, r⟩
theorem Arf.other (F : Arf Z h b k ty z f) (W : Wr h h' a sl v) (q : b ≠ a) : Arf Z h' b k ty z f := by obtain ⟨c, A, r⟩ := F; exact ⟨c, A.other W q, r⟩
theorem Arf.keep (F : Arf Z h a k ty z f) (K : Keep h h' ws) (q : a ∉ ws) : Arf Z h' a k ty z f := by obtain ⟨c, A, r⟩ := F; exact ⟨c, ⟨K.2.1 a c A.1 q, A.2⟩, r⟩
theorem Arf.ofArv (F : Arv Z h a k ty z vs dv) (q : ∀ i, i < z.toNatClampNeg → vs.getD i dv = f i) : Arf Z h a k ty z f := by
  obtain ⟨c, A, q1, S, q3, H, G⟩ := F
  exact ⟨c, A, q1, S, q3, fun i hi => by rw [H i hi, q i (by rw [← S]; exact hi)], fun i hi => by rw [← q i (by rw [← S]; exact hi)]; exact G i hi⟩
theorem own_mapD (f : Nat → Value) (dv : Value) (n i : Nat) (hi : i < n) : ((List.range n).map f).getD i dv = f i := by
  simp [List.getD_eq_getElem?_getD, hi]
theorem Arf.arv (F : Arf Z h a k ty z f) (dv : Value) : Arv Z h a k ty z ((List.range z.toNatClampNeg).map f) dv := by
  obtain ⟨c, A, q1, S, q3, H, G⟩ := F
  exact ⟨c, A, q1, S, q3, fun i hi => by rw [H i hi, own_mapD f dv _ i (by rw [← S]; exact hi)], fun i hi => by rw [own_mapD f dv _ i (by rw [← S]; exact hi)]; exact G i hi⟩
theorem Arf.new (A : Arr Z h a (newA k ty z) ty) (q : ¬ z < 0) : Arf Z h a k ty z (fun _ => defaultValue ty) := Arf.ofArv (Arv.new A q) fun i _ => by simp [List.getD_eq_getElem?_getD]
theorem Arf.set {c : Cell} {j : Int32} (A : Arr Z h a c ty) (q1 : c.cls = k) (S : c.slots.size = z.toNatClampNeg) (q3 : ¬ z < 0) (H : ∀ i, i < c.slots.size → c.slots[i]? = some (f i)) (G : ∀ i, i < c.slots.size → fits ty (f i) = true) (hv : fits ty v = true) (W : Wr h h' a j.toNatClampNeg v) (i : Nat) (hj : j.toNatClampNeg = i) (hin : ¬ (j < 0 ∨ c.slots.size ≤ j.toNatClampNeg)) : Arf Z h' a k ty z (upd f i v) := by
  subst hj
  have hlt : j.toNatClampNeg < c.slots.size := Nat.lt_of_not_le fun q => hin (Or.inr q)
  refine ⟨_, A.same W, q1, by rw [sz_set]; exact S, q3, fun x hx => ?_, fun x hx => ?_⟩ <;> rw [sz_set] at hx <;> simp only [upd] <;> split
  · rename_i e
    subst e; simp [Cell.setSlot, hx]
  · rename_i e
    simp only [Cell.setSlot]; rw [Array.getElem?_setIfInBounds_ne (Ne.symm e)]; exact H x hx
  · exact hv
  · exact G x hx
theorem Arf.same (F : Arf Z h a k ty z f) (q : ∀ i, i < z.toNatClampNeg → f i = g i) : Arf Z h a k ty z g := by
  obtain ⟨c, A, q1, S, q3, H, G⟩ := F
  exact ⟨c, A, q1, S, q3, fun i hi => by rw [H i hi, q i (by rw [← S]; exact hi)], fun i hi => by rw [← q i (by rw [← S]; exact hi)]; exact G i hi⟩
/-- arraycopy's list, place by place -/
theorem own_cpD (f g : Nat → Value) (dv dd : Value) (n m sp dp nn : Nat) (h4 : sp + nn ≤ n) (h5 : dp + nn ≤ m) (i : Nat) (hi : i < m) :
    (((List.range m).map g).take dp ++ ((List.range nn).map fun i => ((List.range n).map f).getD (sp + i) dv) ++ ((List.range m).map g).drop (dp + nn)).getD i dd = if dp ≤ i ∧ i < dp + nn then f (sp + (i - dp)) else g i := by
  rw [List.getD_eq_getElem?_getD, List.append_assoc]
  have l1 : (((List.range m).map g).take dp).length = dp := by simp; omega
  have l2 : ((List.range nn).map fun i => ((List.range n).map f).getD (sp + i) dv).length = nn := by simp
  by_cases h1 : i < dp
  · have c : ¬ (dp ≤ i ∧ i < dp + nn) := by omega
    rw [if_neg c, List.getElem?_append_left (by rw [l1]; exact h1), List.getElem?_take]
    simp [h1, hi]
  · rw [List.getElem?_append_right (by rw [l1]; omega), l1]
    by_cases h2 : i < dp + nn
    · have c : dp ≤ i ∧ i < dp + nn := by omega
      rw [if_pos c, List.getElem?_append_left (by rw [l2]; omega)]
      have l : i - dp < nn := by omega
      have l2 : sp + (i - dp) < n := by omega
      simp [List.getD_eq_getElem?_getD, l, l2]
    · have c : ¬ (dp ≤ i ∧ i < dp + nn) := by omega
      rw [if_neg c, List.getElem?_append_right (by rw [l2]; omega), l2, List.getElem?_drop]
      have l : dp + nn + (i - dp - nn) = i := by omega
      rw [l]
      simp [hi]
theorem own_nb (x : Int32) : nar .byte (x.toInt8.toInt32) = x.toInt8.toInt32 := by
  show (x.toInt8.toInt32).toInt8.toInt32 = x.toInt8.toInt32
  simp
end ArfKit
section ArfSteps
variable {p : Program} {l : Launch} {e : Env} {R : Room} {s : State} {m : MethodId} {args : Array Value} {below : List Frame} {meth : Method} {c : Code} {T : State} {locs : List Loc} {cells slots : Nat} {Z : State} {h : Heap} {a b : Addr} {k : ClassId} {ty : FieldType} {z : Int32} {f g0 : Nat → Value}
/-- System.arraycopy of a primitive kind -/
theorem cpF (X : Stand p l e R s m args below meth c T locs cells slots) (hx : p.tables.exec = Jvm.exec) (hZ : Z.Warmed39 s.vm) {a0 : Array Value} {own : String} {index : Nat} (hown : s.vm.findClass own = some m.cls)
    (w1 : (Cond.methodLink own index Jvm.Stand.acN).before a0 Z = true) (w2 : (Cond.native Jvm.Stand.acN).before a0 Z = true) (w3 : (Cond.static Jvm.Stand.acN).before a0 Z = true) (w4 : (Cond.initialized "java/lang/System").before a0 Z = true) (eT : T.heap = h)
    {k' : ClassId} {z' sp dp nn : Int32} (A : Arf Z h a k ty z f) (B : Arf Z h b k' ty z' g0) (hty : refKind ty = false)
    (h1 : ¬ sp < 0) (h2 : ¬ dp < 0) (h3 : ¬ nn < 0) (h4 : sp.toNatClampNeg + nn.toNatClampNeg ≤ z.toNatClampNeg) (h5 : dp.toNatClampNeg + nn.toNatClampNeg ≤ z'.toNatClampNeg)
    {n0 : Nat} (N : Fr n0 locs) (ge : n0 ≤ b)
    {g : JFrame} (hg : g.method = m) (hsize : g.locals.size = c.maxLocals) {rest : List Value} (hs : g.stack = .int nn :: .int dp :: .ref b :: .int sp :: .ref a :: rest) (hd : decode c.code g.pc = .ok (.invokestatic index, 3))
    (hf : 1 ≤ R.frames) {W : Nat} (hW : 2 * g.monitorRoom + (rest.map fun v => v.category).sum ≤ W) (hlo : W + (nativeFrameWords "java/lang/System" "arraycopy" 5 + 11) ≤ R.locals) :
    ∃ T' h' L, Stand p l e R s m args below meth c T' L cells slots ∧ T'.heap = h' ∧ Fr n0 L ∧ Keep h h' [b] ∧ Arf Z h' b k' ty z' (fun i => if dp.toNatClampNeg ≤ i ∧ i < dp.toNatClampNeg + nn.toNatClampNeg then f (sp.toNatClampNeg + (i - dp.toNatClampNeg)) else g0 i) ∧
      ∀ target, Steps p.tables e below (T'.setTop { g with pc := g.pc + 3, stack := rest }) target → Steps p.tables e below (T.setTop g) target := by
  obtain ⟨T', h', L, X', e', N', K', V', st⟩ := cpA X hx hZ hown w1 w2 w3 w4 eT (A.arv .null) (B.arv .null) (Or.inl ⟨rfl, hty⟩) h1 h2 h3 h4 h5 rfl (by simp; omega) N ge hg hsize hs hd hf hW hlo
  exact ⟨T', h', L, X', e', N', K', Arf.ofArv V' fun i hi => own_cpD f g0 .null .null _ _ _ _ _ h4 h5 i hi, st⟩
end ArfSteps

section StxKit
variable {Z : State} {n0 : Nat} {h h' : Heap} {a : Addr} {C n d : String} {v w : Value} {sl : Nat} {ws : List Addr}
/-- a static whose cell is old -/
def Stx (Z : State) (n0 : Nat) (h : Heap) (C n d : String) (v : Value) : Prop := ∃ (cf i : Nat) (k : Class) (f : Field) (st : Addr) (cell : Cell), Z.fieldFound? C n d = some (cf, k, i, f) ∧ f.isStatic = true ∧ k.init = .initialized ∧ k.statics = some st ∧ h[st]? = some cell ∧ cell.vm.isStatics = true ∧ cell.slots[f.slot]? = some v ∧ st < n0
theorem Stx.sta (F : Stx Z n0 h C n d v) : Sta Z h C n d v := by
  obtain ⟨cf, i, k, f, st, cell, h1, h2, h3, h4, h5, h6, h7, -⟩ := F
  exact ⟨cf, i, k, f, st, cell, h1, h2, h3, h4, h5, h6, h7⟩
theorem Stx.start (F : Sta Z h C n d v) (q : h.size ≤ n0) : Stx Z n0 h C n d v := by
  obtain ⟨cf, i, k, f, st, cell, h1, h2, h3, h4, h5, h6, h7⟩ := F
  exact ⟨cf, i, k, f, st, cell, h1, h2, h3, h4, h5, h6, h7, Nat.lt_of_lt_of_le (Array.getElem?_eq_some_iff.mp h5).1 q⟩
theorem Stx.ext (F : Stx Z n0 h C n d v) (E : Ext h h') : Stx Z n0 h' C n d v := by
  obtain ⟨cf, i, k, f, st, cell, h1, h2, h3, h4, h5, r⟩ := F
  exact ⟨cf, i, k, f, st, cell, h1, h2, h3, h4, E.2 _ _ h5, r⟩
theorem Stx.wr (F : Stx Z n0 h C n d v) (W : Wr h h' a sl w) : Stx Z n0 h' C n d v := by
  obtain ⟨cf, i, k, f, st, cell, h1, h2, h3, h4, h5, h6, h7, h8⟩ := F
  obtain ⟨c', e1, -, -, -, e5, -, e7⟩ := wr_at W h5
  have ne : st ≠ a := fun e => by rw [(e7 e).2.2] at h6; cases h6
  exact ⟨cf, i, k, f, st, cell, h1, h2, h3, h4, by rw [← e5 ne]; exact e1, h6, h7, h8⟩
theorem Stx.keep (F : Stx Z n0 h C n d v) (K : Keep h h' ws) (q : ∀ x ∈ ws, n0 ≤ x) : Stx Z n0 h' C n d v := by
  obtain ⟨cf, i, k, f, st, cell, h1, h2, h3, h4, h5, h6, h7, h8⟩ := F
  exact ⟨cf, i, k, f, st, cell, h1, h2, h3, h4, K.2.1 _ _ h5 fun z => absurd h8 (Nat.not_lt.mpr (q _ z)), h6, h7, h8⟩
end StxKit
set_option maxRecDepth 65536
set_option maxHeartbeats 40000000
theorem own_efk (L : List Value) : ∀ acc : Array Slot, L.all (fun v => v.category == 1) = true → L.foldl (fun (acc : Array Slot) v => if v.category = 2 then (acc.push (.val v)).push .second else acc.push (.val v)) acc = acc ++ (L.map Slot.val).toArray := by
  induction L with
  | nil => intro acc _; simp
  | cons v L ih =>
    intro acc h
    simp only [List.all_cons, Bool.and_eq_true, beq_iff_eq] at h
    have q : ¬ v.category = 2 := by rw [h.1]; decide
    show L.foldl _ (if v.category = 2 then (acc.push (.val v)).push .second else acc.push (.val v)) = _
    rw [if_neg q, ih _ h.2]
    apply Array.ext'
    simp
theorem own_efd (A : Array Value) (n : Nat) : argsToLocals A n = (A.foldl (fun (acc : Array Slot) v => if v.category = 2 then (acc.push (.val v)).push .second else acc.push (.val v)) #[]) ++ Array.replicate (n - (A.foldl (fun (acc : Array Slot) v => if v.category = 2 then (acc.push (.val v)).push .second else acc.push (.val v)) #[]).size) .unset := rfl
theorem own_ef {A : Array Value} {n : Nat} {Ls : Array Slot} (hc : A.toList.all (fun v => v.category == 1) = true) (hL : Ls = ((A.toList.map Slot.val) ++ List.replicate (n - A.toList.length) Slot.unset).toArray) (m : MethodId) : entryFrame m A n = mkF m 0 Ls [] := by
  subst hL
  have e : A.foldl (fun (acc : Array Slot) v => if v.category = 2 then (acc.push (.val v)).push .second else acc.push (.val v)) #[] = (A.toList.map Slot.val).toArray := by
    rw [← Array.foldl_toList, own_efk _ _ hc]
    apply Array.ext'
    simp
  have e2 : argsToLocals A n = ((A.toList.map Slot.val) ++ List.replicate (n - A.toList.length) Slot.unset).toArray := by
    rw [own_efd, e]
    apply Array.ext'
    simp
  exact congrArg (fun L => ({ method := m, pc := 0, locals := L, stack := [], locked := none } : JFrame)) e2
def HW (Z : State) (a0 : Array Value) : Prop := ∀ d ∈ tables_1, d.before a0 Z = true
theorem W {Z : State} {a0 : Array Value} {d : Cond} (hw : ∀ d ∈ tables_1, d.before a0 Z = true) (i : Nat) (h : tables_1[i]? = some d) : d.before a0 Z = true := hw _ (List.mem_of_getElem? h)
abbrev Ct (l : Launch) (y : MethodName) (bytes : ByteArray) (maxL : Nat) (ret : Option FieldType) (rm : Room) (A : Array Value) (Z : State) (h0 : Heap) (Q : Option Value → Heap → List Loc → Prop) : Prop :=
  MetFree l y (head1 [Cond.code y bytes maxL ret] rm) (fun a U => a = A ∧ Z.Warmed39 U.vm ∧ U.heap = h0) (fun _ _ _ _ _ => True) (fun _ U o U' => ∃ v L, o = .returned v ∧ Q v U'.heap L ∧ FrameEnd U o U' L rm.cells rm.slots)
def PtN (s : State) (Q : Option Value → Heap → List Loc → Prop) (rm : Room) : Outcome → State → Prop := fun o U' => ∃ v L, o = .returned v ∧ Q v U'.heap L ∧ FrameEnd s o U' L rm.cells rm.slots
theorem Ct.of {l : Launch} {y : MethodName} {bytes : ByteArray} {maxL : Nat} {ret : Option FieldType} {rm : Room} {A : Array Value} {Z : State} {h0 : Heap} {Q : Option Value → Heap → List Loc → Prop} (own : String) (ho : y.cls = own) (pf : plainFor y = true) (Ls : Array Slot) (hec : A.toList.all (fun v => v.category == 1) = true) (heL : Ls = ((A.toList.map Slot.val) ++ List.replicate (maxL - A.toList.length) Slot.unset).toArray)
    (K : ∀ p e s m below meth c s₁, p.tables.exec = Jvm.exec → c.code = bytes → c.maxLocals = maxL → s.vm.findClass own = some m.cls → meth.name = y.name → meth.sig.returnType = ret → meth.locks = false → Z.Warmed39 s.vm → s.heap = h0 → Stand p l e rm s m A below meth c s₁ [] 0 0 → s₁.heap = h0 → Go p e below (s₁.setTop (mkF m 0 Ls [])) (PtN s Q rm)) : Ct l y bytes maxL ret rm A Z h0 Q := by
  subst ho
  refine MetFree.of_bodySF pf hisR ?_
  intro p e s m args below meth c s₁ Bd hml0 hP hK
  obtain ⟨rfl, hZ, hh⟩ := hP
  have q := K p e s m below meth c s₁ Bd.exec Bd.bytes hml0 (findClass_of_methodNamed Bd.named) (name_of_methodNamed Bd.named Bd.method).1 Bd.returns Bd.notSynchronized hZ hh (Stand.of_body Bd) (by rw [← hh, Bd.state]; rfl)
  rw [← own_ef hec heL m] at q
  exact q
abbrev CtH (l : Launch) (y : MethodName) (bytes : ByteArray) (maxL : Nat) (ret : Option FieldType) (rm : Room) (A : Array Value) (Z : State) (h0 : Heap) (EL : List (String × Nat)) (Q : Option Value → Heap → List Loc → Prop) : Prop :=
  MetFree l y (head1 [Cond.code y bytes maxL ret] rm) (fun a U => a = A ∧ Z.Warmed39 U.vm ∧ U.heap = h0 ∧ CHv Z EL U.vm h0) (fun _ _ _ _ _ => True) (fun _ U o U' => ∃ v L, o = .returned v ∧ Q v U'.heap L ∧ CHr Z EL U.vm U.heap U'.vm U'.heap ∧ ReturnedEndW U o U' L rm.cells rm.slots)
def PtH (Z : State) (EL : List (String × Nat)) (s : State) (Q : Option Value → Heap → List Loc → Prop) (rm : Room) : Outcome → State → Prop := fun o U' => ∃ v L, o = .returned v ∧ Q v U'.heap L ∧ CHr Z EL s.vm s.heap U'.vm U'.heap ∧ ReturnedEndW s o U' L rm.cells rm.slots
theorem CtH.of {l : Launch} {y : MethodName} {bytes : ByteArray} {maxL : Nat} {ret : Option FieldType} {rm : Room} {A : Array Value} {Z : State} {h0 : Heap} {EL : List (String × Nat)} {Q : Option Value → Heap → List Loc → Prop} (own : String) (ho : y.cls = own) (pf : plainFor y = true) (Ls : Array Slot) (hec : A.toList.all (fun v => v.category == 1) = true) (heL : Ls = ((A.toList.map Slot.val) ++ List.replicate (maxL - A.toList.length) Slot.unset).toArray)
    (K : ∀ p e s m below meth c s₁, p.tables.exec = Jvm.exec → c.code = bytes → c.maxLocals = maxL → s.vm.findClass own = some m.cls → meth.name = y.name → meth.sig.returnType = ret → meth.locks = false → Z.Warmed39 s.vm → s.heap = h0 → Stand p l e rm s m A below meth c s₁ [] 0 0 → s₁.heap = h0 → CHv Z EL s.vm h0 → Go p e below (s₁.setTop (mkF m 0 Ls [])) (PtH Z EL s Q rm)) : CtH l y bytes maxL ret rm A Z h0 EL Q := by
  subst ho
  refine MetFree.of_bodySF pf hisR ?_
  intro p e s m args below meth c s₁ Bd hml0 hP hK
  obtain ⟨rfl, hZ, hh, hCH⟩ := hP
  have q := K p e s m below meth c s₁ Bd.exec Bd.bytes hml0 (findClass_of_methodNamed Bd.named) (name_of_methodNamed Bd.named Bd.method).1 Bd.returns Bd.notSynchronized hZ hh (Stand.of_body Bd) (by rw [← hh, Bd.state]; rfl) hCH
  rw [← own_ef hec heL m] at q
  exact q
namespace Gk
section GkKit
variable {p : Program} {l : Launch} {e : Env} {R : Room} {s : State} {m : MethodId} {args : Array Value} {below : List Frame} {meth : Method} {c : Code} {T : State} {locs : List Loc} {cells slots : Nat} {Ls : Array Slot} {S : List Value} {pc : Nat} {P : Outcome → State → Prop} {Z : State} {a0 : Array Value} {h : Heap}
theorem iloadN (X : Stand p l e R s m args below meth c T locs cells slots) (hx : p.tables.exec = Jvm.exec) {k : Fin 4} {v : Int32} (hd : decode c.code pc = .ok (.iload_n k, 1)) (hl : Ls[k.val]? = some (.val (.int v))) (K : Go p e below (T.setTop (mkF m (pc + 1) Ls (.int v :: S))) P) : Go p e below (T.setTop (mkF m pc Ls S)) P := Go.st (fun _ q_ => XS.iloadN X.here hx rfl hd hl q_) K
theorem iload (X : Stand p l e R s m args below meth c T locs cells slots) (hx : p.tables.exec = Jvm.exec) {k : Nat} {v : Int32} (hd : decode c.code pc = .ok (.iload k, 2)) (hl : Ls[k]? = some (.val (.int v))) (K : Go p e below (T.setTop (mkF m (pc + 2) Ls (.int v :: S))) P) : Go p e below (T.setTop (mkF m pc Ls S)) P := Go.st (fun _ q_ => XS.iload X.here hx rfl hd hl q_) K
theorem istoreN (X : Stand p l e R s m args below meth c T locs cells slots) (hx : p.tables.exec = Jvm.exec) {k : Fin 4} {v : Int32} (hd : decode c.code pc = .ok (.istore_n k, 1)) (L' : Array Slot) (hl : storeLocals Ls k.val (.int v) = some L') (K : Go p e below (T.setTop (mkF m (pc + 1) L' S)) P) : Go p e below (T.setTop (mkF m pc Ls (.int v :: S))) P := Go.st (fun _ q_ => XS.istoreN X.here hx rfl hd rfl hl q_) K
theorem istore (X : Stand p l e R s m args below meth c T locs cells slots) (hx : p.tables.exec = Jvm.exec) {k : Nat} {v : Int32} (hd : decode c.code pc = .ok (.istore k, 2)) (L' : Array Slot) (hl : storeLocals Ls k (.int v) = some L') (K : Go p e below (T.setTop (mkF m (pc + 2) L' S)) P) : Go p e below (T.setTop (mkF m pc Ls (.int v :: S))) P := Go.st (fun _ q_ => XS.istore X.here hx rfl hd rfl hl q_) K
theorem aloadN (X : Stand p l e R s m args below meth c T locs cells slots) (hx : p.tables.exec = Jvm.exec) {k : Fin 4} {v : Value} (hd : decode c.code pc = .ok (.aload_n k, 1)) (hl : Ls[k.val]? = some (.val v)) (hv : v.isRef = true) (K : Go p e below (T.setTop (mkF m (pc + 1) Ls (v :: S))) P) : Go p e below (T.setTop (mkF m pc Ls S)) P := Go.st (fun _ q_ => XS.aloadN X.here hx rfl hd hl hv q_) K
theorem aload (X : Stand p l e R s m args below meth c T locs cells slots) (hx : p.tables.exec = Jvm.exec) {k : Nat} {v : Value} (hd : decode c.code pc = .ok (.aload k, 2)) (hl : Ls[k]? = some (.val v)) (hv : v.isRef = true) (K : Go p e below (T.setTop (mkF m (pc + 2) Ls (v :: S))) P) : Go p e below (T.setTop (mkF m pc Ls S)) P := Go.st (fun _ q_ => XS.aload X.here hx rfl hd hl hv q_) K
theorem astoreN (X : Stand p l e R s m args below meth c T locs cells slots) (hx : p.tables.exec = Jvm.exec) {k : Fin 4} {v : Value} (hd : decode c.code pc = .ok (.astore_n k, 1)) (hv : v.isRef = true) (L' : Array Slot) (hl : storeLocals Ls k.val v = some L') (K : Go p e below (T.setTop (mkF m (pc + 1) L' S)) P) : Go p e below (T.setTop (mkF m pc Ls (v :: S))) P := Go.st (fun _ q_ => XS.astoreN X.here hx rfl hd rfl hv hl q_) K
theorem astore (X : Stand p l e R s m args below meth c T locs cells slots) (hx : p.tables.exec = Jvm.exec) {k : Nat} {v : Value} (hd : decode c.code pc = .ok (.astore k, 2)) (hv : v.isRef = true) (L' : Array Slot) (hl : storeLocals Ls k v = some L') (K : Go p e below (T.setTop (mkF m (pc + 2) L' S)) P) : Go p e below (T.setTop (mkF m pc Ls (v :: S))) P := Go.st (fun _ q_ => XS.astore X.here hx rfl hd rfl hv hl q_) K
theorem iconst (X : Stand p l e R s m args below meth c T locs cells slots) (hx : p.tables.exec = Jvm.exec) {i : Int} (hd : decode c.code pc = .ok (.iconst i, 1)) (z : Int32) (hz : Int32.ofInt i = z) (K : Go p e below (T.setTop (mkF m (pc + 1) Ls (.int z :: S))) P) : Go p e below (T.setTop (mkF m pc Ls S)) P := Go.st (fun _ q_ => XS.iconst X.here hx rfl hd (by subst hz; exact q_)) K
theorem bipush (X : Stand p l e R s m args below meth c T locs cells slots) (hx : p.tables.exec = Jvm.exec) {i : Int} (hd : decode c.code pc = .ok (.bipush i, 2)) (z : Int32) (hz : (Int8.ofInt i).toInt32 = z) (K : Go p e below (T.setTop (mkF m (pc + 2) Ls (.int z :: S))) P) : Go p e below (T.setTop (mkF m pc Ls S)) P := Go.st (fun _ q_ => XS.bipush X.here hx rfl hd (by subst hz; exact q_)) K
theorem sipush (X : Stand p l e R s m args below meth c T locs cells slots) (hx : p.tables.exec = Jvm.exec) {i : Int} (hd : decode c.code pc = .ok (.sipush i, 3)) (z : Int32) (hz : (Int16.ofInt i).toInt32 = z) (K : Go p e below (T.setTop (mkF m (pc + 3) Ls (.int z :: S))) P) : Go p e below (T.setTop (mkF m pc Ls S)) P := Go.st (fun _ q_ => XS.sipush X.here hx rfl hd (by subst hz; exact q_)) K
theorem aconstNull (X : Stand p l e R s m args below meth c T locs cells slots) (hx : p.tables.exec = Jvm.exec)  (hd : decode c.code pc = .ok (.aconst_null, 1))  (K : Go p e below (T.setTop (mkF m (pc + 1) Ls (.null :: S))) P) : Go p e below (T.setTop (mkF m pc Ls S)) P := Go.st (fun _ q_ => XS.aconstNull X.here hx rfl hd q_) K
theorem iadd (X : Stand p l e R s m args below meth c T locs cells slots) (hx : p.tables.exec = Jvm.exec) {x y : Int32} (hd : decode c.code pc = .ok (.iadd, 1)) (z : Int32) (hz : x + y = z) (K : Go p e below (T.setTop (mkF m (pc + 1) Ls (.int z :: S))) P) : Go p e below (T.setTop (mkF m pc Ls (.int y :: .int x :: S))) P := Go.st (fun _ q_ => XS.iadd X.here hx rfl hd rfl (by subst hz; exact q_)) K
theorem isub (X : Stand p l e R s m args below meth c T locs cells slots) (hx : p.tables.exec = Jvm.exec) {x y : Int32} (hd : decode c.code pc = .ok (.isub, 1)) (z : Int32) (hz : x - y = z) (K : Go p e below (T.setTop (mkF m (pc + 1) Ls (.int z :: S))) P) : Go p e below (T.setTop (mkF m pc Ls (.int y :: .int x :: S))) P := Go.st (fun _ q_ => XS.isub X.here hx rfl hd rfl (by subst hz; exact q_)) K
theorem iand (X : Stand p l e R s m args below meth c T locs cells slots) (hx : p.tables.exec = Jvm.exec) {x y : Int32} (hd : decode c.code pc = .ok (.iand, 1)) (z : Int32) (hz : x &&& y = z) (K : Go p e below (T.setTop (mkF m (pc + 1) Ls (.int z :: S))) P) : Go p e below (T.setTop (mkF m pc Ls (.int y :: .int x :: S))) P := Go.st (fun _ q_ => XS.iand X.here hx rfl hd rfl (by subst hz; exact q_)) K
theorem ior (X : Stand p l e R s m args below meth c T locs cells slots) (hx : p.tables.exec = Jvm.exec) {x y : Int32} (hd : decode c.code pc = .ok (.ior, 1)) (z : Int32) (hz : x ||| y = z) (K : Go p e below (T.setTop (mkF m (pc + 1) Ls (.int z :: S))) P) : Go p e below (T.setTop (mkF m pc Ls (.int y :: .int x :: S))) P := Go.st (fun _ q_ => XS.ior X.here hx rfl hd rfl (by subst hz; exact q_)) K
theorem ishl (X : Stand p l e R s m args below meth c T locs cells slots) (hx : p.tables.exec = Jvm.exec) {x y : Int32} (hd : decode c.code pc = .ok (.ishl, 1)) (z : Int32) (hz : (x <<< (y &&& 31)) = z) (K : Go p e below (T.setTop (mkF m (pc + 1) Ls (.int z :: S))) P) : Go p e below (T.setTop (mkF m pc Ls (.int y :: .int x :: S))) P := Go.st (fun _ q_ => XS.ishl X.here hx rfl hd rfl (by subst hz; exact q_)) K
theorem ishr (X : Stand p l e R s m args below meth c T locs cells slots) (hx : p.tables.exec = Jvm.exec) {x y : Int32} (hd : decode c.code pc = .ok (.ishr, 1)) (z : Int32) (hz : (x >>> (y &&& 31)) = z) (K : Go p e below (T.setTop (mkF m (pc + 1) Ls (.int z :: S))) P) : Go p e below (T.setTop (mkF m pc Ls (.int y :: .int x :: S))) P := Go.st (fun _ q_ => XS.ishr X.here hx rfl hd rfl (by subst hz; exact q_)) K
theorem iushr (X : Stand p l e R s m args below meth c T locs cells slots) (hx : p.tables.exec = Jvm.exec) {x y : Int32} (hd : decode c.code pc = .ok (.iushr, 1)) (z : Int32) (hz : ((x.toUInt32 >>> (y &&& 31).toUInt32).toInt32) = z) (K : Go p e below (T.setTop (mkF m (pc + 1) Ls (.int z :: S))) P) : Go p e below (T.setTop (mkF m pc Ls (.int y :: .int x :: S))) P := Go.st (fun _ q_ => XS.iushr X.here hx rfl hd rfl (by subst hz; exact q_)) K
theorem i2b (X : Stand p l e R s m args below meth c T locs cells slots) (hx : p.tables.exec = Jvm.exec) {x : Int32} (hd : decode c.code pc = .ok (.i2b, 1)) (z : Int32) (hz : x.toInt8.toInt32 = z) (K : Go p e below (T.setTop (mkF m (pc + 1) Ls (.int z :: S))) P) : Go p e below (T.setTop (mkF m pc Ls (.int x :: S))) P := Go.st (fun _ q_ => XS.i2b X.here hx rfl hd rfl (by subst hz; exact q_)) K
theorem i2c (X : Stand p l e R s m args below meth c T locs cells slots) (hx : p.tables.exec = Jvm.exec) {x : Int32} (hd : decode c.code pc = .ok (.i2c, 1)) (z : Int32) (hz : x.toUInt32.toUInt16.toUInt32.toInt32 = z) (K : Go p e below (T.setTop (mkF m (pc + 1) Ls (.int z :: S))) P) : Go p e below (T.setTop (mkF m pc Ls (.int x :: S))) P := Go.st (fun _ q_ => XS.i2c X.here hx rfl hd rfl (by subst hz; exact q_)) K
theorem irem (X : Stand p l e R s m args below meth c T locs cells slots) (hx : p.tables.exec = Jvm.exec) {x y : Int32} (hd : decode c.code pc = .ok (.irem, 1)) (hy : y ≠ 0) (z : Int32) (hz : x % y = z) (K : Go p e below (T.setTop (mkF m (pc + 1) Ls (.int z :: S))) P) : Go p e below (T.setTop (mkF m pc Ls (.int y :: .int x :: S))) P := Go.st (fun _ q_ => iremM (g := mkF m pc Ls (.int y :: .int x :: S)) X hx rfl hd rfl hy (by subst hz; exact q_)) K
theorem iinc (X : Stand p l e R s m args below meth c T locs cells slots) (hx : p.tables.exec = Jvm.exec) {k : Nat} {cst : Int} {x : Int32} (hd : decode c.code pc = .ok (.iinc k cst, 3)) (hl : Ls[k]? = some (.val (.int x))) (L' : Array Slot) (hl' : storeLocals Ls k (.int (x + Int32.ofInt cst)) = some L') (K : Go p e below (T.setTop (mkF m (pc + 3) L' S)) P) : Go p e below (T.setTop (mkF m pc Ls S)) P := Go.st (fun _ q_ => XS.iinc X.here hx rfl hd hl hl' q_) K
theorem dup (X : Stand p l e R s m args below meth c T locs cells slots) (hx : p.tables.exec = Jvm.exec) {x : Value} (hd : decode c.code pc = .ok (.dup, 1)) (hc : x.category = 1) (K : Go p e below (T.setTop (mkF m (pc + 1) Ls (x :: x :: S))) P) : Go p e below (T.setTop (mkF m pc Ls (x :: S))) P := Go.st (fun _ q_ => XS.dup X.here hx rfl hd rfl hc q_) K
theorem pop (X : Stand p l e R s m args below meth c T locs cells slots) (hx : p.tables.exec = Jvm.exec) {x : Value} (hd : decode c.code pc = .ok (.pop, 1)) (hc : x.category = 1) (K : Go p e below (T.setTop (mkF m (pc + 1) Ls S)) P) : Go p e below (T.setTop (mkF m pc Ls (x :: S))) P := Go.st (fun _ q_ => XS.pop X.here hx rfl hd rfl hc q_) K
theorem goto (X : Stand p l e R s m args below meth c T locs cells slots) (hx : p.tables.exec = Jvm.exec)  {o : Int} (hd : decode c.code pc = .ok (.goto o, 3))  (pc' : Nat) (ho : 0 ≤ (pc : Int) + o) (hp : ((pc : Int) + o).toNat = pc') (K : Go p e below (T.setTop (mkF m pc' Ls S)) P) : Go p e below (T.setTop (mkF m pc Ls S)) P := Go.st (fun _ q_ => XS.goto X.here hx rfl rfl hd ho hp q_) K
theorem ifYes (X : Stand p l e R s m args below meth c T locs cells slots) (hx : p.tables.exec = Jvm.exec) {cd : ClassFile.Cond} {x : Int32} {o : Int} (hd : decode c.code pc = .ok (.ifCond cd o, 3)) (hc : if_icmp.holds cd x 0 = true) (pc' : Nat) (ho : 0 ≤ (pc : Int) + o) (hp : ((pc : Int) + o).toNat = pc') (K : Go p e below (T.setTop (mkF m pc' Ls S)) P) : Go p e below (T.setTop (mkF m pc Ls (.int x :: S))) P := Go.st (fun _ q_ => XS.ifYes X.here hx rfl rfl hd rfl ((if0 _ _).trans hc) ho hp q_) K
theorem ifNo (X : Stand p l e R s m args below meth c T locs cells slots) (hx : p.tables.exec = Jvm.exec) {cd : ClassFile.Cond} {x : Int32} {o : Int} (hd : decode c.code pc = .ok (.ifCond cd o, 3)) (hc : if_icmp.holds cd x 0 = false) (K : Go p e below (T.setTop (mkF m (pc + 3) Ls S)) P) : Go p e below (T.setTop (mkF m pc Ls (.int x :: S))) P := Go.st (fun _ q_ => XS.ifNo X.here hx rfl hd rfl ((if0 _ _).trans hc) q_) K
theorem icmpYes (X : Stand p l e R s m args below meth c T locs cells slots) (hx : p.tables.exec = Jvm.exec) {cd : ClassFile.Cond} {x y : Int32} {o : Int} (hd : decode c.code pc = .ok (.if_icmp cd o, 3)) (hc : if_icmp.holds cd x y = true) (pc' : Nat) (ho : 0 ≤ (pc : Int) + o) (hp : ((pc : Int) + o).toNat = pc') (K : Go p e below (T.setTop (mkF m pc' Ls S)) P) : Go p e below (T.setTop (mkF m pc Ls (.int y :: .int x :: S))) P := Go.st (fun _ q_ => XS.icmpYes X.here hx rfl rfl hd rfl hc ho hp q_) K
theorem icmpNo (X : Stand p l e R s m args below meth c T locs cells slots) (hx : p.tables.exec = Jvm.exec) {cd : ClassFile.Cond} {x y : Int32} {o : Int} (hd : decode c.code pc = .ok (.if_icmp cd o, 3)) (hc : if_icmp.holds cd x y = false) (K : Go p e below (T.setTop (mkF m (pc + 3) Ls S)) P) : Go p e below (T.setTop (mkF m pc Ls (.int y :: .int x :: S))) P := Go.st (fun _ q_ => XS.icmpNo X.here hx rfl hd rfl hc q_) K
theorem ldcI (X : Stand p l e R s m args below meth c T locs cells slots) (hx : p.tables.exec = Jvm.exec) (hZ : Z.Warmed39 s.vm) {own : String} {index : Nat} (hown : s.vm.findClass own = some m.cls) {v : Int32} (w : (Cond.constant own index v).before a0 Z = true) (hd : decode c.code pc = .ok (.ldc index, 2)) (K : Go p e below (T.setTop (mkF m (pc + 2) Ls (.int v :: S))) P) : Go p e below (T.setTop (mkF m pc Ls S)) P := Go.st (X.ldcInt hx hown (mvT hZ w) (g := mkF m pc Ls S) rfl hd) K
theorem getS (X : Stand p l e R s m args below meth c T locs cells slots) (hx : p.tables.exec = Jvm.exec) (hZ : Z.Warmed39 s.vm) {own : String} {index : Nat} (hown : s.vm.findClass own = some m.cls) {R0 O n d host : String} (w : (Cond.fieldLink own index R0 n d).before a0 Z = true ∨ (Cond.fieldLinkNest own index R0 n d host).before a0 Z = true) (via : Via Z R0 O n d) (eT : T.heap = h) {v : Value} (F : Sta Z h O n d v) (hd : decode c.code pc = .ok (.getstatic index, 3))
    (K : ∀ T', Stand p l e R s m args below meth c T' locs cells slots → T'.heap = h → Go p e below (T'.setTop (mkF m (pc + 3) Ls (v :: S))) P) : Go p e below (T.setTop (mkF m pc Ls S)) P := by
  obtain ⟨T', X', e', st⟩ := getS2 X hx hZ hown w via eT F (g := mkF m pc Ls S) rfl hd
  exact Go.st st (K T' X' e')
theorem getF (X : Stand p l e R s m args below meth c T locs cells slots) (hx : p.tables.exec = Jvm.exec) (hZ : Z.Warmed39 s.vm) {own : String} {index : Nat} (hown : s.vm.findClass own = some m.cls) {R0 O n d host : String} (w : (Cond.fieldLink own index R0 n d).before a0 Z = true ∨ (Cond.fieldLinkNest own index R0 n d host).before a0 Z = true) (via : Via Z R0 O n d) (eT : T.heap = h) {a : Addr} {v : Value} (F : Fld Z h a O n d v) (hd : decode c.code pc = .ok (.getfield index, 3))
    (K : ∀ T', Stand p l e R s m args below meth c T' locs cells slots → T'.heap = h → Go p e below (T'.setTop (mkF m (pc + 3) Ls (v :: S))) P) : Go p e below (T.setTop (mkF m pc Ls (.ref a :: S))) P := by
  obtain ⟨T', X', e', st⟩ := RoadKit.getF X hx hZ hown w via eT F (g := mkF m pc Ls (.ref a :: S)) rfl rfl hd
  exact Go.st st (K T' X' e')
theorem putF (X : Stand p l e R s m args below meth c T locs cells slots) (hx : p.tables.exec = Jvm.exec) (hZ : Z.Warmed39 s.vm) {own : String} {index : Nat} (hown : s.vm.findClass own = some m.cls) {R0 O n d host C : String} {kk : Nat} {ty : FieldType} (w : (Cond.fieldLink own index R0 n d).before a0 Z = true ∨ (Cond.fieldLinkNest own index R0 n d host).before a0 Z = true) (via : Via Z R0 O n d) (eT : T.heap = h) {a : Addr} {v old : Value} (F : Fld Z h a O n d old) (E : Exa Z h a C) (Lw : (Cond.lays C O n d).before a0 Z = true ∨ ((Cond.laysFinal C O n d).before a0 Z = true ∧ own = O ∧ meth.name = "<init>")) (wi : (Cond.instantiable C kk).before a0 Z = true)
    (hty : parseFieldDescriptor d = some ty) (hn : narrow ty v = v) (hf : fits ty v = true) (hd : decode c.code pc = .ok (.putfield index, 3))
    (K : ∀ T' h', Stand p l e R s m args below meth c T' (locs ++ [⟨a, Jvm.RoadKit.slotOf Z O n d⟩]) cells slots → T'.heap = h' → Wr h h' a (Jvm.RoadKit.slotOf Z O n d) v → Go p e below (T'.setTop (mkF m (pc + 3) Ls S)) P) : Go p e below (T.setTop (mkF m pc Ls (v :: .ref a :: S))) P := by
  obtain ⟨T', h', X', e', W', st⟩ := RoadKit.putF X hx hZ hown w via eT F E Lw wi hty hn hf (g := mkF m pc Ls (v :: .ref a :: S)) rfl rfl hd
  exact Go.st st (K T' h' X' e' W')
theorem putFN (X : Stand p l e R s m args below meth c T locs cells slots) (hx : p.tables.exec = Jvm.exec) (hZ : Z.Warmed39 s.vm) {own : String} {index : Nat} (hown : s.vm.findClass own = some m.cls) {R0 O n d C : String} {kk : Nat} {ty : FieldType} (w : (Cond.fieldLink own index R0 n d).before a0 Z = true) (via : Via Z R0 O n d) (eT : T.heap = h) {a : Addr} {v v' old : Value} (F : Fld Z h a O n d old) (E : Exa Z h a C) (Lw : (Cond.lays C O n d).before a0 Z = true ∨ ((Cond.laysFinal C O n d).before a0 Z = true ∧ own = O ∧ meth.name = "<init>")) (wi : (Cond.instantiable C kk).before a0 Z = true)
    (hty : parseFieldDescriptor d = some ty) (hn : narrow ty v = v') (hf : fits ty v' = true) (hd : decode c.code pc = .ok (.putfield index, 3))
    (K : ∀ T' h', Stand p l e R s m args below meth c T' (locs ++ [⟨a, Jvm.RoadKit.slotOf Z O n d⟩]) cells slots → T'.heap = h' → Wr h h' a (Jvm.RoadKit.slotOf Z O n d) v' → Go p e below (T'.setTop (mkF m (pc + 3) Ls S)) P) : Go p e below (T.setTop (mkF m pc Ls (v :: .ref a :: S))) P := by
  obtain ⟨T', h', X', e', W', st⟩ := RoadKit.putFN X hx hZ hown w via eT F E Lw wi hty hn hf (g := mkF m pc Ls (v :: .ref a :: S)) rfl rfl hd
  exact Go.st st (K T' h' X' e' W')
theorem newO (X : Stand p l e R s m args below meth c T locs cells slots) (hx : p.tables.exec = Jvm.exec) (hZ : Z.Warmed39 s.vm) {own : String} {index : Nat} (hown : s.vm.findClass own = some m.cls) {C : String} {n : Nat} (w : (Cond.classLink own index C).before a0 Z = true) (wi : (Cond.instantiable C n).before a0 Z = true) (wz : (Cond.initialized C).before a0 Z = true) (eT : T.heap = h) (hd : decode c.code pc = .ok (.new index, 3)) (hc : cells + 1 ≤ R.cells) (hl : slots + n ≤ R.slots)
    (K : ∀ T' h' b, Stand p l e R s m args below meth c T' locs (cells + 1) (slots + n) → T'.heap = h' → Ext h h' → b = h.size → Exa Z h' b C → (∀ {O nm d : String} {ty : FieldType}, Laid Z a0 C O nm d → parseFieldDescriptor d = some ty → Fld Z h' b O nm d (defaultValue ty)) → Go p e below (T'.setTop (mkF m (pc + 3) Ls (.ref b :: S))) P) : Go p e below (T.setTop (mkF m pc Ls S)) P := by
  obtain ⟨T', h', X', e', E', A', D', -, st⟩ := RoadKit.newO X hx hZ hown w wi wz eT (g := mkF m pc Ls S) rfl hd hc hl
  exact Go.st st (K T' h' _ X' e' E' rfl A' D')
theorem initO (X : Stand p l e R s m args below meth c T locs cells slots) (hx : p.tables.exec = Jvm.exec) (hZ : Z.Warmed39 s.vm) {own : String} {index : Nat} (hown : s.vm.findClass own = some m.cls) (w1 : (Cond.methodLink own index Lib.objectInit).before a0 Z = true) (w2 : (Cond.instanceMethod Lib.objectInit).before a0 Z = true) (w3 : (Cond.code Lib.objectInit ⟨#[0xb1]⟩ 1 none).before a0 Z = true) (eT : T.heap = h) (hsize : Ls.size = c.maxLocals) {a : Addr} (hd : decode c.code pc = .ok (.invokespecial index, 3)) (hf : 1 ≤ R.frames) (hl : (S.map fun v => v.category).sum + 12 ≤ R.locals)
    (K : ∀ T', Stand p l e R s m args below meth c T' locs cells slots → T'.heap = h → Go p e below (T'.setTop (mkF m (pc + 3) Ls S)) P) : Go p e below (T.setTop (mkF m pc Ls (.ref a :: S))) P := by
  obtain ⟨T', X', e', st⟩ := RoadKit.initO X hx hZ hown w1 w2 w3 eT (g := mkF m pc Ls (.ref a :: S)) rfl hsize rfl hd hf (W := (S.map fun v => v.category).sum) (by show 2 * 0 + _ ≤ _; omega) hl
  exact Go.st st (K T' X' e')
theorem newP (X : Stand p l e R s m args below meth c T locs cells slots) (hx : p.tables.exec = Jvm.exec) (hZ : Z.Warmed39 s.vm) {aty : ArrayType} (w : (Cond.arrayClass (newarray.typeOf aty)).before a0 Z = true) (eT : T.heap = h) {n : Int32} (hd : decode c.code pc = .ok (.newarray aty, 2)) (hn : ¬ n < 0) {cap : Nat} (hcap : n.toNatClampNeg ≤ cap) (hb : cap * 8 ≤ 536870912) (hc : cells + 1 ≤ R.cells) (hl : slots + cap ≤ R.slots) {ad : String} (had : "[" ++ (newarray.typeOf aty).toString = ad)
    (K : ∀ T' h' b k, Stand p l e R s m args below meth c T' locs (cells + 1) (slots + cap) → T'.heap = h' → Ext h h' → b = h.size → Arf Z h' b k (newarray.typeOf aty) n (fun _ => defaultValue (newarray.typeOf aty)) → Exa Z h' b ad → Go p e below (T'.setTop (mkF m (pc + 2) Ls (.ref b :: S))) P) : Go p e below (T.setTop (mkF m pc Ls (.int n :: S))) P := by
  obtain ⟨T', h', k, X', e', E', A', B', st⟩ := newPE X hx hZ w eT (g := mkF m pc Ls (.int n :: S)) rfl hd rfl hn hcap hb hc hl had
  exact Go.st st (K T' h' _ k X' e' E' rfl (Arf.new A' hn) B')
theorem castore (X : Stand p l e R s m args below meth c T locs cells slots) (hx : p.tables.exec = Jvm.exec) (hZ : Z.Warmed39 s.vm) (eT : T.heap = h) {a : Addr} {k : ClassId} {n : Int32} {f : Nat → Value} (F : Arf Z h a k .char n f) {j x : Int32} (i : Nat) (hji : j.toNatClampNeg = i) (hj : ¬ j < 0 ∧ j < n) (v : Value) (hv : .int (nar .char x) = v) (hd : decode c.code pc = .ok (.castore, 1))
    (K : ∀ T' h', Stand p l e R s m args below meth c T' (locs ++ [⟨a, j.toNatClampNeg⟩]) cells slots → T'.heap = h' → Wr h h' a j.toNatClampNeg v → Arf Z h' a k .char n (upd f i v) → Go p e below (T'.setTop (mkF m (pc + 1) Ls S)) P) : Go p e below (T.setTop (mkF m pc Ls (.int x :: .int j :: .ref a :: S))) P := by
  obtain ⟨cl, A, q, S', q3, H', G'⟩ := F
  have hin := inb_of S' hj
  obtain ⟨T', h', X', e', W', st⟩ := RoadKit.stC X hx hZ eT A (j := j) hin (g := mkF m pc Ls (.int x :: .int j :: .ref a :: S)) rfl rfl hd
  subst hv
  exact Go.st st (K T' h' X' e' W' (Arf.set A q S' q3 H' G' (fits_nar_char _) W' i hji hin))
theorem bastoreB (X : Stand p l e R s m args below meth c T locs cells slots) (hx : p.tables.exec = Jvm.exec) (hZ : Z.Warmed39 s.vm) (eT : T.heap = h) {a : Addr} {k : ClassId} {n : Int32} {f : Nat → Value} (F : Arf Z h a k .byte n f) {j x : Int32} (i : Nat) (hji : j.toNatClampNeg = i) (hj : ¬ j < 0 ∧ j < n) (v : Value) (hv : .int (nar .byte x) = v) (hd : decode c.code pc = .ok (.bastore, 1))
    (K : ∀ T' h', Stand p l e R s m args below meth c T' (locs ++ [⟨a, j.toNatClampNeg⟩]) cells slots → T'.heap = h' → Wr h h' a j.toNatClampNeg v → Arf Z h' a k .byte n (upd f i v) → Go p e below (T'.setTop (mkF m (pc + 1) Ls S)) P) : Go p e below (T.setTop (mkF m pc Ls (.int x :: .int j :: .ref a :: S))) P := by
  obtain ⟨cl, A, q, S', q3, H', G'⟩ := F
  have hin := inb_of S' hj
  obtain ⟨T', h', X', e', W', st⟩ := RoadKit.stB X hx hZ eT A (j := j) hin (g := mkF m pc Ls (.int x :: .int j :: .ref a :: S)) rfl rfl hd
  subst hv
  exact Go.st st (K T' h' X' e' W' (Arf.set A q S' q3 H' G' (fits_nar_byte _) W' i hji hin))
theorem caload (X : Stand p l e R s m args below meth c T locs cells slots) (hx : p.tables.exec = Jvm.exec) (hZ : Z.Warmed39 s.vm) (eT : T.heap = h) {a : Addr} {k : ClassId} {n : Int32} {f : Nat → Value} (F : Arf Z h a k .char n f) {j : Int32} (hj : ¬ j < 0 ∧ j < n) (v : Value) (hv : f j.toNatClampNeg = v) (hd : decode c.code pc = .ok (.caload, 1)) (K : Go p e below (T.setTop (mkF m (pc + 1) Ls (v :: S))) P) : Go p e below (T.setTop (mkF m pc Ls (.int j :: .ref a :: S))) P := by
  obtain ⟨cl, A, q, S', q3, H', G'⟩ := F
  have hin := inb_of S' hj
  exact Go.st (X.caload hx (j := j) (v := v) (by rw [eT]; exact A.1) (State.isArrayOf_alike hZ.alike A.2.1) A.2.2 hin ((H' _ (Nat.lt_of_not_le fun q_ => hin (Or.inr q_))).trans (congrArg some hv)) (g := mkF m pc Ls (.int j :: .ref a :: S)) rfl rfl hd) K
theorem baloadB (X : Stand p l e R s m args below meth c T locs cells slots) (hx : p.tables.exec = Jvm.exec) (hZ : Z.Warmed39 s.vm) (eT : T.heap = h) {a : Addr} {k : ClassId} {n : Int32} {f : Nat → Value} (F : Arf Z h a k .byte n f) {j : Int32} (hj : ¬ j < 0 ∧ j < n) (v : Value) (hv : f j.toNatClampNeg = v) (hd : decode c.code pc = .ok (.baload, 1)) (K : Go p e below (T.setTop (mkF m (pc + 1) Ls (v :: S))) P) : Go p e below (T.setTop (mkF m pc Ls (.int j :: .ref a :: S))) P := by
  obtain ⟨cl, A, q, S', q3, H', G'⟩ := F
  have hin := inb_of S' hj
  exact Go.st (X.baloadBytes hx (j := j) (v := v) (by rw [eT]; exact A.1) (State.isArrayOf_alike hZ.alike A.2.1) A.2.2 hin ((H' _ (Nat.lt_of_not_le fun q_ => hin (Or.inr q_))).trans (congrArg some hv)) (g := mkF m pc Ls (.int j :: .ref a :: S)) rfl rfl hd) K
theorem alen (X : Stand p l e R s m args below meth c T locs cells slots) (hx : p.tables.exec = Jvm.exec) (hZ : Z.Warmed39 s.vm) (eT : T.heap = h) {a : Addr} {k : ClassId} {ty : FieldType} {n : Int32} {f : Nat → Value} (F : Arf Z h a k ty n f) (hd : decode c.code pc = .ok (.arraylength, 1)) (K : Go p e below (T.setTop (mkF m (pc + 1) Ls (.int n :: S))) P) : Go p e below (T.setTop (mkF m pc Ls (.ref a :: S))) P := by
  obtain ⟨cl, A, q, S', q3, H', G'⟩ := F
  have K' := K
  rw [← len_of S' q3] at K'
  exact Go.st (X.arraylength hx (by rw [eT]; exact A.1) (State.isArrayOf_alike hZ.alike A.2.1) (g := mkF m pc Ls (.ref a :: S)) rfl rfl hd) K'
theorem callS (X : Stand p l e R s m args below meth c T locs cells slots) (hx : p.tables.exec = Jvm.exec) (hZ : Z.Warmed39 s.vm) {own : String} {index : Nat} (hown : s.vm.findClass own = some m.cls) {y : MethodName} {bytes : ByteArray} {maxL : Nat} {ret : Option FieldType} {rm : Room} {as' : Array Value} {Q : Option Value → Heap → List Loc → Prop} {ps : List FieldType} {r : Option FieldType} {argsL : List Value} (hM : Ct l y bytes maxL ret rm as' Z h Q) (wl : (Cond.methodLink own index y).before a0 Z = true) (ws : (Cond.static y).before a0 Z = true) (wi : (Cond.initialized y.cls).before a0 Z = true) (wc : (Cond.code y bytes maxL ret).before a0 Z = true) (hy : y.cls ≠ "java/lang/invoke/MethodHandle" ∧ y.cls ≠ "java/lang/invoke/VarHandle") (eT : T.heap = h) (hpd : parseMethodDescriptor y.desc = some ⟨ps, r⟩) (hlen : argsL.length = ps.length) (has : argsL.toArray = as') (hroom : (Nat.ble (rm.frames + 1) R.frames && Nat.ble ((S.map fun v => v.category).sum + (maxL + 11) + rm.locals) R.locals && Nat.ble (cells + rm.cells) R.cells && Nat.ble (slots + rm.slots) R.slots) = true) (hsize : Ls.size = c.maxLocals) {st0 : List Value} (hst : st0 = argsL.reverse ++ S) (hd : decode c.code pc = .ok (.invokestatic index, 3))
    (K : ∀ T' Lc v, Stand p l e R s m args below meth c T' (locs ++ Lc) (cells + rm.cells) (slots + rm.slots) → Q v T'.heap Lc → Go p e below (T'.setTop (mkF m (pc + 3) Ls (v.toList ++ S))) P) : Go p e below (T.setTop (mkF m pc Ls st0)) P := by
  simp only [Bool.and_eq_true, Nat.ble_eq] at hroom
  obtain ⟨⟨⟨hfr, hlo⟩, hc⟩, hs⟩ := hroom
  subst hst
  obtain ⟨v, _, ⟨T', L', k', n'⟩, -, X', ⟨Lc, hQ, l', k', n'⟩, st⟩ := Jvm.LawKit.callS X hx (y := y) hown (mvT hZ wl) (mvT hZ ws) (mvT hZ wi) (mvT hZ wc) hy (backOf (W := (S.map fun v => v.category).sum) hM hZ wc wi hfr hlo) (g := mkF m pc Ls (argsL.reverse ++ S)) rfl hsize (argsL := argsL) (rest := S) (lenOf hpd hlen) rfl (by show 2 * 0 + _ ≤ _; omega) hd (fun _ _ => ⟨has, eT, hc, hs⟩)
  dsimp only [Pt.U, Pt.locs, Pt.cells, Pt.slots] at X' l' k' n' st hQ
  subst l' k' n'
  exact Go.st st (K T' Lc v X' hQ)
theorem callV (X : Stand p l e R s m args below meth c T locs cells slots) (hx : p.tables.exec = Jvm.exec) (hZ : Z.Warmed39 s.vm) {own : String} {index : Nat} (hown : s.vm.findClass own = some m.cls) {y : MethodName} {bytes : ByteArray} {maxL : Nat} {ret : Option FieldType} {rm : Room} {as' : Array Value} {Q : Option Value → Heap → List Loc → Prop} {ps : List FieldType} {r : Option FieldType} {argsL : List Value} {z : MethodName} {C : String} (hM : Ct l y bytes maxL ret rm as' Z h Q) (wl : (Cond.methodLink own index z).before a0 Z = true) (wd : (Cond.declares z).before a0 Z = true) (hnf : NotFace s z) (wsel : (Cond.selects C z y).before a0 Z = true) (wi : (Cond.instanceMethod y).before a0 Z = true) (hy : z.cls ≠ "java/lang/invoke/MethodHandle" ∧ z.cls ≠ "java/lang/invoke/VarHandle") (wc : (Cond.code y bytes maxL ret).before a0 Z = true) (wz : (Cond.initialized y.cls).before a0 Z = true) (eT : T.heap = h) {o : Addr} (E : Exa Z h o C) (hpd : parseMethodDescriptor z.desc = some ⟨ps, r⟩) (hlen : argsL.length = ps.length) (has : (.ref o :: argsL).toArray = as') (hroom : (Nat.ble (rm.frames + 1) R.frames && Nat.ble ((S.map fun v => v.category).sum + (maxL + 11) + rm.locals) R.locals && Nat.ble (cells + rm.cells) R.cells && Nat.ble (slots + rm.slots) R.slots) = true) (hsize : Ls.size = c.maxLocals) {st0 : List Value} (hst : st0 = argsL.reverse ++ .ref o :: S) (hd : decode c.code pc = .ok (.invokevirtual index, 3))
    (K : ∀ T' Lc v, Stand p l e R s m args below meth c T' (locs ++ Lc) (cells + rm.cells) (slots + rm.slots) → Q v T'.heap Lc → Go p e below (T'.setTop (mkF m (pc + 3) Ls (v.toList ++ S))) P) : Go p e below (T.setTop (mkF m pc Ls st0)) P := by
  simp only [Bool.and_eq_true, Nat.ble_eq] at hroom
  obtain ⟨⟨⟨hfr, hlo⟩, hc⟩, hs⟩ := hroom
  subst hst
  obtain ⟨cq, kq, qa, qb, qc⟩ := isOf hZ eT E
  obtain ⟨v, _, ⟨T', L', k', n'⟩, -, X', ⟨Lc, hQ, l', k', n'⟩, st⟩ := X.virtualBack hx (y := z) (z := y) hown (mvT hZ wl) (mvT hZ wd) hnf (mvT hZ wsel) (mvT hZ wi) hy (backOf (W := (S.map fun v => v.category).sum) hM hZ wc wz hfr hlo) qa qc (g := mkF m pc Ls (argsL.reverse ++ .ref o :: S)) rfl hsize (Steps.refl _) (argsL := argsL) (rest := S) (lenOf hpd hlen) rfl (by show 2 * 0 + _ ≤ _; omega) hd (fun _ _ => ⟨has, eT, hc, hs⟩)
  dsimp only [Pt.U, Pt.locs, Pt.cells, Pt.slots] at X' l' k' n' st hQ
  subst l' k' n'
  exact Go.tr st (K T' Lc v X' hQ)
theorem callI (X : Stand p l e R s m args below meth c T locs cells slots) (hx : p.tables.exec = Jvm.exec) (hZ : Z.Warmed39 s.vm) {own : String} {index : Nat} (hown : s.vm.findClass own = some m.cls) {y : MethodName} {bytes : ByteArray} {maxL : Nat} {ret : Option FieldType} {rm : Room} {as' : Array Value} {Q : Option Value → Heap → List Loc → Prop} {ps : List FieldType} {r : Option FieldType} {argsL : List Value} (hM : Ct l y bytes maxL ret rm as' Z h Q) (hyi : y.name = "<init>") (wl : (Cond.methodLink own index y).before a0 Z = true) (wi : (Cond.instanceMethod y).before a0 Z = true) (wc : (Cond.code y bytes maxL none).before a0 Z = true) (hret : ret = none) (hy : y.cls ≠ "java/lang/invoke/MethodHandle" ∧ y.cls ≠ "java/lang/invoke/VarHandle") (wz : (Cond.initialized y.cls).before a0 Z = true) (eT : T.heap = h) {o : Addr} (hpd : parseMethodDescriptor y.desc = some ⟨ps, r⟩) (hlen : argsL.length = ps.length) (has : (.ref o :: argsL).toArray = as') (hroom : (Nat.ble (rm.frames + 1) R.frames && Nat.ble ((S.map fun v => v.category).sum + (maxL + 11) + rm.locals) R.locals && Nat.ble (cells + rm.cells) R.cells && Nat.ble (slots + rm.slots) R.slots) = true) (hsize : Ls.size = c.maxLocals) {st0 : List Value} (hst : st0 = argsL.reverse ++ .ref o :: S) (hd : decode c.code pc = .ok (.invokespecial index, 3))
    (K : ∀ T' Lc v, Stand p l e R s m args below meth c T' (locs ++ Lc) (cells + rm.cells) (slots + rm.slots) → Q v T'.heap Lc → Go p e below (T'.setTop (mkF m (pc + 3) Ls (v.toList ++ S))) P) : Go p e below (T.setTop (mkF m pc Ls st0)) P := by
  simp only [Bool.and_eq_true, Nat.ble_eq] at hroom
  obtain ⟨⟨⟨hfr, hlo⟩, hc⟩, hs⟩ := hroom
  subst hst hret
  obtain ⟨v, _, ⟨T', L', k', n'⟩, -, X', ⟨Lc, hQ, l', k', n'⟩, st⟩ := X.specialBack hx (y := y) hyi hown (mvT hZ wl) (mvT hZ wi) (mvT hZ wc) hy (backOf (W := (S.map fun v => v.category).sum) hM hZ wc wz hfr hlo) (g := mkF m pc Ls (argsL.reverse ++ .ref o :: S)) rfl hsize (Steps.refl _) (a := o) (argsL := argsL) (rest := S) (lenOf hpd hlen) rfl (by show 2 * 0 + _ ≤ _; omega) hd (fun _ _ => ⟨has, eT, hc, hs⟩)
  dsimp only [Pt.U, Pt.locs, Pt.cells, Pt.slots] at X' l' k' n' st hQ
  subst l' k' n'
  exact Go.tr st (K T' Lc v X' hQ)
theorem finW {vm0 : Vm} (X : Stand p l e R (s.setVm vm0) m args below meth c T locs cells slots) (eT : T.heap = h) {k0 : Nat} (hS : s.Since vm0 k0) (hk : k0 ≤ h.size) {v : Option Value} (hv : meth.sig.returnType = none → v = none) (hlocks : meth.locks = false) {U : State}
    (st : ∀ fs, (∀ (f : JFrame) (acts : List Action), f.method = m → f.locked = none → f.entered = [] → (doReturn e (T.setTop f) acts v).1 = T.setFrames fs) → Steps p.tables e below U (T.setFrames fs))
    (hP : ∀ U' : State, U'.heap = T.heap → ReturnedEndW s (.returned v) U' locs cells slots → P (.returned v) U') : Go p e below U P := by
  obtain ⟨fs, hr, hrun, hended, hW⟩ := X.leaveW hS (by rw [eT]; exact hk) hv hlocks
  exact ⟨_, _, st fs hr, hrun, hended, hP _ rfl hW⟩
end GkKit
end Gk
namespace Gk
section CtRet
variable {p : Program} {l : Launch} {e : Env} {s : State} {m : MethodId} {args : Array Value} {below : List Frame} {meth : Method} {c : Code} {T : State} {locs : List Loc} {cells slots : Nat} {Ls : Array Slot} {S : List Value} {pc : Nat} {Z : State} {a0 : Array Value} {h h0 : Heap} {rm : Room} {Q : Option Value → Heap → List Loc → Prop}
theorem rI (X : Stand p l e rm s m args below meth c T locs cells slots) (hx : p.tables.exec = Jvm.exec) {z : Int32} (hret : meth.sig.returnType = some .int) (hns : meth.locks = false) (hd : decode c.code pc = .ok (.ireturn, 1)) (eT : T.heap = h)  (hq : Q (some (.int z)) h locs) (hc : cells ≤ rm.cells := by decide) (hs : slots ≤ rm.slots := by decide) : Go p e below (T.setTop (mkF m pc Ls ((.int z) :: S))) (PtN s Q rm) := Go.fin X (v := some (.int z)) (fun h_ => by rw [hret] at h_; cases h_) hns (fun _ hr => retOut X hx hret rfl (Or.inl ⟨rfl, Or.inl rfl, _, rfl⟩) hd hr) (fun U' hU hF => ⟨_, _, rfl, by rw [hU, eT]; exact hq, hF.1, hF.2.1, hF.2.2.mono hc hs⟩)
theorem rJ (X : Stand p l e rm s m args below meth c T locs cells slots) (hx : p.tables.exec = Jvm.exec) {z : Int64} (hret : meth.sig.returnType = some .long) (hns : meth.locks = false) (hd : decode c.code pc = .ok (.lreturn, 1)) (eT : T.heap = h)  (hq : Q (some (.long z)) h locs) (hc : cells ≤ rm.cells := by decide) (hs : slots ≤ rm.slots := by decide) : Go p e below (T.setTop (mkF m pc Ls ((.long z) :: S))) (PtN s Q rm) := Go.fin X (v := some (.long z)) (fun h_ => by rw [hret] at h_; cases h_) hns (fun _ hr => retOut X hx hret rfl (Or.inr (Or.inl ⟨rfl, rfl, _, rfl⟩)) hd hr) (fun U' hU hF => ⟨_, _, rfl, by rw [hU, eT]; exact hq, hF.1, hF.2.1, hF.2.2.mono hc hs⟩)
theorem rR (X : Stand p l e rm s m args below meth c T locs cells slots) (hx : p.tables.exec = Jvm.exec) {w : Value} {t : FieldType} (hret : meth.sig.returnType = some t) (ht : t.isReference = true) (hw_ : w.isRef = true) (hnw : narrow t w = w) (hns : meth.locks = false) (hd : decode c.code pc = .ok (.areturn, 1)) (eT : T.heap = h)  (hq : Q (some w) h locs) (hc : cells ≤ rm.cells := by decide) (hs : slots ≤ rm.slots := by decide) : Go p e below (T.setTop (mkF m pc Ls (w :: S))) (PtN s Q rm) := Go.fin X (v := some w) (fun h_ => by rw [hret] at h_; cases h_) hns (fun _ hr => retOut X hx hret hnw (Or.inr (Or.inr (Or.inr (Or.inr ⟨rfl, ht, hw_⟩)))) hd hr) (fun U' hU hF => ⟨_, _, rfl, by rw [hU, eT]; exact hq, hF.1, hF.2.1, hF.2.2.mono hc hs⟩)
theorem rN (X : Stand p l e rm s m args below meth c T locs cells slots) (hx : p.tables.exec = Jvm.exec) {z : Int32} {t : FieldType} (hret : meth.sig.returnType = some t) (ht : t = .boolean ∨ t = .byte ∨ t = .char ∨ t = .short) (hns : meth.locks = false) (hd : decode c.code pc = .ok (.ireturn, 1)) (eT : T.heap = h)  (w : Int32) (hw_ : nar t z = w) (hq : Q (some (.int w)) h locs) (hc : cells ≤ rm.cells := by decide) (hs : slots ≤ rm.slots := by decide) : Go p e below (T.setTop (mkF m pc Ls (.int z :: S))) (PtN s Q rm) := by
  subst hw_
  exact Go.fin X (v := some (.int (nar t z))) (fun h_ => by rw [hret] at h_; cases h_) hns (fun _ hr => retN X hx (t := t) hret ht hd hr) (fun U' hU hF => ⟨_, _, rfl, by rw [hU, eT]; exact hq, hF.1, hF.2.1, hF.2.2.mono hc hs⟩)
theorem rV (X : Stand p l e rm s m args below meth c T locs cells slots) (hx : p.tables.exec = Jvm.exec) (hret : meth.sig.returnType = none) (hns : meth.locks = false) (hd : decode c.code pc = .ok (.return_, 1)) (eT : T.heap = h)  (hq : Q none h locs) (hc : cells ≤ rm.cells := by decide) (hs : slots ≤ rm.slots := by decide) : Go p e below (T.setTop (mkF m pc Ls [])) (PtN s Q rm) := Go.fin X (v := none) (fun _ => rfl) hns (fun _ hr => X.returnOut hx hret hd hr) (fun U' hU hF => ⟨_, _, rfl, by rw [hU, eT]; exact hq, hF.1, hF.2.1, hF.2.2.mono hc hs⟩)
end CtRet
end Gk
namespace Gk
section HeldKit
variable {p : Program} {l : Launch} {e : Env} {R : Room} {s : State} {m : MethodId} {args : Array Value} {below : List Frame} {meth : Method} {c : Code} {T : State} {locs : List Loc} {cells slots : Nat} {Ls : Array Slot} {S : List Value} {pc : Nat} {P : Outcome → State → Prop} {Z : State} {a0 : Array Value} {h : Heap} {EL : List (String × Nat)}
theorem callSH {vm0 : Vm} (X : Stand p l e R (s.setVm vm0) m args below meth c T locs cells slots) (hx : p.tables.exec = Jvm.exec) (hZ : Z.Warmed39 (s.setVm vm0).vm) {own : String} {index : Nat} (hown : (s.setVm vm0).vm.findClass own = some m.cls) {y : MethodName} {bytes : ByteArray} {maxL : Nat} {ret : Option FieldType} {rm : Room} {as' : Array Value} {Q : Option Value → Heap → List Loc → Prop} {ps : List FieldType} {r : Option FieldType} {argsL : List Value} (hM : CtH l y bytes maxL ret rm as' Z h EL Q) (wl : (Cond.methodLink own index y).before a0 Z = true) (ws : (Cond.static y).before a0 Z = true) (wi : (Cond.initialized y.cls).before a0 Z = true) (wc : (Cond.code y bytes maxL ret).before a0 Z = true) (hy : y.cls ≠ "java/lang/invoke/MethodHandle" ∧ y.cls ≠ "java/lang/invoke/VarHandle") (eT : T.heap = h) {k0 : Nat} (hS : s.Since vm0 k0) (hk : k0 ≤ h.size) (hEL : EW Z a0 EL) (hH : CHv Z EL vm0 h) (hpd : parseMethodDescriptor y.desc = some ⟨ps, r⟩) (hlen : argsL.length = ps.length) (has : argsL.toArray = as') (hroom : (Nat.ble (rm.frames + 1) R.frames && Nat.ble ((S.map fun v => v.category).sum + (maxL + 11) + rm.locals) R.locals && Nat.ble (cells + rm.cells) R.cells && Nat.ble (slots + rm.slots) R.slots) = true) (hsize : Ls.size = c.maxLocals) {st0 : List Value} (hst : st0 = argsL.reverse ++ S) (hd : decode c.code pc = .ok (.invokestatic index, 3))
    (K : ∀ T' Lc v k1, Stand p l e R (s.setVm T'.vm) m args below meth c T' (locs ++ Lc) (cells + rm.cells) (slots + rm.slots) → s.Since T'.vm k1 → k1 ≤ T'.heap.size → Z.Warmed39 (s.setVm T'.vm).vm → (s.setVm T'.vm).vm.findClass own = some m.cls → CHr Z EL vm0 h T'.vm T'.heap → Q v T'.heap Lc → Go p e below (T'.setTop (mkF m (pc + 3) Ls (v.toList ++ S))) P) : Go p e below (T.setTop (mkF m pc Ls st0)) P := by
  simp only [Bool.and_eq_true, Nat.ble_eq] at hroom
  obtain ⟨⟨⟨hfr, hlo⟩, hc⟩, hs⟩ := hroom
  subst hst
  obtain ⟨v, _, ⟨T', L', k', n'⟩, -, X', h2, g2, ⟨Lc, hQ, l', k', n', C'⟩, st⟩ := callSS X hx (y := y) hown (mvT hZ wl) (mvT hZ ws) (mvT hZ wi) (mvT hZ wc) hy (backOfSH (W := (S.map fun v => v.category).sum) hM hZ wc wi hfr hlo hEL hH) (g := mkF m pc Ls (argsL.reverse ++ S)) rfl hsize (argsL := argsL) (rest := S) (lenOf hpd hlen) rfl (by show 2 * 0 + _ ≤ _; omega) hd (fun _ _ => ⟨has, eT, hc, hs⟩)
  dsimp only [Pt.U, Pt.locs, Pt.cells, Pt.slots] at X' l' k' n' st hQ C' h2 g2
  subst l' k' n'
  subst eT
  obtain ⟨Y1, Y2, Y3, Y4⟩ := rebS hS hk X' h2 g2 hZ hown
  exact Go.tr st (K T' Lc v _ Y1 Y2 (Nat.le_refl _) Y3 Y4 C' hQ)
theorem callIH {vm0 : Vm} (X : Stand p l e R (s.setVm vm0) m args below meth c T locs cells slots) (hx : p.tables.exec = Jvm.exec) (hZ : Z.Warmed39 (s.setVm vm0).vm) {own : String} {index : Nat} (hown : (s.setVm vm0).vm.findClass own = some m.cls) {y : MethodName} {bytes : ByteArray} {maxL : Nat} {ret : Option FieldType} {rm : Room} {as' : Array Value} {Q : Option Value → Heap → List Loc → Prop} {ps : List FieldType} {r : Option FieldType} {argsL : List Value} (hM : CtH l y bytes maxL ret rm as' Z h EL Q) (hyi : y.name = "<init>") (wl : (Cond.methodLink own index y).before a0 Z = true) (wi : (Cond.instanceMethod y).before a0 Z = true) (wc : (Cond.code y bytes maxL none).before a0 Z = true) (hret : ret = none) (hy : y.cls ≠ "java/lang/invoke/MethodHandle" ∧ y.cls ≠ "java/lang/invoke/VarHandle") (wz : (Cond.initialized y.cls).before a0 Z = true) (eT : T.heap = h) {o : Addr} {k0 : Nat} (hS : s.Since vm0 k0) (hk : k0 ≤ h.size) (hEL : EW Z a0 EL) (hH : CHv Z EL vm0 h) (hpd : parseMethodDescriptor y.desc = some ⟨ps, r⟩) (hlen : argsL.length = ps.length) (has : (.ref o :: argsL).toArray = as') (hroom : (Nat.ble (rm.frames + 1) R.frames && Nat.ble ((S.map fun v => v.category).sum + (maxL + 11) + rm.locals) R.locals && Nat.ble (cells + rm.cells) R.cells && Nat.ble (slots + rm.slots) R.slots) = true) (hsize : Ls.size = c.maxLocals) {st0 : List Value} (hst : st0 = argsL.reverse ++ .ref o :: S) (hd : decode c.code pc = .ok (.invokespecial index, 3))
    (K : ∀ T' Lc v k1, Stand p l e R (s.setVm T'.vm) m args below meth c T' (locs ++ Lc) (cells + rm.cells) (slots + rm.slots) → s.Since T'.vm k1 → k1 ≤ T'.heap.size → Z.Warmed39 (s.setVm T'.vm).vm → (s.setVm T'.vm).vm.findClass own = some m.cls → CHr Z EL vm0 h T'.vm T'.heap → Q v T'.heap Lc → Go p e below (T'.setTop (mkF m (pc + 3) Ls (v.toList ++ S))) P) : Go p e below (T.setTop (mkF m pc Ls st0)) P := by
  simp only [Bool.and_eq_true, Nat.ble_eq] at hroom
  obtain ⟨⟨⟨hfr, hlo⟩, hc⟩, hs⟩ := hroom
  subst hst
  subst hret
  obtain ⟨v, _, ⟨T', L', k', n'⟩, -, X', h2, g2, ⟨Lc, hQ, l', k', n', C'⟩, st⟩ := X.specialBackS hx (y := y) hyi hown (mvT hZ wl) (mvT hZ wi) (mvT hZ wc) hy (backOfSH (W := (S.map fun v => v.category).sum) hM hZ wc wz hfr hlo hEL hH) (g := mkF m pc Ls (argsL.reverse ++ .ref o :: S)) rfl hsize (Steps.refl _) (a := o) (argsL := argsL) (rest := S) (lenOf hpd hlen) rfl (by show 2 * 0 + _ ≤ _; omega) hd (fun _ _ => ⟨has, eT, hc, hs⟩)
  dsimp only [Pt.U, Pt.locs, Pt.cells, Pt.slots] at X' l' k' n' st hQ C' h2 g2
  subst l' k' n'
  subst eT
  obtain ⟨Y1, Y2, Y3, Y4⟩ := rebS hS hk X' h2 g2 hZ hown
  exact Go.tr st (K T' Lc v _ Y1 Y2 (Nat.le_refl _) Y3 Y4 C' hQ)
theorem ldcH {vm0 : Vm} (X : Stand p l e R (s.setVm vm0) m args below meth c T locs cells slots) (hx : p.tables.exec = Jvm.exec) (hZ : Z.Warmed39 (s.setVm vm0).vm) {own : String} {index : Nat} (hown : (s.setVm vm0).vm.findClass own = some m.cls) {text : String} (w : (Cond.stringLink own index text).before a0 Z = true) (wS : ∀ a ∈ Bundle.stringAtoms, a.before a0 Z = true) (eT : T.heap = h) {k0 : Nat} (hS : s.Since vm0 k0) (hk : k0 ≤ h.size) (hEL : EW Z a0 EL) (hmem : (own, index) ∈ EL) (hH : CHv Z EL vm0 h) {cs : List Int32} {z : Int32} (ht : (∀ c ∈ text.toList, c.toNat < 256) ∧ text.toList.map (fun c => Value.int (Jvm.Lit.byteI c.toNat.toUInt16)) = cs.map Value.int ∧ ¬ z < 0 ∧ z.toNatClampNeg = cs.length) (hd : decode c.code pc = .ok (.ldc index, 2)) {n : Nat} (hn : 4 * text.toList.length ≤ n) (hbig : n ≤ 536870912) (hc : cells + 2 ≤ R.cells) (hl : slots + (n + 4) ≤ R.slots)
    (K : ∀ a T' h' k1 b kb, Stand p l e R (s.setVm T'.vm) m args below meth c T' locs (cells + 2) (slots + (n + 4)) → T'.heap = h' → Ext h h' → s.Since T'.vm k1 → k1 ≤ h'.size → Z.Warmed39 (s.setVm T'.vm).vm → (s.setVm T'.vm).vm.findClass own = some m.cls →
      Exa Z h' a "java/lang/String" → Fld Z h' a "java/lang/String" "coder" "B" (.int (0 : Int32)) → Fld Z h' a "java/lang/String" "value" "[B" (.ref b) → Arf Z h' b kb .byte z (fun i => .int (cs.getD i 0)) → a < h'.size → b < h'.size → CHr Z EL vm0 h T'.vm h' → Lit (s.setVm T'.vm) own index a → (∀ x, Safe Z EL T'.vm h' x → x ≠ a ∧ x ≠ b) → Go p e below (T'.setTop (mkF m (pc + 2) Ls (.ref a :: S))) P) : Go p e below (T.setTop (mkF m pc Ls S)) P := by
  obtain ⟨a, T', h', k1, b, kb, X', e', E', S', q', Z', o', A', Fc, Fv, V', la, lb, C', Lt', d', st⟩ := ldcCH X hx hZ hown w wS eT hS hk hEL hmem hH ⟨ht.1, ht.2.1⟩ ht.2.2.1 (by rw [List.length_map]; exact ht.2.2.2) (g := mkF m pc Ls S) rfl hd hn hbig hc hl
  refine Go.st st (K a T' h' k1 b kb X' e' E' S' q' Z' o' A' Fc Fv (Arf.ofArv V' fun i hi => ?_) la lb C' Lt' d')
  simp only [List.getD_eq_getElem?_getD, List.getElem?_map]
  cases cs[i]? <;> rfl
theorem ldcA {vm0 : Vm} (X : Stand p l e R (s.setVm vm0) m args below meth c T locs cells slots) (hx : p.tables.exec = Jvm.exec) (hZ : Z.Warmed39 (s.setVm vm0).vm) {own : String} {index : Nat} (hown : (s.setVm vm0).vm.findClass own = some m.cls) {text : String} (w : (Cond.stringLink own index text).before a0 Z = true) {a : Addr} (Lt : Lit (s.setVm vm0) own index a) (hd : decode c.code pc = .ok (.ldc index, 2)) (K : Go p e below (T.setTop (mkF m (pc + 2) Ls (.ref a :: S))) P) : Go p e below (T.setTop (mkF m pc Ls S)) P :=
  Go.st (ldcAgain X hx hZ hown w Lt (g := mkF m pc Ls S) rfl hd) K
theorem instY (X : Stand p l e R s m args below meth c T locs cells slots) (hx : p.tables.exec = Jvm.exec) (hZ : Z.Warmed39 s.vm) {own : String} {index : Nat} (hown : s.vm.findClass own = some m.cls) {K0 : String} (w : (Cond.classLink own index K0).before a0 Z = true) (eT : T.heap = h) {a : Addr} (F : Ins Z h a K0 true) (hd : decode c.code pc = .ok (.instanceof index, 3)) (K : ∀ T', Stand p l e R s m args below meth c T' locs cells slots → T'.heap = h → Go p e below (T'.setTop (mkF m (pc + 3) Ls (.int (1 : Int32) :: S))) P) : Go p e below (T.setTop (mkF m pc Ls (.ref a :: S))) P := by
  obtain ⟨T', X', e', st⟩ := RoadKit.instY X hx hZ hown w eT F (g := mkF m pc Ls (.ref a :: S)) rfl rfl hd
  exact Go.st st (K T' X' e')
theorem finV (X : Stand p l e R s m args below meth c T locs cells slots) {v : Option Value} (hv : meth.sig.returnType = none → v = none) (hlocks : meth.locks = false) {U : State}
    (st : ∀ fs, (∀ (f : JFrame) (acts : List Action), f.method = m → f.locked = none → f.entered = [] → (doReturn e (T.setTop f) acts v).1 = T.setFrames fs) → Steps p.tables e below U (T.setFrames fs))
    (hP : ∀ U' : State, U'.heap = T.heap → U'.vm = T.vm → FrameEnd s (.returned v) U' locs cells slots → P (.returned v) U') : Go p e below U P := by
  obtain ⟨fs, hr, hrun, hended, hW, hsame⟩ := X.leave hv hlocks
  exact ⟨_, _, st fs hr, hrun, hended, hP _ rfl rfl ⟨⟨_, rfl⟩, hW, hsame⟩⟩
theorem finWV {vm0 : Vm} (X : Stand p l e R (s.setVm vm0) m args below meth c T locs cells slots) (eT : T.heap = h) {k0 : Nat} (hS : s.Since vm0 k0) (hk : k0 ≤ h.size) {v : Option Value} (hv : meth.sig.returnType = none → v = none) (hlocks : meth.locks = false) {U : State}
    (st : ∀ fs, (∀ (f : JFrame) (acts : List Action), f.method = m → f.locked = none → f.entered = [] → (doReturn e (T.setTop f) acts v).1 = T.setFrames fs) → Steps p.tables e below U (T.setFrames fs))
    (hP : ∀ U' : State, U'.heap = T.heap → U'.vm = T.vm → ReturnedEndW s (.returned v) U' locs cells slots → P (.returned v) U') : Go p e below U P := by
  obtain ⟨fs, hr, hrun, hended, hW⟩ := X.leaveW hS (by rw [eT]; exact hk) hv hlocks
  exact ⟨_, _, st fs hr, hrun, hended, hP _ rfl rfl hW⟩
end HeldKit
end Gk
section HeldOwn
variable {Z : State} {h h' : Heap} {a a' b b' : Addr} {k k' : ClassId} {ty ty' : FieldType} {z z' : Int32} {f g : Nat → Value} {EL : List (String × Nat)} {vm : Vm}
theorem own_chrOld (H : CHv Z EL vm h) (q : ∀ (b : Addr) (cl : Cell), h[b]? = some cl → h'[b]? = some cl) : CHr Z EL vm h vm h' := by
  have w := H.step (h' := h') fun y _ cell e => q y cell e
  refine ⟨w.1, ?_, fun y B => Or.inl (w.2 y B)⟩
  by_cases h0 : h.size = 0
  · omega
  · have l : h.size - 1 < h.size := by omega
    have e := q _ _ (Array.getElem?_eq_getElem l)
    have := (Array.getElem?_eq_some_iff.mp e).1
    omega
theorem own_safeArf (hal : Z.vm.Alike vm) (V : Arf Z h a k ty z f) (ht : ty ≠ .byte) : Safe Z EL vm h a := by
  obtain ⟨c, A, -⟩ := V
  exact Safe.arr hal A ht
theorem own_safeNull (hal : Z.vm.Alike vm) (E : Exa Z h a "java/lang/String") (F : Fld Z h a "java/lang/String" "value" "[B" .null) : Safe Z EL vm h a := fun B => by
  obtain ⟨p, -, u, x, -, q, -, S, rfl | rfl⟩ := B
  · obtain ⟨cS, ⟨⟨s1, -, -, ⟨c1, k1, i1, f1, -⟩, -, -, -, v1, -⟩, -⟩, -⟩ := S
    obtain ⟨cell, cf, k, i, f, e1, e2, e3, e4, e5, e6, e7⟩ := F
    obtain ⟨k3, e8, -⟩ := State.fieldFound?_setVm (s := ({ Z with heap := h } : State)) hal e2
    have e9 := (show (Wst Z vm h).fieldFound? _ _ _ = _ from e8).symm.trans f1
    simp only [Option.some.injEq, Prod.mk.injEq] at e9
    cases (show h[q.sa]? = some q.sC from s1).symm.trans e1
    rw [e9.2.2.2, v1] at e7
    cases e7
  · obtain ⟨cell, k, e1, e2, e3, -, -⟩ := E
    cases (show h[q.sd]? = some q.SA from S.hd).symm.trans e1
    obtain ⟨cS, -, -, f, -⟩ := S
    have f' : vm.findClass "[B" = some q.SA.cls := f
    rw [hal.findClass] at f'
    obtain ⟨k1, q1, q2⟩ := Vm.findClass_spec f'
    obtain ⟨k2, q3, q4⟩ := Vm.findClass_spec e2
    cases q1.symm.trans q3
    exact absurd (q2.symm.trans q4) (by decide)
theorem own_fldEq {C n d : String} {v w : Value} (F : Fld Z h a C n d v) (G : Fld Z h a C n d w) : v = w := Classical.byContradiction fun q => Fld.ne F G q rfl
theorem own_arfEq (V : Arf Z h b k ty z f) (V' : Arf Z h b k' ty' z' g) : z.toNatClampNeg = z'.toNatClampNeg ∧ ∀ i, i < z.toNatClampNeg → f i = g i := by
  obtain ⟨c, A, -, S, -, H, -⟩ := V
  obtain ⟨c', A', -, S', -, H', -⟩ := V'
  obtain rfl : c = c' := Option.some.inj (A.1.symm.trans A'.1)
  exact ⟨S.symm.trans S', fun i hi => Option.some.inj ((H i (by rw [S]; exact hi)).symm.trans (H' i (by rw [S]; exact hi)))⟩
theorem own_strEq {C n d : String} (F : Fld Z h a C n d (.ref b)) (G : Fld Z h a' C n d (.ref b')) (V : Arf Z h b k ty z f) (V' : Arf Z h b' k' ty' z' g) (e : a = a') : z.toNatClampNeg = z'.toNatClampNeg ∧ ∀ i, i < z.toNatClampNeg → f i = g i := by
  subst e
  obtain rfl : b = b' := by injection own_fldEq F G
  exact own_arfEq V V'
end HeldOwn
def lit0L : List Int32 := [48, 49, 50, 51, 52, 53, 54, 55, 56, 57, 65, 66, 67, 68, 69, 70, 97, 98, 99, 100, 101, 102]
theorem lit0T : (∀ c ∈ ("0123456789ABCDEFabcdef" : String).toList, c.toNat < 256) ∧ ("0123456789ABCDEFabcdef" : String).toList.map (fun c => Value.int (Jvm.Lit.byteI c.toNat.toUInt16)) = lit0L.map Value.int ∧ ¬ (22 : Int32) < 0 ∧ (22 : Int32).toNatClampNeg = lit0L.length := by
  refine ⟨by decide, by decide, by decide, by decide⟩
def lit1L : List Int32 := []
theorem lit1T : (∀ c ∈ ("" : String).toList, c.toNat < 256) ∧ ("" : String).toList.map (fun c => Value.int (Jvm.Lit.byteI c.toNat.toUInt16)) = lit1L.map Value.int ∧ ¬ (0 : Int32) < 0 ∧ (0 : Int32).toNatClampNeg = lit1L.length := by
  refine ⟨by decide, by decide, by decide, by decide⟩
theorem own_EW {Z : State} {a0 : Array Value} (hw : ∀ d ∈ tables_1, d.before a0 Z = true) : EW Z a0 consts_1 := (EW.cons (W hw 114 rfl) lit0T.1 (EW.cons (W hw 73 rfl) lit0T.1 (EW.cons (W hw 97 rfl) lit1T.1 EW.nil)))
namespace Gk
section CtRetH
variable {p : Program} {l : Launch} {e : Env} {s : State} {m : MethodId} {args : Array Value} {below : List Frame} {meth : Method} {c : Code} {T : State} {locs : List Loc} {cells slots : Nat} {Ls : Array Slot} {S : List Value} {pc : Nat} {Z : State} {a0 : Array Value} {h h0 : Heap} {rm : Room} {Q : Option Value → Heap → List Loc → Prop} {EL : List (String × Nat)}
theorem rIH {vm0 : Vm} (X : Stand p l e rm (s.setVm vm0) m args below meth c T locs cells slots) (hx : p.tables.exec = Jvm.exec) {z : Int32} (hret : meth.sig.returnType = some .int) (hns : meth.locks = false) (hd : decode c.code pc = .ok (.ireturn, 1)) (eT : T.heap = h) {k0 : Nat} (hS : s.Since vm0 k0) (hk : k0 ≤ h.size) (hZ : Z.Warmed39 (s.setVm vm0).vm) (hEL : EW Z a0 EL) (hh : s.heap = h0) (hC : CHr Z EL s.vm h0 vm0 h) (hq : Q (some (.int z)) h locs) (hc : cells ≤ rm.cells := by decide) (hs : slots ≤ rm.slots := by decide) : Go p e below (T.setTop (mkF m pc Ls ((.int z) :: S))) (PtH Z EL s Q rm) := finWV (s := s) X eT hS hk (v := some (.int z)) (fun h_ => by rw [hret] at h_; cases h_) hns (fun _ hr => retOut X hx hret rfl (Or.inl ⟨rfl, Or.inl rfl, _, rfl⟩) hd hr) (fun U' hU hV hF => ⟨_, _, rfl, by rw [hU, eT]; exact hq, by rw [hU, hV, hh, eT]; exact hC.trans (CHv.at X hZ hEL hC.1), hF.1, hF.2.1, hF.2.2.1, hF.2.2.2.mono hc hs⟩)
theorem rJH {vm0 : Vm} (X : Stand p l e rm (s.setVm vm0) m args below meth c T locs cells slots) (hx : p.tables.exec = Jvm.exec) {z : Int64} (hret : meth.sig.returnType = some .long) (hns : meth.locks = false) (hd : decode c.code pc = .ok (.lreturn, 1)) (eT : T.heap = h) {k0 : Nat} (hS : s.Since vm0 k0) (hk : k0 ≤ h.size) (hZ : Z.Warmed39 (s.setVm vm0).vm) (hEL : EW Z a0 EL) (hh : s.heap = h0) (hC : CHr Z EL s.vm h0 vm0 h) (hq : Q (some (.long z)) h locs) (hc : cells ≤ rm.cells := by decide) (hs : slots ≤ rm.slots := by decide) : Go p e below (T.setTop (mkF m pc Ls ((.long z) :: S))) (PtH Z EL s Q rm) := finWV (s := s) X eT hS hk (v := some (.long z)) (fun h_ => by rw [hret] at h_; cases h_) hns (fun _ hr => retOut X hx hret rfl (Or.inr (Or.inl ⟨rfl, rfl, _, rfl⟩)) hd hr) (fun U' hU hV hF => ⟨_, _, rfl, by rw [hU, eT]; exact hq, by rw [hU, hV, hh, eT]; exact hC.trans (CHv.at X hZ hEL hC.1), hF.1, hF.2.1, hF.2.2.1, hF.2.2.2.mono hc hs⟩)
theorem rRH {vm0 : Vm} (X : Stand p l e rm (s.setVm vm0) m args below meth c T locs cells slots) (hx : p.tables.exec = Jvm.exec) {w : Value} {t : FieldType} (hret : meth.sig.returnType = some t) (ht : t.isReference = true) (hw_ : w.isRef = true) (hnw : narrow t w = w) (hns : meth.locks = false) (hd : decode c.code pc = .ok (.areturn, 1)) (eT : T.heap = h) {k0 : Nat} (hS : s.Since vm0 k0) (hk : k0 ≤ h.size) (hZ : Z.Warmed39 (s.setVm vm0).vm) (hEL : EW Z a0 EL) (hh : s.heap = h0) (hC : CHr Z EL s.vm h0 vm0 h) (hq : Q (some w) h locs) (hc : cells ≤ rm.cells := by decide) (hs : slots ≤ rm.slots := by decide) : Go p e below (T.setTop (mkF m pc Ls (w :: S))) (PtH Z EL s Q rm) := finWV (s := s) X eT hS hk (v := some w) (fun h_ => by rw [hret] at h_; cases h_) hns (fun _ hr => retOut X hx hret hnw (Or.inr (Or.inr (Or.inr (Or.inr ⟨rfl, ht, hw_⟩)))) hd hr) (fun U' hU hV hF => ⟨_, _, rfl, by rw [hU, eT]; exact hq, by rw [hU, hV, hh, eT]; exact hC.trans (CHv.at X hZ hEL hC.1), hF.1, hF.2.1, hF.2.2.1, hF.2.2.2.mono hc hs⟩)
theorem rNH {vm0 : Vm} (X : Stand p l e rm (s.setVm vm0) m args below meth c T locs cells slots) (hx : p.tables.exec = Jvm.exec) {z : Int32} {t : FieldType} (hret : meth.sig.returnType = some t) (ht : t = .boolean ∨ t = .byte ∨ t = .char ∨ t = .short) (hns : meth.locks = false) (hd : decode c.code pc = .ok (.ireturn, 1)) (eT : T.heap = h) {k0 : Nat} (hS : s.Since vm0 k0) (hk : k0 ≤ h.size) (hZ : Z.Warmed39 (s.setVm vm0).vm) (hEL : EW Z a0 EL) (hh : s.heap = h0) (hC : CHr Z EL s.vm h0 vm0 h) (w : Int32) (hw_ : nar t z = w) (hq : Q (some (.int w)) h locs) (hc : cells ≤ rm.cells := by decide) (hs : slots ≤ rm.slots := by decide) : Go p e below (T.setTop (mkF m pc Ls (.int z :: S))) (PtH Z EL s Q rm) := by
  subst hw_
  exact finWV (s := s) X eT hS hk (v := some (.int (nar t z))) (fun h_ => by rw [hret] at h_; cases h_) hns (fun _ hr => retN X hx (t := t) hret ht hd hr) (fun U' hU hV hF => ⟨_, _, rfl, by rw [hU, eT]; exact hq, by rw [hU, hV, hh, eT]; exact hC.trans (CHv.at X hZ hEL hC.1), hF.1, hF.2.1, hF.2.2.1, hF.2.2.2.mono hc hs⟩)
theorem rVH {vm0 : Vm} (X : Stand p l e rm (s.setVm vm0) m args below meth c T locs cells slots) (hx : p.tables.exec = Jvm.exec) (hret : meth.sig.returnType = none) (hns : meth.locks = false) (hd : decode c.code pc = .ok (.return_, 1)) (eT : T.heap = h) {k0 : Nat} (hS : s.Since vm0 k0) (hk : k0 ≤ h.size) (hZ : Z.Warmed39 (s.setVm vm0).vm) (hEL : EW Z a0 EL) (hh : s.heap = h0) (hC : CHr Z EL s.vm h0 vm0 h) (hq : Q none h locs) (hc : cells ≤ rm.cells := by decide) (hs : slots ≤ rm.slots := by decide) : Go p e below (T.setTop (mkF m pc Ls [])) (PtH Z EL s Q rm) := finWV (s := s) X eT hS hk (v := none) (fun _ => rfl) hns (fun _ hr => X.returnOut hx hret hd hr) (fun U' hU hV hF => ⟨_, _, rfl, by rw [hU, eT]; exact hq, by rw [hU, hV, hh, eT]; exact hC.trans (CHv.at X hZ hEL hC.1), hF.1, hF.2.1, hF.2.2.1, hF.2.2.2.mono hc hs⟩)
theorem rNL {vm0 : Vm} (X : Stand p l e rm (s.setVm vm0) m args below meth c T locs cells slots) (hx : p.tables.exec = Jvm.exec) {z : Int32} {t : FieldType} (hret : meth.sig.returnType = some t) (ht : t = .boolean ∨ t = .byte ∨ t = .char ∨ t = .short) (hns : meth.locks = false) (hd : decode c.code pc = .ok (.ireturn, 1)) (eT : T.heap = h) {k0 : Nat} (hS : s.Since vm0 k0) (hk : k0 ≤ h.size) (w : Int32) (hw_ : nar t z = w) (hq : Q (some (.int w)) h locs) (hc : cells ≤ rm.cells := by decide) (hs : slots ≤ rm.slots := by decide) : Go p e below (T.setTop (mkF m pc Ls (.int z :: S))) (fun o U' => ∃ v L, o = .returned v ∧ Q v U'.heap L ∧ ReturnedEndW s o U' L rm.cells rm.slots) := by
  subst hw_
  exact finW (s := s) X eT hS hk (v := some (.int (nar t z))) (fun h_ => by rw [hret] at h_; cases h_) hns (fun _ hr => retN X hx (t := t) hret ht hd hr) (fun U' hU hF => ⟨_, _, rfl, by rw [hU, eT]; exact hq, hF.1, hF.2.1, hF.2.2.1, hF.2.2.2.mono hc hs⟩)
end CtRetH
end Gk
theorem own_tn {x : Int32} (h : 0 ≤ x.toInt) : (x.toBitVec.toNat : Int) = x.toInt := by
  have e : x.toInt = x.toBitVec.toInt := rfl
  have l := x.toBitVec.isLt
  rw [e, BitVec.toInt_eq_toNat_cond] at h
  rw [e, BitVec.toInt_eq_toNat_cond]
  split at h <;> rename_i q
  · rw [if_pos q]
  · omega
theorem own_ti {x : Int32} (h : x.toBitVec.toNat < 65536) : x.toInt = (x.toBitVec.toNat : Int) := by
  have e : x.toInt = x.toBitVec.toInt := rfl
  rw [e, BitVec.toInt_eq_toNat_cond]
  split <;> omega
theorem own_or {a b : Int32} {k : Nat} (ha : 0 ≤ a.toInt) (ha' : a.toInt < 256) (hb : b.toInt = 256 * (k : Int)) (hk : k < 256) : (a ||| b).toInt = a.toInt + 256 * (k : Int) := by
  have pa := own_tn ha
  have pb := own_tn (x := b) (by omega)
  have la : a.toBitVec.toNat < 2 ^ 8 := by omega
  have eb : b.toBitVec.toNat = k <<< 8 := by rw [Nat.shiftLeft_eq]; omega
  have e : (a ||| b).toBitVec.toNat = k <<< 8 + a.toBitVec.toNat := by
    rw [Int32.toBitVec_or, BitVec.toNat_or, Nat.or_comm, eb, Nat.shiftLeft_add_eq_or_of_lt la]
  rw [Nat.shiftLeft_eq] at e
  rw [own_ti (by omega), e]
  omega
theorem own_narc {c : Int32} (h : 0 ≤ c.toInt ∧ c.toInt < 65536) : nar .char c = c := by
  have g := c_i2c c
  have e : nar .char c = c.toUInt32.toUInt16.toUInt32.toInt32 := rfl
  rw [← Int32.toInt_inj, e]
  omega
theorem own_b16 (x : Int32) : 0 ≤ (nar .char x).toInt ∧ (nar .char x).toInt < 65536 := by
  have g := c_i2c x
  have e : nar .char x = x.toUInt32.toUInt16.toUInt32.toInt32 := rfl
  rw [e]
  omega
theorem own_dec {c : Int32} (h : 0 ≤ c.toInt ∧ c.toInt < 65536) : nar .char (((((((c >>> ((0 : Int32) &&& 31)).toInt8.toInt32) &&& (255 : Int32)) <<< ((0 : Int32) &&& 31)) ||| (((((c >>> ((8 : Int32) &&& 31)).toInt8.toInt32) &&& (255 : Int32)) <<< ((8 : Int32) &&& 31)))).toUInt32.toUInt16.toUInt32.toInt32)) = c := by
  have s0 := c_ishr c 0 0 (by decide)
  have s8 := c_ishr c 8 8 (by decide)
  have b0 := c_i2b (c >>> ((0 : Int32) &&& 31))
  have b8 := c_i2b (c >>> ((8 : Int32) &&& 31))
  have m0 := Jvm.Kit.i32_mask ((c >>> ((0 : Int32) &&& 31)).toInt8.toInt32) 255 (k := 8) (by decide) (by decide)
  have m8 := Jvm.Kit.i32_mask ((c >>> ((8 : Int32) &&& 31)).toInt8.toInt32) 255 (k := 8) (by decide) (by decide)
  have l0 := c_ishl (((c >>> ((0 : Int32) &&& 31)).toInt8.toInt32) &&& (255 : Int32)) 0 0 (by decide)
  have l8 := c_ishl (((c >>> ((8 : Int32) &&& 31)).toInt8.toInt32) &&& (255 : Int32)) 8 8 (by decide)
  have r0 := Int32.toInt_lt ((((c >>> ((0 : Int32) &&& 31)).toInt8.toInt32) &&& (255 : Int32)) <<< ((0 : Int32) &&& 31))
  have r8 := Int32.toInt_lt ((((c >>> ((8 : Int32) &&& 31)).toInt8.toInt32) &&& (255 : Int32)) <<< ((8 : Int32) &&& 31))
  have q0 := Int32.le_toInt ((((c >>> ((0 : Int32) &&& 31)).toInt8.toInt32) &&& (255 : Int32)) <<< ((0 : Int32) &&& 31))
  have q8 := Int32.le_toInt ((((c >>> ((8 : Int32) &&& 31)).toInt8.toInt32) &&& (255 : Int32)) <<< ((8 : Int32) &&& 31))
  generalize ((((c >>> ((0 : Int32) &&& 31)).toInt8.toInt32) &&& (255 : Int32)) <<< ((0 : Int32) &&& 31)) = A at *
  generalize ((((c >>> ((8 : Int32) &&& 31)).toInt8.toInt32) &&& (255 : Int32)) <<< ((8 : Int32) &&& 31)) = B at *
  have eA : A.toInt = c.toInt % 256 := by omega
  have eB : B.toInt = 256 * ((c.toInt / 256).toNat : Int) := by omega
  have eo := own_or (a := A) (b := B) (k := (c.toInt / 256).toNat) (by omega) (by omega) eB (by omega)
  have g := c_i2c (A ||| B)
  have e2 : ((A ||| B).toUInt32.toUInt16.toUInt32.toInt32) = c := by rw [← Int32.toInt_inj]; omega
  rw [e2]
  exact own_narc h
theorem own_decL {c : Int32} (h : 0 ≤ c.toInt ∧ c.toInt < 65536) (hle : ¬ ((255 : Int32) < c)) : nar .char (nar .char (((c.toInt8.toInt32) &&& (255 : Int32)).toUInt32.toUInt16.toUInt32.toInt32)) = c := by
  have b0 := c_i2b c
  have m0 := Jvm.Kit.i32_mask (c.toInt8.toInt32) 255 (k := 8) (by decide) (by decide)
  have g := c_i2c ((c.toInt8.toInt32) &&& (255 : Int32))
  have z : (255 : Int32).toInt = 255 := by decide
  rw [Int32.lt_iff_toInt_lt, z] at hle
  have e2 : (((c.toInt8.toInt32) &&& (255 : Int32)).toUInt32.toUInt16.toUInt32.toInt32) = c := by rw [← Int32.toInt_inj]; omega
  rw [e2, own_narc h, own_narc h]
theorem own_idx (p : Int32) : ¬ ((p &&& (65535 : Int32)) % (22 : Int32) < (0 : Int32)) ∧ (p &&& (65535 : Int32)) % (22 : Int32) < (22 : Int32) := by
  have h := Jvm.Kit.i32_mask p 65535 (k := 16) (by decide) (by decide)
  have z : (22 : Int32).toInt = 22 := by decide
  have z0 : (0 : Int32).toInt = 0 := by decide
  have t := Jvm.Kit.i32_rem_nonneg (x := p &&& (65535 : Int32)) (y := 22) (by omega)
  rw [z] at t
  rw [Int32.lt_iff_toInt_lt, Int32.lt_iff_toInt_lt, z, z0]
  omega
theorem own_n6 {q n : Int32} (e : n = (q &&& (7 : Int32)) % (6 : Int32)) : n = 0 ∨ n = 1 ∨ n = 2 ∨ n = 3 ∨ n = 4 ∨ n = 5 := by
  have h := Jvm.Kit.i32_mask q 7 (k := 3) (by decide) (by decide)
  have t := Jvm.Kit.i32_rem_nonneg (x := q &&& (7 : Int32)) (y := 6) (by omega)
  have z : (6 : Int32).toInt = 6 := by decide
  simp only [← Int32.toInt_inj, show (0 : Int32).toInt = 0 from by decide, show (1 : Int32).toInt = 1 from by decide, show (2 : Int32).toInt = 2 from by decide, show (3 : Int32).toInt = 3 from by decide, show (4 : Int32).toInt = 4 from by decide, show (5 : Int32).toInt = 5 from by decide]
  rw [z] at t
  rw [e]
  omega
theorem own_at7 {q a : Int32} (e : a = q &&& (7 : Int32)) : 0 ≤ a.toInt ∧ a.toInt ≤ 7 := by
  have h := Jvm.Kit.i32_mask q 7 (k := 3) (by decide) (by decide)
  rw [e]
  omega
theorem own_at2 {a : Int32} (h : 0 ≤ a.toInt ∧ a.toInt ≤ 7) : (a + (2 : Int32)).toInt = a.toInt + 2 := by
  have z : (2 : Int32).toInt = 2 := by decide
  rw [Jvm.Kit.i32_add (by omega) (by omega), z]
theorem own_atN {a n : Int32} (h : 0 ≤ a.toInt ∧ a.toInt ≤ 7) (hn : n.toInt ≤ 2) : ¬ (a + (2 : Int32) < n) := by
  rw [Int32.lt_iff_toInt_lt, own_at2 h]
  omega
theorem own_at3 {a : Int32} (h : 0 ≤ a.toInt ∧ a.toInt ≤ 7) (q : a + (2 : Int32) < (3 : Int32)) : a = 0 := by
  rw [Int32.lt_iff_toInt_lt, own_at2 h, show (3 : Int32).toInt = 3 from by decide] at q
  rw [← Int32.toInt_inj, show (0 : Int32).toInt = 0 from by decide]
  omega
theorem own_at4 {a : Int32} (h : 0 ≤ a.toInt ∧ a.toInt ≤ 7) (q : a + (2 : Int32) < (4 : Int32)) : a = 0 ∨ a = 1 := by
  rw [Int32.lt_iff_toInt_lt, own_at2 h, show (4 : Int32).toInt = 4 from by decide] at q
  rw [← Int32.toInt_inj, ← Int32.toInt_inj, show (0 : Int32).toInt = 0 from by decide, show (1 : Int32).toInt = 1 from by decide]
  omega
theorem own_at5 {a : Int32} (h : 0 ≤ a.toInt ∧ a.toInt ≤ 7) (q : a + (2 : Int32) < (5 : Int32)) : a = 0 ∨ a = 1 ∨ a = 2 := by
  rw [Int32.lt_iff_toInt_lt, own_at2 h, show (5 : Int32).toInt = 5 from by decide] at q
  rw [← Int32.toInt_inj, ← Int32.toInt_inj, ← Int32.toInt_inj, show (0 : Int32).toInt = 0 from by decide, show (1 : Int32).toInt = 1 from by decide, show (2 : Int32).toInt = 2 from by decide]
  omega
def hexB (x : Int32) : Int32 := if (¬ x < (48 : Int32) ∧ ¬ (57 : Int32) < x) ∨ (¬ x < (65 : Int32) ∧ ¬ (70 : Int32) < x) ∨ (¬ x < (97 : Int32) ∧ ¬ (102 : Int32) < x) then 1 else 0
theorem hexB_01 (x : Int32) : hexB x = 0 ∨ hexB x = 1 := by
  unfold hexB
  split <;> simp
def isEsc (a b c : Int32) : Int32 := if a = (37 : Int32) ∧ hexB b = 1 ∧ hexB c = 1 then 1 else 0
theorem own_hexI (x : Int32) : hexB x = 1 ↔ (48 ≤ x.toInt ∧ x.toInt ≤ 57) ∨ (65 ≤ x.toInt ∧ x.toInt ≤ 70) ∨ (97 ≤ x.toInt ∧ x.toInt ≤ 102) := by
  unfold hexB
  simp only [Int32.lt_iff_toInt_lt, show (48 : Int32).toInt = 48 from by decide, show (57 : Int32).toInt = 57 from by decide, show (65 : Int32).toInt = 65 from by decide, show (70 : Int32).toInt = 70 from by decide, show (97 : Int32).toInt = 97 from by decide, show (102 : Int32).toInt = 102 from by decide]
  split
  · simp only [true_iff]
    omega
  · simp only [show ((0 : Int32) = 1) = False from by decide, false_iff]
    omega
def idx22 (x : Int32) : Int32 := if (48 : Int32) = x then 0 else if (49 : Int32) = x then 1 else if (50 : Int32) = x then 2 else if (51 : Int32) = x then 3 else if (52 : Int32) = x then 4 else if (53 : Int32) = x then 5 else if (54 : Int32) = x then 6 else if (55 : Int32) = x then 7 else if (56 : Int32) = x then 8 else if (57 : Int32) = x then 9 else if (65 : Int32) = x then 10 else if (66 : Int32) = x then 11 else if (67 : Int32) = x then 12 else if (68 : Int32) = x then 13 else if (69 : Int32) = x then 14 else if (70 : Int32) = x then 15 else if (97 : Int32) = x then 16 else if (98 : Int32) = x then 17 else if (99 : Int32) = x then 18 else if (100 : Int32) = x then 19 else if (101 : Int32) = x then 20 else if (102 : Int32) = x then 21 else (-1)
theorem own_idxI (x : Int32) : ((48 ≤ x.toInt ∧ x.toInt ≤ 57) ∨ (65 ≤ x.toInt ∧ x.toInt ≤ 70) ∨ (97 ≤ x.toInt ∧ x.toInt ≤ 102) → 0 ≤ (idx22 x).toInt ∧ (idx22 x).toInt < 22) ∧ (¬ ((48 ≤ x.toInt ∧ x.toInt ≤ 57) ∨ (65 ≤ x.toInt ∧ x.toInt ≤ 70) ∨ (97 ≤ x.toInt ∧ x.toInt ≤ 102)) → (idx22 x).toInt = -1) := by
  unfold idx22
  by_cases h0 : (48 : Int32) = x
  · subst h0; decide
  rw [if_neg h0]
  by_cases h1 : (49 : Int32) = x
  · subst h1; decide
  rw [if_neg h1]
  by_cases h2 : (50 : Int32) = x
  · subst h2; decide
  rw [if_neg h2]
  by_cases h3 : (51 : Int32) = x
  · subst h3; decide
  rw [if_neg h3]
  by_cases h4 : (52 : Int32) = x
  · subst h4; decide
  rw [if_neg h4]
  by_cases h5 : (53 : Int32) = x
  · subst h5; decide
  rw [if_neg h5]
  by_cases h6 : (54 : Int32) = x
  · subst h6; decide
  rw [if_neg h6]
  by_cases h7 : (55 : Int32) = x
  · subst h7; decide
  rw [if_neg h7]
  by_cases h8 : (56 : Int32) = x
  · subst h8; decide
  rw [if_neg h8]
  by_cases h9 : (57 : Int32) = x
  · subst h9; decide
  rw [if_neg h9]
  by_cases h10 : (65 : Int32) = x
  · subst h10; decide
  rw [if_neg h10]
  by_cases h11 : (66 : Int32) = x
  · subst h11; decide
  rw [if_neg h11]
  by_cases h12 : (67 : Int32) = x
  · subst h12; decide
  rw [if_neg h12]
  by_cases h13 : (68 : Int32) = x
  · subst h13; decide
  rw [if_neg h13]
  by_cases h14 : (69 : Int32) = x
  · subst h14; decide
  rw [if_neg h14]
  by_cases h15 : (70 : Int32) = x
  · subst h15; decide
  rw [if_neg h15]
  by_cases h16 : (97 : Int32) = x
  · subst h16; decide
  rw [if_neg h16]
  by_cases h17 : (98 : Int32) = x
  · subst h17; decide
  rw [if_neg h17]
  by_cases h18 : (99 : Int32) = x
  · subst h18; decide
  rw [if_neg h18]
  by_cases h19 : (100 : Int32) = x
  · subst h19; decide
  rw [if_neg h19]
  by_cases h20 : (101 : Int32) = x
  · subst h20; decide
  rw [if_neg h20]
  by_cases h21 : (102 : Int32) = x
  · subst h21; decide
  rw [if_neg h21]
  simp only [← Int32.toInt_inj, show (48 : Int32).toInt = 48 from by decide, show (49 : Int32).toInt = 49 from by decide, show (50 : Int32).toInt = 50 from by decide, show (51 : Int32).toInt = 51 from by decide, show (52 : Int32).toInt = 52 from by decide, show (53 : Int32).toInt = 53 from by decide, show (54 : Int32).toInt = 54 from by decide, show (55 : Int32).toInt = 55 from by decide, show (56 : Int32).toInt = 56 from by decide, show (57 : Int32).toInt = 57 from by decide, show (65 : Int32).toInt = 65 from by decide, show (66 : Int32).toInt = 66 from by decide, show (67 : Int32).toInt = 67 from by decide, show (68 : Int32).toInt = 68 from by decide, show (69 : Int32).toInt = 69 from by decide, show (70 : Int32).toInt = 70 from by decide, show (97 : Int32).toInt = 97 from by decide, show (98 : Int32).toInt = 98 from by decide, show (99 : Int32).toInt = 99 from by decide, show (100 : Int32).toInt = 100 from by decide, show (101 : Int32).toInt = 101 from by decide, show (102 : Int32).toInt = 102 from by decide] at h0 h1 h2 h3 h4 h5 h6 h7 h8 h9 h10 h11 h12 h13 h14 h15 h16 h17 h18 h19 h20 h21
  refine ⟨fun h => ?_, fun _ => by decide⟩
  omega
theorem own_hx0 {p : Int32} (hb : 0 ≤ p.toInt ∧ p.toInt < 65536) (hle : ¬ ((255 : Int32) < p)) : (hexB p = 1 → 0 ≤ (idx22 (p.toInt8.toInt32)).toInt ∧ (idx22 (p.toInt8.toInt32)).toInt < 22) ∧ (¬ hexB p = 1 → (idx22 (p.toInt8.toInt32)).toInt = -1) := by
  have z : (255 : Int32).toInt = 255 := by decide
  rw [Int32.lt_iff_toInt_lt, z] at hle
  have g := own_idxI (p.toInt8.toInt32)
  have b0 := c_i2b p
  rw [own_hexI]
  exact ⟨fun h => g.1 (by omega), fun h => g.2 (by omega)⟩
theorem own_hx1 {p r : Int32} (e : r = idx22 (p.toInt8.toInt32)) (hb : 0 ≤ p.toInt ∧ p.toInt < 65536) (hle : ¬ ((255 : Int32) < p)) : r < 0 ↔ ¬ hexB p = 1 := by
  have g := own_hx0 hb hle
  rw [← e] at g
  rw [Int32.lt_iff_toInt_lt, show (0 : Int32).toInt = 0 from by decide]
  by_cases q : hexB p = 1
  · have := g.1 q; simp only [q, not_true_eq_false, iff_false]; omega
  · have := g.2 q; simp only [q, not_false_eq_true, iff_true]; omega
theorem own_hx2 {p r : Int32} (e : r = idx22 (p.toInt8.toInt32)) (hb : 0 ≤ p.toInt ∧ p.toInt < 65536) (hle : ¬ ((255 : Int32) < p)) (h16 : ¬ r < (16 : Int32)) : r - (6 : Int32) < 0 ↔ ¬ hexB p = 1 := by
  have g := own_hx0 hb hle
  rw [← e] at g
  rw [Int32.lt_iff_toInt_lt, show (16 : Int32).toInt = 16 from by decide] at h16
  have q : hexB p = 1 := Classical.byContradiction fun q => by have := g.2 q; omega
  have g1 := g.1 q
  have s : (r - (6 : Int32)).toInt = r.toInt - 6 := by rw [Jvm.Kit.i32_sub (by rw [show (6 : Int32).toInt = 6 from by decide]; omega) (by rw [show (6 : Int32).toInt = 6 from by decide]; omega), show (6 : Int32).toInt = 6 from by decide]
  rw [Int32.lt_iff_toInt_lt, show (0 : Int32).toInt = 0 from by decide, s]
  simp only [q, not_true_eq_false, iff_false]; omega
theorem own_hxU {p : Int32} (hu : (255 : Int32) < p) : (-1 : Int32) < 0 ↔ ¬ hexB p = 1 := by
  rw [own_hexI]
  rw [Int32.lt_iff_toInt_lt, show (255 : Int32).toInt = 255 from by decide] at hu
  simp only [show ((-1 : Int32) < 0) = True from by decide, true_iff]
  omega
section Cts
variable (l : Launch) (Z : State) (a0 : Array Value) (h0 : Heap) (n0 : Nat)
theorem d24_0 : decode jdk_52_method_6_code 0 = .ok (.aload_n 0, 1) := by decide +kernel
theorem d24_1 : decode jdk_52_method_6_code 1 = .ok (.arraylength, 1) := by decide +kernel
theorem d24_2 : decode jdk_52_method_6_code 2 = .ok (.iconst 1, 1) := by decide +kernel
theorem d24_3 : decode jdk_52_method_6_code 3 = .ok (.ishr, 1) := by decide +kernel
theorem d24_4 : decode jdk_52_method_6_code 4 = .ok (.ireturn, 1) := by decide +kernel
theorem pn_5 : plainName "java/lang/StringUTF16" = true := by first | (simp [plainName, overriddenIn]; done) | decide +kernel
theorem ul (hw : HW Z a0) (a1 : Addr) (kb : ClassId) (fb : Nat → Value) (n2 : Int32) (Z0 : n0 ≤ h0.size) (V_b : Arf Z h0 a1 kb .byte n2 fb) : Ct l ⟨"java/lang/StringUTF16", "length", "([B)I"⟩ jdk_52_method_6_code 1 (some .int) ⟨0, 0, 0, 0⟩ #[(.ref a1)] Z h0 (fun v h L => v = some (.int (n2 >>> ((1 : Int32) &&& 31))) ∧ Fr n0 L ∧ h = h0) := by
  refine Ct.of "java/lang/StringUTF16" rfl (plainFor_of_name pn_5) #[.val (.ref a1)] rfl rfl ?_
  intro p e s m below meth c s₁ hx hby hml hown hnm hret hns hZ hh X0 e0
  refine Gk.aloadN X0 hx (hb hby d24_0) rfl rfl ?_
  refine Gk.alen X0 hx hZ e0 V_b (hb hby d24_1) ?_
  refine Gk.iconst X0 hx (hb hby d24_2) (1 : Int32) rfl ?_
  refine Gk.ishr X0 hx (hb hby d24_3) _ rfl ?_
  exact Gk.rI X0 hx hret hns (hb hby d24_4) e0 ⟨rfl, (Fr.nil n0), rfl⟩
theorem d19_0 : decode jdk_52_method_3_code 0 = .ok (.iload_n 0, 1) := by decide +kernel
theorem d19_1 : decode jdk_52_method_3_code 1 = .ok (.ifCond .ge 11, 3) := by decide +kernel
theorem d19_12 : decode jdk_52_method_3_code 12 = .ok (.iload_n 0, 1) := by decide +kernel
theorem d19_13 : decode jdk_52_method_3_code 13 = .ok (.ldc 20, 2) := by decide +kernel
theorem d19_15 : decode jdk_52_method_3_code 15 = .ok (.if_icmp .lt 40, 3) := by decide +kernel
theorem d19_55 : decode jdk_52_method_3_code 55 = .ok (.iload_n 0, 1) := by decide +kernel
theorem d19_56 : decode jdk_52_method_3_code 56 = .ok (.iconst 1, 1) := by decide +kernel
theorem d19_57 : decode jdk_52_method_3_code 57 = .ok (.ishl, 1) := by decide +kernel
theorem d19_58 : decode jdk_52_method_3_code 58 = .ok (.ireturn, 1) := by decide +kernel
theorem nbl_1 (hw : HW Z a0) (Z0 : n0 ≤ h0.size) : Ct l ⟨"java/lang/StringUTF16", "newBytesLength", "(I)I"⟩ jdk_52_method_3_code 1 (some .int) ⟨0, 0, 0, 0⟩ #[(.int (1 : Int32))] Z h0 (fun v h L => v = some (.int (2 : Int32)) ∧ Fr n0 L ∧ h = h0) := by
  refine Ct.of "java/lang/StringUTF16" rfl (plainFor_of_name pn_5) #[.val (.int (1 : Int32))] rfl rfl ?_
  intro p e s m below meth c s₁ hx hby hml hown hnm hret hns hZ hh X0 e0
  refine Gk.iloadN X0 hx (hb hby d19_0) rfl ?_
  refine Gk.ifYes X0 hx (hb hby d19_1) (flt (by decide : ¬ ((1 : Int32) < (0 : Int32)))).2.1 12 (by decide) (by decide) ?_
  refine Gk.iloadN X0 hx (hb hby d19_12) rfl ?_
  refine Gk.ldcI X0 hx hZ hown (W hw 87 rfl) (hb hby d19_13) ?_
  refine Gk.icmpYes X0 hx (hb hby d19_15) (tlt (by decide : (1 : Int32) < (1073741823 : Int32))).1 55 (by decide) (by decide) ?_
  refine Gk.iloadN X0 hx (hb hby d19_55) rfl ?_
  refine Gk.iconst X0 hx (hb hby d19_56) (1 : Int32) rfl ?_
  refine Gk.ishl X0 hx (hb hby d19_57) (2 : Int32) (by decide) ?_
  exact Gk.rI X0 hx hret hns (hb hby d19_58) e0 ⟨rfl, (Fr.nil n0), rfl⟩
theorem pd_0 : parseMethodDescriptor "(I)I" = some ⟨[.int], some .int⟩ := by decide +kernel
theorem d18_0 : decode jdk_52_method_2_code 0 = .ok (.iload_n 0, 1) := by decide +kernel
theorem d18_1 : decode jdk_52_method_2_code 1 = .ok (.invokestatic 11, 3) := by decide +kernel
theorem d18_4 : decode jdk_52_method_2_code 4 = .ok (.newarray .byte, 2) := by decide +kernel
theorem d18_6 : decode jdk_52_method_2_code 6 = .ok (.areturn, 1) := by decide +kernel
theorem nbf_1 (hw : HW Z a0) (Z0 : n0 ≤ h0.size) : Ct l ⟨"java/lang/StringUTF16", "newBytesFor", "(I)[B"⟩ jdk_52_method_2_code 1 (some (.array .byte)) ⟨1, 1, 2, 12⟩ #[(.int (1 : Int32))] Z h0 (fun v h L => v = some (.ref h0.size) ∧ Fr n0 L ∧ Keep h0 h [] ∧ ∃ kb : ClassId, Arf Z h h0.size kb .byte (2 : Int32) (fun _ => (.int (0 : Int32)))) := by
  refine Ct.of "java/lang/StringUTF16" rfl (plainFor_of_name pn_5) #[.val (.int (1 : Int32))] rfl rfl ?_
  intro p e s m below meth c s₁ hx hby hml hown hnm hret hns hZ hh X0 e0
  refine Gk.iloadN X0 hx (hb hby d18_0) rfl ?_
  refine Gk.callS (argsL := [(.int (1 : Int32))]) X0 hx hZ hown (nbl_1 l Z a0 h0 n0 hw  Z0) (W hw 84 rfl) (W hw 85 rfl) (W hw 24 rfl) (W hw 86 rfl) (by decide) e0 pd_0 rfl rfl rfl (by rw [hml]; rfl) rfl (hb hby d18_1) ?_
  intro T1 L1 v1 X1 hQ1
  obtain ⟨rfl, N1q, e1⟩ := hQ1
  have N1 := Fr.app (Fr.nil n0) N1q
  show Go p e below (T1.setTop (mkF m 4 _ [(.int (2 : Int32))])) _
  refine Gk.newP X1 hx hZ (W hw 26 rfl) e1 (hb hby d18_4) (by decide) (cap := 2) (by decide) (by decide) (by decide) (by decide) rfl ?_
  intro T2 h2 b2 k2 X2 e2 E2 g2 A2 B2
  have g_b2 : n0 ≤ b2 := Nat.le_trans Z0 (Nat.le_of_eq g2.symm)
  have V_b2 : Arf Z h2 b2 k2 .byte (2 : Int32) (fun _ => (.int (0 : Int32))) := A2
  have lt_b2 := V_b2.lt
  exact Gk.rR X2 hx hret rfl rfl rfl hns (hb hby d18_6) e2 ⟨congrArg (fun z_ : Addr => some (Value.ref z_)) (show b2 = h0.size from g2), N1, ((Keep.refl h0 []).ext E2), _, (g2 ▸ V_b2)⟩
theorem nbl_2 (hw : HW Z a0) (Z0 : n0 ≤ h0.size) : Ct l ⟨"java/lang/StringUTF16", "newBytesLength", "(I)I"⟩ jdk_52_method_3_code 1 (some .int) ⟨0, 0, 0, 0⟩ #[(.int (2 : Int32))] Z h0 (fun v h L => v = some (.int (4 : Int32)) ∧ Fr n0 L ∧ h = h0) := by
  refine Ct.of "java/lang/StringUTF16" rfl (plainFor_of_name pn_5) #[.val (.int (2 : Int32))] rfl rfl ?_
  intro p e s m below meth c s₁ hx hby hml hown hnm hret hns hZ hh X0 e0
  refine Gk.iloadN X0 hx (hb hby d19_0) rfl ?_
  refine Gk.ifYes X0 hx (hb hby d19_1) (flt (by decide : ¬ ((2 : Int32) < (0 : Int32)))).2.1 12 (by decide) (by decide) ?_
  refine Gk.iloadN X0 hx (hb hby d19_12) rfl ?_
  refine Gk.ldcI X0 hx hZ hown (W hw 87 rfl) (hb hby d19_13) ?_
  refine Gk.icmpYes X0 hx (hb hby d19_15) (tlt (by decide : (2 : Int32) < (1073741823 : Int32))).1 55 (by decide) (by decide) ?_
  refine Gk.iloadN X0 hx (hb hby d19_55) rfl ?_
  refine Gk.iconst X0 hx (hb hby d19_56) (1 : Int32) rfl ?_
  refine Gk.ishl X0 hx (hb hby d19_57) (4 : Int32) (by decide) ?_
  exact Gk.rI X0 hx hret hns (hb hby d19_58) e0 ⟨rfl, (Fr.nil n0), rfl⟩
theorem nbf_2 (hw : HW Z a0) (Z0 : n0 ≤ h0.size) : Ct l ⟨"java/lang/StringUTF16", "newBytesFor", "(I)[B"⟩ jdk_52_method_2_code 1 (some (.array .byte)) ⟨1, 1, 4, 12⟩ #[(.int (2 : Int32))] Z h0 (fun v h L => v = some (.ref h0.size) ∧ Fr n0 L ∧ Keep h0 h [] ∧ ∃ kb : ClassId, Arf Z h h0.size kb .byte (4 : Int32) (fun _ => (.int (0 : Int32)))) := by
  refine Ct.of "java/lang/StringUTF16" rfl (plainFor_of_name pn_5) #[.val (.int (2 : Int32))] rfl rfl ?_
  intro p e s m below meth c s₁ hx hby hml hown hnm hret hns hZ hh X0 e0
  refine Gk.iloadN X0 hx (hb hby d18_0) rfl ?_
  refine Gk.callS (argsL := [(.int (2 : Int32))]) X0 hx hZ hown (nbl_2 l Z a0 h0 n0 hw  Z0) (W hw 84 rfl) (W hw 85 rfl) (W hw 24 rfl) (W hw 86 rfl) (by decide) e0 pd_0 rfl rfl rfl (by rw [hml]; rfl) rfl (hb hby d18_1) ?_
  intro T1 L1 v1 X1 hQ1
  obtain ⟨rfl, N1q, e1⟩ := hQ1
  have N1 := Fr.app (Fr.nil n0) N1q
  show Go p e below (T1.setTop (mkF m 4 _ [(.int (4 : Int32))])) _
  refine Gk.newP X1 hx hZ (W hw 26 rfl) e1 (hb hby d18_4) (by decide) (cap := 4) (by decide) (by decide) (by decide) (by decide) rfl ?_
  intro T2 h2 b2 k2 X2 e2 E2 g2 A2 B2
  have g_b2 : n0 ≤ b2 := Nat.le_trans Z0 (Nat.le_of_eq g2.symm)
  have V_b2 : Arf Z h2 b2 k2 .byte (4 : Int32) (fun _ => (.int (0 : Int32))) := A2
  have lt_b2 := V_b2.lt
  exact Gk.rR X2 hx hret rfl rfl rfl hns (hb hby d18_6) e2 ⟨congrArg (fun z_ : Addr => some (Value.ref z_)) (show b2 = h0.size from g2), N1, ((Keep.refl h0 []).ext E2), _, (g2 ▸ V_b2)⟩
theorem nbl_3 (hw : HW Z a0) (Z0 : n0 ≤ h0.size) : Ct l ⟨"java/lang/StringUTF16", "newBytesLength", "(I)I"⟩ jdk_52_method_3_code 1 (some .int) ⟨0, 0, 0, 0⟩ #[(.int (3 : Int32))] Z h0 (fun v h L => v = some (.int (6 : Int32)) ∧ Fr n0 L ∧ h = h0) := by
  refine Ct.of "java/lang/StringUTF16" rfl (plainFor_of_name pn_5) #[.val (.int (3 : Int32))] rfl rfl ?_
  intro p e s m below meth c s₁ hx hby hml hown hnm hret hns hZ hh X0 e0
  refine Gk.iloadN X0 hx (hb hby d19_0) rfl ?_
  refine Gk.ifYes X0 hx (hb hby d19_1) (flt (by decide : ¬ ((3 : Int32) < (0 : Int32)))).2.1 12 (by decide) (by decide) ?_
  refine Gk.iloadN X0 hx (hb hby d19_12) rfl ?_
  refine Gk.ldcI X0 hx hZ hown (W hw 87 rfl) (hb hby d19_13) ?_
  refine Gk.icmpYes X0 hx (hb hby d19_15) (tlt (by decide : (3 : Int32) < (1073741823 : Int32))).1 55 (by decide) (by decide) ?_
  refine Gk.iloadN X0 hx (hb hby d19_55) rfl ?_
  refine Gk.iconst X0 hx (hb hby d19_56) (1 : Int32) rfl ?_
  refine Gk.ishl X0 hx (hb hby d19_57) (6 : Int32) (by decide) ?_
  exact Gk.rI X0 hx hret hns (hb hby d19_58) e0 ⟨rfl, (Fr.nil n0), rfl⟩
theorem nbf_3 (hw : HW Z a0) (Z0 : n0 ≤ h0.size) : Ct l ⟨"java/lang/StringUTF16", "newBytesFor", "(I)[B"⟩ jdk_52_method_2_code 1 (some (.array .byte)) ⟨1, 1, 6, 12⟩ #[(.int (3 : Int32))] Z h0 (fun v h L => v = some (.ref h0.size) ∧ Fr n0 L ∧ Keep h0 h [] ∧ ∃ kb : ClassId, Arf Z h h0.size kb .byte (6 : Int32) (fun _ => (.int (0 : Int32)))) := by
  refine Ct.of "java/lang/StringUTF16" rfl (plainFor_of_name pn_5) #[.val (.int (3 : Int32))] rfl rfl ?_
  intro p e s m below meth c s₁ hx hby hml hown hnm hret hns hZ hh X0 e0
  refine Gk.iloadN X0 hx (hb hby d18_0) rfl ?_
  refine Gk.callS (argsL := [(.int (3 : Int32))]) X0 hx hZ hown (nbl_3 l Z a0 h0 n0 hw  Z0) (W hw 84 rfl) (W hw 85 rfl) (W hw 24 rfl) (W hw 86 rfl) (by decide) e0 pd_0 rfl rfl rfl (by rw [hml]; rfl) rfl (hb hby d18_1) ?_
  intro T1 L1 v1 X1 hQ1
  obtain ⟨rfl, N1q, e1⟩ := hQ1
  have N1 := Fr.app (Fr.nil n0) N1q
  show Go p e below (T1.setTop (mkF m 4 _ [(.int (6 : Int32))])) _
  refine Gk.newP X1 hx hZ (W hw 26 rfl) e1 (hb hby d18_4) (by decide) (cap := 6) (by decide) (by decide) (by decide) (by decide) rfl ?_
  intro T2 h2 b2 k2 X2 e2 E2 g2 A2 B2
  have g_b2 : n0 ≤ b2 := Nat.le_trans Z0 (Nat.le_of_eq g2.symm)
  have V_b2 : Arf Z h2 b2 k2 .byte (6 : Int32) (fun _ => (.int (0 : Int32))) := A2
  have lt_b2 := V_b2.lt
  exact Gk.rR X2 hx hret rfl rfl rfl hns (hb hby d18_6) e2 ⟨congrArg (fun z_ : Addr => some (Value.ref z_)) (show b2 = h0.size from g2), N1, ((Keep.refl h0 []).ext E2), _, (g2 ▸ V_b2)⟩
theorem nbl_4 (hw : HW Z a0) (Z0 : n0 ≤ h0.size) : Ct l ⟨"java/lang/StringUTF16", "newBytesLength", "(I)I"⟩ jdk_52_method_3_code 1 (some .int) ⟨0, 0, 0, 0⟩ #[(.int (4 : Int32))] Z h0 (fun v h L => v = some (.int (8 : Int32)) ∧ Fr n0 L ∧ h = h0) := by
  refine Ct.of "java/lang/StringUTF16" rfl (plainFor_of_name pn_5) #[.val (.int (4 : Int32))] rfl rfl ?_
  intro p e s m below meth c s₁ hx hby hml hown hnm hret hns hZ hh X0 e0
  refine Gk.iloadN X0 hx (hb hby d19_0) rfl ?_
  refine Gk.ifYes X0 hx (hb hby d19_1) (flt (by decide : ¬ ((4 : Int32) < (0 : Int32)))).2.1 12 (by decide) (by decide) ?_
  refine Gk.iloadN X0 hx (hb hby d19_12) rfl ?_
  refine Gk.ldcI X0 hx hZ hown (W hw 87 rfl) (hb hby d19_13) ?_
  refine Gk.icmpYes X0 hx (hb hby d19_15) (tlt (by decide : (4 : Int32) < (1073741823 : Int32))).1 55 (by decide) (by decide) ?_
  refine Gk.iloadN X0 hx (hb hby d19_55) rfl ?_
  refine Gk.iconst X0 hx (hb hby d19_56) (1 : Int32) rfl ?_
  refine Gk.ishl X0 hx (hb hby d19_57) (8 : Int32) (by decide) ?_
  exact Gk.rI X0 hx hret hns (hb hby d19_58) e0 ⟨rfl, (Fr.nil n0), rfl⟩
theorem nbf_4 (hw : HW Z a0) (Z0 : n0 ≤ h0.size) : Ct l ⟨"java/lang/StringUTF16", "newBytesFor", "(I)[B"⟩ jdk_52_method_2_code 1 (some (.array .byte)) ⟨1, 1, 8, 12⟩ #[(.int (4 : Int32))] Z h0 (fun v h L => v = some (.ref h0.size) ∧ Fr n0 L ∧ Keep h0 h [] ∧ ∃ kb : ClassId, Arf Z h h0.size kb .byte (8 : Int32) (fun _ => (.int (0 : Int32)))) := by
  refine Ct.of "java/lang/StringUTF16" rfl (plainFor_of_name pn_5) #[.val (.int (4 : Int32))] rfl rfl ?_
  intro p e s m below meth c s₁ hx hby hml hown hnm hret hns hZ hh X0 e0
  refine Gk.iloadN X0 hx (hb hby d18_0) rfl ?_
  refine Gk.callS (argsL := [(.int (4 : Int32))]) X0 hx hZ hown (nbl_4 l Z a0 h0 n0 hw  Z0) (W hw 84 rfl) (W hw 85 rfl) (W hw 24 rfl) (W hw 86 rfl) (by decide) e0 pd_0 rfl rfl rfl (by rw [hml]; rfl) rfl (hb hby d18_1) ?_
  intro T1 L1 v1 X1 hQ1
  obtain ⟨rfl, N1q, e1⟩ := hQ1
  have N1 := Fr.app (Fr.nil n0) N1q
  show Go p e below (T1.setTop (mkF m 4 _ [(.int (8 : Int32))])) _
  refine Gk.newP X1 hx hZ (W hw 26 rfl) e1 (hb hby d18_4) (by decide) (cap := 8) (by decide) (by decide) (by decide) (by decide) rfl ?_
  intro T2 h2 b2 k2 X2 e2 E2 g2 A2 B2
  have g_b2 : n0 ≤ b2 := Nat.le_trans Z0 (Nat.le_of_eq g2.symm)
  have V_b2 : Arf Z h2 b2 k2 .byte (8 : Int32) (fun _ => (.int (0 : Int32))) := A2
  have lt_b2 := V_b2.lt
  exact Gk.rR X2 hx hret rfl rfl rfl hns (hb hby d18_6) e2 ⟨congrArg (fun z_ : Addr => some (Value.ref z_)) (show b2 = h0.size from g2), N1, ((Keep.refl h0 []).ext E2), _, (g2 ▸ V_b2)⟩
theorem nbl_5 (hw : HW Z a0) (Z0 : n0 ≤ h0.size) : Ct l ⟨"java/lang/StringUTF16", "newBytesLength", "(I)I"⟩ jdk_52_method_3_code 1 (some .int) ⟨0, 0, 0, 0⟩ #[(.int (5 : Int32))] Z h0 (fun v h L => v = some (.int (10 : Int32)) ∧ Fr n0 L ∧ h = h0) := by
  refine Ct.of "java/lang/StringUTF16" rfl (plainFor_of_name pn_5) #[.val (.int (5 : Int32))] rfl rfl ?_
  intro p e s m below meth c s₁ hx hby hml hown hnm hret hns hZ hh X0 e0
  refine Gk.iloadN X0 hx (hb hby d19_0) rfl ?_
  refine Gk.ifYes X0 hx (hb hby d19_1) (flt (by decide : ¬ ((5 : Int32) < (0 : Int32)))).2.1 12 (by decide) (by decide) ?_
  refine Gk.iloadN X0 hx (hb hby d19_12) rfl ?_
  refine Gk.ldcI X0 hx hZ hown (W hw 87 rfl) (hb hby d19_13) ?_
  refine Gk.icmpYes X0 hx (hb hby d19_15) (tlt (by decide : (5 : Int32) < (1073741823 : Int32))).1 55 (by decide) (by decide) ?_
  refine Gk.iloadN X0 hx (hb hby d19_55) rfl ?_
  refine Gk.iconst X0 hx (hb hby d19_56) (1 : Int32) rfl ?_
  refine Gk.ishl X0 hx (hb hby d19_57) (10 : Int32) (by decide) ?_
  exact Gk.rI X0 hx hret hns (hb hby d19_58) e0 ⟨rfl, (Fr.nil n0), rfl⟩
theorem nbf_5 (hw : HW Z a0) (Z0 : n0 ≤ h0.size) : Ct l ⟨"java/lang/StringUTF16", "newBytesFor", "(I)[B"⟩ jdk_52_method_2_code 1 (some (.array .byte)) ⟨1, 1, 10, 12⟩ #[(.int (5 : Int32))] Z h0 (fun v h L => v = some (.ref h0.size) ∧ Fr n0 L ∧ Keep h0 h [] ∧ ∃ kb : ClassId, Arf Z h h0.size kb .byte (10 : Int32) (fun _ => (.int (0 : Int32)))) := by
  refine Ct.of "java/lang/StringUTF16" rfl (plainFor_of_name pn_5) #[.val (.int (5 : Int32))] rfl rfl ?_
  intro p e s m below meth c s₁ hx hby hml hown hnm hret hns hZ hh X0 e0
  refine Gk.iloadN X0 hx (hb hby d18_0) rfl ?_
  refine Gk.callS (argsL := [(.int (5 : Int32))]) X0 hx hZ hown (nbl_5 l Z a0 h0 n0 hw  Z0) (W hw 84 rfl) (W hw 85 rfl) (W hw 24 rfl) (W hw 86 rfl) (by decide) e0 pd_0 rfl rfl rfl (by rw [hml]; rfl) rfl (hb hby d18_1) ?_
  intro T1 L1 v1 X1 hQ1
  obtain ⟨rfl, N1q, e1⟩ := hQ1
  have N1 := Fr.app (Fr.nil n0) N1q
  show Go p e below (T1.setTop (mkF m 4 _ [(.int (10 : Int32))])) _
  refine Gk.newP X1 hx hZ (W hw 26 rfl) e1 (hb hby d18_4) (by decide) (cap := 10) (by decide) (by decide) (by decide) (by decide) rfl ?_
  intro T2 h2 b2 k2 X2 e2 E2 g2 A2 B2
  have g_b2 : n0 ≤ b2 := Nat.le_trans Z0 (Nat.le_of_eq g2.symm)
  have V_b2 : Arf Z h2 b2 k2 .byte (10 : Int32) (fun _ => (.int (0 : Int32))) := A2
  have lt_b2 := V_b2.lt
  exact Gk.rR X2 hx hret rfl rfl rfl hns (hb hby d18_6) e2 ⟨congrArg (fun z_ : Addr => some (Value.ref z_)) (show b2 = h0.size from g2), N1, ((Keep.refl h0 []).ext E2), _, (g2 ▸ V_b2)⟩
theorem d20_0 : decode jdk_52_method_4_code 0 = .ok (.getstatic 44, 3) := by decide +kernel
theorem d20_3 : decode jdk_52_method_4_code 3 = .ok (.ifCond .ne 25, 3) := by decide +kernel
theorem d20_28 : decode jdk_52_method_4_code 28 = .ok (.iload_n 1, 1) := by decide +kernel
theorem d20_29 : decode jdk_52_method_4_code 29 = .ok (.iconst 1, 1) := by decide +kernel
theorem d20_30 : decode jdk_52_method_4_code 30 = .ok (.ishl, 1) := by decide +kernel
theorem d20_31 : decode jdk_52_method_4_code 31 = .ok (.istore_n 1, 1) := by decide +kernel
theorem d20_32 : decode jdk_52_method_4_code 32 = .ok (.aload_n 0, 1) := by decide +kernel
theorem d20_33 : decode jdk_52_method_4_code 33 = .ok (.iload_n 1, 1) := by decide +kernel
theorem d20_34 : decode jdk_52_method_4_code 34 = .ok (.iinc 1 1, 3) := by decide +kernel
theorem d20_37 : decode jdk_52_method_4_code 37 = .ok (.iload_n 2, 1) := by decide +kernel
theorem d20_38 : decode jdk_52_method_4_code 38 = .ok (.getstatic 59, 3) := by decide +kernel
theorem d20_41 : decode jdk_52_method_4_code 41 = .ok (.ishr, 1) := by decide +kernel
theorem d20_42 : decode jdk_52_method_4_code 42 = .ok (.i2b, 1) := by decide +kernel
theorem d20_43 : decode jdk_52_method_4_code 43 = .ok (.bastore, 1) := by decide +kernel
theorem d20_44 : decode jdk_52_method_4_code 44 = .ok (.aload_n 0, 1) := by decide +kernel
theorem d20_45 : decode jdk_52_method_4_code 45 = .ok (.iload_n 1, 1) := by decide +kernel
theorem d20_46 : decode jdk_52_method_4_code 46 = .ok (.iload_n 2, 1) := by decide +kernel
theorem d20_47 : decode jdk_52_method_4_code 47 = .ok (.getstatic 63, 3) := by decide +kernel
theorem d20_50 : decode jdk_52_method_4_code 50 = .ok (.ishr, 1) := by decide +kernel
theorem d20_51 : decode jdk_52_method_4_code 51 = .ok (.i2b, 1) := by decide +kernel
theorem d20_52 : decode jdk_52_method_4_code 52 = .ok (.bastore, 1) := by decide +kernel
theorem d20_53 : decode jdk_52_method_4_code 53 = .ok (.return_, 1) := by decide +kernel
theorem pch_0 (hw : HW Z a0) (a1 : Addr) (p3 : Int32) (kb : ClassId) (fb : Nat → Value) (n2 : Int32) (Z0 : n0 ≤ h0.size) (S__assertionsDisabled : Stx Z n0 h0 "java/lang/StringUTF16" "$assertionsDisabled" "Z" (.int (1 : Int32))) (S_HI_BYTE_SHIFT : Stx Z n0 h0 "java/lang/StringUTF16" "HI_BYTE_SHIFT" "I" (.int (0 : Int32))) (S_LO_BYTE_SHIFT : Stx Z n0 h0 "java/lang/StringUTF16" "LO_BYTE_SHIFT" "I" (.int (8 : Int32))) (V_b : Arf Z h0 a1 kb .byte n2 fb) (hn0_ : (0 : Int32) < n2) (hn1_ : (1 : Int32) < n2) (g_a1 : n0 ≤ a1) : Ct l ⟨"java/lang/StringUTF16", "putChar", "([BII)V"⟩ jdk_52_method_4_code 3 none ⟨0, 0, 0, 0⟩ #[(.ref a1), (.int (0 : Int32)), (.int p3)] Z h0 (fun v h L => v = none ∧ Fr n0 L ∧ Keep h0 h [a1] ∧ Arf Z h a1 kb .byte n2 (upd (upd fb 0 (.int ((p3 >>> ((0 : Int32) &&& 31)).toInt8.toInt32))) 1 (.int ((p3 >>> ((8 : Int32) &&& 31)).toInt8.toInt32)))) := by
  refine Ct.of "java/lang/StringUTF16" rfl (plainFor_of_name pn_5) #[.val (.ref a1), .val (.int (0 : Int32)), .val (.int p3)] rfl rfl ?_
  intro p e s m below meth c s₁ hx hby hml hown hnm hret hns hZ hh X0 e0
  refine Gk.getS X0 hx hZ hown (host := "") (Or.inl (W hw 91 rfl)) Via.refl e0 S__assertionsDisabled.sta (hb hby d20_0) ?_
  intro T1 X1 e1
  refine Gk.ifYes X1 hx (hb hby d20_3) (feq (by decide : ¬ ((1 : Int32) = (0 : Int32)))).2 28 (by decide) (by decide) ?_
  refine Gk.iloadN X1 hx (hb hby d20_28) rfl ?_
  refine Gk.iconst X1 hx (hb hby d20_29) (1 : Int32) rfl ?_
  refine Gk.ishl X1 hx (hb hby d20_30) (0 : Int32) (by decide) ?_
  refine Gk.istoreN X1 hx (hb hby d20_31) #[.val (.ref a1), .val (.int (0 : Int32)), .val (.int p3)] rfl ?_
  refine Gk.aloadN X1 hx (hb hby d20_32) rfl rfl ?_
  refine Gk.iloadN X1 hx (hb hby d20_33) rfl ?_
  refine Gk.iinc X1 hx (hb hby d20_34) rfl #[.val (.ref a1), .val (.int (1 : Int32)), .val (.int p3)] rfl ?_
  refine Gk.iloadN X1 hx (hb hby d20_37) rfl ?_
  refine Gk.getS X1 hx hZ hown (host := "") (Or.inl (W hw 92 rfl)) Via.refl e1 S_HI_BYTE_SHIFT.sta (hb hby d20_38) ?_
  intro T2 X2 e2
  refine Gk.ishr X2 hx (hb hby d20_41) _ rfl ?_
  refine Gk.i2b X2 hx (hb hby d20_42) _ rfl ?_
  refine Gk.bastoreB X2 hx hZ e2 V_b 0 rfl ⟨by decide, hn0_⟩ (.int ((p3 >>> ((0 : Int32) &&& 31)).toInt8.toInt32)) (congrArg Value.int (own_nb _)) (hb hby d20_43) ?_
  intro T3 h3 X3 e3 W3 V3
  have N3 := Fr.snoc X3 (Fr.nil n0) g_a1
  refine Gk.aloadN X3 hx (hb hby d20_44) rfl rfl ?_
  refine Gk.iloadN X3 hx (hb hby d20_45) rfl ?_
  refine Gk.iloadN X3 hx (hb hby d20_46) rfl ?_
  have H4 := (S_LO_BYTE_SHIFT.wr W3)
  refine Gk.getS X3 hx hZ hown (host := "") (Or.inl (W hw 93 rfl)) Via.refl e3 H4.sta (hb hby d20_47) ?_
  intro T5 X5 e5
  refine Gk.ishr X5 hx (hb hby d20_50) _ rfl ?_
  refine Gk.i2b X5 hx (hb hby d20_51) _ rfl ?_
  refine Gk.bastoreB X5 hx hZ e5 V3 1 rfl ⟨by decide, hn1_⟩ (.int ((p3 >>> ((8 : Int32) &&& 31)).toInt8.toInt32)) (congrArg Value.int (own_nb _)) (hb hby d20_52) ?_
  intro T6 h6 X6 e6 W6 V6
  have N6 := Fr.snoc X6 N3 g_a1
  exact Gk.rV X6 hx hret hns (hb hby d20_53) e6 ⟨rfl, N6, (((Keep.refl h0 [a1]).wr W3 (Or.inl (List.mem_of_getElem? (i := 0) rfl))).wr W6 (Or.inl (List.mem_of_getElem? (i := 0) rfl))), V6⟩
theorem d21_0 : decode jdk_52_method_5_code 0 = .ok (.getstatic 44, 3) := by decide +kernel
theorem d21_3 : decode jdk_52_method_5_code 3 = .ok (.ifCond .ne 25, 3) := by decide +kernel
theorem d21_28 : decode jdk_52_method_5_code 28 = .ok (.iload_n 1, 1) := by decide +kernel
theorem d21_29 : decode jdk_52_method_5_code 29 = .ok (.iconst 1, 1) := by decide +kernel
theorem d21_30 : decode jdk_52_method_5_code 30 = .ok (.ishl, 1) := by decide +kernel
theorem d21_31 : decode jdk_52_method_5_code 31 = .ok (.istore_n 1, 1) := by decide +kernel
theorem d21_32 : decode jdk_52_method_5_code 32 = .ok (.aload_n 0, 1) := by decide +kernel
theorem d21_33 : decode jdk_52_method_5_code 33 = .ok (.iload_n 1, 1) := by decide +kernel
theorem d21_34 : decode jdk_52_method_5_code 34 = .ok (.iinc 1 1, 3) := by decide +kernel
theorem d21_37 : decode jdk_52_method_5_code 37 = .ok (.baload, 1) := by decide +kernel
theorem d21_38 : decode jdk_52_method_5_code 38 = .ok (.sipush 255, 3) := by decide +kernel
theorem d21_41 : decode jdk_52_method_5_code 41 = .ok (.iand, 1) := by decide +kernel
theorem d21_42 : decode jdk_52_method_5_code 42 = .ok (.getstatic 59, 3) := by decide +kernel
theorem d21_45 : decode jdk_52_method_5_code 45 = .ok (.ishl, 1) := by decide +kernel
theorem d21_46 : decode jdk_52_method_5_code 46 = .ok (.aload_n 0, 1) := by decide +kernel
theorem d21_47 : decode jdk_52_method_5_code 47 = .ok (.iload_n 1, 1) := by decide +kernel
theorem d21_48 : decode jdk_52_method_5_code 48 = .ok (.baload, 1) := by decide +kernel
theorem d21_49 : decode jdk_52_method_5_code 49 = .ok (.sipush 255, 3) := by decide +kernel
theorem d21_52 : decode jdk_52_method_5_code 52 = .ok (.iand, 1) := by decide +kernel
theorem d21_53 : decode jdk_52_method_5_code 53 = .ok (.getstatic 63, 3) := by decide +kernel
theorem d21_56 : decode jdk_52_method_5_code 56 = .ok (.ishl, 1) := by decide +kernel
theorem d21_57 : decode jdk_52_method_5_code 57 = .ok (.ior, 1) := by decide +kernel
theorem d21_58 : decode jdk_52_method_5_code 58 = .ok (.i2c, 1) := by decide +kernel
theorem d21_59 : decode jdk_52_method_5_code 59 = .ok (.ireturn, 1) := by decide +kernel
theorem gch_0 (hw : HW Z a0) (a1 : Addr) (kb : ClassId) (fb : Nat → Value) (n2 cx : Int32) (Z0 : n0 ≤ h0.size) (S__assertionsDisabled : Stx Z n0 h0 "java/lang/StringUTF16" "$assertionsDisabled" "Z" (.int (1 : Int32))) (S_HI_BYTE_SHIFT : Stx Z n0 h0 "java/lang/StringUTF16" "HI_BYTE_SHIFT" "I" (.int (0 : Int32))) (S_LO_BYTE_SHIFT : Stx Z n0 h0 "java/lang/StringUTF16" "LO_BYTE_SHIFT" "I" (.int (8 : Int32))) (V_b : Arf Z h0 a1 kb .byte n2 fb) (hn0_ : (0 : Int32) < n2) (hn1_ : (1 : Int32) < n2) (hl_ : fb 0 = .int ((cx >>> ((0 : Int32) &&& 31)).toInt8.toInt32)) (hh_ : fb 1 = .int ((cx >>> ((8 : Int32) &&& 31)).toInt8.toInt32)) (hbx : 0 ≤ cx.toInt ∧ cx.toInt < 65536) : Ct l ⟨"java/lang/StringUTF16", "getChar", "([BI)C"⟩ jdk_52_method_5_code 2 (some .char) ⟨0, 0, 0, 0⟩ #[(.ref a1), (.int (0 : Int32))] Z h0 (fun v h L => v = some (.int cx) ∧ Fr n0 L ∧ h = h0) := by
  refine Ct.of "java/lang/StringUTF16" rfl (plainFor_of_name pn_5) #[.val (.ref a1), .val (.int (0 : Int32))] rfl rfl ?_
  intro p e s m below meth c s₁ hx hby hml hown hnm hret hns hZ hh X0 e0
  refine Gk.getS X0 hx hZ hown (host := "") (Or.inl (W hw 91 rfl)) Via.refl e0 S__assertionsDisabled.sta (hb hby d21_0) ?_
  intro T1 X1 e1
  refine Gk.ifYes X1 hx (hb hby d21_3) (feq (by decide : ¬ ((1 : Int32) = (0 : Int32)))).2 28 (by decide) (by decide) ?_
  refine Gk.iloadN X1 hx (hb hby d21_28) rfl ?_
  refine Gk.iconst X1 hx (hb hby d21_29) (1 : Int32) rfl ?_
  refine Gk.ishl X1 hx (hb hby d21_30) (0 : Int32) (by decide) ?_
  refine Gk.istoreN X1 hx (hb hby d21_31) #[.val (.ref a1), .val (.int (0 : Int32))] rfl ?_
  refine Gk.aloadN X1 hx (hb hby d21_32) rfl rfl ?_
  refine Gk.iloadN X1 hx (hb hby d21_33) rfl ?_
  refine Gk.iinc X1 hx (hb hby d21_34) rfl #[.val (.ref a1), .val (.int (1 : Int32))] rfl ?_
  refine Gk.baloadB X1 hx hZ e1 V_b ⟨by decide, hn0_⟩ (.int ((cx >>> ((0 : Int32) &&& 31)).toInt8.toInt32)) hl_ (hb hby d21_37) ?_
  refine Gk.sipush X1 hx (hb hby d21_38) (255 : Int32) rfl ?_
  refine Gk.iand X1 hx (hb hby d21_41) _ rfl ?_
  refine Gk.getS X1 hx hZ hown (host := "") (Or.inl (W hw 92 rfl)) Via.refl e1 S_HI_BYTE_SHIFT.sta (hb hby d21_42) ?_
  intro T3 X3 e3
  refine Gk.ishl X3 hx (hb hby d21_45) _ rfl ?_
  refine Gk.aloadN X3 hx (hb hby d21_46) rfl rfl ?_
  refine Gk.iloadN X3 hx (hb hby d21_47) rfl ?_
  refine Gk.baloadB X3 hx hZ e3 V_b ⟨by decide, hn1_⟩ (.int ((cx >>> ((8 : Int32) &&& 31)).toInt8.toInt32)) hh_ (hb hby d21_48) ?_
  refine Gk.sipush X3 hx (hb hby d21_49) (255 : Int32) rfl ?_
  refine Gk.iand X3 hx (hb hby d21_52) _ rfl ?_
  refine Gk.getS X3 hx hZ hown (host := "") (Or.inl (W hw 93 rfl)) Via.refl e3 S_LO_BYTE_SHIFT.sta (hb hby d21_53) ?_
  intro T5 X5 e5
  refine Gk.ishl X5 hx (hb hby d21_56) _ rfl ?_
  refine Gk.ior X5 hx (hb hby d21_57) _ rfl ?_
  refine Gk.i2c X5 hx (hb hby d21_58) _ rfl ?_
  exact Gk.rN X5 hx hret (by simp) hns (hb hby d21_59) e5 (nar .char ((((((cx >>> ((0 : Int32) &&& 31)).toInt8.toInt32) &&& (255 : Int32)) <<< ((0 : Int32) &&& 31)) ||| ((((cx >>> ((8 : Int32) &&& 31)).toInt8.toInt32) &&& (255 : Int32)) <<< ((8 : Int32) &&& 31))).toUInt32.toUInt16.toUInt32.toInt32)) rfl ⟨congrArg (fun z_ : Int32 => some (Value.int z_)) (show (nar .char ((((((cx >>> ((0 : Int32) &&& 31)).toInt8.toInt32) &&& (255 : Int32)) <<< ((0 : Int32) &&& 31)) ||| ((((cx >>> ((8 : Int32) &&& 31)).toInt8.toInt32) &&& (255 : Int32)) <<< ((8 : Int32) &&& 31))).toUInt32.toUInt16.toUInt32.toInt32)) = cx from (own_dec hbx)), (Fr.nil n0), rfl⟩
theorem pch_1 (hw : HW Z a0) (a1 : Addr) (p3 : Int32) (kb : ClassId) (fb : Nat → Value) (n2 : Int32) (Z0 : n0 ≤ h0.size) (S__assertionsDisabled : Stx Z n0 h0 "java/lang/StringUTF16" "$assertionsDisabled" "Z" (.int (1 : Int32))) (S_HI_BYTE_SHIFT : Stx Z n0 h0 "java/lang/StringUTF16" "HI_BYTE_SHIFT" "I" (.int (0 : Int32))) (S_LO_BYTE_SHIFT : Stx Z n0 h0 "java/lang/StringUTF16" "LO_BYTE_SHIFT" "I" (.int (8 : Int32))) (V_b : Arf Z h0 a1 kb .byte n2 fb) (hn0_ : (2 : Int32) < n2) (hn1_ : (3 : Int32) < n2) (g_a1 : n0 ≤ a1) : Ct l ⟨"java/lang/StringUTF16", "putChar", "([BII)V"⟩ jdk_52_method_4_code 3 none ⟨0, 0, 0, 0⟩ #[(.ref a1), (.int (1 : Int32)), (.int p3)] Z h0 (fun v h L => v = none ∧ Fr n0 L ∧ Keep h0 h [a1] ∧ Arf Z h a1 kb .byte n2 (upd (upd fb 2 (.int ((p3 >>> ((0 : Int32) &&& 31)).toInt8.toInt32))) 3 (.int ((p3 >>> ((8 : Int32) &&& 31)).toInt8.toInt32)))) := by
  refine Ct.of "java/lang/StringUTF16" rfl (plainFor_of_name pn_5) #[.val (.ref a1), .val (.int (1 : Int32)), .val (.int p3)] rfl rfl ?_
  intro p e s m below meth c s₁ hx hby hml hown hnm hret hns hZ hh X0 e0
  refine Gk.getS X0 hx hZ hown (host := "") (Or.inl (W hw 91 rfl)) Via.refl e0 S__assertionsDisabled.sta (hb hby d20_0) ?_
  intro T1 X1 e1
  refine Gk.ifYes X1 hx (hb hby d20_3) (feq (by decide : ¬ ((1 : Int32) = (0 : Int32)))).2 28 (by decide) (by decide) ?_
  refine Gk.iloadN X1 hx (hb hby d20_28) rfl ?_
  refine Gk.iconst X1 hx (hb hby d20_29) (1 : Int32) rfl ?_
  refine Gk.ishl X1 hx (hb hby d20_30) (2 : Int32) (by decide) ?_
  refine Gk.istoreN X1 hx (hb hby d20_31) #[.val (.ref a1), .val (.int (2 : Int32)), .val (.int p3)] rfl ?_
  refine Gk.aloadN X1 hx (hb hby d20_32) rfl rfl ?_
  refine Gk.iloadN X1 hx (hb hby d20_33) rfl ?_
  refine Gk.iinc X1 hx (hb hby d20_34) rfl #[.val (.ref a1), .val (.int (3 : Int32)), .val (.int p3)] rfl ?_
  refine Gk.iloadN X1 hx (hb hby d20_37) rfl ?_
  refine Gk.getS X1 hx hZ hown (host := "") (Or.inl (W hw 92 rfl)) Via.refl e1 S_HI_BYTE_SHIFT.sta (hb hby d20_38) ?_
  intro T2 X2 e2
  refine Gk.ishr X2 hx (hb hby d20_41) _ rfl ?_
  refine Gk.i2b X2 hx (hb hby d20_42) _ rfl ?_
  refine Gk.bastoreB X2 hx hZ e2 V_b 2 rfl ⟨by decide, hn0_⟩ (.int ((p3 >>> ((0 : Int32) &&& 31)).toInt8.toInt32)) (congrArg Value.int (own_nb _)) (hb hby d20_43) ?_
  intro T3 h3 X3 e3 W3 V3
  have N3 := Fr.snoc X3 (Fr.nil n0) g_a1
  refine Gk.aloadN X3 hx (hb hby d20_44) rfl rfl ?_
  refine Gk.iloadN X3 hx (hb hby d20_45) rfl ?_
  refine Gk.iloadN X3 hx (hb hby d20_46) rfl ?_
  have H4 := (S_LO_BYTE_SHIFT.wr W3)
  refine Gk.getS X3 hx hZ hown (host := "") (Or.inl (W hw 93 rfl)) Via.refl e3 H4.sta (hb hby d20_47) ?_
  intro T5 X5 e5
  refine Gk.ishr X5 hx (hb hby d20_50) _ rfl ?_
  refine Gk.i2b X5 hx (hb hby d20_51) _ rfl ?_
  refine Gk.bastoreB X5 hx hZ e5 V3 3 rfl ⟨by decide, hn1_⟩ (.int ((p3 >>> ((8 : Int32) &&& 31)).toInt8.toInt32)) (congrArg Value.int (own_nb _)) (hb hby d20_52) ?_
  intro T6 h6 X6 e6 W6 V6
  have N6 := Fr.snoc X6 N3 g_a1
  exact Gk.rV X6 hx hret hns (hb hby d20_53) e6 ⟨rfl, N6, (((Keep.refl h0 [a1]).wr W3 (Or.inl (List.mem_of_getElem? (i := 0) rfl))).wr W6 (Or.inl (List.mem_of_getElem? (i := 0) rfl))), V6⟩
theorem gch_1 (hw : HW Z a0) (a1 : Addr) (kb : ClassId) (fb : Nat → Value) (n2 cx : Int32) (Z0 : n0 ≤ h0.size) (S__assertionsDisabled : Stx Z n0 h0 "java/lang/StringUTF16" "$assertionsDisabled" "Z" (.int (1 : Int32))) (S_HI_BYTE_SHIFT : Stx Z n0 h0 "java/lang/StringUTF16" "HI_BYTE_SHIFT" "I" (.int (0 : Int32))) (S_LO_BYTE_SHIFT : Stx Z n0 h0 "java/lang/StringUTF16" "LO_BYTE_SHIFT" "I" (.int (8 : Int32))) (V_b : Arf Z h0 a1 kb .byte n2 fb) (hn0_ : (2 : Int32) < n2) (hn1_ : (3 : Int32) < n2) (hl_ : fb 2 = .int ((cx >>> ((0 : Int32) &&& 31)).toInt8.toInt32)) (hh_ : fb 3 = .int ((cx >>> ((8 : Int32) &&& 31)).toInt8.toInt32)) (hbx : 0 ≤ cx.toInt ∧ cx.toInt < 65536) : Ct l ⟨"java/lang/StringUTF16", "getChar", "([BI)C"⟩ jdk_52_method_5_code 2 (some .char) ⟨0, 0, 0, 0⟩ #[(.ref a1), (.int (1 : Int32))] Z h0 (fun v h L => v = some (.int cx) ∧ Fr n0 L ∧ h = h0) := by
  refine Ct.of "java/lang/StringUTF16" rfl (plainFor_of_name pn_5) #[.val (.ref a1), .val (.int (1 : Int32))] rfl rfl ?_
  intro p e s m below meth c s₁ hx hby hml hown hnm hret hns hZ hh X0 e0
  refine Gk.getS X0 hx hZ hown (host := "") (Or.inl (W hw 91 rfl)) Via.refl e0 S__assertionsDisabled.sta (hb hby d21_0) ?_
  intro T1 X1 e1
  refine Gk.ifYes X1 hx (hb hby d21_3) (feq (by decide : ¬ ((1 : Int32) = (0 : Int32)))).2 28 (by decide) (by decide) ?_
  refine Gk.iloadN X1 hx (hb hby d21_28) rfl ?_
  refine Gk.iconst X1 hx (hb hby d21_29) (1 : Int32) rfl ?_
  refine Gk.ishl X1 hx (hb hby d21_30) (2 : Int32) (by decide) ?_
  refine Gk.istoreN X1 hx (hb hby d21_31) #[.val (.ref a1), .val (.int (2 : Int32))] rfl ?_
  refine Gk.aloadN X1 hx (hb hby d21_32) rfl rfl ?_
  refine Gk.iloadN X1 hx (hb hby d21_33) rfl ?_
  refine Gk.iinc X1 hx (hb hby d21_34) rfl #[.val (.ref a1), .val (.int (3 : Int32))] rfl ?_
  refine Gk.baloadB X1 hx hZ e1 V_b ⟨by decide, hn0_⟩ (.int ((cx >>> ((0 : Int32) &&& 31)).toInt8.toInt32)) hl_ (hb hby d21_37) ?_
  refine Gk.sipush X1 hx (hb hby d21_38) (255 : Int32) rfl ?_
  refine Gk.iand X1 hx (hb hby d21_41) _ rfl ?_
  refine Gk.getS X1 hx hZ hown (host := "") (Or.inl (W hw 92 rfl)) Via.refl e1 S_HI_BYTE_SHIFT.sta (hb hby d21_42) ?_
  intro T3 X3 e3
  refine Gk.ishl X3 hx (hb hby d21_45) _ rfl ?_
  refine Gk.aloadN X3 hx (hb hby d21_46) rfl rfl ?_
  refine Gk.iloadN X3 hx (hb hby d21_47) rfl ?_
  refine Gk.baloadB X3 hx hZ e3 V_b ⟨by decide, hn1_⟩ (.int ((cx >>> ((8 : Int32) &&& 31)).toInt8.toInt32)) hh_ (hb hby d21_48) ?_
  refine Gk.sipush X3 hx (hb hby d21_49) (255 : Int32) rfl ?_
  refine Gk.iand X3 hx (hb hby d21_52) _ rfl ?_
  refine Gk.getS X3 hx hZ hown (host := "") (Or.inl (W hw 93 rfl)) Via.refl e3 S_LO_BYTE_SHIFT.sta (hb hby d21_53) ?_
  intro T5 X5 e5
  refine Gk.ishl X5 hx (hb hby d21_56) _ rfl ?_
  refine Gk.ior X5 hx (hb hby d21_57) _ rfl ?_
  refine Gk.i2c X5 hx (hb hby d21_58) _ rfl ?_
  exact Gk.rN X5 hx hret (by simp) hns (hb hby d21_59) e5 (nar .char ((((((cx >>> ((0 : Int32) &&& 31)).toInt8.toInt32) &&& (255 : Int32)) <<< ((0 : Int32) &&& 31)) ||| ((((cx >>> ((8 : Int32) &&& 31)).toInt8.toInt32) &&& (255 : Int32)) <<< ((8 : Int32) &&& 31))).toUInt32.toUInt16.toUInt32.toInt32)) rfl ⟨congrArg (fun z_ : Int32 => some (Value.int z_)) (show (nar .char ((((((cx >>> ((0 : Int32) &&& 31)).toInt8.toInt32) &&& (255 : Int32)) <<< ((0 : Int32) &&& 31)) ||| ((((cx >>> ((8 : Int32) &&& 31)).toInt8.toInt32) &&& (255 : Int32)) <<< ((8 : Int32) &&& 31))).toUInt32.toUInt16.toUInt32.toInt32)) = cx from (own_dec hbx)), (Fr.nil n0), rfl⟩
theorem pch_2 (hw : HW Z a0) (a1 : Addr) (p3 : Int32) (kb : ClassId) (fb : Nat → Value) (n2 : Int32) (Z0 : n0 ≤ h0.size) (S__assertionsDisabled : Stx Z n0 h0 "java/lang/StringUTF16" "$assertionsDisabled" "Z" (.int (1 : Int32))) (S_HI_BYTE_SHIFT : Stx Z n0 h0 "java/lang/StringUTF16" "HI_BYTE_SHIFT" "I" (.int (0 : Int32))) (S_LO_BYTE_SHIFT : Stx Z n0 h0 "java/lang/StringUTF16" "LO_BYTE_SHIFT" "I" (.int (8 : Int32))) (V_b : Arf Z h0 a1 kb .byte n2 fb) (hn0_ : (4 : Int32) < n2) (hn1_ : (5 : Int32) < n2) (g_a1 : n0 ≤ a1) : Ct l ⟨"java/lang/StringUTF16", "putChar", "([BII)V"⟩ jdk_52_method_4_code 3 none ⟨0, 0, 0, 0⟩ #[(.ref a1), (.int (2 : Int32)), (.int p3)] Z h0 (fun v h L => v = none ∧ Fr n0 L ∧ Keep h0 h [a1] ∧ Arf Z h a1 kb .byte n2 (upd (upd fb 4 (.int ((p3 >>> ((0 : Int32) &&& 31)).toInt8.toInt32))) 5 (.int ((p3 >>> ((8 : Int32) &&& 31)).toInt8.toInt32)))) := by
  refine Ct.of "java/lang/StringUTF16" rfl (plainFor_of_name pn_5) #[.val (.ref a1), .val (.int (2 : Int32)), .val (.int p3)] rfl rfl ?_
  intro p e s m below meth c s₁ hx hby hml hown hnm hret hns hZ hh X0 e0
  refine Gk.getS X0 hx hZ hown (host := "") (Or.inl (W hw 91 rfl)) Via.refl e0 S__assertionsDisabled.sta (hb hby d20_0) ?_
  intro T1 X1 e1
  refine Gk.ifYes X1 hx (hb hby d20_3) (feq (by decide : ¬ ((1 : Int32) = (0 : Int32)))).2 28 (by decide) (by decide) ?_
  refine Gk.iloadN X1 hx (hb hby d20_28) rfl ?_
  refine Gk.iconst X1 hx (hb hby d20_29) (1 : Int32) rfl ?_
  refine Gk.ishl X1 hx (hb hby d20_30) (4 : Int32) (by decide) ?_
  refine Gk.istoreN X1 hx (hb hby d20_31) #[.val (.ref a1), .val (.int (4 : Int32)), .val (.int p3)] rfl ?_
  refine Gk.aloadN X1 hx (hb hby d20_32) rfl rfl ?_
  refine Gk.iloadN X1 hx (hb hby d20_33) rfl ?_
  refine Gk.iinc X1 hx (hb hby d20_34) rfl #[.val (.ref a1), .val (.int (5 : Int32)), .val (.int p3)] rfl ?_
  refine Gk.iloadN X1 hx (hb hby d20_37) rfl ?_
  refine Gk.getS X1 hx hZ hown (host := "") (Or.inl (W hw 92 rfl)) Via.refl e1 S_HI_BYTE_SHIFT.sta (hb hby d20_38) ?_
  intro T2 X2 e2
  refine Gk.ishr X2 hx (hb hby d20_41) _ rfl ?_
  refine Gk.i2b X2 hx (hb hby d20_42) _ rfl ?_
  refine Gk.bastoreB X2 hx hZ e2 V_b 4 rfl ⟨by decide, hn0_⟩ (.int ((p3 >>> ((0 : Int32) &&& 31)).toInt8.toInt32)) (congrArg Value.int (own_nb _)) (hb hby d20_43) ?_
  intro T3 h3 X3 e3 W3 V3
  have N3 := Fr.snoc X3 (Fr.nil n0) g_a1
  refine Gk.aloadN X3 hx (hb hby d20_44) rfl rfl ?_
  refine Gk.iloadN X3 hx (hb hby d20_45) rfl ?_
  refine Gk.iloadN X3 hx (hb hby d20_46) rfl ?_
  have H4 := (S_LO_BYTE_SHIFT.wr W3)
  refine Gk.getS X3 hx hZ hown (host := "") (Or.inl (W hw 93 rfl)) Via.refl e3 H4.sta (hb hby d20_47) ?_
  intro T5 X5 e5
  refine Gk.ishr X5 hx (hb hby d20_50) _ rfl ?_
  refine Gk.i2b X5 hx (hb hby d20_51) _ rfl ?_
  refine Gk.bastoreB X5 hx hZ e5 V3 5 rfl ⟨by decide, hn1_⟩ (.int ((p3 >>> ((8 : Int32) &&& 31)).toInt8.toInt32)) (congrArg Value.int (own_nb _)) (hb hby d20_52) ?_
  intro T6 h6 X6 e6 W6 V6
  have N6 := Fr.snoc X6 N3 g_a1
  exact Gk.rV X6 hx hret hns (hb hby d20_53) e6 ⟨rfl, N6, (((Keep.refl h0 [a1]).wr W3 (Or.inl (List.mem_of_getElem? (i := 0) rfl))).wr W6 (Or.inl (List.mem_of_getElem? (i := 0) rfl))), V6⟩
theorem gch_2 (hw : HW Z a0) (a1 : Addr) (kb : ClassId) (fb : Nat → Value) (n2 cx : Int32) (Z0 : n0 ≤ h0.size) (S__assertionsDisabled : Stx Z n0 h0 "java/lang/StringUTF16" "$assertionsDisabled" "Z" (.int (1 : Int32))) (S_HI_BYTE_SHIFT : Stx Z n0 h0 "java/lang/StringUTF16" "HI_BYTE_SHIFT" "I" (.int (0 : Int32))) (S_LO_BYTE_SHIFT : Stx Z n0 h0 "java/lang/StringUTF16" "LO_BYTE_SHIFT" "I" (.int (8 : Int32))) (V_b : Arf Z h0 a1 kb .byte n2 fb) (hn0_ : (4 : Int32) < n2) (hn1_ : (5 : Int32) < n2) (hl_ : fb 4 = .int ((cx >>> ((0 : Int32) &&& 31)).toInt8.toInt32)) (hh_ : fb 5 = .int ((cx >>> ((8 : Int32) &&& 31)).toInt8.toInt32)) (hbx : 0 ≤ cx.toInt ∧ cx.toInt < 65536) : Ct l ⟨"java/lang/StringUTF16", "getChar", "([BI)C"⟩ jdk_52_method_5_code 2 (some .char) ⟨0, 0, 0, 0⟩ #[(.ref a1), (.int (2 : Int32))] Z h0 (fun v h L => v = some (.int cx) ∧ Fr n0 L ∧ h = h0) := by
  refine Ct.of "java/lang/StringUTF16" rfl (plainFor_of_name pn_5) #[.val (.ref a1), .val (.int (2 : Int32))] rfl rfl ?_
  intro p e s m below meth c s₁ hx hby hml hown hnm hret hns hZ hh X0 e0
  refine Gk.getS X0 hx hZ hown (host := "") (Or.inl (W hw 91 rfl)) Via.refl e0 S__assertionsDisabled.sta (hb hby d21_0) ?_
  intro T1 X1 e1
  refine Gk.ifYes X1 hx (hb hby d21_3) (feq (by decide : ¬ ((1 : Int32) = (0 : Int32)))).2 28 (by decide) (by decide) ?_
  refine Gk.iloadN X1 hx (hb hby d21_28) rfl ?_
  refine Gk.iconst X1 hx (hb hby d21_29) (1 : Int32) rfl ?_
  refine Gk.ishl X1 hx (hb hby d21_30) (4 : Int32) (by decide) ?_
  refine Gk.istoreN X1 hx (hb hby d21_31) #[.val (.ref a1), .val (.int (4 : Int32))] rfl ?_
  refine Gk.aloadN X1 hx (hb hby d21_32) rfl rfl ?_
  refine Gk.iloadN X1 hx (hb hby d21_33) rfl ?_
  refine Gk.iinc X1 hx (hb hby d21_34) rfl #[.val (.ref a1), .val (.int (5 : Int32))] rfl ?_
  refine Gk.baloadB X1 hx hZ e1 V_b ⟨by decide, hn0_⟩ (.int ((cx >>> ((0 : Int32) &&& 31)).toInt8.toInt32)) hl_ (hb hby d21_37) ?_
  refine Gk.sipush X1 hx (hb hby d21_38) (255 : Int32) rfl ?_
  refine Gk.iand X1 hx (hb hby d21_41) _ rfl ?_
  refine Gk.getS X1 hx hZ hown (host := "") (Or.inl (W hw 92 rfl)) Via.refl e1 S_HI_BYTE_SHIFT.sta (hb hby d21_42) ?_
  intro T3 X3 e3
  refine Gk.ishl X3 hx (hb hby d21_45) _ rfl ?_
  refine Gk.aloadN X3 hx (hb hby d21_46) rfl rfl ?_
  refine Gk.iloadN X3 hx (hb hby d21_47) rfl ?_
  refine Gk.baloadB X3 hx hZ e3 V_b ⟨by decide, hn1_⟩ (.int ((cx >>> ((8 : Int32) &&& 31)).toInt8.toInt32)) hh_ (hb hby d21_48) ?_
  refine Gk.sipush X3 hx (hb hby d21_49) (255 : Int32) rfl ?_
  refine Gk.iand X3 hx (hb hby d21_52) _ rfl ?_
  refine Gk.getS X3 hx hZ hown (host := "") (Or.inl (W hw 93 rfl)) Via.refl e3 S_LO_BYTE_SHIFT.sta (hb hby d21_53) ?_
  intro T5 X5 e5
  refine Gk.ishl X5 hx (hb hby d21_56) _ rfl ?_
  refine Gk.ior X5 hx (hb hby d21_57) _ rfl ?_
  refine Gk.i2c X5 hx (hb hby d21_58) _ rfl ?_
  exact Gk.rN X5 hx hret (by simp) hns (hb hby d21_59) e5 (nar .char ((((((cx >>> ((0 : Int32) &&& 31)).toInt8.toInt32) &&& (255 : Int32)) <<< ((0 : Int32) &&& 31)) ||| ((((cx >>> ((8 : Int32) &&& 31)).toInt8.toInt32) &&& (255 : Int32)) <<< ((8 : Int32) &&& 31))).toUInt32.toUInt16.toUInt32.toInt32)) rfl ⟨congrArg (fun z_ : Int32 => some (Value.int z_)) (show (nar .char ((((((cx >>> ((0 : Int32) &&& 31)).toInt8.toInt32) &&& (255 : Int32)) <<< ((0 : Int32) &&& 31)) ||| ((((cx >>> ((8 : Int32) &&& 31)).toInt8.toInt32) &&& (255 : Int32)) <<< ((8 : Int32) &&& 31))).toUInt32.toUInt16.toUInt32.toInt32)) = cx from (own_dec hbx)), (Fr.nil n0), rfl⟩
theorem pch_3 (hw : HW Z a0) (a1 : Addr) (p3 : Int32) (kb : ClassId) (fb : Nat → Value) (n2 : Int32) (Z0 : n0 ≤ h0.size) (S__assertionsDisabled : Stx Z n0 h0 "java/lang/StringUTF16" "$assertionsDisabled" "Z" (.int (1 : Int32))) (S_HI_BYTE_SHIFT : Stx Z n0 h0 "java/lang/StringUTF16" "HI_BYTE_SHIFT" "I" (.int (0 : Int32))) (S_LO_BYTE_SHIFT : Stx Z n0 h0 "java/lang/StringUTF16" "LO_BYTE_SHIFT" "I" (.int (8 : Int32))) (V_b : Arf Z h0 a1 kb .byte n2 fb) (hn0_ : (6 : Int32) < n2) (hn1_ : (7 : Int32) < n2) (g_a1 : n0 ≤ a1) : Ct l ⟨"java/lang/StringUTF16", "putChar", "([BII)V"⟩ jdk_52_method_4_code 3 none ⟨0, 0, 0, 0⟩ #[(.ref a1), (.int (3 : Int32)), (.int p3)] Z h0 (fun v h L => v = none ∧ Fr n0 L ∧ Keep h0 h [a1] ∧ Arf Z h a1 kb .byte n2 (upd (upd fb 6 (.int ((p3 >>> ((0 : Int32) &&& 31)).toInt8.toInt32))) 7 (.int ((p3 >>> ((8 : Int32) &&& 31)).toInt8.toInt32)))) := by
  refine Ct.of "java/lang/StringUTF16" rfl (plainFor_of_name pn_5) #[.val (.ref a1), .val (.int (3 : Int32)), .val (.int p3)] rfl rfl ?_
  intro p e s m below meth c s₁ hx hby hml hown hnm hret hns hZ hh X0 e0
  refine Gk.getS X0 hx hZ hown (host := "") (Or.inl (W hw 91 rfl)) Via.refl e0 S__assertionsDisabled.sta (hb hby d20_0) ?_
  intro T1 X1 e1
  refine Gk.ifYes X1 hx (hb hby d20_3) (feq (by decide : ¬ ((1 : Int32) = (0 : Int32)))).2 28 (by decide) (by decide) ?_
  refine Gk.iloadN X1 hx (hb hby d20_28) rfl ?_
  refine Gk.iconst X1 hx (hb hby d20_29) (1 : Int32) rfl ?_
  refine Gk.ishl X1 hx (hb hby d20_30) (6 : Int32) (by decide) ?_
  refine Gk.istoreN X1 hx (hb hby d20_31) #[.val (.ref a1), .val (.int (6 : Int32)), .val (.int p3)] rfl ?_
  refine Gk.aloadN X1 hx (hb hby d20_32) rfl rfl ?_
  refine Gk.iloadN X1 hx (hb hby d20_33) rfl ?_
  refine Gk.iinc X1 hx (hb hby d20_34) rfl #[.val (.ref a1), .val (.int (7 : Int32)), .val (.int p3)] rfl ?_
  refine Gk.iloadN X1 hx (hb hby d20_37) rfl ?_
  refine Gk.getS X1 hx hZ hown (host := "") (Or.inl (W hw 92 rfl)) Via.refl e1 S_HI_BYTE_SHIFT.sta (hb hby d20_38) ?_
  intro T2 X2 e2
  refine Gk.ishr X2 hx (hb hby d20_41) _ rfl ?_
  refine Gk.i2b X2 hx (hb hby d20_42) _ rfl ?_
  refine Gk.bastoreB X2 hx hZ e2 V_b 6 rfl ⟨by decide, hn0_⟩ (.int ((p3 >>> ((0 : Int32) &&& 31)).toInt8.toInt32)) (congrArg Value.int (own_nb _)) (hb hby d20_43) ?_
  intro T3 h3 X3 e3 W3 V3
  have N3 := Fr.snoc X3 (Fr.nil n0) g_a1
  refine Gk.aloadN X3 hx (hb hby d20_44) rfl rfl ?_
  refine Gk.iloadN X3 hx (hb hby d20_45) rfl ?_
  refine Gk.iloadN X3 hx (hb hby d20_46) rfl ?_
  have H4 := (S_LO_BYTE_SHIFT.wr W3)
  refine Gk.getS X3 hx hZ hown (host := "") (Or.inl (W hw 93 rfl)) Via.refl e3 H4.sta (hb hby d20_47) ?_
  intro T5 X5 e5
  refine Gk.ishr X5 hx (hb hby d20_50) _ rfl ?_
  refine Gk.i2b X5 hx (hb hby d20_51) _ rfl ?_
  refine Gk.bastoreB X5 hx hZ e5 V3 7 rfl ⟨by decide, hn1_⟩ (.int ((p3 >>> ((8 : Int32) &&& 31)).toInt8.toInt32)) (congrArg Value.int (own_nb _)) (hb hby d20_52) ?_
  intro T6 h6 X6 e6 W6 V6
  have N6 := Fr.snoc X6 N3 g_a1
  exact Gk.rV X6 hx hret hns (hb hby d20_53) e6 ⟨rfl, N6, (((Keep.refl h0 [a1]).wr W3 (Or.inl (List.mem_of_getElem? (i := 0) rfl))).wr W6 (Or.inl (List.mem_of_getElem? (i := 0) rfl))), V6⟩
theorem gch_3 (hw : HW Z a0) (a1 : Addr) (kb : ClassId) (fb : Nat → Value) (n2 cx : Int32) (Z0 : n0 ≤ h0.size) (S__assertionsDisabled : Stx Z n0 h0 "java/lang/StringUTF16" "$assertionsDisabled" "Z" (.int (1 : Int32))) (S_HI_BYTE_SHIFT : Stx Z n0 h0 "java/lang/StringUTF16" "HI_BYTE_SHIFT" "I" (.int (0 : Int32))) (S_LO_BYTE_SHIFT : Stx Z n0 h0 "java/lang/StringUTF16" "LO_BYTE_SHIFT" "I" (.int (8 : Int32))) (V_b : Arf Z h0 a1 kb .byte n2 fb) (hn0_ : (6 : Int32) < n2) (hn1_ : (7 : Int32) < n2) (hl_ : fb 6 = .int ((cx >>> ((0 : Int32) &&& 31)).toInt8.toInt32)) (hh_ : fb 7 = .int ((cx >>> ((8 : Int32) &&& 31)).toInt8.toInt32)) (hbx : 0 ≤ cx.toInt ∧ cx.toInt < 65536) : Ct l ⟨"java/lang/StringUTF16", "getChar", "([BI)C"⟩ jdk_52_method_5_code 2 (some .char) ⟨0, 0, 0, 0⟩ #[(.ref a1), (.int (3 : Int32))] Z h0 (fun v h L => v = some (.int cx) ∧ Fr n0 L ∧ h = h0) := by
  refine Ct.of "java/lang/StringUTF16" rfl (plainFor_of_name pn_5) #[.val (.ref a1), .val (.int (3 : Int32))] rfl rfl ?_
  intro p e s m below meth c s₁ hx hby hml hown hnm hret hns hZ hh X0 e0
  refine Gk.getS X0 hx hZ hown (host := "") (Or.inl (W hw 91 rfl)) Via.refl e0 S__assertionsDisabled.sta (hb hby d21_0) ?_
  intro T1 X1 e1
  refine Gk.ifYes X1 hx (hb hby d21_3) (feq (by decide : ¬ ((1 : Int32) = (0 : Int32)))).2 28 (by decide) (by decide) ?_
  refine Gk.iloadN X1 hx (hb hby d21_28) rfl ?_
  refine Gk.iconst X1 hx (hb hby d21_29) (1 : Int32) rfl ?_
  refine Gk.ishl X1 hx (hb hby d21_30) (6 : Int32) (by decide) ?_
  refine Gk.istoreN X1 hx (hb hby d21_31) #[.val (.ref a1), .val (.int (6 : Int32))] rfl ?_
  refine Gk.aloadN X1 hx (hb hby d21_32) rfl rfl ?_
  refine Gk.iloadN X1 hx (hb hby d21_33) rfl ?_
  refine Gk.iinc X1 hx (hb hby d21_34) rfl #[.val (.ref a1), .val (.int (7 : Int32))] rfl ?_
  refine Gk.baloadB X1 hx hZ e1 V_b ⟨by decide, hn0_⟩ (.int ((cx >>> ((0 : Int32) &&& 31)).toInt8.toInt32)) hl_ (hb hby d21_37) ?_
  refine Gk.sipush X1 hx (hb hby d21_38) (255 : Int32) rfl ?_
  refine Gk.iand X1 hx (hb hby d21_41) _ rfl ?_
  refine Gk.getS X1 hx hZ hown (host := "") (Or.inl (W hw 92 rfl)) Via.refl e1 S_HI_BYTE_SHIFT.sta (hb hby d21_42) ?_
  intro T3 X3 e3
  refine Gk.ishl X3 hx (hb hby d21_45) _ rfl ?_
  refine Gk.aloadN X3 hx (hb hby d21_46) rfl rfl ?_
  refine Gk.iloadN X3 hx (hb hby d21_47) rfl ?_
  refine Gk.baloadB X3 hx hZ e3 V_b ⟨by decide, hn1_⟩ (.int ((cx >>> ((8 : Int32) &&& 31)).toInt8.toInt32)) hh_ (hb hby d21_48) ?_
  refine Gk.sipush X3 hx (hb hby d21_49) (255 : Int32) rfl ?_
  refine Gk.iand X3 hx (hb hby d21_52) _ rfl ?_
  refine Gk.getS X3 hx hZ hown (host := "") (Or.inl (W hw 93 rfl)) Via.refl e3 S_LO_BYTE_SHIFT.sta (hb hby d21_53) ?_
  intro T5 X5 e5
  refine Gk.ishl X5 hx (hb hby d21_56) _ rfl ?_
  refine Gk.ior X5 hx (hb hby d21_57) _ rfl ?_
  refine Gk.i2c X5 hx (hb hby d21_58) _ rfl ?_
  exact Gk.rN X5 hx hret (by simp) hns (hb hby d21_59) e5 (nar .char ((((((cx >>> ((0 : Int32) &&& 31)).toInt8.toInt32) &&& (255 : Int32)) <<< ((0 : Int32) &&& 31)) ||| ((((cx >>> ((8 : Int32) &&& 31)).toInt8.toInt32) &&& (255 : Int32)) <<< ((8 : Int32) &&& 31))).toUInt32.toUInt16.toUInt32.toInt32)) rfl ⟨congrArg (fun z_ : Int32 => some (Value.int z_)) (show (nar .char ((((((cx >>> ((0 : Int32) &&& 31)).toInt8.toInt32) &&& (255 : Int32)) <<< ((0 : Int32) &&& 31)) ||| ((((cx >>> ((8 : Int32) &&& 31)).toInt8.toInt32) &&& (255 : Int32)) <<< ((8 : Int32) &&& 31))).toUInt32.toUInt16.toUInt32.toInt32)) = cx from (own_dec hbx)), (Fr.nil n0), rfl⟩
theorem pch_4 (hw : HW Z a0) (a1 : Addr) (p3 : Int32) (kb : ClassId) (fb : Nat → Value) (n2 : Int32) (Z0 : n0 ≤ h0.size) (S__assertionsDisabled : Stx Z n0 h0 "java/lang/StringUTF16" "$assertionsDisabled" "Z" (.int (1 : Int32))) (S_HI_BYTE_SHIFT : Stx Z n0 h0 "java/lang/StringUTF16" "HI_BYTE_SHIFT" "I" (.int (0 : Int32))) (S_LO_BYTE_SHIFT : Stx Z n0 h0 "java/lang/StringUTF16" "LO_BYTE_SHIFT" "I" (.int (8 : Int32))) (V_b : Arf Z h0 a1 kb .byte n2 fb) (hn0_ : (8 : Int32) < n2) (hn1_ : (9 : Int32) < n2) (g_a1 : n0 ≤ a1) : Ct l ⟨"java/lang/StringUTF16", "putChar", "([BII)V"⟩ jdk_52_method_4_code 3 none ⟨0, 0, 0, 0⟩ #[(.ref a1), (.int (4 : Int32)), (.int p3)] Z h0 (fun v h L => v = none ∧ Fr n0 L ∧ Keep h0 h [a1] ∧ Arf Z h a1 kb .byte n2 (upd (upd fb 8 (.int ((p3 >>> ((0 : Int32) &&& 31)).toInt8.toInt32))) 9 (.int ((p3 >>> ((8 : Int32) &&& 31)).toInt8.toInt32)))) := by
  refine Ct.of "java/lang/StringUTF16" rfl (plainFor_of_name pn_5) #[.val (.ref a1), .val (.int (4 : Int32)), .val (.int p3)] rfl rfl ?_
  intro p e s m below meth c s₁ hx hby hml hown hnm hret hns hZ hh X0 e0
  refine Gk.getS X0 hx hZ hown (host := "") (Or.inl (W hw 91 rfl)) Via.refl e0 S__assertionsDisabled.sta (hb hby d20_0) ?_
  intro T1 X1 e1
  refine Gk.ifYes X1 hx (hb hby d20_3) (feq (by decide : ¬ ((1 : Int32) = (0 : Int32)))).2 28 (by decide) (by decide) ?_
  refine Gk.iloadN X1 hx (hb hby d20_28) rfl ?_
  refine Gk.iconst X1 hx (hb hby d20_29) (1 : Int32) rfl ?_
  refine Gk.ishl X1 hx (hb hby d20_30) (8 : Int32) (by decide) ?_
  refine Gk.istoreN X1 hx (hb hby d20_31) #[.val (.ref a1), .val (.int (8 : Int32)), .val (.int p3)] rfl ?_
  refine Gk.aloadN X1 hx (hb hby d20_32) rfl rfl ?_
  refine Gk.iloadN X1 hx (hb hby d20_33) rfl ?_
  refine Gk.iinc X1 hx (hb hby d20_34) rfl #[.val (.ref a1), .val (.int (9 : Int32)), .val (.int p3)] rfl ?_
  refine Gk.iloadN X1 hx (hb hby d20_37) rfl ?_
  refine Gk.getS X1 hx hZ hown (host := "") (Or.inl (W hw 92 rfl)) Via.refl e1 S_HI_BYTE_SHIFT.sta (hb hby d20_38) ?_
  intro T2 X2 e2
  refine Gk.ishr X2 hx (hb hby d20_41) _ rfl ?_
  refine Gk.i2b X2 hx (hb hby d20_42) _ rfl ?_
  refine Gk.bastoreB X2 hx hZ e2 V_b 8 rfl ⟨by decide, hn0_⟩ (.int ((p3 >>> ((0 : Int32) &&& 31)).toInt8.toInt32)) (congrArg Value.int (own_nb _)) (hb hby d20_43) ?_
  intro T3 h3 X3 e3 W3 V3
  have N3 := Fr.snoc X3 (Fr.nil n0) g_a1
  refine Gk.aloadN X3 hx (hb hby d20_44) rfl rfl ?_
  refine Gk.iloadN X3 hx (hb hby d20_45) rfl ?_
  refine Gk.iloadN X3 hx (hb hby d20_46) rfl ?_
  have H4 := (S_LO_BYTE_SHIFT.wr W3)
  refine Gk.getS X3 hx hZ hown (host := "") (Or.inl (W hw 93 rfl)) Via.refl e3 H4.sta (hb hby d20_47) ?_
  intro T5 X5 e5
  refine Gk.ishr X5 hx (hb hby d20_50) _ rfl ?_
  refine Gk.i2b X5 hx (hb hby d20_51) _ rfl ?_
  refine Gk.bastoreB X5 hx hZ e5 V3 9 rfl ⟨by decide, hn1_⟩ (.int ((p3 >>> ((8 : Int32) &&& 31)).toInt8.toInt32)) (congrArg Value.int (own_nb _)) (hb hby d20_52) ?_
  intro T6 h6 X6 e6 W6 V6
  have N6 := Fr.snoc X6 N3 g_a1
  exact Gk.rV X6 hx hret hns (hb hby d20_53) e6 ⟨rfl, N6, (((Keep.refl h0 [a1]).wr W3 (Or.inl (List.mem_of_getElem? (i := 0) rfl))).wr W6 (Or.inl (List.mem_of_getElem? (i := 0) rfl))), V6⟩
theorem gch_4 (hw : HW Z a0) (a1 : Addr) (kb : ClassId) (fb : Nat → Value) (n2 cx : Int32) (Z0 : n0 ≤ h0.size) (S__assertionsDisabled : Stx Z n0 h0 "java/lang/StringUTF16" "$assertionsDisabled" "Z" (.int (1 : Int32))) (S_HI_BYTE_SHIFT : Stx Z n0 h0 "java/lang/StringUTF16" "HI_BYTE_SHIFT" "I" (.int (0 : Int32))) (S_LO_BYTE_SHIFT : Stx Z n0 h0 "java/lang/StringUTF16" "LO_BYTE_SHIFT" "I" (.int (8 : Int32))) (V_b : Arf Z h0 a1 kb .byte n2 fb) (hn0_ : (8 : Int32) < n2) (hn1_ : (9 : Int32) < n2) (hl_ : fb 8 = .int ((cx >>> ((0 : Int32) &&& 31)).toInt8.toInt32)) (hh_ : fb 9 = .int ((cx >>> ((8 : Int32) &&& 31)).toInt8.toInt32)) (hbx : 0 ≤ cx.toInt ∧ cx.toInt < 65536) : Ct l ⟨"java/lang/StringUTF16", "getChar", "([BI)C"⟩ jdk_52_method_5_code 2 (some .char) ⟨0, 0, 0, 0⟩ #[(.ref a1), (.int (4 : Int32))] Z h0 (fun v h L => v = some (.int cx) ∧ Fr n0 L ∧ h = h0) := by
  refine Ct.of "java/lang/StringUTF16" rfl (plainFor_of_name pn_5) #[.val (.ref a1), .val (.int (4 : Int32))] rfl rfl ?_
  intro p e s m below meth c s₁ hx hby hml hown hnm hret hns hZ hh X0 e0
  refine Gk.getS X0 hx hZ hown (host := "") (Or.inl (W hw 91 rfl)) Via.refl e0 S__assertionsDisabled.sta (hb hby d21_0) ?_
  intro T1 X1 e1
  refine Gk.ifYes X1 hx (hb hby d21_3) (feq (by decide : ¬ ((1 : Int32) = (0 : Int32)))).2 28 (by decide) (by decide) ?_
  refine Gk.iloadN X1 hx (hb hby d21_28) rfl ?_
  refine Gk.iconst X1 hx (hb hby d21_29) (1 : Int32) rfl ?_
  refine Gk.ishl X1 hx (hb hby d21_30) (8 : Int32) (by decide) ?_
  refine Gk.istoreN X1 hx (hb hby d21_31) #[.val (.ref a1), .val (.int (8 : Int32))] rfl ?_
  refine Gk.aloadN X1 hx (hb hby d21_32) rfl rfl ?_
  refine Gk.iloadN X1 hx (hb hby d21_33) rfl ?_
  refine Gk.iinc X1 hx (hb hby d21_34) rfl #[.val (.ref a1), .val (.int (9 : Int32))] rfl ?_
  refine Gk.baloadB X1 hx hZ e1 V_b ⟨by decide, hn0_⟩ (.int ((cx >>> ((0 : Int32) &&& 31)).toInt8.toInt32)) hl_ (hb hby d21_37) ?_
  refine Gk.sipush X1 hx (hb hby d21_38) (255 : Int32) rfl ?_
  refine Gk.iand X1 hx (hb hby d21_41) _ rfl ?_
  refine Gk.getS X1 hx hZ hown (host := "") (Or.inl (W hw 92 rfl)) Via.refl e1 S_HI_BYTE_SHIFT.sta (hb hby d21_42) ?_
  intro T3 X3 e3
  refine Gk.ishl X3 hx (hb hby d21_45) _ rfl ?_
  refine Gk.aloadN X3 hx (hb hby d21_46) rfl rfl ?_
  refine Gk.iloadN X3 hx (hb hby d21_47) rfl ?_
  refine Gk.baloadB X3 hx hZ e3 V_b ⟨by decide, hn1_⟩ (.int ((cx >>> ((8 : Int32) &&& 31)).toInt8.toInt32)) hh_ (hb hby d21_48) ?_
  refine Gk.sipush X3 hx (hb hby d21_49) (255 : Int32) rfl ?_
  refine Gk.iand X3 hx (hb hby d21_52) _ rfl ?_
  refine Gk.getS X3 hx hZ hown (host := "") (Or.inl (W hw 93 rfl)) Via.refl e3 S_LO_BYTE_SHIFT.sta (hb hby d21_53) ?_
  intro T5 X5 e5
  refine Gk.ishl X5 hx (hb hby d21_56) _ rfl ?_
  refine Gk.ior X5 hx (hb hby d21_57) _ rfl ?_
  refine Gk.i2c X5 hx (hb hby d21_58) _ rfl ?_
  exact Gk.rN X5 hx hret (by simp) hns (hb hby d21_59) e5 (nar .char ((((((cx >>> ((0 : Int32) &&& 31)).toInt8.toInt32) &&& (255 : Int32)) <<< ((0 : Int32) &&& 31)) ||| ((((cx >>> ((8 : Int32) &&& 31)).toInt8.toInt32) &&& (255 : Int32)) <<< ((8 : Int32) &&& 31))).toUInt32.toUInt16.toUInt32.toInt32)) rfl ⟨congrArg (fun z_ : Int32 => some (Value.int z_)) (show (nar .char ((((((cx >>> ((0 : Int32) &&& 31)).toInt8.toInt32) &&& (255 : Int32)) <<< ((0 : Int32) &&& 31)) ||| ((((cx >>> ((8 : Int32) &&& 31)).toInt8.toInt32) &&& (255 : Int32)) <<< ((8 : Int32) &&& 31))).toUInt32.toUInt16.toUInt32.toInt32)) = cx from (own_dec hbx)), (Fr.nil n0), rfl⟩
theorem pd_1 : parseMethodDescriptor "(I)[B" = some ⟨[.int], some (.array .byte)⟩ := by decide +kernel
theorem pd_2 : parseMethodDescriptor "([BII)V" = some ⟨[(.array .byte), .int, .int], none⟩ := by decide +kernel
theorem d17_0 : decode jdk_52_method_14_code 0 = .ok (.iload_n 2, 1) := by decide +kernel
theorem d17_1 : decode jdk_52_method_14_code 1 = .ok (.invokestatic 107, 3) := by decide +kernel
theorem d17_4 : decode jdk_52_method_14_code 4 = .ok (.astore_n 3, 1) := by decide +kernel
theorem d17_5 : decode jdk_52_method_14_code 5 = .ok (.iconst 0, 1) := by decide +kernel
theorem d17_6 : decode jdk_52_method_14_code 6 = .ok (.istore 4, 2) := by decide +kernel
theorem d17_8 : decode jdk_52_method_14_code 8 = .ok (.iload 4, 2) := by decide +kernel
theorem d17_10 : decode jdk_52_method_14_code 10 = .ok (.iload_n 2, 1) := by decide +kernel
theorem d17_11 : decode jdk_52_method_14_code 11 = .ok (.if_icmp .ge 21, 3) := by decide +kernel
theorem d17_14 : decode jdk_52_method_14_code 14 = .ok (.aload_n 3, 1) := by decide +kernel
theorem d17_15 : decode jdk_52_method_14_code 15 = .ok (.iload 4, 2) := by decide +kernel
theorem d17_17 : decode jdk_52_method_14_code 17 = .ok (.aload_n 0, 1) := by decide +kernel
theorem d17_18 : decode jdk_52_method_14_code 18 = .ok (.iload_n 1, 1) := by decide +kernel
theorem d17_19 : decode jdk_52_method_14_code 19 = .ok (.caload, 1) := by decide +kernel
theorem d17_20 : decode jdk_52_method_14_code 20 = .ok (.invokestatic 111, 3) := by decide +kernel
theorem d17_23 : decode jdk_52_method_14_code 23 = .ok (.iinc 1 1, 3) := by decide +kernel
theorem d17_26 : decode jdk_52_method_14_code 26 = .ok (.iinc 4 1, 3) := by decide +kernel
theorem d17_29 : decode jdk_52_method_14_code 29 = .ok (.goto (-21), 3) := by decide +kernel
theorem d17_32 : decode jdk_52_method_14_code 32 = .ok (.aload_n 3, 1) := by decide +kernel
theorem d17_33 : decode jdk_52_method_14_code 33 = .ok (.areturn, 1) := by decide +kernel
theorem tb_1 (hw : HW Z a0) (a1 : Addr) (kc : ClassId) (f : Nat → Value) (c0 : Int32) (Z0 : n0 ≤ h0.size) (S__assertionsDisabled : Stx Z n0 h0 "java/lang/StringUTF16" "$assertionsDisabled" "Z" (.int (1 : Int32))) (S_HI_BYTE_SHIFT : Stx Z n0 h0 "java/lang/StringUTF16" "HI_BYTE_SHIFT" "I" (.int (0 : Int32))) (S_LO_BYTE_SHIFT : Stx Z n0 h0 "java/lang/StringUTF16" "LO_BYTE_SHIFT" "I" (.int (8 : Int32))) (V_a : Arf Z h0 a1 kc .char (1 : Int32) f) (hf0 : f 0 = (.int c0)) : Ct l ⟨"java/lang/StringUTF16", "toBytes", "([CII)[B"⟩ jdk_52_method_14_code 5 (some (.array .byte)) ⟨2, 1, 2, 24⟩ #[(.ref a1), (.int (0 : Int32)), (.int (1 : Int32))] Z h0 (fun v h L => v = some (.ref h0.size) ∧ Fr n0 L ∧ Keep h0 h [] ∧ ∃ kb : ClassId, Arf Z h h0.size kb .byte (2 : Int32) (upd (upd (fun _ => (.int (0 : Int32))) 0 (.int ((c0 >>> ((0 : Int32) &&& 31)).toInt8.toInt32))) 1 (.int ((c0 >>> ((8 : Int32) &&& 31)).toInt8.toInt32)))) := by
  refine Ct.of "java/lang/StringUTF16" rfl (plainFor_of_name pn_5) #[.val (.ref a1), .val (.int (0 : Int32)), .val (.int (1 : Int32)), .unset, .unset] rfl rfl ?_
  intro p e s m below meth c s₁ hx hby hml hown hnm hret hns hZ hh X0 e0
  refine Gk.iloadN X0 hx (hb hby d17_0) rfl ?_
  refine Gk.callS (argsL := [(.int (1 : Int32))]) X0 hx hZ hown (nbf_1 l Z a0 h0 n0 hw  Z0) (W hw 81 rfl) (W hw 82 rfl) (W hw 24 rfl) (W hw 83 rfl) (by decide) e0 pd_1 rfl rfl rfl (by rw [hml]; rfl) rfl (hb hby d17_1) ?_
  intro T1 L1 v1 X1 hQ1
  obtain ⟨hv1, N1q, K1, k1_, A1_⟩ := hQ1
  have N1 := Fr.app (Fr.nil n0) N1q
  obtain ⟨b1, g1⟩ : ∃ z_, z_ = h0.size := ⟨_, rfl⟩
  rw [← g1] at hv1 A1_
  subst hv1
  have g_b1 : n0 ≤ b1 := Nat.le_trans Z0 (Nat.le_of_eq g1.symm)
  have lt_b1 := A1_.lt
  show Go p e below (T1.setTop (mkF m 4 _ [(.ref b1)])) _
  refine Gk.astoreN X1 hx (hb hby d17_4) rfl #[.val (.ref a1), .val (.int (0 : Int32)), .val (.int (1 : Int32)), .val (.ref b1), .unset] rfl ?_
  refine Gk.iconst X1 hx (hb hby d17_5) (0 : Int32) rfl ?_
  refine Gk.istore X1 hx (hb hby d17_6) #[.val (.ref a1), .val (.int (0 : Int32)), .val (.int (1 : Int32)), .val (.ref b1), .val (.int (0 : Int32))] rfl ?_
  refine Gk.iload X1 hx (hb hby d17_8) rfl ?_
  refine Gk.iloadN X1 hx (hb hby d17_10) rfl ?_
  refine Gk.icmpNo X1 hx (hb hby d17_11) (tlt (by decide : (0 : Int32) < (1 : Int32))).2.1 ?_
  refine Gk.aloadN X1 hx (hb hby d17_14) rfl rfl ?_
  refine Gk.iload X1 hx (hb hby d17_15) rfl ?_
  refine Gk.aloadN X1 hx (hb hby d17_17) rfl rfl ?_
  refine Gk.iloadN X1 hx (hb hby d17_18) rfl ?_
  have H3 := (V_a.keep K1 nin0)
  refine Gk.caload X1 hx hZ rfl H3 ⟨by decide, by decide⟩ (.int c0) hf0 (hb hby d17_19) ?_
  have H5 := (S__assertionsDisabled.keep K1 all0)
  have H6 := (S_HI_BYTE_SHIFT.keep K1 all0)
  have H7 := (S_LO_BYTE_SHIFT.keep K1 all0)
  refine Gk.callS (argsL := [(.ref b1), (.int (0 : Int32)), (.int c0)]) X1 hx hZ hown (pch_0 l Z a0 T1.heap n0 hw b1 c0 k1_ (fun _ => (.int (0 : Int32))) (2 : Int32) (Nat.le_trans Z0 K1.1) H5 H6 H7 A1_ (by decide) (by decide) g_b1) (W hw 88 rfl) (W hw 89 rfl) (W hw 24 rfl) (W hw 90 rfl) (by decide) rfl pd_2 rfl rfl rfl (by rw [hml]; rfl) rfl (hb hby d17_20) ?_
  intro T4 L4 v4 X4 hQ4
  obtain ⟨rfl, N4q, K4, V4_⟩ := hQ4
  have N4 := Fr.app N1 N4q
  show Go p e below (T4.setTop (mkF m 23 _ [])) _
  refine Gk.iinc X4 hx (hb hby d17_23) rfl #[.val (.ref a1), .val (.int (1 : Int32)), .val (.int (1 : Int32)), .val (.ref b1), .val (.int (0 : Int32))] rfl ?_
  refine Gk.iinc X4 hx (hb hby d17_26) rfl #[.val (.ref a1), .val (.int (1 : Int32)), .val (.int (1 : Int32)), .val (.ref b1), .val (.int (1 : Int32))] rfl ?_
  refine Gk.goto X4 hx (hb hby d17_29) 8 (by decide) (by decide) ?_
  refine Gk.iload X4 hx (hb hby d17_8) rfl ?_
  refine Gk.iloadN X4 hx (hb hby d17_10) rfl ?_
  refine Gk.icmpYes X4 hx (hb hby d17_11) (flt (by decide : ¬ ((1 : Int32) < (1 : Int32)))).2.1 32 (by decide) (by decide) ?_
  refine Gk.aloadN X4 hx (hb hby d17_32) rfl rfl ?_
  exact Gk.rR X4 hx hret rfl rfl rfl hns (hb hby d17_33) rfl ⟨congrArg (fun z_ : Addr => some (Value.ref z_)) (show b1 = h0.size from g1), N4, (((Keep.refl h0 []).trans K1 all0).trans K4 (allS (Or.inr (Nat.le_trans (Nat.le_refl _) (Nat.le_of_eq g1.symm))) all0)), _, (g1 ▸ V4_)⟩
theorem tb_2 (hw : HW Z a0) (a1 : Addr) (kc : ClassId) (f : Nat → Value) (c0 c1 : Int32) (Z0 : n0 ≤ h0.size) (S__assertionsDisabled : Stx Z n0 h0 "java/lang/StringUTF16" "$assertionsDisabled" "Z" (.int (1 : Int32))) (S_HI_BYTE_SHIFT : Stx Z n0 h0 "java/lang/StringUTF16" "HI_BYTE_SHIFT" "I" (.int (0 : Int32))) (S_LO_BYTE_SHIFT : Stx Z n0 h0 "java/lang/StringUTF16" "LO_BYTE_SHIFT" "I" (.int (8 : Int32))) (V_a : Arf Z h0 a1 kc .char (2 : Int32) f) (hf0 : f 0 = (.int c0)) (hf1 : f 1 = (.int c1)) : Ct l ⟨"java/lang/StringUTF16", "toBytes", "([CII)[B"⟩ jdk_52_method_14_code 5 (some (.array .byte)) ⟨2, 1, 4, 24⟩ #[(.ref a1), (.int (0 : Int32)), (.int (2 : Int32))] Z h0 (fun v h L => v = some (.ref h0.size) ∧ Fr n0 L ∧ Keep h0 h [] ∧ ∃ kb : ClassId, Arf Z h h0.size kb .byte (4 : Int32) (upd (upd (upd (upd (fun _ => (.int (0 : Int32))) 0 (.int ((c0 >>> ((0 : Int32) &&& 31)).toInt8.toInt32))) 1 (.int ((c0 >>> ((8 : Int32) &&& 31)).toInt8.toInt32))) 2 (.int ((c1 >>> ((0 : Int32) &&& 31)).toInt8.toInt32))) 3 (.int ((c1 >>> ((8 : Int32) &&& 31)).toInt8.toInt32)))) := by
  refine Ct.of "java/lang/StringUTF16" rfl (plainFor_of_name pn_5) #[.val (.ref a1), .val (.int (0 : Int32)), .val (.int (2 : Int32)), .unset, .unset] rfl rfl ?_
  intro p e s m below meth c s₁ hx hby hml hown hnm hret hns hZ hh X0 e0
  refine Gk.iloadN X0 hx (hb hby d17_0) rfl ?_
  refine Gk.callS (argsL := [(.int (2 : Int32))]) X0 hx hZ hown (nbf_2 l Z a0 h0 n0 hw  Z0) (W hw 81 rfl) (W hw 82 rfl) (W hw 24 rfl) (W hw 83 rfl) (by decide) e0 pd_1 rfl rfl rfl (by rw [hml]; rfl) rfl (hb hby d17_1) ?_
  intro T1 L1 v1 X1 hQ1
  obtain ⟨hv1, N1q, K1, k1_, A1_⟩ := hQ1
  have N1 := Fr.app (Fr.nil n0) N1q
  obtain ⟨b1, g1⟩ : ∃ z_, z_ = h0.size := ⟨_, rfl⟩
  rw [← g1] at hv1 A1_
  subst hv1
  have g_b1 : n0 ≤ b1 := Nat.le_trans Z0 (Nat.le_of_eq g1.symm)
  have lt_b1 := A1_.lt
  show Go p e below (T1.setTop (mkF m 4 _ [(.ref b1)])) _
  refine Gk.astoreN X1 hx (hb hby d17_4) rfl #[.val (.ref a1), .val (.int (0 : Int32)), .val (.int (2 : Int32)), .val (.ref b1), .unset] rfl ?_
  refine Gk.iconst X1 hx (hb hby d17_5) (0 : Int32) rfl ?_
  refine Gk.istore X1 hx (hb hby d17_6) #[.val (.ref a1), .val (.int (0 : Int32)), .val (.int (2 : Int32)), .val (.ref b1), .val (.int (0 : Int32))] rfl ?_
  refine Gk.iload X1 hx (hb hby d17_8) rfl ?_
  refine Gk.iloadN X1 hx (hb hby d17_10) rfl ?_
  refine Gk.icmpNo X1 hx (hb hby d17_11) (tlt (by decide : (0 : Int32) < (2 : Int32))).2.1 ?_
  refine Gk.aloadN X1 hx (hb hby d17_14) rfl rfl ?_
  refine Gk.iload X1 hx (hb hby d17_15) rfl ?_
  refine Gk.aloadN X1 hx (hb hby d17_17) rfl rfl ?_
  refine Gk.iloadN X1 hx (hb hby d17_18) rfl ?_
  have H3 := (V_a.keep K1 nin0)
  refine Gk.caload X1 hx hZ rfl H3 ⟨by decide, by decide⟩ (.int c0) hf0 (hb hby d17_19) ?_
  have H5 := (S__assertionsDisabled.keep K1 all0)
  have H6 := (S_HI_BYTE_SHIFT.keep K1 all0)
  have H7 := (S_LO_BYTE_SHIFT.keep K1 all0)
  refine Gk.callS (argsL := [(.ref b1), (.int (0 : Int32)), (.int c0)]) X1 hx hZ hown (pch_0 l Z a0 T1.heap n0 hw b1 c0 k1_ (fun _ => (.int (0 : Int32))) (4 : Int32) (Nat.le_trans Z0 K1.1) H5 H6 H7 A1_ (by decide) (by decide) g_b1) (W hw 88 rfl) (W hw 89 rfl) (W hw 24 rfl) (W hw 90 rfl) (by decide) rfl pd_2 rfl rfl rfl (by rw [hml]; rfl) rfl (hb hby d17_20) ?_
  intro T4 L4 v4 X4 hQ4
  obtain ⟨rfl, N4q, K4, V4_⟩ := hQ4
  have N4 := Fr.app N1 N4q
  show Go p e below (T4.setTop (mkF m 23 _ [])) _
  refine Gk.iinc X4 hx (hb hby d17_23) rfl #[.val (.ref a1), .val (.int (1 : Int32)), .val (.int (2 : Int32)), .val (.ref b1), .val (.int (0 : Int32))] rfl ?_
  refine Gk.iinc X4 hx (hb hby d17_26) rfl #[.val (.ref a1), .val (.int (1 : Int32)), .val (.int (2 : Int32)), .val (.ref b1), .val (.int (1 : Int32))] rfl ?_
  refine Gk.goto X4 hx (hb hby d17_29) 8 (by decide) (by decide) ?_
  refine Gk.iload X4 hx (hb hby d17_8) rfl ?_
  refine Gk.iloadN X4 hx (hb hby d17_10) rfl ?_
  refine Gk.icmpNo X4 hx (hb hby d17_11) (tlt (by decide : (1 : Int32) < (2 : Int32))).2.1 ?_
  refine Gk.aloadN X4 hx (hb hby d17_14) rfl rfl ?_
  refine Gk.iload X4 hx (hb hby d17_15) rfl ?_
  refine Gk.aloadN X4 hx (hb hby d17_17) rfl rfl ?_
  refine Gk.iloadN X4 hx (hb hby d17_18) rfl ?_
  have ne9 : a1 ≠ b1 := (Nat.ne_of_lt (Nat.lt_of_lt_of_le V_a.lt (Nat.le_trans (Nat.le_refl _) (Nat.le_of_eq g1.symm))))
  have H10 := (H3.keep K4 (ninS ne9 nin0))
  refine Gk.caload X4 hx hZ rfl H10 ⟨by decide, by decide⟩ (.int c1) hf1 (hb hby d17_19) ?_
  have H12 := (H5.keep K4 (allS g_b1 all0))
  have H13 := (H6.keep K4 (allS g_b1 all0))
  have H14 := (H7.keep K4 (allS g_b1 all0))
  refine Gk.callS (argsL := [(.ref b1), (.int (1 : Int32)), (.int c1)]) X4 hx hZ hown (pch_1 l Z a0 T4.heap n0 hw b1 c1 k1_ (upd (upd (fun _ => (.int (0 : Int32))) 0 (.int ((c0 >>> ((0 : Int32) &&& 31)).toInt8.toInt32))) 1 (.int ((c0 >>> ((8 : Int32) &&& 31)).toInt8.toInt32))) (4 : Int32) (Nat.le_trans Z0 (Nat.le_trans K1.1 K4.1)) H12 H13 H14 V4_ (by decide) (by decide) g_b1) (W hw 88 rfl) (W hw 89 rfl) (W hw 24 rfl) (W hw 90 rfl) (by decide) rfl pd_2 rfl rfl rfl (by rw [hml]; rfl) rfl (hb hby d17_20) ?_
  intro T11 L11 v11 X11 hQ11
  obtain ⟨rfl, N11q, K11, V11_⟩ := hQ11
  have N11 := Fr.app N4 N11q
  show Go p e below (T11.setTop (mkF m 23 _ [])) _
  refine Gk.iinc X11 hx (hb hby d17_23) rfl #[.val (.ref a1), .val (.int (2 : Int32)), .val (.int (2 : Int32)), .val (.ref b1), .val (.int (1 : Int32))] rfl ?_
  refine Gk.iinc X11 hx (hb hby d17_26) rfl #[.val (.ref a1), .val (.int (2 : Int32)), .val (.int (2 : Int32)), .val (.ref b1), .val (.int (2 : Int32))] rfl ?_
  refine Gk.goto X11 hx (hb hby d17_29) 8 (by decide) (by decide) ?_
  refine Gk.iload X11 hx (hb hby d17_8) rfl ?_
  refine Gk.iloadN X11 hx (hb hby d17_10) rfl ?_
  refine Gk.icmpYes X11 hx (hb hby d17_11) (flt (by decide : ¬ ((2 : Int32) < (2 : Int32)))).2.1 32 (by decide) (by decide) ?_
  refine Gk.aloadN X11 hx (hb hby d17_32) rfl rfl ?_
  exact Gk.rR X11 hx hret rfl rfl rfl hns (hb hby d17_33) rfl ⟨congrArg (fun z_ : Addr => some (Value.ref z_)) (show b1 = h0.size from g1), N11, ((((Keep.refl h0 []).trans K1 all0).trans K4 (allS (Or.inr (Nat.le_trans (Nat.le_refl _) (Nat.le_of_eq g1.symm))) all0)).trans K11 (allS (Or.inr (Nat.le_trans (Nat.le_refl _) (Nat.le_of_eq g1.symm))) all0)), _, (g1 ▸ V11_)⟩
theorem tb_3 (hw : HW Z a0) (a1 : Addr) (kc : ClassId) (f : Nat → Value) (c0 c1 c2 : Int32) (Z0 : n0 ≤ h0.size) (S__assertionsDisabled : Stx Z n0 h0 "java/lang/StringUTF16" "$assertionsDisabled" "Z" (.int (1 : Int32))) (S_HI_BYTE_SHIFT : Stx Z n0 h0 "java/lang/StringUTF16" "HI_BYTE_SHIFT" "I" (.int (0 : Int32))) (S_LO_BYTE_SHIFT : Stx Z n0 h0 "java/lang/StringUTF16" "LO_BYTE_SHIFT" "I" (.int (8 : Int32))) (V_a : Arf Z h0 a1 kc .char (3 : Int32) f) (hf0 : f 0 = (.int c0)) (hf1 : f 1 = (.int c1)) (hf2 : f 2 = (.int c2)) : Ct l ⟨"java/lang/StringUTF16", "toBytes", "([CII)[B"⟩ jdk_52_method_14_code 5 (some (.array .byte)) ⟨2, 1, 6, 24⟩ #[(.ref a1), (.int (0 : Int32)), (.int (3 : Int32))] Z h0 (fun v h L => v = some (.ref h0.size) ∧ Fr n0 L ∧ Keep h0 h [] ∧ ∃ kb : ClassId, Arf Z h h0.size kb .byte (6 : Int32) (upd (upd (upd (upd (upd (upd (fun _ => (.int (0 : Int32))) 0 (.int ((c0 >>> ((0 : Int32) &&& 31)).toInt8.toInt32))) 1 (.int ((c0 >>> ((8 : Int32) &&& 31)).toInt8.toInt32))) 2 (.int ((c1 >>> ((0 : Int32) &&& 31)).toInt8.toInt32))) 3 (.int ((c1 >>> ((8 : Int32) &&& 31)).toInt8.toInt32))) 4 (.int ((c2 >>> ((0 : Int32) &&& 31)).toInt8.toInt32))) 5 (.int ((c2 >>> ((8 : Int32) &&& 31)).toInt8.toInt32)))) := by
  refine Ct.of "java/lang/StringUTF16" rfl (plainFor_of_name pn_5) #[.val (.ref a1), .val (.int (0 : Int32)), .val (.int (3 : Int32)), .unset, .unset] rfl rfl ?_
  intro p e s m below meth c s₁ hx hby hml hown hnm hret hns hZ hh X0 e0
  refine Gk.iloadN X0 hx (hb hby d17_0) rfl ?_
  refine Gk.callS (argsL := [(.int (3 : Int32))]) X0 hx hZ hown (nbf_3 l Z a0 h0 n0 hw  Z0) (W hw 81 rfl) (W hw 82 rfl) (W hw 24 rfl) (W hw 83 rfl) (by decide) e0 pd_1 rfl rfl rfl (by rw [hml]; rfl) rfl (hb hby d17_1) ?_
  intro T1 L1 v1 X1 hQ1
  obtain ⟨hv1, N1q, K1, k1_, A1_⟩ := hQ1
  have N1 := Fr.app (Fr.nil n0) N1q
  obtain ⟨b1, g1⟩ : ∃ z_, z_ = h0.size := ⟨_, rfl⟩
  rw [← g1] at hv1 A1_
  subst hv1
  have g_b1 : n0 ≤ b1 := Nat.le_trans Z0 (Nat.le_of_eq g1.symm)
  have lt_b1 := A1_.lt
  show Go p e below (T1.setTop (mkF m 4 _ [(.ref b1)])) _
  refine Gk.astoreN X1 hx (hb hby d17_4) rfl #[.val (.ref a1), .val (.int (0 : Int32)), .val (.int (3 : Int32)), .val (.ref b1), .unset] rfl ?_
  refine Gk.iconst X1 hx (hb hby d17_5) (0 : Int32) rfl ?_
  refine Gk.istore X1 hx (hb hby d17_6) #[.val (.ref a1), .val (.int (0 : Int32)), .val (.int (3 : Int32)), .val (.ref b1), .val (.int (0 : Int32))] rfl ?_
  refine Gk.iload X1 hx (hb hby d17_8) rfl ?_
  refine Gk.iloadN X1 hx (hb hby d17_10) rfl ?_
  refine Gk.icmpNo X1 hx (hb hby d17_11) (tlt (by decide : (0 : Int32) < (3 : Int32))).2.1 ?_
  refine Gk.aloadN X1 hx (hb hby d17_14) rfl rfl ?_
  refine Gk.iload X1 hx (hb hby d17_15) rfl ?_
  refine Gk.aloadN X1 hx (hb hby d17_17) rfl rfl ?_
  refine Gk.iloadN X1 hx (hb hby d17_18) rfl ?_
  have H3 := (V_a.keep K1 nin0)
  refine Gk.caload X1 hx hZ rfl H3 ⟨by decide, by decide⟩ (.int c0) hf0 (hb hby d17_19) ?_
  have H5 := (S__assertionsDisabled.keep K1 all0)
  have H6 := (S_HI_BYTE_SHIFT.keep K1 all0)
  have H7 := (S_LO_BYTE_SHIFT.keep K1 all0)
  refine Gk.callS (argsL := [(.ref b1), (.int (0 : Int32)), (.int c0)]) X1 hx hZ hown (pch_0 l Z a0 T1.heap n0 hw b1 c0 k1_ (fun _ => (.int (0 : Int32))) (6 : Int32) (Nat.le_trans Z0 K1.1) H5 H6 H7 A1_ (by decide) (by decide) g_b1) (W hw 88 rfl) (W hw 89 rfl) (W hw 24 rfl) (W hw 90 rfl) (by decide) rfl pd_2 rfl rfl rfl (by rw [hml]; rfl) rfl (hb hby d17_20) ?_
  intro T4 L4 v4 X4 hQ4
  obtain ⟨rfl, N4q, K4, V4_⟩ := hQ4
  have N4 := Fr.app N1 N4q
  show Go p e below (T4.setTop (mkF m 23 _ [])) _
  refine Gk.iinc X4 hx (hb hby d17_23) rfl #[.val (.ref a1), .val (.int (1 : Int32)), .val (.int (3 : Int32)), .val (.ref b1), .val (.int (0 : Int32))] rfl ?_
  refine Gk.iinc X4 hx (hb hby d17_26) rfl #[.val (.ref a1), .val (.int (1 : Int32)), .val (.int (3 : Int32)), .val (.ref b1), .val (.int (1 : Int32))] rfl ?_
  refine Gk.goto X4 hx (hb hby d17_29) 8 (by decide) (by decide) ?_
  refine Gk.iload X4 hx (hb hby d17_8) rfl ?_
  refine Gk.iloadN X4 hx (hb hby d17_10) rfl ?_
  refine Gk.icmpNo X4 hx (hb hby d17_11) (tlt (by decide : (1 : Int32) < (3 : Int32))).2.1 ?_
  refine Gk.aloadN X4 hx (hb hby d17_14) rfl rfl ?_
  refine Gk.iload X4 hx (hb hby d17_15) rfl ?_
  refine Gk.aloadN X4 hx (hb hby d17_17) rfl rfl ?_
  refine Gk.iloadN X4 hx (hb hby d17_18) rfl ?_
  have ne9 : a1 ≠ b1 := (Nat.ne_of_lt (Nat.lt_of_lt_of_le V_a.lt (Nat.le_trans (Nat.le_refl _) (Nat.le_of_eq g1.symm))))
  have H10 := (H3.keep K4 (ninS ne9 nin0))
  refine Gk.caload X4 hx hZ rfl H10 ⟨by decide, by decide⟩ (.int c1) hf1 (hb hby d17_19) ?_
  have H12 := (H5.keep K4 (allS g_b1 all0))
  have H13 := (H6.keep K4 (allS g_b1 all0))
  have H14 := (H7.keep K4 (allS g_b1 all0))
  refine Gk.callS (argsL := [(.ref b1), (.int (1 : Int32)), (.int c1)]) X4 hx hZ hown (pch_1 l Z a0 T4.heap n0 hw b1 c1 k1_ (upd (upd (fun _ => (.int (0 : Int32))) 0 (.int ((c0 >>> ((0 : Int32) &&& 31)).toInt8.toInt32))) 1 (.int ((c0 >>> ((8 : Int32) &&& 31)).toInt8.toInt32))) (6 : Int32) (Nat.le_trans Z0 (Nat.le_trans K1.1 K4.1)) H12 H13 H14 V4_ (by decide) (by decide) g_b1) (W hw 88 rfl) (W hw 89 rfl) (W hw 24 rfl) (W hw 90 rfl) (by decide) rfl pd_2 rfl rfl rfl (by rw [hml]; rfl) rfl (hb hby d17_20) ?_
  intro T11 L11 v11 X11 hQ11
  obtain ⟨rfl, N11q, K11, V11_⟩ := hQ11
  have N11 := Fr.app N4 N11q
  show Go p e below (T11.setTop (mkF m 23 _ [])) _
  refine Gk.iinc X11 hx (hb hby d17_23) rfl #[.val (.ref a1), .val (.int (2 : Int32)), .val (.int (3 : Int32)), .val (.ref b1), .val (.int (1 : Int32))] rfl ?_
  refine Gk.iinc X11 hx (hb hby d17_26) rfl #[.val (.ref a1), .val (.int (2 : Int32)), .val (.int (3 : Int32)), .val (.ref b1), .val (.int (2 : Int32))] rfl ?_
  refine Gk.goto X11 hx (hb hby d17_29) 8 (by decide) (by decide) ?_
  refine Gk.iload X11 hx (hb hby d17_8) rfl ?_
  refine Gk.iloadN X11 hx (hb hby d17_10) rfl ?_
  refine Gk.icmpNo X11 hx (hb hby d17_11) (tlt (by decide : (2 : Int32) < (3 : Int32))).2.1 ?_
  refine Gk.aloadN X11 hx (hb hby d17_14) rfl rfl ?_
  refine Gk.iload X11 hx (hb hby d17_15) rfl ?_
  refine Gk.aloadN X11 hx (hb hby d17_17) rfl rfl ?_
  refine Gk.iloadN X11 hx (hb hby d17_18) rfl ?_
  have H16 := (H10.keep K11 (ninS ne9 nin0))
  refine Gk.caload X11 hx hZ rfl H16 ⟨by decide, by decide⟩ (.int c2) hf2 (hb hby d17_19) ?_
  have H18 := (H12.keep K11 (allS g_b1 all0))
  have H19 := (H13.keep K11 (allS g_b1 all0))
  have H20 := (H14.keep K11 (allS g_b1 all0))
  have gr21 := (Nat.le_trans (Nat.le_trans K1.1 K4.1) K11.1)
  refine Gk.callS (argsL := [(.ref b1), (.int (2 : Int32)), (.int c2)]) X11 hx hZ hown (pch_2 l Z a0 T11.heap n0 hw b1 c2 k1_ (upd (upd (upd (upd (fun _ => (.int (0 : Int32))) 0 (.int ((c0 >>> ((0 : Int32) &&& 31)).toInt8.toInt32))) 1 (.int ((c0 >>> ((8 : Int32) &&& 31)).toInt8.toInt32))) 2 (.int ((c1 >>> ((0 : Int32) &&& 31)).toInt8.toInt32))) 3 (.int ((c1 >>> ((8 : Int32) &&& 31)).toInt8.toInt32))) (6 : Int32) (Nat.le_trans Z0 gr21) H18 H19 H20 V11_ (by decide) (by decide) g_b1) (W hw 88 rfl) (W hw 89 rfl) (W hw 24 rfl) (W hw 90 rfl) (by decide) rfl pd_2 rfl rfl rfl (by rw [hml]; rfl) rfl (hb hby d17_20) ?_
  intro T17 L17 v17 X17 hQ17
  obtain ⟨rfl, N17q, K17, V17_⟩ := hQ17
  have N17 := Fr.app N11 N17q
  show Go p e below (T17.setTop (mkF m 23 _ [])) _
  refine Gk.iinc X17 hx (hb hby d17_23) rfl #[.val (.ref a1), .val (.int (3 : Int32)), .val (.int (3 : Int32)), .val (.ref b1), .val (.int (2 : Int32))] rfl ?_
  refine Gk.iinc X17 hx (hb hby d17_26) rfl #[.val (.ref a1), .val (.int (3 : Int32)), .val (.int (3 : Int32)), .val (.ref b1), .val (.int (3 : Int32))] rfl ?_
  refine Gk.goto X17 hx (hb hby d17_29) 8 (by decide) (by decide) ?_
  refine Gk.iload X17 hx (hb hby d17_8) rfl ?_
  refine Gk.iloadN X17 hx (hb hby d17_10) rfl ?_
  refine Gk.icmpYes X17 hx (hb hby d17_11) (flt (by decide : ¬ ((3 : Int32) < (3 : Int32)))).2.1 32 (by decide) (by decide) ?_
  refine Gk.aloadN X17 hx (hb hby d17_32) rfl rfl ?_
  exact Gk.rR X17 hx hret rfl rfl rfl hns (hb hby d17_33) rfl ⟨congrArg (fun z_ : Addr => some (Value.ref z_)) (show b1 = h0.size from g1), N17, (((((Keep.refl h0 []).trans K1 all0).trans K4 (allS (Or.inr (Nat.le_trans (Nat.le_refl _) (Nat.le_of_eq g1.symm))) all0)).trans K11 (allS (Or.inr (Nat.le_trans (Nat.le_refl _) (Nat.le_of_eq g1.symm))) all0)).trans K17 (allS (Or.inr (Nat.le_trans (Nat.le_refl _) (Nat.le_of_eq g1.symm))) all0)), _, (g1 ▸ V17_)⟩
theorem tb_4 (hw : HW Z a0) (a1 : Addr) (kc : ClassId) (f : Nat → Value) (c0 c1 c2 c3 : Int32) (Z0 : n0 ≤ h0.size) (S__assertionsDisabled : Stx Z n0 h0 "java/lang/StringUTF16" "$assertionsDisabled" "Z" (.int (1 : Int32))) (S_HI_BYTE_SHIFT : Stx Z n0 h0 "java/lang/StringUTF16" "HI_BYTE_SHIFT" "I" (.int (0 : Int32))) (S_LO_BYTE_SHIFT : Stx Z n0 h0 "java/lang/StringUTF16" "LO_BYTE_SHIFT" "I" (.int (8 : Int32))) (V_a : Arf Z h0 a1 kc .char (4 : Int32) f) (hf0 : f 0 = (.int c0)) (hf1 : f 1 = (.int c1)) (hf2 : f 2 = (.int c2)) (hf3 : f 3 = (.int c3)) : Ct l ⟨"java/lang/StringUTF16", "toBytes", "([CII)[B"⟩ jdk_52_method_14_code 5 (some (.array .byte)) ⟨2, 1, 8, 24⟩ #[(.ref a1), (.int (0 : Int32)), (.int (4 : Int32))] Z h0 (fun v h L => v = some (.ref h0.size) ∧ Fr n0 L ∧ Keep h0 h [] ∧ ∃ kb : ClassId, Arf Z h h0.size kb .byte (8 : Int32) (upd (upd (upd (upd (upd (upd (upd (upd (fun _ => (.int (0 : Int32))) 0 (.int ((c0 >>> ((0 : Int32) &&& 31)).toInt8.toInt32))) 1 (.int ((c0 >>> ((8 : Int32) &&& 31)).toInt8.toInt32))) 2 (.int ((c1 >>> ((0 : Int32) &&& 31)).toInt8.toInt32))) 3 (.int ((c1 >>> ((8 : Int32) &&& 31)).toInt8.toInt32))) 4 (.int ((c2 >>> ((0 : Int32) &&& 31)).toInt8.toInt32))) 5 (.int ((c2 >>> ((8 : Int32) &&& 31)).toInt8.toInt32))) 6 (.int ((c3 >>> ((0 : Int32) &&& 31)).toInt8.toInt32))) 7 (.int ((c3 >>> ((8 : Int32) &&& 31)).toInt8.toInt32)))) := by
  refine Ct.of "java/lang/StringUTF16" rfl (plainFor_of_name pn_5) #[.val (.ref a1), .val (.int (0 : Int32)), .val (.int (4 : Int32)), .unset, .unset] rfl rfl ?_
  intro p e s m below meth c s₁ hx hby hml hown hnm hret hns hZ hh X0 e0
  refine Gk.iloadN X0 hx (hb hby d17_0) rfl ?_
  refine Gk.callS (argsL := [(.int (4 : Int32))]) X0 hx hZ hown (nbf_4 l Z a0 h0 n0 hw  Z0) (W hw 81 rfl) (W hw 82 rfl) (W hw 24 rfl) (W hw 83 rfl) (by decide) e0 pd_1 rfl rfl rfl (by rw [hml]; rfl) rfl (hb hby d17_1) ?_
  intro T1 L1 v1 X1 hQ1
  obtain ⟨hv1, N1q, K1, k1_, A1_⟩ := hQ1
  have N1 := Fr.app (Fr.nil n0) N1q
  obtain ⟨b1, g1⟩ : ∃ z_, z_ = h0.size := ⟨_, rfl⟩
  rw [← g1] at hv1 A1_
  subst hv1
  have g_b1 : n0 ≤ b1 := Nat.le_trans Z0 (Nat.le_of_eq g1.symm)
  have lt_b1 := A1_.lt
  show Go p e below (T1.setTop (mkF m 4 _ [(.ref b1)])) _
  refine Gk.astoreN X1 hx (hb hby d17_4) rfl #[.val (.ref a1), .val (.int (0 : Int32)), .val (.int (4 : Int32)), .val (.ref b1), .unset] rfl ?_
  refine Gk.iconst X1 hx (hb hby d17_5) (0 : Int32) rfl ?_
  refine Gk.istore X1 hx (hb hby d17_6) #[.val (.ref a1), .val (.int (0 : Int32)), .val (.int (4 : Int32)), .val (.ref b1), .val (.int (0 : Int32))] rfl ?_
  refine Gk.iload X1 hx (hb hby d17_8) rfl ?_
  refine Gk.iloadN X1 hx (hb hby d17_10) rfl ?_
  refine Gk.icmpNo X1 hx (hb hby d17_11) (tlt (by decide : (0 : Int32) < (4 : Int32))).2.1 ?_
  refine Gk.aloadN X1 hx (hb hby d17_14) rfl rfl ?_
  refine Gk.iload X1 hx (hb hby d17_15) rfl ?_
  refine Gk.aloadN X1 hx (hb hby d17_17) rfl rfl ?_
  refine Gk.iloadN X1 hx (hb hby d17_18) rfl ?_
  have H3 := (V_a.keep K1 nin0)
  refine Gk.caload X1 hx hZ rfl H3 ⟨by decide, by decide⟩ (.int c0) hf0 (hb hby d17_19) ?_
  have H5 := (S__assertionsDisabled.keep K1 all0)
  have H6 := (S_HI_BYTE_SHIFT.keep K1 all0)
  have H7 := (S_LO_BYTE_SHIFT.keep K1 all0)
  refine Gk.callS (argsL := [(.ref b1), (.int (0 : Int32)), (.int c0)]) X1 hx hZ hown (pch_0 l Z a0 T1.heap n0 hw b1 c0 k1_ (fun _ => (.int (0 : Int32))) (8 : Int32) (Nat.le_trans Z0 K1.1) H5 H6 H7 A1_ (by decide) (by decide) g_b1) (W hw 88 rfl) (W hw 89 rfl) (W hw 24 rfl) (W hw 90 rfl) (by decide) rfl pd_2 rfl rfl rfl (by rw [hml]; rfl) rfl (hb hby d17_20) ?_
  intro T4 L4 v4 X4 hQ4
  obtain ⟨rfl, N4q, K4, V4_⟩ := hQ4
  have N4 := Fr.app N1 N4q
  show Go p e below (T4.setTop (mkF m 23 _ [])) _
  refine Gk.iinc X4 hx (hb hby d17_23) rfl #[.val (.ref a1), .val (.int (1 : Int32)), .val (.int (4 : Int32)), .val (.ref b1), .val (.int (0 : Int32))] rfl ?_
  refine Gk.iinc X4 hx (hb hby d17_26) rfl #[.val (.ref a1), .val (.int (1 : Int32)), .val (.int (4 : Int32)), .val (.ref b1), .val (.int (1 : Int32))] rfl ?_
  refine Gk.goto X4 hx (hb hby d17_29) 8 (by decide) (by decide) ?_
  refine Gk.iload X4 hx (hb hby d17_8) rfl ?_
  refine Gk.iloadN X4 hx (hb hby d17_10) rfl ?_
  refine Gk.icmpNo X4 hx (hb hby d17_11) (tlt (by decide : (1 : Int32) < (4 : Int32))).2.1 ?_
  refine Gk.aloadN X4 hx (hb hby d17_14) rfl rfl ?_
  refine Gk.iload X4 hx (hb hby d17_15) rfl ?_
  refine Gk.aloadN X4 hx (hb hby d17_17) rfl rfl ?_
  refine Gk.iloadN X4 hx (hb hby d17_18) rfl ?_
  have ne9 : a1 ≠ b1 := (Nat.ne_of_lt (Nat.lt_of_lt_of_le V_a.lt (Nat.le_trans (Nat.le_refl _) (Nat.le_of_eq g1.symm))))
  have H10 := (H3.keep K4 (ninS ne9 nin0))
  refine Gk.caload X4 hx hZ rfl H10 ⟨by decide, by decide⟩ (.int c1) hf1 (hb hby d17_19) ?_
  have H12 := (H5.keep K4 (allS g_b1 all0))
  have H13 := (H6.keep K4 (allS g_b1 all0))
  have H14 := (H7.keep K4 (allS g_b1 all0))
  refine Gk.callS (argsL := [(.ref b1), (.int (1 : Int32)), (.int c1)]) X4 hx hZ hown (pch_1 l Z a0 T4.heap n0 hw b1 c1 k1_ (upd (upd (fun _ => (.int (0 : Int32))) 0 (.int ((c0 >>> ((0 : Int32) &&& 31)).toInt8.toInt32))) 1 (.int ((c0 >>> ((8 : Int32) &&& 31)).toInt8.toInt32))) (8 : Int32) (Nat.le_trans Z0 (Nat.le_trans K1.1 K4.1)) H12 H13 H14 V4_ (by decide) (by decide) g_b1) (W hw 88 rfl) (W hw 89 rfl) (W hw 24 rfl) (W hw 90 rfl) (by decide) rfl pd_2 rfl rfl rfl (by rw [hml]; rfl) rfl (hb hby d17_20) ?_
  intro T11 L11 v11 X11 hQ11
  obtain ⟨rfl, N11q, K11, V11_⟩ := hQ11
  have N11 := Fr.app N4 N11q
  show Go p e below (T11.setTop (mkF m 23 _ [])) _
  refine Gk.iinc X11 hx (hb hby d17_23) rfl #[.val (.ref a1), .val (.int (2 : Int32)), .val (.int (4 : Int32)), .val (.ref b1), .val (.int (1 : Int32))] rfl ?_
  refine Gk.iinc X11 hx (hb hby d17_26) rfl #[.val (.ref a1), .val (.int (2 : Int32)), .val (.int (4 : Int32)), .val (.ref b1), .val (.int (2 : Int32))] rfl ?_
  refine Gk.goto X11 hx (hb hby d17_29) 8 (by decide) (by decide) ?_
  refine Gk.iload X11 hx (hb hby d17_8) rfl ?_
  refine Gk.iloadN X11 hx (hb hby d17_10) rfl ?_
  refine Gk.icmpNo X11 hx (hb hby d17_11) (tlt (by decide : (2 : Int32) < (4 : Int32))).2.1 ?_
  refine Gk.aloadN X11 hx (hb hby d17_14) rfl rfl ?_
  refine Gk.iload X11 hx (hb hby d17_15) rfl ?_
  refine Gk.aloadN X11 hx (hb hby d17_17) rfl rfl ?_
  refine Gk.iloadN X11 hx (hb hby d17_18) rfl ?_
  have H16 := (H10.keep K11 (ninS ne9 nin0))
  refine Gk.caload X11 hx hZ rfl H16 ⟨by decide, by decide⟩ (.int c2) hf2 (hb hby d17_19) ?_
  have H18 := (H12.keep K11 (allS g_b1 all0))
  have H19 := (H13.keep K11 (allS g_b1 all0))
  have H20 := (H14.keep K11 (allS g_b1 all0))
  have gr21 := (Nat.le_trans (Nat.le_trans K1.1 K4.1) K11.1)
  refine Gk.callS (argsL := [(.ref b1), (.int (2 : Int32)), (.int c2)]) X11 hx hZ hown (pch_2 l Z a0 T11.heap n0 hw b1 c2 k1_ (upd (upd (upd (upd (fun _ => (.int (0 : Int32))) 0 (.int ((c0 >>> ((0 : Int32) &&& 31)).toInt8.toInt32))) 1 (.int ((c0 >>> ((8 : Int32) &&& 31)).toInt8.toInt32))) 2 (.int ((c1 >>> ((0 : Int32) &&& 31)).toInt8.toInt32))) 3 (.int ((c1 >>> ((8 : Int32) &&& 31)).toInt8.toInt32))) (8 : Int32) (Nat.le_trans Z0 gr21) H18 H19 H20 V11_ (by decide) (by decide) g_b1) (W hw 88 rfl) (W hw 89 rfl) (W hw 24 rfl) (W hw 90 rfl) (by decide) rfl pd_2 rfl rfl rfl (by rw [hml]; rfl) rfl (hb hby d17_20) ?_
  intro T17 L17 v17 X17 hQ17
  obtain ⟨rfl, N17q, K17, V17_⟩ := hQ17
  have N17 := Fr.app N11 N17q
  show Go p e below (T17.setTop (mkF m 23 _ [])) _
  refine Gk.iinc X17 hx (hb hby d17_23) rfl #[.val (.ref a1), .val (.int (3 : Int32)), .val (.int (4 : Int32)), .val (.ref b1), .val (.int (2 : Int32))] rfl ?_
  refine Gk.iinc X17 hx (hb hby d17_26) rfl #[.val (.ref a1), .val (.int (3 : Int32)), .val (.int (4 : Int32)), .val (.ref b1), .val (.int (3 : Int32))] rfl ?_
  refine Gk.goto X17 hx (hb hby d17_29) 8 (by decide) (by decide) ?_
  refine Gk.iload X17 hx (hb hby d17_8) rfl ?_
  refine Gk.iloadN X17 hx (hb hby d17_10) rfl ?_
  refine Gk.icmpNo X17 hx (hb hby d17_11) (tlt (by decide : (3 : Int32) < (4 : Int32))).2.1 ?_
  refine Gk.aloadN X17 hx (hb hby d17_14) rfl rfl ?_
  refine Gk.iload X17 hx (hb hby d17_15) rfl ?_
  refine Gk.aloadN X17 hx (hb hby d17_17) rfl rfl ?_
  refine Gk.iloadN X17 hx (hb hby d17_18) rfl ?_
  have H23 := (H16.keep K17 (ninS ne9 nin0))
  refine Gk.caload X17 hx hZ rfl H23 ⟨by decide, by decide⟩ (.int c3) hf3 (hb hby d17_19) ?_
  have H25 := (H18.keep K17 (allS g_b1 all0))
  have H26 := (H19.keep K17 (allS g_b1 all0))
  have H27 := (H20.keep K17 (allS g_b1 all0))
  refine Gk.callS (argsL := [(.ref b1), (.int (3 : Int32)), (.int c3)]) X17 hx hZ hown (pch_3 l Z a0 T17.heap n0 hw b1 c3 k1_ (upd (upd (upd (upd (upd (upd (fun _ => (.int (0 : Int32))) 0 (.int ((c0 >>> ((0 : Int32) &&& 31)).toInt8.toInt32))) 1 (.int ((c0 >>> ((8 : Int32) &&& 31)).toInt8.toInt32))) 2 (.int ((c1 >>> ((0 : Int32) &&& 31)).toInt8.toInt32))) 3 (.int ((c1 >>> ((8 : Int32) &&& 31)).toInt8.toInt32))) 4 (.int ((c2 >>> ((0 : Int32) &&& 31)).toInt8.toInt32))) 5 (.int ((c2 >>> ((8 : Int32) &&& 31)).toInt8.toInt32))) (8 : Int32) (Nat.le_trans Z0 (Nat.le_trans gr21 K17.1)) H25 H26 H27 V17_ (by decide) (by decide) g_b1) (W hw 88 rfl) (W hw 89 rfl) (W hw 24 rfl) (W hw 90 rfl) (by decide) rfl pd_2 rfl rfl rfl (by rw [hml]; rfl) rfl (hb hby d17_20) ?_
  intro T24 L24 v24 X24 hQ24
  obtain ⟨rfl, N24q, K24, V24_⟩ := hQ24
  have N24 := Fr.app N17 N24q
  show Go p e below (T24.setTop (mkF m 23 _ [])) _
  refine Gk.iinc X24 hx (hb hby d17_23) rfl #[.val (.ref a1), .val (.int (4 : Int32)), .val (.int (4 : Int32)), .val (.ref b1), .val (.int (3 : Int32))] rfl ?_
  refine Gk.iinc X24 hx (hb hby d17_26) rfl #[.val (.ref a1), .val (.int (4 : Int32)), .val (.int (4 : Int32)), .val (.ref b1), .val (.int (4 : Int32))] rfl ?_
  refine Gk.goto X24 hx (hb hby d17_29) 8 (by decide) (by decide) ?_
  refine Gk.iload X24 hx (hb hby d17_8) rfl ?_
  refine Gk.iloadN X24 hx (hb hby d17_10) rfl ?_
  refine Gk.icmpYes X24 hx (hb hby d17_11) (flt (by decide : ¬ ((4 : Int32) < (4 : Int32)))).2.1 32 (by decide) (by decide) ?_
  refine Gk.aloadN X24 hx (hb hby d17_32) rfl rfl ?_
  exact Gk.rR X24 hx hret rfl rfl rfl hns (hb hby d17_33) rfl ⟨congrArg (fun z_ : Addr => some (Value.ref z_)) (show b1 = h0.size from g1), N24, ((((((Keep.refl h0 []).trans K1 all0).trans K4 (allS (Or.inr (Nat.le_trans (Nat.le_refl _) (Nat.le_of_eq g1.symm))) all0)).trans K11 (allS (Or.inr (Nat.le_trans (Nat.le_refl _) (Nat.le_of_eq g1.symm))) all0)).trans K17 (allS (Or.inr (Nat.le_trans (Nat.le_refl _) (Nat.le_of_eq g1.symm))) all0)).trans K24 (allS (Or.inr (Nat.le_trans (Nat.le_refl _) (Nat.le_of_eq g1.symm))) all0)), _, (g1 ▸ V24_)⟩
theorem tb_5 (hw : HW Z a0) (a1 : Addr) (kc : ClassId) (f : Nat → Value) (c0 c1 c2 c3 c4 : Int32) (Z0 : n0 ≤ h0.size) (S__assertionsDisabled : Stx Z n0 h0 "java/lang/StringUTF16" "$assertionsDisabled" "Z" (.int (1 : Int32))) (S_HI_BYTE_SHIFT : Stx Z n0 h0 "java/lang/StringUTF16" "HI_BYTE_SHIFT" "I" (.int (0 : Int32))) (S_LO_BYTE_SHIFT : Stx Z n0 h0 "java/lang/StringUTF16" "LO_BYTE_SHIFT" "I" (.int (8 : Int32))) (V_a : Arf Z h0 a1 kc .char (5 : Int32) f) (hf0 : f 0 = (.int c0)) (hf1 : f 1 = (.int c1)) (hf2 : f 2 = (.int c2)) (hf3 : f 3 = (.int c3)) (hf4 : f 4 = (.int c4)) : Ct l ⟨"java/lang/StringUTF16", "toBytes", "([CII)[B"⟩ jdk_52_method_14_code 5 (some (.array .byte)) ⟨2, 1, 10, 24⟩ #[(.ref a1), (.int (0 : Int32)), (.int (5 : Int32))] Z h0 (fun v h L => v = some (.ref h0.size) ∧ Fr n0 L ∧ Keep h0 h [] ∧ ∃ kb : ClassId, Arf Z h h0.size kb .byte (10 : Int32) (upd (upd (upd (upd (upd (upd (upd (upd (upd (upd (fun _ => (.int (0 : Int32))) 0 (.int ((c0 >>> ((0 : Int32) &&& 31)).toInt8.toInt32))) 1 (.int ((c0 >>> ((8 : Int32) &&& 31)).toInt8.toInt32))) 2 (.int ((c1 >>> ((0 : Int32) &&& 31)).toInt8.toInt32))) 3 (.int ((c1 >>> ((8 : Int32) &&& 31)).toInt8.toInt32))) 4 (.int ((c2 >>> ((0 : Int32) &&& 31)).toInt8.toInt32))) 5 (.int ((c2 >>> ((8 : Int32) &&& 31)).toInt8.toInt32))) 6 (.int ((c3 >>> ((0 : Int32) &&& 31)).toInt8.toInt32))) 7 (.int ((c3 >>> ((8 : Int32) &&& 31)).toInt8.toInt32))) 8 (.int ((c4 >>> ((0 : Int32) &&& 31)).toInt8.toInt32))) 9 (.int ((c4 >>> ((8 : Int32) &&& 31)).toInt8.toInt32)))) := by
  refine Ct.of "java/lang/StringUTF16" rfl (plainFor_of_name pn_5) #[.val (.ref a1), .val (.int (0 : Int32)), .val (.int (5 : Int32)), .unset, .unset] rfl rfl ?_
  intro p e s m below meth c s₁ hx hby hml hown hnm hret hns hZ hh X0 e0
  refine Gk.iloadN X0 hx (hb hby d17_0) rfl ?_
  refine Gk.callS (argsL := [(.int (5 : Int32))]) X0 hx hZ hown (nbf_5 l Z a0 h0 n0 hw  Z0) (W hw 81 rfl) (W hw 82 rfl) (W hw 24 rfl) (W hw 83 rfl) (by decide) e0 pd_1 rfl rfl rfl (by rw [hml]; rfl) rfl (hb hby d17_1) ?_
  intro T1 L1 v1 X1 hQ1
  obtain ⟨hv1, N1q, K1, k1_, A1_⟩ := hQ1
  have N1 := Fr.app (Fr.nil n0) N1q
  obtain ⟨b1, g1⟩ : ∃ z_, z_ = h0.size := ⟨_, rfl⟩
  rw [← g1] at hv1 A1_
  subst hv1
  have g_b1 : n0 ≤ b1 := Nat.le_trans Z0 (Nat.le_of_eq g1.symm)
  have lt_b1 := A1_.lt
  show Go p e below (T1.setTop (mkF m 4 _ [(.ref b1)])) _
  refine Gk.astoreN X1 hx (hb hby d17_4) rfl #[.val (.ref a1), .val (.int (0 : Int32)), .val (.int (5 : Int32)), .val (.ref b1), .unset] rfl ?_
  refine Gk.iconst X1 hx (hb hby d17_5) (0 : Int32) rfl ?_
  refine Gk.istore X1 hx (hb hby d17_6) #[.val (.ref a1), .val (.int (0 : Int32)), .val (.int (5 : Int32)), .val (.ref b1), .val (.int (0 : Int32))] rfl ?_
  refine Gk.iload X1 hx (hb hby d17_8) rfl ?_
  refine Gk.iloadN X1 hx (hb hby d17_10) rfl ?_
  refine Gk.icmpNo X1 hx (hb hby d17_11) (tlt (by decide : (0 : Int32) < (5 : Int32))).2.1 ?_
  refine Gk.aloadN X1 hx (hb hby d17_14) rfl rfl ?_
  refine Gk.iload X1 hx (hb hby d17_15) rfl ?_
  refine Gk.aloadN X1 hx (hb hby d17_17) rfl rfl ?_
  refine Gk.iloadN X1 hx (hb hby d17_18) rfl ?_
  have H3 := (V_a.keep K1 nin0)
  refine Gk.caload X1 hx hZ rfl H3 ⟨by decide, by decide⟩ (.int c0) hf0 (hb hby d17_19) ?_
  have H5 := (S__assertionsDisabled.keep K1 all0)
  have H6 := (S_HI_BYTE_SHIFT.keep K1 all0)
  have H7 := (S_LO_BYTE_SHIFT.keep K1 all0)
  refine Gk.callS (argsL := [(.ref b1), (.int (0 : Int32)), (.int c0)]) X1 hx hZ hown (pch_0 l Z a0 T1.heap n0 hw b1 c0 k1_ (fun _ => (.int (0 : Int32))) (10 : Int32) (Nat.le_trans Z0 K1.1) H5 H6 H7 A1_ (by decide) (by decide) g_b1) (W hw 88 rfl) (W hw 89 rfl) (W hw 24 rfl) (W hw 90 rfl) (by decide) rfl pd_2 rfl rfl rfl (by rw [hml]; rfl) rfl (hb hby d17_20) ?_
  intro T4 L4 v4 X4 hQ4
  obtain ⟨rfl, N4q, K4, V4_⟩ := hQ4
  have N4 := Fr.app N1 N4q
  show Go p e below (T4.setTop (mkF m 23 _ [])) _
  refine Gk.iinc X4 hx (hb hby d17_23) rfl #[.val (.ref a1), .val (.int (1 : Int32)), .val (.int (5 : Int32)), .val (.ref b1), .val (.int (0 : Int32))] rfl ?_
  refine Gk.iinc X4 hx (hb hby d17_26) rfl #[.val (.ref a1), .val (.int (1 : Int32)), .val (.int (5 : Int32)), .val (.ref b1), .val (.int (1 : Int32))] rfl ?_
  refine Gk.goto X4 hx (hb hby d17_29) 8 (by decide) (by decide) ?_
  refine Gk.iload X4 hx (hb hby d17_8) rfl ?_
  refine Gk.iloadN X4 hx (hb hby d17_10) rfl ?_
  refine Gk.icmpNo X4 hx (hb hby d17_11) (tlt (by decide : (1 : Int32) < (5 : Int32))).2.1 ?_
  refine Gk.aloadN X4 hx (hb hby d17_14) rfl rfl ?_
  refine Gk.iload X4 hx (hb hby d17_15) rfl ?_
  refine Gk.aloadN X4 hx (hb hby d17_17) rfl rfl ?_
  refine Gk.iloadN X4 hx (hb hby d17_18) rfl ?_
  have ne9 : a1 ≠ b1 := (Nat.ne_of_lt (Nat.lt_of_lt_of_le V_a.lt (Nat.le_trans (Nat.le_refl _) (Nat.le_of_eq g1.symm))))
  have H10 := (H3.keep K4 (ninS ne9 nin0))
  refine Gk.caload X4 hx hZ rfl H10 ⟨by decide, by decide⟩ (.int c1) hf1 (hb hby d17_19) ?_
  have H12 := (H5.keep K4 (allS g_b1 all0))
  have H13 := (H6.keep K4 (allS g_b1 all0))
  have H14 := (H7.keep K4 (allS g_b1 all0))
  refine Gk.callS (argsL := [(.ref b1), (.int (1 : Int32)), (.int c1)]) X4 hx hZ hown (pch_1 l Z a0 T4.heap n0 hw b1 c1 k1_ (upd (upd (fun _ => (.int (0 : Int32))) 0 (.int ((c0 >>> ((0 : Int32) &&& 31)).toInt8.toInt32))) 1 (.int ((c0 >>> ((8 : Int32) &&& 31)).toInt8.toInt32))) (10 : Int32) (Nat.le_trans Z0 (Nat.le_trans K1.1 K4.1)) H12 H13 H14 V4_ (by decide) (by decide) g_b1) (W hw 88 rfl) (W hw 89 rfl) (W hw 24 rfl) (W hw 90 rfl) (by decide) rfl pd_2 rfl rfl rfl (by rw [hml]; rfl) rfl (hb hby d17_20) ?_
  intro T11 L11 v11 X11 hQ11
  obtain ⟨rfl, N11q, K11, V11_⟩ := hQ11
  have N11 := Fr.app N4 N11q
  show Go p e below (T11.setTop (mkF m 23 _ [])) _
  refine Gk.iinc X11 hx (hb hby d17_23) rfl #[.val (.ref a1), .val (.int (2 : Int32)), .val (.int (5 : Int32)), .val (.ref b1), .val (.int (1 : Int32))] rfl ?_
  refine Gk.iinc X11 hx (hb hby d17_26) rfl #[.val (.ref a1), .val (.int (2 : Int32)), .val (.int (5 : Int32)), .val (.ref b1), .val (.int (2 : Int32))] rfl ?_
  refine Gk.goto X11 hx (hb hby d17_29) 8 (by decide) (by decide) ?_
  refine Gk.iload X11 hx (hb hby d17_8) rfl ?_
  refine Gk.iloadN X11 hx (hb hby d17_10) rfl ?_
  refine Gk.icmpNo X11 hx (hb hby d17_11) (tlt (by decide : (2 : Int32) < (5 : Int32))).2.1 ?_
  refine Gk.aloadN X11 hx (hb hby d17_14) rfl rfl ?_
  refine Gk.iload X11 hx (hb hby d17_15) rfl ?_
  refine Gk.aloadN X11 hx (hb hby d17_17) rfl rfl ?_
  refine Gk.iloadN X11 hx (hb hby d17_18) rfl ?_
  have H16 := (H10.keep K11 (ninS ne9 nin0))
  refine Gk.caload X11 hx hZ rfl H16 ⟨by decide, by decide⟩ (.int c2) hf2 (hb hby d17_19) ?_
  have H18 := (H12.keep K11 (allS g_b1 all0))
  have H19 := (H13.keep K11 (allS g_b1 all0))
  have H20 := (H14.keep K11 (allS g_b1 all0))
  have gr21 := (Nat.le_trans (Nat.le_trans K1.1 K4.1) K11.1)
  refine Gk.callS (argsL := [(.ref b1), (.int (2 : Int32)), (.int c2)]) X11 hx hZ hown (pch_2 l Z a0 T11.heap n0 hw b1 c2 k1_ (upd (upd (upd (upd (fun _ => (.int (0 : Int32))) 0 (.int ((c0 >>> ((0 : Int32) &&& 31)).toInt8.toInt32))) 1 (.int ((c0 >>> ((8 : Int32) &&& 31)).toInt8.toInt32))) 2 (.int ((c1 >>> ((0 : Int32) &&& 31)).toInt8.toInt32))) 3 (.int ((c1 >>> ((8 : Int32) &&& 31)).toInt8.toInt32))) (10 : Int32) (Nat.le_trans Z0 gr21) H18 H19 H20 V11_ (by decide) (by decide) g_b1) (W hw 88 rfl) (W hw 89 rfl) (W hw 24 rfl) (W hw 90 rfl) (by decide) rfl pd_2 rfl rfl rfl (by rw [hml]; rfl) rfl (hb hby d17_20) ?_
  intro T17 L17 v17 X17 hQ17
  obtain ⟨rfl, N17q, K17, V17_⟩ := hQ17
  have N17 := Fr.app N11 N17q
  show Go p e below (T17.setTop (mkF m 23 _ [])) _
  refine Gk.iinc X17 hx (hb hby d17_23) rfl #[.val (.ref a1), .val (.int (3 : Int32)), .val (.int (5 : Int32)), .val (.ref b1), .val (.int (2 : Int32))] rfl ?_
  refine Gk.iinc X17 hx (hb hby d17_26) rfl #[.val (.ref a1), .val (.int (3 : Int32)), .val (.int (5 : Int32)), .val (.ref b1), .val (.int (3 : Int32))] rfl ?_
  refine Gk.goto X17 hx (hb hby d17_29) 8 (by decide) (by decide) ?_
  refine Gk.iload X17 hx (hb hby d17_8) rfl ?_
  refine Gk.iloadN X17 hx (hb hby d17_10) rfl ?_
  refine Gk.icmpNo X17 hx (hb hby d17_11) (tlt (by decide : (3 : Int32) < (5 : Int32))).2.1 ?_
  refine Gk.aloadN X17 hx (hb hby d17_14) rfl rfl ?_
  refine Gk.iload X17 hx (hb hby d17_15) rfl ?_
  refine Gk.aloadN X17 hx (hb hby d17_17) rfl rfl ?_
  refine Gk.iloadN X17 hx (hb hby d17_18) rfl ?_
  have H23 := (H16.keep K17 (ninS ne9 nin0))
  refine Gk.caload X17 hx hZ rfl H23 ⟨by decide, by decide⟩ (.int c3) hf3 (hb hby d17_19) ?_
  have H25 := (H18.keep K17 (allS g_b1 all0))
  have H26 := (H19.keep K17 (allS g_b1 all0))
  have H27 := (H20.keep K17 (allS g_b1 all0))
  refine Gk.callS (argsL := [(.ref b1), (.int (3 : Int32)), (.int c3)]) X17 hx hZ hown (pch_3 l Z a0 T17.heap n0 hw b1 c3 k1_ (upd (upd (upd (upd (upd (upd (fun _ => (.int (0 : Int32))) 0 (.int ((c0 >>> ((0 : Int32) &&& 31)).toInt8.toInt32))) 1 (.int ((c0 >>> ((8 : Int32) &&& 31)).toInt8.toInt32))) 2 (.int ((c1 >>> ((0 : Int32) &&& 31)).toInt8.toInt32))) 3 (.int ((c1 >>> ((8 : Int32) &&& 31)).toInt8.toInt32))) 4 (.int ((c2 >>> ((0 : Int32) &&& 31)).toInt8.toInt32))) 5 (.int ((c2 >>> ((8 : Int32) &&& 31)).toInt8.toInt32))) (10 : Int32) (Nat.le_trans Z0 (Nat.le_trans gr21 K17.1)) H25 H26 H27 V17_ (by decide) (by decide) g_b1) (W hw 88 rfl) (W hw 89 rfl) (W hw 24 rfl) (W hw 90 rfl) (by decide) rfl pd_2 rfl rfl rfl (by rw [hml]; rfl) rfl (hb hby d17_20) ?_
  intro T24 L24 v24 X24 hQ24
  obtain ⟨rfl, N24q, K24, V24_⟩ := hQ24
  have N24 := Fr.app N17 N24q
  show Go p e below (T24.setTop (mkF m 23 _ [])) _
  refine Gk.iinc X24 hx (hb hby d17_23) rfl #[.val (.ref a1), .val (.int (4 : Int32)), .val (.int (5 : Int32)), .val (.ref b1), .val (.int (3 : Int32))] rfl ?_
  refine Gk.iinc X24 hx (hb hby d17_26) rfl #[.val (.ref a1), .val (.int (4 : Int32)), .val (.int (5 : Int32)), .val (.ref b1), .val (.int (4 : Int32))] rfl ?_
  refine Gk.goto X24 hx (hb hby d17_29) 8 (by decide) (by decide) ?_
  refine Gk.iload X24 hx (hb hby d17_8) rfl ?_
  refine Gk.iloadN X24 hx (hb hby d17_10) rfl ?_
  refine Gk.icmpNo X24 hx (hb hby d17_11) (tlt (by decide : (4 : Int32) < (5 : Int32))).2.1 ?_
  refine Gk.aloadN X24 hx (hb hby d17_14) rfl rfl ?_
  refine Gk.iload X24 hx (hb hby d17_15) rfl ?_
  refine Gk.aloadN X24 hx (hb hby d17_17) rfl rfl ?_
  refine Gk.iloadN X24 hx (hb hby d17_18) rfl ?_
  have H29 := (H23.keep K24 (ninS ne9 nin0))
  refine Gk.caload X24 hx hZ rfl H29 ⟨by decide, by decide⟩ (.int c4) hf4 (hb hby d17_19) ?_
  have H31 := (H25.keep K24 (allS g_b1 all0))
  have H32 := (H26.keep K24 (allS g_b1 all0))
  have H33 := (H27.keep K24 (allS g_b1 all0))
  have gr34 := (Nat.le_trans (Nat.le_trans gr21 K17.1) K24.1)
  refine Gk.callS (argsL := [(.ref b1), (.int (4 : Int32)), (.int c4)]) X24 hx hZ hown (pch_4 l Z a0 T24.heap n0 hw b1 c4 k1_ (upd (upd (upd (upd (upd (upd (upd (upd (fun _ => (.int (0 : Int32))) 0 (.int ((c0 >>> ((0 : Int32) &&& 31)).toInt8.toInt32))) 1 (.int ((c0 >>> ((8 : Int32) &&& 31)).toInt8.toInt32))) 2 (.int ((c1 >>> ((0 : Int32) &&& 31)).toInt8.toInt32))) 3 (.int ((c1 >>> ((8 : Int32) &&& 31)).toInt8.toInt32))) 4 (.int ((c2 >>> ((0 : Int32) &&& 31)).toInt8.toInt32))) 5 (.int ((c2 >>> ((8 : Int32) &&& 31)).toInt8.toInt32))) 6 (.int ((c3 >>> ((0 : Int32) &&& 31)).toInt8.toInt32))) 7 (.int ((c3 >>> ((8 : Int32) &&& 31)).toInt8.toInt32))) (10 : Int32) (Nat.le_trans Z0 gr34) H31 H32 H33 V24_ (by decide) (by decide) g_b1) (W hw 88 rfl) (W hw 89 rfl) (W hw 24 rfl) (W hw 90 rfl) (by decide) rfl pd_2 rfl rfl rfl (by rw [hml]; rfl) rfl (hb hby d17_20) ?_
  intro T30 L30 v30 X30 hQ30
  obtain ⟨rfl, N30q, K30, V30_⟩ := hQ30
  have N30 := Fr.app N24 N30q
  show Go p e below (T30.setTop (mkF m 23 _ [])) _
  refine Gk.iinc X30 hx (hb hby d17_23) rfl #[.val (.ref a1), .val (.int (5 : Int32)), .val (.int (5 : Int32)), .val (.ref b1), .val (.int (4 : Int32))] rfl ?_
  refine Gk.iinc X30 hx (hb hby d17_26) rfl #[.val (.ref a1), .val (.int (5 : Int32)), .val (.int (5 : Int32)), .val (.ref b1), .val (.int (5 : Int32))] rfl ?_
  refine Gk.goto X30 hx (hb hby d17_29) 8 (by decide) (by decide) ?_
  refine Gk.iload X30 hx (hb hby d17_8) rfl ?_
  refine Gk.iloadN X30 hx (hb hby d17_10) rfl ?_
  refine Gk.icmpYes X30 hx (hb hby d17_11) (flt (by decide : ¬ ((5 : Int32) < (5 : Int32)))).2.1 32 (by decide) (by decide) ?_
  refine Gk.aloadN X30 hx (hb hby d17_32) rfl rfl ?_
  exact Gk.rR X30 hx hret rfl rfl rfl hns (hb hby d17_33) rfl ⟨congrArg (fun z_ : Addr => some (Value.ref z_)) (show b1 = h0.size from g1), N30, (((((((Keep.refl h0 []).trans K1 all0).trans K4 (allS (Or.inr (Nat.le_trans (Nat.le_refl _) (Nat.le_of_eq g1.symm))) all0)).trans K11 (allS (Or.inr (Nat.le_trans (Nat.le_refl _) (Nat.le_of_eq g1.symm))) all0)).trans K17 (allS (Or.inr (Nat.le_trans (Nat.le_refl _) (Nat.le_of_eq g1.symm))) all0)).trans K24 (allS (Or.inr (Nat.le_trans (Nat.le_refl _) (Nat.le_of_eq g1.symm))) all0)).trans K30 (allS (Or.inr (Nat.le_trans (Nat.le_refl _) (Nat.le_of_eq g1.symm))) all0)), _, (g1 ▸ V30_)⟩
theorem d7_0 : decode jdk_52_method_21_code 0 = .ok (.iconst 0, 1) := by decide +kernel
theorem d7_1 : decode jdk_52_method_21_code 1 = .ok (.istore 5, 2) := by decide +kernel
theorem d7_3 : decode jdk_52_method_21_code 3 = .ok (.iload 5, 2) := by decide +kernel
theorem d7_5 : decode jdk_52_method_21_code 5 = .ok (.iload 4, 2) := by decide +kernel
theorem d7_7 : decode jdk_52_method_21_code 7 = .ok (.if_icmp .ge 37, 3) := by decide +kernel
theorem d7_10 : decode jdk_52_method_21_code 10 = .ok (.aload_n 0, 1) := by decide +kernel
theorem d7_11 : decode jdk_52_method_21_code 11 = .ok (.iload_n 1, 1) := by decide +kernel
theorem d7_12 : decode jdk_52_method_21_code 12 = .ok (.caload, 1) := by decide +kernel
theorem d7_13 : decode jdk_52_method_21_code 13 = .ok (.istore 6, 2) := by decide +kernel
theorem d7_15 : decode jdk_52_method_21_code 15 = .ok (.iload 6, 2) := by decide +kernel
theorem d7_17 : decode jdk_52_method_21_code 17 = .ok (.sipush 255, 3) := by decide +kernel
theorem d7_20 : decode jdk_52_method_21_code 20 = .ok (.if_icmp .le 6, 3) := by decide +kernel
theorem d7_23 : decode jdk_52_method_21_code 23 = .ok (.iload 5, 2) := by decide +kernel
theorem d7_25 : decode jdk_52_method_21_code 25 = .ok (.ireturn, 1) := by decide +kernel
theorem cu2_0 (hw : HW Z a0) (a1 a3 : Addr) (p5 : Int32) (kc : ClassId) (f : Nat → Value) (c0 : Int32) (kb : ClassId) (fb : Nat → Value) (Z0 : n0 ≤ h0.size) (V_a : Arf Z h0 a1 kc .char p5 f) (V_b : Arf Z h0 a3 kb .byte p5 fb) (hne : a1 ≠ a3) (hf0 : f 0 = (.int c0)) (hu_ : (255 : Int32) < c0) (hl0 : (0 : Int32) < p5) : Ct l ⟨"java/lang/StringUTF16", "compress", "([CI[BII)I"⟩ jdk_52_method_21_code 7 (some .int) ⟨0, 0, 0, 0⟩ #[(.ref a1), (.int (0 : Int32)), (.ref a3), (.int (0 : Int32)), (.int p5)] Z h0 (fun v h L => v = some (.int (0 : Int32)) ∧ Fr n0 L ∧ Keep h0 h [a3]) := by
  refine Ct.of "java/lang/StringUTF16" rfl (plainFor_of_name pn_5) #[.val (.ref a1), .val (.int (0 : Int32)), .val (.ref a3), .val (.int (0 : Int32)), .val (.int p5), .unset, .unset] rfl rfl ?_
  intro p e s m below meth c s₁ hx hby hml hown hnm hret hns hZ hh X0 e0
  refine Gk.iconst X0 hx (hb hby d7_0) (0 : Int32) rfl ?_
  refine Gk.istore X0 hx (hb hby d7_1) #[.val (.ref a1), .val (.int (0 : Int32)), .val (.ref a3), .val (.int (0 : Int32)), .val (.int p5), .val (.int (0 : Int32)), .unset] rfl ?_
  refine Gk.iload X0 hx (hb hby d7_3) rfl ?_
  refine Gk.iload X0 hx (hb hby d7_5) rfl ?_
  have hc7 : (0 : Int32) < p5 := hl0
  refine Gk.icmpNo X0 hx (hb hby d7_7) (tlt hc7).2.1 ?_
  refine Gk.aloadN X0 hx (hb hby d7_10) rfl rfl ?_
  refine Gk.iloadN X0 hx (hb hby d7_11) rfl ?_
  refine Gk.caload X0 hx hZ e0 V_a ⟨by decide, hl0⟩ (.int c0) hf0 (hb hby d7_12) ?_
  refine Gk.istore X0 hx (hb hby d7_13) #[.val (.ref a1), .val (.int (0 : Int32)), .val (.ref a3), .val (.int (0 : Int32)), .val (.int p5), .val (.int (0 : Int32)), .val (.int c0)] rfl ?_
  refine Gk.iload X0 hx (hb hby d7_15) rfl ?_
  refine Gk.sipush X0 hx (hb hby d7_17) (255 : Int32) rfl ?_
  have hc20 : (255 : Int32) < c0 := hu_
  refine Gk.icmpNo X0 hx (hb hby d7_20) (tlt hc20).2.2.2 ?_
  refine Gk.iload X0 hx (hb hby d7_23) rfl ?_
  exact Gk.rI X0 hx hret hns (hb hby d7_25) e0 ⟨rfl, (Fr.nil n0), (Keep.refl h0 [a3])⟩
theorem d7_26 : decode jdk_52_method_21_code 26 = .ok (.aload_n 2, 1) := by decide +kernel
theorem d7_27 : decode jdk_52_method_21_code 27 = .ok (.iload_n 3, 1) := by decide +kernel
theorem d7_28 : decode jdk_52_method_21_code 28 = .ok (.iload 6, 2) := by decide +kernel
theorem d7_30 : decode jdk_52_method_21_code 30 = .ok (.i2b, 1) := by decide +kernel
theorem d7_31 : decode jdk_52_method_21_code 31 = .ok (.bastore, 1) := by decide +kernel
theorem d7_32 : decode jdk_52_method_21_code 32 = .ok (.iinc 1 1, 3) := by decide +kernel
theorem d7_35 : decode jdk_52_method_21_code 35 = .ok (.iinc 3 1, 3) := by decide +kernel
theorem d7_38 : decode jdk_52_method_21_code 38 = .ok (.iinc 5 1, 3) := by decide +kernel
theorem d7_41 : decode jdk_52_method_21_code 41 = .ok (.goto (-38), 3) := by decide +kernel
theorem cu2_1 (hw : HW Z a0) (a1 a3 : Addr) (p5 : Int32) (kc : ClassId) (f : Nat → Value) (c0 c1 : Int32) (kb : ClassId) (fb : Nat → Value) (Z0 : n0 ≤ h0.size) (V_a : Arf Z h0 a1 kc .char p5 f) (V_b : Arf Z h0 a3 kb .byte p5 fb) (hne : a1 ≠ a3) (hf0 : f 0 = (.int c0)) (hf1 : f 1 = (.int c1)) (hc0 : ¬ ((255 : Int32) < c0)) (hu_ : (255 : Int32) < c1) (hl0 : (0 : Int32) < p5) (hl1 : (1 : Int32) < p5) (g_a3 : n0 ≤ a3) : Ct l ⟨"java/lang/StringUTF16", "compress", "([CI[BII)I"⟩ jdk_52_method_21_code 7 (some .int) ⟨0, 0, 0, 0⟩ #[(.ref a1), (.int (0 : Int32)), (.ref a3), (.int (0 : Int32)), (.int p5)] Z h0 (fun v h L => v = some (.int (1 : Int32)) ∧ Fr n0 L ∧ Keep h0 h [a3]) := by
  refine Ct.of "java/lang/StringUTF16" rfl (plainFor_of_name pn_5) #[.val (.ref a1), .val (.int (0 : Int32)), .val (.ref a3), .val (.int (0 : Int32)), .val (.int p5), .unset, .unset] rfl rfl ?_
  intro p e s m below meth c s₁ hx hby hml hown hnm hret hns hZ hh X0 e0
  refine Gk.iconst X0 hx (hb hby d7_0) (0 : Int32) rfl ?_
  refine Gk.istore X0 hx (hb hby d7_1) #[.val (.ref a1), .val (.int (0 : Int32)), .val (.ref a3), .val (.int (0 : Int32)), .val (.int p5), .val (.int (0 : Int32)), .unset] rfl ?_
  refine Gk.iload X0 hx (hb hby d7_3) rfl ?_
  refine Gk.iload X0 hx (hb hby d7_5) rfl ?_
  have hc7 : (0 : Int32) < p5 := hl0
  refine Gk.icmpNo X0 hx (hb hby d7_7) (tlt hc7).2.1 ?_
  refine Gk.aloadN X0 hx (hb hby d7_10) rfl rfl ?_
  refine Gk.iloadN X0 hx (hb hby d7_11) rfl ?_
  refine Gk.caload X0 hx hZ e0 V_a ⟨by decide, hl0⟩ (.int c0) hf0 (hb hby d7_12) ?_
  refine Gk.istore X0 hx (hb hby d7_13) #[.val (.ref a1), .val (.int (0 : Int32)), .val (.ref a3), .val (.int (0 : Int32)), .val (.int p5), .val (.int (0 : Int32)), .val (.int c0)] rfl ?_
  refine Gk.iload X0 hx (hb hby d7_15) rfl ?_
  refine Gk.sipush X0 hx (hb hby d7_17) (255 : Int32) rfl ?_
  have hc20 : ¬ ((255 : Int32) < c0) := hc0
  refine Gk.icmpYes X0 hx (hb hby d7_20) (flt hc20).2.2.2 26 (by decide) (by decide) ?_
  refine Gk.aloadN X0 hx (hb hby d7_26) rfl rfl ?_
  refine Gk.iloadN X0 hx (hb hby d7_27) rfl ?_
  refine Gk.iload X0 hx (hb hby d7_28) rfl ?_
  refine Gk.i2b X0 hx (hb hby d7_30) _ rfl ?_
  refine Gk.bastoreB X0 hx hZ e0 V_b 0 rfl ⟨by decide, hl0⟩ (.int (c0.toInt8.toInt32)) (congrArg Value.int (own_nb _)) (hb hby d7_31) ?_
  intro T2 h2 X2 e2 W2 V2
  have N2 := Fr.snoc X2 (Fr.nil n0) g_a3
  refine Gk.iinc X2 hx (hb hby d7_32) rfl #[.val (.ref a1), .val (.int (1 : Int32)), .val (.ref a3), .val (.int (0 : Int32)), .val (.int p5), .val (.int (0 : Int32)), .val (.int c0)] rfl ?_
  refine Gk.iinc X2 hx (hb hby d7_35) rfl #[.val (.ref a1), .val (.int (1 : Int32)), .val (.ref a3), .val (.int (1 : Int32)), .val (.int p5), .val (.int (0 : Int32)), .val (.int c0)] rfl ?_
  refine Gk.iinc X2 hx (hb hby d7_38) rfl #[.val (.ref a1), .val (.int (1 : Int32)), .val (.ref a3), .val (.int (1 : Int32)), .val (.int p5), .val (.int (1 : Int32)), .val (.int c0)] rfl ?_
  refine Gk.goto X2 hx (hb hby d7_41) 3 (by decide) (by decide) ?_
  refine Gk.iload X2 hx (hb hby d7_3) rfl ?_
  refine Gk.iload X2 hx (hb hby d7_5) rfl ?_
  have hc7_1 : (1 : Int32) < p5 := hl1
  refine Gk.icmpNo X2 hx (hb hby d7_7) (tlt hc7_1).2.1 ?_
  refine Gk.aloadN X2 hx (hb hby d7_10) rfl rfl ?_
  refine Gk.iloadN X2 hx (hb hby d7_11) rfl ?_
  have H4 := (V_a.other W2 hne)
  refine Gk.caload X2 hx hZ e2 H4 ⟨by decide, hl1⟩ (.int c1) hf1 (hb hby d7_12) ?_
  refine Gk.istore X2 hx (hb hby d7_13) #[.val (.ref a1), .val (.int (1 : Int32)), .val (.ref a3), .val (.int (1 : Int32)), .val (.int p5), .val (.int (1 : Int32)), .val (.int c1)] rfl ?_
  refine Gk.iload X2 hx (hb hby d7_15) rfl ?_
  refine Gk.sipush X2 hx (hb hby d7_17) (255 : Int32) rfl ?_
  have hc20_1 : (255 : Int32) < c1 := hu_
  refine Gk.icmpNo X2 hx (hb hby d7_20) (tlt hc20_1).2.2.2 ?_
  refine Gk.iload X2 hx (hb hby d7_23) rfl ?_
  exact Gk.rI X2 hx hret hns (hb hby d7_25) e2 ⟨rfl, N2, ((Keep.refl h0 [a3]).wr W2 (Or.inl (List.mem_of_getElem? (i := 0) rfl)))⟩
theorem cu2_2 (hw : HW Z a0) (a1 a3 : Addr) (p5 : Int32) (kc : ClassId) (f : Nat → Value) (c0 c1 c2 : Int32) (kb : ClassId) (fb : Nat → Value) (Z0 : n0 ≤ h0.size) (V_a : Arf Z h0 a1 kc .char p5 f) (V_b : Arf Z h0 a3 kb .byte p5 fb) (hne : a1 ≠ a3) (hf0 : f 0 = (.int c0)) (hf1 : f 1 = (.int c1)) (hf2 : f 2 = (.int c2)) (hc0 : ¬ ((255 : Int32) < c0)) (hc1 : ¬ ((255 : Int32) < c1)) (hu_ : (255 : Int32) < c2) (hl0 : (0 : Int32) < p5) (hl1 : (1 : Int32) < p5) (hl2 : (2 : Int32) < p5) (g_a3 : n0 ≤ a3) : Ct l ⟨"java/lang/StringUTF16", "compress", "([CI[BII)I"⟩ jdk_52_method_21_code 7 (some .int) ⟨0, 0, 0, 0⟩ #[(.ref a1), (.int (0 : Int32)), (.ref a3), (.int (0 : Int32)), (.int p5)] Z h0 (fun v h L => v = some (.int (2 : Int32)) ∧ Fr n0 L ∧ Keep h0 h [a3]) := by
  refine Ct.of "java/lang/StringUTF16" rfl (plainFor_of_name pn_5) #[.val (.ref a1), .val (.int (0 : Int32)), .val (.ref a3), .val (.int (0 : Int32)), .val (.int p5), .unset, .unset] rfl rfl ?_
  intro p e s m below meth c s₁ hx hby hml hown hnm hret hns hZ hh X0 e0
  refine Gk.iconst X0 hx (hb hby d7_0) (0 : Int32) rfl ?_
  refine Gk.istore X0 hx (hb hby d7_1) #[.val (.ref a1), .val (.int (0 : Int32)), .val (.ref a3), .val (.int (0 : Int32)), .val (.int p5), .val (.int (0 : Int32)), .unset] rfl ?_
  refine Gk.iload X0 hx (hb hby d7_3) rfl ?_
  refine Gk.iload X0 hx (hb hby d7_5) rfl ?_
  have hc7 : (0 : Int32) < p5 := hl0
  refine Gk.icmpNo X0 hx (hb hby d7_7) (tlt hc7).2.1 ?_
  refine Gk.aloadN X0 hx (hb hby d7_10) rfl rfl ?_
  refine Gk.iloadN X0 hx (hb hby d7_11) rfl ?_
  refine Gk.caload X0 hx hZ e0 V_a ⟨by decide, hl0⟩ (.int c0) hf0 (hb hby d7_12) ?_
  refine Gk.istore X0 hx (hb hby d7_13) #[.val (.ref a1), .val (.int (0 : Int32)), .val (.ref a3), .val (.int (0 : Int32)), .val (.int p5), .val (.int (0 : Int32)), .val (.int c0)] rfl ?_
  refine Gk.iload X0 hx (hb hby d7_15) rfl ?_
  refine Gk.sipush X0 hx (hb hby d7_17) (255 : Int32) rfl ?_
  have hc20 : ¬ ((255 : Int32) < c0) := hc0
  refine Gk.icmpYes X0 hx (hb hby d7_20) (flt hc20).2.2.2 26 (by decide) (by decide) ?_
  refine Gk.aloadN X0 hx (hb hby d7_26) rfl rfl ?_
  refine Gk.iloadN X0 hx (hb hby d7_27) rfl ?_
  refine Gk.iload X0 hx (hb hby d7_28) rfl ?_
  refine Gk.i2b X0 hx (hb hby d7_30) _ rfl ?_
  refine Gk.bastoreB X0 hx hZ e0 V_b 0 rfl ⟨by decide, hl0⟩ (.int (c0.toInt8.toInt32)) (congrArg Value.int (own_nb _)) (hb hby d7_31) ?_
  intro T2 h2 X2 e2 W2 V2
  have N2 := Fr.snoc X2 (Fr.nil n0) g_a3
  refine Gk.iinc X2 hx (hb hby d7_32) rfl #[.val (.ref a1), .val (.int (1 : Int32)), .val (.ref a3), .val (.int (0 : Int32)), .val (.int p5), .val (.int (0 : Int32)), .val (.int c0)] rfl ?_
  refine Gk.iinc X2 hx (hb hby d7_35) rfl #[.val (.ref a1), .val (.int (1 : Int32)), .val (.ref a3), .val (.int (1 : Int32)), .val (.int p5), .val (.int (0 : Int32)), .val (.int c0)] rfl ?_
  refine Gk.iinc X2 hx (hb hby d7_38) rfl #[.val (.ref a1), .val (.int (1 : Int32)), .val (.ref a3), .val (.int (1 : Int32)), .val (.int p5), .val (.int (1 : Int32)), .val (.int c0)] rfl ?_
  refine Gk.goto X2 hx (hb hby d7_41) 3 (by decide) (by decide) ?_
  refine Gk.iload X2 hx (hb hby d7_3) rfl ?_
  refine Gk.iload X2 hx (hb hby d7_5) rfl ?_
  have hc7_1 : (1 : Int32) < p5 := hl1
  refine Gk.icmpNo X2 hx (hb hby d7_7) (tlt hc7_1).2.1 ?_
  refine Gk.aloadN X2 hx (hb hby d7_10) rfl rfl ?_
  refine Gk.iloadN X2 hx (hb hby d7_11) rfl ?_
  have H4 := (V_a.other W2 hne)
  refine Gk.caload X2 hx hZ e2 H4 ⟨by decide, hl1⟩ (.int c1) hf1 (hb hby d7_12) ?_
  refine Gk.istore X2 hx (hb hby d7_13) #[.val (.ref a1), .val (.int (1 : Int32)), .val (.ref a3), .val (.int (1 : Int32)), .val (.int p5), .val (.int (1 : Int32)), .val (.int c1)] rfl ?_
  refine Gk.iload X2 hx (hb hby d7_15) rfl ?_
  refine Gk.sipush X2 hx (hb hby d7_17) (255 : Int32) rfl ?_
  have hc20_1 : ¬ ((255 : Int32) < c1) := hc1
  refine Gk.icmpYes X2 hx (hb hby d7_20) (flt hc20_1).2.2.2 26 (by decide) (by decide) ?_
  refine Gk.aloadN X2 hx (hb hby d7_26) rfl rfl ?_
  refine Gk.iloadN X2 hx (hb hby d7_27) rfl ?_
  refine Gk.iload X2 hx (hb hby d7_28) rfl ?_
  refine Gk.i2b X2 hx (hb hby d7_30) _ rfl ?_
  refine Gk.bastoreB X2 hx hZ e2 V2 1 rfl ⟨by decide, hl1⟩ (.int (c1.toInt8.toInt32)) (congrArg Value.int (own_nb _)) (hb hby d7_31) ?_
  intro T5 h5 X5 e5 W5 V5
  have N5 := Fr.snoc X5 N2 g_a3
  refine Gk.iinc X5 hx (hb hby d7_32) rfl #[.val (.ref a1), .val (.int (2 : Int32)), .val (.ref a3), .val (.int (1 : Int32)), .val (.int p5), .val (.int (1 : Int32)), .val (.int c1)] rfl ?_
  refine Gk.iinc X5 hx (hb hby d7_35) rfl #[.val (.ref a1), .val (.int (2 : Int32)), .val (.ref a3), .val (.int (2 : Int32)), .val (.int p5), .val (.int (1 : Int32)), .val (.int c1)] rfl ?_
  refine Gk.iinc X5 hx (hb hby d7_38) rfl #[.val (.ref a1), .val (.int (2 : Int32)), .val (.ref a3), .val (.int (2 : Int32)), .val (.int p5), .val (.int (2 : Int32)), .val (.int c1)] rfl ?_
  refine Gk.goto X5 hx (hb hby d7_41) 3 (by decide) (by decide) ?_
  refine Gk.iload X5 hx (hb hby d7_3) rfl ?_
  refine Gk.iload X5 hx (hb hby d7_5) rfl ?_
  have hc7_2 : (2 : Int32) < p5 := hl2
  refine Gk.icmpNo X5 hx (hb hby d7_7) (tlt hc7_2).2.1 ?_
  refine Gk.aloadN X5 hx (hb hby d7_10) rfl rfl ?_
  refine Gk.iloadN X5 hx (hb hby d7_11) rfl ?_
  have H7 := (H4.other W5 hne)
  refine Gk.caload X5 hx hZ e5 H7 ⟨by decide, hl2⟩ (.int c2) hf2 (hb hby d7_12) ?_
  refine Gk.istore X5 hx (hb hby d7_13) #[.val (.ref a1), .val (.int (2 : Int32)), .val (.ref a3), .val (.int (2 : Int32)), .val (.int p5), .val (.int (2 : Int32)), .val (.int c2)] rfl ?_
  refine Gk.iload X5 hx (hb hby d7_15) rfl ?_
  refine Gk.sipush X5 hx (hb hby d7_17) (255 : Int32) rfl ?_
  have hc20_2 : (255 : Int32) < c2 := hu_
  refine Gk.icmpNo X5 hx (hb hby d7_20) (tlt hc20_2).2.2.2 ?_
  refine Gk.iload X5 hx (hb hby d7_23) rfl ?_
  exact Gk.rI X5 hx hret hns (hb hby d7_25) e5 ⟨rfl, N5, (((Keep.refl h0 [a3]).wr W2 (Or.inl (List.mem_of_getElem? (i := 0) rfl))).wr W5 (Or.inl (List.mem_of_getElem? (i := 0) rfl)))⟩
theorem cu2_3 (hw : HW Z a0) (a1 a3 : Addr) (p5 : Int32) (kc : ClassId) (f : Nat → Value) (c0 c1 c2 c3 : Int32) (kb : ClassId) (fb : Nat → Value) (Z0 : n0 ≤ h0.size) (V_a : Arf Z h0 a1 kc .char p5 f) (V_b : Arf Z h0 a3 kb .byte p5 fb) (hne : a1 ≠ a3) (hf0 : f 0 = (.int c0)) (hf1 : f 1 = (.int c1)) (hf2 : f 2 = (.int c2)) (hf3 : f 3 = (.int c3)) (hc0 : ¬ ((255 : Int32) < c0)) (hc1 : ¬ ((255 : Int32) < c1)) (hc2 : ¬ ((255 : Int32) < c2)) (hu_ : (255 : Int32) < c3) (hl0 : (0 : Int32) < p5) (hl1 : (1 : Int32) < p5) (hl2 : (2 : Int32) < p5) (hl3 : (3 : Int32) < p5) (g_a3 : n0 ≤ a3) : Ct l ⟨"java/lang/StringUTF16", "compress", "([CI[BII)I"⟩ jdk_52_method_21_code 7 (some .int) ⟨0, 0, 0, 0⟩ #[(.ref a1), (.int (0 : Int32)), (.ref a3), (.int (0 : Int32)), (.int p5)] Z h0 (fun v h L => v = some (.int (3 : Int32)) ∧ Fr n0 L ∧ Keep h0 h [a3]) := by
  refine Ct.of "java/lang/StringUTF16" rfl (plainFor_of_name pn_5) #[.val (.ref a1), .val (.int (0 : Int32)), .val (.ref a3), .val (.int (0 : Int32)), .val (.int p5), .unset, .unset] rfl rfl ?_
  intro p e s m below meth c s₁ hx hby hml hown hnm hret hns hZ hh X0 e0
  refine Gk.iconst X0 hx (hb hby d7_0) (0 : Int32) rfl ?_
  refine Gk.istore X0 hx (hb hby d7_1) #[.val (.ref a1), .val (.int (0 : Int32)), .val (.ref a3), .val (.int (0 : Int32)), .val (.int p5), .val (.int (0 : Int32)), .unset] rfl ?_
  refine Gk.iload X0 hx (hb hby d7_3) rfl ?_
  refine Gk.iload X0 hx (hb hby d7_5) rfl ?_
  have hc7 : (0 : Int32) < p5 := hl0
  refine Gk.icmpNo X0 hx (hb hby d7_7) (tlt hc7).2.1 ?_
  refine Gk.aloadN X0 hx (hb hby d7_10) rfl rfl ?_
  refine Gk.iloadN X0 hx (hb hby d7_11) rfl ?_
  refine Gk.caload X0 hx hZ e0 V_a ⟨by decide, hl0⟩ (.int c0) hf0 (hb hby d7_12) ?_
  refine Gk.istore X0 hx (hb hby d7_13) #[.val (.ref a1), .val (.int (0 : Int32)), .val (.ref a3), .val (.int (0 : Int32)), .val (.int p5), .val (.int (0 : Int32)), .val (.int c0)] rfl ?_
  refine Gk.iload X0 hx (hb hby d7_15) rfl ?_
  refine Gk.sipush X0 hx (hb hby d7_17) (255 : Int32) rfl ?_
  have hc20 : ¬ ((255 : Int32) < c0) := hc0
  refine Gk.icmpYes X0 hx (hb hby d7_20) (flt hc20).2.2.2 26 (by decide) (by decide) ?_
  refine Gk.aloadN X0 hx (hb hby d7_26) rfl rfl ?_
  refine Gk.iloadN X0 hx (hb hby d7_27) rfl ?_
  refine Gk.iload X0 hx (hb hby d7_28) rfl ?_
  refine Gk.i2b X0 hx (hb hby d7_30) _ rfl ?_
  refine Gk.bastoreB X0 hx hZ e0 V_b 0 rfl ⟨by decide, hl0⟩ (.int (c0.toInt8.toInt32)) (congrArg Value.int (own_nb _)) (hb hby d7_31) ?_
  intro T2 h2 X2 e2 W2 V2
  have N2 := Fr.snoc X2 (Fr.nil n0) g_a3
  refine Gk.iinc X2 hx (hb hby d7_32) rfl #[.val (.ref a1), .val (.int (1 : Int32)), .val (.ref a3), .val (.int (0 : Int32)), .val (.int p5), .val (.int (0 : Int32)), .val (.int c0)] rfl ?_
  refine Gk.iinc X2 hx (hb hby d7_35) rfl #[.val (.ref a1), .val (.int (1 : Int32)), .val (.ref a3), .val (.int (1 : Int32)), .val (.int p5), .val (.int (0 : Int32)), .val (.int c0)] rfl ?_
  refine Gk.iinc X2 hx (hb hby d7_38) rfl #[.val (.ref a1), .val (.int (1 : Int32)), .val (.ref a3), .val (.int (1 : Int32)), .val (.int p5), .val (.int (1 : Int32)), .val (.int c0)] rfl ?_
  refine Gk.goto X2 hx (hb hby d7_41) 3 (by decide) (by decide) ?_
  refine Gk.iload X2 hx (hb hby d7_3) rfl ?_
  refine Gk.iload X2 hx (hb hby d7_5) rfl ?_
  have hc7_1 : (1 : Int32) < p5 := hl1
  refine Gk.icmpNo X2 hx (hb hby d7_7) (tlt hc7_1).2.1 ?_
  refine Gk.aloadN X2 hx (hb hby d7_10) rfl rfl ?_
  refine Gk.iloadN X2 hx (hb hby d7_11) rfl ?_
  have H4 := (V_a.other W2 hne)
  refine Gk.caload X2 hx hZ e2 H4 ⟨by decide, hl1⟩ (.int c1) hf1 (hb hby d7_12) ?_
  refine Gk.istore X2 hx (hb hby d7_13) #[.val (.ref a1), .val (.int (1 : Int32)), .val (.ref a3), .val (.int (1 : Int32)), .val (.int p5), .val (.int (1 : Int32)), .val (.int c1)] rfl ?_
  refine Gk.iload X2 hx (hb hby d7_15) rfl ?_
  refine Gk.sipush X2 hx (hb hby d7_17) (255 : Int32) rfl ?_
  have hc20_1 : ¬ ((255 : Int32) < c1) := hc1
  refine Gk.icmpYes X2 hx (hb hby d7_20) (flt hc20_1).2.2.2 26 (by decide) (by decide) ?_
  refine Gk.aloadN X2 hx (hb hby d7_26) rfl rfl ?_
  refine Gk.iloadN X2 hx (hb hby d7_27) rfl ?_
  refine Gk.iload X2 hx (hb hby d7_28) rfl ?_
  refine Gk.i2b X2 hx (hb hby d7_30) _ rfl ?_
  refine Gk.bastoreB X2 hx hZ e2 V2 1 rfl ⟨by decide, hl1⟩ (.int (c1.toInt8.toInt32)) (congrArg Value.int (own_nb _)) (hb hby d7_31) ?_
  intro T5 h5 X5 e5 W5 V5
  have N5 := Fr.snoc X5 N2 g_a3
  refine Gk.iinc X5 hx (hb hby d7_32) rfl #[.val (.ref a1), .val (.int (2 : Int32)), .val (.ref a3), .val (.int (1 : Int32)), .val (.int p5), .val (.int (1 : Int32)), .val (.int c1)] rfl ?_
  refine Gk.iinc X5 hx (hb hby d7_35) rfl #[.val (.ref a1), .val (.int (2 : Int32)), .val (.ref a3), .val (.int (2 : Int32)), .val (.int p5), .val (.int (1 : Int32)), .val (.int c1)] rfl ?_
  refine Gk.iinc X5 hx (hb hby d7_38) rfl #[.val (.ref a1), .val (.int (2 : Int32)), .val (.ref a3), .val (.int (2 : Int32)), .val (.int p5), .val (.int (2 : Int32)), .val (.int c1)] rfl ?_
  refine Gk.goto X5 hx (hb hby d7_41) 3 (by decide) (by decide) ?_
  refine Gk.iload X5 hx (hb hby d7_3) rfl ?_
  refine Gk.iload X5 hx (hb hby d7_5) rfl ?_
  have hc7_2 : (2 : Int32) < p5 := hl2
  refine Gk.icmpNo X5 hx (hb hby d7_7) (tlt hc7_2).2.1 ?_
  refine Gk.aloadN X5 hx (hb hby d7_10) rfl rfl ?_
  refine Gk.iloadN X5 hx (hb hby d7_11) rfl ?_
  have H7 := (H4.other W5 hne)
  refine Gk.caload X5 hx hZ e5 H7 ⟨by decide, hl2⟩ (.int c2) hf2 (hb hby d7_12) ?_
  refine Gk.istore X5 hx (hb hby d7_13) #[.val (.ref a1), .val (.int (2 : Int32)), .val (.ref a3), .val (.int (2 : Int32)), .val (.int p5), .val (.int (2 : Int32)), .val (.int c2)] rfl ?_
  refine Gk.iload X5 hx (hb hby d7_15) rfl ?_
  refine Gk.sipush X5 hx (hb hby d7_17) (255 : Int32) rfl ?_
  have hc20_2 : ¬ ((255 : Int32) < c2) := hc2
  refine Gk.icmpYes X5 hx (hb hby d7_20) (flt hc20_2).2.2.2 26 (by decide) (by decide) ?_
  refine Gk.aloadN X5 hx (hb hby d7_26) rfl rfl ?_
  refine Gk.iloadN X5 hx (hb hby d7_27) rfl ?_
  refine Gk.iload X5 hx (hb hby d7_28) rfl ?_
  refine Gk.i2b X5 hx (hb hby d7_30) _ rfl ?_
  refine Gk.bastoreB X5 hx hZ e5 V5 2 rfl ⟨by decide, hl2⟩ (.int (c2.toInt8.toInt32)) (congrArg Value.int (own_nb _)) (hb hby d7_31) ?_
  intro T8 h8 X8 e8 W8 V8
  have N8 := Fr.snoc X8 N5 g_a3
  refine Gk.iinc X8 hx (hb hby d7_32) rfl #[.val (.ref a1), .val (.int (3 : Int32)), .val (.ref a3), .val (.int (2 : Int32)), .val (.int p5), .val (.int (2 : Int32)), .val (.int c2)] rfl ?_
  refine Gk.iinc X8 hx (hb hby d7_35) rfl #[.val (.ref a1), .val (.int (3 : Int32)), .val (.ref a3), .val (.int (3 : Int32)), .val (.int p5), .val (.int (2 : Int32)), .val (.int c2)] rfl ?_
  refine Gk.iinc X8 hx (hb hby d7_38) rfl #[.val (.ref a1), .val (.int (3 : Int32)), .val (.ref a3), .val (.int (3 : Int32)), .val (.int p5), .val (.int (3 : Int32)), .val (.int c2)] rfl ?_
  refine Gk.goto X8 hx (hb hby d7_41) 3 (by decide) (by decide) ?_
  refine Gk.iload X8 hx (hb hby d7_3) rfl ?_
  refine Gk.iload X8 hx (hb hby d7_5) rfl ?_
  have hc7_3 : (3 : Int32) < p5 := hl3
  refine Gk.icmpNo X8 hx (hb hby d7_7) (tlt hc7_3).2.1 ?_
  refine Gk.aloadN X8 hx (hb hby d7_10) rfl rfl ?_
  refine Gk.iloadN X8 hx (hb hby d7_11) rfl ?_
  have H10 := (H7.other W8 hne)
  refine Gk.caload X8 hx hZ e8 H10 ⟨by decide, hl3⟩ (.int c3) hf3 (hb hby d7_12) ?_
  refine Gk.istore X8 hx (hb hby d7_13) #[.val (.ref a1), .val (.int (3 : Int32)), .val (.ref a3), .val (.int (3 : Int32)), .val (.int p5), .val (.int (3 : Int32)), .val (.int c3)] rfl ?_
  refine Gk.iload X8 hx (hb hby d7_15) rfl ?_
  refine Gk.sipush X8 hx (hb hby d7_17) (255 : Int32) rfl ?_
  have hc20_3 : (255 : Int32) < c3 := hu_
  refine Gk.icmpNo X8 hx (hb hby d7_20) (tlt hc20_3).2.2.2 ?_
  refine Gk.iload X8 hx (hb hby d7_23) rfl ?_
  exact Gk.rI X8 hx hret hns (hb hby d7_25) e8 ⟨rfl, N8, ((((Keep.refl h0 [a3]).wr W2 (Or.inl (List.mem_of_getElem? (i := 0) rfl))).wr W5 (Or.inl (List.mem_of_getElem? (i := 0) rfl))).wr W8 (Or.inl (List.mem_of_getElem? (i := 0) rfl)))⟩
theorem cu2_4 (hw : HW Z a0) (a1 a3 : Addr) (p5 : Int32) (kc : ClassId) (f : Nat → Value) (c0 c1 c2 c3 c4 : Int32) (kb : ClassId) (fb : Nat → Value) (Z0 : n0 ≤ h0.size) (V_a : Arf Z h0 a1 kc .char p5 f) (V_b : Arf Z h0 a3 kb .byte p5 fb) (hne : a1 ≠ a3) (hf0 : f 0 = (.int c0)) (hf1 : f 1 = (.int c1)) (hf2 : f 2 = (.int c2)) (hf3 : f 3 = (.int c3)) (hf4 : f 4 = (.int c4)) (hc0 : ¬ ((255 : Int32) < c0)) (hc1 : ¬ ((255 : Int32) < c1)) (hc2 : ¬ ((255 : Int32) < c2)) (hc3 : ¬ ((255 : Int32) < c3)) (hu_ : (255 : Int32) < c4) (hl0 : (0 : Int32) < p5) (hl1 : (1 : Int32) < p5) (hl2 : (2 : Int32) < p5) (hl3 : (3 : Int32) < p5) (hl4 : (4 : Int32) < p5) (g_a3 : n0 ≤ a3) : Ct l ⟨"java/lang/StringUTF16", "compress", "([CI[BII)I"⟩ jdk_52_method_21_code 7 (some .int) ⟨0, 0, 0, 0⟩ #[(.ref a1), (.int (0 : Int32)), (.ref a3), (.int (0 : Int32)), (.int p5)] Z h0 (fun v h L => v = some (.int (4 : Int32)) ∧ Fr n0 L ∧ Keep h0 h [a3]) := by
  refine Ct.of "java/lang/StringUTF16" rfl (plainFor_of_name pn_5) #[.val (.ref a1), .val (.int (0 : Int32)), .val (.ref a3), .val (.int (0 : Int32)), .val (.int p5), .unset, .unset] rfl rfl ?_
  intro p e s m below meth c s₁ hx hby hml hown hnm hret hns hZ hh X0 e0
  refine Gk.iconst X0 hx (hb hby d7_0) (0 : Int32) rfl ?_
  refine Gk.istore X0 hx (hb hby d7_1) #[.val (.ref a1), .val (.int (0 : Int32)), .val (.ref a3), .val (.int (0 : Int32)), .val (.int p5), .val (.int (0 : Int32)), .unset] rfl ?_
  refine Gk.iload X0 hx (hb hby d7_3) rfl ?_
  refine Gk.iload X0 hx (hb hby d7_5) rfl ?_
  have hc7 : (0 : Int32) < p5 := hl0
  refine Gk.icmpNo X0 hx (hb hby d7_7) (tlt hc7).2.1 ?_
  refine Gk.aloadN X0 hx (hb hby d7_10) rfl rfl ?_
  refine Gk.iloadN X0 hx (hb hby d7_11) rfl ?_
  refine Gk.caload X0 hx hZ e0 V_a ⟨by decide, hl0⟩ (.int c0) hf0 (hb hby d7_12) ?_
  refine Gk.istore X0 hx (hb hby d7_13) #[.val (.ref a1), .val (.int (0 : Int32)), .val (.ref a3), .val (.int (0 : Int32)), .val (.int p5), .val (.int (0 : Int32)), .val (.int c0)] rfl ?_
  refine Gk.iload X0 hx (hb hby d7_15) rfl ?_
  refine Gk.sipush X0 hx (hb hby d7_17) (255 : Int32) rfl ?_
  have hc20 : ¬ ((255 : Int32) < c0) := hc0
  refine Gk.icmpYes X0 hx (hb hby d7_20) (flt hc20).2.2.2 26 (by decide) (by decide) ?_
  refine Gk.aloadN X0 hx (hb hby d7_26) rfl rfl ?_
  refine Gk.iloadN X0 hx (hb hby d7_27) rfl ?_
  refine Gk.iload X0 hx (hb hby d7_28) rfl ?_
  refine Gk.i2b X0 hx (hb hby d7_30) _ rfl ?_
  refine Gk.bastoreB X0 hx hZ e0 V_b 0 rfl ⟨by decide, hl0⟩ (.int (c0.toInt8.toInt32)) (congrArg Value.int (own_nb _)) (hb hby d7_31) ?_
  intro T2 h2 X2 e2 W2 V2
  have N2 := Fr.snoc X2 (Fr.nil n0) g_a3
  refine Gk.iinc X2 hx (hb hby d7_32) rfl #[.val (.ref a1), .val (.int (1 : Int32)), .val (.ref a3), .val (.int (0 : Int32)), .val (.int p5), .val (.int (0 : Int32)), .val (.int c0)] rfl ?_
  refine Gk.iinc X2 hx (hb hby d7_35) rfl #[.val (.ref a1), .val (.int (1 : Int32)), .val (.ref a3), .val (.int (1 : Int32)), .val (.int p5), .val (.int (0 : Int32)), .val (.int c0)] rfl ?_
  refine Gk.iinc X2 hx (hb hby d7_38) rfl #[.val (.ref a1), .val (.int (1 : Int32)), .val (.ref a3), .val (.int (1 : Int32)), .val (.int p5), .val (.int (1 : Int32)), .val (.int c0)] rfl ?_
  refine Gk.goto X2 hx (hb hby d7_41) 3 (by decide) (by decide) ?_
  refine Gk.iload X2 hx (hb hby d7_3) rfl ?_
  refine Gk.iload X2 hx (hb hby d7_5) rfl ?_
  have hc7_1 : (1 : Int32) < p5 := hl1
  refine Gk.icmpNo X2 hx (hb hby d7_7) (tlt hc7_1).2.1 ?_
  refine Gk.aloadN X2 hx (hb hby d7_10) rfl rfl ?_
  refine Gk.iloadN X2 hx (hb hby d7_11) rfl ?_
  have H4 := (V_a.other W2 hne)
  refine Gk.caload X2 hx hZ e2 H4 ⟨by decide, hl1⟩ (.int c1) hf1 (hb hby d7_12) ?_
  refine Gk.istore X2 hx (hb hby d7_13) #[.val (.ref a1), .val (.int (1 : Int32)), .val (.ref a3), .val (.int (1 : Int32)), .val (.int p5), .val (.int (1 : Int32)), .val (.int c1)] rfl ?_
  refine Gk.iload X2 hx (hb hby d7_15) rfl ?_
  refine Gk.sipush X2 hx (hb hby d7_17) (255 : Int32) rfl ?_
  have hc20_1 : ¬ ((255 : Int32) < c1) := hc1
  refine Gk.icmpYes X2 hx (hb hby d7_20) (flt hc20_1).2.2.2 26 (by decide) (by decide) ?_
  refine Gk.aloadN X2 hx (hb hby d7_26) rfl rfl ?_
  refine Gk.iloadN X2 hx (hb hby d7_27) rfl ?_
  refine Gk.iload X2 hx (hb hby d7_28) rfl ?_
  refine Gk.i2b X2 hx (hb hby d7_30) _ rfl ?_
  refine Gk.bastoreB X2 hx hZ e2 V2 1 rfl ⟨by decide, hl1⟩ (.int (c1.toInt8.toInt32)) (congrArg Value.int (own_nb _)) (hb hby d7_31) ?_
  intro T5 h5 X5 e5 W5 V5
  have N5 := Fr.snoc X5 N2 g_a3
  refine Gk.iinc X5 hx (hb hby d7_32) rfl #[.val (.ref a1), .val (.int (2 : Int32)), .val (.ref a3), .val (.int (1 : Int32)), .val (.int p5), .val (.int (1 : Int32)), .val (.int c1)] rfl ?_
  refine Gk.iinc X5 hx (hb hby d7_35) rfl #[.val (.ref a1), .val (.int (2 : Int32)), .val (.ref a3), .val (.int (2 : Int32)), .val (.int p5), .val (.int (1 : Int32)), .val (.int c1)] rfl ?_
  refine Gk.iinc X5 hx (hb hby d7_38) rfl #[.val (.ref a1), .val (.int (2 : Int32)), .val (.ref a3), .val (.int (2 : Int32)), .val (.int p5), .val (.int (2 : Int32)), .val (.int c1)] rfl ?_
  refine Gk.goto X5 hx (hb hby d7_41) 3 (by decide) (by decide) ?_
  refine Gk.iload X5 hx (hb hby d7_3) rfl ?_
  refine Gk.iload X5 hx (hb hby d7_5) rfl ?_
  have hc7_2 : (2 : Int32) < p5 := hl2
  refine Gk.icmpNo X5 hx (hb hby d7_7) (tlt hc7_2).2.1 ?_
  refine Gk.aloadN X5 hx (hb hby d7_10) rfl rfl ?_
  refine Gk.iloadN X5 hx (hb hby d7_11) rfl ?_
  have H7 := (H4.other W5 hne)
  refine Gk.caload X5 hx hZ e5 H7 ⟨by decide, hl2⟩ (.int c2) hf2 (hb hby d7_12) ?_
  refine Gk.istore X5 hx (hb hby d7_13) #[.val (.ref a1), .val (.int (2 : Int32)), .val (.ref a3), .val (.int (2 : Int32)), .val (.int p5), .val (.int (2 : Int32)), .val (.int c2)] rfl ?_
  refine Gk.iload X5 hx (hb hby d7_15) rfl ?_
  refine Gk.sipush X5 hx (hb hby d7_17) (255 : Int32) rfl ?_
  have hc20_2 : ¬ ((255 : Int32) < c2) := hc2
  refine Gk.icmpYes X5 hx (hb hby d7_20) (flt hc20_2).2.2.2 26 (by decide) (by decide) ?_
  refine Gk.aloadN X5 hx (hb hby d7_26) rfl rfl ?_
  refine Gk.iloadN X5 hx (hb hby d7_27) rfl ?_
  refine Gk.iload X5 hx (hb hby d7_28) rfl ?_
  refine Gk.i2b X5 hx (hb hby d7_30) _ rfl ?_
  refine Gk.bastoreB X5 hx hZ e5 V5 2 rfl ⟨by decide, hl2⟩ (.int (c2.toInt8.toInt32)) (congrArg Value.int (own_nb _)) (hb hby d7_31) ?_
  intro T8 h8 X8 e8 W8 V8
  have N8 := Fr.snoc X8 N5 g_a3
  refine Gk.iinc X8 hx (hb hby d7_32) rfl #[.val (.ref a1), .val (.int (3 : Int32)), .val (.ref a3), .val (.int (2 : Int32)), .val (.int p5), .val (.int (2 : Int32)), .val (.int c2)] rfl ?_
  refine Gk.iinc X8 hx (hb hby d7_35) rfl #[.val (.ref a1), .val (.int (3 : Int32)), .val (.ref a3), .val (.int (3 : Int32)), .val (.int p5), .val (.int (2 : Int32)), .val (.int c2)] rfl ?_
  refine Gk.iinc X8 hx (hb hby d7_38) rfl #[.val (.ref a1), .val (.int (3 : Int32)), .val (.ref a3), .val (.int (3 : Int32)), .val (.int p5), .val (.int (3 : Int32)), .val (.int c2)] rfl ?_
  refine Gk.goto X8 hx (hb hby d7_41) 3 (by decide) (by decide) ?_
  refine Gk.iload X8 hx (hb hby d7_3) rfl ?_
  refine Gk.iload X8 hx (hb hby d7_5) rfl ?_
  have hc7_3 : (3 : Int32) < p5 := hl3
  refine Gk.icmpNo X8 hx (hb hby d7_7) (tlt hc7_3).2.1 ?_
  refine Gk.aloadN X8 hx (hb hby d7_10) rfl rfl ?_
  refine Gk.iloadN X8 hx (hb hby d7_11) rfl ?_
  have H10 := (H7.other W8 hne)
  refine Gk.caload X8 hx hZ e8 H10 ⟨by decide, hl3⟩ (.int c3) hf3 (hb hby d7_12) ?_
  refine Gk.istore X8 hx (hb hby d7_13) #[.val (.ref a1), .val (.int (3 : Int32)), .val (.ref a3), .val (.int (3 : Int32)), .val (.int p5), .val (.int (3 : Int32)), .val (.int c3)] rfl ?_
  refine Gk.iload X8 hx (hb hby d7_15) rfl ?_
  refine Gk.sipush X8 hx (hb hby d7_17) (255 : Int32) rfl ?_
  have hc20_3 : ¬ ((255 : Int32) < c3) := hc3
  refine Gk.icmpYes X8 hx (hb hby d7_20) (flt hc20_3).2.2.2 26 (by decide) (by decide) ?_
  refine Gk.aloadN X8 hx (hb hby d7_26) rfl rfl ?_
  refine Gk.iloadN X8 hx (hb hby d7_27) rfl ?_
  refine Gk.iload X8 hx (hb hby d7_28) rfl ?_
  refine Gk.i2b X8 hx (hb hby d7_30) _ rfl ?_
  refine Gk.bastoreB X8 hx hZ e8 V8 3 rfl ⟨by decide, hl3⟩ (.int (c3.toInt8.toInt32)) (congrArg Value.int (own_nb _)) (hb hby d7_31) ?_
  intro T11 h11 X11 e11 W11 V11
  have N11 := Fr.snoc X11 N8 g_a3
  refine Gk.iinc X11 hx (hb hby d7_32) rfl #[.val (.ref a1), .val (.int (4 : Int32)), .val (.ref a3), .val (.int (3 : Int32)), .val (.int p5), .val (.int (3 : Int32)), .val (.int c3)] rfl ?_
  refine Gk.iinc X11 hx (hb hby d7_35) rfl #[.val (.ref a1), .val (.int (4 : Int32)), .val (.ref a3), .val (.int (4 : Int32)), .val (.int p5), .val (.int (3 : Int32)), .val (.int c3)] rfl ?_
  refine Gk.iinc X11 hx (hb hby d7_38) rfl #[.val (.ref a1), .val (.int (4 : Int32)), .val (.ref a3), .val (.int (4 : Int32)), .val (.int p5), .val (.int (4 : Int32)), .val (.int c3)] rfl ?_
  refine Gk.goto X11 hx (hb hby d7_41) 3 (by decide) (by decide) ?_
  refine Gk.iload X11 hx (hb hby d7_3) rfl ?_
  refine Gk.iload X11 hx (hb hby d7_5) rfl ?_
  have hc7_4 : (4 : Int32) < p5 := hl4
  refine Gk.icmpNo X11 hx (hb hby d7_7) (tlt hc7_4).2.1 ?_
  refine Gk.aloadN X11 hx (hb hby d7_10) rfl rfl ?_
  refine Gk.iloadN X11 hx (hb hby d7_11) rfl ?_
  have H13 := (H10.other W11 hne)
  refine Gk.caload X11 hx hZ e11 H13 ⟨by decide, hl4⟩ (.int c4) hf4 (hb hby d7_12) ?_
  refine Gk.istore X11 hx (hb hby d7_13) #[.val (.ref a1), .val (.int (4 : Int32)), .val (.ref a3), .val (.int (4 : Int32)), .val (.int p5), .val (.int (4 : Int32)), .val (.int c4)] rfl ?_
  refine Gk.iload X11 hx (hb hby d7_15) rfl ?_
  refine Gk.sipush X11 hx (hb hby d7_17) (255 : Int32) rfl ?_
  have hc20_4 : (255 : Int32) < c4 := hu_
  refine Gk.icmpNo X11 hx (hb hby d7_20) (tlt hc20_4).2.2.2 ?_
  refine Gk.iload X11 hx (hb hby d7_23) rfl ?_
  exact Gk.rI X11 hx hret hns (hb hby d7_25) e11 ⟨rfl, N11, (((((Keep.refl h0 [a3]).wr W2 (Or.inl (List.mem_of_getElem? (i := 0) rfl))).wr W5 (Or.inl (List.mem_of_getElem? (i := 0) rfl))).wr W8 (Or.inl (List.mem_of_getElem? (i := 0) rfl))).wr W11 (Or.inl (List.mem_of_getElem? (i := 0) rfl)))⟩
theorem pd_3 : parseMethodDescriptor "([CI[BII)I" = some ⟨[(.array .char), .int, (.array .byte), .int, .int], some .int⟩ := by decide +kernel
theorem pd_4 : parseMethodDescriptor "([CII)[B" = some ⟨[(.array .char), .int, .int], some (.array .byte)⟩ := by decide +kernel
theorem pd_5 : parseMethodDescriptor "([BI)C" = some ⟨[(.array .byte), .int], some .char⟩ := by decide +kernel
theorem d6_0 : decode jdk_52_method_16_code 0 = .ok (.iload_n 2, 1) := by decide +kernel
theorem d6_1 : decode jdk_52_method_16_code 1 = .ok (.newarray .byte, 2) := by decide +kernel
theorem d6_3 : decode jdk_52_method_16_code 3 = .ok (.astore_n 3, 1) := by decide +kernel
theorem d6_4 : decode jdk_52_method_16_code 4 = .ok (.aload_n 0, 1) := by decide +kernel
theorem d6_5 : decode jdk_52_method_16_code 5 = .ok (.iload_n 1, 1) := by decide +kernel
theorem d6_6 : decode jdk_52_method_16_code 6 = .ok (.aload_n 3, 1) := by decide +kernel
theorem d6_7 : decode jdk_52_method_16_code 7 = .ok (.iconst 0, 1) := by decide +kernel
theorem d6_8 : decode jdk_52_method_16_code 8 = .ok (.iload_n 2, 1) := by decide +kernel
theorem d6_9 : decode jdk_52_method_16_code 9 = .ok (.invokestatic 115, 3) := by decide +kernel
theorem d6_12 : decode jdk_52_method_16_code 12 = .ok (.istore 4, 2) := by decide +kernel
theorem d6_14 : decode jdk_52_method_16_code 14 = .ok (.iload 4, 2) := by decide +kernel
theorem d6_16 : decode jdk_52_method_16_code 16 = .ok (.iload_n 2, 1) := by decide +kernel
theorem d6_17 : decode jdk_52_method_16_code 17 = .ok (.if_icmp .eq 40, 3) := by decide +kernel
theorem d6_20 : decode jdk_52_method_16_code 20 = .ok (.aload_n 0, 1) := by decide +kernel
theorem d6_21 : decode jdk_52_method_16_code 21 = .ok (.iload_n 1, 1) := by decide +kernel
theorem d6_22 : decode jdk_52_method_16_code 22 = .ok (.iload_n 2, 1) := by decide +kernel
theorem d6_23 : decode jdk_52_method_16_code 23 = .ok (.invokestatic 119, 3) := by decide +kernel
theorem d6_26 : decode jdk_52_method_16_code 26 = .ok (.astore 5, 2) := by decide +kernel
theorem d6_28 : decode jdk_52_method_16_code 28 = .ok (.aload 5, 2) := by decide +kernel
theorem d6_30 : decode jdk_52_method_16_code 30 = .ok (.iload 4, 2) := by decide +kernel
theorem d6_32 : decode jdk_52_method_16_code 32 = .ok (.invokestatic 71, 3) := by decide +kernel
theorem d6_35 : decode jdk_52_method_16_code 35 = .ok (.sipush 255, 3) := by decide +kernel
theorem d6_38 : decode jdk_52_method_16_code 38 = .ok (.if_icmp .gt 16, 3) := by decide +kernel
theorem d6_54 : decode jdk_52_method_16_code 54 = .ok (.aload 5, 2) := by decide +kernel
theorem d6_56 : decode jdk_52_method_16_code 56 = .ok (.areturn, 1) := by decide +kernel
theorem cu1_1 (hw : HW Z a0) (a1 : Addr) (kc : ClassId) (f : Nat → Value) (c0 : Int32) (Z0 : n0 ≤ h0.size) (S__assertionsDisabled : Stx Z n0 h0 "java/lang/StringUTF16" "$assertionsDisabled" "Z" (.int (1 : Int32))) (S_HI_BYTE_SHIFT : Stx Z n0 h0 "java/lang/StringUTF16" "HI_BYTE_SHIFT" "I" (.int (0 : Int32))) (S_LO_BYTE_SHIFT : Stx Z n0 h0 "java/lang/StringUTF16" "LO_BYTE_SHIFT" "I" (.int (8 : Int32))) (V_a : Arf Z h0 a1 kc .char (1 : Int32) f) (hf0 : f 0 = (.int c0)) (hnot : (255 : Int32) < c0) (hb0 : 0 ≤ c0.toInt ∧ c0.toInt < 65536) : Ct l ⟨"java/lang/StringUTF16", "compress", "([CII)[B"⟩ jdk_52_method_16_code 6 (some (.array .byte)) ⟨3, 2, 3, 40⟩ #[(.ref a1), (.int (0 : Int32)), (.int (1 : Int32))] Z h0 (fun v h L => (∃ (b : Addr) (kb : ClassId), v = some (.ref b) ∧ h0.size ≤ b ∧ Arf Z h b kb .byte (2 : Int32) (upd (upd (fun _ => (.int (0 : Int32))) 0 (.int ((c0 >>> ((0 : Int32) &&& 31)).toInt8.toInt32))) 1 (.int ((c0 >>> ((8 : Int32) &&& 31)).toInt8.toInt32)))) ∧ Fr n0 L ∧ Keep h0 h []) := by
  refine Ct.of "java/lang/StringUTF16" rfl (plainFor_of_name pn_5) #[.val (.ref a1), .val (.int (0 : Int32)), .val (.int (1 : Int32)), .unset, .unset, .unset] rfl rfl ?_
  intro p e s m below meth c s₁ hx hby hml hown hnm hret hns hZ hh X0 e0
  refine Gk.iloadN X0 hx (hb hby d6_0) rfl ?_
  refine Gk.newP X0 hx hZ (W hw 26 rfl) e0 (hb hby d6_1) (by decide) (cap := 1) (by decide) (by decide) (by decide) (by decide) rfl ?_
  intro T1 h1 b1 k1 X1 e1 E1 g1 A1 B1
  have g_b1 : n0 ≤ b1 := Nat.le_trans Z0 (Nat.le_of_eq g1.symm)
  have V_b1 : Arf Z h1 b1 k1 .byte (1 : Int32) (fun _ => (.int (0 : Int32))) := A1
  have lt_b1 := V_b1.lt
  refine Gk.astoreN X1 hx (hb hby d6_3) rfl #[.val (.ref a1), .val (.int (0 : Int32)), .val (.int (1 : Int32)), .val (.ref b1), .unset, .unset] rfl ?_
  refine Gk.aloadN X1 hx (hb hby d6_4) rfl rfl ?_
  refine Gk.iloadN X1 hx (hb hby d6_5) rfl ?_
  refine Gk.aloadN X1 hx (hb hby d6_6) rfl rfl ?_
  refine Gk.iconst X1 hx (hb hby d6_7) (0 : Int32) rfl ?_
  refine Gk.iloadN X1 hx (hb hby d6_8) rfl ?_
  have hc0 := hnot
  have H3 := (V_a.ext E1)
  have ne4 : a1 ≠ b1 := (Nat.ne_of_lt (Nat.lt_of_lt_of_le V_a.lt (Nat.le_trans (Nat.le_refl _) (Nat.le_of_eq g1.symm))))
  refine Gk.callS (argsL := [(.ref a1), (.int (0 : Int32)), (.ref b1), (.int (0 : Int32)), (.int (1 : Int32))]) X1 hx hZ hown (cu2_0 l Z a0 h1 n0 hw a1 b1 (1 : Int32) kc f c0 k1 (fun _ => (.int (0 : Int32))) (Nat.le_trans Z0 E1.1) H3 V_b1 ne4 hf0 hc0 (by decide)) (W hw 27 rfl) (W hw 28 rfl) (W hw 24 rfl) (W hw 29 rfl) (by decide) e1 pd_3 rfl rfl rfl (by rw [hml]; rfl) rfl (hb hby d6_9) ?_
  intro T2 L2 v2 X2 hQ2
  obtain ⟨rfl, N2q, K2⟩ := hQ2
  have N2 := Fr.app (Fr.nil n0) N2q
  show Go p e below (T2.setTop (mkF m 12 _ [(.int (0 : Int32))])) _
  refine Gk.istore X2 hx (hb hby d6_12) #[.val (.ref a1), .val (.int (0 : Int32)), .val (.int (1 : Int32)), .val (.ref b1), .val (.int (0 : Int32)), .unset] rfl ?_
  refine Gk.iload X2 hx (hb hby d6_14) rfl ?_
  refine Gk.iloadN X2 hx (hb hby d6_16) rfl ?_
  refine Gk.icmpNo X2 hx (hb hby d6_17) (feq (by decide : ¬ ((0 : Int32) = (1 : Int32)))).1 ?_
  refine Gk.aloadN X2 hx (hb hby d6_20) rfl rfl ?_
  refine Gk.iloadN X2 hx (hb hby d6_21) rfl ?_
  refine Gk.iloadN X2 hx (hb hby d6_22) rfl ?_
  have H6 := (H3.keep K2 (ninS ne4 nin0))
  have H7 := ((S__assertionsDisabled.ext E1).keep K2 (allS g_b1 all0))
  have H8 := ((S_HI_BYTE_SHIFT.ext E1).keep K2 (allS g_b1 all0))
  have H9 := ((S_LO_BYTE_SHIFT.ext E1).keep K2 (allS g_b1 all0))
  refine Gk.callS (argsL := [(.ref a1), (.int (0 : Int32)), (.int (1 : Int32))]) X2 hx hZ hown (tb_1 l Z a0 T2.heap n0 hw a1 kc f c0 (Nat.le_trans Z0 (Nat.le_trans E1.1 K2.1)) H7 H8 H9 H6 hf0) (W hw 78 rfl) (W hw 79 rfl) (W hw 24 rfl) (W hw 80 rfl) (by decide) rfl pd_4 rfl rfl rfl (by rw [hml]; rfl) rfl (hb hby d6_23) ?_
  intro T5 L5 v5 X5 hQ5
  obtain ⟨hv5, N5q, K5, k5_, A5_⟩ := hQ5
  have N5 := Fr.app N2 N5q
  obtain ⟨b5, g5⟩ : ∃ z_, z_ = T2.heap.size := ⟨_, rfl⟩
  rw [← g5] at hv5 A5_
  subst hv5
  have g_b5 : n0 ≤ b5 := Nat.le_trans (Nat.le_trans Z0 (Nat.le_trans E1.1 K2.1)) (Nat.le_of_eq g5.symm)
  have lt_b5 := A5_.lt
  show Go p e below (T5.setTop (mkF m 26 _ [(.ref b5)])) _
  refine Gk.astore X5 hx (hb hby d6_26) rfl #[.val (.ref a1), .val (.int (0 : Int32)), .val (.int (1 : Int32)), .val (.ref b1), .val (.int (0 : Int32)), .val (.ref b5)] rfl ?_
  refine Gk.aload X5 hx (hb hby d6_28) rfl rfl ?_
  refine Gk.iload X5 hx (hb hby d6_30) rfl ?_
  have H11 := (H7.keep K5 all0)
  have H12 := (H8.keep K5 all0)
  have H13 := (H9.keep K5 all0)
  have gr14 := (Nat.le_trans (Nat.le_trans E1.1 K2.1) K5.1)
  refine Gk.callS (argsL := [(.ref b5), (.int (0 : Int32))]) X5 hx hZ hown (gch_0 l Z a0 T5.heap n0 hw b5 k5_ (upd (upd (fun _ => (.int (0 : Int32))) 0 (.int ((c0 >>> ((0 : Int32) &&& 31)).toInt8.toInt32))) 1 (.int ((c0 >>> ((8 : Int32) &&& 31)).toInt8.toInt32))) (2 : Int32) c0 (Nat.le_trans Z0 gr14) H11 H12 H13 A5_ (by decide) (by decide) rfl rfl hb0) (W hw 94 rfl) (W hw 95 rfl) (W hw 24 rfl) (W hw 96 rfl) (by decide) rfl pd_5 rfl rfl rfl (by rw [hml]; rfl) rfl (hb hby d6_32) ?_
  intro T10 L10 v10 X10 hQ10
  obtain ⟨rfl, N10q, e10⟩ := hQ10
  have N10 := Fr.app N5 N10q
  show Go p e below (T10.setTop (mkF m 35 _ [(.int c0)])) _
  refine Gk.sipush X10 hx (hb hby d6_35) (255 : Int32) rfl ?_
  have hc38 : (255 : Int32) < c0 := hc0
  refine Gk.icmpYes X10 hx (hb hby d6_38) (tlt hc38).2.2.1 54 (by decide) (by decide) ?_
  refine Gk.aload X10 hx (hb hby d6_54) rfl rfl ?_
  exact Gk.rR X10 hx hret rfl rfl rfl hns (hb hby d6_56) e10 ⟨⟨_, _, rfl, (Nat.le_trans (Nat.le_trans E1.1 K2.1) (Nat.le_of_eq g5.symm)), A5_⟩, N10, ((((Keep.refl h0 []).ext E1).trans K2 (allS (Or.inr (Nat.le_trans (Nat.le_refl _) (Nat.le_of_eq g1.symm))) all0)).trans K5 all0)⟩
theorem d7_44 : decode jdk_52_method_21_code 44 = .ok (.iload 4, 2) := by decide +kernel
theorem d7_46 : decode jdk_52_method_21_code 46 = .ok (.ireturn, 1) := by decide +kernel
theorem cp2_1 (hw : HW Z a0) (a1 a3 : Addr) (kc : ClassId) (f : Nat → Value) (c0 : Int32) (kb : ClassId) (fb : Nat → Value) (Z0 : n0 ≤ h0.size) (V_a : Arf Z h0 a1 kc .char (1 : Int32) f) (V_b : Arf Z h0 a3 kb .byte (1 : Int32) fb) (hne : a1 ≠ a3) (hf0 : f 0 = (.int c0)) (hc0 : ¬ ((255 : Int32) < c0)) (g_a3 : n0 ≤ a3) : Ct l ⟨"java/lang/StringUTF16", "compress", "([CI[BII)I"⟩ jdk_52_method_21_code 7 (some .int) ⟨0, 0, 0, 0⟩ #[(.ref a1), (.int (0 : Int32)), (.ref a3), (.int (0 : Int32)), (.int (1 : Int32))] Z h0 (fun v h L => v = some (.int (1 : Int32)) ∧ Fr n0 L ∧ Keep h0 h [a3] ∧ Arf Z h a3 kb .byte (1 : Int32) (upd fb 0 (.int (c0.toInt8.toInt32)))) := by
  refine Ct.of "java/lang/StringUTF16" rfl (plainFor_of_name pn_5) #[.val (.ref a1), .val (.int (0 : Int32)), .val (.ref a3), .val (.int (0 : Int32)), .val (.int (1 : Int32)), .unset, .unset] rfl rfl ?_
  intro p e s m below meth c s₁ hx hby hml hown hnm hret hns hZ hh X0 e0
  refine Gk.iconst X0 hx (hb hby d7_0) (0 : Int32) rfl ?_
  refine Gk.istore X0 hx (hb hby d7_1) #[.val (.ref a1), .val (.int (0 : Int32)), .val (.ref a3), .val (.int (0 : Int32)), .val (.int (1 : Int32)), .val (.int (0 : Int32)), .unset] rfl ?_
  refine Gk.iload X0 hx (hb hby d7_3) rfl ?_
  refine Gk.iload X0 hx (hb hby d7_5) rfl ?_
  refine Gk.icmpNo X0 hx (hb hby d7_7) (tlt (by decide : (0 : Int32) < (1 : Int32))).2.1 ?_
  refine Gk.aloadN X0 hx (hb hby d7_10) rfl rfl ?_
  refine Gk.iloadN X0 hx (hb hby d7_11) rfl ?_
  refine Gk.caload X0 hx hZ e0 V_a ⟨by decide, by decide⟩ (.int c0) hf0 (hb hby d7_12) ?_
  refine Gk.istore X0 hx (hb hby d7_13) #[.val (.ref a1), .val (.int (0 : Int32)), .val (.ref a3), .val (.int (0 : Int32)), .val (.int (1 : Int32)), .val (.int (0 : Int32)), .val (.int c0)] rfl ?_
  refine Gk.iload X0 hx (hb hby d7_15) rfl ?_
  refine Gk.sipush X0 hx (hb hby d7_17) (255 : Int32) rfl ?_
  have hc20 : ¬ ((255 : Int32) < c0) := hc0
  refine Gk.icmpYes X0 hx (hb hby d7_20) (flt hc20).2.2.2 26 (by decide) (by decide) ?_
  refine Gk.aloadN X0 hx (hb hby d7_26) rfl rfl ?_
  refine Gk.iloadN X0 hx (hb hby d7_27) rfl ?_
  refine Gk.iload X0 hx (hb hby d7_28) rfl ?_
  refine Gk.i2b X0 hx (hb hby d7_30) _ rfl ?_
  refine Gk.bastoreB X0 hx hZ e0 V_b 0 rfl ⟨by decide, by decide⟩ (.int (c0.toInt8.toInt32)) (congrArg Value.int (own_nb _)) (hb hby d7_31) ?_
  intro T2 h2 X2 e2 W2 V2
  have N2 := Fr.snoc X2 (Fr.nil n0) g_a3
  refine Gk.iinc X2 hx (hb hby d7_32) rfl #[.val (.ref a1), .val (.int (1 : Int32)), .val (.ref a3), .val (.int (0 : Int32)), .val (.int (1 : Int32)), .val (.int (0 : Int32)), .val (.int c0)] rfl ?_
  refine Gk.iinc X2 hx (hb hby d7_35) rfl #[.val (.ref a1), .val (.int (1 : Int32)), .val (.ref a3), .val (.int (1 : Int32)), .val (.int (1 : Int32)), .val (.int (0 : Int32)), .val (.int c0)] rfl ?_
  refine Gk.iinc X2 hx (hb hby d7_38) rfl #[.val (.ref a1), .val (.int (1 : Int32)), .val (.ref a3), .val (.int (1 : Int32)), .val (.int (1 : Int32)), .val (.int (1 : Int32)), .val (.int c0)] rfl ?_
  refine Gk.goto X2 hx (hb hby d7_41) 3 (by decide) (by decide) ?_
  refine Gk.iload X2 hx (hb hby d7_3) rfl ?_
  refine Gk.iload X2 hx (hb hby d7_5) rfl ?_
  refine Gk.icmpYes X2 hx (hb hby d7_7) (flt (by decide : ¬ ((1 : Int32) < (1 : Int32)))).2.1 44 (by decide) (by decide) ?_
  refine Gk.iload X2 hx (hb hby d7_44) rfl ?_
  exact Gk.rI X2 hx hret hns (hb hby d7_46) e2 ⟨rfl, N2, ((Keep.refl h0 [a3]).wr W2 (Or.inl (List.mem_of_getElem? (i := 0) rfl))), V2⟩
theorem d6_57 : decode jdk_52_method_16_code 57 = .ok (.aload_n 3, 1) := by decide +kernel
theorem d6_58 : decode jdk_52_method_16_code 58 = .ok (.areturn, 1) := by decide +kernel
theorem cp1_1 (hw : HW Z a0) (a1 : Addr) (kc : ClassId) (f : Nat → Value) (c0 : Int32) (Z0 : n0 ≤ h0.size) (V_a : Arf Z h0 a1 kc .char (1 : Int32) f) (hf0 : f 0 = (.int c0)) (hc0 : ¬ ((255 : Int32) < c0)) : Ct l ⟨"java/lang/StringUTF16", "compress", "([CII)[B"⟩ jdk_52_method_16_code 6 (some (.array .byte)) ⟨1, 1, 1, 18⟩ #[(.ref a1), (.int (0 : Int32)), (.int (1 : Int32))] Z h0 (fun v h L => v = some (.ref h0.size) ∧ Fr n0 L ∧ Keep h0 h [] ∧ ∃ kb : ClassId, Arf Z h h0.size kb .byte (1 : Int32) (upd (fun _ => (.int (0 : Int32))) 0 (.int (c0.toInt8.toInt32)))) := by
  refine Ct.of "java/lang/StringUTF16" rfl (plainFor_of_name pn_5) #[.val (.ref a1), .val (.int (0 : Int32)), .val (.int (1 : Int32)), .unset, .unset, .unset] rfl rfl ?_
  intro p e s m below meth c s₁ hx hby hml hown hnm hret hns hZ hh X0 e0
  refine Gk.iloadN X0 hx (hb hby d6_0) rfl ?_
  refine Gk.newP X0 hx hZ (W hw 26 rfl) e0 (hb hby d6_1) (by decide) (cap := 1) (by decide) (by decide) (by decide) (by decide) rfl ?_
  intro T1 h1 b1 k1 X1 e1 E1 g1 A1 B1
  have g_b1 : n0 ≤ b1 := Nat.le_trans Z0 (Nat.le_of_eq g1.symm)
  have V_b1 : Arf Z h1 b1 k1 .byte (1 : Int32) (fun _ => (.int (0 : Int32))) := A1
  have lt_b1 := V_b1.lt
  refine Gk.astoreN X1 hx (hb hby d6_3) rfl #[.val (.ref a1), .val (.int (0 : Int32)), .val (.int (1 : Int32)), .val (.ref b1), .unset, .unset] rfl ?_
  refine Gk.aloadN X1 hx (hb hby d6_4) rfl rfl ?_
  refine Gk.iloadN X1 hx (hb hby d6_5) rfl ?_
  refine Gk.aloadN X1 hx (hb hby d6_6) rfl rfl ?_
  refine Gk.iconst X1 hx (hb hby d6_7) (0 : Int32) rfl ?_
  refine Gk.iloadN X1 hx (hb hby d6_8) rfl ?_
  have H3 := (V_a.ext E1)
  have ne4 : a1 ≠ b1 := (Nat.ne_of_lt (Nat.lt_of_lt_of_le V_a.lt (Nat.le_trans (Nat.le_refl _) (Nat.le_of_eq g1.symm))))
  refine Gk.callS (argsL := [(.ref a1), (.int (0 : Int32)), (.ref b1), (.int (0 : Int32)), (.int (1 : Int32))]) X1 hx hZ hown (cp2_1 l Z a0 h1 n0 hw a1 b1 kc f c0 k1 (fun _ => (.int (0 : Int32))) (Nat.le_trans Z0 E1.1) H3 V_b1 ne4 hf0 hc0 g_b1) (W hw 27 rfl) (W hw 28 rfl) (W hw 24 rfl) (W hw 29 rfl) (by decide) e1 pd_3 rfl rfl rfl (by rw [hml]; rfl) rfl (hb hby d6_9) ?_
  intro T2 L2 v2 X2 hQ2
  obtain ⟨rfl, N2q, K2, V2_⟩ := hQ2
  have N2 := Fr.app (Fr.nil n0) N2q
  show Go p e below (T2.setTop (mkF m 12 _ [(.int (1 : Int32))])) _
  refine Gk.istore X2 hx (hb hby d6_12) #[.val (.ref a1), .val (.int (0 : Int32)), .val (.int (1 : Int32)), .val (.ref b1), .val (.int (1 : Int32)), .unset] rfl ?_
  refine Gk.iload X2 hx (hb hby d6_14) rfl ?_
  refine Gk.iloadN X2 hx (hb hby d6_16) rfl ?_
  refine Gk.icmpYes X2 hx (hb hby d6_17) (teq (by decide : (1 : Int32) = (1 : Int32))).1 57 (by decide) (by decide) ?_
  refine Gk.aloadN X2 hx (hb hby d6_57) rfl rfl ?_
  exact Gk.rR X2 hx hret rfl rfl rfl hns (hb hby d6_58) rfl ⟨congrArg (fun z_ : Addr => some (Value.ref z_)) (show b1 = h0.size from g1), N2, (((Keep.refl h0 []).ext E1).trans K2 (allS (Or.inr (Nat.le_trans (Nat.le_refl _) (Nat.le_of_eq g1.symm))) all0)), _, (g1 ▸ V2_)⟩
theorem d8_0 : decode jdk_52_method_15_code 0 = .ok (.iload_n 1, 1) := by decide +kernel
theorem d8_1 : decode jdk_52_method_15_code 1 = .ok (.aload_n 0, 1) := by decide +kernel
theorem d8_2 : decode jdk_52_method_15_code 2 = .ok (.arraylength, 1) := by decide +kernel
theorem d8_3 : decode jdk_52_method_15_code 3 = .ok (.isub, 1) := by decide +kernel
theorem d8_4 : decode jdk_52_method_15_code 4 = .ok (.bipush 31, 2) := by decide +kernel
theorem d8_6 : decode jdk_52_method_15_code 6 = .ok (.iushr, 1) := by decide +kernel
theorem d8_7 : decode jdk_52_method_15_code 7 = .ok (.i2b, 1) := by decide +kernel
theorem d8_8 : decode jdk_52_method_15_code 8 = .ok (.ireturn, 1) := by decide +kernel
theorem cf0_1 (hw : HW Z a0) (a1 : Addr) (kb : ClassId) (fb : Nat → Value) (Z0 : n0 ≤ h0.size) (V_b : Arf Z h0 a1 kb .byte (1 : Int32) fb) : Ct l ⟨"java/lang/StringUTF16", "coderFromArrayLen", "([BI)B"⟩ jdk_52_method_15_code 2 (some .byte) ⟨0, 0, 0, 0⟩ #[(.ref a1), (.int (1 : Int32))] Z h0 (fun v h L => v = some (.int (0 : Int32)) ∧ Fr n0 L ∧ h = h0) := by
  refine Ct.of "java/lang/StringUTF16" rfl (plainFor_of_name pn_5) #[.val (.ref a1), .val (.int (1 : Int32))] rfl rfl ?_
  intro p e s m below meth c s₁ hx hby hml hown hnm hret hns hZ hh X0 e0
  refine Gk.iloadN X0 hx (hb hby d8_0) rfl ?_
  refine Gk.aloadN X0 hx (hb hby d8_1) rfl rfl ?_
  refine Gk.alen X0 hx hZ e0 V_b (hb hby d8_2) ?_
  refine Gk.isub X0 hx (hb hby d8_3) (0 : Int32) (by decide) ?_
  refine Gk.bipush X0 hx (hb hby d8_4) (31 : Int32) rfl ?_
  refine Gk.iushr X0 hx (hb hby d8_6) (0 : Int32) (by decide) ?_
  refine Gk.i2b X0 hx (hb hby d8_7) (0 : Int32) (by decide) ?_
  exact Gk.rN X0 hx hret (by simp) hns (hb hby d8_8) e0 (0 : Int32) rfl ⟨rfl, (Fr.nil n0), rfl⟩
theorem cf1_1 (hw : HW Z a0) (a1 : Addr) (kb : ClassId) (fb : Nat → Value) (Z0 : n0 ≤ h0.size) (V_b : Arf Z h0 a1 kb .byte (2 : Int32) fb) : Ct l ⟨"java/lang/StringUTF16", "coderFromArrayLen", "([BI)B"⟩ jdk_52_method_15_code 2 (some .byte) ⟨0, 0, 0, 0⟩ #[(.ref a1), (.int (1 : Int32))] Z h0 (fun v h L => v = some (.int (1 : Int32)) ∧ Fr n0 L ∧ h = h0) := by
  refine Ct.of "java/lang/StringUTF16" rfl (plainFor_of_name pn_5) #[.val (.ref a1), .val (.int (1 : Int32))] rfl rfl ?_
  intro p e s m below meth c s₁ hx hby hml hown hnm hret hns hZ hh X0 e0
  refine Gk.iloadN X0 hx (hb hby d8_0) rfl ?_
  refine Gk.aloadN X0 hx (hb hby d8_1) rfl rfl ?_
  refine Gk.alen X0 hx hZ e0 V_b (hb hby d8_2) ?_
  refine Gk.isub X0 hx (hb hby d8_3) (-1 : Int32) (by decide) ?_
  refine Gk.bipush X0 hx (hb hby d8_4) (31 : Int32) rfl ?_
  refine Gk.iushr X0 hx (hb hby d8_6) (1 : Int32) (by decide) ?_
  refine Gk.i2b X0 hx (hb hby d8_7) (1 : Int32) (by decide) ?_
  exact Gk.rN X0 hx hret (by simp) hns (hb hby d8_8) e0 (1 : Int32) rfl ⟨rfl, (Fr.nil n0), rfl⟩
def SQ1 (Z : State) (h : Heap) (a : Addr) (c0 : Int32) : Prop := (Fld Z h a "java/lang/String" "coder" "B" (.int (0 : Int32)) ∧ ∃ (b : Addr) (kb : ClassId), Fld Z h a "java/lang/String" "value" "[B" (.ref b) ∧ Arf Z h b kb .byte (1 : Int32) (upd (fun _ => (.int (0 : Int32))) 0 (.int (c0.toInt8.toInt32))) ∧ ¬ ((255 : Int32) < c0)) ∨ (Fld Z h a "java/lang/String" "coder" "B" (.int (1 : Int32)) ∧ ∃ (b : Addr) (kb : ClassId), Fld Z h a "java/lang/String" "value" "[B" (.ref b) ∧ Arf Z h b kb .byte (2 : Int32) (upd (upd (fun _ => (.int (0 : Int32))) 0 (.int ((c0 >>> ((0 : Int32) &&& 31)).toInt8.toInt32))) 1 (.int ((c0 >>> ((8 : Int32) &&& 31)).toInt8.toInt32))))
theorem pd_6 : parseMethodDescriptor "([BI)B" = some ⟨[(.array .byte), .int], some .byte⟩ := by decide +kernel
theorem d4_0 : decode jdk_42_method_149_code 0 = .ok (.aload_n 0, 1) := by decide +kernel
theorem d4_1 : decode jdk_42_method_149_code 1 = .ok (.invokespecial 1, 3) := by decide +kernel
theorem d4_4 : decode jdk_42_method_149_code 4 = .ok (.iload_n 3, 1) := by decide +kernel
theorem d4_5 : decode jdk_42_method_149_code 5 = .ok (.ifCond .ne 22, 3) := by decide +kernel
theorem d4_27 : decode jdk_42_method_149_code 27 = .ok (.getstatic 38, 3) := by decide +kernel
theorem d4_30 : decode jdk_42_method_149_code 30 = .ok (.ifCond .eq 28, 3) := by decide +kernel
theorem d4_33 : decode jdk_42_method_149_code 33 = .ok (.aload_n 1, 1) := by decide +kernel
theorem d4_34 : decode jdk_42_method_149_code 34 = .ok (.iload_n 2, 1) := by decide +kernel
theorem d4_35 : decode jdk_42_method_149_code 35 = .ok (.iload_n 3, 1) := by decide +kernel
theorem d4_36 : decode jdk_42_method_149_code 36 = .ok (.invokestatic 177, 3) := by decide +kernel
theorem d4_39 : decode jdk_42_method_149_code 39 = .ok (.astore 5, 2) := by decide +kernel
theorem d4_41 : decode jdk_42_method_149_code 41 = .ok (.aload_n 0, 1) := by decide +kernel
theorem d4_42 : decode jdk_42_method_149_code 42 = .ok (.aload 5, 2) := by decide +kernel
theorem d4_44 : decode jdk_42_method_149_code 44 = .ok (.iload_n 3, 1) := by decide +kernel
theorem d4_45 : decode jdk_42_method_149_code 45 = .ok (.invokestatic 47, 3) := by decide +kernel
theorem d4_48 : decode jdk_42_method_149_code 48 = .ok (.putfield 15, 3) := by decide +kernel
theorem d4_51 : decode jdk_42_method_149_code 51 = .ok (.aload_n 0, 1) := by decide +kernel
theorem d4_52 : decode jdk_42_method_149_code 52 = .ok (.aload 5, 2) := by decide +kernel
theorem d4_54 : decode jdk_42_method_149_code 54 = .ok (.putfield 9, 3) := by decide +kernel
theorem d4_57 : decode jdk_42_method_149_code 57 = .ok (.return_, 1) := by decide +kernel
theorem pn_164 : plainName "java/lang/String" = true := by first | (simp [plainName, overriddenIn]; done) | decide +kernel
theorem in4_1 (hw : HW Z a0) (a1 a2 : Addr) (kc : ClassId) (f : Nat → Value) (c0 : Int32) (u_coder_a1 u_value_a1 : Value) (w_COMPACT_STRINGS : Int32) (Z0 : n0 ≤ h0.size) (S_COMPACT_STRINGS : Stx Z n0 h0 "java/lang/String" "COMPACT_STRINGS" "Z" (.int w_COMPACT_STRINGS)) (S__assertionsDisabled : Stx Z n0 h0 "java/lang/StringUTF16" "$assertionsDisabled" "Z" (.int (1 : Int32))) (S_HI_BYTE_SHIFT : Stx Z n0 h0 "java/lang/StringUTF16" "HI_BYTE_SHIFT" "I" (.int (0 : Int32))) (S_LO_BYTE_SHIFT : Stx Z n0 h0 "java/lang/StringUTF16" "LO_BYTE_SHIFT" "I" (.int (8 : Int32))) (E_a1 : Exa Z h0 a1 "java/lang/String") (V_a : Arf Z h0 a2 kc .char (1 : Int32) f) (hf0 : f 0 = (.int c0)) (hb0 : 0 ≤ c0.toInt ∧ c0.toInt < 65536) (hcs : ¬ (w_COMPACT_STRINGS = (0 : Int32))) (F_coder_a1 : Fld Z h0 a1 "java/lang/String" "coder" "B" u_coder_a1) (g_a1 : n0 ≤ a1) (F_value_a1 : Fld Z h0 a1 "java/lang/String" "value" "[B" u_value_a1) : Ct l ⟨"java/lang/String", "<init>", "([CIILjava/lang/Void;)V"⟩ jdk_42_method_149_code 6 none ⟨4, 2, 3, 57⟩ #[(.ref a1), (.ref a2), (.int (0 : Int32)), (.int (1 : Int32)), .null] Z h0 (fun v h L => v = none ∧ Fr n0 L ∧ Keep h0 h [a1] ∧ SQ1 Z h a1 c0) := by
  refine Ct.of "java/lang/String" rfl (plainFor_of_name pn_164) #[.val (.ref a1), .val (.ref a2), .val (.int (0 : Int32)), .val (.int (1 : Int32)), .val .null, .unset] rfl rfl ?_
  intro p e s m below meth c s₁ hx hby hml hown hnm hret hns hZ hh X0 e0
  refine Gk.aloadN X0 hx (hb hby d4_0) rfl rfl ?_
  refine Gk.initO X0 hx hZ hown (W hw 18 rfl) (W hw 19 rfl) (W hw 20 rfl) e0 (by rw [hml]; rfl) (hb hby d4_1) (by decide) (Nat.le_of_ble_eq_true rfl) ?_
  intro T1 X1 e1
  refine Gk.iloadN X1 hx (hb hby d4_4) rfl ?_
  refine Gk.ifYes X1 hx (hb hby d4_5) (feq (by decide : ¬ ((1 : Int32) = (0 : Int32)))).2 27 (by decide) (by decide) ?_
  refine Gk.getS X1 hx hZ hown (host := "") (Or.inl (W hw 21 rfl)) Via.refl e1 S_COMPACT_STRINGS.sta (hb hby d4_27) ?_
  intro T2 X2 e2
  have hc30 : ¬ (w_COMPACT_STRINGS = (0 : Int32)) := hcs
  refine Gk.ifNo X2 hx (hb hby d4_30) (feq hc30).1 ?_
  refine Gk.aloadN X2 hx (hb hby d4_33) rfl rfl ?_
  refine Gk.iloadN X2 hx (hb hby d4_34) rfl ?_
  refine Gk.iloadN X2 hx (hb hby d4_35) rfl ?_
  by_cases hnot : (255 : Int32) < c0
  · skip
    refine Gk.callS (argsL := [(.ref a2), (.int (0 : Int32)), (.int (1 : Int32))]) X2 hx hZ hown (cu1_1 l Z a0 h0 n0 hw a2 kc f c0 Z0 S__assertionsDisabled S_HI_BYTE_SHIFT S_LO_BYTE_SHIFT V_a hf0 hnot hb0) (W hw 22 rfl) (W hw 23 rfl) (W hw 24 rfl) (W hw 25 rfl) (by decide) e2 pd_4 rfl rfl rfl (by rw [hml]; rfl) rfl (hb hby d4_36) ?_
    intro T3 L3 v3 X3 hQ3
    obtain ⟨⟨y3, k3_, rfl, le_y3, A3_⟩, N3q, K3⟩ := hQ3
    have N3 := Fr.app (Fr.nil n0) N3q
    have ne_y3 : y3 ≠ a1 := Nat.ne_of_gt (Nat.lt_of_lt_of_le E_a1.lt le_y3)
    show Go p e below (T3.setTop (mkF m 39 _ [(.ref y3)])) _
    refine Gk.astore X3 hx (hb hby d4_39) rfl #[.val (.ref a1), .val (.ref a2), .val (.int (0 : Int32)), .val (.int (1 : Int32)), .val .null, .val (.ref y3)] rfl ?_
    refine Gk.aloadN X3 hx (hb hby d4_41) rfl rfl ?_
    refine Gk.aload X3 hx (hb hby d4_42) rfl rfl ?_
    refine Gk.iloadN X3 hx (hb hby d4_44) rfl ?_
    refine Gk.callS (argsL := [(.ref y3), (.int (1 : Int32))]) X3 hx hZ hown (cf1_1 l Z a0 T3.heap n0 hw y3 k3_ (upd (upd (fun _ => (.int (0 : Int32))) 0 (.int ((c0 >>> ((0 : Int32) &&& 31)).toInt8.toInt32))) 1 (.int ((c0 >>> ((8 : Int32) &&& 31)).toInt8.toInt32))) (Nat.le_trans Z0 K3.1) A3_) (W hw 30 rfl) (W hw 31 rfl) (W hw 24 rfl) (W hw 32 rfl) (by decide) rfl pd_6 rfl rfl rfl (by rw [hml]; rfl) rfl (hb hby d4_45) ?_
    intro T4 L4 v4 X4 hQ4
    obtain ⟨rfl, N4q, e4⟩ := hQ4
    have N4 := Fr.app N3 N4q
    show Go p e below (T4.setTop (mkF m 48 _ [(.int (1 : Int32)), (.ref a1)])) _
    have H5 := (E_a1.keep K3)
    have H6 := (F_coder_a1.keep K3 nin0)
    refine Gk.putFN X4 hx hZ hown (W hw 33 rfl) Via.refl e4 H6 H5 (Or.inr ⟨(W hw 34 rfl), rfl, hnm⟩) (W hw 9 rfl) (ty := .byte) (v' := (.int (1 : Int32))) (by decide) rfl rfl (hb hby d4_48) ?_
    intro T7 h7 X7 e7 W7
    have Fw7 := H6.same W7
    have N7 := Fr.snoc X7 N4 g_a1
    refine Gk.aloadN X7 hx (hb hby d4_51) rfl rfl ?_
    refine Gk.aload X7 hx (hb hby d4_52) rfl rfl ?_
    have H8 := (H5.wr W7)
    have H9 := ((F_value_a1.keep K3 nin0).other W7 (Or.inr (slot_ne (Or.inr (W hw 36 rfl)) (Or.inr (W hw 34 rfl)) (by decide) (t := (.array .byte)) (t' := .byte) (by decide) (by decide))))
    refine Gk.putF X7 hx hZ hown (host := "") (Or.inl (W hw 35 rfl)) Via.refl e7 H9 H8 (Or.inr ⟨(W hw 36 rfl), rfl, hnm⟩) (W hw 9 rfl) (ty := (.array .byte)) (by decide) rfl rfl (hb hby d4_54) ?_
    intro T10 h10 X10 e10 W10
    have Fw10 := H9.same W10
    have N10 := Fr.snoc X10 N7 g_a1
    have H11 := (Fw7.other W10 (Or.inr (slot_ne (Or.inr (W hw 34 rfl)) (Or.inr (W hw 36 rfl)) (by decide) (t := .byte) (t' := (.array .byte)) (by decide) (by decide))))
    have H12 := ((A3_.other W7 ne_y3).other W10 ne_y3)
    exact Gk.rV X10 hx hret hns (hb hby d4_57) e10 ⟨rfl, N10, ((((Keep.refl h0 [a1]).trans K3 all0).wr W7 (Or.inl (List.mem_of_getElem? (i := 0) rfl))).wr W10 (Or.inl (List.mem_of_getElem? (i := 0) rfl))), Or.inr ⟨H11, y3, _, Fw10, H12⟩⟩
  · skip
    have hc0 : ¬ ((255 : Int32) < c0) := fun q_ => hnot q_
    refine Gk.callS (argsL := [(.ref a2), (.int (0 : Int32)), (.int (1 : Int32))]) X2 hx hZ hown (cp1_1 l Z a0 h0 n0 hw a2 kc f c0 Z0 V_a hf0 hc0) (W hw 22 rfl) (W hw 23 rfl) (W hw 24 rfl) (W hw 25 rfl) (by decide) e2 pd_4 rfl rfl rfl (by rw [hml]; rfl) rfl (hb hby d4_36) ?_
    intro T13 L13 v13 X13 hQ13
    obtain ⟨hv13, N13q, K13, k13_, A13_⟩ := hQ13
    have N13 := Fr.app (Fr.nil n0) N13q
    obtain ⟨b13, g13⟩ : ∃ z_, z_ = h0.size := ⟨_, rfl⟩
    rw [← g13] at hv13 A13_
    subst hv13
    have g_b13 : n0 ≤ b13 := Nat.le_trans Z0 (Nat.le_of_eq g13.symm)
    have lt_b13 := A13_.lt
    show Go p e below (T13.setTop (mkF m 39 _ [(.ref b13)])) _
    refine Gk.astore X13 hx (hb hby d4_39) rfl #[.val (.ref a1), .val (.ref a2), .val (.int (0 : Int32)), .val (.int (1 : Int32)), .val .null, .val (.ref b13)] rfl ?_
    refine Gk.aloadN X13 hx (hb hby d4_41) rfl rfl ?_
    refine Gk.aload X13 hx (hb hby d4_42) rfl rfl ?_
    refine Gk.iloadN X13 hx (hb hby d4_44) rfl ?_
    refine Gk.callS (argsL := [(.ref b13), (.int (1 : Int32))]) X13 hx hZ hown (cf0_1 l Z a0 T13.heap n0 hw b13 k13_ (upd (fun _ => (.int (0 : Int32))) 0 (.int (c0.toInt8.toInt32))) (Nat.le_trans Z0 K13.1) A13_) (W hw 30 rfl) (W hw 31 rfl) (W hw 24 rfl) (W hw 32 rfl) (by decide) rfl pd_6 rfl rfl rfl (by rw [hml]; rfl) rfl (hb hby d4_45) ?_
    intro T14 L14 v14 X14 hQ14
    obtain ⟨rfl, N14q, e14⟩ := hQ14
    have N14 := Fr.app N13 N14q
    show Go p e below (T14.setTop (mkF m 48 _ [(.int (0 : Int32)), (.ref a1)])) _
    have H15 := (E_a1.keep K13)
    have H16 := (F_coder_a1.keep K13 nin0)
    refine Gk.putFN X14 hx hZ hown (W hw 33 rfl) Via.refl e14 H16 H15 (Or.inr ⟨(W hw 34 rfl), rfl, hnm⟩) (W hw 9 rfl) (ty := .byte) (v' := (.int (0 : Int32))) (by decide) rfl rfl (hb hby d4_48) ?_
    intro T17 h17 X17 e17 W17
    have Fw17 := H16.same W17
    have N17 := Fr.snoc X17 N14 g_a1
    refine Gk.aloadN X17 hx (hb hby d4_51) rfl rfl ?_
    refine Gk.aload X17 hx (hb hby d4_52) rfl rfl ?_
    have H18 := (H15.wr W17)
    have H19 := ((F_value_a1.keep K13 nin0).other W17 (Or.inr (slot_ne (Or.inr (W hw 36 rfl)) (Or.inr (W hw 34 rfl)) (by decide) (t := (.array .byte)) (t' := .byte) (by decide) (by decide))))
    refine Gk.putF X17 hx hZ hown (host := "") (Or.inl (W hw 35 rfl)) Via.refl e17 H19 H18 (Or.inr ⟨(W hw 36 rfl), rfl, hnm⟩) (W hw 9 rfl) (ty := (.array .byte)) (by decide) rfl rfl (hb hby d4_54) ?_
    intro T20 h20 X20 e20 W20
    have Fw20 := H19.same W20
    have N20 := Fr.snoc X20 N17 g_a1
    have H21 := (Fw17.other W20 (Or.inr (slot_ne (Or.inr (W hw 34 rfl)) (Or.inr (W hw 36 rfl)) (by decide) (t := .byte) (t' := (.array .byte)) (by decide) (by decide))))
    have ne22 : b13 ≠ a1 := (Nat.ne_of_gt (Nat.lt_of_lt_of_le E_a1.lt (Nat.le_trans (Nat.le_refl _) (Nat.le_of_eq g13.symm))))
    have H23 := ((A13_.other W17 ne22).other W20 ne22)
    exact Gk.rV X20 hx hret hns (hb hby d4_57) e20 ⟨rfl, N20, ((((Keep.refl h0 [a1]).trans K13 all0).wr W17 (Or.inl (List.mem_of_getElem? (i := 0) rfl))).wr W20 (Or.inl (List.mem_of_getElem? (i := 0) rfl))), Or.inl ⟨H21, b13, _, Fw20, H23, hc0⟩⟩
theorem pd_7 : parseMethodDescriptor "([CIILjava/lang/Void;)V" = some ⟨[(.array .char), .int, .int, (.object "java/lang/Void")], none⟩ := by decide +kernel
theorem d3_0 : decode jdk_42_method_3_code 0 = .ok (.aload_n 0, 1) := by decide +kernel
theorem d3_1 : decode jdk_42_method_3_code 1 = .ok (.aload_n 1, 1) := by decide +kernel
theorem d3_2 : decode jdk_42_method_3_code 2 = .ok (.iconst 0, 1) := by decide +kernel
theorem d3_3 : decode jdk_42_method_3_code 3 = .ok (.aload_n 1, 1) := by decide +kernel
theorem d3_4 : decode jdk_42_method_3_code 4 = .ok (.arraylength, 1) := by decide +kernel
theorem d3_5 : decode jdk_42_method_3_code 5 = .ok (.aconst_null, 1) := by decide +kernel
theorem d3_6 : decode jdk_42_method_3_code 6 = .ok (.invokespecial 27, 3) := by decide +kernel
theorem d3_9 : decode jdk_42_method_3_code 9 = .ok (.return_, 1) := by decide +kernel
theorem str_1 (hw : HW Z a0) (a1 a2 : Addr) (kc : ClassId) (f : Nat → Value) (c0 : Int32) (u_coder_a1 u_value_a1 : Value) (w_COMPACT_STRINGS : Int32) (Z0 : n0 ≤ h0.size) (S_COMPACT_STRINGS : Stx Z n0 h0 "java/lang/String" "COMPACT_STRINGS" "Z" (.int w_COMPACT_STRINGS)) (S__assertionsDisabled : Stx Z n0 h0 "java/lang/StringUTF16" "$assertionsDisabled" "Z" (.int (1 : Int32))) (S_HI_BYTE_SHIFT : Stx Z n0 h0 "java/lang/StringUTF16" "HI_BYTE_SHIFT" "I" (.int (0 : Int32))) (S_LO_BYTE_SHIFT : Stx Z n0 h0 "java/lang/StringUTF16" "LO_BYTE_SHIFT" "I" (.int (8 : Int32))) (E_a1 : Exa Z h0 a1 "java/lang/String") (V_a : Arf Z h0 a2 kc .char (1 : Int32) f) (hf0 : f 0 = (.int c0)) (hb0 : 0 ≤ c0.toInt ∧ c0.toInt < 65536) (hcs : ¬ (w_COMPACT_STRINGS = (0 : Int32))) (F_coder_a1 : Fld Z h0 a1 "java/lang/String" "coder" "B" u_coder_a1) (g_a1 : n0 ≤ a1) (F_value_a1 : Fld Z h0 a1 "java/lang/String" "value" "[B" u_value_a1) : Ct l ⟨"java/lang/String", "<init>", "([C)V"⟩ jdk_42_method_3_code 2 none ⟨5, 2, 3, 74⟩ #[(.ref a1), (.ref a2)] Z h0 (fun v h L => v = none ∧ Fr n0 L ∧ Keep h0 h [a1] ∧ SQ1 Z h a1 c0) := by
  refine Ct.of "java/lang/String" rfl (plainFor_of_name pn_164) #[.val (.ref a1), .val (.ref a2)] rfl rfl ?_
  intro p e s m below meth c s₁ hx hby hml hown hnm hret hns hZ hh X0 e0
  refine Gk.aloadN X0 hx (hb hby d3_0) rfl rfl ?_
  refine Gk.aloadN X0 hx (hb hby d3_1) rfl rfl ?_
  refine Gk.iconst X0 hx (hb hby d3_2) (0 : Int32) rfl ?_
  refine Gk.aloadN X0 hx (hb hby d3_3) rfl rfl ?_
  refine Gk.alen X0 hx hZ e0 V_a (hb hby d3_4) ?_
  refine Gk.aconstNull X0 hx (hb hby d3_5) ?_
  refine Gk.callI (argsL := [(.ref a2), (.int (0 : Int32)), (.int (1 : Int32)), .null]) X0 hx hZ hown (in4_1 l Z a0 h0 n0 hw a1 a2 kc f c0 u_coder_a1 u_value_a1 w_COMPACT_STRINGS Z0 S_COMPACT_STRINGS S__assertionsDisabled S_HI_BYTE_SHIFT S_LO_BYTE_SHIFT E_a1 V_a hf0 hb0 hcs F_coder_a1 g_a1 F_value_a1) rfl (W hw 14 rfl) (W hw 15 rfl) (W hw 17 rfl) rfl (by decide) (W hw 10 rfl) e0 pd_7 rfl rfl rfl (by rw [hml]; rfl) rfl (hb hby d3_6) ?_
  intro T1 L1 v1 X1 hQ1
  obtain ⟨rfl, N1q, K1, sq_⟩ := hQ1
  have N1 := Fr.app (Fr.nil n0) N1q
  show Go p e below (T1.setTop (mkF m 9 _ [])) _
  exact Gk.rV X1 hx hret hns (hb hby d3_9) rfl ⟨rfl, N1, ((Keep.refl h0 [a1]).trans K1 (allS (Or.inl (List.mem_of_getElem? (i := 0) rfl)) all0)), sq_⟩
theorem cu1_2 (hw : HW Z a0) (a1 : Addr) (kc : ClassId) (f : Nat → Value) (c0 c1 : Int32) (Z0 : n0 ≤ h0.size) (S__assertionsDisabled : Stx Z n0 h0 "java/lang/StringUTF16" "$assertionsDisabled" "Z" (.int (1 : Int32))) (S_HI_BYTE_SHIFT : Stx Z n0 h0 "java/lang/StringUTF16" "HI_BYTE_SHIFT" "I" (.int (0 : Int32))) (S_LO_BYTE_SHIFT : Stx Z n0 h0 "java/lang/StringUTF16" "LO_BYTE_SHIFT" "I" (.int (8 : Int32))) (V_a : Arf Z h0 a1 kc .char (2 : Int32) f) (hf0 : f 0 = (.int c0)) (hf1 : f 1 = (.int c1)) (hnot : (255 : Int32) < c0 ∨ (255 : Int32) < c1) (hb0 : 0 ≤ c0.toInt ∧ c0.toInt < 65536) (hb1 : 0 ≤ c1.toInt ∧ c1.toInt < 65536) : Ct l ⟨"java/lang/StringUTF16", "compress", "([CII)[B"⟩ jdk_52_method_16_code 6 (some (.array .byte)) ⟨3, 2, 6, 40⟩ #[(.ref a1), (.int (0 : Int32)), (.int (2 : Int32))] Z h0 (fun v h L => (∃ (b : Addr) (kb : ClassId), v = some (.ref b) ∧ h0.size ≤ b ∧ Arf Z h b kb .byte (4 : Int32) (upd (upd (upd (upd (fun _ => (.int (0 : Int32))) 0 (.int ((c0 >>> ((0 : Int32) &&& 31)).toInt8.toInt32))) 1 (.int ((c0 >>> ((8 : Int32) &&& 31)).toInt8.toInt32))) 2 (.int ((c1 >>> ((0 : Int32) &&& 31)).toInt8.toInt32))) 3 (.int ((c1 >>> ((8 : Int32) &&& 31)).toInt8.toInt32)))) ∧ Fr n0 L ∧ Keep h0 h []) := by
  refine Ct.of "java/lang/StringUTF16" rfl (plainFor_of_name pn_5) #[.val (.ref a1), .val (.int (0 : Int32)), .val (.int (2 : Int32)), .unset, .unset, .unset] rfl rfl ?_
  intro p e s m below meth c s₁ hx hby hml hown hnm hret hns hZ hh X0 e0
  refine Gk.iloadN X0 hx (hb hby d6_0) rfl ?_
  refine Gk.newP X0 hx hZ (W hw 26 rfl) e0 (hb hby d6_1) (by decide) (cap := 2) (by decide) (by decide) (by decide) (by decide) rfl ?_
  intro T1 h1 b1 k1 X1 e1 E1 g1 A1 B1
  have g_b1 : n0 ≤ b1 := Nat.le_trans Z0 (Nat.le_of_eq g1.symm)
  have V_b1 : Arf Z h1 b1 k1 .byte (2 : Int32) (fun _ => (.int (0 : Int32))) := A1
  have lt_b1 := V_b1.lt
  refine Gk.astoreN X1 hx (hb hby d6_3) rfl #[.val (.ref a1), .val (.int (0 : Int32)), .val (.int (2 : Int32)), .val (.ref b1), .unset, .unset] rfl ?_
  refine Gk.aloadN X1 hx (hb hby d6_4) rfl rfl ?_
  refine Gk.iloadN X1 hx (hb hby d6_5) rfl ?_
  refine Gk.aloadN X1 hx (hb hby d6_6) rfl rfl ?_
  refine Gk.iconst X1 hx (hb hby d6_7) (0 : Int32) rfl ?_
  refine Gk.iloadN X1 hx (hb hby d6_8) rfl ?_
  by_cases hc0 : (255 : Int32) < c0
  · skip
    have H3 := (V_a.ext E1)
    have ne4 : a1 ≠ b1 := (Nat.ne_of_lt (Nat.lt_of_lt_of_le V_a.lt (Nat.le_trans (Nat.le_refl _) (Nat.le_of_eq g1.symm))))
    refine Gk.callS (argsL := [(.ref a1), (.int (0 : Int32)), (.ref b1), (.int (0 : Int32)), (.int (2 : Int32))]) X1 hx hZ hown (cu2_0 l Z a0 h1 n0 hw a1 b1 (2 : Int32) kc f c0 k1 (fun _ => (.int (0 : Int32))) (Nat.le_trans Z0 E1.1) H3 V_b1 ne4 hf0 hc0 (by decide)) (W hw 27 rfl) (W hw 28 rfl) (W hw 24 rfl) (W hw 29 rfl) (by decide) e1 pd_3 rfl rfl rfl (by rw [hml]; rfl) rfl (hb hby d6_9) ?_
    intro T2 L2 v2 X2 hQ2
    obtain ⟨rfl, N2q, K2⟩ := hQ2
    have N2 := Fr.app (Fr.nil n0) N2q
    show Go p e below (T2.setTop (mkF m 12 _ [(.int (0 : Int32))])) _
    refine Gk.istore X2 hx (hb hby d6_12) #[.val (.ref a1), .val (.int (0 : Int32)), .val (.int (2 : Int32)), .val (.ref b1), .val (.int (0 : Int32)), .unset] rfl ?_
    refine Gk.iload X2 hx (hb hby d6_14) rfl ?_
    refine Gk.iloadN X2 hx (hb hby d6_16) rfl ?_
    refine Gk.icmpNo X2 hx (hb hby d6_17) (feq (by decide : ¬ ((0 : Int32) = (2 : Int32)))).1 ?_
    refine Gk.aloadN X2 hx (hb hby d6_20) rfl rfl ?_
    refine Gk.iloadN X2 hx (hb hby d6_21) rfl ?_
    refine Gk.iloadN X2 hx (hb hby d6_22) rfl ?_
    have H6 := (H3.keep K2 (ninS ne4 nin0))
    have H7 := ((S__assertionsDisabled.ext E1).keep K2 (allS g_b1 all0))
    have H8 := ((S_HI_BYTE_SHIFT.ext E1).keep K2 (allS g_b1 all0))
    have H9 := ((S_LO_BYTE_SHIFT.ext E1).keep K2 (allS g_b1 all0))
    refine Gk.callS (argsL := [(.ref a1), (.int (0 : Int32)), (.int (2 : Int32))]) X2 hx hZ hown (tb_2 l Z a0 T2.heap n0 hw a1 kc f c0 c1 (Nat.le_trans Z0 (Nat.le_trans E1.1 K2.1)) H7 H8 H9 H6 hf0 hf1) (W hw 78 rfl) (W hw 79 rfl) (W hw 24 rfl) (W hw 80 rfl) (by decide) rfl pd_4 rfl rfl rfl (by rw [hml]; rfl) rfl (hb hby d6_23) ?_
    intro T5 L5 v5 X5 hQ5
    obtain ⟨hv5, N5q, K5, k5_, A5_⟩ := hQ5
    have N5 := Fr.app N2 N5q
    obtain ⟨b5, g5⟩ : ∃ z_, z_ = T2.heap.size := ⟨_, rfl⟩
    rw [← g5] at hv5 A5_
    subst hv5
    have g_b5 : n0 ≤ b5 := Nat.le_trans (Nat.le_trans Z0 (Nat.le_trans E1.1 K2.1)) (Nat.le_of_eq g5.symm)
    have lt_b5 := A5_.lt
    show Go p e below (T5.setTop (mkF m 26 _ [(.ref b5)])) _
    refine Gk.astore X5 hx (hb hby d6_26) rfl #[.val (.ref a1), .val (.int (0 : Int32)), .val (.int (2 : Int32)), .val (.ref b1), .val (.int (0 : Int32)), .val (.ref b5)] rfl ?_
    refine Gk.aload X5 hx (hb hby d6_28) rfl rfl ?_
    refine Gk.iload X5 hx (hb hby d6_30) rfl ?_
    have H11 := (H7.keep K5 all0)
    have H12 := (H8.keep K5 all0)
    have H13 := (H9.keep K5 all0)
    have gr14 := (Nat.le_trans (Nat.le_trans E1.1 K2.1) K5.1)
    refine Gk.callS (argsL := [(.ref b5), (.int (0 : Int32))]) X5 hx hZ hown (gch_0 l Z a0 T5.heap n0 hw b5 k5_ (upd (upd (upd (upd (fun _ => (.int (0 : Int32))) 0 (.int ((c0 >>> ((0 : Int32) &&& 31)).toInt8.toInt32))) 1 (.int ((c0 >>> ((8 : Int32) &&& 31)).toInt8.toInt32))) 2 (.int ((c1 >>> ((0 : Int32) &&& 31)).toInt8.toInt32))) 3 (.int ((c1 >>> ((8 : Int32) &&& 31)).toInt8.toInt32))) (4 : Int32) c0 (Nat.le_trans Z0 gr14) H11 H12 H13 A5_ (by decide) (by decide) rfl rfl hb0) (W hw 94 rfl) (W hw 95 rfl) (W hw 24 rfl) (W hw 96 rfl) (by decide) rfl pd_5 rfl rfl rfl (by rw [hml]; rfl) rfl (hb hby d6_32) ?_
    intro T10 L10 v10 X10 hQ10
    obtain ⟨rfl, N10q, e10⟩ := hQ10
    have N10 := Fr.app N5 N10q
    show Go p e below (T10.setTop (mkF m 35 _ [(.int c0)])) _
    refine Gk.sipush X10 hx (hb hby d6_35) (255 : Int32) rfl ?_
    have hc38 : (255 : Int32) < c0 := hc0
    refine Gk.icmpYes X10 hx (hb hby d6_38) (tlt hc38).2.2.1 54 (by decide) (by decide) ?_
    refine Gk.aload X10 hx (hb hby d6_54) rfl rfl ?_
    exact Gk.rR X10 hx hret rfl rfl rfl hns (hb hby d6_56) e10 ⟨⟨_, _, rfl, (Nat.le_trans (Nat.le_trans E1.1 K2.1) (Nat.le_of_eq g5.symm)), A5_⟩, N10, ((((Keep.refl h0 []).ext E1).trans K2 (allS (Or.inr (Nat.le_trans (Nat.le_refl _) (Nat.le_of_eq g1.symm))) all0)).trans K5 all0)⟩
  · skip
    have hc1 := (hnot.resolve_left hc0)
    have H16 := (V_a.ext E1)
    have ne17 : a1 ≠ b1 := (Nat.ne_of_lt (Nat.lt_of_lt_of_le V_a.lt (Nat.le_trans (Nat.le_refl _) (Nat.le_of_eq g1.symm))))
    refine Gk.callS (argsL := [(.ref a1), (.int (0 : Int32)), (.ref b1), (.int (0 : Int32)), (.int (2 : Int32))]) X1 hx hZ hown (cu2_1 l Z a0 h1 n0 hw a1 b1 (2 : Int32) kc f c0 c1 k1 (fun _ => (.int (0 : Int32))) (Nat.le_trans Z0 E1.1) H16 V_b1 ne17 hf0 hf1 hc0 hc1 (by decide) (by decide) g_b1) (W hw 27 rfl) (W hw 28 rfl) (W hw 24 rfl) (W hw 29 rfl) (by decide) e1 pd_3 rfl rfl rfl (by rw [hml]; rfl) rfl (hb hby d6_9) ?_
    intro T15 L15 v15 X15 hQ15
    obtain ⟨rfl, N15q, K15⟩ := hQ15
    have N15 := Fr.app (Fr.nil n0) N15q
    show Go p e below (T15.setTop (mkF m 12 _ [(.int (1 : Int32))])) _
    refine Gk.istore X15 hx (hb hby d6_12) #[.val (.ref a1), .val (.int (0 : Int32)), .val (.int (2 : Int32)), .val (.ref b1), .val (.int (1 : Int32)), .unset] rfl ?_
    refine Gk.iload X15 hx (hb hby d6_14) rfl ?_
    refine Gk.iloadN X15 hx (hb hby d6_16) rfl ?_
    refine Gk.icmpNo X15 hx (hb hby d6_17) (feq (by decide : ¬ ((1 : Int32) = (2 : Int32)))).1 ?_
    refine Gk.aloadN X15 hx (hb hby d6_20) rfl rfl ?_
    refine Gk.iloadN X15 hx (hb hby d6_21) rfl ?_
    refine Gk.iloadN X15 hx (hb hby d6_22) rfl ?_
    have H19 := (H16.keep K15 (ninS ne17 nin0))
    have H20 := ((S__assertionsDisabled.ext E1).keep K15 (allS g_b1 all0))
    have H21 := ((S_HI_BYTE_SHIFT.ext E1).keep K15 (allS g_b1 all0))
    have H22 := ((S_LO_BYTE_SHIFT.ext E1).keep K15 (allS g_b1 all0))
    refine Gk.callS (argsL := [(.ref a1), (.int (0 : Int32)), (.int (2 : Int32))]) X15 hx hZ hown (tb_2 l Z a0 T15.heap n0 hw a1 kc f c0 c1 (Nat.le_trans Z0 (Nat.le_trans E1.1 K15.1)) H20 H21 H22 H19 hf0 hf1) (W hw 78 rfl) (W hw 79 rfl) (W hw 24 rfl) (W hw 80 rfl) (by decide) rfl pd_4 rfl rfl rfl (by rw [hml]; rfl) rfl (hb hby d6_23) ?_
    intro T18 L18 v18 X18 hQ18
    obtain ⟨hv18, N18q, K18, k18_, A18_⟩ := hQ18
    have N18 := Fr.app N15 N18q
    obtain ⟨b18, g18⟩ : ∃ z_, z_ = T15.heap.size := ⟨_, rfl⟩
    rw [← g18] at hv18 A18_
    subst hv18
    have g_b18 : n0 ≤ b18 := Nat.le_trans (Nat.le_trans Z0 (Nat.le_trans E1.1 K15.1)) (Nat.le_of_eq g18.symm)
    have lt_b18 := A18_.lt
    show Go p e below (T18.setTop (mkF m 26 _ [(.ref b18)])) _
    refine Gk.astore X18 hx (hb hby d6_26) rfl #[.val (.ref a1), .val (.int (0 : Int32)), .val (.int (2 : Int32)), .val (.ref b1), .val (.int (1 : Int32)), .val (.ref b18)] rfl ?_
    refine Gk.aload X18 hx (hb hby d6_28) rfl rfl ?_
    refine Gk.iload X18 hx (hb hby d6_30) rfl ?_
    have H24 := (H20.keep K18 all0)
    have H25 := (H21.keep K18 all0)
    have H26 := (H22.keep K18 all0)
    have gr27 := (Nat.le_trans (Nat.le_trans E1.1 K15.1) K18.1)
    refine Gk.callS (argsL := [(.ref b18), (.int (1 : Int32))]) X18 hx hZ hown (gch_1 l Z a0 T18.heap n0 hw b18 k18_ (upd (upd (upd (upd (fun _ => (.int (0 : Int32))) 0 (.int ((c0 >>> ((0 : Int32) &&& 31)).toInt8.toInt32))) 1 (.int ((c0 >>> ((8 : Int32) &&& 31)).toInt8.toInt32))) 2 (.int ((c1 >>> ((0 : Int32) &&& 31)).toInt8.toInt32))) 3 (.int ((c1 >>> ((8 : Int32) &&& 31)).toInt8.toInt32))) (4 : Int32) c1 (Nat.le_trans Z0 gr27) H24 H25 H26 A18_ (by decide) (by decide) rfl rfl hb1) (W hw 94 rfl) (W hw 95 rfl) (W hw 24 rfl) (W hw 96 rfl) (by decide) rfl pd_5 rfl rfl rfl (by rw [hml]; rfl) rfl (hb hby d6_32) ?_
    intro T23 L23 v23 X23 hQ23
    obtain ⟨rfl, N23q, e23⟩ := hQ23
    have N23 := Fr.app N18 N23q
    show Go p e below (T23.setTop (mkF m 35 _ [(.int c1)])) _
    refine Gk.sipush X23 hx (hb hby d6_35) (255 : Int32) rfl ?_
    have hc38 : (255 : Int32) < c1 := hc1
    refine Gk.icmpYes X23 hx (hb hby d6_38) (tlt hc38).2.2.1 54 (by decide) (by decide) ?_
    refine Gk.aload X23 hx (hb hby d6_54) rfl rfl ?_
    exact Gk.rR X23 hx hret rfl rfl rfl hns (hb hby d6_56) e23 ⟨⟨_, _, rfl, (Nat.le_trans (Nat.le_trans E1.1 K15.1) (Nat.le_of_eq g18.symm)), A18_⟩, N23, ((((Keep.refl h0 []).ext E1).trans K15 (allS (Or.inr (Nat.le_trans (Nat.le_refl _) (Nat.le_of_eq g1.symm))) all0)).trans K18 all0)⟩
theorem cp2_2 (hw : HW Z a0) (a1 a3 : Addr) (kc : ClassId) (f : Nat → Value) (c0 c1 : Int32) (kb : ClassId) (fb : Nat → Value) (Z0 : n0 ≤ h0.size) (V_a : Arf Z h0 a1 kc .char (2 : Int32) f) (V_b : Arf Z h0 a3 kb .byte (2 : Int32) fb) (hne : a1 ≠ a3) (hf0 : f 0 = (.int c0)) (hf1 : f 1 = (.int c1)) (hc0 : ¬ ((255 : Int32) < c0)) (hc1 : ¬ ((255 : Int32) < c1)) (g_a3 : n0 ≤ a3) : Ct l ⟨"java/lang/StringUTF16", "compress", "([CI[BII)I"⟩ jdk_52_method_21_code 7 (some .int) ⟨0, 0, 0, 0⟩ #[(.ref a1), (.int (0 : Int32)), (.ref a3), (.int (0 : Int32)), (.int (2 : Int32))] Z h0 (fun v h L => v = some (.int (2 : Int32)) ∧ Fr n0 L ∧ Keep h0 h [a3] ∧ Arf Z h a3 kb .byte (2 : Int32) (upd (upd fb 0 (.int (c0.toInt8.toInt32))) 1 (.int (c1.toInt8.toInt32)))) := by
  refine Ct.of "java/lang/StringUTF16" rfl (plainFor_of_name pn_5) #[.val (.ref a1), .val (.int (0 : Int32)), .val (.ref a3), .val (.int (0 : Int32)), .val (.int (2 : Int32)), .unset, .unset] rfl rfl ?_
  intro p e s m below meth c s₁ hx hby hml hown hnm hret hns hZ hh X0 e0
  refine Gk.iconst X0 hx (hb hby d7_0) (0 : Int32) rfl ?_
  refine Gk.istore X0 hx (hb hby d7_1) #[.val (.ref a1), .val (.int (0 : Int32)), .val (.ref a3), .val (.int (0 : Int32)), .val (.int (2 : Int32)), .val (.int (0 : Int32)), .unset] rfl ?_
  refine Gk.iload X0 hx (hb hby d7_3) rfl ?_
  refine Gk.iload X0 hx (hb hby d7_5) rfl ?_
  refine Gk.icmpNo X0 hx (hb hby d7_7) (tlt (by decide : (0 : Int32) < (2 : Int32))).2.1 ?_
  refine Gk.aloadN X0 hx (hb hby d7_10) rfl rfl ?_
  refine Gk.iloadN X0 hx (hb hby d7_11) rfl ?_
  refine Gk.caload X0 hx hZ e0 V_a ⟨by decide, by decide⟩ (.int c0) hf0 (hb hby d7_12) ?_
  refine Gk.istore X0 hx (hb hby d7_13) #[.val (.ref a1), .val (.int (0 : Int32)), .val (.ref a3), .val (.int (0 : Int32)), .val (.int (2 : Int32)), .val (.int (0 : Int32)), .val (.int c0)] rfl ?_
  refine Gk.iload X0 hx (hb hby d7_15) rfl ?_
  refine Gk.sipush X0 hx (hb hby d7_17) (255 : Int32) rfl ?_
  have hc20 : ¬ ((255 : Int32) < c0) := hc0
  refine Gk.icmpYes X0 hx (hb hby d7_20) (flt hc20).2.2.2 26 (by decide) (by decide) ?_
  refine Gk.aloadN X0 hx (hb hby d7_26) rfl rfl ?_
  refine Gk.iloadN X0 hx (hb hby d7_27) rfl ?_
  refine Gk.iload X0 hx (hb hby d7_28) rfl ?_
  refine Gk.i2b X0 hx (hb hby d7_30) _ rfl ?_
  refine Gk.bastoreB X0 hx hZ e0 V_b 0 rfl ⟨by decide, by decide⟩ (.int (c0.toInt8.toInt32)) (congrArg Value.int (own_nb _)) (hb hby d7_31) ?_
  intro T2 h2 X2 e2 W2 V2
  have N2 := Fr.snoc X2 (Fr.nil n0) g_a3
  refine Gk.iinc X2 hx (hb hby d7_32) rfl #[.val (.ref a1), .val (.int (1 : Int32)), .val (.ref a3), .val (.int (0 : Int32)), .val (.int (2 : Int32)), .val (.int (0 : Int32)), .val (.int c0)] rfl ?_
  refine Gk.iinc X2 hx (hb hby d7_35) rfl #[.val (.ref a1), .val (.int (1 : Int32)), .val (.ref a3), .val (.int (1 : Int32)), .val (.int (2 : Int32)), .val (.int (0 : Int32)), .val (.int c0)] rfl ?_
  refine Gk.iinc X2 hx (hb hby d7_38) rfl #[.val (.ref a1), .val (.int (1 : Int32)), .val (.ref a3), .val (.int (1 : Int32)), .val (.int (2 : Int32)), .val (.int (1 : Int32)), .val (.int c0)] rfl ?_
  refine Gk.goto X2 hx (hb hby d7_41) 3 (by decide) (by decide) ?_
  refine Gk.iload X2 hx (hb hby d7_3) rfl ?_
  refine Gk.iload X2 hx (hb hby d7_5) rfl ?_
  refine Gk.icmpNo X2 hx (hb hby d7_7) (tlt (by decide : (1 : Int32) < (2 : Int32))).2.1 ?_
  refine Gk.aloadN X2 hx (hb hby d7_10) rfl rfl ?_
  refine Gk.iloadN X2 hx (hb hby d7_11) rfl ?_
  have H4 := (V_a.other W2 hne)
  refine Gk.caload X2 hx hZ e2 H4 ⟨by decide, by decide⟩ (.int c1) hf1 (hb hby d7_12) ?_
  refine Gk.istore X2 hx (hb hby d7_13) #[.val (.ref a1), .val (.int (1 : Int32)), .val (.ref a3), .val (.int (1 : Int32)), .val (.int (2 : Int32)), .val (.int (1 : Int32)), .val (.int c1)] rfl ?_
  refine Gk.iload X2 hx (hb hby d7_15) rfl ?_
  refine Gk.sipush X2 hx (hb hby d7_17) (255 : Int32) rfl ?_
  have hc20_1 : ¬ ((255 : Int32) < c1) := hc1
  refine Gk.icmpYes X2 hx (hb hby d7_20) (flt hc20_1).2.2.2 26 (by decide) (by decide) ?_
  refine Gk.aloadN X2 hx (hb hby d7_26) rfl rfl ?_
  refine Gk.iloadN X2 hx (hb hby d7_27) rfl ?_
  refine Gk.iload X2 hx (hb hby d7_28) rfl ?_
  refine Gk.i2b X2 hx (hb hby d7_30) _ rfl ?_
  refine Gk.bastoreB X2 hx hZ e2 V2 1 rfl ⟨by decide, by decide⟩ (.int (c1.toInt8.toInt32)) (congrArg Value.int (own_nb _)) (hb hby d7_31) ?_
  intro T5 h5 X5 e5 W5 V5
  have N5 := Fr.snoc X5 N2 g_a3
  refine Gk.iinc X5 hx (hb hby d7_32) rfl #[.val (.ref a1), .val (.int (2 : Int32)), .val (.ref a3), .val (.int (1 : Int32)), .val (.int (2 : Int32)), .val (.int (1 : Int32)), .val (.int c1)] rfl ?_
  refine Gk.iinc X5 hx (hb hby d7_35) rfl #[.val (.ref a1), .val (.int (2 : Int32)), .val (.ref a3), .val (.int (2 : Int32)), .val (.int (2 : Int32)), .val (.int (1 : Int32)), .val (.int c1)] rfl ?_
  refine Gk.iinc X5 hx (hb hby d7_38) rfl #[.val (.ref a1), .val (.int (2 : Int32)), .val (.ref a3), .val (.int (2 : Int32)), .val (.int (2 : Int32)), .val (.int (2 : Int32)), .val (.int c1)] rfl ?_
  refine Gk.goto X5 hx (hb hby d7_41) 3 (by decide) (by decide) ?_
  refine Gk.iload X5 hx (hb hby d7_3) rfl ?_
  refine Gk.iload X5 hx (hb hby d7_5) rfl ?_
  refine Gk.icmpYes X5 hx (hb hby d7_7) (flt (by decide : ¬ ((2 : Int32) < (2 : Int32)))).2.1 44 (by decide) (by decide) ?_
  refine Gk.iload X5 hx (hb hby d7_44) rfl ?_
  exact Gk.rI X5 hx hret hns (hb hby d7_46) e5 ⟨rfl, N5, (((Keep.refl h0 [a3]).wr W2 (Or.inl (List.mem_of_getElem? (i := 0) rfl))).wr W5 (Or.inl (List.mem_of_getElem? (i := 0) rfl))), V5⟩
theorem cp1_2 (hw : HW Z a0) (a1 : Addr) (kc : ClassId) (f : Nat → Value) (c0 c1 : Int32) (Z0 : n0 ≤ h0.size) (V_a : Arf Z h0 a1 kc .char (2 : Int32) f) (hf0 : f 0 = (.int c0)) (hf1 : f 1 = (.int c1)) (hc0 : ¬ ((255 : Int32) < c0)) (hc1 : ¬ ((255 : Int32) < c1)) : Ct l ⟨"java/lang/StringUTF16", "compress", "([CII)[B"⟩ jdk_52_method_16_code 6 (some (.array .byte)) ⟨1, 1, 2, 18⟩ #[(.ref a1), (.int (0 : Int32)), (.int (2 : Int32))] Z h0 (fun v h L => v = some (.ref h0.size) ∧ Fr n0 L ∧ Keep h0 h [] ∧ ∃ kb : ClassId, Arf Z h h0.size kb .byte (2 : Int32) (upd (upd (fun _ => (.int (0 : Int32))) 0 (.int (c0.toInt8.toInt32))) 1 (.int (c1.toInt8.toInt32)))) := by
  refine Ct.of "java/lang/StringUTF16" rfl (plainFor_of_name pn_5) #[.val (.ref a1), .val (.int (0 : Int32)), .val (.int (2 : Int32)), .unset, .unset, .unset] rfl rfl ?_
  intro p e s m below meth c s₁ hx hby hml hown hnm hret hns hZ hh X0 e0
  refine Gk.iloadN X0 hx (hb hby d6_0) rfl ?_
  refine Gk.newP X0 hx hZ (W hw 26 rfl) e0 (hb hby d6_1) (by decide) (cap := 2) (by decide) (by decide) (by decide) (by decide) rfl ?_
  intro T1 h1 b1 k1 X1 e1 E1 g1 A1 B1
  have g_b1 : n0 ≤ b1 := Nat.le_trans Z0 (Nat.le_of_eq g1.symm)
  have V_b1 : Arf Z h1 b1 k1 .byte (2 : Int32) (fun _ => (.int (0 : Int32))) := A1
  have lt_b1 := V_b1.lt
  refine Gk.astoreN X1 hx (hb hby d6_3) rfl #[.val (.ref a1), .val (.int (0 : Int32)), .val (.int (2 : Int32)), .val (.ref b1), .unset, .unset] rfl ?_
  refine Gk.aloadN X1 hx (hb hby d6_4) rfl rfl ?_
  refine Gk.iloadN X1 hx (hb hby d6_5) rfl ?_
  refine Gk.aloadN X1 hx (hb hby d6_6) rfl rfl ?_
  refine Gk.iconst X1 hx (hb hby d6_7) (0 : Int32) rfl ?_
  refine Gk.iloadN X1 hx (hb hby d6_8) rfl ?_
  have H3 := (V_a.ext E1)
  have ne4 : a1 ≠ b1 := (Nat.ne_of_lt (Nat.lt_of_lt_of_le V_a.lt (Nat.le_trans (Nat.le_refl _) (Nat.le_of_eq g1.symm))))
  refine Gk.callS (argsL := [(.ref a1), (.int (0 : Int32)), (.ref b1), (.int (0 : Int32)), (.int (2 : Int32))]) X1 hx hZ hown (cp2_2 l Z a0 h1 n0 hw a1 b1 kc f c0 c1 k1 (fun _ => (.int (0 : Int32))) (Nat.le_trans Z0 E1.1) H3 V_b1 ne4 hf0 hf1 hc0 hc1 g_b1) (W hw 27 rfl) (W hw 28 rfl) (W hw 24 rfl) (W hw 29 rfl) (by decide) e1 pd_3 rfl rfl rfl (by rw [hml]; rfl) rfl (hb hby d6_9) ?_
  intro T2 L2 v2 X2 hQ2
  obtain ⟨rfl, N2q, K2, V2_⟩ := hQ2
  have N2 := Fr.app (Fr.nil n0) N2q
  show Go p e below (T2.setTop (mkF m 12 _ [(.int (2 : Int32))])) _
  refine Gk.istore X2 hx (hb hby d6_12) #[.val (.ref a1), .val (.int (0 : Int32)), .val (.int (2 : Int32)), .val (.ref b1), .val (.int (2 : Int32)), .unset] rfl ?_
  refine Gk.iload X2 hx (hb hby d6_14) rfl ?_
  refine Gk.iloadN X2 hx (hb hby d6_16) rfl ?_
  refine Gk.icmpYes X2 hx (hb hby d6_17) (teq (by decide : (2 : Int32) = (2 : Int32))).1 57 (by decide) (by decide) ?_
  refine Gk.aloadN X2 hx (hb hby d6_57) rfl rfl ?_
  exact Gk.rR X2 hx hret rfl rfl rfl hns (hb hby d6_58) rfl ⟨congrArg (fun z_ : Addr => some (Value.ref z_)) (show b1 = h0.size from g1), N2, (((Keep.refl h0 []).ext E1).trans K2 (allS (Or.inr (Nat.le_trans (Nat.le_refl _) (Nat.le_of_eq g1.symm))) all0)), _, (g1 ▸ V2_)⟩
theorem cf0_2 (hw : HW Z a0) (a1 : Addr) (kb : ClassId) (fb : Nat → Value) (Z0 : n0 ≤ h0.size) (V_b : Arf Z h0 a1 kb .byte (2 : Int32) fb) : Ct l ⟨"java/lang/StringUTF16", "coderFromArrayLen", "([BI)B"⟩ jdk_52_method_15_code 2 (some .byte) ⟨0, 0, 0, 0⟩ #[(.ref a1), (.int (2 : Int32))] Z h0 (fun v h L => v = some (.int (0 : Int32)) ∧ Fr n0 L ∧ h = h0) := by
  refine Ct.of "java/lang/StringUTF16" rfl (plainFor_of_name pn_5) #[.val (.ref a1), .val (.int (2 : Int32))] rfl rfl ?_
  intro p e s m below meth c s₁ hx hby hml hown hnm hret hns hZ hh X0 e0
  refine Gk.iloadN X0 hx (hb hby d8_0) rfl ?_
  refine Gk.aloadN X0 hx (hb hby d8_1) rfl rfl ?_
  refine Gk.alen X0 hx hZ e0 V_b (hb hby d8_2) ?_
  refine Gk.isub X0 hx (hb hby d8_3) (0 : Int32) (by decide) ?_
  refine Gk.bipush X0 hx (hb hby d8_4) (31 : Int32) rfl ?_
  refine Gk.iushr X0 hx (hb hby d8_6) (0 : Int32) (by decide) ?_
  refine Gk.i2b X0 hx (hb hby d8_7) (0 : Int32) (by decide) ?_
  exact Gk.rN X0 hx hret (by simp) hns (hb hby d8_8) e0 (0 : Int32) rfl ⟨rfl, (Fr.nil n0), rfl⟩
theorem cf1_2 (hw : HW Z a0) (a1 : Addr) (kb : ClassId) (fb : Nat → Value) (Z0 : n0 ≤ h0.size) (V_b : Arf Z h0 a1 kb .byte (4 : Int32) fb) : Ct l ⟨"java/lang/StringUTF16", "coderFromArrayLen", "([BI)B"⟩ jdk_52_method_15_code 2 (some .byte) ⟨0, 0, 0, 0⟩ #[(.ref a1), (.int (2 : Int32))] Z h0 (fun v h L => v = some (.int (1 : Int32)) ∧ Fr n0 L ∧ h = h0) := by
  refine Ct.of "java/lang/StringUTF16" rfl (plainFor_of_name pn_5) #[.val (.ref a1), .val (.int (2 : Int32))] rfl rfl ?_
  intro p e s m below meth c s₁ hx hby hml hown hnm hret hns hZ hh X0 e0
  refine Gk.iloadN X0 hx (hb hby d8_0) rfl ?_
  refine Gk.aloadN X0 hx (hb hby d8_1) rfl rfl ?_
  refine Gk.alen X0 hx hZ e0 V_b (hb hby d8_2) ?_
  refine Gk.isub X0 hx (hb hby d8_3) (-2 : Int32) (by decide) ?_
  refine Gk.bipush X0 hx (hb hby d8_4) (31 : Int32) rfl ?_
  refine Gk.iushr X0 hx (hb hby d8_6) (1 : Int32) (by decide) ?_
  refine Gk.i2b X0 hx (hb hby d8_7) (1 : Int32) (by decide) ?_
  exact Gk.rN X0 hx hret (by simp) hns (hb hby d8_8) e0 (1 : Int32) rfl ⟨rfl, (Fr.nil n0), rfl⟩
def SQ2 (Z : State) (h : Heap) (a : Addr) (c0 : Int32) (c1 : Int32) : Prop := (Fld Z h a "java/lang/String" "coder" "B" (.int (0 : Int32)) ∧ ∃ (b : Addr) (kb : ClassId), Fld Z h a "java/lang/String" "value" "[B" (.ref b) ∧ Arf Z h b kb .byte (2 : Int32) (upd (upd (fun _ => (.int (0 : Int32))) 0 (.int (c0.toInt8.toInt32))) 1 (.int (c1.toInt8.toInt32))) ∧ ¬ ((255 : Int32) < c0) ∧ ¬ ((255 : Int32) < c1)) ∨ (Fld Z h a "java/lang/String" "coder" "B" (.int (1 : Int32)) ∧ ∃ (b : Addr) (kb : ClassId), Fld Z h a "java/lang/String" "value" "[B" (.ref b) ∧ Arf Z h b kb .byte (4 : Int32) (upd (upd (upd (upd (fun _ => (.int (0 : Int32))) 0 (.int ((c0 >>> ((0 : Int32) &&& 31)).toInt8.toInt32))) 1 (.int ((c0 >>> ((8 : Int32) &&& 31)).toInt8.toInt32))) 2 (.int ((c1 >>> ((0 : Int32) &&& 31)).toInt8.toInt32))) 3 (.int ((c1 >>> ((8 : Int32) &&& 31)).toInt8.toInt32))))
theorem in4_2 (hw : HW Z a0) (a1 a2 : Addr) (kc : ClassId) (f : Nat → Value) (c0 c1 : Int32) (u_coder_a1 u_value_a1 : Value) (w_COMPACT_STRINGS : Int32) (Z0 : n0 ≤ h0.size) (S_COMPACT_STRINGS : Stx Z n0 h0 "java/lang/String" "COMPACT_STRINGS" "Z" (.int w_COMPACT_STRINGS)) (S__assertionsDisabled : Stx Z n0 h0 "java/lang/StringUTF16" "$assertionsDisabled" "Z" (.int (1 : Int32))) (S_HI_BYTE_SHIFT : Stx Z n0 h0 "java/lang/StringUTF16" "HI_BYTE_SHIFT" "I" (.int (0 : Int32))) (S_LO_BYTE_SHIFT : Stx Z n0 h0 "java/lang/StringUTF16" "LO_BYTE_SHIFT" "I" (.int (8 : Int32))) (E_a1 : Exa Z h0 a1 "java/lang/String") (V_a : Arf Z h0 a2 kc .char (2 : Int32) f) (hf0 : f 0 = (.int c0)) (hf1 : f 1 = (.int c1)) (hb0 : 0 ≤ c0.toInt ∧ c0.toInt < 65536) (hb1 : 0 ≤ c1.toInt ∧ c1.toInt < 65536) (hcs : ¬ (w_COMPACT_STRINGS = (0 : Int32))) (F_coder_a1 : Fld Z h0 a1 "java/lang/String" "coder" "B" u_coder_a1) (g_a1 : n0 ≤ a1) (F_value_a1 : Fld Z h0 a1 "java/lang/String" "value" "[B" u_value_a1) : Ct l ⟨"java/lang/String", "<init>", "([CIILjava/lang/Void;)V"⟩ jdk_42_method_149_code 6 none ⟨4, 2, 6, 57⟩ #[(.ref a1), (.ref a2), (.int (0 : Int32)), (.int (2 : Int32)), .null] Z h0 (fun v h L => v = none ∧ Fr n0 L ∧ Keep h0 h [a1] ∧ SQ2 Z h a1 c0 c1) := by
  refine Ct.of "java/lang/String" rfl (plainFor_of_name pn_164) #[.val (.ref a1), .val (.ref a2), .val (.int (0 : Int32)), .val (.int (2 : Int32)), .val .null, .unset] rfl rfl ?_
  intro p e s m below meth c s₁ hx hby hml hown hnm hret hns hZ hh X0 e0
  refine Gk.aloadN X0 hx (hb hby d4_0) rfl rfl ?_
  refine Gk.initO X0 hx hZ hown (W hw 18 rfl) (W hw 19 rfl) (W hw 20 rfl) e0 (by rw [hml]; rfl) (hb hby d4_1) (by decide) (Nat.le_of_ble_eq_true rfl) ?_
  intro T1 X1 e1
  refine Gk.iloadN X1 hx (hb hby d4_4) rfl ?_
  refine Gk.ifYes X1 hx (hb hby d4_5) (feq (by decide : ¬ ((2 : Int32) = (0 : Int32)))).2 27 (by decide) (by decide) ?_
  refine Gk.getS X1 hx hZ hown (host := "") (Or.inl (W hw 21 rfl)) Via.refl e1 S_COMPACT_STRINGS.sta (hb hby d4_27) ?_
  intro T2 X2 e2
  have hc30 : ¬ (w_COMPACT_STRINGS = (0 : Int32)) := hcs
  refine Gk.ifNo X2 hx (hb hby d4_30) (feq hc30).1 ?_
  refine Gk.aloadN X2 hx (hb hby d4_33) rfl rfl ?_
  refine Gk.iloadN X2 hx (hb hby d4_34) rfl ?_
  refine Gk.iloadN X2 hx (hb hby d4_35) rfl ?_
  by_cases hnot : (255 : Int32) < c0 ∨ (255 : Int32) < c1
  · skip
    refine Gk.callS (argsL := [(.ref a2), (.int (0 : Int32)), (.int (2 : Int32))]) X2 hx hZ hown (cu1_2 l Z a0 h0 n0 hw a2 kc f c0 c1 Z0 S__assertionsDisabled S_HI_BYTE_SHIFT S_LO_BYTE_SHIFT V_a hf0 hf1 hnot hb0 hb1) (W hw 22 rfl) (W hw 23 rfl) (W hw 24 rfl) (W hw 25 rfl) (by decide) e2 pd_4 rfl rfl rfl (by rw [hml]; rfl) rfl (hb hby d4_36) ?_
    intro T3 L3 v3 X3 hQ3
    obtain ⟨⟨y3, k3_, rfl, le_y3, A3_⟩, N3q, K3⟩ := hQ3
    have N3 := Fr.app (Fr.nil n0) N3q
    have ne_y3 : y3 ≠ a1 := Nat.ne_of_gt (Nat.lt_of_lt_of_le E_a1.lt le_y3)
    show Go p e below (T3.setTop (mkF m 39 _ [(.ref y3)])) _
    refine Gk.astore X3 hx (hb hby d4_39) rfl #[.val (.ref a1), .val (.ref a2), .val (.int (0 : Int32)), .val (.int (2 : Int32)), .val .null, .val (.ref y3)] rfl ?_
    refine Gk.aloadN X3 hx (hb hby d4_41) rfl rfl ?_
    refine Gk.aload X3 hx (hb hby d4_42) rfl rfl ?_
    refine Gk.iloadN X3 hx (hb hby d4_44) rfl ?_
    refine Gk.callS (argsL := [(.ref y3), (.int (2 : Int32))]) X3 hx hZ hown (cf1_2 l Z a0 T3.heap n0 hw y3 k3_ (upd (upd (upd (upd (fun _ => (.int (0 : Int32))) 0 (.int ((c0 >>> ((0 : Int32) &&& 31)).toInt8.toInt32))) 1 (.int ((c0 >>> ((8 : Int32) &&& 31)).toInt8.toInt32))) 2 (.int ((c1 >>> ((0 : Int32) &&& 31)).toInt8.toInt32))) 3 (.int ((c1 >>> ((8 : Int32) &&& 31)).toInt8.toInt32))) (Nat.le_trans Z0 K3.1) A3_) (W hw 30 rfl) (W hw 31 rfl) (W hw 24 rfl) (W hw 32 rfl) (by decide) rfl pd_6 rfl rfl rfl (by rw [hml]; rfl) rfl (hb hby d4_45) ?_
    intro T4 L4 v4 X4 hQ4
    obtain ⟨rfl, N4q, e4⟩ := hQ4
    have N4 := Fr.app N3 N4q
    show Go p e below (T4.setTop (mkF m 48 _ [(.int (1 : Int32)), (.ref a1)])) _
    have H5 := (E_a1.keep K3)
    have H6 := (F_coder_a1.keep K3 nin0)
    refine Gk.putFN X4 hx hZ hown (W hw 33 rfl) Via.refl e4 H6 H5 (Or.inr ⟨(W hw 34 rfl), rfl, hnm⟩) (W hw 9 rfl) (ty := .byte) (v' := (.int (1 : Int32))) (by decide) rfl rfl (hb hby d4_48) ?_
    intro T7 h7 X7 e7 W7
    have Fw7 := H6.same W7
    have N7 := Fr.snoc X7 N4 g_a1
    refine Gk.aloadN X7 hx (hb hby d4_51) rfl rfl ?_
    refine Gk.aload X7 hx (hb hby d4_52) rfl rfl ?_
    have H8 := (H5.wr W7)
    have H9 := ((F_value_a1.keep K3 nin0).other W7 (Or.inr (slot_ne (Or.inr (W hw 36 rfl)) (Or.inr (W hw 34 rfl)) (by decide) (t := (.array .byte)) (t' := .byte) (by decide) (by decide))))
    refine Gk.putF X7 hx hZ hown (host := "") (Or.inl (W hw 35 rfl)) Via.refl e7 H9 H8 (Or.inr ⟨(W hw 36 rfl), rfl, hnm⟩) (W hw 9 rfl) (ty := (.array .byte)) (by decide) rfl rfl (hb hby d4_54) ?_
    intro T10 h10 X10 e10 W10
    have Fw10 := H9.same W10
    have N10 := Fr.snoc X10 N7 g_a1
    have H11 := (Fw7.other W10 (Or.inr (slot_ne (Or.inr (W hw 34 rfl)) (Or.inr (W hw 36 rfl)) (by decide) (t := .byte) (t' := (.array .byte)) (by decide) (by decide))))
    have H12 := ((A3_.other W7 ne_y3).other W10 ne_y3)
    exact Gk.rV X10 hx hret hns (hb hby d4_57) e10 ⟨rfl, N10, ((((Keep.refl h0 [a1]).trans K3 all0).wr W7 (Or.inl (List.mem_of_getElem? (i := 0) rfl))).wr W10 (Or.inl (List.mem_of_getElem? (i := 0) rfl))), Or.inr ⟨H11, y3, _, Fw10, H12⟩⟩
  · skip
    have hc0 : ¬ ((255 : Int32) < c0) := fun q_ => hnot (Or.inl q_)
    have hc1 : ¬ ((255 : Int32) < c1) := fun q_ => hnot (Or.inr q_)
    refine Gk.callS (argsL := [(.ref a2), (.int (0 : Int32)), (.int (2 : Int32))]) X2 hx hZ hown (cp1_2 l Z a0 h0 n0 hw a2 kc f c0 c1 Z0 V_a hf0 hf1 hc0 hc1) (W hw 22 rfl) (W hw 23 rfl) (W hw 24 rfl) (W hw 25 rfl) (by decide) e2 pd_4 rfl rfl rfl (by rw [hml]; rfl) rfl (hb hby d4_36) ?_
    intro T13 L13 v13 X13 hQ13
    obtain ⟨hv13, N13q, K13, k13_, A13_⟩ := hQ13
    have N13 := Fr.app (Fr.nil n0) N13q
    obtain ⟨b13, g13⟩ : ∃ z_, z_ = h0.size := ⟨_, rfl⟩
    rw [← g13] at hv13 A13_
    subst hv13
    have g_b13 : n0 ≤ b13 := Nat.le_trans Z0 (Nat.le_of_eq g13.symm)
    have lt_b13 := A13_.lt
    show Go p e below (T13.setTop (mkF m 39 _ [(.ref b13)])) _
    refine Gk.astore X13 hx (hb hby d4_39) rfl #[.val (.ref a1), .val (.ref a2), .val (.int (0 : Int32)), .val (.int (2 : Int32)), .val .null, .val (.ref b13)] rfl ?_
    refine Gk.aloadN X13 hx (hb hby d4_41) rfl rfl ?_
    refine Gk.aload X13 hx (hb hby d4_42) rfl rfl ?_
    refine Gk.iloadN X13 hx (hb hby d4_44) rfl ?_
    refine Gk.callS (argsL := [(.ref b13), (.int (2 : Int32))]) X13 hx hZ hown (cf0_2 l Z a0 T13.heap n0 hw b13 k13_ (upd (upd (fun _ => (.int (0 : Int32))) 0 (.int (c0.toInt8.toInt32))) 1 (.int (c1.toInt8.toInt32))) (Nat.le_trans Z0 K13.1) A13_) (W hw 30 rfl) (W hw 31 rfl) (W hw 24 rfl) (W hw 32 rfl) (by decide) rfl pd_6 rfl rfl rfl (by rw [hml]; rfl) rfl (hb hby d4_45) ?_
    intro T14 L14 v14 X14 hQ14
    obtain ⟨rfl, N14q, e14⟩ := hQ14
    have N14 := Fr.app N13 N14q
    show Go p e below (T14.setTop (mkF m 48 _ [(.int (0 : Int32)), (.ref a1)])) _
    have H15 := (E_a1.keep K13)
    have H16 := (F_coder_a1.keep K13 nin0)
    refine Gk.putFN X14 hx hZ hown (W hw 33 rfl) Via.refl e14 H16 H15 (Or.inr ⟨(W hw 34 rfl), rfl, hnm⟩) (W hw 9 rfl) (ty := .byte) (v' := (.int (0 : Int32))) (by decide) rfl rfl (hb hby d4_48) ?_
    intro T17 h17 X17 e17 W17
    have Fw17 := H16.same W17
    have N17 := Fr.snoc X17 N14 g_a1
    refine Gk.aloadN X17 hx (hb hby d4_51) rfl rfl ?_
    refine Gk.aload X17 hx (hb hby d4_52) rfl rfl ?_
    have H18 := (H15.wr W17)
    have H19 := ((F_value_a1.keep K13 nin0).other W17 (Or.inr (slot_ne (Or.inr (W hw 36 rfl)) (Or.inr (W hw 34 rfl)) (by decide) (t := (.array .byte)) (t' := .byte) (by decide) (by decide))))
    refine Gk.putF X17 hx hZ hown (host := "") (Or.inl (W hw 35 rfl)) Via.refl e17 H19 H18 (Or.inr ⟨(W hw 36 rfl), rfl, hnm⟩) (W hw 9 rfl) (ty := (.array .byte)) (by decide) rfl rfl (hb hby d4_54) ?_
    intro T20 h20 X20 e20 W20
    have Fw20 := H19.same W20
    have N20 := Fr.snoc X20 N17 g_a1
    have H21 := (Fw17.other W20 (Or.inr (slot_ne (Or.inr (W hw 34 rfl)) (Or.inr (W hw 36 rfl)) (by decide) (t := .byte) (t' := (.array .byte)) (by decide) (by decide))))
    have ne22 : b13 ≠ a1 := (Nat.ne_of_gt (Nat.lt_of_lt_of_le E_a1.lt (Nat.le_trans (Nat.le_refl _) (Nat.le_of_eq g13.symm))))
    have H23 := ((A13_.other W17 ne22).other W20 ne22)
    exact Gk.rV X20 hx hret hns (hb hby d4_57) e20 ⟨rfl, N20, ((((Keep.refl h0 [a1]).trans K13 all0).wr W17 (Or.inl (List.mem_of_getElem? (i := 0) rfl))).wr W20 (Or.inl (List.mem_of_getElem? (i := 0) rfl))), Or.inl ⟨H21, b13, _, Fw20, H23, hc0, hc1⟩⟩
theorem str_2 (hw : HW Z a0) (a1 a2 : Addr) (kc : ClassId) (f : Nat → Value) (c0 c1 : Int32) (u_coder_a1 u_value_a1 : Value) (w_COMPACT_STRINGS : Int32) (Z0 : n0 ≤ h0.size) (S_COMPACT_STRINGS : Stx Z n0 h0 "java/lang/String" "COMPACT_STRINGS" "Z" (.int w_COMPACT_STRINGS)) (S__assertionsDisabled : Stx Z n0 h0 "java/lang/StringUTF16" "$assertionsDisabled" "Z" (.int (1 : Int32))) (S_HI_BYTE_SHIFT : Stx Z n0 h0 "java/lang/StringUTF16" "HI_BYTE_SHIFT" "I" (.int (0 : Int32))) (S_LO_BYTE_SHIFT : Stx Z n0 h0 "java/lang/StringUTF16" "LO_BYTE_SHIFT" "I" (.int (8 : Int32))) (E_a1 : Exa Z h0 a1 "java/lang/String") (V_a : Arf Z h0 a2 kc .char (2 : Int32) f) (hf0 : f 0 = (.int c0)) (hf1 : f 1 = (.int c1)) (hb0 : 0 ≤ c0.toInt ∧ c0.toInt < 65536) (hb1 : 0 ≤ c1.toInt ∧ c1.toInt < 65536) (hcs : ¬ (w_COMPACT_STRINGS = (0 : Int32))) (F_coder_a1 : Fld Z h0 a1 "java/lang/String" "coder" "B" u_coder_a1) (g_a1 : n0 ≤ a1) (F_value_a1 : Fld Z h0 a1 "java/lang/String" "value" "[B" u_value_a1) : Ct l ⟨"java/lang/String", "<init>", "([C)V"⟩ jdk_42_method_3_code 2 none ⟨5, 2, 6, 74⟩ #[(.ref a1), (.ref a2)] Z h0 (fun v h L => v = none ∧ Fr n0 L ∧ Keep h0 h [a1] ∧ SQ2 Z h a1 c0 c1) := by
  refine Ct.of "java/lang/String" rfl (plainFor_of_name pn_164) #[.val (.ref a1), .val (.ref a2)] rfl rfl ?_
  intro p e s m below meth c s₁ hx hby hml hown hnm hret hns hZ hh X0 e0
  refine Gk.aloadN X0 hx (hb hby d3_0) rfl rfl ?_
  refine Gk.aloadN X0 hx (hb hby d3_1) rfl rfl ?_
  refine Gk.iconst X0 hx (hb hby d3_2) (0 : Int32) rfl ?_
  refine Gk.aloadN X0 hx (hb hby d3_3) rfl rfl ?_
  refine Gk.alen X0 hx hZ e0 V_a (hb hby d3_4) ?_
  refine Gk.aconstNull X0 hx (hb hby d3_5) ?_
  refine Gk.callI (argsL := [(.ref a2), (.int (0 : Int32)), (.int (2 : Int32)), .null]) X0 hx hZ hown (in4_2 l Z a0 h0 n0 hw a1 a2 kc f c0 c1 u_coder_a1 u_value_a1 w_COMPACT_STRINGS Z0 S_COMPACT_STRINGS S__assertionsDisabled S_HI_BYTE_SHIFT S_LO_BYTE_SHIFT E_a1 V_a hf0 hf1 hb0 hb1 hcs F_coder_a1 g_a1 F_value_a1) rfl (W hw 14 rfl) (W hw 15 rfl) (W hw 17 rfl) rfl (by decide) (W hw 10 rfl) e0 pd_7 rfl rfl rfl (by rw [hml]; rfl) rfl (hb hby d3_6) ?_
  intro T1 L1 v1 X1 hQ1
  obtain ⟨rfl, N1q, K1, sq_⟩ := hQ1
  have N1 := Fr.app (Fr.nil n0) N1q
  show Go p e below (T1.setTop (mkF m 9 _ [])) _
  exact Gk.rV X1 hx hret hns (hb hby d3_9) rfl ⟨rfl, N1, ((Keep.refl h0 [a1]).trans K1 (allS (Or.inl (List.mem_of_getElem? (i := 0) rfl)) all0)), sq_⟩
theorem cu1_3 (hw : HW Z a0) (a1 : Addr) (kc : ClassId) (f : Nat → Value) (c0 c1 c2 : Int32) (Z0 : n0 ≤ h0.size) (S__assertionsDisabled : Stx Z n0 h0 "java/lang/StringUTF16" "$assertionsDisabled" "Z" (.int (1 : Int32))) (S_HI_BYTE_SHIFT : Stx Z n0 h0 "java/lang/StringUTF16" "HI_BYTE_SHIFT" "I" (.int (0 : Int32))) (S_LO_BYTE_SHIFT : Stx Z n0 h0 "java/lang/StringUTF16" "LO_BYTE_SHIFT" "I" (.int (8 : Int32))) (V_a : Arf Z h0 a1 kc .char (3 : Int32) f) (hf0 : f 0 = (.int c0)) (hf1 : f 1 = (.int c1)) (hf2 : f 2 = (.int c2)) (hnot : (255 : Int32) < c0 ∨ (255 : Int32) < c1 ∨ (255 : Int32) < c2) (hb0 : 0 ≤ c0.toInt ∧ c0.toInt < 65536) (hb1 : 0 ≤ c1.toInt ∧ c1.toInt < 65536) (hb2 : 0 ≤ c2.toInt ∧ c2.toInt < 65536) : Ct l ⟨"java/lang/StringUTF16", "compress", "([CII)[B"⟩ jdk_52_method_16_code 6 (some (.array .byte)) ⟨3, 2, 9, 40⟩ #[(.ref a1), (.int (0 : Int32)), (.int (3 : Int32))] Z h0 (fun v h L => (∃ (b : Addr) (kb : ClassId), v = some (.ref b) ∧ h0.size ≤ b ∧ Arf Z h b kb .byte (6 : Int32) (upd (upd (upd (upd (upd (upd (fun _ => (.int (0 : Int32))) 0 (.int ((c0 >>> ((0 : Int32) &&& 31)).toInt8.toInt32))) 1 (.int ((c0 >>> ((8 : Int32) &&& 31)).toInt8.toInt32))) 2 (.int ((c1 >>> ((0 : Int32) &&& 31)).toInt8.toInt32))) 3 (.int ((c1 >>> ((8 : Int32) &&& 31)).toInt8.toInt32))) 4 (.int ((c2 >>> ((0 : Int32) &&& 31)).toInt8.toInt32))) 5 (.int ((c2 >>> ((8 : Int32) &&& 31)).toInt8.toInt32)))) ∧ Fr n0 L ∧ Keep h0 h []) := by
  refine Ct.of "java/lang/StringUTF16" rfl (plainFor_of_name pn_5) #[.val (.ref a1), .val (.int (0 : Int32)), .val (.int (3 : Int32)), .unset, .unset, .unset] rfl rfl ?_
  intro p e s m below meth c s₁ hx hby hml hown hnm hret hns hZ hh X0 e0
  refine Gk.iloadN X0 hx (hb hby d6_0) rfl ?_
  refine Gk.newP X0 hx hZ (W hw 26 rfl) e0 (hb hby d6_1) (by decide) (cap := 3) (by decide) (by decide) (by decide) (by decide) rfl ?_
  intro T1 h1 b1 k1 X1 e1 E1 g1 A1 B1
  have g_b1 : n0 ≤ b1 := Nat.le_trans Z0 (Nat.le_of_eq g1.symm)
  have V_b1 : Arf Z h1 b1 k1 .byte (3 : Int32) (fun _ => (.int (0 : Int32))) := A1
  have lt_b1 := V_b1.lt
  refine Gk.astoreN X1 hx (hb hby d6_3) rfl #[.val (.ref a1), .val (.int (0 : Int32)), .val (.int (3 : Int32)), .val (.ref b1), .unset, .unset] rfl ?_
  refine Gk.aloadN X1 hx (hb hby d6_4) rfl rfl ?_
  refine Gk.iloadN X1 hx (hb hby d6_5) rfl ?_
  refine Gk.aloadN X1 hx (hb hby d6_6) rfl rfl ?_
  refine Gk.iconst X1 hx (hb hby d6_7) (0 : Int32) rfl ?_
  refine Gk.iloadN X1 hx (hb hby d6_8) rfl ?_
  by_cases hc0 : (255 : Int32) < c0
  · skip
    have H3 := (V_a.ext E1)
    have ne4 : a1 ≠ b1 := (Nat.ne_of_lt (Nat.lt_of_lt_of_le V_a.lt (Nat.le_trans (Nat.le_refl _) (Nat.le_of_eq g1.symm))))
    refine Gk.callS (argsL := [(.ref a1), (.int (0 : Int32)), (.ref b1), (.int (0 : Int32)), (.int (3 : Int32))]) X1 hx hZ hown (cu2_0 l Z a0 h1 n0 hw a1 b1 (3 : Int32) kc f c0 k1 (fun _ => (.int (0 : Int32))) (Nat.le_trans Z0 E1.1) H3 V_b1 ne4 hf0 hc0 (by decide)) (W hw 27 rfl) (W hw 28 rfl) (W hw 24 rfl) (W hw 29 rfl) (by decide) e1 pd_3 rfl rfl rfl (by rw [hml]; rfl) rfl (hb hby d6_9) ?_
    intro T2 L2 v2 X2 hQ2
    obtain ⟨rfl, N2q, K2⟩ := hQ2
    have N2 := Fr.app (Fr.nil n0) N2q
    show Go p e below (T2.setTop (mkF m 12 _ [(.int (0 : Int32))])) _
    refine Gk.istore X2 hx (hb hby d6_12) #[.val (.ref a1), .val (.int (0 : Int32)), .val (.int (3 : Int32)), .val (.ref b1), .val (.int (0 : Int32)), .unset] rfl ?_
    refine Gk.iload X2 hx (hb hby d6_14) rfl ?_
    refine Gk.iloadN X2 hx (hb hby d6_16) rfl ?_
    refine Gk.icmpNo X2 hx (hb hby d6_17) (feq (by decide : ¬ ((0 : Int32) = (3 : Int32)))).1 ?_
    refine Gk.aloadN X2 hx (hb hby d6_20) rfl rfl ?_
    refine Gk.iloadN X2 hx (hb hby d6_21) rfl ?_
    refine Gk.iloadN X2 hx (hb hby d6_22) rfl ?_
    have H6 := (H3.keep K2 (ninS ne4 nin0))
    have H7 := ((S__assertionsDisabled.ext E1).keep K2 (allS g_b1 all0))
    have H8 := ((S_HI_BYTE_SHIFT.ext E1).keep K2 (allS g_b1 all0))
    have H9 := ((S_LO_BYTE_SHIFT.ext E1).keep K2 (allS g_b1 all0))
    refine Gk.callS (argsL := [(.ref a1), (.int (0 : Int32)), (.int (3 : Int32))]) X2 hx hZ hown (tb_3 l Z a0 T2.heap n0 hw a1 kc f c0 c1 c2 (Nat.le_trans Z0 (Nat.le_trans E1.1 K2.1)) H7 H8 H9 H6 hf0 hf1 hf2) (W hw 78 rfl) (W hw 79 rfl) (W hw 24 rfl) (W hw 80 rfl) (by decide) rfl pd_4 rfl rfl rfl (by rw [hml]; rfl) rfl (hb hby d6_23) ?_
    intro T5 L5 v5 X5 hQ5
    obtain ⟨hv5, N5q, K5, k5_, A5_⟩ := hQ5
    have N5 := Fr.app N2 N5q
    obtain ⟨b5, g5⟩ : ∃ z_, z_ = T2.heap.size := ⟨_, rfl⟩
    rw [← g5] at hv5 A5_
    subst hv5
    have g_b5 : n0 ≤ b5 := Nat.le_trans (Nat.le_trans Z0 (Nat.le_trans E1.1 K2.1)) (Nat.le_of_eq g5.symm)
    have lt_b5 := A5_.lt
    show Go p e below (T5.setTop (mkF m 26 _ [(.ref b5)])) _
    refine Gk.astore X5 hx (hb hby d6_26) rfl #[.val (.ref a1), .val (.int (0 : Int32)), .val (.int (3 : Int32)), .val (.ref b1), .val (.int (0 : Int32)), .val (.ref b5)] rfl ?_
    refine Gk.aload X5 hx (hb hby d6_28) rfl rfl ?_
    refine Gk.iload X5 hx (hb hby d6_30) rfl ?_
    have H11 := (H7.keep K5 all0)
    have H12 := (H8.keep K5 all0)
    have H13 := (H9.keep K5 all0)
    have gr14 := (Nat.le_trans (Nat.le_trans E1.1 K2.1) K5.1)
    refine Gk.callS (argsL := [(.ref b5), (.int (0 : Int32))]) X5 hx hZ hown (gch_0 l Z a0 T5.heap n0 hw b5 k5_ (upd (upd (upd (upd (upd (upd (fun _ => (.int (0 : Int32))) 0 (.int ((c0 >>> ((0 : Int32) &&& 31)).toInt8.toInt32))) 1 (.int ((c0 >>> ((8 : Int32) &&& 31)).toInt8.toInt32))) 2 (.int ((c1 >>> ((0 : Int32) &&& 31)).toInt8.toInt32))) 3 (.int ((c1 >>> ((8 : Int32) &&& 31)).toInt8.toInt32))) 4 (.int ((c2 >>> ((0 : Int32) &&& 31)).toInt8.toInt32))) 5 (.int ((c2 >>> ((8 : Int32) &&& 31)).toInt8.toInt32))) (6 : Int32) c0 (Nat.le_trans Z0 gr14) H11 H12 H13 A5_ (by decide) (by decide) rfl rfl hb0) (W hw 94 rfl) (W hw 95 rfl) (W hw 24 rfl) (W hw 96 rfl) (by decide) rfl pd_5 rfl rfl rfl (by rw [hml]; rfl) rfl (hb hby d6_32) ?_
    intro T10 L10 v10 X10 hQ10
    obtain ⟨rfl, N10q, e10⟩ := hQ10
    have N10 := Fr.app N5 N10q
    show Go p e below (T10.setTop (mkF m 35 _ [(.int c0)])) _
    refine Gk.sipush X10 hx (hb hby d6_35) (255 : Int32) rfl ?_
    have hc38 : (255 : Int32) < c0 := hc0
    refine Gk.icmpYes X10 hx (hb hby d6_38) (tlt hc38).2.2.1 54 (by decide) (by decide) ?_
    refine Gk.aload X10 hx (hb hby d6_54) rfl rfl ?_
    exact Gk.rR X10 hx hret rfl rfl rfl hns (hb hby d6_56) e10 ⟨⟨_, _, rfl, (Nat.le_trans (Nat.le_trans E1.1 K2.1) (Nat.le_of_eq g5.symm)), A5_⟩, N10, ((((Keep.refl h0 []).ext E1).trans K2 (allS (Or.inr (Nat.le_trans (Nat.le_refl _) (Nat.le_of_eq g1.symm))) all0)).trans K5 all0)⟩
  · skip
    by_cases hc1 : (255 : Int32) < c1
    · skip
      have H16 := (V_a.ext E1)
      have ne17 : a1 ≠ b1 := (Nat.ne_of_lt (Nat.lt_of_lt_of_le V_a.lt (Nat.le_trans (Nat.le_refl _) (Nat.le_of_eq g1.symm))))
      refine Gk.callS (argsL := [(.ref a1), (.int (0 : Int32)), (.ref b1), (.int (0 : Int32)), (.int (3 : Int32))]) X1 hx hZ hown (cu2_1 l Z a0 h1 n0 hw a1 b1 (3 : Int32) kc f c0 c1 k1 (fun _ => (.int (0 : Int32))) (Nat.le_trans Z0 E1.1) H16 V_b1 ne17 hf0 hf1 hc0 hc1 (by decide) (by decide) g_b1) (W hw 27 rfl) (W hw 28 rfl) (W hw 24 rfl) (W hw 29 rfl) (by decide) e1 pd_3 rfl rfl rfl (by rw [hml]; rfl) rfl (hb hby d6_9) ?_
      intro T15 L15 v15 X15 hQ15
      obtain ⟨rfl, N15q, K15⟩ := hQ15
      have N15 := Fr.app (Fr.nil n0) N15q
      show Go p e below (T15.setTop (mkF m 12 _ [(.int (1 : Int32))])) _
      refine Gk.istore X15 hx (hb hby d6_12) #[.val (.ref a1), .val (.int (0 : Int32)), .val (.int (3 : Int32)), .val (.ref b1), .val (.int (1 : Int32)), .unset] rfl ?_
      refine Gk.iload X15 hx (hb hby d6_14) rfl ?_
      refine Gk.iloadN X15 hx (hb hby d6_16) rfl ?_
      refine Gk.icmpNo X15 hx (hb hby d6_17) (feq (by decide : ¬ ((1 : Int32) = (3 : Int32)))).1 ?_
      refine Gk.aloadN X15 hx (hb hby d6_20) rfl rfl ?_
      refine Gk.iloadN X15 hx (hb hby d6_21) rfl ?_
      refine Gk.iloadN X15 hx (hb hby d6_22) rfl ?_
      have H19 := (H16.keep K15 (ninS ne17 nin0))
      have H20 := ((S__assertionsDisabled.ext E1).keep K15 (allS g_b1 all0))
      have H21 := ((S_HI_BYTE_SHIFT.ext E1).keep K15 (allS g_b1 all0))
      have H22 := ((S_LO_BYTE_SHIFT.ext E1).keep K15 (allS g_b1 all0))
      refine Gk.callS (argsL := [(.ref a1), (.int (0 : Int32)), (.int (3 : Int32))]) X15 hx hZ hown (tb_3 l Z a0 T15.heap n0 hw a1 kc f c0 c1 c2 (Nat.le_trans Z0 (Nat.le_trans E1.1 K15.1)) H20 H21 H22 H19 hf0 hf1 hf2) (W hw 78 rfl) (W hw 79 rfl) (W hw 24 rfl) (W hw 80 rfl) (by decide) rfl pd_4 rfl rfl rfl (by rw [hml]; rfl) rfl (hb hby d6_23) ?_
      intro T18 L18 v18 X18 hQ18
      obtain ⟨hv18, N18q, K18, k18_, A18_⟩ := hQ18
      have N18 := Fr.app N15 N18q
      obtain ⟨b18, g18⟩ : ∃ z_, z_ = T15.heap.size := ⟨_, rfl⟩
      rw [← g18] at hv18 A18_
      subst hv18
      have g_b18 : n0 ≤ b18 := Nat.le_trans (Nat.le_trans Z0 (Nat.le_trans E1.1 K15.1)) (Nat.le_of_eq g18.symm)
      have lt_b18 := A18_.lt
      show Go p e below (T18.setTop (mkF m 26 _ [(.ref b18)])) _
      refine Gk.astore X18 hx (hb hby d6_26) rfl #[.val (.ref a1), .val (.int (0 : Int32)), .val (.int (3 : Int32)), .val (.ref b1), .val (.int (1 : Int32)), .val (.ref b18)] rfl ?_
      refine Gk.aload X18 hx (hb hby d6_28) rfl rfl ?_
      refine Gk.iload X18 hx (hb hby d6_30) rfl ?_
      have H24 := (H20.keep K18 all0)
      have H25 := (H21.keep K18 all0)
      have H26 := (H22.keep K18 all0)
      have gr27 := (Nat.le_trans (Nat.le_trans E1.1 K15.1) K18.1)
      refine Gk.callS (argsL := [(.ref b18), (.int (1 : Int32))]) X18 hx hZ hown (gch_1 l Z a0 T18.heap n0 hw b18 k18_ (upd (upd (upd (upd (upd (upd (fun _ => (.int (0 : Int32))) 0 (.int ((c0 >>> ((0 : Int32) &&& 31)).toInt8.toInt32))) 1 (.int ((c0 >>> ((8 : Int32) &&& 31)).toInt8.toInt32))) 2 (.int ((c1 >>> ((0 : Int32) &&& 31)).toInt8.toInt32))) 3 (.int ((c1 >>> ((8 : Int32) &&& 31)).toInt8.toInt32))) 4 (.int ((c2 >>> ((0 : Int32) &&& 31)).toInt8.toInt32))) 5 (.int ((c2 >>> ((8 : Int32) &&& 31)).toInt8.toInt32))) (6 : Int32) c1 (Nat.le_trans Z0 gr27) H24 H25 H26 A18_ (by decide) (by decide) rfl rfl hb1) (W hw 94 rfl) (W hw 95 rfl) (W hw 24 rfl) (W hw 96 rfl) (by decide) rfl pd_5 rfl rfl rfl (by rw [hml]; rfl) rfl (hb hby d6_32) ?_
      intro T23 L23 v23 X23 hQ23
      obtain ⟨rfl, N23q, e23⟩ := hQ23
      have N23 := Fr.app N18 N23q
      show Go p e below (T23.setTop (mkF m 35 _ [(.int c1)])) _
      refine Gk.sipush X23 hx (hb hby d6_35) (255 : Int32) rfl ?_
      have hc38 : (255 : Int32) < c1 := hc1
      refine Gk.icmpYes X23 hx (hb hby d6_38) (tlt hc38).2.2.1 54 (by decide) (by decide) ?_
      refine Gk.aload X23 hx (hb hby d6_54) rfl rfl ?_
      exact Gk.rR X23 hx hret rfl rfl rfl hns (hb hby d6_56) e23 ⟨⟨_, _, rfl, (Nat.le_trans (Nat.le_trans E1.1 K15.1) (Nat.le_of_eq g18.symm)), A18_⟩, N23, ((((Keep.refl h0 []).ext E1).trans K15 (allS (Or.inr (Nat.le_trans (Nat.le_refl _) (Nat.le_of_eq g1.symm))) all0)).trans K18 all0)⟩
    · skip
      have hc2 := ((hnot.resolve_left hc0).resolve_left hc1)
      have H29 := (V_a.ext E1)
      have ne30 : a1 ≠ b1 := (Nat.ne_of_lt (Nat.lt_of_lt_of_le V_a.lt (Nat.le_trans (Nat.le_refl _) (Nat.le_of_eq g1.symm))))
      refine Gk.callS (argsL := [(.ref a1), (.int (0 : Int32)), (.ref b1), (.int (0 : Int32)), (.int (3 : Int32))]) X1 hx hZ hown (cu2_2 l Z a0 h1 n0 hw a1 b1 (3 : Int32) kc f c0 c1 c2 k1 (fun _ => (.int (0 : Int32))) (Nat.le_trans Z0 E1.1) H29 V_b1 ne30 hf0 hf1 hf2 hc0 hc1 hc2 (by decide) (by decide) (by decide) g_b1) (W hw 27 rfl) (W hw 28 rfl) (W hw 24 rfl) (W hw 29 rfl) (by decide) e1 pd_3 rfl rfl rfl (by rw [hml]; rfl) rfl (hb hby d6_9) ?_
      intro T28 L28 v28 X28 hQ28
      obtain ⟨rfl, N28q, K28⟩ := hQ28
      have N28 := Fr.app (Fr.nil n0) N28q
      show Go p e below (T28.setTop (mkF m 12 _ [(.int (2 : Int32))])) _
      refine Gk.istore X28 hx (hb hby d6_12) #[.val (.ref a1), .val (.int (0 : Int32)), .val (.int (3 : Int32)), .val (.ref b1), .val (.int (2 : Int32)), .unset] rfl ?_
      refine Gk.iload X28 hx (hb hby d6_14) rfl ?_
      refine Gk.iloadN X28 hx (hb hby d6_16) rfl ?_
      refine Gk.icmpNo X28 hx (hb hby d6_17) (feq (by decide : ¬ ((2 : Int32) = (3 : Int32)))).1 ?_
      refine Gk.aloadN X28 hx (hb hby d6_20) rfl rfl ?_
      refine Gk.iloadN X28 hx (hb hby d6_21) rfl ?_
      refine Gk.iloadN X28 hx (hb hby d6_22) rfl ?_
      have H32 := (H29.keep K28 (ninS ne30 nin0))
      have H33 := ((S__assertionsDisabled.ext E1).keep K28 (allS g_b1 all0))
      have H34 := ((S_HI_BYTE_SHIFT.ext E1).keep K28 (allS g_b1 all0))
      have H35 := ((S_LO_BYTE_SHIFT.ext E1).keep K28 (allS g_b1 all0))
      refine Gk.callS (argsL := [(.ref a1), (.int (0 : Int32)), (.int (3 : Int32))]) X28 hx hZ hown (tb_3 l Z a0 T28.heap n0 hw a1 kc f c0 c1 c2 (Nat.le_trans Z0 (Nat.le_trans E1.1 K28.1)) H33 H34 H35 H32 hf0 hf1 hf2) (W hw 78 rfl) (W hw 79 rfl) (W hw 24 rfl) (W hw 80 rfl) (by decide) rfl pd_4 rfl rfl rfl (by rw [hml]; rfl) rfl (hb hby d6_23) ?_
      intro T31 L31 v31 X31 hQ31
      obtain ⟨hv31, N31q, K31, k31_, A31_⟩ := hQ31
      have N31 := Fr.app N28 N31q
      obtain ⟨b31, g31⟩ : ∃ z_, z_ = T28.heap.size := ⟨_, rfl⟩
      rw [← g31] at hv31 A31_
      subst hv31
      have g_b31 : n0 ≤ b31 := Nat.le_trans (Nat.le_trans Z0 (Nat.le_trans E1.1 K28.1)) (Nat.le_of_eq g31.symm)
      have lt_b31 := A31_.lt
      show Go p e below (T31.setTop (mkF m 26 _ [(.ref b31)])) _
      refine Gk.astore X31 hx (hb hby d6_26) rfl #[.val (.ref a1), .val (.int (0 : Int32)), .val (.int (3 : Int32)), .val (.ref b1), .val (.int (2 : Int32)), .val (.ref b31)] rfl ?_
      refine Gk.aload X31 hx (hb hby d6_28) rfl rfl ?_
      refine Gk.iload X31 hx (hb hby d6_30) rfl ?_
      have H37 := (H33.keep K31 all0)
      have H38 := (H34.keep K31 all0)
      have H39 := (H35.keep K31 all0)
      have gr40 := (Nat.le_trans (Nat.le_trans E1.1 K28.1) K31.1)
      refine Gk.callS (argsL := [(.ref b31), (.int (2 : Int32))]) X31 hx hZ hown (gch_2 l Z a0 T31.heap n0 hw b31 k31_ (upd (upd (upd (upd (upd (upd (fun _ => (.int (0 : Int32))) 0 (.int ((c0 >>> ((0 : Int32) &&& 31)).toInt8.toInt32))) 1 (.int ((c0 >>> ((8 : Int32) &&& 31)).toInt8.toInt32))) 2 (.int ((c1 >>> ((0 : Int32) &&& 31)).toInt8.toInt32))) 3 (.int ((c1 >>> ((8 : Int32) &&& 31)).toInt8.toInt32))) 4 (.int ((c2 >>> ((0 : Int32) &&& 31)).toInt8.toInt32))) 5 (.int ((c2 >>> ((8 : Int32) &&& 31)).toInt8.toInt32))) (6 : Int32) c2 (Nat.le_trans Z0 gr40) H37 H38 H39 A31_ (by decide) (by decide) rfl rfl hb2) (W hw 94 rfl) (W hw 95 rfl) (W hw 24 rfl) (W hw 96 rfl) (by decide) rfl pd_5 rfl rfl rfl (by rw [hml]; rfl) rfl (hb hby d6_32) ?_
      intro T36 L36 v36 X36 hQ36
      obtain ⟨rfl, N36q, e36⟩ := hQ36
      have N36 := Fr.app N31 N36q
      show Go p e below (T36.setTop (mkF m 35 _ [(.int c2)])) _
      refine Gk.sipush X36 hx (hb hby d6_35) (255 : Int32) rfl ?_
      have hc38 : (255 : Int32) < c2 := hc2
      refine Gk.icmpYes X36 hx (hb hby d6_38) (tlt hc38).2.2.1 54 (by decide) (by decide) ?_
      refine Gk.aload X36 hx (hb hby d6_54) rfl rfl ?_
      exact Gk.rR X36 hx hret rfl rfl rfl hns (hb hby d6_56) e36 ⟨⟨_, _, rfl, (Nat.le_trans (Nat.le_trans E1.1 K28.1) (Nat.le_of_eq g31.symm)), A31_⟩, N36, ((((Keep.refl h0 []).ext E1).trans K28 (allS (Or.inr (Nat.le_trans (Nat.le_refl _) (Nat.le_of_eq g1.symm))) all0)).trans K31 all0)⟩
theorem cp2_3 (hw : HW Z a0) (a1 a3 : Addr) (kc : ClassId) (f : Nat → Value) (c0 c1 c2 : Int32) (kb : ClassId) (fb : Nat → Value) (Z0 : n0 ≤ h0.size) (V_a : Arf Z h0 a1 kc .char (3 : Int32) f) (V_b : Arf Z h0 a3 kb .byte (3 : Int32) fb) (hne : a1 ≠ a3) (hf0 : f 0 = (.int c0)) (hf1 : f 1 = (.int c1)) (hf2 : f 2 = (.int c2)) (hc0 : ¬ ((255 : Int32) < c0)) (hc1 : ¬ ((255 : Int32) < c1)) (hc2 : ¬ ((255 : Int32) < c2)) (g_a3 : n0 ≤ a3) : Ct l ⟨"java/lang/StringUTF16", "compress", "([CI[BII)I"⟩ jdk_52_method_21_code 7 (some .int) ⟨0, 0, 0, 0⟩ #[(.ref a1), (.int (0 : Int32)), (.ref a3), (.int (0 : Int32)), (.int (3 : Int32))] Z h0 (fun v h L => v = some (.int (3 : Int32)) ∧ Fr n0 L ∧ Keep h0 h [a3] ∧ Arf Z h a3 kb .byte (3 : Int32) (upd (upd (upd fb 0 (.int (c0.toInt8.toInt32))) 1 (.int (c1.toInt8.toInt32))) 2 (.int (c2.toInt8.toInt32)))) := by
  refine Ct.of "java/lang/StringUTF16" rfl (plainFor_of_name pn_5) #[.val (.ref a1), .val (.int (0 : Int32)), .val (.ref a3), .val (.int (0 : Int32)), .val (.int (3 : Int32)), .unset, .unset] rfl rfl ?_
  intro p e s m below meth c s₁ hx hby hml hown hnm hret hns hZ hh X0 e0
  refine Gk.iconst X0 hx (hb hby d7_0) (0 : Int32) rfl ?_
  refine Gk.istore X0 hx (hb hby d7_1) #[.val (.ref a1), .val (.int (0 : Int32)), .val (.ref a3), .val (.int (0 : Int32)), .val (.int (3 : Int32)), .val (.int (0 : Int32)), .unset] rfl ?_
  refine Gk.iload X0 hx (hb hby d7_3) rfl ?_
  refine Gk.iload X0 hx (hb hby d7_5) rfl ?_
  refine Gk.icmpNo X0 hx (hb hby d7_7) (tlt (by decide : (0 : Int32) < (3 : Int32))).2.1 ?_
  refine Gk.aloadN X0 hx (hb hby d7_10) rfl rfl ?_
  refine Gk.iloadN X0 hx (hb hby d7_11) rfl ?_
  refine Gk.caload X0 hx hZ e0 V_a ⟨by decide, by decide⟩ (.int c0) hf0 (hb hby d7_12) ?_
  refine Gk.istore X0 hx (hb hby d7_13) #[.val (.ref a1), .val (.int (0 : Int32)), .val (.ref a3), .val (.int (0 : Int32)), .val (.int (3 : Int32)), .val (.int (0 : Int32)), .val (.int c0)] rfl ?_
  refine Gk.iload X0 hx (hb hby d7_15) rfl ?_
  refine Gk.sipush X0 hx (hb hby d7_17) (255 : Int32) rfl ?_
  have hc20 : ¬ ((255 : Int32) < c0) := hc0
  refine Gk.icmpYes X0 hx (hb hby d7_20) (flt hc20).2.2.2 26 (by decide) (by decide) ?_
  refine Gk.aloadN X0 hx (hb hby d7_26) rfl rfl ?_
  refine Gk.iloadN X0 hx (hb hby d7_27) rfl ?_
  refine Gk.iload X0 hx (hb hby d7_28) rfl ?_
  refine Gk.i2b X0 hx (hb hby d7_30) _ rfl ?_
  refine Gk.bastoreB X0 hx hZ e0 V_b 0 rfl ⟨by decide, by decide⟩ (.int (c0.toInt8.toInt32)) (congrArg Value.int (own_nb _)) (hb hby d7_31) ?_
  intro T2 h2 X2 e2 W2 V2
  have N2 := Fr.snoc X2 (Fr.nil n0) g_a3
  refine Gk.iinc X2 hx (hb hby d7_32) rfl #[.val (.ref a1), .val (.int (1 : Int32)), .val (.ref a3), .val (.int (0 : Int32)), .val (.int (3 : Int32)), .val (.int (0 : Int32)), .val (.int c0)] rfl ?_
  refine Gk.iinc X2 hx (hb hby d7_35) rfl #[.val (.ref a1), .val (.int (1 : Int32)), .val (.ref a3), .val (.int (1 : Int32)), .val (.int (3 : Int32)), .val (.int (0 : Int32)), .val (.int c0)] rfl ?_
  refine Gk.iinc X2 hx (hb hby d7_38) rfl #[.val (.ref a1), .val (.int (1 : Int32)), .val (.ref a3), .val (.int (1 : Int32)), .val (.int (3 : Int32)), .val (.int (1 : Int32)), .val (.int c0)] rfl ?_
  refine Gk.goto X2 hx (hb hby d7_41) 3 (by decide) (by decide) ?_
  refine Gk.iload X2 hx (hb hby d7_3) rfl ?_
  refine Gk.iload X2 hx (hb hby d7_5) rfl ?_
  refine Gk.icmpNo X2 hx (hb hby d7_7) (tlt (by decide : (1 : Int32) < (3 : Int32))).2.1 ?_
  refine Gk.aloadN X2 hx (hb hby d7_10) rfl rfl ?_
  refine Gk.iloadN X2 hx (hb hby d7_11) rfl ?_
  have H4 := (V_a.other W2 hne)
  refine Gk.caload X2 hx hZ e2 H4 ⟨by decide, by decide⟩ (.int c1) hf1 (hb hby d7_12) ?_
  refine Gk.istore X2 hx (hb hby d7_13) #[.val (.ref a1), .val (.int (1 : Int32)), .val (.ref a3), .val (.int (1 : Int32)), .val (.int (3 : Int32)), .val (.int (1 : Int32)), .val (.int c1)] rfl ?_
  refine Gk.iload X2 hx (hb hby d7_15) rfl ?_
  refine Gk.sipush X2 hx (hb hby d7_17) (255 : Int32) rfl ?_
  have hc20_1 : ¬ ((255 : Int32) < c1) := hc1
  refine Gk.icmpYes X2 hx (hb hby d7_20) (flt hc20_1).2.2.2 26 (by decide) (by decide) ?_
  refine Gk.aloadN X2 hx (hb hby d7_26) rfl rfl ?_
  refine Gk.iloadN X2 hx (hb hby d7_27) rfl ?_
  refine Gk.iload X2 hx (hb hby d7_28) rfl ?_
  refine Gk.i2b X2 hx (hb hby d7_30) _ rfl ?_
  refine Gk.bastoreB X2 hx hZ e2 V2 1 rfl ⟨by decide, by decide⟩ (.int (c1.toInt8.toInt32)) (congrArg Value.int (own_nb _)) (hb hby d7_31) ?_
  intro T5 h5 X5 e5 W5 V5
  have N5 := Fr.snoc X5 N2 g_a3
  refine Gk.iinc X5 hx (hb hby d7_32) rfl #[.val (.ref a1), .val (.int (2 : Int32)), .val (.ref a3), .val (.int (1 : Int32)), .val (.int (3 : Int32)), .val (.int (1 : Int32)), .val (.int c1)] rfl ?_
  refine Gk.iinc X5 hx (hb hby d7_35) rfl #[.val (.ref a1), .val (.int (2 : Int32)), .val (.ref a3), .val (.int (2 : Int32)), .val (.int (3 : Int32)), .val (.int (1 : Int32)), .val (.int c1)] rfl ?_
  refine Gk.iinc X5 hx (hb hby d7_38) rfl #[.val (.ref a1), .val (.int (2 : Int32)), .val (.ref a3), .val (.int (2 : Int32)), .val (.int (3 : Int32)), .val (.int (2 : Int32)), .val (.int c1)] rfl ?_
  refine Gk.goto X5 hx (hb hby d7_41) 3 (by decide) (by decide) ?_
  refine Gk.iload X5 hx (hb hby d7_3) rfl ?_
  refine Gk.iload X5 hx (hb hby d7_5) rfl ?_
  refine Gk.icmpNo X5 hx (hb hby d7_7) (tlt (by decide : (2 : Int32) < (3 : Int32))).2.1 ?_
  refine Gk.aloadN X5 hx (hb hby d7_10) rfl rfl ?_
  refine Gk.iloadN X5 hx (hb hby d7_11) rfl ?_
  have H7 := (H4.other W5 hne)
  refine Gk.caload X5 hx hZ e5 H7 ⟨by decide, by decide⟩ (.int c2) hf2 (hb hby d7_12) ?_
  refine Gk.istore X5 hx (hb hby d7_13) #[.val (.ref a1), .val (.int (2 : Int32)), .val (.ref a3), .val (.int (2 : Int32)), .val (.int (3 : Int32)), .val (.int (2 : Int32)), .val (.int c2)] rfl ?_
  refine Gk.iload X5 hx (hb hby d7_15) rfl ?_
  refine Gk.sipush X5 hx (hb hby d7_17) (255 : Int32) rfl ?_
  have hc20_2 : ¬ ((255 : Int32) < c2) := hc2
  refine Gk.icmpYes X5 hx (hb hby d7_20) (flt hc20_2).2.2.2 26 (by decide) (by decide) ?_
  refine Gk.aloadN X5 hx (hb hby d7_26) rfl rfl ?_
  refine Gk.iloadN X5 hx (hb hby d7_27) rfl ?_
  refine Gk.iload X5 hx (hb hby d7_28) rfl ?_
  refine Gk.i2b X5 hx (hb hby d7_30) _ rfl ?_
  refine Gk.bastoreB X5 hx hZ e5 V5 2 rfl ⟨by decide, by decide⟩ (.int (c2.toInt8.toInt32)) (congrArg Value.int (own_nb _)) (hb hby d7_31) ?_
  intro T8 h8 X8 e8 W8 V8
  have N8 := Fr.snoc X8 N5 g_a3
  refine Gk.iinc X8 hx (hb hby d7_32) rfl #[.val (.ref a1), .val (.int (3 : Int32)), .val (.ref a3), .val (.int (2 : Int32)), .val (.int (3 : Int32)), .val (.int (2 : Int32)), .val (.int c2)] rfl ?_
  refine Gk.iinc X8 hx (hb hby d7_35) rfl #[.val (.ref a1), .val (.int (3 : Int32)), .val (.ref a3), .val (.int (3 : Int32)), .val (.int (3 : Int32)), .val (.int (2 : Int32)), .val (.int c2)] rfl ?_
  refine Gk.iinc X8 hx (hb hby d7_38) rfl #[.val (.ref a1), .val (.int (3 : Int32)), .val (.ref a3), .val (.int (3 : Int32)), .val (.int (3 : Int32)), .val (.int (3 : Int32)), .val (.int c2)] rfl ?_
  refine Gk.goto X8 hx (hb hby d7_41) 3 (by decide) (by decide) ?_
  refine Gk.iload X8 hx (hb hby d7_3) rfl ?_
  refine Gk.iload X8 hx (hb hby d7_5) rfl ?_
  refine Gk.icmpYes X8 hx (hb hby d7_7) (flt (by decide : ¬ ((3 : Int32) < (3 : Int32)))).2.1 44 (by decide) (by decide) ?_
  refine Gk.iload X8 hx (hb hby d7_44) rfl ?_
  exact Gk.rI X8 hx hret hns (hb hby d7_46) e8 ⟨rfl, N8, ((((Keep.refl h0 [a3]).wr W2 (Or.inl (List.mem_of_getElem? (i := 0) rfl))).wr W5 (Or.inl (List.mem_of_getElem? (i := 0) rfl))).wr W8 (Or.inl (List.mem_of_getElem? (i := 0) rfl))), V8⟩
theorem cp1_3 (hw : HW Z a0) (a1 : Addr) (kc : ClassId) (f : Nat → Value) (c0 c1 c2 : Int32) (Z0 : n0 ≤ h0.size) (V_a : Arf Z h0 a1 kc .char (3 : Int32) f) (hf0 : f 0 = (.int c0)) (hf1 : f 1 = (.int c1)) (hf2 : f 2 = (.int c2)) (hc0 : ¬ ((255 : Int32) < c0)) (hc1 : ¬ ((255 : Int32) < c1)) (hc2 : ¬ ((255 : Int32) < c2)) : Ct l ⟨"java/lang/StringUTF16", "compress", "([CII)[B"⟩ jdk_52_method_16_code 6 (some (.array .byte)) ⟨1, 1, 3, 18⟩ #[(.ref a1), (.int (0 : Int32)), (.int (3 : Int32))] Z h0 (fun v h L => v = some (.ref h0.size) ∧ Fr n0 L ∧ Keep h0 h [] ∧ ∃ kb : ClassId, Arf Z h h0.size kb .byte (3 : Int32) (upd (upd (upd (fun _ => (.int (0 : Int32))) 0 (.int (c0.toInt8.toInt32))) 1 (.int (c1.toInt8.toInt32))) 2 (.int (c2.toInt8.toInt32)))) := by
  refine Ct.of "java/lang/StringUTF16" rfl (plainFor_of_name pn_5) #[.val (.ref a1), .val (.int (0 : Int32)), .val (.int (3 : Int32)), .unset, .unset, .unset] rfl rfl ?_
  intro p e s m below meth c s₁ hx hby hml hown hnm hret hns hZ hh X0 e0
  refine Gk.iloadN X0 hx (hb hby d6_0) rfl ?_
  refine Gk.newP X0 hx hZ (W hw 26 rfl) e0 (hb hby d6_1) (by decide) (cap := 3) (by decide) (by decide) (by decide) (by decide) rfl ?_
  intro T1 h1 b1 k1 X1 e1 E1 g1 A1 B1
  have g_b1 : n0 ≤ b1 := Nat.le_trans Z0 (Nat.le_of_eq g1.symm)
  have V_b1 : Arf Z h1 b1 k1 .byte (3 : Int32) (fun _ => (.int (0 : Int32))) := A1
  have lt_b1 := V_b1.lt
  refine Gk.astoreN X1 hx (hb hby d6_3) rfl #[.val (.ref a1), .val (.int (0 : Int32)), .val (.int (3 : Int32)), .val (.ref b1), .unset, .unset] rfl ?_
  refine Gk.aloadN X1 hx (hb hby d6_4) rfl rfl ?_
  refine Gk.iloadN X1 hx (hb hby d6_5) rfl ?_
  refine Gk.aloadN X1 hx (hb hby d6_6) rfl rfl ?_
  refine Gk.iconst X1 hx (hb hby d6_7) (0 : Int32) rfl ?_
  refine Gk.iloadN X1 hx (hb hby d6_8) rfl ?_
  have H3 := (V_a.ext E1)
  have ne4 : a1 ≠ b1 := (Nat.ne_of_lt (Nat.lt_of_lt_of_le V_a.lt (Nat.le_trans (Nat.le_refl _) (Nat.le_of_eq g1.symm))))
  refine Gk.callS (argsL := [(.ref a1), (.int (0 : Int32)), (.ref b1), (.int (0 : Int32)), (.int (3 : Int32))]) X1 hx hZ hown (cp2_3 l Z a0 h1 n0 hw a1 b1 kc f c0 c1 c2 k1 (fun _ => (.int (0 : Int32))) (Nat.le_trans Z0 E1.1) H3 V_b1 ne4 hf0 hf1 hf2 hc0 hc1 hc2 g_b1) (W hw 27 rfl) (W hw 28 rfl) (W hw 24 rfl) (W hw 29 rfl) (by decide) e1 pd_3 rfl rfl rfl (by rw [hml]; rfl) rfl (hb hby d6_9) ?_
  intro T2 L2 v2 X2 hQ2
  obtain ⟨rfl, N2q, K2, V2_⟩ := hQ2
  have N2 := Fr.app (Fr.nil n0) N2q
  show Go p e below (T2.setTop (mkF m 12 _ [(.int (3 : Int32))])) _
  refine Gk.istore X2 hx (hb hby d6_12) #[.val (.ref a1), .val (.int (0 : Int32)), .val (.int (3 : Int32)), .val (.ref b1), .val (.int (3 : Int32)), .unset] rfl ?_
  refine Gk.iload X2 hx (hb hby d6_14) rfl ?_
  refine Gk.iloadN X2 hx (hb hby d6_16) rfl ?_
  refine Gk.icmpYes X2 hx (hb hby d6_17) (teq (by decide : (3 : Int32) = (3 : Int32))).1 57 (by decide) (by decide) ?_
  refine Gk.aloadN X2 hx (hb hby d6_57) rfl rfl ?_
  exact Gk.rR X2 hx hret rfl rfl rfl hns (hb hby d6_58) rfl ⟨congrArg (fun z_ : Addr => some (Value.ref z_)) (show b1 = h0.size from g1), N2, (((Keep.refl h0 []).ext E1).trans K2 (allS (Or.inr (Nat.le_trans (Nat.le_refl _) (Nat.le_of_eq g1.symm))) all0)), _, (g1 ▸ V2_)⟩
theorem cf0_3 (hw : HW Z a0) (a1 : Addr) (kb : ClassId) (fb : Nat → Value) (Z0 : n0 ≤ h0.size) (V_b : Arf Z h0 a1 kb .byte (3 : Int32) fb) : Ct l ⟨"java/lang/StringUTF16", "coderFromArrayLen", "([BI)B"⟩ jdk_52_method_15_code 2 (some .byte) ⟨0, 0, 0, 0⟩ #[(.ref a1), (.int (3 : Int32))] Z h0 (fun v h L => v = some (.int (0 : Int32)) ∧ Fr n0 L ∧ h = h0) := by
  refine Ct.of "java/lang/StringUTF16" rfl (plainFor_of_name pn_5) #[.val (.ref a1), .val (.int (3 : Int32))] rfl rfl ?_
  intro p e s m below meth c s₁ hx hby hml hown hnm hret hns hZ hh X0 e0
  refine Gk.iloadN X0 hx (hb hby d8_0) rfl ?_
  refine Gk.aloadN X0 hx (hb hby d8_1) rfl rfl ?_
  refine Gk.alen X0 hx hZ e0 V_b (hb hby d8_2) ?_
  refine Gk.isub X0 hx (hb hby d8_3) (0 : Int32) (by decide) ?_
  refine Gk.bipush X0 hx (hb hby d8_4) (31 : Int32) rfl ?_
  refine Gk.iushr X0 hx (hb hby d8_6) (0 : Int32) (by decide) ?_
  refine Gk.i2b X0 hx (hb hby d8_7) (0 : Int32) (by decide) ?_
  exact Gk.rN X0 hx hret (by simp) hns (hb hby d8_8) e0 (0 : Int32) rfl ⟨rfl, (Fr.nil n0), rfl⟩
theorem cf1_3 (hw : HW Z a0) (a1 : Addr) (kb : ClassId) (fb : Nat → Value) (Z0 : n0 ≤ h0.size) (V_b : Arf Z h0 a1 kb .byte (6 : Int32) fb) : Ct l ⟨"java/lang/StringUTF16", "coderFromArrayLen", "([BI)B"⟩ jdk_52_method_15_code 2 (some .byte) ⟨0, 0, 0, 0⟩ #[(.ref a1), (.int (3 : Int32))] Z h0 (fun v h L => v = some (.int (1 : Int32)) ∧ Fr n0 L ∧ h = h0) := by
  refine Ct.of "java/lang/StringUTF16" rfl (plainFor_of_name pn_5) #[.val (.ref a1), .val (.int (3 : Int32))] rfl rfl ?_
  intro p e s m below meth c s₁ hx hby hml hown hnm hret hns hZ hh X0 e0
  refine Gk.iloadN X0 hx (hb hby d8_0) rfl ?_
  refine Gk.aloadN X0 hx (hb hby d8_1) rfl rfl ?_
  refine Gk.alen X0 hx hZ e0 V_b (hb hby d8_2) ?_
  refine Gk.isub X0 hx (hb hby d8_3) (-3 : Int32) (by decide) ?_
  refine Gk.bipush X0 hx (hb hby d8_4) (31 : Int32) rfl ?_
  refine Gk.iushr X0 hx (hb hby d8_6) (1 : Int32) (by decide) ?_
  refine Gk.i2b X0 hx (hb hby d8_7) (1 : Int32) (by decide) ?_
  exact Gk.rN X0 hx hret (by simp) hns (hb hby d8_8) e0 (1 : Int32) rfl ⟨rfl, (Fr.nil n0), rfl⟩
def SQ3 (Z : State) (h : Heap) (a : Addr) (c0 : Int32) (c1 : Int32) (c2 : Int32) : Prop := (Fld Z h a "java/lang/String" "coder" "B" (.int (0 : Int32)) ∧ ∃ (b : Addr) (kb : ClassId), Fld Z h a "java/lang/String" "value" "[B" (.ref b) ∧ Arf Z h b kb .byte (3 : Int32) (upd (upd (upd (fun _ => (.int (0 : Int32))) 0 (.int (c0.toInt8.toInt32))) 1 (.int (c1.toInt8.toInt32))) 2 (.int (c2.toInt8.toInt32))) ∧ ¬ ((255 : Int32) < c0) ∧ ¬ ((255 : Int32) < c1) ∧ ¬ ((255 : Int32) < c2)) ∨ (Fld Z h a "java/lang/String" "coder" "B" (.int (1 : Int32)) ∧ ∃ (b : Addr) (kb : ClassId), Fld Z h a "java/lang/String" "value" "[B" (.ref b) ∧ Arf Z h b kb .byte (6 : Int32) (upd (upd (upd (upd (upd (upd (fun _ => (.int (0 : Int32))) 0 (.int ((c0 >>> ((0 : Int32) &&& 31)).toInt8.toInt32))) 1 (.int ((c0 >>> ((8 : Int32) &&& 31)).toInt8.toInt32))) 2 (.int ((c1 >>> ((0 : Int32) &&& 31)).toInt8.toInt32))) 3 (.int ((c1 >>> ((8 : Int32) &&& 31)).toInt8.toInt32))) 4 (.int ((c2 >>> ((0 : Int32) &&& 31)).toInt8.toInt32))) 5 (.int ((c2 >>> ((8 : Int32) &&& 31)).toInt8.toInt32))))
theorem in4_3 (hw : HW Z a0) (a1 a2 : Addr) (kc : ClassId) (f : Nat → Value) (c0 c1 c2 : Int32) (u_coder_a1 u_value_a1 : Value) (w_COMPACT_STRINGS : Int32) (Z0 : n0 ≤ h0.size) (S_COMPACT_STRINGS : Stx Z n0 h0 "java/lang/String" "COMPACT_STRINGS" "Z" (.int w_COMPACT_STRINGS)) (S__assertionsDisabled : Stx Z n0 h0 "java/lang/StringUTF16" "$assertionsDisabled" "Z" (.int (1 : Int32))) (S_HI_BYTE_SHIFT : Stx Z n0 h0 "java/lang/StringUTF16" "HI_BYTE_SHIFT" "I" (.int (0 : Int32))) (S_LO_BYTE_SHIFT : Stx Z n0 h0 "java/lang/StringUTF16" "LO_BYTE_SHIFT" "I" (.int (8 : Int32))) (E_a1 : Exa Z h0 a1 "java/lang/String") (V_a : Arf Z h0 a2 kc .char (3 : Int32) f) (hf0 : f 0 = (.int c0)) (hf1 : f 1 = (.int c1)) (hf2 : f 2 = (.int c2)) (hb0 : 0 ≤ c0.toInt ∧ c0.toInt < 65536) (hb1 : 0 ≤ c1.toInt ∧ c1.toInt < 65536) (hb2 : 0 ≤ c2.toInt ∧ c2.toInt < 65536) (hcs : ¬ (w_COMPACT_STRINGS = (0 : Int32))) (F_coder_a1 : Fld Z h0 a1 "java/lang/String" "coder" "B" u_coder_a1) (g_a1 : n0 ≤ a1) (F_value_a1 : Fld Z h0 a1 "java/lang/String" "value" "[B" u_value_a1) : Ct l ⟨"java/lang/String", "<init>", "([CIILjava/lang/Void;)V"⟩ jdk_42_method_149_code 6 none ⟨4, 2, 9, 57⟩ #[(.ref a1), (.ref a2), (.int (0 : Int32)), (.int (3 : Int32)), .null] Z h0 (fun v h L => v = none ∧ Fr n0 L ∧ Keep h0 h [a1] ∧ SQ3 Z h a1 c0 c1 c2) := by
  refine Ct.of "java/lang/String" rfl (plainFor_of_name pn_164) #[.val (.ref a1), .val (.ref a2), .val (.int (0 : Int32)), .val (.int (3 : Int32)), .val .null, .unset] rfl rfl ?_
  intro p e s m below meth c s₁ hx hby hml hown hnm hret hns hZ hh X0 e0
  refine Gk.aloadN X0 hx (hb hby d4_0) rfl rfl ?_
  refine Gk.initO X0 hx hZ hown (W hw 18 rfl) (W hw 19 rfl) (W hw 20 rfl) e0 (by rw [hml]; rfl) (hb hby d4_1) (by decide) (Nat.le_of_ble_eq_true rfl) ?_
  intro T1 X1 e1
  refine Gk.iloadN X1 hx (hb hby d4_4) rfl ?_
  refine Gk.ifYes X1 hx (hb hby d4_5) (feq (by decide : ¬ ((3 : Int32) = (0 : Int32)))).2 27 (by decide) (by decide) ?_
  refine Gk.getS X1 hx hZ hown (host := "") (Or.inl (W hw 21 rfl)) Via.refl e1 S_COMPACT_STRINGS.sta (hb hby d4_27) ?_
  intro T2 X2 e2
  have hc30 : ¬ (w_COMPACT_STRINGS = (0 : Int32)) := hcs
  refine Gk.ifNo X2 hx (hb hby d4_30) (feq hc30).1 ?_
  refine Gk.aloadN X2 hx (hb hby d4_33) rfl rfl ?_
  refine Gk.iloadN X2 hx (hb hby d4_34) rfl ?_
  refine Gk.iloadN X2 hx (hb hby d4_35) rfl ?_
  by_cases hnot : (255 : Int32) < c0 ∨ (255 : Int32) < c1 ∨ (255 : Int32) < c2
  · skip
    refine Gk.callS (argsL := [(.ref a2), (.int (0 : Int32)), (.int (3 : Int32))]) X2 hx hZ hown (cu1_3 l Z a0 h0 n0 hw a2 kc f c0 c1 c2 Z0 S__assertionsDisabled S_HI_BYTE_SHIFT S_LO_BYTE_SHIFT V_a hf0 hf1 hf2 hnot hb0 hb1 hb2) (W hw 22 rfl) (W hw 23 rfl) (W hw 24 rfl) (W hw 25 rfl) (by decide) e2 pd_4 rfl rfl rfl (by rw [hml]; rfl) rfl (hb hby d4_36) ?_
    intro T3 L3 v3 X3 hQ3
    obtain ⟨⟨y3, k3_, rfl, le_y3, A3_⟩, N3q, K3⟩ := hQ3
    have N3 := Fr.app (Fr.nil n0) N3q
    have ne_y3 : y3 ≠ a1 := Nat.ne_of_gt (Nat.lt_of_lt_of_le E_a1.lt le_y3)
    show Go p e below (T3.setTop (mkF m 39 _ [(.ref y3)])) _
    refine Gk.astore X3 hx (hb hby d4_39) rfl #[.val (.ref a1), .val (.ref a2), .val (.int (0 : Int32)), .val (.int (3 : Int32)), .val .null, .val (.ref y3)] rfl ?_
    refine Gk.aloadN X3 hx (hb hby d4_41) rfl rfl ?_
    refine Gk.aload X3 hx (hb hby d4_42) rfl rfl ?_
    refine Gk.iloadN X3 hx (hb hby d4_44) rfl ?_
    refine Gk.callS (argsL := [(.ref y3), (.int (3 : Int32))]) X3 hx hZ hown (cf1_3 l Z a0 T3.heap n0 hw y3 k3_ (upd (upd (upd (upd (upd (upd (fun _ => (.int (0 : Int32))) 0 (.int ((c0 >>> ((0 : Int32) &&& 31)).toInt8.toInt32))) 1 (.int ((c0 >>> ((8 : Int32) &&& 31)).toInt8.toInt32))) 2 (.int ((c1 >>> ((0 : Int32) &&& 31)).toInt8.toInt32))) 3 (.int ((c1 >>> ((8 : Int32) &&& 31)).toInt8.toInt32))) 4 (.int ((c2 >>> ((0 : Int32) &&& 31)).toInt8.toInt32))) 5 (.int ((c2 >>> ((8 : Int32) &&& 31)).toInt8.toInt32))) (Nat.le_trans Z0 K3.1) A3_) (W hw 30 rfl) (W hw 31 rfl) (W hw 24 rfl) (W hw 32 rfl) (by decide) rfl pd_6 rfl rfl rfl (by rw [hml]; rfl) rfl (hb hby d4_45) ?_
    intro T4 L4 v4 X4 hQ4
    obtain ⟨rfl, N4q, e4⟩ := hQ4
    have N4 := Fr.app N3 N4q
    show Go p e below (T4.setTop (mkF m 48 _ [(.int (1 : Int32)), (.ref a1)])) _
    have H5 := (E_a1.keep K3)
    have H6 := (F_coder_a1.keep K3 nin0)
    refine Gk.putFN X4 hx hZ hown (W hw 33 rfl) Via.refl e4 H6 H5 (Or.inr ⟨(W hw 34 rfl), rfl, hnm⟩) (W hw 9 rfl) (ty := .byte) (v' := (.int (1 : Int32))) (by decide) rfl rfl (hb hby d4_48) ?_
    intro T7 h7 X7 e7 W7
    have Fw7 := H6.same W7
    have N7 := Fr.snoc X7 N4 g_a1
    refine Gk.aloadN X7 hx (hb hby d4_51) rfl rfl ?_
    refine Gk.aload X7 hx (hb hby d4_52) rfl rfl ?_
    have H8 := (H5.wr W7)
    have H9 := ((F_value_a1.keep K3 nin0).other W7 (Or.inr (slot_ne (Or.inr (W hw 36 rfl)) (Or.inr (W hw 34 rfl)) (by decide) (t := (.array .byte)) (t' := .byte) (by decide) (by decide))))
    refine Gk.putF X7 hx hZ hown (host := "") (Or.inl (W hw 35 rfl)) Via.refl e7 H9 H8 (Or.inr ⟨(W hw 36 rfl), rfl, hnm⟩) (W hw 9 rfl) (ty := (.array .byte)) (by decide) rfl rfl (hb hby d4_54) ?_
    intro T10 h10 X10 e10 W10
    have Fw10 := H9.same W10
    have N10 := Fr.snoc X10 N7 g_a1
    have H11 := (Fw7.other W10 (Or.inr (slot_ne (Or.inr (W hw 34 rfl)) (Or.inr (W hw 36 rfl)) (by decide) (t := .byte) (t' := (.array .byte)) (by decide) (by decide))))
    have H12 := ((A3_.other W7 ne_y3).other W10 ne_y3)
    exact Gk.rV X10 hx hret hns (hb hby d4_57) e10 ⟨rfl, N10, ((((Keep.refl h0 [a1]).trans K3 all0).wr W7 (Or.inl (List.mem_of_getElem? (i := 0) rfl))).wr W10 (Or.inl (List.mem_of_getElem? (i := 0) rfl))), Or.inr ⟨H11, y3, _, Fw10, H12⟩⟩
  · skip
    have hc0 : ¬ ((255 : Int32) < c0) := fun q_ => hnot (Or.inl q_)
    have hc1 : ¬ ((255 : Int32) < c1) := fun q_ => hnot (Or.inr (Or.inl q_))
    have hc2 : ¬ ((255 : Int32) < c2) := fun q_ => hnot (Or.inr (Or.inr q_))
    refine Gk.callS (argsL := [(.ref a2), (.int (0 : Int32)), (.int (3 : Int32))]) X2 hx hZ hown (cp1_3 l Z a0 h0 n0 hw a2 kc f c0 c1 c2 Z0 V_a hf0 hf1 hf2 hc0 hc1 hc2) (W hw 22 rfl) (W hw 23 rfl) (W hw 24 rfl) (W hw 25 rfl) (by decide) e2 pd_4 rfl rfl rfl (by rw [hml]; rfl) rfl (hb hby d4_36) ?_
    intro T13 L13 v13 X13 hQ13
    obtain ⟨hv13, N13q, K13, k13_, A13_⟩ := hQ13
    have N13 := Fr.app (Fr.nil n0) N13q
    obtain ⟨b13, g13⟩ : ∃ z_, z_ = h0.size := ⟨_, rfl⟩
    rw [← g13] at hv13 A13_
    subst hv13
    have g_b13 : n0 ≤ b13 := Nat.le_trans Z0 (Nat.le_of_eq g13.symm)
    have lt_b13 := A13_.lt
    show Go p e below (T13.setTop (mkF m 39 _ [(.ref b13)])) _
    refine Gk.astore X13 hx (hb hby d4_39) rfl #[.val (.ref a1), .val (.ref a2), .val (.int (0 : Int32)), .val (.int (3 : Int32)), .val .null, .val (.ref b13)] rfl ?_
    refine Gk.aloadN X13 hx (hb hby d4_41) rfl rfl ?_
    refine Gk.aload X13 hx (hb hby d4_42) rfl rfl ?_
    refine Gk.iloadN X13 hx (hb hby d4_44) rfl ?_
    refine Gk.callS (argsL := [(.ref b13), (.int (3 : Int32))]) X13 hx hZ hown (cf0_3 l Z a0 T13.heap n0 hw b13 k13_ (upd (upd (upd (fun _ => (.int (0 : Int32))) 0 (.int (c0.toInt8.toInt32))) 1 (.int (c1.toInt8.toInt32))) 2 (.int (c2.toInt8.toInt32))) (Nat.le_trans Z0 K13.1) A13_) (W hw 30 rfl) (W hw 31 rfl) (W hw 24 rfl) (W hw 32 rfl) (by decide) rfl pd_6 rfl rfl rfl (by rw [hml]; rfl) rfl (hb hby d4_45) ?_
    intro T14 L14 v14 X14 hQ14
    obtain ⟨rfl, N14q, e14⟩ := hQ14
    have N14 := Fr.app N13 N14q
    show Go p e below (T14.setTop (mkF m 48 _ [(.int (0 : Int32)), (.ref a1)])) _
    have H15 := (E_a1.keep K13)
    have H16 := (F_coder_a1.keep K13 nin0)
    refine Gk.putFN X14 hx hZ hown (W hw 33 rfl) Via.refl e14 H16 H15 (Or.inr ⟨(W hw 34 rfl), rfl, hnm⟩) (W hw 9 rfl) (ty := .byte) (v' := (.int (0 : Int32))) (by decide) rfl rfl (hb hby d4_48) ?_
    intro T17 h17 X17 e17 W17
    have Fw17 := H16.same W17
    have N17 := Fr.snoc X17 N14 g_a1
    refine Gk.aloadN X17 hx (hb hby d4_51) rfl rfl ?_
    refine Gk.aload X17 hx (hb hby d4_52) rfl rfl ?_
    have H18 := (H15.wr W17)
    have H19 := ((F_value_a1.keep K13 nin0).other W17 (Or.inr (slot_ne (Or.inr (W hw 36 rfl)) (Or.inr (W hw 34 rfl)) (by decide) (t := (.array .byte)) (t' := .byte) (by decide) (by decide))))
    refine Gk.putF X17 hx hZ hown (host := "") (Or.inl (W hw 35 rfl)) Via.refl e17 H19 H18 (Or.inr ⟨(W hw 36 rfl), rfl, hnm⟩) (W hw 9 rfl) (ty := (.array .byte)) (by decide) rfl rfl (hb hby d4_54) ?_
    intro T20 h20 X20 e20 W20
    have Fw20 := H19.same W20
    have N20 := Fr.snoc X20 N17 g_a1
    have H21 := (Fw17.other W20 (Or.inr (slot_ne (Or.inr (W hw 34 rfl)) (Or.inr (W hw 36 rfl)) (by decide) (t := .byte) (t' := (.array .byte)) (by decide) (by decide))))
    have ne22 : b13 ≠ a1 := (Nat.ne_of_gt (Nat.lt_of_lt_of_le E_a1.lt (Nat.le_trans (Nat.le_refl _) (Nat.le_of_eq g13.symm))))
    have H23 := ((A13_.other W17 ne22).other W20 ne22)
    exact Gk.rV X20 hx hret hns (hb hby d4_57) e20 ⟨rfl, N20, ((((Keep.refl h0 [a1]).trans K13 all0).wr W17 (Or.inl (List.mem_of_getElem? (i := 0) rfl))).wr W20 (Or.inl (List.mem_of_getElem? (i := 0) rfl))), Or.inl ⟨H21, b13, _, Fw20, H23, hc0, hc1, hc2⟩⟩
theorem str_3 (hw : HW Z a0) (a1 a2 : Addr) (kc : ClassId) (f : Nat → Value) (c0 c1 c2 : Int32) (u_coder_a1 u_value_a1 : Value) (w_COMPACT_STRINGS : Int32) (Z0 : n0 ≤ h0.size) (S_COMPACT_STRINGS : Stx Z n0 h0 "java/lang/String" "COMPACT_STRINGS" "Z" (.int w_COMPACT_STRINGS)) (S__assertionsDisabled : Stx Z n0 h0 "java/lang/StringUTF16" "$assertionsDisabled" "Z" (.int (1 : Int32))) (S_HI_BYTE_SHIFT : Stx Z n0 h0 "java/lang/StringUTF16" "HI_BYTE_SHIFT" "I" (.int (0 : Int32))) (S_LO_BYTE_SHIFT : Stx Z n0 h0 "java/lang/StringUTF16" "LO_BYTE_SHIFT" "I" (.int (8 : Int32))) (E_a1 : Exa Z h0 a1 "java/lang/String") (V_a : Arf Z h0 a2 kc .char (3 : Int32) f) (hf0 : f 0 = (.int c0)) (hf1 : f 1 = (.int c1)) (hf2 : f 2 = (.int c2)) (hb0 : 0 ≤ c0.toInt ∧ c0.toInt < 65536) (hb1 : 0 ≤ c1.toInt ∧ c1.toInt < 65536) (hb2 : 0 ≤ c2.toInt ∧ c2.toInt < 65536) (hcs : ¬ (w_COMPACT_STRINGS = (0 : Int32))) (F_coder_a1 : Fld Z h0 a1 "java/lang/String" "coder" "B" u_coder_a1) (g_a1 : n0 ≤ a1) (F_value_a1 : Fld Z h0 a1 "java/lang/String" "value" "[B" u_value_a1) : Ct l ⟨"java/lang/String", "<init>", "([C)V"⟩ jdk_42_method_3_code 2 none ⟨5, 2, 9, 74⟩ #[(.ref a1), (.ref a2)] Z h0 (fun v h L => v = none ∧ Fr n0 L ∧ Keep h0 h [a1] ∧ SQ3 Z h a1 c0 c1 c2) := by
  refine Ct.of "java/lang/String" rfl (plainFor_of_name pn_164) #[.val (.ref a1), .val (.ref a2)] rfl rfl ?_
  intro p e s m below meth c s₁ hx hby hml hown hnm hret hns hZ hh X0 e0
  refine Gk.aloadN X0 hx (hb hby d3_0) rfl rfl ?_
  refine Gk.aloadN X0 hx (hb hby d3_1) rfl rfl ?_
  refine Gk.iconst X0 hx (hb hby d3_2) (0 : Int32) rfl ?_
  refine Gk.aloadN X0 hx (hb hby d3_3) rfl rfl ?_
  refine Gk.alen X0 hx hZ e0 V_a (hb hby d3_4) ?_
  refine Gk.aconstNull X0 hx (hb hby d3_5) ?_
  refine Gk.callI (argsL := [(.ref a2), (.int (0 : Int32)), (.int (3 : Int32)), .null]) X0 hx hZ hown (in4_3 l Z a0 h0 n0 hw a1 a2 kc f c0 c1 c2 u_coder_a1 u_value_a1 w_COMPACT_STRINGS Z0 S_COMPACT_STRINGS S__assertionsDisabled S_HI_BYTE_SHIFT S_LO_BYTE_SHIFT E_a1 V_a hf0 hf1 hf2 hb0 hb1 hb2 hcs F_coder_a1 g_a1 F_value_a1) rfl (W hw 14 rfl) (W hw 15 rfl) (W hw 17 rfl) rfl (by decide) (W hw 10 rfl) e0 pd_7 rfl rfl rfl (by rw [hml]; rfl) rfl (hb hby d3_6) ?_
  intro T1 L1 v1 X1 hQ1
  obtain ⟨rfl, N1q, K1, sq_⟩ := hQ1
  have N1 := Fr.app (Fr.nil n0) N1q
  show Go p e below (T1.setTop (mkF m 9 _ [])) _
  exact Gk.rV X1 hx hret hns (hb hby d3_9) rfl ⟨rfl, N1, ((Keep.refl h0 [a1]).trans K1 (allS (Or.inl (List.mem_of_getElem? (i := 0) rfl)) all0)), sq_⟩
theorem cu1_4 (hw : HW Z a0) (a1 : Addr) (kc : ClassId) (f : Nat → Value) (c0 c1 c2 c3 : Int32) (Z0 : n0 ≤ h0.size) (S__assertionsDisabled : Stx Z n0 h0 "java/lang/StringUTF16" "$assertionsDisabled" "Z" (.int (1 : Int32))) (S_HI_BYTE_SHIFT : Stx Z n0 h0 "java/lang/StringUTF16" "HI_BYTE_SHIFT" "I" (.int (0 : Int32))) (S_LO_BYTE_SHIFT : Stx Z n0 h0 "java/lang/StringUTF16" "LO_BYTE_SHIFT" "I" (.int (8 : Int32))) (V_a : Arf Z h0 a1 kc .char (4 : Int32) f) (hf0 : f 0 = (.int c0)) (hf1 : f 1 = (.int c1)) (hf2 : f 2 = (.int c2)) (hf3 : f 3 = (.int c3)) (hnot : (255 : Int32) < c0 ∨ (255 : Int32) < c1 ∨ (255 : Int32) < c2 ∨ (255 : Int32) < c3) (hb0 : 0 ≤ c0.toInt ∧ c0.toInt < 65536) (hb1 : 0 ≤ c1.toInt ∧ c1.toInt < 65536) (hb2 : 0 ≤ c2.toInt ∧ c2.toInt < 65536) (hb3 : 0 ≤ c3.toInt ∧ c3.toInt < 65536) : Ct l ⟨"java/lang/StringUTF16", "compress", "([CII)[B"⟩ jdk_52_method_16_code 6 (some (.array .byte)) ⟨3, 2, 12, 40⟩ #[(.ref a1), (.int (0 : Int32)), (.int (4 : Int32))] Z h0 (fun v h L => (∃ (b : Addr) (kb : ClassId), v = some (.ref b) ∧ h0.size ≤ b ∧ Arf Z h b kb .byte (8 : Int32) (upd (upd (upd (upd (upd (upd (upd (upd (fun _ => (.int (0 : Int32))) 0 (.int ((c0 >>> ((0 : Int32) &&& 31)).toInt8.toInt32))) 1 (.int ((c0 >>> ((8 : Int32) &&& 31)).toInt8.toInt32))) 2 (.int ((c1 >>> ((0 : Int32) &&& 31)).toInt8.toInt32))) 3 (.int ((c1 >>> ((8 : Int32) &&& 31)).toInt8.toInt32))) 4 (.int ((c2 >>> ((0 : Int32) &&& 31)).toInt8.toInt32))) 5 (.int ((c2 >>> ((8 : Int32) &&& 31)).toInt8.toInt32))) 6 (.int ((c3 >>> ((0 : Int32) &&& 31)).toInt8.toInt32))) 7 (.int ((c3 >>> ((8 : Int32) &&& 31)).toInt8.toInt32)))) ∧ Fr n0 L ∧ Keep h0 h []) := by
  refine Ct.of "java/lang/StringUTF16" rfl (plainFor_of_name pn_5) #[.val (.ref a1), .val (.int (0 : Int32)), .val (.int (4 : Int32)), .unset, .unset, .unset] rfl rfl ?_
  intro p e s m below meth c s₁ hx hby hml hown hnm hret hns hZ hh X0 e0
  refine Gk.iloadN X0 hx (hb hby d6_0) rfl ?_
  refine Gk.newP X0 hx hZ (W hw 26 rfl) e0 (hb hby d6_1) (by decide) (cap := 4) (by decide) (by decide) (by decide) (by decide) rfl ?_
  intro T1 h1 b1 k1 X1 e1 E1 g1 A1 B1
  have g_b1 : n0 ≤ b1 := Nat.le_trans Z0 (Nat.le_of_eq g1.symm)
  have V_b1 : Arf Z h1 b1 k1 .byte (4 : Int32) (fun _ => (.int (0 : Int32))) := A1
  have lt_b1 := V_b1.lt
  refine Gk.astoreN X1 hx (hb hby d6_3) rfl #[.val (.ref a1), .val (.int (0 : Int32)), .val (.int (4 : Int32)), .val (.ref b1), .unset, .unset] rfl ?_
  refine Gk.aloadN X1 hx (hb hby d6_4) rfl rfl ?_
  refine Gk.iloadN X1 hx (hb hby d6_5) rfl ?_
  refine Gk.aloadN X1 hx (hb hby d6_6) rfl rfl ?_
  refine Gk.iconst X1 hx (hb hby d6_7) (0 : Int32) rfl ?_
  refine Gk.iloadN X1 hx (hb hby d6_8) rfl ?_
  by_cases hc0 : (255 : Int32) < c0
  · skip
    have H3 := (V_a.ext E1)
    have ne4 : a1 ≠ b1 := (Nat.ne_of_lt (Nat.lt_of_lt_of_le V_a.lt (Nat.le_trans (Nat.le_refl _) (Nat.le_of_eq g1.symm))))
    refine Gk.callS (argsL := [(.ref a1), (.int (0 : Int32)), (.ref b1), (.int (0 : Int32)), (.int (4 : Int32))]) X1 hx hZ hown (cu2_0 l Z a0 h1 n0 hw a1 b1 (4 : Int32) kc f c0 k1 (fun _ => (.int (0 : Int32))) (Nat.le_trans Z0 E1.1) H3 V_b1 ne4 hf0 hc0 (by decide)) (W hw 27 rfl) (W hw 28 rfl) (W hw 24 rfl) (W hw 29 rfl) (by decide) e1 pd_3 rfl rfl rfl (by rw [hml]; rfl) rfl (hb hby d6_9) ?_
    intro T2 L2 v2 X2 hQ2
    obtain ⟨rfl, N2q, K2⟩ := hQ2
    have N2 := Fr.app (Fr.nil n0) N2q
    show Go p e below (T2.setTop (mkF m 12 _ [(.int (0 : Int32))])) _
    refine Gk.istore X2 hx (hb hby d6_12) #[.val (.ref a1), .val (.int (0 : Int32)), .val (.int (4 : Int32)), .val (.ref b1), .val (.int (0 : Int32)), .unset] rfl ?_
    refine Gk.iload X2 hx (hb hby d6_14) rfl ?_
    refine Gk.iloadN X2 hx (hb hby d6_16) rfl ?_
    refine Gk.icmpNo X2 hx (hb hby d6_17) (feq (by decide : ¬ ((0 : Int32) = (4 : Int32)))).1 ?_
    refine Gk.aloadN X2 hx (hb hby d6_20) rfl rfl ?_
    refine Gk.iloadN X2 hx (hb hby d6_21) rfl ?_
    refine Gk.iloadN X2 hx (hb hby d6_22) rfl ?_
    have H6 := (H3.keep K2 (ninS ne4 nin0))
    have H7 := ((S__assertionsDisabled.ext E1).keep K2 (allS g_b1 all0))
    have H8 := ((S_HI_BYTE_SHIFT.ext E1).keep K2 (allS g_b1 all0))
    have H9 := ((S_LO_BYTE_SHIFT.ext E1).keep K2 (allS g_b1 all0))
    refine Gk.callS (argsL := [(.ref a1), (.int (0 : Int32)), (.int (4 : Int32))]) X2 hx hZ hown (tb_4 l Z a0 T2.heap n0 hw a1 kc f c0 c1 c2 c3 (Nat.le_trans Z0 (Nat.le_trans E1.1 K2.1)) H7 H8 H9 H6 hf0 hf1 hf2 hf3) (W hw 78 rfl) (W hw 79 rfl) (W hw 24 rfl) (W hw 80 rfl) (by decide) rfl pd_4 rfl rfl rfl (by rw [hml]; rfl) rfl (hb hby d6_23) ?_
    intro T5 L5 v5 X5 hQ5
    obtain ⟨hv5, N5q, K5, k5_, A5_⟩ := hQ5
    have N5 := Fr.app N2 N5q
    obtain ⟨b5, g5⟩ : ∃ z_, z_ = T2.heap.size := ⟨_, rfl⟩
    rw [← g5] at hv5 A5_
    subst hv5
    have g_b5 : n0 ≤ b5 := Nat.le_trans (Nat.le_trans Z0 (Nat.le_trans E1.1 K2.1)) (Nat.le_of_eq g5.symm)
    have lt_b5 := A5_.lt
    show Go p e below (T5.setTop (mkF m 26 _ [(.ref b5)])) _
    refine Gk.astore X5 hx (hb hby d6_26) rfl #[.val (.ref a1), .val (.int (0 : Int32)), .val (.int (4 : Int32)), .val (.ref b1), .val (.int (0 : Int32)), .val (.ref b5)] rfl ?_
    refine Gk.aload X5 hx (hb hby d6_28) rfl rfl ?_
    refine Gk.iload X5 hx (hb hby d6_30) rfl ?_
    have H11 := (H7.keep K5 all0)
    have H12 := (H8.keep K5 all0)
    have H13 := (H9.keep K5 all0)
    have gr14 := (Nat.le_trans (Nat.le_trans E1.1 K2.1) K5.1)
    refine Gk.callS (argsL := [(.ref b5), (.int (0 : Int32))]) X5 hx hZ hown (gch_0 l Z a0 T5.heap n0 hw b5 k5_ (upd (upd (upd (upd (upd (upd (upd (upd (fun _ => (.int (0 : Int32))) 0 (.int ((c0 >>> ((0 : Int32) &&& 31)).toInt8.toInt32))) 1 (.int ((c0 >>> ((8 : Int32) &&& 31)).toInt8.toInt32))) 2 (.int ((c1 >>> ((0 : Int32) &&& 31)).toInt8.toInt32))) 3 (.int ((c1 >>> ((8 : Int32) &&& 31)).toInt8.toInt32))) 4 (.int ((c2 >>> ((0 : Int32) &&& 31)).toInt8.toInt32))) 5 (.int ((c2 >>> ((8 : Int32) &&& 31)).toInt8.toInt32))) 6 (.int ((c3 >>> ((0 : Int32) &&& 31)).toInt8.toInt32))) 7 (.int ((c3 >>> ((8 : Int32) &&& 31)).toInt8.toInt32))) (8 : Int32) c0 (Nat.le_trans Z0 gr14) H11 H12 H13 A5_ (by decide) (by decide) rfl rfl hb0) (W hw 94 rfl) (W hw 95 rfl) (W hw 24 rfl) (W hw 96 rfl) (by decide) rfl pd_5 rfl rfl rfl (by rw [hml]; rfl) rfl (hb hby d6_32) ?_
    intro T10 L10 v10 X10 hQ10
    obtain ⟨rfl, N10q, e10⟩ := hQ10
    have N10 := Fr.app N5 N10q
    show Go p e below (T10.setTop (mkF m 35 _ [(.int c0)])) _
    refine Gk.sipush X10 hx (hb hby d6_35) (255 : Int32) rfl ?_
    have hc38 : (255 : Int32) < c0 := hc0
    refine Gk.icmpYes X10 hx (hb hby d6_38) (tlt hc38).2.2.1 54 (by decide) (by decide) ?_
    refine Gk.aload X10 hx (hb hby d6_54) rfl rfl ?_
    exact Gk.rR X10 hx hret rfl rfl rfl hns (hb hby d6_56) e10 ⟨⟨_, _, rfl, (Nat.le_trans (Nat.le_trans E1.1 K2.1) (Nat.le_of_eq g5.symm)), A5_⟩, N10, ((((Keep.refl h0 []).ext E1).trans K2 (allS (Or.inr (Nat.le_trans (Nat.le_refl _) (Nat.le_of_eq g1.symm))) all0)).trans K5 all0)⟩
  · skip
    by_cases hc1 : (255 : Int32) < c1
    · skip
      have H16 := (V_a.ext E1)
      have ne17 : a1 ≠ b1 := (Nat.ne_of_lt (Nat.lt_of_lt_of_le V_a.lt (Nat.le_trans (Nat.le_refl _) (Nat.le_of_eq g1.symm))))
      refine Gk.callS (argsL := [(.ref a1), (.int (0 : Int32)), (.ref b1), (.int (0 : Int32)), (.int (4 : Int32))]) X1 hx hZ hown (cu2_1 l Z a0 h1 n0 hw a1 b1 (4 : Int32) kc f c0 c1 k1 (fun _ => (.int (0 : Int32))) (Nat.le_trans Z0 E1.1) H16 V_b1 ne17 hf0 hf1 hc0 hc1 (by decide) (by decide) g_b1) (W hw 27 rfl) (W hw 28 rfl) (W hw 24 rfl) (W hw 29 rfl) (by decide) e1 pd_3 rfl rfl rfl (by rw [hml]; rfl) rfl (hb hby d6_9) ?_
      intro T15 L15 v15 X15 hQ15
      obtain ⟨rfl, N15q, K15⟩ := hQ15
      have N15 := Fr.app (Fr.nil n0) N15q
      show Go p e below (T15.setTop (mkF m 12 _ [(.int (1 : Int32))])) _
      refine Gk.istore X15 hx (hb hby d6_12) #[.val (.ref a1), .val (.int (0 : Int32)), .val (.int (4 : Int32)), .val (.ref b1), .val (.int (1 : Int32)), .unset] rfl ?_
      refine Gk.iload X15 hx (hb hby d6_14) rfl ?_
      refine Gk.iloadN X15 hx (hb hby d6_16) rfl ?_
      refine Gk.icmpNo X15 hx (hb hby d6_17) (feq (by decide : ¬ ((1 : Int32) = (4 : Int32)))).1 ?_
      refine Gk.aloadN X15 hx (hb hby d6_20) rfl rfl ?_
      refine Gk.iloadN X15 hx (hb hby d6_21) rfl ?_
      refine Gk.iloadN X15 hx (hb hby d6_22) rfl ?_
      have H19 := (H16.keep K15 (ninS ne17 nin0))
      have H20 := ((S__assertionsDisabled.ext E1).keep K15 (allS g_b1 all0))
      have H21 := ((S_HI_BYTE_SHIFT.ext E1).keep K15 (allS g_b1 all0))
      have H22 := ((S_LO_BYTE_SHIFT.ext E1).keep K15 (allS g_b1 all0))
      refine Gk.callS (argsL := [(.ref a1), (.int (0 : Int32)), (.int (4 : Int32))]) X15 hx hZ hown (tb_4 l Z a0 T15.heap n0 hw a1 kc f c0 c1 c2 c3 (Nat.le_trans Z0 (Nat.le_trans E1.1 K15.1)) H20 H21 H22 H19 hf0 hf1 hf2 hf3) (W hw 78 rfl) (W hw 79 rfl) (W hw 24 rfl) (W hw 80 rfl) (by decide) rfl pd_4 rfl rfl rfl (by rw [hml]; rfl) rfl (hb hby d6_23) ?_
      intro T18 L18 v18 X18 hQ18
      obtain ⟨hv18, N18q, K18, k18_, A18_⟩ := hQ18
      have N18 := Fr.app N15 N18q
      obtain ⟨b18, g18⟩ : ∃ z_, z_ = T15.heap.size := ⟨_, rfl⟩
      rw [← g18] at hv18 A18_
      subst hv18
      have g_b18 : n0 ≤ b18 := Nat.le_trans (Nat.le_trans Z0 (Nat.le_trans E1.1 K15.1)) (Nat.le_of_eq g18.symm)
      have lt_b18 := A18_.lt
      show Go p e below (T18.setTop (mkF m 26 _ [(.ref b18)])) _
      refine Gk.astore X18 hx (hb hby d6_26) rfl #[.val (.ref a1), .val (.int (0 : Int32)), .val (.int (4 : Int32)), .val (.ref b1), .val (.int (1 : Int32)), .val (.ref b18)] rfl ?_
      refine Gk.aload X18 hx (hb hby d6_28) rfl rfl ?_
      refine Gk.iload X18 hx (hb hby d6_30) rfl ?_
      have H24 := (H20.keep K18 all0)
      have H25 := (H21.keep K18 all0)
      have H26 := (H22.keep K18 all0)
      have gr27 := (Nat.le_trans (Nat.le_trans E1.1 K15.1) K18.1)
      refine Gk.callS (argsL := [(.ref b18), (.int (1 : Int32))]) X18 hx hZ hown (gch_1 l Z a0 T18.heap n0 hw b18 k18_ (upd (upd (upd (upd (upd (upd (upd (upd (fun _ => (.int (0 : Int32))) 0 (.int ((c0 >>> ((0 : Int32) &&& 31)).toInt8.toInt32))) 1 (.int ((c0 >>> ((8 : Int32) &&& 31)).toInt8.toInt32))) 2 (.int ((c1 >>> ((0 : Int32) &&& 31)).toInt8.toInt32))) 3 (.int ((c1 >>> ((8 : Int32) &&& 31)).toInt8.toInt32))) 4 (.int ((c2 >>> ((0 : Int32) &&& 31)).toInt8.toInt32))) 5 (.int ((c2 >>> ((8 : Int32) &&& 31)).toInt8.toInt32))) 6 (.int ((c3 >>> ((0 : Int32) &&& 31)).toInt8.toInt32))) 7 (.int ((c3 >>> ((8 : Int32) &&& 31)).toInt8.toInt32))) (8 : Int32) c1 (Nat.le_trans Z0 gr27) H24 H25 H26 A18_ (by decide) (by decide) rfl rfl hb1) (W hw 94 rfl) (W hw 95 rfl) (W hw 24 rfl) (W hw 96 rfl) (by decide) rfl pd_5 rfl rfl rfl (by rw [hml]; rfl) rfl (hb hby d6_32) ?_
      intro T23 L23 v23 X23 hQ23
      obtain ⟨rfl, N23q, e23⟩ := hQ23
      have N23 := Fr.app N18 N23q
      show Go p e below (T23.setTop (mkF m 35 _ [(.int c1)])) _
      refine Gk.sipush X23 hx (hb hby d6_35) (255 : Int32) rfl ?_
      have hc38 : (255 : Int32) < c1 := hc1
      refine Gk.icmpYes X23 hx (hb hby d6_38) (tlt hc38).2.2.1 54 (by decide) (by decide) ?_
      refine Gk.aload X23 hx (hb hby d6_54) rfl rfl ?_
      exact Gk.rR X23 hx hret rfl rfl rfl hns (hb hby d6_56) e23 ⟨⟨_, _, rfl, (Nat.le_trans (Nat.le_trans E1.1 K15.1) (Nat.le_of_eq g18.symm)), A18_⟩, N23, ((((Keep.refl h0 []).ext E1).trans K15 (allS (Or.inr (Nat.le_trans (Nat.le_refl _) (Nat.le_of_eq g1.symm))) all0)).trans K18 all0)⟩
    · skip
      by_cases hc2 : (255 : Int32) < c2
      · skip
        have H29 := (V_a.ext E1)
        have ne30 : a1 ≠ b1 := (Nat.ne_of_lt (Nat.lt_of_lt_of_le V_a.lt (Nat.le_trans (Nat.le_refl _) (Nat.le_of_eq g1.symm))))
        refine Gk.callS (argsL := [(.ref a1), (.int (0 : Int32)), (.ref b1), (.int (0 : Int32)), (.int (4 : Int32))]) X1 hx hZ hown (cu2_2 l Z a0 h1 n0 hw a1 b1 (4 : Int32) kc f c0 c1 c2 k1 (fun _ => (.int (0 : Int32))) (Nat.le_trans Z0 E1.1) H29 V_b1 ne30 hf0 hf1 hf2 hc0 hc1 hc2 (by decide) (by decide) (by decide) g_b1) (W hw 27 rfl) (W hw 28 rfl) (W hw 24 rfl) (W hw 29 rfl) (by decide) e1 pd_3 rfl rfl rfl (by rw [hml]; rfl) rfl (hb hby d6_9) ?_
        intro T28 L28 v28 X28 hQ28
        obtain ⟨rfl, N28q, K28⟩ := hQ28
        have N28 := Fr.app (Fr.nil n0) N28q
        show Go p e below (T28.setTop (mkF m 12 _ [(.int (2 : Int32))])) _
        refine Gk.istore X28 hx (hb hby d6_12) #[.val (.ref a1), .val (.int (0 : Int32)), .val (.int (4 : Int32)), .val (.ref b1), .val (.int (2 : Int32)), .unset] rfl ?_
        refine Gk.iload X28 hx (hb hby d6_14) rfl ?_
        refine Gk.iloadN X28 hx (hb hby d6_16) rfl ?_
        refine Gk.icmpNo X28 hx (hb hby d6_17) (feq (by decide : ¬ ((2 : Int32) = (4 : Int32)))).1 ?_
        refine Gk.aloadN X28 hx (hb hby d6_20) rfl rfl ?_
        refine Gk.iloadN X28 hx (hb hby d6_21) rfl ?_
        refine Gk.iloadN X28 hx (hb hby d6_22) rfl ?_
        have H32 := (H29.keep K28 (ninS ne30 nin0))
        have H33 := ((S__assertionsDisabled.ext E1).keep K28 (allS g_b1 all0))
        have H34 := ((S_HI_BYTE_SHIFT.ext E1).keep K28 (allS g_b1 all0))
        have H35 := ((S_LO_BYTE_SHIFT.ext E1).keep K28 (allS g_b1 all0))
        refine Gk.callS (argsL := [(.ref a1), (.int (0 : Int32)), (.int (4 : Int32))]) X28 hx hZ hown (tb_4 l Z a0 T28.heap n0 hw a1 kc f c0 c1 c2 c3 (Nat.le_trans Z0 (Nat.le_trans E1.1 K28.1)) H33 H34 H35 H32 hf0 hf1 hf2 hf3) (W hw 78 rfl) (W hw 79 rfl) (W hw 24 rfl) (W hw 80 rfl) (by decide) rfl pd_4 rfl rfl rfl (by rw [hml]; rfl) rfl (hb hby d6_23) ?_
        intro T31 L31 v31 X31 hQ31
        obtain ⟨hv31, N31q, K31, k31_, A31_⟩ := hQ31
        have N31 := Fr.app N28 N31q
        obtain ⟨b31, g31⟩ : ∃ z_, z_ = T28.heap.size := ⟨_, rfl⟩
        rw [← g31] at hv31 A31_
        subst hv31
        have g_b31 : n0 ≤ b31 := Nat.le_trans (Nat.le_trans Z0 (Nat.le_trans E1.1 K28.1)) (Nat.le_of_eq g31.symm)
        have lt_b31 := A31_.lt
        show Go p e below (T31.setTop (mkF m 26 _ [(.ref b31)])) _
        refine Gk.astore X31 hx (hb hby d6_26) rfl #[.val (.ref a1), .val (.int (0 : Int32)), .val (.int (4 : Int32)), .val (.ref b1), .val (.int (2 : Int32)), .val (.ref b31)] rfl ?_
        refine Gk.aload X31 hx (hb hby d6_28) rfl rfl ?_
        refine Gk.iload X31 hx (hb hby d6_30) rfl ?_
        have H37 := (H33.keep K31 all0)
        have H38 := (H34.keep K31 all0)
        have H39 := (H35.keep K31 all0)
        have gr40 := (Nat.le_trans (Nat.le_trans E1.1 K28.1) K31.1)
        refine Gk.callS (argsL := [(.ref b31), (.int (2 : Int32))]) X31 hx hZ hown (gch_2 l Z a0 T31.heap n0 hw b31 k31_ (upd (upd (upd (upd (upd (upd (upd (upd (fun _ => (.int (0 : Int32))) 0 (.int ((c0 >>> ((0 : Int32) &&& 31)).toInt8.toInt32))) 1 (.int ((c0 >>> ((8 : Int32) &&& 31)).toInt8.toInt32))) 2 (.int ((c1 >>> ((0 : Int32) &&& 31)).toInt8.toInt32))) 3 (.int ((c1 >>> ((8 : Int32) &&& 31)).toInt8.toInt32))) 4 (.int ((c2 >>> ((0 : Int32) &&& 31)).toInt8.toInt32))) 5 (.int ((c2 >>> ((8 : Int32) &&& 31)).toInt8.toInt32))) 6 (.int ((c3 >>> ((0 : Int32) &&& 31)).toInt8.toInt32))) 7 (.int ((c3 >>> ((8 : Int32) &&& 31)).toInt8.toInt32))) (8 : Int32) c2 (Nat.le_trans Z0 gr40) H37 H38 H39 A31_ (by decide) (by decide) rfl rfl hb2) (W hw 94 rfl) (W hw 95 rfl) (W hw 24 rfl) (W hw 96 rfl) (by decide) rfl pd_5 rfl rfl rfl (by rw [hml]; rfl) rfl (hb hby d6_32) ?_
        intro T36 L36 v36 X36 hQ36
        obtain ⟨rfl, N36q, e36⟩ := hQ36
        have N36 := Fr.app N31 N36q
        show Go p e below (T36.setTop (mkF m 35 _ [(.int c2)])) _
        refine Gk.sipush X36 hx (hb hby d6_35) (255 : Int32) rfl ?_
        have hc38 : (255 : Int32) < c2 := hc2
        refine Gk.icmpYes X36 hx (hb hby d6_38) (tlt hc38).2.2.1 54 (by decide) (by decide) ?_
        refine Gk.aload X36 hx (hb hby d6_54) rfl rfl ?_
        exact Gk.rR X36 hx hret rfl rfl rfl hns (hb hby d6_56) e36 ⟨⟨_, _, rfl, (Nat.le_trans (Nat.le_trans E1.1 K28.1) (Nat.le_of_eq g31.symm)), A31_⟩, N36, ((((Keep.refl h0 []).ext E1).trans K28 (allS (Or.inr (Nat.le_trans (Nat.le_refl _) (Nat.le_of_eq g1.symm))) all0)).trans K31 all0)⟩
      · skip
        have hc3 := (((hnot.resolve_left hc0).resolve_left hc1).resolve_left hc2)
        have H42 := (V_a.ext E1)
        have ne43 : a1 ≠ b1 := (Nat.ne_of_lt (Nat.lt_of_lt_of_le V_a.lt (Nat.le_trans (Nat.le_refl _) (Nat.le_of_eq g1.symm))))
        refine Gk.callS (argsL := [(.ref a1), (.int (0 : Int32)), (.ref b1), (.int (0 : Int32)), (.int (4 : Int32))]) X1 hx hZ hown (cu2_3 l Z a0 h1 n0 hw a1 b1 (4 : Int32) kc f c0 c1 c2 c3 k1 (fun _ => (.int (0 : Int32))) (Nat.le_trans Z0 E1.1) H42 V_b1 ne43 hf0 hf1 hf2 hf3 hc0 hc1 hc2 hc3 (by decide) (by decide) (by decide) (by decide) g_b1) (W hw 27 rfl) (W hw 28 rfl) (W hw 24 rfl) (W hw 29 rfl) (by decide) e1 pd_3 rfl rfl rfl (by rw [hml]; rfl) rfl (hb hby d6_9) ?_
        intro T41 L41 v41 X41 hQ41
        obtain ⟨rfl, N41q, K41⟩ := hQ41
        have N41 := Fr.app (Fr.nil n0) N41q
        show Go p e below (T41.setTop (mkF m 12 _ [(.int (3 : Int32))])) _
        refine Gk.istore X41 hx (hb hby d6_12) #[.val (.ref a1), .val (.int (0 : Int32)), .val (.int (4 : Int32)), .val (.ref b1), .val (.int (3 : Int32)), .unset] rfl ?_
        refine Gk.iload X41 hx (hb hby d6_14) rfl ?_
        refine Gk.iloadN X41 hx (hb hby d6_16) rfl ?_
        refine Gk.icmpNo X41 hx (hb hby d6_17) (feq (by decide : ¬ ((3 : Int32) = (4 : Int32)))).1 ?_
        refine Gk.aloadN X41 hx (hb hby d6_20) rfl rfl ?_
        refine Gk.iloadN X41 hx (hb hby d6_21) rfl ?_
        refine Gk.iloadN X41 hx (hb hby d6_22) rfl ?_
        have H45 := (H42.keep K41 (ninS ne43 nin0))
        have H46 := ((S__assertionsDisabled.ext E1).keep K41 (allS g_b1 all0))
        have H47 := ((S_HI_BYTE_SHIFT.ext E1).keep K41 (allS g_b1 all0))
        have H48 := ((S_LO_BYTE_SHIFT.ext E1).keep K41 (allS g_b1 all0))
        refine Gk.callS (argsL := [(.ref a1), (.int (0 : Int32)), (.int (4 : Int32))]) X41 hx hZ hown (tb_4 l Z a0 T41.heap n0 hw a1 kc f c0 c1 c2 c3 (Nat.le_trans Z0 (Nat.le_trans E1.1 K41.1)) H46 H47 H48 H45 hf0 hf1 hf2 hf3) (W hw 78 rfl) (W hw 79 rfl) (W hw 24 rfl) (W hw 80 rfl) (by decide) rfl pd_4 rfl rfl rfl (by rw [hml]; rfl) rfl (hb hby d6_23) ?_
        intro T44 L44 v44 X44 hQ44
        obtain ⟨hv44, N44q, K44, k44_, A44_⟩ := hQ44
        have N44 := Fr.app N41 N44q
        obtain ⟨b44, g44⟩ : ∃ z_, z_ = T41.heap.size := ⟨_, rfl⟩
        rw [← g44] at hv44 A44_
        subst hv44
        have g_b44 : n0 ≤ b44 := Nat.le_trans (Nat.le_trans Z0 (Nat.le_trans E1.1 K41.1)) (Nat.le_of_eq g44.symm)
        have lt_b44 := A44_.lt
        show Go p e below (T44.setTop (mkF m 26 _ [(.ref b44)])) _
        refine Gk.astore X44 hx (hb hby d6_26) rfl #[.val (.ref a1), .val (.int (0 : Int32)), .val (.int (4 : Int32)), .val (.ref b1), .val (.int (3 : Int32)), .val (.ref b44)] rfl ?_
        refine Gk.aload X44 hx (hb hby d6_28) rfl rfl ?_
        refine Gk.iload X44 hx (hb hby d6_30) rfl ?_
        have H50 := (H46.keep K44 all0)
        have H51 := (H47.keep K44 all0)
        have H52 := (H48.keep K44 all0)
        have gr53 := (Nat.le_trans (Nat.le_trans E1.1 K41.1) K44.1)
        refine Gk.callS (argsL := [(.ref b44), (.int (3 : Int32))]) X44 hx hZ hown (gch_3 l Z a0 T44.heap n0 hw b44 k44_ (upd (upd (upd (upd (upd (upd (upd (upd (fun _ => (.int (0 : Int32))) 0 (.int ((c0 >>> ((0 : Int32) &&& 31)).toInt8.toInt32))) 1 (.int ((c0 >>> ((8 : Int32) &&& 31)).toInt8.toInt32))) 2 (.int ((c1 >>> ((0 : Int32) &&& 31)).toInt8.toInt32))) 3 (.int ((c1 >>> ((8 : Int32) &&& 31)).toInt8.toInt32))) 4 (.int ((c2 >>> ((0 : Int32) &&& 31)).toInt8.toInt32))) 5 (.int ((c2 >>> ((8 : Int32) &&& 31)).toInt8.toInt32))) 6 (.int ((c3 >>> ((0 : Int32) &&& 31)).toInt8.toInt32))) 7 (.int ((c3 >>> ((8 : Int32) &&& 31)).toInt8.toInt32))) (8 : Int32) c3 (Nat.le_trans Z0 gr53) H50 H51 H52 A44_ (by decide) (by decide) rfl rfl hb3) (W hw 94 rfl) (W hw 95 rfl) (W hw 24 rfl) (W hw 96 rfl) (by decide) rfl pd_5 rfl rfl rfl (by rw [hml]; rfl) rfl (hb hby d6_32) ?_
        intro T49 L49 v49 X49 hQ49
        obtain ⟨rfl, N49q, e49⟩ := hQ49
        have N49 := Fr.app N44 N49q
        show Go p e below (T49.setTop (mkF m 35 _ [(.int c3)])) _
        refine Gk.sipush X49 hx (hb hby d6_35) (255 : Int32) rfl ?_
        have hc38 : (255 : Int32) < c3 := hc3
        refine Gk.icmpYes X49 hx (hb hby d6_38) (tlt hc38).2.2.1 54 (by decide) (by decide) ?_
        refine Gk.aload X49 hx (hb hby d6_54) rfl rfl ?_
        exact Gk.rR X49 hx hret rfl rfl rfl hns (hb hby d6_56) e49 ⟨⟨_, _, rfl, (Nat.le_trans (Nat.le_trans E1.1 K41.1) (Nat.le_of_eq g44.symm)), A44_⟩, N49, ((((Keep.refl h0 []).ext E1).trans K41 (allS (Or.inr (Nat.le_trans (Nat.le_refl _) (Nat.le_of_eq g1.symm))) all0)).trans K44 all0)⟩
theorem cp2_4 (hw : HW Z a0) (a1 a3 : Addr) (kc : ClassId) (f : Nat → Value) (c0 c1 c2 c3 : Int32) (kb : ClassId) (fb : Nat → Value) (Z0 : n0 ≤ h0.size) (V_a : Arf Z h0 a1 kc .char (4 : Int32) f) (V_b : Arf Z h0 a3 kb .byte (4 : Int32) fb) (hne : a1 ≠ a3) (hf0 : f 0 = (.int c0)) (hf1 : f 1 = (.int c1)) (hf2 : f 2 = (.int c2)) (hf3 : f 3 = (.int c3)) (hc0 : ¬ ((255 : Int32) < c0)) (hc1 : ¬ ((255 : Int32) < c1)) (hc2 : ¬ ((255 : Int32) < c2)) (hc3 : ¬ ((255 : Int32) < c3)) (g_a3 : n0 ≤ a3) : Ct l ⟨"java/lang/StringUTF16", "compress", "([CI[BII)I"⟩ jdk_52_method_21_code 7 (some .int) ⟨0, 0, 0, 0⟩ #[(.ref a1), (.int (0 : Int32)), (.ref a3), (.int (0 : Int32)), (.int (4 : Int32))] Z h0 (fun v h L => v = some (.int (4 : Int32)) ∧ Fr n0 L ∧ Keep h0 h [a3] ∧ Arf Z h a3 kb .byte (4 : Int32) (upd (upd (upd (upd fb 0 (.int (c0.toInt8.toInt32))) 1 (.int (c1.toInt8.toInt32))) 2 (.int (c2.toInt8.toInt32))) 3 (.int (c3.toInt8.toInt32)))) := by
  refine Ct.of "java/lang/StringUTF16" rfl (plainFor_of_name pn_5) #[.val (.ref a1), .val (.int (0 : Int32)), .val (.ref a3), .val (.int (0 : Int32)), .val (.int (4 : Int32)), .unset, .unset] rfl rfl ?_
  intro p e s m below meth c s₁ hx hby hml hown hnm hret hns hZ hh X0 e0
  refine Gk.iconst X0 hx (hb hby d7_0) (0 : Int32) rfl ?_
  refine Gk.istore X0 hx (hb hby d7_1) #[.val (.ref a1), .val (.int (0 : Int32)), .val (.ref a3), .val (.int (0 : Int32)), .val (.int (4 : Int32)), .val (.int (0 : Int32)), .unset] rfl ?_
  refine Gk.iload X0 hx (hb hby d7_3) rfl ?_
  refine Gk.iload X0 hx (hb hby d7_5) rfl ?_
  refine Gk.icmpNo X0 hx (hb hby d7_7) (tlt (by decide : (0 : Int32) < (4 : Int32))).2.1 ?_
  refine Gk.aloadN X0 hx (hb hby d7_10) rfl rfl ?_
  refine Gk.iloadN X0 hx (hb hby d7_11) rfl ?_
  refine Gk.caload X0 hx hZ e0 V_a ⟨by decide, by decide⟩ (.int c0) hf0 (hb hby d7_12) ?_
  refine Gk.istore X0 hx (hb hby d7_13) #[.val (.ref a1), .val (.int (0 : Int32)), .val (.ref a3), .val (.int (0 : Int32)), .val (.int (4 : Int32)), .val (.int (0 : Int32)), .val (.int c0)] rfl ?_
  refine Gk.iload X0 hx (hb hby d7_15) rfl ?_
  refine Gk.sipush X0 hx (hb hby d7_17) (255 : Int32) rfl ?_
  have hc20 : ¬ ((255 : Int32) < c0) := hc0
  refine Gk.icmpYes X0 hx (hb hby d7_20) (flt hc20).2.2.2 26 (by decide) (by decide) ?_
  refine Gk.aloadN X0 hx (hb hby d7_26) rfl rfl ?_
  refine Gk.iloadN X0 hx (hb hby d7_27) rfl ?_
  refine Gk.iload X0 hx (hb hby d7_28) rfl ?_
  refine Gk.i2b X0 hx (hb hby d7_30) _ rfl ?_
  refine Gk.bastoreB X0 hx hZ e0 V_b 0 rfl ⟨by decide, by decide⟩ (.int (c0.toInt8.toInt32)) (congrArg Value.int (own_nb _)) (hb hby d7_31) ?_
  intro T2 h2 X2 e2 W2 V2
  have N2 := Fr.snoc X2 (Fr.nil n0) g_a3
  refine Gk.iinc X2 hx (hb hby d7_32) rfl #[.val (.ref a1), .val (.int (1 : Int32)), .val (.ref a3), .val (.int (0 : Int32)), .val (.int (4 : Int32)), .val (.int (0 : Int32)), .val (.int c0)] rfl ?_
  refine Gk.iinc X2 hx (hb hby d7_35) rfl #[.val (.ref a1), .val (.int (1 : Int32)), .val (.ref a3), .val (.int (1 : Int32)), .val (.int (4 : Int32)), .val (.int (0 : Int32)), .val (.int c0)] rfl ?_
  refine Gk.iinc X2 hx (hb hby d7_38) rfl #[.val (.ref a1), .val (.int (1 : Int32)), .val (.ref a3), .val (.int (1 : Int32)), .val (.int (4 : Int32)), .val (.int (1 : Int32)), .val (.int c0)] rfl ?_
  refine Gk.goto X2 hx (hb hby d7_41) 3 (by decide) (by decide) ?_
  refine Gk.iload X2 hx (hb hby d7_3) rfl ?_
  refine Gk.iload X2 hx (hb hby d7_5) rfl ?_
  refine Gk.icmpNo X2 hx (hb hby d7_7) (tlt (by decide : (1 : Int32) < (4 : Int32))).2.1 ?_
  refine Gk.aloadN X2 hx (hb hby d7_10) rfl rfl ?_
  refine Gk.iloadN X2 hx (hb hby d7_11) rfl ?_
  have H4 := (V_a.other W2 hne)
  refine Gk.caload X2 hx hZ e2 H4 ⟨by decide, by decide⟩ (.int c1) hf1 (hb hby d7_12) ?_
  refine Gk.istore X2 hx (hb hby d7_13) #[.val (.ref a1), .val (.int (1 : Int32)), .val (.ref a3), .val (.int (1 : Int32)), .val (.int (4 : Int32)), .val (.int (1 : Int32)), .val (.int c1)] rfl ?_
  refine Gk.iload X2 hx (hb hby d7_15) rfl ?_
  refine Gk.sipush X2 hx (hb hby d7_17) (255 : Int32) rfl ?_
  have hc20_1 : ¬ ((255 : Int32) < c1) := hc1
  refine Gk.icmpYes X2 hx (hb hby d7_20) (flt hc20_1).2.2.2 26 (by decide) (by decide) ?_
  refine Gk.aloadN X2 hx (hb hby d7_26) rfl rfl ?_
  refine Gk.iloadN X2 hx (hb hby d7_27) rfl ?_
  refine Gk.iload X2 hx (hb hby d7_28) rfl ?_
  refine Gk.i2b X2 hx (hb hby d7_30) _ rfl ?_
  refine Gk.bastoreB X2 hx hZ e2 V2 1 rfl ⟨by decide, by decide⟩ (.int (c1.toInt8.toInt32)) (congrArg Value.int (own_nb _)) (hb hby d7_31) ?_
  intro T5 h5 X5 e5 W5 V5
  have N5 := Fr.snoc X5 N2 g_a3
  refine Gk.iinc X5 hx (hb hby d7_32) rfl #[.val (.ref a1), .val (.int (2 : Int32)), .val (.ref a3), .val (.int (1 : Int32)), .val (.int (4 : Int32)), .val (.int (1 : Int32)), .val (.int c1)] rfl ?_
  refine Gk.iinc X5 hx (hb hby d7_35) rfl #[.val (.ref a1), .val (.int (2 : Int32)), .val (.ref a3), .val (.int (2 : Int32)), .val (.int (4 : Int32)), .val (.int (1 : Int32)), .val (.int c1)] rfl ?_
  refine Gk.iinc X5 hx (hb hby d7_38) rfl #[.val (.ref a1), .val (.int (2 : Int32)), .val (.ref a3), .val (.int (2 : Int32)), .val (.int (4 : Int32)), .val (.int (2 : Int32)), .val (.int c1)] rfl ?_
  refine Gk.goto X5 hx (hb hby d7_41) 3 (by decide) (by decide) ?_
  refine Gk.iload X5 hx (hb hby d7_3) rfl ?_
  refine Gk.iload X5 hx (hb hby d7_5) rfl ?_
  refine Gk.icmpNo X5 hx (hb hby d7_7) (tlt (by decide : (2 : Int32) < (4 : Int32))).2.1 ?_
  refine Gk.aloadN X5 hx (hb hby d7_10) rfl rfl ?_
  refine Gk.iloadN X5 hx (hb hby d7_11) rfl ?_
  have H7 := (H4.other W5 hne)
  refine Gk.caload X5 hx hZ e5 H7 ⟨by decide, by decide⟩ (.int c2) hf2 (hb hby d7_12) ?_
  refine Gk.istore X5 hx (hb hby d7_13) #[.val (.ref a1), .val (.int (2 : Int32)), .val (.ref a3), .val (.int (2 : Int32)), .val (.int (4 : Int32)), .val (.int (2 : Int32)), .val (.int c2)] rfl ?_
  refine Gk.iload X5 hx (hb hby d7_15) rfl ?_
  refine Gk.sipush X5 hx (hb hby d7_17) (255 : Int32) rfl ?_
  have hc20_2 : ¬ ((255 : Int32) < c2) := hc2
  refine Gk.icmpYes X5 hx (hb hby d7_20) (flt hc20_2).2.2.2 26 (by decide) (by decide) ?_
  refine Gk.aloadN X5 hx (hb hby d7_26) rfl rfl ?_
  refine Gk.iloadN X5 hx (hb hby d7_27) rfl ?_
  refine Gk.iload X5 hx (hb hby d7_28) rfl ?_
  refine Gk.i2b X5 hx (hb hby d7_30) _ rfl ?_
  refine Gk.bastoreB X5 hx hZ e5 V5 2 rfl ⟨by decide, by decide⟩ (.int (c2.toInt8.toInt32)) (congrArg Value.int (own_nb _)) (hb hby d7_31) ?_
  intro T8 h8 X8 e8 W8 V8
  have N8 := Fr.snoc X8 N5 g_a3
  refine Gk.iinc X8 hx (hb hby d7_32) rfl #[.val (.ref a1), .val (.int (3 : Int32)), .val (.ref a3), .val (.int (2 : Int32)), .val (.int (4 : Int32)), .val (.int (2 : Int32)), .val (.int c2)] rfl ?_
  refine Gk.iinc X8 hx (hb hby d7_35) rfl #[.val (.ref a1), .val (.int (3 : Int32)), .val (.ref a3), .val (.int (3 : Int32)), .val (.int (4 : Int32)), .val (.int (2 : Int32)), .val (.int c2)] rfl ?_
  refine Gk.iinc X8 hx (hb hby d7_38) rfl #[.val (.ref a1), .val (.int (3 : Int32)), .val (.ref a3), .val (.int (3 : Int32)), .val (.int (4 : Int32)), .val (.int (3 : Int32)), .val (.int c2)] rfl ?_
  refine Gk.goto X8 hx (hb hby d7_41) 3 (by decide) (by decide) ?_
  refine Gk.iload X8 hx (hb hby d7_3) rfl ?_
  refine Gk.iload X8 hx (hb hby d7_5) rfl ?_
  refine Gk.icmpNo X8 hx (hb hby d7_7) (tlt (by decide : (3 : Int32) < (4 : Int32))).2.1 ?_
  refine Gk.aloadN X8 hx (hb hby d7_10) rfl rfl ?_
  refine Gk.iloadN X8 hx (hb hby d7_11) rfl ?_
  have H10 := (H7.other W8 hne)
  refine Gk.caload X8 hx hZ e8 H10 ⟨by decide, by decide⟩ (.int c3) hf3 (hb hby d7_12) ?_
  refine Gk.istore X8 hx (hb hby d7_13) #[.val (.ref a1), .val (.int (3 : Int32)), .val (.ref a3), .val (.int (3 : Int32)), .val (.int (4 : Int32)), .val (.int (3 : Int32)), .val (.int c3)] rfl ?_
  refine Gk.iload X8 hx (hb hby d7_15) rfl ?_
  refine Gk.sipush X8 hx (hb hby d7_17) (255 : Int32) rfl ?_
  have hc20_3 : ¬ ((255 : Int32) < c3) := hc3
  refine Gk.icmpYes X8 hx (hb hby d7_20) (flt hc20_3).2.2.2 26 (by decide) (by decide) ?_
  refine Gk.aloadN X8 hx (hb hby d7_26) rfl rfl ?_
  refine Gk.iloadN X8 hx (hb hby d7_27) rfl ?_
  refine Gk.iload X8 hx (hb hby d7_28) rfl ?_
  refine Gk.i2b X8 hx (hb hby d7_30) _ rfl ?_
  refine Gk.bastoreB X8 hx hZ e8 V8 3 rfl ⟨by decide, by decide⟩ (.int (c3.toInt8.toInt32)) (congrArg Value.int (own_nb _)) (hb hby d7_31) ?_
  intro T11 h11 X11 e11 W11 V11
  have N11 := Fr.snoc X11 N8 g_a3
  refine Gk.iinc X11 hx (hb hby d7_32) rfl #[.val (.ref a1), .val (.int (4 : Int32)), .val (.ref a3), .val (.int (3 : Int32)), .val (.int (4 : Int32)), .val (.int (3 : Int32)), .val (.int c3)] rfl ?_
  refine Gk.iinc X11 hx (hb hby d7_35) rfl #[.val (.ref a1), .val (.int (4 : Int32)), .val (.ref a3), .val (.int (4 : Int32)), .val (.int (4 : Int32)), .val (.int (3 : Int32)), .val (.int c3)] rfl ?_
  refine Gk.iinc X11 hx (hb hby d7_38) rfl #[.val (.ref a1), .val (.int (4 : Int32)), .val (.ref a3), .val (.int (4 : Int32)), .val (.int (4 : Int32)), .val (.int (4 : Int32)), .val (.int c3)] rfl ?_
  refine Gk.goto X11 hx (hb hby d7_41) 3 (by decide) (by decide) ?_
  refine Gk.iload X11 hx (hb hby d7_3) rfl ?_
  refine Gk.iload X11 hx (hb hby d7_5) rfl ?_
  refine Gk.icmpYes X11 hx (hb hby d7_7) (flt (by decide : ¬ ((4 : Int32) < (4 : Int32)))).2.1 44 (by decide) (by decide) ?_
  refine Gk.iload X11 hx (hb hby d7_44) rfl ?_
  exact Gk.rI X11 hx hret hns (hb hby d7_46) e11 ⟨rfl, N11, (((((Keep.refl h0 [a3]).wr W2 (Or.inl (List.mem_of_getElem? (i := 0) rfl))).wr W5 (Or.inl (List.mem_of_getElem? (i := 0) rfl))).wr W8 (Or.inl (List.mem_of_getElem? (i := 0) rfl))).wr W11 (Or.inl (List.mem_of_getElem? (i := 0) rfl))), V11⟩
theorem cp1_4 (hw : HW Z a0) (a1 : Addr) (kc : ClassId) (f : Nat → Value) (c0 c1 c2 c3 : Int32) (Z0 : n0 ≤ h0.size) (V_a : Arf Z h0 a1 kc .char (4 : Int32) f) (hf0 : f 0 = (.int c0)) (hf1 : f 1 = (.int c1)) (hf2 : f 2 = (.int c2)) (hf3 : f 3 = (.int c3)) (hc0 : ¬ ((255 : Int32) < c0)) (hc1 : ¬ ((255 : Int32) < c1)) (hc2 : ¬ ((255 : Int32) < c2)) (hc3 : ¬ ((255 : Int32) < c3)) : Ct l ⟨"java/lang/StringUTF16", "compress", "([CII)[B"⟩ jdk_52_method_16_code 6 (some (.array .byte)) ⟨1, 1, 4, 18⟩ #[(.ref a1), (.int (0 : Int32)), (.int (4 : Int32))] Z h0 (fun v h L => v = some (.ref h0.size) ∧ Fr n0 L ∧ Keep h0 h [] ∧ ∃ kb : ClassId, Arf Z h h0.size kb .byte (4 : Int32) (upd (upd (upd (upd (fun _ => (.int (0 : Int32))) 0 (.int (c0.toInt8.toInt32))) 1 (.int (c1.toInt8.toInt32))) 2 (.int (c2.toInt8.toInt32))) 3 (.int (c3.toInt8.toInt32)))) := by
  refine Ct.of "java/lang/StringUTF16" rfl (plainFor_of_name pn_5) #[.val (.ref a1), .val (.int (0 : Int32)), .val (.int (4 : Int32)), .unset, .unset, .unset] rfl rfl ?_
  intro p e s m below meth c s₁ hx hby hml hown hnm hret hns hZ hh X0 e0
  refine Gk.iloadN X0 hx (hb hby d6_0) rfl ?_
  refine Gk.newP X0 hx hZ (W hw 26 rfl) e0 (hb hby d6_1) (by decide) (cap := 4) (by decide) (by decide) (by decide) (by decide) rfl ?_
  intro T1 h1 b1 k1 X1 e1 E1 g1 A1 B1
  have g_b1 : n0 ≤ b1 := Nat.le_trans Z0 (Nat.le_of_eq g1.symm)
  have V_b1 : Arf Z h1 b1 k1 .byte (4 : Int32) (fun _ => (.int (0 : Int32))) := A1
  have lt_b1 := V_b1.lt
  refine Gk.astoreN X1 hx (hb hby d6_3) rfl #[.val (.ref a1), .val (.int (0 : Int32)), .val (.int (4 : Int32)), .val (.ref b1), .unset, .unset] rfl ?_
  refine Gk.aloadN X1 hx (hb hby d6_4) rfl rfl ?_
  refine Gk.iloadN X1 hx (hb hby d6_5) rfl ?_
  refine Gk.aloadN X1 hx (hb hby d6_6) rfl rfl ?_
  refine Gk.iconst X1 hx (hb hby d6_7) (0 : Int32) rfl ?_
  refine Gk.iloadN X1 hx (hb hby d6_8) rfl ?_
  have H3 := (V_a.ext E1)
  have ne4 : a1 ≠ b1 := (Nat.ne_of_lt (Nat.lt_of_lt_of_le V_a.lt (Nat.le_trans (Nat.le_refl _) (Nat.le_of_eq g1.symm))))
  refine Gk.callS (argsL := [(.ref a1), (.int (0 : Int32)), (.ref b1), (.int (0 : Int32)), (.int (4 : Int32))]) X1 hx hZ hown (cp2_4 l Z a0 h1 n0 hw a1 b1 kc f c0 c1 c2 c3 k1 (fun _ => (.int (0 : Int32))) (Nat.le_trans Z0 E1.1) H3 V_b1 ne4 hf0 hf1 hf2 hf3 hc0 hc1 hc2 hc3 g_b1) (W hw 27 rfl) (W hw 28 rfl) (W hw 24 rfl) (W hw 29 rfl) (by decide) e1 pd_3 rfl rfl rfl (by rw [hml]; rfl) rfl (hb hby d6_9) ?_
  intro T2 L2 v2 X2 hQ2
  obtain ⟨rfl, N2q, K2, V2_⟩ := hQ2
  have N2 := Fr.app (Fr.nil n0) N2q
  show Go p e below (T2.setTop (mkF m 12 _ [(.int (4 : Int32))])) _
  refine Gk.istore X2 hx (hb hby d6_12) #[.val (.ref a1), .val (.int (0 : Int32)), .val (.int (4 : Int32)), .val (.ref b1), .val (.int (4 : Int32)), .unset] rfl ?_
  refine Gk.iload X2 hx (hb hby d6_14) rfl ?_
  refine Gk.iloadN X2 hx (hb hby d6_16) rfl ?_
  refine Gk.icmpYes X2 hx (hb hby d6_17) (teq (by decide : (4 : Int32) = (4 : Int32))).1 57 (by decide) (by decide) ?_
  refine Gk.aloadN X2 hx (hb hby d6_57) rfl rfl ?_
  exact Gk.rR X2 hx hret rfl rfl rfl hns (hb hby d6_58) rfl ⟨congrArg (fun z_ : Addr => some (Value.ref z_)) (show b1 = h0.size from g1), N2, (((Keep.refl h0 []).ext E1).trans K2 (allS (Or.inr (Nat.le_trans (Nat.le_refl _) (Nat.le_of_eq g1.symm))) all0)), _, (g1 ▸ V2_)⟩
theorem cf0_4 (hw : HW Z a0) (a1 : Addr) (kb : ClassId) (fb : Nat → Value) (Z0 : n0 ≤ h0.size) (V_b : Arf Z h0 a1 kb .byte (4 : Int32) fb) : Ct l ⟨"java/lang/StringUTF16", "coderFromArrayLen", "([BI)B"⟩ jdk_52_method_15_code 2 (some .byte) ⟨0, 0, 0, 0⟩ #[(.ref a1), (.int (4 : Int32))] Z h0 (fun v h L => v = some (.int (0 : Int32)) ∧ Fr n0 L ∧ h = h0) := by
  refine Ct.of "java/lang/StringUTF16" rfl (plainFor_of_name pn_5) #[.val (.ref a1), .val (.int (4 : Int32))] rfl rfl ?_
  intro p e s m below meth c s₁ hx hby hml hown hnm hret hns hZ hh X0 e0
  refine Gk.iloadN X0 hx (hb hby d8_0) rfl ?_
  refine Gk.aloadN X0 hx (hb hby d8_1) rfl rfl ?_
  refine Gk.alen X0 hx hZ e0 V_b (hb hby d8_2) ?_
  refine Gk.isub X0 hx (hb hby d8_3) (0 : Int32) (by decide) ?_
  refine Gk.bipush X0 hx (hb hby d8_4) (31 : Int32) rfl ?_
  refine Gk.iushr X0 hx (hb hby d8_6) (0 : Int32) (by decide) ?_
  refine Gk.i2b X0 hx (hb hby d8_7) (0 : Int32) (by decide) ?_
  exact Gk.rN X0 hx hret (by simp) hns (hb hby d8_8) e0 (0 : Int32) rfl ⟨rfl, (Fr.nil n0), rfl⟩
theorem cf1_4 (hw : HW Z a0) (a1 : Addr) (kb : ClassId) (fb : Nat → Value) (Z0 : n0 ≤ h0.size) (V_b : Arf Z h0 a1 kb .byte (8 : Int32) fb) : Ct l ⟨"java/lang/StringUTF16", "coderFromArrayLen", "([BI)B"⟩ jdk_52_method_15_code 2 (some .byte) ⟨0, 0, 0, 0⟩ #[(.ref a1), (.int (4 : Int32))] Z h0 (fun v h L => v = some (.int (1 : Int32)) ∧ Fr n0 L ∧ h = h0) := by
  refine Ct.of "java/lang/StringUTF16" rfl (plainFor_of_name pn_5) #[.val (.ref a1), .val (.int (4 : Int32))] rfl rfl ?_
  intro p e s m below meth c s₁ hx hby hml hown hnm hret hns hZ hh X0 e0
  refine Gk.iloadN X0 hx (hb hby d8_0) rfl ?_
  refine Gk.aloadN X0 hx (hb hby d8_1) rfl rfl ?_
  refine Gk.alen X0 hx hZ e0 V_b (hb hby d8_2) ?_
  refine Gk.isub X0 hx (hb hby d8_3) (-4 : Int32) (by decide) ?_
  refine Gk.bipush X0 hx (hb hby d8_4) (31 : Int32) rfl ?_
  refine Gk.iushr X0 hx (hb hby d8_6) (1 : Int32) (by decide) ?_
  refine Gk.i2b X0 hx (hb hby d8_7) (1 : Int32) (by decide) ?_
  exact Gk.rN X0 hx hret (by simp) hns (hb hby d8_8) e0 (1 : Int32) rfl ⟨rfl, (Fr.nil n0), rfl⟩
def SQ4 (Z : State) (h : Heap) (a : Addr) (c0 : Int32) (c1 : Int32) (c2 : Int32) (c3 : Int32) : Prop := (Fld Z h a "java/lang/String" "coder" "B" (.int (0 : Int32)) ∧ ∃ (b : Addr) (kb : ClassId), Fld Z h a "java/lang/String" "value" "[B" (.ref b) ∧ Arf Z h b kb .byte (4 : Int32) (upd (upd (upd (upd (fun _ => (.int (0 : Int32))) 0 (.int (c0.toInt8.toInt32))) 1 (.int (c1.toInt8.toInt32))) 2 (.int (c2.toInt8.toInt32))) 3 (.int (c3.toInt8.toInt32))) ∧ ¬ ((255 : Int32) < c0) ∧ ¬ ((255 : Int32) < c1) ∧ ¬ ((255 : Int32) < c2) ∧ ¬ ((255 : Int32) < c3)) ∨ (Fld Z h a "java/lang/String" "coder" "B" (.int (1 : Int32)) ∧ ∃ (b : Addr) (kb : ClassId), Fld Z h a "java/lang/String" "value" "[B" (.ref b) ∧ Arf Z h b kb .byte (8 : Int32) (upd (upd (upd (upd (upd (upd (upd (upd (fun _ => (.int (0 : Int32))) 0 (.int ((c0 >>> ((0 : Int32) &&& 31)).toInt8.toInt32))) 1 (.int ((c0 >>> ((8 : Int32) &&& 31)).toInt8.toInt32))) 2 (.int ((c1 >>> ((0 : Int32) &&& 31)).toInt8.toInt32))) 3 (.int ((c1 >>> ((8 : Int32) &&& 31)).toInt8.toInt32))) 4 (.int ((c2 >>> ((0 : Int32) &&& 31)).toInt8.toInt32))) 5 (.int ((c2 >>> ((8 : Int32) &&& 31)).toInt8.toInt32))) 6 (.int ((c3 >>> ((0 : Int32) &&& 31)).toInt8.toInt32))) 7 (.int ((c3 >>> ((8 : Int32) &&& 31)).toInt8.toInt32))))
theorem in4_4 (hw : HW Z a0) (a1 a2 : Addr) (kc : ClassId) (f : Nat → Value) (c0 c1 c2 c3 : Int32) (u_coder_a1 u_value_a1 : Value) (w_COMPACT_STRINGS : Int32) (Z0 : n0 ≤ h0.size) (S_COMPACT_STRINGS : Stx Z n0 h0 "java/lang/String" "COMPACT_STRINGS" "Z" (.int w_COMPACT_STRINGS)) (S__assertionsDisabled : Stx Z n0 h0 "java/lang/StringUTF16" "$assertionsDisabled" "Z" (.int (1 : Int32))) (S_HI_BYTE_SHIFT : Stx Z n0 h0 "java/lang/StringUTF16" "HI_BYTE_SHIFT" "I" (.int (0 : Int32))) (S_LO_BYTE_SHIFT : Stx Z n0 h0 "java/lang/StringUTF16" "LO_BYTE_SHIFT" "I" (.int (8 : Int32))) (E_a1 : Exa Z h0 a1 "java/lang/String") (V_a : Arf Z h0 a2 kc .char (4 : Int32) f) (hf0 : f 0 = (.int c0)) (hf1 : f 1 = (.int c1)) (hf2 : f 2 = (.int c2)) (hf3 : f 3 = (.int c3)) (hb0 : 0 ≤ c0.toInt ∧ c0.toInt < 65536) (hb1 : 0 ≤ c1.toInt ∧ c1.toInt < 65536) (hb2 : 0 ≤ c2.toInt ∧ c2.toInt < 65536) (hb3 : 0 ≤ c3.toInt ∧ c3.toInt < 65536) (hcs : ¬ (w_COMPACT_STRINGS = (0 : Int32))) (F_coder_a1 : Fld Z h0 a1 "java/lang/String" "coder" "B" u_coder_a1) (g_a1 : n0 ≤ a1) (F_value_a1 : Fld Z h0 a1 "java/lang/String" "value" "[B" u_value_a1) : Ct l ⟨"java/lang/String", "<init>", "([CIILjava/lang/Void;)V"⟩ jdk_42_method_149_code 6 none ⟨4, 2, 12, 57⟩ #[(.ref a1), (.ref a2), (.int (0 : Int32)), (.int (4 : Int32)), .null] Z h0 (fun v h L => v = none ∧ Fr n0 L ∧ Keep h0 h [a1] ∧ SQ4 Z h a1 c0 c1 c2 c3) := by
  refine Ct.of "java/lang/String" rfl (plainFor_of_name pn_164) #[.val (.ref a1), .val (.ref a2), .val (.int (0 : Int32)), .val (.int (4 : Int32)), .val .null, .unset] rfl rfl ?_
  intro p e s m below meth c s₁ hx hby hml hown hnm hret hns hZ hh X0 e0
  refine Gk.aloadN X0 hx (hb hby d4_0) rfl rfl ?_
  refine Gk.initO X0 hx hZ hown (W hw 18 rfl) (W hw 19 rfl) (W hw 20 rfl) e0 (by rw [hml]; rfl) (hb hby d4_1) (by decide) (Nat.le_of_ble_eq_true rfl) ?_
  intro T1 X1 e1
  refine Gk.iloadN X1 hx (hb hby d4_4) rfl ?_
  refine Gk.ifYes X1 hx (hb hby d4_5) (feq (by decide : ¬ ((4 : Int32) = (0 : Int32)))).2 27 (by decide) (by decide) ?_
  refine Gk.getS X1 hx hZ hown (host := "") (Or.inl (W hw 21 rfl)) Via.refl e1 S_COMPACT_STRINGS.sta (hb hby d4_27) ?_
  intro T2 X2 e2
  have hc30 : ¬ (w_COMPACT_STRINGS = (0 : Int32)) := hcs
  refine Gk.ifNo X2 hx (hb hby d4_30) (feq hc30).1 ?_
  refine Gk.aloadN X2 hx (hb hby d4_33) rfl rfl ?_
  refine Gk.iloadN X2 hx (hb hby d4_34) rfl ?_
  refine Gk.iloadN X2 hx (hb hby d4_35) rfl ?_
  by_cases hnot : (255 : Int32) < c0 ∨ (255 : Int32) < c1 ∨ (255 : Int32) < c2 ∨ (255 : Int32) < c3
  · skip
    refine Gk.callS (argsL := [(.ref a2), (.int (0 : Int32)), (.int (4 : Int32))]) X2 hx hZ hown (cu1_4 l Z a0 h0 n0 hw a2 kc f c0 c1 c2 c3 Z0 S__assertionsDisabled S_HI_BYTE_SHIFT S_LO_BYTE_SHIFT V_a hf0 hf1 hf2 hf3 hnot hb0 hb1 hb2 hb3) (W hw 22 rfl) (W hw 23 rfl) (W hw 24 rfl) (W hw 25 rfl) (by decide) e2 pd_4 rfl rfl rfl (by rw [hml]; rfl) rfl (hb hby d4_36) ?_
    intro T3 L3 v3 X3 hQ3
    obtain ⟨⟨y3, k3_, rfl, le_y3, A3_⟩, N3q, K3⟩ := hQ3
    have N3 := Fr.app (Fr.nil n0) N3q
    have ne_y3 : y3 ≠ a1 := Nat.ne_of_gt (Nat.lt_of_lt_of_le E_a1.lt le_y3)
    show Go p e below (T3.setTop (mkF m 39 _ [(.ref y3)])) _
    refine Gk.astore X3 hx (hb hby d4_39) rfl #[.val (.ref a1), .val (.ref a2), .val (.int (0 : Int32)), .val (.int (4 : Int32)), .val .null, .val (.ref y3)] rfl ?_
    refine Gk.aloadN X3 hx (hb hby d4_41) rfl rfl ?_
    refine Gk.aload X3 hx (hb hby d4_42) rfl rfl ?_
    refine Gk.iloadN X3 hx (hb hby d4_44) rfl ?_
    refine Gk.callS (argsL := [(.ref y3), (.int (4 : Int32))]) X3 hx hZ hown (cf1_4 l Z a0 T3.heap n0 hw y3 k3_ (upd (upd (upd (upd (upd (upd (upd (upd (fun _ => (.int (0 : Int32))) 0 (.int ((c0 >>> ((0 : Int32) &&& 31)).toInt8.toInt32))) 1 (.int ((c0 >>> ((8 : Int32) &&& 31)).toInt8.toInt32))) 2 (.int ((c1 >>> ((0 : Int32) &&& 31)).toInt8.toInt32))) 3 (.int ((c1 >>> ((8 : Int32) &&& 31)).toInt8.toInt32))) 4 (.int ((c2 >>> ((0 : Int32) &&& 31)).toInt8.toInt32))) 5 (.int ((c2 >>> ((8 : Int32) &&& 31)).toInt8.toInt32))) 6 (.int ((c3 >>> ((0 : Int32) &&& 31)).toInt8.toInt32))) 7 (.int ((c3 >>> ((8 : Int32) &&& 31)).toInt8.toInt32))) (Nat.le_trans Z0 K3.1) A3_) (W hw 30 rfl) (W hw 31 rfl) (W hw 24 rfl) (W hw 32 rfl) (by decide) rfl pd_6 rfl rfl rfl (by rw [hml]; rfl) rfl (hb hby d4_45) ?_
    intro T4 L4 v4 X4 hQ4
    obtain ⟨rfl, N4q, e4⟩ := hQ4
    have N4 := Fr.app N3 N4q
    show Go p e below (T4.setTop (mkF m 48 _ [(.int (1 : Int32)), (.ref a1)])) _
    have H5 := (E_a1.keep K3)
    have H6 := (F_coder_a1.keep K3 nin0)
    refine Gk.putFN X4 hx hZ hown (W hw 33 rfl) Via.refl e4 H6 H5 (Or.inr ⟨(W hw 34 rfl), rfl, hnm⟩) (W hw 9 rfl) (ty := .byte) (v' := (.int (1 : Int32))) (by decide) rfl rfl (hb hby d4_48) ?_
    intro T7 h7 X7 e7 W7
    have Fw7 := H6.same W7
    have N7 := Fr.snoc X7 N4 g_a1
    refine Gk.aloadN X7 hx (hb hby d4_51) rfl rfl ?_
    refine Gk.aload X7 hx (hb hby d4_52) rfl rfl ?_
    have H8 := (H5.wr W7)
    have H9 := ((F_value_a1.keep K3 nin0).other W7 (Or.inr (slot_ne (Or.inr (W hw 36 rfl)) (Or.inr (W hw 34 rfl)) (by decide) (t := (.array .byte)) (t' := .byte) (by decide) (by decide))))
    refine Gk.putF X7 hx hZ hown (host := "") (Or.inl (W hw 35 rfl)) Via.refl e7 H9 H8 (Or.inr ⟨(W hw 36 rfl), rfl, hnm⟩) (W hw 9 rfl) (ty := (.array .byte)) (by decide) rfl rfl (hb hby d4_54) ?_
    intro T10 h10 X10 e10 W10
    have Fw10 := H9.same W10
    have N10 := Fr.snoc X10 N7 g_a1
    have H11 := (Fw7.other W10 (Or.inr (slot_ne (Or.inr (W hw 34 rfl)) (Or.inr (W hw 36 rfl)) (by decide) (t := .byte) (t' := (.array .byte)) (by decide) (by decide))))
    have H12 := ((A3_.other W7 ne_y3).other W10 ne_y3)
    exact Gk.rV X10 hx hret hns (hb hby d4_57) e10 ⟨rfl, N10, ((((Keep.refl h0 [a1]).trans K3 all0).wr W7 (Or.inl (List.mem_of_getElem? (i := 0) rfl))).wr W10 (Or.inl (List.mem_of_getElem? (i := 0) rfl))), Or.inr ⟨H11, y3, _, Fw10, H12⟩⟩
  · skip
    have hc0 : ¬ ((255 : Int32) < c0) := fun q_ => hnot (Or.inl q_)
    have hc1 : ¬ ((255 : Int32) < c1) := fun q_ => hnot (Or.inr (Or.inl q_))
    have hc2 : ¬ ((255 : Int32) < c2) := fun q_ => hnot (Or.inr (Or.inr (Or.inl q_)))
    have hc3 : ¬ ((255 : Int32) < c3) := fun q_ => hnot (Or.inr (Or.inr (Or.inr q_)))
    refine Gk.callS (argsL := [(.ref a2), (.int (0 : Int32)), (.int (4 : Int32))]) X2 hx hZ hown (cp1_4 l Z a0 h0 n0 hw a2 kc f c0 c1 c2 c3 Z0 V_a hf0 hf1 hf2 hf3 hc0 hc1 hc2 hc3) (W hw 22 rfl) (W hw 23 rfl) (W hw 24 rfl) (W hw 25 rfl) (by decide) e2 pd_4 rfl rfl rfl (by rw [hml]; rfl) rfl (hb hby d4_36) ?_
    intro T13 L13 v13 X13 hQ13
    obtain ⟨hv13, N13q, K13, k13_, A13_⟩ := hQ13
    have N13 := Fr.app (Fr.nil n0) N13q
    obtain ⟨b13, g13⟩ : ∃ z_, z_ = h0.size := ⟨_, rfl⟩
    rw [← g13] at hv13 A13_
    subst hv13
    have g_b13 : n0 ≤ b13 := Nat.le_trans Z0 (Nat.le_of_eq g13.symm)
    have lt_b13 := A13_.lt
    show Go p e below (T13.setTop (mkF m 39 _ [(.ref b13)])) _
    refine Gk.astore X13 hx (hb hby d4_39) rfl #[.val (.ref a1), .val (.ref a2), .val (.int (0 : Int32)), .val (.int (4 : Int32)), .val .null, .val (.ref b13)] rfl ?_
    refine Gk.aloadN X13 hx (hb hby d4_41) rfl rfl ?_
    refine Gk.aload X13 hx (hb hby d4_42) rfl rfl ?_
    refine Gk.iloadN X13 hx (hb hby d4_44) rfl ?_
    refine Gk.callS (argsL := [(.ref b13), (.int (4 : Int32))]) X13 hx hZ hown (cf0_4 l Z a0 T13.heap n0 hw b13 k13_ (upd (upd (upd (upd (fun _ => (.int (0 : Int32))) 0 (.int (c0.toInt8.toInt32))) 1 (.int (c1.toInt8.toInt32))) 2 (.int (c2.toInt8.toInt32))) 3 (.int (c3.toInt8.toInt32))) (Nat.le_trans Z0 K13.1) A13_) (W hw 30 rfl) (W hw 31 rfl) (W hw 24 rfl) (W hw 32 rfl) (by decide) rfl pd_6 rfl rfl rfl (by rw [hml]; rfl) rfl (hb hby d4_45) ?_
    intro T14 L14 v14 X14 hQ14
    obtain ⟨rfl, N14q, e14⟩ := hQ14
    have N14 := Fr.app N13 N14q
    show Go p e below (T14.setTop (mkF m 48 _ [(.int (0 : Int32)), (.ref a1)])) _
    have H15 := (E_a1.keep K13)
    have H16 := (F_coder_a1.keep K13 nin0)
    refine Gk.putFN X14 hx hZ hown (W hw 33 rfl) Via.refl e14 H16 H15 (Or.inr ⟨(W hw 34 rfl), rfl, hnm⟩) (W hw 9 rfl) (ty := .byte) (v' := (.int (0 : Int32))) (by decide) rfl rfl (hb hby d4_48) ?_
    intro T17 h17 X17 e17 W17
    have Fw17 := H16.same W17
    have N17 := Fr.snoc X17 N14 g_a1
    refine Gk.aloadN X17 hx (hb hby d4_51) rfl rfl ?_
    refine Gk.aload X17 hx (hb hby d4_52) rfl rfl ?_
    have H18 := (H15.wr W17)
    have H19 := ((F_value_a1.keep K13 nin0).other W17 (Or.inr (slot_ne (Or.inr (W hw 36 rfl)) (Or.inr (W hw 34 rfl)) (by decide) (t := (.array .byte)) (t' := .byte) (by decide) (by decide))))
    refine Gk.putF X17 hx hZ hown (host := "") (Or.inl (W hw 35 rfl)) Via.refl e17 H19 H18 (Or.inr ⟨(W hw 36 rfl), rfl, hnm⟩) (W hw 9 rfl) (ty := (.array .byte)) (by decide) rfl rfl (hb hby d4_54) ?_
    intro T20 h20 X20 e20 W20
    have Fw20 := H19.same W20
    have N20 := Fr.snoc X20 N17 g_a1
    have H21 := (Fw17.other W20 (Or.inr (slot_ne (Or.inr (W hw 34 rfl)) (Or.inr (W hw 36 rfl)) (by decide) (t := .byte) (t' := (.array .byte)) (by decide) (by decide))))
    have ne22 : b13 ≠ a1 := (Nat.ne_of_gt (Nat.lt_of_lt_of_le E_a1.lt (Nat.le_trans (Nat.le_refl _) (Nat.le_of_eq g13.symm))))
    have H23 := ((A13_.other W17 ne22).other W20 ne22)
    exact Gk.rV X20 hx hret hns (hb hby d4_57) e20 ⟨rfl, N20, ((((Keep.refl h0 [a1]).trans K13 all0).wr W17 (Or.inl (List.mem_of_getElem? (i := 0) rfl))).wr W20 (Or.inl (List.mem_of_getElem? (i := 0) rfl))), Or.inl ⟨H21, b13, _, Fw20, H23, hc0, hc1, hc2, hc3⟩⟩
theorem str_4 (hw : HW Z a0) (a1 a2 : Addr) (kc : ClassId) (f : Nat → Value) (c0 c1 c2 c3 : Int32) (u_coder_a1 u_value_a1 : Value) (w_COMPACT_STRINGS : Int32) (Z0 : n0 ≤ h0.size) (S_COMPACT_STRINGS : Stx Z n0 h0 "java/lang/String" "COMPACT_STRINGS" "Z" (.int w_COMPACT_STRINGS)) (S__assertionsDisabled : Stx Z n0 h0 "java/lang/StringUTF16" "$assertionsDisabled" "Z" (.int (1 : Int32))) (S_HI_BYTE_SHIFT : Stx Z n0 h0 "java/lang/StringUTF16" "HI_BYTE_SHIFT" "I" (.int (0 : Int32))) (S_LO_BYTE_SHIFT : Stx Z n0 h0 "java/lang/StringUTF16" "LO_BYTE_SHIFT" "I" (.int (8 : Int32))) (E_a1 : Exa Z h0 a1 "java/lang/String") (V_a : Arf Z h0 a2 kc .char (4 : Int32) f) (hf0 : f 0 = (.int c0)) (hf1 : f 1 = (.int c1)) (hf2 : f 2 = (.int c2)) (hf3 : f 3 = (.int c3)) (hb0 : 0 ≤ c0.toInt ∧ c0.toInt < 65536) (hb1 : 0 ≤ c1.toInt ∧ c1.toInt < 65536) (hb2 : 0 ≤ c2.toInt ∧ c2.toInt < 65536) (hb3 : 0 ≤ c3.toInt ∧ c3.toInt < 65536) (hcs : ¬ (w_COMPACT_STRINGS = (0 : Int32))) (F_coder_a1 : Fld Z h0 a1 "java/lang/String" "coder" "B" u_coder_a1) (g_a1 : n0 ≤ a1) (F_value_a1 : Fld Z h0 a1 "java/lang/String" "value" "[B" u_value_a1) : Ct l ⟨"java/lang/String", "<init>", "([C)V"⟩ jdk_42_method_3_code 2 none ⟨5, 2, 12, 74⟩ #[(.ref a1), (.ref a2)] Z h0 (fun v h L => v = none ∧ Fr n0 L ∧ Keep h0 h [a1] ∧ SQ4 Z h a1 c0 c1 c2 c3) := by
  refine Ct.of "java/lang/String" rfl (plainFor_of_name pn_164) #[.val (.ref a1), .val (.ref a2)] rfl rfl ?_
  intro p e s m below meth c s₁ hx hby hml hown hnm hret hns hZ hh X0 e0
  refine Gk.aloadN X0 hx (hb hby d3_0) rfl rfl ?_
  refine Gk.aloadN X0 hx (hb hby d3_1) rfl rfl ?_
  refine Gk.iconst X0 hx (hb hby d3_2) (0 : Int32) rfl ?_
  refine Gk.aloadN X0 hx (hb hby d3_3) rfl rfl ?_
  refine Gk.alen X0 hx hZ e0 V_a (hb hby d3_4) ?_
  refine Gk.aconstNull X0 hx (hb hby d3_5) ?_
  refine Gk.callI (argsL := [(.ref a2), (.int (0 : Int32)), (.int (4 : Int32)), .null]) X0 hx hZ hown (in4_4 l Z a0 h0 n0 hw a1 a2 kc f c0 c1 c2 c3 u_coder_a1 u_value_a1 w_COMPACT_STRINGS Z0 S_COMPACT_STRINGS S__assertionsDisabled S_HI_BYTE_SHIFT S_LO_BYTE_SHIFT E_a1 V_a hf0 hf1 hf2 hf3 hb0 hb1 hb2 hb3 hcs F_coder_a1 g_a1 F_value_a1) rfl (W hw 14 rfl) (W hw 15 rfl) (W hw 17 rfl) rfl (by decide) (W hw 10 rfl) e0 pd_7 rfl rfl rfl (by rw [hml]; rfl) rfl (hb hby d3_6) ?_
  intro T1 L1 v1 X1 hQ1
  obtain ⟨rfl, N1q, K1, sq_⟩ := hQ1
  have N1 := Fr.app (Fr.nil n0) N1q
  show Go p e below (T1.setTop (mkF m 9 _ [])) _
  exact Gk.rV X1 hx hret hns (hb hby d3_9) rfl ⟨rfl, N1, ((Keep.refl h0 [a1]).trans K1 (allS (Or.inl (List.mem_of_getElem? (i := 0) rfl)) all0)), sq_⟩
theorem cu1_5 (hw : HW Z a0) (a1 : Addr) (kc : ClassId) (f : Nat → Value) (c0 c1 c2 c3 c4 : Int32) (Z0 : n0 ≤ h0.size) (S__assertionsDisabled : Stx Z n0 h0 "java/lang/StringUTF16" "$assertionsDisabled" "Z" (.int (1 : Int32))) (S_HI_BYTE_SHIFT : Stx Z n0 h0 "java/lang/StringUTF16" "HI_BYTE_SHIFT" "I" (.int (0 : Int32))) (S_LO_BYTE_SHIFT : Stx Z n0 h0 "java/lang/StringUTF16" "LO_BYTE_SHIFT" "I" (.int (8 : Int32))) (V_a : Arf Z h0 a1 kc .char (5 : Int32) f) (hf0 : f 0 = (.int c0)) (hf1 : f 1 = (.int c1)) (hf2 : f 2 = (.int c2)) (hf3 : f 3 = (.int c3)) (hf4 : f 4 = (.int c4)) (hnot : (255 : Int32) < c0 ∨ (255 : Int32) < c1 ∨ (255 : Int32) < c2 ∨ (255 : Int32) < c3 ∨ (255 : Int32) < c4) (hb0 : 0 ≤ c0.toInt ∧ c0.toInt < 65536) (hb1 : 0 ≤ c1.toInt ∧ c1.toInt < 65536) (hb2 : 0 ≤ c2.toInt ∧ c2.toInt < 65536) (hb3 : 0 ≤ c3.toInt ∧ c3.toInt < 65536) (hb4 : 0 ≤ c4.toInt ∧ c4.toInt < 65536) : Ct l ⟨"java/lang/StringUTF16", "compress", "([CII)[B"⟩ jdk_52_method_16_code 6 (some (.array .byte)) ⟨3, 2, 15, 40⟩ #[(.ref a1), (.int (0 : Int32)), (.int (5 : Int32))] Z h0 (fun v h L => (∃ (b : Addr) (kb : ClassId), v = some (.ref b) ∧ h0.size ≤ b ∧ Arf Z h b kb .byte (10 : Int32) (upd (upd (upd (upd (upd (upd (upd (upd (upd (upd (fun _ => (.int (0 : Int32))) 0 (.int ((c0 >>> ((0 : Int32) &&& 31)).toInt8.toInt32))) 1 (.int ((c0 >>> ((8 : Int32) &&& 31)).toInt8.toInt32))) 2 (.int ((c1 >>> ((0 : Int32) &&& 31)).toInt8.toInt32))) 3 (.int ((c1 >>> ((8 : Int32) &&& 31)).toInt8.toInt32))) 4 (.int ((c2 >>> ((0 : Int32) &&& 31)).toInt8.toInt32))) 5 (.int ((c2 >>> ((8 : Int32) &&& 31)).toInt8.toInt32))) 6 (.int ((c3 >>> ((0 : Int32) &&& 31)).toInt8.toInt32))) 7 (.int ((c3 >>> ((8 : Int32) &&& 31)).toInt8.toInt32))) 8 (.int ((c4 >>> ((0 : Int32) &&& 31)).toInt8.toInt32))) 9 (.int ((c4 >>> ((8 : Int32) &&& 31)).toInt8.toInt32)))) ∧ Fr n0 L ∧ Keep h0 h []) := by
  refine Ct.of "java/lang/StringUTF16" rfl (plainFor_of_name pn_5) #[.val (.ref a1), .val (.int (0 : Int32)), .val (.int (5 : Int32)), .unset, .unset, .unset] rfl rfl ?_
  intro p e s m below meth c s₁ hx hby hml hown hnm hret hns hZ hh X0 e0
  refine Gk.iloadN X0 hx (hb hby d6_0) rfl ?_
  refine Gk.newP X0 hx hZ (W hw 26 rfl) e0 (hb hby d6_1) (by decide) (cap := 5) (by decide) (by decide) (by decide) (by decide) rfl ?_
  intro T1 h1 b1 k1 X1 e1 E1 g1 A1 B1
  have g_b1 : n0 ≤ b1 := Nat.le_trans Z0 (Nat.le_of_eq g1.symm)
  have V_b1 : Arf Z h1 b1 k1 .byte (5 : Int32) (fun _ => (.int (0 : Int32))) := A1
  have lt_b1 := V_b1.lt
  refine Gk.astoreN X1 hx (hb hby d6_3) rfl #[.val (.ref a1), .val (.int (0 : Int32)), .val (.int (5 : Int32)), .val (.ref b1), .unset, .unset] rfl ?_
  refine Gk.aloadN X1 hx (hb hby d6_4) rfl rfl ?_
  refine Gk.iloadN X1 hx (hb hby d6_5) rfl ?_
  refine Gk.aloadN X1 hx (hb hby d6_6) rfl rfl ?_
  refine Gk.iconst X1 hx (hb hby d6_7) (0 : Int32) rfl ?_
  refine Gk.iloadN X1 hx (hb hby d6_8) rfl ?_
  by_cases hc0 : (255 : Int32) < c0
  · skip
    have H3 := (V_a.ext E1)
    have ne4 : a1 ≠ b1 := (Nat.ne_of_lt (Nat.lt_of_lt_of_le V_a.lt (Nat.le_trans (Nat.le_refl _) (Nat.le_of_eq g1.symm))))
    refine Gk.callS (argsL := [(.ref a1), (.int (0 : Int32)), (.ref b1), (.int (0 : Int32)), (.int (5 : Int32))]) X1 hx hZ hown (cu2_0 l Z a0 h1 n0 hw a1 b1 (5 : Int32) kc f c0 k1 (fun _ => (.int (0 : Int32))) (Nat.le_trans Z0 E1.1) H3 V_b1 ne4 hf0 hc0 (by decide)) (W hw 27 rfl) (W hw 28 rfl) (W hw 24 rfl) (W hw 29 rfl) (by decide) e1 pd_3 rfl rfl rfl (by rw [hml]; rfl) rfl (hb hby d6_9) ?_
    intro T2 L2 v2 X2 hQ2
    obtain ⟨rfl, N2q, K2⟩ := hQ2
    have N2 := Fr.app (Fr.nil n0) N2q
    show Go p e below (T2.setTop (mkF m 12 _ [(.int (0 : Int32))])) _
    refine Gk.istore X2 hx (hb hby d6_12) #[.val (.ref a1), .val (.int (0 : Int32)), .val (.int (5 : Int32)), .val (.ref b1), .val (.int (0 : Int32)), .unset] rfl ?_
    refine Gk.iload X2 hx (hb hby d6_14) rfl ?_
    refine Gk.iloadN X2 hx (hb hby d6_16) rfl ?_
    refine Gk.icmpNo X2 hx (hb hby d6_17) (feq (by decide : ¬ ((0 : Int32) = (5 : Int32)))).1 ?_
    refine Gk.aloadN X2 hx (hb hby d6_20) rfl rfl ?_
    refine Gk.iloadN X2 hx (hb hby d6_21) rfl ?_
    refine Gk.iloadN X2 hx (hb hby d6_22) rfl ?_
    have H6 := (H3.keep K2 (ninS ne4 nin0))
    have H7 := ((S__assertionsDisabled.ext E1).keep K2 (allS g_b1 all0))
    have H8 := ((S_HI_BYTE_SHIFT.ext E1).keep K2 (allS g_b1 all0))
    have H9 := ((S_LO_BYTE_SHIFT.ext E1).keep K2 (allS g_b1 all0))
    refine Gk.callS (argsL := [(.ref a1), (.int (0 : Int32)), (.int (5 : Int32))]) X2 hx hZ hown (tb_5 l Z a0 T2.heap n0 hw a1 kc f c0 c1 c2 c3 c4 (Nat.le_trans Z0 (Nat.le_trans E1.1 K2.1)) H7 H8 H9 H6 hf0 hf1 hf2 hf3 hf4) (W hw 78 rfl) (W hw 79 rfl) (W hw 24 rfl) (W hw 80 rfl) (by decide) rfl pd_4 rfl rfl rfl (by rw [hml]; rfl) rfl (hb hby d6_23) ?_
    intro T5 L5 v5 X5 hQ5
    obtain ⟨hv5, N5q, K5, k5_, A5_⟩ := hQ5
    have N5 := Fr.app N2 N5q
    obtain ⟨b5, g5⟩ : ∃ z_, z_ = T2.heap.size := ⟨_, rfl⟩
    rw [← g5] at hv5 A5_
    subst hv5
    have g_b5 : n0 ≤ b5 := Nat.le_trans (Nat.le_trans Z0 (Nat.le_trans E1.1 K2.1)) (Nat.le_of_eq g5.symm)
    have lt_b5 := A5_.lt
    show Go p e below (T5.setTop (mkF m 26 _ [(.ref b5)])) _
    refine Gk.astore X5 hx (hb hby d6_26) rfl #[.val (.ref a1), .val (.int (0 : Int32)), .val (.int (5 : Int32)), .val (.ref b1), .val (.int (0 : Int32)), .val (.ref b5)] rfl ?_
    refine Gk.aload X5 hx (hb hby d6_28) rfl rfl ?_
    refine Gk.iload X5 hx (hb hby d6_30) rfl ?_
    have H11 := (H7.keep K5 all0)
    have H12 := (H8.keep K5 all0)
    have H13 := (H9.keep K5 all0)
    have gr14 := (Nat.le_trans (Nat.le_trans E1.1 K2.1) K5.1)
    refine Gk.callS (argsL := [(.ref b5), (.int (0 : Int32))]) X5 hx hZ hown (gch_0 l Z a0 T5.heap n0 hw b5 k5_ (upd (upd (upd (upd (upd (upd (upd (upd (upd (upd (fun _ => (.int (0 : Int32))) 0 (.int ((c0 >>> ((0 : Int32) &&& 31)).toInt8.toInt32))) 1 (.int ((c0 >>> ((8 : Int32) &&& 31)).toInt8.toInt32))) 2 (.int ((c1 >>> ((0 : Int32) &&& 31)).toInt8.toInt32))) 3 (.int ((c1 >>> ((8 : Int32) &&& 31)).toInt8.toInt32))) 4 (.int ((c2 >>> ((0 : Int32) &&& 31)).toInt8.toInt32))) 5 (.int ((c2 >>> ((8 : Int32) &&& 31)).toInt8.toInt32))) 6 (.int ((c3 >>> ((0 : Int32) &&& 31)).toInt8.toInt32))) 7 (.int ((c3 >>> ((8 : Int32) &&& 31)).toInt8.toInt32))) 8 (.int ((c4 >>> ((0 : Int32) &&& 31)).toInt8.toInt32))) 9 (.int ((c4 >>> ((8 : Int32) &&& 31)).toInt8.toInt32))) (10 : Int32) c0 (Nat.le_trans Z0 gr14) H11 H12 H13 A5_ (by decide) (by decide) rfl rfl hb0) (W hw 94 rfl) (W hw 95 rfl) (W hw 24 rfl) (W hw 96 rfl) (by decide) rfl pd_5 rfl rfl rfl (by rw [hml]; rfl) rfl (hb hby d6_32) ?_
    intro T10 L10 v10 X10 hQ10
    obtain ⟨rfl, N10q, e10⟩ := hQ10
    have N10 := Fr.app N5 N10q
    show Go p e below (T10.setTop (mkF m 35 _ [(.int c0)])) _
    refine Gk.sipush X10 hx (hb hby d6_35) (255 : Int32) rfl ?_
    have hc38 : (255 : Int32) < c0 := hc0
    refine Gk.icmpYes X10 hx (hb hby d6_38) (tlt hc38).2.2.1 54 (by decide) (by decide) ?_
    refine Gk.aload X10 hx (hb hby d6_54) rfl rfl ?_
    exact Gk.rR X10 hx hret rfl rfl rfl hns (hb hby d6_56) e10 ⟨⟨_, _, rfl, (Nat.le_trans (Nat.le_trans E1.1 K2.1) (Nat.le_of_eq g5.symm)), A5_⟩, N10, ((((Keep.refl h0 []).ext E1).trans K2 (allS (Or.inr (Nat.le_trans (Nat.le_refl _) (Nat.le_of_eq g1.symm))) all0)).trans K5 all0)⟩
  · skip
    by_cases hc1 : (255 : Int32) < c1
    · skip
      have H16 := (V_a.ext E1)
      have ne17 : a1 ≠ b1 := (Nat.ne_of_lt (Nat.lt_of_lt_of_le V_a.lt (Nat.le_trans (Nat.le_refl _) (Nat.le_of_eq g1.symm))))
      refine Gk.callS (argsL := [(.ref a1), (.int (0 : Int32)), (.ref b1), (.int (0 : Int32)), (.int (5 : Int32))]) X1 hx hZ hown (cu2_1 l Z a0 h1 n0 hw a1 b1 (5 : Int32) kc f c0 c1 k1 (fun _ => (.int (0 : Int32))) (Nat.le_trans Z0 E1.1) H16 V_b1 ne17 hf0 hf1 hc0 hc1 (by decide) (by decide) g_b1) (W hw 27 rfl) (W hw 28 rfl) (W hw 24 rfl) (W hw 29 rfl) (by decide) e1 pd_3 rfl rfl rfl (by rw [hml]; rfl) rfl (hb hby d6_9) ?_
      intro T15 L15 v15 X15 hQ15
      obtain ⟨rfl, N15q, K15⟩ := hQ15
      have N15 := Fr.app (Fr.nil n0) N15q
      show Go p e below (T15.setTop (mkF m 12 _ [(.int (1 : Int32))])) _
      refine Gk.istore X15 hx (hb hby d6_12) #[.val (.ref a1), .val (.int (0 : Int32)), .val (.int (5 : Int32)), .val (.ref b1), .val (.int (1 : Int32)), .unset] rfl ?_
      refine Gk.iload X15 hx (hb hby d6_14) rfl ?_
      refine Gk.iloadN X15 hx (hb hby d6_16) rfl ?_
      refine Gk.icmpNo X15 hx (hb hby d6_17) (feq (by decide : ¬ ((1 : Int32) = (5 : Int32)))).1 ?_
      refine Gk.aloadN X15 hx (hb hby d6_20) rfl rfl ?_
      refine Gk.iloadN X15 hx (hb hby d6_21) rfl ?_
      refine Gk.iloadN X15 hx (hb hby d6_22) rfl ?_
      have H19 := (H16.keep K15 (ninS ne17 nin0))
      have H20 := ((S__assertionsDisabled.ext E1).keep K15 (allS g_b1 all0))
      have H21 := ((S_HI_BYTE_SHIFT.ext E1).keep K15 (allS g_b1 all0))
      have H22 := ((S_LO_BYTE_SHIFT.ext E1).keep K15 (allS g_b1 all0))
      refine Gk.callS (argsL := [(.ref a1), (.int (0 : Int32)), (.int (5 : Int32))]) X15 hx hZ hown (tb_5 l Z a0 T15.heap n0 hw a1 kc f c0 c1 c2 c3 c4 (Nat.le_trans Z0 (Nat.le_trans E1.1 K15.1)) H20 H21 H22 H19 hf0 hf1 hf2 hf3 hf4) (W hw 78 rfl) (W hw 79 rfl) (W hw 24 rfl) (W hw 80 rfl) (by decide) rfl pd_4 rfl rfl rfl (by rw [hml]; rfl) rfl (hb hby d6_23) ?_
      intro T18 L18 v18 X18 hQ18
      obtain ⟨hv18, N18q, K18, k18_, A18_⟩ := hQ18
      have N18 := Fr.app N15 N18q
      obtain ⟨b18, g18⟩ : ∃ z_, z_ = T15.heap.size := ⟨_, rfl⟩
      rw [← g18] at hv18 A18_
      subst hv18
      have g_b18 : n0 ≤ b18 := Nat.le_trans (Nat.le_trans Z0 (Nat.le_trans E1.1 K15.1)) (Nat.le_of_eq g18.symm)
      have lt_b18 := A18_.lt
      show Go p e below (T18.setTop (mkF m 26 _ [(.ref b18)])) _
      refine Gk.astore X18 hx (hb hby d6_26) rfl #[.val (.ref a1), .val (.int (0 : Int32)), .val (.int (5 : Int32)), .val (.ref b1), .val (.int (1 : Int32)), .val (.ref b18)] rfl ?_
      refine Gk.aload X18 hx (hb hby d6_28) rfl rfl ?_
      refine Gk.iload X18 hx (hb hby d6_30) rfl ?_
      have H24 := (H20.keep K18 all0)
      have H25 := (H21.keep K18 all0)
      have H26 := (H22.keep K18 all0)
      have gr27 := (Nat.le_trans (Nat.le_trans E1.1 K15.1) K18.1)
      refine Gk.callS (argsL := [(.ref b18), (.int (1 : Int32))]) X18 hx hZ hown (gch_1 l Z a0 T18.heap n0 hw b18 k18_ (upd (upd (upd (upd (upd (upd (upd (upd (upd (upd (fun _ => (.int (0 : Int32))) 0 (.int ((c0 >>> ((0 : Int32) &&& 31)).toInt8.toInt32))) 1 (.int ((c0 >>> ((8 : Int32) &&& 31)).toInt8.toInt32))) 2 (.int ((c1 >>> ((0 : Int32) &&& 31)).toInt8.toInt32))) 3 (.int ((c1 >>> ((8 : Int32) &&& 31)).toInt8.toInt32))) 4 (.int ((c2 >>> ((0 : Int32) &&& 31)).toInt8.toInt32))) 5 (.int ((c2 >>> ((8 : Int32) &&& 31)).toInt8.toInt32))) 6 (.int ((c3 >>> ((0 : Int32) &&& 31)).toInt8.toInt32))) 7 (.int ((c3 >>> ((8 : Int32) &&& 31)).toInt8.toInt32))) 8 (.int ((c4 >>> ((0 : Int32) &&& 31)).toInt8.toInt32))) 9 (.int ((c4 >>> ((8 : Int32) &&& 31)).toInt8.toInt32))) (10 : Int32) c1 (Nat.le_trans Z0 gr27) H24 H25 H26 A18_ (by decide) (by decide) rfl rfl hb1) (W hw 94 rfl) (W hw 95 rfl) (W hw 24 rfl) (W hw 96 rfl) (by decide) rfl pd_5 rfl rfl rfl (by rw [hml]; rfl) rfl (hb hby d6_32) ?_
      intro T23 L23 v23 X23 hQ23
      obtain ⟨rfl, N23q, e23⟩ := hQ23
      have N23 := Fr.app N18 N23q
      show Go p e below (T23.setTop (mkF m 35 _ [(.int c1)])) _
      refine Gk.sipush X23 hx (hb hby d6_35) (255 : Int32) rfl ?_
      have hc38 : (255 : Int32) < c1 := hc1
      refine Gk.icmpYes X23 hx (hb hby d6_38) (tlt hc38).2.2.1 54 (by decide) (by decide) ?_
      refine Gk.aload X23 hx (hb hby d6_54) rfl rfl ?_
      exact Gk.rR X23 hx hret rfl rfl rfl hns (hb hby d6_56) e23 ⟨⟨_, _, rfl, (Nat.le_trans (Nat.le_trans E1.1 K15.1) (Nat.le_of_eq g18.symm)), A18_⟩, N23, ((((Keep.refl h0 []).ext E1).trans K15 (allS (Or.inr (Nat.le_trans (Nat.le_refl _) (Nat.le_of_eq g1.symm))) all0)).trans K18 all0)⟩
    · skip
      by_cases hc2 : (255 : Int32) < c2
      · skip
        have H29 := (V_a.ext E1)
        have ne30 : a1 ≠ b1 := (Nat.ne_of_lt (Nat.lt_of_lt_of_le V_a.lt (Nat.le_trans (Nat.le_refl _) (Nat.le_of_eq g1.symm))))
        refine Gk.callS (argsL := [(.ref a1), (.int (0 : Int32)), (.ref b1), (.int (0 : Int32)), (.int (5 : Int32))]) X1 hx hZ hown (cu2_2 l Z a0 h1 n0 hw a1 b1 (5 : Int32) kc f c0 c1 c2 k1 (fun _ => (.int (0 : Int32))) (Nat.le_trans Z0 E1.1) H29 V_b1 ne30 hf0 hf1 hf2 hc0 hc1 hc2 (by decide) (by decide) (by decide) g_b1) (W hw 27 rfl) (W hw 28 rfl) (W hw 24 rfl) (W hw 29 rfl) (by decide) e1 pd_3 rfl rfl rfl (by rw [hml]; rfl) rfl (hb hby d6_9) ?_
        intro T28 L28 v28 X28 hQ28
        obtain ⟨rfl, N28q, K28⟩ := hQ28
        have N28 := Fr.app (Fr.nil n0) N28q
        show Go p e below (T28.setTop (mkF m 12 _ [(.int (2 : Int32))])) _
        refine Gk.istore X28 hx (hb hby d6_12) #[.val (.ref a1), .val (.int (0 : Int32)), .val (.int (5 : Int32)), .val (.ref b1), .val (.int (2 : Int32)), .unset] rfl ?_
        refine Gk.iload X28 hx (hb hby d6_14) rfl ?_
        refine Gk.iloadN X28 hx (hb hby d6_16) rfl ?_
        refine Gk.icmpNo X28 hx (hb hby d6_17) (feq (by decide : ¬ ((2 : Int32) = (5 : Int32)))).1 ?_
        refine Gk.aloadN X28 hx (hb hby d6_20) rfl rfl ?_
        refine Gk.iloadN X28 hx (hb hby d6_21) rfl ?_
        refine Gk.iloadN X28 hx (hb hby d6_22) rfl ?_
        have H32 := (H29.keep K28 (ninS ne30 nin0))
        have H33 := ((S__assertionsDisabled.ext E1).keep K28 (allS g_b1 all0))
        have H34 := ((S_HI_BYTE_SHIFT.ext E1).keep K28 (allS g_b1 all0))
        have H35 := ((S_LO_BYTE_SHIFT.ext E1).keep K28 (allS g_b1 all0))
        refine Gk.callS (argsL := [(.ref a1), (.int (0 : Int32)), (.int (5 : Int32))]) X28 hx hZ hown (tb_5 l Z a0 T28.heap n0 hw a1 kc f c0 c1 c2 c3 c4 (Nat.le_trans Z0 (Nat.le_trans E1.1 K28.1)) H33 H34 H35 H32 hf0 hf1 hf2 hf3 hf4) (W hw 78 rfl) (W hw 79 rfl) (W hw 24 rfl) (W hw 80 rfl) (by decide) rfl pd_4 rfl rfl rfl (by rw [hml]; rfl) rfl (hb hby d6_23) ?_
        intro T31 L31 v31 X31 hQ31
        obtain ⟨hv31, N31q, K31, k31_, A31_⟩ := hQ31
        have N31 := Fr.app N28 N31q
        obtain ⟨b31, g31⟩ : ∃ z_, z_ = T28.heap.size := ⟨_, rfl⟩
        rw [← g31] at hv31 A31_
        subst hv31
        have g_b31 : n0 ≤ b31 := Nat.le_trans (Nat.le_trans Z0 (Nat.le_trans E1.1 K28.1)) (Nat.le_of_eq g31.symm)
        have lt_b31 := A31_.lt
        show Go p e below (T31.setTop (mkF m 26 _ [(.ref b31)])) _
        refine Gk.astore X31 hx (hb hby d6_26) rfl #[.val (.ref a1), .val (.int (0 : Int32)), .val (.int (5 : Int32)), .val (.ref b1), .val (.int (2 : Int32)), .val (.ref b31)] rfl ?_
        refine Gk.aload X31 hx (hb hby d6_28) rfl rfl ?_
        refine Gk.iload X31 hx (hb hby d6_30) rfl ?_
        have H37 := (H33.keep K31 all0)
        have H38 := (H34.keep K31 all0)
        have H39 := (H35.keep K31 all0)
        have gr40 := (Nat.le_trans (Nat.le_trans E1.1 K28.1) K31.1)
        refine Gk.callS (argsL := [(.ref b31), (.int (2 : Int32))]) X31 hx hZ hown (gch_2 l Z a0 T31.heap n0 hw b31 k31_ (upd (upd (upd (upd (upd (upd (upd (upd (upd (upd (fun _ => (.int (0 : Int32))) 0 (.int ((c0 >>> ((0 : Int32) &&& 31)).toInt8.toInt32))) 1 (.int ((c0 >>> ((8 : Int32) &&& 31)).toInt8.toInt32))) 2 (.int ((c1 >>> ((0 : Int32) &&& 31)).toInt8.toInt32))) 3 (.int ((c1 >>> ((8 : Int32) &&& 31)).toInt8.toInt32))) 4 (.int ((c2 >>> ((0 : Int32) &&& 31)).toInt8.toInt32))) 5 (.int ((c2 >>> ((8 : Int32) &&& 31)).toInt8.toInt32))) 6 (.int ((c3 >>> ((0 : Int32) &&& 31)).toInt8.toInt32))) 7 (.int ((c3 >>> ((8 : Int32) &&& 31)).toInt8.toInt32))) 8 (.int ((c4 >>> ((0 : Int32) &&& 31)).toInt8.toInt32))) 9 (.int ((c4 >>> ((8 : Int32) &&& 31)).toInt8.toInt32))) (10 : Int32) c2 (Nat.le_trans Z0 gr40) H37 H38 H39 A31_ (by decide) (by decide) rfl rfl hb2) (W hw 94 rfl) (W hw 95 rfl) (W hw 24 rfl) (W hw 96 rfl) (by decide) rfl pd_5 rfl rfl rfl (by rw [hml]; rfl) rfl (hb hby d6_32) ?_
        intro T36 L36 v36 X36 hQ36
        obtain ⟨rfl, N36q, e36⟩ := hQ36
        have N36 := Fr.app N31 N36q
        show Go p e below (T36.setTop (mkF m 35 _ [(.int c2)])) _
        refine Gk.sipush X36 hx (hb hby d6_35) (255 : Int32) rfl ?_
        have hc38 : (255 : Int32) < c2 := hc2
        refine Gk.icmpYes X36 hx (hb hby d6_38) (tlt hc38).2.2.1 54 (by decide) (by decide) ?_
        refine Gk.aload X36 hx (hb hby d6_54) rfl rfl ?_
        exact Gk.rR X36 hx hret rfl rfl rfl hns (hb hby d6_56) e36 ⟨⟨_, _, rfl, (Nat.le_trans (Nat.le_trans E1.1 K28.1) (Nat.le_of_eq g31.symm)), A31_⟩, N36, ((((Keep.refl h0 []).ext E1).trans K28 (allS (Or.inr (Nat.le_trans (Nat.le_refl _) (Nat.le_of_eq g1.symm))) all0)).trans K31 all0)⟩
      · skip
        by_cases hc3 : (255 : Int32) < c3
        · skip
          have H42 := (V_a.ext E1)
          have ne43 : a1 ≠ b1 := (Nat.ne_of_lt (Nat.lt_of_lt_of_le V_a.lt (Nat.le_trans (Nat.le_refl _) (Nat.le_of_eq g1.symm))))
          refine Gk.callS (argsL := [(.ref a1), (.int (0 : Int32)), (.ref b1), (.int (0 : Int32)), (.int (5 : Int32))]) X1 hx hZ hown (cu2_3 l Z a0 h1 n0 hw a1 b1 (5 : Int32) kc f c0 c1 c2 c3 k1 (fun _ => (.int (0 : Int32))) (Nat.le_trans Z0 E1.1) H42 V_b1 ne43 hf0 hf1 hf2 hf3 hc0 hc1 hc2 hc3 (by decide) (by decide) (by decide) (by decide) g_b1) (W hw 27 rfl) (W hw 28 rfl) (W hw 24 rfl) (W hw 29 rfl) (by decide) e1 pd_3 rfl rfl rfl (by rw [hml]; rfl) rfl (hb hby d6_9) ?_
          intro T41 L41 v41 X41 hQ41
          obtain ⟨rfl, N41q, K41⟩ := hQ41
          have N41 := Fr.app (Fr.nil n0) N41q
          show Go p e below (T41.setTop (mkF m 12 _ [(.int (3 : Int32))])) _
          refine Gk.istore X41 hx (hb hby d6_12) #[.val (.ref a1), .val (.int (0 : Int32)), .val (.int (5 : Int32)), .val (.ref b1), .val (.int (3 : Int32)), .unset] rfl ?_
          refine Gk.iload X41 hx (hb hby d6_14) rfl ?_
          refine Gk.iloadN X41 hx (hb hby d6_16) rfl ?_
          refine Gk.icmpNo X41 hx (hb hby d6_17) (feq (by decide : ¬ ((3 : Int32) = (5 : Int32)))).1 ?_
          refine Gk.aloadN X41 hx (hb hby d6_20) rfl rfl ?_
          refine Gk.iloadN X41 hx (hb hby d6_21) rfl ?_
          refine Gk.iloadN X41 hx (hb hby d6_22) rfl ?_
          have H45 := (H42.keep K41 (ninS ne43 nin0))
          have H46 := ((S__assertionsDisabled.ext E1).keep K41 (allS g_b1 all0))
          have H47 := ((S_HI_BYTE_SHIFT.ext E1).keep K41 (allS g_b1 all0))
          have H48 := ((S_LO_BYTE_SHIFT.ext E1).keep K41 (allS g_b1 all0))
          refine Gk.callS (argsL := [(.ref a1), (.int (0 : Int32)), (.int (5 : Int32))]) X41 hx hZ hown (tb_5 l Z a0 T41.heap n0 hw a1 kc f c0 c1 c2 c3 c4 (Nat.le_trans Z0 (Nat.le_trans E1.1 K41.1)) H46 H47 H48 H45 hf0 hf1 hf2 hf3 hf4) (W hw 78 rfl) (W hw 79 rfl) (W hw 24 rfl) (W hw 80 rfl) (by decide) rfl pd_4 rfl rfl rfl (by rw [hml]; rfl) rfl (hb hby d6_23) ?_
          intro T44 L44 v44 X44 hQ44
          obtain ⟨hv44, N44q, K44, k44_, A44_⟩ := hQ44
          have N44 := Fr.app N41 N44q
          obtain ⟨b44, g44⟩ : ∃ z_, z_ = T41.heap.size := ⟨_, rfl⟩
          rw [← g44] at hv44 A44_
          subst hv44
          have g_b44 : n0 ≤ b44 := Nat.le_trans (Nat.le_trans Z0 (Nat.le_trans E1.1 K41.1)) (Nat.le_of_eq g44.symm)
          have lt_b44 := A44_.lt
          show Go p e below (T44.setTop (mkF m 26 _ [(.ref b44)])) _
          refine Gk.astore X44 hx (hb hby d6_26) rfl #[.val (.ref a1), .val (.int (0 : Int32)), .val (.int (5 : Int32)), .val (.ref b1), .val (.int (3 : Int32)), .val (.ref b44)] rfl ?_
          refine Gk.aload X44 hx (hb hby d6_28) rfl rfl ?_
          refine Gk.iload X44 hx (hb hby d6_30) rfl ?_
          have H50 := (H46.keep K44 all0)
          have H51 := (H47.keep K44 all0)
          have H52 := (H48.keep K44 all0)
          have gr53 := (Nat.le_trans (Nat.le_trans E1.1 K41.1) K44.1)
          refine Gk.callS (argsL := [(.ref b44), (.int (3 : Int32))]) X44 hx hZ hown (gch_3 l Z a0 T44.heap n0 hw b44 k44_ (upd (upd (upd (upd (upd (upd (upd (upd (upd (upd (fun _ => (.int (0 : Int32))) 0 (.int ((c0 >>> ((0 : Int32) &&& 31)).toInt8.toInt32))) 1 (.int ((c0 >>> ((8 : Int32) &&& 31)).toInt8.toInt32))) 2 (.int ((c1 >>> ((0 : Int32) &&& 31)).toInt8.toInt32))) 3 (.int ((c1 >>> ((8 : Int32) &&& 31)).toInt8.toInt32))) 4 (.int ((c2 >>> ((0 : Int32) &&& 31)).toInt8.toInt32))) 5 (.int ((c2 >>> ((8 : Int32) &&& 31)).toInt8.toInt32))) 6 (.int ((c3 >>> ((0 : Int32) &&& 31)).toInt8.toInt32))) 7 (.int ((c3 >>> ((8 : Int32) &&& 31)).toInt8.toInt32))) 8 (.int ((c4 >>> ((0 : Int32) &&& 31)).toInt8.toInt32))) 9 (.int ((c4 >>> ((8 : Int32) &&& 31)).toInt8.toInt32))) (10 : Int32) c3 (Nat.le_trans Z0 gr53) H50 H51 H52 A44_ (by decide) (by decide) rfl rfl hb3) (W hw 94 rfl) (W hw 95 rfl) (W hw 24 rfl) (W hw 96 rfl) (by decide) rfl pd_5 rfl rfl rfl (by rw [hml]; rfl) rfl (hb hby d6_32) ?_
          intro T49 L49 v49 X49 hQ49
          obtain ⟨rfl, N49q, e49⟩ := hQ49
          have N49 := Fr.app N44 N49q
          show Go p e below (T49.setTop (mkF m 35 _ [(.int c3)])) _
          refine Gk.sipush X49 hx (hb hby d6_35) (255 : Int32) rfl ?_
          have hc38 : (255 : Int32) < c3 := hc3
          refine Gk.icmpYes X49 hx (hb hby d6_38) (tlt hc38).2.2.1 54 (by decide) (by decide) ?_
          refine Gk.aload X49 hx (hb hby d6_54) rfl rfl ?_
          exact Gk.rR X49 hx hret rfl rfl rfl hns (hb hby d6_56) e49 ⟨⟨_, _, rfl, (Nat.le_trans (Nat.le_trans E1.1 K41.1) (Nat.le_of_eq g44.symm)), A44_⟩, N49, ((((Keep.refl h0 []).ext E1).trans K41 (allS (Or.inr (Nat.le_trans (Nat.le_refl _) (Nat.le_of_eq g1.symm))) all0)).trans K44 all0)⟩
        · skip
          have hc4 := ((((hnot.resolve_left hc0).resolve_left hc1).resolve_left hc2).resolve_left hc3)
          have H55 := (V_a.ext E1)
          have ne56 : a1 ≠ b1 := (Nat.ne_of_lt (Nat.lt_of_lt_of_le V_a.lt (Nat.le_trans (Nat.le_refl _) (Nat.le_of_eq g1.symm))))
          refine Gk.callS (argsL := [(.ref a1), (.int (0 : Int32)), (.ref b1), (.int (0 : Int32)), (.int (5 : Int32))]) X1 hx hZ hown (cu2_4 l Z a0 h1 n0 hw a1 b1 (5 : Int32) kc f c0 c1 c2 c3 c4 k1 (fun _ => (.int (0 : Int32))) (Nat.le_trans Z0 E1.1) H55 V_b1 ne56 hf0 hf1 hf2 hf3 hf4 hc0 hc1 hc2 hc3 hc4 (by decide) (by decide) (by decide) (by decide) (by decide) g_b1) (W hw 27 rfl) (W hw 28 rfl) (W hw 24 rfl) (W hw 29 rfl) (by decide) e1 pd_3 rfl rfl rfl (by rw [hml]; rfl) rfl (hb hby d6_9) ?_
          intro T54 L54 v54 X54 hQ54
          obtain ⟨rfl, N54q, K54⟩ := hQ54
          have N54 := Fr.app (Fr.nil n0) N54q
          show Go p e below (T54.setTop (mkF m 12 _ [(.int (4 : Int32))])) _
          refine Gk.istore X54 hx (hb hby d6_12) #[.val (.ref a1), .val (.int (0 : Int32)), .val (.int (5 : Int32)), .val (.ref b1), .val (.int (4 : Int32)), .unset] rfl ?_
          refine Gk.iload X54 hx (hb hby d6_14) rfl ?_
          refine Gk.iloadN X54 hx (hb hby d6_16) rfl ?_
          refine Gk.icmpNo X54 hx (hb hby d6_17) (feq (by decide : ¬ ((4 : Int32) = (5 : Int32)))).1 ?_
          refine Gk.aloadN X54 hx (hb hby d6_20) rfl rfl ?_
          refine Gk.iloadN X54 hx (hb hby d6_21) rfl ?_
          refine Gk.iloadN X54 hx (hb hby d6_22) rfl ?_
          have H58 := (H55.keep K54 (ninS ne56 nin0))
          have H59 := ((S__assertionsDisabled.ext E1).keep K54 (allS g_b1 all0))
          have H60 := ((S_HI_BYTE_SHIFT.ext E1).keep K54 (allS g_b1 all0))
          have H61 := ((S_LO_BYTE_SHIFT.ext E1).keep K54 (allS g_b1 all0))
          refine Gk.callS (argsL := [(.ref a1), (.int (0 : Int32)), (.int (5 : Int32))]) X54 hx hZ hown (tb_5 l Z a0 T54.heap n0 hw a1 kc f c0 c1 c2 c3 c4 (Nat.le_trans Z0 (Nat.le_trans E1.1 K54.1)) H59 H60 H61 H58 hf0 hf1 hf2 hf3 hf4) (W hw 78 rfl) (W hw 79 rfl) (W hw 24 rfl) (W hw 80 rfl) (by decide) rfl pd_4 rfl rfl rfl (by rw [hml]; rfl) rfl (hb hby d6_23) ?_
          intro T57 L57 v57 X57 hQ57
          obtain ⟨hv57, N57q, K57, k57_, A57_⟩ := hQ57
          have N57 := Fr.app N54 N57q
          obtain ⟨b57, g57⟩ : ∃ z_, z_ = T54.heap.size := ⟨_, rfl⟩
          rw [← g57] at hv57 A57_
          subst hv57
          have g_b57 : n0 ≤ b57 := Nat.le_trans (Nat.le_trans Z0 (Nat.le_trans E1.1 K54.1)) (Nat.le_of_eq g57.symm)
          have lt_b57 := A57_.lt
          show Go p e below (T57.setTop (mkF m 26 _ [(.ref b57)])) _
          refine Gk.astore X57 hx (hb hby d6_26) rfl #[.val (.ref a1), .val (.int (0 : Int32)), .val (.int (5 : Int32)), .val (.ref b1), .val (.int (4 : Int32)), .val (.ref b57)] rfl ?_
          refine Gk.aload X57 hx (hb hby d6_28) rfl rfl ?_
          refine Gk.iload X57 hx (hb hby d6_30) rfl ?_
          have H63 := (H59.keep K57 all0)
          have H64 := (H60.keep K57 all0)
          have H65 := (H61.keep K57 all0)
          have gr66 := (Nat.le_trans (Nat.le_trans E1.1 K54.1) K57.1)
          refine Gk.callS (argsL := [(.ref b57), (.int (4 : Int32))]) X57 hx hZ hown (gch_4 l Z a0 T57.heap n0 hw b57 k57_ (upd (upd (upd (upd (upd (upd (upd (upd (upd (upd (fun _ => (.int (0 : Int32))) 0 (.int ((c0 >>> ((0 : Int32) &&& 31)).toInt8.toInt32))) 1 (.int ((c0 >>> ((8 : Int32) &&& 31)).toInt8.toInt32))) 2 (.int ((c1 >>> ((0 : Int32) &&& 31)).toInt8.toInt32))) 3 (.int ((c1 >>> ((8 : Int32) &&& 31)).toInt8.toInt32))) 4 (.int ((c2 >>> ((0 : Int32) &&& 31)).toInt8.toInt32))) 5 (.int ((c2 >>> ((8 : Int32) &&& 31)).toInt8.toInt32))) 6 (.int ((c3 >>> ((0 : Int32) &&& 31)).toInt8.toInt32))) 7 (.int ((c3 >>> ((8 : Int32) &&& 31)).toInt8.toInt32))) 8 (.int ((c4 >>> ((0 : Int32) &&& 31)).toInt8.toInt32))) 9 (.int ((c4 >>> ((8 : Int32) &&& 31)).toInt8.toInt32))) (10 : Int32) c4 (Nat.le_trans Z0 gr66) H63 H64 H65 A57_ (by decide) (by decide) rfl rfl hb4) (W hw 94 rfl) (W hw 95 rfl) (W hw 24 rfl) (W hw 96 rfl) (by decide) rfl pd_5 rfl rfl rfl (by rw [hml]; rfl) rfl (hb hby d6_32) ?_
          intro T62 L62 v62 X62 hQ62
          obtain ⟨rfl, N62q, e62⟩ := hQ62
          have N62 := Fr.app N57 N62q
          show Go p e below (T62.setTop (mkF m 35 _ [(.int c4)])) _
          refine Gk.sipush X62 hx (hb hby d6_35) (255 : Int32) rfl ?_
          have hc38 : (255 : Int32) < c4 := hc4
          refine Gk.icmpYes X62 hx (hb hby d6_38) (tlt hc38).2.2.1 54 (by decide) (by decide) ?_
          refine Gk.aload X62 hx (hb hby d6_54) rfl rfl ?_
          exact Gk.rR X62 hx hret rfl rfl rfl hns (hb hby d6_56) e62 ⟨⟨_, _, rfl, (Nat.le_trans (Nat.le_trans E1.1 K54.1) (Nat.le_of_eq g57.symm)), A57_⟩, N62, ((((Keep.refl h0 []).ext E1).trans K54 (allS (Or.inr (Nat.le_trans (Nat.le_refl _) (Nat.le_of_eq g1.symm))) all0)).trans K57 all0)⟩
theorem cp2_5 (hw : HW Z a0) (a1 a3 : Addr) (kc : ClassId) (f : Nat → Value) (c0 c1 c2 c3 c4 : Int32) (kb : ClassId) (fb : Nat → Value) (Z0 : n0 ≤ h0.size) (V_a : Arf Z h0 a1 kc .char (5 : Int32) f) (V_b : Arf Z h0 a3 kb .byte (5 : Int32) fb) (hne : a1 ≠ a3) (hf0 : f 0 = (.int c0)) (hf1 : f 1 = (.int c1)) (hf2 : f 2 = (.int c2)) (hf3 : f 3 = (.int c3)) (hf4 : f 4 = (.int c4)) (hc0 : ¬ ((255 : Int32) < c0)) (hc1 : ¬ ((255 : Int32) < c1)) (hc2 : ¬ ((255 : Int32) < c2)) (hc3 : ¬ ((255 : Int32) < c3)) (hc4 : ¬ ((255 : Int32) < c4)) (g_a3 : n0 ≤ a3) : Ct l ⟨"java/lang/StringUTF16", "compress", "([CI[BII)I"⟩ jdk_52_method_21_code 7 (some .int) ⟨0, 0, 0, 0⟩ #[(.ref a1), (.int (0 : Int32)), (.ref a3), (.int (0 : Int32)), (.int (5 : Int32))] Z h0 (fun v h L => v = some (.int (5 : Int32)) ∧ Fr n0 L ∧ Keep h0 h [a3] ∧ Arf Z h a3 kb .byte (5 : Int32) (upd (upd (upd (upd (upd fb 0 (.int (c0.toInt8.toInt32))) 1 (.int (c1.toInt8.toInt32))) 2 (.int (c2.toInt8.toInt32))) 3 (.int (c3.toInt8.toInt32))) 4 (.int (c4.toInt8.toInt32)))) := by
  refine Ct.of "java/lang/StringUTF16" rfl (plainFor_of_name pn_5) #[.val (.ref a1), .val (.int (0 : Int32)), .val (.ref a3), .val (.int (0 : Int32)), .val (.int (5 : Int32)), .unset, .unset] rfl rfl ?_
  intro p e s m below meth c s₁ hx hby hml hown hnm hret hns hZ hh X0 e0
  refine Gk.iconst X0 hx (hb hby d7_0) (0 : Int32) rfl ?_
  refine Gk.istore X0 hx (hb hby d7_1) #[.val (.ref a1), .val (.int (0 : Int32)), .val (.ref a3), .val (.int (0 : Int32)), .val (.int (5 : Int32)), .val (.int (0 : Int32)), .unset] rfl ?_
  refine Gk.iload X0 hx (hb hby d7_3) rfl ?_
  refine Gk.iload X0 hx (hb hby d7_5) rfl ?_
  refine Gk.icmpNo X0 hx (hb hby d7_7) (tlt (by decide : (0 : Int32) < (5 : Int32))).2.1 ?_
  refine Gk.aloadN X0 hx (hb hby d7_10) rfl rfl ?_
  refine Gk.iloadN X0 hx (hb hby d7_11) rfl ?_
  refine Gk.caload X0 hx hZ e0 V_a ⟨by decide, by decide⟩ (.int c0) hf0 (hb hby d7_12) ?_
  refine Gk.istore X0 hx (hb hby d7_13) #[.val (.ref a1), .val (.int (0 : Int32)), .val (.ref a3), .val (.int (0 : Int32)), .val (.int (5 : Int32)), .val (.int (0 : Int32)), .val (.int c0)] rfl ?_
  refine Gk.iload X0 hx (hb hby d7_15) rfl ?_
  refine Gk.sipush X0 hx (hb hby d7_17) (255 : Int32) rfl ?_
  have hc20 : ¬ ((255 : Int32) < c0) := hc0
  refine Gk.icmpYes X0 hx (hb hby d7_20) (flt hc20).2.2.2 26 (by decide) (by decide) ?_
  refine Gk.aloadN X0 hx (hb hby d7_26) rfl rfl ?_
  refine Gk.iloadN X0 hx (hb hby d7_27) rfl ?_
  refine Gk.iload X0 hx (hb hby d7_28) rfl ?_
  refine Gk.i2b X0 hx (hb hby d7_30) _ rfl ?_
  refine Gk.bastoreB X0 hx hZ e0 V_b 0 rfl ⟨by decide, by decide⟩ (.int (c0.toInt8.toInt32)) (congrArg Value.int (own_nb _)) (hb hby d7_31) ?_
  intro T2 h2 X2 e2 W2 V2
  have N2 := Fr.snoc X2 (Fr.nil n0) g_a3
  refine Gk.iinc X2 hx (hb hby d7_32) rfl #[.val (.ref a1), .val (.int (1 : Int32)), .val (.ref a3), .val (.int (0 : Int32)), .val (.int (5 : Int32)), .val (.int (0 : Int32)), .val (.int c0)] rfl ?_
  refine Gk.iinc X2 hx (hb hby d7_35) rfl #[.val (.ref a1), .val (.int (1 : Int32)), .val (.ref a3), .val (.int (1 : Int32)), .val (.int (5 : Int32)), .val (.int (0 : Int32)), .val (.int c0)] rfl ?_
  refine Gk.iinc X2 hx (hb hby d7_38) rfl #[.val (.ref a1), .val (.int (1 : Int32)), .val (.ref a3), .val (.int (1 : Int32)), .val (.int (5 : Int32)), .val (.int (1 : Int32)), .val (.int c0)] rfl ?_
  refine Gk.goto X2 hx (hb hby d7_41) 3 (by decide) (by decide) ?_
  refine Gk.iload X2 hx (hb hby d7_3) rfl ?_
  refine Gk.iload X2 hx (hb hby d7_5) rfl ?_
  refine Gk.icmpNo X2 hx (hb hby d7_7) (tlt (by decide : (1 : Int32) < (5 : Int32))).2.1 ?_
  refine Gk.aloadN X2 hx (hb hby d7_10) rfl rfl ?_
  refine Gk.iloadN X2 hx (hb hby d7_11) rfl ?_
  have H4 := (V_a.other W2 hne)
  refine Gk.caload X2 hx hZ e2 H4 ⟨by decide, by decide⟩ (.int c1) hf1 (hb hby d7_12) ?_
  refine Gk.istore X2 hx (hb hby d7_13) #[.val (.ref a1), .val (.int (1 : Int32)), .val (.ref a3), .val (.int (1 : Int32)), .val (.int (5 : Int32)), .val (.int (1 : Int32)), .val (.int c1)] rfl ?_
  refine Gk.iload X2 hx (hb hby d7_15) rfl ?_
  refine Gk.sipush X2 hx (hb hby d7_17) (255 : Int32) rfl ?_
  have hc20_1 : ¬ ((255 : Int32) < c1) := hc1
  refine Gk.icmpYes X2 hx (hb hby d7_20) (flt hc20_1).2.2.2 26 (by decide) (by decide) ?_
  refine Gk.aloadN X2 hx (hb hby d7_26) rfl rfl ?_
  refine Gk.iloadN X2 hx (hb hby d7_27) rfl ?_
  refine Gk.iload X2 hx (hb hby d7_28) rfl ?_
  refine Gk.i2b X2 hx (hb hby d7_30) _ rfl ?_
  refine Gk.bastoreB X2 hx hZ e2 V2 1 rfl ⟨by decide, by decide⟩ (.int (c1.toInt8.toInt32)) (congrArg Value.int (own_nb _)) (hb hby d7_31) ?_
  intro T5 h5 X5 e5 W5 V5
  have N5 := Fr.snoc X5 N2 g_a3
  refine Gk.iinc X5 hx (hb hby d7_32) rfl #[.val (.ref a1), .val (.int (2 : Int32)), .val (.ref a3), .val (.int (1 : Int32)), .val (.int (5 : Int32)), .val (.int (1 : Int32)), .val (.int c1)] rfl ?_
  refine Gk.iinc X5 hx (hb hby d7_35) rfl #[.val (.ref a1), .val (.int (2 : Int32)), .val (.ref a3), .val (.int (2 : Int32)), .val (.int (5 : Int32)), .val (.int (1 : Int32)), .val (.int c1)] rfl ?_
  refine Gk.iinc X5 hx (hb hby d7_38) rfl #[.val (.ref a1), .val (.int (2 : Int32)), .val (.ref a3), .val (.int (2 : Int32)), .val (.int (5 : Int32)), .val (.int (2 : Int32)), .val (.int c1)] rfl ?_
  refine Gk.goto X5 hx (hb hby d7_41) 3 (by decide) (by decide) ?_
  refine Gk.iload X5 hx (hb hby d7_3) rfl ?_
  refine Gk.iload X5 hx (hb hby d7_5) rfl ?_
  refine Gk.icmpNo X5 hx (hb hby d7_7) (tlt (by decide : (2 : Int32) < (5 : Int32))).2.1 ?_
  refine Gk.aloadN X5 hx (hb hby d7_10) rfl rfl ?_
  refine Gk.iloadN X5 hx (hb hby d7_11) rfl ?_
  have H7 := (H4.other W5 hne)
  refine Gk.caload X5 hx hZ e5 H7 ⟨by decide, by decide⟩ (.int c2) hf2 (hb hby d7_12) ?_
  refine Gk.istore X5 hx (hb hby d7_13) #[.val (.ref a1), .val (.int (2 : Int32)), .val (.ref a3), .val (.int (2 : Int32)), .val (.int (5 : Int32)), .val (.int (2 : Int32)), .val (.int c2)] rfl ?_
  refine Gk.iload X5 hx (hb hby d7_15) rfl ?_
  refine Gk.sipush X5 hx (hb hby d7_17) (255 : Int32) rfl ?_
  have hc20_2 : ¬ ((255 : Int32) < c2) := hc2
  refine Gk.icmpYes X5 hx (hb hby d7_20) (flt hc20_2).2.2.2 26 (by decide) (by decide) ?_
  refine Gk.aloadN X5 hx (hb hby d7_26) rfl rfl ?_
  refine Gk.iloadN X5 hx (hb hby d7_27) rfl ?_
  refine Gk.iload X5 hx (hb hby d7_28) rfl ?_
  refine Gk.i2b X5 hx (hb hby d7_30) _ rfl ?_
  refine Gk.bastoreB X5 hx hZ e5 V5 2 rfl ⟨by decide, by decide⟩ (.int (c2.toInt8.toInt32)) (congrArg Value.int (own_nb _)) (hb hby d7_31) ?_
  intro T8 h8 X8 e8 W8 V8
  have N8 := Fr.snoc X8 N5 g_a3
  refine Gk.iinc X8 hx (hb hby d7_32) rfl #[.val (.ref a1), .val (.int (3 : Int32)), .val (.ref a3), .val (.int (2 : Int32)), .val (.int (5 : Int32)), .val (.int (2 : Int32)), .val (.int c2)] rfl ?_
  refine Gk.iinc X8 hx (hb hby d7_35) rfl #[.val (.ref a1), .val (.int (3 : Int32)), .val (.ref a3), .val (.int (3 : Int32)), .val (.int (5 : Int32)), .val (.int (2 : Int32)), .val (.int c2)] rfl ?_
  refine Gk.iinc X8 hx (hb hby d7_38) rfl #[.val (.ref a1), .val (.int (3 : Int32)), .val (.ref a3), .val (.int (3 : Int32)), .val (.int (5 : Int32)), .val (.int (3 : Int32)), .val (.int c2)] rfl ?_
  refine Gk.goto X8 hx (hb hby d7_41) 3 (by decide) (by decide) ?_
  refine Gk.iload X8 hx (hb hby d7_3) rfl ?_
  refine Gk.iload X8 hx (hb hby d7_5) rfl ?_
  refine Gk.icmpNo X8 hx (hb hby d7_7) (tlt (by decide : (3 : Int32) < (5 : Int32))).2.1 ?_
  refine Gk.aloadN X8 hx (hb hby d7_10) rfl rfl ?_
  refine Gk.iloadN X8 hx (hb hby d7_11) rfl ?_
  have H10 := (H7.other W8 hne)
  refine Gk.caload X8 hx hZ e8 H10 ⟨by decide, by decide⟩ (.int c3) hf3 (hb hby d7_12) ?_
  refine Gk.istore X8 hx (hb hby d7_13) #[.val (.ref a1), .val (.int (3 : Int32)), .val (.ref a3), .val (.int (3 : Int32)), .val (.int (5 : Int32)), .val (.int (3 : Int32)), .val (.int c3)] rfl ?_
  refine Gk.iload X8 hx (hb hby d7_15) rfl ?_
  refine Gk.sipush X8 hx (hb hby d7_17) (255 : Int32) rfl ?_
  have hc20_3 : ¬ ((255 : Int32) < c3) := hc3
  refine Gk.icmpYes X8 hx (hb hby d7_20) (flt hc20_3).2.2.2 26 (by decide) (by decide) ?_
  refine Gk.aloadN X8 hx (hb hby d7_26) rfl rfl ?_
  refine Gk.iloadN X8 hx (hb hby d7_27) rfl ?_
  refine Gk.iload X8 hx (hb hby d7_28) rfl ?_
  refine Gk.i2b X8 hx (hb hby d7_30) _ rfl ?_
  refine Gk.bastoreB X8 hx hZ e8 V8 3 rfl ⟨by decide, by decide⟩ (.int (c3.toInt8.toInt32)) (congrArg Value.int (own_nb _)) (hb hby d7_31) ?_
  intro T11 h11 X11 e11 W11 V11
  have N11 := Fr.snoc X11 N8 g_a3
  refine Gk.iinc X11 hx (hb hby d7_32) rfl #[.val (.ref a1), .val (.int (4 : Int32)), .val (.ref a3), .val (.int (3 : Int32)), .val (.int (5 : Int32)), .val (.int (3 : Int32)), .val (.int c3)] rfl ?_
  refine Gk.iinc X11 hx (hb hby d7_35) rfl #[.val (.ref a1), .val (.int (4 : Int32)), .val (.ref a3), .val (.int (4 : Int32)), .val (.int (5 : Int32)), .val (.int (3 : Int32)), .val (.int c3)] rfl ?_
  refine Gk.iinc X11 hx (hb hby d7_38) rfl #[.val (.ref a1), .val (.int (4 : Int32)), .val (.ref a3), .val (.int (4 : Int32)), .val (.int (5 : Int32)), .val (.int (4 : Int32)), .val (.int c3)] rfl ?_
  refine Gk.goto X11 hx (hb hby d7_41) 3 (by decide) (by decide) ?_
  refine Gk.iload X11 hx (hb hby d7_3) rfl ?_
  refine Gk.iload X11 hx (hb hby d7_5) rfl ?_
  refine Gk.icmpNo X11 hx (hb hby d7_7) (tlt (by decide : (4 : Int32) < (5 : Int32))).2.1 ?_
  refine Gk.aloadN X11 hx (hb hby d7_10) rfl rfl ?_
  refine Gk.iloadN X11 hx (hb hby d7_11) rfl ?_
  have H13 := (H10.other W11 hne)
  refine Gk.caload X11 hx hZ e11 H13 ⟨by decide, by decide⟩ (.int c4) hf4 (hb hby d7_12) ?_
  refine Gk.istore X11 hx (hb hby d7_13) #[.val (.ref a1), .val (.int (4 : Int32)), .val (.ref a3), .val (.int (4 : Int32)), .val (.int (5 : Int32)), .val (.int (4 : Int32)), .val (.int c4)] rfl ?_
  refine Gk.iload X11 hx (hb hby d7_15) rfl ?_
  refine Gk.sipush X11 hx (hb hby d7_17) (255 : Int32) rfl ?_
  have hc20_4 : ¬ ((255 : Int32) < c4) := hc4
  refine Gk.icmpYes X11 hx (hb hby d7_20) (flt hc20_4).2.2.2 26 (by decide) (by decide) ?_
  refine Gk.aloadN X11 hx (hb hby d7_26) rfl rfl ?_
  refine Gk.iloadN X11 hx (hb hby d7_27) rfl ?_
  refine Gk.iload X11 hx (hb hby d7_28) rfl ?_
  refine Gk.i2b X11 hx (hb hby d7_30) _ rfl ?_
  refine Gk.bastoreB X11 hx hZ e11 V11 4 rfl ⟨by decide, by decide⟩ (.int (c4.toInt8.toInt32)) (congrArg Value.int (own_nb _)) (hb hby d7_31) ?_
  intro T14 h14 X14 e14 W14 V14
  have N14 := Fr.snoc X14 N11 g_a3
  refine Gk.iinc X14 hx (hb hby d7_32) rfl #[.val (.ref a1), .val (.int (5 : Int32)), .val (.ref a3), .val (.int (4 : Int32)), .val (.int (5 : Int32)), .val (.int (4 : Int32)), .val (.int c4)] rfl ?_
  refine Gk.iinc X14 hx (hb hby d7_35) rfl #[.val (.ref a1), .val (.int (5 : Int32)), .val (.ref a3), .val (.int (5 : Int32)), .val (.int (5 : Int32)), .val (.int (4 : Int32)), .val (.int c4)] rfl ?_
  refine Gk.iinc X14 hx (hb hby d7_38) rfl #[.val (.ref a1), .val (.int (5 : Int32)), .val (.ref a3), .val (.int (5 : Int32)), .val (.int (5 : Int32)), .val (.int (5 : Int32)), .val (.int c4)] rfl ?_
  refine Gk.goto X14 hx (hb hby d7_41) 3 (by decide) (by decide) ?_
  refine Gk.iload X14 hx (hb hby d7_3) rfl ?_
  refine Gk.iload X14 hx (hb hby d7_5) rfl ?_
  refine Gk.icmpYes X14 hx (hb hby d7_7) (flt (by decide : ¬ ((5 : Int32) < (5 : Int32)))).2.1 44 (by decide) (by decide) ?_
  refine Gk.iload X14 hx (hb hby d7_44) rfl ?_
  exact Gk.rI X14 hx hret hns (hb hby d7_46) e14 ⟨rfl, N14, ((((((Keep.refl h0 [a3]).wr W2 (Or.inl (List.mem_of_getElem? (i := 0) rfl))).wr W5 (Or.inl (List.mem_of_getElem? (i := 0) rfl))).wr W8 (Or.inl (List.mem_of_getElem? (i := 0) rfl))).wr W11 (Or.inl (List.mem_of_getElem? (i := 0) rfl))).wr W14 (Or.inl (List.mem_of_getElem? (i := 0) rfl))), V14⟩
theorem cp1_5 (hw : HW Z a0) (a1 : Addr) (kc : ClassId) (f : Nat → Value) (c0 c1 c2 c3 c4 : Int32) (Z0 : n0 ≤ h0.size) (V_a : Arf Z h0 a1 kc .char (5 : Int32) f) (hf0 : f 0 = (.int c0)) (hf1 : f 1 = (.int c1)) (hf2 : f 2 = (.int c2)) (hf3 : f 3 = (.int c3)) (hf4 : f 4 = (.int c4)) (hc0 : ¬ ((255 : Int32) < c0)) (hc1 : ¬ ((255 : Int32) < c1)) (hc2 : ¬ ((255 : Int32) < c2)) (hc3 : ¬ ((255 : Int32) < c3)) (hc4 : ¬ ((255 : Int32) < c4)) : Ct l ⟨"java/lang/StringUTF16", "compress", "([CII)[B"⟩ jdk_52_method_16_code 6 (some (.array .byte)) ⟨1, 1, 5, 18⟩ #[(.ref a1), (.int (0 : Int32)), (.int (5 : Int32))] Z h0 (fun v h L => v = some (.ref h0.size) ∧ Fr n0 L ∧ Keep h0 h [] ∧ ∃ kb : ClassId, Arf Z h h0.size kb .byte (5 : Int32) (upd (upd (upd (upd (upd (fun _ => (.int (0 : Int32))) 0 (.int (c0.toInt8.toInt32))) 1 (.int (c1.toInt8.toInt32))) 2 (.int (c2.toInt8.toInt32))) 3 (.int (c3.toInt8.toInt32))) 4 (.int (c4.toInt8.toInt32)))) := by
  refine Ct.of "java/lang/StringUTF16" rfl (plainFor_of_name pn_5) #[.val (.ref a1), .val (.int (0 : Int32)), .val (.int (5 : Int32)), .unset, .unset, .unset] rfl rfl ?_
  intro p e s m below meth c s₁ hx hby hml hown hnm hret hns hZ hh X0 e0
  refine Gk.iloadN X0 hx (hb hby d6_0) rfl ?_
  refine Gk.newP X0 hx hZ (W hw 26 rfl) e0 (hb hby d6_1) (by decide) (cap := 5) (by decide) (by decide) (by decide) (by decide) rfl ?_
  intro T1 h1 b1 k1 X1 e1 E1 g1 A1 B1
  have g_b1 : n0 ≤ b1 := Nat.le_trans Z0 (Nat.le_of_eq g1.symm)
  have V_b1 : Arf Z h1 b1 k1 .byte (5 : Int32) (fun _ => (.int (0 : Int32))) := A1
  have lt_b1 := V_b1.lt
  refine Gk.astoreN X1 hx (hb hby d6_3) rfl #[.val (.ref a1), .val (.int (0 : Int32)), .val (.int (5 : Int32)), .val (.ref b1), .unset, .unset] rfl ?_
  refine Gk.aloadN X1 hx (hb hby d6_4) rfl rfl ?_
  refine Gk.iloadN X1 hx (hb hby d6_5) rfl ?_
  refine Gk.aloadN X1 hx (hb hby d6_6) rfl rfl ?_
  refine Gk.iconst X1 hx (hb hby d6_7) (0 : Int32) rfl ?_
  refine Gk.iloadN X1 hx (hb hby d6_8) rfl ?_
  have H3 := (V_a.ext E1)
  have ne4 : a1 ≠ b1 := (Nat.ne_of_lt (Nat.lt_of_lt_of_le V_a.lt (Nat.le_trans (Nat.le_refl _) (Nat.le_of_eq g1.symm))))
  refine Gk.callS (argsL := [(.ref a1), (.int (0 : Int32)), (.ref b1), (.int (0 : Int32)), (.int (5 : Int32))]) X1 hx hZ hown (cp2_5 l Z a0 h1 n0 hw a1 b1 kc f c0 c1 c2 c3 c4 k1 (fun _ => (.int (0 : Int32))) (Nat.le_trans Z0 E1.1) H3 V_b1 ne4 hf0 hf1 hf2 hf3 hf4 hc0 hc1 hc2 hc3 hc4 g_b1) (W hw 27 rfl) (W hw 28 rfl) (W hw 24 rfl) (W hw 29 rfl) (by decide) e1 pd_3 rfl rfl rfl (by rw [hml]; rfl) rfl (hb hby d6_9) ?_
  intro T2 L2 v2 X2 hQ2
  obtain ⟨rfl, N2q, K2, V2_⟩ := hQ2
  have N2 := Fr.app (Fr.nil n0) N2q
  show Go p e below (T2.setTop (mkF m 12 _ [(.int (5 : Int32))])) _
  refine Gk.istore X2 hx (hb hby d6_12) #[.val (.ref a1), .val (.int (0 : Int32)), .val (.int (5 : Int32)), .val (.ref b1), .val (.int (5 : Int32)), .unset] rfl ?_
  refine Gk.iload X2 hx (hb hby d6_14) rfl ?_
  refine Gk.iloadN X2 hx (hb hby d6_16) rfl ?_
  refine Gk.icmpYes X2 hx (hb hby d6_17) (teq (by decide : (5 : Int32) = (5 : Int32))).1 57 (by decide) (by decide) ?_
  refine Gk.aloadN X2 hx (hb hby d6_57) rfl rfl ?_
  exact Gk.rR X2 hx hret rfl rfl rfl hns (hb hby d6_58) rfl ⟨congrArg (fun z_ : Addr => some (Value.ref z_)) (show b1 = h0.size from g1), N2, (((Keep.refl h0 []).ext E1).trans K2 (allS (Or.inr (Nat.le_trans (Nat.le_refl _) (Nat.le_of_eq g1.symm))) all0)), _, (g1 ▸ V2_)⟩
theorem cf0_5 (hw : HW Z a0) (a1 : Addr) (kb : ClassId) (fb : Nat → Value) (Z0 : n0 ≤ h0.size) (V_b : Arf Z h0 a1 kb .byte (5 : Int32) fb) : Ct l ⟨"java/lang/StringUTF16", "coderFromArrayLen", "([BI)B"⟩ jdk_52_method_15_code 2 (some .byte) ⟨0, 0, 0, 0⟩ #[(.ref a1), (.int (5 : Int32))] Z h0 (fun v h L => v = some (.int (0 : Int32)) ∧ Fr n0 L ∧ h = h0) := by
  refine Ct.of "java/lang/StringUTF16" rfl (plainFor_of_name pn_5) #[.val (.ref a1), .val (.int (5 : Int32))] rfl rfl ?_
  intro p e s m below meth c s₁ hx hby hml hown hnm hret hns hZ hh X0 e0
  refine Gk.iloadN X0 hx (hb hby d8_0) rfl ?_
  refine Gk.aloadN X0 hx (hb hby d8_1) rfl rfl ?_
  refine Gk.alen X0 hx hZ e0 V_b (hb hby d8_2) ?_
  refine Gk.isub X0 hx (hb hby d8_3) (0 : Int32) (by decide) ?_
  refine Gk.bipush X0 hx (hb hby d8_4) (31 : Int32) rfl ?_
  refine Gk.iushr X0 hx (hb hby d8_6) (0 : Int32) (by decide) ?_
  refine Gk.i2b X0 hx (hb hby d8_7) (0 : Int32) (by decide) ?_
  exact Gk.rN X0 hx hret (by simp) hns (hb hby d8_8) e0 (0 : Int32) rfl ⟨rfl, (Fr.nil n0), rfl⟩
theorem cf1_5 (hw : HW Z a0) (a1 : Addr) (kb : ClassId) (fb : Nat → Value) (Z0 : n0 ≤ h0.size) (V_b : Arf Z h0 a1 kb .byte (10 : Int32) fb) : Ct l ⟨"java/lang/StringUTF16", "coderFromArrayLen", "([BI)B"⟩ jdk_52_method_15_code 2 (some .byte) ⟨0, 0, 0, 0⟩ #[(.ref a1), (.int (5 : Int32))] Z h0 (fun v h L => v = some (.int (1 : Int32)) ∧ Fr n0 L ∧ h = h0) := by
  refine Ct.of "java/lang/StringUTF16" rfl (plainFor_of_name pn_5) #[.val (.ref a1), .val (.int (5 : Int32))] rfl rfl ?_
  intro p e s m below meth c s₁ hx hby hml hown hnm hret hns hZ hh X0 e0
  refine Gk.iloadN X0 hx (hb hby d8_0) rfl ?_
  refine Gk.aloadN X0 hx (hb hby d8_1) rfl rfl ?_
  refine Gk.alen X0 hx hZ e0 V_b (hb hby d8_2) ?_
  refine Gk.isub X0 hx (hb hby d8_3) (-5 : Int32) (by decide) ?_
  refine Gk.bipush X0 hx (hb hby d8_4) (31 : Int32) rfl ?_
  refine Gk.iushr X0 hx (hb hby d8_6) (1 : Int32) (by decide) ?_
  refine Gk.i2b X0 hx (hb hby d8_7) (1 : Int32) (by decide) ?_
  exact Gk.rN X0 hx hret (by simp) hns (hb hby d8_8) e0 (1 : Int32) rfl ⟨rfl, (Fr.nil n0), rfl⟩
def SQ5 (Z : State) (h : Heap) (a : Addr) (c0 : Int32) (c1 : Int32) (c2 : Int32) (c3 : Int32) (c4 : Int32) : Prop := (Fld Z h a "java/lang/String" "coder" "B" (.int (0 : Int32)) ∧ ∃ (b : Addr) (kb : ClassId), Fld Z h a "java/lang/String" "value" "[B" (.ref b) ∧ Arf Z h b kb .byte (5 : Int32) (upd (upd (upd (upd (upd (fun _ => (.int (0 : Int32))) 0 (.int (c0.toInt8.toInt32))) 1 (.int (c1.toInt8.toInt32))) 2 (.int (c2.toInt8.toInt32))) 3 (.int (c3.toInt8.toInt32))) 4 (.int (c4.toInt8.toInt32))) ∧ ¬ ((255 : Int32) < c0) ∧ ¬ ((255 : Int32) < c1) ∧ ¬ ((255 : Int32) < c2) ∧ ¬ ((255 : Int32) < c3) ∧ ¬ ((255 : Int32) < c4)) ∨ (Fld Z h a "java/lang/String" "coder" "B" (.int (1 : Int32)) ∧ ∃ (b : Addr) (kb : ClassId), Fld Z h a "java/lang/String" "value" "[B" (.ref b) ∧ Arf Z h b kb .byte (10 : Int32) (upd (upd (upd (upd (upd (upd (upd (upd (upd (upd (fun _ => (.int (0 : Int32))) 0 (.int ((c0 >>> ((0 : Int32) &&& 31)).toInt8.toInt32))) 1 (.int ((c0 >>> ((8 : Int32) &&& 31)).toInt8.toInt32))) 2 (.int ((c1 >>> ((0 : Int32) &&& 31)).toInt8.toInt32))) 3 (.int ((c1 >>> ((8 : Int32) &&& 31)).toInt8.toInt32))) 4 (.int ((c2 >>> ((0 : Int32) &&& 31)).toInt8.toInt32))) 5 (.int ((c2 >>> ((8 : Int32) &&& 31)).toInt8.toInt32))) 6 (.int ((c3 >>> ((0 : Int32) &&& 31)).toInt8.toInt32))) 7 (.int ((c3 >>> ((8 : Int32) &&& 31)).toInt8.toInt32))) 8 (.int ((c4 >>> ((0 : Int32) &&& 31)).toInt8.toInt32))) 9 (.int ((c4 >>> ((8 : Int32) &&& 31)).toInt8.toInt32))))
theorem in4_5 (hw : HW Z a0) (a1 a2 : Addr) (kc : ClassId) (f : Nat → Value) (c0 c1 c2 c3 c4 : Int32) (u_coder_a1 u_value_a1 : Value) (w_COMPACT_STRINGS : Int32) (Z0 : n0 ≤ h0.size) (S_COMPACT_STRINGS : Stx Z n0 h0 "java/lang/String" "COMPACT_STRINGS" "Z" (.int w_COMPACT_STRINGS)) (S__assertionsDisabled : Stx Z n0 h0 "java/lang/StringUTF16" "$assertionsDisabled" "Z" (.int (1 : Int32))) (S_HI_BYTE_SHIFT : Stx Z n0 h0 "java/lang/StringUTF16" "HI_BYTE_SHIFT" "I" (.int (0 : Int32))) (S_LO_BYTE_SHIFT : Stx Z n0 h0 "java/lang/StringUTF16" "LO_BYTE_SHIFT" "I" (.int (8 : Int32))) (E_a1 : Exa Z h0 a1 "java/lang/String") (V_a : Arf Z h0 a2 kc .char (5 : Int32) f) (hf0 : f 0 = (.int c0)) (hf1 : f 1 = (.int c1)) (hf2 : f 2 = (.int c2)) (hf3 : f 3 = (.int c3)) (hf4 : f 4 = (.int c4)) (hb0 : 0 ≤ c0.toInt ∧ c0.toInt < 65536) (hb1 : 0 ≤ c1.toInt ∧ c1.toInt < 65536) (hb2 : 0 ≤ c2.toInt ∧ c2.toInt < 65536) (hb3 : 0 ≤ c3.toInt ∧ c3.toInt < 65536) (hb4 : 0 ≤ c4.toInt ∧ c4.toInt < 65536) (hcs : ¬ (w_COMPACT_STRINGS = (0 : Int32))) (F_coder_a1 : Fld Z h0 a1 "java/lang/String" "coder" "B" u_coder_a1) (g_a1 : n0 ≤ a1) (F_value_a1 : Fld Z h0 a1 "java/lang/String" "value" "[B" u_value_a1) : Ct l ⟨"java/lang/String", "<init>", "([CIILjava/lang/Void;)V"⟩ jdk_42_method_149_code 6 none ⟨4, 2, 15, 57⟩ #[(.ref a1), (.ref a2), (.int (0 : Int32)), (.int (5 : Int32)), .null] Z h0 (fun v h L => v = none ∧ Fr n0 L ∧ Keep h0 h [a1] ∧ SQ5 Z h a1 c0 c1 c2 c3 c4) := by
  refine Ct.of "java/lang/String" rfl (plainFor_of_name pn_164) #[.val (.ref a1), .val (.ref a2), .val (.int (0 : Int32)), .val (.int (5 : Int32)), .val .null, .unset] rfl rfl ?_
  intro p e s m below meth c s₁ hx hby hml hown hnm hret hns hZ hh X0 e0
  refine Gk.aloadN X0 hx (hb hby d4_0) rfl rfl ?_
  refine Gk.initO X0 hx hZ hown (W hw 18 rfl) (W hw 19 rfl) (W hw 20 rfl) e0 (by rw [hml]; rfl) (hb hby d4_1) (by decide) (Nat.le_of_ble_eq_true rfl) ?_
  intro T1 X1 e1
  refine Gk.iloadN X1 hx (hb hby d4_4) rfl ?_
  refine Gk.ifYes X1 hx (hb hby d4_5) (feq (by decide : ¬ ((5 : Int32) = (0 : Int32)))).2 27 (by decide) (by decide) ?_
  refine Gk.getS X1 hx hZ hown (host := "") (Or.inl (W hw 21 rfl)) Via.refl e1 S_COMPACT_STRINGS.sta (hb hby d4_27) ?_
  intro T2 X2 e2
  have hc30 : ¬ (w_COMPACT_STRINGS = (0 : Int32)) := hcs
  refine Gk.ifNo X2 hx (hb hby d4_30) (feq hc30).1 ?_
  refine Gk.aloadN X2 hx (hb hby d4_33) rfl rfl ?_
  refine Gk.iloadN X2 hx (hb hby d4_34) rfl ?_
  refine Gk.iloadN X2 hx (hb hby d4_35) rfl ?_
  by_cases hnot : (255 : Int32) < c0 ∨ (255 : Int32) < c1 ∨ (255 : Int32) < c2 ∨ (255 : Int32) < c3 ∨ (255 : Int32) < c4
  · skip
    refine Gk.callS (argsL := [(.ref a2), (.int (0 : Int32)), (.int (5 : Int32))]) X2 hx hZ hown (cu1_5 l Z a0 h0 n0 hw a2 kc f c0 c1 c2 c3 c4 Z0 S__assertionsDisabled S_HI_BYTE_SHIFT S_LO_BYTE_SHIFT V_a hf0 hf1 hf2 hf3 hf4 hnot hb0 hb1 hb2 hb3 hb4) (W hw 22 rfl) (W hw 23 rfl) (W hw 24 rfl) (W hw 25 rfl) (by decide) e2 pd_4 rfl rfl rfl (by rw [hml]; rfl) rfl (hb hby d4_36) ?_
    intro T3 L3 v3 X3 hQ3
    obtain ⟨⟨y3, k3_, rfl, le_y3, A3_⟩, N3q, K3⟩ := hQ3
    have N3 := Fr.app (Fr.nil n0) N3q
    have ne_y3 : y3 ≠ a1 := Nat.ne_of_gt (Nat.lt_of_lt_of_le E_a1.lt le_y3)
    show Go p e below (T3.setTop (mkF m 39 _ [(.ref y3)])) _
    refine Gk.astore X3 hx (hb hby d4_39) rfl #[.val (.ref a1), .val (.ref a2), .val (.int (0 : Int32)), .val (.int (5 : Int32)), .val .null, .val (.ref y3)] rfl ?_
    refine Gk.aloadN X3 hx (hb hby d4_41) rfl rfl ?_
    refine Gk.aload X3 hx (hb hby d4_42) rfl rfl ?_
    refine Gk.iloadN X3 hx (hb hby d4_44) rfl ?_
    refine Gk.callS (argsL := [(.ref y3), (.int (5 : Int32))]) X3 hx hZ hown (cf1_5 l Z a0 T3.heap n0 hw y3 k3_ (upd (upd (upd (upd (upd (upd (upd (upd (upd (upd (fun _ => (.int (0 : Int32))) 0 (.int ((c0 >>> ((0 : Int32) &&& 31)).toInt8.toInt32))) 1 (.int ((c0 >>> ((8 : Int32) &&& 31)).toInt8.toInt32))) 2 (.int ((c1 >>> ((0 : Int32) &&& 31)).toInt8.toInt32))) 3 (.int ((c1 >>> ((8 : Int32) &&& 31)).toInt8.toInt32))) 4 (.int ((c2 >>> ((0 : Int32) &&& 31)).toInt8.toInt32))) 5 (.int ((c2 >>> ((8 : Int32) &&& 31)).toInt8.toInt32))) 6 (.int ((c3 >>> ((0 : Int32) &&& 31)).toInt8.toInt32))) 7 (.int ((c3 >>> ((8 : Int32) &&& 31)).toInt8.toInt32))) 8 (.int ((c4 >>> ((0 : Int32) &&& 31)).toInt8.toInt32))) 9 (.int ((c4 >>> ((8 : Int32) &&& 31)).toInt8.toInt32))) (Nat.le_trans Z0 K3.1) A3_) (W hw 30 rfl) (W hw 31 rfl) (W hw 24 rfl) (W hw 32 rfl) (by decide) rfl pd_6 rfl rfl rfl (by rw [hml]; rfl) rfl (hb hby d4_45) ?_
    intro T4 L4 v4 X4 hQ4
    obtain ⟨rfl, N4q, e4⟩ := hQ4
    have N4 := Fr.app N3 N4q
    show Go p e below (T4.setTop (mkF m 48 _ [(.int (1 : Int32)), (.ref a1)])) _
    have H5 := (E_a1.keep K3)
    have H6 := (F_coder_a1.keep K3 nin0)
    refine Gk.putFN X4 hx hZ hown (W hw 33 rfl) Via.refl e4 H6 H5 (Or.inr ⟨(W hw 34 rfl), rfl, hnm⟩) (W hw 9 rfl) (ty := .byte) (v' := (.int (1 : Int32))) (by decide) rfl rfl (hb hby d4_48) ?_
    intro T7 h7 X7 e7 W7
    have Fw7 := H6.same W7
    have N7 := Fr.snoc X7 N4 g_a1
    refine Gk.aloadN X7 hx (hb hby d4_51) rfl rfl ?_
    refine Gk.aload X7 hx (hb hby d4_52) rfl rfl ?_
    have H8 := (H5.wr W7)
    have H9 := ((F_value_a1.keep K3 nin0).other W7 (Or.inr (slot_ne (Or.inr (W hw 36 rfl)) (Or.inr (W hw 34 rfl)) (by decide) (t := (.array .byte)) (t' := .byte) (by decide) (by decide))))
    refine Gk.putF X7 hx hZ hown (host := "") (Or.inl (W hw 35 rfl)) Via.refl e7 H9 H8 (Or.inr ⟨(W hw 36 rfl), rfl, hnm⟩) (W hw 9 rfl) (ty := (.array .byte)) (by decide) rfl rfl (hb hby d4_54) ?_
    intro T10 h10 X10 e10 W10
    have Fw10 := H9.same W10
    have N10 := Fr.snoc X10 N7 g_a1
    have H11 := (Fw7.other W10 (Or.inr (slot_ne (Or.inr (W hw 34 rfl)) (Or.inr (W hw 36 rfl)) (by decide) (t := .byte) (t' := (.array .byte)) (by decide) (by decide))))
    have H12 := ((A3_.other W7 ne_y3).other W10 ne_y3)
    exact Gk.rV X10 hx hret hns (hb hby d4_57) e10 ⟨rfl, N10, ((((Keep.refl h0 [a1]).trans K3 all0).wr W7 (Or.inl (List.mem_of_getElem? (i := 0) rfl))).wr W10 (Or.inl (List.mem_of_getElem? (i := 0) rfl))), Or.inr ⟨H11, y3, _, Fw10, H12⟩⟩
  · skip
    have hc0 : ¬ ((255 : Int32) < c0) := fun q_ => hnot (Or.inl q_)
    have hc1 : ¬ ((255 : Int32) < c1) := fun q_ => hnot (Or.inr (Or.inl q_))
    have hc2 : ¬ ((255 : Int32) < c2) := fun q_ => hnot (Or.inr (Or.inr (Or.inl q_)))
    have hc3 : ¬ ((255 : Int32) < c3) := fun q_ => hnot (Or.inr (Or.inr (Or.inr (Or.inl q_))))
    have hc4 : ¬ ((255 : Int32) < c4) := fun q_ => hnot (Or.inr (Or.inr (Or.inr (Or.inr q_))))
    refine Gk.callS (argsL := [(.ref a2), (.int (0 : Int32)), (.int (5 : Int32))]) X2 hx hZ hown (cp1_5 l Z a0 h0 n0 hw a2 kc f c0 c1 c2 c3 c4 Z0 V_a hf0 hf1 hf2 hf3 hf4 hc0 hc1 hc2 hc3 hc4) (W hw 22 rfl) (W hw 23 rfl) (W hw 24 rfl) (W hw 25 rfl) (by decide) e2 pd_4 rfl rfl rfl (by rw [hml]; rfl) rfl (hb hby d4_36) ?_
    intro T13 L13 v13 X13 hQ13
    obtain ⟨hv13, N13q, K13, k13_, A13_⟩ := hQ13
    have N13 := Fr.app (Fr.nil n0) N13q
    obtain ⟨b13, g13⟩ : ∃ z_, z_ = h0.size := ⟨_, rfl⟩
    rw [← g13] at hv13 A13_
    subst hv13
    have g_b13 : n0 ≤ b13 := Nat.le_trans Z0 (Nat.le_of_eq g13.symm)
    have lt_b13 := A13_.lt
    show Go p e below (T13.setTop (mkF m 39 _ [(.ref b13)])) _
    refine Gk.astore X13 hx (hb hby d4_39) rfl #[.val (.ref a1), .val (.ref a2), .val (.int (0 : Int32)), .val (.int (5 : Int32)), .val .null, .val (.ref b13)] rfl ?_
    refine Gk.aloadN X13 hx (hb hby d4_41) rfl rfl ?_
    refine Gk.aload X13 hx (hb hby d4_42) rfl rfl ?_
    refine Gk.iloadN X13 hx (hb hby d4_44) rfl ?_
    refine Gk.callS (argsL := [(.ref b13), (.int (5 : Int32))]) X13 hx hZ hown (cf0_5 l Z a0 T13.heap n0 hw b13 k13_ (upd (upd (upd (upd (upd (fun _ => (.int (0 : Int32))) 0 (.int (c0.toInt8.toInt32))) 1 (.int (c1.toInt8.toInt32))) 2 (.int (c2.toInt8.toInt32))) 3 (.int (c3.toInt8.toInt32))) 4 (.int (c4.toInt8.toInt32))) (Nat.le_trans Z0 K13.1) A13_) (W hw 30 rfl) (W hw 31 rfl) (W hw 24 rfl) (W hw 32 rfl) (by decide) rfl pd_6 rfl rfl rfl (by rw [hml]; rfl) rfl (hb hby d4_45) ?_
    intro T14 L14 v14 X14 hQ14
    obtain ⟨rfl, N14q, e14⟩ := hQ14
    have N14 := Fr.app N13 N14q
    show Go p e below (T14.setTop (mkF m 48 _ [(.int (0 : Int32)), (.ref a1)])) _
    have H15 := (E_a1.keep K13)
    have H16 := (F_coder_a1.keep K13 nin0)
    refine Gk.putFN X14 hx hZ hown (W hw 33 rfl) Via.refl e14 H16 H15 (Or.inr ⟨(W hw 34 rfl), rfl, hnm⟩) (W hw 9 rfl) (ty := .byte) (v' := (.int (0 : Int32))) (by decide) rfl rfl (hb hby d4_48) ?_
    intro T17 h17 X17 e17 W17
    have Fw17 := H16.same W17
    have N17 := Fr.snoc X17 N14 g_a1
    refine Gk.aloadN X17 hx (hb hby d4_51) rfl rfl ?_
    refine Gk.aload X17 hx (hb hby d4_52) rfl rfl ?_
    have H18 := (H15.wr W17)
    have H19 := ((F_value_a1.keep K13 nin0).other W17 (Or.inr (slot_ne (Or.inr (W hw 36 rfl)) (Or.inr (W hw 34 rfl)) (by decide) (t := (.array .byte)) (t' := .byte) (by decide) (by decide))))
    refine Gk.putF X17 hx hZ hown (host := "") (Or.inl (W hw 35 rfl)) Via.refl e17 H19 H18 (Or.inr ⟨(W hw 36 rfl), rfl, hnm⟩) (W hw 9 rfl) (ty := (.array .byte)) (by decide) rfl rfl (hb hby d4_54) ?_
    intro T20 h20 X20 e20 W20
    have Fw20 := H19.same W20
    have N20 := Fr.snoc X20 N17 g_a1
    have H21 := (Fw17.other W20 (Or.inr (slot_ne (Or.inr (W hw 34 rfl)) (Or.inr (W hw 36 rfl)) (by decide) (t := .byte) (t' := (.array .byte)) (by decide) (by decide))))
    have ne22 : b13 ≠ a1 := (Nat.ne_of_gt (Nat.lt_of_lt_of_le E_a1.lt (Nat.le_trans (Nat.le_refl _) (Nat.le_of_eq g13.symm))))
    have H23 := ((A13_.other W17 ne22).other W20 ne22)
    exact Gk.rV X20 hx hret hns (hb hby d4_57) e20 ⟨rfl, N20, ((((Keep.refl h0 [a1]).trans K13 all0).wr W17 (Or.inl (List.mem_of_getElem? (i := 0) rfl))).wr W20 (Or.inl (List.mem_of_getElem? (i := 0) rfl))), Or.inl ⟨H21, b13, _, Fw20, H23, hc0, hc1, hc2, hc3, hc4⟩⟩
theorem str_5 (hw : HW Z a0) (a1 a2 : Addr) (kc : ClassId) (f : Nat → Value) (c0 c1 c2 c3 c4 : Int32) (u_coder_a1 u_value_a1 : Value) (w_COMPACT_STRINGS : Int32) (Z0 : n0 ≤ h0.size) (S_COMPACT_STRINGS : Stx Z n0 h0 "java/lang/String" "COMPACT_STRINGS" "Z" (.int w_COMPACT_STRINGS)) (S__assertionsDisabled : Stx Z n0 h0 "java/lang/StringUTF16" "$assertionsDisabled" "Z" (.int (1 : Int32))) (S_HI_BYTE_SHIFT : Stx Z n0 h0 "java/lang/StringUTF16" "HI_BYTE_SHIFT" "I" (.int (0 : Int32))) (S_LO_BYTE_SHIFT : Stx Z n0 h0 "java/lang/StringUTF16" "LO_BYTE_SHIFT" "I" (.int (8 : Int32))) (E_a1 : Exa Z h0 a1 "java/lang/String") (V_a : Arf Z h0 a2 kc .char (5 : Int32) f) (hf0 : f 0 = (.int c0)) (hf1 : f 1 = (.int c1)) (hf2 : f 2 = (.int c2)) (hf3 : f 3 = (.int c3)) (hf4 : f 4 = (.int c4)) (hb0 : 0 ≤ c0.toInt ∧ c0.toInt < 65536) (hb1 : 0 ≤ c1.toInt ∧ c1.toInt < 65536) (hb2 : 0 ≤ c2.toInt ∧ c2.toInt < 65536) (hb3 : 0 ≤ c3.toInt ∧ c3.toInt < 65536) (hb4 : 0 ≤ c4.toInt ∧ c4.toInt < 65536) (hcs : ¬ (w_COMPACT_STRINGS = (0 : Int32))) (F_coder_a1 : Fld Z h0 a1 "java/lang/String" "coder" "B" u_coder_a1) (g_a1 : n0 ≤ a1) (F_value_a1 : Fld Z h0 a1 "java/lang/String" "value" "[B" u_value_a1) : Ct l ⟨"java/lang/String", "<init>", "([C)V"⟩ jdk_42_method_3_code 2 none ⟨5, 2, 15, 74⟩ #[(.ref a1), (.ref a2)] Z h0 (fun v h L => v = none ∧ Fr n0 L ∧ Keep h0 h [a1] ∧ SQ5 Z h a1 c0 c1 c2 c3 c4) := by
  refine Ct.of "java/lang/String" rfl (plainFor_of_name pn_164) #[.val (.ref a1), .val (.ref a2)] rfl rfl ?_
  intro p e s m below meth c s₁ hx hby hml hown hnm hret hns hZ hh X0 e0
  refine Gk.aloadN X0 hx (hb hby d3_0) rfl rfl ?_
  refine Gk.aloadN X0 hx (hb hby d3_1) rfl rfl ?_
  refine Gk.iconst X0 hx (hb hby d3_2) (0 : Int32) rfl ?_
  refine Gk.aloadN X0 hx (hb hby d3_3) rfl rfl ?_
  refine Gk.alen X0 hx hZ e0 V_a (hb hby d3_4) ?_
  refine Gk.aconstNull X0 hx (hb hby d3_5) ?_
  refine Gk.callI (argsL := [(.ref a2), (.int (0 : Int32)), (.int (5 : Int32)), .null]) X0 hx hZ hown (in4_5 l Z a0 h0 n0 hw a1 a2 kc f c0 c1 c2 c3 c4 u_coder_a1 u_value_a1 w_COMPACT_STRINGS Z0 S_COMPACT_STRINGS S__assertionsDisabled S_HI_BYTE_SHIFT S_LO_BYTE_SHIFT E_a1 V_a hf0 hf1 hf2 hf3 hf4 hb0 hb1 hb2 hb3 hb4 hcs F_coder_a1 g_a1 F_value_a1) rfl (W hw 14 rfl) (W hw 15 rfl) (W hw 17 rfl) rfl (by decide) (W hw 10 rfl) e0 pd_7 rfl rfl rfl (by rw [hml]; rfl) rfl (hb hby d3_6) ?_
  intro T1 L1 v1 X1 hQ1
  obtain ⟨rfl, N1q, K1, sq_⟩ := hQ1
  have N1 := Fr.app (Fr.nil n0) N1q
  show Go p e below (T1.setTop (mkF m 9 _ [])) _
  exact Gk.rV X1 hx hret hns (hb hby d3_9) rfl ⟨rfl, N1, ((Keep.refl h0 [a1]).trans K1 (allS (Or.inl (List.mem_of_getElem? (i := 0) rfl)) all0)), sq_⟩
def SQ0 (Z : State) (h : Heap) (a : Addr) : Prop := Fld Z h a "java/lang/String" "coder" "B" (.int (0 : Int32)) ∧ ∃ (b : Addr) (kb : ClassId) (fb : Nat → Value), Fld Z h a "java/lang/String" "value" "[B" (.ref b) ∧ Arf Z h b kb .byte (0 : Int32) fb
theorem own_wS {Z : State} {a0 : Array Value} (hw : ∀ d ∈ tables_1, d.before a0 Z = true) : ∀ a ∈ Bundle.stringAtoms, a.before a0 Z = true := by
  intro d hd
  simp only [Bundle.stringAtoms, List.mem_cons, List.not_mem_nil, or_false] at hd
  rcases hd with rfl | rfl | rfl | rfl | rfl | rfl | rfl
  · exact (W hw 10 rfl)
  · exact (W hw 9 rfl)
  · exact (W hw 26 rfl)
  · exact (W hw 36 rfl)
  · exact (W hw 34 rfl)
  · exact (W hw 74 rfl)
  · exact (W hw 75 rfl)
theorem d4_8 : decode jdk_42_method_149_code 8 = .ok (.aload_n 0, 1) := by decide +kernel
theorem d4_9 : decode jdk_42_method_149_code 9 = .ok (.ldc 7, 2) := by decide +kernel
theorem d4_11 : decode jdk_42_method_149_code 11 = .ok (.getfield 9, 3) := by decide +kernel
theorem d4_14 : decode jdk_42_method_149_code 14 = .ok (.putfield 9, 3) := by decide +kernel
theorem d4_17 : decode jdk_42_method_149_code 17 = .ok (.aload_n 0, 1) := by decide +kernel
theorem d4_18 : decode jdk_42_method_149_code 18 = .ok (.ldc 7, 2) := by decide +kernel
theorem d4_20 : decode jdk_42_method_149_code 20 = .ok (.getfield 15, 3) := by decide +kernel
theorem d4_23 : decode jdk_42_method_149_code 23 = .ok (.putfield 15, 3) := by decide +kernel
theorem d4_26 : decode jdk_42_method_149_code 26 = .ok (.return_, 1) := by decide +kernel
theorem in4_0 (hw : HW Z a0) (a1 a2 : Addr) (Z0 : n0 ≤ h0.size) (E_a1 : Exa Z h0 a1 "java/lang/String") (Fc1 : Fld Z h0 a1 "java/lang/String" "coder" "B" (.int (0 : Int32))) (Fv1 : Fld Z h0 a1 "java/lang/String" "value" "[B" .null) (g_a1 : n0 ≤ a1) : CtH l ⟨"java/lang/String", "<init>", "([CIILjava/lang/Void;)V"⟩ jdk_42_method_149_code 6 none ⟨1, 2, 4, 12⟩ #[(.ref a1), (.ref a2), (.int (0 : Int32)), (.int (0 : Int32)), .null] Z h0 consts_1 (fun v h L => v = none ∧ Fr n0 L ∧ Keep h0 h [a1] ∧ SQ0 Z h a1) := by
  refine CtH.of "java/lang/String" rfl (plainFor_of_name pn_164) #[.val (.ref a1), .val (.ref a2), .val (.int (0 : Int32)), .val (.int (0 : Int32)), .val .null, .unset] rfl rfl ?_
  intro p e s m below meth c s₁ hx hby hml hown hnm hret hns hZ hh X0 e0 hCH
  refine Gk.aloadN X0 hx (hb hby d4_0) rfl rfl ?_
  refine Gk.initO X0 hx hZ hown (W hw 18 rfl) (W hw 19 rfl) (W hw 20 rfl) e0 (by rw [hml]; rfl) (hb hby d4_1) (by decide) (Nat.le_of_ble_eq_true rfl) ?_
  intro T1 X1 e1
  refine Gk.iloadN X1 hx (hb hby d4_4) rfl ?_
  refine Gk.ifNo X1 hx (hb hby d4_5) (teq (by decide : (0 : Int32) = (0 : Int32))).2 ?_
  refine Gk.aloadN X1 hx (hb hby d4_8) rfl rfl ?_
  have R3_ := CHr.refl hCH
  refine Gk.ldcH (s := s) (show Stand p l e _ (s.setVm s.vm) m _ below meth c _ _ _ _ from X1) hx hZ hown (W hw 97 rfl) (own_wS hw) e1 ((State.WarmedH.refl s).since 0) (Nat.zero_le _) (own_EW hw) (List.mem_of_getElem? (i := 2) rfl) R3_.1 lit1T (hb hby d4_9) (n := 0) (by decide) (by decide) (by decide) (by decide) ?_
  intro la2 T2 h2 kS2 lb2 lk2 X2 e2 E2 S2_ q2_ Z2_ o2_ lA2 lFc2 lFv2 lV2 llt2 lltb2 C2_ Lt2_ d2_
  have R2_ := R3_.trans C2_
  have H4 := (Fv1.ext E2)
  have H5 := (E_a1.ext E2)
  have ne_la : la2 ≠ a1 := Fld.ne lFv2 H4 (by simp)
  have ne_lb : lb2 ≠ a1 := Ne.symm (Exa.neArv H5 (Arf.arv lV2 .null) (W hw 9 rfl))
  refine Gk.getF X2 hx Z2_ o2_ (host := "") (Or.inl (W hw 35 rfl)) Via.refl e2 lFv2 (hb hby d4_11) ?_
  intro T6 X6 e6
  have sfA : Safe Z consts_1 _ _ a1 := own_safeNull Z2_.alike H5 H4
  refine Gk.putF X6 hx Z2_ o2_ (host := "") (Or.inl (W hw 35 rfl)) Via.refl e6 H4 H5 (Or.inr ⟨(W hw 36 rfl), rfl, hnm⟩) (W hw 9 rfl) (ty := (.array .byte)) (by decide) rfl rfl (hb hby d4_14) ?_
  intro T8 h8 X8 e8 W8
  have Fw8 := H4.same W8
  have N8 := Fr.snoc X8 (Fr.nil n0) g_a1
  have sfB := Safe.wr W8 sfA R2_.1 sfA
  refine Gk.aloadN X8 hx (hb hby d4_17) rfl rfl ?_
  refine Gk.ldcA (s := s) X8 hx Z2_ o2_ (W hw 97 rfl) Lt2_ (hb hby d4_18) ?_
  have H10 := (lFc2.other W8 (Or.inl ne_la))
  refine Gk.getF X8 hx Z2_ o2_ (host := "") (Or.inl (W hw 33 rfl)) Via.refl e8 H10 (hb hby d4_20) ?_
  intro T11 X11 e11
  have H12 := (H5.wr W8)
  have H13 := ((Fc1.ext E2).other W8 (Or.inr (slot_ne (Or.inr (W hw 34 rfl)) (Or.inr (W hw 36 rfl)) (by decide) (t := .byte) (t' := (.array .byte)) (by decide) (by decide))))
  refine Gk.putFN X11 hx Z2_ o2_ (W hw 33 rfl) Via.refl e11 H13 H12 (Or.inr ⟨(W hw 34 rfl), rfl, hnm⟩) (W hw 9 rfl) (ty := .byte) (v' := (.int (0 : Int32))) (by decide) rfl rfl (hb hby d4_23) ?_
  intro T14 h14 X14 e14 W14
  have Fw14 := H13.same W14
  have N14 := Fr.snoc X14 N8 g_a1
  have H15 := (Fw8.other W14 (Or.inr (slot_ne (Or.inr (W hw 36 rfl)) (Or.inr (W hw 34 rfl)) (by decide) (t := (.array .byte)) (t' := .byte) (by decide) (by decide))))
  have H16 := ((lV2.other W8 ne_lb).other W14 ne_lb)
  have R18_ := R2_.trans (CHr.wr W8 sfA R2_.1)
  have R19_ := R18_.trans (CHr.wr W14 sfB R18_.1)
  have gr20 := (Nat.le_trans (Keep.of_wr W8).1 (Keep.of_wr W14).1)
  exact Gk.rVH (s := s) X14 hx hret hns (hb hby d4_26) e14 S2_ (Nat.le_trans q2_ gr20) Z2_ (own_EW hw) hh R19_ ⟨rfl, N14, ((((Keep.refl h0 [a1]).ext E2).wr W8 (Or.inl (List.mem_of_getElem? (i := 0) rfl))).wr W14 (Or.inl (List.mem_of_getElem? (i := 0) rfl))), Fw14, lb2, _, _, H15, H16⟩
theorem str_0 (hw : HW Z a0) (a1 a2 : Addr) (kc : ClassId) (f : Nat → Value) (Z0 : n0 ≤ h0.size) (E_a1 : Exa Z h0 a1 "java/lang/String") (V_a : Arf Z h0 a2 kc .char (0 : Int32) f) (Fc1 : Fld Z h0 a1 "java/lang/String" "coder" "B" (.int (0 : Int32))) (Fv1 : Fld Z h0 a1 "java/lang/String" "value" "[B" .null) (g_a1 : n0 ≤ a1) : CtH l ⟨"java/lang/String", "<init>", "([C)V"⟩ jdk_42_method_3_code 2 none ⟨2, 2, 4, 29⟩ #[(.ref a1), (.ref a2)] Z h0 consts_1 (fun v h L => v = none ∧ Fr n0 L ∧ Keep h0 h [a1] ∧ SQ0 Z h a1) := by
  refine CtH.of "java/lang/String" rfl (plainFor_of_name pn_164) #[.val (.ref a1), .val (.ref a2)] rfl rfl ?_
  intro p e s m below meth c s₁ hx hby hml hown hnm hret hns hZ hh X0 e0 hCH
  refine Gk.aloadN X0 hx (hb hby d3_0) rfl rfl ?_
  refine Gk.aloadN X0 hx (hb hby d3_1) rfl rfl ?_
  refine Gk.iconst X0 hx (hb hby d3_2) (0 : Int32) rfl ?_
  refine Gk.aloadN X0 hx (hb hby d3_3) rfl rfl ?_
  refine Gk.alen X0 hx hZ e0 V_a (hb hby d3_4) ?_
  refine Gk.aconstNull X0 hx (hb hby d3_5) ?_
  have R2_ := CHr.refl hCH
  refine Gk.callIH (s := s) (argsL := [(.ref a2), (.int (0 : Int32)), (.int (0 : Int32)), .null]) (show Stand p l e _ (s.setVm s.vm) m _ below meth c _ _ _ _ from X0) hx hZ hown (in4_0 l Z a0 h0 n0 hw a1 a2 Z0 E_a1 Fc1 Fv1 g_a1) rfl (W hw 14 rfl) (W hw 15 rfl) (W hw 17 rfl) rfl (by decide) (W hw 10 rfl) e0 ((State.WarmedH.refl s).since 0) (Nat.zero_le _) (own_EW hw) R2_.1 pd_7 rfl rfl rfl (by rw [hml]; rfl) rfl (hb hby d3_6) ?_
  intro T1 L1 v1 kS1 X1 S1_ q1_ Z1_ o1_ C1_ hQ1
  have R1_ := R2_.trans C1_
  obtain ⟨rfl, N1q, K1, sq_⟩ := hQ1
  have N1 := Fr.app (Fr.nil n0) N1q
  show Go p e below (T1.setTop (mkF m 9 _ [])) _
  exact Gk.rVH (s := s) X1 hx hret hns (hb hby d3_9) rfl S1_ (Nat.le_trans q1_ (Nat.le_refl _)) Z1_ (own_EW hw) hh R1_ ⟨rfl, N1, ((Keep.refl h0 [a1]).trans K1 (allS (Or.inl (List.mem_of_getElem? (i := 0) rfl)) all0)), sq_⟩
theorem pd_8 : parseMethodDescriptor "([C)V" = some ⟨[(.array .char)], none⟩ := by decide +kernel
theorem d2_0 : decode method_5_code 0 = .ok (.iload_n 0, 1) := by decide +kernel
theorem d2_1 : decode method_5_code 1 = .ok (.ifCond .ne 14, 3) := by decide +kernel
theorem d2_4 : decode method_5_code 4 = .ok (.new 31, 3) := by decide +kernel
theorem d2_7 : decode method_5_code 7 = .ok (.dup, 1) := by decide +kernel
theorem d2_8 : decode method_5_code 8 = .ok (.iconst 0, 1) := by decide +kernel
theorem d2_9 : decode method_5_code 9 = .ok (.newarray .char, 2) := by decide +kernel
theorem d2_11 : decode method_5_code 11 = .ok (.invokespecial 35, 3) := by decide +kernel
theorem d2_14 : decode method_5_code 14 = .ok (.areturn, 1) := by decide +kernel
theorem pn_191 : plainName "com/example/method_to_route/methodtoroute/PercentEncodingIsEscapePinLaw" = true := by first | (simp [plainName, overriddenIn]; done) | decide +kernel
theorem make_0 (hw : HW Z a0) (p2 p3 p4 p5 p6 : Int32) (Z0 : n0 ≤ h0.size) : CtH l ⟨"com/example/method_to_route/methodtoroute/PercentEncodingIsEscapePinLaw", "make", "(ICCCCC)Ljava/lang/String;"⟩ method_5_code 6 (some (.object "java/lang/String")) ⟨3, 4, 8, 43⟩ #[(.int (0 : Int32)), (.int p2), (.int p3), (.int p4), (.int p5), (.int p6)] Z h0 consts_1 (fun v h L => v = some (.ref h0.size) ∧ Fr n0 L ∧ Keep h0 h [] ∧ Exa Z h h0.size "java/lang/String" ∧ SQ0 Z h h0.size ) := by
  refine CtH.of "com/example/method_to_route/methodtoroute/PercentEncodingIsEscapePinLaw" rfl (plainFor_of_name pn_191) #[.val (.int (0 : Int32)), .val (.int p2), .val (.int p3), .val (.int p4), .val (.int p5), .val (.int p6)] rfl rfl ?_
  intro p e s m below meth c s₁ hx hby hml hown hnm hret hns hZ hh X0 e0 hCH
  refine Gk.iloadN X0 hx (hb hby d2_0) rfl ?_
  refine Gk.ifNo X0 hx (hb hby d2_1) (teq (by decide : (0 : Int32) = (0 : Int32))).2 ?_
  refine Gk.newO X0 hx hZ hown (W hw 8 rfl) (W hw 9 rfl) (W hw 10 rfl) e0 (hb hby d2_4) (by decide) (by decide) ?_
  intro T1 h1 b1 X1 e1 E1 g1 A1 D1
  have g_b1 : n0 ≤ b1 := Nat.le_trans Z0 (Nat.le_of_eq g1.symm)
  have lt_b1 := A1.lt
  have F_coder_b1 : Fld Z h1 b1 "java/lang/String" "coder" "B" (.int (0 : Int32)) := D1 (Or.inr (W hw 34 rfl)) (ty := .byte) (by decide)
  have F_value_b1 : Fld Z h1 b1 "java/lang/String" "value" "[B" .null := D1 (Or.inr (W hw 36 rfl)) (ty := (.array .byte)) (by decide)
  refine Gk.dup X1 hx (hb hby d2_7) rfl ?_
  refine Gk.iconst X1 hx (hb hby d2_8) (0 : Int32) rfl ?_
  refine Gk.newP X1 hx hZ (W hw 0 rfl) e1 (hb hby d2_9) (by decide) (cap := 0) (by decide) (by decide) (by decide) (by decide) rfl ?_
  intro T2 h2 b2 k2 X2 e2 E2 g2 A2 B2
  have g_b2 : n0 ≤ b2 := Nat.le_trans (Nat.le_trans Z0 E1.1) (Nat.le_of_eq g2.symm)
  have V_b2 : Arf Z h2 b2 k2 .char (0 : Int32) (fun _ => (.int (0 : Int32))) := A2
  have lt_b2 := V_b2.lt
  have H4 := (F_coder_b1.ext E2)
  have H5 := (F_value_b1.ext E2)
  have H6 := (A1.ext E2)
  have R7_ := CHr.refl hCH
  have R8_ := R7_.trans (CHr.ext E1 R7_.1)
  have R9_ := R8_.trans (CHr.ext E2 R8_.1)
  refine Gk.callIH (s := s) (argsL := [(.ref b2)]) (show Stand p l e _ (s.setVm s.vm) m _ below meth c _ _ _ _ from X2) hx hZ hown (str_0 l Z a0 h2 n0 hw b1 b2 k2 (fun _ => (.int (0 : Int32))) (Nat.le_trans Z0 (Nat.le_trans E1.1 E2.1)) H6 V_b2 H4 H5 g_b1) rfl (W hw 11 rfl) (W hw 12 rfl) (W hw 13 rfl) rfl (by decide) (W hw 10 rfl) e2 ((State.WarmedH.refl s).since 0) (Nat.zero_le _) (own_EW hw) R9_.1 pd_8 rfl rfl rfl (by rw [hml]; rfl) rfl (hb hby d2_11) ?_
  intro T3 L3 v3 kS3 X3 S3_ q3_ Z3_ o3_ C3_ hQ3
  have R3_ := R9_.trans C3_
  obtain ⟨rfl, N3q, K3, sq_⟩ := hQ3
  have N3 := Fr.app (Fr.nil n0) N3q
  show Go p e below (T3.setTop (mkF m 14 _ [(.ref b1)])) _
  have H10 := (H6.keep K3)
  exact Gk.rRH (s := s) X3 hx hret rfl rfl rfl hns (hb hby d2_14) rfl S3_ (Nat.le_trans q3_ (Nat.le_refl _)) Z3_ (own_EW hw) hh R3_ ⟨congrArg (fun z_ : Addr => some (Value.ref z_)) (show b1 = h0.size from g1), N3, ((((Keep.refl h0 []).ext E1).ext E2).trans K3 (allS (Or.inr (Nat.le_trans (Nat.le_refl _) (Nat.le_of_eq g1.symm))) all0)), (g1 ▸ H10), (g1 ▸ sq_)⟩
theorem d2_15 : decode method_5_code 15 = .ok (.iload_n 0, 1) := by decide +kernel
theorem d2_16 : decode method_5_code 16 = .ok (.iconst 1, 1) := by decide +kernel
theorem d2_17 : decode method_5_code 17 = .ok (.if_icmp .ne 18, 3) := by decide +kernel
theorem d2_20 : decode method_5_code 20 = .ok (.new 31, 3) := by decide +kernel
theorem d2_23 : decode method_5_code 23 = .ok (.dup, 1) := by decide +kernel
theorem d2_24 : decode method_5_code 24 = .ok (.iconst 1, 1) := by decide +kernel
theorem d2_25 : decode method_5_code 25 = .ok (.newarray .char, 2) := by decide +kernel
theorem d2_27 : decode method_5_code 27 = .ok (.dup, 1) := by decide +kernel
theorem d2_28 : decode method_5_code 28 = .ok (.iconst 0, 1) := by decide +kernel
theorem d2_29 : decode method_5_code 29 = .ok (.iload_n 1, 1) := by decide +kernel
theorem d2_30 : decode method_5_code 30 = .ok (.castore, 1) := by decide +kernel
theorem d2_31 : decode method_5_code 31 = .ok (.invokespecial 35, 3) := by decide +kernel
theorem d2_34 : decode method_5_code 34 = .ok (.areturn, 1) := by decide +kernel
theorem make_1 (hw : HW Z a0) (p2 p3 p4 p5 p6 w_COMPACT_STRINGS : Int32) (Z0 : n0 ≤ h0.size) (S_COMPACT_STRINGS : Stx Z n0 h0 "java/lang/String" "COMPACT_STRINGS" "Z" (.int w_COMPACT_STRINGS)) (S__assertionsDisabled : Stx Z n0 h0 "java/lang/StringUTF16" "$assertionsDisabled" "Z" (.int (1 : Int32))) (S_HI_BYTE_SHIFT : Stx Z n0 h0 "java/lang/StringUTF16" "HI_BYTE_SHIFT" "I" (.int (0 : Int32))) (S_LO_BYTE_SHIFT : Stx Z n0 h0 "java/lang/StringUTF16" "LO_BYTE_SHIFT" "I" (.int (8 : Int32))) (hb0 : 0 ≤ p2.toInt ∧ p2.toInt < 65536) (hcs : ¬ (w_COMPACT_STRINGS = (0 : Int32))) : Ct l ⟨"com/example/method_to_route/methodtoroute/PercentEncodingIsEscapePinLaw", "make", "(ICCCCC)Ljava/lang/String;"⟩ method_5_code 6 (some (.object "java/lang/String")) ⟨6, 4, 8, 88⟩ #[(.int (1 : Int32)), (.int p2), (.int p3), (.int p4), (.int p5), (.int p6)] Z h0 (fun v h L => v = some (.ref h0.size) ∧ Fr n0 L ∧ Keep h0 h [] ∧ Exa Z h h0.size "java/lang/String" ∧ SQ1 Z h h0.size p2) := by
  refine Ct.of "com/example/method_to_route/methodtoroute/PercentEncodingIsEscapePinLaw" rfl (plainFor_of_name pn_191) #[.val (.int (1 : Int32)), .val (.int p2), .val (.int p3), .val (.int p4), .val (.int p5), .val (.int p6)] rfl rfl ?_
  intro p e s m below meth c s₁ hx hby hml hown hnm hret hns hZ hh X0 e0
  refine Gk.iloadN X0 hx (hb hby d2_0) rfl ?_
  refine Gk.ifYes X0 hx (hb hby d2_1) (feq (by decide : ¬ ((1 : Int32) = (0 : Int32)))).2 15 (by decide) (by decide) ?_
  refine Gk.iloadN X0 hx (hb hby d2_15) rfl ?_
  refine Gk.iconst X0 hx (hb hby d2_16) (1 : Int32) rfl ?_
  refine Gk.icmpNo X0 hx (hb hby d2_17) (teq (by decide : (1 : Int32) = (1 : Int32))).2 ?_
  refine Gk.newO X0 hx hZ hown (W hw 8 rfl) (W hw 9 rfl) (W hw 10 rfl) e0 (hb hby d2_20) (by decide) (by decide) ?_
  intro T1 h1 b1 X1 e1 E1 g1 A1 D1
  have g_b1 : n0 ≤ b1 := Nat.le_trans Z0 (Nat.le_of_eq g1.symm)
  have lt_b1 := A1.lt
  have F_coder_b1 : Fld Z h1 b1 "java/lang/String" "coder" "B" (.int (0 : Int32)) := D1 (Or.inr (W hw 34 rfl)) (ty := .byte) (by decide)
  have F_value_b1 : Fld Z h1 b1 "java/lang/String" "value" "[B" .null := D1 (Or.inr (W hw 36 rfl)) (ty := (.array .byte)) (by decide)
  refine Gk.dup X1 hx (hb hby d2_23) rfl ?_
  refine Gk.iconst X1 hx (hb hby d2_24) (1 : Int32) rfl ?_
  refine Gk.newP X1 hx hZ (W hw 0 rfl) e1 (hb hby d2_25) (by decide) (cap := 1) (by decide) (by decide) (by decide) (by decide) rfl ?_
  intro T2 h2 b2 k2 X2 e2 E2 g2 A2 B2
  have g_b2 : n0 ≤ b2 := Nat.le_trans (Nat.le_trans Z0 E1.1) (Nat.le_of_eq g2.symm)
  have V_b2 : Arf Z h2 b2 k2 .char (1 : Int32) (fun _ => (.int (0 : Int32))) := A2
  have lt_b2 := V_b2.lt
  refine Gk.dup X2 hx (hb hby d2_27) rfl ?_
  refine Gk.iconst X2 hx (hb hby d2_28) (0 : Int32) rfl ?_
  refine Gk.iloadN X2 hx (hb hby d2_29) rfl ?_
  refine Gk.castore X2 hx hZ e2 V_b2 0 rfl ⟨by decide, by decide⟩ (.int p2) (congrArg Value.int (own_narc hb0)) (hb hby d2_30) ?_
  intro T3 h3 X3 e3 W3 V3
  have N3 := Fr.snoc X3 (Fr.nil n0) g_b2
  have ne5 : b1 ≠ b2 := (Nat.ne_of_lt (Nat.lt_of_lt_of_le lt_b1 (Nat.le_trans (Nat.le_refl _) (Nat.le_of_eq g2.symm))))
  have H6 := ((F_coder_b1.ext E2).other W3 (Or.inl ne5))
  have H7 := ((F_value_b1.ext E2).other W3 (Or.inl ne5))
  have H8 := (((S_COMPACT_STRINGS.ext E1).ext E2).wr W3)
  have H9 := (((S__assertionsDisabled.ext E1).ext E2).wr W3)
  have H10 := (((S_HI_BYTE_SHIFT.ext E1).ext E2).wr W3)
  have H11 := (((S_LO_BYTE_SHIFT.ext E1).ext E2).wr W3)
  have H12 := ((A1.ext E2).wr W3)
  have gr13 := (Nat.le_trans (Nat.le_trans E1.1 E2.1) (Keep.of_wr W3).1)
  refine Gk.callI (argsL := [(.ref b2)]) X3 hx hZ hown (str_1 l Z a0 h3 n0 hw b1 b2 k2 (upd (fun _ => (.int (0 : Int32))) 0 (.int p2)) p2 (.int (0 : Int32)) .null w_COMPACT_STRINGS (Nat.le_trans Z0 gr13) H8 H9 H10 H11 H12 V3 rfl hb0 hcs H6 g_b1 H7) rfl (W hw 11 rfl) (W hw 12 rfl) (W hw 13 rfl) rfl (by decide) (W hw 10 rfl) e3 pd_8 rfl rfl rfl (by rw [hml]; rfl) rfl (hb hby d2_31) ?_
  intro T4 L4 v4 X4 hQ4
  obtain ⟨rfl, N4q, K4, sq_⟩ := hQ4
  have N4 := Fr.app N3 N4q
  show Go p e below (T4.setTop (mkF m 34 _ [(.ref b1)])) _
  have H14 := (H12.keep K4)
  exact Gk.rR X4 hx hret rfl rfl rfl hns (hb hby d2_34) rfl ⟨congrArg (fun z_ : Addr => some (Value.ref z_)) (show b1 = h0.size from g1), N4, (((((Keep.refl h0 []).ext E1).ext E2).wr W3 (Or.inr (Nat.le_trans E1.1 (Nat.le_of_eq g2.symm)))).trans K4 (allS (Or.inr (Nat.le_trans (Nat.le_refl _) (Nat.le_of_eq g1.symm))) all0)), (g1 ▸ H14), (g1 ▸ sq_)⟩
theorem d2_35 : decode method_5_code 35 = .ok (.iload_n 0, 1) := by decide +kernel
theorem d2_36 : decode method_5_code 36 = .ok (.iconst 2, 1) := by decide +kernel
theorem d2_37 : decode method_5_code 37 = .ok (.if_icmp .ne 22, 3) := by decide +kernel
theorem d2_40 : decode method_5_code 40 = .ok (.new 31, 3) := by decide +kernel
theorem d2_43 : decode method_5_code 43 = .ok (.dup, 1) := by decide +kernel
theorem d2_44 : decode method_5_code 44 = .ok (.iconst 2, 1) := by decide +kernel
theorem d2_45 : decode method_5_code 45 = .ok (.newarray .char, 2) := by decide +kernel
theorem d2_47 : decode method_5_code 47 = .ok (.dup, 1) := by decide +kernel
theorem d2_48 : decode method_5_code 48 = .ok (.iconst 0, 1) := by decide +kernel
theorem d2_49 : decode method_5_code 49 = .ok (.iload_n 1, 1) := by decide +kernel
theorem d2_50 : decode method_5_code 50 = .ok (.castore, 1) := by decide +kernel
theorem d2_51 : decode method_5_code 51 = .ok (.dup, 1) := by decide +kernel
theorem d2_52 : decode method_5_code 52 = .ok (.iconst 1, 1) := by decide +kernel
theorem d2_53 : decode method_5_code 53 = .ok (.iload_n 2, 1) := by decide +kernel
theorem d2_54 : decode method_5_code 54 = .ok (.castore, 1) := by decide +kernel
theorem d2_55 : decode method_5_code 55 = .ok (.invokespecial 35, 3) := by decide +kernel
theorem d2_58 : decode method_5_code 58 = .ok (.areturn, 1) := by decide +kernel
theorem make_2 (hw : HW Z a0) (p2 p3 p4 p5 p6 w_COMPACT_STRINGS : Int32) (Z0 : n0 ≤ h0.size) (S_COMPACT_STRINGS : Stx Z n0 h0 "java/lang/String" "COMPACT_STRINGS" "Z" (.int w_COMPACT_STRINGS)) (S__assertionsDisabled : Stx Z n0 h0 "java/lang/StringUTF16" "$assertionsDisabled" "Z" (.int (1 : Int32))) (S_HI_BYTE_SHIFT : Stx Z n0 h0 "java/lang/StringUTF16" "HI_BYTE_SHIFT" "I" (.int (0 : Int32))) (S_LO_BYTE_SHIFT : Stx Z n0 h0 "java/lang/StringUTF16" "LO_BYTE_SHIFT" "I" (.int (8 : Int32))) (hb0 : 0 ≤ p2.toInt ∧ p2.toInt < 65536) (hb1 : 0 ≤ p3.toInt ∧ p3.toInt < 65536) (hcs : ¬ (w_COMPACT_STRINGS = (0 : Int32))) : Ct l ⟨"com/example/method_to_route/methodtoroute/PercentEncodingIsEscapePinLaw", "make", "(ICCCCC)Ljava/lang/String;"⟩ method_5_code 6 (some (.object "java/lang/String")) ⟨6, 4, 12, 88⟩ #[(.int (2 : Int32)), (.int p2), (.int p3), (.int p4), (.int p5), (.int p6)] Z h0 (fun v h L => v = some (.ref h0.size) ∧ Fr n0 L ∧ Keep h0 h [] ∧ Exa Z h h0.size "java/lang/String" ∧ SQ2 Z h h0.size p2 p3) := by
  refine Ct.of "com/example/method_to_route/methodtoroute/PercentEncodingIsEscapePinLaw" rfl (plainFor_of_name pn_191) #[.val (.int (2 : Int32)), .val (.int p2), .val (.int p3), .val (.int p4), .val (.int p5), .val (.int p6)] rfl rfl ?_
  intro p e s m below meth c s₁ hx hby hml hown hnm hret hns hZ hh X0 e0
  refine Gk.iloadN X0 hx (hb hby d2_0) rfl ?_
  refine Gk.ifYes X0 hx (hb hby d2_1) (feq (by decide : ¬ ((2 : Int32) = (0 : Int32)))).2 15 (by decide) (by decide) ?_
  refine Gk.iloadN X0 hx (hb hby d2_15) rfl ?_
  refine Gk.iconst X0 hx (hb hby d2_16) (1 : Int32) rfl ?_
  refine Gk.icmpYes X0 hx (hb hby d2_17) (feq (by decide : ¬ ((2 : Int32) = (1 : Int32)))).2 35 (by decide) (by decide) ?_
  refine Gk.iloadN X0 hx (hb hby d2_35) rfl ?_
  refine Gk.iconst X0 hx (hb hby d2_36) (2 : Int32) rfl ?_
  refine Gk.icmpNo X0 hx (hb hby d2_37) (teq (by decide : (2 : Int32) = (2 : Int32))).2 ?_
  refine Gk.newO X0 hx hZ hown (W hw 8 rfl) (W hw 9 rfl) (W hw 10 rfl) e0 (hb hby d2_40) (by decide) (by decide) ?_
  intro T1 h1 b1 X1 e1 E1 g1 A1 D1
  have g_b1 : n0 ≤ b1 := Nat.le_trans Z0 (Nat.le_of_eq g1.symm)
  have lt_b1 := A1.lt
  have F_coder_b1 : Fld Z h1 b1 "java/lang/String" "coder" "B" (.int (0 : Int32)) := D1 (Or.inr (W hw 34 rfl)) (ty := .byte) (by decide)
  have F_value_b1 : Fld Z h1 b1 "java/lang/String" "value" "[B" .null := D1 (Or.inr (W hw 36 rfl)) (ty := (.array .byte)) (by decide)
  refine Gk.dup X1 hx (hb hby d2_43) rfl ?_
  refine Gk.iconst X1 hx (hb hby d2_44) (2 : Int32) rfl ?_
  refine Gk.newP X1 hx hZ (W hw 0 rfl) e1 (hb hby d2_45) (by decide) (cap := 2) (by decide) (by decide) (by decide) (by decide) rfl ?_
  intro T2 h2 b2 k2 X2 e2 E2 g2 A2 B2
  have g_b2 : n0 ≤ b2 := Nat.le_trans (Nat.le_trans Z0 E1.1) (Nat.le_of_eq g2.symm)
  have V_b2 : Arf Z h2 b2 k2 .char (2 : Int32) (fun _ => (.int (0 : Int32))) := A2
  have lt_b2 := V_b2.lt
  refine Gk.dup X2 hx (hb hby d2_47) rfl ?_
  refine Gk.iconst X2 hx (hb hby d2_48) (0 : Int32) rfl ?_
  refine Gk.iloadN X2 hx (hb hby d2_49) rfl ?_
  refine Gk.castore X2 hx hZ e2 V_b2 0 rfl ⟨by decide, by decide⟩ (.int p2) (congrArg Value.int (own_narc hb0)) (hb hby d2_50) ?_
  intro T3 h3 X3 e3 W3 V3
  have N3 := Fr.snoc X3 (Fr.nil n0) g_b2
  refine Gk.dup X3 hx (hb hby d2_51) rfl ?_
  refine Gk.iconst X3 hx (hb hby d2_52) (1 : Int32) rfl ?_
  refine Gk.iloadN X3 hx (hb hby d2_53) rfl ?_
  refine Gk.castore X3 hx hZ e3 V3 1 rfl ⟨by decide, by decide⟩ (.int p3) (congrArg Value.int (own_narc hb1)) (hb hby d2_54) ?_
  intro T4 h4 X4 e4 W4 V4
  have N4 := Fr.snoc X4 N3 g_b2
  have ne6 : b1 ≠ b2 := (Nat.ne_of_lt (Nat.lt_of_lt_of_le lt_b1 (Nat.le_trans (Nat.le_refl _) (Nat.le_of_eq g2.symm))))
  have H7 := (((F_coder_b1.ext E2).other W3 (Or.inl ne6)).other W4 (Or.inl ne6))
  have H8 := (((F_value_b1.ext E2).other W3 (Or.inl ne6)).other W4 (Or.inl ne6))
  have H9 := ((((S_COMPACT_STRINGS.ext E1).ext E2).wr W3).wr W4)
  have H10 := ((((S__assertionsDisabled.ext E1).ext E2).wr W3).wr W4)
  have H11 := ((((S_HI_BYTE_SHIFT.ext E1).ext E2).wr W3).wr W4)
  have H12 := ((((S_LO_BYTE_SHIFT.ext E1).ext E2).wr W3).wr W4)
  have H13 := (((A1.ext E2).wr W3).wr W4)
  have gr14 := (Nat.le_trans (Nat.le_trans (Nat.le_trans E1.1 E2.1) (Keep.of_wr W3).1) (Keep.of_wr W4).1)
  refine Gk.callI (argsL := [(.ref b2)]) X4 hx hZ hown (str_2 l Z a0 h4 n0 hw b1 b2 k2 (upd (upd (fun _ => (.int (0 : Int32))) 0 (.int p2)) 1 (.int p3)) p2 p3 (.int (0 : Int32)) .null w_COMPACT_STRINGS (Nat.le_trans Z0 gr14) H9 H10 H11 H12 H13 V4 rfl rfl hb0 hb1 hcs H7 g_b1 H8) rfl (W hw 11 rfl) (W hw 12 rfl) (W hw 13 rfl) rfl (by decide) (W hw 10 rfl) e4 pd_8 rfl rfl rfl (by rw [hml]; rfl) rfl (hb hby d2_55) ?_
  intro T5 L5 v5 X5 hQ5
  obtain ⟨rfl, N5q, K5, sq_⟩ := hQ5
  have N5 := Fr.app N4 N5q
  show Go p e below (T5.setTop (mkF m 58 _ [(.ref b1)])) _
  have H15 := (H13.keep K5)
  exact Gk.rR X5 hx hret rfl rfl rfl hns (hb hby d2_58) rfl ⟨congrArg (fun z_ : Addr => some (Value.ref z_)) (show b1 = h0.size from g1), N5, ((((((Keep.refl h0 []).ext E1).ext E2).wr W3 (Or.inr (Nat.le_trans E1.1 (Nat.le_of_eq g2.symm)))).wr W4 (Or.inr (Nat.le_trans E1.1 (Nat.le_of_eq g2.symm)))).trans K5 (allS (Or.inr (Nat.le_trans (Nat.le_refl _) (Nat.le_of_eq g1.symm))) all0)), (g1 ▸ H15), (g1 ▸ sq_)⟩
theorem d2_59 : decode method_5_code 59 = .ok (.iload_n 0, 1) := by decide +kernel
theorem d2_60 : decode method_5_code 60 = .ok (.iconst 3, 1) := by decide +kernel
theorem d2_61 : decode method_5_code 61 = .ok (.if_icmp .ne 26, 3) := by decide +kernel
theorem d2_64 : decode method_5_code 64 = .ok (.new 31, 3) := by decide +kernel
theorem d2_67 : decode method_5_code 67 = .ok (.dup, 1) := by decide +kernel
theorem d2_68 : decode method_5_code 68 = .ok (.iconst 3, 1) := by decide +kernel
theorem d2_69 : decode method_5_code 69 = .ok (.newarray .char, 2) := by decide +kernel
theorem d2_71 : decode method_5_code 71 = .ok (.dup, 1) := by decide +kernel
theorem d2_72 : decode method_5_code 72 = .ok (.iconst 0, 1) := by decide +kernel
theorem d2_73 : decode method_5_code 73 = .ok (.iload_n 1, 1) := by decide +kernel
theorem d2_74 : decode method_5_code 74 = .ok (.castore, 1) := by decide +kernel
theorem d2_75 : decode method_5_code 75 = .ok (.dup, 1) := by decide +kernel
theorem d2_76 : decode method_5_code 76 = .ok (.iconst 1, 1) := by decide +kernel
theorem d2_77 : decode method_5_code 77 = .ok (.iload_n 2, 1) := by decide +kernel
theorem d2_78 : decode method_5_code 78 = .ok (.castore, 1) := by decide +kernel
theorem d2_79 : decode method_5_code 79 = .ok (.dup, 1) := by decide +kernel
theorem d2_80 : decode method_5_code 80 = .ok (.iconst 2, 1) := by decide +kernel
theorem d2_81 : decode method_5_code 81 = .ok (.iload_n 3, 1) := by decide +kernel
theorem d2_82 : decode method_5_code 82 = .ok (.castore, 1) := by decide +kernel
theorem d2_83 : decode method_5_code 83 = .ok (.invokespecial 35, 3) := by decide +kernel
theorem d2_86 : decode method_5_code 86 = .ok (.areturn, 1) := by decide +kernel
theorem make_3 (hw : HW Z a0) (p2 p3 p4 p5 p6 w_COMPACT_STRINGS : Int32) (Z0 : n0 ≤ h0.size) (S_COMPACT_STRINGS : Stx Z n0 h0 "java/lang/String" "COMPACT_STRINGS" "Z" (.int w_COMPACT_STRINGS)) (S__assertionsDisabled : Stx Z n0 h0 "java/lang/StringUTF16" "$assertionsDisabled" "Z" (.int (1 : Int32))) (S_HI_BYTE_SHIFT : Stx Z n0 h0 "java/lang/StringUTF16" "HI_BYTE_SHIFT" "I" (.int (0 : Int32))) (S_LO_BYTE_SHIFT : Stx Z n0 h0 "java/lang/StringUTF16" "LO_BYTE_SHIFT" "I" (.int (8 : Int32))) (hb0 : 0 ≤ p2.toInt ∧ p2.toInt < 65536) (hb1 : 0 ≤ p3.toInt ∧ p3.toInt < 65536) (hb2 : 0 ≤ p4.toInt ∧ p4.toInt < 65536) (hcs : ¬ (w_COMPACT_STRINGS = (0 : Int32))) : Ct l ⟨"com/example/method_to_route/methodtoroute/PercentEncodingIsEscapePinLaw", "make", "(ICCCCC)Ljava/lang/String;"⟩ method_5_code 6 (some (.object "java/lang/String")) ⟨6, 4, 16, 88⟩ #[(.int (3 : Int32)), (.int p2), (.int p3), (.int p4), (.int p5), (.int p6)] Z h0 (fun v h L => v = some (.ref h0.size) ∧ Fr n0 L ∧ Keep h0 h [] ∧ Exa Z h h0.size "java/lang/String" ∧ SQ3 Z h h0.size p2 p3 p4) := by
  refine Ct.of "com/example/method_to_route/methodtoroute/PercentEncodingIsEscapePinLaw" rfl (plainFor_of_name pn_191) #[.val (.int (3 : Int32)), .val (.int p2), .val (.int p3), .val (.int p4), .val (.int p5), .val (.int p6)] rfl rfl ?_
  intro p e s m below meth c s₁ hx hby hml hown hnm hret hns hZ hh X0 e0
  refine Gk.iloadN X0 hx (hb hby d2_0) rfl ?_
  refine Gk.ifYes X0 hx (hb hby d2_1) (feq (by decide : ¬ ((3 : Int32) = (0 : Int32)))).2 15 (by decide) (by decide) ?_
  refine Gk.iloadN X0 hx (hb hby d2_15) rfl ?_
  refine Gk.iconst X0 hx (hb hby d2_16) (1 : Int32) rfl ?_
  refine Gk.icmpYes X0 hx (hb hby d2_17) (feq (by decide : ¬ ((3 : Int32) = (1 : Int32)))).2 35 (by decide) (by decide) ?_
  refine Gk.iloadN X0 hx (hb hby d2_35) rfl ?_
  refine Gk.iconst X0 hx (hb hby d2_36) (2 : Int32) rfl ?_
  refine Gk.icmpYes X0 hx (hb hby d2_37) (feq (by decide : ¬ ((3 : Int32) = (2 : Int32)))).2 59 (by decide) (by decide) ?_
  refine Gk.iloadN X0 hx (hb hby d2_59) rfl ?_
  refine Gk.iconst X0 hx (hb hby d2_60) (3 : Int32) rfl ?_
  refine Gk.icmpNo X0 hx (hb hby d2_61) (teq (by decide : (3 : Int32) = (3 : Int32))).2 ?_
  refine Gk.newO X0 hx hZ hown (W hw 8 rfl) (W hw 9 rfl) (W hw 10 rfl) e0 (hb hby d2_64) (by decide) (by decide) ?_
  intro T1 h1 b1 X1 e1 E1 g1 A1 D1
  have g_b1 : n0 ≤ b1 := Nat.le_trans Z0 (Nat.le_of_eq g1.symm)
  have lt_b1 := A1.lt
  have F_coder_b1 : Fld Z h1 b1 "java/lang/String" "coder" "B" (.int (0 : Int32)) := D1 (Or.inr (W hw 34 rfl)) (ty := .byte) (by decide)
  have F_value_b1 : Fld Z h1 b1 "java/lang/String" "value" "[B" .null := D1 (Or.inr (W hw 36 rfl)) (ty := (.array .byte)) (by decide)
  refine Gk.dup X1 hx (hb hby d2_67) rfl ?_
  refine Gk.iconst X1 hx (hb hby d2_68) (3 : Int32) rfl ?_
  refine Gk.newP X1 hx hZ (W hw 0 rfl) e1 (hb hby d2_69) (by decide) (cap := 3) (by decide) (by decide) (by decide) (by decide) rfl ?_
  intro T2 h2 b2 k2 X2 e2 E2 g2 A2 B2
  have g_b2 : n0 ≤ b2 := Nat.le_trans (Nat.le_trans Z0 E1.1) (Nat.le_of_eq g2.symm)
  have V_b2 : Arf Z h2 b2 k2 .char (3 : Int32) (fun _ => (.int (0 : Int32))) := A2
  have lt_b2 := V_b2.lt
  refine Gk.dup X2 hx (hb hby d2_71) rfl ?_
  refine Gk.iconst X2 hx (hb hby d2_72) (0 : Int32) rfl ?_
  refine Gk.iloadN X2 hx (hb hby d2_73) rfl ?_
  refine Gk.castore X2 hx hZ e2 V_b2 0 rfl ⟨by decide, by decide⟩ (.int p2) (congrArg Value.int (own_narc hb0)) (hb hby d2_74) ?_
  intro T3 h3 X3 e3 W3 V3
  have N3 := Fr.snoc X3 (Fr.nil n0) g_b2
  refine Gk.dup X3 hx (hb hby d2_75) rfl ?_
  refine Gk.iconst X3 hx (hb hby d2_76) (1 : Int32) rfl ?_
  refine Gk.iloadN X3 hx (hb hby d2_77) rfl ?_
  refine Gk.castore X3 hx hZ e3 V3 1 rfl ⟨by decide, by decide⟩ (.int p3) (congrArg Value.int (own_narc hb1)) (hb hby d2_78) ?_
  intro T4 h4 X4 e4 W4 V4
  have N4 := Fr.snoc X4 N3 g_b2
  refine Gk.dup X4 hx (hb hby d2_79) rfl ?_
  refine Gk.iconst X4 hx (hb hby d2_80) (2 : Int32) rfl ?_
  refine Gk.iloadN X4 hx (hb hby d2_81) rfl ?_
  refine Gk.castore X4 hx hZ e4 V4 2 rfl ⟨by decide, by decide⟩ (.int p4) (congrArg Value.int (own_narc hb2)) (hb hby d2_82) ?_
  intro T5 h5 X5 e5 W5 V5
  have N5 := Fr.snoc X5 N4 g_b2
  have ne7 : b1 ≠ b2 := (Nat.ne_of_lt (Nat.lt_of_lt_of_le lt_b1 (Nat.le_trans (Nat.le_refl _) (Nat.le_of_eq g2.symm))))
  have H8 := ((((F_coder_b1.ext E2).other W3 (Or.inl ne7)).other W4 (Or.inl ne7)).other W5 (Or.inl ne7))
  have H9 := ((((F_value_b1.ext E2).other W3 (Or.inl ne7)).other W4 (Or.inl ne7)).other W5 (Or.inl ne7))
  have H10 := (((((S_COMPACT_STRINGS.ext E1).ext E2).wr W3).wr W4).wr W5)
  have H11 := (((((S__assertionsDisabled.ext E1).ext E2).wr W3).wr W4).wr W5)
  have H12 := (((((S_HI_BYTE_SHIFT.ext E1).ext E2).wr W3).wr W4).wr W5)
  have H13 := (((((S_LO_BYTE_SHIFT.ext E1).ext E2).wr W3).wr W4).wr W5)
  have H14 := ((((A1.ext E2).wr W3).wr W4).wr W5)
  have gr15 := (Nat.le_trans (Nat.le_trans (Nat.le_trans (Nat.le_trans E1.1 E2.1) (Keep.of_wr W3).1) (Keep.of_wr W4).1) (Keep.of_wr W5).1)
  refine Gk.callI (argsL := [(.ref b2)]) X5 hx hZ hown (str_3 l Z a0 h5 n0 hw b1 b2 k2 (upd (upd (upd (fun _ => (.int (0 : Int32))) 0 (.int p2)) 1 (.int p3)) 2 (.int p4)) p2 p3 p4 (.int (0 : Int32)) .null w_COMPACT_STRINGS (Nat.le_trans Z0 gr15) H10 H11 H12 H13 H14 V5 rfl rfl rfl hb0 hb1 hb2 hcs H8 g_b1 H9) rfl (W hw 11 rfl) (W hw 12 rfl) (W hw 13 rfl) rfl (by decide) (W hw 10 rfl) e5 pd_8 rfl rfl rfl (by rw [hml]; rfl) rfl (hb hby d2_83) ?_
  intro T6 L6 v6 X6 hQ6
  obtain ⟨rfl, N6q, K6, sq_⟩ := hQ6
  have N6 := Fr.app N5 N6q
  show Go p e below (T6.setTop (mkF m 86 _ [(.ref b1)])) _
  have H16 := (H14.keep K6)
  exact Gk.rR X6 hx hret rfl rfl rfl hns (hb hby d2_86) rfl ⟨congrArg (fun z_ : Addr => some (Value.ref z_)) (show b1 = h0.size from g1), N6, (((((((Keep.refl h0 []).ext E1).ext E2).wr W3 (Or.inr (Nat.le_trans E1.1 (Nat.le_of_eq g2.symm)))).wr W4 (Or.inr (Nat.le_trans E1.1 (Nat.le_of_eq g2.symm)))).wr W5 (Or.inr (Nat.le_trans E1.1 (Nat.le_of_eq g2.symm)))).trans K6 (allS (Or.inr (Nat.le_trans (Nat.le_refl _) (Nat.le_of_eq g1.symm))) all0)), (g1 ▸ H16), (g1 ▸ sq_)⟩
theorem d2_87 : decode method_5_code 87 = .ok (.iload_n 0, 1) := by decide +kernel
theorem d2_88 : decode method_5_code 88 = .ok (.iconst 4, 1) := by decide +kernel
theorem d2_89 : decode method_5_code 89 = .ok (.if_icmp .ne 31, 3) := by decide +kernel
theorem d2_92 : decode method_5_code 92 = .ok (.new 31, 3) := by decide +kernel
theorem d2_95 : decode method_5_code 95 = .ok (.dup, 1) := by decide +kernel
theorem d2_96 : decode method_5_code 96 = .ok (.iconst 4, 1) := by decide +kernel
theorem d2_97 : decode method_5_code 97 = .ok (.newarray .char, 2) := by decide +kernel
theorem d2_99 : decode method_5_code 99 = .ok (.dup, 1) := by decide +kernel
theorem d2_100 : decode method_5_code 100 = .ok (.iconst 0, 1) := by decide +kernel
theorem d2_101 : decode method_5_code 101 = .ok (.iload_n 1, 1) := by decide +kernel
theorem d2_102 : decode method_5_code 102 = .ok (.castore, 1) := by decide +kernel
theorem d2_103 : decode method_5_code 103 = .ok (.dup, 1) := by decide +kernel
theorem d2_104 : decode method_5_code 104 = .ok (.iconst 1, 1) := by decide +kernel
theorem d2_105 : decode method_5_code 105 = .ok (.iload_n 2, 1) := by decide +kernel
theorem d2_106 : decode method_5_code 106 = .ok (.castore, 1) := by decide +kernel
theorem d2_107 : decode method_5_code 107 = .ok (.dup, 1) := by decide +kernel
theorem d2_108 : decode method_5_code 108 = .ok (.iconst 2, 1) := by decide +kernel
theorem d2_109 : decode method_5_code 109 = .ok (.iload_n 3, 1) := by decide +kernel
theorem d2_110 : decode method_5_code 110 = .ok (.castore, 1) := by decide +kernel
theorem d2_111 : decode method_5_code 111 = .ok (.dup, 1) := by decide +kernel
theorem d2_112 : decode method_5_code 112 = .ok (.iconst 3, 1) := by decide +kernel
theorem d2_113 : decode method_5_code 113 = .ok (.iload 4, 2) := by decide +kernel
theorem d2_115 : decode method_5_code 115 = .ok (.castore, 1) := by decide +kernel
theorem d2_116 : decode method_5_code 116 = .ok (.invokespecial 35, 3) := by decide +kernel
theorem d2_119 : decode method_5_code 119 = .ok (.areturn, 1) := by decide +kernel
theorem make_4 (hw : HW Z a0) (p2 p3 p4 p5 p6 w_COMPACT_STRINGS : Int32) (Z0 : n0 ≤ h0.size) (S_COMPACT_STRINGS : Stx Z n0 h0 "java/lang/String" "COMPACT_STRINGS" "Z" (.int w_COMPACT_STRINGS)) (S__assertionsDisabled : Stx Z n0 h0 "java/lang/StringUTF16" "$assertionsDisabled" "Z" (.int (1 : Int32))) (S_HI_BYTE_SHIFT : Stx Z n0 h0 "java/lang/StringUTF16" "HI_BYTE_SHIFT" "I" (.int (0 : Int32))) (S_LO_BYTE_SHIFT : Stx Z n0 h0 "java/lang/StringUTF16" "LO_BYTE_SHIFT" "I" (.int (8 : Int32))) (hb0 : 0 ≤ p2.toInt ∧ p2.toInt < 65536) (hb1 : 0 ≤ p3.toInt ∧ p3.toInt < 65536) (hb2 : 0 ≤ p4.toInt ∧ p4.toInt < 65536) (hb3 : 0 ≤ p5.toInt ∧ p5.toInt < 65536) (hcs : ¬ (w_COMPACT_STRINGS = (0 : Int32))) : Ct l ⟨"com/example/method_to_route/methodtoroute/PercentEncodingIsEscapePinLaw", "make", "(ICCCCC)Ljava/lang/String;"⟩ method_5_code 6 (some (.object "java/lang/String")) ⟨6, 4, 20, 88⟩ #[(.int (4 : Int32)), (.int p2), (.int p3), (.int p4), (.int p5), (.int p6)] Z h0 (fun v h L => v = some (.ref h0.size) ∧ Fr n0 L ∧ Keep h0 h [] ∧ Exa Z h h0.size "java/lang/String" ∧ SQ4 Z h h0.size p2 p3 p4 p5) := by
  refine Ct.of "com/example/method_to_route/methodtoroute/PercentEncodingIsEscapePinLaw" rfl (plainFor_of_name pn_191) #[.val (.int (4 : Int32)), .val (.int p2), .val (.int p3), .val (.int p4), .val (.int p5), .val (.int p6)] rfl rfl ?_
  intro p e s m below meth c s₁ hx hby hml hown hnm hret hns hZ hh X0 e0
  refine Gk.iloadN X0 hx (hb hby d2_0) rfl ?_
  refine Gk.ifYes X0 hx (hb hby d2_1) (feq (by decide : ¬ ((4 : Int32) = (0 : Int32)))).2 15 (by decide) (by decide) ?_
  refine Gk.iloadN X0 hx (hb hby d2_15) rfl ?_
  refine Gk.iconst X0 hx (hb hby d2_16) (1 : Int32) rfl ?_
  refine Gk.icmpYes X0 hx (hb hby d2_17) (feq (by decide : ¬ ((4 : Int32) = (1 : Int32)))).2 35 (by decide) (by decide) ?_
  refine Gk.iloadN X0 hx (hb hby d2_35) rfl ?_
  refine Gk.iconst X0 hx (hb hby d2_36) (2 : Int32) rfl ?_
  refine Gk.icmpYes X0 hx (hb hby d2_37) (feq (by decide : ¬ ((4 : Int32) = (2 : Int32)))).2 59 (by decide) (by decide) ?_
  refine Gk.iloadN X0 hx (hb hby d2_59) rfl ?_
  refine Gk.iconst X0 hx (hb hby d2_60) (3 : Int32) rfl ?_
  refine Gk.icmpYes X0 hx (hb hby d2_61) (feq (by decide : ¬ ((4 : Int32) = (3 : Int32)))).2 87 (by decide) (by decide) ?_
  refine Gk.iloadN X0 hx (hb hby d2_87) rfl ?_
  refine Gk.iconst X0 hx (hb hby d2_88) (4 : Int32) rfl ?_
  refine Gk.icmpNo X0 hx (hb hby d2_89) (teq (by decide : (4 : Int32) = (4 : Int32))).2 ?_
  refine Gk.newO X0 hx hZ hown (W hw 8 rfl) (W hw 9 rfl) (W hw 10 rfl) e0 (hb hby d2_92) (by decide) (by decide) ?_
  intro T1 h1 b1 X1 e1 E1 g1 A1 D1
  have g_b1 : n0 ≤ b1 := Nat.le_trans Z0 (Nat.le_of_eq g1.symm)
  have lt_b1 := A1.lt
  have F_coder_b1 : Fld Z h1 b1 "java/lang/String" "coder" "B" (.int (0 : Int32)) := D1 (Or.inr (W hw 34 rfl)) (ty := .byte) (by decide)
  have F_value_b1 : Fld Z h1 b1 "java/lang/String" "value" "[B" .null := D1 (Or.inr (W hw 36 rfl)) (ty := (.array .byte)) (by decide)
  refine Gk.dup X1 hx (hb hby d2_95) rfl ?_
  refine Gk.iconst X1 hx (hb hby d2_96) (4 : Int32) rfl ?_
  refine Gk.newP X1 hx hZ (W hw 0 rfl) e1 (hb hby d2_97) (by decide) (cap := 4) (by decide) (by decide) (by decide) (by decide) rfl ?_
  intro T2 h2 b2 k2 X2 e2 E2 g2 A2 B2
  have g_b2 : n0 ≤ b2 := Nat.le_trans (Nat.le_trans Z0 E1.1) (Nat.le_of_eq g2.symm)
  have V_b2 : Arf Z h2 b2 k2 .char (4 : Int32) (fun _ => (.int (0 : Int32))) := A2
  have lt_b2 := V_b2.lt
  refine Gk.dup X2 hx (hb hby d2_99) rfl ?_
  refine Gk.iconst X2 hx (hb hby d2_100) (0 : Int32) rfl ?_
  refine Gk.iloadN X2 hx (hb hby d2_101) rfl ?_
  refine Gk.castore X2 hx hZ e2 V_b2 0 rfl ⟨by decide, by decide⟩ (.int p2) (congrArg Value.int (own_narc hb0)) (hb hby d2_102) ?_
  intro T3 h3 X3 e3 W3 V3
  have N3 := Fr.snoc X3 (Fr.nil n0) g_b2
  refine Gk.dup X3 hx (hb hby d2_103) rfl ?_
  refine Gk.iconst X3 hx (hb hby d2_104) (1 : Int32) rfl ?_
  refine Gk.iloadN X3 hx (hb hby d2_105) rfl ?_
  refine Gk.castore X3 hx hZ e3 V3 1 rfl ⟨by decide, by decide⟩ (.int p3) (congrArg Value.int (own_narc hb1)) (hb hby d2_106) ?_
  intro T4 h4 X4 e4 W4 V4
  have N4 := Fr.snoc X4 N3 g_b2
  refine Gk.dup X4 hx (hb hby d2_107) rfl ?_
  refine Gk.iconst X4 hx (hb hby d2_108) (2 : Int32) rfl ?_
  refine Gk.iloadN X4 hx (hb hby d2_109) rfl ?_
  refine Gk.castore X4 hx hZ e4 V4 2 rfl ⟨by decide, by decide⟩ (.int p4) (congrArg Value.int (own_narc hb2)) (hb hby d2_110) ?_
  intro T5 h5 X5 e5 W5 V5
  have N5 := Fr.snoc X5 N4 g_b2
  refine Gk.dup X5 hx (hb hby d2_111) rfl ?_
  refine Gk.iconst X5 hx (hb hby d2_112) (3 : Int32) rfl ?_
  refine Gk.iload X5 hx (hb hby d2_113) rfl ?_
  refine Gk.castore X5 hx hZ e5 V5 3 rfl ⟨by decide, by decide⟩ (.int p5) (congrArg Value.int (own_narc hb3)) (hb hby d2_115) ?_
  intro T6 h6 X6 e6 W6 V6
  have N6 := Fr.snoc X6 N5 g_b2
  have ne8 : b1 ≠ b2 := (Nat.ne_of_lt (Nat.lt_of_lt_of_le lt_b1 (Nat.le_trans (Nat.le_refl _) (Nat.le_of_eq g2.symm))))
  have H9 := (((((F_coder_b1.ext E2).other W3 (Or.inl ne8)).other W4 (Or.inl ne8)).other W5 (Or.inl ne8)).other W6 (Or.inl ne8))
  have H10 := (((((F_value_b1.ext E2).other W3 (Or.inl ne8)).other W4 (Or.inl ne8)).other W5 (Or.inl ne8)).other W6 (Or.inl ne8))
  have H11 := ((((((S_COMPACT_STRINGS.ext E1).ext E2).wr W3).wr W4).wr W5).wr W6)
  have H12 := ((((((S__assertionsDisabled.ext E1).ext E2).wr W3).wr W4).wr W5).wr W6)
  have H13 := ((((((S_HI_BYTE_SHIFT.ext E1).ext E2).wr W3).wr W4).wr W5).wr W6)
  have H14 := ((((((S_LO_BYTE_SHIFT.ext E1).ext E2).wr W3).wr W4).wr W5).wr W6)
  have H15 := (((((A1.ext E2).wr W3).wr W4).wr W5).wr W6)
  have gr16 := (Nat.le_trans (Nat.le_trans (Nat.le_trans (Nat.le_trans (Nat.le_trans E1.1 E2.1) (Keep.of_wr W3).1) (Keep.of_wr W4).1) (Keep.of_wr W5).1) (Keep.of_wr W6).1)
  refine Gk.callI (argsL := [(.ref b2)]) X6 hx hZ hown (str_4 l Z a0 h6 n0 hw b1 b2 k2 (upd (upd (upd (upd (fun _ => (.int (0 : Int32))) 0 (.int p2)) 1 (.int p3)) 2 (.int p4)) 3 (.int p5)) p2 p3 p4 p5 (.int (0 : Int32)) .null w_COMPACT_STRINGS (Nat.le_trans Z0 gr16) H11 H12 H13 H14 H15 V6 rfl rfl rfl rfl hb0 hb1 hb2 hb3 hcs H9 g_b1 H10) rfl (W hw 11 rfl) (W hw 12 rfl) (W hw 13 rfl) rfl (by decide) (W hw 10 rfl) e6 pd_8 rfl rfl rfl (by rw [hml]; rfl) rfl (hb hby d2_116) ?_
  intro T7 L7 v7 X7 hQ7
  obtain ⟨rfl, N7q, K7, sq_⟩ := hQ7
  have N7 := Fr.app N6 N7q
  show Go p e below (T7.setTop (mkF m 119 _ [(.ref b1)])) _
  have H17 := (H15.keep K7)
  exact Gk.rR X7 hx hret rfl rfl rfl hns (hb hby d2_119) rfl ⟨congrArg (fun z_ : Addr => some (Value.ref z_)) (show b1 = h0.size from g1), N7, ((((((((Keep.refl h0 []).ext E1).ext E2).wr W3 (Or.inr (Nat.le_trans E1.1 (Nat.le_of_eq g2.symm)))).wr W4 (Or.inr (Nat.le_trans E1.1 (Nat.le_of_eq g2.symm)))).wr W5 (Or.inr (Nat.le_trans E1.1 (Nat.le_of_eq g2.symm)))).wr W6 (Or.inr (Nat.le_trans E1.1 (Nat.le_of_eq g2.symm)))).trans K7 (allS (Or.inr (Nat.le_trans (Nat.le_refl _) (Nat.le_of_eq g1.symm))) all0)), (g1 ▸ H17), (g1 ▸ sq_)⟩
theorem d2_120 : decode method_5_code 120 = .ok (.new 31, 3) := by decide +kernel
theorem d2_123 : decode method_5_code 123 = .ok (.dup, 1) := by decide +kernel
theorem d2_124 : decode method_5_code 124 = .ok (.iconst 5, 1) := by decide +kernel
theorem d2_125 : decode method_5_code 125 = .ok (.newarray .char, 2) := by decide +kernel
theorem d2_127 : decode method_5_code 127 = .ok (.dup, 1) := by decide +kernel
theorem d2_128 : decode method_5_code 128 = .ok (.iconst 0, 1) := by decide +kernel
theorem d2_129 : decode method_5_code 129 = .ok (.iload_n 1, 1) := by decide +kernel
theorem d2_130 : decode method_5_code 130 = .ok (.castore, 1) := by decide +kernel
theorem d2_131 : decode method_5_code 131 = .ok (.dup, 1) := by decide +kernel
theorem d2_132 : decode method_5_code 132 = .ok (.iconst 1, 1) := by decide +kernel
theorem d2_133 : decode method_5_code 133 = .ok (.iload_n 2, 1) := by decide +kernel
theorem d2_134 : decode method_5_code 134 = .ok (.castore, 1) := by decide +kernel
theorem d2_135 : decode method_5_code 135 = .ok (.dup, 1) := by decide +kernel
theorem d2_136 : decode method_5_code 136 = .ok (.iconst 2, 1) := by decide +kernel
theorem d2_137 : decode method_5_code 137 = .ok (.iload_n 3, 1) := by decide +kernel
theorem d2_138 : decode method_5_code 138 = .ok (.castore, 1) := by decide +kernel
theorem d2_139 : decode method_5_code 139 = .ok (.dup, 1) := by decide +kernel
theorem d2_140 : decode method_5_code 140 = .ok (.iconst 3, 1) := by decide +kernel
theorem d2_141 : decode method_5_code 141 = .ok (.iload 4, 2) := by decide +kernel
theorem d2_143 : decode method_5_code 143 = .ok (.castore, 1) := by decide +kernel
theorem d2_144 : decode method_5_code 144 = .ok (.dup, 1) := by decide +kernel
theorem d2_145 : decode method_5_code 145 = .ok (.iconst 4, 1) := by decide +kernel
theorem d2_146 : decode method_5_code 146 = .ok (.iload 5, 2) := by decide +kernel
theorem d2_148 : decode method_5_code 148 = .ok (.castore, 1) := by decide +kernel
theorem d2_149 : decode method_5_code 149 = .ok (.invokespecial 35, 3) := by decide +kernel
theorem d2_152 : decode method_5_code 152 = .ok (.areturn, 1) := by decide +kernel
theorem make_5 (hw : HW Z a0) (p2 p3 p4 p5 p6 w_COMPACT_STRINGS : Int32) (Z0 : n0 ≤ h0.size) (S_COMPACT_STRINGS : Stx Z n0 h0 "java/lang/String" "COMPACT_STRINGS" "Z" (.int w_COMPACT_STRINGS)) (S__assertionsDisabled : Stx Z n0 h0 "java/lang/StringUTF16" "$assertionsDisabled" "Z" (.int (1 : Int32))) (S_HI_BYTE_SHIFT : Stx Z n0 h0 "java/lang/StringUTF16" "HI_BYTE_SHIFT" "I" (.int (0 : Int32))) (S_LO_BYTE_SHIFT : Stx Z n0 h0 "java/lang/StringUTF16" "LO_BYTE_SHIFT" "I" (.int (8 : Int32))) (hb0 : 0 ≤ p2.toInt ∧ p2.toInt < 65536) (hb1 : 0 ≤ p3.toInt ∧ p3.toInt < 65536) (hb2 : 0 ≤ p4.toInt ∧ p4.toInt < 65536) (hb3 : 0 ≤ p5.toInt ∧ p5.toInt < 65536) (hb4 : 0 ≤ p6.toInt ∧ p6.toInt < 65536) (hcs : ¬ (w_COMPACT_STRINGS = (0 : Int32))) : Ct l ⟨"com/example/method_to_route/methodtoroute/PercentEncodingIsEscapePinLaw", "make", "(ICCCCC)Ljava/lang/String;"⟩ method_5_code 6 (some (.object "java/lang/String")) ⟨6, 4, 24, 88⟩ #[(.int (5 : Int32)), (.int p2), (.int p3), (.int p4), (.int p5), (.int p6)] Z h0 (fun v h L => v = some (.ref h0.size) ∧ Fr n0 L ∧ Keep h0 h [] ∧ Exa Z h h0.size "java/lang/String" ∧ SQ5 Z h h0.size p2 p3 p4 p5 p6) := by
  refine Ct.of "com/example/method_to_route/methodtoroute/PercentEncodingIsEscapePinLaw" rfl (plainFor_of_name pn_191) #[.val (.int (5 : Int32)), .val (.int p2), .val (.int p3), .val (.int p4), .val (.int p5), .val (.int p6)] rfl rfl ?_
  intro p e s m below meth c s₁ hx hby hml hown hnm hret hns hZ hh X0 e0
  refine Gk.iloadN X0 hx (hb hby d2_0) rfl ?_
  refine Gk.ifYes X0 hx (hb hby d2_1) (feq (by decide : ¬ ((5 : Int32) = (0 : Int32)))).2 15 (by decide) (by decide) ?_
  refine Gk.iloadN X0 hx (hb hby d2_15) rfl ?_
  refine Gk.iconst X0 hx (hb hby d2_16) (1 : Int32) rfl ?_
  refine Gk.icmpYes X0 hx (hb hby d2_17) (feq (by decide : ¬ ((5 : Int32) = (1 : Int32)))).2 35 (by decide) (by decide) ?_
  refine Gk.iloadN X0 hx (hb hby d2_35) rfl ?_
  refine Gk.iconst X0 hx (hb hby d2_36) (2 : Int32) rfl ?_
  refine Gk.icmpYes X0 hx (hb hby d2_37) (feq (by decide : ¬ ((5 : Int32) = (2 : Int32)))).2 59 (by decide) (by decide) ?_
  refine Gk.iloadN X0 hx (hb hby d2_59) rfl ?_
  refine Gk.iconst X0 hx (hb hby d2_60) (3 : Int32) rfl ?_
  refine Gk.icmpYes X0 hx (hb hby d2_61) (feq (by decide : ¬ ((5 : Int32) = (3 : Int32)))).2 87 (by decide) (by decide) ?_
  refine Gk.iloadN X0 hx (hb hby d2_87) rfl ?_
  refine Gk.iconst X0 hx (hb hby d2_88) (4 : Int32) rfl ?_
  refine Gk.icmpYes X0 hx (hb hby d2_89) (feq (by decide : ¬ ((5 : Int32) = (4 : Int32)))).2 120 (by decide) (by decide) ?_
  refine Gk.newO X0 hx hZ hown (W hw 8 rfl) (W hw 9 rfl) (W hw 10 rfl) e0 (hb hby d2_120) (by decide) (by decide) ?_
  intro T1 h1 b1 X1 e1 E1 g1 A1 D1
  have g_b1 : n0 ≤ b1 := Nat.le_trans Z0 (Nat.le_of_eq g1.symm)
  have lt_b1 := A1.lt
  have F_coder_b1 : Fld Z h1 b1 "java/lang/String" "coder" "B" (.int (0 : Int32)) := D1 (Or.inr (W hw 34 rfl)) (ty := .byte) (by decide)
  have F_value_b1 : Fld Z h1 b1 "java/lang/String" "value" "[B" .null := D1 (Or.inr (W hw 36 rfl)) (ty := (.array .byte)) (by decide)
  refine Gk.dup X1 hx (hb hby d2_123) rfl ?_
  refine Gk.iconst X1 hx (hb hby d2_124) (5 : Int32) rfl ?_
  refine Gk.newP X1 hx hZ (W hw 0 rfl) e1 (hb hby d2_125) (by decide) (cap := 5) (by decide) (by decide) (by decide) (by decide) rfl ?_
  intro T2 h2 b2 k2 X2 e2 E2 g2 A2 B2
  have g_b2 : n0 ≤ b2 := Nat.le_trans (Nat.le_trans Z0 E1.1) (Nat.le_of_eq g2.symm)
  have V_b2 : Arf Z h2 b2 k2 .char (5 : Int32) (fun _ => (.int (0 : Int32))) := A2
  have lt_b2 := V_b2.lt
  refine Gk.dup X2 hx (hb hby d2_127) rfl ?_
  refine Gk.iconst X2 hx (hb hby d2_128) (0 : Int32) rfl ?_
  refine Gk.iloadN X2 hx (hb hby d2_129) rfl ?_
  refine Gk.castore X2 hx hZ e2 V_b2 0 rfl ⟨by decide, by decide⟩ (.int p2) (congrArg Value.int (own_narc hb0)) (hb hby d2_130) ?_
  intro T3 h3 X3 e3 W3 V3
  have N3 := Fr.snoc X3 (Fr.nil n0) g_b2
  refine Gk.dup X3 hx (hb hby d2_131) rfl ?_
  refine Gk.iconst X3 hx (hb hby d2_132) (1 : Int32) rfl ?_
  refine Gk.iloadN X3 hx (hb hby d2_133) rfl ?_
  refine Gk.castore X3 hx hZ e3 V3 1 rfl ⟨by decide, by decide⟩ (.int p3) (congrArg Value.int (own_narc hb1)) (hb hby d2_134) ?_
  intro T4 h4 X4 e4 W4 V4
  have N4 := Fr.snoc X4 N3 g_b2
  refine Gk.dup X4 hx (hb hby d2_135) rfl ?_
  refine Gk.iconst X4 hx (hb hby d2_136) (2 : Int32) rfl ?_
  refine Gk.iloadN X4 hx (hb hby d2_137) rfl ?_
  refine Gk.castore X4 hx hZ e4 V4 2 rfl ⟨by decide, by decide⟩ (.int p4) (congrArg Value.int (own_narc hb2)) (hb hby d2_138) ?_
  intro T5 h5 X5 e5 W5 V5
  have N5 := Fr.snoc X5 N4 g_b2
  refine Gk.dup X5 hx (hb hby d2_139) rfl ?_
  refine Gk.iconst X5 hx (hb hby d2_140) (3 : Int32) rfl ?_
  refine Gk.iload X5 hx (hb hby d2_141) rfl ?_
  refine Gk.castore X5 hx hZ e5 V5 3 rfl ⟨by decide, by decide⟩ (.int p5) (congrArg Value.int (own_narc hb3)) (hb hby d2_143) ?_
  intro T6 h6 X6 e6 W6 V6
  have N6 := Fr.snoc X6 N5 g_b2
  refine Gk.dup X6 hx (hb hby d2_144) rfl ?_
  refine Gk.iconst X6 hx (hb hby d2_145) (4 : Int32) rfl ?_
  refine Gk.iload X6 hx (hb hby d2_146) rfl ?_
  refine Gk.castore X6 hx hZ e6 V6 4 rfl ⟨by decide, by decide⟩ (.int p6) (congrArg Value.int (own_narc hb4)) (hb hby d2_148) ?_
  intro T7 h7 X7 e7 W7 V7
  have N7 := Fr.snoc X7 N6 g_b2
  have ne9 : b1 ≠ b2 := (Nat.ne_of_lt (Nat.lt_of_lt_of_le lt_b1 (Nat.le_trans (Nat.le_refl _) (Nat.le_of_eq g2.symm))))
  have H10 := ((((((F_coder_b1.ext E2).other W3 (Or.inl ne9)).other W4 (Or.inl ne9)).other W5 (Or.inl ne9)).other W6 (Or.inl ne9)).other W7 (Or.inl ne9))
  have H11 := ((((((F_value_b1.ext E2).other W3 (Or.inl ne9)).other W4 (Or.inl ne9)).other W5 (Or.inl ne9)).other W6 (Or.inl ne9)).other W7 (Or.inl ne9))
  have H12 := (((((((S_COMPACT_STRINGS.ext E1).ext E2).wr W3).wr W4).wr W5).wr W6).wr W7)
  have H13 := (((((((S__assertionsDisabled.ext E1).ext E2).wr W3).wr W4).wr W5).wr W6).wr W7)
  have H14 := (((((((S_HI_BYTE_SHIFT.ext E1).ext E2).wr W3).wr W4).wr W5).wr W6).wr W7)
  have H15 := (((((((S_LO_BYTE_SHIFT.ext E1).ext E2).wr W3).wr W4).wr W5).wr W6).wr W7)
  have H16 := ((((((A1.ext E2).wr W3).wr W4).wr W5).wr W6).wr W7)
  have gr17 := (Nat.le_trans (Nat.le_trans (Nat.le_trans (Nat.le_trans (Nat.le_trans (Nat.le_trans E1.1 E2.1) (Keep.of_wr W3).1) (Keep.of_wr W4).1) (Keep.of_wr W5).1) (Keep.of_wr W6).1) (Keep.of_wr W7).1)
  refine Gk.callI (argsL := [(.ref b2)]) X7 hx hZ hown (str_5 l Z a0 h7 n0 hw b1 b2 k2 (upd (upd (upd (upd (upd (fun _ => (.int (0 : Int32))) 0 (.int p2)) 1 (.int p3)) 2 (.int p4)) 3 (.int p5)) 4 (.int p6)) p2 p3 p4 p5 p6 (.int (0 : Int32)) .null w_COMPACT_STRINGS (Nat.le_trans Z0 gr17) H12 H13 H14 H15 H16 V7 rfl rfl rfl rfl rfl hb0 hb1 hb2 hb3 hb4 hcs H10 g_b1 H11) rfl (W hw 11 rfl) (W hw 12 rfl) (W hw 13 rfl) rfl (by decide) (W hw 10 rfl) e7 pd_8 rfl rfl rfl (by rw [hml]; rfl) rfl (hb hby d2_149) ?_
  intro T8 L8 v8 X8 hQ8
  obtain ⟨rfl, N8q, K8, sq_⟩ := hQ8
  have N8 := Fr.app N7 N8q
  show Go p e below (T8.setTop (mkF m 152 _ [(.ref b1)])) _
  have H18 := (H16.keep K8)
  exact Gk.rR X8 hx hret rfl rfl rfl hns (hb hby d2_152) rfl ⟨congrArg (fun z_ : Addr => some (Value.ref z_)) (show b1 = h0.size from g1), N8, (((((((((Keep.refl h0 []).ext E1).ext E2).wr W3 (Or.inr (Nat.le_trans E1.1 (Nat.le_of_eq g2.symm)))).wr W4 (Or.inr (Nat.le_trans E1.1 (Nat.le_of_eq g2.symm)))).wr W5 (Or.inr (Nat.le_trans E1.1 (Nat.le_of_eq g2.symm)))).wr W6 (Or.inr (Nat.le_trans E1.1 (Nat.le_of_eq g2.symm)))).wr W7 (Or.inr (Nat.le_trans E1.1 (Nat.le_of_eq g2.symm)))).trans K8 (allS (Or.inr (Nat.le_trans (Nat.le_refl _) (Nat.le_of_eq g1.symm))) all0)), (g1 ▸ H18), (g1 ▸ sq_)⟩
theorem d11_0 : decode jdk_42_method_152_code 0 = .ok (.getstatic 38, 3) := by decide +kernel
theorem d11_3 : decode jdk_42_method_152_code 3 = .ok (.ifCond .eq 10, 3) := by decide +kernel
theorem d11_6 : decode jdk_42_method_152_code 6 = .ok (.aload_n 0, 1) := by decide +kernel
theorem d11_7 : decode jdk_42_method_152_code 7 = .ok (.getfield 15, 3) := by decide +kernel
theorem d11_10 : decode jdk_42_method_152_code 10 = .ok (.goto 4, 3) := by decide +kernel
theorem d11_14 : decode jdk_42_method_152_code 14 = .ok (.ireturn, 1) := by decide +kernel
theorem cod_0 (hw : HW Z a0) (a1 : Addr) (w_COMPACT_STRINGS : Int32) (Z0 : n0 ≤ h0.size) (S_COMPACT_STRINGS : Stx Z n0 h0 "java/lang/String" "COMPACT_STRINGS" "Z" (.int w_COMPACT_STRINGS)) (Fc1 : Fld Z h0 a1 "java/lang/String" "coder" "B" (.int (0 : Int32))) (hcs : ¬ (w_COMPACT_STRINGS = (0 : Int32))) : Ct l ⟨"java/lang/String", "coder", "()B"⟩ jdk_42_method_152_code 1 (some .byte) ⟨0, 0, 0, 0⟩ #[(.ref a1)] Z h0 (fun v h L => v = some (.int (0 : Int32)) ∧ Fr n0 L ∧ h = h0) := by
  refine Ct.of "java/lang/String" rfl (plainFor_of_name pn_164) #[.val (.ref a1)] rfl rfl ?_
  intro p e s m below meth c s₁ hx hby hml hown hnm hret hns hZ hh X0 e0
  refine Gk.getS X0 hx hZ hown (host := "") (Or.inl (W hw 21 rfl)) Via.refl e0 S_COMPACT_STRINGS.sta (hb hby d11_0) ?_
  intro T1 X1 e1
  have hc3 : ¬ (w_COMPACT_STRINGS = (0 : Int32)) := hcs
  refine Gk.ifNo X1 hx (hb hby d11_3) (feq hc3).1 ?_
  refine Gk.aloadN X1 hx (hb hby d11_6) rfl rfl ?_
  refine Gk.getF X1 hx hZ hown (host := "") (Or.inl (W hw 33 rfl)) Via.refl e1 Fc1 (hb hby d11_7) ?_
  intro T2 X2 e2
  refine Gk.goto X2 hx (hb hby d11_10) 14 (by decide) (by decide) ?_
  exact Gk.rN X2 hx hret (by simp) hns (hb hby d11_14) e2 (0 : Int32) rfl ⟨rfl, (Fr.nil n0), rfl⟩
theorem d13_0 : decode jdk_42_method_154_code 0 = .ok (.getstatic 38, 3) := by decide +kernel
theorem d13_3 : decode jdk_42_method_154_code 3 = .ok (.ifCond .eq 14, 3) := by decide +kernel
theorem d13_6 : decode jdk_42_method_154_code 6 = .ok (.aload_n 0, 1) := by decide +kernel
theorem d13_7 : decode jdk_42_method_154_code 7 = .ok (.getfield 15, 3) := by decide +kernel
theorem d13_10 : decode jdk_42_method_154_code 10 = .ok (.ifCond .ne 7, 3) := by decide +kernel
theorem d13_13 : decode jdk_42_method_154_code 13 = .ok (.iconst 1, 1) := by decide +kernel
theorem d13_14 : decode jdk_42_method_154_code 14 = .ok (.goto 4, 3) := by decide +kernel
theorem d13_18 : decode jdk_42_method_154_code 18 = .ok (.ireturn, 1) := by decide +kernel
theorem il_0 (hw : HW Z a0) (a1 : Addr) (w_COMPACT_STRINGS : Int32) (Z0 : n0 ≤ h0.size) (S_COMPACT_STRINGS : Stx Z n0 h0 "java/lang/String" "COMPACT_STRINGS" "Z" (.int w_COMPACT_STRINGS)) (Fc1 : Fld Z h0 a1 "java/lang/String" "coder" "B" (.int (0 : Int32))) (hcs : ¬ (w_COMPACT_STRINGS = (0 : Int32))) : Ct l ⟨"java/lang/String", "isLatin1", "()Z"⟩ jdk_42_method_154_code 1 (some .boolean) ⟨0, 0, 0, 0⟩ #[(.ref a1)] Z h0 (fun v h L => v = some (.int (1 : Int32)) ∧ Fr n0 L ∧ h = h0) := by
  refine Ct.of "java/lang/String" rfl (plainFor_of_name pn_164) #[.val (.ref a1)] rfl rfl ?_
  intro p e s m below meth c s₁ hx hby hml hown hnm hret hns hZ hh X0 e0
  refine Gk.getS X0 hx hZ hown (host := "") (Or.inl (W hw 21 rfl)) Via.refl e0 S_COMPACT_STRINGS.sta (hb hby d13_0) ?_
  intro T1 X1 e1
  have hc3 : ¬ (w_COMPACT_STRINGS = (0 : Int32)) := hcs
  refine Gk.ifNo X1 hx (hb hby d13_3) (feq hc3).1 ?_
  refine Gk.aloadN X1 hx (hb hby d13_6) rfl rfl ?_
  refine Gk.getF X1 hx hZ hown (host := "") (Or.inl (W hw 33 rfl)) Via.refl e1 Fc1 (hb hby d13_7) ?_
  intro T2 X2 e2
  refine Gk.ifNo X2 hx (hb hby d13_10) (teq (by decide : (0 : Int32) = (0 : Int32))).2 ?_
  refine Gk.iconst X2 hx (hb hby d13_13) (1 : Int32) rfl ?_
  refine Gk.goto X2 hx (hb hby d13_14) 18 (by decide) (by decide) ?_
  exact Gk.rN X2 hx hret (by simp) hns (hb hby d13_18) e2 (1 : Int32) rfl ⟨rfl, (Fr.nil n0), rfl⟩
theorem pd_9 : parseMethodDescriptor "()B" = some ⟨[], some .byte⟩ := by decide +kernel
theorem d10_0 : decode jdk_42_method_54_code 0 = .ok (.aload_n 0, 1) := by decide +kernel
theorem d10_1 : decode jdk_42_method_54_code 1 = .ok (.getfield 9, 3) := by decide +kernel
theorem d10_4 : decode jdk_42_method_54_code 4 = .ok (.arraylength, 1) := by decide +kernel
theorem d10_5 : decode jdk_42_method_54_code 5 = .ok (.aload_n 0, 1) := by decide +kernel
theorem d10_6 : decode jdk_42_method_54_code 6 = .ok (.invokevirtual 335, 3) := by decide +kernel
theorem d10_9 : decode jdk_42_method_54_code 9 = .ok (.ishr, 1) := by decide +kernel
theorem d10_10 : decode jdk_42_method_54_code 10 = .ok (.ireturn, 1) := by decide +kernel
theorem len_0 (hw : HW Z a0) (a1 b1 : Addr) (kb : ClassId) (fb : Nat → Value) (n1 w_COMPACT_STRINGS : Int32) (Z0 : n0 ≤ h0.size) (S_COMPACT_STRINGS : Stx Z n0 h0 "java/lang/String" "COMPACT_STRINGS" "Z" (.int w_COMPACT_STRINGS)) (E_a1 : Exa Z h0 a1 "java/lang/String") (Fc1 : Fld Z h0 a1 "java/lang/String" "coder" "B" (.int (0 : Int32))) (Fv1 : Fld Z h0 a1 "java/lang/String" "value" "[B" (.ref b1)) (V_b : Arf Z h0 b1 kb .byte n1 fb) (hcs : ¬ (w_COMPACT_STRINGS = (0 : Int32))) : Ct l ⟨"java/lang/String", "length", "()I"⟩ jdk_42_method_54_code 1 (some .int) ⟨1, 0, 0, 13⟩ #[(.ref a1)] Z h0 (fun v h L => v = some (.int (n1 >>> ((0 : Int32) &&& 31))) ∧ Fr n0 L ∧ h = h0) := by
  refine Ct.of "java/lang/String" rfl (plainFor_of_name pn_164) #[.val (.ref a1)] rfl rfl ?_
  intro p e s m below meth c s₁ hx hby hml hown hnm hret hns hZ hh X0 e0
  refine Gk.aloadN X0 hx (hb hby d10_0) rfl rfl ?_
  refine Gk.getF X0 hx hZ hown (host := "") (Or.inl (W hw 35 rfl)) Via.refl e0 Fv1 (hb hby d10_1) ?_
  intro T1 X1 e1
  refine Gk.alen X1 hx hZ e1 V_b (hb hby d10_4) ?_
  refine Gk.aloadN X1 hx (hb hby d10_5) rfl rfl ?_
  refine Gk.callV (argsL := []) X1 hx hZ hown (cod_0 l Z a0 h0 n0 hw a1 w_COMPACT_STRINGS Z0 S_COMPACT_STRINGS Fc1 hcs) (W hw 46 rfl) (W hw 47 rfl) (notFace_of_selects (args := #[]) (mvT hZ (W hw 49 rfl))) (W hw 49 rfl) (W hw 48 rfl) (by decide) (W hw 50 rfl) (W hw 10 rfl) e1 E_a1 pd_9 rfl rfl rfl (by rw [hml]; rfl) rfl (hb hby d10_6) ?_
  intro T2 L2 v2 X2 hQ2
  obtain ⟨rfl, N2q, e2⟩ := hQ2
  have N2 := Fr.app (Fr.nil n0) N2q
  show Go p e below (T2.setTop (mkF m 9 _ [(.int (0 : Int32)), (.int n1)])) _
  refine Gk.ishr X2 hx (hb hby d10_9) _ rfl ?_
  exact Gk.rI X2 hx hret hns (hb hby d10_10) e2 ⟨rfl, N2, rfl⟩
theorem cod_1 (hw : HW Z a0) (a1 : Addr) (w_COMPACT_STRINGS : Int32) (Z0 : n0 ≤ h0.size) (S_COMPACT_STRINGS : Stx Z n0 h0 "java/lang/String" "COMPACT_STRINGS" "Z" (.int w_COMPACT_STRINGS)) (Fc1 : Fld Z h0 a1 "java/lang/String" "coder" "B" (.int (1 : Int32))) (hcs : ¬ (w_COMPACT_STRINGS = (0 : Int32))) : Ct l ⟨"java/lang/String", "coder", "()B"⟩ jdk_42_method_152_code 1 (some .byte) ⟨0, 0, 0, 0⟩ #[(.ref a1)] Z h0 (fun v h L => v = some (.int (1 : Int32)) ∧ Fr n0 L ∧ h = h0) := by
  refine Ct.of "java/lang/String" rfl (plainFor_of_name pn_164) #[.val (.ref a1)] rfl rfl ?_
  intro p e s m below meth c s₁ hx hby hml hown hnm hret hns hZ hh X0 e0
  refine Gk.getS X0 hx hZ hown (host := "") (Or.inl (W hw 21 rfl)) Via.refl e0 S_COMPACT_STRINGS.sta (hb hby d11_0) ?_
  intro T1 X1 e1
  have hc3 : ¬ (w_COMPACT_STRINGS = (0 : Int32)) := hcs
  refine Gk.ifNo X1 hx (hb hby d11_3) (feq hc3).1 ?_
  refine Gk.aloadN X1 hx (hb hby d11_6) rfl rfl ?_
  refine Gk.getF X1 hx hZ hown (host := "") (Or.inl (W hw 33 rfl)) Via.refl e1 Fc1 (hb hby d11_7) ?_
  intro T2 X2 e2
  refine Gk.goto X2 hx (hb hby d11_10) 14 (by decide) (by decide) ?_
  exact Gk.rN X2 hx hret (by simp) hns (hb hby d11_14) e2 (1 : Int32) rfl ⟨rfl, (Fr.nil n0), rfl⟩
theorem d13_17 : decode jdk_42_method_154_code 17 = .ok (.iconst 0, 1) := by decide +kernel
theorem il_1 (hw : HW Z a0) (a1 : Addr) (w_COMPACT_STRINGS : Int32) (Z0 : n0 ≤ h0.size) (S_COMPACT_STRINGS : Stx Z n0 h0 "java/lang/String" "COMPACT_STRINGS" "Z" (.int w_COMPACT_STRINGS)) (Fc1 : Fld Z h0 a1 "java/lang/String" "coder" "B" (.int (1 : Int32))) (hcs : ¬ (w_COMPACT_STRINGS = (0 : Int32))) : Ct l ⟨"java/lang/String", "isLatin1", "()Z"⟩ jdk_42_method_154_code 1 (some .boolean) ⟨0, 0, 0, 0⟩ #[(.ref a1)] Z h0 (fun v h L => v = some (.int (0 : Int32)) ∧ Fr n0 L ∧ h = h0) := by
  refine Ct.of "java/lang/String" rfl (plainFor_of_name pn_164) #[.val (.ref a1)] rfl rfl ?_
  intro p e s m below meth c s₁ hx hby hml hown hnm hret hns hZ hh X0 e0
  refine Gk.getS X0 hx hZ hown (host := "") (Or.inl (W hw 21 rfl)) Via.refl e0 S_COMPACT_STRINGS.sta (hb hby d13_0) ?_
  intro T1 X1 e1
  have hc3 : ¬ (w_COMPACT_STRINGS = (0 : Int32)) := hcs
  refine Gk.ifNo X1 hx (hb hby d13_3) (feq hc3).1 ?_
  refine Gk.aloadN X1 hx (hb hby d13_6) rfl rfl ?_
  refine Gk.getF X1 hx hZ hown (host := "") (Or.inl (W hw 33 rfl)) Via.refl e1 Fc1 (hb hby d13_7) ?_
  intro T2 X2 e2
  refine Gk.ifYes X2 hx (hb hby d13_10) (feq (by decide : ¬ ((1 : Int32) = (0 : Int32)))).2 17 (by decide) (by decide) ?_
  refine Gk.iconst X2 hx (hb hby d13_17) (0 : Int32) rfl ?_
  exact Gk.rN X2 hx hret (by simp) hns (hb hby d13_18) e2 (0 : Int32) rfl ⟨rfl, (Fr.nil n0), rfl⟩
theorem len_1 (hw : HW Z a0) (a1 b1 : Addr) (kb : ClassId) (fb : Nat → Value) (n1 w_COMPACT_STRINGS : Int32) (Z0 : n0 ≤ h0.size) (S_COMPACT_STRINGS : Stx Z n0 h0 "java/lang/String" "COMPACT_STRINGS" "Z" (.int w_COMPACT_STRINGS)) (E_a1 : Exa Z h0 a1 "java/lang/String") (Fc1 : Fld Z h0 a1 "java/lang/String" "coder" "B" (.int (1 : Int32))) (Fv1 : Fld Z h0 a1 "java/lang/String" "value" "[B" (.ref b1)) (V_b : Arf Z h0 b1 kb .byte n1 fb) (hcs : ¬ (w_COMPACT_STRINGS = (0 : Int32))) : Ct l ⟨"java/lang/String", "length", "()I"⟩ jdk_42_method_54_code 1 (some .int) ⟨1, 0, 0, 13⟩ #[(.ref a1)] Z h0 (fun v h L => v = some (.int (n1 >>> ((1 : Int32) &&& 31))) ∧ Fr n0 L ∧ h = h0) := by
  refine Ct.of "java/lang/String" rfl (plainFor_of_name pn_164) #[.val (.ref a1)] rfl rfl ?_
  intro p e s m below meth c s₁ hx hby hml hown hnm hret hns hZ hh X0 e0
  refine Gk.aloadN X0 hx (hb hby d10_0) rfl rfl ?_
  refine Gk.getF X0 hx hZ hown (host := "") (Or.inl (W hw 35 rfl)) Via.refl e0 Fv1 (hb hby d10_1) ?_
  intro T1 X1 e1
  refine Gk.alen X1 hx hZ e1 V_b (hb hby d10_4) ?_
  refine Gk.aloadN X1 hx (hb hby d10_5) rfl rfl ?_
  refine Gk.callV (argsL := []) X1 hx hZ hown (cod_1 l Z a0 h0 n0 hw a1 w_COMPACT_STRINGS Z0 S_COMPACT_STRINGS Fc1 hcs) (W hw 46 rfl) (W hw 47 rfl) (notFace_of_selects (args := #[]) (mvT hZ (W hw 49 rfl))) (W hw 49 rfl) (W hw 48 rfl) (by decide) (W hw 50 rfl) (W hw 10 rfl) e1 E_a1 pd_9 rfl rfl rfl (by rw [hml]; rfl) rfl (hb hby d10_6) ?_
  intro T2 L2 v2 X2 hQ2
  obtain ⟨rfl, N2q, e2⟩ := hQ2
  have N2 := Fr.app (Fr.nil n0) N2q
  show Go p e below (T2.setTop (mkF m 9 _ [(.int (1 : Int32)), (.int n1)])) _
  refine Gk.ishr X2 hx (hb hby d10_9) _ rfl ?_
  exact Gk.rI X2 hx hret hns (hb hby d10_10) e2 ⟨rfl, N2, rfl⟩
theorem d16_0 : decode jdk_41_method_11_code 0 = .ok (.iload_n 0, 1) := by decide +kernel
theorem d16_1 : decode jdk_41_method_11_code 1 = .ok (.ifCond .lt 8, 3) := by decide +kernel
theorem d16_4 : decode jdk_41_method_11_code 4 = .ok (.iload_n 0, 1) := by decide +kernel
theorem d16_5 : decode jdk_41_method_11_code 5 = .ok (.iload_n 1, 1) := by decide +kernel
theorem d16_6 : decode jdk_41_method_11_code 6 = .ok (.if_icmp .lt 10, 3) := by decide +kernel
theorem d16_16 : decode jdk_41_method_11_code 16 = .ok (.iload_n 0, 1) := by decide +kernel
theorem d16_17 : decode jdk_41_method_11_code 17 = .ok (.ireturn, 1) := by decide +kernel
theorem pn_323 : plainName "jdk/internal/util/Preconditions" = true := by first | (simp [plainName, overriddenIn]; done) | decide +kernel
theorem pc_n (hw : HW Z a0) (p1 p2 : Int32) (Z0 : n0 ≤ h0.size) (h0i : ¬ (p1 < (0 : Int32))) (h1i : p1 < p2) : Ct l ⟨"jdk/internal/util/Preconditions", "checkIndex", "(IILjava/util/function/BiFunction;)I"⟩ jdk_41_method_11_code 3 (some .int) ⟨0, 0, 0, 0⟩ #[(.int p1), (.int p2), .null] Z h0 (fun v h L => v = some (.int p1) ∧ Fr n0 L ∧ h = h0) := by
  refine Ct.of "jdk/internal/util/Preconditions" rfl (plainFor_of_name pn_323) #[.val (.int p1), .val (.int p2), .val .null] rfl rfl ?_
  intro p e s m below meth c s₁ hx hby hml hown hnm hret hns hZ hh X0 e0
  refine Gk.iloadN X0 hx (hb hby d16_0) rfl ?_
  have hc1 : ¬ (p1 < (0 : Int32)) := h0i
  refine Gk.ifNo X0 hx (hb hby d16_1) (flt hc1).1 ?_
  refine Gk.iloadN X0 hx (hb hby d16_4) rfl ?_
  refine Gk.iloadN X0 hx (hb hby d16_5) rfl ?_
  have hc6 : p1 < p2 := h1i
  refine Gk.icmpYes X0 hx (hb hby d16_6) (tlt hc6).1 16 (by decide) (by decide) ?_
  refine Gk.iloadN X0 hx (hb hby d16_16) rfl ?_
  exact Gk.rI X0 hx hret hns (hb hby d16_17) e0 ⟨rfl, (Fr.nil n0), rfl⟩
theorem pc_r (hw : HW Z a0) (p1 p2 : Int32) (a3 : Addr) (Z0 : n0 ≤ h0.size) (h0i : ¬ (p1 < (0 : Int32))) (h1i : p1 < p2) : Ct l ⟨"jdk/internal/util/Preconditions", "checkIndex", "(IILjava/util/function/BiFunction;)I"⟩ jdk_41_method_11_code 3 (some .int) ⟨0, 0, 0, 0⟩ #[(.int p1), (.int p2), (.ref a3)] Z h0 (fun v h L => v = some (.int p1) ∧ Fr n0 L ∧ h = h0) := by
  refine Ct.of "jdk/internal/util/Preconditions" rfl (plainFor_of_name pn_323) #[.val (.int p1), .val (.int p2), .val (.ref a3)] rfl rfl ?_
  intro p e s m below meth c s₁ hx hby hml hown hnm hret hns hZ hh X0 e0
  refine Gk.iloadN X0 hx (hb hby d16_0) rfl ?_
  have hc1 : ¬ (p1 < (0 : Int32)) := h0i
  refine Gk.ifNo X0 hx (hb hby d16_1) (flt hc1).1 ?_
  refine Gk.iloadN X0 hx (hb hby d16_4) rfl ?_
  refine Gk.iloadN X0 hx (hb hby d16_5) rfl ?_
  have hc6 : p1 < p2 := h1i
  refine Gk.icmpYes X0 hx (hb hby d16_6) (tlt hc6).1 16 (by decide) (by decide) ?_
  refine Gk.iloadN X0 hx (hb hby d16_16) rfl ?_
  exact Gk.rI X0 hx hret hns (hb hby d16_17) e0 ⟨rfl, (Fr.nil n0), rfl⟩
theorem pd_10 : parseMethodDescriptor "(IILjava/util/function/BiFunction;)I" = some ⟨[.int, .int, (.object "java/util/function/BiFunction")], some .int⟩ := by decide +kernel
theorem d15_0 : decode jdk_42_method_155_code 0 = .ok (.iload_n 0, 1) := by decide +kernel
theorem d15_1 : decode jdk_42_method_155_code 1 = .ok (.iload_n 1, 1) := by decide +kernel
theorem d15_2 : decode jdk_42_method_155_code 2 = .ok (.getstatic 1053, 3) := by decide +kernel
theorem d15_5 : decode jdk_42_method_155_code 5 = .ok (.invokestatic 1059, 3) := by decide +kernel
theorem d15_8 : decode jdk_42_method_155_code 8 = .ok (.pop, 1) := by decide +kernel
theorem d15_9 : decode jdk_42_method_155_code 9 = .ok (.return_, 1) := by decide +kernel
theorem sci (hw : HW Z a0) (p1 p2 : Int32) (w_SIOOBE_FORMATTER : Value) (Z0 : n0 ≤ h0.size) (S_SIOOBE_FORMATTER : Stx Z n0 h0 "jdk/internal/util/Preconditions" "SIOOBE_FORMATTER" "Ljava/util/function/BiFunction;" w_SIOOBE_FORMATTER) (h0i : ¬ (p1 < (0 : Int32))) (h1i : p1 < p2) (hsf : w_SIOOBE_FORMATTER.isRef = true) : Ct l ⟨"java/lang/String", "checkIndex", "(II)V"⟩ jdk_42_method_155_code 2 none ⟨1, 0, 0, 14⟩ #[(.int p1), (.int p2)] Z h0 (fun v h L => v = none ∧ Fr n0 L ∧ h = h0) := by
  refine Ct.of "java/lang/String" rfl (plainFor_of_name pn_164) #[.val (.int p1), .val (.int p2)] rfl rfl ?_
  intro p e s m below meth c s₁ hx hby hml hown hnm hret hns hZ hh X0 e0
  refine Gk.iloadN X0 hx (hb hby d15_0) rfl ?_
  refine Gk.iloadN X0 hx (hb hby d15_1) rfl ?_
  refine Gk.getS X0 hx hZ hown (host := "") (Or.inl (W hw 68 rfl)) Via.refl e0 S_SIOOBE_FORMATTER.sta (hb hby d15_2) ?_
  intro T1 X1 e1
  rcases ref_cases hsf with rfl | ⟨fa, rfl⟩
  · show Go p e below (T1.setTop (mkF m 5 #[.val (.int p1), .val (.int p2)] [.null, (.int p2), (.int p1)])) _
    refine Gk.callS (argsL := [(.int p1), (.int p2), .null]) X1 hx hZ hown (pc_n l Z a0 h0 n0 hw p1 p2 Z0 h0i h1i) (W hw 70 rfl) (W hw 71 rfl) (W hw 69 rfl) (W hw 72 rfl) (by decide) e1 pd_10 rfl rfl rfl (by rw [hml]; rfl) rfl (hb hby d15_5) ?_
    intro T2 L2 v2 X2 hQ2
    obtain ⟨rfl, N2q, e2⟩ := hQ2
    have N2 := Fr.app (Fr.nil n0) N2q
    show Go p e below (T2.setTop (mkF m 8 _ [(.int p1)])) _
    refine Gk.pop X2 hx (hb hby d15_8) rfl ?_
    exact Gk.rV X2 hx hret hns (hb hby d15_9) e2 ⟨rfl, N2, rfl⟩
  · show Go p e below (T1.setTop (mkF m 5 #[.val (.int p1), .val (.int p2)] [(.ref fa), (.int p2), (.int p1)])) _
    refine Gk.callS (argsL := [(.int p1), (.int p2), (.ref fa)]) X1 hx hZ hown (pc_r l Z a0 h0 n0 hw p1 p2 fa Z0 h0i h1i) (W hw 70 rfl) (W hw 71 rfl) (W hw 69 rfl) (W hw 72 rfl) (by decide) e1 pd_10 rfl rfl rfl (by rw [hml]; rfl) rfl (hb hby d15_5) ?_
    intro T3 L3 v3 X3 hQ3
    obtain ⟨rfl, N3q, e3⟩ := hQ3
    have N3 := Fr.app (Fr.nil n0) N3q
    show Go p e below (T3.setTop (mkF m 8 _ [(.int p1)])) _
    refine Gk.pop X3 hx (hb hby d15_8) rfl ?_
    exact Gk.rV X3 hx hret hns (hb hby d15_9) e3 ⟨rfl, N3, rfl⟩
theorem pd_11 : parseMethodDescriptor "(II)V" = some ⟨[.int, .int], none⟩ := by decide +kernel
theorem d14_0 : decode jdk_43_method_2_code 0 = .ok (.iload_n 1, 1) := by decide +kernel
theorem d14_1 : decode jdk_43_method_2_code 1 = .ok (.aload_n 0, 1) := by decide +kernel
theorem d14_2 : decode jdk_43_method_2_code 2 = .ok (.arraylength, 1) := by decide +kernel
theorem d14_3 : decode jdk_43_method_2_code 3 = .ok (.invokestatic 9, 3) := by decide +kernel
theorem d14_6 : decode jdk_43_method_2_code 6 = .ok (.aload_n 0, 1) := by decide +kernel
theorem d14_7 : decode jdk_43_method_2_code 7 = .ok (.iload_n 1, 1) := by decide +kernel
theorem d14_8 : decode jdk_43_method_2_code 8 = .ok (.baload, 1) := by decide +kernel
theorem d14_9 : decode jdk_43_method_2_code 9 = .ok (.sipush 255, 3) := by decide +kernel
theorem d14_12 : decode jdk_43_method_2_code 12 = .ok (.iand, 1) := by decide +kernel
theorem d14_13 : decode jdk_43_method_2_code 13 = .ok (.i2c, 1) := by decide +kernel
theorem d14_14 : decode jdk_43_method_2_code 14 = .ok (.ireturn, 1) := by decide +kernel
theorem pn_341 : plainName "java/lang/StringLatin1" = true := by first | (simp [plainName, overriddenIn]; done) | decide +kernel
theorem lca (hw : HW Z a0) (a1 : Addr) (p2 : Int32) (kb : ClassId) (f : Nat → Value) (n1 x : Int32) (w_SIOOBE_FORMATTER : Value) (Z0 : n0 ≤ h0.size) (S_SIOOBE_FORMATTER : Stx Z n0 h0 "jdk/internal/util/Preconditions" "SIOOBE_FORMATTER" "Ljava/util/function/BiFunction;" w_SIOOBE_FORMATTER) (V_b : Arf Z h0 a1 kb .byte n1 f) (h0i : ¬ (p2 < (0 : Int32))) (h1i : p2 < n1) (hv : f p2.toNatClampNeg = .int x) (hsf : w_SIOOBE_FORMATTER.isRef = true) : Ct l ⟨"java/lang/StringLatin1", "charAt", "([BI)C"⟩ jdk_43_method_2_code 2 (some .char) ⟨2, 0, 0, 27⟩ #[(.ref a1), (.int p2)] Z h0 (fun v h L => v = some (.int (nar .char ((x &&& (255 : Int32)).toUInt32.toUInt16.toUInt32.toInt32))) ∧ Fr n0 L ∧ h = h0) := by
  refine Ct.of "java/lang/StringLatin1" rfl (plainFor_of_name pn_341) #[.val (.ref a1), .val (.int p2)] rfl rfl ?_
  intro p e s m below meth c s₁ hx hby hml hown hnm hret hns hZ hh X0 e0
  refine Gk.iloadN X0 hx (hb hby d14_0) rfl ?_
  refine Gk.aloadN X0 hx (hb hby d14_1) rfl rfl ?_
  refine Gk.alen X0 hx hZ e0 V_b (hb hby d14_2) ?_
  refine Gk.callS (argsL := [(.int p2), (.int n1)]) X0 hx hZ hown (sci l Z a0 h0 n0 hw p2 n1 w_SIOOBE_FORMATTER Z0 S_SIOOBE_FORMATTER h0i h1i hsf) (W hw 65 rfl) (W hw 66 rfl) (W hw 10 rfl) (W hw 67 rfl) (by decide) e0 pd_11 rfl rfl rfl (by rw [hml]; rfl) rfl (hb hby d14_3) ?_
  intro T1 L1 v1 X1 hQ1
  obtain ⟨rfl, N1q, e1⟩ := hQ1
  have N1 := Fr.app (Fr.nil n0) N1q
  show Go p e below (T1.setTop (mkF m 6 _ [])) _
  refine Gk.aloadN X1 hx (hb hby d14_6) rfl rfl ?_
  refine Gk.iloadN X1 hx (hb hby d14_7) rfl ?_
  refine Gk.baloadB X1 hx hZ e1 V_b ⟨h0i, h1i⟩ (.int x) hv (hb hby d14_8) ?_
  refine Gk.sipush X1 hx (hb hby d14_9) (255 : Int32) rfl ?_
  refine Gk.iand X1 hx (hb hby d14_12) _ rfl ?_
  refine Gk.i2c X1 hx (hb hby d14_13) _ rfl ?_
  exact Gk.rN X1 hx hret (by simp) hns (hb hby d14_14) e1 (nar .char ((x &&& (255 : Int32)).toUInt32.toUInt16.toUInt32.toInt32)) rfl ⟨rfl, N1, rfl⟩
theorem pd_12 : parseMethodDescriptor "()Z" = some ⟨[], some .boolean⟩ := by decide +kernel
theorem d12_0 : decode jdk_42_method_56_code 0 = .ok (.aload_n 0, 1) := by decide +kernel
theorem d12_1 : decode jdk_42_method_56_code 1 = .ok (.invokevirtual 492, 3) := by decide +kernel
theorem d12_4 : decode jdk_42_method_56_code 4 = .ok (.ifCond .eq 12, 3) := by decide +kernel
theorem d12_7 : decode jdk_42_method_56_code 7 = .ok (.aload_n 0, 1) := by decide +kernel
theorem d12_8 : decode jdk_42_method_56_code 8 = .ok (.getfield 9, 3) := by decide +kernel
theorem d12_11 : decode jdk_42_method_56_code 11 = .ok (.iload_n 1, 1) := by decide +kernel
theorem d12_12 : decode jdk_42_method_56_code 12 = .ok (.invokestatic 495, 3) := by decide +kernel
theorem d12_15 : decode jdk_42_method_56_code 15 = .ok (.ireturn, 1) := by decide +kernel
theorem scx (hw : HW Z a0) (a1 : Addr) (p2 : Int32) (b1 : Addr) (kb : ClassId) (f : Nat → Value) (n1 x w_COMPACT_STRINGS : Int32) (w_SIOOBE_FORMATTER : Value) (Z0 : n0 ≤ h0.size) (S_COMPACT_STRINGS : Stx Z n0 h0 "java/lang/String" "COMPACT_STRINGS" "Z" (.int w_COMPACT_STRINGS)) (S_SIOOBE_FORMATTER : Stx Z n0 h0 "jdk/internal/util/Preconditions" "SIOOBE_FORMATTER" "Ljava/util/function/BiFunction;" w_SIOOBE_FORMATTER) (E_a1 : Exa Z h0 a1 "java/lang/String") (Fc1 : Fld Z h0 a1 "java/lang/String" "coder" "B" (.int (0 : Int32))) (Fv1 : Fld Z h0 a1 "java/lang/String" "value" "[B" (.ref b1)) (V_b : Arf Z h0 b1 kb .byte n1 f) (h0i : ¬ (p2 < (0 : Int32))) (h1i : p2 < n1) (hv : f p2.toNatClampNeg = .int x) (hcs : ¬ (w_COMPACT_STRINGS = (0 : Int32))) (hsf : w_SIOOBE_FORMATTER.isRef = true) : Ct l ⟨"java/lang/String", "charAt", "(I)C"⟩ jdk_42_method_56_code 2 (some .char) ⟨3, 0, 0, 40⟩ #[(.ref a1), (.int p2)] Z h0 (fun v h L => v = some (.int (nar .char (nar .char ((x &&& (255 : Int32)).toUInt32.toUInt16.toUInt32.toInt32)))) ∧ Fr n0 L ∧ h = h0) := by
  refine Ct.of "java/lang/String" rfl (plainFor_of_name pn_164) #[.val (.ref a1), .val (.int p2)] rfl rfl ?_
  intro p e s m below meth c s₁ hx hby hml hown hnm hret hns hZ hh X0 e0
  refine Gk.aloadN X0 hx (hb hby d12_0) rfl rfl ?_
  refine Gk.callV (argsL := []) X0 hx hZ hown (il_0 l Z a0 h0 n0 hw a1 w_COMPACT_STRINGS Z0 S_COMPACT_STRINGS Fc1 hcs) (W hw 56 rfl) (W hw 57 rfl) (notFace_of_selects (args := #[]) (mvT hZ (W hw 59 rfl))) (W hw 59 rfl) (W hw 58 rfl) (by decide) (W hw 60 rfl) (W hw 10 rfl) e0 E_a1 pd_12 rfl rfl rfl (by rw [hml]; rfl) rfl (hb hby d12_1) ?_
  intro T1 L1 v1 X1 hQ1
  obtain ⟨rfl, N1q, e1⟩ := hQ1
  have N1 := Fr.app (Fr.nil n0) N1q
  show Go p e below (T1.setTop (mkF m 4 _ [(.int (1 : Int32))])) _
  refine Gk.ifNo X1 hx (hb hby d12_4) (feq (by decide : ¬ ((1 : Int32) = (0 : Int32)))).1 ?_
  refine Gk.aloadN X1 hx (hb hby d12_7) rfl rfl ?_
  refine Gk.getF X1 hx hZ hown (host := "") (Or.inl (W hw 35 rfl)) Via.refl e1 Fv1 (hb hby d12_8) ?_
  intro T2 X2 e2
  refine Gk.iloadN X2 hx (hb hby d12_11) rfl ?_
  refine Gk.callS (argsL := [(.ref b1), (.int p2)]) X2 hx hZ hown (lca l Z a0 h0 n0 hw b1 p2 kb f n1 x w_SIOOBE_FORMATTER Z0 S_SIOOBE_FORMATTER V_b h0i h1i hv hsf) (W hw 61 rfl) (W hw 62 rfl) (W hw 63 rfl) (W hw 64 rfl) (by decide) e2 pd_5 rfl rfl rfl (by rw [hml]; rfl) rfl (hb hby d12_12) ?_
  intro T3 L3 v3 X3 hQ3
  obtain ⟨rfl, N3q, e3⟩ := hQ3
  have N3 := Fr.app N1 N3q
  show Go p e below (T3.setTop (mkF m 15 _ [(.int (nar .char ((x &&& (255 : Int32)).toUInt32.toUInt16.toUInt32.toInt32)))])) _
  exact Gk.rN X3 hx hret (by simp) hns (hb hby d12_15) e3 (nar .char (nar .char ((x &&& (255 : Int32)).toUInt32.toUInt16.toUInt32.toInt32))) rfl ⟨rfl, N3, rfl⟩
theorem pd_13 : parseMethodDescriptor "([B)I" = some ⟨[(.array .byte)], some .int⟩ := by decide +kernel
theorem d23_0 : decode jdk_52_method_91_code 0 = .ok (.iload_n 0, 1) := by decide +kernel
theorem d23_1 : decode jdk_52_method_91_code 1 = .ok (.aload_n 1, 1) := by decide +kernel
theorem d23_2 : decode jdk_52_method_91_code 2 = .ok (.invokestatic 48, 3) := by decide +kernel
theorem d23_5 : decode jdk_52_method_91_code 5 = .ok (.invokestatic 414, 3) := by decide +kernel
theorem d23_8 : decode jdk_52_method_91_code 8 = .ok (.return_, 1) := by decide +kernel
theorem uci_0 (hw : HW Z a0) (a2 : Addr) (kb : ClassId) (fb : Nat → Value) (n2 : Int32) (w_SIOOBE_FORMATTER : Value) (Z0 : n0 ≤ h0.size) (S_SIOOBE_FORMATTER : Stx Z n0 h0 "jdk/internal/util/Preconditions" "SIOOBE_FORMATTER" "Ljava/util/function/BiFunction;" w_SIOOBE_FORMATTER) (V_b : Arf Z h0 a2 kb .byte n2 fb) (hlen : (0 : Int32) < (n2 >>> ((1 : Int32) &&& 31))) (hsf : w_SIOOBE_FORMATTER.isRef = true) : Ct l ⟨"java/lang/StringUTF16", "checkIndex", "(I[B)V"⟩ jdk_52_method_91_code 2 none ⟨2, 0, 0, 27⟩ #[(.int (0 : Int32)), (.ref a2)] Z h0 (fun v h L => v = none ∧ Fr n0 L ∧ h = h0) := by
  refine Ct.of "java/lang/StringUTF16" rfl (plainFor_of_name pn_5) #[.val (.int (0 : Int32)), .val (.ref a2)] rfl rfl ?_
  intro p e s m below meth c s₁ hx hby hml hown hnm hret hns hZ hh X0 e0
  refine Gk.iloadN X0 hx (hb hby d23_0) rfl ?_
  refine Gk.aloadN X0 hx (hb hby d23_1) rfl rfl ?_
  refine Gk.callS (argsL := [(.ref a2)]) X0 hx hZ hown (ul l Z a0 h0 n0 hw a2 kb fb n2 Z0 V_b) (W hw 104 rfl) (W hw 105 rfl) (W hw 24 rfl) (W hw 106 rfl) (by decide) e0 pd_13 rfl rfl rfl (by rw [hml]; rfl) rfl (hb hby d23_2) ?_
  intro T1 L1 v1 X1 hQ1
  obtain ⟨rfl, N1q, e1⟩ := hQ1
  have N1 := Fr.app (Fr.nil n0) N1q
  show Go p e below (T1.setTop (mkF m 5 _ [(.int (n2 >>> ((1 : Int32) &&& 31))), (.int (0 : Int32))])) _
  refine Gk.callS (argsL := [(.int (0 : Int32)), (.int (n2 >>> ((1 : Int32) &&& 31)))]) X1 hx hZ hown (sci l Z a0 h0 n0 hw (0 : Int32) (n2 >>> ((1 : Int32) &&& 31)) w_SIOOBE_FORMATTER Z0 S_SIOOBE_FORMATTER (by decide) hlen hsf) (W hw 107 rfl) (W hw 66 rfl) (W hw 10 rfl) (W hw 67 rfl) (by decide) e1 pd_11 rfl rfl rfl (by rw [hml]; rfl) rfl (hb hby d23_5) ?_
  intro T2 L2 v2 X2 hQ2
  obtain ⟨rfl, N2q, e2⟩ := hQ2
  have N2 := Fr.app N1 N2q
  show Go p e below (T2.setTop (mkF m 8 _ [])) _
  exact Gk.rV X2 hx hret hns (hb hby d23_8) e2 ⟨rfl, N2, rfl⟩
theorem pd_14 : parseMethodDescriptor "(I[B)V" = some ⟨[.int, (.array .byte)], none⟩ := by decide +kernel
theorem d22_0 : decode jdk_52_method_83_code 0 = .ok (.iload_n 1, 1) := by decide +kernel
theorem d22_1 : decode jdk_52_method_83_code 1 = .ok (.aload_n 0, 1) := by decide +kernel
theorem d22_2 : decode jdk_52_method_83_code 2 = .ok (.invokestatic 67, 3) := by decide +kernel
theorem d22_5 : decode jdk_52_method_83_code 5 = .ok (.aload_n 0, 1) := by decide +kernel
theorem d22_6 : decode jdk_52_method_83_code 6 = .ok (.iload_n 1, 1) := by decide +kernel
theorem d22_7 : decode jdk_52_method_83_code 7 = .ok (.invokestatic 71, 3) := by decide +kernel
theorem d22_10 : decode jdk_52_method_83_code 10 = .ok (.ireturn, 1) := by decide +kernel
theorem uca_0 (hw : HW Z a0) (a1 : Addr) (kb : ClassId) (fb : Nat → Value) (n2 cx : Int32) (w_SIOOBE_FORMATTER : Value) (Z0 : n0 ≤ h0.size) (S_SIOOBE_FORMATTER : Stx Z n0 h0 "jdk/internal/util/Preconditions" "SIOOBE_FORMATTER" "Ljava/util/function/BiFunction;" w_SIOOBE_FORMATTER) (S__assertionsDisabled : Stx Z n0 h0 "java/lang/StringUTF16" "$assertionsDisabled" "Z" (.int (1 : Int32))) (S_HI_BYTE_SHIFT : Stx Z n0 h0 "java/lang/StringUTF16" "HI_BYTE_SHIFT" "I" (.int (0 : Int32))) (S_LO_BYTE_SHIFT : Stx Z n0 h0 "java/lang/StringUTF16" "LO_BYTE_SHIFT" "I" (.int (8 : Int32))) (V_b : Arf Z h0 a1 kb .byte n2 fb) (hlen : (0 : Int32) < (n2 >>> ((1 : Int32) &&& 31))) (hn0_ : (0 : Int32) < n2) (hn1_ : (1 : Int32) < n2) (hl_ : fb 0 = .int ((cx >>> ((0 : Int32) &&& 31)).toInt8.toInt32)) (hh_ : fb 1 = .int ((cx >>> ((8 : Int32) &&& 31)).toInt8.toInt32)) (hbx : 0 ≤ cx.toInt ∧ cx.toInt < 65536) (hsf : w_SIOOBE_FORMATTER.isRef = true) : Ct l ⟨"java/lang/StringUTF16", "charAt", "([BI)C"⟩ jdk_52_method_83_code 2 (some .char) ⟨3, 0, 0, 40⟩ #[(.ref a1), (.int (0 : Int32))] Z h0 (fun v h L => v = some (.int cx) ∧ Fr n0 L ∧ h = h0) := by
  refine Ct.of "java/lang/StringUTF16" rfl (plainFor_of_name pn_5) #[.val (.ref a1), .val (.int (0 : Int32))] rfl rfl ?_
  intro p e s m below meth c s₁ hx hby hml hown hnm hret hns hZ hh X0 e0
  refine Gk.iloadN X0 hx (hb hby d22_0) rfl ?_
  refine Gk.aloadN X0 hx (hb hby d22_1) rfl rfl ?_
  refine Gk.callS (argsL := [(.int (0 : Int32)), (.ref a1)]) X0 hx hZ hown (uci_0 l Z a0 h0 n0 hw a1 kb fb n2 w_SIOOBE_FORMATTER Z0 S_SIOOBE_FORMATTER V_b hlen hsf) (W hw 101 rfl) (W hw 102 rfl) (W hw 24 rfl) (W hw 103 rfl) (by decide) e0 pd_14 rfl rfl rfl (by rw [hml]; rfl) rfl (hb hby d22_2) ?_
  intro T1 L1 v1 X1 hQ1
  obtain ⟨rfl, N1q, e1⟩ := hQ1
  have N1 := Fr.app (Fr.nil n0) N1q
  show Go p e below (T1.setTop (mkF m 5 _ [])) _
  refine Gk.aloadN X1 hx (hb hby d22_5) rfl rfl ?_
  refine Gk.iloadN X1 hx (hb hby d22_6) rfl ?_
  refine Gk.callS (argsL := [(.ref a1), (.int (0 : Int32))]) X1 hx hZ hown (gch_0 l Z a0 h0 n0 hw a1 kb fb n2 cx Z0 S__assertionsDisabled S_HI_BYTE_SHIFT S_LO_BYTE_SHIFT V_b hn0_ hn1_ hl_ hh_ hbx) (W hw 94 rfl) (W hw 95 rfl) (W hw 24 rfl) (W hw 96 rfl) (by decide) e1 pd_5 rfl rfl rfl (by rw [hml]; rfl) rfl (hb hby d22_7) ?_
  intro T2 L2 v2 X2 hQ2
  obtain ⟨rfl, N2q, e2⟩ := hQ2
  have N2 := Fr.app N1 N2q
  show Go p e below (T2.setTop (mkF m 10 _ [(.int cx)])) _
  exact Gk.rN X2 hx hret (by simp) hns (hb hby d22_10) e2 (nar .char cx) rfl ⟨congrArg (fun z_ : Int32 => some (Value.int z_)) (show (nar .char cx) = cx from (own_narc hbx)), N2, rfl⟩
theorem d12_16 : decode jdk_42_method_56_code 16 = .ok (.aload_n 0, 1) := by decide +kernel
theorem d12_17 : decode jdk_42_method_56_code 17 = .ok (.getfield 9, 3) := by decide +kernel
theorem d12_20 : decode jdk_42_method_56_code 20 = .ok (.iload_n 1, 1) := by decide +kernel
theorem d12_21 : decode jdk_42_method_56_code 21 = .ok (.invokestatic 498, 3) := by decide +kernel
theorem d12_24 : decode jdk_42_method_56_code 24 = .ok (.ireturn, 1) := by decide +kernel
theorem scu_0 (hw : HW Z a0) (a1 b1 : Addr) (kb : ClassId) (fb : Nat → Value) (n2 cx w_COMPACT_STRINGS : Int32) (w_SIOOBE_FORMATTER : Value) (Z0 : n0 ≤ h0.size) (S_COMPACT_STRINGS : Stx Z n0 h0 "java/lang/String" "COMPACT_STRINGS" "Z" (.int w_COMPACT_STRINGS)) (S_SIOOBE_FORMATTER : Stx Z n0 h0 "jdk/internal/util/Preconditions" "SIOOBE_FORMATTER" "Ljava/util/function/BiFunction;" w_SIOOBE_FORMATTER) (S__assertionsDisabled : Stx Z n0 h0 "java/lang/StringUTF16" "$assertionsDisabled" "Z" (.int (1 : Int32))) (S_HI_BYTE_SHIFT : Stx Z n0 h0 "java/lang/StringUTF16" "HI_BYTE_SHIFT" "I" (.int (0 : Int32))) (S_LO_BYTE_SHIFT : Stx Z n0 h0 "java/lang/StringUTF16" "LO_BYTE_SHIFT" "I" (.int (8 : Int32))) (E_a1 : Exa Z h0 a1 "java/lang/String") (Fc1 : Fld Z h0 a1 "java/lang/String" "coder" "B" (.int (1 : Int32))) (Fv1 : Fld Z h0 a1 "java/lang/String" "value" "[B" (.ref b1)) (V_b : Arf Z h0 b1 kb .byte n2 fb) (hlen : (0 : Int32) < (n2 >>> ((1 : Int32) &&& 31))) (hn0_ : (0 : Int32) < n2) (hn1_ : (1 : Int32) < n2) (hl_ : fb 0 = .int ((cx >>> ((0 : Int32) &&& 31)).toInt8.toInt32)) (hh_ : fb 1 = .int ((cx >>> ((8 : Int32) &&& 31)).toInt8.toInt32)) (hbx : 0 ≤ cx.toInt ∧ cx.toInt < 65536) (hsf : w_SIOOBE_FORMATTER.isRef = true) (hcs : ¬ (w_COMPACT_STRINGS = (0 : Int32))) : Ct l ⟨"java/lang/String", "charAt", "(I)C"⟩ jdk_42_method_56_code 2 (some .char) ⟨4, 0, 0, 53⟩ #[(.ref a1), (.int (0 : Int32))] Z h0 (fun v h L => v = some (.int cx) ∧ Fr n0 L ∧ h = h0) := by
  refine Ct.of "java/lang/String" rfl (plainFor_of_name pn_164) #[.val (.ref a1), .val (.int (0 : Int32))] rfl rfl ?_
  intro p e s m below meth c s₁ hx hby hml hown hnm hret hns hZ hh X0 e0
  refine Gk.aloadN X0 hx (hb hby d12_0) rfl rfl ?_
  refine Gk.callV (argsL := []) X0 hx hZ hown (il_1 l Z a0 h0 n0 hw a1 w_COMPACT_STRINGS Z0 S_COMPACT_STRINGS Fc1 hcs) (W hw 56 rfl) (W hw 57 rfl) (notFace_of_selects (args := #[]) (mvT hZ (W hw 59 rfl))) (W hw 59 rfl) (W hw 58 rfl) (by decide) (W hw 60 rfl) (W hw 10 rfl) e0 E_a1 pd_12 rfl rfl rfl (by rw [hml]; rfl) rfl (hb hby d12_1) ?_
  intro T1 L1 v1 X1 hQ1
  obtain ⟨rfl, N1q, e1⟩ := hQ1
  have N1 := Fr.app (Fr.nil n0) N1q
  show Go p e below (T1.setTop (mkF m 4 _ [(.int (0 : Int32))])) _
  refine Gk.ifYes X1 hx (hb hby d12_4) (teq (by decide : (0 : Int32) = (0 : Int32))).1 16 (by decide) (by decide) ?_
  refine Gk.aloadN X1 hx (hb hby d12_16) rfl rfl ?_
  refine Gk.getF X1 hx hZ hown (host := "") (Or.inl (W hw 35 rfl)) Via.refl e1 Fv1 (hb hby d12_17) ?_
  intro T2 X2 e2
  refine Gk.iloadN X2 hx (hb hby d12_20) rfl ?_
  refine Gk.callS (argsL := [(.ref b1), (.int (0 : Int32))]) X2 hx hZ hown (uca_0 l Z a0 h0 n0 hw b1 kb fb n2 cx w_SIOOBE_FORMATTER Z0 S_SIOOBE_FORMATTER S__assertionsDisabled S_HI_BYTE_SHIFT S_LO_BYTE_SHIFT V_b hlen hn0_ hn1_ hl_ hh_ hbx hsf) (W hw 98 rfl) (W hw 99 rfl) (W hw 24 rfl) (W hw 100 rfl) (by decide) e2 pd_5 rfl rfl rfl (by rw [hml]; rfl) rfl (hb hby d12_21) ?_
  intro T3 L3 v3 X3 hQ3
  obtain ⟨rfl, N3q, e3⟩ := hQ3
  have N3 := Fr.app N1 N3q
  show Go p e below (T3.setTop (mkF m 24 _ [(.int cx)])) _
  exact Gk.rN X3 hx hret (by simp) hns (hb hby d12_24) e3 (nar .char cx) rfl ⟨congrArg (fun z_ : Int32 => some (Value.int z_)) (show (nar .char cx) = cx from (own_narc hbx)), N3, rfl⟩
theorem uci_1 (hw : HW Z a0) (a2 : Addr) (kb : ClassId) (fb : Nat → Value) (n2 : Int32) (w_SIOOBE_FORMATTER : Value) (Z0 : n0 ≤ h0.size) (S_SIOOBE_FORMATTER : Stx Z n0 h0 "jdk/internal/util/Preconditions" "SIOOBE_FORMATTER" "Ljava/util/function/BiFunction;" w_SIOOBE_FORMATTER) (V_b : Arf Z h0 a2 kb .byte n2 fb) (hlen : (1 : Int32) < (n2 >>> ((1 : Int32) &&& 31))) (hsf : w_SIOOBE_FORMATTER.isRef = true) : Ct l ⟨"java/lang/StringUTF16", "checkIndex", "(I[B)V"⟩ jdk_52_method_91_code 2 none ⟨2, 0, 0, 27⟩ #[(.int (1 : Int32)), (.ref a2)] Z h0 (fun v h L => v = none ∧ Fr n0 L ∧ h = h0) := by
  refine Ct.of "java/lang/StringUTF16" rfl (plainFor_of_name pn_5) #[.val (.int (1 : Int32)), .val (.ref a2)] rfl rfl ?_
  intro p e s m below meth c s₁ hx hby hml hown hnm hret hns hZ hh X0 e0
  refine Gk.iloadN X0 hx (hb hby d23_0) rfl ?_
  refine Gk.aloadN X0 hx (hb hby d23_1) rfl rfl ?_
  refine Gk.callS (argsL := [(.ref a2)]) X0 hx hZ hown (ul l Z a0 h0 n0 hw a2 kb fb n2 Z0 V_b) (W hw 104 rfl) (W hw 105 rfl) (W hw 24 rfl) (W hw 106 rfl) (by decide) e0 pd_13 rfl rfl rfl (by rw [hml]; rfl) rfl (hb hby d23_2) ?_
  intro T1 L1 v1 X1 hQ1
  obtain ⟨rfl, N1q, e1⟩ := hQ1
  have N1 := Fr.app (Fr.nil n0) N1q
  show Go p e below (T1.setTop (mkF m 5 _ [(.int (n2 >>> ((1 : Int32) &&& 31))), (.int (1 : Int32))])) _
  refine Gk.callS (argsL := [(.int (1 : Int32)), (.int (n2 >>> ((1 : Int32) &&& 31)))]) X1 hx hZ hown (sci l Z a0 h0 n0 hw (1 : Int32) (n2 >>> ((1 : Int32) &&& 31)) w_SIOOBE_FORMATTER Z0 S_SIOOBE_FORMATTER (by decide) hlen hsf) (W hw 107 rfl) (W hw 66 rfl) (W hw 10 rfl) (W hw 67 rfl) (by decide) e1 pd_11 rfl rfl rfl (by rw [hml]; rfl) rfl (hb hby d23_5) ?_
  intro T2 L2 v2 X2 hQ2
  obtain ⟨rfl, N2q, e2⟩ := hQ2
  have N2 := Fr.app N1 N2q
  show Go p e below (T2.setTop (mkF m 8 _ [])) _
  exact Gk.rV X2 hx hret hns (hb hby d23_8) e2 ⟨rfl, N2, rfl⟩
theorem uca_1 (hw : HW Z a0) (a1 : Addr) (kb : ClassId) (fb : Nat → Value) (n2 cx : Int32) (w_SIOOBE_FORMATTER : Value) (Z0 : n0 ≤ h0.size) (S_SIOOBE_FORMATTER : Stx Z n0 h0 "jdk/internal/util/Preconditions" "SIOOBE_FORMATTER" "Ljava/util/function/BiFunction;" w_SIOOBE_FORMATTER) (S__assertionsDisabled : Stx Z n0 h0 "java/lang/StringUTF16" "$assertionsDisabled" "Z" (.int (1 : Int32))) (S_HI_BYTE_SHIFT : Stx Z n0 h0 "java/lang/StringUTF16" "HI_BYTE_SHIFT" "I" (.int (0 : Int32))) (S_LO_BYTE_SHIFT : Stx Z n0 h0 "java/lang/StringUTF16" "LO_BYTE_SHIFT" "I" (.int (8 : Int32))) (V_b : Arf Z h0 a1 kb .byte n2 fb) (hlen : (1 : Int32) < (n2 >>> ((1 : Int32) &&& 31))) (hn0_ : (2 : Int32) < n2) (hn1_ : (3 : Int32) < n2) (hl_ : fb 2 = .int ((cx >>> ((0 : Int32) &&& 31)).toInt8.toInt32)) (hh_ : fb 3 = .int ((cx >>> ((8 : Int32) &&& 31)).toInt8.toInt32)) (hbx : 0 ≤ cx.toInt ∧ cx.toInt < 65536) (hsf : w_SIOOBE_FORMATTER.isRef = true) : Ct l ⟨"java/lang/StringUTF16", "charAt", "([BI)C"⟩ jdk_52_method_83_code 2 (some .char) ⟨3, 0, 0, 40⟩ #[(.ref a1), (.int (1 : Int32))] Z h0 (fun v h L => v = some (.int cx) ∧ Fr n0 L ∧ h = h0) := by
  refine Ct.of "java/lang/StringUTF16" rfl (plainFor_of_name pn_5) #[.val (.ref a1), .val (.int (1 : Int32))] rfl rfl ?_
  intro p e s m below meth c s₁ hx hby hml hown hnm hret hns hZ hh X0 e0
  refine Gk.iloadN X0 hx (hb hby d22_0) rfl ?_
  refine Gk.aloadN X0 hx (hb hby d22_1) rfl rfl ?_
  refine Gk.callS (argsL := [(.int (1 : Int32)), (.ref a1)]) X0 hx hZ hown (uci_1 l Z a0 h0 n0 hw a1 kb fb n2 w_SIOOBE_FORMATTER Z0 S_SIOOBE_FORMATTER V_b hlen hsf) (W hw 101 rfl) (W hw 102 rfl) (W hw 24 rfl) (W hw 103 rfl) (by decide) e0 pd_14 rfl rfl rfl (by rw [hml]; rfl) rfl (hb hby d22_2) ?_
  intro T1 L1 v1 X1 hQ1
  obtain ⟨rfl, N1q, e1⟩ := hQ1
  have N1 := Fr.app (Fr.nil n0) N1q
  show Go p e below (T1.setTop (mkF m 5 _ [])) _
  refine Gk.aloadN X1 hx (hb hby d22_5) rfl rfl ?_
  refine Gk.iloadN X1 hx (hb hby d22_6) rfl ?_
  refine Gk.callS (argsL := [(.ref a1), (.int (1 : Int32))]) X1 hx hZ hown (gch_1 l Z a0 h0 n0 hw a1 kb fb n2 cx Z0 S__assertionsDisabled S_HI_BYTE_SHIFT S_LO_BYTE_SHIFT V_b hn0_ hn1_ hl_ hh_ hbx) (W hw 94 rfl) (W hw 95 rfl) (W hw 24 rfl) (W hw 96 rfl) (by decide) e1 pd_5 rfl rfl rfl (by rw [hml]; rfl) rfl (hb hby d22_7) ?_
  intro T2 L2 v2 X2 hQ2
  obtain ⟨rfl, N2q, e2⟩ := hQ2
  have N2 := Fr.app N1 N2q
  show Go p e below (T2.setTop (mkF m 10 _ [(.int cx)])) _
  exact Gk.rN X2 hx hret (by simp) hns (hb hby d22_10) e2 (nar .char cx) rfl ⟨congrArg (fun z_ : Int32 => some (Value.int z_)) (show (nar .char cx) = cx from (own_narc hbx)), N2, rfl⟩
theorem scu_1 (hw : HW Z a0) (a1 b1 : Addr) (kb : ClassId) (fb : Nat → Value) (n2 cx w_COMPACT_STRINGS : Int32) (w_SIOOBE_FORMATTER : Value) (Z0 : n0 ≤ h0.size) (S_COMPACT_STRINGS : Stx Z n0 h0 "java/lang/String" "COMPACT_STRINGS" "Z" (.int w_COMPACT_STRINGS)) (S_SIOOBE_FORMATTER : Stx Z n0 h0 "jdk/internal/util/Preconditions" "SIOOBE_FORMATTER" "Ljava/util/function/BiFunction;" w_SIOOBE_FORMATTER) (S__assertionsDisabled : Stx Z n0 h0 "java/lang/StringUTF16" "$assertionsDisabled" "Z" (.int (1 : Int32))) (S_HI_BYTE_SHIFT : Stx Z n0 h0 "java/lang/StringUTF16" "HI_BYTE_SHIFT" "I" (.int (0 : Int32))) (S_LO_BYTE_SHIFT : Stx Z n0 h0 "java/lang/StringUTF16" "LO_BYTE_SHIFT" "I" (.int (8 : Int32))) (E_a1 : Exa Z h0 a1 "java/lang/String") (Fc1 : Fld Z h0 a1 "java/lang/String" "coder" "B" (.int (1 : Int32))) (Fv1 : Fld Z h0 a1 "java/lang/String" "value" "[B" (.ref b1)) (V_b : Arf Z h0 b1 kb .byte n2 fb) (hlen : (1 : Int32) < (n2 >>> ((1 : Int32) &&& 31))) (hn0_ : (2 : Int32) < n2) (hn1_ : (3 : Int32) < n2) (hl_ : fb 2 = .int ((cx >>> ((0 : Int32) &&& 31)).toInt8.toInt32)) (hh_ : fb 3 = .int ((cx >>> ((8 : Int32) &&& 31)).toInt8.toInt32)) (hbx : 0 ≤ cx.toInt ∧ cx.toInt < 65536) (hsf : w_SIOOBE_FORMATTER.isRef = true) (hcs : ¬ (w_COMPACT_STRINGS = (0 : Int32))) : Ct l ⟨"java/lang/String", "charAt", "(I)C"⟩ jdk_42_method_56_code 2 (some .char) ⟨4, 0, 0, 53⟩ #[(.ref a1), (.int (1 : Int32))] Z h0 (fun v h L => v = some (.int cx) ∧ Fr n0 L ∧ h = h0) := by
  refine Ct.of "java/lang/String" rfl (plainFor_of_name pn_164) #[.val (.ref a1), .val (.int (1 : Int32))] rfl rfl ?_
  intro p e s m below meth c s₁ hx hby hml hown hnm hret hns hZ hh X0 e0
  refine Gk.aloadN X0 hx (hb hby d12_0) rfl rfl ?_
  refine Gk.callV (argsL := []) X0 hx hZ hown (il_1 l Z a0 h0 n0 hw a1 w_COMPACT_STRINGS Z0 S_COMPACT_STRINGS Fc1 hcs) (W hw 56 rfl) (W hw 57 rfl) (notFace_of_selects (args := #[]) (mvT hZ (W hw 59 rfl))) (W hw 59 rfl) (W hw 58 rfl) (by decide) (W hw 60 rfl) (W hw 10 rfl) e0 E_a1 pd_12 rfl rfl rfl (by rw [hml]; rfl) rfl (hb hby d12_1) ?_
  intro T1 L1 v1 X1 hQ1
  obtain ⟨rfl, N1q, e1⟩ := hQ1
  have N1 := Fr.app (Fr.nil n0) N1q
  show Go p e below (T1.setTop (mkF m 4 _ [(.int (0 : Int32))])) _
  refine Gk.ifYes X1 hx (hb hby d12_4) (teq (by decide : (0 : Int32) = (0 : Int32))).1 16 (by decide) (by decide) ?_
  refine Gk.aloadN X1 hx (hb hby d12_16) rfl rfl ?_
  refine Gk.getF X1 hx hZ hown (host := "") (Or.inl (W hw 35 rfl)) Via.refl e1 Fv1 (hb hby d12_17) ?_
  intro T2 X2 e2
  refine Gk.iloadN X2 hx (hb hby d12_20) rfl ?_
  refine Gk.callS (argsL := [(.ref b1), (.int (1 : Int32))]) X2 hx hZ hown (uca_1 l Z a0 h0 n0 hw b1 kb fb n2 cx w_SIOOBE_FORMATTER Z0 S_SIOOBE_FORMATTER S__assertionsDisabled S_HI_BYTE_SHIFT S_LO_BYTE_SHIFT V_b hlen hn0_ hn1_ hl_ hh_ hbx hsf) (W hw 98 rfl) (W hw 99 rfl) (W hw 24 rfl) (W hw 100 rfl) (by decide) e2 pd_5 rfl rfl rfl (by rw [hml]; rfl) rfl (hb hby d12_21) ?_
  intro T3 L3 v3 X3 hQ3
  obtain ⟨rfl, N3q, e3⟩ := hQ3
  have N3 := Fr.app N1 N3q
  show Go p e below (T3.setTop (mkF m 24 _ [(.int cx)])) _
  exact Gk.rN X3 hx hret (by simp) hns (hb hby d12_24) e3 (nar .char cx) rfl ⟨congrArg (fun z_ : Int32 => some (Value.int z_)) (show (nar .char cx) = cx from (own_narc hbx)), N3, rfl⟩
theorem uci_2 (hw : HW Z a0) (a2 : Addr) (kb : ClassId) (fb : Nat → Value) (n2 : Int32) (w_SIOOBE_FORMATTER : Value) (Z0 : n0 ≤ h0.size) (S_SIOOBE_FORMATTER : Stx Z n0 h0 "jdk/internal/util/Preconditions" "SIOOBE_FORMATTER" "Ljava/util/function/BiFunction;" w_SIOOBE_FORMATTER) (V_b : Arf Z h0 a2 kb .byte n2 fb) (hlen : (2 : Int32) < (n2 >>> ((1 : Int32) &&& 31))) (hsf : w_SIOOBE_FORMATTER.isRef = true) : Ct l ⟨"java/lang/StringUTF16", "checkIndex", "(I[B)V"⟩ jdk_52_method_91_code 2 none ⟨2, 0, 0, 27⟩ #[(.int (2 : Int32)), (.ref a2)] Z h0 (fun v h L => v = none ∧ Fr n0 L ∧ h = h0) := by
  refine Ct.of "java/lang/StringUTF16" rfl (plainFor_of_name pn_5) #[.val (.int (2 : Int32)), .val (.ref a2)] rfl rfl ?_
  intro p e s m below meth c s₁ hx hby hml hown hnm hret hns hZ hh X0 e0
  refine Gk.iloadN X0 hx (hb hby d23_0) rfl ?_
  refine Gk.aloadN X0 hx (hb hby d23_1) rfl rfl ?_
  refine Gk.callS (argsL := [(.ref a2)]) X0 hx hZ hown (ul l Z a0 h0 n0 hw a2 kb fb n2 Z0 V_b) (W hw 104 rfl) (W hw 105 rfl) (W hw 24 rfl) (W hw 106 rfl) (by decide) e0 pd_13 rfl rfl rfl (by rw [hml]; rfl) rfl (hb hby d23_2) ?_
  intro T1 L1 v1 X1 hQ1
  obtain ⟨rfl, N1q, e1⟩ := hQ1
  have N1 := Fr.app (Fr.nil n0) N1q
  show Go p e below (T1.setTop (mkF m 5 _ [(.int (n2 >>> ((1 : Int32) &&& 31))), (.int (2 : Int32))])) _
  refine Gk.callS (argsL := [(.int (2 : Int32)), (.int (n2 >>> ((1 : Int32) &&& 31)))]) X1 hx hZ hown (sci l Z a0 h0 n0 hw (2 : Int32) (n2 >>> ((1 : Int32) &&& 31)) w_SIOOBE_FORMATTER Z0 S_SIOOBE_FORMATTER (by decide) hlen hsf) (W hw 107 rfl) (W hw 66 rfl) (W hw 10 rfl) (W hw 67 rfl) (by decide) e1 pd_11 rfl rfl rfl (by rw [hml]; rfl) rfl (hb hby d23_5) ?_
  intro T2 L2 v2 X2 hQ2
  obtain ⟨rfl, N2q, e2⟩ := hQ2
  have N2 := Fr.app N1 N2q
  show Go p e below (T2.setTop (mkF m 8 _ [])) _
  exact Gk.rV X2 hx hret hns (hb hby d23_8) e2 ⟨rfl, N2, rfl⟩
theorem uca_2 (hw : HW Z a0) (a1 : Addr) (kb : ClassId) (fb : Nat → Value) (n2 cx : Int32) (w_SIOOBE_FORMATTER : Value) (Z0 : n0 ≤ h0.size) (S_SIOOBE_FORMATTER : Stx Z n0 h0 "jdk/internal/util/Preconditions" "SIOOBE_FORMATTER" "Ljava/util/function/BiFunction;" w_SIOOBE_FORMATTER) (S__assertionsDisabled : Stx Z n0 h0 "java/lang/StringUTF16" "$assertionsDisabled" "Z" (.int (1 : Int32))) (S_HI_BYTE_SHIFT : Stx Z n0 h0 "java/lang/StringUTF16" "HI_BYTE_SHIFT" "I" (.int (0 : Int32))) (S_LO_BYTE_SHIFT : Stx Z n0 h0 "java/lang/StringUTF16" "LO_BYTE_SHIFT" "I" (.int (8 : Int32))) (V_b : Arf Z h0 a1 kb .byte n2 fb) (hlen : (2 : Int32) < (n2 >>> ((1 : Int32) &&& 31))) (hn0_ : (4 : Int32) < n2) (hn1_ : (5 : Int32) < n2) (hl_ : fb 4 = .int ((cx >>> ((0 : Int32) &&& 31)).toInt8.toInt32)) (hh_ : fb 5 = .int ((cx >>> ((8 : Int32) &&& 31)).toInt8.toInt32)) (hbx : 0 ≤ cx.toInt ∧ cx.toInt < 65536) (hsf : w_SIOOBE_FORMATTER.isRef = true) : Ct l ⟨"java/lang/StringUTF16", "charAt", "([BI)C"⟩ jdk_52_method_83_code 2 (some .char) ⟨3, 0, 0, 40⟩ #[(.ref a1), (.int (2 : Int32))] Z h0 (fun v h L => v = some (.int cx) ∧ Fr n0 L ∧ h = h0) := by
  refine Ct.of "java/lang/StringUTF16" rfl (plainFor_of_name pn_5) #[.val (.ref a1), .val (.int (2 : Int32))] rfl rfl ?_
  intro p e s m below meth c s₁ hx hby hml hown hnm hret hns hZ hh X0 e0
  refine Gk.iloadN X0 hx (hb hby d22_0) rfl ?_
  refine Gk.aloadN X0 hx (hb hby d22_1) rfl rfl ?_
  refine Gk.callS (argsL := [(.int (2 : Int32)), (.ref a1)]) X0 hx hZ hown (uci_2 l Z a0 h0 n0 hw a1 kb fb n2 w_SIOOBE_FORMATTER Z0 S_SIOOBE_FORMATTER V_b hlen hsf) (W hw 101 rfl) (W hw 102 rfl) (W hw 24 rfl) (W hw 103 rfl) (by decide) e0 pd_14 rfl rfl rfl (by rw [hml]; rfl) rfl (hb hby d22_2) ?_
  intro T1 L1 v1 X1 hQ1
  obtain ⟨rfl, N1q, e1⟩ := hQ1
  have N1 := Fr.app (Fr.nil n0) N1q
  show Go p e below (T1.setTop (mkF m 5 _ [])) _
  refine Gk.aloadN X1 hx (hb hby d22_5) rfl rfl ?_
  refine Gk.iloadN X1 hx (hb hby d22_6) rfl ?_
  refine Gk.callS (argsL := [(.ref a1), (.int (2 : Int32))]) X1 hx hZ hown (gch_2 l Z a0 h0 n0 hw a1 kb fb n2 cx Z0 S__assertionsDisabled S_HI_BYTE_SHIFT S_LO_BYTE_SHIFT V_b hn0_ hn1_ hl_ hh_ hbx) (W hw 94 rfl) (W hw 95 rfl) (W hw 24 rfl) (W hw 96 rfl) (by decide) e1 pd_5 rfl rfl rfl (by rw [hml]; rfl) rfl (hb hby d22_7) ?_
  intro T2 L2 v2 X2 hQ2
  obtain ⟨rfl, N2q, e2⟩ := hQ2
  have N2 := Fr.app N1 N2q
  show Go p e below (T2.setTop (mkF m 10 _ [(.int cx)])) _
  exact Gk.rN X2 hx hret (by simp) hns (hb hby d22_10) e2 (nar .char cx) rfl ⟨congrArg (fun z_ : Int32 => some (Value.int z_)) (show (nar .char cx) = cx from (own_narc hbx)), N2, rfl⟩
theorem scu_2 (hw : HW Z a0) (a1 b1 : Addr) (kb : ClassId) (fb : Nat → Value) (n2 cx w_COMPACT_STRINGS : Int32) (w_SIOOBE_FORMATTER : Value) (Z0 : n0 ≤ h0.size) (S_COMPACT_STRINGS : Stx Z n0 h0 "java/lang/String" "COMPACT_STRINGS" "Z" (.int w_COMPACT_STRINGS)) (S_SIOOBE_FORMATTER : Stx Z n0 h0 "jdk/internal/util/Preconditions" "SIOOBE_FORMATTER" "Ljava/util/function/BiFunction;" w_SIOOBE_FORMATTER) (S__assertionsDisabled : Stx Z n0 h0 "java/lang/StringUTF16" "$assertionsDisabled" "Z" (.int (1 : Int32))) (S_HI_BYTE_SHIFT : Stx Z n0 h0 "java/lang/StringUTF16" "HI_BYTE_SHIFT" "I" (.int (0 : Int32))) (S_LO_BYTE_SHIFT : Stx Z n0 h0 "java/lang/StringUTF16" "LO_BYTE_SHIFT" "I" (.int (8 : Int32))) (E_a1 : Exa Z h0 a1 "java/lang/String") (Fc1 : Fld Z h0 a1 "java/lang/String" "coder" "B" (.int (1 : Int32))) (Fv1 : Fld Z h0 a1 "java/lang/String" "value" "[B" (.ref b1)) (V_b : Arf Z h0 b1 kb .byte n2 fb) (hlen : (2 : Int32) < (n2 >>> ((1 : Int32) &&& 31))) (hn0_ : (4 : Int32) < n2) (hn1_ : (5 : Int32) < n2) (hl_ : fb 4 = .int ((cx >>> ((0 : Int32) &&& 31)).toInt8.toInt32)) (hh_ : fb 5 = .int ((cx >>> ((8 : Int32) &&& 31)).toInt8.toInt32)) (hbx : 0 ≤ cx.toInt ∧ cx.toInt < 65536) (hsf : w_SIOOBE_FORMATTER.isRef = true) (hcs : ¬ (w_COMPACT_STRINGS = (0 : Int32))) : Ct l ⟨"java/lang/String", "charAt", "(I)C"⟩ jdk_42_method_56_code 2 (some .char) ⟨4, 0, 0, 53⟩ #[(.ref a1), (.int (2 : Int32))] Z h0 (fun v h L => v = some (.int cx) ∧ Fr n0 L ∧ h = h0) := by
  refine Ct.of "java/lang/String" rfl (plainFor_of_name pn_164) #[.val (.ref a1), .val (.int (2 : Int32))] rfl rfl ?_
  intro p e s m below meth c s₁ hx hby hml hown hnm hret hns hZ hh X0 e0
  refine Gk.aloadN X0 hx (hb hby d12_0) rfl rfl ?_
  refine Gk.callV (argsL := []) X0 hx hZ hown (il_1 l Z a0 h0 n0 hw a1 w_COMPACT_STRINGS Z0 S_COMPACT_STRINGS Fc1 hcs) (W hw 56 rfl) (W hw 57 rfl) (notFace_of_selects (args := #[]) (mvT hZ (W hw 59 rfl))) (W hw 59 rfl) (W hw 58 rfl) (by decide) (W hw 60 rfl) (W hw 10 rfl) e0 E_a1 pd_12 rfl rfl rfl (by rw [hml]; rfl) rfl (hb hby d12_1) ?_
  intro T1 L1 v1 X1 hQ1
  obtain ⟨rfl, N1q, e1⟩ := hQ1
  have N1 := Fr.app (Fr.nil n0) N1q
  show Go p e below (T1.setTop (mkF m 4 _ [(.int (0 : Int32))])) _
  refine Gk.ifYes X1 hx (hb hby d12_4) (teq (by decide : (0 : Int32) = (0 : Int32))).1 16 (by decide) (by decide) ?_
  refine Gk.aloadN X1 hx (hb hby d12_16) rfl rfl ?_
  refine Gk.getF X1 hx hZ hown (host := "") (Or.inl (W hw 35 rfl)) Via.refl e1 Fv1 (hb hby d12_17) ?_
  intro T2 X2 e2
  refine Gk.iloadN X2 hx (hb hby d12_20) rfl ?_
  refine Gk.callS (argsL := [(.ref b1), (.int (2 : Int32))]) X2 hx hZ hown (uca_2 l Z a0 h0 n0 hw b1 kb fb n2 cx w_SIOOBE_FORMATTER Z0 S_SIOOBE_FORMATTER S__assertionsDisabled S_HI_BYTE_SHIFT S_LO_BYTE_SHIFT V_b hlen hn0_ hn1_ hl_ hh_ hbx hsf) (W hw 98 rfl) (W hw 99 rfl) (W hw 24 rfl) (W hw 100 rfl) (by decide) e2 pd_5 rfl rfl rfl (by rw [hml]; rfl) rfl (hb hby d12_21) ?_
  intro T3 L3 v3 X3 hQ3
  obtain ⟨rfl, N3q, e3⟩ := hQ3
  have N3 := Fr.app N1 N3q
  show Go p e below (T3.setTop (mkF m 24 _ [(.int cx)])) _
  exact Gk.rN X3 hx hret (by simp) hns (hb hby d12_24) e3 (nar .char cx) rfl ⟨congrArg (fun z_ : Int32 => some (Value.int z_)) (show (nar .char cx) = cx from (own_narc hbx)), N3, rfl⟩
theorem uci_3 (hw : HW Z a0) (a2 : Addr) (kb : ClassId) (fb : Nat → Value) (n2 : Int32) (w_SIOOBE_FORMATTER : Value) (Z0 : n0 ≤ h0.size) (S_SIOOBE_FORMATTER : Stx Z n0 h0 "jdk/internal/util/Preconditions" "SIOOBE_FORMATTER" "Ljava/util/function/BiFunction;" w_SIOOBE_FORMATTER) (V_b : Arf Z h0 a2 kb .byte n2 fb) (hlen : (3 : Int32) < (n2 >>> ((1 : Int32) &&& 31))) (hsf : w_SIOOBE_FORMATTER.isRef = true) : Ct l ⟨"java/lang/StringUTF16", "checkIndex", "(I[B)V"⟩ jdk_52_method_91_code 2 none ⟨2, 0, 0, 27⟩ #[(.int (3 : Int32)), (.ref a2)] Z h0 (fun v h L => v = none ∧ Fr n0 L ∧ h = h0) := by
  refine Ct.of "java/lang/StringUTF16" rfl (plainFor_of_name pn_5) #[.val (.int (3 : Int32)), .val (.ref a2)] rfl rfl ?_
  intro p e s m below meth c s₁ hx hby hml hown hnm hret hns hZ hh X0 e0
  refine Gk.iloadN X0 hx (hb hby d23_0) rfl ?_
  refine Gk.aloadN X0 hx (hb hby d23_1) rfl rfl ?_
  refine Gk.callS (argsL := [(.ref a2)]) X0 hx hZ hown (ul l Z a0 h0 n0 hw a2 kb fb n2 Z0 V_b) (W hw 104 rfl) (W hw 105 rfl) (W hw 24 rfl) (W hw 106 rfl) (by decide) e0 pd_13 rfl rfl rfl (by rw [hml]; rfl) rfl (hb hby d23_2) ?_
  intro T1 L1 v1 X1 hQ1
  obtain ⟨rfl, N1q, e1⟩ := hQ1
  have N1 := Fr.app (Fr.nil n0) N1q
  show Go p e below (T1.setTop (mkF m 5 _ [(.int (n2 >>> ((1 : Int32) &&& 31))), (.int (3 : Int32))])) _
  refine Gk.callS (argsL := [(.int (3 : Int32)), (.int (n2 >>> ((1 : Int32) &&& 31)))]) X1 hx hZ hown (sci l Z a0 h0 n0 hw (3 : Int32) (n2 >>> ((1 : Int32) &&& 31)) w_SIOOBE_FORMATTER Z0 S_SIOOBE_FORMATTER (by decide) hlen hsf) (W hw 107 rfl) (W hw 66 rfl) (W hw 10 rfl) (W hw 67 rfl) (by decide) e1 pd_11 rfl rfl rfl (by rw [hml]; rfl) rfl (hb hby d23_5) ?_
  intro T2 L2 v2 X2 hQ2
  obtain ⟨rfl, N2q, e2⟩ := hQ2
  have N2 := Fr.app N1 N2q
  show Go p e below (T2.setTop (mkF m 8 _ [])) _
  exact Gk.rV X2 hx hret hns (hb hby d23_8) e2 ⟨rfl, N2, rfl⟩
theorem uca_3 (hw : HW Z a0) (a1 : Addr) (kb : ClassId) (fb : Nat → Value) (n2 cx : Int32) (w_SIOOBE_FORMATTER : Value) (Z0 : n0 ≤ h0.size) (S_SIOOBE_FORMATTER : Stx Z n0 h0 "jdk/internal/util/Preconditions" "SIOOBE_FORMATTER" "Ljava/util/function/BiFunction;" w_SIOOBE_FORMATTER) (S__assertionsDisabled : Stx Z n0 h0 "java/lang/StringUTF16" "$assertionsDisabled" "Z" (.int (1 : Int32))) (S_HI_BYTE_SHIFT : Stx Z n0 h0 "java/lang/StringUTF16" "HI_BYTE_SHIFT" "I" (.int (0 : Int32))) (S_LO_BYTE_SHIFT : Stx Z n0 h0 "java/lang/StringUTF16" "LO_BYTE_SHIFT" "I" (.int (8 : Int32))) (V_b : Arf Z h0 a1 kb .byte n2 fb) (hlen : (3 : Int32) < (n2 >>> ((1 : Int32) &&& 31))) (hn0_ : (6 : Int32) < n2) (hn1_ : (7 : Int32) < n2) (hl_ : fb 6 = .int ((cx >>> ((0 : Int32) &&& 31)).toInt8.toInt32)) (hh_ : fb 7 = .int ((cx >>> ((8 : Int32) &&& 31)).toInt8.toInt32)) (hbx : 0 ≤ cx.toInt ∧ cx.toInt < 65536) (hsf : w_SIOOBE_FORMATTER.isRef = true) : Ct l ⟨"java/lang/StringUTF16", "charAt", "([BI)C"⟩ jdk_52_method_83_code 2 (some .char) ⟨3, 0, 0, 40⟩ #[(.ref a1), (.int (3 : Int32))] Z h0 (fun v h L => v = some (.int cx) ∧ Fr n0 L ∧ h = h0) := by
  refine Ct.of "java/lang/StringUTF16" rfl (plainFor_of_name pn_5) #[.val (.ref a1), .val (.int (3 : Int32))] rfl rfl ?_
  intro p e s m below meth c s₁ hx hby hml hown hnm hret hns hZ hh X0 e0
  refine Gk.iloadN X0 hx (hb hby d22_0) rfl ?_
  refine Gk.aloadN X0 hx (hb hby d22_1) rfl rfl ?_
  refine Gk.callS (argsL := [(.int (3 : Int32)), (.ref a1)]) X0 hx hZ hown (uci_3 l Z a0 h0 n0 hw a1 kb fb n2 w_SIOOBE_FORMATTER Z0 S_SIOOBE_FORMATTER V_b hlen hsf) (W hw 101 rfl) (W hw 102 rfl) (W hw 24 rfl) (W hw 103 rfl) (by decide) e0 pd_14 rfl rfl rfl (by rw [hml]; rfl) rfl (hb hby d22_2) ?_
  intro T1 L1 v1 X1 hQ1
  obtain ⟨rfl, N1q, e1⟩ := hQ1
  have N1 := Fr.app (Fr.nil n0) N1q
  show Go p e below (T1.setTop (mkF m 5 _ [])) _
  refine Gk.aloadN X1 hx (hb hby d22_5) rfl rfl ?_
  refine Gk.iloadN X1 hx (hb hby d22_6) rfl ?_
  refine Gk.callS (argsL := [(.ref a1), (.int (3 : Int32))]) X1 hx hZ hown (gch_3 l Z a0 h0 n0 hw a1 kb fb n2 cx Z0 S__assertionsDisabled S_HI_BYTE_SHIFT S_LO_BYTE_SHIFT V_b hn0_ hn1_ hl_ hh_ hbx) (W hw 94 rfl) (W hw 95 rfl) (W hw 24 rfl) (W hw 96 rfl) (by decide) e1 pd_5 rfl rfl rfl (by rw [hml]; rfl) rfl (hb hby d22_7) ?_
  intro T2 L2 v2 X2 hQ2
  obtain ⟨rfl, N2q, e2⟩ := hQ2
  have N2 := Fr.app N1 N2q
  show Go p e below (T2.setTop (mkF m 10 _ [(.int cx)])) _
  exact Gk.rN X2 hx hret (by simp) hns (hb hby d22_10) e2 (nar .char cx) rfl ⟨congrArg (fun z_ : Int32 => some (Value.int z_)) (show (nar .char cx) = cx from (own_narc hbx)), N2, rfl⟩
theorem scu_3 (hw : HW Z a0) (a1 b1 : Addr) (kb : ClassId) (fb : Nat → Value) (n2 cx w_COMPACT_STRINGS : Int32) (w_SIOOBE_FORMATTER : Value) (Z0 : n0 ≤ h0.size) (S_COMPACT_STRINGS : Stx Z n0 h0 "java/lang/String" "COMPACT_STRINGS" "Z" (.int w_COMPACT_STRINGS)) (S_SIOOBE_FORMATTER : Stx Z n0 h0 "jdk/internal/util/Preconditions" "SIOOBE_FORMATTER" "Ljava/util/function/BiFunction;" w_SIOOBE_FORMATTER) (S__assertionsDisabled : Stx Z n0 h0 "java/lang/StringUTF16" "$assertionsDisabled" "Z" (.int (1 : Int32))) (S_HI_BYTE_SHIFT : Stx Z n0 h0 "java/lang/StringUTF16" "HI_BYTE_SHIFT" "I" (.int (0 : Int32))) (S_LO_BYTE_SHIFT : Stx Z n0 h0 "java/lang/StringUTF16" "LO_BYTE_SHIFT" "I" (.int (8 : Int32))) (E_a1 : Exa Z h0 a1 "java/lang/String") (Fc1 : Fld Z h0 a1 "java/lang/String" "coder" "B" (.int (1 : Int32))) (Fv1 : Fld Z h0 a1 "java/lang/String" "value" "[B" (.ref b1)) (V_b : Arf Z h0 b1 kb .byte n2 fb) (hlen : (3 : Int32) < (n2 >>> ((1 : Int32) &&& 31))) (hn0_ : (6 : Int32) < n2) (hn1_ : (7 : Int32) < n2) (hl_ : fb 6 = .int ((cx >>> ((0 : Int32) &&& 31)).toInt8.toInt32)) (hh_ : fb 7 = .int ((cx >>> ((8 : Int32) &&& 31)).toInt8.toInt32)) (hbx : 0 ≤ cx.toInt ∧ cx.toInt < 65536) (hsf : w_SIOOBE_FORMATTER.isRef = true) (hcs : ¬ (w_COMPACT_STRINGS = (0 : Int32))) : Ct l ⟨"java/lang/String", "charAt", "(I)C"⟩ jdk_42_method_56_code 2 (some .char) ⟨4, 0, 0, 53⟩ #[(.ref a1), (.int (3 : Int32))] Z h0 (fun v h L => v = some (.int cx) ∧ Fr n0 L ∧ h = h0) := by
  refine Ct.of "java/lang/String" rfl (plainFor_of_name pn_164) #[.val (.ref a1), .val (.int (3 : Int32))] rfl rfl ?_
  intro p e s m below meth c s₁ hx hby hml hown hnm hret hns hZ hh X0 e0
  refine Gk.aloadN X0 hx (hb hby d12_0) rfl rfl ?_
  refine Gk.callV (argsL := []) X0 hx hZ hown (il_1 l Z a0 h0 n0 hw a1 w_COMPACT_STRINGS Z0 S_COMPACT_STRINGS Fc1 hcs) (W hw 56 rfl) (W hw 57 rfl) (notFace_of_selects (args := #[]) (mvT hZ (W hw 59 rfl))) (W hw 59 rfl) (W hw 58 rfl) (by decide) (W hw 60 rfl) (W hw 10 rfl) e0 E_a1 pd_12 rfl rfl rfl (by rw [hml]; rfl) rfl (hb hby d12_1) ?_
  intro T1 L1 v1 X1 hQ1
  obtain ⟨rfl, N1q, e1⟩ := hQ1
  have N1 := Fr.app (Fr.nil n0) N1q
  show Go p e below (T1.setTop (mkF m 4 _ [(.int (0 : Int32))])) _
  refine Gk.ifYes X1 hx (hb hby d12_4) (teq (by decide : (0 : Int32) = (0 : Int32))).1 16 (by decide) (by decide) ?_
  refine Gk.aloadN X1 hx (hb hby d12_16) rfl rfl ?_
  refine Gk.getF X1 hx hZ hown (host := "") (Or.inl (W hw 35 rfl)) Via.refl e1 Fv1 (hb hby d12_17) ?_
  intro T2 X2 e2
  refine Gk.iloadN X2 hx (hb hby d12_20) rfl ?_
  refine Gk.callS (argsL := [(.ref b1), (.int (3 : Int32))]) X2 hx hZ hown (uca_3 l Z a0 h0 n0 hw b1 kb fb n2 cx w_SIOOBE_FORMATTER Z0 S_SIOOBE_FORMATTER S__assertionsDisabled S_HI_BYTE_SHIFT S_LO_BYTE_SHIFT V_b hlen hn0_ hn1_ hl_ hh_ hbx hsf) (W hw 98 rfl) (W hw 99 rfl) (W hw 24 rfl) (W hw 100 rfl) (by decide) e2 pd_5 rfl rfl rfl (by rw [hml]; rfl) rfl (hb hby d12_21) ?_
  intro T3 L3 v3 X3 hQ3
  obtain ⟨rfl, N3q, e3⟩ := hQ3
  have N3 := Fr.app N1 N3q
  show Go p e below (T3.setTop (mkF m 24 _ [(.int cx)])) _
  exact Gk.rN X3 hx hret (by simp) hns (hb hby d12_24) e3 (nar .char cx) rfl ⟨congrArg (fun z_ : Int32 => some (Value.int z_)) (show (nar .char cx) = cx from (own_narc hbx)), N3, rfl⟩
theorem uci_4 (hw : HW Z a0) (a2 : Addr) (kb : ClassId) (fb : Nat → Value) (n2 : Int32) (w_SIOOBE_FORMATTER : Value) (Z0 : n0 ≤ h0.size) (S_SIOOBE_FORMATTER : Stx Z n0 h0 "jdk/internal/util/Preconditions" "SIOOBE_FORMATTER" "Ljava/util/function/BiFunction;" w_SIOOBE_FORMATTER) (V_b : Arf Z h0 a2 kb .byte n2 fb) (hlen : (4 : Int32) < (n2 >>> ((1 : Int32) &&& 31))) (hsf : w_SIOOBE_FORMATTER.isRef = true) : Ct l ⟨"java/lang/StringUTF16", "checkIndex", "(I[B)V"⟩ jdk_52_method_91_code 2 none ⟨2, 0, 0, 27⟩ #[(.int (4 : Int32)), (.ref a2)] Z h0 (fun v h L => v = none ∧ Fr n0 L ∧ h = h0) := by
  refine Ct.of "java/lang/StringUTF16" rfl (plainFor_of_name pn_5) #[.val (.int (4 : Int32)), .val (.ref a2)] rfl rfl ?_
  intro p e s m below meth c s₁ hx hby hml hown hnm hret hns hZ hh X0 e0
  refine Gk.iloadN X0 hx (hb hby d23_0) rfl ?_
  refine Gk.aloadN X0 hx (hb hby d23_1) rfl rfl ?_
  refine Gk.callS (argsL := [(.ref a2)]) X0 hx hZ hown (ul l Z a0 h0 n0 hw a2 kb fb n2 Z0 V_b) (W hw 104 rfl) (W hw 105 rfl) (W hw 24 rfl) (W hw 106 rfl) (by decide) e0 pd_13 rfl rfl rfl (by rw [hml]; rfl) rfl (hb hby d23_2) ?_
  intro T1 L1 v1 X1 hQ1
  obtain ⟨rfl, N1q, e1⟩ := hQ1
  have N1 := Fr.app (Fr.nil n0) N1q
  show Go p e below (T1.setTop (mkF m 5 _ [(.int (n2 >>> ((1 : Int32) &&& 31))), (.int (4 : Int32))])) _
  refine Gk.callS (argsL := [(.int (4 : Int32)), (.int (n2 >>> ((1 : Int32) &&& 31)))]) X1 hx hZ hown (sci l Z a0 h0 n0 hw (4 : Int32) (n2 >>> ((1 : Int32) &&& 31)) w_SIOOBE_FORMATTER Z0 S_SIOOBE_FORMATTER (by decide) hlen hsf) (W hw 107 rfl) (W hw 66 rfl) (W hw 10 rfl) (W hw 67 rfl) (by decide) e1 pd_11 rfl rfl rfl (by rw [hml]; rfl) rfl (hb hby d23_5) ?_
  intro T2 L2 v2 X2 hQ2
  obtain ⟨rfl, N2q, e2⟩ := hQ2
  have N2 := Fr.app N1 N2q
  show Go p e below (T2.setTop (mkF m 8 _ [])) _
  exact Gk.rV X2 hx hret hns (hb hby d23_8) e2 ⟨rfl, N2, rfl⟩
theorem uca_4 (hw : HW Z a0) (a1 : Addr) (kb : ClassId) (fb : Nat → Value) (n2 cx : Int32) (w_SIOOBE_FORMATTER : Value) (Z0 : n0 ≤ h0.size) (S_SIOOBE_FORMATTER : Stx Z n0 h0 "jdk/internal/util/Preconditions" "SIOOBE_FORMATTER" "Ljava/util/function/BiFunction;" w_SIOOBE_FORMATTER) (S__assertionsDisabled : Stx Z n0 h0 "java/lang/StringUTF16" "$assertionsDisabled" "Z" (.int (1 : Int32))) (S_HI_BYTE_SHIFT : Stx Z n0 h0 "java/lang/StringUTF16" "HI_BYTE_SHIFT" "I" (.int (0 : Int32))) (S_LO_BYTE_SHIFT : Stx Z n0 h0 "java/lang/StringUTF16" "LO_BYTE_SHIFT" "I" (.int (8 : Int32))) (V_b : Arf Z h0 a1 kb .byte n2 fb) (hlen : (4 : Int32) < (n2 >>> ((1 : Int32) &&& 31))) (hn0_ : (8 : Int32) < n2) (hn1_ : (9 : Int32) < n2) (hl_ : fb 8 = .int ((cx >>> ((0 : Int32) &&& 31)).toInt8.toInt32)) (hh_ : fb 9 = .int ((cx >>> ((8 : Int32) &&& 31)).toInt8.toInt32)) (hbx : 0 ≤ cx.toInt ∧ cx.toInt < 65536) (hsf : w_SIOOBE_FORMATTER.isRef = true) : Ct l ⟨"java/lang/StringUTF16", "charAt", "([BI)C"⟩ jdk_52_method_83_code 2 (some .char) ⟨3, 0, 0, 40⟩ #[(.ref a1), (.int (4 : Int32))] Z h0 (fun v h L => v = some (.int cx) ∧ Fr n0 L ∧ h = h0) := by
  refine Ct.of "java/lang/StringUTF16" rfl (plainFor_of_name pn_5) #[.val (.ref a1), .val (.int (4 : Int32))] rfl rfl ?_
  intro p e s m below meth c s₁ hx hby hml hown hnm hret hns hZ hh X0 e0
  refine Gk.iloadN X0 hx (hb hby d22_0) rfl ?_
  refine Gk.aloadN X0 hx (hb hby d22_1) rfl rfl ?_
  refine Gk.callS (argsL := [(.int (4 : Int32)), (.ref a1)]) X0 hx hZ hown (uci_4 l Z a0 h0 n0 hw a1 kb fb n2 w_SIOOBE_FORMATTER Z0 S_SIOOBE_FORMATTER V_b hlen hsf) (W hw 101 rfl) (W hw 102 rfl) (W hw 24 rfl) (W hw 103 rfl) (by decide) e0 pd_14 rfl rfl rfl (by rw [hml]; rfl) rfl (hb hby d22_2) ?_
  intro T1 L1 v1 X1 hQ1
  obtain ⟨rfl, N1q, e1⟩ := hQ1
  have N1 := Fr.app (Fr.nil n0) N1q
  show Go p e below (T1.setTop (mkF m 5 _ [])) _
  refine Gk.aloadN X1 hx (hb hby d22_5) rfl rfl ?_
  refine Gk.iloadN X1 hx (hb hby d22_6) rfl ?_
  refine Gk.callS (argsL := [(.ref a1), (.int (4 : Int32))]) X1 hx hZ hown (gch_4 l Z a0 h0 n0 hw a1 kb fb n2 cx Z0 S__assertionsDisabled S_HI_BYTE_SHIFT S_LO_BYTE_SHIFT V_b hn0_ hn1_ hl_ hh_ hbx) (W hw 94 rfl) (W hw 95 rfl) (W hw 24 rfl) (W hw 96 rfl) (by decide) e1 pd_5 rfl rfl rfl (by rw [hml]; rfl) rfl (hb hby d22_7) ?_
  intro T2 L2 v2 X2 hQ2
  obtain ⟨rfl, N2q, e2⟩ := hQ2
  have N2 := Fr.app N1 N2q
  show Go p e below (T2.setTop (mkF m 10 _ [(.int cx)])) _
  exact Gk.rN X2 hx hret (by simp) hns (hb hby d22_10) e2 (nar .char cx) rfl ⟨congrArg (fun z_ : Int32 => some (Value.int z_)) (show (nar .char cx) = cx from (own_narc hbx)), N2, rfl⟩
theorem scu_4 (hw : HW Z a0) (a1 b1 : Addr) (kb : ClassId) (fb : Nat → Value) (n2 cx w_COMPACT_STRINGS : Int32) (w_SIOOBE_FORMATTER : Value) (Z0 : n0 ≤ h0.size) (S_COMPACT_STRINGS : Stx Z n0 h0 "java/lang/String" "COMPACT_STRINGS" "Z" (.int w_COMPACT_STRINGS)) (S_SIOOBE_FORMATTER : Stx Z n0 h0 "jdk/internal/util/Preconditions" "SIOOBE_FORMATTER" "Ljava/util/function/BiFunction;" w_SIOOBE_FORMATTER) (S__assertionsDisabled : Stx Z n0 h0 "java/lang/StringUTF16" "$assertionsDisabled" "Z" (.int (1 : Int32))) (S_HI_BYTE_SHIFT : Stx Z n0 h0 "java/lang/StringUTF16" "HI_BYTE_SHIFT" "I" (.int (0 : Int32))) (S_LO_BYTE_SHIFT : Stx Z n0 h0 "java/lang/StringUTF16" "LO_BYTE_SHIFT" "I" (.int (8 : Int32))) (E_a1 : Exa Z h0 a1 "java/lang/String") (Fc1 : Fld Z h0 a1 "java/lang/String" "coder" "B" (.int (1 : Int32))) (Fv1 : Fld Z h0 a1 "java/lang/String" "value" "[B" (.ref b1)) (V_b : Arf Z h0 b1 kb .byte n2 fb) (hlen : (4 : Int32) < (n2 >>> ((1 : Int32) &&& 31))) (hn0_ : (8 : Int32) < n2) (hn1_ : (9 : Int32) < n2) (hl_ : fb 8 = .int ((cx >>> ((0 : Int32) &&& 31)).toInt8.toInt32)) (hh_ : fb 9 = .int ((cx >>> ((8 : Int32) &&& 31)).toInt8.toInt32)) (hbx : 0 ≤ cx.toInt ∧ cx.toInt < 65536) (hsf : w_SIOOBE_FORMATTER.isRef = true) (hcs : ¬ (w_COMPACT_STRINGS = (0 : Int32))) : Ct l ⟨"java/lang/String", "charAt", "(I)C"⟩ jdk_42_method_56_code 2 (some .char) ⟨4, 0, 0, 53⟩ #[(.ref a1), (.int (4 : Int32))] Z h0 (fun v h L => v = some (.int cx) ∧ Fr n0 L ∧ h = h0) := by
  refine Ct.of "java/lang/String" rfl (plainFor_of_name pn_164) #[.val (.ref a1), .val (.int (4 : Int32))] rfl rfl ?_
  intro p e s m below meth c s₁ hx hby hml hown hnm hret hns hZ hh X0 e0
  refine Gk.aloadN X0 hx (hb hby d12_0) rfl rfl ?_
  refine Gk.callV (argsL := []) X0 hx hZ hown (il_1 l Z a0 h0 n0 hw a1 w_COMPACT_STRINGS Z0 S_COMPACT_STRINGS Fc1 hcs) (W hw 56 rfl) (W hw 57 rfl) (notFace_of_selects (args := #[]) (mvT hZ (W hw 59 rfl))) (W hw 59 rfl) (W hw 58 rfl) (by decide) (W hw 60 rfl) (W hw 10 rfl) e0 E_a1 pd_12 rfl rfl rfl (by rw [hml]; rfl) rfl (hb hby d12_1) ?_
  intro T1 L1 v1 X1 hQ1
  obtain ⟨rfl, N1q, e1⟩ := hQ1
  have N1 := Fr.app (Fr.nil n0) N1q
  show Go p e below (T1.setTop (mkF m 4 _ [(.int (0 : Int32))])) _
  refine Gk.ifYes X1 hx (hb hby d12_4) (teq (by decide : (0 : Int32) = (0 : Int32))).1 16 (by decide) (by decide) ?_
  refine Gk.aloadN X1 hx (hb hby d12_16) rfl rfl ?_
  refine Gk.getF X1 hx hZ hown (host := "") (Or.inl (W hw 35 rfl)) Via.refl e1 Fv1 (hb hby d12_17) ?_
  intro T2 X2 e2
  refine Gk.iloadN X2 hx (hb hby d12_20) rfl ?_
  refine Gk.callS (argsL := [(.ref b1), (.int (4 : Int32))]) X2 hx hZ hown (uca_4 l Z a0 h0 n0 hw b1 kb fb n2 cx w_SIOOBE_FORMATTER Z0 S_SIOOBE_FORMATTER S__assertionsDisabled S_HI_BYTE_SHIFT S_LO_BYTE_SHIFT V_b hlen hn0_ hn1_ hl_ hh_ hbx hsf) (W hw 98 rfl) (W hw 99 rfl) (W hw 24 rfl) (W hw 100 rfl) (by decide) e2 pd_5 rfl rfl rfl (by rw [hml]; rfl) rfl (hb hby d12_21) ?_
  intro T3 L3 v3 X3 hQ3
  obtain ⟨rfl, N3q, e3⟩ := hQ3
  have N3 := Fr.app N1 N3q
  show Go p e below (T3.setTop (mkF m 24 _ [(.int cx)])) _
  exact Gk.rN X3 hx hret (by simp) hns (hb hby d12_24) e3 (nar .char cx) rfl ⟨congrArg (fun z_ : Int32 => some (Value.int z_)) (show (nar .char cx) = cx from (own_narc hbx)), N3, rfl⟩
theorem d31_0 : decode jdk_29_method_65_code 0 = .ok (.iload_n 0, 1) := by decide +kernel
theorem d31_1 : decode jdk_29_method_65_code 1 = .ok (.iload_n 1, 1) := by decide +kernel
theorem d31_2 : decode jdk_29_method_65_code 2 = .ok (.if_icmp .lt 7, 3) := by decide +kernel
theorem d31_5 : decode jdk_29_method_65_code 5 = .ok (.iload_n 0, 1) := by decide +kernel
theorem d31_6 : decode jdk_29_method_65_code 6 = .ok (.goto 4, 3) := by decide +kernel
theorem d31_10 : decode jdk_29_method_65_code 10 = .ok (.ireturn, 1) := by decide +kernel
theorem mx (hw : HW Z a0) (Z0 : n0 ≤ h0.size) : Ct l ⟨"java/lang/Math", "max", "(II)I"⟩ jdk_29_method_65_code 2 (some .int) ⟨0, 0, 0, 0⟩ #[(.int (0 : Int32)), (.int (0 : Int32))] Z h0 (fun v h L => v = some (.int (0 : Int32)) ∧ Fr n0 L ∧ h = h0) := by
  refine Ct.of "java/lang/Math" rfl (Jvm.Free.JP.mathPlain rfl (by decide +kernel)) #[.val (.int (0 : Int32)), .val (.int (0 : Int32))] rfl rfl ?_
  intro p e s m below meth c s₁ hx hby hml hown hnm hret hns hZ hh X0 e0
  refine Gk.iloadN X0 hx (hb hby d31_0) rfl ?_
  refine Gk.iloadN X0 hx (hb hby d31_1) rfl ?_
  refine Gk.icmpNo X0 hx (hb hby d31_2) (flt (by decide : ¬ ((0 : Int32) < (0 : Int32)))).1 ?_
  refine Gk.iloadN X0 hx (hb hby d31_5) rfl ?_
  refine Gk.goto X0 hx (hb hby d31_6) 10 (by decide) (by decide) ?_
  exact Gk.rI X0 hx hret hns (hb hby d31_10) e0 ⟨rfl, (Fr.nil n0), rfl⟩
theorem d32_0 : decode jdk_29_method_69_code 0 = .ok (.iload_n 0, 1) := by decide +kernel
theorem d32_1 : decode jdk_29_method_69_code 1 = .ok (.iload_n 1, 1) := by decide +kernel
theorem d32_2 : decode jdk_29_method_69_code 2 = .ok (.if_icmp .gt 7, 3) := by decide +kernel
theorem d32_5 : decode jdk_29_method_69_code 5 = .ok (.iload_n 0, 1) := by decide +kernel
theorem d32_6 : decode jdk_29_method_69_code 6 = .ok (.goto 4, 3) := by decide +kernel
theorem d32_10 : decode jdk_29_method_69_code 10 = .ok (.ireturn, 1) := by decide +kernel
theorem mn22 (hw : HW Z a0) (Z0 : n0 ≤ h0.size) : Ct l ⟨"java/lang/Math", "min", "(II)I"⟩ jdk_29_method_69_code 2 (some .int) ⟨0, 0, 0, 0⟩ #[(.int (22 : Int32)), (.int (22 : Int32))] Z h0 (fun v h L => v = some (.int (22 : Int32)) ∧ Fr n0 L ∧ h = h0) := by
  refine Ct.of "java/lang/Math" rfl (Jvm.Free.JP.mathPlain rfl (by decide +kernel)) #[.val (.int (22 : Int32)), .val (.int (22 : Int32))] rfl rfl ?_
  intro p e s m below meth c s₁ hx hby hml hown hnm hret hns hZ hh X0 e0
  refine Gk.iloadN X0 hx (hb hby d32_0) rfl ?_
  refine Gk.iloadN X0 hx (hb hby d32_1) rfl ?_
  refine Gk.icmpNo X0 hx (hb hby d32_2) (flt (by decide : ¬ ((22 : Int32) < (22 : Int32)))).2.2.1 ?_
  refine Gk.iloadN X0 hx (hb hby d32_5) rfl ?_
  refine Gk.goto X0 hx (hb hby d32_6) 10 (by decide) (by decide) ?_
  exact Gk.rI X0 hx hret hns (hb hby d32_10) e0 ⟨rfl, (Fr.nil n0), rfl⟩
theorem d33_0 : decode jdk_43_method_23_code 0 = .ok (.iload_n 1, 1) := by decide +kernel
theorem d33_1 : decode jdk_43_method_23_code 1 = .ok (.i2b, 1) := by decide +kernel
theorem d33_2 : decode jdk_43_method_23_code 2 = .ok (.istore 4, 2) := by decide +kernel
theorem d33_4 : decode jdk_43_method_23_code 4 = .ok (.iload_n 2, 1) := by decide +kernel
theorem d33_5 : decode jdk_43_method_23_code 5 = .ok (.istore 5, 2) := by decide +kernel
theorem d33_7 : decode jdk_43_method_23_code 7 = .ok (.iload 5, 2) := by decide +kernel
theorem d33_9 : decode jdk_43_method_23_code 9 = .ok (.iload_n 3, 1) := by decide +kernel
theorem d33_10 : decode jdk_43_method_23_code 10 = .ok (.if_icmp .ge 21, 3) := by decide +kernel
theorem d33_13 : decode jdk_43_method_23_code 13 = .ok (.aload_n 0, 1) := by decide +kernel
theorem d33_14 : decode jdk_43_method_23_code 14 = .ok (.iload 5, 2) := by decide +kernel
theorem d33_16 : decode jdk_43_method_23_code 16 = .ok (.baload, 1) := by decide +kernel
theorem d33_17 : decode jdk_43_method_23_code 17 = .ok (.iload 4, 2) := by decide +kernel
theorem d33_19 : decode jdk_43_method_23_code 19 = .ok (.if_icmp .ne 6, 3) := by decide +kernel
theorem d33_22 : decode jdk_43_method_23_code 22 = .ok (.iload 5, 2) := by decide +kernel
theorem d33_24 : decode jdk_43_method_23_code 24 = .ok (.ireturn, 1) := by decide +kernel
theorem d33_25 : decode jdk_43_method_23_code 25 = .ok (.iinc 5 1, 3) := by decide +kernel
theorem d33_28 : decode jdk_43_method_23_code 28 = .ok (.goto (-21), 3) := by decide +kernel
theorem d33_31 : decode jdk_43_method_23_code 31 = .ok (.iconst (-1), 1) := by decide +kernel
theorem d33_32 : decode jdk_43_method_23_code 32 = .ok (.ireturn, 1) := by decide +kernel
theorem ioc (hw : HW Z a0) (a1 : Addr) (p2 : Int32) (kb : ClassId) (fb : Nat → Value) (Z0 : n0 ≤ h0.size) (V_b : Arf Z h0 a1 kb .byte (22 : Int32) fb) (hy0 : fb 0 = .int (48 : Int32)) (hy1 : fb 1 = .int (49 : Int32)) (hy2 : fb 2 = .int (50 : Int32)) (hy3 : fb 3 = .int (51 : Int32)) (hy4 : fb 4 = .int (52 : Int32)) (hy5 : fb 5 = .int (53 : Int32)) (hy6 : fb 6 = .int (54 : Int32)) (hy7 : fb 7 = .int (55 : Int32)) (hy8 : fb 8 = .int (56 : Int32)) (hy9 : fb 9 = .int (57 : Int32)) (hy10 : fb 10 = .int (65 : Int32)) (hy11 : fb 11 = .int (66 : Int32)) (hy12 : fb 12 = .int (67 : Int32)) (hy13 : fb 13 = .int (68 : Int32)) (hy14 : fb 14 = .int (69 : Int32)) (hy15 : fb 15 = .int (70 : Int32)) (hy16 : fb 16 = .int (97 : Int32)) (hy17 : fb 17 = .int (98 : Int32)) (hy18 : fb 18 = .int (99 : Int32)) (hy19 : fb 19 = .int (100 : Int32)) (hy20 : fb 20 = .int (101 : Int32)) (hy21 : fb 21 = .int (102 : Int32)) : Ct l ⟨"java/lang/StringLatin1", "indexOfChar", "([BIII)I"⟩ jdk_43_method_23_code 6 (some .int) ⟨0, 0, 0, 0⟩ #[(.ref a1), (.int p2), (.int (0 : Int32)), (.int (22 : Int32))] Z h0 (fun v h L => v = some (.int (idx22 (p2.toInt8.toInt32))) ∧ Fr n0 L ∧ h = h0) := by
  refine Ct.of "java/lang/StringLatin1" rfl (plainFor_of_name pn_341) #[.val (.ref a1), .val (.int p2), .val (.int (0 : Int32)), .val (.int (22 : Int32)), .unset, .unset] rfl rfl ?_
  intro p e s m below meth c s₁ hx hby hml hown hnm hret hns hZ hh X0 e0
  refine Gk.iloadN X0 hx (hb hby d33_0) rfl ?_
  refine Gk.i2b X0 hx (hb hby d33_1) _ rfl ?_
  refine Gk.istore X0 hx (hb hby d33_2) #[.val (.ref a1), .val (.int p2), .val (.int (0 : Int32)), .val (.int (22 : Int32)), .val (.int (p2.toInt8.toInt32)), .unset] rfl ?_
  refine Gk.iloadN X0 hx (hb hby d33_4) rfl ?_
  refine Gk.istore X0 hx (hb hby d33_5) #[.val (.ref a1), .val (.int p2), .val (.int (0 : Int32)), .val (.int (22 : Int32)), .val (.int (p2.toInt8.toInt32)), .val (.int (0 : Int32))] rfl ?_
  refine Gk.iload X0 hx (hb hby d33_7) rfl ?_
  refine Gk.iloadN X0 hx (hb hby d33_9) rfl ?_
  refine Gk.icmpNo X0 hx (hb hby d33_10) (tlt (by decide : (0 : Int32) < (22 : Int32))).2.1 ?_
  refine Gk.aloadN X0 hx (hb hby d33_13) rfl rfl ?_
  refine Gk.iload X0 hx (hb hby d33_14) rfl ?_
  refine Gk.baloadB X0 hx hZ e0 V_b ⟨by decide, by decide⟩ (.int (48 : Int32)) hy0 (hb hby d33_16) ?_
  refine Gk.iload X0 hx (hb hby d33_17) rfl ?_
  by_cases hc19 : (48 : Int32) = (p2.toInt8.toInt32)
  · refine Gk.icmpNo X0 hx (hb hby d33_19) (teq hc19).2 ?_
    refine Gk.iload X0 hx (hb hby d33_22) rfl ?_
    exact Gk.rI X0 hx hret hns (hb hby d33_24) e0 ⟨congrArg (fun z_ : Int32 => some (Value.int z_)) (show (0 : Int32) = (idx22 (p2.toInt8.toInt32)) from (by rw [idx22, if_pos hc19])), (Fr.nil n0), rfl⟩
  · refine Gk.icmpYes X0 hx (hb hby d33_19) (feq hc19).2 25 (by decide) (by decide) ?_
    refine Gk.iinc X0 hx (hb hby d33_25) rfl #[.val (.ref a1), .val (.int p2), .val (.int (0 : Int32)), .val (.int (22 : Int32)), .val (.int (p2.toInt8.toInt32)), .val (.int (1 : Int32))] rfl ?_
    refine Gk.goto X0 hx (hb hby d33_28) 7 (by decide) (by decide) ?_
    refine Gk.iload X0 hx (hb hby d33_7) rfl ?_
    refine Gk.iloadN X0 hx (hb hby d33_9) rfl ?_
    refine Gk.icmpNo X0 hx (hb hby d33_10) (tlt (by decide : (1 : Int32) < (22 : Int32))).2.1 ?_
    refine Gk.aloadN X0 hx (hb hby d33_13) rfl rfl ?_
    refine Gk.iload X0 hx (hb hby d33_14) rfl ?_
    refine Gk.baloadB X0 hx hZ e0 V_b ⟨by decide, by decide⟩ (.int (49 : Int32)) hy1 (hb hby d33_16) ?_
    refine Gk.iload X0 hx (hb hby d33_17) rfl ?_
    by_cases hc19_1 : (49 : Int32) = (p2.toInt8.toInt32)
    · refine Gk.icmpNo X0 hx (hb hby d33_19) (teq hc19_1).2 ?_
      refine Gk.iload X0 hx (hb hby d33_22) rfl ?_
      exact Gk.rI X0 hx hret hns (hb hby d33_24) e0 ⟨congrArg (fun z_ : Int32 => some (Value.int z_)) (show (1 : Int32) = (idx22 (p2.toInt8.toInt32)) from (by rw [idx22, if_neg hc19, if_pos hc19_1])), (Fr.nil n0), rfl⟩
    · refine Gk.icmpYes X0 hx (hb hby d33_19) (feq hc19_1).2 25 (by decide) (by decide) ?_
      refine Gk.iinc X0 hx (hb hby d33_25) rfl #[.val (.ref a1), .val (.int p2), .val (.int (0 : Int32)), .val (.int (22 : Int32)), .val (.int (p2.toInt8.toInt32)), .val (.int (2 : Int32))] rfl ?_
      refine Gk.goto X0 hx (hb hby d33_28) 7 (by decide) (by decide) ?_
      refine Gk.iload X0 hx (hb hby d33_7) rfl ?_
      refine Gk.iloadN X0 hx (hb hby d33_9) rfl ?_
      refine Gk.icmpNo X0 hx (hb hby d33_10) (tlt (by decide : (2 : Int32) < (22 : Int32))).2.1 ?_
      refine Gk.aloadN X0 hx (hb hby d33_13) rfl rfl ?_
      refine Gk.iload X0 hx (hb hby d33_14) rfl ?_
      refine Gk.baloadB X0 hx hZ e0 V_b ⟨by decide, by decide⟩ (.int (50 : Int32)) hy2 (hb hby d33_16) ?_
      refine Gk.iload X0 hx (hb hby d33_17) rfl ?_
      by_cases hc19_2 : (50 : Int32) = (p2.toInt8.toInt32)
      · refine Gk.icmpNo X0 hx (hb hby d33_19) (teq hc19_2).2 ?_
        refine Gk.iload X0 hx (hb hby d33_22) rfl ?_
        exact Gk.rI X0 hx hret hns (hb hby d33_24) e0 ⟨congrArg (fun z_ : Int32 => some (Value.int z_)) (show (2 : Int32) = (idx22 (p2.toInt8.toInt32)) from (by rw [idx22, if_neg hc19, if_neg hc19_1, if_pos hc19_2])), (Fr.nil n0), rfl⟩
      · refine Gk.icmpYes X0 hx (hb hby d33_19) (feq hc19_2).2 25 (by decide) (by decide) ?_
        refine Gk.iinc X0 hx (hb hby d33_25) rfl #[.val (.ref a1), .val (.int p2), .val (.int (0 : Int32)), .val (.int (22 : Int32)), .val (.int (p2.toInt8.toInt32)), .val (.int (3 : Int32))] rfl ?_
        refine Gk.goto X0 hx (hb hby d33_28) 7 (by decide) (by decide) ?_
        refine Gk.iload X0 hx (hb hby d33_7) rfl ?_
        refine Gk.iloadN X0 hx (hb hby d33_9) rfl ?_
        refine Gk.icmpNo X0 hx (hb hby d33_10) (tlt (by decide : (3 : Int32) < (22 : Int32))).2.1 ?_
        refine Gk.aloadN X0 hx (hb hby d33_13) rfl rfl ?_
        refine Gk.iload X0 hx (hb hby d33_14) rfl ?_
        refine Gk.baloadB X0 hx hZ e0 V_b ⟨by decide, by decide⟩ (.int (51 : Int32)) hy3 (hb hby d33_16) ?_
        refine Gk.iload X0 hx (hb hby d33_17) rfl ?_
        by_cases hc19_3 : (51 : Int32) = (p2.toInt8.toInt32)
        · refine Gk.icmpNo X0 hx (hb hby d33_19) (teq hc19_3).2 ?_
          refine Gk.iload X0 hx (hb hby d33_22) rfl ?_
          exact Gk.rI X0 hx hret hns (hb hby d33_24) e0 ⟨congrArg (fun z_ : Int32 => some (Value.int z_)) (show (3 : Int32) = (idx22 (p2.toInt8.toInt32)) from (by rw [idx22, if_neg hc19, if_neg hc19_1, if_neg hc19_2, if_pos hc19_3])), (Fr.nil n0), rfl⟩
        · refine Gk.icmpYes X0 hx (hb hby d33_19) (feq hc19_3).2 25 (by decide) (by decide) ?_
          refine Gk.iinc X0 hx (hb hby d33_25) rfl #[.val (.ref a1), .val (.int p2), .val (.int (0 : Int32)), .val (.int (22 : Int32)), .val (.int (p2.toInt8.toInt32)), .val (.int (4 : Int32))] rfl ?_
          refine Gk.goto X0 hx (hb hby d33_28) 7 (by decide) (by decide) ?_
          refine Gk.iload X0 hx (hb hby d33_7) rfl ?_
          refine Gk.iloadN X0 hx (hb hby d33_9) rfl ?_
          refine Gk.icmpNo X0 hx (hb hby d33_10) (tlt (by decide : (4 : Int32) < (22 : Int32))).2.1 ?_
          refine Gk.aloadN X0 hx (hb hby d33_13) rfl rfl ?_
          refine Gk.iload X0 hx (hb hby d33_14) rfl ?_
          refine Gk.baloadB X0 hx hZ e0 V_b ⟨by decide, by decide⟩ (.int (52 : Int32)) hy4 (hb hby d33_16) ?_
          refine Gk.iload X0 hx (hb hby d33_17) rfl ?_
          by_cases hc19_4 : (52 : Int32) = (p2.toInt8.toInt32)
          · refine Gk.icmpNo X0 hx (hb hby d33_19) (teq hc19_4).2 ?_
            refine Gk.iload X0 hx (hb hby d33_22) rfl ?_
            exact Gk.rI X0 hx hret hns (hb hby d33_24) e0 ⟨congrArg (fun z_ : Int32 => some (Value.int z_)) (show (4 : Int32) = (idx22 (p2.toInt8.toInt32)) from (by rw [idx22, if_neg hc19, if_neg hc19_1, if_neg hc19_2, if_neg hc19_3, if_pos hc19_4])), (Fr.nil n0), rfl⟩
          · refine Gk.icmpYes X0 hx (hb hby d33_19) (feq hc19_4).2 25 (by decide) (by decide) ?_
            refine Gk.iinc X0 hx (hb hby d33_25) rfl #[.val (.ref a1), .val (.int p2), .val (.int (0 : Int32)), .val (.int (22 : Int32)), .val (.int (p2.toInt8.toInt32)), .val (.int (5 : Int32))] rfl ?_
            refine Gk.goto X0 hx (hb hby d33_28) 7 (by decide) (by decide) ?_
            refine Gk.iload X0 hx (hb hby d33_7) rfl ?_
            refine Gk.iloadN X0 hx (hb hby d33_9) rfl ?_
            refine Gk.icmpNo X0 hx (hb hby d33_10) (tlt (by decide : (5 : Int32) < (22 : Int32))).2.1 ?_
            refine Gk.aloadN X0 hx (hb hby d33_13) rfl rfl ?_
            refine Gk.iload X0 hx (hb hby d33_14) rfl ?_
            refine Gk.baloadB X0 hx hZ e0 V_b ⟨by decide, by decide⟩ (.int (53 : Int32)) hy5 (hb hby d33_16) ?_
            refine Gk.iload X0 hx (hb hby d33_17) rfl ?_
            by_cases hc19_5 : (53 : Int32) = (p2.toInt8.toInt32)
            · refine Gk.icmpNo X0 hx (hb hby d33_19) (teq hc19_5).2 ?_
              refine Gk.iload X0 hx (hb hby d33_22) rfl ?_
              exact Gk.rI X0 hx hret hns (hb hby d33_24) e0 ⟨congrArg (fun z_ : Int32 => some (Value.int z_)) (show (5 : Int32) = (idx22 (p2.toInt8.toInt32)) from (by rw [idx22, if_neg hc19, if_neg hc19_1, if_neg hc19_2, if_neg hc19_3, if_neg hc19_4, if_pos hc19_5])), (Fr.nil n0), rfl⟩
            · refine Gk.icmpYes X0 hx (hb hby d33_19) (feq hc19_5).2 25 (by decide) (by decide) ?_
              refine Gk.iinc X0 hx (hb hby d33_25) rfl #[.val (.ref a1), .val (.int p2), .val (.int (0 : Int32)), .val (.int (22 : Int32)), .val (.int (p2.toInt8.toInt32)), .val (.int (6 : Int32))] rfl ?_
              refine Gk.goto X0 hx (hb hby d33_28) 7 (by decide) (by decide) ?_
              refine Gk.iload X0 hx (hb hby d33_7) rfl ?_
              refine Gk.iloadN X0 hx (hb hby d33_9) rfl ?_
              refine Gk.icmpNo X0 hx (hb hby d33_10) (tlt (by decide : (6 : Int32) < (22 : Int32))).2.1 ?_
              refine Gk.aloadN X0 hx (hb hby d33_13) rfl rfl ?_
              refine Gk.iload X0 hx (hb hby d33_14) rfl ?_
              refine Gk.baloadB X0 hx hZ e0 V_b ⟨by decide, by decide⟩ (.int (54 : Int32)) hy6 (hb hby d33_16) ?_
              refine Gk.iload X0 hx (hb hby d33_17) rfl ?_
              by_cases hc19_6 : (54 : Int32) = (p2.toInt8.toInt32)
              · refine Gk.icmpNo X0 hx (hb hby d33_19) (teq hc19_6).2 ?_
                refine Gk.iload X0 hx (hb hby d33_22) rfl ?_
                exact Gk.rI X0 hx hret hns (hb hby d33_24) e0 ⟨congrArg (fun z_ : Int32 => some (Value.int z_)) (show (6 : Int32) = (idx22 (p2.toInt8.toInt32)) from (by rw [idx22, if_neg hc19, if_neg hc19_1, if_neg hc19_2, if_neg hc19_3, if_neg hc19_4, if_neg hc19_5, if_pos hc19_6])), (Fr.nil n0), rfl⟩
              · refine Gk.icmpYes X0 hx (hb hby d33_19) (feq hc19_6).2 25 (by decide) (by decide) ?_
                refine Gk.iinc X0 hx (hb hby d33_25) rfl #[.val (.ref a1), .val (.int p2), .val (.int (0 : Int32)), .val (.int (22 : Int32)), .val (.int (p2.toInt8.toInt32)), .val (.int (7 : Int32))] rfl ?_
                refine Gk.goto X0 hx (hb hby d33_28) 7 (by decide) (by decide) ?_
                refine Gk.iload X0 hx (hb hby d33_7) rfl ?_
                refine Gk.iloadN X0 hx (hb hby d33_9) rfl ?_
                refine Gk.icmpNo X0 hx (hb hby d33_10) (tlt (by decide : (7 : Int32) < (22 : Int32))).2.1 ?_
                refine Gk.aloadN X0 hx (hb hby d33_13) rfl rfl ?_
                refine Gk.iload X0 hx (hb hby d33_14) rfl ?_
                refine Gk.baloadB X0 hx hZ e0 V_b ⟨by decide, by decide⟩ (.int (55 : Int32)) hy7 (hb hby d33_16) ?_
                refine Gk.iload X0 hx (hb hby d33_17) rfl ?_
                by_cases hc19_7 : (55 : Int32) = (p2.toInt8.toInt32)
                · refine Gk.icmpNo X0 hx (hb hby d33_19) (teq hc19_7).2 ?_
                  refine Gk.iload X0 hx (hb hby d33_22) rfl ?_
                  exact Gk.rI X0 hx hret hns (hb hby d33_24) e0 ⟨congrArg (fun z_ : Int32 => some (Value.int z_)) (show (7 : Int32) = (idx22 (p2.toInt8.toInt32)) from (by rw [idx22, if_neg hc19, if_neg hc19_1, if_neg hc19_2, if_neg hc19_3, if_neg hc19_4, if_neg hc19_5, if_neg hc19_6, if_pos hc19_7])), (Fr.nil n0), rfl⟩
                · refine Gk.icmpYes X0 hx (hb hby d33_19) (feq hc19_7).2 25 (by decide) (by decide) ?_
                  refine Gk.iinc X0 hx (hb hby d33_25) rfl #[.val (.ref a1), .val (.int p2), .val (.int (0 : Int32)), .val (.int (22 : Int32)), .val (.int (p2.toInt8.toInt32)), .val (.int (8 : Int32))] rfl ?_
                  refine Gk.goto X0 hx (hb hby d33_28) 7 (by decide) (by decide) ?_
                  refine Gk.iload X0 hx (hb hby d33_7) rfl ?_
                  refine Gk.iloadN X0 hx (hb hby d33_9) rfl ?_
                  refine Gk.icmpNo X0 hx (hb hby d33_10) (tlt (by decide : (8 : Int32) < (22 : Int32))).2.1 ?_
                  refine Gk.aloadN X0 hx (hb hby d33_13) rfl rfl ?_
                  refine Gk.iload X0 hx (hb hby d33_14) rfl ?_
                  refine Gk.baloadB X0 hx hZ e0 V_b ⟨by decide, by decide⟩ (.int (56 : Int32)) hy8 (hb hby d33_16) ?_
                  refine Gk.iload X0 hx (hb hby d33_17) rfl ?_
                  by_cases hc19_8 : (56 : Int32) = (p2.toInt8.toInt32)
                  · refine Gk.icmpNo X0 hx (hb hby d33_19) (teq hc19_8).2 ?_
                    refine Gk.iload X0 hx (hb hby d33_22) rfl ?_
                    exact Gk.rI X0 hx hret hns (hb hby d33_24) e0 ⟨congrArg (fun z_ : Int32 => some (Value.int z_)) (show (8 : Int32) = (idx22 (p2.toInt8.toInt32)) from (by rw [idx22, if_neg hc19, if_neg hc19_1, if_neg hc19_2, if_neg hc19_3, if_neg hc19_4, if_neg hc19_5, if_neg hc19_6, if_neg hc19_7, if_pos hc19_8])), (Fr.nil n0), rfl⟩
                  · refine Gk.icmpYes X0 hx (hb hby d33_19) (feq hc19_8).2 25 (by decide) (by decide) ?_
                    refine Gk.iinc X0 hx (hb hby d33_25) rfl #[.val (.ref a1), .val (.int p2), .val (.int (0 : Int32)), .val (.int (22 : Int32)), .val (.int (p2.toInt8.toInt32)), .val (.int (9 : Int32))] rfl ?_
                    refine Gk.goto X0 hx (hb hby d33_28) 7 (by decide) (by decide) ?_
                    refine Gk.iload X0 hx (hb hby d33_7) rfl ?_
                    refine Gk.iloadN X0 hx (hb hby d33_9) rfl ?_
                    refine Gk.icmpNo X0 hx (hb hby d33_10) (tlt (by decide : (9 : Int32) < (22 : Int32))).2.1 ?_
                    refine Gk.aloadN X0 hx (hb hby d33_13) rfl rfl ?_
                    refine Gk.iload X0 hx (hb hby d33_14) rfl ?_
                    refine Gk.baloadB X0 hx hZ e0 V_b ⟨by decide, by decide⟩ (.int (57 : Int32)) hy9 (hb hby d33_16) ?_
                    refine Gk.iload X0 hx (hb hby d33_17) rfl ?_
                    by_cases hc19_9 : (57 : Int32) = (p2.toInt8.toInt32)
                    · refine Gk.icmpNo X0 hx (hb hby d33_19) (teq hc19_9).2 ?_
                      refine Gk.iload X0 hx (hb hby d33_22) rfl ?_
                      exact Gk.rI X0 hx hret hns (hb hby d33_24) e0 ⟨congrArg (fun z_ : Int32 => some (Value.int z_)) (show (9 : Int32) = (idx22 (p2.toInt8.toInt32)) from (by rw [idx22, if_neg hc19, if_neg hc19_1, if_neg hc19_2, if_neg hc19_3, if_neg hc19_4, if_neg hc19_5, if_neg hc19_6, if_neg hc19_7, if_neg hc19_8, if_pos hc19_9])), (Fr.nil n0), rfl⟩
                    · refine Gk.icmpYes X0 hx (hb hby d33_19) (feq hc19_9).2 25 (by decide) (by decide) ?_
                      refine Gk.iinc X0 hx (hb hby d33_25) rfl #[.val (.ref a1), .val (.int p2), .val (.int (0 : Int32)), .val (.int (22 : Int32)), .val (.int (p2.toInt8.toInt32)), .val (.int (10 : Int32))] rfl ?_
                      refine Gk.goto X0 hx (hb hby d33_28) 7 (by decide) (by decide) ?_
                      refine Gk.iload X0 hx (hb hby d33_7) rfl ?_
                      refine Gk.iloadN X0 hx (hb hby d33_9) rfl ?_
                      refine Gk.icmpNo X0 hx (hb hby d33_10) (tlt (by decide : (10 : Int32) < (22 : Int32))).2.1 ?_
                      refine Gk.aloadN X0 hx (hb hby d33_13) rfl rfl ?_
                      refine Gk.iload X0 hx (hb hby d33_14) rfl ?_
                      refine Gk.baloadB X0 hx hZ e0 V_b ⟨by decide, by decide⟩ (.int (65 : Int32)) hy10 (hb hby d33_16) ?_
                      refine Gk.iload X0 hx (hb hby d33_17) rfl ?_
                      by_cases hc19_10 : (65 : Int32) = (p2.toInt8.toInt32)
                      · refine Gk.icmpNo X0 hx (hb hby d33_19) (teq hc19_10).2 ?_
                        refine Gk.iload X0 hx (hb hby d33_22) rfl ?_
                        exact Gk.rI X0 hx hret hns (hb hby d33_24) e0 ⟨congrArg (fun z_ : Int32 => some (Value.int z_)) (show (10 : Int32) = (idx22 (p2.toInt8.toInt32)) from (by rw [idx22, if_neg hc19, if_neg hc19_1, if_neg hc19_2, if_neg hc19_3, if_neg hc19_4, if_neg hc19_5, if_neg hc19_6, if_neg hc19_7, if_neg hc19_8, if_neg hc19_9, if_pos hc19_10])), (Fr.nil n0), rfl⟩
                      · refine Gk.icmpYes X0 hx (hb hby d33_19) (feq hc19_10).2 25 (by decide) (by decide) ?_
                        refine Gk.iinc X0 hx (hb hby d33_25) rfl #[.val (.ref a1), .val (.int p2), .val (.int (0 : Int32)), .val (.int (22 : Int32)), .val (.int (p2.toInt8.toInt32)), .val (.int (11 : Int32))] rfl ?_
                        refine Gk.goto X0 hx (hb hby d33_28) 7 (by decide) (by decide) ?_
                        refine Gk.iload X0 hx (hb hby d33_7) rfl ?_
                        refine Gk.iloadN X0 hx (hb hby d33_9) rfl ?_
                        refine Gk.icmpNo X0 hx (hb hby d33_10) (tlt (by decide : (11 : Int32) < (22 : Int32))).2.1 ?_
                        refine Gk.aloadN X0 hx (hb hby d33_13) rfl rfl ?_
                        refine Gk.iload X0 hx (hb hby d33_14) rfl ?_
                        refine Gk.baloadB X0 hx hZ e0 V_b ⟨by decide, by decide⟩ (.int (66 : Int32)) hy11 (hb hby d33_16) ?_
                        refine Gk.iload X0 hx (hb hby d33_17) rfl ?_
                        by_cases hc19_11 : (66 : Int32) = (p2.toInt8.toInt32)
                        · refine Gk.icmpNo X0 hx (hb hby d33_19) (teq hc19_11).2 ?_
                          refine Gk.iload X0 hx (hb hby d33_22) rfl ?_
                          exact Gk.rI X0 hx hret hns (hb hby d33_24) e0 ⟨congrArg (fun z_ : Int32 => some (Value.int z_)) (show (11 : Int32) = (idx22 (p2.toInt8.toInt32)) from (by rw [idx22, if_neg hc19, if_neg hc19_1, if_neg hc19_2, if_neg hc19_3, if_neg hc19_4, if_neg hc19_5, if_neg hc19_6, if_neg hc19_7, if_neg hc19_8, if_neg hc19_9, if_neg hc19_10, if_pos hc19_11])), (Fr.nil n0), rfl⟩
                        · refine Gk.icmpYes X0 hx (hb hby d33_19) (feq hc19_11).2 25 (by decide) (by decide) ?_
                          refine Gk.iinc X0 hx (hb hby d33_25) rfl #[.val (.ref a1), .val (.int p2), .val (.int (0 : Int32)), .val (.int (22 : Int32)), .val (.int (p2.toInt8.toInt32)), .val (.int (12 : Int32))] rfl ?_
                          refine Gk.goto X0 hx (hb hby d33_28) 7 (by decide) (by decide) ?_
                          refine Gk.iload X0 hx (hb hby d33_7) rfl ?_
                          refine Gk.iloadN X0 hx (hb hby d33_9) rfl ?_
                          refine Gk.icmpNo X0 hx (hb hby d33_10) (tlt (by decide : (12 : Int32) < (22 : Int32))).2.1 ?_
                          refine Gk.aloadN X0 hx (hb hby d33_13) rfl rfl ?_
                          refine Gk.iload X0 hx (hb hby d33_14) rfl ?_
                          refine Gk.baloadB X0 hx hZ e0 V_b ⟨by decide, by decide⟩ (.int (67 : Int32)) hy12 (hb hby d33_16) ?_
                          refine Gk.iload X0 hx (hb hby d33_17) rfl ?_
                          by_cases hc19_12 : (67 : Int32) = (p2.toInt8.toInt32)
                          · refine Gk.icmpNo X0 hx (hb hby d33_19) (teq hc19_12).2 ?_
                            refine Gk.iload X0 hx (hb hby d33_22) rfl ?_
                            exact Gk.rI X0 hx hret hns (hb hby d33_24) e0 ⟨congrArg (fun z_ : Int32 => some (Value.int z_)) (show (12 : Int32) = (idx22 (p2.toInt8.toInt32)) from (by rw [idx22, if_neg hc19, if_neg hc19_1, if_neg hc19_2, if_neg hc19_3, if_neg hc19_4, if_neg hc19_5, if_neg hc19_6, if_neg hc19_7, if_neg hc19_8, if_neg hc19_9, if_neg hc19_10, if_neg hc19_11, if_pos hc19_12])), (Fr.nil n0), rfl⟩
                          · refine Gk.icmpYes X0 hx (hb hby d33_19) (feq hc19_12).2 25 (by decide) (by decide) ?_
                            refine Gk.iinc X0 hx (hb hby d33_25) rfl #[.val (.ref a1), .val (.int p2), .val (.int (0 : Int32)), .val (.int (22 : Int32)), .val (.int (p2.toInt8.toInt32)), .val (.int (13 : Int32))] rfl ?_
                            refine Gk.goto X0 hx (hb hby d33_28) 7 (by decide) (by decide) ?_
                            refine Gk.iload X0 hx (hb hby d33_7) rfl ?_
                            refine Gk.iloadN X0 hx (hb hby d33_9) rfl ?_
                            refine Gk.icmpNo X0 hx (hb hby d33_10) (tlt (by decide : (13 : Int32) < (22 : Int32))).2.1 ?_
                            refine Gk.aloadN X0 hx (hb hby d33_13) rfl rfl ?_
                            refine Gk.iload X0 hx (hb hby d33_14) rfl ?_
                            refine Gk.baloadB X0 hx hZ e0 V_b ⟨by decide, by decide⟩ (.int (68 : Int32)) hy13 (hb hby d33_16) ?_
                            refine Gk.iload X0 hx (hb hby d33_17) rfl ?_
                            by_cases hc19_13 : (68 : Int32) = (p2.toInt8.toInt32)
                            · refine Gk.icmpNo X0 hx (hb hby d33_19) (teq hc19_13).2 ?_
                              refine Gk.iload X0 hx (hb hby d33_22) rfl ?_
                              exact Gk.rI X0 hx hret hns (hb hby d33_24) e0 ⟨congrArg (fun z_ : Int32 => some (Value.int z_)) (show (13 : Int32) = (idx22 (p2.toInt8.toInt32)) from (by rw [idx22, if_neg hc19, if_neg hc19_1, if_neg hc19_2, if_neg hc19_3, if_neg hc19_4, if_neg hc19_5, if_neg hc19_6, if_neg hc19_7, if_neg hc19_8, if_neg hc19_9, if_neg hc19_10, if_neg hc19_11, if_neg hc19_12, if_pos hc19_13])), (Fr.nil n0), rfl⟩
                            · refine Gk.icmpYes X0 hx (hb hby d33_19) (feq hc19_13).2 25 (by decide) (by decide) ?_
                              refine Gk.iinc X0 hx (hb hby d33_25) rfl #[.val (.ref a1), .val (.int p2), .val (.int (0 : Int32)), .val (.int (22 : Int32)), .val (.int (p2.toInt8.toInt32)), .val (.int (14 : Int32))] rfl ?_
                              refine Gk.goto X0 hx (hb hby d33_28) 7 (by decide) (by decide) ?_
                              refine Gk.iload X0 hx (hb hby d33_7) rfl ?_
                              refine Gk.iloadN X0 hx (hb hby d33_9) rfl ?_
                              refine Gk.icmpNo X0 hx (hb hby d33_10) (tlt (by decide : (14 : Int32) < (22 : Int32))).2.1 ?_
                              refine Gk.aloadN X0 hx (hb hby d33_13) rfl rfl ?_
                              refine Gk.iload X0 hx (hb hby d33_14) rfl ?_
                              refine Gk.baloadB X0 hx hZ e0 V_b ⟨by decide, by decide⟩ (.int (69 : Int32)) hy14 (hb hby d33_16) ?_
                              refine Gk.iload X0 hx (hb hby d33_17) rfl ?_
                              by_cases hc19_14 : (69 : Int32) = (p2.toInt8.toInt32)
                              · refine Gk.icmpNo X0 hx (hb hby d33_19) (teq hc19_14).2 ?_
                                refine Gk.iload X0 hx (hb hby d33_22) rfl ?_
                                exact Gk.rI X0 hx hret hns (hb hby d33_24) e0 ⟨congrArg (fun z_ : Int32 => some (Value.int z_)) (show (14 : Int32) = (idx22 (p2.toInt8.toInt32)) from (by rw [idx22, if_neg hc19, if_neg hc19_1, if_neg hc19_2, if_neg hc19_3, if_neg hc19_4, if_neg hc19_5, if_neg hc19_6, if_neg hc19_7, if_neg hc19_8, if_neg hc19_9, if_neg hc19_10, if_neg hc19_11, if_neg hc19_12, if_neg hc19_13, if_pos hc19_14])), (Fr.nil n0), rfl⟩
                              · refine Gk.icmpYes X0 hx (hb hby d33_19) (feq hc19_14).2 25 (by decide) (by decide) ?_
                                refine Gk.iinc X0 hx (hb hby d33_25) rfl #[.val (.ref a1), .val (.int p2), .val (.int (0 : Int32)), .val (.int (22 : Int32)), .val (.int (p2.toInt8.toInt32)), .val (.int (15 : Int32))] rfl ?_
                                refine Gk.goto X0 hx (hb hby d33_28) 7 (by decide) (by decide) ?_
                                refine Gk.iload X0 hx (hb hby d33_7) rfl ?_
                                refine Gk.iloadN X0 hx (hb hby d33_9) rfl ?_
                                refine Gk.icmpNo X0 hx (hb hby d33_10) (tlt (by decide : (15 : Int32) < (22 : Int32))).2.1 ?_
                                refine Gk.aloadN X0 hx (hb hby d33_13) rfl rfl ?_
                                refine Gk.iload X0 hx (hb hby d33_14) rfl ?_
                                refine Gk.baloadB X0 hx hZ e0 V_b ⟨by decide, by decide⟩ (.int (70 : Int32)) hy15 (hb hby d33_16) ?_
                                refine Gk.iload X0 hx (hb hby d33_17) rfl ?_
                                by_cases hc19_15 : (70 : Int32) = (p2.toInt8.toInt32)
                                · refine Gk.icmpNo X0 hx (hb hby d33_19) (teq hc19_15).2 ?_
                                  refine Gk.iload X0 hx (hb hby d33_22) rfl ?_
                                  exact Gk.rI X0 hx hret hns (hb hby d33_24) e0 ⟨congrArg (fun z_ : Int32 => some (Value.int z_)) (show (15 : Int32) = (idx22 (p2.toInt8.toInt32)) from (by rw [idx22, if_neg hc19, if_neg hc19_1, if_neg hc19_2, if_neg hc19_3, if_neg hc19_4, if_neg hc19_5, if_neg hc19_6, if_neg hc19_7, if_neg hc19_8, if_neg hc19_9, if_neg hc19_10, if_neg hc19_11, if_neg hc19_12, if_neg hc19_13, if_neg hc19_14, if_pos hc19_15])), (Fr.nil n0), rfl⟩
                                · refine Gk.icmpYes X0 hx (hb hby d33_19) (feq hc19_15).2 25 (by decide) (by decide) ?_
                                  refine Gk.iinc X0 hx (hb hby d33_25) rfl #[.val (.ref a1), .val (.int p2), .val (.int (0 : Int32)), .val (.int (22 : Int32)), .val (.int (p2.toInt8.toInt32)), .val (.int (16 : Int32))] rfl ?_
                                  refine Gk.goto X0 hx (hb hby d33_28) 7 (by decide) (by decide) ?_
                                  refine Gk.iload X0 hx (hb hby d33_7) rfl ?_
                                  refine Gk.iloadN X0 hx (hb hby d33_9) rfl ?_
                                  refine Gk.icmpNo X0 hx (hb hby d33_10) (tlt (by decide : (16 : Int32) < (22 : Int32))).2.1 ?_
                                  refine Gk.aloadN X0 hx (hb hby d33_13) rfl rfl ?_
                                  refine Gk.iload X0 hx (hb hby d33_14) rfl ?_
                                  refine Gk.baloadB X0 hx hZ e0 V_b ⟨by decide, by decide⟩ (.int (97 : Int32)) hy16 (hb hby d33_16) ?_
                                  refine Gk.iload X0 hx (hb hby d33_17) rfl ?_
                                  by_cases hc19_16 : (97 : Int32) = (p2.toInt8.toInt32)
                                  · refine Gk.icmpNo X0 hx (hb hby d33_19) (teq hc19_16).2 ?_
                                    refine Gk.iload X0 hx (hb hby d33_22) rfl ?_
                                    exact Gk.rI X0 hx hret hns (hb hby d33_24) e0 ⟨congrArg (fun z_ : Int32 => some (Value.int z_)) (show (16 : Int32) = (idx22 (p2.toInt8.toInt32)) from (by rw [idx22, if_neg hc19, if_neg hc19_1, if_neg hc19_2, if_neg hc19_3, if_neg hc19_4, if_neg hc19_5, if_neg hc19_6, if_neg hc19_7, if_neg hc19_8, if_neg hc19_9, if_neg hc19_10, if_neg hc19_11, if_neg hc19_12, if_neg hc19_13, if_neg hc19_14, if_neg hc19_15, if_pos hc19_16])), (Fr.nil n0), rfl⟩
                                  · refine Gk.icmpYes X0 hx (hb hby d33_19) (feq hc19_16).2 25 (by decide) (by decide) ?_
                                    refine Gk.iinc X0 hx (hb hby d33_25) rfl #[.val (.ref a1), .val (.int p2), .val (.int (0 : Int32)), .val (.int (22 : Int32)), .val (.int (p2.toInt8.toInt32)), .val (.int (17 : Int32))] rfl ?_
                                    refine Gk.goto X0 hx (hb hby d33_28) 7 (by decide) (by decide) ?_
                                    refine Gk.iload X0 hx (hb hby d33_7) rfl ?_
                                    refine Gk.iloadN X0 hx (hb hby d33_9) rfl ?_
                                    refine Gk.icmpNo X0 hx (hb hby d33_10) (tlt (by decide : (17 : Int32) < (22 : Int32))).2.1 ?_
                                    refine Gk.aloadN X0 hx (hb hby d33_13) rfl rfl ?_
                                    refine Gk.iload X0 hx (hb hby d33_14) rfl ?_
                                    refine Gk.baloadB X0 hx hZ e0 V_b ⟨by decide, by decide⟩ (.int (98 : Int32)) hy17 (hb hby d33_16) ?_
                                    refine Gk.iload X0 hx (hb hby d33_17) rfl ?_
                                    by_cases hc19_17 : (98 : Int32) = (p2.toInt8.toInt32)
                                    · refine Gk.icmpNo X0 hx (hb hby d33_19) (teq hc19_17).2 ?_
                                      refine Gk.iload X0 hx (hb hby d33_22) rfl ?_
                                      exact Gk.rI X0 hx hret hns (hb hby d33_24) e0 ⟨congrArg (fun z_ : Int32 => some (Value.int z_)) (show (17 : Int32) = (idx22 (p2.toInt8.toInt32)) from (by rw [idx22, if_neg hc19, if_neg hc19_1, if_neg hc19_2, if_neg hc19_3, if_neg hc19_4, if_neg hc19_5, if_neg hc19_6, if_neg hc19_7, if_neg hc19_8, if_neg hc19_9, if_neg hc19_10, if_neg hc19_11, if_neg hc19_12, if_neg hc19_13, if_neg hc19_14, if_neg hc19_15, if_neg hc19_16, if_pos hc19_17])), (Fr.nil n0), rfl⟩
                                    · refine Gk.icmpYes X0 hx (hb hby d33_19) (feq hc19_17).2 25 (by decide) (by decide) ?_
                                      refine Gk.iinc X0 hx (hb hby d33_25) rfl #[.val (.ref a1), .val (.int p2), .val (.int (0 : Int32)), .val (.int (22 : Int32)), .val (.int (p2.toInt8.toInt32)), .val (.int (18 : Int32))] rfl ?_
                                      refine Gk.goto X0 hx (hb hby d33_28) 7 (by decide) (by decide) ?_
                                      refine Gk.iload X0 hx (hb hby d33_7) rfl ?_
                                      refine Gk.iloadN X0 hx (hb hby d33_9) rfl ?_
                                      refine Gk.icmpNo X0 hx (hb hby d33_10) (tlt (by decide : (18 : Int32) < (22 : Int32))).2.1 ?_
                                      refine Gk.aloadN X0 hx (hb hby d33_13) rfl rfl ?_
                                      refine Gk.iload X0 hx (hb hby d33_14) rfl ?_
                                      refine Gk.baloadB X0 hx hZ e0 V_b ⟨by decide, by decide⟩ (.int (99 : Int32)) hy18 (hb hby d33_16) ?_
                                      refine Gk.iload X0 hx (hb hby d33_17) rfl ?_
                                      by_cases hc19_18 : (99 : Int32) = (p2.toInt8.toInt32)
                                      · refine Gk.icmpNo X0 hx (hb hby d33_19) (teq hc19_18).2 ?_
                                        refine Gk.iload X0 hx (hb hby d33_22) rfl ?_
                                        exact Gk.rI X0 hx hret hns (hb hby d33_24) e0 ⟨congrArg (fun z_ : Int32 => some (Value.int z_)) (show (18 : Int32) = (idx22 (p2.toInt8.toInt32)) from (by rw [idx22, if_neg hc19, if_neg hc19_1, if_neg hc19_2, if_neg hc19_3, if_neg hc19_4, if_neg hc19_5, if_neg hc19_6, if_neg hc19_7, if_neg hc19_8, if_neg hc19_9, if_neg hc19_10, if_neg hc19_11, if_neg hc19_12, if_neg hc19_13, if_neg hc19_14, if_neg hc19_15, if_neg hc19_16, if_neg hc19_17, if_pos hc19_18])), (Fr.nil n0), rfl⟩
                                      · refine Gk.icmpYes X0 hx (hb hby d33_19) (feq hc19_18).2 25 (by decide) (by decide) ?_
                                        refine Gk.iinc X0 hx (hb hby d33_25) rfl #[.val (.ref a1), .val (.int p2), .val (.int (0 : Int32)), .val (.int (22 : Int32)), .val (.int (p2.toInt8.toInt32)), .val (.int (19 : Int32))] rfl ?_
                                        refine Gk.goto X0 hx (hb hby d33_28) 7 (by decide) (by decide) ?_
                                        refine Gk.iload X0 hx (hb hby d33_7) rfl ?_
                                        refine Gk.iloadN X0 hx (hb hby d33_9) rfl ?_
                                        refine Gk.icmpNo X0 hx (hb hby d33_10) (tlt (by decide : (19 : Int32) < (22 : Int32))).2.1 ?_
                                        refine Gk.aloadN X0 hx (hb hby d33_13) rfl rfl ?_
                                        refine Gk.iload X0 hx (hb hby d33_14) rfl ?_
                                        refine Gk.baloadB X0 hx hZ e0 V_b ⟨by decide, by decide⟩ (.int (100 : Int32)) hy19 (hb hby d33_16) ?_
                                        refine Gk.iload X0 hx (hb hby d33_17) rfl ?_
                                        by_cases hc19_19 : (100 : Int32) = (p2.toInt8.toInt32)
                                        · refine Gk.icmpNo X0 hx (hb hby d33_19) (teq hc19_19).2 ?_
                                          refine Gk.iload X0 hx (hb hby d33_22) rfl ?_
                                          exact Gk.rI X0 hx hret hns (hb hby d33_24) e0 ⟨congrArg (fun z_ : Int32 => some (Value.int z_)) (show (19 : Int32) = (idx22 (p2.toInt8.toInt32)) from (by rw [idx22, if_neg hc19, if_neg hc19_1, if_neg hc19_2, if_neg hc19_3, if_neg hc19_4, if_neg hc19_5, if_neg hc19_6, if_neg hc19_7, if_neg hc19_8, if_neg hc19_9, if_neg hc19_10, if_neg hc19_11, if_neg hc19_12, if_neg hc19_13, if_neg hc19_14, if_neg hc19_15, if_neg hc19_16, if_neg hc19_17, if_neg hc19_18, if_pos hc19_19])), (Fr.nil n0), rfl⟩
                                        · refine Gk.icmpYes X0 hx (hb hby d33_19) (feq hc19_19).2 25 (by decide) (by decide) ?_
                                          refine Gk.iinc X0 hx (hb hby d33_25) rfl #[.val (.ref a1), .val (.int p2), .val (.int (0 : Int32)), .val (.int (22 : Int32)), .val (.int (p2.toInt8.toInt32)), .val (.int (20 : Int32))] rfl ?_
                                          refine Gk.goto X0 hx (hb hby d33_28) 7 (by decide) (by decide) ?_
                                          refine Gk.iload X0 hx (hb hby d33_7) rfl ?_
                                          refine Gk.iloadN X0 hx (hb hby d33_9) rfl ?_
                                          refine Gk.icmpNo X0 hx (hb hby d33_10) (tlt (by decide : (20 : Int32) < (22 : Int32))).2.1 ?_
                                          refine Gk.aloadN X0 hx (hb hby d33_13) rfl rfl ?_
                                          refine Gk.iload X0 hx (hb hby d33_14) rfl ?_
                                          refine Gk.baloadB X0 hx hZ e0 V_b ⟨by decide, by decide⟩ (.int (101 : Int32)) hy20 (hb hby d33_16) ?_
                                          refine Gk.iload X0 hx (hb hby d33_17) rfl ?_
                                          by_cases hc19_20 : (101 : Int32) = (p2.toInt8.toInt32)
                                          · refine Gk.icmpNo X0 hx (hb hby d33_19) (teq hc19_20).2 ?_
                                            refine Gk.iload X0 hx (hb hby d33_22) rfl ?_
                                            exact Gk.rI X0 hx hret hns (hb hby d33_24) e0 ⟨congrArg (fun z_ : Int32 => some (Value.int z_)) (show (20 : Int32) = (idx22 (p2.toInt8.toInt32)) from (by rw [idx22, if_neg hc19, if_neg hc19_1, if_neg hc19_2, if_neg hc19_3, if_neg hc19_4, if_neg hc19_5, if_neg hc19_6, if_neg hc19_7, if_neg hc19_8, if_neg hc19_9, if_neg hc19_10, if_neg hc19_11, if_neg hc19_12, if_neg hc19_13, if_neg hc19_14, if_neg hc19_15, if_neg hc19_16, if_neg hc19_17, if_neg hc19_18, if_neg hc19_19, if_pos hc19_20])), (Fr.nil n0), rfl⟩
                                          · refine Gk.icmpYes X0 hx (hb hby d33_19) (feq hc19_20).2 25 (by decide) (by decide) ?_
                                            refine Gk.iinc X0 hx (hb hby d33_25) rfl #[.val (.ref a1), .val (.int p2), .val (.int (0 : Int32)), .val (.int (22 : Int32)), .val (.int (p2.toInt8.toInt32)), .val (.int (21 : Int32))] rfl ?_
                                            refine Gk.goto X0 hx (hb hby d33_28) 7 (by decide) (by decide) ?_
                                            refine Gk.iload X0 hx (hb hby d33_7) rfl ?_
                                            refine Gk.iloadN X0 hx (hb hby d33_9) rfl ?_
                                            refine Gk.icmpNo X0 hx (hb hby d33_10) (tlt (by decide : (21 : Int32) < (22 : Int32))).2.1 ?_
                                            refine Gk.aloadN X0 hx (hb hby d33_13) rfl rfl ?_
                                            refine Gk.iload X0 hx (hb hby d33_14) rfl ?_
                                            refine Gk.baloadB X0 hx hZ e0 V_b ⟨by decide, by decide⟩ (.int (102 : Int32)) hy21 (hb hby d33_16) ?_
                                            refine Gk.iload X0 hx (hb hby d33_17) rfl ?_
                                            by_cases hc19_21 : (102 : Int32) = (p2.toInt8.toInt32)
                                            · refine Gk.icmpNo X0 hx (hb hby d33_19) (teq hc19_21).2 ?_
                                              refine Gk.iload X0 hx (hb hby d33_22) rfl ?_
                                              exact Gk.rI X0 hx hret hns (hb hby d33_24) e0 ⟨congrArg (fun z_ : Int32 => some (Value.int z_)) (show (21 : Int32) = (idx22 (p2.toInt8.toInt32)) from (by rw [idx22, if_neg hc19, if_neg hc19_1, if_neg hc19_2, if_neg hc19_3, if_neg hc19_4, if_neg hc19_5, if_neg hc19_6, if_neg hc19_7, if_neg hc19_8, if_neg hc19_9, if_neg hc19_10, if_neg hc19_11, if_neg hc19_12, if_neg hc19_13, if_neg hc19_14, if_neg hc19_15, if_neg hc19_16, if_neg hc19_17, if_neg hc19_18, if_neg hc19_19, if_neg hc19_20, if_pos hc19_21])), (Fr.nil n0), rfl⟩
                                            · refine Gk.icmpYes X0 hx (hb hby d33_19) (feq hc19_21).2 25 (by decide) (by decide) ?_
                                              refine Gk.iinc X0 hx (hb hby d33_25) rfl #[.val (.ref a1), .val (.int p2), .val (.int (0 : Int32)), .val (.int (22 : Int32)), .val (.int (p2.toInt8.toInt32)), .val (.int (22 : Int32))] rfl ?_
                                              refine Gk.goto X0 hx (hb hby d33_28) 7 (by decide) (by decide) ?_
                                              refine Gk.iload X0 hx (hb hby d33_7) rfl ?_
                                              refine Gk.iloadN X0 hx (hb hby d33_9) rfl ?_
                                              refine Gk.icmpYes X0 hx (hb hby d33_10) (flt (by decide : ¬ ((22 : Int32) < (22 : Int32)))).2.1 31 (by decide) (by decide) ?_
                                              refine Gk.iconst X0 hx (hb hby d33_31) (-1 : Int32) rfl ?_
                                              exact Gk.rI X0 hx hret hns (hb hby d33_32) e0 ⟨congrArg (fun z_ : Int32 => some (Value.int z_)) (show (-1 : Int32) = (idx22 (p2.toInt8.toInt32)) from (by rw [idx22, if_neg hc19, if_neg hc19_1, if_neg hc19_2, if_neg hc19_3, if_neg hc19_4, if_neg hc19_5, if_neg hc19_6, if_neg hc19_7, if_neg hc19_8, if_neg hc19_9, if_neg hc19_10, if_neg hc19_11, if_neg hc19_12, if_neg hc19_13, if_neg hc19_14, if_neg hc19_15, if_neg hc19_16, if_neg hc19_17, if_neg hc19_18, if_neg hc19_19, if_neg hc19_20, if_neg hc19_21])), (Fr.nil n0), rfl⟩
theorem d30_0 : decode jdk_43_method_4_code 0 = .ok (.iload_n 0, 1) := by decide +kernel
theorem d30_1 : decode jdk_43_method_4_code 1 = .ok (.ifCond .lt 14, 3) := by decide +kernel
theorem d30_4 : decode jdk_43_method_4_code 4 = .ok (.iload_n 0, 1) := by decide +kernel
theorem d30_5 : decode jdk_43_method_4_code 5 = .ok (.sipush 255, 3) := by decide +kernel
theorem d30_8 : decode jdk_43_method_4_code 8 = .ok (.if_icmp .gt 7, 3) := by decide +kernel
theorem d30_11 : decode jdk_43_method_4_code 11 = .ok (.iconst 1, 1) := by decide +kernel
theorem d30_12 : decode jdk_43_method_4_code 12 = .ok (.goto 4, 3) := by decide +kernel
theorem d30_16 : decode jdk_43_method_4_code 16 = .ok (.ireturn, 1) := by decide +kernel
theorem ce1 (hw : HW Z a0) (p1 : Int32) (Z0 : n0 ≤ h0.size) (h0v : ¬ (p1 < (0 : Int32))) (h1v : ¬ ((255 : Int32) < p1)) : Ct l ⟨"java/lang/StringLatin1", "canEncode", "(I)Z"⟩ jdk_43_method_4_code 1 (some .boolean) ⟨0, 0, 0, 0⟩ #[(.int p1)] Z h0 (fun v h L => v = some (.int (1 : Int32)) ∧ Fr n0 L ∧ h = h0) := by
  refine Ct.of "java/lang/StringLatin1" rfl (plainFor_of_name pn_341) #[.val (.int p1)] rfl rfl ?_
  intro p e s m below meth c s₁ hx hby hml hown hnm hret hns hZ hh X0 e0
  refine Gk.iloadN X0 hx (hb hby d30_0) rfl ?_
  have hc1 : ¬ (p1 < (0 : Int32)) := h0v
  refine Gk.ifNo X0 hx (hb hby d30_1) (flt hc1).1 ?_
  refine Gk.iloadN X0 hx (hb hby d30_4) rfl ?_
  refine Gk.sipush X0 hx (hb hby d30_5) (255 : Int32) rfl ?_
  have hc8 : ¬ ((255 : Int32) < p1) := h1v
  refine Gk.icmpNo X0 hx (hb hby d30_8) (flt hc8).2.2.1 ?_
  refine Gk.iconst X0 hx (hb hby d30_11) (1 : Int32) rfl ?_
  refine Gk.goto X0 hx (hb hby d30_12) 16 (by decide) (by decide) ?_
  exact Gk.rN X0 hx hret (by simp) hns (hb hby d30_16) e0 (1 : Int32) rfl ⟨rfl, (Fr.nil n0), rfl⟩
theorem d30_15 : decode jdk_43_method_4_code 15 = .ok (.iconst 0, 1) := by decide +kernel
theorem ce0 (hw : HW Z a0) (p1 : Int32) (Z0 : n0 ≤ h0.size) (h0v : ¬ (p1 < (0 : Int32))) (h1v : (255 : Int32) < p1) : Ct l ⟨"java/lang/StringLatin1", "canEncode", "(I)Z"⟩ jdk_43_method_4_code 1 (some .boolean) ⟨0, 0, 0, 0⟩ #[(.int p1)] Z h0 (fun v h L => v = some (.int (0 : Int32)) ∧ Fr n0 L ∧ h = h0) := by
  refine Ct.of "java/lang/StringLatin1" rfl (plainFor_of_name pn_341) #[.val (.int p1)] rfl rfl ?_
  intro p e s m below meth c s₁ hx hby hml hown hnm hret hns hZ hh X0 e0
  refine Gk.iloadN X0 hx (hb hby d30_0) rfl ?_
  have hc1 : ¬ (p1 < (0 : Int32)) := h0v
  refine Gk.ifNo X0 hx (hb hby d30_1) (flt hc1).1 ?_
  refine Gk.iloadN X0 hx (hb hby d30_4) rfl ?_
  refine Gk.sipush X0 hx (hb hby d30_5) (255 : Int32) rfl ?_
  have hc8 : (255 : Int32) < p1 := h1v
  refine Gk.icmpYes X0 hx (hb hby d30_8) (tlt hc8).2.2.1 15 (by decide) (by decide) ?_
  refine Gk.iconst X0 hx (hb hby d30_15) (0 : Int32) rfl ?_
  exact Gk.rN X0 hx hret (by simp) hns (hb hby d30_16) e0 (0 : Int32) rfl ⟨rfl, (Fr.nil n0), rfl⟩
theorem pd_15 : parseMethodDescriptor "(I)Z" = some ⟨[.int], some .boolean⟩ := by decide +kernel
theorem pd_16 : parseMethodDescriptor "(II)I" = some ⟨[.int, .int], some .int⟩ := by decide +kernel
theorem pd_17 : parseMethodDescriptor "([BIII)I" = some ⟨[(.array .byte), .int, .int, .int], some .int⟩ := by decide +kernel
theorem d29_0 : decode jdk_43_method_22_code 0 = .ok (.iload_n 1, 1) := by decide +kernel
theorem d29_1 : decode jdk_43_method_22_code 1 = .ok (.invokestatic 88, 3) := by decide +kernel
theorem d29_4 : decode jdk_43_method_22_code 4 = .ok (.ifCond .ne 5, 3) := by decide +kernel
theorem d29_9 : decode jdk_43_method_22_code 9 = .ok (.iload_n 2, 1) := by decide +kernel
theorem d29_10 : decode jdk_43_method_22_code 10 = .ok (.iconst 0, 1) := by decide +kernel
theorem d29_11 : decode jdk_43_method_22_code 11 = .ok (.invokestatic 92, 3) := by decide +kernel
theorem d29_14 : decode jdk_43_method_22_code 14 = .ok (.istore_n 2, 1) := by decide +kernel
theorem d29_15 : decode jdk_43_method_22_code 15 = .ok (.iload_n 3, 1) := by decide +kernel
theorem d29_16 : decode jdk_43_method_22_code 16 = .ok (.aload_n 0, 1) := by decide +kernel
theorem d29_17 : decode jdk_43_method_22_code 17 = .ok (.arraylength, 1) := by decide +kernel
theorem d29_18 : decode jdk_43_method_22_code 18 = .ok (.invokestatic 38, 3) := by decide +kernel
theorem d29_21 : decode jdk_43_method_22_code 21 = .ok (.istore_n 3, 1) := by decide +kernel
theorem d29_22 : decode jdk_43_method_22_code 22 = .ok (.iload_n 2, 1) := by decide +kernel
theorem d29_23 : decode jdk_43_method_22_code 23 = .ok (.iload_n 3, 1) := by decide +kernel
theorem d29_24 : decode jdk_43_method_22_code 24 = .ok (.if_icmp .lt 5, 3) := by decide +kernel
theorem d29_29 : decode jdk_43_method_22_code 29 = .ok (.aload_n 0, 1) := by decide +kernel
theorem d29_30 : decode jdk_43_method_22_code 30 = .ok (.iload_n 1, 1) := by decide +kernel
theorem d29_31 : decode jdk_43_method_22_code 31 = .ok (.iload_n 2, 1) := by decide +kernel
theorem d29_32 : decode jdk_43_method_22_code 32 = .ok (.iload_n 3, 1) := by decide +kernel
theorem d29_33 : decode jdk_43_method_22_code 33 = .ok (.invokestatic 95, 3) := by decide +kernel
theorem d29_36 : decode jdk_43_method_22_code 36 = .ok (.ireturn, 1) := by decide +kernel
theorem lioL (hw : HW Z a0) (a1 : Addr) (p2 : Int32) (kb : ClassId) (fb : Nat → Value) (Z0 : n0 ≤ h0.size) (V_b : Arf Z h0 a1 kb .byte (22 : Int32) fb) (hy0 : fb 0 = .int (48 : Int32)) (hy1 : fb 1 = .int (49 : Int32)) (hy2 : fb 2 = .int (50 : Int32)) (hy3 : fb 3 = .int (51 : Int32)) (hy4 : fb 4 = .int (52 : Int32)) (hy5 : fb 5 = .int (53 : Int32)) (hy6 : fb 6 = .int (54 : Int32)) (hy7 : fb 7 = .int (55 : Int32)) (hy8 : fb 8 = .int (56 : Int32)) (hy9 : fb 9 = .int (57 : Int32)) (hy10 : fb 10 = .int (65 : Int32)) (hy11 : fb 11 = .int (66 : Int32)) (hy12 : fb 12 = .int (67 : Int32)) (hy13 : fb 13 = .int (68 : Int32)) (hy14 : fb 14 = .int (69 : Int32)) (hy15 : fb 15 = .int (70 : Int32)) (hy16 : fb 16 = .int (97 : Int32)) (hy17 : fb 17 = .int (98 : Int32)) (hy18 : fb 18 = .int (99 : Int32)) (hy19 : fb 19 = .int (100 : Int32)) (hy20 : fb 20 = .int (101 : Int32)) (hy21 : fb 21 = .int (102 : Int32)) (h0v : ¬ (p2 < (0 : Int32))) (h1v : ¬ ((255 : Int32) < p2)) : Ct l ⟨"java/lang/StringLatin1", "indexOf", "([BIII)I"⟩ jdk_43_method_22_code 4 (some .int) ⟨1, 0, 0, 17⟩ #[(.ref a1), (.int p2), (.int (0 : Int32)), (.int (22 : Int32))] Z h0 (fun v h L => v = some (.int (idx22 (p2.toInt8.toInt32))) ∧ Fr n0 L ∧ h = h0) := by
  refine Ct.of "java/lang/StringLatin1" rfl (plainFor_of_name pn_341) #[.val (.ref a1), .val (.int p2), .val (.int (0 : Int32)), .val (.int (22 : Int32))] rfl rfl ?_
  intro p e s m below meth c s₁ hx hby hml hown hnm hret hns hZ hh X0 e0
  refine Gk.iloadN X0 hx (hb hby d29_0) rfl ?_
  refine Gk.callS (argsL := [(.int p2)]) X0 hx hZ hown (ce1 l Z a0 h0 n0 hw p2 Z0 h0v h1v) (W hw 129 rfl) (W hw 130 rfl) (W hw 63 rfl) (W hw 131 rfl) (by decide) e0 pd_15 rfl rfl rfl (by rw [hml]; rfl) rfl (hb hby d29_1) ?_
  intro T1 L1 v1 X1 hQ1
  obtain ⟨rfl, N1q, e1⟩ := hQ1
  have N1 := Fr.app (Fr.nil n0) N1q
  show Go p e below (T1.setTop (mkF m 4 _ [(.int (1 : Int32))])) _
  refine Gk.ifYes X1 hx (hb hby d29_4) (feq (by decide : ¬ ((1 : Int32) = (0 : Int32)))).2 9 (by decide) (by decide) ?_
  refine Gk.iloadN X1 hx (hb hby d29_9) rfl ?_
  refine Gk.iconst X1 hx (hb hby d29_10) (0 : Int32) rfl ?_
  refine Gk.callS (argsL := [(.int (0 : Int32)), (.int (0 : Int32))]) X1 hx hZ hown (mx l Z a0 h0 n0 hw  Z0) (W hw 132 rfl) (W hw 133 rfl) (W hw 134 rfl) (W hw 135 rfl) (by decide) e1 pd_16 rfl rfl rfl (by rw [hml]; rfl) rfl (hb hby d29_11) ?_
  intro T2 L2 v2 X2 hQ2
  obtain ⟨rfl, N2q, e2⟩ := hQ2
  have N2 := Fr.app N1 N2q
  show Go p e below (T2.setTop (mkF m 14 _ [(.int (0 : Int32))])) _
  refine Gk.istoreN X2 hx (hb hby d29_14) #[.val (.ref a1), .val (.int p2), .val (.int (0 : Int32)), .val (.int (22 : Int32))] rfl ?_
  refine Gk.iloadN X2 hx (hb hby d29_15) rfl ?_
  refine Gk.aloadN X2 hx (hb hby d29_16) rfl rfl ?_
  refine Gk.alen X2 hx hZ e2 V_b (hb hby d29_17) ?_
  refine Gk.callS (argsL := [(.int (22 : Int32)), (.int (22 : Int32))]) X2 hx hZ hown (mn22 l Z a0 h0 n0 hw  Z0) (W hw 136 rfl) (W hw 137 rfl) (W hw 134 rfl) (W hw 138 rfl) (by decide) e2 pd_16 rfl rfl rfl (by rw [hml]; rfl) rfl (hb hby d29_18) ?_
  intro T3 L3 v3 X3 hQ3
  obtain ⟨rfl, N3q, e3⟩ := hQ3
  have N3 := Fr.app N2 N3q
  show Go p e below (T3.setTop (mkF m 21 _ [(.int (22 : Int32))])) _
  refine Gk.istoreN X3 hx (hb hby d29_21) #[.val (.ref a1), .val (.int p2), .val (.int (0 : Int32)), .val (.int (22 : Int32))] rfl ?_
  refine Gk.iloadN X3 hx (hb hby d29_22) rfl ?_
  refine Gk.iloadN X3 hx (hb hby d29_23) rfl ?_
  refine Gk.icmpYes X3 hx (hb hby d29_24) (tlt (by decide : (0 : Int32) < (22 : Int32))).1 29 (by decide) (by decide) ?_
  refine Gk.aloadN X3 hx (hb hby d29_29) rfl rfl ?_
  refine Gk.iloadN X3 hx (hb hby d29_30) rfl ?_
  refine Gk.iloadN X3 hx (hb hby d29_31) rfl ?_
  refine Gk.iloadN X3 hx (hb hby d29_32) rfl ?_
  refine Gk.callS (argsL := [(.ref a1), (.int p2), (.int (0 : Int32)), (.int (22 : Int32))]) X3 hx hZ hown (ioc l Z a0 h0 n0 hw a1 p2 kb fb Z0 V_b hy0 hy1 hy2 hy3 hy4 hy5 hy6 hy7 hy8 hy9 hy10 hy11 hy12 hy13 hy14 hy15 hy16 hy17 hy18 hy19 hy20 hy21) (W hw 139 rfl) (W hw 140 rfl) (W hw 63 rfl) (W hw 141 rfl) (by decide) e3 pd_17 rfl rfl rfl (by rw [hml]; rfl) rfl (hb hby d29_33) ?_
  intro T4 L4 v4 X4 hQ4
  obtain ⟨rfl, N4q, e4⟩ := hQ4
  have N4 := Fr.app N3 N4q
  show Go p e below (T4.setTop (mkF m 36 _ [(.int (idx22 (p2.toInt8.toInt32)))])) _
  exact Gk.rI X4 hx hret hns (hb hby d29_36) e4 ⟨rfl, N4, rfl⟩
theorem pd_18 : parseMethodDescriptor "()I" = some ⟨[], some .int⟩ := by decide +kernel
theorem d28_0 : decode jdk_42_method_80_code 0 = .ok (.aload_n 0, 1) := by decide +kernel
theorem d28_1 : decode jdk_42_method_80_code 1 = .ok (.invokevirtual 492, 3) := by decide +kernel
theorem d28_4 : decode jdk_42_method_80_code 4 = .ok (.ifCond .eq 19, 3) := by decide +kernel
theorem d28_7 : decode jdk_42_method_80_code 7 = .ok (.aload_n 0, 1) := by decide +kernel
theorem d28_8 : decode jdk_42_method_80_code 8 = .ok (.getfield 9, 3) := by decide +kernel
theorem d28_11 : decode jdk_42_method_80_code 11 = .ok (.iload_n 1, 1) := by decide +kernel
theorem d28_12 : decode jdk_42_method_80_code 12 = .ok (.iload_n 2, 1) := by decide +kernel
theorem d28_13 : decode jdk_42_method_80_code 13 = .ok (.aload_n 0, 1) := by decide +kernel
theorem d28_14 : decode jdk_42_method_80_code 14 = .ok (.invokevirtual 505, 3) := by decide +kernel
theorem d28_17 : decode jdk_42_method_80_code 17 = .ok (.invokestatic 637, 3) := by decide +kernel
theorem d28_20 : decode jdk_42_method_80_code 20 = .ok (.goto 16, 3) := by decide +kernel
theorem d28_36 : decode jdk_42_method_80_code 36 = .ok (.ireturn, 1) := by decide +kernel
theorem io2L (hw : HW Z a0) (a1 : Addr) (p2 : Int32) (b1 : Addr) (kb : ClassId) (fb : Nat → Value) (w_COMPACT_STRINGS : Int32) (Z0 : n0 ≤ h0.size) (S_COMPACT_STRINGS : Stx Z n0 h0 "java/lang/String" "COMPACT_STRINGS" "Z" (.int w_COMPACT_STRINGS)) (E_a1 : Exa Z h0 a1 "java/lang/String") (Fc1 : Fld Z h0 a1 "java/lang/String" "coder" "B" (.int (0 : Int32))) (Fv1 : Fld Z h0 a1 "java/lang/String" "value" "[B" (.ref b1)) (V_b : Arf Z h0 b1 kb .byte (22 : Int32) fb) (hy0 : fb 0 = .int (48 : Int32)) (hy1 : fb 1 = .int (49 : Int32)) (hy2 : fb 2 = .int (50 : Int32)) (hy3 : fb 3 = .int (51 : Int32)) (hy4 : fb 4 = .int (52 : Int32)) (hy5 : fb 5 = .int (53 : Int32)) (hy6 : fb 6 = .int (54 : Int32)) (hy7 : fb 7 = .int (55 : Int32)) (hy8 : fb 8 = .int (56 : Int32)) (hy9 : fb 9 = .int (57 : Int32)) (hy10 : fb 10 = .int (65 : Int32)) (hy11 : fb 11 = .int (66 : Int32)) (hy12 : fb 12 = .int (67 : Int32)) (hy13 : fb 13 = .int (68 : Int32)) (hy14 : fb 14 = .int (69 : Int32)) (hy15 : fb 15 = .int (70 : Int32)) (hy16 : fb 16 = .int (97 : Int32)) (hy17 : fb 17 = .int (98 : Int32)) (hy18 : fb 18 = .int (99 : Int32)) (hy19 : fb 19 = .int (100 : Int32)) (hy20 : fb 20 = .int (101 : Int32)) (hy21 : fb 21 = .int (102 : Int32)) (h0v : ¬ (p2 < (0 : Int32))) (h1v : ¬ ((255 : Int32) < p2)) (hcs : ¬ (w_COMPACT_STRINGS = (0 : Int32))) : Ct l ⟨"java/lang/String", "indexOf", "(II)I"⟩ jdk_42_method_80_code 3 (some .int) ⟨2, 0, 0, 32⟩ #[(.ref a1), (.int p2), (.int (0 : Int32))] Z h0 (fun v h L => v = some (.int (idx22 (p2.toInt8.toInt32))) ∧ Fr n0 L ∧ h = h0) := by
  refine Ct.of "java/lang/String" rfl (plainFor_of_name pn_164) #[.val (.ref a1), .val (.int p2), .val (.int (0 : Int32))] rfl rfl ?_
  intro p e s m below meth c s₁ hx hby hml hown hnm hret hns hZ hh X0 e0
  refine Gk.aloadN X0 hx (hb hby d28_0) rfl rfl ?_
  refine Gk.callV (argsL := []) X0 hx hZ hown (il_0 l Z a0 h0 n0 hw a1 w_COMPACT_STRINGS Z0 S_COMPACT_STRINGS Fc1 hcs) (W hw 56 rfl) (W hw 57 rfl) (notFace_of_selects (args := #[]) (mvT hZ (W hw 59 rfl))) (W hw 59 rfl) (W hw 58 rfl) (by decide) (W hw 60 rfl) (W hw 10 rfl) e0 E_a1 pd_12 rfl rfl rfl (by rw [hml]; rfl) rfl (hb hby d28_1) ?_
  intro T1 L1 v1 X1 hQ1
  obtain ⟨rfl, N1q, e1⟩ := hQ1
  have N1 := Fr.app (Fr.nil n0) N1q
  show Go p e below (T1.setTop (mkF m 4 _ [(.int (1 : Int32))])) _
  refine Gk.ifNo X1 hx (hb hby d28_4) (feq (by decide : ¬ ((1 : Int32) = (0 : Int32)))).1 ?_
  refine Gk.aloadN X1 hx (hb hby d28_7) rfl rfl ?_
  refine Gk.getF X1 hx hZ hown (host := "") (Or.inl (W hw 35 rfl)) Via.refl e1 Fv1 (hb hby d28_8) ?_
  intro T2 X2 e2
  refine Gk.iloadN X2 hx (hb hby d28_11) rfl ?_
  refine Gk.iloadN X2 hx (hb hby d28_12) rfl ?_
  refine Gk.aloadN X2 hx (hb hby d28_13) rfl rfl ?_
  refine Gk.callV (argsL := []) X2 hx hZ hown (len_0 l Z a0 h0 n0 hw a1 b1 kb fb (22 : Int32) w_COMPACT_STRINGS Z0 S_COMPACT_STRINGS E_a1 Fc1 Fv1 V_b hcs) (W hw 125 rfl) (W hw 42 rfl) (notFace_of_selects (args := #[]) (mvT hZ (W hw 44 rfl))) (W hw 44 rfl) (W hw 43 rfl) (by decide) (W hw 45 rfl) (W hw 10 rfl) e2 E_a1 pd_18 rfl rfl rfl (by rw [hml]; rfl) rfl (hb hby d28_14) ?_
  intro T3 L3 v3 X3 hQ3
  obtain ⟨rfl, N3q, e3⟩ := hQ3
  have N3 := Fr.app N1 N3q
  show Go p e below (T3.setTop (mkF m 17 _ [(.int ((22 : Int32) >>> ((0 : Int32) &&& 31))), (.int (0 : Int32)), (.int p2), (.ref b1)])) _
  rw [show ((22 : Int32) >>> ((0 : Int32) &&& 31)) = (22 : Int32) from by decide]
  refine Gk.callS (argsL := [(.ref b1), (.int p2), (.int (0 : Int32)), (.int (22 : Int32))]) X3 hx hZ hown (lioL l Z a0 h0 n0 hw b1 p2 kb fb Z0 V_b hy0 hy1 hy2 hy3 hy4 hy5 hy6 hy7 hy8 hy9 hy10 hy11 hy12 hy13 hy14 hy15 hy16 hy17 hy18 hy19 hy20 hy21 h0v h1v) (W hw 126 rfl) (W hw 127 rfl) (W hw 63 rfl) (W hw 128 rfl) (by decide) e3 pd_17 rfl rfl rfl (by rw [hml]; rfl) rfl (hb hby d28_17) ?_
  intro T4 L4 v4 X4 hQ4
  obtain ⟨rfl, N4q, e4⟩ := hQ4
  have N4 := Fr.app N3 N4q
  show Go p e below (T4.setTop (mkF m 20 _ [(.int (idx22 (p2.toInt8.toInt32)))])) _
  refine Gk.goto X4 hx (hb hby d28_20) 36 (by decide) (by decide) ?_
  exact Gk.rI X4 hx hret hns (hb hby d28_36) e4 ⟨rfl, N4, rfl⟩
theorem d27_0 : decode jdk_42_method_79_code 0 = .ok (.aload_n 0, 1) := by decide +kernel
theorem d27_1 : decode jdk_42_method_79_code 1 = .ok (.iload_n 1, 1) := by decide +kernel
theorem d27_2 : decode jdk_42_method_79_code 2 = .ok (.iconst 0, 1) := by decide +kernel
theorem d27_3 : decode jdk_42_method_79_code 3 = .ok (.invokevirtual 633, 3) := by decide +kernel
theorem d27_6 : decode jdk_42_method_79_code 6 = .ok (.ireturn, 1) := by decide +kernel
theorem io1L (hw : HW Z a0) (a1 : Addr) (p2 : Int32) (b1 : Addr) (kb : ClassId) (fb : Nat → Value) (w_COMPACT_STRINGS : Int32) (Z0 : n0 ≤ h0.size) (S_COMPACT_STRINGS : Stx Z n0 h0 "java/lang/String" "COMPACT_STRINGS" "Z" (.int w_COMPACT_STRINGS)) (E_a1 : Exa Z h0 a1 "java/lang/String") (Fc1 : Fld Z h0 a1 "java/lang/String" "coder" "B" (.int (0 : Int32))) (Fv1 : Fld Z h0 a1 "java/lang/String" "value" "[B" (.ref b1)) (V_b : Arf Z h0 b1 kb .byte (22 : Int32) fb) (hy0 : fb 0 = .int (48 : Int32)) (hy1 : fb 1 = .int (49 : Int32)) (hy2 : fb 2 = .int (50 : Int32)) (hy3 : fb 3 = .int (51 : Int32)) (hy4 : fb 4 = .int (52 : Int32)) (hy5 : fb 5 = .int (53 : Int32)) (hy6 : fb 6 = .int (54 : Int32)) (hy7 : fb 7 = .int (55 : Int32)) (hy8 : fb 8 = .int (56 : Int32)) (hy9 : fb 9 = .int (57 : Int32)) (hy10 : fb 10 = .int (65 : Int32)) (hy11 : fb 11 = .int (66 : Int32)) (hy12 : fb 12 = .int (67 : Int32)) (hy13 : fb 13 = .int (68 : Int32)) (hy14 : fb 14 = .int (69 : Int32)) (hy15 : fb 15 = .int (70 : Int32)) (hy16 : fb 16 = .int (97 : Int32)) (hy17 : fb 17 = .int (98 : Int32)) (hy18 : fb 18 = .int (99 : Int32)) (hy19 : fb 19 = .int (100 : Int32)) (hy20 : fb 20 = .int (101 : Int32)) (hy21 : fb 21 = .int (102 : Int32)) (h0v : ¬ (p2 < (0 : Int32))) (h1v : ¬ ((255 : Int32) < p2)) (hcs : ¬ (w_COMPACT_STRINGS = (0 : Int32))) : Ct l ⟨"java/lang/String", "indexOf", "(I)I"⟩ jdk_42_method_79_code 2 (some .int) ⟨3, 0, 0, 46⟩ #[(.ref a1), (.int p2)] Z h0 (fun v h L => v = some (.int (idx22 (p2.toInt8.toInt32))) ∧ Fr n0 L ∧ h = h0) := by
  refine Ct.of "java/lang/String" rfl (plainFor_of_name pn_164) #[.val (.ref a1), .val (.int p2)] rfl rfl ?_
  intro p e s m below meth c s₁ hx hby hml hown hnm hret hns hZ hh X0 e0
  refine Gk.aloadN X0 hx (hb hby d27_0) rfl rfl ?_
  refine Gk.iloadN X0 hx (hb hby d27_1) rfl ?_
  refine Gk.iconst X0 hx (hb hby d27_2) (0 : Int32) rfl ?_
  refine Gk.callV (argsL := [(.int p2), (.int (0 : Int32))]) X0 hx hZ hown (io2L l Z a0 h0 n0 hw a1 p2 b1 kb fb w_COMPACT_STRINGS Z0 S_COMPACT_STRINGS E_a1 Fc1 Fv1 V_b hy0 hy1 hy2 hy3 hy4 hy5 hy6 hy7 hy8 hy9 hy10 hy11 hy12 hy13 hy14 hy15 hy16 hy17 hy18 hy19 hy20 hy21 h0v h1v hcs) (W hw 120 rfl) (W hw 121 rfl) (notFace_of_selects (args := #[]) (mvT hZ (W hw 123 rfl))) (W hw 123 rfl) (W hw 122 rfl) (by decide) (W hw 124 rfl) (W hw 10 rfl) e0 E_a1 pd_16 rfl rfl rfl (by rw [hml]; rfl) rfl (hb hby d27_3) ?_
  intro T1 L1 v1 X1 hQ1
  obtain ⟨rfl, N1q, e1⟩ := hQ1
  have N1 := Fr.app (Fr.nil n0) N1q
  show Go p e below (T1.setTop (mkF m 6 _ [(.int (idx22 (p2.toInt8.toInt32)))])) _
  exact Gk.rI X1 hx hret hns (hb hby d27_6) e1 ⟨rfl, N1, rfl⟩
theorem d29_7 : decode jdk_43_method_22_code 7 = .ok (.iconst (-1), 1) := by decide +kernel
theorem d29_8 : decode jdk_43_method_22_code 8 = .ok (.ireturn, 1) := by decide +kernel
theorem lioU (hw : HW Z a0) (a1 : Addr) (p2 : Int32) (kb : ClassId) (fb : Nat → Value) (Z0 : n0 ≤ h0.size) (V_b : Arf Z h0 a1 kb .byte (22 : Int32) fb) (hy0 : fb 0 = .int (48 : Int32)) (hy1 : fb 1 = .int (49 : Int32)) (hy2 : fb 2 = .int (50 : Int32)) (hy3 : fb 3 = .int (51 : Int32)) (hy4 : fb 4 = .int (52 : Int32)) (hy5 : fb 5 = .int (53 : Int32)) (hy6 : fb 6 = .int (54 : Int32)) (hy7 : fb 7 = .int (55 : Int32)) (hy8 : fb 8 = .int (56 : Int32)) (hy9 : fb 9 = .int (57 : Int32)) (hy10 : fb 10 = .int (65 : Int32)) (hy11 : fb 11 = .int (66 : Int32)) (hy12 : fb 12 = .int (67 : Int32)) (hy13 : fb 13 = .int (68 : Int32)) (hy14 : fb 14 = .int (69 : Int32)) (hy15 : fb 15 = .int (70 : Int32)) (hy16 : fb 16 = .int (97 : Int32)) (hy17 : fb 17 = .int (98 : Int32)) (hy18 : fb 18 = .int (99 : Int32)) (hy19 : fb 19 = .int (100 : Int32)) (hy20 : fb 20 = .int (101 : Int32)) (hy21 : fb 21 = .int (102 : Int32)) (h0v : ¬ (p2 < (0 : Int32))) (h1v : (255 : Int32) < p2) : Ct l ⟨"java/lang/StringLatin1", "indexOf", "([BIII)I"⟩ jdk_43_method_22_code 4 (some .int) ⟨1, 0, 0, 12⟩ #[(.ref a1), (.int p2), (.int (0 : Int32)), (.int (22 : Int32))] Z h0 (fun v h L => v = some (.int (-1 : Int32)) ∧ Fr n0 L ∧ h = h0) := by
  refine Ct.of "java/lang/StringLatin1" rfl (plainFor_of_name pn_341) #[.val (.ref a1), .val (.int p2), .val (.int (0 : Int32)), .val (.int (22 : Int32))] rfl rfl ?_
  intro p e s m below meth c s₁ hx hby hml hown hnm hret hns hZ hh X0 e0
  refine Gk.iloadN X0 hx (hb hby d29_0) rfl ?_
  refine Gk.callS (argsL := [(.int p2)]) X0 hx hZ hown (ce0 l Z a0 h0 n0 hw p2 Z0 h0v h1v) (W hw 129 rfl) (W hw 130 rfl) (W hw 63 rfl) (W hw 131 rfl) (by decide) e0 pd_15 rfl rfl rfl (by rw [hml]; rfl) rfl (hb hby d29_1) ?_
  intro T1 L1 v1 X1 hQ1
  obtain ⟨rfl, N1q, e1⟩ := hQ1
  have N1 := Fr.app (Fr.nil n0) N1q
  show Go p e below (T1.setTop (mkF m 4 _ [(.int (0 : Int32))])) _
  refine Gk.ifNo X1 hx (hb hby d29_4) (teq (by decide : (0 : Int32) = (0 : Int32))).2 ?_
  refine Gk.iconst X1 hx (hb hby d29_7) (-1 : Int32) rfl ?_
  exact Gk.rI X1 hx hret hns (hb hby d29_8) e1 ⟨rfl, N1, rfl⟩
theorem io2U (hw : HW Z a0) (a1 : Addr) (p2 : Int32) (b1 : Addr) (kb : ClassId) (fb : Nat → Value) (w_COMPACT_STRINGS : Int32) (Z0 : n0 ≤ h0.size) (S_COMPACT_STRINGS : Stx Z n0 h0 "java/lang/String" "COMPACT_STRINGS" "Z" (.int w_COMPACT_STRINGS)) (E_a1 : Exa Z h0 a1 "java/lang/String") (Fc1 : Fld Z h0 a1 "java/lang/String" "coder" "B" (.int (0 : Int32))) (Fv1 : Fld Z h0 a1 "java/lang/String" "value" "[B" (.ref b1)) (V_b : Arf Z h0 b1 kb .byte (22 : Int32) fb) (hy0 : fb 0 = .int (48 : Int32)) (hy1 : fb 1 = .int (49 : Int32)) (hy2 : fb 2 = .int (50 : Int32)) (hy3 : fb 3 = .int (51 : Int32)) (hy4 : fb 4 = .int (52 : Int32)) (hy5 : fb 5 = .int (53 : Int32)) (hy6 : fb 6 = .int (54 : Int32)) (hy7 : fb 7 = .int (55 : Int32)) (hy8 : fb 8 = .int (56 : Int32)) (hy9 : fb 9 = .int (57 : Int32)) (hy10 : fb 10 = .int (65 : Int32)) (hy11 : fb 11 = .int (66 : Int32)) (hy12 : fb 12 = .int (67 : Int32)) (hy13 : fb 13 = .int (68 : Int32)) (hy14 : fb 14 = .int (69 : Int32)) (hy15 : fb 15 = .int (70 : Int32)) (hy16 : fb 16 = .int (97 : Int32)) (hy17 : fb 17 = .int (98 : Int32)) (hy18 : fb 18 = .int (99 : Int32)) (hy19 : fb 19 = .int (100 : Int32)) (hy20 : fb 20 = .int (101 : Int32)) (hy21 : fb 21 = .int (102 : Int32)) (h0v : ¬ (p2 < (0 : Int32))) (h1v : (255 : Int32) < p2) (hcs : ¬ (w_COMPACT_STRINGS = (0 : Int32))) : Ct l ⟨"java/lang/String", "indexOf", "(II)I"⟩ jdk_42_method_80_code 3 (some .int) ⟨2, 0, 0, 28⟩ #[(.ref a1), (.int p2), (.int (0 : Int32))] Z h0 (fun v h L => v = some (.int (-1 : Int32)) ∧ Fr n0 L ∧ h = h0) := by
  refine Ct.of "java/lang/String" rfl (plainFor_of_name pn_164) #[.val (.ref a1), .val (.int p2), .val (.int (0 : Int32))] rfl rfl ?_
  intro p e s m below meth c s₁ hx hby hml hown hnm hret hns hZ hh X0 e0
  refine Gk.aloadN X0 hx (hb hby d28_0) rfl rfl ?_
  refine Gk.callV (argsL := []) X0 hx hZ hown (il_0 l Z a0 h0 n0 hw a1 w_COMPACT_STRINGS Z0 S_COMPACT_STRINGS Fc1 hcs) (W hw 56 rfl) (W hw 57 rfl) (notFace_of_selects (args := #[]) (mvT hZ (W hw 59 rfl))) (W hw 59 rfl) (W hw 58 rfl) (by decide) (W hw 60 rfl) (W hw 10 rfl) e0 E_a1 pd_12 rfl rfl rfl (by rw [hml]; rfl) rfl (hb hby d28_1) ?_
  intro T1 L1 v1 X1 hQ1
  obtain ⟨rfl, N1q, e1⟩ := hQ1
  have N1 := Fr.app (Fr.nil n0) N1q
  show Go p e below (T1.setTop (mkF m 4 _ [(.int (1 : Int32))])) _
  refine Gk.ifNo X1 hx (hb hby d28_4) (feq (by decide : ¬ ((1 : Int32) = (0 : Int32)))).1 ?_
  refine Gk.aloadN X1 hx (hb hby d28_7) rfl rfl ?_
  refine Gk.getF X1 hx hZ hown (host := "") (Or.inl (W hw 35 rfl)) Via.refl e1 Fv1 (hb hby d28_8) ?_
  intro T2 X2 e2
  refine Gk.iloadN X2 hx (hb hby d28_11) rfl ?_
  refine Gk.iloadN X2 hx (hb hby d28_12) rfl ?_
  refine Gk.aloadN X2 hx (hb hby d28_13) rfl rfl ?_
  refine Gk.callV (argsL := []) X2 hx hZ hown (len_0 l Z a0 h0 n0 hw a1 b1 kb fb (22 : Int32) w_COMPACT_STRINGS Z0 S_COMPACT_STRINGS E_a1 Fc1 Fv1 V_b hcs) (W hw 125 rfl) (W hw 42 rfl) (notFace_of_selects (args := #[]) (mvT hZ (W hw 44 rfl))) (W hw 44 rfl) (W hw 43 rfl) (by decide) (W hw 45 rfl) (W hw 10 rfl) e2 E_a1 pd_18 rfl rfl rfl (by rw [hml]; rfl) rfl (hb hby d28_14) ?_
  intro T3 L3 v3 X3 hQ3
  obtain ⟨rfl, N3q, e3⟩ := hQ3
  have N3 := Fr.app N1 N3q
  show Go p e below (T3.setTop (mkF m 17 _ [(.int ((22 : Int32) >>> ((0 : Int32) &&& 31))), (.int (0 : Int32)), (.int p2), (.ref b1)])) _
  rw [show ((22 : Int32) >>> ((0 : Int32) &&& 31)) = (22 : Int32) from by decide]
  refine Gk.callS (argsL := [(.ref b1), (.int p2), (.int (0 : Int32)), (.int (22 : Int32))]) X3 hx hZ hown (lioU l Z a0 h0 n0 hw b1 p2 kb fb Z0 V_b hy0 hy1 hy2 hy3 hy4 hy5 hy6 hy7 hy8 hy9 hy10 hy11 hy12 hy13 hy14 hy15 hy16 hy17 hy18 hy19 hy20 hy21 h0v h1v) (W hw 126 rfl) (W hw 127 rfl) (W hw 63 rfl) (W hw 128 rfl) (by decide) e3 pd_17 rfl rfl rfl (by rw [hml]; rfl) rfl (hb hby d28_17) ?_
  intro T4 L4 v4 X4 hQ4
  obtain ⟨rfl, N4q, e4⟩ := hQ4
  have N4 := Fr.app N3 N4q
  show Go p e below (T4.setTop (mkF m 20 _ [(.int (-1 : Int32))])) _
  refine Gk.goto X4 hx (hb hby d28_20) 36 (by decide) (by decide) ?_
  exact Gk.rI X4 hx hret hns (hb hby d28_36) e4 ⟨rfl, N4, rfl⟩
theorem io1U (hw : HW Z a0) (a1 : Addr) (p2 : Int32) (b1 : Addr) (kb : ClassId) (fb : Nat → Value) (w_COMPACT_STRINGS : Int32) (Z0 : n0 ≤ h0.size) (S_COMPACT_STRINGS : Stx Z n0 h0 "java/lang/String" "COMPACT_STRINGS" "Z" (.int w_COMPACT_STRINGS)) (E_a1 : Exa Z h0 a1 "java/lang/String") (Fc1 : Fld Z h0 a1 "java/lang/String" "coder" "B" (.int (0 : Int32))) (Fv1 : Fld Z h0 a1 "java/lang/String" "value" "[B" (.ref b1)) (V_b : Arf Z h0 b1 kb .byte (22 : Int32) fb) (hy0 : fb 0 = .int (48 : Int32)) (hy1 : fb 1 = .int (49 : Int32)) (hy2 : fb 2 = .int (50 : Int32)) (hy3 : fb 3 = .int (51 : Int32)) (hy4 : fb 4 = .int (52 : Int32)) (hy5 : fb 5 = .int (53 : Int32)) (hy6 : fb 6 = .int (54 : Int32)) (hy7 : fb 7 = .int (55 : Int32)) (hy8 : fb 8 = .int (56 : Int32)) (hy9 : fb 9 = .int (57 : Int32)) (hy10 : fb 10 = .int (65 : Int32)) (hy11 : fb 11 = .int (66 : Int32)) (hy12 : fb 12 = .int (67 : Int32)) (hy13 : fb 13 = .int (68 : Int32)) (hy14 : fb 14 = .int (69 : Int32)) (hy15 : fb 15 = .int (70 : Int32)) (hy16 : fb 16 = .int (97 : Int32)) (hy17 : fb 17 = .int (98 : Int32)) (hy18 : fb 18 = .int (99 : Int32)) (hy19 : fb 19 = .int (100 : Int32)) (hy20 : fb 20 = .int (101 : Int32)) (hy21 : fb 21 = .int (102 : Int32)) (h0v : ¬ (p2 < (0 : Int32))) (h1v : (255 : Int32) < p2) (hcs : ¬ (w_COMPACT_STRINGS = (0 : Int32))) : Ct l ⟨"java/lang/String", "indexOf", "(I)I"⟩ jdk_42_method_79_code 2 (some .int) ⟨3, 0, 0, 42⟩ #[(.ref a1), (.int p2)] Z h0 (fun v h L => v = some (.int (-1 : Int32)) ∧ Fr n0 L ∧ h = h0) := by
  refine Ct.of "java/lang/String" rfl (plainFor_of_name pn_164) #[.val (.ref a1), .val (.int p2)] rfl rfl ?_
  intro p e s m below meth c s₁ hx hby hml hown hnm hret hns hZ hh X0 e0
  refine Gk.aloadN X0 hx (hb hby d27_0) rfl rfl ?_
  refine Gk.iloadN X0 hx (hb hby d27_1) rfl ?_
  refine Gk.iconst X0 hx (hb hby d27_2) (0 : Int32) rfl ?_
  refine Gk.callV (argsL := [(.int p2), (.int (0 : Int32))]) X0 hx hZ hown (io2U l Z a0 h0 n0 hw a1 p2 b1 kb fb w_COMPACT_STRINGS Z0 S_COMPACT_STRINGS E_a1 Fc1 Fv1 V_b hy0 hy1 hy2 hy3 hy4 hy5 hy6 hy7 hy8 hy9 hy10 hy11 hy12 hy13 hy14 hy15 hy16 hy17 hy18 hy19 hy20 hy21 h0v h1v hcs) (W hw 120 rfl) (W hw 121 rfl) (notFace_of_selects (args := #[]) (mvT hZ (W hw 123 rfl))) (W hw 123 rfl) (W hw 122 rfl) (by decide) (W hw 124 rfl) (W hw 10 rfl) e0 E_a1 pd_16 rfl rfl rfl (by rw [hml]; rfl) rfl (hb hby d27_3) ?_
  intro T1 L1 v1 X1 hQ1
  obtain ⟨rfl, N1q, e1⟩ := hQ1
  have N1 := Fr.app (Fr.nil n0) N1q
  show Go p e below (T1.setTop (mkF m 6 _ [(.int (-1 : Int32))])) _
  exact Gk.rI X1 hx hret hns (hb hby d27_6) e1 ⟨rfl, N1, rfl⟩
theorem own_nn {p : Int32} (h : 0 ≤ p.toInt ∧ p.toInt < 65536) : ¬ (p < (0 : Int32)) := by
  rw [Int32.lt_iff_toInt_lt, show (0 : Int32).toInt = 0 from by decide]
  omega
theorem d26_0 : decode prog_8_method_11_code 0 = .ok (.ldc 158, 2) := by decide +kernel
theorem d26_2 : decode prog_8_method_11_code 2 = .ok (.iload_n 0, 1) := by decide +kernel
theorem d26_3 : decode prog_8_method_11_code 3 = .ok (.invokevirtual 84, 3) := by decide +kernel
theorem d26_6 : decode prog_8_method_11_code 6 = .ok (.istore_n 1, 1) := by decide +kernel
theorem d26_7 : decode prog_8_method_11_code 7 = .ok (.iload_n 1, 1) := by decide +kernel
theorem d26_8 : decode prog_8_method_11_code 8 = .ok (.bipush 16, 2) := by decide +kernel
theorem d26_10 : decode prog_8_method_11_code 10 = .ok (.if_icmp .ge 7, 3) := by decide +kernel
theorem d26_13 : decode prog_8_method_11_code 13 = .ok (.iload_n 1, 1) := by decide +kernel
theorem d26_14 : decode prog_8_method_11_code 14 = .ok (.goto 7, 3) := by decide +kernel
theorem d26_17 : decode prog_8_method_11_code 17 = .ok (.iload_n 1, 1) := by decide +kernel
theorem d26_18 : decode prog_8_method_11_code 18 = .ok (.bipush 6, 2) := by decide +kernel
theorem d26_20 : decode prog_8_method_11_code 20 = .ok (.isub, 1) := by decide +kernel
theorem d26_21 : decode prog_8_method_11_code 21 = .ok (.ireturn, 1) := by decide +kernel
theorem pn_460 : plainName "com/example/method_to_route/methodtoroute/PercentEncoding" = true := by first | (simp [plainName, overriddenIn]; done) | decide +kernel
theorem hexd (hw : HW Z a0) (p1 w_COMPACT_STRINGS : Int32) (Z0 : n0 ≤ h0.size) (S_COMPACT_STRINGS : Stx Z n0 h0 "java/lang/String" "COMPACT_STRINGS" "Z" (.int w_COMPACT_STRINGS)) (hb_ : 0 ≤ p1.toInt ∧ p1.toInt < 65536) (hcs : ¬ (w_COMPACT_STRINGS = (0 : Int32))) : CtH l ⟨"com/example/method_to_route/methodtoroute/PercentEncoding", "hexDigit", "(C)I"⟩ prog_8_method_11_code 2 (some .int) ⟨4, 2, 92, 59⟩ #[(.int p1)] Z h0 consts_1 (fun v h L => (∃ r : Int32, v = some (.int r) ∧ (r < (0 : Int32) ↔ ¬ hexB p1 = 1)) ∧ Fr n0 L ∧ Keep h0 h []) := by
  refine CtH.of "com/example/method_to_route/methodtoroute/PercentEncoding" rfl (plainFor_of_name pn_460) #[.val (.int p1), .unset] rfl rfl ?_
  intro p e s m below meth c s₁ hx hby hml hown hnm hret hns hZ hh X0 e0 hCH
  have R2_ := CHr.refl hCH
  refine Gk.ldcH (s := s) (show Stand p l e _ (s.setVm s.vm) m _ below meth c _ _ _ _ from X0) hx hZ hown (W hw 114 rfl) (own_wS hw) e0 ((State.WarmedH.refl s).since 0) (Nat.zero_le _) (own_EW hw) (List.mem_of_getElem? (i := 0) rfl) R2_.1 lit0T (hb hby d26_0) (n := 88) (by decide) (by decide) (by decide) (by decide) ?_
  intro la1 T1 h1 kS1 lb1 lk1 X1 e1 E1 S1_ q1_ Z1_ o1_ lA1 lFc1 lFv1 lV1 llt1 lltb1 C1_ Lt1_ d1_
  have R1_ := R2_.trans C1_
  refine Gk.iloadN X1 hx (hb hby d26_2) rfl ?_
  by_cases hu_ : (255 : Int32) < p1
  · show Go p e below (T1.setTop (mkF m 3 #[.val (.int p1), .unset] [(.int p1), (.ref la1)])) _
    have H4 := (S_COMPACT_STRINGS.ext E1)
    refine Gk.callV (argsL := [(.int p1)]) X1 hx Z1_ o1_ (io1U l Z a0 h1 n0 hw la1 p1 lb1 lk1 (fun i => .int ((fun j_ => lit0L.getD j_ 0) i)) w_COMPACT_STRINGS (Nat.le_trans Z0 E1.1) H4 lA1 lFc1 lFv1 lV1 rfl rfl rfl rfl rfl rfl rfl rfl rfl rfl rfl rfl rfl rfl rfl rfl rfl rfl rfl rfl rfl rfl (own_nn hb_) hu_ hcs) (W hw 115 rfl) (W hw 116 rfl) (notFace_of_selects (args := #[]) (mvT Z1_ (W hw 118 rfl))) (W hw 118 rfl) (W hw 117 rfl) (by decide) (W hw 119 rfl) (W hw 10 rfl) e1 lA1 pd_0 rfl rfl rfl (by rw [hml]; rfl) rfl (hb hby d26_3) ?_
    intro T3 L3 v3 X3 hQ3
    obtain ⟨rfl, N3q, e3⟩ := hQ3
    have N3 := Fr.app (Fr.nil n0) N3q
    show Go p e below (T3.setTop (mkF m 6 _ [(.int (-1 : Int32))])) _
    refine Gk.istoreN X3 hx (hb hby d26_6) #[.val (.int p1), .val (.int (-1 : Int32))] rfl ?_
    refine Gk.iloadN X3 hx (hb hby d26_7) rfl ?_
    refine Gk.bipush X3 hx (hb hby d26_8) (16 : Int32) rfl ?_
    refine Gk.icmpNo X3 hx (hb hby d26_10) (tlt (by decide : (-1 : Int32) < (16 : Int32))).2.1 ?_
    refine Gk.iloadN X3 hx (hb hby d26_13) rfl ?_
    refine Gk.goto X3 hx (hb hby d26_14) 21 (by decide) (by decide) ?_
    exact Gk.rIH (s := s) X3 hx hret hns (hb hby d26_21) e3 S1_ (Nat.le_trans q1_ (Nat.le_refl _)) Z1_ (own_EW hw) hh R1_ ⟨⟨_, rfl, own_hxU hu_⟩, N3, ((Keep.refl h0 []).ext E1)⟩
  · show Go p e below (T1.setTop (mkF m 3 #[.val (.int p1), .unset] [(.int p1), (.ref la1)])) _
    have H7 := (S_COMPACT_STRINGS.ext E1)
    refine Gk.callV (argsL := [(.int p1)]) X1 hx Z1_ o1_ (io1L l Z a0 h1 n0 hw la1 p1 lb1 lk1 (fun i => .int ((fun j_ => lit0L.getD j_ 0) i)) w_COMPACT_STRINGS (Nat.le_trans Z0 E1.1) H7 lA1 lFc1 lFv1 lV1 rfl rfl rfl rfl rfl rfl rfl rfl rfl rfl rfl rfl rfl rfl rfl rfl rfl rfl rfl rfl rfl rfl (own_nn hb_) hu_ hcs) (W hw 115 rfl) (W hw 116 rfl) (notFace_of_selects (args := #[]) (mvT Z1_ (W hw 118 rfl))) (W hw 118 rfl) (W hw 117 rfl) (by decide) (W hw 119 rfl) (W hw 10 rfl) e1 lA1 pd_0 rfl rfl rfl (by rw [hml]; rfl) rfl (hb hby d26_3) ?_
    intro T6 L6 v6 X6 hQ6
    obtain ⟨rfl, N6q, e6⟩ := hQ6
    have N6 := Fr.app (Fr.nil n0) N6q
    show Go p e below (T6.setTop (mkF m 6 _ [(.int (idx22 (p1.toInt8.toInt32)))])) _
    obtain ⟨r0, er0⟩ : ∃ z_ : Int32, z_ = (idx22 (p1.toInt8.toInt32)) := ⟨_, rfl⟩
    show Go p e below (T6.setTop (mkF m 6 #[.val (.int p1), .unset] [(.int (idx22 (p1.toInt8.toInt32)))])) _
    rw [← er0]
    refine Gk.istoreN X6 hx (hb hby d26_6) #[.val (.int p1), .val (.int r0)] rfl ?_
    refine Gk.iloadN X6 hx (hb hby d26_7) rfl ?_
    refine Gk.bipush X6 hx (hb hby d26_8) (16 : Int32) rfl ?_
    by_cases hc10 : r0 < (16 : Int32)
    · refine Gk.icmpNo X6 hx (hb hby d26_10) (tlt hc10).2.1 ?_
      refine Gk.iloadN X6 hx (hb hby d26_13) rfl ?_
      refine Gk.goto X6 hx (hb hby d26_14) 21 (by decide) (by decide) ?_
      exact Gk.rIH (s := s) X6 hx hret hns (hb hby d26_21) e6 S1_ (Nat.le_trans q1_ (Nat.le_refl _)) Z1_ (own_EW hw) hh R1_ ⟨⟨_, rfl, own_hx1 er0 hb_ hu_⟩, N6, ((Keep.refl h0 []).ext E1)⟩
    · refine Gk.icmpYes X6 hx (hb hby d26_10) (flt hc10).2.1 17 (by decide) (by decide) ?_
      refine Gk.iloadN X6 hx (hb hby d26_17) rfl ?_
      refine Gk.bipush X6 hx (hb hby d26_18) (6 : Int32) rfl ?_
      refine Gk.isub X6 hx (hb hby d26_20) _ rfl ?_
      exact Gk.rIH (s := s) X6 hx hret hns (hb hby d26_21) e6 S1_ (Nat.le_trans q1_ (Nat.le_refl _)) Z1_ (own_EW hw) hh R1_ ⟨⟨_, rfl, own_hx2 er0 hb_ hu_ hc10⟩, N6, ((Keep.refl h0 []).ext E1)⟩
theorem d25_0 : decode method_4_code 0 = .ok (.iload_n 0, 1) := by decide +kernel
theorem d25_1 : decode method_4_code 1 = .ok (.bipush 48, 2) := by decide +kernel
theorem d25_3 : decode method_4_code 3 = .ok (.if_icmp .lt 9, 3) := by decide +kernel
theorem d25_6 : decode method_4_code 6 = .ok (.iload_n 0, 1) := by decide +kernel
theorem d25_7 : decode method_4_code 7 = .ok (.bipush 57, 2) := by decide +kernel
theorem d25_9 : decode method_4_code 9 = .ok (.if_icmp .le 27, 3) := by decide +kernel
theorem d25_12 : decode method_4_code 12 = .ok (.iload_n 0, 1) := by decide +kernel
theorem d25_13 : decode method_4_code 13 = .ok (.bipush 65, 2) := by decide +kernel
theorem d25_15 : decode method_4_code 15 = .ok (.if_icmp .lt 9, 3) := by decide +kernel
theorem d25_18 : decode method_4_code 18 = .ok (.iload_n 0, 1) := by decide +kernel
theorem d25_19 : decode method_4_code 19 = .ok (.bipush 70, 2) := by decide +kernel
theorem d25_21 : decode method_4_code 21 = .ok (.if_icmp .le 15, 3) := by decide +kernel
theorem d25_24 : decode method_4_code 24 = .ok (.iload_n 0, 1) := by decide +kernel
theorem d25_25 : decode method_4_code 25 = .ok (.bipush 97, 2) := by decide +kernel
theorem d25_27 : decode method_4_code 27 = .ok (.if_icmp .lt 13, 3) := by decide +kernel
theorem d25_30 : decode method_4_code 30 = .ok (.iload_n 0, 1) := by decide +kernel
theorem d25_31 : decode method_4_code 31 = .ok (.bipush 102, 2) := by decide +kernel
theorem d25_33 : decode method_4_code 33 = .ok (.if_icmp .gt 7, 3) := by decide +kernel
theorem d25_36 : decode method_4_code 36 = .ok (.iconst 1, 1) := by decide +kernel
theorem d25_37 : decode method_4_code 37 = .ok (.goto 4, 3) := by decide +kernel
theorem d25_40 : decode method_4_code 40 = .ok (.iconst 0, 1) := by decide +kernel
theorem d25_41 : decode method_4_code 41 = .ok (.ireturn, 1) := by decide +kernel
theorem ishex (hw : HW Z a0) (p1 : Int32) (Z0 : n0 ≤ h0.size) : Ct l ⟨"com/example/method_to_route/methodtoroute/PercentEncodingIsEscapePinLaw", "isHex", "(C)Z"⟩ method_4_code 1 (some .boolean) ⟨0, 0, 0, 0⟩ #[(.int p1)] Z h0 (fun v h L => v = some (.int (hexB p1)) ∧ Fr n0 L ∧ h = h0) := by
  refine Ct.of "com/example/method_to_route/methodtoroute/PercentEncodingIsEscapePinLaw" rfl (plainFor_of_name pn_191) #[.val (.int p1)] rfl rfl ?_
  intro p e s m below meth c s₁ hx hby hml hown hnm hret hns hZ hh X0 e0
  refine Gk.iloadN X0 hx (hb hby d25_0) rfl ?_
  refine Gk.bipush X0 hx (hb hby d25_1) (48 : Int32) rfl ?_
  by_cases hc3 : p1 < (48 : Int32)
  · refine Gk.icmpYes X0 hx (hb hby d25_3) (tlt hc3).1 12 (by decide) (by decide) ?_
    refine Gk.iloadN X0 hx (hb hby d25_12) rfl ?_
    refine Gk.bipush X0 hx (hb hby d25_13) (65 : Int32) rfl ?_
    by_cases hc15 : p1 < (65 : Int32)
    · refine Gk.icmpYes X0 hx (hb hby d25_15) (tlt hc15).1 24 (by decide) (by decide) ?_
      refine Gk.iloadN X0 hx (hb hby d25_24) rfl ?_
      refine Gk.bipush X0 hx (hb hby d25_25) (97 : Int32) rfl ?_
      by_cases hc27 : p1 < (97 : Int32)
      · refine Gk.icmpYes X0 hx (hb hby d25_27) (tlt hc27).1 40 (by decide) (by decide) ?_
        refine Gk.iconst X0 hx (hb hby d25_40) (0 : Int32) rfl ?_
        exact Gk.rN X0 hx hret (by simp) hns (hb hby d25_41) e0 (0 : Int32) rfl ⟨congrArg (fun z_ : Int32 => some (Value.int z_)) (show (0 : Int32) = (hexB p1) from (by unfold hexB; simp [hc3, hc15, hc27])), (Fr.nil n0), rfl⟩
      · refine Gk.icmpNo X0 hx (hb hby d25_27) (flt hc27).1 ?_
        refine Gk.iloadN X0 hx (hb hby d25_30) rfl ?_
        refine Gk.bipush X0 hx (hb hby d25_31) (102 : Int32) rfl ?_
        by_cases hc33 : (102 : Int32) < p1
        · refine Gk.icmpYes X0 hx (hb hby d25_33) (tlt hc33).2.2.1 40 (by decide) (by decide) ?_
          refine Gk.iconst X0 hx (hb hby d25_40) (0 : Int32) rfl ?_
          exact Gk.rN X0 hx hret (by simp) hns (hb hby d25_41) e0 (0 : Int32) rfl ⟨congrArg (fun z_ : Int32 => some (Value.int z_)) (show (0 : Int32) = (hexB p1) from (by unfold hexB; simp [hc3, hc15, hc27, hc33])), (Fr.nil n0), rfl⟩
        · refine Gk.icmpNo X0 hx (hb hby d25_33) (flt hc33).2.2.1 ?_
          refine Gk.iconst X0 hx (hb hby d25_36) (1 : Int32) rfl ?_
          refine Gk.goto X0 hx (hb hby d25_37) 41 (by decide) (by decide) ?_
          exact Gk.rN X0 hx hret (by simp) hns (hb hby d25_41) e0 (1 : Int32) rfl ⟨congrArg (fun z_ : Int32 => some (Value.int z_)) (show (1 : Int32) = (hexB p1) from (by unfold hexB; simp [hc3, hc15, hc27, hc33])), (Fr.nil n0), rfl⟩
    · refine Gk.icmpNo X0 hx (hb hby d25_15) (flt hc15).1 ?_
      refine Gk.iloadN X0 hx (hb hby d25_18) rfl ?_
      refine Gk.bipush X0 hx (hb hby d25_19) (70 : Int32) rfl ?_
      by_cases hc21 : (70 : Int32) < p1
      · refine Gk.icmpNo X0 hx (hb hby d25_21) (tlt hc21).2.2.2 ?_
        refine Gk.iloadN X0 hx (hb hby d25_24) rfl ?_
        refine Gk.bipush X0 hx (hb hby d25_25) (97 : Int32) rfl ?_
        by_cases hc27 : p1 < (97 : Int32)
        · refine Gk.icmpYes X0 hx (hb hby d25_27) (tlt hc27).1 40 (by decide) (by decide) ?_
          refine Gk.iconst X0 hx (hb hby d25_40) (0 : Int32) rfl ?_
          exact Gk.rN X0 hx hret (by simp) hns (hb hby d25_41) e0 (0 : Int32) rfl ⟨congrArg (fun z_ : Int32 => some (Value.int z_)) (show (0 : Int32) = (hexB p1) from (by unfold hexB; simp [hc3, hc15, hc21, hc27])), (Fr.nil n0), rfl⟩
        · refine Gk.icmpNo X0 hx (hb hby d25_27) (flt hc27).1 ?_
          refine Gk.iloadN X0 hx (hb hby d25_30) rfl ?_
          refine Gk.bipush X0 hx (hb hby d25_31) (102 : Int32) rfl ?_
          by_cases hc33 : (102 : Int32) < p1
          · refine Gk.icmpYes X0 hx (hb hby d25_33) (tlt hc33).2.2.1 40 (by decide) (by decide) ?_
            refine Gk.iconst X0 hx (hb hby d25_40) (0 : Int32) rfl ?_
            exact Gk.rN X0 hx hret (by simp) hns (hb hby d25_41) e0 (0 : Int32) rfl ⟨congrArg (fun z_ : Int32 => some (Value.int z_)) (show (0 : Int32) = (hexB p1) from (by unfold hexB; simp [hc3, hc15, hc21, hc27, hc33])), (Fr.nil n0), rfl⟩
          · refine Gk.icmpNo X0 hx (hb hby d25_33) (flt hc33).2.2.1 ?_
            refine Gk.iconst X0 hx (hb hby d25_36) (1 : Int32) rfl ?_
            refine Gk.goto X0 hx (hb hby d25_37) 41 (by decide) (by decide) ?_
            exact Gk.rN X0 hx hret (by simp) hns (hb hby d25_41) e0 (1 : Int32) rfl ⟨congrArg (fun z_ : Int32 => some (Value.int z_)) (show (1 : Int32) = (hexB p1) from (by unfold hexB; simp [hc3, hc15, hc21, hc27, hc33])), (Fr.nil n0), rfl⟩
      · refine Gk.icmpYes X0 hx (hb hby d25_21) (flt hc21).2.2.2 36 (by decide) (by decide) ?_
        refine Gk.iconst X0 hx (hb hby d25_36) (1 : Int32) rfl ?_
        refine Gk.goto X0 hx (hb hby d25_37) 41 (by decide) (by decide) ?_
        exact Gk.rN X0 hx hret (by simp) hns (hb hby d25_41) e0 (1 : Int32) rfl ⟨congrArg (fun z_ : Int32 => some (Value.int z_)) (show (1 : Int32) = (hexB p1) from (by unfold hexB; simp [hc3, hc15, hc21])), (Fr.nil n0), rfl⟩
  · refine Gk.icmpNo X0 hx (hb hby d25_3) (flt hc3).1 ?_
    refine Gk.iloadN X0 hx (hb hby d25_6) rfl ?_
    refine Gk.bipush X0 hx (hb hby d25_7) (57 : Int32) rfl ?_
    by_cases hc9 : (57 : Int32) < p1
    · refine Gk.icmpNo X0 hx (hb hby d25_9) (tlt hc9).2.2.2 ?_
      refine Gk.iloadN X0 hx (hb hby d25_12) rfl ?_
      refine Gk.bipush X0 hx (hb hby d25_13) (65 : Int32) rfl ?_
      by_cases hc15 : p1 < (65 : Int32)
      · refine Gk.icmpYes X0 hx (hb hby d25_15) (tlt hc15).1 24 (by decide) (by decide) ?_
        refine Gk.iloadN X0 hx (hb hby d25_24) rfl ?_
        refine Gk.bipush X0 hx (hb hby d25_25) (97 : Int32) rfl ?_
        by_cases hc27 : p1 < (97 : Int32)
        · refine Gk.icmpYes X0 hx (hb hby d25_27) (tlt hc27).1 40 (by decide) (by decide) ?_
          refine Gk.iconst X0 hx (hb hby d25_40) (0 : Int32) rfl ?_
          exact Gk.rN X0 hx hret (by simp) hns (hb hby d25_41) e0 (0 : Int32) rfl ⟨congrArg (fun z_ : Int32 => some (Value.int z_)) (show (0 : Int32) = (hexB p1) from (by unfold hexB; simp [hc3, hc9, hc15, hc27])), (Fr.nil n0), rfl⟩
        · refine Gk.icmpNo X0 hx (hb hby d25_27) (flt hc27).1 ?_
          refine Gk.iloadN X0 hx (hb hby d25_30) rfl ?_
          refine Gk.bipush X0 hx (hb hby d25_31) (102 : Int32) rfl ?_
          by_cases hc33 : (102 : Int32) < p1
          · refine Gk.icmpYes X0 hx (hb hby d25_33) (tlt hc33).2.2.1 40 (by decide) (by decide) ?_
            refine Gk.iconst X0 hx (hb hby d25_40) (0 : Int32) rfl ?_
            exact Gk.rN X0 hx hret (by simp) hns (hb hby d25_41) e0 (0 : Int32) rfl ⟨congrArg (fun z_ : Int32 => some (Value.int z_)) (show (0 : Int32) = (hexB p1) from (by unfold hexB; simp [hc3, hc9, hc15, hc27, hc33])), (Fr.nil n0), rfl⟩
          · refine Gk.icmpNo X0 hx (hb hby d25_33) (flt hc33).2.2.1 ?_
            refine Gk.iconst X0 hx (hb hby d25_36) (1 : Int32) rfl ?_
            refine Gk.goto X0 hx (hb hby d25_37) 41 (by decide) (by decide) ?_
            exact Gk.rN X0 hx hret (by simp) hns (hb hby d25_41) e0 (1 : Int32) rfl ⟨congrArg (fun z_ : Int32 => some (Value.int z_)) (show (1 : Int32) = (hexB p1) from (by unfold hexB; simp [hc3, hc9, hc15, hc27, hc33])), (Fr.nil n0), rfl⟩
      · refine Gk.icmpNo X0 hx (hb hby d25_15) (flt hc15).1 ?_
        refine Gk.iloadN X0 hx (hb hby d25_18) rfl ?_
        refine Gk.bipush X0 hx (hb hby d25_19) (70 : Int32) rfl ?_
        by_cases hc21 : (70 : Int32) < p1
        · refine Gk.icmpNo X0 hx (hb hby d25_21) (tlt hc21).2.2.2 ?_
          refine Gk.iloadN X0 hx (hb hby d25_24) rfl ?_
          refine Gk.bipush X0 hx (hb hby d25_25) (97 : Int32) rfl ?_
          by_cases hc27 : p1 < (97 : Int32)
          · refine Gk.icmpYes X0 hx (hb hby d25_27) (tlt hc27).1 40 (by decide) (by decide) ?_
            refine Gk.iconst X0 hx (hb hby d25_40) (0 : Int32) rfl ?_
            exact Gk.rN X0 hx hret (by simp) hns (hb hby d25_41) e0 (0 : Int32) rfl ⟨congrArg (fun z_ : Int32 => some (Value.int z_)) (show (0 : Int32) = (hexB p1) from (by unfold hexB; simp [hc3, hc9, hc15, hc21, hc27])), (Fr.nil n0), rfl⟩
          · refine Gk.icmpNo X0 hx (hb hby d25_27) (flt hc27).1 ?_
            refine Gk.iloadN X0 hx (hb hby d25_30) rfl ?_
            refine Gk.bipush X0 hx (hb hby d25_31) (102 : Int32) rfl ?_
            by_cases hc33 : (102 : Int32) < p1
            · refine Gk.icmpYes X0 hx (hb hby d25_33) (tlt hc33).2.2.1 40 (by decide) (by decide) ?_
              refine Gk.iconst X0 hx (hb hby d25_40) (0 : Int32) rfl ?_
              exact Gk.rN X0 hx hret (by simp) hns (hb hby d25_41) e0 (0 : Int32) rfl ⟨congrArg (fun z_ : Int32 => some (Value.int z_)) (show (0 : Int32) = (hexB p1) from (by unfold hexB; simp [hc3, hc9, hc15, hc21, hc27, hc33])), (Fr.nil n0), rfl⟩
            · refine Gk.icmpNo X0 hx (hb hby d25_33) (flt hc33).2.2.1 ?_
              refine Gk.iconst X0 hx (hb hby d25_36) (1 : Int32) rfl ?_
              refine Gk.goto X0 hx (hb hby d25_37) 41 (by decide) (by decide) ?_
              exact Gk.rN X0 hx hret (by simp) hns (hb hby d25_41) e0 (1 : Int32) rfl ⟨congrArg (fun z_ : Int32 => some (Value.int z_)) (show (1 : Int32) = (hexB p1) from (by unfold hexB; simp [hc3, hc9, hc15, hc21, hc27, hc33])), (Fr.nil n0), rfl⟩
        · refine Gk.icmpYes X0 hx (hb hby d25_21) (flt hc21).2.2.2 36 (by decide) (by decide) ?_
          refine Gk.iconst X0 hx (hb hby d25_36) (1 : Int32) rfl ?_
          refine Gk.goto X0 hx (hb hby d25_37) 41 (by decide) (by decide) ?_
          exact Gk.rN X0 hx hret (by simp) hns (hb hby d25_41) e0 (1 : Int32) rfl ⟨congrArg (fun z_ : Int32 => some (Value.int z_)) (show (1 : Int32) = (hexB p1) from (by unfold hexB; simp [hc3, hc9, hc15, hc21])), (Fr.nil n0), rfl⟩
    · refine Gk.icmpYes X0 hx (hb hby d25_9) (flt hc9).2.2.2 36 (by decide) (by decide) ?_
      refine Gk.iconst X0 hx (hb hby d25_36) (1 : Int32) rfl ?_
      refine Gk.goto X0 hx (hb hby d25_37) 41 (by decide) (by decide) ?_
      exact Gk.rN X0 hx hret (by simp) hns (hb hby d25_41) e0 (1 : Int32) rfl ⟨congrArg (fun z_ : Int32 => some (Value.int z_)) (show (1 : Int32) = (hexB p1) from (by unfold hexB; simp [hc3, hc9])), (Fr.nil n0), rfl⟩
theorem d9_0 : decode prog_8_method_9_code 0 = .ok (.iload_n 1, 1) := by decide +kernel
theorem d9_1 : decode prog_8_method_9_code 1 = .ok (.iconst 2, 1) := by decide +kernel
theorem d9_2 : decode prog_8_method_9_code 2 = .ok (.iadd, 1) := by decide +kernel
theorem d9_3 : decode prog_8_method_9_code 3 = .ok (.aload_n 0, 1) := by decide +kernel
theorem d9_4 : decode prog_8_method_9_code 4 = .ok (.invokevirtual 90, 3) := by decide +kernel
theorem d9_7 : decode prog_8_method_9_code 7 = .ok (.if_icmp .ge 43, 3) := by decide +kernel
theorem d9_50 : decode prog_8_method_9_code 50 = .ok (.iconst 0, 1) := by decide +kernel
theorem d9_51 : decode prog_8_method_9_code 51 = .ok (.ireturn, 1) := by decide +kernel
theorem ie0_0 (hw : HW Z a0) (a1 : Addr) (p2 : Int32) (b1 : Addr) (kb : ClassId) (fb : Nat → Value) (n1 w_COMPACT_STRINGS : Int32) (Z0 : n0 ≤ h0.size) (S_COMPACT_STRINGS : Stx Z n0 h0 "java/lang/String" "COMPACT_STRINGS" "Z" (.int w_COMPACT_STRINGS)) (E_a1 : Exa Z h0 a1 "java/lang/String") (Fc1 : Fld Z h0 a1 "java/lang/String" "coder" "B" (.int (0 : Int32))) (Fv1 : Fld Z h0 a1 "java/lang/String" "value" "[B" (.ref b1)) (V_b : Arf Z h0 b1 kb .byte n1 fb) (hge : ¬ ((p2 + (2 : Int32)) < (n1 >>> ((0 : Int32) &&& 31)))) (hcs : ¬ (w_COMPACT_STRINGS = (0 : Int32))) : Ct l ⟨"com/example/method_to_route/methodtoroute/PercentEncoding", "isEscape", "(Ljava/lang/String;I)Z"⟩ prog_8_method_9_code 2 (some .boolean) ⟨2, 0, 0, 26⟩ #[(.ref a1), (.int p2)] Z h0 (fun v h L => v = some (.int (0 : Int32)) ∧ Fr n0 L ∧ h = h0) := by
  refine Ct.of "com/example/method_to_route/methodtoroute/PercentEncoding" rfl (plainFor_of_name pn_460) #[.val (.ref a1), .val (.int p2)] rfl rfl ?_
  intro p e s m below meth c s₁ hx hby hml hown hnm hret hns hZ hh X0 e0
  refine Gk.iloadN X0 hx (hb hby d9_0) rfl ?_
  refine Gk.iconst X0 hx (hb hby d9_1) (2 : Int32) rfl ?_
  refine Gk.iadd X0 hx (hb hby d9_2) _ rfl ?_
  refine Gk.aloadN X0 hx (hb hby d9_3) rfl rfl ?_
  refine Gk.callV (argsL := []) X0 hx hZ hown (len_0 l Z a0 h0 n0 hw a1 b1 kb fb n1 w_COMPACT_STRINGS Z0 S_COMPACT_STRINGS E_a1 Fc1 Fv1 V_b hcs) (W hw 41 rfl) (W hw 42 rfl) (notFace_of_selects (args := #[]) (mvT hZ (W hw 44 rfl))) (W hw 44 rfl) (W hw 43 rfl) (by decide) (W hw 45 rfl) (W hw 10 rfl) e0 E_a1 pd_18 rfl rfl rfl (by rw [hml]; rfl) rfl (hb hby d9_4) ?_
  intro T1 L1 v1 X1 hQ1
  obtain ⟨rfl, N1q, e1⟩ := hQ1
  have N1 := Fr.app (Fr.nil n0) N1q
  show Go p e below (T1.setTop (mkF m 7 _ [(.int (n1 >>> ((0 : Int32) &&& 31))), (.int (p2 + (2 : Int32)))])) _
  have hc7 : ¬ ((p2 + (2 : Int32)) < (n1 >>> ((0 : Int32) &&& 31))) := hge
  refine Gk.icmpYes X1 hx (hb hby d9_7) (flt hc7).2.1 50 (by decide) (by decide) ?_
  refine Gk.iconst X1 hx (hb hby d9_50) (0 : Int32) rfl ?_
  exact Gk.rN X1 hx hret (by simp) hns (hb hby d9_51) e1 (0 : Int32) rfl ⟨rfl, N1, rfl⟩
theorem ie0_1 (hw : HW Z a0) (a1 : Addr) (p2 : Int32) (b1 : Addr) (kb : ClassId) (fb : Nat → Value) (n1 w_COMPACT_STRINGS : Int32) (Z0 : n0 ≤ h0.size) (S_COMPACT_STRINGS : Stx Z n0 h0 "java/lang/String" "COMPACT_STRINGS" "Z" (.int w_COMPACT_STRINGS)) (E_a1 : Exa Z h0 a1 "java/lang/String") (Fc1 : Fld Z h0 a1 "java/lang/String" "coder" "B" (.int (1 : Int32))) (Fv1 : Fld Z h0 a1 "java/lang/String" "value" "[B" (.ref b1)) (V_b : Arf Z h0 b1 kb .byte n1 fb) (hge : ¬ ((p2 + (2 : Int32)) < (n1 >>> ((1 : Int32) &&& 31)))) (hcs : ¬ (w_COMPACT_STRINGS = (0 : Int32))) : Ct l ⟨"com/example/method_to_route/methodtoroute/PercentEncoding", "isEscape", "(Ljava/lang/String;I)Z"⟩ prog_8_method_9_code 2 (some .boolean) ⟨2, 0, 0, 26⟩ #[(.ref a1), (.int p2)] Z h0 (fun v h L => v = some (.int (0 : Int32)) ∧ Fr n0 L ∧ h = h0) := by
  refine Ct.of "com/example/method_to_route/methodtoroute/PercentEncoding" rfl (plainFor_of_name pn_460) #[.val (.ref a1), .val (.int p2)] rfl rfl ?_
  intro p e s m below meth c s₁ hx hby hml hown hnm hret hns hZ hh X0 e0
  refine Gk.iloadN X0 hx (hb hby d9_0) rfl ?_
  refine Gk.iconst X0 hx (hb hby d9_1) (2 : Int32) rfl ?_
  refine Gk.iadd X0 hx (hb hby d9_2) _ rfl ?_
  refine Gk.aloadN X0 hx (hb hby d9_3) rfl rfl ?_
  refine Gk.callV (argsL := []) X0 hx hZ hown (len_1 l Z a0 h0 n0 hw a1 b1 kb fb n1 w_COMPACT_STRINGS Z0 S_COMPACT_STRINGS E_a1 Fc1 Fv1 V_b hcs) (W hw 41 rfl) (W hw 42 rfl) (notFace_of_selects (args := #[]) (mvT hZ (W hw 44 rfl))) (W hw 44 rfl) (W hw 43 rfl) (by decide) (W hw 45 rfl) (W hw 10 rfl) e0 E_a1 pd_18 rfl rfl rfl (by rw [hml]; rfl) rfl (hb hby d9_4) ?_
  intro T1 L1 v1 X1 hQ1
  obtain ⟨rfl, N1q, e1⟩ := hQ1
  have N1 := Fr.app (Fr.nil n0) N1q
  show Go p e below (T1.setTop (mkF m 7 _ [(.int (n1 >>> ((1 : Int32) &&& 31))), (.int (p2 + (2 : Int32)))])) _
  have hc7 : ¬ ((p2 + (2 : Int32)) < (n1 >>> ((1 : Int32) &&& 31))) := hge
  refine Gk.icmpYes X1 hx (hb hby d9_7) (flt hc7).2.1 50 (by decide) (by decide) ?_
  refine Gk.iconst X1 hx (hb hby d9_50) (0 : Int32) rfl ?_
  exact Gk.rN X1 hx hret (by simp) hns (hb hby d9_51) e1 (0 : Int32) rfl ⟨rfl, N1, rfl⟩
theorem pd_19 : parseMethodDescriptor "(I)C" = some ⟨[.int], some .char⟩ := by decide +kernel
theorem pd_20 : parseMethodDescriptor "(C)I" = some ⟨[.char], some .int⟩ := by decide +kernel
theorem d9_10 : decode prog_8_method_9_code 10 = .ok (.aload_n 0, 1) := by decide +kernel
theorem d9_11 : decode prog_8_method_9_code 11 = .ok (.iload_n 1, 1) := by decide +kernel
theorem d9_12 : decode prog_8_method_9_code 12 = .ok (.invokevirtual 97, 3) := by decide +kernel
theorem d9_15 : decode prog_8_method_9_code 15 = .ok (.bipush 37, 2) := by decide +kernel
theorem d9_17 : decode prog_8_method_9_code 17 = .ok (.if_icmp .ne 33, 3) := by decide +kernel
theorem d9_20 : decode prog_8_method_9_code 20 = .ok (.aload_n 0, 1) := by decide +kernel
theorem d9_21 : decode prog_8_method_9_code 21 = .ok (.iload_n 1, 1) := by decide +kernel
theorem d9_22 : decode prog_8_method_9_code 22 = .ok (.iconst 1, 1) := by decide +kernel
theorem d9_23 : decode prog_8_method_9_code 23 = .ok (.iadd, 1) := by decide +kernel
theorem d9_24 : decode prog_8_method_9_code 24 = .ok (.invokevirtual 97, 3) := by decide +kernel
theorem d9_27 : decode prog_8_method_9_code 27 = .ok (.invokestatic 135, 3) := by decide +kernel
theorem d9_30 : decode prog_8_method_9_code 30 = .ok (.ifCond .lt 20, 3) := by decide +kernel
theorem d9_33 : decode prog_8_method_9_code 33 = .ok (.aload_n 0, 1) := by decide +kernel
theorem d9_34 : decode prog_8_method_9_code 34 = .ok (.iload_n 1, 1) := by decide +kernel
theorem d9_35 : decode prog_8_method_9_code 35 = .ok (.iconst 2, 1) := by decide +kernel
theorem d9_36 : decode prog_8_method_9_code 36 = .ok (.iadd, 1) := by decide +kernel
theorem d9_37 : decode prog_8_method_9_code 37 = .ok (.invokevirtual 97, 3) := by decide +kernel
theorem d9_40 : decode prog_8_method_9_code 40 = .ok (.invokestatic 135, 3) := by decide +kernel
theorem d9_43 : decode prog_8_method_9_code 43 = .ok (.ifCond .lt 7, 3) := by decide +kernel
theorem d9_46 : decode prog_8_method_9_code 46 = .ok (.iconst 1, 1) := by decide +kernel
theorem d9_47 : decode prog_8_method_9_code 47 = .ok (.goto 4, 3) := by decide +kernel
theorem ie_0_0 (hw : HW Z a0) (a1 b1 : Addr) (kb : ClassId) (fb : Nat → Value) (n1 c0 c1 c2 w_COMPACT_STRINGS : Int32) (w_SIOOBE_FORMATTER : Value) (Z0 : n0 ≤ h0.size) (S_COMPACT_STRINGS : Stx Z n0 h0 "java/lang/String" "COMPACT_STRINGS" "Z" (.int w_COMPACT_STRINGS)) (S_SIOOBE_FORMATTER : Stx Z n0 h0 "jdk/internal/util/Preconditions" "SIOOBE_FORMATTER" "Ljava/util/function/BiFunction;" w_SIOOBE_FORMATTER) (E_a1 : Exa Z h0 a1 "java/lang/String") (Fc1 : Fld Z h0 a1 "java/lang/String" "coder" "B" (.int (0 : Int32))) (Fv1 : Fld Z h0 a1 "java/lang/String" "value" "[B" (.ref b1)) (V_b : Arf Z h0 b1 kb .byte n1 fb) (hlt : (2 : Int32) < (n1 >>> ((0 : Int32) &&& 31))) (hx0 : (0 : Int32) < n1) (hx1 : (1 : Int32) < n1) (hx2 : (2 : Int32) < n1) (hl0 : fb 0 = .int (c0.toInt8.toInt32)) (hl1 : fb 1 = .int (c1.toInt8.toInt32)) (hl2 : fb 2 = .int (c2.toInt8.toInt32)) (hle0 : ¬ ((255 : Int32) < c0)) (hle1 : ¬ ((255 : Int32) < c1)) (hle2 : ¬ ((255 : Int32) < c2)) (hb0 : 0 ≤ c0.toInt ∧ c0.toInt < 65536) (hb1 : 0 ≤ c1.toInt ∧ c1.toInt < 65536) (hb2 : 0 ≤ c2.toInt ∧ c2.toInt < 65536) (hcs : ¬ (w_COMPACT_STRINGS = (0 : Int32))) (hsf : w_SIOOBE_FORMATTER.isRef = true) : CtH l ⟨"com/example/method_to_route/methodtoroute/PercentEncoding", "isEscape", "(Ljava/lang/String;I)Z"⟩ prog_8_method_9_code 2 (some .boolean) ⟨5, 4, 184, 72⟩ #[(.ref a1), (.int (0 : Int32))] Z h0 consts_1 (fun v h L => v = some (.int (isEsc c0 c1 c2)) ∧ Fr n0 L ∧ Keep h0 h []) := by
  refine CtH.of "com/example/method_to_route/methodtoroute/PercentEncoding" rfl (plainFor_of_name pn_460) #[.val (.ref a1), .val (.int (0 : Int32))] rfl rfl ?_
  intro p e s m below meth c s₁ hx hby hml hown hnm hret hns hZ hh X0 e0 hCH
  refine Gk.iloadN X0 hx (hb hby d9_0) rfl ?_
  refine Gk.iconst X0 hx (hb hby d9_1) (2 : Int32) rfl ?_
  refine Gk.iadd X0 hx (hb hby d9_2) (2 : Int32) (by decide) ?_
  refine Gk.aloadN X0 hx (hb hby d9_3) rfl rfl ?_
  refine Gk.callV (argsL := []) X0 hx hZ hown (len_0 l Z a0 h0 n0 hw a1 b1 kb fb n1 w_COMPACT_STRINGS Z0 S_COMPACT_STRINGS E_a1 Fc1 Fv1 V_b hcs) (W hw 41 rfl) (W hw 42 rfl) (notFace_of_selects (args := #[]) (mvT hZ (W hw 44 rfl))) (W hw 44 rfl) (W hw 43 rfl) (by decide) (W hw 45 rfl) (W hw 10 rfl) e0 E_a1 pd_18 rfl rfl rfl (by rw [hml]; rfl) rfl (hb hby d9_4) ?_
  intro T1 L1 v1 X1 hQ1
  obtain ⟨rfl, N1q, e1⟩ := hQ1
  have N1 := Fr.app (Fr.nil n0) N1q
  show Go p e below (T1.setTop (mkF m 7 _ [(.int (n1 >>> ((0 : Int32) &&& 31))), (.int (2 : Int32))])) _
  have hc7 : (2 : Int32) < (n1 >>> ((0 : Int32) &&& 31)) := hlt
  refine Gk.icmpNo X1 hx (hb hby d9_7) (tlt hc7).2.1 ?_
  refine Gk.aloadN X1 hx (hb hby d9_10) rfl rfl ?_
  refine Gk.iloadN X1 hx (hb hby d9_11) rfl ?_
  refine Gk.callV (argsL := [(.int (0 : Int32))]) X1 hx hZ hown (scx l Z a0 h0 n0 hw a1 (0 : Int32) b1 kb fb n1 (c0.toInt8.toInt32) w_COMPACT_STRINGS w_SIOOBE_FORMATTER Z0 S_COMPACT_STRINGS S_SIOOBE_FORMATTER E_a1 Fc1 Fv1 V_b (by decide) hx0 hl0 hcs hsf) (W hw 51 rfl) (W hw 52 rfl) (notFace_of_selects (args := #[]) (mvT hZ (W hw 54 rfl))) (W hw 54 rfl) (W hw 53 rfl) (by decide) (W hw 55 rfl) (W hw 10 rfl) e1 E_a1 pd_19 rfl rfl rfl (by rw [hml]; rfl) rfl (hb hby d9_12) ?_
  intro T2 L2 v2 X2 hQ2
  obtain ⟨rfl, N2q, e2⟩ := hQ2
  have N2 := Fr.app N1 N2q
  show Go p e below (T2.setTop (mkF m 15 _ [(.int (nar .char (nar .char (((c0.toInt8.toInt32) &&& (255 : Int32)).toUInt32.toUInt16.toUInt32.toInt32))))])) _
  rw [show (nar .char (nar .char (((c0.toInt8.toInt32) &&& (255 : Int32)).toUInt32.toUInt16.toUInt32.toInt32))) = c0 from own_decL hb0 hle0]
  refine Gk.bipush X2 hx (hb hby d9_15) (37 : Int32) rfl ?_
  by_cases hc17 : c0 = (37 : Int32)
  · refine Gk.icmpNo X2 hx (hb hby d9_17) (teq hc17).2 ?_
    refine Gk.aloadN X2 hx (hb hby d9_20) rfl rfl ?_
    refine Gk.iloadN X2 hx (hb hby d9_21) rfl ?_
    refine Gk.iconst X2 hx (hb hby d9_22) (1 : Int32) rfl ?_
    refine Gk.iadd X2 hx (hb hby d9_23) (1 : Int32) (by decide) ?_
    refine Gk.callV (argsL := [(.int (1 : Int32))]) X2 hx hZ hown (scx l Z a0 h0 n0 hw a1 (1 : Int32) b1 kb fb n1 (c1.toInt8.toInt32) w_COMPACT_STRINGS w_SIOOBE_FORMATTER Z0 S_COMPACT_STRINGS S_SIOOBE_FORMATTER E_a1 Fc1 Fv1 V_b (by decide) hx1 hl1 hcs hsf) (W hw 51 rfl) (W hw 52 rfl) (notFace_of_selects (args := #[]) (mvT hZ (W hw 54 rfl))) (W hw 54 rfl) (W hw 53 rfl) (by decide) (W hw 55 rfl) (W hw 10 rfl) e2 E_a1 pd_19 rfl rfl rfl (by rw [hml]; rfl) rfl (hb hby d9_24) ?_
    intro T3 L3 v3 X3 hQ3
    obtain ⟨rfl, N3q, e3⟩ := hQ3
    have N3 := Fr.app N2 N3q
    show Go p e below (T3.setTop (mkF m 27 _ [(.int (nar .char (nar .char (((c1.toInt8.toInt32) &&& (255 : Int32)).toUInt32.toUInt16.toUInt32.toInt32))))])) _
    rw [show (nar .char (nar .char (((c1.toInt8.toInt32) &&& (255 : Int32)).toUInt32.toUInt16.toUInt32.toInt32))) = c1 from own_decL hb1 hle1]
    have R5_ := CHr.refl hCH
    refine Gk.callSH (s := s) (argsL := [(.int c1)]) (show Stand p l e _ (s.setVm s.vm) m _ below meth c _ _ _ _ from X3) hx hZ hown (hexd l Z a0 h0 n0 hw c1 w_COMPACT_STRINGS Z0 S_COMPACT_STRINGS hb1 hcs) (W hw 111 rfl) (W hw 112 rfl) (W hw 39 rfl) (W hw 113 rfl) (by decide) e3 ((State.WarmedH.refl s).since 0) (Nat.zero_le _) (own_EW hw) R5_.1 pd_20 rfl rfl rfl (by rw [hml]; rfl) rfl (hb hby d9_27) ?_
    intro T4 L4 v4 kS4 X4 S4_ q4_ Z4_ o4_ C4_ hQ4
    have R4_ := R5_.trans C4_
    obtain ⟨⟨r4, rfl, qh30⟩, N4q, K4⟩ := hQ4
    have N4 := Fr.app N3 N4q
    show Go p e below (T4.setTop (mkF m 30 _ [(.int r4)])) _
    by_cases hc30 : r4 < (0 : Int32)
    · refine Gk.ifYes X4 hx (hb hby d9_30) (tlt hc30).1 50 (by decide) (by decide) ?_
      refine Gk.iconst X4 hx (hb hby d9_50) (0 : Int32) rfl ?_
      exact Gk.rNH (s := s) X4 hx hret (by simp) hns (hb hby d9_51) rfl S4_ (Nat.le_trans q4_ (Nat.le_refl _)) Z4_ (own_EW hw) hh R4_ (0 : Int32) rfl ⟨congrArg (fun z_ : Int32 => some (Value.int z_)) (show (0 : Int32) = (isEsc c0 c1 c2) from (if_neg (fun q_ => (qh30.mp hc30) q_.2.1)).symm), N4, ((Keep.refl h0 []).trans K4 all0)⟩
    · refine Gk.ifNo X4 hx (hb hby d9_30) (flt hc30).1 ?_
      refine Gk.aloadN X4 hx (hb hby d9_33) rfl rfl ?_
      refine Gk.iloadN X4 hx (hb hby d9_34) rfl ?_
      refine Gk.iconst X4 hx (hb hby d9_35) (2 : Int32) rfl ?_
      refine Gk.iadd X4 hx (hb hby d9_36) (2 : Int32) (by decide) ?_
      have H8 := (Fc1.keep K4 nin0)
      have H9 := (Fv1.keep K4 nin0)
      have H10 := (V_b.keep K4 nin0)
      have H11 := (S_COMPACT_STRINGS.keep K4 all0)
      have H12 := (S_SIOOBE_FORMATTER.keep K4 all0)
      have H13 := (E_a1.keep K4)
      refine Gk.callV (argsL := [(.int (2 : Int32))]) X4 hx Z4_ o4_ (scx l Z a0 T4.heap n0 hw a1 (2 : Int32) b1 kb fb n1 (c2.toInt8.toInt32) w_COMPACT_STRINGS w_SIOOBE_FORMATTER (Nat.le_trans Z0 K4.1) H11 H12 H13 H8 H9 H10 (by decide) hx2 hl2 hcs hsf) (W hw 51 rfl) (W hw 52 rfl) (notFace_of_selects (args := #[]) (mvT Z4_ (W hw 54 rfl))) (W hw 54 rfl) (W hw 53 rfl) (by decide) (W hw 55 rfl) (W hw 10 rfl) rfl H13 pd_19 rfl rfl rfl (by rw [hml]; rfl) rfl (hb hby d9_37) ?_
      intro T7 L7 v7 X7 hQ7
      obtain ⟨rfl, N7q, e7⟩ := hQ7
      have N7 := Fr.app N4 N7q
      show Go p e below (T7.setTop (mkF m 40 _ [(.int (nar .char (nar .char (((c2.toInt8.toInt32) &&& (255 : Int32)).toUInt32.toUInt16.toUInt32.toInt32))))])) _
      rw [show (nar .char (nar .char (((c2.toInt8.toInt32) &&& (255 : Int32)).toUInt32.toUInt16.toUInt32.toInt32))) = c2 from own_decL hb2 hle2]
      refine Gk.callSH (s := s) (argsL := [(.int c2)]) X7 hx Z4_ o4_ (hexd l Z a0 T4.heap n0 hw c2 w_COMPACT_STRINGS (Nat.le_trans Z0 K4.1) H11 hb2 hcs) (W hw 111 rfl) (W hw 112 rfl) (W hw 39 rfl) (W hw 113 rfl) (by decide) e7 S4_ (Nat.le_trans q4_ (Nat.le_refl _)) (own_EW hw) R4_.1 pd_20 rfl rfl rfl (by rw [hml]; rfl) rfl (hb hby d9_40) ?_
      intro T14 L14 v14 kS14 X14 S14_ q14_ Z14_ o14_ C14_ hQ14
      have R14_ := R4_.trans C14_
      obtain ⟨⟨r14, rfl, qh43⟩, N14q, K14⟩ := hQ14
      have N14 := Fr.app N7 N14q
      show Go p e below (T14.setTop (mkF m 43 _ [(.int r14)])) _
      by_cases hc43 : r14 < (0 : Int32)
      · refine Gk.ifYes X14 hx (hb hby d9_43) (tlt hc43).1 50 (by decide) (by decide) ?_
        refine Gk.iconst X14 hx (hb hby d9_50) (0 : Int32) rfl ?_
        exact Gk.rNH (s := s) X14 hx hret (by simp) hns (hb hby d9_51) rfl S14_ (Nat.le_trans q14_ (Nat.le_refl _)) Z14_ (own_EW hw) hh R14_ (0 : Int32) rfl ⟨congrArg (fun z_ : Int32 => some (Value.int z_)) (show (0 : Int32) = (isEsc c0 c1 c2) from (if_neg (fun q_ => (qh43.mp hc43) q_.2.2)).symm), N14, (((Keep.refl h0 []).trans K4 all0).trans K14 all0)⟩
      · refine Gk.ifNo X14 hx (hb hby d9_43) (flt hc43).1 ?_
        refine Gk.iconst X14 hx (hb hby d9_46) (1 : Int32) rfl ?_
        refine Gk.goto X14 hx (hb hby d9_47) 51 (by decide) (by decide) ?_
        exact Gk.rNH (s := s) X14 hx hret (by simp) hns (hb hby d9_51) rfl S14_ (Nat.le_trans q14_ (Nat.le_refl _)) Z14_ (own_EW hw) hh R14_ (1 : Int32) rfl ⟨congrArg (fun z_ : Int32 => some (Value.int z_)) (show (1 : Int32) = (isEsc c0 c1 c2) from (if_pos ⟨hc17, Classical.not_not.mp (fun q_ => hc30 (qh30.mpr q_)), Classical.not_not.mp (fun q_ => hc43 (qh43.mpr q_))⟩).symm), N14, (((Keep.refl h0 []).trans K4 all0).trans K14 all0)⟩
  · refine Gk.icmpYes X2 hx (hb hby d9_17) (feq hc17).2 50 (by decide) (by decide) ?_
    refine Gk.iconst X2 hx (hb hby d9_50) (0 : Int32) rfl ?_
    have R18_ := CHr.refl hCH
    exact Gk.rNH (s := s) (show Stand p l e _ (s.setVm s.vm) m _ below meth c _ _ _ _ from X2) hx hret (by simp) hns (hb hby d9_51) e2 ((State.WarmedH.refl s).since 0) (Nat.zero_le _) hZ (own_EW hw) hh R18_ (0 : Int32) rfl ⟨congrArg (fun z_ : Int32 => some (Value.int z_)) (show (0 : Int32) = (isEsc c0 c1 c2) from (if_neg (fun q_ => hc17 q_.1)).symm), N2, (Keep.refl h0 [])⟩
theorem ie_0_1 (hw : HW Z a0) (a1 b1 : Addr) (kb : ClassId) (fb : Nat → Value) (n1 c0 c1 c2 w_COMPACT_STRINGS : Int32) (w_SIOOBE_FORMATTER : Value) (Z0 : n0 ≤ h0.size) (S_COMPACT_STRINGS : Stx Z n0 h0 "java/lang/String" "COMPACT_STRINGS" "Z" (.int w_COMPACT_STRINGS)) (S_SIOOBE_FORMATTER : Stx Z n0 h0 "jdk/internal/util/Preconditions" "SIOOBE_FORMATTER" "Ljava/util/function/BiFunction;" w_SIOOBE_FORMATTER) (E_a1 : Exa Z h0 a1 "java/lang/String") (Fc1 : Fld Z h0 a1 "java/lang/String" "coder" "B" (.int (0 : Int32))) (Fv1 : Fld Z h0 a1 "java/lang/String" "value" "[B" (.ref b1)) (V_b : Arf Z h0 b1 kb .byte n1 fb) (hlt : (3 : Int32) < (n1 >>> ((0 : Int32) &&& 31))) (hx0 : (1 : Int32) < n1) (hx1 : (2 : Int32) < n1) (hx2 : (3 : Int32) < n1) (hl0 : fb 1 = .int (c0.toInt8.toInt32)) (hl1 : fb 2 = .int (c1.toInt8.toInt32)) (hl2 : fb 3 = .int (c2.toInt8.toInt32)) (hle0 : ¬ ((255 : Int32) < c0)) (hle1 : ¬ ((255 : Int32) < c1)) (hle2 : ¬ ((255 : Int32) < c2)) (hb0 : 0 ≤ c0.toInt ∧ c0.toInt < 65536) (hb1 : 0 ≤ c1.toInt ∧ c1.toInt < 65536) (hb2 : 0 ≤ c2.toInt ∧ c2.toInt < 65536) (hcs : ¬ (w_COMPACT_STRINGS = (0 : Int32))) (hsf : w_SIOOBE_FORMATTER.isRef = true) : CtH l ⟨"com/example/method_to_route/methodtoroute/PercentEncoding", "isEscape", "(Ljava/lang/String;I)Z"⟩ prog_8_method_9_code 2 (some .boolean) ⟨5, 4, 184, 72⟩ #[(.ref a1), (.int (1 : Int32))] Z h0 consts_1 (fun v h L => v = some (.int (isEsc c0 c1 c2)) ∧ Fr n0 L ∧ Keep h0 h []) := by
  refine CtH.of "com/example/method_to_route/methodtoroute/PercentEncoding" rfl (plainFor_of_name pn_460) #[.val (.ref a1), .val (.int (1 : Int32))] rfl rfl ?_
  intro p e s m below meth c s₁ hx hby hml hown hnm hret hns hZ hh X0 e0 hCH
  refine Gk.iloadN X0 hx (hb hby d9_0) rfl ?_
  refine Gk.iconst X0 hx (hb hby d9_1) (2 : Int32) rfl ?_
  refine Gk.iadd X0 hx (hb hby d9_2) (3 : Int32) (by decide) ?_
  refine Gk.aloadN X0 hx (hb hby d9_3) rfl rfl ?_
  refine Gk.callV (argsL := []) X0 hx hZ hown (len_0 l Z a0 h0 n0 hw a1 b1 kb fb n1 w_COMPACT_STRINGS Z0 S_COMPACT_STRINGS E_a1 Fc1 Fv1 V_b hcs) (W hw 41 rfl) (W hw 42 rfl) (notFace_of_selects (args := #[]) (mvT hZ (W hw 44 rfl))) (W hw 44 rfl) (W hw 43 rfl) (by decide) (W hw 45 rfl) (W hw 10 rfl) e0 E_a1 pd_18 rfl rfl rfl (by rw [hml]; rfl) rfl (hb hby d9_4) ?_
  intro T1 L1 v1 X1 hQ1
  obtain ⟨rfl, N1q, e1⟩ := hQ1
  have N1 := Fr.app (Fr.nil n0) N1q
  show Go p e below (T1.setTop (mkF m 7 _ [(.int (n1 >>> ((0 : Int32) &&& 31))), (.int (3 : Int32))])) _
  have hc7 : (3 : Int32) < (n1 >>> ((0 : Int32) &&& 31)) := hlt
  refine Gk.icmpNo X1 hx (hb hby d9_7) (tlt hc7).2.1 ?_
  refine Gk.aloadN X1 hx (hb hby d9_10) rfl rfl ?_
  refine Gk.iloadN X1 hx (hb hby d9_11) rfl ?_
  refine Gk.callV (argsL := [(.int (1 : Int32))]) X1 hx hZ hown (scx l Z a0 h0 n0 hw a1 (1 : Int32) b1 kb fb n1 (c0.toInt8.toInt32) w_COMPACT_STRINGS w_SIOOBE_FORMATTER Z0 S_COMPACT_STRINGS S_SIOOBE_FORMATTER E_a1 Fc1 Fv1 V_b (by decide) hx0 hl0 hcs hsf) (W hw 51 rfl) (W hw 52 rfl) (notFace_of_selects (args := #[]) (mvT hZ (W hw 54 rfl))) (W hw 54 rfl) (W hw 53 rfl) (by decide) (W hw 55 rfl) (W hw 10 rfl) e1 E_a1 pd_19 rfl rfl rfl (by rw [hml]; rfl) rfl (hb hby d9_12) ?_
  intro T2 L2 v2 X2 hQ2
  obtain ⟨rfl, N2q, e2⟩ := hQ2
  have N2 := Fr.app N1 N2q
  show Go p e below (T2.setTop (mkF m 15 _ [(.int (nar .char (nar .char (((c0.toInt8.toInt32) &&& (255 : Int32)).toUInt32.toUInt16.toUInt32.toInt32))))])) _
  rw [show (nar .char (nar .char (((c0.toInt8.toInt32) &&& (255 : Int32)).toUInt32.toUInt16.toUInt32.toInt32))) = c0 from own_decL hb0 hle0]
  refine Gk.bipush X2 hx (hb hby d9_15) (37 : Int32) rfl ?_
  by_cases hc17 : c0 = (37 : Int32)
  · refine Gk.icmpNo X2 hx (hb hby d9_17) (teq hc17).2 ?_
    refine Gk.aloadN X2 hx (hb hby d9_20) rfl rfl ?_
    refine Gk.iloadN X2 hx (hb hby d9_21) rfl ?_
    refine Gk.iconst X2 hx (hb hby d9_22) (1 : Int32) rfl ?_
    refine Gk.iadd X2 hx (hb hby d9_23) (2 : Int32) (by decide) ?_
    refine Gk.callV (argsL := [(.int (2 : Int32))]) X2 hx hZ hown (scx l Z a0 h0 n0 hw a1 (2 : Int32) b1 kb fb n1 (c1.toInt8.toInt32) w_COMPACT_STRINGS w_SIOOBE_FORMATTER Z0 S_COMPACT_STRINGS S_SIOOBE_FORMATTER E_a1 Fc1 Fv1 V_b (by decide) hx1 hl1 hcs hsf) (W hw 51 rfl) (W hw 52 rfl) (notFace_of_selects (args := #[]) (mvT hZ (W hw 54 rfl))) (W hw 54 rfl) (W hw 53 rfl) (by decide) (W hw 55 rfl) (W hw 10 rfl) e2 E_a1 pd_19 rfl rfl rfl (by rw [hml]; rfl) rfl (hb hby d9_24) ?_
    intro T3 L3 v3 X3 hQ3
    obtain ⟨rfl, N3q, e3⟩ := hQ3
    have N3 := Fr.app N2 N3q
    show Go p e below (T3.setTop (mkF m 27 _ [(.int (nar .char (nar .char (((c1.toInt8.toInt32) &&& (255 : Int32)).toUInt32.toUInt16.toUInt32.toInt32))))])) _
    rw [show (nar .char (nar .char (((c1.toInt8.toInt32) &&& (255 : Int32)).toUInt32.toUInt16.toUInt32.toInt32))) = c1 from own_decL hb1 hle1]
    have R5_ := CHr.refl hCH
    refine Gk.callSH (s := s) (argsL := [(.int c1)]) (show Stand p l e _ (s.setVm s.vm) m _ below meth c _ _ _ _ from X3) hx hZ hown (hexd l Z a0 h0 n0 hw c1 w_COMPACT_STRINGS Z0 S_COMPACT_STRINGS hb1 hcs) (W hw 111 rfl) (W hw 112 rfl) (W hw 39 rfl) (W hw 113 rfl) (by decide) e3 ((State.WarmedH.refl s).since 0) (Nat.zero_le _) (own_EW hw) R5_.1 pd_20 rfl rfl rfl (by rw [hml]; rfl) rfl (hb hby d9_27) ?_
    intro T4 L4 v4 kS4 X4 S4_ q4_ Z4_ o4_ C4_ hQ4
    have R4_ := R5_.trans C4_
    obtain ⟨⟨r4, rfl, qh30⟩, N4q, K4⟩ := hQ4
    have N4 := Fr.app N3 N4q
    show Go p e below (T4.setTop (mkF m 30 _ [(.int r4)])) _
    by_cases hc30 : r4 < (0 : Int32)
    · refine Gk.ifYes X4 hx (hb hby d9_30) (tlt hc30).1 50 (by decide) (by decide) ?_
      refine Gk.iconst X4 hx (hb hby d9_50) (0 : Int32) rfl ?_
      exact Gk.rNH (s := s) X4 hx hret (by simp) hns (hb hby d9_51) rfl S4_ (Nat.le_trans q4_ (Nat.le_refl _)) Z4_ (own_EW hw) hh R4_ (0 : Int32) rfl ⟨congrArg (fun z_ : Int32 => some (Value.int z_)) (show (0 : Int32) = (isEsc c0 c1 c2) from (if_neg (fun q_ => (qh30.mp hc30) q_.2.1)).symm), N4, ((Keep.refl h0 []).trans K4 all0)⟩
    · refine Gk.ifNo X4 hx (hb hby d9_30) (flt hc30).1 ?_
      refine Gk.aloadN X4 hx (hb hby d9_33) rfl rfl ?_
      refine Gk.iloadN X4 hx (hb hby d9_34) rfl ?_
      refine Gk.iconst X4 hx (hb hby d9_35) (2 : Int32) rfl ?_
      refine Gk.iadd X4 hx (hb hby d9_36) (3 : Int32) (by decide) ?_
      have H8 := (Fc1.keep K4 nin0)
      have H9 := (Fv1.keep K4 nin0)
      have H10 := (V_b.keep K4 nin0)
      have H11 := (S_COMPACT_STRINGS.keep K4 all0)
      have H12 := (S_SIOOBE_FORMATTER.keep K4 all0)
      have H13 := (E_a1.keep K4)
      refine Gk.callV (argsL := [(.int (3 : Int32))]) X4 hx Z4_ o4_ (scx l Z a0 T4.heap n0 hw a1 (3 : Int32) b1 kb fb n1 (c2.toInt8.toInt32) w_COMPACT_STRINGS w_SIOOBE_FORMATTER (Nat.le_trans Z0 K4.1) H11 H12 H13 H8 H9 H10 (by decide) hx2 hl2 hcs hsf) (W hw 51 rfl) (W hw 52 rfl) (notFace_of_selects (args := #[]) (mvT Z4_ (W hw 54 rfl))) (W hw 54 rfl) (W hw 53 rfl) (by decide) (W hw 55 rfl) (W hw 10 rfl) rfl H13 pd_19 rfl rfl rfl (by rw [hml]; rfl) rfl (hb hby d9_37) ?_
      intro T7 L7 v7 X7 hQ7
      obtain ⟨rfl, N7q, e7⟩ := hQ7
      have N7 := Fr.app N4 N7q
      show Go p e below (T7.setTop (mkF m 40 _ [(.int (nar .char (nar .char (((c2.toInt8.toInt32) &&& (255 : Int32)).toUInt32.toUInt16.toUInt32.toInt32))))])) _
      rw [show (nar .char (nar .char (((c2.toInt8.toInt32) &&& (255 : Int32)).toUInt32.toUInt16.toUInt32.toInt32))) = c2 from own_decL hb2 hle2]
      refine Gk.callSH (s := s) (argsL := [(.int c2)]) X7 hx Z4_ o4_ (hexd l Z a0 T4.heap n0 hw c2 w_COMPACT_STRINGS (Nat.le_trans Z0 K4.1) H11 hb2 hcs) (W hw 111 rfl) (W hw 112 rfl) (W hw 39 rfl) (W hw 113 rfl) (by decide) e7 S4_ (Nat.le_trans q4_ (Nat.le_refl _)) (own_EW hw) R4_.1 pd_20 rfl rfl rfl (by rw [hml]; rfl) rfl (hb hby d9_40) ?_
      intro T14 L14 v14 kS14 X14 S14_ q14_ Z14_ o14_ C14_ hQ14
      have R14_ := R4_.trans C14_
      obtain ⟨⟨r14, rfl, qh43⟩, N14q, K14⟩ := hQ14
      have N14 := Fr.app N7 N14q
      show Go p e below (T14.setTop (mkF m 43 _ [(.int r14)])) _
      by_cases hc43 : r14 < (0 : Int32)
      · refine Gk.ifYes X14 hx (hb hby d9_43) (tlt hc43).1 50 (by decide) (by decide) ?_
        refine Gk.iconst X14 hx (hb hby d9_50) (0 : Int32) rfl ?_
        exact Gk.rNH (s := s) X14 hx hret (by simp) hns (hb hby d9_51) rfl S14_ (Nat.le_trans q14_ (Nat.le_refl _)) Z14_ (own_EW hw) hh R14_ (0 : Int32) rfl ⟨congrArg (fun z_ : Int32 => some (Value.int z_)) (show (0 : Int32) = (isEsc c0 c1 c2) from (if_neg (fun q_ => (qh43.mp hc43) q_.2.2)).symm), N14, (((Keep.refl h0 []).trans K4 all0).trans K14 all0)⟩
      · refine Gk.ifNo X14 hx (hb hby d9_43) (flt hc43).1 ?_
        refine Gk.iconst X14 hx (hb hby d9_46) (1 : Int32) rfl ?_
        refine Gk.goto X14 hx (hb hby d9_47) 51 (by decide) (by decide) ?_
        exact Gk.rNH (s := s) X14 hx hret (by simp) hns (hb hby d9_51) rfl S14_ (Nat.le_trans q14_ (Nat.le_refl _)) Z14_ (own_EW hw) hh R14_ (1 : Int32) rfl ⟨congrArg (fun z_ : Int32 => some (Value.int z_)) (show (1 : Int32) = (isEsc c0 c1 c2) from (if_pos ⟨hc17, Classical.not_not.mp (fun q_ => hc30 (qh30.mpr q_)), Classical.not_not.mp (fun q_ => hc43 (qh43.mpr q_))⟩).symm), N14, (((Keep.refl h0 []).trans K4 all0).trans K14 all0)⟩
  · refine Gk.icmpYes X2 hx (hb hby d9_17) (feq hc17).2 50 (by decide) (by decide) ?_
    refine Gk.iconst X2 hx (hb hby d9_50) (0 : Int32) rfl ?_
    have R18_ := CHr.refl hCH
    exact Gk.rNH (s := s) (show Stand p l e _ (s.setVm s.vm) m _ below meth c _ _ _ _ from X2) hx hret (by simp) hns (hb hby d9_51) e2 ((State.WarmedH.refl s).since 0) (Nat.zero_le _) hZ (own_EW hw) hh R18_ (0 : Int32) rfl ⟨congrArg (fun z_ : Int32 => some (Value.int z_)) (show (0 : Int32) = (isEsc c0 c1 c2) from (if_neg (fun q_ => hc17 q_.1)).symm), N2, (Keep.refl h0 [])⟩
theorem ie_0_2 (hw : HW Z a0) (a1 b1 : Addr) (kb : ClassId) (fb : Nat → Value) (n1 c0 c1 c2 w_COMPACT_STRINGS : Int32) (w_SIOOBE_FORMATTER : Value) (Z0 : n0 ≤ h0.size) (S_COMPACT_STRINGS : Stx Z n0 h0 "java/lang/String" "COMPACT_STRINGS" "Z" (.int w_COMPACT_STRINGS)) (S_SIOOBE_FORMATTER : Stx Z n0 h0 "jdk/internal/util/Preconditions" "SIOOBE_FORMATTER" "Ljava/util/function/BiFunction;" w_SIOOBE_FORMATTER) (E_a1 : Exa Z h0 a1 "java/lang/String") (Fc1 : Fld Z h0 a1 "java/lang/String" "coder" "B" (.int (0 : Int32))) (Fv1 : Fld Z h0 a1 "java/lang/String" "value" "[B" (.ref b1)) (V_b : Arf Z h0 b1 kb .byte n1 fb) (hlt : (4 : Int32) < (n1 >>> ((0 : Int32) &&& 31))) (hx0 : (2 : Int32) < n1) (hx1 : (3 : Int32) < n1) (hx2 : (4 : Int32) < n1) (hl0 : fb 2 = .int (c0.toInt8.toInt32)) (hl1 : fb 3 = .int (c1.toInt8.toInt32)) (hl2 : fb 4 = .int (c2.toInt8.toInt32)) (hle0 : ¬ ((255 : Int32) < c0)) (hle1 : ¬ ((255 : Int32) < c1)) (hle2 : ¬ ((255 : Int32) < c2)) (hb0 : 0 ≤ c0.toInt ∧ c0.toInt < 65536) (hb1 : 0 ≤ c1.toInt ∧ c1.toInt < 65536) (hb2 : 0 ≤ c2.toInt ∧ c2.toInt < 65536) (hcs : ¬ (w_COMPACT_STRINGS = (0 : Int32))) (hsf : w_SIOOBE_FORMATTER.isRef = true) : CtH l ⟨"com/example/method_to_route/methodtoroute/PercentEncoding", "isEscape", "(Ljava/lang/String;I)Z"⟩ prog_8_method_9_code 2 (some .boolean) ⟨5, 4, 184, 72⟩ #[(.ref a1), (.int (2 : Int32))] Z h0 consts_1 (fun v h L => v = some (.int (isEsc c0 c1 c2)) ∧ Fr n0 L ∧ Keep h0 h []) := by
  refine CtH.of "com/example/method_to_route/methodtoroute/PercentEncoding" rfl (plainFor_of_name pn_460) #[.val (.ref a1), .val (.int (2 : Int32))] rfl rfl ?_
  intro p e s m below meth c s₁ hx hby hml hown hnm hret hns hZ hh X0 e0 hCH
  refine Gk.iloadN X0 hx (hb hby d9_0) rfl ?_
  refine Gk.iconst X0 hx (hb hby d9_1) (2 : Int32) rfl ?_
  refine Gk.iadd X0 hx (hb hby d9_2) (4 : Int32) (by decide) ?_
  refine Gk.aloadN X0 hx (hb hby d9_3) rfl rfl ?_
  refine Gk.callV (argsL := []) X0 hx hZ hown (len_0 l Z a0 h0 n0 hw a1 b1 kb fb n1 w_COMPACT_STRINGS Z0 S_COMPACT_STRINGS E_a1 Fc1 Fv1 V_b hcs) (W hw 41 rfl) (W hw 42 rfl) (notFace_of_selects (args := #[]) (mvT hZ (W hw 44 rfl))) (W hw 44 rfl) (W hw 43 rfl) (by decide) (W hw 45 rfl) (W hw 10 rfl) e0 E_a1 pd_18 rfl rfl rfl (by rw [hml]; rfl) rfl (hb hby d9_4) ?_
  intro T1 L1 v1 X1 hQ1
  obtain ⟨rfl, N1q, e1⟩ := hQ1
  have N1 := Fr.app (Fr.nil n0) N1q
  show Go p e below (T1.setTop (mkF m 7 _ [(.int (n1 >>> ((0 : Int32) &&& 31))), (.int (4 : Int32))])) _
  have hc7 : (4 : Int32) < (n1 >>> ((0 : Int32) &&& 31)) := hlt
  refine Gk.icmpNo X1 hx (hb hby d9_7) (tlt hc7).2.1 ?_
  refine Gk.aloadN X1 hx (hb hby d9_10) rfl rfl ?_
  refine Gk.iloadN X1 hx (hb hby d9_11) rfl ?_
  refine Gk.callV (argsL := [(.int (2 : Int32))]) X1 hx hZ hown (scx l Z a0 h0 n0 hw a1 (2 : Int32) b1 kb fb n1 (c0.toInt8.toInt32) w_COMPACT_STRINGS w_SIOOBE_FORMATTER Z0 S_COMPACT_STRINGS S_SIOOBE_FORMATTER E_a1 Fc1 Fv1 V_b (by decide) hx0 hl0 hcs hsf) (W hw 51 rfl) (W hw 52 rfl) (notFace_of_selects (args := #[]) (mvT hZ (W hw 54 rfl))) (W hw 54 rfl) (W hw 53 rfl) (by decide) (W hw 55 rfl) (W hw 10 rfl) e1 E_a1 pd_19 rfl rfl rfl (by rw [hml]; rfl) rfl (hb hby d9_12) ?_
  intro T2 L2 v2 X2 hQ2
  obtain ⟨rfl, N2q, e2⟩ := hQ2
  have N2 := Fr.app N1 N2q
  show Go p e below (T2.setTop (mkF m 15 _ [(.int (nar .char (nar .char (((c0.toInt8.toInt32) &&& (255 : Int32)).toUInt32.toUInt16.toUInt32.toInt32))))])) _
  rw [show (nar .char (nar .char (((c0.toInt8.toInt32) &&& (255 : Int32)).toUInt32.toUInt16.toUInt32.toInt32))) = c0 from own_decL hb0 hle0]
  refine Gk.bipush X2 hx (hb hby d9_15) (37 : Int32) rfl ?_
  by_cases hc17 : c0 = (37 : Int32)
  · refine Gk.icmpNo X2 hx (hb hby d9_17) (teq hc17).2 ?_
    refine Gk.aloadN X2 hx (hb hby d9_20) rfl rfl ?_
    refine Gk.iloadN X2 hx (hb hby d9_21) rfl ?_
    refine Gk.iconst X2 hx (hb hby d9_22) (1 : Int32) rfl ?_
    refine Gk.iadd X2 hx (hb hby d9_23) (3 : Int32) (by decide) ?_
    refine Gk.callV (argsL := [(.int (3 : Int32))]) X2 hx hZ hown (scx l Z a0 h0 n0 hw a1 (3 : Int32) b1 kb fb n1 (c1.toInt8.toInt32) w_COMPACT_STRINGS w_SIOOBE_FORMATTER Z0 S_COMPACT_STRINGS S_SIOOBE_FORMATTER E_a1 Fc1 Fv1 V_b (by decide) hx1 hl1 hcs hsf) (W hw 51 rfl) (W hw 52 rfl) (notFace_of_selects (args := #[]) (mvT hZ (W hw 54 rfl))) (W hw 54 rfl) (W hw 53 rfl) (by decide) (W hw 55 rfl) (W hw 10 rfl) e2 E_a1 pd_19 rfl rfl rfl (by rw [hml]; rfl) rfl (hb hby d9_24) ?_
    intro T3 L3 v3 X3 hQ3
    obtain ⟨rfl, N3q, e3⟩ := hQ3
    have N3 := Fr.app N2 N3q
    show Go p e below (T3.setTop (mkF m 27 _ [(.int (nar .char (nar .char (((c1.toInt8.toInt32) &&& (255 : Int32)).toUInt32.toUInt16.toUInt32.toInt32))))])) _
    rw [show (nar .char (nar .char (((c1.toInt8.toInt32) &&& (255 : Int32)).toUInt32.toUInt16.toUInt32.toInt32))) = c1 from own_decL hb1 hle1]
    have R5_ := CHr.refl hCH
    refine Gk.callSH (s := s) (argsL := [(.int c1)]) (show Stand p l e _ (s.setVm s.vm) m _ below meth c _ _ _ _ from X3) hx hZ hown (hexd l Z a0 h0 n0 hw c1 w_COMPACT_STRINGS Z0 S_COMPACT_STRINGS hb1 hcs) (W hw 111 rfl) (W hw 112 rfl) (W hw 39 rfl) (W hw 113 rfl) (by decide) e3 ((State.WarmedH.refl s).since 0) (Nat.zero_le _) (own_EW hw) R5_.1 pd_20 rfl rfl rfl (by rw [hml]; rfl) rfl (hb hby d9_27) ?_
    intro T4 L4 v4 kS4 X4 S4_ q4_ Z4_ o4_ C4_ hQ4
    have R4_ := R5_.trans C4_
    obtain ⟨⟨r4, rfl, qh30⟩, N4q, K4⟩ := hQ4
    have N4 := Fr.app N3 N4q
    show Go p e below (T4.setTop (mkF m 30 _ [(.int r4)])) _
    by_cases hc30 : r4 < (0 : Int32)
    · refine Gk.ifYes X4 hx (hb hby d9_30) (tlt hc30).1 50 (by decide) (by decide) ?_
      refine Gk.iconst X4 hx (hb hby d9_50) (0 : Int32) rfl ?_
      exact Gk.rNH (s := s) X4 hx hret (by simp) hns (hb hby d9_51) rfl S4_ (Nat.le_trans q4_ (Nat.le_refl _)) Z4_ (own_EW hw) hh R4_ (0 : Int32) rfl ⟨congrArg (fun z_ : Int32 => some (Value.int z_)) (show (0 : Int32) = (isEsc c0 c1 c2) from (if_neg (fun q_ => (qh30.mp hc30) q_.2.1)).symm), N4, ((Keep.refl h0 []).trans K4 all0)⟩
    · refine Gk.ifNo X4 hx (hb hby d9_30) (flt hc30).1 ?_
      refine Gk.aloadN X4 hx (hb hby d9_33) rfl rfl ?_
      refine Gk.iloadN X4 hx (hb hby d9_34) rfl ?_
      refine Gk.iconst X4 hx (hb hby d9_35) (2 : Int32) rfl ?_
      refine Gk.iadd X4 hx (hb hby d9_36) (4 : Int32) (by decide) ?_
      have H8 := (Fc1.keep K4 nin0)
      have H9 := (Fv1.keep K4 nin0)
      have H10 := (V_b.keep K4 nin0)
      have H11 := (S_COMPACT_STRINGS.keep K4 all0)
      have H12 := (S_SIOOBE_FORMATTER.keep K4 all0)
      have H13 := (E_a1.keep K4)
      refine Gk.callV (argsL := [(.int (4 : Int32))]) X4 hx Z4_ o4_ (scx l Z a0 T4.heap n0 hw a1 (4 : Int32) b1 kb fb n1 (c2.toInt8.toInt32) w_COMPACT_STRINGS w_SIOOBE_FORMATTER (Nat.le_trans Z0 K4.1) H11 H12 H13 H8 H9 H10 (by decide) hx2 hl2 hcs hsf) (W hw 51 rfl) (W hw 52 rfl) (notFace_of_selects (args := #[]) (mvT Z4_ (W hw 54 rfl))) (W hw 54 rfl) (W hw 53 rfl) (by decide) (W hw 55 rfl) (W hw 10 rfl) rfl H13 pd_19 rfl rfl rfl (by rw [hml]; rfl) rfl (hb hby d9_37) ?_
      intro T7 L7 v7 X7 hQ7
      obtain ⟨rfl, N7q, e7⟩ := hQ7
      have N7 := Fr.app N4 N7q
      show Go p e below (T7.setTop (mkF m 40 _ [(.int (nar .char (nar .char (((c2.toInt8.toInt32) &&& (255 : Int32)).toUInt32.toUInt16.toUInt32.toInt32))))])) _
      rw [show (nar .char (nar .char (((c2.toInt8.toInt32) &&& (255 : Int32)).toUInt32.toUInt16.toUInt32.toInt32))) = c2 from own_decL hb2 hle2]
      refine Gk.callSH (s := s) (argsL := [(.int c2)]) X7 hx Z4_ o4_ (hexd l Z a0 T4.heap n0 hw c2 w_COMPACT_STRINGS (Nat.le_trans Z0 K4.1) H11 hb2 hcs) (W hw 111 rfl) (W hw 112 rfl) (W hw 39 rfl) (W hw 113 rfl) (by decide) e7 S4_ (Nat.le_trans q4_ (Nat.le_refl _)) (own_EW hw) R4_.1 pd_20 rfl rfl rfl (by rw [hml]; rfl) rfl (hb hby d9_40) ?_
      intro T14 L14 v14 kS14 X14 S14_ q14_ Z14_ o14_ C14_ hQ14
      have R14_ := R4_.trans C14_
      obtain ⟨⟨r14, rfl, qh43⟩, N14q, K14⟩ := hQ14
      have N14 := Fr.app N7 N14q
      show Go p e below (T14.setTop (mkF m 43 _ [(.int r14)])) _
      by_cases hc43 : r14 < (0 : Int32)
      · refine Gk.ifYes X14 hx (hb hby d9_43) (tlt hc43).1 50 (by decide) (by decide) ?_
        refine Gk.iconst X14 hx (hb hby d9_50) (0 : Int32) rfl ?_
        exact Gk.rNH (s := s) X14 hx hret (by simp) hns (hb hby d9_51) rfl S14_ (Nat.le_trans q14_ (Nat.le_refl _)) Z14_ (own_EW hw) hh R14_ (0 : Int32) rfl ⟨congrArg (fun z_ : Int32 => some (Value.int z_)) (show (0 : Int32) = (isEsc c0 c1 c2) from (if_neg (fun q_ => (qh43.mp hc43) q_.2.2)).symm), N14, (((Keep.refl h0 []).trans K4 all0).trans K14 all0)⟩
      · refine Gk.ifNo X14 hx (hb hby d9_43) (flt hc43).1 ?_
        refine Gk.iconst X14 hx (hb hby d9_46) (1 : Int32) rfl ?_
        refine Gk.goto X14 hx (hb hby d9_47) 51 (by decide) (by decide) ?_
        exact Gk.rNH (s := s) X14 hx hret (by simp) hns (hb hby d9_51) rfl S14_ (Nat.le_trans q14_ (Nat.le_refl _)) Z14_ (own_EW hw) hh R14_ (1 : Int32) rfl ⟨congrArg (fun z_ : Int32 => some (Value.int z_)) (show (1 : Int32) = (isEsc c0 c1 c2) from (if_pos ⟨hc17, Classical.not_not.mp (fun q_ => hc30 (qh30.mpr q_)), Classical.not_not.mp (fun q_ => hc43 (qh43.mpr q_))⟩).symm), N14, (((Keep.refl h0 []).trans K4 all0).trans K14 all0)⟩
  · refine Gk.icmpYes X2 hx (hb hby d9_17) (feq hc17).2 50 (by decide) (by decide) ?_
    refine Gk.iconst X2 hx (hb hby d9_50) (0 : Int32) rfl ?_
    have R18_ := CHr.refl hCH
    exact Gk.rNH (s := s) (show Stand p l e _ (s.setVm s.vm) m _ below meth c _ _ _ _ from X2) hx hret (by simp) hns (hb hby d9_51) e2 ((State.WarmedH.refl s).since 0) (Nat.zero_le _) hZ (own_EW hw) hh R18_ (0 : Int32) rfl ⟨congrArg (fun z_ : Int32 => some (Value.int z_)) (show (0 : Int32) = (isEsc c0 c1 c2) from (if_neg (fun q_ => hc17 q_.1)).symm), N2, (Keep.refl h0 [])⟩
theorem ie_1_0 (hw : HW Z a0) (a1 b1 : Addr) (kb : ClassId) (fb : Nat → Value) (n1 c0 c1 c2 w_COMPACT_STRINGS : Int32) (w_SIOOBE_FORMATTER : Value) (Z0 : n0 ≤ h0.size) (S_COMPACT_STRINGS : Stx Z n0 h0 "java/lang/String" "COMPACT_STRINGS" "Z" (.int w_COMPACT_STRINGS)) (S_SIOOBE_FORMATTER : Stx Z n0 h0 "jdk/internal/util/Preconditions" "SIOOBE_FORMATTER" "Ljava/util/function/BiFunction;" w_SIOOBE_FORMATTER) (S__assertionsDisabled : Stx Z n0 h0 "java/lang/StringUTF16" "$assertionsDisabled" "Z" (.int (1 : Int32))) (S_HI_BYTE_SHIFT : Stx Z n0 h0 "java/lang/StringUTF16" "HI_BYTE_SHIFT" "I" (.int (0 : Int32))) (S_LO_BYTE_SHIFT : Stx Z n0 h0 "java/lang/StringUTF16" "LO_BYTE_SHIFT" "I" (.int (8 : Int32))) (E_a1 : Exa Z h0 a1 "java/lang/String") (Fc1 : Fld Z h0 a1 "java/lang/String" "coder" "B" (.int (1 : Int32))) (Fv1 : Fld Z h0 a1 "java/lang/String" "value" "[B" (.ref b1)) (V_b : Arf Z h0 b1 kb .byte n1 fb) (hlt : (2 : Int32) < (n1 >>> ((1 : Int32) &&& 31))) (hx0 : (0 : Int32) < (n1 >>> ((1 : Int32) &&& 31))) (hx1 : (1 : Int32) < (n1 >>> ((1 : Int32) &&& 31))) (hx2 : (2 : Int32) < (n1 >>> ((1 : Int32) &&& 31))) (hy0 : (0 : Int32) < n1) (hy1 : (2 : Int32) < n1) (hy2 : (4 : Int32) < n1) (hz0 : (1 : Int32) < n1) (hz1 : (3 : Int32) < n1) (hz2 : (5 : Int32) < n1) (hl0 : fb 0 = .int ((c0 >>> ((0 : Int32) &&& 31)).toInt8.toInt32)) (hl1 : fb 2 = .int ((c1 >>> ((0 : Int32) &&& 31)).toInt8.toInt32)) (hl2 : fb 4 = .int ((c2 >>> ((0 : Int32) &&& 31)).toInt8.toInt32)) (hh0 : fb 1 = .int ((c0 >>> ((8 : Int32) &&& 31)).toInt8.toInt32)) (hh1 : fb 3 = .int ((c1 >>> ((8 : Int32) &&& 31)).toInt8.toInt32)) (hh2 : fb 5 = .int ((c2 >>> ((8 : Int32) &&& 31)).toInt8.toInt32)) (hb0 : 0 ≤ c0.toInt ∧ c0.toInt < 65536) (hb1 : 0 ≤ c1.toInt ∧ c1.toInt < 65536) (hb2 : 0 ≤ c2.toInt ∧ c2.toInt < 65536) (hcs : ¬ (w_COMPACT_STRINGS = (0 : Int32))) (hsf : w_SIOOBE_FORMATTER.isRef = true) : CtH l ⟨"com/example/method_to_route/methodtoroute/PercentEncoding", "isEscape", "(Ljava/lang/String;I)Z"⟩ prog_8_method_9_code 2 (some .boolean) ⟨5, 4, 184, 72⟩ #[(.ref a1), (.int (0 : Int32))] Z h0 consts_1 (fun v h L => v = some (.int (isEsc c0 c1 c2)) ∧ Fr n0 L ∧ Keep h0 h []) := by
  refine CtH.of "com/example/method_to_route/methodtoroute/PercentEncoding" rfl (plainFor_of_name pn_460) #[.val (.ref a1), .val (.int (0 : Int32))] rfl rfl ?_
  intro p e s m below meth c s₁ hx hby hml hown hnm hret hns hZ hh X0 e0 hCH
  refine Gk.iloadN X0 hx (hb hby d9_0) rfl ?_
  refine Gk.iconst X0 hx (hb hby d9_1) (2 : Int32) rfl ?_
  refine Gk.iadd X0 hx (hb hby d9_2) (2 : Int32) (by decide) ?_
  refine Gk.aloadN X0 hx (hb hby d9_3) rfl rfl ?_
  refine Gk.callV (argsL := []) X0 hx hZ hown (len_1 l Z a0 h0 n0 hw a1 b1 kb fb n1 w_COMPACT_STRINGS Z0 S_COMPACT_STRINGS E_a1 Fc1 Fv1 V_b hcs) (W hw 41 rfl) (W hw 42 rfl) (notFace_of_selects (args := #[]) (mvT hZ (W hw 44 rfl))) (W hw 44 rfl) (W hw 43 rfl) (by decide) (W hw 45 rfl) (W hw 10 rfl) e0 E_a1 pd_18 rfl rfl rfl (by rw [hml]; rfl) rfl (hb hby d9_4) ?_
  intro T1 L1 v1 X1 hQ1
  obtain ⟨rfl, N1q, e1⟩ := hQ1
  have N1 := Fr.app (Fr.nil n0) N1q
  show Go p e below (T1.setTop (mkF m 7 _ [(.int (n1 >>> ((1 : Int32) &&& 31))), (.int (2 : Int32))])) _
  have hc7 : (2 : Int32) < (n1 >>> ((1 : Int32) &&& 31)) := hlt
  refine Gk.icmpNo X1 hx (hb hby d9_7) (tlt hc7).2.1 ?_
  refine Gk.aloadN X1 hx (hb hby d9_10) rfl rfl ?_
  refine Gk.iloadN X1 hx (hb hby d9_11) rfl ?_
  refine Gk.callV (argsL := [(.int (0 : Int32))]) X1 hx hZ hown (scu_0 l Z a0 h0 n0 hw a1 b1 kb fb n1 c0 w_COMPACT_STRINGS w_SIOOBE_FORMATTER Z0 S_COMPACT_STRINGS S_SIOOBE_FORMATTER S__assertionsDisabled S_HI_BYTE_SHIFT S_LO_BYTE_SHIFT E_a1 Fc1 Fv1 V_b hx0 hy0 hz0 hl0 hh0 hb0 hsf hcs) (W hw 51 rfl) (W hw 52 rfl) (notFace_of_selects (args := #[]) (mvT hZ (W hw 54 rfl))) (W hw 54 rfl) (W hw 53 rfl) (by decide) (W hw 55 rfl) (W hw 10 rfl) e1 E_a1 pd_19 rfl rfl rfl (by rw [hml]; rfl) rfl (hb hby d9_12) ?_
  intro T2 L2 v2 X2 hQ2
  obtain ⟨rfl, N2q, e2⟩ := hQ2
  have N2 := Fr.app N1 N2q
  show Go p e below (T2.setTop (mkF m 15 _ [(.int c0)])) _
  refine Gk.bipush X2 hx (hb hby d9_15) (37 : Int32) rfl ?_
  by_cases hc17 : c0 = (37 : Int32)
  · refine Gk.icmpNo X2 hx (hb hby d9_17) (teq hc17).2 ?_
    refine Gk.aloadN X2 hx (hb hby d9_20) rfl rfl ?_
    refine Gk.iloadN X2 hx (hb hby d9_21) rfl ?_
    refine Gk.iconst X2 hx (hb hby d9_22) (1 : Int32) rfl ?_
    refine Gk.iadd X2 hx (hb hby d9_23) (1 : Int32) (by decide) ?_
    refine Gk.callV (argsL := [(.int (1 : Int32))]) X2 hx hZ hown (scu_1 l Z a0 h0 n0 hw a1 b1 kb fb n1 c1 w_COMPACT_STRINGS w_SIOOBE_FORMATTER Z0 S_COMPACT_STRINGS S_SIOOBE_FORMATTER S__assertionsDisabled S_HI_BYTE_SHIFT S_LO_BYTE_SHIFT E_a1 Fc1 Fv1 V_b hx1 hy1 hz1 hl1 hh1 hb1 hsf hcs) (W hw 51 rfl) (W hw 52 rfl) (notFace_of_selects (args := #[]) (mvT hZ (W hw 54 rfl))) (W hw 54 rfl) (W hw 53 rfl) (by decide) (W hw 55 rfl) (W hw 10 rfl) e2 E_a1 pd_19 rfl rfl rfl (by rw [hml]; rfl) rfl (hb hby d9_24) ?_
    intro T3 L3 v3 X3 hQ3
    obtain ⟨rfl, N3q, e3⟩ := hQ3
    have N3 := Fr.app N2 N3q
    show Go p e below (T3.setTop (mkF m 27 _ [(.int c1)])) _
    have R5_ := CHr.refl hCH
    refine Gk.callSH (s := s) (argsL := [(.int c1)]) (show Stand p l e _ (s.setVm s.vm) m _ below meth c _ _ _ _ from X3) hx hZ hown (hexd l Z a0 h0 n0 hw c1 w_COMPACT_STRINGS Z0 S_COMPACT_STRINGS hb1 hcs) (W hw 111 rfl) (W hw 112 rfl) (W hw 39 rfl) (W hw 113 rfl) (by decide) e3 ((State.WarmedH.refl s).since 0) (Nat.zero_le _) (own_EW hw) R5_.1 pd_20 rfl rfl rfl (by rw [hml]; rfl) rfl (hb hby d9_27) ?_
    intro T4 L4 v4 kS4 X4 S4_ q4_ Z4_ o4_ C4_ hQ4
    have R4_ := R5_.trans C4_
    obtain ⟨⟨r4, rfl, qh30⟩, N4q, K4⟩ := hQ4
    have N4 := Fr.app N3 N4q
    show Go p e below (T4.setTop (mkF m 30 _ [(.int r4)])) _
    by_cases hc30 : r4 < (0 : Int32)
    · refine Gk.ifYes X4 hx (hb hby d9_30) (tlt hc30).1 50 (by decide) (by decide) ?_
      refine Gk.iconst X4 hx (hb hby d9_50) (0 : Int32) rfl ?_
      exact Gk.rNH (s := s) X4 hx hret (by simp) hns (hb hby d9_51) rfl S4_ (Nat.le_trans q4_ (Nat.le_refl _)) Z4_ (own_EW hw) hh R4_ (0 : Int32) rfl ⟨congrArg (fun z_ : Int32 => some (Value.int z_)) (show (0 : Int32) = (isEsc c0 c1 c2) from (if_neg (fun q_ => (qh30.mp hc30) q_.2.1)).symm), N4, ((Keep.refl h0 []).trans K4 all0)⟩
    · refine Gk.ifNo X4 hx (hb hby d9_30) (flt hc30).1 ?_
      refine Gk.aloadN X4 hx (hb hby d9_33) rfl rfl ?_
      refine Gk.iloadN X4 hx (hb hby d9_34) rfl ?_
      refine Gk.iconst X4 hx (hb hby d9_35) (2 : Int32) rfl ?_
      refine Gk.iadd X4 hx (hb hby d9_36) (2 : Int32) (by decide) ?_
      have H8 := (Fc1.keep K4 nin0)
      have H9 := (Fv1.keep K4 nin0)
      have H10 := (V_b.keep K4 nin0)
      have H11 := (S_COMPACT_STRINGS.keep K4 all0)
      have H12 := (S_SIOOBE_FORMATTER.keep K4 all0)
      have H13 := (S__assertionsDisabled.keep K4 all0)
      have H14 := (S_HI_BYTE_SHIFT.keep K4 all0)
      have H15 := (S_LO_BYTE_SHIFT.keep K4 all0)
      have H16 := (E_a1.keep K4)
      refine Gk.callV (argsL := [(.int (2 : Int32))]) X4 hx Z4_ o4_ (scu_2 l Z a0 T4.heap n0 hw a1 b1 kb fb n1 c2 w_COMPACT_STRINGS w_SIOOBE_FORMATTER (Nat.le_trans Z0 K4.1) H11 H12 H13 H14 H15 H16 H8 H9 H10 hx2 hy2 hz2 hl2 hh2 hb2 hsf hcs) (W hw 51 rfl) (W hw 52 rfl) (notFace_of_selects (args := #[]) (mvT Z4_ (W hw 54 rfl))) (W hw 54 rfl) (W hw 53 rfl) (by decide) (W hw 55 rfl) (W hw 10 rfl) rfl H16 pd_19 rfl rfl rfl (by rw [hml]; rfl) rfl (hb hby d9_37) ?_
      intro T7 L7 v7 X7 hQ7
      obtain ⟨rfl, N7q, e7⟩ := hQ7
      have N7 := Fr.app N4 N7q
      show Go p e below (T7.setTop (mkF m 40 _ [(.int c2)])) _
      refine Gk.callSH (s := s) (argsL := [(.int c2)]) X7 hx Z4_ o4_ (hexd l Z a0 T4.heap n0 hw c2 w_COMPACT_STRINGS (Nat.le_trans Z0 K4.1) H11 hb2 hcs) (W hw 111 rfl) (W hw 112 rfl) (W hw 39 rfl) (W hw 113 rfl) (by decide) e7 S4_ (Nat.le_trans q4_ (Nat.le_refl _)) (own_EW hw) R4_.1 pd_20 rfl rfl rfl (by rw [hml]; rfl) rfl (hb hby d9_40) ?_
      intro T17 L17 v17 kS17 X17 S17_ q17_ Z17_ o17_ C17_ hQ17
      have R17_ := R4_.trans C17_
      obtain ⟨⟨r17, rfl, qh43⟩, N17q, K17⟩ := hQ17
      have N17 := Fr.app N7 N17q
      show Go p e below (T17.setTop (mkF m 43 _ [(.int r17)])) _
      by_cases hc43 : r17 < (0 : Int32)
      · refine Gk.ifYes X17 hx (hb hby d9_43) (tlt hc43).1 50 (by decide) (by decide) ?_
        refine Gk.iconst X17 hx (hb hby d9_50) (0 : Int32) rfl ?_
        exact Gk.rNH (s := s) X17 hx hret (by simp) hns (hb hby d9_51) rfl S17_ (Nat.le_trans q17_ (Nat.le_refl _)) Z17_ (own_EW hw) hh R17_ (0 : Int32) rfl ⟨congrArg (fun z_ : Int32 => some (Value.int z_)) (show (0 : Int32) = (isEsc c0 c1 c2) from (if_neg (fun q_ => (qh43.mp hc43) q_.2.2)).symm), N17, (((Keep.refl h0 []).trans K4 all0).trans K17 all0)⟩
      · refine Gk.ifNo X17 hx (hb hby d9_43) (flt hc43).1 ?_
        refine Gk.iconst X17 hx (hb hby d9_46) (1 : Int32) rfl ?_
        refine Gk.goto X17 hx (hb hby d9_47) 51 (by decide) (by decide) ?_
        exact Gk.rNH (s := s) X17 hx hret (by simp) hns (hb hby d9_51) rfl S17_ (Nat.le_trans q17_ (Nat.le_refl _)) Z17_ (own_EW hw) hh R17_ (1 : Int32) rfl ⟨congrArg (fun z_ : Int32 => some (Value.int z_)) (show (1 : Int32) = (isEsc c0 c1 c2) from (if_pos ⟨hc17, Classical.not_not.mp (fun q_ => hc30 (qh30.mpr q_)), Classical.not_not.mp (fun q_ => hc43 (qh43.mpr q_))⟩).symm), N17, (((Keep.refl h0 []).trans K4 all0).trans K17 all0)⟩
  · refine Gk.icmpYes X2 hx (hb hby d9_17) (feq hc17).2 50 (by decide) (by decide) ?_
    refine Gk.iconst X2 hx (hb hby d9_50) (0 : Int32) rfl ?_
    have R21_ := CHr.refl hCH
    exact Gk.rNH (s := s) (show Stand p l e _ (s.setVm s.vm) m _ below meth c _ _ _ _ from X2) hx hret (by simp) hns (hb hby d9_51) e2 ((State.WarmedH.refl s).since 0) (Nat.zero_le _) hZ (own_EW hw) hh R21_ (0 : Int32) rfl ⟨congrArg (fun z_ : Int32 => some (Value.int z_)) (show (0 : Int32) = (isEsc c0 c1 c2) from (if_neg (fun q_ => hc17 q_.1)).symm), N2, (Keep.refl h0 [])⟩
theorem ie_1_1 (hw : HW Z a0) (a1 b1 : Addr) (kb : ClassId) (fb : Nat → Value) (n1 c0 c1 c2 w_COMPACT_STRINGS : Int32) (w_SIOOBE_FORMATTER : Value) (Z0 : n0 ≤ h0.size) (S_COMPACT_STRINGS : Stx Z n0 h0 "java/lang/String" "COMPACT_STRINGS" "Z" (.int w_COMPACT_STRINGS)) (S_SIOOBE_FORMATTER : Stx Z n0 h0 "jdk/internal/util/Preconditions" "SIOOBE_FORMATTER" "Ljava/util/function/BiFunction;" w_SIOOBE_FORMATTER) (S__assertionsDisabled : Stx Z n0 h0 "java/lang/StringUTF16" "$assertionsDisabled" "Z" (.int (1 : Int32))) (S_HI_BYTE_SHIFT : Stx Z n0 h0 "java/lang/StringUTF16" "HI_BYTE_SHIFT" "I" (.int (0 : Int32))) (S_LO_BYTE_SHIFT : Stx Z n0 h0 "java/lang/StringUTF16" "LO_BYTE_SHIFT" "I" (.int (8 : Int32))) (E_a1 : Exa Z h0 a1 "java/lang/String") (Fc1 : Fld Z h0 a1 "java/lang/String" "coder" "B" (.int (1 : Int32))) (Fv1 : Fld Z h0 a1 "java/lang/String" "value" "[B" (.ref b1)) (V_b : Arf Z h0 b1 kb .byte n1 fb) (hlt : (3 : Int32) < (n1 >>> ((1 : Int32) &&& 31))) (hx0 : (1 : Int32) < (n1 >>> ((1 : Int32) &&& 31))) (hx1 : (2 : Int32) < (n1 >>> ((1 : Int32) &&& 31))) (hx2 : (3 : Int32) < (n1 >>> ((1 : Int32) &&& 31))) (hy0 : (2 : Int32) < n1) (hy1 : (4 : Int32) < n1) (hy2 : (6 : Int32) < n1) (hz0 : (3 : Int32) < n1) (hz1 : (5 : Int32) < n1) (hz2 : (7 : Int32) < n1) (hl0 : fb 2 = .int ((c0 >>> ((0 : Int32) &&& 31)).toInt8.toInt32)) (hl1 : fb 4 = .int ((c1 >>> ((0 : Int32) &&& 31)).toInt8.toInt32)) (hl2 : fb 6 = .int ((c2 >>> ((0 : Int32) &&& 31)).toInt8.toInt32)) (hh0 : fb 3 = .int ((c0 >>> ((8 : Int32) &&& 31)).toInt8.toInt32)) (hh1 : fb 5 = .int ((c1 >>> ((8 : Int32) &&& 31)).toInt8.toInt32)) (hh2 : fb 7 = .int ((c2 >>> ((8 : Int32) &&& 31)).toInt8.toInt32)) (hb0 : 0 ≤ c0.toInt ∧ c0.toInt < 65536) (hb1 : 0 ≤ c1.toInt ∧ c1.toInt < 65536) (hb2 : 0 ≤ c2.toInt ∧ c2.toInt < 65536) (hcs : ¬ (w_COMPACT_STRINGS = (0 : Int32))) (hsf : w_SIOOBE_FORMATTER.isRef = true) : CtH l ⟨"com/example/method_to_route/methodtoroute/PercentEncoding", "isEscape", "(Ljava/lang/String;I)Z"⟩ prog_8_method_9_code 2 (some .boolean) ⟨5, 4, 184, 72⟩ #[(.ref a1), (.int (1 : Int32))] Z h0 consts_1 (fun v h L => v = some (.int (isEsc c0 c1 c2)) ∧ Fr n0 L ∧ Keep h0 h []) := by
  refine CtH.of "com/example/method_to_route/methodtoroute/PercentEncoding" rfl (plainFor_of_name pn_460) #[.val (.ref a1), .val (.int (1 : Int32))] rfl rfl ?_
  intro p e s m below meth c s₁ hx hby hml hown hnm hret hns hZ hh X0 e0 hCH
  refine Gk.iloadN X0 hx (hb hby d9_0) rfl ?_
  refine Gk.iconst X0 hx (hb hby d9_1) (2 : Int32) rfl ?_
  refine Gk.iadd X0 hx (hb hby d9_2) (3 : Int32) (by decide) ?_
  refine Gk.aloadN X0 hx (hb hby d9_3) rfl rfl ?_
  refine Gk.callV (argsL := []) X0 hx hZ hown (len_1 l Z a0 h0 n0 hw a1 b1 kb fb n1 w_COMPACT_STRINGS Z0 S_COMPACT_STRINGS E_a1 Fc1 Fv1 V_b hcs) (W hw 41 rfl) (W hw 42 rfl) (notFace_of_selects (args := #[]) (mvT hZ (W hw 44 rfl))) (W hw 44 rfl) (W hw 43 rfl) (by decide) (W hw 45 rfl) (W hw 10 rfl) e0 E_a1 pd_18 rfl rfl rfl (by rw [hml]; rfl) rfl (hb hby d9_4) ?_
  intro T1 L1 v1 X1 hQ1
  obtain ⟨rfl, N1q, e1⟩ := hQ1
  have N1 := Fr.app (Fr.nil n0) N1q
  show Go p e below (T1.setTop (mkF m 7 _ [(.int (n1 >>> ((1 : Int32) &&& 31))), (.int (3 : Int32))])) _
  have hc7 : (3 : Int32) < (n1 >>> ((1 : Int32) &&& 31)) := hlt
  refine Gk.icmpNo X1 hx (hb hby d9_7) (tlt hc7).2.1 ?_
  refine Gk.aloadN X1 hx (hb hby d9_10) rfl rfl ?_
  refine Gk.iloadN X1 hx (hb hby d9_11) rfl ?_
  refine Gk.callV (argsL := [(.int (1 : Int32))]) X1 hx hZ hown (scu_1 l Z a0 h0 n0 hw a1 b1 kb fb n1 c0 w_COMPACT_STRINGS w_SIOOBE_FORMATTER Z0 S_COMPACT_STRINGS S_SIOOBE_FORMATTER S__assertionsDisabled S_HI_BYTE_SHIFT S_LO_BYTE_SHIFT E_a1 Fc1 Fv1 V_b hx0 hy0 hz0 hl0 hh0 hb0 hsf hcs) (W hw 51 rfl) (W hw 52 rfl) (notFace_of_selects (args := #[]) (mvT hZ (W hw 54 rfl))) (W hw 54 rfl) (W hw 53 rfl) (by decide) (W hw 55 rfl) (W hw 10 rfl) e1 E_a1 pd_19 rfl rfl rfl (by rw [hml]; rfl) rfl (hb hby d9_12) ?_
  intro T2 L2 v2 X2 hQ2
  obtain ⟨rfl, N2q, e2⟩ := hQ2
  have N2 := Fr.app N1 N2q
  show Go p e below (T2.setTop (mkF m 15 _ [(.int c0)])) _
  refine Gk.bipush X2 hx (hb hby d9_15) (37 : Int32) rfl ?_
  by_cases hc17 : c0 = (37 : Int32)
  · refine Gk.icmpNo X2 hx (hb hby d9_17) (teq hc17).2 ?_
    refine Gk.aloadN X2 hx (hb hby d9_20) rfl rfl ?_
    refine Gk.iloadN X2 hx (hb hby d9_21) rfl ?_
    refine Gk.iconst X2 hx (hb hby d9_22) (1 : Int32) rfl ?_
    refine Gk.iadd X2 hx (hb hby d9_23) (2 : Int32) (by decide) ?_
    refine Gk.callV (argsL := [(.int (2 : Int32))]) X2 hx hZ hown (scu_2 l Z a0 h0 n0 hw a1 b1 kb fb n1 c1 w_COMPACT_STRINGS w_SIOOBE_FORMATTER Z0 S_COMPACT_STRINGS S_SIOOBE_FORMATTER S__assertionsDisabled S_HI_BYTE_SHIFT S_LO_BYTE_SHIFT E_a1 Fc1 Fv1 V_b hx1 hy1 hz1 hl1 hh1 hb1 hsf hcs) (W hw 51 rfl) (W hw 52 rfl) (notFace_of_selects (args := #[]) (mvT hZ (W hw 54 rfl))) (W hw 54 rfl) (W hw 53 rfl) (by decide) (W hw 55 rfl) (W hw 10 rfl) e2 E_a1 pd_19 rfl rfl rfl (by rw [hml]; rfl) rfl (hb hby d9_24) ?_
    intro T3 L3 v3 X3 hQ3
    obtain ⟨rfl, N3q, e3⟩ := hQ3
    have N3 := Fr.app N2 N3q
    show Go p e below (T3.setTop (mkF m 27 _ [(.int c1)])) _
    have R5_ := CHr.refl hCH
    refine Gk.callSH (s := s) (argsL := [(.int c1)]) (show Stand p l e _ (s.setVm s.vm) m _ below meth c _ _ _ _ from X3) hx hZ hown (hexd l Z a0 h0 n0 hw c1 w_COMPACT_STRINGS Z0 S_COMPACT_STRINGS hb1 hcs) (W hw 111 rfl) (W hw 112 rfl) (W hw 39 rfl) (W hw 113 rfl) (by decide) e3 ((State.WarmedH.refl s).since 0) (Nat.zero_le _) (own_EW hw) R5_.1 pd_20 rfl rfl rfl (by rw [hml]; rfl) rfl (hb hby d9_27) ?_
    intro T4 L4 v4 kS4 X4 S4_ q4_ Z4_ o4_ C4_ hQ4
    have R4_ := R5_.trans C4_
    obtain ⟨⟨r4, rfl, qh30⟩, N4q, K4⟩ := hQ4
    have N4 := Fr.app N3 N4q
    show Go p e below (T4.setTop (mkF m 30 _ [(.int r4)])) _
    by_cases hc30 : r4 < (0 : Int32)
    · refine Gk.ifYes X4 hx (hb hby d9_30) (tlt hc30).1 50 (by decide) (by decide) ?_
      refine Gk.iconst X4 hx (hb hby d9_50) (0 : Int32) rfl ?_
      exact Gk.rNH (s := s) X4 hx hret (by simp) hns (hb hby d9_51) rfl S4_ (Nat.le_trans q4_ (Nat.le_refl _)) Z4_ (own_EW hw) hh R4_ (0 : Int32) rfl ⟨congrArg (fun z_ : Int32 => some (Value.int z_)) (show (0 : Int32) = (isEsc c0 c1 c2) from (if_neg (fun q_ => (qh30.mp hc30) q_.2.1)).symm), N4, ((Keep.refl h0 []).trans K4 all0)⟩
    · refine Gk.ifNo X4 hx (hb hby d9_30) (flt hc30).1 ?_
      refine Gk.aloadN X4 hx (hb hby d9_33) rfl rfl ?_
      refine Gk.iloadN X4 hx (hb hby d9_34) rfl ?_
      refine Gk.iconst X4 hx (hb hby d9_35) (2 : Int32) rfl ?_
      refine Gk.iadd X4 hx (hb hby d9_36) (3 : Int32) (by decide) ?_
      have H8 := (Fc1.keep K4 nin0)
      have H9 := (Fv1.keep K4 nin0)
      have H10 := (V_b.keep K4 nin0)
      have H11 := (S_COMPACT_STRINGS.keep K4 all0)
      have H12 := (S_SIOOBE_FORMATTER.keep K4 all0)
      have H13 := (S__assertionsDisabled.keep K4 all0)
      have H14 := (S_HI_BYTE_SHIFT.keep K4 all0)
      have H15 := (S_LO_BYTE_SHIFT.keep K4 all0)
      have H16 := (E_a1.keep K4)
      refine Gk.callV (argsL := [(.int (3 : Int32))]) X4 hx Z4_ o4_ (scu_3 l Z a0 T4.heap n0 hw a1 b1 kb fb n1 c2 w_COMPACT_STRINGS w_SIOOBE_FORMATTER (Nat.le_trans Z0 K4.1) H11 H12 H13 H14 H15 H16 H8 H9 H10 hx2 hy2 hz2 hl2 hh2 hb2 hsf hcs) (W hw 51 rfl) (W hw 52 rfl) (notFace_of_selects (args := #[]) (mvT Z4_ (W hw 54 rfl))) (W hw 54 rfl) (W hw 53 rfl) (by decide) (W hw 55 rfl) (W hw 10 rfl) rfl H16 pd_19 rfl rfl rfl (by rw [hml]; rfl) rfl (hb hby d9_37) ?_
      intro T7 L7 v7 X7 hQ7
      obtain ⟨rfl, N7q, e7⟩ := hQ7
      have N7 := Fr.app N4 N7q
      show Go p e below (T7.setTop (mkF m 40 _ [(.int c2)])) _
      refine Gk.callSH (s := s) (argsL := [(.int c2)]) X7 hx Z4_ o4_ (hexd l Z a0 T4.heap n0 hw c2 w_COMPACT_STRINGS (Nat.le_trans Z0 K4.1) H11 hb2 hcs) (W hw 111 rfl) (W hw 112 rfl) (W hw 39 rfl) (W hw 113 rfl) (by decide) e7 S4_ (Nat.le_trans q4_ (Nat.le_refl _)) (own_EW hw) R4_.1 pd_20 rfl rfl rfl (by rw [hml]; rfl) rfl (hb hby d9_40) ?_
      intro T17 L17 v17 kS17 X17 S17_ q17_ Z17_ o17_ C17_ hQ17
      have R17_ := R4_.trans C17_
      obtain ⟨⟨r17, rfl, qh43⟩, N17q, K17⟩ := hQ17
      have N17 := Fr.app N7 N17q
      show Go p e below (T17.setTop (mkF m 43 _ [(.int r17)])) _
      by_cases hc43 : r17 < (0 : Int32)
      · refine Gk.ifYes X17 hx (hb hby d9_43) (tlt hc43).1 50 (by decide) (by decide) ?_
        refine Gk.iconst X17 hx (hb hby d9_50) (0 : Int32) rfl ?_
        exact Gk.rNH (s := s) X17 hx hret (by simp) hns (hb hby d9_51) rfl S17_ (Nat.le_trans q17_ (Nat.le_refl _)) Z17_ (own_EW hw) hh R17_ (0 : Int32) rfl ⟨congrArg (fun z_ : Int32 => some (Value.int z_)) (show (0 : Int32) = (isEsc c0 c1 c2) from (if_neg (fun q_ => (qh43.mp hc43) q_.2.2)).symm), N17, (((Keep.refl h0 []).trans K4 all0).trans K17 all0)⟩
      · refine Gk.ifNo X17 hx (hb hby d9_43) (flt hc43).1 ?_
        refine Gk.iconst X17 hx (hb hby d9_46) (1 : Int32) rfl ?_
        refine Gk.goto X17 hx (hb hby d9_47) 51 (by decide) (by decide) ?_
        exact Gk.rNH (s := s) X17 hx hret (by simp) hns (hb hby d9_51) rfl S17_ (Nat.le_trans q17_ (Nat.le_refl _)) Z17_ (own_EW hw) hh R17_ (1 : Int32) rfl ⟨congrArg (fun z_ : Int32 => some (Value.int z_)) (show (1 : Int32) = (isEsc c0 c1 c2) from (if_pos ⟨hc17, Classical.not_not.mp (fun q_ => hc30 (qh30.mpr q_)), Classical.not_not.mp (fun q_ => hc43 (qh43.mpr q_))⟩).symm), N17, (((Keep.refl h0 []).trans K4 all0).trans K17 all0)⟩
  · refine Gk.icmpYes X2 hx (hb hby d9_17) (feq hc17).2 50 (by decide) (by decide) ?_
    refine Gk.iconst X2 hx (hb hby d9_50) (0 : Int32) rfl ?_
    have R21_ := CHr.refl hCH
    exact Gk.rNH (s := s) (show Stand p l e _ (s.setVm s.vm) m _ below meth c _ _ _ _ from X2) hx hret (by simp) hns (hb hby d9_51) e2 ((State.WarmedH.refl s).since 0) (Nat.zero_le _) hZ (own_EW hw) hh R21_ (0 : Int32) rfl ⟨congrArg (fun z_ : Int32 => some (Value.int z_)) (show (0 : Int32) = (isEsc c0 c1 c2) from (if_neg (fun q_ => hc17 q_.1)).symm), N2, (Keep.refl h0 [])⟩
theorem ie_1_2 (hw : HW Z a0) (a1 b1 : Addr) (kb : ClassId) (fb : Nat → Value) (n1 c0 c1 c2 w_COMPACT_STRINGS : Int32) (w_SIOOBE_FORMATTER : Value) (Z0 : n0 ≤ h0.size) (S_COMPACT_STRINGS : Stx Z n0 h0 "java/lang/String" "COMPACT_STRINGS" "Z" (.int w_COMPACT_STRINGS)) (S_SIOOBE_FORMATTER : Stx Z n0 h0 "jdk/internal/util/Preconditions" "SIOOBE_FORMATTER" "Ljava/util/function/BiFunction;" w_SIOOBE_FORMATTER) (S__assertionsDisabled : Stx Z n0 h0 "java/lang/StringUTF16" "$assertionsDisabled" "Z" (.int (1 : Int32))) (S_HI_BYTE_SHIFT : Stx Z n0 h0 "java/lang/StringUTF16" "HI_BYTE_SHIFT" "I" (.int (0 : Int32))) (S_LO_BYTE_SHIFT : Stx Z n0 h0 "java/lang/StringUTF16" "LO_BYTE_SHIFT" "I" (.int (8 : Int32))) (E_a1 : Exa Z h0 a1 "java/lang/String") (Fc1 : Fld Z h0 a1 "java/lang/String" "coder" "B" (.int (1 : Int32))) (Fv1 : Fld Z h0 a1 "java/lang/String" "value" "[B" (.ref b1)) (V_b : Arf Z h0 b1 kb .byte n1 fb) (hlt : (4 : Int32) < (n1 >>> ((1 : Int32) &&& 31))) (hx0 : (2 : Int32) < (n1 >>> ((1 : Int32) &&& 31))) (hx1 : (3 : Int32) < (n1 >>> ((1 : Int32) &&& 31))) (hx2 : (4 : Int32) < (n1 >>> ((1 : Int32) &&& 31))) (hy0 : (4 : Int32) < n1) (hy1 : (6 : Int32) < n1) (hy2 : (8 : Int32) < n1) (hz0 : (5 : Int32) < n1) (hz1 : (7 : Int32) < n1) (hz2 : (9 : Int32) < n1) (hl0 : fb 4 = .int ((c0 >>> ((0 : Int32) &&& 31)).toInt8.toInt32)) (hl1 : fb 6 = .int ((c1 >>> ((0 : Int32) &&& 31)).toInt8.toInt32)) (hl2 : fb 8 = .int ((c2 >>> ((0 : Int32) &&& 31)).toInt8.toInt32)) (hh0 : fb 5 = .int ((c0 >>> ((8 : Int32) &&& 31)).toInt8.toInt32)) (hh1 : fb 7 = .int ((c1 >>> ((8 : Int32) &&& 31)).toInt8.toInt32)) (hh2 : fb 9 = .int ((c2 >>> ((8 : Int32) &&& 31)).toInt8.toInt32)) (hb0 : 0 ≤ c0.toInt ∧ c0.toInt < 65536) (hb1 : 0 ≤ c1.toInt ∧ c1.toInt < 65536) (hb2 : 0 ≤ c2.toInt ∧ c2.toInt < 65536) (hcs : ¬ (w_COMPACT_STRINGS = (0 : Int32))) (hsf : w_SIOOBE_FORMATTER.isRef = true) : CtH l ⟨"com/example/method_to_route/methodtoroute/PercentEncoding", "isEscape", "(Ljava/lang/String;I)Z"⟩ prog_8_method_9_code 2 (some .boolean) ⟨5, 4, 184, 72⟩ #[(.ref a1), (.int (2 : Int32))] Z h0 consts_1 (fun v h L => v = some (.int (isEsc c0 c1 c2)) ∧ Fr n0 L ∧ Keep h0 h []) := by
  refine CtH.of "com/example/method_to_route/methodtoroute/PercentEncoding" rfl (plainFor_of_name pn_460) #[.val (.ref a1), .val (.int (2 : Int32))] rfl rfl ?_
  intro p e s m below meth c s₁ hx hby hml hown hnm hret hns hZ hh X0 e0 hCH
  refine Gk.iloadN X0 hx (hb hby d9_0) rfl ?_
  refine Gk.iconst X0 hx (hb hby d9_1) (2 : Int32) rfl ?_
  refine Gk.iadd X0 hx (hb hby d9_2) (4 : Int32) (by decide) ?_
  refine Gk.aloadN X0 hx (hb hby d9_3) rfl rfl ?_
  refine Gk.callV (argsL := []) X0 hx hZ hown (len_1 l Z a0 h0 n0 hw a1 b1 kb fb n1 w_COMPACT_STRINGS Z0 S_COMPACT_STRINGS E_a1 Fc1 Fv1 V_b hcs) (W hw 41 rfl) (W hw 42 rfl) (notFace_of_selects (args := #[]) (mvT hZ (W hw 44 rfl))) (W hw 44 rfl) (W hw 43 rfl) (by decide) (W hw 45 rfl) (W hw 10 rfl) e0 E_a1 pd_18 rfl rfl rfl (by rw [hml]; rfl) rfl (hb hby d9_4) ?_
  intro T1 L1 v1 X1 hQ1
  obtain ⟨rfl, N1q, e1⟩ := hQ1
  have N1 := Fr.app (Fr.nil n0) N1q
  show Go p e below (T1.setTop (mkF m 7 _ [(.int (n1 >>> ((1 : Int32) &&& 31))), (.int (4 : Int32))])) _
  have hc7 : (4 : Int32) < (n1 >>> ((1 : Int32) &&& 31)) := hlt
  refine Gk.icmpNo X1 hx (hb hby d9_7) (tlt hc7).2.1 ?_
  refine Gk.aloadN X1 hx (hb hby d9_10) rfl rfl ?_
  refine Gk.iloadN X1 hx (hb hby d9_11) rfl ?_
  refine Gk.callV (argsL := [(.int (2 : Int32))]) X1 hx hZ hown (scu_2 l Z a0 h0 n0 hw a1 b1 kb fb n1 c0 w_COMPACT_STRINGS w_SIOOBE_FORMATTER Z0 S_COMPACT_STRINGS S_SIOOBE_FORMATTER S__assertionsDisabled S_HI_BYTE_SHIFT S_LO_BYTE_SHIFT E_a1 Fc1 Fv1 V_b hx0 hy0 hz0 hl0 hh0 hb0 hsf hcs) (W hw 51 rfl) (W hw 52 rfl) (notFace_of_selects (args := #[]) (mvT hZ (W hw 54 rfl))) (W hw 54 rfl) (W hw 53 rfl) (by decide) (W hw 55 rfl) (W hw 10 rfl) e1 E_a1 pd_19 rfl rfl rfl (by rw [hml]; rfl) rfl (hb hby d9_12) ?_
  intro T2 L2 v2 X2 hQ2
  obtain ⟨rfl, N2q, e2⟩ := hQ2
  have N2 := Fr.app N1 N2q
  show Go p e below (T2.setTop (mkF m 15 _ [(.int c0)])) _
  refine Gk.bipush X2 hx (hb hby d9_15) (37 : Int32) rfl ?_
  by_cases hc17 : c0 = (37 : Int32)
  · refine Gk.icmpNo X2 hx (hb hby d9_17) (teq hc17).2 ?_
    refine Gk.aloadN X2 hx (hb hby d9_20) rfl rfl ?_
    refine Gk.iloadN X2 hx (hb hby d9_21) rfl ?_
    refine Gk.iconst X2 hx (hb hby d9_22) (1 : Int32) rfl ?_
    refine Gk.iadd X2 hx (hb hby d9_23) (3 : Int32) (by decide) ?_
    refine Gk.callV (argsL := [(.int (3 : Int32))]) X2 hx hZ hown (scu_3 l Z a0 h0 n0 hw a1 b1 kb fb n1 c1 w_COMPACT_STRINGS w_SIOOBE_FORMATTER Z0 S_COMPACT_STRINGS S_SIOOBE_FORMATTER S__assertionsDisabled S_HI_BYTE_SHIFT S_LO_BYTE_SHIFT E_a1 Fc1 Fv1 V_b hx1 hy1 hz1 hl1 hh1 hb1 hsf hcs) (W hw 51 rfl) (W hw 52 rfl) (notFace_of_selects (args := #[]) (mvT hZ (W hw 54 rfl))) (W hw 54 rfl) (W hw 53 rfl) (by decide) (W hw 55 rfl) (W hw 10 rfl) e2 E_a1 pd_19 rfl rfl rfl (by rw [hml]; rfl) rfl (hb hby d9_24) ?_
    intro T3 L3 v3 X3 hQ3
    obtain ⟨rfl, N3q, e3⟩ := hQ3
    have N3 := Fr.app N2 N3q
    show Go p e below (T3.setTop (mkF m 27 _ [(.int c1)])) _
    have R5_ := CHr.refl hCH
    refine Gk.callSH (s := s) (argsL := [(.int c1)]) (show Stand p l e _ (s.setVm s.vm) m _ below meth c _ _ _ _ from X3) hx hZ hown (hexd l Z a0 h0 n0 hw c1 w_COMPACT_STRINGS Z0 S_COMPACT_STRINGS hb1 hcs) (W hw 111 rfl) (W hw 112 rfl) (W hw 39 rfl) (W hw 113 rfl) (by decide) e3 ((State.WarmedH.refl s).since 0) (Nat.zero_le _) (own_EW hw) R5_.1 pd_20 rfl rfl rfl (by rw [hml]; rfl) rfl (hb hby d9_27) ?_
    intro T4 L4 v4 kS4 X4 S4_ q4_ Z4_ o4_ C4_ hQ4
    have R4_ := R5_.trans C4_
    obtain ⟨⟨r4, rfl, qh30⟩, N4q, K4⟩ := hQ4
    have N4 := Fr.app N3 N4q
    show Go p e below (T4.setTop (mkF m 30 _ [(.int r4)])) _
    by_cases hc30 : r4 < (0 : Int32)
    · refine Gk.ifYes X4 hx (hb hby d9_30) (tlt hc30).1 50 (by decide) (by decide) ?_
      refine Gk.iconst X4 hx (hb hby d9_50) (0 : Int32) rfl ?_
      exact Gk.rNH (s := s) X4 hx hret (by simp) hns (hb hby d9_51) rfl S4_ (Nat.le_trans q4_ (Nat.le_refl _)) Z4_ (own_EW hw) hh R4_ (0 : Int32) rfl ⟨congrArg (fun z_ : Int32 => some (Value.int z_)) (show (0 : Int32) = (isEsc c0 c1 c2) from (if_neg (fun q_ => (qh30.mp hc30) q_.2.1)).symm), N4, ((Keep.refl h0 []).trans K4 all0)⟩
    · refine Gk.ifNo X4 hx (hb hby d9_30) (flt hc30).1 ?_
      refine Gk.aloadN X4 hx (hb hby d9_33) rfl rfl ?_
      refine Gk.iloadN X4 hx (hb hby d9_34) rfl ?_
      refine Gk.iconst X4 hx (hb hby d9_35) (2 : Int32) rfl ?_
      refine Gk.iadd X4 hx (hb hby d9_36) (4 : Int32) (by decide) ?_
      have H8 := (Fc1.keep K4 nin0)
      have H9 := (Fv1.keep K4 nin0)
      have H10 := (V_b.keep K4 nin0)
      have H11 := (S_COMPACT_STRINGS.keep K4 all0)
      have H12 := (S_SIOOBE_FORMATTER.keep K4 all0)
      have H13 := (S__assertionsDisabled.keep K4 all0)
      have H14 := (S_HI_BYTE_SHIFT.keep K4 all0)
      have H15 := (S_LO_BYTE_SHIFT.keep K4 all0)
      have H16 := (E_a1.keep K4)
      refine Gk.callV (argsL := [(.int (4 : Int32))]) X4 hx Z4_ o4_ (scu_4 l Z a0 T4.heap n0 hw a1 b1 kb fb n1 c2 w_COMPACT_STRINGS w_SIOOBE_FORMATTER (Nat.le_trans Z0 K4.1) H11 H12 H13 H14 H15 H16 H8 H9 H10 hx2 hy2 hz2 hl2 hh2 hb2 hsf hcs) (W hw 51 rfl) (W hw 52 rfl) (notFace_of_selects (args := #[]) (mvT Z4_ (W hw 54 rfl))) (W hw 54 rfl) (W hw 53 rfl) (by decide) (W hw 55 rfl) (W hw 10 rfl) rfl H16 pd_19 rfl rfl rfl (by rw [hml]; rfl) rfl (hb hby d9_37) ?_
      intro T7 L7 v7 X7 hQ7
      obtain ⟨rfl, N7q, e7⟩ := hQ7
      have N7 := Fr.app N4 N7q
      show Go p e below (T7.setTop (mkF m 40 _ [(.int c2)])) _
      refine Gk.callSH (s := s) (argsL := [(.int c2)]) X7 hx Z4_ o4_ (hexd l Z a0 T4.heap n0 hw c2 w_COMPACT_STRINGS (Nat.le_trans Z0 K4.1) H11 hb2 hcs) (W hw 111 rfl) (W hw 112 rfl) (W hw 39 rfl) (W hw 113 rfl) (by decide) e7 S4_ (Nat.le_trans q4_ (Nat.le_refl _)) (own_EW hw) R4_.1 pd_20 rfl rfl rfl (by rw [hml]; rfl) rfl (hb hby d9_40) ?_
      intro T17 L17 v17 kS17 X17 S17_ q17_ Z17_ o17_ C17_ hQ17
      have R17_ := R4_.trans C17_
      obtain ⟨⟨r17, rfl, qh43⟩, N17q, K17⟩ := hQ17
      have N17 := Fr.app N7 N17q
      show Go p e below (T17.setTop (mkF m 43 _ [(.int r17)])) _
      by_cases hc43 : r17 < (0 : Int32)
      · refine Gk.ifYes X17 hx (hb hby d9_43) (tlt hc43).1 50 (by decide) (by decide) ?_
        refine Gk.iconst X17 hx (hb hby d9_50) (0 : Int32) rfl ?_
        exact Gk.rNH (s := s) X17 hx hret (by simp) hns (hb hby d9_51) rfl S17_ (Nat.le_trans q17_ (Nat.le_refl _)) Z17_ (own_EW hw) hh R17_ (0 : Int32) rfl ⟨congrArg (fun z_ : Int32 => some (Value.int z_)) (show (0 : Int32) = (isEsc c0 c1 c2) from (if_neg (fun q_ => (qh43.mp hc43) q_.2.2)).symm), N17, (((Keep.refl h0 []).trans K4 all0).trans K17 all0)⟩
      · refine Gk.ifNo X17 hx (hb hby d9_43) (flt hc43).1 ?_
        refine Gk.iconst X17 hx (hb hby d9_46) (1 : Int32) rfl ?_
        refine Gk.goto X17 hx (hb hby d9_47) 51 (by decide) (by decide) ?_
        exact Gk.rNH (s := s) X17 hx hret (by simp) hns (hb hby d9_51) rfl S17_ (Nat.le_trans q17_ (Nat.le_refl _)) Z17_ (own_EW hw) hh R17_ (1 : Int32) rfl ⟨congrArg (fun z_ : Int32 => some (Value.int z_)) (show (1 : Int32) = (isEsc c0 c1 c2) from (if_pos ⟨hc17, Classical.not_not.mp (fun q_ => hc30 (qh30.mpr q_)), Classical.not_not.mp (fun q_ => hc43 (qh43.mpr q_))⟩).symm), N17, (((Keep.refl h0 []).trans K4 all0).trans K17 all0)⟩
  · refine Gk.icmpYes X2 hx (hb hby d9_17) (feq hc17).2 50 (by decide) (by decide) ?_
    refine Gk.iconst X2 hx (hb hby d9_50) (0 : Int32) rfl ?_
    have R21_ := CHr.refl hCH
    exact Gk.rNH (s := s) (show Stand p l e _ (s.setVm s.vm) m _ below meth c _ _ _ _ from X2) hx hret (by simp) hns (hb hby d9_51) e2 ((State.WarmedH.refl s).since 0) (Nat.zero_le _) hZ (own_EW hw) hh R21_ (0 : Int32) rfl ⟨congrArg (fun z_ : Int32 => some (Value.int z_)) (show (0 : Int32) = (isEsc c0 c1 c2) from (if_neg (fun q_ => hc17 q_.1)).symm), N2, (Keep.refl h0 [])⟩
theorem d1_0 : decode method_3_code 0 = .ok (.iload_n 0, 1) := by decide +kernel
theorem d1_1 : decode method_3_code 1 = .ok (.bipush 16, 2) := by decide +kernel
theorem d1_3 : decode method_3_code 3 = .ok (.iushr, 1) := by decide +kernel
theorem d1_4 : decode method_3_code 4 = .ok (.iconst 3, 1) := by decide +kernel
theorem d1_5 : decode method_3_code 5 = .ok (.iand, 1) := by decide +kernel
theorem d1_6 : decode method_3_code 6 = .ok (.istore_n 1, 1) := by decide +kernel
theorem d1_7 : decode method_3_code 7 = .ok (.iload_n 1, 1) := by decide +kernel
theorem d1_8 : decode method_3_code 8 = .ok (.ifCond .ne 6, 3) := by decide +kernel
theorem d1_11 : decode method_3_code 11 = .ok (.iload_n 0, 1) := by decide +kernel
theorem d1_12 : decode method_3_code 12 = .ok (.i2c, 1) := by decide +kernel
theorem d1_13 : decode method_3_code 13 = .ok (.ireturn, 1) := by decide +kernel
theorem d1_14 : decode method_3_code 14 = .ok (.iload_n 1, 1) := by decide +kernel
theorem d1_15 : decode method_3_code 15 = .ok (.iconst 1, 1) := by decide +kernel
theorem d1_16 : decode method_3_code 16 = .ok (.if_icmp .ne 6, 3) := by decide +kernel
theorem d1_19 : decode method_3_code 19 = .ok (.bipush 37, 2) := by decide +kernel
theorem d1_21 : decode method_3_code 21 = .ok (.ireturn, 1) := by decide +kernel
theorem d1_22 : decode method_3_code 22 = .ok (.iload_n 1, 1) := by decide +kernel
theorem d1_23 : decode method_3_code 23 = .ok (.iconst 2, 1) := by decide +kernel
theorem d1_24 : decode method_3_code 24 = .ok (.if_icmp .ne 16, 3) := by decide +kernel
theorem d1_27 : decode method_3_code 27 = .ok (.ldc 27, 2) := by decide +kernel
theorem d1_29 : decode method_3_code 29 = .ok (.iload_n 0, 1) := by decide +kernel
theorem d1_30 : decode method_3_code 30 = .ok (.ldc 29, 2) := by decide +kernel
theorem d1_32 : decode method_3_code 32 = .ok (.iand, 1) := by decide +kernel
theorem d1_33 : decode method_3_code 33 = .ok (.bipush 22, 2) := by decide +kernel
theorem d1_35 : decode method_3_code 35 = .ok (.irem, 1) := by decide +kernel
theorem d1_36 : decode method_3_code 36 = .ok (.invokevirtual 30, 3) := by decide +kernel
theorem d1_39 : decode method_3_code 39 = .ok (.ireturn, 1) := by decide +kernel
theorem d1_40 : decode method_3_code 40 = .ok (.iload_n 0, 1) := by decide +kernel
theorem d1_41 : decode method_3_code 41 = .ok (.sipush 255, 3) := by decide +kernel
theorem d1_44 : decode method_3_code 44 = .ok (.iand, 1) := by decide +kernel
theorem d1_45 : decode method_3_code 45 = .ok (.i2c, 1) := by decide +kernel
theorem d1_46 : decode method_3_code 46 = .ok (.ireturn, 1) := by decide +kernel
theorem draw (hw : HW Z a0) (p1 w_COMPACT_STRINGS : Int32) (w_SIOOBE_FORMATTER : Value) (Z0 : n0 ≤ h0.size) (S_COMPACT_STRINGS : Stx Z n0 h0 "java/lang/String" "COMPACT_STRINGS" "Z" (.int w_COMPACT_STRINGS)) (S_SIOOBE_FORMATTER : Stx Z n0 h0 "jdk/internal/util/Preconditions" "SIOOBE_FORMATTER" "Ljava/util/function/BiFunction;" w_SIOOBE_FORMATTER) (hcs : ¬ (w_COMPACT_STRINGS = (0 : Int32))) (hsf : w_SIOOBE_FORMATTER.isRef = true) : CtH l ⟨"com/example/method_to_route/methodtoroute/PercentEncodingIsEscapePinLaw", "draw", "(I)C"⟩ method_3_code 2 (some .char) ⟨4, 2, 92, 53⟩ #[(.int p1)] Z h0 consts_1 (fun v h L => (∃ r : Int32, v = some (.int r) ∧ 0 ≤ r.toInt ∧ r.toInt < 65536) ∧ Fr n0 L ∧ Keep h0 h []) := by
  refine CtH.of "com/example/method_to_route/methodtoroute/PercentEncodingIsEscapePinLaw" rfl (plainFor_of_name pn_191) #[.val (.int p1), .unset] rfl rfl ?_
  intro p e s m below meth c s₁ hx hby hml hown hnm hret hns hZ hh X0 e0 hCH
  refine Gk.iloadN X0 hx (hb hby d1_0) rfl ?_
  refine Gk.bipush X0 hx (hb hby d1_1) (16 : Int32) rfl ?_
  refine Gk.iushr X0 hx (hb hby d1_3) _ rfl ?_
  refine Gk.iconst X0 hx (hb hby d1_4) (3 : Int32) rfl ?_
  refine Gk.iand X0 hx (hb hby d1_5) _ rfl ?_
  refine Gk.istoreN X0 hx (hb hby d1_6) #[.val (.int p1), .val (.int (((p1.toUInt32 >>> ((16 : Int32) &&& 31).toUInt32).toInt32) &&& (3 : Int32)))] rfl ?_
  refine Gk.iloadN X0 hx (hb hby d1_7) rfl ?_
  by_cases hc8 : (((p1.toUInt32 >>> ((16 : Int32) &&& 31).toUInt32).toInt32) &&& (3 : Int32)) = (0 : Int32)
  · refine Gk.ifNo X0 hx (hb hby d1_8) (teq hc8).2 ?_
    refine Gk.iloadN X0 hx (hb hby d1_11) rfl ?_
    refine Gk.i2c X0 hx (hb hby d1_12) _ rfl ?_
    have R1_ := CHr.refl hCH
    exact Gk.rNH (s := s) (show Stand p l e _ (s.setVm s.vm) m _ below meth c _ _ _ _ from X0) hx hret (by simp) hns (hb hby d1_13) e0 ((State.WarmedH.refl s).since 0) (Nat.zero_le _) hZ (own_EW hw) hh R1_ (nar .char (p1.toUInt32.toUInt16.toUInt32.toInt32)) rfl ⟨⟨_, rfl, own_b16 _⟩, (Fr.nil n0), (Keep.refl h0 [])⟩
  · refine Gk.ifYes X0 hx (hb hby d1_8) (feq hc8).2 14 (by decide) (by decide) ?_
    refine Gk.iloadN X0 hx (hb hby d1_14) rfl ?_
    refine Gk.iconst X0 hx (hb hby d1_15) (1 : Int32) rfl ?_
    by_cases hc16 : (((p1.toUInt32 >>> ((16 : Int32) &&& 31).toUInt32).toInt32) &&& (3 : Int32)) = (1 : Int32)
    · refine Gk.icmpNo X0 hx (hb hby d1_16) (teq hc16).2 ?_
      refine Gk.bipush X0 hx (hb hby d1_19) (37 : Int32) rfl ?_
      have R2_ := CHr.refl hCH
      exact Gk.rNH (s := s) (show Stand p l e _ (s.setVm s.vm) m _ below meth c _ _ _ _ from X0) hx hret (by simp) hns (hb hby d1_21) e0 ((State.WarmedH.refl s).since 0) (Nat.zero_le _) hZ (own_EW hw) hh R2_ (37 : Int32) rfl ⟨⟨_, rfl, by decide, by decide⟩, (Fr.nil n0), (Keep.refl h0 [])⟩
    · refine Gk.icmpYes X0 hx (hb hby d1_16) (feq hc16).2 22 (by decide) (by decide) ?_
      refine Gk.iloadN X0 hx (hb hby d1_22) rfl ?_
      refine Gk.iconst X0 hx (hb hby d1_23) (2 : Int32) rfl ?_
      by_cases hc24 : (((p1.toUInt32 >>> ((16 : Int32) &&& 31).toUInt32).toInt32) &&& (3 : Int32)) = (2 : Int32)
      · refine Gk.icmpNo X0 hx (hb hby d1_24) (teq hc24).2 ?_
        have R4_ := CHr.refl hCH
        refine Gk.ldcH (s := s) (show Stand p l e _ (s.setVm s.vm) m _ below meth c _ _ _ _ from X0) hx hZ hown (W hw 73 rfl) (own_wS hw) e0 ((State.WarmedH.refl s).since 0) (Nat.zero_le _) (own_EW hw) (List.mem_of_getElem? (i := 1) rfl) R4_.1 lit0T (hb hby d1_27) (n := 88) (by decide) (by decide) (by decide) (by decide) ?_
        intro la3 T3 h3 kS3 lb3 lk3 X3 e3 E3 S3_ q3_ Z3_ o3_ lA3 lFc3 lFv3 lV3 llt3 lltb3 C3_ Lt3_ d3_
        have R3_ := R4_.trans C3_
        refine Gk.iloadN X3 hx (hb hby d1_29) rfl ?_
        refine Gk.ldcI X3 hx Z3_ o3_ (W hw 76 rfl) (hb hby d1_30) ?_
        refine Gk.iand X3 hx (hb hby d1_32) _ rfl ?_
        refine Gk.bipush X3 hx (hb hby d1_33) (22 : Int32) rfl ?_
        refine Gk.irem X3 hx (hb hby d1_35) (by decide) _ rfl ?_
        have H6 := (S_COMPACT_STRINGS.ext E3)
        have H7 := (S_SIOOBE_FORMATTER.ext E3)
        refine Gk.callV (argsL := [(.int ((p1 &&& (65535 : Int32)) % (22 : Int32)))]) X3 hx Z3_ o3_ (scx l Z a0 h3 n0 hw la3 ((p1 &&& (65535 : Int32)) % (22 : Int32)) lb3 lk3 (fun i => .int ((fun j_ => lit0L.getD j_ 0) i)) (22 : Int32) (lit0L.getD ((p1 &&& (65535 : Int32)) % (22 : Int32)).toNatClampNeg 0) w_COMPACT_STRINGS w_SIOOBE_FORMATTER (Nat.le_trans Z0 E3.1) H6 H7 lA3 lFc3 lFv3 lV3 (own_idx p1).1 (own_idx p1).2 rfl hcs hsf) (W hw 77 rfl) (W hw 52 rfl) (notFace_of_selects (args := #[]) (mvT Z3_ (W hw 54 rfl))) (W hw 54 rfl) (W hw 53 rfl) (by decide) (W hw 55 rfl) (W hw 10 rfl) e3 lA3 pd_19 rfl rfl rfl (by rw [hml]; rfl) rfl (hb hby d1_36) ?_
        intro T5 L5 v5 X5 hQ5
        obtain ⟨rfl, N5q, e5⟩ := hQ5
        have N5 := Fr.app (Fr.nil n0) N5q
        show Go p e below (T5.setTop (mkF m 39 _ [(.int (nar .char (nar .char (((lit0L.getD ((p1 &&& (65535 : Int32)) % (22 : Int32)).toNatClampNeg 0) &&& (255 : Int32)).toUInt32.toUInt16.toUInt32.toInt32))))])) _
        exact Gk.rNH (s := s) X5 hx hret (by simp) hns (hb hby d1_39) e5 S3_ (Nat.le_trans q3_ (Nat.le_refl _)) Z3_ (own_EW hw) hh R3_ (nar .char (nar .char (nar .char (((lit0L.getD ((p1 &&& (65535 : Int32)) % (22 : Int32)).toNatClampNeg 0) &&& (255 : Int32)).toUInt32.toUInt16.toUInt32.toInt32)))) rfl ⟨⟨_, rfl, own_b16 _⟩, N5, ((Keep.refl h0 []).ext E3)⟩
      · refine Gk.icmpYes X0 hx (hb hby d1_24) (feq hc24).2 40 (by decide) (by decide) ?_
        refine Gk.iloadN X0 hx (hb hby d1_40) rfl ?_
        refine Gk.sipush X0 hx (hb hby d1_41) (255 : Int32) rfl ?_
        refine Gk.iand X0 hx (hb hby d1_44) _ rfl ?_
        refine Gk.i2c X0 hx (hb hby d1_45) _ rfl ?_
        have R9_ := CHr.refl hCH
        exact Gk.rNH (s := s) (show Stand p l e _ (s.setVm s.vm) m _ below meth c _ _ _ _ from X0) hx hret (by simp) hns (hb hby d1_46) e0 ((State.WarmedH.refl s).since 0) (Nat.zero_le _) hZ (own_EW hw) hh R9_ (nar .char ((p1 &&& (255 : Int32)).toUInt32.toUInt16.toUInt32.toInt32)) rfl ⟨⟨_, rfl, own_b16 _⟩, (Fr.nil n0), (Keep.refl h0 [])⟩
end Cts
theorem pd_21 : parseMethodDescriptor "(ICCCCC)Ljava/lang/String;" = some ⟨[.int, .char, .char, .char, .char, .char], some (.object "java/lang/String")⟩ := by decide +kernel
theorem pd_22 : parseMethodDescriptor "(Ljava/lang/String;I)Z" = some ⟨[(.object "java/lang/String"), .int], some .boolean⟩ := by decide +kernel
theorem pd_23 : parseMethodDescriptor "(C)Z" = some ⟨[.char], some .boolean⟩ := by decide +kernel
theorem ef_rm0 (m : MethodId) (p1 : Int32) (p2 : Int32) (p3 : Int32) (p4 : Int32) (p5 : Int32) (p6 : Int32) : entryFrame m #[(.int p1), (.int p2), (.int p3), (.int p4), (.int p5), (.int p6)] maxLocals = mkF m 0 #[.val (.int p1), .val (.int p2), .val (.int p3), .val (.int p4), .val (.int p5), .val (.int p6), .unset, .unset, .unset, .unset, .unset] [] := by first | (simp [entryFrame, mkF, argsToLocals, Value.category, maxLocals]; done) | rfl
def Q_rm0 (Z : State) (p1 : Int32) (p2 : Int32) (p3 : Int32) (p4 : Int32) (p5 : Int32) (p6 : Int32) (w_COMPACT_STRINGS : Int32) (w_SIOOBE_FORMATTER : Value) (h0 : Heap) (n0 : Nat) (v : Option Value) (h : Heap) (L : List Loc) : Prop := v = some (.int (1 : Int32)) ∧ Fr n0 L
set_option maxRecDepth 65536 in
set_option maxHeartbeats 40000000 in
theorem rm0 (l : Launch) (Z : State) (a0 : Array Value) (hw : ∀ d ∈ tables_1, d.before a0 Z = true) (ws : List Jvm.Cond) (p1 : Int32) (p2 : Int32) (p3 : Int32) (p4 : Int32) (p5 : Int32) (p6 : Int32) (w_COMPACT_STRINGS : Int32) (w_SIOOBE_FORMATTER : Value) (h0 : Heap) (n0 : Nat) (Z0 : n0 ≤ h0.size) (S_COMPACT_STRINGS : Stx Z n0 h0 "java/lang/String" "COMPACT_STRINGS" "Z" (.int w_COMPACT_STRINGS)) (S_SIOOBE_FORMATTER : Stx Z n0 h0 "jdk/internal/util/Preconditions" "SIOOBE_FORMATTER" "Ljava/util/function/BiFunction;" w_SIOOBE_FORMATTER) (S__assertionsDisabled : Stx Z n0 h0 "java/lang/StringUTF16" "$assertionsDisabled" "Z" (.int (1 : Int32))) (S_HI_BYTE_SHIFT : Stx Z n0 h0 "java/lang/StringUTF16" "HI_BYTE_SHIFT" "I" (.int (0 : Int32))) (S_LO_BYTE_SHIFT : Stx Z n0 h0 "java/lang/StringUTF16" "LO_BYTE_SHIFT" "I" (.int (8 : Int32))) (hcs : ¬ (w_COMPACT_STRINGS = (0 : Int32))) (hsf : w_SIOOBE_FORMATTER.isRef = true) (hn0 : n0 = h0.size) :
    MetFree l x (head1 (Jvm.Cond.code x code maxLocals ret :: ws) room_1) (fun a U => a = #[(.int p1), (.int p2), (.int p3), (.int p4), (.int p5), (.int p6)] ∧ Z.Warmed39 U.vm ∧ U.heap = h0 ∧ CHv Z consts_1 U.vm h0) (fun _ _ _ _ _ => True) (fun _ U o U' => ∃ v L, o = .returned v ∧ Q_rm0 Z p1 p2 p3 p4 p5 p6 w_COMPACT_STRINGS w_SIOOBE_FORMATTER h0 n0 v U'.heap L ∧ ReturnedEndW U o U' L room_1.cells room_1.slots) := by
  refine MetFree.of_bodySF (plainFor_of_name pn_191) hisR ?_
  intro p e s m args below meth c s₁ Bd hml0 hP hK
  obtain ⟨rfl, hZ, hh, hCH⟩ := hP
  have hx := Bd.exec
  have hby := Bd.bytes
  have hml : c.maxLocals = 11 := hml0
  have hown : s.vm.findClass "com/example/method_to_route/methodtoroute/PercentEncodingIsEscapePinLaw" = some m.cls := findClass_of_methodNamed Bd.named
  have hnm := (name_of_methodNamed Bd.named Bd.method).1
  have X0 : Stand p l e room_1 s m #[(.int p1), (.int p2), (.int p3), (.int p4), (.int p5), (.int p6)] below meth c s₁ [] 0 0 := Stand.of_body Bd
  have e0 : s₁.heap = h0 := by rw [← hh, Bd.state]; rfl
  have N0 := Fr.nil n0
  show Go p e below (s₁.setTop (entryFrame m #[(.int p1), (.int p2), (.int p3), (.int p4), (.int p5), (.int p6)] maxLocals)) (fun o U' => ∃ v L, o = .returned v ∧ Q_rm0 Z p1 p2 p3 p4 p5 p6 w_COMPACT_STRINGS w_SIOOBE_FORMATTER h0 n0 v U'.heap L ∧ ReturnedEndW s o U' L room_1.cells room_1.slots)
  rw [ef_rm0]
  refine Gk.iload X0 hx (hb hby at_0) rfl ?_
  refine Gk.bipush X0 hx (hb hby at_2) (7 : Int32) rfl ?_
  refine Gk.iand X0 hx (hb hby at_4) _ rfl ?_
  refine Gk.bipush X0 hx (hb hby at_5) (6 : Int32) rfl ?_
  refine Gk.irem X0 hx (hb hby at_7) (by decide) _ rfl ?_
  obtain ⟨nn, enn⟩ : ∃ z_ : Int32, z_ = ((p6 &&& (7 : Int32)) % (6 : Int32)) := ⟨_, rfl⟩
  show Go p e below (s₁.setTop (mkF m 8 #[.val (.int p1), .val (.int p2), .val (.int p3), .val (.int p4), .val (.int p5), .val (.int p6), .unset, .unset, .unset, .unset, .unset] [(.int ((p6 &&& (7 : Int32)) % (6 : Int32)))])) _
  rw [← enn]
  refine Gk.istore X0 hx (hb hby at_8) #[.val (.int p1), .val (.int p2), .val (.int p3), .val (.int p4), .val (.int p5), .val (.int p6), .val (.int nn), .unset, .unset, .unset, .unset] rfl ?_
  refine Gk.iload X0 hx (hb hby at_10) rfl ?_
  refine Gk.iconst X0 hx (hb hby at_12) (3 : Int32) rfl ?_
  refine Gk.iushr X0 hx (hb hby at_13) _ rfl ?_
  refine Gk.bipush X0 hx (hb hby at_14) (7 : Int32) rfl ?_
  refine Gk.iand X0 hx (hb hby at_16) _ rfl ?_
  obtain ⟨atv, eatv⟩ : ∃ z_ : Int32, z_ = (((p6.toUInt32 >>> ((3 : Int32) &&& 31).toUInt32).toInt32) &&& (7 : Int32)) := ⟨_, rfl⟩
  show Go p e below (s₁.setTop (mkF m 17 #[.val (.int p1), .val (.int p2), .val (.int p3), .val (.int p4), .val (.int p5), .val (.int p6), .val (.int nn), .unset, .unset, .unset, .unset] [(.int (((p6.toUInt32 >>> ((3 : Int32) &&& 31).toUInt32).toInt32) &&& (7 : Int32)))])) _
  rw [← eatv]
  refine Gk.istore X0 hx (hb hby at_17) #[.val (.int p1), .val (.int p2), .val (.int p3), .val (.int p4), .val (.int p5), .val (.int p6), .val (.int nn), .val (.int atv), .unset, .unset, .unset] rfl ?_
  refine Gk.iconst X0 hx (hb hby at_19) (5 : Int32) rfl ?_
  refine Gk.newP X0 hx hZ (W hw 0 rfl) e0 (hb hby at_20) (by decide) (cap := 5) (by decide) (by decide) (by decide) (by decide) rfl ?_
  intro T1 h1 b1 k1 X1 e1 E1 g1 A1 B1
  have g_b1 : n0 ≤ b1 := Nat.le_trans Z0 (Nat.le_of_eq g1.symm)
  have V_b1 : Arf Z h1 b1 k1 .char (5 : Int32) (fun _ => (.int (0 : Int32))) := A1
  have lt_b1 := V_b1.lt
  refine Gk.dup X1 hx (hb hby at_22) rfl ?_
  refine Gk.iconst X1 hx (hb hby at_23) (0 : Int32) rfl ?_
  refine Gk.iloadN X1 hx (hb hby at_24) rfl ?_
  have H3 := (S_COMPACT_STRINGS.ext E1)
  have H4 := (S_SIOOBE_FORMATTER.ext E1)
  have R5_ := own_chrOld (h' := h1) hCH (by rw [← hh]; exact fun b_ cl_ q_ => e1 ▸ oldF X1 (by rw [hh, ← hn0]; exact N0) b_ cl_ q_)
  refine Gk.callSH (s := s) (argsL := [(.int p1)]) (show Stand p l e room_1 (s.setVm s.vm) m _ below meth c _ _ _ _ from X1) hx hZ hown (draw l Z a0 h1 n0 hw p1 w_COMPACT_STRINGS w_SIOOBE_FORMATTER (Nat.le_trans Z0 E1.1) H3 H4 hcs hsf) (W hw 1 rfl) (W hw 2 rfl) (W hw 3 rfl) (W hw 4 rfl) (by decide) e1 ((State.WarmedH.refl s).since 0) (Nat.zero_le _) (own_EW hw) R5_.1 pd_19 rfl rfl rfl (by rw [hml]; rfl) rfl (hb hby at_25) ?_
  intro T2 L2 v2 kS2 X2 S2_ q2_ Z2_ o2_ C2_ hQ2
  have R2_ := R5_.trans C2_
  obtain ⟨⟨d0, rfl, hd0⟩, N2q, K2⟩ := hQ2
  have N2 := Fr.app N0 N2q
  show Go p e below (T2.setTop (mkF m 28 _ [(.int d0), (.int (0 : Int32)), (.ref b1), (.ref b1)])) _
  have H7 := (V_b1.keep K2 nin0)
  have sf6 := own_safeArf Z2_.alike H7 (by decide) (EL := consts_1)
  refine Gk.castore X2 hx Z2_ rfl H7 0 rfl ⟨by decide, by decide⟩ (.int d0) (congrArg Value.int (own_narc hd0)) (hb hby at_28) ?_
  intro T6 h6 X6 e6 W6 V6
  have N6 := Fr.snoc X6 N2 g_b1
  refine Gk.dup X6 hx (hb hby at_29) rfl ?_
  refine Gk.iconst X6 hx (hb hby at_30) (1 : Int32) rfl ?_
  refine Gk.iloadN X6 hx (hb hby at_31) rfl ?_
  have H9 := ((H3.keep K2 all0).wr W6)
  have H10 := ((H4.keep K2 all0).wr W6)
  have gr11 := (Nat.le_trans (Nat.le_trans E1.1 K2.1) (Keep.of_wr W6).1)
  have R13_ := R2_.trans (CHr.wr W6 sf6 R2_.1)
  refine Gk.callSH (s := s) (argsL := [(.int p2)]) X6 hx Z2_ o2_ (draw l Z a0 h6 n0 hw p2 w_COMPACT_STRINGS w_SIOOBE_FORMATTER (Nat.le_trans Z0 gr11) H9 H10 hcs hsf) (W hw 1 rfl) (W hw 2 rfl) (W hw 3 rfl) (W hw 4 rfl) (by decide) e6 S2_ (Nat.le_trans q2_ (Keep.of_wr W6).1) (own_EW hw) R13_.1 pd_19 rfl rfl rfl (by rw [hml]; rfl) rfl (hb hby at_32) ?_
  intro T8 L8 v8 kS8 X8 S8_ q8_ Z8_ o8_ C8_ hQ8
  have R8_ := R13_.trans C8_
  obtain ⟨⟨d1, rfl, hd1⟩, N8q, K8⟩ := hQ8
  have N8 := Fr.app N6 N8q
  show Go p e below (T8.setTop (mkF m 35 _ [(.int d1), (.int (1 : Int32)), (.ref b1), (.ref b1)])) _
  have H15 := (V6.keep K8 nin0)
  have sf14 := own_safeArf Z8_.alike H15 (by decide) (EL := consts_1)
  refine Gk.castore X8 hx Z8_ rfl H15 1 rfl ⟨by decide, by decide⟩ (.int d1) (congrArg Value.int (own_narc hd1)) (hb hby at_35) ?_
  intro T14 h14 X14 e14 W14 V14
  have N14 := Fr.snoc X14 N8 g_b1
  refine Gk.dup X14 hx (hb hby at_36) rfl ?_
  refine Gk.iconst X14 hx (hb hby at_37) (2 : Int32) rfl ?_
  refine Gk.iloadN X14 hx (hb hby at_38) rfl ?_
  have H17 := ((H9.keep K8 all0).wr W14)
  have H18 := ((H10.keep K8 all0).wr W14)
  have gr19 := (Nat.le_trans (Nat.le_trans gr11 K8.1) (Keep.of_wr W14).1)
  have R21_ := R8_.trans (CHr.wr W14 sf14 R8_.1)
  refine Gk.callSH (s := s) (argsL := [(.int p3)]) X14 hx Z8_ o8_ (draw l Z a0 h14 n0 hw p3 w_COMPACT_STRINGS w_SIOOBE_FORMATTER (Nat.le_trans Z0 gr19) H17 H18 hcs hsf) (W hw 1 rfl) (W hw 2 rfl) (W hw 3 rfl) (W hw 4 rfl) (by decide) e14 S8_ (Nat.le_trans q8_ (Keep.of_wr W14).1) (own_EW hw) R21_.1 pd_19 rfl rfl rfl (by rw [hml]; rfl) rfl (hb hby at_39) ?_
  intro T16 L16 v16 kS16 X16 S16_ q16_ Z16_ o16_ C16_ hQ16
  have R16_ := R21_.trans C16_
  obtain ⟨⟨d2, rfl, hd2⟩, N16q, K16⟩ := hQ16
  have N16 := Fr.app N14 N16q
  show Go p e below (T16.setTop (mkF m 42 _ [(.int d2), (.int (2 : Int32)), (.ref b1), (.ref b1)])) _
  have H23 := (V14.keep K16 nin0)
  have sf22 := own_safeArf Z16_.alike H23 (by decide) (EL := consts_1)
  refine Gk.castore X16 hx Z16_ rfl H23 2 rfl ⟨by decide, by decide⟩ (.int d2) (congrArg Value.int (own_narc hd2)) (hb hby at_42) ?_
  intro T22 h22 X22 e22 W22 V22
  have N22 := Fr.snoc X22 N16 g_b1
  refine Gk.dup X22 hx (hb hby at_43) rfl ?_
  refine Gk.iconst X22 hx (hb hby at_44) (3 : Int32) rfl ?_
  refine Gk.iloadN X22 hx (hb hby at_45) rfl ?_
  have H25 := ((H17.keep K16 all0).wr W22)
  have H26 := ((H18.keep K16 all0).wr W22)
  have gr27 := (Nat.le_trans (Nat.le_trans gr19 K16.1) (Keep.of_wr W22).1)
  have R29_ := R16_.trans (CHr.wr W22 sf22 R16_.1)
  refine Gk.callSH (s := s) (argsL := [(.int p4)]) X22 hx Z16_ o16_ (draw l Z a0 h22 n0 hw p4 w_COMPACT_STRINGS w_SIOOBE_FORMATTER (Nat.le_trans Z0 gr27) H25 H26 hcs hsf) (W hw 1 rfl) (W hw 2 rfl) (W hw 3 rfl) (W hw 4 rfl) (by decide) e22 S16_ (Nat.le_trans q16_ (Keep.of_wr W22).1) (own_EW hw) R29_.1 pd_19 rfl rfl rfl (by rw [hml]; rfl) rfl (hb hby at_46) ?_
  intro T24 L24 v24 kS24 X24 S24_ q24_ Z24_ o24_ C24_ hQ24
  have R24_ := R29_.trans C24_
  obtain ⟨⟨d3, rfl, hd3⟩, N24q, K24⟩ := hQ24
  have N24 := Fr.app N22 N24q
  show Go p e below (T24.setTop (mkF m 49 _ [(.int d3), (.int (3 : Int32)), (.ref b1), (.ref b1)])) _
  have H31 := (V22.keep K24 nin0)
  have sf30 := own_safeArf Z24_.alike H31 (by decide) (EL := consts_1)
  refine Gk.castore X24 hx Z24_ rfl H31 3 rfl ⟨by decide, by decide⟩ (.int d3) (congrArg Value.int (own_narc hd3)) (hb hby at_49) ?_
  intro T30 h30 X30 e30 W30 V30
  have N30 := Fr.snoc X30 N24 g_b1
  refine Gk.dup X30 hx (hb hby at_50) rfl ?_
  refine Gk.iconst X30 hx (hb hby at_51) (4 : Int32) rfl ?_
  refine Gk.iload X30 hx (hb hby at_52) rfl ?_
  have H33 := ((H25.keep K24 all0).wr W30)
  have H34 := ((H26.keep K24 all0).wr W30)
  have gr35 := (Nat.le_trans (Nat.le_trans gr27 K24.1) (Keep.of_wr W30).1)
  have R37_ := R24_.trans (CHr.wr W30 sf30 R24_.1)
  refine Gk.callSH (s := s) (argsL := [(.int p5)]) X30 hx Z24_ o24_ (draw l Z a0 h30 n0 hw p5 w_COMPACT_STRINGS w_SIOOBE_FORMATTER (Nat.le_trans Z0 gr35) H33 H34 hcs hsf) (W hw 1 rfl) (W hw 2 rfl) (W hw 3 rfl) (W hw 4 rfl) (by decide) e30 S24_ (Nat.le_trans q24_ (Keep.of_wr W30).1) (own_EW hw) R37_.1 pd_19 rfl rfl rfl (by rw [hml]; rfl) rfl (hb hby at_54) ?_
  intro T32 L32 v32 kS32 X32 S32_ q32_ Z32_ o32_ C32_ hQ32
  have R32_ := R37_.trans C32_
  obtain ⟨⟨d4, rfl, hd4⟩, N32q, K32⟩ := hQ32
  have N32 := Fr.app N30 N32q
  show Go p e below (T32.setTop (mkF m 57 _ [(.int d4), (.int (4 : Int32)), (.ref b1), (.ref b1)])) _
  have H39 := (V30.keep K32 nin0)
  have sf38 := own_safeArf Z32_.alike H39 (by decide) (EL := consts_1)
  refine Gk.castore X32 hx Z32_ rfl H39 4 rfl ⟨by decide, by decide⟩ (.int d4) (congrArg Value.int (own_narc hd4)) (hb hby at_57) ?_
  intro T38 h38 X38 e38 W38 V38
  have N38 := Fr.snoc X38 N32 g_b1
  refine Gk.astore X38 hx (hb hby at_58) rfl #[.val (.int p1), .val (.int p2), .val (.int p3), .val (.int p4), .val (.int p5), .val (.int p6), .val (.int nn), .val (.int atv), .val (.ref b1), .unset, .unset] rfl ?_
  refine Gk.iload X38 hx (hb hby at_60) rfl ?_
  refine Gk.aload X38 hx (hb hby at_62) rfl rfl ?_
  refine Gk.iconst X38 hx (hb hby at_64) (0 : Int32) rfl ?_
  refine Gk.caload X38 hx Z32_ e38 V38 ⟨by decide, by decide⟩ (.int d0) rfl (hb hby at_65) ?_
  refine Gk.aload X38 hx (hb hby at_66) rfl rfl ?_
  refine Gk.iconst X38 hx (hb hby at_68) (1 : Int32) rfl ?_
  refine Gk.caload X38 hx Z32_ e38 V38 ⟨by decide, by decide⟩ (.int d1) rfl (hb hby at_69) ?_
  refine Gk.aload X38 hx (hb hby at_70) rfl rfl ?_
  refine Gk.iconst X38 hx (hb hby at_72) (2 : Int32) rfl ?_
  refine Gk.caload X38 hx Z32_ e38 V38 ⟨by decide, by decide⟩ (.int d2) rfl (hb hby at_73) ?_
  refine Gk.aload X38 hx (hb hby at_74) rfl rfl ?_
  refine Gk.iconst X38 hx (hb hby at_76) (3 : Int32) rfl ?_
  refine Gk.caload X38 hx Z32_ e38 V38 ⟨by decide, by decide⟩ (.int d3) rfl (hb hby at_77) ?_
  refine Gk.aload X38 hx (hb hby at_78) rfl rfl ?_
  refine Gk.iconst X38 hx (hb hby at_80) (4 : Int32) rfl ?_
  refine Gk.caload X38 hx Z32_ e38 V38 ⟨by decide, by decide⟩ (.int d4) rfl (hb hby at_81) ?_
  rcases own_n6 enn with hkn | hkn | hkn | hkn | hkn | hkn
  · show Go p e below (T38.setTop (mkF m 82 #[.val (.int p1), .val (.int p2), .val (.int p3), .val (.int p4), .val (.int p5), .val (.int p6), .val (.int nn), .val (.int atv), .val (.ref b1), .unset, .unset] [(.int d4), (.int d3), (.int d2), (.int d1), (.int d0), (.int nn)])) _
    rw [hkn]
    have gr46 := (Nat.le_trans (Nat.le_trans gr35 K32.1) (Keep.of_wr W38).1)
    have R48_ := R32_.trans (CHr.wr W38 sf38 R32_.1)
    refine Gk.callSH (s := s) (argsL := [(.int (0 : Int32)), (.int d0), (.int d1), (.int d2), (.int d3), (.int d4)]) X38 hx Z32_ o32_ (make_0 l Z a0 h38 n0 hw d0 d1 d2 d3 d4 (Nat.le_trans Z0 gr46)) (W hw 5 rfl) (W hw 6 rfl) (W hw 3 rfl) (W hw 7 rfl) (by decide) e38 S32_ (Nat.le_trans q32_ (Keep.of_wr W38).1) (own_EW hw) R48_.1 pd_21 rfl rfl rfl (by rw [hml]; rfl) rfl (hb hby at_82) ?_
    intro T45 L45 v45 kS45 X45 S45_ q45_ Z45_ o45_ C45_ hQ45
    have R45_ := R48_.trans C45_
    obtain ⟨rfl, N45q, K45, Es, sq_⟩ := hQ45
    have N45 := Fr.app N38 N45q
    obtain ⟨sa, esa⟩ : ∃ z_ : Addr, z_ = h38.size := ⟨_, rfl⟩
    rw [← esa] at Es sq_ ⊢
    show Go p e below (T45.setTop (mkF m 85 _ [(.ref sa)])) _
    obtain ⟨Fcs, sb, ks, fs, Fvs, Vs⟩ := sq_
    refine Gk.astore X45 hx (hb hby at_85) rfl #[.val (.int p1), .val (.int p2), .val (.int p3), .val (.int p4), .val (.int p5), .val (.int p6), .val (.int (0 : Int32)), .val (.int atv), .val (.ref b1), .val (.ref sa), .unset] rfl ?_
    refine Gk.iload X45 hx (hb hby at_87) rfl ?_
    refine Gk.iconst X45 hx (hb hby at_89) (2 : Int32) rfl ?_
    refine Gk.iadd X45 hx (hb hby at_90) _ rfl ?_
    refine Gk.iload X45 hx (hb hby at_91) rfl ?_
    have hc93 : ¬ ((atv + (2 : Int32)) < (0 : Int32)) := own_atN (own_at7 eatv) (by decide)
    refine Gk.icmpYes X45 hx (hb hby at_93) (flt hc93).2.1 136 (by decide) (by decide) ?_
    refine Gk.iconst X45 hx (hb hby at_136) (0 : Int32) rfl ?_
    refine Gk.istore X45 hx (hb hby at_137) #[.val (.int p1), .val (.int p2), .val (.int p3), .val (.int p4), .val (.int p5), .val (.int p6), .val (.int (0 : Int32)), .val (.int atv), .val (.ref b1), .val (.ref sa), .val (.int (0 : Int32))] rfl ?_
    refine Gk.aload X45 hx (hb hby at_139) rfl rfl ?_
    refine Gk.iload X45 hx (hb hby at_141) rfl ?_
    have H50 := (((H33.keep K32 all0).wr W38).keep K45 all0)
    refine Gk.callS (argsL := [(.ref sa), (.int atv)]) X45 hx Z45_ o45_ (ie0_0 l Z a0 T45.heap n0 hw sa atv sb ks fs (0 : Int32) w_COMPACT_STRINGS (Nat.le_trans Z0 (Nat.le_trans gr46 K45.1)) H50 Es Fcs Fvs Vs (by rw [show ((0 : Int32) >>> ((0 : Int32) &&& 31)) = (0 : Int32) from by decide]; exact hc93) hcs) (W hw 37 rfl) (W hw 38 rfl) (W hw 39 rfl) (W hw 40 rfl) (by decide) rfl pd_22 rfl rfl rfl (by rw [hml]; rfl) rfl (hb hby at_143) ?_
    intro T49 L49 v49 X49 hQ49
    obtain ⟨rfl, N49q, e49⟩ := hQ49
    have N49 := Fr.app N45 N49q
    show Go p e below (T49.setTop (mkF m 146 _ [(.int (0 : Int32))])) _
    refine Gk.iload X49 hx (hb hby at_146) rfl ?_
    refine Gk.icmpNo X49 hx (hb hby at_148) (teq (by decide : (0 : Int32) = (0 : Int32))).2 ?_
    refine Gk.iconst X49 hx (hb hby at_151) (1 : Int32) rfl ?_
    refine Gk.goto X49 hx (hb hby at_152) 156 (by decide) (by decide) ?_
    exact Gk.rNL (s := s) X49 hx Bd.returns (by simp) Bd.notSynchronized (hb hby at_156) e49 S45_ (Nat.le_trans q45_ (Nat.le_refl _)) (1 : Int32) rfl ⟨rfl, N49⟩
  · show Go p e below (T38.setTop (mkF m 82 #[.val (.int p1), .val (.int p2), .val (.int p3), .val (.int p4), .val (.int p5), .val (.int p6), .val (.int nn), .val (.int atv), .val (.ref b1), .unset, .unset] [(.int d4), (.int d3), (.int d2), (.int d1), (.int d0), (.int nn)])) _
    rw [hkn]
    have H52 := ((H33.keep K32 all0).wr W38)
    have H53 := (((((((((((S__assertionsDisabled.ext E1).keep K2 all0).wr W6).keep K8 all0).wr W14).keep K16 all0).wr W22).keep K24 all0).wr W30).keep K32 all0).wr W38)
    have H54 := (((((((((((S_HI_BYTE_SHIFT.ext E1).keep K2 all0).wr W6).keep K8 all0).wr W14).keep K16 all0).wr W22).keep K24 all0).wr W30).keep K32 all0).wr W38)
    have H55 := (((((((((((S_LO_BYTE_SHIFT.ext E1).keep K2 all0).wr W6).keep K8 all0).wr W14).keep K16 all0).wr W22).keep K24 all0).wr W30).keep K32 all0).wr W38)
    have gr56 := (Nat.le_trans (Nat.le_trans gr35 K32.1) (Keep.of_wr W38).1)
    refine Gk.callS (argsL := [(.int (1 : Int32)), (.int d0), (.int d1), (.int d2), (.int d3), (.int d4)]) X38 hx Z32_ o32_ (make_1 l Z a0 h38 n0 hw d0 d1 d2 d3 d4 w_COMPACT_STRINGS (Nat.le_trans Z0 gr56) H52 H53 H54 H55 hd0 hcs) (W hw 5 rfl) (W hw 6 rfl) (W hw 3 rfl) (W hw 7 rfl) (by decide) e38 pd_21 rfl rfl rfl (by rw [hml]; rfl) rfl (hb hby at_82) ?_
    intro T51 L51 v51 X51 hQ51
    obtain ⟨rfl, N51q, K51, Es, sq_⟩ := hQ51
    have N51 := Fr.app N38 N51q
    obtain ⟨sa, esa⟩ : ∃ z_ : Addr, z_ = h38.size := ⟨_, rfl⟩
    rw [← esa] at Es sq_ ⊢
    show Go p e below (T51.setTop (mkF m 85 _ [(.ref sa)])) _
    rcases sq_ with ⟨Fcs, sb, ks, Fvs, Vs, hle0⟩ | ⟨Fcs, sb, ks, Fvs, Vs⟩
    · show Go p e below (T51.setTop (mkF m 85 #[.val (.int p1), .val (.int p2), .val (.int p3), .val (.int p4), .val (.int p5), .val (.int p6), .val (.int (1 : Int32)), .val (.int atv), .val (.ref b1), .unset, .unset] [(.ref sa)])) _
      obtain ⟨fs, efs⟩ : ∃ z_ : Nat → Value, z_ = (upd (fun _ => (.int (0 : Int32))) 0 (.int (d0.toInt8.toInt32))) := ⟨_, rfl⟩
      rw [← efs] at Vs
      refine Gk.astore X51 hx (hb hby at_85) rfl #[.val (.int p1), .val (.int p2), .val (.int p3), .val (.int p4), .val (.int p5), .val (.int p6), .val (.int (1 : Int32)), .val (.int atv), .val (.ref b1), .val (.ref sa), .unset] rfl ?_
      refine Gk.iload X51 hx (hb hby at_87) rfl ?_
      refine Gk.iconst X51 hx (hb hby at_89) (2 : Int32) rfl ?_
      refine Gk.iadd X51 hx (hb hby at_90) _ rfl ?_
      refine Gk.iload X51 hx (hb hby at_91) rfl ?_
      have hc93 : ¬ ((atv + (2 : Int32)) < (1 : Int32)) := own_atN (own_at7 eatv) (by decide)
      refine Gk.icmpYes X51 hx (hb hby at_93) (flt hc93).2.1 136 (by decide) (by decide) ?_
      refine Gk.iconst X51 hx (hb hby at_136) (0 : Int32) rfl ?_
      refine Gk.istore X51 hx (hb hby at_137) #[.val (.int p1), .val (.int p2), .val (.int p3), .val (.int p4), .val (.int p5), .val (.int p6), .val (.int (1 : Int32)), .val (.int atv), .val (.ref b1), .val (.ref sa), .val (.int (0 : Int32))] rfl ?_
      refine Gk.aload X51 hx (hb hby at_139) rfl rfl ?_
      refine Gk.iload X51 hx (hb hby at_141) rfl ?_
      have H58 := (H52.keep K51 all0)
      refine Gk.callS (argsL := [(.ref sa), (.int atv)]) X51 hx Z32_ o32_ (ie0_0 l Z a0 T51.heap n0 hw sa atv sb ks fs (1 : Int32) w_COMPACT_STRINGS (Nat.le_trans Z0 (Nat.le_trans gr56 K51.1)) H58 Es Fcs Fvs Vs (by rw [show ((1 : Int32) >>> ((0 : Int32) &&& 31)) = (1 : Int32) from by decide]; exact hc93) hcs) (W hw 37 rfl) (W hw 38 rfl) (W hw 39 rfl) (W hw 40 rfl) (by decide) rfl pd_22 rfl rfl rfl (by rw [hml]; rfl) rfl (hb hby at_143) ?_
      intro T57 L57 v57 X57 hQ57
      obtain ⟨rfl, N57q, e57⟩ := hQ57
      have N57 := Fr.app N51 N57q
      show Go p e below (T57.setTop (mkF m 146 _ [(.int (0 : Int32))])) _
      refine Gk.iload X57 hx (hb hby at_146) rfl ?_
      refine Gk.icmpNo X57 hx (hb hby at_148) (teq (by decide : (0 : Int32) = (0 : Int32))).2 ?_
      refine Gk.iconst X57 hx (hb hby at_151) (1 : Int32) rfl ?_
      refine Gk.goto X57 hx (hb hby at_152) 156 (by decide) (by decide) ?_
      exact Gk.rNL (s := s) X57 hx Bd.returns (by simp) Bd.notSynchronized (hb hby at_156) e57 S32_ (Nat.le_trans q32_ (Nat.le_trans (Keep.of_wr W38).1 K51.1)) (1 : Int32) rfl ⟨rfl, N57⟩
    · show Go p e below (T51.setTop (mkF m 85 #[.val (.int p1), .val (.int p2), .val (.int p3), .val (.int p4), .val (.int p5), .val (.int p6), .val (.int (1 : Int32)), .val (.int atv), .val (.ref b1), .unset, .unset] [(.ref sa)])) _
      obtain ⟨fs, efs⟩ : ∃ z_ : Nat → Value, z_ = (upd (upd (fun _ => (.int (0 : Int32))) 0 (.int ((d0 >>> ((0 : Int32) &&& 31)).toInt8.toInt32))) 1 (.int ((d0 >>> ((8 : Int32) &&& 31)).toInt8.toInt32))) := ⟨_, rfl⟩
      rw [← efs] at Vs
      refine Gk.astore X51 hx (hb hby at_85) rfl #[.val (.int p1), .val (.int p2), .val (.int p3), .val (.int p4), .val (.int p5), .val (.int p6), .val (.int (1 : Int32)), .val (.int atv), .val (.ref b1), .val (.ref sa), .unset] rfl ?_
      refine Gk.iload X51 hx (hb hby at_87) rfl ?_
      refine Gk.iconst X51 hx (hb hby at_89) (2 : Int32) rfl ?_
      refine Gk.iadd X51 hx (hb hby at_90) _ rfl ?_
      refine Gk.iload X51 hx (hb hby at_91) rfl ?_
      have hc93 : ¬ ((atv + (2 : Int32)) < (1 : Int32)) := own_atN (own_at7 eatv) (by decide)
      refine Gk.icmpYes X51 hx (hb hby at_93) (flt hc93).2.1 136 (by decide) (by decide) ?_
      refine Gk.iconst X51 hx (hb hby at_136) (0 : Int32) rfl ?_
      refine Gk.istore X51 hx (hb hby at_137) #[.val (.int p1), .val (.int p2), .val (.int p3), .val (.int p4), .val (.int p5), .val (.int p6), .val (.int (1 : Int32)), .val (.int atv), .val (.ref b1), .val (.ref sa), .val (.int (0 : Int32))] rfl ?_
      refine Gk.aload X51 hx (hb hby at_139) rfl rfl ?_
      refine Gk.iload X51 hx (hb hby at_141) rfl ?_
      have H60 := (H52.keep K51 all0)
      refine Gk.callS (argsL := [(.ref sa), (.int atv)]) X51 hx Z32_ o32_ (ie0_1 l Z a0 T51.heap n0 hw sa atv sb ks fs (2 : Int32) w_COMPACT_STRINGS (Nat.le_trans Z0 (Nat.le_trans gr56 K51.1)) H60 Es Fcs Fvs Vs (by rw [show ((2 : Int32) >>> ((1 : Int32) &&& 31)) = (1 : Int32) from by decide]; exact hc93) hcs) (W hw 37 rfl) (W hw 38 rfl) (W hw 39 rfl) (W hw 40 rfl) (by decide) rfl pd_22 rfl rfl rfl (by rw [hml]; rfl) rfl (hb hby at_143) ?_
      intro T59 L59 v59 X59 hQ59
      obtain ⟨rfl, N59q, e59⟩ := hQ59
      have N59 := Fr.app N51 N59q
      show Go p e below (T59.setTop (mkF m 146 _ [(.int (0 : Int32))])) _
      refine Gk.iload X59 hx (hb hby at_146) rfl ?_
      refine Gk.icmpNo X59 hx (hb hby at_148) (teq (by decide : (0 : Int32) = (0 : Int32))).2 ?_
      refine Gk.iconst X59 hx (hb hby at_151) (1 : Int32) rfl ?_
      refine Gk.goto X59 hx (hb hby at_152) 156 (by decide) (by decide) ?_
      exact Gk.rNL (s := s) X59 hx Bd.returns (by simp) Bd.notSynchronized (hb hby at_156) e59 S32_ (Nat.le_trans q32_ (Nat.le_trans (Keep.of_wr W38).1 K51.1)) (1 : Int32) rfl ⟨rfl, N59⟩
  · show Go p e below (T38.setTop (mkF m 82 #[.val (.int p1), .val (.int p2), .val (.int p3), .val (.int p4), .val (.int p5), .val (.int p6), .val (.int nn), .val (.int atv), .val (.ref b1), .unset, .unset] [(.int d4), (.int d3), (.int d2), (.int d1), (.int d0), (.int nn)])) _
    rw [hkn]
    have H62 := ((H33.keep K32 all0).wr W38)
    have H63 := (((((((((((S__assertionsDisabled.ext E1).keep K2 all0).wr W6).keep K8 all0).wr W14).keep K16 all0).wr W22).keep K24 all0).wr W30).keep K32 all0).wr W38)
    have H64 := (((((((((((S_HI_BYTE_SHIFT.ext E1).keep K2 all0).wr W6).keep K8 all0).wr W14).keep K16 all0).wr W22).keep K24 all0).wr W30).keep K32 all0).wr W38)
    have H65 := (((((((((((S_LO_BYTE_SHIFT.ext E1).keep K2 all0).wr W6).keep K8 all0).wr W14).keep K16 all0).wr W22).keep K24 all0).wr W30).keep K32 all0).wr W38)
    have gr66 := (Nat.le_trans (Nat.le_trans gr35 K32.1) (Keep.of_wr W38).1)
    refine Gk.callS (argsL := [(.int (2 : Int32)), (.int d0), (.int d1), (.int d2), (.int d3), (.int d4)]) X38 hx Z32_ o32_ (make_2 l Z a0 h38 n0 hw d0 d1 d2 d3 d4 w_COMPACT_STRINGS (Nat.le_trans Z0 gr66) H62 H63 H64 H65 hd0 hd1 hcs) (W hw 5 rfl) (W hw 6 rfl) (W hw 3 rfl) (W hw 7 rfl) (by decide) e38 pd_21 rfl rfl rfl (by rw [hml]; rfl) rfl (hb hby at_82) ?_
    intro T61 L61 v61 X61 hQ61
    obtain ⟨rfl, N61q, K61, Es, sq_⟩ := hQ61
    have N61 := Fr.app N38 N61q
    obtain ⟨sa, esa⟩ : ∃ z_ : Addr, z_ = h38.size := ⟨_, rfl⟩
    rw [← esa] at Es sq_ ⊢
    show Go p e below (T61.setTop (mkF m 85 _ [(.ref sa)])) _
    rcases sq_ with ⟨Fcs, sb, ks, Fvs, Vs, hle0, hle1⟩ | ⟨Fcs, sb, ks, Fvs, Vs⟩
    · show Go p e below (T61.setTop (mkF m 85 #[.val (.int p1), .val (.int p2), .val (.int p3), .val (.int p4), .val (.int p5), .val (.int p6), .val (.int (2 : Int32)), .val (.int atv), .val (.ref b1), .unset, .unset] [(.ref sa)])) _
      obtain ⟨fs, efs⟩ : ∃ z_ : Nat → Value, z_ = (upd (upd (fun _ => (.int (0 : Int32))) 0 (.int (d0.toInt8.toInt32))) 1 (.int (d1.toInt8.toInt32))) := ⟨_, rfl⟩
      rw [← efs] at Vs
      refine Gk.astore X61 hx (hb hby at_85) rfl #[.val (.int p1), .val (.int p2), .val (.int p3), .val (.int p4), .val (.int p5), .val (.int p6), .val (.int (2 : Int32)), .val (.int atv), .val (.ref b1), .val (.ref sa), .unset] rfl ?_
      refine Gk.iload X61 hx (hb hby at_87) rfl ?_
      refine Gk.iconst X61 hx (hb hby at_89) (2 : Int32) rfl ?_
      refine Gk.iadd X61 hx (hb hby at_90) _ rfl ?_
      refine Gk.iload X61 hx (hb hby at_91) rfl ?_
      have hc93 : ¬ ((atv + (2 : Int32)) < (2 : Int32)) := own_atN (own_at7 eatv) (by decide)
      refine Gk.icmpYes X61 hx (hb hby at_93) (flt hc93).2.1 136 (by decide) (by decide) ?_
      refine Gk.iconst X61 hx (hb hby at_136) (0 : Int32) rfl ?_
      refine Gk.istore X61 hx (hb hby at_137) #[.val (.int p1), .val (.int p2), .val (.int p3), .val (.int p4), .val (.int p5), .val (.int p6), .val (.int (2 : Int32)), .val (.int atv), .val (.ref b1), .val (.ref sa), .val (.int (0 : Int32))] rfl ?_
      refine Gk.aload X61 hx (hb hby at_139) rfl rfl ?_
      refine Gk.iload X61 hx (hb hby at_141) rfl ?_
      have H68 := (H62.keep K61 all0)
      refine Gk.callS (argsL := [(.ref sa), (.int atv)]) X61 hx Z32_ o32_ (ie0_0 l Z a0 T61.heap n0 hw sa atv sb ks fs (2 : Int32) w_COMPACT_STRINGS (Nat.le_trans Z0 (Nat.le_trans gr66 K61.1)) H68 Es Fcs Fvs Vs (by rw [show ((2 : Int32) >>> ((0 : Int32) &&& 31)) = (2 : Int32) from by decide]; exact hc93) hcs) (W hw 37 rfl) (W hw 38 rfl) (W hw 39 rfl) (W hw 40 rfl) (by decide) rfl pd_22 rfl rfl rfl (by rw [hml]; rfl) rfl (hb hby at_143) ?_
      intro T67 L67 v67 X67 hQ67
      obtain ⟨rfl, N67q, e67⟩ := hQ67
      have N67 := Fr.app N61 N67q
      show Go p e below (T67.setTop (mkF m 146 _ [(.int (0 : Int32))])) _
      refine Gk.iload X67 hx (hb hby at_146) rfl ?_
      refine Gk.icmpNo X67 hx (hb hby at_148) (teq (by decide : (0 : Int32) = (0 : Int32))).2 ?_
      refine Gk.iconst X67 hx (hb hby at_151) (1 : Int32) rfl ?_
      refine Gk.goto X67 hx (hb hby at_152) 156 (by decide) (by decide) ?_
      exact Gk.rNL (s := s) X67 hx Bd.returns (by simp) Bd.notSynchronized (hb hby at_156) e67 S32_ (Nat.le_trans q32_ (Nat.le_trans (Keep.of_wr W38).1 K61.1)) (1 : Int32) rfl ⟨rfl, N67⟩
    · show Go p e below (T61.setTop (mkF m 85 #[.val (.int p1), .val (.int p2), .val (.int p3), .val (.int p4), .val (.int p5), .val (.int p6), .val (.int (2 : Int32)), .val (.int atv), .val (.ref b1), .unset, .unset] [(.ref sa)])) _
      obtain ⟨fs, efs⟩ : ∃ z_ : Nat → Value, z_ = (upd (upd (upd (upd (fun _ => (.int (0 : Int32))) 0 (.int ((d0 >>> ((0 : Int32) &&& 31)).toInt8.toInt32))) 1 (.int ((d0 >>> ((8 : Int32) &&& 31)).toInt8.toInt32))) 2 (.int ((d1 >>> ((0 : Int32) &&& 31)).toInt8.toInt32))) 3 (.int ((d1 >>> ((8 : Int32) &&& 31)).toInt8.toInt32))) := ⟨_, rfl⟩
      rw [← efs] at Vs
      refine Gk.astore X61 hx (hb hby at_85) rfl #[.val (.int p1), .val (.int p2), .val (.int p3), .val (.int p4), .val (.int p5), .val (.int p6), .val (.int (2 : Int32)), .val (.int atv), .val (.ref b1), .val (.ref sa), .unset] rfl ?_
      refine Gk.iload X61 hx (hb hby at_87) rfl ?_
      refine Gk.iconst X61 hx (hb hby at_89) (2 : Int32) rfl ?_
      refine Gk.iadd X61 hx (hb hby at_90) _ rfl ?_
      refine Gk.iload X61 hx (hb hby at_91) rfl ?_
      have hc93 : ¬ ((atv + (2 : Int32)) < (2 : Int32)) := own_atN (own_at7 eatv) (by decide)
      refine Gk.icmpYes X61 hx (hb hby at_93) (flt hc93).2.1 136 (by decide) (by decide) ?_
      refine Gk.iconst X61 hx (hb hby at_136) (0 : Int32) rfl ?_
      refine Gk.istore X61 hx (hb hby at_137) #[.val (.int p1), .val (.int p2), .val (.int p3), .val (.int p4), .val (.int p5), .val (.int p6), .val (.int (2 : Int32)), .val (.int atv), .val (.ref b1), .val (.ref sa), .val (.int (0 : Int32))] rfl ?_
      refine Gk.aload X61 hx (hb hby at_139) rfl rfl ?_
      refine Gk.iload X61 hx (hb hby at_141) rfl ?_
      have H70 := (H62.keep K61 all0)
      refine Gk.callS (argsL := [(.ref sa), (.int atv)]) X61 hx Z32_ o32_ (ie0_1 l Z a0 T61.heap n0 hw sa atv sb ks fs (4 : Int32) w_COMPACT_STRINGS (Nat.le_trans Z0 (Nat.le_trans gr66 K61.1)) H70 Es Fcs Fvs Vs (by rw [show ((4 : Int32) >>> ((1 : Int32) &&& 31)) = (2 : Int32) from by decide]; exact hc93) hcs) (W hw 37 rfl) (W hw 38 rfl) (W hw 39 rfl) (W hw 40 rfl) (by decide) rfl pd_22 rfl rfl rfl (by rw [hml]; rfl) rfl (hb hby at_143) ?_
      intro T69 L69 v69 X69 hQ69
      obtain ⟨rfl, N69q, e69⟩ := hQ69
      have N69 := Fr.app N61 N69q
      show Go p e below (T69.setTop (mkF m 146 _ [(.int (0 : Int32))])) _
      refine Gk.iload X69 hx (hb hby at_146) rfl ?_
      refine Gk.icmpNo X69 hx (hb hby at_148) (teq (by decide : (0 : Int32) = (0 : Int32))).2 ?_
      refine Gk.iconst X69 hx (hb hby at_151) (1 : Int32) rfl ?_
      refine Gk.goto X69 hx (hb hby at_152) 156 (by decide) (by decide) ?_
      exact Gk.rNL (s := s) X69 hx Bd.returns (by simp) Bd.notSynchronized (hb hby at_156) e69 S32_ (Nat.le_trans q32_ (Nat.le_trans (Keep.of_wr W38).1 K61.1)) (1 : Int32) rfl ⟨rfl, N69⟩
  · show Go p e below (T38.setTop (mkF m 82 #[.val (.int p1), .val (.int p2), .val (.int p3), .val (.int p4), .val (.int p5), .val (.int p6), .val (.int nn), .val (.int atv), .val (.ref b1), .unset, .unset] [(.int d4), (.int d3), (.int d2), (.int d1), (.int d0), (.int nn)])) _
    rw [hkn]
    have H72 := ((H33.keep K32 all0).wr W38)
    have H73 := (((((((((((S__assertionsDisabled.ext E1).keep K2 all0).wr W6).keep K8 all0).wr W14).keep K16 all0).wr W22).keep K24 all0).wr W30).keep K32 all0).wr W38)
    have H74 := (((((((((((S_HI_BYTE_SHIFT.ext E1).keep K2 all0).wr W6).keep K8 all0).wr W14).keep K16 all0).wr W22).keep K24 all0).wr W30).keep K32 all0).wr W38)
    have H75 := (((((((((((S_LO_BYTE_SHIFT.ext E1).keep K2 all0).wr W6).keep K8 all0).wr W14).keep K16 all0).wr W22).keep K24 all0).wr W30).keep K32 all0).wr W38)
    have gr76 := (Nat.le_trans (Nat.le_trans gr35 K32.1) (Keep.of_wr W38).1)
    refine Gk.callS (argsL := [(.int (3 : Int32)), (.int d0), (.int d1), (.int d2), (.int d3), (.int d4)]) X38 hx Z32_ o32_ (make_3 l Z a0 h38 n0 hw d0 d1 d2 d3 d4 w_COMPACT_STRINGS (Nat.le_trans Z0 gr76) H72 H73 H74 H75 hd0 hd1 hd2 hcs) (W hw 5 rfl) (W hw 6 rfl) (W hw 3 rfl) (W hw 7 rfl) (by decide) e38 pd_21 rfl rfl rfl (by rw [hml]; rfl) rfl (hb hby at_82) ?_
    intro T71 L71 v71 X71 hQ71
    obtain ⟨rfl, N71q, K71, Es, sq_⟩ := hQ71
    have N71 := Fr.app N38 N71q
    obtain ⟨sa, esa⟩ : ∃ z_ : Addr, z_ = h38.size := ⟨_, rfl⟩
    rw [← esa] at Es sq_ ⊢
    show Go p e below (T71.setTop (mkF m 85 _ [(.ref sa)])) _
    rcases sq_ with ⟨Fcs, sb, ks, Fvs, Vs, hle0, hle1, hle2⟩ | ⟨Fcs, sb, ks, Fvs, Vs⟩
    · show Go p e below (T71.setTop (mkF m 85 #[.val (.int p1), .val (.int p2), .val (.int p3), .val (.int p4), .val (.int p5), .val (.int p6), .val (.int (3 : Int32)), .val (.int atv), .val (.ref b1), .unset, .unset] [(.ref sa)])) _
      obtain ⟨fs, efs⟩ : ∃ z_ : Nat → Value, z_ = (upd (upd (upd (fun _ => (.int (0 : Int32))) 0 (.int (d0.toInt8.toInt32))) 1 (.int (d1.toInt8.toInt32))) 2 (.int (d2.toInt8.toInt32))) := ⟨_, rfl⟩
      rw [← efs] at Vs
      refine Gk.astore X71 hx (hb hby at_85) rfl #[.val (.int p1), .val (.int p2), .val (.int p3), .val (.int p4), .val (.int p5), .val (.int p6), .val (.int (3 : Int32)), .val (.int atv), .val (.ref b1), .val (.ref sa), .unset] rfl ?_
      refine Gk.iload X71 hx (hb hby at_87) rfl ?_
      refine Gk.iconst X71 hx (hb hby at_89) (2 : Int32) rfl ?_
      refine Gk.iadd X71 hx (hb hby at_90) _ rfl ?_
      refine Gk.iload X71 hx (hb hby at_91) rfl ?_
      by_cases hc93 : (atv + (2 : Int32)) < (3 : Int32)
      · refine Gk.icmpNo X71 hx (hb hby at_93) (tlt hc93).2.1 ?_
        have hka := own_at3 (own_at7 eatv) hc93
        show Go p e below (T71.setTop (mkF m 96 #[.val (.int p1), .val (.int p2), .val (.int p3), .val (.int p4), .val (.int p5), .val (.int p6), .val (.int (3 : Int32)), .val (.int atv), .val (.ref b1), .val (.ref sa), .unset] [])) _
        rw [hka]
        refine Gk.aload X71 hx (hb hby at_96) rfl rfl ?_
        refine Gk.iload X71 hx (hb hby at_98) rfl ?_
        have H78 := (V38.keep K71 nin0)
        refine Gk.caload X71 hx Z32_ rfl H78 ⟨by decide, by decide⟩ (.int d0) rfl (hb hby at_100) ?_
        refine Gk.bipush X71 hx (hb hby at_101) (37 : Int32) rfl ?_
        by_cases hc103 : d0 = (37 : Int32)
        · refine Gk.icmpNo X71 hx (hb hby at_103) (teq hc103).2 ?_
          refine Gk.aload X71 hx (hb hby at_106) rfl rfl ?_
          refine Gk.iload X71 hx (hb hby at_108) rfl ?_
          refine Gk.iconst X71 hx (hb hby at_110) (1 : Int32) rfl ?_
          refine Gk.iadd X71 hx (hb hby at_111) (1 : Int32) (by decide) ?_
          refine Gk.caload X71 hx Z32_ rfl H78 ⟨by decide, by decide⟩ (.int d1) rfl (hb hby at_112) ?_
          refine Gk.callS (argsL := [(.int d1)]) X71 hx Z32_ o32_ (ishex l Z a0 T71.heap n0 hw d1 (Nat.le_trans Z0 (Nat.le_trans gr76 K71.1))) (W hw 108 rfl) (W hw 109 rfl) (W hw 3 rfl) (W hw 110 rfl) (by decide) rfl pd_23 rfl rfl rfl (by rw [hml]; rfl) rfl (hb hby at_113) ?_
          intro T80 L80 v80 X80 hQ80
          obtain ⟨rfl, N80q, e80⟩ := hQ80
          have N80 := Fr.app N71 N80q
          show Go p e below (T80.setTop (mkF m 116 _ [(.int (hexB d1))])) _
          by_cases hc116 : (hexB d1) = (0 : Int32)
          · refine Gk.ifYes X80 hx (hb hby at_116) (teq hc116).1 136 (by decide) (by decide) ?_
            refine Gk.iconst X80 hx (hb hby at_136) (0 : Int32) rfl ?_
            refine Gk.istore X80 hx (hb hby at_137) #[.val (.int p1), .val (.int p2), .val (.int p3), .val (.int p4), .val (.int p5), .val (.int p6), .val (.int (3 : Int32)), .val (.int (0 : Int32)), .val (.ref b1), .val (.ref sa), .val (.int (0 : Int32))] rfl ?_
            refine Gk.aload X80 hx (hb hby at_139) rfl rfl ?_
            refine Gk.iload X80 hx (hb hby at_141) rfl ?_
            have H82 := (H72.keep K71 all0)
            have H83 := (((H34.keep K32 all0).wr W38).keep K71 all0)
            have R85_ := R32_.trans (CHr.wr W38 sf38 R32_.1)
            have R86_ := R85_.trans (CHr.keep K71 (fun _ q_ => absurd q_ (List.not_mem_nil)) R85_.1)
            refine Gk.callSH (s := s) (argsL := [(.ref sa), (.int (0 : Int32))]) X80 hx Z32_ o32_ (ie_0_0 l Z a0 T71.heap n0 hw sa sb ks fs (3 : Int32) d0 d1 d2 w_COMPACT_STRINGS w_SIOOBE_FORMATTER (Nat.le_trans Z0 (Nat.le_trans gr76 K71.1)) H82 H83 Es Fcs Fvs Vs (by decide) (by decide) (by decide) (by decide) (by rw [efs]; rfl) (by rw [efs]; rfl) (by rw [efs]; rfl) hle0 hle1 hle2 hd0 hd1 hd2 hcs hsf) (W hw 37 rfl) (W hw 38 rfl) (W hw 39 rfl) (W hw 40 rfl) (by decide) e80 S32_ (Nat.le_trans q32_ (Nat.le_trans (Keep.of_wr W38).1 K71.1)) (own_EW hw) R86_.1 pd_22 rfl rfl rfl (by rw [hml]; rfl) rfl (hb hby at_143) ?_
            intro T81 L81 v81 kS81 X81 S81_ q81_ Z81_ o81_ C81_ hQ81
            have R81_ := R86_.trans C81_
            obtain ⟨rfl, N81q, K81⟩ := hQ81
            have N81 := Fr.app N80 N81q
            rw [show isEsc d0 d1 d2 = (0 : Int32) from if_neg (fun q_ => absurd (q_.2.1.symm.trans hc116) (by decide))]
            show Go p e below (T81.setTop (mkF m 146 _ [(.int (0 : Int32))])) _
            refine Gk.iload X81 hx (hb hby at_146) rfl ?_
            refine Gk.icmpNo X81 hx (hb hby at_148) (teq (by decide : (0 : Int32) = (0 : Int32))).2 ?_
            refine Gk.iconst X81 hx (hb hby at_151) (1 : Int32) rfl ?_
            refine Gk.goto X81 hx (hb hby at_152) 156 (by decide) (by decide) ?_
            exact Gk.rNL (s := s) X81 hx Bd.returns (by simp) Bd.notSynchronized (hb hby at_156) rfl S81_ (Nat.le_trans q81_ (Nat.le_refl _)) (1 : Int32) rfl ⟨rfl, N81⟩
          · refine Gk.ifNo X80 hx (hb hby at_116) (feq hc116).1 ?_
            refine Gk.aload X80 hx (hb hby at_119) rfl rfl ?_
            refine Gk.iload X80 hx (hb hby at_121) rfl ?_
            refine Gk.iconst X80 hx (hb hby at_123) (2 : Int32) rfl ?_
            refine Gk.iadd X80 hx (hb hby at_124) (2 : Int32) (by decide) ?_
            refine Gk.caload X80 hx Z32_ e80 H78 ⟨by decide, by decide⟩ (.int d2) rfl (hb hby at_125) ?_
            refine Gk.callS (argsL := [(.int d2)]) X80 hx Z32_ o32_ (ishex l Z a0 T71.heap n0 hw d2 (Nat.le_trans Z0 (Nat.le_trans gr76 K71.1))) (W hw 108 rfl) (W hw 109 rfl) (W hw 3 rfl) (W hw 110 rfl) (by decide) e80 pd_23 rfl rfl rfl (by rw [hml]; rfl) rfl (hb hby at_126) ?_
            intro T88 L88 v88 X88 hQ88
            obtain ⟨rfl, N88q, e88⟩ := hQ88
            have N88 := Fr.app N80 N88q
            show Go p e below (T88.setTop (mkF m 129 _ [(.int (hexB d2))])) _
            by_cases hc129 : (hexB d2) = (0 : Int32)
            · refine Gk.ifYes X88 hx (hb hby at_129) (teq hc129).1 136 (by decide) (by decide) ?_
              refine Gk.iconst X88 hx (hb hby at_136) (0 : Int32) rfl ?_
              refine Gk.istore X88 hx (hb hby at_137) #[.val (.int p1), .val (.int p2), .val (.int p3), .val (.int p4), .val (.int p5), .val (.int p6), .val (.int (3 : Int32)), .val (.int (0 : Int32)), .val (.ref b1), .val (.ref sa), .val (.int (0 : Int32))] rfl ?_
              refine Gk.aload X88 hx (hb hby at_139) rfl rfl ?_
              refine Gk.iload X88 hx (hb hby at_141) rfl ?_
              have H90 := (H72.keep K71 all0)
              have H91 := (((H34.keep K32 all0).wr W38).keep K71 all0)
              have R93_ := R32_.trans (CHr.wr W38 sf38 R32_.1)
              have R94_ := R93_.trans (CHr.keep K71 (fun _ q_ => absurd q_ (List.not_mem_nil)) R93_.1)
              refine Gk.callSH (s := s) (argsL := [(.ref sa), (.int (0 : Int32))]) X88 hx Z32_ o32_ (ie_0_0 l Z a0 T71.heap n0 hw sa sb ks fs (3 : Int32) d0 d1 d2 w_COMPACT_STRINGS w_SIOOBE_FORMATTER (Nat.le_trans Z0 (Nat.le_trans gr76 K71.1)) H90 H91 Es Fcs Fvs Vs (by decide) (by decide) (by decide) (by decide) (by rw [efs]; rfl) (by rw [efs]; rfl) (by rw [efs]; rfl) hle0 hle1 hle2 hd0 hd1 hd2 hcs hsf) (W hw 37 rfl) (W hw 38 rfl) (W hw 39 rfl) (W hw 40 rfl) (by decide) e88 S32_ (Nat.le_trans q32_ (Nat.le_trans (Keep.of_wr W38).1 K71.1)) (own_EW hw) R94_.1 pd_22 rfl rfl rfl (by rw [hml]; rfl) rfl (hb hby at_143) ?_
              intro T89 L89 v89 kS89 X89 S89_ q89_ Z89_ o89_ C89_ hQ89
              have R89_ := R94_.trans C89_
              obtain ⟨rfl, N89q, K89⟩ := hQ89
              have N89 := Fr.app N88 N89q
              rw [show isEsc d0 d1 d2 = (0 : Int32) from if_neg (fun q_ => absurd (q_.2.2.symm.trans hc129) (by decide))]
              show Go p e below (T89.setTop (mkF m 146 _ [(.int (0 : Int32))])) _
              refine Gk.iload X89 hx (hb hby at_146) rfl ?_
              refine Gk.icmpNo X89 hx (hb hby at_148) (teq (by decide : (0 : Int32) = (0 : Int32))).2 ?_
              refine Gk.iconst X89 hx (hb hby at_151) (1 : Int32) rfl ?_
              refine Gk.goto X89 hx (hb hby at_152) 156 (by decide) (by decide) ?_
              exact Gk.rNL (s := s) X89 hx Bd.returns (by simp) Bd.notSynchronized (hb hby at_156) rfl S89_ (Nat.le_trans q89_ (Nat.le_refl _)) (1 : Int32) rfl ⟨rfl, N89⟩
            · refine Gk.ifNo X88 hx (hb hby at_129) (feq hc129).1 ?_
              refine Gk.iconst X88 hx (hb hby at_132) (1 : Int32) rfl ?_
              refine Gk.goto X88 hx (hb hby at_133) 137 (by decide) (by decide) ?_
              refine Gk.istore X88 hx (hb hby at_137) #[.val (.int p1), .val (.int p2), .val (.int p3), .val (.int p4), .val (.int p5), .val (.int p6), .val (.int (3 : Int32)), .val (.int (0 : Int32)), .val (.ref b1), .val (.ref sa), .val (.int (1 : Int32))] rfl ?_
              refine Gk.aload X88 hx (hb hby at_139) rfl rfl ?_
              refine Gk.iload X88 hx (hb hby at_141) rfl ?_
              have H96 := (H72.keep K71 all0)
              have H97 := (((H34.keep K32 all0).wr W38).keep K71 all0)
              have R99_ := R32_.trans (CHr.wr W38 sf38 R32_.1)
              have R100_ := R99_.trans (CHr.keep K71 (fun _ q_ => absurd q_ (List.not_mem_nil)) R99_.1)
              refine Gk.callSH (s := s) (argsL := [(.ref sa), (.int (0 : Int32))]) X88 hx Z32_ o32_ (ie_0_0 l Z a0 T71.heap n0 hw sa sb ks fs (3 : Int32) d0 d1 d2 w_COMPACT_STRINGS w_SIOOBE_FORMATTER (Nat.le_trans Z0 (Nat.le_trans gr76 K71.1)) H96 H97 Es Fcs Fvs Vs (by decide) (by decide) (by decide) (by decide) (by rw [efs]; rfl) (by rw [efs]; rfl) (by rw [efs]; rfl) hle0 hle1 hle2 hd0 hd1 hd2 hcs hsf) (W hw 37 rfl) (W hw 38 rfl) (W hw 39 rfl) (W hw 40 rfl) (by decide) e88 S32_ (Nat.le_trans q32_ (Nat.le_trans (Keep.of_wr W38).1 K71.1)) (own_EW hw) R100_.1 pd_22 rfl rfl rfl (by rw [hml]; rfl) rfl (hb hby at_143) ?_
              intro T95 L95 v95 kS95 X95 S95_ q95_ Z95_ o95_ C95_ hQ95
              have R95_ := R100_.trans C95_
              obtain ⟨rfl, N95q, K95⟩ := hQ95
              have N95 := Fr.app N88 N95q
              rw [show isEsc d0 d1 d2 = (1 : Int32) from if_pos ⟨hc103, (hexB_01 _).resolve_left hc116, (hexB_01 _).resolve_left hc129⟩]
              show Go p e below (T95.setTop (mkF m 146 _ [(.int (1 : Int32))])) _
              refine Gk.iload X95 hx (hb hby at_146) rfl ?_
              refine Gk.icmpNo X95 hx (hb hby at_148) (teq (by decide : (1 : Int32) = (1 : Int32))).2 ?_
              refine Gk.iconst X95 hx (hb hby at_151) (1 : Int32) rfl ?_
              refine Gk.goto X95 hx (hb hby at_152) 156 (by decide) (by decide) ?_
              exact Gk.rNL (s := s) X95 hx Bd.returns (by simp) Bd.notSynchronized (hb hby at_156) rfl S95_ (Nat.le_trans q95_ (Nat.le_refl _)) (1 : Int32) rfl ⟨rfl, N95⟩
        · refine Gk.icmpYes X71 hx (hb hby at_103) (feq hc103).2 136 (by decide) (by decide) ?_
          refine Gk.iconst X71 hx (hb hby at_136) (0 : Int32) rfl ?_
          refine Gk.istore X71 hx (hb hby at_137) #[.val (.int p1), .val (.int p2), .val (.int p3), .val (.int p4), .val (.int p5), .val (.int p6), .val (.int (3 : Int32)), .val (.int (0 : Int32)), .val (.ref b1), .val (.ref sa), .val (.int (0 : Int32))] rfl ?_
          refine Gk.aload X71 hx (hb hby at_139) rfl rfl ?_
          refine Gk.iload X71 hx (hb hby at_141) rfl ?_
          have H102 := (H72.keep K71 all0)
          have H103 := (((H34.keep K32 all0).wr W38).keep K71 all0)
          have R105_ := R32_.trans (CHr.wr W38 sf38 R32_.1)
          have R106_ := R105_.trans (CHr.keep K71 (fun _ q_ => absurd q_ (List.not_mem_nil)) R105_.1)
          refine Gk.callSH (s := s) (argsL := [(.ref sa), (.int (0 : Int32))]) X71 hx Z32_ o32_ (ie_0_0 l Z a0 T71.heap n0 hw sa sb ks fs (3 : Int32) d0 d1 d2 w_COMPACT_STRINGS w_SIOOBE_FORMATTER (Nat.le_trans Z0 (Nat.le_trans gr76 K71.1)) H102 H103 Es Fcs Fvs Vs (by decide) (by decide) (by decide) (by decide) (by rw [efs]; rfl) (by rw [efs]; rfl) (by rw [efs]; rfl) hle0 hle1 hle2 hd0 hd1 hd2 hcs hsf) (W hw 37 rfl) (W hw 38 rfl) (W hw 39 rfl) (W hw 40 rfl) (by decide) rfl S32_ (Nat.le_trans q32_ (Nat.le_trans (Keep.of_wr W38).1 K71.1)) (own_EW hw) R106_.1 pd_22 rfl rfl rfl (by rw [hml]; rfl) rfl (hb hby at_143) ?_
          intro T101 L101 v101 kS101 X101 S101_ q101_ Z101_ o101_ C101_ hQ101
          have R101_ := R106_.trans C101_
          obtain ⟨rfl, N101q, K101⟩ := hQ101
          have N101 := Fr.app N71 N101q
          rw [show isEsc d0 d1 d2 = (0 : Int32) from if_neg (fun q_ => hc103 q_.1)]
          show Go p e below (T101.setTop (mkF m 146 _ [(.int (0 : Int32))])) _
          refine Gk.iload X101 hx (hb hby at_146) rfl ?_
          refine Gk.icmpNo X101 hx (hb hby at_148) (teq (by decide : (0 : Int32) = (0 : Int32))).2 ?_
          refine Gk.iconst X101 hx (hb hby at_151) (1 : Int32) rfl ?_
          refine Gk.goto X101 hx (hb hby at_152) 156 (by decide) (by decide) ?_
          exact Gk.rNL (s := s) X101 hx Bd.returns (by simp) Bd.notSynchronized (hb hby at_156) rfl S101_ (Nat.le_trans q101_ (Nat.le_refl _)) (1 : Int32) rfl ⟨rfl, N101⟩
      · refine Gk.icmpYes X71 hx (hb hby at_93) (flt hc93).2.1 136 (by decide) (by decide) ?_
        refine Gk.iconst X71 hx (hb hby at_136) (0 : Int32) rfl ?_
        refine Gk.istore X71 hx (hb hby at_137) #[.val (.int p1), .val (.int p2), .val (.int p3), .val (.int p4), .val (.int p5), .val (.int p6), .val (.int (3 : Int32)), .val (.int atv), .val (.ref b1), .val (.ref sa), .val (.int (0 : Int32))] rfl ?_
        refine Gk.aload X71 hx (hb hby at_139) rfl rfl ?_
        refine Gk.iload X71 hx (hb hby at_141) rfl ?_
        have H108 := (H72.keep K71 all0)
        refine Gk.callS (argsL := [(.ref sa), (.int atv)]) X71 hx Z32_ o32_ (ie0_0 l Z a0 T71.heap n0 hw sa atv sb ks fs (3 : Int32) w_COMPACT_STRINGS (Nat.le_trans Z0 (Nat.le_trans gr76 K71.1)) H108 Es Fcs Fvs Vs (by rw [show ((3 : Int32) >>> ((0 : Int32) &&& 31)) = (3 : Int32) from by decide]; exact hc93) hcs) (W hw 37 rfl) (W hw 38 rfl) (W hw 39 rfl) (W hw 40 rfl) (by decide) rfl pd_22 rfl rfl rfl (by rw [hml]; rfl) rfl (hb hby at_143) ?_
        intro T107 L107 v107 X107 hQ107
        obtain ⟨rfl, N107q, e107⟩ := hQ107
        have N107 := Fr.app N71 N107q
        show Go p e below (T107.setTop (mkF m 146 _ [(.int (0 : Int32))])) _
        refine Gk.iload X107 hx (hb hby at_146) rfl ?_
        refine Gk.icmpNo X107 hx (hb hby at_148) (teq (by decide : (0 : Int32) = (0 : Int32))).2 ?_
        refine Gk.iconst X107 hx (hb hby at_151) (1 : Int32) rfl ?_
        refine Gk.goto X107 hx (hb hby at_152) 156 (by decide) (by decide) ?_
        exact Gk.rNL (s := s) X107 hx Bd.returns (by simp) Bd.notSynchronized (hb hby at_156) e107 S32_ (Nat.le_trans q32_ (Nat.le_trans (Keep.of_wr W38).1 K71.1)) (1 : Int32) rfl ⟨rfl, N107⟩
    · show Go p e below (T71.setTop (mkF m 85 #[.val (.int p1), .val (.int p2), .val (.int p3), .val (.int p4), .val (.int p5), .val (.int p6), .val (.int (3 : Int32)), .val (.int atv), .val (.ref b1), .unset, .unset] [(.ref sa)])) _
      obtain ⟨fs, efs⟩ : ∃ z_ : Nat → Value, z_ = (upd (upd (upd (upd (upd (upd (fun _ => (.int (0 : Int32))) 0 (.int ((d0 >>> ((0 : Int32) &&& 31)).toInt8.toInt32))) 1 (.int ((d0 >>> ((8 : Int32) &&& 31)).toInt8.toInt32))) 2 (.int ((d1 >>> ((0 : Int32) &&& 31)).toInt8.toInt32))) 3 (.int ((d1 >>> ((8 : Int32) &&& 31)).toInt8.toInt32))) 4 (.int ((d2 >>> ((0 : Int32) &&& 31)).toInt8.toInt32))) 5 (.int ((d2 >>> ((8 : Int32) &&& 31)).toInt8.toInt32))) := ⟨_, rfl⟩
      rw [← efs] at Vs
      refine Gk.astore X71 hx (hb hby at_85) rfl #[.val (.int p1), .val (.int p2), .val (.int p3), .val (.int p4), .val (.int p5), .val (.int p6), .val (.int (3 : Int32)), .val (.int atv), .val (.ref b1), .val (.ref sa), .unset] rfl ?_
      refine Gk.iload X71 hx (hb hby at_87) rfl ?_
      refine Gk.iconst X71 hx (hb hby at_89) (2 : Int32) rfl ?_
      refine Gk.iadd X71 hx (hb hby at_90) _ rfl ?_
      refine Gk.iload X71 hx (hb hby at_91) rfl ?_
      by_cases hc93 : (atv + (2 : Int32)) < (3 : Int32)
      · refine Gk.icmpNo X71 hx (hb hby at_93) (tlt hc93).2.1 ?_
        have hka := own_at3 (own_at7 eatv) hc93
        show Go p e below (T71.setTop (mkF m 96 #[.val (.int p1), .val (.int p2), .val (.int p3), .val (.int p4), .val (.int p5), .val (.int p6), .val (.int (3 : Int32)), .val (.int atv), .val (.ref b1), .val (.ref sa), .unset] [])) _
        rw [hka]
        refine Gk.aload X71 hx (hb hby at_96) rfl rfl ?_
        refine Gk.iload X71 hx (hb hby at_98) rfl ?_
        have H110 := (V38.keep K71 nin0)
        refine Gk.caload X71 hx Z32_ rfl H110 ⟨by decide, by decide⟩ (.int d0) rfl (hb hby at_100) ?_
        refine Gk.bipush X71 hx (hb hby at_101) (37 : Int32) rfl ?_
        by_cases hc103 : d0 = (37 : Int32)
        · refine Gk.icmpNo X71 hx (hb hby at_103) (teq hc103).2 ?_
          refine Gk.aload X71 hx (hb hby at_106) rfl rfl ?_
          refine Gk.iload X71 hx (hb hby at_108) rfl ?_
          refine Gk.iconst X71 hx (hb hby at_110) (1 : Int32) rfl ?_
          refine Gk.iadd X71 hx (hb hby at_111) (1 : Int32) (by decide) ?_
          refine Gk.caload X71 hx Z32_ rfl H110 ⟨by decide, by decide⟩ (.int d1) rfl (hb hby at_112) ?_
          refine Gk.callS (argsL := [(.int d1)]) X71 hx Z32_ o32_ (ishex l Z a0 T71.heap n0 hw d1 (Nat.le_trans Z0 (Nat.le_trans gr76 K71.1))) (W hw 108 rfl) (W hw 109 rfl) (W hw 3 rfl) (W hw 110 rfl) (by decide) rfl pd_23 rfl rfl rfl (by rw [hml]; rfl) rfl (hb hby at_113) ?_
          intro T112 L112 v112 X112 hQ112
          obtain ⟨rfl, N112q, e112⟩ := hQ112
          have N112 := Fr.app N71 N112q
          show Go p e below (T112.setTop (mkF m 116 _ [(.int (hexB d1))])) _
          by_cases hc116 : (hexB d1) = (0 : Int32)
          · refine Gk.ifYes X112 hx (hb hby at_116) (teq hc116).1 136 (by decide) (by decide) ?_
            refine Gk.iconst X112 hx (hb hby at_136) (0 : Int32) rfl ?_
            refine Gk.istore X112 hx (hb hby at_137) #[.val (.int p1), .val (.int p2), .val (.int p3), .val (.int p4), .val (.int p5), .val (.int p6), .val (.int (3 : Int32)), .val (.int (0 : Int32)), .val (.ref b1), .val (.ref sa), .val (.int (0 : Int32))] rfl ?_
            refine Gk.aload X112 hx (hb hby at_139) rfl rfl ?_
            refine Gk.iload X112 hx (hb hby at_141) rfl ?_
            have H114 := (H72.keep K71 all0)
            have H115 := (((H34.keep K32 all0).wr W38).keep K71 all0)
            have H116 := (H73.keep K71 all0)
            have H117 := (H74.keep K71 all0)
            have H118 := (H75.keep K71 all0)
            have R120_ := R32_.trans (CHr.wr W38 sf38 R32_.1)
            have R121_ := R120_.trans (CHr.keep K71 (fun _ q_ => absurd q_ (List.not_mem_nil)) R120_.1)
            refine Gk.callSH (s := s) (argsL := [(.ref sa), (.int (0 : Int32))]) X112 hx Z32_ o32_ (ie_1_0 l Z a0 T71.heap n0 hw sa sb ks fs (6 : Int32) d0 d1 d2 w_COMPACT_STRINGS w_SIOOBE_FORMATTER (Nat.le_trans Z0 (Nat.le_trans gr76 K71.1)) H114 H115 H116 H117 H118 Es Fcs Fvs Vs (by decide) (by decide) (by decide) (by decide) (by decide) (by decide) (by decide) (by decide) (by decide) (by decide) (by rw [efs]; rfl) (by rw [efs]; rfl) (by rw [efs]; rfl) (by rw [efs]; rfl) (by rw [efs]; rfl) (by rw [efs]; rfl) hd0 hd1 hd2 hcs hsf) (W hw 37 rfl) (W hw 38 rfl) (W hw 39 rfl) (W hw 40 rfl) (by decide) e112 S32_ (Nat.le_trans q32_ (Nat.le_trans (Keep.of_wr W38).1 K71.1)) (own_EW hw) R121_.1 pd_22 rfl rfl rfl (by rw [hml]; rfl) rfl (hb hby at_143) ?_
            intro T113 L113 v113 kS113 X113 S113_ q113_ Z113_ o113_ C113_ hQ113
            have R113_ := R121_.trans C113_
            obtain ⟨rfl, N113q, K113⟩ := hQ113
            have N113 := Fr.app N112 N113q
            rw [show isEsc d0 d1 d2 = (0 : Int32) from if_neg (fun q_ => absurd (q_.2.1.symm.trans hc116) (by decide))]
            show Go p e below (T113.setTop (mkF m 146 _ [(.int (0 : Int32))])) _
            refine Gk.iload X113 hx (hb hby at_146) rfl ?_
            refine Gk.icmpNo X113 hx (hb hby at_148) (teq (by decide : (0 : Int32) = (0 : Int32))).2 ?_
            refine Gk.iconst X113 hx (hb hby at_151) (1 : Int32) rfl ?_
            refine Gk.goto X113 hx (hb hby at_152) 156 (by decide) (by decide) ?_
            exact Gk.rNL (s := s) X113 hx Bd.returns (by simp) Bd.notSynchronized (hb hby at_156) rfl S113_ (Nat.le_trans q113_ (Nat.le_refl _)) (1 : Int32) rfl ⟨rfl, N113⟩
          · refine Gk.ifNo X112 hx (hb hby at_116) (feq hc116).1 ?_
            refine Gk.aload X112 hx (hb hby at_119) rfl rfl ?_
            refine Gk.iload X112 hx (hb hby at_121) rfl ?_
            refine Gk.iconst X112 hx (hb hby at_123) (2 : Int32) rfl ?_
            refine Gk.iadd X112 hx (hb hby at_124) (2 : Int32) (by decide) ?_
            refine Gk.caload X112 hx Z32_ e112 H110 ⟨by decide, by decide⟩ (.int d2) rfl (hb hby at_125) ?_
            refine Gk.callS (argsL := [(.int d2)]) X112 hx Z32_ o32_ (ishex l Z a0 T71.heap n0 hw d2 (Nat.le_trans Z0 (Nat.le_trans gr76 K71.1))) (W hw 108 rfl) (W hw 109 rfl) (W hw 3 rfl) (W hw 110 rfl) (by decide) e112 pd_23 rfl rfl rfl (by rw [hml]; rfl) rfl (hb hby at_126) ?_
            intro T123 L123 v123 X123 hQ123
            obtain ⟨rfl, N123q, e123⟩ := hQ123
            have N123 := Fr.app N112 N123q
            show Go p e below (T123.setTop (mkF m 129 _ [(.int (hexB d2))])) _
            by_cases hc129 : (hexB d2) = (0 : Int32)
            · refine Gk.ifYes X123 hx (hb hby at_129) (teq hc129).1 136 (by decide) (by decide) ?_
              refine Gk.iconst X123 hx (hb hby at_136) (0 : Int32) rfl ?_
              refine Gk.istore X123 hx (hb hby at_137) #[.val (.int p1), .val (.int p2), .val (.int p3), .val (.int p4), .val (.int p5), .val (.int p6), .val (.int (3 : Int32)), .val (.int (0 : Int32)), .val (.ref b1), .val (.ref sa), .val (.int (0 : Int32))] rfl ?_
              refine Gk.aload X123 hx (hb hby at_139) rfl rfl ?_
              refine Gk.iload X123 hx (hb hby at_141) rfl ?_
              have H125 := (H72.keep K71 all0)
              have H126 := (((H34.keep K32 all0).wr W38).keep K71 all0)
              have H127 := (H73.keep K71 all0)
              have H128 := (H74.keep K71 all0)
              have H129 := (H75.keep K71 all0)
              have R131_ := R32_.trans (CHr.wr W38 sf38 R32_.1)
              have R132_ := R131_.trans (CHr.keep K71 (fun _ q_ => absurd q_ (List.not_mem_nil)) R131_.1)
              refine Gk.callSH (s := s) (argsL := [(.ref sa), (.int (0 : Int32))]) X123 hx Z32_ o32_ (ie_1_0 l Z a0 T71.heap n0 hw sa sb ks fs (6 : Int32) d0 d1 d2 w_COMPACT_STRINGS w_SIOOBE_FORMATTER (Nat.le_trans Z0 (Nat.le_trans gr76 K71.1)) H125 H126 H127 H128 H129 Es Fcs Fvs Vs (by decide) (by decide) (by decide) (by decide) (by decide) (by decide) (by decide) (by decide) (by decide) (by decide) (by rw [efs]; rfl) (by rw [efs]; rfl) (by rw [efs]; rfl) (by rw [efs]; rfl) (by rw [efs]; rfl) (by rw [efs]; rfl) hd0 hd1 hd2 hcs hsf) (W hw 37 rfl) (W hw 38 rfl) (W hw 39 rfl) (W hw 40 rfl) (by decide) e123 S32_ (Nat.le_trans q32_ (Nat.le_trans (Keep.of_wr W38).1 K71.1)) (own_EW hw) R132_.1 pd_22 rfl rfl rfl (by rw [hml]; rfl) rfl (hb hby at_143) ?_
              intro T124 L124 v124 kS124 X124 S124_ q124_ Z124_ o124_ C124_ hQ124
              have R124_ := R132_.trans C124_
              obtain ⟨rfl, N124q, K124⟩ := hQ124
              have N124 := Fr.app N123 N124q
              rw [show isEsc d0 d1 d2 = (0 : Int32) from if_neg (fun q_ => absurd (q_.2.2.symm.trans hc129) (by decide))]
              show Go p e below (T124.setTop (mkF m 146 _ [(.int (0 : Int32))])) _
              refine Gk.iload X124 hx (hb hby at_146) rfl ?_
              refine Gk.icmpNo X124 hx (hb hby at_148) (teq (by decide : (0 : Int32) = (0 : Int32))).2 ?_
              refine Gk.iconst X124 hx (hb hby at_151) (1 : Int32) rfl ?_
              refine Gk.goto X124 hx (hb hby at_152) 156 (by decide) (by decide) ?_
              exact Gk.rNL (s := s) X124 hx Bd.returns (by simp) Bd.notSynchronized (hb hby at_156) rfl S124_ (Nat.le_trans q124_ (Nat.le_refl _)) (1 : Int32) rfl ⟨rfl, N124⟩
            · refine Gk.ifNo X123 hx (hb hby at_129) (feq hc129).1 ?_
              refine Gk.iconst X123 hx (hb hby at_132) (1 : Int32) rfl ?_
              refine Gk.goto X123 hx (hb hby at_133) 137 (by decide) (by decide) ?_
              refine Gk.istore X123 hx (hb hby at_137) #[.val (.int p1), .val (.int p2), .val (.int p3), .val (.int p4), .val (.int p5), .val (.int p6), .val (.int (3 : Int32)), .val (.int (0 : Int32)), .val (.ref b1), .val (.ref sa), .val (.int (1 : Int32))] rfl ?_
              refine Gk.aload X123 hx (hb hby at_139) rfl rfl ?_
              refine Gk.iload X123 hx (hb hby at_141) rfl ?_
              have H134 := (H72.keep K71 all0)
              have H135 := (((H34.keep K32 all0).wr W38).keep K71 all0)
              have H136 := (H73.keep K71 all0)
              have H137 := (H74.keep K71 all0)
              have H138 := (H75.keep K71 all0)
              have R140_ := R32_.trans (CHr.wr W38 sf38 R32_.1)
              have R141_ := R140_.trans (CHr.keep K71 (fun _ q_ => absurd q_ (List.not_mem_nil)) R140_.1)
              refine Gk.callSH (s := s) (argsL := [(.ref sa), (.int (0 : Int32))]) X123 hx Z32_ o32_ (ie_1_0 l Z a0 T71.heap n0 hw sa sb ks fs (6 : Int32) d0 d1 d2 w_COMPACT_STRINGS w_SIOOBE_FORMATTER (Nat.le_trans Z0 (Nat.le_trans gr76 K71.1)) H134 H135 H136 H137 H138 Es Fcs Fvs Vs (by decide) (by decide) (by decide) (by decide) (by decide) (by decide) (by decide) (by decide) (by decide) (by decide) (by rw [efs]; rfl) (by rw [efs]; rfl) (by rw [efs]; rfl) (by rw [efs]; rfl) (by rw [efs]; rfl) (by rw [efs]; rfl) hd0 hd1 hd2 hcs hsf) (W hw 37 rfl) (W hw 38 rfl) (W hw 39 rfl) (W hw 40 rfl) (by decide) e123 S32_ (Nat.le_trans q32_ (Nat.le_trans (Keep.of_wr W38).1 K71.1)) (own_EW hw) R141_.1 pd_22 rfl rfl rfl (by rw [hml]; rfl) rfl (hb hby at_143) ?_
              intro T133 L133 v133 kS133 X133 S133_ q133_ Z133_ o133_ C133_ hQ133
              have R133_ := R141_.trans C133_
              obtain ⟨rfl, N133q, K133⟩ := hQ133
              have N133 := Fr.app N123 N133q
              rw [show isEsc d0 d1 d2 = (1 : Int32) from if_pos ⟨hc103, (hexB_01 _).resolve_left hc116, (hexB_01 _).resolve_left hc129⟩]
              show Go p e below (T133.setTop (mkF m 146 _ [(.int (1 : Int32))])) _
              refine Gk.iload X133 hx (hb hby at_146) rfl ?_
              refine Gk.icmpNo X133 hx (hb hby at_148) (teq (by decide : (1 : Int32) = (1 : Int32))).2 ?_
              refine Gk.iconst X133 hx (hb hby at_151) (1 : Int32) rfl ?_
              refine Gk.goto X133 hx (hb hby at_152) 156 (by decide) (by decide) ?_
              exact Gk.rNL (s := s) X133 hx Bd.returns (by simp) Bd.notSynchronized (hb hby at_156) rfl S133_ (Nat.le_trans q133_ (Nat.le_refl _)) (1 : Int32) rfl ⟨rfl, N133⟩
        · refine Gk.icmpYes X71 hx (hb hby at_103) (feq hc103).2 136 (by decide) (by decide) ?_
          refine Gk.iconst X71 hx (hb hby at_136) (0 : Int32) rfl ?_
          refine Gk.istore X71 hx (hb hby at_137) #[.val (.int p1), .val (.int p2), .val (.int p3), .val (.int p4), .val (.int p5), .val (.int p6), .val (.int (3 : Int32)), .val (.int (0 : Int32)), .val (.ref b1), .val (.ref sa), .val (.int (0 : Int32))] rfl ?_
          refine Gk.aload X71 hx (hb hby at_139) rfl rfl ?_
          refine Gk.iload X71 hx (hb hby at_141) rfl ?_
          have H143 := (H72.keep K71 all0)
          have H144 := (((H34.keep K32 all0).wr W38).keep K71 all0)
          have H145 := (H73.keep K71 all0)
          have H146 := (H74.keep K71 all0)
          have H147 := (H75.keep K71 all0)
          have R149_ := R32_.trans (CHr.wr W38 sf38 R32_.1)
          have R150_ := R149_.trans (CHr.keep K71 (fun _ q_ => absurd q_ (List.not_mem_nil)) R149_.1)
          refine Gk.callSH (s := s) (argsL := [(.ref sa), (.int (0 : Int32))]) X71 hx Z32_ o32_ (ie_1_0 l Z a0 T71.heap n0 hw sa sb ks fs (6 : Int32) d0 d1 d2 w_COMPACT_STRINGS w_SIOOBE_FORMATTER (Nat.le_trans Z0 (Nat.le_trans gr76 K71.1)) H143 H144 H145 H146 H147 Es Fcs Fvs Vs (by decide) (by decide) (by decide) (by decide) (by decide) (by decide) (by decide) (by decide) (by decide) (by decide) (by rw [efs]; rfl) (by rw [efs]; rfl) (by rw [efs]; rfl) (by rw [efs]; rfl) (by rw [efs]; rfl) (by rw [efs]; rfl) hd0 hd1 hd2 hcs hsf) (W hw 37 rfl) (W hw 38 rfl) (W hw 39 rfl) (W hw 40 rfl) (by decide) rfl S32_ (Nat.le_trans q32_ (Nat.le_trans (Keep.of_wr W38).1 K71.1)) (own_EW hw) R150_.1 pd_22 rfl rfl rfl (by rw [hml]; rfl) rfl (hb hby at_143) ?_
          intro T142 L142 v142 kS142 X142 S142_ q142_ Z142_ o142_ C142_ hQ142
          have R142_ := R150_.trans C142_
          obtain ⟨rfl, N142q, K142⟩ := hQ142
          have N142 := Fr.app N71 N142q
          rw [show isEsc d0 d1 d2 = (0 : Int32) from if_neg (fun q_ => hc103 q_.1)]
          show Go p e below (T142.setTop (mkF m 146 _ [(.int (0 : Int32))])) _
          refine Gk.iload X142 hx (hb hby at_146) rfl ?_
          refine Gk.icmpNo X142 hx (hb hby at_148) (teq (by decide : (0 : Int32) = (0 : Int32))).2 ?_
          refine Gk.iconst X142 hx (hb hby at_151) (1 : Int32) rfl ?_
          refine Gk.goto X142 hx (hb hby at_152) 156 (by decide) (by decide) ?_
          exact Gk.rNL (s := s) X142 hx Bd.returns (by simp) Bd.notSynchronized (hb hby at_156) rfl S142_ (Nat.le_trans q142_ (Nat.le_refl _)) (1 : Int32) rfl ⟨rfl, N142⟩
      · refine Gk.icmpYes X71 hx (hb hby at_93) (flt hc93).2.1 136 (by decide) (by decide) ?_
        refine Gk.iconst X71 hx (hb hby at_136) (0 : Int32) rfl ?_
        refine Gk.istore X71 hx (hb hby at_137) #[.val (.int p1), .val (.int p2), .val (.int p3), .val (.int p4), .val (.int p5), .val (.int p6), .val (.int (3 : Int32)), .val (.int atv), .val (.ref b1), .val (.ref sa), .val (.int (0 : Int32))] rfl ?_
        refine Gk.aload X71 hx (hb hby at_139) rfl rfl ?_
        refine Gk.iload X71 hx (hb hby at_141) rfl ?_
        have H152 := (H72.keep K71 all0)
        refine Gk.callS (argsL := [(.ref sa), (.int atv)]) X71 hx Z32_ o32_ (ie0_1 l Z a0 T71.heap n0 hw sa atv sb ks fs (6 : Int32) w_COMPACT_STRINGS (Nat.le_trans Z0 (Nat.le_trans gr76 K71.1)) H152 Es Fcs Fvs Vs (by rw [show ((6 : Int32) >>> ((1 : Int32) &&& 31)) = (3 : Int32) from by decide]; exact hc93) hcs) (W hw 37 rfl) (W hw 38 rfl) (W hw 39 rfl) (W hw 40 rfl) (by decide) rfl pd_22 rfl rfl rfl (by rw [hml]; rfl) rfl (hb hby at_143) ?_
        intro T151 L151 v151 X151 hQ151
        obtain ⟨rfl, N151q, e151⟩ := hQ151
        have N151 := Fr.app N71 N151q
        show Go p e below (T151.setTop (mkF m 146 _ [(.int (0 : Int32))])) _
        refine Gk.iload X151 hx (hb hby at_146) rfl ?_
        refine Gk.icmpNo X151 hx (hb hby at_148) (teq (by decide : (0 : Int32) = (0 : Int32))).2 ?_
        refine Gk.iconst X151 hx (hb hby at_151) (1 : Int32) rfl ?_
        refine Gk.goto X151 hx (hb hby at_152) 156 (by decide) (by decide) ?_
        exact Gk.rNL (s := s) X151 hx Bd.returns (by simp) Bd.notSynchronized (hb hby at_156) e151 S32_ (Nat.le_trans q32_ (Nat.le_trans (Keep.of_wr W38).1 K71.1)) (1 : Int32) rfl ⟨rfl, N151⟩
  · show Go p e below (T38.setTop (mkF m 82 #[.val (.int p1), .val (.int p2), .val (.int p3), .val (.int p4), .val (.int p5), .val (.int p6), .val (.int nn), .val (.int atv), .val (.ref b1), .unset, .unset] [(.int d4), (.int d3), (.int d2), (.int d1), (.int d0), (.int nn)])) _
    rw [hkn]
    have H154 := ((H33.keep K32 all0).wr W38)
    have H155 := (((((((((((S__assertionsDisabled.ext E1).keep K2 all0).wr W6).keep K8 all0).wr W14).keep K16 all0).wr W22).keep K24 all0).wr W30).keep K32 all0).wr W38)
    have H156 := (((((((((((S_HI_BYTE_SHIFT.ext E1).keep K2 all0).wr W6).keep K8 all0).wr W14).keep K16 all0).wr W22).keep K24 all0).wr W30).keep K32 all0).wr W38)
    have H157 := (((((((((((S_LO_BYTE_SHIFT.ext E1).keep K2 all0).wr W6).keep K8 all0).wr W14).keep K16 all0).wr W22).keep K24 all0).wr W30).keep K32 all0).wr W38)
    have gr158 := (Nat.le_trans (Nat.le_trans gr35 K32.1) (Keep.of_wr W38).1)
    refine Gk.callS (argsL := [(.int (4 : Int32)), (.int d0), (.int d1), (.int d2), (.int d3), (.int d4)]) X38 hx Z32_ o32_ (make_4 l Z a0 h38 n0 hw d0 d1 d2 d3 d4 w_COMPACT_STRINGS (Nat.le_trans Z0 gr158) H154 H155 H156 H157 hd0 hd1 hd2 hd3 hcs) (W hw 5 rfl) (W hw 6 rfl) (W hw 3 rfl) (W hw 7 rfl) (by decide) e38 pd_21 rfl rfl rfl (by rw [hml]; rfl) rfl (hb hby at_82) ?_
    intro T153 L153 v153 X153 hQ153
    obtain ⟨rfl, N153q, K153, Es, sq_⟩ := hQ153
    have N153 := Fr.app N38 N153q
    obtain ⟨sa, esa⟩ : ∃ z_ : Addr, z_ = h38.size := ⟨_, rfl⟩
    rw [← esa] at Es sq_ ⊢
    show Go p e below (T153.setTop (mkF m 85 _ [(.ref sa)])) _
    rcases sq_ with ⟨Fcs, sb, ks, Fvs, Vs, hle0, hle1, hle2, hle3⟩ | ⟨Fcs, sb, ks, Fvs, Vs⟩
    · show Go p e below (T153.setTop (mkF m 85 #[.val (.int p1), .val (.int p2), .val (.int p3), .val (.int p4), .val (.int p5), .val (.int p6), .val (.int (4 : Int32)), .val (.int atv), .val (.ref b1), .unset, .unset] [(.ref sa)])) _
      obtain ⟨fs, efs⟩ : ∃ z_ : Nat → Value, z_ = (upd (upd (upd (upd (fun _ => (.int (0 : Int32))) 0 (.int (d0.toInt8.toInt32))) 1 (.int (d1.toInt8.toInt32))) 2 (.int (d2.toInt8.toInt32))) 3 (.int (d3.toInt8.toInt32))) := ⟨_, rfl⟩
      rw [← efs] at Vs
      refine Gk.astore X153 hx (hb hby at_85) rfl #[.val (.int p1), .val (.int p2), .val (.int p3), .val (.int p4), .val (.int p5), .val (.int p6), .val (.int (4 : Int32)), .val (.int atv), .val (.ref b1), .val (.ref sa), .unset] rfl ?_
      refine Gk.iload X153 hx (hb hby at_87) rfl ?_
      refine Gk.iconst X153 hx (hb hby at_89) (2 : Int32) rfl ?_
      refine Gk.iadd X153 hx (hb hby at_90) _ rfl ?_
      refine Gk.iload X153 hx (hb hby at_91) rfl ?_
      by_cases hc93 : (atv + (2 : Int32)) < (4 : Int32)
      · refine Gk.icmpNo X153 hx (hb hby at_93) (tlt hc93).2.1 ?_
        rcases own_at4 (own_at7 eatv) hc93 with hka | hka
        · show Go p e below (T153.setTop (mkF m 96 #[.val (.int p1), .val (.int p2), .val (.int p3), .val (.int p4), .val (.int p5), .val (.int p6), .val (.int (4 : Int32)), .val (.int atv), .val (.ref b1), .val (.ref sa), .unset] [])) _
          rw [hka]
          refine Gk.aload X153 hx (hb hby at_96) rfl rfl ?_
          refine Gk.iload X153 hx (hb hby at_98) rfl ?_
          have H160 := (V38.keep K153 nin0)
          refine Gk.caload X153 hx Z32_ rfl H160 ⟨by decide, by decide⟩ (.int d0) rfl (hb hby at_100) ?_
          refine Gk.bipush X153 hx (hb hby at_101) (37 : Int32) rfl ?_
          by_cases hc103 : d0 = (37 : Int32)
          · refine Gk.icmpNo X153 hx (hb hby at_103) (teq hc103).2 ?_
            refine Gk.aload X153 hx (hb hby at_106) rfl rfl ?_
            refine Gk.iload X153 hx (hb hby at_108) rfl ?_
            refine Gk.iconst X153 hx (hb hby at_110) (1 : Int32) rfl ?_
            refine Gk.iadd X153 hx (hb hby at_111) (1 : Int32) (by decide) ?_
            refine Gk.caload X153 hx Z32_ rfl H160 ⟨by decide, by decide⟩ (.int d1) rfl (hb hby at_112) ?_
            refine Gk.callS (argsL := [(.int d1)]) X153 hx Z32_ o32_ (ishex l Z a0 T153.heap n0 hw d1 (Nat.le_trans Z0 (Nat.le_trans gr158 K153.1))) (W hw 108 rfl) (W hw 109 rfl) (W hw 3 rfl) (W hw 110 rfl) (by decide) rfl pd_23 rfl rfl rfl (by rw [hml]; rfl) rfl (hb hby at_113) ?_
            intro T162 L162 v162 X162 hQ162
            obtain ⟨rfl, N162q, e162⟩ := hQ162
            have N162 := Fr.app N153 N162q
            show Go p e below (T162.setTop (mkF m 116 _ [(.int (hexB d1))])) _
            by_cases hc116 : (hexB d1) = (0 : Int32)
            · refine Gk.ifYes X162 hx (hb hby at_116) (teq hc116).1 136 (by decide) (by decide) ?_
              refine Gk.iconst X162 hx (hb hby at_136) (0 : Int32) rfl ?_
              refine Gk.istore X162 hx (hb hby at_137) #[.val (.int p1), .val (.int p2), .val (.int p3), .val (.int p4), .val (.int p5), .val (.int p6), .val (.int (4 : Int32)), .val (.int (0 : Int32)), .val (.ref b1), .val (.ref sa), .val (.int (0 : Int32))] rfl ?_
              refine Gk.aload X162 hx (hb hby at_139) rfl rfl ?_
              refine Gk.iload X162 hx (hb hby at_141) rfl ?_
              have H164 := (H154.keep K153 all0)
              have H165 := (((H34.keep K32 all0).wr W38).keep K153 all0)
              have R167_ := R32_.trans (CHr.wr W38 sf38 R32_.1)
              have R168_ := R167_.trans (CHr.keep K153 (fun _ q_ => absurd q_ (List.not_mem_nil)) R167_.1)
              refine Gk.callSH (s := s) (argsL := [(.ref sa), (.int (0 : Int32))]) X162 hx Z32_ o32_ (ie_0_0 l Z a0 T153.heap n0 hw sa sb ks fs (4 : Int32) d0 d1 d2 w_COMPACT_STRINGS w_SIOOBE_FORMATTER (Nat.le_trans Z0 (Nat.le_trans gr158 K153.1)) H164 H165 Es Fcs Fvs Vs (by decide) (by decide) (by decide) (by decide) (by rw [efs]; rfl) (by rw [efs]; rfl) (by rw [efs]; rfl) hle0 hle1 hle2 hd0 hd1 hd2 hcs hsf) (W hw 37 rfl) (W hw 38 rfl) (W hw 39 rfl) (W hw 40 rfl) (by decide) e162 S32_ (Nat.le_trans q32_ (Nat.le_trans (Keep.of_wr W38).1 K153.1)) (own_EW hw) R168_.1 pd_22 rfl rfl rfl (by rw [hml]; rfl) rfl (hb hby at_143) ?_
              intro T163 L163 v163 kS163 X163 S163_ q163_ Z163_ o163_ C163_ hQ163
              have R163_ := R168_.trans C163_
              obtain ⟨rfl, N163q, K163⟩ := hQ163
              have N163 := Fr.app N162 N163q
              rw [show isEsc d0 d1 d2 = (0 : Int32) from if_neg (fun q_ => absurd (q_.2.1.symm.trans hc116) (by decide))]
              show Go p e below (T163.setTop (mkF m 146 _ [(.int (0 : Int32))])) _
              refine Gk.iload X163 hx (hb hby at_146) rfl ?_
              refine Gk.icmpNo X163 hx (hb hby at_148) (teq (by decide : (0 : Int32) = (0 : Int32))).2 ?_
              refine Gk.iconst X163 hx (hb hby at_151) (1 : Int32) rfl ?_
              refine Gk.goto X163 hx (hb hby at_152) 156 (by decide) (by decide) ?_
              exact Gk.rNL (s := s) X163 hx Bd.returns (by simp) Bd.notSynchronized (hb hby at_156) rfl S163_ (Nat.le_trans q163_ (Nat.le_refl _)) (1 : Int32) rfl ⟨rfl, N163⟩
            · refine Gk.ifNo X162 hx (hb hby at_116) (feq hc116).1 ?_
              refine Gk.aload X162 hx (hb hby at_119) rfl rfl ?_
              refine Gk.iload X162 hx (hb hby at_121) rfl ?_
              refine Gk.iconst X162 hx (hb hby at_123) (2 : Int32) rfl ?_
              refine Gk.iadd X162 hx (hb hby at_124) (2 : Int32) (by decide) ?_
              refine Gk.caload X162 hx Z32_ e162 H160 ⟨by decide, by decide⟩ (.int d2) rfl (hb hby at_125) ?_
              refine Gk.callS (argsL := [(.int d2)]) X162 hx Z32_ o32_ (ishex l Z a0 T153.heap n0 hw d2 (Nat.le_trans Z0 (Nat.le_trans gr158 K153.1))) (W hw 108 rfl) (W hw 109 rfl) (W hw 3 rfl) (W hw 110 rfl) (by decide) e162 pd_23 rfl rfl rfl (by rw [hml]; rfl) rfl (hb hby at_126) ?_
              intro T170 L170 v170 X170 hQ170
              obtain ⟨rfl, N170q, e170⟩ := hQ170
              have N170 := Fr.app N162 N170q
              show Go p e below (T170.setTop (mkF m 129 _ [(.int (hexB d2))])) _
              by_cases hc129 : (hexB d2) = (0 : Int32)
              · refine Gk.ifYes X170 hx (hb hby at_129) (teq hc129).1 136 (by decide) (by decide) ?_
                refine Gk.iconst X170 hx (hb hby at_136) (0 : Int32) rfl ?_
                refine Gk.istore X170 hx (hb hby at_137) #[.val (.int p1), .val (.int p2), .val (.int p3), .val (.int p4), .val (.int p5), .val (.int p6), .val (.int (4 : Int32)), .val (.int (0 : Int32)), .val (.ref b1), .val (.ref sa), .val (.int (0 : Int32))] rfl ?_
                refine Gk.aload X170 hx (hb hby at_139) rfl rfl ?_
                refine Gk.iload X170 hx (hb hby at_141) rfl ?_
                have H172 := (H154.keep K153 all0)
                have H173 := (((H34.keep K32 all0).wr W38).keep K153 all0)
                have R175_ := R32_.trans (CHr.wr W38 sf38 R32_.1)
                have R176_ := R175_.trans (CHr.keep K153 (fun _ q_ => absurd q_ (List.not_mem_nil)) R175_.1)
                refine Gk.callSH (s := s) (argsL := [(.ref sa), (.int (0 : Int32))]) X170 hx Z32_ o32_ (ie_0_0 l Z a0 T153.heap n0 hw sa sb ks fs (4 : Int32) d0 d1 d2 w_COMPACT_STRINGS w_SIOOBE_FORMATTER (Nat.le_trans Z0 (Nat.le_trans gr158 K153.1)) H172 H173 Es Fcs Fvs Vs (by decide) (by decide) (by decide) (by decide) (by rw [efs]; rfl) (by rw [efs]; rfl) (by rw [efs]; rfl) hle0 hle1 hle2 hd0 hd1 hd2 hcs hsf) (W hw 37 rfl) (W hw 38 rfl) (W hw 39 rfl) (W hw 40 rfl) (by decide) e170 S32_ (Nat.le_trans q32_ (Nat.le_trans (Keep.of_wr W38).1 K153.1)) (own_EW hw) R176_.1 pd_22 rfl rfl rfl (by rw [hml]; rfl) rfl (hb hby at_143) ?_
                intro T171 L171 v171 kS171 X171 S171_ q171_ Z171_ o171_ C171_ hQ171
                have R171_ := R176_.trans C171_
                obtain ⟨rfl, N171q, K171⟩ := hQ171
                have N171 := Fr.app N170 N171q
                rw [show isEsc d0 d1 d2 = (0 : Int32) from if_neg (fun q_ => absurd (q_.2.2.symm.trans hc129) (by decide))]
                show Go p e below (T171.setTop (mkF m 146 _ [(.int (0 : Int32))])) _
                refine Gk.iload X171 hx (hb hby at_146) rfl ?_
                refine Gk.icmpNo X171 hx (hb hby at_148) (teq (by decide : (0 : Int32) = (0 : Int32))).2 ?_
                refine Gk.iconst X171 hx (hb hby at_151) (1 : Int32) rfl ?_
                refine Gk.goto X171 hx (hb hby at_152) 156 (by decide) (by decide) ?_
                exact Gk.rNL (s := s) X171 hx Bd.returns (by simp) Bd.notSynchronized (hb hby at_156) rfl S171_ (Nat.le_trans q171_ (Nat.le_refl _)) (1 : Int32) rfl ⟨rfl, N171⟩
              · refine Gk.ifNo X170 hx (hb hby at_129) (feq hc129).1 ?_
                refine Gk.iconst X170 hx (hb hby at_132) (1 : Int32) rfl ?_
                refine Gk.goto X170 hx (hb hby at_133) 137 (by decide) (by decide) ?_
                refine Gk.istore X170 hx (hb hby at_137) #[.val (.int p1), .val (.int p2), .val (.int p3), .val (.int p4), .val (.int p5), .val (.int p6), .val (.int (4 : Int32)), .val (.int (0 : Int32)), .val (.ref b1), .val (.ref sa), .val (.int (1 : Int32))] rfl ?_
                refine Gk.aload X170 hx (hb hby at_139) rfl rfl ?_
                refine Gk.iload X170 hx (hb hby at_141) rfl ?_
                have H178 := (H154.keep K153 all0)
                have H179 := (((H34.keep K32 all0).wr W38).keep K153 all0)
                have R181_ := R32_.trans (CHr.wr W38 sf38 R32_.1)
                have R182_ := R181_.trans (CHr.keep K153 (fun _ q_ => absurd q_ (List.not_mem_nil)) R181_.1)
                refine Gk.callSH (s := s) (argsL := [(.ref sa), (.int (0 : Int32))]) X170 hx Z32_ o32_ (ie_0_0 l Z a0 T153.heap n0 hw sa sb ks fs (4 : Int32) d0 d1 d2 w_COMPACT_STRINGS w_SIOOBE_FORMATTER (Nat.le_trans Z0 (Nat.le_trans gr158 K153.1)) H178 H179 Es Fcs Fvs Vs (by decide) (by decide) (by decide) (by decide) (by rw [efs]; rfl) (by rw [efs]; rfl) (by rw [efs]; rfl) hle0 hle1 hle2 hd0 hd1 hd2 hcs hsf) (W hw 37 rfl) (W hw 38 rfl) (W hw 39 rfl) (W hw 40 rfl) (by decide) e170 S32_ (Nat.le_trans q32_ (Nat.le_trans (Keep.of_wr W38).1 K153.1)) (own_EW hw) R182_.1 pd_22 rfl rfl rfl (by rw [hml]; rfl) rfl (hb hby at_143) ?_
                intro T177 L177 v177 kS177 X177 S177_ q177_ Z177_ o177_ C177_ hQ177
                have R177_ := R182_.trans C177_
                obtain ⟨rfl, N177q, K177⟩ := hQ177
                have N177 := Fr.app N170 N177q
                rw [show isEsc d0 d1 d2 = (1 : Int32) from if_pos ⟨hc103, (hexB_01 _).resolve_left hc116, (hexB_01 _).resolve_left hc129⟩]
                show Go p e below (T177.setTop (mkF m 146 _ [(.int (1 : Int32))])) _
                refine Gk.iload X177 hx (hb hby at_146) rfl ?_
                refine Gk.icmpNo X177 hx (hb hby at_148) (teq (by decide : (1 : Int32) = (1 : Int32))).2 ?_
                refine Gk.iconst X177 hx (hb hby at_151) (1 : Int32) rfl ?_
                refine Gk.goto X177 hx (hb hby at_152) 156 (by decide) (by decide) ?_
                exact Gk.rNL (s := s) X177 hx Bd.returns (by simp) Bd.notSynchronized (hb hby at_156) rfl S177_ (Nat.le_trans q177_ (Nat.le_refl _)) (1 : Int32) rfl ⟨rfl, N177⟩
          · refine Gk.icmpYes X153 hx (hb hby at_103) (feq hc103).2 136 (by decide) (by decide) ?_
            refine Gk.iconst X153 hx (hb hby at_136) (0 : Int32) rfl ?_
            refine Gk.istore X153 hx (hb hby at_137) #[.val (.int p1), .val (.int p2), .val (.int p3), .val (.int p4), .val (.int p5), .val (.int p6), .val (.int (4 : Int32)), .val (.int (0 : Int32)), .val (.ref b1), .val (.ref sa), .val (.int (0 : Int32))] rfl ?_
            refine Gk.aload X153 hx (hb hby at_139) rfl rfl ?_
            refine Gk.iload X153 hx (hb hby at_141) rfl ?_
            have H184 := (H154.keep K153 all0)
            have H185 := (((H34.keep K32 all0).wr W38).keep K153 all0)
            have R187_ := R32_.trans (CHr.wr W38 sf38 R32_.1)
            have R188_ := R187_.trans (CHr.keep K153 (fun _ q_ => absurd q_ (List.not_mem_nil)) R187_.1)
            refine Gk.callSH (s := s) (argsL := [(.ref sa), (.int (0 : Int32))]) X153 hx Z32_ o32_ (ie_0_0 l Z a0 T153.heap n0 hw sa sb ks fs (4 : Int32) d0 d1 d2 w_COMPACT_STRINGS w_SIOOBE_FORMATTER (Nat.le_trans Z0 (Nat.le_trans gr158 K153.1)) H184 H185 Es Fcs Fvs Vs (by decide) (by decide) (by decide) (by decide) (by rw [efs]; rfl) (by rw [efs]; rfl) (by rw [efs]; rfl) hle0 hle1 hle2 hd0 hd1 hd2 hcs hsf) (W hw 37 rfl) (W hw 38 rfl) (W hw 39 rfl) (W hw 40 rfl) (by decide) rfl S32_ (Nat.le_trans q32_ (Nat.le_trans (Keep.of_wr W38).1 K153.1)) (own_EW hw) R188_.1 pd_22 rfl rfl rfl (by rw [hml]; rfl) rfl (hb hby at_143) ?_
            intro T183 L183 v183 kS183 X183 S183_ q183_ Z183_ o183_ C183_ hQ183
            have R183_ := R188_.trans C183_
            obtain ⟨rfl, N183q, K183⟩ := hQ183
            have N183 := Fr.app N153 N183q
            rw [show isEsc d0 d1 d2 = (0 : Int32) from if_neg (fun q_ => hc103 q_.1)]
            show Go p e below (T183.setTop (mkF m 146 _ [(.int (0 : Int32))])) _
            refine Gk.iload X183 hx (hb hby at_146) rfl ?_
            refine Gk.icmpNo X183 hx (hb hby at_148) (teq (by decide : (0 : Int32) = (0 : Int32))).2 ?_
            refine Gk.iconst X183 hx (hb hby at_151) (1 : Int32) rfl ?_
            refine Gk.goto X183 hx (hb hby at_152) 156 (by decide) (by decide) ?_
            exact Gk.rNL (s := s) X183 hx Bd.returns (by simp) Bd.notSynchronized (hb hby at_156) rfl S183_ (Nat.le_trans q183_ (Nat.le_refl _)) (1 : Int32) rfl ⟨rfl, N183⟩
        · show Go p e below (T153.setTop (mkF m 96 #[.val (.int p1), .val (.int p2), .val (.int p3), .val (.int p4), .val (.int p5), .val (.int p6), .val (.int (4 : Int32)), .val (.int atv), .val (.ref b1), .val (.ref sa), .unset] [])) _
          rw [hka]
          refine Gk.aload X153 hx (hb hby at_96) rfl rfl ?_
          refine Gk.iload X153 hx (hb hby at_98) rfl ?_
          have H190 := (V38.keep K153 nin0)
          refine Gk.caload X153 hx Z32_ rfl H190 ⟨by decide, by decide⟩ (.int d1) rfl (hb hby at_100) ?_
          refine Gk.bipush X153 hx (hb hby at_101) (37 : Int32) rfl ?_
          by_cases hc103 : d1 = (37 : Int32)
          · refine Gk.icmpNo X153 hx (hb hby at_103) (teq hc103).2 ?_
            refine Gk.aload X153 hx (hb hby at_106) rfl rfl ?_
            refine Gk.iload X153 hx (hb hby at_108) rfl ?_
            refine Gk.iconst X153 hx (hb hby at_110) (1 : Int32) rfl ?_
            refine Gk.iadd X153 hx (hb hby at_111) (2 : Int32) (by decide) ?_
            refine Gk.caload X153 hx Z32_ rfl H190 ⟨by decide, by decide⟩ (.int d2) rfl (hb hby at_112) ?_
            refine Gk.callS (argsL := [(.int d2)]) X153 hx Z32_ o32_ (ishex l Z a0 T153.heap n0 hw d2 (Nat.le_trans Z0 (Nat.le_trans gr158 K153.1))) (W hw 108 rfl) (W hw 109 rfl) (W hw 3 rfl) (W hw 110 rfl) (by decide) rfl pd_23 rfl rfl rfl (by rw [hml]; rfl) rfl (hb hby at_113) ?_
            intro T192 L192 v192 X192 hQ192
            obtain ⟨rfl, N192q, e192⟩ := hQ192
            have N192 := Fr.app N153 N192q
            show Go p e below (T192.setTop (mkF m 116 _ [(.int (hexB d2))])) _
            by_cases hc116 : (hexB d2) = (0 : Int32)
            · refine Gk.ifYes X192 hx (hb hby at_116) (teq hc116).1 136 (by decide) (by decide) ?_
              refine Gk.iconst X192 hx (hb hby at_136) (0 : Int32) rfl ?_
              refine Gk.istore X192 hx (hb hby at_137) #[.val (.int p1), .val (.int p2), .val (.int p3), .val (.int p4), .val (.int p5), .val (.int p6), .val (.int (4 : Int32)), .val (.int (1 : Int32)), .val (.ref b1), .val (.ref sa), .val (.int (0 : Int32))] rfl ?_
              refine Gk.aload X192 hx (hb hby at_139) rfl rfl ?_
              refine Gk.iload X192 hx (hb hby at_141) rfl ?_
              have H194 := (H154.keep K153 all0)
              have H195 := (((H34.keep K32 all0).wr W38).keep K153 all0)
              have R197_ := R32_.trans (CHr.wr W38 sf38 R32_.1)
              have R198_ := R197_.trans (CHr.keep K153 (fun _ q_ => absurd q_ (List.not_mem_nil)) R197_.1)
              refine Gk.callSH (s := s) (argsL := [(.ref sa), (.int (1 : Int32))]) X192 hx Z32_ o32_ (ie_0_1 l Z a0 T153.heap n0 hw sa sb ks fs (4 : Int32) d1 d2 d3 w_COMPACT_STRINGS w_SIOOBE_FORMATTER (Nat.le_trans Z0 (Nat.le_trans gr158 K153.1)) H194 H195 Es Fcs Fvs Vs (by decide) (by decide) (by decide) (by decide) (by rw [efs]; rfl) (by rw [efs]; rfl) (by rw [efs]; rfl) hle1 hle2 hle3 hd1 hd2 hd3 hcs hsf) (W hw 37 rfl) (W hw 38 rfl) (W hw 39 rfl) (W hw 40 rfl) (by decide) e192 S32_ (Nat.le_trans q32_ (Nat.le_trans (Keep.of_wr W38).1 K153.1)) (own_EW hw) R198_.1 pd_22 rfl rfl rfl (by rw [hml]; rfl) rfl (hb hby at_143) ?_
              intro T193 L193 v193 kS193 X193 S193_ q193_ Z193_ o193_ C193_ hQ193
              have R193_ := R198_.trans C193_
              obtain ⟨rfl, N193q, K193⟩ := hQ193
              have N193 := Fr.app N192 N193q
              rw [show isEsc d1 d2 d3 = (0 : Int32) from if_neg (fun q_ => absurd (q_.2.1.symm.trans hc116) (by decide))]
              show Go p e below (T193.setTop (mkF m 146 _ [(.int (0 : Int32))])) _
              refine Gk.iload X193 hx (hb hby at_146) rfl ?_
              refine Gk.icmpNo X193 hx (hb hby at_148) (teq (by decide : (0 : Int32) = (0 : Int32))).2 ?_
              refine Gk.iconst X193 hx (hb hby at_151) (1 : Int32) rfl ?_
              refine Gk.goto X193 hx (hb hby at_152) 156 (by decide) (by decide) ?_
              exact Gk.rNL (s := s) X193 hx Bd.returns (by simp) Bd.notSynchronized (hb hby at_156) rfl S193_ (Nat.le_trans q193_ (Nat.le_refl _)) (1 : Int32) rfl ⟨rfl, N193⟩
            · refine Gk.ifNo X192 hx (hb hby at_116) (feq hc116).1 ?_
              refine Gk.aload X192 hx (hb hby at_119) rfl rfl ?_
              refine Gk.iload X192 hx (hb hby at_121) rfl ?_
              refine Gk.iconst X192 hx (hb hby at_123) (2 : Int32) rfl ?_
              refine Gk.iadd X192 hx (hb hby at_124) (3 : Int32) (by decide) ?_
              refine Gk.caload X192 hx Z32_ e192 H190 ⟨by decide, by decide⟩ (.int d3) rfl (hb hby at_125) ?_
              refine Gk.callS (argsL := [(.int d3)]) X192 hx Z32_ o32_ (ishex l Z a0 T153.heap n0 hw d3 (Nat.le_trans Z0 (Nat.le_trans gr158 K153.1))) (W hw 108 rfl) (W hw 109 rfl) (W hw 3 rfl) (W hw 110 rfl) (by decide) e192 pd_23 rfl rfl rfl (by rw [hml]; rfl) rfl (hb hby at_126) ?_
              intro T200 L200 v200 X200 hQ200
              obtain ⟨rfl, N200q, e200⟩ := hQ200
              have N200 := Fr.app N192 N200q
              show Go p e below (T200.setTop (mkF m 129 _ [(.int (hexB d3))])) _
              by_cases hc129 : (hexB d3) = (0 : Int32)
              · refine Gk.ifYes X200 hx (hb hby at_129) (teq hc129).1 136 (by decide) (by decide) ?_
                refine Gk.iconst X200 hx (hb hby at_136) (0 : Int32) rfl ?_
                refine Gk.istore X200 hx (hb hby at_137) #[.val (.int p1), .val (.int p2), .val (.int p3), .val (.int p4), .val (.int p5), .val (.int p6), .val (.int (4 : Int32)), .val (.int (1 : Int32)), .val (.ref b1), .val (.ref sa), .val (.int (0 : Int32))] rfl ?_
                refine Gk.aload X200 hx (hb hby at_139) rfl rfl ?_
                refine Gk.iload X200 hx (hb hby at_141) rfl ?_
                have H202 := (H154.keep K153 all0)
                have H203 := (((H34.keep K32 all0).wr W38).keep K153 all0)
                have R205_ := R32_.trans (CHr.wr W38 sf38 R32_.1)
                have R206_ := R205_.trans (CHr.keep K153 (fun _ q_ => absurd q_ (List.not_mem_nil)) R205_.1)
                refine Gk.callSH (s := s) (argsL := [(.ref sa), (.int (1 : Int32))]) X200 hx Z32_ o32_ (ie_0_1 l Z a0 T153.heap n0 hw sa sb ks fs (4 : Int32) d1 d2 d3 w_COMPACT_STRINGS w_SIOOBE_FORMATTER (Nat.le_trans Z0 (Nat.le_trans gr158 K153.1)) H202 H203 Es Fcs Fvs Vs (by decide) (by decide) (by decide) (by decide) (by rw [efs]; rfl) (by rw [efs]; rfl) (by rw [efs]; rfl) hle1 hle2 hle3 hd1 hd2 hd3 hcs hsf) (W hw 37 rfl) (W hw 38 rfl) (W hw 39 rfl) (W hw 40 rfl) (by decide) e200 S32_ (Nat.le_trans q32_ (Nat.le_trans (Keep.of_wr W38).1 K153.1)) (own_EW hw) R206_.1 pd_22 rfl rfl rfl (by rw [hml]; rfl) rfl (hb hby at_143) ?_
                intro T201 L201 v201 kS201 X201 S201_ q201_ Z201_ o201_ C201_ hQ201
                have R201_ := R206_.trans C201_
                obtain ⟨rfl, N201q, K201⟩ := hQ201
                have N201 := Fr.app N200 N201q
                rw [show isEsc d1 d2 d3 = (0 : Int32) from if_neg (fun q_ => absurd (q_.2.2.symm.trans hc129) (by decide))]
                show Go p e below (T201.setTop (mkF m 146 _ [(.int (0 : Int32))])) _
                refine Gk.iload X201 hx (hb hby at_146) rfl ?_
                refine Gk.icmpNo X201 hx (hb hby at_148) (teq (by decide : (0 : Int32) = (0 : Int32))).2 ?_
                refine Gk.iconst X201 hx (hb hby at_151) (1 : Int32) rfl ?_
                refine Gk.goto X201 hx (hb hby at_152) 156 (by decide) (by decide) ?_
                exact Gk.rNL (s := s) X201 hx Bd.returns (by simp) Bd.notSynchronized (hb hby at_156) rfl S201_ (Nat.le_trans q201_ (Nat.le_refl _)) (1 : Int32) rfl ⟨rfl, N201⟩
              · refine Gk.ifNo X200 hx (hb hby at_129) (feq hc129).1 ?_
                refine Gk.iconst X200 hx (hb hby at_132) (1 : Int32) rfl ?_
                refine Gk.goto X200 hx (hb hby at_133) 137 (by decide) (by decide) ?_
                refine Gk.istore X200 hx (hb hby at_137) #[.val (.int p1), .val (.int p2), .val (.int p3), .val (.int p4), .val (.int p5), .val (.int p6), .val (.int (4 : Int32)), .val (.int (1 : Int32)), .val (.ref b1), .val (.ref sa), .val (.int (1 : Int32))] rfl ?_
                refine Gk.aload X200 hx (hb hby at_139) rfl rfl ?_
                refine Gk.iload X200 hx (hb hby at_141) rfl ?_
                have H208 := (H154.keep K153 all0)
                have H209 := (((H34.keep K32 all0).wr W38).keep K153 all0)
                have R211_ := R32_.trans (CHr.wr W38 sf38 R32_.1)
                have R212_ := R211_.trans (CHr.keep K153 (fun _ q_ => absurd q_ (List.not_mem_nil)) R211_.1)
                refine Gk.callSH (s := s) (argsL := [(.ref sa), (.int (1 : Int32))]) X200 hx Z32_ o32_ (ie_0_1 l Z a0 T153.heap n0 hw sa sb ks fs (4 : Int32) d1 d2 d3 w_COMPACT_STRINGS w_SIOOBE_FORMATTER (Nat.le_trans Z0 (Nat.le_trans gr158 K153.1)) H208 H209 Es Fcs Fvs Vs (by decide) (by decide) (by decide) (by decide) (by rw [efs]; rfl) (by rw [efs]; rfl) (by rw [efs]; rfl) hle1 hle2 hle3 hd1 hd2 hd3 hcs hsf) (W hw 37 rfl) (W hw 38 rfl) (W hw 39 rfl) (W hw 40 rfl) (by decide) e200 S32_ (Nat.le_trans q32_ (Nat.le_trans (Keep.of_wr W38).1 K153.1)) (own_EW hw) R212_.1 pd_22 rfl rfl rfl (by rw [hml]; rfl) rfl (hb hby at_143) ?_
                intro T207 L207 v207 kS207 X207 S207_ q207_ Z207_ o207_ C207_ hQ207
                have R207_ := R212_.trans C207_
                obtain ⟨rfl, N207q, K207⟩ := hQ207
                have N207 := Fr.app N200 N207q
                rw [show isEsc d1 d2 d3 = (1 : Int32) from if_pos ⟨hc103, (hexB_01 _).resolve_left hc116, (hexB_01 _).resolve_left hc129⟩]
                show Go p e below (T207.setTop (mkF m 146 _ [(.int (1 : Int32))])) _
                refine Gk.iload X207 hx (hb hby at_146) rfl ?_
                refine Gk.icmpNo X207 hx (hb hby at_148) (teq (by decide : (1 : Int32) = (1 : Int32))).2 ?_
                refine Gk.iconst X207 hx (hb hby at_151) (1 : Int32) rfl ?_
                refine Gk.goto X207 hx (hb hby at_152) 156 (by decide) (by decide) ?_
                exact Gk.rNL (s := s) X207 hx Bd.returns (by simp) Bd.notSynchronized (hb hby at_156) rfl S207_ (Nat.le_trans q207_ (Nat.le_refl _)) (1 : Int32) rfl ⟨rfl, N207⟩
          · refine Gk.icmpYes X153 hx (hb hby at_103) (feq hc103).2 136 (by decide) (by decide) ?_
            refine Gk.iconst X153 hx (hb hby at_136) (0 : Int32) rfl ?_
            refine Gk.istore X153 hx (hb hby at_137) #[.val (.int p1), .val (.int p2), .val (.int p3), .val (.int p4), .val (.int p5), .val (.int p6), .val (.int (4 : Int32)), .val (.int (1 : Int32)), .val (.ref b1), .val (.ref sa), .val (.int (0 : Int32))] rfl ?_
            refine Gk.aload X153 hx (hb hby at_139) rfl rfl ?_
            refine Gk.iload X153 hx (hb hby at_141) rfl ?_
            have H214 := (H154.keep K153 all0)
            have H215 := (((H34.keep K32 all0).wr W38).keep K153 all0)
            have R217_ := R32_.trans (CHr.wr W38 sf38 R32_.1)
            have R218_ := R217_.trans (CHr.keep K153 (fun _ q_ => absurd q_ (List.not_mem_nil)) R217_.1)
            refine Gk.callSH (s := s) (argsL := [(.ref sa), (.int (1 : Int32))]) X153 hx Z32_ o32_ (ie_0_1 l Z a0 T153.heap n0 hw sa sb ks fs (4 : Int32) d1 d2 d3 w_COMPACT_STRINGS w_SIOOBE_FORMATTER (Nat.le_trans Z0 (Nat.le_trans gr158 K153.1)) H214 H215 Es Fcs Fvs Vs (by decide) (by decide) (by decide) (by decide) (by rw [efs]; rfl) (by rw [efs]; rfl) (by rw [efs]; rfl) hle1 hle2 hle3 hd1 hd2 hd3 hcs hsf) (W hw 37 rfl) (W hw 38 rfl) (W hw 39 rfl) (W hw 40 rfl) (by decide) rfl S32_ (Nat.le_trans q32_ (Nat.le_trans (Keep.of_wr W38).1 K153.1)) (own_EW hw) R218_.1 pd_22 rfl rfl rfl (by rw [hml]; rfl) rfl (hb hby at_143) ?_
            intro T213 L213 v213 kS213 X213 S213_ q213_ Z213_ o213_ C213_ hQ213
            have R213_ := R218_.trans C213_
            obtain ⟨rfl, N213q, K213⟩ := hQ213
            have N213 := Fr.app N153 N213q
            rw [show isEsc d1 d2 d3 = (0 : Int32) from if_neg (fun q_ => hc103 q_.1)]
            show Go p e below (T213.setTop (mkF m 146 _ [(.int (0 : Int32))])) _
            refine Gk.iload X213 hx (hb hby at_146) rfl ?_
            refine Gk.icmpNo X213 hx (hb hby at_148) (teq (by decide : (0 : Int32) = (0 : Int32))).2 ?_
            refine Gk.iconst X213 hx (hb hby at_151) (1 : Int32) rfl ?_
            refine Gk.goto X213 hx (hb hby at_152) 156 (by decide) (by decide) ?_
            exact Gk.rNL (s := s) X213 hx Bd.returns (by simp) Bd.notSynchronized (hb hby at_156) rfl S213_ (Nat.le_trans q213_ (Nat.le_refl _)) (1 : Int32) rfl ⟨rfl, N213⟩
      · refine Gk.icmpYes X153 hx (hb hby at_93) (flt hc93).2.1 136 (by decide) (by decide) ?_
        refine Gk.iconst X153 hx (hb hby at_136) (0 : Int32) rfl ?_
        refine Gk.istore X153 hx (hb hby at_137) #[.val (.int p1), .val (.int p2), .val (.int p3), .val (.int p4), .val (.int p5), .val (.int p6), .val (.int (4 : Int32)), .val (.int atv), .val (.ref b1), .val (.ref sa), .val (.int (0 : Int32))] rfl ?_
        refine Gk.aload X153 hx (hb hby at_139) rfl rfl ?_
        refine Gk.iload X153 hx (hb hby at_141) rfl ?_
        have H220 := (H154.keep K153 all0)
        refine Gk.callS (argsL := [(.ref sa), (.int atv)]) X153 hx Z32_ o32_ (ie0_0 l Z a0 T153.heap n0 hw sa atv sb ks fs (4 : Int32) w_COMPACT_STRINGS (Nat.le_trans Z0 (Nat.le_trans gr158 K153.1)) H220 Es Fcs Fvs Vs (by rw [show ((4 : Int32) >>> ((0 : Int32) &&& 31)) = (4 : Int32) from by decide]; exact hc93) hcs) (W hw 37 rfl) (W hw 38 rfl) (W hw 39 rfl) (W hw 40 rfl) (by decide) rfl pd_22 rfl rfl rfl (by rw [hml]; rfl) rfl (hb hby at_143) ?_
        intro T219 L219 v219 X219 hQ219
        obtain ⟨rfl, N219q, e219⟩ := hQ219
        have N219 := Fr.app N153 N219q
        show Go p e below (T219.setTop (mkF m 146 _ [(.int (0 : Int32))])) _
        refine Gk.iload X219 hx (hb hby at_146) rfl ?_
        refine Gk.icmpNo X219 hx (hb hby at_148) (teq (by decide : (0 : Int32) = (0 : Int32))).2 ?_
        refine Gk.iconst X219 hx (hb hby at_151) (1 : Int32) rfl ?_
        refine Gk.goto X219 hx (hb hby at_152) 156 (by decide) (by decide) ?_
        exact Gk.rNL (s := s) X219 hx Bd.returns (by simp) Bd.notSynchronized (hb hby at_156) e219 S32_ (Nat.le_trans q32_ (Nat.le_trans (Keep.of_wr W38).1 K153.1)) (1 : Int32) rfl ⟨rfl, N219⟩
    · show Go p e below (T153.setTop (mkF m 85 #[.val (.int p1), .val (.int p2), .val (.int p3), .val (.int p4), .val (.int p5), .val (.int p6), .val (.int (4 : Int32)), .val (.int atv), .val (.ref b1), .unset, .unset] [(.ref sa)])) _
      obtain ⟨fs, efs⟩ : ∃ z_ : Nat → Value, z_ = (upd (upd (upd (upd (upd (upd (upd (upd (fun _ => (.int (0 : Int32))) 0 (.int ((d0 >>> ((0 : Int32) &&& 31)).toInt8.toInt32))) 1 (.int ((d0 >>> ((8 : Int32) &&& 31)).toInt8.toInt32))) 2 (.int ((d1 >>> ((0 : Int32) &&& 31)).toInt8.toInt32))) 3 (.int ((d1 >>> ((8 : Int32) &&& 31)).toInt8.toInt32))) 4 (.int ((d2 >>> ((0 : Int32) &&& 31)).toInt8.toInt32))) 5 (.int ((d2 >>> ((8 : Int32) &&& 31)).toInt8.toInt32))) 6 (.int ((d3 >>> ((0 : Int32) &&& 31)).toInt8.toInt32))) 7 (.int ((d3 >>> ((8 : Int32) &&& 31)).toInt8.toInt32))) := ⟨_, rfl⟩
      rw [← efs] at Vs
      refine Gk.astore X153 hx (hb hby at_85) rfl #[.val (.int p1), .val (.int p2), .val (.int p3), .val (.int p4), .val (.int p5), .val (.int p6), .val (.int (4 : Int32)), .val (.int atv), .val (.ref b1), .val (.ref sa), .unset] rfl ?_
      refine Gk.iload X153 hx (hb hby at_87) rfl ?_
      refine Gk.iconst X153 hx (hb hby at_89) (2 : Int32) rfl ?_
      refine Gk.iadd X153 hx (hb hby at_90) _ rfl ?_
      refine Gk.iload X153 hx (hb hby at_91) rfl ?_
      by_cases hc93 : (atv + (2 : Int32)) < (4 : Int32)
      · refine Gk.icmpNo X153 hx (hb hby at_93) (tlt hc93).2.1 ?_
        rcases own_at4 (own_at7 eatv) hc93 with hka | hka
        · show Go p e below (T153.setTop (mkF m 96 #[.val (.int p1), .val (.int p2), .val (.int p3), .val (.int p4), .val (.int p5), .val (.int p6), .val (.int (4 : Int32)), .val (.int atv), .val (.ref b1), .val (.ref sa), .unset] [])) _
          rw [hka]
          refine Gk.aload X153 hx (hb hby at_96) rfl rfl ?_
          refine Gk.iload X153 hx (hb hby at_98) rfl ?_
          have H222 := (V38.keep K153 nin0)
          refine Gk.caload X153 hx Z32_ rfl H222 ⟨by decide, by decide⟩ (.int d0) rfl (hb hby at_100) ?_
          refine Gk.bipush X153 hx (hb hby at_101) (37 : Int32) rfl ?_
          by_cases hc103 : d0 = (37 : Int32)
          · refine Gk.icmpNo X153 hx (hb hby at_103) (teq hc103).2 ?_
            refine Gk.aload X153 hx (hb hby at_106) rfl rfl ?_
            refine Gk.iload X153 hx (hb hby at_108) rfl ?_
            refine Gk.iconst X153 hx (hb hby at_110) (1 : Int32) rfl ?_
            refine Gk.iadd X153 hx (hb hby at_111) (1 : Int32) (by decide) ?_
            refine Gk.caload X153 hx Z32_ rfl H222 ⟨by decide, by decide⟩ (.int d1) rfl (hb hby at_112) ?_
            refine Gk.callS (argsL := [(.int d1)]) X153 hx Z32_ o32_ (ishex l Z a0 T153.heap n0 hw d1 (Nat.le_trans Z0 (Nat.le_trans gr158 K153.1))) (W hw 108 rfl) (W hw 109 rfl) (W hw 3 rfl) (W hw 110 rfl) (by decide) rfl pd_23 rfl rfl rfl (by rw [hml]; rfl) rfl (hb hby at_113) ?_
            intro T224 L224 v224 X224 hQ224
            obtain ⟨rfl, N224q, e224⟩ := hQ224
            have N224 := Fr.app N153 N224q
            show Go p e below (T224.setTop (mkF m 116 _ [(.int (hexB d1))])) _
            by_cases hc116 : (hexB d1) = (0 : Int32)
            · refine Gk.ifYes X224 hx (hb hby at_116) (teq hc116).1 136 (by decide) (by decide) ?_
              refine Gk.iconst X224 hx (hb hby at_136) (0 : Int32) rfl ?_
              refine Gk.istore X224 hx (hb hby at_137) #[.val (.int p1), .val (.int p2), .val (.int p3), .val (.int p4), .val (.int p5), .val (.int p6), .val (.int (4 : Int32)), .val (.int (0 : Int32)), .val (.ref b1), .val (.ref sa), .val (.int (0 : Int32))] rfl ?_
              refine Gk.aload X224 hx (hb hby at_139) rfl rfl ?_
              refine Gk.iload X224 hx (hb hby at_141) rfl ?_
              have H226 := (H154.keep K153 all0)
              have H227 := (((H34.keep K32 all0).wr W38).keep K153 all0)
              have H228 := (H155.keep K153 all0)
              have H229 := (H156.keep K153 all0)
              have H230 := (H157.keep K153 all0)
              have R232_ := R32_.trans (CHr.wr W38 sf38 R32_.1)
              have R233_ := R232_.trans (CHr.keep K153 (fun _ q_ => absurd q_ (List.not_mem_nil)) R232_.1)
              refine Gk.callSH (s := s) (argsL := [(.ref sa), (.int (0 : Int32))]) X224 hx Z32_ o32_ (ie_1_0 l Z a0 T153.heap n0 hw sa sb ks fs (8 : Int32) d0 d1 d2 w_COMPACT_STRINGS w_SIOOBE_FORMATTER (Nat.le_trans Z0 (Nat.le_trans gr158 K153.1)) H226 H227 H228 H229 H230 Es Fcs Fvs Vs (by decide) (by decide) (by decide) (by decide) (by decide) (by decide) (by decide) (by decide) (by decide) (by decide) (by rw [efs]; rfl) (by rw [efs]; rfl) (by rw [efs]; rfl) (by rw [efs]; rfl) (by rw [efs]; rfl) (by rw [efs]; rfl) hd0 hd1 hd2 hcs hsf) (W hw 37 rfl) (W hw 38 rfl) (W hw 39 rfl) (W hw 40 rfl) (by decide) e224 S32_ (Nat.le_trans q32_ (Nat.le_trans (Keep.of_wr W38).1 K153.1)) (own_EW hw) R233_.1 pd_22 rfl rfl rfl (by rw [hml]; rfl) rfl (hb hby at_143) ?_
              intro T225 L225 v225 kS225 X225 S225_ q225_ Z225_ o225_ C225_ hQ225
              have R225_ := R233_.trans C225_
              obtain ⟨rfl, N225q, K225⟩ := hQ225
              have N225 := Fr.app N224 N225q
              rw [show isEsc d0 d1 d2 = (0 : Int32) from if_neg (fun q_ => absurd (q_.2.1.symm.trans hc116) (by decide))]
              show Go p e below (T225.setTop (mkF m 146 _ [(.int (0 : Int32))])) _
              refine Gk.iload X225 hx (hb hby at_146) rfl ?_
              refine Gk.icmpNo X225 hx (hb hby at_148) (teq (by decide : (0 : Int32) = (0 : Int32))).2 ?_
              refine Gk.iconst X225 hx (hb hby at_151) (1 : Int32) rfl ?_
              refine Gk.goto X225 hx (hb hby at_152) 156 (by decide) (by decide) ?_
              exact Gk.rNL (s := s) X225 hx Bd.returns (by simp) Bd.notSynchronized (hb hby at_156) rfl S225_ (Nat.le_trans q225_ (Nat.le_refl _)) (1 : Int32) rfl ⟨rfl, N225⟩
            · refine Gk.ifNo X224 hx (hb hby at_116) (feq hc116).1 ?_
              refine Gk.aload X224 hx (hb hby at_119) rfl rfl ?_
              refine Gk.iload X224 hx (hb hby at_121) rfl ?_
              refine Gk.iconst X224 hx (hb hby at_123) (2 : Int32) rfl ?_
              refine Gk.iadd X224 hx (hb hby at_124) (2 : Int32) (by decide) ?_
              refine Gk.caload X224 hx Z32_ e224 H222 ⟨by decide, by decide⟩ (.int d2) rfl (hb hby at_125) ?_
              refine Gk.callS (argsL := [(.int d2)]) X224 hx Z32_ o32_ (ishex l Z a0 T153.heap n0 hw d2 (Nat.le_trans Z0 (Nat.le_trans gr158 K153.1))) (W hw 108 rfl) (W hw 109 rfl) (W hw 3 rfl) (W hw 110 rfl) (by decide) e224 pd_23 rfl rfl rfl (by rw [hml]; rfl) rfl (hb hby at_126) ?_
              intro T235 L235 v235 X235 hQ235
              obtain ⟨rfl, N235q, e235⟩ := hQ235
              have N235 := Fr.app N224 N235q
              show Go p e below (T235.setTop (mkF m 129 _ [(.int (hexB d2))])) _
              by_cases hc129 : (hexB d2) = (0 : Int32)
              · refine Gk.ifYes X235 hx (hb hby at_129) (teq hc129).1 136 (by decide) (by decide) ?_
                refine Gk.iconst X235 hx (hb hby at_136) (0 : Int32) rfl ?_
                refine Gk.istore X235 hx (hb hby at_137) #[.val (.int p1), .val (.int p2), .val (.int p3), .val (.int p4), .val (.int p5), .val (.int p6), .val (.int (4 : Int32)), .val (.int (0 : Int32)), .val (.ref b1), .val (.ref sa), .val (.int (0 : Int32))] rfl ?_
                refine Gk.aload X235 hx (hb hby at_139) rfl rfl ?_
                refine Gk.iload X235 hx (hb hby at_141) rfl ?_
                have H237 := (H154.keep K153 all0)
                have H238 := (((H34.keep K32 all0).wr W38).keep K153 all0)
                have H239 := (H155.keep K153 all0)
                have H240 := (H156.keep K153 all0)
                have H241 := (H157.keep K153 all0)
                have R243_ := R32_.trans (CHr.wr W38 sf38 R32_.1)
                have R244_ := R243_.trans (CHr.keep K153 (fun _ q_ => absurd q_ (List.not_mem_nil)) R243_.1)
                refine Gk.callSH (s := s) (argsL := [(.ref sa), (.int (0 : Int32))]) X235 hx Z32_ o32_ (ie_1_0 l Z a0 T153.heap n0 hw sa sb ks fs (8 : Int32) d0 d1 d2 w_COMPACT_STRINGS w_SIOOBE_FORMATTER (Nat.le_trans Z0 (Nat.le_trans gr158 K153.1)) H237 H238 H239 H240 H241 Es Fcs Fvs Vs (by decide) (by decide) (by decide) (by decide) (by decide) (by decide) (by decide) (by decide) (by decide) (by decide) (by rw [efs]; rfl) (by rw [efs]; rfl) (by rw [efs]; rfl) (by rw [efs]; rfl) (by rw [efs]; rfl) (by rw [efs]; rfl) hd0 hd1 hd2 hcs hsf) (W hw 37 rfl) (W hw 38 rfl) (W hw 39 rfl) (W hw 40 rfl) (by decide) e235 S32_ (Nat.le_trans q32_ (Nat.le_trans (Keep.of_wr W38).1 K153.1)) (own_EW hw) R244_.1 pd_22 rfl rfl rfl (by rw [hml]; rfl) rfl (hb hby at_143) ?_
                intro T236 L236 v236 kS236 X236 S236_ q236_ Z236_ o236_ C236_ hQ236
                have R236_ := R244_.trans C236_
                obtain ⟨rfl, N236q, K236⟩ := hQ236
                have N236 := Fr.app N235 N236q
                rw [show isEsc d0 d1 d2 = (0 : Int32) from if_neg (fun q_ => absurd (q_.2.2.symm.trans hc129) (by decide))]
                show Go p e below (T236.setTop (mkF m 146 _ [(.int (0 : Int32))])) _
                refine Gk.iload X236 hx (hb hby at_146) rfl ?_
                refine Gk.icmpNo X236 hx (hb hby at_148) (teq (by decide : (0 : Int32) = (0 : Int32))).2 ?_
                refine Gk.iconst X236 hx (hb hby at_151) (1 : Int32) rfl ?_
                refine Gk.goto X236 hx (hb hby at_152) 156 (by decide) (by decide) ?_
                exact Gk.rNL (s := s) X236 hx Bd.returns (by simp) Bd.notSynchronized (hb hby at_156) rfl S236_ (Nat.le_trans q236_ (Nat.le_refl _)) (1 : Int32) rfl ⟨rfl, N236⟩
              · refine Gk.ifNo X235 hx (hb hby at_129) (feq hc129).1 ?_
                refine Gk.iconst X235 hx (hb hby at_132) (1 : Int32) rfl ?_
                refine Gk.goto X235 hx (hb hby at_133) 137 (by decide) (by decide) ?_
                refine Gk.istore X235 hx (hb hby at_137) #[.val (.int p1), .val (.int p2), .val (.int p3), .val (.int p4), .val (.int p5), .val (.int p6), .val (.int (4 : Int32)), .val (.int (0 : Int32)), .val (.ref b1), .val (.ref sa), .val (.int (1 : Int32))] rfl ?_
                refine Gk.aload X235 hx (hb hby at_139) rfl rfl ?_
                refine Gk.iload X235 hx (hb hby at_141) rfl ?_
                have H246 := (H154.keep K153 all0)
                have H247 := (((H34.keep K32 all0).wr W38).keep K153 all0)
                have H248 := (H155.keep K153 all0)
                have H249 := (H156.keep K153 all0)
                have H250 := (H157.keep K153 all0)
                have R252_ := R32_.trans (CHr.wr W38 sf38 R32_.1)
                have R253_ := R252_.trans (CHr.keep K153 (fun _ q_ => absurd q_ (List.not_mem_nil)) R252_.1)
                refine Gk.callSH (s := s) (argsL := [(.ref sa), (.int (0 : Int32))]) X235 hx Z32_ o32_ (ie_1_0 l Z a0 T153.heap n0 hw sa sb ks fs (8 : Int32) d0 d1 d2 w_COMPACT_STRINGS w_SIOOBE_FORMATTER (Nat.le_trans Z0 (Nat.le_trans gr158 K153.1)) H246 H247 H248 H249 H250 Es Fcs Fvs Vs (by decide) (by decide) (by decide) (by decide) (by decide) (by decide) (by decide) (by decide) (by decide) (by decide) (by rw [efs]; rfl) (by rw [efs]; rfl) (by rw [efs]; rfl) (by rw [efs]; rfl) (by rw [efs]; rfl) (by rw [efs]; rfl) hd0 hd1 hd2 hcs hsf) (W hw 37 rfl) (W hw 38 rfl) (W hw 39 rfl) (W hw 40 rfl) (by decide) e235 S32_ (Nat.le_trans q32_ (Nat.le_trans (Keep.of_wr W38).1 K153.1)) (own_EW hw) R253_.1 pd_22 rfl rfl rfl (by rw [hml]; rfl) rfl (hb hby at_143) ?_
                intro T245 L245 v245 kS245 X245 S245_ q245_ Z245_ o245_ C245_ hQ245
                have R245_ := R253_.trans C245_
                obtain ⟨rfl, N245q, K245⟩ := hQ245
                have N245 := Fr.app N235 N245q
                rw [show isEsc d0 d1 d2 = (1 : Int32) from if_pos ⟨hc103, (hexB_01 _).resolve_left hc116, (hexB_01 _).resolve_left hc129⟩]
                show Go p e below (T245.setTop (mkF m 146 _ [(.int (1 : Int32))])) _
                refine Gk.iload X245 hx (hb hby at_146) rfl ?_
                refine Gk.icmpNo X245 hx (hb hby at_148) (teq (by decide : (1 : Int32) = (1 : Int32))).2 ?_
                refine Gk.iconst X245 hx (hb hby at_151) (1 : Int32) rfl ?_
                refine Gk.goto X245 hx (hb hby at_152) 156 (by decide) (by decide) ?_
                exact Gk.rNL (s := s) X245 hx Bd.returns (by simp) Bd.notSynchronized (hb hby at_156) rfl S245_ (Nat.le_trans q245_ (Nat.le_refl _)) (1 : Int32) rfl ⟨rfl, N245⟩
          · refine Gk.icmpYes X153 hx (hb hby at_103) (feq hc103).2 136 (by decide) (by decide) ?_
            refine Gk.iconst X153 hx (hb hby at_136) (0 : Int32) rfl ?_
            refine Gk.istore X153 hx (hb hby at_137) #[.val (.int p1), .val (.int p2), .val (.int p3), .val (.int p4), .val (.int p5), .val (.int p6), .val (.int (4 : Int32)), .val (.int (0 : Int32)), .val (.ref b1), .val (.ref sa), .val (.int (0 : Int32))] rfl ?_
            refine Gk.aload X153 hx (hb hby at_139) rfl rfl ?_
            refine Gk.iload X153 hx (hb hby at_141) rfl ?_
            have H255 := (H154.keep K153 all0)
            have H256 := (((H34.keep K32 all0).wr W38).keep K153 all0)
            have H257 := (H155.keep K153 all0)
            have H258 := (H156.keep K153 all0)
            have H259 := (H157.keep K153 all0)
            have R261_ := R32_.trans (CHr.wr W38 sf38 R32_.1)
            have R262_ := R261_.trans (CHr.keep K153 (fun _ q_ => absurd q_ (List.not_mem_nil)) R261_.1)
            refine Gk.callSH (s := s) (argsL := [(.ref sa), (.int (0 : Int32))]) X153 hx Z32_ o32_ (ie_1_0 l Z a0 T153.heap n0 hw sa sb ks fs (8 : Int32) d0 d1 d2 w_COMPACT_STRINGS w_SIOOBE_FORMATTER (Nat.le_trans Z0 (Nat.le_trans gr158 K153.1)) H255 H256 H257 H258 H259 Es Fcs Fvs Vs (by decide) (by decide) (by decide) (by decide) (by decide) (by decide) (by decide) (by decide) (by decide) (by decide) (by rw [efs]; rfl) (by rw [efs]; rfl) (by rw [efs]; rfl) (by rw [efs]; rfl) (by rw [efs]; rfl) (by rw [efs]; rfl) hd0 hd1 hd2 hcs hsf) (W hw 37 rfl) (W hw 38 rfl) (W hw 39 rfl) (W hw 40 rfl) (by decide) rfl S32_ (Nat.le_trans q32_ (Nat.le_trans (Keep.of_wr W38).1 K153.1)) (own_EW hw) R262_.1 pd_22 rfl rfl rfl (by rw [hml]; rfl) rfl (hb hby at_143) ?_
            intro T254 L254 v254 kS254 X254 S254_ q254_ Z254_ o254_ C254_ hQ254
            have R254_ := R262_.trans C254_
            obtain ⟨rfl, N254q, K254⟩ := hQ254
            have N254 := Fr.app N153 N254q
            rw [show isEsc d0 d1 d2 = (0 : Int32) from if_neg (fun q_ => hc103 q_.1)]
            show Go p e below (T254.setTop (mkF m 146 _ [(.int (0 : Int32))])) _
            refine Gk.iload X254 hx (hb hby at_146) rfl ?_
            refine Gk.icmpNo X254 hx (hb hby at_148) (teq (by decide : (0 : Int32) = (0 : Int32))).2 ?_
            refine Gk.iconst X254 hx (hb hby at_151) (1 : Int32) rfl ?_
            refine Gk.goto X254 hx (hb hby at_152) 156 (by decide) (by decide) ?_
            exact Gk.rNL (s := s) X254 hx Bd.returns (by simp) Bd.notSynchronized (hb hby at_156) rfl S254_ (Nat.le_trans q254_ (Nat.le_refl _)) (1 : Int32) rfl ⟨rfl, N254⟩
        · show Go p e below (T153.setTop (mkF m 96 #[.val (.int p1), .val (.int p2), .val (.int p3), .val (.int p4), .val (.int p5), .val (.int p6), .val (.int (4 : Int32)), .val (.int atv), .val (.ref b1), .val (.ref sa), .unset] [])) _
          rw [hka]
          refine Gk.aload X153 hx (hb hby at_96) rfl rfl ?_
          refine Gk.iload X153 hx (hb hby at_98) rfl ?_
          have H264 := (V38.keep K153 nin0)
          refine Gk.caload X153 hx Z32_ rfl H264 ⟨by decide, by decide⟩ (.int d1) rfl (hb hby at_100) ?_
          refine Gk.bipush X153 hx (hb hby at_101) (37 : Int32) rfl ?_
          by_cases hc103 : d1 = (37 : Int32)
          · refine Gk.icmpNo X153 hx (hb hby at_103) (teq hc103).2 ?_
            refine Gk.aload X153 hx (hb hby at_106) rfl rfl ?_
            refine Gk.iload X153 hx (hb hby at_108) rfl ?_
            refine Gk.iconst X153 hx (hb hby at_110) (1 : Int32) rfl ?_
            refine Gk.iadd X153 hx (hb hby at_111) (2 : Int32) (by decide) ?_
            refine Gk.caload X153 hx Z32_ rfl H264 ⟨by decide, by decide⟩ (.int d2) rfl (hb hby at_112) ?_
            refine Gk.callS (argsL := [(.int d2)]) X153 hx Z32_ o32_ (ishex l Z a0 T153.heap n0 hw d2 (Nat.le_trans Z0 (Nat.le_trans gr158 K153.1))) (W hw 108 rfl) (W hw 109 rfl) (W hw 3 rfl) (W hw 110 rfl) (by decide) rfl pd_23 rfl rfl rfl (by rw [hml]; rfl) rfl (hb hby at_113) ?_
            intro T266 L266 v266 X266 hQ266
            obtain ⟨rfl, N266q, e266⟩ := hQ266
            have N266 := Fr.app N153 N266q
            show Go p e below (T266.setTop (mkF m 116 _ [(.int (hexB d2))])) _
            by_cases hc116 : (hexB d2) = (0 : Int32)
            · refine Gk.ifYes X266 hx (hb hby at_116) (teq hc116).1 136 (by decide) (by decide) ?_
              refine Gk.iconst X266 hx (hb hby at_136) (0 : Int32) rfl ?_
              refine Gk.istore X266 hx (hb hby at_137) #[.val (.int p1), .val (.int p2), .val (.int p3), .val (.int p4), .val (.int p5), .val (.int p6), .val (.int (4 : Int32)), .val (.int (1 : Int32)), .val (.ref b1), .val (.ref sa), .val (.int (0 : Int32))] rfl ?_
              refine Gk.aload X266 hx (hb hby at_139) rfl rfl ?_
              refine Gk.iload X266 hx (hb hby at_141) rfl ?_
              have H268 := (H154.keep K153 all0)
              have H269 := (((H34.keep K32 all0).wr W38).keep K153 all0)
              have H270 := (H155.keep K153 all0)
              have H271 := (H156.keep K153 all0)
              have H272 := (H157.keep K153 all0)
              have R274_ := R32_.trans (CHr.wr W38 sf38 R32_.1)
              have R275_ := R274_.trans (CHr.keep K153 (fun _ q_ => absurd q_ (List.not_mem_nil)) R274_.1)
              refine Gk.callSH (s := s) (argsL := [(.ref sa), (.int (1 : Int32))]) X266 hx Z32_ o32_ (ie_1_1 l Z a0 T153.heap n0 hw sa sb ks fs (8 : Int32) d1 d2 d3 w_COMPACT_STRINGS w_SIOOBE_FORMATTER (Nat.le_trans Z0 (Nat.le_trans gr158 K153.1)) H268 H269 H270 H271 H272 Es Fcs Fvs Vs (by decide) (by decide) (by decide) (by decide) (by decide) (by decide) (by decide) (by decide) (by decide) (by decide) (by rw [efs]; rfl) (by rw [efs]; rfl) (by rw [efs]; rfl) (by rw [efs]; rfl) (by rw [efs]; rfl) (by rw [efs]; rfl) hd1 hd2 hd3 hcs hsf) (W hw 37 rfl) (W hw 38 rfl) (W hw 39 rfl) (W hw 40 rfl) (by decide) e266 S32_ (Nat.le_trans q32_ (Nat.le_trans (Keep.of_wr W38).1 K153.1)) (own_EW hw) R275_.1 pd_22 rfl rfl rfl (by rw [hml]; rfl) rfl (hb hby at_143) ?_
              intro T267 L267 v267 kS267 X267 S267_ q267_ Z267_ o267_ C267_ hQ267
              have R267_ := R275_.trans C267_
              obtain ⟨rfl, N267q, K267⟩ := hQ267
              have N267 := Fr.app N266 N267q
              rw [show isEsc d1 d2 d3 = (0 : Int32) from if_neg (fun q_ => absurd (q_.2.1.symm.trans hc116) (by decide))]
              show Go p e below (T267.setTop (mkF m 146 _ [(.int (0 : Int32))])) _
              refine Gk.iload X267 hx (hb hby at_146) rfl ?_
              refine Gk.icmpNo X267 hx (hb hby at_148) (teq (by decide : (0 : Int32) = (0 : Int32))).2 ?_
              refine Gk.iconst X267 hx (hb hby at_151) (1 : Int32) rfl ?_
              refine Gk.goto X267 hx (hb hby at_152) 156 (by decide) (by decide) ?_
              exact Gk.rNL (s := s) X267 hx Bd.returns (by simp) Bd.notSynchronized (hb hby at_156) rfl S267_ (Nat.le_trans q267_ (Nat.le_refl _)) (1 : Int32) rfl ⟨rfl, N267⟩
            · refine Gk.ifNo X266 hx (hb hby at_116) (feq hc116).1 ?_
              refine Gk.aload X266 hx (hb hby at_119) rfl rfl ?_
              refine Gk.iload X266 hx (hb hby at_121) rfl ?_
              refine Gk.iconst X266 hx (hb hby at_123) (2 : Int32) rfl ?_
              refine Gk.iadd X266 hx (hb hby at_124) (3 : Int32) (by decide) ?_
              refine Gk.caload X266 hx Z32_ e266 H264 ⟨by decide, by decide⟩ (.int d3) rfl (hb hby at_125) ?_
              refine Gk.callS (argsL := [(.int d3)]) X266 hx Z32_ o32_ (ishex l Z a0 T153.heap n0 hw d3 (Nat.le_trans Z0 (Nat.le_trans gr158 K153.1))) (W hw 108 rfl) (W hw 109 rfl) (W hw 3 rfl) (W hw 110 rfl) (by decide) e266 pd_23 rfl rfl rfl (by rw [hml]; rfl) rfl (hb hby at_126) ?_
              intro T277 L277 v277 X277 hQ277
              obtain ⟨rfl, N277q, e277⟩ := hQ277
              have N277 := Fr.app N266 N277q
              show Go p e below (T277.setTop (mkF m 129 _ [(.int (hexB d3))])) _
              by_cases hc129 : (hexB d3) = (0 : Int32)
              · refine Gk.ifYes X277 hx (hb hby at_129) (teq hc129).1 136 (by decide) (by decide) ?_
                refine Gk.iconst X277 hx (hb hby at_136) (0 : Int32) rfl ?_
                refine Gk.istore X277 hx (hb hby at_137) #[.val (.int p1), .val (.int p2), .val (.int p3), .val (.int p4), .val (.int p5), .val (.int p6), .val (.int (4 : Int32)), .val (.int (1 : Int32)), .val (.ref b1), .val (.ref sa), .val (.int (0 : Int32))] rfl ?_
                refine Gk.aload X277 hx (hb hby at_139) rfl rfl ?_
                refine Gk.iload X277 hx (hb hby at_141) rfl ?_
                have H279 := (H154.keep K153 all0)
                have H280 := (((H34.keep K32 all0).wr W38).keep K153 all0)
                have H281 := (H155.keep K153 all0)
                have H282 := (H156.keep K153 all0)
                have H283 := (H157.keep K153 all0)
                have R285_ := R32_.trans (CHr.wr W38 sf38 R32_.1)
                have R286_ := R285_.trans (CHr.keep K153 (fun _ q_ => absurd q_ (List.not_mem_nil)) R285_.1)
                refine Gk.callSH (s := s) (argsL := [(.ref sa), (.int (1 : Int32))]) X277 hx Z32_ o32_ (ie_1_1 l Z a0 T153.heap n0 hw sa sb ks fs (8 : Int32) d1 d2 d3 w_COMPACT_STRINGS w_SIOOBE_FORMATTER (Nat.le_trans Z0 (Nat.le_trans gr158 K153.1)) H279 H280 H281 H282 H283 Es Fcs Fvs Vs (by decide) (by decide) (by decide) (by decide) (by decide) (by decide) (by decide) (by decide) (by decide) (by decide) (by rw [efs]; rfl) (by rw [efs]; rfl) (by rw [efs]; rfl) (by rw [efs]; rfl) (by rw [efs]; rfl) (by rw [efs]; rfl) hd1 hd2 hd3 hcs hsf) (W hw 37 rfl) (W hw 38 rfl) (W hw 39 rfl) (W hw 40 rfl) (by decide) e277 S32_ (Nat.le_trans q32_ (Nat.le_trans (Keep.of_wr W38).1 K153.1)) (own_EW hw) R286_.1 pd_22 rfl rfl rfl (by rw [hml]; rfl) rfl (hb hby at_143) ?_
                intro T278 L278 v278 kS278 X278 S278_ q278_ Z278_ o278_ C278_ hQ278
                have R278_ := R286_.trans C278_
                obtain ⟨rfl, N278q, K278⟩ := hQ278
                have N278 := Fr.app N277 N278q
                rw [show isEsc d1 d2 d3 = (0 : Int32) from if_neg (fun q_ => absurd (q_.2.2.symm.trans hc129) (by decide))]
                show Go p e below (T278.setTop (mkF m 146 _ [(.int (0 : Int32))])) _
                refine Gk.iload X278 hx (hb hby at_146) rfl ?_
                refine Gk.icmpNo X278 hx (hb hby at_148) (teq (by decide : (0 : Int32) = (0 : Int32))).2 ?_
                refine Gk.iconst X278 hx (hb hby at_151) (1 : Int32) rfl ?_
                refine Gk.goto X278 hx (hb hby at_152) 156 (by decide) (by decide) ?_
                exact Gk.rNL (s := s) X278 hx Bd.returns (by simp) Bd.notSynchronized (hb hby at_156) rfl S278_ (Nat.le_trans q278_ (Nat.le_refl _)) (1 : Int32) rfl ⟨rfl, N278⟩
              · refine Gk.ifNo X277 hx (hb hby at_129) (feq hc129).1 ?_
                refine Gk.iconst X277 hx (hb hby at_132) (1 : Int32) rfl ?_
                refine Gk.goto X277 hx (hb hby at_133) 137 (by decide) (by decide) ?_
                refine Gk.istore X277 hx (hb hby at_137) #[.val (.int p1), .val (.int p2), .val (.int p3), .val (.int p4), .val (.int p5), .val (.int p6), .val (.int (4 : Int32)), .val (.int (1 : Int32)), .val (.ref b1), .val (.ref sa), .val (.int (1 : Int32))] rfl ?_
                refine Gk.aload X277 hx (hb hby at_139) rfl rfl ?_
                refine Gk.iload X277 hx (hb hby at_141) rfl ?_
                have H288 := (H154.keep K153 all0)
                have H289 := (((H34.keep K32 all0).wr W38).keep K153 all0)
                have H290 := (H155.keep K153 all0)
                have H291 := (H156.keep K153 all0)
                have H292 := (H157.keep K153 all0)
                have R294_ := R32_.trans (CHr.wr W38 sf38 R32_.1)
                have R295_ := R294_.trans (CHr.keep K153 (fun _ q_ => absurd q_ (List.not_mem_nil)) R294_.1)
                refine Gk.callSH (s := s) (argsL := [(.ref sa), (.int (1 : Int32))]) X277 hx Z32_ o32_ (ie_1_1 l Z a0 T153.heap n0 hw sa sb ks fs (8 : Int32) d1 d2 d3 w_COMPACT_STRINGS w_SIOOBE_FORMATTER (Nat.le_trans Z0 (Nat.le_trans gr158 K153.1)) H288 H289 H290 H291 H292 Es Fcs Fvs Vs (by decide) (by decide) (by decide) (by decide) (by decide) (by decide) (by decide) (by decide) (by decide) (by decide) (by rw [efs]; rfl) (by rw [efs]; rfl) (by rw [efs]; rfl) (by rw [efs]; rfl) (by rw [efs]; rfl) (by rw [efs]; rfl) hd1 hd2 hd3 hcs hsf) (W hw 37 rfl) (W hw 38 rfl) (W hw 39 rfl) (W hw 40 rfl) (by decide) e277 S32_ (Nat.le_trans q32_ (Nat.le_trans (Keep.of_wr W38).1 K153.1)) (own_EW hw) R295_.1 pd_22 rfl rfl rfl (by rw [hml]; rfl) rfl (hb hby at_143) ?_
                intro T287 L287 v287 kS287 X287 S287_ q287_ Z287_ o287_ C287_ hQ287
                have R287_ := R295_.trans C287_
                obtain ⟨rfl, N287q, K287⟩ := hQ287
                have N287 := Fr.app N277 N287q
                rw [show isEsc d1 d2 d3 = (1 : Int32) from if_pos ⟨hc103, (hexB_01 _).resolve_left hc116, (hexB_01 _).resolve_left hc129⟩]
                show Go p e below (T287.setTop (mkF m 146 _ [(.int (1 : Int32))])) _
                refine Gk.iload X287 hx (hb hby at_146) rfl ?_
                refine Gk.icmpNo X287 hx (hb hby at_148) (teq (by decide : (1 : Int32) = (1 : Int32))).2 ?_
                refine Gk.iconst X287 hx (hb hby at_151) (1 : Int32) rfl ?_
                refine Gk.goto X287 hx (hb hby at_152) 156 (by decide) (by decide) ?_
                exact Gk.rNL (s := s) X287 hx Bd.returns (by simp) Bd.notSynchronized (hb hby at_156) rfl S287_ (Nat.le_trans q287_ (Nat.le_refl _)) (1 : Int32) rfl ⟨rfl, N287⟩
          · refine Gk.icmpYes X153 hx (hb hby at_103) (feq hc103).2 136 (by decide) (by decide) ?_
            refine Gk.iconst X153 hx (hb hby at_136) (0 : Int32) rfl ?_
            refine Gk.istore X153 hx (hb hby at_137) #[.val (.int p1), .val (.int p2), .val (.int p3), .val (.int p4), .val (.int p5), .val (.int p6), .val (.int (4 : Int32)), .val (.int (1 : Int32)), .val (.ref b1), .val (.ref sa), .val (.int (0 : Int32))] rfl ?_
            refine Gk.aload X153 hx (hb hby at_139) rfl rfl ?_
            refine Gk.iload X153 hx (hb hby at_141) rfl ?_
            have H297 := (H154.keep K153 all0)
            have H298 := (((H34.keep K32 all0).wr W38).keep K153 all0)
            have H299 := (H155.keep K153 all0)
            have H300 := (H156.keep K153 all0)
            have H301 := (H157.keep K153 all0)
            have R303_ := R32_.trans (CHr.wr W38 sf38 R32_.1)
            have R304_ := R303_.trans (CHr.keep K153 (fun _ q_ => absurd q_ (List.not_mem_nil)) R303_.1)
            refine Gk.callSH (s := s) (argsL := [(.ref sa), (.int (1 : Int32))]) X153 hx Z32_ o32_ (ie_1_1 l Z a0 T153.heap n0 hw sa sb ks fs (8 : Int32) d1 d2 d3 w_COMPACT_STRINGS w_SIOOBE_FORMATTER (Nat.le_trans Z0 (Nat.le_trans gr158 K153.1)) H297 H298 H299 H300 H301 Es Fcs Fvs Vs (by decide) (by decide) (by decide) (by decide) (by decide) (by decide) (by decide) (by decide) (by decide) (by decide) (by rw [efs]; rfl) (by rw [efs]; rfl) (by rw [efs]; rfl) (by rw [efs]; rfl) (by rw [efs]; rfl) (by rw [efs]; rfl) hd1 hd2 hd3 hcs hsf) (W hw 37 rfl) (W hw 38 rfl) (W hw 39 rfl) (W hw 40 rfl) (by decide) rfl S32_ (Nat.le_trans q32_ (Nat.le_trans (Keep.of_wr W38).1 K153.1)) (own_EW hw) R304_.1 pd_22 rfl rfl rfl (by rw [hml]; rfl) rfl (hb hby at_143) ?_
            intro T296 L296 v296 kS296 X296 S296_ q296_ Z296_ o296_ C296_ hQ296
            have R296_ := R304_.trans C296_
            obtain ⟨rfl, N296q, K296⟩ := hQ296
            have N296 := Fr.app N153 N296q
            rw [show isEsc d1 d2 d3 = (0 : Int32) from if_neg (fun q_ => hc103 q_.1)]
            show Go p e below (T296.setTop (mkF m 146 _ [(.int (0 : Int32))])) _
            refine Gk.iload X296 hx (hb hby at_146) rfl ?_
            refine Gk.icmpNo X296 hx (hb hby at_148) (teq (by decide : (0 : Int32) = (0 : Int32))).2 ?_
            refine Gk.iconst X296 hx (hb hby at_151) (1 : Int32) rfl ?_
            refine Gk.goto X296 hx (hb hby at_152) 156 (by decide) (by decide) ?_
            exact Gk.rNL (s := s) X296 hx Bd.returns (by simp) Bd.notSynchronized (hb hby at_156) rfl S296_ (Nat.le_trans q296_ (Nat.le_refl _)) (1 : Int32) rfl ⟨rfl, N296⟩
      · refine Gk.icmpYes X153 hx (hb hby at_93) (flt hc93).2.1 136 (by decide) (by decide) ?_
        refine Gk.iconst X153 hx (hb hby at_136) (0 : Int32) rfl ?_
        refine Gk.istore X153 hx (hb hby at_137) #[.val (.int p1), .val (.int p2), .val (.int p3), .val (.int p4), .val (.int p5), .val (.int p6), .val (.int (4 : Int32)), .val (.int atv), .val (.ref b1), .val (.ref sa), .val (.int (0 : Int32))] rfl ?_
        refine Gk.aload X153 hx (hb hby at_139) rfl rfl ?_
        refine Gk.iload X153 hx (hb hby at_141) rfl ?_
        have H306 := (H154.keep K153 all0)
        refine Gk.callS (argsL := [(.ref sa), (.int atv)]) X153 hx Z32_ o32_ (ie0_1 l Z a0 T153.heap n0 hw sa atv sb ks fs (8 : Int32) w_COMPACT_STRINGS (Nat.le_trans Z0 (Nat.le_trans gr158 K153.1)) H306 Es Fcs Fvs Vs (by rw [show ((8 : Int32) >>> ((1 : Int32) &&& 31)) = (4 : Int32) from by decide]; exact hc93) hcs) (W hw 37 rfl) (W hw 38 rfl) (W hw 39 rfl) (W hw 40 rfl) (by decide) rfl pd_22 rfl rfl rfl (by rw [hml]; rfl) rfl (hb hby at_143) ?_
        intro T305 L305 v305 X305 hQ305
        obtain ⟨rfl, N305q, e305⟩ := hQ305
        have N305 := Fr.app N153 N305q
        show Go p e below (T305.setTop (mkF m 146 _ [(.int (0 : Int32))])) _
        refine Gk.iload X305 hx (hb hby at_146) rfl ?_
        refine Gk.icmpNo X305 hx (hb hby at_148) (teq (by decide : (0 : Int32) = (0 : Int32))).2 ?_
        refine Gk.iconst X305 hx (hb hby at_151) (1 : Int32) rfl ?_
        refine Gk.goto X305 hx (hb hby at_152) 156 (by decide) (by decide) ?_
        exact Gk.rNL (s := s) X305 hx Bd.returns (by simp) Bd.notSynchronized (hb hby at_156) e305 S32_ (Nat.le_trans q32_ (Nat.le_trans (Keep.of_wr W38).1 K153.1)) (1 : Int32) rfl ⟨rfl, N305⟩
  · show Go p e below (T38.setTop (mkF m 82 #[.val (.int p1), .val (.int p2), .val (.int p3), .val (.int p4), .val (.int p5), .val (.int p6), .val (.int nn), .val (.int atv), .val (.ref b1), .unset, .unset] [(.int d4), (.int d3), (.int d2), (.int d1), (.int d0), (.int nn)])) _
    rw [hkn]
    have H308 := ((H33.keep K32 all0).wr W38)
    have H309 := (((((((((((S__assertionsDisabled.ext E1).keep K2 all0).wr W6).keep K8 all0).wr W14).keep K16 all0).wr W22).keep K24 all0).wr W30).keep K32 all0).wr W38)
    have H310 := (((((((((((S_HI_BYTE_SHIFT.ext E1).keep K2 all0).wr W6).keep K8 all0).wr W14).keep K16 all0).wr W22).keep K24 all0).wr W30).keep K32 all0).wr W38)
    have H311 := (((((((((((S_LO_BYTE_SHIFT.ext E1).keep K2 all0).wr W6).keep K8 all0).wr W14).keep K16 all0).wr W22).keep K24 all0).wr W30).keep K32 all0).wr W38)
    have gr312 := (Nat.le_trans (Nat.le_trans gr35 K32.1) (Keep.of_wr W38).1)
    refine Gk.callS (argsL := [(.int (5 : Int32)), (.int d0), (.int d1), (.int d2), (.int d3), (.int d4)]) X38 hx Z32_ o32_ (make_5 l Z a0 h38 n0 hw d0 d1 d2 d3 d4 w_COMPACT_STRINGS (Nat.le_trans Z0 gr312) H308 H309 H310 H311 hd0 hd1 hd2 hd3 hd4 hcs) (W hw 5 rfl) (W hw 6 rfl) (W hw 3 rfl) (W hw 7 rfl) (by decide) e38 pd_21 rfl rfl rfl (by rw [hml]; rfl) rfl (hb hby at_82) ?_
    intro T307 L307 v307 X307 hQ307
    obtain ⟨rfl, N307q, K307, Es, sq_⟩ := hQ307
    have N307 := Fr.app N38 N307q
    obtain ⟨sa, esa⟩ : ∃ z_ : Addr, z_ = h38.size := ⟨_, rfl⟩
    rw [← esa] at Es sq_ ⊢
    show Go p e below (T307.setTop (mkF m 85 _ [(.ref sa)])) _
    rcases sq_ with ⟨Fcs, sb, ks, Fvs, Vs, hle0, hle1, hle2, hle3, hle4⟩ | ⟨Fcs, sb, ks, Fvs, Vs⟩
    · show Go p e below (T307.setTop (mkF m 85 #[.val (.int p1), .val (.int p2), .val (.int p3), .val (.int p4), .val (.int p5), .val (.int p6), .val (.int (5 : Int32)), .val (.int atv), .val (.ref b1), .unset, .unset] [(.ref sa)])) _
      obtain ⟨fs, efs⟩ : ∃ z_ : Nat → Value, z_ = (upd (upd (upd (upd (upd (fun _ => (.int (0 : Int32))) 0 (.int (d0.toInt8.toInt32))) 1 (.int (d1.toInt8.toInt32))) 2 (.int (d2.toInt8.toInt32))) 3 (.int (d3.toInt8.toInt32))) 4 (.int (d4.toInt8.toInt32))) := ⟨_, rfl⟩
      rw [← efs] at Vs
      refine Gk.astore X307 hx (hb hby at_85) rfl #[.val (.int p1), .val (.int p2), .val (.int p3), .val (.int p4), .val (.int p5), .val (.int p6), .val (.int (5 : Int32)), .val (.int atv), .val (.ref b1), .val (.ref sa), .unset] rfl ?_
      refine Gk.iload X307 hx (hb hby at_87) rfl ?_
      refine Gk.iconst X307 hx (hb hby at_89) (2 : Int32) rfl ?_
      refine Gk.iadd X307 hx (hb hby at_90) _ rfl ?_
      refine Gk.iload X307 hx (hb hby at_91) rfl ?_
      by_cases hc93 : (atv + (2 : Int32)) < (5 : Int32)
      · refine Gk.icmpNo X307 hx (hb hby at_93) (tlt hc93).2.1 ?_
        rcases own_at5 (own_at7 eatv) hc93 with hka | hka | hka
        · show Go p e below (T307.setTop (mkF m 96 #[.val (.int p1), .val (.int p2), .val (.int p3), .val (.int p4), .val (.int p5), .val (.int p6), .val (.int (5 : Int32)), .val (.int atv), .val (.ref b1), .val (.ref sa), .unset] [])) _
          rw [hka]
          refine Gk.aload X307 hx (hb hby at_96) rfl rfl ?_
          refine Gk.iload X307 hx (hb hby at_98) rfl ?_
          have H314 := (V38.keep K307 nin0)
          refine Gk.caload X307 hx Z32_ rfl H314 ⟨by decide, by decide⟩ (.int d0) rfl (hb hby at_100) ?_
          refine Gk.bipush X307 hx (hb hby at_101) (37 : Int32) rfl ?_
          by_cases hc103 : d0 = (37 : Int32)
          · refine Gk.icmpNo X307 hx (hb hby at_103) (teq hc103).2 ?_
            refine Gk.aload X307 hx (hb hby at_106) rfl rfl ?_
            refine Gk.iload X307 hx (hb hby at_108) rfl ?_
            refine Gk.iconst X307 hx (hb hby at_110) (1 : Int32) rfl ?_
            refine Gk.iadd X307 hx (hb hby at_111) (1 : Int32) (by decide) ?_
            refine Gk.caload X307 hx Z32_ rfl H314 ⟨by decide, by decide⟩ (.int d1) rfl (hb hby at_112) ?_
            refine Gk.callS (argsL := [(.int d1)]) X307 hx Z32_ o32_ (ishex l Z a0 T307.heap n0 hw d1 (Nat.le_trans Z0 (Nat.le_trans gr312 K307.1))) (W hw 108 rfl) (W hw 109 rfl) (W hw 3 rfl) (W hw 110 rfl) (by decide) rfl pd_23 rfl rfl rfl (by rw [hml]; rfl) rfl (hb hby at_113) ?_
            intro T316 L316 v316 X316 hQ316
            obtain ⟨rfl, N316q, e316⟩ := hQ316
            have N316 := Fr.app N307 N316q
            show Go p e below (T316.setTop (mkF m 116 _ [(.int (hexB d1))])) _
            by_cases hc116 : (hexB d1) = (0 : Int32)
            · refine Gk.ifYes X316 hx (hb hby at_116) (teq hc116).1 136 (by decide) (by decide) ?_
              refine Gk.iconst X316 hx (hb hby at_136) (0 : Int32) rfl ?_
              refine Gk.istore X316 hx (hb hby at_137) #[.val (.int p1), .val (.int p2), .val (.int p3), .val (.int p4), .val (.int p5), .val (.int p6), .val (.int (5 : Int32)), .val (.int (0 : Int32)), .val (.ref b1), .val (.ref sa), .val (.int (0 : Int32))] rfl ?_
              refine Gk.aload X316 hx (hb hby at_139) rfl rfl ?_
              refine Gk.iload X316 hx (hb hby at_141) rfl ?_
              have H318 := (H308.keep K307 all0)
              have H319 := (((H34.keep K32 all0).wr W38).keep K307 all0)
              have R321_ := R32_.trans (CHr.wr W38 sf38 R32_.1)
              have R322_ := R321_.trans (CHr.keep K307 (fun _ q_ => absurd q_ (List.not_mem_nil)) R321_.1)
              refine Gk.callSH (s := s) (argsL := [(.ref sa), (.int (0 : Int32))]) X316 hx Z32_ o32_ (ie_0_0 l Z a0 T307.heap n0 hw sa sb ks fs (5 : Int32) d0 d1 d2 w_COMPACT_STRINGS w_SIOOBE_FORMATTER (Nat.le_trans Z0 (Nat.le_trans gr312 K307.1)) H318 H319 Es Fcs Fvs Vs (by decide) (by decide) (by decide) (by decide) (by rw [efs]; rfl) (by rw [efs]; rfl) (by rw [efs]; rfl) hle0 hle1 hle2 hd0 hd1 hd2 hcs hsf) (W hw 37 rfl) (W hw 38 rfl) (W hw 39 rfl) (W hw 40 rfl) (by decide) e316 S32_ (Nat.le_trans q32_ (Nat.le_trans (Keep.of_wr W38).1 K307.1)) (own_EW hw) R322_.1 pd_22 rfl rfl rfl (by rw [hml]; rfl) rfl (hb hby at_143) ?_
              intro T317 L317 v317 kS317 X317 S317_ q317_ Z317_ o317_ C317_ hQ317
              have R317_ := R322_.trans C317_
              obtain ⟨rfl, N317q, K317⟩ := hQ317
              have N317 := Fr.app N316 N317q
              rw [show isEsc d0 d1 d2 = (0 : Int32) from if_neg (fun q_ => absurd (q_.2.1.symm.trans hc116) (by decide))]
              show Go p e below (T317.setTop (mkF m 146 _ [(.int (0 : Int32))])) _
              refine Gk.iload X317 hx (hb hby at_146) rfl ?_
              refine Gk.icmpNo X317 hx (hb hby at_148) (teq (by decide : (0 : Int32) = (0 : Int32))).2 ?_
              refine Gk.iconst X317 hx (hb hby at_151) (1 : Int32) rfl ?_
              refine Gk.goto X317 hx (hb hby at_152) 156 (by decide) (by decide) ?_
              exact Gk.rNL (s := s) X317 hx Bd.returns (by simp) Bd.notSynchronized (hb hby at_156) rfl S317_ (Nat.le_trans q317_ (Nat.le_refl _)) (1 : Int32) rfl ⟨rfl, N317⟩
            · refine Gk.ifNo X316 hx (hb hby at_116) (feq hc116).1 ?_
              refine Gk.aload X316 hx (hb hby at_119) rfl rfl ?_
              refine Gk.iload X316 hx (hb hby at_121) rfl ?_
              refine Gk.iconst X316 hx (hb hby at_123) (2 : Int32) rfl ?_
              refine Gk.iadd X316 hx (hb hby at_124) (2 : Int32) (by decide) ?_
              refine Gk.caload X316 hx Z32_ e316 H314 ⟨by decide, by decide⟩ (.int d2) rfl (hb hby at_125) ?_
              refine Gk.callS (argsL := [(.int d2)]) X316 hx Z32_ o32_ (ishex l Z a0 T307.heap n0 hw d2 (Nat.le_trans Z0 (Nat.le_trans gr312 K307.1))) (W hw 108 rfl) (W hw 109 rfl) (W hw 3 rfl) (W hw 110 rfl) (by decide) e316 pd_23 rfl rfl rfl (by rw [hml]; rfl) rfl (hb hby at_126) ?_
              intro T324 L324 v324 X324 hQ324
              obtain ⟨rfl, N324q, e324⟩ := hQ324
              have N324 := Fr.app N316 N324q
              show Go p e below (T324.setTop (mkF m 129 _ [(.int (hexB d2))])) _
              by_cases hc129 : (hexB d2) = (0 : Int32)
              · refine Gk.ifYes X324 hx (hb hby at_129) (teq hc129).1 136 (by decide) (by decide) ?_
                refine Gk.iconst X324 hx (hb hby at_136) (0 : Int32) rfl ?_
                refine Gk.istore X324 hx (hb hby at_137) #[.val (.int p1), .val (.int p2), .val (.int p3), .val (.int p4), .val (.int p5), .val (.int p6), .val (.int (5 : Int32)), .val (.int (0 : Int32)), .val (.ref b1), .val (.ref sa), .val (.int (0 : Int32))] rfl ?_
                refine Gk.aload X324 hx (hb hby at_139) rfl rfl ?_
                refine Gk.iload X324 hx (hb hby at_141) rfl ?_
                have H326 := (H308.keep K307 all0)
                have H327 := (((H34.keep K32 all0).wr W38).keep K307 all0)
                have R329_ := R32_.trans (CHr.wr W38 sf38 R32_.1)
                have R330_ := R329_.trans (CHr.keep K307 (fun _ q_ => absurd q_ (List.not_mem_nil)) R329_.1)
                refine Gk.callSH (s := s) (argsL := [(.ref sa), (.int (0 : Int32))]) X324 hx Z32_ o32_ (ie_0_0 l Z a0 T307.heap n0 hw sa sb ks fs (5 : Int32) d0 d1 d2 w_COMPACT_STRINGS w_SIOOBE_FORMATTER (Nat.le_trans Z0 (Nat.le_trans gr312 K307.1)) H326 H327 Es Fcs Fvs Vs (by decide) (by decide) (by decide) (by decide) (by rw [efs]; rfl) (by rw [efs]; rfl) (by rw [efs]; rfl) hle0 hle1 hle2 hd0 hd1 hd2 hcs hsf) (W hw 37 rfl) (W hw 38 rfl) (W hw 39 rfl) (W hw 40 rfl) (by decide) e324 S32_ (Nat.le_trans q32_ (Nat.le_trans (Keep.of_wr W38).1 K307.1)) (own_EW hw) R330_.1 pd_22 rfl rfl rfl (by rw [hml]; rfl) rfl (hb hby at_143) ?_
                intro T325 L325 v325 kS325 X325 S325_ q325_ Z325_ o325_ C325_ hQ325
                have R325_ := R330_.trans C325_
                obtain ⟨rfl, N325q, K325⟩ := hQ325
                have N325 := Fr.app N324 N325q
                rw [show isEsc d0 d1 d2 = (0 : Int32) from if_neg (fun q_ => absurd (q_.2.2.symm.trans hc129) (by decide))]
                show Go p e below (T325.setTop (mkF m 146 _ [(.int (0 : Int32))])) _
                refine Gk.iload X325 hx (hb hby at_146) rfl ?_
                refine Gk.icmpNo X325 hx (hb hby at_148) (teq (by decide : (0 : Int32) = (0 : Int32))).2 ?_
                refine Gk.iconst X325 hx (hb hby at_151) (1 : Int32) rfl ?_
                refine Gk.goto X325 hx (hb hby at_152) 156 (by decide) (by decide) ?_
                exact Gk.rNL (s := s) X325 hx Bd.returns (by simp) Bd.notSynchronized (hb hby at_156) rfl S325_ (Nat.le_trans q325_ (Nat.le_refl _)) (1 : Int32) rfl ⟨rfl, N325⟩
              · refine Gk.ifNo X324 hx (hb hby at_129) (feq hc129).1 ?_
                refine Gk.iconst X324 hx (hb hby at_132) (1 : Int32) rfl ?_
                refine Gk.goto X324 hx (hb hby at_133) 137 (by decide) (by decide) ?_
                refine Gk.istore X324 hx (hb hby at_137) #[.val (.int p1), .val (.int p2), .val (.int p3), .val (.int p4), .val (.int p5), .val (.int p6), .val (.int (5 : Int32)), .val (.int (0 : Int32)), .val (.ref b1), .val (.ref sa), .val (.int (1 : Int32))] rfl ?_
                refine Gk.aload X324 hx (hb hby at_139) rfl rfl ?_
                refine Gk.iload X324 hx (hb hby at_141) rfl ?_
                have H332 := (H308.keep K307 all0)
                have H333 := (((H34.keep K32 all0).wr W38).keep K307 all0)
                have R335_ := R32_.trans (CHr.wr W38 sf38 R32_.1)
                have R336_ := R335_.trans (CHr.keep K307 (fun _ q_ => absurd q_ (List.not_mem_nil)) R335_.1)
                refine Gk.callSH (s := s) (argsL := [(.ref sa), (.int (0 : Int32))]) X324 hx Z32_ o32_ (ie_0_0 l Z a0 T307.heap n0 hw sa sb ks fs (5 : Int32) d0 d1 d2 w_COMPACT_STRINGS w_SIOOBE_FORMATTER (Nat.le_trans Z0 (Nat.le_trans gr312 K307.1)) H332 H333 Es Fcs Fvs Vs (by decide) (by decide) (by decide) (by decide) (by rw [efs]; rfl) (by rw [efs]; rfl) (by rw [efs]; rfl) hle0 hle1 hle2 hd0 hd1 hd2 hcs hsf) (W hw 37 rfl) (W hw 38 rfl) (W hw 39 rfl) (W hw 40 rfl) (by decide) e324 S32_ (Nat.le_trans q32_ (Nat.le_trans (Keep.of_wr W38).1 K307.1)) (own_EW hw) R336_.1 pd_22 rfl rfl rfl (by rw [hml]; rfl) rfl (hb hby at_143) ?_
                intro T331 L331 v331 kS331 X331 S331_ q331_ Z331_ o331_ C331_ hQ331
                have R331_ := R336_.trans C331_
                obtain ⟨rfl, N331q, K331⟩ := hQ331
                have N331 := Fr.app N324 N331q
                rw [show isEsc d0 d1 d2 = (1 : Int32) from if_pos ⟨hc103, (hexB_01 _).resolve_left hc116, (hexB_01 _).resolve_left hc129⟩]
                show Go p e below (T331.setTop (mkF m 146 _ [(.int (1 : Int32))])) _
                refine Gk.iload X331 hx (hb hby at_146) rfl ?_
                refine Gk.icmpNo X331 hx (hb hby at_148) (teq (by decide : (1 : Int32) = (1 : Int32))).2 ?_
                refine Gk.iconst X331 hx (hb hby at_151) (1 : Int32) rfl ?_
                refine Gk.goto X331 hx (hb hby at_152) 156 (by decide) (by decide) ?_
                exact Gk.rNL (s := s) X331 hx Bd.returns (by simp) Bd.notSynchronized (hb hby at_156) rfl S331_ (Nat.le_trans q331_ (Nat.le_refl _)) (1 : Int32) rfl ⟨rfl, N331⟩
          · refine Gk.icmpYes X307 hx (hb hby at_103) (feq hc103).2 136 (by decide) (by decide) ?_
            refine Gk.iconst X307 hx (hb hby at_136) (0 : Int32) rfl ?_
            refine Gk.istore X307 hx (hb hby at_137) #[.val (.int p1), .val (.int p2), .val (.int p3), .val (.int p4), .val (.int p5), .val (.int p6), .val (.int (5 : Int32)), .val (.int (0 : Int32)), .val (.ref b1), .val (.ref sa), .val (.int (0 : Int32))] rfl ?_
            refine Gk.aload X307 hx (hb hby at_139) rfl rfl ?_
            refine Gk.iload X307 hx (hb hby at_141) rfl ?_
            have H338 := (H308.keep K307 all0)
            have H339 := (((H34.keep K32 all0).wr W38).keep K307 all0)
            have R341_ := R32_.trans (CHr.wr W38 sf38 R32_.1)
            have R342_ := R341_.trans (CHr.keep K307 (fun _ q_ => absurd q_ (List.not_mem_nil)) R341_.1)
            refine Gk.callSH (s := s) (argsL := [(.ref sa), (.int (0 : Int32))]) X307 hx Z32_ o32_ (ie_0_0 l Z a0 T307.heap n0 hw sa sb ks fs (5 : Int32) d0 d1 d2 w_COMPACT_STRINGS w_SIOOBE_FORMATTER (Nat.le_trans Z0 (Nat.le_trans gr312 K307.1)) H338 H339 Es Fcs Fvs Vs (by decide) (by decide) (by decide) (by decide) (by rw [efs]; rfl) (by rw [efs]; rfl) (by rw [efs]; rfl) hle0 hle1 hle2 hd0 hd1 hd2 hcs hsf) (W hw 37 rfl) (W hw 38 rfl) (W hw 39 rfl) (W hw 40 rfl) (by decide) rfl S32_ (Nat.le_trans q32_ (Nat.le_trans (Keep.of_wr W38).1 K307.1)) (own_EW hw) R342_.1 pd_22 rfl rfl rfl (by rw [hml]; rfl) rfl (hb hby at_143) ?_
            intro T337 L337 v337 kS337 X337 S337_ q337_ Z337_ o337_ C337_ hQ337
            have R337_ := R342_.trans C337_
            obtain ⟨rfl, N337q, K337⟩ := hQ337
            have N337 := Fr.app N307 N337q
            rw [show isEsc d0 d1 d2 = (0 : Int32) from if_neg (fun q_ => hc103 q_.1)]
            show Go p e below (T337.setTop (mkF m 146 _ [(.int (0 : Int32))])) _
            refine Gk.iload X337 hx (hb hby at_146) rfl ?_
            refine Gk.icmpNo X337 hx (hb hby at_148) (teq (by decide : (0 : Int32) = (0 : Int32))).2 ?_
            refine Gk.iconst X337 hx (hb hby at_151) (1 : Int32) rfl ?_
            refine Gk.goto X337 hx (hb hby at_152) 156 (by decide) (by decide) ?_
            exact Gk.rNL (s := s) X337 hx Bd.returns (by simp) Bd.notSynchronized (hb hby at_156) rfl S337_ (Nat.le_trans q337_ (Nat.le_refl _)) (1 : Int32) rfl ⟨rfl, N337⟩
        · show Go p e below (T307.setTop (mkF m 96 #[.val (.int p1), .val (.int p2), .val (.int p3), .val (.int p4), .val (.int p5), .val (.int p6), .val (.int (5 : Int32)), .val (.int atv), .val (.ref b1), .val (.ref sa), .unset] [])) _
          rw [hka]
          refine Gk.aload X307 hx (hb hby at_96) rfl rfl ?_
          refine Gk.iload X307 hx (hb hby at_98) rfl ?_
          have H344 := (V38.keep K307 nin0)
          refine Gk.caload X307 hx Z32_ rfl H344 ⟨by decide, by decide⟩ (.int d1) rfl (hb hby at_100) ?_
          refine Gk.bipush X307 hx (hb hby at_101) (37 : Int32) rfl ?_
          by_cases hc103 : d1 = (37 : Int32)
          · refine Gk.icmpNo X307 hx (hb hby at_103) (teq hc103).2 ?_
            refine Gk.aload X307 hx (hb hby at_106) rfl rfl ?_
            refine Gk.iload X307 hx (hb hby at_108) rfl ?_
            refine Gk.iconst X307 hx (hb hby at_110) (1 : Int32) rfl ?_
            refine Gk.iadd X307 hx (hb hby at_111) (2 : Int32) (by decide) ?_
            refine Gk.caload X307 hx Z32_ rfl H344 ⟨by decide, by decide⟩ (.int d2) rfl (hb hby at_112) ?_
            refine Gk.callS (argsL := [(.int d2)]) X307 hx Z32_ o32_ (ishex l Z a0 T307.heap n0 hw d2 (Nat.le_trans Z0 (Nat.le_trans gr312 K307.1))) (W hw 108 rfl) (W hw 109 rfl) (W hw 3 rfl) (W hw 110 rfl) (by decide) rfl pd_23 rfl rfl rfl (by rw [hml]; rfl) rfl (hb hby at_113) ?_
            intro T346 L346 v346 X346 hQ346
            obtain ⟨rfl, N346q, e346⟩ := hQ346
            have N346 := Fr.app N307 N346q
            show Go p e below (T346.setTop (mkF m 116 _ [(.int (hexB d2))])) _
            by_cases hc116 : (hexB d2) = (0 : Int32)
            · refine Gk.ifYes X346 hx (hb hby at_116) (teq hc116).1 136 (by decide) (by decide) ?_
              refine Gk.iconst X346 hx (hb hby at_136) (0 : Int32) rfl ?_
              refine Gk.istore X346 hx (hb hby at_137) #[.val (.int p1), .val (.int p2), .val (.int p3), .val (.int p4), .val (.int p5), .val (.int p6), .val (.int (5 : Int32)), .val (.int (1 : Int32)), .val (.ref b1), .val (.ref sa), .val (.int (0 : Int32))] rfl ?_
              refine Gk.aload X346 hx (hb hby at_139) rfl rfl ?_
              refine Gk.iload X346 hx (hb hby at_141) rfl ?_
              have H348 := (H308.keep K307 all0)
              have H349 := (((H34.keep K32 all0).wr W38).keep K307 all0)
              have R351_ := R32_.trans (CHr.wr W38 sf38 R32_.1)
              have R352_ := R351_.trans (CHr.keep K307 (fun _ q_ => absurd q_ (List.not_mem_nil)) R351_.1)
              refine Gk.callSH (s := s) (argsL := [(.ref sa), (.int (1 : Int32))]) X346 hx Z32_ o32_ (ie_0_1 l Z a0 T307.heap n0 hw sa sb ks fs (5 : Int32) d1 d2 d3 w_COMPACT_STRINGS w_SIOOBE_FORMATTER (Nat.le_trans Z0 (Nat.le_trans gr312 K307.1)) H348 H349 Es Fcs Fvs Vs (by decide) (by decide) (by decide) (by decide) (by rw [efs]; rfl) (by rw [efs]; rfl) (by rw [efs]; rfl) hle1 hle2 hle3 hd1 hd2 hd3 hcs hsf) (W hw 37 rfl) (W hw 38 rfl) (W hw 39 rfl) (W hw 40 rfl) (by decide) e346 S32_ (Nat.le_trans q32_ (Nat.le_trans (Keep.of_wr W38).1 K307.1)) (own_EW hw) R352_.1 pd_22 rfl rfl rfl (by rw [hml]; rfl) rfl (hb hby at_143) ?_
              intro T347 L347 v347 kS347 X347 S347_ q347_ Z347_ o347_ C347_ hQ347
              have R347_ := R352_.trans C347_
              obtain ⟨rfl, N347q, K347⟩ := hQ347
              have N347 := Fr.app N346 N347q
              rw [show isEsc d1 d2 d3 = (0 : Int32) from if_neg (fun q_ => absurd (q_.2.1.symm.trans hc116) (by decide))]
              show Go p e below (T347.setTop (mkF m 146 _ [(.int (0 : Int32))])) _
              refine Gk.iload X347 hx (hb hby at_146) rfl ?_
              refine Gk.icmpNo X347 hx (hb hby at_148) (teq (by decide : (0 : Int32) = (0 : Int32))).2 ?_
              refine Gk.iconst X347 hx (hb hby at_151) (1 : Int32) rfl ?_
              refine Gk.goto X347 hx (hb hby at_152) 156 (by decide) (by decide) ?_
              exact Gk.rNL (s := s) X347 hx Bd.returns (by simp) Bd.notSynchronized (hb hby at_156) rfl S347_ (Nat.le_trans q347_ (Nat.le_refl _)) (1 : Int32) rfl ⟨rfl, N347⟩
            · refine Gk.ifNo X346 hx (hb hby at_116) (feq hc116).1 ?_
              refine Gk.aload X346 hx (hb hby at_119) rfl rfl ?_
              refine Gk.iload X346 hx (hb hby at_121) rfl ?_
              refine Gk.iconst X346 hx (hb hby at_123) (2 : Int32) rfl ?_
              refine Gk.iadd X346 hx (hb hby at_124) (3 : Int32) (by decide) ?_
              refine Gk.caload X346 hx Z32_ e346 H344 ⟨by decide, by decide⟩ (.int d3) rfl (hb hby at_125) ?_
              refine Gk.callS (argsL := [(.int d3)]) X346 hx Z32_ o32_ (ishex l Z a0 T307.heap n0 hw d3 (Nat.le_trans Z0 (Nat.le_trans gr312 K307.1))) (W hw 108 rfl) (W hw 109 rfl) (W hw 3 rfl) (W hw 110 rfl) (by decide) e346 pd_23 rfl rfl rfl (by rw [hml]; rfl) rfl (hb hby at_126) ?_
              intro T354 L354 v354 X354 hQ354
              obtain ⟨rfl, N354q, e354⟩ := hQ354
              have N354 := Fr.app N346 N354q
              show Go p e below (T354.setTop (mkF m 129 _ [(.int (hexB d3))])) _
              by_cases hc129 : (hexB d3) = (0 : Int32)
              · refine Gk.ifYes X354 hx (hb hby at_129) (teq hc129).1 136 (by decide) (by decide) ?_
                refine Gk.iconst X354 hx (hb hby at_136) (0 : Int32) rfl ?_
                refine Gk.istore X354 hx (hb hby at_137) #[.val (.int p1), .val (.int p2), .val (.int p3), .val (.int p4), .val (.int p5), .val (.int p6), .val (.int (5 : Int32)), .val (.int (1 : Int32)), .val (.ref b1), .val (.ref sa), .val (.int (0 : Int32))] rfl ?_
                refine Gk.aload X354 hx (hb hby at_139) rfl rfl ?_
                refine Gk.iload X354 hx (hb hby at_141) rfl ?_
                have H356 := (H308.keep K307 all0)
                have H357 := (((H34.keep K32 all0).wr W38).keep K307 all0)
                have R359_ := R32_.trans (CHr.wr W38 sf38 R32_.1)
                have R360_ := R359_.trans (CHr.keep K307 (fun _ q_ => absurd q_ (List.not_mem_nil)) R359_.1)
                refine Gk.callSH (s := s) (argsL := [(.ref sa), (.int (1 : Int32))]) X354 hx Z32_ o32_ (ie_0_1 l Z a0 T307.heap n0 hw sa sb ks fs (5 : Int32) d1 d2 d3 w_COMPACT_STRINGS w_SIOOBE_FORMATTER (Nat.le_trans Z0 (Nat.le_trans gr312 K307.1)) H356 H357 Es Fcs Fvs Vs (by decide) (by decide) (by decide) (by decide) (by rw [efs]; rfl) (by rw [efs]; rfl) (by rw [efs]; rfl) hle1 hle2 hle3 hd1 hd2 hd3 hcs hsf) (W hw 37 rfl) (W hw 38 rfl) (W hw 39 rfl) (W hw 40 rfl) (by decide) e354 S32_ (Nat.le_trans q32_ (Nat.le_trans (Keep.of_wr W38).1 K307.1)) (own_EW hw) R360_.1 pd_22 rfl rfl rfl (by rw [hml]; rfl) rfl (hb hby at_143) ?_
                intro T355 L355 v355 kS355 X355 S355_ q355_ Z355_ o355_ C355_ hQ355
                have R355_ := R360_.trans C355_
                obtain ⟨rfl, N355q, K355⟩ := hQ355
                have N355 := Fr.app N354 N355q
                rw [show isEsc d1 d2 d3 = (0 : Int32) from if_neg (fun q_ => absurd (q_.2.2.symm.trans hc129) (by decide))]
                show Go p e below (T355.setTop (mkF m 146 _ [(.int (0 : Int32))])) _
                refine Gk.iload X355 hx (hb hby at_146) rfl ?_
                refine Gk.icmpNo X355 hx (hb hby at_148) (teq (by decide : (0 : Int32) = (0 : Int32))).2 ?_
                refine Gk.iconst X355 hx (hb hby at_151) (1 : Int32) rfl ?_
                refine Gk.goto X355 hx (hb hby at_152) 156 (by decide) (by decide) ?_
                exact Gk.rNL (s := s) X355 hx Bd.returns (by simp) Bd.notSynchronized (hb hby at_156) rfl S355_ (Nat.le_trans q355_ (Nat.le_refl _)) (1 : Int32) rfl ⟨rfl, N355⟩
              · refine Gk.ifNo X354 hx (hb hby at_129) (feq hc129).1 ?_
                refine Gk.iconst X354 hx (hb hby at_132) (1 : Int32) rfl ?_
                refine Gk.goto X354 hx (hb hby at_133) 137 (by decide) (by decide) ?_
                refine Gk.istore X354 hx (hb hby at_137) #[.val (.int p1), .val (.int p2), .val (.int p3), .val (.int p4), .val (.int p5), .val (.int p6), .val (.int (5 : Int32)), .val (.int (1 : Int32)), .val (.ref b1), .val (.ref sa), .val (.int (1 : Int32))] rfl ?_
                refine Gk.aload X354 hx (hb hby at_139) rfl rfl ?_
                refine Gk.iload X354 hx (hb hby at_141) rfl ?_
                have H362 := (H308.keep K307 all0)
                have H363 := (((H34.keep K32 all0).wr W38).keep K307 all0)
                have R365_ := R32_.trans (CHr.wr W38 sf38 R32_.1)
                have R366_ := R365_.trans (CHr.keep K307 (fun _ q_ => absurd q_ (List.not_mem_nil)) R365_.1)
                refine Gk.callSH (s := s) (argsL := [(.ref sa), (.int (1 : Int32))]) X354 hx Z32_ o32_ (ie_0_1 l Z a0 T307.heap n0 hw sa sb ks fs (5 : Int32) d1 d2 d3 w_COMPACT_STRINGS w_SIOOBE_FORMATTER (Nat.le_trans Z0 (Nat.le_trans gr312 K307.1)) H362 H363 Es Fcs Fvs Vs (by decide) (by decide) (by decide) (by decide) (by rw [efs]; rfl) (by rw [efs]; rfl) (by rw [efs]; rfl) hle1 hle2 hle3 hd1 hd2 hd3 hcs hsf) (W hw 37 rfl) (W hw 38 rfl) (W hw 39 rfl) (W hw 40 rfl) (by decide) e354 S32_ (Nat.le_trans q32_ (Nat.le_trans (Keep.of_wr W38).1 K307.1)) (own_EW hw) R366_.1 pd_22 rfl rfl rfl (by rw [hml]; rfl) rfl (hb hby at_143) ?_
                intro T361 L361 v361 kS361 X361 S361_ q361_ Z361_ o361_ C361_ hQ361
                have R361_ := R366_.trans C361_
                obtain ⟨rfl, N361q, K361⟩ := hQ361
                have N361 := Fr.app N354 N361q
                rw [show isEsc d1 d2 d3 = (1 : Int32) from if_pos ⟨hc103, (hexB_01 _).resolve_left hc116, (hexB_01 _).resolve_left hc129⟩]
                show Go p e below (T361.setTop (mkF m 146 _ [(.int (1 : Int32))])) _
                refine Gk.iload X361 hx (hb hby at_146) rfl ?_
                refine Gk.icmpNo X361 hx (hb hby at_148) (teq (by decide : (1 : Int32) = (1 : Int32))).2 ?_
                refine Gk.iconst X361 hx (hb hby at_151) (1 : Int32) rfl ?_
                refine Gk.goto X361 hx (hb hby at_152) 156 (by decide) (by decide) ?_
                exact Gk.rNL (s := s) X361 hx Bd.returns (by simp) Bd.notSynchronized (hb hby at_156) rfl S361_ (Nat.le_trans q361_ (Nat.le_refl _)) (1 : Int32) rfl ⟨rfl, N361⟩
          · refine Gk.icmpYes X307 hx (hb hby at_103) (feq hc103).2 136 (by decide) (by decide) ?_
            refine Gk.iconst X307 hx (hb hby at_136) (0 : Int32) rfl ?_
            refine Gk.istore X307 hx (hb hby at_137) #[.val (.int p1), .val (.int p2), .val (.int p3), .val (.int p4), .val (.int p5), .val (.int p6), .val (.int (5 : Int32)), .val (.int (1 : Int32)), .val (.ref b1), .val (.ref sa), .val (.int (0 : Int32))] rfl ?_
            refine Gk.aload X307 hx (hb hby at_139) rfl rfl ?_
            refine Gk.iload X307 hx (hb hby at_141) rfl ?_
            have H368 := (H308.keep K307 all0)
            have H369 := (((H34.keep K32 all0).wr W38).keep K307 all0)
            have R371_ := R32_.trans (CHr.wr W38 sf38 R32_.1)
            have R372_ := R371_.trans (CHr.keep K307 (fun _ q_ => absurd q_ (List.not_mem_nil)) R371_.1)
            refine Gk.callSH (s := s) (argsL := [(.ref sa), (.int (1 : Int32))]) X307 hx Z32_ o32_ (ie_0_1 l Z a0 T307.heap n0 hw sa sb ks fs (5 : Int32) d1 d2 d3 w_COMPACT_STRINGS w_SIOOBE_FORMATTER (Nat.le_trans Z0 (Nat.le_trans gr312 K307.1)) H368 H369 Es Fcs Fvs Vs (by decide) (by decide) (by decide) (by decide) (by rw [efs]; rfl) (by rw [efs]; rfl) (by rw [efs]; rfl) hle1 hle2 hle3 hd1 hd2 hd3 hcs hsf) (W hw 37 rfl) (W hw 38 rfl) (W hw 39 rfl) (W hw 40 rfl) (by decide) rfl S32_ (Nat.le_trans q32_ (Nat.le_trans (Keep.of_wr W38).1 K307.1)) (own_EW hw) R372_.1 pd_22 rfl rfl rfl (by rw [hml]; rfl) rfl (hb hby at_143) ?_
            intro T367 L367 v367 kS367 X367 S367_ q367_ Z367_ o367_ C367_ hQ367
            have R367_ := R372_.trans C367_
            obtain ⟨rfl, N367q, K367⟩ := hQ367
            have N367 := Fr.app N307 N367q
            rw [show isEsc d1 d2 d3 = (0 : Int32) from if_neg (fun q_ => hc103 q_.1)]
            show Go p e below (T367.setTop (mkF m 146 _ [(.int (0 : Int32))])) _
            refine Gk.iload X367 hx (hb hby at_146) rfl ?_
            refine Gk.icmpNo X367 hx (hb hby at_148) (teq (by decide : (0 : Int32) = (0 : Int32))).2 ?_
            refine Gk.iconst X367 hx (hb hby at_151) (1 : Int32) rfl ?_
            refine Gk.goto X367 hx (hb hby at_152) 156 (by decide) (by decide) ?_
            exact Gk.rNL (s := s) X367 hx Bd.returns (by simp) Bd.notSynchronized (hb hby at_156) rfl S367_ (Nat.le_trans q367_ (Nat.le_refl _)) (1 : Int32) rfl ⟨rfl, N367⟩
        · show Go p e below (T307.setTop (mkF m 96 #[.val (.int p1), .val (.int p2), .val (.int p3), .val (.int p4), .val (.int p5), .val (.int p6), .val (.int (5 : Int32)), .val (.int atv), .val (.ref b1), .val (.ref sa), .unset] [])) _
          rw [hka]
          refine Gk.aload X307 hx (hb hby at_96) rfl rfl ?_
          refine Gk.iload X307 hx (hb hby at_98) rfl ?_
          have H374 := (V38.keep K307 nin0)
          refine Gk.caload X307 hx Z32_ rfl H374 ⟨by decide, by decide⟩ (.int d2) rfl (hb hby at_100) ?_
          refine Gk.bipush X307 hx (hb hby at_101) (37 : Int32) rfl ?_
          by_cases hc103 : d2 = (37 : Int32)
          · refine Gk.icmpNo X307 hx (hb hby at_103) (teq hc103).2 ?_
            refine Gk.aload X307 hx (hb hby at_106) rfl rfl ?_
            refine Gk.iload X307 hx (hb hby at_108) rfl ?_
            refine Gk.iconst X307 hx (hb hby at_110) (1 : Int32) rfl ?_
            refine Gk.iadd X307 hx (hb hby at_111) (3 : Int32) (by decide) ?_
            refine Gk.caload X307 hx Z32_ rfl H374 ⟨by decide, by decide⟩ (.int d3) rfl (hb hby at_112) ?_
            refine Gk.callS (argsL := [(.int d3)]) X307 hx Z32_ o32_ (ishex l Z a0 T307.heap n0 hw d3 (Nat.le_trans Z0 (Nat.le_trans gr312 K307.1))) (W hw 108 rfl) (W hw 109 rfl) (W hw 3 rfl) (W hw 110 rfl) (by decide) rfl pd_23 rfl rfl rfl (by rw [hml]; rfl) rfl (hb hby at_113) ?_
            intro T376 L376 v376 X376 hQ376
            obtain ⟨rfl, N376q, e376⟩ := hQ376
            have N376 := Fr.app N307 N376q
            show Go p e below (T376.setTop (mkF m 116 _ [(.int (hexB d3))])) _
            by_cases hc116 : (hexB d3) = (0 : Int32)
            · refine Gk.ifYes X376 hx (hb hby at_116) (teq hc116).1 136 (by decide) (by decide) ?_
              refine Gk.iconst X376 hx (hb hby at_136) (0 : Int32) rfl ?_
              refine Gk.istore X376 hx (hb hby at_137) #[.val (.int p1), .val (.int p2), .val (.int p3), .val (.int p4), .val (.int p5), .val (.int p6), .val (.int (5 : Int32)), .val (.int (2 : Int32)), .val (.ref b1), .val (.ref sa), .val (.int (0 : Int32))] rfl ?_
              refine Gk.aload X376 hx (hb hby at_139) rfl rfl ?_
              refine Gk.iload X376 hx (hb hby at_141) rfl ?_
              have H378 := (H308.keep K307 all0)
              have H379 := (((H34.keep K32 all0).wr W38).keep K307 all0)
              have R381_ := R32_.trans (CHr.wr W38 sf38 R32_.1)
              have R382_ := R381_.trans (CHr.keep K307 (fun _ q_ => absurd q_ (List.not_mem_nil)) R381_.1)
              refine Gk.callSH (s := s) (argsL := [(.ref sa), (.int (2 : Int32))]) X376 hx Z32_ o32_ (ie_0_2 l Z a0 T307.heap n0 hw sa sb ks fs (5 : Int32) d2 d3 d4 w_COMPACT_STRINGS w_SIOOBE_FORMATTER (Nat.le_trans Z0 (Nat.le_trans gr312 K307.1)) H378 H379 Es Fcs Fvs Vs (by decide) (by decide) (by decide) (by decide) (by rw [efs]; rfl) (by rw [efs]; rfl) (by rw [efs]; rfl) hle2 hle3 hle4 hd2 hd3 hd4 hcs hsf) (W hw 37 rfl) (W hw 38 rfl) (W hw 39 rfl) (W hw 40 rfl) (by decide) e376 S32_ (Nat.le_trans q32_ (Nat.le_trans (Keep.of_wr W38).1 K307.1)) (own_EW hw) R382_.1 pd_22 rfl rfl rfl (by rw [hml]; rfl) rfl (hb hby at_143) ?_
              intro T377 L377 v377 kS377 X377 S377_ q377_ Z377_ o377_ C377_ hQ377
              have R377_ := R382_.trans C377_
              obtain ⟨rfl, N377q, K377⟩ := hQ377
              have N377 := Fr.app N376 N377q
              rw [show isEsc d2 d3 d4 = (0 : Int32) from if_neg (fun q_ => absurd (q_.2.1.symm.trans hc116) (by decide))]
              show Go p e below (T377.setTop (mkF m 146 _ [(.int (0 : Int32))])) _
              refine Gk.iload X377 hx (hb hby at_146) rfl ?_
              refine Gk.icmpNo X377 hx (hb hby at_148) (teq (by decide : (0 : Int32) = (0 : Int32))).2 ?_
              refine Gk.iconst X377 hx (hb hby at_151) (1 : Int32) rfl ?_
              refine Gk.goto X377 hx (hb hby at_152) 156 (by decide) (by decide) ?_
              exact Gk.rNL (s := s) X377 hx Bd.returns (by simp) Bd.notSynchronized (hb hby at_156) rfl S377_ (Nat.le_trans q377_ (Nat.le_refl _)) (1 : Int32) rfl ⟨rfl, N377⟩
            · refine Gk.ifNo X376 hx (hb hby at_116) (feq hc116).1 ?_
              refine Gk.aload X376 hx (hb hby at_119) rfl rfl ?_
              refine Gk.iload X376 hx (hb hby at_121) rfl ?_
              refine Gk.iconst X376 hx (hb hby at_123) (2 : Int32) rfl ?_
              refine Gk.iadd X376 hx (hb hby at_124) (4 : Int32) (by decide) ?_
              refine Gk.caload X376 hx Z32_ e376 H374 ⟨by decide, by decide⟩ (.int d4) rfl (hb hby at_125) ?_
              refine Gk.callS (argsL := [(.int d4)]) X376 hx Z32_ o32_ (ishex l Z a0 T307.heap n0 hw d4 (Nat.le_trans Z0 (Nat.le_trans gr312 K307.1))) (W hw 108 rfl) (W hw 109 rfl) (W hw 3 rfl) (W hw 110 rfl) (by decide) e376 pd_23 rfl rfl rfl (by rw [hml]; rfl) rfl (hb hby at_126) ?_
              intro T384 L384 v384 X384 hQ384
              obtain ⟨rfl, N384q, e384⟩ := hQ384
              have N384 := Fr.app N376 N384q
              show Go p e below (T384.setTop (mkF m 129 _ [(.int (hexB d4))])) _
              by_cases hc129 : (hexB d4) = (0 : Int32)
              · refine Gk.ifYes X384 hx (hb hby at_129) (teq hc129).1 136 (by decide) (by decide) ?_
                refine Gk.iconst X384 hx (hb hby at_136) (0 : Int32) rfl ?_
                refine Gk.istore X384 hx (hb hby at_137) #[.val (.int p1), .val (.int p2), .val (.int p3), .val (.int p4), .val (.int p5), .val (.int p6), .val (.int (5 : Int32)), .val (.int (2 : Int32)), .val (.ref b1), .val (.ref sa), .val (.int (0 : Int32))] rfl ?_
                refine Gk.aload X384 hx (hb hby at_139) rfl rfl ?_
                refine Gk.iload X384 hx (hb hby at_141) rfl ?_
                have H386 := (H308.keep K307 all0)
                have H387 := (((H34.keep K32 all0).wr W38).keep K307 all0)
                have R389_ := R32_.trans (CHr.wr W38 sf38 R32_.1)
                have R390_ := R389_.trans (CHr.keep K307 (fun _ q_ => absurd q_ (List.not_mem_nil)) R389_.1)
                refine Gk.callSH (s := s) (argsL := [(.ref sa), (.int (2 : Int32))]) X384 hx Z32_ o32_ (ie_0_2 l Z a0 T307.heap n0 hw sa sb ks fs (5 : Int32) d2 d3 d4 w_COMPACT_STRINGS w_SIOOBE_FORMATTER (Nat.le_trans Z0 (Nat.le_trans gr312 K307.1)) H386 H387 Es Fcs Fvs Vs (by decide) (by decide) (by decide) (by decide) (by rw [efs]; rfl) (by rw [efs]; rfl) (by rw [efs]; rfl) hle2 hle3 hle4 hd2 hd3 hd4 hcs hsf) (W hw 37 rfl) (W hw 38 rfl) (W hw 39 rfl) (W hw 40 rfl) (by decide) e384 S32_ (Nat.le_trans q32_ (Nat.le_trans (Keep.of_wr W38).1 K307.1)) (own_EW hw) R390_.1 pd_22 rfl rfl rfl (by rw [hml]; rfl) rfl (hb hby at_143) ?_
                intro T385 L385 v385 kS385 X385 S385_ q385_ Z385_ o385_ C385_ hQ385
                have R385_ := R390_.trans C385_
                obtain ⟨rfl, N385q, K385⟩ := hQ385
                have N385 := Fr.app N384 N385q
                rw [show isEsc d2 d3 d4 = (0 : Int32) from if_neg (fun q_ => absurd (q_.2.2.symm.trans hc129) (by decide))]
                show Go p e below (T385.setTop (mkF m 146 _ [(.int (0 : Int32))])) _
                refine Gk.iload X385 hx (hb hby at_146) rfl ?_
                refine Gk.icmpNo X385 hx (hb hby at_148) (teq (by decide : (0 : Int32) = (0 : Int32))).2 ?_
                refine Gk.iconst X385 hx (hb hby at_151) (1 : Int32) rfl ?_
                refine Gk.goto X385 hx (hb hby at_152) 156 (by decide) (by decide) ?_
                exact Gk.rNL (s := s) X385 hx Bd.returns (by simp) Bd.notSynchronized (hb hby at_156) rfl S385_ (Nat.le_trans q385_ (Nat.le_refl _)) (1 : Int32) rfl ⟨rfl, N385⟩
              · refine Gk.ifNo X384 hx (hb hby at_129) (feq hc129).1 ?_
                refine Gk.iconst X384 hx (hb hby at_132) (1 : Int32) rfl ?_
                refine Gk.goto X384 hx (hb hby at_133) 137 (by decide) (by decide) ?_
                refine Gk.istore X384 hx (hb hby at_137) #[.val (.int p1), .val (.int p2), .val (.int p3), .val (.int p4), .val (.int p5), .val (.int p6), .val (.int (5 : Int32)), .val (.int (2 : Int32)), .val (.ref b1), .val (.ref sa), .val (.int (1 : Int32))] rfl ?_
                refine Gk.aload X384 hx (hb hby at_139) rfl rfl ?_
                refine Gk.iload X384 hx (hb hby at_141) rfl ?_
                have H392 := (H308.keep K307 all0)
                have H393 := (((H34.keep K32 all0).wr W38).keep K307 all0)
                have R395_ := R32_.trans (CHr.wr W38 sf38 R32_.1)
                have R396_ := R395_.trans (CHr.keep K307 (fun _ q_ => absurd q_ (List.not_mem_nil)) R395_.1)
                refine Gk.callSH (s := s) (argsL := [(.ref sa), (.int (2 : Int32))]) X384 hx Z32_ o32_ (ie_0_2 l Z a0 T307.heap n0 hw sa sb ks fs (5 : Int32) d2 d3 d4 w_COMPACT_STRINGS w_SIOOBE_FORMATTER (Nat.le_trans Z0 (Nat.le_trans gr312 K307.1)) H392 H393 Es Fcs Fvs Vs (by decide) (by decide) (by decide) (by decide) (by rw [efs]; rfl) (by rw [efs]; rfl) (by rw [efs]; rfl) hle2 hle3 hle4 hd2 hd3 hd4 hcs hsf) (W hw 37 rfl) (W hw 38 rfl) (W hw 39 rfl) (W hw 40 rfl) (by decide) e384 S32_ (Nat.le_trans q32_ (Nat.le_trans (Keep.of_wr W38).1 K307.1)) (own_EW hw) R396_.1 pd_22 rfl rfl rfl (by rw [hml]; rfl) rfl (hb hby at_143) ?_
                intro T391 L391 v391 kS391 X391 S391_ q391_ Z391_ o391_ C391_ hQ391
                have R391_ := R396_.trans C391_
                obtain ⟨rfl, N391q, K391⟩ := hQ391
                have N391 := Fr.app N384 N391q
                rw [show isEsc d2 d3 d4 = (1 : Int32) from if_pos ⟨hc103, (hexB_01 _).resolve_left hc116, (hexB_01 _).resolve_left hc129⟩]
                show Go p e below (T391.setTop (mkF m 146 _ [(.int (1 : Int32))])) _
                refine Gk.iload X391 hx (hb hby at_146) rfl ?_
                refine Gk.icmpNo X391 hx (hb hby at_148) (teq (by decide : (1 : Int32) = (1 : Int32))).2 ?_
                refine Gk.iconst X391 hx (hb hby at_151) (1 : Int32) rfl ?_
                refine Gk.goto X391 hx (hb hby at_152) 156 (by decide) (by decide) ?_
                exact Gk.rNL (s := s) X391 hx Bd.returns (by simp) Bd.notSynchronized (hb hby at_156) rfl S391_ (Nat.le_trans q391_ (Nat.le_refl _)) (1 : Int32) rfl ⟨rfl, N391⟩
          · refine Gk.icmpYes X307 hx (hb hby at_103) (feq hc103).2 136 (by decide) (by decide) ?_
            refine Gk.iconst X307 hx (hb hby at_136) (0 : Int32) rfl ?_
            refine Gk.istore X307 hx (hb hby at_137) #[.val (.int p1), .val (.int p2), .val (.int p3), .val (.int p4), .val (.int p5), .val (.int p6), .val (.int (5 : Int32)), .val (.int (2 : Int32)), .val (.ref b1), .val (.ref sa), .val (.int (0 : Int32))] rfl ?_
            refine Gk.aload X307 hx (hb hby at_139) rfl rfl ?_
            refine Gk.iload X307 hx (hb hby at_141) rfl ?_
            have H398 := (H308.keep K307 all0)
            have H399 := (((H34.keep K32 all0).wr W38).keep K307 all0)
            have R401_ := R32_.trans (CHr.wr W38 sf38 R32_.1)
            have R402_ := R401_.trans (CHr.keep K307 (fun _ q_ => absurd q_ (List.not_mem_nil)) R401_.1)
            refine Gk.callSH (s := s) (argsL := [(.ref sa), (.int (2 : Int32))]) X307 hx Z32_ o32_ (ie_0_2 l Z a0 T307.heap n0 hw sa sb ks fs (5 : Int32) d2 d3 d4 w_COMPACT_STRINGS w_SIOOBE_FORMATTER (Nat.le_trans Z0 (Nat.le_trans gr312 K307.1)) H398 H399 Es Fcs Fvs Vs (by decide) (by decide) (by decide) (by decide) (by rw [efs]; rfl) (by rw [efs]; rfl) (by rw [efs]; rfl) hle2 hle3 hle4 hd2 hd3 hd4 hcs hsf) (W hw 37 rfl) (W hw 38 rfl) (W hw 39 rfl) (W hw 40 rfl) (by decide) rfl S32_ (Nat.le_trans q32_ (Nat.le_trans (Keep.of_wr W38).1 K307.1)) (own_EW hw) R402_.1 pd_22 rfl rfl rfl (by rw [hml]; rfl) rfl (hb hby at_143) ?_
            intro T397 L397 v397 kS397 X397 S397_ q397_ Z397_ o397_ C397_ hQ397
            have R397_ := R402_.trans C397_
            obtain ⟨rfl, N397q, K397⟩ := hQ397
            have N397 := Fr.app N307 N397q
            rw [show isEsc d2 d3 d4 = (0 : Int32) from if_neg (fun q_ => hc103 q_.1)]
            show Go p e below (T397.setTop (mkF m 146 _ [(.int (0 : Int32))])) _
            refine Gk.iload X397 hx (hb hby at_146) rfl ?_
            refine Gk.icmpNo X397 hx (hb hby at_148) (teq (by decide : (0 : Int32) = (0 : Int32))).2 ?_
            refine Gk.iconst X397 hx (hb hby at_151) (1 : Int32) rfl ?_
            refine Gk.goto X397 hx (hb hby at_152) 156 (by decide) (by decide) ?_
            exact Gk.rNL (s := s) X397 hx Bd.returns (by simp) Bd.notSynchronized (hb hby at_156) rfl S397_ (Nat.le_trans q397_ (Nat.le_refl _)) (1 : Int32) rfl ⟨rfl, N397⟩
      · refine Gk.icmpYes X307 hx (hb hby at_93) (flt hc93).2.1 136 (by decide) (by decide) ?_
        refine Gk.iconst X307 hx (hb hby at_136) (0 : Int32) rfl ?_
        refine Gk.istore X307 hx (hb hby at_137) #[.val (.int p1), .val (.int p2), .val (.int p3), .val (.int p4), .val (.int p5), .val (.int p6), .val (.int (5 : Int32)), .val (.int atv), .val (.ref b1), .val (.ref sa), .val (.int (0 : Int32))] rfl ?_
        refine Gk.aload X307 hx (hb hby at_139) rfl rfl ?_
        refine Gk.iload X307 hx (hb hby at_141) rfl ?_
        have H404 := (H308.keep K307 all0)
        refine Gk.callS (argsL := [(.ref sa), (.int atv)]) X307 hx Z32_ o32_ (ie0_0 l Z a0 T307.heap n0 hw sa atv sb ks fs (5 : Int32) w_COMPACT_STRINGS (Nat.le_trans Z0 (Nat.le_trans gr312 K307.1)) H404 Es Fcs Fvs Vs (by rw [show ((5 : Int32) >>> ((0 : Int32) &&& 31)) = (5 : Int32) from by decide]; exact hc93) hcs) (W hw 37 rfl) (W hw 38 rfl) (W hw 39 rfl) (W hw 40 rfl) (by decide) rfl pd_22 rfl rfl rfl (by rw [hml]; rfl) rfl (hb hby at_143) ?_
        intro T403 L403 v403 X403 hQ403
        obtain ⟨rfl, N403q, e403⟩ := hQ403
        have N403 := Fr.app N307 N403q
        show Go p e below (T403.setTop (mkF m 146 _ [(.int (0 : Int32))])) _
        refine Gk.iload X403 hx (hb hby at_146) rfl ?_
        refine Gk.icmpNo X403 hx (hb hby at_148) (teq (by decide : (0 : Int32) = (0 : Int32))).2 ?_
        refine Gk.iconst X403 hx (hb hby at_151) (1 : Int32) rfl ?_
        refine Gk.goto X403 hx (hb hby at_152) 156 (by decide) (by decide) ?_
        exact Gk.rNL (s := s) X403 hx Bd.returns (by simp) Bd.notSynchronized (hb hby at_156) e403 S32_ (Nat.le_trans q32_ (Nat.le_trans (Keep.of_wr W38).1 K307.1)) (1 : Int32) rfl ⟨rfl, N403⟩
    · show Go p e below (T307.setTop (mkF m 85 #[.val (.int p1), .val (.int p2), .val (.int p3), .val (.int p4), .val (.int p5), .val (.int p6), .val (.int (5 : Int32)), .val (.int atv), .val (.ref b1), .unset, .unset] [(.ref sa)])) _
      obtain ⟨fs, efs⟩ : ∃ z_ : Nat → Value, z_ = (upd (upd (upd (upd (upd (upd (upd (upd (upd (upd (fun _ => (.int (0 : Int32))) 0 (.int ((d0 >>> ((0 : Int32) &&& 31)).toInt8.toInt32))) 1 (.int ((d0 >>> ((8 : Int32) &&& 31)).toInt8.toInt32))) 2 (.int ((d1 >>> ((0 : Int32) &&& 31)).toInt8.toInt32))) 3 (.int ((d1 >>> ((8 : Int32) &&& 31)).toInt8.toInt32))) 4 (.int ((d2 >>> ((0 : Int32) &&& 31)).toInt8.toInt32))) 5 (.int ((d2 >>> ((8 : Int32) &&& 31)).toInt8.toInt32))) 6 (.int ((d3 >>> ((0 : Int32) &&& 31)).toInt8.toInt32))) 7 (.int ((d3 >>> ((8 : Int32) &&& 31)).toInt8.toInt32))) 8 (.int ((d4 >>> ((0 : Int32) &&& 31)).toInt8.toInt32))) 9 (.int ((d4 >>> ((8 : Int32) &&& 31)).toInt8.toInt32))) := ⟨_, rfl⟩
      rw [← efs] at Vs
      refine Gk.astore X307 hx (hb hby at_85) rfl #[.val (.int p1), .val (.int p2), .val (.int p3), .val (.int p4), .val (.int p5), .val (.int p6), .val (.int (5 : Int32)), .val (.int atv), .val (.ref b1), .val (.ref sa), .unset] rfl ?_
      refine Gk.iload X307 hx (hb hby at_87) rfl ?_
      refine Gk.iconst X307 hx (hb hby at_89) (2 : Int32) rfl ?_
      refine Gk.iadd X307 hx (hb hby at_90) _ rfl ?_
      refine Gk.iload X307 hx (hb hby at_91) rfl ?_
      by_cases hc93 : (atv + (2 : Int32)) < (5 : Int32)
      · refine Gk.icmpNo X307 hx (hb hby at_93) (tlt hc93).2.1 ?_
        rcases own_at5 (own_at7 eatv) hc93 with hka | hka | hka
        · show Go p e below (T307.setTop (mkF m 96 #[.val (.int p1), .val (.int p2), .val (.int p3), .val (.int p4), .val (.int p5), .val (.int p6), .val (.int (5 : Int32)), .val (.int atv), .val (.ref b1), .val (.ref sa), .unset] [])) _
          rw [hka]
          refine Gk.aload X307 hx (hb hby at_96) rfl rfl ?_
          refine Gk.iload X307 hx (hb hby at_98) rfl ?_
          have H406 := (V38.keep K307 nin0)
          refine Gk.caload X307 hx Z32_ rfl H406 ⟨by decide, by decide⟩ (.int d0) rfl (hb hby at_100) ?_
          refine Gk.bipush X307 hx (hb hby at_101) (37 : Int32) rfl ?_
          by_cases hc103 : d0 = (37 : Int32)
          · refine Gk.icmpNo X307 hx (hb hby at_103) (teq hc103).2 ?_
            refine Gk.aload X307 hx (hb hby at_106) rfl rfl ?_
            refine Gk.iload X307 hx (hb hby at_108) rfl ?_
            refine Gk.iconst X307 hx (hb hby at_110) (1 : Int32) rfl ?_
            refine Gk.iadd X307 hx (hb hby at_111) (1 : Int32) (by decide) ?_
            refine Gk.caload X307 hx Z32_ rfl H406 ⟨by decide, by decide⟩ (.int d1) rfl (hb hby at_112) ?_
            refine Gk.callS (argsL := [(.int d1)]) X307 hx Z32_ o32_ (ishex l Z a0 T307.heap n0 hw d1 (Nat.le_trans Z0 (Nat.le_trans gr312 K307.1))) (W hw 108 rfl) (W hw 109 rfl) (W hw 3 rfl) (W hw 110 rfl) (by decide) rfl pd_23 rfl rfl rfl (by rw [hml]; rfl) rfl (hb hby at_113) ?_
            intro T408 L408 v408 X408 hQ408
            obtain ⟨rfl, N408q, e408⟩ := hQ408
            have N408 := Fr.app N307 N408q
            show Go p e below (T408.setTop (mkF m 116 _ [(.int (hexB d1))])) _
            by_cases hc116 : (hexB d1) = (0 : Int32)
            · refine Gk.ifYes X408 hx (hb hby at_116) (teq hc116).1 136 (by decide) (by decide) ?_
              refine Gk.iconst X408 hx (hb hby at_136) (0 : Int32) rfl ?_
              refine Gk.istore X408 hx (hb hby at_137) #[.val (.int p1), .val (.int p2), .val (.int p3), .val (.int p4), .val (.int p5), .val (.int p6), .val (.int (5 : Int32)), .val (.int (0 : Int32)), .val (.ref b1), .val (.ref sa), .val (.int (0 : Int32))] rfl ?_
              refine Gk.aload X408 hx (hb hby at_139) rfl rfl ?_
              refine Gk.iload X408 hx (hb hby at_141) rfl ?_
              have H410 := (H308.keep K307 all0)
              have H411 := (((H34.keep K32 all0).wr W38).keep K307 all0)
              have H412 := (H309.keep K307 all0)
              have H413 := (H310.keep K307 all0)
              have H414 := (H311.keep K307 all0)
              have R416_ := R32_.trans (CHr.wr W38 sf38 R32_.1)
              have R417_ := R416_.trans (CHr.keep K307 (fun _ q_ => absurd q_ (List.not_mem_nil)) R416_.1)
              refine Gk.callSH (s := s) (argsL := [(.ref sa), (.int (0 : Int32))]) X408 hx Z32_ o32_ (ie_1_0 l Z a0 T307.heap n0 hw sa sb ks fs (10 : Int32) d0 d1 d2 w_COMPACT_STRINGS w_SIOOBE_FORMATTER (Nat.le_trans Z0 (Nat.le_trans gr312 K307.1)) H410 H411 H412 H413 H414 Es Fcs Fvs Vs (by decide) (by decide) (by decide) (by decide) (by decide) (by decide) (by decide) (by decide) (by decide) (by decide) (by rw [efs]; rfl) (by rw [efs]; rfl) (by rw [efs]; rfl) (by rw [efs]; rfl) (by rw [efs]; rfl) (by rw [efs]; rfl) hd0 hd1 hd2 hcs hsf) (W hw 37 rfl) (W hw 38 rfl) (W hw 39 rfl) (W hw 40 rfl) (by decide) e408 S32_ (Nat.le_trans q32_ (Nat.le_trans (Keep.of_wr W38).1 K307.1)) (own_EW hw) R417_.1 pd_22 rfl rfl rfl (by rw [hml]; rfl) rfl (hb hby at_143) ?_
              intro T409 L409 v409 kS409 X409 S409_ q409_ Z409_ o409_ C409_ hQ409
              have R409_ := R417_.trans C409_
              obtain ⟨rfl, N409q, K409⟩ := hQ409
              have N409 := Fr.app N408 N409q
              rw [show isEsc d0 d1 d2 = (0 : Int32) from if_neg (fun q_ => absurd (q_.2.1.symm.trans hc116) (by decide))]
              show Go p e below (T409.setTop (mkF m 146 _ [(.int (0 : Int32))])) _
              refine Gk.iload X409 hx (hb hby at_146) rfl ?_
              refine Gk.icmpNo X409 hx (hb hby at_148) (teq (by decide : (0 : Int32) = (0 : Int32))).2 ?_
              refine Gk.iconst X409 hx (hb hby at_151) (1 : Int32) rfl ?_
              refine Gk.goto X409 hx (hb hby at_152) 156 (by decide) (by decide) ?_
              exact Gk.rNL (s := s) X409 hx Bd.returns (by simp) Bd.notSynchronized (hb hby at_156) rfl S409_ (Nat.le_trans q409_ (Nat.le_refl _)) (1 : Int32) rfl ⟨rfl, N409⟩
            · refine Gk.ifNo X408 hx (hb hby at_116) (feq hc116).1 ?_
              refine Gk.aload X408 hx (hb hby at_119) rfl rfl ?_
              refine Gk.iload X408 hx (hb hby at_121) rfl ?_
              refine Gk.iconst X408 hx (hb hby at_123) (2 : Int32) rfl ?_
              refine Gk.iadd X408 hx (hb hby at_124) (2 : Int32) (by decide) ?_
              refine Gk.caload X408 hx Z32_ e408 H406 ⟨by decide, by decide⟩ (.int d2) rfl (hb hby at_125) ?_
              refine Gk.callS (argsL := [(.int d2)]) X408 hx Z32_ o32_ (ishex l Z a0 T307.heap n0 hw d2 (Nat.le_trans Z0 (Nat.le_trans gr312 K307.1))) (W hw 108 rfl) (W hw 109 rfl) (W hw 3 rfl) (W hw 110 rfl) (by decide) e408 pd_23 rfl rfl rfl (by rw [hml]; rfl) rfl (hb hby at_126) ?_
              intro T419 L419 v419 X419 hQ419
              obtain ⟨rfl, N419q, e419⟩ := hQ419
              have N419 := Fr.app N408 N419q
              show Go p e below (T419.setTop (mkF m 129 _ [(.int (hexB d2))])) _
              by_cases hc129 : (hexB d2) = (0 : Int32)
              · refine Gk.ifYes X419 hx (hb hby at_129) (teq hc129).1 136 (by decide) (by decide) ?_
                refine Gk.iconst X419 hx (hb hby at_136) (0 : Int32) rfl ?_
                refine Gk.istore X419 hx (hb hby at_137) #[.val (.int p1), .val (.int p2), .val (.int p3), .val (.int p4), .val (.int p5), .val (.int p6), .val (.int (5 : Int32)), .val (.int (0 : Int32)), .val (.ref b1), .val (.ref sa), .val (.int (0 : Int32))] rfl ?_
                refine Gk.aload X419 hx (hb hby at_139) rfl rfl ?_
                refine Gk.iload X419 hx (hb hby at_141) rfl ?_
                have H421 := (H308.keep K307 all0)
                have H422 := (((H34.keep K32 all0).wr W38).keep K307 all0)
                have H423 := (H309.keep K307 all0)
                have H424 := (H310.keep K307 all0)
                have H425 := (H311.keep K307 all0)
                have R427_ := R32_.trans (CHr.wr W38 sf38 R32_.1)
                have R428_ := R427_.trans (CHr.keep K307 (fun _ q_ => absurd q_ (List.not_mem_nil)) R427_.1)
                refine Gk.callSH (s := s) (argsL := [(.ref sa), (.int (0 : Int32))]) X419 hx Z32_ o32_ (ie_1_0 l Z a0 T307.heap n0 hw sa sb ks fs (10 : Int32) d0 d1 d2 w_COMPACT_STRINGS w_SIOOBE_FORMATTER (Nat.le_trans Z0 (Nat.le_trans gr312 K307.1)) H421 H422 H423 H424 H425 Es Fcs Fvs Vs (by decide) (by decide) (by decide) (by decide) (by decide) (by decide) (by decide) (by decide) (by decide) (by decide) (by rw [efs]; rfl) (by rw [efs]; rfl) (by rw [efs]; rfl) (by rw [efs]; rfl) (by rw [efs]; rfl) (by rw [efs]; rfl) hd0 hd1 hd2 hcs hsf) (W hw 37 rfl) (W hw 38 rfl) (W hw 39 rfl) (W hw 40 rfl) (by decide) e419 S32_ (Nat.le_trans q32_ (Nat.le_trans (Keep.of_wr W38).1 K307.1)) (own_EW hw) R428_.1 pd_22 rfl rfl rfl (by rw [hml]; rfl) rfl (hb hby at_143) ?_
                intro T420 L420 v420 kS420 X420 S420_ q420_ Z420_ o420_ C420_ hQ420
                have R420_ := R428_.trans C420_
                obtain ⟨rfl, N420q, K420⟩ := hQ420
                have N420 := Fr.app N419 N420q
                rw [show isEsc d0 d1 d2 = (0 : Int32) from if_neg (fun q_ => absurd (q_.2.2.symm.trans hc129) (by decide))]
                show Go p e below (T420.setTop (mkF m 146 _ [(.int (0 : Int32))])) _
                refine Gk.iload X420 hx (hb hby at_146) rfl ?_
                refine Gk.icmpNo X420 hx (hb hby at_148) (teq (by decide : (0 : Int32) = (0 : Int32))).2 ?_
                refine Gk.iconst X420 hx (hb hby at_151) (1 : Int32) rfl ?_
                refine Gk.goto X420 hx (hb hby at_152) 156 (by decide) (by decide) ?_
                exact Gk.rNL (s := s) X420 hx Bd.returns (by simp) Bd.notSynchronized (hb hby at_156) rfl S420_ (Nat.le_trans q420_ (Nat.le_refl _)) (1 : Int32) rfl ⟨rfl, N420⟩
              · refine Gk.ifNo X419 hx (hb hby at_129) (feq hc129).1 ?_
                refine Gk.iconst X419 hx (hb hby at_132) (1 : Int32) rfl ?_
                refine Gk.goto X419 hx (hb hby at_133) 137 (by decide) (by decide) ?_
                refine Gk.istore X419 hx (hb hby at_137) #[.val (.int p1), .val (.int p2), .val (.int p3), .val (.int p4), .val (.int p5), .val (.int p6), .val (.int (5 : Int32)), .val (.int (0 : Int32)), .val (.ref b1), .val (.ref sa), .val (.int (1 : Int32))] rfl ?_
                refine Gk.aload X419 hx (hb hby at_139) rfl rfl ?_
                refine Gk.iload X419 hx (hb hby at_141) rfl ?_
                have H430 := (H308.keep K307 all0)
                have H431 := (((H34.keep K32 all0).wr W38).keep K307 all0)
                have H432 := (H309.keep K307 all0)
                have H433 := (H310.keep K307 all0)
                have H434 := (H311.keep K307 all0)
                have R436_ := R32_.trans (CHr.wr W38 sf38 R32_.1)
                have R437_ := R436_.trans (CHr.keep K307 (fun _ q_ => absurd q_ (List.not_mem_nil)) R436_.1)
                refine Gk.callSH (s := s) (argsL := [(.ref sa), (.int (0 : Int32))]) X419 hx Z32_ o32_ (ie_1_0 l Z a0 T307.heap n0 hw sa sb ks fs (10 : Int32) d0 d1 d2 w_COMPACT_STRINGS w_SIOOBE_FORMATTER (Nat.le_trans Z0 (Nat.le_trans gr312 K307.1)) H430 H431 H432 H433 H434 Es Fcs Fvs Vs (by decide) (by decide) (by decide) (by decide) (by decide) (by decide) (by decide) (by decide) (by decide) (by decide) (by rw [efs]; rfl) (by rw [efs]; rfl) (by rw [efs]; rfl) (by rw [efs]; rfl) (by rw [efs]; rfl) (by rw [efs]; rfl) hd0 hd1 hd2 hcs hsf) (W hw 37 rfl) (W hw 38 rfl) (W hw 39 rfl) (W hw 40 rfl) (by decide) e419 S32_ (Nat.le_trans q32_ (Nat.le_trans (Keep.of_wr W38).1 K307.1)) (own_EW hw) R437_.1 pd_22 rfl rfl rfl (by rw [hml]; rfl) rfl (hb hby at_143) ?_
                intro T429 L429 v429 kS429 X429 S429_ q429_ Z429_ o429_ C429_ hQ429
                have R429_ := R437_.trans C429_
                obtain ⟨rfl, N429q, K429⟩ := hQ429
                have N429 := Fr.app N419 N429q
                rw [show isEsc d0 d1 d2 = (1 : Int32) from if_pos ⟨hc103, (hexB_01 _).resolve_left hc116, (hexB_01 _).resolve_left hc129⟩]
                show Go p e below (T429.setTop (mkF m 146 _ [(.int (1 : Int32))])) _
                refine Gk.iload X429 hx (hb hby at_146) rfl ?_
                refine Gk.icmpNo X429 hx (hb hby at_148) (teq (by decide : (1 : Int32) = (1 : Int32))).2 ?_
                refine Gk.iconst X429 hx (hb hby at_151) (1 : Int32) rfl ?_
                refine Gk.goto X429 hx (hb hby at_152) 156 (by decide) (by decide) ?_
                exact Gk.rNL (s := s) X429 hx Bd.returns (by simp) Bd.notSynchronized (hb hby at_156) rfl S429_ (Nat.le_trans q429_ (Nat.le_refl _)) (1 : Int32) rfl ⟨rfl, N429⟩
          · refine Gk.icmpYes X307 hx (hb hby at_103) (feq hc103).2 136 (by decide) (by decide) ?_
            refine Gk.iconst X307 hx (hb hby at_136) (0 : Int32) rfl ?_
            refine Gk.istore X307 hx (hb hby at_137) #[.val (.int p1), .val (.int p2), .val (.int p3), .val (.int p4), .val (.int p5), .val (.int p6), .val (.int (5 : Int32)), .val (.int (0 : Int32)), .val (.ref b1), .val (.ref sa), .val (.int (0 : Int32))] rfl ?_
            refine Gk.aload X307 hx (hb hby at_139) rfl rfl ?_
            refine Gk.iload X307 hx (hb hby at_141) rfl ?_
            have H439 := (H308.keep K307 all0)
            have H440 := (((H34.keep K32 all0).wr W38).keep K307 all0)
            have H441 := (H309.keep K307 all0)
            have H442 := (H310.keep K307 all0)
            have H443 := (H311.keep K307 all0)
            have R445_ := R32_.trans (CHr.wr W38 sf38 R32_.1)
            have R446_ := R445_.trans (CHr.keep K307 (fun _ q_ => absurd q_ (List.not_mem_nil)) R445_.1)
            refine Gk.callSH (s := s) (argsL := [(.ref sa), (.int (0 : Int32))]) X307 hx Z32_ o32_ (ie_1_0 l Z a0 T307.heap n0 hw sa sb ks fs (10 : Int32) d0 d1 d2 w_COMPACT_STRINGS w_SIOOBE_FORMATTER (Nat.le_trans Z0 (Nat.le_trans gr312 K307.1)) H439 H440 H441 H442 H443 Es Fcs Fvs Vs (by decide) (by decide) (by decide) (by decide) (by decide) (by decide) (by decide) (by decide) (by decide) (by decide) (by rw [efs]; rfl) (by rw [efs]; rfl) (by rw [efs]; rfl) (by rw [efs]; rfl) (by rw [efs]; rfl) (by rw [efs]; rfl) hd0 hd1 hd2 hcs hsf) (W hw 37 rfl) (W hw 38 rfl) (W hw 39 rfl) (W hw 40 rfl) (by decide) rfl S32_ (Nat.le_trans q32_ (Nat.le_trans (Keep.of_wr W38).1 K307.1)) (own_EW hw) R446_.1 pd_22 rfl rfl rfl (by rw [hml]; rfl) rfl (hb hby at_143) ?_
            intro T438 L438 v438 kS438 X438 S438_ q438_ Z438_ o438_ C438_ hQ438
            have R438_ := R446_.trans C438_
            obtain ⟨rfl, N438q, K438⟩ := hQ438
            have N438 := Fr.app N307 N438q
            rw [show isEsc d0 d1 d2 = (0 : Int32) from if_neg (fun q_ => hc103 q_.1)]
            show Go p e below (T438.setTop (mkF m 146 _ [(.int (0 : Int32))])) _
            refine Gk.iload X438 hx (hb hby at_146) rfl ?_
            refine Gk.icmpNo X438 hx (hb hby at_148) (teq (by decide : (0 : Int32) = (0 : Int32))).2 ?_
            refine Gk.iconst X438 hx (hb hby at_151) (1 : Int32) rfl ?_
            refine Gk.goto X438 hx (hb hby at_152) 156 (by decide) (by decide) ?_
            exact Gk.rNL (s := s) X438 hx Bd.returns (by simp) Bd.notSynchronized (hb hby at_156) rfl S438_ (Nat.le_trans q438_ (Nat.le_refl _)) (1 : Int32) rfl ⟨rfl, N438⟩
        · show Go p e below (T307.setTop (mkF m 96 #[.val (.int p1), .val (.int p2), .val (.int p3), .val (.int p4), .val (.int p5), .val (.int p6), .val (.int (5 : Int32)), .val (.int atv), .val (.ref b1), .val (.ref sa), .unset] [])) _
          rw [hka]
          refine Gk.aload X307 hx (hb hby at_96) rfl rfl ?_
          refine Gk.iload X307 hx (hb hby at_98) rfl ?_
          have H448 := (V38.keep K307 nin0)
          refine Gk.caload X307 hx Z32_ rfl H448 ⟨by decide, by decide⟩ (.int d1) rfl (hb hby at_100) ?_
          refine Gk.bipush X307 hx (hb hby at_101) (37 : Int32) rfl ?_
          by_cases hc103 : d1 = (37 : Int32)
          · refine Gk.icmpNo X307 hx (hb hby at_103) (teq hc103).2 ?_
            refine Gk.aload X307 hx (hb hby at_106) rfl rfl ?_
            refine Gk.iload X307 hx (hb hby at_108) rfl ?_
            refine Gk.iconst X307 hx (hb hby at_110) (1 : Int32) rfl ?_
            refine Gk.iadd X307 hx (hb hby at_111) (2 : Int32) (by decide) ?_
            refine Gk.caload X307 hx Z32_ rfl H448 ⟨by decide, by decide⟩ (.int d2) rfl (hb hby at_112) ?_
            refine Gk.callS (argsL := [(.int d2)]) X307 hx Z32_ o32_ (ishex l Z a0 T307.heap n0 hw d2 (Nat.le_trans Z0 (Nat.le_trans gr312 K307.1))) (W hw 108 rfl) (W hw 109 rfl) (W hw 3 rfl) (W hw 110 rfl) (by decide) rfl pd_23 rfl rfl rfl (by rw [hml]; rfl) rfl (hb hby at_113) ?_
            intro T450 L450 v450 X450 hQ450
            obtain ⟨rfl, N450q, e450⟩ := hQ450
            have N450 := Fr.app N307 N450q
            show Go p e below (T450.setTop (mkF m 116 _ [(.int (hexB d2))])) _
            by_cases hc116 : (hexB d2) = (0 : Int32)
            · refine Gk.ifYes X450 hx (hb hby at_116) (teq hc116).1 136 (by decide) (by decide) ?_
              refine Gk.iconst X450 hx (hb hby at_136) (0 : Int32) rfl ?_
              refine Gk.istore X450 hx (hb hby at_137) #[.val (.int p1), .val (.int p2), .val (.int p3), .val (.int p4), .val (.int p5), .val (.int p6), .val (.int (5 : Int32)), .val (.int (1 : Int32)), .val (.ref b1), .val (.ref sa), .val (.int (0 : Int32))] rfl ?_
              refine Gk.aload X450 hx (hb hby at_139) rfl rfl ?_
              refine Gk.iload X450 hx (hb hby at_141) rfl ?_
              have H452 := (H308.keep K307 all0)
              have H453 := (((H34.keep K32 all0).wr W38).keep K307 all0)
              have H454 := (H309.keep K307 all0)
              have H455 := (H310.keep K307 all0)
              have H456 := (H311.keep K307 all0)
              have R458_ := R32_.trans (CHr.wr W38 sf38 R32_.1)
              have R459_ := R458_.trans (CHr.keep K307 (fun _ q_ => absurd q_ (List.not_mem_nil)) R458_.1)
              refine Gk.callSH (s := s) (argsL := [(.ref sa), (.int (1 : Int32))]) X450 hx Z32_ o32_ (ie_1_1 l Z a0 T307.heap n0 hw sa sb ks fs (10 : Int32) d1 d2 d3 w_COMPACT_STRINGS w_SIOOBE_FORMATTER (Nat.le_trans Z0 (Nat.le_trans gr312 K307.1)) H452 H453 H454 H455 H456 Es Fcs Fvs Vs (by decide) (by decide) (by decide) (by decide) (by decide) (by decide) (by decide) (by decide) (by decide) (by decide) (by rw [efs]; rfl) (by rw [efs]; rfl) (by rw [efs]; rfl) (by rw [efs]; rfl) (by rw [efs]; rfl) (by rw [efs]; rfl) hd1 hd2 hd3 hcs hsf) (W hw 37 rfl) (W hw 38 rfl) (W hw 39 rfl) (W hw 40 rfl) (by decide) e450 S32_ (Nat.le_trans q32_ (Nat.le_trans (Keep.of_wr W38).1 K307.1)) (own_EW hw) R459_.1 pd_22 rfl rfl rfl (by rw [hml]; rfl) rfl (hb hby at_143) ?_
              intro T451 L451 v451 kS451 X451 S451_ q451_ Z451_ o451_ C451_ hQ451
              have R451_ := R459_.trans C451_
              obtain ⟨rfl, N451q, K451⟩ := hQ451
              have N451 := Fr.app N450 N451q
              rw [show isEsc d1 d2 d3 = (0 : Int32) from if_neg (fun q_ => absurd (q_.2.1.symm.trans hc116) (by decide))]
              show Go p e below (T451.setTop (mkF m 146 _ [(.int (0 : Int32))])) _
              refine Gk.iload X451 hx (hb hby at_146) rfl ?_
              refine Gk.icmpNo X451 hx (hb hby at_148) (teq (by decide : (0 : Int32) = (0 : Int32))).2 ?_
              refine Gk.iconst X451 hx (hb hby at_151) (1 : Int32) rfl ?_
              refine Gk.goto X451 hx (hb hby at_152) 156 (by decide) (by decide) ?_
              exact Gk.rNL (s := s) X451 hx Bd.returns (by simp) Bd.notSynchronized (hb hby at_156) rfl S451_ (Nat.le_trans q451_ (Nat.le_refl _)) (1 : Int32) rfl ⟨rfl, N451⟩
            · refine Gk.ifNo X450 hx (hb hby at_116) (feq hc116).1 ?_
              refine Gk.aload X450 hx (hb hby at_119) rfl rfl ?_
              refine Gk.iload X450 hx (hb hby at_121) rfl ?_
              refine Gk.iconst X450 hx (hb hby at_123) (2 : Int32) rfl ?_
              refine Gk.iadd X450 hx (hb hby at_124) (3 : Int32) (by decide) ?_
              refine Gk.caload X450 hx Z32_ e450 H448 ⟨by decide, by decide⟩ (.int d3) rfl (hb hby at_125) ?_
              refine Gk.callS (argsL := [(.int d3)]) X450 hx Z32_ o32_ (ishex l Z a0 T307.heap n0 hw d3 (Nat.le_trans Z0 (Nat.le_trans gr312 K307.1))) (W hw 108 rfl) (W hw 109 rfl) (W hw 3 rfl) (W hw 110 rfl) (by decide) e450 pd_23 rfl rfl rfl (by rw [hml]; rfl) rfl (hb hby at_126) ?_
              intro T461 L461 v461 X461 hQ461
              obtain ⟨rfl, N461q, e461⟩ := hQ461
              have N461 := Fr.app N450 N461q
              show Go p e below (T461.setTop (mkF m 129 _ [(.int (hexB d3))])) _
              by_cases hc129 : (hexB d3) = (0 : Int32)
              · refine Gk.ifYes X461 hx (hb hby at_129) (teq hc129).1 136 (by decide) (by decide) ?_
                refine Gk.iconst X461 hx (hb hby at_136) (0 : Int32) rfl ?_
                refine Gk.istore X461 hx (hb hby at_137) #[.val (.int p1), .val (.int p2), .val (.int p3), .val (.int p4), .val (.int p5), .val (.int p6), .val (.int (5 : Int32)), .val (.int (1 : Int32)), .val (.ref b1), .val (.ref sa), .val (.int (0 : Int32))] rfl ?_
                refine Gk.aload X461 hx (hb hby at_139) rfl rfl ?_
                refine Gk.iload X461 hx (hb hby at_141) rfl ?_
                have H463 := (H308.keep K307 all0)
                have H464 := (((H34.keep K32 all0).wr W38).keep K307 all0)
                have H465 := (H309.keep K307 all0)
                have H466 := (H310.keep K307 all0)
                have H467 := (H311.keep K307 all0)
                have R469_ := R32_.trans (CHr.wr W38 sf38 R32_.1)
                have R470_ := R469_.trans (CHr.keep K307 (fun _ q_ => absurd q_ (List.not_mem_nil)) R469_.1)
                refine Gk.callSH (s := s) (argsL := [(.ref sa), (.int (1 : Int32))]) X461 hx Z32_ o32_ (ie_1_1 l Z a0 T307.heap n0 hw sa sb ks fs (10 : Int32) d1 d2 d3 w_COMPACT_STRINGS w_SIOOBE_FORMATTER (Nat.le_trans Z0 (Nat.le_trans gr312 K307.1)) H463 H464 H465 H466 H467 Es Fcs Fvs Vs (by decide) (by decide) (by decide) (by decide) (by decide) (by decide) (by decide) (by decide) (by decide) (by decide) (by rw [efs]; rfl) (by rw [efs]; rfl) (by rw [efs]; rfl) (by rw [efs]; rfl) (by rw [efs]; rfl) (by rw [efs]; rfl) hd1 hd2 hd3 hcs hsf) (W hw 37 rfl) (W hw 38 rfl) (W hw 39 rfl) (W hw 40 rfl) (by decide) e461 S32_ (Nat.le_trans q32_ (Nat.le_trans (Keep.of_wr W38).1 K307.1)) (own_EW hw) R470_.1 pd_22 rfl rfl rfl (by rw [hml]; rfl) rfl (hb hby at_143) ?_
                intro T462 L462 v462 kS462 X462 S462_ q462_ Z462_ o462_ C462_ hQ462
                have R462_ := R470_.trans C462_
                obtain ⟨rfl, N462q, K462⟩ := hQ462
                have N462 := Fr.app N461 N462q
                rw [show isEsc d1 d2 d3 = (0 : Int32) from if_neg (fun q_ => absurd (q_.2.2.symm.trans hc129) (by decide))]
                show Go p e below (T462.setTop (mkF m 146 _ [(.int (0 : Int32))])) _
                refine Gk.iload X462 hx (hb hby at_146) rfl ?_
                refine Gk.icmpNo X462 hx (hb hby at_148) (teq (by decide : (0 : Int32) = (0 : Int32))).2 ?_
                refine Gk.iconst X462 hx (hb hby at_151) (1 : Int32) rfl ?_
                refine Gk.goto X462 hx (hb hby at_152) 156 (by decide) (by decide) ?_
                exact Gk.rNL (s := s) X462 hx Bd.returns (by simp) Bd.notSynchronized (hb hby at_156) rfl S462_ (Nat.le_trans q462_ (Nat.le_refl _)) (1 : Int32) rfl ⟨rfl, N462⟩
              · refine Gk.ifNo X461 hx (hb hby at_129) (feq hc129).1 ?_
                refine Gk.iconst X461 hx (hb hby at_132) (1 : Int32) rfl ?_
                refine Gk.goto X461 hx (hb hby at_133) 137 (by decide) (by decide) ?_
                refine Gk.istore X461 hx (hb hby at_137) #[.val (.int p1), .val (.int p2), .val (.int p3), .val (.int p4), .val (.int p5), .val (.int p6), .val (.int (5 : Int32)), .val (.int (1 : Int32)), .val (.ref b1), .val (.ref sa), .val (.int (1 : Int32))] rfl ?_
                refine Gk.aload X461 hx (hb hby at_139) rfl rfl ?_
                refine Gk.iload X461 hx (hb hby at_141) rfl ?_
                have H472 := (H308.keep K307 all0)
                have H473 := (((H34.keep K32 all0).wr W38).keep K307 all0)
                have H474 := (H309.keep K307 all0)
                have H475 := (H310.keep K307 all0)
                have H476 := (H311.keep K307 all0)
                have R478_ := R32_.trans (CHr.wr W38 sf38 R32_.1)
                have R479_ := R478_.trans (CHr.keep K307 (fun _ q_ => absurd q_ (List.not_mem_nil)) R478_.1)
                refine Gk.callSH (s := s) (argsL := [(.ref sa), (.int (1 : Int32))]) X461 hx Z32_ o32_ (ie_1_1 l Z a0 T307.heap n0 hw sa sb ks fs (10 : Int32) d1 d2 d3 w_COMPACT_STRINGS w_SIOOBE_FORMATTER (Nat.le_trans Z0 (Nat.le_trans gr312 K307.1)) H472 H473 H474 H475 H476 Es Fcs Fvs Vs (by decide) (by decide) (by decide) (by decide) (by decide) (by decide) (by decide) (by decide) (by decide) (by decide) (by rw [efs]; rfl) (by rw [efs]; rfl) (by rw [efs]; rfl) (by rw [efs]; rfl) (by rw [efs]; rfl) (by rw [efs]; rfl) hd1 hd2 hd3 hcs hsf) (W hw 37 rfl) (W hw 38 rfl) (W hw 39 rfl) (W hw 40 rfl) (by decide) e461 S32_ (Nat.le_trans q32_ (Nat.le_trans (Keep.of_wr W38).1 K307.1)) (own_EW hw) R479_.1 pd_22 rfl rfl rfl (by rw [hml]; rfl) rfl (hb hby at_143) ?_
                intro T471 L471 v471 kS471 X471 S471_ q471_ Z471_ o471_ C471_ hQ471
                have R471_ := R479_.trans C471_
                obtain ⟨rfl, N471q, K471⟩ := hQ471
                have N471 := Fr.app N461 N471q
                rw [show isEsc d1 d2 d3 = (1 : Int32) from if_pos ⟨hc103, (hexB_01 _).resolve_left hc116, (hexB_01 _).resolve_left hc129⟩]
                show Go p e below (T471.setTop (mkF m 146 _ [(.int (1 : Int32))])) _
                refine Gk.iload X471 hx (hb hby at_146) rfl ?_
                refine Gk.icmpNo X471 hx (hb hby at_148) (teq (by decide : (1 : Int32) = (1 : Int32))).2 ?_
                refine Gk.iconst X471 hx (hb hby at_151) (1 : Int32) rfl ?_
                refine Gk.goto X471 hx (hb hby at_152) 156 (by decide) (by decide) ?_
                exact Gk.rNL (s := s) X471 hx Bd.returns (by simp) Bd.notSynchronized (hb hby at_156) rfl S471_ (Nat.le_trans q471_ (Nat.le_refl _)) (1 : Int32) rfl ⟨rfl, N471⟩
          · refine Gk.icmpYes X307 hx (hb hby at_103) (feq hc103).2 136 (by decide) (by decide) ?_
            refine Gk.iconst X307 hx (hb hby at_136) (0 : Int32) rfl ?_
            refine Gk.istore X307 hx (hb hby at_137) #[.val (.int p1), .val (.int p2), .val (.int p3), .val (.int p4), .val (.int p5), .val (.int p6), .val (.int (5 : Int32)), .val (.int (1 : Int32)), .val (.ref b1), .val (.ref sa), .val (.int (0 : Int32))] rfl ?_
            refine Gk.aload X307 hx (hb hby at_139) rfl rfl ?_
            refine Gk.iload X307 hx (hb hby at_141) rfl ?_
            have H481 := (H308.keep K307 all0)
            have H482 := (((H34.keep K32 all0).wr W38).keep K307 all0)
            have H483 := (H309.keep K307 all0)
            have H484 := (H310.keep K307 all0)
            have H485 := (H311.keep K307 all0)
            have R487_ := R32_.trans (CHr.wr W38 sf38 R32_.1)
            have R488_ := R487_.trans (CHr.keep K307 (fun _ q_ => absurd q_ (List.not_mem_nil)) R487_.1)
            refine Gk.callSH (s := s) (argsL := [(.ref sa), (.int (1 : Int32))]) X307 hx Z32_ o32_ (ie_1_1 l Z a0 T307.heap n0 hw sa sb ks fs (10 : Int32) d1 d2 d3 w_COMPACT_STRINGS w_SIOOBE_FORMATTER (Nat.le_trans Z0 (Nat.le_trans gr312 K307.1)) H481 H482 H483 H484 H485 Es Fcs Fvs Vs (by decide) (by decide) (by decide) (by decide) (by decide) (by decide) (by decide) (by decide) (by decide) (by decide) (by rw [efs]; rfl) (by rw [efs]; rfl) (by rw [efs]; rfl) (by rw [efs]; rfl) (by rw [efs]; rfl) (by rw [efs]; rfl) hd1 hd2 hd3 hcs hsf) (W hw 37 rfl) (W hw 38 rfl) (W hw 39 rfl) (W hw 40 rfl) (by decide) rfl S32_ (Nat.le_trans q32_ (Nat.le_trans (Keep.of_wr W38).1 K307.1)) (own_EW hw) R488_.1 pd_22 rfl rfl rfl (by rw [hml]; rfl) rfl (hb hby at_143) ?_
            intro T480 L480 v480 kS480 X480 S480_ q480_ Z480_ o480_ C480_ hQ480
            have R480_ := R488_.trans C480_
            obtain ⟨rfl, N480q, K480⟩ := hQ480
            have N480 := Fr.app N307 N480q
            rw [show isEsc d1 d2 d3 = (0 : Int32) from if_neg (fun q_ => hc103 q_.1)]
            show Go p e below (T480.setTop (mkF m 146 _ [(.int (0 : Int32))])) _
            refine Gk.iload X480 hx (hb hby at_146) rfl ?_
            refine Gk.icmpNo X480 hx (hb hby at_148) (teq (by decide : (0 : Int32) = (0 : Int32))).2 ?_
            refine Gk.iconst X480 hx (hb hby at_151) (1 : Int32) rfl ?_
            refine Gk.goto X480 hx (hb hby at_152) 156 (by decide) (by decide) ?_
            exact Gk.rNL (s := s) X480 hx Bd.returns (by simp) Bd.notSynchronized (hb hby at_156) rfl S480_ (Nat.le_trans q480_ (Nat.le_refl _)) (1 : Int32) rfl ⟨rfl, N480⟩
        · show Go p e below (T307.setTop (mkF m 96 #[.val (.int p1), .val (.int p2), .val (.int p3), .val (.int p4), .val (.int p5), .val (.int p6), .val (.int (5 : Int32)), .val (.int atv), .val (.ref b1), .val (.ref sa), .unset] [])) _
          rw [hka]
          refine Gk.aload X307 hx (hb hby at_96) rfl rfl ?_
          refine Gk.iload X307 hx (hb hby at_98) rfl ?_
          have H490 := (V38.keep K307 nin0)
          refine Gk.caload X307 hx Z32_ rfl H490 ⟨by decide, by decide⟩ (.int d2) rfl (hb hby at_100) ?_
          refine Gk.bipush X307 hx (hb hby at_101) (37 : Int32) rfl ?_
          by_cases hc103 : d2 = (37 : Int32)
          · refine Gk.icmpNo X307 hx (hb hby at_103) (teq hc103).2 ?_
            refine Gk.aload X307 hx (hb hby at_106) rfl rfl ?_
            refine Gk.iload X307 hx (hb hby at_108) rfl ?_
            refine Gk.iconst X307 hx (hb hby at_110) (1 : Int32) rfl ?_
            refine Gk.iadd X307 hx (hb hby at_111) (3 : Int32) (by decide) ?_
            refine Gk.caload X307 hx Z32_ rfl H490 ⟨by decide, by decide⟩ (.int d3) rfl (hb hby at_112) ?_
            refine Gk.callS (argsL := [(.int d3)]) X307 hx Z32_ o32_ (ishex l Z a0 T307.heap n0 hw d3 (Nat.le_trans Z0 (Nat.le_trans gr312 K307.1))) (W hw 108 rfl) (W hw 109 rfl) (W hw 3 rfl) (W hw 110 rfl) (by decide) rfl pd_23 rfl rfl rfl (by rw [hml]; rfl) rfl (hb hby at_113) ?_
            intro T492 L492 v492 X492 hQ492
            obtain ⟨rfl, N492q, e492⟩ := hQ492
            have N492 := Fr.app N307 N492q
            show Go p e below (T492.setTop (mkF m 116 _ [(.int (hexB d3))])) _
            by_cases hc116 : (hexB d3) = (0 : Int32)
            · refine Gk.ifYes X492 hx (hb hby at_116) (teq hc116).1 136 (by decide) (by decide) ?_
              refine Gk.iconst X492 hx (hb hby at_136) (0 : Int32) rfl ?_
              refine Gk.istore X492 hx (hb hby at_137) #[.val (.int p1), .val (.int p2), .val (.int p3), .val (.int p4), .val (.int p5), .val (.int p6), .val (.int (5 : Int32)), .val (.int (2 : Int32)), .val (.ref b1), .val (.ref sa), .val (.int (0 : Int32))] rfl ?_
              refine Gk.aload X492 hx (hb hby at_139) rfl rfl ?_
              refine Gk.iload X492 hx (hb hby at_141) rfl ?_
              have H494 := (H308.keep K307 all0)
              have H495 := (((H34.keep K32 all0).wr W38).keep K307 all0)
              have H496 := (H309.keep K307 all0)
              have H497 := (H310.keep K307 all0)
              have H498 := (H311.keep K307 all0)
              have R500_ := R32_.trans (CHr.wr W38 sf38 R32_.1)
              have R501_ := R500_.trans (CHr.keep K307 (fun _ q_ => absurd q_ (List.not_mem_nil)) R500_.1)
              refine Gk.callSH (s := s) (argsL := [(.ref sa), (.int (2 : Int32))]) X492 hx Z32_ o32_ (ie_1_2 l Z a0 T307.heap n0 hw sa sb ks fs (10 : Int32) d2 d3 d4 w_COMPACT_STRINGS w_SIOOBE_FORMATTER (Nat.le_trans Z0 (Nat.le_trans gr312 K307.1)) H494 H495 H496 H497 H498 Es Fcs Fvs Vs (by decide) (by decide) (by decide) (by decide) (by decide) (by decide) (by decide) (by decide) (by decide) (by decide) (by rw [efs]; rfl) (by rw [efs]; rfl) (by rw [efs]; rfl) (by rw [efs]; rfl) (by rw [efs]; rfl) (by rw [efs]; rfl) hd2 hd3 hd4 hcs hsf) (W hw 37 rfl) (W hw 38 rfl) (W hw 39 rfl) (W hw 40 rfl) (by decide) e492 S32_ (Nat.le_trans q32_ (Nat.le_trans (Keep.of_wr W38).1 K307.1)) (own_EW hw) R501_.1 pd_22 rfl rfl rfl (by rw [hml]; rfl) rfl (hb hby at_143) ?_
              intro T493 L493 v493 kS493 X493 S493_ q493_ Z493_ o493_ C493_ hQ493
              have R493_ := R501_.trans C493_
              obtain ⟨rfl, N493q, K493⟩ := hQ493
              have N493 := Fr.app N492 N493q
              rw [show isEsc d2 d3 d4 = (0 : Int32) from if_neg (fun q_ => absurd (q_.2.1.symm.trans hc116) (by decide))]
              show Go p e below (T493.setTop (mkF m 146 _ [(.int (0 : Int32))])) _
              refine Gk.iload X493 hx (hb hby at_146) rfl ?_
              refine Gk.icmpNo X493 hx (hb hby at_148) (teq (by decide : (0 : Int32) = (0 : Int32))).2 ?_
              refine Gk.iconst X493 hx (hb hby at_151) (1 : Int32) rfl ?_
              refine Gk.goto X493 hx (hb hby at_152) 156 (by decide) (by decide) ?_
              exact Gk.rNL (s := s) X493 hx Bd.returns (by simp) Bd.notSynchronized (hb hby at_156) rfl S493_ (Nat.le_trans q493_ (Nat.le_refl _)) (1 : Int32) rfl ⟨rfl, N493⟩
            · refine Gk.ifNo X492 hx (hb hby at_116) (feq hc116).1 ?_
              refine Gk.aload X492 hx (hb hby at_119) rfl rfl ?_
              refine Gk.iload X492 hx (hb hby at_121) rfl ?_
              refine Gk.iconst X492 hx (hb hby at_123) (2 : Int32) rfl ?_
              refine Gk.iadd X492 hx (hb hby at_124) (4 : Int32) (by decide) ?_
              refine Gk.caload X492 hx Z32_ e492 H490 ⟨by decide, by decide⟩ (.int d4) rfl (hb hby at_125) ?_
              refine Gk.callS (argsL := [(.int d4)]) X492 hx Z32_ o32_ (ishex l Z a0 T307.heap n0 hw d4 (Nat.le_trans Z0 (Nat.le_trans gr312 K307.1))) (W hw 108 rfl) (W hw 109 rfl) (W hw 3 rfl) (W hw 110 rfl) (by decide) e492 pd_23 rfl rfl rfl (by rw [hml]; rfl) rfl (hb hby at_126) ?_
              intro T503 L503 v503 X503 hQ503
              obtain ⟨rfl, N503q, e503⟩ := hQ503
              have N503 := Fr.app N492 N503q
              show Go p e below (T503.setTop (mkF m 129 _ [(.int (hexB d4))])) _
              by_cases hc129 : (hexB d4) = (0 : Int32)
              · refine Gk.ifYes X503 hx (hb hby at_129) (teq hc129).1 136 (by decide) (by decide) ?_
                refine Gk.iconst X503 hx (hb hby at_136) (0 : Int32) rfl ?_
                refine Gk.istore X503 hx (hb hby at_137) #[.val (.int p1), .val (.int p2), .val (.int p3), .val (.int p4), .val (.int p5), .val (.int p6), .val (.int (5 : Int32)), .val (.int (2 : Int32)), .val (.ref b1), .val (.ref sa), .val (.int (0 : Int32))] rfl ?_
                refine Gk.aload X503 hx (hb hby at_139) rfl rfl ?_
                refine Gk.iload X503 hx (hb hby at_141) rfl ?_
                have H505 := (H308.keep K307 all0)
                have H506 := (((H34.keep K32 all0).wr W38).keep K307 all0)
                have H507 := (H309.keep K307 all0)
                have H508 := (H310.keep K307 all0)
                have H509 := (H311.keep K307 all0)
                have R511_ := R32_.trans (CHr.wr W38 sf38 R32_.1)
                have R512_ := R511_.trans (CHr.keep K307 (fun _ q_ => absurd q_ (List.not_mem_nil)) R511_.1)
                refine Gk.callSH (s := s) (argsL := [(.ref sa), (.int (2 : Int32))]) X503 hx Z32_ o32_ (ie_1_2 l Z a0 T307.heap n0 hw sa sb ks fs (10 : Int32) d2 d3 d4 w_COMPACT_STRINGS w_SIOOBE_FORMATTER (Nat.le_trans Z0 (Nat.le_trans gr312 K307.1)) H505 H506 H507 H508 H509 Es Fcs Fvs Vs (by decide) (by decide) (by decide) (by decide) (by decide) (by decide) (by decide) (by decide) (by decide) (by decide) (by rw [efs]; rfl) (by rw [efs]; rfl) (by rw [efs]; rfl) (by rw [efs]; rfl) (by rw [efs]; rfl) (by rw [efs]; rfl) hd2 hd3 hd4 hcs hsf) (W hw 37 rfl) (W hw 38 rfl) (W hw 39 rfl) (W hw 40 rfl) (by decide) e503 S32_ (Nat.le_trans q32_ (Nat.le_trans (Keep.of_wr W38).1 K307.1)) (own_EW hw) R512_.1 pd_22 rfl rfl rfl (by rw [hml]; rfl) rfl (hb hby at_143) ?_
                intro T504 L504 v504 kS504 X504 S504_ q504_ Z504_ o504_ C504_ hQ504
                have R504_ := R512_.trans C504_
                obtain ⟨rfl, N504q, K504⟩ := hQ504
                have N504 := Fr.app N503 N504q
                rw [show isEsc d2 d3 d4 = (0 : Int32) from if_neg (fun q_ => absurd (q_.2.2.symm.trans hc129) (by decide))]
                show Go p e below (T504.setTop (mkF m 146 _ [(.int (0 : Int32))])) _
                refine Gk.iload X504 hx (hb hby at_146) rfl ?_
                refine Gk.icmpNo X504 hx (hb hby at_148) (teq (by decide : (0 : Int32) = (0 : Int32))).2 ?_
                refine Gk.iconst X504 hx (hb hby at_151) (1 : Int32) rfl ?_
                refine Gk.goto X504 hx (hb hby at_152) 156 (by decide) (by decide) ?_
                exact Gk.rNL (s := s) X504 hx Bd.returns (by simp) Bd.notSynchronized (hb hby at_156) rfl S504_ (Nat.le_trans q504_ (Nat.le_refl _)) (1 : Int32) rfl ⟨rfl, N504⟩
              · refine Gk.ifNo X503 hx (hb hby at_129) (feq hc129).1 ?_
                refine Gk.iconst X503 hx (hb hby at_132) (1 : Int32) rfl ?_
                refine Gk.goto X503 hx (hb hby at_133) 137 (by decide) (by decide) ?_
                refine Gk.istore X503 hx (hb hby at_137) #[.val (.int p1), .val (.int p2), .val (.int p3), .val (.int p4), .val (.int p5), .val (.int p6), .val (.int (5 : Int32)), .val (.int (2 : Int32)), .val (.ref b1), .val (.ref sa), .val (.int (1 : Int32))] rfl ?_
                refine Gk.aload X503 hx (hb hby at_139) rfl rfl ?_
                refine Gk.iload X503 hx (hb hby at_141) rfl ?_
                have H514 := (H308.keep K307 all0)
                have H515 := (((H34.keep K32 all0).wr W38).keep K307 all0)
                have H516 := (H309.keep K307 all0)
                have H517 := (H310.keep K307 all0)
                have H518 := (H311.keep K307 all0)
                have R520_ := R32_.trans (CHr.wr W38 sf38 R32_.1)
                have R521_ := R520_.trans (CHr.keep K307 (fun _ q_ => absurd q_ (List.not_mem_nil)) R520_.1)
                refine Gk.callSH (s := s) (argsL := [(.ref sa), (.int (2 : Int32))]) X503 hx Z32_ o32_ (ie_1_2 l Z a0 T307.heap n0 hw sa sb ks fs (10 : Int32) d2 d3 d4 w_COMPACT_STRINGS w_SIOOBE_FORMATTER (Nat.le_trans Z0 (Nat.le_trans gr312 K307.1)) H514 H515 H516 H517 H518 Es Fcs Fvs Vs (by decide) (by decide) (by decide) (by decide) (by decide) (by decide) (by decide) (by decide) (by decide) (by decide) (by rw [efs]; rfl) (by rw [efs]; rfl) (by rw [efs]; rfl) (by rw [efs]; rfl) (by rw [efs]; rfl) (by rw [efs]; rfl) hd2 hd3 hd4 hcs hsf) (W hw 37 rfl) (W hw 38 rfl) (W hw 39 rfl) (W hw 40 rfl) (by decide) e503 S32_ (Nat.le_trans q32_ (Nat.le_trans (Keep.of_wr W38).1 K307.1)) (own_EW hw) R521_.1 pd_22 rfl rfl rfl (by rw [hml]; rfl) rfl (hb hby at_143) ?_
                intro T513 L513 v513 kS513 X513 S513_ q513_ Z513_ o513_ C513_ hQ513
                have R513_ := R521_.trans C513_
                obtain ⟨rfl, N513q, K513⟩ := hQ513
                have N513 := Fr.app N503 N513q
                rw [show isEsc d2 d3 d4 = (1 : Int32) from if_pos ⟨hc103, (hexB_01 _).resolve_left hc116, (hexB_01 _).resolve_left hc129⟩]
                show Go p e below (T513.setTop (mkF m 146 _ [(.int (1 : Int32))])) _
                refine Gk.iload X513 hx (hb hby at_146) rfl ?_
                refine Gk.icmpNo X513 hx (hb hby at_148) (teq (by decide : (1 : Int32) = (1 : Int32))).2 ?_
                refine Gk.iconst X513 hx (hb hby at_151) (1 : Int32) rfl ?_
                refine Gk.goto X513 hx (hb hby at_152) 156 (by decide) (by decide) ?_
                exact Gk.rNL (s := s) X513 hx Bd.returns (by simp) Bd.notSynchronized (hb hby at_156) rfl S513_ (Nat.le_trans q513_ (Nat.le_refl _)) (1 : Int32) rfl ⟨rfl, N513⟩
          · refine Gk.icmpYes X307 hx (hb hby at_103) (feq hc103).2 136 (by decide) (by decide) ?_
            refine Gk.iconst X307 hx (hb hby at_136) (0 : Int32) rfl ?_
            refine Gk.istore X307 hx (hb hby at_137) #[.val (.int p1), .val (.int p2), .val (.int p3), .val (.int p4), .val (.int p5), .val (.int p6), .val (.int (5 : Int32)), .val (.int (2 : Int32)), .val (.ref b1), .val (.ref sa), .val (.int (0 : Int32))] rfl ?_
            refine Gk.aload X307 hx (hb hby at_139) rfl rfl ?_
            refine Gk.iload X307 hx (hb hby at_141) rfl ?_
            have H523 := (H308.keep K307 all0)
            have H524 := (((H34.keep K32 all0).wr W38).keep K307 all0)
            have H525 := (H309.keep K307 all0)
            have H526 := (H310.keep K307 all0)
            have H527 := (H311.keep K307 all0)
            have R529_ := R32_.trans (CHr.wr W38 sf38 R32_.1)
            have R530_ := R529_.trans (CHr.keep K307 (fun _ q_ => absurd q_ (List.not_mem_nil)) R529_.1)
            refine Gk.callSH (s := s) (argsL := [(.ref sa), (.int (2 : Int32))]) X307 hx Z32_ o32_ (ie_1_2 l Z a0 T307.heap n0 hw sa sb ks fs (10 : Int32) d2 d3 d4 w_COMPACT_STRINGS w_SIOOBE_FORMATTER (Nat.le_trans Z0 (Nat.le_trans gr312 K307.1)) H523 H524 H525 H526 H527 Es Fcs Fvs Vs (by decide) (by decide) (by decide) (by decide) (by decide) (by decide) (by decide) (by decide) (by decide) (by decide) (by rw [efs]; rfl) (by rw [efs]; rfl) (by rw [efs]; rfl) (by rw [efs]; rfl) (by rw [efs]; rfl) (by rw [efs]; rfl) hd2 hd3 hd4 hcs hsf) (W hw 37 rfl) (W hw 38 rfl) (W hw 39 rfl) (W hw 40 rfl) (by decide) rfl S32_ (Nat.le_trans q32_ (Nat.le_trans (Keep.of_wr W38).1 K307.1)) (own_EW hw) R530_.1 pd_22 rfl rfl rfl (by rw [hml]; rfl) rfl (hb hby at_143) ?_
            intro T522 L522 v522 kS522 X522 S522_ q522_ Z522_ o522_ C522_ hQ522
            have R522_ := R530_.trans C522_
            obtain ⟨rfl, N522q, K522⟩ := hQ522
            have N522 := Fr.app N307 N522q
            rw [show isEsc d2 d3 d4 = (0 : Int32) from if_neg (fun q_ => hc103 q_.1)]
            show Go p e below (T522.setTop (mkF m 146 _ [(.int (0 : Int32))])) _
            refine Gk.iload X522 hx (hb hby at_146) rfl ?_
            refine Gk.icmpNo X522 hx (hb hby at_148) (teq (by decide : (0 : Int32) = (0 : Int32))).2 ?_
            refine Gk.iconst X522 hx (hb hby at_151) (1 : Int32) rfl ?_
            refine Gk.goto X522 hx (hb hby at_152) 156 (by decide) (by decide) ?_
            exact Gk.rNL (s := s) X522 hx Bd.returns (by simp) Bd.notSynchronized (hb hby at_156) rfl S522_ (Nat.le_trans q522_ (Nat.le_refl _)) (1 : Int32) rfl ⟨rfl, N522⟩
      · refine Gk.icmpYes X307 hx (hb hby at_93) (flt hc93).2.1 136 (by decide) (by decide) ?_
        refine Gk.iconst X307 hx (hb hby at_136) (0 : Int32) rfl ?_
        refine Gk.istore X307 hx (hb hby at_137) #[.val (.int p1), .val (.int p2), .val (.int p3), .val (.int p4), .val (.int p5), .val (.int p6), .val (.int (5 : Int32)), .val (.int atv), .val (.ref b1), .val (.ref sa), .val (.int (0 : Int32))] rfl ?_
        refine Gk.aload X307 hx (hb hby at_139) rfl rfl ?_
        refine Gk.iload X307 hx (hb hby at_141) rfl ?_
        have H532 := (H308.keep K307 all0)
        refine Gk.callS (argsL := [(.ref sa), (.int atv)]) X307 hx Z32_ o32_ (ie0_1 l Z a0 T307.heap n0 hw sa atv sb ks fs (10 : Int32) w_COMPACT_STRINGS (Nat.le_trans Z0 (Nat.le_trans gr312 K307.1)) H532 Es Fcs Fvs Vs (by rw [show ((10 : Int32) >>> ((1 : Int32) &&& 31)) = (5 : Int32) from by decide]; exact hc93) hcs) (W hw 37 rfl) (W hw 38 rfl) (W hw 39 rfl) (W hw 40 rfl) (by decide) rfl pd_22 rfl rfl rfl (by rw [hml]; rfl) rfl (hb hby at_143) ?_
        intro T531 L531 v531 X531 hQ531
        obtain ⟨rfl, N531q, e531⟩ := hQ531
        have N531 := Fr.app N307 N531q
        show Go p e below (T531.setTop (mkF m 146 _ [(.int (0 : Int32))])) _
        refine Gk.iload X531 hx (hb hby at_146) rfl ?_
        refine Gk.icmpNo X531 hx (hb hby at_148) (teq (by decide : (0 : Int32) = (0 : Int32))).2 ?_
        refine Gk.iconst X531 hx (hb hby at_151) (1 : Int32) rfl ?_
        refine Gk.goto X531 hx (hb hby at_152) 156 (by decide) (by decide) ?_
        exact Gk.rNL (s := s) X531 hx Bd.returns (by simp) Bd.notSynchronized (hb hby at_156) e531 S32_ (Nat.le_trans q32_ (Nat.le_trans (Keep.of_wr W38).1 K307.1)) (1 : Int32) rfl ⟨rfl, N531⟩
theorem own_eqI {a0 : Array Value} {s : State} {t : Term} {k : Int32} (h : (Cond.eq t (.int k)).value a0 s none s [] = some true) : t.eval a0 s none [] s = some (.int k) := by
  have e2 : (Term.int k).eval a0 s none [] s = some (.int k) := rfl
  cases hf : t.eval a0 s none [] s with
  | none => simp [Cond.value, hf] at h
  | some w =>
    cases w <;> simp [Cond.value, hf, e2] at h
    rw [h]
set_option maxRecDepth 65536 in
set_option maxHeartbeats 40000000 in
theorem comes_1 {Post : Tables → Env → Array Value → State → Outcome → State → Prop} (hpost : ∀ tb e args s v u, (limb_1_1.after args s (.returned v) u = true ∧ limb_1_2.after args s (.returned v) u = true ∧ True) → ReturnedEndW s (.returned v) u (Jvm.fieldLocs frame_1_writes args s ++ Jvm.arrayLocs frame_1_arrays args s ++ Jvm.staticLocs frame_1_statics s) 24 3264 → Post tb e args s (.returned v) u) :
    ArmFor flags0 classFile x code maxLocals ret World_1 tables_1 room_1 Calls_1 rest_1 Pre_1 Post := by
  intro l hfl _ _ p e ha hc hk s m args below hf hA hF happ hP
  obtain ⟨hcalls, hrest, hpre⟩ := hP
  obtain ⟨-, -, -, hnamed, -, -, -, hat⟩ := (Spec.applies_iff hf).mp happ
  obtain ⟨hg, hn⟩ := and_e (Cond.before_iff.mp (show (Jvm.Cond.and given_1 narrow_1).before args s = true from hpre))
  obtain ⟨g1, g2⟩ := and_e hg
  obtain ⟨g3, g4⟩ := and_e g2
  obtain ⟨g5, g6⟩ := and_e g4
  obtain ⟨g7, g8⟩ := and_e g6
  obtain ⟨g9, g10⟩ := and_e g8
  obtain ⟨g11, g12⟩ := and_e g10
  obtain ⟨w0, w1, w2, w3, w4, w5, rfl⟩ : ∃ w0 w1 w2 w3 w4 w5 : Value, args = #[w0, w1, w2, w3, w4, w5] := by
    have hs : args.size = 6 := by simpa [Cond.value, given_1] using g1
    obtain ⟨L⟩ := args
    match L, hs with
    | [w0, w1, w2, w3, w4, w5], _ => exact ⟨w0, w1, w2, w3, w4, w5, rfl⟩
  have hw := fun d (hd : d ∈ tables_1) => atoms_spec (ws := Jvm.Cond.code x code maxLocals ret :: tables_1) hat d (List.mem_cons_of_mem _ hd)
  have hfit : Fit s := fun {y c} hc i hi => by
    obtain ⟨ha, rfl⟩ := Array.getElem?_eq_some_iff.mp hc
    have q := List.all_eq_true.mp ((Array.all_eq_true_iff_forall_mem.mp hF) _ (Array.getElem_mem ha)) i (List.mem_range.mpr hi)
    simpa [Array.getElem?_eq_getElem hi] using q
  obtain ⟨hsets, hown0⟩ := atoms_of _ (rest_1_c_eq ▸ (show rest_1_c.before _ s = true from hrest))
  have hr0 := Cond.before_iff.mp hown0
  obtain ⟨i0, ei0⟩ := is_v g3
  obtain rfl : w0 = (.int i0) := Option.some.inj ei0
  obtain ⟨i1, ei1⟩ := is_v g5
  obtain rfl : w1 = (.int i1) := Option.some.inj ei1
  obtain ⟨i2, ei2⟩ := is_v g7
  obtain rfl : w2 = (.int i2) := Option.some.inj ei2
  obtain ⟨i3, ei3⟩ := is_v g9
  obtain rfl : w3 = (.int i3) := Option.some.inj ei3
  obtain ⟨i4, ei4⟩ := is_v g11
  obtain rfl : w4 = (.int i4) := Option.some.inj ei4
  obtain ⟨i5, ei5⟩ := is_v g12
  obtain rfl : w5 = (.int i5) := Option.some.inj ei5
  obtain ⟨w_COMPACT_STRINGS, ew_CS⟩ := is_v (Cond.before_iff.mp (hsets _ (List.mem_of_getElem? (i := 1) rfl)))
  have S_COMPACT_STRINGS := Sta.start ew_CS (Or.inl (hsets _ (List.mem_of_getElem? (i := 0) rfl)))
  have hcs : ¬ (w_COMPACT_STRINGS = (0 : Int32)) := by
    intro q_
    have z_ := not_v (Cond.before_iff.mp (hsets _ (List.mem_of_getElem? (i := 2) rfl)))
    subst q_
    rw [eq_i ew_CS (Term.int_eval (0)) rfl] at z_
    cases z_
  
  obtain ⟨w_SIOOBE_FORMATTER, ew_SF, hsf⟩ := isR_v (Cond.before_iff.mp (hsets _ (List.mem_of_getElem? (i := 8) rfl)))
  have S_SIOOBE_FORMATTER := Sta.start ew_SF (Or.inl (hsets _ (List.mem_of_getElem? (i := 7) rfl)))
  obtain ew_assertionsDisabled := own_eqI (Cond.before_iff.mp (hsets _ (List.mem_of_getElem? (i := 12) rfl)))
  have S__assertionsDisabled := Sta.start ew_assertionsDisabled (Or.inl (hsets _ (List.mem_of_getElem? (i := 11) rfl)))
  obtain ewHI_BYTE_SHIFT := own_eqI (Cond.before_iff.mp (hsets _ (List.mem_of_getElem? (i := 15) rfl)))
  have S_HI_BYTE_SHIFT := Sta.start ewHI_BYTE_SHIFT (Or.inl (hsets _ (List.mem_of_getElem? (i := 14) rfl)))
  obtain ewLO_BYTE_SHIFT := own_eqI (Cond.before_iff.mp (hsets _ (List.mem_of_getElem? (i := 18) rfl)))
  have S_LO_BYTE_SHIFT := Sta.start ewLO_BYTE_SHIFT (Or.inl (hsets _ (List.mem_of_getElem? (i := 17) rfl)))
  have hn0 : s.heap.size = s.heap.size := rfl
  have hCH := CHv.start (own_EW hw) (fun p_ hp_ => hcalls.1 p_ hp_) (hsets _ (List.mem_of_getElem? (i := 2) rfl)) (hw _ (List.mem_of_getElem? (i := 26) rfl)) (hw _ (List.mem_of_getElem? (i := 9) rfl))
  obtain ⟨n, o, h1, h2, h3, _, L, rfl, ⟨rfl, N⟩, hq⟩ := rm0 l s _ hw tables_1 i0 i1 i2 i3 i4 i5 w_COMPACT_STRINGS w_SIOOBE_FORMATTER s.heap s.heap.size (Nat.le_refl _) (Stx.start S_COMPACT_STRINGS (Nat.le_refl _)) (Stx.start S_SIOOBE_FORMATTER (Nat.le_refl _)) (Stx.start S__assertionsDisabled (Nat.le_refl _)) (Stx.start S_HI_BYTE_SHIFT (Nat.le_refl _)) (Stx.start S_LO_BYTE_SHIFT (Nat.le_refl _)) hcs hsf hn0 p e ha hc hk s m _ below hf ((Spec.applies_iff_loose hf).mp happ).1 ⟨rfl, State.Warmed39.refl s, rfl, hCH⟩ trivial
  refine ⟨n, _, h1, h2, h3, hpost _ _ _ _ _ _ ⟨Cond.after_iff.mpr rfl, Cond.after_iff.mpr (eq_i res_at (Term.int_eval (1)) rfl), trivial⟩ ⟨hq.1, hq.2.1, hq.2.2.1, (hq.2.2.2.sift fun y hy => Or.inr (N y hy)).mono (by decide) (by decide)⟩⟩
theorem main_1_1 : Claimed_1_1 := comes_1 fun _ _ _ _ _ _ h hF => ⟨h.1, hF⟩
theorem main_1_2 : Claimed_1_2 := comes_1 fun _ _ _ _ _ _ h hF => ⟨h.2.1, hF⟩
end Jvm.Pilot.@@N@@
namespace Jvm.Pilot.@@N@@
open Jvm Jvm.ClassFile Sem Op Lib Jvm.Free Jvm.Stand Jvm.Pilot.@@N@@.Jvm.D
/-! MADE BY PROGRAM (witnessworld.py) out of the Statement's table words and the real class files: 21 classes; the members and pool entries that the words name. The judged class is class 1, her method 1. -/
namespace start1
open Jvm.ClassFile
def u (s : String) : CpInfo := .utf8 (stringToUtf16 s)
/-- a pool by its gaps: so many unusable entries, then the entry; so many at the end -/
def gap : Nat → List CpInfo → List CpInfo
  | 0, r => r
  | n + 1, r => .unusable :: gap n r
def poolList (es : List (Nat × CpInfo)) (last : Nat) : List CpInfo := es.foldr (fun e r => gap e.1 (e.2 :: r)) (gap last [])
def pool (es : List (Nat × CpInfo)) (last : Nat) : Array CpInfo := ⟨poolList es last⟩
def fileOf (pool : Array CpInfo) (this : Nat) (attrs : Array Attribute := #[]) (ms : Array MethodInfo := #[]) (fl : Nat := 33) (sup : Nat := 0) (ifs : Array Nat := #[]) (fds : Array FieldInfo := #[]) : ClassFile where
  minorVersion := 0
  majorVersion := 65
  constantPool := pool
  accessFlags := fl
  thisClass := this
  superClass := sup
  interfaces := ifs
  fields := fds
  methods := ms
  attributes := attrs
def plain (name : String) (sup : Option ClassId) : Class where
  name := name
  kind := .ordinary
  loader := none
  accessFlags := 33
  super := sup
  interfaces := #[]
  cf := none
  fields := #[]
  methods := #[]
  instanceTypes := #[]
  staticTypes := #[]
  resolved := #[]
  callSites := []
  init := .initialized
  statics := none
  mirror := none

def pool0 : Array CpInfo := pool [(5, u "<init>"), (0, u "()V"), (1, .class_ 10), (1, u "java/lang/Object")] 113

def k0c0 : Code := { maxStack := 0, maxLocals := 1, code := object_method_1_code, exceptionTable := #[], attributes := #[] }
def k0m0 : Method := { name := "<init>", desc := "()V", sig := { parameters := [], returnType := none }, accessFlags := 1, code := some k0c0 }
/-- java/lang/Object -/
def k0 : Class := { plain "java/lang/Object" none with
  accessFlags := 33
  interfaces := #[]
  cf := some (fileOf pool0 8 #[] #[{ accessFlags := 1, nameIndex := 5, descriptorIndex := 6, attributes := #[] }] 33 0 #[] #[])
  fields := #[]
  methods := #[k0m0]
  instanceTypes := #[]
  staticTypes := #[]
  resolved := Array.replicate 124 none
  statics := none }

def pool1 : Array CpInfo := pool [(2, .class_ 4), (1, u "java/lang/Object"), (0, u "<init>"), (0, u "()V"), (0, .methodref 8 9), (0, .class_ 10), (0, .nameAndType 11 12), (0, u "com/example/method_to_route/methodtoroute/PercentEncodingIsEscapePinLaw"), (0, u "draw"), (0, u "(I)C"), (0, .methodref 8 14), (0, .nameAndType 15 16), (0, u "make"), (0, u "(ICCCCC)Ljava/lang/String;"), (0, .methodref 8 18), (0, .nameAndType 19 20), (0, u "isHex"), (0, u "(C)Z"), (0, .methodref 22 23), (0, .class_ 24), (0, .nameAndType 25 26), (0, u "com/example/method_to_route/methodtoroute/PercentEncoding"), (0, u "isEscape"), (0, u "(Ljava/lang/String;I)Z"), (0, .string 28), (0, u "0123456789ABCDEFabcdef"), (0, .integer 65535), (0, .methodref 31 32), (0, .class_ 33), (0, .nameAndType 34 12), (0, u "java/lang/String"), (0, u "charAt"), (0, .methodref 31 36), (0, .nameAndType 5 37), (0, u "([C)V"), (2, u "law"), (0, u "(IIIIII)Z")] 5

def k1m0 : Method := { name := "<init>", desc := "()V", sig := { parameters := [], returnType := none }, accessFlags := 2, code := none }
def k1c1 : Code := { maxStack := 7, maxLocals := 11, code := code, exceptionTable := #[], attributes := #[] }
def k1m1 : Method := { name := "law", desc := "(IIIIII)Z", sig := { parameters := [.int, .int, .int, .int, .int, .int], returnType := some .boolean }, accessFlags := 9, code := some k1c1 }
def k1c2 : Code := { maxStack := 3, maxLocals := 2, code := method_3_code, exceptionTable := #[], attributes := #[] }
def k1m2 : Method := { name := "draw", desc := "(I)C", sig := { parameters := [.int], returnType := some .char }, accessFlags := 10, code := some k1c2 }
def k1c3 : Code := { maxStack := 2, maxLocals := 1, code := method_4_code, exceptionTable := #[], attributes := #[] }
def k1m3 : Method := { name := "isHex", desc := "(C)Z", sig := { parameters := [.char], returnType := some .boolean }, accessFlags := 10, code := some k1c3 }
def k1c4 : Code := { maxStack := 6, maxLocals := 6, code := method_5_code, exceptionTable := #[], attributes := #[] }
def k1m4 : Method := { name := "make", desc := "(ICCCCC)Ljava/lang/String;", sig := { parameters := [.int, .char, .char, .char, .char, .char], returnType := some (.object "java/lang/String") }, accessFlags := 10, code := some k1c4 }
/-- com/example/method_to_route/methodtoroute/PercentEncodingIsEscapePinLaw -/
def k1 : Class := { plain "com/example/method_to_route/methodtoroute/PercentEncodingIsEscapePinLaw" (some 0) with
  accessFlags := 49
  interfaces := #[]
  cf := some (fileOf pool1 8 #[] #[{ accessFlags := 2, nameIndex := 5, descriptorIndex := 6, attributes := #[] }, { accessFlags := 9, nameIndex := 40, descriptorIndex := 41, attributes := #[] }, { accessFlags := 10, nameIndex := 11, descriptorIndex := 12, attributes := #[] }, { accessFlags := 10, nameIndex := 19, descriptorIndex := 20, attributes := #[] }, { accessFlags := 10, nameIndex := 15, descriptorIndex := 16, attributes := #[] }] 49 2 #[] #[])
  fields := #[]
  methods := #[k1m0, k1m1, k1m2, k1m3, k1m4]
  instanceTypes := #[]
  staticTypes := #[]
  resolved := Array.replicate 47 none
  statics := none }

def pool2 : Array CpInfo := pool [(1, .class_ 2), (0, u "java/io/Serializable"), (0, .class_ 4), (0, u "java/lang/Object")] 2

/-- java/io/Serializable -/
def k2 : Class := { plain "java/io/Serializable" (some 0) with
  accessFlags := 1537
  interfaces := #[]
  cf := some (fileOf pool2 1 #[] #[] 1537 3 #[] #[])
  fields := #[]
  methods := #[]
  instanceTypes := #[]
  staticTypes := #[]
  resolved := Array.replicate 7 none
  statics := none }

def pool3 : Array CpInfo := pool [(1, .class_ 2), (0, u "java/lang/Comparable"), (0, .class_ 4), (0, u "java/lang/Object")] 7

/-- java/lang/Comparable -/
def k3 : Class := { plain "java/lang/Comparable" (some 0) with
  accessFlags := 1537
  interfaces := #[]
  cf := some (fileOf pool3 1 #[] #[] 1537 3 #[] #[])
  fields := #[]
  methods := #[]
  instanceTypes := #[]
  staticTypes := #[]
  resolved := Array.replicate 12 none
  statics := none }

def pool4 : Array CpInfo := pool [(2, .class_ 4), (1, u "java/lang/CharSequence"), (42, .class_ 48), (0, u "java/lang/CharSequence$1CodePointIterator"), (10, .class_ 60), (0, u "java/lang/CharSequence$1CharIterator"), (5, .class_ 67), (0, u "java/lang/Object")] 63

/-- java/lang/CharSequence -/
def k4 : Class := { plain "java/lang/CharSequence" (some 0) with
  accessFlags := 1537
  interfaces := #[]
  cf := some (fileOf pool4 2 #[.nestMembers #[47, 59]] #[] 1537 66 #[] #[])
  fields := #[]
  methods := #[]
  instanceTypes := #[]
  staticTypes := #[]
  resolved := Array.replicate 131 none
  statics := none }

def pool5 : Array CpInfo := pool [(1, .class_ 2), (0, u "java/lang/constant/Constable"), (0, .class_ 4), (0, u "java/lang/Object")] 6

/-- java/lang/constant/Constable -/
def k5 : Class := { plain "java/lang/constant/Constable" (some 0) with
  accessFlags := 1537
  interfaces := #[]
  cf := some (fileOf pool5 1 #[] #[] 1537 3 #[] #[])
  fields := #[]
  methods := #[]
  instanceTypes := #[]
  staticTypes := #[]
  resolved := Array.replicate 11 none
  statics := none }

def pool6 : Array CpInfo := pool [(1, .class_ 2), (0, u "java/lang/constant/ConstantDesc"), (0, .class_ 4), (0, u "java/lang/Object")] 32

/-- java/lang/constant/ConstantDesc -/
def k6 : Class := { plain "java/lang/constant/ConstantDesc" (some 0) with
  accessFlags := 1537
  interfaces := #[]
  cf := some (fileOf pool6 1 #[] #[] 1537 3 #[] #[])
  fields := #[]
  methods := #[]
  instanceTypes := #[]
  staticTypes := #[]
  resolved := Array.replicate 37 none
  statics := none }

def pool7 : Array CpInfo := pool [(1, .methodref 2 3), (0, .class_ 4), (0, .nameAndType 5 6), (0, u "java/lang/Object"), (0, u "<init>"), (0, u "()V"), (0, .string 8), (0, u ""), (0, .fieldref 10 11), (0, .class_ 12), (0, .nameAndType 13 14), (0, u "java/lang/String"), (0, u "value"), (0, u "[B"), (0, .fieldref 10 16), (0, .nameAndType 17 18), (0, u "coder"), (0, u "B"), (2, u "hash"), (0, u "I"), (2, u "hashIsZero"), (0, u "Z"), (0, .methodref 10 28), (0, .nameAndType 5 29), (0, u "([CIILjava/lang/Void;)V"), (8, .fieldref 10 39), (0, .nameAndType 40 26), (0, u "COMPACT_STRINGS"), (1, .class_ 44), (1, u "java/lang/StringUTF16"), (0, u "compress"), (1, .methodref 42 48), (0, .nameAndType 49 50), (0, u "coderFromArrayLen"), (0, u "([BI)B"), (56, .class_ 109), (1, u "java/lang/StringLatin1"), (32, u "()Z"), (34, .methodref 42 178), (0, .nameAndType 45 179), (0, u "([CII)[B"), (154, u "()I"), (0, .methodref 10 336), (0, .nameAndType 17 337), (0, u "()B"), (25, u "([BI)C"), (27, u "(II)V"), (35, u "(I)C"), (64, .methodref 10 493), (0, .nameAndType 494 142), (0, u "isLatin1"), (0, .methodref 107 496), (0, .nameAndType 497 363), (0, u "charAt"), (0, .methodref 42 496), (2, u "checkIndex"), (3, .methodref 10 506), (0, .nameAndType 507 334), (0, u "length"), (67, .class_ 576), (0, u "java/lang/CharSequence"), (22, u "CASE_INSENSITIVE_ORDER"), (0, u "Ljava/util/Comparator;"), (32, .methodref 10 634), (0, .nameAndType 635 636), (0, u "indexOf"), (0, u "(II)I"), (0, .methodref 107 638), (0, .nameAndType 635 639), (0, u "([BIII)I"), (125, u "(I)I"), (244, u "([C)V"), (42, .fieldref 1054 1055), (0, .class_ 1056), (0, .nameAndType 1057 1058), (0, u "jdk/internal/util/Preconditions"), (0, u "SIOOBE_FORMATTER"), (0, u "Ljava/util/function/BiFunction;"), (0, .methodref 1054 1060), (0, .nameAndType 501 1061), (0, u "(IILjava/util/function/BiFunction;)I"), (39, u "serialPersistentFields"), (0, u "[Ljava/io/ObjectStreamField;"), (0, .class_ 1104), (0, u "java/lang/String$CaseInsensitiveComparator"), (1, .class_ 1107), (0, u "java/io/Serializable"), (0, .class_ 1109), (0, u "java/lang/Comparable"), (0, .class_ 1111), (0, u "java/lang/constant/Constable"), (0, .class_ 1113), (0, u "java/lang/constant/ConstantDesc"), (2, u "serialVersionUID"), (0, u "J"), (3, u "REPL"), (0, u "C"), (2, u "LATIN1"), (1, u "UTF16")] 323

def k7m0 : Method := { name := "<init>", desc := "()V", sig := { parameters := [], returnType := none }, accessFlags := 1, code := none }
def k7c1 : Code := { maxStack := 5, maxLocals := 2, code := jdk_42_method_3_code, exceptionTable := #[], attributes := #[] }
def k7m1 : Method := { name := "<init>", desc := "([C)V", sig := { parameters := [(.array .char)], returnType := none }, accessFlags := 1, code := some k7c1 }
def k7c2 : Code := { maxStack := 2, maxLocals := 1, code := jdk_42_method_54_code, exceptionTable := #[], attributes := #[] }
def k7m2 : Method := { name := "length", desc := "()I", sig := { parameters := [], returnType := some .int }, accessFlags := 1, code := some k7c2 }
def k7c3 : Code := { maxStack := 2, maxLocals := 2, code := jdk_42_method_56_code, exceptionTable := #[], attributes := #[] }
def k7m3 : Method := { name := "charAt", desc := "(I)C", sig := { parameters := [.int], returnType := some .char }, accessFlags := 1, code := some k7c3 }
def k7c4 : Code := { maxStack := 3, maxLocals := 2, code := jdk_42_method_79_code, exceptionTable := #[], attributes := #[] }
def k7m4 : Method := { name := "indexOf", desc := "(I)I", sig := { parameters := [.int], returnType := some .int }, accessFlags := 1, code := some k7c4 }
def k7c5 : Code := { maxStack := 4, maxLocals := 3, code := jdk_42_method_80_code, exceptionTable := #[], attributes := #[] }
def k7m5 : Method := { name := "indexOf", desc := "(II)I", sig := { parameters := [.int, .int], returnType := some .int }, accessFlags := 1, code := some k7c5 }
def k7c6 : Code := { maxStack := 4, maxLocals := 6, code := jdk_42_method_149_code, exceptionTable := #[], attributes := #[] }
def k7m6 : Method := { name := "<init>", desc := "([CIILjava/lang/Void;)V", sig := { parameters := [(.array .char), .int, .int, (.object "java/lang/Void")], returnType := none }, accessFlags := 2, code := some k7c6 }
def k7c7 : Code := { maxStack := 1, maxLocals := 1, code := jdk_42_method_152_code, exceptionTable := #[], attributes := #[] }
def k7m7 : Method := { name := "coder", desc := "()B", sig := { parameters := [], returnType := some .byte }, accessFlags := 0, code := some k7c7 }
def k7c8 : Code := { maxStack := 1, maxLocals := 1, code := jdk_42_method_154_code, exceptionTable := #[], attributes := #[] }
def k7m8 : Method := { name := "isLatin1", desc := "()Z", sig := { parameters := [], returnType := some .boolean }, accessFlags := 0, code := some k7c8 }
def k7c9 : Code := { maxStack := 3, maxLocals := 2, code := jdk_42_method_155_code, exceptionTable := #[], attributes := #[] }
def k7m9 : Method := { name := "checkIndex", desc := "(II)V", sig := { parameters := [.int, .int], returnType := none }, accessFlags := 8, code := some k7c9 }
/-- java/lang/String -/
def k7 : Class := { plain "java/lang/String" (some 0) with
  accessFlags := 49
  interfaces := #[2, 3, 4, 5, 6]
  cf := some (fileOf pool7 10 #[.nestMembers #[1103]] #[{ accessFlags := 1, nameIndex := 5, descriptorIndex := 6, attributes := #[] }, { accessFlags := 1, nameIndex := 5, descriptorIndex := 1010, attributes := #[] }, { accessFlags := 1, nameIndex := 507, descriptorIndex := 334, attributes := #[] }, { accessFlags := 1, nameIndex := 497, descriptorIndex := 427, attributes := #[] }, { accessFlags := 1, nameIndex := 635, descriptorIndex := 765, attributes := #[] }, { accessFlags := 1, nameIndex := 635, descriptorIndex := 636, attributes := #[] }, { accessFlags := 2, nameIndex := 5, descriptorIndex := 29, attributes := #[] }, { accessFlags := 0, nameIndex := 17, descriptorIndex := 337, attributes := #[] }, { accessFlags := 0, nameIndex := 494, descriptorIndex := 142, attributes := #[] }, { accessFlags := 8, nameIndex := 501, descriptorIndex := 391, attributes := #[] }] 49 2 #[1106, 1108, 575, 1110, 1112] #[{ accessFlags := 18, nameIndex := 13, descriptorIndex := 14, attributes := #[] }, { accessFlags := 18, nameIndex := 17, descriptorIndex := 18, attributes := #[] }, { accessFlags := 2, nameIndex := 21, descriptorIndex := 22, attributes := #[] }, { accessFlags := 2, nameIndex := 25, descriptorIndex := 26, attributes := #[] }, { accessFlags := 26, nameIndex := 1116, descriptorIndex := 1117, attributes := #[] }, { accessFlags := 24, nameIndex := 40, descriptorIndex := 26, attributes := #[] }, { accessFlags := 26, nameIndex := 1101, descriptorIndex := 1102, attributes := #[] }, { accessFlags := 26, nameIndex := 1121, descriptorIndex := 1122, attributes := #[] }, { accessFlags := 25, nameIndex := 599, descriptorIndex := 600, attributes := #[] }, { accessFlags := 24, nameIndex := 1125, descriptorIndex := 18, attributes := #[] }, { accessFlags := 24, nameIndex := 1127, descriptorIndex := 18, attributes := #[] }])
  fields := #[{ name := "value", type := (.array .byte), accessFlags := 18, slot := 0, constantValue := 0 }, { name := "coder", type := .byte, accessFlags := 18, slot := 1, constantValue := 0 }, { name := "hash", type := .int, accessFlags := 2, slot := 2, constantValue := 0 }, { name := "hashIsZero", type := .boolean, accessFlags := 2, slot := 3, constantValue := 0 }, { name := "serialVersionUID", type := .long, accessFlags := 26, slot := 0, constantValue := 0 }, { name := "COMPACT_STRINGS", type := .boolean, accessFlags := 24, slot := 1, constantValue := 0 }, { name := "serialPersistentFields", type := (.array (.object "java/io/ObjectStreamField")), accessFlags := 26, slot := 2, constantValue := 0 }, { name := "REPL", type := .char, accessFlags := 26, slot := 3, constantValue := 0 }, { name := "CASE_INSENSITIVE_ORDER", type := (.object "java/util/Comparator"), accessFlags := 25, slot := 4, constantValue := 0 }, { name := "LATIN1", type := .byte, accessFlags := 24, slot := 5, constantValue := 0 }, { name := "UTF16", type := .byte, accessFlags := 24, slot := 6, constantValue := 0 }]
  methods := #[k7m0, k7m1, k7m2, k7m3, k7m4, k7m5, k7m6, k7m7, k7m8, k7m9]
  instanceTypes := #[(.array .byte), .byte, .int, .boolean]
  staticTypes := #[.long, .boolean, (.array (.object "java/io/ObjectStreamField")), .char, (.object "java/util/Comparator"), .byte, .byte]
  resolved := Array.replicate 1451 none
  statics := some 0 }

def pool8 : Array CpInfo := pool [(3, .class_ 4), (0, u "java/lang/String"), (1, .class_ 8), (1, u "java/lang/Object"), (0, u "<init>"), (0, u "()V"), (0, .methodref 12 13), (0, .class_ 14), (0, .nameAndType 15 16), (0, u "java/lang/StringUTF16"), (0, u "newBytesLength"), (0, u "(I)I"), (3, .integer 1073741823), (23, .fieldref 12 45), (0, .nameAndType 46 47), (0, u "$assertionsDisabled"), (0, u "Z"), (0, .methodref 12 49), (0, .nameAndType 50 51), (0, u "length"), (0, u "([B)I"), (7, .fieldref 12 60), (0, .nameAndType 61 62), (0, u "HI_BYTE_SHIFT"), (0, u "I"), (0, .fieldref 12 64), (0, .nameAndType 65 62), (0, u "LO_BYTE_SHIFT"), (1, .methodref 12 68), (0, .nameAndType 69 70), (0, u "checkIndex"), (0, u "(I[B)V"), (0, .methodref 12 72), (0, .nameAndType 73 74), (0, u "getChar"), (0, u "([BI)C"), (32, .methodref 12 108), (0, .nameAndType 109 110), (0, u "newBytesFor"), (0, u "(I)[B"), (0, .methodref 12 112), (0, .nameAndType 113 114), (0, u "putChar"), (0, u "([BII)V"), (0, .methodref 12 116), (0, .nameAndType 117 118), (0, u "compress"), (0, u "([CI[BII)I"), (0, .methodref 12 120), (0, .nameAndType 121 122), (0, u "toBytes"), (0, u "([CII)[B"), (138, u "coderFromArrayLen"), (0, u "([BI)B"), (106, .class_ 371), (1, u "java/lang/StringUTF16$LinesSpliterator"), (20, u "charAt"), (21, .methodref 3 415), (0, .nameAndType 69 416), (0, u "(II)V"), (13, u "MAX_LENGTH"), (196, .class_ 628), (0, u "java/lang/StringUTF16$CodePointsSpliterator"), (0, .class_ 630), (0, u "java/lang/StringUTF16$CharsSpliterator")] 4

def k8m0 : Method := { name := "<init>", desc := "()V", sig := { parameters := [], returnType := none }, accessFlags := 0, code := none }
def k8c1 : Code := { maxStack := 1, maxLocals := 1, code := jdk_52_method_2_code, exceptionTable := #[], attributes := #[] }
def k8m1 : Method := { name := "newBytesFor", desc := "(I)[B", sig := { parameters := [.int], returnType := some (.array .byte) }, accessFlags := 9, code := some k8c1 }
def k8c2 : Code := { maxStack := 4, maxLocals := 1, code := jdk_52_method_3_code, exceptionTable := #[], attributes := #[] }
def k8m2 : Method := { name := "newBytesLength", desc := "(I)I", sig := { parameters := [.int], returnType := some .int }, accessFlags := 9, code := some k8c2 }
def k8c3 : Code := { maxStack := 4, maxLocals := 3, code := jdk_52_method_4_code, exceptionTable := #[], attributes := #[] }
def k8m3 : Method := { name := "putChar", desc := "([BII)V", sig := { parameters := [(.array .byte), .int, .int], returnType := none }, accessFlags := 8, code := some k8c3 }
def k8c4 : Code := { maxStack := 3, maxLocals := 2, code := jdk_52_method_5_code, exceptionTable := #[], attributes := #[] }
def k8m4 : Method := { name := "getChar", desc := "([BI)C", sig := { parameters := [(.array .byte), .int], returnType := some .char }, accessFlags := 8, code := some k8c4 }
def k8c5 : Code := { maxStack := 2, maxLocals := 1, code := jdk_52_method_6_code, exceptionTable := #[], attributes := #[] }
def k8m5 : Method := { name := "length", desc := "([B)I", sig := { parameters := [(.array .byte)], returnType := some .int }, accessFlags := 9, code := some k8c5 }
def k8c6 : Code := { maxStack := 4, maxLocals := 5, code := jdk_52_method_14_code, exceptionTable := #[], attributes := #[] }
def k8m6 : Method := { name := "toBytes", desc := "([CII)[B", sig := { parameters := [(.array .char), .int, .int], returnType := some (.array .byte) }, accessFlags := 9, code := some k8c6 }
def k8c7 : Code := { maxStack := 2, maxLocals := 2, code := jdk_52_method_15_code, exceptionTable := #[], attributes := #[] }
def k8m7 : Method := { name := "coderFromArrayLen", desc := "([BI)B", sig := { parameters := [(.array .byte), .int], returnType := some .byte }, accessFlags := 8, code := some k8c7 }
def k8c8 : Code := { maxStack := 5, maxLocals := 6, code := jdk_52_method_16_code, exceptionTable := #[], attributes := #[] }
def k8m8 : Method := { name := "compress", desc := "([CII)[B", sig := { parameters := [(.array .char), .int, .int], returnType := some (.array .byte) }, accessFlags := 9, code := some k8c8 }
def k8c9 : Code := { maxStack := 3, maxLocals := 7, code := jdk_52_method_21_code, exceptionTable := #[], attributes := #[] }
def k8m9 : Method := { name := "compress", desc := "([CI[BII)I", sig := { parameters := [(.array .char), .int, (.array .byte), .int, .int], returnType := some .int }, accessFlags := 9, code := some k8c9 }
def k8c10 : Code := { maxStack := 2, maxLocals := 2, code := jdk_52_method_83_code, exceptionTable := #[], attributes := #[] }
def k8m10 : Method := { name := "charAt", desc := "([BI)C", sig := { parameters := [(.array .byte), .int], returnType := some .char }, accessFlags := 9, code := some k8c10 }
def k8c11 : Code := { maxStack := 2, maxLocals := 2, code := jdk_52_method_91_code, exceptionTable := #[], attributes := #[] }
def k8m11 : Method := { name := "checkIndex", desc := "(I[B)V", sig := { parameters := [.int, (.array .byte)], returnType := none }, accessFlags := 9, code := some k8c11 }
/-- java/lang/StringUTF16 -/
def k8 : Class := { plain "java/lang/StringUTF16" (some 0) with
  accessFlags := 48
  interfaces := #[]
  cf := some (fileOf pool8 12 #[.nestMembers #[627, 629, 369]] #[{ accessFlags := 0, nameIndex := 9, descriptorIndex := 10, attributes := #[] }, { accessFlags := 9, nameIndex := 109, descriptorIndex := 110, attributes := #[] }, { accessFlags := 9, nameIndex := 15, descriptorIndex := 16, attributes := #[] }, { accessFlags := 8, nameIndex := 113, descriptorIndex := 114, attributes := #[] }, { accessFlags := 8, nameIndex := 73, descriptorIndex := 74, attributes := #[] }, { accessFlags := 9, nameIndex := 50, descriptorIndex := 51, attributes := #[] }, { accessFlags := 9, nameIndex := 121, descriptorIndex := 122, attributes := #[] }, { accessFlags := 8, nameIndex := 261, descriptorIndex := 262, attributes := #[] }, { accessFlags := 9, nameIndex := 117, descriptorIndex := 122, attributes := #[] }, { accessFlags := 9, nameIndex := 117, descriptorIndex := 118, attributes := #[] }, { accessFlags := 9, nameIndex := 392, descriptorIndex := 74, attributes := #[] }, { accessFlags := 9, nameIndex := 69, descriptorIndex := 70, attributes := #[] }] 48 6 #[] #[{ accessFlags := 26, nameIndex := 61, descriptorIndex := 62, attributes := #[] }, { accessFlags := 26, nameIndex := 65, descriptorIndex := 62, attributes := #[] }, { accessFlags := 24, nameIndex := 430, descriptorIndex := 62, attributes := #[] }, { accessFlags := 4120, nameIndex := 46, descriptorIndex := 47, attributes := #[] }])
  fields := #[{ name := "HI_BYTE_SHIFT", type := .int, accessFlags := 26, slot := 0, constantValue := 0 }, { name := "LO_BYTE_SHIFT", type := .int, accessFlags := 26, slot := 1, constantValue := 0 }, { name := "MAX_LENGTH", type := .int, accessFlags := 24, slot := 2, constantValue := 0 }, { name := "$assertionsDisabled", type := .boolean, accessFlags := 4120, slot := 3, constantValue := 0 }]
  methods := #[k8m0, k8m1, k8m2, k8m3, k8m4, k8m5, k8m6, k8m7, k8m8, k8m9, k8m10, k8m11]
  instanceTypes := #[]
  staticTypes := #[.int, .int, .int, .boolean]
  resolved := Array.replicate 635 none
  statics := some 1 }

def pool9 : Array CpInfo := pool [(1, .class_ 2), (0, u "com/example/method_to_route/methodtoroute/PercentEncoding"), (1, .class_ 6), (1, u "java/lang/Object"), (0, u "<init>"), (0, u "()V"), (75, .methodref 85 86), (0, .class_ 87), (0, .nameAndType 88 89), (0, u "java/lang/String"), (0, u "indexOf"), (0, u "(I)I"), (0, .methodref 85 91), (0, .nameAndType 92 93), (0, u "length"), (0, u "()I"), (3, .methodref 85 98), (0, .nameAndType 99 100), (0, u "charAt"), (0, u "(I)C"), (34, .methodref 1 136), (0, .nameAndType 137 138), (0, u "hexDigit"), (0, u "(C)I"), (2, u "isEscape"), (0, u "(Ljava/lang/String;I)Z"), (15, .string 159), (0, u "0123456789ABCDEFabcdef"), (14, u "RESERVED"), (0, u "Ljava/lang/String;"), (3, u "HEX"), (0, u "HEX_DIGITS")] 50

def k9m0 : Method := { name := "<init>", desc := "()V", sig := { parameters := [], returnType := none }, accessFlags := 2, code := none }
def k9c1 : Code := { maxStack := 3, maxLocals := 2, code := prog_8_method_9_code, exceptionTable := #[], attributes := #[] }
def k9m1 : Method := { name := "isEscape", desc := "(Ljava/lang/String;I)Z", sig := { parameters := [(.object "java/lang/String"), .int], returnType := some .boolean }, accessFlags := 8, code := some k9c1 }
def k9c2 : Code := { maxStack := 2, maxLocals := 2, code := prog_8_method_11_code, exceptionTable := #[], attributes := #[] }
def k9m2 : Method := { name := "hexDigit", desc := "(C)I", sig := { parameters := [.char], returnType := some .int }, accessFlags := 10, code := some k9c2 }
/-- com/example/method_to_route/methodtoroute/PercentEncoding -/
def k9 : Class := { plain "com/example/method_to_route/methodtoroute/PercentEncoding" (some 0) with
  accessFlags := 48
  interfaces := #[]
  cf := some (fileOf pool9 1 #[] #[{ accessFlags := 2, nameIndex := 7, descriptorIndex := 8, attributes := #[] }, { accessFlags := 8, nameIndex := 141, descriptorIndex := 142, attributes := #[] }, { accessFlags := 10, nameIndex := 137, descriptorIndex := 138, attributes := #[] }] 48 4 #[] #[{ accessFlags := 24, nameIndex := 174, descriptorIndex := 175, attributes := #[] }, { accessFlags := 26, nameIndex := 179, descriptorIndex := 175, attributes := #[] }, { accessFlags := 26, nameIndex := 180, descriptorIndex := 175, attributes := #[] }])
  fields := #[{ name := "RESERVED", type := (.object "java/lang/String"), accessFlags := 24, slot := 0, constantValue := 0 }, { name := "HEX", type := (.object "java/lang/String"), accessFlags := 26, slot := 1, constantValue := 0 }, { name := "HEX_DIGITS", type := (.object "java/lang/String"), accessFlags := 26, slot := 2, constantValue := 0 }]
  methods := #[k9m0, k9m1, k9m2]
  instanceTypes := #[]
  staticTypes := #[(.object "java/lang/String"), (.object "java/lang/String"), (.object "java/lang/String")]
  resolved := Array.replicate 231 none
  statics := none }

def pool10 : Array CpInfo := pool [(1, .class_ 2), (0, u "java/lang/String"), (1, .class_ 6), (1, u "java/lang/Object"), (0, u "<init>"), (0, u "()V"), (0, .methodref 1 10), (0, .nameAndType 11 12), (0, u "checkIndex"), (0, u "(II)V"), (1, .class_ 16), (1, u "java/lang/StringLatin1"), (21, .methodref 39 40), (0, .class_ 41), (0, .nameAndType 42 43), (0, u "java/lang/Math"), (0, u "min"), (0, u "(II)I"), (9, u "([BI)C"), (34, .methodref 14 89), (0, .nameAndType 90 91), (0, u "canEncode"), (0, u "(I)Z"), (0, .methodref 39 93), (0, .nameAndType 94 43), (0, u "max"), (0, .methodref 14 96), (0, .nameAndType 97 98), (0, u "indexOfChar"), (0, u "([BIII)I"), (2, u "indexOf"), (19, u "$assertionsDisabled"), (0, u "Z"), (98, .class_ 223), (1, u "java/lang/StringLatin1$LinesSpliterator"), (28, u "charAt"), (137, .class_ 391), (0, u "java/lang/StringLatin1$CharsSpliterator")] 3

def k10m0 : Method := { name := "<init>", desc := "()V", sig := { parameters := [], returnType := none }, accessFlags := 0, code := none }
def k10c1 : Code := { maxStack := 2, maxLocals := 2, code := jdk_43_method_2_code, exceptionTable := #[], attributes := #[] }
def k10m1 : Method := { name := "charAt", desc := "([BI)C", sig := { parameters := [(.array .byte), .int], returnType := some .char }, accessFlags := 9, code := some k10c1 }
def k10c2 : Code := { maxStack := 2, maxLocals := 1, code := jdk_43_method_4_code, exceptionTable := #[], attributes := #[] }
def k10m2 : Method := { name := "canEncode", desc := "(I)Z", sig := { parameters := [.int], returnType := some .boolean }, accessFlags := 9, code := some k10c2 }
def k10c3 : Code := { maxStack := 4, maxLocals := 4, code := jdk_43_method_22_code, exceptionTable := #[], attributes := #[] }
def k10m3 : Method := { name := "indexOf", desc := "([BIII)I", sig := { parameters := [(.array .byte), .int, .int, .int], returnType := some .int }, accessFlags := 9, code := some k10c3 }
def k10c4 : Code := { maxStack := 2, maxLocals := 6, code := jdk_43_method_23_code, exceptionTable := #[], attributes := #[] }
def k10m4 : Method := { name := "indexOfChar", desc := "([BIII)I", sig := { parameters := [(.array .byte), .int, .int, .int], returnType := some .int }, accessFlags := 10, code := some k10c4 }
/-- java/lang/StringLatin1 -/
def k10 : Class := { plain "java/lang/StringLatin1" (some 0) with
  accessFlags := 48
  interfaces := #[]
  cf := some (fileOf pool10 14 #[.nestMembers #[390, 221]] #[{ accessFlags := 0, nameIndex := 7, descriptorIndex := 8, attributes := #[] }, { accessFlags := 9, nameIndex := 252, descriptorIndex := 53, attributes := #[] }, { accessFlags := 9, nameIndex := 90, descriptorIndex := 91, attributes := #[] }, { accessFlags := 9, nameIndex := 101, descriptorIndex := 98, attributes := #[] }, { accessFlags := 10, nameIndex := 97, descriptorIndex := 98, attributes := #[] }] 48 4 #[] #[{ accessFlags := 4120, nameIndex := 121, descriptorIndex := 122, attributes := #[] }])
  fields := #[{ name := "$assertionsDisabled", type := .boolean, accessFlags := 4120, slot := 0, constantValue := 0 }]
  methods := #[k10m0, k10m1, k10m2, k10m3, k10m4]
  instanceTypes := #[]
  staticTypes := #[.boolean]
  resolved := Array.replicate 395 none
  statics := none }

def pool11 : Array CpInfo := pool [(2, .class_ 4), (1, u "java/lang/Object"), (0, u "<init>"), (0, u "()V"), (17, .class_ 26), (1, u "jdk/internal/util/Preconditions"), (6, u "checkIndex"), (21, .class_ 56), (0, u "jdk/internal/util/Preconditions$4"), (57, .class_ 115), (0, u "jdk/internal/util/Preconditions$1"), (7, u "SIOOBE_FORMATTER"), (0, u "Ljava/util/function/BiFunction;"), (0, .class_ 126), (0, u "jdk/internal/util/Preconditions$2"), (3, u "AIOOBE_FORMATTER"), (0, .class_ 132), (0, u "jdk/internal/util/Preconditions$3"), (3, u "IOOBE_FORMATTER"), (41, u "(IILjava/util/function/BiFunction;)I")] 15

def k11m0 : Method := { name := "<init>", desc := "()V", sig := { parameters := [], returnType := none }, accessFlags := 1, code := none }
def k11c1 : Code := { maxStack := 3, maxLocals := 3, code := jdk_41_method_11_code, exceptionTable := #[], attributes := #[] }
def k11m1 : Method := { name := "checkIndex", desc := "(IILjava/util/function/BiFunction;)I", sig := { parameters := [.int, .int, (.object "java/util/function/BiFunction")], returnType := some .int }, accessFlags := 9, code := some k11c1 }
/-- jdk/internal/util/Preconditions -/
def k11 : Class := { plain "jdk/internal/util/Preconditions" (some 0) with
  accessFlags := 33
  interfaces := #[]
  cf := some (fileOf pool11 24 #[.nestMembers #[55, 131, 125, 114]] #[{ accessFlags := 1, nameIndex := 5, descriptorIndex := 6, attributes := #[] }, { accessFlags := 9, nameIndex := 33, descriptorIndex := 178, attributes := #[] }] 33 2 #[] #[{ accessFlags := 25, nameIndex := 123, descriptorIndex := 124, attributes := #[] }, { accessFlags := 25, nameIndex := 130, descriptorIndex := 124, attributes := #[] }, { accessFlags := 25, nameIndex := 136, descriptorIndex := 124, attributes := #[] }])
  fields := #[{ name := "SIOOBE_FORMATTER", type := (.object "java/util/function/BiFunction"), accessFlags := 25, slot := 0, constantValue := 0 }, { name := "AIOOBE_FORMATTER", type := (.object "java/util/function/BiFunction"), accessFlags := 25, slot := 1, constantValue := 0 }, { name := "IOOBE_FORMATTER", type := (.object "java/util/function/BiFunction"), accessFlags := 25, slot := 2, constantValue := 0 }]
  methods := #[k11m0, k11m1]
  instanceTypes := #[]
  staticTypes := #[(.object "java/util/function/BiFunction"), (.object "java/util/function/BiFunction"), (.object "java/util/function/BiFunction")]
  resolved := Array.replicate 194 none
  statics := some 2 }

def pool12 : Array CpInfo := pool [(1, .class_ 2), (0, u "java/lang/Math"), (1, .class_ 6), (1, u "java/lang/Object"), (0, u "<init>"), (0, u "()V"), (89, .class_ 100), (1, u "java/lang/Math$RandomNumberGeneratorHolder"), (71, u "negativeZeroFloatBits"), (0, u "J"), (2, u "negativeZeroDoubleBits"), (21, u "max"), (2, u "min"), (43, u "$assertionsDisabled"), (0, u "Z"), (88, u "(II)I"), (2, u "twoToTheDoubleScaleDown"), (0, u "D"), (4, u "twoToTheDoubleScaleUp"), (9, u "E"), (3, u "PI"), (2, u "TAU"), (2, u "DEGREES_TO_RADIANS"), (0, u "RADIANS_TO_DEGREES")] 94

def k12m0 : Method := { name := "<init>", desc := "()V", sig := { parameters := [], returnType := none }, accessFlags := 2, code := none }
def k12c1 : Code := { maxStack := 2, maxLocals := 2, code := jdk_29_method_65_code, exceptionTable := #[], attributes := #[] }
def k12m1 : Method := { name := "max", desc := "(II)I", sig := { parameters := [.int, .int], returnType := some .int }, accessFlags := 9, code := some k12c1 }
def k12c2 : Code := { maxStack := 2, maxLocals := 2, code := jdk_29_method_69_code, exceptionTable := #[], attributes := #[] }
def k12m2 : Method := { name := "min", desc := "(II)I", sig := { parameters := [.int, .int], returnType := some .int }, accessFlags := 9, code := some k12c2 }
/-- java/lang/Math -/
def k12 : Class := { plain "java/lang/Math" (some 0) with
  accessFlags := 49
  interfaces := #[]
  cf := some (fileOf pool12 1 #[.nestMembers #[98]] #[{ accessFlags := 2, nameIndex := 7, descriptorIndex := 8, attributes := #[] }, { accessFlags := 9, nameIndex := 198, descriptorIndex := 335, attributes := #[] }, { accessFlags := 9, nameIndex := 201, descriptorIndex := 335, attributes := #[] }] 49 4 #[] #[{ accessFlags := 25, nameIndex := 354, descriptorIndex := 339, attributes := #[] }, { accessFlags := 25, nameIndex := 358, descriptorIndex := 339, attributes := #[] }, { accessFlags := 25, nameIndex := 361, descriptorIndex := 339, attributes := #[] }, { accessFlags := 26, nameIndex := 364, descriptorIndex := 339, attributes := #[] }, { accessFlags := 26, nameIndex := 365, descriptorIndex := 339, attributes := #[] }, { accessFlags := 26, nameIndex := 172, descriptorIndex := 173, attributes := #[] }, { accessFlags := 26, nameIndex := 176, descriptorIndex := 173, attributes := #[] }, { accessFlags := 8, nameIndex := 344, descriptorIndex := 339, attributes := #[] }, { accessFlags := 8, nameIndex := 338, descriptorIndex := 339, attributes := #[] }, { accessFlags := 4120, nameIndex := 245, descriptorIndex := 246, attributes := #[] }])
  fields := #[{ name := "E", type := .double, accessFlags := 25, slot := 0, constantValue := 0 }, { name := "PI", type := .double, accessFlags := 25, slot := 1, constantValue := 0 }, { name := "TAU", type := .double, accessFlags := 25, slot := 2, constantValue := 0 }, { name := "DEGREES_TO_RADIANS", type := .double, accessFlags := 26, slot := 3, constantValue := 0 }, { name := "RADIANS_TO_DEGREES", type := .double, accessFlags := 26, slot := 4, constantValue := 0 }, { name := "negativeZeroFloatBits", type := .long, accessFlags := 26, slot := 5, constantValue := 0 }, { name := "negativeZeroDoubleBits", type := .long, accessFlags := 26, slot := 6, constantValue := 0 }, { name := "twoToTheDoubleScaleUp", type := .double, accessFlags := 8, slot := 7, constantValue := 0 }, { name := "twoToTheDoubleScaleDown", type := .double, accessFlags := 8, slot := 8, constantValue := 0 }, { name := "$assertionsDisabled", type := .boolean, accessFlags := 4120, slot := 9, constantValue := 0 }]
  methods := #[k12m0, k12m1, k12m2]
  instanceTypes := #[]
  staticTypes := #[.double, .double, .double, .double, .double, .long, .long, .double, .double, .boolean]
  resolved := Array.replicate 460 none
  statics := none }

def pool13 : Array CpInfo := pool [(9, u "<init>"), (6, .class_ 18), (1, u "java/lang/Object"), (0, u "()V"), (1, .class_ 23), (1, u "jdk/internal/util/ArraysSupport"), (0, u "LOG2_ARRAY_LONG_INDEX_SCALE"), (0, u "I"), (2, u "U"), (0, u "Ljdk/internal/misc/Unsafe;"), (8, u "BIG_ENDIAN"), (0, u "Z"), (8, u "LOG2_BYTE_BIT_SIZE"), (4, u "LOG2_ARRAY_INT_INDEX_SCALE"), (54, u "JLA"), (0, u "Ljdk/internal/access/JavaLangAccess;"), (11, u "LOG2_ARRAY_BOOLEAN_INDEX_SCALE"), (9, u "LOG2_ARRAY_BYTE_INDEX_SCALE"), (5, u "LOG2_ARRAY_CHAR_INDEX_SCALE"), (5, u "LOG2_ARRAY_SHORT_INDEX_SCALE"), (18, u "LOG2_ARRAY_FLOAT_INDEX_SCALE"), (24, u "LOG2_ARRAY_DOUBLE_INDEX_SCALE"), (89, u "T_BOOLEAN"), (2, u "T_CHAR"), (1, u "T_FLOAT"), (1, u "T_DOUBLE"), (1, u "T_BYTE"), (1, u "T_SHORT"), (1, u "T_INT"), (1, u "T_LONG"), (1, u "SOFT_MAX_ARRAY_LENGTH")] 83

def k13m0 : Method := { name := "<init>", desc := "()V", sig := { parameters := [], returnType := none }, accessFlags := 2, code := none }
/-- jdk/internal/util/ArraysSupport -/
def k13 : Class := { plain "jdk/internal/util/ArraysSupport" (some 0) with
  accessFlags := 33
  interfaces := #[]
  cf := some (fileOf pool13 21 #[] #[{ accessFlags := 2, nameIndex := 9, descriptorIndex := 19, attributes := #[] }] 33 16 #[] #[{ accessFlags := 24, nameIndex := 28, descriptorIndex := 29, attributes := #[] }, { accessFlags := 26, nameIndex := 38, descriptorIndex := 39, attributes := #[] }, { accessFlags := 25, nameIndex := 121, descriptorIndex := 25, attributes := #[] }, { accessFlags := 25, nameIndex := 131, descriptorIndex := 25, attributes := #[] }, { accessFlags := 25, nameIndex := 137, descriptorIndex := 25, attributes := #[] }, { accessFlags := 25, nameIndex := 143, descriptorIndex := 25, attributes := #[] }, { accessFlags := 25, nameIndex := 53, descriptorIndex := 25, attributes := #[] }, { accessFlags := 25, nameIndex := 24, descriptorIndex := 25, attributes := #[] }, { accessFlags := 25, nameIndex := 162, descriptorIndex := 25, attributes := #[] }, { accessFlags := 25, nameIndex := 187, descriptorIndex := 25, attributes := #[] }, { accessFlags := 26, nameIndex := 48, descriptorIndex := 25, attributes := #[] }, { accessFlags := 25, nameIndex := 277, descriptorIndex := 25, attributes := #[] }, { accessFlags := 25, nameIndex := 280, descriptorIndex := 25, attributes := #[] }, { accessFlags := 25, nameIndex := 282, descriptorIndex := 25, attributes := #[] }, { accessFlags := 25, nameIndex := 284, descriptorIndex := 25, attributes := #[] }, { accessFlags := 25, nameIndex := 286, descriptorIndex := 25, attributes := #[] }, { accessFlags := 25, nameIndex := 288, descriptorIndex := 25, attributes := #[] }, { accessFlags := 25, nameIndex := 290, descriptorIndex := 25, attributes := #[] }, { accessFlags := 25, nameIndex := 292, descriptorIndex := 25, attributes := #[] }, { accessFlags := 26, nameIndex := 108, descriptorIndex := 109, attributes := #[] }, { accessFlags := 25, nameIndex := 294, descriptorIndex := 25, attributes := #[] }])
  fields := #[{ name := "U", type := (.object "jdk/internal/misc/Unsafe"), accessFlags := 24, slot := 0, constantValue := 0 }, { name := "BIG_ENDIAN", type := .boolean, accessFlags := 26, slot := 1, constantValue := 0 }, { name := "LOG2_ARRAY_BOOLEAN_INDEX_SCALE", type := .int, accessFlags := 25, slot := 2, constantValue := 0 }, { name := "LOG2_ARRAY_BYTE_INDEX_SCALE", type := .int, accessFlags := 25, slot := 3, constantValue := 0 }, { name := "LOG2_ARRAY_CHAR_INDEX_SCALE", type := .int, accessFlags := 25, slot := 4, constantValue := 0 }, { name := "LOG2_ARRAY_SHORT_INDEX_SCALE", type := .int, accessFlags := 25, slot := 5, constantValue := 0 }, { name := "LOG2_ARRAY_INT_INDEX_SCALE", type := .int, accessFlags := 25, slot := 6, constantValue := 0 }, { name := "LOG2_ARRAY_LONG_INDEX_SCALE", type := .int, accessFlags := 25, slot := 7, constantValue := 0 }, { name := "LOG2_ARRAY_FLOAT_INDEX_SCALE", type := .int, accessFlags := 25, slot := 8, constantValue := 0 }, { name := "LOG2_ARRAY_DOUBLE_INDEX_SCALE", type := .int, accessFlags := 25, slot := 9, constantValue := 0 }, { name := "LOG2_BYTE_BIT_SIZE", type := .int, accessFlags := 26, slot := 10, constantValue := 0 }, { name := "T_BOOLEAN", type := .int, accessFlags := 25, slot := 11, constantValue := 0 }, { name := "T_CHAR", type := .int, accessFlags := 25, slot := 12, constantValue := 0 }, { name := "T_FLOAT", type := .int, accessFlags := 25, slot := 13, constantValue := 0 }, { name := "T_DOUBLE", type := .int, accessFlags := 25, slot := 14, constantValue := 0 }, { name := "T_BYTE", type := .int, accessFlags := 25, slot := 15, constantValue := 0 }, { name := "T_SHORT", type := .int, accessFlags := 25, slot := 16, constantValue := 0 }, { name := "T_INT", type := .int, accessFlags := 25, slot := 17, constantValue := 0 }, { name := "T_LONG", type := .int, accessFlags := 25, slot := 18, constantValue := 0 }, { name := "JLA", type := (.object "jdk/internal/access/JavaLangAccess"), accessFlags := 26, slot := 19, constantValue := 0 }, { name := "SOFT_MAX_ARRAY_LENGTH", type := .int, accessFlags := 25, slot := 20, constantValue := 0 }]
  methods := #[k13m0]
  instanceTypes := #[]
  staticTypes := #[(.object "jdk/internal/misc/Unsafe"), .boolean, .int, .int, .int, .int, .int, .int, .int, .int, .int, .int, .int, .int, .int, .int, .int, .int, .int, (.object "jdk/internal/access/JavaLangAccess"), .int]
  resolved := Array.replicate 378 none
  statics := none }

def pool14 : Array CpInfo := pool [(1, u "java/lang/Cloneable"), (0, .class_ 1), (0, u "java/lang/Object"), (0, .class_ 3)] 3

/-- java/lang/Cloneable -/
def k14 : Class := { plain "java/lang/Cloneable" (some 0) with
  accessFlags := 1537
  interfaces := #[]
  cf := some (fileOf pool14 2 #[] #[] 1537 4 #[] #[])
  fields := #[]
  methods := #[]
  instanceTypes := #[]
  staticTypes := #[]
  resolved := Array.replicate 8 none
  statics := none }

/-- the primitive byte -/
def k15 : Class := { plain "byte" none with kind := .primitive 'B', accessFlags := 0x411 }
/-- [B -/
def k16 : Class := { plain "[B" (some 0) with kind := .array 15 .byte, interfaces := #[14, 2], accessFlags := 1041 }

/-- the primitive char -/
def k17 : Class := { plain "char" none with kind := .primitive 'C', accessFlags := 0x411 }
/-- [C -/
def k18 : Class := { plain "[C" (some 0) with kind := .array 17 .char, interfaces := #[14, 2], accessFlags := 1041 }

/-- the primitive int -/
def k19 : Class := { plain "int" none with kind := .primitive 'I', accessFlags := 0x411 }
/-- [I -/
def k20 : Class := { plain "[I" (some 0) with kind := .array 19 .int, interfaces := #[14, 2], accessFlags := 1041 }

def heap : Heap := #[{ cls := 7, slots := #[.long 0, .int 1, .null, .int 0, .null, .int 0, .int 0], vm := .statics 7 },
  { cls := 8, slots := #[.int 0, .int 8, .int 0, .int 1], vm := .statics 8 },
  { cls := 11, slots := #[.null, .null, .null], vm := .statics 11 }]
def classes : Array Class := #[k0, k1, k2, k3, k4, k5, k6, k7, k8, k9, k10, k11, k12, k13, k14, k15, k16, k17, k18, k19, k20]
def interned : List (Array UInt16 × Addr) := []
def slotsUsed : Nat := 14
def theMethod : MethodId := ⟨1, 1⟩
def args0 : Array Value := #[.int 37, .int 65601, .int 131075, .int 8364, .int 70, .int 5]
def aboutOver (below : List Frame) : State where
  vm := { classes := classes, interned := interned.toArray }
  heap := heap
  slotsUsed := slotsUsed
  threads := #[{ frames := .invoking theMethod args0 :: below }]
def below0 : List Frame := [.native { method := ⟨0, 0⟩, args := #[] }]
def about1 : State := aboutOver below0
def p0 : Program := .bare "" "" ""
def e0 : Env := launch0.env 0 0 0
theorem w_frames : about1.frames = Frame.invoking theMethod args0 :: below0 := rfl
set_option maxRecDepth 65536 in
theorem w_args : argsFit about1.vm theMethod args0 = true := by decide +kernel
set_option maxRecDepth 65536 in
theorem w_heap : heapFits about1 = true := by decide +kernel
set_option maxRecDepth 65536 in
theorem w_runnable : about1.curStatus? = some .runnable := by decide +kernel
set_option maxRecDepth 65536 in
theorem w_alone : about1.alone = true := by decide +kernel
set_option maxRecDepth 65536 in
theorem w_named : about1.methodNamed? x = some theMethod := by decide +kernel
set_option maxRecDepth 65536 in
theorem w_hears : about1.hears theMethod below0 = true := by decide +kernel
set_option maxRecDepth 65536 in
theorem w_ripe : about1.ripe theMethod args0 below0 = true := by decide +kernel
theorem w_running : about1.status = .running := rfl
set_option maxRecDepth 65536 in
theorem w_room : about1.hasRoom e0.platform room_1 = true :=
  launch0.hasRoom_least _ room_1 (by decide +kernel) (by decide +kernel) (by decide +kernel) (by decide +kernel) (by decide +kernel) (by decide +kernel)
theorem allAtoms_all (ts : List Jvm.Cond) (a : Array Jvm.Value) (st : Jvm.State) : (allAtoms ts).before a st = ts.all (fun c => c.before a st) := by
  induction ts with
  | nil => rfl
  | cons c t ih =>
    show (Jvm.Cond.and c (allAtoms t)).before a st = _
    rw [Jvm.Cond.before_and, ih, List.all_cons]
def words1 : List Jvm.Cond := Jvm.Cond.code x code maxLocals ret :: tables_1
/-- a 'code' word, met by the world's own term for the bytes: nothing is compared byte by byte -/
theorem code_word {y : MethodName} {bytes : ByteArray} {mx : Nat} {rt : Option FieldType} {a : Array Value} {s : State} {m : MethodId} {meth : Method} {c : Code} (h1 : s.methodNamed? y = some m) (h2 : s.vm.method? m = some meth) (h3 : meth.code = some c) (h4 : c.code = bytes)
    (h5 : (c.maxLocals == mx && c.exceptionTable.isEmpty && decide (c.maxStack ≤ mostOperands) && decide (meth.sig.returnType = rt) && !meth.locks && decide (parseMethodDescriptor y.desc = some meth.sig)) = true) : (Jvm.Cond.code y bytes mx rt).before a s = true := by
  simp only [Bool.and_eq_true, beq_iff_eq, Bool.not_eq_true', decide_eq_true_eq] at h5
  obtain ⟨⟨⟨⟨⟨g1, g2⟩, g3⟩, g4⟩, g5⟩, g6⟩ := h5
  simp [Cond.before, Cond.holds, Cond.value, h1, h2, h3, h4, g1, g2, g3, g4, g5, g6]
def isCode : Jvm.Cond → Bool
  | .code _ _ _ _ => true
  | _ => false
theorem all_split {L : List Jvm.Cond} {P : Jvm.Cond → Bool} (h1 : L.all (fun c => isCode c || P c) = true) (h2 : ∀ c ∈ L.filter isCode, P c = true) : L.all P = true := by
  refine List.all_eq_true.mpr fun c hc => ?_
  have h := List.all_eq_true.mp h1 c hc
  rcases Bool.eq_false_or_eq_true (isCode c) with hi | hi
  · exact h2 c (List.mem_filter.mpr ⟨hc, hi⟩)
  · simpa [hi] using h
set_option maxRecDepth 65536 in
theorem w_c0 : (Jvm.Cond.code x code maxLocals ret).before args0 about1 = true := code_word (m := ⟨1, 1⟩) (meth := k1m1) (c := k1c1) (by decide +kernel) rfl rfl rfl (by decide +kernel)
set_option maxRecDepth 65536 in
theorem w_c1 : (Jvm.Cond.code ({ cls := "com/example/method_to_route/methodtoroute/PercentEncodingIsEscapePinLaw", name := "draw", desc := "(I)C" } : Jvm.MethodName) method_3_code (2 : Nat) (Option.some Jvm.ClassFile.FieldType.char)).before args0 about1 = true := code_word (m := ⟨1, 2⟩) (meth := k1m2) (c := k1c2) (by decide +kernel) rfl rfl rfl (by decide +kernel)
set_option maxRecDepth 65536 in
theorem w_c2 : (Jvm.Cond.code ({ cls := "com/example/method_to_route/methodtoroute/PercentEncodingIsEscapePinLaw", name := "make", desc := "(ICCCCC)Ljava/lang/String;" } : Jvm.MethodName) method_5_code (6 : Nat) (Option.some (Jvm.ClassFile.FieldType.object "java/lang/String"))).before args0 about1 = true := code_word (m := ⟨1, 4⟩) (meth := k1m4) (c := k1c4) (by decide +kernel) rfl rfl rfl (by decide +kernel)
set_option maxRecDepth 65536 in
theorem w_c3 : (Jvm.Cond.code ({ cls := "java/lang/String", name := "<init>", desc := "([C)V" } : Jvm.MethodName) jdk_42_method_3_code (2 : Nat) (Option.none : Option Jvm.ClassFile.FieldType)).before args0 about1 = true := code_word (m := ⟨7, 1⟩) (meth := k7m1) (c := k7c1) (by decide +kernel) rfl rfl rfl (by decide +kernel)
set_option maxRecDepth 65536 in
theorem w_c4 : (Jvm.Cond.code ({ cls := "java/lang/String", name := "<init>", desc := "([CIILjava/lang/Void;)V" } : Jvm.MethodName) jdk_42_method_149_code (6 : Nat) (Option.none : Option Jvm.ClassFile.FieldType)).before args0 about1 = true := code_word (m := ⟨7, 6⟩) (meth := k7m6) (c := k7c6) (by decide +kernel) rfl rfl rfl (by decide +kernel)
set_option maxRecDepth 65536 in
theorem w_c5 : (Jvm.Cond.code ({ cls := "java/lang/Object", name := "<init>", desc := "()V" } : Jvm.MethodName) object_method_1_code (1 : Nat) (Option.none : Option Jvm.ClassFile.FieldType)).before args0 about1 = true := code_word (m := ⟨0, 0⟩) (meth := k0m0) (c := k0c0) (by decide +kernel) rfl rfl rfl (by decide +kernel)
set_option maxRecDepth 65536 in
theorem w_c6 : (Jvm.Cond.code ({ cls := "java/lang/StringUTF16", name := "compress", desc := "([CII)[B" } : Jvm.MethodName) jdk_52_method_16_code (6 : Nat) (Option.some (Jvm.ClassFile.FieldType.array Jvm.ClassFile.FieldType.byte))).before args0 about1 = true := code_word (m := ⟨8, 8⟩) (meth := k8m8) (c := k8c8) (by decide +kernel) rfl rfl rfl (by decide +kernel)
set_option maxRecDepth 65536 in
theorem w_c7 : (Jvm.Cond.code ({ cls := "java/lang/StringUTF16", name := "compress", desc := "([CI[BII)I" } : Jvm.MethodName) jdk_52_method_21_code (7 : Nat) (Option.some Jvm.ClassFile.FieldType.int)).before args0 about1 = true := code_word (m := ⟨8, 9⟩) (meth := k8m9) (c := k8c9) (by decide +kernel) rfl rfl rfl (by decide +kernel)
set_option maxRecDepth 65536 in
theorem w_c8 : (Jvm.Cond.code ({ cls := "java/lang/StringUTF16", name := "coderFromArrayLen", desc := "([BI)B" } : Jvm.MethodName) jdk_52_method_15_code (2 : Nat) (Option.some Jvm.ClassFile.FieldType.byte)).before args0 about1 = true := code_word (m := ⟨8, 7⟩) (meth := k8m7) (c := k8c7) (by decide +kernel) rfl rfl rfl (by decide +kernel)
set_option maxRecDepth 65536 in
theorem w_c9 : (Jvm.Cond.code ({ cls := "com/example/method_to_route/methodtoroute/PercentEncoding", name := "isEscape", desc := "(Ljava/lang/String;I)Z" } : Jvm.MethodName) prog_8_method_9_code (2 : Nat) (Option.some Jvm.ClassFile.FieldType.boolean)).before args0 about1 = true := code_word (m := ⟨9, 1⟩) (meth := k9m1) (c := k9c1) (by decide +kernel) rfl rfl rfl (by decide +kernel)
set_option maxRecDepth 65536 in
theorem w_c10 : (Jvm.Cond.code ({ cls := "java/lang/String", name := "length", desc := "()I" } : Jvm.MethodName) jdk_42_method_54_code (1 : Nat) (Option.some Jvm.ClassFile.FieldType.int)).before args0 about1 = true := code_word (m := ⟨7, 2⟩) (meth := k7m2) (c := k7c2) (by decide +kernel) rfl rfl rfl (by decide +kernel)
set_option maxRecDepth 65536 in
theorem w_c11 : (Jvm.Cond.code ({ cls := "java/lang/String", name := "coder", desc := "()B" } : Jvm.MethodName) jdk_42_method_152_code (1 : Nat) (Option.some Jvm.ClassFile.FieldType.byte)).before args0 about1 = true := code_word (m := ⟨7, 7⟩) (meth := k7m7) (c := k7c7) (by decide +kernel) rfl rfl rfl (by decide +kernel)
set_option maxRecDepth 65536 in
theorem w_c12 : (Jvm.Cond.code ({ cls := "java/lang/String", name := "charAt", desc := "(I)C" } : Jvm.MethodName) jdk_42_method_56_code (2 : Nat) (Option.some Jvm.ClassFile.FieldType.char)).before args0 about1 = true := code_word (m := ⟨7, 3⟩) (meth := k7m3) (c := k7c3) (by decide +kernel) rfl rfl rfl (by decide +kernel)
set_option maxRecDepth 65536 in
theorem w_c13 : (Jvm.Cond.code ({ cls := "java/lang/String", name := "isLatin1", desc := "()Z" } : Jvm.MethodName) jdk_42_method_154_code (1 : Nat) (Option.some Jvm.ClassFile.FieldType.boolean)).before args0 about1 = true := code_word (m := ⟨7, 8⟩) (meth := k7m8) (c := k7c8) (by decide +kernel) rfl rfl rfl (by decide +kernel)
set_option maxRecDepth 65536 in
theorem w_c14 : (Jvm.Cond.code ({ cls := "java/lang/StringLatin1", name := "charAt", desc := "([BI)C" } : Jvm.MethodName) jdk_43_method_2_code (2 : Nat) (Option.some Jvm.ClassFile.FieldType.char)).before args0 about1 = true := code_word (m := ⟨10, 1⟩) (meth := k10m1) (c := k10c1) (by decide +kernel) rfl rfl rfl (by decide +kernel)
set_option maxRecDepth 65536 in
theorem w_c15 : (Jvm.Cond.code ({ cls := "java/lang/String", name := "checkIndex", desc := "(II)V" } : Jvm.MethodName) jdk_42_method_155_code (2 : Nat) (Option.none : Option Jvm.ClassFile.FieldType)).before args0 about1 = true := code_word (m := ⟨7, 9⟩) (meth := k7m9) (c := k7c9) (by decide +kernel) rfl rfl rfl (by decide +kernel)
set_option maxRecDepth 65536 in
theorem w_c16 : (Jvm.Cond.code ({ cls := "jdk/internal/util/Preconditions", name := "checkIndex", desc := "(IILjava/util/function/BiFunction;)I" } : Jvm.MethodName) jdk_41_method_11_code (3 : Nat) (Option.some Jvm.ClassFile.FieldType.int)).before args0 about1 = true := code_word (m := ⟨11, 1⟩) (meth := k11m1) (c := k11c1) (by decide +kernel) rfl rfl rfl (by decide +kernel)
set_option maxRecDepth 65536 in
theorem w_c17 : (Jvm.Cond.code ({ cls := "java/lang/StringUTF16", name := "toBytes", desc := "([CII)[B" } : Jvm.MethodName) jdk_52_method_14_code (5 : Nat) (Option.some (Jvm.ClassFile.FieldType.array Jvm.ClassFile.FieldType.byte))).before args0 about1 = true := code_word (m := ⟨8, 6⟩) (meth := k8m6) (c := k8c6) (by decide +kernel) rfl rfl rfl (by decide +kernel)
set_option maxRecDepth 65536 in
theorem w_c18 : (Jvm.Cond.code ({ cls := "java/lang/StringUTF16", name := "newBytesFor", desc := "(I)[B" } : Jvm.MethodName) jdk_52_method_2_code (1 : Nat) (Option.some (Jvm.ClassFile.FieldType.array Jvm.ClassFile.FieldType.byte))).before args0 about1 = true := code_word (m := ⟨8, 1⟩) (meth := k8m1) (c := k8c1) (by decide +kernel) rfl rfl rfl (by decide +kernel)
set_option maxRecDepth 65536 in
theorem w_c19 : (Jvm.Cond.code ({ cls := "java/lang/StringUTF16", name := "newBytesLength", desc := "(I)I" } : Jvm.MethodName) jdk_52_method_3_code (1 : Nat) (Option.some Jvm.ClassFile.FieldType.int)).before args0 about1 = true := code_word (m := ⟨8, 2⟩) (meth := k8m2) (c := k8c2) (by decide +kernel) rfl rfl rfl (by decide +kernel)
set_option maxRecDepth 65536 in
theorem w_c20 : (Jvm.Cond.code ({ cls := "java/lang/StringUTF16", name := "putChar", desc := "([BII)V" } : Jvm.MethodName) jdk_52_method_4_code (3 : Nat) (Option.none : Option Jvm.ClassFile.FieldType)).before args0 about1 = true := code_word (m := ⟨8, 3⟩) (meth := k8m3) (c := k8c3) (by decide +kernel) rfl rfl rfl (by decide +kernel)
set_option maxRecDepth 65536 in
theorem w_c21 : (Jvm.Cond.code ({ cls := "java/lang/StringUTF16", name := "getChar", desc := "([BI)C" } : Jvm.MethodName) jdk_52_method_5_code (2 : Nat) (Option.some Jvm.ClassFile.FieldType.char)).before args0 about1 = true := code_word (m := ⟨8, 4⟩) (meth := k8m4) (c := k8c4) (by decide +kernel) rfl rfl rfl (by decide +kernel)
set_option maxRecDepth 65536 in
theorem w_c22 : (Jvm.Cond.code ({ cls := "java/lang/StringUTF16", name := "charAt", desc := "([BI)C" } : Jvm.MethodName) jdk_52_method_83_code (2 : Nat) (Option.some Jvm.ClassFile.FieldType.char)).before args0 about1 = true := code_word (m := ⟨8, 10⟩) (meth := k8m10) (c := k8c10) (by decide +kernel) rfl rfl rfl (by decide +kernel)
set_option maxRecDepth 65536 in
theorem w_c23 : (Jvm.Cond.code ({ cls := "java/lang/StringUTF16", name := "checkIndex", desc := "(I[B)V" } : Jvm.MethodName) jdk_52_method_91_code (2 : Nat) (Option.none : Option Jvm.ClassFile.FieldType)).before args0 about1 = true := code_word (m := ⟨8, 11⟩) (meth := k8m11) (c := k8c11) (by decide +kernel) rfl rfl rfl (by decide +kernel)
set_option maxRecDepth 65536 in
theorem w_c24 : (Jvm.Cond.code ({ cls := "java/lang/StringUTF16", name := "length", desc := "([B)I" } : Jvm.MethodName) jdk_52_method_6_code (1 : Nat) (Option.some Jvm.ClassFile.FieldType.int)).before args0 about1 = true := code_word (m := ⟨8, 5⟩) (meth := k8m5) (c := k8c5) (by decide +kernel) rfl rfl rfl (by decide +kernel)
set_option maxRecDepth 65536 in
theorem w_c25 : (Jvm.Cond.code ({ cls := "com/example/method_to_route/methodtoroute/PercentEncodingIsEscapePinLaw", name := "isHex", desc := "(C)Z" } : Jvm.MethodName) method_4_code (1 : Nat) (Option.some Jvm.ClassFile.FieldType.boolean)).before args0 about1 = true := code_word (m := ⟨1, 3⟩) (meth := k1m3) (c := k1c3) (by decide +kernel) rfl rfl rfl (by decide +kernel)
set_option maxRecDepth 65536 in
theorem w_c26 : (Jvm.Cond.code ({ cls := "com/example/method_to_route/methodtoroute/PercentEncoding", name := "hexDigit", desc := "(C)I" } : Jvm.MethodName) prog_8_method_11_code (2 : Nat) (Option.some Jvm.ClassFile.FieldType.int)).before args0 about1 = true := code_word (m := ⟨9, 2⟩) (meth := k9m2) (c := k9c2) (by decide +kernel) rfl rfl rfl (by decide +kernel)
set_option maxRecDepth 65536 in
theorem w_c27 : (Jvm.Cond.code ({ cls := "java/lang/String", name := "indexOf", desc := "(I)I" } : Jvm.MethodName) jdk_42_method_79_code (2 : Nat) (Option.some Jvm.ClassFile.FieldType.int)).before args0 about1 = true := code_word (m := ⟨7, 4⟩) (meth := k7m4) (c := k7c4) (by decide +kernel) rfl rfl rfl (by decide +kernel)
set_option maxRecDepth 65536 in
theorem w_c28 : (Jvm.Cond.code ({ cls := "java/lang/String", name := "indexOf", desc := "(II)I" } : Jvm.MethodName) jdk_42_method_80_code (3 : Nat) (Option.some Jvm.ClassFile.FieldType.int)).before args0 about1 = true := code_word (m := ⟨7, 5⟩) (meth := k7m5) (c := k7c5) (by decide +kernel) rfl rfl rfl (by decide +kernel)
set_option maxRecDepth 65536 in
theorem w_c29 : (Jvm.Cond.code ({ cls := "java/lang/StringLatin1", name := "indexOf", desc := "([BIII)I" } : Jvm.MethodName) jdk_43_method_22_code (4 : Nat) (Option.some Jvm.ClassFile.FieldType.int)).before args0 about1 = true := code_word (m := ⟨10, 3⟩) (meth := k10m3) (c := k10c3) (by decide +kernel) rfl rfl rfl (by decide +kernel)
set_option maxRecDepth 65536 in
theorem w_c30 : (Jvm.Cond.code ({ cls := "java/lang/StringLatin1", name := "canEncode", desc := "(I)Z" } : Jvm.MethodName) jdk_43_method_4_code (1 : Nat) (Option.some Jvm.ClassFile.FieldType.boolean)).before args0 about1 = true := code_word (m := ⟨10, 2⟩) (meth := k10m2) (c := k10c2) (by decide +kernel) rfl rfl rfl (by decide +kernel)
set_option maxRecDepth 65536 in
theorem w_c31 : (Jvm.Cond.code ({ cls := "java/lang/Math", name := "max", desc := "(II)I" } : Jvm.MethodName) jdk_29_method_65_code (2 : Nat) (Option.some Jvm.ClassFile.FieldType.int)).before args0 about1 = true := code_word (m := ⟨12, 1⟩) (meth := k12m1) (c := k12c1) (by decide +kernel) rfl rfl rfl (by decide +kernel)
set_option maxRecDepth 65536 in
theorem w_c32 : (Jvm.Cond.code ({ cls := "java/lang/Math", name := "min", desc := "(II)I" } : Jvm.MethodName) jdk_29_method_69_code (2 : Nat) (Option.some Jvm.ClassFile.FieldType.int)).before args0 about1 = true := code_word (m := ⟨12, 2⟩) (meth := k12m2) (c := k12c2) (by decide +kernel) rfl rfl rfl (by decide +kernel)
set_option maxRecDepth 65536 in
theorem w_c33 : (Jvm.Cond.code ({ cls := "java/lang/StringLatin1", name := "indexOfChar", desc := "([BIII)I" } : Jvm.MethodName) jdk_43_method_23_code (6 : Nat) (Option.some Jvm.ClassFile.FieldType.int)).before args0 about1 = true := code_word (m := ⟨10, 4⟩) (meth := k10m4) (c := k10c4) (by decide +kernel) rfl rfl rfl (by decide +kernel)
def codes1 : List Jvm.Cond := [Jvm.Cond.code x code maxLocals ret, Jvm.Cond.code ({ cls := "com/example/method_to_route/methodtoroute/PercentEncodingIsEscapePinLaw", name := "draw", desc := "(I)C" } : Jvm.MethodName) method_3_code (2 : Nat) (Option.some Jvm.ClassFile.FieldType.char), Jvm.Cond.code ({ cls := "com/example/method_to_route/methodtoroute/PercentEncodingIsEscapePinLaw", name := "make", desc := "(ICCCCC)Ljava/lang/String;" } : Jvm.MethodName) method_5_code (6 : Nat) (Option.some (Jvm.ClassFile.FieldType.object "java/lang/String")), Jvm.Cond.code ({ cls := "java/lang/String", name := "<init>", desc := "([C)V" } : Jvm.MethodName) jdk_42_method_3_code (2 : Nat) (Option.none : Option Jvm.ClassFile.FieldType), Jvm.Cond.code ({ cls := "java/lang/String", name := "<init>", desc := "([CIILjava/lang/Void;)V" } : Jvm.MethodName) jdk_42_method_149_code (6 : Nat) (Option.none : Option Jvm.ClassFile.FieldType), Jvm.Cond.code ({ cls := "java/lang/Object", name := "<init>", desc := "()V" } : Jvm.MethodName) object_method_1_code (1 : Nat) (Option.none : Option Jvm.ClassFile.FieldType), Jvm.Cond.code ({ cls := "java/lang/StringUTF16", name := "compress", desc := "([CII)[B" } : Jvm.MethodName) jdk_52_method_16_code (6 : Nat) (Option.some (Jvm.ClassFile.FieldType.array Jvm.ClassFile.FieldType.byte)), Jvm.Cond.code ({ cls := "java/lang/StringUTF16", name := "compress", desc := "([CI[BII)I" } : Jvm.MethodName) jdk_52_method_21_code (7 : Nat) (Option.some Jvm.ClassFile.FieldType.int), Jvm.Cond.code ({ cls := "java/lang/StringUTF16", name := "coderFromArrayLen", desc := "([BI)B" } : Jvm.MethodName) jdk_52_method_15_code (2 : Nat) (Option.some Jvm.ClassFile.FieldType.byte), Jvm.Cond.code ({ cls := "com/example/method_to_route/methodtoroute/PercentEncoding", name := "isEscape", desc := "(Ljava/lang/String;I)Z" } : Jvm.MethodName) prog_8_method_9_code (2 : Nat) (Option.some Jvm.ClassFile.FieldType.boolean), Jvm.Cond.code ({ cls := "java/lang/String", name := "length", desc := "()I" } : Jvm.MethodName) jdk_42_method_54_code (1 : Nat) (Option.some Jvm.ClassFile.FieldType.int), Jvm.Cond.code ({ cls := "java/lang/String", name := "coder", desc := "()B" } : Jvm.MethodName) jdk_42_method_152_code (1 : Nat) (Option.some Jvm.ClassFile.FieldType.byte), Jvm.Cond.code ({ cls := "java/lang/String", name := "charAt", desc := "(I)C" } : Jvm.MethodName) jdk_42_method_56_code (2 : Nat) (Option.some Jvm.ClassFile.FieldType.char), Jvm.Cond.code ({ cls := "java/lang/String", name := "isLatin1", desc := "()Z" } : Jvm.MethodName) jdk_42_method_154_code (1 : Nat) (Option.some Jvm.ClassFile.FieldType.boolean), Jvm.Cond.code ({ cls := "java/lang/StringLatin1", name := "charAt", desc := "([BI)C" } : Jvm.MethodName) jdk_43_method_2_code (2 : Nat) (Option.some Jvm.ClassFile.FieldType.char), Jvm.Cond.code ({ cls := "java/lang/String", name := "checkIndex", desc := "(II)V" } : Jvm.MethodName) jdk_42_method_155_code (2 : Nat) (Option.none : Option Jvm.ClassFile.FieldType), Jvm.Cond.code ({ cls := "jdk/internal/util/Preconditions", name := "checkIndex", desc := "(IILjava/util/function/BiFunction;)I" } : Jvm.MethodName) jdk_41_method_11_code (3 : Nat) (Option.some Jvm.ClassFile.FieldType.int), Jvm.Cond.code ({ cls := "java/lang/StringUTF16", name := "toBytes", desc := "([CII)[B" } : Jvm.MethodName) jdk_52_method_14_code (5 : Nat) (Option.some (Jvm.ClassFile.FieldType.array Jvm.ClassFile.FieldType.byte)), Jvm.Cond.code ({ cls := "java/lang/StringUTF16", name := "newBytesFor", desc := "(I)[B" } : Jvm.MethodName) jdk_52_method_2_code (1 : Nat) (Option.some (Jvm.ClassFile.FieldType.array Jvm.ClassFile.FieldType.byte)), Jvm.Cond.code ({ cls := "java/lang/StringUTF16", name := "newBytesLength", desc := "(I)I" } : Jvm.MethodName) jdk_52_method_3_code (1 : Nat) (Option.some Jvm.ClassFile.FieldType.int), Jvm.Cond.code ({ cls := "java/lang/StringUTF16", name := "putChar", desc := "([BII)V" } : Jvm.MethodName) jdk_52_method_4_code (3 : Nat) (Option.none : Option Jvm.ClassFile.FieldType), Jvm.Cond.code ({ cls := "java/lang/StringUTF16", name := "getChar", desc := "([BI)C" } : Jvm.MethodName) jdk_52_method_5_code (2 : Nat) (Option.some Jvm.ClassFile.FieldType.char), Jvm.Cond.code ({ cls := "java/lang/StringUTF16", name := "charAt", desc := "([BI)C" } : Jvm.MethodName) jdk_52_method_83_code (2 : Nat) (Option.some Jvm.ClassFile.FieldType.char), Jvm.Cond.code ({ cls := "java/lang/StringUTF16", name := "checkIndex", desc := "(I[B)V" } : Jvm.MethodName) jdk_52_method_91_code (2 : Nat) (Option.none : Option Jvm.ClassFile.FieldType), Jvm.Cond.code ({ cls := "java/lang/StringUTF16", name := "length", desc := "([B)I" } : Jvm.MethodName) jdk_52_method_6_code (1 : Nat) (Option.some Jvm.ClassFile.FieldType.int), Jvm.Cond.code ({ cls := "com/example/method_to_route/methodtoroute/PercentEncodingIsEscapePinLaw", name := "isHex", desc := "(C)Z" } : Jvm.MethodName) method_4_code (1 : Nat) (Option.some Jvm.ClassFile.FieldType.boolean), Jvm.Cond.code ({ cls := "com/example/method_to_route/methodtoroute/PercentEncoding", name := "hexDigit", desc := "(C)I" } : Jvm.MethodName) prog_8_method_11_code (2 : Nat) (Option.some Jvm.ClassFile.FieldType.int), Jvm.Cond.code ({ cls := "java/lang/String", name := "indexOf", desc := "(I)I" } : Jvm.MethodName) jdk_42_method_79_code (2 : Nat) (Option.some Jvm.ClassFile.FieldType.int), Jvm.Cond.code ({ cls := "java/lang/String", name := "indexOf", desc := "(II)I" } : Jvm.MethodName) jdk_42_method_80_code (3 : Nat) (Option.some Jvm.ClassFile.FieldType.int), Jvm.Cond.code ({ cls := "java/lang/StringLatin1", name := "indexOf", desc := "([BIII)I" } : Jvm.MethodName) jdk_43_method_22_code (4 : Nat) (Option.some Jvm.ClassFile.FieldType.int), Jvm.Cond.code ({ cls := "java/lang/StringLatin1", name := "canEncode", desc := "(I)Z" } : Jvm.MethodName) jdk_43_method_4_code (1 : Nat) (Option.some Jvm.ClassFile.FieldType.boolean), Jvm.Cond.code ({ cls := "java/lang/Math", name := "max", desc := "(II)I" } : Jvm.MethodName) jdk_29_method_65_code (2 : Nat) (Option.some Jvm.ClassFile.FieldType.int), Jvm.Cond.code ({ cls := "java/lang/Math", name := "min", desc := "(II)I" } : Jvm.MethodName) jdk_29_method_69_code (2 : Nat) (Option.some Jvm.ClassFile.FieldType.int), Jvm.Cond.code ({ cls := "java/lang/StringLatin1", name := "indexOfChar", desc := "([BIII)I" } : Jvm.MethodName) jdk_43_method_23_code (6 : Nat) (Option.some Jvm.ClassFile.FieldType.int)]
set_option maxRecDepth 65536 in
theorem codes_eq : words1.filter isCode = codes1 := rfl
theorem w_codes : ∀ c ∈ words1.filter isCode, c.before args0 about1 = true := by
  rw [codes_eq]
  intro c hc
  simp only [codes1, List.mem_cons, List.not_mem_nil, or_false] at hc
  rcases hc with rfl | rfl | rfl | rfl | rfl | rfl | rfl | rfl | rfl | rfl | rfl | rfl | rfl | rfl | rfl | rfl | rfl | rfl | rfl | rfl | rfl | rfl | rfl | rfl | rfl | rfl | rfl | rfl | rfl | rfl | rfl | rfl | rfl | rfl
  · exact w_c0
  · exact w_c1
  · exact w_c2
  · exact w_c3
  · exact w_c4
  · exact w_c5
  · exact w_c6
  · exact w_c7
  · exact w_c8
  · exact w_c9
  · exact w_c10
  · exact w_c11
  · exact w_c12
  · exact w_c13
  · exact w_c14
  · exact w_c15
  · exact w_c16
  · exact w_c17
  · exact w_c18
  · exact w_c19
  · exact w_c20
  · exact w_c21
  · exact w_c22
  · exact w_c23
  · exact w_c24
  · exact w_c25
  · exact w_c26
  · exact w_c27
  · exact w_c28
  · exact w_c29
  · exact w_c30
  · exact w_c31
  · exact w_c32
  · exact w_c33
set_option maxRecDepth 65536 in
theorem w_t1 : (words1.take 24).all (fun c => isCode c || c.before args0 about1) = true := by decide +kernel
set_option maxRecDepth 65536 in
theorem w_t2 : ((words1.drop 24).take 24).all (fun c => isCode c || c.before args0 about1) = true := by decide +kernel
set_option maxRecDepth 65536 in
theorem w_t3 : (((words1.drop 24).drop 24).take 24).all (fun c => isCode c || c.before args0 about1) = true := by decide +kernel
set_option maxRecDepth 65536 in
theorem w_t4 : ((((words1.drop 24).drop 24).drop 24).take 24).all (fun c => isCode c || c.before args0 about1) = true := by decide +kernel
set_option maxRecDepth 65536 in
theorem w_t5 : (((((words1.drop 24).drop 24).drop 24).drop 24).take 24).all (fun c => isCode c || c.before args0 about1) = true := by decide +kernel
set_option maxRecDepth 65536 in
theorem w_t6 : (((((words1.drop 24).drop 24).drop 24).drop 24).drop 24).all (fun c => isCode c || c.before args0 about1) = true := by decide +kernel
theorem w_tables : (allAtoms (Jvm.Cond.code x code maxLocals ret :: tables_1)).before args0 about1 = true := by
  rw [allAtoms_all]
  show words1.all (fun c => c.before args0 about1) = true
  refine all_split ?_ w_codes
  rw [← List.take_append_drop 24 words1, List.all_append, w_t1, ← List.take_append_drop 24 (words1.drop 24), List.all_append, w_t2, ← List.take_append_drop 24 ((words1.drop 24).drop 24), List.all_append, w_t3, ← List.take_append_drop 24 (((words1.drop 24).drop 24).drop 24), List.all_append, w_t4, ← List.take_append_drop 24 ((((words1.drop 24).drop 24).drop 24).drop 24), List.all_append, w_t5, w_t6]
  rfl
set_option maxRecDepth 65536 in
theorem w_rest : rest_1_c.before args0 about1 = true := by decide +kernel
set_option maxRecDepth 65536 in
theorem w_case : (Jvm.Cond.and given_1 narrow_1).before args0 about1 = true := by decide +kernel
set_option maxRecDepth 65536 in
theorem w_consts : constsHeld consts_1 about1 := Jvm.Lit.constsHeldB_iff.mp (by decide +kernel)
theorem w_applies : (headSpec (Jvm.Cond.code x code maxLocals ret :: tables_1) room_1).applies x e0.platform about1 = true :=
  (Spec.applies_iff w_frames).mpr ⟨w_running, w_runnable, w_alone, w_named, w_hears, w_ripe, w_room, w_tables⟩
theorem atStart : AtStart classFile x code maxLocals ret World_1 tables_1 room_1 Calls_1 rest_1 Pre_1 launch0 p0 e0 about1 theMethod args0 below0 :=
  ⟨lists_1, trivial, launch0.admits_env _ _ _, launch0.least_env, fairChoices_fair.cas, fairChoices_fair.clock, w_frames, w_args, w_heap, w_applies, ⟨w_consts, trivial⟩, w_rest, w_case⟩
end start1
theorem witness_1 : WitnessClaimed_1 := ⟨start1.p0, start1.e0, start1.about1, start1.theMethod, start1.args0, start1.below0, start1.atStart⟩
end Jvm.Pilot.@@N@@
