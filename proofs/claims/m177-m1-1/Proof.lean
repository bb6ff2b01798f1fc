import JvmDerived
import JvmDerived.Pilot.@@N@@Statement
import JvmDerived.Pilot.@@N@@Code
set_option linter.unusedVariables false
set_option linter.unusedSimpArgs false
@@BLOCK:NumsL.lean.txt@@
namespace Jvm.RoadKit
open Sem ClassFile Op Lib Jvm.Stand Jvm.Free Jvm.LawKit
section Own
variable {p : Program} {l : Launch} {e : Env} {R : Room} {s : State} {m : MethodId} {args : Array Value} {below : List Frame} {meth : Method} {c : Code} {T : State} {locs : List Loc} {cells slots : Nat}
/-- from U the run ends, and P is said of the end -/
def Go (p : Program) (e : Env) (below : List Frame) (U : State) (P : Outcome → State → Prop) : Prop := ∃ s₂ o, Steps p.tables e below U s₂ ∧ s₂.status = .running ∧ Ended s₂ below o ∧ P o s₂
theorem Go.st {U U' : State} {P : Outcome → State → Prop} (k : ∀ t, Steps p.tables e below U' t → Steps p.tables e below U t) (g : Go p e below U' P) : Go p e below U P := by
  obtain ⟨t, o, a, r⟩ := g
  exact ⟨t, o, k t a, r⟩
theorem Go.tr {U U' : State} {P : Outcome → State → Prop} (k : Steps p.tables e below U U') (g : Go p e below U' P) : Go p e below U P := by
  obtain ⟨t, o, a, r⟩ := g
  exact ⟨t, o, k.trans a, r⟩
theorem Go.fin (X : Stand p l e R s m args below meth c T locs cells slots) {v : Option Value} (hv : meth.sig.returnType = none → v = none) (hlocks : meth.locks = false) {U : State} {P : Outcome → State → Prop}
    (st : ∀ fs, (∀ (f : JFrame) (acts : List Action), f.method = m → f.locked = none → f.entered = [] → (doReturn e (T.setTop f) acts v).1 = T.setFrames fs) → Steps p.tables e below U (T.setFrames fs))
    (hP : ∀ U' : State, U'.heap = T.heap → FrameEnd s (.returned v) U' locs cells slots → P (.returned v) U') : Go p e below U P := by
  obtain ⟨fs, hr, hrun, hended, hW, hsame⟩ := X.leave hv hlocks
  exact ⟨_, _, st fs hr, hrun, hended, hP _ rfl ⟨⟨_, rfl⟩, hW, hsame⟩⟩
theorem own_ord {a0 : Array Value} {t : Term} {a : Addr} {C n d : String} {k : Int32} (ev : t.eval a0 s none [] s = some (.ref a)) (h : (Cond.eq (.field t C n d) (.int k)).value a0 s none s [] = some true) : s.fieldOf? a C n d = some (.int k) := by
  have e1 := fld_at (C := C) (n := n) (dd := d) ev
  have e2 : (Term.int k).eval a0 s none [] s = some (.int k) := rfl
  cases hf : s.fieldOf? a C n d with
  | none => rw [hf] at e1; simp [Cond.value, e1] at h
  | some w =>
    rw [hf] at e1
    cases w <;> simp [Cond.value, e1, e2] at h
    rw [h]
theorem own_ne {a b : Addr} {C n d : String} {j k : Int32} (h1 : s.fieldOf? a C n d = some (.int j)) (h2 : s.fieldOf? b C n d = some (.int k)) (hne : j ≠ k) : a ≠ b := fun q => by
  subst q
  rw [h1] at h2
  exact hne (by injection (Option.some.inj h2))
theorem own_lsw {g : JFrame} {target : State} (X : Stand p l e R s m args below meth c T locs cells slots) (hx : p.tables.exec = Jvm.exec) (hg : g.method = m) {dflt : Int} {pairs : Array (Int × Int)} {len : Nat} {pc0 pc' : Nat} (hpc : g.pc = pc0)
    (hd : decode c.code g.pc = .ok (.lookupswitch dflt pairs, len)) {i : Int32} {rest : List Value} (hs : g.stack = .int i :: rest) {o : Int} (ho : lookupswitch.offset pairs.toList dflt i.toInt = o) (hso : ∀ (a b a_1 b_1 : Int), ((a, b), a_1, b_1) ∈ pairs.toList.zip pairs.toList.tail → a < a_1) (h0 : 0 ≤ (pc0 : Int) + o) (hp : ((pc0 : Int) + o).toNat = pc')
    (hr : Steps p.tables e below (T.setTop { g with pc := pc', stack := rest }) target) : Steps p.tables e below (T.setTop g) target := by
  subst hg hpc hp ho
  jvm_step X.here [X.here.top, hx, hd, hs, h0, lookupswitch.wp_chain]
  exact ⟨hso, hr⟩
theorem own_arvlt {Z : State} {h : Heap} {a : Addr} {k : ClassId} {ty : FieldType} {n : Int32} {vs : List Value} {d : Value} (V : Arv Z h a k ty n vs d) : a < h.size := by
  obtain ⟨c, A, -⟩ := V
  exact A.lt
end Own
end Jvm.RoadKit
namespace Jvm.Pilot.@@N@@
open Jvm Jvm.ClassFile Sem Op Lib Jvm.Free Jvm.Stand Jvm.LawKit Jvm.RoadKit Bundle Jvm.Pilot.@@N@@.Jvm.D

section ArfKit
variable {Z : State} {h h' : Heap} {a b : Addr} {k : ClassId} {ty : FieldType} {z : Int32} {f g : Nat → Value} {sl : Nat} {v w dv : Value} {ws : List Addr} {vs : List Value}
def Arf (Z : State) (h : Heap) (a : Addr) (k : ClassId) (ty : FieldType) (n : Int32) (f : Nat → Value) : Prop := ∃ c : Cell, Arr Z h a c ty ∧ c.cls = k ∧ c.slots.size = n.toNatClampNeg ∧ ¬ n < 0 ∧ (∀ i, i < c.slots.size → c.slots[i]? = some (f i)) ∧ ∀ i, i < c.slots.size → fits ty (f i) = true
def upd (f : Nat → Value) (i : Nat) (v : Value) : Nat → Value := fun j => if j = i then v else f j
theorem Arf.lt (F : Arf Z h a k ty z f) : a < h.size := by obtain ⟨c, A, -⟩ := F; exact A.lt
theorem Arf.ext (F : Arf Z h a k ty z f) (E : Ext h h') : Arf Z h' a k ty z f := by obtain ⟨c, A, r⟩ := F; exact ⟨c, A.ext E, r⟩
theorem Arf.other (F : Arf Z h b k ty z f) (W : Wr h h' a sl v) (q : b ≠ a) : Arf Z h' b k ty z f := by obtain ⟨c, A, r⟩ := F; exact ⟨c, A.other W q, r⟩
theorem Arf.keep (F : Arf Z h a k ty z f) (K : Keep h h' ws) (q : a ∉ ws) : Arf Z h' a k ty z f := by obtain ⟨c, A, r⟩ := F; exact ⟨c, ⟨K.2.1 a c A.1 q, A.2⟩, r⟩
theorem Arf.ofArv (F : Arv Z h a k ty z vs dv) (q : ∀ i, i < z.toNatClampNeg → vs.getD i dv = f i) : Arf Z h a k ty z f := by
  obtain ⟨c, A, q1, S, q3, H, G⟩ := F
  exact ⟨c, A, q1, S, q3, fun i hi => by rw [H i hi, q i (by rw [← S]; exact hi)], fun i hi => by rw [← q i (by rw [← S]; exact hi)]; exact G i hi⟩
theorem own_mapD (f : Nat → Value) (dv : Value) (n i : Nat) (hi : i < n) : ((List.range n).map f).getD i dv = f i := by
  simp [List.getD_eq_getElem?_getD, hi]
theorem Arf.arv (F : Arf Z h a k ty z f) (dv : Value) : Arv Z h a k ty z ((List.range z.toNatClampNeg).map f) dv := by
  obtain ⟨c, A, q1, S, q3, H, G⟩ := F
  exact ⟨c, A, q1, S, q3, fun i hi => by rw [H i hi, own_mapD f dv _ i (by rw [← S]; exact hi)], fun i hi => by rw [own_mapD f dv _ i (by rw [← S]; exact hi)]; exact G i hi⟩
theorem Arf.new (A : Arr Z h a (newA k ty z) ty) (q : ¬ z < 0) : Arf Z h a k ty z (fun _ => defaultValue ty) := Arf.ofArv (Arv.new A q) fun i _ => by simp [List.getD_eq_getElem?_getD]
theorem Arf.set {c : Cell} {j : Int32} (A : Arr Z h a c ty) (q1 : c.cls = k) (S : c.slots.size = z.toNatClampNeg) (q3 : ¬ z < 0) (H : ∀ i, i < c.slots.size → c.slots[i]? = some (f i)) (G : ∀ i, i < c.slots.size → fits ty (f i) = true) (hv : fits ty v = true) (W : Wr h h' a j.toNatClampNeg v) (i : Nat) (hj : j.toNatClampNeg = i) (hin : ¬ (j < 0 ∨ c.slots.size ≤ j.toNatClampNeg)) : Arf Z h' a k ty z (upd f i v) := by
  subst hj
  have hlt : j.toNatClampNeg < c.slots.size := Nat.lt_of_not_le fun q => hin (Or.inr q)
  refine ⟨_, A.same W, q1, by rw [sz_set]; exact S, q3, fun x hx => ?_, fun x hx => ?_⟩ <;> rw [sz_set] at hx <;> simp only [upd] <;> split
  · rename_i e
    subst e; simp [Cell.setSlot, hx]
  · rename_i e
    simp only [Cell.setSlot]; rw [Array.getElem?_setIfInBounds_ne (Ne.symm e)]; exact H x hx
  · exact hv
  · exact G x hx
theorem Arf.same (F : Arf Z h a k ty z f) (q : ∀ i, i < z.toNatClampNeg → f i = g i) : Arf Z h a k ty z g := by
  obtain ⟨c, A, q1, S, q3, H, G⟩ := F
  exact ⟨c, A, q1, S, q3, fun i hi => by rw [H i hi, q i (by rw [← S]; exact hi)], fun i hi => by rw [← q i (by rw [← S]; exact hi)]; exact G i hi⟩
/-- arraycopy's list, place by place -/
theorem own_cpD (f g : Nat → Value) (dv dd : Value) (n m sp dp nn : Nat) (h4 : sp + nn ≤ n) (h5 : dp + nn ≤ m) (i : Nat) (hi : i < m) :
    (((List.range m).map g).take dp ++ ((List.range nn).map fun i => ((List.range n).map f).getD (sp + i) dv) ++ ((List.range m).map g).drop (dp + nn)).getD i dd = if dp ≤ i ∧ i < dp + nn then f (sp + (i - dp)) else g i := by
  rw [List.getD_eq_getElem?_getD, List.append_assoc]
  have l1 : (((List.range m).map g).take dp).length = dp := by simp; omega
  have l2 : ((List.range nn).map fun i => ((List.range n).map f).getD (sp + i) dv).length = nn := by simp
  by_cases h1 : i < dp
  · have c : ¬ (dp ≤ i ∧ i < dp + nn) := by omega
    rw [if_neg c, List.getElem?_append_left (by rw [l1]; exact h1), List.getElem?_take]
    simp [h1, hi]
  · rw [List.getElem?_append_right (by rw [l1]; omega), l1]
    by_cases h2 : i < dp + nn
    · have c : dp ≤ i ∧ i < dp + nn := by omega
      rw [if_pos c, List.getElem?_append_left (by rw [l2]; omega)]
      have l : i - dp < nn := by omega
      have l2 : sp + (i - dp) < n := by omega
      simp [List.getD_eq_getElem?_getD, l, l2]
    · have c : ¬ (dp ≤ i ∧ i < dp + nn) := by omega
      rw [if_neg c, List.getElem?_append_right (by rw [l2]; omega), l2, List.getElem?_drop]
      have l : dp + nn + (i - dp - nn) = i := by omega
      rw [l]
      simp [hi]
theorem own_nb (x : Int32) : nar .byte (x.toInt8.toInt32) = x.toInt8.toInt32 := by
  show (x.toInt8.toInt32).toInt8.toInt32 = x.toInt8.toInt32
  simp
end ArfKit
section ArfSteps
variable {p : Program} {l : Launch} {e : Env} {R : Room} {s : State} {m : MethodId} {args : Array Value} {below : List Frame} {meth : Method} {c : Code} {T : State} {locs : List Loc} {cells slots : Nat} {Z : State} {h : Heap} {a b : Addr} {k : ClassId} {ty : FieldType} {z : Int32} {f g0 : Nat → Value}
/-- System.arraycopy of a primitive kind -/
theorem cpF (X : Stand p l e R s m args below meth c T locs cells slots) (hx : p.tables.exec = Jvm.exec) (hZ : Z.Warmed39 s.vm) {a0 : Array Value} {own : String} {index : Nat} (hown : s.vm.findClass own = some m.cls)
    (w1 : (Cond.methodLink own index Jvm.Stand.acN).before a0 Z = true) (w2 : (Cond.native Jvm.Stand.acN).before a0 Z = true) (w3 : (Cond.static Jvm.Stand.acN).before a0 Z = true) (w4 : (Cond.initialized "java/lang/System").before a0 Z = true) (eT : T.heap = h)
    {k' : ClassId} {z' sp dp nn : Int32} (A : Arf Z h a k ty z f) (B : Arf Z h b k' ty z' g0) (hty : refKind ty = false)
    (h1 : ¬ sp < 0) (h2 : ¬ dp < 0) (h3 : ¬ nn < 0) (h4 : sp.toNatClampNeg + nn.toNatClampNeg ≤ z.toNatClampNeg) (h5 : dp.toNatClampNeg + nn.toNatClampNeg ≤ z'.toNatClampNeg)
    {n0 : Nat} (N : Fr n0 locs) (ge : n0 ≤ b)
    {g : JFrame} (hg : g.method = m) (hsize : g.locals.size = c.maxLocals) {rest : List Value} (hs : g.stack = .int nn :: .int dp :: .ref b :: .int sp :: .ref a :: rest) (hd : decode c.code g.pc = .ok (.invokestatic index, 3))
    (hf : 1 ≤ R.frames) {W : Nat} (hW : 2 * g.monitorRoom + (rest.map fun v => v.category).sum ≤ W) (hlo : W + (nativeFrameWords "java/lang/System" "arraycopy" 5 + 11) ≤ R.locals) :
    ∃ T' h' L, Stand p l e R s m args below meth c T' L cells slots ∧ T'.heap = h' ∧ Fr n0 L ∧ Keep h h' [b] ∧ Arf Z h' b k' ty z' (fun i => if dp.toNatClampNeg ≤ i ∧ i < dp.toNatClampNeg + nn.toNatClampNeg then f (sp.toNatClampNeg + (i - dp.toNatClampNeg)) else g0 i) ∧
      ∀ target, Steps p.tables e below (T'.setTop { g with pc := g.pc + 3, stack := rest }) target → Steps p.tables e below (T.setTop g) target := by
  obtain ⟨T', h', L, X', e', N', K', V', st⟩ := cpA X hx hZ hown w1 w2 w3 w4 eT (A.arv .null) (B.arv .null) (Or.inl ⟨rfl, hty⟩) h1 h2 h3 h4 h5 rfl (by simp; omega) N ge hg hsize hs hd hf hW hlo
  exact ⟨T', h', L, X', e', N', K', Arf.ofArv V' fun i hi => own_cpD f g0 .null .null _ _ _ _ _ h4 h5 i hi, st⟩
end ArfSteps
namespace Gk
section GkKit
variable {p : Program} {l : Launch} {e : Env} {R : Room} {s : State} {m : MethodId} {args : Array Value} {below : List Frame} {meth : Method} {c : Code} {T : State} {locs : List Loc} {cells slots : Nat} {Ls : Array Slot} {S : List Value} {pc : Nat} {P : Outcome → State → Prop} {Z : State} {a0 : Array Value} {h : Heap}
theorem iloadN (X : Stand p l e R s m args below meth c T locs cells slots) (hx : p.tables.exec = Jvm.exec) {k : Fin 4} {v : Int32} (hd : decode c.code pc = .ok (.iload_n k, 1)) (hl : Ls[k.val]? = some (.val (.int v))) (K : Go p e below (T.setTop (mkF m (pc + 1) Ls (.int v :: S))) P) : Go p e below (T.setTop (mkF m pc Ls S)) P := Go.st (fun _ q_ => XS.iloadN X.here hx rfl hd hl q_) K
theorem iload (X : Stand p l e R s m args below meth c T locs cells slots) (hx : p.tables.exec = Jvm.exec) {k : Nat} {v : Int32} (hd : decode c.code pc = .ok (.iload k, 2)) (hl : Ls[k]? = some (.val (.int v))) (K : Go p e below (T.setTop (mkF m (pc + 2) Ls (.int v :: S))) P) : Go p e below (T.setTop (mkF m pc Ls S)) P := Go.st (fun _ q_ => XS.iload X.here hx rfl hd hl q_) K
theorem istoreN (X : Stand p l e R s m args below meth c T locs cells slots) (hx : p.tables.exec = Jvm.exec) {k : Fin 4} {v : Int32} (hd : decode c.code pc = .ok (.istore_n k, 1)) (L' : Array Slot) (hl : storeLocals Ls k.val (.int v) = some L') (K : Go p e below (T.setTop (mkF m (pc + 1) L' S)) P) : Go p e below (T.setTop (mkF m pc Ls (.int v :: S))) P := Go.st (fun _ q_ => XS.istoreN X.here hx rfl hd rfl hl q_) K
theorem istore (X : Stand p l e R s m args below meth c T locs cells slots) (hx : p.tables.exec = Jvm.exec) {k : Nat} {v : Int32} (hd : decode c.code pc = .ok (.istore k, 2)) (L' : Array Slot) (hl : storeLocals Ls k (.int v) = some L') (K : Go p e below (T.setTop (mkF m (pc + 2) L' S)) P) : Go p e below (T.setTop (mkF m pc Ls (.int v :: S))) P := Go.st (fun _ q_ => XS.istore X.here hx rfl hd rfl hl q_) K
theorem lloadN (X : Stand p l e R s m args below meth c T locs cells slots) (hx : p.tables.exec = Jvm.exec) {k : Fin 4} {v : Int64} (hd : decode c.code pc = .ok (.lload_n k, 1)) (hl : Ls[k.val]? = some (.val (.long v))) (K : Go p e below (T.setTop (mkF m (pc + 1) Ls (.long v :: S))) P) : Go p e below (T.setTop (mkF m pc Ls S)) P := Go.st (fun _ q_ => XS.lloadN X.here hx rfl hd hl q_) K
theorem lload (X : Stand p l e R s m args below meth c T locs cells slots) (hx : p.tables.exec = Jvm.exec) {k : Nat} {v : Int64} (hd : decode c.code pc = .ok (.lload k, 2)) (hl : Ls[k]? = some (.val (.long v))) (K : Go p e below (T.setTop (mkF m (pc + 2) Ls (.long v :: S))) P) : Go p e below (T.setTop (mkF m pc Ls S)) P := Go.st (fun _ q_ => XS.lload X.here hx rfl hd hl q_) K
theorem lstoreN (X : Stand p l e R s m args below meth c T locs cells slots) (hx : p.tables.exec = Jvm.exec) {k : Fin 4} {v : Int64} (hd : decode c.code pc = .ok (.lstore_n k, 1)) (L' : Array Slot) (hl : storeLocals Ls k.val (.long v) = some L') (K : Go p e below (T.setTop (mkF m (pc + 1) L' S)) P) : Go p e below (T.setTop (mkF m pc Ls (.long v :: S))) P := Go.st (fun _ q_ => XS.lstoreN X.here hx rfl hd rfl hl q_) K
theorem lstore (X : Stand p l e R s m args below meth c T locs cells slots) (hx : p.tables.exec = Jvm.exec) {k : Nat} {v : Int64} (hd : decode c.code pc = .ok (.lstore k, 2)) (L' : Array Slot) (hl : storeLocals Ls k (.long v) = some L') (K : Go p e below (T.setTop (mkF m (pc + 2) L' S)) P) : Go p e below (T.setTop (mkF m pc Ls (.long v :: S))) P := Go.st (fun _ q_ => XS.lstore X.here hx rfl hd rfl hl q_) K
theorem aloadN (X : Stand p l e R s m args below meth c T locs cells slots) (hx : p.tables.exec = Jvm.exec) {k : Fin 4} {v : Value} (hd : decode c.code pc = .ok (.aload_n k, 1)) (hl : Ls[k.val]? = some (.val v)) (hv : v.isRef = true) (K : Go p e below (T.setTop (mkF m (pc + 1) Ls (v :: S))) P) : Go p e below (T.setTop (mkF m pc Ls S)) P := Go.st (fun _ q_ => XS.aloadN X.here hx rfl hd hl hv q_) K
theorem aload (X : Stand p l e R s m args below meth c T locs cells slots) (hx : p.tables.exec = Jvm.exec) {k : Nat} {v : Value} (hd : decode c.code pc = .ok (.aload k, 2)) (hl : Ls[k]? = some (.val v)) (hv : v.isRef = true) (K : Go p e below (T.setTop (mkF m (pc + 2) Ls (v :: S))) P) : Go p e below (T.setTop (mkF m pc Ls S)) P := Go.st (fun _ q_ => XS.aload X.here hx rfl hd hl hv q_) K
theorem astoreN (X : Stand p l e R s m args below meth c T locs cells slots) (hx : p.tables.exec = Jvm.exec) {k : Fin 4} {v : Value} (hd : decode c.code pc = .ok (.astore_n k, 1)) (hv : v.isRef = true) (L' : Array Slot) (hl : storeLocals Ls k.val v = some L') (K : Go p e below (T.setTop (mkF m (pc + 1) L' S)) P) : Go p e below (T.setTop (mkF m pc Ls (v :: S))) P := Go.st (fun _ q_ => XS.astoreN X.here hx rfl hd rfl hv hl q_) K
theorem astore (X : Stand p l e R s m args below meth c T locs cells slots) (hx : p.tables.exec = Jvm.exec) {k : Nat} {v : Value} (hd : decode c.code pc = .ok (.astore k, 2)) (hv : v.isRef = true) (L' : Array Slot) (hl : storeLocals Ls k v = some L') (K : Go p e below (T.setTop (mkF m (pc + 2) L' S)) P) : Go p e below (T.setTop (mkF m pc Ls (v :: S))) P := Go.st (fun _ q_ => XS.astore X.here hx rfl hd rfl hv hl q_) K
theorem iconst (X : Stand p l e R s m args below meth c T locs cells slots) (hx : p.tables.exec = Jvm.exec) {i : Int} (hd : decode c.code pc = .ok (.iconst i, 1)) (z : Int32) (hz : Int32.ofInt i = z) (K : Go p e below (T.setTop (mkF m (pc + 1) Ls (.int z :: S))) P) : Go p e below (T.setTop (mkF m pc Ls S)) P := Go.st (fun _ q_ => XS.iconst X.here hx rfl hd (by subst hz; exact q_)) K
theorem bipush (X : Stand p l e R s m args below meth c T locs cells slots) (hx : p.tables.exec = Jvm.exec) {i : Int} (hd : decode c.code pc = .ok (.bipush i, 2)) (z : Int32) (hz : (Int8.ofInt i).toInt32 = z) (K : Go p e below (T.setTop (mkF m (pc + 2) Ls (.int z :: S))) P) : Go p e below (T.setTop (mkF m pc Ls S)) P := Go.st (fun _ q_ => XS.bipush X.here hx rfl hd (by subst hz; exact q_)) K
theorem sipush (X : Stand p l e R s m args below meth c T locs cells slots) (hx : p.tables.exec = Jvm.exec) {i : Int} (hd : decode c.code pc = .ok (.sipush i, 3)) (z : Int32) (hz : (Int16.ofInt i).toInt32 = z) (K : Go p e below (T.setTop (mkF m (pc + 3) Ls (.int z :: S))) P) : Go p e below (T.setTop (mkF m pc Ls S)) P := Go.st (fun _ q_ => XS.sipush X.here hx rfl hd (by subst hz; exact q_)) K
theorem lconst0 (X : Stand p l e R s m args below meth c T locs cells slots) (hx : p.tables.exec = Jvm.exec) (hd : decode c.code pc = .ok (.lconst 0, 1)) (K : Go p e below (T.setTop (mkF m (pc + 1) Ls (.long (0 : Int64) :: S))) P) : Go p e below (T.setTop (mkF m pc Ls S)) P := Go.st (fun _ q_ => XS.lconst X.here hx rfl hd q_) K
theorem lconst1 (X : Stand p l e R s m args below meth c T locs cells slots) (hx : p.tables.exec = Jvm.exec) (hd : decode c.code pc = .ok (.lconst 1, 1)) (K : Go p e below (T.setTop (mkF m (pc + 1) Ls (.long (1 : Int64) :: S))) P) : Go p e below (T.setTop (mkF m pc Ls S)) P := Go.st (fun _ q_ => XS.lconst X.here hx rfl hd q_) K
theorem aconstNull (X : Stand p l e R s m args below meth c T locs cells slots) (hx : p.tables.exec = Jvm.exec)  (hd : decode c.code pc = .ok (.aconst_null, 1))  (K : Go p e below (T.setTop (mkF m (pc + 1) Ls (.null :: S))) P) : Go p e below (T.setTop (mkF m pc Ls S)) P := Go.st (fun _ q_ => XS.aconstNull X.here hx rfl hd q_) K
theorem iadd (X : Stand p l e R s m args below meth c T locs cells slots) (hx : p.tables.exec = Jvm.exec) {x y : Int32} (hd : decode c.code pc = .ok (.iadd, 1)) (z : Int32) (hz : x + y = z) (K : Go p e below (T.setTop (mkF m (pc + 1) Ls (.int z :: S))) P) : Go p e below (T.setTop (mkF m pc Ls (.int y :: .int x :: S))) P := Go.st (fun _ q_ => XS.iadd X.here hx rfl hd rfl (by subst hz; exact q_)) K
theorem ladd (X : Stand p l e R s m args below meth c T locs cells slots) (hx : p.tables.exec = Jvm.exec) {x y : Int64} (hd : decode c.code pc = .ok (.ladd, 1)) (z : Int64) (hz : x + y = z) (K : Go p e below (T.setTop (mkF m (pc + 1) Ls (.long z :: S))) P) : Go p e below (T.setTop (mkF m pc Ls (.long y :: .long x :: S))) P := Go.st (fun _ q_ => XS.ladd X.here hx rfl hd rfl (by subst hz; exact q_)) K
theorem isub (X : Stand p l e R s m args below meth c T locs cells slots) (hx : p.tables.exec = Jvm.exec) {x y : Int32} (hd : decode c.code pc = .ok (.isub, 1)) (z : Int32) (hz : x - y = z) (K : Go p e below (T.setTop (mkF m (pc + 1) Ls (.int z :: S))) P) : Go p e below (T.setTop (mkF m pc Ls (.int y :: .int x :: S))) P := Go.st (fun _ q_ => XS.isub X.here hx rfl hd rfl (by subst hz; exact q_)) K
theorem lsub (X : Stand p l e R s m args below meth c T locs cells slots) (hx : p.tables.exec = Jvm.exec) {x y : Int64} (hd : decode c.code pc = .ok (.lsub, 1)) (z : Int64) (hz : x - y = z) (K : Go p e below (T.setTop (mkF m (pc + 1) Ls (.long z :: S))) P) : Go p e below (T.setTop (mkF m pc Ls (.long y :: .long x :: S))) P := Go.st (fun _ q_ => XS.lsub X.here hx rfl hd rfl (by subst hz; exact q_)) K
theorem imul (X : Stand p l e R s m args below meth c T locs cells slots) (hx : p.tables.exec = Jvm.exec) {x y : Int32} (hd : decode c.code pc = .ok (.imul, 1)) (z : Int32) (hz : x * y = z) (K : Go p e below (T.setTop (mkF m (pc + 1) Ls (.int z :: S))) P) : Go p e below (T.setTop (mkF m pc Ls (.int y :: .int x :: S))) P := Go.st (fun _ q_ => XS.imul X.here hx rfl hd rfl (by subst hz; exact q_)) K
theorem lmul (X : Stand p l e R s m args below meth c T locs cells slots) (hx : p.tables.exec = Jvm.exec) {x y : Int64} (hd : decode c.code pc = .ok (.lmul, 1)) (z : Int64) (hz : x * y = z) (K : Go p e below (T.setTop (mkF m (pc + 1) Ls (.long z :: S))) P) : Go p e below (T.setTop (mkF m pc Ls (.long y :: .long x :: S))) P := Go.st (fun _ q_ => XS.lmul X.here hx rfl hd rfl (by subst hz; exact q_)) K
theorem iand (X : Stand p l e R s m args below meth c T locs cells slots) (hx : p.tables.exec = Jvm.exec) {x y : Int32} (hd : decode c.code pc = .ok (.iand, 1)) (z : Int32) (hz : x &&& y = z) (K : Go p e below (T.setTop (mkF m (pc + 1) Ls (.int z :: S))) P) : Go p e below (T.setTop (mkF m pc Ls (.int y :: .int x :: S))) P := Go.st (fun _ q_ => XS.iand X.here hx rfl hd rfl (by subst hz; exact q_)) K
theorem land (X : Stand p l e R s m args below meth c T locs cells slots) (hx : p.tables.exec = Jvm.exec) {x y : Int64} (hd : decode c.code pc = .ok (.land, 1)) (z : Int64) (hz : x &&& y = z) (K : Go p e below (T.setTop (mkF m (pc + 1) Ls (.long z :: S))) P) : Go p e below (T.setTop (mkF m pc Ls (.long y :: .long x :: S))) P := Go.st (fun _ q_ => XS.land X.here hx rfl hd rfl (by subst hz; exact q_)) K
theorem ior (X : Stand p l e R s m args below meth c T locs cells slots) (hx : p.tables.exec = Jvm.exec) {x y : Int32} (hd : decode c.code pc = .ok (.ior, 1)) (z : Int32) (hz : x ||| y = z) (K : Go p e below (T.setTop (mkF m (pc + 1) Ls (.int z :: S))) P) : Go p e below (T.setTop (mkF m pc Ls (.int y :: .int x :: S))) P := Go.st (fun _ q_ => XS.ior X.here hx rfl hd rfl (by subst hz; exact q_)) K
theorem lor (X : Stand p l e R s m args below meth c T locs cells slots) (hx : p.tables.exec = Jvm.exec) {x y : Int64} (hd : decode c.code pc = .ok (.lor, 1)) (z : Int64) (hz : x ||| y = z) (K : Go p e below (T.setTop (mkF m (pc + 1) Ls (.long z :: S))) P) : Go p e below (T.setTop (mkF m pc Ls (.long y :: .long x :: S))) P := Go.st (fun _ q_ => XS.lor X.here hx rfl hd rfl (by subst hz; exact q_)) K
theorem ixor (X : Stand p l e R s m args below meth c T locs cells slots) (hx : p.tables.exec = Jvm.exec) {x y : Int32} (hd : decode c.code pc = .ok (.ixor, 1)) (z : Int32) (hz : x ^^^ y = z) (K : Go p e below (T.setTop (mkF m (pc + 1) Ls (.int z :: S))) P) : Go p e below (T.setTop (mkF m pc Ls (.int y :: .int x :: S))) P := Go.st (fun _ q_ => XS.ixor X.here hx rfl hd rfl (by subst hz; exact q_)) K
theorem lxor (X : Stand p l e R s m args below meth c T locs cells slots) (hx : p.tables.exec = Jvm.exec) {x y : Int64} (hd : decode c.code pc = .ok (.lxor, 1)) (z : Int64) (hz : x ^^^ y = z) (K : Go p e below (T.setTop (mkF m (pc + 1) Ls (.long z :: S))) P) : Go p e below (T.setTop (mkF m pc Ls (.long y :: .long x :: S))) P := Go.st (fun _ q_ => XS.lxor X.here hx rfl hd rfl (by subst hz; exact q_)) K
theorem ishl (X : Stand p l e R s m args below meth c T locs cells slots) (hx : p.tables.exec = Jvm.exec) {x y : Int32} (hd : decode c.code pc = .ok (.ishl, 1)) (z : Int32) (hz : (x <<< (y &&& 31)) = z) (K : Go p e below (T.setTop (mkF m (pc + 1) Ls (.int z :: S))) P) : Go p e below (T.setTop (mkF m pc Ls (.int y :: .int x :: S))) P := Go.st (fun _ q_ => XS.ishl X.here hx rfl hd rfl (by subst hz; exact q_)) K
theorem ishr (X : Stand p l e R s m args below meth c T locs cells slots) (hx : p.tables.exec = Jvm.exec) {x y : Int32} (hd : decode c.code pc = .ok (.ishr, 1)) (z : Int32) (hz : (x >>> (y &&& 31)) = z) (K : Go p e below (T.setTop (mkF m (pc + 1) Ls (.int z :: S))) P) : Go p e below (T.setTop (mkF m pc Ls (.int y :: .int x :: S))) P := Go.st (fun _ q_ => XS.ishr X.here hx rfl hd rfl (by subst hz; exact q_)) K
theorem iushr (X : Stand p l e R s m args below meth c T locs cells slots) (hx : p.tables.exec = Jvm.exec) {x y : Int32} (hd : decode c.code pc = .ok (.iushr, 1)) (z : Int32) (hz : ((x.toUInt32 >>> (y &&& 31).toUInt32).toInt32) = z) (K : Go p e below (T.setTop (mkF m (pc + 1) Ls (.int z :: S))) P) : Go p e below (T.setTop (mkF m pc Ls (.int y :: .int x :: S))) P := Go.st (fun _ q_ => XS.iushr X.here hx rfl hd rfl (by subst hz; exact q_)) K
theorem lshl (X : Stand p l e R s m args below meth c T locs cells slots) (hx : p.tables.exec = Jvm.exec) {x : Int64} {y : Int32} (hd : decode c.code pc = .ok (.lshl, 1)) (z : Int64) (hz : (x <<< (y &&& 0x3f).toInt64) = z) (K : Go p e below (T.setTop (mkF m (pc + 1) Ls (.long z :: S))) P) : Go p e below (T.setTop (mkF m pc Ls (.int y :: .long x :: S))) P := Go.st (fun _ q_ => XS.lshl X.here hx rfl hd rfl (by subst hz; exact q_)) K
theorem lshr (X : Stand p l e R s m args below meth c T locs cells slots) (hx : p.tables.exec = Jvm.exec) {x : Int64} {y : Int32} (hd : decode c.code pc = .ok (.lshr, 1)) (z : Int64) (hz : (x >>> (y &&& 0x3f).toInt64) = z) (K : Go p e below (T.setTop (mkF m (pc + 1) Ls (.long z :: S))) P) : Go p e below (T.setTop (mkF m pc Ls (.int y :: .long x :: S))) P := Go.st (fun _ q_ => XS.lshr X.here hx rfl hd rfl (by subst hz; exact q_)) K
theorem lushr (X : Stand p l e R s m args below meth c T locs cells slots) (hx : p.tables.exec = Jvm.exec) {x : Int64} {y : Int32} (hd : decode c.code pc = .ok (.lushr, 1)) (z : Int64) (hz : ((x.toUInt64 >>> (y &&& 0x3f).toInt64.toUInt64).toInt64) = z) (K : Go p e below (T.setTop (mkF m (pc + 1) Ls (.long z :: S))) P) : Go p e below (T.setTop (mkF m pc Ls (.int y :: .long x :: S))) P := Go.st (fun _ q_ => XS.lushr X.here hx rfl hd rfl (by subst hz; exact q_)) K
theorem ineg (X : Stand p l e R s m args below meth c T locs cells slots) (hx : p.tables.exec = Jvm.exec) {x : Int32} (hd : decode c.code pc = .ok (.ineg, 1)) (z : Int32) (hz : -x = z) (K : Go p e below (T.setTop (mkF m (pc + 1) Ls (.int z :: S))) P) : Go p e below (T.setTop (mkF m pc Ls (.int x :: S))) P := Go.st (fun _ q_ => XS.ineg X.here hx rfl hd rfl (by subst hz; exact q_)) K
theorem lneg (X : Stand p l e R s m args below meth c T locs cells slots) (hx : p.tables.exec = Jvm.exec) {x : Int64} (hd : decode c.code pc = .ok (.lneg, 1)) (z : Int64) (hz : -x = z) (K : Go p e below (T.setTop (mkF m (pc + 1) Ls (.long z :: S))) P) : Go p e below (T.setTop (mkF m pc Ls (.long x :: S))) P := Go.st (fun _ q_ => XS.lneg X.here hx rfl hd rfl (by subst hz; exact q_)) K
theorem i2l (X : Stand p l e R s m args below meth c T locs cells slots) (hx : p.tables.exec = Jvm.exec) {x : Int32} (hd : decode c.code pc = .ok (.i2l, 1)) (z : Int64) (hz : x.toInt64 = z) (K : Go p e below (T.setTop (mkF m (pc + 1) Ls (.long z :: S))) P) : Go p e below (T.setTop (mkF m pc Ls (.int x :: S))) P := Go.st (fun _ q_ => XS.i2l X.here hx rfl hd rfl (by subst hz; exact q_)) K
theorem l2i (X : Stand p l e R s m args below meth c T locs cells slots) (hx : p.tables.exec = Jvm.exec) {x : Int64} (hd : decode c.code pc = .ok (.l2i, 1)) (z : Int32) (hz : x.toInt32 = z) (K : Go p e below (T.setTop (mkF m (pc + 1) Ls (.int z :: S))) P) : Go p e below (T.setTop (mkF m pc Ls (.long x :: S))) P := Go.st (fun _ q_ => XS.l2i X.here hx rfl hd rfl (by subst hz; exact q_)) K
theorem i2b (X : Stand p l e R s m args below meth c T locs cells slots) (hx : p.tables.exec = Jvm.exec) {x : Int32} (hd : decode c.code pc = .ok (.i2b, 1)) (z : Int32) (hz : x.toInt8.toInt32 = z) (K : Go p e below (T.setTop (mkF m (pc + 1) Ls (.int z :: S))) P) : Go p e below (T.setTop (mkF m pc Ls (.int x :: S))) P := Go.st (fun _ q_ => XS.i2b X.here hx rfl hd rfl (by subst hz; exact q_)) K
theorem i2s (X : Stand p l e R s m args below meth c T locs cells slots) (hx : p.tables.exec = Jvm.exec) {x : Int32} (hd : decode c.code pc = .ok (.i2s, 1)) (z : Int32) (hz : x.toInt16.toInt32 = z) (K : Go p e below (T.setTop (mkF m (pc + 1) Ls (.int z :: S))) P) : Go p e below (T.setTop (mkF m pc Ls (.int x :: S))) P := Go.st (fun _ q_ => XS.i2s X.here hx rfl hd rfl (by subst hz; exact q_)) K
theorem i2c (X : Stand p l e R s m args below meth c T locs cells slots) (hx : p.tables.exec = Jvm.exec) {x : Int32} (hd : decode c.code pc = .ok (.i2c, 1)) (z : Int32) (hz : x.toUInt32.toUInt16.toUInt32.toInt32 = z) (K : Go p e below (T.setTop (mkF m (pc + 1) Ls (.int z :: S))) P) : Go p e below (T.setTop (mkF m pc Ls (.int x :: S))) P := Go.st (fun _ q_ => XS.i2c X.here hx rfl hd rfl (by subst hz; exact q_)) K
theorem idiv (X : Stand p l e R s m args below meth c T locs cells slots) (hx : p.tables.exec = Jvm.exec) {x y : Int32} (hd : decode c.code pc = .ok (.idiv, 1)) (hy : y ≠ 0) (z : Int32) (hz : x / y = z) (K : Go p e below (T.setTop (mkF m (pc + 1) Ls (.int z :: S))) P) : Go p e below (T.setTop (mkF m pc Ls (.int y :: .int x :: S))) P := Go.st (fun _ q_ => XS.idiv X.here hx rfl hd rfl hy (by subst hz; exact q_)) K
theorem ldiv (X : Stand p l e R s m args below meth c T locs cells slots) (hx : p.tables.exec = Jvm.exec) {x y : Int64} (hd : decode c.code pc = .ok (.ldiv, 1)) (hy : y ≠ 0) (z : Int64) (hz : x / y = z) (K : Go p e below (T.setTop (mkF m (pc + 1) Ls (.long z :: S))) P) : Go p e below (T.setTop (mkF m pc Ls (.long y :: .long x :: S))) P := Go.st (fun _ q_ => XS.ldiv X.here hx rfl hd rfl hy (by subst hz; exact q_)) K
theorem irem (X : Stand p l e R s m args below meth c T locs cells slots) (hx : p.tables.exec = Jvm.exec) {x y : Int32} (hd : decode c.code pc = .ok (.irem, 1)) (hy : y ≠ 0) (z : Int32) (hz : x % y = z) (K : Go p e below (T.setTop (mkF m (pc + 1) Ls (.int z :: S))) P) : Go p e below (T.setTop (mkF m pc Ls (.int y :: .int x :: S))) P := Go.st (fun _ q_ => iremM (g := mkF m pc Ls (.int y :: .int x :: S)) X hx rfl hd rfl hy (by subst hz; exact q_)) K
theorem lcmp (X : Stand p l e R s m args below meth c T locs cells slots) (hx : p.tables.exec = Jvm.exec) {x y : Int64} (hd : decode c.code pc = .ok (.lcmp, 1))  (K : Go p e below (T.setTop (mkF m (pc + 1) Ls (.int (lcmpW x y) :: S))) P) : Go p e below (T.setTop (mkF m pc Ls (.long y :: .long x :: S))) P := Go.st (fun _ q_ => XS.lcmp X.here hx rfl hd rfl q_) K
theorem iinc (X : Stand p l e R s m args below meth c T locs cells slots) (hx : p.tables.exec = Jvm.exec) {k : Nat} {cst : Int} {x : Int32} (hd : decode c.code pc = .ok (.iinc k cst, 3)) (hl : Ls[k]? = some (.val (.int x))) (L' : Array Slot) (hl' : storeLocals Ls k (.int (x + Int32.ofInt cst)) = some L') (K : Go p e below (T.setTop (mkF m (pc + 3) L' S)) P) : Go p e below (T.setTop (mkF m pc Ls S)) P := Go.st (fun _ q_ => XS.iinc X.here hx rfl hd hl hl' q_) K
theorem dup (X : Stand p l e R s m args below meth c T locs cells slots) (hx : p.tables.exec = Jvm.exec) {x : Value} (hd : decode c.code pc = .ok (.dup, 1)) (hc : x.category = 1) (K : Go p e below (T.setTop (mkF m (pc + 1) Ls (x :: x :: S))) P) : Go p e below (T.setTop (mkF m pc Ls (x :: S))) P := Go.st (fun _ q_ => XS.dup X.here hx rfl hd rfl hc q_) K
theorem dupX1 (X : Stand p l e R s m args below meth c T locs cells slots) (hx : p.tables.exec = Jvm.exec) {x y : Value} (hd : decode c.code pc = .ok (.dup_x1, 1)) (hc : x.category = 1) (hc' : y.category = 1) (K : Go p e below (T.setTop (mkF m (pc + 1) Ls (x :: y :: x :: S))) P) : Go p e below (T.setTop (mkF m pc Ls (x :: y :: S))) P := Go.st (fun _ q_ => XS.dupX1 X.here hx rfl hd rfl hc hc' q_) K
theorem dup2 (X : Stand p l e R s m args below meth c T locs cells slots) (hx : p.tables.exec = Jvm.exec) {x y : Value} (hd : decode c.code pc = .ok (.dup2, 1)) (hc : x.category = 1) (hc' : y.category = 1) (K : Go p e below (T.setTop (mkF m (pc + 1) Ls (x :: y :: x :: y :: S))) P) : Go p e below (T.setTop (mkF m pc Ls (x :: y :: S))) P := Go.st (fun _ q_ => XT.dup2 X.here hx rfl hd rfl hc hc' q_) K
theorem pop (X : Stand p l e R s m args below meth c T locs cells slots) (hx : p.tables.exec = Jvm.exec) {x : Value} (hd : decode c.code pc = .ok (.pop, 1)) (hc : x.category = 1) (K : Go p e below (T.setTop (mkF m (pc + 1) Ls S)) P) : Go p e below (T.setTop (mkF m pc Ls (x :: S))) P := Go.st (fun _ q_ => XS.pop X.here hx rfl hd rfl hc q_) K
theorem goto (X : Stand p l e R s m args below meth c T locs cells slots) (hx : p.tables.exec = Jvm.exec)  {o : Int} (hd : decode c.code pc = .ok (.goto o, 3))  (pc' : Nat) (ho : 0 ≤ (pc : Int) + o) (hp : ((pc : Int) + o).toNat = pc') (K : Go p e below (T.setTop (mkF m pc' Ls S)) P) : Go p e below (T.setTop (mkF m pc Ls S)) P := Go.st (fun _ q_ => XS.goto X.here hx rfl rfl hd ho hp q_) K
theorem ifYes (X : Stand p l e R s m args below meth c T locs cells slots) (hx : p.tables.exec = Jvm.exec) {cd : ClassFile.Cond} {x : Int32} {o : Int} (hd : decode c.code pc = .ok (.ifCond cd o, 3)) (hc : if_icmp.holds cd x 0 = true) (pc' : Nat) (ho : 0 ≤ (pc : Int) + o) (hp : ((pc : Int) + o).toNat = pc') (K : Go p e below (T.setTop (mkF m pc' Ls S)) P) : Go p e below (T.setTop (mkF m pc Ls (.int x :: S))) P := Go.st (fun _ q_ => XS.ifYes X.here hx rfl rfl hd rfl ((if0 _ _).trans hc) ho hp q_) K
theorem ifNo (X : Stand p l e R s m args below meth c T locs cells slots) (hx : p.tables.exec = Jvm.exec) {cd : ClassFile.Cond} {x : Int32} {o : Int} (hd : decode c.code pc = .ok (.ifCond cd o, 3)) (hc : if_icmp.holds cd x 0 = false) (K : Go p e below (T.setTop (mkF m (pc + 3) Ls S)) P) : Go p e below (T.setTop (mkF m pc Ls (.int x :: S))) P := Go.st (fun _ q_ => XS.ifNo X.here hx rfl hd rfl ((if0 _ _).trans hc) q_) K
theorem icmpYes (X : Stand p l e R s m args below meth c T locs cells slots) (hx : p.tables.exec = Jvm.exec) {cd : ClassFile.Cond} {x y : Int32} {o : Int} (hd : decode c.code pc = .ok (.if_icmp cd o, 3)) (hc : if_icmp.holds cd x y = true) (pc' : Nat) (ho : 0 ≤ (pc : Int) + o) (hp : ((pc : Int) + o).toNat = pc') (K : Go p e below (T.setTop (mkF m pc' Ls S)) P) : Go p e below (T.setTop (mkF m pc Ls (.int y :: .int x :: S))) P := Go.st (fun _ q_ => XS.icmpYes X.here hx rfl rfl hd rfl hc ho hp q_) K
theorem icmpNo (X : Stand p l e R s m args below meth c T locs cells slots) (hx : p.tables.exec = Jvm.exec) {cd : ClassFile.Cond} {x y : Int32} {o : Int} (hd : decode c.code pc = .ok (.if_icmp cd o, 3)) (hc : if_icmp.holds cd x y = false) (K : Go p e below (T.setTop (mkF m (pc + 3) Ls S)) P) : Go p e below (T.setTop (mkF m pc Ls (.int y :: .int x :: S))) P := Go.st (fun _ q_ => XS.icmpNo X.here hx rfl hd rfl hc q_) K
theorem ifnullYes (X : Stand p l e R s m args below meth c T locs cells slots) (hx : p.tables.exec = Jvm.exec)  {o : Int} (hd : decode c.code pc = .ok (.ifnull o, 3))  (pc' : Nat) (ho : 0 ≤ (pc : Int) + o) (hp : ((pc : Int) + o).toNat = pc') (K : Go p e below (T.setTop (mkF m pc' Ls S)) P) : Go p e below (T.setTop (mkF m pc Ls (.null :: S))) P := Go.st (fun _ q_ => XS.ifnullYes X.here hx rfl rfl hd rfl ho hp q_) K
theorem ifnullNo (X : Stand p l e R s m args below meth c T locs cells slots) (hx : p.tables.exec = Jvm.exec) {o : Int} {b : Addr} (hd : decode c.code pc = .ok (.ifnull o, 3))  (K : Go p e below (T.setTop (mkF m (pc + 3) Ls S)) P) : Go p e below (T.setTop (mkF m pc Ls (.ref b :: S))) P := Go.st (fun _ q_ => XS.ifnullNo X.here hx rfl hd rfl q_) K
theorem ifnonnullYes (X : Stand p l e R s m args below meth c T locs cells slots) (hx : p.tables.exec = Jvm.exec) {b : Addr} {o : Int} (hd : decode c.code pc = .ok (.ifnonnull o, 3))  (pc' : Nat) (ho : 0 ≤ (pc : Int) + o) (hp : ((pc : Int) + o).toNat = pc') (K : Go p e below (T.setTop (mkF m pc' Ls S)) P) : Go p e below (T.setTop (mkF m pc Ls (.ref b :: S))) P := Go.st (fun _ q_ => XS.ifnonnullYes X.here hx rfl rfl hd rfl ho hp q_) K
theorem ifnonnullNo (X : Stand p l e R s m args below meth c T locs cells slots) (hx : p.tables.exec = Jvm.exec) {o : Int} (hd : decode c.code pc = .ok (.ifnonnull o, 3))  (K : Go p e below (T.setTop (mkF m (pc + 3) Ls S)) P) : Go p e below (T.setTop (mkF m pc Ls (.null :: S))) P := Go.st (fun _ q_ => XS.ifnonnullNo X.here hx rfl hd rfl q_) K
theorem acmp (X : Stand p l e R s m args below meth c T locs cells slots) (hx : p.tables.exec = Jvm.exec) {cd : ACond} {x y : Value} {o : Int} (hd : decode c.code pc = .ok (.if_acmp cd o, 3)) (h1 : x.isRef = true) (h2 : y.isRef = true) (same : Bool) (hq : decide (x = y) = same) (pc' : Nat) (ho : 0 ≤ (pc : Int) + o) (hp : pc' = if acV cd same = true then ((pc : Int) + o).toNat else pc + 3) (K : Go p e below (T.setTop (mkF m pc' Ls S)) P) : Go p e below (T.setTop (mkF m pc Ls (y :: x :: S))) P := Go.st (fun _ q_ => Jvm.RoadKit.acmp (g := mkF m pc Ls (y :: x :: S)) X hx rfl h1 h2 rfl hd rfl hq ho hp q_) K
theorem lsw (X : Stand p l e R s m args below meth c T locs cells slots) (hx : p.tables.exec = Jvm.exec) {dflt : Int} {pairs : Array (Int × Int)} {len : Nat} {i : Int32} (hd : decode c.code pc = .ok (.lookupswitch dflt pairs, len)) {o : Int} (ho : lookupswitch.offset pairs.toList dflt i.toInt = o) (hso : ∀ (a b a_1 b_1 : Int), ((a, b), a_1, b_1) ∈ pairs.toList.zip pairs.toList.tail → a < a_1) (pc' : Nat) (h0 : 0 ≤ (pc : Int) + o) (hp : ((pc : Int) + o).toNat = pc') (K : Go p e below (T.setTop (mkF m pc' Ls S)) P) : Go p e below (T.setTop (mkF m pc Ls (.int i :: S))) P := Go.st (fun _ q_ => own_lsw (g := mkF m pc Ls (.int i :: S)) X hx rfl rfl hd rfl ho hso h0 hp q_) K
theorem tsw (X : Stand p l e R s m args below meth c T locs cells slots) (hx : p.tables.exec = Jvm.exec) {dflt low high : Int} {offs : Array Int} {len : Nat} {i : Int32} (hd : decode c.code pc = .ok (.tableswitch dflt low high offs, len)) {o : Int} (hin : ¬ (i.toInt < low ∨ i.toInt > high)) (hoff : offs[(i.toInt - low).toNat]? = some o) (pc' : Nat) (h0 : 0 ≤ (pc : Int) + o) (hp : ((pc : Int) + o).toNat = pc') (K : Go p e below (T.setTop (mkF m pc' Ls S)) P) : Go p e below (T.setTop (mkF m pc Ls (.int i :: S))) P := Go.st (fun _ q_ => XS.tswIn (g := mkF m pc Ls (.int i :: S)) X.here hx rfl rfl hd rfl hin hoff h0 hp q_) K
theorem ldcI (X : Stand p l e R s m args below meth c T locs cells slots) (hx : p.tables.exec = Jvm.exec) (hZ : Z.Warmed39 s.vm) {own : String} {index : Nat} (hown : s.vm.findClass own = some m.cls) {v : Int32} (w : (Cond.constant own index v).before a0 Z = true) (hd : decode c.code pc = .ok (.ldc index, 2)) (K : Go p e below (T.setTop (mkF m (pc + 2) Ls (.int v :: S))) P) : Go p e below (T.setTop (mkF m pc Ls S)) P := Go.st (X.ldcInt hx hown (mvT hZ w) (g := mkF m pc Ls S) rfl hd) K
theorem ldcwI (X : Stand p l e R s m args below meth c T locs cells slots) (hx : p.tables.exec = Jvm.exec) (hZ : Z.Warmed39 s.vm) {own : String} {index : Nat} (hown : s.vm.findClass own = some m.cls) {v : Int32} (w : (Cond.constant own index v).before a0 Z = true) (hd : decode c.code pc = .ok (.ldc_w index, 3)) (K : Go p e below (T.setTop (mkF m (pc + 3) Ls (.int v :: S))) P) : Go p e below (T.setTop (mkF m pc Ls S)) P := Go.st (X.ldcwInt hx hown (mvT hZ w) (g := mkF m pc Ls S) rfl hd) K
theorem ldcL (X : Stand p l e R s m args below meth c T locs cells slots) (hx : p.tables.exec = Jvm.exec) (hZ : Z.Warmed39 s.vm) {own : String} {index : Nat} (hown : s.vm.findClass own = some m.cls) {v : Int64} (w : (Cond.constantLong own index v).before a0 Z = true) (hd : decode c.code pc = .ok (.ldc2_w index, 3)) (K : Go p e below (T.setTop (mkF m (pc + 3) Ls (.long v :: S))) P) : Go p e below (T.setTop (mkF m pc Ls S)) P := Go.st (X.ldc2Long hx hown (mvT hZ w) (g := mkF m pc Ls S) rfl hd) K
theorem getS (X : Stand p l e R s m args below meth c T locs cells slots) (hx : p.tables.exec = Jvm.exec) (hZ : Z.Warmed39 s.vm) {own : String} {index : Nat} (hown : s.vm.findClass own = some m.cls) {R0 O n d host : String} (w : (Cond.fieldLink own index R0 n d).before a0 Z = true ∨ (Cond.fieldLinkNest own index R0 n d host).before a0 Z = true) (via : Via Z R0 O n d) (eT : T.heap = h) {v : Value} (F : Sta Z h O n d v) (hd : decode c.code pc = .ok (.getstatic index, 3))
    (K : ∀ T', Stand p l e R s m args below meth c T' locs cells slots → T'.heap = h → Go p e below (T'.setTop (mkF m (pc + 3) Ls (v :: S))) P) : Go p e below (T.setTop (mkF m pc Ls S)) P := by
  obtain ⟨T', X', e', st⟩ := getS2 X hx hZ hown w via eT F (g := mkF m pc Ls S) rfl hd
  exact Go.st st (K T' X' e')
theorem getF (X : Stand p l e R s m args below meth c T locs cells slots) (hx : p.tables.exec = Jvm.exec) (hZ : Z.Warmed39 s.vm) {own : String} {index : Nat} (hown : s.vm.findClass own = some m.cls) {R0 O n d host : String} (w : (Cond.fieldLink own index R0 n d).before a0 Z = true ∨ (Cond.fieldLinkNest own index R0 n d host).before a0 Z = true) (via : Via Z R0 O n d) (eT : T.heap = h) {a : Addr} {v : Value} (F : Fld Z h a O n d v) (hd : decode c.code pc = .ok (.getfield index, 3))
    (K : ∀ T', Stand p l e R s m args below meth c T' locs cells slots → T'.heap = h → Go p e below (T'.setTop (mkF m (pc + 3) Ls (v :: S))) P) : Go p e below (T.setTop (mkF m pc Ls (.ref a :: S))) P := by
  obtain ⟨T', X', e', st⟩ := RoadKit.getF X hx hZ hown w via eT F (g := mkF m pc Ls (.ref a :: S)) rfl rfl hd
  exact Go.st st (K T' X' e')
theorem putF (X : Stand p l e R s m args below meth c T locs cells slots) (hx : p.tables.exec = Jvm.exec) (hZ : Z.Warmed39 s.vm) {own : String} {index : Nat} (hown : s.vm.findClass own = some m.cls) {R0 O n d host C : String} {kk : Nat} {ty : FieldType} (w : (Cond.fieldLink own index R0 n d).before a0 Z = true ∨ (Cond.fieldLinkNest own index R0 n d host).before a0 Z = true) (via : Via Z R0 O n d) (eT : T.heap = h) {a : Addr} {v old : Value} (F : Fld Z h a O n d old) (E : Exa Z h a C) (Lw : (Cond.lays C O n d).before a0 Z = true ∨ ((Cond.laysFinal C O n d).before a0 Z = true ∧ own = O ∧ meth.name = "<init>")) (wi : (Cond.instantiable C kk).before a0 Z = true)
    (hty : parseFieldDescriptor d = some ty) (hn : narrow ty v = v) (hf : fits ty v = true) (hd : decode c.code pc = .ok (.putfield index, 3))
    (K : ∀ T' h', Stand p l e R s m args below meth c T' (locs ++ [⟨a, Jvm.RoadKit.slotOf Z O n d⟩]) cells slots → T'.heap = h' → Wr h h' a (Jvm.RoadKit.slotOf Z O n d) v → Go p e below (T'.setTop (mkF m (pc + 3) Ls S)) P) : Go p e below (T.setTop (mkF m pc Ls (v :: .ref a :: S))) P := by
  obtain ⟨T', h', X', e', W', st⟩ := RoadKit.putF X hx hZ hown w via eT F E Lw wi hty hn hf (g := mkF m pc Ls (v :: .ref a :: S)) rfl rfl hd
  exact Go.st st (K T' h' X' e' W')
theorem putFN (X : Stand p l e R s m args below meth c T locs cells slots) (hx : p.tables.exec = Jvm.exec) (hZ : Z.Warmed39 s.vm) {own : String} {index : Nat} (hown : s.vm.findClass own = some m.cls) {R0 O n d C : String} {kk : Nat} {ty : FieldType} (w : (Cond.fieldLink own index R0 n d).before a0 Z = true) (via : Via Z R0 O n d) (eT : T.heap = h) {a : Addr} {v v' old : Value} (F : Fld Z h a O n d old) (E : Exa Z h a C) (Lw : (Cond.lays C O n d).before a0 Z = true ∨ ((Cond.laysFinal C O n d).before a0 Z = true ∧ own = O ∧ meth.name = "<init>")) (wi : (Cond.instantiable C kk).before a0 Z = true)
    (hty : parseFieldDescriptor d = some ty) (hn : narrow ty v = v') (hf : fits ty v' = true) (hd : decode c.code pc = .ok (.putfield index, 3))
    (K : ∀ T' h', Stand p l e R s m args below meth c T' (locs ++ [⟨a, Jvm.RoadKit.slotOf Z O n d⟩]) cells slots → T'.heap = h' → Wr h h' a (Jvm.RoadKit.slotOf Z O n d) v' → Go p e below (T'.setTop (mkF m (pc + 3) Ls S)) P) : Go p e below (T.setTop (mkF m pc Ls (v :: .ref a :: S))) P := by
  obtain ⟨T', h', X', e', W', st⟩ := RoadKit.putFN X hx hZ hown w via eT F E Lw wi hty hn hf (g := mkF m pc Ls (v :: .ref a :: S)) rfl rfl hd
  exact Go.st st (K T' h' X' e' W')
theorem newO (X : Stand p l e R s m args below meth c T locs cells slots) (hx : p.tables.exec = Jvm.exec) (hZ : Z.Warmed39 s.vm) {own : String} {index : Nat} (hown : s.vm.findClass own = some m.cls) {C : String} {n : Nat} (w : (Cond.classLink own index C).before a0 Z = true) (wi : (Cond.instantiable C n).before a0 Z = true) (wz : (Cond.initialized C).before a0 Z = true) (eT : T.heap = h) (hd : decode c.code pc = .ok (.new index, 3)) (hc : cells + 1 ≤ R.cells) (hl : slots + n ≤ R.slots)
    (K : ∀ T' h' b, Stand p l e R s m args below meth c T' locs (cells + 1) (slots + n) → T'.heap = h' → Ext h h' → b = h.size → Exa Z h' b C → (∀ {O nm d : String} {ty : FieldType}, Laid Z a0 C O nm d → parseFieldDescriptor d = some ty → Fld Z h' b O nm d (defaultValue ty)) → Go p e below (T'.setTop (mkF m (pc + 3) Ls (.ref b :: S))) P) : Go p e below (T.setTop (mkF m pc Ls S)) P := by
  obtain ⟨T', h', X', e', E', A', D', -, st⟩ := RoadKit.newO X hx hZ hown w wi wz eT (g := mkF m pc Ls S) rfl hd hc hl
  exact Go.st st (K T' h' _ X' e' E' rfl A' D')
theorem initO (X : Stand p l e R s m args below meth c T locs cells slots) (hx : p.tables.exec = Jvm.exec) (hZ : Z.Warmed39 s.vm) {own : String} {index : Nat} (hown : s.vm.findClass own = some m.cls) (w1 : (Cond.methodLink own index Lib.objectInit).before a0 Z = true) (w2 : (Cond.instanceMethod Lib.objectInit).before a0 Z = true) (w3 : (Cond.code Lib.objectInit ⟨#[0xb1]⟩ 1 none).before a0 Z = true) (eT : T.heap = h) (hsize : Ls.size = c.maxLocals) {a : Addr} (hd : decode c.code pc = .ok (.invokespecial index, 3)) (hf : 1 ≤ R.frames) (hl : (S.map fun v => v.category).sum + 12 ≤ R.locals)
    (K : ∀ T', Stand p l e R s m args below meth c T' locs cells slots → T'.heap = h → Go p e below (T'.setTop (mkF m (pc + 3) Ls S)) P) : Go p e below (T.setTop (mkF m pc Ls (.ref a :: S))) P := by
  obtain ⟨T', X', e', st⟩ := RoadKit.initO X hx hZ hown w1 w2 w3 eT (g := mkF m pc Ls (.ref a :: S)) rfl hsize rfl hd hf (W := (S.map fun v => v.category).sum) (by show 2 * 0 + _ ≤ _; omega) hl
  exact Go.st st (K T' X' e')
theorem newP (X : Stand p l e R s m args below meth c T locs cells slots) (hx : p.tables.exec = Jvm.exec) (hZ : Z.Warmed39 s.vm) {aty : ArrayType} (w : (Cond.arrayClass (newarray.typeOf aty)).before a0 Z = true) (eT : T.heap = h) {n : Int32} (hd : decode c.code pc = .ok (.newarray aty, 2)) (hn : ¬ n < 0) {cap : Nat} (hcap : n.toNatClampNeg ≤ cap) (hb : cap * 8 ≤ 536870912) (hc : cells + 1 ≤ R.cells) (hl : slots + cap ≤ R.slots) {ad : String} (had : "[" ++ (newarray.typeOf aty).toString = ad)
    (K : ∀ T' h' b k, Stand p l e R s m args below meth c T' locs (cells + 1) (slots + cap) → T'.heap = h' → Ext h h' → b = h.size → Arf Z h' b k (newarray.typeOf aty) n (fun _ => defaultValue (newarray.typeOf aty)) → Exa Z h' b ad → Go p e below (T'.setTop (mkF m (pc + 2) Ls (.ref b :: S))) P) : Go p e below (T.setTop (mkF m pc Ls (.int n :: S))) P := by
  obtain ⟨T', h', k, X', e', E', A', B', st⟩ := newPE X hx hZ w eT (g := mkF m pc Ls (.int n :: S)) rfl hd rfl hn hcap hb hc hl had
  exact Go.st st (K T' h' _ k X' e' E' rfl (Arf.new A' hn) B')
theorem newR (X : Stand p l e R s m args below meth c T locs cells slots) (hx : p.tables.exec = Jvm.exec) (hZ : Z.Warmed39 s.vm) {own : String} {index : Nat} (hown : s.vm.findClass own = some m.cls) {C : String} (w1 : (Cond.classLink own index C).before a0 Z = true) (w2 : (Cond.arrayOver (.object C)).before a0 Z = true) (eT : T.heap = h) {n : Int32} (hd : decode c.code pc = .ok (.anewarray index, 3)) (hn : ¬ n < 0) {cap : Nat} (hcap : n.toNatClampNeg ≤ cap) (hb : cap * 8 ≤ 536870912) (hc : cells + 1 ≤ R.cells) (hl : slots + cap ≤ R.slots) {ad : String} (had : "[" ++ (FieldType.object C).toString = ad)
    (K : ∀ T' h' b k, Stand p l e R s m args below meth c T' locs (cells + 1) (slots + cap) → T'.heap = h' → Ext h h' → b = h.size → Arf Z h' b k (.object C) n (fun _ => .null) → Exa Z h' b ad → Ovr Z k C → Go p e below (T'.setTop (mkF m (pc + 3) Ls (.ref b :: S))) P) : Go p e below (T.setTop (mkF m pc Ls (.int n :: S))) P := by
  obtain ⟨T', h', k, X', e', E', A', B', O', st⟩ := newRE X hx hZ hown w1 w2 eT (g := mkF m pc Ls (.int n :: S)) rfl hd rfl hn hcap hb hc hl had
  exact Go.st st (K T' h' _ k X' e' E' rfl (Arf.new A' hn) B' O')
theorem iastore (X : Stand p l e R s m args below meth c T locs cells slots) (hx : p.tables.exec = Jvm.exec) (hZ : Z.Warmed39 s.vm) (eT : T.heap = h) {a : Addr} {k : ClassId} {n : Int32} {f : Nat → Value} (F : Arf Z h a k .int n f) {j x : Int32} (i : Nat) (hji : j.toNatClampNeg = i) (hj : ¬ j < 0 ∧ j < n) (v : Value) (hv : .int x = v) (hd : decode c.code pc = .ok (.iastore, 1))
    (K : ∀ T' h', Stand p l e R s m args below meth c T' (locs ++ [⟨a, j.toNatClampNeg⟩]) cells slots → T'.heap = h' → Wr h h' a j.toNatClampNeg v → Arf Z h' a k .int n (upd f i v) → Go p e below (T'.setTop (mkF m (pc + 1) Ls S)) P) : Go p e below (T.setTop (mkF m pc Ls (.int x :: .int j :: .ref a :: S))) P := by
  obtain ⟨cl, A, q, S', q3, H', G'⟩ := F
  have hin := inb_of S' hj
  obtain ⟨T', h', X', e', W', st⟩ := RoadKit.stI X hx hZ eT A (j := j) hin (g := mkF m pc Ls (.int x :: .int j :: .ref a :: S)) rfl rfl hd
  subst hv
  exact Go.st st (K T' h' X' e' W' (Arf.set A q S' q3 H' G' rfl W' i hji hin))
theorem castore (X : Stand p l e R s m args below meth c T locs cells slots) (hx : p.tables.exec = Jvm.exec) (hZ : Z.Warmed39 s.vm) (eT : T.heap = h) {a : Addr} {k : ClassId} {n : Int32} {f : Nat → Value} (F : Arf Z h a k .char n f) {j x : Int32} (i : Nat) (hji : j.toNatClampNeg = i) (hj : ¬ j < 0 ∧ j < n) (v : Value) (hv : .int (nar .char x) = v) (hd : decode c.code pc = .ok (.castore, 1))
    (K : ∀ T' h', Stand p l e R s m args below meth c T' (locs ++ [⟨a, j.toNatClampNeg⟩]) cells slots → T'.heap = h' → Wr h h' a j.toNatClampNeg v → Arf Z h' a k .char n (upd f i v) → Go p e below (T'.setTop (mkF m (pc + 1) Ls S)) P) : Go p e below (T.setTop (mkF m pc Ls (.int x :: .int j :: .ref a :: S))) P := by
  obtain ⟨cl, A, q, S', q3, H', G'⟩ := F
  have hin := inb_of S' hj
  obtain ⟨T', h', X', e', W', st⟩ := RoadKit.stC X hx hZ eT A (j := j) hin (g := mkF m pc Ls (.int x :: .int j :: .ref a :: S)) rfl rfl hd
  subst hv
  exact Go.st st (K T' h' X' e' W' (Arf.set A q S' q3 H' G' (fits_nar_char _) W' i hji hin))
theorem bastoreB (X : Stand p l e R s m args below meth c T locs cells slots) (hx : p.tables.exec = Jvm.exec) (hZ : Z.Warmed39 s.vm) (eT : T.heap = h) {a : Addr} {k : ClassId} {n : Int32} {f : Nat → Value} (F : Arf Z h a k .byte n f) {j x : Int32} (i : Nat) (hji : j.toNatClampNeg = i) (hj : ¬ j < 0 ∧ j < n) (v : Value) (hv : .int (nar .byte x) = v) (hd : decode c.code pc = .ok (.bastore, 1))
    (K : ∀ T' h', Stand p l e R s m args below meth c T' (locs ++ [⟨a, j.toNatClampNeg⟩]) cells slots → T'.heap = h' → Wr h h' a j.toNatClampNeg v → Arf Z h' a k .byte n (upd f i v) → Go p e below (T'.setTop (mkF m (pc + 1) Ls S)) P) : Go p e below (T.setTop (mkF m pc Ls (.int x :: .int j :: .ref a :: S))) P := by
  obtain ⟨cl, A, q, S', q3, H', G'⟩ := F
  have hin := inb_of S' hj
  obtain ⟨T', h', X', e', W', st⟩ := RoadKit.stB X hx hZ eT A (j := j) hin (g := mkF m pc Ls (.int x :: .int j :: .ref a :: S)) rfl rfl hd
  subst hv
  exact Go.st st (K T' h' X' e' W' (Arf.set A q S' q3 H' G' (fits_nar_byte _) W' i hji hin))
theorem bastoreZ (X : Stand p l e R s m args below meth c T locs cells slots) (hx : p.tables.exec = Jvm.exec) (hZ : Z.Warmed39 s.vm) (eT : T.heap = h) {a : Addr} {k : ClassId} {n : Int32} {f : Nat → Value} (F : Arf Z h a k .boolean n f) {j x : Int32} (i : Nat) (hji : j.toNatClampNeg = i) (hj : ¬ j < 0 ∧ j < n) (v : Value) (hv : .int (nar .boolean x) = v) (hd : decode c.code pc = .ok (.bastore, 1))
    (K : ∀ T' h', Stand p l e R s m args below meth c T' (locs ++ [⟨a, j.toNatClampNeg⟩]) cells slots → T'.heap = h' → Wr h h' a j.toNatClampNeg v → Arf Z h' a k .boolean n (upd f i v) → Go p e below (T'.setTop (mkF m (pc + 1) Ls S)) P) : Go p e below (T.setTop (mkF m pc Ls (.int x :: .int j :: .ref a :: S))) P := by
  obtain ⟨cl, A, q, S', q3, H', G'⟩ := F
  have hin := inb_of S' hj
  obtain ⟨T', h', X', e', W', st⟩ := RoadKit.stZ X hx hZ eT A (j := j) hin (g := mkF m pc Ls (.int x :: .int j :: .ref a :: S)) rfl rfl hd
  subst hv
  exact Go.st st (K T' h' X' e' W' (Arf.set A q S' q3 H' G' (fits_nar_bool _) W' i hji hin))
theorem aastore (X : Stand p l e R s m args below meth c T locs cells slots) (hx : p.tables.exec = Jvm.exec) (hZ : Z.Warmed39 s.vm) (eT : T.heap = h) {a : Addr} {k : ClassId} {ty : FieldType} {n : Int32} {f : Nat → Value} (F : Arf Z h a k ty n f) {j : Int32} {v : Value} (i : Nat) (hji : j.toNatClampNeg = i) (hj : ¬ j < 0 ∧ j < n) (hty : ty.isReference = true) (hfit : fits ty v = true) (hst : v = .null ∨ ∃ y C, v = .ref y ∧ Ovr Z k C ∧ Ins Z h y C true) (hd : decode c.code pc = .ok (.aastore, 1))
    (K : ∀ T' h', Stand p l e R s m args below meth c T' (locs ++ [⟨a, j.toNatClampNeg⟩]) cells slots → T'.heap = h' → Wr h h' a j.toNatClampNeg v → Arf Z h' a k ty n (upd f i v) → Go p e below (T'.setTop (mkF m (pc + 1) Ls S)) P) : Go p e below (T.setTop (mkF m pc Ls (v :: .int j :: .ref a :: S))) P := by
  obtain ⟨cl, A, q, S', q3, H', G'⟩ := F
  have hin := inb_of S' hj
  have sto : Sto Z h a v := by
    rcases hst with rfl | ⟨y, C, rfl, O, I⟩
    · exact Or.inl rfl
    · exact Sto.ofV A q O I
  obtain ⟨T', h', X', e', W', st⟩ := stR X hx hZ eT A (j := j) hin hty sto (g := mkF m pc Ls (v :: .int j :: .ref a :: S)) rfl rfl hd
  exact Go.st st (K T' h' X' e' W' (Arf.set A q S' q3 H' G' hfit W' i hji hin))
theorem iaload (X : Stand p l e R s m args below meth c T locs cells slots) (hx : p.tables.exec = Jvm.exec) (hZ : Z.Warmed39 s.vm) (eT : T.heap = h) {a : Addr} {k : ClassId} {n : Int32} {f : Nat → Value} (F : Arf Z h a k .int n f) {j : Int32} (hj : ¬ j < 0 ∧ j < n) (v : Value) (hv : f j.toNatClampNeg = v) (hd : decode c.code pc = .ok (.iaload, 1)) (K : Go p e below (T.setTop (mkF m (pc + 1) Ls (v :: S))) P) : Go p e below (T.setTop (mkF m pc Ls (.int j :: .ref a :: S))) P := by
  obtain ⟨cl, A, q, S', q3, H', G'⟩ := F
  have hin := inb_of S' hj
  exact Go.st (X.iaload hx (j := j) (v := v) (by rw [eT]; exact A.1) (State.isArrayOf_alike hZ.alike A.2.1) A.2.2 hin ((H' _ (Nat.lt_of_not_le fun q_ => hin (Or.inr q_))).trans (congrArg some hv)) (g := mkF m pc Ls (.int j :: .ref a :: S)) rfl rfl hd) K
theorem caload (X : Stand p l e R s m args below meth c T locs cells slots) (hx : p.tables.exec = Jvm.exec) (hZ : Z.Warmed39 s.vm) (eT : T.heap = h) {a : Addr} {k : ClassId} {n : Int32} {f : Nat → Value} (F : Arf Z h a k .char n f) {j : Int32} (hj : ¬ j < 0 ∧ j < n) (v : Value) (hv : f j.toNatClampNeg = v) (hd : decode c.code pc = .ok (.caload, 1)) (K : Go p e below (T.setTop (mkF m (pc + 1) Ls (v :: S))) P) : Go p e below (T.setTop (mkF m pc Ls (.int j :: .ref a :: S))) P := by
  obtain ⟨cl, A, q, S', q3, H', G'⟩ := F
  have hin := inb_of S' hj
  exact Go.st (X.caload hx (j := j) (v := v) (by rw [eT]; exact A.1) (State.isArrayOf_alike hZ.alike A.2.1) A.2.2 hin ((H' _ (Nat.lt_of_not_le fun q_ => hin (Or.inr q_))).trans (congrArg some hv)) (g := mkF m pc Ls (.int j :: .ref a :: S)) rfl rfl hd) K
theorem baloadB (X : Stand p l e R s m args below meth c T locs cells slots) (hx : p.tables.exec = Jvm.exec) (hZ : Z.Warmed39 s.vm) (eT : T.heap = h) {a : Addr} {k : ClassId} {n : Int32} {f : Nat → Value} (F : Arf Z h a k .byte n f) {j : Int32} (hj : ¬ j < 0 ∧ j < n) (v : Value) (hv : f j.toNatClampNeg = v) (hd : decode c.code pc = .ok (.baload, 1)) (K : Go p e below (T.setTop (mkF m (pc + 1) Ls (v :: S))) P) : Go p e below (T.setTop (mkF m pc Ls (.int j :: .ref a :: S))) P := by
  obtain ⟨cl, A, q, S', q3, H', G'⟩ := F
  have hin := inb_of S' hj
  exact Go.st (X.baloadBytes hx (j := j) (v := v) (by rw [eT]; exact A.1) (State.isArrayOf_alike hZ.alike A.2.1) A.2.2 hin ((H' _ (Nat.lt_of_not_le fun q_ => hin (Or.inr q_))).trans (congrArg some hv)) (g := mkF m pc Ls (.int j :: .ref a :: S)) rfl rfl hd) K
theorem baloadZ (X : Stand p l e R s m args below meth c T locs cells slots) (hx : p.tables.exec = Jvm.exec) (hZ : Z.Warmed39 s.vm) (eT : T.heap = h) {a : Addr} {k : ClassId} {n : Int32} {f : Nat → Value} (F : Arf Z h a k .boolean n f) {j : Int32} (hj : ¬ j < 0 ∧ j < n) (v : Value) (hv : f j.toNatClampNeg = v) (hd : decode c.code pc = .ok (.baload, 1)) (K : Go p e below (T.setTop (mkF m (pc + 1) Ls (v :: S))) P) : Go p e below (T.setTop (mkF m pc Ls (.int j :: .ref a :: S))) P := by
  obtain ⟨cl, A, q, S', q3, H', G'⟩ := F
  have hin := inb_of S' hj
  exact Go.st (X.baloadBooleans hx (j := j) (v := v) (by rw [eT]; exact A.1) (State.isArrayOf_alike hZ.alike A.2.1) A.2.2 hin ((H' _ (Nat.lt_of_not_le fun q_ => hin (Or.inr q_))).trans (congrArg some hv)) (g := mkF m pc Ls (.int j :: .ref a :: S)) rfl rfl hd) K
theorem aaload (X : Stand p l e R s m args below meth c T locs cells slots) (hx : p.tables.exec = Jvm.exec) (hZ : Z.Warmed39 s.vm) (eT : T.heap = h) {a : Addr} {k : ClassId} {ty : FieldType} {n : Int32} {f : Nat → Value} (F : Arf Z h a k ty n f) {j : Int32} (hty : ty.isReference = true) (hj : ¬ j < 0 ∧ j < n) (v : Value) (hv : f j.toNatClampNeg = v) (hd : decode c.code pc = .ok (.aaload, 1)) (K : Go p e below (T.setTop (mkF m (pc + 1) Ls (v :: S))) P) : Go p e below (T.setTop (mkF m pc Ls (.int j :: .ref a :: S))) P := by
  obtain ⟨cl, A, q, S', q3, H', G'⟩ := F
  have hin := inb_of S' hj
  exact Go.st (X.aaload hx (j := j) (v := v) (by rw [eT]; exact A.1) (State.isArrayOf_alike hZ.alike A.2.1) hty A.2.2 hin ((H' _ (Nat.lt_of_not_le fun q_ => hin (Or.inr q_))).trans (congrArg some hv)) (g := mkF m pc Ls (.int j :: .ref a :: S)) rfl rfl hd) K
theorem alen (X : Stand p l e R s m args below meth c T locs cells slots) (hx : p.tables.exec = Jvm.exec) (hZ : Z.Warmed39 s.vm) (eT : T.heap = h) {a : Addr} {k : ClassId} {ty : FieldType} {n : Int32} {f : Nat → Value} (F : Arf Z h a k ty n f) (hd : decode c.code pc = .ok (.arraylength, 1)) (K : Go p e below (T.setTop (mkF m (pc + 1) Ls (.int n :: S))) P) : Go p e below (T.setTop (mkF m pc Ls (.ref a :: S))) P := by
  obtain ⟨cl, A, q, S', q3, H', G'⟩ := F
  have K' := K
  rw [← len_of S' q3] at K'
  exact Go.st (X.arraylength hx (by rw [eT]; exact A.1) (State.isArrayOf_alike hZ.alike A.2.1) (g := mkF m pc Ls (.ref a :: S)) rfl rfl hd) K'
theorem castY (X : Stand p l e R s m args below meth c T locs cells slots) (hx : p.tables.exec = Jvm.exec) (hZ : Z.Warmed39 s.vm) {own : String} {index : Nat} (hown : s.vm.findClass own = some m.cls) {K0 : String} (w : (Cond.classLink own index K0).before a0 Z = true) (eT : T.heap = h) {a : Addr} (F : Ins Z h a K0 true) (hd : decode c.code pc = .ok (.checkcast index, 3)) (K : ∀ T', Stand p l e R s m args below meth c T' locs cells slots → T'.heap = h → Go p e below (T'.setTop (mkF m (pc + 3) Ls (.ref a :: S))) P) : Go p e below (T.setTop (mkF m pc Ls (.ref a :: S))) P := by
  obtain ⟨T', X', e', st⟩ := RoadKit.castY X hx hZ hown w eT F (g := mkF m pc Ls (.ref a :: S)) rfl rfl hd
  exact Go.st st (K T' X' e')
theorem clone (X : Stand p l e R s m args below meth c T locs cells slots) (hx : p.tables.exec = Jvm.exec) (hZ : Z.Warmed39 s.vm) {own : String} {index : Nat} (hown : s.vm.findClass own = some m.cls) {ad : String} (w1 : (Cond.methodLink own index ⟨ad, "clone", "()Ljava/lang/Object;"⟩).before a0 Z = true) (w2 : (Cond.sameMethod ad "java/lang/Object" "clone" "()Ljava/lang/Object;").before a0 Z = true) (w3 : (Cond.native ⟨"java/lang/Object", "clone", "()Ljava/lang/Object;"⟩).before a0 Z = true) (w4 : (Cond.instanceMethod ⟨"java/lang/Object", "clone", "()Ljava/lang/Object;"⟩).before a0 Z = true) (w5 : (Cond.selects ad ⟨ad, "clone", "()Ljava/lang/Object;"⟩ ⟨"java/lang/Object", "clone", "()Ljava/lang/Object;"⟩).before a0 Z = true) (w6 : (Cond.castable ad "java/lang/Cloneable").before a0 Z = true)
    (eT : T.heap = h) {a : Addr} {k : ClassId} {ty : FieldType} {n : Int32} {f : Nat → Value} (F : Arf Z h a k ty n f) (E : Exa Z h a ad) (hsize : Ls.size = c.maxLocals) (hd : decode c.code pc = .ok (.invokevirtual index, 3)) (hf : 1 ≤ R.frames) {cap : Nat} (hl : (S.map fun v => v.category).sum + 14 ≤ R.locals) (hcap : n.toNatClampNeg ≤ cap) (hc : cells + 1 ≤ R.cells) (hsl : slots + cap ≤ R.slots)
    (K : ∀ T' h' b, Stand p l e R s m args below meth c T' locs (cells + 1) (slots + cap) → T'.heap = h' → Ext h h' → b = h.size → Arf Z h' b k ty n f → Exa Z h' b ad → Go p e below (T'.setTop (mkF m (pc + 3) Ls (.ref b :: S))) P) : Go p e below (T.setTop (mkF m pc Ls (.ref a :: S))) P := by
  obtain ⟨T', h', X', e', E', A', B', st⟩ := cloneH X hx hZ hown w1 w2 w3 w4 w5 w6 eT (Arv.arh (Arf.arv F .null)) E (g := mkF m pc Ls (.ref a :: S)) rfl hsize rfl hd hf (W := (S.map fun v => v.category).sum) (by show 2 * 0 + _ ≤ _; omega) hl hcap hc hsl
  exact Go.st st (K T' h' _ X' e' E' rfl (Arf.ofArv (show Arv Z h' h.size k ty n ((List.range n.toNatClampNeg).map f) .null from A') fun i hi => own_mapD f .null _ i hi) B')
theorem copy (X : Stand p l e R s m args below meth c T locs cells slots) (hx : p.tables.exec = Jvm.exec) (hZ : Z.Warmed39 s.vm) {own : String} {index : Nat} (hown : s.vm.findClass own = some m.cls) (w1 : (Cond.methodLink own index Jvm.Stand.acN).before a0 Z = true) (w2 : (Cond.native Jvm.Stand.acN).before a0 Z = true) (w3 : (Cond.static Jvm.Stand.acN).before a0 Z = true) (w4 : (Cond.initialized "java/lang/System").before a0 Z = true) (eT : T.heap = h)
    {a b : Addr} {k k' : ClassId} {ty : FieldType} {n n' sp dp nn : Int32} {f g : Nat → Value} (A : Arf Z h a k ty n f) (B : Arf Z h b k' ty n' g) (hty : refKind ty = false) (h1 : ¬ sp < 0) (h2 : ¬ dp < 0) (h3 : ¬ nn < 0) (h4 : sp.toNatClampNeg + nn.toNatClampNeg ≤ n.toNatClampNeg) (h5 : dp.toNatClampNeg + nn.toNatClampNeg ≤ n'.toNatClampNeg) {n0 : Nat} (N : Fr n0 locs) (ge : n0 ≤ b) (g' : Nat → Value) (hg' : ∀ i, i < n'.toNatClampNeg → (if dp.toNatClampNeg ≤ i ∧ i < dp.toNatClampNeg + nn.toNatClampNeg then f (sp.toNatClampNeg + (i - dp.toNatClampNeg)) else g i) = g' i)
    (hsize : Ls.size = c.maxLocals) (hd : decode c.code pc = .ok (.invokestatic index, 3)) (hf : 1 ≤ R.frames) (hlo : (S.map fun v => v.category).sum + (nativeFrameWords "java/lang/System" "arraycopy" 5 + 11) ≤ R.locals)
    (K : ∀ T' h' L, Stand p l e R s m args below meth c T' L cells slots → T'.heap = h' → Fr n0 L → Keep h h' [b] → Arf Z h' b k' ty n' g' → Go p e below (T'.setTop (mkF m (pc + 3) Ls S)) P) : Go p e below (T.setTop (mkF m pc Ls (.int nn :: .int dp :: .ref b :: .int sp :: .ref a :: S))) P := by
  obtain ⟨T', h', L, X', e', N', K', V', st⟩ := cpF X hx hZ hown w1 w2 w3 w4 eT A B hty h1 h2 h3 h4 h5 N ge (g := mkF m pc Ls (.int nn :: .int dp :: .ref b :: .int sp :: .ref a :: S)) rfl hsize rfl hd hf (W := (S.map fun v => v.category).sum) (by show 2 * 0 + _ ≤ _; omega) hlo
  exact Go.st st (K T' h' L X' e' N' K' (Arf.same V' hg'))
theorem callS (X : Stand p l e R s m args below meth c T locs cells slots) (hx : p.tables.exec = Jvm.exec) (hZ : Z.Warmed39 s.vm) {own : String} {index : Nat} (hown : s.vm.findClass own = some m.cls) {y : MethodName} {bytes : ByteArray} {maxL : Nat} {ret : Option FieldType} {rm : Room} {as' : Array Value} {Q : Option Value → Heap → List Loc → Prop} {ps : List FieldType} {r : Option FieldType} {argsL : List Value} (hM : MetFree l y (head1 [Cond.code y bytes maxL ret] rm) (fun a U => a = as' ∧ Z.Warmed39 U.vm ∧ U.heap = h) (fun _ _ _ _ _ => True) (fun _ U o U' => ∃ v L, o = .returned v ∧ Q v U'.heap L ∧ FrameEnd U o U' L rm.cells rm.slots)) (wl : (Cond.methodLink own index y).before a0 Z = true) (ws : (Cond.static y).before a0 Z = true) (wi : (Cond.initialized y.cls).before a0 Z = true) (wc : (Cond.code y bytes maxL ret).before a0 Z = true) (hy : y.cls ≠ "java/lang/invoke/MethodHandle" ∧ y.cls ≠ "java/lang/invoke/VarHandle") (eT : T.heap = h) (hpd : parseMethodDescriptor y.desc = some ⟨ps, r⟩) (hlen : argsL.length = ps.length) (has : argsL.toArray = as') (hfr : rm.frames + 1 ≤ R.frames) (hlo : (S.map fun v => v.category).sum + (maxL + 11) + rm.locals ≤ R.locals) (hc : cells + rm.cells ≤ R.cells) (hs : slots + rm.slots ≤ R.slots) (hsize : Ls.size = c.maxLocals) {st0 : List Value} (hst : st0 = argsL.reverse ++ S) (hd : decode c.code pc = .ok (.invokestatic index, 3))
    (K : ∀ T' Lc v, Stand p l e R s m args below meth c T' (locs ++ Lc) (cells + rm.cells) (slots + rm.slots) → Q v T'.heap Lc → Go p e below (T'.setTop (mkF m (pc + 3) Ls (v.toList ++ S))) P) : Go p e below (T.setTop (mkF m pc Ls st0)) P := by
  subst hst
  obtain ⟨v, _, ⟨T', L', k', n'⟩, -, X', ⟨Lc, hQ, l', k', n'⟩, st⟩ := Jvm.LawKit.callS X hx (y := y) hown (mvT hZ wl) (mvT hZ ws) (mvT hZ wi) (mvT hZ wc) hy (backOf (W := (S.map fun v => v.category).sum) hM hZ wc wi hfr hlo) (g := mkF m pc Ls (argsL.reverse ++ S)) rfl hsize (argsL := argsL) (rest := S) (lenOf hpd hlen) rfl (by show 2 * 0 + _ ≤ _; omega) hd (fun _ _ => ⟨has, eT, hc, hs⟩)
  dsimp only [Pt.U, Pt.locs, Pt.cells, Pt.slots] at X' l' k' n' st hQ
  subst l' k' n'
  exact Go.st st (K T' Lc v X' hQ)
theorem callV (X : Stand p l e R s m args below meth c T locs cells slots) (hx : p.tables.exec = Jvm.exec) (hZ : Z.Warmed39 s.vm) {own : String} {index : Nat} (hown : s.vm.findClass own = some m.cls) {y : MethodName} {bytes : ByteArray} {maxL : Nat} {ret : Option FieldType} {rm : Room} {as' : Array Value} {Q : Option Value → Heap → List Loc → Prop} {ps : List FieldType} {r : Option FieldType} {argsL : List Value} {z : MethodName} {C : String} (hM : MetFree l y (head1 [Cond.code y bytes maxL ret] rm) (fun a U => a = as' ∧ Z.Warmed39 U.vm ∧ U.heap = h) (fun _ _ _ _ _ => True) (fun _ U o U' => ∃ v L, o = .returned v ∧ Q v U'.heap L ∧ FrameEnd U o U' L rm.cells rm.slots)) (wl : (Cond.methodLink own index z).before a0 Z = true) (wd : (Cond.declares z).before a0 Z = true) (hnf : NotFace s z) (wsel : (Cond.selects C z y).before a0 Z = true) (wi : (Cond.instanceMethod y).before a0 Z = true) (hy : z.cls ≠ "java/lang/invoke/MethodHandle" ∧ z.cls ≠ "java/lang/invoke/VarHandle") (wc : (Cond.code y bytes maxL ret).before a0 Z = true) (wz : (Cond.initialized y.cls).before a0 Z = true) (eT : T.heap = h) {o : Addr} (E : Exa Z h o C) (hpd : parseMethodDescriptor z.desc = some ⟨ps, r⟩) (hlen : argsL.length = ps.length) (has : (.ref o :: argsL).toArray = as') (hfr : rm.frames + 1 ≤ R.frames) (hlo : (S.map fun v => v.category).sum + (maxL + 11) + rm.locals ≤ R.locals) (hc : cells + rm.cells ≤ R.cells) (hs : slots + rm.slots ≤ R.slots) (hsize : Ls.size = c.maxLocals) {st0 : List Value} (hst : st0 = argsL.reverse ++ .ref o :: S) (hd : decode c.code pc = .ok (.invokevirtual index, 3))
    (K : ∀ T' Lc v, Stand p l e R s m args below meth c T' (locs ++ Lc) (cells + rm.cells) (slots + rm.slots) → Q v T'.heap Lc → Go p e below (T'.setTop (mkF m (pc + 3) Ls (v.toList ++ S))) P) : Go p e below (T.setTop (mkF m pc Ls st0)) P := by
  subst hst
  obtain ⟨cq, kq, qa, qb, qc⟩ := isOf hZ eT E
  obtain ⟨v, _, ⟨T', L', k', n'⟩, -, X', ⟨Lc, hQ, l', k', n'⟩, st⟩ := X.virtualBack hx (y := z) (z := y) hown (mvT hZ wl) (mvT hZ wd) hnf (mvT hZ wsel) (mvT hZ wi) hy (backOf (W := (S.map fun v => v.category).sum) hM hZ wc wz hfr hlo) qa qc (g := mkF m pc Ls (argsL.reverse ++ .ref o :: S)) rfl hsize (Steps.refl _) (argsL := argsL) (rest := S) (lenOf hpd hlen) rfl (by show 2 * 0 + _ ≤ _; omega) hd (fun _ _ => ⟨has, eT, hc, hs⟩)
  dsimp only [Pt.U, Pt.locs, Pt.cells, Pt.slots] at X' l' k' n' st hQ
  subst l' k' n'
  exact Go.tr st (K T' Lc v X' hQ)
theorem callI (X : Stand p l e R s m args below meth c T locs cells slots) (hx : p.tables.exec = Jvm.exec) (hZ : Z.Warmed39 s.vm) {own : String} {index : Nat} (hown : s.vm.findClass own = some m.cls) {y : MethodName} {bytes : ByteArray} {maxL : Nat} {ret : Option FieldType} {rm : Room} {as' : Array Value} {Q : Option Value → Heap → List Loc → Prop} {ps : List FieldType} {r : Option FieldType} {argsL : List Value} (hM : MetFree l y (head1 [Cond.code y bytes maxL ret] rm) (fun a U => a = as' ∧ Z.Warmed39 U.vm ∧ U.heap = h) (fun _ _ _ _ _ => True) (fun _ U o U' => ∃ v L, o = .returned v ∧ Q v U'.heap L ∧ FrameEnd U o U' L rm.cells rm.slots)) (hyi : y.name = "<init>") (wl : (Cond.methodLink own index y).before a0 Z = true) (wi : (Cond.instanceMethod y).before a0 Z = true) (wc : (Cond.code y bytes maxL none).before a0 Z = true) (hret : ret = none) (hy : y.cls ≠ "java/lang/invoke/MethodHandle" ∧ y.cls ≠ "java/lang/invoke/VarHandle") (wz : (Cond.initialized y.cls).before a0 Z = true) (eT : T.heap = h) {o : Addr} (hpd : parseMethodDescriptor y.desc = some ⟨ps, r⟩) (hlen : argsL.length = ps.length) (has : (.ref o :: argsL).toArray = as') (hfr : rm.frames + 1 ≤ R.frames) (hlo : (S.map fun v => v.category).sum + (maxL + 11) + rm.locals ≤ R.locals) (hc : cells + rm.cells ≤ R.cells) (hs : slots + rm.slots ≤ R.slots) (hsize : Ls.size = c.maxLocals) {st0 : List Value} (hst : st0 = argsL.reverse ++ .ref o :: S) (hd : decode c.code pc = .ok (.invokespecial index, 3))
    (K : ∀ T' Lc v, Stand p l e R s m args below meth c T' (locs ++ Lc) (cells + rm.cells) (slots + rm.slots) → Q v T'.heap Lc → Go p e below (T'.setTop (mkF m (pc + 3) Ls (v.toList ++ S))) P) : Go p e below (T.setTop (mkF m pc Ls st0)) P := by
  subst hst hret
  obtain ⟨v, _, ⟨T', L', k', n'⟩, -, X', ⟨Lc, hQ, l', k', n'⟩, st⟩ := X.specialBack hx (y := y) hyi hown (mvT hZ wl) (mvT hZ wi) (mvT hZ wc) hy (backOf (W := (S.map fun v => v.category).sum) hM hZ wc wz hfr hlo) (g := mkF m pc Ls (argsL.reverse ++ .ref o :: S)) rfl hsize (Steps.refl _) (a := o) (argsL := argsL) (rest := S) (lenOf hpd hlen) rfl (by show 2 * 0 + _ ≤ _; omega) hd (fun _ _ => ⟨has, eT, hc, hs⟩)
  dsimp only [Pt.U, Pt.locs, Pt.cells, Pt.slots] at X' l' k' n' st hQ
  subst l' k' n'
  exact Go.tr st (K T' Lc v X' hQ)
theorem selPriv {st : State} {as : Array Value} {y : MethodName} {n : Nat} (hy : y.cls ≠ "java/lang/invoke/MethodHandle" ∧ y.cls ≠ "java/lang/invoke/VarHandle") (hins : (Cond.instantiable y.cls n).before as st = true) (hpriv : (Cond.privateMethod y).before as st = true) (hinst : (Cond.instanceMethod y).before as st = true) : (Cond.selects y.cls y y).before as st = true := by
  obtain ⟨c, k, hc, hk, -, hniab, -, -⟩ := Cond.instantiable_spec hins
  have hni : k.isInterface = false := (Bool.or_eq_false_iff.mp hniab).1
  obtain ⟨mk, methM, hnamed, hmethM, -, -⟩ := Cond.instanceMethod_spec hinst
  have hfound : st.methodFound? y.cls y.name y.desc = some mk := State.methodFound?_of_named hnamed hy
  have hcls : mk.cls = c := Option.some.inj ((findClass_of_methodNamed hnamed).symm.trans hc)
  have hsel : selectMethod {} st.vm c mk = .method mk := selectMethod_private hmethM (Cond.privateMethod_at hpriv mk methM hnamed hmethM)
  simp only [Cond.before, Cond.holds, Cond.value, hc, hfound, hnamed, hsel, hcls, hk]
  simp; exact hni
theorem callP (X : Stand p l e R s m args below meth c T locs cells slots) (hx : p.tables.exec = Jvm.exec) (hZ : Z.Warmed39 s.vm) {own : String} {index : Nat} (hown : s.vm.findClass own = some m.cls) {y : MethodName} {bytes : ByteArray} {maxL : Nat} {ret : Option FieldType} {rm : Room} {as' : Array Value} {Q : Option Value → Heap → List Loc → Prop} {ps : List FieldType} {r : Option FieldType} {argsL : List Value} {C : String} {kk : Nat} (hM : MetFree l y (head1 [Cond.code y bytes maxL ret] rm) (fun a U => a = as' ∧ Z.Warmed39 U.vm ∧ U.heap = h) (fun _ _ _ _ _ => True) (fun _ U o U' => ∃ v L, o = .returned v ∧ Q v U'.heap L ∧ FrameEnd U o U' L rm.cells rm.slots)) (wl : (Cond.methodLink own index y).before a0 Z = true) (wi : (Cond.instanceMethod y).before a0 Z = true) (wn : (Cond.instantiable y.cls kk).before a0 Z = true) (wp : (Cond.privateMethod y).before a0 Z = true) (hy : y.cls ≠ "java/lang/invoke/MethodHandle" ∧ y.cls ≠ "java/lang/invoke/VarHandle") (wc : (Cond.code y bytes maxL ret).before a0 Z = true) (wz : (Cond.initialized y.cls).before a0 Z = true) (eT : T.heap = h) {o : Addr} (E : Exa Z h o C) (hpd : parseMethodDescriptor y.desc = some ⟨ps, r⟩) (hlen : argsL.length = ps.length) (has : (.ref o :: argsL).toArray = as') (hfr : rm.frames + 1 ≤ R.frames) (hlo : (S.map fun v => v.category).sum + (maxL + 11) + rm.locals ≤ R.locals) (hc : cells + rm.cells ≤ R.cells) (hs : slots + rm.slots ≤ R.slots) (hsize : Ls.size = c.maxLocals) {st0 : List Value} (hst : st0 = argsL.reverse ++ .ref o :: S) (hd : decode c.code pc = .ok (.invokevirtual index, 3))
    (K : ∀ T' Lc v, Stand p l e R s m args below meth c T' (locs ++ Lc) (cells + rm.cells) (slots + rm.slots) → Q v T'.heap Lc → Go p e below (T'.setTop (mkF m (pc + 3) Ls (v.toList ++ S))) P) : Go p e below (T.setTop (mkF m pc Ls st0)) P := by
  subst hst
  obtain ⟨cq, q1, q2⟩ := E.cell
  obtain ⟨v, _, ⟨T', L', k', n'⟩, -, X', ⟨Lc, hQ, l', k', n'⟩, st⟩ := X.privateBack hx (y := y) hown (mvT hZ wl) (mvT hZ wi) (mvT hZ (selPriv hy wn wp wi)) (Cond.privateMethod_at (mvP hZ wp (args := #[]))) (mvT hZ wc) hy (backOf (W := (S.map fun v => v.category).sum) hM hZ wc wz hfr hlo) (g := mkF m pc Ls (argsL.reverse ++ .ref o :: S)) rfl hsize (Steps.refl _) (a := o) (by rw [eT]; exact q1) q2 (argsL := argsL) (rest := S) (lenOf hpd hlen) rfl (by show 2 * 0 + _ ≤ _; omega) hd (fun _ _ => ⟨has, eT, hc, hs⟩)
  dsimp only [Pt.U, Pt.locs, Pt.cells, Pt.slots] at X' l' k' n' st hQ
  subst l' k' n'
  exact Go.tr st (K T' Lc v X' hQ)
theorem grid1 (X : Stand p l e R s m args below meth c T locs cells slots) (hx : p.tables.exec = Jvm.exec) (hZ : Z.Warmed39 s.vm) {own : String} {index : Nat} (hown : s.vm.findClass own = some m.cls) {C ad : String} {ty : FieldType} (hC : (FieldType.array ty).toString = C) (had : "[" ++ C = ad) (w1 : (Cond.classLink own index ad).before a0 Z = true) (w2 : (Cond.arrayOver (.array ty)).before a0 Z = true) (w3 : (Cond.arrayClass ty).before a0 Z = true) (eT : T.heap = h) {k : Int32} (hd : decode c.code pc = .ok (.multianewarray index 2, 4)) (hk : ¬ k < 0) {cap : Nat} (hcap : k.toNatClampNeg ≤ cap) (hb : cap * 8 ≤ 536870912) (hdf : fits ty (defaultValue ty) = true) (hdd : (defaultValue ty).isDefault = true) (hc : cells + (1 + 1) ≤ R.cells) (hl : slots + (1 + 1 * cap) ≤ R.slots)
    (K : ∀ T' h' b b1 cA comp, Stand p l e R s m args below meth c T' locs (cells + (1 + 1)) (slots + (1 + 1 * cap)) → T'.heap = h' → Ext h h' → b = h.size → b1 = h.size + 1 → Arf Z h' b cA (.array ty) (1 : Int32) (fun _ => .ref b1) → Arf Z h' b1 comp ty k (fun _ => defaultValue ty) → Exa Z h' b ad → Exa Z h' b1 C → OvrA Z cA ty C → Go p e below (T'.setTop (mkF m (pc + 4) Ls (.ref b :: S))) P) : Go p e below (T.setTop (mkF m pc Ls (.int k :: .int (1 : Int32) :: S))) P := by
  obtain ⟨T', h', cA, comp, X', e', E', V', O', B', I', st⟩ := gridM X hx hZ hown hC had w1 w2 w3 eT (g := mkF m pc Ls (.int k :: .int (1 : Int32) :: S)) rfl hd rfl (by decide) hk (xs := [h.size + 1]) (N := 1) rfl rfl hcap hb (by decide) hdf hdd hc hl
  obtain ⟨A1, B1⟩ := I' 0 (h.size + 1) rfl
  refine Go.st st (K T' h' _ _ cA comp X' e' E' rfl rfl (Arf.ofArv V' fun i hi => ?_) (Arf.new A1 hk) B' B1 O')
  have hi' : i < 1 := hi
  obtain rfl : i = 0 := by omega
  rfl
theorem dupX2 (X : Stand p l e R s m args below meth c T locs cells slots) (hx : p.tables.exec = Jvm.exec) {x y z : Value} (hd : decode c.code pc = .ok (.dup_x2, 1)) (h1 : x.category = 1) (h2 : y.category = 1) (h3 : z.category = 1) (K : Go p e below (T.setTop (mkF m (pc + 1) Ls (x :: y :: z :: x :: S))) P) : Go p e below (T.setTop (mkF m pc Ls (x :: y :: z :: S))) P := by
  refine Go.st (fun _ q_ => ?_) K
  show Steps p.tables e below (T.setTop { method := m, pc := pc, locals := Ls, stack := x :: y :: z :: S, locked := none }) _
  jvm_step X.here [X.here.top, hx, hd, h1, h2, h3]
  exact q_
theorem ldcS {vm0 : Vm} (X : Stand p l e R (s.setVm vm0) m args below meth c T locs cells slots) (hx : p.tables.exec = Jvm.exec) (hZ : Z.Warmed39 (s.setVm vm0).vm) {own text : String} {index : Nat} (hown : (s.setVm vm0).vm.findClass own = some m.cls) (w : (Cond.stringLink own index text).before a0 Z = true) (wS : ∀ a ∈ Bundle.stringAtoms, a.before a0 Z = true) (eT : T.heap = h) {k0 : Nat} (hS : s.Since vm0 k0) (hk : k0 ≤ h.size) (hd : decode c.code pc = .ok (.ldc index, 2)) {n : Nat} (hn : 4 * text.toList.length ≤ n) (hbig : n ≤ 536870912) (hc : cells + 2 ≤ R.cells) (hl : slots + (n + 4) ≤ R.slots)
    (K : ∀ a T' h' k1, Stand p l e R (s.setVm T'.vm) m args below meth c T' locs (cells + 2) (slots + (n + 4)) → T'.heap = h' → Ext h h' → s.Since T'.vm k1 → k1 ≤ h'.size → Z.Warmed39 (s.setVm T'.vm).vm → (s.setVm T'.vm).vm.findClass own = some m.cls → Go p e below (T'.setTop (mkF m (pc + 2) Ls (.ref a :: S))) P) : Go p e below (T.setTop (mkF m pc Ls S)) P := by
  obtain ⟨a, T', h', k1, X', e', E', S', q', Z', o', st⟩ := RoadKit.ldcS X hx hZ hown w wS eT hS hk (g := mkF m pc Ls S) rfl hd hn hbig hc hl
  exact Go.st st (K a T' h' k1 X' e' E' S' q' Z' o')
theorem finW {vm0 : Vm} (X : Stand p l e R (s.setVm vm0) m args below meth c T locs cells slots) (eT : T.heap = h) {k0 : Nat} (hS : s.Since vm0 k0) (hk : k0 ≤ h.size) {v : Option Value} (hv : meth.sig.returnType = none → v = none) (hlocks : meth.locks = false) {U : State}
    (st : ∀ fs, (∀ (f : JFrame) (acts : List Action), f.method = m → f.locked = none → f.entered = [] → (doReturn e (T.setTop f) acts v).1 = T.setFrames fs) → Steps p.tables e below U (T.setFrames fs))
    (hP : ∀ U' : State, U'.heap = T.heap → ReturnedEndW s (.returned v) U' locs cells slots → P (.returned v) U') : Go p e below U P := by
  obtain ⟨fs, hr, hrun, hended, hW⟩ := X.leaveW hS (by rw [eT]; exact hk) hv hlocks
  exact ⟨_, _, st fs hr, hrun, hended, hP _ rfl hW⟩
end GkKit
end Gk
namespace Gk
section GridKit
variable {p : Program} {l : Launch} {e : Env} {R : Room} {s : State} {m : MethodId} {args : Array Value} {below : List Frame} {meth : Method} {c : Code} {T : State} {locs : List Loc} {cells slots : Nat} {Ls : Array Slot} {S : List Value} {pc : Nat} {P : Outcome → State → Prop} {Z : State} {a0 : Array Value} {h : Heap}
theorem own_rng (b N i : Nat) (hi : i < N) : (((List.range N).map fun j => b + 1 + j).map Value.ref).getD i .null = .ref (b + 1 + i) := by
  simp [List.getD_eq_getElem?_getD, hi]
theorem own_rng' (b N i : Nat) (hi : i < N) : ((List.range N).map fun j => b + 1 + j)[i]? = some (b + 1 + i) := by
  simp [hi]
theorem gridN (X : Stand p l e R s m args below meth c T locs cells slots) (hx : p.tables.exec = Jvm.exec) (hZ : Z.Warmed39 s.vm) {own : String} {index : Nat} (hown : s.vm.findClass own = some m.cls) {C ad : String} {ty : FieldType} (hC : (FieldType.array ty).toString = C) (had : "[" ++ C = ad) (w1 : (Cond.classLink own index ad).before a0 Z = true) (w2 : (Cond.arrayOver (.array ty)).before a0 Z = true) (w3 : (Cond.arrayClass ty).before a0 Z = true) (eT : T.heap = h) {n k : Int32} (hd : decode c.code pc = .ok (.multianewarray index 2, 4)) (hn : ¬ n < 0) (hk : ¬ k < 0) (N : Nat) (hN : n.toNatClampNeg = N) {cap : Nat} (hcap : k.toNatClampNeg ≤ cap) (hb : cap * 8 ≤ 536870912) (hb1 : N ≤ 1000) (hdf : fits ty (defaultValue ty) = true) (hdd : (defaultValue ty).isDefault = true) (hc : cells + (1 + N) ≤ R.cells) (hl : slots + (N + N * cap) ≤ R.slots)
    (K : ∀ T' h' b cA comp, Stand p l e R s m args below meth c T' locs (cells + (1 + N)) (slots + (N + N * cap)) → T'.heap = h' → Ext h h' → b = h.size → Arf Z h' b cA (.array ty) n (fun i => .ref (b + 1 + i)) → (∀ i, i < N → Arf Z h' (b + 1 + i) comp ty k (fun _ => defaultValue ty)) → Exa Z h' b ad → Go p e below (T'.setTop (mkF m (pc + 4) Ls (.ref b :: S))) P) : Go p e below (T.setTop (mkF m pc Ls (.int k :: .int n :: S))) P := by
  obtain ⟨T', h', cA, comp, X', e', E', V', O', B', I', st⟩ := gridM X hx hZ hown hC had w1 w2 w3 eT (g := mkF m pc Ls (.int k :: .int n :: S)) rfl hd rfl hn hk (xs := (List.range N).map fun j => h.size + 1 + j) (N := N) hN rfl hcap hb hb1 hdf hdd hc hl
  exact Go.st st (K T' h' _ cA comp X' e' E' rfl (Arf.ofArv V' fun i hi => own_rng h.size N i (by rw [← hN]; exact hi)) (fun i hi => Arf.new (I' i _ (own_rng' h.size N i hi)).1 hk) B')
end GridKit
end Gk
theorem own_mx (p : Int32) : 0 ≤ (p &&& (2147483647 : Int32)).toInt ∧ (p &&& (2147483647 : Int32)).toInt ≤ 2147483647 := by
  have h := Jvm.Kit.i32_mask p 2147483647 (k := 31) (by decide) (by decide)
  omega
theorem own_Pd (q d : Int32) (hd : 0 < d.toInt ∧ d.toInt ≤ 4) : 0 ≤ ((q &&& (2147483647 : Int32)) % d).toInt ∧ ((q &&& (2147483647 : Int32)) % d).toInt < d.toInt := by
  have h := own_mx q
  have r : ((q &&& (2147483647 : Int32)) % d).toInt = (q &&& (2147483647 : Int32)).toInt % d.toInt := Jvm.Kit.i32_rem_nonneg h.1
  rw [r]
  exact ⟨Int.emod_nonneg _ (by omega), Int.emod_lt_of_pos _ (by omega)⟩
theorem own_nat {x : Int32} {n : Nat} (h : 0 ≤ x.toInt ∧ x.toInt < n) (hn : n ≤ 8) : ∃ k, k < n ∧ x = Int32.ofNat k := ⟨x.toInt.toNat, by omega, by
  apply Int32.toInt_inj.mp
  rw [Int32.toInt_ofNat_small (by omega)]
  omega⟩
theorem own_3 {q P : Int32} (e : P = ((q &&& (2147483647 : Int32)) % (3 : Int32))) : P = (0 : Int32) ∨ P = (1 : Int32) ∨ P = (2 : Int32) := by
  obtain ⟨k, hk, h⟩ := own_nat (n := 3) (own_Pd q 3 (by decide)) (by decide)
  rw [h] at e
  subst e
  rcases k with _ | _ | _ | k
  · exact Or.inl (by decide)
  · exact Or.inr (Or.inl (by decide))
  · exact Or.inr (Or.inr (by decide))
  · omega
theorem own_k {q P : Int32} (e : P = (q &&& (3 : Int32))) : P = (0 : Int32) ∨ P = (1 : Int32) ∨ P = (2 : Int32) ∨ P = (3 : Int32) := by
  have h := Jvm.Kit.i32_mask q 3 (k := 2) (by decide) (by decide)
  obtain ⟨k, hk, h'⟩ := own_nat (x := P) (n := 4) (by rw [e]; omega) (by decide)
  subst h'
  rcases k with _ | _ | _ | _ | k
  · exact Or.inl (by decide)
  · exact Or.inr (Or.inl (by decide))
  · exact Or.inr (Or.inr (Or.inl (by decide)))
  · exact Or.inr (Or.inr (Or.inr (by decide)))
  · omega
theorem own_in3 {x : Int32} (h : x = (0 : Int32) ∨ x = (1 : Int32) ∨ x = (2 : Int32)) : ¬ x < 0 ∧ x < 3 := by rcases h with rfl | rfl | rfl <;> decide
theorem own_tn3 {x : Int32} (h : x = (0 : Int32) ∨ x = (1 : Int32) ∨ x = (2 : Int32)) : x.toNatClampNeg < 3 := by rcases h with rfl | rfl | rfl <;> decide
theorem own_cl3 {x : Int32} (h : ¬ x < 0 ∧ x < 3) : x.toNatClampNeg < 3 := by
  have h1 := Int32.lt_iff_toInt_lt.mp h.2
  have e : (3 : Int32).toInt = 3 := by decide
  show x.toInt.toNat < 3
  omega
theorem own_lt0 {i : Int32} (h : 0 ≤ i.toInt) : ¬ i < 0 := fun q => by
  have h1 := Int32.lt_iff_toInt_lt.mp q
  rw [Int32.toInt_zero] at h1
  omega
theorem own_suc {i z : Int32} {t : Nat} (h0 : 0 ≤ i.toInt) (h : i.toInt + ((t + 1 : Nat) : Int) = z.toInt) : i < z ∧ 0 ≤ (i + (1 : Int32)).toInt ∧ (i + (1 : Int32)).toInt + (t : Int) = z.toInt := by
  have hz := z.toInt_lt
  have e1 : (1 : Int32).toInt = 1 := by decide
  have e : (i + (1 : Int32)).toInt = i.toInt + (1 : Int32).toInt := Jvm.Kit.i32_add (by omega) (by omega)
  exact ⟨Int32.lt_iff_toInt_lt.mpr (by omega), by omega, by omega⟩
theorem own_fin {i z : Int32} (h : i.toInt + ((0 : Nat) : Int) = z.toInt) : ¬ i < z := fun q => by
  have h1 := Int32.lt_iff_toInt_lt.mp q
  omega
theorem own_start {z : Int32} (h : ¬ z < 0) : (0 : Int32).toInt + ((z.toInt.toNat : Nat) : Int) = z.toInt := by
  have e1 : (0 : Int32).toInt = 0 := by decide
  have h1 : 0 ≤ z.toInt := Int.not_lt.mp fun q => h (Int32.lt_iff_toInt_lt.mpr (by rw [Int32.toInt_zero]; exact q))
  omega
theorem own_arfnn {Z : State} {h : Heap} {a : Addr} {k : ClassId} {ty : FieldType} {z : Int32} {f : Nat → Value} (F : Arf Z h a k ty z f) : ¬ z < 0 := by
  obtain ⟨c, A, q1, S, q3, H, G⟩ := F
  exact q3
theorem own_upd0 (i j : Nat) : upd (fun _ => Value.int (0 : Int32)) i (.int (0 : Int32)) j = .int (0 : Int32) := by simp [upd]
def updI (f : Nat → Int32) (i : Nat) (v : Int32) : Nat → Int32 := fun j => if j = i then v else f j
def updW (W : Nat → Nat → Int32) (k r : Nat) (v : Int32) : Nat → Nat → Int32 := fun i => if i = k then updI (W i) r v else W i
theorem own_updI (f : Nat → Int32) (i : Nat) (v : Int32) (j : Nat) : upd (fun j => Value.int (f j)) i (.int v) j = .int (updI f i v j) := by
  by_cases h : j = i <;> simp [upd, updI, h]
theorem own_updF (f : Nat → Int32) (i : Nat) (v : Int32) : upd (fun j => Value.int (f j)) i (.int v) = fun j => .int (updI f i v j) := funext (own_updI f i v)
theorem Arf.toI {Z : State} {h : Heap} {a : Addr} {k : ClassId} {ty : FieldType} {z v : Int32} {f : Nat → Int32} {i : Nat} (V : Arf Z h a k ty z (upd (fun j => Value.int (f j)) i (.int v))) : Arf Z h a k ty z (fun j => .int (updI f i v j)) := V.same fun j _ => own_updI f i v j
theorem own_rows {Z : State} {h h' : Heap} {X : Addr} {ky : ClassId} {W : Nat → Nat → Int32} {k r : Nat} {v : Int32} {ws : List Addr} (H : ∀ i, i < 3 → Arf Z h (X + 1 + i) ky .int (8 : Int32) (fun j => .int (W i j))) (V : Arf Z h' (X + 1 + k) ky .int (8 : Int32) (fun j => .int (updI (W k) r v j))) (K : Keep h h' ws) (hn : ∀ i, i < 3 → i ≠ k → X + 1 + i ∉ ws) : ∀ i, i < 3 → Arf Z h' (X + 1 + i) ky .int (8 : Int32) (fun j => .int (updW W k r v i j)) := by
  intro i hi
  by_cases e : i = k
  · subst e
    have q : updW W i r v i = updI (W i) r v := by simp [updW]
    rw [q]
    exact V
  · have q : updW W k r v i = W i := by simp [updW, e]
    rw [q]
    exact (H i hi).keep K (hn i hi e)
theorem own_ra {X o i : Nat} (h : o < X) : X + 1 + i ≠ o := by omega
theorem own_rb {X o i : Nat} (h : X + 3 < o) (hi : i < 3) : X + 1 + i ≠ o := by omega
theorem own_rc {X i k : Nat} (h : i ≠ k) : X + 1 + i ≠ X + 1 + k := by omega
theorem own_y1 (X i : Nat) : X < X + 1 + i := by omega
theorem own_y2 {X r i : Nat} (h : X + 3 < r) (hi : i < 3) : X + 1 + i < r := by omega
theorem own_sl {a : Addr} {v : Int32} {sl : Slot} (h : sl = .unset ∨ ∃ t : Int32, sl = .val (.int t)) : storeLocals #[.val (.ref a), sl] 1 (.int v) = some #[.val (.ref a), .val (.int v)] := by rcases h with rfl | ⟨t, rfl⟩ <;> rfl
theorem own_cp1 (ft fs : Nat → Value) (s : Nat) (v : Value) (hv : ft 0 = v) (i : Nat) : (if s ≤ i ∧ i < s + 1 then ft (0 + (i - s)) else fs i) = upd fs s v i := by
  by_cases h : i = s
  · subst h
    simp [upd, hv]
  · have q : ¬ (s ≤ i ∧ i < s + 1) := by omega
    simp [upd, h, q]
def Hh (hk : Int32) (j : Nat) : Int32 := if j < 3 ∧ j = hk.toNatClampNeg then 1 else 0
theorem own_H0 (j : Nat) : upd (fun _ => Value.int (0 : Int32)) 0 (.int (1 : Int32)) j = .int (Hh (0 : Int32) j) := by
  have e : (0 : Int32).toNatClampNeg = 0 := by decide
  by_cases h : j = 0 <;> simp [upd, Hh, e, h]
theorem own_H1 (j : Nat) : upd (fun _ => Value.int (0 : Int32)) 1 (.int (1 : Int32)) j = .int (Hh (1 : Int32) j) := by
  have e : (1 : Int32).toNatClampNeg = 1 := by decide
  by_cases h : j = 1 <;> simp [upd, Hh, e, h]
theorem own_H2 (j : Nat) : upd (fun _ => Value.int (0 : Int32)) 2 (.int (1 : Int32)) j = .int (Hh (2 : Int32) j) := by
  have e : (2 : Int32).toNatClampNeg = 2 := by decide
  by_cases h : j = 2 <;> simp [upd, Hh, e, h]
theorem own_H3 (j : Nat) : Value.int (0 : Int32) = .int (Hh (3 : Int32) j) := by
  have e : (3 : Int32).toNatClampNeg = 3 := by decide
  have q : ¬ (j < 3 ∧ j = 3) := by omega
  simp [Hh, e, q]
def pollF (W : Nat → Nat → Int32) (H : Nat → Int32) (lf : Int32) : Nat → Int32 → (Nat → Int32) → (Nat → Int32) → Option (Int32 × Int32 × (Nat → Int32) × (Nat → Int32))
  | 0, _, _, _ => none
  | n + 1, lo, R, T =>
    if lo < (3 : Int32) then
      (if lo < (0 : Int32) then none else
      if T lo.toNatClampNeg = R lo.toNatClampNeg then pollF W H lf n (lo + (1 : Int32)) R T
      else if lf = (0 : Int32) then
        (if T lo.toNatClampNeg < (0 : Int32) then none else if T lo.toNatClampNeg < (8 : Int32) then
          (if W lo.toNatClampNeg (T lo.toNatClampNeg).toNatClampNeg < (0 : Int32) then none else if W lo.toNatClampNeg (T lo.toNatClampNeg).toNatClampNeg < (16 : Int32) then
            (if H (W lo.toNatClampNeg (T lo.toNatClampNeg).toNatClampNeg).toNatClampNeg = (0 : Int32) then some (W lo.toNatClampNeg (T lo.toNatClampNeg).toNatClampNeg, lo, R, updI T lo.toNatClampNeg (T lo.toNatClampNeg + (1 : Int32)))
            else pollF W H lf n lo R (updI T lo.toNatClampNeg (T lo.toNatClampNeg + (1 : Int32)))) else none) else none)
      else
        (if R lo.toNatClampNeg - (1 : Int32) < (0 : Int32) then none else if R lo.toNatClampNeg - (1 : Int32) < (8 : Int32) then
          (if W lo.toNatClampNeg (R lo.toNatClampNeg - (1 : Int32)).toNatClampNeg < (0 : Int32) then none else if W lo.toNatClampNeg (R lo.toNatClampNeg - (1 : Int32)).toNatClampNeg < (16 : Int32) then
            (if H (W lo.toNatClampNeg (R lo.toNatClampNeg - (1 : Int32)).toNatClampNeg).toNatClampNeg = (0 : Int32) then some (W lo.toNatClampNeg (R lo.toNatClampNeg - (1 : Int32)).toNatClampNeg, lo, updI R lo.toNatClampNeg (R lo.toNatClampNeg - (1 : Int32)), T)
            else pollF W H lf n lo (updI R lo.toNatClampNeg (R lo.toNatClampNeg - (1 : Int32))) T) else none) else none))
    else some ((-1 : Int32), lo, R, T)
theorem own_ifN {α : Type} {q : Prop} [Decidable q] {x : Option α} {v : α} (h : (if q then none else x) = some v) : ¬ q ∧ x = some v := by
  by_cases k : q
  · rw [if_pos k] at h; cases h
  · rw [if_neg k] at h; exact ⟨k, h⟩
theorem own_ifS {α : Type} {q : Prop} [Decidable q] {x : Option α} {v : α} (h : (if q then x else none) = some v) : q ∧ x = some v := by
  by_cases k : q
  · rw [if_pos k] at h; exact ⟨k, h⟩
  · rw [if_neg k] at h; cases h
theorem own_some4 {α β γ δ : Type} {a a' : α} {b b' : β} {c c' : γ} {d d' : δ} (h : some (a, b, c, d) = some (a', b', c', d')) : a' = a ∧ b' = b ∧ c' = c ∧ d' = d := by cases h; exact ⟨rfl, rfl, rfl, rfl⟩
theorem own_q4 {α β γ δ : Type} {a a' : α} {b b' : β} {c c' : γ} {d d' : δ} (h : (a, b, c, d) = (a', b', c', d')) : a' = a ∧ b' = b ∧ c' = c ∧ d' = d := by cases h; exact ⟨rfl, rfl, rfl, rfl⟩
def Rr1 (k0 : Int32) : Nat → Int32 := updI (fun _ => 0) k0.toNatClampNeg ((fun _ : Nat => (0 : Int32)) k0.toNatClampNeg + (1 : Int32))
def Rr2 (k0 k1 : Int32) : Nat → Int32 := updI (Rr1 k0) k1.toNatClampNeg (Rr1 k0 k1.toNatClampNeg + (1 : Int32))
def Rr3 (k0 k1 k2 : Int32) : Nat → Int32 := updI (Rr2 k0 k1) k2.toNatClampNeg (Rr2 k0 k1 k2.toNatClampNeg + (1 : Int32))
def Ww1 (k0 : Int32) : Nat → Nat → Int32 := updW (fun _ _ => 0) k0.toNatClampNeg ((fun _ : Nat => (0 : Int32)) k0.toNatClampNeg).toNatClampNeg (0 : Int32)
def Ww2 (k0 k1 : Int32) : Nat → Nat → Int32 := updW (Ww1 k0) k1.toNatClampNeg (Rr1 k0 k1.toNatClampNeg).toNatClampNeg (1 : Int32)
def Ww3 (k0 k1 k2 : Int32) : Nat → Nat → Int32 := updW (Ww2 k0 k1) k2.toNatClampNeg (Rr2 k0 k1 k2.toNatClampNeg).toNatClampNeg (2 : Int32)
def key0F (k0 lf : Int32) : Int32 := (k0 * (4 : Int32)) + (if lf = (0 : Int32) then (0 : Int32) else (2 : Int32))
def key1F (k1 : Int32) : Int32 := (k1 * (4 : Int32)) + (1 : Int32)
def key2F (k2 lf : Int32) : Int32 := (k2 * (4 : Int32)) + (if lf = (0 : Int32) then (2 : Int32) else (0 : Int32))
def p0F (k0 k1 k2 lf : Int32) : Int32 := (if key1F k1 < key0F k0 lf then (1 : Int32) else (0 : Int32)) + (if key2F k2 lf < key0F k0 lf then (1 : Int32) else (0 : Int32))
def p1F (k0 k1 k2 lf : Int32) : Int32 := (if key0F k0 lf < key1F k1 then (1 : Int32) else (0 : Int32)) + (if key2F k2 lf < key1F k1 then (1 : Int32) else (0 : Int32))
def p2F (k0 k1 k2 lf : Int32) : Int32 := (if key0F k0 lf < key2F k2 lf then (1 : Int32) else (0 : Int32)) + (if key1F k1 < key2F k2 lf then (1 : Int32) else (0 : Int32))
def sF (a b c : Int32) : Nat → Int32 := updI (updI (updI (fun _ => 0) a.toNatClampNeg 0) b.toNatClampNeg 1) c.toNatClampNeg 2
theorem own_sF (a b c : Int32) (i : Nat) : upd (upd (upd (fun _ => Value.int (0 : Int32)) a.toNatClampNeg (.int (0 : Int32))) b.toNatClampNeg (.int (1 : Int32))) c.toNatClampNeg (.int (2 : Int32)) i = .int (sF a b c i) := by
  have h1 : upd (fun _ => Value.int (0 : Int32)) a.toNatClampNeg (.int (0 : Int32)) = fun j => .int (updI (fun _ => 0) a.toNatClampNeg 0 j) := own_updF (fun _ => 0) a.toNatClampNeg 0
  have h2 := own_updF (updI (fun _ => 0) a.toNatClampNeg 0) b.toNatClampNeg 1
  have h3 := own_updF (updI (updI (fun _ => 0) a.toNatClampNeg 0) b.toNatClampNeg 1) c.toNatClampNeg 2
  rw [h1, h2, h3]
  rfl
def outF (hk a b c : Int32) : Int32 × Int32 × Int32 × Int32 :=
  if a = hk then (if b = hk then (if c = hk then ((-1 : Int32), (-1 : Int32), (-1 : Int32), (-1 : Int32)) else (c, (-1 : Int32), (-1 : Int32), (-1 : Int32))) else (if c = hk then (b, (-1 : Int32), (-1 : Int32), (-1 : Int32)) else (b, c, (-1 : Int32), (-1 : Int32))))
  else (if b = hk then (if c = hk then (a, (-1 : Int32), (-1 : Int32), (-1 : Int32)) else (a, c, (-1 : Int32), (-1 : Int32))) else (if c = hk then (a, b, (-1 : Int32), (-1 : Int32)) else (a, b, c, (-1 : Int32))))
def bindB {α : Type} (o : Option α) (f : α → Bool) : Bool := match o with
  | none => false
  | some z => f z
theorem own_bindB {α : Type} {o : Option α} {f : α → Bool} (h : bindB o f = true) : ∃ z, o = some z ∧ f z = true := by
  cases o with
  | none => cases h
  | some z => exact ⟨z, rfl, h⟩
def chkB (k0 k1 k2 hk lf : Int32) : Bool :=
  bindB (pollF (Ww3 k0 k1 k2) (Hh hk) lf 7 (0 : Int32) (Rr3 k0 k1 k2) (fun _ => 0)) fun z0 =>
  bindB (pollF (Ww3 k0 k1 k2) (Hh hk) lf 7 z0.2.1 z0.2.2.1 z0.2.2.2) fun z1 =>
  bindB (pollF (Ww3 k0 k1 k2) (Hh hk) lf 7 z1.2.1 z1.2.2.1 z1.2.2.2) fun z2 =>
  bindB (pollF (Ww3 k0 k1 k2) (Hh hk) lf 7 z2.2.1 z2.2.2.1 z2.2.2.2) fun z3 =>
  decide (outF hk (sF (p0F k0 k1 k2 lf) (p1F k0 k1 k2 lf) (p2F k0 k1 k2 lf) 0) (sF (p0F k0 k1 k2 lf) (p1F k0 k1 k2 lf) (p2F k0 k1 k2 lf) 1) (sF (p0F k0 k1 k2 lf) (p1F k0 k1 k2 lf) (p2F k0 k1 k2 lf) 2) = (z0.1, z1.1, z2.1, z3.1))
theorem chk_all : (([0, 1, 2] : List Int32).all fun k0 => ([0, 1, 2] : List Int32).all fun k1 => ([0, 1, 2] : List Int32).all fun k2 => ([0, 1, 2, 3] : List Int32).all fun hk => ([0, 1] : List Int32).all fun lf => chkB k0 k1 k2 hk lf) = true := by decide +kernel
theorem own_m3 {x : Int32} (h : x = (0 : Int32) ∨ x = (1 : Int32) ∨ x = (2 : Int32)) : x ∈ ([0, 1, 2] : List Int32) := by rcases h with rfl | rfl | rfl <;> decide
theorem own_end {k0 k1 k2 hk lf : Int32} (h0 : k0 = (0 : Int32) ∨ k0 = (1 : Int32) ∨ k0 = (2 : Int32)) (h1 : k1 = (0 : Int32) ∨ k1 = (1 : Int32) ∨ k1 = (2 : Int32)) (h2 : k2 = (0 : Int32) ∨ k2 = (1 : Int32) ∨ k2 = (2 : Int32)) (h3 : hk = (0 : Int32) ∨ hk = (1 : Int32) ∨ hk = (2 : Int32) ∨ hk = (3 : Int32)) (h4 : lf = (0 : Int32) ∨ lf = (1 : Int32)) :
    ∃ r0 l1 Ra Ta r1 l2 Rb Tb r2 l3 Rc Tc r3 l4 Rd Td, pollF (Ww3 k0 k1 k2) (Hh hk) lf 7 (0 : Int32) (Rr3 k0 k1 k2) (fun _ => 0) = some (r0, l1, Ra, Ta) ∧ pollF (Ww3 k0 k1 k2) (Hh hk) lf 7 l1 Ra Ta = some (r1, l2, Rb, Tb) ∧ pollF (Ww3 k0 k1 k2) (Hh hk) lf 7 l2 Rb Tb = some (r2, l3, Rc, Tc) ∧ pollF (Ww3 k0 k1 k2) (Hh hk) lf 7 l3 Rc Tc = some (r3, l4, Rd, Td) ∧
      outF hk (sF (p0F k0 k1 k2 lf) (p1F k0 k1 k2 lf) (p2F k0 k1 k2 lf) 0) (sF (p0F k0 k1 k2 lf) (p1F k0 k1 k2 lf) (p2F k0 k1 k2 lf) 1) (sF (p0F k0 k1 k2 lf) (p1F k0 k1 k2 lf) (p2F k0 k1 k2 lf) 2) = (r0, r1, r2, r3) := by
  have m3 : hk ∈ ([0, 1, 2, 3] : List Int32) := by rcases h3 with rfl | rfl | rfl | rfl <;> decide
  have m4 : lf ∈ ([0, 1] : List Int32) := by rcases h4 with rfl | rfl <;> decide
  have h := List.all_eq_true.mp (List.all_eq_true.mp (List.all_eq_true.mp (List.all_eq_true.mp (List.all_eq_true.mp chk_all k0 (own_m3 h0)) k1 (own_m3 h1)) k2 (own_m3 h2)) hk m3) lf m4
  obtain ⟨⟨r0, l1, Ra, Ta⟩, e0, h⟩ := own_bindB h
  obtain ⟨⟨r1, l2, Rb, Tb⟩, e1, h⟩ := own_bindB h
  obtain ⟨⟨r2, l3, Rc, Tc⟩, e2, h⟩ := own_bindB h
  obtain ⟨⟨r3, l4, Rd, Td⟩, e3, h⟩ := own_bindB h
  exact ⟨r0, l1, Ra, Ta, r1, l2, Rb, Tb, r2, l3, Rc, Tc, r3, l4, Rd, Td, e0, e1, e2, e3, of_decide_eq_true h⟩
theorem own_r1 {k0 k1 : Int32} (h0 : k0 = (0 : Int32) ∨ k0 = (1 : Int32) ∨ k0 = (2 : Int32)) (h1 : k1 = (0 : Int32) ∨ k1 = (1 : Int32) ∨ k1 = (2 : Int32)) : ¬ Rr1 k0 k1.toNatClampNeg < 0 ∧ Rr1 k0 k1.toNatClampNeg < 8 := by
  rcases h0 with rfl | rfl | rfl <;> rcases h1 with rfl | rfl | rfl <;> decide
theorem own_r2 {k0 k1 k2 : Int32} (h0 : k0 = (0 : Int32) ∨ k0 = (1 : Int32) ∨ k0 = (2 : Int32)) (h1 : k1 = (0 : Int32) ∨ k1 = (1 : Int32) ∨ k1 = (2 : Int32)) (h2 : k2 = (0 : Int32) ∨ k2 = (1 : Int32) ∨ k2 = (2 : Int32)) : ¬ Rr2 k0 k1 k2.toNatClampNeg < 0 ∧ Rr2 k0 k1 k2.toNatClampNeg < 8 := by
  rcases h0 with rfl | rfl | rfl <;> rcases h1 with rfl | rfl | rfl <;> rcases h2 with rfl | rfl | rfl <;> decide
theorem own_if01 {q : Prop} [Decidable q] {x : Int32} (h : x = (if q then (1 : Int32) else (0 : Int32))) : x = (0 : Int32) ∨ x = (1 : Int32) := by
  by_cases k : q
  · rw [if_pos k] at h; exact Or.inr h
  · rw [if_neg k] at h; exact Or.inl h
theorem own_pos {x y z : Int32} (hz : z = x + y) (hx : x = (0 : Int32) ∨ x = (1 : Int32)) (hy : y = (0 : Int32) ∨ y = (1 : Int32)) : ¬ z < 0 ∧ z < 3 := by
  subst hz
  rcases hx with rfl | rfl <;> rcases hy with rfl | rfl <;> decide
theorem d1_0 : decode prog_84_method_1_code 0 = .ok (.aload_n 0, 1) := by decide +kernel
theorem d1_1 : decode prog_84_method_1_code 1 = .ok (.invokespecial 1, 3) := by decide +kernel
theorem d1_4 : decode prog_84_method_1_code 4 = .ok (.lload_n 1, 1) := by decide +kernel
theorem d1_5 : decode prog_84_method_1_code 5 = .ok (.lconst 1, 1) := by decide +kernel
theorem d1_6 : decode prog_84_method_1_code 6 = .ok (.lcmp, 1) := by decide +kernel
theorem d1_7 : decode prog_84_method_1_code 7 = .ok (.ifCond .ge 17, 3) := by decide +kernel
theorem d1_24 : decode prog_84_method_1_code 24 = .ok (.aload_n 0, 1) := by decide +kernel
theorem d1_25 : decode prog_84_method_1_code 25 = .ok (.lload_n 1, 1) := by decide +kernel
theorem d1_26 : decode prog_84_method_1_code 26 = .ok (.putfield 16, 3) := by decide +kernel
theorem d1_29 : decode prog_84_method_1_code 29 = .ok (.return_, 1) := by decide +kernel
theorem pn_10 : plainName "com/example/tracewarden/tracewarden/engine/SearchBudget" = true := by first | (simp [plainName, overriddenIn]; done) | decide +kernel
theorem ef_rm1 (m : MethodId) (a1 : Addr) : entryFrame m #[(.ref a1), (.long (3 : Int64))] 3 = mkF m 0 #[.val (.ref a1), .val (.long (3 : Int64)), .second] [] := by first | (simp [entryFrame, mkF, argsToLocals, Value.category]; done) | rfl
def Q_rm1 (Z : State) (a1 : Addr) (u_left_a1 : Value) (h0 : Heap) (n0 : Nat) (v : Option Value) (h : Heap) (L : List Loc) : Prop := v = none ∧ Fr n0 L ∧ Keep h0 h [a1] ∧ Fld Z h a1 "com/example/tracewarden/tracewarden/engine/SearchBudget" "left" "J" (.long (3 : Int64))
set_option maxRecDepth 65536 in
set_option maxHeartbeats 40000000 in
theorem rm1 (l : Launch) (Z : State) (a0 : Array Value) (hw : ∀ d ∈ tables_1, d.before a0 Z = true) (ws : List Jvm.Cond) (a1 : Addr) (u_left_a1 : Value) (h0 : Heap) (n0 : Nat) (Z0 : n0 ≤ h0.size) (E_a1 : Exa Z h0 a1 "com/example/tracewarden/tracewarden/engine/SearchBudget") (F_left_a1 : Fld Z h0 a1 "com/example/tracewarden/tracewarden/engine/SearchBudget" "left" "J" u_left_a1) (g_a1 : n0 ≤ a1) :
    MetFree l (⟨"com/example/tracewarden/tracewarden/engine/SearchBudget", "<init>", "(J)V"⟩ : MethodName) (head1 (Jvm.Cond.code (⟨"com/example/tracewarden/tracewarden/engine/SearchBudget", "<init>", "(J)V"⟩ : MethodName) prog_84_method_1_code 3 none :: ws) ({ frames := 1, cells := 0, slots := 0, locals := 12 } : Room)) (fun a U => a = #[(.ref a1), (.long (3 : Int64))] ∧ Z.Warmed39 U.vm ∧ U.heap = h0) (fun _ _ _ _ _ => True) (fun _ U o U' => ∃ v L, o = .returned v ∧ Q_rm1 Z a1 u_left_a1 h0 n0 v U'.heap L ∧ FrameEnd U o U' L ({ frames := 1, cells := 0, slots := 0, locals := 12 } : Room).cells ({ frames := 1, cells := 0, slots := 0, locals := 12 } : Room).slots) := by
  refine MetFree.of_bodySF (plainFor_of_name pn_10) hisR ?_
  intro p e s m args below meth c s₁ Bd hml0 hP hK
  obtain ⟨rfl, hZ, hh⟩ := hP
  have hx := Bd.exec
  have hby := Bd.bytes
  have hml : c.maxLocals = 3 := hml0
  have hown : s.vm.findClass "com/example/tracewarden/tracewarden/engine/SearchBudget" = some m.cls := findClass_of_methodNamed Bd.named
  have hnm := (name_of_methodNamed Bd.named Bd.method).1
  have X0 : Stand p l e ({ frames := 1, cells := 0, slots := 0, locals := 12 } : Room) s m #[(.ref a1), (.long (3 : Int64))] below meth c s₁ [] 0 0 := Stand.of_body Bd
  have e0 : s₁.heap = h0 := by rw [← hh, Bd.state]; rfl
  have N0 := Fr.nil n0
  show Go p e below (s₁.setTop (entryFrame m #[(.ref a1), (.long (3 : Int64))] 3)) (fun o U' => ∃ v L, o = .returned v ∧ Q_rm1 Z a1 u_left_a1 h0 n0 v U'.heap L ∧ FrameEnd s o U' L ({ frames := 1, cells := 0, slots := 0, locals := 12 } : Room).cells ({ frames := 1, cells := 0, slots := 0, locals := 12 } : Room).slots)
  rw [ef_rm1]
  refine Gk.aloadN X0 hx (hb hby d1_0) rfl rfl ?_
  refine Gk.initO X0 hx hZ hown (hw _ (List.mem_of_getElem? (i := 12) rfl)) (hw _ (List.mem_of_getElem? (i := 13) rfl)) (hw _ (List.mem_of_getElem? (i := 14) rfl)) e0 (by rw [hml]; rfl) (hb hby d1_1) (by decide) (Nat.le_of_ble_eq_true rfl) ?_
  intro T1 X1 e1
  refine Gk.lloadN X1 hx (hb hby d1_4) rfl ?_
  refine Gk.lconst1 X1 hx (hb hby d1_5) ?_
  refine Gk.lcmp X1 hx (hb hby d1_6) ?_
  refine Gk.ifYes X1 hx (hb hby d1_7) (flt (fun q_ => (by decide : ¬ ((3 : Int64) < (1 : Int64))) ((lw_lt _ _).mp q_))).2.1 24 (by decide) (by decide) ?_
  refine Gk.aloadN X1 hx (hb hby d1_24) rfl rfl ?_
  refine Gk.lloadN X1 hx (hb hby d1_25) rfl ?_
  refine Gk.putF X1 hx hZ hown (host := "") (Or.inl (hw _ (List.mem_of_getElem? (i := 15) rfl))) Via.refl e1 F_left_a1 E_a1 (Or.inl (hw _ (List.mem_of_getElem? (i := 16) rfl))) (hw _ (List.mem_of_getElem? (i := 6) rfl)) (ty := .long) (by decide) rfl rfl (hb hby d1_26) ?_
  intro T2 h2 X2 e2 W2
  have Fw2 := F_left_a1.same W2
  have N2 := Fr.snoc X2 N0 g_a1
  refine Go.fin X2 (v := none) (fun _ => rfl) Bd.notSynchronized (fun _ hr => X2.returnOut hx Bd.returns (hb hby d1_29) hr) (fun U' hU hF => ⟨_, _, rfl, ?_, hF.1, hF.2.1, hF.2.2.mono (by decide) (by decide)⟩)
  rw [hU, e2]
  exact ⟨rfl, N2, ((Keep.refl h0 [a1]).wr W2 (Or.inl (List.mem_of_getElem? (i := 0) rfl))), Fw2⟩
theorem d10_0 : decode prog_84_method_2_code 0 = .ok (.aload_n 0, 1) := by decide +kernel
theorem d10_1 : decode prog_84_method_2_code 1 = .ok (.getfield 16, 3) := by decide +kernel
theorem d10_4 : decode prog_84_method_2_code 4 = .ok (.lconst 0, 1) := by decide +kernel
theorem d10_5 : decode prog_84_method_2_code 5 = .ok (.lcmp, 1) := by decide +kernel
theorem d10_6 : decode prog_84_method_2_code 6 = .ok (.ifCond .ne 11, 3) := by decide +kernel
theorem d10_17 : decode prog_84_method_2_code 17 = .ok (.aload_n 0, 1) := by decide +kernel
theorem d10_18 : decode prog_84_method_2_code 18 = .ok (.dup, 1) := by decide +kernel
theorem d10_19 : decode prog_84_method_2_code 19 = .ok (.getfield 16, 3) := by decide +kernel
theorem d10_22 : decode prog_84_method_2_code 22 = .ok (.lconst 1, 1) := by decide +kernel
theorem d10_23 : decode prog_84_method_2_code 23 = .ok (.lsub, 1) := by decide +kernel
theorem d10_24 : decode prog_84_method_2_code 24 = .ok (.putfield 16, 3) := by decide +kernel
theorem d10_27 : decode prog_84_method_2_code 27 = .ok (.return_, 1) := by decide +kernel
theorem ef_rm10_0 (m : MethodId) (a1 : Addr) : entryFrame m #[(.ref a1)] 1 = mkF m 0 #[.val (.ref a1)] [] := by first | (simp [entryFrame, mkF, argsToLocals, Value.category]; done) | rfl
def Q_rm10_0 (Z : State) (a1 : Addr) (h0 : Heap) (n0 : Nat) (v : Option Value) (h : Heap) (L : List Loc) : Prop := v = none ∧ Fr n0 L ∧ Keep h0 h [a1] ∧ Fld Z h a1 "com/example/tracewarden/tracewarden/engine/SearchBudget" "left" "J" (.long (2 : Int64))
set_option maxRecDepth 65536 in
set_option maxHeartbeats 40000000 in
theorem rm10_0 (l : Launch) (Z : State) (a0 : Array Value) (hw : ∀ d ∈ tables_1, d.before a0 Z = true) (ws : List Jvm.Cond) (a1 : Addr) (h0 : Heap) (n0 : Nat) (Z0 : n0 ≤ h0.size) (E_a1 : Exa Z h0 a1 "com/example/tracewarden/tracewarden/engine/SearchBudget") (F_left : Fld Z h0 a1 "com/example/tracewarden/tracewarden/engine/SearchBudget" "left" "J" (.long (3 : Int64))) (g_a1 : n0 ≤ a1) :
    MetFree l (⟨"com/example/tracewarden/tracewarden/engine/SearchBudget", "step", "()V"⟩ : MethodName) (head1 (Jvm.Cond.code (⟨"com/example/tracewarden/tracewarden/engine/SearchBudget", "step", "()V"⟩ : MethodName) prog_84_method_2_code 1 none :: ws) ({ frames := 0, cells := 0, slots := 0, locals := 0 } : Room)) (fun a U => a = #[(.ref a1)] ∧ Z.Warmed39 U.vm ∧ U.heap = h0) (fun _ _ _ _ _ => True) (fun _ U o U' => ∃ v L, o = .returned v ∧ Q_rm10_0 Z a1 h0 n0 v U'.heap L ∧ FrameEnd U o U' L ({ frames := 0, cells := 0, slots := 0, locals := 0 } : Room).cells ({ frames := 0, cells := 0, slots := 0, locals := 0 } : Room).slots) := by
  refine MetFree.of_bodySF (plainFor_of_name pn_10) hisR ?_
  intro p e s m args below meth c s₁ Bd hml0 hP hK
  obtain ⟨rfl, hZ, hh⟩ := hP
  have hx := Bd.exec
  have hby := Bd.bytes
  have hml : c.maxLocals = 1 := hml0
  have hown : s.vm.findClass "com/example/tracewarden/tracewarden/engine/SearchBudget" = some m.cls := findClass_of_methodNamed Bd.named
  have hnm := (name_of_methodNamed Bd.named Bd.method).1
  have X0 : Stand p l e ({ frames := 0, cells := 0, slots := 0, locals := 0 } : Room) s m #[(.ref a1)] below meth c s₁ [] 0 0 := Stand.of_body Bd
  have e0 : s₁.heap = h0 := by rw [← hh, Bd.state]; rfl
  have N0 := Fr.nil n0
  show Go p e below (s₁.setTop (entryFrame m #[(.ref a1)] 1)) (fun o U' => ∃ v L, o = .returned v ∧ Q_rm10_0 Z a1 h0 n0 v U'.heap L ∧ FrameEnd s o U' L ({ frames := 0, cells := 0, slots := 0, locals := 0 } : Room).cells ({ frames := 0, cells := 0, slots := 0, locals := 0 } : Room).slots)
  rw [ef_rm10_0]
  refine Gk.aloadN X0 hx (hb hby d10_0) rfl rfl ?_
  refine Gk.getF X0 hx hZ hown (host := "") (Or.inl (hw _ (List.mem_of_getElem? (i := 15) rfl))) Via.refl e0 F_left (hb hby d10_1) ?_
  intro T1 X1 e1
  refine Gk.lconst0 X1 hx (hb hby d10_4) ?_
  refine Gk.lcmp X1 hx (hb hby d10_5) ?_
  refine Gk.ifYes X1 hx (hb hby d10_6) (feq (fun q_ => (by decide : ¬ ((3 : Int64) = (0 : Int64))) ((lw_eq _ _).mp q_))).2 17 (by decide) (by decide) ?_
  refine Gk.aloadN X1 hx (hb hby d10_17) rfl rfl ?_
  refine Gk.dup X1 hx (hb hby d10_18) rfl ?_
  refine Gk.getF X1 hx hZ hown (host := "") (Or.inl (hw _ (List.mem_of_getElem? (i := 15) rfl))) Via.refl e1 F_left (hb hby d10_19) ?_
  intro T2 X2 e2
  refine Gk.lconst1 X2 hx (hb hby d10_22) ?_
  refine Gk.lsub X2 hx (hb hby d10_23) (2 : Int64) (by decide) ?_
  refine Gk.putF X2 hx hZ hown (host := "") (Or.inl (hw _ (List.mem_of_getElem? (i := 15) rfl))) Via.refl e2 F_left E_a1 (Or.inl (hw _ (List.mem_of_getElem? (i := 16) rfl))) (hw _ (List.mem_of_getElem? (i := 6) rfl)) (ty := .long) (by decide) rfl rfl (hb hby d10_24) ?_
  intro T3 h3 X3 e3 W3
  have Fw3 := F_left.same W3
  have N3 := Fr.snoc X3 N0 g_a1
  refine Go.fin X3 (v := none) (fun _ => rfl) Bd.notSynchronized (fun _ hr => X3.returnOut hx Bd.returns (hb hby d10_27) hr) (fun U' hU hF => ⟨_, _, rfl, ?_, hF.1, hF.2.1, hF.2.2.mono (by decide) (by decide)⟩)
  rw [hU, e3]
  exact ⟨rfl, N3, ((Keep.refl h0 [a1]).wr W3 (Or.inl (List.mem_of_getElem? (i := 0) rfl))), Fw3⟩
theorem ef_rm10_1 (m : MethodId) (a1 : Addr) : entryFrame m #[(.ref a1)] 1 = mkF m 0 #[.val (.ref a1)] [] := by first | (simp [entryFrame, mkF, argsToLocals, Value.category]; done) | rfl
def Q_rm10_1 (Z : State) (a1 : Addr) (h0 : Heap) (n0 : Nat) (v : Option Value) (h : Heap) (L : List Loc) : Prop := v = none ∧ Fr n0 L ∧ Keep h0 h [a1] ∧ Fld Z h a1 "com/example/tracewarden/tracewarden/engine/SearchBudget" "left" "J" (.long (1 : Int64))
set_option maxRecDepth 65536 in
set_option maxHeartbeats 40000000 in
theorem rm10_1 (l : Launch) (Z : State) (a0 : Array Value) (hw : ∀ d ∈ tables_1, d.before a0 Z = true) (ws : List Jvm.Cond) (a1 : Addr) (h0 : Heap) (n0 : Nat) (Z0 : n0 ≤ h0.size) (E_a1 : Exa Z h0 a1 "com/example/tracewarden/tracewarden/engine/SearchBudget") (F_left : Fld Z h0 a1 "com/example/tracewarden/tracewarden/engine/SearchBudget" "left" "J" (.long (2 : Int64))) (g_a1 : n0 ≤ a1) :
    MetFree l (⟨"com/example/tracewarden/tracewarden/engine/SearchBudget", "step", "()V"⟩ : MethodName) (head1 (Jvm.Cond.code (⟨"com/example/tracewarden/tracewarden/engine/SearchBudget", "step", "()V"⟩ : MethodName) prog_84_method_2_code 1 none :: ws) ({ frames := 0, cells := 0, slots := 0, locals := 0 } : Room)) (fun a U => a = #[(.ref a1)] ∧ Z.Warmed39 U.vm ∧ U.heap = h0) (fun _ _ _ _ _ => True) (fun _ U o U' => ∃ v L, o = .returned v ∧ Q_rm10_1 Z a1 h0 n0 v U'.heap L ∧ FrameEnd U o U' L ({ frames := 0, cells := 0, slots := 0, locals := 0 } : Room).cells ({ frames := 0, cells := 0, slots := 0, locals := 0 } : Room).slots) := by
  refine MetFree.of_bodySF (plainFor_of_name pn_10) hisR ?_
  intro p e s m args below meth c s₁ Bd hml0 hP hK
  obtain ⟨rfl, hZ, hh⟩ := hP
  have hx := Bd.exec
  have hby := Bd.bytes
  have hml : c.maxLocals = 1 := hml0
  have hown : s.vm.findClass "com/example/tracewarden/tracewarden/engine/SearchBudget" = some m.cls := findClass_of_methodNamed Bd.named
  have hnm := (name_of_methodNamed Bd.named Bd.method).1
  have X0 : Stand p l e ({ frames := 0, cells := 0, slots := 0, locals := 0 } : Room) s m #[(.ref a1)] below meth c s₁ [] 0 0 := Stand.of_body Bd
  have e0 : s₁.heap = h0 := by rw [← hh, Bd.state]; rfl
  have N0 := Fr.nil n0
  show Go p e below (s₁.setTop (entryFrame m #[(.ref a1)] 1)) (fun o U' => ∃ v L, o = .returned v ∧ Q_rm10_1 Z a1 h0 n0 v U'.heap L ∧ FrameEnd s o U' L ({ frames := 0, cells := 0, slots := 0, locals := 0 } : Room).cells ({ frames := 0, cells := 0, slots := 0, locals := 0 } : Room).slots)
  rw [ef_rm10_1]
  refine Gk.aloadN X0 hx (hb hby d10_0) rfl rfl ?_
  refine Gk.getF X0 hx hZ hown (host := "") (Or.inl (hw _ (List.mem_of_getElem? (i := 15) rfl))) Via.refl e0 F_left (hb hby d10_1) ?_
  intro T1 X1 e1
  refine Gk.lconst0 X1 hx (hb hby d10_4) ?_
  refine Gk.lcmp X1 hx (hb hby d10_5) ?_
  refine Gk.ifYes X1 hx (hb hby d10_6) (feq (fun q_ => (by decide : ¬ ((2 : Int64) = (0 : Int64))) ((lw_eq _ _).mp q_))).2 17 (by decide) (by decide) ?_
  refine Gk.aloadN X1 hx (hb hby d10_17) rfl rfl ?_
  refine Gk.dup X1 hx (hb hby d10_18) rfl ?_
  refine Gk.getF X1 hx hZ hown (host := "") (Or.inl (hw _ (List.mem_of_getElem? (i := 15) rfl))) Via.refl e1 F_left (hb hby d10_19) ?_
  intro T2 X2 e2
  refine Gk.lconst1 X2 hx (hb hby d10_22) ?_
  refine Gk.lsub X2 hx (hb hby d10_23) (1 : Int64) (by decide) ?_
  refine Gk.putF X2 hx hZ hown (host := "") (Or.inl (hw _ (List.mem_of_getElem? (i := 15) rfl))) Via.refl e2 F_left E_a1 (Or.inl (hw _ (List.mem_of_getElem? (i := 16) rfl))) (hw _ (List.mem_of_getElem? (i := 6) rfl)) (ty := .long) (by decide) rfl rfl (hb hby d10_24) ?_
  intro T3 h3 X3 e3 W3
  have Fw3 := F_left.same W3
  have N3 := Fr.snoc X3 N0 g_a1
  refine Go.fin X3 (v := none) (fun _ => rfl) Bd.notSynchronized (fun _ hr => X3.returnOut hx Bd.returns (hb hby d10_27) hr) (fun U' hU hF => ⟨_, _, rfl, ?_, hF.1, hF.2.1, hF.2.2.mono (by decide) (by decide)⟩)
  rw [hU, e3]
  exact ⟨rfl, N3, ((Keep.refl h0 [a1]).wr W3 (Or.inl (List.mem_of_getElem? (i := 0) rfl))), Fw3⟩
theorem ef_rm10_2 (m : MethodId) (a1 : Addr) : entryFrame m #[(.ref a1)] 1 = mkF m 0 #[.val (.ref a1)] [] := by first | (simp [entryFrame, mkF, argsToLocals, Value.category]; done) | rfl
def Q_rm10_2 (Z : State) (a1 : Addr) (h0 : Heap) (n0 : Nat) (v : Option Value) (h : Heap) (L : List Loc) : Prop := v = none ∧ Fr n0 L ∧ Keep h0 h [a1] ∧ Fld Z h a1 "com/example/tracewarden/tracewarden/engine/SearchBudget" "left" "J" (.long (0 : Int64))
set_option maxRecDepth 65536 in
set_option maxHeartbeats 40000000 in
theorem rm10_2 (l : Launch) (Z : State) (a0 : Array Value) (hw : ∀ d ∈ tables_1, d.before a0 Z = true) (ws : List Jvm.Cond) (a1 : Addr) (h0 : Heap) (n0 : Nat) (Z0 : n0 ≤ h0.size) (E_a1 : Exa Z h0 a1 "com/example/tracewarden/tracewarden/engine/SearchBudget") (F_left : Fld Z h0 a1 "com/example/tracewarden/tracewarden/engine/SearchBudget" "left" "J" (.long (1 : Int64))) (g_a1 : n0 ≤ a1) :
    MetFree l (⟨"com/example/tracewarden/tracewarden/engine/SearchBudget", "step", "()V"⟩ : MethodName) (head1 (Jvm.Cond.code (⟨"com/example/tracewarden/tracewarden/engine/SearchBudget", "step", "()V"⟩ : MethodName) prog_84_method_2_code 1 none :: ws) ({ frames := 0, cells := 0, slots := 0, locals := 0 } : Room)) (fun a U => a = #[(.ref a1)] ∧ Z.Warmed39 U.vm ∧ U.heap = h0) (fun _ _ _ _ _ => True) (fun _ U o U' => ∃ v L, o = .returned v ∧ Q_rm10_2 Z a1 h0 n0 v U'.heap L ∧ FrameEnd U o U' L ({ frames := 0, cells := 0, slots := 0, locals := 0 } : Room).cells ({ frames := 0, cells := 0, slots := 0, locals := 0 } : Room).slots) := by
  refine MetFree.of_bodySF (plainFor_of_name pn_10) hisR ?_
  intro p e s m args below meth c s₁ Bd hml0 hP hK
  obtain ⟨rfl, hZ, hh⟩ := hP
  have hx := Bd.exec
  have hby := Bd.bytes
  have hml : c.maxLocals = 1 := hml0
  have hown : s.vm.findClass "com/example/tracewarden/tracewarden/engine/SearchBudget" = some m.cls := findClass_of_methodNamed Bd.named
  have hnm := (name_of_methodNamed Bd.named Bd.method).1
  have X0 : Stand p l e ({ frames := 0, cells := 0, slots := 0, locals := 0 } : Room) s m #[(.ref a1)] below meth c s₁ [] 0 0 := Stand.of_body Bd
  have e0 : s₁.heap = h0 := by rw [← hh, Bd.state]; rfl
  have N0 := Fr.nil n0
  show Go p e below (s₁.setTop (entryFrame m #[(.ref a1)] 1)) (fun o U' => ∃ v L, o = .returned v ∧ Q_rm10_2 Z a1 h0 n0 v U'.heap L ∧ FrameEnd s o U' L ({ frames := 0, cells := 0, slots := 0, locals := 0 } : Room).cells ({ frames := 0, cells := 0, slots := 0, locals := 0 } : Room).slots)
  rw [ef_rm10_2]
  refine Gk.aloadN X0 hx (hb hby d10_0) rfl rfl ?_
  refine Gk.getF X0 hx hZ hown (host := "") (Or.inl (hw _ (List.mem_of_getElem? (i := 15) rfl))) Via.refl e0 F_left (hb hby d10_1) ?_
  intro T1 X1 e1
  refine Gk.lconst0 X1 hx (hb hby d10_4) ?_
  refine Gk.lcmp X1 hx (hb hby d10_5) ?_
  refine Gk.ifYes X1 hx (hb hby d10_6) (feq (fun q_ => (by decide : ¬ ((1 : Int64) = (0 : Int64))) ((lw_eq _ _).mp q_))).2 17 (by decide) (by decide) ?_
  refine Gk.aloadN X1 hx (hb hby d10_17) rfl rfl ?_
  refine Gk.dup X1 hx (hb hby d10_18) rfl ?_
  refine Gk.getF X1 hx hZ hown (host := "") (Or.inl (hw _ (List.mem_of_getElem? (i := 15) rfl))) Via.refl e1 F_left (hb hby d10_19) ?_
  intro T2 X2 e2
  refine Gk.lconst1 X2 hx (hb hby d10_22) ?_
  refine Gk.lsub X2 hx (hb hby d10_23) (0 : Int64) (by decide) ?_
  refine Gk.putF X2 hx hZ hown (host := "") (Or.inl (hw _ (List.mem_of_getElem? (i := 15) rfl))) Via.refl e2 F_left E_a1 (Or.inl (hw _ (List.mem_of_getElem? (i := 16) rfl))) (hw _ (List.mem_of_getElem? (i := 6) rfl)) (ty := .long) (by decide) rfl rfl (hb hby d10_24) ?_
  intro T3 h3 X3 e3 W3
  have Fw3 := F_left.same W3
  have N3 := Fr.snoc X3 N0 g_a1
  refine Go.fin X3 (v := none) (fun _ => rfl) Bd.notSynchronized (fun _ hr => X3.returnOut hx Bd.returns (hb hby d10_27) hr) (fun U' hU hF => ⟨_, _, rfl, ?_, hF.1, hF.2.1, hF.2.2.mono (by decide) (by decide)⟩)
  rw [hU, e3]
  exact ⟨rfl, N3, ((Keep.refl h0 [a1]).wr W3 (Or.inl (List.mem_of_getElem? (i := 0) rfl))), Fw3⟩
theorem d3_0 : decode prog_86_method_1_code 0 = .ok (.aload_n 0, 1) := by decide +kernel
theorem d3_1 : decode prog_86_method_1_code 1 = .ok (.invokespecial 1, 3) := by decide +kernel
theorem d3_4 : decode prog_86_method_1_code 4 = .ok (.aload_n 0, 1) := by decide +kernel
theorem d3_5 : decode prog_86_method_1_code 5 = .ok (.bipush 64, 2) := by decide +kernel
theorem d3_7 : decode prog_86_method_1_code 7 = .ok (.newarray .int, 2) := by decide +kernel
theorem d3_9 : decode prog_86_method_1_code 9 = .ok (.putfield 7, 3) := by decide +kernel
theorem d3_12 : decode prog_86_method_1_code 12 = .ok (.aload_n 0, 1) := by decide +kernel
theorem d3_13 : decode prog_86_method_1_code 13 = .ok (.bipush 16, 2) := by decide +kernel
theorem d3_15 : decode prog_86_method_1_code 15 = .ok (.newarray .int, 2) := by decide +kernel
theorem d3_17 : decode prog_86_method_1_code 17 = .ok (.putfield 13, 3) := by decide +kernel
theorem d3_20 : decode prog_86_method_1_code 20 = .ok (.aload_n 0, 1) := by decide +kernel
theorem d3_21 : decode prog_86_method_1_code 21 = .ok (.bipush 16, 2) := by decide +kernel
theorem d3_23 : decode prog_86_method_1_code 23 = .ok (.anewarray 16, 3) := by decide +kernel
theorem d3_26 : decode prog_86_method_1_code 26 = .ok (.putfield 18, 3) := by decide +kernel
theorem d3_29 : decode prog_86_method_1_code 29 = .ok (.aload_n 0, 1) := by decide +kernel
theorem d3_30 : decode prog_86_method_1_code 30 = .ok (.bipush 16, 2) := by decide +kernel
theorem d3_32 : decode prog_86_method_1_code 32 = .ok (.newarray .int, 2) := by decide +kernel
theorem d3_34 : decode prog_86_method_1_code 34 = .ok (.putfield 22, 3) := by decide +kernel
theorem d3_37 : decode prog_86_method_1_code 37 = .ok (.aload_n 0, 1) := by decide +kernel
theorem d3_38 : decode prog_86_method_1_code 38 = .ok (.bipush 16, 2) := by decide +kernel
theorem d3_40 : decode prog_86_method_1_code 40 = .ok (.newarray .boolean, 2) := by decide +kernel
theorem d3_42 : decode prog_86_method_1_code 42 = .ok (.putfield 25, 3) := by decide +kernel
theorem d3_45 : decode prog_86_method_1_code 45 = .ok (.aload_n 0, 1) := by decide +kernel
theorem d3_46 : decode prog_86_method_1_code 46 = .ok (.bipush 16, 2) := by decide +kernel
theorem d3_48 : decode prog_86_method_1_code 48 = .ok (.newarray .int, 2) := by decide +kernel
theorem d3_50 : decode prog_86_method_1_code 50 = .ok (.putfield 29, 3) := by decide +kernel
theorem d3_53 : decode prog_86_method_1_code 53 = .ok (.aload_n 0, 1) := by decide +kernel
theorem d3_54 : decode prog_86_method_1_code 54 = .ok (.bipush 16, 2) := by decide +kernel
theorem d3_56 : decode prog_86_method_1_code 56 = .ok (.anewarray 32, 3) := by decide +kernel
theorem d3_59 : decode prog_86_method_1_code 59 = .ok (.putfield 34, 3) := by decide +kernel
theorem d3_62 : decode prog_86_method_1_code 62 = .ok (.aload_n 0, 1) := by decide +kernel
theorem d3_63 : decode prog_86_method_1_code 63 = .ok (.bipush 16, 2) := by decide +kernel
theorem d3_65 : decode prog_86_method_1_code 65 = .ok (.newarray .int, 2) := by decide +kernel
theorem d3_67 : decode prog_86_method_1_code 67 = .ok (.putfield 38, 3) := by decide +kernel
theorem d3_70 : decode prog_86_method_1_code 70 = .ok (.aload_n 0, 1) := by decide +kernel
theorem d3_71 : decode prog_86_method_1_code 71 = .ok (.bipush 32, 2) := by decide +kernel
theorem d3_73 : decode prog_86_method_1_code 73 = .ok (.newarray .int, 2) := by decide +kernel
theorem d3_75 : decode prog_86_method_1_code 75 = .ok (.putfield 41, 3) := by decide +kernel
theorem d3_78 : decode prog_86_method_1_code 78 = .ok (.aload_n 0, 1) := by decide +kernel
theorem d3_79 : decode prog_86_method_1_code 79 = .ok (.aload_n 3, 1) := by decide +kernel
theorem d3_80 : decode prog_86_method_1_code 80 = .ok (.putfield 44, 3) := by decide +kernel
theorem d3_83 : decode prog_86_method_1_code 83 = .ok (.aload_n 0, 1) := by decide +kernel
theorem d3_84 : decode prog_86_method_1_code 84 = .ok (.iload_n 1, 1) := by decide +kernel
theorem d3_85 : decode prog_86_method_1_code 85 = .ok (.putfield 48, 3) := by decide +kernel
theorem d3_88 : decode prog_86_method_1_code 88 = .ok (.aload_n 0, 1) := by decide +kernel
theorem d3_89 : decode prog_86_method_1_code 89 = .ok (.iload_n 2, 1) := by decide +kernel
theorem d3_90 : decode prog_86_method_1_code 90 = .ok (.bipush 8, 2) := by decide +kernel
theorem d3_92 : decode prog_86_method_1_code 92 = .ok (.multianewarray 52 2, 4) := by decide +kernel
theorem d3_96 : decode prog_86_method_1_code 96 = .ok (.putfield 54, 3) := by decide +kernel
theorem d3_99 : decode prog_86_method_1_code 99 = .ok (.aload_n 0, 1) := by decide +kernel
theorem d3_100 : decode prog_86_method_1_code 100 = .ok (.iload_n 2, 1) := by decide +kernel
theorem d3_101 : decode prog_86_method_1_code 101 = .ok (.newarray .int, 2) := by decide +kernel
theorem d3_103 : decode prog_86_method_1_code 103 = .ok (.putfield 57, 3) := by decide +kernel
theorem d3_106 : decode prog_86_method_1_code 106 = .ok (.aload_n 0, 1) := by decide +kernel
theorem d3_107 : decode prog_86_method_1_code 107 = .ok (.iload_n 2, 1) := by decide +kernel
theorem d3_108 : decode prog_86_method_1_code 108 = .ok (.newarray .int, 2) := by decide +kernel
theorem d3_110 : decode prog_86_method_1_code 110 = .ok (.putfield 60, 3) := by decide +kernel
theorem d3_113 : decode prog_86_method_1_code 113 = .ok (.return_, 1) := by decide +kernel
theorem pn_81 : plainName "com/example/tracewarden/tracewarden/engine/SearchTuples" = true := by first | (simp [plainName, overriddenIn]; done) | decide +kernel
theorem ef_rm3 (m : MethodId) (a1 : Addr) (a4 : Addr) : entryFrame m #[(.ref a1), (.int (1 : Int32)), (.int (3 : Int32)), (.ref a4)] 4 = mkF m 0 #[.val (.ref a1), .val (.int (1 : Int32)), .val (.int (3 : Int32)), .val (.ref a4)] [] := by first | (simp [entryFrame, mkF, argsToLocals, Value.category]; done) | rfl
def Q_rm3 (Z : State) (a1 : Addr) (a4 : Addr) (u_states_a1 : Value) (u_hashes_a1 : Value) (u_zones_a1 : Value) (u_sameStates_a1 : Value) (u_held_a1 : Value) (u_parents_a1 : Value) (u_events_a1 : Value) (u_ranks_a1 : Value) (u_slots_a1 : Value) (u_budget_a1 : Value) (u_width_a1 : Value) (u_ranked_a1 : Value) (u_reached_a1 : Value) (u_taken_a1 : Value) (h0 : Heap) (n0 : Nat) (v : Option Value) (h : Heap) (L : List Loc) : Prop := v = none ∧ Fr n0 L ∧ Keep h0 h [a1] ∧ ∃ (b_states b_hashes b_zones b_sameStates b_held b_parents b_events b_ranks b_slots b_ranked b_reached b_taken : Addr) (k_states k_hashes k_zones k_sameStates k_held k_parents k_events k_ranks k_slots k_ranked k_reached k_taken k_rk : ClassId), h0.size ≤ b_states ∧ b_states < b_hashes ∧ b_hashes < b_zones ∧ b_zones < b_sameStates ∧ b_sameStates < b_held ∧ b_held < b_parents ∧ b_parents < b_events ∧ b_events < b_ranks ∧ b_ranks < b_slots ∧ b_slots < b_ranked ∧ b_ranked + 3 < b_reached ∧ b_reached < b_taken ∧ Fld Z h a1 "com/example/tracewarden/tracewarden/engine/SearchTuples" "budget" "Lcom/example/tracewarden/tracewarden/engine/SearchBudget;" (.ref a4) ∧ Fld Z h a1 "com/example/tracewarden/tracewarden/engine/SearchTuples" "states" "[I" (.ref b_states) ∧ Fld Z h a1 "com/example/tracewarden/tracewarden/engine/SearchTuples" "hashes" "[I" (.ref b_hashes) ∧ Fld Z h a1 "com/example/tracewarden/tracewarden/engine/SearchTuples" "zones" "[Lcom/example/tracewarden/tracewarden/engine/Zone;" (.ref b_zones) ∧ Fld Z h a1 "com/example/tracewarden/tracewarden/engine/SearchTuples" "sameStates" "[I" (.ref b_sameStates) ∧ Fld Z h a1 "com/example/tracewarden/tracewarden/engine/SearchTuples" "held" "[Z" (.ref b_held) ∧ Fld Z h a1 "com/example/tracewarden/tracewarden/engine/SearchTuples" "parents" "[I" (.ref b_parents) ∧ Fld Z h a1 "com/example/tracewarden/tracewarden/engine/SearchTuples" "events" "[Lcom/example/tracewarden/tracewarden/engine/SearchTuples$Event;" (.ref b_events) ∧ Fld Z h a1 "com/example/tracewarden/tracewarden/engine/SearchTuples" "ranks" "[I" (.ref b_ranks) ∧ Fld Z h a1 "com/example/tracewarden/tracewarden/engine/SearchTuples" "slots" "[I" (.ref b_slots) ∧ Fld Z h a1 "com/example/tracewarden/tracewarden/engine/SearchTuples" "ranked" "[[I" (.ref b_ranked) ∧ Fld Z h a1 "com/example/tracewarden/tracewarden/engine/SearchTuples" "reached" "[I" (.ref b_reached) ∧ Fld Z h a1 "com/example/tracewarden/tracewarden/engine/SearchTuples" "taken" "[I" (.ref b_taken) ∧ Fld Z h a1 "com/example/tracewarden/tracewarden/engine/SearchTuples" "width" "I" (.int (1 : Int32)) ∧ Fld Z h a1 "com/example/tracewarden/tracewarden/engine/SearchTuples" "size" "I" (.int (0 : Int32)) ∧ Fld Z h a1 "com/example/tracewarden/tracewarden/engine/SearchTuples" "lowest" "I" (.int (0 : Int32)) ∧ Fld Z h a1 "com/example/tracewarden/tracewarden/engine/SearchTuples" "latestFirst" "Z" (.int (0 : Int32)) ∧ Arf Z h b_states k_states .int (64 : Int32) (fun _ => (.int (0 : Int32))) ∧ Arf Z h b_hashes k_hashes .int (16 : Int32) (fun _ => (.int (0 : Int32))) ∧ Arf Z h b_zones k_zones (.object "com/example/tracewarden/tracewarden/engine/Zone") (16 : Int32) (fun _ => .null) ∧ Arf Z h b_sameStates k_sameStates .int (16 : Int32) (fun _ => (.int (0 : Int32))) ∧ Arf Z h b_held k_held .boolean (16 : Int32) (fun _ => (.int (0 : Int32))) ∧ Arf Z h b_parents k_parents .int (16 : Int32) (fun _ => (.int (0 : Int32))) ∧ Arf Z h b_events k_events (.object "com/example/tracewarden/tracewarden/engine/SearchTuples$Event") (16 : Int32) (fun _ => .null) ∧ Arf Z h b_ranks k_ranks .int (16 : Int32) (fun _ => (.int (0 : Int32))) ∧ Arf Z h b_slots k_slots .int (32 : Int32) (fun _ => (.int (0 : Int32))) ∧ Arf Z h b_ranked k_ranked (.array .int) (3 : Int32) (fun i => .ref (b_ranked + 1 + i)) ∧ Arf Z h b_reached k_reached .int (3 : Int32) (fun _ => (.int (0 : Int32))) ∧ Arf Z h b_taken k_taken .int (3 : Int32) (fun _ => (.int (0 : Int32))) ∧ (∀ i, i < 3 → Arf Z h (b_ranked + 1 + i) k_rk .int (8 : Int32) (fun j => .int ((fun _ _ => (0 : Int32)) i j)))
set_option maxRecDepth 65536 in
set_option maxHeartbeats 40000000 in
theorem rm3 (l : Launch) (Z : State) (a0 : Array Value) (hw : ∀ d ∈ tables_1, d.before a0 Z = true) (ws : List Jvm.Cond) (a1 : Addr) (a4 : Addr) (u_states_a1 : Value) (u_hashes_a1 : Value) (u_zones_a1 : Value) (u_sameStates_a1 : Value) (u_held_a1 : Value) (u_parents_a1 : Value) (u_events_a1 : Value) (u_ranks_a1 : Value) (u_slots_a1 : Value) (u_budget_a1 : Value) (u_width_a1 : Value) (u_ranked_a1 : Value) (u_reached_a1 : Value) (u_taken_a1 : Value) (h0 : Heap) (n0 : Nat) (Z0 : n0 ≤ h0.size) (E_a1 : Exa Z h0 a1 "com/example/tracewarden/tracewarden/engine/SearchTuples") (F_size : Fld Z h0 a1 "com/example/tracewarden/tracewarden/engine/SearchTuples" "size" "I" (.int (0 : Int32))) (F_lowest : Fld Z h0 a1 "com/example/tracewarden/tracewarden/engine/SearchTuples" "lowest" "I" (.int (0 : Int32))) (F_latestFirst : Fld Z h0 a1 "com/example/tracewarden/tracewarden/engine/SearchTuples" "latestFirst" "Z" (.int (0 : Int32))) (F_states_a1 : Fld Z h0 a1 "com/example/tracewarden/tracewarden/engine/SearchTuples" "states" "[I" u_states_a1) (g_a1 : n0 ≤ a1) (F_hashes_a1 : Fld Z h0 a1 "com/example/tracewarden/tracewarden/engine/SearchTuples" "hashes" "[I" u_hashes_a1) (F_zones_a1 : Fld Z h0 a1 "com/example/tracewarden/tracewarden/engine/SearchTuples" "zones" "[Lcom/example/tracewarden/tracewarden/engine/Zone;" u_zones_a1) (F_sameStates_a1 : Fld Z h0 a1 "com/example/tracewarden/tracewarden/engine/SearchTuples" "sameStates" "[I" u_sameStates_a1) (F_held_a1 : Fld Z h0 a1 "com/example/tracewarden/tracewarden/engine/SearchTuples" "held" "[Z" u_held_a1) (F_parents_a1 : Fld Z h0 a1 "com/example/tracewarden/tracewarden/engine/SearchTuples" "parents" "[I" u_parents_a1) (F_events_a1 : Fld Z h0 a1 "com/example/tracewarden/tracewarden/engine/SearchTuples" "events" "[Lcom/example/tracewarden/tracewarden/engine/SearchTuples$Event;" u_events_a1) (F_ranks_a1 : Fld Z h0 a1 "com/example/tracewarden/tracewarden/engine/SearchTuples" "ranks" "[I" u_ranks_a1) (F_slots_a1 : Fld Z h0 a1 "com/example/tracewarden/tracewarden/engine/SearchTuples" "slots" "[I" u_slots_a1) (F_budget_a1 : Fld Z h0 a1 "com/example/tracewarden/tracewarden/engine/SearchTuples" "budget" "Lcom/example/tracewarden/tracewarden/engine/SearchBudget;" u_budget_a1) (F_width_a1 : Fld Z h0 a1 "com/example/tracewarden/tracewarden/engine/SearchTuples" "width" "I" u_width_a1) (F_ranked_a1 : Fld Z h0 a1 "com/example/tracewarden/tracewarden/engine/SearchTuples" "ranked" "[[I" u_ranked_a1) (F_reached_a1 : Fld Z h0 a1 "com/example/tracewarden/tracewarden/engine/SearchTuples" "reached" "[I" u_reached_a1) (F_taken_a1 : Fld Z h0 a1 "com/example/tracewarden/tracewarden/engine/SearchTuples" "taken" "[I" u_taken_a1) :
    MetFree l (⟨"com/example/tracewarden/tracewarden/engine/SearchTuples", "<init>", "(IILcom/example/tracewarden/tracewarden/engine/SearchBudget;)V"⟩ : MethodName) (head1 (Jvm.Cond.code (⟨"com/example/tracewarden/tracewarden/engine/SearchTuples", "<init>", "(IILcom/example/tracewarden/tracewarden/engine/SearchBudget;)V"⟩ : MethodName) prog_86_method_1_code 4 none :: ws) ({ frames := 1, cells := 15, slots := 241, locals := 12 } : Room)) (fun a U => a = #[(.ref a1), (.int (1 : Int32)), (.int (3 : Int32)), (.ref a4)] ∧ Z.Warmed39 U.vm ∧ U.heap = h0) (fun _ _ _ _ _ => True) (fun _ U o U' => ∃ v L, o = .returned v ∧ Q_rm3 Z a1 a4 u_states_a1 u_hashes_a1 u_zones_a1 u_sameStates_a1 u_held_a1 u_parents_a1 u_events_a1 u_ranks_a1 u_slots_a1 u_budget_a1 u_width_a1 u_ranked_a1 u_reached_a1 u_taken_a1 h0 n0 v U'.heap L ∧ FrameEnd U o U' L ({ frames := 1, cells := 15, slots := 241, locals := 12 } : Room).cells ({ frames := 1, cells := 15, slots := 241, locals := 12 } : Room).slots) := by
  refine MetFree.of_bodySF (plainFor_of_name pn_81) hisR ?_
  intro p e s m args below meth c s₁ Bd hml0 hP hK
  obtain ⟨rfl, hZ, hh⟩ := hP
  have hx := Bd.exec
  have hby := Bd.bytes
  have hml : c.maxLocals = 4 := hml0
  have hown : s.vm.findClass "com/example/tracewarden/tracewarden/engine/SearchTuples" = some m.cls := findClass_of_methodNamed Bd.named
  have hnm := (name_of_methodNamed Bd.named Bd.method).1
  have X0 : Stand p l e ({ frames := 1, cells := 15, slots := 241, locals := 12 } : Room) s m #[(.ref a1), (.int (1 : Int32)), (.int (3 : Int32)), (.ref a4)] below meth c s₁ [] 0 0 := Stand.of_body Bd
  have e0 : s₁.heap = h0 := by rw [← hh, Bd.state]; rfl
  have N0 := Fr.nil n0
  show Go p e below (s₁.setTop (entryFrame m #[(.ref a1), (.int (1 : Int32)), (.int (3 : Int32)), (.ref a4)] 4)) (fun o U' => ∃ v L, o = .returned v ∧ Q_rm3 Z a1 a4 u_states_a1 u_hashes_a1 u_zones_a1 u_sameStates_a1 u_held_a1 u_parents_a1 u_events_a1 u_ranks_a1 u_slots_a1 u_budget_a1 u_width_a1 u_ranked_a1 u_reached_a1 u_taken_a1 h0 n0 v U'.heap L ∧ FrameEnd s o U' L ({ frames := 1, cells := 15, slots := 241, locals := 12 } : Room).cells ({ frames := 1, cells := 15, slots := 241, locals := 12 } : Room).slots)
  rw [ef_rm3]
  refine Gk.aloadN X0 hx (hb hby d3_0) rfl rfl ?_
  refine Gk.initO X0 hx hZ hown (hw _ (List.mem_of_getElem? (i := 20) rfl)) (hw _ (List.mem_of_getElem? (i := 13) rfl)) (hw _ (List.mem_of_getElem? (i := 14) rfl)) e0 (by rw [hml]; rfl) (hb hby d3_1) (by decide) (Nat.le_of_ble_eq_true rfl) ?_
  intro T1 X1 e1
  refine Gk.aloadN X1 hx (hb hby d3_4) rfl rfl ?_
  refine Gk.bipush X1 hx (hb hby d3_5) (64 : Int32) rfl ?_
  refine Gk.newP X1 hx hZ (hw _ (List.mem_of_getElem? (i := 1) rfl)) e1 (hb hby d3_7) (by decide) (cap := 64) (by decide) (by decide) (by decide) (by decide) rfl ?_
  intro T2 h2 b2 k2 X2 e2 E2 g2 A2 B2
  have g_b2 : n0 ≤ b2 := Nat.le_trans Z0 (Nat.le_of_eq g2.symm)
  have V_b2 : Arf Z h2 b2 k2 .int (64 : Int32) (fun _ => (.int (0 : Int32))) := A2
  have lt_b2 := V_b2.lt
  have H3 := (E_a1.ext E2)
  have H4 := (F_states_a1.ext E2)
  refine Gk.putF X2 hx hZ hown (host := "") (Or.inl (hw _ (List.mem_of_getElem? (i := 21) rfl))) Via.refl e2 H4 H3 (Or.inl (hw _ (List.mem_of_getElem? (i := 22) rfl))) (hw _ (List.mem_of_getElem? (i := 3) rfl)) (ty := (.array .int)) (by decide) rfl rfl (hb hby d3_9) ?_
  intro T5 h5 X5 e5 W5
  have Fw5 := H4.same W5
  have N5 := Fr.snoc X5 N0 g_a1
  refine Gk.aloadN X5 hx (hb hby d3_12) rfl rfl ?_
  refine Gk.bipush X5 hx (hb hby d3_13) (16 : Int32) rfl ?_
  refine Gk.newP X5 hx hZ (hw _ (List.mem_of_getElem? (i := 1) rfl)) e5 (hb hby d3_15) (by decide) (cap := 16) (by decide) (by decide) (by decide) (by decide) rfl ?_
  intro T6 h6 b6 k6 X6 e6 E6 g6 A6 B6
  have g_b6 : n0 ≤ b6 := Nat.le_trans (Nat.le_trans Z0 (Nat.le_trans E2.1 (Keep.of_wr W5).1)) (Nat.le_of_eq g6.symm)
  have V_b6 : Arf Z h6 b6 k6 .int (16 : Int32) (fun _ => (.int (0 : Int32))) := A6
  have lt_b6 := V_b6.lt
  have H7 := ((H3.wr W5).ext E6)
  have H8 := (((F_hashes_a1.ext E2).other W5 (Or.inr (slot_ne (Or.inl (hw _ (List.mem_of_getElem? (i := 24) rfl))) (Or.inl (hw _ (List.mem_of_getElem? (i := 22) rfl))) (by decide) (t := (.array .int)) (t' := (.array .int)) (by decide) (by decide)))).ext E6)
  refine Gk.putF X6 hx hZ hown (host := "") (Or.inl (hw _ (List.mem_of_getElem? (i := 23) rfl))) Via.refl e6 H8 H7 (Or.inl (hw _ (List.mem_of_getElem? (i := 24) rfl))) (hw _ (List.mem_of_getElem? (i := 3) rfl)) (ty := (.array .int)) (by decide) rfl rfl (hb hby d3_17) ?_
  intro T9 h9 X9 e9 W9
  have Fw9 := H8.same W9
  have N9 := Fr.snoc X9 N5 g_a1
  refine Gk.aloadN X9 hx (hb hby d3_20) rfl rfl ?_
  refine Gk.bipush X9 hx (hb hby d3_21) (16 : Int32) rfl ?_
  have gr11 := (Nat.le_trans (Nat.le_trans (Nat.le_trans E2.1 (Keep.of_wr W5).1) E6.1) (Keep.of_wr W9).1)
  refine Gk.newR X9 hx hZ hown (hw _ (List.mem_of_getElem? (i := 25) rfl)) (hw _ (List.mem_of_getElem? (i := 26) rfl)) e9 (hb hby d3_23) (by decide) (cap := 16) (by decide) (by decide) (by decide) (by decide) rfl ?_
  intro T10 h10 b10 k10 X10 e10 E10 g10 A10 B10 O10
  have g_b10 : n0 ≤ b10 := Nat.le_trans (Nat.le_trans Z0 gr11) (Nat.le_of_eq g10.symm)
  have V_b10 : Arf Z h10 b10 k10 (.object "com/example/tracewarden/tracewarden/engine/Zone") (16 : Int32) (fun _ => .null) := A10
  have lt_b10 := V_b10.lt
  have H12 := ((H7.wr W9).ext E10)
  have H13 := (((((F_zones_a1.ext E2).other W5 (Or.inr (slot_ne (Or.inl (hw _ (List.mem_of_getElem? (i := 28) rfl))) (Or.inl (hw _ (List.mem_of_getElem? (i := 22) rfl))) (by decide) (t := (.array (.object "com/example/tracewarden/tracewarden/engine/Zone"))) (t' := (.array .int)) (by decide) (by decide)))).ext E6).other W9 (Or.inr (slot_ne (Or.inl (hw _ (List.mem_of_getElem? (i := 28) rfl))) (Or.inl (hw _ (List.mem_of_getElem? (i := 24) rfl))) (by decide) (t := (.array (.object "com/example/tracewarden/tracewarden/engine/Zone"))) (t' := (.array .int)) (by decide) (by decide)))).ext E10)
  refine Gk.putF X10 hx hZ hown (host := "") (Or.inl (hw _ (List.mem_of_getElem? (i := 27) rfl))) Via.refl e10 H13 H12 (Or.inl (hw _ (List.mem_of_getElem? (i := 28) rfl))) (hw _ (List.mem_of_getElem? (i := 3) rfl)) (ty := (.array (.object "com/example/tracewarden/tracewarden/engine/Zone"))) (by decide) rfl rfl (hb hby d3_26) ?_
  intro T14 h14 X14 e14 W14
  have Fw14 := H13.same W14
  have N14 := Fr.snoc X14 N9 g_a1
  refine Gk.aloadN X14 hx (hb hby d3_29) rfl rfl ?_
  refine Gk.bipush X14 hx (hb hby d3_30) (16 : Int32) rfl ?_
  have gr16 := (Nat.le_trans (Nat.le_trans gr11 E10.1) (Keep.of_wr W14).1)
  refine Gk.newP X14 hx hZ (hw _ (List.mem_of_getElem? (i := 1) rfl)) e14 (hb hby d3_32) (by decide) (cap := 16) (by decide) (by decide) (by decide) (by decide) rfl ?_
  intro T15 h15 b15 k15 X15 e15 E15 g15 A15 B15
  have g_b15 : n0 ≤ b15 := Nat.le_trans (Nat.le_trans Z0 gr16) (Nat.le_of_eq g15.symm)
  have V_b15 : Arf Z h15 b15 k15 .int (16 : Int32) (fun _ => (.int (0 : Int32))) := A15
  have lt_b15 := V_b15.lt
  have H17 := ((H12.wr W14).ext E15)
  have H18 := (((((((F_sameStates_a1.ext E2).other W5 (Or.inr (slot_ne (Or.inl (hw _ (List.mem_of_getElem? (i := 30) rfl))) (Or.inl (hw _ (List.mem_of_getElem? (i := 22) rfl))) (by decide) (t := (.array .int)) (t' := (.array .int)) (by decide) (by decide)))).ext E6).other W9 (Or.inr (slot_ne (Or.inl (hw _ (List.mem_of_getElem? (i := 30) rfl))) (Or.inl (hw _ (List.mem_of_getElem? (i := 24) rfl))) (by decide) (t := (.array .int)) (t' := (.array .int)) (by decide) (by decide)))).ext E10).other W14 (Or.inr (slot_ne (Or.inl (hw _ (List.mem_of_getElem? (i := 30) rfl))) (Or.inl (hw _ (List.mem_of_getElem? (i := 28) rfl))) (by decide) (t := (.array .int)) (t' := (.array (.object "com/example/tracewarden/tracewarden/engine/Zone"))) (by decide) (by decide)))).ext E15)
  refine Gk.putF X15 hx hZ hown (host := "") (Or.inl (hw _ (List.mem_of_getElem? (i := 29) rfl))) Via.refl e15 H18 H17 (Or.inl (hw _ (List.mem_of_getElem? (i := 30) rfl))) (hw _ (List.mem_of_getElem? (i := 3) rfl)) (ty := (.array .int)) (by decide) rfl rfl (hb hby d3_34) ?_
  intro T19 h19 X19 e19 W19
  have Fw19 := H18.same W19
  have N19 := Fr.snoc X19 N14 g_a1
  refine Gk.aloadN X19 hx (hb hby d3_37) rfl rfl ?_
  refine Gk.bipush X19 hx (hb hby d3_38) (16 : Int32) rfl ?_
  have gr21 := (Nat.le_trans (Nat.le_trans gr16 E15.1) (Keep.of_wr W19).1)
  refine Gk.newP X19 hx hZ (hw _ (List.mem_of_getElem? (i := 31) rfl)) e19 (hb hby d3_40) (by decide) (cap := 16) (by decide) (by decide) (by decide) (by decide) rfl ?_
  intro T20 h20 b20 k20 X20 e20 E20 g20 A20 B20
  have g_b20 : n0 ≤ b20 := Nat.le_trans (Nat.le_trans Z0 gr21) (Nat.le_of_eq g20.symm)
  have V_b20 : Arf Z h20 b20 k20 .boolean (16 : Int32) (fun _ => (.int (0 : Int32))) := A20
  have lt_b20 := V_b20.lt
  have H22 := ((H17.wr W19).ext E20)
  have H23 := (((((((((F_held_a1.ext E2).other W5 (Or.inr (slot_ne (Or.inl (hw _ (List.mem_of_getElem? (i := 33) rfl))) (Or.inl (hw _ (List.mem_of_getElem? (i := 22) rfl))) (by decide) (t := (.array .boolean)) (t' := (.array .int)) (by decide) (by decide)))).ext E6).other W9 (Or.inr (slot_ne (Or.inl (hw _ (List.mem_of_getElem? (i := 33) rfl))) (Or.inl (hw _ (List.mem_of_getElem? (i := 24) rfl))) (by decide) (t := (.array .boolean)) (t' := (.array .int)) (by decide) (by decide)))).ext E10).other W14 (Or.inr (slot_ne (Or.inl (hw _ (List.mem_of_getElem? (i := 33) rfl))) (Or.inl (hw _ (List.mem_of_getElem? (i := 28) rfl))) (by decide) (t := (.array .boolean)) (t' := (.array (.object "com/example/tracewarden/tracewarden/engine/Zone"))) (by decide) (by decide)))).ext E15).other W19 (Or.inr (slot_ne (Or.inl (hw _ (List.mem_of_getElem? (i := 33) rfl))) (Or.inl (hw _ (List.mem_of_getElem? (i := 30) rfl))) (by decide) (t := (.array .boolean)) (t' := (.array .int)) (by decide) (by decide)))).ext E20)
  refine Gk.putF X20 hx hZ hown (host := "") (Or.inl (hw _ (List.mem_of_getElem? (i := 32) rfl))) Via.refl e20 H23 H22 (Or.inl (hw _ (List.mem_of_getElem? (i := 33) rfl))) (hw _ (List.mem_of_getElem? (i := 3) rfl)) (ty := (.array .boolean)) (by decide) rfl rfl (hb hby d3_42) ?_
  intro T24 h24 X24 e24 W24
  have Fw24 := H23.same W24
  have N24 := Fr.snoc X24 N19 g_a1
  refine Gk.aloadN X24 hx (hb hby d3_45) rfl rfl ?_
  refine Gk.bipush X24 hx (hb hby d3_46) (16 : Int32) rfl ?_
  have gr26 := (Nat.le_trans (Nat.le_trans gr21 E20.1) (Keep.of_wr W24).1)
  refine Gk.newP X24 hx hZ (hw _ (List.mem_of_getElem? (i := 1) rfl)) e24 (hb hby d3_48) (by decide) (cap := 16) (by decide) (by decide) (by decide) (by decide) rfl ?_
  intro T25 h25 b25 k25 X25 e25 E25 g25 A25 B25
  have g_b25 : n0 ≤ b25 := Nat.le_trans (Nat.le_trans Z0 gr26) (Nat.le_of_eq g25.symm)
  have V_b25 : Arf Z h25 b25 k25 .int (16 : Int32) (fun _ => (.int (0 : Int32))) := A25
  have lt_b25 := V_b25.lt
  have H27 := ((H22.wr W24).ext E25)
  have H28 := (((((((((((F_parents_a1.ext E2).other W5 (Or.inr (slot_ne (Or.inl (hw _ (List.mem_of_getElem? (i := 35) rfl))) (Or.inl (hw _ (List.mem_of_getElem? (i := 22) rfl))) (by decide) (t := (.array .int)) (t' := (.array .int)) (by decide) (by decide)))).ext E6).other W9 (Or.inr (slot_ne (Or.inl (hw _ (List.mem_of_getElem? (i := 35) rfl))) (Or.inl (hw _ (List.mem_of_getElem? (i := 24) rfl))) (by decide) (t := (.array .int)) (t' := (.array .int)) (by decide) (by decide)))).ext E10).other W14 (Or.inr (slot_ne (Or.inl (hw _ (List.mem_of_getElem? (i := 35) rfl))) (Or.inl (hw _ (List.mem_of_getElem? (i := 28) rfl))) (by decide) (t := (.array .int)) (t' := (.array (.object "com/example/tracewarden/tracewarden/engine/Zone"))) (by decide) (by decide)))).ext E15).other W19 (Or.inr (slot_ne (Or.inl (hw _ (List.mem_of_getElem? (i := 35) rfl))) (Or.inl (hw _ (List.mem_of_getElem? (i := 30) rfl))) (by decide) (t := (.array .int)) (t' := (.array .int)) (by decide) (by decide)))).ext E20).other W24 (Or.inr (slot_ne (Or.inl (hw _ (List.mem_of_getElem? (i := 35) rfl))) (Or.inl (hw _ (List.mem_of_getElem? (i := 33) rfl))) (by decide) (t := (.array .int)) (t' := (.array .boolean)) (by decide) (by decide)))).ext E25)
  refine Gk.putF X25 hx hZ hown (host := "") (Or.inl (hw _ (List.mem_of_getElem? (i := 34) rfl))) Via.refl e25 H28 H27 (Or.inl (hw _ (List.mem_of_getElem? (i := 35) rfl))) (hw _ (List.mem_of_getElem? (i := 3) rfl)) (ty := (.array .int)) (by decide) rfl rfl (hb hby d3_50) ?_
  intro T29 h29 X29 e29 W29
  have Fw29 := H28.same W29
  have N29 := Fr.snoc X29 N24 g_a1
  refine Gk.aloadN X29 hx (hb hby d3_53) rfl rfl ?_
  refine Gk.bipush X29 hx (hb hby d3_54) (16 : Int32) rfl ?_
  have gr31 := (Nat.le_trans (Nat.le_trans gr26 E25.1) (Keep.of_wr W29).1)
  refine Gk.newR X29 hx hZ hown (hw _ (List.mem_of_getElem? (i := 36) rfl)) (hw _ (List.mem_of_getElem? (i := 37) rfl)) e29 (hb hby d3_56) (by decide) (cap := 16) (by decide) (by decide) (by decide) (by decide) rfl ?_
  intro T30 h30 b30 k30 X30 e30 E30 g30 A30 B30 O30
  have g_b30 : n0 ≤ b30 := Nat.le_trans (Nat.le_trans Z0 gr31) (Nat.le_of_eq g30.symm)
  have V_b30 : Arf Z h30 b30 k30 (.object "com/example/tracewarden/tracewarden/engine/SearchTuples$Event") (16 : Int32) (fun _ => .null) := A30
  have lt_b30 := V_b30.lt
  have H32 := ((H27.wr W29).ext E30)
  have H33 := (((((((((((((F_events_a1.ext E2).other W5 (Or.inr (slot_ne (Or.inl (hw _ (List.mem_of_getElem? (i := 39) rfl))) (Or.inl (hw _ (List.mem_of_getElem? (i := 22) rfl))) (by decide) (t := (.array (.object "com/example/tracewarden/tracewarden/engine/SearchTuples$Event"))) (t' := (.array .int)) (by decide) (by decide)))).ext E6).other W9 (Or.inr (slot_ne (Or.inl (hw _ (List.mem_of_getElem? (i := 39) rfl))) (Or.inl (hw _ (List.mem_of_getElem? (i := 24) rfl))) (by decide) (t := (.array (.object "com/example/tracewarden/tracewarden/engine/SearchTuples$Event"))) (t' := (.array .int)) (by decide) (by decide)))).ext E10).other W14 (Or.inr (slot_ne (Or.inl (hw _ (List.mem_of_getElem? (i := 39) rfl))) (Or.inl (hw _ (List.mem_of_getElem? (i := 28) rfl))) (by decide) (t := (.array (.object "com/example/tracewarden/tracewarden/engine/SearchTuples$Event"))) (t' := (.array (.object "com/example/tracewarden/tracewarden/engine/Zone"))) (by decide) (by decide)))).ext E15).other W19 (Or.inr (slot_ne (Or.inl (hw _ (List.mem_of_getElem? (i := 39) rfl))) (Or.inl (hw _ (List.mem_of_getElem? (i := 30) rfl))) (by decide) (t := (.array (.object "com/example/tracewarden/tracewarden/engine/SearchTuples$Event"))) (t' := (.array .int)) (by decide) (by decide)))).ext E20).other W24 (Or.inr (slot_ne (Or.inl (hw _ (List.mem_of_getElem? (i := 39) rfl))) (Or.inl (hw _ (List.mem_of_getElem? (i := 33) rfl))) (by decide) (t := (.array (.object "com/example/tracewarden/tracewarden/engine/SearchTuples$Event"))) (t' := (.array .boolean)) (by decide) (by decide)))).ext E25).other W29 (Or.inr (slot_ne (Or.inl (hw _ (List.mem_of_getElem? (i := 39) rfl))) (Or.inl (hw _ (List.mem_of_getElem? (i := 35) rfl))) (by decide) (t := (.array (.object "com/example/tracewarden/tracewarden/engine/SearchTuples$Event"))) (t' := (.array .int)) (by decide) (by decide)))).ext E30)
  refine Gk.putF X30 hx hZ hown (host := "") (Or.inl (hw _ (List.mem_of_getElem? (i := 38) rfl))) Via.refl e30 H33 H32 (Or.inl (hw _ (List.mem_of_getElem? (i := 39) rfl))) (hw _ (List.mem_of_getElem? (i := 3) rfl)) (ty := (.array (.object "com/example/tracewarden/tracewarden/engine/SearchTuples$Event"))) (by decide) rfl rfl (hb hby d3_59) ?_
  intro T34 h34 X34 e34 W34
  have Fw34 := H33.same W34
  have N34 := Fr.snoc X34 N29 g_a1
  refine Gk.aloadN X34 hx (hb hby d3_62) rfl rfl ?_
  refine Gk.bipush X34 hx (hb hby d3_63) (16 : Int32) rfl ?_
  have gr36 := (Nat.le_trans (Nat.le_trans gr31 E30.1) (Keep.of_wr W34).1)
  refine Gk.newP X34 hx hZ (hw _ (List.mem_of_getElem? (i := 1) rfl)) e34 (hb hby d3_65) (by decide) (cap := 16) (by decide) (by decide) (by decide) (by decide) rfl ?_
  intro T35 h35 b35 k35 X35 e35 E35 g35 A35 B35
  have g_b35 : n0 ≤ b35 := Nat.le_trans (Nat.le_trans Z0 gr36) (Nat.le_of_eq g35.symm)
  have V_b35 : Arf Z h35 b35 k35 .int (16 : Int32) (fun _ => (.int (0 : Int32))) := A35
  have lt_b35 := V_b35.lt
  have H37 := ((H32.wr W34).ext E35)
  have H38 := (((((((((((((((F_ranks_a1.ext E2).other W5 (Or.inr (slot_ne (Or.inl (hw _ (List.mem_of_getElem? (i := 41) rfl))) (Or.inl (hw _ (List.mem_of_getElem? (i := 22) rfl))) (by decide) (t := (.array .int)) (t' := (.array .int)) (by decide) (by decide)))).ext E6).other W9 (Or.inr (slot_ne (Or.inl (hw _ (List.mem_of_getElem? (i := 41) rfl))) (Or.inl (hw _ (List.mem_of_getElem? (i := 24) rfl))) (by decide) (t := (.array .int)) (t' := (.array .int)) (by decide) (by decide)))).ext E10).other W14 (Or.inr (slot_ne (Or.inl (hw _ (List.mem_of_getElem? (i := 41) rfl))) (Or.inl (hw _ (List.mem_of_getElem? (i := 28) rfl))) (by decide) (t := (.array .int)) (t' := (.array (.object "com/example/tracewarden/tracewarden/engine/Zone"))) (by decide) (by decide)))).ext E15).other W19 (Or.inr (slot_ne (Or.inl (hw _ (List.mem_of_getElem? (i := 41) rfl))) (Or.inl (hw _ (List.mem_of_getElem? (i := 30) rfl))) (by decide) (t := (.array .int)) (t' := (.array .int)) (by decide) (by decide)))).ext E20).other W24 (Or.inr (slot_ne (Or.inl (hw _ (List.mem_of_getElem? (i := 41) rfl))) (Or.inl (hw _ (List.mem_of_getElem? (i := 33) rfl))) (by decide) (t := (.array .int)) (t' := (.array .boolean)) (by decide) (by decide)))).ext E25).other W29 (Or.inr (slot_ne (Or.inl (hw _ (List.mem_of_getElem? (i := 41) rfl))) (Or.inl (hw _ (List.mem_of_getElem? (i := 35) rfl))) (by decide) (t := (.array .int)) (t' := (.array .int)) (by decide) (by decide)))).ext E30).other W34 (Or.inr (slot_ne (Or.inl (hw _ (List.mem_of_getElem? (i := 41) rfl))) (Or.inl (hw _ (List.mem_of_getElem? (i := 39) rfl))) (by decide) (t := (.array .int)) (t' := (.array (.object "com/example/tracewarden/tracewarden/engine/SearchTuples$Event"))) (by decide) (by decide)))).ext E35)
  refine Gk.putF X35 hx hZ hown (host := "") (Or.inl (hw _ (List.mem_of_getElem? (i := 40) rfl))) Via.refl e35 H38 H37 (Or.inl (hw _ (List.mem_of_getElem? (i := 41) rfl))) (hw _ (List.mem_of_getElem? (i := 3) rfl)) (ty := (.array .int)) (by decide) rfl rfl (hb hby d3_67) ?_
  intro T39 h39 X39 e39 W39
  have Fw39 := H38.same W39
  have N39 := Fr.snoc X39 N34 g_a1
  refine Gk.aloadN X39 hx (hb hby d3_70) rfl rfl ?_
  refine Gk.bipush X39 hx (hb hby d3_71) (32 : Int32) rfl ?_
  have gr41 := (Nat.le_trans (Nat.le_trans gr36 E35.1) (Keep.of_wr W39).1)
  refine Gk.newP X39 hx hZ (hw _ (List.mem_of_getElem? (i := 1) rfl)) e39 (hb hby d3_73) (by decide) (cap := 32) (by decide) (by decide) (by decide) (by decide) rfl ?_
  intro T40 h40 b40 k40 X40 e40 E40 g40 A40 B40
  have g_b40 : n0 ≤ b40 := Nat.le_trans (Nat.le_trans Z0 gr41) (Nat.le_of_eq g40.symm)
  have V_b40 : Arf Z h40 b40 k40 .int (32 : Int32) (fun _ => (.int (0 : Int32))) := A40
  have lt_b40 := V_b40.lt
  have H42 := ((H37.wr W39).ext E40)
  have H43 := (((((((((((((((((F_slots_a1.ext E2).other W5 (Or.inr (slot_ne (Or.inl (hw _ (List.mem_of_getElem? (i := 43) rfl))) (Or.inl (hw _ (List.mem_of_getElem? (i := 22) rfl))) (by decide) (t := (.array .int)) (t' := (.array .int)) (by decide) (by decide)))).ext E6).other W9 (Or.inr (slot_ne (Or.inl (hw _ (List.mem_of_getElem? (i := 43) rfl))) (Or.inl (hw _ (List.mem_of_getElem? (i := 24) rfl))) (by decide) (t := (.array .int)) (t' := (.array .int)) (by decide) (by decide)))).ext E10).other W14 (Or.inr (slot_ne (Or.inl (hw _ (List.mem_of_getElem? (i := 43) rfl))) (Or.inl (hw _ (List.mem_of_getElem? (i := 28) rfl))) (by decide) (t := (.array .int)) (t' := (.array (.object "com/example/tracewarden/tracewarden/engine/Zone"))) (by decide) (by decide)))).ext E15).other W19 (Or.inr (slot_ne (Or.inl (hw _ (List.mem_of_getElem? (i := 43) rfl))) (Or.inl (hw _ (List.mem_of_getElem? (i := 30) rfl))) (by decide) (t := (.array .int)) (t' := (.array .int)) (by decide) (by decide)))).ext E20).other W24 (Or.inr (slot_ne (Or.inl (hw _ (List.mem_of_getElem? (i := 43) rfl))) (Or.inl (hw _ (List.mem_of_getElem? (i := 33) rfl))) (by decide) (t := (.array .int)) (t' := (.array .boolean)) (by decide) (by decide)))).ext E25).other W29 (Or.inr (slot_ne (Or.inl (hw _ (List.mem_of_getElem? (i := 43) rfl))) (Or.inl (hw _ (List.mem_of_getElem? (i := 35) rfl))) (by decide) (t := (.array .int)) (t' := (.array .int)) (by decide) (by decide)))).ext E30).other W34 (Or.inr (slot_ne (Or.inl (hw _ (List.mem_of_getElem? (i := 43) rfl))) (Or.inl (hw _ (List.mem_of_getElem? (i := 39) rfl))) (by decide) (t := (.array .int)) (t' := (.array (.object "com/example/tracewarden/tracewarden/engine/SearchTuples$Event"))) (by decide) (by decide)))).ext E35).other W39 (Or.inr (slot_ne (Or.inl (hw _ (List.mem_of_getElem? (i := 43) rfl))) (Or.inl (hw _ (List.mem_of_getElem? (i := 41) rfl))) (by decide) (t := (.array .int)) (t' := (.array .int)) (by decide) (by decide)))).ext E40)
  refine Gk.putF X40 hx hZ hown (host := "") (Or.inl (hw _ (List.mem_of_getElem? (i := 42) rfl))) Via.refl e40 H43 H42 (Or.inl (hw _ (List.mem_of_getElem? (i := 43) rfl))) (hw _ (List.mem_of_getElem? (i := 3) rfl)) (ty := (.array .int)) (by decide) rfl rfl (hb hby d3_75) ?_
  intro T44 h44 X44 e44 W44
  have Fw44 := H43.same W44
  have N44 := Fr.snoc X44 N39 g_a1
  refine Gk.aloadN X44 hx (hb hby d3_78) rfl rfl ?_
  refine Gk.aloadN X44 hx (hb hby d3_79) rfl rfl ?_
  have H45 := (H42.wr W44)
  have H46 := ((((((((((((((((((F_budget_a1.ext E2).other W5 (Or.inr (slot_ne (Or.inr (hw _ (List.mem_of_getElem? (i := 45) rfl))) (Or.inl (hw _ (List.mem_of_getElem? (i := 22) rfl))) (by decide) (t := (.object "com/example/tracewarden/tracewarden/engine/SearchBudget")) (t' := (.array .int)) (by decide) (by decide)))).ext E6).other W9 (Or.inr (slot_ne (Or.inr (hw _ (List.mem_of_getElem? (i := 45) rfl))) (Or.inl (hw _ (List.mem_of_getElem? (i := 24) rfl))) (by decide) (t := (.object "com/example/tracewarden/tracewarden/engine/SearchBudget")) (t' := (.array .int)) (by decide) (by decide)))).ext E10).other W14 (Or.inr (slot_ne (Or.inr (hw _ (List.mem_of_getElem? (i := 45) rfl))) (Or.inl (hw _ (List.mem_of_getElem? (i := 28) rfl))) (by decide) (t := (.object "com/example/tracewarden/tracewarden/engine/SearchBudget")) (t' := (.array (.object "com/example/tracewarden/tracewarden/engine/Zone"))) (by decide) (by decide)))).ext E15).other W19 (Or.inr (slot_ne (Or.inr (hw _ (List.mem_of_getElem? (i := 45) rfl))) (Or.inl (hw _ (List.mem_of_getElem? (i := 30) rfl))) (by decide) (t := (.object "com/example/tracewarden/tracewarden/engine/SearchBudget")) (t' := (.array .int)) (by decide) (by decide)))).ext E20).other W24 (Or.inr (slot_ne (Or.inr (hw _ (List.mem_of_getElem? (i := 45) rfl))) (Or.inl (hw _ (List.mem_of_getElem? (i := 33) rfl))) (by decide) (t := (.object "com/example/tracewarden/tracewarden/engine/SearchBudget")) (t' := (.array .boolean)) (by decide) (by decide)))).ext E25).other W29 (Or.inr (slot_ne (Or.inr (hw _ (List.mem_of_getElem? (i := 45) rfl))) (Or.inl (hw _ (List.mem_of_getElem? (i := 35) rfl))) (by decide) (t := (.object "com/example/tracewarden/tracewarden/engine/SearchBudget")) (t' := (.array .int)) (by decide) (by decide)))).ext E30).other W34 (Or.inr (slot_ne (Or.inr (hw _ (List.mem_of_getElem? (i := 45) rfl))) (Or.inl (hw _ (List.mem_of_getElem? (i := 39) rfl))) (by decide) (t := (.object "com/example/tracewarden/tracewarden/engine/SearchBudget")) (t' := (.array (.object "com/example/tracewarden/tracewarden/engine/SearchTuples$Event"))) (by decide) (by decide)))).ext E35).other W39 (Or.inr (slot_ne (Or.inr (hw _ (List.mem_of_getElem? (i := 45) rfl))) (Or.inl (hw _ (List.mem_of_getElem? (i := 41) rfl))) (by decide) (t := (.object "com/example/tracewarden/tracewarden/engine/SearchBudget")) (t' := (.array .int)) (by decide) (by decide)))).ext E40).other W44 (Or.inr (slot_ne (Or.inr (hw _ (List.mem_of_getElem? (i := 45) rfl))) (Or.inl (hw _ (List.mem_of_getElem? (i := 43) rfl))) (by decide) (t := (.object "com/example/tracewarden/tracewarden/engine/SearchBudget")) (t' := (.array .int)) (by decide) (by decide))))
  refine Gk.putF X44 hx hZ hown (host := "") (Or.inl (hw _ (List.mem_of_getElem? (i := 44) rfl))) Via.refl e44 H46 H45 (Or.inr ⟨(hw _ (List.mem_of_getElem? (i := 45) rfl)), rfl, hnm⟩) (hw _ (List.mem_of_getElem? (i := 3) rfl)) (ty := (.object "com/example/tracewarden/tracewarden/engine/SearchBudget")) (by decide) rfl rfl (hb hby d3_80) ?_
  intro T47 h47 X47 e47 W47
  have Fw47 := H46.same W47
  have N47 := Fr.snoc X47 N44 g_a1
  refine Gk.aloadN X47 hx (hb hby d3_83) rfl rfl ?_
  refine Gk.iloadN X47 hx (hb hby d3_84) rfl ?_
  have H48 := (H45.wr W47)
  have H49 := (((((((((((((((((((F_width_a1.ext E2).other W5 (Or.inr (slot_ne (Or.inl (hw _ (List.mem_of_getElem? (i := 47) rfl))) (Or.inl (hw _ (List.mem_of_getElem? (i := 22) rfl))) (by decide) (t := .int) (t' := (.array .int)) (by decide) (by decide)))).ext E6).other W9 (Or.inr (slot_ne (Or.inl (hw _ (List.mem_of_getElem? (i := 47) rfl))) (Or.inl (hw _ (List.mem_of_getElem? (i := 24) rfl))) (by decide) (t := .int) (t' := (.array .int)) (by decide) (by decide)))).ext E10).other W14 (Or.inr (slot_ne (Or.inl (hw _ (List.mem_of_getElem? (i := 47) rfl))) (Or.inl (hw _ (List.mem_of_getElem? (i := 28) rfl))) (by decide) (t := .int) (t' := (.array (.object "com/example/tracewarden/tracewarden/engine/Zone"))) (by decide) (by decide)))).ext E15).other W19 (Or.inr (slot_ne (Or.inl (hw _ (List.mem_of_getElem? (i := 47) rfl))) (Or.inl (hw _ (List.mem_of_getElem? (i := 30) rfl))) (by decide) (t := .int) (t' := (.array .int)) (by decide) (by decide)))).ext E20).other W24 (Or.inr (slot_ne (Or.inl (hw _ (List.mem_of_getElem? (i := 47) rfl))) (Or.inl (hw _ (List.mem_of_getElem? (i := 33) rfl))) (by decide) (t := .int) (t' := (.array .boolean)) (by decide) (by decide)))).ext E25).other W29 (Or.inr (slot_ne (Or.inl (hw _ (List.mem_of_getElem? (i := 47) rfl))) (Or.inl (hw _ (List.mem_of_getElem? (i := 35) rfl))) (by decide) (t := .int) (t' := (.array .int)) (by decide) (by decide)))).ext E30).other W34 (Or.inr (slot_ne (Or.inl (hw _ (List.mem_of_getElem? (i := 47) rfl))) (Or.inl (hw _ (List.mem_of_getElem? (i := 39) rfl))) (by decide) (t := .int) (t' := (.array (.object "com/example/tracewarden/tracewarden/engine/SearchTuples$Event"))) (by decide) (by decide)))).ext E35).other W39 (Or.inr (slot_ne (Or.inl (hw _ (List.mem_of_getElem? (i := 47) rfl))) (Or.inl (hw _ (List.mem_of_getElem? (i := 41) rfl))) (by decide) (t := .int) (t' := (.array .int)) (by decide) (by decide)))).ext E40).other W44 (Or.inr (slot_ne (Or.inl (hw _ (List.mem_of_getElem? (i := 47) rfl))) (Or.inl (hw _ (List.mem_of_getElem? (i := 43) rfl))) (by decide) (t := .int) (t' := (.array .int)) (by decide) (by decide)))).other W47 (Or.inr (slot_ne (Or.inl (hw _ (List.mem_of_getElem? (i := 47) rfl))) (Or.inr (hw _ (List.mem_of_getElem? (i := 45) rfl))) (by decide) (t := .int) (t' := (.object "com/example/tracewarden/tracewarden/engine/SearchBudget")) (by decide) (by decide))))
  refine Gk.putF X47 hx hZ hown (host := "") (Or.inl (hw _ (List.mem_of_getElem? (i := 46) rfl))) Via.refl e47 H49 H48 (Or.inl (hw _ (List.mem_of_getElem? (i := 47) rfl))) (hw _ (List.mem_of_getElem? (i := 3) rfl)) (ty := .int) (by decide) rfl rfl (hb hby d3_85) ?_
  intro T50 h50 X50 e50 W50
  have Fw50 := H49.same W50
  have N50 := Fr.snoc X50 N47 g_a1
  refine Gk.aloadN X50 hx (hb hby d3_88) rfl rfl ?_
  refine Gk.iloadN X50 hx (hb hby d3_89) rfl ?_
  refine Gk.bipush X50 hx (hb hby d3_90) (8 : Int32) rfl ?_
  have gr52 := (Nat.le_trans (Nat.le_trans (Nat.le_trans (Nat.le_trans gr41 E40.1) (Keep.of_wr W44).1) (Keep.of_wr W47).1) (Keep.of_wr W50).1)
  refine Gk.gridN X50 hx hZ hown (C := "[I") rfl rfl (hw _ (List.mem_of_getElem? (i := 48) rfl)) (hw _ (List.mem_of_getElem? (i := 49) rfl)) (hw _ (List.mem_of_getElem? (i := 1) rfl)) e50 (hb hby d3_92) (by decide) (by decide) 3 rfl (cap := 8) (by decide) (by decide) (by decide) rfl rfl (by decide) (by decide) ?_
  intro T51 h51 b51 k51 c51 X51 e51 E51 g51 V_b51 Rw51 B51
  have g_b51 : n0 ≤ b51 := Nat.le_trans (Nat.le_trans Z0 gr52) (Nat.le_of_eq g51.symm)
  have lt3_b51 : b51 + 3 < h51.size := (Rw51 2 (by decide)).lt
  have lt_b51 := V_b51.lt
  have H53 := ((H48.wr W50).ext E51)
  have H54 := (((((((((((((((((((((F_ranked_a1.ext E2).other W5 (Or.inr (slot_ne (Or.inl (hw _ (List.mem_of_getElem? (i := 51) rfl))) (Or.inl (hw _ (List.mem_of_getElem? (i := 22) rfl))) (by decide) (t := (.array (.array .int))) (t' := (.array .int)) (by decide) (by decide)))).ext E6).other W9 (Or.inr (slot_ne (Or.inl (hw _ (List.mem_of_getElem? (i := 51) rfl))) (Or.inl (hw _ (List.mem_of_getElem? (i := 24) rfl))) (by decide) (t := (.array (.array .int))) (t' := (.array .int)) (by decide) (by decide)))).ext E10).other W14 (Or.inr (slot_ne (Or.inl (hw _ (List.mem_of_getElem? (i := 51) rfl))) (Or.inl (hw _ (List.mem_of_getElem? (i := 28) rfl))) (by decide) (t := (.array (.array .int))) (t' := (.array (.object "com/example/tracewarden/tracewarden/engine/Zone"))) (by decide) (by decide)))).ext E15).other W19 (Or.inr (slot_ne (Or.inl (hw _ (List.mem_of_getElem? (i := 51) rfl))) (Or.inl (hw _ (List.mem_of_getElem? (i := 30) rfl))) (by decide) (t := (.array (.array .int))) (t' := (.array .int)) (by decide) (by decide)))).ext E20).other W24 (Or.inr (slot_ne (Or.inl (hw _ (List.mem_of_getElem? (i := 51) rfl))) (Or.inl (hw _ (List.mem_of_getElem? (i := 33) rfl))) (by decide) (t := (.array (.array .int))) (t' := (.array .boolean)) (by decide) (by decide)))).ext E25).other W29 (Or.inr (slot_ne (Or.inl (hw _ (List.mem_of_getElem? (i := 51) rfl))) (Or.inl (hw _ (List.mem_of_getElem? (i := 35) rfl))) (by decide) (t := (.array (.array .int))) (t' := (.array .int)) (by decide) (by decide)))).ext E30).other W34 (Or.inr (slot_ne (Or.inl (hw _ (List.mem_of_getElem? (i := 51) rfl))) (Or.inl (hw _ (List.mem_of_getElem? (i := 39) rfl))) (by decide) (t := (.array (.array .int))) (t' := (.array (.object "com/example/tracewarden/tracewarden/engine/SearchTuples$Event"))) (by decide) (by decide)))).ext E35).other W39 (Or.inr (slot_ne (Or.inl (hw _ (List.mem_of_getElem? (i := 51) rfl))) (Or.inl (hw _ (List.mem_of_getElem? (i := 41) rfl))) (by decide) (t := (.array (.array .int))) (t' := (.array .int)) (by decide) (by decide)))).ext E40).other W44 (Or.inr (slot_ne (Or.inl (hw _ (List.mem_of_getElem? (i := 51) rfl))) (Or.inl (hw _ (List.mem_of_getElem? (i := 43) rfl))) (by decide) (t := (.array (.array .int))) (t' := (.array .int)) (by decide) (by decide)))).other W47 (Or.inr (slot_ne (Or.inl (hw _ (List.mem_of_getElem? (i := 51) rfl))) (Or.inr (hw _ (List.mem_of_getElem? (i := 45) rfl))) (by decide) (t := (.array (.array .int))) (t' := (.object "com/example/tracewarden/tracewarden/engine/SearchBudget")) (by decide) (by decide)))).other W50 (Or.inr (slot_ne (Or.inl (hw _ (List.mem_of_getElem? (i := 51) rfl))) (Or.inl (hw _ (List.mem_of_getElem? (i := 47) rfl))) (by decide) (t := (.array (.array .int))) (t' := .int) (by decide) (by decide)))).ext E51)
  refine Gk.putF X51 hx hZ hown (host := "") (Or.inl (hw _ (List.mem_of_getElem? (i := 50) rfl))) Via.refl e51 H54 H53 (Or.inl (hw _ (List.mem_of_getElem? (i := 51) rfl))) (hw _ (List.mem_of_getElem? (i := 3) rfl)) (ty := (.array (.array .int))) (by decide) rfl rfl (hb hby d3_96) ?_
  intro T55 h55 X55 e55 W55
  have Fw55 := H54.same W55
  have N55 := Fr.snoc X55 N50 g_a1
  refine Gk.aloadN X55 hx (hb hby d3_99) rfl rfl ?_
  refine Gk.iloadN X55 hx (hb hby d3_100) rfl ?_
  have gr57 := (Nat.le_trans (Nat.le_trans gr52 E51.1) (Keep.of_wr W55).1)
  refine Gk.newP X55 hx hZ (hw _ (List.mem_of_getElem? (i := 1) rfl)) e55 (hb hby d3_101) (by decide) (cap := 3) (by decide) (by decide) (by decide) (by decide) rfl ?_
  intro T56 h56 b56 k56 X56 e56 E56 g56 A56 B56
  have g_b56 : n0 ≤ b56 := Nat.le_trans (Nat.le_trans Z0 gr57) (Nat.le_of_eq g56.symm)
  have V_b56 : Arf Z h56 b56 k56 .int (3 : Int32) (fun _ => (.int (0 : Int32))) := A56
  have lt_b56 := V_b56.lt
  have H58 := ((H53.wr W55).ext E56)
  have H59 := (((((((((((((((((((((((F_reached_a1.ext E2).other W5 (Or.inr (slot_ne (Or.inl (hw _ (List.mem_of_getElem? (i := 53) rfl))) (Or.inl (hw _ (List.mem_of_getElem? (i := 22) rfl))) (by decide) (t := (.array .int)) (t' := (.array .int)) (by decide) (by decide)))).ext E6).other W9 (Or.inr (slot_ne (Or.inl (hw _ (List.mem_of_getElem? (i := 53) rfl))) (Or.inl (hw _ (List.mem_of_getElem? (i := 24) rfl))) (by decide) (t := (.array .int)) (t' := (.array .int)) (by decide) (by decide)))).ext E10).other W14 (Or.inr (slot_ne (Or.inl (hw _ (List.mem_of_getElem? (i := 53) rfl))) (Or.inl (hw _ (List.mem_of_getElem? (i := 28) rfl))) (by decide) (t := (.array .int)) (t' := (.array (.object "com/example/tracewarden/tracewarden/engine/Zone"))) (by decide) (by decide)))).ext E15).other W19 (Or.inr (slot_ne (Or.inl (hw _ (List.mem_of_getElem? (i := 53) rfl))) (Or.inl (hw _ (List.mem_of_getElem? (i := 30) rfl))) (by decide) (t := (.array .int)) (t' := (.array .int)) (by decide) (by decide)))).ext E20).other W24 (Or.inr (slot_ne (Or.inl (hw _ (List.mem_of_getElem? (i := 53) rfl))) (Or.inl (hw _ (List.mem_of_getElem? (i := 33) rfl))) (by decide) (t := (.array .int)) (t' := (.array .boolean)) (by decide) (by decide)))).ext E25).other W29 (Or.inr (slot_ne (Or.inl (hw _ (List.mem_of_getElem? (i := 53) rfl))) (Or.inl (hw _ (List.mem_of_getElem? (i := 35) rfl))) (by decide) (t := (.array .int)) (t' := (.array .int)) (by decide) (by decide)))).ext E30).other W34 (Or.inr (slot_ne (Or.inl (hw _ (List.mem_of_getElem? (i := 53) rfl))) (Or.inl (hw _ (List.mem_of_getElem? (i := 39) rfl))) (by decide) (t := (.array .int)) (t' := (.array (.object "com/example/tracewarden/tracewarden/engine/SearchTuples$Event"))) (by decide) (by decide)))).ext E35).other W39 (Or.inr (slot_ne (Or.inl (hw _ (List.mem_of_getElem? (i := 53) rfl))) (Or.inl (hw _ (List.mem_of_getElem? (i := 41) rfl))) (by decide) (t := (.array .int)) (t' := (.array .int)) (by decide) (by decide)))).ext E40).other W44 (Or.inr (slot_ne (Or.inl (hw _ (List.mem_of_getElem? (i := 53) rfl))) (Or.inl (hw _ (List.mem_of_getElem? (i := 43) rfl))) (by decide) (t := (.array .int)) (t' := (.array .int)) (by decide) (by decide)))).other W47 (Or.inr (slot_ne (Or.inl (hw _ (List.mem_of_getElem? (i := 53) rfl))) (Or.inr (hw _ (List.mem_of_getElem? (i := 45) rfl))) (by decide) (t := (.array .int)) (t' := (.object "com/example/tracewarden/tracewarden/engine/SearchBudget")) (by decide) (by decide)))).other W50 (Or.inr (slot_ne (Or.inl (hw _ (List.mem_of_getElem? (i := 53) rfl))) (Or.inl (hw _ (List.mem_of_getElem? (i := 47) rfl))) (by decide) (t := (.array .int)) (t' := .int) (by decide) (by decide)))).ext E51).other W55 (Or.inr (slot_ne (Or.inl (hw _ (List.mem_of_getElem? (i := 53) rfl))) (Or.inl (hw _ (List.mem_of_getElem? (i := 51) rfl))) (by decide) (t := (.array .int)) (t' := (.array (.array .int))) (by decide) (by decide)))).ext E56)
  refine Gk.putF X56 hx hZ hown (host := "") (Or.inl (hw _ (List.mem_of_getElem? (i := 52) rfl))) Via.refl e56 H59 H58 (Or.inl (hw _ (List.mem_of_getElem? (i := 53) rfl))) (hw _ (List.mem_of_getElem? (i := 3) rfl)) (ty := (.array .int)) (by decide) rfl rfl (hb hby d3_103) ?_
  intro T60 h60 X60 e60 W60
  have Fw60 := H59.same W60
  have N60 := Fr.snoc X60 N55 g_a1
  refine Gk.aloadN X60 hx (hb hby d3_106) rfl rfl ?_
  refine Gk.iloadN X60 hx (hb hby d3_107) rfl ?_
  have gr62 := (Nat.le_trans (Nat.le_trans gr57 E56.1) (Keep.of_wr W60).1)
  refine Gk.newP X60 hx hZ (hw _ (List.mem_of_getElem? (i := 1) rfl)) e60 (hb hby d3_108) (by decide) (cap := 3) (by decide) (by decide) (by decide) (by decide) rfl ?_
  intro T61 h61 b61 k61 X61 e61 E61 g61 A61 B61
  have g_b61 : n0 ≤ b61 := Nat.le_trans (Nat.le_trans Z0 gr62) (Nat.le_of_eq g61.symm)
  have V_b61 : Arf Z h61 b61 k61 .int (3 : Int32) (fun _ => (.int (0 : Int32))) := A61
  have lt_b61 := V_b61.lt
  have H63 := ((H58.wr W60).ext E61)
  have H64 := (((((((((((((((((((((((((F_taken_a1.ext E2).other W5 (Or.inr (slot_ne (Or.inl (hw _ (List.mem_of_getElem? (i := 55) rfl))) (Or.inl (hw _ (List.mem_of_getElem? (i := 22) rfl))) (by decide) (t := (.array .int)) (t' := (.array .int)) (by decide) (by decide)))).ext E6).other W9 (Or.inr (slot_ne (Or.inl (hw _ (List.mem_of_getElem? (i := 55) rfl))) (Or.inl (hw _ (List.mem_of_getElem? (i := 24) rfl))) (by decide) (t := (.array .int)) (t' := (.array .int)) (by decide) (by decide)))).ext E10).other W14 (Or.inr (slot_ne (Or.inl (hw _ (List.mem_of_getElem? (i := 55) rfl))) (Or.inl (hw _ (List.mem_of_getElem? (i := 28) rfl))) (by decide) (t := (.array .int)) (t' := (.array (.object "com/example/tracewarden/tracewarden/engine/Zone"))) (by decide) (by decide)))).ext E15).other W19 (Or.inr (slot_ne (Or.inl (hw _ (List.mem_of_getElem? (i := 55) rfl))) (Or.inl (hw _ (List.mem_of_getElem? (i := 30) rfl))) (by decide) (t := (.array .int)) (t' := (.array .int)) (by decide) (by decide)))).ext E20).other W24 (Or.inr (slot_ne (Or.inl (hw _ (List.mem_of_getElem? (i := 55) rfl))) (Or.inl (hw _ (List.mem_of_getElem? (i := 33) rfl))) (by decide) (t := (.array .int)) (t' := (.array .boolean)) (by decide) (by decide)))).ext E25).other W29 (Or.inr (slot_ne (Or.inl (hw _ (List.mem_of_getElem? (i := 55) rfl))) (Or.inl (hw _ (List.mem_of_getElem? (i := 35) rfl))) (by decide) (t := (.array .int)) (t' := (.array .int)) (by decide) (by decide)))).ext E30).other W34 (Or.inr (slot_ne (Or.inl (hw _ (List.mem_of_getElem? (i := 55) rfl))) (Or.inl (hw _ (List.mem_of_getElem? (i := 39) rfl))) (by decide) (t := (.array .int)) (t' := (.array (.object "com/example/tracewarden/tracewarden/engine/SearchTuples$Event"))) (by decide) (by decide)))).ext E35).other W39 (Or.inr (slot_ne (Or.inl (hw _ (List.mem_of_getElem? (i := 55) rfl))) (Or.inl (hw _ (List.mem_of_getElem? (i := 41) rfl))) (by decide) (t := (.array .int)) (t' := (.array .int)) (by decide) (by decide)))).ext E40).other W44 (Or.inr (slot_ne (Or.inl (hw _ (List.mem_of_getElem? (i := 55) rfl))) (Or.inl (hw _ (List.mem_of_getElem? (i := 43) rfl))) (by decide) (t := (.array .int)) (t' := (.array .int)) (by decide) (by decide)))).other W47 (Or.inr (slot_ne (Or.inl (hw _ (List.mem_of_getElem? (i := 55) rfl))) (Or.inr (hw _ (List.mem_of_getElem? (i := 45) rfl))) (by decide) (t := (.array .int)) (t' := (.object "com/example/tracewarden/tracewarden/engine/SearchBudget")) (by decide) (by decide)))).other W50 (Or.inr (slot_ne (Or.inl (hw _ (List.mem_of_getElem? (i := 55) rfl))) (Or.inl (hw _ (List.mem_of_getElem? (i := 47) rfl))) (by decide) (t := (.array .int)) (t' := .int) (by decide) (by decide)))).ext E51).other W55 (Or.inr (slot_ne (Or.inl (hw _ (List.mem_of_getElem? (i := 55) rfl))) (Or.inl (hw _ (List.mem_of_getElem? (i := 51) rfl))) (by decide) (t := (.array .int)) (t' := (.array (.array .int))) (by decide) (by decide)))).ext E56).other W60 (Or.inr (slot_ne (Or.inl (hw _ (List.mem_of_getElem? (i := 55) rfl))) (Or.inl (hw _ (List.mem_of_getElem? (i := 53) rfl))) (by decide) (t := (.array .int)) (t' := (.array .int)) (by decide) (by decide)))).ext E61)
  refine Gk.putF X61 hx hZ hown (host := "") (Or.inl (hw _ (List.mem_of_getElem? (i := 54) rfl))) Via.refl e61 H64 H63 (Or.inl (hw _ (List.mem_of_getElem? (i := 55) rfl))) (hw _ (List.mem_of_getElem? (i := 3) rfl)) (ty := (.array .int)) (by decide) rfl rfl (hb hby d3_110) ?_
  intro T65 h65 X65 e65 W65
  have Fw65 := H64.same W65
  have N65 := Fr.snoc X65 N60 g_a1
  have la1_ : a1 < b51 := (Nat.lt_of_lt_of_le E_a1.lt (Nat.le_trans gr52 (Nat.le_of_eq g51.symm)))
  have Rw66 : ∀ i, i < 3 → Arf Z h65 (b51 + 1 + i) c51 .int (8 : Int32) (fun j => .int ((fun _ _ => (0 : Int32)) i j)) := fun i_ hi_ => ((((((Rw51 i_ hi_).other W55 (own_ra la1_)).ext E56).other W60 (own_ra la1_)).ext E61).other W65 (own_ra la1_))
  have gr67 := (Nat.le_trans (Nat.le_trans (Keep.of_wr W44).1 (Keep.of_wr W47).1) (Keep.of_wr W50).1)
  have H68 := (((((((Fw47.other W50 (Or.inr (slot_ne (Or.inr (hw _ (List.mem_of_getElem? (i := 45) rfl))) (Or.inl (hw _ (List.mem_of_getElem? (i := 47) rfl))) (by decide) (t := (.object "com/example/tracewarden/tracewarden/engine/SearchBudget")) (t' := .int) (by decide) (by decide)))).ext E51).other W55 (Or.inr (slot_ne (Or.inr (hw _ (List.mem_of_getElem? (i := 45) rfl))) (Or.inl (hw _ (List.mem_of_getElem? (i := 51) rfl))) (by decide) (t := (.object "com/example/tracewarden/tracewarden/engine/SearchBudget")) (t' := (.array (.array .int))) (by decide) (by decide)))).ext E56).other W60 (Or.inr (slot_ne (Or.inr (hw _ (List.mem_of_getElem? (i := 45) rfl))) (Or.inl (hw _ (List.mem_of_getElem? (i := 53) rfl))) (by decide) (t := (.object "com/example/tracewarden/tracewarden/engine/SearchBudget")) (t' := (.array .int)) (by decide) (by decide)))).ext E61).other W65 (Or.inr (slot_ne (Or.inr (hw _ (List.mem_of_getElem? (i := 45) rfl))) (Or.inl (hw _ (List.mem_of_getElem? (i := 55) rfl))) (by decide) (t := (.object "com/example/tracewarden/tracewarden/engine/SearchBudget")) (t' := (.array .int)) (by decide) (by decide))))
  have H69 := ((((((((((((((((((((((((Fw5.ext E6).other W9 (Or.inr (slot_ne (Or.inl (hw _ (List.mem_of_getElem? (i := 22) rfl))) (Or.inl (hw _ (List.mem_of_getElem? (i := 24) rfl))) (by decide) (t := (.array .int)) (t' := (.array .int)) (by decide) (by decide)))).ext E10).other W14 (Or.inr (slot_ne (Or.inl (hw _ (List.mem_of_getElem? (i := 22) rfl))) (Or.inl (hw _ (List.mem_of_getElem? (i := 28) rfl))) (by decide) (t := (.array .int)) (t' := (.array (.object "com/example/tracewarden/tracewarden/engine/Zone"))) (by decide) (by decide)))).ext E15).other W19 (Or.inr (slot_ne (Or.inl (hw _ (List.mem_of_getElem? (i := 22) rfl))) (Or.inl (hw _ (List.mem_of_getElem? (i := 30) rfl))) (by decide) (t := (.array .int)) (t' := (.array .int)) (by decide) (by decide)))).ext E20).other W24 (Or.inr (slot_ne (Or.inl (hw _ (List.mem_of_getElem? (i := 22) rfl))) (Or.inl (hw _ (List.mem_of_getElem? (i := 33) rfl))) (by decide) (t := (.array .int)) (t' := (.array .boolean)) (by decide) (by decide)))).ext E25).other W29 (Or.inr (slot_ne (Or.inl (hw _ (List.mem_of_getElem? (i := 22) rfl))) (Or.inl (hw _ (List.mem_of_getElem? (i := 35) rfl))) (by decide) (t := (.array .int)) (t' := (.array .int)) (by decide) (by decide)))).ext E30).other W34 (Or.inr (slot_ne (Or.inl (hw _ (List.mem_of_getElem? (i := 22) rfl))) (Or.inl (hw _ (List.mem_of_getElem? (i := 39) rfl))) (by decide) (t := (.array .int)) (t' := (.array (.object "com/example/tracewarden/tracewarden/engine/SearchTuples$Event"))) (by decide) (by decide)))).ext E35).other W39 (Or.inr (slot_ne (Or.inl (hw _ (List.mem_of_getElem? (i := 22) rfl))) (Or.inl (hw _ (List.mem_of_getElem? (i := 41) rfl))) (by decide) (t := (.array .int)) (t' := (.array .int)) (by decide) (by decide)))).ext E40).other W44 (Or.inr (slot_ne (Or.inl (hw _ (List.mem_of_getElem? (i := 22) rfl))) (Or.inl (hw _ (List.mem_of_getElem? (i := 43) rfl))) (by decide) (t := (.array .int)) (t' := (.array .int)) (by decide) (by decide)))).other W47 (Or.inr (slot_ne (Or.inl (hw _ (List.mem_of_getElem? (i := 22) rfl))) (Or.inr (hw _ (List.mem_of_getElem? (i := 45) rfl))) (by decide) (t := (.array .int)) (t' := (.object "com/example/tracewarden/tracewarden/engine/SearchBudget")) (by decide) (by decide)))).other W50 (Or.inr (slot_ne (Or.inl (hw _ (List.mem_of_getElem? (i := 22) rfl))) (Or.inl (hw _ (List.mem_of_getElem? (i := 47) rfl))) (by decide) (t := (.array .int)) (t' := .int) (by decide) (by decide)))).ext E51).other W55 (Or.inr (slot_ne (Or.inl (hw _ (List.mem_of_getElem? (i := 22) rfl))) (Or.inl (hw _ (List.mem_of_getElem? (i := 51) rfl))) (by decide) (t := (.array .int)) (t' := (.array (.array .int))) (by decide) (by decide)))).ext E56).other W60 (Or.inr (slot_ne (Or.inl (hw _ (List.mem_of_getElem? (i := 22) rfl))) (Or.inl (hw _ (List.mem_of_getElem? (i := 53) rfl))) (by decide) (t := (.array .int)) (t' := (.array .int)) (by decide) (by decide)))).ext E61).other W65 (Or.inr (slot_ne (Or.inl (hw _ (List.mem_of_getElem? (i := 22) rfl))) (Or.inl (hw _ (List.mem_of_getElem? (i := 55) rfl))) (by decide) (t := (.array .int)) (t' := (.array .int)) (by decide) (by decide))))
  have H70 := ((((((((((((((((((((((Fw9.ext E10).other W14 (Or.inr (slot_ne (Or.inl (hw _ (List.mem_of_getElem? (i := 24) rfl))) (Or.inl (hw _ (List.mem_of_getElem? (i := 28) rfl))) (by decide) (t := (.array .int)) (t' := (.array (.object "com/example/tracewarden/tracewarden/engine/Zone"))) (by decide) (by decide)))).ext E15).other W19 (Or.inr (slot_ne (Or.inl (hw _ (List.mem_of_getElem? (i := 24) rfl))) (Or.inl (hw _ (List.mem_of_getElem? (i := 30) rfl))) (by decide) (t := (.array .int)) (t' := (.array .int)) (by decide) (by decide)))).ext E20).other W24 (Or.inr (slot_ne (Or.inl (hw _ (List.mem_of_getElem? (i := 24) rfl))) (Or.inl (hw _ (List.mem_of_getElem? (i := 33) rfl))) (by decide) (t := (.array .int)) (t' := (.array .boolean)) (by decide) (by decide)))).ext E25).other W29 (Or.inr (slot_ne (Or.inl (hw _ (List.mem_of_getElem? (i := 24) rfl))) (Or.inl (hw _ (List.mem_of_getElem? (i := 35) rfl))) (by decide) (t := (.array .int)) (t' := (.array .int)) (by decide) (by decide)))).ext E30).other W34 (Or.inr (slot_ne (Or.inl (hw _ (List.mem_of_getElem? (i := 24) rfl))) (Or.inl (hw _ (List.mem_of_getElem? (i := 39) rfl))) (by decide) (t := (.array .int)) (t' := (.array (.object "com/example/tracewarden/tracewarden/engine/SearchTuples$Event"))) (by decide) (by decide)))).ext E35).other W39 (Or.inr (slot_ne (Or.inl (hw _ (List.mem_of_getElem? (i := 24) rfl))) (Or.inl (hw _ (List.mem_of_getElem? (i := 41) rfl))) (by decide) (t := (.array .int)) (t' := (.array .int)) (by decide) (by decide)))).ext E40).other W44 (Or.inr (slot_ne (Or.inl (hw _ (List.mem_of_getElem? (i := 24) rfl))) (Or.inl (hw _ (List.mem_of_getElem? (i := 43) rfl))) (by decide) (t := (.array .int)) (t' := (.array .int)) (by decide) (by decide)))).other W47 (Or.inr (slot_ne (Or.inl (hw _ (List.mem_of_getElem? (i := 24) rfl))) (Or.inr (hw _ (List.mem_of_getElem? (i := 45) rfl))) (by decide) (t := (.array .int)) (t' := (.object "com/example/tracewarden/tracewarden/engine/SearchBudget")) (by decide) (by decide)))).other W50 (Or.inr (slot_ne (Or.inl (hw _ (List.mem_of_getElem? (i := 24) rfl))) (Or.inl (hw _ (List.mem_of_getElem? (i := 47) rfl))) (by decide) (t := (.array .int)) (t' := .int) (by decide) (by decide)))).ext E51).other W55 (Or.inr (slot_ne (Or.inl (hw _ (List.mem_of_getElem? (i := 24) rfl))) (Or.inl (hw _ (List.mem_of_getElem? (i := 51) rfl))) (by decide) (t := (.array .int)) (t' := (.array (.array .int))) (by decide) (by decide)))).ext E56).other W60 (Or.inr (slot_ne (Or.inl (hw _ (List.mem_of_getElem? (i := 24) rfl))) (Or.inl (hw _ (List.mem_of_getElem? (i := 53) rfl))) (by decide) (t := (.array .int)) (t' := (.array .int)) (by decide) (by decide)))).ext E61).other W65 (Or.inr (slot_ne (Or.inl (hw _ (List.mem_of_getElem? (i := 24) rfl))) (Or.inl (hw _ (List.mem_of_getElem? (i := 55) rfl))) (by decide) (t := (.array .int)) (t' := (.array .int)) (by decide) (by decide))))
  have H71 := ((((((((((((((((((((Fw14.ext E15).other W19 (Or.inr (slot_ne (Or.inl (hw _ (List.mem_of_getElem? (i := 28) rfl))) (Or.inl (hw _ (List.mem_of_getElem? (i := 30) rfl))) (by decide) (t := (.array (.object "com/example/tracewarden/tracewarden/engine/Zone"))) (t' := (.array .int)) (by decide) (by decide)))).ext E20).other W24 (Or.inr (slot_ne (Or.inl (hw _ (List.mem_of_getElem? (i := 28) rfl))) (Or.inl (hw _ (List.mem_of_getElem? (i := 33) rfl))) (by decide) (t := (.array (.object "com/example/tracewarden/tracewarden/engine/Zone"))) (t' := (.array .boolean)) (by decide) (by decide)))).ext E25).other W29 (Or.inr (slot_ne (Or.inl (hw _ (List.mem_of_getElem? (i := 28) rfl))) (Or.inl (hw _ (List.mem_of_getElem? (i := 35) rfl))) (by decide) (t := (.array (.object "com/example/tracewarden/tracewarden/engine/Zone"))) (t' := (.array .int)) (by decide) (by decide)))).ext E30).other W34 (Or.inr (slot_ne (Or.inl (hw _ (List.mem_of_getElem? (i := 28) rfl))) (Or.inl (hw _ (List.mem_of_getElem? (i := 39) rfl))) (by decide) (t := (.array (.object "com/example/tracewarden/tracewarden/engine/Zone"))) (t' := (.array (.object "com/example/tracewarden/tracewarden/engine/SearchTuples$Event"))) (by decide) (by decide)))).ext E35).other W39 (Or.inr (slot_ne (Or.inl (hw _ (List.mem_of_getElem? (i := 28) rfl))) (Or.inl (hw _ (List.mem_of_getElem? (i := 41) rfl))) (by decide) (t := (.array (.object "com/example/tracewarden/tracewarden/engine/Zone"))) (t' := (.array .int)) (by decide) (by decide)))).ext E40).other W44 (Or.inr (slot_ne (Or.inl (hw _ (List.mem_of_getElem? (i := 28) rfl))) (Or.inl (hw _ (List.mem_of_getElem? (i := 43) rfl))) (by decide) (t := (.array (.object "com/example/tracewarden/tracewarden/engine/Zone"))) (t' := (.array .int)) (by decide) (by decide)))).other W47 (Or.inr (slot_ne (Or.inl (hw _ (List.mem_of_getElem? (i := 28) rfl))) (Or.inr (hw _ (List.mem_of_getElem? (i := 45) rfl))) (by decide) (t := (.array (.object "com/example/tracewarden/tracewarden/engine/Zone"))) (t' := (.object "com/example/tracewarden/tracewarden/engine/SearchBudget")) (by decide) (by decide)))).other W50 (Or.inr (slot_ne (Or.inl (hw _ (List.mem_of_getElem? (i := 28) rfl))) (Or.inl (hw _ (List.mem_of_getElem? (i := 47) rfl))) (by decide) (t := (.array (.object "com/example/tracewarden/tracewarden/engine/Zone"))) (t' := .int) (by decide) (by decide)))).ext E51).other W55 (Or.inr (slot_ne (Or.inl (hw _ (List.mem_of_getElem? (i := 28) rfl))) (Or.inl (hw _ (List.mem_of_getElem? (i := 51) rfl))) (by decide) (t := (.array (.object "com/example/tracewarden/tracewarden/engine/Zone"))) (t' := (.array (.array .int))) (by decide) (by decide)))).ext E56).other W60 (Or.inr (slot_ne (Or.inl (hw _ (List.mem_of_getElem? (i := 28) rfl))) (Or.inl (hw _ (List.mem_of_getElem? (i := 53) rfl))) (by decide) (t := (.array (.object "com/example/tracewarden/tracewarden/engine/Zone"))) (t' := (.array .int)) (by decide) (by decide)))).ext E61).other W65 (Or.inr (slot_ne (Or.inl (hw _ (List.mem_of_getElem? (i := 28) rfl))) (Or.inl (hw _ (List.mem_of_getElem? (i := 55) rfl))) (by decide) (t := (.array (.object "com/example/tracewarden/tracewarden/engine/Zone"))) (t' := (.array .int)) (by decide) (by decide))))
  have H72 := ((((((((((((((((((Fw19.ext E20).other W24 (Or.inr (slot_ne (Or.inl (hw _ (List.mem_of_getElem? (i := 30) rfl))) (Or.inl (hw _ (List.mem_of_getElem? (i := 33) rfl))) (by decide) (t := (.array .int)) (t' := (.array .boolean)) (by decide) (by decide)))).ext E25).other W29 (Or.inr (slot_ne (Or.inl (hw _ (List.mem_of_getElem? (i := 30) rfl))) (Or.inl (hw _ (List.mem_of_getElem? (i := 35) rfl))) (by decide) (t := (.array .int)) (t' := (.array .int)) (by decide) (by decide)))).ext E30).other W34 (Or.inr (slot_ne (Or.inl (hw _ (List.mem_of_getElem? (i := 30) rfl))) (Or.inl (hw _ (List.mem_of_getElem? (i := 39) rfl))) (by decide) (t := (.array .int)) (t' := (.array (.object "com/example/tracewarden/tracewarden/engine/SearchTuples$Event"))) (by decide) (by decide)))).ext E35).other W39 (Or.inr (slot_ne (Or.inl (hw _ (List.mem_of_getElem? (i := 30) rfl))) (Or.inl (hw _ (List.mem_of_getElem? (i := 41) rfl))) (by decide) (t := (.array .int)) (t' := (.array .int)) (by decide) (by decide)))).ext E40).other W44 (Or.inr (slot_ne (Or.inl (hw _ (List.mem_of_getElem? (i := 30) rfl))) (Or.inl (hw _ (List.mem_of_getElem? (i := 43) rfl))) (by decide) (t := (.array .int)) (t' := (.array .int)) (by decide) (by decide)))).other W47 (Or.inr (slot_ne (Or.inl (hw _ (List.mem_of_getElem? (i := 30) rfl))) (Or.inr (hw _ (List.mem_of_getElem? (i := 45) rfl))) (by decide) (t := (.array .int)) (t' := (.object "com/example/tracewarden/tracewarden/engine/SearchBudget")) (by decide) (by decide)))).other W50 (Or.inr (slot_ne (Or.inl (hw _ (List.mem_of_getElem? (i := 30) rfl))) (Or.inl (hw _ (List.mem_of_getElem? (i := 47) rfl))) (by decide) (t := (.array .int)) (t' := .int) (by decide) (by decide)))).ext E51).other W55 (Or.inr (slot_ne (Or.inl (hw _ (List.mem_of_getElem? (i := 30) rfl))) (Or.inl (hw _ (List.mem_of_getElem? (i := 51) rfl))) (by decide) (t := (.array .int)) (t' := (.array (.array .int))) (by decide) (by decide)))).ext E56).other W60 (Or.inr (slot_ne (Or.inl (hw _ (List.mem_of_getElem? (i := 30) rfl))) (Or.inl (hw _ (List.mem_of_getElem? (i := 53) rfl))) (by decide) (t := (.array .int)) (t' := (.array .int)) (by decide) (by decide)))).ext E61).other W65 (Or.inr (slot_ne (Or.inl (hw _ (List.mem_of_getElem? (i := 30) rfl))) (Or.inl (hw _ (List.mem_of_getElem? (i := 55) rfl))) (by decide) (t := (.array .int)) (t' := (.array .int)) (by decide) (by decide))))
  have H73 := ((((((((((((((((Fw24.ext E25).other W29 (Or.inr (slot_ne (Or.inl (hw _ (List.mem_of_getElem? (i := 33) rfl))) (Or.inl (hw _ (List.mem_of_getElem? (i := 35) rfl))) (by decide) (t := (.array .boolean)) (t' := (.array .int)) (by decide) (by decide)))).ext E30).other W34 (Or.inr (slot_ne (Or.inl (hw _ (List.mem_of_getElem? (i := 33) rfl))) (Or.inl (hw _ (List.mem_of_getElem? (i := 39) rfl))) (by decide) (t := (.array .boolean)) (t' := (.array (.object "com/example/tracewarden/tracewarden/engine/SearchTuples$Event"))) (by decide) (by decide)))).ext E35).other W39 (Or.inr (slot_ne (Or.inl (hw _ (List.mem_of_getElem? (i := 33) rfl))) (Or.inl (hw _ (List.mem_of_getElem? (i := 41) rfl))) (by decide) (t := (.array .boolean)) (t' := (.array .int)) (by decide) (by decide)))).ext E40).other W44 (Or.inr (slot_ne (Or.inl (hw _ (List.mem_of_getElem? (i := 33) rfl))) (Or.inl (hw _ (List.mem_of_getElem? (i := 43) rfl))) (by decide) (t := (.array .boolean)) (t' := (.array .int)) (by decide) (by decide)))).other W47 (Or.inr (slot_ne (Or.inl (hw _ (List.mem_of_getElem? (i := 33) rfl))) (Or.inr (hw _ (List.mem_of_getElem? (i := 45) rfl))) (by decide) (t := (.array .boolean)) (t' := (.object "com/example/tracewarden/tracewarden/engine/SearchBudget")) (by decide) (by decide)))).other W50 (Or.inr (slot_ne (Or.inl (hw _ (List.mem_of_getElem? (i := 33) rfl))) (Or.inl (hw _ (List.mem_of_getElem? (i := 47) rfl))) (by decide) (t := (.array .boolean)) (t' := .int) (by decide) (by decide)))).ext E51).other W55 (Or.inr (slot_ne (Or.inl (hw _ (List.mem_of_getElem? (i := 33) rfl))) (Or.inl (hw _ (List.mem_of_getElem? (i := 51) rfl))) (by decide) (t := (.array .boolean)) (t' := (.array (.array .int))) (by decide) (by decide)))).ext E56).other W60 (Or.inr (slot_ne (Or.inl (hw _ (List.mem_of_getElem? (i := 33) rfl))) (Or.inl (hw _ (List.mem_of_getElem? (i := 53) rfl))) (by decide) (t := (.array .boolean)) (t' := (.array .int)) (by decide) (by decide)))).ext E61).other W65 (Or.inr (slot_ne (Or.inl (hw _ (List.mem_of_getElem? (i := 33) rfl))) (Or.inl (hw _ (List.mem_of_getElem? (i := 55) rfl))) (by decide) (t := (.array .boolean)) (t' := (.array .int)) (by decide) (by decide))))
  have H74 := ((((((((((((((Fw29.ext E30).other W34 (Or.inr (slot_ne (Or.inl (hw _ (List.mem_of_getElem? (i := 35) rfl))) (Or.inl (hw _ (List.mem_of_getElem? (i := 39) rfl))) (by decide) (t := (.array .int)) (t' := (.array (.object "com/example/tracewarden/tracewarden/engine/SearchTuples$Event"))) (by decide) (by decide)))).ext E35).other W39 (Or.inr (slot_ne (Or.inl (hw _ (List.mem_of_getElem? (i := 35) rfl))) (Or.inl (hw _ (List.mem_of_getElem? (i := 41) rfl))) (by decide) (t := (.array .int)) (t' := (.array .int)) (by decide) (by decide)))).ext E40).other W44 (Or.inr (slot_ne (Or.inl (hw _ (List.mem_of_getElem? (i := 35) rfl))) (Or.inl (hw _ (List.mem_of_getElem? (i := 43) rfl))) (by decide) (t := (.array .int)) (t' := (.array .int)) (by decide) (by decide)))).other W47 (Or.inr (slot_ne (Or.inl (hw _ (List.mem_of_getElem? (i := 35) rfl))) (Or.inr (hw _ (List.mem_of_getElem? (i := 45) rfl))) (by decide) (t := (.array .int)) (t' := (.object "com/example/tracewarden/tracewarden/engine/SearchBudget")) (by decide) (by decide)))).other W50 (Or.inr (slot_ne (Or.inl (hw _ (List.mem_of_getElem? (i := 35) rfl))) (Or.inl (hw _ (List.mem_of_getElem? (i := 47) rfl))) (by decide) (t := (.array .int)) (t' := .int) (by decide) (by decide)))).ext E51).other W55 (Or.inr (slot_ne (Or.inl (hw _ (List.mem_of_getElem? (i := 35) rfl))) (Or.inl (hw _ (List.mem_of_getElem? (i := 51) rfl))) (by decide) (t := (.array .int)) (t' := (.array (.array .int))) (by decide) (by decide)))).ext E56).other W60 (Or.inr (slot_ne (Or.inl (hw _ (List.mem_of_getElem? (i := 35) rfl))) (Or.inl (hw _ (List.mem_of_getElem? (i := 53) rfl))) (by decide) (t := (.array .int)) (t' := (.array .int)) (by decide) (by decide)))).ext E61).other W65 (Or.inr (slot_ne (Or.inl (hw _ (List.mem_of_getElem? (i := 35) rfl))) (Or.inl (hw _ (List.mem_of_getElem? (i := 55) rfl))) (by decide) (t := (.array .int)) (t' := (.array .int)) (by decide) (by decide))))
  have H75 := ((((((((((((Fw34.ext E35).other W39 (Or.inr (slot_ne (Or.inl (hw _ (List.mem_of_getElem? (i := 39) rfl))) (Or.inl (hw _ (List.mem_of_getElem? (i := 41) rfl))) (by decide) (t := (.array (.object "com/example/tracewarden/tracewarden/engine/SearchTuples$Event"))) (t' := (.array .int)) (by decide) (by decide)))).ext E40).other W44 (Or.inr (slot_ne (Or.inl (hw _ (List.mem_of_getElem? (i := 39) rfl))) (Or.inl (hw _ (List.mem_of_getElem? (i := 43) rfl))) (by decide) (t := (.array (.object "com/example/tracewarden/tracewarden/engine/SearchTuples$Event"))) (t' := (.array .int)) (by decide) (by decide)))).other W47 (Or.inr (slot_ne (Or.inl (hw _ (List.mem_of_getElem? (i := 39) rfl))) (Or.inr (hw _ (List.mem_of_getElem? (i := 45) rfl))) (by decide) (t := (.array (.object "com/example/tracewarden/tracewarden/engine/SearchTuples$Event"))) (t' := (.object "com/example/tracewarden/tracewarden/engine/SearchBudget")) (by decide) (by decide)))).other W50 (Or.inr (slot_ne (Or.inl (hw _ (List.mem_of_getElem? (i := 39) rfl))) (Or.inl (hw _ (List.mem_of_getElem? (i := 47) rfl))) (by decide) (t := (.array (.object "com/example/tracewarden/tracewarden/engine/SearchTuples$Event"))) (t' := .int) (by decide) (by decide)))).ext E51).other W55 (Or.inr (slot_ne (Or.inl (hw _ (List.mem_of_getElem? (i := 39) rfl))) (Or.inl (hw _ (List.mem_of_getElem? (i := 51) rfl))) (by decide) (t := (.array (.object "com/example/tracewarden/tracewarden/engine/SearchTuples$Event"))) (t' := (.array (.array .int))) (by decide) (by decide)))).ext E56).other W60 (Or.inr (slot_ne (Or.inl (hw _ (List.mem_of_getElem? (i := 39) rfl))) (Or.inl (hw _ (List.mem_of_getElem? (i := 53) rfl))) (by decide) (t := (.array (.object "com/example/tracewarden/tracewarden/engine/SearchTuples$Event"))) (t' := (.array .int)) (by decide) (by decide)))).ext E61).other W65 (Or.inr (slot_ne (Or.inl (hw _ (List.mem_of_getElem? (i := 39) rfl))) (Or.inl (hw _ (List.mem_of_getElem? (i := 55) rfl))) (by decide) (t := (.array (.object "com/example/tracewarden/tracewarden/engine/SearchTuples$Event"))) (t' := (.array .int)) (by decide) (by decide))))
  have H76 := ((((((((((Fw39.ext E40).other W44 (Or.inr (slot_ne (Or.inl (hw _ (List.mem_of_getElem? (i := 41) rfl))) (Or.inl (hw _ (List.mem_of_getElem? (i := 43) rfl))) (by decide) (t := (.array .int)) (t' := (.array .int)) (by decide) (by decide)))).other W47 (Or.inr (slot_ne (Or.inl (hw _ (List.mem_of_getElem? (i := 41) rfl))) (Or.inr (hw _ (List.mem_of_getElem? (i := 45) rfl))) (by decide) (t := (.array .int)) (t' := (.object "com/example/tracewarden/tracewarden/engine/SearchBudget")) (by decide) (by decide)))).other W50 (Or.inr (slot_ne (Or.inl (hw _ (List.mem_of_getElem? (i := 41) rfl))) (Or.inl (hw _ (List.mem_of_getElem? (i := 47) rfl))) (by decide) (t := (.array .int)) (t' := .int) (by decide) (by decide)))).ext E51).other W55 (Or.inr (slot_ne (Or.inl (hw _ (List.mem_of_getElem? (i := 41) rfl))) (Or.inl (hw _ (List.mem_of_getElem? (i := 51) rfl))) (by decide) (t := (.array .int)) (t' := (.array (.array .int))) (by decide) (by decide)))).ext E56).other W60 (Or.inr (slot_ne (Or.inl (hw _ (List.mem_of_getElem? (i := 41) rfl))) (Or.inl (hw _ (List.mem_of_getElem? (i := 53) rfl))) (by decide) (t := (.array .int)) (t' := (.array .int)) (by decide) (by decide)))).ext E61).other W65 (Or.inr (slot_ne (Or.inl (hw _ (List.mem_of_getElem? (i := 41) rfl))) (Or.inl (hw _ (List.mem_of_getElem? (i := 55) rfl))) (by decide) (t := (.array .int)) (t' := (.array .int)) (by decide) (by decide))))
  have H77 := ((((((((Fw44.other W47 (Or.inr (slot_ne (Or.inl (hw _ (List.mem_of_getElem? (i := 43) rfl))) (Or.inr (hw _ (List.mem_of_getElem? (i := 45) rfl))) (by decide) (t := (.array .int)) (t' := (.object "com/example/tracewarden/tracewarden/engine/SearchBudget")) (by decide) (by decide)))).other W50 (Or.inr (slot_ne (Or.inl (hw _ (List.mem_of_getElem? (i := 43) rfl))) (Or.inl (hw _ (List.mem_of_getElem? (i := 47) rfl))) (by decide) (t := (.array .int)) (t' := .int) (by decide) (by decide)))).ext E51).other W55 (Or.inr (slot_ne (Or.inl (hw _ (List.mem_of_getElem? (i := 43) rfl))) (Or.inl (hw _ (List.mem_of_getElem? (i := 51) rfl))) (by decide) (t := (.array .int)) (t' := (.array (.array .int))) (by decide) (by decide)))).ext E56).other W60 (Or.inr (slot_ne (Or.inl (hw _ (List.mem_of_getElem? (i := 43) rfl))) (Or.inl (hw _ (List.mem_of_getElem? (i := 53) rfl))) (by decide) (t := (.array .int)) (t' := (.array .int)) (by decide) (by decide)))).ext E61).other W65 (Or.inr (slot_ne (Or.inl (hw _ (List.mem_of_getElem? (i := 43) rfl))) (Or.inl (hw _ (List.mem_of_getElem? (i := 55) rfl))) (by decide) (t := (.array .int)) (t' := (.array .int)) (by decide) (by decide))))
  have H78 := ((((Fw55.ext E56).other W60 (Or.inr (slot_ne (Or.inl (hw _ (List.mem_of_getElem? (i := 51) rfl))) (Or.inl (hw _ (List.mem_of_getElem? (i := 53) rfl))) (by decide) (t := (.array (.array .int))) (t' := (.array .int)) (by decide) (by decide)))).ext E61).other W65 (Or.inr (slot_ne (Or.inl (hw _ (List.mem_of_getElem? (i := 51) rfl))) (Or.inl (hw _ (List.mem_of_getElem? (i := 55) rfl))) (by decide) (t := (.array (.array .int))) (t' := (.array .int)) (by decide) (by decide))))
  have H79 := ((Fw60.ext E61).other W65 (Or.inr (slot_ne (Or.inl (hw _ (List.mem_of_getElem? (i := 53) rfl))) (Or.inl (hw _ (List.mem_of_getElem? (i := 55) rfl))) (by decide) (t := (.array .int)) (t' := (.array .int)) (by decide) (by decide))))
  have H80 := ((((((Fw50.ext E51).other W55 (Or.inr (slot_ne (Or.inl (hw _ (List.mem_of_getElem? (i := 47) rfl))) (Or.inl (hw _ (List.mem_of_getElem? (i := 51) rfl))) (by decide) (t := .int) (t' := (.array (.array .int))) (by decide) (by decide)))).ext E56).other W60 (Or.inr (slot_ne (Or.inl (hw _ (List.mem_of_getElem? (i := 47) rfl))) (Or.inl (hw _ (List.mem_of_getElem? (i := 53) rfl))) (by decide) (t := .int) (t' := (.array .int)) (by decide) (by decide)))).ext E61).other W65 (Or.inr (slot_ne (Or.inl (hw _ (List.mem_of_getElem? (i := 47) rfl))) (Or.inl (hw _ (List.mem_of_getElem? (i := 55) rfl))) (by decide) (t := .int) (t' := (.array .int)) (by decide) (by decide))))
  have H81 := ((((((((((((((((((((((((((F_size.ext E2).other W5 (Or.inr (slot_ne (Or.inl (hw _ (List.mem_of_getElem? (i := 68) rfl))) (Or.inl (hw _ (List.mem_of_getElem? (i := 22) rfl))) (by decide) (t := .int) (t' := (.array .int)) (by decide) (by decide)))).ext E6).other W9 (Or.inr (slot_ne (Or.inl (hw _ (List.mem_of_getElem? (i := 68) rfl))) (Or.inl (hw _ (List.mem_of_getElem? (i := 24) rfl))) (by decide) (t := .int) (t' := (.array .int)) (by decide) (by decide)))).ext E10).other W14 (Or.inr (slot_ne (Or.inl (hw _ (List.mem_of_getElem? (i := 68) rfl))) (Or.inl (hw _ (List.mem_of_getElem? (i := 28) rfl))) (by decide) (t := .int) (t' := (.array (.object "com/example/tracewarden/tracewarden/engine/Zone"))) (by decide) (by decide)))).ext E15).other W19 (Or.inr (slot_ne (Or.inl (hw _ (List.mem_of_getElem? (i := 68) rfl))) (Or.inl (hw _ (List.mem_of_getElem? (i := 30) rfl))) (by decide) (t := .int) (t' := (.array .int)) (by decide) (by decide)))).ext E20).other W24 (Or.inr (slot_ne (Or.inl (hw _ (List.mem_of_getElem? (i := 68) rfl))) (Or.inl (hw _ (List.mem_of_getElem? (i := 33) rfl))) (by decide) (t := .int) (t' := (.array .boolean)) (by decide) (by decide)))).ext E25).other W29 (Or.inr (slot_ne (Or.inl (hw _ (List.mem_of_getElem? (i := 68) rfl))) (Or.inl (hw _ (List.mem_of_getElem? (i := 35) rfl))) (by decide) (t := .int) (t' := (.array .int)) (by decide) (by decide)))).ext E30).other W34 (Or.inr (slot_ne (Or.inl (hw _ (List.mem_of_getElem? (i := 68) rfl))) (Or.inl (hw _ (List.mem_of_getElem? (i := 39) rfl))) (by decide) (t := .int) (t' := (.array (.object "com/example/tracewarden/tracewarden/engine/SearchTuples$Event"))) (by decide) (by decide)))).ext E35).other W39 (Or.inr (slot_ne (Or.inl (hw _ (List.mem_of_getElem? (i := 68) rfl))) (Or.inl (hw _ (List.mem_of_getElem? (i := 41) rfl))) (by decide) (t := .int) (t' := (.array .int)) (by decide) (by decide)))).ext E40).other W44 (Or.inr (slot_ne (Or.inl (hw _ (List.mem_of_getElem? (i := 68) rfl))) (Or.inl (hw _ (List.mem_of_getElem? (i := 43) rfl))) (by decide) (t := .int) (t' := (.array .int)) (by decide) (by decide)))).other W47 (Or.inr (slot_ne (Or.inl (hw _ (List.mem_of_getElem? (i := 68) rfl))) (Or.inr (hw _ (List.mem_of_getElem? (i := 45) rfl))) (by decide) (t := .int) (t' := (.object "com/example/tracewarden/tracewarden/engine/SearchBudget")) (by decide) (by decide)))).other W50 (Or.inr (slot_ne (Or.inl (hw _ (List.mem_of_getElem? (i := 68) rfl))) (Or.inl (hw _ (List.mem_of_getElem? (i := 47) rfl))) (by decide) (t := .int) (t' := .int) (by decide) (by decide)))).ext E51).other W55 (Or.inr (slot_ne (Or.inl (hw _ (List.mem_of_getElem? (i := 68) rfl))) (Or.inl (hw _ (List.mem_of_getElem? (i := 51) rfl))) (by decide) (t := .int) (t' := (.array (.array .int))) (by decide) (by decide)))).ext E56).other W60 (Or.inr (slot_ne (Or.inl (hw _ (List.mem_of_getElem? (i := 68) rfl))) (Or.inl (hw _ (List.mem_of_getElem? (i := 53) rfl))) (by decide) (t := .int) (t' := (.array .int)) (by decide) (by decide)))).ext E61).other W65 (Or.inr (slot_ne (Or.inl (hw _ (List.mem_of_getElem? (i := 68) rfl))) (Or.inl (hw _ (List.mem_of_getElem? (i := 55) rfl))) (by decide) (t := .int) (t' := (.array .int)) (by decide) (by decide))))
  have H82 := ((((((((((((((((((((((((((F_lowest.ext E2).other W5 (Or.inr (slot_ne (Or.inl (hw _ (List.mem_of_getElem? (i := 76) rfl))) (Or.inl (hw _ (List.mem_of_getElem? (i := 22) rfl))) (by decide) (t := .int) (t' := (.array .int)) (by decide) (by decide)))).ext E6).other W9 (Or.inr (slot_ne (Or.inl (hw _ (List.mem_of_getElem? (i := 76) rfl))) (Or.inl (hw _ (List.mem_of_getElem? (i := 24) rfl))) (by decide) (t := .int) (t' := (.array .int)) (by decide) (by decide)))).ext E10).other W14 (Or.inr (slot_ne (Or.inl (hw _ (List.mem_of_getElem? (i := 76) rfl))) (Or.inl (hw _ (List.mem_of_getElem? (i := 28) rfl))) (by decide) (t := .int) (t' := (.array (.object "com/example/tracewarden/tracewarden/engine/Zone"))) (by decide) (by decide)))).ext E15).other W19 (Or.inr (slot_ne (Or.inl (hw _ (List.mem_of_getElem? (i := 76) rfl))) (Or.inl (hw _ (List.mem_of_getElem? (i := 30) rfl))) (by decide) (t := .int) (t' := (.array .int)) (by decide) (by decide)))).ext E20).other W24 (Or.inr (slot_ne (Or.inl (hw _ (List.mem_of_getElem? (i := 76) rfl))) (Or.inl (hw _ (List.mem_of_getElem? (i := 33) rfl))) (by decide) (t := .int) (t' := (.array .boolean)) (by decide) (by decide)))).ext E25).other W29 (Or.inr (slot_ne (Or.inl (hw _ (List.mem_of_getElem? (i := 76) rfl))) (Or.inl (hw _ (List.mem_of_getElem? (i := 35) rfl))) (by decide) (t := .int) (t' := (.array .int)) (by decide) (by decide)))).ext E30).other W34 (Or.inr (slot_ne (Or.inl (hw _ (List.mem_of_getElem? (i := 76) rfl))) (Or.inl (hw _ (List.mem_of_getElem? (i := 39) rfl))) (by decide) (t := .int) (t' := (.array (.object "com/example/tracewarden/tracewarden/engine/SearchTuples$Event"))) (by decide) (by decide)))).ext E35).other W39 (Or.inr (slot_ne (Or.inl (hw _ (List.mem_of_getElem? (i := 76) rfl))) (Or.inl (hw _ (List.mem_of_getElem? (i := 41) rfl))) (by decide) (t := .int) (t' := (.array .int)) (by decide) (by decide)))).ext E40).other W44 (Or.inr (slot_ne (Or.inl (hw _ (List.mem_of_getElem? (i := 76) rfl))) (Or.inl (hw _ (List.mem_of_getElem? (i := 43) rfl))) (by decide) (t := .int) (t' := (.array .int)) (by decide) (by decide)))).other W47 (Or.inr (slot_ne (Or.inl (hw _ (List.mem_of_getElem? (i := 76) rfl))) (Or.inr (hw _ (List.mem_of_getElem? (i := 45) rfl))) (by decide) (t := .int) (t' := (.object "com/example/tracewarden/tracewarden/engine/SearchBudget")) (by decide) (by decide)))).other W50 (Or.inr (slot_ne (Or.inl (hw _ (List.mem_of_getElem? (i := 76) rfl))) (Or.inl (hw _ (List.mem_of_getElem? (i := 47) rfl))) (by decide) (t := .int) (t' := .int) (by decide) (by decide)))).ext E51).other W55 (Or.inr (slot_ne (Or.inl (hw _ (List.mem_of_getElem? (i := 76) rfl))) (Or.inl (hw _ (List.mem_of_getElem? (i := 51) rfl))) (by decide) (t := .int) (t' := (.array (.array .int))) (by decide) (by decide)))).ext E56).other W60 (Or.inr (slot_ne (Or.inl (hw _ (List.mem_of_getElem? (i := 76) rfl))) (Or.inl (hw _ (List.mem_of_getElem? (i := 53) rfl))) (by decide) (t := .int) (t' := (.array .int)) (by decide) (by decide)))).ext E61).other W65 (Or.inr (slot_ne (Or.inl (hw _ (List.mem_of_getElem? (i := 76) rfl))) (Or.inl (hw _ (List.mem_of_getElem? (i := 55) rfl))) (by decide) (t := .int) (t' := (.array .int)) (by decide) (by decide))))
  have H83 := ((((((((((((((((((((((((((F_latestFirst.ext E2).other W5 (Or.inr (slot_ne (Or.inl (hw _ (List.mem_of_getElem? (i := 62) rfl))) (Or.inl (hw _ (List.mem_of_getElem? (i := 22) rfl))) (by decide) (t := .boolean) (t' := (.array .int)) (by decide) (by decide)))).ext E6).other W9 (Or.inr (slot_ne (Or.inl (hw _ (List.mem_of_getElem? (i := 62) rfl))) (Or.inl (hw _ (List.mem_of_getElem? (i := 24) rfl))) (by decide) (t := .boolean) (t' := (.array .int)) (by decide) (by decide)))).ext E10).other W14 (Or.inr (slot_ne (Or.inl (hw _ (List.mem_of_getElem? (i := 62) rfl))) (Or.inl (hw _ (List.mem_of_getElem? (i := 28) rfl))) (by decide) (t := .boolean) (t' := (.array (.object "com/example/tracewarden/tracewarden/engine/Zone"))) (by decide) (by decide)))).ext E15).other W19 (Or.inr (slot_ne (Or.inl (hw _ (List.mem_of_getElem? (i := 62) rfl))) (Or.inl (hw _ (List.mem_of_getElem? (i := 30) rfl))) (by decide) (t := .boolean) (t' := (.array .int)) (by decide) (by decide)))).ext E20).other W24 (Or.inr (slot_ne (Or.inl (hw _ (List.mem_of_getElem? (i := 62) rfl))) (Or.inl (hw _ (List.mem_of_getElem? (i := 33) rfl))) (by decide) (t := .boolean) (t' := (.array .boolean)) (by decide) (by decide)))).ext E25).other W29 (Or.inr (slot_ne (Or.inl (hw _ (List.mem_of_getElem? (i := 62) rfl))) (Or.inl (hw _ (List.mem_of_getElem? (i := 35) rfl))) (by decide) (t := .boolean) (t' := (.array .int)) (by decide) (by decide)))).ext E30).other W34 (Or.inr (slot_ne (Or.inl (hw _ (List.mem_of_getElem? (i := 62) rfl))) (Or.inl (hw _ (List.mem_of_getElem? (i := 39) rfl))) (by decide) (t := .boolean) (t' := (.array (.object "com/example/tracewarden/tracewarden/engine/SearchTuples$Event"))) (by decide) (by decide)))).ext E35).other W39 (Or.inr (slot_ne (Or.inl (hw _ (List.mem_of_getElem? (i := 62) rfl))) (Or.inl (hw _ (List.mem_of_getElem? (i := 41) rfl))) (by decide) (t := .boolean) (t' := (.array .int)) (by decide) (by decide)))).ext E40).other W44 (Or.inr (slot_ne (Or.inl (hw _ (List.mem_of_getElem? (i := 62) rfl))) (Or.inl (hw _ (List.mem_of_getElem? (i := 43) rfl))) (by decide) (t := .boolean) (t' := (.array .int)) (by decide) (by decide)))).other W47 (Or.inr (slot_ne (Or.inl (hw _ (List.mem_of_getElem? (i := 62) rfl))) (Or.inr (hw _ (List.mem_of_getElem? (i := 45) rfl))) (by decide) (t := .boolean) (t' := (.object "com/example/tracewarden/tracewarden/engine/SearchBudget")) (by decide) (by decide)))).other W50 (Or.inr (slot_ne (Or.inl (hw _ (List.mem_of_getElem? (i := 62) rfl))) (Or.inl (hw _ (List.mem_of_getElem? (i := 47) rfl))) (by decide) (t := .boolean) (t' := .int) (by decide) (by decide)))).ext E51).other W55 (Or.inr (slot_ne (Or.inl (hw _ (List.mem_of_getElem? (i := 62) rfl))) (Or.inl (hw _ (List.mem_of_getElem? (i := 51) rfl))) (by decide) (t := .boolean) (t' := (.array (.array .int))) (by decide) (by decide)))).ext E56).other W60 (Or.inr (slot_ne (Or.inl (hw _ (List.mem_of_getElem? (i := 62) rfl))) (Or.inl (hw _ (List.mem_of_getElem? (i := 53) rfl))) (by decide) (t := .boolean) (t' := (.array .int)) (by decide) (by decide)))).ext E61).other W65 (Or.inr (slot_ne (Or.inl (hw _ (List.mem_of_getElem? (i := 62) rfl))) (Or.inl (hw _ (List.mem_of_getElem? (i := 55) rfl))) (by decide) (t := .boolean) (t' := (.array .int)) (by decide) (by decide))))
  have ne84 : b2 ≠ a1 := (Nat.ne_of_gt (Nat.lt_of_lt_of_le E_a1.lt (Nat.le_trans (Nat.le_refl _) (Nat.le_of_eq g2.symm))))
  have H85 := (((((((((((((((((((((((((V_b2.other W5 ne84).ext E6).other W9 ne84).ext E10).other W14 ne84).ext E15).other W19 ne84).ext E20).other W24 ne84).ext E25).other W29 ne84).ext E30).other W34 ne84).ext E35).other W39 ne84).ext E40).other W44 ne84).other W47 ne84).other W50 ne84).ext E51).other W55 ne84).ext E56).other W60 ne84).ext E61).other W65 ne84)
  have ne86 : b6 ≠ a1 := (Nat.ne_of_gt (Nat.lt_of_lt_of_le E_a1.lt (Nat.le_trans (Nat.le_trans E2.1 (Keep.of_wr W5).1) (Nat.le_of_eq g6.symm))))
  have H87 := (((((((((((((((((((((((V_b6.other W9 ne86).ext E10).other W14 ne86).ext E15).other W19 ne86).ext E20).other W24 ne86).ext E25).other W29 ne86).ext E30).other W34 ne86).ext E35).other W39 ne86).ext E40).other W44 ne86).other W47 ne86).other W50 ne86).ext E51).other W55 ne86).ext E56).other W60 ne86).ext E61).other W65 ne86)
  have ne88 : b10 ≠ a1 := (Nat.ne_of_gt (Nat.lt_of_lt_of_le E_a1.lt (Nat.le_trans gr11 (Nat.le_of_eq g10.symm))))
  have H89 := (((((((((((((((((((((V_b10.other W14 ne88).ext E15).other W19 ne88).ext E20).other W24 ne88).ext E25).other W29 ne88).ext E30).other W34 ne88).ext E35).other W39 ne88).ext E40).other W44 ne88).other W47 ne88).other W50 ne88).ext E51).other W55 ne88).ext E56).other W60 ne88).ext E61).other W65 ne88)
  have ne90 : b15 ≠ a1 := (Nat.ne_of_gt (Nat.lt_of_lt_of_le E_a1.lt (Nat.le_trans gr16 (Nat.le_of_eq g15.symm))))
  have H91 := (((((((((((((((((((V_b15.other W19 ne90).ext E20).other W24 ne90).ext E25).other W29 ne90).ext E30).other W34 ne90).ext E35).other W39 ne90).ext E40).other W44 ne90).other W47 ne90).other W50 ne90).ext E51).other W55 ne90).ext E56).other W60 ne90).ext E61).other W65 ne90)
  have ne92 : b20 ≠ a1 := (Nat.ne_of_gt (Nat.lt_of_lt_of_le E_a1.lt (Nat.le_trans gr21 (Nat.le_of_eq g20.symm))))
  have H93 := (((((((((((((((((V_b20.other W24 ne92).ext E25).other W29 ne92).ext E30).other W34 ne92).ext E35).other W39 ne92).ext E40).other W44 ne92).other W47 ne92).other W50 ne92).ext E51).other W55 ne92).ext E56).other W60 ne92).ext E61).other W65 ne92)
  have ne94 : b25 ≠ a1 := (Nat.ne_of_gt (Nat.lt_of_lt_of_le E_a1.lt (Nat.le_trans gr26 (Nat.le_of_eq g25.symm))))
  have H95 := (((((((((((((((V_b25.other W29 ne94).ext E30).other W34 ne94).ext E35).other W39 ne94).ext E40).other W44 ne94).other W47 ne94).other W50 ne94).ext E51).other W55 ne94).ext E56).other W60 ne94).ext E61).other W65 ne94)
  have ne96 : b30 ≠ a1 := (Nat.ne_of_gt (Nat.lt_of_lt_of_le E_a1.lt (Nat.le_trans gr31 (Nat.le_of_eq g30.symm))))
  have H97 := (((((((((((((V_b30.other W34 ne96).ext E35).other W39 ne96).ext E40).other W44 ne96).other W47 ne96).other W50 ne96).ext E51).other W55 ne96).ext E56).other W60 ne96).ext E61).other W65 ne96)
  have ne98 : b35 ≠ a1 := (Nat.ne_of_gt (Nat.lt_of_lt_of_le E_a1.lt (Nat.le_trans gr36 (Nat.le_of_eq g35.symm))))
  have H99 := (((((((((((V_b35.other W39 ne98).ext E40).other W44 ne98).other W47 ne98).other W50 ne98).ext E51).other W55 ne98).ext E56).other W60 ne98).ext E61).other W65 ne98)
  have ne100 : b40 ≠ a1 := (Nat.ne_of_gt (Nat.lt_of_lt_of_le E_a1.lt (Nat.le_trans gr41 (Nat.le_of_eq g40.symm))))
  have H101 := (((((((((V_b40.other W44 ne100).other W47 ne100).other W50 ne100).ext E51).other W55 ne100).ext E56).other W60 ne100).ext E61).other W65 ne100)
  have ne102 : b51 ≠ a1 := (Nat.ne_of_gt (Nat.lt_of_lt_of_le E_a1.lt (Nat.le_trans gr52 (Nat.le_of_eq g51.symm))))
  have H103 := (((((V_b51.other W55 ne102).ext E56).other W60 ne102).ext E61).other W65 ne102)
  have ne104 : b56 ≠ a1 := (Nat.ne_of_gt (Nat.lt_of_lt_of_le E_a1.lt (Nat.le_trans gr57 (Nat.le_of_eq g56.symm))))
  have H105 := (((V_b56.other W60 ne104).ext E61).other W65 ne104)
  have ne106 : b61 ≠ a1 := (Nat.ne_of_gt (Nat.lt_of_lt_of_le E_a1.lt (Nat.le_trans gr62 (Nat.le_of_eq g61.symm))))
  have H107 := (V_b61.other W65 ne106)
  refine Go.fin X65 (v := none) (fun _ => rfl) Bd.notSynchronized (fun _ hr => X65.returnOut hx Bd.returns (hb hby d3_113) hr) (fun U' hU hF => ⟨_, _, rfl, ?_, hF.1, hF.2.1, hF.2.2.mono (by decide) (by decide)⟩)
  rw [hU, e65]
  exact ⟨rfl, N65, (((((((((((((((((((((((((((Keep.refl h0 [a1]).ext E2).wr W5 (Or.inl (List.mem_of_getElem? (i := 0) rfl))).ext E6).wr W9 (Or.inl (List.mem_of_getElem? (i := 0) rfl))).ext E10).wr W14 (Or.inl (List.mem_of_getElem? (i := 0) rfl))).ext E15).wr W19 (Or.inl (List.mem_of_getElem? (i := 0) rfl))).ext E20).wr W24 (Or.inl (List.mem_of_getElem? (i := 0) rfl))).ext E25).wr W29 (Or.inl (List.mem_of_getElem? (i := 0) rfl))).ext E30).wr W34 (Or.inl (List.mem_of_getElem? (i := 0) rfl))).ext E35).wr W39 (Or.inl (List.mem_of_getElem? (i := 0) rfl))).ext E40).wr W44 (Or.inl (List.mem_of_getElem? (i := 0) rfl))).wr W47 (Or.inl (List.mem_of_getElem? (i := 0) rfl))).wr W50 (Or.inl (List.mem_of_getElem? (i := 0) rfl))).ext E51).wr W55 (Or.inl (List.mem_of_getElem? (i := 0) rfl))).ext E56).wr W60 (Or.inl (List.mem_of_getElem? (i := 0) rfl))).ext E61).wr W65 (Or.inl (List.mem_of_getElem? (i := 0) rfl))), b2, b6, b10, b15, b20, b25, b30, b35, b40, b51, b56, b61, k2, k6, k10, k15, k20, k25, k30, k35, k40, k51, k56, k61, c51, (Nat.le_trans (Nat.le_refl _) (Nat.le_of_eq g2.symm)), (Nat.lt_of_lt_of_le lt_b2 (Nat.le_trans (Keep.of_wr W5).1 (Nat.le_of_eq g6.symm))), (Nat.lt_of_lt_of_le lt_b6 (Nat.le_trans (Keep.of_wr W9).1 (Nat.le_of_eq g10.symm))), (Nat.lt_of_lt_of_le lt_b10 (Nat.le_trans (Keep.of_wr W14).1 (Nat.le_of_eq g15.symm))), (Nat.lt_of_lt_of_le lt_b15 (Nat.le_trans (Keep.of_wr W19).1 (Nat.le_of_eq g20.symm))), (Nat.lt_of_lt_of_le lt_b20 (Nat.le_trans (Keep.of_wr W24).1 (Nat.le_of_eq g25.symm))), (Nat.lt_of_lt_of_le lt_b25 (Nat.le_trans (Keep.of_wr W29).1 (Nat.le_of_eq g30.symm))), (Nat.lt_of_lt_of_le lt_b30 (Nat.le_trans (Keep.of_wr W34).1 (Nat.le_of_eq g35.symm))), (Nat.lt_of_lt_of_le lt_b35 (Nat.le_trans (Keep.of_wr W39).1 (Nat.le_of_eq g40.symm))), (Nat.lt_of_lt_of_le lt_b40 (Nat.le_trans gr67 (Nat.le_of_eq g51.symm))), (Nat.lt_of_lt_of_le lt3_b51 (Nat.le_trans (Keep.of_wr W55).1 (Nat.le_of_eq g56.symm))), (Nat.lt_of_lt_of_le lt_b56 (Nat.le_trans (Keep.of_wr W60).1 (Nat.le_of_eq g61.symm))), H68, H69, H70, H71, H72, H73, H74, H75, H76, H77, H78, H79, Fw65, H80, H81, H82, H83, H85, H87, H89, H91, H93, H95, H97, H99, H101, H103, H105, H107, Rw66⟩
theorem d7_0 : decode jdk_65_method_30_code 0 = .ok (.iload_n 1, 1) := by decide +kernel
theorem d7_1 : decode jdk_65_method_30_code 1 = .ok (.iload_n 2, 1) := by decide +kernel
theorem d7_2 : decode jdk_65_method_30_code 2 = .ok (.if_icmp .le 44, 3) := by decide +kernel
theorem d7_46 : decode jdk_65_method_30_code 46 = .ok (.iload_n 1, 1) := by decide +kernel
theorem d7_47 : decode jdk_65_method_30_code 47 = .ok (.ifCond .ge 12, 3) := by decide +kernel
theorem d7_59 : decode jdk_65_method_30_code 59 = .ok (.iload_n 2, 1) := by decide +kernel
theorem d7_60 : decode jdk_65_method_30_code 60 = .ok (.iload_n 0, 1) := by decide +kernel
theorem d7_61 : decode jdk_65_method_30_code 61 = .ok (.if_icmp .le 12, 3) := by decide +kernel
theorem d7_73 : decode jdk_65_method_30_code 73 = .ok (.return_, 1) := by decide +kernel
theorem pn_91 : plainName "java/util/Arrays" = true := by first | (simp [plainName, overriddenIn]; done) | decide +kernel
theorem ef_rm7 (m : MethodId) (p1 : Int32) (p2 : Int32) (p3 : Int32) : entryFrame m #[(.int p1), (.int p2), (.int p3)] 3 = mkF m 0 #[.val (.int p1), .val (.int p2), .val (.int p3)] [] := by first | (simp [entryFrame, mkF, argsToLocals, Value.category]; done) | rfl
def Q_rm7 (Z : State) (p1 : Int32) (p2 : Int32) (p3 : Int32) (h0 : Heap) (n0 : Nat) (v : Option Value) (h : Heap) (L : List Loc) : Prop := v = none ∧ Fr n0 L ∧ h = h0
set_option maxRecDepth 65536 in
set_option maxHeartbeats 40000000 in
theorem rm7 (l : Launch) (Z : State) (a0 : Array Value) (hw : ∀ d ∈ tables_1, d.before a0 Z = true) (ws : List Jvm.Cond) (p1 : Int32) (p2 : Int32) (p3 : Int32) (h0 : Heap) (n0 : Nat) (Z0 : n0 ≤ h0.size) (h1 : ¬ (p3 < p2)) (h2 : ¬ (p2 < (0 : Int32))) (h3 : ¬ (p1 < p3)) :
    MetFree l (⟨"java/util/Arrays", "rangeCheck", "(III)V"⟩ : MethodName) (head1 (Jvm.Cond.code (⟨"java/util/Arrays", "rangeCheck", "(III)V"⟩ : MethodName) jdk_65_method_30_code 3 none :: ws) ({ frames := 0, cells := 0, slots := 0, locals := 0 } : Room)) (fun a U => a = #[(.int p1), (.int p2), (.int p3)] ∧ Z.Warmed39 U.vm ∧ U.heap = h0) (fun _ _ _ _ _ => True) (fun _ U o U' => ∃ v L, o = .returned v ∧ Q_rm7 Z p1 p2 p3 h0 n0 v U'.heap L ∧ FrameEnd U o U' L ({ frames := 0, cells := 0, slots := 0, locals := 0 } : Room).cells ({ frames := 0, cells := 0, slots := 0, locals := 0 } : Room).slots) := by
  refine MetFree.of_bodySF (plainFor_of_name pn_91) hisR ?_
  intro p e s m args below meth c s₁ Bd hml0 hP hK
  obtain ⟨rfl, hZ, hh⟩ := hP
  have hx := Bd.exec
  have hby := Bd.bytes
  have hml : c.maxLocals = 3 := hml0
  have hown : s.vm.findClass "java/util/Arrays" = some m.cls := findClass_of_methodNamed Bd.named
  have hnm := (name_of_methodNamed Bd.named Bd.method).1
  have X0 : Stand p l e ({ frames := 0, cells := 0, slots := 0, locals := 0 } : Room) s m #[(.int p1), (.int p2), (.int p3)] below meth c s₁ [] 0 0 := Stand.of_body Bd
  have e0 : s₁.heap = h0 := by rw [← hh, Bd.state]; rfl
  have N0 := Fr.nil n0
  show Go p e below (s₁.setTop (entryFrame m #[(.int p1), (.int p2), (.int p3)] 3)) (fun o U' => ∃ v L, o = .returned v ∧ Q_rm7 Z p1 p2 p3 h0 n0 v U'.heap L ∧ FrameEnd s o U' L ({ frames := 0, cells := 0, slots := 0, locals := 0 } : Room).cells ({ frames := 0, cells := 0, slots := 0, locals := 0 } : Room).slots)
  rw [ef_rm7]
  refine Gk.iloadN X0 hx (hb hby d7_0) rfl ?_
  refine Gk.iloadN X0 hx (hb hby d7_1) rfl ?_
  have hc2 : ¬ (p3 < p2) := h1
  refine Gk.icmpYes X0 hx (hb hby d7_2) (flt hc2).2.2.2 46 (by decide) (by decide) ?_
  refine Gk.iloadN X0 hx (hb hby d7_46) rfl ?_
  have hc47 : ¬ (p2 < (0 : Int32)) := h2
  refine Gk.ifYes X0 hx (hb hby d7_47) (flt hc47).2.1 59 (by decide) (by decide) ?_
  refine Gk.iloadN X0 hx (hb hby d7_59) rfl ?_
  refine Gk.iloadN X0 hx (hb hby d7_60) rfl ?_
  have hc61 : ¬ (p1 < p3) := h3
  refine Gk.icmpYes X0 hx (hb hby d7_61) (flt hc61).2.2.2 73 (by decide) (by decide) ?_
  refine Go.fin X0 (v := none) (fun _ => rfl) Bd.notSynchronized (fun _ hr => X0.returnOut hx Bd.returns (hb hby d7_73) hr) (fun U' hU hF => ⟨_, _, rfl, ?_, hF.1, hF.2.1, hF.2.2.mono (by decide) (by decide)⟩)
  rw [hU, e0]
  exact ⟨rfl, N0, rfl⟩
theorem pd_0 : parseMethodDescriptor "(III)V" = some ⟨[.int, .int, .int], none⟩ := by decide +kernel
theorem d6_0 : decode jdk_65_method_118_code 0 = .ok (.aload_n 0, 1) := by decide +kernel
theorem d6_1 : decode jdk_65_method_118_code 1 = .ok (.arraylength, 1) := by decide +kernel
theorem d6_2 : decode jdk_65_method_118_code 2 = .ok (.iload_n 1, 1) := by decide +kernel
theorem d6_3 : decode jdk_65_method_118_code 3 = .ok (.iload_n 2, 1) := by decide +kernel
theorem d6_4 : decode jdk_65_method_118_code 4 = .ok (.invokestatic 13, 3) := by decide +kernel
theorem d6_7 : decode jdk_65_method_118_code 7 = .ok (.iload_n 1, 1) := by decide +kernel
theorem d6_8 : decode jdk_65_method_118_code 8 = .ok (.istore 4, 2) := by decide +kernel
theorem d6_10 : decode jdk_65_method_118_code 10 = .ok (.iload 4, 2) := by decide +kernel
theorem d6_12 : decode jdk_65_method_118_code 12 = .ok (.iload_n 2, 1) := by decide +kernel
theorem d6_13 : decode jdk_65_method_118_code 13 = .ok (.if_icmp .ge 14, 3) := by decide +kernel
theorem d6_27 : decode jdk_65_method_118_code 27 = .ok (.return_, 1) := by decide +kernel
theorem ef_rm6 (m : MethodId) (a1 : Addr) : entryFrame m #[(.ref a1), (.int (0 : Int32)), (.int (0 : Int32)), .null] 5 = mkF m 0 #[.val (.ref a1), .val (.int (0 : Int32)), .val (.int (0 : Int32)), .val .null, .unset] [] := by first | (simp [entryFrame, mkF, argsToLocals, Value.category]; done) | rfl
def Q_rm6 (Z : State) (a1 : Addr) (kc : ClassId) (tyv : FieldType) (fo : Nat → Value) (h0 : Heap) (n0 : Nat) (v : Option Value) (h : Heap) (L : List Loc) : Prop := v = none ∧ Fr n0 L ∧ h = h0
set_option maxRecDepth 65536 in
set_option maxHeartbeats 40000000 in
theorem rm6 (l : Launch) (Z : State) (a0 : Array Value) (hw : ∀ d ∈ tables_1, d.before a0 Z = true) (ws : List Jvm.Cond) (a1 : Addr) (kc : ClassId) (tyv : FieldType) (fo : Nat → Value) (h0 : Heap) (n0 : Nat) (Z0 : n0 ≤ h0.size) (V_a : Arf Z h0 a1 kc tyv (16 : Int32) fo) :
    MetFree l (⟨"java/util/Arrays", "fill", "([Ljava/lang/Object;IILjava/lang/Object;)V"⟩ : MethodName) (head1 (Jvm.Cond.code (⟨"java/util/Arrays", "fill", "([Ljava/lang/Object;IILjava/lang/Object;)V"⟩ : MethodName) jdk_65_method_118_code 5 none :: ws) ({ frames := 1, cells := 0, slots := 0, locals := 14 } : Room)) (fun a U => a = #[(.ref a1), (.int (0 : Int32)), (.int (0 : Int32)), .null] ∧ Z.Warmed39 U.vm ∧ U.heap = h0) (fun _ _ _ _ _ => True) (fun _ U o U' => ∃ v L, o = .returned v ∧ Q_rm6 Z a1 kc tyv fo h0 n0 v U'.heap L ∧ FrameEnd U o U' L ({ frames := 1, cells := 0, slots := 0, locals := 14 } : Room).cells ({ frames := 1, cells := 0, slots := 0, locals := 14 } : Room).slots) := by
  refine MetFree.of_bodySF (plainFor_of_name pn_91) hisR ?_
  intro p e s m args below meth c s₁ Bd hml0 hP hK
  obtain ⟨rfl, hZ, hh⟩ := hP
  have hx := Bd.exec
  have hby := Bd.bytes
  have hml : c.maxLocals = 5 := hml0
  have hown : s.vm.findClass "java/util/Arrays" = some m.cls := findClass_of_methodNamed Bd.named
  have hnm := (name_of_methodNamed Bd.named Bd.method).1
  have X0 : Stand p l e ({ frames := 1, cells := 0, slots := 0, locals := 14 } : Room) s m #[(.ref a1), (.int (0 : Int32)), (.int (0 : Int32)), .null] below meth c s₁ [] 0 0 := Stand.of_body Bd
  have e0 : s₁.heap = h0 := by rw [← hh, Bd.state]; rfl
  have N0 := Fr.nil n0
  show Go p e below (s₁.setTop (entryFrame m #[(.ref a1), (.int (0 : Int32)), (.int (0 : Int32)), .null] 5)) (fun o U' => ∃ v L, o = .returned v ∧ Q_rm6 Z a1 kc tyv fo h0 n0 v U'.heap L ∧ FrameEnd s o U' L ({ frames := 1, cells := 0, slots := 0, locals := 14 } : Room).cells ({ frames := 1, cells := 0, slots := 0, locals := 14 } : Room).slots)
  rw [ef_rm6]
  refine Gk.aloadN X0 hx (hb hby d6_0) rfl rfl ?_
  refine Gk.alen X0 hx hZ e0 V_a (hb hby d6_1) ?_
  refine Gk.iloadN X0 hx (hb hby d6_2) rfl ?_
  refine Gk.iloadN X0 hx (hb hby d6_3) rfl ?_
  refine Gk.callS (argsL := [(.int (16 : Int32)), (.int (0 : Int32)), (.int (0 : Int32))]) X0 hx hZ hown (rm7 l Z a0 hw [] (16 : Int32) (0 : Int32) (0 : Int32) h0 n0 Z0 (by decide) (by decide) (by decide)) (hw _ (List.mem_of_getElem? (i := 72) rfl)) (hw _ (List.mem_of_getElem? (i := 73) rfl)) (hw _ (List.mem_of_getElem? (i := 65) rfl)) (hw _ (List.mem_of_getElem? (i := 74) rfl)) (by decide) e0 pd_0 rfl rfl (by decide) (Nat.le_of_ble_eq_true rfl) (by decide) (by decide) (by rw [hml]; rfl)  rfl (hb hby d6_4) ?_
  intro T1 L1 v1 X1 hQ1
  obtain ⟨rfl, N1q, e1⟩ := hQ1
  have N1 := Fr.app N0 N1q
  show Go p e below (T1.setTop (mkF m 7 #[.val (.ref a1), .val (.int (0 : Int32)), .val (.int (0 : Int32)), .val .null, .unset] [])) _
  refine Gk.iloadN X1 hx (hb hby d6_7) rfl ?_
  refine Gk.istore X1 hx (hb hby d6_8) #[.val (.ref a1), .val (.int (0 : Int32)), .val (.int (0 : Int32)), .val .null, .val (.int (0 : Int32))] rfl ?_
  refine Gk.iload X1 hx (hb hby d6_10) rfl ?_
  refine Gk.iloadN X1 hx (hb hby d6_12) rfl ?_
  refine Gk.icmpYes X1 hx (hb hby d6_13) (flt (by decide : ¬ ((0 : Int32) < (0 : Int32)))).2.1 27 (by decide) (by decide) ?_
  refine Go.fin X1 (v := none) (fun _ => rfl) Bd.notSynchronized (fun _ hr => X1.returnOut hx Bd.returns (hb hby d6_27) hr) (fun U' hU hF => ⟨_, _, rfl, ?_, hF.1, hF.2.1, hF.2.2.mono (by decide) (by decide)⟩)
  rw [hU, e1]
  exact ⟨rfl, N1, rfl⟩
theorem d5_0 : decode jdk_65_method_103_code 0 = .ok (.iconst 0, 1) := by decide +kernel
theorem d5_1 : decode jdk_65_method_103_code 1 = .ok (.istore_n 2, 1) := by decide +kernel
theorem d5_2 : decode jdk_65_method_103_code 2 = .ok (.aload_n 0, 1) := by decide +kernel
theorem d5_3 : decode jdk_65_method_103_code 3 = .ok (.arraylength, 1) := by decide +kernel
theorem d5_4 : decode jdk_65_method_103_code 4 = .ok (.istore_n 3, 1) := by decide +kernel
theorem d5_5 : decode jdk_65_method_103_code 5 = .ok (.iload_n 2, 1) := by decide +kernel
theorem d5_6 : decode jdk_65_method_103_code 6 = .ok (.iload_n 3, 1) := by decide +kernel
theorem d5_7 : decode jdk_65_method_103_code 7 = .ok (.if_icmp .ge 13, 3) := by decide +kernel
theorem d5_10 : decode jdk_65_method_103_code 10 = .ok (.aload_n 0, 1) := by decide +kernel
theorem d5_11 : decode jdk_65_method_103_code 11 = .ok (.iload_n 2, 1) := by decide +kernel
theorem d5_12 : decode jdk_65_method_103_code 12 = .ok (.iload_n 1, 1) := by decide +kernel
theorem d5_13 : decode jdk_65_method_103_code 13 = .ok (.iastore, 1) := by decide +kernel
theorem d5_14 : decode jdk_65_method_103_code 14 = .ok (.iinc 2 1, 3) := by decide +kernel
theorem d5_17 : decode jdk_65_method_103_code 17 = .ok (.goto (-12), 3) := by decide +kernel
theorem d5_20 : decode jdk_65_method_103_code 20 = .ok (.return_, 1) := by decide +kernel
theorem ef_rm5 (m : MethodId) (a1 : Addr) : entryFrame m #[(.ref a1), (.int (0 : Int32))] 4 = mkF m 0 #[.val (.ref a1), .val (.int (0 : Int32)), .unset, .unset] [] := by first | (simp [entryFrame, mkF, argsToLocals, Value.category]; done) | rfl
def Q_rm5 (Z : State) (a1 : Addr) (z : Int32) (kc : ClassId) (h0 : Heap) (n0 : Nat) (v : Option Value) (h : Heap) (L : List Loc) : Prop := v = none ∧ Fr n0 L ∧ Keep h0 h [a1] ∧ Arf Z h a1 kc .int z (fun _ => .int (0 : Int32))
set_option maxRecDepth 65536 in
set_option maxHeartbeats 40000000 in
theorem rm5 (l : Launch) (Z : State) (a0 : Array Value) (hw : ∀ d ∈ tables_1, d.before a0 Z = true) (ws : List Jvm.Cond) (a1 : Addr) (z : Int32) (kc : ClassId) (h0 : Heap) (n0 : Nat) (Z0 : n0 ≤ h0.size) (V_a : Arf Z h0 a1 kc .int z (fun _ => .int (0 : Int32))) (g_a1 : n0 ≤ a1) :
    MetFree l (⟨"java/util/Arrays", "fill", "([II)V"⟩ : MethodName) (head1 (Jvm.Cond.code (⟨"java/util/Arrays", "fill", "([II)V"⟩ : MethodName) jdk_65_method_103_code 4 none :: ws) ({ frames := 0, cells := 0, slots := 0, locals := 0 } : Room)) (fun a U => a = #[(.ref a1), (.int (0 : Int32))] ∧ Z.Warmed39 U.vm ∧ U.heap = h0) (fun _ _ _ _ _ => True) (fun _ U o U' => ∃ v L, o = .returned v ∧ Q_rm5 Z a1 z kc h0 n0 v U'.heap L ∧ FrameEnd U o U' L ({ frames := 0, cells := 0, slots := 0, locals := 0 } : Room).cells ({ frames := 0, cells := 0, slots := 0, locals := 0 } : Room).slots) := by
  refine MetFree.of_bodySF (plainFor_of_name pn_91) hisR ?_
  intro p e s m args below meth c s₁ Bd hml0 hP hK
  obtain ⟨rfl, hZ, hh⟩ := hP
  have hx := Bd.exec
  have hby := Bd.bytes
  have hml : c.maxLocals = 4 := hml0
  have hown : s.vm.findClass "java/util/Arrays" = some m.cls := findClass_of_methodNamed Bd.named
  have hnm := (name_of_methodNamed Bd.named Bd.method).1
  have X0 : Stand p l e ({ frames := 0, cells := 0, slots := 0, locals := 0 } : Room) s m #[(.ref a1), (.int (0 : Int32))] below meth c s₁ [] 0 0 := Stand.of_body Bd
  have e0 : s₁.heap = h0 := by rw [← hh, Bd.state]; rfl
  have N0 := Fr.nil n0
  show Go p e below (s₁.setTop (entryFrame m #[(.ref a1), (.int (0 : Int32))] 4)) (fun o U' => ∃ v L, o = .returned v ∧ Q_rm5 Z a1 z kc h0 n0 v U'.heap L ∧ FrameEnd s o U' L ({ frames := 0, cells := 0, slots := 0, locals := 0 } : Room).cells ({ frames := 0, cells := 0, slots := 0, locals := 0 } : Room).slots)
  rw [ef_rm5]
  refine Gk.iconst X0 hx (hb hby d5_0) (0 : Int32) rfl ?_
  refine Gk.istoreN X0 hx (hb hby d5_1) #[.val (.ref a1), .val (.int (0 : Int32)), .val (.int (0 : Int32)), .unset] rfl ?_
  refine Gk.aloadN X0 hx (hb hby d5_2) rfl rfl ?_
  refine Gk.alen X0 hx hZ e0 V_a (hb hby d5_3) ?_
  refine Gk.istoreN X0 hx (hb hby d5_4) #[.val (.ref a1), .val (.int (0 : Int32)), .val (.int (0 : Int32)), .val (.int z)] rfl ?_
  have loop : ∀ (t : Nat) (i : Int32), 0 ≤ i.toInt → i.toInt + (t : Int) = z.toInt → ∀ (Tl : State) (hl : Heap) (Ll : List Loc), Stand p l e ({ frames := 0, cells := 0, slots := 0, locals := 0 } : Room) s m #[(.ref a1), (.int (0 : Int32))] below meth c Tl Ll 0 0 → Tl.heap = hl → Keep h0 hl [a1] → Fr n0 Ll → Arf Z hl a1 kc .int z (fun _ => .int (0 : Int32)) → Go p e below (Tl.setTop (mkF m 5 #[.val (.ref a1), .val (.int (0 : Int32)), .val (.int i), .val (.int z)] [])) (fun o U' => ∃ v L, o = .returned v ∧ Q_rm5 Z a1 z kc h0 n0 v U'.heap L ∧ FrameEnd s o U' L ({ frames := 0, cells := 0, slots := 0, locals := 0 } : Room).cells ({ frames := 0, cells := 0, slots := 0, locals := 0 } : Room).slots) := by
    intro t
    induction t with
    | zero =>
      intro i hi hz Tl hl Ll Xl el Kl Nl Vl
      refine Gk.iloadN Xl hx (hb hby d5_5) rfl ?_
      refine Gk.iloadN Xl hx (hb hby d5_6) rfl ?_
      have hc7 : ¬ (i < z) := own_fin hz
      refine Gk.icmpYes Xl hx (hb hby d5_7) (flt hc7).2.1 20 (by decide) (by decide) ?_
      refine Go.fin Xl (v := none) (fun _ => rfl) Bd.notSynchronized (fun _ hr => Xl.returnOut hx Bd.returns (hb hby d5_20) hr) (fun U' hU hF => ⟨_, _, rfl, ?_, hF.1, hF.2.1, hF.2.2.mono (by decide) (by decide)⟩)
      rw [hU, el]
      exact ⟨rfl, Nl, ((Keep.refl h0 [a1]).trans Kl (allS (Or.inl (List.mem_of_getElem? (i := 0) rfl)) all0)), Vl⟩
    | succ t ih =>
      intro i hi hz Tl hl Ll Xl el Kl Nl Vl
      have hs_ := own_suc hi hz
      refine Gk.iloadN Xl hx (hb hby d5_5) rfl ?_
      refine Gk.iloadN Xl hx (hb hby d5_6) rfl ?_
      have hc7 : i < z := hs_.1
      refine Gk.icmpNo Xl hx (hb hby d5_7) (tlt hc7).2.1 ?_
      refine Gk.aloadN Xl hx (hb hby d5_10) rfl rfl ?_
      refine Gk.iloadN Xl hx (hb hby d5_11) rfl ?_
      refine Gk.iloadN Xl hx (hb hby d5_12) rfl ?_
      refine Gk.iastore Xl hx hZ el Vl i.toNatClampNeg rfl ⟨own_lt0 hi, hs_.1⟩ (.int (0 : Int32)) rfl (hb hby d5_13) ?_
      intro T1 h1 X1 e1 W1 V1
      have N1 := Fr.snoc X1 Nl g_a1
      refine Gk.iinc X1 hx (hb hby d5_14) rfl #[.val (.ref a1), .val (.int (0 : Int32)), .val (.int (i + (1 : Int32))), .val (.int z)] rfl ?_
      refine Gk.goto X1 hx (hb hby d5_17) 5 (by decide) (by decide) ?_
      exact ih (i + (1 : Int32)) hs_.2.1 hs_.2.2 _ _ _ X1 e1 (((Keep.refl h0 [a1]).trans Kl (allS (Or.inl (List.mem_of_getElem? (i := 0) rfl)) all0)).wr W1 (Or.inl (List.mem_of_getElem? (i := 0) rfl))) N1 (V1.same fun j_ _ => own_upd0 _ j_)
  exact loop z.toInt.toNat (0 : Int32) (by decide) (own_start (own_arfnn V_a)) _ _ _ X0 e0 (Keep.refl h0 _) N0 V_a
theorem pd_1 : parseMethodDescriptor "([II)V" = some ⟨[(.array .int), .int], none⟩ := by decide +kernel
theorem pd_2 : parseMethodDescriptor "([Ljava/lang/Object;IILjava/lang/Object;)V" = some ⟨[(.array (.object "java/lang/Object")), .int, .int, (.object "java/lang/Object")], none⟩ := by decide +kernel
theorem d4_0 : decode prog_86_method_2_code 0 = .ok (.aload_n 0, 1) := by decide +kernel
theorem d4_1 : decode prog_86_method_2_code 1 = .ok (.iload_n 1, 1) := by decide +kernel
theorem d4_2 : decode prog_86_method_2_code 2 = .ok (.putfield 48, 3) := by decide +kernel
theorem d4_5 : decode prog_86_method_2_code 5 = .ok (.aload_n 0, 1) := by decide +kernel
theorem d4_6 : decode prog_86_method_2_code 6 = .ok (.iload_n 3, 1) := by decide +kernel
theorem d4_7 : decode prog_86_method_2_code 7 = .ok (.putfield 63, 3) := by decide +kernel
theorem d4_10 : decode prog_86_method_2_code 10 = .ok (.aload_n 0, 1) := by decide +kernel
theorem d4_11 : decode prog_86_method_2_code 11 = .ok (.getfield 54, 3) := by decide +kernel
theorem d4_14 : decode prog_86_method_2_code 14 = .ok (.arraylength, 1) := by decide +kernel
theorem d4_15 : decode prog_86_method_2_code 15 = .ok (.iload_n 2, 1) := by decide +kernel
theorem d4_16 : decode prog_86_method_2_code 16 = .ok (.if_icmp .ge 78, 3) := by decide +kernel
theorem d4_94 : decode prog_86_method_2_code 94 = .ok (.aload_n 0, 1) := by decide +kernel
theorem d4_95 : decode prog_86_method_2_code 95 = .ok (.getfield 57, 3) := by decide +kernel
theorem d4_98 : decode prog_86_method_2_code 98 = .ok (.iconst 0, 1) := by decide +kernel
theorem d4_99 : decode prog_86_method_2_code 99 = .ok (.invokestatic 73, 3) := by decide +kernel
theorem d4_102 : decode prog_86_method_2_code 102 = .ok (.aload_n 0, 1) := by decide +kernel
theorem d4_103 : decode prog_86_method_2_code 103 = .ok (.getfield 60, 3) := by decide +kernel
theorem d4_106 : decode prog_86_method_2_code 106 = .ok (.iconst 0, 1) := by decide +kernel
theorem d4_107 : decode prog_86_method_2_code 107 = .ok (.invokestatic 73, 3) := by decide +kernel
theorem d4_110 : decode prog_86_method_2_code 110 = .ok (.aload_n 0, 1) := by decide +kernel
theorem d4_111 : decode prog_86_method_2_code 111 = .ok (.getfield 41, 3) := by decide +kernel
theorem d4_114 : decode prog_86_method_2_code 114 = .ok (.arraylength, 1) := by decide +kernel
theorem d4_115 : decode prog_86_method_2_code 115 = .ok (.sipush 4096, 3) := by decide +kernel
theorem d4_118 : decode prog_86_method_2_code 118 = .ok (.if_icmp .le 15, 3) := by decide +kernel
theorem d4_133 : decode prog_86_method_2_code 133 = .ok (.aload_n 0, 1) := by decide +kernel
theorem d4_134 : decode prog_86_method_2_code 134 = .ok (.getfield 41, 3) := by decide +kernel
theorem d4_137 : decode prog_86_method_2_code 137 = .ok (.iconst 0, 1) := by decide +kernel
theorem d4_138 : decode prog_86_method_2_code 138 = .ok (.invokestatic 73, 3) := by decide +kernel
theorem d4_141 : decode prog_86_method_2_code 141 = .ok (.aload_n 0, 1) := by decide +kernel
theorem d4_142 : decode prog_86_method_2_code 142 = .ok (.getfield 34, 3) := by decide +kernel
theorem d4_145 : decode prog_86_method_2_code 145 = .ok (.iconst 0, 1) := by decide +kernel
theorem d4_146 : decode prog_86_method_2_code 146 = .ok (.aload_n 0, 1) := by decide +kernel
theorem d4_147 : decode prog_86_method_2_code 147 = .ok (.getfield 77, 3) := by decide +kernel
theorem d4_150 : decode prog_86_method_2_code 150 = .ok (.aconst_null, 1) := by decide +kernel
theorem d4_151 : decode prog_86_method_2_code 151 = .ok (.invokestatic 80, 3) := by decide +kernel
theorem d4_154 : decode prog_86_method_2_code 154 = .ok (.aload_n 0, 1) := by decide +kernel
theorem d4_155 : decode prog_86_method_2_code 155 = .ok (.getfield 18, 3) := by decide +kernel
theorem d4_158 : decode prog_86_method_2_code 158 = .ok (.iconst 0, 1) := by decide +kernel
theorem d4_159 : decode prog_86_method_2_code 159 = .ok (.aload_n 0, 1) := by decide +kernel
theorem d4_160 : decode prog_86_method_2_code 160 = .ok (.getfield 77, 3) := by decide +kernel
theorem d4_163 : decode prog_86_method_2_code 163 = .ok (.aconst_null, 1) := by decide +kernel
theorem d4_164 : decode prog_86_method_2_code 164 = .ok (.invokestatic 80, 3) := by decide +kernel
theorem d4_167 : decode prog_86_method_2_code 167 = .ok (.aload_n 0, 1) := by decide +kernel
theorem d4_168 : decode prog_86_method_2_code 168 = .ok (.iconst 0, 1) := by decide +kernel
theorem d4_169 : decode prog_86_method_2_code 169 = .ok (.putfield 77, 3) := by decide +kernel
theorem d4_172 : decode prog_86_method_2_code 172 = .ok (.aload_n 0, 1) := by decide +kernel
theorem d4_173 : decode prog_86_method_2_code 173 = .ok (.iconst 0, 1) := by decide +kernel
theorem d4_174 : decode prog_86_method_2_code 174 = .ok (.putfield 83, 3) := by decide +kernel
theorem d4_177 : decode prog_86_method_2_code 177 = .ok (.return_, 1) := by decide +kernel
theorem ef_rm4 (m : MethodId) (a1 : Addr) (p4 : Int32) : entryFrame m #[(.ref a1), (.int (1 : Int32)), (.int (3 : Int32)), (.int p4)] 5 = mkF m 0 #[.val (.ref a1), .val (.int (1 : Int32)), .val (.int (3 : Int32)), .val (.int p4), .unset] [] := by first | (simp [entryFrame, mkF, argsToLocals, Value.category]; done) | rfl
def Q_rm4 (Z : State) (a1 : Addr) (p4 : Int32) (ab : Addr) (x_states : Addr) (x_hashes : Addr) (x_zones : Addr) (x_sameStates : Addr) (x_held : Addr) (x_parents : Addr) (x_events : Addr) (x_ranks : Addr) (x_slots : Addr) (x_ranked : Addr) (x_reached : Addr) (x_taken : Addr) (k_ranked : ClassId) (k_reached : ClassId) (k_taken : ClassId) (k_slots : ClassId) (k_events : ClassId) (k_zones : ClassId) (f_events : Nat → Value) (f_zones : Nat → Value) (h0 : Heap) (n0 : Nat) (v : Option Value) (h : Heap) (L : List Loc) : Prop := v = none ∧ Fr n0 L ∧ Keep h0 h [a1, x_reached, x_taken, x_slots] ∧ Fld Z h a1 "com/example/tracewarden/tracewarden/engine/SearchTuples" "states" "[I" (.ref x_states) ∧ Fld Z h a1 "com/example/tracewarden/tracewarden/engine/SearchTuples" "hashes" "[I" (.ref x_hashes) ∧ Fld Z h a1 "com/example/tracewarden/tracewarden/engine/SearchTuples" "zones" "[Lcom/example/tracewarden/tracewarden/engine/Zone;" (.ref x_zones) ∧ Fld Z h a1 "com/example/tracewarden/tracewarden/engine/SearchTuples" "sameStates" "[I" (.ref x_sameStates) ∧ Fld Z h a1 "com/example/tracewarden/tracewarden/engine/SearchTuples" "held" "[Z" (.ref x_held) ∧ Fld Z h a1 "com/example/tracewarden/tracewarden/engine/SearchTuples" "parents" "[I" (.ref x_parents) ∧ Fld Z h a1 "com/example/tracewarden/tracewarden/engine/SearchTuples" "events" "[Lcom/example/tracewarden/tracewarden/engine/SearchTuples$Event;" (.ref x_events) ∧ Fld Z h a1 "com/example/tracewarden/tracewarden/engine/SearchTuples" "ranks" "[I" (.ref x_ranks) ∧ Fld Z h a1 "com/example/tracewarden/tracewarden/engine/SearchTuples" "slots" "[I" (.ref x_slots) ∧ Fld Z h a1 "com/example/tracewarden/tracewarden/engine/SearchTuples" "ranked" "[[I" (.ref x_ranked) ∧ Fld Z h a1 "com/example/tracewarden/tracewarden/engine/SearchTuples" "reached" "[I" (.ref x_reached) ∧ Fld Z h a1 "com/example/tracewarden/tracewarden/engine/SearchTuples" "taken" "[I" (.ref x_taken) ∧ Fld Z h a1 "com/example/tracewarden/tracewarden/engine/SearchTuples" "budget" "Lcom/example/tracewarden/tracewarden/engine/SearchBudget;" (.ref ab) ∧ Fld Z h a1 "com/example/tracewarden/tracewarden/engine/SearchTuples" "width" "I" (.int (1 : Int32)) ∧ Fld Z h a1 "com/example/tracewarden/tracewarden/engine/SearchTuples" "size" "I" (.int (0 : Int32)) ∧ Fld Z h a1 "com/example/tracewarden/tracewarden/engine/SearchTuples" "lowest" "I" (.int (0 : Int32)) ∧ Fld Z h a1 "com/example/tracewarden/tracewarden/engine/SearchTuples" "latestFirst" "Z" (.int p4) ∧ Arf Z h x_reached k_reached .int (3 : Int32) (fun _ => .int (0 : Int32)) ∧ Arf Z h x_taken k_taken .int (3 : Int32) (fun _ => .int (0 : Int32)) ∧ Arf Z h x_slots k_slots .int (32 : Int32) (fun _ => .int (0 : Int32))
set_option maxRecDepth 65536 in
set_option maxHeartbeats 40000000 in
theorem rm4 (l : Launch) (Z : State) (a0 : Array Value) (hw : ∀ d ∈ tables_1, d.before a0 Z = true) (ws : List Jvm.Cond) (a1 : Addr) (p4 : Int32) (ab : Addr) (x_states : Addr) (x_hashes : Addr) (x_zones : Addr) (x_sameStates : Addr) (x_held : Addr) (x_parents : Addr) (x_events : Addr) (x_ranks : Addr) (x_slots : Addr) (x_ranked : Addr) (x_reached : Addr) (x_taken : Addr) (k_ranked : ClassId) (k_reached : ClassId) (k_taken : ClassId) (k_slots : ClassId) (k_events : ClassId) (k_zones : ClassId) (f_events : Nat → Value) (f_zones : Nat → Value) (h0 : Heap) (n0 : Nat) (Z0 : n0 ≤ h0.size) (hlf : p4 = (0 : Int32) ∨ p4 = (1 : Int32)) (E_st : Exa Z h0 a1 "com/example/tracewarden/tracewarden/engine/SearchTuples") (g_a1 : n0 ≤ a1) (lt0 : a1 < x_states) (lt1 : x_states < x_hashes) (lt2 : x_hashes < x_zones) (lt3 : x_zones < x_sameStates) (lt4 : x_sameStates < x_held) (lt5 : x_held < x_parents) (lt6 : x_parents < x_events) (lt7 : x_events < x_ranks) (lt8 : x_ranks < x_slots) (lt9 : x_slots < x_ranked) (lt10 : x_ranked < x_reached) (lt11 : x_reached < x_taken) (V_ranked : Arf Z h0 x_ranked k_ranked (.array .int) (3 : Int32) (fun i => .ref (x_ranked + 1 + i))) (V_reached : Arf Z h0 x_reached k_reached .int (3 : Int32) (fun _ => (.int (0 : Int32)))) (V_taken : Arf Z h0 x_taken k_taken .int (3 : Int32) (fun _ => (.int (0 : Int32)))) (V_slots : Arf Z h0 x_slots k_slots .int (32 : Int32) (fun _ => (.int (0 : Int32)))) (V_events : Arf Z h0 x_events k_events (.object "com/example/tracewarden/tracewarden/engine/SearchTuples$Event") (16 : Int32) f_events) (V_zones : Arf Z h0 x_zones k_zones (.object "com/example/tracewarden/tracewarden/engine/Zone") (16 : Int32) f_zones) (F_states : Fld Z h0 a1 "com/example/tracewarden/tracewarden/engine/SearchTuples" "states" "[I" (.ref x_states)) (F_hashes : Fld Z h0 a1 "com/example/tracewarden/tracewarden/engine/SearchTuples" "hashes" "[I" (.ref x_hashes)) (F_zones : Fld Z h0 a1 "com/example/tracewarden/tracewarden/engine/SearchTuples" "zones" "[Lcom/example/tracewarden/tracewarden/engine/Zone;" (.ref x_zones)) (F_sameStates : Fld Z h0 a1 "com/example/tracewarden/tracewarden/engine/SearchTuples" "sameStates" "[I" (.ref x_sameStates)) (F_held : Fld Z h0 a1 "com/example/tracewarden/tracewarden/engine/SearchTuples" "held" "[Z" (.ref x_held)) (F_parents : Fld Z h0 a1 "com/example/tracewarden/tracewarden/engine/SearchTuples" "parents" "[I" (.ref x_parents)) (F_events : Fld Z h0 a1 "com/example/tracewarden/tracewarden/engine/SearchTuples" "events" "[Lcom/example/tracewarden/tracewarden/engine/SearchTuples$Event;" (.ref x_events)) (F_ranks : Fld Z h0 a1 "com/example/tracewarden/tracewarden/engine/SearchTuples" "ranks" "[I" (.ref x_ranks)) (F_slots : Fld Z h0 a1 "com/example/tracewarden/tracewarden/engine/SearchTuples" "slots" "[I" (.ref x_slots)) (F_ranked : Fld Z h0 a1 "com/example/tracewarden/tracewarden/engine/SearchTuples" "ranked" "[[I" (.ref x_ranked)) (F_reached : Fld Z h0 a1 "com/example/tracewarden/tracewarden/engine/SearchTuples" "reached" "[I" (.ref x_reached)) (F_taken : Fld Z h0 a1 "com/example/tracewarden/tracewarden/engine/SearchTuples" "taken" "[I" (.ref x_taken)) (F_budget : Fld Z h0 a1 "com/example/tracewarden/tracewarden/engine/SearchTuples" "budget" "Lcom/example/tracewarden/tracewarden/engine/SearchBudget;" (.ref ab)) (F_width : Fld Z h0 a1 "com/example/tracewarden/tracewarden/engine/SearchTuples" "width" "I" (.int (1 : Int32))) (F_size : Fld Z h0 a1 "com/example/tracewarden/tracewarden/engine/SearchTuples" "size" "I" (.int (0 : Int32))) (F_lowest : Fld Z h0 a1 "com/example/tracewarden/tracewarden/engine/SearchTuples" "lowest" "I" (.int (0 : Int32))) (F_latestFirst : Fld Z h0 a1 "com/example/tracewarden/tracewarden/engine/SearchTuples" "latestFirst" "Z" (.int (0 : Int32))) :
    MetFree l (⟨"com/example/tracewarden/tracewarden/engine/SearchTuples", "clear", "(IIZ)V"⟩ : MethodName) (head1 (Jvm.Cond.code (⟨"com/example/tracewarden/tracewarden/engine/SearchTuples", "clear", "(IIZ)V"⟩ : MethodName) prog_86_method_2_code 5 none :: ws) ({ frames := 2, cells := 0, slots := 0, locals := 30 } : Room)) (fun a U => a = #[(.ref a1), (.int (1 : Int32)), (.int (3 : Int32)), (.int p4)] ∧ Z.Warmed39 U.vm ∧ U.heap = h0) (fun _ _ _ _ _ => True) (fun _ U o U' => ∃ v L, o = .returned v ∧ Q_rm4 Z a1 p4 ab x_states x_hashes x_zones x_sameStates x_held x_parents x_events x_ranks x_slots x_ranked x_reached x_taken k_ranked k_reached k_taken k_slots k_events k_zones f_events f_zones h0 n0 v U'.heap L ∧ FrameEnd U o U' L ({ frames := 2, cells := 0, slots := 0, locals := 30 } : Room).cells ({ frames := 2, cells := 0, slots := 0, locals := 30 } : Room).slots) := by
  refine MetFree.of_bodySF (plainFor_of_name pn_81) hisR ?_
  intro p e s m args below meth c s₁ Bd hml0 hP hK
  obtain ⟨rfl, hZ, hh⟩ := hP
  have hx := Bd.exec
  have hby := Bd.bytes
  have hml : c.maxLocals = 5 := hml0
  have hown : s.vm.findClass "com/example/tracewarden/tracewarden/engine/SearchTuples" = some m.cls := findClass_of_methodNamed Bd.named
  have hnm := (name_of_methodNamed Bd.named Bd.method).1
  have X0 : Stand p l e ({ frames := 2, cells := 0, slots := 0, locals := 30 } : Room) s m #[(.ref a1), (.int (1 : Int32)), (.int (3 : Int32)), (.int p4)] below meth c s₁ [] 0 0 := Stand.of_body Bd
  have e0 : s₁.heap = h0 := by rw [← hh, Bd.state]; rfl
  have N0 := Fr.nil n0
  show Go p e below (s₁.setTop (entryFrame m #[(.ref a1), (.int (1 : Int32)), (.int (3 : Int32)), (.int p4)] 5)) (fun o U' => ∃ v L, o = .returned v ∧ Q_rm4 Z a1 p4 ab x_states x_hashes x_zones x_sameStates x_held x_parents x_events x_ranks x_slots x_ranked x_reached x_taken k_ranked k_reached k_taken k_slots k_events k_zones f_events f_zones h0 n0 v U'.heap L ∧ FrameEnd s o U' L ({ frames := 2, cells := 0, slots := 0, locals := 30 } : Room).cells ({ frames := 2, cells := 0, slots := 0, locals := 30 } : Room).slots)
  rw [ef_rm4]
  refine Gk.aloadN X0 hx (hb hby d4_0) rfl rfl ?_
  refine Gk.iloadN X0 hx (hb hby d4_1) rfl ?_
  refine Gk.putF X0 hx hZ hown (host := "") (Or.inl (hw _ (List.mem_of_getElem? (i := 46) rfl))) Via.refl e0 F_width E_st (Or.inl (hw _ (List.mem_of_getElem? (i := 47) rfl))) (hw _ (List.mem_of_getElem? (i := 3) rfl)) (ty := .int) (by decide) rfl rfl (hb hby d4_2) ?_
  intro T1 h1 X1 e1 W1
  have Fw1 := F_width.same W1
  have N1 := Fr.snoc X1 N0 g_a1
  refine Gk.aloadN X1 hx (hb hby d4_5) rfl rfl ?_
  refine Gk.iloadN X1 hx (hb hby d4_6) rfl ?_
  have H2 := (E_st.wr W1)
  have H3 := (F_latestFirst.other W1 (Or.inr (slot_ne (Or.inl (hw _ (List.mem_of_getElem? (i := 62) rfl))) (Or.inl (hw _ (List.mem_of_getElem? (i := 47) rfl))) (by decide) (t := .boolean) (t' := .int) (by decide) (by decide))))
  refine Gk.putFN X1 hx hZ hown (hw _ (List.mem_of_getElem? (i := 61) rfl)) Via.refl e1 H3 H2 (Or.inl (hw _ (List.mem_of_getElem? (i := 62) rfl))) (hw _ (List.mem_of_getElem? (i := 3) rfl)) (ty := .boolean) (v' := (.int p4)) (by decide) (by rcases hlf with rfl | rfl <;> rfl) (by rcases hlf with rfl | rfl <;> rfl) (hb hby d4_7) ?_
  intro T4 h4 X4 e4 W4
  have Fw4 := H3.same W4
  have N4 := Fr.snoc X4 N1 g_a1
  refine Gk.aloadN X4 hx (hb hby d4_10) rfl rfl ?_
  have H5 := ((F_ranked.other W1 (Or.inr (slot_ne (Or.inl (hw _ (List.mem_of_getElem? (i := 51) rfl))) (Or.inl (hw _ (List.mem_of_getElem? (i := 47) rfl))) (by decide) (t := (.array (.array .int))) (t' := .int) (by decide) (by decide)))).other W4 (Or.inr (slot_ne (Or.inl (hw _ (List.mem_of_getElem? (i := 51) rfl))) (Or.inl (hw _ (List.mem_of_getElem? (i := 62) rfl))) (by decide) (t := (.array (.array .int))) (t' := .boolean) (by decide) (by decide))))
  refine Gk.getF X4 hx hZ hown (host := "") (Or.inl (hw _ (List.mem_of_getElem? (i := 50) rfl))) Via.refl e4 H5 (hb hby d4_11) ?_
  intro T6 X6 e6
  have ne7 : a1 ≠ x_ranked := (Nat.ne_of_lt (Nat.lt_trans lt0 (Nat.lt_trans lt1 (Nat.lt_trans lt2 (Nat.lt_trans lt3 (Nat.lt_trans lt4 (Nat.lt_trans lt5 (Nat.lt_trans lt6 (Nat.lt_trans lt7 (Nat.lt_trans lt8 lt9))))))))))
  have H8 := ((V_ranked.other W1 (Ne.symm ne7)).other W4 (Ne.symm ne7))
  refine Gk.alen X6 hx hZ e6 H8 (hb hby d4_14) ?_
  refine Gk.iloadN X6 hx (hb hby d4_15) rfl ?_
  refine Gk.icmpYes X6 hx (hb hby d4_16) (flt (by decide : ¬ ((3 : Int32) < (3 : Int32)))).2.1 94 (by decide) (by decide) ?_
  refine Gk.aloadN X6 hx (hb hby d4_94) rfl rfl ?_
  have H9 := ((F_reached.other W1 (Or.inr (slot_ne (Or.inl (hw _ (List.mem_of_getElem? (i := 53) rfl))) (Or.inl (hw _ (List.mem_of_getElem? (i := 47) rfl))) (by decide) (t := (.array .int)) (t' := .int) (by decide) (by decide)))).other W4 (Or.inr (slot_ne (Or.inl (hw _ (List.mem_of_getElem? (i := 53) rfl))) (Or.inl (hw _ (List.mem_of_getElem? (i := 62) rfl))) (by decide) (t := (.array .int)) (t' := .boolean) (by decide) (by decide))))
  refine Gk.getF X6 hx hZ hown (host := "") (Or.inl (hw _ (List.mem_of_getElem? (i := 52) rfl))) Via.refl e6 H9 (hb hby d4_95) ?_
  intro T10 X10 e10
  refine Gk.iconst X10 hx (hb hby d4_98) (0 : Int32) rfl ?_
  have ne12 : a1 ≠ x_reached := (Nat.ne_of_lt (Nat.lt_trans lt0 (Nat.lt_trans lt1 (Nat.lt_trans lt2 (Nat.lt_trans lt3 (Nat.lt_trans lt4 (Nat.lt_trans lt5 (Nat.lt_trans lt6 (Nat.lt_trans lt7 (Nat.lt_trans lt8 (Nat.lt_trans lt9 lt10)))))))))))
  have H13 := ((V_reached.other W1 (Ne.symm ne12)).other W4 (Ne.symm ne12))
  have gr14 := (Nat.le_trans (Keep.of_wr W1).1 (Keep.of_wr W4).1)
  refine Gk.callS (argsL := [(.ref x_reached), (.int (0 : Int32))]) X10 hx hZ hown (rm5 l Z a0 hw [] x_reached (3 : Int32) k_reached h4 n0 (Nat.le_trans Z0 gr14) H13 (Nat.le_trans g_a1 (Nat.le_of_lt (Nat.lt_trans lt0 (Nat.lt_trans lt1 (Nat.lt_trans lt2 (Nat.lt_trans lt3 (Nat.lt_trans lt4 (Nat.lt_trans lt5 (Nat.lt_trans lt6 (Nat.lt_trans lt7 (Nat.lt_trans lt8 (Nat.lt_trans lt9 lt10))))))))))))) (hw _ (List.mem_of_getElem? (i := 63) rfl)) (hw _ (List.mem_of_getElem? (i := 64) rfl)) (hw _ (List.mem_of_getElem? (i := 65) rfl)) (hw _ (List.mem_of_getElem? (i := 66) rfl)) (by decide) e10 pd_1 rfl rfl (by decide) (Nat.le_of_ble_eq_true rfl) (by decide) (by decide) (by rw [hml]; rfl)  rfl (hb hby d4_99) ?_
  intro T11 L11 v11 X11 hQ11
  obtain ⟨rfl, N11q, K11, Vf11⟩ := hQ11
  have N11 := Fr.app N4 N11q
  show Go p e below (T11.setTop (mkF m 102 #[.val (.ref a1), .val (.int (1 : Int32)), .val (.int (3 : Int32)), .val (.int p4), .unset] [])) _
  refine Gk.aloadN X11 hx (hb hby d4_102) rfl rfl ?_
  have H15 := (((F_taken.other W1 (Or.inr (slot_ne (Or.inl (hw _ (List.mem_of_getElem? (i := 55) rfl))) (Or.inl (hw _ (List.mem_of_getElem? (i := 47) rfl))) (by decide) (t := (.array .int)) (t' := .int) (by decide) (by decide)))).other W4 (Or.inr (slot_ne (Or.inl (hw _ (List.mem_of_getElem? (i := 55) rfl))) (Or.inl (hw _ (List.mem_of_getElem? (i := 62) rfl))) (by decide) (t := (.array .int)) (t' := .boolean) (by decide) (by decide)))).keep K11 (ninS ne12 nin0))
  refine Gk.getF X11 hx hZ hown (host := "") (Or.inl (hw _ (List.mem_of_getElem? (i := 54) rfl))) Via.refl rfl H15 (hb hby d4_103) ?_
  intro T16 X16 e16
  refine Gk.iconst X16 hx (hb hby d4_106) (0 : Int32) rfl ?_
  have ne18 : a1 ≠ x_taken := (Nat.ne_of_lt (Nat.lt_trans lt0 (Nat.lt_trans lt1 (Nat.lt_trans lt2 (Nat.lt_trans lt3 (Nat.lt_trans lt4 (Nat.lt_trans lt5 (Nat.lt_trans lt6 (Nat.lt_trans lt7 (Nat.lt_trans lt8 (Nat.lt_trans lt9 (Nat.lt_trans lt10 lt11))))))))))))
  have H19 := (((V_taken.other W1 (Ne.symm ne18)).other W4 (Ne.symm ne18)).keep K11 (ninS (Ne.symm (Nat.ne_of_lt lt11)) nin0))
  refine Gk.callS (argsL := [(.ref x_taken), (.int (0 : Int32))]) X16 hx hZ hown (rm5 l Z a0 hw [] x_taken (3 : Int32) k_taken T11.heap n0 (Nat.le_trans Z0 (Nat.le_trans gr14 K11.1)) H19 (Nat.le_trans g_a1 (Nat.le_of_lt (Nat.lt_trans lt0 (Nat.lt_trans lt1 (Nat.lt_trans lt2 (Nat.lt_trans lt3 (Nat.lt_trans lt4 (Nat.lt_trans lt5 (Nat.lt_trans lt6 (Nat.lt_trans lt7 (Nat.lt_trans lt8 (Nat.lt_trans lt9 (Nat.lt_trans lt10 lt11)))))))))))))) (hw _ (List.mem_of_getElem? (i := 63) rfl)) (hw _ (List.mem_of_getElem? (i := 64) rfl)) (hw _ (List.mem_of_getElem? (i := 65) rfl)) (hw _ (List.mem_of_getElem? (i := 66) rfl)) (by decide) e16 pd_1 rfl rfl (by decide) (Nat.le_of_ble_eq_true rfl) (by decide) (by decide) (by rw [hml]; rfl)  rfl (hb hby d4_107) ?_
  intro T17 L17 v17 X17 hQ17
  obtain ⟨rfl, N17q, K17, Vf17⟩ := hQ17
  have N17 := Fr.app N11 N17q
  show Go p e below (T17.setTop (mkF m 110 #[.val (.ref a1), .val (.int (1 : Int32)), .val (.int (3 : Int32)), .val (.int p4), .unset] [])) _
  refine Gk.aloadN X17 hx (hb hby d4_110) rfl rfl ?_
  have H20 := ((((F_slots.other W1 (Or.inr (slot_ne (Or.inl (hw _ (List.mem_of_getElem? (i := 43) rfl))) (Or.inl (hw _ (List.mem_of_getElem? (i := 47) rfl))) (by decide) (t := (.array .int)) (t' := .int) (by decide) (by decide)))).other W4 (Or.inr (slot_ne (Or.inl (hw _ (List.mem_of_getElem? (i := 43) rfl))) (Or.inl (hw _ (List.mem_of_getElem? (i := 62) rfl))) (by decide) (t := (.array .int)) (t' := .boolean) (by decide) (by decide)))).keep K11 (ninS ne12 nin0)).keep K17 (ninS ne18 nin0))
  refine Gk.getF X17 hx hZ hown (host := "") (Or.inl (hw _ (List.mem_of_getElem? (i := 42) rfl))) Via.refl rfl H20 (hb hby d4_111) ?_
  intro T21 X21 e21
  have ne22 : a1 ≠ x_slots := (Nat.ne_of_lt (Nat.lt_trans lt0 (Nat.lt_trans lt1 (Nat.lt_trans lt2 (Nat.lt_trans lt3 (Nat.lt_trans lt4 (Nat.lt_trans lt5 (Nat.lt_trans lt6 (Nat.lt_trans lt7 lt8)))))))))
  have ne23 : x_slots ≠ x_taken := (Nat.ne_of_lt (Nat.lt_trans lt9 (Nat.lt_trans lt10 lt11)))
  have H24 := ((((V_slots.other W1 (Ne.symm ne22)).other W4 (Ne.symm ne22)).keep K11 (ninS (Nat.ne_of_lt (Nat.lt_trans lt9 lt10)) nin0)).keep K17 (ninS ne23 nin0))
  refine Gk.alen X21 hx hZ e21 H24 (hb hby d4_114) ?_
  refine Gk.sipush X21 hx (hb hby d4_115) (4096 : Int32) rfl ?_
  refine Gk.icmpYes X21 hx (hb hby d4_118) (flt (by decide : ¬ ((4096 : Int32) < (32 : Int32)))).2.2.2 133 (by decide) (by decide) ?_
  refine Gk.aloadN X21 hx (hb hby d4_133) rfl rfl ?_
  refine Gk.getF X21 hx hZ hown (host := "") (Or.inl (hw _ (List.mem_of_getElem? (i := 42) rfl))) Via.refl e21 H20 (hb hby d4_134) ?_
  intro T25 X25 e25
  refine Gk.iconst X25 hx (hb hby d4_137) (0 : Int32) rfl ?_
  have gr27 := (Nat.le_trans (Nat.le_trans gr14 K11.1) K17.1)
  refine Gk.callS (argsL := [(.ref x_slots), (.int (0 : Int32))]) X25 hx hZ hown (rm5 l Z a0 hw [] x_slots (32 : Int32) k_slots T17.heap n0 (Nat.le_trans Z0 gr27) H24 (Nat.le_trans g_a1 (Nat.le_of_lt (Nat.lt_trans lt0 (Nat.lt_trans lt1 (Nat.lt_trans lt2 (Nat.lt_trans lt3 (Nat.lt_trans lt4 (Nat.lt_trans lt5 (Nat.lt_trans lt6 (Nat.lt_trans lt7 lt8))))))))))) (hw _ (List.mem_of_getElem? (i := 63) rfl)) (hw _ (List.mem_of_getElem? (i := 64) rfl)) (hw _ (List.mem_of_getElem? (i := 65) rfl)) (hw _ (List.mem_of_getElem? (i := 66) rfl)) (by decide) e25 pd_1 rfl rfl (by decide) (Nat.le_of_ble_eq_true rfl) (by decide) (by decide) (by rw [hml]; rfl)  rfl (hb hby d4_138) ?_
  intro T26 L26 v26 X26 hQ26
  obtain ⟨rfl, N26q, K26, Vf26⟩ := hQ26
  have N26 := Fr.app N17 N26q
  show Go p e below (T26.setTop (mkF m 141 #[.val (.ref a1), .val (.int (1 : Int32)), .val (.int (3 : Int32)), .val (.int p4), .unset] [])) _
  refine Gk.aloadN X26 hx (hb hby d4_141) rfl rfl ?_
  have H28 := (((((F_events.other W1 (Or.inr (slot_ne (Or.inl (hw _ (List.mem_of_getElem? (i := 39) rfl))) (Or.inl (hw _ (List.mem_of_getElem? (i := 47) rfl))) (by decide) (t := (.array (.object "com/example/tracewarden/tracewarden/engine/SearchTuples$Event"))) (t' := .int) (by decide) (by decide)))).other W4 (Or.inr (slot_ne (Or.inl (hw _ (List.mem_of_getElem? (i := 39) rfl))) (Or.inl (hw _ (List.mem_of_getElem? (i := 62) rfl))) (by decide) (t := (.array (.object "com/example/tracewarden/tracewarden/engine/SearchTuples$Event"))) (t' := .boolean) (by decide) (by decide)))).keep K11 (ninS ne12 nin0)).keep K17 (ninS ne18 nin0)).keep K26 (ninS ne22 nin0))
  refine Gk.getF X26 hx hZ hown (host := "") (Or.inl (hw _ (List.mem_of_getElem? (i := 38) rfl))) Via.refl rfl H28 (hb hby d4_142) ?_
  intro T29 X29 e29
  refine Gk.iconst X29 hx (hb hby d4_145) (0 : Int32) rfl ?_
  refine Gk.aloadN X29 hx (hb hby d4_146) rfl rfl ?_
  have H30 := (((((F_size.other W1 (Or.inr (slot_ne (Or.inl (hw _ (List.mem_of_getElem? (i := 68) rfl))) (Or.inl (hw _ (List.mem_of_getElem? (i := 47) rfl))) (by decide) (t := .int) (t' := .int) (by decide) (by decide)))).other W4 (Or.inr (slot_ne (Or.inl (hw _ (List.mem_of_getElem? (i := 68) rfl))) (Or.inl (hw _ (List.mem_of_getElem? (i := 62) rfl))) (by decide) (t := .int) (t' := .boolean) (by decide) (by decide)))).keep K11 (ninS ne12 nin0)).keep K17 (ninS ne18 nin0)).keep K26 (ninS ne22 nin0))
  refine Gk.getF X29 hx hZ hown (host := "") (Or.inl (hw _ (List.mem_of_getElem? (i := 67) rfl))) Via.refl e29 H30 (hb hby d4_147) ?_
  intro T31 X31 e31
  refine Gk.aconstNull X31 hx (hb hby d4_150) ?_
  have ne33 : a1 ≠ x_events := (Nat.ne_of_lt (Nat.lt_trans lt0 (Nat.lt_trans lt1 (Nat.lt_trans lt2 (Nat.lt_trans lt3 (Nat.lt_trans lt4 (Nat.lt_trans lt5 lt6)))))))
  have ne34 : x_events ≠ x_reached := (Nat.ne_of_lt (Nat.lt_trans lt7 (Nat.lt_trans lt8 (Nat.lt_trans lt9 lt10))))
  have ne35 : x_events ≠ x_taken := (Nat.ne_of_lt (Nat.lt_trans lt7 (Nat.lt_trans lt8 (Nat.lt_trans lt9 (Nat.lt_trans lt10 lt11)))))
  have H36 := (((((V_events.other W1 (Ne.symm ne33)).other W4 (Ne.symm ne33)).keep K11 (ninS ne34 nin0)).keep K17 (ninS ne35 nin0)).keep K26 (ninS (Nat.ne_of_lt (Nat.lt_trans lt7 lt8)) nin0))
  refine Gk.callS (argsL := [(.ref x_events), (.int (0 : Int32)), (.int (0 : Int32)), .null]) X31 hx hZ hown (rm6 l Z a0 hw [] x_events k_events (.object "com/example/tracewarden/tracewarden/engine/SearchTuples$Event") f_events T26.heap n0 (Nat.le_trans Z0 (Nat.le_trans gr27 K26.1)) H36) (hw _ (List.mem_of_getElem? (i := 69) rfl)) (hw _ (List.mem_of_getElem? (i := 70) rfl)) (hw _ (List.mem_of_getElem? (i := 65) rfl)) (hw _ (List.mem_of_getElem? (i := 71) rfl)) (by decide) e31 pd_2 rfl rfl (by decide) (Nat.le_of_ble_eq_true rfl) (by decide) (by decide) (by rw [hml]; rfl)  rfl (hb hby d4_151) ?_
  intro T32 L32 v32 X32 hQ32
  obtain ⟨rfl, N32q, e32⟩ := hQ32
  have N32 := Fr.app N26 N32q
  show Go p e below (T32.setTop (mkF m 154 #[.val (.ref a1), .val (.int (1 : Int32)), .val (.int (3 : Int32)), .val (.int p4), .unset] [])) _
  refine Gk.aloadN X32 hx (hb hby d4_154) rfl rfl ?_
  have H37 := (((((F_zones.other W1 (Or.inr (slot_ne (Or.inl (hw _ (List.mem_of_getElem? (i := 28) rfl))) (Or.inl (hw _ (List.mem_of_getElem? (i := 47) rfl))) (by decide) (t := (.array (.object "com/example/tracewarden/tracewarden/engine/Zone"))) (t' := .int) (by decide) (by decide)))).other W4 (Or.inr (slot_ne (Or.inl (hw _ (List.mem_of_getElem? (i := 28) rfl))) (Or.inl (hw _ (List.mem_of_getElem? (i := 62) rfl))) (by decide) (t := (.array (.object "com/example/tracewarden/tracewarden/engine/Zone"))) (t' := .boolean) (by decide) (by decide)))).keep K11 (ninS ne12 nin0)).keep K17 (ninS ne18 nin0)).keep K26 (ninS ne22 nin0))
  refine Gk.getF X32 hx hZ hown (host := "") (Or.inl (hw _ (List.mem_of_getElem? (i := 27) rfl))) Via.refl e32 H37 (hb hby d4_155) ?_
  intro T38 X38 e38
  refine Gk.iconst X38 hx (hb hby d4_158) (0 : Int32) rfl ?_
  refine Gk.aloadN X38 hx (hb hby d4_159) rfl rfl ?_
  refine Gk.getF X38 hx hZ hown (host := "") (Or.inl (hw _ (List.mem_of_getElem? (i := 67) rfl))) Via.refl e38 H30 (hb hby d4_160) ?_
  intro T39 X39 e39
  refine Gk.aconstNull X39 hx (hb hby d4_163) ?_
  have ne41 : a1 ≠ x_zones := (Nat.ne_of_lt (Nat.lt_trans lt0 (Nat.lt_trans lt1 lt2)))
  have ne42 : x_zones ≠ x_reached := (Nat.ne_of_lt (Nat.lt_trans lt3 (Nat.lt_trans lt4 (Nat.lt_trans lt5 (Nat.lt_trans lt6 (Nat.lt_trans lt7 (Nat.lt_trans lt8 (Nat.lt_trans lt9 lt10))))))))
  have ne43 : x_zones ≠ x_taken := (Nat.ne_of_lt (Nat.lt_trans lt3 (Nat.lt_trans lt4 (Nat.lt_trans lt5 (Nat.lt_trans lt6 (Nat.lt_trans lt7 (Nat.lt_trans lt8 (Nat.lt_trans lt9 (Nat.lt_trans lt10 lt11)))))))))
  have ne44 : x_zones ≠ x_slots := (Nat.ne_of_lt (Nat.lt_trans lt3 (Nat.lt_trans lt4 (Nat.lt_trans lt5 (Nat.lt_trans lt6 (Nat.lt_trans lt7 lt8))))))
  have H45 := (((((V_zones.other W1 (Ne.symm ne41)).other W4 (Ne.symm ne41)).keep K11 (ninS ne42 nin0)).keep K17 (ninS ne43 nin0)).keep K26 (ninS ne44 nin0))
  refine Gk.callS (argsL := [(.ref x_zones), (.int (0 : Int32)), (.int (0 : Int32)), .null]) X39 hx hZ hown (rm6 l Z a0 hw [] x_zones k_zones (.object "com/example/tracewarden/tracewarden/engine/Zone") f_zones T26.heap n0 (Nat.le_trans Z0 (Nat.le_trans gr27 K26.1)) H45) (hw _ (List.mem_of_getElem? (i := 69) rfl)) (hw _ (List.mem_of_getElem? (i := 70) rfl)) (hw _ (List.mem_of_getElem? (i := 65) rfl)) (hw _ (List.mem_of_getElem? (i := 71) rfl)) (by decide) e39 pd_2 rfl rfl (by decide) (Nat.le_of_ble_eq_true rfl) (by decide) (by decide) (by rw [hml]; rfl)  rfl (hb hby d4_164) ?_
  intro T40 L40 v40 X40 hQ40
  obtain ⟨rfl, N40q, e40⟩ := hQ40
  have N40 := Fr.app N32 N40q
  show Go p e below (T40.setTop (mkF m 167 #[.val (.ref a1), .val (.int (1 : Int32)), .val (.int (3 : Int32)), .val (.int p4), .unset] [])) _
  refine Gk.aloadN X40 hx (hb hby d4_167) rfl rfl ?_
  refine Gk.iconst X40 hx (hb hby d4_168) (0 : Int32) rfl ?_
  have H46 := ((((H2.wr W4).keep K11).keep K17).keep K26)
  refine Gk.putF X40 hx hZ hown (host := "") (Or.inl (hw _ (List.mem_of_getElem? (i := 67) rfl))) Via.refl e40 H30 H46 (Or.inl (hw _ (List.mem_of_getElem? (i := 68) rfl))) (hw _ (List.mem_of_getElem? (i := 3) rfl)) (ty := .int) (by decide) rfl rfl (hb hby d4_169) ?_
  intro T47 h47 X47 e47 W47
  have Fw47 := H30.same W47
  have N47 := Fr.snoc X47 N40 g_a1
  refine Gk.aloadN X47 hx (hb hby d4_172) rfl rfl ?_
  refine Gk.iconst X47 hx (hb hby d4_173) (0 : Int32) rfl ?_
  have H48 := (H46.wr W47)
  have H49 := ((((((F_lowest.other W1 (Or.inr (slot_ne (Or.inl (hw _ (List.mem_of_getElem? (i := 76) rfl))) (Or.inl (hw _ (List.mem_of_getElem? (i := 47) rfl))) (by decide) (t := .int) (t' := .int) (by decide) (by decide)))).other W4 (Or.inr (slot_ne (Or.inl (hw _ (List.mem_of_getElem? (i := 76) rfl))) (Or.inl (hw _ (List.mem_of_getElem? (i := 62) rfl))) (by decide) (t := .int) (t' := .boolean) (by decide) (by decide)))).keep K11 (ninS ne12 nin0)).keep K17 (ninS ne18 nin0)).keep K26 (ninS ne22 nin0)).other W47 (Or.inr (slot_ne (Or.inl (hw _ (List.mem_of_getElem? (i := 76) rfl))) (Or.inl (hw _ (List.mem_of_getElem? (i := 68) rfl))) (by decide) (t := .int) (t' := .int) (by decide) (by decide))))
  refine Gk.putF X47 hx hZ hown (host := "") (Or.inl (hw _ (List.mem_of_getElem? (i := 75) rfl))) Via.refl e47 H49 H48 (Or.inl (hw _ (List.mem_of_getElem? (i := 76) rfl))) (hw _ (List.mem_of_getElem? (i := 3) rfl)) (ty := .int) (by decide) rfl rfl (hb hby d4_174) ?_
  intro T50 h50 X50 e50 W50
  have Fw50 := H49.same W50
  have N50 := Fr.snoc X50 N47 g_a1
  have H51 := (((((((F_states.other W1 (Or.inr (slot_ne (Or.inl (hw _ (List.mem_of_getElem? (i := 22) rfl))) (Or.inl (hw _ (List.mem_of_getElem? (i := 47) rfl))) (by decide) (t := (.array .int)) (t' := .int) (by decide) (by decide)))).other W4 (Or.inr (slot_ne (Or.inl (hw _ (List.mem_of_getElem? (i := 22) rfl))) (Or.inl (hw _ (List.mem_of_getElem? (i := 62) rfl))) (by decide) (t := (.array .int)) (t' := .boolean) (by decide) (by decide)))).keep K11 (ninS ne12 nin0)).keep K17 (ninS ne18 nin0)).keep K26 (ninS ne22 nin0)).other W47 (Or.inr (slot_ne (Or.inl (hw _ (List.mem_of_getElem? (i := 22) rfl))) (Or.inl (hw _ (List.mem_of_getElem? (i := 68) rfl))) (by decide) (t := (.array .int)) (t' := .int) (by decide) (by decide)))).other W50 (Or.inr (slot_ne (Or.inl (hw _ (List.mem_of_getElem? (i := 22) rfl))) (Or.inl (hw _ (List.mem_of_getElem? (i := 76) rfl))) (by decide) (t := (.array .int)) (t' := .int) (by decide) (by decide))))
  have H52 := (((((((F_hashes.other W1 (Or.inr (slot_ne (Or.inl (hw _ (List.mem_of_getElem? (i := 24) rfl))) (Or.inl (hw _ (List.mem_of_getElem? (i := 47) rfl))) (by decide) (t := (.array .int)) (t' := .int) (by decide) (by decide)))).other W4 (Or.inr (slot_ne (Or.inl (hw _ (List.mem_of_getElem? (i := 24) rfl))) (Or.inl (hw _ (List.mem_of_getElem? (i := 62) rfl))) (by decide) (t := (.array .int)) (t' := .boolean) (by decide) (by decide)))).keep K11 (ninS ne12 nin0)).keep K17 (ninS ne18 nin0)).keep K26 (ninS ne22 nin0)).other W47 (Or.inr (slot_ne (Or.inl (hw _ (List.mem_of_getElem? (i := 24) rfl))) (Or.inl (hw _ (List.mem_of_getElem? (i := 68) rfl))) (by decide) (t := (.array .int)) (t' := .int) (by decide) (by decide)))).other W50 (Or.inr (slot_ne (Or.inl (hw _ (List.mem_of_getElem? (i := 24) rfl))) (Or.inl (hw _ (List.mem_of_getElem? (i := 76) rfl))) (by decide) (t := (.array .int)) (t' := .int) (by decide) (by decide))))
  have H53 := ((H37.other W47 (Or.inr (slot_ne (Or.inl (hw _ (List.mem_of_getElem? (i := 28) rfl))) (Or.inl (hw _ (List.mem_of_getElem? (i := 68) rfl))) (by decide) (t := (.array (.object "com/example/tracewarden/tracewarden/engine/Zone"))) (t' := .int) (by decide) (by decide)))).other W50 (Or.inr (slot_ne (Or.inl (hw _ (List.mem_of_getElem? (i := 28) rfl))) (Or.inl (hw _ (List.mem_of_getElem? (i := 76) rfl))) (by decide) (t := (.array (.object "com/example/tracewarden/tracewarden/engine/Zone"))) (t' := .int) (by decide) (by decide))))
  have H54 := (((((((F_sameStates.other W1 (Or.inr (slot_ne (Or.inl (hw _ (List.mem_of_getElem? (i := 30) rfl))) (Or.inl (hw _ (List.mem_of_getElem? (i := 47) rfl))) (by decide) (t := (.array .int)) (t' := .int) (by decide) (by decide)))).other W4 (Or.inr (slot_ne (Or.inl (hw _ (List.mem_of_getElem? (i := 30) rfl))) (Or.inl (hw _ (List.mem_of_getElem? (i := 62) rfl))) (by decide) (t := (.array .int)) (t' := .boolean) (by decide) (by decide)))).keep K11 (ninS ne12 nin0)).keep K17 (ninS ne18 nin0)).keep K26 (ninS ne22 nin0)).other W47 (Or.inr (slot_ne (Or.inl (hw _ (List.mem_of_getElem? (i := 30) rfl))) (Or.inl (hw _ (List.mem_of_getElem? (i := 68) rfl))) (by decide) (t := (.array .int)) (t' := .int) (by decide) (by decide)))).other W50 (Or.inr (slot_ne (Or.inl (hw _ (List.mem_of_getElem? (i := 30) rfl))) (Or.inl (hw _ (List.mem_of_getElem? (i := 76) rfl))) (by decide) (t := (.array .int)) (t' := .int) (by decide) (by decide))))
  have H55 := (((((((F_held.other W1 (Or.inr (slot_ne (Or.inl (hw _ (List.mem_of_getElem? (i := 33) rfl))) (Or.inl (hw _ (List.mem_of_getElem? (i := 47) rfl))) (by decide) (t := (.array .boolean)) (t' := .int) (by decide) (by decide)))).other W4 (Or.inr (slot_ne (Or.inl (hw _ (List.mem_of_getElem? (i := 33) rfl))) (Or.inl (hw _ (List.mem_of_getElem? (i := 62) rfl))) (by decide) (t := (.array .boolean)) (t' := .boolean) (by decide) (by decide)))).keep K11 (ninS ne12 nin0)).keep K17 (ninS ne18 nin0)).keep K26 (ninS ne22 nin0)).other W47 (Or.inr (slot_ne (Or.inl (hw _ (List.mem_of_getElem? (i := 33) rfl))) (Or.inl (hw _ (List.mem_of_getElem? (i := 68) rfl))) (by decide) (t := (.array .boolean)) (t' := .int) (by decide) (by decide)))).other W50 (Or.inr (slot_ne (Or.inl (hw _ (List.mem_of_getElem? (i := 33) rfl))) (Or.inl (hw _ (List.mem_of_getElem? (i := 76) rfl))) (by decide) (t := (.array .boolean)) (t' := .int) (by decide) (by decide))))
  have H56 := (((((((F_parents.other W1 (Or.inr (slot_ne (Or.inl (hw _ (List.mem_of_getElem? (i := 35) rfl))) (Or.inl (hw _ (List.mem_of_getElem? (i := 47) rfl))) (by decide) (t := (.array .int)) (t' := .int) (by decide) (by decide)))).other W4 (Or.inr (slot_ne (Or.inl (hw _ (List.mem_of_getElem? (i := 35) rfl))) (Or.inl (hw _ (List.mem_of_getElem? (i := 62) rfl))) (by decide) (t := (.array .int)) (t' := .boolean) (by decide) (by decide)))).keep K11 (ninS ne12 nin0)).keep K17 (ninS ne18 nin0)).keep K26 (ninS ne22 nin0)).other W47 (Or.inr (slot_ne (Or.inl (hw _ (List.mem_of_getElem? (i := 35) rfl))) (Or.inl (hw _ (List.mem_of_getElem? (i := 68) rfl))) (by decide) (t := (.array .int)) (t' := .int) (by decide) (by decide)))).other W50 (Or.inr (slot_ne (Or.inl (hw _ (List.mem_of_getElem? (i := 35) rfl))) (Or.inl (hw _ (List.mem_of_getElem? (i := 76) rfl))) (by decide) (t := (.array .int)) (t' := .int) (by decide) (by decide))))
  have H57 := ((H28.other W47 (Or.inr (slot_ne (Or.inl (hw _ (List.mem_of_getElem? (i := 39) rfl))) (Or.inl (hw _ (List.mem_of_getElem? (i := 68) rfl))) (by decide) (t := (.array (.object "com/example/tracewarden/tracewarden/engine/SearchTuples$Event"))) (t' := .int) (by decide) (by decide)))).other W50 (Or.inr (slot_ne (Or.inl (hw _ (List.mem_of_getElem? (i := 39) rfl))) (Or.inl (hw _ (List.mem_of_getElem? (i := 76) rfl))) (by decide) (t := (.array (.object "com/example/tracewarden/tracewarden/engine/SearchTuples$Event"))) (t' := .int) (by decide) (by decide))))
  have H58 := (((((((F_ranks.other W1 (Or.inr (slot_ne (Or.inl (hw _ (List.mem_of_getElem? (i := 41) rfl))) (Or.inl (hw _ (List.mem_of_getElem? (i := 47) rfl))) (by decide) (t := (.array .int)) (t' := .int) (by decide) (by decide)))).other W4 (Or.inr (slot_ne (Or.inl (hw _ (List.mem_of_getElem? (i := 41) rfl))) (Or.inl (hw _ (List.mem_of_getElem? (i := 62) rfl))) (by decide) (t := (.array .int)) (t' := .boolean) (by decide) (by decide)))).keep K11 (ninS ne12 nin0)).keep K17 (ninS ne18 nin0)).keep K26 (ninS ne22 nin0)).other W47 (Or.inr (slot_ne (Or.inl (hw _ (List.mem_of_getElem? (i := 41) rfl))) (Or.inl (hw _ (List.mem_of_getElem? (i := 68) rfl))) (by decide) (t := (.array .int)) (t' := .int) (by decide) (by decide)))).other W50 (Or.inr (slot_ne (Or.inl (hw _ (List.mem_of_getElem? (i := 41) rfl))) (Or.inl (hw _ (List.mem_of_getElem? (i := 76) rfl))) (by decide) (t := (.array .int)) (t' := .int) (by decide) (by decide))))
  have H59 := (((H20.keep K26 (ninS ne22 nin0)).other W47 (Or.inr (slot_ne (Or.inl (hw _ (List.mem_of_getElem? (i := 43) rfl))) (Or.inl (hw _ (List.mem_of_getElem? (i := 68) rfl))) (by decide) (t := (.array .int)) (t' := .int) (by decide) (by decide)))).other W50 (Or.inr (slot_ne (Or.inl (hw _ (List.mem_of_getElem? (i := 43) rfl))) (Or.inl (hw _ (List.mem_of_getElem? (i := 76) rfl))) (by decide) (t := (.array .int)) (t' := .int) (by decide) (by decide))))
  have H60 := (((((H5.keep K11 (ninS ne12 nin0)).keep K17 (ninS ne18 nin0)).keep K26 (ninS ne22 nin0)).other W47 (Or.inr (slot_ne (Or.inl (hw _ (List.mem_of_getElem? (i := 51) rfl))) (Or.inl (hw _ (List.mem_of_getElem? (i := 68) rfl))) (by decide) (t := (.array (.array .int))) (t' := .int) (by decide) (by decide)))).other W50 (Or.inr (slot_ne (Or.inl (hw _ (List.mem_of_getElem? (i := 51) rfl))) (Or.inl (hw _ (List.mem_of_getElem? (i := 76) rfl))) (by decide) (t := (.array (.array .int))) (t' := .int) (by decide) (by decide))))
  have H61 := (((((H9.keep K11 (ninS ne12 nin0)).keep K17 (ninS ne18 nin0)).keep K26 (ninS ne22 nin0)).other W47 (Or.inr (slot_ne (Or.inl (hw _ (List.mem_of_getElem? (i := 53) rfl))) (Or.inl (hw _ (List.mem_of_getElem? (i := 68) rfl))) (by decide) (t := (.array .int)) (t' := .int) (by decide) (by decide)))).other W50 (Or.inr (slot_ne (Or.inl (hw _ (List.mem_of_getElem? (i := 53) rfl))) (Or.inl (hw _ (List.mem_of_getElem? (i := 76) rfl))) (by decide) (t := (.array .int)) (t' := .int) (by decide) (by decide))))
  have H62 := ((((H15.keep K17 (ninS ne18 nin0)).keep K26 (ninS ne22 nin0)).other W47 (Or.inr (slot_ne (Or.inl (hw _ (List.mem_of_getElem? (i := 55) rfl))) (Or.inl (hw _ (List.mem_of_getElem? (i := 68) rfl))) (by decide) (t := (.array .int)) (t' := .int) (by decide) (by decide)))).other W50 (Or.inr (slot_ne (Or.inl (hw _ (List.mem_of_getElem? (i := 55) rfl))) (Or.inl (hw _ (List.mem_of_getElem? (i := 76) rfl))) (by decide) (t := (.array .int)) (t' := .int) (by decide) (by decide))))
  have H63 := (((((((F_budget.other W1 (Or.inr (slot_ne (Or.inr (hw _ (List.mem_of_getElem? (i := 45) rfl))) (Or.inl (hw _ (List.mem_of_getElem? (i := 47) rfl))) (by decide) (t := (.object "com/example/tracewarden/tracewarden/engine/SearchBudget")) (t' := .int) (by decide) (by decide)))).other W4 (Or.inr (slot_ne (Or.inr (hw _ (List.mem_of_getElem? (i := 45) rfl))) (Or.inl (hw _ (List.mem_of_getElem? (i := 62) rfl))) (by decide) (t := (.object "com/example/tracewarden/tracewarden/engine/SearchBudget")) (t' := .boolean) (by decide) (by decide)))).keep K11 (ninS ne12 nin0)).keep K17 (ninS ne18 nin0)).keep K26 (ninS ne22 nin0)).other W47 (Or.inr (slot_ne (Or.inr (hw _ (List.mem_of_getElem? (i := 45) rfl))) (Or.inl (hw _ (List.mem_of_getElem? (i := 68) rfl))) (by decide) (t := (.object "com/example/tracewarden/tracewarden/engine/SearchBudget")) (t' := .int) (by decide) (by decide)))).other W50 (Or.inr (slot_ne (Or.inr (hw _ (List.mem_of_getElem? (i := 45) rfl))) (Or.inl (hw _ (List.mem_of_getElem? (i := 76) rfl))) (by decide) (t := (.object "com/example/tracewarden/tracewarden/engine/SearchBudget")) (t' := .int) (by decide) (by decide))))
  have H64 := ((((((Fw1.other W4 (Or.inr (slot_ne (Or.inl (hw _ (List.mem_of_getElem? (i := 47) rfl))) (Or.inl (hw _ (List.mem_of_getElem? (i := 62) rfl))) (by decide) (t := .int) (t' := .boolean) (by decide) (by decide)))).keep K11 (ninS ne12 nin0)).keep K17 (ninS ne18 nin0)).keep K26 (ninS ne22 nin0)).other W47 (Or.inr (slot_ne (Or.inl (hw _ (List.mem_of_getElem? (i := 47) rfl))) (Or.inl (hw _ (List.mem_of_getElem? (i := 68) rfl))) (by decide) (t := .int) (t' := .int) (by decide) (by decide)))).other W50 (Or.inr (slot_ne (Or.inl (hw _ (List.mem_of_getElem? (i := 47) rfl))) (Or.inl (hw _ (List.mem_of_getElem? (i := 76) rfl))) (by decide) (t := .int) (t' := .int) (by decide) (by decide))))
  have H65 := (Fw47.other W50 (Or.inr (slot_ne (Or.inl (hw _ (List.mem_of_getElem? (i := 68) rfl))) (Or.inl (hw _ (List.mem_of_getElem? (i := 76) rfl))) (by decide) (t := .int) (t' := .int) (by decide) (by decide))))
  have H66 := (((((Fw4.keep K11 (ninS ne12 nin0)).keep K17 (ninS ne18 nin0)).keep K26 (ninS ne22 nin0)).other W47 (Or.inr (slot_ne (Or.inl (hw _ (List.mem_of_getElem? (i := 62) rfl))) (Or.inl (hw _ (List.mem_of_getElem? (i := 68) rfl))) (by decide) (t := .boolean) (t' := .int) (by decide) (by decide)))).other W50 (Or.inr (slot_ne (Or.inl (hw _ (List.mem_of_getElem? (i := 62) rfl))) (Or.inl (hw _ (List.mem_of_getElem? (i := 76) rfl))) (by decide) (t := .boolean) (t' := .int) (by decide) (by decide))))
  have H67 := ((((Vf11.keep K17 (ninS (Nat.ne_of_lt lt11) nin0)).keep K26 (ninS (Ne.symm (Nat.ne_of_lt (Nat.lt_trans lt9 lt10))) nin0)).other W47 (Ne.symm ne12)).other W50 (Ne.symm ne12))
  have H68 := (((Vf17.keep K26 (ninS (Ne.symm ne23) nin0)).other W47 (Ne.symm ne18)).other W50 (Ne.symm ne18))
  have H69 := ((Vf26.other W47 (Ne.symm ne22)).other W50 (Ne.symm ne22))
  refine Go.fin X50 (v := none) (fun _ => rfl) Bd.notSynchronized (fun _ hr => X50.returnOut hx Bd.returns (hb hby d4_177) hr) (fun U' hU hF => ⟨_, _, rfl, ?_, hF.1, hF.2.1, hF.2.2.mono (by decide) (by decide)⟩)
  rw [hU, e50]
  exact ⟨rfl, N50, ((((((((Keep.refl h0 [a1, x_reached, x_taken, x_slots]).wr W1 (Or.inl (List.mem_of_getElem? (i := 0) rfl))).wr W4 (Or.inl (List.mem_of_getElem? (i := 0) rfl))).trans K11 (allS (Or.inl (List.mem_of_getElem? (i := 1) rfl)) all0)).trans K17 (allS (Or.inl (List.mem_of_getElem? (i := 2) rfl)) all0)).trans K26 (allS (Or.inl (List.mem_of_getElem? (i := 3) rfl)) all0)).wr W47 (Or.inl (List.mem_of_getElem? (i := 0) rfl))).wr W50 (Or.inl (List.mem_of_getElem? (i := 0) rfl))), H51, H52, H53, H54, H55, H56, H57, H58, H59, H60, H61, H62, H63, H64, H65, Fw50, H66, H67, H68, H69⟩
theorem d8_0 : decode method_2_code 0 = .ok (.iload_n 0, 1) := by decide +kernel
theorem d8_1 : decode method_2_code 1 = .ok (.i2l, 1) := by decide +kernel
theorem d8_2 : decode method_2_code 2 = .ok (.ldc2_w 7, 3) := by decide +kernel
theorem d8_5 : decode method_2_code 5 = .ok (.land, 1) := by decide +kernel
theorem d8_6 : decode method_2_code 6 = .ok (.ldc2_w 9, 3) := by decide +kernel
theorem d8_9 : decode method_2_code 9 = .ok (.lmul, 1) := by decide +kernel
theorem d8_10 : decode method_2_code 10 = .ok (.lstore_n 1, 1) := by decide +kernel
theorem d8_11 : decode method_2_code 11 = .ok (.lload_n 1, 1) := by decide +kernel
theorem d8_12 : decode method_2_code 12 = .ok (.bipush 32, 2) := by decide +kernel
theorem d8_14 : decode method_2_code 14 = .ok (.lushr, 1) := by decide +kernel
theorem d8_15 : decode method_2_code 15 = .ok (.l2i, 1) := by decide +kernel
theorem d8_16 : decode method_2_code 16 = .ok (.lload_n 1, 1) := by decide +kernel
theorem d8_17 : decode method_2_code 17 = .ok (.l2i, 1) := by decide +kernel
theorem d8_18 : decode method_2_code 18 = .ok (.ixor, 1) := by decide +kernel
theorem d8_19 : decode method_2_code 19 = .ok (.ireturn, 1) := by decide +kernel
theorem pn_182 : plainName "com/example/tracewarden/tracewarden/engine/SearchTuplesPollPinLaw" = true := by first | (simp [plainName, overriddenIn]; done) | decide +kernel
theorem ef_rm8_0 (m : MethodId)  : entryFrame m #[(.int (0 : Int32))] 3 = mkF m 0 #[.val (.int (0 : Int32)), .unset, .unset] [] := by first | (simp [entryFrame, mkF, argsToLocals, Value.category]; done) | rfl
def Q_rm8_0 (Z : State)  (h0 : Heap) (n0 : Nat) (v : Option Value) (h : Heap) (L : List Loc) : Prop := v = some (.int (0 : Int32)) ∧ Fr n0 L ∧ h = h0
set_option maxRecDepth 65536 in
set_option maxHeartbeats 40000000 in
theorem rm8_0 (l : Launch) (Z : State) (a0 : Array Value) (hw : ∀ d ∈ tables_1, d.before a0 Z = true) (ws : List Jvm.Cond)  (h0 : Heap) (n0 : Nat) (Z0 : n0 ≤ h0.size) :
    MetFree l (⟨"com/example/tracewarden/tracewarden/engine/SearchTuplesPollPinLaw", "code", "(I)I"⟩ : MethodName) (head1 (Jvm.Cond.code (⟨"com/example/tracewarden/tracewarden/engine/SearchTuplesPollPinLaw", "code", "(I)I"⟩ : MethodName) method_2_code 3 (some .int) :: ws) ({ frames := 0, cells := 0, slots := 0, locals := 0 } : Room)) (fun a U => a = #[(.int (0 : Int32))] ∧ Z.Warmed39 U.vm ∧ U.heap = h0) (fun _ _ _ _ _ => True) (fun _ U o U' => ∃ v L, o = .returned v ∧ Q_rm8_0 Z  h0 n0 v U'.heap L ∧ FrameEnd U o U' L ({ frames := 0, cells := 0, slots := 0, locals := 0 } : Room).cells ({ frames := 0, cells := 0, slots := 0, locals := 0 } : Room).slots) := by
  refine MetFree.of_bodySF (plainFor_of_name pn_182) hisR ?_
  intro p e s m args below meth c s₁ Bd hml0 hP hK
  obtain ⟨rfl, hZ, hh⟩ := hP
  have hx := Bd.exec
  have hby := Bd.bytes
  have hml : c.maxLocals = 3 := hml0
  have hown : s.vm.findClass "com/example/tracewarden/tracewarden/engine/SearchTuplesPollPinLaw" = some m.cls := findClass_of_methodNamed Bd.named
  have hnm := (name_of_methodNamed Bd.named Bd.method).1
  have X0 : Stand p l e ({ frames := 0, cells := 0, slots := 0, locals := 0 } : Room) s m #[(.int (0 : Int32))] below meth c s₁ [] 0 0 := Stand.of_body Bd
  have e0 : s₁.heap = h0 := by rw [← hh, Bd.state]; rfl
  have N0 := Fr.nil n0
  show Go p e below (s₁.setTop (entryFrame m #[(.int (0 : Int32))] 3)) (fun o U' => ∃ v L, o = .returned v ∧ Q_rm8_0 Z  h0 n0 v U'.heap L ∧ FrameEnd s o U' L ({ frames := 0, cells := 0, slots := 0, locals := 0 } : Room).cells ({ frames := 0, cells := 0, slots := 0, locals := 0 } : Room).slots)
  rw [ef_rm8_0]
  refine Gk.iloadN X0 hx (hb hby d8_0) rfl ?_
  refine Gk.i2l X0 hx (hb hby d8_1) (0 : Int64) (by decide) ?_
  refine Gk.ldcL X0 hx hZ hown (hw _ (List.mem_of_getElem? (i := 81) rfl)) (hb hby d8_2) ?_
  refine Gk.land X0 hx (hb hby d8_5) (0 : Int64) (by decide) ?_
  refine Gk.ldcL X0 hx hZ hown (hw _ (List.mem_of_getElem? (i := 82) rfl)) (hb hby d8_6) ?_
  refine Gk.lmul X0 hx (hb hby d8_9) (0 : Int64) (by decide) ?_
  refine Gk.lstoreN X0 hx (hb hby d8_10) #[.val (.int (0 : Int32)), .val (.long (0 : Int64)), .second] rfl ?_
  refine Gk.lloadN X0 hx (hb hby d8_11) rfl ?_
  refine Gk.bipush X0 hx (hb hby d8_12) (32 : Int32) rfl ?_
  refine Gk.lushr X0 hx (hb hby d8_14) (0 : Int64) (by decide) ?_
  refine Gk.l2i X0 hx (hb hby d8_15) (0 : Int32) (by decide) ?_
  refine Gk.lloadN X0 hx (hb hby d8_16) rfl ?_
  refine Gk.l2i X0 hx (hb hby d8_17) (0 : Int32) (by decide) ?_
  refine Gk.ixor X0 hx (hb hby d8_18) (0 : Int32) (by decide) ?_
  refine Go.fin X0 (v := some (.int (0 : Int32))) (fun h_ => by rw [Bd.returns] at h_; cases h_) Bd.notSynchronized (fun _ hr => retOut X0 hx Bd.returns rfl (Or.inl ⟨rfl, Or.inl rfl, _, rfl⟩) (hb hby d8_19) hr) (fun U' hU hF => ⟨_, _, rfl, ?_, hF.1, hF.2.1, hF.2.2.mono (by decide) (by decide)⟩)
  rw [hU, e0]
  exact ⟨(congrArg (fun z_ : Int32 => some (Value.int z_)) (show (0 : Int32) = (0 : Int32) from rfl)), N0, rfl⟩
theorem ef_rm8_1 (m : MethodId)  : entryFrame m #[(.int (1 : Int32))] 3 = mkF m 0 #[.val (.int (1 : Int32)), .unset, .unset] [] := by first | (simp [entryFrame, mkF, argsToLocals, Value.category]; done) | rfl
def Q_rm8_1 (Z : State)  (h0 : Heap) (n0 : Nat) (v : Option Value) (h : Heap) (L : List Loc) : Prop := v = some (.int (-511900244 : Int32)) ∧ Fr n0 L ∧ h = h0
set_option maxRecDepth 65536 in
set_option maxHeartbeats 40000000 in
theorem rm8_1 (l : Launch) (Z : State) (a0 : Array Value) (hw : ∀ d ∈ tables_1, d.before a0 Z = true) (ws : List Jvm.Cond)  (h0 : Heap) (n0 : Nat) (Z0 : n0 ≤ h0.size) :
    MetFree l (⟨"com/example/tracewarden/tracewarden/engine/SearchTuplesPollPinLaw", "code", "(I)I"⟩ : MethodName) (head1 (Jvm.Cond.code (⟨"com/example/tracewarden/tracewarden/engine/SearchTuplesPollPinLaw", "code", "(I)I"⟩ : MethodName) method_2_code 3 (some .int) :: ws) ({ frames := 0, cells := 0, slots := 0, locals := 0 } : Room)) (fun a U => a = #[(.int (1 : Int32))] ∧ Z.Warmed39 U.vm ∧ U.heap = h0) (fun _ _ _ _ _ => True) (fun _ U o U' => ∃ v L, o = .returned v ∧ Q_rm8_1 Z  h0 n0 v U'.heap L ∧ FrameEnd U o U' L ({ frames := 0, cells := 0, slots := 0, locals := 0 } : Room).cells ({ frames := 0, cells := 0, slots := 0, locals := 0 } : Room).slots) := by
  refine MetFree.of_bodySF (plainFor_of_name pn_182) hisR ?_
  intro p e s m args below meth c s₁ Bd hml0 hP hK
  obtain ⟨rfl, hZ, hh⟩ := hP
  have hx := Bd.exec
  have hby := Bd.bytes
  have hml : c.maxLocals = 3 := hml0
  have hown : s.vm.findClass "com/example/tracewarden/tracewarden/engine/SearchTuplesPollPinLaw" = some m.cls := findClass_of_methodNamed Bd.named
  have hnm := (name_of_methodNamed Bd.named Bd.method).1
  have X0 : Stand p l e ({ frames := 0, cells := 0, slots := 0, locals := 0 } : Room) s m #[(.int (1 : Int32))] below meth c s₁ [] 0 0 := Stand.of_body Bd
  have e0 : s₁.heap = h0 := by rw [← hh, Bd.state]; rfl
  have N0 := Fr.nil n0
  show Go p e below (s₁.setTop (entryFrame m #[(.int (1 : Int32))] 3)) (fun o U' => ∃ v L, o = .returned v ∧ Q_rm8_1 Z  h0 n0 v U'.heap L ∧ FrameEnd s o U' L ({ frames := 0, cells := 0, slots := 0, locals := 0 } : Room).cells ({ frames := 0, cells := 0, slots := 0, locals := 0 } : Room).slots)
  rw [ef_rm8_1]
  refine Gk.iloadN X0 hx (hb hby d8_0) rfl ?_
  refine Gk.i2l X0 hx (hb hby d8_1) (1 : Int64) (by decide) ?_
  refine Gk.ldcL X0 hx hZ hown (hw _ (List.mem_of_getElem? (i := 81) rfl)) (hb hby d8_2) ?_
  refine Gk.land X0 hx (hb hby d8_5) (1 : Int64) (by decide) ?_
  refine Gk.ldcL X0 hx hZ hown (hw _ (List.mem_of_getElem? (i := 82) rfl)) (hb hby d8_6) ?_
  refine Gk.lmul X0 hx (hb hby d8_9) (-7046029254386353131 : Int64) (by decide) ?_
  refine Gk.lstoreN X0 hx (hb hby d8_10) #[.val (.int (1 : Int32)), .val (.long (-7046029254386353131 : Int64)), .second] rfl ?_
  refine Gk.lloadN X0 hx (hb hby d8_11) rfl ?_
  refine Gk.bipush X0 hx (hb hby d8_12) (32 : Int32) rfl ?_
  refine Gk.lushr X0 hx (hb hby d8_14) (2654435769 : Int64) (by decide) ?_
  refine Gk.l2i X0 hx (hb hby d8_15) (-1640531527 : Int32) (by decide) ?_
  refine Gk.lloadN X0 hx (hb hby d8_16) rfl ?_
  refine Gk.l2i X0 hx (hb hby d8_17) (2135587861 : Int32) (by decide) ?_
  refine Gk.ixor X0 hx (hb hby d8_18) (-511900244 : Int32) (by decide) ?_
  refine Go.fin X0 (v := some (.int (-511900244 : Int32))) (fun h_ => by rw [Bd.returns] at h_; cases h_) Bd.notSynchronized (fun _ hr => retOut X0 hx Bd.returns rfl (Or.inl ⟨rfl, Or.inl rfl, _, rfl⟩) (hb hby d8_19) hr) (fun U' hU hF => ⟨_, _, rfl, ?_, hF.1, hF.2.1, hF.2.2.mono (by decide) (by decide)⟩)
  rw [hU, e0]
  exact ⟨(congrArg (fun z_ : Int32 => some (Value.int z_)) (show (-511900244 : Int32) = (-511900244 : Int32) from rfl)), N0, rfl⟩
theorem ef_rm8_2 (m : MethodId)  : entryFrame m #[(.int (2 : Int32))] 3 = mkF m 0 #[.val (.int (2 : Int32)), .unset, .unset] [] := by first | (simp [entryFrame, mkF, argsToLocals, Value.category]; done) | rfl
def Q_rm8_2 (Z : State)  (h0 : Heap) (n0 : Nat) (v : Option Value) (h : Heap) (L : List Loc) : Prop := v = some (.int (-1023800488 : Int32)) ∧ Fr n0 L ∧ h = h0
set_option maxRecDepth 65536 in
set_option maxHeartbeats 40000000 in
theorem rm8_2 (l : Launch) (Z : State) (a0 : Array Value) (hw : ∀ d ∈ tables_1, d.before a0 Z = true) (ws : List Jvm.Cond)  (h0 : Heap) (n0 : Nat) (Z0 : n0 ≤ h0.size) :
    MetFree l (⟨"com/example/tracewarden/tracewarden/engine/SearchTuplesPollPinLaw", "code", "(I)I"⟩ : MethodName) (head1 (Jvm.Cond.code (⟨"com/example/tracewarden/tracewarden/engine/SearchTuplesPollPinLaw", "code", "(I)I"⟩ : MethodName) method_2_code 3 (some .int) :: ws) ({ frames := 0, cells := 0, slots := 0, locals := 0 } : Room)) (fun a U => a = #[(.int (2 : Int32))] ∧ Z.Warmed39 U.vm ∧ U.heap = h0) (fun _ _ _ _ _ => True) (fun _ U o U' => ∃ v L, o = .returned v ∧ Q_rm8_2 Z  h0 n0 v U'.heap L ∧ FrameEnd U o U' L ({ frames := 0, cells := 0, slots := 0, locals := 0 } : Room).cells ({ frames := 0, cells := 0, slots := 0, locals := 0 } : Room).slots) := by
  refine MetFree.of_bodySF (plainFor_of_name pn_182) hisR ?_
  intro p e s m args below meth c s₁ Bd hml0 hP hK
  obtain ⟨rfl, hZ, hh⟩ := hP
  have hx := Bd.exec
  have hby := Bd.bytes
  have hml : c.maxLocals = 3 := hml0
  have hown : s.vm.findClass "com/example/tracewarden/tracewarden/engine/SearchTuplesPollPinLaw" = some m.cls := findClass_of_methodNamed Bd.named
  have hnm := (name_of_methodNamed Bd.named Bd.method).1
  have X0 : Stand p l e ({ frames := 0, cells := 0, slots := 0, locals := 0 } : Room) s m #[(.int (2 : Int32))] below meth c s₁ [] 0 0 := Stand.of_body Bd
  have e0 : s₁.heap = h0 := by rw [← hh, Bd.state]; rfl
  have N0 := Fr.nil n0
  show Go p e below (s₁.setTop (entryFrame m #[(.int (2 : Int32))] 3)) (fun o U' => ∃ v L, o = .returned v ∧ Q_rm8_2 Z  h0 n0 v U'.heap L ∧ FrameEnd s o U' L ({ frames := 0, cells := 0, slots := 0, locals := 0 } : Room).cells ({ frames := 0, cells := 0, slots := 0, locals := 0 } : Room).slots)
  rw [ef_rm8_2]
  refine Gk.iloadN X0 hx (hb hby d8_0) rfl ?_
  refine Gk.i2l X0 hx (hb hby d8_1) (2 : Int64) (by decide) ?_
  refine Gk.ldcL X0 hx hZ hown (hw _ (List.mem_of_getElem? (i := 81) rfl)) (hb hby d8_2) ?_
  refine Gk.land X0 hx (hb hby d8_5) (2 : Int64) (by decide) ?_
  refine Gk.ldcL X0 hx hZ hown (hw _ (List.mem_of_getElem? (i := 82) rfl)) (hb hby d8_6) ?_
  refine Gk.lmul X0 hx (hb hby d8_9) (4354685564936845354 : Int64) (by decide) ?_
  refine Gk.lstoreN X0 hx (hb hby d8_10) #[.val (.int (2 : Int32)), .val (.long (4354685564936845354 : Int64)), .second] rfl ?_
  refine Gk.lloadN X0 hx (hb hby d8_11) rfl ?_
  refine Gk.bipush X0 hx (hb hby d8_12) (32 : Int32) rfl ?_
  refine Gk.lushr X0 hx (hb hby d8_14) (1013904242 : Int64) (by decide) ?_
  refine Gk.l2i X0 hx (hb hby d8_15) (1013904242 : Int32) (by decide) ?_
  refine Gk.lloadN X0 hx (hb hby d8_16) rfl ?_
  refine Gk.l2i X0 hx (hb hby d8_17) (-23791574 : Int32) (by decide) ?_
  refine Gk.ixor X0 hx (hb hby d8_18) (-1023800488 : Int32) (by decide) ?_
  refine Go.fin X0 (v := some (.int (-1023800488 : Int32))) (fun h_ => by rw [Bd.returns] at h_; cases h_) Bd.notSynchronized (fun _ hr => retOut X0 hx Bd.returns rfl (Or.inl ⟨rfl, Or.inl rfl, _, rfl⟩) (hb hby d8_19) hr) (fun U' hU hF => ⟨_, _, rfl, ?_, hF.1, hF.2.1, hF.2.2.mono (by decide) (by decide)⟩)
  rw [hU, e0]
  exact ⟨(congrArg (fun z_ : Int32 => some (Value.int z_)) (show (-1023800488 : Int32) = (-1023800488 : Int32) from rfl)), N0, rfl⟩
theorem d17_0 : decode prog_86_method_21_code 0 = .ok (.iload_n 0, 1) := by decide +kernel
theorem d17_1 : decode prog_86_method_21_code 1 = .ok (.i2l, 1) := by decide +kernel
theorem d17_2 : decode prog_86_method_21_code 2 = .ok (.bipush 32, 2) := by decide +kernel
theorem d17_4 : decode prog_86_method_21_code 4 = .ok (.lshl, 1) := by decide +kernel
theorem d17_5 : decode prog_86_method_21_code 5 = .ok (.iload_n 1, 1) := by decide +kernel
theorem d17_6 : decode prog_86_method_21_code 6 = .ok (.i2l, 1) := by decide +kernel
theorem d17_7 : decode prog_86_method_21_code 7 = .ok (.ldc2_w 150, 3) := by decide +kernel
theorem d17_10 : decode prog_86_method_21_code 10 = .ok (.land, 1) := by decide +kernel
theorem d17_11 : decode prog_86_method_21_code 11 = .ok (.lor, 1) := by decide +kernel
theorem d17_12 : decode prog_86_method_21_code 12 = .ok (.ldc2_w 152, 3) := by decide +kernel
theorem d17_15 : decode prog_86_method_21_code 15 = .ok (.lmul, 1) := by decide +kernel
theorem d17_16 : decode prog_86_method_21_code 16 = .ok (.lstore_n 2, 1) := by decide +kernel
theorem d17_17 : decode prog_86_method_21_code 17 = .ok (.lload_n 2, 1) := by decide +kernel
theorem d17_18 : decode prog_86_method_21_code 18 = .ok (.bipush 32, 2) := by decide +kernel
theorem d17_20 : decode prog_86_method_21_code 20 = .ok (.lushr, 1) := by decide +kernel
theorem d17_21 : decode prog_86_method_21_code 21 = .ok (.l2i, 1) := by decide +kernel
theorem d17_22 : decode prog_86_method_21_code 22 = .ok (.lload_n 2, 1) := by decide +kernel
theorem d17_23 : decode prog_86_method_21_code 23 = .ok (.l2i, 1) := by decide +kernel
theorem d17_24 : decode prog_86_method_21_code 24 = .ok (.ixor, 1) := by decide +kernel
theorem d17_25 : decode prog_86_method_21_code 25 = .ok (.ireturn, 1) := by decide +kernel
theorem ef_rm17_0 (m : MethodId)  : entryFrame m #[(.int (0 : Int32)), (.int (0 : Int32))] 4 = mkF m 0 #[.val (.int (0 : Int32)), .val (.int (0 : Int32)), .unset, .unset] [] := by first | (simp [entryFrame, mkF, argsToLocals, Value.category]; done) | rfl
def Q_rm17_0 (Z : State)  (h0 : Heap) (n0 : Nat) (v : Option Value) (h : Heap) (L : List Loc) : Prop := v = some (.int (0 : Int32)) ∧ Fr n0 L ∧ h = h0
set_option maxRecDepth 65536 in
set_option maxHeartbeats 40000000 in
theorem rm17_0 (l : Launch) (Z : State) (a0 : Array Value) (hw : ∀ d ∈ tables_1, d.before a0 Z = true) (ws : List Jvm.Cond)  (h0 : Heap) (n0 : Nat) (Z0 : n0 ≤ h0.size) :
    MetFree l (⟨"com/example/tracewarden/tracewarden/engine/SearchTuples", "code", "(II)I"⟩ : MethodName) (head1 (Jvm.Cond.code (⟨"com/example/tracewarden/tracewarden/engine/SearchTuples", "code", "(II)I"⟩ : MethodName) prog_86_method_21_code 4 (some .int) :: ws) ({ frames := 0, cells := 0, slots := 0, locals := 0 } : Room)) (fun a U => a = #[(.int (0 : Int32)), (.int (0 : Int32))] ∧ Z.Warmed39 U.vm ∧ U.heap = h0) (fun _ _ _ _ _ => True) (fun _ U o U' => ∃ v L, o = .returned v ∧ Q_rm17_0 Z  h0 n0 v U'.heap L ∧ FrameEnd U o U' L ({ frames := 0, cells := 0, slots := 0, locals := 0 } : Room).cells ({ frames := 0, cells := 0, slots := 0, locals := 0 } : Room).slots) := by
  refine MetFree.of_bodySF (plainFor_of_name pn_81) hisR ?_
  intro p e s m args below meth c s₁ Bd hml0 hP hK
  obtain ⟨rfl, hZ, hh⟩ := hP
  have hx := Bd.exec
  have hby := Bd.bytes
  have hml : c.maxLocals = 4 := hml0
  have hown : s.vm.findClass "com/example/tracewarden/tracewarden/engine/SearchTuples" = some m.cls := findClass_of_methodNamed Bd.named
  have hnm := (name_of_methodNamed Bd.named Bd.method).1
  have X0 : Stand p l e ({ frames := 0, cells := 0, slots := 0, locals := 0 } : Room) s m #[(.int (0 : Int32)), (.int (0 : Int32))] below meth c s₁ [] 0 0 := Stand.of_body Bd
  have e0 : s₁.heap = h0 := by rw [← hh, Bd.state]; rfl
  have N0 := Fr.nil n0
  show Go p e below (s₁.setTop (entryFrame m #[(.int (0 : Int32)), (.int (0 : Int32))] 4)) (fun o U' => ∃ v L, o = .returned v ∧ Q_rm17_0 Z  h0 n0 v U'.heap L ∧ FrameEnd s o U' L ({ frames := 0, cells := 0, slots := 0, locals := 0 } : Room).cells ({ frames := 0, cells := 0, slots := 0, locals := 0 } : Room).slots)
  rw [ef_rm17_0]
  refine Gk.iloadN X0 hx (hb hby d17_0) rfl ?_
  refine Gk.i2l X0 hx (hb hby d17_1) (0 : Int64) (by decide) ?_
  refine Gk.bipush X0 hx (hb hby d17_2) (32 : Int32) rfl ?_
  refine Gk.lshl X0 hx (hb hby d17_4) (0 : Int64) (by decide) ?_
  refine Gk.iloadN X0 hx (hb hby d17_5) rfl ?_
  refine Gk.i2l X0 hx (hb hby d17_6) (0 : Int64) (by decide) ?_
  refine Gk.ldcL X0 hx hZ hown (hw _ (List.mem_of_getElem? (i := 125) rfl)) (hb hby d17_7) ?_
  refine Gk.land X0 hx (hb hby d17_10) (0 : Int64) (by decide) ?_
  refine Gk.lor X0 hx (hb hby d17_11) (0 : Int64) (by decide) ?_
  refine Gk.ldcL X0 hx hZ hown (hw _ (List.mem_of_getElem? (i := 126) rfl)) (hb hby d17_12) ?_
  refine Gk.lmul X0 hx (hb hby d17_15) (0 : Int64) (by decide) ?_
  refine Gk.lstoreN X0 hx (hb hby d17_16) #[.val (.int (0 : Int32)), .val (.int (0 : Int32)), .val (.long (0 : Int64)), .second] rfl ?_
  refine Gk.lloadN X0 hx (hb hby d17_17) rfl ?_
  refine Gk.bipush X0 hx (hb hby d17_18) (32 : Int32) rfl ?_
  refine Gk.lushr X0 hx (hb hby d17_20) (0 : Int64) (by decide) ?_
  refine Gk.l2i X0 hx (hb hby d17_21) (0 : Int32) (by decide) ?_
  refine Gk.lloadN X0 hx (hb hby d17_22) rfl ?_
  refine Gk.l2i X0 hx (hb hby d17_23) (0 : Int32) (by decide) ?_
  refine Gk.ixor X0 hx (hb hby d17_24) (0 : Int32) (by decide) ?_
  refine Go.fin X0 (v := some (.int (0 : Int32))) (fun h_ => by rw [Bd.returns] at h_; cases h_) Bd.notSynchronized (fun _ hr => retOut X0 hx Bd.returns rfl (Or.inl ⟨rfl, Or.inl rfl, _, rfl⟩) (hb hby d17_25) hr) (fun U' hU hF => ⟨_, _, rfl, ?_, hF.1, hF.2.1, hF.2.2.mono (by decide) (by decide)⟩)
  rw [hU, e0]
  exact ⟨(congrArg (fun z_ : Int32 => some (Value.int z_)) (show (0 : Int32) = (0 : Int32) from rfl)), N0, rfl⟩
theorem pd_3 : parseMethodDescriptor "(II)I" = some ⟨[.int, .int], some .int⟩ := by decide +kernel
theorem d16_0 : decode prog_86_method_20_code 0 = .ok (.iconst 0, 1) := by decide +kernel
theorem d16_1 : decode prog_86_method_20_code 1 = .ok (.istore_n 3, 1) := by decide +kernel
theorem d16_2 : decode prog_86_method_20_code 2 = .ok (.iconst 0, 1) := by decide +kernel
theorem d16_3 : decode prog_86_method_20_code 3 = .ok (.istore 4, 2) := by decide +kernel
theorem d16_5 : decode prog_86_method_20_code 5 = .ok (.iload 4, 2) := by decide +kernel
theorem d16_7 : decode prog_86_method_20_code 7 = .ok (.iload_n 2, 1) := by decide +kernel
theorem d16_8 : decode prog_86_method_20_code 8 = .ok (.if_icmp .ge 23, 3) := by decide +kernel
theorem d16_11 : decode prog_86_method_20_code 11 = .ok (.iload_n 3, 1) := by decide +kernel
theorem d16_12 : decode prog_86_method_20_code 12 = .ok (.iload 4, 2) := by decide +kernel
theorem d16_14 : decode prog_86_method_20_code 14 = .ok (.aload_n 0, 1) := by decide +kernel
theorem d16_15 : decode prog_86_method_20_code 15 = .ok (.iload_n 1, 1) := by decide +kernel
theorem d16_16 : decode prog_86_method_20_code 16 = .ok (.iload 4, 2) := by decide +kernel
theorem d16_18 : decode prog_86_method_20_code 18 = .ok (.iadd, 1) := by decide +kernel
theorem d16_19 : decode prog_86_method_20_code 19 = .ok (.iaload, 1) := by decide +kernel
theorem d16_20 : decode prog_86_method_20_code 20 = .ok (.invokestatic 96, 3) := by decide +kernel
theorem d16_23 : decode prog_86_method_20_code 23 = .ok (.iadd, 1) := by decide +kernel
theorem d16_24 : decode prog_86_method_20_code 24 = .ok (.istore_n 3, 1) := by decide +kernel
theorem d16_25 : decode prog_86_method_20_code 25 = .ok (.iinc 4 1, 3) := by decide +kernel
theorem d16_28 : decode prog_86_method_20_code 28 = .ok (.goto (-23), 3) := by decide +kernel
theorem d16_31 : decode prog_86_method_20_code 31 = .ok (.iload_n 3, 1) := by decide +kernel
theorem d16_32 : decode prog_86_method_20_code 32 = .ok (.ireturn, 1) := by decide +kernel
theorem ef_rm16_0 (m : MethodId) (a1 : Addr) : entryFrame m #[(.ref a1), (.int (0 : Int32)), (.int (1 : Int32))] 5 = mkF m 0 #[.val (.ref a1), .val (.int (0 : Int32)), .val (.int (1 : Int32)), .unset, .unset] [] := by first | (simp [entryFrame, mkF, argsToLocals, Value.category]; done) | rfl
def Q_rm16_0 (Z : State) (a1 : Addr) (kt : ClassId) (ft : Nat → Value) (h0 : Heap) (n0 : Nat) (v : Option Value) (h : Heap) (L : List Loc) : Prop := v = some (.int (0 : Int32)) ∧ Fr n0 L ∧ h = h0
set_option maxRecDepth 65536 in
set_option maxHeartbeats 40000000 in
theorem rm16_0 (l : Launch) (Z : State) (a0 : Array Value) (hw : ∀ d ∈ tables_1, d.before a0 Z = true) (ws : List Jvm.Cond) (a1 : Addr) (kt : ClassId) (ft : Nat → Value) (h0 : Heap) (n0 : Nat) (Z0 : n0 ≤ h0.size) (V_t : Arf Z h0 a1 kt .int (1 : Int32) ft) (ht0 : ft 0 = (.int (0 : Int32))) :
    MetFree l (⟨"com/example/tracewarden/tracewarden/engine/SearchTuples", "hash", "([III)I"⟩ : MethodName) (head1 (Jvm.Cond.code (⟨"com/example/tracewarden/tracewarden/engine/SearchTuples", "hash", "([III)I"⟩ : MethodName) prog_86_method_20_code 5 (some .int) :: ws) ({ frames := 1, cells := 0, slots := 0, locals := 16 } : Room)) (fun a U => a = #[(.ref a1), (.int (0 : Int32)), (.int (1 : Int32))] ∧ Z.Warmed39 U.vm ∧ U.heap = h0) (fun _ _ _ _ _ => True) (fun _ U o U' => ∃ v L, o = .returned v ∧ Q_rm16_0 Z a1 kt ft h0 n0 v U'.heap L ∧ FrameEnd U o U' L ({ frames := 1, cells := 0, slots := 0, locals := 16 } : Room).cells ({ frames := 1, cells := 0, slots := 0, locals := 16 } : Room).slots) := by
  refine MetFree.of_bodySF (plainFor_of_name pn_81) hisR ?_
  intro p e s m args below meth c s₁ Bd hml0 hP hK
  obtain ⟨rfl, hZ, hh⟩ := hP
  have hx := Bd.exec
  have hby := Bd.bytes
  have hml : c.maxLocals = 5 := hml0
  have hown : s.vm.findClass "com/example/tracewarden/tracewarden/engine/SearchTuples" = some m.cls := findClass_of_methodNamed Bd.named
  have hnm := (name_of_methodNamed Bd.named Bd.method).1
  have X0 : Stand p l e ({ frames := 1, cells := 0, slots := 0, locals := 16 } : Room) s m #[(.ref a1), (.int (0 : Int32)), (.int (1 : Int32))] below meth c s₁ [] 0 0 := Stand.of_body Bd
  have e0 : s₁.heap = h0 := by rw [← hh, Bd.state]; rfl
  have N0 := Fr.nil n0
  show Go p e below (s₁.setTop (entryFrame m #[(.ref a1), (.int (0 : Int32)), (.int (1 : Int32))] 5)) (fun o U' => ∃ v L, o = .returned v ∧ Q_rm16_0 Z a1 kt ft h0 n0 v U'.heap L ∧ FrameEnd s o U' L ({ frames := 1, cells := 0, slots := 0, locals := 16 } : Room).cells ({ frames := 1, cells := 0, slots := 0, locals := 16 } : Room).slots)
  rw [ef_rm16_0]
  refine Gk.iconst X0 hx (hb hby d16_0) (0 : Int32) rfl ?_
  refine Gk.istoreN X0 hx (hb hby d16_1) #[.val (.ref a1), .val (.int (0 : Int32)), .val (.int (1 : Int32)), .val (.int (0 : Int32)), .unset] rfl ?_
  refine Gk.iconst X0 hx (hb hby d16_2) (0 : Int32) rfl ?_
  refine Gk.istore X0 hx (hb hby d16_3) #[.val (.ref a1), .val (.int (0 : Int32)), .val (.int (1 : Int32)), .val (.int (0 : Int32)), .val (.int (0 : Int32))] rfl ?_
  refine Gk.iload X0 hx (hb hby d16_5) rfl ?_
  refine Gk.iloadN X0 hx (hb hby d16_7) rfl ?_
  refine Gk.icmpNo X0 hx (hb hby d16_8) (tlt (by decide : (0 : Int32) < (1 : Int32))).2.1 ?_
  refine Gk.iloadN X0 hx (hb hby d16_11) rfl ?_
  refine Gk.iload X0 hx (hb hby d16_12) rfl ?_
  refine Gk.aloadN X0 hx (hb hby d16_14) rfl rfl ?_
  refine Gk.iloadN X0 hx (hb hby d16_15) rfl ?_
  refine Gk.iload X0 hx (hb hby d16_16) rfl ?_
  refine Gk.iadd X0 hx (hb hby d16_18) (0 : Int32) (by decide) ?_
  refine Gk.iaload X0 hx hZ e0 V_t ⟨by decide, by decide⟩ (.int (0 : Int32)) ht0 (hb hby d16_19) ?_
  refine Gk.callS (argsL := [(.int (0 : Int32)), (.int (0 : Int32))]) X0 hx hZ hown (rm17_0 l Z a0 hw []  h0 n0 Z0) (hw _ (List.mem_of_getElem? (i := 122) rfl)) (hw _ (List.mem_of_getElem? (i := 123) rfl)) (hw _ (List.mem_of_getElem? (i := 4) rfl)) (hw _ (List.mem_of_getElem? (i := 124) rfl)) (by decide) e0 pd_3 rfl rfl (by decide) (Nat.le_of_ble_eq_true rfl) (by decide) (by decide) (by rw [hml]; rfl)  rfl (hb hby d16_20) ?_
  intro T2 L2 v2 X2 hQ2
  obtain ⟨rfl, N2q, e2⟩ := hQ2
  have N2 := Fr.app N0 N2q
  show Go p e below (T2.setTop (mkF m 23 #[.val (.ref a1), .val (.int (0 : Int32)), .val (.int (1 : Int32)), .val (.int (0 : Int32)), .val (.int (0 : Int32))] [(.int (0 : Int32)), (.int (0 : Int32))])) _
  refine Gk.iadd X2 hx (hb hby d16_23) (0 : Int32) (by decide) ?_
  refine Gk.istoreN X2 hx (hb hby d16_24) #[.val (.ref a1), .val (.int (0 : Int32)), .val (.int (1 : Int32)), .val (.int (0 : Int32)), .val (.int (0 : Int32))] rfl ?_
  refine Gk.iinc X2 hx (hb hby d16_25) rfl #[.val (.ref a1), .val (.int (0 : Int32)), .val (.int (1 : Int32)), .val (.int (0 : Int32)), .val (.int (1 : Int32))] rfl ?_
  refine Gk.goto X2 hx (hb hby d16_28) 5 (by decide) (by decide) ?_
  refine Gk.iload X2 hx (hb hby d16_5) rfl ?_
  refine Gk.iloadN X2 hx (hb hby d16_7) rfl ?_
  refine Gk.icmpYes X2 hx (hb hby d16_8) (flt (by decide : ¬ ((1 : Int32) < (1 : Int32)))).2.1 31 (by decide) (by decide) ?_
  refine Gk.iloadN X2 hx (hb hby d16_31) rfl ?_
  refine Go.fin X2 (v := some (.int (0 : Int32))) (fun h_ => by rw [Bd.returns] at h_; cases h_) Bd.notSynchronized (fun _ hr => retOut X2 hx Bd.returns rfl (Or.inl ⟨rfl, Or.inl rfl, _, rfl⟩) (hb hby d16_32) hr) (fun U' hU hF => ⟨_, _, rfl, ?_, hF.1, hF.2.1, hF.2.2.mono (by decide) (by decide)⟩)
  rw [hU, e2]
  exact ⟨(congrArg (fun z_ : Int32 => some (Value.int z_)) (show (0 : Int32) = (0 : Int32) from rfl)), N2, rfl⟩
theorem pd_4 : parseMethodDescriptor "([III)I" = some ⟨[(.array .int), .int, .int], some .int⟩ := by decide +kernel
theorem d15_0 : decode prog_86_method_7_code 0 = .ok (.aload_n 1, 1) := by decide +kernel
theorem d15_1 : decode prog_86_method_7_code 1 = .ok (.iconst 0, 1) := by decide +kernel
theorem d15_2 : decode prog_86_method_7_code 2 = .ok (.aload_n 0, 1) := by decide +kernel
theorem d15_3 : decode prog_86_method_7_code 3 = .ok (.getfield 48, 3) := by decide +kernel
theorem d15_6 : decode prog_86_method_7_code 6 = .ok (.invokestatic 92, 3) := by decide +kernel
theorem d15_9 : decode prog_86_method_7_code 9 = .ok (.ireturn, 1) := by decide +kernel
theorem ef_rm15_0 (m : MethodId) (a1 : Addr) (a2 : Addr) : entryFrame m #[(.ref a1), (.ref a2)] 2 = mkF m 0 #[.val (.ref a1), .val (.ref a2)] [] := by first | (simp [entryFrame, mkF, argsToLocals, Value.category]; done) | rfl
def Q_rm15_0 (Z : State) (a1 : Addr) (a2 : Addr) (kt : ClassId) (ft : Nat → Value) (h0 : Heap) (n0 : Nat) (v : Option Value) (h : Heap) (L : List Loc) : Prop := v = some (.int (0 : Int32)) ∧ Fr n0 L ∧ h = h0
set_option maxRecDepth 65536 in
set_option maxHeartbeats 40000000 in
theorem rm15_0 (l : Launch) (Z : State) (a0 : Array Value) (hw : ∀ d ∈ tables_1, d.before a0 Z = true) (ws : List Jvm.Cond) (a1 : Addr) (a2 : Addr) (kt : ClassId) (ft : Nat → Value) (h0 : Heap) (n0 : Nat) (Z0 : n0 ≤ h0.size) (V_t : Arf Z h0 a2 kt .int (1 : Int32) ft) (ht0 : ft 0 = (.int (0 : Int32))) (F_width : Fld Z h0 a1 "com/example/tracewarden/tracewarden/engine/SearchTuples" "width" "I" (.int (1 : Int32))) :
    MetFree l (⟨"com/example/tracewarden/tracewarden/engine/SearchTuples", "hash", "([I)I"⟩ : MethodName) (head1 (Jvm.Cond.code (⟨"com/example/tracewarden/tracewarden/engine/SearchTuples", "hash", "([I)I"⟩ : MethodName) prog_86_method_7_code 2 (some .int) :: ws) ({ frames := 2, cells := 0, slots := 0, locals := 32 } : Room)) (fun a U => a = #[(.ref a1), (.ref a2)] ∧ Z.Warmed39 U.vm ∧ U.heap = h0) (fun _ _ _ _ _ => True) (fun _ U o U' => ∃ v L, o = .returned v ∧ Q_rm15_0 Z a1 a2 kt ft h0 n0 v U'.heap L ∧ FrameEnd U o U' L ({ frames := 2, cells := 0, slots := 0, locals := 32 } : Room).cells ({ frames := 2, cells := 0, slots := 0, locals := 32 } : Room).slots) := by
  refine MetFree.of_bodySF (plainFor_of_name pn_81) hisR ?_
  intro p e s m args below meth c s₁ Bd hml0 hP hK
  obtain ⟨rfl, hZ, hh⟩ := hP
  have hx := Bd.exec
  have hby := Bd.bytes
  have hml : c.maxLocals = 2 := hml0
  have hown : s.vm.findClass "com/example/tracewarden/tracewarden/engine/SearchTuples" = some m.cls := findClass_of_methodNamed Bd.named
  have hnm := (name_of_methodNamed Bd.named Bd.method).1
  have X0 : Stand p l e ({ frames := 2, cells := 0, slots := 0, locals := 32 } : Room) s m #[(.ref a1), (.ref a2)] below meth c s₁ [] 0 0 := Stand.of_body Bd
  have e0 : s₁.heap = h0 := by rw [← hh, Bd.state]; rfl
  have N0 := Fr.nil n0
  show Go p e below (s₁.setTop (entryFrame m #[(.ref a1), (.ref a2)] 2)) (fun o U' => ∃ v L, o = .returned v ∧ Q_rm15_0 Z a1 a2 kt ft h0 n0 v U'.heap L ∧ FrameEnd s o U' L ({ frames := 2, cells := 0, slots := 0, locals := 32 } : Room).cells ({ frames := 2, cells := 0, slots := 0, locals := 32 } : Room).slots)
  rw [ef_rm15_0]
  refine Gk.aloadN X0 hx (hb hby d15_0) rfl rfl ?_
  refine Gk.iconst X0 hx (hb hby d15_1) (0 : Int32) rfl ?_
  refine Gk.aloadN X0 hx (hb hby d15_2) rfl rfl ?_
  refine Gk.getF X0 hx hZ hown (host := "") (Or.inl (hw _ (List.mem_of_getElem? (i := 46) rfl))) Via.refl e0 F_width (hb hby d15_3) ?_
  intro T1 X1 e1
  refine Gk.callS (argsL := [(.ref a2), (.int (0 : Int32)), (.int (1 : Int32))]) X1 hx hZ hown (rm16_0 l Z a0 hw [] a2 kt ft h0 n0 Z0 V_t ht0) (hw _ (List.mem_of_getElem? (i := 119) rfl)) (hw _ (List.mem_of_getElem? (i := 120) rfl)) (hw _ (List.mem_of_getElem? (i := 4) rfl)) (hw _ (List.mem_of_getElem? (i := 121) rfl)) (by decide) e1 pd_4 rfl rfl (by decide) (Nat.le_of_ble_eq_true rfl) (by decide) (by decide) (by rw [hml]; rfl)  rfl (hb hby d15_6) ?_
  intro T2 L2 v2 X2 hQ2
  obtain ⟨rfl, N2q, e2⟩ := hQ2
  have N2 := Fr.app N0 N2q
  show Go p e below (T2.setTop (mkF m 9 #[.val (.ref a1), .val (.ref a2)] [(.int (0 : Int32))])) _
  refine Go.fin X2 (v := some (.int (0 : Int32))) (fun h_ => by rw [Bd.returns] at h_; cases h_) Bd.notSynchronized (fun _ hr => retOut X2 hx Bd.returns rfl (Or.inl ⟨rfl, Or.inl rfl, _, rfl⟩) (hb hby d15_9) hr) (fun U' hU hF => ⟨_, _, rfl, ?_, hF.1, hF.2.1, hF.2.2.mono (by decide) (by decide)⟩)
  rw [hU, e2]
  exact ⟨(congrArg (fun z_ : Int32 => some (Value.int z_)) (show (0 : Int32) = (0 : Int32) from rfl)), N2, rfl⟩
theorem ef_rm17_1 (m : MethodId)  : entryFrame m #[(.int (0 : Int32)), (.int (1 : Int32))] 4 = mkF m 0 #[.val (.int (0 : Int32)), .val (.int (1 : Int32)), .unset, .unset] [] := by first | (simp [entryFrame, mkF, argsToLocals, Value.category]; done) | rfl
def Q_rm17_1 (Z : State)  (h0 : Heap) (n0 : Nat) (v : Option Value) (h : Heap) (L : List Loc) : Prop := v = some (.int (-511900244 : Int32)) ∧ Fr n0 L ∧ h = h0
set_option maxRecDepth 65536 in
set_option maxHeartbeats 40000000 in
theorem rm17_1 (l : Launch) (Z : State) (a0 : Array Value) (hw : ∀ d ∈ tables_1, d.before a0 Z = true) (ws : List Jvm.Cond)  (h0 : Heap) (n0 : Nat) (Z0 : n0 ≤ h0.size) :
    MetFree l (⟨"com/example/tracewarden/tracewarden/engine/SearchTuples", "code", "(II)I"⟩ : MethodName) (head1 (Jvm.Cond.code (⟨"com/example/tracewarden/tracewarden/engine/SearchTuples", "code", "(II)I"⟩ : MethodName) prog_86_method_21_code 4 (some .int) :: ws) ({ frames := 0, cells := 0, slots := 0, locals := 0 } : Room)) (fun a U => a = #[(.int (0 : Int32)), (.int (1 : Int32))] ∧ Z.Warmed39 U.vm ∧ U.heap = h0) (fun _ _ _ _ _ => True) (fun _ U o U' => ∃ v L, o = .returned v ∧ Q_rm17_1 Z  h0 n0 v U'.heap L ∧ FrameEnd U o U' L ({ frames := 0, cells := 0, slots := 0, locals := 0 } : Room).cells ({ frames := 0, cells := 0, slots := 0, locals := 0 } : Room).slots) := by
  refine MetFree.of_bodySF (plainFor_of_name pn_81) hisR ?_
  intro p e s m args below meth c s₁ Bd hml0 hP hK
  obtain ⟨rfl, hZ, hh⟩ := hP
  have hx := Bd.exec
  have hby := Bd.bytes
  have hml : c.maxLocals = 4 := hml0
  have hown : s.vm.findClass "com/example/tracewarden/tracewarden/engine/SearchTuples" = some m.cls := findClass_of_methodNamed Bd.named
  have hnm := (name_of_methodNamed Bd.named Bd.method).1
  have X0 : Stand p l e ({ frames := 0, cells := 0, slots := 0, locals := 0 } : Room) s m #[(.int (0 : Int32)), (.int (1 : Int32))] below meth c s₁ [] 0 0 := Stand.of_body Bd
  have e0 : s₁.heap = h0 := by rw [← hh, Bd.state]; rfl
  have N0 := Fr.nil n0
  show Go p e below (s₁.setTop (entryFrame m #[(.int (0 : Int32)), (.int (1 : Int32))] 4)) (fun o U' => ∃ v L, o = .returned v ∧ Q_rm17_1 Z  h0 n0 v U'.heap L ∧ FrameEnd s o U' L ({ frames := 0, cells := 0, slots := 0, locals := 0 } : Room).cells ({ frames := 0, cells := 0, slots := 0, locals := 0 } : Room).slots)
  rw [ef_rm17_1]
  refine Gk.iloadN X0 hx (hb hby d17_0) rfl ?_
  refine Gk.i2l X0 hx (hb hby d17_1) (0 : Int64) (by decide) ?_
  refine Gk.bipush X0 hx (hb hby d17_2) (32 : Int32) rfl ?_
  refine Gk.lshl X0 hx (hb hby d17_4) (0 : Int64) (by decide) ?_
  refine Gk.iloadN X0 hx (hb hby d17_5) rfl ?_
  refine Gk.i2l X0 hx (hb hby d17_6) (1 : Int64) (by decide) ?_
  refine Gk.ldcL X0 hx hZ hown (hw _ (List.mem_of_getElem? (i := 125) rfl)) (hb hby d17_7) ?_
  refine Gk.land X0 hx (hb hby d17_10) (1 : Int64) (by decide) ?_
  refine Gk.lor X0 hx (hb hby d17_11) (1 : Int64) (by decide) ?_
  refine Gk.ldcL X0 hx hZ hown (hw _ (List.mem_of_getElem? (i := 126) rfl)) (hb hby d17_12) ?_
  refine Gk.lmul X0 hx (hb hby d17_15) (-7046029254386353131 : Int64) (by decide) ?_
  refine Gk.lstoreN X0 hx (hb hby d17_16) #[.val (.int (0 : Int32)), .val (.int (1 : Int32)), .val (.long (-7046029254386353131 : Int64)), .second] rfl ?_
  refine Gk.lloadN X0 hx (hb hby d17_17) rfl ?_
  refine Gk.bipush X0 hx (hb hby d17_18) (32 : Int32) rfl ?_
  refine Gk.lushr X0 hx (hb hby d17_20) (2654435769 : Int64) (by decide) ?_
  refine Gk.l2i X0 hx (hb hby d17_21) (-1640531527 : Int32) (by decide) ?_
  refine Gk.lloadN X0 hx (hb hby d17_22) rfl ?_
  refine Gk.l2i X0 hx (hb hby d17_23) (2135587861 : Int32) (by decide) ?_
  refine Gk.ixor X0 hx (hb hby d17_24) (-511900244 : Int32) (by decide) ?_
  refine Go.fin X0 (v := some (.int (-511900244 : Int32))) (fun h_ => by rw [Bd.returns] at h_; cases h_) Bd.notSynchronized (fun _ hr => retOut X0 hx Bd.returns rfl (Or.inl ⟨rfl, Or.inl rfl, _, rfl⟩) (hb hby d17_25) hr) (fun U' hU hF => ⟨_, _, rfl, ?_, hF.1, hF.2.1, hF.2.2.mono (by decide) (by decide)⟩)
  rw [hU, e0]
  exact ⟨(congrArg (fun z_ : Int32 => some (Value.int z_)) (show (-511900244 : Int32) = (-511900244 : Int32) from rfl)), N0, rfl⟩
theorem ef_rm16_1 (m : MethodId) (a1 : Addr) : entryFrame m #[(.ref a1), (.int (0 : Int32)), (.int (1 : Int32))] 5 = mkF m 0 #[.val (.ref a1), .val (.int (0 : Int32)), .val (.int (1 : Int32)), .unset, .unset] [] := by first | (simp [entryFrame, mkF, argsToLocals, Value.category]; done) | rfl
def Q_rm16_1 (Z : State) (a1 : Addr) (kt : ClassId) (ft : Nat → Value) (h0 : Heap) (n0 : Nat) (v : Option Value) (h : Heap) (L : List Loc) : Prop := v = some (.int (-511900244 : Int32)) ∧ Fr n0 L ∧ h = h0
set_option maxRecDepth 65536 in
set_option maxHeartbeats 40000000 in
theorem rm16_1 (l : Launch) (Z : State) (a0 : Array Value) (hw : ∀ d ∈ tables_1, d.before a0 Z = true) (ws : List Jvm.Cond) (a1 : Addr) (kt : ClassId) (ft : Nat → Value) (h0 : Heap) (n0 : Nat) (Z0 : n0 ≤ h0.size) (V_t : Arf Z h0 a1 kt .int (1 : Int32) ft) (ht0 : ft 0 = (.int (1 : Int32))) :
    MetFree l (⟨"com/example/tracewarden/tracewarden/engine/SearchTuples", "hash", "([III)I"⟩ : MethodName) (head1 (Jvm.Cond.code (⟨"com/example/tracewarden/tracewarden/engine/SearchTuples", "hash", "([III)I"⟩ : MethodName) prog_86_method_20_code 5 (some .int) :: ws) ({ frames := 1, cells := 0, slots := 0, locals := 16 } : Room)) (fun a U => a = #[(.ref a1), (.int (0 : Int32)), (.int (1 : Int32))] ∧ Z.Warmed39 U.vm ∧ U.heap = h0) (fun _ _ _ _ _ => True) (fun _ U o U' => ∃ v L, o = .returned v ∧ Q_rm16_1 Z a1 kt ft h0 n0 v U'.heap L ∧ FrameEnd U o U' L ({ frames := 1, cells := 0, slots := 0, locals := 16 } : Room).cells ({ frames := 1, cells := 0, slots := 0, locals := 16 } : Room).slots) := by
  refine MetFree.of_bodySF (plainFor_of_name pn_81) hisR ?_
  intro p e s m args below meth c s₁ Bd hml0 hP hK
  obtain ⟨rfl, hZ, hh⟩ := hP
  have hx := Bd.exec
  have hby := Bd.bytes
  have hml : c.maxLocals = 5 := hml0
  have hown : s.vm.findClass "com/example/tracewarden/tracewarden/engine/SearchTuples" = some m.cls := findClass_of_methodNamed Bd.named
  have hnm := (name_of_methodNamed Bd.named Bd.method).1
  have X0 : Stand p l e ({ frames := 1, cells := 0, slots := 0, locals := 16 } : Room) s m #[(.ref a1), (.int (0 : Int32)), (.int (1 : Int32))] below meth c s₁ [] 0 0 := Stand.of_body Bd
  have e0 : s₁.heap = h0 := by rw [← hh, Bd.state]; rfl
  have N0 := Fr.nil n0
  show Go p e below (s₁.setTop (entryFrame m #[(.ref a1), (.int (0 : Int32)), (.int (1 : Int32))] 5)) (fun o U' => ∃ v L, o = .returned v ∧ Q_rm16_1 Z a1 kt ft h0 n0 v U'.heap L ∧ FrameEnd s o U' L ({ frames := 1, cells := 0, slots := 0, locals := 16 } : Room).cells ({ frames := 1, cells := 0, slots := 0, locals := 16 } : Room).slots)
  rw [ef_rm16_1]
  refine Gk.iconst X0 hx (hb hby d16_0) (0 : Int32) rfl ?_
  refine Gk.istoreN X0 hx (hb hby d16_1) #[.val (.ref a1), .val (.int (0 : Int32)), .val (.int (1 : Int32)), .val (.int (0 : Int32)), .unset] rfl ?_
  refine Gk.iconst X0 hx (hb hby d16_2) (0 : Int32) rfl ?_
  refine Gk.istore X0 hx (hb hby d16_3) #[.val (.ref a1), .val (.int (0 : Int32)), .val (.int (1 : Int32)), .val (.int (0 : Int32)), .val (.int (0 : Int32))] rfl ?_
  refine Gk.iload X0 hx (hb hby d16_5) rfl ?_
  refine Gk.iloadN X0 hx (hb hby d16_7) rfl ?_
  refine Gk.icmpNo X0 hx (hb hby d16_8) (tlt (by decide : (0 : Int32) < (1 : Int32))).2.1 ?_
  refine Gk.iloadN X0 hx (hb hby d16_11) rfl ?_
  refine Gk.iload X0 hx (hb hby d16_12) rfl ?_
  refine Gk.aloadN X0 hx (hb hby d16_14) rfl rfl ?_
  refine Gk.iloadN X0 hx (hb hby d16_15) rfl ?_
  refine Gk.iload X0 hx (hb hby d16_16) rfl ?_
  refine Gk.iadd X0 hx (hb hby d16_18) (0 : Int32) (by decide) ?_
  refine Gk.iaload X0 hx hZ e0 V_t ⟨by decide, by decide⟩ (.int (1 : Int32)) ht0 (hb hby d16_19) ?_
  refine Gk.callS (argsL := [(.int (0 : Int32)), (.int (1 : Int32))]) X0 hx hZ hown (rm17_1 l Z a0 hw []  h0 n0 Z0) (hw _ (List.mem_of_getElem? (i := 122) rfl)) (hw _ (List.mem_of_getElem? (i := 123) rfl)) (hw _ (List.mem_of_getElem? (i := 4) rfl)) (hw _ (List.mem_of_getElem? (i := 124) rfl)) (by decide) e0 pd_3 rfl rfl (by decide) (Nat.le_of_ble_eq_true rfl) (by decide) (by decide) (by rw [hml]; rfl)  rfl (hb hby d16_20) ?_
  intro T2 L2 v2 X2 hQ2
  obtain ⟨rfl, N2q, e2⟩ := hQ2
  have N2 := Fr.app N0 N2q
  show Go p e below (T2.setTop (mkF m 23 #[.val (.ref a1), .val (.int (0 : Int32)), .val (.int (1 : Int32)), .val (.int (0 : Int32)), .val (.int (0 : Int32))] [(.int (-511900244 : Int32)), (.int (0 : Int32))])) _
  refine Gk.iadd X2 hx (hb hby d16_23) (-511900244 : Int32) (by decide) ?_
  refine Gk.istoreN X2 hx (hb hby d16_24) #[.val (.ref a1), .val (.int (0 : Int32)), .val (.int (1 : Int32)), .val (.int (-511900244 : Int32)), .val (.int (0 : Int32))] rfl ?_
  refine Gk.iinc X2 hx (hb hby d16_25) rfl #[.val (.ref a1), .val (.int (0 : Int32)), .val (.int (1 : Int32)), .val (.int (-511900244 : Int32)), .val (.int (1 : Int32))] rfl ?_
  refine Gk.goto X2 hx (hb hby d16_28) 5 (by decide) (by decide) ?_
  refine Gk.iload X2 hx (hb hby d16_5) rfl ?_
  refine Gk.iloadN X2 hx (hb hby d16_7) rfl ?_
  refine Gk.icmpYes X2 hx (hb hby d16_8) (flt (by decide : ¬ ((1 : Int32) < (1 : Int32)))).2.1 31 (by decide) (by decide) ?_
  refine Gk.iloadN X2 hx (hb hby d16_31) rfl ?_
  refine Go.fin X2 (v := some (.int (-511900244 : Int32))) (fun h_ => by rw [Bd.returns] at h_; cases h_) Bd.notSynchronized (fun _ hr => retOut X2 hx Bd.returns rfl (Or.inl ⟨rfl, Or.inl rfl, _, rfl⟩) (hb hby d16_32) hr) (fun U' hU hF => ⟨_, _, rfl, ?_, hF.1, hF.2.1, hF.2.2.mono (by decide) (by decide)⟩)
  rw [hU, e2]
  exact ⟨(congrArg (fun z_ : Int32 => some (Value.int z_)) (show (-511900244 : Int32) = (-511900244 : Int32) from rfl)), N2, rfl⟩
theorem ef_rm15_1 (m : MethodId) (a1 : Addr) (a2 : Addr) : entryFrame m #[(.ref a1), (.ref a2)] 2 = mkF m 0 #[.val (.ref a1), .val (.ref a2)] [] := by first | (simp [entryFrame, mkF, argsToLocals, Value.category]; done) | rfl
def Q_rm15_1 (Z : State) (a1 : Addr) (a2 : Addr) (kt : ClassId) (ft : Nat → Value) (h0 : Heap) (n0 : Nat) (v : Option Value) (h : Heap) (L : List Loc) : Prop := v = some (.int (-511900244 : Int32)) ∧ Fr n0 L ∧ h = h0
set_option maxRecDepth 65536 in
set_option maxHeartbeats 40000000 in
theorem rm15_1 (l : Launch) (Z : State) (a0 : Array Value) (hw : ∀ d ∈ tables_1, d.before a0 Z = true) (ws : List Jvm.Cond) (a1 : Addr) (a2 : Addr) (kt : ClassId) (ft : Nat → Value) (h0 : Heap) (n0 : Nat) (Z0 : n0 ≤ h0.size) (V_t : Arf Z h0 a2 kt .int (1 : Int32) ft) (ht0 : ft 0 = (.int (1 : Int32))) (F_width : Fld Z h0 a1 "com/example/tracewarden/tracewarden/engine/SearchTuples" "width" "I" (.int (1 : Int32))) :
    MetFree l (⟨"com/example/tracewarden/tracewarden/engine/SearchTuples", "hash", "([I)I"⟩ : MethodName) (head1 (Jvm.Cond.code (⟨"com/example/tracewarden/tracewarden/engine/SearchTuples", "hash", "([I)I"⟩ : MethodName) prog_86_method_7_code 2 (some .int) :: ws) ({ frames := 2, cells := 0, slots := 0, locals := 32 } : Room)) (fun a U => a = #[(.ref a1), (.ref a2)] ∧ Z.Warmed39 U.vm ∧ U.heap = h0) (fun _ _ _ _ _ => True) (fun _ U o U' => ∃ v L, o = .returned v ∧ Q_rm15_1 Z a1 a2 kt ft h0 n0 v U'.heap L ∧ FrameEnd U o U' L ({ frames := 2, cells := 0, slots := 0, locals := 32 } : Room).cells ({ frames := 2, cells := 0, slots := 0, locals := 32 } : Room).slots) := by
  refine MetFree.of_bodySF (plainFor_of_name pn_81) hisR ?_
  intro p e s m args below meth c s₁ Bd hml0 hP hK
  obtain ⟨rfl, hZ, hh⟩ := hP
  have hx := Bd.exec
  have hby := Bd.bytes
  have hml : c.maxLocals = 2 := hml0
  have hown : s.vm.findClass "com/example/tracewarden/tracewarden/engine/SearchTuples" = some m.cls := findClass_of_methodNamed Bd.named
  have hnm := (name_of_methodNamed Bd.named Bd.method).1
  have X0 : Stand p l e ({ frames := 2, cells := 0, slots := 0, locals := 32 } : Room) s m #[(.ref a1), (.ref a2)] below meth c s₁ [] 0 0 := Stand.of_body Bd
  have e0 : s₁.heap = h0 := by rw [← hh, Bd.state]; rfl
  have N0 := Fr.nil n0
  show Go p e below (s₁.setTop (entryFrame m #[(.ref a1), (.ref a2)] 2)) (fun o U' => ∃ v L, o = .returned v ∧ Q_rm15_1 Z a1 a2 kt ft h0 n0 v U'.heap L ∧ FrameEnd s o U' L ({ frames := 2, cells := 0, slots := 0, locals := 32 } : Room).cells ({ frames := 2, cells := 0, slots := 0, locals := 32 } : Room).slots)
  rw [ef_rm15_1]
  refine Gk.aloadN X0 hx (hb hby d15_0) rfl rfl ?_
  refine Gk.iconst X0 hx (hb hby d15_1) (0 : Int32) rfl ?_
  refine Gk.aloadN X0 hx (hb hby d15_2) rfl rfl ?_
  refine Gk.getF X0 hx hZ hown (host := "") (Or.inl (hw _ (List.mem_of_getElem? (i := 46) rfl))) Via.refl e0 F_width (hb hby d15_3) ?_
  intro T1 X1 e1
  refine Gk.callS (argsL := [(.ref a2), (.int (0 : Int32)), (.int (1 : Int32))]) X1 hx hZ hown (rm16_1 l Z a0 hw [] a2 kt ft h0 n0 Z0 V_t ht0) (hw _ (List.mem_of_getElem? (i := 119) rfl)) (hw _ (List.mem_of_getElem? (i := 120) rfl)) (hw _ (List.mem_of_getElem? (i := 4) rfl)) (hw _ (List.mem_of_getElem? (i := 121) rfl)) (by decide) e1 pd_4 rfl rfl (by decide) (Nat.le_of_ble_eq_true rfl) (by decide) (by decide) (by rw [hml]; rfl)  rfl (hb hby d15_6) ?_
  intro T2 L2 v2 X2 hQ2
  obtain ⟨rfl, N2q, e2⟩ := hQ2
  have N2 := Fr.app N0 N2q
  show Go p e below (T2.setTop (mkF m 9 #[.val (.ref a1), .val (.ref a2)] [(.int (-511900244 : Int32))])) _
  refine Go.fin X2 (v := some (.int (-511900244 : Int32))) (fun h_ => by rw [Bd.returns] at h_; cases h_) Bd.notSynchronized (fun _ hr => retOut X2 hx Bd.returns rfl (Or.inl ⟨rfl, Or.inl rfl, _, rfl⟩) (hb hby d15_9) hr) (fun U' hU hF => ⟨_, _, rfl, ?_, hF.1, hF.2.1, hF.2.2.mono (by decide) (by decide)⟩)
  rw [hU, e2]
  exact ⟨(congrArg (fun z_ : Int32 => some (Value.int z_)) (show (-511900244 : Int32) = (-511900244 : Int32) from rfl)), N2, rfl⟩
theorem ef_rm17_2 (m : MethodId)  : entryFrame m #[(.int (0 : Int32)), (.int (2 : Int32))] 4 = mkF m 0 #[.val (.int (0 : Int32)), .val (.int (2 : Int32)), .unset, .unset] [] := by first | (simp [entryFrame, mkF, argsToLocals, Value.category]; done) | rfl
def Q_rm17_2 (Z : State)  (h0 : Heap) (n0 : Nat) (v : Option Value) (h : Heap) (L : List Loc) : Prop := v = some (.int (-1023800488 : Int32)) ∧ Fr n0 L ∧ h = h0
set_option maxRecDepth 65536 in
set_option maxHeartbeats 40000000 in
theorem rm17_2 (l : Launch) (Z : State) (a0 : Array Value) (hw : ∀ d ∈ tables_1, d.before a0 Z = true) (ws : List Jvm.Cond)  (h0 : Heap) (n0 : Nat) (Z0 : n0 ≤ h0.size) :
    MetFree l (⟨"com/example/tracewarden/tracewarden/engine/SearchTuples", "code", "(II)I"⟩ : MethodName) (head1 (Jvm.Cond.code (⟨"com/example/tracewarden/tracewarden/engine/SearchTuples", "code", "(II)I"⟩ : MethodName) prog_86_method_21_code 4 (some .int) :: ws) ({ frames := 0, cells := 0, slots := 0, locals := 0 } : Room)) (fun a U => a = #[(.int (0 : Int32)), (.int (2 : Int32))] ∧ Z.Warmed39 U.vm ∧ U.heap = h0) (fun _ _ _ _ _ => True) (fun _ U o U' => ∃ v L, o = .returned v ∧ Q_rm17_2 Z  h0 n0 v U'.heap L ∧ FrameEnd U o U' L ({ frames := 0, cells := 0, slots := 0, locals := 0 } : Room).cells ({ frames := 0, cells := 0, slots := 0, locals := 0 } : Room).slots) := by
  refine MetFree.of_bodySF (plainFor_of_name pn_81) hisR ?_
  intro p e s m args below meth c s₁ Bd hml0 hP hK
  obtain ⟨rfl, hZ, hh⟩ := hP
  have hx := Bd.exec
  have hby := Bd.bytes
  have hml : c.maxLocals = 4 := hml0
  have hown : s.vm.findClass "com/example/tracewarden/tracewarden/engine/SearchTuples" = some m.cls := findClass_of_methodNamed Bd.named
  have hnm := (name_of_methodNamed Bd.named Bd.method).1
  have X0 : Stand p l e ({ frames := 0, cells := 0, slots := 0, locals := 0 } : Room) s m #[(.int (0 : Int32)), (.int (2 : Int32))] below meth c s₁ [] 0 0 := Stand.of_body Bd
  have e0 : s₁.heap = h0 := by rw [← hh, Bd.state]; rfl
  have N0 := Fr.nil n0
  show Go p e below (s₁.setTop (entryFrame m #[(.int (0 : Int32)), (.int (2 : Int32))] 4)) (fun o U' => ∃ v L, o = .returned v ∧ Q_rm17_2 Z  h0 n0 v U'.heap L ∧ FrameEnd s o U' L ({ frames := 0, cells := 0, slots := 0, locals := 0 } : Room).cells ({ frames := 0, cells := 0, slots := 0, locals := 0 } : Room).slots)
  rw [ef_rm17_2]
  refine Gk.iloadN X0 hx (hb hby d17_0) rfl ?_
  refine Gk.i2l X0 hx (hb hby d17_1) (0 : Int64) (by decide) ?_
  refine Gk.bipush X0 hx (hb hby d17_2) (32 : Int32) rfl ?_
  refine Gk.lshl X0 hx (hb hby d17_4) (0 : Int64) (by decide) ?_
  refine Gk.iloadN X0 hx (hb hby d17_5) rfl ?_
  refine Gk.i2l X0 hx (hb hby d17_6) (2 : Int64) (by decide) ?_
  refine Gk.ldcL X0 hx hZ hown (hw _ (List.mem_of_getElem? (i := 125) rfl)) (hb hby d17_7) ?_
  refine Gk.land X0 hx (hb hby d17_10) (2 : Int64) (by decide) ?_
  refine Gk.lor X0 hx (hb hby d17_11) (2 : Int64) (by decide) ?_
  refine Gk.ldcL X0 hx hZ hown (hw _ (List.mem_of_getElem? (i := 126) rfl)) (hb hby d17_12) ?_
  refine Gk.lmul X0 hx (hb hby d17_15) (4354685564936845354 : Int64) (by decide) ?_
  refine Gk.lstoreN X0 hx (hb hby d17_16) #[.val (.int (0 : Int32)), .val (.int (2 : Int32)), .val (.long (4354685564936845354 : Int64)), .second] rfl ?_
  refine Gk.lloadN X0 hx (hb hby d17_17) rfl ?_
  refine Gk.bipush X0 hx (hb hby d17_18) (32 : Int32) rfl ?_
  refine Gk.lushr X0 hx (hb hby d17_20) (1013904242 : Int64) (by decide) ?_
  refine Gk.l2i X0 hx (hb hby d17_21) (1013904242 : Int32) (by decide) ?_
  refine Gk.lloadN X0 hx (hb hby d17_22) rfl ?_
  refine Gk.l2i X0 hx (hb hby d17_23) (-23791574 : Int32) (by decide) ?_
  refine Gk.ixor X0 hx (hb hby d17_24) (-1023800488 : Int32) (by decide) ?_
  refine Go.fin X0 (v := some (.int (-1023800488 : Int32))) (fun h_ => by rw [Bd.returns] at h_; cases h_) Bd.notSynchronized (fun _ hr => retOut X0 hx Bd.returns rfl (Or.inl ⟨rfl, Or.inl rfl, _, rfl⟩) (hb hby d17_25) hr) (fun U' hU hF => ⟨_, _, rfl, ?_, hF.1, hF.2.1, hF.2.2.mono (by decide) (by decide)⟩)
  rw [hU, e0]
  exact ⟨(congrArg (fun z_ : Int32 => some (Value.int z_)) (show (-1023800488 : Int32) = (-1023800488 : Int32) from rfl)), N0, rfl⟩
theorem ef_rm16_2 (m : MethodId) (a1 : Addr) : entryFrame m #[(.ref a1), (.int (0 : Int32)), (.int (1 : Int32))] 5 = mkF m 0 #[.val (.ref a1), .val (.int (0 : Int32)), .val (.int (1 : Int32)), .unset, .unset] [] := by first | (simp [entryFrame, mkF, argsToLocals, Value.category]; done) | rfl
def Q_rm16_2 (Z : State) (a1 : Addr) (kt : ClassId) (ft : Nat → Value) (h0 : Heap) (n0 : Nat) (v : Option Value) (h : Heap) (L : List Loc) : Prop := v = some (.int (-1023800488 : Int32)) ∧ Fr n0 L ∧ h = h0
set_option maxRecDepth 65536 in
set_option maxHeartbeats 40000000 in
theorem rm16_2 (l : Launch) (Z : State) (a0 : Array Value) (hw : ∀ d ∈ tables_1, d.before a0 Z = true) (ws : List Jvm.Cond) (a1 : Addr) (kt : ClassId) (ft : Nat → Value) (h0 : Heap) (n0 : Nat) (Z0 : n0 ≤ h0.size) (V_t : Arf Z h0 a1 kt .int (1 : Int32) ft) (ht0 : ft 0 = (.int (2 : Int32))) :
    MetFree l (⟨"com/example/tracewarden/tracewarden/engine/SearchTuples", "hash", "([III)I"⟩ : MethodName) (head1 (Jvm.Cond.code (⟨"com/example/tracewarden/tracewarden/engine/SearchTuples", "hash", "([III)I"⟩ : MethodName) prog_86_method_20_code 5 (some .int) :: ws) ({ frames := 1, cells := 0, slots := 0, locals := 16 } : Room)) (fun a U => a = #[(.ref a1), (.int (0 : Int32)), (.int (1 : Int32))] ∧ Z.Warmed39 U.vm ∧ U.heap = h0) (fun _ _ _ _ _ => True) (fun _ U o U' => ∃ v L, o = .returned v ∧ Q_rm16_2 Z a1 kt ft h0 n0 v U'.heap L ∧ FrameEnd U o U' L ({ frames := 1, cells := 0, slots := 0, locals := 16 } : Room).cells ({ frames := 1, cells := 0, slots := 0, locals := 16 } : Room).slots) := by
  refine MetFree.of_bodySF (plainFor_of_name pn_81) hisR ?_
  intro p e s m args below meth c s₁ Bd hml0 hP hK
  obtain ⟨rfl, hZ, hh⟩ := hP
  have hx := Bd.exec
  have hby := Bd.bytes
  have hml : c.maxLocals = 5 := hml0
  have hown : s.vm.findClass "com/example/tracewarden/tracewarden/engine/SearchTuples" = some m.cls := findClass_of_methodNamed Bd.named
  have hnm := (name_of_methodNamed Bd.named Bd.method).1
  have X0 : Stand p l e ({ frames := 1, cells := 0, slots := 0, locals := 16 } : Room) s m #[(.ref a1), (.int (0 : Int32)), (.int (1 : Int32))] below meth c s₁ [] 0 0 := Stand.of_body Bd
  have e0 : s₁.heap = h0 := by rw [← hh, Bd.state]; rfl
  have N0 := Fr.nil n0
  show Go p e below (s₁.setTop (entryFrame m #[(.ref a1), (.int (0 : Int32)), (.int (1 : Int32))] 5)) (fun o U' => ∃ v L, o = .returned v ∧ Q_rm16_2 Z a1 kt ft h0 n0 v U'.heap L ∧ FrameEnd s o U' L ({ frames := 1, cells := 0, slots := 0, locals := 16 } : Room).cells ({ frames := 1, cells := 0, slots := 0, locals := 16 } : Room).slots)
  rw [ef_rm16_2]
  refine Gk.iconst X0 hx (hb hby d16_0) (0 : Int32) rfl ?_
  refine Gk.istoreN X0 hx (hb hby d16_1) #[.val (.ref a1), .val (.int (0 : Int32)), .val (.int (1 : Int32)), .val (.int (0 : Int32)), .unset] rfl ?_
  refine Gk.iconst X0 hx (hb hby d16_2) (0 : Int32) rfl ?_
  refine Gk.istore X0 hx (hb hby d16_3) #[.val (.ref a1), .val (.int (0 : Int32)), .val (.int (1 : Int32)), .val (.int (0 : Int32)), .val (.int (0 : Int32))] rfl ?_
  refine Gk.iload X0 hx (hb hby d16_5) rfl ?_
  refine Gk.iloadN X0 hx (hb hby d16_7) rfl ?_
  refine Gk.icmpNo X0 hx (hb hby d16_8) (tlt (by decide : (0 : Int32) < (1 : Int32))).2.1 ?_
  refine Gk.iloadN X0 hx (hb hby d16_11) rfl ?_
  refine Gk.iload X0 hx (hb hby d16_12) rfl ?_
  refine Gk.aloadN X0 hx (hb hby d16_14) rfl rfl ?_
  refine Gk.iloadN X0 hx (hb hby d16_15) rfl ?_
  refine Gk.iload X0 hx (hb hby d16_16) rfl ?_
  refine Gk.iadd X0 hx (hb hby d16_18) (0 : Int32) (by decide) ?_
  refine Gk.iaload X0 hx hZ e0 V_t ⟨by decide, by decide⟩ (.int (2 : Int32)) ht0 (hb hby d16_19) ?_
  refine Gk.callS (argsL := [(.int (0 : Int32)), (.int (2 : Int32))]) X0 hx hZ hown (rm17_2 l Z a0 hw []  h0 n0 Z0) (hw _ (List.mem_of_getElem? (i := 122) rfl)) (hw _ (List.mem_of_getElem? (i := 123) rfl)) (hw _ (List.mem_of_getElem? (i := 4) rfl)) (hw _ (List.mem_of_getElem? (i := 124) rfl)) (by decide) e0 pd_3 rfl rfl (by decide) (Nat.le_of_ble_eq_true rfl) (by decide) (by decide) (by rw [hml]; rfl)  rfl (hb hby d16_20) ?_
  intro T2 L2 v2 X2 hQ2
  obtain ⟨rfl, N2q, e2⟩ := hQ2
  have N2 := Fr.app N0 N2q
  show Go p e below (T2.setTop (mkF m 23 #[.val (.ref a1), .val (.int (0 : Int32)), .val (.int (1 : Int32)), .val (.int (0 : Int32)), .val (.int (0 : Int32))] [(.int (-1023800488 : Int32)), (.int (0 : Int32))])) _
  refine Gk.iadd X2 hx (hb hby d16_23) (-1023800488 : Int32) (by decide) ?_
  refine Gk.istoreN X2 hx (hb hby d16_24) #[.val (.ref a1), .val (.int (0 : Int32)), .val (.int (1 : Int32)), .val (.int (-1023800488 : Int32)), .val (.int (0 : Int32))] rfl ?_
  refine Gk.iinc X2 hx (hb hby d16_25) rfl #[.val (.ref a1), .val (.int (0 : Int32)), .val (.int (1 : Int32)), .val (.int (-1023800488 : Int32)), .val (.int (1 : Int32))] rfl ?_
  refine Gk.goto X2 hx (hb hby d16_28) 5 (by decide) (by decide) ?_
  refine Gk.iload X2 hx (hb hby d16_5) rfl ?_
  refine Gk.iloadN X2 hx (hb hby d16_7) rfl ?_
  refine Gk.icmpYes X2 hx (hb hby d16_8) (flt (by decide : ¬ ((1 : Int32) < (1 : Int32)))).2.1 31 (by decide) (by decide) ?_
  refine Gk.iloadN X2 hx (hb hby d16_31) rfl ?_
  refine Go.fin X2 (v := some (.int (-1023800488 : Int32))) (fun h_ => by rw [Bd.returns] at h_; cases h_) Bd.notSynchronized (fun _ hr => retOut X2 hx Bd.returns rfl (Or.inl ⟨rfl, Or.inl rfl, _, rfl⟩) (hb hby d16_32) hr) (fun U' hU hF => ⟨_, _, rfl, ?_, hF.1, hF.2.1, hF.2.2.mono (by decide) (by decide)⟩)
  rw [hU, e2]
  exact ⟨(congrArg (fun z_ : Int32 => some (Value.int z_)) (show (-1023800488 : Int32) = (-1023800488 : Int32) from rfl)), N2, rfl⟩
theorem ef_rm15_2 (m : MethodId) (a1 : Addr) (a2 : Addr) : entryFrame m #[(.ref a1), (.ref a2)] 2 = mkF m 0 #[.val (.ref a1), .val (.ref a2)] [] := by first | (simp [entryFrame, mkF, argsToLocals, Value.category]; done) | rfl
def Q_rm15_2 (Z : State) (a1 : Addr) (a2 : Addr) (kt : ClassId) (ft : Nat → Value) (h0 : Heap) (n0 : Nat) (v : Option Value) (h : Heap) (L : List Loc) : Prop := v = some (.int (-1023800488 : Int32)) ∧ Fr n0 L ∧ h = h0
set_option maxRecDepth 65536 in
set_option maxHeartbeats 40000000 in
theorem rm15_2 (l : Launch) (Z : State) (a0 : Array Value) (hw : ∀ d ∈ tables_1, d.before a0 Z = true) (ws : List Jvm.Cond) (a1 : Addr) (a2 : Addr) (kt : ClassId) (ft : Nat → Value) (h0 : Heap) (n0 : Nat) (Z0 : n0 ≤ h0.size) (V_t : Arf Z h0 a2 kt .int (1 : Int32) ft) (ht0 : ft 0 = (.int (2 : Int32))) (F_width : Fld Z h0 a1 "com/example/tracewarden/tracewarden/engine/SearchTuples" "width" "I" (.int (1 : Int32))) :
    MetFree l (⟨"com/example/tracewarden/tracewarden/engine/SearchTuples", "hash", "([I)I"⟩ : MethodName) (head1 (Jvm.Cond.code (⟨"com/example/tracewarden/tracewarden/engine/SearchTuples", "hash", "([I)I"⟩ : MethodName) prog_86_method_7_code 2 (some .int) :: ws) ({ frames := 2, cells := 0, slots := 0, locals := 32 } : Room)) (fun a U => a = #[(.ref a1), (.ref a2)] ∧ Z.Warmed39 U.vm ∧ U.heap = h0) (fun _ _ _ _ _ => True) (fun _ U o U' => ∃ v L, o = .returned v ∧ Q_rm15_2 Z a1 a2 kt ft h0 n0 v U'.heap L ∧ FrameEnd U o U' L ({ frames := 2, cells := 0, slots := 0, locals := 32 } : Room).cells ({ frames := 2, cells := 0, slots := 0, locals := 32 } : Room).slots) := by
  refine MetFree.of_bodySF (plainFor_of_name pn_81) hisR ?_
  intro p e s m args below meth c s₁ Bd hml0 hP hK
  obtain ⟨rfl, hZ, hh⟩ := hP
  have hx := Bd.exec
  have hby := Bd.bytes
  have hml : c.maxLocals = 2 := hml0
  have hown : s.vm.findClass "com/example/tracewarden/tracewarden/engine/SearchTuples" = some m.cls := findClass_of_methodNamed Bd.named
  have hnm := (name_of_methodNamed Bd.named Bd.method).1
  have X0 : Stand p l e ({ frames := 2, cells := 0, slots := 0, locals := 32 } : Room) s m #[(.ref a1), (.ref a2)] below meth c s₁ [] 0 0 := Stand.of_body Bd
  have e0 : s₁.heap = h0 := by rw [← hh, Bd.state]; rfl
  have N0 := Fr.nil n0
  show Go p e below (s₁.setTop (entryFrame m #[(.ref a1), (.ref a2)] 2)) (fun o U' => ∃ v L, o = .returned v ∧ Q_rm15_2 Z a1 a2 kt ft h0 n0 v U'.heap L ∧ FrameEnd s o U' L ({ frames := 2, cells := 0, slots := 0, locals := 32 } : Room).cells ({ frames := 2, cells := 0, slots := 0, locals := 32 } : Room).slots)
  rw [ef_rm15_2]
  refine Gk.aloadN X0 hx (hb hby d15_0) rfl rfl ?_
  refine Gk.iconst X0 hx (hb hby d15_1) (0 : Int32) rfl ?_
  refine Gk.aloadN X0 hx (hb hby d15_2) rfl rfl ?_
  refine Gk.getF X0 hx hZ hown (host := "") (Or.inl (hw _ (List.mem_of_getElem? (i := 46) rfl))) Via.refl e0 F_width (hb hby d15_3) ?_
  intro T1 X1 e1
  refine Gk.callS (argsL := [(.ref a2), (.int (0 : Int32)), (.int (1 : Int32))]) X1 hx hZ hown (rm16_2 l Z a0 hw [] a2 kt ft h0 n0 Z0 V_t ht0) (hw _ (List.mem_of_getElem? (i := 119) rfl)) (hw _ (List.mem_of_getElem? (i := 120) rfl)) (hw _ (List.mem_of_getElem? (i := 4) rfl)) (hw _ (List.mem_of_getElem? (i := 121) rfl)) (by decide) e1 pd_4 rfl rfl (by decide) (Nat.le_of_ble_eq_true rfl) (by decide) (by decide) (by rw [hml]; rfl)  rfl (hb hby d15_6) ?_
  intro T2 L2 v2 X2 hQ2
  obtain ⟨rfl, N2q, e2⟩ := hQ2
  have N2 := Fr.app N0 N2q
  show Go p e below (T2.setTop (mkF m 9 #[.val (.ref a1), .val (.ref a2)] [(.int (-1023800488 : Int32))])) _
  refine Go.fin X2 (v := some (.int (-1023800488 : Int32))) (fun h_ => by rw [Bd.returns] at h_; cases h_) Bd.notSynchronized (fun _ hr => retOut X2 hx Bd.returns rfl (Or.inl ⟨rfl, Or.inl rfl, _, rfl⟩) (hb hby d15_9) hr) (fun U' hU hF => ⟨_, _, rfl, ?_, hF.1, hF.2.1, hF.2.2.mono (by decide) (by decide)⟩)
  rw [hU, e2]
  exact ⟨(congrArg (fun z_ : Int32 => some (Value.int z_)) (show (-1023800488 : Int32) = (-1023800488 : Int32) from rfl)), N2, rfl⟩
theorem ef_rm17_3 (m : MethodId)  : entryFrame m #[(.int (0 : Int32)), (.int (3 : Int32))] 4 = mkF m 0 #[.val (.int (0 : Int32)), .val (.int (3 : Int32)), .unset, .unset] [] := by first | (simp [entryFrame, mkF, argsToLocals, Value.category]; done) | rfl
def Q_rm17_3 (Z : State)  (h0 : Heap) (n0 : Nat) (v : Option Value) (h : Heap) (L : List Loc) : Prop := v = some (.int (-1485235949 : Int32)) ∧ Fr n0 L ∧ h = h0
set_option maxRecDepth 65536 in
set_option maxHeartbeats 40000000 in
theorem rm17_3 (l : Launch) (Z : State) (a0 : Array Value) (hw : ∀ d ∈ tables_1, d.before a0 Z = true) (ws : List Jvm.Cond)  (h0 : Heap) (n0 : Nat) (Z0 : n0 ≤ h0.size) :
    MetFree l (⟨"com/example/tracewarden/tracewarden/engine/SearchTuples", "code", "(II)I"⟩ : MethodName) (head1 (Jvm.Cond.code (⟨"com/example/tracewarden/tracewarden/engine/SearchTuples", "code", "(II)I"⟩ : MethodName) prog_86_method_21_code 4 (some .int) :: ws) ({ frames := 0, cells := 0, slots := 0, locals := 0 } : Room)) (fun a U => a = #[(.int (0 : Int32)), (.int (3 : Int32))] ∧ Z.Warmed39 U.vm ∧ U.heap = h0) (fun _ _ _ _ _ => True) (fun _ U o U' => ∃ v L, o = .returned v ∧ Q_rm17_3 Z  h0 n0 v U'.heap L ∧ FrameEnd U o U' L ({ frames := 0, cells := 0, slots := 0, locals := 0 } : Room).cells ({ frames := 0, cells := 0, slots := 0, locals := 0 } : Room).slots) := by
  refine MetFree.of_bodySF (plainFor_of_name pn_81) hisR ?_
  intro p e s m args below meth c s₁ Bd hml0 hP hK
  obtain ⟨rfl, hZ, hh⟩ := hP
  have hx := Bd.exec
  have hby := Bd.bytes
  have hml : c.maxLocals = 4 := hml0
  have hown : s.vm.findClass "com/example/tracewarden/tracewarden/engine/SearchTuples" = some m.cls := findClass_of_methodNamed Bd.named
  have hnm := (name_of_methodNamed Bd.named Bd.method).1
  have X0 : Stand p l e ({ frames := 0, cells := 0, slots := 0, locals := 0 } : Room) s m #[(.int (0 : Int32)), (.int (3 : Int32))] below meth c s₁ [] 0 0 := Stand.of_body Bd
  have e0 : s₁.heap = h0 := by rw [← hh, Bd.state]; rfl
  have N0 := Fr.nil n0
  show Go p e below (s₁.setTop (entryFrame m #[(.int (0 : Int32)), (.int (3 : Int32))] 4)) (fun o U' => ∃ v L, o = .returned v ∧ Q_rm17_3 Z  h0 n0 v U'.heap L ∧ FrameEnd s o U' L ({ frames := 0, cells := 0, slots := 0, locals := 0 } : Room).cells ({ frames := 0, cells := 0, slots := 0, locals := 0 } : Room).slots)
  rw [ef_rm17_3]
  refine Gk.iloadN X0 hx (hb hby d17_0) rfl ?_
  refine Gk.i2l X0 hx (hb hby d17_1) (0 : Int64) (by decide) ?_
  refine Gk.bipush X0 hx (hb hby d17_2) (32 : Int32) rfl ?_
  refine Gk.lshl X0 hx (hb hby d17_4) (0 : Int64) (by decide) ?_
  refine Gk.iloadN X0 hx (hb hby d17_5) rfl ?_
  refine Gk.i2l X0 hx (hb hby d17_6) (3 : Int64) (by decide) ?_
  refine Gk.ldcL X0 hx hZ hown (hw _ (List.mem_of_getElem? (i := 125) rfl)) (hb hby d17_7) ?_
  refine Gk.land X0 hx (hb hby d17_10) (3 : Int64) (by decide) ?_
  refine Gk.lor X0 hx (hb hby d17_11) (3 : Int64) (by decide) ?_
  refine Gk.ldcL X0 hx hZ hown (hw _ (List.mem_of_getElem? (i := 126) rfl)) (hb hby d17_12) ?_
  refine Gk.lmul X0 hx (hb hby d17_15) (-2691343689449507777 : Int64) (by decide) ?_
  refine Gk.lstoreN X0 hx (hb hby d17_16) #[.val (.int (0 : Int32)), .val (.int (3 : Int32)), .val (.long (-2691343689449507777 : Int64)), .second] rfl ?_
  refine Gk.lloadN X0 hx (hb hby d17_17) rfl ?_
  refine Gk.bipush X0 hx (hb hby d17_18) (32 : Int32) rfl ?_
  refine Gk.lushr X0 hx (hb hby d17_20) (3668340012 : Int64) (by decide) ?_
  refine Gk.l2i X0 hx (hb hby d17_21) (-626627284 : Int32) (by decide) ?_
  refine Gk.lloadN X0 hx (hb hby d17_22) rfl ?_
  refine Gk.l2i X0 hx (hb hby d17_23) (2111796287 : Int32) (by decide) ?_
  refine Gk.ixor X0 hx (hb hby d17_24) (-1485235949 : Int32) (by decide) ?_
  refine Go.fin X0 (v := some (.int (-1485235949 : Int32))) (fun h_ => by rw [Bd.returns] at h_; cases h_) Bd.notSynchronized (fun _ hr => retOut X0 hx Bd.returns rfl (Or.inl ⟨rfl, Or.inl rfl, _, rfl⟩) (hb hby d17_25) hr) (fun U' hU hF => ⟨_, _, rfl, ?_, hF.1, hF.2.1, hF.2.2.mono (by decide) (by decide)⟩)
  rw [hU, e0]
  exact ⟨(congrArg (fun z_ : Int32 => some (Value.int z_)) (show (-1485235949 : Int32) = (-1485235949 : Int32) from rfl)), N0, rfl⟩
theorem ef_rm16_3 (m : MethodId) (a1 : Addr) : entryFrame m #[(.ref a1), (.int (0 : Int32)), (.int (1 : Int32))] 5 = mkF m 0 #[.val (.ref a1), .val (.int (0 : Int32)), .val (.int (1 : Int32)), .unset, .unset] [] := by first | (simp [entryFrame, mkF, argsToLocals, Value.category]; done) | rfl
def Q_rm16_3 (Z : State) (a1 : Addr) (kt : ClassId) (ft : Nat → Value) (h0 : Heap) (n0 : Nat) (v : Option Value) (h : Heap) (L : List Loc) : Prop := v = some (.int (-1485235949 : Int32)) ∧ Fr n0 L ∧ h = h0
set_option maxRecDepth 65536 in
set_option maxHeartbeats 40000000 in
theorem rm16_3 (l : Launch) (Z : State) (a0 : Array Value) (hw : ∀ d ∈ tables_1, d.before a0 Z = true) (ws : List Jvm.Cond) (a1 : Addr) (kt : ClassId) (ft : Nat → Value) (h0 : Heap) (n0 : Nat) (Z0 : n0 ≤ h0.size) (V_t : Arf Z h0 a1 kt .int (1 : Int32) ft) (ht0 : ft 0 = (.int (3 : Int32))) :
    MetFree l (⟨"com/example/tracewarden/tracewarden/engine/SearchTuples", "hash", "([III)I"⟩ : MethodName) (head1 (Jvm.Cond.code (⟨"com/example/tracewarden/tracewarden/engine/SearchTuples", "hash", "([III)I"⟩ : MethodName) prog_86_method_20_code 5 (some .int) :: ws) ({ frames := 1, cells := 0, slots := 0, locals := 16 } : Room)) (fun a U => a = #[(.ref a1), (.int (0 : Int32)), (.int (1 : Int32))] ∧ Z.Warmed39 U.vm ∧ U.heap = h0) (fun _ _ _ _ _ => True) (fun _ U o U' => ∃ v L, o = .returned v ∧ Q_rm16_3 Z a1 kt ft h0 n0 v U'.heap L ∧ FrameEnd U o U' L ({ frames := 1, cells := 0, slots := 0, locals := 16 } : Room).cells ({ frames := 1, cells := 0, slots := 0, locals := 16 } : Room).slots) := by
  refine MetFree.of_bodySF (plainFor_of_name pn_81) hisR ?_
  intro p e s m args below meth c s₁ Bd hml0 hP hK
  obtain ⟨rfl, hZ, hh⟩ := hP
  have hx := Bd.exec
  have hby := Bd.bytes
  have hml : c.maxLocals = 5 := hml0
  have hown : s.vm.findClass "com/example/tracewarden/tracewarden/engine/SearchTuples" = some m.cls := findClass_of_methodNamed Bd.named
  have hnm := (name_of_methodNamed Bd.named Bd.method).1
  have X0 : Stand p l e ({ frames := 1, cells := 0, slots := 0, locals := 16 } : Room) s m #[(.ref a1), (.int (0 : Int32)), (.int (1 : Int32))] below meth c s₁ [] 0 0 := Stand.of_body Bd
  have e0 : s₁.heap = h0 := by rw [← hh, Bd.state]; rfl
  have N0 := Fr.nil n0
  show Go p e below (s₁.setTop (entryFrame m #[(.ref a1), (.int (0 : Int32)), (.int (1 : Int32))] 5)) (fun o U' => ∃ v L, o = .returned v ∧ Q_rm16_3 Z a1 kt ft h0 n0 v U'.heap L ∧ FrameEnd s o U' L ({ frames := 1, cells := 0, slots := 0, locals := 16 } : Room).cells ({ frames := 1, cells := 0, slots := 0, locals := 16 } : Room).slots)
  rw [ef_rm16_3]
  refine Gk.iconst X0 hx (hb hby d16_0) (0 : Int32) rfl ?_
  refine Gk.istoreN X0 hx (hb hby d16_1) #[.val (.ref a1), .val (.int (0 : Int32)), .val (.int (1 : Int32)), .val (.int (0 : Int32)), .unset] rfl ?_
  refine Gk.iconst X0 hx (hb hby d16_2) (0 : Int32) rfl ?_
  refine Gk.istore X0 hx (hb hby d16_3) #[.val (.ref a1), .val (.int (0 : Int32)), .val (.int (1 : Int32)), .val (.int (0 : Int32)), .val (.int (0 : Int32))] rfl ?_
  refine Gk.iload X0 hx (hb hby d16_5) rfl ?_
  refine Gk.iloadN X0 hx (hb hby d16_7) rfl ?_
  refine Gk.icmpNo X0 hx (hb hby d16_8) (tlt (by decide : (0 : Int32) < (1 : Int32))).2.1 ?_
  refine Gk.iloadN X0 hx (hb hby d16_11) rfl ?_
  refine Gk.iload X0 hx (hb hby d16_12) rfl ?_
  refine Gk.aloadN X0 hx (hb hby d16_14) rfl rfl ?_
  refine Gk.iloadN X0 hx (hb hby d16_15) rfl ?_
  refine Gk.iload X0 hx (hb hby d16_16) rfl ?_
  refine Gk.iadd X0 hx (hb hby d16_18) (0 : Int32) (by decide) ?_
  refine Gk.iaload X0 hx hZ e0 V_t ⟨by decide, by decide⟩ (.int (3 : Int32)) ht0 (hb hby d16_19) ?_
  refine Gk.callS (argsL := [(.int (0 : Int32)), (.int (3 : Int32))]) X0 hx hZ hown (rm17_3 l Z a0 hw []  h0 n0 Z0) (hw _ (List.mem_of_getElem? (i := 122) rfl)) (hw _ (List.mem_of_getElem? (i := 123) rfl)) (hw _ (List.mem_of_getElem? (i := 4) rfl)) (hw _ (List.mem_of_getElem? (i := 124) rfl)) (by decide) e0 pd_3 rfl rfl (by decide) (Nat.le_of_ble_eq_true rfl) (by decide) (by decide) (by rw [hml]; rfl)  rfl (hb hby d16_20) ?_
  intro T2 L2 v2 X2 hQ2
  obtain ⟨rfl, N2q, e2⟩ := hQ2
  have N2 := Fr.app N0 N2q
  show Go p e below (T2.setTop (mkF m 23 #[.val (.ref a1), .val (.int (0 : Int32)), .val (.int (1 : Int32)), .val (.int (0 : Int32)), .val (.int (0 : Int32))] [(.int (-1485235949 : Int32)), (.int (0 : Int32))])) _
  refine Gk.iadd X2 hx (hb hby d16_23) (-1485235949 : Int32) (by decide) ?_
  refine Gk.istoreN X2 hx (hb hby d16_24) #[.val (.ref a1), .val (.int (0 : Int32)), .val (.int (1 : Int32)), .val (.int (-1485235949 : Int32)), .val (.int (0 : Int32))] rfl ?_
  refine Gk.iinc X2 hx (hb hby d16_25) rfl #[.val (.ref a1), .val (.int (0 : Int32)), .val (.int (1 : Int32)), .val (.int (-1485235949 : Int32)), .val (.int (1 : Int32))] rfl ?_
  refine Gk.goto X2 hx (hb hby d16_28) 5 (by decide) (by decide) ?_
  refine Gk.iload X2 hx (hb hby d16_5) rfl ?_
  refine Gk.iloadN X2 hx (hb hby d16_7) rfl ?_
  refine Gk.icmpYes X2 hx (hb hby d16_8) (flt (by decide : ¬ ((1 : Int32) < (1 : Int32)))).2.1 31 (by decide) (by decide) ?_
  refine Gk.iloadN X2 hx (hb hby d16_31) rfl ?_
  refine Go.fin X2 (v := some (.int (-1485235949 : Int32))) (fun h_ => by rw [Bd.returns] at h_; cases h_) Bd.notSynchronized (fun _ hr => retOut X2 hx Bd.returns rfl (Or.inl ⟨rfl, Or.inl rfl, _, rfl⟩) (hb hby d16_32) hr) (fun U' hU hF => ⟨_, _, rfl, ?_, hF.1, hF.2.1, hF.2.2.mono (by decide) (by decide)⟩)
  rw [hU, e2]
  exact ⟨(congrArg (fun z_ : Int32 => some (Value.int z_)) (show (-1485235949 : Int32) = (-1485235949 : Int32) from rfl)), N2, rfl⟩
theorem ef_rm15_3 (m : MethodId) (a1 : Addr) (a2 : Addr) : entryFrame m #[(.ref a1), (.ref a2)] 2 = mkF m 0 #[.val (.ref a1), .val (.ref a2)] [] := by first | (simp [entryFrame, mkF, argsToLocals, Value.category]; done) | rfl
def Q_rm15_3 (Z : State) (a1 : Addr) (a2 : Addr) (kt : ClassId) (ft : Nat → Value) (h0 : Heap) (n0 : Nat) (v : Option Value) (h : Heap) (L : List Loc) : Prop := v = some (.int (-1485235949 : Int32)) ∧ Fr n0 L ∧ h = h0
set_option maxRecDepth 65536 in
set_option maxHeartbeats 40000000 in
theorem rm15_3 (l : Launch) (Z : State) (a0 : Array Value) (hw : ∀ d ∈ tables_1, d.before a0 Z = true) (ws : List Jvm.Cond) (a1 : Addr) (a2 : Addr) (kt : ClassId) (ft : Nat → Value) (h0 : Heap) (n0 : Nat) (Z0 : n0 ≤ h0.size) (V_t : Arf Z h0 a2 kt .int (1 : Int32) ft) (ht0 : ft 0 = (.int (3 : Int32))) (F_width : Fld Z h0 a1 "com/example/tracewarden/tracewarden/engine/SearchTuples" "width" "I" (.int (1 : Int32))) :
    MetFree l (⟨"com/example/tracewarden/tracewarden/engine/SearchTuples", "hash", "([I)I"⟩ : MethodName) (head1 (Jvm.Cond.code (⟨"com/example/tracewarden/tracewarden/engine/SearchTuples", "hash", "([I)I"⟩ : MethodName) prog_86_method_7_code 2 (some .int) :: ws) ({ frames := 2, cells := 0, slots := 0, locals := 32 } : Room)) (fun a U => a = #[(.ref a1), (.ref a2)] ∧ Z.Warmed39 U.vm ∧ U.heap = h0) (fun _ _ _ _ _ => True) (fun _ U o U' => ∃ v L, o = .returned v ∧ Q_rm15_3 Z a1 a2 kt ft h0 n0 v U'.heap L ∧ FrameEnd U o U' L ({ frames := 2, cells := 0, slots := 0, locals := 32 } : Room).cells ({ frames := 2, cells := 0, slots := 0, locals := 32 } : Room).slots) := by
  refine MetFree.of_bodySF (plainFor_of_name pn_81) hisR ?_
  intro p e s m args below meth c s₁ Bd hml0 hP hK
  obtain ⟨rfl, hZ, hh⟩ := hP
  have hx := Bd.exec
  have hby := Bd.bytes
  have hml : c.maxLocals = 2 := hml0
  have hown : s.vm.findClass "com/example/tracewarden/tracewarden/engine/SearchTuples" = some m.cls := findClass_of_methodNamed Bd.named
  have hnm := (name_of_methodNamed Bd.named Bd.method).1
  have X0 : Stand p l e ({ frames := 2, cells := 0, slots := 0, locals := 32 } : Room) s m #[(.ref a1), (.ref a2)] below meth c s₁ [] 0 0 := Stand.of_body Bd
  have e0 : s₁.heap = h0 := by rw [← hh, Bd.state]; rfl
  have N0 := Fr.nil n0
  show Go p e below (s₁.setTop (entryFrame m #[(.ref a1), (.ref a2)] 2)) (fun o U' => ∃ v L, o = .returned v ∧ Q_rm15_3 Z a1 a2 kt ft h0 n0 v U'.heap L ∧ FrameEnd s o U' L ({ frames := 2, cells := 0, slots := 0, locals := 32 } : Room).cells ({ frames := 2, cells := 0, slots := 0, locals := 32 } : Room).slots)
  rw [ef_rm15_3]
  refine Gk.aloadN X0 hx (hb hby d15_0) rfl rfl ?_
  refine Gk.iconst X0 hx (hb hby d15_1) (0 : Int32) rfl ?_
  refine Gk.aloadN X0 hx (hb hby d15_2) rfl rfl ?_
  refine Gk.getF X0 hx hZ hown (host := "") (Or.inl (hw _ (List.mem_of_getElem? (i := 46) rfl))) Via.refl e0 F_width (hb hby d15_3) ?_
  intro T1 X1 e1
  refine Gk.callS (argsL := [(.ref a2), (.int (0 : Int32)), (.int (1 : Int32))]) X1 hx hZ hown (rm16_3 l Z a0 hw [] a2 kt ft h0 n0 Z0 V_t ht0) (hw _ (List.mem_of_getElem? (i := 119) rfl)) (hw _ (List.mem_of_getElem? (i := 120) rfl)) (hw _ (List.mem_of_getElem? (i := 4) rfl)) (hw _ (List.mem_of_getElem? (i := 121) rfl)) (by decide) e1 pd_4 rfl rfl (by decide) (Nat.le_of_ble_eq_true rfl) (by decide) (by decide) (by rw [hml]; rfl)  rfl (hb hby d15_6) ?_
  intro T2 L2 v2 X2 hQ2
  obtain ⟨rfl, N2q, e2⟩ := hQ2
  have N2 := Fr.app N0 N2q
  show Go p e below (T2.setTop (mkF m 9 #[.val (.ref a1), .val (.ref a2)] [(.int (-1485235949 : Int32))])) _
  refine Go.fin X2 (v := some (.int (-1485235949 : Int32))) (fun h_ => by rw [Bd.returns] at h_; cases h_) Bd.notSynchronized (fun _ hr => retOut X2 hx Bd.returns rfl (Or.inl ⟨rfl, Or.inl rfl, _, rfl⟩) (hb hby d15_9) hr) (fun U' hU hF => ⟨_, _, rfl, ?_, hF.1, hF.2.1, hF.2.2.mono (by decide) (by decide)⟩)
  rw [hU, e2]
  exact ⟨(congrArg (fun z_ : Int32 => some (Value.int z_)) (show (-1485235949 : Int32) = (-1485235949 : Int32) from rfl)), N2, rfl⟩
theorem d13_0 : decode jdk_29_method_69_code 0 = .ok (.iload_n 0, 1) := by decide +kernel
theorem d13_1 : decode jdk_29_method_69_code 1 = .ok (.iload_n 1, 1) := by decide +kernel
theorem d13_2 : decode jdk_29_method_69_code 2 = .ok (.if_icmp .gt 7, 3) := by decide +kernel
theorem d13_5 : decode jdk_29_method_69_code 5 = .ok (.iload_n 0, 1) := by decide +kernel
theorem d13_6 : decode jdk_29_method_69_code 6 = .ok (.goto 4, 3) := by decide +kernel
theorem d13_9 : decode jdk_29_method_69_code 9 = .ok (.iload_n 1, 1) := by decide +kernel
theorem d13_10 : decode jdk_29_method_69_code 10 = .ok (.ireturn, 1) := by decide +kernel
theorem ef_rm13 (m : MethodId) (p1 : Int32) (p2 : Int32) : entryFrame m #[(.int p1), (.int p2)] 2 = mkF m 0 #[.val (.int p1), .val (.int p2)] [] := by first | (simp [entryFrame, mkF, argsToLocals, Value.category]; done) | rfl
def Q_rm13 (Z : State) (p1 : Int32) (p2 : Int32) (h0 : Heap) (n0 : Nat) (v : Option Value) (h : Heap) (L : List Loc) : Prop := v = some (.int (if p2 < p1 then p2 else p1)) ∧ Fr n0 L ∧ h = h0
set_option maxRecDepth 65536 in
set_option maxHeartbeats 40000000 in
theorem rm13 (l : Launch) (Z : State) (a0 : Array Value) (hw : ∀ d ∈ tables_1, d.before a0 Z = true) (ws : List Jvm.Cond) (p1 : Int32) (p2 : Int32) (h0 : Heap) (n0 : Nat) (Z0 : n0 ≤ h0.size) :
    MetFree l (⟨"java/lang/Math", "min", "(II)I"⟩ : MethodName) (head1 (Jvm.Cond.code (⟨"java/lang/Math", "min", "(II)I"⟩ : MethodName) jdk_29_method_69_code 2 (some .int) :: ws) ({ frames := 0, cells := 0, slots := 0, locals := 0 } : Room)) (fun a U => a = #[(.int p1), (.int p2)] ∧ Z.Warmed39 U.vm ∧ U.heap = h0) (fun _ _ _ _ _ => True) (fun _ U o U' => ∃ v L, o = .returned v ∧ Q_rm13 Z p1 p2 h0 n0 v U'.heap L ∧ FrameEnd U o U' L ({ frames := 0, cells := 0, slots := 0, locals := 0 } : Room).cells ({ frames := 0, cells := 0, slots := 0, locals := 0 } : Room).slots) := by
  refine MetFree.of_bodySF (Jvm.Free.JP.mathPlain rfl (by decide +kernel)) hisR ?_
  intro p e s m args below meth c s₁ Bd hml0 hP hK
  obtain ⟨rfl, hZ, hh⟩ := hP
  have hx := Bd.exec
  have hby := Bd.bytes
  have hml : c.maxLocals = 2 := hml0
  have hown : s.vm.findClass "java/lang/Math" = some m.cls := findClass_of_methodNamed Bd.named
  have hnm := (name_of_methodNamed Bd.named Bd.method).1
  have X0 : Stand p l e ({ frames := 0, cells := 0, slots := 0, locals := 0 } : Room) s m #[(.int p1), (.int p2)] below meth c s₁ [] 0 0 := Stand.of_body Bd
  have e0 : s₁.heap = h0 := by rw [← hh, Bd.state]; rfl
  have N0 := Fr.nil n0
  show Go p e below (s₁.setTop (entryFrame m #[(.int p1), (.int p2)] 2)) (fun o U' => ∃ v L, o = .returned v ∧ Q_rm13 Z p1 p2 h0 n0 v U'.heap L ∧ FrameEnd s o U' L ({ frames := 0, cells := 0, slots := 0, locals := 0 } : Room).cells ({ frames := 0, cells := 0, slots := 0, locals := 0 } : Room).slots)
  rw [ef_rm13]
  refine Gk.iloadN X0 hx (hb hby d13_0) rfl ?_
  refine Gk.iloadN X0 hx (hb hby d13_1) rfl ?_
  by_cases hc2 : p2 < p1
  · refine Gk.icmpYes X0 hx (hb hby d13_2) (tlt hc2).2.2.1 9 (by decide) (by decide) ?_
    refine Gk.iloadN X0 hx (hb hby d13_9) rfl ?_
    refine Go.fin X0 (v := some (.int p2)) (fun h_ => by rw [Bd.returns] at h_; cases h_) Bd.notSynchronized (fun _ hr => retOut X0 hx Bd.returns rfl (Or.inl ⟨rfl, Or.inl rfl, _, rfl⟩) (hb hby d13_10) hr) (fun U' hU hF => ⟨_, _, rfl, ?_, hF.1, hF.2.1, hF.2.2.mono (by decide) (by decide)⟩)
    rw [hU, e0]
    exact ⟨(congrArg (fun z_ : Int32 => some (Value.int z_)) (show p2 = (if p2 < p1 then p2 else p1) from by simp [hc2])), N0, rfl⟩
  · refine Gk.icmpNo X0 hx (hb hby d13_2) (flt hc2).2.2.1 ?_
    refine Gk.iloadN X0 hx (hb hby d13_5) rfl ?_
    refine Gk.goto X0 hx (hb hby d13_6) 10 (by decide) (by decide) ?_
    refine Go.fin X0 (v := some (.int p1)) (fun h_ => by rw [Bd.returns] at h_; cases h_) Bd.notSynchronized (fun _ hr => retOut X0 hx Bd.returns rfl (Or.inl ⟨rfl, Or.inl rfl, _, rfl⟩) (hb hby d13_10) hr) (fun U' hU hF => ⟨_, _, rfl, ?_, hF.1, hF.2.1, hF.2.2.mono (by decide) (by decide)⟩)
    rw [hU, e0]
    exact ⟨(congrArg (fun z_ : Int32 => some (Value.int z_)) (show p1 = (if p2 < p1 then p2 else p1) from by simp [hc2])), N0, rfl⟩
theorem d12_0 : decode prog_86_method_15_code 0 = .ok (.iload_n 1, 1) := by decide +kernel
theorem d12_1 : decode prog_86_method_15_code 1 = .ok (.istore_n 3, 1) := by decide +kernel
theorem d12_2 : decode prog_86_method_15_code 2 = .ok (.iload_n 3, 1) := by decide +kernel
theorem d12_3 : decode prog_86_method_15_code 3 = .ok (.ifCond .lt 44, 3) := by decide +kernel
theorem d12_47 : decode prog_86_method_15_code 47 = .ok (.return_, 1) := by decide +kernel
theorem ef_rm12_m (m : MethodId) (a1 : Addr) : entryFrame m #[(.ref a1), (.int (-1 : Int32)), .null] 4 = mkF m 0 #[.val (.ref a1), .val (.int (-1 : Int32)), .val .null, .unset] [] := by first | (simp [entryFrame, mkF, argsToLocals, Value.category]; done) | rfl
def Q_rm12_m (Z : State) (a1 : Addr) (h0 : Heap) (n0 : Nat) (v : Option Value) (h : Heap) (L : List Loc) : Prop := v = none ∧ Fr n0 L ∧ h = h0
set_option maxRecDepth 65536 in
set_option maxHeartbeats 40000000 in
theorem rm12_m (l : Launch) (Z : State) (a0 : Array Value) (hw : ∀ d ∈ tables_1, d.before a0 Z = true) (ws : List Jvm.Cond) (a1 : Addr) (h0 : Heap) (n0 : Nat) (Z0 : n0 ≤ h0.size) :
    MetFree l (⟨"com/example/tracewarden/tracewarden/engine/SearchTuples", "passOver", "(ILcom/example/tracewarden/tracewarden/engine/Zone;)V"⟩ : MethodName) (head1 (Jvm.Cond.code (⟨"com/example/tracewarden/tracewarden/engine/SearchTuples", "passOver", "(ILcom/example/tracewarden/tracewarden/engine/Zone;)V"⟩ : MethodName) prog_86_method_15_code 4 none :: ws) ({ frames := 0, cells := 0, slots := 0, locals := 0 } : Room)) (fun a U => a = #[(.ref a1), (.int (-1 : Int32)), .null] ∧ Z.Warmed39 U.vm ∧ U.heap = h0) (fun _ _ _ _ _ => True) (fun _ U o U' => ∃ v L, o = .returned v ∧ Q_rm12_m Z a1 h0 n0 v U'.heap L ∧ FrameEnd U o U' L ({ frames := 0, cells := 0, slots := 0, locals := 0 } : Room).cells ({ frames := 0, cells := 0, slots := 0, locals := 0 } : Room).slots) := by
  refine MetFree.of_bodySF (plainFor_of_name pn_81) hisR ?_
  intro p e s m args below meth c s₁ Bd hml0 hP hK
  obtain ⟨rfl, hZ, hh⟩ := hP
  have hx := Bd.exec
  have hby := Bd.bytes
  have hml : c.maxLocals = 4 := hml0
  have hown : s.vm.findClass "com/example/tracewarden/tracewarden/engine/SearchTuples" = some m.cls := findClass_of_methodNamed Bd.named
  have hnm := (name_of_methodNamed Bd.named Bd.method).1
  have X0 : Stand p l e ({ frames := 0, cells := 0, slots := 0, locals := 0 } : Room) s m #[(.ref a1), (.int (-1 : Int32)), .null] below meth c s₁ [] 0 0 := Stand.of_body Bd
  have e0 : s₁.heap = h0 := by rw [← hh, Bd.state]; rfl
  have N0 := Fr.nil n0
  show Go p e below (s₁.setTop (entryFrame m #[(.ref a1), (.int (-1 : Int32)), .null] 4)) (fun o U' => ∃ v L, o = .returned v ∧ Q_rm12_m Z a1 h0 n0 v U'.heap L ∧ FrameEnd s o U' L ({ frames := 0, cells := 0, slots := 0, locals := 0 } : Room).cells ({ frames := 0, cells := 0, slots := 0, locals := 0 } : Room).slots)
  rw [ef_rm12_m]
  refine Gk.iloadN X0 hx (hb hby d12_0) rfl ?_
  refine Gk.istoreN X0 hx (hb hby d12_1) #[.val (.ref a1), .val (.int (-1 : Int32)), .val .null, .val (.int (-1 : Int32))] rfl ?_
  refine Gk.iloadN X0 hx (hb hby d12_2) rfl ?_
  refine Gk.ifYes X0 hx (hb hby d12_3) (tlt (by decide : (-1 : Int32) < (0 : Int32))).1 47 (by decide) (by decide) ?_
  refine Go.fin X0 (v := none) (fun _ => rfl) Bd.notSynchronized (fun _ hr => X0.returnOut hx Bd.returns (hb hby d12_47) hr) (fun U' hU hF => ⟨_, _, rfl, ?_, hF.1, hF.2.1, hF.2.2.mono (by decide) (by decide)⟩)
  rw [hU, e0]
  exact ⟨rfl, N0, rfl⟩
theorem d11_0 : decode prog_86_method_18_code 0 = .ok (.aload_n 0, 1) := by decide +kernel
theorem d11_1 : decode prog_86_method_18_code 1 = .ok (.getfield 41, 3) := by decide +kernel
theorem d11_4 : decode prog_86_method_18_code 4 = .ok (.arraylength, 1) := by decide +kernel
theorem d11_5 : decode prog_86_method_18_code 5 = .ok (.iconst 1, 1) := by decide +kernel
theorem d11_6 : decode prog_86_method_18_code 6 = .ok (.isub, 1) := by decide +kernel
theorem d11_7 : decode prog_86_method_18_code 7 = .ok (.istore_n 3, 1) := by decide +kernel
theorem d11_8 : decode prog_86_method_18_code 8 = .ok (.iload_n 2, 1) := by decide +kernel
theorem d11_9 : decode prog_86_method_18_code 9 = .ok (.iload_n 3, 1) := by decide +kernel
theorem d11_10 : decode prog_86_method_18_code 10 = .ok (.iand, 1) := by decide +kernel
theorem d11_11 : decode prog_86_method_18_code 11 = .ok (.istore 4, 2) := by decide +kernel
theorem d11_13 : decode prog_86_method_18_code 13 = .ok (.aload_n 0, 1) := by decide +kernel
theorem d11_14 : decode prog_86_method_18_code 14 = .ok (.getfield 41, 3) := by decide +kernel
theorem d11_17 : decode prog_86_method_18_code 17 = .ok (.iload 4, 2) := by decide +kernel
theorem d11_19 : decode prog_86_method_18_code 19 = .ok (.iaload, 1) := by decide +kernel
theorem d11_20 : decode prog_86_method_18_code 20 = .ok (.ifCond .eq 71, 3) := by decide +kernel
theorem d11_91 : decode prog_86_method_18_code 91 = .ok (.iconst (-1), 1) := by decide +kernel
theorem d11_92 : decode prog_86_method_18_code 92 = .ok (.ireturn, 1) := by decide +kernel
theorem ef_rm11_0 (m : MethodId) (a1 : Addr) (a2 : Addr) : entryFrame m #[(.ref a1), (.ref a2), (.int (0 : Int32))] 6 = mkF m 0 #[.val (.ref a1), .val (.ref a2), .val (.int (0 : Int32)), .unset, .unset, .unset] [] := by first | (simp [entryFrame, mkF, argsToLocals, Value.category]; done) | rfl
def Q_rm11_0 (Z : State) (a1 : Addr) (a2 : Addr) (xs : Addr) (ks : ClassId) (fs : Nat → Value) (h0 : Heap) (n0 : Nat) (v : Option Value) (h : Heap) (L : List Loc) : Prop := v = some (.int (-1 : Int32)) ∧ Fr n0 L ∧ h = h0
set_option maxRecDepth 65536 in
set_option maxHeartbeats 40000000 in
theorem rm11_0 (l : Launch) (Z : State) (a0 : Array Value) (hw : ∀ d ∈ tables_1, d.before a0 Z = true) (ws : List Jvm.Cond) (a1 : Addr) (a2 : Addr) (xs : Addr) (ks : ClassId) (fs : Nat → Value) (h0 : Heap) (n0 : Nat) (Z0 : n0 ≤ h0.size) (V_s : Arf Z h0 xs ks .int (32 : Int32) fs) (F_slots : Fld Z h0 a1 "com/example/tracewarden/tracewarden/engine/SearchTuples" "slots" "[I" (.ref xs)) (hs_ : fs 0 = (.int (0 : Int32))) :
    MetFree l (⟨"com/example/tracewarden/tracewarden/engine/SearchTuples", "latest", "([II)I"⟩ : MethodName) (head1 (Jvm.Cond.code (⟨"com/example/tracewarden/tracewarden/engine/SearchTuples", "latest", "([II)I"⟩ : MethodName) prog_86_method_18_code 6 (some .int) :: ws) ({ frames := 0, cells := 0, slots := 0, locals := 0 } : Room)) (fun a U => a = #[(.ref a1), (.ref a2), (.int (0 : Int32))] ∧ Z.Warmed39 U.vm ∧ U.heap = h0) (fun _ _ _ _ _ => True) (fun _ U o U' => ∃ v L, o = .returned v ∧ Q_rm11_0 Z a1 a2 xs ks fs h0 n0 v U'.heap L ∧ FrameEnd U o U' L ({ frames := 0, cells := 0, slots := 0, locals := 0 } : Room).cells ({ frames := 0, cells := 0, slots := 0, locals := 0 } : Room).slots) := by
  refine MetFree.of_bodySF (plainFor_of_name pn_81) hisR ?_
  intro p e s m args below meth c s₁ Bd hml0 hP hK
  obtain ⟨rfl, hZ, hh⟩ := hP
  have hx := Bd.exec
  have hby := Bd.bytes
  have hml : c.maxLocals = 6 := hml0
  have hown : s.vm.findClass "com/example/tracewarden/tracewarden/engine/SearchTuples" = some m.cls := findClass_of_methodNamed Bd.named
  have hnm := (name_of_methodNamed Bd.named Bd.method).1
  have X0 : Stand p l e ({ frames := 0, cells := 0, slots := 0, locals := 0 } : Room) s m #[(.ref a1), (.ref a2), (.int (0 : Int32))] below meth c s₁ [] 0 0 := Stand.of_body Bd
  have e0 : s₁.heap = h0 := by rw [← hh, Bd.state]; rfl
  have N0 := Fr.nil n0
  show Go p e below (s₁.setTop (entryFrame m #[(.ref a1), (.ref a2), (.int (0 : Int32))] 6)) (fun o U' => ∃ v L, o = .returned v ∧ Q_rm11_0 Z a1 a2 xs ks fs h0 n0 v U'.heap L ∧ FrameEnd s o U' L ({ frames := 0, cells := 0, slots := 0, locals := 0 } : Room).cells ({ frames := 0, cells := 0, slots := 0, locals := 0 } : Room).slots)
  rw [ef_rm11_0]
  refine Gk.aloadN X0 hx (hb hby d11_0) rfl rfl ?_
  refine Gk.getF X0 hx hZ hown (host := "") (Or.inl (hw _ (List.mem_of_getElem? (i := 42) rfl))) Via.refl e0 F_slots (hb hby d11_1) ?_
  intro T1 X1 e1
  refine Gk.alen X1 hx hZ e1 V_s (hb hby d11_4) ?_
  refine Gk.iconst X1 hx (hb hby d11_5) (1 : Int32) rfl ?_
  refine Gk.isub X1 hx (hb hby d11_6) (31 : Int32) (by decide) ?_
  refine Gk.istoreN X1 hx (hb hby d11_7) #[.val (.ref a1), .val (.ref a2), .val (.int (0 : Int32)), .val (.int (31 : Int32)), .unset, .unset] rfl ?_
  refine Gk.iloadN X1 hx (hb hby d11_8) rfl ?_
  refine Gk.iloadN X1 hx (hb hby d11_9) rfl ?_
  refine Gk.iand X1 hx (hb hby d11_10) (0 : Int32) (by decide) ?_
  refine Gk.istore X1 hx (hb hby d11_11) #[.val (.ref a1), .val (.ref a2), .val (.int (0 : Int32)), .val (.int (31 : Int32)), .val (.int (0 : Int32)), .unset] rfl ?_
  refine Gk.aloadN X1 hx (hb hby d11_13) rfl rfl ?_
  refine Gk.getF X1 hx hZ hown (host := "") (Or.inl (hw _ (List.mem_of_getElem? (i := 42) rfl))) Via.refl e1 F_slots (hb hby d11_14) ?_
  intro T2 X2 e2
  refine Gk.iload X2 hx (hb hby d11_17) rfl ?_
  refine Gk.iaload X2 hx hZ e2 V_s ⟨by decide, by decide⟩ (.int (0 : Int32)) hs_ (hb hby d11_19) ?_
  refine Gk.ifYes X2 hx (hb hby d11_20) (teq (by decide : (0 : Int32) = (0 : Int32))).1 91 (by decide) (by decide) ?_
  refine Gk.iconst X2 hx (hb hby d11_91) (-1 : Int32) rfl ?_
  refine Go.fin X2 (v := some (.int (-1 : Int32))) (fun h_ => by rw [Bd.returns] at h_; cases h_) Bd.notSynchronized (fun _ hr => retOut X2 hx Bd.returns rfl (Or.inl ⟨rfl, Or.inl rfl, _, rfl⟩) (hb hby d11_92) hr) (fun U' hU hF => ⟨_, _, rfl, ?_, hF.1, hF.2.1, hF.2.2.mono (by decide) (by decide)⟩)
  rw [hU, e2]
  exact ⟨(congrArg (fun z_ : Int32 => some (Value.int z_)) (show (-1 : Int32) = (-1 : Int32) from rfl)), N0, rfl⟩
theorem ef_rm11_1 (m : MethodId) (a1 : Addr) (a2 : Addr) : entryFrame m #[(.ref a1), (.ref a2), (.int (-511900244 : Int32))] 6 = mkF m 0 #[.val (.ref a1), .val (.ref a2), .val (.int (-511900244 : Int32)), .unset, .unset, .unset] [] := by first | (simp [entryFrame, mkF, argsToLocals, Value.category]; done) | rfl
def Q_rm11_1 (Z : State) (a1 : Addr) (a2 : Addr) (xs : Addr) (ks : ClassId) (fs : Nat → Value) (h0 : Heap) (n0 : Nat) (v : Option Value) (h : Heap) (L : List Loc) : Prop := v = some (.int (-1 : Int32)) ∧ Fr n0 L ∧ h = h0
set_option maxRecDepth 65536 in
set_option maxHeartbeats 40000000 in
theorem rm11_1 (l : Launch) (Z : State) (a0 : Array Value) (hw : ∀ d ∈ tables_1, d.before a0 Z = true) (ws : List Jvm.Cond) (a1 : Addr) (a2 : Addr) (xs : Addr) (ks : ClassId) (fs : Nat → Value) (h0 : Heap) (n0 : Nat) (Z0 : n0 ≤ h0.size) (V_s : Arf Z h0 xs ks .int (32 : Int32) fs) (F_slots : Fld Z h0 a1 "com/example/tracewarden/tracewarden/engine/SearchTuples" "slots" "[I" (.ref xs)) (hs_ : fs 12 = (.int (0 : Int32))) :
    MetFree l (⟨"com/example/tracewarden/tracewarden/engine/SearchTuples", "latest", "([II)I"⟩ : MethodName) (head1 (Jvm.Cond.code (⟨"com/example/tracewarden/tracewarden/engine/SearchTuples", "latest", "([II)I"⟩ : MethodName) prog_86_method_18_code 6 (some .int) :: ws) ({ frames := 0, cells := 0, slots := 0, locals := 0 } : Room)) (fun a U => a = #[(.ref a1), (.ref a2), (.int (-511900244 : Int32))] ∧ Z.Warmed39 U.vm ∧ U.heap = h0) (fun _ _ _ _ _ => True) (fun _ U o U' => ∃ v L, o = .returned v ∧ Q_rm11_1 Z a1 a2 xs ks fs h0 n0 v U'.heap L ∧ FrameEnd U o U' L ({ frames := 0, cells := 0, slots := 0, locals := 0 } : Room).cells ({ frames := 0, cells := 0, slots := 0, locals := 0 } : Room).slots) := by
  refine MetFree.of_bodySF (plainFor_of_name pn_81) hisR ?_
  intro p e s m args below meth c s₁ Bd hml0 hP hK
  obtain ⟨rfl, hZ, hh⟩ := hP
  have hx := Bd.exec
  have hby := Bd.bytes
  have hml : c.maxLocals = 6 := hml0
  have hown : s.vm.findClass "com/example/tracewarden/tracewarden/engine/SearchTuples" = some m.cls := findClass_of_methodNamed Bd.named
  have hnm := (name_of_methodNamed Bd.named Bd.method).1
  have X0 : Stand p l e ({ frames := 0, cells := 0, slots := 0, locals := 0 } : Room) s m #[(.ref a1), (.ref a2), (.int (-511900244 : Int32))] below meth c s₁ [] 0 0 := Stand.of_body Bd
  have e0 : s₁.heap = h0 := by rw [← hh, Bd.state]; rfl
  have N0 := Fr.nil n0
  show Go p e below (s₁.setTop (entryFrame m #[(.ref a1), (.ref a2), (.int (-511900244 : Int32))] 6)) (fun o U' => ∃ v L, o = .returned v ∧ Q_rm11_1 Z a1 a2 xs ks fs h0 n0 v U'.heap L ∧ FrameEnd s o U' L ({ frames := 0, cells := 0, slots := 0, locals := 0 } : Room).cells ({ frames := 0, cells := 0, slots := 0, locals := 0 } : Room).slots)
  rw [ef_rm11_1]
  refine Gk.aloadN X0 hx (hb hby d11_0) rfl rfl ?_
  refine Gk.getF X0 hx hZ hown (host := "") (Or.inl (hw _ (List.mem_of_getElem? (i := 42) rfl))) Via.refl e0 F_slots (hb hby d11_1) ?_
  intro T1 X1 e1
  refine Gk.alen X1 hx hZ e1 V_s (hb hby d11_4) ?_
  refine Gk.iconst X1 hx (hb hby d11_5) (1 : Int32) rfl ?_
  refine Gk.isub X1 hx (hb hby d11_6) (31 : Int32) (by decide) ?_
  refine Gk.istoreN X1 hx (hb hby d11_7) #[.val (.ref a1), .val (.ref a2), .val (.int (-511900244 : Int32)), .val (.int (31 : Int32)), .unset, .unset] rfl ?_
  refine Gk.iloadN X1 hx (hb hby d11_8) rfl ?_
  refine Gk.iloadN X1 hx (hb hby d11_9) rfl ?_
  refine Gk.iand X1 hx (hb hby d11_10) (12 : Int32) (by decide) ?_
  refine Gk.istore X1 hx (hb hby d11_11) #[.val (.ref a1), .val (.ref a2), .val (.int (-511900244 : Int32)), .val (.int (31 : Int32)), .val (.int (12 : Int32)), .unset] rfl ?_
  refine Gk.aloadN X1 hx (hb hby d11_13) rfl rfl ?_
  refine Gk.getF X1 hx hZ hown (host := "") (Or.inl (hw _ (List.mem_of_getElem? (i := 42) rfl))) Via.refl e1 F_slots (hb hby d11_14) ?_
  intro T2 X2 e2
  refine Gk.iload X2 hx (hb hby d11_17) rfl ?_
  refine Gk.iaload X2 hx hZ e2 V_s ⟨by decide, by decide⟩ (.int (0 : Int32)) hs_ (hb hby d11_19) ?_
  refine Gk.ifYes X2 hx (hb hby d11_20) (teq (by decide : (0 : Int32) = (0 : Int32))).1 91 (by decide) (by decide) ?_
  refine Gk.iconst X2 hx (hb hby d11_91) (-1 : Int32) rfl ?_
  refine Go.fin X2 (v := some (.int (-1 : Int32))) (fun h_ => by rw [Bd.returns] at h_; cases h_) Bd.notSynchronized (fun _ hr => retOut X2 hx Bd.returns rfl (Or.inl ⟨rfl, Or.inl rfl, _, rfl⟩) (hb hby d11_92) hr) (fun U' hU hF => ⟨_, _, rfl, ?_, hF.1, hF.2.1, hF.2.2.mono (by decide) (by decide)⟩)
  rw [hU, e2]
  exact ⟨(congrArg (fun z_ : Int32 => some (Value.int z_)) (show (-1 : Int32) = (-1 : Int32) from rfl)), N0, rfl⟩
theorem ef_rm11_2 (m : MethodId) (a1 : Addr) (a2 : Addr) : entryFrame m #[(.ref a1), (.ref a2), (.int (-1023800488 : Int32))] 6 = mkF m 0 #[.val (.ref a1), .val (.ref a2), .val (.int (-1023800488 : Int32)), .unset, .unset, .unset] [] := by first | (simp [entryFrame, mkF, argsToLocals, Value.category]; done) | rfl
def Q_rm11_2 (Z : State) (a1 : Addr) (a2 : Addr) (xs : Addr) (ks : ClassId) (fs : Nat → Value) (h0 : Heap) (n0 : Nat) (v : Option Value) (h : Heap) (L : List Loc) : Prop := v = some (.int (-1 : Int32)) ∧ Fr n0 L ∧ h = h0
set_option maxRecDepth 65536 in
set_option maxHeartbeats 40000000 in
theorem rm11_2 (l : Launch) (Z : State) (a0 : Array Value) (hw : ∀ d ∈ tables_1, d.before a0 Z = true) (ws : List Jvm.Cond) (a1 : Addr) (a2 : Addr) (xs : Addr) (ks : ClassId) (fs : Nat → Value) (h0 : Heap) (n0 : Nat) (Z0 : n0 ≤ h0.size) (V_s : Arf Z h0 xs ks .int (32 : Int32) fs) (F_slots : Fld Z h0 a1 "com/example/tracewarden/tracewarden/engine/SearchTuples" "slots" "[I" (.ref xs)) (hs_ : fs 24 = (.int (0 : Int32))) :
    MetFree l (⟨"com/example/tracewarden/tracewarden/engine/SearchTuples", "latest", "([II)I"⟩ : MethodName) (head1 (Jvm.Cond.code (⟨"com/example/tracewarden/tracewarden/engine/SearchTuples", "latest", "([II)I"⟩ : MethodName) prog_86_method_18_code 6 (some .int) :: ws) ({ frames := 0, cells := 0, slots := 0, locals := 0 } : Room)) (fun a U => a = #[(.ref a1), (.ref a2), (.int (-1023800488 : Int32))] ∧ Z.Warmed39 U.vm ∧ U.heap = h0) (fun _ _ _ _ _ => True) (fun _ U o U' => ∃ v L, o = .returned v ∧ Q_rm11_2 Z a1 a2 xs ks fs h0 n0 v U'.heap L ∧ FrameEnd U o U' L ({ frames := 0, cells := 0, slots := 0, locals := 0 } : Room).cells ({ frames := 0, cells := 0, slots := 0, locals := 0 } : Room).slots) := by
  refine MetFree.of_bodySF (plainFor_of_name pn_81) hisR ?_
  intro p e s m args below meth c s₁ Bd hml0 hP hK
  obtain ⟨rfl, hZ, hh⟩ := hP
  have hx := Bd.exec
  have hby := Bd.bytes
  have hml : c.maxLocals = 6 := hml0
  have hown : s.vm.findClass "com/example/tracewarden/tracewarden/engine/SearchTuples" = some m.cls := findClass_of_methodNamed Bd.named
  have hnm := (name_of_methodNamed Bd.named Bd.method).1
  have X0 : Stand p l e ({ frames := 0, cells := 0, slots := 0, locals := 0 } : Room) s m #[(.ref a1), (.ref a2), (.int (-1023800488 : Int32))] below meth c s₁ [] 0 0 := Stand.of_body Bd
  have e0 : s₁.heap = h0 := by rw [← hh, Bd.state]; rfl
  have N0 := Fr.nil n0
  show Go p e below (s₁.setTop (entryFrame m #[(.ref a1), (.ref a2), (.int (-1023800488 : Int32))] 6)) (fun o U' => ∃ v L, o = .returned v ∧ Q_rm11_2 Z a1 a2 xs ks fs h0 n0 v U'.heap L ∧ FrameEnd s o U' L ({ frames := 0, cells := 0, slots := 0, locals := 0 } : Room).cells ({ frames := 0, cells := 0, slots := 0, locals := 0 } : Room).slots)
  rw [ef_rm11_2]
  refine Gk.aloadN X0 hx (hb hby d11_0) rfl rfl ?_
  refine Gk.getF X0 hx hZ hown (host := "") (Or.inl (hw _ (List.mem_of_getElem? (i := 42) rfl))) Via.refl e0 F_slots (hb hby d11_1) ?_
  intro T1 X1 e1
  refine Gk.alen X1 hx hZ e1 V_s (hb hby d11_4) ?_
  refine Gk.iconst X1 hx (hb hby d11_5) (1 : Int32) rfl ?_
  refine Gk.isub X1 hx (hb hby d11_6) (31 : Int32) (by decide) ?_
  refine Gk.istoreN X1 hx (hb hby d11_7) #[.val (.ref a1), .val (.ref a2), .val (.int (-1023800488 : Int32)), .val (.int (31 : Int32)), .unset, .unset] rfl ?_
  refine Gk.iloadN X1 hx (hb hby d11_8) rfl ?_
  refine Gk.iloadN X1 hx (hb hby d11_9) rfl ?_
  refine Gk.iand X1 hx (hb hby d11_10) (24 : Int32) (by decide) ?_
  refine Gk.istore X1 hx (hb hby d11_11) #[.val (.ref a1), .val (.ref a2), .val (.int (-1023800488 : Int32)), .val (.int (31 : Int32)), .val (.int (24 : Int32)), .unset] rfl ?_
  refine Gk.aloadN X1 hx (hb hby d11_13) rfl rfl ?_
  refine Gk.getF X1 hx hZ hown (host := "") (Or.inl (hw _ (List.mem_of_getElem? (i := 42) rfl))) Via.refl e1 F_slots (hb hby d11_14) ?_
  intro T2 X2 e2
  refine Gk.iload X2 hx (hb hby d11_17) rfl ?_
  refine Gk.iaload X2 hx hZ e2 V_s ⟨by decide, by decide⟩ (.int (0 : Int32)) hs_ (hb hby d11_19) ?_
  refine Gk.ifYes X2 hx (hb hby d11_20) (teq (by decide : (0 : Int32) = (0 : Int32))).1 91 (by decide) (by decide) ?_
  refine Gk.iconst X2 hx (hb hby d11_91) (-1 : Int32) rfl ?_
  refine Go.fin X2 (v := some (.int (-1 : Int32))) (fun h_ => by rw [Bd.returns] at h_; cases h_) Bd.notSynchronized (fun _ hr => retOut X2 hx Bd.returns rfl (Or.inl ⟨rfl, Or.inl rfl, _, rfl⟩) (hb hby d11_92) hr) (fun U' hU hF => ⟨_, _, rfl, ?_, hF.1, hF.2.1, hF.2.2.mono (by decide) (by decide)⟩)
  rw [hU, e2]
  exact ⟨(congrArg (fun z_ : Int32 => some (Value.int z_)) (show (-1 : Int32) = (-1 : Int32) from rfl)), N0, rfl⟩
theorem ef_rm11_3 (m : MethodId) (a1 : Addr) (a2 : Addr) : entryFrame m #[(.ref a1), (.ref a2), (.int (-1485235949 : Int32))] 6 = mkF m 0 #[.val (.ref a1), .val (.ref a2), .val (.int (-1485235949 : Int32)), .unset, .unset, .unset] [] := by first | (simp [entryFrame, mkF, argsToLocals, Value.category]; done) | rfl
def Q_rm11_3 (Z : State) (a1 : Addr) (a2 : Addr) (xs : Addr) (ks : ClassId) (fs : Nat → Value) (h0 : Heap) (n0 : Nat) (v : Option Value) (h : Heap) (L : List Loc) : Prop := v = some (.int (-1 : Int32)) ∧ Fr n0 L ∧ h = h0
set_option maxRecDepth 65536 in
set_option maxHeartbeats 40000000 in
theorem rm11_3 (l : Launch) (Z : State) (a0 : Array Value) (hw : ∀ d ∈ tables_1, d.before a0 Z = true) (ws : List Jvm.Cond) (a1 : Addr) (a2 : Addr) (xs : Addr) (ks : ClassId) (fs : Nat → Value) (h0 : Heap) (n0 : Nat) (Z0 : n0 ≤ h0.size) (V_s : Arf Z h0 xs ks .int (32 : Int32) fs) (F_slots : Fld Z h0 a1 "com/example/tracewarden/tracewarden/engine/SearchTuples" "slots" "[I" (.ref xs)) (hs_ : fs 19 = (.int (0 : Int32))) :
    MetFree l (⟨"com/example/tracewarden/tracewarden/engine/SearchTuples", "latest", "([II)I"⟩ : MethodName) (head1 (Jvm.Cond.code (⟨"com/example/tracewarden/tracewarden/engine/SearchTuples", "latest", "([II)I"⟩ : MethodName) prog_86_method_18_code 6 (some .int) :: ws) ({ frames := 0, cells := 0, slots := 0, locals := 0 } : Room)) (fun a U => a = #[(.ref a1), (.ref a2), (.int (-1485235949 : Int32))] ∧ Z.Warmed39 U.vm ∧ U.heap = h0) (fun _ _ _ _ _ => True) (fun _ U o U' => ∃ v L, o = .returned v ∧ Q_rm11_3 Z a1 a2 xs ks fs h0 n0 v U'.heap L ∧ FrameEnd U o U' L ({ frames := 0, cells := 0, slots := 0, locals := 0 } : Room).cells ({ frames := 0, cells := 0, slots := 0, locals := 0 } : Room).slots) := by
  refine MetFree.of_bodySF (plainFor_of_name pn_81) hisR ?_
  intro p e s m args below meth c s₁ Bd hml0 hP hK
  obtain ⟨rfl, hZ, hh⟩ := hP
  have hx := Bd.exec
  have hby := Bd.bytes
  have hml : c.maxLocals = 6 := hml0
  have hown : s.vm.findClass "com/example/tracewarden/tracewarden/engine/SearchTuples" = some m.cls := findClass_of_methodNamed Bd.named
  have hnm := (name_of_methodNamed Bd.named Bd.method).1
  have X0 : Stand p l e ({ frames := 0, cells := 0, slots := 0, locals := 0 } : Room) s m #[(.ref a1), (.ref a2), (.int (-1485235949 : Int32))] below meth c s₁ [] 0 0 := Stand.of_body Bd
  have e0 : s₁.heap = h0 := by rw [← hh, Bd.state]; rfl
  have N0 := Fr.nil n0
  show Go p e below (s₁.setTop (entryFrame m #[(.ref a1), (.ref a2), (.int (-1485235949 : Int32))] 6)) (fun o U' => ∃ v L, o = .returned v ∧ Q_rm11_3 Z a1 a2 xs ks fs h0 n0 v U'.heap L ∧ FrameEnd s o U' L ({ frames := 0, cells := 0, slots := 0, locals := 0 } : Room).cells ({ frames := 0, cells := 0, slots := 0, locals := 0 } : Room).slots)
  rw [ef_rm11_3]
  refine Gk.aloadN X0 hx (hb hby d11_0) rfl rfl ?_
  refine Gk.getF X0 hx hZ hown (host := "") (Or.inl (hw _ (List.mem_of_getElem? (i := 42) rfl))) Via.refl e0 F_slots (hb hby d11_1) ?_
  intro T1 X1 e1
  refine Gk.alen X1 hx hZ e1 V_s (hb hby d11_4) ?_
  refine Gk.iconst X1 hx (hb hby d11_5) (1 : Int32) rfl ?_
  refine Gk.isub X1 hx (hb hby d11_6) (31 : Int32) (by decide) ?_
  refine Gk.istoreN X1 hx (hb hby d11_7) #[.val (.ref a1), .val (.ref a2), .val (.int (-1485235949 : Int32)), .val (.int (31 : Int32)), .unset, .unset] rfl ?_
  refine Gk.iloadN X1 hx (hb hby d11_8) rfl ?_
  refine Gk.iloadN X1 hx (hb hby d11_9) rfl ?_
  refine Gk.iand X1 hx (hb hby d11_10) (19 : Int32) (by decide) ?_
  refine Gk.istore X1 hx (hb hby d11_11) #[.val (.ref a1), .val (.ref a2), .val (.int (-1485235949 : Int32)), .val (.int (31 : Int32)), .val (.int (19 : Int32)), .unset] rfl ?_
  refine Gk.aloadN X1 hx (hb hby d11_13) rfl rfl ?_
  refine Gk.getF X1 hx hZ hown (host := "") (Or.inl (hw _ (List.mem_of_getElem? (i := 42) rfl))) Via.refl e1 F_slots (hb hby d11_14) ?_
  intro T2 X2 e2
  refine Gk.iload X2 hx (hb hby d11_17) rfl ?_
  refine Gk.iaload X2 hx hZ e2 V_s ⟨by decide, by decide⟩ (.int (0 : Int32)) hs_ (hb hby d11_19) ?_
  refine Gk.ifYes X2 hx (hb hby d11_20) (teq (by decide : (0 : Int32) = (0 : Int32))).1 91 (by decide) (by decide) ?_
  refine Gk.iconst X2 hx (hb hby d11_91) (-1 : Int32) rfl ?_
  refine Go.fin X2 (v := some (.int (-1 : Int32))) (fun h_ => by rw [Bd.returns] at h_; cases h_) Bd.notSynchronized (fun _ hr => retOut X2 hx Bd.returns rfl (Or.inl ⟨rfl, Or.inl rfl, _, rfl⟩) (hb hby d11_92) hr) (fun U' hU hF => ⟨_, _, rfl, ?_, hF.1, hF.2.1, hF.2.2.mono (by decide) (by decide)⟩)
  rw [hU, e2]
  exact ⟨(congrArg (fun z_ : Int32 => some (Value.int z_)) (show (-1 : Int32) = (-1 : Int32) from rfl)), N0, rfl⟩
theorem d19_0 : decode jdk_48_method_20_code 0 = .ok (.iconst 0, 1) := by decide +kernel
theorem d19_1 : decode jdk_48_method_20_code 1 = .ok (.istore 5, 2) := by decide +kernel
theorem d19_3 : decode jdk_48_method_20_code 3 = .ok (.iload 4, 2) := by decide +kernel
theorem d19_5 : decode jdk_48_method_20_code 5 = .ok (.iconst 1, 1) := by decide +kernel
theorem d19_6 : decode jdk_48_method_20_code 6 = .ok (.if_icmp .le 71, 3) := by decide +kernel
theorem d19_77 : decode jdk_48_method_20_code 77 = .ok (.iload 5, 2) := by decide +kernel
theorem d19_79 : decode jdk_48_method_20_code 79 = .ok (.iload 4, 2) := by decide +kernel
theorem d19_81 : decode jdk_48_method_20_code 81 = .ok (.if_icmp .ge 27, 3) := by decide +kernel
theorem d19_84 : decode jdk_48_method_20_code 84 = .ok (.aload_n 0, 1) := by decide +kernel
theorem d19_85 : decode jdk_48_method_20_code 85 = .ok (.iload_n 1, 1) := by decide +kernel
theorem d19_86 : decode jdk_48_method_20_code 86 = .ok (.iload 5, 2) := by decide +kernel
theorem d19_88 : decode jdk_48_method_20_code 88 = .ok (.iadd, 1) := by decide +kernel
theorem d19_89 : decode jdk_48_method_20_code 89 = .ok (.iaload, 1) := by decide +kernel
theorem d19_90 : decode jdk_48_method_20_code 90 = .ok (.aload_n 2, 1) := by decide +kernel
theorem d19_91 : decode jdk_48_method_20_code 91 = .ok (.iload_n 3, 1) := by decide +kernel
theorem d19_92 : decode jdk_48_method_20_code 92 = .ok (.iload 5, 2) := by decide +kernel
theorem d19_94 : decode jdk_48_method_20_code 94 = .ok (.iadd, 1) := by decide +kernel
theorem d19_95 : decode jdk_48_method_20_code 95 = .ok (.iaload, 1) := by decide +kernel
theorem d19_96 : decode jdk_48_method_20_code 96 = .ok (.if_icmp .eq 6, 3) := by decide +kernel
theorem d19_102 : decode jdk_48_method_20_code 102 = .ok (.iinc 5 1, 3) := by decide +kernel
theorem d19_105 : decode jdk_48_method_20_code 105 = .ok (.goto (-28), 3) := by decide +kernel
theorem d19_108 : decode jdk_48_method_20_code 108 = .ok (.iconst (-1), 1) := by decide +kernel
theorem d19_109 : decode jdk_48_method_20_code 109 = .ok (.ireturn, 1) := by decide +kernel
theorem pn_282 : plainName "jdk/internal/util/ArraysSupport" = true := by first | (simp [plainName, overriddenIn]; done) | decide +kernel
theorem ef_rm19_0 (m : MethodId) (a1 : Addr) (a3 : Addr) : entryFrame m #[(.ref a1), (.int (0 : Int32)), (.ref a3), (.int (0 : Int32)), (.int (1 : Int32))] 8 = mkF m 0 #[.val (.ref a1), .val (.int (0 : Int32)), .val (.ref a3), .val (.int (0 : Int32)), .val (.int (1 : Int32)), .unset, .unset, .unset] [] := by first | (simp [entryFrame, mkF, argsToLocals, Value.category]; done) | rfl
def Q_rm19_0 (Z : State) (a1 : Addr) (a3 : Addr) (kx : ClassId) (fx : Nat → Value) (kt : ClassId) (ft : Nat → Value) (h0 : Heap) (n0 : Nat) (v : Option Value) (h : Heap) (L : List Loc) : Prop := v = some (.int (-1 : Int32)) ∧ Fr n0 L ∧ h = h0
set_option maxRecDepth 65536 in
set_option maxHeartbeats 40000000 in
theorem rm19_0 (l : Launch) (Z : State) (a0 : Array Value) (hw : ∀ d ∈ tables_1, d.before a0 Z = true) (ws : List Jvm.Cond) (a1 : Addr) (a3 : Addr) (kx : ClassId) (fx : Nat → Value) (kt : ClassId) (ft : Nat → Value) (h0 : Heap) (n0 : Nat) (Z0 : n0 ≤ h0.size) (V_x : Arf Z h0 a1 kx .int (64 : Int32) fx) (hx_ : fx 0 = (.int (0 : Int32))) (V_t : Arf Z h0 a3 kt .int (1 : Int32) ft) (ht0 : ft 0 = (.int (0 : Int32))) :
    MetFree l (⟨"jdk/internal/util/ArraysSupport", "mismatch", "([II[III)I"⟩ : MethodName) (head1 (Jvm.Cond.code (⟨"jdk/internal/util/ArraysSupport", "mismatch", "([II[III)I"⟩ : MethodName) jdk_48_method_20_code 8 (some .int) :: ws) ({ frames := 0, cells := 0, slots := 0, locals := 0 } : Room)) (fun a U => a = #[(.ref a1), (.int (0 : Int32)), (.ref a3), (.int (0 : Int32)), (.int (1 : Int32))] ∧ Z.Warmed39 U.vm ∧ U.heap = h0) (fun _ _ _ _ _ => True) (fun _ U o U' => ∃ v L, o = .returned v ∧ Q_rm19_0 Z a1 a3 kx fx kt ft h0 n0 v U'.heap L ∧ FrameEnd U o U' L ({ frames := 0, cells := 0, slots := 0, locals := 0 } : Room).cells ({ frames := 0, cells := 0, slots := 0, locals := 0 } : Room).slots) := by
  refine MetFree.of_bodySF (plainFor_of_name pn_282) hisR ?_
  intro p e s m args below meth c s₁ Bd hml0 hP hK
  obtain ⟨rfl, hZ, hh⟩ := hP
  have hx := Bd.exec
  have hby := Bd.bytes
  have hml : c.maxLocals = 8 := hml0
  have hown : s.vm.findClass "jdk/internal/util/ArraysSupport" = some m.cls := findClass_of_methodNamed Bd.named
  have hnm := (name_of_methodNamed Bd.named Bd.method).1
  have X0 : Stand p l e ({ frames := 0, cells := 0, slots := 0, locals := 0 } : Room) s m #[(.ref a1), (.int (0 : Int32)), (.ref a3), (.int (0 : Int32)), (.int (1 : Int32))] below meth c s₁ [] 0 0 := Stand.of_body Bd
  have e0 : s₁.heap = h0 := by rw [← hh, Bd.state]; rfl
  have N0 := Fr.nil n0
  show Go p e below (s₁.setTop (entryFrame m #[(.ref a1), (.int (0 : Int32)), (.ref a3), (.int (0 : Int32)), (.int (1 : Int32))] 8)) (fun o U' => ∃ v L, o = .returned v ∧ Q_rm19_0 Z a1 a3 kx fx kt ft h0 n0 v U'.heap L ∧ FrameEnd s o U' L ({ frames := 0, cells := 0, slots := 0, locals := 0 } : Room).cells ({ frames := 0, cells := 0, slots := 0, locals := 0 } : Room).slots)
  rw [ef_rm19_0]
  refine Gk.iconst X0 hx (hb hby d19_0) (0 : Int32) rfl ?_
  refine Gk.istore X0 hx (hb hby d19_1) #[.val (.ref a1), .val (.int (0 : Int32)), .val (.ref a3), .val (.int (0 : Int32)), .val (.int (1 : Int32)), .val (.int (0 : Int32)), .unset, .unset] rfl ?_
  refine Gk.iload X0 hx (hb hby d19_3) rfl ?_
  refine Gk.iconst X0 hx (hb hby d19_5) (1 : Int32) rfl ?_
  refine Gk.icmpYes X0 hx (hb hby d19_6) (flt (by decide : ¬ ((1 : Int32) < (1 : Int32)))).2.2.2 77 (by decide) (by decide) ?_
  refine Gk.iload X0 hx (hb hby d19_77) rfl ?_
  refine Gk.iload X0 hx (hb hby d19_79) rfl ?_
  refine Gk.icmpNo X0 hx (hb hby d19_81) (tlt (by decide : (0 : Int32) < (1 : Int32))).2.1 ?_
  refine Gk.aloadN X0 hx (hb hby d19_84) rfl rfl ?_
  refine Gk.iloadN X0 hx (hb hby d19_85) rfl ?_
  refine Gk.iload X0 hx (hb hby d19_86) rfl ?_
  refine Gk.iadd X0 hx (hb hby d19_88) (0 : Int32) (by decide) ?_
  refine Gk.iaload X0 hx hZ e0 V_x ⟨by decide, by decide⟩ (.int (0 : Int32)) hx_ (hb hby d19_89) ?_
  refine Gk.aloadN X0 hx (hb hby d19_90) rfl rfl ?_
  refine Gk.iloadN X0 hx (hb hby d19_91) rfl ?_
  refine Gk.iload X0 hx (hb hby d19_92) rfl ?_
  refine Gk.iadd X0 hx (hb hby d19_94) (0 : Int32) (by decide) ?_
  refine Gk.iaload X0 hx hZ e0 V_t ⟨by decide, by decide⟩ (.int (0 : Int32)) ht0 (hb hby d19_95) ?_
  refine Gk.icmpYes X0 hx (hb hby d19_96) (teq (by decide : (0 : Int32) = (0 : Int32))).1 102 (by decide) (by decide) ?_
  refine Gk.iinc X0 hx (hb hby d19_102) rfl #[.val (.ref a1), .val (.int (0 : Int32)), .val (.ref a3), .val (.int (0 : Int32)), .val (.int (1 : Int32)), .val (.int (1 : Int32)), .unset, .unset] rfl ?_
  refine Gk.goto X0 hx (hb hby d19_105) 77 (by decide) (by decide) ?_
  refine Gk.iload X0 hx (hb hby d19_77) rfl ?_
  refine Gk.iload X0 hx (hb hby d19_79) rfl ?_
  refine Gk.icmpYes X0 hx (hb hby d19_81) (flt (by decide : ¬ ((1 : Int32) < (1 : Int32)))).2.1 108 (by decide) (by decide) ?_
  refine Gk.iconst X0 hx (hb hby d19_108) (-1 : Int32) rfl ?_
  refine Go.fin X0 (v := some (.int (-1 : Int32))) (fun h_ => by rw [Bd.returns] at h_; cases h_) Bd.notSynchronized (fun _ hr => retOut X0 hx Bd.returns rfl (Or.inl ⟨rfl, Or.inl rfl, _, rfl⟩) (hb hby d19_109) hr) (fun U' hU hF => ⟨_, _, rfl, ?_, hF.1, hF.2.1, hF.2.2.mono (by decide) (by decide)⟩)
  rw [hU, e0]
  exact ⟨(congrArg (fun z_ : Int32 => some (Value.int z_)) (show (-1 : Int32) = (-1 : Int32) from rfl)), N0, rfl⟩
theorem pd_5 : parseMethodDescriptor "([II[III)I" = some ⟨[(.array .int), .int, (.array .int), .int, .int], some .int⟩ := by decide +kernel
theorem d18_0 : decode jdk_65_method_84_code 0 = .ok (.aload_n 0, 1) := by decide +kernel
theorem d18_1 : decode jdk_65_method_84_code 1 = .ok (.arraylength, 1) := by decide +kernel
theorem d18_2 : decode jdk_65_method_84_code 2 = .ok (.iload_n 1, 1) := by decide +kernel
theorem d18_3 : decode jdk_65_method_84_code 3 = .ok (.iload_n 2, 1) := by decide +kernel
theorem d18_4 : decode jdk_65_method_84_code 4 = .ok (.invokestatic 13, 3) := by decide +kernel
theorem d18_7 : decode jdk_65_method_84_code 7 = .ok (.aload_n 3, 1) := by decide +kernel
theorem d18_8 : decode jdk_65_method_84_code 8 = .ok (.arraylength, 1) := by decide +kernel
theorem d18_9 : decode jdk_65_method_84_code 9 = .ok (.iload 4, 2) := by decide +kernel
theorem d18_11 : decode jdk_65_method_84_code 11 = .ok (.iload 5, 2) := by decide +kernel
theorem d18_13 : decode jdk_65_method_84_code 13 = .ok (.invokestatic 13, 3) := by decide +kernel
theorem d18_16 : decode jdk_65_method_84_code 16 = .ok (.iload_n 2, 1) := by decide +kernel
theorem d18_17 : decode jdk_65_method_84_code 17 = .ok (.iload_n 1, 1) := by decide +kernel
theorem d18_18 : decode jdk_65_method_84_code 18 = .ok (.isub, 1) := by decide +kernel
theorem d18_19 : decode jdk_65_method_84_code 19 = .ok (.istore 6, 2) := by decide +kernel
theorem d18_21 : decode jdk_65_method_84_code 21 = .ok (.iload 5, 2) := by decide +kernel
theorem d18_23 : decode jdk_65_method_84_code 23 = .ok (.iload 4, 2) := by decide +kernel
theorem d18_25 : decode jdk_65_method_84_code 25 = .ok (.isub, 1) := by decide +kernel
theorem d18_26 : decode jdk_65_method_84_code 26 = .ok (.istore 7, 2) := by decide +kernel
theorem d18_28 : decode jdk_65_method_84_code 28 = .ok (.iload 6, 2) := by decide +kernel
theorem d18_30 : decode jdk_65_method_84_code 30 = .ok (.iload 7, 2) := by decide +kernel
theorem d18_32 : decode jdk_65_method_84_code 32 = .ok (.if_icmp .eq 5, 3) := by decide +kernel
theorem d18_37 : decode jdk_65_method_84_code 37 = .ok (.aload_n 0, 1) := by decide +kernel
theorem d18_38 : decode jdk_65_method_84_code 38 = .ok (.iload_n 1, 1) := by decide +kernel
theorem d18_39 : decode jdk_65_method_84_code 39 = .ok (.aload_n 3, 1) := by decide +kernel
theorem d18_40 : decode jdk_65_method_84_code 40 = .ok (.iload 4, 2) := by decide +kernel
theorem d18_42 : decode jdk_65_method_84_code 42 = .ok (.iload 6, 2) := by decide +kernel
theorem d18_44 : decode jdk_65_method_84_code 44 = .ok (.invokestatic 257, 3) := by decide +kernel
theorem d18_47 : decode jdk_65_method_84_code 47 = .ok (.ifCond .ge 7, 3) := by decide +kernel
theorem d18_50 : decode jdk_65_method_84_code 50 = .ok (.iconst 1, 1) := by decide +kernel
theorem d18_51 : decode jdk_65_method_84_code 51 = .ok (.goto 4, 3) := by decide +kernel
theorem d18_55 : decode jdk_65_method_84_code 55 = .ok (.ireturn, 1) := by decide +kernel
theorem ef_rm18_0 (m : MethodId) (a1 : Addr) (a4 : Addr) : entryFrame m #[(.ref a1), (.int (0 : Int32)), (.int (1 : Int32)), (.ref a4), (.int (0 : Int32)), (.int (1 : Int32))] 8 = mkF m 0 #[.val (.ref a1), .val (.int (0 : Int32)), .val (.int (1 : Int32)), .val (.ref a4), .val (.int (0 : Int32)), .val (.int (1 : Int32)), .unset, .unset] [] := by first | (simp [entryFrame, mkF, argsToLocals, Value.category]; done) | rfl
def Q_rm18_0 (Z : State) (a1 : Addr) (a4 : Addr) (kx : ClassId) (fx : Nat → Value) (kt : ClassId) (ft : Nat → Value) (h0 : Heap) (n0 : Nat) (v : Option Value) (h : Heap) (L : List Loc) : Prop := v = some (.int (1 : Int32)) ∧ Fr n0 L ∧ h = h0
set_option maxRecDepth 65536 in
set_option maxHeartbeats 40000000 in
theorem rm18_0 (l : Launch) (Z : State) (a0 : Array Value) (hw : ∀ d ∈ tables_1, d.before a0 Z = true) (ws : List Jvm.Cond) (a1 : Addr) (a4 : Addr) (kx : ClassId) (fx : Nat → Value) (kt : ClassId) (ft : Nat → Value) (h0 : Heap) (n0 : Nat) (Z0 : n0 ≤ h0.size) (V_x : Arf Z h0 a1 kx .int (64 : Int32) fx) (hx_ : fx 0 = (.int (0 : Int32))) (V_t : Arf Z h0 a4 kt .int (1 : Int32) ft) (ht0 : ft 0 = (.int (0 : Int32))) :
    MetFree l (⟨"java/util/Arrays", "equals", "([III[III)Z"⟩ : MethodName) (head1 (Jvm.Cond.code (⟨"java/util/Arrays", "equals", "([III[III)Z"⟩ : MethodName) jdk_65_method_84_code 8 (some .boolean) :: ws) ({ frames := 1, cells := 0, slots := 0, locals := 19 } : Room)) (fun a U => a = #[(.ref a1), (.int (0 : Int32)), (.int (1 : Int32)), (.ref a4), (.int (0 : Int32)), (.int (1 : Int32))] ∧ Z.Warmed39 U.vm ∧ U.heap = h0) (fun _ _ _ _ _ => True) (fun _ U o U' => ∃ v L, o = .returned v ∧ Q_rm18_0 Z a1 a4 kx fx kt ft h0 n0 v U'.heap L ∧ FrameEnd U o U' L ({ frames := 1, cells := 0, slots := 0, locals := 19 } : Room).cells ({ frames := 1, cells := 0, slots := 0, locals := 19 } : Room).slots) := by
  refine MetFree.of_bodySF (plainFor_of_name pn_91) hisR ?_
  intro p e s m args below meth c s₁ Bd hml0 hP hK
  obtain ⟨rfl, hZ, hh⟩ := hP
  have hx := Bd.exec
  have hby := Bd.bytes
  have hml : c.maxLocals = 8 := hml0
  have hown : s.vm.findClass "java/util/Arrays" = some m.cls := findClass_of_methodNamed Bd.named
  have hnm := (name_of_methodNamed Bd.named Bd.method).1
  have X0 : Stand p l e ({ frames := 1, cells := 0, slots := 0, locals := 19 } : Room) s m #[(.ref a1), (.int (0 : Int32)), (.int (1 : Int32)), (.ref a4), (.int (0 : Int32)), (.int (1 : Int32))] below meth c s₁ [] 0 0 := Stand.of_body Bd
  have e0 : s₁.heap = h0 := by rw [← hh, Bd.state]; rfl
  have N0 := Fr.nil n0
  show Go p e below (s₁.setTop (entryFrame m #[(.ref a1), (.int (0 : Int32)), (.int (1 : Int32)), (.ref a4), (.int (0 : Int32)), (.int (1 : Int32))] 8)) (fun o U' => ∃ v L, o = .returned v ∧ Q_rm18_0 Z a1 a4 kx fx kt ft h0 n0 v U'.heap L ∧ FrameEnd s o U' L ({ frames := 1, cells := 0, slots := 0, locals := 19 } : Room).cells ({ frames := 1, cells := 0, slots := 0, locals := 19 } : Room).slots)
  rw [ef_rm18_0]
  refine Gk.aloadN X0 hx (hb hby d18_0) rfl rfl ?_
  refine Gk.alen X0 hx hZ e0 V_x (hb hby d18_1) ?_
  refine Gk.iloadN X0 hx (hb hby d18_2) rfl ?_
  refine Gk.iloadN X0 hx (hb hby d18_3) rfl ?_
  refine Gk.callS (argsL := [(.int (64 : Int32)), (.int (0 : Int32)), (.int (1 : Int32))]) X0 hx hZ hown (rm7 l Z a0 hw [] (64 : Int32) (0 : Int32) (1 : Int32) h0 n0 Z0 (by decide) (by decide) (by decide)) (hw _ (List.mem_of_getElem? (i := 72) rfl)) (hw _ (List.mem_of_getElem? (i := 73) rfl)) (hw _ (List.mem_of_getElem? (i := 65) rfl)) (hw _ (List.mem_of_getElem? (i := 74) rfl)) (by decide) e0 pd_0 rfl rfl (by decide) (Nat.le_of_ble_eq_true rfl) (by decide) (by decide) (by rw [hml]; rfl)  rfl (hb hby d18_4) ?_
  intro T1 L1 v1 X1 hQ1
  obtain ⟨rfl, N1q, e1⟩ := hQ1
  have N1 := Fr.app N0 N1q
  show Go p e below (T1.setTop (mkF m 7 #[.val (.ref a1), .val (.int (0 : Int32)), .val (.int (1 : Int32)), .val (.ref a4), .val (.int (0 : Int32)), .val (.int (1 : Int32)), .unset, .unset] [])) _
  refine Gk.aloadN X1 hx (hb hby d18_7) rfl rfl ?_
  refine Gk.alen X1 hx hZ e1 V_t (hb hby d18_8) ?_
  refine Gk.iload X1 hx (hb hby d18_9) rfl ?_
  refine Gk.iload X1 hx (hb hby d18_11) rfl ?_
  refine Gk.callS (argsL := [(.int (1 : Int32)), (.int (0 : Int32)), (.int (1 : Int32))]) X1 hx hZ hown (rm7 l Z a0 hw [] (1 : Int32) (0 : Int32) (1 : Int32) h0 n0 Z0 (by decide) (by decide) (by decide)) (hw _ (List.mem_of_getElem? (i := 72) rfl)) (hw _ (List.mem_of_getElem? (i := 73) rfl)) (hw _ (List.mem_of_getElem? (i := 65) rfl)) (hw _ (List.mem_of_getElem? (i := 74) rfl)) (by decide) e1 pd_0 rfl rfl (by decide) (Nat.le_of_ble_eq_true rfl) (by decide) (by decide) (by rw [hml]; rfl)  rfl (hb hby d18_13) ?_
  intro T2 L2 v2 X2 hQ2
  obtain ⟨rfl, N2q, e2⟩ := hQ2
  have N2 := Fr.app N1 N2q
  show Go p e below (T2.setTop (mkF m 16 #[.val (.ref a1), .val (.int (0 : Int32)), .val (.int (1 : Int32)), .val (.ref a4), .val (.int (0 : Int32)), .val (.int (1 : Int32)), .unset, .unset] [])) _
  refine Gk.iloadN X2 hx (hb hby d18_16) rfl ?_
  refine Gk.iloadN X2 hx (hb hby d18_17) rfl ?_
  refine Gk.isub X2 hx (hb hby d18_18) (1 : Int32) (by decide) ?_
  refine Gk.istore X2 hx (hb hby d18_19) #[.val (.ref a1), .val (.int (0 : Int32)), .val (.int (1 : Int32)), .val (.ref a4), .val (.int (0 : Int32)), .val (.int (1 : Int32)), .val (.int (1 : Int32)), .unset] rfl ?_
  refine Gk.iload X2 hx (hb hby d18_21) rfl ?_
  refine Gk.iload X2 hx (hb hby d18_23) rfl ?_
  refine Gk.isub X2 hx (hb hby d18_25) (1 : Int32) (by decide) ?_
  refine Gk.istore X2 hx (hb hby d18_26) #[.val (.ref a1), .val (.int (0 : Int32)), .val (.int (1 : Int32)), .val (.ref a4), .val (.int (0 : Int32)), .val (.int (1 : Int32)), .val (.int (1 : Int32)), .val (.int (1 : Int32))] rfl ?_
  refine Gk.iload X2 hx (hb hby d18_28) rfl ?_
  refine Gk.iload X2 hx (hb hby d18_30) rfl ?_
  refine Gk.icmpYes X2 hx (hb hby d18_32) (teq (by decide : (1 : Int32) = (1 : Int32))).1 37 (by decide) (by decide) ?_
  refine Gk.aloadN X2 hx (hb hby d18_37) rfl rfl ?_
  refine Gk.iloadN X2 hx (hb hby d18_38) rfl ?_
  refine Gk.aloadN X2 hx (hb hby d18_39) rfl rfl ?_
  refine Gk.iload X2 hx (hb hby d18_40) rfl ?_
  refine Gk.iload X2 hx (hb hby d18_42) rfl ?_
  refine Gk.callS (argsL := [(.ref a1), (.int (0 : Int32)), (.ref a4), (.int (0 : Int32)), (.int (1 : Int32))]) X2 hx hZ hown (rm19_0 l Z a0 hw [] a1 a4 kx fx kt ft h0 n0 Z0 V_x hx_ V_t ht0) (hw _ (List.mem_of_getElem? (i := 130) rfl)) (hw _ (List.mem_of_getElem? (i := 131) rfl)) (hw _ (List.mem_of_getElem? (i := 132) rfl)) (hw _ (List.mem_of_getElem? (i := 133) rfl)) (by decide) e2 pd_5 rfl rfl (by decide) (Nat.le_of_ble_eq_true rfl) (by decide) (by decide) (by rw [hml]; rfl)  rfl (hb hby d18_44) ?_
  intro T3 L3 v3 X3 hQ3
  obtain ⟨rfl, N3q, e3⟩ := hQ3
  have N3 := Fr.app N2 N3q
  show Go p e below (T3.setTop (mkF m 47 #[.val (.ref a1), .val (.int (0 : Int32)), .val (.int (1 : Int32)), .val (.ref a4), .val (.int (0 : Int32)), .val (.int (1 : Int32)), .val (.int (1 : Int32)), .val (.int (1 : Int32))] [(.int (-1 : Int32))])) _
  refine Gk.ifNo X3 hx (hb hby d18_47) (tlt (by decide : (-1 : Int32) < (0 : Int32))).2.1 ?_
  refine Gk.iconst X3 hx (hb hby d18_50) (1 : Int32) rfl ?_
  refine Gk.goto X3 hx (hb hby d18_51) 55 (by decide) (by decide) ?_
  refine Go.fin X3 (v := some (.int (1 : Int32))) (fun h_ => by rw [Bd.returns] at h_; cases h_) Bd.notSynchronized (fun _ hr => retN X3 hx (t := .boolean) Bd.returns (by simp) (hb hby d18_55) hr) (fun U' hU hF => ⟨_, _, rfl, ?_, hF.1, hF.2.1, hF.2.2.mono (by decide) (by decide)⟩)
  rw [hU, e3]
  exact ⟨(congrArg (fun z_ : Int32 => some (Value.int z_)) (show (1 : Int32) = (1 : Int32) from rfl)), N3, rfl⟩
theorem pd_6 : parseMethodDescriptor "([III[III)Z" = some ⟨[(.array .int), .int, .int, (.array .int), .int, .int], some .boolean⟩ := by decide +kernel
theorem d11_23 : decode prog_86_method_18_code 23 = .ok (.aload_n 0, 1) := by decide +kernel
theorem d11_24 : decode prog_86_method_18_code 24 = .ok (.getfield 41, 3) := by decide +kernel
theorem d11_27 : decode prog_86_method_18_code 27 = .ok (.iload 4, 2) := by decide +kernel
theorem d11_29 : decode prog_86_method_18_code 29 = .ok (.iaload, 1) := by decide +kernel
theorem d11_30 : decode prog_86_method_18_code 30 = .ok (.iconst 1, 1) := by decide +kernel
theorem d11_31 : decode prog_86_method_18_code 31 = .ok (.isub, 1) := by decide +kernel
theorem d11_32 : decode prog_86_method_18_code 32 = .ok (.istore 5, 2) := by decide +kernel
theorem d11_34 : decode prog_86_method_18_code 34 = .ok (.aload_n 0, 1) := by decide +kernel
theorem d11_35 : decode prog_86_method_18_code 35 = .ok (.getfield 13, 3) := by decide +kernel
theorem d11_38 : decode prog_86_method_18_code 38 = .ok (.iload 5, 2) := by decide +kernel
theorem d11_40 : decode prog_86_method_18_code 40 = .ok (.iaload, 1) := by decide +kernel
theorem d11_41 : decode prog_86_method_18_code 41 = .ok (.iload_n 2, 1) := by decide +kernel
theorem d11_42 : decode prog_86_method_18_code 42 = .ok (.if_icmp .ne 38, 3) := by decide +kernel
theorem d11_45 : decode prog_86_method_18_code 45 = .ok (.aload_n 0, 1) := by decide +kernel
theorem d11_46 : decode prog_86_method_18_code 46 = .ok (.getfield 7, 3) := by decide +kernel
theorem d11_49 : decode prog_86_method_18_code 49 = .ok (.iload 5, 2) := by decide +kernel
theorem d11_51 : decode prog_86_method_18_code 51 = .ok (.aload_n 0, 1) := by decide +kernel
theorem d11_52 : decode prog_86_method_18_code 52 = .ok (.getfield 48, 3) := by decide +kernel
theorem d11_55 : decode prog_86_method_18_code 55 = .ok (.imul, 1) := by decide +kernel
theorem d11_56 : decode prog_86_method_18_code 56 = .ok (.iload 5, 2) := by decide +kernel
theorem d11_58 : decode prog_86_method_18_code 58 = .ok (.iconst 1, 1) := by decide +kernel
theorem d11_59 : decode prog_86_method_18_code 59 = .ok (.iadd, 1) := by decide +kernel
theorem d11_60 : decode prog_86_method_18_code 60 = .ok (.aload_n 0, 1) := by decide +kernel
theorem d11_61 : decode prog_86_method_18_code 61 = .ok (.getfield 48, 3) := by decide +kernel
theorem d11_64 : decode prog_86_method_18_code 64 = .ok (.imul, 1) := by decide +kernel
theorem d11_65 : decode prog_86_method_18_code 65 = .ok (.aload_n 1, 1) := by decide +kernel
theorem d11_66 : decode prog_86_method_18_code 66 = .ok (.iconst 0, 1) := by decide +kernel
theorem d11_67 : decode prog_86_method_18_code 67 = .ok (.aload_n 0, 1) := by decide +kernel
theorem d11_68 : decode prog_86_method_18_code 68 = .ok (.getfield 48, 3) := by decide +kernel
theorem d11_71 : decode prog_86_method_18_code 71 = .ok (.invokestatic 146, 3) := by decide +kernel
theorem d11_74 : decode prog_86_method_18_code 74 = .ok (.ifCond .eq 6, 3) := by decide +kernel
theorem d11_77 : decode prog_86_method_18_code 77 = .ok (.iload 5, 2) := by decide +kernel
theorem d11_79 : decode prog_86_method_18_code 79 = .ok (.ireturn, 1) := by decide +kernel
theorem ef_rm11f_0 (m : MethodId) (a1 : Addr) (a2 : Addr) : entryFrame m #[(.ref a1), (.ref a2), (.int (0 : Int32))] 6 = mkF m 0 #[.val (.ref a1), .val (.ref a2), .val (.int (0 : Int32)), .unset, .unset, .unset] [] := by first | (simp [entryFrame, mkF, argsToLocals, Value.category]; done) | rfl
def Q_rm11f_0 (Z : State) (a1 : Addr) (a2 : Addr) (xs : Addr) (ks : ClassId) (fs : Nat → Value) (xh : Addr) (kh : ClassId) (fh : Nat → Value) (xx : Addr) (kx : ClassId) (fx : Nat → Value) (kt : ClassId) (ft : Nat → Value) (h0 : Heap) (n0 : Nat) (v : Option Value) (h : Heap) (L : List Loc) : Prop := v = some (.int (0 : Int32)) ∧ Fr n0 L ∧ h = h0
set_option maxRecDepth 65536 in
set_option maxHeartbeats 40000000 in
theorem rm11f_0 (l : Launch) (Z : State) (a0 : Array Value) (hw : ∀ d ∈ tables_1, d.before a0 Z = true) (ws : List Jvm.Cond) (a1 : Addr) (a2 : Addr) (xs : Addr) (ks : ClassId) (fs : Nat → Value) (xh : Addr) (kh : ClassId) (fh : Nat → Value) (xx : Addr) (kx : ClassId) (fx : Nat → Value) (kt : ClassId) (ft : Nat → Value) (h0 : Heap) (n0 : Nat) (Z0 : n0 ≤ h0.size) (V_s : Arf Z h0 xs ks .int (32 : Int32) fs) (V_h : Arf Z h0 xh kh .int (16 : Int32) fh) (V_x : Arf Z h0 xx kx .int (64 : Int32) fx) (hx_ : fx 0 = (.int (0 : Int32))) (V_t : Arf Z h0 a2 kt .int (1 : Int32) ft) (ht0 : ft 0 = (.int (0 : Int32))) (hs_ : fs 0 = (.int (1 : Int32))) (hh_ : fh 0 = (.int (0 : Int32))) (F_slots : Fld Z h0 a1 "com/example/tracewarden/tracewarden/engine/SearchTuples" "slots" "[I" (.ref xs)) (F_hashes : Fld Z h0 a1 "com/example/tracewarden/tracewarden/engine/SearchTuples" "hashes" "[I" (.ref xh)) (F_states : Fld Z h0 a1 "com/example/tracewarden/tracewarden/engine/SearchTuples" "states" "[I" (.ref xx)) (F_width : Fld Z h0 a1 "com/example/tracewarden/tracewarden/engine/SearchTuples" "width" "I" (.int (1 : Int32))) :
    MetFree l (⟨"com/example/tracewarden/tracewarden/engine/SearchTuples", "latest", "([II)I"⟩ : MethodName) (head1 (Jvm.Cond.code (⟨"com/example/tracewarden/tracewarden/engine/SearchTuples", "latest", "([II)I"⟩ : MethodName) prog_86_method_18_code 6 (some .int) :: ws) ({ frames := 2, cells := 0, slots := 0, locals := 38 } : Room)) (fun a U => a = #[(.ref a1), (.ref a2), (.int (0 : Int32))] ∧ Z.Warmed39 U.vm ∧ U.heap = h0) (fun _ _ _ _ _ => True) (fun _ U o U' => ∃ v L, o = .returned v ∧ Q_rm11f_0 Z a1 a2 xs ks fs xh kh fh xx kx fx kt ft h0 n0 v U'.heap L ∧ FrameEnd U o U' L ({ frames := 2, cells := 0, slots := 0, locals := 38 } : Room).cells ({ frames := 2, cells := 0, slots := 0, locals := 38 } : Room).slots) := by
  refine MetFree.of_bodySF (plainFor_of_name pn_81) hisR ?_
  intro p e s m args below meth c s₁ Bd hml0 hP hK
  obtain ⟨rfl, hZ, hh⟩ := hP
  have hx := Bd.exec
  have hby := Bd.bytes
  have hml : c.maxLocals = 6 := hml0
  have hown : s.vm.findClass "com/example/tracewarden/tracewarden/engine/SearchTuples" = some m.cls := findClass_of_methodNamed Bd.named
  have hnm := (name_of_methodNamed Bd.named Bd.method).1
  have X0 : Stand p l e ({ frames := 2, cells := 0, slots := 0, locals := 38 } : Room) s m #[(.ref a1), (.ref a2), (.int (0 : Int32))] below meth c s₁ [] 0 0 := Stand.of_body Bd
  have e0 : s₁.heap = h0 := by rw [← hh, Bd.state]; rfl
  have N0 := Fr.nil n0
  show Go p e below (s₁.setTop (entryFrame m #[(.ref a1), (.ref a2), (.int (0 : Int32))] 6)) (fun o U' => ∃ v L, o = .returned v ∧ Q_rm11f_0 Z a1 a2 xs ks fs xh kh fh xx kx fx kt ft h0 n0 v U'.heap L ∧ FrameEnd s o U' L ({ frames := 2, cells := 0, slots := 0, locals := 38 } : Room).cells ({ frames := 2, cells := 0, slots := 0, locals := 38 } : Room).slots)
  rw [ef_rm11f_0]
  refine Gk.aloadN X0 hx (hb hby d11_0) rfl rfl ?_
  refine Gk.getF X0 hx hZ hown (host := "") (Or.inl (hw _ (List.mem_of_getElem? (i := 42) rfl))) Via.refl e0 F_slots (hb hby d11_1) ?_
  intro T1 X1 e1
  refine Gk.alen X1 hx hZ e1 V_s (hb hby d11_4) ?_
  refine Gk.iconst X1 hx (hb hby d11_5) (1 : Int32) rfl ?_
  refine Gk.isub X1 hx (hb hby d11_6) (31 : Int32) (by decide) ?_
  refine Gk.istoreN X1 hx (hb hby d11_7) #[.val (.ref a1), .val (.ref a2), .val (.int (0 : Int32)), .val (.int (31 : Int32)), .unset, .unset] rfl ?_
  refine Gk.iloadN X1 hx (hb hby d11_8) rfl ?_
  refine Gk.iloadN X1 hx (hb hby d11_9) rfl ?_
  refine Gk.iand X1 hx (hb hby d11_10) (0 : Int32) (by decide) ?_
  refine Gk.istore X1 hx (hb hby d11_11) #[.val (.ref a1), .val (.ref a2), .val (.int (0 : Int32)), .val (.int (31 : Int32)), .val (.int (0 : Int32)), .unset] rfl ?_
  refine Gk.aloadN X1 hx (hb hby d11_13) rfl rfl ?_
  refine Gk.getF X1 hx hZ hown (host := "") (Or.inl (hw _ (List.mem_of_getElem? (i := 42) rfl))) Via.refl e1 F_slots (hb hby d11_14) ?_
  intro T2 X2 e2
  refine Gk.iload X2 hx (hb hby d11_17) rfl ?_
  refine Gk.iaload X2 hx hZ e2 V_s ⟨by decide, by decide⟩ (.int (1 : Int32)) hs_ (hb hby d11_19) ?_
  refine Gk.ifNo X2 hx (hb hby d11_20) (feq (by decide : ¬ ((1 : Int32) = (0 : Int32)))).1 ?_
  refine Gk.aloadN X2 hx (hb hby d11_23) rfl rfl ?_
  refine Gk.getF X2 hx hZ hown (host := "") (Or.inl (hw _ (List.mem_of_getElem? (i := 42) rfl))) Via.refl e2 F_slots (hb hby d11_24) ?_
  intro T4 X4 e4
  refine Gk.iload X4 hx (hb hby d11_27) rfl ?_
  refine Gk.iaload X4 hx hZ e4 V_s ⟨by decide, by decide⟩ (.int (1 : Int32)) hs_ (hb hby d11_29) ?_
  refine Gk.iconst X4 hx (hb hby d11_30) (1 : Int32) rfl ?_
  refine Gk.isub X4 hx (hb hby d11_31) (0 : Int32) (by decide) ?_
  refine Gk.istore X4 hx (hb hby d11_32) #[.val (.ref a1), .val (.ref a2), .val (.int (0 : Int32)), .val (.int (31 : Int32)), .val (.int (0 : Int32)), .val (.int (0 : Int32))] rfl ?_
  refine Gk.aloadN X4 hx (hb hby d11_34) rfl rfl ?_
  refine Gk.getF X4 hx hZ hown (host := "") (Or.inl (hw _ (List.mem_of_getElem? (i := 23) rfl))) Via.refl e4 F_hashes (hb hby d11_35) ?_
  intro T6 X6 e6
  refine Gk.iload X6 hx (hb hby d11_38) rfl ?_
  refine Gk.iaload X6 hx hZ e6 V_h ⟨by decide, by decide⟩ (.int (0 : Int32)) hh_ (hb hby d11_40) ?_
  refine Gk.iloadN X6 hx (hb hby d11_41) rfl ?_
  refine Gk.icmpNo X6 hx (hb hby d11_42) (teq (by decide : (0 : Int32) = (0 : Int32))).2 ?_
  refine Gk.aloadN X6 hx (hb hby d11_45) rfl rfl ?_
  refine Gk.getF X6 hx hZ hown (host := "") (Or.inl (hw _ (List.mem_of_getElem? (i := 21) rfl))) Via.refl e6 F_states (hb hby d11_46) ?_
  intro T8 X8 e8
  refine Gk.iload X8 hx (hb hby d11_49) rfl ?_
  refine Gk.aloadN X8 hx (hb hby d11_51) rfl rfl ?_
  refine Gk.getF X8 hx hZ hown (host := "") (Or.inl (hw _ (List.mem_of_getElem? (i := 46) rfl))) Via.refl e8 F_width (hb hby d11_52) ?_
  intro T9 X9 e9
  refine Gk.imul X9 hx (hb hby d11_55) (0 : Int32) (by decide) ?_
  refine Gk.iload X9 hx (hb hby d11_56) rfl ?_
  refine Gk.iconst X9 hx (hb hby d11_58) (1 : Int32) rfl ?_
  refine Gk.iadd X9 hx (hb hby d11_59) (1 : Int32) (by decide) ?_
  refine Gk.aloadN X9 hx (hb hby d11_60) rfl rfl ?_
  refine Gk.getF X9 hx hZ hown (host := "") (Or.inl (hw _ (List.mem_of_getElem? (i := 46) rfl))) Via.refl e9 F_width (hb hby d11_61) ?_
  intro T10 X10 e10
  refine Gk.imul X10 hx (hb hby d11_64) (1 : Int32) (by decide) ?_
  refine Gk.aloadN X10 hx (hb hby d11_65) rfl rfl ?_
  refine Gk.iconst X10 hx (hb hby d11_66) (0 : Int32) rfl ?_
  refine Gk.aloadN X10 hx (hb hby d11_67) rfl rfl ?_
  refine Gk.getF X10 hx hZ hown (host := "") (Or.inl (hw _ (List.mem_of_getElem? (i := 46) rfl))) Via.refl e10 F_width (hb hby d11_68) ?_
  intro T11 X11 e11
  refine Gk.callS (argsL := [(.ref xx), (.int (0 : Int32)), (.int (1 : Int32)), (.ref a2), (.int (0 : Int32)), (.int (1 : Int32))]) X11 hx hZ hown (rm18_0 l Z a0 hw [] xx a2 kx fx kt ft h0 n0 Z0 V_x hx_ V_t ht0) (hw _ (List.mem_of_getElem? (i := 127) rfl)) (hw _ (List.mem_of_getElem? (i := 128) rfl)) (hw _ (List.mem_of_getElem? (i := 65) rfl)) (hw _ (List.mem_of_getElem? (i := 129) rfl)) (by decide) e11 pd_6 rfl rfl (by decide) (Nat.le_of_ble_eq_true rfl) (by decide) (by decide) (by rw [hml]; rfl)  rfl (hb hby d11_71) ?_
  intro T12 L12 v12 X12 hQ12
  obtain ⟨rfl, N12q, e12⟩ := hQ12
  have N12 := Fr.app N0 N12q
  show Go p e below (T12.setTop (mkF m 74 #[.val (.ref a1), .val (.ref a2), .val (.int (0 : Int32)), .val (.int (31 : Int32)), .val (.int (0 : Int32)), .val (.int (0 : Int32))] [(.int (1 : Int32))])) _
  refine Gk.ifNo X12 hx (hb hby d11_74) (feq (by decide : ¬ ((1 : Int32) = (0 : Int32)))).1 ?_
  refine Gk.iload X12 hx (hb hby d11_77) rfl ?_
  refine Go.fin X12 (v := some (.int (0 : Int32))) (fun h_ => by rw [Bd.returns] at h_; cases h_) Bd.notSynchronized (fun _ hr => retOut X12 hx Bd.returns rfl (Or.inl ⟨rfl, Or.inl rfl, _, rfl⟩) (hb hby d11_79) hr) (fun U' hU hF => ⟨_, _, rfl, ?_, hF.1, hF.2.1, hF.2.2.mono (by decide) (by decide)⟩)
  rw [hU, e12]
  exact ⟨(congrArg (fun z_ : Int32 => some (Value.int z_)) (show (0 : Int32) = (0 : Int32) from rfl)), N12, rfl⟩
theorem d12_6 : decode prog_86_method_15_code 6 = .ok (.aload_n 0, 1) := by decide +kernel
theorem d12_7 : decode prog_86_method_15_code 7 = .ok (.getfield 25, 3) := by decide +kernel
theorem d12_10 : decode prog_86_method_15_code 10 = .ok (.iload_n 3, 1) := by decide +kernel
theorem d12_11 : decode prog_86_method_15_code 11 = .ok (.dup2, 1) := by decide +kernel
theorem d12_12 : decode prog_86_method_15_code 12 = .ok (.baload, 1) := by decide +kernel
theorem d12_13 : decode prog_86_method_15_code 13 = .ok (.aload_n 2, 1) := by decide +kernel
theorem d12_14 : decode prog_86_method_15_code 14 = .ok (.ifnull 16, 3) := by decide +kernel
theorem d12_30 : decode prog_86_method_15_code 30 = .ok (.iconst 1, 1) := by decide +kernel
theorem d12_31 : decode prog_86_method_15_code 31 = .ok (.goto 4, 3) := by decide +kernel
theorem d12_35 : decode prog_86_method_15_code 35 = .ok (.ior, 1) := by decide +kernel
theorem d12_36 : decode prog_86_method_15_code 36 = .ok (.bastore, 1) := by decide +kernel
theorem d12_37 : decode prog_86_method_15_code 37 = .ok (.aload_n 0, 1) := by decide +kernel
theorem d12_38 : decode prog_86_method_15_code 38 = .ok (.getfield 22, 3) := by decide +kernel
theorem d12_41 : decode prog_86_method_15_code 41 = .ok (.iload_n 3, 1) := by decide +kernel
theorem d12_42 : decode prog_86_method_15_code 42 = .ok (.iaload, 1) := by decide +kernel
theorem d12_43 : decode prog_86_method_15_code 43 = .ok (.istore_n 3, 1) := by decide +kernel
theorem d12_44 : decode prog_86_method_15_code 44 = .ok (.goto (-42), 3) := by decide +kernel
theorem ef_rm12_0 (m : MethodId) (a1 : Addr) : entryFrame m #[(.ref a1), (.int (0 : Int32)), .null] 4 = mkF m 0 #[.val (.ref a1), .val (.int (0 : Int32)), .val .null, .unset] [] := by first | (simp [entryFrame, mkF, argsToLocals, Value.category]; done) | rfl
def Q_rm12_0 (Z : State) (a1 : Addr) (xh : Addr) (kh : ClassId) (xm : Addr) (km : ClassId) (fm : Nat → Value) (h0 : Heap) (n0 : Nat) (v : Option Value) (h : Heap) (L : List Loc) : Prop := v = none ∧ Fr n0 L ∧ Keep h0 h [xh] ∧ Arf Z h xh kh .boolean (16 : Int32) (upd (fun _ => .int (0 : Int32)) 0 (.int (1 : Int32)))
set_option maxRecDepth 65536 in
set_option maxHeartbeats 40000000 in
theorem rm12_0 (l : Launch) (Z : State) (a0 : Array Value) (hw : ∀ d ∈ tables_1, d.before a0 Z = true) (ws : List Jvm.Cond) (a1 : Addr) (xh : Addr) (kh : ClassId) (xm : Addr) (km : ClassId) (fm : Nat → Value) (h0 : Heap) (n0 : Nat) (Z0 : n0 ≤ h0.size) (V_h : Arf Z h0 xh kh .boolean (16 : Int32) (fun _ => .int (0 : Int32))) (V_m : Arf Z h0 xm km .int (16 : Int32) fm) (hm_ : fm 0 = (.int (-1 : Int32))) (F_held : Fld Z h0 a1 "com/example/tracewarden/tracewarden/engine/SearchTuples" "held" "[Z" (.ref xh)) (F_sameStates : Fld Z h0 a1 "com/example/tracewarden/tracewarden/engine/SearchTuples" "sameStates" "[I" (.ref xm)) (ne_hm : xh ≠ xm) (ne_ah : a1 ≠ xh) (g_xh : n0 ≤ xh) :
    MetFree l (⟨"com/example/tracewarden/tracewarden/engine/SearchTuples", "passOver", "(ILcom/example/tracewarden/tracewarden/engine/Zone;)V"⟩ : MethodName) (head1 (Jvm.Cond.code (⟨"com/example/tracewarden/tracewarden/engine/SearchTuples", "passOver", "(ILcom/example/tracewarden/tracewarden/engine/Zone;)V"⟩ : MethodName) prog_86_method_15_code 4 none :: ws) ({ frames := 0, cells := 0, slots := 0, locals := 0 } : Room)) (fun a U => a = #[(.ref a1), (.int (0 : Int32)), .null] ∧ Z.Warmed39 U.vm ∧ U.heap = h0) (fun _ _ _ _ _ => True) (fun _ U o U' => ∃ v L, o = .returned v ∧ Q_rm12_0 Z a1 xh kh xm km fm h0 n0 v U'.heap L ∧ FrameEnd U o U' L ({ frames := 0, cells := 0, slots := 0, locals := 0 } : Room).cells ({ frames := 0, cells := 0, slots := 0, locals := 0 } : Room).slots) := by
  refine MetFree.of_bodySF (plainFor_of_name pn_81) hisR ?_
  intro p e s m args below meth c s₁ Bd hml0 hP hK
  obtain ⟨rfl, hZ, hh⟩ := hP
  have hx := Bd.exec
  have hby := Bd.bytes
  have hml : c.maxLocals = 4 := hml0
  have hown : s.vm.findClass "com/example/tracewarden/tracewarden/engine/SearchTuples" = some m.cls := findClass_of_methodNamed Bd.named
  have hnm := (name_of_methodNamed Bd.named Bd.method).1
  have X0 : Stand p l e ({ frames := 0, cells := 0, slots := 0, locals := 0 } : Room) s m #[(.ref a1), (.int (0 : Int32)), .null] below meth c s₁ [] 0 0 := Stand.of_body Bd
  have e0 : s₁.heap = h0 := by rw [← hh, Bd.state]; rfl
  have N0 := Fr.nil n0
  show Go p e below (s₁.setTop (entryFrame m #[(.ref a1), (.int (0 : Int32)), .null] 4)) (fun o U' => ∃ v L, o = .returned v ∧ Q_rm12_0 Z a1 xh kh xm km fm h0 n0 v U'.heap L ∧ FrameEnd s o U' L ({ frames := 0, cells := 0, slots := 0, locals := 0 } : Room).cells ({ frames := 0, cells := 0, slots := 0, locals := 0 } : Room).slots)
  rw [ef_rm12_0]
  refine Gk.iloadN X0 hx (hb hby d12_0) rfl ?_
  refine Gk.istoreN X0 hx (hb hby d12_1) #[.val (.ref a1), .val (.int (0 : Int32)), .val .null, .val (.int (0 : Int32))] rfl ?_
  refine Gk.iloadN X0 hx (hb hby d12_2) rfl ?_
  refine Gk.ifNo X0 hx (hb hby d12_3) (flt (by decide : ¬ ((0 : Int32) < (0 : Int32)))).1 ?_
  refine Gk.aloadN X0 hx (hb hby d12_6) rfl rfl ?_
  refine Gk.getF X0 hx hZ hown (host := "") (Or.inl (hw _ (List.mem_of_getElem? (i := 32) rfl))) Via.refl e0 F_held (hb hby d12_7) ?_
  intro T1 X1 e1
  refine Gk.iloadN X1 hx (hb hby d12_10) rfl ?_
  refine Gk.dup2 X1 hx (hb hby d12_11) rfl rfl ?_
  refine Gk.baloadZ X1 hx hZ e1 V_h ⟨by decide, by decide⟩ (.int (0 : Int32)) rfl (hb hby d12_12) ?_
  refine Gk.aloadN X1 hx (hb hby d12_13) rfl rfl ?_
  refine Gk.ifnullYes X1 hx (hb hby d12_14) 30 (by decide) (by decide) ?_
  refine Gk.iconst X1 hx (hb hby d12_30) (1 : Int32) rfl ?_
  refine Gk.goto X1 hx (hb hby d12_31) 35 (by decide) (by decide) ?_
  refine Gk.ior X1 hx (hb hby d12_35) (1 : Int32) (by decide) ?_
  refine Gk.bastoreZ X1 hx hZ e1 V_h 0 rfl ⟨by decide, by decide⟩ (.int (1 : Int32)) rfl (hb hby d12_36) ?_
  intro T3 h3 X3 e3 W3 V3
  have N3 := Fr.snoc X3 N0 g_xh
  refine Gk.aloadN X3 hx (hb hby d12_37) rfl rfl ?_
  have H4 := (F_sameStates.other W3 (Or.inl ne_ah))
  refine Gk.getF X3 hx hZ hown (host := "") (Or.inl (hw _ (List.mem_of_getElem? (i := 29) rfl))) Via.refl e3 H4 (hb hby d12_38) ?_
  intro T5 X5 e5
  refine Gk.iloadN X5 hx (hb hby d12_41) rfl ?_
  have H7 := (V_m.other W3 (Ne.symm ne_hm))
  refine Gk.iaload X5 hx hZ e5 H7 ⟨by decide, by decide⟩ (.int (-1 : Int32)) hm_ (hb hby d12_42) ?_
  refine Gk.istoreN X5 hx (hb hby d12_43) #[.val (.ref a1), .val (.int (0 : Int32)), .val .null, .val (.int (-1 : Int32))] rfl ?_
  refine Gk.goto X5 hx (hb hby d12_44) 2 (by decide) (by decide) ?_
  refine Gk.iloadN X5 hx (hb hby d12_2) rfl ?_
  refine Gk.ifYes X5 hx (hb hby d12_3) (tlt (by decide : (-1 : Int32) < (0 : Int32))).1 47 (by decide) (by decide) ?_
  refine Go.fin X5 (v := none) (fun _ => rfl) Bd.notSynchronized (fun _ hr => X5.returnOut hx Bd.returns (hb hby d12_47) hr) (fun U' hU hF => ⟨_, _, rfl, ?_, hF.1, hF.2.1, hF.2.2.mono (by decide) (by decide)⟩)
  rw [hU, e5]
  exact ⟨rfl, N3, ((Keep.refl h0 [xh]).wr W3 (Or.inl (List.mem_of_getElem? (i := 0) rfl))), V3⟩
theorem ef_rm19_1 (m : MethodId) (a1 : Addr) (a3 : Addr) : entryFrame m #[(.ref a1), (.int (1 : Int32)), (.ref a3), (.int (0 : Int32)), (.int (1 : Int32))] 8 = mkF m 0 #[.val (.ref a1), .val (.int (1 : Int32)), .val (.ref a3), .val (.int (0 : Int32)), .val (.int (1 : Int32)), .unset, .unset, .unset] [] := by first | (simp [entryFrame, mkF, argsToLocals, Value.category]; done) | rfl
def Q_rm19_1 (Z : State) (a1 : Addr) (a3 : Addr) (kx : ClassId) (fx : Nat → Value) (kt : ClassId) (ft : Nat → Value) (h0 : Heap) (n0 : Nat) (v : Option Value) (h : Heap) (L : List Loc) : Prop := v = some (.int (-1 : Int32)) ∧ Fr n0 L ∧ h = h0
set_option maxRecDepth 65536 in
set_option maxHeartbeats 40000000 in
theorem rm19_1 (l : Launch) (Z : State) (a0 : Array Value) (hw : ∀ d ∈ tables_1, d.before a0 Z = true) (ws : List Jvm.Cond) (a1 : Addr) (a3 : Addr) (kx : ClassId) (fx : Nat → Value) (kt : ClassId) (ft : Nat → Value) (h0 : Heap) (n0 : Nat) (Z0 : n0 ≤ h0.size) (V_x : Arf Z h0 a1 kx .int (64 : Int32) fx) (hx_ : fx 1 = (.int (1 : Int32))) (V_t : Arf Z h0 a3 kt .int (1 : Int32) ft) (ht0 : ft 0 = (.int (1 : Int32))) :
    MetFree l (⟨"jdk/internal/util/ArraysSupport", "mismatch", "([II[III)I"⟩ : MethodName) (head1 (Jvm.Cond.code (⟨"jdk/internal/util/ArraysSupport", "mismatch", "([II[III)I"⟩ : MethodName) jdk_48_method_20_code 8 (some .int) :: ws) ({ frames := 0, cells := 0, slots := 0, locals := 0 } : Room)) (fun a U => a = #[(.ref a1), (.int (1 : Int32)), (.ref a3), (.int (0 : Int32)), (.int (1 : Int32))] ∧ Z.Warmed39 U.vm ∧ U.heap = h0) (fun _ _ _ _ _ => True) (fun _ U o U' => ∃ v L, o = .returned v ∧ Q_rm19_1 Z a1 a3 kx fx kt ft h0 n0 v U'.heap L ∧ FrameEnd U o U' L ({ frames := 0, cells := 0, slots := 0, locals := 0 } : Room).cells ({ frames := 0, cells := 0, slots := 0, locals := 0 } : Room).slots) := by
  refine MetFree.of_bodySF (plainFor_of_name pn_282) hisR ?_
  intro p e s m args below meth c s₁ Bd hml0 hP hK
  obtain ⟨rfl, hZ, hh⟩ := hP
  have hx := Bd.exec
  have hby := Bd.bytes
  have hml : c.maxLocals = 8 := hml0
  have hown : s.vm.findClass "jdk/internal/util/ArraysSupport" = some m.cls := findClass_of_methodNamed Bd.named
  have hnm := (name_of_methodNamed Bd.named Bd.method).1
  have X0 : Stand p l e ({ frames := 0, cells := 0, slots := 0, locals := 0 } : Room) s m #[(.ref a1), (.int (1 : Int32)), (.ref a3), (.int (0 : Int32)), (.int (1 : Int32))] below meth c s₁ [] 0 0 := Stand.of_body Bd
  have e0 : s₁.heap = h0 := by rw [← hh, Bd.state]; rfl
  have N0 := Fr.nil n0
  show Go p e below (s₁.setTop (entryFrame m #[(.ref a1), (.int (1 : Int32)), (.ref a3), (.int (0 : Int32)), (.int (1 : Int32))] 8)) (fun o U' => ∃ v L, o = .returned v ∧ Q_rm19_1 Z a1 a3 kx fx kt ft h0 n0 v U'.heap L ∧ FrameEnd s o U' L ({ frames := 0, cells := 0, slots := 0, locals := 0 } : Room).cells ({ frames := 0, cells := 0, slots := 0, locals := 0 } : Room).slots)
  rw [ef_rm19_1]
  refine Gk.iconst X0 hx (hb hby d19_0) (0 : Int32) rfl ?_
  refine Gk.istore X0 hx (hb hby d19_1) #[.val (.ref a1), .val (.int (1 : Int32)), .val (.ref a3), .val (.int (0 : Int32)), .val (.int (1 : Int32)), .val (.int (0 : Int32)), .unset, .unset] rfl ?_
  refine Gk.iload X0 hx (hb hby d19_3) rfl ?_
  refine Gk.iconst X0 hx (hb hby d19_5) (1 : Int32) rfl ?_
  refine Gk.icmpYes X0 hx (hb hby d19_6) (flt (by decide : ¬ ((1 : Int32) < (1 : Int32)))).2.2.2 77 (by decide) (by decide) ?_
  refine Gk.iload X0 hx (hb hby d19_77) rfl ?_
  refine Gk.iload X0 hx (hb hby d19_79) rfl ?_
  refine Gk.icmpNo X0 hx (hb hby d19_81) (tlt (by decide : (0 : Int32) < (1 : Int32))).2.1 ?_
  refine Gk.aloadN X0 hx (hb hby d19_84) rfl rfl ?_
  refine Gk.iloadN X0 hx (hb hby d19_85) rfl ?_
  refine Gk.iload X0 hx (hb hby d19_86) rfl ?_
  refine Gk.iadd X0 hx (hb hby d19_88) (1 : Int32) (by decide) ?_
  refine Gk.iaload X0 hx hZ e0 V_x ⟨by decide, by decide⟩ (.int (1 : Int32)) hx_ (hb hby d19_89) ?_
  refine Gk.aloadN X0 hx (hb hby d19_90) rfl rfl ?_
  refine Gk.iloadN X0 hx (hb hby d19_91) rfl ?_
  refine Gk.iload X0 hx (hb hby d19_92) rfl ?_
  refine Gk.iadd X0 hx (hb hby d19_94) (0 : Int32) (by decide) ?_
  refine Gk.iaload X0 hx hZ e0 V_t ⟨by decide, by decide⟩ (.int (1 : Int32)) ht0 (hb hby d19_95) ?_
  refine Gk.icmpYes X0 hx (hb hby d19_96) (teq (by decide : (1 : Int32) = (1 : Int32))).1 102 (by decide) (by decide) ?_
  refine Gk.iinc X0 hx (hb hby d19_102) rfl #[.val (.ref a1), .val (.int (1 : Int32)), .val (.ref a3), .val (.int (0 : Int32)), .val (.int (1 : Int32)), .val (.int (1 : Int32)), .unset, .unset] rfl ?_
  refine Gk.goto X0 hx (hb hby d19_105) 77 (by decide) (by decide) ?_
  refine Gk.iload X0 hx (hb hby d19_77) rfl ?_
  refine Gk.iload X0 hx (hb hby d19_79) rfl ?_
  refine Gk.icmpYes X0 hx (hb hby d19_81) (flt (by decide : ¬ ((1 : Int32) < (1 : Int32)))).2.1 108 (by decide) (by decide) ?_
  refine Gk.iconst X0 hx (hb hby d19_108) (-1 : Int32) rfl ?_
  refine Go.fin X0 (v := some (.int (-1 : Int32))) (fun h_ => by rw [Bd.returns] at h_; cases h_) Bd.notSynchronized (fun _ hr => retOut X0 hx Bd.returns rfl (Or.inl ⟨rfl, Or.inl rfl, _, rfl⟩) (hb hby d19_109) hr) (fun U' hU hF => ⟨_, _, rfl, ?_, hF.1, hF.2.1, hF.2.2.mono (by decide) (by decide)⟩)
  rw [hU, e0]
  exact ⟨(congrArg (fun z_ : Int32 => some (Value.int z_)) (show (-1 : Int32) = (-1 : Int32) from rfl)), N0, rfl⟩
theorem ef_rm18_1 (m : MethodId) (a1 : Addr) (a4 : Addr) : entryFrame m #[(.ref a1), (.int (1 : Int32)), (.int (2 : Int32)), (.ref a4), (.int (0 : Int32)), (.int (1 : Int32))] 8 = mkF m 0 #[.val (.ref a1), .val (.int (1 : Int32)), .val (.int (2 : Int32)), .val (.ref a4), .val (.int (0 : Int32)), .val (.int (1 : Int32)), .unset, .unset] [] := by first | (simp [entryFrame, mkF, argsToLocals, Value.category]; done) | rfl
def Q_rm18_1 (Z : State) (a1 : Addr) (a4 : Addr) (kx : ClassId) (fx : Nat → Value) (kt : ClassId) (ft : Nat → Value) (h0 : Heap) (n0 : Nat) (v : Option Value) (h : Heap) (L : List Loc) : Prop := v = some (.int (1 : Int32)) ∧ Fr n0 L ∧ h = h0
set_option maxRecDepth 65536 in
set_option maxHeartbeats 40000000 in
theorem rm18_1 (l : Launch) (Z : State) (a0 : Array Value) (hw : ∀ d ∈ tables_1, d.before a0 Z = true) (ws : List Jvm.Cond) (a1 : Addr) (a4 : Addr) (kx : ClassId) (fx : Nat → Value) (kt : ClassId) (ft : Nat → Value) (h0 : Heap) (n0 : Nat) (Z0 : n0 ≤ h0.size) (V_x : Arf Z h0 a1 kx .int (64 : Int32) fx) (hx_ : fx 1 = (.int (1 : Int32))) (V_t : Arf Z h0 a4 kt .int (1 : Int32) ft) (ht0 : ft 0 = (.int (1 : Int32))) :
    MetFree l (⟨"java/util/Arrays", "equals", "([III[III)Z"⟩ : MethodName) (head1 (Jvm.Cond.code (⟨"java/util/Arrays", "equals", "([III[III)Z"⟩ : MethodName) jdk_65_method_84_code 8 (some .boolean) :: ws) ({ frames := 1, cells := 0, slots := 0, locals := 19 } : Room)) (fun a U => a = #[(.ref a1), (.int (1 : Int32)), (.int (2 : Int32)), (.ref a4), (.int (0 : Int32)), (.int (1 : Int32))] ∧ Z.Warmed39 U.vm ∧ U.heap = h0) (fun _ _ _ _ _ => True) (fun _ U o U' => ∃ v L, o = .returned v ∧ Q_rm18_1 Z a1 a4 kx fx kt ft h0 n0 v U'.heap L ∧ FrameEnd U o U' L ({ frames := 1, cells := 0, slots := 0, locals := 19 } : Room).cells ({ frames := 1, cells := 0, slots := 0, locals := 19 } : Room).slots) := by
  refine MetFree.of_bodySF (plainFor_of_name pn_91) hisR ?_
  intro p e s m args below meth c s₁ Bd hml0 hP hK
  obtain ⟨rfl, hZ, hh⟩ := hP
  have hx := Bd.exec
  have hby := Bd.bytes
  have hml : c.maxLocals = 8 := hml0
  have hown : s.vm.findClass "java/util/Arrays" = some m.cls := findClass_of_methodNamed Bd.named
  have hnm := (name_of_methodNamed Bd.named Bd.method).1
  have X0 : Stand p l e ({ frames := 1, cells := 0, slots := 0, locals := 19 } : Room) s m #[(.ref a1), (.int (1 : Int32)), (.int (2 : Int32)), (.ref a4), (.int (0 : Int32)), (.int (1 : Int32))] below meth c s₁ [] 0 0 := Stand.of_body Bd
  have e0 : s₁.heap = h0 := by rw [← hh, Bd.state]; rfl
  have N0 := Fr.nil n0
  show Go p e below (s₁.setTop (entryFrame m #[(.ref a1), (.int (1 : Int32)), (.int (2 : Int32)), (.ref a4), (.int (0 : Int32)), (.int (1 : Int32))] 8)) (fun o U' => ∃ v L, o = .returned v ∧ Q_rm18_1 Z a1 a4 kx fx kt ft h0 n0 v U'.heap L ∧ FrameEnd s o U' L ({ frames := 1, cells := 0, slots := 0, locals := 19 } : Room).cells ({ frames := 1, cells := 0, slots := 0, locals := 19 } : Room).slots)
  rw [ef_rm18_1]
  refine Gk.aloadN X0 hx (hb hby d18_0) rfl rfl ?_
  refine Gk.alen X0 hx hZ e0 V_x (hb hby d18_1) ?_
  refine Gk.iloadN X0 hx (hb hby d18_2) rfl ?_
  refine Gk.iloadN X0 hx (hb hby d18_3) rfl ?_
  refine Gk.callS (argsL := [(.int (64 : Int32)), (.int (1 : Int32)), (.int (2 : Int32))]) X0 hx hZ hown (rm7 l Z a0 hw [] (64 : Int32) (1 : Int32) (2 : Int32) h0 n0 Z0 (by decide) (by decide) (by decide)) (hw _ (List.mem_of_getElem? (i := 72) rfl)) (hw _ (List.mem_of_getElem? (i := 73) rfl)) (hw _ (List.mem_of_getElem? (i := 65) rfl)) (hw _ (List.mem_of_getElem? (i := 74) rfl)) (by decide) e0 pd_0 rfl rfl (by decide) (Nat.le_of_ble_eq_true rfl) (by decide) (by decide) (by rw [hml]; rfl)  rfl (hb hby d18_4) ?_
  intro T1 L1 v1 X1 hQ1
  obtain ⟨rfl, N1q, e1⟩ := hQ1
  have N1 := Fr.app N0 N1q
  show Go p e below (T1.setTop (mkF m 7 #[.val (.ref a1), .val (.int (1 : Int32)), .val (.int (2 : Int32)), .val (.ref a4), .val (.int (0 : Int32)), .val (.int (1 : Int32)), .unset, .unset] [])) _
  refine Gk.aloadN X1 hx (hb hby d18_7) rfl rfl ?_
  refine Gk.alen X1 hx hZ e1 V_t (hb hby d18_8) ?_
  refine Gk.iload X1 hx (hb hby d18_9) rfl ?_
  refine Gk.iload X1 hx (hb hby d18_11) rfl ?_
  refine Gk.callS (argsL := [(.int (1 : Int32)), (.int (0 : Int32)), (.int (1 : Int32))]) X1 hx hZ hown (rm7 l Z a0 hw [] (1 : Int32) (0 : Int32) (1 : Int32) h0 n0 Z0 (by decide) (by decide) (by decide)) (hw _ (List.mem_of_getElem? (i := 72) rfl)) (hw _ (List.mem_of_getElem? (i := 73) rfl)) (hw _ (List.mem_of_getElem? (i := 65) rfl)) (hw _ (List.mem_of_getElem? (i := 74) rfl)) (by decide) e1 pd_0 rfl rfl (by decide) (Nat.le_of_ble_eq_true rfl) (by decide) (by decide) (by rw [hml]; rfl)  rfl (hb hby d18_13) ?_
  intro T2 L2 v2 X2 hQ2
  obtain ⟨rfl, N2q, e2⟩ := hQ2
  have N2 := Fr.app N1 N2q
  show Go p e below (T2.setTop (mkF m 16 #[.val (.ref a1), .val (.int (1 : Int32)), .val (.int (2 : Int32)), .val (.ref a4), .val (.int (0 : Int32)), .val (.int (1 : Int32)), .unset, .unset] [])) _
  refine Gk.iloadN X2 hx (hb hby d18_16) rfl ?_
  refine Gk.iloadN X2 hx (hb hby d18_17) rfl ?_
  refine Gk.isub X2 hx (hb hby d18_18) (1 : Int32) (by decide) ?_
  refine Gk.istore X2 hx (hb hby d18_19) #[.val (.ref a1), .val (.int (1 : Int32)), .val (.int (2 : Int32)), .val (.ref a4), .val (.int (0 : Int32)), .val (.int (1 : Int32)), .val (.int (1 : Int32)), .unset] rfl ?_
  refine Gk.iload X2 hx (hb hby d18_21) rfl ?_
  refine Gk.iload X2 hx (hb hby d18_23) rfl ?_
  refine Gk.isub X2 hx (hb hby d18_25) (1 : Int32) (by decide) ?_
  refine Gk.istore X2 hx (hb hby d18_26) #[.val (.ref a1), .val (.int (1 : Int32)), .val (.int (2 : Int32)), .val (.ref a4), .val (.int (0 : Int32)), .val (.int (1 : Int32)), .val (.int (1 : Int32)), .val (.int (1 : Int32))] rfl ?_
  refine Gk.iload X2 hx (hb hby d18_28) rfl ?_
  refine Gk.iload X2 hx (hb hby d18_30) rfl ?_
  refine Gk.icmpYes X2 hx (hb hby d18_32) (teq (by decide : (1 : Int32) = (1 : Int32))).1 37 (by decide) (by decide) ?_
  refine Gk.aloadN X2 hx (hb hby d18_37) rfl rfl ?_
  refine Gk.iloadN X2 hx (hb hby d18_38) rfl ?_
  refine Gk.aloadN X2 hx (hb hby d18_39) rfl rfl ?_
  refine Gk.iload X2 hx (hb hby d18_40) rfl ?_
  refine Gk.iload X2 hx (hb hby d18_42) rfl ?_
  refine Gk.callS (argsL := [(.ref a1), (.int (1 : Int32)), (.ref a4), (.int (0 : Int32)), (.int (1 : Int32))]) X2 hx hZ hown (rm19_1 l Z a0 hw [] a1 a4 kx fx kt ft h0 n0 Z0 V_x hx_ V_t ht0) (hw _ (List.mem_of_getElem? (i := 130) rfl)) (hw _ (List.mem_of_getElem? (i := 131) rfl)) (hw _ (List.mem_of_getElem? (i := 132) rfl)) (hw _ (List.mem_of_getElem? (i := 133) rfl)) (by decide) e2 pd_5 rfl rfl (by decide) (Nat.le_of_ble_eq_true rfl) (by decide) (by decide) (by rw [hml]; rfl)  rfl (hb hby d18_44) ?_
  intro T3 L3 v3 X3 hQ3
  obtain ⟨rfl, N3q, e3⟩ := hQ3
  have N3 := Fr.app N2 N3q
  show Go p e below (T3.setTop (mkF m 47 #[.val (.ref a1), .val (.int (1 : Int32)), .val (.int (2 : Int32)), .val (.ref a4), .val (.int (0 : Int32)), .val (.int (1 : Int32)), .val (.int (1 : Int32)), .val (.int (1 : Int32))] [(.int (-1 : Int32))])) _
  refine Gk.ifNo X3 hx (hb hby d18_47) (tlt (by decide : (-1 : Int32) < (0 : Int32))).2.1 ?_
  refine Gk.iconst X3 hx (hb hby d18_50) (1 : Int32) rfl ?_
  refine Gk.goto X3 hx (hb hby d18_51) 55 (by decide) (by decide) ?_
  refine Go.fin X3 (v := some (.int (1 : Int32))) (fun h_ => by rw [Bd.returns] at h_; cases h_) Bd.notSynchronized (fun _ hr => retN X3 hx (t := .boolean) Bd.returns (by simp) (hb hby d18_55) hr) (fun U' hU hF => ⟨_, _, rfl, ?_, hF.1, hF.2.1, hF.2.2.mono (by decide) (by decide)⟩)
  rw [hU, e3]
  exact ⟨(congrArg (fun z_ : Int32 => some (Value.int z_)) (show (1 : Int32) = (1 : Int32) from rfl)), N3, rfl⟩
theorem ef_rm11f_1 (m : MethodId) (a1 : Addr) (a2 : Addr) : entryFrame m #[(.ref a1), (.ref a2), (.int (-511900244 : Int32))] 6 = mkF m 0 #[.val (.ref a1), .val (.ref a2), .val (.int (-511900244 : Int32)), .unset, .unset, .unset] [] := by first | (simp [entryFrame, mkF, argsToLocals, Value.category]; done) | rfl
def Q_rm11f_1 (Z : State) (a1 : Addr) (a2 : Addr) (xs : Addr) (ks : ClassId) (fs : Nat → Value) (xh : Addr) (kh : ClassId) (fh : Nat → Value) (xx : Addr) (kx : ClassId) (fx : Nat → Value) (kt : ClassId) (ft : Nat → Value) (h0 : Heap) (n0 : Nat) (v : Option Value) (h : Heap) (L : List Loc) : Prop := v = some (.int (1 : Int32)) ∧ Fr n0 L ∧ h = h0
set_option maxRecDepth 65536 in
set_option maxHeartbeats 40000000 in
theorem rm11f_1 (l : Launch) (Z : State) (a0 : Array Value) (hw : ∀ d ∈ tables_1, d.before a0 Z = true) (ws : List Jvm.Cond) (a1 : Addr) (a2 : Addr) (xs : Addr) (ks : ClassId) (fs : Nat → Value) (xh : Addr) (kh : ClassId) (fh : Nat → Value) (xx : Addr) (kx : ClassId) (fx : Nat → Value) (kt : ClassId) (ft : Nat → Value) (h0 : Heap) (n0 : Nat) (Z0 : n0 ≤ h0.size) (V_s : Arf Z h0 xs ks .int (32 : Int32) fs) (V_h : Arf Z h0 xh kh .int (16 : Int32) fh) (V_x : Arf Z h0 xx kx .int (64 : Int32) fx) (hx_ : fx 1 = (.int (1 : Int32))) (V_t : Arf Z h0 a2 kt .int (1 : Int32) ft) (ht0 : ft 0 = (.int (1 : Int32))) (hs_ : fs 12 = (.int (2 : Int32))) (hh_ : fh 1 = (.int (-511900244 : Int32))) (F_slots : Fld Z h0 a1 "com/example/tracewarden/tracewarden/engine/SearchTuples" "slots" "[I" (.ref xs)) (F_hashes : Fld Z h0 a1 "com/example/tracewarden/tracewarden/engine/SearchTuples" "hashes" "[I" (.ref xh)) (F_states : Fld Z h0 a1 "com/example/tracewarden/tracewarden/engine/SearchTuples" "states" "[I" (.ref xx)) (F_width : Fld Z h0 a1 "com/example/tracewarden/tracewarden/engine/SearchTuples" "width" "I" (.int (1 : Int32))) :
    MetFree l (⟨"com/example/tracewarden/tracewarden/engine/SearchTuples", "latest", "([II)I"⟩ : MethodName) (head1 (Jvm.Cond.code (⟨"com/example/tracewarden/tracewarden/engine/SearchTuples", "latest", "([II)I"⟩ : MethodName) prog_86_method_18_code 6 (some .int) :: ws) ({ frames := 2, cells := 0, slots := 0, locals := 38 } : Room)) (fun a U => a = #[(.ref a1), (.ref a2), (.int (-511900244 : Int32))] ∧ Z.Warmed39 U.vm ∧ U.heap = h0) (fun _ _ _ _ _ => True) (fun _ U o U' => ∃ v L, o = .returned v ∧ Q_rm11f_1 Z a1 a2 xs ks fs xh kh fh xx kx fx kt ft h0 n0 v U'.heap L ∧ FrameEnd U o U' L ({ frames := 2, cells := 0, slots := 0, locals := 38 } : Room).cells ({ frames := 2, cells := 0, slots := 0, locals := 38 } : Room).slots) := by
  refine MetFree.of_bodySF (plainFor_of_name pn_81) hisR ?_
  intro p e s m args below meth c s₁ Bd hml0 hP hK
  obtain ⟨rfl, hZ, hh⟩ := hP
  have hx := Bd.exec
  have hby := Bd.bytes
  have hml : c.maxLocals = 6 := hml0
  have hown : s.vm.findClass "com/example/tracewarden/tracewarden/engine/SearchTuples" = some m.cls := findClass_of_methodNamed Bd.named
  have hnm := (name_of_methodNamed Bd.named Bd.method).1
  have X0 : Stand p l e ({ frames := 2, cells := 0, slots := 0, locals := 38 } : Room) s m #[(.ref a1), (.ref a2), (.int (-511900244 : Int32))] below meth c s₁ [] 0 0 := Stand.of_body Bd
  have e0 : s₁.heap = h0 := by rw [← hh, Bd.state]; rfl
  have N0 := Fr.nil n0
  show Go p e below (s₁.setTop (entryFrame m #[(.ref a1), (.ref a2), (.int (-511900244 : Int32))] 6)) (fun o U' => ∃ v L, o = .returned v ∧ Q_rm11f_1 Z a1 a2 xs ks fs xh kh fh xx kx fx kt ft h0 n0 v U'.heap L ∧ FrameEnd s o U' L ({ frames := 2, cells := 0, slots := 0, locals := 38 } : Room).cells ({ frames := 2, cells := 0, slots := 0, locals := 38 } : Room).slots)
  rw [ef_rm11f_1]
  refine Gk.aloadN X0 hx (hb hby d11_0) rfl rfl ?_
  refine Gk.getF X0 hx hZ hown (host := "") (Or.inl (hw _ (List.mem_of_getElem? (i := 42) rfl))) Via.refl e0 F_slots (hb hby d11_1) ?_
  intro T1 X1 e1
  refine Gk.alen X1 hx hZ e1 V_s (hb hby d11_4) ?_
  refine Gk.iconst X1 hx (hb hby d11_5) (1 : Int32) rfl ?_
  refine Gk.isub X1 hx (hb hby d11_6) (31 : Int32) (by decide) ?_
  refine Gk.istoreN X1 hx (hb hby d11_7) #[.val (.ref a1), .val (.ref a2), .val (.int (-511900244 : Int32)), .val (.int (31 : Int32)), .unset, .unset] rfl ?_
  refine Gk.iloadN X1 hx (hb hby d11_8) rfl ?_
  refine Gk.iloadN X1 hx (hb hby d11_9) rfl ?_
  refine Gk.iand X1 hx (hb hby d11_10) (12 : Int32) (by decide) ?_
  refine Gk.istore X1 hx (hb hby d11_11) #[.val (.ref a1), .val (.ref a2), .val (.int (-511900244 : Int32)), .val (.int (31 : Int32)), .val (.int (12 : Int32)), .unset] rfl ?_
  refine Gk.aloadN X1 hx (hb hby d11_13) rfl rfl ?_
  refine Gk.getF X1 hx hZ hown (host := "") (Or.inl (hw _ (List.mem_of_getElem? (i := 42) rfl))) Via.refl e1 F_slots (hb hby d11_14) ?_
  intro T2 X2 e2
  refine Gk.iload X2 hx (hb hby d11_17) rfl ?_
  refine Gk.iaload X2 hx hZ e2 V_s ⟨by decide, by decide⟩ (.int (2 : Int32)) hs_ (hb hby d11_19) ?_
  refine Gk.ifNo X2 hx (hb hby d11_20) (feq (by decide : ¬ ((2 : Int32) = (0 : Int32)))).1 ?_
  refine Gk.aloadN X2 hx (hb hby d11_23) rfl rfl ?_
  refine Gk.getF X2 hx hZ hown (host := "") (Or.inl (hw _ (List.mem_of_getElem? (i := 42) rfl))) Via.refl e2 F_slots (hb hby d11_24) ?_
  intro T4 X4 e4
  refine Gk.iload X4 hx (hb hby d11_27) rfl ?_
  refine Gk.iaload X4 hx hZ e4 V_s ⟨by decide, by decide⟩ (.int (2 : Int32)) hs_ (hb hby d11_29) ?_
  refine Gk.iconst X4 hx (hb hby d11_30) (1 : Int32) rfl ?_
  refine Gk.isub X4 hx (hb hby d11_31) (1 : Int32) (by decide) ?_
  refine Gk.istore X4 hx (hb hby d11_32) #[.val (.ref a1), .val (.ref a2), .val (.int (-511900244 : Int32)), .val (.int (31 : Int32)), .val (.int (12 : Int32)), .val (.int (1 : Int32))] rfl ?_
  refine Gk.aloadN X4 hx (hb hby d11_34) rfl rfl ?_
  refine Gk.getF X4 hx hZ hown (host := "") (Or.inl (hw _ (List.mem_of_getElem? (i := 23) rfl))) Via.refl e4 F_hashes (hb hby d11_35) ?_
  intro T6 X6 e6
  refine Gk.iload X6 hx (hb hby d11_38) rfl ?_
  refine Gk.iaload X6 hx hZ e6 V_h ⟨by decide, by decide⟩ (.int (-511900244 : Int32)) hh_ (hb hby d11_40) ?_
  refine Gk.iloadN X6 hx (hb hby d11_41) rfl ?_
  refine Gk.icmpNo X6 hx (hb hby d11_42) (teq (by decide : (-511900244 : Int32) = (-511900244 : Int32))).2 ?_
  refine Gk.aloadN X6 hx (hb hby d11_45) rfl rfl ?_
  refine Gk.getF X6 hx hZ hown (host := "") (Or.inl (hw _ (List.mem_of_getElem? (i := 21) rfl))) Via.refl e6 F_states (hb hby d11_46) ?_
  intro T8 X8 e8
  refine Gk.iload X8 hx (hb hby d11_49) rfl ?_
  refine Gk.aloadN X8 hx (hb hby d11_51) rfl rfl ?_
  refine Gk.getF X8 hx hZ hown (host := "") (Or.inl (hw _ (List.mem_of_getElem? (i := 46) rfl))) Via.refl e8 F_width (hb hby d11_52) ?_
  intro T9 X9 e9
  refine Gk.imul X9 hx (hb hby d11_55) (1 : Int32) (by decide) ?_
  refine Gk.iload X9 hx (hb hby d11_56) rfl ?_
  refine Gk.iconst X9 hx (hb hby d11_58) (1 : Int32) rfl ?_
  refine Gk.iadd X9 hx (hb hby d11_59) (2 : Int32) (by decide) ?_
  refine Gk.aloadN X9 hx (hb hby d11_60) rfl rfl ?_
  refine Gk.getF X9 hx hZ hown (host := "") (Or.inl (hw _ (List.mem_of_getElem? (i := 46) rfl))) Via.refl e9 F_width (hb hby d11_61) ?_
  intro T10 X10 e10
  refine Gk.imul X10 hx (hb hby d11_64) (2 : Int32) (by decide) ?_
  refine Gk.aloadN X10 hx (hb hby d11_65) rfl rfl ?_
  refine Gk.iconst X10 hx (hb hby d11_66) (0 : Int32) rfl ?_
  refine Gk.aloadN X10 hx (hb hby d11_67) rfl rfl ?_
  refine Gk.getF X10 hx hZ hown (host := "") (Or.inl (hw _ (List.mem_of_getElem? (i := 46) rfl))) Via.refl e10 F_width (hb hby d11_68) ?_
  intro T11 X11 e11
  refine Gk.callS (argsL := [(.ref xx), (.int (1 : Int32)), (.int (2 : Int32)), (.ref a2), (.int (0 : Int32)), (.int (1 : Int32))]) X11 hx hZ hown (rm18_1 l Z a0 hw [] xx a2 kx fx kt ft h0 n0 Z0 V_x hx_ V_t ht0) (hw _ (List.mem_of_getElem? (i := 127) rfl)) (hw _ (List.mem_of_getElem? (i := 128) rfl)) (hw _ (List.mem_of_getElem? (i := 65) rfl)) (hw _ (List.mem_of_getElem? (i := 129) rfl)) (by decide) e11 pd_6 rfl rfl (by decide) (Nat.le_of_ble_eq_true rfl) (by decide) (by decide) (by rw [hml]; rfl)  rfl (hb hby d11_71) ?_
  intro T12 L12 v12 X12 hQ12
  obtain ⟨rfl, N12q, e12⟩ := hQ12
  have N12 := Fr.app N0 N12q
  show Go p e below (T12.setTop (mkF m 74 #[.val (.ref a1), .val (.ref a2), .val (.int (-511900244 : Int32)), .val (.int (31 : Int32)), .val (.int (12 : Int32)), .val (.int (1 : Int32))] [(.int (1 : Int32))])) _
  refine Gk.ifNo X12 hx (hb hby d11_74) (feq (by decide : ¬ ((1 : Int32) = (0 : Int32)))).1 ?_
  refine Gk.iload X12 hx (hb hby d11_77) rfl ?_
  refine Go.fin X12 (v := some (.int (1 : Int32))) (fun h_ => by rw [Bd.returns] at h_; cases h_) Bd.notSynchronized (fun _ hr => retOut X12 hx Bd.returns rfl (Or.inl ⟨rfl, Or.inl rfl, _, rfl⟩) (hb hby d11_79) hr) (fun U' hU hF => ⟨_, _, rfl, ?_, hF.1, hF.2.1, hF.2.2.mono (by decide) (by decide)⟩)
  rw [hU, e12]
  exact ⟨(congrArg (fun z_ : Int32 => some (Value.int z_)) (show (1 : Int32) = (1 : Int32) from rfl)), N12, rfl⟩
theorem ef_rm12_1 (m : MethodId) (a1 : Addr) : entryFrame m #[(.ref a1), (.int (1 : Int32)), .null] 4 = mkF m 0 #[.val (.ref a1), .val (.int (1 : Int32)), .val .null, .unset] [] := by first | (simp [entryFrame, mkF, argsToLocals, Value.category]; done) | rfl
def Q_rm12_1 (Z : State) (a1 : Addr) (xh : Addr) (kh : ClassId) (xm : Addr) (km : ClassId) (fm : Nat → Value) (h0 : Heap) (n0 : Nat) (v : Option Value) (h : Heap) (L : List Loc) : Prop := v = none ∧ Fr n0 L ∧ Keep h0 h [xh] ∧ Arf Z h xh kh .boolean (16 : Int32) (upd (fun _ => .int (0 : Int32)) 1 (.int (1 : Int32)))
set_option maxRecDepth 65536 in
set_option maxHeartbeats 40000000 in
theorem rm12_1 (l : Launch) (Z : State) (a0 : Array Value) (hw : ∀ d ∈ tables_1, d.before a0 Z = true) (ws : List Jvm.Cond) (a1 : Addr) (xh : Addr) (kh : ClassId) (xm : Addr) (km : ClassId) (fm : Nat → Value) (h0 : Heap) (n0 : Nat) (Z0 : n0 ≤ h0.size) (V_h : Arf Z h0 xh kh .boolean (16 : Int32) (fun _ => .int (0 : Int32))) (V_m : Arf Z h0 xm km .int (16 : Int32) fm) (hm_ : fm 1 = (.int (-1 : Int32))) (F_held : Fld Z h0 a1 "com/example/tracewarden/tracewarden/engine/SearchTuples" "held" "[Z" (.ref xh)) (F_sameStates : Fld Z h0 a1 "com/example/tracewarden/tracewarden/engine/SearchTuples" "sameStates" "[I" (.ref xm)) (ne_hm : xh ≠ xm) (ne_ah : a1 ≠ xh) (g_xh : n0 ≤ xh) :
    MetFree l (⟨"com/example/tracewarden/tracewarden/engine/SearchTuples", "passOver", "(ILcom/example/tracewarden/tracewarden/engine/Zone;)V"⟩ : MethodName) (head1 (Jvm.Cond.code (⟨"com/example/tracewarden/tracewarden/engine/SearchTuples", "passOver", "(ILcom/example/tracewarden/tracewarden/engine/Zone;)V"⟩ : MethodName) prog_86_method_15_code 4 none :: ws) ({ frames := 0, cells := 0, slots := 0, locals := 0 } : Room)) (fun a U => a = #[(.ref a1), (.int (1 : Int32)), .null] ∧ Z.Warmed39 U.vm ∧ U.heap = h0) (fun _ _ _ _ _ => True) (fun _ U o U' => ∃ v L, o = .returned v ∧ Q_rm12_1 Z a1 xh kh xm km fm h0 n0 v U'.heap L ∧ FrameEnd U o U' L ({ frames := 0, cells := 0, slots := 0, locals := 0 } : Room).cells ({ frames := 0, cells := 0, slots := 0, locals := 0 } : Room).slots) := by
  refine MetFree.of_bodySF (plainFor_of_name pn_81) hisR ?_
  intro p e s m args below meth c s₁ Bd hml0 hP hK
  obtain ⟨rfl, hZ, hh⟩ := hP
  have hx := Bd.exec
  have hby := Bd.bytes
  have hml : c.maxLocals = 4 := hml0
  have hown : s.vm.findClass "com/example/tracewarden/tracewarden/engine/SearchTuples" = some m.cls := findClass_of_methodNamed Bd.named
  have hnm := (name_of_methodNamed Bd.named Bd.method).1
  have X0 : Stand p l e ({ frames := 0, cells := 0, slots := 0, locals := 0 } : Room) s m #[(.ref a1), (.int (1 : Int32)), .null] below meth c s₁ [] 0 0 := Stand.of_body Bd
  have e0 : s₁.heap = h0 := by rw [← hh, Bd.state]; rfl
  have N0 := Fr.nil n0
  show Go p e below (s₁.setTop (entryFrame m #[(.ref a1), (.int (1 : Int32)), .null] 4)) (fun o U' => ∃ v L, o = .returned v ∧ Q_rm12_1 Z a1 xh kh xm km fm h0 n0 v U'.heap L ∧ FrameEnd s o U' L ({ frames := 0, cells := 0, slots := 0, locals := 0 } : Room).cells ({ frames := 0, cells := 0, slots := 0, locals := 0 } : Room).slots)
  rw [ef_rm12_1]
  refine Gk.iloadN X0 hx (hb hby d12_0) rfl ?_
  refine Gk.istoreN X0 hx (hb hby d12_1) #[.val (.ref a1), .val (.int (1 : Int32)), .val .null, .val (.int (1 : Int32))] rfl ?_
  refine Gk.iloadN X0 hx (hb hby d12_2) rfl ?_
  refine Gk.ifNo X0 hx (hb hby d12_3) (flt (by decide : ¬ ((1 : Int32) < (0 : Int32)))).1 ?_
  refine Gk.aloadN X0 hx (hb hby d12_6) rfl rfl ?_
  refine Gk.getF X0 hx hZ hown (host := "") (Or.inl (hw _ (List.mem_of_getElem? (i := 32) rfl))) Via.refl e0 F_held (hb hby d12_7) ?_
  intro T1 X1 e1
  refine Gk.iloadN X1 hx (hb hby d12_10) rfl ?_
  refine Gk.dup2 X1 hx (hb hby d12_11) rfl rfl ?_
  refine Gk.baloadZ X1 hx hZ e1 V_h ⟨by decide, by decide⟩ (.int (0 : Int32)) rfl (hb hby d12_12) ?_
  refine Gk.aloadN X1 hx (hb hby d12_13) rfl rfl ?_
  refine Gk.ifnullYes X1 hx (hb hby d12_14) 30 (by decide) (by decide) ?_
  refine Gk.iconst X1 hx (hb hby d12_30) (1 : Int32) rfl ?_
  refine Gk.goto X1 hx (hb hby d12_31) 35 (by decide) (by decide) ?_
  refine Gk.ior X1 hx (hb hby d12_35) (1 : Int32) (by decide) ?_
  refine Gk.bastoreZ X1 hx hZ e1 V_h 1 rfl ⟨by decide, by decide⟩ (.int (1 : Int32)) rfl (hb hby d12_36) ?_
  intro T3 h3 X3 e3 W3 V3
  have N3 := Fr.snoc X3 N0 g_xh
  refine Gk.aloadN X3 hx (hb hby d12_37) rfl rfl ?_
  have H4 := (F_sameStates.other W3 (Or.inl ne_ah))
  refine Gk.getF X3 hx hZ hown (host := "") (Or.inl (hw _ (List.mem_of_getElem? (i := 29) rfl))) Via.refl e3 H4 (hb hby d12_38) ?_
  intro T5 X5 e5
  refine Gk.iloadN X5 hx (hb hby d12_41) rfl ?_
  have H7 := (V_m.other W3 (Ne.symm ne_hm))
  refine Gk.iaload X5 hx hZ e5 H7 ⟨by decide, by decide⟩ (.int (-1 : Int32)) hm_ (hb hby d12_42) ?_
  refine Gk.istoreN X5 hx (hb hby d12_43) #[.val (.ref a1), .val (.int (1 : Int32)), .val .null, .val (.int (-1 : Int32))] rfl ?_
  refine Gk.goto X5 hx (hb hby d12_44) 2 (by decide) (by decide) ?_
  refine Gk.iloadN X5 hx (hb hby d12_2) rfl ?_
  refine Gk.ifYes X5 hx (hb hby d12_3) (tlt (by decide : (-1 : Int32) < (0 : Int32))).1 47 (by decide) (by decide) ?_
  refine Go.fin X5 (v := none) (fun _ => rfl) Bd.notSynchronized (fun _ hr => X5.returnOut hx Bd.returns (hb hby d12_47) hr) (fun U' hU hF => ⟨_, _, rfl, ?_, hF.1, hF.2.1, hF.2.2.mono (by decide) (by decide)⟩)
  rw [hU, e5]
  exact ⟨rfl, N3, ((Keep.refl h0 [xh]).wr W3 (Or.inl (List.mem_of_getElem? (i := 0) rfl))), V3⟩
theorem ef_rm19_2 (m : MethodId) (a1 : Addr) (a3 : Addr) : entryFrame m #[(.ref a1), (.int (2 : Int32)), (.ref a3), (.int (0 : Int32)), (.int (1 : Int32))] 8 = mkF m 0 #[.val (.ref a1), .val (.int (2 : Int32)), .val (.ref a3), .val (.int (0 : Int32)), .val (.int (1 : Int32)), .unset, .unset, .unset] [] := by first | (simp [entryFrame, mkF, argsToLocals, Value.category]; done) | rfl
def Q_rm19_2 (Z : State) (a1 : Addr) (a3 : Addr) (kx : ClassId) (fx : Nat → Value) (kt : ClassId) (ft : Nat → Value) (h0 : Heap) (n0 : Nat) (v : Option Value) (h : Heap) (L : List Loc) : Prop := v = some (.int (-1 : Int32)) ∧ Fr n0 L ∧ h = h0
set_option maxRecDepth 65536 in
set_option maxHeartbeats 40000000 in
theorem rm19_2 (l : Launch) (Z : State) (a0 : Array Value) (hw : ∀ d ∈ tables_1, d.before a0 Z = true) (ws : List Jvm.Cond) (a1 : Addr) (a3 : Addr) (kx : ClassId) (fx : Nat → Value) (kt : ClassId) (ft : Nat → Value) (h0 : Heap) (n0 : Nat) (Z0 : n0 ≤ h0.size) (V_x : Arf Z h0 a1 kx .int (64 : Int32) fx) (hx_ : fx 2 = (.int (2 : Int32))) (V_t : Arf Z h0 a3 kt .int (1 : Int32) ft) (ht0 : ft 0 = (.int (2 : Int32))) :
    MetFree l (⟨"jdk/internal/util/ArraysSupport", "mismatch", "([II[III)I"⟩ : MethodName) (head1 (Jvm.Cond.code (⟨"jdk/internal/util/ArraysSupport", "mismatch", "([II[III)I"⟩ : MethodName) jdk_48_method_20_code 8 (some .int) :: ws) ({ frames := 0, cells := 0, slots := 0, locals := 0 } : Room)) (fun a U => a = #[(.ref a1), (.int (2 : Int32)), (.ref a3), (.int (0 : Int32)), (.int (1 : Int32))] ∧ Z.Warmed39 U.vm ∧ U.heap = h0) (fun _ _ _ _ _ => True) (fun _ U o U' => ∃ v L, o = .returned v ∧ Q_rm19_2 Z a1 a3 kx fx kt ft h0 n0 v U'.heap L ∧ FrameEnd U o U' L ({ frames := 0, cells := 0, slots := 0, locals := 0 } : Room).cells ({ frames := 0, cells := 0, slots := 0, locals := 0 } : Room).slots) := by
  refine MetFree.of_bodySF (plainFor_of_name pn_282) hisR ?_
  intro p e s m args below meth c s₁ Bd hml0 hP hK
  obtain ⟨rfl, hZ, hh⟩ := hP
  have hx := Bd.exec
  have hby := Bd.bytes
  have hml : c.maxLocals = 8 := hml0
  have hown : s.vm.findClass "jdk/internal/util/ArraysSupport" = some m.cls := findClass_of_methodNamed Bd.named
  have hnm := (name_of_methodNamed Bd.named Bd.method).1
  have X0 : Stand p l e ({ frames := 0, cells := 0, slots := 0, locals := 0 } : Room) s m #[(.ref a1), (.int (2 : Int32)), (.ref a3), (.int (0 : Int32)), (.int (1 : Int32))] below meth c s₁ [] 0 0 := Stand.of_body Bd
  have e0 : s₁.heap = h0 := by rw [← hh, Bd.state]; rfl
  have N0 := Fr.nil n0
  show Go p e below (s₁.setTop (entryFrame m #[(.ref a1), (.int (2 : Int32)), (.ref a3), (.int (0 : Int32)), (.int (1 : Int32))] 8)) (fun o U' => ∃ v L, o = .returned v ∧ Q_rm19_2 Z a1 a3 kx fx kt ft h0 n0 v U'.heap L ∧ FrameEnd s o U' L ({ frames := 0, cells := 0, slots := 0, locals := 0 } : Room).cells ({ frames := 0, cells := 0, slots := 0, locals := 0 } : Room).slots)
  rw [ef_rm19_2]
  refine Gk.iconst X0 hx (hb hby d19_0) (0 : Int32) rfl ?_
  refine Gk.istore X0 hx (hb hby d19_1) #[.val (.ref a1), .val (.int (2 : Int32)), .val (.ref a3), .val (.int (0 : Int32)), .val (.int (1 : Int32)), .val (.int (0 : Int32)), .unset, .unset] rfl ?_
  refine Gk.iload X0 hx (hb hby d19_3) rfl ?_
  refine Gk.iconst X0 hx (hb hby d19_5) (1 : Int32) rfl ?_
  refine Gk.icmpYes X0 hx (hb hby d19_6) (flt (by decide : ¬ ((1 : Int32) < (1 : Int32)))).2.2.2 77 (by decide) (by decide) ?_
  refine Gk.iload X0 hx (hb hby d19_77) rfl ?_
  refine Gk.iload X0 hx (hb hby d19_79) rfl ?_
  refine Gk.icmpNo X0 hx (hb hby d19_81) (tlt (by decide : (0 : Int32) < (1 : Int32))).2.1 ?_
  refine Gk.aloadN X0 hx (hb hby d19_84) rfl rfl ?_
  refine Gk.iloadN X0 hx (hb hby d19_85) rfl ?_
  refine Gk.iload X0 hx (hb hby d19_86) rfl ?_
  refine Gk.iadd X0 hx (hb hby d19_88) (2 : Int32) (by decide) ?_
  refine Gk.iaload X0 hx hZ e0 V_x ⟨by decide, by decide⟩ (.int (2 : Int32)) hx_ (hb hby d19_89) ?_
  refine Gk.aloadN X0 hx (hb hby d19_90) rfl rfl ?_
  refine Gk.iloadN X0 hx (hb hby d19_91) rfl ?_
  refine Gk.iload X0 hx (hb hby d19_92) rfl ?_
  refine Gk.iadd X0 hx (hb hby d19_94) (0 : Int32) (by decide) ?_
  refine Gk.iaload X0 hx hZ e0 V_t ⟨by decide, by decide⟩ (.int (2 : Int32)) ht0 (hb hby d19_95) ?_
  refine Gk.icmpYes X0 hx (hb hby d19_96) (teq (by decide : (2 : Int32) = (2 : Int32))).1 102 (by decide) (by decide) ?_
  refine Gk.iinc X0 hx (hb hby d19_102) rfl #[.val (.ref a1), .val (.int (2 : Int32)), .val (.ref a3), .val (.int (0 : Int32)), .val (.int (1 : Int32)), .val (.int (1 : Int32)), .unset, .unset] rfl ?_
  refine Gk.goto X0 hx (hb hby d19_105) 77 (by decide) (by decide) ?_
  refine Gk.iload X0 hx (hb hby d19_77) rfl ?_
  refine Gk.iload X0 hx (hb hby d19_79) rfl ?_
  refine Gk.icmpYes X0 hx (hb hby d19_81) (flt (by decide : ¬ ((1 : Int32) < (1 : Int32)))).2.1 108 (by decide) (by decide) ?_
  refine Gk.iconst X0 hx (hb hby d19_108) (-1 : Int32) rfl ?_
  refine Go.fin X0 (v := some (.int (-1 : Int32))) (fun h_ => by rw [Bd.returns] at h_; cases h_) Bd.notSynchronized (fun _ hr => retOut X0 hx Bd.returns rfl (Or.inl ⟨rfl, Or.inl rfl, _, rfl⟩) (hb hby d19_109) hr) (fun U' hU hF => ⟨_, _, rfl, ?_, hF.1, hF.2.1, hF.2.2.mono (by decide) (by decide)⟩)
  rw [hU, e0]
  exact ⟨(congrArg (fun z_ : Int32 => some (Value.int z_)) (show (-1 : Int32) = (-1 : Int32) from rfl)), N0, rfl⟩
theorem ef_rm18_2 (m : MethodId) (a1 : Addr) (a4 : Addr) : entryFrame m #[(.ref a1), (.int (2 : Int32)), (.int (3 : Int32)), (.ref a4), (.int (0 : Int32)), (.int (1 : Int32))] 8 = mkF m 0 #[.val (.ref a1), .val (.int (2 : Int32)), .val (.int (3 : Int32)), .val (.ref a4), .val (.int (0 : Int32)), .val (.int (1 : Int32)), .unset, .unset] [] := by first | (simp [entryFrame, mkF, argsToLocals, Value.category]; done) | rfl
def Q_rm18_2 (Z : State) (a1 : Addr) (a4 : Addr) (kx : ClassId) (fx : Nat → Value) (kt : ClassId) (ft : Nat → Value) (h0 : Heap) (n0 : Nat) (v : Option Value) (h : Heap) (L : List Loc) : Prop := v = some (.int (1 : Int32)) ∧ Fr n0 L ∧ h = h0
set_option maxRecDepth 65536 in
set_option maxHeartbeats 40000000 in
theorem rm18_2 (l : Launch) (Z : State) (a0 : Array Value) (hw : ∀ d ∈ tables_1, d.before a0 Z = true) (ws : List Jvm.Cond) (a1 : Addr) (a4 : Addr) (kx : ClassId) (fx : Nat → Value) (kt : ClassId) (ft : Nat → Value) (h0 : Heap) (n0 : Nat) (Z0 : n0 ≤ h0.size) (V_x : Arf Z h0 a1 kx .int (64 : Int32) fx) (hx_ : fx 2 = (.int (2 : Int32))) (V_t : Arf Z h0 a4 kt .int (1 : Int32) ft) (ht0 : ft 0 = (.int (2 : Int32))) :
    MetFree l (⟨"java/util/Arrays", "equals", "([III[III)Z"⟩ : MethodName) (head1 (Jvm.Cond.code (⟨"java/util/Arrays", "equals", "([III[III)Z"⟩ : MethodName) jdk_65_method_84_code 8 (some .boolean) :: ws) ({ frames := 1, cells := 0, slots := 0, locals := 19 } : Room)) (fun a U => a = #[(.ref a1), (.int (2 : Int32)), (.int (3 : Int32)), (.ref a4), (.int (0 : Int32)), (.int (1 : Int32))] ∧ Z.Warmed39 U.vm ∧ U.heap = h0) (fun _ _ _ _ _ => True) (fun _ U o U' => ∃ v L, o = .returned v ∧ Q_rm18_2 Z a1 a4 kx fx kt ft h0 n0 v U'.heap L ∧ FrameEnd U o U' L ({ frames := 1, cells := 0, slots := 0, locals := 19 } : Room).cells ({ frames := 1, cells := 0, slots := 0, locals := 19 } : Room).slots) := by
  refine MetFree.of_bodySF (plainFor_of_name pn_91) hisR ?_
  intro p e s m args below meth c s₁ Bd hml0 hP hK
  obtain ⟨rfl, hZ, hh⟩ := hP
  have hx := Bd.exec
  have hby := Bd.bytes
  have hml : c.maxLocals = 8 := hml0
  have hown : s.vm.findClass "java/util/Arrays" = some m.cls := findClass_of_methodNamed Bd.named
  have hnm := (name_of_methodNamed Bd.named Bd.method).1
  have X0 : Stand p l e ({ frames := 1, cells := 0, slots := 0, locals := 19 } : Room) s m #[(.ref a1), (.int (2 : Int32)), (.int (3 : Int32)), (.ref a4), (.int (0 : Int32)), (.int (1 : Int32))] below meth c s₁ [] 0 0 := Stand.of_body Bd
  have e0 : s₁.heap = h0 := by rw [← hh, Bd.state]; rfl
  have N0 := Fr.nil n0
  show Go p e below (s₁.setTop (entryFrame m #[(.ref a1), (.int (2 : Int32)), (.int (3 : Int32)), (.ref a4), (.int (0 : Int32)), (.int (1 : Int32))] 8)) (fun o U' => ∃ v L, o = .returned v ∧ Q_rm18_2 Z a1 a4 kx fx kt ft h0 n0 v U'.heap L ∧ FrameEnd s o U' L ({ frames := 1, cells := 0, slots := 0, locals := 19 } : Room).cells ({ frames := 1, cells := 0, slots := 0, locals := 19 } : Room).slots)
  rw [ef_rm18_2]
  refine Gk.aloadN X0 hx (hb hby d18_0) rfl rfl ?_
  refine Gk.alen X0 hx hZ e0 V_x (hb hby d18_1) ?_
  refine Gk.iloadN X0 hx (hb hby d18_2) rfl ?_
  refine Gk.iloadN X0 hx (hb hby d18_3) rfl ?_
  refine Gk.callS (argsL := [(.int (64 : Int32)), (.int (2 : Int32)), (.int (3 : Int32))]) X0 hx hZ hown (rm7 l Z a0 hw [] (64 : Int32) (2 : Int32) (3 : Int32) h0 n0 Z0 (by decide) (by decide) (by decide)) (hw _ (List.mem_of_getElem? (i := 72) rfl)) (hw _ (List.mem_of_getElem? (i := 73) rfl)) (hw _ (List.mem_of_getElem? (i := 65) rfl)) (hw _ (List.mem_of_getElem? (i := 74) rfl)) (by decide) e0 pd_0 rfl rfl (by decide) (Nat.le_of_ble_eq_true rfl) (by decide) (by decide) (by rw [hml]; rfl)  rfl (hb hby d18_4) ?_
  intro T1 L1 v1 X1 hQ1
  obtain ⟨rfl, N1q, e1⟩ := hQ1
  have N1 := Fr.app N0 N1q
  show Go p e below (T1.setTop (mkF m 7 #[.val (.ref a1), .val (.int (2 : Int32)), .val (.int (3 : Int32)), .val (.ref a4), .val (.int (0 : Int32)), .val (.int (1 : Int32)), .unset, .unset] [])) _
  refine Gk.aloadN X1 hx (hb hby d18_7) rfl rfl ?_
  refine Gk.alen X1 hx hZ e1 V_t (hb hby d18_8) ?_
  refine Gk.iload X1 hx (hb hby d18_9) rfl ?_
  refine Gk.iload X1 hx (hb hby d18_11) rfl ?_
  refine Gk.callS (argsL := [(.int (1 : Int32)), (.int (0 : Int32)), (.int (1 : Int32))]) X1 hx hZ hown (rm7 l Z a0 hw [] (1 : Int32) (0 : Int32) (1 : Int32) h0 n0 Z0 (by decide) (by decide) (by decide)) (hw _ (List.mem_of_getElem? (i := 72) rfl)) (hw _ (List.mem_of_getElem? (i := 73) rfl)) (hw _ (List.mem_of_getElem? (i := 65) rfl)) (hw _ (List.mem_of_getElem? (i := 74) rfl)) (by decide) e1 pd_0 rfl rfl (by decide) (Nat.le_of_ble_eq_true rfl) (by decide) (by decide) (by rw [hml]; rfl)  rfl (hb hby d18_13) ?_
  intro T2 L2 v2 X2 hQ2
  obtain ⟨rfl, N2q, e2⟩ := hQ2
  have N2 := Fr.app N1 N2q
  show Go p e below (T2.setTop (mkF m 16 #[.val (.ref a1), .val (.int (2 : Int32)), .val (.int (3 : Int32)), .val (.ref a4), .val (.int (0 : Int32)), .val (.int (1 : Int32)), .unset, .unset] [])) _
  refine Gk.iloadN X2 hx (hb hby d18_16) rfl ?_
  refine Gk.iloadN X2 hx (hb hby d18_17) rfl ?_
  refine Gk.isub X2 hx (hb hby d18_18) (1 : Int32) (by decide) ?_
  refine Gk.istore X2 hx (hb hby d18_19) #[.val (.ref a1), .val (.int (2 : Int32)), .val (.int (3 : Int32)), .val (.ref a4), .val (.int (0 : Int32)), .val (.int (1 : Int32)), .val (.int (1 : Int32)), .unset] rfl ?_
  refine Gk.iload X2 hx (hb hby d18_21) rfl ?_
  refine Gk.iload X2 hx (hb hby d18_23) rfl ?_
  refine Gk.isub X2 hx (hb hby d18_25) (1 : Int32) (by decide) ?_
  refine Gk.istore X2 hx (hb hby d18_26) #[.val (.ref a1), .val (.int (2 : Int32)), .val (.int (3 : Int32)), .val (.ref a4), .val (.int (0 : Int32)), .val (.int (1 : Int32)), .val (.int (1 : Int32)), .val (.int (1 : Int32))] rfl ?_
  refine Gk.iload X2 hx (hb hby d18_28) rfl ?_
  refine Gk.iload X2 hx (hb hby d18_30) rfl ?_
  refine Gk.icmpYes X2 hx (hb hby d18_32) (teq (by decide : (1 : Int32) = (1 : Int32))).1 37 (by decide) (by decide) ?_
  refine Gk.aloadN X2 hx (hb hby d18_37) rfl rfl ?_
  refine Gk.iloadN X2 hx (hb hby d18_38) rfl ?_
  refine Gk.aloadN X2 hx (hb hby d18_39) rfl rfl ?_
  refine Gk.iload X2 hx (hb hby d18_40) rfl ?_
  refine Gk.iload X2 hx (hb hby d18_42) rfl ?_
  refine Gk.callS (argsL := [(.ref a1), (.int (2 : Int32)), (.ref a4), (.int (0 : Int32)), (.int (1 : Int32))]) X2 hx hZ hown (rm19_2 l Z a0 hw [] a1 a4 kx fx kt ft h0 n0 Z0 V_x hx_ V_t ht0) (hw _ (List.mem_of_getElem? (i := 130) rfl)) (hw _ (List.mem_of_getElem? (i := 131) rfl)) (hw _ (List.mem_of_getElem? (i := 132) rfl)) (hw _ (List.mem_of_getElem? (i := 133) rfl)) (by decide) e2 pd_5 rfl rfl (by decide) (Nat.le_of_ble_eq_true rfl) (by decide) (by decide) (by rw [hml]; rfl)  rfl (hb hby d18_44) ?_
  intro T3 L3 v3 X3 hQ3
  obtain ⟨rfl, N3q, e3⟩ := hQ3
  have N3 := Fr.app N2 N3q
  show Go p e below (T3.setTop (mkF m 47 #[.val (.ref a1), .val (.int (2 : Int32)), .val (.int (3 : Int32)), .val (.ref a4), .val (.int (0 : Int32)), .val (.int (1 : Int32)), .val (.int (1 : Int32)), .val (.int (1 : Int32))] [(.int (-1 : Int32))])) _
  refine Gk.ifNo X3 hx (hb hby d18_47) (tlt (by decide : (-1 : Int32) < (0 : Int32))).2.1 ?_
  refine Gk.iconst X3 hx (hb hby d18_50) (1 : Int32) rfl ?_
  refine Gk.goto X3 hx (hb hby d18_51) 55 (by decide) (by decide) ?_
  refine Go.fin X3 (v := some (.int (1 : Int32))) (fun h_ => by rw [Bd.returns] at h_; cases h_) Bd.notSynchronized (fun _ hr => retN X3 hx (t := .boolean) Bd.returns (by simp) (hb hby d18_55) hr) (fun U' hU hF => ⟨_, _, rfl, ?_, hF.1, hF.2.1, hF.2.2.mono (by decide) (by decide)⟩)
  rw [hU, e3]
  exact ⟨(congrArg (fun z_ : Int32 => some (Value.int z_)) (show (1 : Int32) = (1 : Int32) from rfl)), N3, rfl⟩
theorem ef_rm11f_2 (m : MethodId) (a1 : Addr) (a2 : Addr) : entryFrame m #[(.ref a1), (.ref a2), (.int (-1023800488 : Int32))] 6 = mkF m 0 #[.val (.ref a1), .val (.ref a2), .val (.int (-1023800488 : Int32)), .unset, .unset, .unset] [] := by first | (simp [entryFrame, mkF, argsToLocals, Value.category]; done) | rfl
def Q_rm11f_2 (Z : State) (a1 : Addr) (a2 : Addr) (xs : Addr) (ks : ClassId) (fs : Nat → Value) (xh : Addr) (kh : ClassId) (fh : Nat → Value) (xx : Addr) (kx : ClassId) (fx : Nat → Value) (kt : ClassId) (ft : Nat → Value) (h0 : Heap) (n0 : Nat) (v : Option Value) (h : Heap) (L : List Loc) : Prop := v = some (.int (2 : Int32)) ∧ Fr n0 L ∧ h = h0
set_option maxRecDepth 65536 in
set_option maxHeartbeats 40000000 in
theorem rm11f_2 (l : Launch) (Z : State) (a0 : Array Value) (hw : ∀ d ∈ tables_1, d.before a0 Z = true) (ws : List Jvm.Cond) (a1 : Addr) (a2 : Addr) (xs : Addr) (ks : ClassId) (fs : Nat → Value) (xh : Addr) (kh : ClassId) (fh : Nat → Value) (xx : Addr) (kx : ClassId) (fx : Nat → Value) (kt : ClassId) (ft : Nat → Value) (h0 : Heap) (n0 : Nat) (Z0 : n0 ≤ h0.size) (V_s : Arf Z h0 xs ks .int (32 : Int32) fs) (V_h : Arf Z h0 xh kh .int (16 : Int32) fh) (V_x : Arf Z h0 xx kx .int (64 : Int32) fx) (hx_ : fx 2 = (.int (2 : Int32))) (V_t : Arf Z h0 a2 kt .int (1 : Int32) ft) (ht0 : ft 0 = (.int (2 : Int32))) (hs_ : fs 24 = (.int (3 : Int32))) (hh_ : fh 2 = (.int (-1023800488 : Int32))) (F_slots : Fld Z h0 a1 "com/example/tracewarden/tracewarden/engine/SearchTuples" "slots" "[I" (.ref xs)) (F_hashes : Fld Z h0 a1 "com/example/tracewarden/tracewarden/engine/SearchTuples" "hashes" "[I" (.ref xh)) (F_states : Fld Z h0 a1 "com/example/tracewarden/tracewarden/engine/SearchTuples" "states" "[I" (.ref xx)) (F_width : Fld Z h0 a1 "com/example/tracewarden/tracewarden/engine/SearchTuples" "width" "I" (.int (1 : Int32))) :
    MetFree l (⟨"com/example/tracewarden/tracewarden/engine/SearchTuples", "latest", "([II)I"⟩ : MethodName) (head1 (Jvm.Cond.code (⟨"com/example/tracewarden/tracewarden/engine/SearchTuples", "latest", "([II)I"⟩ : MethodName) prog_86_method_18_code 6 (some .int) :: ws) ({ frames := 2, cells := 0, slots := 0, locals := 38 } : Room)) (fun a U => a = #[(.ref a1), (.ref a2), (.int (-1023800488 : Int32))] ∧ Z.Warmed39 U.vm ∧ U.heap = h0) (fun _ _ _ _ _ => True) (fun _ U o U' => ∃ v L, o = .returned v ∧ Q_rm11f_2 Z a1 a2 xs ks fs xh kh fh xx kx fx kt ft h0 n0 v U'.heap L ∧ FrameEnd U o U' L ({ frames := 2, cells := 0, slots := 0, locals := 38 } : Room).cells ({ frames := 2, cells := 0, slots := 0, locals := 38 } : Room).slots) := by
  refine MetFree.of_bodySF (plainFor_of_name pn_81) hisR ?_
  intro p e s m args below meth c s₁ Bd hml0 hP hK
  obtain ⟨rfl, hZ, hh⟩ := hP
  have hx := Bd.exec
  have hby := Bd.bytes
  have hml : c.maxLocals = 6 := hml0
  have hown : s.vm.findClass "com/example/tracewarden/tracewarden/engine/SearchTuples" = some m.cls := findClass_of_methodNamed Bd.named
  have hnm := (name_of_methodNamed Bd.named Bd.method).1
  have X0 : Stand p l e ({ frames := 2, cells := 0, slots := 0, locals := 38 } : Room) s m #[(.ref a1), (.ref a2), (.int (-1023800488 : Int32))] below meth c s₁ [] 0 0 := Stand.of_body Bd
  have e0 : s₁.heap = h0 := by rw [← hh, Bd.state]; rfl
  have N0 := Fr.nil n0
  show Go p e below (s₁.setTop (entryFrame m #[(.ref a1), (.ref a2), (.int (-1023800488 : Int32))] 6)) (fun o U' => ∃ v L, o = .returned v ∧ Q_rm11f_2 Z a1 a2 xs ks fs xh kh fh xx kx fx kt ft h0 n0 v U'.heap L ∧ FrameEnd s o U' L ({ frames := 2, cells := 0, slots := 0, locals := 38 } : Room).cells ({ frames := 2, cells := 0, slots := 0, locals := 38 } : Room).slots)
  rw [ef_rm11f_2]
  refine Gk.aloadN X0 hx (hb hby d11_0) rfl rfl ?_
  refine Gk.getF X0 hx hZ hown (host := "") (Or.inl (hw _ (List.mem_of_getElem? (i := 42) rfl))) Via.refl e0 F_slots (hb hby d11_1) ?_
  intro T1 X1 e1
  refine Gk.alen X1 hx hZ e1 V_s (hb hby d11_4) ?_
  refine Gk.iconst X1 hx (hb hby d11_5) (1 : Int32) rfl ?_
  refine Gk.isub X1 hx (hb hby d11_6) (31 : Int32) (by decide) ?_
  refine Gk.istoreN X1 hx (hb hby d11_7) #[.val (.ref a1), .val (.ref a2), .val (.int (-1023800488 : Int32)), .val (.int (31 : Int32)), .unset, .unset] rfl ?_
  refine Gk.iloadN X1 hx (hb hby d11_8) rfl ?_
  refine Gk.iloadN X1 hx (hb hby d11_9) rfl ?_
  refine Gk.iand X1 hx (hb hby d11_10) (24 : Int32) (by decide) ?_
  refine Gk.istore X1 hx (hb hby d11_11) #[.val (.ref a1), .val (.ref a2), .val (.int (-1023800488 : Int32)), .val (.int (31 : Int32)), .val (.int (24 : Int32)), .unset] rfl ?_
  refine Gk.aloadN X1 hx (hb hby d11_13) rfl rfl ?_
  refine Gk.getF X1 hx hZ hown (host := "") (Or.inl (hw _ (List.mem_of_getElem? (i := 42) rfl))) Via.refl e1 F_slots (hb hby d11_14) ?_
  intro T2 X2 e2
  refine Gk.iload X2 hx (hb hby d11_17) rfl ?_
  refine Gk.iaload X2 hx hZ e2 V_s ⟨by decide, by decide⟩ (.int (3 : Int32)) hs_ (hb hby d11_19) ?_
  refine Gk.ifNo X2 hx (hb hby d11_20) (feq (by decide : ¬ ((3 : Int32) = (0 : Int32)))).1 ?_
  refine Gk.aloadN X2 hx (hb hby d11_23) rfl rfl ?_
  refine Gk.getF X2 hx hZ hown (host := "") (Or.inl (hw _ (List.mem_of_getElem? (i := 42) rfl))) Via.refl e2 F_slots (hb hby d11_24) ?_
  intro T4 X4 e4
  refine Gk.iload X4 hx (hb hby d11_27) rfl ?_
  refine Gk.iaload X4 hx hZ e4 V_s ⟨by decide, by decide⟩ (.int (3 : Int32)) hs_ (hb hby d11_29) ?_
  refine Gk.iconst X4 hx (hb hby d11_30) (1 : Int32) rfl ?_
  refine Gk.isub X4 hx (hb hby d11_31) (2 : Int32) (by decide) ?_
  refine Gk.istore X4 hx (hb hby d11_32) #[.val (.ref a1), .val (.ref a2), .val (.int (-1023800488 : Int32)), .val (.int (31 : Int32)), .val (.int (24 : Int32)), .val (.int (2 : Int32))] rfl ?_
  refine Gk.aloadN X4 hx (hb hby d11_34) rfl rfl ?_
  refine Gk.getF X4 hx hZ hown (host := "") (Or.inl (hw _ (List.mem_of_getElem? (i := 23) rfl))) Via.refl e4 F_hashes (hb hby d11_35) ?_
  intro T6 X6 e6
  refine Gk.iload X6 hx (hb hby d11_38) rfl ?_
  refine Gk.iaload X6 hx hZ e6 V_h ⟨by decide, by decide⟩ (.int (-1023800488 : Int32)) hh_ (hb hby d11_40) ?_
  refine Gk.iloadN X6 hx (hb hby d11_41) rfl ?_
  refine Gk.icmpNo X6 hx (hb hby d11_42) (teq (by decide : (-1023800488 : Int32) = (-1023800488 : Int32))).2 ?_
  refine Gk.aloadN X6 hx (hb hby d11_45) rfl rfl ?_
  refine Gk.getF X6 hx hZ hown (host := "") (Or.inl (hw _ (List.mem_of_getElem? (i := 21) rfl))) Via.refl e6 F_states (hb hby d11_46) ?_
  intro T8 X8 e8
  refine Gk.iload X8 hx (hb hby d11_49) rfl ?_
  refine Gk.aloadN X8 hx (hb hby d11_51) rfl rfl ?_
  refine Gk.getF X8 hx hZ hown (host := "") (Or.inl (hw _ (List.mem_of_getElem? (i := 46) rfl))) Via.refl e8 F_width (hb hby d11_52) ?_
  intro T9 X9 e9
  refine Gk.imul X9 hx (hb hby d11_55) (2 : Int32) (by decide) ?_
  refine Gk.iload X9 hx (hb hby d11_56) rfl ?_
  refine Gk.iconst X9 hx (hb hby d11_58) (1 : Int32) rfl ?_
  refine Gk.iadd X9 hx (hb hby d11_59) (3 : Int32) (by decide) ?_
  refine Gk.aloadN X9 hx (hb hby d11_60) rfl rfl ?_
  refine Gk.getF X9 hx hZ hown (host := "") (Or.inl (hw _ (List.mem_of_getElem? (i := 46) rfl))) Via.refl e9 F_width (hb hby d11_61) ?_
  intro T10 X10 e10
  refine Gk.imul X10 hx (hb hby d11_64) (3 : Int32) (by decide) ?_
  refine Gk.aloadN X10 hx (hb hby d11_65) rfl rfl ?_
  refine Gk.iconst X10 hx (hb hby d11_66) (0 : Int32) rfl ?_
  refine Gk.aloadN X10 hx (hb hby d11_67) rfl rfl ?_
  refine Gk.getF X10 hx hZ hown (host := "") (Or.inl (hw _ (List.mem_of_getElem? (i := 46) rfl))) Via.refl e10 F_width (hb hby d11_68) ?_
  intro T11 X11 e11
  refine Gk.callS (argsL := [(.ref xx), (.int (2 : Int32)), (.int (3 : Int32)), (.ref a2), (.int (0 : Int32)), (.int (1 : Int32))]) X11 hx hZ hown (rm18_2 l Z a0 hw [] xx a2 kx fx kt ft h0 n0 Z0 V_x hx_ V_t ht0) (hw _ (List.mem_of_getElem? (i := 127) rfl)) (hw _ (List.mem_of_getElem? (i := 128) rfl)) (hw _ (List.mem_of_getElem? (i := 65) rfl)) (hw _ (List.mem_of_getElem? (i := 129) rfl)) (by decide) e11 pd_6 rfl rfl (by decide) (Nat.le_of_ble_eq_true rfl) (by decide) (by decide) (by rw [hml]; rfl)  rfl (hb hby d11_71) ?_
  intro T12 L12 v12 X12 hQ12
  obtain ⟨rfl, N12q, e12⟩ := hQ12
  have N12 := Fr.app N0 N12q
  show Go p e below (T12.setTop (mkF m 74 #[.val (.ref a1), .val (.ref a2), .val (.int (-1023800488 : Int32)), .val (.int (31 : Int32)), .val (.int (24 : Int32)), .val (.int (2 : Int32))] [(.int (1 : Int32))])) _
  refine Gk.ifNo X12 hx (hb hby d11_74) (feq (by decide : ¬ ((1 : Int32) = (0 : Int32)))).1 ?_
  refine Gk.iload X12 hx (hb hby d11_77) rfl ?_
  refine Go.fin X12 (v := some (.int (2 : Int32))) (fun h_ => by rw [Bd.returns] at h_; cases h_) Bd.notSynchronized (fun _ hr => retOut X12 hx Bd.returns rfl (Or.inl ⟨rfl, Or.inl rfl, _, rfl⟩) (hb hby d11_79) hr) (fun U' hU hF => ⟨_, _, rfl, ?_, hF.1, hF.2.1, hF.2.2.mono (by decide) (by decide)⟩)
  rw [hU, e12]
  exact ⟨(congrArg (fun z_ : Int32 => some (Value.int z_)) (show (2 : Int32) = (2 : Int32) from rfl)), N12, rfl⟩
theorem ef_rm12_2 (m : MethodId) (a1 : Addr) : entryFrame m #[(.ref a1), (.int (2 : Int32)), .null] 4 = mkF m 0 #[.val (.ref a1), .val (.int (2 : Int32)), .val .null, .unset] [] := by first | (simp [entryFrame, mkF, argsToLocals, Value.category]; done) | rfl
def Q_rm12_2 (Z : State) (a1 : Addr) (xh : Addr) (kh : ClassId) (xm : Addr) (km : ClassId) (fm : Nat → Value) (h0 : Heap) (n0 : Nat) (v : Option Value) (h : Heap) (L : List Loc) : Prop := v = none ∧ Fr n0 L ∧ Keep h0 h [xh] ∧ Arf Z h xh kh .boolean (16 : Int32) (upd (fun _ => .int (0 : Int32)) 2 (.int (1 : Int32)))
set_option maxRecDepth 65536 in
set_option maxHeartbeats 40000000 in
theorem rm12_2 (l : Launch) (Z : State) (a0 : Array Value) (hw : ∀ d ∈ tables_1, d.before a0 Z = true) (ws : List Jvm.Cond) (a1 : Addr) (xh : Addr) (kh : ClassId) (xm : Addr) (km : ClassId) (fm : Nat → Value) (h0 : Heap) (n0 : Nat) (Z0 : n0 ≤ h0.size) (V_h : Arf Z h0 xh kh .boolean (16 : Int32) (fun _ => .int (0 : Int32))) (V_m : Arf Z h0 xm km .int (16 : Int32) fm) (hm_ : fm 2 = (.int (-1 : Int32))) (F_held : Fld Z h0 a1 "com/example/tracewarden/tracewarden/engine/SearchTuples" "held" "[Z" (.ref xh)) (F_sameStates : Fld Z h0 a1 "com/example/tracewarden/tracewarden/engine/SearchTuples" "sameStates" "[I" (.ref xm)) (ne_hm : xh ≠ xm) (ne_ah : a1 ≠ xh) (g_xh : n0 ≤ xh) :
    MetFree l (⟨"com/example/tracewarden/tracewarden/engine/SearchTuples", "passOver", "(ILcom/example/tracewarden/tracewarden/engine/Zone;)V"⟩ : MethodName) (head1 (Jvm.Cond.code (⟨"com/example/tracewarden/tracewarden/engine/SearchTuples", "passOver", "(ILcom/example/tracewarden/tracewarden/engine/Zone;)V"⟩ : MethodName) prog_86_method_15_code 4 none :: ws) ({ frames := 0, cells := 0, slots := 0, locals := 0 } : Room)) (fun a U => a = #[(.ref a1), (.int (2 : Int32)), .null] ∧ Z.Warmed39 U.vm ∧ U.heap = h0) (fun _ _ _ _ _ => True) (fun _ U o U' => ∃ v L, o = .returned v ∧ Q_rm12_2 Z a1 xh kh xm km fm h0 n0 v U'.heap L ∧ FrameEnd U o U' L ({ frames := 0, cells := 0, slots := 0, locals := 0 } : Room).cells ({ frames := 0, cells := 0, slots := 0, locals := 0 } : Room).slots) := by
  refine MetFree.of_bodySF (plainFor_of_name pn_81) hisR ?_
  intro p e s m args below meth c s₁ Bd hml0 hP hK
  obtain ⟨rfl, hZ, hh⟩ := hP
  have hx := Bd.exec
  have hby := Bd.bytes
  have hml : c.maxLocals = 4 := hml0
  have hown : s.vm.findClass "com/example/tracewarden/tracewarden/engine/SearchTuples" = some m.cls := findClass_of_methodNamed Bd.named
  have hnm := (name_of_methodNamed Bd.named Bd.method).1
  have X0 : Stand p l e ({ frames := 0, cells := 0, slots := 0, locals := 0 } : Room) s m #[(.ref a1), (.int (2 : Int32)), .null] below meth c s₁ [] 0 0 := Stand.of_body Bd
  have e0 : s₁.heap = h0 := by rw [← hh, Bd.state]; rfl
  have N0 := Fr.nil n0
  show Go p e below (s₁.setTop (entryFrame m #[(.ref a1), (.int (2 : Int32)), .null] 4)) (fun o U' => ∃ v L, o = .returned v ∧ Q_rm12_2 Z a1 xh kh xm km fm h0 n0 v U'.heap L ∧ FrameEnd s o U' L ({ frames := 0, cells := 0, slots := 0, locals := 0 } : Room).cells ({ frames := 0, cells := 0, slots := 0, locals := 0 } : Room).slots)
  rw [ef_rm12_2]
  refine Gk.iloadN X0 hx (hb hby d12_0) rfl ?_
  refine Gk.istoreN X0 hx (hb hby d12_1) #[.val (.ref a1), .val (.int (2 : Int32)), .val .null, .val (.int (2 : Int32))] rfl ?_
  refine Gk.iloadN X0 hx (hb hby d12_2) rfl ?_
  refine Gk.ifNo X0 hx (hb hby d12_3) (flt (by decide : ¬ ((2 : Int32) < (0 : Int32)))).1 ?_
  refine Gk.aloadN X0 hx (hb hby d12_6) rfl rfl ?_
  refine Gk.getF X0 hx hZ hown (host := "") (Or.inl (hw _ (List.mem_of_getElem? (i := 32) rfl))) Via.refl e0 F_held (hb hby d12_7) ?_
  intro T1 X1 e1
  refine Gk.iloadN X1 hx (hb hby d12_10) rfl ?_
  refine Gk.dup2 X1 hx (hb hby d12_11) rfl rfl ?_
  refine Gk.baloadZ X1 hx hZ e1 V_h ⟨by decide, by decide⟩ (.int (0 : Int32)) rfl (hb hby d12_12) ?_
  refine Gk.aloadN X1 hx (hb hby d12_13) rfl rfl ?_
  refine Gk.ifnullYes X1 hx (hb hby d12_14) 30 (by decide) (by decide) ?_
  refine Gk.iconst X1 hx (hb hby d12_30) (1 : Int32) rfl ?_
  refine Gk.goto X1 hx (hb hby d12_31) 35 (by decide) (by decide) ?_
  refine Gk.ior X1 hx (hb hby d12_35) (1 : Int32) (by decide) ?_
  refine Gk.bastoreZ X1 hx hZ e1 V_h 2 rfl ⟨by decide, by decide⟩ (.int (1 : Int32)) rfl (hb hby d12_36) ?_
  intro T3 h3 X3 e3 W3 V3
  have N3 := Fr.snoc X3 N0 g_xh
  refine Gk.aloadN X3 hx (hb hby d12_37) rfl rfl ?_
  have H4 := (F_sameStates.other W3 (Or.inl ne_ah))
  refine Gk.getF X3 hx hZ hown (host := "") (Or.inl (hw _ (List.mem_of_getElem? (i := 29) rfl))) Via.refl e3 H4 (hb hby d12_38) ?_
  intro T5 X5 e5
  refine Gk.iloadN X5 hx (hb hby d12_41) rfl ?_
  have H7 := (V_m.other W3 (Ne.symm ne_hm))
  refine Gk.iaload X5 hx hZ e5 H7 ⟨by decide, by decide⟩ (.int (-1 : Int32)) hm_ (hb hby d12_42) ?_
  refine Gk.istoreN X5 hx (hb hby d12_43) #[.val (.ref a1), .val (.int (2 : Int32)), .val .null, .val (.int (-1 : Int32))] rfl ?_
  refine Gk.goto X5 hx (hb hby d12_44) 2 (by decide) (by decide) ?_
  refine Gk.iloadN X5 hx (hb hby d12_2) rfl ?_
  refine Gk.ifYes X5 hx (hb hby d12_3) (tlt (by decide : (-1 : Int32) < (0 : Int32))).1 47 (by decide) (by decide) ?_
  refine Go.fin X5 (v := none) (fun _ => rfl) Bd.notSynchronized (fun _ hr => X5.returnOut hx Bd.returns (hb hby d12_47) hr) (fun U' hU hF => ⟨_, _, rfl, ?_, hF.1, hF.2.1, hF.2.2.mono (by decide) (by decide)⟩)
  rw [hU, e5]
  exact ⟨rfl, N3, ((Keep.refl h0 [xh]).wr W3 (Or.inl (List.mem_of_getElem? (i := 0) rfl))), V3⟩
theorem pd_7 : parseMethodDescriptor "([I)I" = some ⟨[(.array .int)], some .int⟩ := by decide +kernel
theorem pd_8 : parseMethodDescriptor "([II)I" = some ⟨[(.array .int), .int], some .int⟩ := by decide +kernel
theorem pd_9 : parseMethodDescriptor "(ILcom/example/tracewarden/tracewarden/engine/Zone;)V" = some ⟨[.int, (.object "com/example/tracewarden/tracewarden/engine/Zone")], none⟩ := by decide +kernel
theorem d14_0 : decode prog_86_method_14_code 0 = .ok (.aload_n 0, 1) := by decide +kernel
theorem d14_1 : decode prog_86_method_14_code 1 = .ok (.aload_n 0, 1) := by decide +kernel
theorem d14_2 : decode prog_86_method_14_code 2 = .ok (.aload_n 1, 1) := by decide +kernel
theorem d14_3 : decode prog_86_method_14_code 3 = .ok (.aload_n 0, 1) := by decide +kernel
theorem d14_4 : decode prog_86_method_14_code 4 = .ok (.aload_n 1, 1) := by decide +kernel
theorem d14_5 : decode prog_86_method_14_code 5 = .ok (.invokevirtual 115, 3) := by decide +kernel
theorem d14_8 : decode prog_86_method_14_code 8 = .ok (.invokevirtual 107, 3) := by decide +kernel
theorem d14_11 : decode prog_86_method_14_code 11 = .ok (.aload_n 2, 1) := by decide +kernel
theorem d14_12 : decode prog_86_method_14_code 12 = .ok (.invokevirtual 118, 3) := by decide +kernel
theorem d14_15 : decode prog_86_method_14_code 15 = .ok (.return_, 1) := by decide +kernel
theorem ef_rm14 (m : MethodId) (a1 : Addr) (a2 : Addr) : entryFrame m #[(.ref a1), (.ref a2), .null] 3 = mkF m 0 #[.val (.ref a1), .val (.ref a2), .val .null] [] := by first | (simp [entryFrame, mkF, argsToLocals, Value.category]; done) | rfl
def Q_rm14 (Z : State) (a1 : Addr) (a2 : Addr) (hk : Int32) (kt : ClassId) (ft : Nat → Value) (xs : Addr) (ks : ClassId) (fs : Nat → Value) (xh : Addr) (kh : ClassId) (fh : Nat → Value) (xx : Addr) (kx : ClassId) (fx : Nat → Value) (xl : Addr) (kl : ClassId) (xm : Addr) (km : ClassId) (fm : Nat → Value) (h0 : Heap) (n0 : Nat) (v : Option Value) (h : Heap) (L : List Loc) : Prop := v = none ∧ Fr n0 L ∧ Keep h0 h [xl] ∧ Arf Z h xl kl .boolean (16 : Int32) (fun j => .int (Hh hk j))
set_option maxRecDepth 65536 in
set_option maxHeartbeats 40000000 in
theorem rm14 (l : Launch) (Z : State) (a0 : Array Value) (hw : ∀ d ∈ tables_1, d.before a0 Z = true) (ws : List Jvm.Cond) (a1 : Addr) (a2 : Addr) (hk : Int32) (kt : ClassId) (ft : Nat → Value) (xs : Addr) (ks : ClassId) (fs : Nat → Value) (xh : Addr) (kh : ClassId) (fh : Nat → Value) (xx : Addr) (kx : ClassId) (fx : Nat → Value) (xl : Addr) (kl : ClassId) (xm : Addr) (km : ClassId) (fm : Nat → Value) (h0 : Heap) (n0 : Nat) (Z0 : n0 ≤ h0.size) (V_t : Arf Z h0 a2 kt .int (1 : Int32) ft) (ht0 : ft 0 = (.int hk)) (h4 : hk = (0 : Int32) ∨ hk = (1 : Int32) ∨ hk = (2 : Int32) ∨ hk = (3 : Int32)) (V_s : Arf Z h0 xs ks .int (32 : Int32) fs) (V_h : Arf Z h0 xh kh .int (16 : Int32) fh) (V_x : Arf Z h0 xx kx .int (64 : Int32) fx) (V_l : Arf Z h0 xl kl .boolean (16 : Int32) (fun _ => .int (0 : Int32))) (V_m : Arf Z h0 xm km .int (16 : Int32) fm) (E_a1 : Exa Z h0 a1 "com/example/tracewarden/tracewarden/engine/SearchTuples") (hs0 : fs 0 = (.int (1 : Int32))) (hs1 : fs 12 = (.int (2 : Int32))) (hs2 : fs 24 = (.int (3 : Int32))) (hs3 : fs 19 = (.int (0 : Int32))) (hh0 : fh 0 = (.int (0 : Int32))) (hh1 : fh 1 = (.int (-511900244 : Int32))) (hh2 : fh 2 = (.int (-1023800488 : Int32))) (hx0 : fx 0 = (.int (0 : Int32))) (hx1 : fx 1 = (.int (1 : Int32))) (hx2 : fx 2 = (.int (2 : Int32))) (hm0 : fm 0 = (.int (-1 : Int32))) (hm1 : fm 1 = (.int (-1 : Int32))) (hm2 : fm 2 = (.int (-1 : Int32))) (F_slots : Fld Z h0 a1 "com/example/tracewarden/tracewarden/engine/SearchTuples" "slots" "[I" (.ref xs)) (F_hashes : Fld Z h0 a1 "com/example/tracewarden/tracewarden/engine/SearchTuples" "hashes" "[I" (.ref xh)) (F_states : Fld Z h0 a1 "com/example/tracewarden/tracewarden/engine/SearchTuples" "states" "[I" (.ref xx)) (F_width : Fld Z h0 a1 "com/example/tracewarden/tracewarden/engine/SearchTuples" "width" "I" (.int (1 : Int32))) (F_held : Fld Z h0 a1 "com/example/tracewarden/tracewarden/engine/SearchTuples" "held" "[Z" (.ref xl)) (F_sameStates : Fld Z h0 a1 "com/example/tracewarden/tracewarden/engine/SearchTuples" "sameStates" "[I" (.ref xm)) (ne_hm : xl ≠ xm) (ne_ah : a1 ≠ xl) (g_xl : n0 ≤ xl) :
    MetFree l (⟨"com/example/tracewarden/tracewarden/engine/SearchTuples", "passOver", "([ILcom/example/tracewarden/tracewarden/engine/Zone;)V"⟩ : MethodName) (head1 (Jvm.Cond.code (⟨"com/example/tracewarden/tracewarden/engine/SearchTuples", "passOver", "([ILcom/example/tracewarden/tracewarden/engine/Zone;)V"⟩ : MethodName) prog_86_method_14_code 3 none :: ws) ({ frames := 3, cells := 0, slots := 0, locals := 56 } : Room)) (fun a U => a = #[(.ref a1), (.ref a2), .null] ∧ Z.Warmed39 U.vm ∧ U.heap = h0) (fun _ _ _ _ _ => True) (fun _ U o U' => ∃ v L, o = .returned v ∧ Q_rm14 Z a1 a2 hk kt ft xs ks fs xh kh fh xx kx fx xl kl xm km fm h0 n0 v U'.heap L ∧ FrameEnd U o U' L ({ frames := 3, cells := 0, slots := 0, locals := 56 } : Room).cells ({ frames := 3, cells := 0, slots := 0, locals := 56 } : Room).slots) := by
  refine MetFree.of_bodySF (plainFor_of_name pn_81) hisR ?_
  intro p e s m args below meth c s₁ Bd hml0 hP hK
  obtain ⟨rfl, hZ, hh⟩ := hP
  have hx := Bd.exec
  have hby := Bd.bytes
  have hml : c.maxLocals = 3 := hml0
  have hown : s.vm.findClass "com/example/tracewarden/tracewarden/engine/SearchTuples" = some m.cls := findClass_of_methodNamed Bd.named
  have hnm := (name_of_methodNamed Bd.named Bd.method).1
  have X0 : Stand p l e ({ frames := 3, cells := 0, slots := 0, locals := 56 } : Room) s m #[(.ref a1), (.ref a2), .null] below meth c s₁ [] 0 0 := Stand.of_body Bd
  have e0 : s₁.heap = h0 := by rw [← hh, Bd.state]; rfl
  have N0 := Fr.nil n0
  show Go p e below (s₁.setTop (entryFrame m #[(.ref a1), (.ref a2), .null] 3)) (fun o U' => ∃ v L, o = .returned v ∧ Q_rm14 Z a1 a2 hk kt ft xs ks fs xh kh fh xx kx fx xl kl xm km fm h0 n0 v U'.heap L ∧ FrameEnd s o U' L ({ frames := 3, cells := 0, slots := 0, locals := 56 } : Room).cells ({ frames := 3, cells := 0, slots := 0, locals := 56 } : Room).slots)
  rw [ef_rm14]
  rcases h4 with hk_ | hk_ | hk_ | hk_
  · subst hk_
    refine Gk.aloadN X0 hx (hb hby d14_0) rfl rfl ?_
    refine Gk.aloadN X0 hx (hb hby d14_1) rfl rfl ?_
    refine Gk.aloadN X0 hx (hb hby d14_2) rfl rfl ?_
    refine Gk.aloadN X0 hx (hb hby d14_3) rfl rfl ?_
    refine Gk.aloadN X0 hx (hb hby d14_4) rfl rfl ?_
    refine Gk.callV (argsL := [(.ref a2)]) X0 hx hZ hown (rm15_0 l Z a0 hw [] a1 a2 kt ft h0 n0 Z0 V_t ht0 F_width) (hw _ (List.mem_of_getElem? (i := 114) rfl)) (hw _ (List.mem_of_getElem? (i := 115) rfl)) (notFace_of_selects (args := #[]) (mvT hZ (hw _ (List.mem_of_getElem? (i := 117) rfl)))) (hw _ (List.mem_of_getElem? (i := 117) rfl)) (hw _ (List.mem_of_getElem? (i := 116) rfl)) (by decide) (hw _ (List.mem_of_getElem? (i := 118) rfl)) (hw _ (List.mem_of_getElem? (i := 4) rfl)) e0 E_a1 pd_7 rfl rfl (by decide) (Nat.le_of_ble_eq_true rfl) (by decide) (by decide) (by rw [hml]; rfl)  rfl (hb hby d14_5) ?_
    intro T1 L1 v1 X1 hQ1
    obtain ⟨rfl, N1q, e1⟩ := hQ1
    have N1 := Fr.app N0 N1q
    show Go p e below (T1.setTop (mkF m 8 #[.val (.ref a1), .val (.ref a2), .val .null] [(.int (0 : Int32)), (.ref a2), (.ref a1), (.ref a1)])) _
    refine Gk.callP (argsL := [(.ref a2), (.int (0 : Int32))]) X1 hx hZ hown (rm11f_0 l Z a0 hw [] a1 a2 xs ks fs xh kh fh xx kx fx kt ft h0 n0 Z0 V_s V_h V_x hx0 V_t ht0 hs0 hh0 F_slots F_hashes F_states F_width) (hw _ (List.mem_of_getElem? (i := 93) rfl)) (hw _ (List.mem_of_getElem? (i := 94) rfl)) (hw _ (List.mem_of_getElem? (i := 3) rfl)) (hw _ (List.mem_of_getElem? (i := 95) rfl)) (by decide) (hw _ (List.mem_of_getElem? (i := 96) rfl)) (hw _ (List.mem_of_getElem? (i := 4) rfl)) e1 E_a1 pd_8 rfl rfl (by decide) (Nat.le_of_ble_eq_true rfl) (by decide) (by decide) (by rw [hml]; rfl)  rfl (hb hby d14_8) ?_
    intro T2 L2 v2 X2 hQ2
    obtain ⟨rfl, N2q, e2⟩ := hQ2
    have N2 := Fr.app N1 N2q
    show Go p e below (T2.setTop (mkF m 11 #[.val (.ref a1), .val (.ref a2), .val .null] [(.int (0 : Int32)), (.ref a1)])) _
    refine Gk.aloadN X2 hx (hb hby d14_11) rfl rfl ?_
    refine Gk.callP (argsL := [(.int (0 : Int32)), .null]) X2 hx hZ hown (rm12_0 l Z a0 hw [] a1 xl kl xm km fm h0 n0 Z0 V_l V_m hm0 F_held F_sameStates ne_hm ne_ah g_xl) (hw _ (List.mem_of_getElem? (i := 97) rfl)) (hw _ (List.mem_of_getElem? (i := 98) rfl)) (hw _ (List.mem_of_getElem? (i := 3) rfl)) (hw _ (List.mem_of_getElem? (i := 99) rfl)) (by decide) (hw _ (List.mem_of_getElem? (i := 100) rfl)) (hw _ (List.mem_of_getElem? (i := 4) rfl)) e2 E_a1 pd_9 rfl rfl (by decide) (Nat.le_of_ble_eq_true rfl) (by decide) (by decide) (by rw [hml]; rfl)  rfl (hb hby d14_12) ?_
    intro T3 L3 v3 X3 hQ3
    obtain ⟨rfl, N3q, K3, Vp3⟩ := hQ3
    have N3 := Fr.app N2 N3q
    show Go p e below (T3.setTop (mkF m 15 #[.val (.ref a1), .val (.ref a2), .val .null] [])) _
    refine Go.fin X3 (v := none) (fun _ => rfl) Bd.notSynchronized (fun _ hr => X3.returnOut hx Bd.returns (hb hby d14_15) hr) (fun U' hU hF => ⟨_, _, rfl, ?_, hF.1, hF.2.1, hF.2.2.mono (by decide) (by decide)⟩)
    rw [hU]
    exact ⟨rfl, N3, ((Keep.refl h0 [xl]).trans K3 (allS (Or.inl (List.mem_of_getElem? (i := 0) rfl)) all0)), (Vp3.same fun j_ _ => own_H0 j_)⟩
  · subst hk_
    refine Gk.aloadN X0 hx (hb hby d14_0) rfl rfl ?_
    refine Gk.aloadN X0 hx (hb hby d14_1) rfl rfl ?_
    refine Gk.aloadN X0 hx (hb hby d14_2) rfl rfl ?_
    refine Gk.aloadN X0 hx (hb hby d14_3) rfl rfl ?_
    refine Gk.aloadN X0 hx (hb hby d14_4) rfl rfl ?_
    refine Gk.callV (argsL := [(.ref a2)]) X0 hx hZ hown (rm15_1 l Z a0 hw [] a1 a2 kt ft h0 n0 Z0 V_t ht0 F_width) (hw _ (List.mem_of_getElem? (i := 114) rfl)) (hw _ (List.mem_of_getElem? (i := 115) rfl)) (notFace_of_selects (args := #[]) (mvT hZ (hw _ (List.mem_of_getElem? (i := 117) rfl)))) (hw _ (List.mem_of_getElem? (i := 117) rfl)) (hw _ (List.mem_of_getElem? (i := 116) rfl)) (by decide) (hw _ (List.mem_of_getElem? (i := 118) rfl)) (hw _ (List.mem_of_getElem? (i := 4) rfl)) e0 E_a1 pd_7 rfl rfl (by decide) (Nat.le_of_ble_eq_true rfl) (by decide) (by decide) (by rw [hml]; rfl)  rfl (hb hby d14_5) ?_
    intro T4 L4 v4 X4 hQ4
    obtain ⟨rfl, N4q, e4⟩ := hQ4
    have N4 := Fr.app N0 N4q
    show Go p e below (T4.setTop (mkF m 8 #[.val (.ref a1), .val (.ref a2), .val .null] [(.int (-511900244 : Int32)), (.ref a2), (.ref a1), (.ref a1)])) _
    refine Gk.callP (argsL := [(.ref a2), (.int (-511900244 : Int32))]) X4 hx hZ hown (rm11f_1 l Z a0 hw [] a1 a2 xs ks fs xh kh fh xx kx fx kt ft h0 n0 Z0 V_s V_h V_x hx1 V_t ht0 hs1 hh1 F_slots F_hashes F_states F_width) (hw _ (List.mem_of_getElem? (i := 93) rfl)) (hw _ (List.mem_of_getElem? (i := 94) rfl)) (hw _ (List.mem_of_getElem? (i := 3) rfl)) (hw _ (List.mem_of_getElem? (i := 95) rfl)) (by decide) (hw _ (List.mem_of_getElem? (i := 96) rfl)) (hw _ (List.mem_of_getElem? (i := 4) rfl)) e4 E_a1 pd_8 rfl rfl (by decide) (Nat.le_of_ble_eq_true rfl) (by decide) (by decide) (by rw [hml]; rfl)  rfl (hb hby d14_8) ?_
    intro T5 L5 v5 X5 hQ5
    obtain ⟨rfl, N5q, e5⟩ := hQ5
    have N5 := Fr.app N4 N5q
    show Go p e below (T5.setTop (mkF m 11 #[.val (.ref a1), .val (.ref a2), .val .null] [(.int (1 : Int32)), (.ref a1)])) _
    refine Gk.aloadN X5 hx (hb hby d14_11) rfl rfl ?_
    refine Gk.callP (argsL := [(.int (1 : Int32)), .null]) X5 hx hZ hown (rm12_1 l Z a0 hw [] a1 xl kl xm km fm h0 n0 Z0 V_l V_m hm1 F_held F_sameStates ne_hm ne_ah g_xl) (hw _ (List.mem_of_getElem? (i := 97) rfl)) (hw _ (List.mem_of_getElem? (i := 98) rfl)) (hw _ (List.mem_of_getElem? (i := 3) rfl)) (hw _ (List.mem_of_getElem? (i := 99) rfl)) (by decide) (hw _ (List.mem_of_getElem? (i := 100) rfl)) (hw _ (List.mem_of_getElem? (i := 4) rfl)) e5 E_a1 pd_9 rfl rfl (by decide) (Nat.le_of_ble_eq_true rfl) (by decide) (by decide) (by rw [hml]; rfl)  rfl (hb hby d14_12) ?_
    intro T6 L6 v6 X6 hQ6
    obtain ⟨rfl, N6q, K6, Vp6⟩ := hQ6
    have N6 := Fr.app N5 N6q
    show Go p e below (T6.setTop (mkF m 15 #[.val (.ref a1), .val (.ref a2), .val .null] [])) _
    refine Go.fin X6 (v := none) (fun _ => rfl) Bd.notSynchronized (fun _ hr => X6.returnOut hx Bd.returns (hb hby d14_15) hr) (fun U' hU hF => ⟨_, _, rfl, ?_, hF.1, hF.2.1, hF.2.2.mono (by decide) (by decide)⟩)
    rw [hU]
    exact ⟨rfl, N6, ((Keep.refl h0 [xl]).trans K6 (allS (Or.inl (List.mem_of_getElem? (i := 0) rfl)) all0)), (Vp6.same fun j_ _ => own_H1 j_)⟩
  · subst hk_
    refine Gk.aloadN X0 hx (hb hby d14_0) rfl rfl ?_
    refine Gk.aloadN X0 hx (hb hby d14_1) rfl rfl ?_
    refine Gk.aloadN X0 hx (hb hby d14_2) rfl rfl ?_
    refine Gk.aloadN X0 hx (hb hby d14_3) rfl rfl ?_
    refine Gk.aloadN X0 hx (hb hby d14_4) rfl rfl ?_
    refine Gk.callV (argsL := [(.ref a2)]) X0 hx hZ hown (rm15_2 l Z a0 hw [] a1 a2 kt ft h0 n0 Z0 V_t ht0 F_width) (hw _ (List.mem_of_getElem? (i := 114) rfl)) (hw _ (List.mem_of_getElem? (i := 115) rfl)) (notFace_of_selects (args := #[]) (mvT hZ (hw _ (List.mem_of_getElem? (i := 117) rfl)))) (hw _ (List.mem_of_getElem? (i := 117) rfl)) (hw _ (List.mem_of_getElem? (i := 116) rfl)) (by decide) (hw _ (List.mem_of_getElem? (i := 118) rfl)) (hw _ (List.mem_of_getElem? (i := 4) rfl)) e0 E_a1 pd_7 rfl rfl (by decide) (Nat.le_of_ble_eq_true rfl) (by decide) (by decide) (by rw [hml]; rfl)  rfl (hb hby d14_5) ?_
    intro T7 L7 v7 X7 hQ7
    obtain ⟨rfl, N7q, e7⟩ := hQ7
    have N7 := Fr.app N0 N7q
    show Go p e below (T7.setTop (mkF m 8 #[.val (.ref a1), .val (.ref a2), .val .null] [(.int (-1023800488 : Int32)), (.ref a2), (.ref a1), (.ref a1)])) _
    refine Gk.callP (argsL := [(.ref a2), (.int (-1023800488 : Int32))]) X7 hx hZ hown (rm11f_2 l Z a0 hw [] a1 a2 xs ks fs xh kh fh xx kx fx kt ft h0 n0 Z0 V_s V_h V_x hx2 V_t ht0 hs2 hh2 F_slots F_hashes F_states F_width) (hw _ (List.mem_of_getElem? (i := 93) rfl)) (hw _ (List.mem_of_getElem? (i := 94) rfl)) (hw _ (List.mem_of_getElem? (i := 3) rfl)) (hw _ (List.mem_of_getElem? (i := 95) rfl)) (by decide) (hw _ (List.mem_of_getElem? (i := 96) rfl)) (hw _ (List.mem_of_getElem? (i := 4) rfl)) e7 E_a1 pd_8 rfl rfl (by decide) (Nat.le_of_ble_eq_true rfl) (by decide) (by decide) (by rw [hml]; rfl)  rfl (hb hby d14_8) ?_
    intro T8 L8 v8 X8 hQ8
    obtain ⟨rfl, N8q, e8⟩ := hQ8
    have N8 := Fr.app N7 N8q
    show Go p e below (T8.setTop (mkF m 11 #[.val (.ref a1), .val (.ref a2), .val .null] [(.int (2 : Int32)), (.ref a1)])) _
    refine Gk.aloadN X8 hx (hb hby d14_11) rfl rfl ?_
    refine Gk.callP (argsL := [(.int (2 : Int32)), .null]) X8 hx hZ hown (rm12_2 l Z a0 hw [] a1 xl kl xm km fm h0 n0 Z0 V_l V_m hm2 F_held F_sameStates ne_hm ne_ah g_xl) (hw _ (List.mem_of_getElem? (i := 97) rfl)) (hw _ (List.mem_of_getElem? (i := 98) rfl)) (hw _ (List.mem_of_getElem? (i := 3) rfl)) (hw _ (List.mem_of_getElem? (i := 99) rfl)) (by decide) (hw _ (List.mem_of_getElem? (i := 100) rfl)) (hw _ (List.mem_of_getElem? (i := 4) rfl)) e8 E_a1 pd_9 rfl rfl (by decide) (Nat.le_of_ble_eq_true rfl) (by decide) (by decide) (by rw [hml]; rfl)  rfl (hb hby d14_12) ?_
    intro T9 L9 v9 X9 hQ9
    obtain ⟨rfl, N9q, K9, Vp9⟩ := hQ9
    have N9 := Fr.app N8 N9q
    show Go p e below (T9.setTop (mkF m 15 #[.val (.ref a1), .val (.ref a2), .val .null] [])) _
    refine Go.fin X9 (v := none) (fun _ => rfl) Bd.notSynchronized (fun _ hr => X9.returnOut hx Bd.returns (hb hby d14_15) hr) (fun U' hU hF => ⟨_, _, rfl, ?_, hF.1, hF.2.1, hF.2.2.mono (by decide) (by decide)⟩)
    rw [hU]
    exact ⟨rfl, N9, ((Keep.refl h0 [xl]).trans K9 (allS (Or.inl (List.mem_of_getElem? (i := 0) rfl)) all0)), (Vp9.same fun j_ _ => own_H2 j_)⟩
  · subst hk_
    refine Gk.aloadN X0 hx (hb hby d14_0) rfl rfl ?_
    refine Gk.aloadN X0 hx (hb hby d14_1) rfl rfl ?_
    refine Gk.aloadN X0 hx (hb hby d14_2) rfl rfl ?_
    refine Gk.aloadN X0 hx (hb hby d14_3) rfl rfl ?_
    refine Gk.aloadN X0 hx (hb hby d14_4) rfl rfl ?_
    refine Gk.callV (argsL := [(.ref a2)]) X0 hx hZ hown (rm15_3 l Z a0 hw [] a1 a2 kt ft h0 n0 Z0 V_t ht0 F_width) (hw _ (List.mem_of_getElem? (i := 114) rfl)) (hw _ (List.mem_of_getElem? (i := 115) rfl)) (notFace_of_selects (args := #[]) (mvT hZ (hw _ (List.mem_of_getElem? (i := 117) rfl)))) (hw _ (List.mem_of_getElem? (i := 117) rfl)) (hw _ (List.mem_of_getElem? (i := 116) rfl)) (by decide) (hw _ (List.mem_of_getElem? (i := 118) rfl)) (hw _ (List.mem_of_getElem? (i := 4) rfl)) e0 E_a1 pd_7 rfl rfl (by decide) (Nat.le_of_ble_eq_true rfl) (by decide) (by decide) (by rw [hml]; rfl)  rfl (hb hby d14_5) ?_
    intro T10 L10 v10 X10 hQ10
    obtain ⟨rfl, N10q, e10⟩ := hQ10
    have N10 := Fr.app N0 N10q
    show Go p e below (T10.setTop (mkF m 8 #[.val (.ref a1), .val (.ref a2), .val .null] [(.int (-1485235949 : Int32)), (.ref a2), (.ref a1), (.ref a1)])) _
    refine Gk.callP (argsL := [(.ref a2), (.int (-1485235949 : Int32))]) X10 hx hZ hown (rm11_3 l Z a0 hw [] a1 a2 xs ks fs h0 n0 Z0 V_s F_slots hs3) (hw _ (List.mem_of_getElem? (i := 93) rfl)) (hw _ (List.mem_of_getElem? (i := 94) rfl)) (hw _ (List.mem_of_getElem? (i := 3) rfl)) (hw _ (List.mem_of_getElem? (i := 95) rfl)) (by decide) (hw _ (List.mem_of_getElem? (i := 96) rfl)) (hw _ (List.mem_of_getElem? (i := 4) rfl)) e10 E_a1 pd_8 rfl rfl (by decide) (Nat.le_of_ble_eq_true rfl) (by decide) (by decide) (by rw [hml]; rfl)  rfl (hb hby d14_8) ?_
    intro T11 L11 v11 X11 hQ11
    obtain ⟨rfl, N11q, e11⟩ := hQ11
    have N11 := Fr.app N10 N11q
    show Go p e below (T11.setTop (mkF m 11 #[.val (.ref a1), .val (.ref a2), .val .null] [(.int (-1 : Int32)), (.ref a1)])) _
    refine Gk.aloadN X11 hx (hb hby d14_11) rfl rfl ?_
    refine Gk.callP (argsL := [(.int (-1 : Int32)), .null]) X11 hx hZ hown (rm12_m l Z a0 hw [] a1 h0 n0 Z0) (hw _ (List.mem_of_getElem? (i := 97) rfl)) (hw _ (List.mem_of_getElem? (i := 98) rfl)) (hw _ (List.mem_of_getElem? (i := 3) rfl)) (hw _ (List.mem_of_getElem? (i := 99) rfl)) (by decide) (hw _ (List.mem_of_getElem? (i := 100) rfl)) (hw _ (List.mem_of_getElem? (i := 4) rfl)) e11 E_a1 pd_9 rfl rfl (by decide) (Nat.le_of_ble_eq_true rfl) (by decide) (by decide) (by rw [hml]; rfl)  rfl (hb hby d14_12) ?_
    intro T12 L12 v12 X12 hQ12
    obtain ⟨rfl, N12q, e12⟩ := hQ12
    have N12 := Fr.app N11 N12q
    show Go p e below (T12.setTop (mkF m 15 #[.val (.ref a1), .val (.ref a2), .val .null] [])) _
    refine Go.fin X12 (v := none) (fun _ => rfl) Bd.notSynchronized (fun _ hr => X12.returnOut hx Bd.returns (hb hby d14_15) hr) (fun U' hU hF => ⟨_, _, rfl, ?_, hF.1, hF.2.1, hF.2.2.mono (by decide) (by decide)⟩)
    rw [hU, e12]
    exact ⟨rfl, N12, (Keep.refl h0 [xl]), (V_l.same fun j_ _ => own_H3 j_)⟩
theorem pd_10 : parseMethodDescriptor "()V" = some ⟨[], none⟩ := by decide +kernel
theorem d9_0 : decode prog_86_method_16_code 0 = .ok (.aload_n 0, 1) := by decide +kernel
theorem d9_1 : decode prog_86_method_16_code 1 = .ok (.getfield 44, 3) := by decide +kernel
theorem d9_4 : decode prog_86_method_16_code 4 = .ok (.invokevirtual 122, 3) := by decide +kernel
theorem d9_7 : decode prog_86_method_16_code 7 = .ok (.aload_n 0, 1) := by decide +kernel
theorem d9_8 : decode prog_86_method_16_code 8 = .ok (.aload_n 1, 1) := by decide +kernel
theorem d9_9 : decode prog_86_method_16_code 9 = .ok (.iload_n 2, 1) := by decide +kernel
theorem d9_10 : decode prog_86_method_16_code 10 = .ok (.invokevirtual 107, 3) := by decide +kernel
theorem d9_13 : decode prog_86_method_16_code 13 = .ok (.istore 7, 2) := by decide +kernel
theorem d9_15 : decode prog_86_method_16_code 15 = .ok (.aload_n 0, 1) := by decide +kernel
theorem d9_16 : decode prog_86_method_16_code 16 = .ok (.iload 7, 2) := by decide +kernel
theorem d9_18 : decode prog_86_method_16_code 18 = .ok (.aload_n 3, 1) := by decide +kernel
theorem d9_19 : decode prog_86_method_16_code 19 = .ok (.invokevirtual 118, 3) := by decide +kernel
theorem d9_22 : decode prog_86_method_16_code 22 = .ok (.aload_n 0, 1) := by decide +kernel
theorem d9_23 : decode prog_86_method_16_code 23 = .ok (.getfield 41, 3) := by decide +kernel
theorem d9_26 : decode prog_86_method_16_code 26 = .ok (.arraylength, 1) := by decide +kernel
theorem d9_27 : decode prog_86_method_16_code 27 = .ok (.iconst 1, 1) := by decide +kernel
theorem d9_28 : decode prog_86_method_16_code 28 = .ok (.isub, 1) := by decide +kernel
theorem d9_29 : decode prog_86_method_16_code 29 = .ok (.istore 8, 2) := by decide +kernel
theorem d9_31 : decode prog_86_method_16_code 31 = .ok (.iload_n 2, 1) := by decide +kernel
theorem d9_32 : decode prog_86_method_16_code 32 = .ok (.iload 8, 2) := by decide +kernel
theorem d9_34 : decode prog_86_method_16_code 34 = .ok (.iand, 1) := by decide +kernel
theorem d9_35 : decode prog_86_method_16_code 35 = .ok (.istore 9, 2) := by decide +kernel
theorem d9_37 : decode prog_86_method_16_code 37 = .ok (.aload_n 0, 1) := by decide +kernel
theorem d9_38 : decode prog_86_method_16_code 38 = .ok (.getfield 41, 3) := by decide +kernel
theorem d9_41 : decode prog_86_method_16_code 41 = .ok (.iload 9, 2) := by decide +kernel
theorem d9_43 : decode prog_86_method_16_code 43 = .ok (.iaload, 1) := by decide +kernel
theorem d9_44 : decode prog_86_method_16_code 44 = .ok (.ifCond .eq 29, 3) := by decide +kernel
theorem d9_73 : decode prog_86_method_16_code 73 = .ok (.aload_n 0, 1) := by decide +kernel
theorem d9_74 : decode prog_86_method_16_code 74 = .ok (.getfield 77, 3) := by decide +kernel
theorem d9_77 : decode prog_86_method_16_code 77 = .ok (.aload_n 0, 1) := by decide +kernel
theorem d9_78 : decode prog_86_method_16_code 78 = .ok (.getfield 29, 3) := by decide +kernel
theorem d9_81 : decode prog_86_method_16_code 81 = .ok (.arraylength, 1) := by decide +kernel
theorem d9_82 : decode prog_86_method_16_code 82 = .ok (.if_icmp .ne 128, 3) := by decide +kernel
theorem d9_210 : decode prog_86_method_16_code 210 = .ok (.aload_n 0, 1) := by decide +kernel
theorem d9_211 : decode prog_86_method_16_code 211 = .ok (.getfield 77, 3) := by decide +kernel
theorem d9_214 : decode prog_86_method_16_code 214 = .ok (.iconst 1, 1) := by decide +kernel
theorem d9_215 : decode prog_86_method_16_code 215 = .ok (.iadd, 1) := by decide +kernel
theorem d9_216 : decode prog_86_method_16_code 216 = .ok (.aload_n 0, 1) := by decide +kernel
theorem d9_217 : decode prog_86_method_16_code 217 = .ok (.getfield 48, 3) := by decide +kernel
theorem d9_220 : decode prog_86_method_16_code 220 = .ok (.imul, 1) := by decide +kernel
theorem d9_221 : decode prog_86_method_16_code 221 = .ok (.aload_n 0, 1) := by decide +kernel
theorem d9_222 : decode prog_86_method_16_code 222 = .ok (.getfield 7, 3) := by decide +kernel
theorem d9_225 : decode prog_86_method_16_code 225 = .ok (.arraylength, 1) := by decide +kernel
theorem d9_226 : decode prog_86_method_16_code 226 = .ok (.if_icmp .le 35, 3) := by decide +kernel
theorem d9_261 : decode prog_86_method_16_code 261 = .ok (.aload_n 1, 1) := by decide +kernel
theorem d9_262 : decode prog_86_method_16_code 262 = .ok (.iconst 0, 1) := by decide +kernel
theorem d9_263 : decode prog_86_method_16_code 263 = .ok (.aload_n 0, 1) := by decide +kernel
theorem d9_264 : decode prog_86_method_16_code 264 = .ok (.getfield 7, 3) := by decide +kernel
theorem d9_267 : decode prog_86_method_16_code 267 = .ok (.aload_n 0, 1) := by decide +kernel
theorem d9_268 : decode prog_86_method_16_code 268 = .ok (.getfield 77, 3) := by decide +kernel
theorem d9_271 : decode prog_86_method_16_code 271 = .ok (.aload_n 0, 1) := by decide +kernel
theorem d9_272 : decode prog_86_method_16_code 272 = .ok (.getfield 48, 3) := by decide +kernel
theorem d9_275 : decode prog_86_method_16_code 275 = .ok (.imul, 1) := by decide +kernel
theorem d9_276 : decode prog_86_method_16_code 276 = .ok (.aload_n 0, 1) := by decide +kernel
theorem d9_277 : decode prog_86_method_16_code 277 = .ok (.getfield 48, 3) := by decide +kernel
theorem d9_280 : decode prog_86_method_16_code 280 = .ok (.invokestatic 86, 3) := by decide +kernel
theorem d9_283 : decode prog_86_method_16_code 283 = .ok (.aload_n 0, 1) := by decide +kernel
theorem d9_284 : decode prog_86_method_16_code 284 = .ok (.getfield 13, 3) := by decide +kernel
theorem d9_287 : decode prog_86_method_16_code 287 = .ok (.aload_n 0, 1) := by decide +kernel
theorem d9_288 : decode prog_86_method_16_code 288 = .ok (.getfield 77, 3) := by decide +kernel
theorem d9_291 : decode prog_86_method_16_code 291 = .ok (.iload_n 2, 1) := by decide +kernel
theorem d9_292 : decode prog_86_method_16_code 292 = .ok (.iastore, 1) := by decide +kernel
theorem d9_293 : decode prog_86_method_16_code 293 = .ok (.aload_n 0, 1) := by decide +kernel
theorem d9_294 : decode prog_86_method_16_code 294 = .ok (.getfield 18, 3) := by decide +kernel
theorem d9_297 : decode prog_86_method_16_code 297 = .ok (.aload_n 0, 1) := by decide +kernel
theorem d9_298 : decode prog_86_method_16_code 298 = .ok (.getfield 77, 3) := by decide +kernel
theorem d9_301 : decode prog_86_method_16_code 301 = .ok (.aload_n 3, 1) := by decide +kernel
theorem d9_302 : decode prog_86_method_16_code 302 = .ok (.aastore, 1) := by decide +kernel
theorem d9_303 : decode prog_86_method_16_code 303 = .ok (.aload_n 0, 1) := by decide +kernel
theorem d9_304 : decode prog_86_method_16_code 304 = .ok (.getfield 25, 3) := by decide +kernel
theorem d9_307 : decode prog_86_method_16_code 307 = .ok (.aload_n 0, 1) := by decide +kernel
theorem d9_308 : decode prog_86_method_16_code 308 = .ok (.getfield 77, 3) := by decide +kernel
theorem d9_311 : decode prog_86_method_16_code 311 = .ok (.iconst 0, 1) := by decide +kernel
theorem d9_312 : decode prog_86_method_16_code 312 = .ok (.bastore, 1) := by decide +kernel
theorem d9_313 : decode prog_86_method_16_code 313 = .ok (.aload_n 0, 1) := by decide +kernel
theorem d9_314 : decode prog_86_method_16_code 314 = .ok (.getfield 22, 3) := by decide +kernel
theorem d9_317 : decode prog_86_method_16_code 317 = .ok (.aload_n 0, 1) := by decide +kernel
theorem d9_318 : decode prog_86_method_16_code 318 = .ok (.getfield 77, 3) := by decide +kernel
theorem d9_321 : decode prog_86_method_16_code 321 = .ok (.iload 7, 2) := by decide +kernel
theorem d9_323 : decode prog_86_method_16_code 323 = .ok (.iastore, 1) := by decide +kernel
theorem d9_324 : decode prog_86_method_16_code 324 = .ok (.aload_n 0, 1) := by decide +kernel
theorem d9_325 : decode prog_86_method_16_code 325 = .ok (.getfield 29, 3) := by decide +kernel
theorem d9_328 : decode prog_86_method_16_code 328 = .ok (.aload_n 0, 1) := by decide +kernel
theorem d9_329 : decode prog_86_method_16_code 329 = .ok (.getfield 77, 3) := by decide +kernel
theorem d9_332 : decode prog_86_method_16_code 332 = .ok (.iload 4, 2) := by decide +kernel
theorem d9_334 : decode prog_86_method_16_code 334 = .ok (.iastore, 1) := by decide +kernel
theorem d9_335 : decode prog_86_method_16_code 335 = .ok (.aload_n 0, 1) := by decide +kernel
theorem d9_336 : decode prog_86_method_16_code 336 = .ok (.getfield 34, 3) := by decide +kernel
theorem d9_339 : decode prog_86_method_16_code 339 = .ok (.aload_n 0, 1) := by decide +kernel
theorem d9_340 : decode prog_86_method_16_code 340 = .ok (.getfield 77, 3) := by decide +kernel
theorem d9_343 : decode prog_86_method_16_code 343 = .ok (.aload 5, 2) := by decide +kernel
theorem d9_345 : decode prog_86_method_16_code 345 = .ok (.aastore, 1) := by decide +kernel
theorem d9_346 : decode prog_86_method_16_code 346 = .ok (.aload_n 0, 1) := by decide +kernel
theorem d9_347 : decode prog_86_method_16_code 347 = .ok (.getfield 38, 3) := by decide +kernel
theorem d9_350 : decode prog_86_method_16_code 350 = .ok (.aload_n 0, 1) := by decide +kernel
theorem d9_351 : decode prog_86_method_16_code 351 = .ok (.getfield 77, 3) := by decide +kernel
theorem d9_354 : decode prog_86_method_16_code 354 = .ok (.iload 6, 2) := by decide +kernel
theorem d9_356 : decode prog_86_method_16_code 356 = .ok (.iastore, 1) := by decide +kernel
theorem d9_357 : decode prog_86_method_16_code 357 = .ok (.aload_n 0, 1) := by decide +kernel
theorem d9_358 : decode prog_86_method_16_code 358 = .ok (.getfield 57, 3) := by decide +kernel
theorem d9_361 : decode prog_86_method_16_code 361 = .ok (.iload 6, 2) := by decide +kernel
theorem d9_363 : decode prog_86_method_16_code 363 = .ok (.iaload, 1) := by decide +kernel
theorem d9_364 : decode prog_86_method_16_code 364 = .ok (.aload_n 0, 1) := by decide +kernel
theorem d9_365 : decode prog_86_method_16_code 365 = .ok (.getfield 54, 3) := by decide +kernel
theorem d9_368 : decode prog_86_method_16_code 368 = .ok (.iload 6, 2) := by decide +kernel
theorem d9_370 : decode prog_86_method_16_code 370 = .ok (.aaload, 1) := by decide +kernel
theorem d9_371 : decode prog_86_method_16_code 371 = .ok (.arraylength, 1) := by decide +kernel
theorem d9_372 : decode prog_86_method_16_code 372 = .ok (.if_icmp .ne 29, 3) := by decide +kernel
theorem d9_401 : decode prog_86_method_16_code 401 = .ok (.aload_n 0, 1) := by decide +kernel
theorem d9_402 : decode prog_86_method_16_code 402 = .ok (.getfield 54, 3) := by decide +kernel
theorem d9_405 : decode prog_86_method_16_code 405 = .ok (.iload 6, 2) := by decide +kernel
theorem d9_407 : decode prog_86_method_16_code 407 = .ok (.aaload, 1) := by decide +kernel
theorem d9_408 : decode prog_86_method_16_code 408 = .ok (.aload_n 0, 1) := by decide +kernel
theorem d9_409 : decode prog_86_method_16_code 409 = .ok (.getfield 57, 3) := by decide +kernel
theorem d9_412 : decode prog_86_method_16_code 412 = .ok (.iload 6, 2) := by decide +kernel
theorem d9_414 : decode prog_86_method_16_code 414 = .ok (.dup2, 1) := by decide +kernel
theorem d9_415 : decode prog_86_method_16_code 415 = .ok (.iaload, 1) := by decide +kernel
theorem d9_416 : decode prog_86_method_16_code 416 = .ok (.dup_x2, 1) := by decide +kernel
theorem d9_417 : decode prog_86_method_16_code 417 = .ok (.iconst 1, 1) := by decide +kernel
theorem d9_418 : decode prog_86_method_16_code 418 = .ok (.iadd, 1) := by decide +kernel
theorem d9_419 : decode prog_86_method_16_code 419 = .ok (.iastore, 1) := by decide +kernel
theorem d9_420 : decode prog_86_method_16_code 420 = .ok (.aload_n 0, 1) := by decide +kernel
theorem d9_421 : decode prog_86_method_16_code 421 = .ok (.getfield 77, 3) := by decide +kernel
theorem d9_424 : decode prog_86_method_16_code 424 = .ok (.iastore, 1) := by decide +kernel
theorem d9_425 : decode prog_86_method_16_code 425 = .ok (.aload_n 0, 1) := by decide +kernel
theorem d9_426 : decode prog_86_method_16_code 426 = .ok (.aload_n 0, 1) := by decide +kernel
theorem d9_427 : decode prog_86_method_16_code 427 = .ok (.getfield 83, 3) := by decide +kernel
theorem d9_430 : decode prog_86_method_16_code 430 = .ok (.iload 6, 2) := by decide +kernel
theorem d9_432 : decode prog_86_method_16_code 432 = .ok (.invokestatic 140, 3) := by decide +kernel
theorem d9_435 : decode prog_86_method_16_code 435 = .ok (.putfield 83, 3) := by decide +kernel
theorem d9_438 : decode prog_86_method_16_code 438 = .ok (.aload_n 0, 1) := by decide +kernel
theorem d9_439 : decode prog_86_method_16_code 439 = .ok (.dup, 1) := by decide +kernel
theorem d9_440 : decode prog_86_method_16_code 440 = .ok (.getfield 77, 3) := by decide +kernel
theorem d9_443 : decode prog_86_method_16_code 443 = .ok (.iconst 1, 1) := by decide +kernel
theorem d9_444 : decode prog_86_method_16_code 444 = .ok (.iadd, 1) := by decide +kernel
theorem d9_445 : decode prog_86_method_16_code 445 = .ok (.putfield 77, 3) := by decide +kernel
theorem d9_448 : decode prog_86_method_16_code 448 = .ok (.aload_n 0, 1) := by decide +kernel
theorem d9_449 : decode prog_86_method_16_code 449 = .ok (.getfield 41, 3) := by decide +kernel
theorem d9_452 : decode prog_86_method_16_code 452 = .ok (.iload 9, 2) := by decide +kernel
theorem d9_454 : decode prog_86_method_16_code 454 = .ok (.aload_n 0, 1) := by decide +kernel
theorem d9_455 : decode prog_86_method_16_code 455 = .ok (.getfield 77, 3) := by decide +kernel
theorem d9_458 : decode prog_86_method_16_code 458 = .ok (.iastore, 1) := by decide +kernel
theorem d9_459 : decode prog_86_method_16_code 459 = .ok (.aload_n 0, 1) := by decide +kernel
theorem d9_460 : decode prog_86_method_16_code 460 = .ok (.getfield 77, 3) := by decide +kernel
theorem d9_463 : decode prog_86_method_16_code 463 = .ok (.iconst 2, 1) := by decide +kernel
theorem d9_464 : decode prog_86_method_16_code 464 = .ok (.imul, 1) := by decide +kernel
theorem d9_465 : decode prog_86_method_16_code 465 = .ok (.aload_n 0, 1) := by decide +kernel
theorem d9_466 : decode prog_86_method_16_code 466 = .ok (.getfield 41, 3) := by decide +kernel
theorem d9_469 : decode prog_86_method_16_code 469 = .ok (.arraylength, 1) := by decide +kernel
theorem d9_470 : decode prog_86_method_16_code 470 = .ok (.if_icmp .le 7, 3) := by decide +kernel
theorem d9_477 : decode prog_86_method_16_code 477 = .ok (.return_, 1) := by decide +kernel
theorem ef_rm9_0 (m : MethodId) (a1 : Addr) (a2 : Addr) (p7 : Int32) : entryFrame m #[(.ref a1), (.ref a2), (.int (0 : Int32)), .null, (.int (-1 : Int32)), .null, (.int p7)] 10 = mkF m 0 #[.val (.ref a1), .val (.ref a2), .val (.int (0 : Int32)), .val .null, .val (.int (-1 : Int32)), .val .null, .val (.int p7), .unset, .unset, .unset] [] := by first | (simp [entryFrame, mkF, argsToLocals, Value.category]; done) | rfl
def Q_rm9_0 (Z : State) (a1 : Addr) (a2 : Addr) (p7 : Int32) (ab : Addr) (x_states : Addr) (x_hashes : Addr) (x_zones : Addr) (x_sameStates : Addr) (x_held : Addr) (x_parents : Addr) (x_events : Addr) (x_ranks : Addr) (x_slots : Addr) (x_ranked : Addr) (x_reached : Addr) (x_taken : Addr) (yk : Addr) (k_states : ClassId) (k_hashes : ClassId) (k_zones : ClassId) (k_sameStates : ClassId) (k_held : ClassId) (k_parents : ClassId) (k_events : ClassId) (k_ranks : ClassId) (k_slots : ClassId) (k_ranked : ClassId) (k_reached : ClassId) (k_rk : ClassId) (f_states : Nat → Value) (f_hashes : Nat → Value) (f_zones : Nat → Value) (f_sameStates : Nat → Value) (f_parents : Nat → Value) (f_events : Nat → Value) (f_ranks : Nat → Value) (f_slots : Nat → Value) (kt : ClassId) (ft : Nat → Value) (Rf : Nat → Int32) (Wk : Nat → Int32) (lf : Int32) (h0 : Heap) (n0 : Nat) (v : Option Value) (h : Heap) (L : List Loc) : Prop := v = none ∧ Fr n0 L ∧ Keep h0 h [a1, ab, yk, x_states, x_hashes, x_zones, x_sameStates, x_held, x_parents, x_events, x_ranks, x_slots, x_reached] ∧ Fld Z h ab "com/example/tracewarden/tracewarden/engine/SearchBudget" "left" "J" (.long (2 : Int64)) ∧ Fld Z h a1 "com/example/tracewarden/tracewarden/engine/SearchTuples" "states" "[I" (.ref x_states) ∧ Fld Z h a1 "com/example/tracewarden/tracewarden/engine/SearchTuples" "hashes" "[I" (.ref x_hashes) ∧ Fld Z h a1 "com/example/tracewarden/tracewarden/engine/SearchTuples" "zones" "[Lcom/example/tracewarden/tracewarden/engine/Zone;" (.ref x_zones) ∧ Fld Z h a1 "com/example/tracewarden/tracewarden/engine/SearchTuples" "sameStates" "[I" (.ref x_sameStates) ∧ Fld Z h a1 "com/example/tracewarden/tracewarden/engine/SearchTuples" "held" "[Z" (.ref x_held) ∧ Fld Z h a1 "com/example/tracewarden/tracewarden/engine/SearchTuples" "parents" "[I" (.ref x_parents) ∧ Fld Z h a1 "com/example/tracewarden/tracewarden/engine/SearchTuples" "events" "[Lcom/example/tracewarden/tracewarden/engine/SearchTuples$Event;" (.ref x_events) ∧ Fld Z h a1 "com/example/tracewarden/tracewarden/engine/SearchTuples" "ranks" "[I" (.ref x_ranks) ∧ Fld Z h a1 "com/example/tracewarden/tracewarden/engine/SearchTuples" "slots" "[I" (.ref x_slots) ∧ Fld Z h a1 "com/example/tracewarden/tracewarden/engine/SearchTuples" "ranked" "[[I" (.ref x_ranked) ∧ Fld Z h a1 "com/example/tracewarden/tracewarden/engine/SearchTuples" "reached" "[I" (.ref x_reached) ∧ Fld Z h a1 "com/example/tracewarden/tracewarden/engine/SearchTuples" "taken" "[I" (.ref x_taken) ∧ Fld Z h a1 "com/example/tracewarden/tracewarden/engine/SearchTuples" "budget" "Lcom/example/tracewarden/tracewarden/engine/SearchBudget;" (.ref ab) ∧ Fld Z h a1 "com/example/tracewarden/tracewarden/engine/SearchTuples" "width" "I" (.int (1 : Int32)) ∧ Fld Z h a1 "com/example/tracewarden/tracewarden/engine/SearchTuples" "size" "I" (.int (1 : Int32)) ∧ Fld Z h a1 "com/example/tracewarden/tracewarden/engine/SearchTuples" "lowest" "I" (.int (0 : Int32)) ∧ Fld Z h a1 "com/example/tracewarden/tracewarden/engine/SearchTuples" "latestFirst" "Z" (.int lf) ∧ Arf Z h x_slots k_slots .int (32 : Int32) (upd f_slots 0 (.int (1 : Int32))) ∧ Arf Z h x_hashes k_hashes .int (16 : Int32) (upd f_hashes 0 (.int (0 : Int32))) ∧ Arf Z h x_states k_states .int (64 : Int32) (upd f_states 0 (.int (0 : Int32))) ∧ Arf Z h x_sameStates k_sameStates .int (16 : Int32) (upd f_sameStates 0 (.int (-1 : Int32))) ∧ Arf Z h x_held k_held .boolean (16 : Int32) (fun _ => .int (0 : Int32)) ∧ Arf Z h x_reached k_reached .int (3 : Int32) (fun j => .int (updI Rf p7.toNatClampNeg (Rf p7.toNatClampNeg + (1 : Int32)) j)) ∧ Arf Z h yk k_rk .int (8 : Int32) (fun j => .int (updI Wk (Rf p7.toNatClampNeg).toNatClampNeg (0 : Int32) j)) ∧ (∃ f' : Nat → Value, Arf Z h x_zones k_zones (.object "com/example/tracewarden/tracewarden/engine/Zone") (16 : Int32) f') ∧ (∃ f' : Nat → Value, Arf Z h x_parents k_parents .int (16 : Int32) f') ∧ (∃ f' : Nat → Value, Arf Z h x_events k_events (.object "com/example/tracewarden/tracewarden/engine/SearchTuples$Event") (16 : Int32) f') ∧ (∃ f' : Nat → Value, Arf Z h x_ranks k_ranks .int (16 : Int32) f')
set_option maxRecDepth 65536 in
set_option maxHeartbeats 40000000 in
theorem rm9_0 (l : Launch) (Z : State) (a0 : Array Value) (hw : ∀ d ∈ tables_1, d.before a0 Z = true) (ws : List Jvm.Cond) (a1 : Addr) (a2 : Addr) (p7 : Int32) (ab : Addr) (x_states : Addr) (x_hashes : Addr) (x_zones : Addr) (x_sameStates : Addr) (x_held : Addr) (x_parents : Addr) (x_events : Addr) (x_ranks : Addr) (x_slots : Addr) (x_ranked : Addr) (x_reached : Addr) (x_taken : Addr) (yk : Addr) (k_states : ClassId) (k_hashes : ClassId) (k_zones : ClassId) (k_sameStates : ClassId) (k_held : ClassId) (k_parents : ClassId) (k_events : ClassId) (k_ranks : ClassId) (k_slots : ClassId) (k_ranked : ClassId) (k_reached : ClassId) (k_rk : ClassId) (f_states : Nat → Value) (f_hashes : Nat → Value) (f_zones : Nat → Value) (f_sameStates : Nat → Value) (f_parents : Nat → Value) (f_events : Nat → Value) (f_ranks : Nat → Value) (f_slots : Nat → Value) (kt : ClassId) (ft : Nat → Value) (Rf : Nat → Int32) (Wk : Nat → Int32) (lf : Int32) (h0 : Heap) (n0 : Nat) (Z0 : n0 ≤ h0.size) (E_st : Exa Z h0 a1 "com/example/tracewarden/tracewarden/engine/SearchTuples") (E_ab : Exa Z h0 ab "com/example/tracewarden/tracewarden/engine/SearchBudget") (g_a1 : n0 ≤ a1) (lt0 : a2 < a1) (lt1 : a1 < ab) (lt2 : ab < x_states) (lt3 : x_states < x_hashes) (lt4 : x_hashes < x_zones) (lt5 : x_zones < x_sameStates) (lt6 : x_sameStates < x_held) (lt7 : x_held < x_parents) (lt8 : x_parents < x_events) (lt9 : x_events < x_ranks) (lt10 : x_ranks < x_slots) (lt11 : x_slots < x_ranked) (lt12 : x_ranked < yk) (lt13 : yk < x_reached) (V_states : Arf Z h0 x_states k_states .int (64 : Int32) f_states) (V_hashes : Arf Z h0 x_hashes k_hashes .int (16 : Int32) f_hashes) (V_zones : Arf Z h0 x_zones k_zones (.object "com/example/tracewarden/tracewarden/engine/Zone") (16 : Int32) f_zones) (V_sameStates : Arf Z h0 x_sameStates k_sameStates .int (16 : Int32) f_sameStates) (V_held : Arf Z h0 x_held k_held .boolean (16 : Int32) (fun _ => .int (0 : Int32))) (V_parents : Arf Z h0 x_parents k_parents .int (16 : Int32) f_parents) (V_events : Arf Z h0 x_events k_events (.object "com/example/tracewarden/tracewarden/engine/SearchTuples$Event") (16 : Int32) f_events) (V_ranks : Arf Z h0 x_ranks k_ranks .int (16 : Int32) f_ranks) (V_slots : Arf Z h0 x_slots k_slots .int (32 : Int32) f_slots) (V_ranked : Arf Z h0 x_ranked k_ranked (.array .int) (3 : Int32) (fun i => .ref (x_ranked + 1 + i))) (V_reached : Arf Z h0 x_reached k_reached .int (3 : Int32) (fun i => .int (Rf i))) (V_t : Arf Z h0 a2 kt .int (1 : Int32) ft) (ht0 : ft 0 = (.int (0 : Int32))) (V_rk : Arf Z h0 yk k_rk .int (8 : Int32) (fun j => .int (Wk j))) (eyk : yk = x_ranked + 1 + p7.toNatClampNeg) (hk3 : ¬ p7 < 0 ∧ p7 < 3) (hr8 : ¬ Rf p7.toNatClampNeg < 0 ∧ Rf p7.toNatClampNeg < 8) (hs_ : f_slots 0 = (.int (0 : Int32))) (F_states : Fld Z h0 a1 "com/example/tracewarden/tracewarden/engine/SearchTuples" "states" "[I" (.ref x_states)) (F_hashes : Fld Z h0 a1 "com/example/tracewarden/tracewarden/engine/SearchTuples" "hashes" "[I" (.ref x_hashes)) (F_zones : Fld Z h0 a1 "com/example/tracewarden/tracewarden/engine/SearchTuples" "zones" "[Lcom/example/tracewarden/tracewarden/engine/Zone;" (.ref x_zones)) (F_sameStates : Fld Z h0 a1 "com/example/tracewarden/tracewarden/engine/SearchTuples" "sameStates" "[I" (.ref x_sameStates)) (F_held : Fld Z h0 a1 "com/example/tracewarden/tracewarden/engine/SearchTuples" "held" "[Z" (.ref x_held)) (F_parents : Fld Z h0 a1 "com/example/tracewarden/tracewarden/engine/SearchTuples" "parents" "[I" (.ref x_parents)) (F_events : Fld Z h0 a1 "com/example/tracewarden/tracewarden/engine/SearchTuples" "events" "[Lcom/example/tracewarden/tracewarden/engine/SearchTuples$Event;" (.ref x_events)) (F_ranks : Fld Z h0 a1 "com/example/tracewarden/tracewarden/engine/SearchTuples" "ranks" "[I" (.ref x_ranks)) (F_slots : Fld Z h0 a1 "com/example/tracewarden/tracewarden/engine/SearchTuples" "slots" "[I" (.ref x_slots)) (F_ranked : Fld Z h0 a1 "com/example/tracewarden/tracewarden/engine/SearchTuples" "ranked" "[[I" (.ref x_ranked)) (F_reached : Fld Z h0 a1 "com/example/tracewarden/tracewarden/engine/SearchTuples" "reached" "[I" (.ref x_reached)) (F_taken : Fld Z h0 a1 "com/example/tracewarden/tracewarden/engine/SearchTuples" "taken" "[I" (.ref x_taken)) (F_budget : Fld Z h0 a1 "com/example/tracewarden/tracewarden/engine/SearchTuples" "budget" "Lcom/example/tracewarden/tracewarden/engine/SearchBudget;" (.ref ab)) (F_width : Fld Z h0 a1 "com/example/tracewarden/tracewarden/engine/SearchTuples" "width" "I" (.int (1 : Int32))) (F_size : Fld Z h0 a1 "com/example/tracewarden/tracewarden/engine/SearchTuples" "size" "I" (.int (0 : Int32))) (F_lowest : Fld Z h0 a1 "com/example/tracewarden/tracewarden/engine/SearchTuples" "lowest" "I" (.int (0 : Int32))) (F_latestFirst : Fld Z h0 a1 "com/example/tracewarden/tracewarden/engine/SearchTuples" "latestFirst" "Z" (.int lf)) (F_left : Fld Z h0 ab "com/example/tracewarden/tracewarden/engine/SearchBudget" "left" "J" (.long (3 : Int64))) :
    MetFree l (⟨"com/example/tracewarden/tracewarden/engine/SearchTuples", "add", "([IILcom/example/tracewarden/tracewarden/engine/Zone;ILcom/example/tracewarden/tracewarden/engine/SearchTuples$Event;I)V"⟩ : MethodName) (head1 (Jvm.Cond.code (⟨"com/example/tracewarden/tracewarden/engine/SearchTuples", "add", "([IILcom/example/tracewarden/tracewarden/engine/Zone;ILcom/example/tracewarden/tracewarden/engine/SearchTuples$Event;I)V"⟩ : MethodName) prog_86_method_16_code 10 none :: ws) ({ frames := 1, cells := 0, slots := 0, locals := 40 } : Room)) (fun a U => a = #[(.ref a1), (.ref a2), (.int (0 : Int32)), .null, (.int (-1 : Int32)), .null, (.int p7)] ∧ Z.Warmed39 U.vm ∧ U.heap = h0) (fun _ _ _ _ _ => True) (fun _ U o U' => ∃ v L, o = .returned v ∧ Q_rm9_0 Z a1 a2 p7 ab x_states x_hashes x_zones x_sameStates x_held x_parents x_events x_ranks x_slots x_ranked x_reached x_taken yk k_states k_hashes k_zones k_sameStates k_held k_parents k_events k_ranks k_slots k_ranked k_reached k_rk f_states f_hashes f_zones f_sameStates f_parents f_events f_ranks f_slots kt ft Rf Wk lf h0 n0 v U'.heap L ∧ FrameEnd U o U' L ({ frames := 1, cells := 0, slots := 0, locals := 40 } : Room).cells ({ frames := 1, cells := 0, slots := 0, locals := 40 } : Room).slots) := by
  refine MetFree.of_bodySF (plainFor_of_name pn_81) hisR ?_
  intro p e s m args below meth c s₁ Bd hml0 hP hK
  obtain ⟨rfl, hZ, hh⟩ := hP
  have hx := Bd.exec
  have hby := Bd.bytes
  have hml : c.maxLocals = 10 := hml0
  have hown : s.vm.findClass "com/example/tracewarden/tracewarden/engine/SearchTuples" = some m.cls := findClass_of_methodNamed Bd.named
  have hnm := (name_of_methodNamed Bd.named Bd.method).1
  have X0 : Stand p l e ({ frames := 1, cells := 0, slots := 0, locals := 40 } : Room) s m #[(.ref a1), (.ref a2), (.int (0 : Int32)), .null, (.int (-1 : Int32)), .null, (.int p7)] below meth c s₁ [] 0 0 := Stand.of_body Bd
  have e0 : s₁.heap = h0 := by rw [← hh, Bd.state]; rfl
  have N0 := Fr.nil n0
  show Go p e below (s₁.setTop (entryFrame m #[(.ref a1), (.ref a2), (.int (0 : Int32)), .null, (.int (-1 : Int32)), .null, (.int p7)] 10)) (fun o U' => ∃ v L, o = .returned v ∧ Q_rm9_0 Z a1 a2 p7 ab x_states x_hashes x_zones x_sameStates x_held x_parents x_events x_ranks x_slots x_ranked x_reached x_taken yk k_states k_hashes k_zones k_sameStates k_held k_parents k_events k_ranks k_slots k_ranked k_reached k_rk f_states f_hashes f_zones f_sameStates f_parents f_events f_ranks f_slots kt ft Rf Wk lf h0 n0 v U'.heap L ∧ FrameEnd s o U' L ({ frames := 1, cells := 0, slots := 0, locals := 40 } : Room).cells ({ frames := 1, cells := 0, slots := 0, locals := 40 } : Room).slots)
  rw [ef_rm9_0]
  refine Gk.aloadN X0 hx (hb hby d9_0) rfl rfl ?_
  refine Gk.getF X0 hx hZ hown (host := "") (Or.inl (hw _ (List.mem_of_getElem? (i := 44) rfl))) Via.refl e0 F_budget (hb hby d9_1) ?_
  intro T1 X1 e1
  refine Gk.callV (argsL := []) X1 hx hZ hown (rm10_0 l Z a0 hw [] ab h0 n0 Z0 E_ab F_left (Nat.le_trans g_a1 (Nat.le_of_lt lt1))) (hw _ (List.mem_of_getElem? (i := 88) rfl)) (hw _ (List.mem_of_getElem? (i := 89) rfl)) (notFace_of_selects (args := #[]) (mvT hZ (hw _ (List.mem_of_getElem? (i := 91) rfl)))) (hw _ (List.mem_of_getElem? (i := 91) rfl)) (hw _ (List.mem_of_getElem? (i := 90) rfl)) (by decide) (hw _ (List.mem_of_getElem? (i := 92) rfl)) (hw _ (List.mem_of_getElem? (i := 7) rfl)) e1 E_ab pd_10 rfl rfl (by decide) (Nat.le_of_ble_eq_true rfl) (by decide) (by decide) (by rw [hml]; rfl)  rfl (hb hby d9_4) ?_
  intro T2 L2 v2 X2 hQ2
  obtain ⟨rfl, N2q, K2, Fl2⟩ := hQ2
  have N2 := Fr.app N0 N2q
  show Go p e below (T2.setTop (mkF m 7 #[.val (.ref a1), .val (.ref a2), .val (.int (0 : Int32)), .val .null, .val (.int (-1 : Int32)), .val .null, .val (.int p7), .unset, .unset, .unset] [])) _
  refine Gk.aloadN X2 hx (hb hby d9_7) rfl rfl ?_
  refine Gk.aloadN X2 hx (hb hby d9_8) rfl rfl ?_
  refine Gk.iloadN X2 hx (hb hby d9_9) rfl ?_
  have ne4 : ab ≠ x_slots := (Nat.ne_of_lt (Nat.lt_trans lt2 (Nat.lt_trans lt3 (Nat.lt_trans lt4 (Nat.lt_trans lt5 (Nat.lt_trans lt6 (Nat.lt_trans lt7 (Nat.lt_trans lt8 (Nat.lt_trans lt9 lt10)))))))))
  have H5 := (V_slots.keep K2 (ninS (Ne.symm ne4) nin0))
  have H6 := (F_slots.keep K2 (ninS (Nat.ne_of_lt lt1) nin0))
  have H7 := (E_st.keep K2)
  refine Gk.callP (argsL := [(.ref a2), (.int (0 : Int32))]) X2 hx hZ hown (rm11_0 l Z a0 hw [] a1 a2 x_slots k_slots f_slots T2.heap n0 (Nat.le_trans Z0 K2.1) H5 H6 hs_) (hw _ (List.mem_of_getElem? (i := 93) rfl)) (hw _ (List.mem_of_getElem? (i := 94) rfl)) (hw _ (List.mem_of_getElem? (i := 3) rfl)) (hw _ (List.mem_of_getElem? (i := 95) rfl)) (by decide) (hw _ (List.mem_of_getElem? (i := 96) rfl)) (hw _ (List.mem_of_getElem? (i := 4) rfl)) rfl H7 pd_8 rfl rfl (by decide) (Nat.le_of_ble_eq_true rfl) (by decide) (by decide) (by rw [hml]; rfl)  rfl (hb hby d9_10) ?_
  intro T3 L3 v3 X3 hQ3
  obtain ⟨rfl, N3q, e3⟩ := hQ3
  have N3 := Fr.app N2 N3q
  show Go p e below (T3.setTop (mkF m 13 #[.val (.ref a1), .val (.ref a2), .val (.int (0 : Int32)), .val .null, .val (.int (-1 : Int32)), .val .null, .val (.int p7), .unset, .unset, .unset] [(.int (-1 : Int32))])) _
  refine Gk.istore X3 hx (hb hby d9_13) #[.val (.ref a1), .val (.ref a2), .val (.int (0 : Int32)), .val .null, .val (.int (-1 : Int32)), .val .null, .val (.int p7), .val (.int (-1 : Int32)), .unset, .unset] rfl ?_
  refine Gk.aloadN X3 hx (hb hby d9_15) rfl rfl ?_
  refine Gk.iload X3 hx (hb hby d9_16) rfl ?_
  refine Gk.aloadN X3 hx (hb hby d9_18) rfl rfl ?_
  refine Gk.callP (argsL := [(.int (-1 : Int32)), .null]) X3 hx hZ hown (rm12_m l Z a0 hw [] a1 T2.heap n0 (Nat.le_trans Z0 K2.1)) (hw _ (List.mem_of_getElem? (i := 97) rfl)) (hw _ (List.mem_of_getElem? (i := 98) rfl)) (hw _ (List.mem_of_getElem? (i := 3) rfl)) (hw _ (List.mem_of_getElem? (i := 99) rfl)) (by decide) (hw _ (List.mem_of_getElem? (i := 100) rfl)) (hw _ (List.mem_of_getElem? (i := 4) rfl)) e3 H7 pd_9 rfl rfl (by decide) (Nat.le_of_ble_eq_true rfl) (by decide) (by decide) (by rw [hml]; rfl)  rfl (hb hby d9_19) ?_
  intro T8 L8 v8 X8 hQ8
  obtain ⟨rfl, N8q, e8⟩ := hQ8
  have N8 := Fr.app N3 N8q
  show Go p e below (T8.setTop (mkF m 22 #[.val (.ref a1), .val (.ref a2), .val (.int (0 : Int32)), .val .null, .val (.int (-1 : Int32)), .val .null, .val (.int p7), .val (.int (-1 : Int32)), .unset, .unset] [])) _
  refine Gk.aloadN X8 hx (hb hby d9_22) rfl rfl ?_
  refine Gk.getF X8 hx hZ hown (host := "") (Or.inl (hw _ (List.mem_of_getElem? (i := 42) rfl))) Via.refl e8 H6 (hb hby d9_23) ?_
  intro T9 X9 e9
  refine Gk.alen X9 hx hZ e9 H5 (hb hby d9_26) ?_
  refine Gk.iconst X9 hx (hb hby d9_27) (1 : Int32) rfl ?_
  refine Gk.isub X9 hx (hb hby d9_28) (31 : Int32) (by decide) ?_
  refine Gk.istore X9 hx (hb hby d9_29) #[.val (.ref a1), .val (.ref a2), .val (.int (0 : Int32)), .val .null, .val (.int (-1 : Int32)), .val .null, .val (.int p7), .val (.int (-1 : Int32)), .val (.int (31 : Int32)), .unset] rfl ?_
  refine Gk.iloadN X9 hx (hb hby d9_31) rfl ?_
  refine Gk.iload X9 hx (hb hby d9_32) rfl ?_
  refine Gk.iand X9 hx (hb hby d9_34) (0 : Int32) (by decide) ?_
  refine Gk.istore X9 hx (hb hby d9_35) #[.val (.ref a1), .val (.ref a2), .val (.int (0 : Int32)), .val .null, .val (.int (-1 : Int32)), .val .null, .val (.int p7), .val (.int (-1 : Int32)), .val (.int (31 : Int32)), .val (.int (0 : Int32))] rfl ?_
  refine Gk.aloadN X9 hx (hb hby d9_37) rfl rfl ?_
  refine Gk.getF X9 hx hZ hown (host := "") (Or.inl (hw _ (List.mem_of_getElem? (i := 42) rfl))) Via.refl e9 H6 (hb hby d9_38) ?_
  intro T10 X10 e10
  refine Gk.iload X10 hx (hb hby d9_41) rfl ?_
  refine Gk.iaload X10 hx hZ e10 H5 ⟨by decide, by decide⟩ (.int (0 : Int32)) hs_ (hb hby d9_43) ?_
  refine Gk.ifYes X10 hx (hb hby d9_44) (teq (by decide : (0 : Int32) = (0 : Int32))).1 73 (by decide) (by decide) ?_
  refine Gk.aloadN X10 hx (hb hby d9_73) rfl rfl ?_
  have H12 := (F_size.keep K2 (ninS (Nat.ne_of_lt lt1) nin0))
  refine Gk.getF X10 hx hZ hown (host := "") (Or.inl (hw _ (List.mem_of_getElem? (i := 67) rfl))) Via.refl e10 H12 (hb hby d9_74) ?_
  intro T13 X13 e13
  refine Gk.aloadN X13 hx (hb hby d9_77) rfl rfl ?_
  have H14 := (F_parents.keep K2 (ninS (Nat.ne_of_lt lt1) nin0))
  refine Gk.getF X13 hx hZ hown (host := "") (Or.inl (hw _ (List.mem_of_getElem? (i := 34) rfl))) Via.refl e13 H14 (hb hby d9_78) ?_
  intro T15 X15 e15
  have ne16 : ab ≠ x_parents := (Nat.ne_of_lt (Nat.lt_trans lt2 (Nat.lt_trans lt3 (Nat.lt_trans lt4 (Nat.lt_trans lt5 (Nat.lt_trans lt6 lt7))))))
  have H17 := (V_parents.keep K2 (ninS (Ne.symm ne16) nin0))
  refine Gk.alen X15 hx hZ e15 H17 (hb hby d9_81) ?_
  refine Gk.icmpYes X15 hx (hb hby d9_82) (feq (by decide : ¬ ((0 : Int32) = (16 : Int32)))).2 210 (by decide) (by decide) ?_
  refine Gk.aloadN X15 hx (hb hby d9_210) rfl rfl ?_
  refine Gk.getF X15 hx hZ hown (host := "") (Or.inl (hw _ (List.mem_of_getElem? (i := 67) rfl))) Via.refl e15 H12 (hb hby d9_211) ?_
  intro T18 X18 e18
  refine Gk.iconst X18 hx (hb hby d9_214) (1 : Int32) rfl ?_
  refine Gk.iadd X18 hx (hb hby d9_215) (1 : Int32) (by decide) ?_
  refine Gk.aloadN X18 hx (hb hby d9_216) rfl rfl ?_
  have H19 := (F_width.keep K2 (ninS (Nat.ne_of_lt lt1) nin0))
  refine Gk.getF X18 hx hZ hown (host := "") (Or.inl (hw _ (List.mem_of_getElem? (i := 46) rfl))) Via.refl e18 H19 (hb hby d9_217) ?_
  intro T20 X20 e20
  refine Gk.imul X20 hx (hb hby d9_220) (1 : Int32) (by decide) ?_
  refine Gk.aloadN X20 hx (hb hby d9_221) rfl rfl ?_
  have H21 := (F_states.keep K2 (ninS (Nat.ne_of_lt lt1) nin0))
  refine Gk.getF X20 hx hZ hown (host := "") (Or.inl (hw _ (List.mem_of_getElem? (i := 21) rfl))) Via.refl e20 H21 (hb hby d9_222) ?_
  intro T22 X22 e22
  have H23 := (V_states.keep K2 (ninS (Ne.symm (Nat.ne_of_lt lt2)) nin0))
  refine Gk.alen X22 hx hZ e22 H23 (hb hby d9_225) ?_
  refine Gk.icmpYes X22 hx (hb hby d9_226) (flt (by decide : ¬ ((64 : Int32) < (1 : Int32)))).2.2.2 261 (by decide) (by decide) ?_
  refine Gk.aloadN X22 hx (hb hby d9_261) rfl rfl ?_
  refine Gk.iconst X22 hx (hb hby d9_262) (0 : Int32) rfl ?_
  refine Gk.aloadN X22 hx (hb hby d9_263) rfl rfl ?_
  refine Gk.getF X22 hx hZ hown (host := "") (Or.inl (hw _ (List.mem_of_getElem? (i := 21) rfl))) Via.refl e22 H21 (hb hby d9_264) ?_
  intro T24 X24 e24
  refine Gk.aloadN X24 hx (hb hby d9_267) rfl rfl ?_
  refine Gk.getF X24 hx hZ hown (host := "") (Or.inl (hw _ (List.mem_of_getElem? (i := 67) rfl))) Via.refl e24 H12 (hb hby d9_268) ?_
  intro T25 X25 e25
  refine Gk.aloadN X25 hx (hb hby d9_271) rfl rfl ?_
  refine Gk.getF X25 hx hZ hown (host := "") (Or.inl (hw _ (List.mem_of_getElem? (i := 46) rfl))) Via.refl e25 H19 (hb hby d9_272) ?_
  intro T26 X26 e26
  refine Gk.imul X26 hx (hb hby d9_275) (0 : Int32) (by decide) ?_
  refine Gk.aloadN X26 hx (hb hby d9_276) rfl rfl ?_
  refine Gk.getF X26 hx hZ hown (host := "") (Or.inl (hw _ (List.mem_of_getElem? (i := 46) rfl))) Via.refl e26 H19 (hb hby d9_277) ?_
  intro T27 X27 e27
  have H29 := (V_t.keep K2 (ninS (Nat.ne_of_lt (Nat.lt_trans lt0 lt1)) nin0))
  refine Gk.copy X27 hx hZ hown (hw _ (List.mem_of_getElem? (i := 101) rfl)) (hw _ (List.mem_of_getElem? (i := 104) rfl)) (hw _ (List.mem_of_getElem? (i := 102) rfl)) (hw _ (List.mem_of_getElem? (i := 103) rfl)) e27 H29 H23 rfl (by decide) (by decide) (by decide) (by decide) (by decide) N8 (Nat.le_trans g_a1 (Nat.le_of_lt (Nat.lt_trans lt1 lt2))) (upd f_states 0 (.int (0 : Int32))) (fun i_ _ => own_cp1 ft f_states 0 _ ht0 i_) (by rw [hml]; rfl) (hb hby d9_280) (by decide) (Nat.le_of_ble_eq_true rfl) ?_
  intro T28 h28 L28 X28 e28 N28 K28 V28
  refine Gk.aloadN X28 hx (hb hby d9_283) rfl rfl ?_
  have H30 := ((F_hashes.keep K2 (ninS (Nat.ne_of_lt lt1) nin0)).keep K28 (ninS (Nat.ne_of_lt (Nat.lt_trans lt1 lt2)) nin0))
  refine Gk.getF X28 hx hZ hown (host := "") (Or.inl (hw _ (List.mem_of_getElem? (i := 23) rfl))) Via.refl e28 H30 (hb hby d9_284) ?_
  intro T31 X31 e31
  refine Gk.aloadN X31 hx (hb hby d9_287) rfl rfl ?_
  have H32 := (H12.keep K28 (ninS (Nat.ne_of_lt (Nat.lt_trans lt1 lt2)) nin0))
  refine Gk.getF X31 hx hZ hown (host := "") (Or.inl (hw _ (List.mem_of_getElem? (i := 67) rfl))) Via.refl e31 H32 (hb hby d9_288) ?_
  intro T33 X33 e33
  refine Gk.iloadN X33 hx (hb hby d9_291) rfl ?_
  have H35 := ((V_hashes.keep K2 (ninS (Ne.symm (Nat.ne_of_lt (Nat.lt_trans lt2 lt3))) nin0)).keep K28 (ninS (Ne.symm (Nat.ne_of_lt lt3)) nin0))
  refine Gk.iastore X33 hx hZ e33 H35 0 rfl ⟨by decide, by decide⟩ (.int (0 : Int32)) rfl (hb hby d9_292) ?_
  intro T34 h34 X34 e34 W34 V34
  have N34 := Fr.snoc X34 N28 (Nat.le_trans g_a1 (Nat.le_of_lt (Nat.lt_trans lt1 (Nat.lt_trans lt2 lt3))))
  refine Gk.aloadN X34 hx (hb hby d9_293) rfl rfl ?_
  have ne36 : a1 ≠ x_hashes := (Nat.ne_of_lt (Nat.lt_trans lt1 (Nat.lt_trans lt2 lt3)))
  have H37 := (((F_zones.keep K2 (ninS (Nat.ne_of_lt lt1) nin0)).keep K28 (ninS (Nat.ne_of_lt (Nat.lt_trans lt1 lt2)) nin0)).other W34 (Or.inl ne36))
  refine Gk.getF X34 hx hZ hown (host := "") (Or.inl (hw _ (List.mem_of_getElem? (i := 27) rfl))) Via.refl e34 H37 (hb hby d9_294) ?_
  intro T38 X38 e38
  refine Gk.aloadN X38 hx (hb hby d9_297) rfl rfl ?_
  have H39 := (H32.other W34 (Or.inl ne36))
  refine Gk.getF X38 hx hZ hown (host := "") (Or.inl (hw _ (List.mem_of_getElem? (i := 67) rfl))) Via.refl e38 H39 (hb hby d9_298) ?_
  intro T40 X40 e40
  refine Gk.aloadN X40 hx (hb hby d9_301) rfl rfl ?_
  have ne42 : ab ≠ x_zones := (Nat.ne_of_lt (Nat.lt_trans lt2 (Nat.lt_trans lt3 lt4)))
  have H43 := (((V_zones.keep K2 (ninS (Ne.symm ne42) nin0)).keep K28 (ninS (Ne.symm (Nat.ne_of_lt (Nat.lt_trans lt3 lt4))) nin0)).other W34 (Ne.symm (Nat.ne_of_lt lt4)))
  refine Gk.aastore X40 hx hZ e40 H43 0 rfl ⟨by decide, by decide⟩ rfl rfl (Or.inl rfl) (hb hby d9_302) ?_
  intro T41 h41 X41 e41 W41 V41
  have N41 := Fr.snoc X41 N34 (Nat.le_trans g_a1 (Nat.le_of_lt (Nat.lt_trans lt1 (Nat.lt_trans lt2 (Nat.lt_trans lt3 lt4)))))
  refine Gk.aloadN X41 hx (hb hby d9_303) rfl rfl ?_
  have ne44 : a1 ≠ x_zones := (Nat.ne_of_lt (Nat.lt_trans lt1 (Nat.lt_trans lt2 (Nat.lt_trans lt3 lt4))))
  have H45 := ((((F_held.keep K2 (ninS (Nat.ne_of_lt lt1) nin0)).keep K28 (ninS (Nat.ne_of_lt (Nat.lt_trans lt1 lt2)) nin0)).other W34 (Or.inl ne36)).other W41 (Or.inl ne44))
  refine Gk.getF X41 hx hZ hown (host := "") (Or.inl (hw _ (List.mem_of_getElem? (i := 32) rfl))) Via.refl e41 H45 (hb hby d9_304) ?_
  intro T46 X46 e46
  refine Gk.aloadN X46 hx (hb hby d9_307) rfl rfl ?_
  have H47 := (H39.other W41 (Or.inl ne44))
  refine Gk.getF X46 hx hZ hown (host := "") (Or.inl (hw _ (List.mem_of_getElem? (i := 67) rfl))) Via.refl e46 H47 (hb hby d9_308) ?_
  intro T48 X48 e48
  refine Gk.iconst X48 hx (hb hby d9_311) (0 : Int32) rfl ?_
  have ne50 : ab ≠ x_held := (Nat.ne_of_lt (Nat.lt_trans lt2 (Nat.lt_trans lt3 (Nat.lt_trans lt4 (Nat.lt_trans lt5 lt6)))))
  have ne51 : x_states ≠ x_held := (Nat.ne_of_lt (Nat.lt_trans lt3 (Nat.lt_trans lt4 (Nat.lt_trans lt5 lt6))))
  have ne52 : x_hashes ≠ x_held := (Nat.ne_of_lt (Nat.lt_trans lt4 (Nat.lt_trans lt5 lt6)))
  have H53 := ((((V_held.keep K2 (ninS (Ne.symm ne50) nin0)).keep K28 (ninS (Ne.symm ne51) nin0)).other W34 (Ne.symm ne52)).other W41 (Ne.symm (Nat.ne_of_lt (Nat.lt_trans lt5 lt6))))
  refine Gk.bastoreZ X48 hx hZ e48 H53 0 rfl ⟨by decide, by decide⟩ (.int (0 : Int32)) rfl (hb hby d9_312) ?_
  intro T49 h49 X49 e49 W49 V49
  have N49 := Fr.snoc X49 N41 (Nat.le_trans g_a1 (Nat.le_of_lt (Nat.lt_trans lt1 (Nat.lt_trans lt2 (Nat.lt_trans lt3 (Nat.lt_trans lt4 (Nat.lt_trans lt5 lt6)))))))
  refine Gk.aloadN X49 hx (hb hby d9_313) rfl rfl ?_
  have ne54 : a1 ≠ x_held := (Nat.ne_of_lt (Nat.lt_trans lt1 (Nat.lt_trans lt2 (Nat.lt_trans lt3 (Nat.lt_trans lt4 (Nat.lt_trans lt5 lt6))))))
  have H55 := (((((F_sameStates.keep K2 (ninS (Nat.ne_of_lt lt1) nin0)).keep K28 (ninS (Nat.ne_of_lt (Nat.lt_trans lt1 lt2)) nin0)).other W34 (Or.inl ne36)).other W41 (Or.inl ne44)).other W49 (Or.inl ne54))
  refine Gk.getF X49 hx hZ hown (host := "") (Or.inl (hw _ (List.mem_of_getElem? (i := 29) rfl))) Via.refl e49 H55 (hb hby d9_314) ?_
  intro T56 X56 e56
  refine Gk.aloadN X56 hx (hb hby d9_317) rfl rfl ?_
  have H57 := (H47.other W49 (Or.inl ne54))
  refine Gk.getF X56 hx hZ hown (host := "") (Or.inl (hw _ (List.mem_of_getElem? (i := 67) rfl))) Via.refl e56 H57 (hb hby d9_318) ?_
  intro T58 X58 e58
  refine Gk.iload X58 hx (hb hby d9_321) rfl ?_
  have ne60 : ab ≠ x_sameStates := (Nat.ne_of_lt (Nat.lt_trans lt2 (Nat.lt_trans lt3 (Nat.lt_trans lt4 lt5))))
  have ne61 : x_states ≠ x_sameStates := (Nat.ne_of_lt (Nat.lt_trans lt3 (Nat.lt_trans lt4 lt5)))
  have H62 := (((((V_sameStates.keep K2 (ninS (Ne.symm ne60) nin0)).keep K28 (ninS (Ne.symm ne61) nin0)).other W34 (Ne.symm (Nat.ne_of_lt (Nat.lt_trans lt4 lt5)))).other W41 (Ne.symm (Nat.ne_of_lt lt5))).other W49 (Nat.ne_of_lt lt6))
  refine Gk.iastore X58 hx hZ e58 H62 0 rfl ⟨by decide, by decide⟩ (.int (-1 : Int32)) rfl (hb hby d9_323) ?_
  intro T59 h59 X59 e59 W59 V59
  have N59 := Fr.snoc X59 N49 (Nat.le_trans g_a1 (Nat.le_of_lt (Nat.lt_trans lt1 (Nat.lt_trans lt2 (Nat.lt_trans lt3 (Nat.lt_trans lt4 lt5))))))
  refine Gk.aloadN X59 hx (hb hby d9_324) rfl rfl ?_
  have ne63 : a1 ≠ x_sameStates := (Nat.ne_of_lt (Nat.lt_trans lt1 (Nat.lt_trans lt2 (Nat.lt_trans lt3 (Nat.lt_trans lt4 lt5)))))
  have H64 := (((((H14.keep K28 (ninS (Nat.ne_of_lt (Nat.lt_trans lt1 lt2)) nin0)).other W34 (Or.inl ne36)).other W41 (Or.inl ne44)).other W49 (Or.inl ne54)).other W59 (Or.inl ne63))
  refine Gk.getF X59 hx hZ hown (host := "") (Or.inl (hw _ (List.mem_of_getElem? (i := 34) rfl))) Via.refl e59 H64 (hb hby d9_325) ?_
  intro T65 X65 e65
  refine Gk.aloadN X65 hx (hb hby d9_328) rfl rfl ?_
  have H66 := (H57.other W59 (Or.inl ne63))
  refine Gk.getF X65 hx hZ hown (host := "") (Or.inl (hw _ (List.mem_of_getElem? (i := 67) rfl))) Via.refl e65 H66 (hb hby d9_329) ?_
  intro T67 X67 e67
  refine Gk.iload X67 hx (hb hby d9_332) rfl ?_
  have ne69 : x_states ≠ x_parents := (Nat.ne_of_lt (Nat.lt_trans lt3 (Nat.lt_trans lt4 (Nat.lt_trans lt5 (Nat.lt_trans lt6 lt7)))))
  have ne70 : x_hashes ≠ x_parents := (Nat.ne_of_lt (Nat.lt_trans lt4 (Nat.lt_trans lt5 (Nat.lt_trans lt6 lt7))))
  have ne71 : x_zones ≠ x_parents := (Nat.ne_of_lt (Nat.lt_trans lt5 (Nat.lt_trans lt6 lt7)))
  have H72 := (((((H17.keep K28 (ninS (Ne.symm ne69) nin0)).other W34 (Ne.symm ne70)).other W41 (Ne.symm ne71)).other W49 (Ne.symm (Nat.ne_of_lt lt7))).other W59 (Ne.symm (Nat.ne_of_lt (Nat.lt_trans lt6 lt7))))
  refine Gk.iastore X67 hx hZ e67 H72 0 rfl ⟨by decide, by decide⟩ (.int (-1 : Int32)) rfl (hb hby d9_334) ?_
  intro T68 h68 X68 e68 W68 V68
  have N68 := Fr.snoc X68 N59 (Nat.le_trans g_a1 (Nat.le_of_lt (Nat.lt_trans lt1 (Nat.lt_trans lt2 (Nat.lt_trans lt3 (Nat.lt_trans lt4 (Nat.lt_trans lt5 (Nat.lt_trans lt6 lt7))))))))
  refine Gk.aloadN X68 hx (hb hby d9_335) rfl rfl ?_
  have ne73 : a1 ≠ x_parents := (Nat.ne_of_lt (Nat.lt_trans lt1 (Nat.lt_trans lt2 (Nat.lt_trans lt3 (Nat.lt_trans lt4 (Nat.lt_trans lt5 (Nat.lt_trans lt6 lt7)))))))
  have H74 := (((((((F_events.keep K2 (ninS (Nat.ne_of_lt lt1) nin0)).keep K28 (ninS (Nat.ne_of_lt (Nat.lt_trans lt1 lt2)) nin0)).other W34 (Or.inl ne36)).other W41 (Or.inl ne44)).other W49 (Or.inl ne54)).other W59 (Or.inl ne63)).other W68 (Or.inl ne73))
  refine Gk.getF X68 hx hZ hown (host := "") (Or.inl (hw _ (List.mem_of_getElem? (i := 38) rfl))) Via.refl e68 H74 (hb hby d9_336) ?_
  intro T75 X75 e75
  refine Gk.aloadN X75 hx (hb hby d9_339) rfl rfl ?_
  have H76 := (H66.other W68 (Or.inl ne73))
  refine Gk.getF X75 hx hZ hown (host := "") (Or.inl (hw _ (List.mem_of_getElem? (i := 67) rfl))) Via.refl e75 H76 (hb hby d9_340) ?_
  intro T77 X77 e77
  refine Gk.aload X77 hx (hb hby d9_343) rfl rfl ?_
  have ne79 : ab ≠ x_events := (Nat.ne_of_lt (Nat.lt_trans lt2 (Nat.lt_trans lt3 (Nat.lt_trans lt4 (Nat.lt_trans lt5 (Nat.lt_trans lt6 (Nat.lt_trans lt7 lt8)))))))
  have ne80 : x_states ≠ x_events := (Nat.ne_of_lt (Nat.lt_trans lt3 (Nat.lt_trans lt4 (Nat.lt_trans lt5 (Nat.lt_trans lt6 (Nat.lt_trans lt7 lt8))))))
  have ne81 : x_hashes ≠ x_events := (Nat.ne_of_lt (Nat.lt_trans lt4 (Nat.lt_trans lt5 (Nat.lt_trans lt6 (Nat.lt_trans lt7 lt8)))))
  have ne82 : x_zones ≠ x_events := (Nat.ne_of_lt (Nat.lt_trans lt5 (Nat.lt_trans lt6 (Nat.lt_trans lt7 lt8))))
  have ne83 : x_sameStates ≠ x_events := (Nat.ne_of_lt (Nat.lt_trans lt6 (Nat.lt_trans lt7 lt8)))
  have H84 := (((((((V_events.keep K2 (ninS (Ne.symm ne79) nin0)).keep K28 (ninS (Ne.symm ne80) nin0)).other W34 (Ne.symm ne81)).other W41 (Ne.symm ne82)).other W49 (Ne.symm (Nat.ne_of_lt (Nat.lt_trans lt7 lt8)))).other W59 (Ne.symm ne83)).other W68 (Ne.symm (Nat.ne_of_lt lt8)))
  refine Gk.aastore X77 hx hZ e77 H84 0 rfl ⟨by decide, by decide⟩ rfl rfl (Or.inl rfl) (hb hby d9_345) ?_
  intro T78 h78 X78 e78 W78 V78
  have N78 := Fr.snoc X78 N68 (Nat.le_trans g_a1 (Nat.le_of_lt (Nat.lt_trans lt1 (Nat.lt_trans lt2 (Nat.lt_trans lt3 (Nat.lt_trans lt4 (Nat.lt_trans lt5 (Nat.lt_trans lt6 (Nat.lt_trans lt7 lt8)))))))))
  refine Gk.aloadN X78 hx (hb hby d9_346) rfl rfl ?_
  have ne85 : a1 ≠ x_events := (Nat.ne_of_lt (Nat.lt_trans lt1 (Nat.lt_trans lt2 (Nat.lt_trans lt3 (Nat.lt_trans lt4 (Nat.lt_trans lt5 (Nat.lt_trans lt6 (Nat.lt_trans lt7 lt8))))))))
  have H86 := ((((((((F_ranks.keep K2 (ninS (Nat.ne_of_lt lt1) nin0)).keep K28 (ninS (Nat.ne_of_lt (Nat.lt_trans lt1 lt2)) nin0)).other W34 (Or.inl ne36)).other W41 (Or.inl ne44)).other W49 (Or.inl ne54)).other W59 (Or.inl ne63)).other W68 (Or.inl ne73)).other W78 (Or.inl ne85))
  refine Gk.getF X78 hx hZ hown (host := "") (Or.inl (hw _ (List.mem_of_getElem? (i := 40) rfl))) Via.refl e78 H86 (hb hby d9_347) ?_
  intro T87 X87 e87
  refine Gk.aloadN X87 hx (hb hby d9_350) rfl rfl ?_
  have H88 := (H76.other W78 (Or.inl ne85))
  refine Gk.getF X87 hx hZ hown (host := "") (Or.inl (hw _ (List.mem_of_getElem? (i := 67) rfl))) Via.refl e87 H88 (hb hby d9_351) ?_
  intro T89 X89 e89
  refine Gk.iload X89 hx (hb hby d9_354) rfl ?_
  have ne91 : ab ≠ x_ranks := (Nat.ne_of_lt (Nat.lt_trans lt2 (Nat.lt_trans lt3 (Nat.lt_trans lt4 (Nat.lt_trans lt5 (Nat.lt_trans lt6 (Nat.lt_trans lt7 (Nat.lt_trans lt8 lt9))))))))
  have ne92 : x_states ≠ x_ranks := (Nat.ne_of_lt (Nat.lt_trans lt3 (Nat.lt_trans lt4 (Nat.lt_trans lt5 (Nat.lt_trans lt6 (Nat.lt_trans lt7 (Nat.lt_trans lt8 lt9)))))))
  have ne93 : x_hashes ≠ x_ranks := (Nat.ne_of_lt (Nat.lt_trans lt4 (Nat.lt_trans lt5 (Nat.lt_trans lt6 (Nat.lt_trans lt7 (Nat.lt_trans lt8 lt9))))))
  have ne94 : x_zones ≠ x_ranks := (Nat.ne_of_lt (Nat.lt_trans lt5 (Nat.lt_trans lt6 (Nat.lt_trans lt7 (Nat.lt_trans lt8 lt9)))))
  have ne95 : x_held ≠ x_ranks := (Nat.ne_of_lt (Nat.lt_trans lt7 (Nat.lt_trans lt8 lt9)))
  have ne96 : x_sameStates ≠ x_ranks := (Nat.ne_of_lt (Nat.lt_trans lt6 (Nat.lt_trans lt7 (Nat.lt_trans lt8 lt9))))
  have H97 := ((((((((V_ranks.keep K2 (ninS (Ne.symm ne91) nin0)).keep K28 (ninS (Ne.symm ne92) nin0)).other W34 (Ne.symm ne93)).other W41 (Ne.symm ne94)).other W49 (Ne.symm ne95)).other W59 (Ne.symm ne96)).other W68 (Ne.symm (Nat.ne_of_lt (Nat.lt_trans lt8 lt9)))).other W78 (Ne.symm (Nat.ne_of_lt lt9)))
  refine Gk.iastore X89 hx hZ e89 H97 0 rfl ⟨by decide, by decide⟩ (.int p7) rfl (hb hby d9_356) ?_
  intro T90 h90 X90 e90 W90 V90
  have N90 := Fr.snoc X90 N78 (Nat.le_trans g_a1 (Nat.le_of_lt (Nat.lt_trans lt1 (Nat.lt_trans lt2 (Nat.lt_trans lt3 (Nat.lt_trans lt4 (Nat.lt_trans lt5 (Nat.lt_trans lt6 (Nat.lt_trans lt7 (Nat.lt_trans lt8 lt9))))))))))
  refine Gk.aloadN X90 hx (hb hby d9_357) rfl rfl ?_
  have ne98 : a1 ≠ x_ranks := (Nat.ne_of_lt (Nat.lt_trans lt1 (Nat.lt_trans lt2 (Nat.lt_trans lt3 (Nat.lt_trans lt4 (Nat.lt_trans lt5 (Nat.lt_trans lt6 (Nat.lt_trans lt7 (Nat.lt_trans lt8 lt9)))))))))
  have H99 := (((((((((F_reached.keep K2 (ninS (Nat.ne_of_lt lt1) nin0)).keep K28 (ninS (Nat.ne_of_lt (Nat.lt_trans lt1 lt2)) nin0)).other W34 (Or.inl ne36)).other W41 (Or.inl ne44)).other W49 (Or.inl ne54)).other W59 (Or.inl ne63)).other W68 (Or.inl ne73)).other W78 (Or.inl ne85)).other W90 (Or.inl ne98))
  refine Gk.getF X90 hx hZ hown (host := "") (Or.inl (hw _ (List.mem_of_getElem? (i := 52) rfl))) Via.refl e90 H99 (hb hby d9_358) ?_
  intro T100 X100 e100
  refine Gk.iload X100 hx (hb hby d9_361) rfl ?_
  have ne102 : ab ≠ x_reached := (Nat.ne_of_lt (Nat.lt_trans lt2 (Nat.lt_trans lt3 (Nat.lt_trans lt4 (Nat.lt_trans lt5 (Nat.lt_trans lt6 (Nat.lt_trans lt7 (Nat.lt_trans lt8 (Nat.lt_trans lt9 (Nat.lt_trans lt10 (Nat.lt_trans lt11 (Nat.lt_trans lt12 lt13))))))))))))
  have ne103 : x_states ≠ x_reached := (Nat.ne_of_lt (Nat.lt_trans lt3 (Nat.lt_trans lt4 (Nat.lt_trans lt5 (Nat.lt_trans lt6 (Nat.lt_trans lt7 (Nat.lt_trans lt8 (Nat.lt_trans lt9 (Nat.lt_trans lt10 (Nat.lt_trans lt11 (Nat.lt_trans lt12 lt13)))))))))))
  have ne104 : x_hashes ≠ x_reached := (Nat.ne_of_lt (Nat.lt_trans lt4 (Nat.lt_trans lt5 (Nat.lt_trans lt6 (Nat.lt_trans lt7 (Nat.lt_trans lt8 (Nat.lt_trans lt9 (Nat.lt_trans lt10 (Nat.lt_trans lt11 (Nat.lt_trans lt12 lt13))))))))))
  have ne105 : x_zones ≠ x_reached := (Nat.ne_of_lt (Nat.lt_trans lt5 (Nat.lt_trans lt6 (Nat.lt_trans lt7 (Nat.lt_trans lt8 (Nat.lt_trans lt9 (Nat.lt_trans lt10 (Nat.lt_trans lt11 (Nat.lt_trans lt12 lt13)))))))))
  have ne106 : x_held ≠ x_reached := (Nat.ne_of_lt (Nat.lt_trans lt7 (Nat.lt_trans lt8 (Nat.lt_trans lt9 (Nat.lt_trans lt10 (Nat.lt_trans lt11 (Nat.lt_trans lt12 lt13)))))))
  have ne107 : x_sameStates ≠ x_reached := (Nat.ne_of_lt (Nat.lt_trans lt6 (Nat.lt_trans lt7 (Nat.lt_trans lt8 (Nat.lt_trans lt9 (Nat.lt_trans lt10 (Nat.lt_trans lt11 (Nat.lt_trans lt12 lt13))))))))
  have ne108 : x_parents ≠ x_reached := (Nat.ne_of_lt (Nat.lt_trans lt8 (Nat.lt_trans lt9 (Nat.lt_trans lt10 (Nat.lt_trans lt11 (Nat.lt_trans lt12 lt13))))))
  have ne109 : x_events ≠ x_reached := (Nat.ne_of_lt (Nat.lt_trans lt9 (Nat.lt_trans lt10 (Nat.lt_trans lt11 (Nat.lt_trans lt12 lt13)))))
  have ne110 : x_ranks ≠ x_reached := (Nat.ne_of_lt (Nat.lt_trans lt10 (Nat.lt_trans lt11 (Nat.lt_trans lt12 lt13))))
  have H111 := (((((((((V_reached.keep K2 (ninS (Ne.symm ne102) nin0)).keep K28 (ninS (Ne.symm ne103) nin0)).other W34 (Ne.symm ne104)).other W41 (Ne.symm ne105)).other W49 (Ne.symm ne106)).other W59 (Ne.symm ne107)).other W68 (Ne.symm ne108)).other W78 (Ne.symm ne109)).other W90 (Ne.symm ne110))
  refine Gk.iaload X100 hx hZ e100 H111 hk3 (.int (Rf p7.toNatClampNeg)) rfl (hb hby d9_363) ?_
  refine Gk.aloadN X100 hx (hb hby d9_364) rfl rfl ?_
  have H112 := (((((((((F_ranked.keep K2 (ninS (Nat.ne_of_lt lt1) nin0)).keep K28 (ninS (Nat.ne_of_lt (Nat.lt_trans lt1 lt2)) nin0)).other W34 (Or.inl ne36)).other W41 (Or.inl ne44)).other W49 (Or.inl ne54)).other W59 (Or.inl ne63)).other W68 (Or.inl ne73)).other W78 (Or.inl ne85)).other W90 (Or.inl ne98))
  refine Gk.getF X100 hx hZ hown (host := "") (Or.inl (hw _ (List.mem_of_getElem? (i := 50) rfl))) Via.refl e100 H112 (hb hby d9_365) ?_
  intro T113 X113 e113
  refine Gk.iload X113 hx (hb hby d9_368) rfl ?_
  have ne115 : ab ≠ x_ranked := (Nat.ne_of_lt (Nat.lt_trans lt2 (Nat.lt_trans lt3 (Nat.lt_trans lt4 (Nat.lt_trans lt5 (Nat.lt_trans lt6 (Nat.lt_trans lt7 (Nat.lt_trans lt8 (Nat.lt_trans lt9 (Nat.lt_trans lt10 lt11))))))))))
  have ne116 : x_states ≠ x_ranked := (Nat.ne_of_lt (Nat.lt_trans lt3 (Nat.lt_trans lt4 (Nat.lt_trans lt5 (Nat.lt_trans lt6 (Nat.lt_trans lt7 (Nat.lt_trans lt8 (Nat.lt_trans lt9 (Nat.lt_trans lt10 lt11)))))))))
  have ne117 : x_hashes ≠ x_ranked := (Nat.ne_of_lt (Nat.lt_trans lt4 (Nat.lt_trans lt5 (Nat.lt_trans lt6 (Nat.lt_trans lt7 (Nat.lt_trans lt8 (Nat.lt_trans lt9 (Nat.lt_trans lt10 lt11))))))))
  have ne118 : x_zones ≠ x_ranked := (Nat.ne_of_lt (Nat.lt_trans lt5 (Nat.lt_trans lt6 (Nat.lt_trans lt7 (Nat.lt_trans lt8 (Nat.lt_trans lt9 (Nat.lt_trans lt10 lt11)))))))
  have ne119 : x_held ≠ x_ranked := (Nat.ne_of_lt (Nat.lt_trans lt7 (Nat.lt_trans lt8 (Nat.lt_trans lt9 (Nat.lt_trans lt10 lt11)))))
  have ne120 : x_sameStates ≠ x_ranked := (Nat.ne_of_lt (Nat.lt_trans lt6 (Nat.lt_trans lt7 (Nat.lt_trans lt8 (Nat.lt_trans lt9 (Nat.lt_trans lt10 lt11))))))
  have ne121 : x_parents ≠ x_ranked := (Nat.ne_of_lt (Nat.lt_trans lt8 (Nat.lt_trans lt9 (Nat.lt_trans lt10 lt11))))
  have ne122 : x_events ≠ x_ranked := (Nat.ne_of_lt (Nat.lt_trans lt9 (Nat.lt_trans lt10 lt11)))
  have H123 := (((((((((V_ranked.keep K2 (ninS (Ne.symm ne115) nin0)).keep K28 (ninS (Ne.symm ne116) nin0)).other W34 (Ne.symm ne117)).other W41 (Ne.symm ne118)).other W49 (Ne.symm ne119)).other W59 (Ne.symm ne120)).other W68 (Ne.symm ne121)).other W78 (Ne.symm ne122)).other W90 (Ne.symm (Nat.ne_of_lt (Nat.lt_trans lt10 lt11))))
  refine Gk.aaload X113 hx hZ e113 H123 rfl hk3 (.ref yk) (congrArg Value.ref eyk.symm) (hb hby d9_370) ?_
  have ne124 : ab ≠ yk := (Nat.ne_of_lt (Nat.lt_trans lt2 (Nat.lt_trans lt3 (Nat.lt_trans lt4 (Nat.lt_trans lt5 (Nat.lt_trans lt6 (Nat.lt_trans lt7 (Nat.lt_trans lt8 (Nat.lt_trans lt9 (Nat.lt_trans lt10 (Nat.lt_trans lt11 lt12)))))))))))
  have ne125 : x_states ≠ yk := (Nat.ne_of_lt (Nat.lt_trans lt3 (Nat.lt_trans lt4 (Nat.lt_trans lt5 (Nat.lt_trans lt6 (Nat.lt_trans lt7 (Nat.lt_trans lt8 (Nat.lt_trans lt9 (Nat.lt_trans lt10 (Nat.lt_trans lt11 lt12))))))))))
  have ne126 : x_hashes ≠ yk := (Nat.ne_of_lt (Nat.lt_trans lt4 (Nat.lt_trans lt5 (Nat.lt_trans lt6 (Nat.lt_trans lt7 (Nat.lt_trans lt8 (Nat.lt_trans lt9 (Nat.lt_trans lt10 (Nat.lt_trans lt11 lt12)))))))))
  have ne127 : x_zones ≠ yk := (Nat.ne_of_lt (Nat.lt_trans lt5 (Nat.lt_trans lt6 (Nat.lt_trans lt7 (Nat.lt_trans lt8 (Nat.lt_trans lt9 (Nat.lt_trans lt10 (Nat.lt_trans lt11 lt12))))))))
  have ne128 : x_held ≠ yk := (Nat.ne_of_lt (Nat.lt_trans lt7 (Nat.lt_trans lt8 (Nat.lt_trans lt9 (Nat.lt_trans lt10 (Nat.lt_trans lt11 lt12))))))
  have ne129 : x_sameStates ≠ yk := (Nat.ne_of_lt (Nat.lt_trans lt6 (Nat.lt_trans lt7 (Nat.lt_trans lt8 (Nat.lt_trans lt9 (Nat.lt_trans lt10 (Nat.lt_trans lt11 lt12)))))))
  have ne130 : x_parents ≠ yk := (Nat.ne_of_lt (Nat.lt_trans lt8 (Nat.lt_trans lt9 (Nat.lt_trans lt10 (Nat.lt_trans lt11 lt12)))))
  have ne131 : x_events ≠ yk := (Nat.ne_of_lt (Nat.lt_trans lt9 (Nat.lt_trans lt10 (Nat.lt_trans lt11 lt12))))
  have ne132 : x_ranks ≠ yk := (Nat.ne_of_lt (Nat.lt_trans lt10 (Nat.lt_trans lt11 lt12)))
  have H133 := (((((((((V_rk.keep K2 (ninS (Ne.symm ne124) nin0)).keep K28 (ninS (Ne.symm ne125) nin0)).other W34 (Ne.symm ne126)).other W41 (Ne.symm ne127)).other W49 (Ne.symm ne128)).other W59 (Ne.symm ne129)).other W68 (Ne.symm ne130)).other W78 (Ne.symm ne131)).other W90 (Ne.symm ne132))
  refine Gk.alen X113 hx hZ e113 H133 (hb hby d9_371) ?_
  have hc372 : ¬ ((Rf p7.toNatClampNeg) = (8 : Int32)) := (fun q_ => Int32.lt_irrefl (q_ ▸ hr8.2))
  refine Gk.icmpYes X113 hx (hb hby d9_372) (feq hc372).2 401 (by decide) (by decide) ?_
  refine Gk.aloadN X113 hx (hb hby d9_401) rfl rfl ?_
  refine Gk.getF X113 hx hZ hown (host := "") (Or.inl (hw _ (List.mem_of_getElem? (i := 50) rfl))) Via.refl e113 H112 (hb hby d9_402) ?_
  intro T134 X134 e134
  refine Gk.iload X134 hx (hb hby d9_405) rfl ?_
  refine Gk.aaload X134 hx hZ e134 H123 rfl hk3 (.ref yk) (congrArg Value.ref eyk.symm) (hb hby d9_407) ?_
  refine Gk.aloadN X134 hx (hb hby d9_408) rfl rfl ?_
  refine Gk.getF X134 hx hZ hown (host := "") (Or.inl (hw _ (List.mem_of_getElem? (i := 52) rfl))) Via.refl e134 H99 (hb hby d9_409) ?_
  intro T136 X136 e136
  refine Gk.iload X136 hx (hb hby d9_412) rfl ?_
  refine Gk.dup2 X136 hx (hb hby d9_414) rfl rfl ?_
  refine Gk.iaload X136 hx hZ e136 H111 hk3 (.int (Rf p7.toNatClampNeg)) rfl (hb hby d9_415) ?_
  refine Gk.dupX2 X136 hx (hb hby d9_416) rfl rfl rfl ?_
  refine Gk.iconst X136 hx (hb hby d9_417) (1 : Int32) rfl ?_
  refine Gk.iadd X136 hx (hb hby d9_418) _ rfl ?_
  refine Gk.iastore X136 hx hZ e136 H111 p7.toNatClampNeg rfl hk3 (.int ((Rf p7.toNatClampNeg) + (1 : Int32))) rfl (hb hby d9_419) ?_
  intro T138 h138 X138 e138 W138 V138
  have N138 := Fr.snoc X138 N90 (Nat.le_trans g_a1 (Nat.le_of_lt (Nat.lt_trans lt1 (Nat.lt_trans lt2 (Nat.lt_trans lt3 (Nat.lt_trans lt4 (Nat.lt_trans lt5 (Nat.lt_trans lt6 (Nat.lt_trans lt7 (Nat.lt_trans lt8 (Nat.lt_trans lt9 (Nat.lt_trans lt10 (Nat.lt_trans lt11 (Nat.lt_trans lt12 lt13))))))))))))))
  refine Gk.aloadN X138 hx (hb hby d9_420) rfl rfl ?_
  have ne139 : a1 ≠ x_reached := (Nat.ne_of_lt (Nat.lt_trans lt1 (Nat.lt_trans lt2 (Nat.lt_trans lt3 (Nat.lt_trans lt4 (Nat.lt_trans lt5 (Nat.lt_trans lt6 (Nat.lt_trans lt7 (Nat.lt_trans lt8 (Nat.lt_trans lt9 (Nat.lt_trans lt10 (Nat.lt_trans lt11 (Nat.lt_trans lt12 lt13)))))))))))))
  have H140 := ((H88.other W90 (Or.inl ne98)).other W138 (Or.inl ne139))
  refine Gk.getF X138 hx hZ hown (host := "") (Or.inl (hw _ (List.mem_of_getElem? (i := 67) rfl))) Via.refl e138 H140 (hb hby d9_421) ?_
  intro T141 X141 e141
  have H143 := (H133.other W138 (Nat.ne_of_lt lt13))
  refine Gk.iastore X141 hx hZ e141 H143 (Rf p7.toNatClampNeg).toNatClampNeg rfl hr8 (.int (0 : Int32)) rfl (hb hby d9_424) ?_
  intro T142 h142 X142 e142 W142 V142
  have N142 := Fr.snoc X142 N138 (Nat.le_trans g_a1 (Nat.le_of_lt (Nat.lt_trans lt1 (Nat.lt_trans lt2 (Nat.lt_trans lt3 (Nat.lt_trans lt4 (Nat.lt_trans lt5 (Nat.lt_trans lt6 (Nat.lt_trans lt7 (Nat.lt_trans lt8 (Nat.lt_trans lt9 (Nat.lt_trans lt10 (Nat.lt_trans lt11 lt12)))))))))))))
  refine Gk.aloadN X142 hx (hb hby d9_425) rfl rfl ?_
  refine Gk.aloadN X142 hx (hb hby d9_426) rfl rfl ?_
  have ne144 : a1 ≠ yk := (Nat.ne_of_lt (Nat.lt_trans lt1 (Nat.lt_trans lt2 (Nat.lt_trans lt3 (Nat.lt_trans lt4 (Nat.lt_trans lt5 (Nat.lt_trans lt6 (Nat.lt_trans lt7 (Nat.lt_trans lt8 (Nat.lt_trans lt9 (Nat.lt_trans lt10 (Nat.lt_trans lt11 lt12))))))))))))
  have H145 := (((((((((((F_lowest.keep K2 (ninS (Nat.ne_of_lt lt1) nin0)).keep K28 (ninS (Nat.ne_of_lt (Nat.lt_trans lt1 lt2)) nin0)).other W34 (Or.inl ne36)).other W41 (Or.inl ne44)).other W49 (Or.inl ne54)).other W59 (Or.inl ne63)).other W68 (Or.inl ne73)).other W78 (Or.inl ne85)).other W90 (Or.inl ne98)).other W138 (Or.inl ne139)).other W142 (Or.inl ne144))
  refine Gk.getF X142 hx hZ hown (host := "") (Or.inl (hw _ (List.mem_of_getElem? (i := 75) rfl))) Via.refl e142 H145 (hb hby d9_427) ?_
  intro T146 X146 e146
  refine Gk.iload X146 hx (hb hby d9_430) rfl ?_
  have gr148 := (Nat.le_trans (Nat.le_trans (Nat.le_trans (Nat.le_trans (Nat.le_trans (Nat.le_trans (Nat.le_trans (Nat.le_trans (Nat.le_trans (Nat.le_trans K2.1 K28.1) (Keep.of_wr W34).1) (Keep.of_wr W41).1) (Keep.of_wr W49).1) (Keep.of_wr W59).1) (Keep.of_wr W68).1) (Keep.of_wr W78).1) (Keep.of_wr W90).1) (Keep.of_wr W138).1) (Keep.of_wr W142).1)
  refine Gk.callS (argsL := [(.int (0 : Int32)), (.int p7)]) X146 hx hZ hown (rm13 l Z a0 hw [] (0 : Int32) p7 h142 n0 (Nat.le_trans Z0 gr148)) (hw _ (List.mem_of_getElem? (i := 105) rfl)) (hw _ (List.mem_of_getElem? (i := 106) rfl)) (hw _ (List.mem_of_getElem? (i := 107) rfl)) (hw _ (List.mem_of_getElem? (i := 108) rfl)) (by decide) e146 pd_3 rfl rfl (by decide) (Nat.le_of_ble_eq_true rfl) (by decide) (by decide) (by rw [hml]; rfl)  rfl (hb hby d9_432) ?_
  intro T147 L147 v147 X147 hQ147
  obtain ⟨rfl, N147q, e147⟩ := hQ147
  have N147 := Fr.app N142 N147q
  show Go p e below (T147.setTop (mkF m 435 #[.val (.ref a1), .val (.ref a2), .val (.int (0 : Int32)), .val .null, .val (.int (-1 : Int32)), .val .null, .val (.int p7), .val (.int (-1 : Int32)), .val (.int (31 : Int32)), .val (.int (0 : Int32))] [(.int (if p7 < (0 : Int32) then p7 else (0 : Int32))), (.ref a1)])) _
  rw [show (if p7 < (0 : Int32) then p7 else (0 : Int32)) = (0 : Int32) from (if_neg hk3.1)]
  have H149 := ((((((((((H7.keep K28).wr W34).wr W41).wr W49).wr W59).wr W68).wr W78).wr W90).wr W138).wr W142)
  refine Gk.putF X147 hx hZ hown (host := "") (Or.inl (hw _ (List.mem_of_getElem? (i := 75) rfl))) Via.refl e147 H145 H149 (Or.inl (hw _ (List.mem_of_getElem? (i := 76) rfl))) (hw _ (List.mem_of_getElem? (i := 3) rfl)) (ty := .int) (by decide) rfl rfl (hb hby d9_435) ?_
  intro T150 h150 X150 e150 W150
  have Fw150 := H145.same W150
  have N150 := Fr.snoc X150 N147 g_a1
  refine Gk.aloadN X150 hx (hb hby d9_438) rfl rfl ?_
  refine Gk.dup X150 hx (hb hby d9_439) rfl ?_
  have H151 := ((H140.other W142 (Or.inl ne144)).other W150 (Or.inr (slot_ne (Or.inl (hw _ (List.mem_of_getElem? (i := 68) rfl))) (Or.inl (hw _ (List.mem_of_getElem? (i := 76) rfl))) (by decide) (t := .int) (t' := .int) (by decide) (by decide))))
  refine Gk.getF X150 hx hZ hown (host := "") (Or.inl (hw _ (List.mem_of_getElem? (i := 67) rfl))) Via.refl e150 H151 (hb hby d9_440) ?_
  intro T152 X152 e152
  refine Gk.iconst X152 hx (hb hby d9_443) (1 : Int32) rfl ?_
  refine Gk.iadd X152 hx (hb hby d9_444) (1 : Int32) (by decide) ?_
  have H153 := (H149.wr W150)
  refine Gk.putF X152 hx hZ hown (host := "") (Or.inl (hw _ (List.mem_of_getElem? (i := 67) rfl))) Via.refl e152 H151 H153 (Or.inl (hw _ (List.mem_of_getElem? (i := 68) rfl))) (hw _ (List.mem_of_getElem? (i := 3) rfl)) (ty := .int) (by decide) rfl rfl (hb hby d9_445) ?_
  intro T154 h154 X154 e154 W154
  have Fw154 := H151.same W154
  have N154 := Fr.snoc X154 N150 g_a1
  refine Gk.aloadN X154 hx (hb hby d9_448) rfl rfl ?_
  have H155 := ((((((((((((H6.keep K28 (ninS (Nat.ne_of_lt (Nat.lt_trans lt1 lt2)) nin0)).other W34 (Or.inl ne36)).other W41 (Or.inl ne44)).other W49 (Or.inl ne54)).other W59 (Or.inl ne63)).other W68 (Or.inl ne73)).other W78 (Or.inl ne85)).other W90 (Or.inl ne98)).other W138 (Or.inl ne139)).other W142 (Or.inl ne144)).other W150 (Or.inr (slot_ne (Or.inl (hw _ (List.mem_of_getElem? (i := 43) rfl))) (Or.inl (hw _ (List.mem_of_getElem? (i := 76) rfl))) (by decide) (t := (.array .int)) (t' := .int) (by decide) (by decide)))).other W154 (Or.inr (slot_ne (Or.inl (hw _ (List.mem_of_getElem? (i := 43) rfl))) (Or.inl (hw _ (List.mem_of_getElem? (i := 68) rfl))) (by decide) (t := (.array .int)) (t' := .int) (by decide) (by decide))))
  refine Gk.getF X154 hx hZ hown (host := "") (Or.inl (hw _ (List.mem_of_getElem? (i := 42) rfl))) Via.refl e154 H155 (hb hby d9_449) ?_
  intro T156 X156 e156
  refine Gk.iload X156 hx (hb hby d9_452) rfl ?_
  refine Gk.aloadN X156 hx (hb hby d9_454) rfl rfl ?_
  refine Gk.getF X156 hx hZ hown (host := "") (Or.inl (hw _ (List.mem_of_getElem? (i := 67) rfl))) Via.refl e156 Fw154 (hb hby d9_455) ?_
  intro T157 X157 e157
  have ne159 : x_states ≠ x_slots := (Nat.ne_of_lt (Nat.lt_trans lt3 (Nat.lt_trans lt4 (Nat.lt_trans lt5 (Nat.lt_trans lt6 (Nat.lt_trans lt7 (Nat.lt_trans lt8 (Nat.lt_trans lt9 lt10))))))))
  have ne160 : x_hashes ≠ x_slots := (Nat.ne_of_lt (Nat.lt_trans lt4 (Nat.lt_trans lt5 (Nat.lt_trans lt6 (Nat.lt_trans lt7 (Nat.lt_trans lt8 (Nat.lt_trans lt9 lt10)))))))
  have ne161 : x_zones ≠ x_slots := (Nat.ne_of_lt (Nat.lt_trans lt5 (Nat.lt_trans lt6 (Nat.lt_trans lt7 (Nat.lt_trans lt8 (Nat.lt_trans lt9 lt10))))))
  have ne162 : x_held ≠ x_slots := (Nat.ne_of_lt (Nat.lt_trans lt7 (Nat.lt_trans lt8 (Nat.lt_trans lt9 lt10))))
  have ne163 : x_sameStates ≠ x_slots := (Nat.ne_of_lt (Nat.lt_trans lt6 (Nat.lt_trans lt7 (Nat.lt_trans lt8 (Nat.lt_trans lt9 lt10)))))
  have ne164 : x_parents ≠ x_slots := (Nat.ne_of_lt (Nat.lt_trans lt8 (Nat.lt_trans lt9 lt10)))
  have ne165 : x_slots ≠ x_reached := (Nat.ne_of_lt (Nat.lt_trans lt11 (Nat.lt_trans lt12 lt13)))
  have ne166 : a1 ≠ x_slots := (Nat.ne_of_lt (Nat.lt_trans lt1 (Nat.lt_trans lt2 (Nat.lt_trans lt3 (Nat.lt_trans lt4 (Nat.lt_trans lt5 (Nat.lt_trans lt6 (Nat.lt_trans lt7 (Nat.lt_trans lt8 (Nat.lt_trans lt9 lt10))))))))))
  have H167 := ((((((((((((H5.keep K28 (ninS (Ne.symm ne159) nin0)).other W34 (Ne.symm ne160)).other W41 (Ne.symm ne161)).other W49 (Ne.symm ne162)).other W59 (Ne.symm ne163)).other W68 (Ne.symm ne164)).other W78 (Ne.symm (Nat.ne_of_lt (Nat.lt_trans lt9 lt10)))).other W90 (Ne.symm (Nat.ne_of_lt lt10))).other W138 ne165).other W142 (Nat.ne_of_lt (Nat.lt_trans lt11 lt12))).other W150 (Ne.symm ne166)).other W154 (Ne.symm ne166))
  refine Gk.iastore X157 hx hZ e157 H167 0 rfl ⟨by decide, by decide⟩ (.int (1 : Int32)) rfl (hb hby d9_458) ?_
  intro T158 h158 X158 e158 W158 V158
  have N158 := Fr.snoc X158 N154 (Nat.le_trans g_a1 (Nat.le_of_lt (Nat.lt_trans lt1 (Nat.lt_trans lt2 (Nat.lt_trans lt3 (Nat.lt_trans lt4 (Nat.lt_trans lt5 (Nat.lt_trans lt6 (Nat.lt_trans lt7 (Nat.lt_trans lt8 (Nat.lt_trans lt9 lt10)))))))))))
  refine Gk.aloadN X158 hx (hb hby d9_459) rfl rfl ?_
  have H168 := (Fw154.other W158 (Or.inl ne166))
  refine Gk.getF X158 hx hZ hown (host := "") (Or.inl (hw _ (List.mem_of_getElem? (i := 67) rfl))) Via.refl e158 H168 (hb hby d9_460) ?_
  intro T169 X169 e169
  refine Gk.iconst X169 hx (hb hby d9_463) (2 : Int32) rfl ?_
  refine Gk.imul X169 hx (hb hby d9_464) (2 : Int32) (by decide) ?_
  refine Gk.aloadN X169 hx (hb hby d9_465) rfl rfl ?_
  have H170 := (H155.other W158 (Or.inl ne166))
  refine Gk.getF X169 hx hZ hown (host := "") (Or.inl (hw _ (List.mem_of_getElem? (i := 42) rfl))) Via.refl e169 H170 (hb hby d9_466) ?_
  intro T171 X171 e171
  refine Gk.alen X171 hx hZ e171 V158 (hb hby d9_469) ?_
  refine Gk.icmpYes X171 hx (hb hby d9_470) (flt (by decide : ¬ ((32 : Int32) < (2 : Int32)))).2.2.2 477 (by decide) (by decide) ?_
  have H172 := (((((((((((((Fl2.keep K28 (ninS (Nat.ne_of_lt lt2) nin0)).other W34 (Or.inl (Nat.ne_of_lt (Nat.lt_trans lt2 lt3)))).other W41 (Or.inl ne42)).other W49 (Or.inl ne50)).other W59 (Or.inl ne60)).other W68 (Or.inl ne16)).other W78 (Or.inl ne79)).other W90 (Or.inl ne91)).other W138 (Or.inl ne102)).other W142 (Or.inl ne124)).other W150 (Or.inl (Ne.symm (Nat.ne_of_lt lt1)))).other W154 (Or.inl (Ne.symm (Nat.ne_of_lt lt1)))).other W158 (Or.inl ne4))
  have H173 := (((((((((((((H21.keep K28 (ninS (Nat.ne_of_lt (Nat.lt_trans lt1 lt2)) nin0)).other W34 (Or.inl ne36)).other W41 (Or.inl ne44)).other W49 (Or.inl ne54)).other W59 (Or.inl ne63)).other W68 (Or.inl ne73)).other W78 (Or.inl ne85)).other W90 (Or.inl ne98)).other W138 (Or.inl ne139)).other W142 (Or.inl ne144)).other W150 (Or.inr (slot_ne (Or.inl (hw _ (List.mem_of_getElem? (i := 22) rfl))) (Or.inl (hw _ (List.mem_of_getElem? (i := 76) rfl))) (by decide) (t := (.array .int)) (t' := .int) (by decide) (by decide)))).other W154 (Or.inr (slot_ne (Or.inl (hw _ (List.mem_of_getElem? (i := 22) rfl))) (Or.inl (hw _ (List.mem_of_getElem? (i := 68) rfl))) (by decide) (t := (.array .int)) (t' := .int) (by decide) (by decide)))).other W158 (Or.inl ne166))
  have H174 := ((((((((((((H30.other W34 (Or.inl ne36)).other W41 (Or.inl ne44)).other W49 (Or.inl ne54)).other W59 (Or.inl ne63)).other W68 (Or.inl ne73)).other W78 (Or.inl ne85)).other W90 (Or.inl ne98)).other W138 (Or.inl ne139)).other W142 (Or.inl ne144)).other W150 (Or.inr (slot_ne (Or.inl (hw _ (List.mem_of_getElem? (i := 24) rfl))) (Or.inl (hw _ (List.mem_of_getElem? (i := 76) rfl))) (by decide) (t := (.array .int)) (t' := .int) (by decide) (by decide)))).other W154 (Or.inr (slot_ne (Or.inl (hw _ (List.mem_of_getElem? (i := 24) rfl))) (Or.inl (hw _ (List.mem_of_getElem? (i := 68) rfl))) (by decide) (t := (.array .int)) (t' := .int) (by decide) (by decide)))).other W158 (Or.inl ne166))
  have H175 := (((((((((((H37.other W41 (Or.inl ne44)).other W49 (Or.inl ne54)).other W59 (Or.inl ne63)).other W68 (Or.inl ne73)).other W78 (Or.inl ne85)).other W90 (Or.inl ne98)).other W138 (Or.inl ne139)).other W142 (Or.inl ne144)).other W150 (Or.inr (slot_ne (Or.inl (hw _ (List.mem_of_getElem? (i := 28) rfl))) (Or.inl (hw _ (List.mem_of_getElem? (i := 76) rfl))) (by decide) (t := (.array (.object "com/example/tracewarden/tracewarden/engine/Zone"))) (t' := .int) (by decide) (by decide)))).other W154 (Or.inr (slot_ne (Or.inl (hw _ (List.mem_of_getElem? (i := 28) rfl))) (Or.inl (hw _ (List.mem_of_getElem? (i := 68) rfl))) (by decide) (t := (.array (.object "com/example/tracewarden/tracewarden/engine/Zone"))) (t' := .int) (by decide) (by decide)))).other W158 (Or.inl ne166))
  have H176 := (((((((((H55.other W59 (Or.inl ne63)).other W68 (Or.inl ne73)).other W78 (Or.inl ne85)).other W90 (Or.inl ne98)).other W138 (Or.inl ne139)).other W142 (Or.inl ne144)).other W150 (Or.inr (slot_ne (Or.inl (hw _ (List.mem_of_getElem? (i := 30) rfl))) (Or.inl (hw _ (List.mem_of_getElem? (i := 76) rfl))) (by decide) (t := (.array .int)) (t' := .int) (by decide) (by decide)))).other W154 (Or.inr (slot_ne (Or.inl (hw _ (List.mem_of_getElem? (i := 30) rfl))) (Or.inl (hw _ (List.mem_of_getElem? (i := 68) rfl))) (by decide) (t := (.array .int)) (t' := .int) (by decide) (by decide)))).other W158 (Or.inl ne166))
  have H177 := ((((((((((H45.other W49 (Or.inl ne54)).other W59 (Or.inl ne63)).other W68 (Or.inl ne73)).other W78 (Or.inl ne85)).other W90 (Or.inl ne98)).other W138 (Or.inl ne139)).other W142 (Or.inl ne144)).other W150 (Or.inr (slot_ne (Or.inl (hw _ (List.mem_of_getElem? (i := 33) rfl))) (Or.inl (hw _ (List.mem_of_getElem? (i := 76) rfl))) (by decide) (t := (.array .boolean)) (t' := .int) (by decide) (by decide)))).other W154 (Or.inr (slot_ne (Or.inl (hw _ (List.mem_of_getElem? (i := 33) rfl))) (Or.inl (hw _ (List.mem_of_getElem? (i := 68) rfl))) (by decide) (t := (.array .boolean)) (t' := .int) (by decide) (by decide)))).other W158 (Or.inl ne166))
  have H178 := ((((((((H64.other W68 (Or.inl ne73)).other W78 (Or.inl ne85)).other W90 (Or.inl ne98)).other W138 (Or.inl ne139)).other W142 (Or.inl ne144)).other W150 (Or.inr (slot_ne (Or.inl (hw _ (List.mem_of_getElem? (i := 35) rfl))) (Or.inl (hw _ (List.mem_of_getElem? (i := 76) rfl))) (by decide) (t := (.array .int)) (t' := .int) (by decide) (by decide)))).other W154 (Or.inr (slot_ne (Or.inl (hw _ (List.mem_of_getElem? (i := 35) rfl))) (Or.inl (hw _ (List.mem_of_getElem? (i := 68) rfl))) (by decide) (t := (.array .int)) (t' := .int) (by decide) (by decide)))).other W158 (Or.inl ne166))
  have H179 := (((((((H74.other W78 (Or.inl ne85)).other W90 (Or.inl ne98)).other W138 (Or.inl ne139)).other W142 (Or.inl ne144)).other W150 (Or.inr (slot_ne (Or.inl (hw _ (List.mem_of_getElem? (i := 39) rfl))) (Or.inl (hw _ (List.mem_of_getElem? (i := 76) rfl))) (by decide) (t := (.array (.object "com/example/tracewarden/tracewarden/engine/SearchTuples$Event"))) (t' := .int) (by decide) (by decide)))).other W154 (Or.inr (slot_ne (Or.inl (hw _ (List.mem_of_getElem? (i := 39) rfl))) (Or.inl (hw _ (List.mem_of_getElem? (i := 68) rfl))) (by decide) (t := (.array (.object "com/example/tracewarden/tracewarden/engine/SearchTuples$Event"))) (t' := .int) (by decide) (by decide)))).other W158 (Or.inl ne166))
  have H180 := ((((((H86.other W90 (Or.inl ne98)).other W138 (Or.inl ne139)).other W142 (Or.inl ne144)).other W150 (Or.inr (slot_ne (Or.inl (hw _ (List.mem_of_getElem? (i := 41) rfl))) (Or.inl (hw _ (List.mem_of_getElem? (i := 76) rfl))) (by decide) (t := (.array .int)) (t' := .int) (by decide) (by decide)))).other W154 (Or.inr (slot_ne (Or.inl (hw _ (List.mem_of_getElem? (i := 41) rfl))) (Or.inl (hw _ (List.mem_of_getElem? (i := 68) rfl))) (by decide) (t := (.array .int)) (t' := .int) (by decide) (by decide)))).other W158 (Or.inl ne166))
  have H181 := (((((H112.other W138 (Or.inl ne139)).other W142 (Or.inl ne144)).other W150 (Or.inr (slot_ne (Or.inl (hw _ (List.mem_of_getElem? (i := 51) rfl))) (Or.inl (hw _ (List.mem_of_getElem? (i := 76) rfl))) (by decide) (t := (.array (.array .int))) (t' := .int) (by decide) (by decide)))).other W154 (Or.inr (slot_ne (Or.inl (hw _ (List.mem_of_getElem? (i := 51) rfl))) (Or.inl (hw _ (List.mem_of_getElem? (i := 68) rfl))) (by decide) (t := (.array (.array .int))) (t' := .int) (by decide) (by decide)))).other W158 (Or.inl ne166))
  have H182 := (((((H99.other W138 (Or.inl ne139)).other W142 (Or.inl ne144)).other W150 (Or.inr (slot_ne (Or.inl (hw _ (List.mem_of_getElem? (i := 53) rfl))) (Or.inl (hw _ (List.mem_of_getElem? (i := 76) rfl))) (by decide) (t := (.array .int)) (t' := .int) (by decide) (by decide)))).other W154 (Or.inr (slot_ne (Or.inl (hw _ (List.mem_of_getElem? (i := 53) rfl))) (Or.inl (hw _ (List.mem_of_getElem? (i := 68) rfl))) (by decide) (t := (.array .int)) (t' := .int) (by decide) (by decide)))).other W158 (Or.inl ne166))
  have H183 := ((((((((((((((F_taken.keep K2 (ninS (Nat.ne_of_lt lt1) nin0)).keep K28 (ninS (Nat.ne_of_lt (Nat.lt_trans lt1 lt2)) nin0)).other W34 (Or.inl ne36)).other W41 (Or.inl ne44)).other W49 (Or.inl ne54)).other W59 (Or.inl ne63)).other W68 (Or.inl ne73)).other W78 (Or.inl ne85)).other W90 (Or.inl ne98)).other W138 (Or.inl ne139)).other W142 (Or.inl ne144)).other W150 (Or.inr (slot_ne (Or.inl (hw _ (List.mem_of_getElem? (i := 55) rfl))) (Or.inl (hw _ (List.mem_of_getElem? (i := 76) rfl))) (by decide) (t := (.array .int)) (t' := .int) (by decide) (by decide)))).other W154 (Or.inr (slot_ne (Or.inl (hw _ (List.mem_of_getElem? (i := 55) rfl))) (Or.inl (hw _ (List.mem_of_getElem? (i := 68) rfl))) (by decide) (t := (.array .int)) (t' := .int) (by decide) (by decide)))).other W158 (Or.inl ne166))
  have H184 := ((((((((((((((F_budget.keep K2 (ninS (Nat.ne_of_lt lt1) nin0)).keep K28 (ninS (Nat.ne_of_lt (Nat.lt_trans lt1 lt2)) nin0)).other W34 (Or.inl ne36)).other W41 (Or.inl ne44)).other W49 (Or.inl ne54)).other W59 (Or.inl ne63)).other W68 (Or.inl ne73)).other W78 (Or.inl ne85)).other W90 (Or.inl ne98)).other W138 (Or.inl ne139)).other W142 (Or.inl ne144)).other W150 (Or.inr (slot_ne (Or.inr (hw _ (List.mem_of_getElem? (i := 45) rfl))) (Or.inl (hw _ (List.mem_of_getElem? (i := 76) rfl))) (by decide) (t := (.object "com/example/tracewarden/tracewarden/engine/SearchBudget")) (t' := .int) (by decide) (by decide)))).other W154 (Or.inr (slot_ne (Or.inr (hw _ (List.mem_of_getElem? (i := 45) rfl))) (Or.inl (hw _ (List.mem_of_getElem? (i := 68) rfl))) (by decide) (t := (.object "com/example/tracewarden/tracewarden/engine/SearchBudget")) (t' := .int) (by decide) (by decide)))).other W158 (Or.inl ne166))
  have H185 := (((((((((((((H19.keep K28 (ninS (Nat.ne_of_lt (Nat.lt_trans lt1 lt2)) nin0)).other W34 (Or.inl ne36)).other W41 (Or.inl ne44)).other W49 (Or.inl ne54)).other W59 (Or.inl ne63)).other W68 (Or.inl ne73)).other W78 (Or.inl ne85)).other W90 (Or.inl ne98)).other W138 (Or.inl ne139)).other W142 (Or.inl ne144)).other W150 (Or.inr (slot_ne (Or.inl (hw _ (List.mem_of_getElem? (i := 47) rfl))) (Or.inl (hw _ (List.mem_of_getElem? (i := 76) rfl))) (by decide) (t := .int) (t' := .int) (by decide) (by decide)))).other W154 (Or.inr (slot_ne (Or.inl (hw _ (List.mem_of_getElem? (i := 47) rfl))) (Or.inl (hw _ (List.mem_of_getElem? (i := 68) rfl))) (by decide) (t := .int) (t' := .int) (by decide) (by decide)))).other W158 (Or.inl ne166))
  have H186 := ((Fw150.other W154 (Or.inr (slot_ne (Or.inl (hw _ (List.mem_of_getElem? (i := 76) rfl))) (Or.inl (hw _ (List.mem_of_getElem? (i := 68) rfl))) (by decide) (t := .int) (t' := .int) (by decide) (by decide)))).other W158 (Or.inl ne166))
  have H187 := ((((((((((((((F_latestFirst.keep K2 (ninS (Nat.ne_of_lt lt1) nin0)).keep K28 (ninS (Nat.ne_of_lt (Nat.lt_trans lt1 lt2)) nin0)).other W34 (Or.inl ne36)).other W41 (Or.inl ne44)).other W49 (Or.inl ne54)).other W59 (Or.inl ne63)).other W68 (Or.inl ne73)).other W78 (Or.inl ne85)).other W90 (Or.inl ne98)).other W138 (Or.inl ne139)).other W142 (Or.inl ne144)).other W150 (Or.inr (slot_ne (Or.inl (hw _ (List.mem_of_getElem? (i := 62) rfl))) (Or.inl (hw _ (List.mem_of_getElem? (i := 76) rfl))) (by decide) (t := .boolean) (t' := .int) (by decide) (by decide)))).other W154 (Or.inr (slot_ne (Or.inl (hw _ (List.mem_of_getElem? (i := 62) rfl))) (Or.inl (hw _ (List.mem_of_getElem? (i := 68) rfl))) (by decide) (t := .boolean) (t' := .int) (by decide) (by decide)))).other W158 (Or.inl ne166))
  have H188 := (((((((((((V34.other W41 (Nat.ne_of_lt lt4)).other W49 ne52).other W59 (Nat.ne_of_lt (Nat.lt_trans lt4 lt5))).other W68 ne70).other W78 ne81).other W90 ne93).other W138 ne104).other W142 ne126).other W150 (Ne.symm ne36)).other W154 (Ne.symm ne36)).other W158 ne160)
  have H189 := ((((((((((((V28.other W34 (Nat.ne_of_lt lt3)).other W41 (Nat.ne_of_lt (Nat.lt_trans lt3 lt4))).other W49 ne51).other W59 ne61).other W68 ne69).other W78 ne80).other W90 ne92).other W138 ne103).other W142 ne125).other W150 (Ne.symm (Nat.ne_of_lt (Nat.lt_trans lt1 lt2)))).other W154 (Ne.symm (Nat.ne_of_lt (Nat.lt_trans lt1 lt2)))).other W158 ne159)
  have H190 := ((((((((V59.other W68 (Nat.ne_of_lt (Nat.lt_trans lt6 lt7))).other W78 ne83).other W90 ne96).other W138 ne107).other W142 ne129).other W150 (Ne.symm ne63)).other W154 (Ne.symm ne63)).other W158 ne163)
  have H191 := (((((((((V49.other W59 (Ne.symm (Nat.ne_of_lt lt6))).other W68 (Nat.ne_of_lt lt7)).other W78 (Nat.ne_of_lt (Nat.lt_trans lt7 lt8))).other W90 ne95).other W138 ne106).other W142 ne128).other W150 (Ne.symm ne54)).other W154 (Ne.symm ne54)).other W158 ne162)
  have H192 := ((((V138.other W142 (Ne.symm (Nat.ne_of_lt lt13))).other W150 (Ne.symm ne139)).other W154 (Ne.symm ne139)).other W158 (Ne.symm ne165))
  have H193 := (((V142.other W150 (Ne.symm ne144)).other W154 (Ne.symm ne144)).other W158 (Ne.symm (Nat.ne_of_lt (Nat.lt_trans lt11 lt12))))
  have H194 := ((((((((((V41.other W49 (Nat.ne_of_lt (Nat.lt_trans lt5 lt6))).other W59 (Nat.ne_of_lt lt5)).other W68 ne71).other W78 ne82).other W90 ne94).other W138 ne105).other W142 ne127).other W150 (Ne.symm ne44)).other W154 (Ne.symm ne44)).other W158 ne161)
  have H195 := (((((((V68.other W78 (Nat.ne_of_lt lt8)).other W90 (Nat.ne_of_lt (Nat.lt_trans lt8 lt9))).other W138 ne108).other W142 ne130).other W150 (Ne.symm ne73)).other W154 (Ne.symm ne73)).other W158 ne164)
  have H196 := ((((((V78.other W90 (Nat.ne_of_lt lt9)).other W138 ne109).other W142 ne131).other W150 (Ne.symm ne85)).other W154 (Ne.symm ne85)).other W158 (Nat.ne_of_lt (Nat.lt_trans lt9 lt10)))
  have H197 := (((((V90.other W138 ne110).other W142 ne132).other W150 (Ne.symm ne98)).other W154 (Ne.symm ne98)).other W158 (Nat.ne_of_lt lt10))
  refine Go.fin X171 (v := none) (fun _ => rfl) Bd.notSynchronized (fun _ hr => X171.returnOut hx Bd.returns (hb hby d9_477) hr) (fun U' hU hF => ⟨_, _, rfl, ?_, hF.1, hF.2.1, hF.2.2.mono (by decide) (by decide)⟩)
  rw [hU, e171]
  exact ⟨rfl, N158, (((((((((((((((Keep.refl h0 [a1, ab, yk, x_states, x_hashes, x_zones, x_sameStates, x_held, x_parents, x_events, x_ranks, x_slots, x_reached]).trans K2 (allS (Or.inl (List.mem_of_getElem? (i := 1) rfl)) all0)).trans K28 (allS (Or.inl (List.mem_of_getElem? (i := 3) rfl)) all0)).wr W34 (Or.inl (List.mem_of_getElem? (i := 4) rfl))).wr W41 (Or.inl (List.mem_of_getElem? (i := 5) rfl))).wr W49 (Or.inl (List.mem_of_getElem? (i := 7) rfl))).wr W59 (Or.inl (List.mem_of_getElem? (i := 6) rfl))).wr W68 (Or.inl (List.mem_of_getElem? (i := 8) rfl))).wr W78 (Or.inl (List.mem_of_getElem? (i := 9) rfl))).wr W90 (Or.inl (List.mem_of_getElem? (i := 10) rfl))).wr W138 (Or.inl (List.mem_of_getElem? (i := 12) rfl))).wr W142 (Or.inl (List.mem_of_getElem? (i := 2) rfl))).wr W150 (Or.inl (List.mem_of_getElem? (i := 0) rfl))).wr W154 (Or.inl (List.mem_of_getElem? (i := 0) rfl))).wr W158 (Or.inl (List.mem_of_getElem? (i := 11) rfl))), H172, H173, H174, H175, H176, H177, H178, H179, H180, H170, H181, H182, H183, H184, H185, H168, H186, H187, V158, H188, H189, H190, (H191.same fun j_ _ => own_upd0 _ j_), H192.toI, H193.toI, ⟨_, H194⟩, ⟨_, H195⟩, ⟨_, H196⟩, ⟨_, H197⟩⟩
theorem ef_rm9_1 (m : MethodId) (a1 : Addr) (a2 : Addr) (p7 : Int32) : entryFrame m #[(.ref a1), (.ref a2), (.int (-511900244 : Int32)), .null, (.int (-1 : Int32)), .null, (.int p7)] 10 = mkF m 0 #[.val (.ref a1), .val (.ref a2), .val (.int (-511900244 : Int32)), .val .null, .val (.int (-1 : Int32)), .val .null, .val (.int p7), .unset, .unset, .unset] [] := by first | (simp [entryFrame, mkF, argsToLocals, Value.category]; done) | rfl
def Q_rm9_1 (Z : State) (a1 : Addr) (a2 : Addr) (p7 : Int32) (ab : Addr) (x_states : Addr) (x_hashes : Addr) (x_zones : Addr) (x_sameStates : Addr) (x_held : Addr) (x_parents : Addr) (x_events : Addr) (x_ranks : Addr) (x_slots : Addr) (x_ranked : Addr) (x_reached : Addr) (x_taken : Addr) (yk : Addr) (k_states : ClassId) (k_hashes : ClassId) (k_zones : ClassId) (k_sameStates : ClassId) (k_held : ClassId) (k_parents : ClassId) (k_events : ClassId) (k_ranks : ClassId) (k_slots : ClassId) (k_ranked : ClassId) (k_reached : ClassId) (k_rk : ClassId) (f_states : Nat → Value) (f_hashes : Nat → Value) (f_zones : Nat → Value) (f_sameStates : Nat → Value) (f_parents : Nat → Value) (f_events : Nat → Value) (f_ranks : Nat → Value) (f_slots : Nat → Value) (kt : ClassId) (ft : Nat → Value) (Rf : Nat → Int32) (Wk : Nat → Int32) (lf : Int32) (h0 : Heap) (n0 : Nat) (v : Option Value) (h : Heap) (L : List Loc) : Prop := v = none ∧ Fr n0 L ∧ Keep h0 h [a1, ab, yk, x_states, x_hashes, x_zones, x_sameStates, x_held, x_parents, x_events, x_ranks, x_slots, x_reached] ∧ Fld Z h ab "com/example/tracewarden/tracewarden/engine/SearchBudget" "left" "J" (.long (1 : Int64)) ∧ Fld Z h a1 "com/example/tracewarden/tracewarden/engine/SearchTuples" "states" "[I" (.ref x_states) ∧ Fld Z h a1 "com/example/tracewarden/tracewarden/engine/SearchTuples" "hashes" "[I" (.ref x_hashes) ∧ Fld Z h a1 "com/example/tracewarden/tracewarden/engine/SearchTuples" "zones" "[Lcom/example/tracewarden/tracewarden/engine/Zone;" (.ref x_zones) ∧ Fld Z h a1 "com/example/tracewarden/tracewarden/engine/SearchTuples" "sameStates" "[I" (.ref x_sameStates) ∧ Fld Z h a1 "com/example/tracewarden/tracewarden/engine/SearchTuples" "held" "[Z" (.ref x_held) ∧ Fld Z h a1 "com/example/tracewarden/tracewarden/engine/SearchTuples" "parents" "[I" (.ref x_parents) ∧ Fld Z h a1 "com/example/tracewarden/tracewarden/engine/SearchTuples" "events" "[Lcom/example/tracewarden/tracewarden/engine/SearchTuples$Event;" (.ref x_events) ∧ Fld Z h a1 "com/example/tracewarden/tracewarden/engine/SearchTuples" "ranks" "[I" (.ref x_ranks) ∧ Fld Z h a1 "com/example/tracewarden/tracewarden/engine/SearchTuples" "slots" "[I" (.ref x_slots) ∧ Fld Z h a1 "com/example/tracewarden/tracewarden/engine/SearchTuples" "ranked" "[[I" (.ref x_ranked) ∧ Fld Z h a1 "com/example/tracewarden/tracewarden/engine/SearchTuples" "reached" "[I" (.ref x_reached) ∧ Fld Z h a1 "com/example/tracewarden/tracewarden/engine/SearchTuples" "taken" "[I" (.ref x_taken) ∧ Fld Z h a1 "com/example/tracewarden/tracewarden/engine/SearchTuples" "budget" "Lcom/example/tracewarden/tracewarden/engine/SearchBudget;" (.ref ab) ∧ Fld Z h a1 "com/example/tracewarden/tracewarden/engine/SearchTuples" "width" "I" (.int (1 : Int32)) ∧ Fld Z h a1 "com/example/tracewarden/tracewarden/engine/SearchTuples" "size" "I" (.int (2 : Int32)) ∧ Fld Z h a1 "com/example/tracewarden/tracewarden/engine/SearchTuples" "lowest" "I" (.int (0 : Int32)) ∧ Fld Z h a1 "com/example/tracewarden/tracewarden/engine/SearchTuples" "latestFirst" "Z" (.int lf) ∧ Arf Z h x_slots k_slots .int (32 : Int32) (upd f_slots 12 (.int (2 : Int32))) ∧ Arf Z h x_hashes k_hashes .int (16 : Int32) (upd f_hashes 1 (.int (-511900244 : Int32))) ∧ Arf Z h x_states k_states .int (64 : Int32) (upd f_states 1 (.int (1 : Int32))) ∧ Arf Z h x_sameStates k_sameStates .int (16 : Int32) (upd f_sameStates 1 (.int (-1 : Int32))) ∧ Arf Z h x_held k_held .boolean (16 : Int32) (fun _ => .int (0 : Int32)) ∧ Arf Z h x_reached k_reached .int (3 : Int32) (fun j => .int (updI Rf p7.toNatClampNeg (Rf p7.toNatClampNeg + (1 : Int32)) j)) ∧ Arf Z h yk k_rk .int (8 : Int32) (fun j => .int (updI Wk (Rf p7.toNatClampNeg).toNatClampNeg (1 : Int32) j)) ∧ (∃ f' : Nat → Value, Arf Z h x_zones k_zones (.object "com/example/tracewarden/tracewarden/engine/Zone") (16 : Int32) f') ∧ (∃ f' : Nat → Value, Arf Z h x_parents k_parents .int (16 : Int32) f') ∧ (∃ f' : Nat → Value, Arf Z h x_events k_events (.object "com/example/tracewarden/tracewarden/engine/SearchTuples$Event") (16 : Int32) f') ∧ (∃ f' : Nat → Value, Arf Z h x_ranks k_ranks .int (16 : Int32) f')
set_option maxRecDepth 65536 in
set_option maxHeartbeats 40000000 in
theorem rm9_1 (l : Launch) (Z : State) (a0 : Array Value) (hw : ∀ d ∈ tables_1, d.before a0 Z = true) (ws : List Jvm.Cond) (a1 : Addr) (a2 : Addr) (p7 : Int32) (ab : Addr) (x_states : Addr) (x_hashes : Addr) (x_zones : Addr) (x_sameStates : Addr) (x_held : Addr) (x_parents : Addr) (x_events : Addr) (x_ranks : Addr) (x_slots : Addr) (x_ranked : Addr) (x_reached : Addr) (x_taken : Addr) (yk : Addr) (k_states : ClassId) (k_hashes : ClassId) (k_zones : ClassId) (k_sameStates : ClassId) (k_held : ClassId) (k_parents : ClassId) (k_events : ClassId) (k_ranks : ClassId) (k_slots : ClassId) (k_ranked : ClassId) (k_reached : ClassId) (k_rk : ClassId) (f_states : Nat → Value) (f_hashes : Nat → Value) (f_zones : Nat → Value) (f_sameStates : Nat → Value) (f_parents : Nat → Value) (f_events : Nat → Value) (f_ranks : Nat → Value) (f_slots : Nat → Value) (kt : ClassId) (ft : Nat → Value) (Rf : Nat → Int32) (Wk : Nat → Int32) (lf : Int32) (h0 : Heap) (n0 : Nat) (Z0 : n0 ≤ h0.size) (E_st : Exa Z h0 a1 "com/example/tracewarden/tracewarden/engine/SearchTuples") (E_ab : Exa Z h0 ab "com/example/tracewarden/tracewarden/engine/SearchBudget") (g_a1 : n0 ≤ a1) (lt0 : a2 < a1) (lt1 : a1 < ab) (lt2 : ab < x_states) (lt3 : x_states < x_hashes) (lt4 : x_hashes < x_zones) (lt5 : x_zones < x_sameStates) (lt6 : x_sameStates < x_held) (lt7 : x_held < x_parents) (lt8 : x_parents < x_events) (lt9 : x_events < x_ranks) (lt10 : x_ranks < x_slots) (lt11 : x_slots < x_ranked) (lt12 : x_ranked < yk) (lt13 : yk < x_reached) (V_states : Arf Z h0 x_states k_states .int (64 : Int32) f_states) (V_hashes : Arf Z h0 x_hashes k_hashes .int (16 : Int32) f_hashes) (V_zones : Arf Z h0 x_zones k_zones (.object "com/example/tracewarden/tracewarden/engine/Zone") (16 : Int32) f_zones) (V_sameStates : Arf Z h0 x_sameStates k_sameStates .int (16 : Int32) f_sameStates) (V_held : Arf Z h0 x_held k_held .boolean (16 : Int32) (fun _ => .int (0 : Int32))) (V_parents : Arf Z h0 x_parents k_parents .int (16 : Int32) f_parents) (V_events : Arf Z h0 x_events k_events (.object "com/example/tracewarden/tracewarden/engine/SearchTuples$Event") (16 : Int32) f_events) (V_ranks : Arf Z h0 x_ranks k_ranks .int (16 : Int32) f_ranks) (V_slots : Arf Z h0 x_slots k_slots .int (32 : Int32) f_slots) (V_ranked : Arf Z h0 x_ranked k_ranked (.array .int) (3 : Int32) (fun i => .ref (x_ranked + 1 + i))) (V_reached : Arf Z h0 x_reached k_reached .int (3 : Int32) (fun i => .int (Rf i))) (V_t : Arf Z h0 a2 kt .int (1 : Int32) ft) (ht0 : ft 0 = (.int (1 : Int32))) (V_rk : Arf Z h0 yk k_rk .int (8 : Int32) (fun j => .int (Wk j))) (eyk : yk = x_ranked + 1 + p7.toNatClampNeg) (hk3 : ¬ p7 < 0 ∧ p7 < 3) (hr8 : ¬ Rf p7.toNatClampNeg < 0 ∧ Rf p7.toNatClampNeg < 8) (hs_ : f_slots 12 = (.int (0 : Int32))) (F_states : Fld Z h0 a1 "com/example/tracewarden/tracewarden/engine/SearchTuples" "states" "[I" (.ref x_states)) (F_hashes : Fld Z h0 a1 "com/example/tracewarden/tracewarden/engine/SearchTuples" "hashes" "[I" (.ref x_hashes)) (F_zones : Fld Z h0 a1 "com/example/tracewarden/tracewarden/engine/SearchTuples" "zones" "[Lcom/example/tracewarden/tracewarden/engine/Zone;" (.ref x_zones)) (F_sameStates : Fld Z h0 a1 "com/example/tracewarden/tracewarden/engine/SearchTuples" "sameStates" "[I" (.ref x_sameStates)) (F_held : Fld Z h0 a1 "com/example/tracewarden/tracewarden/engine/SearchTuples" "held" "[Z" (.ref x_held)) (F_parents : Fld Z h0 a1 "com/example/tracewarden/tracewarden/engine/SearchTuples" "parents" "[I" (.ref x_parents)) (F_events : Fld Z h0 a1 "com/example/tracewarden/tracewarden/engine/SearchTuples" "events" "[Lcom/example/tracewarden/tracewarden/engine/SearchTuples$Event;" (.ref x_events)) (F_ranks : Fld Z h0 a1 "com/example/tracewarden/tracewarden/engine/SearchTuples" "ranks" "[I" (.ref x_ranks)) (F_slots : Fld Z h0 a1 "com/example/tracewarden/tracewarden/engine/SearchTuples" "slots" "[I" (.ref x_slots)) (F_ranked : Fld Z h0 a1 "com/example/tracewarden/tracewarden/engine/SearchTuples" "ranked" "[[I" (.ref x_ranked)) (F_reached : Fld Z h0 a1 "com/example/tracewarden/tracewarden/engine/SearchTuples" "reached" "[I" (.ref x_reached)) (F_taken : Fld Z h0 a1 "com/example/tracewarden/tracewarden/engine/SearchTuples" "taken" "[I" (.ref x_taken)) (F_budget : Fld Z h0 a1 "com/example/tracewarden/tracewarden/engine/SearchTuples" "budget" "Lcom/example/tracewarden/tracewarden/engine/SearchBudget;" (.ref ab)) (F_width : Fld Z h0 a1 "com/example/tracewarden/tracewarden/engine/SearchTuples" "width" "I" (.int (1 : Int32))) (F_size : Fld Z h0 a1 "com/example/tracewarden/tracewarden/engine/SearchTuples" "size" "I" (.int (1 : Int32))) (F_lowest : Fld Z h0 a1 "com/example/tracewarden/tracewarden/engine/SearchTuples" "lowest" "I" (.int (0 : Int32))) (F_latestFirst : Fld Z h0 a1 "com/example/tracewarden/tracewarden/engine/SearchTuples" "latestFirst" "Z" (.int lf)) (F_left : Fld Z h0 ab "com/example/tracewarden/tracewarden/engine/SearchBudget" "left" "J" (.long (2 : Int64))) :
    MetFree l (⟨"com/example/tracewarden/tracewarden/engine/SearchTuples", "add", "([IILcom/example/tracewarden/tracewarden/engine/Zone;ILcom/example/tracewarden/tracewarden/engine/SearchTuples$Event;I)V"⟩ : MethodName) (head1 (Jvm.Cond.code (⟨"com/example/tracewarden/tracewarden/engine/SearchTuples", "add", "([IILcom/example/tracewarden/tracewarden/engine/Zone;ILcom/example/tracewarden/tracewarden/engine/SearchTuples$Event;I)V"⟩ : MethodName) prog_86_method_16_code 10 none :: ws) ({ frames := 1, cells := 0, slots := 0, locals := 40 } : Room)) (fun a U => a = #[(.ref a1), (.ref a2), (.int (-511900244 : Int32)), .null, (.int (-1 : Int32)), .null, (.int p7)] ∧ Z.Warmed39 U.vm ∧ U.heap = h0) (fun _ _ _ _ _ => True) (fun _ U o U' => ∃ v L, o = .returned v ∧ Q_rm9_1 Z a1 a2 p7 ab x_states x_hashes x_zones x_sameStates x_held x_parents x_events x_ranks x_slots x_ranked x_reached x_taken yk k_states k_hashes k_zones k_sameStates k_held k_parents k_events k_ranks k_slots k_ranked k_reached k_rk f_states f_hashes f_zones f_sameStates f_parents f_events f_ranks f_slots kt ft Rf Wk lf h0 n0 v U'.heap L ∧ FrameEnd U o U' L ({ frames := 1, cells := 0, slots := 0, locals := 40 } : Room).cells ({ frames := 1, cells := 0, slots := 0, locals := 40 } : Room).slots) := by
  refine MetFree.of_bodySF (plainFor_of_name pn_81) hisR ?_
  intro p e s m args below meth c s₁ Bd hml0 hP hK
  obtain ⟨rfl, hZ, hh⟩ := hP
  have hx := Bd.exec
  have hby := Bd.bytes
  have hml : c.maxLocals = 10 := hml0
  have hown : s.vm.findClass "com/example/tracewarden/tracewarden/engine/SearchTuples" = some m.cls := findClass_of_methodNamed Bd.named
  have hnm := (name_of_methodNamed Bd.named Bd.method).1
  have X0 : Stand p l e ({ frames := 1, cells := 0, slots := 0, locals := 40 } : Room) s m #[(.ref a1), (.ref a2), (.int (-511900244 : Int32)), .null, (.int (-1 : Int32)), .null, (.int p7)] below meth c s₁ [] 0 0 := Stand.of_body Bd
  have e0 : s₁.heap = h0 := by rw [← hh, Bd.state]; rfl
  have N0 := Fr.nil n0
  show Go p e below (s₁.setTop (entryFrame m #[(.ref a1), (.ref a2), (.int (-511900244 : Int32)), .null, (.int (-1 : Int32)), .null, (.int p7)] 10)) (fun o U' => ∃ v L, o = .returned v ∧ Q_rm9_1 Z a1 a2 p7 ab x_states x_hashes x_zones x_sameStates x_held x_parents x_events x_ranks x_slots x_ranked x_reached x_taken yk k_states k_hashes k_zones k_sameStates k_held k_parents k_events k_ranks k_slots k_ranked k_reached k_rk f_states f_hashes f_zones f_sameStates f_parents f_events f_ranks f_slots kt ft Rf Wk lf h0 n0 v U'.heap L ∧ FrameEnd s o U' L ({ frames := 1, cells := 0, slots := 0, locals := 40 } : Room).cells ({ frames := 1, cells := 0, slots := 0, locals := 40 } : Room).slots)
  rw [ef_rm9_1]
  refine Gk.aloadN X0 hx (hb hby d9_0) rfl rfl ?_
  refine Gk.getF X0 hx hZ hown (host := "") (Or.inl (hw _ (List.mem_of_getElem? (i := 44) rfl))) Via.refl e0 F_budget (hb hby d9_1) ?_
  intro T1 X1 e1
  refine Gk.callV (argsL := []) X1 hx hZ hown (rm10_1 l Z a0 hw [] ab h0 n0 Z0 E_ab F_left (Nat.le_trans g_a1 (Nat.le_of_lt lt1))) (hw _ (List.mem_of_getElem? (i := 88) rfl)) (hw _ (List.mem_of_getElem? (i := 89) rfl)) (notFace_of_selects (args := #[]) (mvT hZ (hw _ (List.mem_of_getElem? (i := 91) rfl)))) (hw _ (List.mem_of_getElem? (i := 91) rfl)) (hw _ (List.mem_of_getElem? (i := 90) rfl)) (by decide) (hw _ (List.mem_of_getElem? (i := 92) rfl)) (hw _ (List.mem_of_getElem? (i := 7) rfl)) e1 E_ab pd_10 rfl rfl (by decide) (Nat.le_of_ble_eq_true rfl) (by decide) (by decide) (by rw [hml]; rfl)  rfl (hb hby d9_4) ?_
  intro T2 L2 v2 X2 hQ2
  obtain ⟨rfl, N2q, K2, Fl2⟩ := hQ2
  have N2 := Fr.app N0 N2q
  show Go p e below (T2.setTop (mkF m 7 #[.val (.ref a1), .val (.ref a2), .val (.int (-511900244 : Int32)), .val .null, .val (.int (-1 : Int32)), .val .null, .val (.int p7), .unset, .unset, .unset] [])) _
  refine Gk.aloadN X2 hx (hb hby d9_7) rfl rfl ?_
  refine Gk.aloadN X2 hx (hb hby d9_8) rfl rfl ?_
  refine Gk.iloadN X2 hx (hb hby d9_9) rfl ?_
  have ne4 : ab ≠ x_slots := (Nat.ne_of_lt (Nat.lt_trans lt2 (Nat.lt_trans lt3 (Nat.lt_trans lt4 (Nat.lt_trans lt5 (Nat.lt_trans lt6 (Nat.lt_trans lt7 (Nat.lt_trans lt8 (Nat.lt_trans lt9 lt10)))))))))
  have H5 := (V_slots.keep K2 (ninS (Ne.symm ne4) nin0))
  have H6 := (F_slots.keep K2 (ninS (Nat.ne_of_lt lt1) nin0))
  have H7 := (E_st.keep K2)
  refine Gk.callP (argsL := [(.ref a2), (.int (-511900244 : Int32))]) X2 hx hZ hown (rm11_1 l Z a0 hw [] a1 a2 x_slots k_slots f_slots T2.heap n0 (Nat.le_trans Z0 K2.1) H5 H6 hs_) (hw _ (List.mem_of_getElem? (i := 93) rfl)) (hw _ (List.mem_of_getElem? (i := 94) rfl)) (hw _ (List.mem_of_getElem? (i := 3) rfl)) (hw _ (List.mem_of_getElem? (i := 95) rfl)) (by decide) (hw _ (List.mem_of_getElem? (i := 96) rfl)) (hw _ (List.mem_of_getElem? (i := 4) rfl)) rfl H7 pd_8 rfl rfl (by decide) (Nat.le_of_ble_eq_true rfl) (by decide) (by decide) (by rw [hml]; rfl)  rfl (hb hby d9_10) ?_
  intro T3 L3 v3 X3 hQ3
  obtain ⟨rfl, N3q, e3⟩ := hQ3
  have N3 := Fr.app N2 N3q
  show Go p e below (T3.setTop (mkF m 13 #[.val (.ref a1), .val (.ref a2), .val (.int (-511900244 : Int32)), .val .null, .val (.int (-1 : Int32)), .val .null, .val (.int p7), .unset, .unset, .unset] [(.int (-1 : Int32))])) _
  refine Gk.istore X3 hx (hb hby d9_13) #[.val (.ref a1), .val (.ref a2), .val (.int (-511900244 : Int32)), .val .null, .val (.int (-1 : Int32)), .val .null, .val (.int p7), .val (.int (-1 : Int32)), .unset, .unset] rfl ?_
  refine Gk.aloadN X3 hx (hb hby d9_15) rfl rfl ?_
  refine Gk.iload X3 hx (hb hby d9_16) rfl ?_
  refine Gk.aloadN X3 hx (hb hby d9_18) rfl rfl ?_
  refine Gk.callP (argsL := [(.int (-1 : Int32)), .null]) X3 hx hZ hown (rm12_m l Z a0 hw [] a1 T2.heap n0 (Nat.le_trans Z0 K2.1)) (hw _ (List.mem_of_getElem? (i := 97) rfl)) (hw _ (List.mem_of_getElem? (i := 98) rfl)) (hw _ (List.mem_of_getElem? (i := 3) rfl)) (hw _ (List.mem_of_getElem? (i := 99) rfl)) (by decide) (hw _ (List.mem_of_getElem? (i := 100) rfl)) (hw _ (List.mem_of_getElem? (i := 4) rfl)) e3 H7 pd_9 rfl rfl (by decide) (Nat.le_of_ble_eq_true rfl) (by decide) (by decide) (by rw [hml]; rfl)  rfl (hb hby d9_19) ?_
  intro T8 L8 v8 X8 hQ8
  obtain ⟨rfl, N8q, e8⟩ := hQ8
  have N8 := Fr.app N3 N8q
  show Go p e below (T8.setTop (mkF m 22 #[.val (.ref a1), .val (.ref a2), .val (.int (-511900244 : Int32)), .val .null, .val (.int (-1 : Int32)), .val .null, .val (.int p7), .val (.int (-1 : Int32)), .unset, .unset] [])) _
  refine Gk.aloadN X8 hx (hb hby d9_22) rfl rfl ?_
  refine Gk.getF X8 hx hZ hown (host := "") (Or.inl (hw _ (List.mem_of_getElem? (i := 42) rfl))) Via.refl e8 H6 (hb hby d9_23) ?_
  intro T9 X9 e9
  refine Gk.alen X9 hx hZ e9 H5 (hb hby d9_26) ?_
  refine Gk.iconst X9 hx (hb hby d9_27) (1 : Int32) rfl ?_
  refine Gk.isub X9 hx (hb hby d9_28) (31 : Int32) (by decide) ?_
  refine Gk.istore X9 hx (hb hby d9_29) #[.val (.ref a1), .val (.ref a2), .val (.int (-511900244 : Int32)), .val .null, .val (.int (-1 : Int32)), .val .null, .val (.int p7), .val (.int (-1 : Int32)), .val (.int (31 : Int32)), .unset] rfl ?_
  refine Gk.iloadN X9 hx (hb hby d9_31) rfl ?_
  refine Gk.iload X9 hx (hb hby d9_32) rfl ?_
  refine Gk.iand X9 hx (hb hby d9_34) (12 : Int32) (by decide) ?_
  refine Gk.istore X9 hx (hb hby d9_35) #[.val (.ref a1), .val (.ref a2), .val (.int (-511900244 : Int32)), .val .null, .val (.int (-1 : Int32)), .val .null, .val (.int p7), .val (.int (-1 : Int32)), .val (.int (31 : Int32)), .val (.int (12 : Int32))] rfl ?_
  refine Gk.aloadN X9 hx (hb hby d9_37) rfl rfl ?_
  refine Gk.getF X9 hx hZ hown (host := "") (Or.inl (hw _ (List.mem_of_getElem? (i := 42) rfl))) Via.refl e9 H6 (hb hby d9_38) ?_
  intro T10 X10 e10
  refine Gk.iload X10 hx (hb hby d9_41) rfl ?_
  refine Gk.iaload X10 hx hZ e10 H5 ⟨by decide, by decide⟩ (.int (0 : Int32)) hs_ (hb hby d9_43) ?_
  refine Gk.ifYes X10 hx (hb hby d9_44) (teq (by decide : (0 : Int32) = (0 : Int32))).1 73 (by decide) (by decide) ?_
  refine Gk.aloadN X10 hx (hb hby d9_73) rfl rfl ?_
  have H12 := (F_size.keep K2 (ninS (Nat.ne_of_lt lt1) nin0))
  refine Gk.getF X10 hx hZ hown (host := "") (Or.inl (hw _ (List.mem_of_getElem? (i := 67) rfl))) Via.refl e10 H12 (hb hby d9_74) ?_
  intro T13 X13 e13
  refine Gk.aloadN X13 hx (hb hby d9_77) rfl rfl ?_
  have H14 := (F_parents.keep K2 (ninS (Nat.ne_of_lt lt1) nin0))
  refine Gk.getF X13 hx hZ hown (host := "") (Or.inl (hw _ (List.mem_of_getElem? (i := 34) rfl))) Via.refl e13 H14 (hb hby d9_78) ?_
  intro T15 X15 e15
  have ne16 : ab ≠ x_parents := (Nat.ne_of_lt (Nat.lt_trans lt2 (Nat.lt_trans lt3 (Nat.lt_trans lt4 (Nat.lt_trans lt5 (Nat.lt_trans lt6 lt7))))))
  have H17 := (V_parents.keep K2 (ninS (Ne.symm ne16) nin0))
  refine Gk.alen X15 hx hZ e15 H17 (hb hby d9_81) ?_
  refine Gk.icmpYes X15 hx (hb hby d9_82) (feq (by decide : ¬ ((1 : Int32) = (16 : Int32)))).2 210 (by decide) (by decide) ?_
  refine Gk.aloadN X15 hx (hb hby d9_210) rfl rfl ?_
  refine Gk.getF X15 hx hZ hown (host := "") (Or.inl (hw _ (List.mem_of_getElem? (i := 67) rfl))) Via.refl e15 H12 (hb hby d9_211) ?_
  intro T18 X18 e18
  refine Gk.iconst X18 hx (hb hby d9_214) (1 : Int32) rfl ?_
  refine Gk.iadd X18 hx (hb hby d9_215) (2 : Int32) (by decide) ?_
  refine Gk.aloadN X18 hx (hb hby d9_216) rfl rfl ?_
  have H19 := (F_width.keep K2 (ninS (Nat.ne_of_lt lt1) nin0))
  refine Gk.getF X18 hx hZ hown (host := "") (Or.inl (hw _ (List.mem_of_getElem? (i := 46) rfl))) Via.refl e18 H19 (hb hby d9_217) ?_
  intro T20 X20 e20
  refine Gk.imul X20 hx (hb hby d9_220) (2 : Int32) (by decide) ?_
  refine Gk.aloadN X20 hx (hb hby d9_221) rfl rfl ?_
  have H21 := (F_states.keep K2 (ninS (Nat.ne_of_lt lt1) nin0))
  refine Gk.getF X20 hx hZ hown (host := "") (Or.inl (hw _ (List.mem_of_getElem? (i := 21) rfl))) Via.refl e20 H21 (hb hby d9_222) ?_
  intro T22 X22 e22
  have H23 := (V_states.keep K2 (ninS (Ne.symm (Nat.ne_of_lt lt2)) nin0))
  refine Gk.alen X22 hx hZ e22 H23 (hb hby d9_225) ?_
  refine Gk.icmpYes X22 hx (hb hby d9_226) (flt (by decide : ¬ ((64 : Int32) < (2 : Int32)))).2.2.2 261 (by decide) (by decide) ?_
  refine Gk.aloadN X22 hx (hb hby d9_261) rfl rfl ?_
  refine Gk.iconst X22 hx (hb hby d9_262) (0 : Int32) rfl ?_
  refine Gk.aloadN X22 hx (hb hby d9_263) rfl rfl ?_
  refine Gk.getF X22 hx hZ hown (host := "") (Or.inl (hw _ (List.mem_of_getElem? (i := 21) rfl))) Via.refl e22 H21 (hb hby d9_264) ?_
  intro T24 X24 e24
  refine Gk.aloadN X24 hx (hb hby d9_267) rfl rfl ?_
  refine Gk.getF X24 hx hZ hown (host := "") (Or.inl (hw _ (List.mem_of_getElem? (i := 67) rfl))) Via.refl e24 H12 (hb hby d9_268) ?_
  intro T25 X25 e25
  refine Gk.aloadN X25 hx (hb hby d9_271) rfl rfl ?_
  refine Gk.getF X25 hx hZ hown (host := "") (Or.inl (hw _ (List.mem_of_getElem? (i := 46) rfl))) Via.refl e25 H19 (hb hby d9_272) ?_
  intro T26 X26 e26
  refine Gk.imul X26 hx (hb hby d9_275) (1 : Int32) (by decide) ?_
  refine Gk.aloadN X26 hx (hb hby d9_276) rfl rfl ?_
  refine Gk.getF X26 hx hZ hown (host := "") (Or.inl (hw _ (List.mem_of_getElem? (i := 46) rfl))) Via.refl e26 H19 (hb hby d9_277) ?_
  intro T27 X27 e27
  have H29 := (V_t.keep K2 (ninS (Nat.ne_of_lt (Nat.lt_trans lt0 lt1)) nin0))
  refine Gk.copy X27 hx hZ hown (hw _ (List.mem_of_getElem? (i := 101) rfl)) (hw _ (List.mem_of_getElem? (i := 104) rfl)) (hw _ (List.mem_of_getElem? (i := 102) rfl)) (hw _ (List.mem_of_getElem? (i := 103) rfl)) e27 H29 H23 rfl (by decide) (by decide) (by decide) (by decide) (by decide) N8 (Nat.le_trans g_a1 (Nat.le_of_lt (Nat.lt_trans lt1 lt2))) (upd f_states 1 (.int (1 : Int32))) (fun i_ _ => own_cp1 ft f_states 1 _ ht0 i_) (by rw [hml]; rfl) (hb hby d9_280) (by decide) (Nat.le_of_ble_eq_true rfl) ?_
  intro T28 h28 L28 X28 e28 N28 K28 V28
  refine Gk.aloadN X28 hx (hb hby d9_283) rfl rfl ?_
  have H30 := ((F_hashes.keep K2 (ninS (Nat.ne_of_lt lt1) nin0)).keep K28 (ninS (Nat.ne_of_lt (Nat.lt_trans lt1 lt2)) nin0))
  refine Gk.getF X28 hx hZ hown (host := "") (Or.inl (hw _ (List.mem_of_getElem? (i := 23) rfl))) Via.refl e28 H30 (hb hby d9_284) ?_
  intro T31 X31 e31
  refine Gk.aloadN X31 hx (hb hby d9_287) rfl rfl ?_
  have H32 := (H12.keep K28 (ninS (Nat.ne_of_lt (Nat.lt_trans lt1 lt2)) nin0))
  refine Gk.getF X31 hx hZ hown (host := "") (Or.inl (hw _ (List.mem_of_getElem? (i := 67) rfl))) Via.refl e31 H32 (hb hby d9_288) ?_
  intro T33 X33 e33
  refine Gk.iloadN X33 hx (hb hby d9_291) rfl ?_
  have H35 := ((V_hashes.keep K2 (ninS (Ne.symm (Nat.ne_of_lt (Nat.lt_trans lt2 lt3))) nin0)).keep K28 (ninS (Ne.symm (Nat.ne_of_lt lt3)) nin0))
  refine Gk.iastore X33 hx hZ e33 H35 1 rfl ⟨by decide, by decide⟩ (.int (-511900244 : Int32)) rfl (hb hby d9_292) ?_
  intro T34 h34 X34 e34 W34 V34
  have N34 := Fr.snoc X34 N28 (Nat.le_trans g_a1 (Nat.le_of_lt (Nat.lt_trans lt1 (Nat.lt_trans lt2 lt3))))
  refine Gk.aloadN X34 hx (hb hby d9_293) rfl rfl ?_
  have ne36 : a1 ≠ x_hashes := (Nat.ne_of_lt (Nat.lt_trans lt1 (Nat.lt_trans lt2 lt3)))
  have H37 := (((F_zones.keep K2 (ninS (Nat.ne_of_lt lt1) nin0)).keep K28 (ninS (Nat.ne_of_lt (Nat.lt_trans lt1 lt2)) nin0)).other W34 (Or.inl ne36))
  refine Gk.getF X34 hx hZ hown (host := "") (Or.inl (hw _ (List.mem_of_getElem? (i := 27) rfl))) Via.refl e34 H37 (hb hby d9_294) ?_
  intro T38 X38 e38
  refine Gk.aloadN X38 hx (hb hby d9_297) rfl rfl ?_
  have H39 := (H32.other W34 (Or.inl ne36))
  refine Gk.getF X38 hx hZ hown (host := "") (Or.inl (hw _ (List.mem_of_getElem? (i := 67) rfl))) Via.refl e38 H39 (hb hby d9_298) ?_
  intro T40 X40 e40
  refine Gk.aloadN X40 hx (hb hby d9_301) rfl rfl ?_
  have ne42 : ab ≠ x_zones := (Nat.ne_of_lt (Nat.lt_trans lt2 (Nat.lt_trans lt3 lt4)))
  have H43 := (((V_zones.keep K2 (ninS (Ne.symm ne42) nin0)).keep K28 (ninS (Ne.symm (Nat.ne_of_lt (Nat.lt_trans lt3 lt4))) nin0)).other W34 (Ne.symm (Nat.ne_of_lt lt4)))
  refine Gk.aastore X40 hx hZ e40 H43 1 rfl ⟨by decide, by decide⟩ rfl rfl (Or.inl rfl) (hb hby d9_302) ?_
  intro T41 h41 X41 e41 W41 V41
  have N41 := Fr.snoc X41 N34 (Nat.le_trans g_a1 (Nat.le_of_lt (Nat.lt_trans lt1 (Nat.lt_trans lt2 (Nat.lt_trans lt3 lt4)))))
  refine Gk.aloadN X41 hx (hb hby d9_303) rfl rfl ?_
  have ne44 : a1 ≠ x_zones := (Nat.ne_of_lt (Nat.lt_trans lt1 (Nat.lt_trans lt2 (Nat.lt_trans lt3 lt4))))
  have H45 := ((((F_held.keep K2 (ninS (Nat.ne_of_lt lt1) nin0)).keep K28 (ninS (Nat.ne_of_lt (Nat.lt_trans lt1 lt2)) nin0)).other W34 (Or.inl ne36)).other W41 (Or.inl ne44))
  refine Gk.getF X41 hx hZ hown (host := "") (Or.inl (hw _ (List.mem_of_getElem? (i := 32) rfl))) Via.refl e41 H45 (hb hby d9_304) ?_
  intro T46 X46 e46
  refine Gk.aloadN X46 hx (hb hby d9_307) rfl rfl ?_
  have H47 := (H39.other W41 (Or.inl ne44))
  refine Gk.getF X46 hx hZ hown (host := "") (Or.inl (hw _ (List.mem_of_getElem? (i := 67) rfl))) Via.refl e46 H47 (hb hby d9_308) ?_
  intro T48 X48 e48
  refine Gk.iconst X48 hx (hb hby d9_311) (0 : Int32) rfl ?_
  have ne50 : ab ≠ x_held := (Nat.ne_of_lt (Nat.lt_trans lt2 (Nat.lt_trans lt3 (Nat.lt_trans lt4 (Nat.lt_trans lt5 lt6)))))
  have ne51 : x_states ≠ x_held := (Nat.ne_of_lt (Nat.lt_trans lt3 (Nat.lt_trans lt4 (Nat.lt_trans lt5 lt6))))
  have ne52 : x_hashes ≠ x_held := (Nat.ne_of_lt (Nat.lt_trans lt4 (Nat.lt_trans lt5 lt6)))
  have H53 := ((((V_held.keep K2 (ninS (Ne.symm ne50) nin0)).keep K28 (ninS (Ne.symm ne51) nin0)).other W34 (Ne.symm ne52)).other W41 (Ne.symm (Nat.ne_of_lt (Nat.lt_trans lt5 lt6))))
  refine Gk.bastoreZ X48 hx hZ e48 H53 1 rfl ⟨by decide, by decide⟩ (.int (0 : Int32)) rfl (hb hby d9_312) ?_
  intro T49 h49 X49 e49 W49 V49
  have N49 := Fr.snoc X49 N41 (Nat.le_trans g_a1 (Nat.le_of_lt (Nat.lt_trans lt1 (Nat.lt_trans lt2 (Nat.lt_trans lt3 (Nat.lt_trans lt4 (Nat.lt_trans lt5 lt6)))))))
  refine Gk.aloadN X49 hx (hb hby d9_313) rfl rfl ?_
  have ne54 : a1 ≠ x_held := (Nat.ne_of_lt (Nat.lt_trans lt1 (Nat.lt_trans lt2 (Nat.lt_trans lt3 (Nat.lt_trans lt4 (Nat.lt_trans lt5 lt6))))))
  have H55 := (((((F_sameStates.keep K2 (ninS (Nat.ne_of_lt lt1) nin0)).keep K28 (ninS (Nat.ne_of_lt (Nat.lt_trans lt1 lt2)) nin0)).other W34 (Or.inl ne36)).other W41 (Or.inl ne44)).other W49 (Or.inl ne54))
  refine Gk.getF X49 hx hZ hown (host := "") (Or.inl (hw _ (List.mem_of_getElem? (i := 29) rfl))) Via.refl e49 H55 (hb hby d9_314) ?_
  intro T56 X56 e56
  refine Gk.aloadN X56 hx (hb hby d9_317) rfl rfl ?_
  have H57 := (H47.other W49 (Or.inl ne54))
  refine Gk.getF X56 hx hZ hown (host := "") (Or.inl (hw _ (List.mem_of_getElem? (i := 67) rfl))) Via.refl e56 H57 (hb hby d9_318) ?_
  intro T58 X58 e58
  refine Gk.iload X58 hx (hb hby d9_321) rfl ?_
  have ne60 : ab ≠ x_sameStates := (Nat.ne_of_lt (Nat.lt_trans lt2 (Nat.lt_trans lt3 (Nat.lt_trans lt4 lt5))))
  have ne61 : x_states ≠ x_sameStates := (Nat.ne_of_lt (Nat.lt_trans lt3 (Nat.lt_trans lt4 lt5)))
  have H62 := (((((V_sameStates.keep K2 (ninS (Ne.symm ne60) nin0)).keep K28 (ninS (Ne.symm ne61) nin0)).other W34 (Ne.symm (Nat.ne_of_lt (Nat.lt_trans lt4 lt5)))).other W41 (Ne.symm (Nat.ne_of_lt lt5))).other W49 (Nat.ne_of_lt lt6))
  refine Gk.iastore X58 hx hZ e58 H62 1 rfl ⟨by decide, by decide⟩ (.int (-1 : Int32)) rfl (hb hby d9_323) ?_
  intro T59 h59 X59 e59 W59 V59
  have N59 := Fr.snoc X59 N49 (Nat.le_trans g_a1 (Nat.le_of_lt (Nat.lt_trans lt1 (Nat.lt_trans lt2 (Nat.lt_trans lt3 (Nat.lt_trans lt4 lt5))))))
  refine Gk.aloadN X59 hx (hb hby d9_324) rfl rfl ?_
  have ne63 : a1 ≠ x_sameStates := (Nat.ne_of_lt (Nat.lt_trans lt1 (Nat.lt_trans lt2 (Nat.lt_trans lt3 (Nat.lt_trans lt4 lt5)))))
  have H64 := (((((H14.keep K28 (ninS (Nat.ne_of_lt (Nat.lt_trans lt1 lt2)) nin0)).other W34 (Or.inl ne36)).other W41 (Or.inl ne44)).other W49 (Or.inl ne54)).other W59 (Or.inl ne63))
  refine Gk.getF X59 hx hZ hown (host := "") (Or.inl (hw _ (List.mem_of_getElem? (i := 34) rfl))) Via.refl e59 H64 (hb hby d9_325) ?_
  intro T65 X65 e65
  refine Gk.aloadN X65 hx (hb hby d9_328) rfl rfl ?_
  have H66 := (H57.other W59 (Or.inl ne63))
  refine Gk.getF X65 hx hZ hown (host := "") (Or.inl (hw _ (List.mem_of_getElem? (i := 67) rfl))) Via.refl e65 H66 (hb hby d9_329) ?_
  intro T67 X67 e67
  refine Gk.iload X67 hx (hb hby d9_332) rfl ?_
  have ne69 : x_states ≠ x_parents := (Nat.ne_of_lt (Nat.lt_trans lt3 (Nat.lt_trans lt4 (Nat.lt_trans lt5 (Nat.lt_trans lt6 lt7)))))
  have ne70 : x_hashes ≠ x_parents := (Nat.ne_of_lt (Nat.lt_trans lt4 (Nat.lt_trans lt5 (Nat.lt_trans lt6 lt7))))
  have ne71 : x_zones ≠ x_parents := (Nat.ne_of_lt (Nat.lt_trans lt5 (Nat.lt_trans lt6 lt7)))
  have H72 := (((((H17.keep K28 (ninS (Ne.symm ne69) nin0)).other W34 (Ne.symm ne70)).other W41 (Ne.symm ne71)).other W49 (Ne.symm (Nat.ne_of_lt lt7))).other W59 (Ne.symm (Nat.ne_of_lt (Nat.lt_trans lt6 lt7))))
  refine Gk.iastore X67 hx hZ e67 H72 1 rfl ⟨by decide, by decide⟩ (.int (-1 : Int32)) rfl (hb hby d9_334) ?_
  intro T68 h68 X68 e68 W68 V68
  have N68 := Fr.snoc X68 N59 (Nat.le_trans g_a1 (Nat.le_of_lt (Nat.lt_trans lt1 (Nat.lt_trans lt2 (Nat.lt_trans lt3 (Nat.lt_trans lt4 (Nat.lt_trans lt5 (Nat.lt_trans lt6 lt7))))))))
  refine Gk.aloadN X68 hx (hb hby d9_335) rfl rfl ?_
  have ne73 : a1 ≠ x_parents := (Nat.ne_of_lt (Nat.lt_trans lt1 (Nat.lt_trans lt2 (Nat.lt_trans lt3 (Nat.lt_trans lt4 (Nat.lt_trans lt5 (Nat.lt_trans lt6 lt7)))))))
  have H74 := (((((((F_events.keep K2 (ninS (Nat.ne_of_lt lt1) nin0)).keep K28 (ninS (Nat.ne_of_lt (Nat.lt_trans lt1 lt2)) nin0)).other W34 (Or.inl ne36)).other W41 (Or.inl ne44)).other W49 (Or.inl ne54)).other W59 (Or.inl ne63)).other W68 (Or.inl ne73))
  refine Gk.getF X68 hx hZ hown (host := "") (Or.inl (hw _ (List.mem_of_getElem? (i := 38) rfl))) Via.refl e68 H74 (hb hby d9_336) ?_
  intro T75 X75 e75
  refine Gk.aloadN X75 hx (hb hby d9_339) rfl rfl ?_
  have H76 := (H66.other W68 (Or.inl ne73))
  refine Gk.getF X75 hx hZ hown (host := "") (Or.inl (hw _ (List.mem_of_getElem? (i := 67) rfl))) Via.refl e75 H76 (hb hby d9_340) ?_
  intro T77 X77 e77
  refine Gk.aload X77 hx (hb hby d9_343) rfl rfl ?_
  have ne79 : ab ≠ x_events := (Nat.ne_of_lt (Nat.lt_trans lt2 (Nat.lt_trans lt3 (Nat.lt_trans lt4 (Nat.lt_trans lt5 (Nat.lt_trans lt6 (Nat.lt_trans lt7 lt8)))))))
  have ne80 : x_states ≠ x_events := (Nat.ne_of_lt (Nat.lt_trans lt3 (Nat.lt_trans lt4 (Nat.lt_trans lt5 (Nat.lt_trans lt6 (Nat.lt_trans lt7 lt8))))))
  have ne81 : x_hashes ≠ x_events := (Nat.ne_of_lt (Nat.lt_trans lt4 (Nat.lt_trans lt5 (Nat.lt_trans lt6 (Nat.lt_trans lt7 lt8)))))
  have ne82 : x_zones ≠ x_events := (Nat.ne_of_lt (Nat.lt_trans lt5 (Nat.lt_trans lt6 (Nat.lt_trans lt7 lt8))))
  have ne83 : x_sameStates ≠ x_events := (Nat.ne_of_lt (Nat.lt_trans lt6 (Nat.lt_trans lt7 lt8)))
  have H84 := (((((((V_events.keep K2 (ninS (Ne.symm ne79) nin0)).keep K28 (ninS (Ne.symm ne80) nin0)).other W34 (Ne.symm ne81)).other W41 (Ne.symm ne82)).other W49 (Ne.symm (Nat.ne_of_lt (Nat.lt_trans lt7 lt8)))).other W59 (Ne.symm ne83)).other W68 (Ne.symm (Nat.ne_of_lt lt8)))
  refine Gk.aastore X77 hx hZ e77 H84 1 rfl ⟨by decide, by decide⟩ rfl rfl (Or.inl rfl) (hb hby d9_345) ?_
  intro T78 h78 X78 e78 W78 V78
  have N78 := Fr.snoc X78 N68 (Nat.le_trans g_a1 (Nat.le_of_lt (Nat.lt_trans lt1 (Nat.lt_trans lt2 (Nat.lt_trans lt3 (Nat.lt_trans lt4 (Nat.lt_trans lt5 (Nat.lt_trans lt6 (Nat.lt_trans lt7 lt8)))))))))
  refine Gk.aloadN X78 hx (hb hby d9_346) rfl rfl ?_
  have ne85 : a1 ≠ x_events := (Nat.ne_of_lt (Nat.lt_trans lt1 (Nat.lt_trans lt2 (Nat.lt_trans lt3 (Nat.lt_trans lt4 (Nat.lt_trans lt5 (Nat.lt_trans lt6 (Nat.lt_trans lt7 lt8))))))))
  have H86 := ((((((((F_ranks.keep K2 (ninS (Nat.ne_of_lt lt1) nin0)).keep K28 (ninS (Nat.ne_of_lt (Nat.lt_trans lt1 lt2)) nin0)).other W34 (Or.inl ne36)).other W41 (Or.inl ne44)).other W49 (Or.inl ne54)).other W59 (Or.inl ne63)).other W68 (Or.inl ne73)).other W78 (Or.inl ne85))
  refine Gk.getF X78 hx hZ hown (host := "") (Or.inl (hw _ (List.mem_of_getElem? (i := 40) rfl))) Via.refl e78 H86 (hb hby d9_347) ?_
  intro T87 X87 e87
  refine Gk.aloadN X87 hx (hb hby d9_350) rfl rfl ?_
  have H88 := (H76.other W78 (Or.inl ne85))
  refine Gk.getF X87 hx hZ hown (host := "") (Or.inl (hw _ (List.mem_of_getElem? (i := 67) rfl))) Via.refl e87 H88 (hb hby d9_351) ?_
  intro T89 X89 e89
  refine Gk.iload X89 hx (hb hby d9_354) rfl ?_
  have ne91 : ab ≠ x_ranks := (Nat.ne_of_lt (Nat.lt_trans lt2 (Nat.lt_trans lt3 (Nat.lt_trans lt4 (Nat.lt_trans lt5 (Nat.lt_trans lt6 (Nat.lt_trans lt7 (Nat.lt_trans lt8 lt9))))))))
  have ne92 : x_states ≠ x_ranks := (Nat.ne_of_lt (Nat.lt_trans lt3 (Nat.lt_trans lt4 (Nat.lt_trans lt5 (Nat.lt_trans lt6 (Nat.lt_trans lt7 (Nat.lt_trans lt8 lt9)))))))
  have ne93 : x_hashes ≠ x_ranks := (Nat.ne_of_lt (Nat.lt_trans lt4 (Nat.lt_trans lt5 (Nat.lt_trans lt6 (Nat.lt_trans lt7 (Nat.lt_trans lt8 lt9))))))
  have ne94 : x_zones ≠ x_ranks := (Nat.ne_of_lt (Nat.lt_trans lt5 (Nat.lt_trans lt6 (Nat.lt_trans lt7 (Nat.lt_trans lt8 lt9)))))
  have ne95 : x_held ≠ x_ranks := (Nat.ne_of_lt (Nat.lt_trans lt7 (Nat.lt_trans lt8 lt9)))
  have ne96 : x_sameStates ≠ x_ranks := (Nat.ne_of_lt (Nat.lt_trans lt6 (Nat.lt_trans lt7 (Nat.lt_trans lt8 lt9))))
  have H97 := ((((((((V_ranks.keep K2 (ninS (Ne.symm ne91) nin0)).keep K28 (ninS (Ne.symm ne92) nin0)).other W34 (Ne.symm ne93)).other W41 (Ne.symm ne94)).other W49 (Ne.symm ne95)).other W59 (Ne.symm ne96)).other W68 (Ne.symm (Nat.ne_of_lt (Nat.lt_trans lt8 lt9)))).other W78 (Ne.symm (Nat.ne_of_lt lt9)))
  refine Gk.iastore X89 hx hZ e89 H97 1 rfl ⟨by decide, by decide⟩ (.int p7) rfl (hb hby d9_356) ?_
  intro T90 h90 X90 e90 W90 V90
  have N90 := Fr.snoc X90 N78 (Nat.le_trans g_a1 (Nat.le_of_lt (Nat.lt_trans lt1 (Nat.lt_trans lt2 (Nat.lt_trans lt3 (Nat.lt_trans lt4 (Nat.lt_trans lt5 (Nat.lt_trans lt6 (Nat.lt_trans lt7 (Nat.lt_trans lt8 lt9))))))))))
  refine Gk.aloadN X90 hx (hb hby d9_357) rfl rfl ?_
  have ne98 : a1 ≠ x_ranks := (Nat.ne_of_lt (Nat.lt_trans lt1 (Nat.lt_trans lt2 (Nat.lt_trans lt3 (Nat.lt_trans lt4 (Nat.lt_trans lt5 (Nat.lt_trans lt6 (Nat.lt_trans lt7 (Nat.lt_trans lt8 lt9)))))))))
  have H99 := (((((((((F_reached.keep K2 (ninS (Nat.ne_of_lt lt1) nin0)).keep K28 (ninS (Nat.ne_of_lt (Nat.lt_trans lt1 lt2)) nin0)).other W34 (Or.inl ne36)).other W41 (Or.inl ne44)).other W49 (Or.inl ne54)).other W59 (Or.inl ne63)).other W68 (Or.inl ne73)).other W78 (Or.inl ne85)).other W90 (Or.inl ne98))
  refine Gk.getF X90 hx hZ hown (host := "") (Or.inl (hw _ (List.mem_of_getElem? (i := 52) rfl))) Via.refl e90 H99 (hb hby d9_358) ?_
  intro T100 X100 e100
  refine Gk.iload X100 hx (hb hby d9_361) rfl ?_
  have ne102 : ab ≠ x_reached := (Nat.ne_of_lt (Nat.lt_trans lt2 (Nat.lt_trans lt3 (Nat.lt_trans lt4 (Nat.lt_trans lt5 (Nat.lt_trans lt6 (Nat.lt_trans lt7 (Nat.lt_trans lt8 (Nat.lt_trans lt9 (Nat.lt_trans lt10 (Nat.lt_trans lt11 (Nat.lt_trans lt12 lt13))))))))))))
  have ne103 : x_states ≠ x_reached := (Nat.ne_of_lt (Nat.lt_trans lt3 (Nat.lt_trans lt4 (Nat.lt_trans lt5 (Nat.lt_trans lt6 (Nat.lt_trans lt7 (Nat.lt_trans lt8 (Nat.lt_trans lt9 (Nat.lt_trans lt10 (Nat.lt_trans lt11 (Nat.lt_trans lt12 lt13)))))))))))
  have ne104 : x_hashes ≠ x_reached := (Nat.ne_of_lt (Nat.lt_trans lt4 (Nat.lt_trans lt5 (Nat.lt_trans lt6 (Nat.lt_trans lt7 (Nat.lt_trans lt8 (Nat.lt_trans lt9 (Nat.lt_trans lt10 (Nat.lt_trans lt11 (Nat.lt_trans lt12 lt13))))))))))
  have ne105 : x_zones ≠ x_reached := (Nat.ne_of_lt (Nat.lt_trans lt5 (Nat.lt_trans lt6 (Nat.lt_trans lt7 (Nat.lt_trans lt8 (Nat.lt_trans lt9 (Nat.lt_trans lt10 (Nat.lt_trans lt11 (Nat.lt_trans lt12 lt13)))))))))
  have ne106 : x_held ≠ x_reached := (Nat.ne_of_lt (Nat.lt_trans lt7 (Nat.lt_trans lt8 (Nat.lt_trans lt9 (Nat.lt_trans lt10 (Nat.lt_trans lt11 (Nat.lt_trans lt12 lt13)))))))
  have ne107 : x_sameStates ≠ x_reached := (Nat.ne_of_lt (Nat.lt_trans lt6 (Nat.lt_trans lt7 (Nat.lt_trans lt8 (Nat.lt_trans lt9 (Nat.lt_trans lt10 (Nat.lt_trans lt11 (Nat.lt_trans lt12 lt13))))))))
  have ne108 : x_parents ≠ x_reached := (Nat.ne_of_lt (Nat.lt_trans lt8 (Nat.lt_trans lt9 (Nat.lt_trans lt10 (Nat.lt_trans lt11 (Nat.lt_trans lt12 lt13))))))
  have ne109 : x_events ≠ x_reached := (Nat.ne_of_lt (Nat.lt_trans lt9 (Nat.lt_trans lt10 (Nat.lt_trans lt11 (Nat.lt_trans lt12 lt13)))))
  have ne110 : x_ranks ≠ x_reached := (Nat.ne_of_lt (Nat.lt_trans lt10 (Nat.lt_trans lt11 (Nat.lt_trans lt12 lt13))))
  have H111 := (((((((((V_reached.keep K2 (ninS (Ne.symm ne102) nin0)).keep K28 (ninS (Ne.symm ne103) nin0)).other W34 (Ne.symm ne104)).other W41 (Ne.symm ne105)).other W49 (Ne.symm ne106)).other W59 (Ne.symm ne107)).other W68 (Ne.symm ne108)).other W78 (Ne.symm ne109)).other W90 (Ne.symm ne110))
  refine Gk.iaload X100 hx hZ e100 H111 hk3 (.int (Rf p7.toNatClampNeg)) rfl (hb hby d9_363) ?_
  refine Gk.aloadN X100 hx (hb hby d9_364) rfl rfl ?_
  have H112 := (((((((((F_ranked.keep K2 (ninS (Nat.ne_of_lt lt1) nin0)).keep K28 (ninS (Nat.ne_of_lt (Nat.lt_trans lt1 lt2)) nin0)).other W34 (Or.inl ne36)).other W41 (Or.inl ne44)).other W49 (Or.inl ne54)).other W59 (Or.inl ne63)).other W68 (Or.inl ne73)).other W78 (Or.inl ne85)).other W90 (Or.inl ne98))
  refine Gk.getF X100 hx hZ hown (host := "") (Or.inl (hw _ (List.mem_of_getElem? (i := 50) rfl))) Via.refl e100 H112 (hb hby d9_365) ?_
  intro T113 X113 e113
  refine Gk.iload X113 hx (hb hby d9_368) rfl ?_
  have ne115 : ab ≠ x_ranked := (Nat.ne_of_lt (Nat.lt_trans lt2 (Nat.lt_trans lt3 (Nat.lt_trans lt4 (Nat.lt_trans lt5 (Nat.lt_trans lt6 (Nat.lt_trans lt7 (Nat.lt_trans lt8 (Nat.lt_trans lt9 (Nat.lt_trans lt10 lt11))))))))))
  have ne116 : x_states ≠ x_ranked := (Nat.ne_of_lt (Nat.lt_trans lt3 (Nat.lt_trans lt4 (Nat.lt_trans lt5 (Nat.lt_trans lt6 (Nat.lt_trans lt7 (Nat.lt_trans lt8 (Nat.lt_trans lt9 (Nat.lt_trans lt10 lt11)))))))))
  have ne117 : x_hashes ≠ x_ranked := (Nat.ne_of_lt (Nat.lt_trans lt4 (Nat.lt_trans lt5 (Nat.lt_trans lt6 (Nat.lt_trans lt7 (Nat.lt_trans lt8 (Nat.lt_trans lt9 (Nat.lt_trans lt10 lt11))))))))
  have ne118 : x_zones ≠ x_ranked := (Nat.ne_of_lt (Nat.lt_trans lt5 (Nat.lt_trans lt6 (Nat.lt_trans lt7 (Nat.lt_trans lt8 (Nat.lt_trans lt9 (Nat.lt_trans lt10 lt11)))))))
  have ne119 : x_held ≠ x_ranked := (Nat.ne_of_lt (Nat.lt_trans lt7 (Nat.lt_trans lt8 (Nat.lt_trans lt9 (Nat.lt_trans lt10 lt11)))))
  have ne120 : x_sameStates ≠ x_ranked := (Nat.ne_of_lt (Nat.lt_trans lt6 (Nat.lt_trans lt7 (Nat.lt_trans lt8 (Nat.lt_trans lt9 (Nat.lt_trans lt10 lt11))))))
  have ne121 : x_parents ≠ x_ranked := (Nat.ne_of_lt (Nat.lt_trans lt8 (Nat.lt_trans lt9 (Nat.lt_trans lt10 lt11))))
  have ne122 : x_events ≠ x_ranked := (Nat.ne_of_lt (Nat.lt_trans lt9 (Nat.lt_trans lt10 lt11)))
  have H123 := (((((((((V_ranked.keep K2 (ninS (Ne.symm ne115) nin0)).keep K28 (ninS (Ne.symm ne116) nin0)).other W34 (Ne.symm ne117)).other W41 (Ne.symm ne118)).other W49 (Ne.symm ne119)).other W59 (Ne.symm ne120)).other W68 (Ne.symm ne121)).other W78 (Ne.symm ne122)).other W90 (Ne.symm (Nat.ne_of_lt (Nat.lt_trans lt10 lt11))))
  refine Gk.aaload X113 hx hZ e113 H123 rfl hk3 (.ref yk) (congrArg Value.ref eyk.symm) (hb hby d9_370) ?_
  have ne124 : ab ≠ yk := (Nat.ne_of_lt (Nat.lt_trans lt2 (Nat.lt_trans lt3 (Nat.lt_trans lt4 (Nat.lt_trans lt5 (Nat.lt_trans lt6 (Nat.lt_trans lt7 (Nat.lt_trans lt8 (Nat.lt_trans lt9 (Nat.lt_trans lt10 (Nat.lt_trans lt11 lt12)))))))))))
  have ne125 : x_states ≠ yk := (Nat.ne_of_lt (Nat.lt_trans lt3 (Nat.lt_trans lt4 (Nat.lt_trans lt5 (Nat.lt_trans lt6 (Nat.lt_trans lt7 (Nat.lt_trans lt8 (Nat.lt_trans lt9 (Nat.lt_trans lt10 (Nat.lt_trans lt11 lt12))))))))))
  have ne126 : x_hashes ≠ yk := (Nat.ne_of_lt (Nat.lt_trans lt4 (Nat.lt_trans lt5 (Nat.lt_trans lt6 (Nat.lt_trans lt7 (Nat.lt_trans lt8 (Nat.lt_trans lt9 (Nat.lt_trans lt10 (Nat.lt_trans lt11 lt12)))))))))
  have ne127 : x_zones ≠ yk := (Nat.ne_of_lt (Nat.lt_trans lt5 (Nat.lt_trans lt6 (Nat.lt_trans lt7 (Nat.lt_trans lt8 (Nat.lt_trans lt9 (Nat.lt_trans lt10 (Nat.lt_trans lt11 lt12))))))))
  have ne128 : x_held ≠ yk := (Nat.ne_of_lt (Nat.lt_trans lt7 (Nat.lt_trans lt8 (Nat.lt_trans lt9 (Nat.lt_trans lt10 (Nat.lt_trans lt11 lt12))))))
  have ne129 : x_sameStates ≠ yk := (Nat.ne_of_lt (Nat.lt_trans lt6 (Nat.lt_trans lt7 (Nat.lt_trans lt8 (Nat.lt_trans lt9 (Nat.lt_trans lt10 (Nat.lt_trans lt11 lt12)))))))
  have ne130 : x_parents ≠ yk := (Nat.ne_of_lt (Nat.lt_trans lt8 (Nat.lt_trans lt9 (Nat.lt_trans lt10 (Nat.lt_trans lt11 lt12)))))
  have ne131 : x_events ≠ yk := (Nat.ne_of_lt (Nat.lt_trans lt9 (Nat.lt_trans lt10 (Nat.lt_trans lt11 lt12))))
  have ne132 : x_ranks ≠ yk := (Nat.ne_of_lt (Nat.lt_trans lt10 (Nat.lt_trans lt11 lt12)))
  have H133 := (((((((((V_rk.keep K2 (ninS (Ne.symm ne124) nin0)).keep K28 (ninS (Ne.symm ne125) nin0)).other W34 (Ne.symm ne126)).other W41 (Ne.symm ne127)).other W49 (Ne.symm ne128)).other W59 (Ne.symm ne129)).other W68 (Ne.symm ne130)).other W78 (Ne.symm ne131)).other W90 (Ne.symm ne132))
  refine Gk.alen X113 hx hZ e113 H133 (hb hby d9_371) ?_
  have hc372 : ¬ ((Rf p7.toNatClampNeg) = (8 : Int32)) := (fun q_ => Int32.lt_irrefl (q_ ▸ hr8.2))
  refine Gk.icmpYes X113 hx (hb hby d9_372) (feq hc372).2 401 (by decide) (by decide) ?_
  refine Gk.aloadN X113 hx (hb hby d9_401) rfl rfl ?_
  refine Gk.getF X113 hx hZ hown (host := "") (Or.inl (hw _ (List.mem_of_getElem? (i := 50) rfl))) Via.refl e113 H112 (hb hby d9_402) ?_
  intro T134 X134 e134
  refine Gk.iload X134 hx (hb hby d9_405) rfl ?_
  refine Gk.aaload X134 hx hZ e134 H123 rfl hk3 (.ref yk) (congrArg Value.ref eyk.symm) (hb hby d9_407) ?_
  refine Gk.aloadN X134 hx (hb hby d9_408) rfl rfl ?_
  refine Gk.getF X134 hx hZ hown (host := "") (Or.inl (hw _ (List.mem_of_getElem? (i := 52) rfl))) Via.refl e134 H99 (hb hby d9_409) ?_
  intro T136 X136 e136
  refine Gk.iload X136 hx (hb hby d9_412) rfl ?_
  refine Gk.dup2 X136 hx (hb hby d9_414) rfl rfl ?_
  refine Gk.iaload X136 hx hZ e136 H111 hk3 (.int (Rf p7.toNatClampNeg)) rfl (hb hby d9_415) ?_
  refine Gk.dupX2 X136 hx (hb hby d9_416) rfl rfl rfl ?_
  refine Gk.iconst X136 hx (hb hby d9_417) (1 : Int32) rfl ?_
  refine Gk.iadd X136 hx (hb hby d9_418) _ rfl ?_
  refine Gk.iastore X136 hx hZ e136 H111 p7.toNatClampNeg rfl hk3 (.int ((Rf p7.toNatClampNeg) + (1 : Int32))) rfl (hb hby d9_419) ?_
  intro T138 h138 X138 e138 W138 V138
  have N138 := Fr.snoc X138 N90 (Nat.le_trans g_a1 (Nat.le_of_lt (Nat.lt_trans lt1 (Nat.lt_trans lt2 (Nat.lt_trans lt3 (Nat.lt_trans lt4 (Nat.lt_trans lt5 (Nat.lt_trans lt6 (Nat.lt_trans lt7 (Nat.lt_trans lt8 (Nat.lt_trans lt9 (Nat.lt_trans lt10 (Nat.lt_trans lt11 (Nat.lt_trans lt12 lt13))))))))))))))
  refine Gk.aloadN X138 hx (hb hby d9_420) rfl rfl ?_
  have ne139 : a1 ≠ x_reached := (Nat.ne_of_lt (Nat.lt_trans lt1 (Nat.lt_trans lt2 (Nat.lt_trans lt3 (Nat.lt_trans lt4 (Nat.lt_trans lt5 (Nat.lt_trans lt6 (Nat.lt_trans lt7 (Nat.lt_trans lt8 (Nat.lt_trans lt9 (Nat.lt_trans lt10 (Nat.lt_trans lt11 (Nat.lt_trans lt12 lt13)))))))))))))
  have H140 := ((H88.other W90 (Or.inl ne98)).other W138 (Or.inl ne139))
  refine Gk.getF X138 hx hZ hown (host := "") (Or.inl (hw _ (List.mem_of_getElem? (i := 67) rfl))) Via.refl e138 H140 (hb hby d9_421) ?_
  intro T141 X141 e141
  have H143 := (H133.other W138 (Nat.ne_of_lt lt13))
  refine Gk.iastore X141 hx hZ e141 H143 (Rf p7.toNatClampNeg).toNatClampNeg rfl hr8 (.int (1 : Int32)) rfl (hb hby d9_424) ?_
  intro T142 h142 X142 e142 W142 V142
  have N142 := Fr.snoc X142 N138 (Nat.le_trans g_a1 (Nat.le_of_lt (Nat.lt_trans lt1 (Nat.lt_trans lt2 (Nat.lt_trans lt3 (Nat.lt_trans lt4 (Nat.lt_trans lt5 (Nat.lt_trans lt6 (Nat.lt_trans lt7 (Nat.lt_trans lt8 (Nat.lt_trans lt9 (Nat.lt_trans lt10 (Nat.lt_trans lt11 lt12)))))))))))))
  refine Gk.aloadN X142 hx (hb hby d9_425) rfl rfl ?_
  refine Gk.aloadN X142 hx (hb hby d9_426) rfl rfl ?_
  have ne144 : a1 ≠ yk := (Nat.ne_of_lt (Nat.lt_trans lt1 (Nat.lt_trans lt2 (Nat.lt_trans lt3 (Nat.lt_trans lt4 (Nat.lt_trans lt5 (Nat.lt_trans lt6 (Nat.lt_trans lt7 (Nat.lt_trans lt8 (Nat.lt_trans lt9 (Nat.lt_trans lt10 (Nat.lt_trans lt11 lt12))))))))))))
  have H145 := (((((((((((F_lowest.keep K2 (ninS (Nat.ne_of_lt lt1) nin0)).keep K28 (ninS (Nat.ne_of_lt (Nat.lt_trans lt1 lt2)) nin0)).other W34 (Or.inl ne36)).other W41 (Or.inl ne44)).other W49 (Or.inl ne54)).other W59 (Or.inl ne63)).other W68 (Or.inl ne73)).other W78 (Or.inl ne85)).other W90 (Or.inl ne98)).other W138 (Or.inl ne139)).other W142 (Or.inl ne144))
  refine Gk.getF X142 hx hZ hown (host := "") (Or.inl (hw _ (List.mem_of_getElem? (i := 75) rfl))) Via.refl e142 H145 (hb hby d9_427) ?_
  intro T146 X146 e146
  refine Gk.iload X146 hx (hb hby d9_430) rfl ?_
  have gr148 := (Nat.le_trans (Nat.le_trans (Nat.le_trans (Nat.le_trans (Nat.le_trans (Nat.le_trans (Nat.le_trans (Nat.le_trans (Nat.le_trans (Nat.le_trans K2.1 K28.1) (Keep.of_wr W34).1) (Keep.of_wr W41).1) (Keep.of_wr W49).1) (Keep.of_wr W59).1) (Keep.of_wr W68).1) (Keep.of_wr W78).1) (Keep.of_wr W90).1) (Keep.of_wr W138).1) (Keep.of_wr W142).1)
  refine Gk.callS (argsL := [(.int (0 : Int32)), (.int p7)]) X146 hx hZ hown (rm13 l Z a0 hw [] (0 : Int32) p7 h142 n0 (Nat.le_trans Z0 gr148)) (hw _ (List.mem_of_getElem? (i := 105) rfl)) (hw _ (List.mem_of_getElem? (i := 106) rfl)) (hw _ (List.mem_of_getElem? (i := 107) rfl)) (hw _ (List.mem_of_getElem? (i := 108) rfl)) (by decide) e146 pd_3 rfl rfl (by decide) (Nat.le_of_ble_eq_true rfl) (by decide) (by decide) (by rw [hml]; rfl)  rfl (hb hby d9_432) ?_
  intro T147 L147 v147 X147 hQ147
  obtain ⟨rfl, N147q, e147⟩ := hQ147
  have N147 := Fr.app N142 N147q
  show Go p e below (T147.setTop (mkF m 435 #[.val (.ref a1), .val (.ref a2), .val (.int (-511900244 : Int32)), .val .null, .val (.int (-1 : Int32)), .val .null, .val (.int p7), .val (.int (-1 : Int32)), .val (.int (31 : Int32)), .val (.int (12 : Int32))] [(.int (if p7 < (0 : Int32) then p7 else (0 : Int32))), (.ref a1)])) _
  rw [show (if p7 < (0 : Int32) then p7 else (0 : Int32)) = (0 : Int32) from (if_neg hk3.1)]
  have H149 := ((((((((((H7.keep K28).wr W34).wr W41).wr W49).wr W59).wr W68).wr W78).wr W90).wr W138).wr W142)
  refine Gk.putF X147 hx hZ hown (host := "") (Or.inl (hw _ (List.mem_of_getElem? (i := 75) rfl))) Via.refl e147 H145 H149 (Or.inl (hw _ (List.mem_of_getElem? (i := 76) rfl))) (hw _ (List.mem_of_getElem? (i := 3) rfl)) (ty := .int) (by decide) rfl rfl (hb hby d9_435) ?_
  intro T150 h150 X150 e150 W150
  have Fw150 := H145.same W150
  have N150 := Fr.snoc X150 N147 g_a1
  refine Gk.aloadN X150 hx (hb hby d9_438) rfl rfl ?_
  refine Gk.dup X150 hx (hb hby d9_439) rfl ?_
  have H151 := ((H140.other W142 (Or.inl ne144)).other W150 (Or.inr (slot_ne (Or.inl (hw _ (List.mem_of_getElem? (i := 68) rfl))) (Or.inl (hw _ (List.mem_of_getElem? (i := 76) rfl))) (by decide) (t := .int) (t' := .int) (by decide) (by decide))))
  refine Gk.getF X150 hx hZ hown (host := "") (Or.inl (hw _ (List.mem_of_getElem? (i := 67) rfl))) Via.refl e150 H151 (hb hby d9_440) ?_
  intro T152 X152 e152
  refine Gk.iconst X152 hx (hb hby d9_443) (1 : Int32) rfl ?_
  refine Gk.iadd X152 hx (hb hby d9_444) (2 : Int32) (by decide) ?_
  have H153 := (H149.wr W150)
  refine Gk.putF X152 hx hZ hown (host := "") (Or.inl (hw _ (List.mem_of_getElem? (i := 67) rfl))) Via.refl e152 H151 H153 (Or.inl (hw _ (List.mem_of_getElem? (i := 68) rfl))) (hw _ (List.mem_of_getElem? (i := 3) rfl)) (ty := .int) (by decide) rfl rfl (hb hby d9_445) ?_
  intro T154 h154 X154 e154 W154
  have Fw154 := H151.same W154
  have N154 := Fr.snoc X154 N150 g_a1
  refine Gk.aloadN X154 hx (hb hby d9_448) rfl rfl ?_
  have H155 := ((((((((((((H6.keep K28 (ninS (Nat.ne_of_lt (Nat.lt_trans lt1 lt2)) nin0)).other W34 (Or.inl ne36)).other W41 (Or.inl ne44)).other W49 (Or.inl ne54)).other W59 (Or.inl ne63)).other W68 (Or.inl ne73)).other W78 (Or.inl ne85)).other W90 (Or.inl ne98)).other W138 (Or.inl ne139)).other W142 (Or.inl ne144)).other W150 (Or.inr (slot_ne (Or.inl (hw _ (List.mem_of_getElem? (i := 43) rfl))) (Or.inl (hw _ (List.mem_of_getElem? (i := 76) rfl))) (by decide) (t := (.array .int)) (t' := .int) (by decide) (by decide)))).other W154 (Or.inr (slot_ne (Or.inl (hw _ (List.mem_of_getElem? (i := 43) rfl))) (Or.inl (hw _ (List.mem_of_getElem? (i := 68) rfl))) (by decide) (t := (.array .int)) (t' := .int) (by decide) (by decide))))
  refine Gk.getF X154 hx hZ hown (host := "") (Or.inl (hw _ (List.mem_of_getElem? (i := 42) rfl))) Via.refl e154 H155 (hb hby d9_449) ?_
  intro T156 X156 e156
  refine Gk.iload X156 hx (hb hby d9_452) rfl ?_
  refine Gk.aloadN X156 hx (hb hby d9_454) rfl rfl ?_
  refine Gk.getF X156 hx hZ hown (host := "") (Or.inl (hw _ (List.mem_of_getElem? (i := 67) rfl))) Via.refl e156 Fw154 (hb hby d9_455) ?_
  intro T157 X157 e157
  have ne159 : x_states ≠ x_slots := (Nat.ne_of_lt (Nat.lt_trans lt3 (Nat.lt_trans lt4 (Nat.lt_trans lt5 (Nat.lt_trans lt6 (Nat.lt_trans lt7 (Nat.lt_trans lt8 (Nat.lt_trans lt9 lt10))))))))
  have ne160 : x_hashes ≠ x_slots := (Nat.ne_of_lt (Nat.lt_trans lt4 (Nat.lt_trans lt5 (Nat.lt_trans lt6 (Nat.lt_trans lt7 (Nat.lt_trans lt8 (Nat.lt_trans lt9 lt10)))))))
  have ne161 : x_zones ≠ x_slots := (Nat.ne_of_lt (Nat.lt_trans lt5 (Nat.lt_trans lt6 (Nat.lt_trans lt7 (Nat.lt_trans lt8 (Nat.lt_trans lt9 lt10))))))
  have ne162 : x_held ≠ x_slots := (Nat.ne_of_lt (Nat.lt_trans lt7 (Nat.lt_trans lt8 (Nat.lt_trans lt9 lt10))))
  have ne163 : x_sameStates ≠ x_slots := (Nat.ne_of_lt (Nat.lt_trans lt6 (Nat.lt_trans lt7 (Nat.lt_trans lt8 (Nat.lt_trans lt9 lt10)))))
  have ne164 : x_parents ≠ x_slots := (Nat.ne_of_lt (Nat.lt_trans lt8 (Nat.lt_trans lt9 lt10)))
  have ne165 : x_slots ≠ x_reached := (Nat.ne_of_lt (Nat.lt_trans lt11 (Nat.lt_trans lt12 lt13)))
  have ne166 : a1 ≠ x_slots := (Nat.ne_of_lt (Nat.lt_trans lt1 (Nat.lt_trans lt2 (Nat.lt_trans lt3 (Nat.lt_trans lt4 (Nat.lt_trans lt5 (Nat.lt_trans lt6 (Nat.lt_trans lt7 (Nat.lt_trans lt8 (Nat.lt_trans lt9 lt10))))))))))
  have H167 := ((((((((((((H5.keep K28 (ninS (Ne.symm ne159) nin0)).other W34 (Ne.symm ne160)).other W41 (Ne.symm ne161)).other W49 (Ne.symm ne162)).other W59 (Ne.symm ne163)).other W68 (Ne.symm ne164)).other W78 (Ne.symm (Nat.ne_of_lt (Nat.lt_trans lt9 lt10)))).other W90 (Ne.symm (Nat.ne_of_lt lt10))).other W138 ne165).other W142 (Nat.ne_of_lt (Nat.lt_trans lt11 lt12))).other W150 (Ne.symm ne166)).other W154 (Ne.symm ne166))
  refine Gk.iastore X157 hx hZ e157 H167 12 rfl ⟨by decide, by decide⟩ (.int (2 : Int32)) rfl (hb hby d9_458) ?_
  intro T158 h158 X158 e158 W158 V158
  have N158 := Fr.snoc X158 N154 (Nat.le_trans g_a1 (Nat.le_of_lt (Nat.lt_trans lt1 (Nat.lt_trans lt2 (Nat.lt_trans lt3 (Nat.lt_trans lt4 (Nat.lt_trans lt5 (Nat.lt_trans lt6 (Nat.lt_trans lt7 (Nat.lt_trans lt8 (Nat.lt_trans lt9 lt10)))))))))))
  refine Gk.aloadN X158 hx (hb hby d9_459) rfl rfl ?_
  have H168 := (Fw154.other W158 (Or.inl ne166))
  refine Gk.getF X158 hx hZ hown (host := "") (Or.inl (hw _ (List.mem_of_getElem? (i := 67) rfl))) Via.refl e158 H168 (hb hby d9_460) ?_
  intro T169 X169 e169
  refine Gk.iconst X169 hx (hb hby d9_463) (2 : Int32) rfl ?_
  refine Gk.imul X169 hx (hb hby d9_464) (4 : Int32) (by decide) ?_
  refine Gk.aloadN X169 hx (hb hby d9_465) rfl rfl ?_
  have H170 := (H155.other W158 (Or.inl ne166))
  refine Gk.getF X169 hx hZ hown (host := "") (Or.inl (hw _ (List.mem_of_getElem? (i := 42) rfl))) Via.refl e169 H170 (hb hby d9_466) ?_
  intro T171 X171 e171
  refine Gk.alen X171 hx hZ e171 V158 (hb hby d9_469) ?_
  refine Gk.icmpYes X171 hx (hb hby d9_470) (flt (by decide : ¬ ((32 : Int32) < (4 : Int32)))).2.2.2 477 (by decide) (by decide) ?_
  have H172 := (((((((((((((Fl2.keep K28 (ninS (Nat.ne_of_lt lt2) nin0)).other W34 (Or.inl (Nat.ne_of_lt (Nat.lt_trans lt2 lt3)))).other W41 (Or.inl ne42)).other W49 (Or.inl ne50)).other W59 (Or.inl ne60)).other W68 (Or.inl ne16)).other W78 (Or.inl ne79)).other W90 (Or.inl ne91)).other W138 (Or.inl ne102)).other W142 (Or.inl ne124)).other W150 (Or.inl (Ne.symm (Nat.ne_of_lt lt1)))).other W154 (Or.inl (Ne.symm (Nat.ne_of_lt lt1)))).other W158 (Or.inl ne4))
  have H173 := (((((((((((((H21.keep K28 (ninS (Nat.ne_of_lt (Nat.lt_trans lt1 lt2)) nin0)).other W34 (Or.inl ne36)).other W41 (Or.inl ne44)).other W49 (Or.inl ne54)).other W59 (Or.inl ne63)).other W68 (Or.inl ne73)).other W78 (Or.inl ne85)).other W90 (Or.inl ne98)).other W138 (Or.inl ne139)).other W142 (Or.inl ne144)).other W150 (Or.inr (slot_ne (Or.inl (hw _ (List.mem_of_getElem? (i := 22) rfl))) (Or.inl (hw _ (List.mem_of_getElem? (i := 76) rfl))) (by decide) (t := (.array .int)) (t' := .int) (by decide) (by decide)))).other W154 (Or.inr (slot_ne (Or.inl (hw _ (List.mem_of_getElem? (i := 22) rfl))) (Or.inl (hw _ (List.mem_of_getElem? (i := 68) rfl))) (by decide) (t := (.array .int)) (t' := .int) (by decide) (by decide)))).other W158 (Or.inl ne166))
  have H174 := ((((((((((((H30.other W34 (Or.inl ne36)).other W41 (Or.inl ne44)).other W49 (Or.inl ne54)).other W59 (Or.inl ne63)).other W68 (Or.inl ne73)).other W78 (Or.inl ne85)).other W90 (Or.inl ne98)).other W138 (Or.inl ne139)).other W142 (Or.inl ne144)).other W150 (Or.inr (slot_ne (Or.inl (hw _ (List.mem_of_getElem? (i := 24) rfl))) (Or.inl (hw _ (List.mem_of_getElem? (i := 76) rfl))) (by decide) (t := (.array .int)) (t' := .int) (by decide) (by decide)))).other W154 (Or.inr (slot_ne (Or.inl (hw _ (List.mem_of_getElem? (i := 24) rfl))) (Or.inl (hw _ (List.mem_of_getElem? (i := 68) rfl))) (by decide) (t := (.array .int)) (t' := .int) (by decide) (by decide)))).other W158 (Or.inl ne166))
  have H175 := (((((((((((H37.other W41 (Or.inl ne44)).other W49 (Or.inl ne54)).other W59 (Or.inl ne63)).other W68 (Or.inl ne73)).other W78 (Or.inl ne85)).other W90 (Or.inl ne98)).other W138 (Or.inl ne139)).other W142 (Or.inl ne144)).other W150 (Or.inr (slot_ne (Or.inl (hw _ (List.mem_of_getElem? (i := 28) rfl))) (Or.inl (hw _ (List.mem_of_getElem? (i := 76) rfl))) (by decide) (t := (.array (.object "com/example/tracewarden/tracewarden/engine/Zone"))) (t' := .int) (by decide) (by decide)))).other W154 (Or.inr (slot_ne (Or.inl (hw _ (List.mem_of_getElem? (i := 28) rfl))) (Or.inl (hw _ (List.mem_of_getElem? (i := 68) rfl))) (by decide) (t := (.array (.object "com/example/tracewarden/tracewarden/engine/Zone"))) (t' := .int) (by decide) (by decide)))).other W158 (Or.inl ne166))
  have H176 := (((((((((H55.other W59 (Or.inl ne63)).other W68 (Or.inl ne73)).other W78 (Or.inl ne85)).other W90 (Or.inl ne98)).other W138 (Or.inl ne139)).other W142 (Or.inl ne144)).other W150 (Or.inr (slot_ne (Or.inl (hw _ (List.mem_of_getElem? (i := 30) rfl))) (Or.inl (hw _ (List.mem_of_getElem? (i := 76) rfl))) (by decide) (t := (.array .int)) (t' := .int) (by decide) (by decide)))).other W154 (Or.inr (slot_ne (Or.inl (hw _ (List.mem_of_getElem? (i := 30) rfl))) (Or.inl (hw _ (List.mem_of_getElem? (i := 68) rfl))) (by decide) (t := (.array .int)) (t' := .int) (by decide) (by decide)))).other W158 (Or.inl ne166))
  have H177 := ((((((((((H45.other W49 (Or.inl ne54)).other W59 (Or.inl ne63)).other W68 (Or.inl ne73)).other W78 (Or.inl ne85)).other W90 (Or.inl ne98)).other W138 (Or.inl ne139)).other W142 (Or.inl ne144)).other W150 (Or.inr (slot_ne (Or.inl (hw _ (List.mem_of_getElem? (i := 33) rfl))) (Or.inl (hw _ (List.mem_of_getElem? (i := 76) rfl))) (by decide) (t := (.array .boolean)) (t' := .int) (by decide) (by decide)))).other W154 (Or.inr (slot_ne (Or.inl (hw _ (List.mem_of_getElem? (i := 33) rfl))) (Or.inl (hw _ (List.mem_of_getElem? (i := 68) rfl))) (by decide) (t := (.array .boolean)) (t' := .int) (by decide) (by decide)))).other W158 (Or.inl ne166))
  have H178 := ((((((((H64.other W68 (Or.inl ne73)).other W78 (Or.inl ne85)).other W90 (Or.inl ne98)).other W138 (Or.inl ne139)).other W142 (Or.inl ne144)).other W150 (Or.inr (slot_ne (Or.inl (hw _ (List.mem_of_getElem? (i := 35) rfl))) (Or.inl (hw _ (List.mem_of_getElem? (i := 76) rfl))) (by decide) (t := (.array .int)) (t' := .int) (by decide) (by decide)))).other W154 (Or.inr (slot_ne (Or.inl (hw _ (List.mem_of_getElem? (i := 35) rfl))) (Or.inl (hw _ (List.mem_of_getElem? (i := 68) rfl))) (by decide) (t := (.array .int)) (t' := .int) (by decide) (by decide)))).other W158 (Or.inl ne166))
  have H179 := (((((((H74.other W78 (Or.inl ne85)).other W90 (Or.inl ne98)).other W138 (Or.inl ne139)).other W142 (Or.inl ne144)).other W150 (Or.inr (slot_ne (Or.inl (hw _ (List.mem_of_getElem? (i := 39) rfl))) (Or.inl (hw _ (List.mem_of_getElem? (i := 76) rfl))) (by decide) (t := (.array (.object "com/example/tracewarden/tracewarden/engine/SearchTuples$Event"))) (t' := .int) (by decide) (by decide)))).other W154 (Or.inr (slot_ne (Or.inl (hw _ (List.mem_of_getElem? (i := 39) rfl))) (Or.inl (hw _ (List.mem_of_getElem? (i := 68) rfl))) (by decide) (t := (.array (.object "com/example/tracewarden/tracewarden/engine/SearchTuples$Event"))) (t' := .int) (by decide) (by decide)))).other W158 (Or.inl ne166))
  have H180 := ((((((H86.other W90 (Or.inl ne98)).other W138 (Or.inl ne139)).other W142 (Or.inl ne144)).other W150 (Or.inr (slot_ne (Or.inl (hw _ (List.mem_of_getElem? (i := 41) rfl))) (Or.inl (hw _ (List.mem_of_getElem? (i := 76) rfl))) (by decide) (t := (.array .int)) (t' := .int) (by decide) (by decide)))).other W154 (Or.inr (slot_ne (Or.inl (hw _ (List.mem_of_getElem? (i := 41) rfl))) (Or.inl (hw _ (List.mem_of_getElem? (i := 68) rfl))) (by decide) (t := (.array .int)) (t' := .int) (by decide) (by decide)))).other W158 (Or.inl ne166))
  have H181 := (((((H112.other W138 (Or.inl ne139)).other W142 (Or.inl ne144)).other W150 (Or.inr (slot_ne (Or.inl (hw _ (List.mem_of_getElem? (i := 51) rfl))) (Or.inl (hw _ (List.mem_of_getElem? (i := 76) rfl))) (by decide) (t := (.array (.array .int))) (t' := .int) (by decide) (by decide)))).other W154 (Or.inr (slot_ne (Or.inl (hw _ (List.mem_of_getElem? (i := 51) rfl))) (Or.inl (hw _ (List.mem_of_getElem? (i := 68) rfl))) (by decide) (t := (.array (.array .int))) (t' := .int) (by decide) (by decide)))).other W158 (Or.inl ne166))
  have H182 := (((((H99.other W138 (Or.inl ne139)).other W142 (Or.inl ne144)).other W150 (Or.inr (slot_ne (Or.inl (hw _ (List.mem_of_getElem? (i := 53) rfl))) (Or.inl (hw _ (List.mem_of_getElem? (i := 76) rfl))) (by decide) (t := (.array .int)) (t' := .int) (by decide) (by decide)))).other W154 (Or.inr (slot_ne (Or.inl (hw _ (List.mem_of_getElem? (i := 53) rfl))) (Or.inl (hw _ (List.mem_of_getElem? (i := 68) rfl))) (by decide) (t := (.array .int)) (t' := .int) (by decide) (by decide)))).other W158 (Or.inl ne166))
  have H183 := ((((((((((((((F_taken.keep K2 (ninS (Nat.ne_of_lt lt1) nin0)).keep K28 (ninS (Nat.ne_of_lt (Nat.lt_trans lt1 lt2)) nin0)).other W34 (Or.inl ne36)).other W41 (Or.inl ne44)).other W49 (Or.inl ne54)).other W59 (Or.inl ne63)).other W68 (Or.inl ne73)).other W78 (Or.inl ne85)).other W90 (Or.inl ne98)).other W138 (Or.inl ne139)).other W142 (Or.inl ne144)).other W150 (Or.inr (slot_ne (Or.inl (hw _ (List.mem_of_getElem? (i := 55) rfl))) (Or.inl (hw _ (List.mem_of_getElem? (i := 76) rfl))) (by decide) (t := (.array .int)) (t' := .int) (by decide) (by decide)))).other W154 (Or.inr (slot_ne (Or.inl (hw _ (List.mem_of_getElem? (i := 55) rfl))) (Or.inl (hw _ (List.mem_of_getElem? (i := 68) rfl))) (by decide) (t := (.array .int)) (t' := .int) (by decide) (by decide)))).other W158 (Or.inl ne166))
  have H184 := ((((((((((((((F_budget.keep K2 (ninS (Nat.ne_of_lt lt1) nin0)).keep K28 (ninS (Nat.ne_of_lt (Nat.lt_trans lt1 lt2)) nin0)).other W34 (Or.inl ne36)).other W41 (Or.inl ne44)).other W49 (Or.inl ne54)).other W59 (Or.inl ne63)).other W68 (Or.inl ne73)).other W78 (Or.inl ne85)).other W90 (Or.inl ne98)).other W138 (Or.inl ne139)).other W142 (Or.inl ne144)).other W150 (Or.inr (slot_ne (Or.inr (hw _ (List.mem_of_getElem? (i := 45) rfl))) (Or.inl (hw _ (List.mem_of_getElem? (i := 76) rfl))) (by decide) (t := (.object "com/example/tracewarden/tracewarden/engine/SearchBudget")) (t' := .int) (by decide) (by decide)))).other W154 (Or.inr (slot_ne (Or.inr (hw _ (List.mem_of_getElem? (i := 45) rfl))) (Or.inl (hw _ (List.mem_of_getElem? (i := 68) rfl))) (by decide) (t := (.object "com/example/tracewarden/tracewarden/engine/SearchBudget")) (t' := .int) (by decide) (by decide)))).other W158 (Or.inl ne166))
  have H185 := (((((((((((((H19.keep K28 (ninS (Nat.ne_of_lt (Nat.lt_trans lt1 lt2)) nin0)).other W34 (Or.inl ne36)).other W41 (Or.inl ne44)).other W49 (Or.inl ne54)).other W59 (Or.inl ne63)).other W68 (Or.inl ne73)).other W78 (Or.inl ne85)).other W90 (Or.inl ne98)).other W138 (Or.inl ne139)).other W142 (Or.inl ne144)).other W150 (Or.inr (slot_ne (Or.inl (hw _ (List.mem_of_getElem? (i := 47) rfl))) (Or.inl (hw _ (List.mem_of_getElem? (i := 76) rfl))) (by decide) (t := .int) (t' := .int) (by decide) (by decide)))).other W154 (Or.inr (slot_ne (Or.inl (hw _ (List.mem_of_getElem? (i := 47) rfl))) (Or.inl (hw _ (List.mem_of_getElem? (i := 68) rfl))) (by decide) (t := .int) (t' := .int) (by decide) (by decide)))).other W158 (Or.inl ne166))
  have H186 := ((Fw150.other W154 (Or.inr (slot_ne (Or.inl (hw _ (List.mem_of_getElem? (i := 76) rfl))) (Or.inl (hw _ (List.mem_of_getElem? (i := 68) rfl))) (by decide) (t := .int) (t' := .int) (by decide) (by decide)))).other W158 (Or.inl ne166))
  have H187 := ((((((((((((((F_latestFirst.keep K2 (ninS (Nat.ne_of_lt lt1) nin0)).keep K28 (ninS (Nat.ne_of_lt (Nat.lt_trans lt1 lt2)) nin0)).other W34 (Or.inl ne36)).other W41 (Or.inl ne44)).other W49 (Or.inl ne54)).other W59 (Or.inl ne63)).other W68 (Or.inl ne73)).other W78 (Or.inl ne85)).other W90 (Or.inl ne98)).other W138 (Or.inl ne139)).other W142 (Or.inl ne144)).other W150 (Or.inr (slot_ne (Or.inl (hw _ (List.mem_of_getElem? (i := 62) rfl))) (Or.inl (hw _ (List.mem_of_getElem? (i := 76) rfl))) (by decide) (t := .boolean) (t' := .int) (by decide) (by decide)))).other W154 (Or.inr (slot_ne (Or.inl (hw _ (List.mem_of_getElem? (i := 62) rfl))) (Or.inl (hw _ (List.mem_of_getElem? (i := 68) rfl))) (by decide) (t := .boolean) (t' := .int) (by decide) (by decide)))).other W158 (Or.inl ne166))
  have H188 := (((((((((((V34.other W41 (Nat.ne_of_lt lt4)).other W49 ne52).other W59 (Nat.ne_of_lt (Nat.lt_trans lt4 lt5))).other W68 ne70).other W78 ne81).other W90 ne93).other W138 ne104).other W142 ne126).other W150 (Ne.symm ne36)).other W154 (Ne.symm ne36)).other W158 ne160)
  have H189 := ((((((((((((V28.other W34 (Nat.ne_of_lt lt3)).other W41 (Nat.ne_of_lt (Nat.lt_trans lt3 lt4))).other W49 ne51).other W59 ne61).other W68 ne69).other W78 ne80).other W90 ne92).other W138 ne103).other W142 ne125).other W150 (Ne.symm (Nat.ne_of_lt (Nat.lt_trans lt1 lt2)))).other W154 (Ne.symm (Nat.ne_of_lt (Nat.lt_trans lt1 lt2)))).other W158 ne159)
  have H190 := ((((((((V59.other W68 (Nat.ne_of_lt (Nat.lt_trans lt6 lt7))).other W78 ne83).other W90 ne96).other W138 ne107).other W142 ne129).other W150 (Ne.symm ne63)).other W154 (Ne.symm ne63)).other W158 ne163)
  have H191 := (((((((((V49.other W59 (Ne.symm (Nat.ne_of_lt lt6))).other W68 (Nat.ne_of_lt lt7)).other W78 (Nat.ne_of_lt (Nat.lt_trans lt7 lt8))).other W90 ne95).other W138 ne106).other W142 ne128).other W150 (Ne.symm ne54)).other W154 (Ne.symm ne54)).other W158 ne162)
  have H192 := ((((V138.other W142 (Ne.symm (Nat.ne_of_lt lt13))).other W150 (Ne.symm ne139)).other W154 (Ne.symm ne139)).other W158 (Ne.symm ne165))
  have H193 := (((V142.other W150 (Ne.symm ne144)).other W154 (Ne.symm ne144)).other W158 (Ne.symm (Nat.ne_of_lt (Nat.lt_trans lt11 lt12))))
  have H194 := ((((((((((V41.other W49 (Nat.ne_of_lt (Nat.lt_trans lt5 lt6))).other W59 (Nat.ne_of_lt lt5)).other W68 ne71).other W78 ne82).other W90 ne94).other W138 ne105).other W142 ne127).other W150 (Ne.symm ne44)).other W154 (Ne.symm ne44)).other W158 ne161)
  have H195 := (((((((V68.other W78 (Nat.ne_of_lt lt8)).other W90 (Nat.ne_of_lt (Nat.lt_trans lt8 lt9))).other W138 ne108).other W142 ne130).other W150 (Ne.symm ne73)).other W154 (Ne.symm ne73)).other W158 ne164)
  have H196 := ((((((V78.other W90 (Nat.ne_of_lt lt9)).other W138 ne109).other W142 ne131).other W150 (Ne.symm ne85)).other W154 (Ne.symm ne85)).other W158 (Nat.ne_of_lt (Nat.lt_trans lt9 lt10)))
  have H197 := (((((V90.other W138 ne110).other W142 ne132).other W150 (Ne.symm ne98)).other W154 (Ne.symm ne98)).other W158 (Nat.ne_of_lt lt10))
  refine Go.fin X171 (v := none) (fun _ => rfl) Bd.notSynchronized (fun _ hr => X171.returnOut hx Bd.returns (hb hby d9_477) hr) (fun U' hU hF => ⟨_, _, rfl, ?_, hF.1, hF.2.1, hF.2.2.mono (by decide) (by decide)⟩)
  rw [hU, e171]
  exact ⟨rfl, N158, (((((((((((((((Keep.refl h0 [a1, ab, yk, x_states, x_hashes, x_zones, x_sameStates, x_held, x_parents, x_events, x_ranks, x_slots, x_reached]).trans K2 (allS (Or.inl (List.mem_of_getElem? (i := 1) rfl)) all0)).trans K28 (allS (Or.inl (List.mem_of_getElem? (i := 3) rfl)) all0)).wr W34 (Or.inl (List.mem_of_getElem? (i := 4) rfl))).wr W41 (Or.inl (List.mem_of_getElem? (i := 5) rfl))).wr W49 (Or.inl (List.mem_of_getElem? (i := 7) rfl))).wr W59 (Or.inl (List.mem_of_getElem? (i := 6) rfl))).wr W68 (Or.inl (List.mem_of_getElem? (i := 8) rfl))).wr W78 (Or.inl (List.mem_of_getElem? (i := 9) rfl))).wr W90 (Or.inl (List.mem_of_getElem? (i := 10) rfl))).wr W138 (Or.inl (List.mem_of_getElem? (i := 12) rfl))).wr W142 (Or.inl (List.mem_of_getElem? (i := 2) rfl))).wr W150 (Or.inl (List.mem_of_getElem? (i := 0) rfl))).wr W154 (Or.inl (List.mem_of_getElem? (i := 0) rfl))).wr W158 (Or.inl (List.mem_of_getElem? (i := 11) rfl))), H172, H173, H174, H175, H176, H177, H178, H179, H180, H170, H181, H182, H183, H184, H185, H168, H186, H187, V158, H188, H189, H190, (H191.same fun j_ _ => own_upd0 _ j_), H192.toI, H193.toI, ⟨_, H194⟩, ⟨_, H195⟩, ⟨_, H196⟩, ⟨_, H197⟩⟩
theorem ef_rm9_2 (m : MethodId) (a1 : Addr) (a2 : Addr) (p7 : Int32) : entryFrame m #[(.ref a1), (.ref a2), (.int (-1023800488 : Int32)), .null, (.int (-1 : Int32)), .null, (.int p7)] 10 = mkF m 0 #[.val (.ref a1), .val (.ref a2), .val (.int (-1023800488 : Int32)), .val .null, .val (.int (-1 : Int32)), .val .null, .val (.int p7), .unset, .unset, .unset] [] := by first | (simp [entryFrame, mkF, argsToLocals, Value.category]; done) | rfl
def Q_rm9_2 (Z : State) (a1 : Addr) (a2 : Addr) (p7 : Int32) (ab : Addr) (x_states : Addr) (x_hashes : Addr) (x_zones : Addr) (x_sameStates : Addr) (x_held : Addr) (x_parents : Addr) (x_events : Addr) (x_ranks : Addr) (x_slots : Addr) (x_ranked : Addr) (x_reached : Addr) (x_taken : Addr) (yk : Addr) (k_states : ClassId) (k_hashes : ClassId) (k_zones : ClassId) (k_sameStates : ClassId) (k_held : ClassId) (k_parents : ClassId) (k_events : ClassId) (k_ranks : ClassId) (k_slots : ClassId) (k_ranked : ClassId) (k_reached : ClassId) (k_rk : ClassId) (f_states : Nat → Value) (f_hashes : Nat → Value) (f_zones : Nat → Value) (f_sameStates : Nat → Value) (f_parents : Nat → Value) (f_events : Nat → Value) (f_ranks : Nat → Value) (f_slots : Nat → Value) (kt : ClassId) (ft : Nat → Value) (Rf : Nat → Int32) (Wk : Nat → Int32) (lf : Int32) (h0 : Heap) (n0 : Nat) (v : Option Value) (h : Heap) (L : List Loc) : Prop := v = none ∧ Fr n0 L ∧ Keep h0 h [a1, ab, yk, x_states, x_hashes, x_zones, x_sameStates, x_held, x_parents, x_events, x_ranks, x_slots, x_reached] ∧ Fld Z h ab "com/example/tracewarden/tracewarden/engine/SearchBudget" "left" "J" (.long (0 : Int64)) ∧ Fld Z h a1 "com/example/tracewarden/tracewarden/engine/SearchTuples" "states" "[I" (.ref x_states) ∧ Fld Z h a1 "com/example/tracewarden/tracewarden/engine/SearchTuples" "hashes" "[I" (.ref x_hashes) ∧ Fld Z h a1 "com/example/tracewarden/tracewarden/engine/SearchTuples" "zones" "[Lcom/example/tracewarden/tracewarden/engine/Zone;" (.ref x_zones) ∧ Fld Z h a1 "com/example/tracewarden/tracewarden/engine/SearchTuples" "sameStates" "[I" (.ref x_sameStates) ∧ Fld Z h a1 "com/example/tracewarden/tracewarden/engine/SearchTuples" "held" "[Z" (.ref x_held) ∧ Fld Z h a1 "com/example/tracewarden/tracewarden/engine/SearchTuples" "parents" "[I" (.ref x_parents) ∧ Fld Z h a1 "com/example/tracewarden/tracewarden/engine/SearchTuples" "events" "[Lcom/example/tracewarden/tracewarden/engine/SearchTuples$Event;" (.ref x_events) ∧ Fld Z h a1 "com/example/tracewarden/tracewarden/engine/SearchTuples" "ranks" "[I" (.ref x_ranks) ∧ Fld Z h a1 "com/example/tracewarden/tracewarden/engine/SearchTuples" "slots" "[I" (.ref x_slots) ∧ Fld Z h a1 "com/example/tracewarden/tracewarden/engine/SearchTuples" "ranked" "[[I" (.ref x_ranked) ∧ Fld Z h a1 "com/example/tracewarden/tracewarden/engine/SearchTuples" "reached" "[I" (.ref x_reached) ∧ Fld Z h a1 "com/example/tracewarden/tracewarden/engine/SearchTuples" "taken" "[I" (.ref x_taken) ∧ Fld Z h a1 "com/example/tracewarden/tracewarden/engine/SearchTuples" "budget" "Lcom/example/tracewarden/tracewarden/engine/SearchBudget;" (.ref ab) ∧ Fld Z h a1 "com/example/tracewarden/tracewarden/engine/SearchTuples" "width" "I" (.int (1 : Int32)) ∧ Fld Z h a1 "com/example/tracewarden/tracewarden/engine/SearchTuples" "size" "I" (.int (3 : Int32)) ∧ Fld Z h a1 "com/example/tracewarden/tracewarden/engine/SearchTuples" "lowest" "I" (.int (0 : Int32)) ∧ Fld Z h a1 "com/example/tracewarden/tracewarden/engine/SearchTuples" "latestFirst" "Z" (.int lf) ∧ Arf Z h x_slots k_slots .int (32 : Int32) (upd f_slots 24 (.int (3 : Int32))) ∧ Arf Z h x_hashes k_hashes .int (16 : Int32) (upd f_hashes 2 (.int (-1023800488 : Int32))) ∧ Arf Z h x_states k_states .int (64 : Int32) (upd f_states 2 (.int (2 : Int32))) ∧ Arf Z h x_sameStates k_sameStates .int (16 : Int32) (upd f_sameStates 2 (.int (-1 : Int32))) ∧ Arf Z h x_held k_held .boolean (16 : Int32) (fun _ => .int (0 : Int32)) ∧ Arf Z h x_reached k_reached .int (3 : Int32) (fun j => .int (updI Rf p7.toNatClampNeg (Rf p7.toNatClampNeg + (1 : Int32)) j)) ∧ Arf Z h yk k_rk .int (8 : Int32) (fun j => .int (updI Wk (Rf p7.toNatClampNeg).toNatClampNeg (2 : Int32) j)) ∧ (∃ f' : Nat → Value, Arf Z h x_zones k_zones (.object "com/example/tracewarden/tracewarden/engine/Zone") (16 : Int32) f') ∧ (∃ f' : Nat → Value, Arf Z h x_parents k_parents .int (16 : Int32) f') ∧ (∃ f' : Nat → Value, Arf Z h x_events k_events (.object "com/example/tracewarden/tracewarden/engine/SearchTuples$Event") (16 : Int32) f') ∧ (∃ f' : Nat → Value, Arf Z h x_ranks k_ranks .int (16 : Int32) f')
set_option maxRecDepth 65536 in
set_option maxHeartbeats 40000000 in
theorem rm9_2 (l : Launch) (Z : State) (a0 : Array Value) (hw : ∀ d ∈ tables_1, d.before a0 Z = true) (ws : List Jvm.Cond) (a1 : Addr) (a2 : Addr) (p7 : Int32) (ab : Addr) (x_states : Addr) (x_hashes : Addr) (x_zones : Addr) (x_sameStates : Addr) (x_held : Addr) (x_parents : Addr) (x_events : Addr) (x_ranks : Addr) (x_slots : Addr) (x_ranked : Addr) (x_reached : Addr) (x_taken : Addr) (yk : Addr) (k_states : ClassId) (k_hashes : ClassId) (k_zones : ClassId) (k_sameStates : ClassId) (k_held : ClassId) (k_parents : ClassId) (k_events : ClassId) (k_ranks : ClassId) (k_slots : ClassId) (k_ranked : ClassId) (k_reached : ClassId) (k_rk : ClassId) (f_states : Nat → Value) (f_hashes : Nat → Value) (f_zones : Nat → Value) (f_sameStates : Nat → Value) (f_parents : Nat → Value) (f_events : Nat → Value) (f_ranks : Nat → Value) (f_slots : Nat → Value) (kt : ClassId) (ft : Nat → Value) (Rf : Nat → Int32) (Wk : Nat → Int32) (lf : Int32) (h0 : Heap) (n0 : Nat) (Z0 : n0 ≤ h0.size) (E_st : Exa Z h0 a1 "com/example/tracewarden/tracewarden/engine/SearchTuples") (E_ab : Exa Z h0 ab "com/example/tracewarden/tracewarden/engine/SearchBudget") (g_a1 : n0 ≤ a1) (lt0 : a2 < a1) (lt1 : a1 < ab) (lt2 : ab < x_states) (lt3 : x_states < x_hashes) (lt4 : x_hashes < x_zones) (lt5 : x_zones < x_sameStates) (lt6 : x_sameStates < x_held) (lt7 : x_held < x_parents) (lt8 : x_parents < x_events) (lt9 : x_events < x_ranks) (lt10 : x_ranks < x_slots) (lt11 : x_slots < x_ranked) (lt12 : x_ranked < yk) (lt13 : yk < x_reached) (V_states : Arf Z h0 x_states k_states .int (64 : Int32) f_states) (V_hashes : Arf Z h0 x_hashes k_hashes .int (16 : Int32) f_hashes) (V_zones : Arf Z h0 x_zones k_zones (.object "com/example/tracewarden/tracewarden/engine/Zone") (16 : Int32) f_zones) (V_sameStates : Arf Z h0 x_sameStates k_sameStates .int (16 : Int32) f_sameStates) (V_held : Arf Z h0 x_held k_held .boolean (16 : Int32) (fun _ => .int (0 : Int32))) (V_parents : Arf Z h0 x_parents k_parents .int (16 : Int32) f_parents) (V_events : Arf Z h0 x_events k_events (.object "com/example/tracewarden/tracewarden/engine/SearchTuples$Event") (16 : Int32) f_events) (V_ranks : Arf Z h0 x_ranks k_ranks .int (16 : Int32) f_ranks) (V_slots : Arf Z h0 x_slots k_slots .int (32 : Int32) f_slots) (V_ranked : Arf Z h0 x_ranked k_ranked (.array .int) (3 : Int32) (fun i => .ref (x_ranked + 1 + i))) (V_reached : Arf Z h0 x_reached k_reached .int (3 : Int32) (fun i => .int (Rf i))) (V_t : Arf Z h0 a2 kt .int (1 : Int32) ft) (ht0 : ft 0 = (.int (2 : Int32))) (V_rk : Arf Z h0 yk k_rk .int (8 : Int32) (fun j => .int (Wk j))) (eyk : yk = x_ranked + 1 + p7.toNatClampNeg) (hk3 : ¬ p7 < 0 ∧ p7 < 3) (hr8 : ¬ Rf p7.toNatClampNeg < 0 ∧ Rf p7.toNatClampNeg < 8) (hs_ : f_slots 24 = (.int (0 : Int32))) (F_states : Fld Z h0 a1 "com/example/tracewarden/tracewarden/engine/SearchTuples" "states" "[I" (.ref x_states)) (F_hashes : Fld Z h0 a1 "com/example/tracewarden/tracewarden/engine/SearchTuples" "hashes" "[I" (.ref x_hashes)) (F_zones : Fld Z h0 a1 "com/example/tracewarden/tracewarden/engine/SearchTuples" "zones" "[Lcom/example/tracewarden/tracewarden/engine/Zone;" (.ref x_zones)) (F_sameStates : Fld Z h0 a1 "com/example/tracewarden/tracewarden/engine/SearchTuples" "sameStates" "[I" (.ref x_sameStates)) (F_held : Fld Z h0 a1 "com/example/tracewarden/tracewarden/engine/SearchTuples" "held" "[Z" (.ref x_held)) (F_parents : Fld Z h0 a1 "com/example/tracewarden/tracewarden/engine/SearchTuples" "parents" "[I" (.ref x_parents)) (F_events : Fld Z h0 a1 "com/example/tracewarden/tracewarden/engine/SearchTuples" "events" "[Lcom/example/tracewarden/tracewarden/engine/SearchTuples$Event;" (.ref x_events)) (F_ranks : Fld Z h0 a1 "com/example/tracewarden/tracewarden/engine/SearchTuples" "ranks" "[I" (.ref x_ranks)) (F_slots : Fld Z h0 a1 "com/example/tracewarden/tracewarden/engine/SearchTuples" "slots" "[I" (.ref x_slots)) (F_ranked : Fld Z h0 a1 "com/example/tracewarden/tracewarden/engine/SearchTuples" "ranked" "[[I" (.ref x_ranked)) (F_reached : Fld Z h0 a1 "com/example/tracewarden/tracewarden/engine/SearchTuples" "reached" "[I" (.ref x_reached)) (F_taken : Fld Z h0 a1 "com/example/tracewarden/tracewarden/engine/SearchTuples" "taken" "[I" (.ref x_taken)) (F_budget : Fld Z h0 a1 "com/example/tracewarden/tracewarden/engine/SearchTuples" "budget" "Lcom/example/tracewarden/tracewarden/engine/SearchBudget;" (.ref ab)) (F_width : Fld Z h0 a1 "com/example/tracewarden/tracewarden/engine/SearchTuples" "width" "I" (.int (1 : Int32))) (F_size : Fld Z h0 a1 "com/example/tracewarden/tracewarden/engine/SearchTuples" "size" "I" (.int (2 : Int32))) (F_lowest : Fld Z h0 a1 "com/example/tracewarden/tracewarden/engine/SearchTuples" "lowest" "I" (.int (0 : Int32))) (F_latestFirst : Fld Z h0 a1 "com/example/tracewarden/tracewarden/engine/SearchTuples" "latestFirst" "Z" (.int lf)) (F_left : Fld Z h0 ab "com/example/tracewarden/tracewarden/engine/SearchBudget" "left" "J" (.long (1 : Int64))) :
    MetFree l (⟨"com/example/tracewarden/tracewarden/engine/SearchTuples", "add", "([IILcom/example/tracewarden/tracewarden/engine/Zone;ILcom/example/tracewarden/tracewarden/engine/SearchTuples$Event;I)V"⟩ : MethodName) (head1 (Jvm.Cond.code (⟨"com/example/tracewarden/tracewarden/engine/SearchTuples", "add", "([IILcom/example/tracewarden/tracewarden/engine/Zone;ILcom/example/tracewarden/tracewarden/engine/SearchTuples$Event;I)V"⟩ : MethodName) prog_86_method_16_code 10 none :: ws) ({ frames := 1, cells := 0, slots := 0, locals := 40 } : Room)) (fun a U => a = #[(.ref a1), (.ref a2), (.int (-1023800488 : Int32)), .null, (.int (-1 : Int32)), .null, (.int p7)] ∧ Z.Warmed39 U.vm ∧ U.heap = h0) (fun _ _ _ _ _ => True) (fun _ U o U' => ∃ v L, o = .returned v ∧ Q_rm9_2 Z a1 a2 p7 ab x_states x_hashes x_zones x_sameStates x_held x_parents x_events x_ranks x_slots x_ranked x_reached x_taken yk k_states k_hashes k_zones k_sameStates k_held k_parents k_events k_ranks k_slots k_ranked k_reached k_rk f_states f_hashes f_zones f_sameStates f_parents f_events f_ranks f_slots kt ft Rf Wk lf h0 n0 v U'.heap L ∧ FrameEnd U o U' L ({ frames := 1, cells := 0, slots := 0, locals := 40 } : Room).cells ({ frames := 1, cells := 0, slots := 0, locals := 40 } : Room).slots) := by
  refine MetFree.of_bodySF (plainFor_of_name pn_81) hisR ?_
  intro p e s m args below meth c s₁ Bd hml0 hP hK
  obtain ⟨rfl, hZ, hh⟩ := hP
  have hx := Bd.exec
  have hby := Bd.bytes
  have hml : c.maxLocals = 10 := hml0
  have hown : s.vm.findClass "com/example/tracewarden/tracewarden/engine/SearchTuples" = some m.cls := findClass_of_methodNamed Bd.named
  have hnm := (name_of_methodNamed Bd.named Bd.method).1
  have X0 : Stand p l e ({ frames := 1, cells := 0, slots := 0, locals := 40 } : Room) s m #[(.ref a1), (.ref a2), (.int (-1023800488 : Int32)), .null, (.int (-1 : Int32)), .null, (.int p7)] below meth c s₁ [] 0 0 := Stand.of_body Bd
  have e0 : s₁.heap = h0 := by rw [← hh, Bd.state]; rfl
  have N0 := Fr.nil n0
  show Go p e below (s₁.setTop (entryFrame m #[(.ref a1), (.ref a2), (.int (-1023800488 : Int32)), .null, (.int (-1 : Int32)), .null, (.int p7)] 10)) (fun o U' => ∃ v L, o = .returned v ∧ Q_rm9_2 Z a1 a2 p7 ab x_states x_hashes x_zones x_sameStates x_held x_parents x_events x_ranks x_slots x_ranked x_reached x_taken yk k_states k_hashes k_zones k_sameStates k_held k_parents k_events k_ranks k_slots k_ranked k_reached k_rk f_states f_hashes f_zones f_sameStates f_parents f_events f_ranks f_slots kt ft Rf Wk lf h0 n0 v U'.heap L ∧ FrameEnd s o U' L ({ frames := 1, cells := 0, slots := 0, locals := 40 } : Room).cells ({ frames := 1, cells := 0, slots := 0, locals := 40 } : Room).slots)
  rw [ef_rm9_2]
  refine Gk.aloadN X0 hx (hb hby d9_0) rfl rfl ?_
  refine Gk.getF X0 hx hZ hown (host := "") (Or.inl (hw _ (List.mem_of_getElem? (i := 44) rfl))) Via.refl e0 F_budget (hb hby d9_1) ?_
  intro T1 X1 e1
  refine Gk.callV (argsL := []) X1 hx hZ hown (rm10_2 l Z a0 hw [] ab h0 n0 Z0 E_ab F_left (Nat.le_trans g_a1 (Nat.le_of_lt lt1))) (hw _ (List.mem_of_getElem? (i := 88) rfl)) (hw _ (List.mem_of_getElem? (i := 89) rfl)) (notFace_of_selects (args := #[]) (mvT hZ (hw _ (List.mem_of_getElem? (i := 91) rfl)))) (hw _ (List.mem_of_getElem? (i := 91) rfl)) (hw _ (List.mem_of_getElem? (i := 90) rfl)) (by decide) (hw _ (List.mem_of_getElem? (i := 92) rfl)) (hw _ (List.mem_of_getElem? (i := 7) rfl)) e1 E_ab pd_10 rfl rfl (by decide) (Nat.le_of_ble_eq_true rfl) (by decide) (by decide) (by rw [hml]; rfl)  rfl (hb hby d9_4) ?_
  intro T2 L2 v2 X2 hQ2
  obtain ⟨rfl, N2q, K2, Fl2⟩ := hQ2
  have N2 := Fr.app N0 N2q
  show Go p e below (T2.setTop (mkF m 7 #[.val (.ref a1), .val (.ref a2), .val (.int (-1023800488 : Int32)), .val .null, .val (.int (-1 : Int32)), .val .null, .val (.int p7), .unset, .unset, .unset] [])) _
  refine Gk.aloadN X2 hx (hb hby d9_7) rfl rfl ?_
  refine Gk.aloadN X2 hx (hb hby d9_8) rfl rfl ?_
  refine Gk.iloadN X2 hx (hb hby d9_9) rfl ?_
  have ne4 : ab ≠ x_slots := (Nat.ne_of_lt (Nat.lt_trans lt2 (Nat.lt_trans lt3 (Nat.lt_trans lt4 (Nat.lt_trans lt5 (Nat.lt_trans lt6 (Nat.lt_trans lt7 (Nat.lt_trans lt8 (Nat.lt_trans lt9 lt10)))))))))
  have H5 := (V_slots.keep K2 (ninS (Ne.symm ne4) nin0))
  have H6 := (F_slots.keep K2 (ninS (Nat.ne_of_lt lt1) nin0))
  have H7 := (E_st.keep K2)
  refine Gk.callP (argsL := [(.ref a2), (.int (-1023800488 : Int32))]) X2 hx hZ hown (rm11_2 l Z a0 hw [] a1 a2 x_slots k_slots f_slots T2.heap n0 (Nat.le_trans Z0 K2.1) H5 H6 hs_) (hw _ (List.mem_of_getElem? (i := 93) rfl)) (hw _ (List.mem_of_getElem? (i := 94) rfl)) (hw _ (List.mem_of_getElem? (i := 3) rfl)) (hw _ (List.mem_of_getElem? (i := 95) rfl)) (by decide) (hw _ (List.mem_of_getElem? (i := 96) rfl)) (hw _ (List.mem_of_getElem? (i := 4) rfl)) rfl H7 pd_8 rfl rfl (by decide) (Nat.le_of_ble_eq_true rfl) (by decide) (by decide) (by rw [hml]; rfl)  rfl (hb hby d9_10) ?_
  intro T3 L3 v3 X3 hQ3
  obtain ⟨rfl, N3q, e3⟩ := hQ3
  have N3 := Fr.app N2 N3q
  show Go p e below (T3.setTop (mkF m 13 #[.val (.ref a1), .val (.ref a2), .val (.int (-1023800488 : Int32)), .val .null, .val (.int (-1 : Int32)), .val .null, .val (.int p7), .unset, .unset, .unset] [(.int (-1 : Int32))])) _
  refine Gk.istore X3 hx (hb hby d9_13) #[.val (.ref a1), .val (.ref a2), .val (.int (-1023800488 : Int32)), .val .null, .val (.int (-1 : Int32)), .val .null, .val (.int p7), .val (.int (-1 : Int32)), .unset, .unset] rfl ?_
  refine Gk.aloadN X3 hx (hb hby d9_15) rfl rfl ?_
  refine Gk.iload X3 hx (hb hby d9_16) rfl ?_
  refine Gk.aloadN X3 hx (hb hby d9_18) rfl rfl ?_
  refine Gk.callP (argsL := [(.int (-1 : Int32)), .null]) X3 hx hZ hown (rm12_m l Z a0 hw [] a1 T2.heap n0 (Nat.le_trans Z0 K2.1)) (hw _ (List.mem_of_getElem? (i := 97) rfl)) (hw _ (List.mem_of_getElem? (i := 98) rfl)) (hw _ (List.mem_of_getElem? (i := 3) rfl)) (hw _ (List.mem_of_getElem? (i := 99) rfl)) (by decide) (hw _ (List.mem_of_getElem? (i := 100) rfl)) (hw _ (List.mem_of_getElem? (i := 4) rfl)) e3 H7 pd_9 rfl rfl (by decide) (Nat.le_of_ble_eq_true rfl) (by decide) (by decide) (by rw [hml]; rfl)  rfl (hb hby d9_19) ?_
  intro T8 L8 v8 X8 hQ8
  obtain ⟨rfl, N8q, e8⟩ := hQ8
  have N8 := Fr.app N3 N8q
  show Go p e below (T8.setTop (mkF m 22 #[.val (.ref a1), .val (.ref a2), .val (.int (-1023800488 : Int32)), .val .null, .val (.int (-1 : Int32)), .val .null, .val (.int p7), .val (.int (-1 : Int32)), .unset, .unset] [])) _
  refine Gk.aloadN X8 hx (hb hby d9_22) rfl rfl ?_
  refine Gk.getF X8 hx hZ hown (host := "") (Or.inl (hw _ (List.mem_of_getElem? (i := 42) rfl))) Via.refl e8 H6 (hb hby d9_23) ?_
  intro T9 X9 e9
  refine Gk.alen X9 hx hZ e9 H5 (hb hby d9_26) ?_
  refine Gk.iconst X9 hx (hb hby d9_27) (1 : Int32) rfl ?_
  refine Gk.isub X9 hx (hb hby d9_28) (31 : Int32) (by decide) ?_
  refine Gk.istore X9 hx (hb hby d9_29) #[.val (.ref a1), .val (.ref a2), .val (.int (-1023800488 : Int32)), .val .null, .val (.int (-1 : Int32)), .val .null, .val (.int p7), .val (.int (-1 : Int32)), .val (.int (31 : Int32)), .unset] rfl ?_
  refine Gk.iloadN X9 hx (hb hby d9_31) rfl ?_
  refine Gk.iload X9 hx (hb hby d9_32) rfl ?_
  refine Gk.iand X9 hx (hb hby d9_34) (24 : Int32) (by decide) ?_
  refine Gk.istore X9 hx (hb hby d9_35) #[.val (.ref a1), .val (.ref a2), .val (.int (-1023800488 : Int32)), .val .null, .val (.int (-1 : Int32)), .val .null, .val (.int p7), .val (.int (-1 : Int32)), .val (.int (31 : Int32)), .val (.int (24 : Int32))] rfl ?_
  refine Gk.aloadN X9 hx (hb hby d9_37) rfl rfl ?_
  refine Gk.getF X9 hx hZ hown (host := "") (Or.inl (hw _ (List.mem_of_getElem? (i := 42) rfl))) Via.refl e9 H6 (hb hby d9_38) ?_
  intro T10 X10 e10
  refine Gk.iload X10 hx (hb hby d9_41) rfl ?_
  refine Gk.iaload X10 hx hZ e10 H5 ⟨by decide, by decide⟩ (.int (0 : Int32)) hs_ (hb hby d9_43) ?_
  refine Gk.ifYes X10 hx (hb hby d9_44) (teq (by decide : (0 : Int32) = (0 : Int32))).1 73 (by decide) (by decide) ?_
  refine Gk.aloadN X10 hx (hb hby d9_73) rfl rfl ?_
  have H12 := (F_size.keep K2 (ninS (Nat.ne_of_lt lt1) nin0))
  refine Gk.getF X10 hx hZ hown (host := "") (Or.inl (hw _ (List.mem_of_getElem? (i := 67) rfl))) Via.refl e10 H12 (hb hby d9_74) ?_
  intro T13 X13 e13
  refine Gk.aloadN X13 hx (hb hby d9_77) rfl rfl ?_
  have H14 := (F_parents.keep K2 (ninS (Nat.ne_of_lt lt1) nin0))
  refine Gk.getF X13 hx hZ hown (host := "") (Or.inl (hw _ (List.mem_of_getElem? (i := 34) rfl))) Via.refl e13 H14 (hb hby d9_78) ?_
  intro T15 X15 e15
  have ne16 : ab ≠ x_parents := (Nat.ne_of_lt (Nat.lt_trans lt2 (Nat.lt_trans lt3 (Nat.lt_trans lt4 (Nat.lt_trans lt5 (Nat.lt_trans lt6 lt7))))))
  have H17 := (V_parents.keep K2 (ninS (Ne.symm ne16) nin0))
  refine Gk.alen X15 hx hZ e15 H17 (hb hby d9_81) ?_
  refine Gk.icmpYes X15 hx (hb hby d9_82) (feq (by decide : ¬ ((2 : Int32) = (16 : Int32)))).2 210 (by decide) (by decide) ?_
  refine Gk.aloadN X15 hx (hb hby d9_210) rfl rfl ?_
  refine Gk.getF X15 hx hZ hown (host := "") (Or.inl (hw _ (List.mem_of_getElem? (i := 67) rfl))) Via.refl e15 H12 (hb hby d9_211) ?_
  intro T18 X18 e18
  refine Gk.iconst X18 hx (hb hby d9_214) (1 : Int32) rfl ?_
  refine Gk.iadd X18 hx (hb hby d9_215) (3 : Int32) (by decide) ?_
  refine Gk.aloadN X18 hx (hb hby d9_216) rfl rfl ?_
  have H19 := (F_width.keep K2 (ninS (Nat.ne_of_lt lt1) nin0))
  refine Gk.getF X18 hx hZ hown (host := "") (Or.inl (hw _ (List.mem_of_getElem? (i := 46) rfl))) Via.refl e18 H19 (hb hby d9_217) ?_
  intro T20 X20 e20
  refine Gk.imul X20 hx (hb hby d9_220) (3 : Int32) (by decide) ?_
  refine Gk.aloadN X20 hx (hb hby d9_221) rfl rfl ?_
  have H21 := (F_states.keep K2 (ninS (Nat.ne_of_lt lt1) nin0))
  refine Gk.getF X20 hx hZ hown (host := "") (Or.inl (hw _ (List.mem_of_getElem? (i := 21) rfl))) Via.refl e20 H21 (hb hby d9_222) ?_
  intro T22 X22 e22
  have H23 := (V_states.keep K2 (ninS (Ne.symm (Nat.ne_of_lt lt2)) nin0))
  refine Gk.alen X22 hx hZ e22 H23 (hb hby d9_225) ?_
  refine Gk.icmpYes X22 hx (hb hby d9_226) (flt (by decide : ¬ ((64 : Int32) < (3 : Int32)))).2.2.2 261 (by decide) (by decide) ?_
  refine Gk.aloadN X22 hx (hb hby d9_261) rfl rfl ?_
  refine Gk.iconst X22 hx (hb hby d9_262) (0 : Int32) rfl ?_
  refine Gk.aloadN X22 hx (hb hby d9_263) rfl rfl ?_
  refine Gk.getF X22 hx hZ hown (host := "") (Or.inl (hw _ (List.mem_of_getElem? (i := 21) rfl))) Via.refl e22 H21 (hb hby d9_264) ?_
  intro T24 X24 e24
  refine Gk.aloadN X24 hx (hb hby d9_267) rfl rfl ?_
  refine Gk.getF X24 hx hZ hown (host := "") (Or.inl (hw _ (List.mem_of_getElem? (i := 67) rfl))) Via.refl e24 H12 (hb hby d9_268) ?_
  intro T25 X25 e25
  refine Gk.aloadN X25 hx (hb hby d9_271) rfl rfl ?_
  refine Gk.getF X25 hx hZ hown (host := "") (Or.inl (hw _ (List.mem_of_getElem? (i := 46) rfl))) Via.refl e25 H19 (hb hby d9_272) ?_
  intro T26 X26 e26
  refine Gk.imul X26 hx (hb hby d9_275) (2 : Int32) (by decide) ?_
  refine Gk.aloadN X26 hx (hb hby d9_276) rfl rfl ?_
  refine Gk.getF X26 hx hZ hown (host := "") (Or.inl (hw _ (List.mem_of_getElem? (i := 46) rfl))) Via.refl e26 H19 (hb hby d9_277) ?_
  intro T27 X27 e27
  have H29 := (V_t.keep K2 (ninS (Nat.ne_of_lt (Nat.lt_trans lt0 lt1)) nin0))
  refine Gk.copy X27 hx hZ hown (hw _ (List.mem_of_getElem? (i := 101) rfl)) (hw _ (List.mem_of_getElem? (i := 104) rfl)) (hw _ (List.mem_of_getElem? (i := 102) rfl)) (hw _ (List.mem_of_getElem? (i := 103) rfl)) e27 H29 H23 rfl (by decide) (by decide) (by decide) (by decide) (by decide) N8 (Nat.le_trans g_a1 (Nat.le_of_lt (Nat.lt_trans lt1 lt2))) (upd f_states 2 (.int (2 : Int32))) (fun i_ _ => own_cp1 ft f_states 2 _ ht0 i_) (by rw [hml]; rfl) (hb hby d9_280) (by decide) (Nat.le_of_ble_eq_true rfl) ?_
  intro T28 h28 L28 X28 e28 N28 K28 V28
  refine Gk.aloadN X28 hx (hb hby d9_283) rfl rfl ?_
  have H30 := ((F_hashes.keep K2 (ninS (Nat.ne_of_lt lt1) nin0)).keep K28 (ninS (Nat.ne_of_lt (Nat.lt_trans lt1 lt2)) nin0))
  refine Gk.getF X28 hx hZ hown (host := "") (Or.inl (hw _ (List.mem_of_getElem? (i := 23) rfl))) Via.refl e28 H30 (hb hby d9_284) ?_
  intro T31 X31 e31
  refine Gk.aloadN X31 hx (hb hby d9_287) rfl rfl ?_
  have H32 := (H12.keep K28 (ninS (Nat.ne_of_lt (Nat.lt_trans lt1 lt2)) nin0))
  refine Gk.getF X31 hx hZ hown (host := "") (Or.inl (hw _ (List.mem_of_getElem? (i := 67) rfl))) Via.refl e31 H32 (hb hby d9_288) ?_
  intro T33 X33 e33
  refine Gk.iloadN X33 hx (hb hby d9_291) rfl ?_
  have H35 := ((V_hashes.keep K2 (ninS (Ne.symm (Nat.ne_of_lt (Nat.lt_trans lt2 lt3))) nin0)).keep K28 (ninS (Ne.symm (Nat.ne_of_lt lt3)) nin0))
  refine Gk.iastore X33 hx hZ e33 H35 2 rfl ⟨by decide, by decide⟩ (.int (-1023800488 : Int32)) rfl (hb hby d9_292) ?_
  intro T34 h34 X34 e34 W34 V34
  have N34 := Fr.snoc X34 N28 (Nat.le_trans g_a1 (Nat.le_of_lt (Nat.lt_trans lt1 (Nat.lt_trans lt2 lt3))))
  refine Gk.aloadN X34 hx (hb hby d9_293) rfl rfl ?_
  have ne36 : a1 ≠ x_hashes := (Nat.ne_of_lt (Nat.lt_trans lt1 (Nat.lt_trans lt2 lt3)))
  have H37 := (((F_zones.keep K2 (ninS (Nat.ne_of_lt lt1) nin0)).keep K28 (ninS (Nat.ne_of_lt (Nat.lt_trans lt1 lt2)) nin0)).other W34 (Or.inl ne36))
  refine Gk.getF X34 hx hZ hown (host := "") (Or.inl (hw _ (List.mem_of_getElem? (i := 27) rfl))) Via.refl e34 H37 (hb hby d9_294) ?_
  intro T38 X38 e38
  refine Gk.aloadN X38 hx (hb hby d9_297) rfl rfl ?_
  have H39 := (H32.other W34 (Or.inl ne36))
  refine Gk.getF X38 hx hZ hown (host := "") (Or.inl (hw _ (List.mem_of_getElem? (i := 67) rfl))) Via.refl e38 H39 (hb hby d9_298) ?_
  intro T40 X40 e40
  refine Gk.aloadN X40 hx (hb hby d9_301) rfl rfl ?_
  have ne42 : ab ≠ x_zones := (Nat.ne_of_lt (Nat.lt_trans lt2 (Nat.lt_trans lt3 lt4)))
  have H43 := (((V_zones.keep K2 (ninS (Ne.symm ne42) nin0)).keep K28 (ninS (Ne.symm (Nat.ne_of_lt (Nat.lt_trans lt3 lt4))) nin0)).other W34 (Ne.symm (Nat.ne_of_lt lt4)))
  refine Gk.aastore X40 hx hZ e40 H43 2 rfl ⟨by decide, by decide⟩ rfl rfl (Or.inl rfl) (hb hby d9_302) ?_
  intro T41 h41 X41 e41 W41 V41
  have N41 := Fr.snoc X41 N34 (Nat.le_trans g_a1 (Nat.le_of_lt (Nat.lt_trans lt1 (Nat.lt_trans lt2 (Nat.lt_trans lt3 lt4)))))
  refine Gk.aloadN X41 hx (hb hby d9_303) rfl rfl ?_
  have ne44 : a1 ≠ x_zones := (Nat.ne_of_lt (Nat.lt_trans lt1 (Nat.lt_trans lt2 (Nat.lt_trans lt3 lt4))))
  have H45 := ((((F_held.keep K2 (ninS (Nat.ne_of_lt lt1) nin0)).keep K28 (ninS (Nat.ne_of_lt (Nat.lt_trans lt1 lt2)) nin0)).other W34 (Or.inl ne36)).other W41 (Or.inl ne44))
  refine Gk.getF X41 hx hZ hown (host := "") (Or.inl (hw _ (List.mem_of_getElem? (i := 32) rfl))) Via.refl e41 H45 (hb hby d9_304) ?_
  intro T46 X46 e46
  refine Gk.aloadN X46 hx (hb hby d9_307) rfl rfl ?_
  have H47 := (H39.other W41 (Or.inl ne44))
  refine Gk.getF X46 hx hZ hown (host := "") (Or.inl (hw _ (List.mem_of_getElem? (i := 67) rfl))) Via.refl e46 H47 (hb hby d9_308) ?_
  intro T48 X48 e48
  refine Gk.iconst X48 hx (hb hby d9_311) (0 : Int32) rfl ?_
  have ne50 : ab ≠ x_held := (Nat.ne_of_lt (Nat.lt_trans lt2 (Nat.lt_trans lt3 (Nat.lt_trans lt4 (Nat.lt_trans lt5 lt6)))))
  have ne51 : x_states ≠ x_held := (Nat.ne_of_lt (Nat.lt_trans lt3 (Nat.lt_trans lt4 (Nat.lt_trans lt5 lt6))))
  have ne52 : x_hashes ≠ x_held := (Nat.ne_of_lt (Nat.lt_trans lt4 (Nat.lt_trans lt5 lt6)))
  have H53 := ((((V_held.keep K2 (ninS (Ne.symm ne50) nin0)).keep K28 (ninS (Ne.symm ne51) nin0)).other W34 (Ne.symm ne52)).other W41 (Ne.symm (Nat.ne_of_lt (Nat.lt_trans lt5 lt6))))
  refine Gk.bastoreZ X48 hx hZ e48 H53 2 rfl ⟨by decide, by decide⟩ (.int (0 : Int32)) rfl (hb hby d9_312) ?_
  intro T49 h49 X49 e49 W49 V49
  have N49 := Fr.snoc X49 N41 (Nat.le_trans g_a1 (Nat.le_of_lt (Nat.lt_trans lt1 (Nat.lt_trans lt2 (Nat.lt_trans lt3 (Nat.lt_trans lt4 (Nat.lt_trans lt5 lt6)))))))
  refine Gk.aloadN X49 hx (hb hby d9_313) rfl rfl ?_
  have ne54 : a1 ≠ x_held := (Nat.ne_of_lt (Nat.lt_trans lt1 (Nat.lt_trans lt2 (Nat.lt_trans lt3 (Nat.lt_trans lt4 (Nat.lt_trans lt5 lt6))))))
  have H55 := (((((F_sameStates.keep K2 (ninS (Nat.ne_of_lt lt1) nin0)).keep K28 (ninS (Nat.ne_of_lt (Nat.lt_trans lt1 lt2)) nin0)).other W34 (Or.inl ne36)).other W41 (Or.inl ne44)).other W49 (Or.inl ne54))
  refine Gk.getF X49 hx hZ hown (host := "") (Or.inl (hw _ (List.mem_of_getElem? (i := 29) rfl))) Via.refl e49 H55 (hb hby d9_314) ?_
  intro T56 X56 e56
  refine Gk.aloadN X56 hx (hb hby d9_317) rfl rfl ?_
  have H57 := (H47.other W49 (Or.inl ne54))
  refine Gk.getF X56 hx hZ hown (host := "") (Or.inl (hw _ (List.mem_of_getElem? (i := 67) rfl))) Via.refl e56 H57 (hb hby d9_318) ?_
  intro T58 X58 e58
  refine Gk.iload X58 hx (hb hby d9_321) rfl ?_
  have ne60 : ab ≠ x_sameStates := (Nat.ne_of_lt (Nat.lt_trans lt2 (Nat.lt_trans lt3 (Nat.lt_trans lt4 lt5))))
  have ne61 : x_states ≠ x_sameStates := (Nat.ne_of_lt (Nat.lt_trans lt3 (Nat.lt_trans lt4 lt5)))
  have H62 := (((((V_sameStates.keep K2 (ninS (Ne.symm ne60) nin0)).keep K28 (ninS (Ne.symm ne61) nin0)).other W34 (Ne.symm (Nat.ne_of_lt (Nat.lt_trans lt4 lt5)))).other W41 (Ne.symm (Nat.ne_of_lt lt5))).other W49 (Nat.ne_of_lt lt6))
  refine Gk.iastore X58 hx hZ e58 H62 2 rfl ⟨by decide, by decide⟩ (.int (-1 : Int32)) rfl (hb hby d9_323) ?_
  intro T59 h59 X59 e59 W59 V59
  have N59 := Fr.snoc X59 N49 (Nat.le_trans g_a1 (Nat.le_of_lt (Nat.lt_trans lt1 (Nat.lt_trans lt2 (Nat.lt_trans lt3 (Nat.lt_trans lt4 lt5))))))
  refine Gk.aloadN X59 hx (hb hby d9_324) rfl rfl ?_
  have ne63 : a1 ≠ x_sameStates := (Nat.ne_of_lt (Nat.lt_trans lt1 (Nat.lt_trans lt2 (Nat.lt_trans lt3 (Nat.lt_trans lt4 lt5)))))
  have H64 := (((((H14.keep K28 (ninS (Nat.ne_of_lt (Nat.lt_trans lt1 lt2)) nin0)).other W34 (Or.inl ne36)).other W41 (Or.inl ne44)).other W49 (Or.inl ne54)).other W59 (Or.inl ne63))
  refine Gk.getF X59 hx hZ hown (host := "") (Or.inl (hw _ (List.mem_of_getElem? (i := 34) rfl))) Via.refl e59 H64 (hb hby d9_325) ?_
  intro T65 X65 e65
  refine Gk.aloadN X65 hx (hb hby d9_328) rfl rfl ?_
  have H66 := (H57.other W59 (Or.inl ne63))
  refine Gk.getF X65 hx hZ hown (host := "") (Or.inl (hw _ (List.mem_of_getElem? (i := 67) rfl))) Via.refl e65 H66 (hb hby d9_329) ?_
  intro T67 X67 e67
  refine Gk.iload X67 hx (hb hby d9_332) rfl ?_
  have ne69 : x_states ≠ x_parents := (Nat.ne_of_lt (Nat.lt_trans lt3 (Nat.lt_trans lt4 (Nat.lt_trans lt5 (Nat.lt_trans lt6 lt7)))))
  have ne70 : x_hashes ≠ x_parents := (Nat.ne_of_lt (Nat.lt_trans lt4 (Nat.lt_trans lt5 (Nat.lt_trans lt6 lt7))))
  have ne71 : x_zones ≠ x_parents := (Nat.ne_of_lt (Nat.lt_trans lt5 (Nat.lt_trans lt6 lt7)))
  have H72 := (((((H17.keep K28 (ninS (Ne.symm ne69) nin0)).other W34 (Ne.symm ne70)).other W41 (Ne.symm ne71)).other W49 (Ne.symm (Nat.ne_of_lt lt7))).other W59 (Ne.symm (Nat.ne_of_lt (Nat.lt_trans lt6 lt7))))
  refine Gk.iastore X67 hx hZ e67 H72 2 rfl ⟨by decide, by decide⟩ (.int (-1 : Int32)) rfl (hb hby d9_334) ?_
  intro T68 h68 X68 e68 W68 V68
  have N68 := Fr.snoc X68 N59 (Nat.le_trans g_a1 (Nat.le_of_lt (Nat.lt_trans lt1 (Nat.lt_trans lt2 (Nat.lt_trans lt3 (Nat.lt_trans lt4 (Nat.lt_trans lt5 (Nat.lt_trans lt6 lt7))))))))
  refine Gk.aloadN X68 hx (hb hby d9_335) rfl rfl ?_
  have ne73 : a1 ≠ x_parents := (Nat.ne_of_lt (Nat.lt_trans lt1 (Nat.lt_trans lt2 (Nat.lt_trans lt3 (Nat.lt_trans lt4 (Nat.lt_trans lt5 (Nat.lt_trans lt6 lt7)))))))
  have H74 := (((((((F_events.keep K2 (ninS (Nat.ne_of_lt lt1) nin0)).keep K28 (ninS (Nat.ne_of_lt (Nat.lt_trans lt1 lt2)) nin0)).other W34 (Or.inl ne36)).other W41 (Or.inl ne44)).other W49 (Or.inl ne54)).other W59 (Or.inl ne63)).other W68 (Or.inl ne73))
  refine Gk.getF X68 hx hZ hown (host := "") (Or.inl (hw _ (List.mem_of_getElem? (i := 38) rfl))) Via.refl e68 H74 (hb hby d9_336) ?_
  intro T75 X75 e75
  refine Gk.aloadN X75 hx (hb hby d9_339) rfl rfl ?_
  have H76 := (H66.other W68 (Or.inl ne73))
  refine Gk.getF X75 hx hZ hown (host := "") (Or.inl (hw _ (List.mem_of_getElem? (i := 67) rfl))) Via.refl e75 H76 (hb hby d9_340) ?_
  intro T77 X77 e77
  refine Gk.aload X77 hx (hb hby d9_343) rfl rfl ?_
  have ne79 : ab ≠ x_events := (Nat.ne_of_lt (Nat.lt_trans lt2 (Nat.lt_trans lt3 (Nat.lt_trans lt4 (Nat.lt_trans lt5 (Nat.lt_trans lt6 (Nat.lt_trans lt7 lt8)))))))
  have ne80 : x_states ≠ x_events := (Nat.ne_of_lt (Nat.lt_trans lt3 (Nat.lt_trans lt4 (Nat.lt_trans lt5 (Nat.lt_trans lt6 (Nat.lt_trans lt7 lt8))))))
  have ne81 : x_hashes ≠ x_events := (Nat.ne_of_lt (Nat.lt_trans lt4 (Nat.lt_trans lt5 (Nat.lt_trans lt6 (Nat.lt_trans lt7 lt8)))))
  have ne82 : x_zones ≠ x_events := (Nat.ne_of_lt (Nat.lt_trans lt5 (Nat.lt_trans lt6 (Nat.lt_trans lt7 lt8))))
  have ne83 : x_sameStates ≠ x_events := (Nat.ne_of_lt (Nat.lt_trans lt6 (Nat.lt_trans lt7 lt8)))
  have H84 := (((((((V_events.keep K2 (ninS (Ne.symm ne79) nin0)).keep K28 (ninS (Ne.symm ne80) nin0)).other W34 (Ne.symm ne81)).other W41 (Ne.symm ne82)).other W49 (Ne.symm (Nat.ne_of_lt (Nat.lt_trans lt7 lt8)))).other W59 (Ne.symm ne83)).other W68 (Ne.symm (Nat.ne_of_lt lt8)))
  refine Gk.aastore X77 hx hZ e77 H84 2 rfl ⟨by decide, by decide⟩ rfl rfl (Or.inl rfl) (hb hby d9_345) ?_
  intro T78 h78 X78 e78 W78 V78
  have N78 := Fr.snoc X78 N68 (Nat.le_trans g_a1 (Nat.le_of_lt (Nat.lt_trans lt1 (Nat.lt_trans lt2 (Nat.lt_trans lt3 (Nat.lt_trans lt4 (Nat.lt_trans lt5 (Nat.lt_trans lt6 (Nat.lt_trans lt7 lt8)))))))))
  refine Gk.aloadN X78 hx (hb hby d9_346) rfl rfl ?_
  have ne85 : a1 ≠ x_events := (Nat.ne_of_lt (Nat.lt_trans lt1 (Nat.lt_trans lt2 (Nat.lt_trans lt3 (Nat.lt_trans lt4 (Nat.lt_trans lt5 (Nat.lt_trans lt6 (Nat.lt_trans lt7 lt8))))))))
  have H86 := ((((((((F_ranks.keep K2 (ninS (Nat.ne_of_lt lt1) nin0)).keep K28 (ninS (Nat.ne_of_lt (Nat.lt_trans lt1 lt2)) nin0)).other W34 (Or.inl ne36)).other W41 (Or.inl ne44)).other W49 (Or.inl ne54)).other W59 (Or.inl ne63)).other W68 (Or.inl ne73)).other W78 (Or.inl ne85))
  refine Gk.getF X78 hx hZ hown (host := "") (Or.inl (hw _ (List.mem_of_getElem? (i := 40) rfl))) Via.refl e78 H86 (hb hby d9_347) ?_
  intro T87 X87 e87
  refine Gk.aloadN X87 hx (hb hby d9_350) rfl rfl ?_
  have H88 := (H76.other W78 (Or.inl ne85))
  refine Gk.getF X87 hx hZ hown (host := "") (Or.inl (hw _ (List.mem_of_getElem? (i := 67) rfl))) Via.refl e87 H88 (hb hby d9_351) ?_
  intro T89 X89 e89
  refine Gk.iload X89 hx (hb hby d9_354) rfl ?_
  have ne91 : ab ≠ x_ranks := (Nat.ne_of_lt (Nat.lt_trans lt2 (Nat.lt_trans lt3 (Nat.lt_trans lt4 (Nat.lt_trans lt5 (Nat.lt_trans lt6 (Nat.lt_trans lt7 (Nat.lt_trans lt8 lt9))))))))
  have ne92 : x_states ≠ x_ranks := (Nat.ne_of_lt (Nat.lt_trans lt3 (Nat.lt_trans lt4 (Nat.lt_trans lt5 (Nat.lt_trans lt6 (Nat.lt_trans lt7 (Nat.lt_trans lt8 lt9)))))))
  have ne93 : x_hashes ≠ x_ranks := (Nat.ne_of_lt (Nat.lt_trans lt4 (Nat.lt_trans lt5 (Nat.lt_trans lt6 (Nat.lt_trans lt7 (Nat.lt_trans lt8 lt9))))))
  have ne94 : x_zones ≠ x_ranks := (Nat.ne_of_lt (Nat.lt_trans lt5 (Nat.lt_trans lt6 (Nat.lt_trans lt7 (Nat.lt_trans lt8 lt9)))))
  have ne95 : x_held ≠ x_ranks := (Nat.ne_of_lt (Nat.lt_trans lt7 (Nat.lt_trans lt8 lt9)))
  have ne96 : x_sameStates ≠ x_ranks := (Nat.ne_of_lt (Nat.lt_trans lt6 (Nat.lt_trans lt7 (Nat.lt_trans lt8 lt9))))
  have H97 := ((((((((V_ranks.keep K2 (ninS (Ne.symm ne91) nin0)).keep K28 (ninS (Ne.symm ne92) nin0)).other W34 (Ne.symm ne93)).other W41 (Ne.symm ne94)).other W49 (Ne.symm ne95)).other W59 (Ne.symm ne96)).other W68 (Ne.symm (Nat.ne_of_lt (Nat.lt_trans lt8 lt9)))).other W78 (Ne.symm (Nat.ne_of_lt lt9)))
  refine Gk.iastore X89 hx hZ e89 H97 2 rfl ⟨by decide, by decide⟩ (.int p7) rfl (hb hby d9_356) ?_
  intro T90 h90 X90 e90 W90 V90
  have N90 := Fr.snoc X90 N78 (Nat.le_trans g_a1 (Nat.le_of_lt (Nat.lt_trans lt1 (Nat.lt_trans lt2 (Nat.lt_trans lt3 (Nat.lt_trans lt4 (Nat.lt_trans lt5 (Nat.lt_trans lt6 (Nat.lt_trans lt7 (Nat.lt_trans lt8 lt9))))))))))
  refine Gk.aloadN X90 hx (hb hby d9_357) rfl rfl ?_
  have ne98 : a1 ≠ x_ranks := (Nat.ne_of_lt (Nat.lt_trans lt1 (Nat.lt_trans lt2 (Nat.lt_trans lt3 (Nat.lt_trans lt4 (Nat.lt_trans lt5 (Nat.lt_trans lt6 (Nat.lt_trans lt7 (Nat.lt_trans lt8 lt9)))))))))
  have H99 := (((((((((F_reached.keep K2 (ninS (Nat.ne_of_lt lt1) nin0)).keep K28 (ninS (Nat.ne_of_lt (Nat.lt_trans lt1 lt2)) nin0)).other W34 (Or.inl ne36)).other W41 (Or.inl ne44)).other W49 (Or.inl ne54)).other W59 (Or.inl ne63)).other W68 (Or.inl ne73)).other W78 (Or.inl ne85)).other W90 (Or.inl ne98))
  refine Gk.getF X90 hx hZ hown (host := "") (Or.inl (hw _ (List.mem_of_getElem? (i := 52) rfl))) Via.refl e90 H99 (hb hby d9_358) ?_
  intro T100 X100 e100
  refine Gk.iload X100 hx (hb hby d9_361) rfl ?_
  have ne102 : ab ≠ x_reached := (Nat.ne_of_lt (Nat.lt_trans lt2 (Nat.lt_trans lt3 (Nat.lt_trans lt4 (Nat.lt_trans lt5 (Nat.lt_trans lt6 (Nat.lt_trans lt7 (Nat.lt_trans lt8 (Nat.lt_trans lt9 (Nat.lt_trans lt10 (Nat.lt_trans lt11 (Nat.lt_trans lt12 lt13))))))))))))
  have ne103 : x_states ≠ x_reached := (Nat.ne_of_lt (Nat.lt_trans lt3 (Nat.lt_trans lt4 (Nat.lt_trans lt5 (Nat.lt_trans lt6 (Nat.lt_trans lt7 (Nat.lt_trans lt8 (Nat.lt_trans lt9 (Nat.lt_trans lt10 (Nat.lt_trans lt11 (Nat.lt_trans lt12 lt13)))))))))))
  have ne104 : x_hashes ≠ x_reached := (Nat.ne_of_lt (Nat.lt_trans lt4 (Nat.lt_trans lt5 (Nat.lt_trans lt6 (Nat.lt_trans lt7 (Nat.lt_trans lt8 (Nat.lt_trans lt9 (Nat.lt_trans lt10 (Nat.lt_trans lt11 (Nat.lt_trans lt12 lt13))))))))))
  have ne105 : x_zones ≠ x_reached := (Nat.ne_of_lt (Nat.lt_trans lt5 (Nat.lt_trans lt6 (Nat.lt_trans lt7 (Nat.lt_trans lt8 (Nat.lt_trans lt9 (Nat.lt_trans lt10 (Nat.lt_trans lt11 (Nat.lt_trans lt12 lt13)))))))))
  have ne106 : x_held ≠ x_reached := (Nat.ne_of_lt (Nat.lt_trans lt7 (Nat.lt_trans lt8 (Nat.lt_trans lt9 (Nat.lt_trans lt10 (Nat.lt_trans lt11 (Nat.lt_trans lt12 lt13)))))))
  have ne107 : x_sameStates ≠ x_reached := (Nat.ne_of_lt (Nat.lt_trans lt6 (Nat.lt_trans lt7 (Nat.lt_trans lt8 (Nat.lt_trans lt9 (Nat.lt_trans lt10 (Nat.lt_trans lt11 (Nat.lt_trans lt12 lt13))))))))
  have ne108 : x_parents ≠ x_reached := (Nat.ne_of_lt (Nat.lt_trans lt8 (Nat.lt_trans lt9 (Nat.lt_trans lt10 (Nat.lt_trans lt11 (Nat.lt_trans lt12 lt13))))))
  have ne109 : x_events ≠ x_reached := (Nat.ne_of_lt (Nat.lt_trans lt9 (Nat.lt_trans lt10 (Nat.lt_trans lt11 (Nat.lt_trans lt12 lt13)))))
  have ne110 : x_ranks ≠ x_reached := (Nat.ne_of_lt (Nat.lt_trans lt10 (Nat.lt_trans lt11 (Nat.lt_trans lt12 lt13))))
  have H111 := (((((((((V_reached.keep K2 (ninS (Ne.symm ne102) nin0)).keep K28 (ninS (Ne.symm ne103) nin0)).other W34 (Ne.symm ne104)).other W41 (Ne.symm ne105)).other W49 (Ne.symm ne106)).other W59 (Ne.symm ne107)).other W68 (Ne.symm ne108)).other W78 (Ne.symm ne109)).other W90 (Ne.symm ne110))
  refine Gk.iaload X100 hx hZ e100 H111 hk3 (.int (Rf p7.toNatClampNeg)) rfl (hb hby d9_363) ?_
  refine Gk.aloadN X100 hx (hb hby d9_364) rfl rfl ?_
  have H112 := (((((((((F_ranked.keep K2 (ninS (Nat.ne_of_lt lt1) nin0)).keep K28 (ninS (Nat.ne_of_lt (Nat.lt_trans lt1 lt2)) nin0)).other W34 (Or.inl ne36)).other W41 (Or.inl ne44)).other W49 (Or.inl ne54)).other W59 (Or.inl ne63)).other W68 (Or.inl ne73)).other W78 (Or.inl ne85)).other W90 (Or.inl ne98))
  refine Gk.getF X100 hx hZ hown (host := "") (Or.inl (hw _ (List.mem_of_getElem? (i := 50) rfl))) Via.refl e100 H112 (hb hby d9_365) ?_
  intro T113 X113 e113
  refine Gk.iload X113 hx (hb hby d9_368) rfl ?_
  have ne115 : ab ≠ x_ranked := (Nat.ne_of_lt (Nat.lt_trans lt2 (Nat.lt_trans lt3 (Nat.lt_trans lt4 (Nat.lt_trans lt5 (Nat.lt_trans lt6 (Nat.lt_trans lt7 (Nat.lt_trans lt8 (Nat.lt_trans lt9 (Nat.lt_trans lt10 lt11))))))))))
  have ne116 : x_states ≠ x_ranked := (Nat.ne_of_lt (Nat.lt_trans lt3 (Nat.lt_trans lt4 (Nat.lt_trans lt5 (Nat.lt_trans lt6 (Nat.lt_trans lt7 (Nat.lt_trans lt8 (Nat.lt_trans lt9 (Nat.lt_trans lt10 lt11)))))))))
  have ne117 : x_hashes ≠ x_ranked := (Nat.ne_of_lt (Nat.lt_trans lt4 (Nat.lt_trans lt5 (Nat.lt_trans lt6 (Nat.lt_trans lt7 (Nat.lt_trans lt8 (Nat.lt_trans lt9 (Nat.lt_trans lt10 lt11))))))))
  have ne118 : x_zones ≠ x_ranked := (Nat.ne_of_lt (Nat.lt_trans lt5 (Nat.lt_trans lt6 (Nat.lt_trans lt7 (Nat.lt_trans lt8 (Nat.lt_trans lt9 (Nat.lt_trans lt10 lt11)))))))
  have ne119 : x_held ≠ x_ranked := (Nat.ne_of_lt (Nat.lt_trans lt7 (Nat.lt_trans lt8 (Nat.lt_trans lt9 (Nat.lt_trans lt10 lt11)))))
  have ne120 : x_sameStates ≠ x_ranked := (Nat.ne_of_lt (Nat.lt_trans lt6 (Nat.lt_trans lt7 (Nat.lt_trans lt8 (Nat.lt_trans lt9 (Nat.lt_trans lt10 lt11))))))
  have ne121 : x_parents ≠ x_ranked := (Nat.ne_of_lt (Nat.lt_trans lt8 (Nat.lt_trans lt9 (Nat.lt_trans lt10 lt11))))
  have ne122 : x_events ≠ x_ranked := (Nat.ne_of_lt (Nat.lt_trans lt9 (Nat.lt_trans lt10 lt11)))
  have H123 := (((((((((V_ranked.keep K2 (ninS (Ne.symm ne115) nin0)).keep K28 (ninS (Ne.symm ne116) nin0)).other W34 (Ne.symm ne117)).other W41 (Ne.symm ne118)).other W49 (Ne.symm ne119)).other W59 (Ne.symm ne120)).other W68 (Ne.symm ne121)).other W78 (Ne.symm ne122)).other W90 (Ne.symm (Nat.ne_of_lt (Nat.lt_trans lt10 lt11))))
  refine Gk.aaload X113 hx hZ e113 H123 rfl hk3 (.ref yk) (congrArg Value.ref eyk.symm) (hb hby d9_370) ?_
  have ne124 : ab ≠ yk := (Nat.ne_of_lt (Nat.lt_trans lt2 (Nat.lt_trans lt3 (Nat.lt_trans lt4 (Nat.lt_trans lt5 (Nat.lt_trans lt6 (Nat.lt_trans lt7 (Nat.lt_trans lt8 (Nat.lt_trans lt9 (Nat.lt_trans lt10 (Nat.lt_trans lt11 lt12)))))))))))
  have ne125 : x_states ≠ yk := (Nat.ne_of_lt (Nat.lt_trans lt3 (Nat.lt_trans lt4 (Nat.lt_trans lt5 (Nat.lt_trans lt6 (Nat.lt_trans lt7 (Nat.lt_trans lt8 (Nat.lt_trans lt9 (Nat.lt_trans lt10 (Nat.lt_trans lt11 lt12))))))))))
  have ne126 : x_hashes ≠ yk := (Nat.ne_of_lt (Nat.lt_trans lt4 (Nat.lt_trans lt5 (Nat.lt_trans lt6 (Nat.lt_trans lt7 (Nat.lt_trans lt8 (Nat.lt_trans lt9 (Nat.lt_trans lt10 (Nat.lt_trans lt11 lt12)))))))))
  have ne127 : x_zones ≠ yk := (Nat.ne_of_lt (Nat.lt_trans lt5 (Nat.lt_trans lt6 (Nat.lt_trans lt7 (Nat.lt_trans lt8 (Nat.lt_trans lt9 (Nat.lt_trans lt10 (Nat.lt_trans lt11 lt12))))))))
  have ne128 : x_held ≠ yk := (Nat.ne_of_lt (Nat.lt_trans lt7 (Nat.lt_trans lt8 (Nat.lt_trans lt9 (Nat.lt_trans lt10 (Nat.lt_trans lt11 lt12))))))
  have ne129 : x_sameStates ≠ yk := (Nat.ne_of_lt (Nat.lt_trans lt6 (Nat.lt_trans lt7 (Nat.lt_trans lt8 (Nat.lt_trans lt9 (Nat.lt_trans lt10 (Nat.lt_trans lt11 lt12)))))))
  have ne130 : x_parents ≠ yk := (Nat.ne_of_lt (Nat.lt_trans lt8 (Nat.lt_trans lt9 (Nat.lt_trans lt10 (Nat.lt_trans lt11 lt12)))))
  have ne131 : x_events ≠ yk := (Nat.ne_of_lt (Nat.lt_trans lt9 (Nat.lt_trans lt10 (Nat.lt_trans lt11 lt12))))
  have ne132 : x_ranks ≠ yk := (Nat.ne_of_lt (Nat.lt_trans lt10 (Nat.lt_trans lt11 lt12)))
  have H133 := (((((((((V_rk.keep K2 (ninS (Ne.symm ne124) nin0)).keep K28 (ninS (Ne.symm ne125) nin0)).other W34 (Ne.symm ne126)).other W41 (Ne.symm ne127)).other W49 (Ne.symm ne128)).other W59 (Ne.symm ne129)).other W68 (Ne.symm ne130)).other W78 (Ne.symm ne131)).other W90 (Ne.symm ne132))
  refine Gk.alen X113 hx hZ e113 H133 (hb hby d9_371) ?_
  have hc372 : ¬ ((Rf p7.toNatClampNeg) = (8 : Int32)) := (fun q_ => Int32.lt_irrefl (q_ ▸ hr8.2))
  refine Gk.icmpYes X113 hx (hb hby d9_372) (feq hc372).2 401 (by decide) (by decide) ?_
  refine Gk.aloadN X113 hx (hb hby d9_401) rfl rfl ?_
  refine Gk.getF X113 hx hZ hown (host := "") (Or.inl (hw _ (List.mem_of_getElem? (i := 50) rfl))) Via.refl e113 H112 (hb hby d9_402) ?_
  intro T134 X134 e134
  refine Gk.iload X134 hx (hb hby d9_405) rfl ?_
  refine Gk.aaload X134 hx hZ e134 H123 rfl hk3 (.ref yk) (congrArg Value.ref eyk.symm) (hb hby d9_407) ?_
  refine Gk.aloadN X134 hx (hb hby d9_408) rfl rfl ?_
  refine Gk.getF X134 hx hZ hown (host := "") (Or.inl (hw _ (List.mem_of_getElem? (i := 52) rfl))) Via.refl e134 H99 (hb hby d9_409) ?_
  intro T136 X136 e136
  refine Gk.iload X136 hx (hb hby d9_412) rfl ?_
  refine Gk.dup2 X136 hx (hb hby d9_414) rfl rfl ?_
  refine Gk.iaload X136 hx hZ e136 H111 hk3 (.int (Rf p7.toNatClampNeg)) rfl (hb hby d9_415) ?_
  refine Gk.dupX2 X136 hx (hb hby d9_416) rfl rfl rfl ?_
  refine Gk.iconst X136 hx (hb hby d9_417) (1 : Int32) rfl ?_
  refine Gk.iadd X136 hx (hb hby d9_418) _ rfl ?_
  refine Gk.iastore X136 hx hZ e136 H111 p7.toNatClampNeg rfl hk3 (.int ((Rf p7.toNatClampNeg) + (1 : Int32))) rfl (hb hby d9_419) ?_
  intro T138 h138 X138 e138 W138 V138
  have N138 := Fr.snoc X138 N90 (Nat.le_trans g_a1 (Nat.le_of_lt (Nat.lt_trans lt1 (Nat.lt_trans lt2 (Nat.lt_trans lt3 (Nat.lt_trans lt4 (Nat.lt_trans lt5 (Nat.lt_trans lt6 (Nat.lt_trans lt7 (Nat.lt_trans lt8 (Nat.lt_trans lt9 (Nat.lt_trans lt10 (Nat.lt_trans lt11 (Nat.lt_trans lt12 lt13))))))))))))))
  refine Gk.aloadN X138 hx (hb hby d9_420) rfl rfl ?_
  have ne139 : a1 ≠ x_reached := (Nat.ne_of_lt (Nat.lt_trans lt1 (Nat.lt_trans lt2 (Nat.lt_trans lt3 (Nat.lt_trans lt4 (Nat.lt_trans lt5 (Nat.lt_trans lt6 (Nat.lt_trans lt7 (Nat.lt_trans lt8 (Nat.lt_trans lt9 (Nat.lt_trans lt10 (Nat.lt_trans lt11 (Nat.lt_trans lt12 lt13)))))))))))))
  have H140 := ((H88.other W90 (Or.inl ne98)).other W138 (Or.inl ne139))
  refine Gk.getF X138 hx hZ hown (host := "") (Or.inl (hw _ (List.mem_of_getElem? (i := 67) rfl))) Via.refl e138 H140 (hb hby d9_421) ?_
  intro T141 X141 e141
  have H143 := (H133.other W138 (Nat.ne_of_lt lt13))
  refine Gk.iastore X141 hx hZ e141 H143 (Rf p7.toNatClampNeg).toNatClampNeg rfl hr8 (.int (2 : Int32)) rfl (hb hby d9_424) ?_
  intro T142 h142 X142 e142 W142 V142
  have N142 := Fr.snoc X142 N138 (Nat.le_trans g_a1 (Nat.le_of_lt (Nat.lt_trans lt1 (Nat.lt_trans lt2 (Nat.lt_trans lt3 (Nat.lt_trans lt4 (Nat.lt_trans lt5 (Nat.lt_trans lt6 (Nat.lt_trans lt7 (Nat.lt_trans lt8 (Nat.lt_trans lt9 (Nat.lt_trans lt10 (Nat.lt_trans lt11 lt12)))))))))))))
  refine Gk.aloadN X142 hx (hb hby d9_425) rfl rfl ?_
  refine Gk.aloadN X142 hx (hb hby d9_426) rfl rfl ?_
  have ne144 : a1 ≠ yk := (Nat.ne_of_lt (Nat.lt_trans lt1 (Nat.lt_trans lt2 (Nat.lt_trans lt3 (Nat.lt_trans lt4 (Nat.lt_trans lt5 (Nat.lt_trans lt6 (Nat.lt_trans lt7 (Nat.lt_trans lt8 (Nat.lt_trans lt9 (Nat.lt_trans lt10 (Nat.lt_trans lt11 lt12))))))))))))
  have H145 := (((((((((((F_lowest.keep K2 (ninS (Nat.ne_of_lt lt1) nin0)).keep K28 (ninS (Nat.ne_of_lt (Nat.lt_trans lt1 lt2)) nin0)).other W34 (Or.inl ne36)).other W41 (Or.inl ne44)).other W49 (Or.inl ne54)).other W59 (Or.inl ne63)).other W68 (Or.inl ne73)).other W78 (Or.inl ne85)).other W90 (Or.inl ne98)).other W138 (Or.inl ne139)).other W142 (Or.inl ne144))
  refine Gk.getF X142 hx hZ hown (host := "") (Or.inl (hw _ (List.mem_of_getElem? (i := 75) rfl))) Via.refl e142 H145 (hb hby d9_427) ?_
  intro T146 X146 e146
  refine Gk.iload X146 hx (hb hby d9_430) rfl ?_
  have gr148 := (Nat.le_trans (Nat.le_trans (Nat.le_trans (Nat.le_trans (Nat.le_trans (Nat.le_trans (Nat.le_trans (Nat.le_trans (Nat.le_trans (Nat.le_trans K2.1 K28.1) (Keep.of_wr W34).1) (Keep.of_wr W41).1) (Keep.of_wr W49).1) (Keep.of_wr W59).1) (Keep.of_wr W68).1) (Keep.of_wr W78).1) (Keep.of_wr W90).1) (Keep.of_wr W138).1) (Keep.of_wr W142).1)
  refine Gk.callS (argsL := [(.int (0 : Int32)), (.int p7)]) X146 hx hZ hown (rm13 l Z a0 hw [] (0 : Int32) p7 h142 n0 (Nat.le_trans Z0 gr148)) (hw _ (List.mem_of_getElem? (i := 105) rfl)) (hw _ (List.mem_of_getElem? (i := 106) rfl)) (hw _ (List.mem_of_getElem? (i := 107) rfl)) (hw _ (List.mem_of_getElem? (i := 108) rfl)) (by decide) e146 pd_3 rfl rfl (by decide) (Nat.le_of_ble_eq_true rfl) (by decide) (by decide) (by rw [hml]; rfl)  rfl (hb hby d9_432) ?_
  intro T147 L147 v147 X147 hQ147
  obtain ⟨rfl, N147q, e147⟩ := hQ147
  have N147 := Fr.app N142 N147q
  show Go p e below (T147.setTop (mkF m 435 #[.val (.ref a1), .val (.ref a2), .val (.int (-1023800488 : Int32)), .val .null, .val (.int (-1 : Int32)), .val .null, .val (.int p7), .val (.int (-1 : Int32)), .val (.int (31 : Int32)), .val (.int (24 : Int32))] [(.int (if p7 < (0 : Int32) then p7 else (0 : Int32))), (.ref a1)])) _
  rw [show (if p7 < (0 : Int32) then p7 else (0 : Int32)) = (0 : Int32) from (if_neg hk3.1)]
  have H149 := ((((((((((H7.keep K28).wr W34).wr W41).wr W49).wr W59).wr W68).wr W78).wr W90).wr W138).wr W142)
  refine Gk.putF X147 hx hZ hown (host := "") (Or.inl (hw _ (List.mem_of_getElem? (i := 75) rfl))) Via.refl e147 H145 H149 (Or.inl (hw _ (List.mem_of_getElem? (i := 76) rfl))) (hw _ (List.mem_of_getElem? (i := 3) rfl)) (ty := .int) (by decide) rfl rfl (hb hby d9_435) ?_
  intro T150 h150 X150 e150 W150
  have Fw150 := H145.same W150
  have N150 := Fr.snoc X150 N147 g_a1
  refine Gk.aloadN X150 hx (hb hby d9_438) rfl rfl ?_
  refine Gk.dup X150 hx (hb hby d9_439) rfl ?_
  have H151 := ((H140.other W142 (Or.inl ne144)).other W150 (Or.inr (slot_ne (Or.inl (hw _ (List.mem_of_getElem? (i := 68) rfl))) (Or.inl (hw _ (List.mem_of_getElem? (i := 76) rfl))) (by decide) (t := .int) (t' := .int) (by decide) (by decide))))
  refine Gk.getF X150 hx hZ hown (host := "") (Or.inl (hw _ (List.mem_of_getElem? (i := 67) rfl))) Via.refl e150 H151 (hb hby d9_440) ?_
  intro T152 X152 e152
  refine Gk.iconst X152 hx (hb hby d9_443) (1 : Int32) rfl ?_
  refine Gk.iadd X152 hx (hb hby d9_444) (3 : Int32) (by decide) ?_
  have H153 := (H149.wr W150)
  refine Gk.putF X152 hx hZ hown (host := "") (Or.inl (hw _ (List.mem_of_getElem? (i := 67) rfl))) Via.refl e152 H151 H153 (Or.inl (hw _ (List.mem_of_getElem? (i := 68) rfl))) (hw _ (List.mem_of_getElem? (i := 3) rfl)) (ty := .int) (by decide) rfl rfl (hb hby d9_445) ?_
  intro T154 h154 X154 e154 W154
  have Fw154 := H151.same W154
  have N154 := Fr.snoc X154 N150 g_a1
  refine Gk.aloadN X154 hx (hb hby d9_448) rfl rfl ?_
  have H155 := ((((((((((((H6.keep K28 (ninS (Nat.ne_of_lt (Nat.lt_trans lt1 lt2)) nin0)).other W34 (Or.inl ne36)).other W41 (Or.inl ne44)).other W49 (Or.inl ne54)).other W59 (Or.inl ne63)).other W68 (Or.inl ne73)).other W78 (Or.inl ne85)).other W90 (Or.inl ne98)).other W138 (Or.inl ne139)).other W142 (Or.inl ne144)).other W150 (Or.inr (slot_ne (Or.inl (hw _ (List.mem_of_getElem? (i := 43) rfl))) (Or.inl (hw _ (List.mem_of_getElem? (i := 76) rfl))) (by decide) (t := (.array .int)) (t' := .int) (by decide) (by decide)))).other W154 (Or.inr (slot_ne (Or.inl (hw _ (List.mem_of_getElem? (i := 43) rfl))) (Or.inl (hw _ (List.mem_of_getElem? (i := 68) rfl))) (by decide) (t := (.array .int)) (t' := .int) (by decide) (by decide))))
  refine Gk.getF X154 hx hZ hown (host := "") (Or.inl (hw _ (List.mem_of_getElem? (i := 42) rfl))) Via.refl e154 H155 (hb hby d9_449) ?_
  intro T156 X156 e156
  refine Gk.iload X156 hx (hb hby d9_452) rfl ?_
  refine Gk.aloadN X156 hx (hb hby d9_454) rfl rfl ?_
  refine Gk.getF X156 hx hZ hown (host := "") (Or.inl (hw _ (List.mem_of_getElem? (i := 67) rfl))) Via.refl e156 Fw154 (hb hby d9_455) ?_
  intro T157 X157 e157
  have ne159 : x_states ≠ x_slots := (Nat.ne_of_lt (Nat.lt_trans lt3 (Nat.lt_trans lt4 (Nat.lt_trans lt5 (Nat.lt_trans lt6 (Nat.lt_trans lt7 (Nat.lt_trans lt8 (Nat.lt_trans lt9 lt10))))))))
  have ne160 : x_hashes ≠ x_slots := (Nat.ne_of_lt (Nat.lt_trans lt4 (Nat.lt_trans lt5 (Nat.lt_trans lt6 (Nat.lt_trans lt7 (Nat.lt_trans lt8 (Nat.lt_trans lt9 lt10)))))))
  have ne161 : x_zones ≠ x_slots := (Nat.ne_of_lt (Nat.lt_trans lt5 (Nat.lt_trans lt6 (Nat.lt_trans lt7 (Nat.lt_trans lt8 (Nat.lt_trans lt9 lt10))))))
  have ne162 : x_held ≠ x_slots := (Nat.ne_of_lt (Nat.lt_trans lt7 (Nat.lt_trans lt8 (Nat.lt_trans lt9 lt10))))
  have ne163 : x_sameStates ≠ x_slots := (Nat.ne_of_lt (Nat.lt_trans lt6 (Nat.lt_trans lt7 (Nat.lt_trans lt8 (Nat.lt_trans lt9 lt10)))))
  have ne164 : x_parents ≠ x_slots := (Nat.ne_of_lt (Nat.lt_trans lt8 (Nat.lt_trans lt9 lt10)))
  have ne165 : x_slots ≠ x_reached := (Nat.ne_of_lt (Nat.lt_trans lt11 (Nat.lt_trans lt12 lt13)))
  have ne166 : a1 ≠ x_slots := (Nat.ne_of_lt (Nat.lt_trans lt1 (Nat.lt_trans lt2 (Nat.lt_trans lt3 (Nat.lt_trans lt4 (Nat.lt_trans lt5 (Nat.lt_trans lt6 (Nat.lt_trans lt7 (Nat.lt_trans lt8 (Nat.lt_trans lt9 lt10))))))))))
  have H167 := ((((((((((((H5.keep K28 (ninS (Ne.symm ne159) nin0)).other W34 (Ne.symm ne160)).other W41 (Ne.symm ne161)).other W49 (Ne.symm ne162)).other W59 (Ne.symm ne163)).other W68 (Ne.symm ne164)).other W78 (Ne.symm (Nat.ne_of_lt (Nat.lt_trans lt9 lt10)))).other W90 (Ne.symm (Nat.ne_of_lt lt10))).other W138 ne165).other W142 (Nat.ne_of_lt (Nat.lt_trans lt11 lt12))).other W150 (Ne.symm ne166)).other W154 (Ne.symm ne166))
  refine Gk.iastore X157 hx hZ e157 H167 24 rfl ⟨by decide, by decide⟩ (.int (3 : Int32)) rfl (hb hby d9_458) ?_
  intro T158 h158 X158 e158 W158 V158
  have N158 := Fr.snoc X158 N154 (Nat.le_trans g_a1 (Nat.le_of_lt (Nat.lt_trans lt1 (Nat.lt_trans lt2 (Nat.lt_trans lt3 (Nat.lt_trans lt4 (Nat.lt_trans lt5 (Nat.lt_trans lt6 (Nat.lt_trans lt7 (Nat.lt_trans lt8 (Nat.lt_trans lt9 lt10)))))))))))
  refine Gk.aloadN X158 hx (hb hby d9_459) rfl rfl ?_
  have H168 := (Fw154.other W158 (Or.inl ne166))
  refine Gk.getF X158 hx hZ hown (host := "") (Or.inl (hw _ (List.mem_of_getElem? (i := 67) rfl))) Via.refl e158 H168 (hb hby d9_460) ?_
  intro T169 X169 e169
  refine Gk.iconst X169 hx (hb hby d9_463) (2 : Int32) rfl ?_
  refine Gk.imul X169 hx (hb hby d9_464) (6 : Int32) (by decide) ?_
  refine Gk.aloadN X169 hx (hb hby d9_465) rfl rfl ?_
  have H170 := (H155.other W158 (Or.inl ne166))
  refine Gk.getF X169 hx hZ hown (host := "") (Or.inl (hw _ (List.mem_of_getElem? (i := 42) rfl))) Via.refl e169 H170 (hb hby d9_466) ?_
  intro T171 X171 e171
  refine Gk.alen X171 hx hZ e171 V158 (hb hby d9_469) ?_
  refine Gk.icmpYes X171 hx (hb hby d9_470) (flt (by decide : ¬ ((32 : Int32) < (6 : Int32)))).2.2.2 477 (by decide) (by decide) ?_
  have H172 := (((((((((((((Fl2.keep K28 (ninS (Nat.ne_of_lt lt2) nin0)).other W34 (Or.inl (Nat.ne_of_lt (Nat.lt_trans lt2 lt3)))).other W41 (Or.inl ne42)).other W49 (Or.inl ne50)).other W59 (Or.inl ne60)).other W68 (Or.inl ne16)).other W78 (Or.inl ne79)).other W90 (Or.inl ne91)).other W138 (Or.inl ne102)).other W142 (Or.inl ne124)).other W150 (Or.inl (Ne.symm (Nat.ne_of_lt lt1)))).other W154 (Or.inl (Ne.symm (Nat.ne_of_lt lt1)))).other W158 (Or.inl ne4))
  have H173 := (((((((((((((H21.keep K28 (ninS (Nat.ne_of_lt (Nat.lt_trans lt1 lt2)) nin0)).other W34 (Or.inl ne36)).other W41 (Or.inl ne44)).other W49 (Or.inl ne54)).other W59 (Or.inl ne63)).other W68 (Or.inl ne73)).other W78 (Or.inl ne85)).other W90 (Or.inl ne98)).other W138 (Or.inl ne139)).other W142 (Or.inl ne144)).other W150 (Or.inr (slot_ne (Or.inl (hw _ (List.mem_of_getElem? (i := 22) rfl))) (Or.inl (hw _ (List.mem_of_getElem? (i := 76) rfl))) (by decide) (t := (.array .int)) (t' := .int) (by decide) (by decide)))).other W154 (Or.inr (slot_ne (Or.inl (hw _ (List.mem_of_getElem? (i := 22) rfl))) (Or.inl (hw _ (List.mem_of_getElem? (i := 68) rfl))) (by decide) (t := (.array .int)) (t' := .int) (by decide) (by decide)))).other W158 (Or.inl ne166))
  have H174 := ((((((((((((H30.other W34 (Or.inl ne36)).other W41 (Or.inl ne44)).other W49 (Or.inl ne54)).other W59 (Or.inl ne63)).other W68 (Or.inl ne73)).other W78 (Or.inl ne85)).other W90 (Or.inl ne98)).other W138 (Or.inl ne139)).other W142 (Or.inl ne144)).other W150 (Or.inr (slot_ne (Or.inl (hw _ (List.mem_of_getElem? (i := 24) rfl))) (Or.inl (hw _ (List.mem_of_getElem? (i := 76) rfl))) (by decide) (t := (.array .int)) (t' := .int) (by decide) (by decide)))).other W154 (Or.inr (slot_ne (Or.inl (hw _ (List.mem_of_getElem? (i := 24) rfl))) (Or.inl (hw _ (List.mem_of_getElem? (i := 68) rfl))) (by decide) (t := (.array .int)) (t' := .int) (by decide) (by decide)))).other W158 (Or.inl ne166))
  have H175 := (((((((((((H37.other W41 (Or.inl ne44)).other W49 (Or.inl ne54)).other W59 (Or.inl ne63)).other W68 (Or.inl ne73)).other W78 (Or.inl ne85)).other W90 (Or.inl ne98)).other W138 (Or.inl ne139)).other W142 (Or.inl ne144)).other W150 (Or.inr (slot_ne (Or.inl (hw _ (List.mem_of_getElem? (i := 28) rfl))) (Or.inl (hw _ (List.mem_of_getElem? (i := 76) rfl))) (by decide) (t := (.array (.object "com/example/tracewarden/tracewarden/engine/Zone"))) (t' := .int) (by decide) (by decide)))).other W154 (Or.inr (slot_ne (Or.inl (hw _ (List.mem_of_getElem? (i := 28) rfl))) (Or.inl (hw _ (List.mem_of_getElem? (i := 68) rfl))) (by decide) (t := (.array (.object "com/example/tracewarden/tracewarden/engine/Zone"))) (t' := .int) (by decide) (by decide)))).other W158 (Or.inl ne166))
  have H176 := (((((((((H55.other W59 (Or.inl ne63)).other W68 (Or.inl ne73)).other W78 (Or.inl ne85)).other W90 (Or.inl ne98)).other W138 (Or.inl ne139)).other W142 (Or.inl ne144)).other W150 (Or.inr (slot_ne (Or.inl (hw _ (List.mem_of_getElem? (i := 30) rfl))) (Or.inl (hw _ (List.mem_of_getElem? (i := 76) rfl))) (by decide) (t := (.array .int)) (t' := .int) (by decide) (by decide)))).other W154 (Or.inr (slot_ne (Or.inl (hw _ (List.mem_of_getElem? (i := 30) rfl))) (Or.inl (hw _ (List.mem_of_getElem? (i := 68) rfl))) (by decide) (t := (.array .int)) (t' := .int) (by decide) (by decide)))).other W158 (Or.inl ne166))
  have H177 := ((((((((((H45.other W49 (Or.inl ne54)).other W59 (Or.inl ne63)).other W68 (Or.inl ne73)).other W78 (Or.inl ne85)).other W90 (Or.inl ne98)).other W138 (Or.inl ne139)).other W142 (Or.inl ne144)).other W150 (Or.inr (slot_ne (Or.inl (hw _ (List.mem_of_getElem? (i := 33) rfl))) (Or.inl (hw _ (List.mem_of_getElem? (i := 76) rfl))) (by decide) (t := (.array .boolean)) (t' := .int) (by decide) (by decide)))).other W154 (Or.inr (slot_ne (Or.inl (hw _ (List.mem_of_getElem? (i := 33) rfl))) (Or.inl (hw _ (List.mem_of_getElem? (i := 68) rfl))) (by decide) (t := (.array .boolean)) (t' := .int) (by decide) (by decide)))).other W158 (Or.inl ne166))
  have H178 := ((((((((H64.other W68 (Or.inl ne73)).other W78 (Or.inl ne85)).other W90 (Or.inl ne98)).other W138 (Or.inl ne139)).other W142 (Or.inl ne144)).other W150 (Or.inr (slot_ne (Or.inl (hw _ (List.mem_of_getElem? (i := 35) rfl))) (Or.inl (hw _ (List.mem_of_getElem? (i := 76) rfl))) (by decide) (t := (.array .int)) (t' := .int) (by decide) (by decide)))).other W154 (Or.inr (slot_ne (Or.inl (hw _ (List.mem_of_getElem? (i := 35) rfl))) (Or.inl (hw _ (List.mem_of_getElem? (i := 68) rfl))) (by decide) (t := (.array .int)) (t' := .int) (by decide) (by decide)))).other W158 (Or.inl ne166))
  have H179 := (((((((H74.other W78 (Or.inl ne85)).other W90 (Or.inl ne98)).other W138 (Or.inl ne139)).other W142 (Or.inl ne144)).other W150 (Or.inr (slot_ne (Or.inl (hw _ (List.mem_of_getElem? (i := 39) rfl))) (Or.inl (hw _ (List.mem_of_getElem? (i := 76) rfl))) (by decide) (t := (.array (.object "com/example/tracewarden/tracewarden/engine/SearchTuples$Event"))) (t' := .int) (by decide) (by decide)))).other W154 (Or.inr (slot_ne (Or.inl (hw _ (List.mem_of_getElem? (i := 39) rfl))) (Or.inl (hw _ (List.mem_of_getElem? (i := 68) rfl))) (by decide) (t := (.array (.object "com/example/tracewarden/tracewarden/engine/SearchTuples$Event"))) (t' := .int) (by decide) (by decide)))).other W158 (Or.inl ne166))
  have H180 := ((((((H86.other W90 (Or.inl ne98)).other W138 (Or.inl ne139)).other W142 (Or.inl ne144)).other W150 (Or.inr (slot_ne (Or.inl (hw _ (List.mem_of_getElem? (i := 41) rfl))) (Or.inl (hw _ (List.mem_of_getElem? (i := 76) rfl))) (by decide) (t := (.array .int)) (t' := .int) (by decide) (by decide)))).other W154 (Or.inr (slot_ne (Or.inl (hw _ (List.mem_of_getElem? (i := 41) rfl))) (Or.inl (hw _ (List.mem_of_getElem? (i := 68) rfl))) (by decide) (t := (.array .int)) (t' := .int) (by decide) (by decide)))).other W158 (Or.inl ne166))
  have H181 := (((((H112.other W138 (Or.inl ne139)).other W142 (Or.inl ne144)).other W150 (Or.inr (slot_ne (Or.inl (hw _ (List.mem_of_getElem? (i := 51) rfl))) (Or.inl (hw _ (List.mem_of_getElem? (i := 76) rfl))) (by decide) (t := (.array (.array .int))) (t' := .int) (by decide) (by decide)))).other W154 (Or.inr (slot_ne (Or.inl (hw _ (List.mem_of_getElem? (i := 51) rfl))) (Or.inl (hw _ (List.mem_of_getElem? (i := 68) rfl))) (by decide) (t := (.array (.array .int))) (t' := .int) (by decide) (by decide)))).other W158 (Or.inl ne166))
  have H182 := (((((H99.other W138 (Or.inl ne139)).other W142 (Or.inl ne144)).other W150 (Or.inr (slot_ne (Or.inl (hw _ (List.mem_of_getElem? (i := 53) rfl))) (Or.inl (hw _ (List.mem_of_getElem? (i := 76) rfl))) (by decide) (t := (.array .int)) (t' := .int) (by decide) (by decide)))).other W154 (Or.inr (slot_ne (Or.inl (hw _ (List.mem_of_getElem? (i := 53) rfl))) (Or.inl (hw _ (List.mem_of_getElem? (i := 68) rfl))) (by decide) (t := (.array .int)) (t' := .int) (by decide) (by decide)))).other W158 (Or.inl ne166))
  have H183 := ((((((((((((((F_taken.keep K2 (ninS (Nat.ne_of_lt lt1) nin0)).keep K28 (ninS (Nat.ne_of_lt (Nat.lt_trans lt1 lt2)) nin0)).other W34 (Or.inl ne36)).other W41 (Or.inl ne44)).other W49 (Or.inl ne54)).other W59 (Or.inl ne63)).other W68 (Or.inl ne73)).other W78 (Or.inl ne85)).other W90 (Or.inl ne98)).other W138 (Or.inl ne139)).other W142 (Or.inl ne144)).other W150 (Or.inr (slot_ne (Or.inl (hw _ (List.mem_of_getElem? (i := 55) rfl))) (Or.inl (hw _ (List.mem_of_getElem? (i := 76) rfl))) (by decide) (t := (.array .int)) (t' := .int) (by decide) (by decide)))).other W154 (Or.inr (slot_ne (Or.inl (hw _ (List.mem_of_getElem? (i := 55) rfl))) (Or.inl (hw _ (List.mem_of_getElem? (i := 68) rfl))) (by decide) (t := (.array .int)) (t' := .int) (by decide) (by decide)))).other W158 (Or.inl ne166))
  have H184 := ((((((((((((((F_budget.keep K2 (ninS (Nat.ne_of_lt lt1) nin0)).keep K28 (ninS (Nat.ne_of_lt (Nat.lt_trans lt1 lt2)) nin0)).other W34 (Or.inl ne36)).other W41 (Or.inl ne44)).other W49 (Or.inl ne54)).other W59 (Or.inl ne63)).other W68 (Or.inl ne73)).other W78 (Or.inl ne85)).other W90 (Or.inl ne98)).other W138 (Or.inl ne139)).other W142 (Or.inl ne144)).other W150 (Or.inr (slot_ne (Or.inr (hw _ (List.mem_of_getElem? (i := 45) rfl))) (Or.inl (hw _ (List.mem_of_getElem? (i := 76) rfl))) (by decide) (t := (.object "com/example/tracewarden/tracewarden/engine/SearchBudget")) (t' := .int) (by decide) (by decide)))).other W154 (Or.inr (slot_ne (Or.inr (hw _ (List.mem_of_getElem? (i := 45) rfl))) (Or.inl (hw _ (List.mem_of_getElem? (i := 68) rfl))) (by decide) (t := (.object "com/example/tracewarden/tracewarden/engine/SearchBudget")) (t' := .int) (by decide) (by decide)))).other W158 (Or.inl ne166))
  have H185 := (((((((((((((H19.keep K28 (ninS (Nat.ne_of_lt (Nat.lt_trans lt1 lt2)) nin0)).other W34 (Or.inl ne36)).other W41 (Or.inl ne44)).other W49 (Or.inl ne54)).other W59 (Or.inl ne63)).other W68 (Or.inl ne73)).other W78 (Or.inl ne85)).other W90 (Or.inl ne98)).other W138 (Or.inl ne139)).other W142 (Or.inl ne144)).other W150 (Or.inr (slot_ne (Or.inl (hw _ (List.mem_of_getElem? (i := 47) rfl))) (Or.inl (hw _ (List.mem_of_getElem? (i := 76) rfl))) (by decide) (t := .int) (t' := .int) (by decide) (by decide)))).other W154 (Or.inr (slot_ne (Or.inl (hw _ (List.mem_of_getElem? (i := 47) rfl))) (Or.inl (hw _ (List.mem_of_getElem? (i := 68) rfl))) (by decide) (t := .int) (t' := .int) (by decide) (by decide)))).other W158 (Or.inl ne166))
  have H186 := ((Fw150.other W154 (Or.inr (slot_ne (Or.inl (hw _ (List.mem_of_getElem? (i := 76) rfl))) (Or.inl (hw _ (List.mem_of_getElem? (i := 68) rfl))) (by decide) (t := .int) (t' := .int) (by decide) (by decide)))).other W158 (Or.inl ne166))
  have H187 := ((((((((((((((F_latestFirst.keep K2 (ninS (Nat.ne_of_lt lt1) nin0)).keep K28 (ninS (Nat.ne_of_lt (Nat.lt_trans lt1 lt2)) nin0)).other W34 (Or.inl ne36)).other W41 (Or.inl ne44)).other W49 (Or.inl ne54)).other W59 (Or.inl ne63)).other W68 (Or.inl ne73)).other W78 (Or.inl ne85)).other W90 (Or.inl ne98)).other W138 (Or.inl ne139)).other W142 (Or.inl ne144)).other W150 (Or.inr (slot_ne (Or.inl (hw _ (List.mem_of_getElem? (i := 62) rfl))) (Or.inl (hw _ (List.mem_of_getElem? (i := 76) rfl))) (by decide) (t := .boolean) (t' := .int) (by decide) (by decide)))).other W154 (Or.inr (slot_ne (Or.inl (hw _ (List.mem_of_getElem? (i := 62) rfl))) (Or.inl (hw _ (List.mem_of_getElem? (i := 68) rfl))) (by decide) (t := .boolean) (t' := .int) (by decide) (by decide)))).other W158 (Or.inl ne166))
  have H188 := (((((((((((V34.other W41 (Nat.ne_of_lt lt4)).other W49 ne52).other W59 (Nat.ne_of_lt (Nat.lt_trans lt4 lt5))).other W68 ne70).other W78 ne81).other W90 ne93).other W138 ne104).other W142 ne126).other W150 (Ne.symm ne36)).other W154 (Ne.symm ne36)).other W158 ne160)
  have H189 := ((((((((((((V28.other W34 (Nat.ne_of_lt lt3)).other W41 (Nat.ne_of_lt (Nat.lt_trans lt3 lt4))).other W49 ne51).other W59 ne61).other W68 ne69).other W78 ne80).other W90 ne92).other W138 ne103).other W142 ne125).other W150 (Ne.symm (Nat.ne_of_lt (Nat.lt_trans lt1 lt2)))).other W154 (Ne.symm (Nat.ne_of_lt (Nat.lt_trans lt1 lt2)))).other W158 ne159)
  have H190 := ((((((((V59.other W68 (Nat.ne_of_lt (Nat.lt_trans lt6 lt7))).other W78 ne83).other W90 ne96).other W138 ne107).other W142 ne129).other W150 (Ne.symm ne63)).other W154 (Ne.symm ne63)).other W158 ne163)
  have H191 := (((((((((V49.other W59 (Ne.symm (Nat.ne_of_lt lt6))).other W68 (Nat.ne_of_lt lt7)).other W78 (Nat.ne_of_lt (Nat.lt_trans lt7 lt8))).other W90 ne95).other W138 ne106).other W142 ne128).other W150 (Ne.symm ne54)).other W154 (Ne.symm ne54)).other W158 ne162)
  have H192 := ((((V138.other W142 (Ne.symm (Nat.ne_of_lt lt13))).other W150 (Ne.symm ne139)).other W154 (Ne.symm ne139)).other W158 (Ne.symm ne165))
  have H193 := (((V142.other W150 (Ne.symm ne144)).other W154 (Ne.symm ne144)).other W158 (Ne.symm (Nat.ne_of_lt (Nat.lt_trans lt11 lt12))))
  have H194 := ((((((((((V41.other W49 (Nat.ne_of_lt (Nat.lt_trans lt5 lt6))).other W59 (Nat.ne_of_lt lt5)).other W68 ne71).other W78 ne82).other W90 ne94).other W138 ne105).other W142 ne127).other W150 (Ne.symm ne44)).other W154 (Ne.symm ne44)).other W158 ne161)
  have H195 := (((((((V68.other W78 (Nat.ne_of_lt lt8)).other W90 (Nat.ne_of_lt (Nat.lt_trans lt8 lt9))).other W138 ne108).other W142 ne130).other W150 (Ne.symm ne73)).other W154 (Ne.symm ne73)).other W158 ne164)
  have H196 := ((((((V78.other W90 (Nat.ne_of_lt lt9)).other W138 ne109).other W142 ne131).other W150 (Ne.symm ne85)).other W154 (Ne.symm ne85)).other W158 (Nat.ne_of_lt (Nat.lt_trans lt9 lt10)))
  have H197 := (((((V90.other W138 ne110).other W142 ne132).other W150 (Ne.symm ne98)).other W154 (Ne.symm ne98)).other W158 (Nat.ne_of_lt lt10))
  refine Go.fin X171 (v := none) (fun _ => rfl) Bd.notSynchronized (fun _ hr => X171.returnOut hx Bd.returns (hb hby d9_477) hr) (fun U' hU hF => ⟨_, _, rfl, ?_, hF.1, hF.2.1, hF.2.2.mono (by decide) (by decide)⟩)
  rw [hU, e171]
  exact ⟨rfl, N158, (((((((((((((((Keep.refl h0 [a1, ab, yk, x_states, x_hashes, x_zones, x_sameStates, x_held, x_parents, x_events, x_ranks, x_slots, x_reached]).trans K2 (allS (Or.inl (List.mem_of_getElem? (i := 1) rfl)) all0)).trans K28 (allS (Or.inl (List.mem_of_getElem? (i := 3) rfl)) all0)).wr W34 (Or.inl (List.mem_of_getElem? (i := 4) rfl))).wr W41 (Or.inl (List.mem_of_getElem? (i := 5) rfl))).wr W49 (Or.inl (List.mem_of_getElem? (i := 7) rfl))).wr W59 (Or.inl (List.mem_of_getElem? (i := 6) rfl))).wr W68 (Or.inl (List.mem_of_getElem? (i := 8) rfl))).wr W78 (Or.inl (List.mem_of_getElem? (i := 9) rfl))).wr W90 (Or.inl (List.mem_of_getElem? (i := 10) rfl))).wr W138 (Or.inl (List.mem_of_getElem? (i := 12) rfl))).wr W142 (Or.inl (List.mem_of_getElem? (i := 2) rfl))).wr W150 (Or.inl (List.mem_of_getElem? (i := 0) rfl))).wr W154 (Or.inl (List.mem_of_getElem? (i := 0) rfl))).wr W158 (Or.inl (List.mem_of_getElem? (i := 11) rfl))), H172, H173, H174, H175, H176, H177, H178, H179, H180, H170, H181, H182, H183, H184, H185, H168, H186, H187, V158, H188, H189, H190, (H191.same fun j_ _ => own_upd0 _ j_), H192.toI, H193.toI, ⟨_, H194⟩, ⟨_, H195⟩, ⟨_, H196⟩, ⟨_, H197⟩⟩
theorem d20_0 : decode prog_86_method_17_code 0 = .ok (.aload_n 0, 1) := by decide +kernel
theorem d20_1 : decode prog_86_method_17_code 1 = .ok (.getfield 83, 3) := by decide +kernel
theorem d20_4 : decode prog_86_method_17_code 4 = .ok (.aload_n 0, 1) := by decide +kernel
theorem d20_5 : decode prog_86_method_17_code 5 = .ok (.getfield 57, 3) := by decide +kernel
theorem d20_8 : decode prog_86_method_17_code 8 = .ok (.arraylength, 1) := by decide +kernel
theorem d20_9 : decode prog_86_method_17_code 9 = .ok (.if_icmp .ge 110, 3) := by decide +kernel
theorem d20_12 : decode prog_86_method_17_code 12 = .ok (.aload_n 0, 1) := by decide +kernel
theorem d20_13 : decode prog_86_method_17_code 13 = .ok (.getfield 60, 3) := by decide +kernel
theorem d20_16 : decode prog_86_method_17_code 16 = .ok (.aload_n 0, 1) := by decide +kernel
theorem d20_17 : decode prog_86_method_17_code 17 = .ok (.getfield 83, 3) := by decide +kernel
theorem d20_20 : decode prog_86_method_17_code 20 = .ok (.iaload, 1) := by decide +kernel
theorem d20_21 : decode prog_86_method_17_code 21 = .ok (.aload_n 0, 1) := by decide +kernel
theorem d20_22 : decode prog_86_method_17_code 22 = .ok (.getfield 57, 3) := by decide +kernel
theorem d20_25 : decode prog_86_method_17_code 25 = .ok (.aload_n 0, 1) := by decide +kernel
theorem d20_26 : decode prog_86_method_17_code 26 = .ok (.getfield 83, 3) := by decide +kernel
theorem d20_29 : decode prog_86_method_17_code 29 = .ok (.iaload, 1) := by decide +kernel
theorem d20_30 : decode prog_86_method_17_code 30 = .ok (.if_icmp .ne 16, 3) := by decide +kernel
theorem d20_33 : decode prog_86_method_17_code 33 = .ok (.aload_n 0, 1) := by decide +kernel
theorem d20_34 : decode prog_86_method_17_code 34 = .ok (.dup, 1) := by decide +kernel
theorem d20_35 : decode prog_86_method_17_code 35 = .ok (.getfield 83, 3) := by decide +kernel
theorem d20_38 : decode prog_86_method_17_code 38 = .ok (.iconst 1, 1) := by decide +kernel
theorem d20_39 : decode prog_86_method_17_code 39 = .ok (.iadd, 1) := by decide +kernel
theorem d20_40 : decode prog_86_method_17_code 40 = .ok (.putfield 83, 3) := by decide +kernel
theorem d20_43 : decode prog_86_method_17_code 43 = .ok (.goto (-43), 3) := by decide +kernel
theorem d20_46 : decode prog_86_method_17_code 46 = .ok (.aload_n 0, 1) := by decide +kernel
theorem d20_47 : decode prog_86_method_17_code 47 = .ok (.getfield 63, 3) := by decide +kernel
theorem d20_50 : decode prog_86_method_17_code 50 = .ok (.ifCond .eq 30, 3) := by decide +kernel
theorem d20_53 : decode prog_86_method_17_code 53 = .ok (.aload_n 0, 1) := by decide +kernel
theorem d20_54 : decode prog_86_method_17_code 54 = .ok (.getfield 54, 3) := by decide +kernel
theorem d20_57 : decode prog_86_method_17_code 57 = .ok (.aload_n 0, 1) := by decide +kernel
theorem d20_58 : decode prog_86_method_17_code 58 = .ok (.getfield 83, 3) := by decide +kernel
theorem d20_61 : decode prog_86_method_17_code 61 = .ok (.aaload, 1) := by decide +kernel
theorem d20_62 : decode prog_86_method_17_code 62 = .ok (.aload_n 0, 1) := by decide +kernel
theorem d20_63 : decode prog_86_method_17_code 63 = .ok (.getfield 57, 3) := by decide +kernel
theorem d20_66 : decode prog_86_method_17_code 66 = .ok (.aload_n 0, 1) := by decide +kernel
theorem d20_67 : decode prog_86_method_17_code 67 = .ok (.getfield 83, 3) := by decide +kernel
theorem d20_70 : decode prog_86_method_17_code 70 = .ok (.dup2, 1) := by decide +kernel
theorem d20_71 : decode prog_86_method_17_code 71 = .ok (.iaload, 1) := by decide +kernel
theorem d20_72 : decode prog_86_method_17_code 72 = .ok (.iconst 1, 1) := by decide +kernel
theorem d20_73 : decode prog_86_method_17_code 73 = .ok (.isub, 1) := by decide +kernel
theorem d20_74 : decode prog_86_method_17_code 74 = .ok (.dup_x2, 1) := by decide +kernel
theorem d20_75 : decode prog_86_method_17_code 75 = .ok (.iastore, 1) := by decide +kernel
theorem d20_76 : decode prog_86_method_17_code 76 = .ok (.iaload, 1) := by decide +kernel
theorem d20_77 : decode prog_86_method_17_code 77 = .ok (.goto 27, 3) := by decide +kernel
theorem d20_80 : decode prog_86_method_17_code 80 = .ok (.aload_n 0, 1) := by decide +kernel
theorem d20_81 : decode prog_86_method_17_code 81 = .ok (.getfield 54, 3) := by decide +kernel
theorem d20_84 : decode prog_86_method_17_code 84 = .ok (.aload_n 0, 1) := by decide +kernel
theorem d20_85 : decode prog_86_method_17_code 85 = .ok (.getfield 83, 3) := by decide +kernel
theorem d20_88 : decode prog_86_method_17_code 88 = .ok (.aaload, 1) := by decide +kernel
theorem d20_89 : decode prog_86_method_17_code 89 = .ok (.aload_n 0, 1) := by decide +kernel
theorem d20_90 : decode prog_86_method_17_code 90 = .ok (.getfield 60, 3) := by decide +kernel
theorem d20_93 : decode prog_86_method_17_code 93 = .ok (.aload_n 0, 1) := by decide +kernel
theorem d20_94 : decode prog_86_method_17_code 94 = .ok (.getfield 83, 3) := by decide +kernel
theorem d20_97 : decode prog_86_method_17_code 97 = .ok (.dup2, 1) := by decide +kernel
theorem d20_98 : decode prog_86_method_17_code 98 = .ok (.iaload, 1) := by decide +kernel
theorem d20_99 : decode prog_86_method_17_code 99 = .ok (.dup_x2, 1) := by decide +kernel
theorem d20_100 : decode prog_86_method_17_code 100 = .ok (.iconst 1, 1) := by decide +kernel
theorem d20_101 : decode prog_86_method_17_code 101 = .ok (.iadd, 1) := by decide +kernel
theorem d20_102 : decode prog_86_method_17_code 102 = .ok (.iastore, 1) := by decide +kernel
theorem d20_103 : decode prog_86_method_17_code 103 = .ok (.iaload, 1) := by decide +kernel
theorem d20_104 : decode prog_86_method_17_code 104 = .ok (.istore_n 1, 1) := by decide +kernel
theorem d20_105 : decode prog_86_method_17_code 105 = .ok (.aload_n 0, 1) := by decide +kernel
theorem d20_106 : decode prog_86_method_17_code 106 = .ok (.getfield 25, 3) := by decide +kernel
theorem d20_109 : decode prog_86_method_17_code 109 = .ok (.iload_n 1, 1) := by decide +kernel
theorem d20_110 : decode prog_86_method_17_code 110 = .ok (.baload, 1) := by decide +kernel
theorem d20_111 : decode prog_86_method_17_code 111 = .ok (.ifCond .ne 5, 3) := by decide +kernel
theorem d20_114 : decode prog_86_method_17_code 114 = .ok (.iload_n 1, 1) := by decide +kernel
theorem d20_115 : decode prog_86_method_17_code 115 = .ok (.ireturn, 1) := by decide +kernel
theorem d20_116 : decode prog_86_method_17_code 116 = .ok (.goto (-116), 3) := by decide +kernel
theorem d20_119 : decode prog_86_method_17_code 119 = .ok (.iconst (-1), 1) := by decide +kernel
theorem d20_120 : decode prog_86_method_17_code 120 = .ok (.ireturn, 1) := by decide +kernel
theorem ef_rm20 (m : MethodId) (a1 : Addr) : entryFrame m #[(.ref a1)] 2 = mkF m 0 #[.val (.ref a1), .unset] [] := by first | (simp [entryFrame, mkF, argsToLocals, Value.category]; done) | rfl
def Q_rm20 (Z : State) (a1 : Addr) (x_held : Addr) (x_ranked : Addr) (x_reached : Addr) (x_taken : Addr) (k_held : ClassId) (k_ranked : ClassId) (k_reached : ClassId) (k_taken : ClassId) (k_rk : ClassId) (Wf : Nat → Nat → Int32) (Hf : Nat → Int32) (lf : Int32) (nf : Nat) (lo0 : Int32) (Rf0 : Nat → Int32) (Tf0 : Nat → Int32) (r_ : Int32) (lo2 : Int32) (R2_ : Nat → Int32) (T2_ : Nat → Int32) (h0 : Heap) (n0 : Nat) (v : Option Value) (h : Heap) (L : List Loc) : Prop := v = some (.int r_) ∧ Fr n0 L ∧ Keep h0 h [a1, x_reached, x_taken] ∧ Fld Z h a1 "com/example/tracewarden/tracewarden/engine/SearchTuples" "lowest" "I" (.int lo2) ∧ Fld Z h a1 "com/example/tracewarden/tracewarden/engine/SearchTuples" "held" "[Z" (.ref x_held) ∧ Fld Z h a1 "com/example/tracewarden/tracewarden/engine/SearchTuples" "ranked" "[[I" (.ref x_ranked) ∧ Fld Z h a1 "com/example/tracewarden/tracewarden/engine/SearchTuples" "reached" "[I" (.ref x_reached) ∧ Fld Z h a1 "com/example/tracewarden/tracewarden/engine/SearchTuples" "taken" "[I" (.ref x_taken) ∧ Fld Z h a1 "com/example/tracewarden/tracewarden/engine/SearchTuples" "latestFirst" "Z" (.int lf) ∧ Arf Z h x_reached k_reached .int (3 : Int32) (fun i => .int (R2_ i)) ∧ Arf Z h x_taken k_taken .int (3 : Int32) (fun i => .int (T2_ i))
set_option maxRecDepth 65536 in
set_option maxHeartbeats 40000000 in
theorem rm20 (l : Launch) (Z : State) (a0 : Array Value) (hw : ∀ d ∈ tables_1, d.before a0 Z = true) (ws : List Jvm.Cond) (a1 : Addr) (x_held : Addr) (x_ranked : Addr) (x_reached : Addr) (x_taken : Addr) (k_held : ClassId) (k_ranked : ClassId) (k_reached : ClassId) (k_taken : ClassId) (k_rk : ClassId) (Wf : Nat → Nat → Int32) (Hf : Nat → Int32) (lf : Int32) (nf : Nat) (lo0 : Int32) (Rf0 : Nat → Int32) (Tf0 : Nat → Int32) (r_ : Int32) (lo2 : Int32) (R2_ : Nat → Int32) (T2_ : Nat → Int32) (h0 : Heap) (n0 : Nat) (Z0 : n0 ≤ h0.size) (hp0 : pollF Wf Hf lf nf lo0 Rf0 Tf0 = some (r_, lo2, R2_, T2_)) (E_a1 : Exa Z h0 a1 "com/example/tracewarden/tracewarden/engine/SearchTuples") (g_a1 : n0 ≤ a1) (lt0 : a1 < x_held) (lt1 : x_held < x_ranked) (lt2 : x_ranked < x_reached) (lt3 : x_reached < x_taken) (lt3r : x_ranked + 3 < x_reached) (V_held : Arf Z h0 x_held k_held .boolean (16 : Int32) (fun j => .int (Hf j))) (V_ranked : Arf Z h0 x_ranked k_ranked (.array .int) (3 : Int32) (fun i => .ref (x_ranked + 1 + i))) (V_reached : Arf Z h0 x_reached k_reached .int (3 : Int32) (fun i => .int (Rf0 i))) (V_taken : Arf Z h0 x_taken k_taken .int (3 : Int32) (fun i => .int (Tf0 i))) (Hrows : ∀ i, i < 3 → Arf Z h0 (x_ranked + 1 + i) k_rk .int (8 : Int32) (fun j => .int (Wf i j))) (F_lowest : Fld Z h0 a1 "com/example/tracewarden/tracewarden/engine/SearchTuples" "lowest" "I" (.int lo0)) (F_held : Fld Z h0 a1 "com/example/tracewarden/tracewarden/engine/SearchTuples" "held" "[Z" (.ref x_held)) (F_ranked : Fld Z h0 a1 "com/example/tracewarden/tracewarden/engine/SearchTuples" "ranked" "[[I" (.ref x_ranked)) (F_reached : Fld Z h0 a1 "com/example/tracewarden/tracewarden/engine/SearchTuples" "reached" "[I" (.ref x_reached)) (F_taken : Fld Z h0 a1 "com/example/tracewarden/tracewarden/engine/SearchTuples" "taken" "[I" (.ref x_taken)) (F_latestFirst : Fld Z h0 a1 "com/example/tracewarden/tracewarden/engine/SearchTuples" "latestFirst" "Z" (.int lf)) :
    MetFree l (⟨"com/example/tracewarden/tracewarden/engine/SearchTuples", "poll", "()I"⟩ : MethodName) (head1 (Jvm.Cond.code (⟨"com/example/tracewarden/tracewarden/engine/SearchTuples", "poll", "()I"⟩ : MethodName) prog_86_method_17_code 2 (some .int) :: ws) ({ frames := 0, cells := 0, slots := 0, locals := 0 } : Room)) (fun a U => a = #[(.ref a1)] ∧ Z.Warmed39 U.vm ∧ U.heap = h0) (fun _ _ _ _ _ => True) (fun _ U o U' => ∃ v L, o = .returned v ∧ Q_rm20 Z a1 x_held x_ranked x_reached x_taken k_held k_ranked k_reached k_taken k_rk Wf Hf lf nf lo0 Rf0 Tf0 r_ lo2 R2_ T2_ h0 n0 v U'.heap L ∧ FrameEnd U o U' L ({ frames := 0, cells := 0, slots := 0, locals := 0 } : Room).cells ({ frames := 0, cells := 0, slots := 0, locals := 0 } : Room).slots) := by
  refine MetFree.of_bodySF (plainFor_of_name pn_81) hisR ?_
  intro p e s m args below meth c s₁ Bd hml0 hP hK
  obtain ⟨rfl, hZ, hh⟩ := hP
  have hx := Bd.exec
  have hby := Bd.bytes
  have hml : c.maxLocals = 2 := hml0
  have hown : s.vm.findClass "com/example/tracewarden/tracewarden/engine/SearchTuples" = some m.cls := findClass_of_methodNamed Bd.named
  have hnm := (name_of_methodNamed Bd.named Bd.method).1
  have X0 : Stand p l e ({ frames := 0, cells := 0, slots := 0, locals := 0 } : Room) s m #[(.ref a1)] below meth c s₁ [] 0 0 := Stand.of_body Bd
  have e0 : s₁.heap = h0 := by rw [← hh, Bd.state]; rfl
  have N0 := Fr.nil n0
  show Go p e below (s₁.setTop (entryFrame m #[(.ref a1)] 2)) (fun o U' => ∃ v L, o = .returned v ∧ Q_rm20 Z a1 x_held x_ranked x_reached x_taken k_held k_ranked k_reached k_taken k_rk Wf Hf lf nf lo0 Rf0 Tf0 r_ lo2 R2_ T2_ h0 n0 v U'.heap L ∧ FrameEnd s o U' L ({ frames := 0, cells := 0, slots := 0, locals := 0 } : Room).cells ({ frames := 0, cells := 0, slots := 0, locals := 0 } : Room).slots)
  rw [ef_rm20]
  have loop : ∀ (n : Nat) (lo : Int32) (Rf Tf : Nat → Int32), pollF Wf Hf lf n lo Rf Tf = some (r_, lo2, R2_, T2_) → ∀ (Tl : State) (hl : Heap) (Ll : List Loc) (sl : Slot), (sl = .unset ∨ ∃ t : Int32, sl = .val (.int t)) → Stand p l e ({ frames := 0, cells := 0, slots := 0, locals := 0 } : Room) s m #[(.ref a1)] below meth c Tl Ll 0 0 → Tl.heap = hl → Keep h0 hl [a1, x_reached, x_taken] → Fr n0 Ll → Fld Z hl a1 "com/example/tracewarden/tracewarden/engine/SearchTuples" "lowest" "I" (.int lo) → Fld Z hl a1 "com/example/tracewarden/tracewarden/engine/SearchTuples" "held" "[Z" (.ref x_held) → Fld Z hl a1 "com/example/tracewarden/tracewarden/engine/SearchTuples" "ranked" "[[I" (.ref x_ranked) → Fld Z hl a1 "com/example/tracewarden/tracewarden/engine/SearchTuples" "reached" "[I" (.ref x_reached) → Fld Z hl a1 "com/example/tracewarden/tracewarden/engine/SearchTuples" "taken" "[I" (.ref x_taken) → Fld Z hl a1 "com/example/tracewarden/tracewarden/engine/SearchTuples" "latestFirst" "Z" (.int lf) → Arf Z hl x_reached k_reached .int (3 : Int32) (fun i => .int (Rf i)) → Arf Z hl x_taken k_taken .int (3 : Int32) (fun i => .int (Tf i)) → Go p e below (Tl.setTop (mkF m 0 #[.val (.ref a1), sl] [])) (fun o U' => ∃ v L, o = .returned v ∧ Q_rm20 Z a1 x_held x_ranked x_reached x_taken k_held k_ranked k_reached k_taken k_rk Wf Hf lf nf lo0 Rf0 Tf0 r_ lo2 R2_ T2_ h0 n0 v U'.heap L ∧ FrameEnd s o U' L ({ frames := 0, cells := 0, slots := 0, locals := 0 } : Room).cells ({ frames := 0, cells := 0, slots := 0, locals := 0 } : Room).slots) := by
    intro n
    induction n with
    | zero => intro lo Rf Tf hp; rw [pollF] at hp; cases hp
    | succ n ih =>
      intro lo Rf Tf hp Tl hl Ll sl hsl Xl el Kl Nl Fl_lowest Fl_held Fl_ranked Fl_reached Fl_taken Fl_latestFirst Vl_reached Vl_taken
      rw [pollF] at hp
      refine Gk.aloadN Xl hx (hb hby d20_0) rfl rfl ?_
      refine Gk.getF Xl hx hZ hown (host := "") (Or.inl (hw _ (List.mem_of_getElem? (i := 75) rfl))) Via.refl el Fl_lowest (hb hby d20_1) ?_
      intro T1 X1 e1
      refine Gk.aloadN X1 hx (hb hby d20_4) rfl rfl ?_
      refine Gk.getF X1 hx hZ hown (host := "") (Or.inl (hw _ (List.mem_of_getElem? (i := 52) rfl))) Via.refl e1 Fl_reached (hb hby d20_5) ?_
      intro T2 X2 e2
      refine Gk.alen X2 hx hZ e2 Vl_reached (hb hby d20_8) ?_
      by_cases hc9 : lo < (3 : Int32)
      · refine Gk.icmpNo X2 hx (hb hby d20_9) (tlt hc9).2.1 ?_
        rw [if_pos hc9] at hp
        obtain ⟨hn_, hp⟩ := own_ifN hp
        have hl3 := own_cl3 ⟨hn_, hc9⟩
        obtain ⟨yk, eyk⟩ : ∃ y_, y_ = x_ranked + 1 + lo.toNatClampNeg := ⟨_, rfl⟩
        have Vk := Hrows lo.toNatClampNeg hl3
        rw [← eyk] at Vk
        have y1 : x_ranked < yk := by rw [eyk]; exact own_y1 _ _
        have y2 : yk < x_reached := by rw [eyk]; exact own_y2 lt3r hl3
        refine Gk.aloadN X2 hx (hb hby d20_12) rfl rfl ?_
        refine Gk.getF X2 hx hZ hown (host := "") (Or.inl (hw _ (List.mem_of_getElem? (i := 54) rfl))) Via.refl e2 Fl_taken (hb hby d20_13) ?_
        intro T3 X3 e3
        refine Gk.aloadN X3 hx (hb hby d20_16) rfl rfl ?_
        refine Gk.getF X3 hx hZ hown (host := "") (Or.inl (hw _ (List.mem_of_getElem? (i := 75) rfl))) Via.refl e3 Fl_lowest (hb hby d20_17) ?_
        intro T4 X4 e4
        refine Gk.iaload X4 hx hZ e4 Vl_taken ⟨hn_, hc9⟩ (.int (Tf lo.toNatClampNeg)) rfl (hb hby d20_20) ?_
        refine Gk.aloadN X4 hx (hb hby d20_21) rfl rfl ?_
        refine Gk.getF X4 hx hZ hown (host := "") (Or.inl (hw _ (List.mem_of_getElem? (i := 52) rfl))) Via.refl e4 Fl_reached (hb hby d20_22) ?_
        intro T6 X6 e6
        refine Gk.aloadN X6 hx (hb hby d20_25) rfl rfl ?_
        refine Gk.getF X6 hx hZ hown (host := "") (Or.inl (hw _ (List.mem_of_getElem? (i := 75) rfl))) Via.refl e6 Fl_lowest (hb hby d20_26) ?_
        intro T7 X7 e7
        refine Gk.iaload X7 hx hZ e7 Vl_reached ⟨hn_, hc9⟩ (.int (Rf lo.toNatClampNeg)) rfl (hb hby d20_29) ?_
        by_cases hc30 : (Tf lo.toNatClampNeg) = (Rf lo.toNatClampNeg)
        · refine Gk.icmpNo X7 hx (hb hby d20_30) (teq hc30).2 ?_
          rw [if_pos hc30] at hp
          refine Gk.aloadN X7 hx (hb hby d20_33) rfl rfl ?_
          refine Gk.dup X7 hx (hb hby d20_34) rfl ?_
          refine Gk.getF X7 hx hZ hown (host := "") (Or.inl (hw _ (List.mem_of_getElem? (i := 75) rfl))) Via.refl e7 Fl_lowest (hb hby d20_35) ?_
          intro T9 X9 e9
          refine Gk.iconst X9 hx (hb hby d20_38) (1 : Int32) rfl ?_
          refine Gk.iadd X9 hx (hb hby d20_39) _ rfl ?_
          have H10 := (E_a1.keep Kl)
          refine Gk.putF X9 hx hZ hown (host := "") (Or.inl (hw _ (List.mem_of_getElem? (i := 75) rfl))) Via.refl e9 Fl_lowest H10 (Or.inl (hw _ (List.mem_of_getElem? (i := 76) rfl))) (hw _ (List.mem_of_getElem? (i := 3) rfl)) (ty := .int) (by decide) rfl rfl (hb hby d20_40) ?_
          intro T11 h11 X11 e11 W11
          have Fw11 := Fl_lowest.same W11
          have N11 := Fr.snoc X11 Nl g_a1
          refine Gk.goto X11 hx (hb hby d20_43) 0 (by decide) (by decide) ?_
          have ne12 : a1 ≠ x_taken := (Nat.ne_of_lt (Nat.lt_trans lt0 (Nat.lt_trans lt1 (Nat.lt_trans lt2 lt3))))
          have H13 := (Vl_taken.other W11 (Ne.symm ne12))
          have ne14 : a1 ≠ x_reached := (Nat.ne_of_lt (Nat.lt_trans lt0 (Nat.lt_trans lt1 lt2)))
          have H15 := (Vl_reached.other W11 (Ne.symm ne14))
          have H16 := (Fl_held.other W11 (Or.inr (slot_ne (Or.inl (hw _ (List.mem_of_getElem? (i := 33) rfl))) (Or.inl (hw _ (List.mem_of_getElem? (i := 76) rfl))) (by decide) (t := (.array .boolean)) (t' := .int) (by decide) (by decide))))
          have H17 := (Fl_ranked.other W11 (Or.inr (slot_ne (Or.inl (hw _ (List.mem_of_getElem? (i := 51) rfl))) (Or.inl (hw _ (List.mem_of_getElem? (i := 76) rfl))) (by decide) (t := (.array (.array .int))) (t' := .int) (by decide) (by decide))))
          have H18 := (Fl_reached.other W11 (Or.inr (slot_ne (Or.inl (hw _ (List.mem_of_getElem? (i := 53) rfl))) (Or.inl (hw _ (List.mem_of_getElem? (i := 76) rfl))) (by decide) (t := (.array .int)) (t' := .int) (by decide) (by decide))))
          have H19 := (Fl_taken.other W11 (Or.inr (slot_ne (Or.inl (hw _ (List.mem_of_getElem? (i := 55) rfl))) (Or.inl (hw _ (List.mem_of_getElem? (i := 76) rfl))) (by decide) (t := (.array .int)) (t' := .int) (by decide) (by decide))))
          have H20 := (Fl_latestFirst.other W11 (Or.inr (slot_ne (Or.inl (hw _ (List.mem_of_getElem? (i := 62) rfl))) (Or.inl (hw _ (List.mem_of_getElem? (i := 76) rfl))) (by decide) (t := .boolean) (t' := .int) (by decide) (by decide))))
          exact ih _ _ _ hp _ _ _ _ hsl X11 e11 (((Keep.refl h0 [a1, x_reached, x_taken]).trans Kl (allS (Or.inl (List.mem_of_getElem? (i := 0) rfl)) (allS (Or.inl (List.mem_of_getElem? (i := 1) rfl)) (allS (Or.inl (List.mem_of_getElem? (i := 2) rfl)) all0)))).wr W11 (Or.inl (List.mem_of_getElem? (i := 0) rfl))) N11 Fw11 H16 H17 H18 H19 H20 H15 H13
        · refine Gk.icmpYes X7 hx (hb hby d20_30) (feq hc30).2 46 (by decide) (by decide) ?_
          rw [if_neg hc30] at hp
          refine Gk.aloadN X7 hx (hb hby d20_46) rfl rfl ?_
          refine Gk.getF X7 hx hZ hown (host := "") (Or.inl (hw _ (List.mem_of_getElem? (i := 61) rfl))) Via.refl e7 Fl_latestFirst (hb hby d20_47) ?_
          intro T21 X21 e21
          by_cases hc50 : lf = (0 : Int32)
          · refine Gk.ifYes X21 hx (hb hby d20_50) (teq hc50).1 80 (by decide) (by decide) ?_
            rw [if_pos hc50] at hp
            obtain ⟨ht0, hp⟩ := own_ifN hp
            obtain ⟨ht8, hp⟩ := own_ifS hp
            obtain ⟨hu0, hp⟩ := own_ifN hp
            obtain ⟨hu16, hp⟩ := own_ifS hp
            refine Gk.aloadN X21 hx (hb hby d20_80) rfl rfl ?_
            refine Gk.getF X21 hx hZ hown (host := "") (Or.inl (hw _ (List.mem_of_getElem? (i := 50) rfl))) Via.refl e21 Fl_ranked (hb hby d20_81) ?_
            intro T22 X22 e22
            refine Gk.aloadN X22 hx (hb hby d20_84) rfl rfl ?_
            refine Gk.getF X22 hx hZ hown (host := "") (Or.inl (hw _ (List.mem_of_getElem? (i := 75) rfl))) Via.refl e22 Fl_lowest (hb hby d20_85) ?_
            intro T23 X23 e23
            have ni25 : x_ranked ∉ [a1, x_reached, x_taken] := (ninS (Ne.symm (Nat.ne_of_lt (Nat.lt_trans lt0 lt1))) (ninS (Nat.ne_of_lt lt2) (ninS (Nat.ne_of_lt (Nat.lt_trans lt2 lt3)) nin0)))
            have H26 := (V_ranked.keep Kl ni25)
            refine Gk.aaload X23 hx hZ e23 H26 rfl ⟨hn_, hc9⟩ (.ref yk) (congrArg Value.ref eyk.symm) (hb hby d20_88) ?_
            refine Gk.aloadN X23 hx (hb hby d20_89) rfl rfl ?_
            refine Gk.getF X23 hx hZ hown (host := "") (Or.inl (hw _ (List.mem_of_getElem? (i := 54) rfl))) Via.refl e23 Fl_taken (hb hby d20_90) ?_
            intro T27 X27 e27
            refine Gk.aloadN X27 hx (hb hby d20_93) rfl rfl ?_
            refine Gk.getF X27 hx hZ hown (host := "") (Or.inl (hw _ (List.mem_of_getElem? (i := 75) rfl))) Via.refl e27 Fl_lowest (hb hby d20_94) ?_
            intro T28 X28 e28
            refine Gk.dup2 X28 hx (hb hby d20_97) rfl rfl ?_
            refine Gk.iaload X28 hx hZ e28 Vl_taken ⟨hn_, hc9⟩ (.int (Tf lo.toNatClampNeg)) rfl (hb hby d20_98) ?_
            refine Gk.dupX2 X28 hx (hb hby d20_99) rfl rfl rfl ?_
            refine Gk.iconst X28 hx (hb hby d20_100) (1 : Int32) rfl ?_
            refine Gk.iadd X28 hx (hb hby d20_101) _ rfl ?_
            refine Gk.iastore X28 hx hZ e28 Vl_taken lo.toNatClampNeg rfl ⟨hn_, hc9⟩ (.int ((Tf lo.toNatClampNeg) + (1 : Int32))) rfl (hb hby d20_102) ?_
            intro T30 h30 X30 e30 W30 V30
            have N30 := Fr.snoc X30 Nl (Nat.le_trans g_a1 (Nat.le_of_lt (Nat.lt_trans lt0 (Nat.lt_trans lt1 (Nat.lt_trans lt2 lt3)))))
            have ne32 : a1 ≠ yk := (Nat.ne_of_lt (Nat.lt_trans (Nat.lt_trans lt0 lt1) y1))
            have ni33 : yk ∉ [a1, x_reached, x_taken] := (ninS (Ne.symm ne32) (ninS (Nat.ne_of_lt y2) (ninS (Nat.ne_of_lt (Nat.lt_trans y2 lt3)) nin0)))
            have H34 := ((Vk.keep Kl ni33).other W30 (Nat.ne_of_lt (Nat.lt_trans y2 lt3)))
            refine Gk.iaload X30 hx hZ e30 H34 ⟨ht0, ht8⟩ (.int (Wf lo.toNatClampNeg (Tf lo.toNatClampNeg).toNatClampNeg)) rfl (hb hby d20_103) ?_
            refine Gk.istoreN X30 hx (hb hby d20_104) #[.val (.ref a1), .val (.int (Wf lo.toNatClampNeg (Tf lo.toNatClampNeg).toNatClampNeg))] (own_sl hsl) ?_
            refine Gk.aloadN X30 hx (hb hby d20_105) rfl rfl ?_
            have ne35 : a1 ≠ x_taken := (Nat.ne_of_lt (Nat.lt_trans lt0 (Nat.lt_trans lt1 (Nat.lt_trans lt2 lt3))))
            have H36 := (Fl_held.other W30 (Or.inl ne35))
            refine Gk.getF X30 hx hZ hown (host := "") (Or.inl (hw _ (List.mem_of_getElem? (i := 32) rfl))) Via.refl e30 H36 (hb hby d20_106) ?_
            intro T37 X37 e37
            refine Gk.iloadN X37 hx (hb hby d20_109) rfl ?_
            have ne39 : x_held ≠ x_taken := (Nat.ne_of_lt (Nat.lt_trans lt1 (Nat.lt_trans lt2 lt3)))
            have ni40 : x_held ∉ [a1, x_reached, x_taken] := (ninS (Ne.symm (Nat.ne_of_lt lt0)) (ninS (Nat.ne_of_lt (Nat.lt_trans lt1 lt2)) (ninS ne39 nin0)))
            have H41 := ((V_held.keep Kl ni40).other W30 ne39)
            refine Gk.baloadZ X37 hx hZ e37 H41 ⟨hu0, hu16⟩ (.int (Hf (Wf lo.toNatClampNeg (Tf lo.toNatClampNeg).toNatClampNeg).toNatClampNeg)) rfl (hb hby d20_110) ?_
            by_cases hc111 : (Hf (Wf lo.toNatClampNeg (Tf lo.toNatClampNeg).toNatClampNeg).toNatClampNeg) = (0 : Int32)
            · refine Gk.ifNo X37 hx (hb hby d20_111) (teq hc111).2 ?_
              rw [if_pos hc111] at hp
              obtain ⟨e1_, e2_, e3_, e4_⟩ := own_some4 hp
              refine Gk.iloadN X37 hx (hb hby d20_114) rfl ?_
              have H42 := (Vl_reached.other W30 (Nat.ne_of_lt lt3))
              have H43 := (Fl_lowest.other W30 (Or.inl ne35))
              have H44 := (Fl_ranked.other W30 (Or.inl ne35))
              have H45 := (Fl_reached.other W30 (Or.inl ne35))
              have H46 := (Fl_taken.other W30 (Or.inl ne35))
              have H47 := (Fl_latestFirst.other W30 (Or.inl ne35))
              refine Go.fin X37 (v := some (.int (Wf lo.toNatClampNeg (Tf lo.toNatClampNeg).toNatClampNeg))) (fun h_ => by rw [Bd.returns] at h_; cases h_) Bd.notSynchronized (fun _ hr => retOut X37 hx Bd.returns rfl (Or.inl ⟨rfl, Or.inl rfl, _, rfl⟩) (hb hby d20_115) hr) (fun U' hU hF => ⟨_, _, rfl, ?_, hF.1, hF.2.1, hF.2.2.mono (by decide) (by decide)⟩)
              rw [hU, e37]
              exact ⟨(congrArg (fun z_ : Int32 => some (Value.int z_)) (show (Wf lo.toNatClampNeg (Tf lo.toNatClampNeg).toNatClampNeg) = r_ from e1_.symm)), N30, (((Keep.refl h0 [a1, x_reached, x_taken]).trans Kl (allS (Or.inl (List.mem_of_getElem? (i := 0) rfl)) (allS (Or.inl (List.mem_of_getElem? (i := 1) rfl)) (allS (Or.inl (List.mem_of_getElem? (i := 2) rfl)) all0)))).wr W30 (Or.inl (List.mem_of_getElem? (i := 2) rfl))), (by rw [e2_]; exact H43), H36, H44, H45, H46, H47, (by rw [e3_]; exact H42), (by rw [e4_]; exact V30.toI)⟩
            · refine Gk.ifYes X37 hx (hb hby d20_111) (feq hc111).2 116 (by decide) (by decide) ?_
              rw [if_neg hc111] at hp
              refine Gk.goto X37 hx (hb hby d20_116) 0 (by decide) (by decide) ?_
              have H48 := (Vl_reached.other W30 (Nat.ne_of_lt lt3))
              have H49 := (Fl_lowest.other W30 (Or.inl ne35))
              have H50 := (Fl_ranked.other W30 (Or.inl ne35))
              have H51 := (Fl_reached.other W30 (Or.inl ne35))
              have H52 := (Fl_taken.other W30 (Or.inl ne35))
              have H53 := (Fl_latestFirst.other W30 (Or.inl ne35))
              exact ih _ _ _ hp _ _ _ _ (Or.inr ⟨_, rfl⟩) X37 e37 (((Keep.refl h0 [a1, x_reached, x_taken]).trans Kl (allS (Or.inl (List.mem_of_getElem? (i := 0) rfl)) (allS (Or.inl (List.mem_of_getElem? (i := 1) rfl)) (allS (Or.inl (List.mem_of_getElem? (i := 2) rfl)) all0)))).wr W30 (Or.inl (List.mem_of_getElem? (i := 2) rfl))) N30 H49 H36 H50 H51 H52 H53 H48 V30.toI
          · refine Gk.ifNo X21 hx (hb hby d20_50) (feq hc50).1 ?_
            rw [if_neg hc50] at hp
            obtain ⟨ht0, hp⟩ := own_ifN hp
            obtain ⟨ht8, hp⟩ := own_ifS hp
            obtain ⟨hu0, hp⟩ := own_ifN hp
            obtain ⟨hu16, hp⟩ := own_ifS hp
            refine Gk.aloadN X21 hx (hb hby d20_53) rfl rfl ?_
            refine Gk.getF X21 hx hZ hown (host := "") (Or.inl (hw _ (List.mem_of_getElem? (i := 50) rfl))) Via.refl e21 Fl_ranked (hb hby d20_54) ?_
            intro T54 X54 e54
            refine Gk.aloadN X54 hx (hb hby d20_57) rfl rfl ?_
            refine Gk.getF X54 hx hZ hown (host := "") (Or.inl (hw _ (List.mem_of_getElem? (i := 75) rfl))) Via.refl e54 Fl_lowest (hb hby d20_58) ?_
            intro T55 X55 e55
            have ni57 : x_ranked ∉ [a1, x_reached, x_taken] := (ninS (Ne.symm (Nat.ne_of_lt (Nat.lt_trans lt0 lt1))) (ninS (Nat.ne_of_lt lt2) (ninS (Nat.ne_of_lt (Nat.lt_trans lt2 lt3)) nin0)))
            have H58 := (V_ranked.keep Kl ni57)
            refine Gk.aaload X55 hx hZ e55 H58 rfl ⟨hn_, hc9⟩ (.ref yk) (congrArg Value.ref eyk.symm) (hb hby d20_61) ?_
            refine Gk.aloadN X55 hx (hb hby d20_62) rfl rfl ?_
            refine Gk.getF X55 hx hZ hown (host := "") (Or.inl (hw _ (List.mem_of_getElem? (i := 52) rfl))) Via.refl e55 Fl_reached (hb hby d20_63) ?_
            intro T59 X59 e59
            refine Gk.aloadN X59 hx (hb hby d20_66) rfl rfl ?_
            refine Gk.getF X59 hx hZ hown (host := "") (Or.inl (hw _ (List.mem_of_getElem? (i := 75) rfl))) Via.refl e59 Fl_lowest (hb hby d20_67) ?_
            intro T60 X60 e60
            refine Gk.dup2 X60 hx (hb hby d20_70) rfl rfl ?_
            refine Gk.iaload X60 hx hZ e60 Vl_reached ⟨hn_, hc9⟩ (.int (Rf lo.toNatClampNeg)) rfl (hb hby d20_71) ?_
            refine Gk.iconst X60 hx (hb hby d20_72) (1 : Int32) rfl ?_
            refine Gk.isub X60 hx (hb hby d20_73) _ rfl ?_
            refine Gk.dupX2 X60 hx (hb hby d20_74) rfl rfl rfl ?_
            refine Gk.iastore X60 hx hZ e60 Vl_reached lo.toNatClampNeg rfl ⟨hn_, hc9⟩ (.int ((Rf lo.toNatClampNeg) - (1 : Int32))) rfl (hb hby d20_75) ?_
            intro T62 h62 X62 e62 W62 V62
            have N62 := Fr.snoc X62 Nl (Nat.le_trans g_a1 (Nat.le_of_lt (Nat.lt_trans lt0 (Nat.lt_trans lt1 lt2))))
            have ne64 : a1 ≠ yk := (Nat.ne_of_lt (Nat.lt_trans (Nat.lt_trans lt0 lt1) y1))
            have ni65 : yk ∉ [a1, x_reached, x_taken] := (ninS (Ne.symm ne64) (ninS (Nat.ne_of_lt y2) (ninS (Nat.ne_of_lt (Nat.lt_trans y2 lt3)) nin0)))
            have H66 := ((Vk.keep Kl ni65).other W62 (Nat.ne_of_lt y2))
            refine Gk.iaload X62 hx hZ e62 H66 ⟨ht0, ht8⟩ (.int (Wf lo.toNatClampNeg (Rf lo.toNatClampNeg - (1 : Int32)).toNatClampNeg)) rfl (hb hby d20_76) ?_
            refine Gk.goto X62 hx (hb hby d20_77) 104 (by decide) (by decide) ?_
            refine Gk.istoreN X62 hx (hb hby d20_104) #[.val (.ref a1), .val (.int (Wf lo.toNatClampNeg (Rf lo.toNatClampNeg - (1 : Int32)).toNatClampNeg))] (own_sl hsl) ?_
            refine Gk.aloadN X62 hx (hb hby d20_105) rfl rfl ?_
            have ne67 : a1 ≠ x_reached := (Nat.ne_of_lt (Nat.lt_trans lt0 (Nat.lt_trans lt1 lt2)))
            have H68 := (Fl_held.other W62 (Or.inl ne67))
            refine Gk.getF X62 hx hZ hown (host := "") (Or.inl (hw _ (List.mem_of_getElem? (i := 32) rfl))) Via.refl e62 H68 (hb hby d20_106) ?_
            intro T69 X69 e69
            refine Gk.iloadN X69 hx (hb hby d20_109) rfl ?_
            have ne71 : x_held ≠ x_taken := (Nat.ne_of_lt (Nat.lt_trans lt1 (Nat.lt_trans lt2 lt3)))
            have ni72 : x_held ∉ [a1, x_reached, x_taken] := (ninS (Ne.symm (Nat.ne_of_lt lt0)) (ninS (Nat.ne_of_lt (Nat.lt_trans lt1 lt2)) (ninS ne71 nin0)))
            have H73 := ((V_held.keep Kl ni72).other W62 (Nat.ne_of_lt (Nat.lt_trans lt1 lt2)))
            refine Gk.baloadZ X69 hx hZ e69 H73 ⟨hu0, hu16⟩ (.int (Hf (Wf lo.toNatClampNeg (Rf lo.toNatClampNeg - (1 : Int32)).toNatClampNeg).toNatClampNeg)) rfl (hb hby d20_110) ?_
            by_cases hc111 : (Hf (Wf lo.toNatClampNeg (Rf lo.toNatClampNeg - (1 : Int32)).toNatClampNeg).toNatClampNeg) = (0 : Int32)
            · refine Gk.ifNo X69 hx (hb hby d20_111) (teq hc111).2 ?_
              rw [if_pos hc111] at hp
              obtain ⟨e1_, e2_, e3_, e4_⟩ := own_some4 hp
              refine Gk.iloadN X69 hx (hb hby d20_114) rfl ?_
              have H74 := (Vl_taken.other W62 (Ne.symm (Nat.ne_of_lt lt3)))
              have H75 := (Fl_lowest.other W62 (Or.inl ne67))
              have H76 := (Fl_ranked.other W62 (Or.inl ne67))
              have H77 := (Fl_reached.other W62 (Or.inl ne67))
              have H78 := (Fl_taken.other W62 (Or.inl ne67))
              have H79 := (Fl_latestFirst.other W62 (Or.inl ne67))
              refine Go.fin X69 (v := some (.int (Wf lo.toNatClampNeg (Rf lo.toNatClampNeg - (1 : Int32)).toNatClampNeg))) (fun h_ => by rw [Bd.returns] at h_; cases h_) Bd.notSynchronized (fun _ hr => retOut X69 hx Bd.returns rfl (Or.inl ⟨rfl, Or.inl rfl, _, rfl⟩) (hb hby d20_115) hr) (fun U' hU hF => ⟨_, _, rfl, ?_, hF.1, hF.2.1, hF.2.2.mono (by decide) (by decide)⟩)
              rw [hU, e69]
              exact ⟨(congrArg (fun z_ : Int32 => some (Value.int z_)) (show (Wf lo.toNatClampNeg (Rf lo.toNatClampNeg - (1 : Int32)).toNatClampNeg) = r_ from e1_.symm)), N62, (((Keep.refl h0 [a1, x_reached, x_taken]).trans Kl (allS (Or.inl (List.mem_of_getElem? (i := 0) rfl)) (allS (Or.inl (List.mem_of_getElem? (i := 1) rfl)) (allS (Or.inl (List.mem_of_getElem? (i := 2) rfl)) all0)))).wr W62 (Or.inl (List.mem_of_getElem? (i := 1) rfl))), (by rw [e2_]; exact H75), H68, H76, H77, H78, H79, (by rw [e3_]; exact V62.toI), (by rw [e4_]; exact H74)⟩
            · refine Gk.ifYes X69 hx (hb hby d20_111) (feq hc111).2 116 (by decide) (by decide) ?_
              rw [if_neg hc111] at hp
              refine Gk.goto X69 hx (hb hby d20_116) 0 (by decide) (by decide) ?_
              have H80 := (Vl_taken.other W62 (Ne.symm (Nat.ne_of_lt lt3)))
              have H81 := (Fl_lowest.other W62 (Or.inl ne67))
              have H82 := (Fl_ranked.other W62 (Or.inl ne67))
              have H83 := (Fl_reached.other W62 (Or.inl ne67))
              have H84 := (Fl_taken.other W62 (Or.inl ne67))
              have H85 := (Fl_latestFirst.other W62 (Or.inl ne67))
              exact ih _ _ _ hp _ _ _ _ (Or.inr ⟨_, rfl⟩) X69 e69 (((Keep.refl h0 [a1, x_reached, x_taken]).trans Kl (allS (Or.inl (List.mem_of_getElem? (i := 0) rfl)) (allS (Or.inl (List.mem_of_getElem? (i := 1) rfl)) (allS (Or.inl (List.mem_of_getElem? (i := 2) rfl)) all0)))).wr W62 (Or.inl (List.mem_of_getElem? (i := 1) rfl))) N62 H81 H68 H82 H83 H84 H85 V62.toI H80
      · refine Gk.icmpYes X2 hx (hb hby d20_9) (flt hc9).2.1 119 (by decide) (by decide) ?_
        rw [if_neg hc9] at hp
        obtain ⟨e1_, e2_, e3_, e4_⟩ := own_some4 hp
        refine Gk.iconst X2 hx (hb hby d20_119) (-1 : Int32) rfl ?_
        refine Go.fin X2 (v := some (.int (-1 : Int32))) (fun h_ => by rw [Bd.returns] at h_; cases h_) Bd.notSynchronized (fun _ hr => retOut X2 hx Bd.returns rfl (Or.inl ⟨rfl, Or.inl rfl, _, rfl⟩) (hb hby d20_120) hr) (fun U' hU hF => ⟨_, _, rfl, ?_, hF.1, hF.2.1, hF.2.2.mono (by decide) (by decide)⟩)
        rw [hU, e2]
        exact ⟨(congrArg (fun z_ : Int32 => some (Value.int z_)) (show (-1 : Int32) = r_ from e1_.symm)), Nl, ((Keep.refl h0 [a1, x_reached, x_taken]).trans Kl (allS (Or.inl (List.mem_of_getElem? (i := 0) rfl)) (allS (Or.inl (List.mem_of_getElem? (i := 1) rfl)) (allS (Or.inl (List.mem_of_getElem? (i := 2) rfl)) all0)))), (by rw [e2_]; exact Fl_lowest), Fl_held, Fl_ranked, Fl_reached, Fl_taken, Fl_latestFirst, (by rw [e3_]; exact Vl_reached), (by rw [e4_]; exact Vl_taken)⟩
  exact loop nf lo0 Rf0 Tf0 hp0 _ _ _ _ (Or.inl rfl) X0 e0 (Keep.refl h0 _) N0 F_lowest F_held F_ranked F_reached F_taken F_latestFirst V_reached V_taken
theorem pd_11 : parseMethodDescriptor "(J)V" = some ⟨[.long], none⟩ := by decide +kernel
theorem pd_12 : parseMethodDescriptor "(IILcom/example/tracewarden/tracewarden/engine/SearchBudget;)V" = some ⟨[.int, .int, (.object "com/example/tracewarden/tracewarden/engine/SearchBudget")], none⟩ := by decide +kernel
theorem pd_13 : parseMethodDescriptor "(IIZ)V" = some ⟨[.int, .int, .boolean], none⟩ := by decide +kernel
theorem pd_14 : parseMethodDescriptor "(I)I" = some ⟨[.int], some .int⟩ := by decide +kernel
theorem pd_15 : parseMethodDescriptor "([IILcom/example/tracewarden/tracewarden/engine/Zone;ILcom/example/tracewarden/tracewarden/engine/SearchTuples$Event;I)V" = some ⟨[(.array .int), .int, (.object "com/example/tracewarden/tracewarden/engine/Zone"), .int, (.object "com/example/tracewarden/tracewarden/engine/SearchTuples$Event"), .int], none⟩ := by decide +kernel
theorem pd_16 : parseMethodDescriptor "([ILcom/example/tracewarden/tracewarden/engine/Zone;)V" = some ⟨[(.array .int), (.object "com/example/tracewarden/tracewarden/engine/Zone")], none⟩ := by decide +kernel
theorem pd_17 : parseMethodDescriptor "()I" = some ⟨[], some .int⟩ := by decide +kernel
theorem ef_rm0 (m : MethodId) (p1 : Int32) (p2 : Int32) (p3 : Int32) (p4 : Int32) (p5 : Int32) : entryFrame m #[(.int p1), (.int p2), (.int p3), (.int p4), (.int p5)] maxLocals = mkF m 0 #[.val (.int p1), .val (.int p2), .val (.int p3), .val (.int p4), .val (.int p5), .unset, .unset, .unset, .unset, .unset, .unset, .unset, .unset, .unset, .unset, .unset, .unset, .unset, .unset, .unset, .unset, .unset, .unset, .unset, .unset, .unset, .unset, .unset] [] := by first | (simp [entryFrame, mkF, argsToLocals, Value.category, maxLocals]; done) | rfl
def Q_rm0 (Z : State) (p1 : Int32) (p2 : Int32) (p3 : Int32) (p4 : Int32) (p5 : Int32) (h0 : Heap) (n0 : Nat) (v : Option Value) (h : Heap) (L : List Loc) : Prop := v = some (.int (1 : Int32)) ∧ Fr n0 L
set_option maxRecDepth 65536 in
set_option maxHeartbeats 40000000 in
theorem rm0 (l : Launch) (Z : State) (a0 : Array Value) (hw : ∀ d ∈ tables_1, d.before a0 Z = true) (ws : List Jvm.Cond) (p1 : Int32) (p2 : Int32) (p3 : Int32) (p4 : Int32) (p5 : Int32) (h0 : Heap) (n0 : Nat) (Z0 : n0 ≤ h0.size) :
    MetFree l x (head1 (Jvm.Cond.code x code maxLocals ret :: ws) room_1) (fun a U => a = #[(.int p1), (.int p2), (.int p3), (.int p4), (.int p5)] ∧ Z.Warmed39 U.vm ∧ U.heap = h0) (fun _ _ _ _ _ => True) (fun _ U o U' => ∃ v L, o = .returned v ∧ Q_rm0 Z p1 p2 p3 p4 p5 h0 n0 v U'.heap L ∧ FrameEnd U o U' L room_1.cells room_1.slots) := by
  refine MetFree.of_bodySF (plainFor_of_name pn_182) hisR ?_
  intro p e s m args below meth c s₁ Bd hml0 hP hK
  obtain ⟨rfl, hZ, hh⟩ := hP
  have hx := Bd.exec
  have hby := Bd.bytes
  have hml : c.maxLocals = 28 := hml0
  have hown : s.vm.findClass "com/example/tracewarden/tracewarden/engine/SearchTuplesPollPinLaw" = some m.cls := findClass_of_methodNamed Bd.named
  have hnm := (name_of_methodNamed Bd.named Bd.method).1
  have X0 : Stand p l e room_1 s m #[(.int p1), (.int p2), (.int p3), (.int p4), (.int p5)] below meth c s₁ [] 0 0 := Stand.of_body Bd
  have e0 : s₁.heap = h0 := by rw [← hh, Bd.state]; rfl
  have N0 := Fr.nil n0
  show Go p e below (s₁.setTop (entryFrame m #[(.int p1), (.int p2), (.int p3), (.int p4), (.int p5)] maxLocals)) (fun o U' => ∃ v L, o = .returned v ∧ Q_rm0 Z p1 p2 p3 p4 p5 h0 n0 v U'.heap L ∧ FrameEnd s o U' L room_1.cells room_1.slots)
  rw [ef_rm0]
  refine Gk.iloadN X0 hx (hb hby at_0) rfl ?_
  refine Gk.ldcI X0 hx hZ hown (hw _ (List.mem_of_getElem? (i := 0) rfl)) (hb hby at_1) ?_
  refine Gk.iand X0 hx (hb hby at_3) _ rfl ?_
  refine Gk.iconst X0 hx (hb hby at_4) (3 : Int32) rfl ?_
  refine Gk.irem X0 hx (hb hby at_5) (by decide) _ rfl ?_
  obtain ⟨kk0, ekk0⟩ : ∃ z_ : Int32, z_ = ((p1 &&& (2147483647 : Int32)) % (3 : Int32)) := ⟨_, rfl⟩
  show Go p e below (s₁.setTop (mkF m 6 #[.val (.int p1), .val (.int p2), .val (.int p3), .val (.int p4), .val (.int p5), .unset, .unset, .unset, .unset, .unset, .unset, .unset, .unset, .unset, .unset, .unset, .unset, .unset, .unset, .unset, .unset, .unset, .unset, .unset, .unset, .unset, .unset, .unset] [(.int ((p1 &&& (2147483647 : Int32)) % (3 : Int32)))])) _
  rw [← ekk0]
  refine Gk.istore X0 hx (hb hby at_6) #[.val (.int p1), .val (.int p2), .val (.int p3), .val (.int p4), .val (.int p5), .val (.int kk0), .unset, .unset, .unset, .unset, .unset, .unset, .unset, .unset, .unset, .unset, .unset, .unset, .unset, .unset, .unset, .unset, .unset, .unset, .unset, .unset, .unset, .unset] rfl ?_
  refine Gk.iloadN X0 hx (hb hby at_8) rfl ?_
  refine Gk.ldcI X0 hx hZ hown (hw _ (List.mem_of_getElem? (i := 0) rfl)) (hb hby at_9) ?_
  refine Gk.iand X0 hx (hb hby at_11) _ rfl ?_
  refine Gk.iconst X0 hx (hb hby at_12) (3 : Int32) rfl ?_
  refine Gk.irem X0 hx (hb hby at_13) (by decide) _ rfl ?_
  obtain ⟨kk1, ekk1⟩ : ∃ z_ : Int32, z_ = ((p2 &&& (2147483647 : Int32)) % (3 : Int32)) := ⟨_, rfl⟩
  show Go p e below (s₁.setTop (mkF m 14 #[.val (.int p1), .val (.int p2), .val (.int p3), .val (.int p4), .val (.int p5), .val (.int kk0), .unset, .unset, .unset, .unset, .unset, .unset, .unset, .unset, .unset, .unset, .unset, .unset, .unset, .unset, .unset, .unset, .unset, .unset, .unset, .unset, .unset, .unset] [(.int ((p2 &&& (2147483647 : Int32)) % (3 : Int32)))])) _
  rw [← ekk1]
  refine Gk.istore X0 hx (hb hby at_14) #[.val (.int p1), .val (.int p2), .val (.int p3), .val (.int p4), .val (.int p5), .val (.int kk0), .val (.int kk1), .unset, .unset, .unset, .unset, .unset, .unset, .unset, .unset, .unset, .unset, .unset, .unset, .unset, .unset, .unset, .unset, .unset, .unset, .unset, .unset, .unset] rfl ?_
  refine Gk.iloadN X0 hx (hb hby at_16) rfl ?_
  refine Gk.ldcI X0 hx hZ hown (hw _ (List.mem_of_getElem? (i := 0) rfl)) (hb hby at_17) ?_
  refine Gk.iand X0 hx (hb hby at_19) _ rfl ?_
  refine Gk.iconst X0 hx (hb hby at_20) (3 : Int32) rfl ?_
  refine Gk.irem X0 hx (hb hby at_21) (by decide) _ rfl ?_
  obtain ⟨kk2, ekk2⟩ : ∃ z_ : Int32, z_ = ((p3 &&& (2147483647 : Int32)) % (3 : Int32)) := ⟨_, rfl⟩
  show Go p e below (s₁.setTop (mkF m 22 #[.val (.int p1), .val (.int p2), .val (.int p3), .val (.int p4), .val (.int p5), .val (.int kk0), .val (.int kk1), .unset, .unset, .unset, .unset, .unset, .unset, .unset, .unset, .unset, .unset, .unset, .unset, .unset, .unset, .unset, .unset, .unset, .unset, .unset, .unset, .unset] [(.int ((p3 &&& (2147483647 : Int32)) % (3 : Int32)))])) _
  rw [← ekk2]
  refine Gk.istore X0 hx (hb hby at_22) #[.val (.int p1), .val (.int p2), .val (.int p3), .val (.int p4), .val (.int p5), .val (.int kk0), .val (.int kk1), .val (.int kk2), .unset, .unset, .unset, .unset, .unset, .unset, .unset, .unset, .unset, .unset, .unset, .unset, .unset, .unset, .unset, .unset, .unset, .unset, .unset, .unset] rfl ?_
  refine Gk.iloadN X0 hx (hb hby at_24) rfl ?_
  refine Gk.iconst X0 hx (hb hby at_25) (3 : Int32) rfl ?_
  refine Gk.iand X0 hx (hb hby at_26) _ rfl ?_
  obtain ⟨hk, ehk⟩ : ∃ z_ : Int32, z_ = (p4 &&& (3 : Int32)) := ⟨_, rfl⟩
  show Go p e below (s₁.setTop (mkF m 27 #[.val (.int p1), .val (.int p2), .val (.int p3), .val (.int p4), .val (.int p5), .val (.int kk0), .val (.int kk1), .val (.int kk2), .unset, .unset, .unset, .unset, .unset, .unset, .unset, .unset, .unset, .unset, .unset, .unset, .unset, .unset, .unset, .unset, .unset, .unset, .unset, .unset] [(.int (p4 &&& (3 : Int32)))])) _
  rw [← ehk]
  refine Gk.istore X0 hx (hb hby at_27) #[.val (.int p1), .val (.int p2), .val (.int p3), .val (.int p4), .val (.int p5), .val (.int kk0), .val (.int kk1), .val (.int kk2), .val (.int hk), .unset, .unset, .unset, .unset, .unset, .unset, .unset, .unset, .unset, .unset, .unset, .unset, .unset, .unset, .unset, .unset, .unset, .unset, .unset] rfl ?_
  refine Gk.iload X0 hx (hb hby at_29) rfl ?_
  refine Gk.iconst X0 hx (hb hby at_31) (1 : Int32) rfl ?_
  refine Gk.iand X0 hx (hb hby at_32) _ rfl ?_
  have J41 : ∀ lf : Int32, (lf = (0 : Int32) ∨ lf = (1 : Int32)) → Go p e below (s₁.setTop (mkF m 41 #[.val (.int p1), .val (.int p2), .val (.int p3), .val (.int p4), .val (.int p5), .val (.int kk0), .val (.int kk1), .val (.int kk2), .val (.int hk), .unset, .unset, .unset, .unset, .unset, .unset, .unset, .unset, .unset, .unset, .unset, .unset, .unset, .unset, .unset, .unset, .unset, .unset, .unset] [(.int lf)])) (fun o U' => ∃ v L, o = .returned v ∧ Q_rm0 Z p1 p2 p3 p4 p5 h0 n0 v U'.heap L ∧ FrameEnd s o U' L room_1.cells room_1.slots) := by
    intro lf d_lf
    have hlf := d_lf
    refine Gk.istore X0 hx (hb hby at_41) #[.val (.int p1), .val (.int p2), .val (.int p3), .val (.int p4), .val (.int p5), .val (.int kk0), .val (.int kk1), .val (.int kk2), .val (.int hk), .val (.int lf), .unset, .unset, .unset, .unset, .unset, .unset, .unset, .unset, .unset, .unset, .unset, .unset, .unset, .unset, .unset, .unset, .unset, .unset] rfl ?_
    have d_kk0 := own_3 ekk0
    have d_kk1 := own_3 ekk1
    have d_kk2 := own_3 ekk2
    have d_hk := own_k ehk
    refine Gk.iconst X0 hx (hb hby at_43) (1 : Int32) rfl ?_
    refine Gk.newP X0 hx hZ (hw _ (List.mem_of_getElem? (i := 1) rfl)) e0 (hb hby at_44) (by decide) (cap := 1) (by decide) (by decide) (by decide) (by decide) rfl ?_
    intro T1 h1 b1 k1 X1 e1 E1 g1 A1 B1
    have g_b1 : n0 ≤ b1 := Nat.le_trans Z0 (Nat.le_of_eq g1.symm)
    have V_b1 : Arf Z h1 b1 k1 .int (1 : Int32) (fun _ => (.int (0 : Int32))) := A1
    have lt_b1 := V_b1.lt
    refine Gk.dup X1 hx (hb hby at_46) rfl ?_
    refine Gk.iconst X1 hx (hb hby at_47) (0 : Int32) rfl ?_
    refine Gk.iconst X1 hx (hb hby at_48) (0 : Int32) rfl ?_
    refine Gk.iastore X1 hx hZ e1 V_b1 0 rfl ⟨by decide, by decide⟩ (.int (0 : Int32)) rfl (hb hby at_49) ?_
    intro T2 h2 X2 e2 W2 V2
    have N2 := Fr.snoc X2 N0 g_b1
    refine Gk.astore X2 hx (hb hby at_50) rfl #[.val (.int p1), .val (.int p2), .val (.int p3), .val (.int p4), .val (.int p5), .val (.int kk0), .val (.int kk1), .val (.int kk2), .val (.int hk), .val (.int lf), .val (.ref b1), .unset, .unset, .unset, .unset, .unset, .unset, .unset, .unset, .unset, .unset, .unset, .unset, .unset, .unset, .unset, .unset, .unset] rfl ?_
    refine Gk.iconst X2 hx (hb hby at_52) (1 : Int32) rfl ?_
    refine Gk.newP X2 hx hZ (hw _ (List.mem_of_getElem? (i := 1) rfl)) e2 (hb hby at_53) (by decide) (cap := 1) (by decide) (by decide) (by decide) (by decide) rfl ?_
    intro T3 h3 b3 k3 X3 e3 E3 g3 A3 B3
    have g_b3 : n0 ≤ b3 := Nat.le_trans (Nat.le_trans Z0 (Nat.le_trans E1.1 (Keep.of_wr W2).1)) (Nat.le_of_eq g3.symm)
    have V_b3 : Arf Z h3 b3 k3 .int (1 : Int32) (fun _ => (.int (0 : Int32))) := A3
    have lt_b3 := V_b3.lt
    refine Gk.dup X3 hx (hb hby at_55) rfl ?_
    refine Gk.iconst X3 hx (hb hby at_56) (0 : Int32) rfl ?_
    refine Gk.iconst X3 hx (hb hby at_57) (1 : Int32) rfl ?_
    refine Gk.iastore X3 hx hZ e3 V_b3 0 rfl ⟨by decide, by decide⟩ (.int (1 : Int32)) rfl (hb hby at_58) ?_
    intro T4 h4 X4 e4 W4 V4
    have N4 := Fr.snoc X4 N2 g_b3
    refine Gk.astore X4 hx (hb hby at_59) rfl #[.val (.int p1), .val (.int p2), .val (.int p3), .val (.int p4), .val (.int p5), .val (.int kk0), .val (.int kk1), .val (.int kk2), .val (.int hk), .val (.int lf), .val (.ref b1), .val (.ref b3), .unset, .unset, .unset, .unset, .unset, .unset, .unset, .unset, .unset, .unset, .unset, .unset, .unset, .unset, .unset, .unset] rfl ?_
    refine Gk.iconst X4 hx (hb hby at_61) (1 : Int32) rfl ?_
    have gr6 := (Nat.le_trans (Nat.le_trans (Nat.le_trans E1.1 (Keep.of_wr W2).1) E3.1) (Keep.of_wr W4).1)
    refine Gk.newP X4 hx hZ (hw _ (List.mem_of_getElem? (i := 1) rfl)) e4 (hb hby at_62) (by decide) (cap := 1) (by decide) (by decide) (by decide) (by decide) rfl ?_
    intro T5 h5 b5 k5 X5 e5 E5 g5 A5 B5
    have g_b5 : n0 ≤ b5 := Nat.le_trans (Nat.le_trans Z0 gr6) (Nat.le_of_eq g5.symm)
    have V_b5 : Arf Z h5 b5 k5 .int (1 : Int32) (fun _ => (.int (0 : Int32))) := A5
    have lt_b5 := V_b5.lt
    refine Gk.dup X5 hx (hb hby at_64) rfl ?_
    refine Gk.iconst X5 hx (hb hby at_65) (0 : Int32) rfl ?_
    refine Gk.iconst X5 hx (hb hby at_66) (2 : Int32) rfl ?_
    refine Gk.iastore X5 hx hZ e5 V_b5 0 rfl ⟨by decide, by decide⟩ (.int (2 : Int32)) rfl (hb hby at_67) ?_
    intro T7 h7 X7 e7 W7 V7
    have N7 := Fr.snoc X7 N4 g_b5
    refine Gk.astore X7 hx (hb hby at_68) rfl #[.val (.int p1), .val (.int p2), .val (.int p3), .val (.int p4), .val (.int p5), .val (.int kk0), .val (.int kk1), .val (.int kk2), .val (.int hk), .val (.int lf), .val (.ref b1), .val (.ref b3), .val (.ref b5), .unset, .unset, .unset, .unset, .unset, .unset, .unset, .unset, .unset, .unset, .unset, .unset, .unset, .unset, .unset] rfl ?_
    refine Gk.iconst X7 hx (hb hby at_70) (1 : Int32) rfl ?_
    have gr9 := (Nat.le_trans (Nat.le_trans gr6 E5.1) (Keep.of_wr W7).1)
    refine Gk.newP X7 hx hZ (hw _ (List.mem_of_getElem? (i := 1) rfl)) e7 (hb hby at_71) (by decide) (cap := 1) (by decide) (by decide) (by decide) (by decide) rfl ?_
    intro T8 h8 b8 k8 X8 e8 E8 g8 A8 B8
    have g_b8 : n0 ≤ b8 := Nat.le_trans (Nat.le_trans Z0 gr9) (Nat.le_of_eq g8.symm)
    have V_b8 : Arf Z h8 b8 k8 .int (1 : Int32) (fun _ => (.int (0 : Int32))) := A8
    have lt_b8 := V_b8.lt
    refine Gk.dup X8 hx (hb hby at_73) rfl ?_
    refine Gk.iconst X8 hx (hb hby at_74) (0 : Int32) rfl ?_
    refine Gk.iload X8 hx (hb hby at_75) rfl ?_
    refine Gk.iastore X8 hx hZ e8 V_b8 0 rfl ⟨by decide, by decide⟩ (.int hk) rfl (hb hby at_77) ?_
    intro T10 h10 X10 e10 W10 V10
    have N10 := Fr.snoc X10 N7 g_b8
    refine Gk.astore X10 hx (hb hby at_78) rfl #[.val (.int p1), .val (.int p2), .val (.int p3), .val (.int p4), .val (.int p5), .val (.int kk0), .val (.int kk1), .val (.int kk2), .val (.int hk), .val (.int lf), .val (.ref b1), .val (.ref b3), .val (.ref b5), .val (.ref b8), .unset, .unset, .unset, .unset, .unset, .unset, .unset, .unset, .unset, .unset, .unset, .unset, .unset, .unset] rfl ?_
    have gr12 := (Nat.le_trans (Nat.le_trans gr9 E8.1) (Keep.of_wr W10).1)
    refine Gk.newO X10 hx hZ hown (hw _ (List.mem_of_getElem? (i := 2) rfl)) (hw _ (List.mem_of_getElem? (i := 3) rfl)) (hw _ (List.mem_of_getElem? (i := 4) rfl)) e10 (hb hby at_80) (by decide) (by decide) ?_
    intro T11 h11 b11 X11 e11 E11 g11 A11 D11
    have g_b11 : n0 ≤ b11 := Nat.le_trans (Nat.le_trans Z0 gr12) (Nat.le_of_eq g11.symm)
    have lt_b11 := A11.lt
    have F_states_b11 : Fld Z h11 b11 "com/example/tracewarden/tracewarden/engine/SearchTuples" "states" "[I" .null := D11 (Or.inl (hw _ (List.mem_of_getElem? (i := 22) rfl))) (ty := (.array .int)) (by decide)
    have F_hashes_b11 : Fld Z h11 b11 "com/example/tracewarden/tracewarden/engine/SearchTuples" "hashes" "[I" .null := D11 (Or.inl (hw _ (List.mem_of_getElem? (i := 24) rfl))) (ty := (.array .int)) (by decide)
    have F_zones_b11 : Fld Z h11 b11 "com/example/tracewarden/tracewarden/engine/SearchTuples" "zones" "[Lcom/example/tracewarden/tracewarden/engine/Zone;" .null := D11 (Or.inl (hw _ (List.mem_of_getElem? (i := 28) rfl))) (ty := (.array (.object "com/example/tracewarden/tracewarden/engine/Zone"))) (by decide)
    have F_sameStates_b11 : Fld Z h11 b11 "com/example/tracewarden/tracewarden/engine/SearchTuples" "sameStates" "[I" .null := D11 (Or.inl (hw _ (List.mem_of_getElem? (i := 30) rfl))) (ty := (.array .int)) (by decide)
    have F_held_b11 : Fld Z h11 b11 "com/example/tracewarden/tracewarden/engine/SearchTuples" "held" "[Z" .null := D11 (Or.inl (hw _ (List.mem_of_getElem? (i := 33) rfl))) (ty := (.array .boolean)) (by decide)
    have F_parents_b11 : Fld Z h11 b11 "com/example/tracewarden/tracewarden/engine/SearchTuples" "parents" "[I" .null := D11 (Or.inl (hw _ (List.mem_of_getElem? (i := 35) rfl))) (ty := (.array .int)) (by decide)
    have F_events_b11 : Fld Z h11 b11 "com/example/tracewarden/tracewarden/engine/SearchTuples" "events" "[Lcom/example/tracewarden/tracewarden/engine/SearchTuples$Event;" .null := D11 (Or.inl (hw _ (List.mem_of_getElem? (i := 39) rfl))) (ty := (.array (.object "com/example/tracewarden/tracewarden/engine/SearchTuples$Event"))) (by decide)
    have F_ranks_b11 : Fld Z h11 b11 "com/example/tracewarden/tracewarden/engine/SearchTuples" "ranks" "[I" .null := D11 (Or.inl (hw _ (List.mem_of_getElem? (i := 41) rfl))) (ty := (.array .int)) (by decide)
    have F_slots_b11 : Fld Z h11 b11 "com/example/tracewarden/tracewarden/engine/SearchTuples" "slots" "[I" .null := D11 (Or.inl (hw _ (List.mem_of_getElem? (i := 43) rfl))) (ty := (.array .int)) (by decide)
    have F_budget_b11 : Fld Z h11 b11 "com/example/tracewarden/tracewarden/engine/SearchTuples" "budget" "Lcom/example/tracewarden/tracewarden/engine/SearchBudget;" .null := D11 (Or.inr (hw _ (List.mem_of_getElem? (i := 45) rfl))) (ty := (.object "com/example/tracewarden/tracewarden/engine/SearchBudget")) (by decide)
    have F_width_b11 : Fld Z h11 b11 "com/example/tracewarden/tracewarden/engine/SearchTuples" "width" "I" (.int (0 : Int32)) := D11 (Or.inl (hw _ (List.mem_of_getElem? (i := 47) rfl))) (ty := .int) (by decide)
    have F_ranked_b11 : Fld Z h11 b11 "com/example/tracewarden/tracewarden/engine/SearchTuples" "ranked" "[[I" .null := D11 (Or.inl (hw _ (List.mem_of_getElem? (i := 51) rfl))) (ty := (.array (.array .int))) (by decide)
    have F_reached_b11 : Fld Z h11 b11 "com/example/tracewarden/tracewarden/engine/SearchTuples" "reached" "[I" .null := D11 (Or.inl (hw _ (List.mem_of_getElem? (i := 53) rfl))) (ty := (.array .int)) (by decide)
    have F_taken_b11 : Fld Z h11 b11 "com/example/tracewarden/tracewarden/engine/SearchTuples" "taken" "[I" .null := D11 (Or.inl (hw _ (List.mem_of_getElem? (i := 55) rfl))) (ty := (.array .int)) (by decide)
    have F_latestFirst_b11 : Fld Z h11 b11 "com/example/tracewarden/tracewarden/engine/SearchTuples" "latestFirst" "Z" (.int (0 : Int32)) := D11 (Or.inl (hw _ (List.mem_of_getElem? (i := 62) rfl))) (ty := .boolean) (by decide)
    have F_size_b11 : Fld Z h11 b11 "com/example/tracewarden/tracewarden/engine/SearchTuples" "size" "I" (.int (0 : Int32)) := D11 (Or.inl (hw _ (List.mem_of_getElem? (i := 68) rfl))) (ty := .int) (by decide)
    have F_lowest_b11 : Fld Z h11 b11 "com/example/tracewarden/tracewarden/engine/SearchTuples" "lowest" "I" (.int (0 : Int32)) := D11 (Or.inl (hw _ (List.mem_of_getElem? (i := 76) rfl))) (ty := .int) (by decide)
    refine Gk.dup X11 hx (hb hby at_83) rfl ?_
    refine Gk.iconst X11 hx (hb hby at_84) (1 : Int32) rfl ?_
    refine Gk.iconst X11 hx (hb hby at_85) (3 : Int32) rfl ?_
    refine Gk.newO X11 hx hZ hown (hw _ (List.mem_of_getElem? (i := 5) rfl)) (hw _ (List.mem_of_getElem? (i := 6) rfl)) (hw _ (List.mem_of_getElem? (i := 7) rfl)) e11 (hb hby at_86) (by decide) (by decide) ?_
    intro T13 h13 b13 X13 e13 E13 g13 A13 D13
    have g_b13 : n0 ≤ b13 := Nat.le_trans (Nat.le_trans Z0 (Nat.le_trans gr12 E11.1)) (Nat.le_of_eq g13.symm)
    have lt_b13 := A13.lt
    have F_left_b13 : Fld Z h13 b13 "com/example/tracewarden/tracewarden/engine/SearchBudget" "left" "J" (.long (0 : Int64)) := D13 (Or.inl (hw _ (List.mem_of_getElem? (i := 16) rfl))) (ty := .long) (by decide)
    refine Gk.dup X13 hx (hb hby at_89) rfl ?_
    refine Gk.ldcL X13 hx hZ hown (hw _ (List.mem_of_getElem? (i := 8) rfl)) (hb hby at_90) ?_
    have gr15 := (Nat.le_trans (Nat.le_trans gr12 E11.1) E13.1)
    refine Gk.callI (argsL := [(.long (3 : Int64))]) X13 hx hZ hown (rm1 l Z a0 hw [] b13 (.long (0 : Int64)) h13 n0 (Nat.le_trans Z0 gr15) A13 F_left_b13 g_b13) rfl (hw _ (List.mem_of_getElem? (i := 9) rfl)) (hw _ (List.mem_of_getElem? (i := 10) rfl)) (hw _ (List.mem_of_getElem? (i := 11) rfl)) rfl (by decide) (hw _ (List.mem_of_getElem? (i := 7) rfl)) e13 pd_11 rfl rfl (by decide) (Nat.le_of_ble_eq_true rfl) (by decide) (by decide) (by rw [hml]; rfl)  rfl (hb hby at_93) ?_
    intro T14 L14 v14 X14 hQ14
    obtain ⟨rfl, N14q, K14, Fl14⟩ := hQ14
    have N14 := Fr.app N10 N14q
    show Go p e below (T14.setTop (mkF m 96 #[.val (.int p1), .val (.int p2), .val (.int p3), .val (.int p4), .val (.int p5), .val (.int kk0), .val (.int kk1), .val (.int kk2), .val (.int hk), .val (.int lf), .val (.ref b1), .val (.ref b3), .val (.ref b5), .val (.ref b8), .unset, .unset, .unset, .unset, .unset, .unset, .unset, .unset, .unset, .unset, .unset, .unset, .unset, .unset] [(.ref b13), (.int (3 : Int32)), (.int (1 : Int32)), (.ref b11), (.ref b11)])) _
    have ne17 : b11 ≠ b13 := (Nat.ne_of_lt (Nat.lt_of_lt_of_le lt_b11 (Nat.le_trans (Nat.le_refl _) (Nat.le_of_eq g13.symm))))
    have H18 := ((F_size_b11.ext E13).keep K14 (ninS ne17 nin0))
    have H19 := ((F_lowest_b11.ext E13).keep K14 (ninS ne17 nin0))
    have H20 := ((F_latestFirst_b11.ext E13).keep K14 (ninS ne17 nin0))
    have H21 := ((F_states_b11.ext E13).keep K14 (ninS ne17 nin0))
    have H22 := ((F_hashes_b11.ext E13).keep K14 (ninS ne17 nin0))
    have H23 := ((F_zones_b11.ext E13).keep K14 (ninS ne17 nin0))
    have H24 := ((F_sameStates_b11.ext E13).keep K14 (ninS ne17 nin0))
    have H25 := ((F_held_b11.ext E13).keep K14 (ninS ne17 nin0))
    have H26 := ((F_parents_b11.ext E13).keep K14 (ninS ne17 nin0))
    have H27 := ((F_events_b11.ext E13).keep K14 (ninS ne17 nin0))
    have H28 := ((F_ranks_b11.ext E13).keep K14 (ninS ne17 nin0))
    have H29 := ((F_slots_b11.ext E13).keep K14 (ninS ne17 nin0))
    have H30 := ((F_budget_b11.ext E13).keep K14 (ninS ne17 nin0))
    have H31 := ((F_width_b11.ext E13).keep K14 (ninS ne17 nin0))
    have H32 := ((F_ranked_b11.ext E13).keep K14 (ninS ne17 nin0))
    have H33 := ((F_reached_b11.ext E13).keep K14 (ninS ne17 nin0))
    have H34 := ((F_taken_b11.ext E13).keep K14 (ninS ne17 nin0))
    have H35 := ((A11.ext E13).keep K14)
    refine Gk.callI (argsL := [(.int (1 : Int32)), (.int (3 : Int32)), (.ref b13)]) X14 hx hZ hown (rm3 l Z a0 hw [] b11 b13 .null .null .null .null .null .null .null .null .null .null (.int (0 : Int32)) .null .null .null T14.heap n0 (Nat.le_trans Z0 (Nat.le_trans gr15 K14.1)) H35 H18 H19 H20 H21 g_b11 H22 H23 H24 H25 H26 H27 H28 H29 H30 H31 H32 H33 H34) rfl (hw _ (List.mem_of_getElem? (i := 17) rfl)) (hw _ (List.mem_of_getElem? (i := 18) rfl)) (hw _ (List.mem_of_getElem? (i := 19) rfl)) rfl (by decide) (hw _ (List.mem_of_getElem? (i := 4) rfl)) rfl pd_12 rfl rfl (by decide) (Nat.le_of_ble_eq_true rfl) (by decide) (by decide) (by rw [hml]; rfl)  rfl (hb hby at_96) ?_
    intro T16 L16 v16 X16 hQ16
    obtain ⟨rfl, N16q, K16, x_states, x_hashes, x_zones, x_sameStates, x_held, x_parents, x_events, x_ranks, x_slots, x_ranked, x_reached, x_taken, kx_states, kx_hashes, kx_zones, kx_sameStates, kx_held, kx_parents, kx_events, kx_ranks, kx_slots, kx_ranked, kx_reached, kx_taken, kx_rk, lx, lx0, lx1, lx2, lx3, lx4, lx5, lx6, lx7, lx8, lx9, lx10, Fx_budget, Fx_states, Fx_hashes, Fx_zones, Fx_sameStates, Fx_held, Fx_parents, Fx_events, Fx_ranks, Fx_slots, Fx_ranked, Fx_reached, Fx_taken, Fx_width, Fx_size, Fx_lowest, Fx_latestFirst, Vx_states, Vx_hashes, Vx_zones, Vx_sameStates, Vx_held, Vx_parents, Vx_events, Vx_ranks, Vx_slots, Vx_ranked, Vx_reached, Vx_taken, Rwx⟩ := hQ16
    have N16 := Fr.app N14 N16q
    have lxr : x_ranked < x_reached := Nat.lt_of_le_of_lt (Nat.le_add_right _ 3) lx9
    have lt_x_states := Vx_states.lt
    have g_x_states : n0 ≤ x_states := Nat.le_trans (Nat.le_trans Z0 (Nat.le_trans gr15 K14.1)) lx
    have lt_x_hashes := Vx_hashes.lt
    have g_x_hashes : n0 ≤ x_hashes := Nat.le_trans (Nat.le_trans Z0 (Nat.le_trans gr15 K14.1)) (Nat.le_trans lx (Nat.le_of_lt lx0))
    have lt_x_zones := Vx_zones.lt
    have g_x_zones : n0 ≤ x_zones := Nat.le_trans (Nat.le_trans Z0 (Nat.le_trans gr15 K14.1)) (Nat.le_trans lx (Nat.le_of_lt (Nat.lt_trans lx0 lx1)))
    have lt_x_sameStates := Vx_sameStates.lt
    have g_x_sameStates : n0 ≤ x_sameStates := Nat.le_trans (Nat.le_trans Z0 (Nat.le_trans gr15 K14.1)) (Nat.le_trans lx (Nat.le_of_lt (Nat.lt_trans lx0 (Nat.lt_trans lx1 lx2))))
    have lt_x_held := Vx_held.lt
    have g_x_held : n0 ≤ x_held := Nat.le_trans (Nat.le_trans Z0 (Nat.le_trans gr15 K14.1)) (Nat.le_trans lx (Nat.le_of_lt (Nat.lt_trans lx0 (Nat.lt_trans lx1 (Nat.lt_trans lx2 lx3)))))
    have lt_x_parents := Vx_parents.lt
    have g_x_parents : n0 ≤ x_parents := Nat.le_trans (Nat.le_trans Z0 (Nat.le_trans gr15 K14.1)) (Nat.le_trans lx (Nat.le_of_lt (Nat.lt_trans lx0 (Nat.lt_trans lx1 (Nat.lt_trans lx2 (Nat.lt_trans lx3 lx4))))))
    have lt_x_events := Vx_events.lt
    have g_x_events : n0 ≤ x_events := Nat.le_trans (Nat.le_trans Z0 (Nat.le_trans gr15 K14.1)) (Nat.le_trans lx (Nat.le_of_lt (Nat.lt_trans lx0 (Nat.lt_trans lx1 (Nat.lt_trans lx2 (Nat.lt_trans lx3 (Nat.lt_trans lx4 lx5)))))))
    have lt_x_ranks := Vx_ranks.lt
    have g_x_ranks : n0 ≤ x_ranks := Nat.le_trans (Nat.le_trans Z0 (Nat.le_trans gr15 K14.1)) (Nat.le_trans lx (Nat.le_of_lt (Nat.lt_trans lx0 (Nat.lt_trans lx1 (Nat.lt_trans lx2 (Nat.lt_trans lx3 (Nat.lt_trans lx4 (Nat.lt_trans lx5 lx6))))))))
    have lt_x_slots := Vx_slots.lt
    have g_x_slots : n0 ≤ x_slots := Nat.le_trans (Nat.le_trans Z0 (Nat.le_trans gr15 K14.1)) (Nat.le_trans lx (Nat.le_of_lt (Nat.lt_trans lx0 (Nat.lt_trans lx1 (Nat.lt_trans lx2 (Nat.lt_trans lx3 (Nat.lt_trans lx4 (Nat.lt_trans lx5 (Nat.lt_trans lx6 lx7)))))))))
    have lt_x_ranked := Vx_ranked.lt
    have g_x_ranked : n0 ≤ x_ranked := Nat.le_trans (Nat.le_trans Z0 (Nat.le_trans gr15 K14.1)) (Nat.le_trans lx (Nat.le_of_lt (Nat.lt_trans lx0 (Nat.lt_trans lx1 (Nat.lt_trans lx2 (Nat.lt_trans lx3 (Nat.lt_trans lx4 (Nat.lt_trans lx5 (Nat.lt_trans lx6 (Nat.lt_trans lx7 lx8))))))))))
    have lt_x_reached := Vx_reached.lt
    have g_x_reached : n0 ≤ x_reached := Nat.le_trans (Nat.le_trans Z0 (Nat.le_trans gr15 K14.1)) (Nat.le_trans lx (Nat.le_of_lt (Nat.lt_trans lx0 (Nat.lt_trans lx1 (Nat.lt_trans lx2 (Nat.lt_trans lx3 (Nat.lt_trans lx4 (Nat.lt_trans lx5 (Nat.lt_trans lx6 (Nat.lt_trans lx7 (Nat.lt_trans lx8 lxr)))))))))))
    have lt_x_taken := Vx_taken.lt
    have g_x_taken : n0 ≤ x_taken := Nat.le_trans (Nat.le_trans Z0 (Nat.le_trans gr15 K14.1)) (Nat.le_trans lx (Nat.le_of_lt (Nat.lt_trans lx0 (Nat.lt_trans lx1 (Nat.lt_trans lx2 (Nat.lt_trans lx3 (Nat.lt_trans lx4 (Nat.lt_trans lx5 (Nat.lt_trans lx6 (Nat.lt_trans lx7 (Nat.lt_trans lx8 (Nat.lt_trans lxr lx10))))))))))))
    have gr36 := (Nat.le_trans (Nat.le_trans (Nat.le_trans (Nat.le_trans (Nat.le_trans (Nat.le_trans (Keep.of_wr W2).1 E3.1) (Keep.of_wr W4).1) E5.1) (Keep.of_wr W7).1) E8.1) (Keep.of_wr W10).1)
    have l_b1 : b1 < b11 := (Nat.lt_of_lt_of_le lt_b1 (Nat.le_trans gr36 (Nat.le_of_eq g11.symm)))
    have gr37 := (Nat.le_trans (Nat.le_trans (Nat.le_trans (Nat.le_trans (Keep.of_wr W4).1 E5.1) (Keep.of_wr W7).1) E8.1) (Keep.of_wr W10).1)
    have l_b3 : b3 < b11 := (Nat.lt_of_lt_of_le lt_b3 (Nat.le_trans gr37 (Nat.le_of_eq g11.symm)))
    have gr38 := (Nat.le_trans (Nat.le_trans (Keep.of_wr W7).1 E8.1) (Keep.of_wr W10).1)
    have l_b5 : b5 < b11 := (Nat.lt_of_lt_of_le lt_b5 (Nat.le_trans gr38 (Nat.le_of_eq g11.symm)))
    have l_b8 : b8 < b11 := (Nat.lt_of_lt_of_le lt_b8 (Nat.le_trans (Keep.of_wr W10).1 (Nat.le_of_eq g11.symm)))
    have l_ob : b11 < b13 := (Nat.lt_of_lt_of_le lt_b11 (Nat.le_trans (Nat.le_refl _) (Nat.le_of_eq g13.symm)))
    have l_bu : b13 < x_states := (Nat.lt_of_lt_of_le lt_b13 (Nat.le_trans K14.1 lx))
    have rl_b11 : b11 < x_ranked := (Nat.lt_trans l_ob (Nat.lt_trans l_bu (Nat.lt_trans lx0 (Nat.lt_trans lx1 (Nat.lt_trans lx2 (Nat.lt_trans lx3 (Nat.lt_trans lx4 (Nat.lt_trans lx5 (Nat.lt_trans lx6 (Nat.lt_trans lx7 lx8))))))))))
    have rl_b13 : b13 < x_ranked := (Nat.lt_trans l_bu (Nat.lt_trans lx0 (Nat.lt_trans lx1 (Nat.lt_trans lx2 (Nat.lt_trans lx3 (Nat.lt_trans lx4 (Nat.lt_trans lx5 (Nat.lt_trans lx6 (Nat.lt_trans lx7 lx8)))))))))
    have rl_x_states : x_states < x_ranked := (Nat.lt_trans lx0 (Nat.lt_trans lx1 (Nat.lt_trans lx2 (Nat.lt_trans lx3 (Nat.lt_trans lx4 (Nat.lt_trans lx5 (Nat.lt_trans lx6 (Nat.lt_trans lx7 lx8))))))))
    have rl_x_hashes : x_hashes < x_ranked := (Nat.lt_trans lx1 (Nat.lt_trans lx2 (Nat.lt_trans lx3 (Nat.lt_trans lx4 (Nat.lt_trans lx5 (Nat.lt_trans lx6 (Nat.lt_trans lx7 lx8)))))))
    have rl_x_zones : x_zones < x_ranked := (Nat.lt_trans lx2 (Nat.lt_trans lx3 (Nat.lt_trans lx4 (Nat.lt_trans lx5 (Nat.lt_trans lx6 (Nat.lt_trans lx7 lx8))))))
    have rl_x_sameStates : x_sameStates < x_ranked := (Nat.lt_trans lx3 (Nat.lt_trans lx4 (Nat.lt_trans lx5 (Nat.lt_trans lx6 (Nat.lt_trans lx7 lx8)))))
    have rl_x_held : x_held < x_ranked := (Nat.lt_trans lx4 (Nat.lt_trans lx5 (Nat.lt_trans lx6 (Nat.lt_trans lx7 lx8))))
    have rl_x_parents : x_parents < x_ranked := (Nat.lt_trans lx5 (Nat.lt_trans lx6 (Nat.lt_trans lx7 lx8)))
    have rl_x_events : x_events < x_ranked := (Nat.lt_trans lx6 (Nat.lt_trans lx7 lx8))
    have rl_x_ranks : x_ranks < x_ranked := (Nat.lt_trans lx7 lx8)
    have rl_x_slots : x_slots < x_ranked := lx8
    have rl_held : b11 < x_held := (Nat.lt_trans l_ob (Nat.lt_trans l_bu (Nat.lt_trans lx0 (Nat.lt_trans lx1 (Nat.lt_trans lx2 lx3)))))
    have rg_taken : x_ranked + 3 < x_taken := Nat.lt_trans lx9 lx10
    have rl_b1 : b1 < x_ranked := Nat.lt_trans l_b1 rl_b11
    have rl_b3 : b3 < x_ranked := Nat.lt_trans l_b3 rl_b11
    have rl_b5 : b5 < x_ranked := Nat.lt_trans l_b5 rl_b11
    have rl_b8 : b8 < x_ranked := Nat.lt_trans l_b8 rl_b11
    show Go p e below (T16.setTop (mkF m 99 #[.val (.int p1), .val (.int p2), .val (.int p3), .val (.int p4), .val (.int p5), .val (.int kk0), .val (.int kk1), .val (.int kk2), .val (.int hk), .val (.int lf), .val (.ref b1), .val (.ref b3), .val (.ref b5), .val (.ref b8), .unset, .unset, .unset, .unset, .unset, .unset, .unset, .unset, .unset, .unset, .unset, .unset, .unset, .unset] [(.ref b11)])) _
    refine Gk.astore X16 hx (hb hby at_99) rfl #[.val (.int p1), .val (.int p2), .val (.int p3), .val (.int p4), .val (.int p5), .val (.int kk0), .val (.int kk1), .val (.int kk2), .val (.int hk), .val (.int lf), .val (.ref b1), .val (.ref b3), .val (.ref b5), .val (.ref b8), .val (.ref b11), .unset, .unset, .unset, .unset, .unset, .unset, .unset, .unset, .unset, .unset, .unset, .unset, .unset] rfl ?_
    refine Gk.aload X16 hx (hb hby at_101) rfl rfl ?_
    refine Gk.iconst X16 hx (hb hby at_103) (1 : Int32) rfl ?_
    refine Gk.iconst X16 hx (hb hby at_104) (3 : Int32) rfl ?_
    refine Gk.iload X16 hx (hb hby at_105) rfl ?_
    have H40 := (H35.keep K16)
    have gr41 := (Nat.le_trans (Nat.le_trans gr15 K14.1) K16.1)
    refine Gk.callV (argsL := [(.int (1 : Int32)), (.int (3 : Int32)), (.int lf)]) X16 hx hZ hown (rm4 l Z a0 hw [] b11 lf b13 x_states x_hashes x_zones x_sameStates x_held x_parents x_events x_ranks x_slots x_ranked x_reached x_taken kx_ranked kx_reached kx_taken kx_slots kx_events kx_zones (fun _ => .null) (fun _ => .null) T16.heap n0 (Nat.le_trans Z0 gr41) hlf H40 g_b11 (Nat.lt_trans l_ob l_bu) lx0 lx1 lx2 lx3 lx4 lx5 lx6 lx7 lx8 lxr lx10 Vx_ranked Vx_reached Vx_taken Vx_slots Vx_events Vx_zones Fx_states Fx_hashes Fx_zones Fx_sameStates Fx_held Fx_parents Fx_events Fx_ranks Fx_slots Fx_ranked Fx_reached Fx_taken Fx_budget Fx_width Fx_size Fx_lowest Fx_latestFirst) (hw _ (List.mem_of_getElem? (i := 56) rfl)) (hw _ (List.mem_of_getElem? (i := 57) rfl)) (notFace_of_selects (args := #[]) (mvT hZ (hw _ (List.mem_of_getElem? (i := 59) rfl)))) (hw _ (List.mem_of_getElem? (i := 59) rfl)) (hw _ (List.mem_of_getElem? (i := 58) rfl)) (by decide) (hw _ (List.mem_of_getElem? (i := 60) rfl)) (hw _ (List.mem_of_getElem? (i := 4) rfl)) rfl H40 pd_13 rfl rfl (by decide) (Nat.le_of_ble_eq_true rfl) (by decide) (by decide) (by rw [hml]; rfl)  rfl (hb hby at_107) ?_
    intro T39 L39 v39 X39 hQ39
    obtain ⟨rfl, N39q, K39, Fc39_states, Fc39_hashes, Fc39_zones, Fc39_sameStates, Fc39_held, Fc39_parents, Fc39_events, Fc39_ranks, Fc39_slots, Fc39_ranked, Fc39_reached, Fc39_taken, Fc39_budget, Fc39_width, Fc39_size, Fc39_lowest, Fc39_latestFirst, Vc39_reached, Vc39_taken, Vc39_slots⟩ := hQ39
    have N39 := Fr.app N16 N39q
    show Go p e below (T39.setTop (mkF m 110 #[.val (.int p1), .val (.int p2), .val (.int p3), .val (.int p4), .val (.int p5), .val (.int kk0), .val (.int kk1), .val (.int kk2), .val (.int hk), .val (.int lf), .val (.ref b1), .val (.ref b3), .val (.ref b5), .val (.ref b8), .val (.ref b11), .unset, .unset, .unset, .unset, .unset, .unset, .unset, .unset, .unset, .unset, .unset, .unset, .unset] [])) _
    refine Gk.aload X39 hx (hb hby at_110) rfl rfl ?_
    refine Gk.aload X39 hx (hb hby at_112) rfl rfl ?_
    refine Gk.iconst X39 hx (hb hby at_114) (0 : Int32) rfl ?_
    refine Gk.callS (argsL := [(.int (0 : Int32))]) X39 hx hZ hown (rm8_0 l Z a0 hw []  T39.heap n0 (Nat.le_trans Z0 (Nat.le_trans gr41 K39.1))) (hw _ (List.mem_of_getElem? (i := 77) rfl)) (hw _ (List.mem_of_getElem? (i := 78) rfl)) (hw _ (List.mem_of_getElem? (i := 79) rfl)) (hw _ (List.mem_of_getElem? (i := 80) rfl)) (by decide) rfl pd_14 rfl rfl (by decide) (Nat.le_of_ble_eq_true rfl) (by decide) (by decide) (by rw [hml]; rfl)  rfl (hb hby at_115) ?_
    intro T42 L42 v42 X42 hQ42
    obtain ⟨rfl, N42q, e42⟩ := hQ42
    have N42 := Fr.app N39 N42q
    show Go p e below (T42.setTop (mkF m 118 #[.val (.int p1), .val (.int p2), .val (.int p3), .val (.int p4), .val (.int p5), .val (.int kk0), .val (.int kk1), .val (.int kk2), .val (.int hk), .val (.int lf), .val (.ref b1), .val (.ref b3), .val (.ref b5), .val (.ref b8), .val (.ref b11), .unset, .unset, .unset, .unset, .unset, .unset, .unset, .unset, .unset, .unset, .unset, .unset, .unset] [(.int (0 : Int32)), (.ref b1), (.ref b11)])) _
    refine Gk.aconstNull X42 hx (hb hby at_118) ?_
    refine Gk.iconst X42 hx (hb hby at_119) (-1 : Int32) rfl ?_
    refine Gk.aconstNull X42 hx (hb hby at_120) ?_
    refine Gk.iload X42 hx (hb hby at_121) rfl ?_
    have hkn0 := own_tn3 d_kk0
    have Rw44 : ∀ i, i < 3 → Arf Z T39.heap (x_ranked + 1 + i) kx_rk .int (8 : Int32) (fun j => .int ((fun _ _ => (0 : Int32)) i j)) := fun i_ hi_ => ((Rwx i_ hi_).keep K39 (ninS (own_ra rl_b11) (ninS (own_rb lx9 hi_) (ninS (own_rb rg_taken hi_) (ninS (own_ra rl_x_slots) nin0)))))
    have H45 := (H40.keep K39)
    have H46 := (((A13.keep K14).keep K16).keep K39)
    have ne47 : x_states ≠ x_slots := (Nat.ne_of_lt (Nat.lt_trans lx0 (Nat.lt_trans lx1 (Nat.lt_trans lx2 (Nat.lt_trans lx3 (Nat.lt_trans lx4 (Nat.lt_trans lx5 (Nat.lt_trans lx6 lx7))))))))
    have ne48 : x_states ≠ x_taken := (Nat.ne_of_lt (Nat.lt_trans lx0 (Nat.lt_trans lx1 (Nat.lt_trans lx2 (Nat.lt_trans lx3 (Nat.lt_trans lx4 (Nat.lt_trans lx5 (Nat.lt_trans lx6 (Nat.lt_trans lx7 (Nat.lt_trans lx8 (Nat.lt_trans lxr lx10)))))))))))
    have ne49 : x_states ≠ x_reached := (Nat.ne_of_lt (Nat.lt_trans lx0 (Nat.lt_trans lx1 (Nat.lt_trans lx2 (Nat.lt_trans lx3 (Nat.lt_trans lx4 (Nat.lt_trans lx5 (Nat.lt_trans lx6 (Nat.lt_trans lx7 (Nat.lt_trans lx8 lxr))))))))))
    have ne50 : x_states ≠ b11 := (Nat.ne_of_gt (Nat.lt_of_lt_of_le lt_b11 (Nat.le_trans (Nat.le_trans E13.1 K14.1) lx)))
    have H51 := (Vx_states.keep K39 (ninS ne50 (ninS ne49 (ninS ne48 (ninS ne47 nin0)))))
    have ne52 : x_hashes ≠ x_slots := (Nat.ne_of_lt (Nat.lt_trans lx1 (Nat.lt_trans lx2 (Nat.lt_trans lx3 (Nat.lt_trans lx4 (Nat.lt_trans lx5 (Nat.lt_trans lx6 lx7)))))))
    have ne53 : x_hashes ≠ x_taken := (Nat.ne_of_lt (Nat.lt_trans lx1 (Nat.lt_trans lx2 (Nat.lt_trans lx3 (Nat.lt_trans lx4 (Nat.lt_trans lx5 (Nat.lt_trans lx6 (Nat.lt_trans lx7 (Nat.lt_trans lx8 (Nat.lt_trans lxr lx10))))))))))
    have ne54 : x_hashes ≠ x_reached := (Nat.ne_of_lt (Nat.lt_trans lx1 (Nat.lt_trans lx2 (Nat.lt_trans lx3 (Nat.lt_trans lx4 (Nat.lt_trans lx5 (Nat.lt_trans lx6 (Nat.lt_trans lx7 (Nat.lt_trans lx8 lxr)))))))))
    have ne55 : x_hashes ≠ b11 := (Nat.ne_of_gt (Nat.lt_of_lt_of_le lt_b11 (Nat.le_trans (Nat.le_trans E13.1 K14.1) (Nat.le_trans lx (Nat.le_of_lt lx0)))))
    have H56 := (Vx_hashes.keep K39 (ninS ne55 (ninS ne54 (ninS ne53 (ninS ne52 nin0)))))
    have ne57 : x_zones ≠ x_slots := (Nat.ne_of_lt (Nat.lt_trans lx2 (Nat.lt_trans lx3 (Nat.lt_trans lx4 (Nat.lt_trans lx5 (Nat.lt_trans lx6 lx7))))))
    have ne58 : x_zones ≠ x_taken := (Nat.ne_of_lt (Nat.lt_trans lx2 (Nat.lt_trans lx3 (Nat.lt_trans lx4 (Nat.lt_trans lx5 (Nat.lt_trans lx6 (Nat.lt_trans lx7 (Nat.lt_trans lx8 (Nat.lt_trans lxr lx10)))))))))
    have ne59 : x_zones ≠ x_reached := (Nat.ne_of_lt (Nat.lt_trans lx2 (Nat.lt_trans lx3 (Nat.lt_trans lx4 (Nat.lt_trans lx5 (Nat.lt_trans lx6 (Nat.lt_trans lx7 (Nat.lt_trans lx8 lxr))))))))
    have ne60 : x_zones ≠ b11 := (Nat.ne_of_gt (Nat.lt_of_lt_of_le lt_b11 (Nat.le_trans (Nat.le_trans E13.1 K14.1) (Nat.le_trans lx (Nat.le_of_lt (Nat.lt_trans lx0 lx1))))))
    have H61 := (Vx_zones.keep K39 (ninS ne60 (ninS ne59 (ninS ne58 (ninS ne57 nin0)))))
    have ne62 : x_sameStates ≠ x_slots := (Nat.ne_of_lt (Nat.lt_trans lx3 (Nat.lt_trans lx4 (Nat.lt_trans lx5 (Nat.lt_trans lx6 lx7)))))
    have ne63 : x_sameStates ≠ x_taken := (Nat.ne_of_lt (Nat.lt_trans lx3 (Nat.lt_trans lx4 (Nat.lt_trans lx5 (Nat.lt_trans lx6 (Nat.lt_trans lx7 (Nat.lt_trans lx8 (Nat.lt_trans lxr lx10))))))))
    have ne64 : x_sameStates ≠ x_reached := (Nat.ne_of_lt (Nat.lt_trans lx3 (Nat.lt_trans lx4 (Nat.lt_trans lx5 (Nat.lt_trans lx6 (Nat.lt_trans lx7 (Nat.lt_trans lx8 lxr)))))))
    have ne65 : x_sameStates ≠ b11 := (Nat.ne_of_gt (Nat.lt_of_lt_of_le lt_b11 (Nat.le_trans (Nat.le_trans E13.1 K14.1) (Nat.le_trans lx (Nat.le_of_lt (Nat.lt_trans lx0 (Nat.lt_trans lx1 lx2)))))))
    have H66 := (Vx_sameStates.keep K39 (ninS ne65 (ninS ne64 (ninS ne63 (ninS ne62 nin0)))))
    have ne67 : x_held ≠ x_slots := (Nat.ne_of_lt (Nat.lt_trans lx4 (Nat.lt_trans lx5 (Nat.lt_trans lx6 lx7))))
    have ne68 : x_held ≠ x_taken := (Nat.ne_of_lt (Nat.lt_trans lx4 (Nat.lt_trans lx5 (Nat.lt_trans lx6 (Nat.lt_trans lx7 (Nat.lt_trans lx8 (Nat.lt_trans lxr lx10)))))))
    have ne69 : x_held ≠ x_reached := (Nat.ne_of_lt (Nat.lt_trans lx4 (Nat.lt_trans lx5 (Nat.lt_trans lx6 (Nat.lt_trans lx7 (Nat.lt_trans lx8 lxr))))))
    have ne70 : x_held ≠ b11 := (Nat.ne_of_gt (Nat.lt_of_lt_of_le lt_b11 (Nat.le_trans (Nat.le_trans E13.1 K14.1) (Nat.le_trans lx (Nat.le_of_lt (Nat.lt_trans lx0 (Nat.lt_trans lx1 (Nat.lt_trans lx2 lx3))))))))
    have H71 := (Vx_held.keep K39 (ninS ne70 (ninS ne69 (ninS ne68 (ninS ne67 nin0)))))
    have ne72 : x_parents ≠ x_slots := (Nat.ne_of_lt (Nat.lt_trans lx5 (Nat.lt_trans lx6 lx7)))
    have ne73 : x_parents ≠ x_taken := (Nat.ne_of_lt (Nat.lt_trans lx5 (Nat.lt_trans lx6 (Nat.lt_trans lx7 (Nat.lt_trans lx8 (Nat.lt_trans lxr lx10))))))
    have ne74 : x_parents ≠ x_reached := (Nat.ne_of_lt (Nat.lt_trans lx5 (Nat.lt_trans lx6 (Nat.lt_trans lx7 (Nat.lt_trans lx8 lxr)))))
    have ne75 : x_parents ≠ b11 := (Nat.ne_of_gt (Nat.lt_of_lt_of_le lt_b11 (Nat.le_trans (Nat.le_trans E13.1 K14.1) (Nat.le_trans lx (Nat.le_of_lt (Nat.lt_trans lx0 (Nat.lt_trans lx1 (Nat.lt_trans lx2 (Nat.lt_trans lx3 lx4)))))))))
    have H76 := (Vx_parents.keep K39 (ninS ne75 (ninS ne74 (ninS ne73 (ninS ne72 nin0)))))
    have ne77 : x_events ≠ x_taken := (Nat.ne_of_lt (Nat.lt_trans lx6 (Nat.lt_trans lx7 (Nat.lt_trans lx8 (Nat.lt_trans lxr lx10)))))
    have ne78 : x_events ≠ x_reached := (Nat.ne_of_lt (Nat.lt_trans lx6 (Nat.lt_trans lx7 (Nat.lt_trans lx8 lxr))))
    have ne79 : x_events ≠ b11 := (Nat.ne_of_gt (Nat.lt_of_lt_of_le lt_b11 (Nat.le_trans (Nat.le_trans E13.1 K14.1) (Nat.le_trans lx (Nat.le_of_lt (Nat.lt_trans lx0 (Nat.lt_trans lx1 (Nat.lt_trans lx2 (Nat.lt_trans lx3 (Nat.lt_trans lx4 lx5))))))))))
    have ni80 : x_events ∉ [b11, x_reached, x_taken, x_slots] := (ninS ne79 (ninS ne78 (ninS ne77 (ninS (Nat.ne_of_lt (Nat.lt_trans lx6 lx7)) nin0))))
    have H81 := (Vx_events.keep K39 ni80)
    have ne82 : x_ranks ≠ x_taken := (Nat.ne_of_lt (Nat.lt_trans lx7 (Nat.lt_trans lx8 (Nat.lt_trans lxr lx10))))
    have ne83 : x_ranks ≠ x_reached := (Nat.ne_of_lt (Nat.lt_trans lx7 (Nat.lt_trans lx8 lxr)))
    have ne84 : x_ranks ≠ b11 := (Nat.ne_of_gt (Nat.lt_of_lt_of_le lt_b11 (Nat.le_trans (Nat.le_trans E13.1 K14.1) (Nat.le_trans lx (Nat.le_of_lt (Nat.lt_trans lx0 (Nat.lt_trans lx1 (Nat.lt_trans lx2 (Nat.lt_trans lx3 (Nat.lt_trans lx4 (Nat.lt_trans lx5 lx6)))))))))))
    have ni85 : x_ranks ∉ [b11, x_reached, x_taken, x_slots] := (ninS ne84 (ninS ne83 (ninS ne82 (ninS (Nat.ne_of_lt lx7) nin0))))
    have H86 := (Vx_ranks.keep K39 ni85)
    have ne87 : x_ranked ≠ b11 := (Nat.ne_of_gt (Nat.lt_of_lt_of_le lt_b11 (Nat.le_trans (Nat.le_trans E13.1 K14.1) (Nat.le_trans lx (Nat.le_of_lt (Nat.lt_trans lx0 (Nat.lt_trans lx1 (Nat.lt_trans lx2 (Nat.lt_trans lx3 (Nat.lt_trans lx4 (Nat.lt_trans lx5 (Nat.lt_trans lx6 (Nat.lt_trans lx7 lx8)))))))))))))
    have ni88 : x_ranked ∉ [b11, x_reached, x_taken, x_slots] := (ninS ne87 (ninS (Nat.ne_of_lt lxr) (ninS (Nat.ne_of_lt (Nat.lt_trans lxr lx10)) (ninS (Ne.symm (Nat.ne_of_lt lx8)) nin0))))
    have H89 := (Vx_ranked.keep K39 ni88)
    have ne90 : b1 ≠ b3 := (Nat.ne_of_lt (Nat.lt_of_lt_of_le lt_b1 (Nat.le_trans (Keep.of_wr W2).1 (Nat.le_of_eq g3.symm))))
    have gr91 := (Nat.le_trans (Nat.le_trans (Keep.of_wr W2).1 E3.1) (Keep.of_wr W4).1)
    have ne92 : b1 ≠ b5 := (Nat.ne_of_lt (Nat.lt_of_lt_of_le lt_b1 (Nat.le_trans gr91 (Nat.le_of_eq g5.symm))))
    have gr93 := (Nat.le_trans (Nat.le_trans gr91 E5.1) (Keep.of_wr W7).1)
    have ne94 : b1 ≠ b8 := (Nat.ne_of_lt (Nat.lt_of_lt_of_le lt_b1 (Nat.le_trans gr93 (Nat.le_of_eq g8.symm))))
    have ne95 : b1 ≠ b13 := (Nat.ne_of_lt (Nat.lt_of_lt_of_le lt_b1 (Nat.le_trans (Nat.le_trans gr36 E11.1) (Nat.le_of_eq g13.symm))))
    have ne96 : b1 ≠ b11 := (Nat.ne_of_lt (Nat.lt_of_lt_of_le lt_b1 (Nat.le_trans gr36 (Nat.le_of_eq g11.symm))))
    have gr97 := (Nat.le_trans (Nat.le_trans (Nat.le_trans gr36 E11.1) E13.1) K14.1)
    have ne98 : b1 ≠ x_slots := (Nat.ne_of_lt (Nat.lt_of_lt_of_le lt_b1 (Nat.le_trans gr97 (Nat.le_trans lx (Nat.le_of_lt (Nat.lt_trans lx0 (Nat.lt_trans lx1 (Nat.lt_trans lx2 (Nat.lt_trans lx3 (Nat.lt_trans lx4 (Nat.lt_trans lx5 (Nat.lt_trans lx6 lx7))))))))))))
    have ne99 : b1 ≠ x_taken := (Nat.ne_of_lt (Nat.lt_of_lt_of_le lt_b1 (Nat.le_trans gr97 (Nat.le_trans lx (Nat.le_of_lt (Nat.lt_trans lx0 (Nat.lt_trans lx1 (Nat.lt_trans lx2 (Nat.lt_trans lx3 (Nat.lt_trans lx4 (Nat.lt_trans lx5 (Nat.lt_trans lx6 (Nat.lt_trans lx7 (Nat.lt_trans lx8 (Nat.lt_trans lxr lx10)))))))))))))))
    have ne100 : b1 ≠ x_reached := (Nat.ne_of_lt (Nat.lt_of_lt_of_le lt_b1 (Nat.le_trans gr97 (Nat.le_trans lx (Nat.le_of_lt (Nat.lt_trans lx0 (Nat.lt_trans lx1 (Nat.lt_trans lx2 (Nat.lt_trans lx3 (Nat.lt_trans lx4 (Nat.lt_trans lx5 (Nat.lt_trans lx6 (Nat.lt_trans lx7 (Nat.lt_trans lx8 lxr))))))))))))))
    have H101 := (((((((((((V2.ext E3).other W4 ne90).ext E5).other W7 ne92).ext E8).other W10 ne94).ext E11).ext E13).keep K14 (ninS ne95 nin0)).keep K16 (ninS ne96 nin0)).keep K39 (ninS ne96 (ninS ne100 (ninS ne99 (ninS ne98 nin0)))))
    have ne102 : b13 ≠ x_slots := (Nat.ne_of_lt (Nat.lt_of_lt_of_le lt_b13 (Nat.le_trans K14.1 (Nat.le_trans lx (Nat.le_of_lt (Nat.lt_trans lx0 (Nat.lt_trans lx1 (Nat.lt_trans lx2 (Nat.lt_trans lx3 (Nat.lt_trans lx4 (Nat.lt_trans lx5 (Nat.lt_trans lx6 lx7))))))))))))
    have ne103 : b13 ≠ x_taken := (Nat.ne_of_lt (Nat.lt_of_lt_of_le lt_b13 (Nat.le_trans K14.1 (Nat.le_trans lx (Nat.le_of_lt (Nat.lt_trans lx0 (Nat.lt_trans lx1 (Nat.lt_trans lx2 (Nat.lt_trans lx3 (Nat.lt_trans lx4 (Nat.lt_trans lx5 (Nat.lt_trans lx6 (Nat.lt_trans lx7 (Nat.lt_trans lx8 (Nat.lt_trans lxr lx10)))))))))))))))
    have ne104 : b13 ≠ x_reached := (Nat.ne_of_lt (Nat.lt_of_lt_of_le lt_b13 (Nat.le_trans K14.1 (Nat.le_trans lx (Nat.le_of_lt (Nat.lt_trans lx0 (Nat.lt_trans lx1 (Nat.lt_trans lx2 (Nat.lt_trans lx3 (Nat.lt_trans lx4 (Nat.lt_trans lx5 (Nat.lt_trans lx6 (Nat.lt_trans lx7 (Nat.lt_trans lx8 lxr))))))))))))))
    have ni105 : b13 ∉ [b11, x_reached, x_taken, x_slots] := (ninS (Ne.symm ne17) (ninS ne104 (ninS ne103 (ninS ne102 nin0))))
    have H106 := ((Fl14.keep K16 (ninS (Ne.symm ne17) nin0)).keep K39 ni105)
    refine Gk.callV (argsL := [(.ref b1), (.int (0 : Int32)), .null, (.int (-1 : Int32)), .null, (.int kk0)]) X42 hx hZ hown (rm9_0 l Z a0 hw [] b11 b1 kk0 b13 x_states x_hashes x_zones x_sameStates x_held x_parents x_events x_ranks x_slots x_ranked x_reached x_taken (x_ranked + 1 + kk0.toNatClampNeg) kx_states kx_hashes kx_zones kx_sameStates kx_held kx_parents kx_events kx_ranks kx_slots kx_ranked kx_reached kx_rk (fun _ => (.int (0 : Int32))) (fun _ => (.int (0 : Int32))) (fun _ => .null) (fun _ => (.int (0 : Int32))) (fun _ => (.int (0 : Int32))) (fun _ => .null) (fun _ => (.int (0 : Int32))) (fun _ => (.int (0 : Int32))) k1 (upd (fun _ => (.int (0 : Int32))) 0 (.int (0 : Int32))) (fun _ => (0 : Int32)) ((fun _ _ => (0 : Int32)) kk0.toNatClampNeg) lf T39.heap n0 (Nat.le_trans Z0 (Nat.le_trans gr41 K39.1)) H45 H46 g_b11 l_b1 l_ob l_bu lx0 lx1 lx2 lx3 lx4 lx5 lx6 lx7 lx8 (own_y1 _ _) (own_y2 lx9 hkn0) H51 H56 H61 H66 H71 H76 H81 H86 Vc39_slots H89 Vc39_reached H101 rfl (Rw44 kk0.toNatClampNeg hkn0) rfl (own_in3 d_kk0) ⟨by decide, by decide⟩ rfl Fc39_states Fc39_hashes Fc39_zones Fc39_sameStates Fc39_held Fc39_parents Fc39_events Fc39_ranks Fc39_slots Fc39_ranked Fc39_reached Fc39_taken Fc39_budget Fc39_width Fc39_size Fc39_lowest Fc39_latestFirst H106) (hw _ (List.mem_of_getElem? (i := 83) rfl)) (hw _ (List.mem_of_getElem? (i := 84) rfl)) (notFace_of_selects (args := #[]) (mvT hZ (hw _ (List.mem_of_getElem? (i := 86) rfl)))) (hw _ (List.mem_of_getElem? (i := 86) rfl)) (hw _ (List.mem_of_getElem? (i := 85) rfl)) (by decide) (hw _ (List.mem_of_getElem? (i := 87) rfl)) (hw _ (List.mem_of_getElem? (i := 4) rfl)) e42 H45 pd_15 rfl rfl (by decide) (Nat.le_of_ble_eq_true rfl) (by decide) (by decide) (by rw [hml]; rfl)  rfl (hb hby at_123) ?_
    intro T43 L43 v43 X43 hQ43
    obtain ⟨rfl, N43q, K43, Fl43, Fa43_states, Fa43_hashes, Fa43_zones, Fa43_sameStates, Fa43_held, Fa43_parents, Fa43_events, Fa43_ranks, Fa43_slots, Fa43_ranked, Fa43_reached, Fa43_taken, Fa43_budget, Fa43_width, Fa43_size, Fa43_lowest, Fa43_latestFirst, Va43_slots, Va43_hashes, Va43_states, Va43_sameStates, Va43_held, Va43_reached', Va43_row, ⟨fa43_zones, Va43_zones⟩, ⟨fa43_parents, Va43_parents⟩, ⟨fa43_events, Va43_events⟩, ⟨fa43_ranks, Va43_ranks⟩⟩ := hQ43
    have N43 := Fr.app N42 N43q
    have Va43_reached : Arf Z T43.heap x_reached kx_reached .int (3 : Int32) (fun i => .int ((Rr1 kk0) i)) := Va43_reached'
    have Rw43 : ∀ i, i < 3 → Arf Z T43.heap (x_ranked + 1 + i) kx_rk .int (8 : Int32) (fun j => .int ((Ww1 kk0) i j)) := own_rows Rw44 Va43_row K43 (fun i_ hi_ hne_ => (ninS (own_ra rl_b11) (ninS (own_ra rl_b13) (ninS (own_rc hne_) (ninS (own_ra rl_x_states) (ninS (own_ra rl_x_hashes) (ninS (own_ra rl_x_zones) (ninS (own_ra rl_x_sameStates) (ninS (own_ra rl_x_held) (ninS (own_ra rl_x_parents) (ninS (own_ra rl_x_events) (ninS (own_ra rl_x_ranks) (ninS (own_ra rl_x_slots) (ninS (own_rb lx9 hi_) nin0))))))))))))))
    show Go p e below (T43.setTop (mkF m 126 #[.val (.int p1), .val (.int p2), .val (.int p3), .val (.int p4), .val (.int p5), .val (.int kk0), .val (.int kk1), .val (.int kk2), .val (.int hk), .val (.int lf), .val (.ref b1), .val (.ref b3), .val (.ref b5), .val (.ref b8), .val (.ref b11), .unset, .unset, .unset, .unset, .unset, .unset, .unset, .unset, .unset, .unset, .unset, .unset, .unset] [])) _
    refine Gk.aload X43 hx (hb hby at_126) rfl rfl ?_
    refine Gk.aload X43 hx (hb hby at_128) rfl rfl ?_
    refine Gk.iconst X43 hx (hb hby at_130) (1 : Int32) rfl ?_
    have gr108 := (Nat.le_trans (Nat.le_trans gr41 K39.1) K43.1)
    refine Gk.callS (argsL := [(.int (1 : Int32))]) X43 hx hZ hown (rm8_1 l Z a0 hw []  T43.heap n0 (Nat.le_trans Z0 gr108)) (hw _ (List.mem_of_getElem? (i := 77) rfl)) (hw _ (List.mem_of_getElem? (i := 78) rfl)) (hw _ (List.mem_of_getElem? (i := 79) rfl)) (hw _ (List.mem_of_getElem? (i := 80) rfl)) (by decide) rfl pd_14 rfl rfl (by decide) (Nat.le_of_ble_eq_true rfl) (by decide) (by decide) (by rw [hml]; rfl)  rfl (hb hby at_131) ?_
    intro T107 L107 v107 X107 hQ107
    obtain ⟨rfl, N107q, e107⟩ := hQ107
    have N107 := Fr.app N43 N107q
    show Go p e below (T107.setTop (mkF m 134 #[.val (.int p1), .val (.int p2), .val (.int p3), .val (.int p4), .val (.int p5), .val (.int kk0), .val (.int kk1), .val (.int kk2), .val (.int hk), .val (.int lf), .val (.ref b1), .val (.ref b3), .val (.ref b5), .val (.ref b8), .val (.ref b11), .unset, .unset, .unset, .unset, .unset, .unset, .unset, .unset, .unset, .unset, .unset, .unset, .unset] [(.int (-511900244 : Int32)), (.ref b3), (.ref b11)])) _
    refine Gk.aconstNull X107 hx (hb hby at_134) ?_
    refine Gk.iconst X107 hx (hb hby at_135) (-1 : Int32) rfl ?_
    refine Gk.aconstNull X107 hx (hb hby at_136) ?_
    refine Gk.iload X107 hx (hb hby at_137) rfl ?_
    have hkn1 := own_tn3 d_kk1
    have H110 := (H45.keep K43)
    have H111 := (H46.keep K43)
    have ne112 : x_events ≠ x_ranked := (Nat.ne_of_lt (Nat.lt_trans lx6 (Nat.lt_trans lx7 lx8)))
    have ne113 : x_parents ≠ x_ranked := (Nat.ne_of_lt (Nat.lt_trans lx5 (Nat.lt_trans lx6 (Nat.lt_trans lx7 lx8))))
    have ne114 : x_held ≠ x_ranked := (Nat.ne_of_lt (Nat.lt_trans lx4 (Nat.lt_trans lx5 (Nat.lt_trans lx6 (Nat.lt_trans lx7 lx8)))))
    have ne115 : x_sameStates ≠ x_ranked := (Nat.ne_of_lt (Nat.lt_trans lx3 (Nat.lt_trans lx4 (Nat.lt_trans lx5 (Nat.lt_trans lx6 (Nat.lt_trans lx7 lx8))))))
    have ne116 : x_zones ≠ x_ranked := (Nat.ne_of_lt (Nat.lt_trans lx2 (Nat.lt_trans lx3 (Nat.lt_trans lx4 (Nat.lt_trans lx5 (Nat.lt_trans lx6 (Nat.lt_trans lx7 lx8)))))))
    have ne117 : x_hashes ≠ x_ranked := (Nat.ne_of_lt (Nat.lt_trans lx1 (Nat.lt_trans lx2 (Nat.lt_trans lx3 (Nat.lt_trans lx4 (Nat.lt_trans lx5 (Nat.lt_trans lx6 (Nat.lt_trans lx7 lx8))))))))
    have ne118 : x_states ≠ x_ranked := (Nat.ne_of_lt (Nat.lt_trans lx0 (Nat.lt_trans lx1 (Nat.lt_trans lx2 (Nat.lt_trans lx3 (Nat.lt_trans lx4 (Nat.lt_trans lx5 (Nat.lt_trans lx6 (Nat.lt_trans lx7 lx8)))))))))
    have ne119 : x_ranked ≠ b13 := (Nat.ne_of_gt (Nat.lt_of_lt_of_le lt_b13 (Nat.le_trans K14.1 (Nat.le_trans lx (Nat.le_of_lt (Nat.lt_trans lx0 (Nat.lt_trans lx1 (Nat.lt_trans lx2 (Nat.lt_trans lx3 (Nat.lt_trans lx4 (Nat.lt_trans lx5 (Nat.lt_trans lx6 (Nat.lt_trans lx7 lx8)))))))))))))
    have ni120 : x_ranked ∉ [b11, b13, (x_ranked + 1 + kk0.toNatClampNeg), x_states, x_hashes, x_zones, x_sameStates, x_held, x_parents, x_events, x_ranks, x_slots, x_reached] := (ninS ne87 (ninS ne119 (ninS (Nat.ne_of_lt (own_y1 _ _)) (ninS (Ne.symm ne118) (ninS (Ne.symm ne117) (ninS (Ne.symm ne116) (ninS (Ne.symm ne115) (ninS (Ne.symm ne114) (ninS (Ne.symm ne113) (ninS (Ne.symm ne112) (ninS (Ne.symm (Nat.ne_of_lt (Nat.lt_trans lx7 lx8))) (ninS (Ne.symm (Nat.ne_of_lt lx8)) (ninS (Nat.ne_of_lt lxr) nin0)))))))))))))
    have H121 := (H89.keep K43 ni120)
    have ne122 : b3 ≠ b5 := (Nat.ne_of_lt (Nat.lt_of_lt_of_le lt_b3 (Nat.le_trans (Keep.of_wr W4).1 (Nat.le_of_eq g5.symm))))
    have gr123 := (Nat.le_trans (Nat.le_trans (Keep.of_wr W4).1 E5.1) (Keep.of_wr W7).1)
    have ne124 : b3 ≠ b8 := (Nat.ne_of_lt (Nat.lt_of_lt_of_le lt_b3 (Nat.le_trans gr123 (Nat.le_of_eq g8.symm))))
    have ne125 : b3 ≠ b13 := (Nat.ne_of_lt (Nat.lt_of_lt_of_le lt_b3 (Nat.le_trans (Nat.le_trans gr37 E11.1) (Nat.le_of_eq g13.symm))))
    have ne126 : b3 ≠ b11 := (Nat.ne_of_lt (Nat.lt_of_lt_of_le lt_b3 (Nat.le_trans gr37 (Nat.le_of_eq g11.symm))))
    have gr127 := (Nat.le_trans (Nat.le_trans (Nat.le_trans gr37 E11.1) E13.1) K14.1)
    have ne128 : b3 ≠ x_slots := (Nat.ne_of_lt (Nat.lt_of_lt_of_le lt_b3 (Nat.le_trans gr127 (Nat.le_trans lx (Nat.le_of_lt (Nat.lt_trans lx0 (Nat.lt_trans lx1 (Nat.lt_trans lx2 (Nat.lt_trans lx3 (Nat.lt_trans lx4 (Nat.lt_trans lx5 (Nat.lt_trans lx6 lx7))))))))))))
    have ne129 : b3 ≠ x_taken := (Nat.ne_of_lt (Nat.lt_of_lt_of_le lt_b3 (Nat.le_trans gr127 (Nat.le_trans lx (Nat.le_of_lt (Nat.lt_trans lx0 (Nat.lt_trans lx1 (Nat.lt_trans lx2 (Nat.lt_trans lx3 (Nat.lt_trans lx4 (Nat.lt_trans lx5 (Nat.lt_trans lx6 (Nat.lt_trans lx7 (Nat.lt_trans lx8 (Nat.lt_trans lxr lx10)))))))))))))))
    have ne130 : b3 ≠ x_reached := (Nat.ne_of_lt (Nat.lt_of_lt_of_le lt_b3 (Nat.le_trans gr127 (Nat.le_trans lx (Nat.le_of_lt (Nat.lt_trans lx0 (Nat.lt_trans lx1 (Nat.lt_trans lx2 (Nat.lt_trans lx3 (Nat.lt_trans lx4 (Nat.lt_trans lx5 (Nat.lt_trans lx6 (Nat.lt_trans lx7 (Nat.lt_trans lx8 lxr))))))))))))))
    have ne131 : b3 ≠ x_ranks := (Nat.ne_of_lt (Nat.lt_of_lt_of_le lt_b3 (Nat.le_trans gr127 (Nat.le_trans lx (Nat.le_of_lt (Nat.lt_trans lx0 (Nat.lt_trans lx1 (Nat.lt_trans lx2 (Nat.lt_trans lx3 (Nat.lt_trans lx4 (Nat.lt_trans lx5 lx6)))))))))))
    have ne132 : b3 ≠ x_events := (Nat.ne_of_lt (Nat.lt_of_lt_of_le lt_b3 (Nat.le_trans gr127 (Nat.le_trans lx (Nat.le_of_lt (Nat.lt_trans lx0 (Nat.lt_trans lx1 (Nat.lt_trans lx2 (Nat.lt_trans lx3 (Nat.lt_trans lx4 lx5))))))))))
    have ne133 : b3 ≠ x_parents := (Nat.ne_of_lt (Nat.lt_of_lt_of_le lt_b3 (Nat.le_trans gr127 (Nat.le_trans lx (Nat.le_of_lt (Nat.lt_trans lx0 (Nat.lt_trans lx1 (Nat.lt_trans lx2 (Nat.lt_trans lx3 lx4)))))))))
    have ne134 : b3 ≠ x_held := (Nat.ne_of_lt (Nat.lt_of_lt_of_le lt_b3 (Nat.le_trans gr127 (Nat.le_trans lx (Nat.le_of_lt (Nat.lt_trans lx0 (Nat.lt_trans lx1 (Nat.lt_trans lx2 lx3))))))))
    have ne135 : b3 ≠ x_sameStates := (Nat.ne_of_lt (Nat.lt_of_lt_of_le lt_b3 (Nat.le_trans gr127 (Nat.le_trans lx (Nat.le_of_lt (Nat.lt_trans lx0 (Nat.lt_trans lx1 lx2)))))))
    have ne136 : b3 ≠ x_zones := (Nat.ne_of_lt (Nat.lt_of_lt_of_le lt_b3 (Nat.le_trans gr127 (Nat.le_trans lx (Nat.le_of_lt (Nat.lt_trans lx0 lx1))))))
    have ne137 : b3 ≠ x_hashes := (Nat.ne_of_lt (Nat.lt_of_lt_of_le lt_b3 (Nat.le_trans gr127 (Nat.le_trans lx (Nat.le_of_lt lx0)))))
    have ne138 : b3 ≠ x_states := (Nat.ne_of_lt (Nat.lt_of_lt_of_le lt_b3 (Nat.le_trans gr127 lx)))
    have ni139 : b3 ∉ [b11, b13, (x_ranked + 1 + kk0.toNatClampNeg), x_states, x_hashes, x_zones, x_sameStates, x_held, x_parents, x_events, x_ranks, x_slots, x_reached] := (ninS ne126 (ninS ne125 (ninS (Ne.symm (own_ra rl_b3)) (ninS ne138 (ninS ne137 (ninS ne136 (ninS ne135 (ninS ne134 (ninS ne133 (ninS ne132 (ninS ne131 (ninS ne128 (ninS ne130 nin0)))))))))))))
    have H140 := ((((((((((V4.ext E5).other W7 ne122).ext E8).other W10 ne124).ext E11).ext E13).keep K14 (ninS ne125 nin0)).keep K16 (ninS ne126 nin0)).keep K39 (ninS ne126 (ninS ne130 (ninS ne129 (ninS ne128 nin0))))).keep K43 ni139)
    refine Gk.callV (argsL := [(.ref b3), (.int (-511900244 : Int32)), .null, (.int (-1 : Int32)), .null, (.int kk1)]) X107 hx hZ hown (rm9_1 l Z a0 hw [] b11 b3 kk1 b13 x_states x_hashes x_zones x_sameStates x_held x_parents x_events x_ranks x_slots x_ranked x_reached x_taken (x_ranked + 1 + kk1.toNatClampNeg) kx_states kx_hashes kx_zones kx_sameStates kx_held kx_parents kx_events kx_ranks kx_slots kx_ranked kx_reached kx_rk (upd (fun _ => (.int (0 : Int32))) 0 (.int (0 : Int32))) (upd (fun _ => (.int (0 : Int32))) 0 (.int (0 : Int32))) fa43_zones (upd (fun _ => (.int (0 : Int32))) 0 (.int (-1 : Int32))) fa43_parents fa43_events fa43_ranks (upd (fun _ => (.int (0 : Int32))) 0 (.int (1 : Int32))) k3 (upd (fun _ => (.int (0 : Int32))) 0 (.int (1 : Int32))) (Rr1 kk0) ((Ww1 kk0) kk1.toNatClampNeg) lf T43.heap n0 (Nat.le_trans Z0 gr108) H110 H111 g_b11 l_b3 l_ob l_bu lx0 lx1 lx2 lx3 lx4 lx5 lx6 lx7 lx8 (own_y1 _ _) (own_y2 lx9 hkn1) Va43_states Va43_hashes Va43_zones Va43_sameStates Va43_held Va43_parents Va43_events Va43_ranks Va43_slots H121 Va43_reached H140 rfl (Rw43 kk1.toNatClampNeg hkn1) rfl (own_in3 d_kk1) (own_r1 d_kk0 d_kk1) rfl Fa43_states Fa43_hashes Fa43_zones Fa43_sameStates Fa43_held Fa43_parents Fa43_events Fa43_ranks Fa43_slots Fa43_ranked Fa43_reached Fa43_taken Fa43_budget Fa43_width Fa43_size Fa43_lowest Fa43_latestFirst Fl43) (hw _ (List.mem_of_getElem? (i := 83) rfl)) (hw _ (List.mem_of_getElem? (i := 84) rfl)) (notFace_of_selects (args := #[]) (mvT hZ (hw _ (List.mem_of_getElem? (i := 86) rfl)))) (hw _ (List.mem_of_getElem? (i := 86) rfl)) (hw _ (List.mem_of_getElem? (i := 85) rfl)) (by decide) (hw _ (List.mem_of_getElem? (i := 87) rfl)) (hw _ (List.mem_of_getElem? (i := 4) rfl)) e107 H110 pd_15 rfl rfl (by decide) (Nat.le_of_ble_eq_true rfl) (by decide) (by decide) (by rw [hml]; rfl)  rfl (hb hby at_139) ?_
    intro T109 L109 v109 X109 hQ109
    obtain ⟨rfl, N109q, K109, Fl109, Fa109_states, Fa109_hashes, Fa109_zones, Fa109_sameStates, Fa109_held, Fa109_parents, Fa109_events, Fa109_ranks, Fa109_slots, Fa109_ranked, Fa109_reached, Fa109_taken, Fa109_budget, Fa109_width, Fa109_size, Fa109_lowest, Fa109_latestFirst, Va109_slots, Va109_hashes, Va109_states, Va109_sameStates, Va109_held, Va109_reached', Va109_row, ⟨fa109_zones, Va109_zones⟩, ⟨fa109_parents, Va109_parents⟩, ⟨fa109_events, Va109_events⟩, ⟨fa109_ranks, Va109_ranks⟩⟩ := hQ109
    have N109 := Fr.app N107 N109q
    have Va109_reached : Arf Z T109.heap x_reached kx_reached .int (3 : Int32) (fun i => .int ((Rr2 kk0 kk1) i)) := Va109_reached'
    have Rw109 : ∀ i, i < 3 → Arf Z T109.heap (x_ranked + 1 + i) kx_rk .int (8 : Int32) (fun j => .int ((Ww2 kk0 kk1) i j)) := own_rows Rw43 Va109_row K109 (fun i_ hi_ hne_ => (ninS (own_ra rl_b11) (ninS (own_ra rl_b13) (ninS (own_rc hne_) (ninS (own_ra rl_x_states) (ninS (own_ra rl_x_hashes) (ninS (own_ra rl_x_zones) (ninS (own_ra rl_x_sameStates) (ninS (own_ra rl_x_held) (ninS (own_ra rl_x_parents) (ninS (own_ra rl_x_events) (ninS (own_ra rl_x_ranks) (ninS (own_ra rl_x_slots) (ninS (own_rb lx9 hi_) nin0))))))))))))))
    show Go p e below (T109.setTop (mkF m 142 #[.val (.int p1), .val (.int p2), .val (.int p3), .val (.int p4), .val (.int p5), .val (.int kk0), .val (.int kk1), .val (.int kk2), .val (.int hk), .val (.int lf), .val (.ref b1), .val (.ref b3), .val (.ref b5), .val (.ref b8), .val (.ref b11), .unset, .unset, .unset, .unset, .unset, .unset, .unset, .unset, .unset, .unset, .unset, .unset, .unset] [])) _
    refine Gk.aload X109 hx (hb hby at_142) rfl rfl ?_
    refine Gk.aload X109 hx (hb hby at_144) rfl rfl ?_
    refine Gk.iconst X109 hx (hb hby at_146) (2 : Int32) rfl ?_
    refine Gk.callS (argsL := [(.int (2 : Int32))]) X109 hx hZ hown (rm8_2 l Z a0 hw []  T109.heap n0 (Nat.le_trans Z0 (Nat.le_trans gr108 K109.1))) (hw _ (List.mem_of_getElem? (i := 77) rfl)) (hw _ (List.mem_of_getElem? (i := 78) rfl)) (hw _ (List.mem_of_getElem? (i := 79) rfl)) (hw _ (List.mem_of_getElem? (i := 80) rfl)) (by decide) rfl pd_14 rfl rfl (by decide) (Nat.le_of_ble_eq_true rfl) (by decide) (by decide) (by rw [hml]; rfl)  rfl (hb hby at_147) ?_
    intro T141 L141 v141 X141 hQ141
    obtain ⟨rfl, N141q, e141⟩ := hQ141
    have N141 := Fr.app N109 N141q
    show Go p e below (T141.setTop (mkF m 150 #[.val (.int p1), .val (.int p2), .val (.int p3), .val (.int p4), .val (.int p5), .val (.int kk0), .val (.int kk1), .val (.int kk2), .val (.int hk), .val (.int lf), .val (.ref b1), .val (.ref b3), .val (.ref b5), .val (.ref b8), .val (.ref b11), .unset, .unset, .unset, .unset, .unset, .unset, .unset, .unset, .unset, .unset, .unset, .unset, .unset] [(.int (-1023800488 : Int32)), (.ref b5), (.ref b11)])) _
    refine Gk.aconstNull X141 hx (hb hby at_150) ?_
    refine Gk.iconst X141 hx (hb hby at_151) (-1 : Int32) rfl ?_
    refine Gk.aconstNull X141 hx (hb hby at_152) ?_
    refine Gk.iload X141 hx (hb hby at_153) rfl ?_
    have hkn2 := own_tn3 d_kk2
    have H143 := (H110.keep K109)
    have H144 := (H111.keep K109)
    have ni145 : x_ranked ∉ [b11, b13, (x_ranked + 1 + kk1.toNatClampNeg), x_states, x_hashes, x_zones, x_sameStates, x_held, x_parents, x_events, x_ranks, x_slots, x_reached] := (ninS ne87 (ninS ne119 (ninS (Nat.ne_of_lt (own_y1 _ _)) (ninS (Ne.symm ne118) (ninS (Ne.symm ne117) (ninS (Ne.symm ne116) (ninS (Ne.symm ne115) (ninS (Ne.symm ne114) (ninS (Ne.symm ne113) (ninS (Ne.symm ne112) (ninS (Ne.symm (Nat.ne_of_lt (Nat.lt_trans lx7 lx8))) (ninS (Ne.symm (Nat.ne_of_lt lx8)) (ninS (Nat.ne_of_lt lxr) nin0)))))))))))))
    have H146 := (H121.keep K109 ni145)
    have ne147 : b5 ≠ b8 := (Nat.ne_of_lt (Nat.lt_of_lt_of_le lt_b5 (Nat.le_trans (Keep.of_wr W7).1 (Nat.le_of_eq g8.symm))))
    have ne148 : b5 ≠ b13 := (Nat.ne_of_lt (Nat.lt_of_lt_of_le lt_b5 (Nat.le_trans (Nat.le_trans gr38 E11.1) (Nat.le_of_eq g13.symm))))
    have ne149 : b5 ≠ b11 := (Nat.ne_of_lt (Nat.lt_of_lt_of_le lt_b5 (Nat.le_trans gr38 (Nat.le_of_eq g11.symm))))
    have gr150 := (Nat.le_trans (Nat.le_trans (Nat.le_trans gr38 E11.1) E13.1) K14.1)
    have ne151 : b5 ≠ x_slots := (Nat.ne_of_lt (Nat.lt_of_lt_of_le lt_b5 (Nat.le_trans gr150 (Nat.le_trans lx (Nat.le_of_lt (Nat.lt_trans lx0 (Nat.lt_trans lx1 (Nat.lt_trans lx2 (Nat.lt_trans lx3 (Nat.lt_trans lx4 (Nat.lt_trans lx5 (Nat.lt_trans lx6 lx7))))))))))))
    have ne152 : b5 ≠ x_taken := (Nat.ne_of_lt (Nat.lt_of_lt_of_le lt_b5 (Nat.le_trans gr150 (Nat.le_trans lx (Nat.le_of_lt (Nat.lt_trans lx0 (Nat.lt_trans lx1 (Nat.lt_trans lx2 (Nat.lt_trans lx3 (Nat.lt_trans lx4 (Nat.lt_trans lx5 (Nat.lt_trans lx6 (Nat.lt_trans lx7 (Nat.lt_trans lx8 (Nat.lt_trans lxr lx10)))))))))))))))
    have ne153 : b5 ≠ x_reached := (Nat.ne_of_lt (Nat.lt_of_lt_of_le lt_b5 (Nat.le_trans gr150 (Nat.le_trans lx (Nat.le_of_lt (Nat.lt_trans lx0 (Nat.lt_trans lx1 (Nat.lt_trans lx2 (Nat.lt_trans lx3 (Nat.lt_trans lx4 (Nat.lt_trans lx5 (Nat.lt_trans lx6 (Nat.lt_trans lx7 (Nat.lt_trans lx8 lxr))))))))))))))
    have ne154 : b5 ≠ x_ranks := (Nat.ne_of_lt (Nat.lt_of_lt_of_le lt_b5 (Nat.le_trans gr150 (Nat.le_trans lx (Nat.le_of_lt (Nat.lt_trans lx0 (Nat.lt_trans lx1 (Nat.lt_trans lx2 (Nat.lt_trans lx3 (Nat.lt_trans lx4 (Nat.lt_trans lx5 lx6)))))))))))
    have ne155 : b5 ≠ x_events := (Nat.ne_of_lt (Nat.lt_of_lt_of_le lt_b5 (Nat.le_trans gr150 (Nat.le_trans lx (Nat.le_of_lt (Nat.lt_trans lx0 (Nat.lt_trans lx1 (Nat.lt_trans lx2 (Nat.lt_trans lx3 (Nat.lt_trans lx4 lx5))))))))))
    have ne156 : b5 ≠ x_parents := (Nat.ne_of_lt (Nat.lt_of_lt_of_le lt_b5 (Nat.le_trans gr150 (Nat.le_trans lx (Nat.le_of_lt (Nat.lt_trans lx0 (Nat.lt_trans lx1 (Nat.lt_trans lx2 (Nat.lt_trans lx3 lx4)))))))))
    have ne157 : b5 ≠ x_held := (Nat.ne_of_lt (Nat.lt_of_lt_of_le lt_b5 (Nat.le_trans gr150 (Nat.le_trans lx (Nat.le_of_lt (Nat.lt_trans lx0 (Nat.lt_trans lx1 (Nat.lt_trans lx2 lx3))))))))
    have ne158 : b5 ≠ x_sameStates := (Nat.ne_of_lt (Nat.lt_of_lt_of_le lt_b5 (Nat.le_trans gr150 (Nat.le_trans lx (Nat.le_of_lt (Nat.lt_trans lx0 (Nat.lt_trans lx1 lx2)))))))
    have ne159 : b5 ≠ x_zones := (Nat.ne_of_lt (Nat.lt_of_lt_of_le lt_b5 (Nat.le_trans gr150 (Nat.le_trans lx (Nat.le_of_lt (Nat.lt_trans lx0 lx1))))))
    have ne160 : b5 ≠ x_hashes := (Nat.ne_of_lt (Nat.lt_of_lt_of_le lt_b5 (Nat.le_trans gr150 (Nat.le_trans lx (Nat.le_of_lt lx0)))))
    have ne161 : b5 ≠ x_states := (Nat.ne_of_lt (Nat.lt_of_lt_of_le lt_b5 (Nat.le_trans gr150 lx)))
    have ni162 : b5 ∉ [b11, b13, (x_ranked + 1 + kk0.toNatClampNeg), x_states, x_hashes, x_zones, x_sameStates, x_held, x_parents, x_events, x_ranks, x_slots, x_reached] := (ninS ne149 (ninS ne148 (ninS (Ne.symm (own_ra rl_b5)) (ninS ne161 (ninS ne160 (ninS ne159 (ninS ne158 (ninS ne157 (ninS ne156 (ninS ne155 (ninS ne154 (ninS ne151 (ninS ne153 nin0)))))))))))))
    have ni163 : b5 ∉ [b11, b13, (x_ranked + 1 + kk1.toNatClampNeg), x_states, x_hashes, x_zones, x_sameStates, x_held, x_parents, x_events, x_ranks, x_slots, x_reached] := (ninS ne149 (ninS ne148 (ninS (Ne.symm (own_ra rl_b5)) (ninS ne161 (ninS ne160 (ninS ne159 (ninS ne158 (ninS ne157 (ninS ne156 (ninS ne155 (ninS ne154 (ninS ne151 (ninS ne153 nin0)))))))))))))
    have H164 := (((((((((V7.ext E8).other W10 ne147).ext E11).ext E13).keep K14 (ninS ne148 nin0)).keep K16 (ninS ne149 nin0)).keep K39 (ninS ne149 (ninS ne153 (ninS ne152 (ninS ne151 nin0))))).keep K43 ni162).keep K109 ni163)
    refine Gk.callV (argsL := [(.ref b5), (.int (-1023800488 : Int32)), .null, (.int (-1 : Int32)), .null, (.int kk2)]) X141 hx hZ hown (rm9_2 l Z a0 hw [] b11 b5 kk2 b13 x_states x_hashes x_zones x_sameStates x_held x_parents x_events x_ranks x_slots x_ranked x_reached x_taken (x_ranked + 1 + kk2.toNatClampNeg) kx_states kx_hashes kx_zones kx_sameStates kx_held kx_parents kx_events kx_ranks kx_slots kx_ranked kx_reached kx_rk (upd (upd (fun _ => (.int (0 : Int32))) 0 (.int (0 : Int32))) 1 (.int (1 : Int32))) (upd (upd (fun _ => (.int (0 : Int32))) 0 (.int (0 : Int32))) 1 (.int (-511900244 : Int32))) fa109_zones (upd (upd (fun _ => (.int (0 : Int32))) 0 (.int (-1 : Int32))) 1 (.int (-1 : Int32))) fa109_parents fa109_events fa109_ranks (upd (upd (fun _ => (.int (0 : Int32))) 0 (.int (1 : Int32))) 12 (.int (2 : Int32))) k5 (upd (fun _ => (.int (0 : Int32))) 0 (.int (2 : Int32))) (Rr2 kk0 kk1) ((Ww2 kk0 kk1) kk2.toNatClampNeg) lf T109.heap n0 (Nat.le_trans Z0 (Nat.le_trans gr108 K109.1)) H143 H144 g_b11 l_b5 l_ob l_bu lx0 lx1 lx2 lx3 lx4 lx5 lx6 lx7 lx8 (own_y1 _ _) (own_y2 lx9 hkn2) Va109_states Va109_hashes Va109_zones Va109_sameStates Va109_held Va109_parents Va109_events Va109_ranks Va109_slots H146 Va109_reached H164 rfl (Rw109 kk2.toNatClampNeg hkn2) rfl (own_in3 d_kk2) (own_r2 d_kk0 d_kk1 d_kk2) rfl Fa109_states Fa109_hashes Fa109_zones Fa109_sameStates Fa109_held Fa109_parents Fa109_events Fa109_ranks Fa109_slots Fa109_ranked Fa109_reached Fa109_taken Fa109_budget Fa109_width Fa109_size Fa109_lowest Fa109_latestFirst Fl109) (hw _ (List.mem_of_getElem? (i := 83) rfl)) (hw _ (List.mem_of_getElem? (i := 84) rfl)) (notFace_of_selects (args := #[]) (mvT hZ (hw _ (List.mem_of_getElem? (i := 86) rfl)))) (hw _ (List.mem_of_getElem? (i := 86) rfl)) (hw _ (List.mem_of_getElem? (i := 85) rfl)) (by decide) (hw _ (List.mem_of_getElem? (i := 87) rfl)) (hw _ (List.mem_of_getElem? (i := 4) rfl)) e141 H143 pd_15 rfl rfl (by decide) (Nat.le_of_ble_eq_true rfl) (by decide) (by decide) (by rw [hml]; rfl)  rfl (hb hby at_155) ?_
    intro T142 L142 v142 X142 hQ142
    obtain ⟨rfl, N142q, K142, Fl142, Fa142_states, Fa142_hashes, Fa142_zones, Fa142_sameStates, Fa142_held, Fa142_parents, Fa142_events, Fa142_ranks, Fa142_slots, Fa142_ranked, Fa142_reached, Fa142_taken, Fa142_budget, Fa142_width, Fa142_size, Fa142_lowest, Fa142_latestFirst, Va142_slots, Va142_hashes, Va142_states, Va142_sameStates, Va142_held, Va142_reached', Va142_row, ⟨fa142_zones, Va142_zones⟩, ⟨fa142_parents, Va142_parents⟩, ⟨fa142_events, Va142_events⟩, ⟨fa142_ranks, Va142_ranks⟩⟩ := hQ142
    have N142 := Fr.app N141 N142q
    have Va142_reached : Arf Z T142.heap x_reached kx_reached .int (3 : Int32) (fun i => .int ((Rr3 kk0 kk1 kk2) i)) := Va142_reached'
    have Rw142 : ∀ i, i < 3 → Arf Z T142.heap (x_ranked + 1 + i) kx_rk .int (8 : Int32) (fun j => .int ((Ww3 kk0 kk1 kk2) i j)) := own_rows Rw109 Va142_row K142 (fun i_ hi_ hne_ => (ninS (own_ra rl_b11) (ninS (own_ra rl_b13) (ninS (own_rc hne_) (ninS (own_ra rl_x_states) (ninS (own_ra rl_x_hashes) (ninS (own_ra rl_x_zones) (ninS (own_ra rl_x_sameStates) (ninS (own_ra rl_x_held) (ninS (own_ra rl_x_parents) (ninS (own_ra rl_x_events) (ninS (own_ra rl_x_ranks) (ninS (own_ra rl_x_slots) (ninS (own_rb lx9 hi_) nin0))))))))))))))
    show Go p e below (T142.setTop (mkF m 158 #[.val (.int p1), .val (.int p2), .val (.int p3), .val (.int p4), .val (.int p5), .val (.int kk0), .val (.int kk1), .val (.int kk2), .val (.int hk), .val (.int lf), .val (.ref b1), .val (.ref b3), .val (.ref b5), .val (.ref b8), .val (.ref b11), .unset, .unset, .unset, .unset, .unset, .unset, .unset, .unset, .unset, .unset, .unset, .unset, .unset] [])) _
    refine Gk.aload X142 hx (hb hby at_158) rfl rfl ?_
    refine Gk.aload X142 hx (hb hby at_160) rfl rfl ?_
    refine Gk.aconstNull X142 hx (hb hby at_162) ?_
    have ne166 : b8 ≠ b13 := (Nat.ne_of_lt (Nat.lt_of_lt_of_le lt_b8 (Nat.le_trans (Nat.le_trans (Keep.of_wr W10).1 E11.1) (Nat.le_of_eq g13.symm))))
    have ne167 : b8 ≠ b11 := (Nat.ne_of_lt (Nat.lt_of_lt_of_le lt_b8 (Nat.le_trans (Keep.of_wr W10).1 (Nat.le_of_eq g11.symm))))
    have gr168 := (Nat.le_trans (Nat.le_trans (Nat.le_trans (Keep.of_wr W10).1 E11.1) E13.1) K14.1)
    have ne169 : b8 ≠ x_slots := (Nat.ne_of_lt (Nat.lt_of_lt_of_le lt_b8 (Nat.le_trans gr168 (Nat.le_trans lx (Nat.le_of_lt (Nat.lt_trans lx0 (Nat.lt_trans lx1 (Nat.lt_trans lx2 (Nat.lt_trans lx3 (Nat.lt_trans lx4 (Nat.lt_trans lx5 (Nat.lt_trans lx6 lx7))))))))))))
    have ne170 : b8 ≠ x_taken := (Nat.ne_of_lt (Nat.lt_of_lt_of_le lt_b8 (Nat.le_trans gr168 (Nat.le_trans lx (Nat.le_of_lt (Nat.lt_trans lx0 (Nat.lt_trans lx1 (Nat.lt_trans lx2 (Nat.lt_trans lx3 (Nat.lt_trans lx4 (Nat.lt_trans lx5 (Nat.lt_trans lx6 (Nat.lt_trans lx7 (Nat.lt_trans lx8 (Nat.lt_trans lxr lx10)))))))))))))))
    have ne171 : b8 ≠ x_reached := (Nat.ne_of_lt (Nat.lt_of_lt_of_le lt_b8 (Nat.le_trans gr168 (Nat.le_trans lx (Nat.le_of_lt (Nat.lt_trans lx0 (Nat.lt_trans lx1 (Nat.lt_trans lx2 (Nat.lt_trans lx3 (Nat.lt_trans lx4 (Nat.lt_trans lx5 (Nat.lt_trans lx6 (Nat.lt_trans lx7 (Nat.lt_trans lx8 lxr))))))))))))))
    have ne172 : b8 ≠ x_ranks := (Nat.ne_of_lt (Nat.lt_of_lt_of_le lt_b8 (Nat.le_trans gr168 (Nat.le_trans lx (Nat.le_of_lt (Nat.lt_trans lx0 (Nat.lt_trans lx1 (Nat.lt_trans lx2 (Nat.lt_trans lx3 (Nat.lt_trans lx4 (Nat.lt_trans lx5 lx6)))))))))))
    have ne173 : b8 ≠ x_events := (Nat.ne_of_lt (Nat.lt_of_lt_of_le lt_b8 (Nat.le_trans gr168 (Nat.le_trans lx (Nat.le_of_lt (Nat.lt_trans lx0 (Nat.lt_trans lx1 (Nat.lt_trans lx2 (Nat.lt_trans lx3 (Nat.lt_trans lx4 lx5))))))))))
    have ne174 : b8 ≠ x_parents := (Nat.ne_of_lt (Nat.lt_of_lt_of_le lt_b8 (Nat.le_trans gr168 (Nat.le_trans lx (Nat.le_of_lt (Nat.lt_trans lx0 (Nat.lt_trans lx1 (Nat.lt_trans lx2 (Nat.lt_trans lx3 lx4)))))))))
    have ne175 : b8 ≠ x_held := (Nat.ne_of_lt (Nat.lt_of_lt_of_le lt_b8 (Nat.le_trans gr168 (Nat.le_trans lx (Nat.le_of_lt (Nat.lt_trans lx0 (Nat.lt_trans lx1 (Nat.lt_trans lx2 lx3))))))))
    have ne176 : b8 ≠ x_sameStates := (Nat.ne_of_lt (Nat.lt_of_lt_of_le lt_b8 (Nat.le_trans gr168 (Nat.le_trans lx (Nat.le_of_lt (Nat.lt_trans lx0 (Nat.lt_trans lx1 lx2)))))))
    have ne177 : b8 ≠ x_zones := (Nat.ne_of_lt (Nat.lt_of_lt_of_le lt_b8 (Nat.le_trans gr168 (Nat.le_trans lx (Nat.le_of_lt (Nat.lt_trans lx0 lx1))))))
    have ne178 : b8 ≠ x_hashes := (Nat.ne_of_lt (Nat.lt_of_lt_of_le lt_b8 (Nat.le_trans gr168 (Nat.le_trans lx (Nat.le_of_lt lx0)))))
    have ne179 : b8 ≠ x_states := (Nat.ne_of_lt (Nat.lt_of_lt_of_le lt_b8 (Nat.le_trans gr168 lx)))
    have ni180 : b8 ∉ [b11, b13, (x_ranked + 1 + kk0.toNatClampNeg), x_states, x_hashes, x_zones, x_sameStates, x_held, x_parents, x_events, x_ranks, x_slots, x_reached] := (ninS ne167 (ninS ne166 (ninS (Ne.symm (own_ra rl_b8)) (ninS ne179 (ninS ne178 (ninS ne177 (ninS ne176 (ninS ne175 (ninS ne174 (ninS ne173 (ninS ne172 (ninS ne169 (ninS ne171 nin0)))))))))))))
    have ni181 : b8 ∉ [b11, b13, (x_ranked + 1 + kk1.toNatClampNeg), x_states, x_hashes, x_zones, x_sameStates, x_held, x_parents, x_events, x_ranks, x_slots, x_reached] := (ninS ne167 (ninS ne166 (ninS (Ne.symm (own_ra rl_b8)) (ninS ne179 (ninS ne178 (ninS ne177 (ninS ne176 (ninS ne175 (ninS ne174 (ninS ne173 (ninS ne172 (ninS ne169 (ninS ne171 nin0)))))))))))))
    have ni182 : b8 ∉ [b11, b13, (x_ranked + 1 + kk2.toNatClampNeg), x_states, x_hashes, x_zones, x_sameStates, x_held, x_parents, x_events, x_ranks, x_slots, x_reached] := (ninS ne167 (ninS ne166 (ninS (Ne.symm (own_ra rl_b8)) (ninS ne179 (ninS ne178 (ninS ne177 (ninS ne176 (ninS ne175 (ninS ne174 (ninS ne173 (ninS ne172 (ninS ne169 (ninS ne171 nin0)))))))))))))
    have H183 := ((((((((V10.ext E11).ext E13).keep K14 (ninS ne166 nin0)).keep K16 (ninS ne167 nin0)).keep K39 (ninS ne167 (ninS ne171 (ninS ne170 (ninS ne169 nin0))))).keep K43 ni180).keep K109 ni181).keep K142 ni182)
    have H184 := (H143.keep K142)
    have gr185 := (Nat.le_trans (Nat.le_trans gr108 K109.1) K142.1)
    refine Gk.callV (argsL := [(.ref b8), .null]) X142 hx hZ hown (rm14 l Z a0 hw [] b11 b8 hk k8 (upd (fun _ => (.int (0 : Int32))) 0 (.int hk)) x_slots kx_slots (upd (upd (upd (fun _ => (.int (0 : Int32))) 0 (.int (1 : Int32))) 12 (.int (2 : Int32))) 24 (.int (3 : Int32))) x_hashes kx_hashes (upd (upd (upd (fun _ => (.int (0 : Int32))) 0 (.int (0 : Int32))) 1 (.int (-511900244 : Int32))) 2 (.int (-1023800488 : Int32))) x_states kx_states (upd (upd (upd (fun _ => (.int (0 : Int32))) 0 (.int (0 : Int32))) 1 (.int (1 : Int32))) 2 (.int (2 : Int32))) x_held kx_held x_sameStates kx_sameStates (upd (upd (upd (fun _ => (.int (0 : Int32))) 0 (.int (-1 : Int32))) 1 (.int (-1 : Int32))) 2 (.int (-1 : Int32))) T142.heap n0 (Nat.le_trans Z0 gr185) H183 rfl d_hk Va142_slots Va142_hashes Va142_states Va142_held Va142_sameStates H184 rfl rfl rfl rfl rfl rfl rfl rfl rfl rfl rfl rfl rfl Fa142_slots Fa142_hashes Fa142_states Fa142_width Fa142_held Fa142_sameStates (Ne.symm (Nat.ne_of_lt lx3)) (Ne.symm ne70) g_x_held) (hw _ (List.mem_of_getElem? (i := 109) rfl)) (hw _ (List.mem_of_getElem? (i := 110) rfl)) (notFace_of_selects (args := #[]) (mvT hZ (hw _ (List.mem_of_getElem? (i := 112) rfl)))) (hw _ (List.mem_of_getElem? (i := 112) rfl)) (hw _ (List.mem_of_getElem? (i := 111) rfl)) (by decide) (hw _ (List.mem_of_getElem? (i := 113) rfl)) (hw _ (List.mem_of_getElem? (i := 4) rfl)) rfl H184 pd_16 rfl rfl (by decide) (Nat.le_of_ble_eq_true rfl) (by decide) (by decide) (by rw [hml]; rfl)  rfl (hb hby at_163) ?_
    intro T165 L165 v165 X165 hQ165
    obtain ⟨rfl, N165q, K165, Vp165⟩ := hQ165
    have N165 := Fr.app N142 N165q
    show Go p e below (T165.setTop (mkF m 166 #[.val (.int p1), .val (.int p2), .val (.int p3), .val (.int p4), .val (.int p5), .val (.int kk0), .val (.int kk1), .val (.int kk2), .val (.int hk), .val (.int lf), .val (.ref b1), .val (.ref b3), .val (.ref b5), .val (.ref b8), .val (.ref b11), .unset, .unset, .unset, .unset, .unset, .unset, .unset, .unset, .unset, .unset, .unset, .unset, .unset] [])) _
    obtain ⟨r0_, l1_, Ra, Ta, r1_, l2_, Rb, Tb, r2_, l3_, Rc, Tc, r3_, l4_, Rd, Td, hp0_, hp1_, hp2_, hp3_, hout⟩ := own_end d_kk0 d_kk1 d_kk2 d_hk hlf
    refine Gk.aload X165 hx (hb hby at_166) rfl rfl ?_
    have Rw187 : ∀ i, i < 3 → Arf Z T165.heap (x_ranked + 1 + i) kx_rk .int (8 : Int32) (fun j => .int ((Ww3 kk0 kk1 kk2) i j)) := fun i_ hi_ => ((Rw142 i_ hi_).keep K165 (ninS (own_ra rl_x_held) nin0))
    have H188 := (H184.keep K165)
    have ni189 : x_ranked ∉ [b11, b13, (x_ranked + 1 + kk2.toNatClampNeg), x_states, x_hashes, x_zones, x_sameStates, x_held, x_parents, x_events, x_ranks, x_slots, x_reached] := (ninS ne87 (ninS ne119 (ninS (Nat.ne_of_lt (own_y1 _ _)) (ninS (Ne.symm ne118) (ninS (Ne.symm ne117) (ninS (Ne.symm ne116) (ninS (Ne.symm ne115) (ninS (Ne.symm ne114) (ninS (Ne.symm ne113) (ninS (Ne.symm ne112) (ninS (Ne.symm (Nat.ne_of_lt (Nat.lt_trans lx7 lx8))) (ninS (Ne.symm (Nat.ne_of_lt lx8)) (ninS (Nat.ne_of_lt lxr) nin0)))))))))))))
    have H190 := ((H146.keep K142 ni189).keep K165 (ninS (Ne.symm ne114) nin0))
    have H191 := (Va142_reached.keep K165 (ninS (Ne.symm ne69) nin0))
    have ne192 : x_slots ≠ x_taken := (Nat.ne_of_lt (Nat.lt_trans lx8 (Nat.lt_trans lxr lx10)))
    have ne193 : x_taken ≠ b11 := (Nat.ne_of_gt (Nat.lt_of_lt_of_le lt_b11 (Nat.le_trans (Nat.le_trans E13.1 K14.1) (Nat.le_trans lx (Nat.le_of_lt (Nat.lt_trans lx0 (Nat.lt_trans lx1 (Nat.lt_trans lx2 (Nat.lt_trans lx3 (Nat.lt_trans lx4 (Nat.lt_trans lx5 (Nat.lt_trans lx6 (Nat.lt_trans lx7 (Nat.lt_trans lx8 (Nat.lt_trans lxr lx10)))))))))))))))
    have ni194 : x_taken ∉ [b11, b13, (x_ranked + 1 + kk0.toNatClampNeg), x_states, x_hashes, x_zones, x_sameStates, x_held, x_parents, x_events, x_ranks, x_slots, x_reached] := (ninS ne193 (ninS (Ne.symm ne103) (ninS (Ne.symm (own_rb rg_taken hkn0)) (ninS (Ne.symm ne48) (ninS (Ne.symm ne53) (ninS (Ne.symm ne58) (ninS (Ne.symm ne63) (ninS (Ne.symm ne68) (ninS (Ne.symm ne73) (ninS (Ne.symm ne77) (ninS (Ne.symm ne82) (ninS (Ne.symm ne192) (ninS (Ne.symm (Nat.ne_of_lt lx10)) nin0)))))))))))))
    have ni195 : x_taken ∉ [b11, b13, (x_ranked + 1 + kk1.toNatClampNeg), x_states, x_hashes, x_zones, x_sameStates, x_held, x_parents, x_events, x_ranks, x_slots, x_reached] := (ninS ne193 (ninS (Ne.symm ne103) (ninS (Ne.symm (own_rb rg_taken hkn1)) (ninS (Ne.symm ne48) (ninS (Ne.symm ne53) (ninS (Ne.symm ne58) (ninS (Ne.symm ne63) (ninS (Ne.symm ne68) (ninS (Ne.symm ne73) (ninS (Ne.symm ne77) (ninS (Ne.symm ne82) (ninS (Ne.symm ne192) (ninS (Ne.symm (Nat.ne_of_lt lx10)) nin0)))))))))))))
    have ni196 : x_taken ∉ [b11, b13, (x_ranked + 1 + kk2.toNatClampNeg), x_states, x_hashes, x_zones, x_sameStates, x_held, x_parents, x_events, x_ranks, x_slots, x_reached] := (ninS ne193 (ninS (Ne.symm ne103) (ninS (Ne.symm (own_rb rg_taken hkn2)) (ninS (Ne.symm ne48) (ninS (Ne.symm ne53) (ninS (Ne.symm ne58) (ninS (Ne.symm ne63) (ninS (Ne.symm ne68) (ninS (Ne.symm ne73) (ninS (Ne.symm ne77) (ninS (Ne.symm ne82) (ninS (Ne.symm ne192) (ninS (Ne.symm (Nat.ne_of_lt lx10)) nin0)))))))))))))
    have H197 := ((((Vc39_taken.keep K43 ni194).keep K109 ni195).keep K142 ni196).keep K165 (ninS (Ne.symm ne68) nin0))
    have H198 := (Fa142_lowest.keep K165 (ninS (Ne.symm ne70) nin0))
    have H199 := (Fa142_held.keep K165 (ninS (Ne.symm ne70) nin0))
    have H200 := (Fa142_ranked.keep K165 (ninS (Ne.symm ne70) nin0))
    have H201 := (Fa142_reached.keep K165 (ninS (Ne.symm ne70) nin0))
    have H202 := (Fa142_taken.keep K165 (ninS (Ne.symm ne70) nin0))
    have H203 := (Fa142_latestFirst.keep K165 (ninS (Ne.symm ne70) nin0))
    refine Gk.callV (argsL := []) X165 hx hZ hown (rm20 l Z a0 hw [] b11 x_held x_ranked x_reached x_taken kx_held kx_ranked kx_reached kx_taken kx_rk (Ww3 kk0 kk1 kk2) (Hh hk) lf 7 (0 : Int32) (Rr3 kk0 kk1 kk2) (fun _ => (0 : Int32)) r0_ l1_ Ra Ta T165.heap n0 (Nat.le_trans Z0 (Nat.le_trans gr185 K165.1)) hp0_ H188 g_b11 rl_held rl_x_held lxr lx10 lx9 Vp165 H190 H191 H197 Rw187 H198 H199 H200 H201 H202 H203) (hw _ (List.mem_of_getElem? (i := 134) rfl)) (hw _ (List.mem_of_getElem? (i := 135) rfl)) (notFace_of_selects (args := #[]) (mvT hZ (hw _ (List.mem_of_getElem? (i := 137) rfl)))) (hw _ (List.mem_of_getElem? (i := 137) rfl)) (hw _ (List.mem_of_getElem? (i := 136) rfl)) (by decide) (hw _ (List.mem_of_getElem? (i := 138) rfl)) (hw _ (List.mem_of_getElem? (i := 4) rfl)) rfl H188 pd_17 rfl rfl (by decide) (Nat.le_of_ble_eq_true rfl) (by decide) (by decide) (by rw [hml]; rfl)  rfl (hb hby at_168) ?_
    intro T186 L186 v186 X186 hQ186
    obtain ⟨rfl, N186q, K186, Fq186_lowest, Fq186_held, Fq186_ranked, Fq186_reached, Fq186_taken, Fq186_latestFirst, Vq186_reached, Vq186_taken⟩ := hQ186
    have N186 := Fr.app N165 N186q
    show Go p e below (T186.setTop (mkF m 171 #[.val (.int p1), .val (.int p2), .val (.int p3), .val (.int p4), .val (.int p5), .val (.int kk0), .val (.int kk1), .val (.int kk2), .val (.int hk), .val (.int lf), .val (.ref b1), .val (.ref b3), .val (.ref b5), .val (.ref b8), .val (.ref b11), .unset, .unset, .unset, .unset, .unset, .unset, .unset, .unset, .unset, .unset, .unset, .unset, .unset] [(.int r0_)])) _
    refine Gk.istore X186 hx (hb hby at_171) #[.val (.int p1), .val (.int p2), .val (.int p3), .val (.int p4), .val (.int p5), .val (.int kk0), .val (.int kk1), .val (.int kk2), .val (.int hk), .val (.int lf), .val (.ref b1), .val (.ref b3), .val (.ref b5), .val (.ref b8), .val (.ref b11), .val (.int r0_), .unset, .unset, .unset, .unset, .unset, .unset, .unset, .unset, .unset, .unset, .unset, .unset] rfl ?_
    refine Gk.aload X186 hx (hb hby at_173) rfl rfl ?_
    have Rw205 : ∀ i, i < 3 → Arf Z T186.heap (x_ranked + 1 + i) kx_rk .int (8 : Int32) (fun j => .int ((Ww3 kk0 kk1 kk2) i j)) := fun i_ hi_ => ((Rw187 i_ hi_).keep K186 (ninS (own_ra rl_b11) (ninS (own_rb lx9 hi_) (ninS (own_rb rg_taken hi_) nin0))))
    have H206 := (H188.keep K186)
    have H207 := (Vp165.keep K186 (ninS ne70 (ninS ne69 (ninS ne68 nin0))))
    have ni208 : x_ranked ∉ [b11, x_reached, x_taken] := (ninS ne87 (ninS (Nat.ne_of_lt lxr) (ninS (Nat.ne_of_lt (Nat.lt_trans lxr lx10)) nin0)))
    have H209 := (H190.keep K186 ni208)
    have gr210 := (Nat.le_trans (Nat.le_trans gr185 K165.1) K186.1)
    refine Gk.callV (argsL := []) X186 hx hZ hown (rm20 l Z a0 hw [] b11 x_held x_ranked x_reached x_taken kx_held kx_ranked kx_reached kx_taken kx_rk (Ww3 kk0 kk1 kk2) (Hh hk) lf 7 l1_ Ra Ta r1_ l2_ Rb Tb T186.heap n0 (Nat.le_trans Z0 gr210) hp1_ H206 g_b11 rl_held rl_x_held lxr lx10 lx9 H207 H209 Vq186_reached Vq186_taken Rw205 Fq186_lowest Fq186_held Fq186_ranked Fq186_reached Fq186_taken Fq186_latestFirst) (hw _ (List.mem_of_getElem? (i := 134) rfl)) (hw _ (List.mem_of_getElem? (i := 135) rfl)) (notFace_of_selects (args := #[]) (mvT hZ (hw _ (List.mem_of_getElem? (i := 137) rfl)))) (hw _ (List.mem_of_getElem? (i := 137) rfl)) (hw _ (List.mem_of_getElem? (i := 136) rfl)) (by decide) (hw _ (List.mem_of_getElem? (i := 138) rfl)) (hw _ (List.mem_of_getElem? (i := 4) rfl)) rfl H206 pd_17 rfl rfl (by decide) (Nat.le_of_ble_eq_true rfl) (by decide) (by decide) (by rw [hml]; rfl)  rfl (hb hby at_175) ?_
    intro T204 L204 v204 X204 hQ204
    obtain ⟨rfl, N204q, K204, Fq204_lowest, Fq204_held, Fq204_ranked, Fq204_reached, Fq204_taken, Fq204_latestFirst, Vq204_reached, Vq204_taken⟩ := hQ204
    have N204 := Fr.app N186 N204q
    show Go p e below (T204.setTop (mkF m 178 #[.val (.int p1), .val (.int p2), .val (.int p3), .val (.int p4), .val (.int p5), .val (.int kk0), .val (.int kk1), .val (.int kk2), .val (.int hk), .val (.int lf), .val (.ref b1), .val (.ref b3), .val (.ref b5), .val (.ref b8), .val (.ref b11), .val (.int r0_), .unset, .unset, .unset, .unset, .unset, .unset, .unset, .unset, .unset, .unset, .unset, .unset] [(.int r1_)])) _
    refine Gk.istore X204 hx (hb hby at_178) #[.val (.int p1), .val (.int p2), .val (.int p3), .val (.int p4), .val (.int p5), .val (.int kk0), .val (.int kk1), .val (.int kk2), .val (.int hk), .val (.int lf), .val (.ref b1), .val (.ref b3), .val (.ref b5), .val (.ref b8), .val (.ref b11), .val (.int r0_), .val (.int r1_), .unset, .unset, .unset, .unset, .unset, .unset, .unset, .unset, .unset, .unset, .unset] rfl ?_
    refine Gk.aload X204 hx (hb hby at_180) rfl rfl ?_
    have Rw212 : ∀ i, i < 3 → Arf Z T204.heap (x_ranked + 1 + i) kx_rk .int (8 : Int32) (fun j => .int ((Ww3 kk0 kk1 kk2) i j)) := fun i_ hi_ => ((Rw205 i_ hi_).keep K204 (ninS (own_ra rl_b11) (ninS (own_rb lx9 hi_) (ninS (own_rb rg_taken hi_) nin0))))
    have H213 := (H206.keep K204)
    have H214 := (H207.keep K204 (ninS ne70 (ninS ne69 (ninS ne68 nin0))))
    have H215 := (H209.keep K204 ni208)
    refine Gk.callV (argsL := []) X204 hx hZ hown (rm20 l Z a0 hw [] b11 x_held x_ranked x_reached x_taken kx_held kx_ranked kx_reached kx_taken kx_rk (Ww3 kk0 kk1 kk2) (Hh hk) lf 7 l2_ Rb Tb r2_ l3_ Rc Tc T204.heap n0 (Nat.le_trans Z0 (Nat.le_trans gr210 K204.1)) hp2_ H213 g_b11 rl_held rl_x_held lxr lx10 lx9 H214 H215 Vq204_reached Vq204_taken Rw212 Fq204_lowest Fq204_held Fq204_ranked Fq204_reached Fq204_taken Fq204_latestFirst) (hw _ (List.mem_of_getElem? (i := 134) rfl)) (hw _ (List.mem_of_getElem? (i := 135) rfl)) (notFace_of_selects (args := #[]) (mvT hZ (hw _ (List.mem_of_getElem? (i := 137) rfl)))) (hw _ (List.mem_of_getElem? (i := 137) rfl)) (hw _ (List.mem_of_getElem? (i := 136) rfl)) (by decide) (hw _ (List.mem_of_getElem? (i := 138) rfl)) (hw _ (List.mem_of_getElem? (i := 4) rfl)) rfl H213 pd_17 rfl rfl (by decide) (Nat.le_of_ble_eq_true rfl) (by decide) (by decide) (by rw [hml]; rfl)  rfl (hb hby at_182) ?_
    intro T211 L211 v211 X211 hQ211
    obtain ⟨rfl, N211q, K211, Fq211_lowest, Fq211_held, Fq211_ranked, Fq211_reached, Fq211_taken, Fq211_latestFirst, Vq211_reached, Vq211_taken⟩ := hQ211
    have N211 := Fr.app N204 N211q
    show Go p e below (T211.setTop (mkF m 185 #[.val (.int p1), .val (.int p2), .val (.int p3), .val (.int p4), .val (.int p5), .val (.int kk0), .val (.int kk1), .val (.int kk2), .val (.int hk), .val (.int lf), .val (.ref b1), .val (.ref b3), .val (.ref b5), .val (.ref b8), .val (.ref b11), .val (.int r0_), .val (.int r1_), .unset, .unset, .unset, .unset, .unset, .unset, .unset, .unset, .unset, .unset, .unset] [(.int r2_)])) _
    refine Gk.istore X211 hx (hb hby at_185) #[.val (.int p1), .val (.int p2), .val (.int p3), .val (.int p4), .val (.int p5), .val (.int kk0), .val (.int kk1), .val (.int kk2), .val (.int hk), .val (.int lf), .val (.ref b1), .val (.ref b3), .val (.ref b5), .val (.ref b8), .val (.ref b11), .val (.int r0_), .val (.int r1_), .val (.int r2_), .unset, .unset, .unset, .unset, .unset, .unset, .unset, .unset, .unset, .unset] rfl ?_
    refine Gk.aload X211 hx (hb hby at_187) rfl rfl ?_
    have Rw217 : ∀ i, i < 3 → Arf Z T211.heap (x_ranked + 1 + i) kx_rk .int (8 : Int32) (fun j => .int ((Ww3 kk0 kk1 kk2) i j)) := fun i_ hi_ => ((Rw212 i_ hi_).keep K211 (ninS (own_ra rl_b11) (ninS (own_rb lx9 hi_) (ninS (own_rb rg_taken hi_) nin0))))
    have H218 := (H213.keep K211)
    have H219 := (H214.keep K211 (ninS ne70 (ninS ne69 (ninS ne68 nin0))))
    have H220 := (H215.keep K211 ni208)
    have gr221 := (Nat.le_trans (Nat.le_trans gr210 K204.1) K211.1)
    refine Gk.callV (argsL := []) X211 hx hZ hown (rm20 l Z a0 hw [] b11 x_held x_ranked x_reached x_taken kx_held kx_ranked kx_reached kx_taken kx_rk (Ww3 kk0 kk1 kk2) (Hh hk) lf 7 l3_ Rc Tc r3_ l4_ Rd Td T211.heap n0 (Nat.le_trans Z0 gr221) hp3_ H218 g_b11 rl_held rl_x_held lxr lx10 lx9 H219 H220 Vq211_reached Vq211_taken Rw217 Fq211_lowest Fq211_held Fq211_ranked Fq211_reached Fq211_taken Fq211_latestFirst) (hw _ (List.mem_of_getElem? (i := 134) rfl)) (hw _ (List.mem_of_getElem? (i := 135) rfl)) (notFace_of_selects (args := #[]) (mvT hZ (hw _ (List.mem_of_getElem? (i := 137) rfl)))) (hw _ (List.mem_of_getElem? (i := 137) rfl)) (hw _ (List.mem_of_getElem? (i := 136) rfl)) (by decide) (hw _ (List.mem_of_getElem? (i := 138) rfl)) (hw _ (List.mem_of_getElem? (i := 4) rfl)) rfl H218 pd_17 rfl rfl (by decide) (Nat.le_of_ble_eq_true rfl) (by decide) (by decide) (by rw [hml]; rfl)  rfl (hb hby at_189) ?_
    intro T216 L216 v216 X216 hQ216
    obtain ⟨rfl, N216q, K216, Fq216_lowest, Fq216_held, Fq216_ranked, Fq216_reached, Fq216_taken, Fq216_latestFirst, Vq216_reached, Vq216_taken⟩ := hQ216
    have N216 := Fr.app N211 N216q
    show Go p e below (T216.setTop (mkF m 192 #[.val (.int p1), .val (.int p2), .val (.int p3), .val (.int p4), .val (.int p5), .val (.int kk0), .val (.int kk1), .val (.int kk2), .val (.int hk), .val (.int lf), .val (.ref b1), .val (.ref b3), .val (.ref b5), .val (.ref b8), .val (.ref b11), .val (.int r0_), .val (.int r1_), .val (.int r2_), .unset, .unset, .unset, .unset, .unset, .unset, .unset, .unset, .unset, .unset] [(.int r3_)])) _
    refine Gk.istore X216 hx (hb hby at_192) #[.val (.int p1), .val (.int p2), .val (.int p3), .val (.int p4), .val (.int p5), .val (.int kk0), .val (.int kk1), .val (.int kk2), .val (.int hk), .val (.int lf), .val (.ref b1), .val (.ref b3), .val (.ref b5), .val (.ref b8), .val (.ref b11), .val (.int r0_), .val (.int r1_), .val (.int r2_), .val (.int r3_), .unset, .unset, .unset, .unset, .unset, .unset, .unset, .unset, .unset] rfl ?_
    refine Gk.iload X216 hx (hb hby at_194) rfl ?_
    refine Gk.iconst X216 hx (hb hby at_196) (4 : Int32) rfl ?_
    refine Gk.imul X216 hx (hb hby at_197) _ rfl ?_
    refine Gk.iload X216 hx (hb hby at_198) rfl ?_
    have J208 : ∀ d0 : Int32, d0 = (if lf = (0 : Int32) then (0 : Int32) else (2 : Int32)) → Go p e below (T216.setTop (mkF m 208 #[.val (.int p1), .val (.int p2), .val (.int p3), .val (.int p4), .val (.int p5), .val (.int kk0), .val (.int kk1), .val (.int kk2), .val (.int hk), .val (.int lf), .val (.ref b1), .val (.ref b3), .val (.ref b5), .val (.ref b8), .val (.ref b11), .val (.int r0_), .val (.int r1_), .val (.int r2_), .val (.int r3_), .unset, .unset, .unset, .unset, .unset, .unset, .unset, .unset, .unset] [(.int d0), (.int (kk0 * (4 : Int32)))])) (fun o U' => ∃ v L, o = .returned v ∧ Q_rm0 Z p1 p2 p3 p4 p5 h0 n0 v U'.heap L ∧ FrameEnd s o U' L room_1.cells room_1.slots) := by
      intro d0 d_d0
      refine Gk.iadd X216 hx (hb hby at_208) _ rfl ?_
      obtain ⟨key0, ekey0⟩ : ∃ z_ : Int32, z_ = ((kk0 * (4 : Int32)) + d0) := ⟨_, rfl⟩
      show Go p e below (T216.setTop (mkF m 209 #[.val (.int p1), .val (.int p2), .val (.int p3), .val (.int p4), .val (.int p5), .val (.int kk0), .val (.int kk1), .val (.int kk2), .val (.int hk), .val (.int lf), .val (.ref b1), .val (.ref b3), .val (.ref b5), .val (.ref b8), .val (.ref b11), .val (.int r0_), .val (.int r1_), .val (.int r2_), .val (.int r3_), .unset, .unset, .unset, .unset, .unset, .unset, .unset, .unset, .unset] [(.int ((kk0 * (4 : Int32)) + d0))])) _
      rw [← ekey0]
      refine Gk.istore X216 hx (hb hby at_209) #[.val (.int p1), .val (.int p2), .val (.int p3), .val (.int p4), .val (.int p5), .val (.int kk0), .val (.int kk1), .val (.int kk2), .val (.int hk), .val (.int lf), .val (.ref b1), .val (.ref b3), .val (.ref b5), .val (.ref b8), .val (.ref b11), .val (.int r0_), .val (.int r1_), .val (.int r2_), .val (.int r3_), .val (.int key0), .unset, .unset, .unset, .unset, .unset, .unset, .unset, .unset] rfl ?_
      refine Gk.iload X216 hx (hb hby at_211) rfl ?_
      refine Gk.iconst X216 hx (hb hby at_213) (4 : Int32) rfl ?_
      refine Gk.imul X216 hx (hb hby at_214) _ rfl ?_
      refine Gk.iconst X216 hx (hb hby at_215) (1 : Int32) rfl ?_
      refine Gk.iadd X216 hx (hb hby at_216) _ rfl ?_
      obtain ⟨key1, ekey1⟩ : ∃ z_ : Int32, z_ = ((kk1 * (4 : Int32)) + (1 : Int32)) := ⟨_, rfl⟩
      show Go p e below (T216.setTop (mkF m 217 #[.val (.int p1), .val (.int p2), .val (.int p3), .val (.int p4), .val (.int p5), .val (.int kk0), .val (.int kk1), .val (.int kk2), .val (.int hk), .val (.int lf), .val (.ref b1), .val (.ref b3), .val (.ref b5), .val (.ref b8), .val (.ref b11), .val (.int r0_), .val (.int r1_), .val (.int r2_), .val (.int r3_), .val (.int key0), .unset, .unset, .unset, .unset, .unset, .unset, .unset, .unset] [(.int ((kk1 * (4 : Int32)) + (1 : Int32)))])) _
      rw [← ekey1]
      refine Gk.istore X216 hx (hb hby at_217) #[.val (.int p1), .val (.int p2), .val (.int p3), .val (.int p4), .val (.int p5), .val (.int kk0), .val (.int kk1), .val (.int kk2), .val (.int hk), .val (.int lf), .val (.ref b1), .val (.ref b3), .val (.ref b5), .val (.ref b8), .val (.ref b11), .val (.int r0_), .val (.int r1_), .val (.int r2_), .val (.int r3_), .val (.int key0), .val (.int key1), .unset, .unset, .unset, .unset, .unset, .unset, .unset] rfl ?_
      refine Gk.iload X216 hx (hb hby at_219) rfl ?_
      refine Gk.iconst X216 hx (hb hby at_221) (4 : Int32) rfl ?_
      refine Gk.imul X216 hx (hb hby at_222) _ rfl ?_
      refine Gk.iload X216 hx (hb hby at_223) rfl ?_
      have J233 : ∀ d2 : Int32, d2 = (if lf = (0 : Int32) then (2 : Int32) else (0 : Int32)) → Go p e below (T216.setTop (mkF m 233 #[.val (.int p1), .val (.int p2), .val (.int p3), .val (.int p4), .val (.int p5), .val (.int kk0), .val (.int kk1), .val (.int kk2), .val (.int hk), .val (.int lf), .val (.ref b1), .val (.ref b3), .val (.ref b5), .val (.ref b8), .val (.ref b11), .val (.int r0_), .val (.int r1_), .val (.int r2_), .val (.int r3_), .val (.int key0), .val (.int key1), .unset, .unset, .unset, .unset, .unset, .unset, .unset] [(.int d2), (.int (kk2 * (4 : Int32)))])) (fun o U' => ∃ v L, o = .returned v ∧ Q_rm0 Z p1 p2 p3 p4 p5 h0 n0 v U'.heap L ∧ FrameEnd s o U' L room_1.cells room_1.slots) := by
        intro d2 d_d2
        refine Gk.iadd X216 hx (hb hby at_233) _ rfl ?_
        obtain ⟨key2, ekey2⟩ : ∃ z_ : Int32, z_ = ((kk2 * (4 : Int32)) + d2) := ⟨_, rfl⟩
        show Go p e below (T216.setTop (mkF m 234 #[.val (.int p1), .val (.int p2), .val (.int p3), .val (.int p4), .val (.int p5), .val (.int kk0), .val (.int kk1), .val (.int kk2), .val (.int hk), .val (.int lf), .val (.ref b1), .val (.ref b3), .val (.ref b5), .val (.ref b8), .val (.ref b11), .val (.int r0_), .val (.int r1_), .val (.int r2_), .val (.int r3_), .val (.int key0), .val (.int key1), .unset, .unset, .unset, .unset, .unset, .unset, .unset] [(.int ((kk2 * (4 : Int32)) + d2))])) _
        rw [← ekey2]
        refine Gk.istore X216 hx (hb hby at_234) #[.val (.int p1), .val (.int p2), .val (.int p3), .val (.int p4), .val (.int p5), .val (.int kk0), .val (.int kk1), .val (.int kk2), .val (.int hk), .val (.int lf), .val (.ref b1), .val (.ref b3), .val (.ref b5), .val (.ref b8), .val (.ref b11), .val (.int r0_), .val (.int r1_), .val (.int r2_), .val (.int r3_), .val (.int key0), .val (.int key1), .val (.int key2), .unset, .unset, .unset, .unset, .unset, .unset] rfl ?_
        refine Gk.iload X216 hx (hb hby at_236) rfl ?_
        refine Gk.iload X216 hx (hb hby at_238) rfl ?_
        have J248 : ∀ c10 : Int32, c10 = (if key1 < key0 then (1 : Int32) else (0 : Int32)) → Go p e below (T216.setTop (mkF m 248 #[.val (.int p1), .val (.int p2), .val (.int p3), .val (.int p4), .val (.int p5), .val (.int kk0), .val (.int kk1), .val (.int kk2), .val (.int hk), .val (.int lf), .val (.ref b1), .val (.ref b3), .val (.ref b5), .val (.ref b8), .val (.ref b11), .val (.int r0_), .val (.int r1_), .val (.int r2_), .val (.int r3_), .val (.int key0), .val (.int key1), .val (.int key2), .unset, .unset, .unset, .unset, .unset, .unset] [(.int c10)])) (fun o U' => ∃ v L, o = .returned v ∧ Q_rm0 Z p1 p2 p3 p4 p5 h0 n0 v U'.heap L ∧ FrameEnd s o U' L room_1.cells room_1.slots) := by
          intro c10 d_c10
          refine Gk.iload X216 hx (hb hby at_248) rfl ?_
          refine Gk.iload X216 hx (hb hby at_250) rfl ?_
          have J260 : ∀ c20 : Int32, c20 = (if key2 < key0 then (1 : Int32) else (0 : Int32)) → Go p e below (T216.setTop (mkF m 260 #[.val (.int p1), .val (.int p2), .val (.int p3), .val (.int p4), .val (.int p5), .val (.int kk0), .val (.int kk1), .val (.int kk2), .val (.int hk), .val (.int lf), .val (.ref b1), .val (.ref b3), .val (.ref b5), .val (.ref b8), .val (.ref b11), .val (.int r0_), .val (.int r1_), .val (.int r2_), .val (.int r3_), .val (.int key0), .val (.int key1), .val (.int key2), .unset, .unset, .unset, .unset, .unset, .unset] [(.int c20), (.int c10)])) (fun o U' => ∃ v L, o = .returned v ∧ Q_rm0 Z p1 p2 p3 p4 p5 h0 n0 v U'.heap L ∧ FrameEnd s o U' L room_1.cells room_1.slots) := by
            intro c20 d_c20
            refine Gk.iadd X216 hx (hb hby at_260) _ rfl ?_
            obtain ⟨pos0, epos0⟩ : ∃ z_ : Int32, z_ = (c10 + c20) := ⟨_, rfl⟩
            show Go p e below (T216.setTop (mkF m 261 #[.val (.int p1), .val (.int p2), .val (.int p3), .val (.int p4), .val (.int p5), .val (.int kk0), .val (.int kk1), .val (.int kk2), .val (.int hk), .val (.int lf), .val (.ref b1), .val (.ref b3), .val (.ref b5), .val (.ref b8), .val (.ref b11), .val (.int r0_), .val (.int r1_), .val (.int r2_), .val (.int r3_), .val (.int key0), .val (.int key1), .val (.int key2), .unset, .unset, .unset, .unset, .unset, .unset] [(.int (c10 + c20))])) _
            rw [← epos0]
            refine Gk.istore X216 hx (hb hby at_261) #[.val (.int p1), .val (.int p2), .val (.int p3), .val (.int p4), .val (.int p5), .val (.int kk0), .val (.int kk1), .val (.int kk2), .val (.int hk), .val (.int lf), .val (.ref b1), .val (.ref b3), .val (.ref b5), .val (.ref b8), .val (.ref b11), .val (.int r0_), .val (.int r1_), .val (.int r2_), .val (.int r3_), .val (.int key0), .val (.int key1), .val (.int key2), .val (.int pos0), .unset, .unset, .unset, .unset, .unset] rfl ?_
            refine Gk.iload X216 hx (hb hby at_263) rfl ?_
            refine Gk.iload X216 hx (hb hby at_265) rfl ?_
            have J275 : ∀ c01 : Int32, c01 = (if key0 < key1 then (1 : Int32) else (0 : Int32)) → Go p e below (T216.setTop (mkF m 275 #[.val (.int p1), .val (.int p2), .val (.int p3), .val (.int p4), .val (.int p5), .val (.int kk0), .val (.int kk1), .val (.int kk2), .val (.int hk), .val (.int lf), .val (.ref b1), .val (.ref b3), .val (.ref b5), .val (.ref b8), .val (.ref b11), .val (.int r0_), .val (.int r1_), .val (.int r2_), .val (.int r3_), .val (.int key0), .val (.int key1), .val (.int key2), .val (.int pos0), .unset, .unset, .unset, .unset, .unset] [(.int c01)])) (fun o U' => ∃ v L, o = .returned v ∧ Q_rm0 Z p1 p2 p3 p4 p5 h0 n0 v U'.heap L ∧ FrameEnd s o U' L room_1.cells room_1.slots) := by
              intro c01 d_c01
              refine Gk.iload X216 hx (hb hby at_275) rfl ?_
              refine Gk.iload X216 hx (hb hby at_277) rfl ?_
              have J287 : ∀ c21 : Int32, c21 = (if key2 < key1 then (1 : Int32) else (0 : Int32)) → Go p e below (T216.setTop (mkF m 287 #[.val (.int p1), .val (.int p2), .val (.int p3), .val (.int p4), .val (.int p5), .val (.int kk0), .val (.int kk1), .val (.int kk2), .val (.int hk), .val (.int lf), .val (.ref b1), .val (.ref b3), .val (.ref b5), .val (.ref b8), .val (.ref b11), .val (.int r0_), .val (.int r1_), .val (.int r2_), .val (.int r3_), .val (.int key0), .val (.int key1), .val (.int key2), .val (.int pos0), .unset, .unset, .unset, .unset, .unset] [(.int c21), (.int c01)])) (fun o U' => ∃ v L, o = .returned v ∧ Q_rm0 Z p1 p2 p3 p4 p5 h0 n0 v U'.heap L ∧ FrameEnd s o U' L room_1.cells room_1.slots) := by
                intro c21 d_c21
                refine Gk.iadd X216 hx (hb hby at_287) _ rfl ?_
                obtain ⟨pos1, epos1⟩ : ∃ z_ : Int32, z_ = (c01 + c21) := ⟨_, rfl⟩
                show Go p e below (T216.setTop (mkF m 288 #[.val (.int p1), .val (.int p2), .val (.int p3), .val (.int p4), .val (.int p5), .val (.int kk0), .val (.int kk1), .val (.int kk2), .val (.int hk), .val (.int lf), .val (.ref b1), .val (.ref b3), .val (.ref b5), .val (.ref b8), .val (.ref b11), .val (.int r0_), .val (.int r1_), .val (.int r2_), .val (.int r3_), .val (.int key0), .val (.int key1), .val (.int key2), .val (.int pos0), .unset, .unset, .unset, .unset, .unset] [(.int (c01 + c21))])) _
                rw [← epos1]
                refine Gk.istore X216 hx (hb hby at_288) #[.val (.int p1), .val (.int p2), .val (.int p3), .val (.int p4), .val (.int p5), .val (.int kk0), .val (.int kk1), .val (.int kk2), .val (.int hk), .val (.int lf), .val (.ref b1), .val (.ref b3), .val (.ref b5), .val (.ref b8), .val (.ref b11), .val (.int r0_), .val (.int r1_), .val (.int r2_), .val (.int r3_), .val (.int key0), .val (.int key1), .val (.int key2), .val (.int pos0), .val (.int pos1), .unset, .unset, .unset, .unset] rfl ?_
                refine Gk.iload X216 hx (hb hby at_290) rfl ?_
                refine Gk.iload X216 hx (hb hby at_292) rfl ?_
                have J302 : ∀ c02 : Int32, c02 = (if key0 < key2 then (1 : Int32) else (0 : Int32)) → Go p e below (T216.setTop (mkF m 302 #[.val (.int p1), .val (.int p2), .val (.int p3), .val (.int p4), .val (.int p5), .val (.int kk0), .val (.int kk1), .val (.int kk2), .val (.int hk), .val (.int lf), .val (.ref b1), .val (.ref b3), .val (.ref b5), .val (.ref b8), .val (.ref b11), .val (.int r0_), .val (.int r1_), .val (.int r2_), .val (.int r3_), .val (.int key0), .val (.int key1), .val (.int key2), .val (.int pos0), .val (.int pos1), .unset, .unset, .unset, .unset] [(.int c02)])) (fun o U' => ∃ v L, o = .returned v ∧ Q_rm0 Z p1 p2 p3 p4 p5 h0 n0 v U'.heap L ∧ FrameEnd s o U' L room_1.cells room_1.slots) := by
                  intro c02 d_c02
                  refine Gk.iload X216 hx (hb hby at_302) rfl ?_
                  refine Gk.iload X216 hx (hb hby at_304) rfl ?_
                  have J314 : ∀ c12 : Int32, c12 = (if key1 < key2 then (1 : Int32) else (0 : Int32)) → Go p e below (T216.setTop (mkF m 314 #[.val (.int p1), .val (.int p2), .val (.int p3), .val (.int p4), .val (.int p5), .val (.int kk0), .val (.int kk1), .val (.int kk2), .val (.int hk), .val (.int lf), .val (.ref b1), .val (.ref b3), .val (.ref b5), .val (.ref b8), .val (.ref b11), .val (.int r0_), .val (.int r1_), .val (.int r2_), .val (.int r3_), .val (.int key0), .val (.int key1), .val (.int key2), .val (.int pos0), .val (.int pos1), .unset, .unset, .unset, .unset] [(.int c12), (.int c02)])) (fun o U' => ∃ v L, o = .returned v ∧ Q_rm0 Z p1 p2 p3 p4 p5 h0 n0 v U'.heap L ∧ FrameEnd s o U' L room_1.cells room_1.slots) := by
                    intro c12 d_c12
                    refine Gk.iadd X216 hx (hb hby at_314) _ rfl ?_
                    obtain ⟨pos2, epos2⟩ : ∃ z_ : Int32, z_ = (c02 + c12) := ⟨_, rfl⟩
                    show Go p e below (T216.setTop (mkF m 315 #[.val (.int p1), .val (.int p2), .val (.int p3), .val (.int p4), .val (.int p5), .val (.int kk0), .val (.int kk1), .val (.int kk2), .val (.int hk), .val (.int lf), .val (.ref b1), .val (.ref b3), .val (.ref b5), .val (.ref b8), .val (.ref b11), .val (.int r0_), .val (.int r1_), .val (.int r2_), .val (.int r3_), .val (.int key0), .val (.int key1), .val (.int key2), .val (.int pos0), .val (.int pos1), .unset, .unset, .unset, .unset] [(.int (c02 + c12))])) _
                    rw [← epos2]
                    refine Gk.istore X216 hx (hb hby at_315) #[.val (.int p1), .val (.int p2), .val (.int p3), .val (.int p4), .val (.int p5), .val (.int kk0), .val (.int kk1), .val (.int kk2), .val (.int hk), .val (.int lf), .val (.ref b1), .val (.ref b3), .val (.ref b5), .val (.ref b8), .val (.ref b11), .val (.int r0_), .val (.int r1_), .val (.int r2_), .val (.int r3_), .val (.int key0), .val (.int key1), .val (.int key2), .val (.int pos0), .val (.int pos1), .val (.int pos2), .unset, .unset, .unset] rfl ?_
                    have hb0 := own_pos epos0 (own_if01 d_c10) (own_if01 d_c20)
                    have hpos0 : pos0 = p0F kk0 kk1 kk2 lf := by rw [epos0, d_c10, d_c20, ekey0, ekey1, ekey2, d_d0, d_d2]; rfl
                    have hb1 := own_pos epos1 (own_if01 d_c01) (own_if01 d_c21)
                    have hpos1 : pos1 = p1F kk0 kk1 kk2 lf := by rw [epos1, d_c01, d_c21, ekey0, ekey1, ekey2, d_d0, d_d2]; rfl
                    have hb2 := own_pos epos2 (own_if01 d_c02) (own_if01 d_c12)
                    have hpos2 : pos2 = p2F kk0 kk1 kk2 lf := by rw [epos2, d_c02, d_c12, ekey0, ekey1, ekey2, d_d0, d_d2]; rfl
                    rw [← hpos0, ← hpos1, ← hpos2] at hout
                    refine Gk.iconst X216 hx (hb hby at_317) (3 : Int32) rfl ?_
                    refine Gk.newP X216 hx hZ (hw _ (List.mem_of_getElem? (i := 1) rfl)) rfl (hb hby at_318) (by decide) (cap := 3) (by decide) (by decide) (by decide) (by decide) rfl ?_
                    intro T222 h222 b222 k222 X222 e222 E222 g222 A222 B222
                    have g_b222 : n0 ≤ b222 := Nat.le_trans (Nat.le_trans Z0 (Nat.le_trans gr221 K216.1)) (Nat.le_of_eq g222.symm)
                    have V_b222 : Arf Z h222 b222 k222 .int (3 : Int32) (fun _ => (.int (0 : Int32))) := A222
                    have lt_b222 := V_b222.lt
                    refine Gk.astore X222 hx (hb hby at_320) rfl #[.val (.int p1), .val (.int p2), .val (.int p3), .val (.int p4), .val (.int p5), .val (.int kk0), .val (.int kk1), .val (.int kk2), .val (.int hk), .val (.int lf), .val (.ref b1), .val (.ref b3), .val (.ref b5), .val (.ref b8), .val (.ref b11), .val (.int r0_), .val (.int r1_), .val (.int r2_), .val (.int r3_), .val (.int key0), .val (.int key1), .val (.int key2), .val (.int pos0), .val (.int pos1), .val (.int pos2), .val (.ref b222), .unset, .unset] rfl ?_
                    refine Gk.aload X222 hx (hb hby at_322) rfl rfl ?_
                    refine Gk.iload X222 hx (hb hby at_324) rfl ?_
                    refine Gk.iconst X222 hx (hb hby at_326) (0 : Int32) rfl ?_
                    refine Gk.iastore X222 hx hZ e222 V_b222 pos0.toNatClampNeg rfl hb0 (.int (0 : Int32)) rfl (hb hby at_327) ?_
                    intro T223 h223 X223 e223 W223 V223
                    have N223 := Fr.snoc X223 N216 g_b222
                    refine Gk.aload X223 hx (hb hby at_328) rfl rfl ?_
                    refine Gk.iload X223 hx (hb hby at_330) rfl ?_
                    refine Gk.iconst X223 hx (hb hby at_332) (1 : Int32) rfl ?_
                    refine Gk.iastore X223 hx hZ e223 V223 pos1.toNatClampNeg rfl hb1 (.int (1 : Int32)) rfl (hb hby at_333) ?_
                    intro T224 h224 X224 e224 W224 V224
                    have N224 := Fr.snoc X224 N223 g_b222
                    refine Gk.aload X224 hx (hb hby at_334) rfl rfl ?_
                    refine Gk.iload X224 hx (hb hby at_336) rfl ?_
                    refine Gk.iconst X224 hx (hb hby at_338) (2 : Int32) rfl ?_
                    refine Gk.iastore X224 hx hZ e224 V224 pos2.toNatClampNeg rfl hb2 (.int (2 : Int32)) rfl (hb hby at_339) ?_
                    intro T225 h225 X225 e225 W225 V225
                    have N225 := Fr.snoc X225 N224 g_b222
                    refine Gk.iconst X225 hx (hb hby at_340) (4 : Int32) rfl ?_
                    have gr227 := (Nat.le_trans (Nat.le_trans (Nat.le_trans (Nat.le_trans (Nat.le_trans gr221 K216.1) E222.1) (Keep.of_wr W223).1) (Keep.of_wr W224).1) (Keep.of_wr W225).1)
                    refine Gk.newP X225 hx hZ (hw _ (List.mem_of_getElem? (i := 1) rfl)) e225 (hb hby at_341) (by decide) (cap := 4) (by decide) (by decide) (by decide) (by decide) rfl ?_
                    intro T226 h226 b226 k226 X226 e226 E226 g226 A226 B226
                    have g_b226 : n0 ≤ b226 := Nat.le_trans (Nat.le_trans Z0 gr227) (Nat.le_of_eq g226.symm)
                    have V_b226 : Arf Z h226 b226 k226 .int (4 : Int32) (fun _ => (.int (0 : Int32))) := A226
                    have lt_b226 := V_b226.lt
                    refine Gk.dup X226 hx (hb hby at_343) rfl ?_
                    refine Gk.iconst X226 hx (hb hby at_344) (0 : Int32) rfl ?_
                    refine Gk.iconst X226 hx (hb hby at_345) (-1 : Int32) rfl ?_
                    refine Gk.iastore X226 hx hZ e226 V_b226 0 rfl ⟨by decide, by decide⟩ (.int (-1 : Int32)) rfl (hb hby at_346) ?_
                    intro T228 h228 X228 e228 W228 V228
                    have N228 := Fr.snoc X228 N225 g_b226
                    refine Gk.dup X228 hx (hb hby at_347) rfl ?_
                    refine Gk.iconst X228 hx (hb hby at_348) (1 : Int32) rfl ?_
                    refine Gk.iconst X228 hx (hb hby at_349) (-1 : Int32) rfl ?_
                    refine Gk.iastore X228 hx hZ e228 V228 1 rfl ⟨by decide, by decide⟩ (.int (-1 : Int32)) rfl (hb hby at_350) ?_
                    intro T229 h229 X229 e229 W229 V229
                    have N229 := Fr.snoc X229 N228 g_b226
                    refine Gk.dup X229 hx (hb hby at_351) rfl ?_
                    refine Gk.iconst X229 hx (hb hby at_352) (2 : Int32) rfl ?_
                    refine Gk.iconst X229 hx (hb hby at_353) (-1 : Int32) rfl ?_
                    refine Gk.iastore X229 hx hZ e229 V229 2 rfl ⟨by decide, by decide⟩ (.int (-1 : Int32)) rfl (hb hby at_354) ?_
                    intro T230 h230 X230 e230 W230 V230
                    have N230 := Fr.snoc X230 N229 g_b226
                    refine Gk.dup X230 hx (hb hby at_355) rfl ?_
                    refine Gk.iconst X230 hx (hb hby at_356) (3 : Int32) rfl ?_
                    refine Gk.iconst X230 hx (hb hby at_357) (-1 : Int32) rfl ?_
                    refine Gk.iastore X230 hx hZ e230 V230 3 rfl ⟨by decide, by decide⟩ (.int (-1 : Int32)) rfl (hb hby at_358) ?_
                    intro T231 h231 X231 e231 W231 V231
                    have N231 := Fr.snoc X231 N230 g_b226
                    refine Gk.astore X231 hx (hb hby at_359) rfl #[.val (.int p1), .val (.int p2), .val (.int p3), .val (.int p4), .val (.int p5), .val (.int kk0), .val (.int kk1), .val (.int kk2), .val (.int hk), .val (.int lf), .val (.ref b1), .val (.ref b3), .val (.ref b5), .val (.ref b8), .val (.ref b11), .val (.int r0_), .val (.int r1_), .val (.int r2_), .val (.int r3_), .val (.int key0), .val (.int key1), .val (.int key2), .val (.int pos0), .val (.int pos1), .val (.int pos2), .val (.ref b222), .val (.ref b226), .unset] rfl ?_
                    refine Gk.iconst X231 hx (hb hby at_361) (0 : Int32) rfl ?_
                    refine Gk.istore X231 hx (hb hby at_362) #[.val (.int p1), .val (.int p2), .val (.int p3), .val (.int p4), .val (.int p5), .val (.int kk0), .val (.int kk1), .val (.int kk2), .val (.int hk), .val (.int lf), .val (.ref b1), .val (.ref b3), .val (.ref b5), .val (.ref b8), .val (.ref b11), .val (.int r0_), .val (.int r1_), .val (.int r2_), .val (.int r3_), .val (.int key0), .val (.int key1), .val (.int key2), .val (.int pos0), .val (.int pos1), .val (.int pos2), .val (.ref b222), .val (.ref b226), .val (.int (0 : Int32))] rfl ?_
                    obtain ⟨s0v, es0⟩ : ∃ z_ : Int32, z_ = sF pos0 pos1 pos2 0 := ⟨_, rfl⟩
                    obtain ⟨s1v, es1⟩ : ∃ z_ : Int32, z_ = sF pos0 pos1 pos2 1 := ⟨_, rfl⟩
                    obtain ⟨s2v, es2⟩ : ∃ z_ : Int32, z_ = sF pos0 pos1 pos2 2 := ⟨_, rfl⟩
                    rw [← es0, ← es1, ← es2] at hout
                    refine Gk.aload X231 hx (hb hby at_364) rfl rfl ?_
                    refine Gk.iconst X231 hx (hb hby at_366) (0 : Int32) rfl ?_
                    have gr233 := (Nat.le_trans (Nat.le_trans (Keep.of_wr W223).1 (Keep.of_wr W224).1) (Keep.of_wr W225).1)
                    have ne234 : b222 ≠ b226 := (Nat.ne_of_lt (Nat.lt_of_lt_of_le lt_b222 (Nat.le_trans gr233 (Nat.le_of_eq g226.symm))))
                    have H235 := (((((V225.ext E226).other W228 ne234).other W229 ne234).other W230 ne234).other W231 ne234)
                    refine Gk.iaload X231 hx hZ e231 H235 ⟨by decide, by decide⟩ (.int s0v) ((own_sF pos0 pos1 pos2 0).trans (congrArg Value.int es0.symm)) (hb hby at_367) ?_
                    refine Gk.iload X231 hx (hb hby at_368) rfl ?_
                    by_cases hc370 : s0v = hk
                    · refine Gk.icmpYes X231 hx (hb hby at_370) (teq hc370).1 385 (by decide) (by decide) ?_
                      refine Gk.aload X231 hx (hb hby at_385) rfl rfl ?_
                      refine Gk.iconst X231 hx (hb hby at_387) (1 : Int32) rfl ?_
                      refine Gk.iaload X231 hx hZ e231 H235 ⟨by decide, by decide⟩ (.int s1v) ((own_sF pos0 pos1 pos2 1).trans (congrArg Value.int es1.symm)) (hb hby at_388) ?_
                      refine Gk.iload X231 hx (hb hby at_389) rfl ?_
                      by_cases hc391 : s1v = hk
                      · refine Gk.icmpYes X231 hx (hb hby at_391) (teq hc391).1 406 (by decide) (by decide) ?_
                        refine Gk.aload X231 hx (hb hby at_406) rfl rfl ?_
                        refine Gk.iconst X231 hx (hb hby at_408) (2 : Int32) rfl ?_
                        refine Gk.iaload X231 hx hZ e231 H235 ⟨by decide, by decide⟩ (.int s2v) ((own_sF pos0 pos1 pos2 2).trans (congrArg Value.int es2.symm)) (hb hby at_409) ?_
                        refine Gk.iload X231 hx (hb hby at_410) rfl ?_
                        by_cases hc412 : s2v = hk
                        · refine Gk.icmpYes X231 hx (hb hby at_412) (teq hc412).1 427 (by decide) (by decide) ?_
                          have ho := hout
                          rw [outF, if_pos hc370, if_pos hc391, if_pos hc412] at ho
                          obtain ⟨o0_, o1_, o2_, o3_⟩ := own_q4 ho
                          refine Gk.iload X231 hx (hb hby at_427) rfl ?_
                          refine Gk.aload X231 hx (hb hby at_429) rfl rfl ?_
                          refine Gk.iconst X231 hx (hb hby at_431) (0 : Int32) rfl ?_
                          refine Gk.iaload X231 hx hZ e231 V231 ⟨by decide, by decide⟩ (.int (-1 : Int32)) rfl (hb hby at_432) ?_
                          have hc433 : r0_ = (-1 : Int32) := o0_
                          refine Gk.icmpNo X231 hx (hb hby at_433) (teq hc433).2 ?_
                          refine Gk.iload X231 hx (hb hby at_436) rfl ?_
                          refine Gk.aload X231 hx (hb hby at_438) rfl rfl ?_
                          refine Gk.iconst X231 hx (hb hby at_440) (1 : Int32) rfl ?_
                          refine Gk.iaload X231 hx hZ e231 V231 ⟨by decide, by decide⟩ (.int (-1 : Int32)) rfl (hb hby at_441) ?_
                          have hc442 : r1_ = (-1 : Int32) := o1_
                          refine Gk.icmpNo X231 hx (hb hby at_442) (teq hc442).2 ?_
                          refine Gk.iload X231 hx (hb hby at_445) rfl ?_
                          refine Gk.aload X231 hx (hb hby at_447) rfl rfl ?_
                          refine Gk.iconst X231 hx (hb hby at_449) (2 : Int32) rfl ?_
                          refine Gk.iaload X231 hx hZ e231 V231 ⟨by decide, by decide⟩ (.int (-1 : Int32)) rfl (hb hby at_450) ?_
                          have hc451 : r2_ = (-1 : Int32) := o2_
                          refine Gk.icmpNo X231 hx (hb hby at_451) (teq hc451).2 ?_
                          refine Gk.iload X231 hx (hb hby at_454) rfl ?_
                          refine Gk.aload X231 hx (hb hby at_456) rfl rfl ?_
                          refine Gk.iconst X231 hx (hb hby at_458) (3 : Int32) rfl ?_
                          refine Gk.iaload X231 hx hZ e231 V231 ⟨by decide, by decide⟩ (.int (-1 : Int32)) rfl (hb hby at_459) ?_
                          have hc460 : r3_ = (-1 : Int32) := o3_
                          refine Gk.icmpNo X231 hx (hb hby at_460) (teq hc460).2 ?_
                          refine Gk.iconst X231 hx (hb hby at_463) (1 : Int32) rfl ?_
                          refine Gk.goto X231 hx (hb hby at_464) 468 (by decide) (by decide) ?_
                          refine Go.fin X231 (v := some (.int (1 : Int32))) (fun h_ => by rw [Bd.returns] at h_; cases h_) Bd.notSynchronized (fun _ hr => retN X231 hx (t := .boolean) Bd.returns (by simp) (hb hby at_468) hr) (fun U' hU hF => ⟨_, _, rfl, ?_, hF.1, hF.2.1, hF.2.2.mono (by decide) (by decide)⟩)
                          exact ⟨(congrArg (fun z_ : Int32 => some (Value.int z_)) (show (1 : Int32) = (1 : Int32) from rfl)), N231⟩
                        · refine Gk.icmpNo X231 hx (hb hby at_412) (feq hc412).1 ?_
                          refine Gk.aload X231 hx (hb hby at_415) rfl rfl ?_
                          refine Gk.iload X231 hx (hb hby at_417) rfl ?_
                          refine Gk.aload X231 hx (hb hby at_419) rfl rfl ?_
                          refine Gk.iconst X231 hx (hb hby at_421) (2 : Int32) rfl ?_
                          refine Gk.iaload X231 hx hZ e231 H235 ⟨by decide, by decide⟩ (.int s2v) ((own_sF pos0 pos1 pos2 2).trans (congrArg Value.int es2.symm)) (hb hby at_422) ?_
                          refine Gk.iastore X231 hx hZ e231 V231 0 rfl ⟨by decide, by decide⟩ (.int s2v) rfl (hb hby at_423) ?_
                          intro T243 h243 X243 e243 W243 V243
                          have N243 := Fr.snoc X243 N231 g_b226
                          refine Gk.iinc X243 hx (hb hby at_424) rfl #[.val (.int p1), .val (.int p2), .val (.int p3), .val (.int p4), .val (.int p5), .val (.int kk0), .val (.int kk1), .val (.int kk2), .val (.int hk), .val (.int lf), .val (.ref b1), .val (.ref b3), .val (.ref b5), .val (.ref b8), .val (.ref b11), .val (.int r0_), .val (.int r1_), .val (.int r2_), .val (.int r3_), .val (.int key0), .val (.int key1), .val (.int key2), .val (.int pos0), .val (.int pos1), .val (.int pos2), .val (.ref b222), .val (.ref b226), .val (.int (1 : Int32))] rfl ?_
                          have ho := hout
                          rw [outF, if_pos hc370, if_pos hc391, if_neg hc412] at ho
                          obtain ⟨o0_, o1_, o2_, o3_⟩ := own_q4 ho
                          refine Gk.iload X243 hx (hb hby at_427) rfl ?_
                          refine Gk.aload X243 hx (hb hby at_429) rfl rfl ?_
                          refine Gk.iconst X243 hx (hb hby at_431) (0 : Int32) rfl ?_
                          refine Gk.iaload X243 hx hZ e243 V243 ⟨by decide, by decide⟩ (.int s2v) rfl (hb hby at_432) ?_
                          have hc433 : r0_ = s2v := o0_
                          refine Gk.icmpNo X243 hx (hb hby at_433) (teq hc433).2 ?_
                          refine Gk.iload X243 hx (hb hby at_436) rfl ?_
                          refine Gk.aload X243 hx (hb hby at_438) rfl rfl ?_
                          refine Gk.iconst X243 hx (hb hby at_440) (1 : Int32) rfl ?_
                          refine Gk.iaload X243 hx hZ e243 V243 ⟨by decide, by decide⟩ (.int (-1 : Int32)) rfl (hb hby at_441) ?_
                          have hc442 : r1_ = (-1 : Int32) := o1_
                          refine Gk.icmpNo X243 hx (hb hby at_442) (teq hc442).2 ?_
                          refine Gk.iload X243 hx (hb hby at_445) rfl ?_
                          refine Gk.aload X243 hx (hb hby at_447) rfl rfl ?_
                          refine Gk.iconst X243 hx (hb hby at_449) (2 : Int32) rfl ?_
                          refine Gk.iaload X243 hx hZ e243 V243 ⟨by decide, by decide⟩ (.int (-1 : Int32)) rfl (hb hby at_450) ?_
                          have hc451 : r2_ = (-1 : Int32) := o2_
                          refine Gk.icmpNo X243 hx (hb hby at_451) (teq hc451).2 ?_
                          refine Gk.iload X243 hx (hb hby at_454) rfl ?_
                          refine Gk.aload X243 hx (hb hby at_456) rfl rfl ?_
                          refine Gk.iconst X243 hx (hb hby at_458) (3 : Int32) rfl ?_
                          refine Gk.iaload X243 hx hZ e243 V243 ⟨by decide, by decide⟩ (.int (-1 : Int32)) rfl (hb hby at_459) ?_
                          have hc460 : r3_ = (-1 : Int32) := o3_
                          refine Gk.icmpNo X243 hx (hb hby at_460) (teq hc460).2 ?_
                          refine Gk.iconst X243 hx (hb hby at_463) (1 : Int32) rfl ?_
                          refine Gk.goto X243 hx (hb hby at_464) 468 (by decide) (by decide) ?_
                          refine Go.fin X243 (v := some (.int (1 : Int32))) (fun h_ => by rw [Bd.returns] at h_; cases h_) Bd.notSynchronized (fun _ hr => retN X243 hx (t := .boolean) Bd.returns (by simp) (hb hby at_468) hr) (fun U' hU hF => ⟨_, _, rfl, ?_, hF.1, hF.2.1, hF.2.2.mono (by decide) (by decide)⟩)
                          exact ⟨(congrArg (fun z_ : Int32 => some (Value.int z_)) (show (1 : Int32) = (1 : Int32) from rfl)), N243⟩
                      · refine Gk.icmpNo X231 hx (hb hby at_391) (feq hc391).1 ?_
                        refine Gk.aload X231 hx (hb hby at_394) rfl rfl ?_
                        refine Gk.iload X231 hx (hb hby at_396) rfl ?_
                        refine Gk.aload X231 hx (hb hby at_398) rfl rfl ?_
                        refine Gk.iconst X231 hx (hb hby at_400) (1 : Int32) rfl ?_
                        refine Gk.iaload X231 hx hZ e231 H235 ⟨by decide, by decide⟩ (.int s1v) ((own_sF pos0 pos1 pos2 1).trans (congrArg Value.int es1.symm)) (hb hby at_401) ?_
                        refine Gk.iastore X231 hx hZ e231 V231 0 rfl ⟨by decide, by decide⟩ (.int s1v) rfl (hb hby at_402) ?_
                        intro T249 h249 X249 e249 W249 V249
                        have N249 := Fr.snoc X249 N231 g_b226
                        refine Gk.iinc X249 hx (hb hby at_403) rfl #[.val (.int p1), .val (.int p2), .val (.int p3), .val (.int p4), .val (.int p5), .val (.int kk0), .val (.int kk1), .val (.int kk2), .val (.int hk), .val (.int lf), .val (.ref b1), .val (.ref b3), .val (.ref b5), .val (.ref b8), .val (.ref b11), .val (.int r0_), .val (.int r1_), .val (.int r2_), .val (.int r3_), .val (.int key0), .val (.int key1), .val (.int key2), .val (.int pos0), .val (.int pos1), .val (.int pos2), .val (.ref b222), .val (.ref b226), .val (.int (1 : Int32))] rfl ?_
                        refine Gk.aload X249 hx (hb hby at_406) rfl rfl ?_
                        refine Gk.iconst X249 hx (hb hby at_408) (2 : Int32) rfl ?_
                        have H251 := (H235.other W249 ne234)
                        refine Gk.iaload X249 hx hZ e249 H251 ⟨by decide, by decide⟩ (.int s2v) ((own_sF pos0 pos1 pos2 2).trans (congrArg Value.int es2.symm)) (hb hby at_409) ?_
                        refine Gk.iload X249 hx (hb hby at_410) rfl ?_
                        by_cases hc412 : s2v = hk
                        · refine Gk.icmpYes X249 hx (hb hby at_412) (teq hc412).1 427 (by decide) (by decide) ?_
                          have ho := hout
                          rw [outF, if_pos hc370, if_neg hc391, if_pos hc412] at ho
                          obtain ⟨o0_, o1_, o2_, o3_⟩ := own_q4 ho
                          refine Gk.iload X249 hx (hb hby at_427) rfl ?_
                          refine Gk.aload X249 hx (hb hby at_429) rfl rfl ?_
                          refine Gk.iconst X249 hx (hb hby at_431) (0 : Int32) rfl ?_
                          refine Gk.iaload X249 hx hZ e249 V249 ⟨by decide, by decide⟩ (.int s1v) rfl (hb hby at_432) ?_
                          have hc433 : r0_ = s1v := o0_
                          refine Gk.icmpNo X249 hx (hb hby at_433) (teq hc433).2 ?_
                          refine Gk.iload X249 hx (hb hby at_436) rfl ?_
                          refine Gk.aload X249 hx (hb hby at_438) rfl rfl ?_
                          refine Gk.iconst X249 hx (hb hby at_440) (1 : Int32) rfl ?_
                          refine Gk.iaload X249 hx hZ e249 V249 ⟨by decide, by decide⟩ (.int (-1 : Int32)) rfl (hb hby at_441) ?_
                          have hc442 : r1_ = (-1 : Int32) := o1_
                          refine Gk.icmpNo X249 hx (hb hby at_442) (teq hc442).2 ?_
                          refine Gk.iload X249 hx (hb hby at_445) rfl ?_
                          refine Gk.aload X249 hx (hb hby at_447) rfl rfl ?_
                          refine Gk.iconst X249 hx (hb hby at_449) (2 : Int32) rfl ?_
                          refine Gk.iaload X249 hx hZ e249 V249 ⟨by decide, by decide⟩ (.int (-1 : Int32)) rfl (hb hby at_450) ?_
                          have hc451 : r2_ = (-1 : Int32) := o2_
                          refine Gk.icmpNo X249 hx (hb hby at_451) (teq hc451).2 ?_
                          refine Gk.iload X249 hx (hb hby at_454) rfl ?_
                          refine Gk.aload X249 hx (hb hby at_456) rfl rfl ?_
                          refine Gk.iconst X249 hx (hb hby at_458) (3 : Int32) rfl ?_
                          refine Gk.iaload X249 hx hZ e249 V249 ⟨by decide, by decide⟩ (.int (-1 : Int32)) rfl (hb hby at_459) ?_
                          have hc460 : r3_ = (-1 : Int32) := o3_
                          refine Gk.icmpNo X249 hx (hb hby at_460) (teq hc460).2 ?_
                          refine Gk.iconst X249 hx (hb hby at_463) (1 : Int32) rfl ?_
                          refine Gk.goto X249 hx (hb hby at_464) 468 (by decide) (by decide) ?_
                          refine Go.fin X249 (v := some (.int (1 : Int32))) (fun h_ => by rw [Bd.returns] at h_; cases h_) Bd.notSynchronized (fun _ hr => retN X249 hx (t := .boolean) Bd.returns (by simp) (hb hby at_468) hr) (fun U' hU hF => ⟨_, _, rfl, ?_, hF.1, hF.2.1, hF.2.2.mono (by decide) (by decide)⟩)
                          exact ⟨(congrArg (fun z_ : Int32 => some (Value.int z_)) (show (1 : Int32) = (1 : Int32) from rfl)), N249⟩
                        · refine Gk.icmpNo X249 hx (hb hby at_412) (feq hc412).1 ?_
                          refine Gk.aload X249 hx (hb hby at_415) rfl rfl ?_
                          refine Gk.iload X249 hx (hb hby at_417) rfl ?_
                          refine Gk.aload X249 hx (hb hby at_419) rfl rfl ?_
                          refine Gk.iconst X249 hx (hb hby at_421) (2 : Int32) rfl ?_
                          refine Gk.iaload X249 hx hZ e249 H251 ⟨by decide, by decide⟩ (.int s2v) ((own_sF pos0 pos1 pos2 2).trans (congrArg Value.int es2.symm)) (hb hby at_422) ?_
                          refine Gk.iastore X249 hx hZ e249 V249 1 rfl ⟨by decide, by decide⟩ (.int s2v) rfl (hb hby at_423) ?_
                          intro T257 h257 X257 e257 W257 V257
                          have N257 := Fr.snoc X257 N249 g_b226
                          refine Gk.iinc X257 hx (hb hby at_424) rfl #[.val (.int p1), .val (.int p2), .val (.int p3), .val (.int p4), .val (.int p5), .val (.int kk0), .val (.int kk1), .val (.int kk2), .val (.int hk), .val (.int lf), .val (.ref b1), .val (.ref b3), .val (.ref b5), .val (.ref b8), .val (.ref b11), .val (.int r0_), .val (.int r1_), .val (.int r2_), .val (.int r3_), .val (.int key0), .val (.int key1), .val (.int key2), .val (.int pos0), .val (.int pos1), .val (.int pos2), .val (.ref b222), .val (.ref b226), .val (.int (2 : Int32))] rfl ?_
                          have ho := hout
                          rw [outF, if_pos hc370, if_neg hc391, if_neg hc412] at ho
                          obtain ⟨o0_, o1_, o2_, o3_⟩ := own_q4 ho
                          refine Gk.iload X257 hx (hb hby at_427) rfl ?_
                          refine Gk.aload X257 hx (hb hby at_429) rfl rfl ?_
                          refine Gk.iconst X257 hx (hb hby at_431) (0 : Int32) rfl ?_
                          refine Gk.iaload X257 hx hZ e257 V257 ⟨by decide, by decide⟩ (.int s1v) rfl (hb hby at_432) ?_
                          have hc433 : r0_ = s1v := o0_
                          refine Gk.icmpNo X257 hx (hb hby at_433) (teq hc433).2 ?_
                          refine Gk.iload X257 hx (hb hby at_436) rfl ?_
                          refine Gk.aload X257 hx (hb hby at_438) rfl rfl ?_
                          refine Gk.iconst X257 hx (hb hby at_440) (1 : Int32) rfl ?_
                          refine Gk.iaload X257 hx hZ e257 V257 ⟨by decide, by decide⟩ (.int s2v) rfl (hb hby at_441) ?_
                          have hc442 : r1_ = s2v := o1_
                          refine Gk.icmpNo X257 hx (hb hby at_442) (teq hc442).2 ?_
                          refine Gk.iload X257 hx (hb hby at_445) rfl ?_
                          refine Gk.aload X257 hx (hb hby at_447) rfl rfl ?_
                          refine Gk.iconst X257 hx (hb hby at_449) (2 : Int32) rfl ?_
                          refine Gk.iaload X257 hx hZ e257 V257 ⟨by decide, by decide⟩ (.int (-1 : Int32)) rfl (hb hby at_450) ?_
                          have hc451 : r2_ = (-1 : Int32) := o2_
                          refine Gk.icmpNo X257 hx (hb hby at_451) (teq hc451).2 ?_
                          refine Gk.iload X257 hx (hb hby at_454) rfl ?_
                          refine Gk.aload X257 hx (hb hby at_456) rfl rfl ?_
                          refine Gk.iconst X257 hx (hb hby at_458) (3 : Int32) rfl ?_
                          refine Gk.iaload X257 hx hZ e257 V257 ⟨by decide, by decide⟩ (.int (-1 : Int32)) rfl (hb hby at_459) ?_
                          have hc460 : r3_ = (-1 : Int32) := o3_
                          refine Gk.icmpNo X257 hx (hb hby at_460) (teq hc460).2 ?_
                          refine Gk.iconst X257 hx (hb hby at_463) (1 : Int32) rfl ?_
                          refine Gk.goto X257 hx (hb hby at_464) 468 (by decide) (by decide) ?_
                          refine Go.fin X257 (v := some (.int (1 : Int32))) (fun h_ => by rw [Bd.returns] at h_; cases h_) Bd.notSynchronized (fun _ hr => retN X257 hx (t := .boolean) Bd.returns (by simp) (hb hby at_468) hr) (fun U' hU hF => ⟨_, _, rfl, ?_, hF.1, hF.2.1, hF.2.2.mono (by decide) (by decide)⟩)
                          exact ⟨(congrArg (fun z_ : Int32 => some (Value.int z_)) (show (1 : Int32) = (1 : Int32) from rfl)), N257⟩
                    · refine Gk.icmpNo X231 hx (hb hby at_370) (feq hc370).1 ?_
                      refine Gk.aload X231 hx (hb hby at_373) rfl rfl ?_
                      refine Gk.iload X231 hx (hb hby at_375) rfl ?_
                      refine Gk.aload X231 hx (hb hby at_377) rfl rfl ?_
                      refine Gk.iconst X231 hx (hb hby at_379) (0 : Int32) rfl ?_
                      refine Gk.iaload X231 hx hZ e231 H235 ⟨by decide, by decide⟩ (.int s0v) ((own_sF pos0 pos1 pos2 0).trans (congrArg Value.int es0.symm)) (hb hby at_380) ?_
                      refine Gk.iastore X231 hx hZ e231 V231 0 rfl ⟨by decide, by decide⟩ (.int s0v) rfl (hb hby at_381) ?_
                      intro T263 h263 X263 e263 W263 V263
                      have N263 := Fr.snoc X263 N231 g_b226
                      refine Gk.iinc X263 hx (hb hby at_382) rfl #[.val (.int p1), .val (.int p2), .val (.int p3), .val (.int p4), .val (.int p5), .val (.int kk0), .val (.int kk1), .val (.int kk2), .val (.int hk), .val (.int lf), .val (.ref b1), .val (.ref b3), .val (.ref b5), .val (.ref b8), .val (.ref b11), .val (.int r0_), .val (.int r1_), .val (.int r2_), .val (.int r3_), .val (.int key0), .val (.int key1), .val (.int key2), .val (.int pos0), .val (.int pos1), .val (.int pos2), .val (.ref b222), .val (.ref b226), .val (.int (1 : Int32))] rfl ?_
                      refine Gk.aload X263 hx (hb hby at_385) rfl rfl ?_
                      refine Gk.iconst X263 hx (hb hby at_387) (1 : Int32) rfl ?_
                      have H265 := (H235.other W263 ne234)
                      refine Gk.iaload X263 hx hZ e263 H265 ⟨by decide, by decide⟩ (.int s1v) ((own_sF pos0 pos1 pos2 1).trans (congrArg Value.int es1.symm)) (hb hby at_388) ?_
                      refine Gk.iload X263 hx (hb hby at_389) rfl ?_
                      by_cases hc391 : s1v = hk
                      · refine Gk.icmpYes X263 hx (hb hby at_391) (teq hc391).1 406 (by decide) (by decide) ?_
                        refine Gk.aload X263 hx (hb hby at_406) rfl rfl ?_
                        refine Gk.iconst X263 hx (hb hby at_408) (2 : Int32) rfl ?_
                        refine Gk.iaload X263 hx hZ e263 H265 ⟨by decide, by decide⟩ (.int s2v) ((own_sF pos0 pos1 pos2 2).trans (congrArg Value.int es2.symm)) (hb hby at_409) ?_
                        refine Gk.iload X263 hx (hb hby at_410) rfl ?_
                        by_cases hc412 : s2v = hk
                        · refine Gk.icmpYes X263 hx (hb hby at_412) (teq hc412).1 427 (by decide) (by decide) ?_
                          have ho := hout
                          rw [outF, if_neg hc370, if_pos hc391, if_pos hc412] at ho
                          obtain ⟨o0_, o1_, o2_, o3_⟩ := own_q4 ho
                          refine Gk.iload X263 hx (hb hby at_427) rfl ?_
                          refine Gk.aload X263 hx (hb hby at_429) rfl rfl ?_
                          refine Gk.iconst X263 hx (hb hby at_431) (0 : Int32) rfl ?_
                          refine Gk.iaload X263 hx hZ e263 V263 ⟨by decide, by decide⟩ (.int s0v) rfl (hb hby at_432) ?_
                          have hc433 : r0_ = s0v := o0_
                          refine Gk.icmpNo X263 hx (hb hby at_433) (teq hc433).2 ?_
                          refine Gk.iload X263 hx (hb hby at_436) rfl ?_
                          refine Gk.aload X263 hx (hb hby at_438) rfl rfl ?_
                          refine Gk.iconst X263 hx (hb hby at_440) (1 : Int32) rfl ?_
                          refine Gk.iaload X263 hx hZ e263 V263 ⟨by decide, by decide⟩ (.int (-1 : Int32)) rfl (hb hby at_441) ?_
                          have hc442 : r1_ = (-1 : Int32) := o1_
                          refine Gk.icmpNo X263 hx (hb hby at_442) (teq hc442).2 ?_
                          refine Gk.iload X263 hx (hb hby at_445) rfl ?_
                          refine Gk.aload X263 hx (hb hby at_447) rfl rfl ?_
                          refine Gk.iconst X263 hx (hb hby at_449) (2 : Int32) rfl ?_
                          refine Gk.iaload X263 hx hZ e263 V263 ⟨by decide, by decide⟩ (.int (-1 : Int32)) rfl (hb hby at_450) ?_
                          have hc451 : r2_ = (-1 : Int32) := o2_
                          refine Gk.icmpNo X263 hx (hb hby at_451) (teq hc451).2 ?_
                          refine Gk.iload X263 hx (hb hby at_454) rfl ?_
                          refine Gk.aload X263 hx (hb hby at_456) rfl rfl ?_
                          refine Gk.iconst X263 hx (hb hby at_458) (3 : Int32) rfl ?_
                          refine Gk.iaload X263 hx hZ e263 V263 ⟨by decide, by decide⟩ (.int (-1 : Int32)) rfl (hb hby at_459) ?_
                          have hc460 : r3_ = (-1 : Int32) := o3_
                          refine Gk.icmpNo X263 hx (hb hby at_460) (teq hc460).2 ?_
                          refine Gk.iconst X263 hx (hb hby at_463) (1 : Int32) rfl ?_
                          refine Gk.goto X263 hx (hb hby at_464) 468 (by decide) (by decide) ?_
                          refine Go.fin X263 (v := some (.int (1 : Int32))) (fun h_ => by rw [Bd.returns] at h_; cases h_) Bd.notSynchronized (fun _ hr => retN X263 hx (t := .boolean) Bd.returns (by simp) (hb hby at_468) hr) (fun U' hU hF => ⟨_, _, rfl, ?_, hF.1, hF.2.1, hF.2.2.mono (by decide) (by decide)⟩)
                          exact ⟨(congrArg (fun z_ : Int32 => some (Value.int z_)) (show (1 : Int32) = (1 : Int32) from rfl)), N263⟩
                        · refine Gk.icmpNo X263 hx (hb hby at_412) (feq hc412).1 ?_
                          refine Gk.aload X263 hx (hb hby at_415) rfl rfl ?_
                          refine Gk.iload X263 hx (hb hby at_417) rfl ?_
                          refine Gk.aload X263 hx (hb hby at_419) rfl rfl ?_
                          refine Gk.iconst X263 hx (hb hby at_421) (2 : Int32) rfl ?_
                          refine Gk.iaload X263 hx hZ e263 H265 ⟨by decide, by decide⟩ (.int s2v) ((own_sF pos0 pos1 pos2 2).trans (congrArg Value.int es2.symm)) (hb hby at_422) ?_
                          refine Gk.iastore X263 hx hZ e263 V263 1 rfl ⟨by decide, by decide⟩ (.int s2v) rfl (hb hby at_423) ?_
                          intro T272 h272 X272 e272 W272 V272
                          have N272 := Fr.snoc X272 N263 g_b226
                          refine Gk.iinc X272 hx (hb hby at_424) rfl #[.val (.int p1), .val (.int p2), .val (.int p3), .val (.int p4), .val (.int p5), .val (.int kk0), .val (.int kk1), .val (.int kk2), .val (.int hk), .val (.int lf), .val (.ref b1), .val (.ref b3), .val (.ref b5), .val (.ref b8), .val (.ref b11), .val (.int r0_), .val (.int r1_), .val (.int r2_), .val (.int r3_), .val (.int key0), .val (.int key1), .val (.int key2), .val (.int pos0), .val (.int pos1), .val (.int pos2), .val (.ref b222), .val (.ref b226), .val (.int (2 : Int32))] rfl ?_
                          have ho := hout
                          rw [outF, if_neg hc370, if_pos hc391, if_neg hc412] at ho
                          obtain ⟨o0_, o1_, o2_, o3_⟩ := own_q4 ho
                          refine Gk.iload X272 hx (hb hby at_427) rfl ?_
                          refine Gk.aload X272 hx (hb hby at_429) rfl rfl ?_
                          refine Gk.iconst X272 hx (hb hby at_431) (0 : Int32) rfl ?_
                          refine Gk.iaload X272 hx hZ e272 V272 ⟨by decide, by decide⟩ (.int s0v) rfl (hb hby at_432) ?_
                          have hc433 : r0_ = s0v := o0_
                          refine Gk.icmpNo X272 hx (hb hby at_433) (teq hc433).2 ?_
                          refine Gk.iload X272 hx (hb hby at_436) rfl ?_
                          refine Gk.aload X272 hx (hb hby at_438) rfl rfl ?_
                          refine Gk.iconst X272 hx (hb hby at_440) (1 : Int32) rfl ?_
                          refine Gk.iaload X272 hx hZ e272 V272 ⟨by decide, by decide⟩ (.int s2v) rfl (hb hby at_441) ?_
                          have hc442 : r1_ = s2v := o1_
                          refine Gk.icmpNo X272 hx (hb hby at_442) (teq hc442).2 ?_
                          refine Gk.iload X272 hx (hb hby at_445) rfl ?_
                          refine Gk.aload X272 hx (hb hby at_447) rfl rfl ?_
                          refine Gk.iconst X272 hx (hb hby at_449) (2 : Int32) rfl ?_
                          refine Gk.iaload X272 hx hZ e272 V272 ⟨by decide, by decide⟩ (.int (-1 : Int32)) rfl (hb hby at_450) ?_
                          have hc451 : r2_ = (-1 : Int32) := o2_
                          refine Gk.icmpNo X272 hx (hb hby at_451) (teq hc451).2 ?_
                          refine Gk.iload X272 hx (hb hby at_454) rfl ?_
                          refine Gk.aload X272 hx (hb hby at_456) rfl rfl ?_
                          refine Gk.iconst X272 hx (hb hby at_458) (3 : Int32) rfl ?_
                          refine Gk.iaload X272 hx hZ e272 V272 ⟨by decide, by decide⟩ (.int (-1 : Int32)) rfl (hb hby at_459) ?_
                          have hc460 : r3_ = (-1 : Int32) := o3_
                          refine Gk.icmpNo X272 hx (hb hby at_460) (teq hc460).2 ?_
                          refine Gk.iconst X272 hx (hb hby at_463) (1 : Int32) rfl ?_
                          refine Gk.goto X272 hx (hb hby at_464) 468 (by decide) (by decide) ?_
                          refine Go.fin X272 (v := some (.int (1 : Int32))) (fun h_ => by rw [Bd.returns] at h_; cases h_) Bd.notSynchronized (fun _ hr => retN X272 hx (t := .boolean) Bd.returns (by simp) (hb hby at_468) hr) (fun U' hU hF => ⟨_, _, rfl, ?_, hF.1, hF.2.1, hF.2.2.mono (by decide) (by decide)⟩)
                          exact ⟨(congrArg (fun z_ : Int32 => some (Value.int z_)) (show (1 : Int32) = (1 : Int32) from rfl)), N272⟩
                      · refine Gk.icmpNo X263 hx (hb hby at_391) (feq hc391).1 ?_
                        refine Gk.aload X263 hx (hb hby at_394) rfl rfl ?_
                        refine Gk.iload X263 hx (hb hby at_396) rfl ?_
                        refine Gk.aload X263 hx (hb hby at_398) rfl rfl ?_
                        refine Gk.iconst X263 hx (hb hby at_400) (1 : Int32) rfl ?_
                        refine Gk.iaload X263 hx hZ e263 H265 ⟨by decide, by decide⟩ (.int s1v) ((own_sF pos0 pos1 pos2 1).trans (congrArg Value.int es1.symm)) (hb hby at_401) ?_
                        refine Gk.iastore X263 hx hZ e263 V263 1 rfl ⟨by decide, by decide⟩ (.int s1v) rfl (hb hby at_402) ?_
                        intro T278 h278 X278 e278 W278 V278
                        have N278 := Fr.snoc X278 N263 g_b226
                        refine Gk.iinc X278 hx (hb hby at_403) rfl #[.val (.int p1), .val (.int p2), .val (.int p3), .val (.int p4), .val (.int p5), .val (.int kk0), .val (.int kk1), .val (.int kk2), .val (.int hk), .val (.int lf), .val (.ref b1), .val (.ref b3), .val (.ref b5), .val (.ref b8), .val (.ref b11), .val (.int r0_), .val (.int r1_), .val (.int r2_), .val (.int r3_), .val (.int key0), .val (.int key1), .val (.int key2), .val (.int pos0), .val (.int pos1), .val (.int pos2), .val (.ref b222), .val (.ref b226), .val (.int (2 : Int32))] rfl ?_
                        refine Gk.aload X278 hx (hb hby at_406) rfl rfl ?_
                        refine Gk.iconst X278 hx (hb hby at_408) (2 : Int32) rfl ?_
                        have H280 := (H265.other W278 ne234)
                        refine Gk.iaload X278 hx hZ e278 H280 ⟨by decide, by decide⟩ (.int s2v) ((own_sF pos0 pos1 pos2 2).trans (congrArg Value.int es2.symm)) (hb hby at_409) ?_
                        refine Gk.iload X278 hx (hb hby at_410) rfl ?_
                        by_cases hc412 : s2v = hk
                        · refine Gk.icmpYes X278 hx (hb hby at_412) (teq hc412).1 427 (by decide) (by decide) ?_
                          have ho := hout
                          rw [outF, if_neg hc370, if_neg hc391, if_pos hc412] at ho
                          obtain ⟨o0_, o1_, o2_, o3_⟩ := own_q4 ho
                          refine Gk.iload X278 hx (hb hby at_427) rfl ?_
                          refine Gk.aload X278 hx (hb hby at_429) rfl rfl ?_
                          refine Gk.iconst X278 hx (hb hby at_431) (0 : Int32) rfl ?_
                          refine Gk.iaload X278 hx hZ e278 V278 ⟨by decide, by decide⟩ (.int s0v) rfl (hb hby at_432) ?_
                          have hc433 : r0_ = s0v := o0_
                          refine Gk.icmpNo X278 hx (hb hby at_433) (teq hc433).2 ?_
                          refine Gk.iload X278 hx (hb hby at_436) rfl ?_
                          refine Gk.aload X278 hx (hb hby at_438) rfl rfl ?_
                          refine Gk.iconst X278 hx (hb hby at_440) (1 : Int32) rfl ?_
                          refine Gk.iaload X278 hx hZ e278 V278 ⟨by decide, by decide⟩ (.int s1v) rfl (hb hby at_441) ?_
                          have hc442 : r1_ = s1v := o1_
                          refine Gk.icmpNo X278 hx (hb hby at_442) (teq hc442).2 ?_
                          refine Gk.iload X278 hx (hb hby at_445) rfl ?_
                          refine Gk.aload X278 hx (hb hby at_447) rfl rfl ?_
                          refine Gk.iconst X278 hx (hb hby at_449) (2 : Int32) rfl ?_
                          refine Gk.iaload X278 hx hZ e278 V278 ⟨by decide, by decide⟩ (.int (-1 : Int32)) rfl (hb hby at_450) ?_
                          have hc451 : r2_ = (-1 : Int32) := o2_
                          refine Gk.icmpNo X278 hx (hb hby at_451) (teq hc451).2 ?_
                          refine Gk.iload X278 hx (hb hby at_454) rfl ?_
                          refine Gk.aload X278 hx (hb hby at_456) rfl rfl ?_
                          refine Gk.iconst X278 hx (hb hby at_458) (3 : Int32) rfl ?_
                          refine Gk.iaload X278 hx hZ e278 V278 ⟨by decide, by decide⟩ (.int (-1 : Int32)) rfl (hb hby at_459) ?_
                          have hc460 : r3_ = (-1 : Int32) := o3_
                          refine Gk.icmpNo X278 hx (hb hby at_460) (teq hc460).2 ?_
                          refine Gk.iconst X278 hx (hb hby at_463) (1 : Int32) rfl ?_
                          refine Gk.goto X278 hx (hb hby at_464) 468 (by decide) (by decide) ?_
                          refine Go.fin X278 (v := some (.int (1 : Int32))) (fun h_ => by rw [Bd.returns] at h_; cases h_) Bd.notSynchronized (fun _ hr => retN X278 hx (t := .boolean) Bd.returns (by simp) (hb hby at_468) hr) (fun U' hU hF => ⟨_, _, rfl, ?_, hF.1, hF.2.1, hF.2.2.mono (by decide) (by decide)⟩)
                          exact ⟨(congrArg (fun z_ : Int32 => some (Value.int z_)) (show (1 : Int32) = (1 : Int32) from rfl)), N278⟩
                        · refine Gk.icmpNo X278 hx (hb hby at_412) (feq hc412).1 ?_
                          refine Gk.aload X278 hx (hb hby at_415) rfl rfl ?_
                          refine Gk.iload X278 hx (hb hby at_417) rfl ?_
                          refine Gk.aload X278 hx (hb hby at_419) rfl rfl ?_
                          refine Gk.iconst X278 hx (hb hby at_421) (2 : Int32) rfl ?_
                          refine Gk.iaload X278 hx hZ e278 H280 ⟨by decide, by decide⟩ (.int s2v) ((own_sF pos0 pos1 pos2 2).trans (congrArg Value.int es2.symm)) (hb hby at_422) ?_
                          refine Gk.iastore X278 hx hZ e278 V278 2 rfl ⟨by decide, by decide⟩ (.int s2v) rfl (hb hby at_423) ?_
                          intro T286 h286 X286 e286 W286 V286
                          have N286 := Fr.snoc X286 N278 g_b226
                          refine Gk.iinc X286 hx (hb hby at_424) rfl #[.val (.int p1), .val (.int p2), .val (.int p3), .val (.int p4), .val (.int p5), .val (.int kk0), .val (.int kk1), .val (.int kk2), .val (.int hk), .val (.int lf), .val (.ref b1), .val (.ref b3), .val (.ref b5), .val (.ref b8), .val (.ref b11), .val (.int r0_), .val (.int r1_), .val (.int r2_), .val (.int r3_), .val (.int key0), .val (.int key1), .val (.int key2), .val (.int pos0), .val (.int pos1), .val (.int pos2), .val (.ref b222), .val (.ref b226), .val (.int (3 : Int32))] rfl ?_
                          have ho := hout
                          rw [outF, if_neg hc370, if_neg hc391, if_neg hc412] at ho
                          obtain ⟨o0_, o1_, o2_, o3_⟩ := own_q4 ho
                          refine Gk.iload X286 hx (hb hby at_427) rfl ?_
                          refine Gk.aload X286 hx (hb hby at_429) rfl rfl ?_
                          refine Gk.iconst X286 hx (hb hby at_431) (0 : Int32) rfl ?_
                          refine Gk.iaload X286 hx hZ e286 V286 ⟨by decide, by decide⟩ (.int s0v) rfl (hb hby at_432) ?_
                          have hc433 : r0_ = s0v := o0_
                          refine Gk.icmpNo X286 hx (hb hby at_433) (teq hc433).2 ?_
                          refine Gk.iload X286 hx (hb hby at_436) rfl ?_
                          refine Gk.aload X286 hx (hb hby at_438) rfl rfl ?_
                          refine Gk.iconst X286 hx (hb hby at_440) (1 : Int32) rfl ?_
                          refine Gk.iaload X286 hx hZ e286 V286 ⟨by decide, by decide⟩ (.int s1v) rfl (hb hby at_441) ?_
                          have hc442 : r1_ = s1v := o1_
                          refine Gk.icmpNo X286 hx (hb hby at_442) (teq hc442).2 ?_
                          refine Gk.iload X286 hx (hb hby at_445) rfl ?_
                          refine Gk.aload X286 hx (hb hby at_447) rfl rfl ?_
                          refine Gk.iconst X286 hx (hb hby at_449) (2 : Int32) rfl ?_
                          refine Gk.iaload X286 hx hZ e286 V286 ⟨by decide, by decide⟩ (.int s2v) rfl (hb hby at_450) ?_
                          have hc451 : r2_ = s2v := o2_
                          refine Gk.icmpNo X286 hx (hb hby at_451) (teq hc451).2 ?_
                          refine Gk.iload X286 hx (hb hby at_454) rfl ?_
                          refine Gk.aload X286 hx (hb hby at_456) rfl rfl ?_
                          refine Gk.iconst X286 hx (hb hby at_458) (3 : Int32) rfl ?_
                          refine Gk.iaload X286 hx hZ e286 V286 ⟨by decide, by decide⟩ (.int (-1 : Int32)) rfl (hb hby at_459) ?_
                          have hc460 : r3_ = (-1 : Int32) := o3_
                          refine Gk.icmpNo X286 hx (hb hby at_460) (teq hc460).2 ?_
                          refine Gk.iconst X286 hx (hb hby at_463) (1 : Int32) rfl ?_
                          refine Gk.goto X286 hx (hb hby at_464) 468 (by decide) (by decide) ?_
                          refine Go.fin X286 (v := some (.int (1 : Int32))) (fun h_ => by rw [Bd.returns] at h_; cases h_) Bd.notSynchronized (fun _ hr => retN X286 hx (t := .boolean) Bd.returns (by simp) (hb hby at_468) hr) (fun U' hU hF => ⟨_, _, rfl, ?_, hF.1, hF.2.1, hF.2.2.mono (by decide) (by decide)⟩)
                          exact ⟨(congrArg (fun z_ : Int32 => some (Value.int z_)) (show (1 : Int32) = (1 : Int32) from rfl)), N286⟩
                  by_cases hc306 : key1 < key2
                  · refine Gk.icmpNo X216 hx (hb hby at_306) (tlt hc306).2.1 ?_
                    refine Gk.iconst X216 hx (hb hby at_309) (1 : Int32) rfl ?_
                    refine Gk.goto X216 hx (hb hby at_310) 314 (by decide) (by decide) ?_
                    exact J314 _ (if_pos hc306).symm
                  · refine Gk.icmpYes X216 hx (hb hby at_306) (flt hc306).2.1 313 (by decide) (by decide) ?_
                    refine Gk.iconst X216 hx (hb hby at_313) (0 : Int32) rfl ?_
                    exact J314 _ (if_neg hc306).symm
                by_cases hc294 : key0 < key2
                · refine Gk.icmpNo X216 hx (hb hby at_294) (tlt hc294).2.1 ?_
                  refine Gk.iconst X216 hx (hb hby at_297) (1 : Int32) rfl ?_
                  refine Gk.goto X216 hx (hb hby at_298) 302 (by decide) (by decide) ?_
                  exact J302 _ (if_pos hc294).symm
                · refine Gk.icmpYes X216 hx (hb hby at_294) (flt hc294).2.1 301 (by decide) (by decide) ?_
                  refine Gk.iconst X216 hx (hb hby at_301) (0 : Int32) rfl ?_
                  exact J302 _ (if_neg hc294).symm
              by_cases hc279 : key2 < key1
              · refine Gk.icmpNo X216 hx (hb hby at_279) (tlt hc279).2.1 ?_
                refine Gk.iconst X216 hx (hb hby at_282) (1 : Int32) rfl ?_
                refine Gk.goto X216 hx (hb hby at_283) 287 (by decide) (by decide) ?_
                exact J287 _ (if_pos hc279).symm
              · refine Gk.icmpYes X216 hx (hb hby at_279) (flt hc279).2.1 286 (by decide) (by decide) ?_
                refine Gk.iconst X216 hx (hb hby at_286) (0 : Int32) rfl ?_
                exact J287 _ (if_neg hc279).symm
            by_cases hc267 : key0 < key1
            · refine Gk.icmpNo X216 hx (hb hby at_267) (tlt hc267).2.1 ?_
              refine Gk.iconst X216 hx (hb hby at_270) (1 : Int32) rfl ?_
              refine Gk.goto X216 hx (hb hby at_271) 275 (by decide) (by decide) ?_
              exact J275 _ (if_pos hc267).symm
            · refine Gk.icmpYes X216 hx (hb hby at_267) (flt hc267).2.1 274 (by decide) (by decide) ?_
              refine Gk.iconst X216 hx (hb hby at_274) (0 : Int32) rfl ?_
              exact J275 _ (if_neg hc267).symm
          by_cases hc252 : key2 < key0
          · refine Gk.icmpNo X216 hx (hb hby at_252) (tlt hc252).2.1 ?_
            refine Gk.iconst X216 hx (hb hby at_255) (1 : Int32) rfl ?_
            refine Gk.goto X216 hx (hb hby at_256) 260 (by decide) (by decide) ?_
            exact J260 _ (if_pos hc252).symm
          · refine Gk.icmpYes X216 hx (hb hby at_252) (flt hc252).2.1 259 (by decide) (by decide) ?_
            refine Gk.iconst X216 hx (hb hby at_259) (0 : Int32) rfl ?_
            exact J260 _ (if_neg hc252).symm
        by_cases hc240 : key1 < key0
        · refine Gk.icmpNo X216 hx (hb hby at_240) (tlt hc240).2.1 ?_
          refine Gk.iconst X216 hx (hb hby at_243) (1 : Int32) rfl ?_
          refine Gk.goto X216 hx (hb hby at_244) 248 (by decide) (by decide) ?_
          exact J248 _ (if_pos hc240).symm
        · refine Gk.icmpYes X216 hx (hb hby at_240) (flt hc240).2.1 247 (by decide) (by decide) ?_
          refine Gk.iconst X216 hx (hb hby at_247) (0 : Int32) rfl ?_
          exact J248 _ (if_neg hc240).symm
      by_cases hc225 : lf = (0 : Int32)
      · refine Gk.ifYes X216 hx (hb hby at_225) (teq hc225).1 232 (by decide) (by decide) ?_
        refine Gk.iconst X216 hx (hb hby at_232) (2 : Int32) rfl ?_
        exact J233 _ (if_pos hc225).symm
      · refine Gk.ifNo X216 hx (hb hby at_225) (feq hc225).1 ?_
        refine Gk.iconst X216 hx (hb hby at_228) (0 : Int32) rfl ?_
        refine Gk.goto X216 hx (hb hby at_229) 233 (by decide) (by decide) ?_
        exact J233 _ (if_neg hc225).symm
    by_cases hc200 : lf = (0 : Int32)
    · refine Gk.ifYes X216 hx (hb hby at_200) (teq hc200).1 207 (by decide) (by decide) ?_
      refine Gk.iconst X216 hx (hb hby at_207) (0 : Int32) rfl ?_
      exact J208 _ (if_pos hc200).symm
    · refine Gk.ifNo X216 hx (hb hby at_200) (feq hc200).1 ?_
      refine Gk.iconst X216 hx (hb hby at_203) (2 : Int32) rfl ?_
      refine Gk.goto X216 hx (hb hby at_204) 208 (by decide) (by decide) ?_
      exact J208 _ (if_neg hc200).symm
  by_cases hc33 : (p5 &&& (1 : Int32)) = (0 : Int32)
  · refine Gk.ifYes X0 hx (hb hby at_33) (teq hc33).1 40 (by decide) (by decide) ?_
    refine Gk.iconst X0 hx (hb hby at_40) (0 : Int32) rfl ?_
    exact J41 _ (Or.inl rfl)
  · refine Gk.ifNo X0 hx (hb hby at_33) (feq hc33).1 ?_
    refine Gk.iconst X0 hx (hb hby at_36) (1 : Int32) rfl ?_
    refine Gk.goto X0 hx (hb hby at_37) 41 (by decide) (by decide) ?_
    exact J41 _ (Or.inr rfl)
set_option maxRecDepth 65536 in
set_option maxHeartbeats 40000000 in
theorem comes_1 {Post : Tables → Env → Array Value → State → Outcome → State → Prop} (hpost : ∀ tb e args s v u, (limb_1_1.after args s (.returned v) u = true ∧ limb_1_2.after args s (.returned v) u = true ∧ True) → FrameEnd s (.returned v) u (Jvm.fieldLocs frame_1_writes args s ++ Jvm.arrayLocs frame_1_arrays args s ++ Jvm.staticLocs frame_1_statics s) 56 640 → Post tb e args s (.returned v) u) :
    ArmFor flags0 classFile x code maxLocals ret World_1 tables_1 room_1 Calls_1 rest_1 Pre_1 Post := by
  intro l hfl _ _ p e ha hc hk s m args below hf hA hF happ hP
  obtain ⟨hcalls, hrest, hpre⟩ := hP
  obtain ⟨-, -, -, hnamed, -, -, -, hat⟩ := (Spec.applies_iff hf).mp happ
  obtain ⟨hg, hn⟩ := and_e (Cond.before_iff.mp (show (Jvm.Cond.and given_1 narrow_1).before args s = true from hpre))
  obtain ⟨g1, g2⟩ := and_e hg
  obtain ⟨g3, g4⟩ := and_e g2
  obtain ⟨g5, g6⟩ := and_e g4
  obtain ⟨g7, g8⟩ := and_e g6
  obtain ⟨g9, g10⟩ := and_e g8
  obtain ⟨w0, w1, w2, w3, w4, rfl⟩ : ∃ w0 w1 w2 w3 w4 : Value, args = #[w0, w1, w2, w3, w4] := by
    have hs : args.size = 5 := by simpa [Cond.value, given_1] using g1
    obtain ⟨L⟩ := args
    match L, hs with
    | [w0, w1, w2, w3, w4], _ => exact ⟨w0, w1, w2, w3, w4, rfl⟩
  have hw := fun d (hd : d ∈ tables_1) => atoms_spec (ws := Jvm.Cond.code x code maxLocals ret :: tables_1) hat d (List.mem_cons_of_mem _ hd)
  have hfit : Fit s := fun {y c} hc i hi => by
    obtain ⟨ha, rfl⟩ := Array.getElem?_eq_some_iff.mp hc
    have q := List.all_eq_true.mp ((Array.all_eq_true_iff_forall_mem.mp hF) _ (Array.getElem_mem ha)) i (List.mem_range.mpr hi)
    simpa [Array.getElem?_eq_getElem hi] using q
  obtain ⟨i0, ei0⟩ := is_v g3
  obtain rfl : w0 = (.int i0) := Option.some.inj ei0
  obtain ⟨i1, ei1⟩ := is_v g5
  obtain rfl : w1 = (.int i1) := Option.some.inj ei1
  obtain ⟨i2, ei2⟩ := is_v g7
  obtain rfl : w2 = (.int i2) := Option.some.inj ei2
  obtain ⟨i3, ei3⟩ := is_v g9
  obtain rfl : w3 = (.int i3) := Option.some.inj ei3
  obtain ⟨i4, ei4⟩ := is_v g10
  obtain rfl : w4 = (.int i4) := Option.some.inj ei4
  obtain ⟨n, o, h1, h2, h3, _, L, rfl, ⟨rfl, N⟩, hq⟩ := rm0 l s _ hw tables_1 i0 i1 i2 i3 i4 s.heap s.heap.size (Nat.le_refl _) p e ha hc hk s m _ below hf ((Spec.applies_iff_loose hf).mp happ).1 ⟨rfl, State.Warmed39.refl s, rfl⟩ trivial
  refine ⟨n, _, h1, h2, h3, hpost _ _ _ _ _ _ ⟨Cond.after_iff.mpr rfl, Cond.after_iff.mpr (eq_i res_at (Term.int_eval (1)) rfl), trivial⟩ ⟨hq.1, hq.2.1, (hq.2.2.sift fun y hy => Or.inr (N y hy)).mono (by decide) (by decide)⟩⟩
theorem main_1_1 : Claimed_1_1 := comes_1 fun _ _ _ _ _ _ h hF => ⟨h.1, hF⟩
theorem main_1_2 : Claimed_1_2 := comes_1 fun _ _ _ _ _ _ h hF => ⟨h.2.1, hF⟩
end Jvm.Pilot.@@N@@
namespace Jvm.Pilot.@@N@@
open Jvm Jvm.ClassFile Sem Op Lib Jvm.Free Jvm.Stand Jvm.Pilot.@@N@@.Jvm.D
/-! MADE BY PROGRAM (witnessworld.py) out of the Statement's table words and the real class files: 21 classes; the members and pool entries that the words name. The judged class is class 1, her method 2. -/
namespace start1
open Jvm.ClassFile
def u (s : String) : CpInfo := .utf8 (stringToUtf16 s)
/-- a pool by its gaps: so many unusable entries, then the entry; so many at the end -/
def gap : Nat → List CpInfo → List CpInfo
  | 0, r => r
  | n + 1, r => .unusable :: gap n r
def poolList (es : List (Nat × CpInfo)) (last : Nat) : List CpInfo := es.foldr (fun e r => gap e.1 (e.2 :: r)) (gap last [])
def pool (es : List (Nat × CpInfo)) (last : Nat) : Array CpInfo := ⟨poolList es last⟩
def fileOf (pool : Array CpInfo) (this : Nat) (attrs : Array Attribute := #[]) (ms : Array MethodInfo := #[]) (fl : Nat := 33) (sup : Nat := 0) (ifs : Array Nat := #[]) (fds : Array FieldInfo := #[]) : ClassFile where
  minorVersion := 0
  majorVersion := 65
  constantPool := pool
  accessFlags := fl
  thisClass := this
  superClass := sup
  interfaces := ifs
  fields := fds
  methods := ms
  attributes := attrs
def plain (name : String) (sup : Option ClassId) : Class where
  name := name
  kind := .ordinary
  loader := none
  accessFlags := 33
  super := sup
  interfaces := #[]
  cf := none
  fields := #[]
  methods := #[]
  instanceTypes := #[]
  staticTypes := #[]
  resolved := #[]
  callSites := []
  init := .initialized
  statics := none
  mirror := none

def pool0 : Array CpInfo := pool [(5, u "<init>"), (0, u "()V"), (1, .class_ 10), (1, u "java/lang/Object")] 113

def k0c0 : Code := { maxStack := 0, maxLocals := 1, code := object_method_1_code, exceptionTable := #[], attributes := #[] }
def k0m0 : Method := { name := "<init>", desc := "()V", sig := { parameters := [], returnType := none }, accessFlags := 1, code := some k0c0 }
/-- java/lang/Object -/
def k0 : Class := { plain "java/lang/Object" none with
  accessFlags := 33
  interfaces := #[]
  cf := some (fileOf pool0 8 #[] #[{ accessFlags := 1, nameIndex := 5, descriptorIndex := 6, attributes := #[] }] 33 0 #[] #[])
  fields := #[]
  methods := #[k0m0]
  instanceTypes := #[]
  staticTypes := #[]
  resolved := Array.replicate 124 none
  statics := none }

def pool1 : Array CpInfo := pool [(2, .class_ 4), (1, u "java/lang/Object"), (0, u "<init>"), (0, u "()V"), (0, .long 4294967295), (1, .long 11400714819323198485), (1, .integer 2147483647), (0, .class_ 13), (0, u "com/example/tracewarden/tracewarden/engine/SearchTuples"), (0, .class_ 15), (0, u "com/example/tracewarden/tracewarden/engine/SearchBudget"), (0, .long 3), (1, .methodref 14 19), (0, .nameAndType 5 20), (0, u "(J)V"), (0, .methodref 12 22), (0, .nameAndType 5 23), (0, u "(IILcom/example/tracewarden/tracewarden/engine/SearchBudget;)V"), (0, .methodref 12 25), (0, .nameAndType 26 27), (0, u "clear"), (0, u "(IIZ)V"), (0, .methodref 29 30), (0, .class_ 31), (0, .nameAndType 32 33), (0, u "com/example/tracewarden/tracewarden/engine/SearchTuplesPollPinLaw"), (0, u "code"), (0, u "(I)I"), (0, .methodref 12 35), (0, .nameAndType 36 37), (0, u "add"), (0, u "([IILcom/example/tracewarden/tracewarden/engine/Zone;ILcom/example/tracewarden/tracewarden/engine/SearchTuples$Event;I)V"), (0, .methodref 12 39), (0, .nameAndType 40 41), (0, u "passOver"), (0, u "([ILcom/example/tracewarden/tracewarden/engine/Zone;)V"), (0, .methodref 12 43), (0, .nameAndType 44 45), (0, u "poll"), (0, u "()I"), (2, u "law"), (0, u "(IIIII)Z")] 9

def k1m0 : Method := { name := "<init>", desc := "()V", sig := { parameters := [], returnType := none }, accessFlags := 1, code := none }
def k1c1 : Code := { maxStack := 4, maxLocals := 3, code := method_2_code, exceptionTable := #[], attributes := #[] }
def k1m1 : Method := { name := "code", desc := "(I)I", sig := { parameters := [.int], returnType := some .int }, accessFlags := 10, code := some k1c1 }
def k1c2 : Code := { maxStack := 8, maxLocals := 28, code := code, exceptionTable := #[], attributes := #[] }
def k1m2 : Method := { name := "law", desc := "(IIIII)Z", sig := { parameters := [.int, .int, .int, .int, .int], returnType := some .boolean }, accessFlags := 9, code := some k1c2 }
/-- com/example/tracewarden/tracewarden/engine/SearchTuplesPollPinLaw -/
def k1 : Class := { plain "com/example/tracewarden/tracewarden/engine/SearchTuplesPollPinLaw" (some 0) with
  accessFlags := 49
  interfaces := #[]
  cf := some (fileOf pool1 29 #[] #[{ accessFlags := 1, nameIndex := 5, descriptorIndex := 6, attributes := #[] }, { accessFlags := 10, nameIndex := 32, descriptorIndex := 33, attributes := #[] }, { accessFlags := 9, nameIndex := 48, descriptorIndex := 49, attributes := #[] }] 49 2 #[] #[])
  fields := #[]
  methods := #[k1m0, k1m1, k1m2]
  instanceTypes := #[]
  staticTypes := #[]
  resolved := Array.replicate 59 none
  statics := none }

def pool2 : Array CpInfo := pool [(1, .methodref 2 3), (0, .class_ 4), (0, .nameAndType 5 6), (0, u "java/lang/Object"), (0, u "<init>"), (0, u "()V"), (0, .fieldref 8 9), (0, .class_ 10), (0, .nameAndType 11 12), (0, u "com/example/tracewarden/tracewarden/engine/SearchTuples"), (0, u "states"), (0, u "[I"), (0, .fieldref 8 14), (0, .nameAndType 15 12), (0, u "hashes"), (0, .class_ 17), (0, u "com/example/tracewarden/tracewarden/engine/Zone"), (0, .fieldref 8 19), (0, .nameAndType 20 21), (0, u "zones"), (0, u "[Lcom/example/tracewarden/tracewarden/engine/Zone;"), (0, .fieldref 8 23), (0, .nameAndType 24 12), (0, u "sameStates"), (0, .fieldref 8 26), (0, .nameAndType 27 28), (0, u "held"), (0, u "[Z"), (0, .fieldref 8 30), (0, .nameAndType 31 12), (0, u "parents"), (0, .class_ 33), (0, u "com/example/tracewarden/tracewarden/engine/SearchTuples$Event"), (0, .fieldref 8 35), (0, .nameAndType 36 37), (0, u "events"), (0, u "[Lcom/example/tracewarden/tracewarden/engine/SearchTuples$Event;"), (0, .fieldref 8 39), (0, .nameAndType 40 12), (0, u "ranks"), (0, .fieldref 8 42), (0, .nameAndType 43 12), (0, u "slots"), (0, .fieldref 8 45), (0, .nameAndType 46 47), (0, u "budget"), (0, u "Lcom/example/tracewarden/tracewarden/engine/SearchBudget;"), (0, .fieldref 8 49), (0, .nameAndType 50 51), (0, u "width"), (0, u "I"), (0, .class_ 53), (0, u "[[I"), (0, .fieldref 8 55), (0, .nameAndType 56 53), (0, u "ranked"), (0, .fieldref 8 58), (0, .nameAndType 59 12), (0, u "reached"), (0, .fieldref 8 61), (0, .nameAndType 62 12), (0, u "taken"), (0, .fieldref 8 64), (0, .nameAndType 65 66), (0, u "latestFirst"), (0, u "Z"), (1, .class_ 70), (1, u "java/util/Arrays"), (2, .methodref 68 74), (0, .nameAndType 75 76), (0, u "fill"), (0, u "([II)V"), (0, .fieldref 8 78), (0, .nameAndType 79 51), (0, u "size"), (0, .methodref 68 81), (0, .nameAndType 75 82), (0, u "([Ljava/lang/Object;IILjava/lang/Object;)V"), (0, .fieldref 8 84), (0, .nameAndType 85 51), (0, u "lowest"), (0, .methodref 87 88), (0, .class_ 89), (0, .nameAndType 90 91), (0, u "java/lang/System"), (0, u "arraycopy"), (0, u "(Ljava/lang/Object;ILjava/lang/Object;II)V"), (0, .methodref 8 93), (0, .nameAndType 94 95), (0, u "hash"), (0, u "([III)I"), (0, .methodref 8 97), (0, .nameAndType 98 99), (0, u "code"), (0, u "(II)I"), (2, u "NONE"), (4, .methodref 8 108), (0, .nameAndType 109 110), (0, u "latest"), (0, u "([II)I"), (4, .methodref 8 116), (0, .nameAndType 94 117), (0, u "([I)I"), (0, .methodref 8 119), (0, .nameAndType 120 121), (0, u "passOver"), (0, u "(ILcom/example/tracewarden/tracewarden/engine/Zone;)V"), (0, .methodref 123 124), (0, .class_ 125), (0, .nameAndType 126 6), (0, u "com/example/tracewarden/tracewarden/engine/SearchBudget"), (0, u "step"), (9, .class_ 138), (1, u "java/lang/Math"), (1, .methodref 136 141), (0, .nameAndType 142 99), (0, u "min"), (3, .methodref 68 147), (0, .nameAndType 148 149), (0, u "equals"), (0, u "([III[III)Z"), (0, .long 4294967295), (1, .long 11400714819323198485), (1, u "SETTLED"), (2, u "VIOLATED"), (1, u "MOST_CLEARED_SLOTS"), (1, u "(IILcom/example/tracewarden/tracewarden/engine/SearchBudget;)V"), (2, u "clear"), (0, u "(IIZ)V"), (2, u "()I"), (11, u "([ILcom/example/tracewarden/tracewarden/engine/Zone;)V"), (1, u "add"), (0, u "([IILcom/example/tracewarden/tracewarden/engine/Zone;ILcom/example/tracewarden/tracewarden/engine/SearchTuples$Event;I)V"), (0, u "poll")] 8

def k2c0 : Code := { maxStack := 3, maxLocals := 4, code := prog_86_method_1_code, exceptionTable := #[], attributes := #[] }
def k2m0 : Method := { name := "<init>", desc := "(IILcom/example/tracewarden/tracewarden/engine/SearchBudget;)V", sig := { parameters := [.int, .int, (.object "com/example/tracewarden/tracewarden/engine/SearchBudget")], returnType := none }, accessFlags := 0, code := some k2c0 }
def k2c1 : Code := { maxStack := 4, maxLocals := 5, code := prog_86_method_2_code, exceptionTable := #[], attributes := #[] }
def k2m1 : Method := { name := "clear", desc := "(IIZ)V", sig := { parameters := [.int, .int, .boolean], returnType := none }, accessFlags := 0, code := some k2c1 }
def k2c2 : Code := { maxStack := 3, maxLocals := 2, code := prog_86_method_7_code, exceptionTable := #[], attributes := #[] }
def k2m2 : Method := { name := "hash", desc := "([I)I", sig := { parameters := [(.array .int)], returnType := some .int }, accessFlags := 0, code := some k2c2 }
def k2c3 : Code := { maxStack := 5, maxLocals := 3, code := prog_86_method_14_code, exceptionTable := #[], attributes := #[] }
def k2m3 : Method := { name := "passOver", desc := "([ILcom/example/tracewarden/tracewarden/engine/Zone;)V", sig := { parameters := [(.array .int), (.object "com/example/tracewarden/tracewarden/engine/Zone")], returnType := none }, accessFlags := 0, code := some k2c3 }
def k2c4 : Code := { maxStack := 6, maxLocals := 4, code := prog_86_method_15_code, exceptionTable := #[], attributes := #[] }
def k2m4 : Method := { name := "passOver", desc := "(ILcom/example/tracewarden/tracewarden/engine/Zone;)V", sig := { parameters := [.int, (.object "com/example/tracewarden/tracewarden/engine/Zone")], returnType := none }, accessFlags := 2, code := some k2c4 }
def k2c5 : Code := { maxStack := 6, maxLocals := 10, code := prog_86_method_16_code, exceptionTable := #[], attributes := #[] }
def k2m5 : Method := { name := "add", desc := "([IILcom/example/tracewarden/tracewarden/engine/Zone;ILcom/example/tracewarden/tracewarden/engine/SearchTuples$Event;I)V", sig := { parameters := [(.array .int), .int, (.object "com/example/tracewarden/tracewarden/engine/Zone"), .int, (.object "com/example/tracewarden/tracewarden/engine/SearchTuples$Event"), .int], returnType := none }, accessFlags := 0, code := some k2c5 }
def k2c6 : Code := { maxStack := 6, maxLocals := 2, code := prog_86_method_17_code, exceptionTable := #[], attributes := #[] }
def k2m6 : Method := { name := "poll", desc := "()I", sig := { parameters := [], returnType := some .int }, accessFlags := 0, code := some k2c6 }
def k2c7 : Code := { maxStack := 6, maxLocals := 6, code := prog_86_method_18_code, exceptionTable := #[], attributes := #[] }
def k2m7 : Method := { name := "latest", desc := "([II)I", sig := { parameters := [(.array .int), .int], returnType := some .int }, accessFlags := 2, code := some k2c7 }
def k2c8 : Code := { maxStack := 5, maxLocals := 5, code := prog_86_method_20_code, exceptionTable := #[], attributes := #[] }
def k2m8 : Method := { name := "hash", desc := "([III)I", sig := { parameters := [(.array .int), .int, .int], returnType := some .int }, accessFlags := 10, code := some k2c8 }
def k2c9 : Code := { maxStack := 6, maxLocals := 4, code := prog_86_method_21_code, exceptionTable := #[], attributes := #[] }
def k2m9 : Method := { name := "code", desc := "(II)I", sig := { parameters := [.int, .int], returnType := some .int }, accessFlags := 10, code := some k2c9 }
/-- com/example/tracewarden/tracewarden/engine/SearchTuples -/
def k2 : Class := { plain "com/example/tracewarden/tracewarden/engine/SearchTuples" (some 0) with
  accessFlags := 48
  interfaces := #[]
  cf := some (fileOf pool2 8 #[.nestMembers #[32]] #[{ accessFlags := 0, nameIndex := 5, descriptorIndex := 161, attributes := #[] }, { accessFlags := 0, nameIndex := 164, descriptorIndex := 165, attributes := #[] }, { accessFlags := 0, nameIndex := 94, descriptorIndex := 117, attributes := #[] }, { accessFlags := 0, nameIndex := 120, descriptorIndex := 180, attributes := #[] }, { accessFlags := 2, nameIndex := 120, descriptorIndex := 121, attributes := #[] }, { accessFlags := 0, nameIndex := 182, descriptorIndex := 183, attributes := #[] }, { accessFlags := 0, nameIndex := 184, descriptorIndex := 168, attributes := #[] }, { accessFlags := 2, nameIndex := 109, descriptorIndex := 110, attributes := #[] }, { accessFlags := 10, nameIndex := 94, descriptorIndex := 95, attributes := #[] }, { accessFlags := 10, nameIndex := 98, descriptorIndex := 99, attributes := #[] }] 48 2 #[] #[{ accessFlags := 24, nameIndex := 154, descriptorIndex := 51, attributes := #[] }, { accessFlags := 24, nameIndex := 157, descriptorIndex := 51, attributes := #[] }, { accessFlags := 26, nameIndex := 159, descriptorIndex := 51, attributes := #[] }, { accessFlags := 26, nameIndex := 102, descriptorIndex := 12, attributes := #[] }, { accessFlags := 18, nameIndex := 46, descriptorIndex := 47, attributes := #[] }, { accessFlags := 2, nameIndex := 50, descriptorIndex := 51, attributes := #[] }, { accessFlags := 2, nameIndex := 11, descriptorIndex := 12, attributes := #[] }, { accessFlags := 2, nameIndex := 15, descriptorIndex := 12, attributes := #[] }, { accessFlags := 2, nameIndex := 20, descriptorIndex := 21, attributes := #[] }, { accessFlags := 2, nameIndex := 24, descriptorIndex := 12, attributes := #[] }, { accessFlags := 2, nameIndex := 27, descriptorIndex := 28, attributes := #[] }, { accessFlags := 2, nameIndex := 31, descriptorIndex := 12, attributes := #[] }, { accessFlags := 2, nameIndex := 36, descriptorIndex := 37, attributes := #[] }, { accessFlags := 2, nameIndex := 40, descriptorIndex := 12, attributes := #[] }, { accessFlags := 2, nameIndex := 79, descriptorIndex := 51, attributes := #[] }, { accessFlags := 2, nameIndex := 43, descriptorIndex := 12, attributes := #[] }, { accessFlags := 2, nameIndex := 56, descriptorIndex := 53, attributes := #[] }, { accessFlags := 2, nameIndex := 59, descriptorIndex := 12, attributes := #[] }, { accessFlags := 2, nameIndex := 62, descriptorIndex := 12, attributes := #[] }, { accessFlags := 2, nameIndex := 85, descriptorIndex := 51, attributes := #[] }, { accessFlags := 2, nameIndex := 65, descriptorIndex := 66, attributes := #[] }])
  fields := #[{ name := "SETTLED", type := .int, accessFlags := 24, slot := 0, constantValue := 0 }, { name := "VIOLATED", type := .int, accessFlags := 24, slot := 1, constantValue := 0 }, { name := "MOST_CLEARED_SLOTS", type := .int, accessFlags := 26, slot := 2, constantValue := 0 }, { name := "NONE", type := (.array .int), accessFlags := 26, slot := 3, constantValue := 0 }, { name := "budget", type := (.object "com/example/tracewarden/tracewarden/engine/SearchBudget"), accessFlags := 18, slot := 0, constantValue := 0 }, { name := "width", type := .int, accessFlags := 2, slot := 1, constantValue := 0 }, { name := "states", type := (.array .int), accessFlags := 2, slot := 2, constantValue := 0 }, { name := "hashes", type := (.array .int), accessFlags := 2, slot := 3, constantValue := 0 }, { name := "zones", type := (.array (.object "com/example/tracewarden/tracewarden/engine/Zone")), accessFlags := 2, slot := 4, constantValue := 0 }, { name := "sameStates", type := (.array .int), accessFlags := 2, slot := 5, constantValue := 0 }, { name := "held", type := (.array .boolean), accessFlags := 2, slot := 6, constantValue := 0 }, { name := "parents", type := (.array .int), accessFlags := 2, slot := 7, constantValue := 0 }, { name := "events", type := (.array (.object "com/example/tracewarden/tracewarden/engine/SearchTuples$Event")), accessFlags := 2, slot := 8, constantValue := 0 }, { name := "ranks", type := (.array .int), accessFlags := 2, slot := 9, constantValue := 0 }, { name := "size", type := .int, accessFlags := 2, slot := 10, constantValue := 0 }, { name := "slots", type := (.array .int), accessFlags := 2, slot := 11, constantValue := 0 }, { name := "ranked", type := (.array (.array .int)), accessFlags := 2, slot := 12, constantValue := 0 }, { name := "reached", type := (.array .int), accessFlags := 2, slot := 13, constantValue := 0 }, { name := "taken", type := (.array .int), accessFlags := 2, slot := 14, constantValue := 0 }, { name := "lowest", type := .int, accessFlags := 2, slot := 15, constantValue := 0 }, { name := "latestFirst", type := .boolean, accessFlags := 2, slot := 16, constantValue := 0 }]
  methods := #[k2m0, k2m1, k2m2, k2m3, k2m4, k2m5, k2m6, k2m7, k2m8, k2m9]
  instanceTypes := #[(.object "com/example/tracewarden/tracewarden/engine/SearchBudget"), .int, (.array .int), (.array .int), (.array (.object "com/example/tracewarden/tracewarden/engine/Zone")), (.array .int), (.array .boolean), (.array .int), (.array (.object "com/example/tracewarden/tracewarden/engine/SearchTuples$Event")), (.array .int), .int, (.array .int), (.array (.array .int)), (.array .int), (.array .int), .int, .boolean]
  staticTypes := #[.int, .int, .int, (.array .int)]
  resolved := Array.replicate 193 none
  statics := none }

def pool3 : Array CpInfo := pool [(1, .methodref 2 3), (0, .class_ 4), (0, .nameAndType 5 6), (0, u "java/lang/Object"), (0, u "<init>"), (0, u "()V"), (9, .fieldref 17 18), (0, .class_ 19), (0, .nameAndType 20 21), (0, u "com/example/tracewarden/tracewarden/engine/SearchBudget"), (0, u "left"), (0, u "J"), (0, .class_ 23), (0, u "com/example/tracewarden/tracewarden/engine/SearchBudget$Spent"), (1, u "(J)V"), (3, u "step")] 19

def k3c0 : Code := { maxStack := 4, maxLocals := 3, code := prog_84_method_1_code, exceptionTable := #[], attributes := #[] }
def k3m0 : Method := { name := "<init>", desc := "(J)V", sig := { parameters := [.long], returnType := none }, accessFlags := 0, code := some k3c0 }
def k3c1 : Code := { maxStack := 5, maxLocals := 1, code := prog_84_method_2_code, exceptionTable := #[], attributes := #[] }
def k3m1 : Method := { name := "step", desc := "()V", sig := { parameters := [], returnType := none }, accessFlags := 0, code := some k3c1 }
/-- com/example/tracewarden/tracewarden/engine/SearchBudget -/
def k3 : Class := { plain "com/example/tracewarden/tracewarden/engine/SearchBudget" (some 0) with
  accessFlags := 48
  interfaces := #[]
  cf := some (fileOf pool3 17 #[.nestMembers #[22]] #[{ accessFlags := 0, nameIndex := 5, descriptorIndex := 25, attributes := #[] }, { accessFlags := 0, nameIndex := 29, descriptorIndex := 6, attributes := #[] }] 48 2 #[] #[{ accessFlags := 2, nameIndex := 20, descriptorIndex := 21, attributes := #[] }])
  fields := #[{ name := "left", type := .long, accessFlags := 2, slot := 0, constantValue := 0 }]
  methods := #[k3m0, k3m1]
  instanceTypes := #[.long]
  staticTypes := #[]
  resolved := Array.replicate 49 none
  statics := none }

def pool4 : Array CpInfo := pool [(4, .class_ 6), (1, u "java/lang/Object"), (3, .class_ 12), (1, u "com/example/tracewarden/tracewarden/engine/Zone"), (0, u "size"), (0, u "I"), (2, u "bounds"), (0, u "[J"), (36, u "UNBOUNDED"), (0, u "J"), (1, u "NEW")] 27

/-- com/example/tracewarden/tracewarden/engine/Zone -/
def k4 : Class := { plain "com/example/tracewarden/tracewarden/engine/Zone" (some 0) with
  accessFlags := 48
  interfaces := #[]
  cf := some (fileOf pool4 10 #[] #[] 48 4 #[] #[{ accessFlags := 26, nameIndex := 55, descriptorIndex := 56, attributes := #[] }, { accessFlags := 24, nameIndex := 58, descriptorIndex := 14, attributes := #[] }, { accessFlags := 18, nameIndex := 13, descriptorIndex := 14, attributes := #[] }, { accessFlags := 18, nameIndex := 17, descriptorIndex := 18, attributes := #[] }])
  fields := #[{ name := "UNBOUNDED", type := .long, accessFlags := 26, slot := 0, constantValue := 0 }, { name := "NEW", type := .int, accessFlags := 24, slot := 1, constantValue := 0 }, { name := "size", type := .int, accessFlags := 18, slot := 0, constantValue := 0 }, { name := "bounds", type := (.array .long), accessFlags := 18, slot := 1, constantValue := 0 }]
  methods := #[]
  instanceTypes := #[.int, (.array .long)]
  staticTypes := #[.long, .int]
  resolved := Array.replicate 86 none
  statics := none }

def pool5 : Array CpInfo := pool [(2, .class_ 4), (1, u "java/lang/Object"), (0, u "<init>"), (0, u "()V"), (0, .class_ 8), (0, u "java/lang/Record")] 13

def k5m0 : Method := { name := "<init>", desc := "()V", sig := { parameters := [], returnType := none }, accessFlags := 4, code := none }
/-- java/lang/Record -/
def k5 : Class := { plain "java/lang/Record" (some 0) with
  accessFlags := 1057
  interfaces := #[]
  cf := some (fileOf pool5 7 #[] #[{ accessFlags := 4, nameIndex := 5, descriptorIndex := 6, attributes := #[] }] 1057 2 #[] #[])
  fields := #[]
  methods := #[k5m0]
  instanceTypes := #[]
  staticTypes := #[]
  resolved := Array.replicate 22 none
  statics := none }

def pool6 : Array CpInfo := pool [(2, .class_ 4), (1, u "java/lang/Record"), (3, .class_ 10), (1, u "com/example/tracewarden/tracewarden/engine/SearchTuples$Event"), (0, u "activity"), (0, u "I"), (2, u "data"), (0, u "Ljava/util/Map;"), (27, .class_ 45), (0, u "com/example/tracewarden/tracewarden/engine/SearchTuples")] 20

/-- com/example/tracewarden/tracewarden/engine/SearchTuples$Event -/
def k6 : Class := { plain "com/example/tracewarden/tracewarden/engine/SearchTuples$Event" (some 5) with
  accessFlags := 48
  interfaces := #[]
  cf := some (fileOf pool6 8 #[.nestHost 44] #[] 48 2 #[] #[{ accessFlags := 18, nameIndex := 11, descriptorIndex := 12, attributes := #[] }, { accessFlags := 18, nameIndex := 15, descriptorIndex := 16, attributes := #[] }])
  fields := #[{ name := "activity", type := .int, accessFlags := 18, slot := 0, constantValue := 0 }, { name := "data", type := (.object "java/util/Map"), accessFlags := 18, slot := 1, constantValue := 0 }]
  methods := #[]
  instanceTypes := #[.int, (.object "java/util/Map")]
  staticTypes := #[]
  resolved := Array.replicate 66 none
  statics := none }

def pool7 : Array CpInfo := pool [(2, .class_ 4), (1, u "java/lang/Object"), (0, u "<init>"), (0, u "()V"), (6, .methodref 14 15), (0, .class_ 16), (0, .nameAndType 17 18), (0, u "java/util/Arrays"), (0, u "rangeCheck"), (0, u "(III)V"), (55, .class_ 76), (1, u "java/util/Arrays$NaturalOrder"), (36, .class_ 115), (1, u "java/util/Arrays$LegacyMergeSort"), (1, u "Z"), (128, .class_ 248), (1, u "jdk/internal/util/ArraysSupport"), (0, u "mismatch"), (7, .methodref 246 258), (0, .nameAndType 249 259), (0, u "([II[III)I"), (38, u "equals"), (76, .class_ 376), (0, u "java/util/Arrays$ArrayList"), (68, u "$assertionsDisabled"), (269, u "MIN_ARRAY_SORT_GRAN"), (0, u "I"), (2, u "INSERTIONSORT_THRESHOLD"), (106, u "([III[III)Z"), (13, u "fill"), (4, u "([II)V"), (13, u "([Ljava/lang/Object;IILjava/lang/Object;)V"), (115, .class_ 976), (0, u "java/util/Arrays$ArrayItr")] 52

def k7m0 : Method := { name := "<init>", desc := "()V", sig := { parameters := [], returnType := none }, accessFlags := 2, code := none }
def k7c1 : Code := { maxStack := 4, maxLocals := 3, code := jdk_65_method_30_code, exceptionTable := #[], attributes := #[] }
def k7m1 : Method := { name := "rangeCheck", desc := "(III)V", sig := { parameters := [.int, .int, .int], returnType := none }, accessFlags := 8, code := some k7c1 }
def k7c2 : Code := { maxStack := 5, maxLocals := 8, code := jdk_65_method_84_code, exceptionTable := #[], attributes := #[] }
def k7m2 : Method := { name := "equals", desc := "([III[III)Z", sig := { parameters := [(.array .int), .int, .int, (.array .int), .int, .int], returnType := some .boolean }, accessFlags := 9, code := some k7c2 }
def k7c3 : Code := { maxStack := 3, maxLocals := 4, code := jdk_65_method_103_code, exceptionTable := #[], attributes := #[] }
def k7m3 : Method := { name := "fill", desc := "([II)V", sig := { parameters := [(.array .int), .int], returnType := none }, accessFlags := 9, code := some k7c3 }
def k7c4 : Code := { maxStack := 3, maxLocals := 5, code := jdk_65_method_118_code, exceptionTable := #[], attributes := #[] }
def k7m4 : Method := { name := "fill", desc := "([Ljava/lang/Object;IILjava/lang/Object;)V", sig := { parameters := [(.array (.object "java/lang/Object")), .int, .int, (.object "java/lang/Object")], returnType := none }, accessFlags := 9, code := some k7c4 }
/-- java/util/Arrays -/
def k7 : Class := { plain "java/util/Arrays" (some 0) with
  accessFlags := 49
  interfaces := #[]
  cf := some (fileOf pool7 14 #[.nestMembers #[975, 375, 113, 74]] #[{ accessFlags := 2, nameIndex := 5, descriptorIndex := 6, attributes := #[] }, { accessFlags := 8, nameIndex := 17, descriptorIndex := 18, attributes := #[] }, { accessFlags := 9, nameIndex := 298, descriptorIndex := 826, attributes := #[] }, { accessFlags := 9, nameIndex := 840, descriptorIndex := 845, attributes := #[] }, { accessFlags := 9, nameIndex := 840, descriptorIndex := 859, attributes := #[] }] 49 2 #[] #[{ accessFlags := 26, nameIndex := 715, descriptorIndex := 716, attributes := #[] }, { accessFlags := 26, nameIndex := 719, descriptorIndex := 716, attributes := #[] }, { accessFlags := 4120, nameIndex := 445, descriptorIndex := 117, attributes := #[] }])
  fields := #[{ name := "MIN_ARRAY_SORT_GRAN", type := .int, accessFlags := 26, slot := 0, constantValue := 0 }, { name := "INSERTIONSORT_THRESHOLD", type := .int, accessFlags := 26, slot := 1, constantValue := 0 }, { name := "$assertionsDisabled", type := .boolean, accessFlags := 4120, slot := 2, constantValue := 0 }]
  methods := #[k7m0, k7m1, k7m2, k7m3, k7m4]
  instanceTypes := #[]
  staticTypes := #[.int, .int, .boolean]
  resolved := Array.replicate 1029 none
  statics := none }

def pool8 : Array CpInfo := pool [(2, .class_ 4), (1, u "java/lang/Object"), (0, u "<init>"), (0, u "()V"), (1, .class_ 10), (1, u "java/lang/System"), (0, u "allowSecurityManager"), (0, u "I"), (16, u "cons"), (0, u "Ljava/io/Console;"), (77, .class_ 110), (1, u "java/lang/System$CallersHolder"), (43, u "initialErrStream"), (0, u "Ljava/io/PrintStream;"), (19, u "security"), (0, u "Ljava/lang/SecurityManager;"), (31, .class_ 209), (0, u "java/lang/System$1"), (7, u "props"), (0, u "Ljava/util/Properties;"), (2, u "lineSeparator"), (0, u "Ljava/lang/String;"), (96, .class_ 321), (1, u "java/lang/System$LoggerFinder"), (5, .class_ 328), (0, u "java/lang/System$Logger"), (67, u "err"), (2, u "out"), (91, u "notSupportedJnuEncoding"), (15, u "in"), (17, u "initialIn"), (0, u "Ljava/io/InputStream;"), (35, u "bootLayer"), (0, u "Ljava/lang/ModuleLayer;"), (99, .class_ 664), (0, u "java/lang/System$2"), (9, u "NEVER"), (2, u "MAYBE"), (49, u "arraycopy"), (0, u "(Ljava/lang/Object;ILjava/lang/Object;II)V"), (72, .class_ 802), (0, u "java/lang/System$Logger$Level")] 31

def k8m0 : Method := { name := "<init>", desc := "()V", sig := { parameters := [], returnType := none }, accessFlags := 2, code := none }
def k8m1 : Method := { name := "arraycopy", desc := "(Ljava/lang/Object;ILjava/lang/Object;II)V", sig := { parameters := [(.object "java/lang/Object"), .int, (.object "java/lang/Object"), .int, .int], returnType := none }, accessFlags := 265, code := none }
/-- java/lang/System -/
def k8 : Class := { plain "java/lang/System" (some 0) with
  accessFlags := 49
  interfaces := #[]
  cf := some (fileOf pool8 8 #[.nestMembers #[319, 327, 801, 108, 663, 208]] #[{ accessFlags := 2, nameIndex := 5, descriptorIndex := 6, attributes := #[] }, { accessFlags := 265, nameIndex := 727, descriptorIndex := 728, attributes := #[] }] 49 2 #[] #[{ accessFlags := 25, nameIndex := 507, descriptorIndex := 526, attributes := #[] }, { accessFlags := 25, nameIndex := 399, descriptorIndex := 155, attributes := #[] }, { accessFlags := 25, nameIndex := 396, descriptorIndex := 155, attributes := #[] }, { accessFlags := 10, nameIndex := 525, descriptorIndex := 526, attributes := #[] }, { accessFlags := 26, nameIndex := 674, descriptorIndex := 12, attributes := #[] }, { accessFlags := 26, nameIndex := 677, descriptorIndex := 12, attributes := #[] }, { accessFlags := 10, nameIndex := 11, descriptorIndex := 12, attributes := #[] }, { accessFlags := 74, nameIndex := 175, descriptorIndex := 176, attributes := #[] }, { accessFlags := 10, nameIndex := 491, descriptorIndex := 222, attributes := #[] }, { accessFlags := 74, nameIndex := 29, descriptorIndex := 30, attributes := #[] }, { accessFlags := 74, nameIndex := 154, descriptorIndex := 155, attributes := #[] }, { accessFlags := 10, nameIndex := 217, descriptorIndex := 218, attributes := #[] }, { accessFlags := 10, nameIndex := 221, descriptorIndex := 222, attributes := #[] }, { accessFlags := 8, nameIndex := 562, descriptorIndex := 563, attributes := #[] }])
  fields := #[{ name := "in", type := (.object "java/io/InputStream"), accessFlags := 25, slot := 0, constantValue := 0 }, { name := "out", type := (.object "java/io/PrintStream"), accessFlags := 25, slot := 1, constantValue := 0 }, { name := "err", type := (.object "java/io/PrintStream"), accessFlags := 25, slot := 2, constantValue := 0 }, { name := "initialIn", type := (.object "java/io/InputStream"), accessFlags := 10, slot := 3, constantValue := 0 }, { name := "NEVER", type := .int, accessFlags := 26, slot := 4, constantValue := 0 }, { name := "MAYBE", type := .int, accessFlags := 26, slot := 5, constantValue := 0 }, { name := "allowSecurityManager", type := .int, accessFlags := 10, slot := 6, constantValue := 0 }, { name := "security", type := (.object "java/lang/SecurityManager"), accessFlags := 74, slot := 7, constantValue := 0 }, { name := "notSupportedJnuEncoding", type := (.object "java/lang/String"), accessFlags := 10, slot := 8, constantValue := 0 }, { name := "cons", type := (.object "java/io/Console"), accessFlags := 74, slot := 9, constantValue := 0 }, { name := "initialErrStream", type := (.object "java/io/PrintStream"), accessFlags := 74, slot := 10, constantValue := 0 }, { name := "props", type := (.object "java/util/Properties"), accessFlags := 10, slot := 11, constantValue := 0 }, { name := "lineSeparator", type := (.object "java/lang/String"), accessFlags := 10, slot := 12, constantValue := 0 }, { name := "bootLayer", type := (.object "java/lang/ModuleLayer"), accessFlags := 8, slot := 13, constantValue := 0 }]
  methods := #[k8m0, k8m1]
  instanceTypes := #[]
  staticTypes := #[(.object "java/io/InputStream"), (.object "java/io/PrintStream"), (.object "java/io/PrintStream"), (.object "java/io/InputStream"), .int, .int, .int, (.object "java/lang/SecurityManager"), (.object "java/lang/String"), (.object "java/io/Console"), (.object "java/io/PrintStream"), (.object "java/util/Properties"), (.object "java/lang/String"), (.object "java/lang/ModuleLayer")]
  resolved := Array.replicate 834 none
  statics := none }

def pool9 : Array CpInfo := pool [(1, .class_ 2), (0, u "java/lang/Math"), (1, .class_ 6), (1, u "java/lang/Object"), (0, u "<init>"), (0, u "()V"), (89, .class_ 100), (1, u "java/lang/Math$RandomNumberGeneratorHolder"), (71, u "negativeZeroFloatBits"), (0, u "J"), (2, u "negativeZeroDoubleBits"), (24, u "min"), (43, u "$assertionsDisabled"), (0, u "Z"), (88, u "(II)I"), (2, u "twoToTheDoubleScaleDown"), (0, u "D"), (4, u "twoToTheDoubleScaleUp"), (9, u "E"), (3, u "PI"), (2, u "TAU"), (2, u "DEGREES_TO_RADIANS"), (0, u "RADIANS_TO_DEGREES")] 94

def k9m0 : Method := { name := "<init>", desc := "()V", sig := { parameters := [], returnType := none }, accessFlags := 2, code := none }
def k9c1 : Code := { maxStack := 2, maxLocals := 2, code := jdk_29_method_69_code, exceptionTable := #[], attributes := #[] }
def k9m1 : Method := { name := "min", desc := "(II)I", sig := { parameters := [.int, .int], returnType := some .int }, accessFlags := 9, code := some k9c1 }
/-- java/lang/Math -/
def k9 : Class := { plain "java/lang/Math" (some 0) with
  accessFlags := 49
  interfaces := #[]
  cf := some (fileOf pool9 1 #[.nestMembers #[98]] #[{ accessFlags := 2, nameIndex := 7, descriptorIndex := 8, attributes := #[] }, { accessFlags := 9, nameIndex := 201, descriptorIndex := 335, attributes := #[] }] 49 4 #[] #[{ accessFlags := 25, nameIndex := 354, descriptorIndex := 339, attributes := #[] }, { accessFlags := 25, nameIndex := 358, descriptorIndex := 339, attributes := #[] }, { accessFlags := 25, nameIndex := 361, descriptorIndex := 339, attributes := #[] }, { accessFlags := 26, nameIndex := 364, descriptorIndex := 339, attributes := #[] }, { accessFlags := 26, nameIndex := 365, descriptorIndex := 339, attributes := #[] }, { accessFlags := 26, nameIndex := 172, descriptorIndex := 173, attributes := #[] }, { accessFlags := 26, nameIndex := 176, descriptorIndex := 173, attributes := #[] }, { accessFlags := 8, nameIndex := 344, descriptorIndex := 339, attributes := #[] }, { accessFlags := 8, nameIndex := 338, descriptorIndex := 339, attributes := #[] }, { accessFlags := 4120, nameIndex := 245, descriptorIndex := 246, attributes := #[] }])
  fields := #[{ name := "E", type := .double, accessFlags := 25, slot := 0, constantValue := 0 }, { name := "PI", type := .double, accessFlags := 25, slot := 1, constantValue := 0 }, { name := "TAU", type := .double, accessFlags := 25, slot := 2, constantValue := 0 }, { name := "DEGREES_TO_RADIANS", type := .double, accessFlags := 26, slot := 3, constantValue := 0 }, { name := "RADIANS_TO_DEGREES", type := .double, accessFlags := 26, slot := 4, constantValue := 0 }, { name := "negativeZeroFloatBits", type := .long, accessFlags := 26, slot := 5, constantValue := 0 }, { name := "negativeZeroDoubleBits", type := .long, accessFlags := 26, slot := 6, constantValue := 0 }, { name := "twoToTheDoubleScaleUp", type := .double, accessFlags := 8, slot := 7, constantValue := 0 }, { name := "twoToTheDoubleScaleDown", type := .double, accessFlags := 8, slot := 8, constantValue := 0 }, { name := "$assertionsDisabled", type := .boolean, accessFlags := 4120, slot := 9, constantValue := 0 }]
  methods := #[k9m0, k9m1]
  instanceTypes := #[]
  staticTypes := #[.double, .double, .double, .double, .double, .long, .long, .double, .double, .boolean]
  resolved := Array.replicate 460 none
  statics := none }

def pool10 : Array CpInfo := pool [(9, u "<init>"), (6, .class_ 18), (1, u "java/lang/Object"), (0, u "()V"), (1, .class_ 23), (1, u "jdk/internal/util/ArraysSupport"), (0, u "LOG2_ARRAY_LONG_INDEX_SCALE"), (0, u "I"), (2, u "U"), (0, u "Ljdk/internal/misc/Unsafe;"), (8, u "BIG_ENDIAN"), (0, u "Z"), (8, u "LOG2_BYTE_BIT_SIZE"), (4, u "LOG2_ARRAY_INT_INDEX_SCALE"), (54, u "JLA"), (0, u "Ljdk/internal/access/JavaLangAccess;"), (11, u "LOG2_ARRAY_BOOLEAN_INDEX_SCALE"), (9, u "LOG2_ARRAY_BYTE_INDEX_SCALE"), (5, u "LOG2_ARRAY_CHAR_INDEX_SCALE"), (5, u "LOG2_ARRAY_SHORT_INDEX_SCALE"), (5, u "mismatch"), (12, u "LOG2_ARRAY_FLOAT_INDEX_SCALE"), (24, u "LOG2_ARRAY_DOUBLE_INDEX_SCALE"), (89, u "T_BOOLEAN"), (2, u "T_CHAR"), (1, u "T_FLOAT"), (1, u "T_DOUBLE"), (1, u "T_BYTE"), (1, u "T_SHORT"), (1, u "T_INT"), (1, u "T_LONG"), (1, u "SOFT_MAX_ARRAY_LENGTH"), (48, u "([II[III)I")] 34

def k10m0 : Method := { name := "<init>", desc := "()V", sig := { parameters := [], returnType := none }, accessFlags := 2, code := none }
def k10c1 : Code := { maxStack := 8, maxLocals := 8, code := jdk_48_method_20_code, exceptionTable := #[], attributes := #[] }
def k10m1 : Method := { name := "mismatch", desc := "([II[III)I", sig := { parameters := [(.array .int), .int, (.array .int), .int, .int], returnType := some .int }, accessFlags := 9, code := some k10c1 }
/-- jdk/internal/util/ArraysSupport -/
def k10 : Class := { plain "jdk/internal/util/ArraysSupport" (some 0) with
  accessFlags := 33
  interfaces := #[]
  cf := some (fileOf pool10 21 #[] #[{ accessFlags := 2, nameIndex := 9, descriptorIndex := 19, attributes := #[] }, { accessFlags := 9, nameIndex := 149, descriptorIndex := 343, attributes := #[] }] 33 16 #[] #[{ accessFlags := 24, nameIndex := 28, descriptorIndex := 29, attributes := #[] }, { accessFlags := 26, nameIndex := 38, descriptorIndex := 39, attributes := #[] }, { accessFlags := 25, nameIndex := 121, descriptorIndex := 25, attributes := #[] }, { accessFlags := 25, nameIndex := 131, descriptorIndex := 25, attributes := #[] }, { accessFlags := 25, nameIndex := 137, descriptorIndex := 25, attributes := #[] }, { accessFlags := 25, nameIndex := 143, descriptorIndex := 25, attributes := #[] }, { accessFlags := 25, nameIndex := 53, descriptorIndex := 25, attributes := #[] }, { accessFlags := 25, nameIndex := 24, descriptorIndex := 25, attributes := #[] }, { accessFlags := 25, nameIndex := 162, descriptorIndex := 25, attributes := #[] }, { accessFlags := 25, nameIndex := 187, descriptorIndex := 25, attributes := #[] }, { accessFlags := 26, nameIndex := 48, descriptorIndex := 25, attributes := #[] }, { accessFlags := 25, nameIndex := 277, descriptorIndex := 25, attributes := #[] }, { accessFlags := 25, nameIndex := 280, descriptorIndex := 25, attributes := #[] }, { accessFlags := 25, nameIndex := 282, descriptorIndex := 25, attributes := #[] }, { accessFlags := 25, nameIndex := 284, descriptorIndex := 25, attributes := #[] }, { accessFlags := 25, nameIndex := 286, descriptorIndex := 25, attributes := #[] }, { accessFlags := 25, nameIndex := 288, descriptorIndex := 25, attributes := #[] }, { accessFlags := 25, nameIndex := 290, descriptorIndex := 25, attributes := #[] }, { accessFlags := 25, nameIndex := 292, descriptorIndex := 25, attributes := #[] }, { accessFlags := 26, nameIndex := 108, descriptorIndex := 109, attributes := #[] }, { accessFlags := 25, nameIndex := 294, descriptorIndex := 25, attributes := #[] }])
  fields := #[{ name := "U", type := (.object "jdk/internal/misc/Unsafe"), accessFlags := 24, slot := 0, constantValue := 0 }, { name := "BIG_ENDIAN", type := .boolean, accessFlags := 26, slot := 1, constantValue := 0 }, { name := "LOG2_ARRAY_BOOLEAN_INDEX_SCALE", type := .int, accessFlags := 25, slot := 2, constantValue := 0 }, { name := "LOG2_ARRAY_BYTE_INDEX_SCALE", type := .int, accessFlags := 25, slot := 3, constantValue := 0 }, { name := "LOG2_ARRAY_CHAR_INDEX_SCALE", type := .int, accessFlags := 25, slot := 4, constantValue := 0 }, { name := "LOG2_ARRAY_SHORT_INDEX_SCALE", type := .int, accessFlags := 25, slot := 5, constantValue := 0 }, { name := "LOG2_ARRAY_INT_INDEX_SCALE", type := .int, accessFlags := 25, slot := 6, constantValue := 0 }, { name := "LOG2_ARRAY_LONG_INDEX_SCALE", type := .int, accessFlags := 25, slot := 7, constantValue := 0 }, { name := "LOG2_ARRAY_FLOAT_INDEX_SCALE", type := .int, accessFlags := 25, slot := 8, constantValue := 0 }, { name := "LOG2_ARRAY_DOUBLE_INDEX_SCALE", type := .int, accessFlags := 25, slot := 9, constantValue := 0 }, { name := "LOG2_BYTE_BIT_SIZE", type := .int, accessFlags := 26, slot := 10, constantValue := 0 }, { name := "T_BOOLEAN", type := .int, accessFlags := 25, slot := 11, constantValue := 0 }, { name := "T_CHAR", type := .int, accessFlags := 25, slot := 12, constantValue := 0 }, { name := "T_FLOAT", type := .int, accessFlags := 25, slot := 13, constantValue := 0 }, { name := "T_DOUBLE", type := .int, accessFlags := 25, slot := 14, constantValue := 0 }, { name := "T_BYTE", type := .int, accessFlags := 25, slot := 15, constantValue := 0 }, { name := "T_SHORT", type := .int, accessFlags := 25, slot := 16, constantValue := 0 }, { name := "T_INT", type := .int, accessFlags := 25, slot := 17, constantValue := 0 }, { name := "T_LONG", type := .int, accessFlags := 25, slot := 18, constantValue := 0 }, { name := "JLA", type := (.object "jdk/internal/access/JavaLangAccess"), accessFlags := 26, slot := 19, constantValue := 0 }, { name := "SOFT_MAX_ARRAY_LENGTH", type := .int, accessFlags := 25, slot := 20, constantValue := 0 }]
  methods := #[k10m0, k10m1]
  instanceTypes := #[]
  staticTypes := #[(.object "jdk/internal/misc/Unsafe"), .boolean, .int, .int, .int, .int, .int, .int, .int, .int, .int, .int, .int, .int, .int, .int, .int, .int, .int, (.object "jdk/internal/access/JavaLangAccess"), .int]
  resolved := Array.replicate 378 none
  statics := none }

def pool11 : Array CpInfo := pool [(1, u "java/lang/Cloneable"), (0, .class_ 1), (0, u "java/lang/Object"), (0, .class_ 3)] 3

/-- java/lang/Cloneable -/
def k11 : Class := { plain "java/lang/Cloneable" (some 0) with
  accessFlags := 1537
  interfaces := #[]
  cf := some (fileOf pool11 2 #[] #[] 1537 4 #[] #[])
  fields := #[]
  methods := #[]
  instanceTypes := #[]
  staticTypes := #[]
  resolved := Array.replicate 8 none
  statics := none }

def pool12 : Array CpInfo := pool [(1, u "java/io/Serializable"), (0, .class_ 1), (0, u "java/lang/Object"), (0, .class_ 3)] 3

/-- java/io/Serializable -/
def k12 : Class := { plain "java/io/Serializable" (some 0) with
  accessFlags := 1537
  interfaces := #[]
  cf := some (fileOf pool12 2 #[] #[] 1537 4 #[] #[])
  fields := #[]
  methods := #[]
  instanceTypes := #[]
  staticTypes := #[]
  resolved := Array.replicate 8 none
  statics := none }

/-- the primitive boolean -/
def k13 : Class := { plain "boolean" none with kind := .primitive 'Z', accessFlags := 0x411 }
/-- [Z -/
def k14 : Class := { plain "[Z" (some 0) with kind := .array 13 .boolean, interfaces := #[11, 12], accessFlags := 1041 }

/-- the primitive byte -/
def k15 : Class := { plain "byte" none with kind := .primitive 'B', accessFlags := 0x411 }
/-- [B -/
def k16 : Class := { plain "[B" (some 0) with kind := .array 15 .byte, interfaces := #[11, 12], accessFlags := 1041 }

/-- the primitive int -/
def k17 : Class := { plain "int" none with kind := .primitive 'I', accessFlags := 0x411 }
/-- [I -/
def k18 : Class := { plain "[I" (some 0) with kind := .array 17 .int, interfaces := #[11, 12], accessFlags := 1041 }

/-- [Lcom/example/tracewarden/tracewarden/engine/SearchTuples$Event; -/
def k19 : Class := { plain "[Lcom/example/tracewarden/tracewarden/engine/SearchTuples$Event;" (some 0) with kind := .array 6 (.object "com/example/tracewarden/tracewarden/engine/SearchTuples$Event"), interfaces := #[11, 12], accessFlags := 1041 }

/-- [Lcom/example/tracewarden/tracewarden/engine/Zone; -/
def k20 : Class := { plain "[Lcom/example/tracewarden/tracewarden/engine/Zone;" (some 0) with kind := .array 4 (.object "com/example/tracewarden/tracewarden/engine/Zone"), interfaces := #[11, 12], accessFlags := 1041 }

/-- [[I -/
def k21 : Class := { plain "[[I" (some 0) with kind := .array 18 (.array .int), interfaces := #[11, 12], accessFlags := 1041 }

def heap : Heap := #[]
def classes : Array Class := #[k0, k1, k2, k3, k4, k5, k6, k7, k8, k9, k10, k11, k12, k13, k14, k15, k16, k17, k18, k19, k20, k21]
def interned : List (Array UInt16 × Addr) := []
def slotsUsed : Nat := 0
def theMethod : MethodId := ⟨1, 2⟩
def args0 : Array Value := #[.int 5, .int 1, .int 2, .int 3, .int 1]
def aboutOver (below : List Frame) : State where
  vm := { classes := classes, interned := interned.toArray }
  heap := heap
  slotsUsed := slotsUsed
  threads := #[{ frames := .invoking theMethod args0 :: below }]
def below0 : List Frame := [.native { method := ⟨0, 0⟩, args := #[] }]
def about1 : State := aboutOver below0
def p0 : Program := .bare "" "" ""
def e0 : Env := launch0.env 0 0 0
theorem w_frames : about1.frames = Frame.invoking theMethod args0 :: below0 := rfl
set_option maxRecDepth 65536 in
theorem w_args : argsFit about1.vm theMethod args0 = true := by decide +kernel
set_option maxRecDepth 65536 in
theorem w_heap : heapFits about1 = true := by decide +kernel
set_option maxRecDepth 65536 in
theorem w_runnable : about1.curStatus? = some .runnable := by decide +kernel
set_option maxRecDepth 65536 in
theorem w_alone : about1.alone = true := by decide +kernel
set_option maxRecDepth 65536 in
theorem w_named : about1.methodNamed? x = some theMethod := by decide +kernel
set_option maxRecDepth 65536 in
theorem w_hears : about1.hears theMethod below0 = true := by decide +kernel
set_option maxRecDepth 65536 in
theorem w_ripe : about1.ripe theMethod args0 below0 = true := by decide +kernel
theorem w_running : about1.status = .running := rfl
set_option maxRecDepth 65536 in
theorem w_room : about1.hasRoom e0.platform room_1 = true :=
  launch0.hasRoom_least _ room_1 (by decide +kernel) (by decide +kernel) (by decide +kernel) (by decide +kernel) (by decide +kernel) (by decide +kernel)
theorem allAtoms_all (ts : List Jvm.Cond) (a : Array Jvm.Value) (st : Jvm.State) : (allAtoms ts).before a st = ts.all (fun c => c.before a st) := by
  induction ts with
  | nil => rfl
  | cons c t ih =>
    show (Jvm.Cond.and c (allAtoms t)).before a st = _
    rw [Jvm.Cond.before_and, ih, List.all_cons]
def words1 : List Jvm.Cond := Jvm.Cond.code x code maxLocals ret :: tables_1
/-- a 'code' word, met by the world's own term for the bytes: nothing is compared byte by byte -/
theorem code_word {y : MethodName} {bytes : ByteArray} {mx : Nat} {rt : Option FieldType} {a : Array Value} {s : State} {m : MethodId} {meth : Method} {c : Code} (h1 : s.methodNamed? y = some m) (h2 : s.vm.method? m = some meth) (h3 : meth.code = some c) (h4 : c.code = bytes)
    (h5 : (c.maxLocals == mx && c.exceptionTable.isEmpty && decide (c.maxStack ≤ mostOperands) && decide (meth.sig.returnType = rt) && !meth.locks && decide (parseMethodDescriptor y.desc = some meth.sig)) = true) : (Jvm.Cond.code y bytes mx rt).before a s = true := by
  simp only [Bool.and_eq_true, beq_iff_eq, Bool.not_eq_true', decide_eq_true_eq] at h5
  obtain ⟨⟨⟨⟨⟨g1, g2⟩, g3⟩, g4⟩, g5⟩, g6⟩ := h5
  simp [Cond.before, Cond.holds, Cond.value, h1, h2, h3, h4, g1, g2, g3, g4, g5, g6]
def isCode : Jvm.Cond → Bool
  | .code _ _ _ _ => true
  | _ => false
theorem all_split {L : List Jvm.Cond} {P : Jvm.Cond → Bool} (h1 : L.all (fun c => isCode c || P c) = true) (h2 : ∀ c ∈ L.filter isCode, P c = true) : L.all P = true := by
  refine List.all_eq_true.mpr fun c hc => ?_
  have h := List.all_eq_true.mp h1 c hc
  rcases Bool.eq_false_or_eq_true (isCode c) with hi | hi
  · exact h2 c (List.mem_filter.mpr ⟨hc, hi⟩)
  · simpa [hi] using h
set_option maxRecDepth 65536 in
theorem w_c0 : (Jvm.Cond.code x code maxLocals ret).before args0 about1 = true := code_word (m := ⟨1, 2⟩) (meth := k1m2) (c := k1c2) (by decide +kernel) rfl rfl rfl (by decide +kernel)
set_option maxRecDepth 65536 in
theorem w_c1 : (Jvm.Cond.code ({ cls := "com/example/tracewarden/tracewarden/engine/SearchBudget", name := "<init>", desc := "(J)V" } : Jvm.MethodName) prog_84_method_1_code (3 : Nat) (Option.none : Option Jvm.ClassFile.FieldType)).before args0 about1 = true := code_word (m := ⟨3, 0⟩) (meth := k3m0) (c := k3c0) (by decide +kernel) rfl rfl rfl (by decide +kernel)
set_option maxRecDepth 65536 in
theorem w_c2 : (Jvm.Cond.code ({ cls := "java/lang/Object", name := "<init>", desc := "()V" } : Jvm.MethodName) object_method_1_code (1 : Nat) (Option.none : Option Jvm.ClassFile.FieldType)).before args0 about1 = true := code_word (m := ⟨0, 0⟩) (meth := k0m0) (c := k0c0) (by decide +kernel) rfl rfl rfl (by decide +kernel)
set_option maxRecDepth 65536 in
theorem w_c3 : (Jvm.Cond.code ({ cls := "com/example/tracewarden/tracewarden/engine/SearchTuples", name := "<init>", desc := "(IILcom/example/tracewarden/tracewarden/engine/SearchBudget;)V" } : Jvm.MethodName) prog_86_method_1_code (4 : Nat) (Option.none : Option Jvm.ClassFile.FieldType)).before args0 about1 = true := code_word (m := ⟨2, 0⟩) (meth := k2m0) (c := k2c0) (by decide +kernel) rfl rfl rfl (by decide +kernel)
set_option maxRecDepth 65536 in
theorem w_c4 : (Jvm.Cond.code ({ cls := "com/example/tracewarden/tracewarden/engine/SearchTuples", name := "clear", desc := "(IIZ)V" } : Jvm.MethodName) prog_86_method_2_code (5 : Nat) (Option.none : Option Jvm.ClassFile.FieldType)).before args0 about1 = true := code_word (m := ⟨2, 1⟩) (meth := k2m1) (c := k2c1) (by decide +kernel) rfl rfl rfl (by decide +kernel)
set_option maxRecDepth 65536 in
theorem w_c5 : (Jvm.Cond.code ({ cls := "java/util/Arrays", name := "fill", desc := "([II)V" } : Jvm.MethodName) jdk_65_method_103_code (4 : Nat) (Option.none : Option Jvm.ClassFile.FieldType)).before args0 about1 = true := code_word (m := ⟨7, 3⟩) (meth := k7m3) (c := k7c3) (by decide +kernel) rfl rfl rfl (by decide +kernel)
set_option maxRecDepth 65536 in
theorem w_c6 : (Jvm.Cond.code ({ cls := "java/util/Arrays", name := "fill", desc := "([Ljava/lang/Object;IILjava/lang/Object;)V" } : Jvm.MethodName) jdk_65_method_118_code (5 : Nat) (Option.none : Option Jvm.ClassFile.FieldType)).before args0 about1 = true := code_word (m := ⟨7, 4⟩) (meth := k7m4) (c := k7c4) (by decide +kernel) rfl rfl rfl (by decide +kernel)
set_option maxRecDepth 65536 in
theorem w_c7 : (Jvm.Cond.code ({ cls := "java/util/Arrays", name := "rangeCheck", desc := "(III)V" } : Jvm.MethodName) jdk_65_method_30_code (3 : Nat) (Option.none : Option Jvm.ClassFile.FieldType)).before args0 about1 = true := code_word (m := ⟨7, 1⟩) (meth := k7m1) (c := k7c1) (by decide +kernel) rfl rfl rfl (by decide +kernel)
set_option maxRecDepth 65536 in
theorem w_c8 : (Jvm.Cond.code ({ cls := "com/example/tracewarden/tracewarden/engine/SearchTuplesPollPinLaw", name := "code", desc := "(I)I" } : Jvm.MethodName) method_2_code (3 : Nat) (Option.some Jvm.ClassFile.FieldType.int)).before args0 about1 = true := code_word (m := ⟨1, 1⟩) (meth := k1m1) (c := k1c1) (by decide +kernel) rfl rfl rfl (by decide +kernel)
set_option maxRecDepth 65536 in
theorem w_c9 : (Jvm.Cond.code ({ cls := "com/example/tracewarden/tracewarden/engine/SearchTuples", name := "add", desc := "([IILcom/example/tracewarden/tracewarden/engine/Zone;ILcom/example/tracewarden/tracewarden/engine/SearchTuples$Event;I)V" } : Jvm.MethodName) prog_86_method_16_code (10 : Nat) (Option.none : Option Jvm.ClassFile.FieldType)).before args0 about1 = true := code_word (m := ⟨2, 5⟩) (meth := k2m5) (c := k2c5) (by decide +kernel) rfl rfl rfl (by decide +kernel)
set_option maxRecDepth 65536 in
theorem w_c10 : (Jvm.Cond.code ({ cls := "com/example/tracewarden/tracewarden/engine/SearchBudget", name := "step", desc := "()V" } : Jvm.MethodName) prog_84_method_2_code (1 : Nat) (Option.none : Option Jvm.ClassFile.FieldType)).before args0 about1 = true := code_word (m := ⟨3, 1⟩) (meth := k3m1) (c := k3c1) (by decide +kernel) rfl rfl rfl (by decide +kernel)
set_option maxRecDepth 65536 in
theorem w_c11 : (Jvm.Cond.code ({ cls := "com/example/tracewarden/tracewarden/engine/SearchTuples", name := "latest", desc := "([II)I" } : Jvm.MethodName) prog_86_method_18_code (6 : Nat) (Option.some Jvm.ClassFile.FieldType.int)).before args0 about1 = true := code_word (m := ⟨2, 7⟩) (meth := k2m7) (c := k2c7) (by decide +kernel) rfl rfl rfl (by decide +kernel)
set_option maxRecDepth 65536 in
theorem w_c12 : (Jvm.Cond.code ({ cls := "com/example/tracewarden/tracewarden/engine/SearchTuples", name := "passOver", desc := "(ILcom/example/tracewarden/tracewarden/engine/Zone;)V" } : Jvm.MethodName) prog_86_method_15_code (4 : Nat) (Option.none : Option Jvm.ClassFile.FieldType)).before args0 about1 = true := code_word (m := ⟨2, 4⟩) (meth := k2m4) (c := k2c4) (by decide +kernel) rfl rfl rfl (by decide +kernel)
set_option maxRecDepth 65536 in
theorem w_c13 : (Jvm.Cond.code ({ cls := "java/lang/Math", name := "min", desc := "(II)I" } : Jvm.MethodName) jdk_29_method_69_code (2 : Nat) (Option.some Jvm.ClassFile.FieldType.int)).before args0 about1 = true := code_word (m := ⟨9, 1⟩) (meth := k9m1) (c := k9c1) (by decide +kernel) rfl rfl rfl (by decide +kernel)
set_option maxRecDepth 65536 in
theorem w_c14 : (Jvm.Cond.code ({ cls := "com/example/tracewarden/tracewarden/engine/SearchTuples", name := "passOver", desc := "([ILcom/example/tracewarden/tracewarden/engine/Zone;)V" } : Jvm.MethodName) prog_86_method_14_code (3 : Nat) (Option.none : Option Jvm.ClassFile.FieldType)).before args0 about1 = true := code_word (m := ⟨2, 3⟩) (meth := k2m3) (c := k2c3) (by decide +kernel) rfl rfl rfl (by decide +kernel)
set_option maxRecDepth 65536 in
theorem w_c15 : (Jvm.Cond.code ({ cls := "com/example/tracewarden/tracewarden/engine/SearchTuples", name := "hash", desc := "([I)I" } : Jvm.MethodName) prog_86_method_7_code (2 : Nat) (Option.some Jvm.ClassFile.FieldType.int)).before args0 about1 = true := code_word (m := ⟨2, 2⟩) (meth := k2m2) (c := k2c2) (by decide +kernel) rfl rfl rfl (by decide +kernel)
set_option maxRecDepth 65536 in
theorem w_c16 : (Jvm.Cond.code ({ cls := "com/example/tracewarden/tracewarden/engine/SearchTuples", name := "hash", desc := "([III)I" } : Jvm.MethodName) prog_86_method_20_code (5 : Nat) (Option.some Jvm.ClassFile.FieldType.int)).before args0 about1 = true := code_word (m := ⟨2, 8⟩) (meth := k2m8) (c := k2c8) (by decide +kernel) rfl rfl rfl (by decide +kernel)
set_option maxRecDepth 65536 in
theorem w_c17 : (Jvm.Cond.code ({ cls := "com/example/tracewarden/tracewarden/engine/SearchTuples", name := "code", desc := "(II)I" } : Jvm.MethodName) prog_86_method_21_code (4 : Nat) (Option.some Jvm.ClassFile.FieldType.int)).before args0 about1 = true := code_word (m := ⟨2, 9⟩) (meth := k2m9) (c := k2c9) (by decide +kernel) rfl rfl rfl (by decide +kernel)
set_option maxRecDepth 65536 in
theorem w_c18 : (Jvm.Cond.code ({ cls := "java/util/Arrays", name := "equals", desc := "([III[III)Z" } : Jvm.MethodName) jdk_65_method_84_code (8 : Nat) (Option.some Jvm.ClassFile.FieldType.boolean)).before args0 about1 = true := code_word (m := ⟨7, 2⟩) (meth := k7m2) (c := k7c2) (by decide +kernel) rfl rfl rfl (by decide +kernel)
set_option maxRecDepth 65536 in
theorem w_c19 : (Jvm.Cond.code ({ cls := "jdk/internal/util/ArraysSupport", name := "mismatch", desc := "([II[III)I" } : Jvm.MethodName) jdk_48_method_20_code (8 : Nat) (Option.some Jvm.ClassFile.FieldType.int)).before args0 about1 = true := code_word (m := ⟨10, 1⟩) (meth := k10m1) (c := k10c1) (by decide +kernel) rfl rfl rfl (by decide +kernel)
set_option maxRecDepth 65536 in
theorem w_c20 : (Jvm.Cond.code ({ cls := "com/example/tracewarden/tracewarden/engine/SearchTuples", name := "poll", desc := "()I" } : Jvm.MethodName) prog_86_method_17_code (2 : Nat) (Option.some Jvm.ClassFile.FieldType.int)).before args0 about1 = true := code_word (m := ⟨2, 6⟩) (meth := k2m6) (c := k2c6) (by decide +kernel) rfl rfl rfl (by decide +kernel)
def codes1 : List Jvm.Cond := [Jvm.Cond.code x code maxLocals ret, Jvm.Cond.code ({ cls := "com/example/tracewarden/tracewarden/engine/SearchBudget", name := "<init>", desc := "(J)V" } : Jvm.MethodName) prog_84_method_1_code (3 : Nat) (Option.none : Option Jvm.ClassFile.FieldType), Jvm.Cond.code ({ cls := "java/lang/Object", name := "<init>", desc := "()V" } : Jvm.MethodName) object_method_1_code (1 : Nat) (Option.none : Option Jvm.ClassFile.FieldType), Jvm.Cond.code ({ cls := "com/example/tracewarden/tracewarden/engine/SearchTuples", name := "<init>", desc := "(IILcom/example/tracewarden/tracewarden/engine/SearchBudget;)V" } : Jvm.MethodName) prog_86_method_1_code (4 : Nat) (Option.none : Option Jvm.ClassFile.FieldType), Jvm.Cond.code ({ cls := "com/example/tracewarden/tracewarden/engine/SearchTuples", name := "clear", desc := "(IIZ)V" } : Jvm.MethodName) prog_86_method_2_code (5 : Nat) (Option.none : Option Jvm.ClassFile.FieldType), Jvm.Cond.code ({ cls := "java/util/Arrays", name := "fill", desc := "([II)V" } : Jvm.MethodName) jdk_65_method_103_code (4 : Nat) (Option.none : Option Jvm.ClassFile.FieldType), Jvm.Cond.code ({ cls := "java/util/Arrays", name := "fill", desc := "([Ljava/lang/Object;IILjava/lang/Object;)V" } : Jvm.MethodName) jdk_65_method_118_code (5 : Nat) (Option.none : Option Jvm.ClassFile.FieldType), Jvm.Cond.code ({ cls := "java/util/Arrays", name := "rangeCheck", desc := "(III)V" } : Jvm.MethodName) jdk_65_method_30_code (3 : Nat) (Option.none : Option Jvm.ClassFile.FieldType), Jvm.Cond.code ({ cls := "com/example/tracewarden/tracewarden/engine/SearchTuplesPollPinLaw", name := "code", desc := "(I)I" } : Jvm.MethodName) method_2_code (3 : Nat) (Option.some Jvm.ClassFile.FieldType.int), Jvm.Cond.code ({ cls := "com/example/tracewarden/tracewarden/engine/SearchTuples", name := "add", desc := "([IILcom/example/tracewarden/tracewarden/engine/Zone;ILcom/example/tracewarden/tracewarden/engine/SearchTuples$Event;I)V" } : Jvm.MethodName) prog_86_method_16_code (10 : Nat) (Option.none : Option Jvm.ClassFile.FieldType), Jvm.Cond.code ({ cls := "com/example/tracewarden/tracewarden/engine/SearchBudget", name := "step", desc := "()V" } : Jvm.MethodName) prog_84_method_2_code (1 : Nat) (Option.none : Option Jvm.ClassFile.FieldType), Jvm.Cond.code ({ cls := "com/example/tracewarden/tracewarden/engine/SearchTuples", name := "latest", desc := "([II)I" } : Jvm.MethodName) prog_86_method_18_code (6 : Nat) (Option.some Jvm.ClassFile.FieldType.int), Jvm.Cond.code ({ cls := "com/example/tracewarden/tracewarden/engine/SearchTuples", name := "passOver", desc := "(ILcom/example/tracewarden/tracewarden/engine/Zone;)V" } : Jvm.MethodName) prog_86_method_15_code (4 : Nat) (Option.none : Option Jvm.ClassFile.FieldType), Jvm.Cond.code ({ cls := "java/lang/Math", name := "min", desc := "(II)I" } : Jvm.MethodName) jdk_29_method_69_code (2 : Nat) (Option.some Jvm.ClassFile.FieldType.int), Jvm.Cond.code ({ cls := "com/example/tracewarden/tracewarden/engine/SearchTuples", name := "passOver", desc := "([ILcom/example/tracewarden/tracewarden/engine/Zone;)V" } : Jvm.MethodName) prog_86_method_14_code (3 : Nat) (Option.none : Option Jvm.ClassFile.FieldType), Jvm.Cond.code ({ cls := "com/example/tracewarden/tracewarden/engine/SearchTuples", name := "hash", desc := "([I)I" } : Jvm.MethodName) prog_86_method_7_code (2 : Nat) (Option.some Jvm.ClassFile.FieldType.int), Jvm.Cond.code ({ cls := "com/example/tracewarden/tracewarden/engine/SearchTuples", name := "hash", desc := "([III)I" } : Jvm.MethodName) prog_86_method_20_code (5 : Nat) (Option.some Jvm.ClassFile.FieldType.int), Jvm.Cond.code ({ cls := "com/example/tracewarden/tracewarden/engine/SearchTuples", name := "code", desc := "(II)I" } : Jvm.MethodName) prog_86_method_21_code (4 : Nat) (Option.some Jvm.ClassFile.FieldType.int), Jvm.Cond.code ({ cls := "java/util/Arrays", name := "equals", desc := "([III[III)Z" } : Jvm.MethodName) jdk_65_method_84_code (8 : Nat) (Option.some Jvm.ClassFile.FieldType.boolean), Jvm.Cond.code ({ cls := "jdk/internal/util/ArraysSupport", name := "mismatch", desc := "([II[III)I" } : Jvm.MethodName) jdk_48_method_20_code (8 : Nat) (Option.some Jvm.ClassFile.FieldType.int), Jvm.Cond.code ({ cls := "com/example/tracewarden/tracewarden/engine/SearchTuples", name := "poll", desc := "()I" } : Jvm.MethodName) prog_86_method_17_code (2 : Nat) (Option.some Jvm.ClassFile.FieldType.int)]
set_option maxRecDepth 65536 in
theorem codes_eq : words1.filter isCode = codes1 := rfl
theorem w_codes : ∀ c ∈ words1.filter isCode, c.before args0 about1 = true := by
  rw [codes_eq]
  intro c hc
  simp only [codes1, List.mem_cons, List.not_mem_nil, or_false] at hc
  rcases hc with rfl | rfl | rfl | rfl | rfl | rfl | rfl | rfl | rfl | rfl | rfl | rfl | rfl | rfl | rfl | rfl | rfl | rfl | rfl | rfl | rfl
  · exact w_c0
  · exact w_c1
  · exact w_c2
  · exact w_c3
  · exact w_c4
  · exact w_c5
  · exact w_c6
  · exact w_c7
  · exact w_c8
  · exact w_c9
  · exact w_c10
  · exact w_c11
  · exact w_c12
  · exact w_c13
  · exact w_c14
  · exact w_c15
  · exact w_c16
  · exact w_c17
  · exact w_c18
  · exact w_c19
  · exact w_c20
set_option maxRecDepth 65536 in
theorem w_t1 : (words1.take 24).all (fun c => isCode c || c.before args0 about1) = true := by decide +kernel
set_option maxRecDepth 65536 in
theorem w_t2 : ((words1.drop 24).take 24).all (fun c => isCode c || c.before args0 about1) = true := by decide +kernel
set_option maxRecDepth 65536 in
theorem w_t3 : (((words1.drop 24).drop 24).take 24).all (fun c => isCode c || c.before args0 about1) = true := by decide +kernel
set_option maxRecDepth 65536 in
theorem w_t4 : ((((words1.drop 24).drop 24).drop 24).take 24).all (fun c => isCode c || c.before args0 about1) = true := by decide +kernel
set_option maxRecDepth 65536 in
theorem w_t5 : (((((words1.drop 24).drop 24).drop 24).drop 24).take 24).all (fun c => isCode c || c.before args0 about1) = true := by decide +kernel
set_option maxRecDepth 65536 in
theorem w_t6 : (((((words1.drop 24).drop 24).drop 24).drop 24).drop 24).all (fun c => isCode c || c.before args0 about1) = true := by decide +kernel
theorem w_tables : (allAtoms (Jvm.Cond.code x code maxLocals ret :: tables_1)).before args0 about1 = true := by
  rw [allAtoms_all]
  show words1.all (fun c => c.before args0 about1) = true
  refine all_split ?_ w_codes
  rw [← List.take_append_drop 24 words1, List.all_append, w_t1, ← List.take_append_drop 24 (words1.drop 24), List.all_append, w_t2, ← List.take_append_drop 24 ((words1.drop 24).drop 24), List.all_append, w_t3, ← List.take_append_drop 24 (((words1.drop 24).drop 24).drop 24), List.all_append, w_t4, ← List.take_append_drop 24 ((((words1.drop 24).drop 24).drop 24).drop 24), List.all_append, w_t5, w_t6]
  rfl
set_option maxRecDepth 65536 in
theorem w_case : (Jvm.Cond.and given_1 narrow_1).before args0 about1 = true := by decide +kernel
theorem w_applies : (headSpec (Jvm.Cond.code x code maxLocals ret :: tables_1) room_1).applies x e0.platform about1 = true :=
  (Spec.applies_iff w_frames).mpr ⟨w_running, w_runnable, w_alone, w_named, w_hears, w_ripe, w_room, w_tables⟩
theorem atStart : AtStart classFile x code maxLocals ret World_1 tables_1 room_1 Calls_1 rest_1 Pre_1 launch0 p0 e0 about1 theMethod args0 below0 :=
  ⟨lists_1, trivial, launch0.admits_env _ _ _, launch0.least_env, fairChoices_fair.cas, fairChoices_fair.clock, w_frames, w_args, w_heap, w_applies, trivial, trivial, w_case⟩
end start1
theorem witness_1 : WitnessClaimed_1 := ⟨start1.p0, start1.e0, start1.about1, start1.theMethod, start1.args0, start1.below0, start1.atStart⟩
end Jvm.Pilot.@@N@@
