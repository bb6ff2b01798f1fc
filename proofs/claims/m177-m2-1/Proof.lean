import JvmDerived
import JvmDerived.Pilot.@@N@@Statement
import JvmDerived.Pilot.@@N@@Code
set_option linter.unusedVariables false
set_option linter.unusedSimpArgs false
@@BLOCK:NumsL.lean.txt@@
namespace Jvm.RoadKit
open Sem ClassFile Op Lib Jvm.Stand Jvm.Free Jvm.LawKit
section Own
variable {p : Program} {l : Launch} {e : Env} {R : Room} {s : State} {m : MethodId} {args : Array Value} {below : List Frame} {meth : Method} {c : Code} {T : State} {locs : List Loc} {cells slots : Nat}
/-- from U the run ends, and P is said of the end -/
def Go (p : Program) (e : Env) (below : List Frame) (U : State) (P : Outcome → State → Prop) : Prop := ∃ s₂ o, Steps p.tables e below U s₂ ∧ s₂.status = .running ∧ Ended s₂ below o ∧ P o s₂
theorem Go.st {U U' : State} {P : Outcome → State → Prop} (k : ∀ t, Steps p.tables e below U' t → Steps p.tables e below U t) (g : Go p e below U' P) : Go p e below U P := by
  obtain ⟨t, o, a, r⟩ := g
  exact ⟨t, o, k t a, r⟩
theorem Go.tr {U U' : State} {P : Outcome → State → Prop} (k : Steps p.tables e below U U') (g : Go p e below U' P) : Go p e below U P := by
  obtain ⟨t, o, a, r⟩ := g
  exact ⟨t, o, k.trans a, r⟩
theorem Go.fin (X : Stand p l e R s m args below meth c T locs cells slots) {v : Option Value} (hv : meth.sig.returnType = none → v = none) (hlocks : meth.locks = false) {U : State} {P : Outcome → State → Prop}
    (st : ∀ fs, (∀ (f : JFrame) (acts : List Action), f.method = m → f.locked = none → f.entered = [] → (doReturn e (T.setTop f) acts v).1 = T.setFrames fs) → Steps p.tables e below U (T.setFrames fs))
    (hP : ∀ U' : State, U'.heap = T.heap → FrameEnd s (.returned v) U' locs cells slots → P (.returned v) U') : Go p e below U P := by
  obtain ⟨fs, hr, hrun, hended, hW, hsame⟩ := X.leave hv hlocks
  exact ⟨_, _, st fs hr, hrun, hended, hP _ rfl ⟨⟨_, rfl⟩, hW, hsame⟩⟩
theorem own_ord {a0 : Array Value} {t : Term} {a : Addr} {C n d : String} {k : Int32} (ev : t.eval a0 s none [] s = some (.ref a)) (h : (Cond.eq (.field t C n d) (.int k)).value a0 s none s [] = some true) : s.fieldOf? a C n d = some (.int k) := by
  have e1 := fld_at (C := C) (n := n) (dd := d) ev
  have e2 : (Term.int k).eval a0 s none [] s = some (.int k) := rfl
  cases hf : s.fieldOf? a C n d with
  | none => rw [hf] at e1; simp [Cond.value, e1] at h
  | some w =>
    rw [hf] at e1
    cases w <;> simp [Cond.value, e1, e2] at h
    rw [h]
theorem own_ne {a b : Addr} {C n d : String} {j k : Int32} (h1 : s.fieldOf? a C n d = some (.int j)) (h2 : s.fieldOf? b C n d = some (.int k)) (hne : j ≠ k) : a ≠ b := fun q => by
  subst q
  rw [h1] at h2
  exact hne (by injection (Option.some.inj h2))
theorem own_lsw {g : JFrame} {target : State} (X : Stand p l e R s m args below meth c T locs cells slots) (hx : p.tables.exec = Jvm.exec) (hg : g.method = m) {dflt : Int} {pairs : Array (Int × Int)} {len : Nat} {pc0 pc' : Nat} (hpc : g.pc = pc0)
    (hd : decode c.code g.pc = .ok (.lookupswitch dflt pairs, len)) {i : Int32} {rest : List Value} (hs : g.stack = .int i :: rest) {o : Int} (ho : lookupswitch.offset pairs.toList dflt i.toInt = o) (hso : ∀ (a b a_1 b_1 : Int), ((a, b), a_1, b_1) ∈ pairs.toList.zip pairs.toList.tail → a < a_1) (h0 : 0 ≤ (pc0 : Int) + o) (hp : ((pc0 : Int) + o).toNat = pc')
    (hr : Steps p.tables e below (T.setTop { g with pc := pc', stack := rest }) target) : Steps p.tables e below (T.setTop g) target := by
  subst hg hpc hp ho
  jvm_step X.here [X.here.top, hx, hd, hs, h0, lookupswitch.wp_chain]
  exact ⟨hso, hr⟩
theorem own_arvlt {Z : State} {h : Heap} {a : Addr} {k : ClassId} {ty : FieldType} {n : Int32} {vs : List Value} {d : Value} (V : Arv Z h a k ty n vs d) : a < h.size := by
  obtain ⟨c, A, -⟩ := V
  exact A.lt
end Own
end Jvm.RoadKit
namespace Jvm.Pilot.@@N@@
open Jvm Jvm.ClassFile Sem Op Lib Jvm.Free Jvm.Stand Jvm.LawKit Jvm.RoadKit Bundle Jvm.Pilot.@@N@@.Jvm.D

section ArfKit
variable {Z : State} {h h' : Heap} {a b : Addr} {k : ClassId} {ty : FieldType} {z : Int32} {f g : Nat → Value} {sl : Nat} {v w dv : Value} {ws : List Addr} {vs : List Value}
def Arf (Z : State) (h : Heap) (a : Addr) (k : ClassId) (ty : FieldType) (n : Int32) (f : Nat → Value) : Prop := ∃ c : Cell, Arr Z h a c ty ∧ c.cls = k ∧ c.slots.size = n.toNatClampNeg ∧ ¬ n < 0 ∧ (∀ i, i < c.slots.size → c.slots[i]? = some (f i)) ∧ ∀ i, i < c.slots.size → fits ty (f i) = true
def upd (f : Nat → Value) (i : Nat) (v : Value) : Nat → Value := fun j => if j = i then v else f j
theorem Arf.lt (F : Arf Z h a k ty z f) : a < h.size := by obtain ⟨c, A, -⟩ := F; exact A.lt
theorem Arf.ext (F : Arf Z h a k ty z f) (E : Ext h h') : Arf Z h' a k ty z f := by obtain ⟨c, A, r⟩ := F; exact ⟨c, A.ext E, r⟩
theorem Arf.other (F : Arf Z h b k ty z f) (W : Wr h h' a sl v) (q : b ≠ a) : Arf Z h' b k ty z f := by obtain ⟨c, A, r⟩ := F; exact ⟨c, A.other W q, r⟩
theorem Arf.keep (F : Arf Z h a k ty z f) (K : Keep h h' ws) (q : a ∉ ws) : Arf Z h' a k ty z f := by obtain ⟨c, A, r⟩ := F; exact ⟨c, ⟨K.2.1 a c A.1 q, A.2⟩, r⟩
theorem Arf.ofArv (F : Arv Z h a k ty z vs dv) (q : ∀ i, i < z.toNatClampNeg → vs.getD i dv = f i) : Arf Z h a k ty z f := by
  obtain ⟨c, A, q1, S, q3, H, G⟩ := F
  exact ⟨c, A, q1, S, q3, fun i hi => by rw [H i hi, q i (by rw [← S]; exact hi)], fun i hi => by rw [← q i (by rw [← S]; exact hi)]; exact G i hi⟩
theorem own_mapD (f : Nat → Value) (dv : Value) (n i : Nat) (hi : i < n) : ((List.range n).map f).getD i dv = f i := by
  simp [List.getD_eq_getElem?_getD, hi]
theorem Arf.arv (F : Arf Z h a k ty z f) (dv : Value) : Arv Z h a k ty z ((List.range z.toNatClampNeg).map f) dv := by
  obtain ⟨c, A, q1, S, q3, H, G⟩ := F
  exact ⟨c, A, q1, S, q3, fun i hi => by rw [H i hi, own_mapD f dv _ i (by rw [← S]; exact hi)], fun i hi => by rw [own_mapD f dv _ i (by rw [← S]; exact hi)]; exact G i hi⟩
theorem Arf.new (A : Arr Z h a (newA k ty z) ty) (q : ¬ z < 0) : Arf Z h a k ty z (fun _ => defaultValue ty) := Arf.ofArv (Arv.new A q) fun i _ => by simp [List.getD_eq_getElem?_getD]
theorem Arf.set {c : Cell} {j : Int32} (A : Arr Z h a c ty) (q1 : c.cls = k) (S : c.slots.size = z.toNatClampNeg) (q3 : ¬ z < 0) (H : ∀ i, i < c.slots.size → c.slots[i]? = some (f i)) (G : ∀ i, i < c.slots.size → fits ty (f i) = true) (hv : fits ty v = true) (W : Wr h h' a j.toNatClampNeg v) (i : Nat) (hj : j.toNatClampNeg = i) (hin : ¬ (j < 0 ∨ c.slots.size ≤ j.toNatClampNeg)) : Arf Z h' a k ty z (upd f i v) := by
  subst hj
  have hlt : j.toNatClampNeg < c.slots.size := Nat.lt_of_not_le fun q => hin (Or.inr q)
  refine ⟨_, A.same W, q1, by rw [sz_set]; exact S, q3, fun x hx => ?_, fun x hx => ?_⟩ <;> rw [sz_set] at hx <;> simp only [upd] <;> split
  · rename_i e
    subst e; simp [Cell.setSlot, hx]
  · rename_i e
    simp only [Cell.setSlot]; rw [Array.getElem?_setIfInBounds_ne (Ne.symm e)]; exact H x hx
  · exact hv
  · exact G x hx
theorem Arf.same (F : Arf Z h a k ty z f) (q : ∀ i, i < z.toNatClampNeg → f i = g i) : Arf Z h a k ty z g := by
  obtain ⟨c, A, q1, S, q3, H, G⟩ := F
  exact ⟨c, A, q1, S, q3, fun i hi => by rw [H i hi, q i (by rw [← S]; exact hi)], fun i hi => by rw [← q i (by rw [← S]; exact hi)]; exact G i hi⟩
/-- arraycopy's list, place by place -/
theorem own_cpD (f g : Nat → Value) (dv dd : Value) (n m sp dp nn : Nat) (h4 : sp + nn ≤ n) (h5 : dp + nn ≤ m) (i : Nat) (hi : i < m) :
    (((List.range m).map g).take dp ++ ((List.range nn).map fun i => ((List.range n).map f).getD (sp + i) dv) ++ ((List.range m).map g).drop (dp + nn)).getD i dd = if dp ≤ i ∧ i < dp + nn then f (sp + (i - dp)) else g i := by
  rw [List.getD_eq_getElem?_getD, List.append_assoc]
  have l1 : (((List.range m).map g).take dp).length = dp := by simp; omega
  have l2 : ((List.range nn).map fun i => ((List.range n).map f).getD (sp + i) dv).length = nn := by simp
  by_cases h1 : i < dp
  · have c : ¬ (dp ≤ i ∧ i < dp + nn) := by omega
    rw [if_neg c, List.getElem?_append_left (by rw [l1]; exact h1), List.getElem?_take]
    simp [h1, hi]
  · rw [List.getElem?_append_right (by rw [l1]; omega), l1]
    by_cases h2 : i < dp + nn
    · have c : dp ≤ i ∧ i < dp + nn := by omega
      rw [if_pos c, List.getElem?_append_left (by rw [l2]; omega)]
      have l : i - dp < nn := by omega
      have l2 : sp + (i - dp) < n := by omega
      simp [List.getD_eq_getElem?_getD, l, l2]
    · have c : ¬ (dp ≤ i ∧ i < dp + nn) := by omega
      rw [if_neg c, List.getElem?_append_right (by rw [l2]; omega), l2, List.getElem?_drop]
      have l : dp + nn + (i - dp - nn) = i := by omega
      rw [l]
      simp [hi]
theorem own_nb (x : Int32) : nar .byte (x.toInt8.toInt32) = x.toInt8.toInt32 := by
  show (x.toInt8.toInt32).toInt8.toInt32 = x.toInt8.toInt32
  simp
end ArfKit
section ArfSteps
variable {p : Program} {l : Launch} {e : Env} {R : Room} {s : State} {m : MethodId} {args : Array Value} {below : List Frame} {meth : Method} {c : Code} {T : State} {locs : List Loc} {cells slots : Nat} {Z : State} {h : Heap} {a b : Addr} {k : ClassId} {ty : FieldType} {z : Int32} {f g0 : Nat → Value}
/-- System.arraycopy of a primitive kind -/
theorem cpF (X : Stand p l e R s m args below meth c T locs cells slots) (hx : p.tables.exec = Jvm.exec) (hZ : Z.Warmed39 s.vm) {a0 : Array Value} {own : String} {index : Nat} (hown : s.vm.findClass own = some m.cls)
    (w1 : (Cond.methodLink own index Jvm.Stand.acN).before a0 Z = true) (w2 : (Cond.native Jvm.Stand.acN).before a0 Z = true) (w3 : (Cond.static Jvm.Stand.acN).before a0 Z = true) (w4 : (Cond.initialized "java/lang/System").before a0 Z = true) (eT : T.heap = h)
    {k' : ClassId} {z' sp dp nn : Int32} (A : Arf Z h a k ty z f) (B : Arf Z h b k' ty z' g0) (hty : refKind ty = false)
    (h1 : ¬ sp < 0) (h2 : ¬ dp < 0) (h3 : ¬ nn < 0) (h4 : sp.toNatClampNeg + nn.toNatClampNeg ≤ z.toNatClampNeg) (h5 : dp.toNatClampNeg + nn.toNatClampNeg ≤ z'.toNatClampNeg)
    {n0 : Nat} (N : Fr n0 locs) (ge : n0 ≤ b)
    {g : JFrame} (hg : g.method = m) (hsize : g.locals.size = c.maxLocals) {rest : List Value} (hs : g.stack = .int nn :: .int dp :: .ref b :: .int sp :: .ref a :: rest) (hd : decode c.code g.pc = .ok (.invokestatic index, 3))
    (hf : 1 ≤ R.frames) {W : Nat} (hW : 2 * g.monitorRoom + (rest.map fun v => v.category).sum ≤ W) (hlo : W + (nativeFrameWords "java/lang/System" "arraycopy" 5 + 11) ≤ R.locals) :
    ∃ T' h' L, Stand p l e R s m args below meth c T' L cells slots ∧ T'.heap = h' ∧ Fr n0 L ∧ Keep h h' [b] ∧ Arf Z h' b k' ty z' (fun i => if dp.toNatClampNeg ≤ i ∧ i < dp.toNatClampNeg + nn.toNatClampNeg then f (sp.toNatClampNeg + (i - dp.toNatClampNeg)) else g0 i) ∧
      ∀ target, Steps p.tables e below (T'.setTop { g with pc := g.pc + 3, stack := rest }) target → Steps p.tables e below (T.setTop g) target := by
  obtain ⟨T', h', L, X', e', N', K', V', st⟩ := cpA X hx hZ hown w1 w2 w3 w4 eT (A.arv .null) (B.arv .null) (Or.inl ⟨rfl, hty⟩) h1 h2 h3 h4 h5 rfl (by simp; omega) N ge hg hsize hs hd hf hW hlo
  exact ⟨T', h', L, X', e', N', K', Arf.ofArv V' fun i hi => own_cpD f g0 .null .null _ _ _ _ _ h4 h5 i hi, st⟩
end ArfSteps
namespace Gk
section GkKit
variable {p : Program} {l : Launch} {e : Env} {R : Room} {s : State} {m : MethodId} {args : Array Value} {below : List Frame} {meth : Method} {c : Code} {T : State} {locs : List Loc} {cells slots : Nat} {Ls : Array Slot} {S : List Value} {pc : Nat} {P : Outcome → State → Prop} {Z : State} {a0 : Array Value} {h : Heap}
theorem iloadN (X : Stand p l e R s m args below meth c T locs cells slots) (hx : p.tables.exec = Jvm.exec) {k : Fin 4} {v : Int32} (hd : decode c.code pc = .ok (.iload_n k, 1)) (hl : Ls[k.val]? = some (.val (.int v))) (K : Go p e below (T.setTop (mkF m (pc + 1) Ls (.int v :: S))) P) : Go p e below (T.setTop (mkF m pc Ls S)) P := Go.st (fun _ q_ => XS.iloadN X.here hx rfl hd hl q_) K
theorem iload (X : Stand p l e R s m args below meth c T locs cells slots) (hx : p.tables.exec = Jvm.exec) {k : Nat} {v : Int32} (hd : decode c.code pc = .ok (.iload k, 2)) (hl : Ls[k]? = some (.val (.int v))) (K : Go p e below (T.setTop (mkF m (pc + 2) Ls (.int v :: S))) P) : Go p e below (T.setTop (mkF m pc Ls S)) P := Go.st (fun _ q_ => XS.iload X.here hx rfl hd hl q_) K
theorem istoreN (X : Stand p l e R s m args below meth c T locs cells slots) (hx : p.tables.exec = Jvm.exec) {k : Fin 4} {v : Int32} (hd : decode c.code pc = .ok (.istore_n k, 1)) (L' : Array Slot) (hl : storeLocals Ls k.val (.int v) = some L') (K : Go p e below (T.setTop (mkF m (pc + 1) L' S)) P) : Go p e below (T.setTop (mkF m pc Ls (.int v :: S))) P := Go.st (fun _ q_ => XS.istoreN X.here hx rfl hd rfl hl q_) K
theorem istore (X : Stand p l e R s m args below meth c T locs cells slots) (hx : p.tables.exec = Jvm.exec) {k : Nat} {v : Int32} (hd : decode c.code pc = .ok (.istore k, 2)) (L' : Array Slot) (hl : storeLocals Ls k (.int v) = some L') (K : Go p e below (T.setTop (mkF m (pc + 2) L' S)) P) : Go p e below (T.setTop (mkF m pc Ls (.int v :: S))) P := Go.st (fun _ q_ => XS.istore X.here hx rfl hd rfl hl q_) K
theorem lloadN (X : Stand p l e R s m args below meth c T locs cells slots) (hx : p.tables.exec = Jvm.exec) {k : Fin 4} {v : Int64} (hd : decode c.code pc = .ok (.lload_n k, 1)) (hl : Ls[k.val]? = some (.val (.long v))) (K : Go p e below (T.setTop (mkF m (pc + 1) Ls (.long v :: S))) P) : Go p e below (T.setTop (mkF m pc Ls S)) P := Go.st (fun _ q_ => XS.lloadN X.here hx rfl hd hl q_) K
theorem lload (X : Stand p l e R s m args below meth c T locs cells slots) (hx : p.tables.exec = Jvm.exec) {k : Nat} {v : Int64} (hd : decode c.code pc = .ok (.lload k, 2)) (hl : Ls[k]? = some (.val (.long v))) (K : Go p e below (T.setTop (mkF m (pc + 2) Ls (.long v :: S))) P) : Go p e below (T.setTop (mkF m pc Ls S)) P := Go.st (fun _ q_ => XS.lload X.here hx rfl hd hl q_) K
theorem lstoreN (X : Stand p l e R s m args below meth c T locs cells slots) (hx : p.tables.exec = Jvm.exec) {k : Fin 4} {v : Int64} (hd : decode c.code pc = .ok (.lstore_n k, 1)) (L' : Array Slot) (hl : storeLocals Ls k.val (.long v) = some L') (K : Go p e below (T.setTop (mkF m (pc + 1) L' S)) P) : Go p e below (T.setTop (mkF m pc Ls (.long v :: S))) P := Go.st (fun _ q_ => XS.lstoreN X.here hx rfl hd rfl hl q_) K
theorem lstore (X : Stand p l e R s m args below meth c T locs cells slots) (hx : p.tables.exec = Jvm.exec) {k : Nat} {v : Int64} (hd : decode c.code pc = .ok (.lstore k, 2)) (L' : Array Slot) (hl : storeLocals Ls k (.long v) = some L') (K : Go p e below (T.setTop (mkF m (pc + 2) L' S)) P) : Go p e below (T.setTop (mkF m pc Ls (.long v :: S))) P := Go.st (fun _ q_ => XS.lstore X.here hx rfl hd rfl hl q_) K
theorem aloadN (X : Stand p l e R s m args below meth c T locs cells slots) (hx : p.tables.exec = Jvm.exec) {k : Fin 4} {v : Value} (hd : decode c.code pc = .ok (.aload_n k, 1)) (hl : Ls[k.val]? = some (.val v)) (hv : v.isRef = true) (K : Go p e below (T.setTop (mkF m (pc + 1) Ls (v :: S))) P) : Go p e below (T.setTop (mkF m pc Ls S)) P := Go.st (fun _ q_ => XS.aloadN X.here hx rfl hd hl hv q_) K
theorem aload (X : Stand p l e R s m args below meth c T locs cells slots) (hx : p.tables.exec = Jvm.exec) {k : Nat} {v : Value} (hd : decode c.code pc = .ok (.aload k, 2)) (hl : Ls[k]? = some (.val v)) (hv : v.isRef = true) (K : Go p e below (T.setTop (mkF m (pc + 2) Ls (v :: S))) P) : Go p e below (T.setTop (mkF m pc Ls S)) P := Go.st (fun _ q_ => XS.aload X.here hx rfl hd hl hv q_) K
theorem astoreN (X : Stand p l e R s m args below meth c T locs cells slots) (hx : p.tables.exec = Jvm.exec) {k : Fin 4} {v : Value} (hd : decode c.code pc = .ok (.astore_n k, 1)) (hv : v.isRef = true) (L' : Array Slot) (hl : storeLocals Ls k.val v = some L') (K : Go p e below (T.setTop (mkF m (pc + 1) L' S)) P) : Go p e below (T.setTop (mkF m pc Ls (v :: S))) P := Go.st (fun _ q_ => XS.astoreN X.here hx rfl hd rfl hv hl q_) K
theorem astore (X : Stand p l e R s m args below meth c T locs cells slots) (hx : p.tables.exec = Jvm.exec) {k : Nat} {v : Value} (hd : decode c.code pc = .ok (.astore k, 2)) (hv : v.isRef = true) (L' : Array Slot) (hl : storeLocals Ls k v = some L') (K : Go p e below (T.setTop (mkF m (pc + 2) L' S)) P) : Go p e below (T.setTop (mkF m pc Ls (v :: S))) P := Go.st (fun _ q_ => XS.astore X.here hx rfl hd rfl hv hl q_) K
theorem iconst (X : Stand p l e R s m args below meth c T locs cells slots) (hx : p.tables.exec = Jvm.exec) {i : Int} (hd : decode c.code pc = .ok (.iconst i, 1)) (z : Int32) (hz : Int32.ofInt i = z) (K : Go p e below (T.setTop (mkF m (pc + 1) Ls (.int z :: S))) P) : Go p e below (T.setTop (mkF m pc Ls S)) P := Go.st (fun _ q_ => XS.iconst X.here hx rfl hd (by subst hz; exact q_)) K
theorem bipush (X : Stand p l e R s m args below meth c T locs cells slots) (hx : p.tables.exec = Jvm.exec) {i : Int} (hd : decode c.code pc = .ok (.bipush i, 2)) (z : Int32) (hz : (Int8.ofInt i).toInt32 = z) (K : Go p e below (T.setTop (mkF m (pc + 2) Ls (.int z :: S))) P) : Go p e below (T.setTop (mkF m pc Ls S)) P := Go.st (fun _ q_ => XS.bipush X.here hx rfl hd (by subst hz; exact q_)) K
theorem sipush (X : Stand p l e R s m args below meth c T locs cells slots) (hx : p.tables.exec = Jvm.exec) {i : Int} (hd : decode c.code pc = .ok (.sipush i, 3)) (z : Int32) (hz : (Int16.ofInt i).toInt32 = z) (K : Go p e below (T.setTop (mkF m (pc + 3) Ls (.int z :: S))) P) : Go p e below (T.setTop (mkF m pc Ls S)) P := Go.st (fun _ q_ => XS.sipush X.here hx rfl hd (by subst hz; exact q_)) K
theorem lconst0 (X : Stand p l e R s m args below meth c T locs cells slots) (hx : p.tables.exec = Jvm.exec) (hd : decode c.code pc = .ok (.lconst 0, 1)) (K : Go p e below (T.setTop (mkF m (pc + 1) Ls (.long (0 : Int64) :: S))) P) : Go p e below (T.setTop (mkF m pc Ls S)) P := Go.st (fun _ q_ => XS.lconst X.here hx rfl hd q_) K
theorem lconst1 (X : Stand p l e R s m args below meth c T locs cells slots) (hx : p.tables.exec = Jvm.exec) (hd : decode c.code pc = .ok (.lconst 1, 1)) (K : Go p e below (T.setTop (mkF m (pc + 1) Ls (.long (1 : Int64) :: S))) P) : Go p e below (T.setTop (mkF m pc Ls S)) P := Go.st (fun _ q_ => XS.lconst X.here hx rfl hd q_) K
theorem aconstNull (X : Stand p l e R s m args below meth c T locs cells slots) (hx : p.tables.exec = Jvm.exec)  (hd : decode c.code pc = .ok (.aconst_null, 1))  (K : Go p e below (T.setTop (mkF m (pc + 1) Ls (.null :: S))) P) : Go p e below (T.setTop (mkF m pc Ls S)) P := Go.st (fun _ q_ => XS.aconstNull X.here hx rfl hd q_) K
theorem iadd (X : Stand p l e R s m args below meth c T locs cells slots) (hx : p.tables.exec = Jvm.exec) {x y : Int32} (hd : decode c.code pc = .ok (.iadd, 1)) (z : Int32) (hz : x + y = z) (K : Go p e below (T.setTop (mkF m (pc + 1) Ls (.int z :: S))) P) : Go p e below (T.setTop (mkF m pc Ls (.int y :: .int x :: S))) P := Go.st (fun _ q_ => XS.iadd X.here hx rfl hd rfl (by subst hz; exact q_)) K
theorem ladd (X : Stand p l e R s m args below meth c T locs cells slots) (hx : p.tables.exec = Jvm.exec) {x y : Int64} (hd : decode c.code pc = .ok (.ladd, 1)) (z : Int64) (hz : x + y = z) (K : Go p e below (T.setTop (mkF m (pc + 1) Ls (.long z :: S))) P) : Go p e below (T.setTop (mkF m pc Ls (.long y :: .long x :: S))) P := Go.st (fun _ q_ => XS.ladd X.here hx rfl hd rfl (by subst hz; exact q_)) K
theorem isub (X : Stand p l e R s m args below meth c T locs cells slots) (hx : p.tables.exec = Jvm.exec) {x y : Int32} (hd : decode c.code pc = .ok (.isub, 1)) (z : Int32) (hz : x - y = z) (K : Go p e below (T.setTop (mkF m (pc + 1) Ls (.int z :: S))) P) : Go p e below (T.setTop (mkF m pc Ls (.int y :: .int x :: S))) P := Go.st (fun _ q_ => XS.isub X.here hx rfl hd rfl (by subst hz; exact q_)) K
theorem lsub (X : Stand p l e R s m args below meth c T locs cells slots) (hx : p.tables.exec = Jvm.exec) {x y : Int64} (hd : decode c.code pc = .ok (.lsub, 1)) (z : Int64) (hz : x - y = z) (K : Go p e below (T.setTop (mkF m (pc + 1) Ls (.long z :: S))) P) : Go p e below (T.setTop (mkF m pc Ls (.long y :: .long x :: S))) P := Go.st (fun _ q_ => XS.lsub X.here hx rfl hd rfl (by subst hz; exact q_)) K
theorem imul (X : Stand p l e R s m args below meth c T locs cells slots) (hx : p.tables.exec = Jvm.exec) {x y : Int32} (hd : decode c.code pc = .ok (.imul, 1)) (z : Int32) (hz : x * y = z) (K : Go p e below (T.setTop (mkF m (pc + 1) Ls (.int z :: S))) P) : Go p e below (T.setTop (mkF m pc Ls (.int y :: .int x :: S))) P := Go.st (fun _ q_ => XS.imul X.here hx rfl hd rfl (by subst hz; exact q_)) K
theorem lmul (X : Stand p l e R s m args below meth c T locs cells slots) (hx : p.tables.exec = Jvm.exec) {x y : Int64} (hd : decode c.code pc = .ok (.lmul, 1)) (z : Int64) (hz : x * y = z) (K : Go p e below (T.setTop (mkF m (pc + 1) Ls (.long z :: S))) P) : Go p e below (T.setTop (mkF m pc Ls (.long y :: .long x :: S))) P := Go.st (fun _ q_ => XS.lmul X.here hx rfl hd rfl (by subst hz; exact q_)) K
theorem iand (X : Stand p l e R s m args below meth c T locs cells slots) (hx : p.tables.exec = Jvm.exec) {x y : Int32} (hd : decode c.code pc = .ok (.iand, 1)) (z : Int32) (hz : x &&& y = z) (K : Go p e below (T.setTop (mkF m (pc + 1) Ls (.int z :: S))) P) : Go p e below (T.setTop (mkF m pc Ls (.int y :: .int x :: S))) P := Go.st (fun _ q_ => XS.iand X.here hx rfl hd rfl (by subst hz; exact q_)) K
theorem land (X : Stand p l e R s m args below meth c T locs cells slots) (hx : p.tables.exec = Jvm.exec) {x y : Int64} (hd : decode c.code pc = .ok (.land, 1)) (z : Int64) (hz : x &&& y = z) (K : Go p e below (T.setTop (mkF m (pc + 1) Ls (.long z :: S))) P) : Go p e below (T.setTop (mkF m pc Ls (.long y :: .long x :: S))) P := Go.st (fun _ q_ => XS.land X.here hx rfl hd rfl (by subst hz; exact q_)) K
theorem ior (X : Stand p l e R s m args below meth c T locs cells slots) (hx : p.tables.exec = Jvm.exec) {x y : Int32} (hd : decode c.code pc = .ok (.ior, 1)) (z : Int32) (hz : x ||| y = z) (K : Go p e below (T.setTop (mkF m (pc + 1) Ls (.int z :: S))) P) : Go p e below (T.setTop (mkF m pc Ls (.int y :: .int x :: S))) P := Go.st (fun _ q_ => XS.ior X.here hx rfl hd rfl (by subst hz; exact q_)) K
theorem lor (X : Stand p l e R s m args below meth c T locs cells slots) (hx : p.tables.exec = Jvm.exec) {x y : Int64} (hd : decode c.code pc = .ok (.lor, 1)) (z : Int64) (hz : x ||| y = z) (K : Go p e below (T.setTop (mkF m (pc + 1) Ls (.long z :: S))) P) : Go p e below (T.setTop (mkF m pc Ls (.long y :: .long x :: S))) P := Go.st (fun _ q_ => XS.lor X.here hx rfl hd rfl (by subst hz; exact q_)) K
theorem ixor (X : Stand p l e R s m args below meth c T locs cells slots) (hx : p.tables.exec = Jvm.exec) {x y : Int32} (hd : decode c.code pc = .ok (.ixor, 1)) (z : Int32) (hz : x ^^^ y = z) (K : Go p e below (T.setTop (mkF m (pc + 1) Ls (.int z :: S))) P) : Go p e below (T.setTop (mkF m pc Ls (.int y :: .int x :: S))) P := Go.st (fun _ q_ => XS.ixor X.here hx rfl hd rfl (by subst hz; exact q_)) K
theorem lxor (X : Stand p l e R s m args below meth c T locs cells slots) (hx : p.tables.exec = Jvm.exec) {x y : Int64} (hd : decode c.code pc = .ok (.lxor, 1)) (z : Int64) (hz : x ^^^ y = z) (K : Go p e below (T.setTop (mkF m (pc + 1) Ls (.long z :: S))) P) : Go p e below (T.setTop (mkF m pc Ls (.long y :: .long x :: S))) P := Go.st (fun _ q_ => XS.lxor X.here hx rfl hd rfl (by subst hz; exact q_)) K
theorem ishl (X : Stand p l e R s m args below meth c T locs cells slots) (hx : p.tables.exec = Jvm.exec) {x y : Int32} (hd : decode c.code pc = .ok (.ishl, 1)) (z : Int32) (hz : (x <<< (y &&& 31)) = z) (K : Go p e below (T.setTop (mkF m (pc + 1) Ls (.int z :: S))) P) : Go p e below (T.setTop (mkF m pc Ls (.int y :: .int x :: S))) P := Go.st (fun _ q_ => XS.ishl X.here hx rfl hd rfl (by subst hz; exact q_)) K
theorem ishr (X : Stand p l e R s m args below meth c T locs cells slots) (hx : p.tables.exec = Jvm.exec) {x y : Int32} (hd : decode c.code pc = .ok (.ishr, 1)) (z : Int32) (hz : (x >>> (y &&& 31)) = z) (K : Go p e below (T.setTop (mkF m (pc + 1) Ls (.int z :: S))) P) : Go p e below (T.setTop (mkF m pc Ls (.int y :: .int x :: S))) P := Go.st (fun _ q_ => XS.ishr X.here hx rfl hd rfl (by subst hz; exact q_)) K
theorem iushr (X : Stand p l e R s m args below meth c T locs cells slots) (hx : p.tables.exec = Jvm.exec) {x y : Int32} (hd : decode c.code pc = .ok (.iushr, 1)) (z : Int32) (hz : ((x.toUInt32 >>> (y &&& 31).toUInt32).toInt32) = z) (K : Go p e below (T.setTop (mkF m (pc + 1) Ls (.int z :: S))) P) : Go p e below (T.setTop (mkF m pc Ls (.int y :: .int x :: S))) P := Go.st (fun _ q_ => XS.iushr X.here hx rfl hd rfl (by subst hz; exact q_)) K
theorem lshl (X : Stand p l e R s m args below meth c T locs cells slots) (hx : p.tables.exec = Jvm.exec) {x : Int64} {y : Int32} (hd : decode c.code pc = .ok (.lshl, 1)) (z : Int64) (hz : (x <<< (y &&& 0x3f).toInt64) = z) (K : Go p e below (T.setTop (mkF m (pc + 1) Ls (.long z :: S))) P) : Go p e below (T.setTop (mkF m pc Ls (.int y :: .long x :: S))) P := Go.st (fun _ q_ => XS.lshl X.here hx rfl hd rfl (by subst hz; exact q_)) K
theorem lshr (X : Stand p l e R s m args below meth c T locs cells slots) (hx : p.tables.exec = Jvm.exec) {x : Int64} {y : Int32} (hd : decode c.code pc = .ok (.lshr, 1)) (z : Int64) (hz : (x >>> (y &&& 0x3f).toInt64) = z) (K : Go p e below (T.setTop (mkF m (pc + 1) Ls (.long z :: S))) P) : Go p e below (T.setTop (mkF m pc Ls (.int y :: .long x :: S))) P := Go.st (fun _ q_ => XS.lshr X.here hx rfl hd rfl (by subst hz; exact q_)) K
theorem lushr (X : Stand p l e R s m args below meth c T locs cells slots) (hx : p.tables.exec = Jvm.exec) {x : Int64} {y : Int32} (hd : decode c.code pc = .ok (.lushr, 1)) (z : Int64) (hz : ((x.toUInt64 >>> (y &&& 0x3f).toInt64.toUInt64).toInt64) = z) (K : Go p e below (T.setTop (mkF m (pc + 1) Ls (.long z :: S))) P) : Go p e below (T.setTop (mkF m pc Ls (.int y :: .long x :: S))) P := Go.st (fun _ q_ => XS.lushr X.here hx rfl hd rfl (by subst hz; exact q_)) K
theorem ineg (X : Stand p l e R s m args below meth c T locs cells slots) (hx : p.tables.exec = Jvm.exec) {x : Int32} (hd : decode c.code pc = .ok (.ineg, 1)) (z : Int32) (hz : -x = z) (K : Go p e below (T.setTop (mkF m (pc + 1) Ls (.int z :: S))) P) : Go p e below (T.setTop (mkF m pc Ls (.int x :: S))) P := Go.st (fun _ q_ => XS.ineg X.here hx rfl hd rfl (by subst hz; exact q_)) K
theorem lneg (X : Stand p l e R s m args below meth c T locs cells slots) (hx : p.tables.exec = Jvm.exec) {x : Int64} (hd : decode c.code pc = .ok (.lneg, 1)) (z : Int64) (hz : -x = z) (K : Go p e below (T.setTop (mkF m (pc + 1) Ls (.long z :: S))) P) : Go p e below (T.setTop (mkF m pc Ls (.long x :: S))) P := Go.st (fun _ q_ => XS.lneg X.here hx rfl hd rfl (by subst hz; exact q_)) K
theorem i2l (X : Stand p l e R s m args below meth c T locs cells slots) (hx : p.tables.exec = Jvm.exec) {x : Int32} (hd : decode c.code pc = .ok (.i2l, 1)) (z : Int64) (hz : x.toInt64 = z) (K : Go p e below (T.setTop (mkF m (pc + 1) Ls (.long z :: S))) P) : Go p e below (T.setTop (mkF m pc Ls (.int x :: S))) P := Go.st (fun _ q_ => XS.i2l X.here hx rfl hd rfl (by subst hz; exact q_)) K
theorem l2i (X : Stand p l e R s m args below meth c T locs cells slots) (hx : p.tables.exec = Jvm.exec) {x : Int64} (hd : decode c.code pc = .ok (.l2i, 1)) (z : Int32) (hz : x.toInt32 = z) (K : Go p e below (T.setTop (mkF m (pc + 1) Ls (.int z :: S))) P) : Go p e below (T.setTop (mkF m pc Ls (.long x :: S))) P := Go.st (fun _ q_ => XS.l2i X.here hx rfl hd rfl (by subst hz; exact q_)) K
theorem i2b (X : Stand p l e R s m args below meth c T locs cells slots) (hx : p.tables.exec = Jvm.exec) {x : Int32} (hd : decode c.code pc = .ok (.i2b, 1)) (z : Int32) (hz : x.toInt8.toInt32 = z) (K : Go p e below (T.setTop (mkF m (pc + 1) Ls (.int z :: S))) P) : Go p e below (T.setTop (mkF m pc Ls (.int x :: S))) P := Go.st (fun _ q_ => XS.i2b X.here hx rfl hd rfl (by subst hz; exact q_)) K
theorem i2s (X : Stand p l e R s m args below meth c T locs cells slots) (hx : p.tables.exec = Jvm.exec) {x : Int32} (hd : decode c.code pc = .ok (.i2s, 1)) (z : Int32) (hz : x.toInt16.toInt32 = z) (K : Go p e below (T.setTop (mkF m (pc + 1) Ls (.int z :: S))) P) : Go p e below (T.setTop (mkF m pc Ls (.int x :: S))) P := Go.st (fun _ q_ => XS.i2s X.here hx rfl hd rfl (by subst hz; exact q_)) K
theorem i2c (X : Stand p l e R s m args below meth c T locs cells slots) (hx : p.tables.exec = Jvm.exec) {x : Int32} (hd : decode c.code pc = .ok (.i2c, 1)) (z : Int32) (hz : x.toUInt32.toUInt16.toUInt32.toInt32 = z) (K : Go p e below (T.setTop (mkF m (pc + 1) Ls (.int z :: S))) P) : Go p e below (T.setTop (mkF m pc Ls (.int x :: S))) P := Go.st (fun _ q_ => XS.i2c X.here hx rfl hd rfl (by subst hz; exact q_)) K
theorem idiv (X : Stand p l e R s m args below meth c T locs cells slots) (hx : p.tables.exec = Jvm.exec) {x y : Int32} (hd : decode c.code pc = .ok (.idiv, 1)) (hy : y ≠ 0) (z : Int32) (hz : x / y = z) (K : Go p e below (T.setTop (mkF m (pc + 1) Ls (.int z :: S))) P) : Go p e below (T.setTop (mkF m pc Ls (.int y :: .int x :: S))) P := Go.st (fun _ q_ => XS.idiv X.here hx rfl hd rfl hy (by subst hz; exact q_)) K
theorem ldiv (X : Stand p l e R s m args below meth c T locs cells slots) (hx : p.tables.exec = Jvm.exec) {x y : Int64} (hd : decode c.code pc = .ok (.ldiv, 1)) (hy : y ≠ 0) (z : Int64) (hz : x / y = z) (K : Go p e below (T.setTop (mkF m (pc + 1) Ls (.long z :: S))) P) : Go p e below (T.setTop (mkF m pc Ls (.long y :: .long x :: S))) P := Go.st (fun _ q_ => XS.ldiv X.here hx rfl hd rfl hy (by subst hz; exact q_)) K
theorem irem (X : Stand p l e R s m args below meth c T locs cells slots) (hx : p.tables.exec = Jvm.exec) {x y : Int32} (hd : decode c.code pc = .ok (.irem, 1)) (hy : y ≠ 0) (z : Int32) (hz : x % y = z) (K : Go p e below (T.setTop (mkF m (pc + 1) Ls (.int z :: S))) P) : Go p e below (T.setTop (mkF m pc Ls (.int y :: .int x :: S))) P := Go.st (fun _ q_ => iremM (g := mkF m pc Ls (.int y :: .int x :: S)) X hx rfl hd rfl hy (by subst hz; exact q_)) K
theorem lcmp (X : Stand p l e R s m args below meth c T locs cells slots) (hx : p.tables.exec = Jvm.exec) {x y : Int64} (hd : decode c.code pc = .ok (.lcmp, 1))  (K : Go p e below (T.setTop (mkF m (pc + 1) Ls (.int (lcmpW x y) :: S))) P) : Go p e below (T.setTop (mkF m pc Ls (.long y :: .long x :: S))) P := Go.st (fun _ q_ => XS.lcmp X.here hx rfl hd rfl q_) K
theorem iinc (X : Stand p l e R s m args below meth c T locs cells slots) (hx : p.tables.exec = Jvm.exec) {k : Nat} {cst : Int} {x : Int32} (hd : decode c.code pc = .ok (.iinc k cst, 3)) (hl : Ls[k]? = some (.val (.int x))) (L' : Array Slot) (hl' : storeLocals Ls k (.int (x + Int32.ofInt cst)) = some L') (K : Go p e below (T.setTop (mkF m (pc + 3) L' S)) P) : Go p e below (T.setTop (mkF m pc Ls S)) P := Go.st (fun _ q_ => XS.iinc X.here hx rfl hd hl hl' q_) K
theorem dup (X : Stand p l e R s m args below meth c T locs cells slots) (hx : p.tables.exec = Jvm.exec) {x : Value} (hd : decode c.code pc = .ok (.dup, 1)) (hc : x.category = 1) (K : Go p e below (T.setTop (mkF m (pc + 1) Ls (x :: x :: S))) P) : Go p e below (T.setTop (mkF m pc Ls (x :: S))) P := Go.st (fun _ q_ => XS.dup X.here hx rfl hd rfl hc q_) K
theorem dupX1 (X : Stand p l e R s m args below meth c T locs cells slots) (hx : p.tables.exec = Jvm.exec) {x y : Value} (hd : decode c.code pc = .ok (.dup_x1, 1)) (hc : x.category = 1) (hc' : y.category = 1) (K : Go p e below (T.setTop (mkF m (pc + 1) Ls (x :: y :: x :: S))) P) : Go p e below (T.setTop (mkF m pc Ls (x :: y :: S))) P := Go.st (fun _ q_ => XS.dupX1 X.here hx rfl hd rfl hc hc' q_) K
theorem dup2 (X : Stand p l e R s m args below meth c T locs cells slots) (hx : p.tables.exec = Jvm.exec) {x y : Value} (hd : decode c.code pc = .ok (.dup2, 1)) (hc : x.category = 1) (hc' : y.category = 1) (K : Go p e below (T.setTop (mkF m (pc + 1) Ls (x :: y :: x :: y :: S))) P) : Go p e below (T.setTop (mkF m pc Ls (x :: y :: S))) P := Go.st (fun _ q_ => XT.dup2 X.here hx rfl hd rfl hc hc' q_) K
theorem pop (X : Stand p l e R s m args below meth c T locs cells slots) (hx : p.tables.exec = Jvm.exec) {x : Value} (hd : decode c.code pc = .ok (.pop, 1)) (hc : x.category = 1) (K : Go p e below (T.setTop (mkF m (pc + 1) Ls S)) P) : Go p e below (T.setTop (mkF m pc Ls (x :: S))) P := Go.st (fun _ q_ => XS.pop X.here hx rfl hd rfl hc q_) K
theorem goto (X : Stand p l e R s m args below meth c T locs cells slots) (hx : p.tables.exec = Jvm.exec)  {o : Int} (hd : decode c.code pc = .ok (.goto o, 3))  (pc' : Nat) (ho : 0 ≤ (pc : Int) + o) (hp : ((pc : Int) + o).toNat = pc') (K : Go p e below (T.setTop (mkF m pc' Ls S)) P) : Go p e below (T.setTop (mkF m pc Ls S)) P := Go.st (fun _ q_ => XS.goto X.here hx rfl rfl hd ho hp q_) K
theorem ifYes (X : Stand p l e R s m args below meth c T locs cells slots) (hx : p.tables.exec = Jvm.exec) {cd : ClassFile.Cond} {x : Int32} {o : Int} (hd : decode c.code pc = .ok (.ifCond cd o, 3)) (hc : if_icmp.holds cd x 0 = true) (pc' : Nat) (ho : 0 ≤ (pc : Int) + o) (hp : ((pc : Int) + o).toNat = pc') (K : Go p e below (T.setTop (mkF m pc' Ls S)) P) : Go p e below (T.setTop (mkF m pc Ls (.int x :: S))) P := Go.st (fun _ q_ => XS.ifYes X.here hx rfl rfl hd rfl ((if0 _ _).trans hc) ho hp q_) K
theorem ifNo (X : Stand p l e R s m args below meth c T locs cells slots) (hx : p.tables.exec = Jvm.exec) {cd : ClassFile.Cond} {x : Int32} {o : Int} (hd : decode c.code pc = .ok (.ifCond cd o, 3)) (hc : if_icmp.holds cd x 0 = false) (K : Go p e below (T.setTop (mkF m (pc + 3) Ls S)) P) : Go p e below (T.setTop (mkF m pc Ls (.int x :: S))) P := Go.st (fun _ q_ => XS.ifNo X.here hx rfl hd rfl ((if0 _ _).trans hc) q_) K
theorem icmpYes (X : Stand p l e R s m args below meth c T locs cells slots) (hx : p.tables.exec = Jvm.exec) {cd : ClassFile.Cond} {x y : Int32} {o : Int} (hd : decode c.code pc = .ok (.if_icmp cd o, 3)) (hc : if_icmp.holds cd x y = true) (pc' : Nat) (ho : 0 ≤ (pc : Int) + o) (hp : ((pc : Int) + o).toNat = pc') (K : Go p e below (T.setTop (mkF m pc' Ls S)) P) : Go p e below (T.setTop (mkF m pc Ls (.int y :: .int x :: S))) P := Go.st (fun _ q_ => XS.icmpYes X.here hx rfl rfl hd rfl hc ho hp q_) K
theorem icmpNo (X : Stand p l e R s m args below meth c T locs cells slots) (hx : p.tables.exec = Jvm.exec) {cd : ClassFile.Cond} {x y : Int32} {o : Int} (hd : decode c.code pc = .ok (.if_icmp cd o, 3)) (hc : if_icmp.holds cd x y = false) (K : Go p e below (T.setTop (mkF m (pc + 3) Ls S)) P) : Go p e below (T.setTop (mkF m pc Ls (.int y :: .int x :: S))) P := Go.st (fun _ q_ => XS.icmpNo X.here hx rfl hd rfl hc q_) K
theorem ifnullYes (X : Stand p l e R s m args below meth c T locs cells slots) (hx : p.tables.exec = Jvm.exec)  {o : Int} (hd : decode c.code pc = .ok (.ifnull o, 3))  (pc' : Nat) (ho : 0 ≤ (pc : Int) + o) (hp : ((pc : Int) + o).toNat = pc') (K : Go p e below (T.setTop (mkF m pc' Ls S)) P) : Go p e below (T.setTop (mkF m pc Ls (.null :: S))) P := Go.st (fun _ q_ => XS.ifnullYes X.here hx rfl rfl hd rfl ho hp q_) K
theorem ifnullNo (X : Stand p l e R s m args below meth c T locs cells slots) (hx : p.tables.exec = Jvm.exec) {o : Int} {b : Addr} (hd : decode c.code pc = .ok (.ifnull o, 3))  (K : Go p e below (T.setTop (mkF m (pc + 3) Ls S)) P) : Go p e below (T.setTop (mkF m pc Ls (.ref b :: S))) P := Go.st (fun _ q_ => XS.ifnullNo X.here hx rfl hd rfl q_) K
theorem ifnonnullYes (X : Stand p l e R s m args below meth c T locs cells slots) (hx : p.tables.exec = Jvm.exec) {b : Addr} {o : Int} (hd : decode c.code pc = .ok (.ifnonnull o, 3))  (pc' : Nat) (ho : 0 ≤ (pc : Int) + o) (hp : ((pc : Int) + o).toNat = pc') (K : Go p e below (T.setTop (mkF m pc' Ls S)) P) : Go p e below (T.setTop (mkF m pc Ls (.ref b :: S))) P := Go.st (fun _ q_ => XS.ifnonnullYes X.here hx rfl rfl hd rfl ho hp q_) K
theorem ifnonnullNo (X : Stand p l e R s m args below meth c T locs cells slots) (hx : p.tables.exec = Jvm.exec) {o : Int} (hd : decode c.code pc = .ok (.ifnonnull o, 3))  (K : Go p e below (T.setTop (mkF m (pc + 3) Ls S)) P) : Go p e below (T.setTop (mkF m pc Ls (.null :: S))) P := Go.st (fun _ q_ => XS.ifnonnullNo X.here hx rfl hd rfl q_) K
theorem acmp (X : Stand p l e R s m args below meth c T locs cells slots) (hx : p.tables.exec = Jvm.exec) {cd : ACond} {x y : Value} {o : Int} (hd : decode c.code pc = .ok (.if_acmp cd o, 3)) (h1 : x.isRef = true) (h2 : y.isRef = true) (same : Bool) (hq : decide (x = y) = same) (pc' : Nat) (ho : 0 ≤ (pc : Int) + o) (hp : pc' = if acV cd same = true then ((pc : Int) + o).toNat else pc + 3) (K : Go p e below (T.setTop (mkF m pc' Ls S)) P) : Go p e below (T.setTop (mkF m pc Ls (y :: x :: S))) P := Go.st (fun _ q_ => Jvm.RoadKit.acmp (g := mkF m pc Ls (y :: x :: S)) X hx rfl h1 h2 rfl hd rfl hq ho hp q_) K
theorem lsw (X : Stand p l e R s m args below meth c T locs cells slots) (hx : p.tables.exec = Jvm.exec) {dflt : Int} {pairs : Array (Int × Int)} {len : Nat} {i : Int32} (hd : decode c.code pc = .ok (.lookupswitch dflt pairs, len)) {o : Int} (ho : lookupswitch.offset pairs.toList dflt i.toInt = o) (hso : ∀ (a b a_1 b_1 : Int), ((a, b), a_1, b_1) ∈ pairs.toList.zip pairs.toList.tail → a < a_1) (pc' : Nat) (h0 : 0 ≤ (pc : Int) + o) (hp : ((pc : Int) + o).toNat = pc') (K : Go p e below (T.setTop (mkF m pc' Ls S)) P) : Go p e below (T.setTop (mkF m pc Ls (.int i :: S))) P := Go.st (fun _ q_ => own_lsw (g := mkF m pc Ls (.int i :: S)) X hx rfl rfl hd rfl ho hso h0 hp q_) K
theorem tsw (X : Stand p l e R s m args below meth c T locs cells slots) (hx : p.tables.exec = Jvm.exec) {dflt low high : Int} {offs : Array Int} {len : Nat} {i : Int32} (hd : decode c.code pc = .ok (.tableswitch dflt low high offs, len)) {o : Int} (hin : ¬ (i.toInt < low ∨ i.toInt > high)) (hoff : offs[(i.toInt - low).toNat]? = some o) (pc' : Nat) (h0 : 0 ≤ (pc : Int) + o) (hp : ((pc : Int) + o).toNat = pc') (K : Go p e below (T.setTop (mkF m pc' Ls S)) P) : Go p e below (T.setTop (mkF m pc Ls (.int i :: S))) P := Go.st (fun _ q_ => XS.tswIn (g := mkF m pc Ls (.int i :: S)) X.here hx rfl rfl hd rfl hin hoff h0 hp q_) K
theorem ldcI (X : Stand p l e R s m args below meth c T locs cells slots) (hx : p.tables.exec = Jvm.exec) (hZ : Z.Warmed39 s.vm) {own : String} {index : Nat} (hown : s.vm.findClass own = some m.cls) {v : Int32} (w : (Cond.constant own index v).before a0 Z = true) (hd : decode c.code pc = .ok (.ldc index, 2)) (K : Go p e below (T.setTop (mkF m (pc + 2) Ls (.int v :: S))) P) : Go p e below (T.setTop (mkF m pc Ls S)) P := Go.st (X.ldcInt hx hown (mvT hZ w) (g := mkF m pc Ls S) rfl hd) K
theorem ldcwI (X : Stand p l e R s m args below meth c T locs cells slots) (hx : p.tables.exec = Jvm.exec) (hZ : Z.Warmed39 s.vm) {own : String} {index : Nat} (hown : s.vm.findClass own = some m.cls) {v : Int32} (w : (Cond.constant own index v).before a0 Z = true) (hd : decode c.code pc = .ok (.ldc_w index, 3)) (K : Go p e below (T.setTop (mkF m (pc + 3) Ls (.int v :: S))) P) : Go p e below (T.setTop (mkF m pc Ls S)) P := Go.st (X.ldcwInt hx hown (mvT hZ w) (g := mkF m pc Ls S) rfl hd) K
theorem ldcL (X : Stand p l e R s m args below meth c T locs cells slots) (hx : p.tables.exec = Jvm.exec) (hZ : Z.Warmed39 s.vm) {own : String} {index : Nat} (hown : s.vm.findClass own = some m.cls) {v : Int64} (w : (Cond.constantLong own index v).before a0 Z = true) (hd : decode c.code pc = .ok (.ldc2_w index, 3)) (K : Go p e below (T.setTop (mkF m (pc + 3) Ls (.long v :: S))) P) : Go p e below (T.setTop (mkF m pc Ls S)) P := Go.st (X.ldc2Long hx hown (mvT hZ w) (g := mkF m pc Ls S) rfl hd) K
theorem getS (X : Stand p l e R s m args below meth c T locs cells slots) (hx : p.tables.exec = Jvm.exec) (hZ : Z.Warmed39 s.vm) {own : String} {index : Nat} (hown : s.vm.findClass own = some m.cls) {R0 O n d host : String} (w : (Cond.fieldLink own index R0 n d).before a0 Z = true ∨ (Cond.fieldLinkNest own index R0 n d host).before a0 Z = true) (via : Via Z R0 O n d) (eT : T.heap = h) {v : Value} (F : Sta Z h O n d v) (hd : decode c.code pc = .ok (.getstatic index, 3))
    (K : ∀ T', Stand p l e R s m args below meth c T' locs cells slots → T'.heap = h → Go p e below (T'.setTop (mkF m (pc + 3) Ls (v :: S))) P) : Go p e below (T.setTop (mkF m pc Ls S)) P := by
  obtain ⟨T', X', e', st⟩ := getS2 X hx hZ hown w via eT F (g := mkF m pc Ls S) rfl hd
  exact Go.st st (K T' X' e')
theorem getF (X : Stand p l e R s m args below meth c T locs cells slots) (hx : p.tables.exec = Jvm.exec) (hZ : Z.Warmed39 s.vm) {own : String} {index : Nat} (hown : s.vm.findClass own = some m.cls) {R0 O n d host : String} (w : (Cond.fieldLink own index R0 n d).before a0 Z = true ∨ (Cond.fieldLinkNest own index R0 n d host).before a0 Z = true) (via : Via Z R0 O n d) (eT : T.heap = h) {a : Addr} {v : Value} (F : Fld Z h a O n d v) (hd : decode c.code pc = .ok (.getfield index, 3))
    (K : ∀ T', Stand p l e R s m args below meth c T' locs cells slots → T'.heap = h → Go p e below (T'.setTop (mkF m (pc + 3) Ls (v :: S))) P) : Go p e below (T.setTop (mkF m pc Ls (.ref a :: S))) P := by
  obtain ⟨T', X', e', st⟩ := RoadKit.getF X hx hZ hown w via eT F (g := mkF m pc Ls (.ref a :: S)) rfl rfl hd
  exact Go.st st (K T' X' e')
theorem putF (X : Stand p l e R s m args below meth c T locs cells slots) (hx : p.tables.exec = Jvm.exec) (hZ : Z.Warmed39 s.vm) {own : String} {index : Nat} (hown : s.vm.findClass own = some m.cls) {R0 O n d host C : String} {kk : Nat} {ty : FieldType} (w : (Cond.fieldLink own index R0 n d).before a0 Z = true ∨ (Cond.fieldLinkNest own index R0 n d host).before a0 Z = true) (via : Via Z R0 O n d) (eT : T.heap = h) {a : Addr} {v old : Value} (F : Fld Z h a O n d old) (E : Exa Z h a C) (Lw : (Cond.lays C O n d).before a0 Z = true ∨ ((Cond.laysFinal C O n d).before a0 Z = true ∧ own = O ∧ meth.name = "<init>")) (wi : (Cond.instantiable C kk).before a0 Z = true)
    (hty : parseFieldDescriptor d = some ty) (hn : narrow ty v = v) (hf : fits ty v = true) (hd : decode c.code pc = .ok (.putfield index, 3))
    (K : ∀ T' h', Stand p l e R s m args below meth c T' (locs ++ [⟨a, Jvm.RoadKit.slotOf Z O n d⟩]) cells slots → T'.heap = h' → Wr h h' a (Jvm.RoadKit.slotOf Z O n d) v → Go p e below (T'.setTop (mkF m (pc + 3) Ls S)) P) : Go p e below (T.setTop (mkF m pc Ls (v :: .ref a :: S))) P := by
  obtain ⟨T', h', X', e', W', st⟩ := RoadKit.putF X hx hZ hown w via eT F E Lw wi hty hn hf (g := mkF m pc Ls (v :: .ref a :: S)) rfl rfl hd
  exact Go.st st (K T' h' X' e' W')
theorem putFN (X : Stand p l e R s m args below meth c T locs cells slots) (hx : p.tables.exec = Jvm.exec) (hZ : Z.Warmed39 s.vm) {own : String} {index : Nat} (hown : s.vm.findClass own = some m.cls) {R0 O n d C : String} {kk : Nat} {ty : FieldType} (w : (Cond.fieldLink own index R0 n d).before a0 Z = true) (via : Via Z R0 O n d) (eT : T.heap = h) {a : Addr} {v v' old : Value} (F : Fld Z h a O n d old) (E : Exa Z h a C) (Lw : (Cond.lays C O n d).before a0 Z = true ∨ ((Cond.laysFinal C O n d).before a0 Z = true ∧ own = O ∧ meth.name = "<init>")) (wi : (Cond.instantiable C kk).before a0 Z = true)
    (hty : parseFieldDescriptor d = some ty) (hn : narrow ty v = v') (hf : fits ty v' = true) (hd : decode c.code pc = .ok (.putfield index, 3))
    (K : ∀ T' h', Stand p l e R s m args below meth c T' (locs ++ [⟨a, Jvm.RoadKit.slotOf Z O n d⟩]) cells slots → T'.heap = h' → Wr h h' a (Jvm.RoadKit.slotOf Z O n d) v' → Go p e below (T'.setTop (mkF m (pc + 3) Ls S)) P) : Go p e below (T.setTop (mkF m pc Ls (v :: .ref a :: S))) P := by
  obtain ⟨T', h', X', e', W', st⟩ := RoadKit.putFN X hx hZ hown w via eT F E Lw wi hty hn hf (g := mkF m pc Ls (v :: .ref a :: S)) rfl rfl hd
  exact Go.st st (K T' h' X' e' W')
theorem newO (X : Stand p l e R s m args below meth c T locs cells slots) (hx : p.tables.exec = Jvm.exec) (hZ : Z.Warmed39 s.vm) {own : String} {index : Nat} (hown : s.vm.findClass own = some m.cls) {C : String} {n : Nat} (w : (Cond.classLink own index C).before a0 Z = true) (wi : (Cond.instantiable C n).before a0 Z = true) (wz : (Cond.initialized C).before a0 Z = true) (eT : T.heap = h) (hd : decode c.code pc = .ok (.new index, 3)) (hc : cells + 1 ≤ R.cells) (hl : slots + n ≤ R.slots)
    (K : ∀ T' h' b, Stand p l e R s m args below meth c T' locs (cells + 1) (slots + n) → T'.heap = h' → Ext h h' → b = h.size → Exa Z h' b C → (∀ {O nm d : String} {ty : FieldType}, Laid Z a0 C O nm d → parseFieldDescriptor d = some ty → Fld Z h' b O nm d (defaultValue ty)) → Go p e below (T'.setTop (mkF m (pc + 3) Ls (.ref b :: S))) P) : Go p e below (T.setTop (mkF m pc Ls S)) P := by
  obtain ⟨T', h', X', e', E', A', D', -, st⟩ := RoadKit.newO X hx hZ hown w wi wz eT (g := mkF m pc Ls S) rfl hd hc hl
  exact Go.st st (K T' h' _ X' e' E' rfl A' D')
theorem initO (X : Stand p l e R s m args below meth c T locs cells slots) (hx : p.tables.exec = Jvm.exec) (hZ : Z.Warmed39 s.vm) {own : String} {index : Nat} (hown : s.vm.findClass own = some m.cls) (w1 : (Cond.methodLink own index Lib.objectInit).before a0 Z = true) (w2 : (Cond.instanceMethod Lib.objectInit).before a0 Z = true) (w3 : (Cond.code Lib.objectInit ⟨#[0xb1]⟩ 1 none).before a0 Z = true) (eT : T.heap = h) (hsize : Ls.size = c.maxLocals) {a : Addr} (hd : decode c.code pc = .ok (.invokespecial index, 3)) (hf : 1 ≤ R.frames) (hl : (S.map fun v => v.category).sum + 12 ≤ R.locals)
    (K : ∀ T', Stand p l e R s m args below meth c T' locs cells slots → T'.heap = h → Go p e below (T'.setTop (mkF m (pc + 3) Ls S)) P) : Go p e below (T.setTop (mkF m pc Ls (.ref a :: S))) P := by
  obtain ⟨T', X', e', st⟩ := RoadKit.initO X hx hZ hown w1 w2 w3 eT (g := mkF m pc Ls (.ref a :: S)) rfl hsize rfl hd hf (W := (S.map fun v => v.category).sum) (by show 2 * 0 + _ ≤ _; omega) hl
  exact Go.st st (K T' X' e')
theorem newP (X : Stand p l e R s m args below meth c T locs cells slots) (hx : p.tables.exec = Jvm.exec) (hZ : Z.Warmed39 s.vm) {aty : ArrayType} (w : (Cond.arrayClass (newarray.typeOf aty)).before a0 Z = true) (eT : T.heap = h) {n : Int32} (hd : decode c.code pc = .ok (.newarray aty, 2)) (hn : ¬ n < 0) {cap : Nat} (hcap : n.toNatClampNeg ≤ cap) (hb : cap * 8 ≤ 536870912) (hc : cells + 1 ≤ R.cells) (hl : slots + cap ≤ R.slots) {ad : String} (had : "[" ++ (newarray.typeOf aty).toString = ad)
    (K : ∀ T' h' b k, Stand p l e R s m args below meth c T' locs (cells + 1) (slots + cap) → T'.heap = h' → Ext h h' → b = h.size → Arf Z h' b k (newarray.typeOf aty) n (fun _ => defaultValue (newarray.typeOf aty)) → Exa Z h' b ad → Go p e below (T'.setTop (mkF m (pc + 2) Ls (.ref b :: S))) P) : Go p e below (T.setTop (mkF m pc Ls (.int n :: S))) P := by
  obtain ⟨T', h', k, X', e', E', A', B', st⟩ := newPE X hx hZ w eT (g := mkF m pc Ls (.int n :: S)) rfl hd rfl hn hcap hb hc hl had
  exact Go.st st (K T' h' _ k X' e' E' rfl (Arf.new A' hn) B')
theorem newR (X : Stand p l e R s m args below meth c T locs cells slots) (hx : p.tables.exec = Jvm.exec) (hZ : Z.Warmed39 s.vm) {own : String} {index : Nat} (hown : s.vm.findClass own = some m.cls) {C : String} (w1 : (Cond.classLink own index C).before a0 Z = true) (w2 : (Cond.arrayOver (.object C)).before a0 Z = true) (eT : T.heap = h) {n : Int32} (hd : decode c.code pc = .ok (.anewarray index, 3)) (hn : ¬ n < 0) {cap : Nat} (hcap : n.toNatClampNeg ≤ cap) (hb : cap * 8 ≤ 536870912) (hc : cells + 1 ≤ R.cells) (hl : slots + cap ≤ R.slots) {ad : String} (had : "[" ++ (FieldType.object C).toString = ad)
    (K : ∀ T' h' b k, Stand p l e R s m args below meth c T' locs (cells + 1) (slots + cap) → T'.heap = h' → Ext h h' → b = h.size → Arf Z h' b k (.object C) n (fun _ => .null) → Exa Z h' b ad → Ovr Z k C → Go p e below (T'.setTop (mkF m (pc + 3) Ls (.ref b :: S))) P) : Go p e below (T.setTop (mkF m pc Ls (.int n :: S))) P := by
  obtain ⟨T', h', k, X', e', E', A', B', O', st⟩ := newRE X hx hZ hown w1 w2 eT (g := mkF m pc Ls (.int n :: S)) rfl hd rfl hn hcap hb hc hl had
  exact Go.st st (K T' h' _ k X' e' E' rfl (Arf.new A' hn) B' O')
theorem iastore (X : Stand p l e R s m args below meth c T locs cells slots) (hx : p.tables.exec = Jvm.exec) (hZ : Z.Warmed39 s.vm) (eT : T.heap = h) {a : Addr} {k : ClassId} {n : Int32} {f : Nat → Value} (F : Arf Z h a k .int n f) {j x : Int32} (i : Nat) (hji : j.toNatClampNeg = i) (hj : ¬ j < 0 ∧ j < n) (v : Value) (hv : .int x = v) (hd : decode c.code pc = .ok (.iastore, 1))
    (K : ∀ T' h', Stand p l e R s m args below meth c T' (locs ++ [⟨a, j.toNatClampNeg⟩]) cells slots → T'.heap = h' → Wr h h' a j.toNatClampNeg v → Arf Z h' a k .int n (upd f i v) → Go p e below (T'.setTop (mkF m (pc + 1) Ls S)) P) : Go p e below (T.setTop (mkF m pc Ls (.int x :: .int j :: .ref a :: S))) P := by
  obtain ⟨cl, A, q, S', q3, H', G'⟩ := F
  have hin := inb_of S' hj
  obtain ⟨T', h', X', e', W', st⟩ := RoadKit.stI X hx hZ eT A (j := j) hin (g := mkF m pc Ls (.int x :: .int j :: .ref a :: S)) rfl rfl hd
  subst hv
  exact Go.st st (K T' h' X' e' W' (Arf.set A q S' q3 H' G' rfl W' i hji hin))
theorem castore (X : Stand p l e R s m args below meth c T locs cells slots) (hx : p.tables.exec = Jvm.exec) (hZ : Z.Warmed39 s.vm) (eT : T.heap = h) {a : Addr} {k : ClassId} {n : Int32} {f : Nat → Value} (F : Arf Z h a k .char n f) {j x : Int32} (i : Nat) (hji : j.toNatClampNeg = i) (hj : ¬ j < 0 ∧ j < n) (v : Value) (hv : .int (nar .char x) = v) (hd : decode c.code pc = .ok (.castore, 1))
    (K : ∀ T' h', Stand p l e R s m args below meth c T' (locs ++ [⟨a, j.toNatClampNeg⟩]) cells slots → T'.heap = h' → Wr h h' a j.toNatClampNeg v → Arf Z h' a k .char n (upd f i v) → Go p e below (T'.setTop (mkF m (pc + 1) Ls S)) P) : Go p e below (T.setTop (mkF m pc Ls (.int x :: .int j :: .ref a :: S))) P := by
  obtain ⟨cl, A, q, S', q3, H', G'⟩ := F
  have hin := inb_of S' hj
  obtain ⟨T', h', X', e', W', st⟩ := RoadKit.stC X hx hZ eT A (j := j) hin (g := mkF m pc Ls (.int x :: .int j :: .ref a :: S)) rfl rfl hd
  subst hv
  exact Go.st st (K T' h' X' e' W' (Arf.set A q S' q3 H' G' (fits_nar_char _) W' i hji hin))
theorem bastoreB (X : Stand p l e R s m args below meth c T locs cells slots) (hx : p.tables.exec = Jvm.exec) (hZ : Z.Warmed39 s.vm) (eT : T.heap = h) {a : Addr} {k : ClassId} {n : Int32} {f : Nat → Value} (F : Arf Z h a k .byte n f) {j x : Int32} (i : Nat) (hji : j.toNatClampNeg = i) (hj : ¬ j < 0 ∧ j < n) (v : Value) (hv : .int (nar .byte x) = v) (hd : decode c.code pc = .ok (.bastore, 1))
    (K : ∀ T' h', Stand p l e R s m args below meth c T' (locs ++ [⟨a, j.toNatClampNeg⟩]) cells slots → T'.heap = h' → Wr h h' a j.toNatClampNeg v → Arf Z h' a k .byte n (upd f i v) → Go p e below (T'.setTop (mkF m (pc + 1) Ls S)) P) : Go p e below (T.setTop (mkF m pc Ls (.int x :: .int j :: .ref a :: S))) P := by
  obtain ⟨cl, A, q, S', q3, H', G'⟩ := F
  have hin := inb_of S' hj
  obtain ⟨T', h', X', e', W', st⟩ := RoadKit.stB X hx hZ eT A (j := j) hin (g := mkF m pc Ls (.int x :: .int j :: .ref a :: S)) rfl rfl hd
  subst hv
  exact Go.st st (K T' h' X' e' W' (Arf.set A q S' q3 H' G' (fits_nar_byte _) W' i hji hin))
theorem bastoreZ (X : Stand p l e R s m args below meth c T locs cells slots) (hx : p.tables.exec = Jvm.exec) (hZ : Z.Warmed39 s.vm) (eT : T.heap = h) {a : Addr} {k : ClassId} {n : Int32} {f : Nat → Value} (F : Arf Z h a k .boolean n f) {j x : Int32} (i : Nat) (hji : j.toNatClampNeg = i) (hj : ¬ j < 0 ∧ j < n) (v : Value) (hv : .int (nar .boolean x) = v) (hd : decode c.code pc = .ok (.bastore, 1))
    (K : ∀ T' h', Stand p l e R s m args below meth c T' (locs ++ [⟨a, j.toNatClampNeg⟩]) cells slots → T'.heap = h' → Wr h h' a j.toNatClampNeg v → Arf Z h' a k .boolean n (upd f i v) → Go p e below (T'.setTop (mkF m (pc + 1) Ls S)) P) : Go p e below (T.setTop (mkF m pc Ls (.int x :: .int j :: .ref a :: S))) P := by
  obtain ⟨cl, A, q, S', q3, H', G'⟩ := F
  have hin := inb_of S' hj
  obtain ⟨T', h', X', e', W', st⟩ := RoadKit.stZ X hx hZ eT A (j := j) hin (g := mkF m pc Ls (.int x :: .int j :: .ref a :: S)) rfl rfl hd
  subst hv
  exact Go.st st (K T' h' X' e' W' (Arf.set A q S' q3 H' G' (fits_nar_bool _) W' i hji hin))
theorem aastore (X : Stand p l e R s m args below meth c T locs cells slots) (hx : p.tables.exec = Jvm.exec) (hZ : Z.Warmed39 s.vm) (eT : T.heap = h) {a : Addr} {k : ClassId} {ty : FieldType} {n : Int32} {f : Nat → Value} (F : Arf Z h a k ty n f) {j : Int32} {v : Value} (i : Nat) (hji : j.toNatClampNeg = i) (hj : ¬ j < 0 ∧ j < n) (hty : ty.isReference = true) (hfit : fits ty v = true) (hst : v = .null ∨ ∃ y C, v = .ref y ∧ Ovr Z k C ∧ Ins Z h y C true) (hd : decode c.code pc = .ok (.aastore, 1))
    (K : ∀ T' h', Stand p l e R s m args below meth c T' (locs ++ [⟨a, j.toNatClampNeg⟩]) cells slots → T'.heap = h' → Wr h h' a j.toNatClampNeg v → Arf Z h' a k ty n (upd f i v) → Go p e below (T'.setTop (mkF m (pc + 1) Ls S)) P) : Go p e below (T.setTop (mkF m pc Ls (v :: .int j :: .ref a :: S))) P := by
  obtain ⟨cl, A, q, S', q3, H', G'⟩ := F
  have hin := inb_of S' hj
  have sto : Sto Z h a v := by
    rcases hst with rfl | ⟨y, C, rfl, O, I⟩
    · exact Or.inl rfl
    · exact Sto.ofV A q O I
  obtain ⟨T', h', X', e', W', st⟩ := stR X hx hZ eT A (j := j) hin hty sto (g := mkF m pc Ls (v :: .int j :: .ref a :: S)) rfl rfl hd
  exact Go.st st (K T' h' X' e' W' (Arf.set A q S' q3 H' G' hfit W' i hji hin))
theorem iaload (X : Stand p l e R s m args below meth c T locs cells slots) (hx : p.tables.exec = Jvm.exec) (hZ : Z.Warmed39 s.vm) (eT : T.heap = h) {a : Addr} {k : ClassId} {n : Int32} {f : Nat → Value} (F : Arf Z h a k .int n f) {j : Int32} (hj : ¬ j < 0 ∧ j < n) (v : Value) (hv : f j.toNatClampNeg = v) (hd : decode c.code pc = .ok (.iaload, 1)) (K : Go p e below (T.setTop (mkF m (pc + 1) Ls (v :: S))) P) : Go p e below (T.setTop (mkF m pc Ls (.int j :: .ref a :: S))) P := by
  obtain ⟨cl, A, q, S', q3, H', G'⟩ := F
  have hin := inb_of S' hj
  exact Go.st (X.iaload hx (j := j) (v := v) (by rw [eT]; exact A.1) (State.isArrayOf_alike hZ.alike A.2.1) A.2.2 hin ((H' _ (Nat.lt_of_not_le fun q_ => hin (Or.inr q_))).trans (congrArg some hv)) (g := mkF m pc Ls (.int j :: .ref a :: S)) rfl rfl hd) K
theorem caload (X : Stand p l e R s m args below meth c T locs cells slots) (hx : p.tables.exec = Jvm.exec) (hZ : Z.Warmed39 s.vm) (eT : T.heap = h) {a : Addr} {k : ClassId} {n : Int32} {f : Nat → Value} (F : Arf Z h a k .char n f) {j : Int32} (hj : ¬ j < 0 ∧ j < n) (v : Value) (hv : f j.toNatClampNeg = v) (hd : decode c.code pc = .ok (.caload, 1)) (K : Go p e below (T.setTop (mkF m (pc + 1) Ls (v :: S))) P) : Go p e below (T.setTop (mkF m pc Ls (.int j :: .ref a :: S))) P := by
  obtain ⟨cl, A, q, S', q3, H', G'⟩ := F
  have hin := inb_of S' hj
  exact Go.st (X.caload hx (j := j) (v := v) (by rw [eT]; exact A.1) (State.isArrayOf_alike hZ.alike A.2.1) A.2.2 hin ((H' _ (Nat.lt_of_not_le fun q_ => hin (Or.inr q_))).trans (congrArg some hv)) (g := mkF m pc Ls (.int j :: .ref a :: S)) rfl rfl hd) K
theorem baloadB (X : Stand p l e R s m args below meth c T locs cells slots) (hx : p.tables.exec = Jvm.exec) (hZ : Z.Warmed39 s.vm) (eT : T.heap = h) {a : Addr} {k : ClassId} {n : Int32} {f : Nat → Value} (F : Arf Z h a k .byte n f) {j : Int32} (hj : ¬ j < 0 ∧ j < n) (v : Value) (hv : f j.toNatClampNeg = v) (hd : decode c.code pc = .ok (.baload, 1)) (K : Go p e below (T.setTop (mkF m (pc + 1) Ls (v :: S))) P) : Go p e below (T.setTop (mkF m pc Ls (.int j :: .ref a :: S))) P := by
  obtain ⟨cl, A, q, S', q3, H', G'⟩ := F
  have hin := inb_of S' hj
  exact Go.st (X.baloadBytes hx (j := j) (v := v) (by rw [eT]; exact A.1) (State.isArrayOf_alike hZ.alike A.2.1) A.2.2 hin ((H' _ (Nat.lt_of_not_le fun q_ => hin (Or.inr q_))).trans (congrArg some hv)) (g := mkF m pc Ls (.int j :: .ref a :: S)) rfl rfl hd) K
theorem baloadZ (X : Stand p l e R s m args below meth c T locs cells slots) (hx : p.tables.exec = Jvm.exec) (hZ : Z.Warmed39 s.vm) (eT : T.heap = h) {a : Addr} {k : ClassId} {n : Int32} {f : Nat → Value} (F : Arf Z h a k .boolean n f) {j : Int32} (hj : ¬ j < 0 ∧ j < n) (v : Value) (hv : f j.toNatClampNeg = v) (hd : decode c.code pc = .ok (.baload, 1)) (K : Go p e below (T.setTop (mkF m (pc + 1) Ls (v :: S))) P) : Go p e below (T.setTop (mkF m pc Ls (.int j :: .ref a :: S))) P := by
  obtain ⟨cl, A, q, S', q3, H', G'⟩ := F
  have hin := inb_of S' hj
  exact Go.st (X.baloadBooleans hx (j := j) (v := v) (by rw [eT]; exact A.1) (State.isArrayOf_alike hZ.alike A.2.1) A.2.2 hin ((H' _ (Nat.lt_of_not_le fun q_ => hin (Or.inr q_))).trans (congrArg some hv)) (g := mkF m pc Ls (.int j :: .ref a :: S)) rfl rfl hd) K
theorem aaload (X : Stand p l e R s m args below meth c T locs cells slots) (hx : p.tables.exec = Jvm.exec) (hZ : Z.Warmed39 s.vm) (eT : T.heap = h) {a : Addr} {k : ClassId} {ty : FieldType} {n : Int32} {f : Nat → Value} (F : Arf Z h a k ty n f) {j : Int32} (hty : ty.isReference = true) (hj : ¬ j < 0 ∧ j < n) (v : Value) (hv : f j.toNatClampNeg = v) (hd : decode c.code pc = .ok (.aaload, 1)) (K : Go p e below (T.setTop (mkF m (pc + 1) Ls (v :: S))) P) : Go p e below (T.setTop (mkF m pc Ls (.int j :: .ref a :: S))) P := by
  obtain ⟨cl, A, q, S', q3, H', G'⟩ := F
  have hin := inb_of S' hj
  exact Go.st (X.aaload hx (j := j) (v := v) (by rw [eT]; exact A.1) (State.isArrayOf_alike hZ.alike A.2.1) hty A.2.2 hin ((H' _ (Nat.lt_of_not_le fun q_ => hin (Or.inr q_))).trans (congrArg some hv)) (g := mkF m pc Ls (.int j :: .ref a :: S)) rfl rfl hd) K
theorem alen (X : Stand p l e R s m args below meth c T locs cells slots) (hx : p.tables.exec = Jvm.exec) (hZ : Z.Warmed39 s.vm) (eT : T.heap = h) {a : Addr} {k : ClassId} {ty : FieldType} {n : Int32} {f : Nat → Value} (F : Arf Z h a k ty n f) (hd : decode c.code pc = .ok (.arraylength, 1)) (K : Go p e below (T.setTop (mkF m (pc + 1) Ls (.int n :: S))) P) : Go p e below (T.setTop (mkF m pc Ls (.ref a :: S))) P := by
  obtain ⟨cl, A, q, S', q3, H', G'⟩ := F
  have K' := K
  rw [← len_of S' q3] at K'
  exact Go.st (X.arraylength hx (by rw [eT]; exact A.1) (State.isArrayOf_alike hZ.alike A.2.1) (g := mkF m pc Ls (.ref a :: S)) rfl rfl hd) K'
theorem castY (X : Stand p l e R s m args below meth c T locs cells slots) (hx : p.tables.exec = Jvm.exec) (hZ : Z.Warmed39 s.vm) {own : String} {index : Nat} (hown : s.vm.findClass own = some m.cls) {K0 : String} (w : (Cond.classLink own index K0).before a0 Z = true) (eT : T.heap = h) {a : Addr} (F : Ins Z h a K0 true) (hd : decode c.code pc = .ok (.checkcast index, 3)) (K : ∀ T', Stand p l e R s m args below meth c T' locs cells slots → T'.heap = h → Go p e below (T'.setTop (mkF m (pc + 3) Ls (.ref a :: S))) P) : Go p e below (T.setTop (mkF m pc Ls (.ref a :: S))) P := by
  obtain ⟨T', X', e', st⟩ := RoadKit.castY X hx hZ hown w eT F (g := mkF m pc Ls (.ref a :: S)) rfl rfl hd
  exact Go.st st (K T' X' e')
theorem clone (X : Stand p l e R s m args below meth c T locs cells slots) (hx : p.tables.exec = Jvm.exec) (hZ : Z.Warmed39 s.vm) {own : String} {index : Nat} (hown : s.vm.findClass own = some m.cls) {ad : String} (w1 : (Cond.methodLink own index ⟨ad, "clone", "()Ljava/lang/Object;"⟩).before a0 Z = true) (w2 : (Cond.sameMethod ad "java/lang/Object" "clone" "()Ljava/lang/Object;").before a0 Z = true) (w3 : (Cond.native ⟨"java/lang/Object", "clone", "()Ljava/lang/Object;"⟩).before a0 Z = true) (w4 : (Cond.instanceMethod ⟨"java/lang/Object", "clone", "()Ljava/lang/Object;"⟩).before a0 Z = true) (w5 : (Cond.selects ad ⟨ad, "clone", "()Ljava/lang/Object;"⟩ ⟨"java/lang/Object", "clone", "()Ljava/lang/Object;"⟩).before a0 Z = true) (w6 : (Cond.castable ad "java/lang/Cloneable").before a0 Z = true)
    (eT : T.heap = h) {a : Addr} {k : ClassId} {ty : FieldType} {n : Int32} {f : Nat → Value} (F : Arf Z h a k ty n f) (E : Exa Z h a ad) (hsize : Ls.size = c.maxLocals) (hd : decode c.code pc = .ok (.invokevirtual index, 3)) (hf : 1 ≤ R.frames) {cap : Nat} (hl : (S.map fun v => v.category).sum + 14 ≤ R.locals) (hcap : n.toNatClampNeg ≤ cap) (hc : cells + 1 ≤ R.cells) (hsl : slots + cap ≤ R.slots)
    (K : ∀ T' h' b, Stand p l e R s m args below meth c T' locs (cells + 1) (slots + cap) → T'.heap = h' → Ext h h' → b = h.size → Arf Z h' b k ty n f → Exa Z h' b ad → Go p e below (T'.setTop (mkF m (pc + 3) Ls (.ref b :: S))) P) : Go p e below (T.setTop (mkF m pc Ls (.ref a :: S))) P := by
  obtain ⟨T', h', X', e', E', A', B', st⟩ := cloneH X hx hZ hown w1 w2 w3 w4 w5 w6 eT (Arv.arh (Arf.arv F .null)) E (g := mkF m pc Ls (.ref a :: S)) rfl hsize rfl hd hf (W := (S.map fun v => v.category).sum) (by show 2 * 0 + _ ≤ _; omega) hl hcap hc hsl
  exact Go.st st (K T' h' _ X' e' E' rfl (Arf.ofArv (show Arv Z h' h.size k ty n ((List.range n.toNatClampNeg).map f) .null from A') fun i hi => own_mapD f .null _ i hi) B')
theorem copy (X : Stand p l e R s m args below meth c T locs cells slots) (hx : p.tables.exec = Jvm.exec) (hZ : Z.Warmed39 s.vm) {own : String} {index : Nat} (hown : s.vm.findClass own = some m.cls) (w1 : (Cond.methodLink own index Jvm.Stand.acN).before a0 Z = true) (w2 : (Cond.native Jvm.Stand.acN).before a0 Z = true) (w3 : (Cond.static Jvm.Stand.acN).before a0 Z = true) (w4 : (Cond.initialized "java/lang/System").before a0 Z = true) (eT : T.heap = h)
    {a b : Addr} {k k' : ClassId} {ty : FieldType} {n n' sp dp nn : Int32} {f g : Nat → Value} (A : Arf Z h a k ty n f) (B : Arf Z h b k' ty n' g) (hty : refKind ty = false) (h1 : ¬ sp < 0) (h2 : ¬ dp < 0) (h3 : ¬ nn < 0) (h4 : sp.toNatClampNeg + nn.toNatClampNeg ≤ n.toNatClampNeg) (h5 : dp.toNatClampNeg + nn.toNatClampNeg ≤ n'.toNatClampNeg) {n0 : Nat} (N : Fr n0 locs) (ge : n0 ≤ b) (g' : Nat → Value) (hg' : ∀ i, i < n'.toNatClampNeg → (if dp.toNatClampNeg ≤ i ∧ i < dp.toNatClampNeg + nn.toNatClampNeg then f (sp.toNatClampNeg + (i - dp.toNatClampNeg)) else g i) = g' i)
    (hsize : Ls.size = c.maxLocals) (hd : decode c.code pc = .ok (.invokestatic index, 3)) (hf : 1 ≤ R.frames) (hlo : (S.map fun v => v.category).sum + (nativeFrameWords "java/lang/System" "arraycopy" 5 + 11) ≤ R.locals)
    (K : ∀ T' h' L, Stand p l e R s m args below meth c T' L cells slots → T'.heap = h' → Fr n0 L → Keep h h' [b] → Arf Z h' b k' ty n' g' → Go p e below (T'.setTop (mkF m (pc + 3) Ls S)) P) : Go p e below (T.setTop (mkF m pc Ls (.int nn :: .int dp :: .ref b :: .int sp :: .ref a :: S))) P := by
  obtain ⟨T', h', L, X', e', N', K', V', st⟩ := cpF X hx hZ hown w1 w2 w3 w4 eT A B hty h1 h2 h3 h4 h5 N ge (g := mkF m pc Ls (.int nn :: .int dp :: .ref b :: .int sp :: .ref a :: S)) rfl hsize rfl hd hf (W := (S.map fun v => v.category).sum) (by show 2 * 0 + _ ≤ _; omega) hlo
  exact Go.st st (K T' h' L X' e' N' K' (Arf.same V' hg'))
theorem callS (X : Stand p l e R s m args below meth c T locs cells slots) (hx : p.tables.exec = Jvm.exec) (hZ : Z.Warmed39 s.vm) {own : String} {index : Nat} (hown : s.vm.findClass own = some m.cls) {y : MethodName} {bytes : ByteArray} {maxL : Nat} {ret : Option FieldType} {rm : Room} {as' : Array Value} {Q : Option Value → Heap → List Loc → Prop} {ps : List FieldType} {r : Option FieldType} {argsL : List Value} (hM : MetFree l y (head1 [Cond.code y bytes maxL ret] rm) (fun a U => a = as' ∧ Z.Warmed39 U.vm ∧ U.heap = h) (fun _ _ _ _ _ => True) (fun _ U o U' => ∃ v L, o = .returned v ∧ Q v U'.heap L ∧ FrameEnd U o U' L rm.cells rm.slots)) (wl : (Cond.methodLink own index y).before a0 Z = true) (ws : (Cond.static y).before a0 Z = true) (wi : (Cond.initialized y.cls).before a0 Z = true) (wc : (Cond.code y bytes maxL ret).before a0 Z = true) (hy : y.cls ≠ "java/lang/invoke/MethodHandle" ∧ y.cls ≠ "java/lang/invoke/VarHandle") (eT : T.heap = h) (hpd : parseMethodDescriptor y.desc = some ⟨ps, r⟩) (hlen : argsL.length = ps.length) (has : argsL.toArray = as') (hfr : rm.frames + 1 ≤ R.frames) (hlo : (S.map fun v => v.category).sum + (maxL + 11) + rm.locals ≤ R.locals) (hc : cells + rm.cells ≤ R.cells) (hs : slots + rm.slots ≤ R.slots) (hsize : Ls.size = c.maxLocals) {st0 : List Value} (hst : st0 = argsL.reverse ++ S) (hd : decode c.code pc = .ok (.invokestatic index, 3))
    (K : ∀ T' Lc v, Stand p l e R s m args below meth c T' (locs ++ Lc) (cells + rm.cells) (slots + rm.slots) → Q v T'.heap Lc → Go p e below (T'.setTop (mkF m (pc + 3) Ls (v.toList ++ S))) P) : Go p e below (T.setTop (mkF m pc Ls st0)) P := by
  subst hst
  obtain ⟨v, _, ⟨T', L', k', n'⟩, -, X', ⟨Lc, hQ, l', k', n'⟩, st⟩ := Jvm.LawKit.callS X hx (y := y) hown (mvT hZ wl) (mvT hZ ws) (mvT hZ wi) (mvT hZ wc) hy (backOf (W := (S.map fun v => v.category).sum) hM hZ wc wi hfr hlo) (g := mkF m pc Ls (argsL.reverse ++ S)) rfl hsize (argsL := argsL) (rest := S) (lenOf hpd hlen) rfl (by show 2 * 0 + _ ≤ _; omega) hd (fun _ _ => ⟨has, eT, hc, hs⟩)
  dsimp only [Pt.U, Pt.locs, Pt.cells, Pt.slots] at X' l' k' n' st hQ
  subst l' k' n'
  exact Go.st st (K T' Lc v X' hQ)
theorem callV (X : Stand p l e R s m args below meth c T locs cells slots) (hx : p.tables.exec = Jvm.exec) (hZ : Z.Warmed39 s.vm) {own : String} {index : Nat} (hown : s.vm.findClass own = some m.cls) {y : MethodName} {bytes : ByteArray} {maxL : Nat} {ret : Option FieldType} {rm : Room} {as' : Array Value} {Q : Option Value → Heap → List Loc → Prop} {ps : List FieldType} {r : Option FieldType} {argsL : List Value} {z : MethodName} {C : String} (hM : MetFree l y (head1 [Cond.code y bytes maxL ret] rm) (fun a U => a = as' ∧ Z.Warmed39 U.vm ∧ U.heap = h) (fun _ _ _ _ _ => True) (fun _ U o U' => ∃ v L, o = .returned v ∧ Q v U'.heap L ∧ FrameEnd U o U' L rm.cells rm.slots)) (wl : (Cond.methodLink own index z).before a0 Z = true) (wd : (Cond.declares z).before a0 Z = true) (hnf : NotFace s z) (wsel : (Cond.selects C z y).before a0 Z = true) (wi : (Cond.instanceMethod y).before a0 Z = true) (hy : z.cls ≠ "java/lang/invoke/MethodHandle" ∧ z.cls ≠ "java/lang/invoke/VarHandle") (wc : (Cond.code y bytes maxL ret).before a0 Z = true) (wz : (Cond.initialized y.cls).before a0 Z = true) (eT : T.heap = h) {o : Addr} (E : Exa Z h o C) (hpd : parseMethodDescriptor z.desc = some ⟨ps, r⟩) (hlen : argsL.length = ps.length) (has : (.ref o :: argsL).toArray = as') (hfr : rm.frames + 1 ≤ R.frames) (hlo : (S.map fun v => v.category).sum + (maxL + 11) + rm.locals ≤ R.locals) (hc : cells + rm.cells ≤ R.cells) (hs : slots + rm.slots ≤ R.slots) (hsize : Ls.size = c.maxLocals) {st0 : List Value} (hst : st0 = argsL.reverse ++ .ref o :: S) (hd : decode c.code pc = .ok (.invokevirtual index, 3))
    (K : ∀ T' Lc v, Stand p l e R s m args below meth c T' (locs ++ Lc) (cells + rm.cells) (slots + rm.slots) → Q v T'.heap Lc → Go p e below (T'.setTop (mkF m (pc + 3) Ls (v.toList ++ S))) P) : Go p e below (T.setTop (mkF m pc Ls st0)) P := by
  subst hst
  obtain ⟨cq, kq, qa, qb, qc⟩ := isOf hZ eT E
  obtain ⟨v, _, ⟨T', L', k', n'⟩, -, X', ⟨Lc, hQ, l', k', n'⟩, st⟩ := X.virtualBack hx (y := z) (z := y) hown (mvT hZ wl) (mvT hZ wd) hnf (mvT hZ wsel) (mvT hZ wi) hy (backOf (W := (S.map fun v => v.category).sum) hM hZ wc wz hfr hlo) qa qc (g := mkF m pc Ls (argsL.reverse ++ .ref o :: S)) rfl hsize (Steps.refl _) (argsL := argsL) (rest := S) (lenOf hpd hlen) rfl (by show 2 * 0 + _ ≤ _; omega) hd (fun _ _ => ⟨has, eT, hc, hs⟩)
  dsimp only [Pt.U, Pt.locs, Pt.cells, Pt.slots] at X' l' k' n' st hQ
  subst l' k' n'
  exact Go.tr st (K T' Lc v X' hQ)
theorem callI (X : Stand p l e R s m args below meth c T locs cells slots) (hx : p.tables.exec = Jvm.exec) (hZ : Z.Warmed39 s.vm) {own : String} {index : Nat} (hown : s.vm.findClass own = some m.cls) {y : MethodName} {bytes : ByteArray} {maxL : Nat} {ret : Option FieldType} {rm : Room} {as' : Array Value} {Q : Option Value → Heap → List Loc → Prop} {ps : List FieldType} {r : Option FieldType} {argsL : List Value} (hM : MetFree l y (head1 [Cond.code y bytes maxL ret] rm) (fun a U => a = as' ∧ Z.Warmed39 U.vm ∧ U.heap = h) (fun _ _ _ _ _ => True) (fun _ U o U' => ∃ v L, o = .returned v ∧ Q v U'.heap L ∧ FrameEnd U o U' L rm.cells rm.slots)) (hyi : y.name = "<init>") (wl : (Cond.methodLink own index y).before a0 Z = true) (wi : (Cond.instanceMethod y).before a0 Z = true) (wc : (Cond.code y bytes maxL none).before a0 Z = true) (hret : ret = none) (hy : y.cls ≠ "java/lang/invoke/MethodHandle" ∧ y.cls ≠ "java/lang/invoke/VarHandle") (wz : (Cond.initialized y.cls).before a0 Z = true) (eT : T.heap = h) {o : Addr} (hpd : parseMethodDescriptor y.desc = some ⟨ps, r⟩) (hlen : argsL.length = ps.length) (has : (.ref o :: argsL).toArray = as') (hfr : rm.frames + 1 ≤ R.frames) (hlo : (S.map fun v => v.category).sum + (maxL + 11) + rm.locals ≤ R.locals) (hc : cells + rm.cells ≤ R.cells) (hs : slots + rm.slots ≤ R.slots) (hsize : Ls.size = c.maxLocals) {st0 : List Value} (hst : st0 = argsL.reverse ++ .ref o :: S) (hd : decode c.code pc = .ok (.invokespecial index, 3))
    (K : ∀ T' Lc v, Stand p l e R s m args below meth c T' (locs ++ Lc) (cells + rm.cells) (slots + rm.slots) → Q v T'.heap Lc → Go p e below (T'.setTop (mkF m (pc + 3) Ls (v.toList ++ S))) P) : Go p e below (T.setTop (mkF m pc Ls st0)) P := by
  subst hst hret
  obtain ⟨v, _, ⟨T', L', k', n'⟩, -, X', ⟨Lc, hQ, l', k', n'⟩, st⟩ := X.specialBack hx (y := y) hyi hown (mvT hZ wl) (mvT hZ wi) (mvT hZ wc) hy (backOf (W := (S.map fun v => v.category).sum) hM hZ wc wz hfr hlo) (g := mkF m pc Ls (argsL.reverse ++ .ref o :: S)) rfl hsize (Steps.refl _) (a := o) (argsL := argsL) (rest := S) (lenOf hpd hlen) rfl (by show 2 * 0 + _ ≤ _; omega) hd (fun _ _ => ⟨has, eT, hc, hs⟩)
  dsimp only [Pt.U, Pt.locs, Pt.cells, Pt.slots] at X' l' k' n' st hQ
  subst l' k' n'
  exact Go.tr st (K T' Lc v X' hQ)
theorem selPriv {st : State} {as : Array Value} {y : MethodName} {n : Nat} (hy : y.cls ≠ "java/lang/invoke/MethodHandle" ∧ y.cls ≠ "java/lang/invoke/VarHandle") (hins : (Cond.instantiable y.cls n).before as st = true) (hpriv : (Cond.privateMethod y).before as st = true) (hinst : (Cond.instanceMethod y).before as st = true) : (Cond.selects y.cls y y).before as st = true := by
  obtain ⟨c, k, hc, hk, -, hniab, -, -⟩ := Cond.instantiable_spec hins
  have hni : k.isInterface = false := (Bool.or_eq_false_iff.mp hniab).1
  obtain ⟨mk, methM, hnamed, hmethM, -, -⟩ := Cond.instanceMethod_spec hinst
  have hfound : st.methodFound? y.cls y.name y.desc = some mk := State.methodFound?_of_named hnamed hy
  have hcls : mk.cls = c := Option.some.inj ((findClass_of_methodNamed hnamed).symm.trans hc)
  have hsel : selectMethod {} st.vm c mk = .method mk := selectMethod_private hmethM (Cond.privateMethod_at hpriv mk methM hnamed hmethM)
  simp only [Cond.before, Cond.holds, Cond.value, hc, hfound, hnamed, hsel, hcls, hk]
  simp; exact hni
theorem callP (X : Stand p l e R s m args below meth c T locs cells slots) (hx : p.tables.exec = Jvm.exec) (hZ : Z.Warmed39 s.vm) {own : String} {index : Nat} (hown : s.vm.findClass own = some m.cls) {y : MethodName} {bytes : ByteArray} {maxL : Nat} {ret : Option FieldType} {rm : Room} {as' : Array Value} {Q : Option Value → Heap → List Loc → Prop} {ps : List FieldType} {r : Option FieldType} {argsL : List Value} {C : String} {kk : Nat} (hM : MetFree l y (head1 [Cond.code y bytes maxL ret] rm) (fun a U => a = as' ∧ Z.Warmed39 U.vm ∧ U.heap = h) (fun _ _ _ _ _ => True) (fun _ U o U' => ∃ v L, o = .returned v ∧ Q v U'.heap L ∧ FrameEnd U o U' L rm.cells rm.slots)) (wl : (Cond.methodLink own index y).before a0 Z = true) (wi : (Cond.instanceMethod y).before a0 Z = true) (wn : (Cond.instantiable y.cls kk).before a0 Z = true) (wp : (Cond.privateMethod y).before a0 Z = true) (hy : y.cls ≠ "java/lang/invoke/MethodHandle" ∧ y.cls ≠ "java/lang/invoke/VarHandle") (wc : (Cond.code y bytes maxL ret).before a0 Z = true) (wz : (Cond.initialized y.cls).before a0 Z = true) (eT : T.heap = h) {o : Addr} (E : Exa Z h o C) (hpd : parseMethodDescriptor y.desc = some ⟨ps, r⟩) (hlen : argsL.length = ps.length) (has : (.ref o :: argsL).toArray = as') (hfr : rm.frames + 1 ≤ R.frames) (hlo : (S.map fun v => v.category).sum + (maxL + 11) + rm.locals ≤ R.locals) (hc : cells + rm.cells ≤ R.cells) (hs : slots + rm.slots ≤ R.slots) (hsize : Ls.size = c.maxLocals) {st0 : List Value} (hst : st0 = argsL.reverse ++ .ref o :: S) (hd : decode c.code pc = .ok (.invokevirtual index, 3))
    (K : ∀ T' Lc v, Stand p l e R s m args below meth c T' (locs ++ Lc) (cells + rm.cells) (slots + rm.slots) → Q v T'.heap Lc → Go p e below (T'.setTop (mkF m (pc + 3) Ls (v.toList ++ S))) P) : Go p e below (T.setTop (mkF m pc Ls st0)) P := by
  subst hst
  obtain ⟨cq, q1, q2⟩ := E.cell
  obtain ⟨v, _, ⟨T', L', k', n'⟩, -, X', ⟨Lc, hQ, l', k', n'⟩, st⟩ := X.privateBack hx (y := y) hown (mvT hZ wl) (mvT hZ wi) (mvT hZ (selPriv hy wn wp wi)) (Cond.privateMethod_at (mvP hZ wp (args := #[]))) (mvT hZ wc) hy (backOf (W := (S.map fun v => v.category).sum) hM hZ wc wz hfr hlo) (g := mkF m pc Ls (argsL.reverse ++ .ref o :: S)) rfl hsize (Steps.refl _) (a := o) (by rw [eT]; exact q1) q2 (argsL := argsL) (rest := S) (lenOf hpd hlen) rfl (by show 2 * 0 + _ ≤ _; omega) hd (fun _ _ => ⟨has, eT, hc, hs⟩)
  dsimp only [Pt.U, Pt.locs, Pt.cells, Pt.slots] at X' l' k' n' st hQ
  subst l' k' n'
  exact Go.tr st (K T' Lc v X' hQ)
theorem grid1 (X : Stand p l e R s m args below meth c T locs cells slots) (hx : p.tables.exec = Jvm.exec) (hZ : Z.Warmed39 s.vm) {own : String} {index : Nat} (hown : s.vm.findClass own = some m.cls) {C ad : String} {ty : FieldType} (hC : (FieldType.array ty).toString = C) (had : "[" ++ C = ad) (w1 : (Cond.classLink own index ad).before a0 Z = true) (w2 : (Cond.arrayOver (.array ty)).before a0 Z = true) (w3 : (Cond.arrayClass ty).before a0 Z = true) (eT : T.heap = h) {k : Int32} (hd : decode c.code pc = .ok (.multianewarray index 2, 4)) (hk : ¬ k < 0) {cap : Nat} (hcap : k.toNatClampNeg ≤ cap) (hb : cap * 8 ≤ 536870912) (hdf : fits ty (defaultValue ty) = true) (hdd : (defaultValue ty).isDefault = true) (hc : cells + (1 + 1) ≤ R.cells) (hl : slots + (1 + 1 * cap) ≤ R.slots)
    (K : ∀ T' h' b b1 cA comp, Stand p l e R s m args below meth c T' locs (cells + (1 + 1)) (slots + (1 + 1 * cap)) → T'.heap = h' → Ext h h' → b = h.size → b1 = h.size + 1 → Arf Z h' b cA (.array ty) (1 : Int32) (fun _ => .ref b1) → Arf Z h' b1 comp ty k (fun _ => defaultValue ty) → Exa Z h' b ad → Exa Z h' b1 C → OvrA Z cA ty C → Go p e below (T'.setTop (mkF m (pc + 4) Ls (.ref b :: S))) P) : Go p e below (T.setTop (mkF m pc Ls (.int k :: .int (1 : Int32) :: S))) P := by
  obtain ⟨T', h', cA, comp, X', e', E', V', O', B', I', st⟩ := gridM X hx hZ hown hC had w1 w2 w3 eT (g := mkF m pc Ls (.int k :: .int (1 : Int32) :: S)) rfl hd rfl (by decide) hk (xs := [h.size + 1]) (N := 1) rfl rfl hcap hb (by decide) hdf hdd hc hl
  obtain ⟨A1, B1⟩ := I' 0 (h.size + 1) rfl
  refine Go.st st (K T' h' _ _ cA comp X' e' E' rfl rfl (Arf.ofArv V' fun i hi => ?_) (Arf.new A1 hk) B' B1 O')
  have hi' : i < 1 := hi
  obtain rfl : i = 0 := by omega
  rfl
theorem dupX2 (X : Stand p l e R s m args below meth c T locs cells slots) (hx : p.tables.exec = Jvm.exec) {x y z : Value} (hd : decode c.code pc = .ok (.dup_x2, 1)) (h1 : x.category = 1) (h2 : y.category = 1) (h3 : z.category = 1) (K : Go p e below (T.setTop (mkF m (pc + 1) Ls (x :: y :: z :: x :: S))) P) : Go p e below (T.setTop (mkF m pc Ls (x :: y :: z :: S))) P := by
  refine Go.st (fun _ q_ => ?_) K
  show Steps p.tables e below (T.setTop { method := m, pc := pc, locals := Ls, stack := x :: y :: z :: S, locked := none }) _
  jvm_step X.here [X.here.top, hx, hd, h1, h2, h3]
  exact q_
theorem ldcS {vm0 : Vm} (X : Stand p l e R (s.setVm vm0) m args below meth c T locs cells slots) (hx : p.tables.exec = Jvm.exec) (hZ : Z.Warmed39 (s.setVm vm0).vm) {own text : String} {index : Nat} (hown : (s.setVm vm0).vm.findClass own = some m.cls) (w : (Cond.stringLink own index text).before a0 Z = true) (wS : ∀ a ∈ Bundle.stringAtoms, a.before a0 Z = true) (eT : T.heap = h) {k0 : Nat} (hS : s.Since vm0 k0) (hk : k0 ≤ h.size) (hd : decode c.code pc = .ok (.ldc index, 2)) {n : Nat} (hn : 4 * text.toList.length ≤ n) (hbig : n ≤ 536870912) (hc : cells + 2 ≤ R.cells) (hl : slots + (n + 4) ≤ R.slots)
    (K : ∀ a T' h' k1, Stand p l e R (s.setVm T'.vm) m args below meth c T' locs (cells + 2) (slots + (n + 4)) → T'.heap = h' → Ext h h' → s.Since T'.vm k1 → k1 ≤ h'.size → Z.Warmed39 (s.setVm T'.vm).vm → (s.setVm T'.vm).vm.findClass own = some m.cls → Go p e below (T'.setTop (mkF m (pc + 2) Ls (.ref a :: S))) P) : Go p e below (T.setTop (mkF m pc Ls S)) P := by
  obtain ⟨a, T', h', k1, X', e', E', S', q', Z', o', st⟩ := RoadKit.ldcS X hx hZ hown w wS eT hS hk (g := mkF m pc Ls S) rfl hd hn hbig hc hl
  exact Go.st st (K a T' h' k1 X' e' E' S' q' Z' o')
theorem finW {vm0 : Vm} (X : Stand p l e R (s.setVm vm0) m args below meth c T locs cells slots) (eT : T.heap = h) {k0 : Nat} (hS : s.Since vm0 k0) (hk : k0 ≤ h.size) {v : Option Value} (hv : meth.sig.returnType = none → v = none) (hlocks : meth.locks = false) {U : State}
    (st : ∀ fs, (∀ (f : JFrame) (acts : List Action), f.method = m → f.locked = none → f.entered = [] → (doReturn e (T.setTop f) acts v).1 = T.setFrames fs) → Steps p.tables e below U (T.setFrames fs))
    (hP : ∀ U' : State, U'.heap = T.heap → ReturnedEndW s (.returned v) U' locs cells slots → P (.returned v) U') : Go p e below U P := by
  obtain ⟨fs, hr, hrun, hended, hW⟩ := X.leaveW hS (by rw [eT]; exact hk) hv hlocks
  exact ⟨_, _, st fs hr, hrun, hended, hP _ rfl hW⟩
end GkKit
end Gk
theorem own_mx (p : Int32) : 0 ≤ (p &&& (2147483647 : Int32)).toInt ∧ (p &&& (2147483647 : Int32)).toInt ≤ 2147483647 := by
  have h := Jvm.Kit.i32_mask p 2147483647 (k := 31) (by decide) (by decide)
  omega
theorem own_Pd (q d : Int32) (hd : 0 < d.toInt ∧ d.toInt ≤ 4) : 0 ≤ ((q &&& (2147483647 : Int32)) % d).toInt ∧ ((q &&& (2147483647 : Int32)) % d).toInt < d.toInt := by
  have h := own_mx q
  have r : ((q &&& (2147483647 : Int32)) % d).toInt = (q &&& (2147483647 : Int32)).toInt % d.toInt := Jvm.Kit.i32_rem_nonneg h.1
  rw [r]
  exact ⟨Int.emod_nonneg _ (by omega), Int.emod_lt_of_pos _ (by omega)⟩
theorem own_nat {x : Int32} {n : Nat} (h : 0 ≤ x.toInt ∧ x.toInt < n) (hn : n ≤ 8) : ∃ k, k < n ∧ x = Int32.ofNat k := ⟨x.toInt.toNat, by omega, by
  apply Int32.toInt_inj.mp
  rw [Int32.toInt_ofNat_small (by omega)]
  omega⟩
theorem own_P1 {q P : Int32} (e : P = (((q &&& (2147483647 : Int32)) % (2 : Int32)) - (1 : Int32))) : P = (-1 : Int32) ∨ P = (0 : Int32) := by
  obtain ⟨k, hk, h⟩ := own_nat (n := 2) (own_Pd q 2 (by decide)) (by decide)
  rw [h] at e
  subst e
  rcases k with _ | _ | k
  · exact Or.inl (by decide)
  · exact Or.inr (by decide)
  · omega
theorem own_P2 {q P : Int32} (e : P = (((q &&& (2147483647 : Int32)) % (3 : Int32)) - (1 : Int32))) : P = (-1 : Int32) ∨ P = (0 : Int32) ∨ P = (1 : Int32) := by
  obtain ⟨k, hk, h⟩ := own_nat (n := 3) (own_Pd q 3 (by decide)) (by decide)
  rw [h] at e
  subst e
  rcases k with _ | _ | _ | k
  · exact Or.inl (by decide)
  · exact Or.inr (Or.inl (by decide))
  · exact Or.inr (Or.inr (by decide))
  · omega
theorem own_P3 {q P : Int32} (e : P = (((q &&& (2147483647 : Int32)) % (4 : Int32)) - (1 : Int32))) : P = (-1 : Int32) ∨ P = (0 : Int32) ∨ P = (1 : Int32) ∨ P = (2 : Int32) := by
  obtain ⟨k, hk, h⟩ := own_nat (n := 4) (own_Pd q 4 (by decide)) (by decide)
  rw [h] at e
  subst e
  rcases k with _ | _ | _ | _ | k
  · exact Or.inl (by decide)
  · exact Or.inr (Or.inl (by decide))
  · exact Or.inr (Or.inr (Or.inl (by decide)))
  · exact Or.inr (Or.inr (Or.inr (by decide)))
  · omega
theorem own_k {q P : Int32} (e : P = (q &&& (3 : Int32))) : P = (0 : Int32) ∨ P = (1 : Int32) ∨ P = (2 : Int32) ∨ P = (3 : Int32) := by
  have h := Jvm.Kit.i32_mask q 3 (k := 2) (by decide) (by decide)
  obtain ⟨k, hk, h'⟩ := own_nat (x := P) (n := 4) (by rw [e]; omega) (by decide)
  subst h'
  rcases k with _ | _ | _ | _ | k
  · exact Or.inl (by decide)
  · exact Or.inr (Or.inl (by decide))
  · exact Or.inr (Or.inr (Or.inl (by decide)))
  · exact Or.inr (Or.inr (Or.inr (by decide)))
  · omega
theorem d2_0 : decode jdk_30_method_1_code 0 = .ok (.aload_n 0, 1) := by decide +kernel
theorem d2_1 : decode jdk_30_method_1_code 1 = .ok (.invokespecial 1, 3) := by decide +kernel
theorem d2_4 : decode jdk_30_method_1_code 4 = .ok (.return_, 1) := by decide +kernel
theorem pn_3 : plainName "java/lang/Record" = true := by first | (simp [plainName, overriddenIn]; done) | decide +kernel
theorem ef_rm2 (m : MethodId) (a1 : Addr) : entryFrame m #[(.ref a1)] 1 = mkF m 0 #[.val (.ref a1)] [] := by first | (simp [entryFrame, mkF, argsToLocals, Value.category]; done) | rfl
def Q_rm2 (Z : State) (a1 : Addr) (h0 : Heap) (n0 : Nat) (v : Option Value) (h : Heap) (L : List Loc) : Prop := v = none ∧ Fr n0 L ∧ h = h0
set_option maxRecDepth 65536 in
set_option maxHeartbeats 40000000 in
theorem rm2 (l : Launch) (Z : State) (a0 : Array Value) (hw : ∀ d ∈ tables_1, d.before a0 Z = true) (ws : List Jvm.Cond) (a1 : Addr) (h0 : Heap) (n0 : Nat) (Z0 : n0 ≤ h0.size) :
    MetFree l (⟨"java/lang/Record", "<init>", "()V"⟩ : MethodName) (head1 (Jvm.Cond.code (⟨"java/lang/Record", "<init>", "()V"⟩ : MethodName) jdk_30_method_1_code 1 none :: ws) ({ frames := 1, cells := 0, slots := 0, locals := 12 } : Room)) (fun a U => a = #[(.ref a1)] ∧ Z.Warmed39 U.vm ∧ U.heap = h0) (fun _ _ _ _ _ => True) (fun _ U o U' => ∃ v L, o = .returned v ∧ Q_rm2 Z a1 h0 n0 v U'.heap L ∧ FrameEnd U o U' L ({ frames := 1, cells := 0, slots := 0, locals := 12 } : Room).cells ({ frames := 1, cells := 0, slots := 0, locals := 12 } : Room).slots) := by
  refine MetFree.of_bodySF (plainFor_of_name pn_3) hisR ?_
  intro p e s m args below meth c s₁ Bd hml0 hP hK
  obtain ⟨rfl, hZ, hh⟩ := hP
  have hx := Bd.exec
  have hby := Bd.bytes
  have hml : c.maxLocals = 1 := hml0
  have hown : s.vm.findClass "java/lang/Record" = some m.cls := findClass_of_methodNamed Bd.named
  have hnm := (name_of_methodNamed Bd.named Bd.method).1
  have X0 : Stand p l e ({ frames := 1, cells := 0, slots := 0, locals := 12 } : Room) s m #[(.ref a1)] below meth c s₁ [] 0 0 := Stand.of_body Bd
  have e0 : s₁.heap = h0 := by rw [← hh, Bd.state]; rfl
  have N0 := Fr.nil n0
  show Go p e below (s₁.setTop (entryFrame m #[(.ref a1)] 1)) (fun o U' => ∃ v L, o = .returned v ∧ Q_rm2 Z a1 h0 n0 v U'.heap L ∧ FrameEnd s o U' L ({ frames := 1, cells := 0, slots := 0, locals := 12 } : Room).cells ({ frames := 1, cells := 0, slots := 0, locals := 12 } : Room).slots)
  rw [ef_rm2]
  refine Gk.aloadN X0 hx (hb hby d2_0) rfl rfl ?_
  refine Gk.initO X0 hx hZ hown (hw _ (List.mem_of_getElem? (i := 14) rfl)) (hw _ (List.mem_of_getElem? (i := 15) rfl)) (hw _ (List.mem_of_getElem? (i := 16) rfl)) e0 (by rw [hml]; rfl) (hb hby d2_1) (by decide) (Nat.le_of_ble_eq_true rfl) ?_
  intro T1 X1 e1
  refine Go.fin X1 (v := none) (fun _ => rfl) Bd.notSynchronized (fun _ hr => X1.returnOut hx Bd.returns (hb hby d2_4) hr) (fun U' hU hF => ⟨_, _, rfl, ?_, hF.1, hF.2.1, hF.2.2.mono (by decide) (by decide)⟩)
  rw [hU, e1]
  exact ⟨rfl, N0, rfl⟩
theorem pd_0 : parseMethodDescriptor "()V" = some ⟨[], none⟩ := by decide +kernel
theorem d1_0 : decode prog_87_method_1_code 0 = .ok (.aload_n 0, 1) := by decide +kernel
theorem d1_1 : decode prog_87_method_1_code 1 = .ok (.invokespecial 1, 3) := by decide +kernel
theorem d1_4 : decode prog_87_method_1_code 4 = .ok (.aload_n 0, 1) := by decide +kernel
theorem d1_5 : decode prog_87_method_1_code 5 = .ok (.iload_n 1, 1) := by decide +kernel
theorem d1_6 : decode prog_87_method_1_code 6 = .ok (.putfield 7, 3) := by decide +kernel
theorem d1_9 : decode prog_87_method_1_code 9 = .ok (.aload_n 0, 1) := by decide +kernel
theorem d1_10 : decode prog_87_method_1_code 10 = .ok (.aload_n 2, 1) := by decide +kernel
theorem d1_11 : decode prog_87_method_1_code 11 = .ok (.putfield 13, 3) := by decide +kernel
theorem d1_14 : decode prog_87_method_1_code 14 = .ok (.return_, 1) := by decide +kernel
theorem pn_13 : plainName "com/example/tracewarden/tracewarden/engine/SearchTuples$Event" = true := by first | (simp [plainName, overriddenIn]; done) | decide +kernel
theorem ef_rm1 (m : MethodId) (a1 : Addr) (p2 : Int32) : entryFrame m #[(.ref a1), (.int p2), .null] 3 = mkF m 0 #[.val (.ref a1), .val (.int p2), .val .null] [] := by first | (simp [entryFrame, mkF, argsToLocals, Value.category]; done) | rfl
def Q_rm1 (Z : State) (a1 : Addr) (p2 : Int32) (u_activity_a1 : Value) (u_data_a1 : Value) (h0 : Heap) (n0 : Nat) (v : Option Value) (h : Heap) (L : List Loc) : Prop := v = none ∧ Fr n0 L ∧ Keep h0 h [a1]
set_option maxRecDepth 65536 in
set_option maxHeartbeats 40000000 in
theorem rm1 (l : Launch) (Z : State) (a0 : Array Value) (hw : ∀ d ∈ tables_1, d.before a0 Z = true) (ws : List Jvm.Cond) (a1 : Addr) (p2 : Int32) (u_activity_a1 : Value) (u_data_a1 : Value) (h0 : Heap) (n0 : Nat) (Z0 : n0 ≤ h0.size) (E_a1 : Exa Z h0 a1 "com/example/tracewarden/tracewarden/engine/SearchTuples$Event") (F_activity_a1 : Fld Z h0 a1 "com/example/tracewarden/tracewarden/engine/SearchTuples$Event" "activity" "I" u_activity_a1) (g_a1 : n0 ≤ a1) (F_data_a1 : Fld Z h0 a1 "com/example/tracewarden/tracewarden/engine/SearchTuples$Event" "data" "Ljava/util/Map;" u_data_a1) :
    MetFree l (⟨"com/example/tracewarden/tracewarden/engine/SearchTuples$Event", "<init>", "(ILjava/util/Map;)V"⟩ : MethodName) (head1 (Jvm.Cond.code (⟨"com/example/tracewarden/tracewarden/engine/SearchTuples$Event", "<init>", "(ILjava/util/Map;)V"⟩ : MethodName) prog_87_method_1_code 3 none :: ws) ({ frames := 2, cells := 0, slots := 0, locals := 24 } : Room)) (fun a U => a = #[(.ref a1), (.int p2), .null] ∧ Z.Warmed39 U.vm ∧ U.heap = h0) (fun _ _ _ _ _ => True) (fun _ U o U' => ∃ v L, o = .returned v ∧ Q_rm1 Z a1 p2 u_activity_a1 u_data_a1 h0 n0 v U'.heap L ∧ FrameEnd U o U' L ({ frames := 2, cells := 0, slots := 0, locals := 24 } : Room).cells ({ frames := 2, cells := 0, slots := 0, locals := 24 } : Room).slots) := by
  refine MetFree.of_bodySF (plainFor_of_name pn_13) hisR ?_
  intro p e s m args below meth c s₁ Bd hml0 hP hK
  obtain ⟨rfl, hZ, hh⟩ := hP
  have hx := Bd.exec
  have hby := Bd.bytes
  have hml : c.maxLocals = 3 := hml0
  have hown : s.vm.findClass "com/example/tracewarden/tracewarden/engine/SearchTuples$Event" = some m.cls := findClass_of_methodNamed Bd.named
  have hnm := (name_of_methodNamed Bd.named Bd.method).1
  have X0 : Stand p l e ({ frames := 2, cells := 0, slots := 0, locals := 24 } : Room) s m #[(.ref a1), (.int p2), .null] below meth c s₁ [] 0 0 := Stand.of_body Bd
  have e0 : s₁.heap = h0 := by rw [← hh, Bd.state]; rfl
  have N0 := Fr.nil n0
  show Go p e below (s₁.setTop (entryFrame m #[(.ref a1), (.int p2), .null] 3)) (fun o U' => ∃ v L, o = .returned v ∧ Q_rm1 Z a1 p2 u_activity_a1 u_data_a1 h0 n0 v U'.heap L ∧ FrameEnd s o U' L ({ frames := 2, cells := 0, slots := 0, locals := 24 } : Room).cells ({ frames := 2, cells := 0, slots := 0, locals := 24 } : Room).slots)
  rw [ef_rm1]
  refine Gk.aloadN X0 hx (hb hby d1_0) rfl rfl ?_
  refine Gk.callI (argsL := []) X0 hx hZ hown (rm2 l Z a0 hw [] a1 h0 n0 Z0) rfl (hw _ (List.mem_of_getElem? (i := 9) rfl)) (hw _ (List.mem_of_getElem? (i := 10) rfl)) (hw _ (List.mem_of_getElem? (i := 13) rfl)) rfl (by decide) (hw _ (List.mem_of_getElem? (i := 12) rfl)) e0 pd_0 rfl rfl (by decide) (Nat.le_of_ble_eq_true rfl) (by decide) (by decide) (by rw [hml]; rfl)  rfl (hb hby d1_1) ?_
  intro T1 L1 v1 X1 hQ1
  obtain ⟨rfl, N1q, e1⟩ := hQ1
  have N1 := Fr.app N0 N1q
  show Go p e below (T1.setTop (mkF m 4 #[.val (.ref a1), .val (.int p2), .val .null] [])) _
  refine Gk.aloadN X1 hx (hb hby d1_4) rfl rfl ?_
  refine Gk.iloadN X1 hx (hb hby d1_5) rfl ?_
  refine Gk.putF X1 hx hZ hown (host := "") (Or.inl (hw _ (List.mem_of_getElem? (i := 17) rfl))) Via.refl e1 F_activity_a1 E_a1 (Or.inr ⟨(hw _ (List.mem_of_getElem? (i := 18) rfl)), rfl, hnm⟩) (hw _ (List.mem_of_getElem? (i := 4) rfl)) (ty := .int) (by decide) rfl rfl (hb hby d1_6) ?_
  intro T2 h2 X2 e2 W2
  have Fw2 := F_activity_a1.same W2
  have N2 := Fr.snoc X2 N1 g_a1
  refine Gk.aloadN X2 hx (hb hby d1_9) rfl rfl ?_
  refine Gk.aloadN X2 hx (hb hby d1_10) rfl rfl ?_
  have H3 := (E_a1.wr W2)
  have H4 := (F_data_a1.other W2 (Or.inr (slot_ne (Or.inr (hw _ (List.mem_of_getElem? (i := 20) rfl))) (Or.inr (hw _ (List.mem_of_getElem? (i := 18) rfl))) (by decide) (t := (.object "java/util/Map")) (t' := .int) (by decide) (by decide))))
  refine Gk.putF X2 hx hZ hown (host := "") (Or.inl (hw _ (List.mem_of_getElem? (i := 19) rfl))) Via.refl e2 H4 H3 (Or.inr ⟨(hw _ (List.mem_of_getElem? (i := 20) rfl)), rfl, hnm⟩) (hw _ (List.mem_of_getElem? (i := 4) rfl)) (ty := (.object "java/util/Map")) (by decide) rfl rfl (hb hby d1_11) ?_
  intro T5 h5 X5 e5 W5
  have Fw5 := H4.same W5
  have N5 := Fr.snoc X5 N2 g_a1
  refine Go.fin X5 (v := none) (fun _ => rfl) Bd.notSynchronized (fun _ hr => X5.returnOut hx Bd.returns (hb hby d1_14) hr) (fun U' hU hF => ⟨_, _, rfl, ?_, hF.1, hF.2.1, hF.2.2.mono (by decide) (by decide)⟩)
  rw [hU, e5]
  exact ⟨rfl, N5, (((Keep.refl h0 [a1]).wr W2 (Or.inl (List.mem_of_getElem? (i := 0) rfl))).wr W5 (Or.inl (List.mem_of_getElem? (i := 0) rfl)))⟩
theorem d4_0 : decode prog_84_method_1_code 0 = .ok (.aload_n 0, 1) := by decide +kernel
theorem d4_1 : decode prog_84_method_1_code 1 = .ok (.invokespecial 1, 3) := by decide +kernel
theorem d4_4 : decode prog_84_method_1_code 4 = .ok (.lload_n 1, 1) := by decide +kernel
theorem d4_5 : decode prog_84_method_1_code 5 = .ok (.lconst 1, 1) := by decide +kernel
theorem d4_6 : decode prog_84_method_1_code 6 = .ok (.lcmp, 1) := by decide +kernel
theorem d4_7 : decode prog_84_method_1_code 7 = .ok (.ifCond .ge 17, 3) := by decide +kernel
theorem d4_24 : decode prog_84_method_1_code 24 = .ok (.aload_n 0, 1) := by decide +kernel
theorem d4_25 : decode prog_84_method_1_code 25 = .ok (.lload_n 1, 1) := by decide +kernel
theorem d4_26 : decode prog_84_method_1_code 26 = .ok (.putfield 16, 3) := by decide +kernel
theorem d4_29 : decode prog_84_method_1_code 29 = .ok (.return_, 1) := by decide +kernel
theorem pn_24 : plainName "com/example/tracewarden/tracewarden/engine/SearchBudget" = true := by first | (simp [plainName, overriddenIn]; done) | decide +kernel
theorem ef_rm4 (m : MethodId) (a1 : Addr) : entryFrame m #[(.ref a1), (.long (4 : Int64))] 3 = mkF m 0 #[.val (.ref a1), .val (.long (4 : Int64)), .second] [] := by first | (simp [entryFrame, mkF, argsToLocals, Value.category]; done) | rfl
def Q_rm4 (Z : State) (a1 : Addr) (u_left_a1 : Value) (h0 : Heap) (n0 : Nat) (v : Option Value) (h : Heap) (L : List Loc) : Prop := v = none ∧ Fr n0 L ∧ Keep h0 h [a1] ∧ Fld Z h a1 "com/example/tracewarden/tracewarden/engine/SearchBudget" "left" "J" (.long (4 : Int64))
set_option maxRecDepth 65536 in
set_option maxHeartbeats 40000000 in
theorem rm4 (l : Launch) (Z : State) (a0 : Array Value) (hw : ∀ d ∈ tables_1, d.before a0 Z = true) (ws : List Jvm.Cond) (a1 : Addr) (u_left_a1 : Value) (h0 : Heap) (n0 : Nat) (Z0 : n0 ≤ h0.size) (E_a1 : Exa Z h0 a1 "com/example/tracewarden/tracewarden/engine/SearchBudget") (F_left_a1 : Fld Z h0 a1 "com/example/tracewarden/tracewarden/engine/SearchBudget" "left" "J" u_left_a1) (g_a1 : n0 ≤ a1) :
    MetFree l (⟨"com/example/tracewarden/tracewarden/engine/SearchBudget", "<init>", "(J)V"⟩ : MethodName) (head1 (Jvm.Cond.code (⟨"com/example/tracewarden/tracewarden/engine/SearchBudget", "<init>", "(J)V"⟩ : MethodName) prog_84_method_1_code 3 none :: ws) ({ frames := 1, cells := 0, slots := 0, locals := 12 } : Room)) (fun a U => a = #[(.ref a1), (.long (4 : Int64))] ∧ Z.Warmed39 U.vm ∧ U.heap = h0) (fun _ _ _ _ _ => True) (fun _ U o U' => ∃ v L, o = .returned v ∧ Q_rm4 Z a1 u_left_a1 h0 n0 v U'.heap L ∧ FrameEnd U o U' L ({ frames := 1, cells := 0, slots := 0, locals := 12 } : Room).cells ({ frames := 1, cells := 0, slots := 0, locals := 12 } : Room).slots) := by
  refine MetFree.of_bodySF (plainFor_of_name pn_24) hisR ?_
  intro p e s m args below meth c s₁ Bd hml0 hP hK
  obtain ⟨rfl, hZ, hh⟩ := hP
  have hx := Bd.exec
  have hby := Bd.bytes
  have hml : c.maxLocals = 3 := hml0
  have hown : s.vm.findClass "com/example/tracewarden/tracewarden/engine/SearchBudget" = some m.cls := findClass_of_methodNamed Bd.named
  have hnm := (name_of_methodNamed Bd.named Bd.method).1
  have X0 : Stand p l e ({ frames := 1, cells := 0, slots := 0, locals := 12 } : Room) s m #[(.ref a1), (.long (4 : Int64))] below meth c s₁ [] 0 0 := Stand.of_body Bd
  have e0 : s₁.heap = h0 := by rw [← hh, Bd.state]; rfl
  have N0 := Fr.nil n0
  show Go p e below (s₁.setTop (entryFrame m #[(.ref a1), (.long (4 : Int64))] 3)) (fun o U' => ∃ v L, o = .returned v ∧ Q_rm4 Z a1 u_left_a1 h0 n0 v U'.heap L ∧ FrameEnd s o U' L ({ frames := 1, cells := 0, slots := 0, locals := 12 } : Room).cells ({ frames := 1, cells := 0, slots := 0, locals := 12 } : Room).slots)
  rw [ef_rm4]
  refine Gk.aloadN X0 hx (hb hby d4_0) rfl rfl ?_
  refine Gk.initO X0 hx hZ hown (hw _ (List.mem_of_getElem? (i := 32) rfl)) (hw _ (List.mem_of_getElem? (i := 15) rfl)) (hw _ (List.mem_of_getElem? (i := 16) rfl)) e0 (by rw [hml]; rfl) (hb hby d4_1) (by decide) (Nat.le_of_ble_eq_true rfl) ?_
  intro T1 X1 e1
  refine Gk.lloadN X1 hx (hb hby d4_4) rfl ?_
  refine Gk.lconst1 X1 hx (hb hby d4_5) ?_
  refine Gk.lcmp X1 hx (hb hby d4_6) ?_
  refine Gk.ifYes X1 hx (hb hby d4_7) (flt (fun q_ => (by decide : ¬ ((4 : Int64) < (1 : Int64))) ((lw_lt _ _).mp q_))).2.1 24 (by decide) (by decide) ?_
  refine Gk.aloadN X1 hx (hb hby d4_24) rfl rfl ?_
  refine Gk.lloadN X1 hx (hb hby d4_25) rfl ?_
  refine Gk.putF X1 hx hZ hown (host := "") (Or.inl (hw _ (List.mem_of_getElem? (i := 33) rfl))) Via.refl e1 F_left_a1 E_a1 (Or.inl (hw _ (List.mem_of_getElem? (i := 34) rfl))) (hw _ (List.mem_of_getElem? (i := 26) rfl)) (ty := .long) (by decide) rfl rfl (hb hby d4_26) ?_
  intro T2 h2 X2 e2 W2
  have Fw2 := F_left_a1.same W2
  have N2 := Fr.snoc X2 N0 g_a1
  refine Go.fin X2 (v := none) (fun _ => rfl) Bd.notSynchronized (fun _ hr => X2.returnOut hx Bd.returns (hb hby d4_29) hr) (fun U' hU hF => ⟨_, _, rfl, ?_, hF.1, hF.2.1, hF.2.2.mono (by decide) (by decide)⟩)
  rw [hU, e2]
  exact ⟨rfl, N2, ((Keep.refl h0 [a1]).wr W2 (Or.inl (List.mem_of_getElem? (i := 0) rfl))), Fw2⟩
theorem d10_0 : decode prog_84_method_2_code 0 = .ok (.aload_n 0, 1) := by decide +kernel
theorem d10_1 : decode prog_84_method_2_code 1 = .ok (.getfield 16, 3) := by decide +kernel
theorem d10_4 : decode prog_84_method_2_code 4 = .ok (.lconst 0, 1) := by decide +kernel
theorem d10_5 : decode prog_84_method_2_code 5 = .ok (.lcmp, 1) := by decide +kernel
theorem d10_6 : decode prog_84_method_2_code 6 = .ok (.ifCond .ne 11, 3) := by decide +kernel
theorem d10_17 : decode prog_84_method_2_code 17 = .ok (.aload_n 0, 1) := by decide +kernel
theorem d10_18 : decode prog_84_method_2_code 18 = .ok (.dup, 1) := by decide +kernel
theorem d10_19 : decode prog_84_method_2_code 19 = .ok (.getfield 16, 3) := by decide +kernel
theorem d10_22 : decode prog_84_method_2_code 22 = .ok (.lconst 1, 1) := by decide +kernel
theorem d10_23 : decode prog_84_method_2_code 23 = .ok (.lsub, 1) := by decide +kernel
theorem d10_24 : decode prog_84_method_2_code 24 = .ok (.putfield 16, 3) := by decide +kernel
theorem d10_27 : decode prog_84_method_2_code 27 = .ok (.return_, 1) := by decide +kernel
theorem ef_rm10_0 (m : MethodId) (a1 : Addr) : entryFrame m #[(.ref a1)] 1 = mkF m 0 #[.val (.ref a1)] [] := by first | (simp [entryFrame, mkF, argsToLocals, Value.category]; done) | rfl
def Q_rm10_0 (Z : State) (a1 : Addr) (h0 : Heap) (n0 : Nat) (v : Option Value) (h : Heap) (L : List Loc) : Prop := v = none ∧ Fr n0 L ∧ Keep h0 h [a1] ∧ Fld Z h a1 "com/example/tracewarden/tracewarden/engine/SearchBudget" "left" "J" (.long (3 : Int64))
set_option maxRecDepth 65536 in
set_option maxHeartbeats 40000000 in
theorem rm10_0 (l : Launch) (Z : State) (a0 : Array Value) (hw : ∀ d ∈ tables_1, d.before a0 Z = true) (ws : List Jvm.Cond) (a1 : Addr) (h0 : Heap) (n0 : Nat) (Z0 : n0 ≤ h0.size) (E_a1 : Exa Z h0 a1 "com/example/tracewarden/tracewarden/engine/SearchBudget") (F_left : Fld Z h0 a1 "com/example/tracewarden/tracewarden/engine/SearchBudget" "left" "J" (.long (4 : Int64))) (g_a1 : n0 ≤ a1) :
    MetFree l (⟨"com/example/tracewarden/tracewarden/engine/SearchBudget", "step", "()V"⟩ : MethodName) (head1 (Jvm.Cond.code (⟨"com/example/tracewarden/tracewarden/engine/SearchBudget", "step", "()V"⟩ : MethodName) prog_84_method_2_code 1 none :: ws) ({ frames := 0, cells := 0, slots := 0, locals := 0 } : Room)) (fun a U => a = #[(.ref a1)] ∧ Z.Warmed39 U.vm ∧ U.heap = h0) (fun _ _ _ _ _ => True) (fun _ U o U' => ∃ v L, o = .returned v ∧ Q_rm10_0 Z a1 h0 n0 v U'.heap L ∧ FrameEnd U o U' L ({ frames := 0, cells := 0, slots := 0, locals := 0 } : Room).cells ({ frames := 0, cells := 0, slots := 0, locals := 0 } : Room).slots) := by
  refine MetFree.of_bodySF (plainFor_of_name pn_24) hisR ?_
  intro p e s m args below meth c s₁ Bd hml0 hP hK
  obtain ⟨rfl, hZ, hh⟩ := hP
  have hx := Bd.exec
  have hby := Bd.bytes
  have hml : c.maxLocals = 1 := hml0
  have hown : s.vm.findClass "com/example/tracewarden/tracewarden/engine/SearchBudget" = some m.cls := findClass_of_methodNamed Bd.named
  have hnm := (name_of_methodNamed Bd.named Bd.method).1
  have X0 : Stand p l e ({ frames := 0, cells := 0, slots := 0, locals := 0 } : Room) s m #[(.ref a1)] below meth c s₁ [] 0 0 := Stand.of_body Bd
  have e0 : s₁.heap = h0 := by rw [← hh, Bd.state]; rfl
  have N0 := Fr.nil n0
  show Go p e below (s₁.setTop (entryFrame m #[(.ref a1)] 1)) (fun o U' => ∃ v L, o = .returned v ∧ Q_rm10_0 Z a1 h0 n0 v U'.heap L ∧ FrameEnd s o U' L ({ frames := 0, cells := 0, slots := 0, locals := 0 } : Room).cells ({ frames := 0, cells := 0, slots := 0, locals := 0 } : Room).slots)
  rw [ef_rm10_0]
  refine Gk.aloadN X0 hx (hb hby d10_0) rfl rfl ?_
  refine Gk.getF X0 hx hZ hown (host := "") (Or.inl (hw _ (List.mem_of_getElem? (i := 33) rfl))) Via.refl e0 F_left (hb hby d10_1) ?_
  intro T1 X1 e1
  refine Gk.lconst0 X1 hx (hb hby d10_4) ?_
  refine Gk.lcmp X1 hx (hb hby d10_5) ?_
  refine Gk.ifYes X1 hx (hb hby d10_6) (feq (fun q_ => (by decide : ¬ ((4 : Int64) = (0 : Int64))) ((lw_eq _ _).mp q_))).2 17 (by decide) (by decide) ?_
  refine Gk.aloadN X1 hx (hb hby d10_17) rfl rfl ?_
  refine Gk.dup X1 hx (hb hby d10_18) rfl ?_
  refine Gk.getF X1 hx hZ hown (host := "") (Or.inl (hw _ (List.mem_of_getElem? (i := 33) rfl))) Via.refl e1 F_left (hb hby d10_19) ?_
  intro T2 X2 e2
  refine Gk.lconst1 X2 hx (hb hby d10_22) ?_
  refine Gk.lsub X2 hx (hb hby d10_23) (3 : Int64) (by decide) ?_
  refine Gk.putF X2 hx hZ hown (host := "") (Or.inl (hw _ (List.mem_of_getElem? (i := 33) rfl))) Via.refl e2 F_left E_a1 (Or.inl (hw _ (List.mem_of_getElem? (i := 34) rfl))) (hw _ (List.mem_of_getElem? (i := 26) rfl)) (ty := .long) (by decide) rfl rfl (hb hby d10_24) ?_
  intro T3 h3 X3 e3 W3
  have Fw3 := F_left.same W3
  have N3 := Fr.snoc X3 N0 g_a1
  refine Go.fin X3 (v := none) (fun _ => rfl) Bd.notSynchronized (fun _ hr => X3.returnOut hx Bd.returns (hb hby d10_27) hr) (fun U' hU hF => ⟨_, _, rfl, ?_, hF.1, hF.2.1, hF.2.2.mono (by decide) (by decide)⟩)
  rw [hU, e3]
  exact ⟨rfl, N3, ((Keep.refl h0 [a1]).wr W3 (Or.inl (List.mem_of_getElem? (i := 0) rfl))), Fw3⟩
theorem ef_rm10_1 (m : MethodId) (a1 : Addr) : entryFrame m #[(.ref a1)] 1 = mkF m 0 #[.val (.ref a1)] [] := by first | (simp [entryFrame, mkF, argsToLocals, Value.category]; done) | rfl
def Q_rm10_1 (Z : State) (a1 : Addr) (h0 : Heap) (n0 : Nat) (v : Option Value) (h : Heap) (L : List Loc) : Prop := v = none ∧ Fr n0 L ∧ Keep h0 h [a1] ∧ Fld Z h a1 "com/example/tracewarden/tracewarden/engine/SearchBudget" "left" "J" (.long (2 : Int64))
set_option maxRecDepth 65536 in
set_option maxHeartbeats 40000000 in
theorem rm10_1 (l : Launch) (Z : State) (a0 : Array Value) (hw : ∀ d ∈ tables_1, d.before a0 Z = true) (ws : List Jvm.Cond) (a1 : Addr) (h0 : Heap) (n0 : Nat) (Z0 : n0 ≤ h0.size) (E_a1 : Exa Z h0 a1 "com/example/tracewarden/tracewarden/engine/SearchBudget") (F_left : Fld Z h0 a1 "com/example/tracewarden/tracewarden/engine/SearchBudget" "left" "J" (.long (3 : Int64))) (g_a1 : n0 ≤ a1) :
    MetFree l (⟨"com/example/tracewarden/tracewarden/engine/SearchBudget", "step", "()V"⟩ : MethodName) (head1 (Jvm.Cond.code (⟨"com/example/tracewarden/tracewarden/engine/SearchBudget", "step", "()V"⟩ : MethodName) prog_84_method_2_code 1 none :: ws) ({ frames := 0, cells := 0, slots := 0, locals := 0 } : Room)) (fun a U => a = #[(.ref a1)] ∧ Z.Warmed39 U.vm ∧ U.heap = h0) (fun _ _ _ _ _ => True) (fun _ U o U' => ∃ v L, o = .returned v ∧ Q_rm10_1 Z a1 h0 n0 v U'.heap L ∧ FrameEnd U o U' L ({ frames := 0, cells := 0, slots := 0, locals := 0 } : Room).cells ({ frames := 0, cells := 0, slots := 0, locals := 0 } : Room).slots) := by
  refine MetFree.of_bodySF (plainFor_of_name pn_24) hisR ?_
  intro p e s m args below meth c s₁ Bd hml0 hP hK
  obtain ⟨rfl, hZ, hh⟩ := hP
  have hx := Bd.exec
  have hby := Bd.bytes
  have hml : c.maxLocals = 1 := hml0
  have hown : s.vm.findClass "com/example/tracewarden/tracewarden/engine/SearchBudget" = some m.cls := findClass_of_methodNamed Bd.named
  have hnm := (name_of_methodNamed Bd.named Bd.method).1
  have X0 : Stand p l e ({ frames := 0, cells := 0, slots := 0, locals := 0 } : Room) s m #[(.ref a1)] below meth c s₁ [] 0 0 := Stand.of_body Bd
  have e0 : s₁.heap = h0 := by rw [← hh, Bd.state]; rfl
  have N0 := Fr.nil n0
  show Go p e below (s₁.setTop (entryFrame m #[(.ref a1)] 1)) (fun o U' => ∃ v L, o = .returned v ∧ Q_rm10_1 Z a1 h0 n0 v U'.heap L ∧ FrameEnd s o U' L ({ frames := 0, cells := 0, slots := 0, locals := 0 } : Room).cells ({ frames := 0, cells := 0, slots := 0, locals := 0 } : Room).slots)
  rw [ef_rm10_1]
  refine Gk.aloadN X0 hx (hb hby d10_0) rfl rfl ?_
  refine Gk.getF X0 hx hZ hown (host := "") (Or.inl (hw _ (List.mem_of_getElem? (i := 33) rfl))) Via.refl e0 F_left (hb hby d10_1) ?_
  intro T1 X1 e1
  refine Gk.lconst0 X1 hx (hb hby d10_4) ?_
  refine Gk.lcmp X1 hx (hb hby d10_5) ?_
  refine Gk.ifYes X1 hx (hb hby d10_6) (feq (fun q_ => (by decide : ¬ ((3 : Int64) = (0 : Int64))) ((lw_eq _ _).mp q_))).2 17 (by decide) (by decide) ?_
  refine Gk.aloadN X1 hx (hb hby d10_17) rfl rfl ?_
  refine Gk.dup X1 hx (hb hby d10_18) rfl ?_
  refine Gk.getF X1 hx hZ hown (host := "") (Or.inl (hw _ (List.mem_of_getElem? (i := 33) rfl))) Via.refl e1 F_left (hb hby d10_19) ?_
  intro T2 X2 e2
  refine Gk.lconst1 X2 hx (hb hby d10_22) ?_
  refine Gk.lsub X2 hx (hb hby d10_23) (2 : Int64) (by decide) ?_
  refine Gk.putF X2 hx hZ hown (host := "") (Or.inl (hw _ (List.mem_of_getElem? (i := 33) rfl))) Via.refl e2 F_left E_a1 (Or.inl (hw _ (List.mem_of_getElem? (i := 34) rfl))) (hw _ (List.mem_of_getElem? (i := 26) rfl)) (ty := .long) (by decide) rfl rfl (hb hby d10_24) ?_
  intro T3 h3 X3 e3 W3
  have Fw3 := F_left.same W3
  have N3 := Fr.snoc X3 N0 g_a1
  refine Go.fin X3 (v := none) (fun _ => rfl) Bd.notSynchronized (fun _ hr => X3.returnOut hx Bd.returns (hb hby d10_27) hr) (fun U' hU hF => ⟨_, _, rfl, ?_, hF.1, hF.2.1, hF.2.2.mono (by decide) (by decide)⟩)
  rw [hU, e3]
  exact ⟨rfl, N3, ((Keep.refl h0 [a1]).wr W3 (Or.inl (List.mem_of_getElem? (i := 0) rfl))), Fw3⟩
theorem ef_rm10_2 (m : MethodId) (a1 : Addr) : entryFrame m #[(.ref a1)] 1 = mkF m 0 #[.val (.ref a1)] [] := by first | (simp [entryFrame, mkF, argsToLocals, Value.category]; done) | rfl
def Q_rm10_2 (Z : State) (a1 : Addr) (h0 : Heap) (n0 : Nat) (v : Option Value) (h : Heap) (L : List Loc) : Prop := v = none ∧ Fr n0 L ∧ Keep h0 h [a1] ∧ Fld Z h a1 "com/example/tracewarden/tracewarden/engine/SearchBudget" "left" "J" (.long (1 : Int64))
set_option maxRecDepth 65536 in
set_option maxHeartbeats 40000000 in
theorem rm10_2 (l : Launch) (Z : State) (a0 : Array Value) (hw : ∀ d ∈ tables_1, d.before a0 Z = true) (ws : List Jvm.Cond) (a1 : Addr) (h0 : Heap) (n0 : Nat) (Z0 : n0 ≤ h0.size) (E_a1 : Exa Z h0 a1 "com/example/tracewarden/tracewarden/engine/SearchBudget") (F_left : Fld Z h0 a1 "com/example/tracewarden/tracewarden/engine/SearchBudget" "left" "J" (.long (2 : Int64))) (g_a1 : n0 ≤ a1) :
    MetFree l (⟨"com/example/tracewarden/tracewarden/engine/SearchBudget", "step", "()V"⟩ : MethodName) (head1 (Jvm.Cond.code (⟨"com/example/tracewarden/tracewarden/engine/SearchBudget", "step", "()V"⟩ : MethodName) prog_84_method_2_code 1 none :: ws) ({ frames := 0, cells := 0, slots := 0, locals := 0 } : Room)) (fun a U => a = #[(.ref a1)] ∧ Z.Warmed39 U.vm ∧ U.heap = h0) (fun _ _ _ _ _ => True) (fun _ U o U' => ∃ v L, o = .returned v ∧ Q_rm10_2 Z a1 h0 n0 v U'.heap L ∧ FrameEnd U o U' L ({ frames := 0, cells := 0, slots := 0, locals := 0 } : Room).cells ({ frames := 0, cells := 0, slots := 0, locals := 0 } : Room).slots) := by
  refine MetFree.of_bodySF (plainFor_of_name pn_24) hisR ?_
  intro p e s m args below meth c s₁ Bd hml0 hP hK
  obtain ⟨rfl, hZ, hh⟩ := hP
  have hx := Bd.exec
  have hby := Bd.bytes
  have hml : c.maxLocals = 1 := hml0
  have hown : s.vm.findClass "com/example/tracewarden/tracewarden/engine/SearchBudget" = some m.cls := findClass_of_methodNamed Bd.named
  have hnm := (name_of_methodNamed Bd.named Bd.method).1
  have X0 : Stand p l e ({ frames := 0, cells := 0, slots := 0, locals := 0 } : Room) s m #[(.ref a1)] below meth c s₁ [] 0 0 := Stand.of_body Bd
  have e0 : s₁.heap = h0 := by rw [← hh, Bd.state]; rfl
  have N0 := Fr.nil n0
  show Go p e below (s₁.setTop (entryFrame m #[(.ref a1)] 1)) (fun o U' => ∃ v L, o = .returned v ∧ Q_rm10_2 Z a1 h0 n0 v U'.heap L ∧ FrameEnd s o U' L ({ frames := 0, cells := 0, slots := 0, locals := 0 } : Room).cells ({ frames := 0, cells := 0, slots := 0, locals := 0 } : Room).slots)
  rw [ef_rm10_2]
  refine Gk.aloadN X0 hx (hb hby d10_0) rfl rfl ?_
  refine Gk.getF X0 hx hZ hown (host := "") (Or.inl (hw _ (List.mem_of_getElem? (i := 33) rfl))) Via.refl e0 F_left (hb hby d10_1) ?_
  intro T1 X1 e1
  refine Gk.lconst0 X1 hx (hb hby d10_4) ?_
  refine Gk.lcmp X1 hx (hb hby d10_5) ?_
  refine Gk.ifYes X1 hx (hb hby d10_6) (feq (fun q_ => (by decide : ¬ ((2 : Int64) = (0 : Int64))) ((lw_eq _ _).mp q_))).2 17 (by decide) (by decide) ?_
  refine Gk.aloadN X1 hx (hb hby d10_17) rfl rfl ?_
  refine Gk.dup X1 hx (hb hby d10_18) rfl ?_
  refine Gk.getF X1 hx hZ hown (host := "") (Or.inl (hw _ (List.mem_of_getElem? (i := 33) rfl))) Via.refl e1 F_left (hb hby d10_19) ?_
  intro T2 X2 e2
  refine Gk.lconst1 X2 hx (hb hby d10_22) ?_
  refine Gk.lsub X2 hx (hb hby d10_23) (1 : Int64) (by decide) ?_
  refine Gk.putF X2 hx hZ hown (host := "") (Or.inl (hw _ (List.mem_of_getElem? (i := 33) rfl))) Via.refl e2 F_left E_a1 (Or.inl (hw _ (List.mem_of_getElem? (i := 34) rfl))) (hw _ (List.mem_of_getElem? (i := 26) rfl)) (ty := .long) (by decide) rfl rfl (hb hby d10_24) ?_
  intro T3 h3 X3 e3 W3
  have Fw3 := F_left.same W3
  have N3 := Fr.snoc X3 N0 g_a1
  refine Go.fin X3 (v := none) (fun _ => rfl) Bd.notSynchronized (fun _ hr => X3.returnOut hx Bd.returns (hb hby d10_27) hr) (fun U' hU hF => ⟨_, _, rfl, ?_, hF.1, hF.2.1, hF.2.2.mono (by decide) (by decide)⟩)
  rw [hU, e3]
  exact ⟨rfl, N3, ((Keep.refl h0 [a1]).wr W3 (Or.inl (List.mem_of_getElem? (i := 0) rfl))), Fw3⟩
theorem ef_rm10_3 (m : MethodId) (a1 : Addr) : entryFrame m #[(.ref a1)] 1 = mkF m 0 #[.val (.ref a1)] [] := by first | (simp [entryFrame, mkF, argsToLocals, Value.category]; done) | rfl
def Q_rm10_3 (Z : State) (a1 : Addr) (h0 : Heap) (n0 : Nat) (v : Option Value) (h : Heap) (L : List Loc) : Prop := v = none ∧ Fr n0 L ∧ Keep h0 h [a1] ∧ Fld Z h a1 "com/example/tracewarden/tracewarden/engine/SearchBudget" "left" "J" (.long (0 : Int64))
set_option maxRecDepth 65536 in
set_option maxHeartbeats 40000000 in
theorem rm10_3 (l : Launch) (Z : State) (a0 : Array Value) (hw : ∀ d ∈ tables_1, d.before a0 Z = true) (ws : List Jvm.Cond) (a1 : Addr) (h0 : Heap) (n0 : Nat) (Z0 : n0 ≤ h0.size) (E_a1 : Exa Z h0 a1 "com/example/tracewarden/tracewarden/engine/SearchBudget") (F_left : Fld Z h0 a1 "com/example/tracewarden/tracewarden/engine/SearchBudget" "left" "J" (.long (1 : Int64))) (g_a1 : n0 ≤ a1) :
    MetFree l (⟨"com/example/tracewarden/tracewarden/engine/SearchBudget", "step", "()V"⟩ : MethodName) (head1 (Jvm.Cond.code (⟨"com/example/tracewarden/tracewarden/engine/SearchBudget", "step", "()V"⟩ : MethodName) prog_84_method_2_code 1 none :: ws) ({ frames := 0, cells := 0, slots := 0, locals := 0 } : Room)) (fun a U => a = #[(.ref a1)] ∧ Z.Warmed39 U.vm ∧ U.heap = h0) (fun _ _ _ _ _ => True) (fun _ U o U' => ∃ v L, o = .returned v ∧ Q_rm10_3 Z a1 h0 n0 v U'.heap L ∧ FrameEnd U o U' L ({ frames := 0, cells := 0, slots := 0, locals := 0 } : Room).cells ({ frames := 0, cells := 0, slots := 0, locals := 0 } : Room).slots) := by
  refine MetFree.of_bodySF (plainFor_of_name pn_24) hisR ?_
  intro p e s m args below meth c s₁ Bd hml0 hP hK
  obtain ⟨rfl, hZ, hh⟩ := hP
  have hx := Bd.exec
  have hby := Bd.bytes
  have hml : c.maxLocals = 1 := hml0
  have hown : s.vm.findClass "com/example/tracewarden/tracewarden/engine/SearchBudget" = some m.cls := findClass_of_methodNamed Bd.named
  have hnm := (name_of_methodNamed Bd.named Bd.method).1
  have X0 : Stand p l e ({ frames := 0, cells := 0, slots := 0, locals := 0 } : Room) s m #[(.ref a1)] below meth c s₁ [] 0 0 := Stand.of_body Bd
  have e0 : s₁.heap = h0 := by rw [← hh, Bd.state]; rfl
  have N0 := Fr.nil n0
  show Go p e below (s₁.setTop (entryFrame m #[(.ref a1)] 1)) (fun o U' => ∃ v L, o = .returned v ∧ Q_rm10_3 Z a1 h0 n0 v U'.heap L ∧ FrameEnd s o U' L ({ frames := 0, cells := 0, slots := 0, locals := 0 } : Room).cells ({ frames := 0, cells := 0, slots := 0, locals := 0 } : Room).slots)
  rw [ef_rm10_3]
  refine Gk.aloadN X0 hx (hb hby d10_0) rfl rfl ?_
  refine Gk.getF X0 hx hZ hown (host := "") (Or.inl (hw _ (List.mem_of_getElem? (i := 33) rfl))) Via.refl e0 F_left (hb hby d10_1) ?_
  intro T1 X1 e1
  refine Gk.lconst0 X1 hx (hb hby d10_4) ?_
  refine Gk.lcmp X1 hx (hb hby d10_5) ?_
  refine Gk.ifYes X1 hx (hb hby d10_6) (feq (fun q_ => (by decide : ¬ ((1 : Int64) = (0 : Int64))) ((lw_eq _ _).mp q_))).2 17 (by decide) (by decide) ?_
  refine Gk.aloadN X1 hx (hb hby d10_17) rfl rfl ?_
  refine Gk.dup X1 hx (hb hby d10_18) rfl ?_
  refine Gk.getF X1 hx hZ hown (host := "") (Or.inl (hw _ (List.mem_of_getElem? (i := 33) rfl))) Via.refl e1 F_left (hb hby d10_19) ?_
  intro T2 X2 e2
  refine Gk.lconst1 X2 hx (hb hby d10_22) ?_
  refine Gk.lsub X2 hx (hb hby d10_23) (0 : Int64) (by decide) ?_
  refine Gk.putF X2 hx hZ hown (host := "") (Or.inl (hw _ (List.mem_of_getElem? (i := 33) rfl))) Via.refl e2 F_left E_a1 (Or.inl (hw _ (List.mem_of_getElem? (i := 34) rfl))) (hw _ (List.mem_of_getElem? (i := 26) rfl)) (ty := .long) (by decide) rfl rfl (hb hby d10_24) ?_
  intro T3 h3 X3 e3 W3
  have Fw3 := F_left.same W3
  have N3 := Fr.snoc X3 N0 g_a1
  refine Go.fin X3 (v := none) (fun _ => rfl) Bd.notSynchronized (fun _ hr => X3.returnOut hx Bd.returns (hb hby d10_27) hr) (fun U' hU hF => ⟨_, _, rfl, ?_, hF.1, hF.2.1, hF.2.2.mono (by decide) (by decide)⟩)
  rw [hU, e3]
  exact ⟨rfl, N3, ((Keep.refl h0 [a1]).wr W3 (Or.inl (List.mem_of_getElem? (i := 0) rfl))), Fw3⟩
theorem d5_0 : decode prog_86_method_1_code 0 = .ok (.aload_n 0, 1) := by decide +kernel
theorem d5_1 : decode prog_86_method_1_code 1 = .ok (.invokespecial 1, 3) := by decide +kernel
theorem d5_4 : decode prog_86_method_1_code 4 = .ok (.aload_n 0, 1) := by decide +kernel
theorem d5_5 : decode prog_86_method_1_code 5 = .ok (.bipush 64, 2) := by decide +kernel
theorem d5_7 : decode prog_86_method_1_code 7 = .ok (.newarray .int, 2) := by decide +kernel
theorem d5_9 : decode prog_86_method_1_code 9 = .ok (.putfield 7, 3) := by decide +kernel
theorem d5_12 : decode prog_86_method_1_code 12 = .ok (.aload_n 0, 1) := by decide +kernel
theorem d5_13 : decode prog_86_method_1_code 13 = .ok (.bipush 16, 2) := by decide +kernel
theorem d5_15 : decode prog_86_method_1_code 15 = .ok (.newarray .int, 2) := by decide +kernel
theorem d5_17 : decode prog_86_method_1_code 17 = .ok (.putfield 13, 3) := by decide +kernel
theorem d5_20 : decode prog_86_method_1_code 20 = .ok (.aload_n 0, 1) := by decide +kernel
theorem d5_21 : decode prog_86_method_1_code 21 = .ok (.bipush 16, 2) := by decide +kernel
theorem d5_23 : decode prog_86_method_1_code 23 = .ok (.anewarray 16, 3) := by decide +kernel
theorem d5_26 : decode prog_86_method_1_code 26 = .ok (.putfield 18, 3) := by decide +kernel
theorem d5_29 : decode prog_86_method_1_code 29 = .ok (.aload_n 0, 1) := by decide +kernel
theorem d5_30 : decode prog_86_method_1_code 30 = .ok (.bipush 16, 2) := by decide +kernel
theorem d5_32 : decode prog_86_method_1_code 32 = .ok (.newarray .int, 2) := by decide +kernel
theorem d5_34 : decode prog_86_method_1_code 34 = .ok (.putfield 22, 3) := by decide +kernel
theorem d5_37 : decode prog_86_method_1_code 37 = .ok (.aload_n 0, 1) := by decide +kernel
theorem d5_38 : decode prog_86_method_1_code 38 = .ok (.bipush 16, 2) := by decide +kernel
theorem d5_40 : decode prog_86_method_1_code 40 = .ok (.newarray .boolean, 2) := by decide +kernel
theorem d5_42 : decode prog_86_method_1_code 42 = .ok (.putfield 25, 3) := by decide +kernel
theorem d5_45 : decode prog_86_method_1_code 45 = .ok (.aload_n 0, 1) := by decide +kernel
theorem d5_46 : decode prog_86_method_1_code 46 = .ok (.bipush 16, 2) := by decide +kernel
theorem d5_48 : decode prog_86_method_1_code 48 = .ok (.newarray .int, 2) := by decide +kernel
theorem d5_50 : decode prog_86_method_1_code 50 = .ok (.putfield 29, 3) := by decide +kernel
theorem d5_53 : decode prog_86_method_1_code 53 = .ok (.aload_n 0, 1) := by decide +kernel
theorem d5_54 : decode prog_86_method_1_code 54 = .ok (.bipush 16, 2) := by decide +kernel
theorem d5_56 : decode prog_86_method_1_code 56 = .ok (.anewarray 32, 3) := by decide +kernel
theorem d5_59 : decode prog_86_method_1_code 59 = .ok (.putfield 34, 3) := by decide +kernel
theorem d5_62 : decode prog_86_method_1_code 62 = .ok (.aload_n 0, 1) := by decide +kernel
theorem d5_63 : decode prog_86_method_1_code 63 = .ok (.bipush 16, 2) := by decide +kernel
theorem d5_65 : decode prog_86_method_1_code 65 = .ok (.newarray .int, 2) := by decide +kernel
theorem d5_67 : decode prog_86_method_1_code 67 = .ok (.putfield 38, 3) := by decide +kernel
theorem d5_70 : decode prog_86_method_1_code 70 = .ok (.aload_n 0, 1) := by decide +kernel
theorem d5_71 : decode prog_86_method_1_code 71 = .ok (.bipush 32, 2) := by decide +kernel
theorem d5_73 : decode prog_86_method_1_code 73 = .ok (.newarray .int, 2) := by decide +kernel
theorem d5_75 : decode prog_86_method_1_code 75 = .ok (.putfield 41, 3) := by decide +kernel
theorem d5_78 : decode prog_86_method_1_code 78 = .ok (.aload_n 0, 1) := by decide +kernel
theorem d5_79 : decode prog_86_method_1_code 79 = .ok (.aload_n 3, 1) := by decide +kernel
theorem d5_80 : decode prog_86_method_1_code 80 = .ok (.putfield 44, 3) := by decide +kernel
theorem d5_83 : decode prog_86_method_1_code 83 = .ok (.aload_n 0, 1) := by decide +kernel
theorem d5_84 : decode prog_86_method_1_code 84 = .ok (.iload_n 1, 1) := by decide +kernel
theorem d5_85 : decode prog_86_method_1_code 85 = .ok (.putfield 48, 3) := by decide +kernel
theorem d5_88 : decode prog_86_method_1_code 88 = .ok (.aload_n 0, 1) := by decide +kernel
theorem d5_89 : decode prog_86_method_1_code 89 = .ok (.iload_n 2, 1) := by decide +kernel
theorem d5_90 : decode prog_86_method_1_code 90 = .ok (.bipush 8, 2) := by decide +kernel
theorem d5_92 : decode prog_86_method_1_code 92 = .ok (.multianewarray 52 2, 4) := by decide +kernel
theorem d5_96 : decode prog_86_method_1_code 96 = .ok (.putfield 54, 3) := by decide +kernel
theorem d5_99 : decode prog_86_method_1_code 99 = .ok (.aload_n 0, 1) := by decide +kernel
theorem d5_100 : decode prog_86_method_1_code 100 = .ok (.iload_n 2, 1) := by decide +kernel
theorem d5_101 : decode prog_86_method_1_code 101 = .ok (.newarray .int, 2) := by decide +kernel
theorem d5_103 : decode prog_86_method_1_code 103 = .ok (.putfield 57, 3) := by decide +kernel
theorem d5_106 : decode prog_86_method_1_code 106 = .ok (.aload_n 0, 1) := by decide +kernel
theorem d5_107 : decode prog_86_method_1_code 107 = .ok (.iload_n 2, 1) := by decide +kernel
theorem d5_108 : decode prog_86_method_1_code 108 = .ok (.newarray .int, 2) := by decide +kernel
theorem d5_110 : decode prog_86_method_1_code 110 = .ok (.putfield 60, 3) := by decide +kernel
theorem d5_113 : decode prog_86_method_1_code 113 = .ok (.return_, 1) := by decide +kernel
theorem pn_95 : plainName "com/example/tracewarden/tracewarden/engine/SearchTuples" = true := by first | (simp [plainName, overriddenIn]; done) | decide +kernel
theorem ef_rm5 (m : MethodId) (a1 : Addr) (a4 : Addr) : entryFrame m #[(.ref a1), (.int (1 : Int32)), (.int (1 : Int32)), (.ref a4)] 4 = mkF m 0 #[.val (.ref a1), .val (.int (1 : Int32)), .val (.int (1 : Int32)), .val (.ref a4)] [] := by first | (simp [entryFrame, mkF, argsToLocals, Value.category]; done) | rfl
def Q_rm5 (Z : State) (a1 : Addr) (a4 : Addr) (u_states_a1 : Value) (u_hashes_a1 : Value) (u_zones_a1 : Value) (u_sameStates_a1 : Value) (u_held_a1 : Value) (u_parents_a1 : Value) (u_events_a1 : Value) (u_ranks_a1 : Value) (u_slots_a1 : Value) (u_budget_a1 : Value) (u_width_a1 : Value) (u_ranked_a1 : Value) (u_reached_a1 : Value) (u_taken_a1 : Value) (h0 : Heap) (n0 : Nat) (v : Option Value) (h : Heap) (L : List Loc) : Prop := v = none ∧ Fr n0 L ∧ Keep h0 h [a1] ∧ ∃ (b_states b_hashes b_zones b_sameStates b_held b_parents b_events b_ranks b_slots b_ranked b_rk0 b_reached b_taken : Addr) (k_states k_hashes k_zones k_sameStates k_held k_parents k_events k_ranks k_slots k_ranked k_rk0 k_reached k_taken : ClassId), h0.size ≤ b_states ∧ b_states < b_hashes ∧ b_hashes < b_zones ∧ b_zones < b_sameStates ∧ b_sameStates < b_held ∧ b_held < b_parents ∧ b_parents < b_events ∧ b_events < b_ranks ∧ b_ranks < b_slots ∧ b_slots < b_ranked ∧ b_ranked < b_rk0 ∧ b_rk0 < b_reached ∧ b_reached < b_taken ∧ Fld Z h a1 "com/example/tracewarden/tracewarden/engine/SearchTuples" "budget" "Lcom/example/tracewarden/tracewarden/engine/SearchBudget;" (.ref a4) ∧ Fld Z h a1 "com/example/tracewarden/tracewarden/engine/SearchTuples" "states" "[I" (.ref b_states) ∧ Fld Z h a1 "com/example/tracewarden/tracewarden/engine/SearchTuples" "hashes" "[I" (.ref b_hashes) ∧ Fld Z h a1 "com/example/tracewarden/tracewarden/engine/SearchTuples" "zones" "[Lcom/example/tracewarden/tracewarden/engine/Zone;" (.ref b_zones) ∧ Fld Z h a1 "com/example/tracewarden/tracewarden/engine/SearchTuples" "sameStates" "[I" (.ref b_sameStates) ∧ Fld Z h a1 "com/example/tracewarden/tracewarden/engine/SearchTuples" "held" "[Z" (.ref b_held) ∧ Fld Z h a1 "com/example/tracewarden/tracewarden/engine/SearchTuples" "parents" "[I" (.ref b_parents) ∧ Fld Z h a1 "com/example/tracewarden/tracewarden/engine/SearchTuples" "events" "[Lcom/example/tracewarden/tracewarden/engine/SearchTuples$Event;" (.ref b_events) ∧ Fld Z h a1 "com/example/tracewarden/tracewarden/engine/SearchTuples" "ranks" "[I" (.ref b_ranks) ∧ Fld Z h a1 "com/example/tracewarden/tracewarden/engine/SearchTuples" "slots" "[I" (.ref b_slots) ∧ Fld Z h a1 "com/example/tracewarden/tracewarden/engine/SearchTuples" "ranked" "[[I" (.ref b_ranked) ∧ Fld Z h a1 "com/example/tracewarden/tracewarden/engine/SearchTuples" "reached" "[I" (.ref b_reached) ∧ Fld Z h a1 "com/example/tracewarden/tracewarden/engine/SearchTuples" "taken" "[I" (.ref b_taken) ∧ Fld Z h a1 "com/example/tracewarden/tracewarden/engine/SearchTuples" "width" "I" (.int (1 : Int32)) ∧ Fld Z h a1 "com/example/tracewarden/tracewarden/engine/SearchTuples" "size" "I" (.int (0 : Int32)) ∧ Fld Z h a1 "com/example/tracewarden/tracewarden/engine/SearchTuples" "lowest" "I" (.int (0 : Int32)) ∧ Arf Z h b_states k_states .int (64 : Int32) (fun _ => (.int (0 : Int32))) ∧ Arf Z h b_hashes k_hashes .int (16 : Int32) (fun _ => (.int (0 : Int32))) ∧ Arf Z h b_zones k_zones (.object "com/example/tracewarden/tracewarden/engine/Zone") (16 : Int32) (fun _ => .null) ∧ Arf Z h b_sameStates k_sameStates .int (16 : Int32) (fun _ => (.int (0 : Int32))) ∧ Arf Z h b_held k_held .boolean (16 : Int32) (fun _ => (.int (0 : Int32))) ∧ Arf Z h b_parents k_parents .int (16 : Int32) (fun _ => (.int (0 : Int32))) ∧ Arf Z h b_events k_events (.object "com/example/tracewarden/tracewarden/engine/SearchTuples$Event") (16 : Int32) (fun _ => .null) ∧ Arf Z h b_ranks k_ranks .int (16 : Int32) (fun _ => (.int (0 : Int32))) ∧ Arf Z h b_slots k_slots .int (32 : Int32) (fun _ => (.int (0 : Int32))) ∧ Arf Z h b_ranked k_ranked (.array .int) (1 : Int32) (fun _ => (.ref b_rk0)) ∧ Arf Z h b_rk0 k_rk0 .int (8 : Int32) (fun _ => (.int (0 : Int32))) ∧ Arf Z h b_reached k_reached .int (1 : Int32) (fun _ => (.int (0 : Int32))) ∧ Arf Z h b_taken k_taken .int (1 : Int32) (fun _ => (.int (0 : Int32))) ∧ Ovr Z k_events "com/example/tracewarden/tracewarden/engine/SearchTuples$Event"
set_option maxRecDepth 65536 in
set_option maxHeartbeats 40000000 in
theorem rm5 (l : Launch) (Z : State) (a0 : Array Value) (hw : ∀ d ∈ tables_1, d.before a0 Z = true) (ws : List Jvm.Cond) (a1 : Addr) (a4 : Addr) (u_states_a1 : Value) (u_hashes_a1 : Value) (u_zones_a1 : Value) (u_sameStates_a1 : Value) (u_held_a1 : Value) (u_parents_a1 : Value) (u_events_a1 : Value) (u_ranks_a1 : Value) (u_slots_a1 : Value) (u_budget_a1 : Value) (u_width_a1 : Value) (u_ranked_a1 : Value) (u_reached_a1 : Value) (u_taken_a1 : Value) (h0 : Heap) (n0 : Nat) (Z0 : n0 ≤ h0.size) (E_a1 : Exa Z h0 a1 "com/example/tracewarden/tracewarden/engine/SearchTuples") (F_size : Fld Z h0 a1 "com/example/tracewarden/tracewarden/engine/SearchTuples" "size" "I" (.int (0 : Int32))) (F_lowest : Fld Z h0 a1 "com/example/tracewarden/tracewarden/engine/SearchTuples" "lowest" "I" (.int (0 : Int32))) (F_states_a1 : Fld Z h0 a1 "com/example/tracewarden/tracewarden/engine/SearchTuples" "states" "[I" u_states_a1) (g_a1 : n0 ≤ a1) (F_hashes_a1 : Fld Z h0 a1 "com/example/tracewarden/tracewarden/engine/SearchTuples" "hashes" "[I" u_hashes_a1) (F_zones_a1 : Fld Z h0 a1 "com/example/tracewarden/tracewarden/engine/SearchTuples" "zones" "[Lcom/example/tracewarden/tracewarden/engine/Zone;" u_zones_a1) (F_sameStates_a1 : Fld Z h0 a1 "com/example/tracewarden/tracewarden/engine/SearchTuples" "sameStates" "[I" u_sameStates_a1) (F_held_a1 : Fld Z h0 a1 "com/example/tracewarden/tracewarden/engine/SearchTuples" "held" "[Z" u_held_a1) (F_parents_a1 : Fld Z h0 a1 "com/example/tracewarden/tracewarden/engine/SearchTuples" "parents" "[I" u_parents_a1) (F_events_a1 : Fld Z h0 a1 "com/example/tracewarden/tracewarden/engine/SearchTuples" "events" "[Lcom/example/tracewarden/tracewarden/engine/SearchTuples$Event;" u_events_a1) (F_ranks_a1 : Fld Z h0 a1 "com/example/tracewarden/tracewarden/engine/SearchTuples" "ranks" "[I" u_ranks_a1) (F_slots_a1 : Fld Z h0 a1 "com/example/tracewarden/tracewarden/engine/SearchTuples" "slots" "[I" u_slots_a1) (F_budget_a1 : Fld Z h0 a1 "com/example/tracewarden/tracewarden/engine/SearchTuples" "budget" "Lcom/example/tracewarden/tracewarden/engine/SearchBudget;" u_budget_a1) (F_width_a1 : Fld Z h0 a1 "com/example/tracewarden/tracewarden/engine/SearchTuples" "width" "I" u_width_a1) (F_ranked_a1 : Fld Z h0 a1 "com/example/tracewarden/tracewarden/engine/SearchTuples" "ranked" "[[I" u_ranked_a1) (F_reached_a1 : Fld Z h0 a1 "com/example/tracewarden/tracewarden/engine/SearchTuples" "reached" "[I" u_reached_a1) (F_taken_a1 : Fld Z h0 a1 "com/example/tracewarden/tracewarden/engine/SearchTuples" "taken" "[I" u_taken_a1) :
    MetFree l (⟨"com/example/tracewarden/tracewarden/engine/SearchTuples", "<init>", "(IILcom/example/tracewarden/tracewarden/engine/SearchBudget;)V"⟩ : MethodName) (head1 (Jvm.Cond.code (⟨"com/example/tracewarden/tracewarden/engine/SearchTuples", "<init>", "(IILcom/example/tracewarden/tracewarden/engine/SearchBudget;)V"⟩ : MethodName) prog_86_method_1_code 4 none :: ws) ({ frames := 1, cells := 13, slots := 219, locals := 12 } : Room)) (fun a U => a = #[(.ref a1), (.int (1 : Int32)), (.int (1 : Int32)), (.ref a4)] ∧ Z.Warmed39 U.vm ∧ U.heap = h0) (fun _ _ _ _ _ => True) (fun _ U o U' => ∃ v L, o = .returned v ∧ Q_rm5 Z a1 a4 u_states_a1 u_hashes_a1 u_zones_a1 u_sameStates_a1 u_held_a1 u_parents_a1 u_events_a1 u_ranks_a1 u_slots_a1 u_budget_a1 u_width_a1 u_ranked_a1 u_reached_a1 u_taken_a1 h0 n0 v U'.heap L ∧ FrameEnd U o U' L ({ frames := 1, cells := 13, slots := 219, locals := 12 } : Room).cells ({ frames := 1, cells := 13, slots := 219, locals := 12 } : Room).slots) := by
  refine MetFree.of_bodySF (plainFor_of_name pn_95) hisR ?_
  intro p e s m args below meth c s₁ Bd hml0 hP hK
  obtain ⟨rfl, hZ, hh⟩ := hP
  have hx := Bd.exec
  have hby := Bd.bytes
  have hml : c.maxLocals = 4 := hml0
  have hown : s.vm.findClass "com/example/tracewarden/tracewarden/engine/SearchTuples" = some m.cls := findClass_of_methodNamed Bd.named
  have hnm := (name_of_methodNamed Bd.named Bd.method).1
  have X0 : Stand p l e ({ frames := 1, cells := 13, slots := 219, locals := 12 } : Room) s m #[(.ref a1), (.int (1 : Int32)), (.int (1 : Int32)), (.ref a4)] below meth c s₁ [] 0 0 := Stand.of_body Bd
  have e0 : s₁.heap = h0 := by rw [← hh, Bd.state]; rfl
  have N0 := Fr.nil n0
  show Go p e below (s₁.setTop (entryFrame m #[(.ref a1), (.int (1 : Int32)), (.int (1 : Int32)), (.ref a4)] 4)) (fun o U' => ∃ v L, o = .returned v ∧ Q_rm5 Z a1 a4 u_states_a1 u_hashes_a1 u_zones_a1 u_sameStates_a1 u_held_a1 u_parents_a1 u_events_a1 u_ranks_a1 u_slots_a1 u_budget_a1 u_width_a1 u_ranked_a1 u_reached_a1 u_taken_a1 h0 n0 v U'.heap L ∧ FrameEnd s o U' L ({ frames := 1, cells := 13, slots := 219, locals := 12 } : Room).cells ({ frames := 1, cells := 13, slots := 219, locals := 12 } : Room).slots)
  rw [ef_rm5]
  refine Gk.aloadN X0 hx (hb hby d5_0) rfl rfl ?_
  refine Gk.initO X0 hx hZ hown (hw _ (List.mem_of_getElem? (i := 38) rfl)) (hw _ (List.mem_of_getElem? (i := 15) rfl)) (hw _ (List.mem_of_getElem? (i := 16) rfl)) e0 (by rw [hml]; rfl) (hb hby d5_1) (by decide) (Nat.le_of_ble_eq_true rfl) ?_
  intro T1 X1 e1
  refine Gk.aloadN X1 hx (hb hby d5_4) rfl rfl ?_
  refine Gk.bipush X1 hx (hb hby d5_5) (64 : Int32) rfl ?_
  refine Gk.newP X1 hx hZ (hw _ (List.mem_of_getElem? (i := 0) rfl)) e1 (hb hby d5_7) (by decide) (cap := 64) (by decide) (by decide) (by decide) (by decide) rfl ?_
  intro T2 h2 b2 k2 X2 e2 E2 g2 A2 B2
  have g_b2 : n0 ≤ b2 := Nat.le_trans Z0 (Nat.le_of_eq g2.symm)
  have V_b2 : Arf Z h2 b2 k2 .int (64 : Int32) (fun _ => (.int (0 : Int32))) := A2
  have lt_b2 := V_b2.lt
  have H3 := (E_a1.ext E2)
  have H4 := (F_states_a1.ext E2)
  refine Gk.putF X2 hx hZ hown (host := "") (Or.inl (hw _ (List.mem_of_getElem? (i := 39) rfl))) Via.refl e2 H4 H3 (Or.inl (hw _ (List.mem_of_getElem? (i := 40) rfl))) (hw _ (List.mem_of_getElem? (i := 23) rfl)) (ty := (.array .int)) (by decide) rfl rfl (hb hby d5_9) ?_
  intro T5 h5 X5 e5 W5
  have Fw5 := H4.same W5
  have N5 := Fr.snoc X5 N0 g_a1
  refine Gk.aloadN X5 hx (hb hby d5_12) rfl rfl ?_
  refine Gk.bipush X5 hx (hb hby d5_13) (16 : Int32) rfl ?_
  refine Gk.newP X5 hx hZ (hw _ (List.mem_of_getElem? (i := 0) rfl)) e5 (hb hby d5_15) (by decide) (cap := 16) (by decide) (by decide) (by decide) (by decide) rfl ?_
  intro T6 h6 b6 k6 X6 e6 E6 g6 A6 B6
  have g_b6 : n0 ≤ b6 := Nat.le_trans (Nat.le_trans Z0 (Nat.le_trans E2.1 (Keep.of_wr W5).1)) (Nat.le_of_eq g6.symm)
  have V_b6 : Arf Z h6 b6 k6 .int (16 : Int32) (fun _ => (.int (0 : Int32))) := A6
  have lt_b6 := V_b6.lt
  have H7 := ((H3.wr W5).ext E6)
  have H8 := (((F_hashes_a1.ext E2).other W5 (Or.inr (slot_ne (Or.inl (hw _ (List.mem_of_getElem? (i := 42) rfl))) (Or.inl (hw _ (List.mem_of_getElem? (i := 40) rfl))) (by decide) (t := (.array .int)) (t' := (.array .int)) (by decide) (by decide)))).ext E6)
  refine Gk.putF X6 hx hZ hown (host := "") (Or.inl (hw _ (List.mem_of_getElem? (i := 41) rfl))) Via.refl e6 H8 H7 (Or.inl (hw _ (List.mem_of_getElem? (i := 42) rfl))) (hw _ (List.mem_of_getElem? (i := 23) rfl)) (ty := (.array .int)) (by decide) rfl rfl (hb hby d5_17) ?_
  intro T9 h9 X9 e9 W9
  have Fw9 := H8.same W9
  have N9 := Fr.snoc X9 N5 g_a1
  refine Gk.aloadN X9 hx (hb hby d5_20) rfl rfl ?_
  refine Gk.bipush X9 hx (hb hby d5_21) (16 : Int32) rfl ?_
  have gr11 := (Nat.le_trans (Nat.le_trans (Nat.le_trans E2.1 (Keep.of_wr W5).1) E6.1) (Keep.of_wr W9).1)
  refine Gk.newR X9 hx hZ hown (hw _ (List.mem_of_getElem? (i := 43) rfl)) (hw _ (List.mem_of_getElem? (i := 44) rfl)) e9 (hb hby d5_23) (by decide) (cap := 16) (by decide) (by decide) (by decide) (by decide) rfl ?_
  intro T10 h10 b10 k10 X10 e10 E10 g10 A10 B10 O10
  have g_b10 : n0 ≤ b10 := Nat.le_trans (Nat.le_trans Z0 gr11) (Nat.le_of_eq g10.symm)
  have V_b10 : Arf Z h10 b10 k10 (.object "com/example/tracewarden/tracewarden/engine/Zone") (16 : Int32) (fun _ => .null) := A10
  have lt_b10 := V_b10.lt
  have H12 := ((H7.wr W9).ext E10)
  have H13 := (((((F_zones_a1.ext E2).other W5 (Or.inr (slot_ne (Or.inl (hw _ (List.mem_of_getElem? (i := 46) rfl))) (Or.inl (hw _ (List.mem_of_getElem? (i := 40) rfl))) (by decide) (t := (.array (.object "com/example/tracewarden/tracewarden/engine/Zone"))) (t' := (.array .int)) (by decide) (by decide)))).ext E6).other W9 (Or.inr (slot_ne (Or.inl (hw _ (List.mem_of_getElem? (i := 46) rfl))) (Or.inl (hw _ (List.mem_of_getElem? (i := 42) rfl))) (by decide) (t := (.array (.object "com/example/tracewarden/tracewarden/engine/Zone"))) (t' := (.array .int)) (by decide) (by decide)))).ext E10)
  refine Gk.putF X10 hx hZ hown (host := "") (Or.inl (hw _ (List.mem_of_getElem? (i := 45) rfl))) Via.refl e10 H13 H12 (Or.inl (hw _ (List.mem_of_getElem? (i := 46) rfl))) (hw _ (List.mem_of_getElem? (i := 23) rfl)) (ty := (.array (.object "com/example/tracewarden/tracewarden/engine/Zone"))) (by decide) rfl rfl (hb hby d5_26) ?_
  intro T14 h14 X14 e14 W14
  have Fw14 := H13.same W14
  have N14 := Fr.snoc X14 N9 g_a1
  refine Gk.aloadN X14 hx (hb hby d5_29) rfl rfl ?_
  refine Gk.bipush X14 hx (hb hby d5_30) (16 : Int32) rfl ?_
  have gr16 := (Nat.le_trans (Nat.le_trans gr11 E10.1) (Keep.of_wr W14).1)
  refine Gk.newP X14 hx hZ (hw _ (List.mem_of_getElem? (i := 0) rfl)) e14 (hb hby d5_32) (by decide) (cap := 16) (by decide) (by decide) (by decide) (by decide) rfl ?_
  intro T15 h15 b15 k15 X15 e15 E15 g15 A15 B15
  have g_b15 : n0 ≤ b15 := Nat.le_trans (Nat.le_trans Z0 gr16) (Nat.le_of_eq g15.symm)
  have V_b15 : Arf Z h15 b15 k15 .int (16 : Int32) (fun _ => (.int (0 : Int32))) := A15
  have lt_b15 := V_b15.lt
  have H17 := ((H12.wr W14).ext E15)
  have H18 := (((((((F_sameStates_a1.ext E2).other W5 (Or.inr (slot_ne (Or.inl (hw _ (List.mem_of_getElem? (i := 48) rfl))) (Or.inl (hw _ (List.mem_of_getElem? (i := 40) rfl))) (by decide) (t := (.array .int)) (t' := (.array .int)) (by decide) (by decide)))).ext E6).other W9 (Or.inr (slot_ne (Or.inl (hw _ (List.mem_of_getElem? (i := 48) rfl))) (Or.inl (hw _ (List.mem_of_getElem? (i := 42) rfl))) (by decide) (t := (.array .int)) (t' := (.array .int)) (by decide) (by decide)))).ext E10).other W14 (Or.inr (slot_ne (Or.inl (hw _ (List.mem_of_getElem? (i := 48) rfl))) (Or.inl (hw _ (List.mem_of_getElem? (i := 46) rfl))) (by decide) (t := (.array .int)) (t' := (.array (.object "com/example/tracewarden/tracewarden/engine/Zone"))) (by decide) (by decide)))).ext E15)
  refine Gk.putF X15 hx hZ hown (host := "") (Or.inl (hw _ (List.mem_of_getElem? (i := 47) rfl))) Via.refl e15 H18 H17 (Or.inl (hw _ (List.mem_of_getElem? (i := 48) rfl))) (hw _ (List.mem_of_getElem? (i := 23) rfl)) (ty := (.array .int)) (by decide) rfl rfl (hb hby d5_34) ?_
  intro T19 h19 X19 e19 W19
  have Fw19 := H18.same W19
  have N19 := Fr.snoc X19 N14 g_a1
  refine Gk.aloadN X19 hx (hb hby d5_37) rfl rfl ?_
  refine Gk.bipush X19 hx (hb hby d5_38) (16 : Int32) rfl ?_
  have gr21 := (Nat.le_trans (Nat.le_trans gr16 E15.1) (Keep.of_wr W19).1)
  refine Gk.newP X19 hx hZ (hw _ (List.mem_of_getElem? (i := 49) rfl)) e19 (hb hby d5_40) (by decide) (cap := 16) (by decide) (by decide) (by decide) (by decide) rfl ?_
  intro T20 h20 b20 k20 X20 e20 E20 g20 A20 B20
  have g_b20 : n0 ≤ b20 := Nat.le_trans (Nat.le_trans Z0 gr21) (Nat.le_of_eq g20.symm)
  have V_b20 : Arf Z h20 b20 k20 .boolean (16 : Int32) (fun _ => (.int (0 : Int32))) := A20
  have lt_b20 := V_b20.lt
  have H22 := ((H17.wr W19).ext E20)
  have H23 := (((((((((F_held_a1.ext E2).other W5 (Or.inr (slot_ne (Or.inl (hw _ (List.mem_of_getElem? (i := 51) rfl))) (Or.inl (hw _ (List.mem_of_getElem? (i := 40) rfl))) (by decide) (t := (.array .boolean)) (t' := (.array .int)) (by decide) (by decide)))).ext E6).other W9 (Or.inr (slot_ne (Or.inl (hw _ (List.mem_of_getElem? (i := 51) rfl))) (Or.inl (hw _ (List.mem_of_getElem? (i := 42) rfl))) (by decide) (t := (.array .boolean)) (t' := (.array .int)) (by decide) (by decide)))).ext E10).other W14 (Or.inr (slot_ne (Or.inl (hw _ (List.mem_of_getElem? (i := 51) rfl))) (Or.inl (hw _ (List.mem_of_getElem? (i := 46) rfl))) (by decide) (t := (.array .boolean)) (t' := (.array (.object "com/example/tracewarden/tracewarden/engine/Zone"))) (by decide) (by decide)))).ext E15).other W19 (Or.inr (slot_ne (Or.inl (hw _ (List.mem_of_getElem? (i := 51) rfl))) (Or.inl (hw _ (List.mem_of_getElem? (i := 48) rfl))) (by decide) (t := (.array .boolean)) (t' := (.array .int)) (by decide) (by decide)))).ext E20)
  refine Gk.putF X20 hx hZ hown (host := "") (Or.inl (hw _ (List.mem_of_getElem? (i := 50) rfl))) Via.refl e20 H23 H22 (Or.inl (hw _ (List.mem_of_getElem? (i := 51) rfl))) (hw _ (List.mem_of_getElem? (i := 23) rfl)) (ty := (.array .boolean)) (by decide) rfl rfl (hb hby d5_42) ?_
  intro T24 h24 X24 e24 W24
  have Fw24 := H23.same W24
  have N24 := Fr.snoc X24 N19 g_a1
  refine Gk.aloadN X24 hx (hb hby d5_45) rfl rfl ?_
  refine Gk.bipush X24 hx (hb hby d5_46) (16 : Int32) rfl ?_
  have gr26 := (Nat.le_trans (Nat.le_trans gr21 E20.1) (Keep.of_wr W24).1)
  refine Gk.newP X24 hx hZ (hw _ (List.mem_of_getElem? (i := 0) rfl)) e24 (hb hby d5_48) (by decide) (cap := 16) (by decide) (by decide) (by decide) (by decide) rfl ?_
  intro T25 h25 b25 k25 X25 e25 E25 g25 A25 B25
  have g_b25 : n0 ≤ b25 := Nat.le_trans (Nat.le_trans Z0 gr26) (Nat.le_of_eq g25.symm)
  have V_b25 : Arf Z h25 b25 k25 .int (16 : Int32) (fun _ => (.int (0 : Int32))) := A25
  have lt_b25 := V_b25.lt
  have H27 := ((H22.wr W24).ext E25)
  have H28 := (((((((((((F_parents_a1.ext E2).other W5 (Or.inr (slot_ne (Or.inl (hw _ (List.mem_of_getElem? (i := 53) rfl))) (Or.inl (hw _ (List.mem_of_getElem? (i := 40) rfl))) (by decide) (t := (.array .int)) (t' := (.array .int)) (by decide) (by decide)))).ext E6).other W9 (Or.inr (slot_ne (Or.inl (hw _ (List.mem_of_getElem? (i := 53) rfl))) (Or.inl (hw _ (List.mem_of_getElem? (i := 42) rfl))) (by decide) (t := (.array .int)) (t' := (.array .int)) (by decide) (by decide)))).ext E10).other W14 (Or.inr (slot_ne (Or.inl (hw _ (List.mem_of_getElem? (i := 53) rfl))) (Or.inl (hw _ (List.mem_of_getElem? (i := 46) rfl))) (by decide) (t := (.array .int)) (t' := (.array (.object "com/example/tracewarden/tracewarden/engine/Zone"))) (by decide) (by decide)))).ext E15).other W19 (Or.inr (slot_ne (Or.inl (hw _ (List.mem_of_getElem? (i := 53) rfl))) (Or.inl (hw _ (List.mem_of_getElem? (i := 48) rfl))) (by decide) (t := (.array .int)) (t' := (.array .int)) (by decide) (by decide)))).ext E20).other W24 (Or.inr (slot_ne (Or.inl (hw _ (List.mem_of_getElem? (i := 53) rfl))) (Or.inl (hw _ (List.mem_of_getElem? (i := 51) rfl))) (by decide) (t := (.array .int)) (t' := (.array .boolean)) (by decide) (by decide)))).ext E25)
  refine Gk.putF X25 hx hZ hown (host := "") (Or.inl (hw _ (List.mem_of_getElem? (i := 52) rfl))) Via.refl e25 H28 H27 (Or.inl (hw _ (List.mem_of_getElem? (i := 53) rfl))) (hw _ (List.mem_of_getElem? (i := 23) rfl)) (ty := (.array .int)) (by decide) rfl rfl (hb hby d5_50) ?_
  intro T29 h29 X29 e29 W29
  have Fw29 := H28.same W29
  have N29 := Fr.snoc X29 N24 g_a1
  refine Gk.aloadN X29 hx (hb hby d5_53) rfl rfl ?_
  refine Gk.bipush X29 hx (hb hby d5_54) (16 : Int32) rfl ?_
  have gr31 := (Nat.le_trans (Nat.le_trans gr26 E25.1) (Keep.of_wr W29).1)
  refine Gk.newR X29 hx hZ hown (hw _ (List.mem_of_getElem? (i := 54) rfl)) (hw _ (List.mem_of_getElem? (i := 3) rfl)) e29 (hb hby d5_56) (by decide) (cap := 16) (by decide) (by decide) (by decide) (by decide) rfl ?_
  intro T30 h30 b30 k30 X30 e30 E30 g30 A30 B30 O30
  have g_b30 : n0 ≤ b30 := Nat.le_trans (Nat.le_trans Z0 gr31) (Nat.le_of_eq g30.symm)
  have V_b30 : Arf Z h30 b30 k30 (.object "com/example/tracewarden/tracewarden/engine/SearchTuples$Event") (16 : Int32) (fun _ => .null) := A30
  have lt_b30 := V_b30.lt
  have H32 := ((H27.wr W29).ext E30)
  have H33 := (((((((((((((F_events_a1.ext E2).other W5 (Or.inr (slot_ne (Or.inl (hw _ (List.mem_of_getElem? (i := 56) rfl))) (Or.inl (hw _ (List.mem_of_getElem? (i := 40) rfl))) (by decide) (t := (.array (.object "com/example/tracewarden/tracewarden/engine/SearchTuples$Event"))) (t' := (.array .int)) (by decide) (by decide)))).ext E6).other W9 (Or.inr (slot_ne (Or.inl (hw _ (List.mem_of_getElem? (i := 56) rfl))) (Or.inl (hw _ (List.mem_of_getElem? (i := 42) rfl))) (by decide) (t := (.array (.object "com/example/tracewarden/tracewarden/engine/SearchTuples$Event"))) (t' := (.array .int)) (by decide) (by decide)))).ext E10).other W14 (Or.inr (slot_ne (Or.inl (hw _ (List.mem_of_getElem? (i := 56) rfl))) (Or.inl (hw _ (List.mem_of_getElem? (i := 46) rfl))) (by decide) (t := (.array (.object "com/example/tracewarden/tracewarden/engine/SearchTuples$Event"))) (t' := (.array (.object "com/example/tracewarden/tracewarden/engine/Zone"))) (by decide) (by decide)))).ext E15).other W19 (Or.inr (slot_ne (Or.inl (hw _ (List.mem_of_getElem? (i := 56) rfl))) (Or.inl (hw _ (List.mem_of_getElem? (i := 48) rfl))) (by decide) (t := (.array (.object "com/example/tracewarden/tracewarden/engine/SearchTuples$Event"))) (t' := (.array .int)) (by decide) (by decide)))).ext E20).other W24 (Or.inr (slot_ne (Or.inl (hw _ (List.mem_of_getElem? (i := 56) rfl))) (Or.inl (hw _ (List.mem_of_getElem? (i := 51) rfl))) (by decide) (t := (.array (.object "com/example/tracewarden/tracewarden/engine/SearchTuples$Event"))) (t' := (.array .boolean)) (by decide) (by decide)))).ext E25).other W29 (Or.inr (slot_ne (Or.inl (hw _ (List.mem_of_getElem? (i := 56) rfl))) (Or.inl (hw _ (List.mem_of_getElem? (i := 53) rfl))) (by decide) (t := (.array (.object "com/example/tracewarden/tracewarden/engine/SearchTuples$Event"))) (t' := (.array .int)) (by decide) (by decide)))).ext E30)
  refine Gk.putF X30 hx hZ hown (host := "") (Or.inl (hw _ (List.mem_of_getElem? (i := 55) rfl))) Via.refl e30 H33 H32 (Or.inl (hw _ (List.mem_of_getElem? (i := 56) rfl))) (hw _ (List.mem_of_getElem? (i := 23) rfl)) (ty := (.array (.object "com/example/tracewarden/tracewarden/engine/SearchTuples$Event"))) (by decide) rfl rfl (hb hby d5_59) ?_
  intro T34 h34 X34 e34 W34
  have Fw34 := H33.same W34
  have N34 := Fr.snoc X34 N29 g_a1
  refine Gk.aloadN X34 hx (hb hby d5_62) rfl rfl ?_
  refine Gk.bipush X34 hx (hb hby d5_63) (16 : Int32) rfl ?_
  have gr36 := (Nat.le_trans (Nat.le_trans gr31 E30.1) (Keep.of_wr W34).1)
  refine Gk.newP X34 hx hZ (hw _ (List.mem_of_getElem? (i := 0) rfl)) e34 (hb hby d5_65) (by decide) (cap := 16) (by decide) (by decide) (by decide) (by decide) rfl ?_
  intro T35 h35 b35 k35 X35 e35 E35 g35 A35 B35
  have g_b35 : n0 ≤ b35 := Nat.le_trans (Nat.le_trans Z0 gr36) (Nat.le_of_eq g35.symm)
  have V_b35 : Arf Z h35 b35 k35 .int (16 : Int32) (fun _ => (.int (0 : Int32))) := A35
  have lt_b35 := V_b35.lt
  have H37 := ((H32.wr W34).ext E35)
  have H38 := (((((((((((((((F_ranks_a1.ext E2).other W5 (Or.inr (slot_ne (Or.inl (hw _ (List.mem_of_getElem? (i := 58) rfl))) (Or.inl (hw _ (List.mem_of_getElem? (i := 40) rfl))) (by decide) (t := (.array .int)) (t' := (.array .int)) (by decide) (by decide)))).ext E6).other W9 (Or.inr (slot_ne (Or.inl (hw _ (List.mem_of_getElem? (i := 58) rfl))) (Or.inl (hw _ (List.mem_of_getElem? (i := 42) rfl))) (by decide) (t := (.array .int)) (t' := (.array .int)) (by decide) (by decide)))).ext E10).other W14 (Or.inr (slot_ne (Or.inl (hw _ (List.mem_of_getElem? (i := 58) rfl))) (Or.inl (hw _ (List.mem_of_getElem? (i := 46) rfl))) (by decide) (t := (.array .int)) (t' := (.array (.object "com/example/tracewarden/tracewarden/engine/Zone"))) (by decide) (by decide)))).ext E15).other W19 (Or.inr (slot_ne (Or.inl (hw _ (List.mem_of_getElem? (i := 58) rfl))) (Or.inl (hw _ (List.mem_of_getElem? (i := 48) rfl))) (by decide) (t := (.array .int)) (t' := (.array .int)) (by decide) (by decide)))).ext E20).other W24 (Or.inr (slot_ne (Or.inl (hw _ (List.mem_of_getElem? (i := 58) rfl))) (Or.inl (hw _ (List.mem_of_getElem? (i := 51) rfl))) (by decide) (t := (.array .int)) (t' := (.array .boolean)) (by decide) (by decide)))).ext E25).other W29 (Or.inr (slot_ne (Or.inl (hw _ (List.mem_of_getElem? (i := 58) rfl))) (Or.inl (hw _ (List.mem_of_getElem? (i := 53) rfl))) (by decide) (t := (.array .int)) (t' := (.array .int)) (by decide) (by decide)))).ext E30).other W34 (Or.inr (slot_ne (Or.inl (hw _ (List.mem_of_getElem? (i := 58) rfl))) (Or.inl (hw _ (List.mem_of_getElem? (i := 56) rfl))) (by decide) (t := (.array .int)) (t' := (.array (.object "com/example/tracewarden/tracewarden/engine/SearchTuples$Event"))) (by decide) (by decide)))).ext E35)
  refine Gk.putF X35 hx hZ hown (host := "") (Or.inl (hw _ (List.mem_of_getElem? (i := 57) rfl))) Via.refl e35 H38 H37 (Or.inl (hw _ (List.mem_of_getElem? (i := 58) rfl))) (hw _ (List.mem_of_getElem? (i := 23) rfl)) (ty := (.array .int)) (by decide) rfl rfl (hb hby d5_67) ?_
  intro T39 h39 X39 e39 W39
  have Fw39 := H38.same W39
  have N39 := Fr.snoc X39 N34 g_a1
  refine Gk.aloadN X39 hx (hb hby d5_70) rfl rfl ?_
  refine Gk.bipush X39 hx (hb hby d5_71) (32 : Int32) rfl ?_
  have gr41 := (Nat.le_trans (Nat.le_trans gr36 E35.1) (Keep.of_wr W39).1)
  refine Gk.newP X39 hx hZ (hw _ (List.mem_of_getElem? (i := 0) rfl)) e39 (hb hby d5_73) (by decide) (cap := 32) (by decide) (by decide) (by decide) (by decide) rfl ?_
  intro T40 h40 b40 k40 X40 e40 E40 g40 A40 B40
  have g_b40 : n0 ≤ b40 := Nat.le_trans (Nat.le_trans Z0 gr41) (Nat.le_of_eq g40.symm)
  have V_b40 : Arf Z h40 b40 k40 .int (32 : Int32) (fun _ => (.int (0 : Int32))) := A40
  have lt_b40 := V_b40.lt
  have H42 := ((H37.wr W39).ext E40)
  have H43 := (((((((((((((((((F_slots_a1.ext E2).other W5 (Or.inr (slot_ne (Or.inl (hw _ (List.mem_of_getElem? (i := 60) rfl))) (Or.inl (hw _ (List.mem_of_getElem? (i := 40) rfl))) (by decide) (t := (.array .int)) (t' := (.array .int)) (by decide) (by decide)))).ext E6).other W9 (Or.inr (slot_ne (Or.inl (hw _ (List.mem_of_getElem? (i := 60) rfl))) (Or.inl (hw _ (List.mem_of_getElem? (i := 42) rfl))) (by decide) (t := (.array .int)) (t' := (.array .int)) (by decide) (by decide)))).ext E10).other W14 (Or.inr (slot_ne (Or.inl (hw _ (List.mem_of_getElem? (i := 60) rfl))) (Or.inl (hw _ (List.mem_of_getElem? (i := 46) rfl))) (by decide) (t := (.array .int)) (t' := (.array (.object "com/example/tracewarden/tracewarden/engine/Zone"))) (by decide) (by decide)))).ext E15).other W19 (Or.inr (slot_ne (Or.inl (hw _ (List.mem_of_getElem? (i := 60) rfl))) (Or.inl (hw _ (List.mem_of_getElem? (i := 48) rfl))) (by decide) (t := (.array .int)) (t' := (.array .int)) (by decide) (by decide)))).ext E20).other W24 (Or.inr (slot_ne (Or.inl (hw _ (List.mem_of_getElem? (i := 60) rfl))) (Or.inl (hw _ (List.mem_of_getElem? (i := 51) rfl))) (by decide) (t := (.array .int)) (t' := (.array .boolean)) (by decide) (by decide)))).ext E25).other W29 (Or.inr (slot_ne (Or.inl (hw _ (List.mem_of_getElem? (i := 60) rfl))) (Or.inl (hw _ (List.mem_of_getElem? (i := 53) rfl))) (by decide) (t := (.array .int)) (t' := (.array .int)) (by decide) (by decide)))).ext E30).other W34 (Or.inr (slot_ne (Or.inl (hw _ (List.mem_of_getElem? (i := 60) rfl))) (Or.inl (hw _ (List.mem_of_getElem? (i := 56) rfl))) (by decide) (t := (.array .int)) (t' := (.array (.object "com/example/tracewarden/tracewarden/engine/SearchTuples$Event"))) (by decide) (by decide)))).ext E35).other W39 (Or.inr (slot_ne (Or.inl (hw _ (List.mem_of_getElem? (i := 60) rfl))) (Or.inl (hw _ (List.mem_of_getElem? (i := 58) rfl))) (by decide) (t := (.array .int)) (t' := (.array .int)) (by decide) (by decide)))).ext E40)
  refine Gk.putF X40 hx hZ hown (host := "") (Or.inl (hw _ (List.mem_of_getElem? (i := 59) rfl))) Via.refl e40 H43 H42 (Or.inl (hw _ (List.mem_of_getElem? (i := 60) rfl))) (hw _ (List.mem_of_getElem? (i := 23) rfl)) (ty := (.array .int)) (by decide) rfl rfl (hb hby d5_75) ?_
  intro T44 h44 X44 e44 W44
  have Fw44 := H43.same W44
  have N44 := Fr.snoc X44 N39 g_a1
  refine Gk.aloadN X44 hx (hb hby d5_78) rfl rfl ?_
  refine Gk.aloadN X44 hx (hb hby d5_79) rfl rfl ?_
  have H45 := (H42.wr W44)
  have H46 := ((((((((((((((((((F_budget_a1.ext E2).other W5 (Or.inr (slot_ne (Or.inr (hw _ (List.mem_of_getElem? (i := 62) rfl))) (Or.inl (hw _ (List.mem_of_getElem? (i := 40) rfl))) (by decide) (t := (.object "com/example/tracewarden/tracewarden/engine/SearchBudget")) (t' := (.array .int)) (by decide) (by decide)))).ext E6).other W9 (Or.inr (slot_ne (Or.inr (hw _ (List.mem_of_getElem? (i := 62) rfl))) (Or.inl (hw _ (List.mem_of_getElem? (i := 42) rfl))) (by decide) (t := (.object "com/example/tracewarden/tracewarden/engine/SearchBudget")) (t' := (.array .int)) (by decide) (by decide)))).ext E10).other W14 (Or.inr (slot_ne (Or.inr (hw _ (List.mem_of_getElem? (i := 62) rfl))) (Or.inl (hw _ (List.mem_of_getElem? (i := 46) rfl))) (by decide) (t := (.object "com/example/tracewarden/tracewarden/engine/SearchBudget")) (t' := (.array (.object "com/example/tracewarden/tracewarden/engine/Zone"))) (by decide) (by decide)))).ext E15).other W19 (Or.inr (slot_ne (Or.inr (hw _ (List.mem_of_getElem? (i := 62) rfl))) (Or.inl (hw _ (List.mem_of_getElem? (i := 48) rfl))) (by decide) (t := (.object "com/example/tracewarden/tracewarden/engine/SearchBudget")) (t' := (.array .int)) (by decide) (by decide)))).ext E20).other W24 (Or.inr (slot_ne (Or.inr (hw _ (List.mem_of_getElem? (i := 62) rfl))) (Or.inl (hw _ (List.mem_of_getElem? (i := 51) rfl))) (by decide) (t := (.object "com/example/tracewarden/tracewarden/engine/SearchBudget")) (t' := (.array .boolean)) (by decide) (by decide)))).ext E25).other W29 (Or.inr (slot_ne (Or.inr (hw _ (List.mem_of_getElem? (i := 62) rfl))) (Or.inl (hw _ (List.mem_of_getElem? (i := 53) rfl))) (by decide) (t := (.object "com/example/tracewarden/tracewarden/engine/SearchBudget")) (t' := (.array .int)) (by decide) (by decide)))).ext E30).other W34 (Or.inr (slot_ne (Or.inr (hw _ (List.mem_of_getElem? (i := 62) rfl))) (Or.inl (hw _ (List.mem_of_getElem? (i := 56) rfl))) (by decide) (t := (.object "com/example/tracewarden/tracewarden/engine/SearchBudget")) (t' := (.array (.object "com/example/tracewarden/tracewarden/engine/SearchTuples$Event"))) (by decide) (by decide)))).ext E35).other W39 (Or.inr (slot_ne (Or.inr (hw _ (List.mem_of_getElem? (i := 62) rfl))) (Or.inl (hw _ (List.mem_of_getElem? (i := 58) rfl))) (by decide) (t := (.object "com/example/tracewarden/tracewarden/engine/SearchBudget")) (t' := (.array .int)) (by decide) (by decide)))).ext E40).other W44 (Or.inr (slot_ne (Or.inr (hw _ (List.mem_of_getElem? (i := 62) rfl))) (Or.inl (hw _ (List.mem_of_getElem? (i := 60) rfl))) (by decide) (t := (.object "com/example/tracewarden/tracewarden/engine/SearchBudget")) (t' := (.array .int)) (by decide) (by decide))))
  refine Gk.putF X44 hx hZ hown (host := "") (Or.inl (hw _ (List.mem_of_getElem? (i := 61) rfl))) Via.refl e44 H46 H45 (Or.inr ⟨(hw _ (List.mem_of_getElem? (i := 62) rfl)), rfl, hnm⟩) (hw _ (List.mem_of_getElem? (i := 23) rfl)) (ty := (.object "com/example/tracewarden/tracewarden/engine/SearchBudget")) (by decide) rfl rfl (hb hby d5_80) ?_
  intro T47 h47 X47 e47 W47
  have Fw47 := H46.same W47
  have N47 := Fr.snoc X47 N44 g_a1
  refine Gk.aloadN X47 hx (hb hby d5_83) rfl rfl ?_
  refine Gk.iloadN X47 hx (hb hby d5_84) rfl ?_
  have H48 := (H45.wr W47)
  have H49 := (((((((((((((((((((F_width_a1.ext E2).other W5 (Or.inr (slot_ne (Or.inl (hw _ (List.mem_of_getElem? (i := 64) rfl))) (Or.inl (hw _ (List.mem_of_getElem? (i := 40) rfl))) (by decide) (t := .int) (t' := (.array .int)) (by decide) (by decide)))).ext E6).other W9 (Or.inr (slot_ne (Or.inl (hw _ (List.mem_of_getElem? (i := 64) rfl))) (Or.inl (hw _ (List.mem_of_getElem? (i := 42) rfl))) (by decide) (t := .int) (t' := (.array .int)) (by decide) (by decide)))).ext E10).other W14 (Or.inr (slot_ne (Or.inl (hw _ (List.mem_of_getElem? (i := 64) rfl))) (Or.inl (hw _ (List.mem_of_getElem? (i := 46) rfl))) (by decide) (t := .int) (t' := (.array (.object "com/example/tracewarden/tracewarden/engine/Zone"))) (by decide) (by decide)))).ext E15).other W19 (Or.inr (slot_ne (Or.inl (hw _ (List.mem_of_getElem? (i := 64) rfl))) (Or.inl (hw _ (List.mem_of_getElem? (i := 48) rfl))) (by decide) (t := .int) (t' := (.array .int)) (by decide) (by decide)))).ext E20).other W24 (Or.inr (slot_ne (Or.inl (hw _ (List.mem_of_getElem? (i := 64) rfl))) (Or.inl (hw _ (List.mem_of_getElem? (i := 51) rfl))) (by decide) (t := .int) (t' := (.array .boolean)) (by decide) (by decide)))).ext E25).other W29 (Or.inr (slot_ne (Or.inl (hw _ (List.mem_of_getElem? (i := 64) rfl))) (Or.inl (hw _ (List.mem_of_getElem? (i := 53) rfl))) (by decide) (t := .int) (t' := (.array .int)) (by decide) (by decide)))).ext E30).other W34 (Or.inr (slot_ne (Or.inl (hw _ (List.mem_of_getElem? (i := 64) rfl))) (Or.inl (hw _ (List.mem_of_getElem? (i := 56) rfl))) (by decide) (t := .int) (t' := (.array (.object "com/example/tracewarden/tracewarden/engine/SearchTuples$Event"))) (by decide) (by decide)))).ext E35).other W39 (Or.inr (slot_ne (Or.inl (hw _ (List.mem_of_getElem? (i := 64) rfl))) (Or.inl (hw _ (List.mem_of_getElem? (i := 58) rfl))) (by decide) (t := .int) (t' := (.array .int)) (by decide) (by decide)))).ext E40).other W44 (Or.inr (slot_ne (Or.inl (hw _ (List.mem_of_getElem? (i := 64) rfl))) (Or.inl (hw _ (List.mem_of_getElem? (i := 60) rfl))) (by decide) (t := .int) (t' := (.array .int)) (by decide) (by decide)))).other W47 (Or.inr (slot_ne (Or.inl (hw _ (List.mem_of_getElem? (i := 64) rfl))) (Or.inr (hw _ (List.mem_of_getElem? (i := 62) rfl))) (by decide) (t := .int) (t' := (.object "com/example/tracewarden/tracewarden/engine/SearchBudget")) (by decide) (by decide))))
  refine Gk.putF X47 hx hZ hown (host := "") (Or.inl (hw _ (List.mem_of_getElem? (i := 63) rfl))) Via.refl e47 H49 H48 (Or.inl (hw _ (List.mem_of_getElem? (i := 64) rfl))) (hw _ (List.mem_of_getElem? (i := 23) rfl)) (ty := .int) (by decide) rfl rfl (hb hby d5_85) ?_
  intro T50 h50 X50 e50 W50
  have Fw50 := H49.same W50
  have N50 := Fr.snoc X50 N47 g_a1
  refine Gk.aloadN X50 hx (hb hby d5_88) rfl rfl ?_
  refine Gk.iloadN X50 hx (hb hby d5_89) rfl ?_
  refine Gk.bipush X50 hx (hb hby d5_90) (8 : Int32) rfl ?_
  have gr52 := (Nat.le_trans (Nat.le_trans (Nat.le_trans (Nat.le_trans gr41 E40.1) (Keep.of_wr W44).1) (Keep.of_wr W47).1) (Keep.of_wr W50).1)
  refine Gk.grid1 X50 hx hZ hown (C := "[I") rfl rfl (hw _ (List.mem_of_getElem? (i := 65) rfl)) (hw _ (List.mem_of_getElem? (i := 66) rfl)) (hw _ (List.mem_of_getElem? (i := 0) rfl)) e50 (hb hby d5_92) (by decide) (cap := 8) (by decide) (by decide) rfl rfl (by decide) (by decide) ?_
  intro T51 h51 b51 i51 k51 c51 X51 e51 E51 g51 r51 V_b51 A51 B51 C51 O51
  have V_i51 : Arf Z h51 i51 c51 .int (8 : Int32) (fun _ => (.int (0 : Int32))) := A51
  have g_b51 : n0 ≤ b51 := Nat.le_trans (Nat.le_trans Z0 gr52) (Nat.le_of_eq g51.symm)
  have le_i51 : h50.size ≤ i51 := by rw [r51]; exact Nat.le_succ _
  have ord_51 : b51 < i51 := by rw [r51, g51]; exact Nat.lt_succ_self _
  have g_i51 : n0 ≤ i51 := Nat.le_trans (Nat.le_trans Z0 gr52) le_i51
  have lt_b51 := V_b51.lt
  have lt_i51 := V_i51.lt
  have H53 := ((H48.wr W50).ext E51)
  have H54 := (((((((((((((((((((((F_ranked_a1.ext E2).other W5 (Or.inr (slot_ne (Or.inl (hw _ (List.mem_of_getElem? (i := 68) rfl))) (Or.inl (hw _ (List.mem_of_getElem? (i := 40) rfl))) (by decide) (t := (.array (.array .int))) (t' := (.array .int)) (by decide) (by decide)))).ext E6).other W9 (Or.inr (slot_ne (Or.inl (hw _ (List.mem_of_getElem? (i := 68) rfl))) (Or.inl (hw _ (List.mem_of_getElem? (i := 42) rfl))) (by decide) (t := (.array (.array .int))) (t' := (.array .int)) (by decide) (by decide)))).ext E10).other W14 (Or.inr (slot_ne (Or.inl (hw _ (List.mem_of_getElem? (i := 68) rfl))) (Or.inl (hw _ (List.mem_of_getElem? (i := 46) rfl))) (by decide) (t := (.array (.array .int))) (t' := (.array (.object "com/example/tracewarden/tracewarden/engine/Zone"))) (by decide) (by decide)))).ext E15).other W19 (Or.inr (slot_ne (Or.inl (hw _ (List.mem_of_getElem? (i := 68) rfl))) (Or.inl (hw _ (List.mem_of_getElem? (i := 48) rfl))) (by decide) (t := (.array (.array .int))) (t' := (.array .int)) (by decide) (by decide)))).ext E20).other W24 (Or.inr (slot_ne (Or.inl (hw _ (List.mem_of_getElem? (i := 68) rfl))) (Or.inl (hw _ (List.mem_of_getElem? (i := 51) rfl))) (by decide) (t := (.array (.array .int))) (t' := (.array .boolean)) (by decide) (by decide)))).ext E25).other W29 (Or.inr (slot_ne (Or.inl (hw _ (List.mem_of_getElem? (i := 68) rfl))) (Or.inl (hw _ (List.mem_of_getElem? (i := 53) rfl))) (by decide) (t := (.array (.array .int))) (t' := (.array .int)) (by decide) (by decide)))).ext E30).other W34 (Or.inr (slot_ne (Or.inl (hw _ (List.mem_of_getElem? (i := 68) rfl))) (Or.inl (hw _ (List.mem_of_getElem? (i := 56) rfl))) (by decide) (t := (.array (.array .int))) (t' := (.array (.object "com/example/tracewarden/tracewarden/engine/SearchTuples$Event"))) (by decide) (by decide)))).ext E35).other W39 (Or.inr (slot_ne (Or.inl (hw _ (List.mem_of_getElem? (i := 68) rfl))) (Or.inl (hw _ (List.mem_of_getElem? (i := 58) rfl))) (by decide) (t := (.array (.array .int))) (t' := (.array .int)) (by decide) (by decide)))).ext E40).other W44 (Or.inr (slot_ne (Or.inl (hw _ (List.mem_of_getElem? (i := 68) rfl))) (Or.inl (hw _ (List.mem_of_getElem? (i := 60) rfl))) (by decide) (t := (.array (.array .int))) (t' := (.array .int)) (by decide) (by decide)))).other W47 (Or.inr (slot_ne (Or.inl (hw _ (List.mem_of_getElem? (i := 68) rfl))) (Or.inr (hw _ (List.mem_of_getElem? (i := 62) rfl))) (by decide) (t := (.array (.array .int))) (t' := (.object "com/example/tracewarden/tracewarden/engine/SearchBudget")) (by decide) (by decide)))).other W50 (Or.inr (slot_ne (Or.inl (hw _ (List.mem_of_getElem? (i := 68) rfl))) (Or.inl (hw _ (List.mem_of_getElem? (i := 64) rfl))) (by decide) (t := (.array (.array .int))) (t' := .int) (by decide) (by decide)))).ext E51)
  refine Gk.putF X51 hx hZ hown (host := "") (Or.inl (hw _ (List.mem_of_getElem? (i := 67) rfl))) Via.refl e51 H54 H53 (Or.inl (hw _ (List.mem_of_getElem? (i := 68) rfl))) (hw _ (List.mem_of_getElem? (i := 23) rfl)) (ty := (.array (.array .int))) (by decide) rfl rfl (hb hby d5_96) ?_
  intro T55 h55 X55 e55 W55
  have Fw55 := H54.same W55
  have N55 := Fr.snoc X55 N50 g_a1
  refine Gk.aloadN X55 hx (hb hby d5_99) rfl rfl ?_
  refine Gk.iloadN X55 hx (hb hby d5_100) rfl ?_
  have gr57 := (Nat.le_trans (Nat.le_trans gr52 E51.1) (Keep.of_wr W55).1)
  refine Gk.newP X55 hx hZ (hw _ (List.mem_of_getElem? (i := 0) rfl)) e55 (hb hby d5_101) (by decide) (cap := 1) (by decide) (by decide) (by decide) (by decide) rfl ?_
  intro T56 h56 b56 k56 X56 e56 E56 g56 A56 B56
  have g_b56 : n0 ≤ b56 := Nat.le_trans (Nat.le_trans Z0 gr57) (Nat.le_of_eq g56.symm)
  have V_b56 : Arf Z h56 b56 k56 .int (1 : Int32) (fun _ => (.int (0 : Int32))) := A56
  have lt_b56 := V_b56.lt
  have H58 := ((H53.wr W55).ext E56)
  have H59 := (((((((((((((((((((((((F_reached_a1.ext E2).other W5 (Or.inr (slot_ne (Or.inl (hw _ (List.mem_of_getElem? (i := 70) rfl))) (Or.inl (hw _ (List.mem_of_getElem? (i := 40) rfl))) (by decide) (t := (.array .int)) (t' := (.array .int)) (by decide) (by decide)))).ext E6).other W9 (Or.inr (slot_ne (Or.inl (hw _ (List.mem_of_getElem? (i := 70) rfl))) (Or.inl (hw _ (List.mem_of_getElem? (i := 42) rfl))) (by decide) (t := (.array .int)) (t' := (.array .int)) (by decide) (by decide)))).ext E10).other W14 (Or.inr (slot_ne (Or.inl (hw _ (List.mem_of_getElem? (i := 70) rfl))) (Or.inl (hw _ (List.mem_of_getElem? (i := 46) rfl))) (by decide) (t := (.array .int)) (t' := (.array (.object "com/example/tracewarden/tracewarden/engine/Zone"))) (by decide) (by decide)))).ext E15).other W19 (Or.inr (slot_ne (Or.inl (hw _ (List.mem_of_getElem? (i := 70) rfl))) (Or.inl (hw _ (List.mem_of_getElem? (i := 48) rfl))) (by decide) (t := (.array .int)) (t' := (.array .int)) (by decide) (by decide)))).ext E20).other W24 (Or.inr (slot_ne (Or.inl (hw _ (List.mem_of_getElem? (i := 70) rfl))) (Or.inl (hw _ (List.mem_of_getElem? (i := 51) rfl))) (by decide) (t := (.array .int)) (t' := (.array .boolean)) (by decide) (by decide)))).ext E25).other W29 (Or.inr (slot_ne (Or.inl (hw _ (List.mem_of_getElem? (i := 70) rfl))) (Or.inl (hw _ (List.mem_of_getElem? (i := 53) rfl))) (by decide) (t := (.array .int)) (t' := (.array .int)) (by decide) (by decide)))).ext E30).other W34 (Or.inr (slot_ne (Or.inl (hw _ (List.mem_of_getElem? (i := 70) rfl))) (Or.inl (hw _ (List.mem_of_getElem? (i := 56) rfl))) (by decide) (t := (.array .int)) (t' := (.array (.object "com/example/tracewarden/tracewarden/engine/SearchTuples$Event"))) (by decide) (by decide)))).ext E35).other W39 (Or.inr (slot_ne (Or.inl (hw _ (List.mem_of_getElem? (i := 70) rfl))) (Or.inl (hw _ (List.mem_of_getElem? (i := 58) rfl))) (by decide) (t := (.array .int)) (t' := (.array .int)) (by decide) (by decide)))).ext E40).other W44 (Or.inr (slot_ne (Or.inl (hw _ (List.mem_of_getElem? (i := 70) rfl))) (Or.inl (hw _ (List.mem_of_getElem? (i := 60) rfl))) (by decide) (t := (.array .int)) (t' := (.array .int)) (by decide) (by decide)))).other W47 (Or.inr (slot_ne (Or.inl (hw _ (List.mem_of_getElem? (i := 70) rfl))) (Or.inr (hw _ (List.mem_of_getElem? (i := 62) rfl))) (by decide) (t := (.array .int)) (t' := (.object "com/example/tracewarden/tracewarden/engine/SearchBudget")) (by decide) (by decide)))).other W50 (Or.inr (slot_ne (Or.inl (hw _ (List.mem_of_getElem? (i := 70) rfl))) (Or.inl (hw _ (List.mem_of_getElem? (i := 64) rfl))) (by decide) (t := (.array .int)) (t' := .int) (by decide) (by decide)))).ext E51).other W55 (Or.inr (slot_ne (Or.inl (hw _ (List.mem_of_getElem? (i := 70) rfl))) (Or.inl (hw _ (List.mem_of_getElem? (i := 68) rfl))) (by decide) (t := (.array .int)) (t' := (.array (.array .int))) (by decide) (by decide)))).ext E56)
  refine Gk.putF X56 hx hZ hown (host := "") (Or.inl (hw _ (List.mem_of_getElem? (i := 69) rfl))) Via.refl e56 H59 H58 (Or.inl (hw _ (List.mem_of_getElem? (i := 70) rfl))) (hw _ (List.mem_of_getElem? (i := 23) rfl)) (ty := (.array .int)) (by decide) rfl rfl (hb hby d5_103) ?_
  intro T60 h60 X60 e60 W60
  have Fw60 := H59.same W60
  have N60 := Fr.snoc X60 N55 g_a1
  refine Gk.aloadN X60 hx (hb hby d5_106) rfl rfl ?_
  refine Gk.iloadN X60 hx (hb hby d5_107) rfl ?_
  have gr62 := (Nat.le_trans (Nat.le_trans gr57 E56.1) (Keep.of_wr W60).1)
  refine Gk.newP X60 hx hZ (hw _ (List.mem_of_getElem? (i := 0) rfl)) e60 (hb hby d5_108) (by decide) (cap := 1) (by decide) (by decide) (by decide) (by decide) rfl ?_
  intro T61 h61 b61 k61 X61 e61 E61 g61 A61 B61
  have g_b61 : n0 ≤ b61 := Nat.le_trans (Nat.le_trans Z0 gr62) (Nat.le_of_eq g61.symm)
  have V_b61 : Arf Z h61 b61 k61 .int (1 : Int32) (fun _ => (.int (0 : Int32))) := A61
  have lt_b61 := V_b61.lt
  have H63 := ((H58.wr W60).ext E61)
  have H64 := (((((((((((((((((((((((((F_taken_a1.ext E2).other W5 (Or.inr (slot_ne (Or.inl (hw _ (List.mem_of_getElem? (i := 72) rfl))) (Or.inl (hw _ (List.mem_of_getElem? (i := 40) rfl))) (by decide) (t := (.array .int)) (t' := (.array .int)) (by decide) (by decide)))).ext E6).other W9 (Or.inr (slot_ne (Or.inl (hw _ (List.mem_of_getElem? (i := 72) rfl))) (Or.inl (hw _ (List.mem_of_getElem? (i := 42) rfl))) (by decide) (t := (.array .int)) (t' := (.array .int)) (by decide) (by decide)))).ext E10).other W14 (Or.inr (slot_ne (Or.inl (hw _ (List.mem_of_getElem? (i := 72) rfl))) (Or.inl (hw _ (List.mem_of_getElem? (i := 46) rfl))) (by decide) (t := (.array .int)) (t' := (.array (.object "com/example/tracewarden/tracewarden/engine/Zone"))) (by decide) (by decide)))).ext E15).other W19 (Or.inr (slot_ne (Or.inl (hw _ (List.mem_of_getElem? (i := 72) rfl))) (Or.inl (hw _ (List.mem_of_getElem? (i := 48) rfl))) (by decide) (t := (.array .int)) (t' := (.array .int)) (by decide) (by decide)))).ext E20).other W24 (Or.inr (slot_ne (Or.inl (hw _ (List.mem_of_getElem? (i := 72) rfl))) (Or.inl (hw _ (List.mem_of_getElem? (i := 51) rfl))) (by decide) (t := (.array .int)) (t' := (.array .boolean)) (by decide) (by decide)))).ext E25).other W29 (Or.inr (slot_ne (Or.inl (hw _ (List.mem_of_getElem? (i := 72) rfl))) (Or.inl (hw _ (List.mem_of_getElem? (i := 53) rfl))) (by decide) (t := (.array .int)) (t' := (.array .int)) (by decide) (by decide)))).ext E30).other W34 (Or.inr (slot_ne (Or.inl (hw _ (List.mem_of_getElem? (i := 72) rfl))) (Or.inl (hw _ (List.mem_of_getElem? (i := 56) rfl))) (by decide) (t := (.array .int)) (t' := (.array (.object "com/example/tracewarden/tracewarden/engine/SearchTuples$Event"))) (by decide) (by decide)))).ext E35).other W39 (Or.inr (slot_ne (Or.inl (hw _ (List.mem_of_getElem? (i := 72) rfl))) (Or.inl (hw _ (List.mem_of_getElem? (i := 58) rfl))) (by decide) (t := (.array .int)) (t' := (.array .int)) (by decide) (by decide)))).ext E40).other W44 (Or.inr (slot_ne (Or.inl (hw _ (List.mem_of_getElem? (i := 72) rfl))) (Or.inl (hw _ (List.mem_of_getElem? (i := 60) rfl))) (by decide) (t := (.array .int)) (t' := (.array .int)) (by decide) (by decide)))).other W47 (Or.inr (slot_ne (Or.inl (hw _ (List.mem_of_getElem? (i := 72) rfl))) (Or.inr (hw _ (List.mem_of_getElem? (i := 62) rfl))) (by decide) (t := (.array .int)) (t' := (.object "com/example/tracewarden/tracewarden/engine/SearchBudget")) (by decide) (by decide)))).other W50 (Or.inr (slot_ne (Or.inl (hw _ (List.mem_of_getElem? (i := 72) rfl))) (Or.inl (hw _ (List.mem_of_getElem? (i := 64) rfl))) (by decide) (t := (.array .int)) (t' := .int) (by decide) (by decide)))).ext E51).other W55 (Or.inr (slot_ne (Or.inl (hw _ (List.mem_of_getElem? (i := 72) rfl))) (Or.inl (hw _ (List.mem_of_getElem? (i := 68) rfl))) (by decide) (t := (.array .int)) (t' := (.array (.array .int))) (by decide) (by decide)))).ext E56).other W60 (Or.inr (slot_ne (Or.inl (hw _ (List.mem_of_getElem? (i := 72) rfl))) (Or.inl (hw _ (List.mem_of_getElem? (i := 70) rfl))) (by decide) (t := (.array .int)) (t' := (.array .int)) (by decide) (by decide)))).ext E61)
  refine Gk.putF X61 hx hZ hown (host := "") (Or.inl (hw _ (List.mem_of_getElem? (i := 71) rfl))) Via.refl e61 H64 H63 (Or.inl (hw _ (List.mem_of_getElem? (i := 72) rfl))) (hw _ (List.mem_of_getElem? (i := 23) rfl)) (ty := (.array .int)) (by decide) rfl rfl (hb hby d5_110) ?_
  intro T65 h65 X65 e65 W65
  have Fw65 := H64.same W65
  have N65 := Fr.snoc X65 N60 g_a1
  have gr66 := (Nat.le_trans (Nat.le_trans (Keep.of_wr W44).1 (Keep.of_wr W47).1) (Keep.of_wr W50).1)
  have H67 := (((((((Fw47.other W50 (Or.inr (slot_ne (Or.inr (hw _ (List.mem_of_getElem? (i := 62) rfl))) (Or.inl (hw _ (List.mem_of_getElem? (i := 64) rfl))) (by decide) (t := (.object "com/example/tracewarden/tracewarden/engine/SearchBudget")) (t' := .int) (by decide) (by decide)))).ext E51).other W55 (Or.inr (slot_ne (Or.inr (hw _ (List.mem_of_getElem? (i := 62) rfl))) (Or.inl (hw _ (List.mem_of_getElem? (i := 68) rfl))) (by decide) (t := (.object "com/example/tracewarden/tracewarden/engine/SearchBudget")) (t' := (.array (.array .int))) (by decide) (by decide)))).ext E56).other W60 (Or.inr (slot_ne (Or.inr (hw _ (List.mem_of_getElem? (i := 62) rfl))) (Or.inl (hw _ (List.mem_of_getElem? (i := 70) rfl))) (by decide) (t := (.object "com/example/tracewarden/tracewarden/engine/SearchBudget")) (t' := (.array .int)) (by decide) (by decide)))).ext E61).other W65 (Or.inr (slot_ne (Or.inr (hw _ (List.mem_of_getElem? (i := 62) rfl))) (Or.inl (hw _ (List.mem_of_getElem? (i := 72) rfl))) (by decide) (t := (.object "com/example/tracewarden/tracewarden/engine/SearchBudget")) (t' := (.array .int)) (by decide) (by decide))))
  have H68 := ((((((((((((((((((((((((Fw5.ext E6).other W9 (Or.inr (slot_ne (Or.inl (hw _ (List.mem_of_getElem? (i := 40) rfl))) (Or.inl (hw _ (List.mem_of_getElem? (i := 42) rfl))) (by decide) (t := (.array .int)) (t' := (.array .int)) (by decide) (by decide)))).ext E10).other W14 (Or.inr (slot_ne (Or.inl (hw _ (List.mem_of_getElem? (i := 40) rfl))) (Or.inl (hw _ (List.mem_of_getElem? (i := 46) rfl))) (by decide) (t := (.array .int)) (t' := (.array (.object "com/example/tracewarden/tracewarden/engine/Zone"))) (by decide) (by decide)))).ext E15).other W19 (Or.inr (slot_ne (Or.inl (hw _ (List.mem_of_getElem? (i := 40) rfl))) (Or.inl (hw _ (List.mem_of_getElem? (i := 48) rfl))) (by decide) (t := (.array .int)) (t' := (.array .int)) (by decide) (by decide)))).ext E20).other W24 (Or.inr (slot_ne (Or.inl (hw _ (List.mem_of_getElem? (i := 40) rfl))) (Or.inl (hw _ (List.mem_of_getElem? (i := 51) rfl))) (by decide) (t := (.array .int)) (t' := (.array .boolean)) (by decide) (by decide)))).ext E25).other W29 (Or.inr (slot_ne (Or.inl (hw _ (List.mem_of_getElem? (i := 40) rfl))) (Or.inl (hw _ (List.mem_of_getElem? (i := 53) rfl))) (by decide) (t := (.array .int)) (t' := (.array .int)) (by decide) (by decide)))).ext E30).other W34 (Or.inr (slot_ne (Or.inl (hw _ (List.mem_of_getElem? (i := 40) rfl))) (Or.inl (hw _ (List.mem_of_getElem? (i := 56) rfl))) (by decide) (t := (.array .int)) (t' := (.array (.object "com/example/tracewarden/tracewarden/engine/SearchTuples$Event"))) (by decide) (by decide)))).ext E35).other W39 (Or.inr (slot_ne (Or.inl (hw _ (List.mem_of_getElem? (i := 40) rfl))) (Or.inl (hw _ (List.mem_of_getElem? (i := 58) rfl))) (by decide) (t := (.array .int)) (t' := (.array .int)) (by decide) (by decide)))).ext E40).other W44 (Or.inr (slot_ne (Or.inl (hw _ (List.mem_of_getElem? (i := 40) rfl))) (Or.inl (hw _ (List.mem_of_getElem? (i := 60) rfl))) (by decide) (t := (.array .int)) (t' := (.array .int)) (by decide) (by decide)))).other W47 (Or.inr (slot_ne (Or.inl (hw _ (List.mem_of_getElem? (i := 40) rfl))) (Or.inr (hw _ (List.mem_of_getElem? (i := 62) rfl))) (by decide) (t := (.array .int)) (t' := (.object "com/example/tracewarden/tracewarden/engine/SearchBudget")) (by decide) (by decide)))).other W50 (Or.inr (slot_ne (Or.inl (hw _ (List.mem_of_getElem? (i := 40) rfl))) (Or.inl (hw _ (List.mem_of_getElem? (i := 64) rfl))) (by decide) (t := (.array .int)) (t' := .int) (by decide) (by decide)))).ext E51).other W55 (Or.inr (slot_ne (Or.inl (hw _ (List.mem_of_getElem? (i := 40) rfl))) (Or.inl (hw _ (List.mem_of_getElem? (i := 68) rfl))) (by decide) (t := (.array .int)) (t' := (.array (.array .int))) (by decide) (by decide)))).ext E56).other W60 (Or.inr (slot_ne (Or.inl (hw _ (List.mem_of_getElem? (i := 40) rfl))) (Or.inl (hw _ (List.mem_of_getElem? (i := 70) rfl))) (by decide) (t := (.array .int)) (t' := (.array .int)) (by decide) (by decide)))).ext E61).other W65 (Or.inr (slot_ne (Or.inl (hw _ (List.mem_of_getElem? (i := 40) rfl))) (Or.inl (hw _ (List.mem_of_getElem? (i := 72) rfl))) (by decide) (t := (.array .int)) (t' := (.array .int)) (by decide) (by decide))))
  have H69 := ((((((((((((((((((((((Fw9.ext E10).other W14 (Or.inr (slot_ne (Or.inl (hw _ (List.mem_of_getElem? (i := 42) rfl))) (Or.inl (hw _ (List.mem_of_getElem? (i := 46) rfl))) (by decide) (t := (.array .int)) (t' := (.array (.object "com/example/tracewarden/tracewarden/engine/Zone"))) (by decide) (by decide)))).ext E15).other W19 (Or.inr (slot_ne (Or.inl (hw _ (List.mem_of_getElem? (i := 42) rfl))) (Or.inl (hw _ (List.mem_of_getElem? (i := 48) rfl))) (by decide) (t := (.array .int)) (t' := (.array .int)) (by decide) (by decide)))).ext E20).other W24 (Or.inr (slot_ne (Or.inl (hw _ (List.mem_of_getElem? (i := 42) rfl))) (Or.inl (hw _ (List.mem_of_getElem? (i := 51) rfl))) (by decide) (t := (.array .int)) (t' := (.array .boolean)) (by decide) (by decide)))).ext E25).other W29 (Or.inr (slot_ne (Or.inl (hw _ (List.mem_of_getElem? (i := 42) rfl))) (Or.inl (hw _ (List.mem_of_getElem? (i := 53) rfl))) (by decide) (t := (.array .int)) (t' := (.array .int)) (by decide) (by decide)))).ext E30).other W34 (Or.inr (slot_ne (Or.inl (hw _ (List.mem_of_getElem? (i := 42) rfl))) (Or.inl (hw _ (List.mem_of_getElem? (i := 56) rfl))) (by decide) (t := (.array .int)) (t' := (.array (.object "com/example/tracewarden/tracewarden/engine/SearchTuples$Event"))) (by decide) (by decide)))).ext E35).other W39 (Or.inr (slot_ne (Or.inl (hw _ (List.mem_of_getElem? (i := 42) rfl))) (Or.inl (hw _ (List.mem_of_getElem? (i := 58) rfl))) (by decide) (t := (.array .int)) (t' := (.array .int)) (by decide) (by decide)))).ext E40).other W44 (Or.inr (slot_ne (Or.inl (hw _ (List.mem_of_getElem? (i := 42) rfl))) (Or.inl (hw _ (List.mem_of_getElem? (i := 60) rfl))) (by decide) (t := (.array .int)) (t' := (.array .int)) (by decide) (by decide)))).other W47 (Or.inr (slot_ne (Or.inl (hw _ (List.mem_of_getElem? (i := 42) rfl))) (Or.inr (hw _ (List.mem_of_getElem? (i := 62) rfl))) (by decide) (t := (.array .int)) (t' := (.object "com/example/tracewarden/tracewarden/engine/SearchBudget")) (by decide) (by decide)))).other W50 (Or.inr (slot_ne (Or.inl (hw _ (List.mem_of_getElem? (i := 42) rfl))) (Or.inl (hw _ (List.mem_of_getElem? (i := 64) rfl))) (by decide) (t := (.array .int)) (t' := .int) (by decide) (by decide)))).ext E51).other W55 (Or.inr (slot_ne (Or.inl (hw _ (List.mem_of_getElem? (i := 42) rfl))) (Or.inl (hw _ (List.mem_of_getElem? (i := 68) rfl))) (by decide) (t := (.array .int)) (t' := (.array (.array .int))) (by decide) (by decide)))).ext E56).other W60 (Or.inr (slot_ne (Or.inl (hw _ (List.mem_of_getElem? (i := 42) rfl))) (Or.inl (hw _ (List.mem_of_getElem? (i := 70) rfl))) (by decide) (t := (.array .int)) (t' := (.array .int)) (by decide) (by decide)))).ext E61).other W65 (Or.inr (slot_ne (Or.inl (hw _ (List.mem_of_getElem? (i := 42) rfl))) (Or.inl (hw _ (List.mem_of_getElem? (i := 72) rfl))) (by decide) (t := (.array .int)) (t' := (.array .int)) (by decide) (by decide))))
  have H70 := ((((((((((((((((((((Fw14.ext E15).other W19 (Or.inr (slot_ne (Or.inl (hw _ (List.mem_of_getElem? (i := 46) rfl))) (Or.inl (hw _ (List.mem_of_getElem? (i := 48) rfl))) (by decide) (t := (.array (.object "com/example/tracewarden/tracewarden/engine/Zone"))) (t' := (.array .int)) (by decide) (by decide)))).ext E20).other W24 (Or.inr (slot_ne (Or.inl (hw _ (List.mem_of_getElem? (i := 46) rfl))) (Or.inl (hw _ (List.mem_of_getElem? (i := 51) rfl))) (by decide) (t := (.array (.object "com/example/tracewarden/tracewarden/engine/Zone"))) (t' := (.array .boolean)) (by decide) (by decide)))).ext E25).other W29 (Or.inr (slot_ne (Or.inl (hw _ (List.mem_of_getElem? (i := 46) rfl))) (Or.inl (hw _ (List.mem_of_getElem? (i := 53) rfl))) (by decide) (t := (.array (.object "com/example/tracewarden/tracewarden/engine/Zone"))) (t' := (.array .int)) (by decide) (by decide)))).ext E30).other W34 (Or.inr (slot_ne (Or.inl (hw _ (List.mem_of_getElem? (i := 46) rfl))) (Or.inl (hw _ (List.mem_of_getElem? (i := 56) rfl))) (by decide) (t := (.array (.object "com/example/tracewarden/tracewarden/engine/Zone"))) (t' := (.array (.object "com/example/tracewarden/tracewarden/engine/SearchTuples$Event"))) (by decide) (by decide)))).ext E35).other W39 (Or.inr (slot_ne (Or.inl (hw _ (List.mem_of_getElem? (i := 46) rfl))) (Or.inl (hw _ (List.mem_of_getElem? (i := 58) rfl))) (by decide) (t := (.array (.object "com/example/tracewarden/tracewarden/engine/Zone"))) (t' := (.array .int)) (by decide) (by decide)))).ext E40).other W44 (Or.inr (slot_ne (Or.inl (hw _ (List.mem_of_getElem? (i := 46) rfl))) (Or.inl (hw _ (List.mem_of_getElem? (i := 60) rfl))) (by decide) (t := (.array (.object "com/example/tracewarden/tracewarden/engine/Zone"))) (t' := (.array .int)) (by decide) (by decide)))).other W47 (Or.inr (slot_ne (Or.inl (hw _ (List.mem_of_getElem? (i := 46) rfl))) (Or.inr (hw _ (List.mem_of_getElem? (i := 62) rfl))) (by decide) (t := (.array (.object "com/example/tracewarden/tracewarden/engine/Zone"))) (t' := (.object "com/example/tracewarden/tracewarden/engine/SearchBudget")) (by decide) (by decide)))).other W50 (Or.inr (slot_ne (Or.inl (hw _ (List.mem_of_getElem? (i := 46) rfl))) (Or.inl (hw _ (List.mem_of_getElem? (i := 64) rfl))) (by decide) (t := (.array (.object "com/example/tracewarden/tracewarden/engine/Zone"))) (t' := .int) (by decide) (by decide)))).ext E51).other W55 (Or.inr (slot_ne (Or.inl (hw _ (List.mem_of_getElem? (i := 46) rfl))) (Or.inl (hw _ (List.mem_of_getElem? (i := 68) rfl))) (by decide) (t := (.array (.object "com/example/tracewarden/tracewarden/engine/Zone"))) (t' := (.array (.array .int))) (by decide) (by decide)))).ext E56).other W60 (Or.inr (slot_ne (Or.inl (hw _ (List.mem_of_getElem? (i := 46) rfl))) (Or.inl (hw _ (List.mem_of_getElem? (i := 70) rfl))) (by decide) (t := (.array (.object "com/example/tracewarden/tracewarden/engine/Zone"))) (t' := (.array .int)) (by decide) (by decide)))).ext E61).other W65 (Or.inr (slot_ne (Or.inl (hw _ (List.mem_of_getElem? (i := 46) rfl))) (Or.inl (hw _ (List.mem_of_getElem? (i := 72) rfl))) (by decide) (t := (.array (.object "com/example/tracewarden/tracewarden/engine/Zone"))) (t' := (.array .int)) (by decide) (by decide))))
  have H71 := ((((((((((((((((((Fw19.ext E20).other W24 (Or.inr (slot_ne (Or.inl (hw _ (List.mem_of_getElem? (i := 48) rfl))) (Or.inl (hw _ (List.mem_of_getElem? (i := 51) rfl))) (by decide) (t := (.array .int)) (t' := (.array .boolean)) (by decide) (by decide)))).ext E25).other W29 (Or.inr (slot_ne (Or.inl (hw _ (List.mem_of_getElem? (i := 48) rfl))) (Or.inl (hw _ (List.mem_of_getElem? (i := 53) rfl))) (by decide) (t := (.array .int)) (t' := (.array .int)) (by decide) (by decide)))).ext E30).other W34 (Or.inr (slot_ne (Or.inl (hw _ (List.mem_of_getElem? (i := 48) rfl))) (Or.inl (hw _ (List.mem_of_getElem? (i := 56) rfl))) (by decide) (t := (.array .int)) (t' := (.array (.object "com/example/tracewarden/tracewarden/engine/SearchTuples$Event"))) (by decide) (by decide)))).ext E35).other W39 (Or.inr (slot_ne (Or.inl (hw _ (List.mem_of_getElem? (i := 48) rfl))) (Or.inl (hw _ (List.mem_of_getElem? (i := 58) rfl))) (by decide) (t := (.array .int)) (t' := (.array .int)) (by decide) (by decide)))).ext E40).other W44 (Or.inr (slot_ne (Or.inl (hw _ (List.mem_of_getElem? (i := 48) rfl))) (Or.inl (hw _ (List.mem_of_getElem? (i := 60) rfl))) (by decide) (t := (.array .int)) (t' := (.array .int)) (by decide) (by decide)))).other W47 (Or.inr (slot_ne (Or.inl (hw _ (List.mem_of_getElem? (i := 48) rfl))) (Or.inr (hw _ (List.mem_of_getElem? (i := 62) rfl))) (by decide) (t := (.array .int)) (t' := (.object "com/example/tracewarden/tracewarden/engine/SearchBudget")) (by decide) (by decide)))).other W50 (Or.inr (slot_ne (Or.inl (hw _ (List.mem_of_getElem? (i := 48) rfl))) (Or.inl (hw _ (List.mem_of_getElem? (i := 64) rfl))) (by decide) (t := (.array .int)) (t' := .int) (by decide) (by decide)))).ext E51).other W55 (Or.inr (slot_ne (Or.inl (hw _ (List.mem_of_getElem? (i := 48) rfl))) (Or.inl (hw _ (List.mem_of_getElem? (i := 68) rfl))) (by decide) (t := (.array .int)) (t' := (.array (.array .int))) (by decide) (by decide)))).ext E56).other W60 (Or.inr (slot_ne (Or.inl (hw _ (List.mem_of_getElem? (i := 48) rfl))) (Or.inl (hw _ (List.mem_of_getElem? (i := 70) rfl))) (by decide) (t := (.array .int)) (t' := (.array .int)) (by decide) (by decide)))).ext E61).other W65 (Or.inr (slot_ne (Or.inl (hw _ (List.mem_of_getElem? (i := 48) rfl))) (Or.inl (hw _ (List.mem_of_getElem? (i := 72) rfl))) (by decide) (t := (.array .int)) (t' := (.array .int)) (by decide) (by decide))))
  have H72 := ((((((((((((((((Fw24.ext E25).other W29 (Or.inr (slot_ne (Or.inl (hw _ (List.mem_of_getElem? (i := 51) rfl))) (Or.inl (hw _ (List.mem_of_getElem? (i := 53) rfl))) (by decide) (t := (.array .boolean)) (t' := (.array .int)) (by decide) (by decide)))).ext E30).other W34 (Or.inr (slot_ne (Or.inl (hw _ (List.mem_of_getElem? (i := 51) rfl))) (Or.inl (hw _ (List.mem_of_getElem? (i := 56) rfl))) (by decide) (t := (.array .boolean)) (t' := (.array (.object "com/example/tracewarden/tracewarden/engine/SearchTuples$Event"))) (by decide) (by decide)))).ext E35).other W39 (Or.inr (slot_ne (Or.inl (hw _ (List.mem_of_getElem? (i := 51) rfl))) (Or.inl (hw _ (List.mem_of_getElem? (i := 58) rfl))) (by decide) (t := (.array .boolean)) (t' := (.array .int)) (by decide) (by decide)))).ext E40).other W44 (Or.inr (slot_ne (Or.inl (hw _ (List.mem_of_getElem? (i := 51) rfl))) (Or.inl (hw _ (List.mem_of_getElem? (i := 60) rfl))) (by decide) (t := (.array .boolean)) (t' := (.array .int)) (by decide) (by decide)))).other W47 (Or.inr (slot_ne (Or.inl (hw _ (List.mem_of_getElem? (i := 51) rfl))) (Or.inr (hw _ (List.mem_of_getElem? (i := 62) rfl))) (by decide) (t := (.array .boolean)) (t' := (.object "com/example/tracewarden/tracewarden/engine/SearchBudget")) (by decide) (by decide)))).other W50 (Or.inr (slot_ne (Or.inl (hw _ (List.mem_of_getElem? (i := 51) rfl))) (Or.inl (hw _ (List.mem_of_getElem? (i := 64) rfl))) (by decide) (t := (.array .boolean)) (t' := .int) (by decide) (by decide)))).ext E51).other W55 (Or.inr (slot_ne (Or.inl (hw _ (List.mem_of_getElem? (i := 51) rfl))) (Or.inl (hw _ (List.mem_of_getElem? (i := 68) rfl))) (by decide) (t := (.array .boolean)) (t' := (.array (.array .int))) (by decide) (by decide)))).ext E56).other W60 (Or.inr (slot_ne (Or.inl (hw _ (List.mem_of_getElem? (i := 51) rfl))) (Or.inl (hw _ (List.mem_of_getElem? (i := 70) rfl))) (by decide) (t := (.array .boolean)) (t' := (.array .int)) (by decide) (by decide)))).ext E61).other W65 (Or.inr (slot_ne (Or.inl (hw _ (List.mem_of_getElem? (i := 51) rfl))) (Or.inl (hw _ (List.mem_of_getElem? (i := 72) rfl))) (by decide) (t := (.array .boolean)) (t' := (.array .int)) (by decide) (by decide))))
  have H73 := ((((((((((((((Fw29.ext E30).other W34 (Or.inr (slot_ne (Or.inl (hw _ (List.mem_of_getElem? (i := 53) rfl))) (Or.inl (hw _ (List.mem_of_getElem? (i := 56) rfl))) (by decide) (t := (.array .int)) (t' := (.array (.object "com/example/tracewarden/tracewarden/engine/SearchTuples$Event"))) (by decide) (by decide)))).ext E35).other W39 (Or.inr (slot_ne (Or.inl (hw _ (List.mem_of_getElem? (i := 53) rfl))) (Or.inl (hw _ (List.mem_of_getElem? (i := 58) rfl))) (by decide) (t := (.array .int)) (t' := (.array .int)) (by decide) (by decide)))).ext E40).other W44 (Or.inr (slot_ne (Or.inl (hw _ (List.mem_of_getElem? (i := 53) rfl))) (Or.inl (hw _ (List.mem_of_getElem? (i := 60) rfl))) (by decide) (t := (.array .int)) (t' := (.array .int)) (by decide) (by decide)))).other W47 (Or.inr (slot_ne (Or.inl (hw _ (List.mem_of_getElem? (i := 53) rfl))) (Or.inr (hw _ (List.mem_of_getElem? (i := 62) rfl))) (by decide) (t := (.array .int)) (t' := (.object "com/example/tracewarden/tracewarden/engine/SearchBudget")) (by decide) (by decide)))).other W50 (Or.inr (slot_ne (Or.inl (hw _ (List.mem_of_getElem? (i := 53) rfl))) (Or.inl (hw _ (List.mem_of_getElem? (i := 64) rfl))) (by decide) (t := (.array .int)) (t' := .int) (by decide) (by decide)))).ext E51).other W55 (Or.inr (slot_ne (Or.inl (hw _ (List.mem_of_getElem? (i := 53) rfl))) (Or.inl (hw _ (List.mem_of_getElem? (i := 68) rfl))) (by decide) (t := (.array .int)) (t' := (.array (.array .int))) (by decide) (by decide)))).ext E56).other W60 (Or.inr (slot_ne (Or.inl (hw _ (List.mem_of_getElem? (i := 53) rfl))) (Or.inl (hw _ (List.mem_of_getElem? (i := 70) rfl))) (by decide) (t := (.array .int)) (t' := (.array .int)) (by decide) (by decide)))).ext E61).other W65 (Or.inr (slot_ne (Or.inl (hw _ (List.mem_of_getElem? (i := 53) rfl))) (Or.inl (hw _ (List.mem_of_getElem? (i := 72) rfl))) (by decide) (t := (.array .int)) (t' := (.array .int)) (by decide) (by decide))))
  have H74 := ((((((((((((Fw34.ext E35).other W39 (Or.inr (slot_ne (Or.inl (hw _ (List.mem_of_getElem? (i := 56) rfl))) (Or.inl (hw _ (List.mem_of_getElem? (i := 58) rfl))) (by decide) (t := (.array (.object "com/example/tracewarden/tracewarden/engine/SearchTuples$Event"))) (t' := (.array .int)) (by decide) (by decide)))).ext E40).other W44 (Or.inr (slot_ne (Or.inl (hw _ (List.mem_of_getElem? (i := 56) rfl))) (Or.inl (hw _ (List.mem_of_getElem? (i := 60) rfl))) (by decide) (t := (.array (.object "com/example/tracewarden/tracewarden/engine/SearchTuples$Event"))) (t' := (.array .int)) (by decide) (by decide)))).other W47 (Or.inr (slot_ne (Or.inl (hw _ (List.mem_of_getElem? (i := 56) rfl))) (Or.inr (hw _ (List.mem_of_getElem? (i := 62) rfl))) (by decide) (t := (.array (.object "com/example/tracewarden/tracewarden/engine/SearchTuples$Event"))) (t' := (.object "com/example/tracewarden/tracewarden/engine/SearchBudget")) (by decide) (by decide)))).other W50 (Or.inr (slot_ne (Or.inl (hw _ (List.mem_of_getElem? (i := 56) rfl))) (Or.inl (hw _ (List.mem_of_getElem? (i := 64) rfl))) (by decide) (t := (.array (.object "com/example/tracewarden/tracewarden/engine/SearchTuples$Event"))) (t' := .int) (by decide) (by decide)))).ext E51).other W55 (Or.inr (slot_ne (Or.inl (hw _ (List.mem_of_getElem? (i := 56) rfl))) (Or.inl (hw _ (List.mem_of_getElem? (i := 68) rfl))) (by decide) (t := (.array (.object "com/example/tracewarden/tracewarden/engine/SearchTuples$Event"))) (t' := (.array (.array .int))) (by decide) (by decide)))).ext E56).other W60 (Or.inr (slot_ne (Or.inl (hw _ (List.mem_of_getElem? (i := 56) rfl))) (Or.inl (hw _ (List.mem_of_getElem? (i := 70) rfl))) (by decide) (t := (.array (.object "com/example/tracewarden/tracewarden/engine/SearchTuples$Event"))) (t' := (.array .int)) (by decide) (by decide)))).ext E61).other W65 (Or.inr (slot_ne (Or.inl (hw _ (List.mem_of_getElem? (i := 56) rfl))) (Or.inl (hw _ (List.mem_of_getElem? (i := 72) rfl))) (by decide) (t := (.array (.object "com/example/tracewarden/tracewarden/engine/SearchTuples$Event"))) (t' := (.array .int)) (by decide) (by decide))))
  have H75 := ((((((((((Fw39.ext E40).other W44 (Or.inr (slot_ne (Or.inl (hw _ (List.mem_of_getElem? (i := 58) rfl))) (Or.inl (hw _ (List.mem_of_getElem? (i := 60) rfl))) (by decide) (t := (.array .int)) (t' := (.array .int)) (by decide) (by decide)))).other W47 (Or.inr (slot_ne (Or.inl (hw _ (List.mem_of_getElem? (i := 58) rfl))) (Or.inr (hw _ (List.mem_of_getElem? (i := 62) rfl))) (by decide) (t := (.array .int)) (t' := (.object "com/example/tracewarden/tracewarden/engine/SearchBudget")) (by decide) (by decide)))).other W50 (Or.inr (slot_ne (Or.inl (hw _ (List.mem_of_getElem? (i := 58) rfl))) (Or.inl (hw _ (List.mem_of_getElem? (i := 64) rfl))) (by decide) (t := (.array .int)) (t' := .int) (by decide) (by decide)))).ext E51).other W55 (Or.inr (slot_ne (Or.inl (hw _ (List.mem_of_getElem? (i := 58) rfl))) (Or.inl (hw _ (List.mem_of_getElem? (i := 68) rfl))) (by decide) (t := (.array .int)) (t' := (.array (.array .int))) (by decide) (by decide)))).ext E56).other W60 (Or.inr (slot_ne (Or.inl (hw _ (List.mem_of_getElem? (i := 58) rfl))) (Or.inl (hw _ (List.mem_of_getElem? (i := 70) rfl))) (by decide) (t := (.array .int)) (t' := (.array .int)) (by decide) (by decide)))).ext E61).other W65 (Or.inr (slot_ne (Or.inl (hw _ (List.mem_of_getElem? (i := 58) rfl))) (Or.inl (hw _ (List.mem_of_getElem? (i := 72) rfl))) (by decide) (t := (.array .int)) (t' := (.array .int)) (by decide) (by decide))))
  have H76 := ((((((((Fw44.other W47 (Or.inr (slot_ne (Or.inl (hw _ (List.mem_of_getElem? (i := 60) rfl))) (Or.inr (hw _ (List.mem_of_getElem? (i := 62) rfl))) (by decide) (t := (.array .int)) (t' := (.object "com/example/tracewarden/tracewarden/engine/SearchBudget")) (by decide) (by decide)))).other W50 (Or.inr (slot_ne (Or.inl (hw _ (List.mem_of_getElem? (i := 60) rfl))) (Or.inl (hw _ (List.mem_of_getElem? (i := 64) rfl))) (by decide) (t := (.array .int)) (t' := .int) (by decide) (by decide)))).ext E51).other W55 (Or.inr (slot_ne (Or.inl (hw _ (List.mem_of_getElem? (i := 60) rfl))) (Or.inl (hw _ (List.mem_of_getElem? (i := 68) rfl))) (by decide) (t := (.array .int)) (t' := (.array (.array .int))) (by decide) (by decide)))).ext E56).other W60 (Or.inr (slot_ne (Or.inl (hw _ (List.mem_of_getElem? (i := 60) rfl))) (Or.inl (hw _ (List.mem_of_getElem? (i := 70) rfl))) (by decide) (t := (.array .int)) (t' := (.array .int)) (by decide) (by decide)))).ext E61).other W65 (Or.inr (slot_ne (Or.inl (hw _ (List.mem_of_getElem? (i := 60) rfl))) (Or.inl (hw _ (List.mem_of_getElem? (i := 72) rfl))) (by decide) (t := (.array .int)) (t' := (.array .int)) (by decide) (by decide))))
  have H77 := ((((Fw55.ext E56).other W60 (Or.inr (slot_ne (Or.inl (hw _ (List.mem_of_getElem? (i := 68) rfl))) (Or.inl (hw _ (List.mem_of_getElem? (i := 70) rfl))) (by decide) (t := (.array (.array .int))) (t' := (.array .int)) (by decide) (by decide)))).ext E61).other W65 (Or.inr (slot_ne (Or.inl (hw _ (List.mem_of_getElem? (i := 68) rfl))) (Or.inl (hw _ (List.mem_of_getElem? (i := 72) rfl))) (by decide) (t := (.array (.array .int))) (t' := (.array .int)) (by decide) (by decide))))
  have H78 := ((Fw60.ext E61).other W65 (Or.inr (slot_ne (Or.inl (hw _ (List.mem_of_getElem? (i := 70) rfl))) (Or.inl (hw _ (List.mem_of_getElem? (i := 72) rfl))) (by decide) (t := (.array .int)) (t' := (.array .int)) (by decide) (by decide))))
  have H79 := ((((((Fw50.ext E51).other W55 (Or.inr (slot_ne (Or.inl (hw _ (List.mem_of_getElem? (i := 64) rfl))) (Or.inl (hw _ (List.mem_of_getElem? (i := 68) rfl))) (by decide) (t := .int) (t' := (.array (.array .int))) (by decide) (by decide)))).ext E56).other W60 (Or.inr (slot_ne (Or.inl (hw _ (List.mem_of_getElem? (i := 64) rfl))) (Or.inl (hw _ (List.mem_of_getElem? (i := 70) rfl))) (by decide) (t := .int) (t' := (.array .int)) (by decide) (by decide)))).ext E61).other W65 (Or.inr (slot_ne (Or.inl (hw _ (List.mem_of_getElem? (i := 64) rfl))) (Or.inl (hw _ (List.mem_of_getElem? (i := 72) rfl))) (by decide) (t := .int) (t' := (.array .int)) (by decide) (by decide))))
  have H80 := ((((((((((((((((((((((((((F_size.ext E2).other W5 (Or.inr (slot_ne (Or.inl (hw _ (List.mem_of_getElem? (i := 105) rfl))) (Or.inl (hw _ (List.mem_of_getElem? (i := 40) rfl))) (by decide) (t := .int) (t' := (.array .int)) (by decide) (by decide)))).ext E6).other W9 (Or.inr (slot_ne (Or.inl (hw _ (List.mem_of_getElem? (i := 105) rfl))) (Or.inl (hw _ (List.mem_of_getElem? (i := 42) rfl))) (by decide) (t := .int) (t' := (.array .int)) (by decide) (by decide)))).ext E10).other W14 (Or.inr (slot_ne (Or.inl (hw _ (List.mem_of_getElem? (i := 105) rfl))) (Or.inl (hw _ (List.mem_of_getElem? (i := 46) rfl))) (by decide) (t := .int) (t' := (.array (.object "com/example/tracewarden/tracewarden/engine/Zone"))) (by decide) (by decide)))).ext E15).other W19 (Or.inr (slot_ne (Or.inl (hw _ (List.mem_of_getElem? (i := 105) rfl))) (Or.inl (hw _ (List.mem_of_getElem? (i := 48) rfl))) (by decide) (t := .int) (t' := (.array .int)) (by decide) (by decide)))).ext E20).other W24 (Or.inr (slot_ne (Or.inl (hw _ (List.mem_of_getElem? (i := 105) rfl))) (Or.inl (hw _ (List.mem_of_getElem? (i := 51) rfl))) (by decide) (t := .int) (t' := (.array .boolean)) (by decide) (by decide)))).ext E25).other W29 (Or.inr (slot_ne (Or.inl (hw _ (List.mem_of_getElem? (i := 105) rfl))) (Or.inl (hw _ (List.mem_of_getElem? (i := 53) rfl))) (by decide) (t := .int) (t' := (.array .int)) (by decide) (by decide)))).ext E30).other W34 (Or.inr (slot_ne (Or.inl (hw _ (List.mem_of_getElem? (i := 105) rfl))) (Or.inl (hw _ (List.mem_of_getElem? (i := 56) rfl))) (by decide) (t := .int) (t' := (.array (.object "com/example/tracewarden/tracewarden/engine/SearchTuples$Event"))) (by decide) (by decide)))).ext E35).other W39 (Or.inr (slot_ne (Or.inl (hw _ (List.mem_of_getElem? (i := 105) rfl))) (Or.inl (hw _ (List.mem_of_getElem? (i := 58) rfl))) (by decide) (t := .int) (t' := (.array .int)) (by decide) (by decide)))).ext E40).other W44 (Or.inr (slot_ne (Or.inl (hw _ (List.mem_of_getElem? (i := 105) rfl))) (Or.inl (hw _ (List.mem_of_getElem? (i := 60) rfl))) (by decide) (t := .int) (t' := (.array .int)) (by decide) (by decide)))).other W47 (Or.inr (slot_ne (Or.inl (hw _ (List.mem_of_getElem? (i := 105) rfl))) (Or.inr (hw _ (List.mem_of_getElem? (i := 62) rfl))) (by decide) (t := .int) (t' := (.object "com/example/tracewarden/tracewarden/engine/SearchBudget")) (by decide) (by decide)))).other W50 (Or.inr (slot_ne (Or.inl (hw _ (List.mem_of_getElem? (i := 105) rfl))) (Or.inl (hw _ (List.mem_of_getElem? (i := 64) rfl))) (by decide) (t := .int) (t' := .int) (by decide) (by decide)))).ext E51).other W55 (Or.inr (slot_ne (Or.inl (hw _ (List.mem_of_getElem? (i := 105) rfl))) (Or.inl (hw _ (List.mem_of_getElem? (i := 68) rfl))) (by decide) (t := .int) (t' := (.array (.array .int))) (by decide) (by decide)))).ext E56).other W60 (Or.inr (slot_ne (Or.inl (hw _ (List.mem_of_getElem? (i := 105) rfl))) (Or.inl (hw _ (List.mem_of_getElem? (i := 70) rfl))) (by decide) (t := .int) (t' := (.array .int)) (by decide) (by decide)))).ext E61).other W65 (Or.inr (slot_ne (Or.inl (hw _ (List.mem_of_getElem? (i := 105) rfl))) (Or.inl (hw _ (List.mem_of_getElem? (i := 72) rfl))) (by decide) (t := .int) (t' := (.array .int)) (by decide) (by decide))))
  have H81 := ((((((((((((((((((((((((((F_lowest.ext E2).other W5 (Or.inr (slot_ne (Or.inl (hw _ (List.mem_of_getElem? (i := 111) rfl))) (Or.inl (hw _ (List.mem_of_getElem? (i := 40) rfl))) (by decide) (t := .int) (t' := (.array .int)) (by decide) (by decide)))).ext E6).other W9 (Or.inr (slot_ne (Or.inl (hw _ (List.mem_of_getElem? (i := 111) rfl))) (Or.inl (hw _ (List.mem_of_getElem? (i := 42) rfl))) (by decide) (t := .int) (t' := (.array .int)) (by decide) (by decide)))).ext E10).other W14 (Or.inr (slot_ne (Or.inl (hw _ (List.mem_of_getElem? (i := 111) rfl))) (Or.inl (hw _ (List.mem_of_getElem? (i := 46) rfl))) (by decide) (t := .int) (t' := (.array (.object "com/example/tracewarden/tracewarden/engine/Zone"))) (by decide) (by decide)))).ext E15).other W19 (Or.inr (slot_ne (Or.inl (hw _ (List.mem_of_getElem? (i := 111) rfl))) (Or.inl (hw _ (List.mem_of_getElem? (i := 48) rfl))) (by decide) (t := .int) (t' := (.array .int)) (by decide) (by decide)))).ext E20).other W24 (Or.inr (slot_ne (Or.inl (hw _ (List.mem_of_getElem? (i := 111) rfl))) (Or.inl (hw _ (List.mem_of_getElem? (i := 51) rfl))) (by decide) (t := .int) (t' := (.array .boolean)) (by decide) (by decide)))).ext E25).other W29 (Or.inr (slot_ne (Or.inl (hw _ (List.mem_of_getElem? (i := 111) rfl))) (Or.inl (hw _ (List.mem_of_getElem? (i := 53) rfl))) (by decide) (t := .int) (t' := (.array .int)) (by decide) (by decide)))).ext E30).other W34 (Or.inr (slot_ne (Or.inl (hw _ (List.mem_of_getElem? (i := 111) rfl))) (Or.inl (hw _ (List.mem_of_getElem? (i := 56) rfl))) (by decide) (t := .int) (t' := (.array (.object "com/example/tracewarden/tracewarden/engine/SearchTuples$Event"))) (by decide) (by decide)))).ext E35).other W39 (Or.inr (slot_ne (Or.inl (hw _ (List.mem_of_getElem? (i := 111) rfl))) (Or.inl (hw _ (List.mem_of_getElem? (i := 58) rfl))) (by decide) (t := .int) (t' := (.array .int)) (by decide) (by decide)))).ext E40).other W44 (Or.inr (slot_ne (Or.inl (hw _ (List.mem_of_getElem? (i := 111) rfl))) (Or.inl (hw _ (List.mem_of_getElem? (i := 60) rfl))) (by decide) (t := .int) (t' := (.array .int)) (by decide) (by decide)))).other W47 (Or.inr (slot_ne (Or.inl (hw _ (List.mem_of_getElem? (i := 111) rfl))) (Or.inr (hw _ (List.mem_of_getElem? (i := 62) rfl))) (by decide) (t := .int) (t' := (.object "com/example/tracewarden/tracewarden/engine/SearchBudget")) (by decide) (by decide)))).other W50 (Or.inr (slot_ne (Or.inl (hw _ (List.mem_of_getElem? (i := 111) rfl))) (Or.inl (hw _ (List.mem_of_getElem? (i := 64) rfl))) (by decide) (t := .int) (t' := .int) (by decide) (by decide)))).ext E51).other W55 (Or.inr (slot_ne (Or.inl (hw _ (List.mem_of_getElem? (i := 111) rfl))) (Or.inl (hw _ (List.mem_of_getElem? (i := 68) rfl))) (by decide) (t := .int) (t' := (.array (.array .int))) (by decide) (by decide)))).ext E56).other W60 (Or.inr (slot_ne (Or.inl (hw _ (List.mem_of_getElem? (i := 111) rfl))) (Or.inl (hw _ (List.mem_of_getElem? (i := 70) rfl))) (by decide) (t := .int) (t' := (.array .int)) (by decide) (by decide)))).ext E61).other W65 (Or.inr (slot_ne (Or.inl (hw _ (List.mem_of_getElem? (i := 111) rfl))) (Or.inl (hw _ (List.mem_of_getElem? (i := 72) rfl))) (by decide) (t := .int) (t' := (.array .int)) (by decide) (by decide))))
  have ne82 : b2 ≠ a1 := (Nat.ne_of_gt (Nat.lt_of_lt_of_le E_a1.lt (Nat.le_trans (Nat.le_refl _) (Nat.le_of_eq g2.symm))))
  have H83 := (((((((((((((((((((((((((V_b2.other W5 ne82).ext E6).other W9 ne82).ext E10).other W14 ne82).ext E15).other W19 ne82).ext E20).other W24 ne82).ext E25).other W29 ne82).ext E30).other W34 ne82).ext E35).other W39 ne82).ext E40).other W44 ne82).other W47 ne82).other W50 ne82).ext E51).other W55 ne82).ext E56).other W60 ne82).ext E61).other W65 ne82)
  have ne84 : b6 ≠ a1 := (Nat.ne_of_gt (Nat.lt_of_lt_of_le E_a1.lt (Nat.le_trans (Nat.le_trans E2.1 (Keep.of_wr W5).1) (Nat.le_of_eq g6.symm))))
  have H85 := (((((((((((((((((((((((V_b6.other W9 ne84).ext E10).other W14 ne84).ext E15).other W19 ne84).ext E20).other W24 ne84).ext E25).other W29 ne84).ext E30).other W34 ne84).ext E35).other W39 ne84).ext E40).other W44 ne84).other W47 ne84).other W50 ne84).ext E51).other W55 ne84).ext E56).other W60 ne84).ext E61).other W65 ne84)
  have ne86 : b10 ≠ a1 := (Nat.ne_of_gt (Nat.lt_of_lt_of_le E_a1.lt (Nat.le_trans gr11 (Nat.le_of_eq g10.symm))))
  have H87 := (((((((((((((((((((((V_b10.other W14 ne86).ext E15).other W19 ne86).ext E20).other W24 ne86).ext E25).other W29 ne86).ext E30).other W34 ne86).ext E35).other W39 ne86).ext E40).other W44 ne86).other W47 ne86).other W50 ne86).ext E51).other W55 ne86).ext E56).other W60 ne86).ext E61).other W65 ne86)
  have ne88 : b15 ≠ a1 := (Nat.ne_of_gt (Nat.lt_of_lt_of_le E_a1.lt (Nat.le_trans gr16 (Nat.le_of_eq g15.symm))))
  have H89 := (((((((((((((((((((V_b15.other W19 ne88).ext E20).other W24 ne88).ext E25).other W29 ne88).ext E30).other W34 ne88).ext E35).other W39 ne88).ext E40).other W44 ne88).other W47 ne88).other W50 ne88).ext E51).other W55 ne88).ext E56).other W60 ne88).ext E61).other W65 ne88)
  have ne90 : b20 ≠ a1 := (Nat.ne_of_gt (Nat.lt_of_lt_of_le E_a1.lt (Nat.le_trans gr21 (Nat.le_of_eq g20.symm))))
  have H91 := (((((((((((((((((V_b20.other W24 ne90).ext E25).other W29 ne90).ext E30).other W34 ne90).ext E35).other W39 ne90).ext E40).other W44 ne90).other W47 ne90).other W50 ne90).ext E51).other W55 ne90).ext E56).other W60 ne90).ext E61).other W65 ne90)
  have ne92 : b25 ≠ a1 := (Nat.ne_of_gt (Nat.lt_of_lt_of_le E_a1.lt (Nat.le_trans gr26 (Nat.le_of_eq g25.symm))))
  have H93 := (((((((((((((((V_b25.other W29 ne92).ext E30).other W34 ne92).ext E35).other W39 ne92).ext E40).other W44 ne92).other W47 ne92).other W50 ne92).ext E51).other W55 ne92).ext E56).other W60 ne92).ext E61).other W65 ne92)
  have ne94 : b30 ≠ a1 := (Nat.ne_of_gt (Nat.lt_of_lt_of_le E_a1.lt (Nat.le_trans gr31 (Nat.le_of_eq g30.symm))))
  have H95 := (((((((((((((V_b30.other W34 ne94).ext E35).other W39 ne94).ext E40).other W44 ne94).other W47 ne94).other W50 ne94).ext E51).other W55 ne94).ext E56).other W60 ne94).ext E61).other W65 ne94)
  have ne96 : b35 ≠ a1 := (Nat.ne_of_gt (Nat.lt_of_lt_of_le E_a1.lt (Nat.le_trans gr36 (Nat.le_of_eq g35.symm))))
  have H97 := (((((((((((V_b35.other W39 ne96).ext E40).other W44 ne96).other W47 ne96).other W50 ne96).ext E51).other W55 ne96).ext E56).other W60 ne96).ext E61).other W65 ne96)
  have ne98 : b40 ≠ a1 := (Nat.ne_of_gt (Nat.lt_of_lt_of_le E_a1.lt (Nat.le_trans gr41 (Nat.le_of_eq g40.symm))))
  have H99 := (((((((((V_b40.other W44 ne98).other W47 ne98).other W50 ne98).ext E51).other W55 ne98).ext E56).other W60 ne98).ext E61).other W65 ne98)
  have ne100 : b51 ≠ a1 := (Nat.ne_of_gt (Nat.lt_of_lt_of_le E_a1.lt (Nat.le_trans gr52 (Nat.le_of_eq g51.symm))))
  have H101 := (((((V_b51.other W55 ne100).ext E56).other W60 ne100).ext E61).other W65 ne100)
  have ne102 : i51 ≠ a1 := (Nat.ne_of_gt (Nat.lt_of_lt_of_le E_a1.lt (Nat.le_trans gr52 le_i51)))
  have H103 := (((((V_i51.other W55 ne102).ext E56).other W60 ne102).ext E61).other W65 ne102)
  have ne104 : b56 ≠ a1 := (Nat.ne_of_gt (Nat.lt_of_lt_of_le E_a1.lt (Nat.le_trans gr57 (Nat.le_of_eq g56.symm))))
  have H105 := (((V_b56.other W60 ne104).ext E61).other W65 ne104)
  have ne106 : b61 ≠ a1 := (Nat.ne_of_gt (Nat.lt_of_lt_of_le E_a1.lt (Nat.le_trans gr62 (Nat.le_of_eq g61.symm))))
  have H107 := (V_b61.other W65 ne106)
  refine Go.fin X65 (v := none) (fun _ => rfl) Bd.notSynchronized (fun _ hr => X65.returnOut hx Bd.returns (hb hby d5_113) hr) (fun U' hU hF => ⟨_, _, rfl, ?_, hF.1, hF.2.1, hF.2.2.mono (by decide) (by decide)⟩)
  rw [hU, e65]
  exact ⟨rfl, N65, (((((((((((((((((((((((((((Keep.refl h0 [a1]).ext E2).wr W5 (Or.inl (List.mem_of_getElem? (i := 0) rfl))).ext E6).wr W9 (Or.inl (List.mem_of_getElem? (i := 0) rfl))).ext E10).wr W14 (Or.inl (List.mem_of_getElem? (i := 0) rfl))).ext E15).wr W19 (Or.inl (List.mem_of_getElem? (i := 0) rfl))).ext E20).wr W24 (Or.inl (List.mem_of_getElem? (i := 0) rfl))).ext E25).wr W29 (Or.inl (List.mem_of_getElem? (i := 0) rfl))).ext E30).wr W34 (Or.inl (List.mem_of_getElem? (i := 0) rfl))).ext E35).wr W39 (Or.inl (List.mem_of_getElem? (i := 0) rfl))).ext E40).wr W44 (Or.inl (List.mem_of_getElem? (i := 0) rfl))).wr W47 (Or.inl (List.mem_of_getElem? (i := 0) rfl))).wr W50 (Or.inl (List.mem_of_getElem? (i := 0) rfl))).ext E51).wr W55 (Or.inl (List.mem_of_getElem? (i := 0) rfl))).ext E56).wr W60 (Or.inl (List.mem_of_getElem? (i := 0) rfl))).ext E61).wr W65 (Or.inl (List.mem_of_getElem? (i := 0) rfl))), b2, b6, b10, b15, b20, b25, b30, b35, b40, b51, i51, b56, b61, k2, k6, k10, k15, k20, k25, k30, k35, k40, k51, c51, k56, k61, (Nat.le_trans (Nat.le_refl _) (Nat.le_of_eq g2.symm)), (Nat.lt_of_lt_of_le lt_b2 (Nat.le_trans (Keep.of_wr W5).1 (Nat.le_of_eq g6.symm))), (Nat.lt_of_lt_of_le lt_b6 (Nat.le_trans (Keep.of_wr W9).1 (Nat.le_of_eq g10.symm))), (Nat.lt_of_lt_of_le lt_b10 (Nat.le_trans (Keep.of_wr W14).1 (Nat.le_of_eq g15.symm))), (Nat.lt_of_lt_of_le lt_b15 (Nat.le_trans (Keep.of_wr W19).1 (Nat.le_of_eq g20.symm))), (Nat.lt_of_lt_of_le lt_b20 (Nat.le_trans (Keep.of_wr W24).1 (Nat.le_of_eq g25.symm))), (Nat.lt_of_lt_of_le lt_b25 (Nat.le_trans (Keep.of_wr W29).1 (Nat.le_of_eq g30.symm))), (Nat.lt_of_lt_of_le lt_b30 (Nat.le_trans (Keep.of_wr W34).1 (Nat.le_of_eq g35.symm))), (Nat.lt_of_lt_of_le lt_b35 (Nat.le_trans (Keep.of_wr W39).1 (Nat.le_of_eq g40.symm))), (Nat.lt_of_lt_of_le lt_b40 (Nat.le_trans gr66 (Nat.le_of_eq g51.symm))), ord_51, (Nat.lt_of_lt_of_le lt_i51 (Nat.le_trans (Keep.of_wr W55).1 (Nat.le_of_eq g56.symm))), (Nat.lt_of_lt_of_le lt_b56 (Nat.le_trans (Keep.of_wr W60).1 (Nat.le_of_eq g61.symm))), H67, H68, H69, H70, H71, H72, H73, H74, H75, H76, H77, H78, Fw65, H79, H80, H81, H83, H85, H87, H89, H91, H93, H95, H97, H99, H101, H103, H105, H107, O30⟩
theorem d8_0 : decode prog_86_method_21_code 0 = .ok (.iload_n 0, 1) := by decide +kernel
theorem d8_1 : decode prog_86_method_21_code 1 = .ok (.i2l, 1) := by decide +kernel
theorem d8_2 : decode prog_86_method_21_code 2 = .ok (.bipush 32, 2) := by decide +kernel
theorem d8_4 : decode prog_86_method_21_code 4 = .ok (.lshl, 1) := by decide +kernel
theorem d8_5 : decode prog_86_method_21_code 5 = .ok (.iload_n 1, 1) := by decide +kernel
theorem d8_6 : decode prog_86_method_21_code 6 = .ok (.i2l, 1) := by decide +kernel
theorem d8_7 : decode prog_86_method_21_code 7 = .ok (.ldc2_w 150, 3) := by decide +kernel
theorem d8_10 : decode prog_86_method_21_code 10 = .ok (.land, 1) := by decide +kernel
theorem d8_11 : decode prog_86_method_21_code 11 = .ok (.lor, 1) := by decide +kernel
theorem d8_12 : decode prog_86_method_21_code 12 = .ok (.ldc2_w 152, 3) := by decide +kernel
theorem d8_15 : decode prog_86_method_21_code 15 = .ok (.lmul, 1) := by decide +kernel
theorem d8_16 : decode prog_86_method_21_code 16 = .ok (.lstore_n 2, 1) := by decide +kernel
theorem d8_17 : decode prog_86_method_21_code 17 = .ok (.lload_n 2, 1) := by decide +kernel
theorem d8_18 : decode prog_86_method_21_code 18 = .ok (.bipush 32, 2) := by decide +kernel
theorem d8_20 : decode prog_86_method_21_code 20 = .ok (.lushr, 1) := by decide +kernel
theorem d8_21 : decode prog_86_method_21_code 21 = .ok (.l2i, 1) := by decide +kernel
theorem d8_22 : decode prog_86_method_21_code 22 = .ok (.lload_n 2, 1) := by decide +kernel
theorem d8_23 : decode prog_86_method_21_code 23 = .ok (.l2i, 1) := by decide +kernel
theorem d8_24 : decode prog_86_method_21_code 24 = .ok (.ixor, 1) := by decide +kernel
theorem d8_25 : decode prog_86_method_21_code 25 = .ok (.ireturn, 1) := by decide +kernel
theorem ef_rm8_0 (m : MethodId)  : entryFrame m #[(.int (0 : Int32)), (.int (0 : Int32))] 4 = mkF m 0 #[.val (.int (0 : Int32)), .val (.int (0 : Int32)), .unset, .unset] [] := by first | (simp [entryFrame, mkF, argsToLocals, Value.category]; done) | rfl
def Q_rm8_0 (Z : State)  (h0 : Heap) (n0 : Nat) (v : Option Value) (h : Heap) (L : List Loc) : Prop := v = some (.int (0 : Int32)) ∧ Fr n0 L ∧ h = h0
set_option maxRecDepth 65536 in
set_option maxHeartbeats 40000000 in
theorem rm8_0 (l : Launch) (Z : State) (a0 : Array Value) (hw : ∀ d ∈ tables_1, d.before a0 Z = true) (ws : List Jvm.Cond)  (h0 : Heap) (n0 : Nat) (Z0 : n0 ≤ h0.size) :
    MetFree l (⟨"com/example/tracewarden/tracewarden/engine/SearchTuples", "code", "(II)I"⟩ : MethodName) (head1 (Jvm.Cond.code (⟨"com/example/tracewarden/tracewarden/engine/SearchTuples", "code", "(II)I"⟩ : MethodName) prog_86_method_21_code 4 (some .int) :: ws) ({ frames := 0, cells := 0, slots := 0, locals := 0 } : Room)) (fun a U => a = #[(.int (0 : Int32)), (.int (0 : Int32))] ∧ Z.Warmed39 U.vm ∧ U.heap = h0) (fun _ _ _ _ _ => True) (fun _ U o U' => ∃ v L, o = .returned v ∧ Q_rm8_0 Z  h0 n0 v U'.heap L ∧ FrameEnd U o U' L ({ frames := 0, cells := 0, slots := 0, locals := 0 } : Room).cells ({ frames := 0, cells := 0, slots := 0, locals := 0 } : Room).slots) := by
  refine MetFree.of_bodySF (plainFor_of_name pn_95) hisR ?_
  intro p e s m args below meth c s₁ Bd hml0 hP hK
  obtain ⟨rfl, hZ, hh⟩ := hP
  have hx := Bd.exec
  have hby := Bd.bytes
  have hml : c.maxLocals = 4 := hml0
  have hown : s.vm.findClass "com/example/tracewarden/tracewarden/engine/SearchTuples" = some m.cls := findClass_of_methodNamed Bd.named
  have hnm := (name_of_methodNamed Bd.named Bd.method).1
  have X0 : Stand p l e ({ frames := 0, cells := 0, slots := 0, locals := 0 } : Room) s m #[(.int (0 : Int32)), (.int (0 : Int32))] below meth c s₁ [] 0 0 := Stand.of_body Bd
  have e0 : s₁.heap = h0 := by rw [← hh, Bd.state]; rfl
  have N0 := Fr.nil n0
  show Go p e below (s₁.setTop (entryFrame m #[(.int (0 : Int32)), (.int (0 : Int32))] 4)) (fun o U' => ∃ v L, o = .returned v ∧ Q_rm8_0 Z  h0 n0 v U'.heap L ∧ FrameEnd s o U' L ({ frames := 0, cells := 0, slots := 0, locals := 0 } : Room).cells ({ frames := 0, cells := 0, slots := 0, locals := 0 } : Room).slots)
  rw [ef_rm8_0]
  refine Gk.iloadN X0 hx (hb hby d8_0) rfl ?_
  refine Gk.i2l X0 hx (hb hby d8_1) (0 : Int64) (by decide) ?_
  refine Gk.bipush X0 hx (hb hby d8_2) (32 : Int32) rfl ?_
  refine Gk.lshl X0 hx (hb hby d8_4) (0 : Int64) (by decide) ?_
  refine Gk.iloadN X0 hx (hb hby d8_5) rfl ?_
  refine Gk.i2l X0 hx (hb hby d8_6) (0 : Int64) (by decide) ?_
  refine Gk.ldcL X0 hx hZ hown (hw _ (List.mem_of_getElem? (i := 84) rfl)) (hb hby d8_7) ?_
  refine Gk.land X0 hx (hb hby d8_10) (0 : Int64) (by decide) ?_
  refine Gk.lor X0 hx (hb hby d8_11) (0 : Int64) (by decide) ?_
  refine Gk.ldcL X0 hx hZ hown (hw _ (List.mem_of_getElem? (i := 85) rfl)) (hb hby d8_12) ?_
  refine Gk.lmul X0 hx (hb hby d8_15) (0 : Int64) (by decide) ?_
  refine Gk.lstoreN X0 hx (hb hby d8_16) #[.val (.int (0 : Int32)), .val (.int (0 : Int32)), .val (.long (0 : Int64)), .second] rfl ?_
  refine Gk.lloadN X0 hx (hb hby d8_17) rfl ?_
  refine Gk.bipush X0 hx (hb hby d8_18) (32 : Int32) rfl ?_
  refine Gk.lushr X0 hx (hb hby d8_20) (0 : Int64) (by decide) ?_
  refine Gk.l2i X0 hx (hb hby d8_21) (0 : Int32) (by decide) ?_
  refine Gk.lloadN X0 hx (hb hby d8_22) rfl ?_
  refine Gk.l2i X0 hx (hb hby d8_23) (0 : Int32) (by decide) ?_
  refine Gk.ixor X0 hx (hb hby d8_24) (0 : Int32) (by decide) ?_
  refine Go.fin X0 (v := some (.int (0 : Int32))) (fun h_ => by rw [Bd.returns] at h_; cases h_) Bd.notSynchronized (fun _ hr => retOut X0 hx Bd.returns rfl (Or.inl ⟨rfl, Or.inl rfl, _, rfl⟩) (hb hby d8_25) hr) (fun U' hU hF => ⟨_, _, rfl, ?_, hF.1, hF.2.1, hF.2.2.mono (by decide) (by decide)⟩)
  rw [hU, e0]
  exact ⟨(congrArg (fun z_ : Int32 => some (Value.int z_)) (show (0 : Int32) = (0 : Int32) from rfl)), N0, rfl⟩
theorem pd_1 : parseMethodDescriptor "(II)I" = some ⟨[.int, .int], some .int⟩ := by decide +kernel
theorem d7_0 : decode prog_86_method_20_code 0 = .ok (.iconst 0, 1) := by decide +kernel
theorem d7_1 : decode prog_86_method_20_code 1 = .ok (.istore_n 3, 1) := by decide +kernel
theorem d7_2 : decode prog_86_method_20_code 2 = .ok (.iconst 0, 1) := by decide +kernel
theorem d7_3 : decode prog_86_method_20_code 3 = .ok (.istore 4, 2) := by decide +kernel
theorem d7_5 : decode prog_86_method_20_code 5 = .ok (.iload 4, 2) := by decide +kernel
theorem d7_7 : decode prog_86_method_20_code 7 = .ok (.iload_n 2, 1) := by decide +kernel
theorem d7_8 : decode prog_86_method_20_code 8 = .ok (.if_icmp .ge 23, 3) := by decide +kernel
theorem d7_11 : decode prog_86_method_20_code 11 = .ok (.iload_n 3, 1) := by decide +kernel
theorem d7_12 : decode prog_86_method_20_code 12 = .ok (.iload 4, 2) := by decide +kernel
theorem d7_14 : decode prog_86_method_20_code 14 = .ok (.aload_n 0, 1) := by decide +kernel
theorem d7_15 : decode prog_86_method_20_code 15 = .ok (.iload_n 1, 1) := by decide +kernel
theorem d7_16 : decode prog_86_method_20_code 16 = .ok (.iload 4, 2) := by decide +kernel
theorem d7_18 : decode prog_86_method_20_code 18 = .ok (.iadd, 1) := by decide +kernel
theorem d7_19 : decode prog_86_method_20_code 19 = .ok (.iaload, 1) := by decide +kernel
theorem d7_20 : decode prog_86_method_20_code 20 = .ok (.invokestatic 96, 3) := by decide +kernel
theorem d7_23 : decode prog_86_method_20_code 23 = .ok (.iadd, 1) := by decide +kernel
theorem d7_24 : decode prog_86_method_20_code 24 = .ok (.istore_n 3, 1) := by decide +kernel
theorem d7_25 : decode prog_86_method_20_code 25 = .ok (.iinc 4 1, 3) := by decide +kernel
theorem d7_28 : decode prog_86_method_20_code 28 = .ok (.goto (-23), 3) := by decide +kernel
theorem d7_31 : decode prog_86_method_20_code 31 = .ok (.iload_n 3, 1) := by decide +kernel
theorem d7_32 : decode prog_86_method_20_code 32 = .ok (.ireturn, 1) := by decide +kernel
theorem ef_rm7_0 (m : MethodId) (a1 : Addr) : entryFrame m #[(.ref a1), (.int (0 : Int32)), (.int (1 : Int32))] 5 = mkF m 0 #[.val (.ref a1), .val (.int (0 : Int32)), .val (.int (1 : Int32)), .unset, .unset] [] := by first | (simp [entryFrame, mkF, argsToLocals, Value.category]; done) | rfl
def Q_rm7_0 (Z : State) (a1 : Addr) (kt : ClassId) (ft : Nat → Value) (h0 : Heap) (n0 : Nat) (v : Option Value) (h : Heap) (L : List Loc) : Prop := v = some (.int (0 : Int32)) ∧ Fr n0 L ∧ h = h0
set_option maxRecDepth 65536 in
set_option maxHeartbeats 40000000 in
theorem rm7_0 (l : Launch) (Z : State) (a0 : Array Value) (hw : ∀ d ∈ tables_1, d.before a0 Z = true) (ws : List Jvm.Cond) (a1 : Addr) (kt : ClassId) (ft : Nat → Value) (h0 : Heap) (n0 : Nat) (Z0 : n0 ≤ h0.size) (V_t : Arf Z h0 a1 kt .int (1 : Int32) ft) (ht0 : ft 0 = (.int (0 : Int32))) :
    MetFree l (⟨"com/example/tracewarden/tracewarden/engine/SearchTuples", "hash", "([III)I"⟩ : MethodName) (head1 (Jvm.Cond.code (⟨"com/example/tracewarden/tracewarden/engine/SearchTuples", "hash", "([III)I"⟩ : MethodName) prog_86_method_20_code 5 (some .int) :: ws) ({ frames := 1, cells := 0, slots := 0, locals := 16 } : Room)) (fun a U => a = #[(.ref a1), (.int (0 : Int32)), (.int (1 : Int32))] ∧ Z.Warmed39 U.vm ∧ U.heap = h0) (fun _ _ _ _ _ => True) (fun _ U o U' => ∃ v L, o = .returned v ∧ Q_rm7_0 Z a1 kt ft h0 n0 v U'.heap L ∧ FrameEnd U o U' L ({ frames := 1, cells := 0, slots := 0, locals := 16 } : Room).cells ({ frames := 1, cells := 0, slots := 0, locals := 16 } : Room).slots) := by
  refine MetFree.of_bodySF (plainFor_of_name pn_95) hisR ?_
  intro p e s m args below meth c s₁ Bd hml0 hP hK
  obtain ⟨rfl, hZ, hh⟩ := hP
  have hx := Bd.exec
  have hby := Bd.bytes
  have hml : c.maxLocals = 5 := hml0
  have hown : s.vm.findClass "com/example/tracewarden/tracewarden/engine/SearchTuples" = some m.cls := findClass_of_methodNamed Bd.named
  have hnm := (name_of_methodNamed Bd.named Bd.method).1
  have X0 : Stand p l e ({ frames := 1, cells := 0, slots := 0, locals := 16 } : Room) s m #[(.ref a1), (.int (0 : Int32)), (.int (1 : Int32))] below meth c s₁ [] 0 0 := Stand.of_body Bd
  have e0 : s₁.heap = h0 := by rw [← hh, Bd.state]; rfl
  have N0 := Fr.nil n0
  show Go p e below (s₁.setTop (entryFrame m #[(.ref a1), (.int (0 : Int32)), (.int (1 : Int32))] 5)) (fun o U' => ∃ v L, o = .returned v ∧ Q_rm7_0 Z a1 kt ft h0 n0 v U'.heap L ∧ FrameEnd s o U' L ({ frames := 1, cells := 0, slots := 0, locals := 16 } : Room).cells ({ frames := 1, cells := 0, slots := 0, locals := 16 } : Room).slots)
  rw [ef_rm7_0]
  refine Gk.iconst X0 hx (hb hby d7_0) (0 : Int32) rfl ?_
  refine Gk.istoreN X0 hx (hb hby d7_1) #[.val (.ref a1), .val (.int (0 : Int32)), .val (.int (1 : Int32)), .val (.int (0 : Int32)), .unset] rfl ?_
  refine Gk.iconst X0 hx (hb hby d7_2) (0 : Int32) rfl ?_
  refine Gk.istore X0 hx (hb hby d7_3) #[.val (.ref a1), .val (.int (0 : Int32)), .val (.int (1 : Int32)), .val (.int (0 : Int32)), .val (.int (0 : Int32))] rfl ?_
  refine Gk.iload X0 hx (hb hby d7_5) rfl ?_
  refine Gk.iloadN X0 hx (hb hby d7_7) rfl ?_
  refine Gk.icmpNo X0 hx (hb hby d7_8) (tlt (by decide : (0 : Int32) < (1 : Int32))).2.1 ?_
  refine Gk.iloadN X0 hx (hb hby d7_11) rfl ?_
  refine Gk.iload X0 hx (hb hby d7_12) rfl ?_
  refine Gk.aloadN X0 hx (hb hby d7_14) rfl rfl ?_
  refine Gk.iloadN X0 hx (hb hby d7_15) rfl ?_
  refine Gk.iload X0 hx (hb hby d7_16) rfl ?_
  refine Gk.iadd X0 hx (hb hby d7_18) (0 : Int32) (by decide) ?_
  refine Gk.iaload X0 hx hZ e0 V_t ⟨by decide, by decide⟩ (.int (0 : Int32)) ht0 (hb hby d7_19) ?_
  refine Gk.callS (argsL := [(.int (0 : Int32)), (.int (0 : Int32))]) X0 hx hZ hown (rm8_0 l Z a0 hw []  h0 n0 Z0) (hw _ (List.mem_of_getElem? (i := 81) rfl)) (hw _ (List.mem_of_getElem? (i := 82) rfl)) (hw _ (List.mem_of_getElem? (i := 24) rfl)) (hw _ (List.mem_of_getElem? (i := 83) rfl)) (by decide) e0 pd_1 rfl rfl (by decide) (Nat.le_of_ble_eq_true rfl) (by decide) (by decide) (by rw [hml]; rfl)  rfl (hb hby d7_20) ?_
  intro T2 L2 v2 X2 hQ2
  obtain ⟨rfl, N2q, e2⟩ := hQ2
  have N2 := Fr.app N0 N2q
  show Go p e below (T2.setTop (mkF m 23 #[.val (.ref a1), .val (.int (0 : Int32)), .val (.int (1 : Int32)), .val (.int (0 : Int32)), .val (.int (0 : Int32))] [(.int (0 : Int32)), (.int (0 : Int32))])) _
  refine Gk.iadd X2 hx (hb hby d7_23) (0 : Int32) (by decide) ?_
  refine Gk.istoreN X2 hx (hb hby d7_24) #[.val (.ref a1), .val (.int (0 : Int32)), .val (.int (1 : Int32)), .val (.int (0 : Int32)), .val (.int (0 : Int32))] rfl ?_
  refine Gk.iinc X2 hx (hb hby d7_25) rfl #[.val (.ref a1), .val (.int (0 : Int32)), .val (.int (1 : Int32)), .val (.int (0 : Int32)), .val (.int (1 : Int32))] rfl ?_
  refine Gk.goto X2 hx (hb hby d7_28) 5 (by decide) (by decide) ?_
  refine Gk.iload X2 hx (hb hby d7_5) rfl ?_
  refine Gk.iloadN X2 hx (hb hby d7_7) rfl ?_
  refine Gk.icmpYes X2 hx (hb hby d7_8) (flt (by decide : ¬ ((1 : Int32) < (1 : Int32)))).2.1 31 (by decide) (by decide) ?_
  refine Gk.iloadN X2 hx (hb hby d7_31) rfl ?_
  refine Go.fin X2 (v := some (.int (0 : Int32))) (fun h_ => by rw [Bd.returns] at h_; cases h_) Bd.notSynchronized (fun _ hr => retOut X2 hx Bd.returns rfl (Or.inl ⟨rfl, Or.inl rfl, _, rfl⟩) (hb hby d7_32) hr) (fun U' hU hF => ⟨_, _, rfl, ?_, hF.1, hF.2.1, hF.2.2.mono (by decide) (by decide)⟩)
  rw [hU, e2]
  exact ⟨(congrArg (fun z_ : Int32 => some (Value.int z_)) (show (0 : Int32) = (0 : Int32) from rfl)), N2, rfl⟩
theorem pd_2 : parseMethodDescriptor "([III)I" = some ⟨[(.array .int), .int, .int], some .int⟩ := by decide +kernel
theorem d6_0 : decode prog_86_method_7_code 0 = .ok (.aload_n 1, 1) := by decide +kernel
theorem d6_1 : decode prog_86_method_7_code 1 = .ok (.iconst 0, 1) := by decide +kernel
theorem d6_2 : decode prog_86_method_7_code 2 = .ok (.aload_n 0, 1) := by decide +kernel
theorem d6_3 : decode prog_86_method_7_code 3 = .ok (.getfield 48, 3) := by decide +kernel
theorem d6_6 : decode prog_86_method_7_code 6 = .ok (.invokestatic 92, 3) := by decide +kernel
theorem d6_9 : decode prog_86_method_7_code 9 = .ok (.ireturn, 1) := by decide +kernel
theorem ef_rm6_0 (m : MethodId) (a1 : Addr) (a2 : Addr) : entryFrame m #[(.ref a1), (.ref a2)] 2 = mkF m 0 #[.val (.ref a1), .val (.ref a2)] [] := by first | (simp [entryFrame, mkF, argsToLocals, Value.category]; done) | rfl
def Q_rm6_0 (Z : State) (a1 : Addr) (a2 : Addr) (kt : ClassId) (ft : Nat → Value) (h0 : Heap) (n0 : Nat) (v : Option Value) (h : Heap) (L : List Loc) : Prop := v = some (.int (0 : Int32)) ∧ Fr n0 L ∧ h = h0
set_option maxRecDepth 65536 in
set_option maxHeartbeats 40000000 in
theorem rm6_0 (l : Launch) (Z : State) (a0 : Array Value) (hw : ∀ d ∈ tables_1, d.before a0 Z = true) (ws : List Jvm.Cond) (a1 : Addr) (a2 : Addr) (kt : ClassId) (ft : Nat → Value) (h0 : Heap) (n0 : Nat) (Z0 : n0 ≤ h0.size) (V_t : Arf Z h0 a2 kt .int (1 : Int32) ft) (ht0 : ft 0 = (.int (0 : Int32))) (F_width : Fld Z h0 a1 "com/example/tracewarden/tracewarden/engine/SearchTuples" "width" "I" (.int (1 : Int32))) :
    MetFree l (⟨"com/example/tracewarden/tracewarden/engine/SearchTuples", "hash", "([I)I"⟩ : MethodName) (head1 (Jvm.Cond.code (⟨"com/example/tracewarden/tracewarden/engine/SearchTuples", "hash", "([I)I"⟩ : MethodName) prog_86_method_7_code 2 (some .int) :: ws) ({ frames := 2, cells := 0, slots := 0, locals := 32 } : Room)) (fun a U => a = #[(.ref a1), (.ref a2)] ∧ Z.Warmed39 U.vm ∧ U.heap = h0) (fun _ _ _ _ _ => True) (fun _ U o U' => ∃ v L, o = .returned v ∧ Q_rm6_0 Z a1 a2 kt ft h0 n0 v U'.heap L ∧ FrameEnd U o U' L ({ frames := 2, cells := 0, slots := 0, locals := 32 } : Room).cells ({ frames := 2, cells := 0, slots := 0, locals := 32 } : Room).slots) := by
  refine MetFree.of_bodySF (plainFor_of_name pn_95) hisR ?_
  intro p e s m args below meth c s₁ Bd hml0 hP hK
  obtain ⟨rfl, hZ, hh⟩ := hP
  have hx := Bd.exec
  have hby := Bd.bytes
  have hml : c.maxLocals = 2 := hml0
  have hown : s.vm.findClass "com/example/tracewarden/tracewarden/engine/SearchTuples" = some m.cls := findClass_of_methodNamed Bd.named
  have hnm := (name_of_methodNamed Bd.named Bd.method).1
  have X0 : Stand p l e ({ frames := 2, cells := 0, slots := 0, locals := 32 } : Room) s m #[(.ref a1), (.ref a2)] below meth c s₁ [] 0 0 := Stand.of_body Bd
  have e0 : s₁.heap = h0 := by rw [← hh, Bd.state]; rfl
  have N0 := Fr.nil n0
  show Go p e below (s₁.setTop (entryFrame m #[(.ref a1), (.ref a2)] 2)) (fun o U' => ∃ v L, o = .returned v ∧ Q_rm6_0 Z a1 a2 kt ft h0 n0 v U'.heap L ∧ FrameEnd s o U' L ({ frames := 2, cells := 0, slots := 0, locals := 32 } : Room).cells ({ frames := 2, cells := 0, slots := 0, locals := 32 } : Room).slots)
  rw [ef_rm6_0]
  refine Gk.aloadN X0 hx (hb hby d6_0) rfl rfl ?_
  refine Gk.iconst X0 hx (hb hby d6_1) (0 : Int32) rfl ?_
  refine Gk.aloadN X0 hx (hb hby d6_2) rfl rfl ?_
  refine Gk.getF X0 hx hZ hown (host := "") (Or.inl (hw _ (List.mem_of_getElem? (i := 63) rfl))) Via.refl e0 F_width (hb hby d6_3) ?_
  intro T1 X1 e1
  refine Gk.callS (argsL := [(.ref a2), (.int (0 : Int32)), (.int (1 : Int32))]) X1 hx hZ hown (rm7_0 l Z a0 hw [] a2 kt ft h0 n0 Z0 V_t ht0) (hw _ (List.mem_of_getElem? (i := 78) rfl)) (hw _ (List.mem_of_getElem? (i := 79) rfl)) (hw _ (List.mem_of_getElem? (i := 24) rfl)) (hw _ (List.mem_of_getElem? (i := 80) rfl)) (by decide) e1 pd_2 rfl rfl (by decide) (Nat.le_of_ble_eq_true rfl) (by decide) (by decide) (by rw [hml]; rfl)  rfl (hb hby d6_6) ?_
  intro T2 L2 v2 X2 hQ2
  obtain ⟨rfl, N2q, e2⟩ := hQ2
  have N2 := Fr.app N0 N2q
  show Go p e below (T2.setTop (mkF m 9 #[.val (.ref a1), .val (.ref a2)] [(.int (0 : Int32))])) _
  refine Go.fin X2 (v := some (.int (0 : Int32))) (fun h_ => by rw [Bd.returns] at h_; cases h_) Bd.notSynchronized (fun _ hr => retOut X2 hx Bd.returns rfl (Or.inl ⟨rfl, Or.inl rfl, _, rfl⟩) (hb hby d6_9) hr) (fun U' hU hF => ⟨_, _, rfl, ?_, hF.1, hF.2.1, hF.2.2.mono (by decide) (by decide)⟩)
  rw [hU, e2]
  exact ⟨(congrArg (fun z_ : Int32 => some (Value.int z_)) (show (0 : Int32) = (0 : Int32) from rfl)), N2, rfl⟩
theorem ef_rm8_1 (m : MethodId)  : entryFrame m #[(.int (0 : Int32)), (.int (1 : Int32))] 4 = mkF m 0 #[.val (.int (0 : Int32)), .val (.int (1 : Int32)), .unset, .unset] [] := by first | (simp [entryFrame, mkF, argsToLocals, Value.category]; done) | rfl
def Q_rm8_1 (Z : State)  (h0 : Heap) (n0 : Nat) (v : Option Value) (h : Heap) (L : List Loc) : Prop := v = some (.int (-511900244 : Int32)) ∧ Fr n0 L ∧ h = h0
set_option maxRecDepth 65536 in
set_option maxHeartbeats 40000000 in
theorem rm8_1 (l : Launch) (Z : State) (a0 : Array Value) (hw : ∀ d ∈ tables_1, d.before a0 Z = true) (ws : List Jvm.Cond)  (h0 : Heap) (n0 : Nat) (Z0 : n0 ≤ h0.size) :
    MetFree l (⟨"com/example/tracewarden/tracewarden/engine/SearchTuples", "code", "(II)I"⟩ : MethodName) (head1 (Jvm.Cond.code (⟨"com/example/tracewarden/tracewarden/engine/SearchTuples", "code", "(II)I"⟩ : MethodName) prog_86_method_21_code 4 (some .int) :: ws) ({ frames := 0, cells := 0, slots := 0, locals := 0 } : Room)) (fun a U => a = #[(.int (0 : Int32)), (.int (1 : Int32))] ∧ Z.Warmed39 U.vm ∧ U.heap = h0) (fun _ _ _ _ _ => True) (fun _ U o U' => ∃ v L, o = .returned v ∧ Q_rm8_1 Z  h0 n0 v U'.heap L ∧ FrameEnd U o U' L ({ frames := 0, cells := 0, slots := 0, locals := 0 } : Room).cells ({ frames := 0, cells := 0, slots := 0, locals := 0 } : Room).slots) := by
  refine MetFree.of_bodySF (plainFor_of_name pn_95) hisR ?_
  intro p e s m args below meth c s₁ Bd hml0 hP hK
  obtain ⟨rfl, hZ, hh⟩ := hP
  have hx := Bd.exec
  have hby := Bd.bytes
  have hml : c.maxLocals = 4 := hml0
  have hown : s.vm.findClass "com/example/tracewarden/tracewarden/engine/SearchTuples" = some m.cls := findClass_of_methodNamed Bd.named
  have hnm := (name_of_methodNamed Bd.named Bd.method).1
  have X0 : Stand p l e ({ frames := 0, cells := 0, slots := 0, locals := 0 } : Room) s m #[(.int (0 : Int32)), (.int (1 : Int32))] below meth c s₁ [] 0 0 := Stand.of_body Bd
  have e0 : s₁.heap = h0 := by rw [← hh, Bd.state]; rfl
  have N0 := Fr.nil n0
  show Go p e below (s₁.setTop (entryFrame m #[(.int (0 : Int32)), (.int (1 : Int32))] 4)) (fun o U' => ∃ v L, o = .returned v ∧ Q_rm8_1 Z  h0 n0 v U'.heap L ∧ FrameEnd s o U' L ({ frames := 0, cells := 0, slots := 0, locals := 0 } : Room).cells ({ frames := 0, cells := 0, slots := 0, locals := 0 } : Room).slots)
  rw [ef_rm8_1]
  refine Gk.iloadN X0 hx (hb hby d8_0) rfl ?_
  refine Gk.i2l X0 hx (hb hby d8_1) (0 : Int64) (by decide) ?_
  refine Gk.bipush X0 hx (hb hby d8_2) (32 : Int32) rfl ?_
  refine Gk.lshl X0 hx (hb hby d8_4) (0 : Int64) (by decide) ?_
  refine Gk.iloadN X0 hx (hb hby d8_5) rfl ?_
  refine Gk.i2l X0 hx (hb hby d8_6) (1 : Int64) (by decide) ?_
  refine Gk.ldcL X0 hx hZ hown (hw _ (List.mem_of_getElem? (i := 84) rfl)) (hb hby d8_7) ?_
  refine Gk.land X0 hx (hb hby d8_10) (1 : Int64) (by decide) ?_
  refine Gk.lor X0 hx (hb hby d8_11) (1 : Int64) (by decide) ?_
  refine Gk.ldcL X0 hx hZ hown (hw _ (List.mem_of_getElem? (i := 85) rfl)) (hb hby d8_12) ?_
  refine Gk.lmul X0 hx (hb hby d8_15) (-7046029254386353131 : Int64) (by decide) ?_
  refine Gk.lstoreN X0 hx (hb hby d8_16) #[.val (.int (0 : Int32)), .val (.int (1 : Int32)), .val (.long (-7046029254386353131 : Int64)), .second] rfl ?_
  refine Gk.lloadN X0 hx (hb hby d8_17) rfl ?_
  refine Gk.bipush X0 hx (hb hby d8_18) (32 : Int32) rfl ?_
  refine Gk.lushr X0 hx (hb hby d8_20) (2654435769 : Int64) (by decide) ?_
  refine Gk.l2i X0 hx (hb hby d8_21) (-1640531527 : Int32) (by decide) ?_
  refine Gk.lloadN X0 hx (hb hby d8_22) rfl ?_
  refine Gk.l2i X0 hx (hb hby d8_23) (2135587861 : Int32) (by decide) ?_
  refine Gk.ixor X0 hx (hb hby d8_24) (-511900244 : Int32) (by decide) ?_
  refine Go.fin X0 (v := some (.int (-511900244 : Int32))) (fun h_ => by rw [Bd.returns] at h_; cases h_) Bd.notSynchronized (fun _ hr => retOut X0 hx Bd.returns rfl (Or.inl ⟨rfl, Or.inl rfl, _, rfl⟩) (hb hby d8_25) hr) (fun U' hU hF => ⟨_, _, rfl, ?_, hF.1, hF.2.1, hF.2.2.mono (by decide) (by decide)⟩)
  rw [hU, e0]
  exact ⟨(congrArg (fun z_ : Int32 => some (Value.int z_)) (show (-511900244 : Int32) = (-511900244 : Int32) from rfl)), N0, rfl⟩
theorem ef_rm7_1 (m : MethodId) (a1 : Addr) : entryFrame m #[(.ref a1), (.int (0 : Int32)), (.int (1 : Int32))] 5 = mkF m 0 #[.val (.ref a1), .val (.int (0 : Int32)), .val (.int (1 : Int32)), .unset, .unset] [] := by first | (simp [entryFrame, mkF, argsToLocals, Value.category]; done) | rfl
def Q_rm7_1 (Z : State) (a1 : Addr) (kt : ClassId) (ft : Nat → Value) (h0 : Heap) (n0 : Nat) (v : Option Value) (h : Heap) (L : List Loc) : Prop := v = some (.int (-511900244 : Int32)) ∧ Fr n0 L ∧ h = h0
set_option maxRecDepth 65536 in
set_option maxHeartbeats 40000000 in
theorem rm7_1 (l : Launch) (Z : State) (a0 : Array Value) (hw : ∀ d ∈ tables_1, d.before a0 Z = true) (ws : List Jvm.Cond) (a1 : Addr) (kt : ClassId) (ft : Nat → Value) (h0 : Heap) (n0 : Nat) (Z0 : n0 ≤ h0.size) (V_t : Arf Z h0 a1 kt .int (1 : Int32) ft) (ht0 : ft 0 = (.int (1 : Int32))) :
    MetFree l (⟨"com/example/tracewarden/tracewarden/engine/SearchTuples", "hash", "([III)I"⟩ : MethodName) (head1 (Jvm.Cond.code (⟨"com/example/tracewarden/tracewarden/engine/SearchTuples", "hash", "([III)I"⟩ : MethodName) prog_86_method_20_code 5 (some .int) :: ws) ({ frames := 1, cells := 0, slots := 0, locals := 16 } : Room)) (fun a U => a = #[(.ref a1), (.int (0 : Int32)), (.int (1 : Int32))] ∧ Z.Warmed39 U.vm ∧ U.heap = h0) (fun _ _ _ _ _ => True) (fun _ U o U' => ∃ v L, o = .returned v ∧ Q_rm7_1 Z a1 kt ft h0 n0 v U'.heap L ∧ FrameEnd U o U' L ({ frames := 1, cells := 0, slots := 0, locals := 16 } : Room).cells ({ frames := 1, cells := 0, slots := 0, locals := 16 } : Room).slots) := by
  refine MetFree.of_bodySF (plainFor_of_name pn_95) hisR ?_
  intro p e s m args below meth c s₁ Bd hml0 hP hK
  obtain ⟨rfl, hZ, hh⟩ := hP
  have hx := Bd.exec
  have hby := Bd.bytes
  have hml : c.maxLocals = 5 := hml0
  have hown : s.vm.findClass "com/example/tracewarden/tracewarden/engine/SearchTuples" = some m.cls := findClass_of_methodNamed Bd.named
  have hnm := (name_of_methodNamed Bd.named Bd.method).1
  have X0 : Stand p l e ({ frames := 1, cells := 0, slots := 0, locals := 16 } : Room) s m #[(.ref a1), (.int (0 : Int32)), (.int (1 : Int32))] below meth c s₁ [] 0 0 := Stand.of_body Bd
  have e0 : s₁.heap = h0 := by rw [← hh, Bd.state]; rfl
  have N0 := Fr.nil n0
  show Go p e below (s₁.setTop (entryFrame m #[(.ref a1), (.int (0 : Int32)), (.int (1 : Int32))] 5)) (fun o U' => ∃ v L, o = .returned v ∧ Q_rm7_1 Z a1 kt ft h0 n0 v U'.heap L ∧ FrameEnd s o U' L ({ frames := 1, cells := 0, slots := 0, locals := 16 } : Room).cells ({ frames := 1, cells := 0, slots := 0, locals := 16 } : Room).slots)
  rw [ef_rm7_1]
  refine Gk.iconst X0 hx (hb hby d7_0) (0 : Int32) rfl ?_
  refine Gk.istoreN X0 hx (hb hby d7_1) #[.val (.ref a1), .val (.int (0 : Int32)), .val (.int (1 : Int32)), .val (.int (0 : Int32)), .unset] rfl ?_
  refine Gk.iconst X0 hx (hb hby d7_2) (0 : Int32) rfl ?_
  refine Gk.istore X0 hx (hb hby d7_3) #[.val (.ref a1), .val (.int (0 : Int32)), .val (.int (1 : Int32)), .val (.int (0 : Int32)), .val (.int (0 : Int32))] rfl ?_
  refine Gk.iload X0 hx (hb hby d7_5) rfl ?_
  refine Gk.iloadN X0 hx (hb hby d7_7) rfl ?_
  refine Gk.icmpNo X0 hx (hb hby d7_8) (tlt (by decide : (0 : Int32) < (1 : Int32))).2.1 ?_
  refine Gk.iloadN X0 hx (hb hby d7_11) rfl ?_
  refine Gk.iload X0 hx (hb hby d7_12) rfl ?_
  refine Gk.aloadN X0 hx (hb hby d7_14) rfl rfl ?_
  refine Gk.iloadN X0 hx (hb hby d7_15) rfl ?_
  refine Gk.iload X0 hx (hb hby d7_16) rfl ?_
  refine Gk.iadd X0 hx (hb hby d7_18) (0 : Int32) (by decide) ?_
  refine Gk.iaload X0 hx hZ e0 V_t ⟨by decide, by decide⟩ (.int (1 : Int32)) ht0 (hb hby d7_19) ?_
  refine Gk.callS (argsL := [(.int (0 : Int32)), (.int (1 : Int32))]) X0 hx hZ hown (rm8_1 l Z a0 hw []  h0 n0 Z0) (hw _ (List.mem_of_getElem? (i := 81) rfl)) (hw _ (List.mem_of_getElem? (i := 82) rfl)) (hw _ (List.mem_of_getElem? (i := 24) rfl)) (hw _ (List.mem_of_getElem? (i := 83) rfl)) (by decide) e0 pd_1 rfl rfl (by decide) (Nat.le_of_ble_eq_true rfl) (by decide) (by decide) (by rw [hml]; rfl)  rfl (hb hby d7_20) ?_
  intro T2 L2 v2 X2 hQ2
  obtain ⟨rfl, N2q, e2⟩ := hQ2
  have N2 := Fr.app N0 N2q
  show Go p e below (T2.setTop (mkF m 23 #[.val (.ref a1), .val (.int (0 : Int32)), .val (.int (1 : Int32)), .val (.int (0 : Int32)), .val (.int (0 : Int32))] [(.int (-511900244 : Int32)), (.int (0 : Int32))])) _
  refine Gk.iadd X2 hx (hb hby d7_23) (-511900244 : Int32) (by decide) ?_
  refine Gk.istoreN X2 hx (hb hby d7_24) #[.val (.ref a1), .val (.int (0 : Int32)), .val (.int (1 : Int32)), .val (.int (-511900244 : Int32)), .val (.int (0 : Int32))] rfl ?_
  refine Gk.iinc X2 hx (hb hby d7_25) rfl #[.val (.ref a1), .val (.int (0 : Int32)), .val (.int (1 : Int32)), .val (.int (-511900244 : Int32)), .val (.int (1 : Int32))] rfl ?_
  refine Gk.goto X2 hx (hb hby d7_28) 5 (by decide) (by decide) ?_
  refine Gk.iload X2 hx (hb hby d7_5) rfl ?_
  refine Gk.iloadN X2 hx (hb hby d7_7) rfl ?_
  refine Gk.icmpYes X2 hx (hb hby d7_8) (flt (by decide : ¬ ((1 : Int32) < (1 : Int32)))).2.1 31 (by decide) (by decide) ?_
  refine Gk.iloadN X2 hx (hb hby d7_31) rfl ?_
  refine Go.fin X2 (v := some (.int (-511900244 : Int32))) (fun h_ => by rw [Bd.returns] at h_; cases h_) Bd.notSynchronized (fun _ hr => retOut X2 hx Bd.returns rfl (Or.inl ⟨rfl, Or.inl rfl, _, rfl⟩) (hb hby d7_32) hr) (fun U' hU hF => ⟨_, _, rfl, ?_, hF.1, hF.2.1, hF.2.2.mono (by decide) (by decide)⟩)
  rw [hU, e2]
  exact ⟨(congrArg (fun z_ : Int32 => some (Value.int z_)) (show (-511900244 : Int32) = (-511900244 : Int32) from rfl)), N2, rfl⟩
theorem ef_rm6_1 (m : MethodId) (a1 : Addr) (a2 : Addr) : entryFrame m #[(.ref a1), (.ref a2)] 2 = mkF m 0 #[.val (.ref a1), .val (.ref a2)] [] := by first | (simp [entryFrame, mkF, argsToLocals, Value.category]; done) | rfl
def Q_rm6_1 (Z : State) (a1 : Addr) (a2 : Addr) (kt : ClassId) (ft : Nat → Value) (h0 : Heap) (n0 : Nat) (v : Option Value) (h : Heap) (L : List Loc) : Prop := v = some (.int (-511900244 : Int32)) ∧ Fr n0 L ∧ h = h0
set_option maxRecDepth 65536 in
set_option maxHeartbeats 40000000 in
theorem rm6_1 (l : Launch) (Z : State) (a0 : Array Value) (hw : ∀ d ∈ tables_1, d.before a0 Z = true) (ws : List Jvm.Cond) (a1 : Addr) (a2 : Addr) (kt : ClassId) (ft : Nat → Value) (h0 : Heap) (n0 : Nat) (Z0 : n0 ≤ h0.size) (V_t : Arf Z h0 a2 kt .int (1 : Int32) ft) (ht0 : ft 0 = (.int (1 : Int32))) (F_width : Fld Z h0 a1 "com/example/tracewarden/tracewarden/engine/SearchTuples" "width" "I" (.int (1 : Int32))) :
    MetFree l (⟨"com/example/tracewarden/tracewarden/engine/SearchTuples", "hash", "([I)I"⟩ : MethodName) (head1 (Jvm.Cond.code (⟨"com/example/tracewarden/tracewarden/engine/SearchTuples", "hash", "([I)I"⟩ : MethodName) prog_86_method_7_code 2 (some .int) :: ws) ({ frames := 2, cells := 0, slots := 0, locals := 32 } : Room)) (fun a U => a = #[(.ref a1), (.ref a2)] ∧ Z.Warmed39 U.vm ∧ U.heap = h0) (fun _ _ _ _ _ => True) (fun _ U o U' => ∃ v L, o = .returned v ∧ Q_rm6_1 Z a1 a2 kt ft h0 n0 v U'.heap L ∧ FrameEnd U o U' L ({ frames := 2, cells := 0, slots := 0, locals := 32 } : Room).cells ({ frames := 2, cells := 0, slots := 0, locals := 32 } : Room).slots) := by
  refine MetFree.of_bodySF (plainFor_of_name pn_95) hisR ?_
  intro p e s m args below meth c s₁ Bd hml0 hP hK
  obtain ⟨rfl, hZ, hh⟩ := hP
  have hx := Bd.exec
  have hby := Bd.bytes
  have hml : c.maxLocals = 2 := hml0
  have hown : s.vm.findClass "com/example/tracewarden/tracewarden/engine/SearchTuples" = some m.cls := findClass_of_methodNamed Bd.named
  have hnm := (name_of_methodNamed Bd.named Bd.method).1
  have X0 : Stand p l e ({ frames := 2, cells := 0, slots := 0, locals := 32 } : Room) s m #[(.ref a1), (.ref a2)] below meth c s₁ [] 0 0 := Stand.of_body Bd
  have e0 : s₁.heap = h0 := by rw [← hh, Bd.state]; rfl
  have N0 := Fr.nil n0
  show Go p e below (s₁.setTop (entryFrame m #[(.ref a1), (.ref a2)] 2)) (fun o U' => ∃ v L, o = .returned v ∧ Q_rm6_1 Z a1 a2 kt ft h0 n0 v U'.heap L ∧ FrameEnd s o U' L ({ frames := 2, cells := 0, slots := 0, locals := 32 } : Room).cells ({ frames := 2, cells := 0, slots := 0, locals := 32 } : Room).slots)
  rw [ef_rm6_1]
  refine Gk.aloadN X0 hx (hb hby d6_0) rfl rfl ?_
  refine Gk.iconst X0 hx (hb hby d6_1) (0 : Int32) rfl ?_
  refine Gk.aloadN X0 hx (hb hby d6_2) rfl rfl ?_
  refine Gk.getF X0 hx hZ hown (host := "") (Or.inl (hw _ (List.mem_of_getElem? (i := 63) rfl))) Via.refl e0 F_width (hb hby d6_3) ?_
  intro T1 X1 e1
  refine Gk.callS (argsL := [(.ref a2), (.int (0 : Int32)), (.int (1 : Int32))]) X1 hx hZ hown (rm7_1 l Z a0 hw [] a2 kt ft h0 n0 Z0 V_t ht0) (hw _ (List.mem_of_getElem? (i := 78) rfl)) (hw _ (List.mem_of_getElem? (i := 79) rfl)) (hw _ (List.mem_of_getElem? (i := 24) rfl)) (hw _ (List.mem_of_getElem? (i := 80) rfl)) (by decide) e1 pd_2 rfl rfl (by decide) (Nat.le_of_ble_eq_true rfl) (by decide) (by decide) (by rw [hml]; rfl)  rfl (hb hby d6_6) ?_
  intro T2 L2 v2 X2 hQ2
  obtain ⟨rfl, N2q, e2⟩ := hQ2
  have N2 := Fr.app N0 N2q
  show Go p e below (T2.setTop (mkF m 9 #[.val (.ref a1), .val (.ref a2)] [(.int (-511900244 : Int32))])) _
  refine Go.fin X2 (v := some (.int (-511900244 : Int32))) (fun h_ => by rw [Bd.returns] at h_; cases h_) Bd.notSynchronized (fun _ hr => retOut X2 hx Bd.returns rfl (Or.inl ⟨rfl, Or.inl rfl, _, rfl⟩) (hb hby d6_9) hr) (fun U' hU hF => ⟨_, _, rfl, ?_, hF.1, hF.2.1, hF.2.2.mono (by decide) (by decide)⟩)
  rw [hU, e2]
  exact ⟨(congrArg (fun z_ : Int32 => some (Value.int z_)) (show (-511900244 : Int32) = (-511900244 : Int32) from rfl)), N2, rfl⟩
theorem ef_rm8_2 (m : MethodId)  : entryFrame m #[(.int (0 : Int32)), (.int (2 : Int32))] 4 = mkF m 0 #[.val (.int (0 : Int32)), .val (.int (2 : Int32)), .unset, .unset] [] := by first | (simp [entryFrame, mkF, argsToLocals, Value.category]; done) | rfl
def Q_rm8_2 (Z : State)  (h0 : Heap) (n0 : Nat) (v : Option Value) (h : Heap) (L : List Loc) : Prop := v = some (.int (-1023800488 : Int32)) ∧ Fr n0 L ∧ h = h0
set_option maxRecDepth 65536 in
set_option maxHeartbeats 40000000 in
theorem rm8_2 (l : Launch) (Z : State) (a0 : Array Value) (hw : ∀ d ∈ tables_1, d.before a0 Z = true) (ws : List Jvm.Cond)  (h0 : Heap) (n0 : Nat) (Z0 : n0 ≤ h0.size) :
    MetFree l (⟨"com/example/tracewarden/tracewarden/engine/SearchTuples", "code", "(II)I"⟩ : MethodName) (head1 (Jvm.Cond.code (⟨"com/example/tracewarden/tracewarden/engine/SearchTuples", "code", "(II)I"⟩ : MethodName) prog_86_method_21_code 4 (some .int) :: ws) ({ frames := 0, cells := 0, slots := 0, locals := 0 } : Room)) (fun a U => a = #[(.int (0 : Int32)), (.int (2 : Int32))] ∧ Z.Warmed39 U.vm ∧ U.heap = h0) (fun _ _ _ _ _ => True) (fun _ U o U' => ∃ v L, o = .returned v ∧ Q_rm8_2 Z  h0 n0 v U'.heap L ∧ FrameEnd U o U' L ({ frames := 0, cells := 0, slots := 0, locals := 0 } : Room).cells ({ frames := 0, cells := 0, slots := 0, locals := 0 } : Room).slots) := by
  refine MetFree.of_bodySF (plainFor_of_name pn_95) hisR ?_
  intro p e s m args below meth c s₁ Bd hml0 hP hK
  obtain ⟨rfl, hZ, hh⟩ := hP
  have hx := Bd.exec
  have hby := Bd.bytes
  have hml : c.maxLocals = 4 := hml0
  have hown : s.vm.findClass "com/example/tracewarden/tracewarden/engine/SearchTuples" = some m.cls := findClass_of_methodNamed Bd.named
  have hnm := (name_of_methodNamed Bd.named Bd.method).1
  have X0 : Stand p l e ({ frames := 0, cells := 0, slots := 0, locals := 0 } : Room) s m #[(.int (0 : Int32)), (.int (2 : Int32))] below meth c s₁ [] 0 0 := Stand.of_body Bd
  have e0 : s₁.heap = h0 := by rw [← hh, Bd.state]; rfl
  have N0 := Fr.nil n0
  show Go p e below (s₁.setTop (entryFrame m #[(.int (0 : Int32)), (.int (2 : Int32))] 4)) (fun o U' => ∃ v L, o = .returned v ∧ Q_rm8_2 Z  h0 n0 v U'.heap L ∧ FrameEnd s o U' L ({ frames := 0, cells := 0, slots := 0, locals := 0 } : Room).cells ({ frames := 0, cells := 0, slots := 0, locals := 0 } : Room).slots)
  rw [ef_rm8_2]
  refine Gk.iloadN X0 hx (hb hby d8_0) rfl ?_
  refine Gk.i2l X0 hx (hb hby d8_1) (0 : Int64) (by decide) ?_
  refine Gk.bipush X0 hx (hb hby d8_2) (32 : Int32) rfl ?_
  refine Gk.lshl X0 hx (hb hby d8_4) (0 : Int64) (by decide) ?_
  refine Gk.iloadN X0 hx (hb hby d8_5) rfl ?_
  refine Gk.i2l X0 hx (hb hby d8_6) (2 : Int64) (by decide) ?_
  refine Gk.ldcL X0 hx hZ hown (hw _ (List.mem_of_getElem? (i := 84) rfl)) (hb hby d8_7) ?_
  refine Gk.land X0 hx (hb hby d8_10) (2 : Int64) (by decide) ?_
  refine Gk.lor X0 hx (hb hby d8_11) (2 : Int64) (by decide) ?_
  refine Gk.ldcL X0 hx hZ hown (hw _ (List.mem_of_getElem? (i := 85) rfl)) (hb hby d8_12) ?_
  refine Gk.lmul X0 hx (hb hby d8_15) (4354685564936845354 : Int64) (by decide) ?_
  refine Gk.lstoreN X0 hx (hb hby d8_16) #[.val (.int (0 : Int32)), .val (.int (2 : Int32)), .val (.long (4354685564936845354 : Int64)), .second] rfl ?_
  refine Gk.lloadN X0 hx (hb hby d8_17) rfl ?_
  refine Gk.bipush X0 hx (hb hby d8_18) (32 : Int32) rfl ?_
  refine Gk.lushr X0 hx (hb hby d8_20) (1013904242 : Int64) (by decide) ?_
  refine Gk.l2i X0 hx (hb hby d8_21) (1013904242 : Int32) (by decide) ?_
  refine Gk.lloadN X0 hx (hb hby d8_22) rfl ?_
  refine Gk.l2i X0 hx (hb hby d8_23) (-23791574 : Int32) (by decide) ?_
  refine Gk.ixor X0 hx (hb hby d8_24) (-1023800488 : Int32) (by decide) ?_
  refine Go.fin X0 (v := some (.int (-1023800488 : Int32))) (fun h_ => by rw [Bd.returns] at h_; cases h_) Bd.notSynchronized (fun _ hr => retOut X0 hx Bd.returns rfl (Or.inl ⟨rfl, Or.inl rfl, _, rfl⟩) (hb hby d8_25) hr) (fun U' hU hF => ⟨_, _, rfl, ?_, hF.1, hF.2.1, hF.2.2.mono (by decide) (by decide)⟩)
  rw [hU, e0]
  exact ⟨(congrArg (fun z_ : Int32 => some (Value.int z_)) (show (-1023800488 : Int32) = (-1023800488 : Int32) from rfl)), N0, rfl⟩
theorem ef_rm7_2 (m : MethodId) (a1 : Addr) : entryFrame m #[(.ref a1), (.int (0 : Int32)), (.int (1 : Int32))] 5 = mkF m 0 #[.val (.ref a1), .val (.int (0 : Int32)), .val (.int (1 : Int32)), .unset, .unset] [] := by first | (simp [entryFrame, mkF, argsToLocals, Value.category]; done) | rfl
def Q_rm7_2 (Z : State) (a1 : Addr) (kt : ClassId) (ft : Nat → Value) (h0 : Heap) (n0 : Nat) (v : Option Value) (h : Heap) (L : List Loc) : Prop := v = some (.int (-1023800488 : Int32)) ∧ Fr n0 L ∧ h = h0
set_option maxRecDepth 65536 in
set_option maxHeartbeats 40000000 in
theorem rm7_2 (l : Launch) (Z : State) (a0 : Array Value) (hw : ∀ d ∈ tables_1, d.before a0 Z = true) (ws : List Jvm.Cond) (a1 : Addr) (kt : ClassId) (ft : Nat → Value) (h0 : Heap) (n0 : Nat) (Z0 : n0 ≤ h0.size) (V_t : Arf Z h0 a1 kt .int (1 : Int32) ft) (ht0 : ft 0 = (.int (2 : Int32))) :
    MetFree l (⟨"com/example/tracewarden/tracewarden/engine/SearchTuples", "hash", "([III)I"⟩ : MethodName) (head1 (Jvm.Cond.code (⟨"com/example/tracewarden/tracewarden/engine/SearchTuples", "hash", "([III)I"⟩ : MethodName) prog_86_method_20_code 5 (some .int) :: ws) ({ frames := 1, cells := 0, slots := 0, locals := 16 } : Room)) (fun a U => a = #[(.ref a1), (.int (0 : Int32)), (.int (1 : Int32))] ∧ Z.Warmed39 U.vm ∧ U.heap = h0) (fun _ _ _ _ _ => True) (fun _ U o U' => ∃ v L, o = .returned v ∧ Q_rm7_2 Z a1 kt ft h0 n0 v U'.heap L ∧ FrameEnd U o U' L ({ frames := 1, cells := 0, slots := 0, locals := 16 } : Room).cells ({ frames := 1, cells := 0, slots := 0, locals := 16 } : Room).slots) := by
  refine MetFree.of_bodySF (plainFor_of_name pn_95) hisR ?_
  intro p e s m args below meth c s₁ Bd hml0 hP hK
  obtain ⟨rfl, hZ, hh⟩ := hP
  have hx := Bd.exec
  have hby := Bd.bytes
  have hml : c.maxLocals = 5 := hml0
  have hown : s.vm.findClass "com/example/tracewarden/tracewarden/engine/SearchTuples" = some m.cls := findClass_of_methodNamed Bd.named
  have hnm := (name_of_methodNamed Bd.named Bd.method).1
  have X0 : Stand p l e ({ frames := 1, cells := 0, slots := 0, locals := 16 } : Room) s m #[(.ref a1), (.int (0 : Int32)), (.int (1 : Int32))] below meth c s₁ [] 0 0 := Stand.of_body Bd
  have e0 : s₁.heap = h0 := by rw [← hh, Bd.state]; rfl
  have N0 := Fr.nil n0
  show Go p e below (s₁.setTop (entryFrame m #[(.ref a1), (.int (0 : Int32)), (.int (1 : Int32))] 5)) (fun o U' => ∃ v L, o = .returned v ∧ Q_rm7_2 Z a1 kt ft h0 n0 v U'.heap L ∧ FrameEnd s o U' L ({ frames := 1, cells := 0, slots := 0, locals := 16 } : Room).cells ({ frames := 1, cells := 0, slots := 0, locals := 16 } : Room).slots)
  rw [ef_rm7_2]
  refine Gk.iconst X0 hx (hb hby d7_0) (0 : Int32) rfl ?_
  refine Gk.istoreN X0 hx (hb hby d7_1) #[.val (.ref a1), .val (.int (0 : Int32)), .val (.int (1 : Int32)), .val (.int (0 : Int32)), .unset] rfl ?_
  refine Gk.iconst X0 hx (hb hby d7_2) (0 : Int32) rfl ?_
  refine Gk.istore X0 hx (hb hby d7_3) #[.val (.ref a1), .val (.int (0 : Int32)), .val (.int (1 : Int32)), .val (.int (0 : Int32)), .val (.int (0 : Int32))] rfl ?_
  refine Gk.iload X0 hx (hb hby d7_5) rfl ?_
  refine Gk.iloadN X0 hx (hb hby d7_7) rfl ?_
  refine Gk.icmpNo X0 hx (hb hby d7_8) (tlt (by decide : (0 : Int32) < (1 : Int32))).2.1 ?_
  refine Gk.iloadN X0 hx (hb hby d7_11) rfl ?_
  refine Gk.iload X0 hx (hb hby d7_12) rfl ?_
  refine Gk.aloadN X0 hx (hb hby d7_14) rfl rfl ?_
  refine Gk.iloadN X0 hx (hb hby d7_15) rfl ?_
  refine Gk.iload X0 hx (hb hby d7_16) rfl ?_
  refine Gk.iadd X0 hx (hb hby d7_18) (0 : Int32) (by decide) ?_
  refine Gk.iaload X0 hx hZ e0 V_t ⟨by decide, by decide⟩ (.int (2 : Int32)) ht0 (hb hby d7_19) ?_
  refine Gk.callS (argsL := [(.int (0 : Int32)), (.int (2 : Int32))]) X0 hx hZ hown (rm8_2 l Z a0 hw []  h0 n0 Z0) (hw _ (List.mem_of_getElem? (i := 81) rfl)) (hw _ (List.mem_of_getElem? (i := 82) rfl)) (hw _ (List.mem_of_getElem? (i := 24) rfl)) (hw _ (List.mem_of_getElem? (i := 83) rfl)) (by decide) e0 pd_1 rfl rfl (by decide) (Nat.le_of_ble_eq_true rfl) (by decide) (by decide) (by rw [hml]; rfl)  rfl (hb hby d7_20) ?_
  intro T2 L2 v2 X2 hQ2
  obtain ⟨rfl, N2q, e2⟩ := hQ2
  have N2 := Fr.app N0 N2q
  show Go p e below (T2.setTop (mkF m 23 #[.val (.ref a1), .val (.int (0 : Int32)), .val (.int (1 : Int32)), .val (.int (0 : Int32)), .val (.int (0 : Int32))] [(.int (-1023800488 : Int32)), (.int (0 : Int32))])) _
  refine Gk.iadd X2 hx (hb hby d7_23) (-1023800488 : Int32) (by decide) ?_
  refine Gk.istoreN X2 hx (hb hby d7_24) #[.val (.ref a1), .val (.int (0 : Int32)), .val (.int (1 : Int32)), .val (.int (-1023800488 : Int32)), .val (.int (0 : Int32))] rfl ?_
  refine Gk.iinc X2 hx (hb hby d7_25) rfl #[.val (.ref a1), .val (.int (0 : Int32)), .val (.int (1 : Int32)), .val (.int (-1023800488 : Int32)), .val (.int (1 : Int32))] rfl ?_
  refine Gk.goto X2 hx (hb hby d7_28) 5 (by decide) (by decide) ?_
  refine Gk.iload X2 hx (hb hby d7_5) rfl ?_
  refine Gk.iloadN X2 hx (hb hby d7_7) rfl ?_
  refine Gk.icmpYes X2 hx (hb hby d7_8) (flt (by decide : ¬ ((1 : Int32) < (1 : Int32)))).2.1 31 (by decide) (by decide) ?_
  refine Gk.iloadN X2 hx (hb hby d7_31) rfl ?_
  refine Go.fin X2 (v := some (.int (-1023800488 : Int32))) (fun h_ => by rw [Bd.returns] at h_; cases h_) Bd.notSynchronized (fun _ hr => retOut X2 hx Bd.returns rfl (Or.inl ⟨rfl, Or.inl rfl, _, rfl⟩) (hb hby d7_32) hr) (fun U' hU hF => ⟨_, _, rfl, ?_, hF.1, hF.2.1, hF.2.2.mono (by decide) (by decide)⟩)
  rw [hU, e2]
  exact ⟨(congrArg (fun z_ : Int32 => some (Value.int z_)) (show (-1023800488 : Int32) = (-1023800488 : Int32) from rfl)), N2, rfl⟩
theorem ef_rm6_2 (m : MethodId) (a1 : Addr) (a2 : Addr) : entryFrame m #[(.ref a1), (.ref a2)] 2 = mkF m 0 #[.val (.ref a1), .val (.ref a2)] [] := by first | (simp [entryFrame, mkF, argsToLocals, Value.category]; done) | rfl
def Q_rm6_2 (Z : State) (a1 : Addr) (a2 : Addr) (kt : ClassId) (ft : Nat → Value) (h0 : Heap) (n0 : Nat) (v : Option Value) (h : Heap) (L : List Loc) : Prop := v = some (.int (-1023800488 : Int32)) ∧ Fr n0 L ∧ h = h0
set_option maxRecDepth 65536 in
set_option maxHeartbeats 40000000 in
theorem rm6_2 (l : Launch) (Z : State) (a0 : Array Value) (hw : ∀ d ∈ tables_1, d.before a0 Z = true) (ws : List Jvm.Cond) (a1 : Addr) (a2 : Addr) (kt : ClassId) (ft : Nat → Value) (h0 : Heap) (n0 : Nat) (Z0 : n0 ≤ h0.size) (V_t : Arf Z h0 a2 kt .int (1 : Int32) ft) (ht0 : ft 0 = (.int (2 : Int32))) (F_width : Fld Z h0 a1 "com/example/tracewarden/tracewarden/engine/SearchTuples" "width" "I" (.int (1 : Int32))) :
    MetFree l (⟨"com/example/tracewarden/tracewarden/engine/SearchTuples", "hash", "([I)I"⟩ : MethodName) (head1 (Jvm.Cond.code (⟨"com/example/tracewarden/tracewarden/engine/SearchTuples", "hash", "([I)I"⟩ : MethodName) prog_86_method_7_code 2 (some .int) :: ws) ({ frames := 2, cells := 0, slots := 0, locals := 32 } : Room)) (fun a U => a = #[(.ref a1), (.ref a2)] ∧ Z.Warmed39 U.vm ∧ U.heap = h0) (fun _ _ _ _ _ => True) (fun _ U o U' => ∃ v L, o = .returned v ∧ Q_rm6_2 Z a1 a2 kt ft h0 n0 v U'.heap L ∧ FrameEnd U o U' L ({ frames := 2, cells := 0, slots := 0, locals := 32 } : Room).cells ({ frames := 2, cells := 0, slots := 0, locals := 32 } : Room).slots) := by
  refine MetFree.of_bodySF (plainFor_of_name pn_95) hisR ?_
  intro p e s m args below meth c s₁ Bd hml0 hP hK
  obtain ⟨rfl, hZ, hh⟩ := hP
  have hx := Bd.exec
  have hby := Bd.bytes
  have hml : c.maxLocals = 2 := hml0
  have hown : s.vm.findClass "com/example/tracewarden/tracewarden/engine/SearchTuples" = some m.cls := findClass_of_methodNamed Bd.named
  have hnm := (name_of_methodNamed Bd.named Bd.method).1
  have X0 : Stand p l e ({ frames := 2, cells := 0, slots := 0, locals := 32 } : Room) s m #[(.ref a1), (.ref a2)] below meth c s₁ [] 0 0 := Stand.of_body Bd
  have e0 : s₁.heap = h0 := by rw [← hh, Bd.state]; rfl
  have N0 := Fr.nil n0
  show Go p e below (s₁.setTop (entryFrame m #[(.ref a1), (.ref a2)] 2)) (fun o U' => ∃ v L, o = .returned v ∧ Q_rm6_2 Z a1 a2 kt ft h0 n0 v U'.heap L ∧ FrameEnd s o U' L ({ frames := 2, cells := 0, slots := 0, locals := 32 } : Room).cells ({ frames := 2, cells := 0, slots := 0, locals := 32 } : Room).slots)
  rw [ef_rm6_2]
  refine Gk.aloadN X0 hx (hb hby d6_0) rfl rfl ?_
  refine Gk.iconst X0 hx (hb hby d6_1) (0 : Int32) rfl ?_
  refine Gk.aloadN X0 hx (hb hby d6_2) rfl rfl ?_
  refine Gk.getF X0 hx hZ hown (host := "") (Or.inl (hw _ (List.mem_of_getElem? (i := 63) rfl))) Via.refl e0 F_width (hb hby d6_3) ?_
  intro T1 X1 e1
  refine Gk.callS (argsL := [(.ref a2), (.int (0 : Int32)), (.int (1 : Int32))]) X1 hx hZ hown (rm7_2 l Z a0 hw [] a2 kt ft h0 n0 Z0 V_t ht0) (hw _ (List.mem_of_getElem? (i := 78) rfl)) (hw _ (List.mem_of_getElem? (i := 79) rfl)) (hw _ (List.mem_of_getElem? (i := 24) rfl)) (hw _ (List.mem_of_getElem? (i := 80) rfl)) (by decide) e1 pd_2 rfl rfl (by decide) (Nat.le_of_ble_eq_true rfl) (by decide) (by decide) (by rw [hml]; rfl)  rfl (hb hby d6_6) ?_
  intro T2 L2 v2 X2 hQ2
  obtain ⟨rfl, N2q, e2⟩ := hQ2
  have N2 := Fr.app N0 N2q
  show Go p e below (T2.setTop (mkF m 9 #[.val (.ref a1), .val (.ref a2)] [(.int (-1023800488 : Int32))])) _
  refine Go.fin X2 (v := some (.int (-1023800488 : Int32))) (fun h_ => by rw [Bd.returns] at h_; cases h_) Bd.notSynchronized (fun _ hr => retOut X2 hx Bd.returns rfl (Or.inl ⟨rfl, Or.inl rfl, _, rfl⟩) (hb hby d6_9) hr) (fun U' hU hF => ⟨_, _, rfl, ?_, hF.1, hF.2.1, hF.2.2.mono (by decide) (by decide)⟩)
  rw [hU, e2]
  exact ⟨(congrArg (fun z_ : Int32 => some (Value.int z_)) (show (-1023800488 : Int32) = (-1023800488 : Int32) from rfl)), N2, rfl⟩
theorem ef_rm8_3 (m : MethodId)  : entryFrame m #[(.int (0 : Int32)), (.int (3 : Int32))] 4 = mkF m 0 #[.val (.int (0 : Int32)), .val (.int (3 : Int32)), .unset, .unset] [] := by first | (simp [entryFrame, mkF, argsToLocals, Value.category]; done) | rfl
def Q_rm8_3 (Z : State)  (h0 : Heap) (n0 : Nat) (v : Option Value) (h : Heap) (L : List Loc) : Prop := v = some (.int (-1485235949 : Int32)) ∧ Fr n0 L ∧ h = h0
set_option maxRecDepth 65536 in
set_option maxHeartbeats 40000000 in
theorem rm8_3 (l : Launch) (Z : State) (a0 : Array Value) (hw : ∀ d ∈ tables_1, d.before a0 Z = true) (ws : List Jvm.Cond)  (h0 : Heap) (n0 : Nat) (Z0 : n0 ≤ h0.size) :
    MetFree l (⟨"com/example/tracewarden/tracewarden/engine/SearchTuples", "code", "(II)I"⟩ : MethodName) (head1 (Jvm.Cond.code (⟨"com/example/tracewarden/tracewarden/engine/SearchTuples", "code", "(II)I"⟩ : MethodName) prog_86_method_21_code 4 (some .int) :: ws) ({ frames := 0, cells := 0, slots := 0, locals := 0 } : Room)) (fun a U => a = #[(.int (0 : Int32)), (.int (3 : Int32))] ∧ Z.Warmed39 U.vm ∧ U.heap = h0) (fun _ _ _ _ _ => True) (fun _ U o U' => ∃ v L, o = .returned v ∧ Q_rm8_3 Z  h0 n0 v U'.heap L ∧ FrameEnd U o U' L ({ frames := 0, cells := 0, slots := 0, locals := 0 } : Room).cells ({ frames := 0, cells := 0, slots := 0, locals := 0 } : Room).slots) := by
  refine MetFree.of_bodySF (plainFor_of_name pn_95) hisR ?_
  intro p e s m args below meth c s₁ Bd hml0 hP hK
  obtain ⟨rfl, hZ, hh⟩ := hP
  have hx := Bd.exec
  have hby := Bd.bytes
  have hml : c.maxLocals = 4 := hml0
  have hown : s.vm.findClass "com/example/tracewarden/tracewarden/engine/SearchTuples" = some m.cls := findClass_of_methodNamed Bd.named
  have hnm := (name_of_methodNamed Bd.named Bd.method).1
  have X0 : Stand p l e ({ frames := 0, cells := 0, slots := 0, locals := 0 } : Room) s m #[(.int (0 : Int32)), (.int (3 : Int32))] below meth c s₁ [] 0 0 := Stand.of_body Bd
  have e0 : s₁.heap = h0 := by rw [← hh, Bd.state]; rfl
  have N0 := Fr.nil n0
  show Go p e below (s₁.setTop (entryFrame m #[(.int (0 : Int32)), (.int (3 : Int32))] 4)) (fun o U' => ∃ v L, o = .returned v ∧ Q_rm8_3 Z  h0 n0 v U'.heap L ∧ FrameEnd s o U' L ({ frames := 0, cells := 0, slots := 0, locals := 0 } : Room).cells ({ frames := 0, cells := 0, slots := 0, locals := 0 } : Room).slots)
  rw [ef_rm8_3]
  refine Gk.iloadN X0 hx (hb hby d8_0) rfl ?_
  refine Gk.i2l X0 hx (hb hby d8_1) (0 : Int64) (by decide) ?_
  refine Gk.bipush X0 hx (hb hby d8_2) (32 : Int32) rfl ?_
  refine Gk.lshl X0 hx (hb hby d8_4) (0 : Int64) (by decide) ?_
  refine Gk.iloadN X0 hx (hb hby d8_5) rfl ?_
  refine Gk.i2l X0 hx (hb hby d8_6) (3 : Int64) (by decide) ?_
  refine Gk.ldcL X0 hx hZ hown (hw _ (List.mem_of_getElem? (i := 84) rfl)) (hb hby d8_7) ?_
  refine Gk.land X0 hx (hb hby d8_10) (3 : Int64) (by decide) ?_
  refine Gk.lor X0 hx (hb hby d8_11) (3 : Int64) (by decide) ?_
  refine Gk.ldcL X0 hx hZ hown (hw _ (List.mem_of_getElem? (i := 85) rfl)) (hb hby d8_12) ?_
  refine Gk.lmul X0 hx (hb hby d8_15) (-2691343689449507777 : Int64) (by decide) ?_
  refine Gk.lstoreN X0 hx (hb hby d8_16) #[.val (.int (0 : Int32)), .val (.int (3 : Int32)), .val (.long (-2691343689449507777 : Int64)), .second] rfl ?_
  refine Gk.lloadN X0 hx (hb hby d8_17) rfl ?_
  refine Gk.bipush X0 hx (hb hby d8_18) (32 : Int32) rfl ?_
  refine Gk.lushr X0 hx (hb hby d8_20) (3668340012 : Int64) (by decide) ?_
  refine Gk.l2i X0 hx (hb hby d8_21) (-626627284 : Int32) (by decide) ?_
  refine Gk.lloadN X0 hx (hb hby d8_22) rfl ?_
  refine Gk.l2i X0 hx (hb hby d8_23) (2111796287 : Int32) (by decide) ?_
  refine Gk.ixor X0 hx (hb hby d8_24) (-1485235949 : Int32) (by decide) ?_
  refine Go.fin X0 (v := some (.int (-1485235949 : Int32))) (fun h_ => by rw [Bd.returns] at h_; cases h_) Bd.notSynchronized (fun _ hr => retOut X0 hx Bd.returns rfl (Or.inl ⟨rfl, Or.inl rfl, _, rfl⟩) (hb hby d8_25) hr) (fun U' hU hF => ⟨_, _, rfl, ?_, hF.1, hF.2.1, hF.2.2.mono (by decide) (by decide)⟩)
  rw [hU, e0]
  exact ⟨(congrArg (fun z_ : Int32 => some (Value.int z_)) (show (-1485235949 : Int32) = (-1485235949 : Int32) from rfl)), N0, rfl⟩
theorem ef_rm7_3 (m : MethodId) (a1 : Addr) : entryFrame m #[(.ref a1), (.int (0 : Int32)), (.int (1 : Int32))] 5 = mkF m 0 #[.val (.ref a1), .val (.int (0 : Int32)), .val (.int (1 : Int32)), .unset, .unset] [] := by first | (simp [entryFrame, mkF, argsToLocals, Value.category]; done) | rfl
def Q_rm7_3 (Z : State) (a1 : Addr) (kt : ClassId) (ft : Nat → Value) (h0 : Heap) (n0 : Nat) (v : Option Value) (h : Heap) (L : List Loc) : Prop := v = some (.int (-1485235949 : Int32)) ∧ Fr n0 L ∧ h = h0
set_option maxRecDepth 65536 in
set_option maxHeartbeats 40000000 in
theorem rm7_3 (l : Launch) (Z : State) (a0 : Array Value) (hw : ∀ d ∈ tables_1, d.before a0 Z = true) (ws : List Jvm.Cond) (a1 : Addr) (kt : ClassId) (ft : Nat → Value) (h0 : Heap) (n0 : Nat) (Z0 : n0 ≤ h0.size) (V_t : Arf Z h0 a1 kt .int (1 : Int32) ft) (ht0 : ft 0 = (.int (3 : Int32))) :
    MetFree l (⟨"com/example/tracewarden/tracewarden/engine/SearchTuples", "hash", "([III)I"⟩ : MethodName) (head1 (Jvm.Cond.code (⟨"com/example/tracewarden/tracewarden/engine/SearchTuples", "hash", "([III)I"⟩ : MethodName) prog_86_method_20_code 5 (some .int) :: ws) ({ frames := 1, cells := 0, slots := 0, locals := 16 } : Room)) (fun a U => a = #[(.ref a1), (.int (0 : Int32)), (.int (1 : Int32))] ∧ Z.Warmed39 U.vm ∧ U.heap = h0) (fun _ _ _ _ _ => True) (fun _ U o U' => ∃ v L, o = .returned v ∧ Q_rm7_3 Z a1 kt ft h0 n0 v U'.heap L ∧ FrameEnd U o U' L ({ frames := 1, cells := 0, slots := 0, locals := 16 } : Room).cells ({ frames := 1, cells := 0, slots := 0, locals := 16 } : Room).slots) := by
  refine MetFree.of_bodySF (plainFor_of_name pn_95) hisR ?_
  intro p e s m args below meth c s₁ Bd hml0 hP hK
  obtain ⟨rfl, hZ, hh⟩ := hP
  have hx := Bd.exec
  have hby := Bd.bytes
  have hml : c.maxLocals = 5 := hml0
  have hown : s.vm.findClass "com/example/tracewarden/tracewarden/engine/SearchTuples" = some m.cls := findClass_of_methodNamed Bd.named
  have hnm := (name_of_methodNamed Bd.named Bd.method).1
  have X0 : Stand p l e ({ frames := 1, cells := 0, slots := 0, locals := 16 } : Room) s m #[(.ref a1), (.int (0 : Int32)), (.int (1 : Int32))] below meth c s₁ [] 0 0 := Stand.of_body Bd
  have e0 : s₁.heap = h0 := by rw [← hh, Bd.state]; rfl
  have N0 := Fr.nil n0
  show Go p e below (s₁.setTop (entryFrame m #[(.ref a1), (.int (0 : Int32)), (.int (1 : Int32))] 5)) (fun o U' => ∃ v L, o = .returned v ∧ Q_rm7_3 Z a1 kt ft h0 n0 v U'.heap L ∧ FrameEnd s o U' L ({ frames := 1, cells := 0, slots := 0, locals := 16 } : Room).cells ({ frames := 1, cells := 0, slots := 0, locals := 16 } : Room).slots)
  rw [ef_rm7_3]
  refine Gk.iconst X0 hx (hb hby d7_0) (0 : Int32) rfl ?_
  refine Gk.istoreN X0 hx (hb hby d7_1) #[.val (.ref a1), .val (.int (0 : Int32)), .val (.int (1 : Int32)), .val (.int (0 : Int32)), .unset] rfl ?_
  refine Gk.iconst X0 hx (hb hby d7_2) (0 : Int32) rfl ?_
  refine Gk.istore X0 hx (hb hby d7_3) #[.val (.ref a1), .val (.int (0 : Int32)), .val (.int (1 : Int32)), .val (.int (0 : Int32)), .val (.int (0 : Int32))] rfl ?_
  refine Gk.iload X0 hx (hb hby d7_5) rfl ?_
  refine Gk.iloadN X0 hx (hb hby d7_7) rfl ?_
  refine Gk.icmpNo X0 hx (hb hby d7_8) (tlt (by decide : (0 : Int32) < (1 : Int32))).2.1 ?_
  refine Gk.iloadN X0 hx (hb hby d7_11) rfl ?_
  refine Gk.iload X0 hx (hb hby d7_12) rfl ?_
  refine Gk.aloadN X0 hx (hb hby d7_14) rfl rfl ?_
  refine Gk.iloadN X0 hx (hb hby d7_15) rfl ?_
  refine Gk.iload X0 hx (hb hby d7_16) rfl ?_
  refine Gk.iadd X0 hx (hb hby d7_18) (0 : Int32) (by decide) ?_
  refine Gk.iaload X0 hx hZ e0 V_t ⟨by decide, by decide⟩ (.int (3 : Int32)) ht0 (hb hby d7_19) ?_
  refine Gk.callS (argsL := [(.int (0 : Int32)), (.int (3 : Int32))]) X0 hx hZ hown (rm8_3 l Z a0 hw []  h0 n0 Z0) (hw _ (List.mem_of_getElem? (i := 81) rfl)) (hw _ (List.mem_of_getElem? (i := 82) rfl)) (hw _ (List.mem_of_getElem? (i := 24) rfl)) (hw _ (List.mem_of_getElem? (i := 83) rfl)) (by decide) e0 pd_1 rfl rfl (by decide) (Nat.le_of_ble_eq_true rfl) (by decide) (by decide) (by rw [hml]; rfl)  rfl (hb hby d7_20) ?_
  intro T2 L2 v2 X2 hQ2
  obtain ⟨rfl, N2q, e2⟩ := hQ2
  have N2 := Fr.app N0 N2q
  show Go p e below (T2.setTop (mkF m 23 #[.val (.ref a1), .val (.int (0 : Int32)), .val (.int (1 : Int32)), .val (.int (0 : Int32)), .val (.int (0 : Int32))] [(.int (-1485235949 : Int32)), (.int (0 : Int32))])) _
  refine Gk.iadd X2 hx (hb hby d7_23) (-1485235949 : Int32) (by decide) ?_
  refine Gk.istoreN X2 hx (hb hby d7_24) #[.val (.ref a1), .val (.int (0 : Int32)), .val (.int (1 : Int32)), .val (.int (-1485235949 : Int32)), .val (.int (0 : Int32))] rfl ?_
  refine Gk.iinc X2 hx (hb hby d7_25) rfl #[.val (.ref a1), .val (.int (0 : Int32)), .val (.int (1 : Int32)), .val (.int (-1485235949 : Int32)), .val (.int (1 : Int32))] rfl ?_
  refine Gk.goto X2 hx (hb hby d7_28) 5 (by decide) (by decide) ?_
  refine Gk.iload X2 hx (hb hby d7_5) rfl ?_
  refine Gk.iloadN X2 hx (hb hby d7_7) rfl ?_
  refine Gk.icmpYes X2 hx (hb hby d7_8) (flt (by decide : ¬ ((1 : Int32) < (1 : Int32)))).2.1 31 (by decide) (by decide) ?_
  refine Gk.iloadN X2 hx (hb hby d7_31) rfl ?_
  refine Go.fin X2 (v := some (.int (-1485235949 : Int32))) (fun h_ => by rw [Bd.returns] at h_; cases h_) Bd.notSynchronized (fun _ hr => retOut X2 hx Bd.returns rfl (Or.inl ⟨rfl, Or.inl rfl, _, rfl⟩) (hb hby d7_32) hr) (fun U' hU hF => ⟨_, _, rfl, ?_, hF.1, hF.2.1, hF.2.2.mono (by decide) (by decide)⟩)
  rw [hU, e2]
  exact ⟨(congrArg (fun z_ : Int32 => some (Value.int z_)) (show (-1485235949 : Int32) = (-1485235949 : Int32) from rfl)), N2, rfl⟩
theorem ef_rm6_3 (m : MethodId) (a1 : Addr) (a2 : Addr) : entryFrame m #[(.ref a1), (.ref a2)] 2 = mkF m 0 #[.val (.ref a1), .val (.ref a2)] [] := by first | (simp [entryFrame, mkF, argsToLocals, Value.category]; done) | rfl
def Q_rm6_3 (Z : State) (a1 : Addr) (a2 : Addr) (kt : ClassId) (ft : Nat → Value) (h0 : Heap) (n0 : Nat) (v : Option Value) (h : Heap) (L : List Loc) : Prop := v = some (.int (-1485235949 : Int32)) ∧ Fr n0 L ∧ h = h0
set_option maxRecDepth 65536 in
set_option maxHeartbeats 40000000 in
theorem rm6_3 (l : Launch) (Z : State) (a0 : Array Value) (hw : ∀ d ∈ tables_1, d.before a0 Z = true) (ws : List Jvm.Cond) (a1 : Addr) (a2 : Addr) (kt : ClassId) (ft : Nat → Value) (h0 : Heap) (n0 : Nat) (Z0 : n0 ≤ h0.size) (V_t : Arf Z h0 a2 kt .int (1 : Int32) ft) (ht0 : ft 0 = (.int (3 : Int32))) (F_width : Fld Z h0 a1 "com/example/tracewarden/tracewarden/engine/SearchTuples" "width" "I" (.int (1 : Int32))) :
    MetFree l (⟨"com/example/tracewarden/tracewarden/engine/SearchTuples", "hash", "([I)I"⟩ : MethodName) (head1 (Jvm.Cond.code (⟨"com/example/tracewarden/tracewarden/engine/SearchTuples", "hash", "([I)I"⟩ : MethodName) prog_86_method_7_code 2 (some .int) :: ws) ({ frames := 2, cells := 0, slots := 0, locals := 32 } : Room)) (fun a U => a = #[(.ref a1), (.ref a2)] ∧ Z.Warmed39 U.vm ∧ U.heap = h0) (fun _ _ _ _ _ => True) (fun _ U o U' => ∃ v L, o = .returned v ∧ Q_rm6_3 Z a1 a2 kt ft h0 n0 v U'.heap L ∧ FrameEnd U o U' L ({ frames := 2, cells := 0, slots := 0, locals := 32 } : Room).cells ({ frames := 2, cells := 0, slots := 0, locals := 32 } : Room).slots) := by
  refine MetFree.of_bodySF (plainFor_of_name pn_95) hisR ?_
  intro p e s m args below meth c s₁ Bd hml0 hP hK
  obtain ⟨rfl, hZ, hh⟩ := hP
  have hx := Bd.exec
  have hby := Bd.bytes
  have hml : c.maxLocals = 2 := hml0
  have hown : s.vm.findClass "com/example/tracewarden/tracewarden/engine/SearchTuples" = some m.cls := findClass_of_methodNamed Bd.named
  have hnm := (name_of_methodNamed Bd.named Bd.method).1
  have X0 : Stand p l e ({ frames := 2, cells := 0, slots := 0, locals := 32 } : Room) s m #[(.ref a1), (.ref a2)] below meth c s₁ [] 0 0 := Stand.of_body Bd
  have e0 : s₁.heap = h0 := by rw [← hh, Bd.state]; rfl
  have N0 := Fr.nil n0
  show Go p e below (s₁.setTop (entryFrame m #[(.ref a1), (.ref a2)] 2)) (fun o U' => ∃ v L, o = .returned v ∧ Q_rm6_3 Z a1 a2 kt ft h0 n0 v U'.heap L ∧ FrameEnd s o U' L ({ frames := 2, cells := 0, slots := 0, locals := 32 } : Room).cells ({ frames := 2, cells := 0, slots := 0, locals := 32 } : Room).slots)
  rw [ef_rm6_3]
  refine Gk.aloadN X0 hx (hb hby d6_0) rfl rfl ?_
  refine Gk.iconst X0 hx (hb hby d6_1) (0 : Int32) rfl ?_
  refine Gk.aloadN X0 hx (hb hby d6_2) rfl rfl ?_
  refine Gk.getF X0 hx hZ hown (host := "") (Or.inl (hw _ (List.mem_of_getElem? (i := 63) rfl))) Via.refl e0 F_width (hb hby d6_3) ?_
  intro T1 X1 e1
  refine Gk.callS (argsL := [(.ref a2), (.int (0 : Int32)), (.int (1 : Int32))]) X1 hx hZ hown (rm7_3 l Z a0 hw [] a2 kt ft h0 n0 Z0 V_t ht0) (hw _ (List.mem_of_getElem? (i := 78) rfl)) (hw _ (List.mem_of_getElem? (i := 79) rfl)) (hw _ (List.mem_of_getElem? (i := 24) rfl)) (hw _ (List.mem_of_getElem? (i := 80) rfl)) (by decide) e1 pd_2 rfl rfl (by decide) (Nat.le_of_ble_eq_true rfl) (by decide) (by decide) (by rw [hml]; rfl)  rfl (hb hby d6_6) ?_
  intro T2 L2 v2 X2 hQ2
  obtain ⟨rfl, N2q, e2⟩ := hQ2
  have N2 := Fr.app N0 N2q
  show Go p e below (T2.setTop (mkF m 9 #[.val (.ref a1), .val (.ref a2)] [(.int (-1485235949 : Int32))])) _
  refine Go.fin X2 (v := some (.int (-1485235949 : Int32))) (fun h_ => by rw [Bd.returns] at h_; cases h_) Bd.notSynchronized (fun _ hr => retOut X2 hx Bd.returns rfl (Or.inl ⟨rfl, Or.inl rfl, _, rfl⟩) (hb hby d6_9) hr) (fun U' hU hF => ⟨_, _, rfl, ?_, hF.1, hF.2.1, hF.2.2.mono (by decide) (by decide)⟩)
  rw [hU, e2]
  exact ⟨(congrArg (fun z_ : Int32 => some (Value.int z_)) (show (-1485235949 : Int32) = (-1485235949 : Int32) from rfl)), N2, rfl⟩
theorem d13_0 : decode jdk_29_method_69_code 0 = .ok (.iload_n 0, 1) := by decide +kernel
theorem d13_1 : decode jdk_29_method_69_code 1 = .ok (.iload_n 1, 1) := by decide +kernel
theorem d13_2 : decode jdk_29_method_69_code 2 = .ok (.if_icmp .gt 7, 3) := by decide +kernel
theorem d13_5 : decode jdk_29_method_69_code 5 = .ok (.iload_n 0, 1) := by decide +kernel
theorem d13_6 : decode jdk_29_method_69_code 6 = .ok (.goto 4, 3) := by decide +kernel
theorem d13_9 : decode jdk_29_method_69_code 9 = .ok (.iload_n 1, 1) := by decide +kernel
theorem d13_10 : decode jdk_29_method_69_code 10 = .ok (.ireturn, 1) := by decide +kernel
theorem ef_rm13 (m : MethodId) (p1 : Int32) (p2 : Int32) : entryFrame m #[(.int p1), (.int p2)] 2 = mkF m 0 #[.val (.int p1), .val (.int p2)] [] := by first | (simp [entryFrame, mkF, argsToLocals, Value.category]; done) | rfl
def Q_rm13 (Z : State) (p1 : Int32) (p2 : Int32) (h0 : Heap) (n0 : Nat) (v : Option Value) (h : Heap) (L : List Loc) : Prop := v = some (.int (if p2 < p1 then p2 else p1)) ∧ Fr n0 L ∧ h = h0
set_option maxRecDepth 65536 in
set_option maxHeartbeats 40000000 in
theorem rm13 (l : Launch) (Z : State) (a0 : Array Value) (hw : ∀ d ∈ tables_1, d.before a0 Z = true) (ws : List Jvm.Cond) (p1 : Int32) (p2 : Int32) (h0 : Heap) (n0 : Nat) (Z0 : n0 ≤ h0.size) :
    MetFree l (⟨"java/lang/Math", "min", "(II)I"⟩ : MethodName) (head1 (Jvm.Cond.code (⟨"java/lang/Math", "min", "(II)I"⟩ : MethodName) jdk_29_method_69_code 2 (some .int) :: ws) ({ frames := 0, cells := 0, slots := 0, locals := 0 } : Room)) (fun a U => a = #[(.int p1), (.int p2)] ∧ Z.Warmed39 U.vm ∧ U.heap = h0) (fun _ _ _ _ _ => True) (fun _ U o U' => ∃ v L, o = .returned v ∧ Q_rm13 Z p1 p2 h0 n0 v U'.heap L ∧ FrameEnd U o U' L ({ frames := 0, cells := 0, slots := 0, locals := 0 } : Room).cells ({ frames := 0, cells := 0, slots := 0, locals := 0 } : Room).slots) := by
  refine MetFree.of_bodySF (Jvm.Free.JP.mathPlain rfl (by decide +kernel)) hisR ?_
  intro p e s m args below meth c s₁ Bd hml0 hP hK
  obtain ⟨rfl, hZ, hh⟩ := hP
  have hx := Bd.exec
  have hby := Bd.bytes
  have hml : c.maxLocals = 2 := hml0
  have hown : s.vm.findClass "java/lang/Math" = some m.cls := findClass_of_methodNamed Bd.named
  have hnm := (name_of_methodNamed Bd.named Bd.method).1
  have X0 : Stand p l e ({ frames := 0, cells := 0, slots := 0, locals := 0 } : Room) s m #[(.int p1), (.int p2)] below meth c s₁ [] 0 0 := Stand.of_body Bd
  have e0 : s₁.heap = h0 := by rw [← hh, Bd.state]; rfl
  have N0 := Fr.nil n0
  show Go p e below (s₁.setTop (entryFrame m #[(.int p1), (.int p2)] 2)) (fun o U' => ∃ v L, o = .returned v ∧ Q_rm13 Z p1 p2 h0 n0 v U'.heap L ∧ FrameEnd s o U' L ({ frames := 0, cells := 0, slots := 0, locals := 0 } : Room).cells ({ frames := 0, cells := 0, slots := 0, locals := 0 } : Room).slots)
  rw [ef_rm13]
  refine Gk.iloadN X0 hx (hb hby d13_0) rfl ?_
  refine Gk.iloadN X0 hx (hb hby d13_1) rfl ?_
  by_cases hc2 : p2 < p1
  · refine Gk.icmpYes X0 hx (hb hby d13_2) (tlt hc2).2.2.1 9 (by decide) (by decide) ?_
    refine Gk.iloadN X0 hx (hb hby d13_9) rfl ?_
    refine Go.fin X0 (v := some (.int p2)) (fun h_ => by rw [Bd.returns] at h_; cases h_) Bd.notSynchronized (fun _ hr => retOut X0 hx Bd.returns rfl (Or.inl ⟨rfl, Or.inl rfl, _, rfl⟩) (hb hby d13_10) hr) (fun U' hU hF => ⟨_, _, rfl, ?_, hF.1, hF.2.1, hF.2.2.mono (by decide) (by decide)⟩)
    rw [hU, e0]
    exact ⟨(congrArg (fun z_ : Int32 => some (Value.int z_)) (show p2 = (if p2 < p1 then p2 else p1) from by simp [hc2])), N0, rfl⟩
  · refine Gk.icmpNo X0 hx (hb hby d13_2) (flt hc2).2.2.1 ?_
    refine Gk.iloadN X0 hx (hb hby d13_5) rfl ?_
    refine Gk.goto X0 hx (hb hby d13_6) 10 (by decide) (by decide) ?_
    refine Go.fin X0 (v := some (.int p1)) (fun h_ => by rw [Bd.returns] at h_; cases h_) Bd.notSynchronized (fun _ hr => retOut X0 hx Bd.returns rfl (Or.inl ⟨rfl, Or.inl rfl, _, rfl⟩) (hb hby d13_10) hr) (fun U' hU hF => ⟨_, _, rfl, ?_, hF.1, hF.2.1, hF.2.2.mono (by decide) (by decide)⟩)
    rw [hU, e0]
    exact ⟨(congrArg (fun z_ : Int32 => some (Value.int z_)) (show p1 = (if p2 < p1 then p2 else p1) from by simp [hc2])), N0, rfl⟩
theorem d12_0 : decode prog_86_method_15_code 0 = .ok (.iload_n 1, 1) := by decide +kernel
theorem d12_1 : decode prog_86_method_15_code 1 = .ok (.istore_n 3, 1) := by decide +kernel
theorem d12_2 : decode prog_86_method_15_code 2 = .ok (.iload_n 3, 1) := by decide +kernel
theorem d12_3 : decode prog_86_method_15_code 3 = .ok (.ifCond .lt 44, 3) := by decide +kernel
theorem d12_47 : decode prog_86_method_15_code 47 = .ok (.return_, 1) := by decide +kernel
theorem ef_rm12 (m : MethodId) (a1 : Addr) : entryFrame m #[(.ref a1), (.int (-1 : Int32)), .null] 4 = mkF m 0 #[.val (.ref a1), .val (.int (-1 : Int32)), .val .null, .unset] [] := by first | (simp [entryFrame, mkF, argsToLocals, Value.category]; done) | rfl
def Q_rm12 (Z : State) (a1 : Addr) (h0 : Heap) (n0 : Nat) (v : Option Value) (h : Heap) (L : List Loc) : Prop := v = none ∧ Fr n0 L ∧ h = h0
set_option maxRecDepth 65536 in
set_option maxHeartbeats 40000000 in
theorem rm12 (l : Launch) (Z : State) (a0 : Array Value) (hw : ∀ d ∈ tables_1, d.before a0 Z = true) (ws : List Jvm.Cond) (a1 : Addr) (h0 : Heap) (n0 : Nat) (Z0 : n0 ≤ h0.size) :
    MetFree l (⟨"com/example/tracewarden/tracewarden/engine/SearchTuples", "passOver", "(ILcom/example/tracewarden/tracewarden/engine/Zone;)V"⟩ : MethodName) (head1 (Jvm.Cond.code (⟨"com/example/tracewarden/tracewarden/engine/SearchTuples", "passOver", "(ILcom/example/tracewarden/tracewarden/engine/Zone;)V"⟩ : MethodName) prog_86_method_15_code 4 none :: ws) ({ frames := 0, cells := 0, slots := 0, locals := 0 } : Room)) (fun a U => a = #[(.ref a1), (.int (-1 : Int32)), .null] ∧ Z.Warmed39 U.vm ∧ U.heap = h0) (fun _ _ _ _ _ => True) (fun _ U o U' => ∃ v L, o = .returned v ∧ Q_rm12 Z a1 h0 n0 v U'.heap L ∧ FrameEnd U o U' L ({ frames := 0, cells := 0, slots := 0, locals := 0 } : Room).cells ({ frames := 0, cells := 0, slots := 0, locals := 0 } : Room).slots) := by
  refine MetFree.of_bodySF (plainFor_of_name pn_95) hisR ?_
  intro p e s m args below meth c s₁ Bd hml0 hP hK
  obtain ⟨rfl, hZ, hh⟩ := hP
  have hx := Bd.exec
  have hby := Bd.bytes
  have hml : c.maxLocals = 4 := hml0
  have hown : s.vm.findClass "com/example/tracewarden/tracewarden/engine/SearchTuples" = some m.cls := findClass_of_methodNamed Bd.named
  have hnm := (name_of_methodNamed Bd.named Bd.method).1
  have X0 : Stand p l e ({ frames := 0, cells := 0, slots := 0, locals := 0 } : Room) s m #[(.ref a1), (.int (-1 : Int32)), .null] below meth c s₁ [] 0 0 := Stand.of_body Bd
  have e0 : s₁.heap = h0 := by rw [← hh, Bd.state]; rfl
  have N0 := Fr.nil n0
  show Go p e below (s₁.setTop (entryFrame m #[(.ref a1), (.int (-1 : Int32)), .null] 4)) (fun o U' => ∃ v L, o = .returned v ∧ Q_rm12 Z a1 h0 n0 v U'.heap L ∧ FrameEnd s o U' L ({ frames := 0, cells := 0, slots := 0, locals := 0 } : Room).cells ({ frames := 0, cells := 0, slots := 0, locals := 0 } : Room).slots)
  rw [ef_rm12]
  refine Gk.iloadN X0 hx (hb hby d12_0) rfl ?_
  refine Gk.istoreN X0 hx (hb hby d12_1) #[.val (.ref a1), .val (.int (-1 : Int32)), .val .null, .val (.int (-1 : Int32))] rfl ?_
  refine Gk.iloadN X0 hx (hb hby d12_2) rfl ?_
  refine Gk.ifYes X0 hx (hb hby d12_3) (tlt (by decide : (-1 : Int32) < (0 : Int32))).1 47 (by decide) (by decide) ?_
  refine Go.fin X0 (v := none) (fun _ => rfl) Bd.notSynchronized (fun _ hr => X0.returnOut hx Bd.returns (hb hby d12_47) hr) (fun U' hU hF => ⟨_, _, rfl, ?_, hF.1, hF.2.1, hF.2.2.mono (by decide) (by decide)⟩)
  rw [hU, e0]
  exact ⟨rfl, N0, rfl⟩
theorem d11_0 : decode prog_86_method_18_code 0 = .ok (.aload_n 0, 1) := by decide +kernel
theorem d11_1 : decode prog_86_method_18_code 1 = .ok (.getfield 41, 3) := by decide +kernel
theorem d11_4 : decode prog_86_method_18_code 4 = .ok (.arraylength, 1) := by decide +kernel
theorem d11_5 : decode prog_86_method_18_code 5 = .ok (.iconst 1, 1) := by decide +kernel
theorem d11_6 : decode prog_86_method_18_code 6 = .ok (.isub, 1) := by decide +kernel
theorem d11_7 : decode prog_86_method_18_code 7 = .ok (.istore_n 3, 1) := by decide +kernel
theorem d11_8 : decode prog_86_method_18_code 8 = .ok (.iload_n 2, 1) := by decide +kernel
theorem d11_9 : decode prog_86_method_18_code 9 = .ok (.iload_n 3, 1) := by decide +kernel
theorem d11_10 : decode prog_86_method_18_code 10 = .ok (.iand, 1) := by decide +kernel
theorem d11_11 : decode prog_86_method_18_code 11 = .ok (.istore 4, 2) := by decide +kernel
theorem d11_13 : decode prog_86_method_18_code 13 = .ok (.aload_n 0, 1) := by decide +kernel
theorem d11_14 : decode prog_86_method_18_code 14 = .ok (.getfield 41, 3) := by decide +kernel
theorem d11_17 : decode prog_86_method_18_code 17 = .ok (.iload 4, 2) := by decide +kernel
theorem d11_19 : decode prog_86_method_18_code 19 = .ok (.iaload, 1) := by decide +kernel
theorem d11_20 : decode prog_86_method_18_code 20 = .ok (.ifCond .eq 71, 3) := by decide +kernel
theorem d11_91 : decode prog_86_method_18_code 91 = .ok (.iconst (-1), 1) := by decide +kernel
theorem d11_92 : decode prog_86_method_18_code 92 = .ok (.ireturn, 1) := by decide +kernel
theorem ef_rm11_0 (m : MethodId) (a1 : Addr) (a2 : Addr) : entryFrame m #[(.ref a1), (.ref a2), (.int (0 : Int32))] 6 = mkF m 0 #[.val (.ref a1), .val (.ref a2), .val (.int (0 : Int32)), .unset, .unset, .unset] [] := by first | (simp [entryFrame, mkF, argsToLocals, Value.category]; done) | rfl
def Q_rm11_0 (Z : State) (a1 : Addr) (a2 : Addr) (xs : Addr) (ks : ClassId) (fs : Nat → Value) (xh : Addr) (kh : ClassId) (fh : Nat → Value) (h0 : Heap) (n0 : Nat) (v : Option Value) (h : Heap) (L : List Loc) : Prop := v = some (.int (-1 : Int32)) ∧ Fr n0 L ∧ h = h0
set_option maxRecDepth 65536 in
set_option maxHeartbeats 40000000 in
theorem rm11_0 (l : Launch) (Z : State) (a0 : Array Value) (hw : ∀ d ∈ tables_1, d.before a0 Z = true) (ws : List Jvm.Cond) (a1 : Addr) (a2 : Addr) (xs : Addr) (ks : ClassId) (fs : Nat → Value) (xh : Addr) (kh : ClassId) (fh : Nat → Value) (h0 : Heap) (n0 : Nat) (Z0 : n0 ≤ h0.size) (V_s : Arf Z h0 xs ks .int (32 : Int32) fs) (V_h : Arf Z h0 xh kh .int (16 : Int32) fh) (F_slots : Fld Z h0 a1 "com/example/tracewarden/tracewarden/engine/SearchTuples" "slots" "[I" (.ref xs)) (F_hashes : Fld Z h0 a1 "com/example/tracewarden/tracewarden/engine/SearchTuples" "hashes" "[I" (.ref xh)) (hs0 : fs 0 = (.int (0 : Int32))) :
    MetFree l (⟨"com/example/tracewarden/tracewarden/engine/SearchTuples", "latest", "([II)I"⟩ : MethodName) (head1 (Jvm.Cond.code (⟨"com/example/tracewarden/tracewarden/engine/SearchTuples", "latest", "([II)I"⟩ : MethodName) prog_86_method_18_code 6 (some .int) :: ws) ({ frames := 0, cells := 0, slots := 0, locals := 0 } : Room)) (fun a U => a = #[(.ref a1), (.ref a2), (.int (0 : Int32))] ∧ Z.Warmed39 U.vm ∧ U.heap = h0) (fun _ _ _ _ _ => True) (fun _ U o U' => ∃ v L, o = .returned v ∧ Q_rm11_0 Z a1 a2 xs ks fs xh kh fh h0 n0 v U'.heap L ∧ FrameEnd U o U' L ({ frames := 0, cells := 0, slots := 0, locals := 0 } : Room).cells ({ frames := 0, cells := 0, slots := 0, locals := 0 } : Room).slots) := by
  refine MetFree.of_bodySF (plainFor_of_name pn_95) hisR ?_
  intro p e s m args below meth c s₁ Bd hml0 hP hK
  obtain ⟨rfl, hZ, hh⟩ := hP
  have hx := Bd.exec
  have hby := Bd.bytes
  have hml : c.maxLocals = 6 := hml0
  have hown : s.vm.findClass "com/example/tracewarden/tracewarden/engine/SearchTuples" = some m.cls := findClass_of_methodNamed Bd.named
  have hnm := (name_of_methodNamed Bd.named Bd.method).1
  have X0 : Stand p l e ({ frames := 0, cells := 0, slots := 0, locals := 0 } : Room) s m #[(.ref a1), (.ref a2), (.int (0 : Int32))] below meth c s₁ [] 0 0 := Stand.of_body Bd
  have e0 : s₁.heap = h0 := by rw [← hh, Bd.state]; rfl
  have N0 := Fr.nil n0
  show Go p e below (s₁.setTop (entryFrame m #[(.ref a1), (.ref a2), (.int (0 : Int32))] 6)) (fun o U' => ∃ v L, o = .returned v ∧ Q_rm11_0 Z a1 a2 xs ks fs xh kh fh h0 n0 v U'.heap L ∧ FrameEnd s o U' L ({ frames := 0, cells := 0, slots := 0, locals := 0 } : Room).cells ({ frames := 0, cells := 0, slots := 0, locals := 0 } : Room).slots)
  rw [ef_rm11_0]
  refine Gk.aloadN X0 hx (hb hby d11_0) rfl rfl ?_
  refine Gk.getF X0 hx hZ hown (host := "") (Or.inl (hw _ (List.mem_of_getElem? (i := 59) rfl))) Via.refl e0 F_slots (hb hby d11_1) ?_
  intro T1 X1 e1
  refine Gk.alen X1 hx hZ e1 V_s (hb hby d11_4) ?_
  refine Gk.iconst X1 hx (hb hby d11_5) (1 : Int32) rfl ?_
  refine Gk.isub X1 hx (hb hby d11_6) (31 : Int32) (by decide) ?_
  refine Gk.istoreN X1 hx (hb hby d11_7) #[.val (.ref a1), .val (.ref a2), .val (.int (0 : Int32)), .val (.int (31 : Int32)), .unset, .unset] rfl ?_
  refine Gk.iloadN X1 hx (hb hby d11_8) rfl ?_
  refine Gk.iloadN X1 hx (hb hby d11_9) rfl ?_
  refine Gk.iand X1 hx (hb hby d11_10) (0 : Int32) (by decide) ?_
  refine Gk.istore X1 hx (hb hby d11_11) #[.val (.ref a1), .val (.ref a2), .val (.int (0 : Int32)), .val (.int (31 : Int32)), .val (.int (0 : Int32)), .unset] rfl ?_
  refine Gk.aloadN X1 hx (hb hby d11_13) rfl rfl ?_
  refine Gk.getF X1 hx hZ hown (host := "") (Or.inl (hw _ (List.mem_of_getElem? (i := 59) rfl))) Via.refl e1 F_slots (hb hby d11_14) ?_
  intro T2 X2 e2
  refine Gk.iload X2 hx (hb hby d11_17) rfl ?_
  refine Gk.iaload X2 hx hZ e2 V_s ⟨by decide, by decide⟩ (.int (0 : Int32)) hs0 (hb hby d11_19) ?_
  refine Gk.ifYes X2 hx (hb hby d11_20) (teq (by decide : (0 : Int32) = (0 : Int32))).1 91 (by decide) (by decide) ?_
  refine Gk.iconst X2 hx (hb hby d11_91) (-1 : Int32) rfl ?_
  refine Go.fin X2 (v := some (.int (-1 : Int32))) (fun h_ => by rw [Bd.returns] at h_; cases h_) Bd.notSynchronized (fun _ hr => retOut X2 hx Bd.returns rfl (Or.inl ⟨rfl, Or.inl rfl, _, rfl⟩) (hb hby d11_92) hr) (fun U' hU hF => ⟨_, _, rfl, ?_, hF.1, hF.2.1, hF.2.2.mono (by decide) (by decide)⟩)
  rw [hU, e2]
  exact ⟨(congrArg (fun z_ : Int32 => some (Value.int z_)) (show (-1 : Int32) = (-1 : Int32) from rfl)), N0, rfl⟩
theorem ef_rm11_1 (m : MethodId) (a1 : Addr) (a2 : Addr) : entryFrame m #[(.ref a1), (.ref a2), (.int (-511900244 : Int32))] 6 = mkF m 0 #[.val (.ref a1), .val (.ref a2), .val (.int (-511900244 : Int32)), .unset, .unset, .unset] [] := by first | (simp [entryFrame, mkF, argsToLocals, Value.category]; done) | rfl
def Q_rm11_1 (Z : State) (a1 : Addr) (a2 : Addr) (xs : Addr) (ks : ClassId) (fs : Nat → Value) (xh : Addr) (kh : ClassId) (fh : Nat → Value) (h0 : Heap) (n0 : Nat) (v : Option Value) (h : Heap) (L : List Loc) : Prop := v = some (.int (-1 : Int32)) ∧ Fr n0 L ∧ h = h0
set_option maxRecDepth 65536 in
set_option maxHeartbeats 40000000 in
theorem rm11_1 (l : Launch) (Z : State) (a0 : Array Value) (hw : ∀ d ∈ tables_1, d.before a0 Z = true) (ws : List Jvm.Cond) (a1 : Addr) (a2 : Addr) (xs : Addr) (ks : ClassId) (fs : Nat → Value) (xh : Addr) (kh : ClassId) (fh : Nat → Value) (h0 : Heap) (n0 : Nat) (Z0 : n0 ≤ h0.size) (V_s : Arf Z h0 xs ks .int (32 : Int32) fs) (V_h : Arf Z h0 xh kh .int (16 : Int32) fh) (F_slots : Fld Z h0 a1 "com/example/tracewarden/tracewarden/engine/SearchTuples" "slots" "[I" (.ref xs)) (F_hashes : Fld Z h0 a1 "com/example/tracewarden/tracewarden/engine/SearchTuples" "hashes" "[I" (.ref xh)) (hs12 : fs 12 = (.int (0 : Int32))) :
    MetFree l (⟨"com/example/tracewarden/tracewarden/engine/SearchTuples", "latest", "([II)I"⟩ : MethodName) (head1 (Jvm.Cond.code (⟨"com/example/tracewarden/tracewarden/engine/SearchTuples", "latest", "([II)I"⟩ : MethodName) prog_86_method_18_code 6 (some .int) :: ws) ({ frames := 0, cells := 0, slots := 0, locals := 0 } : Room)) (fun a U => a = #[(.ref a1), (.ref a2), (.int (-511900244 : Int32))] ∧ Z.Warmed39 U.vm ∧ U.heap = h0) (fun _ _ _ _ _ => True) (fun _ U o U' => ∃ v L, o = .returned v ∧ Q_rm11_1 Z a1 a2 xs ks fs xh kh fh h0 n0 v U'.heap L ∧ FrameEnd U o U' L ({ frames := 0, cells := 0, slots := 0, locals := 0 } : Room).cells ({ frames := 0, cells := 0, slots := 0, locals := 0 } : Room).slots) := by
  refine MetFree.of_bodySF (plainFor_of_name pn_95) hisR ?_
  intro p e s m args below meth c s₁ Bd hml0 hP hK
  obtain ⟨rfl, hZ, hh⟩ := hP
  have hx := Bd.exec
  have hby := Bd.bytes
  have hml : c.maxLocals = 6 := hml0
  have hown : s.vm.findClass "com/example/tracewarden/tracewarden/engine/SearchTuples" = some m.cls := findClass_of_methodNamed Bd.named
  have hnm := (name_of_methodNamed Bd.named Bd.method).1
  have X0 : Stand p l e ({ frames := 0, cells := 0, slots := 0, locals := 0 } : Room) s m #[(.ref a1), (.ref a2), (.int (-511900244 : Int32))] below meth c s₁ [] 0 0 := Stand.of_body Bd
  have e0 : s₁.heap = h0 := by rw [← hh, Bd.state]; rfl
  have N0 := Fr.nil n0
  show Go p e below (s₁.setTop (entryFrame m #[(.ref a1), (.ref a2), (.int (-511900244 : Int32))] 6)) (fun o U' => ∃ v L, o = .returned v ∧ Q_rm11_1 Z a1 a2 xs ks fs xh kh fh h0 n0 v U'.heap L ∧ FrameEnd s o U' L ({ frames := 0, cells := 0, slots := 0, locals := 0 } : Room).cells ({ frames := 0, cells := 0, slots := 0, locals := 0 } : Room).slots)
  rw [ef_rm11_1]
  refine Gk.aloadN X0 hx (hb hby d11_0) rfl rfl ?_
  refine Gk.getF X0 hx hZ hown (host := "") (Or.inl (hw _ (List.mem_of_getElem? (i := 59) rfl))) Via.refl e0 F_slots (hb hby d11_1) ?_
  intro T1 X1 e1
  refine Gk.alen X1 hx hZ e1 V_s (hb hby d11_4) ?_
  refine Gk.iconst X1 hx (hb hby d11_5) (1 : Int32) rfl ?_
  refine Gk.isub X1 hx (hb hby d11_6) (31 : Int32) (by decide) ?_
  refine Gk.istoreN X1 hx (hb hby d11_7) #[.val (.ref a1), .val (.ref a2), .val (.int (-511900244 : Int32)), .val (.int (31 : Int32)), .unset, .unset] rfl ?_
  refine Gk.iloadN X1 hx (hb hby d11_8) rfl ?_
  refine Gk.iloadN X1 hx (hb hby d11_9) rfl ?_
  refine Gk.iand X1 hx (hb hby d11_10) (12 : Int32) (by decide) ?_
  refine Gk.istore X1 hx (hb hby d11_11) #[.val (.ref a1), .val (.ref a2), .val (.int (-511900244 : Int32)), .val (.int (31 : Int32)), .val (.int (12 : Int32)), .unset] rfl ?_
  refine Gk.aloadN X1 hx (hb hby d11_13) rfl rfl ?_
  refine Gk.getF X1 hx hZ hown (host := "") (Or.inl (hw _ (List.mem_of_getElem? (i := 59) rfl))) Via.refl e1 F_slots (hb hby d11_14) ?_
  intro T2 X2 e2
  refine Gk.iload X2 hx (hb hby d11_17) rfl ?_
  refine Gk.iaload X2 hx hZ e2 V_s ⟨by decide, by decide⟩ (.int (0 : Int32)) hs12 (hb hby d11_19) ?_
  refine Gk.ifYes X2 hx (hb hby d11_20) (teq (by decide : (0 : Int32) = (0 : Int32))).1 91 (by decide) (by decide) ?_
  refine Gk.iconst X2 hx (hb hby d11_91) (-1 : Int32) rfl ?_
  refine Go.fin X2 (v := some (.int (-1 : Int32))) (fun h_ => by rw [Bd.returns] at h_; cases h_) Bd.notSynchronized (fun _ hr => retOut X2 hx Bd.returns rfl (Or.inl ⟨rfl, Or.inl rfl, _, rfl⟩) (hb hby d11_92) hr) (fun U' hU hF => ⟨_, _, rfl, ?_, hF.1, hF.2.1, hF.2.2.mono (by decide) (by decide)⟩)
  rw [hU, e2]
  exact ⟨(congrArg (fun z_ : Int32 => some (Value.int z_)) (show (-1 : Int32) = (-1 : Int32) from rfl)), N0, rfl⟩
theorem ef_rm11_2 (m : MethodId) (a1 : Addr) (a2 : Addr) : entryFrame m #[(.ref a1), (.ref a2), (.int (-1023800488 : Int32))] 6 = mkF m 0 #[.val (.ref a1), .val (.ref a2), .val (.int (-1023800488 : Int32)), .unset, .unset, .unset] [] := by first | (simp [entryFrame, mkF, argsToLocals, Value.category]; done) | rfl
def Q_rm11_2 (Z : State) (a1 : Addr) (a2 : Addr) (xs : Addr) (ks : ClassId) (fs : Nat → Value) (xh : Addr) (kh : ClassId) (fh : Nat → Value) (h0 : Heap) (n0 : Nat) (v : Option Value) (h : Heap) (L : List Loc) : Prop := v = some (.int (-1 : Int32)) ∧ Fr n0 L ∧ h = h0
set_option maxRecDepth 65536 in
set_option maxHeartbeats 40000000 in
theorem rm11_2 (l : Launch) (Z : State) (a0 : Array Value) (hw : ∀ d ∈ tables_1, d.before a0 Z = true) (ws : List Jvm.Cond) (a1 : Addr) (a2 : Addr) (xs : Addr) (ks : ClassId) (fs : Nat → Value) (xh : Addr) (kh : ClassId) (fh : Nat → Value) (h0 : Heap) (n0 : Nat) (Z0 : n0 ≤ h0.size) (V_s : Arf Z h0 xs ks .int (32 : Int32) fs) (V_h : Arf Z h0 xh kh .int (16 : Int32) fh) (F_slots : Fld Z h0 a1 "com/example/tracewarden/tracewarden/engine/SearchTuples" "slots" "[I" (.ref xs)) (F_hashes : Fld Z h0 a1 "com/example/tracewarden/tracewarden/engine/SearchTuples" "hashes" "[I" (.ref xh)) (hs24 : fs 24 = (.int (0 : Int32))) :
    MetFree l (⟨"com/example/tracewarden/tracewarden/engine/SearchTuples", "latest", "([II)I"⟩ : MethodName) (head1 (Jvm.Cond.code (⟨"com/example/tracewarden/tracewarden/engine/SearchTuples", "latest", "([II)I"⟩ : MethodName) prog_86_method_18_code 6 (some .int) :: ws) ({ frames := 0, cells := 0, slots := 0, locals := 0 } : Room)) (fun a U => a = #[(.ref a1), (.ref a2), (.int (-1023800488 : Int32))] ∧ Z.Warmed39 U.vm ∧ U.heap = h0) (fun _ _ _ _ _ => True) (fun _ U o U' => ∃ v L, o = .returned v ∧ Q_rm11_2 Z a1 a2 xs ks fs xh kh fh h0 n0 v U'.heap L ∧ FrameEnd U o U' L ({ frames := 0, cells := 0, slots := 0, locals := 0 } : Room).cells ({ frames := 0, cells := 0, slots := 0, locals := 0 } : Room).slots) := by
  refine MetFree.of_bodySF (plainFor_of_name pn_95) hisR ?_
  intro p e s m args below meth c s₁ Bd hml0 hP hK
  obtain ⟨rfl, hZ, hh⟩ := hP
  have hx := Bd.exec
  have hby := Bd.bytes
  have hml : c.maxLocals = 6 := hml0
  have hown : s.vm.findClass "com/example/tracewarden/tracewarden/engine/SearchTuples" = some m.cls := findClass_of_methodNamed Bd.named
  have hnm := (name_of_methodNamed Bd.named Bd.method).1
  have X0 : Stand p l e ({ frames := 0, cells := 0, slots := 0, locals := 0 } : Room) s m #[(.ref a1), (.ref a2), (.int (-1023800488 : Int32))] below meth c s₁ [] 0 0 := Stand.of_body Bd
  have e0 : s₁.heap = h0 := by rw [← hh, Bd.state]; rfl
  have N0 := Fr.nil n0
  show Go p e below (s₁.setTop (entryFrame m #[(.ref a1), (.ref a2), (.int (-1023800488 : Int32))] 6)) (fun o U' => ∃ v L, o = .returned v ∧ Q_rm11_2 Z a1 a2 xs ks fs xh kh fh h0 n0 v U'.heap L ∧ FrameEnd s o U' L ({ frames := 0, cells := 0, slots := 0, locals := 0 } : Room).cells ({ frames := 0, cells := 0, slots := 0, locals := 0 } : Room).slots)
  rw [ef_rm11_2]
  refine Gk.aloadN X0 hx (hb hby d11_0) rfl rfl ?_
  refine Gk.getF X0 hx hZ hown (host := "") (Or.inl (hw _ (List.mem_of_getElem? (i := 59) rfl))) Via.refl e0 F_slots (hb hby d11_1) ?_
  intro T1 X1 e1
  refine Gk.alen X1 hx hZ e1 V_s (hb hby d11_4) ?_
  refine Gk.iconst X1 hx (hb hby d11_5) (1 : Int32) rfl ?_
  refine Gk.isub X1 hx (hb hby d11_6) (31 : Int32) (by decide) ?_
  refine Gk.istoreN X1 hx (hb hby d11_7) #[.val (.ref a1), .val (.ref a2), .val (.int (-1023800488 : Int32)), .val (.int (31 : Int32)), .unset, .unset] rfl ?_
  refine Gk.iloadN X1 hx (hb hby d11_8) rfl ?_
  refine Gk.iloadN X1 hx (hb hby d11_9) rfl ?_
  refine Gk.iand X1 hx (hb hby d11_10) (24 : Int32) (by decide) ?_
  refine Gk.istore X1 hx (hb hby d11_11) #[.val (.ref a1), .val (.ref a2), .val (.int (-1023800488 : Int32)), .val (.int (31 : Int32)), .val (.int (24 : Int32)), .unset] rfl ?_
  refine Gk.aloadN X1 hx (hb hby d11_13) rfl rfl ?_
  refine Gk.getF X1 hx hZ hown (host := "") (Or.inl (hw _ (List.mem_of_getElem? (i := 59) rfl))) Via.refl e1 F_slots (hb hby d11_14) ?_
  intro T2 X2 e2
  refine Gk.iload X2 hx (hb hby d11_17) rfl ?_
  refine Gk.iaload X2 hx hZ e2 V_s ⟨by decide, by decide⟩ (.int (0 : Int32)) hs24 (hb hby d11_19) ?_
  refine Gk.ifYes X2 hx (hb hby d11_20) (teq (by decide : (0 : Int32) = (0 : Int32))).1 91 (by decide) (by decide) ?_
  refine Gk.iconst X2 hx (hb hby d11_91) (-1 : Int32) rfl ?_
  refine Go.fin X2 (v := some (.int (-1 : Int32))) (fun h_ => by rw [Bd.returns] at h_; cases h_) Bd.notSynchronized (fun _ hr => retOut X2 hx Bd.returns rfl (Or.inl ⟨rfl, Or.inl rfl, _, rfl⟩) (hb hby d11_92) hr) (fun U' hU hF => ⟨_, _, rfl, ?_, hF.1, hF.2.1, hF.2.2.mono (by decide) (by decide)⟩)
  rw [hU, e2]
  exact ⟨(congrArg (fun z_ : Int32 => some (Value.int z_)) (show (-1 : Int32) = (-1 : Int32) from rfl)), N0, rfl⟩
theorem ef_rm11_3 (m : MethodId) (a1 : Addr) (a2 : Addr) : entryFrame m #[(.ref a1), (.ref a2), (.int (-1485235949 : Int32))] 6 = mkF m 0 #[.val (.ref a1), .val (.ref a2), .val (.int (-1485235949 : Int32)), .unset, .unset, .unset] [] := by first | (simp [entryFrame, mkF, argsToLocals, Value.category]; done) | rfl
def Q_rm11_3 (Z : State) (a1 : Addr) (a2 : Addr) (xs : Addr) (ks : ClassId) (fs : Nat → Value) (xh : Addr) (kh : ClassId) (fh : Nat → Value) (h0 : Heap) (n0 : Nat) (v : Option Value) (h : Heap) (L : List Loc) : Prop := v = some (.int (-1 : Int32)) ∧ Fr n0 L ∧ h = h0
set_option maxRecDepth 65536 in
set_option maxHeartbeats 40000000 in
theorem rm11_3 (l : Launch) (Z : State) (a0 : Array Value) (hw : ∀ d ∈ tables_1, d.before a0 Z = true) (ws : List Jvm.Cond) (a1 : Addr) (a2 : Addr) (xs : Addr) (ks : ClassId) (fs : Nat → Value) (xh : Addr) (kh : ClassId) (fh : Nat → Value) (h0 : Heap) (n0 : Nat) (Z0 : n0 ≤ h0.size) (V_s : Arf Z h0 xs ks .int (32 : Int32) fs) (V_h : Arf Z h0 xh kh .int (16 : Int32) fh) (F_slots : Fld Z h0 a1 "com/example/tracewarden/tracewarden/engine/SearchTuples" "slots" "[I" (.ref xs)) (F_hashes : Fld Z h0 a1 "com/example/tracewarden/tracewarden/engine/SearchTuples" "hashes" "[I" (.ref xh)) (hs19 : fs 19 = (.int (0 : Int32))) :
    MetFree l (⟨"com/example/tracewarden/tracewarden/engine/SearchTuples", "latest", "([II)I"⟩ : MethodName) (head1 (Jvm.Cond.code (⟨"com/example/tracewarden/tracewarden/engine/SearchTuples", "latest", "([II)I"⟩ : MethodName) prog_86_method_18_code 6 (some .int) :: ws) ({ frames := 0, cells := 0, slots := 0, locals := 0 } : Room)) (fun a U => a = #[(.ref a1), (.ref a2), (.int (-1485235949 : Int32))] ∧ Z.Warmed39 U.vm ∧ U.heap = h0) (fun _ _ _ _ _ => True) (fun _ U o U' => ∃ v L, o = .returned v ∧ Q_rm11_3 Z a1 a2 xs ks fs xh kh fh h0 n0 v U'.heap L ∧ FrameEnd U o U' L ({ frames := 0, cells := 0, slots := 0, locals := 0 } : Room).cells ({ frames := 0, cells := 0, slots := 0, locals := 0 } : Room).slots) := by
  refine MetFree.of_bodySF (plainFor_of_name pn_95) hisR ?_
  intro p e s m args below meth c s₁ Bd hml0 hP hK
  obtain ⟨rfl, hZ, hh⟩ := hP
  have hx := Bd.exec
  have hby := Bd.bytes
  have hml : c.maxLocals = 6 := hml0
  have hown : s.vm.findClass "com/example/tracewarden/tracewarden/engine/SearchTuples" = some m.cls := findClass_of_methodNamed Bd.named
  have hnm := (name_of_methodNamed Bd.named Bd.method).1
  have X0 : Stand p l e ({ frames := 0, cells := 0, slots := 0, locals := 0 } : Room) s m #[(.ref a1), (.ref a2), (.int (-1485235949 : Int32))] below meth c s₁ [] 0 0 := Stand.of_body Bd
  have e0 : s₁.heap = h0 := by rw [← hh, Bd.state]; rfl
  have N0 := Fr.nil n0
  show Go p e below (s₁.setTop (entryFrame m #[(.ref a1), (.ref a2), (.int (-1485235949 : Int32))] 6)) (fun o U' => ∃ v L, o = .returned v ∧ Q_rm11_3 Z a1 a2 xs ks fs xh kh fh h0 n0 v U'.heap L ∧ FrameEnd s o U' L ({ frames := 0, cells := 0, slots := 0, locals := 0 } : Room).cells ({ frames := 0, cells := 0, slots := 0, locals := 0 } : Room).slots)
  rw [ef_rm11_3]
  refine Gk.aloadN X0 hx (hb hby d11_0) rfl rfl ?_
  refine Gk.getF X0 hx hZ hown (host := "") (Or.inl (hw _ (List.mem_of_getElem? (i := 59) rfl))) Via.refl e0 F_slots (hb hby d11_1) ?_
  intro T1 X1 e1
  refine Gk.alen X1 hx hZ e1 V_s (hb hby d11_4) ?_
  refine Gk.iconst X1 hx (hb hby d11_5) (1 : Int32) rfl ?_
  refine Gk.isub X1 hx (hb hby d11_6) (31 : Int32) (by decide) ?_
  refine Gk.istoreN X1 hx (hb hby d11_7) #[.val (.ref a1), .val (.ref a2), .val (.int (-1485235949 : Int32)), .val (.int (31 : Int32)), .unset, .unset] rfl ?_
  refine Gk.iloadN X1 hx (hb hby d11_8) rfl ?_
  refine Gk.iloadN X1 hx (hb hby d11_9) rfl ?_
  refine Gk.iand X1 hx (hb hby d11_10) (19 : Int32) (by decide) ?_
  refine Gk.istore X1 hx (hb hby d11_11) #[.val (.ref a1), .val (.ref a2), .val (.int (-1485235949 : Int32)), .val (.int (31 : Int32)), .val (.int (19 : Int32)), .unset] rfl ?_
  refine Gk.aloadN X1 hx (hb hby d11_13) rfl rfl ?_
  refine Gk.getF X1 hx hZ hown (host := "") (Or.inl (hw _ (List.mem_of_getElem? (i := 59) rfl))) Via.refl e1 F_slots (hb hby d11_14) ?_
  intro T2 X2 e2
  refine Gk.iload X2 hx (hb hby d11_17) rfl ?_
  refine Gk.iaload X2 hx hZ e2 V_s ⟨by decide, by decide⟩ (.int (0 : Int32)) hs19 (hb hby d11_19) ?_
  refine Gk.ifYes X2 hx (hb hby d11_20) (teq (by decide : (0 : Int32) = (0 : Int32))).1 91 (by decide) (by decide) ?_
  refine Gk.iconst X2 hx (hb hby d11_91) (-1 : Int32) rfl ?_
  refine Go.fin X2 (v := some (.int (-1 : Int32))) (fun h_ => by rw [Bd.returns] at h_; cases h_) Bd.notSynchronized (fun _ hr => retOut X2 hx Bd.returns rfl (Or.inl ⟨rfl, Or.inl rfl, _, rfl⟩) (hb hby d11_92) hr) (fun U' hU hF => ⟨_, _, rfl, ?_, hF.1, hF.2.1, hF.2.2.mono (by decide) (by decide)⟩)
  rw [hU, e2]
  exact ⟨(congrArg (fun z_ : Int32 => some (Value.int z_)) (show (-1 : Int32) = (-1 : Int32) from rfl)), N0, rfl⟩
theorem pd_3 : parseMethodDescriptor "([II)I" = some ⟨[(.array .int), .int], some .int⟩ := by decide +kernel
theorem pd_4 : parseMethodDescriptor "(ILcom/example/tracewarden/tracewarden/engine/Zone;)V" = some ⟨[.int, (.object "com/example/tracewarden/tracewarden/engine/Zone")], none⟩ := by decide +kernel
theorem d9_0 : decode prog_86_method_16_code 0 = .ok (.aload_n 0, 1) := by decide +kernel
theorem d9_1 : decode prog_86_method_16_code 1 = .ok (.getfield 44, 3) := by decide +kernel
theorem d9_4 : decode prog_86_method_16_code 4 = .ok (.invokevirtual 122, 3) := by decide +kernel
theorem d9_7 : decode prog_86_method_16_code 7 = .ok (.aload_n 0, 1) := by decide +kernel
theorem d9_8 : decode prog_86_method_16_code 8 = .ok (.aload_n 1, 1) := by decide +kernel
theorem d9_9 : decode prog_86_method_16_code 9 = .ok (.iload_n 2, 1) := by decide +kernel
theorem d9_10 : decode prog_86_method_16_code 10 = .ok (.invokevirtual 107, 3) := by decide +kernel
theorem d9_13 : decode prog_86_method_16_code 13 = .ok (.istore 7, 2) := by decide +kernel
theorem d9_15 : decode prog_86_method_16_code 15 = .ok (.aload_n 0, 1) := by decide +kernel
theorem d9_16 : decode prog_86_method_16_code 16 = .ok (.iload 7, 2) := by decide +kernel
theorem d9_18 : decode prog_86_method_16_code 18 = .ok (.aload_n 3, 1) := by decide +kernel
theorem d9_19 : decode prog_86_method_16_code 19 = .ok (.invokevirtual 118, 3) := by decide +kernel
theorem d9_22 : decode prog_86_method_16_code 22 = .ok (.aload_n 0, 1) := by decide +kernel
theorem d9_23 : decode prog_86_method_16_code 23 = .ok (.getfield 41, 3) := by decide +kernel
theorem d9_26 : decode prog_86_method_16_code 26 = .ok (.arraylength, 1) := by decide +kernel
theorem d9_27 : decode prog_86_method_16_code 27 = .ok (.iconst 1, 1) := by decide +kernel
theorem d9_28 : decode prog_86_method_16_code 28 = .ok (.isub, 1) := by decide +kernel
theorem d9_29 : decode prog_86_method_16_code 29 = .ok (.istore 8, 2) := by decide +kernel
theorem d9_31 : decode prog_86_method_16_code 31 = .ok (.iload_n 2, 1) := by decide +kernel
theorem d9_32 : decode prog_86_method_16_code 32 = .ok (.iload 8, 2) := by decide +kernel
theorem d9_34 : decode prog_86_method_16_code 34 = .ok (.iand, 1) := by decide +kernel
theorem d9_35 : decode prog_86_method_16_code 35 = .ok (.istore 9, 2) := by decide +kernel
theorem d9_37 : decode prog_86_method_16_code 37 = .ok (.aload_n 0, 1) := by decide +kernel
theorem d9_38 : decode prog_86_method_16_code 38 = .ok (.getfield 41, 3) := by decide +kernel
theorem d9_41 : decode prog_86_method_16_code 41 = .ok (.iload 9, 2) := by decide +kernel
theorem d9_43 : decode prog_86_method_16_code 43 = .ok (.iaload, 1) := by decide +kernel
theorem d9_44 : decode prog_86_method_16_code 44 = .ok (.ifCond .eq 29, 3) := by decide +kernel
theorem d9_73 : decode prog_86_method_16_code 73 = .ok (.aload_n 0, 1) := by decide +kernel
theorem d9_74 : decode prog_86_method_16_code 74 = .ok (.getfield 77, 3) := by decide +kernel
theorem d9_77 : decode prog_86_method_16_code 77 = .ok (.aload_n 0, 1) := by decide +kernel
theorem d9_78 : decode prog_86_method_16_code 78 = .ok (.getfield 29, 3) := by decide +kernel
theorem d9_81 : decode prog_86_method_16_code 81 = .ok (.arraylength, 1) := by decide +kernel
theorem d9_82 : decode prog_86_method_16_code 82 = .ok (.if_icmp .ne 128, 3) := by decide +kernel
theorem d9_210 : decode prog_86_method_16_code 210 = .ok (.aload_n 0, 1) := by decide +kernel
theorem d9_211 : decode prog_86_method_16_code 211 = .ok (.getfield 77, 3) := by decide +kernel
theorem d9_214 : decode prog_86_method_16_code 214 = .ok (.iconst 1, 1) := by decide +kernel
theorem d9_215 : decode prog_86_method_16_code 215 = .ok (.iadd, 1) := by decide +kernel
theorem d9_216 : decode prog_86_method_16_code 216 = .ok (.aload_n 0, 1) := by decide +kernel
theorem d9_217 : decode prog_86_method_16_code 217 = .ok (.getfield 48, 3) := by decide +kernel
theorem d9_220 : decode prog_86_method_16_code 220 = .ok (.imul, 1) := by decide +kernel
theorem d9_221 : decode prog_86_method_16_code 221 = .ok (.aload_n 0, 1) := by decide +kernel
theorem d9_222 : decode prog_86_method_16_code 222 = .ok (.getfield 7, 3) := by decide +kernel
theorem d9_225 : decode prog_86_method_16_code 225 = .ok (.arraylength, 1) := by decide +kernel
theorem d9_226 : decode prog_86_method_16_code 226 = .ok (.if_icmp .le 35, 3) := by decide +kernel
theorem d9_261 : decode prog_86_method_16_code 261 = .ok (.aload_n 1, 1) := by decide +kernel
theorem d9_262 : decode prog_86_method_16_code 262 = .ok (.iconst 0, 1) := by decide +kernel
theorem d9_263 : decode prog_86_method_16_code 263 = .ok (.aload_n 0, 1) := by decide +kernel
theorem d9_264 : decode prog_86_method_16_code 264 = .ok (.getfield 7, 3) := by decide +kernel
theorem d9_267 : decode prog_86_method_16_code 267 = .ok (.aload_n 0, 1) := by decide +kernel
theorem d9_268 : decode prog_86_method_16_code 268 = .ok (.getfield 77, 3) := by decide +kernel
theorem d9_271 : decode prog_86_method_16_code 271 = .ok (.aload_n 0, 1) := by decide +kernel
theorem d9_272 : decode prog_86_method_16_code 272 = .ok (.getfield 48, 3) := by decide +kernel
theorem d9_275 : decode prog_86_method_16_code 275 = .ok (.imul, 1) := by decide +kernel
theorem d9_276 : decode prog_86_method_16_code 276 = .ok (.aload_n 0, 1) := by decide +kernel
theorem d9_277 : decode prog_86_method_16_code 277 = .ok (.getfield 48, 3) := by decide +kernel
theorem d9_280 : decode prog_86_method_16_code 280 = .ok (.invokestatic 86, 3) := by decide +kernel
theorem d9_283 : decode prog_86_method_16_code 283 = .ok (.aload_n 0, 1) := by decide +kernel
theorem d9_284 : decode prog_86_method_16_code 284 = .ok (.getfield 13, 3) := by decide +kernel
theorem d9_287 : decode prog_86_method_16_code 287 = .ok (.aload_n 0, 1) := by decide +kernel
theorem d9_288 : decode prog_86_method_16_code 288 = .ok (.getfield 77, 3) := by decide +kernel
theorem d9_291 : decode prog_86_method_16_code 291 = .ok (.iload_n 2, 1) := by decide +kernel
theorem d9_292 : decode prog_86_method_16_code 292 = .ok (.iastore, 1) := by decide +kernel
theorem d9_293 : decode prog_86_method_16_code 293 = .ok (.aload_n 0, 1) := by decide +kernel
theorem d9_294 : decode prog_86_method_16_code 294 = .ok (.getfield 18, 3) := by decide +kernel
theorem d9_297 : decode prog_86_method_16_code 297 = .ok (.aload_n 0, 1) := by decide +kernel
theorem d9_298 : decode prog_86_method_16_code 298 = .ok (.getfield 77, 3) := by decide +kernel
theorem d9_301 : decode prog_86_method_16_code 301 = .ok (.aload_n 3, 1) := by decide +kernel
theorem d9_302 : decode prog_86_method_16_code 302 = .ok (.aastore, 1) := by decide +kernel
theorem d9_303 : decode prog_86_method_16_code 303 = .ok (.aload_n 0, 1) := by decide +kernel
theorem d9_304 : decode prog_86_method_16_code 304 = .ok (.getfield 25, 3) := by decide +kernel
theorem d9_307 : decode prog_86_method_16_code 307 = .ok (.aload_n 0, 1) := by decide +kernel
theorem d9_308 : decode prog_86_method_16_code 308 = .ok (.getfield 77, 3) := by decide +kernel
theorem d9_311 : decode prog_86_method_16_code 311 = .ok (.iconst 0, 1) := by decide +kernel
theorem d9_312 : decode prog_86_method_16_code 312 = .ok (.bastore, 1) := by decide +kernel
theorem d9_313 : decode prog_86_method_16_code 313 = .ok (.aload_n 0, 1) := by decide +kernel
theorem d9_314 : decode prog_86_method_16_code 314 = .ok (.getfield 22, 3) := by decide +kernel
theorem d9_317 : decode prog_86_method_16_code 317 = .ok (.aload_n 0, 1) := by decide +kernel
theorem d9_318 : decode prog_86_method_16_code 318 = .ok (.getfield 77, 3) := by decide +kernel
theorem d9_321 : decode prog_86_method_16_code 321 = .ok (.iload 7, 2) := by decide +kernel
theorem d9_323 : decode prog_86_method_16_code 323 = .ok (.iastore, 1) := by decide +kernel
theorem d9_324 : decode prog_86_method_16_code 324 = .ok (.aload_n 0, 1) := by decide +kernel
theorem d9_325 : decode prog_86_method_16_code 325 = .ok (.getfield 29, 3) := by decide +kernel
theorem d9_328 : decode prog_86_method_16_code 328 = .ok (.aload_n 0, 1) := by decide +kernel
theorem d9_329 : decode prog_86_method_16_code 329 = .ok (.getfield 77, 3) := by decide +kernel
theorem d9_332 : decode prog_86_method_16_code 332 = .ok (.iload 4, 2) := by decide +kernel
theorem d9_334 : decode prog_86_method_16_code 334 = .ok (.iastore, 1) := by decide +kernel
theorem d9_335 : decode prog_86_method_16_code 335 = .ok (.aload_n 0, 1) := by decide +kernel
theorem d9_336 : decode prog_86_method_16_code 336 = .ok (.getfield 34, 3) := by decide +kernel
theorem d9_339 : decode prog_86_method_16_code 339 = .ok (.aload_n 0, 1) := by decide +kernel
theorem d9_340 : decode prog_86_method_16_code 340 = .ok (.getfield 77, 3) := by decide +kernel
theorem d9_343 : decode prog_86_method_16_code 343 = .ok (.aload 5, 2) := by decide +kernel
theorem d9_345 : decode prog_86_method_16_code 345 = .ok (.aastore, 1) := by decide +kernel
theorem d9_346 : decode prog_86_method_16_code 346 = .ok (.aload_n 0, 1) := by decide +kernel
theorem d9_347 : decode prog_86_method_16_code 347 = .ok (.getfield 38, 3) := by decide +kernel
theorem d9_350 : decode prog_86_method_16_code 350 = .ok (.aload_n 0, 1) := by decide +kernel
theorem d9_351 : decode prog_86_method_16_code 351 = .ok (.getfield 77, 3) := by decide +kernel
theorem d9_354 : decode prog_86_method_16_code 354 = .ok (.iload 6, 2) := by decide +kernel
theorem d9_356 : decode prog_86_method_16_code 356 = .ok (.iastore, 1) := by decide +kernel
theorem d9_357 : decode prog_86_method_16_code 357 = .ok (.aload_n 0, 1) := by decide +kernel
theorem d9_358 : decode prog_86_method_16_code 358 = .ok (.getfield 57, 3) := by decide +kernel
theorem d9_361 : decode prog_86_method_16_code 361 = .ok (.iload 6, 2) := by decide +kernel
theorem d9_363 : decode prog_86_method_16_code 363 = .ok (.iaload, 1) := by decide +kernel
theorem d9_364 : decode prog_86_method_16_code 364 = .ok (.aload_n 0, 1) := by decide +kernel
theorem d9_365 : decode prog_86_method_16_code 365 = .ok (.getfield 54, 3) := by decide +kernel
theorem d9_368 : decode prog_86_method_16_code 368 = .ok (.iload 6, 2) := by decide +kernel
theorem d9_370 : decode prog_86_method_16_code 370 = .ok (.aaload, 1) := by decide +kernel
theorem d9_371 : decode prog_86_method_16_code 371 = .ok (.arraylength, 1) := by decide +kernel
theorem d9_372 : decode prog_86_method_16_code 372 = .ok (.if_icmp .ne 29, 3) := by decide +kernel
theorem d9_401 : decode prog_86_method_16_code 401 = .ok (.aload_n 0, 1) := by decide +kernel
theorem d9_402 : decode prog_86_method_16_code 402 = .ok (.getfield 54, 3) := by decide +kernel
theorem d9_405 : decode prog_86_method_16_code 405 = .ok (.iload 6, 2) := by decide +kernel
theorem d9_407 : decode prog_86_method_16_code 407 = .ok (.aaload, 1) := by decide +kernel
theorem d9_408 : decode prog_86_method_16_code 408 = .ok (.aload_n 0, 1) := by decide +kernel
theorem d9_409 : decode prog_86_method_16_code 409 = .ok (.getfield 57, 3) := by decide +kernel
theorem d9_412 : decode prog_86_method_16_code 412 = .ok (.iload 6, 2) := by decide +kernel
theorem d9_414 : decode prog_86_method_16_code 414 = .ok (.dup2, 1) := by decide +kernel
theorem d9_415 : decode prog_86_method_16_code 415 = .ok (.iaload, 1) := by decide +kernel
theorem d9_416 : decode prog_86_method_16_code 416 = .ok (.dup_x2, 1) := by decide +kernel
theorem d9_417 : decode prog_86_method_16_code 417 = .ok (.iconst 1, 1) := by decide +kernel
theorem d9_418 : decode prog_86_method_16_code 418 = .ok (.iadd, 1) := by decide +kernel
theorem d9_419 : decode prog_86_method_16_code 419 = .ok (.iastore, 1) := by decide +kernel
theorem d9_420 : decode prog_86_method_16_code 420 = .ok (.aload_n 0, 1) := by decide +kernel
theorem d9_421 : decode prog_86_method_16_code 421 = .ok (.getfield 77, 3) := by decide +kernel
theorem d9_424 : decode prog_86_method_16_code 424 = .ok (.iastore, 1) := by decide +kernel
theorem d9_425 : decode prog_86_method_16_code 425 = .ok (.aload_n 0, 1) := by decide +kernel
theorem d9_426 : decode prog_86_method_16_code 426 = .ok (.aload_n 0, 1) := by decide +kernel
theorem d9_427 : decode prog_86_method_16_code 427 = .ok (.getfield 83, 3) := by decide +kernel
theorem d9_430 : decode prog_86_method_16_code 430 = .ok (.iload 6, 2) := by decide +kernel
theorem d9_432 : decode prog_86_method_16_code 432 = .ok (.invokestatic 140, 3) := by decide +kernel
theorem d9_435 : decode prog_86_method_16_code 435 = .ok (.putfield 83, 3) := by decide +kernel
theorem d9_438 : decode prog_86_method_16_code 438 = .ok (.aload_n 0, 1) := by decide +kernel
theorem d9_439 : decode prog_86_method_16_code 439 = .ok (.dup, 1) := by decide +kernel
theorem d9_440 : decode prog_86_method_16_code 440 = .ok (.getfield 77, 3) := by decide +kernel
theorem d9_443 : decode prog_86_method_16_code 443 = .ok (.iconst 1, 1) := by decide +kernel
theorem d9_444 : decode prog_86_method_16_code 444 = .ok (.iadd, 1) := by decide +kernel
theorem d9_445 : decode prog_86_method_16_code 445 = .ok (.putfield 77, 3) := by decide +kernel
theorem d9_448 : decode prog_86_method_16_code 448 = .ok (.aload_n 0, 1) := by decide +kernel
theorem d9_449 : decode prog_86_method_16_code 449 = .ok (.getfield 41, 3) := by decide +kernel
theorem d9_452 : decode prog_86_method_16_code 452 = .ok (.iload 9, 2) := by decide +kernel
theorem d9_454 : decode prog_86_method_16_code 454 = .ok (.aload_n 0, 1) := by decide +kernel
theorem d9_455 : decode prog_86_method_16_code 455 = .ok (.getfield 77, 3) := by decide +kernel
theorem d9_458 : decode prog_86_method_16_code 458 = .ok (.iastore, 1) := by decide +kernel
theorem d9_459 : decode prog_86_method_16_code 459 = .ok (.aload_n 0, 1) := by decide +kernel
theorem d9_460 : decode prog_86_method_16_code 460 = .ok (.getfield 77, 3) := by decide +kernel
theorem d9_463 : decode prog_86_method_16_code 463 = .ok (.iconst 2, 1) := by decide +kernel
theorem d9_464 : decode prog_86_method_16_code 464 = .ok (.imul, 1) := by decide +kernel
theorem d9_465 : decode prog_86_method_16_code 465 = .ok (.aload_n 0, 1) := by decide +kernel
theorem d9_466 : decode prog_86_method_16_code 466 = .ok (.getfield 41, 3) := by decide +kernel
theorem d9_469 : decode prog_86_method_16_code 469 = .ok (.arraylength, 1) := by decide +kernel
theorem d9_470 : decode prog_86_method_16_code 470 = .ok (.if_icmp .le 7, 3) := by decide +kernel
theorem d9_477 : decode prog_86_method_16_code 477 = .ok (.return_, 1) := by decide +kernel
theorem ef_rm9_0 (m : MethodId) (a1 : Addr) (a2 : Addr) (p5 : Int32) : entryFrame m #[(.ref a1), (.ref a2), (.int (0 : Int32)), .null, (.int p5), .null, (.int (0 : Int32))] 10 = mkF m 0 #[.val (.ref a1), .val (.ref a2), .val (.int (0 : Int32)), .val .null, .val (.int p5), .val .null, .val (.int (0 : Int32)), .unset, .unset, .unset] [] := by first | (simp [entryFrame, mkF, argsToLocals, Value.category]; done) | rfl
def Q_rm9_0 (Z : State) (a1 : Addr) (a2 : Addr) (p5 : Int32) (ab : Addr) (x_states : Addr) (x_hashes : Addr) (x_zones : Addr) (x_sameStates : Addr) (x_held : Addr) (x_parents : Addr) (x_events : Addr) (x_ranks : Addr) (x_slots : Addr) (x_ranked : Addr) (x_rk0 : Addr) (x_reached : Addr) (k_states : ClassId) (k_hashes : ClassId) (k_zones : ClassId) (k_sameStates : ClassId) (k_held : ClassId) (k_parents : ClassId) (k_events : ClassId) (k_ranks : ClassId) (k_slots : ClassId) (k_ranked : ClassId) (k_rk0 : ClassId) (k_reached : ClassId) (f_states : Nat → Value) (f_hashes : Nat → Value) (f_zones : Nat → Value) (f_sameStates : Nat → Value) (f_held : Nat → Value) (f_parents : Nat → Value) (f_events : Nat → Value) (f_ranks : Nat → Value) (f_slots : Nat → Value) (f_ranked : Nat → Value) (f_rk0 : Nat → Value) (f_reached : Nat → Value) (kt : ClassId) (ft : Nat → Value) (h0 : Heap) (n0 : Nat) (v : Option Value) (h : Heap) (L : List Loc) : Prop := v = none ∧ Fr n0 L ∧ Keep h0 h [a1, ab, x_states, x_hashes, x_zones, x_sameStates, x_held, x_parents, x_events, x_ranks, x_slots, x_rk0, x_reached] ∧ Fld Z h ab "com/example/tracewarden/tracewarden/engine/SearchBudget" "left" "J" (.long (3 : Int64)) ∧ Fld Z h a1 "com/example/tracewarden/tracewarden/engine/SearchTuples" "size" "I" (.int (1 : Int32)) ∧ Fld Z h a1 "com/example/tracewarden/tracewarden/engine/SearchTuples" "lowest" "I" (.int (0 : Int32)) ∧ Fld Z h a1 "com/example/tracewarden/tracewarden/engine/SearchTuples" "states" "[I" (.ref x_states) ∧ Fld Z h a1 "com/example/tracewarden/tracewarden/engine/SearchTuples" "hashes" "[I" (.ref x_hashes) ∧ Fld Z h a1 "com/example/tracewarden/tracewarden/engine/SearchTuples" "zones" "[Lcom/example/tracewarden/tracewarden/engine/Zone;" (.ref x_zones) ∧ Fld Z h a1 "com/example/tracewarden/tracewarden/engine/SearchTuples" "sameStates" "[I" (.ref x_sameStates) ∧ Fld Z h a1 "com/example/tracewarden/tracewarden/engine/SearchTuples" "held" "[Z" (.ref x_held) ∧ Fld Z h a1 "com/example/tracewarden/tracewarden/engine/SearchTuples" "parents" "[I" (.ref x_parents) ∧ Fld Z h a1 "com/example/tracewarden/tracewarden/engine/SearchTuples" "events" "[Lcom/example/tracewarden/tracewarden/engine/SearchTuples$Event;" (.ref x_events) ∧ Fld Z h a1 "com/example/tracewarden/tracewarden/engine/SearchTuples" "ranks" "[I" (.ref x_ranks) ∧ Fld Z h a1 "com/example/tracewarden/tracewarden/engine/SearchTuples" "slots" "[I" (.ref x_slots) ∧ Fld Z h a1 "com/example/tracewarden/tracewarden/engine/SearchTuples" "ranked" "[[I" (.ref x_ranked) ∧ Fld Z h a1 "com/example/tracewarden/tracewarden/engine/SearchTuples" "reached" "[I" (.ref x_reached) ∧ Fld Z h a1 "com/example/tracewarden/tracewarden/engine/SearchTuples" "budget" "Lcom/example/tracewarden/tracewarden/engine/SearchBudget;" (.ref ab) ∧ Fld Z h a1 "com/example/tracewarden/tracewarden/engine/SearchTuples" "width" "I" (.int (1 : Int32)) ∧ Arf Z h x_slots k_slots .int (32 : Int32) (upd f_slots 0 (.int (1 : Int32))) ∧ Arf Z h x_hashes k_hashes .int (16 : Int32) (upd f_hashes 0 (.int (0 : Int32))) ∧ Arf Z h x_parents k_parents .int (16 : Int32) (upd f_parents 0 (.int p5)) ∧ Arf Z h x_events k_events (.object "com/example/tracewarden/tracewarden/engine/SearchTuples$Event") (16 : Int32) (upd f_events 0 .null) ∧ Arf Z h x_reached k_reached .int (1 : Int32) (upd f_reached 0 (.int (1 : Int32))) ∧ (∃ f' : Nat → Value, Arf Z h x_states k_states .int (64 : Int32) f') ∧ (∃ f' : Nat → Value, Arf Z h x_zones k_zones (.object "com/example/tracewarden/tracewarden/engine/Zone") (16 : Int32) f') ∧ (∃ f' : Nat → Value, Arf Z h x_sameStates k_sameStates .int (16 : Int32) f') ∧ (∃ f' : Nat → Value, Arf Z h x_held k_held .boolean (16 : Int32) f') ∧ (∃ f' : Nat → Value, Arf Z h x_ranks k_ranks .int (16 : Int32) f') ∧ (∃ f' : Nat → Value, Arf Z h x_rk0 k_rk0 .int (8 : Int32) f')
set_option maxRecDepth 65536 in
set_option maxHeartbeats 40000000 in
theorem rm9_0 (l : Launch) (Z : State) (a0 : Array Value) (hw : ∀ d ∈ tables_1, d.before a0 Z = true) (ws : List Jvm.Cond) (a1 : Addr) (a2 : Addr) (p5 : Int32) (ab : Addr) (x_states : Addr) (x_hashes : Addr) (x_zones : Addr) (x_sameStates : Addr) (x_held : Addr) (x_parents : Addr) (x_events : Addr) (x_ranks : Addr) (x_slots : Addr) (x_ranked : Addr) (x_rk0 : Addr) (x_reached : Addr) (k_states : ClassId) (k_hashes : ClassId) (k_zones : ClassId) (k_sameStates : ClassId) (k_held : ClassId) (k_parents : ClassId) (k_events : ClassId) (k_ranks : ClassId) (k_slots : ClassId) (k_ranked : ClassId) (k_rk0 : ClassId) (k_reached : ClassId) (f_states : Nat → Value) (f_hashes : Nat → Value) (f_zones : Nat → Value) (f_sameStates : Nat → Value) (f_held : Nat → Value) (f_parents : Nat → Value) (f_events : Nat → Value) (f_ranks : Nat → Value) (f_slots : Nat → Value) (f_ranked : Nat → Value) (f_rk0 : Nat → Value) (f_reached : Nat → Value) (kt : ClassId) (ft : Nat → Value) (h0 : Heap) (n0 : Nat) (Z0 : n0 ≤ h0.size) (E_st : Exa Z h0 a1 "com/example/tracewarden/tracewarden/engine/SearchTuples") (E_ab : Exa Z h0 ab "com/example/tracewarden/tracewarden/engine/SearchBudget") (g_a1 : n0 ≤ a1) (lt0 : a1 < ab) (lt1 : ab < x_states) (lt2 : x_states < x_hashes) (lt3 : x_hashes < x_zones) (lt4 : x_zones < x_sameStates) (lt5 : x_sameStates < x_held) (lt6 : x_held < x_parents) (lt7 : x_parents < x_events) (lt8 : x_events < x_ranks) (lt9 : x_ranks < x_slots) (lt10 : x_slots < x_ranked) (lt11 : x_ranked < x_rk0) (lt12 : x_rk0 < x_reached) (lt13 : x_reached < a2) (O_ev : Ovr Z k_events "com/example/tracewarden/tracewarden/engine/SearchTuples$Event") (V_states : Arf Z h0 x_states k_states .int (64 : Int32) f_states) (V_hashes : Arf Z h0 x_hashes k_hashes .int (16 : Int32) f_hashes) (V_zones : Arf Z h0 x_zones k_zones (.object "com/example/tracewarden/tracewarden/engine/Zone") (16 : Int32) f_zones) (V_sameStates : Arf Z h0 x_sameStates k_sameStates .int (16 : Int32) f_sameStates) (V_held : Arf Z h0 x_held k_held .boolean (16 : Int32) f_held) (V_parents : Arf Z h0 x_parents k_parents .int (16 : Int32) f_parents) (V_events : Arf Z h0 x_events k_events (.object "com/example/tracewarden/tracewarden/engine/SearchTuples$Event") (16 : Int32) f_events) (V_ranks : Arf Z h0 x_ranks k_ranks .int (16 : Int32) f_ranks) (V_slots : Arf Z h0 x_slots k_slots .int (32 : Int32) f_slots) (V_ranked : Arf Z h0 x_ranked k_ranked (.array .int) (1 : Int32) f_ranked) (V_rk0 : Arf Z h0 x_rk0 k_rk0 .int (8 : Int32) f_rk0) (V_reached : Arf Z h0 x_reached k_reached .int (1 : Int32) f_reached) (V_t : Arf Z h0 a2 kt .int (1 : Int32) ft) (ht0 : ft 0 = (.int (0 : Int32))) (h_slots_0 : f_slots 0 = (.int (0 : Int32))) (h_reached_0 : f_reached 0 = (.int (0 : Int32))) (h_ranked_0 : f_ranked 0 = (.ref x_rk0)) (F_states : Fld Z h0 a1 "com/example/tracewarden/tracewarden/engine/SearchTuples" "states" "[I" (.ref x_states)) (F_hashes : Fld Z h0 a1 "com/example/tracewarden/tracewarden/engine/SearchTuples" "hashes" "[I" (.ref x_hashes)) (F_zones : Fld Z h0 a1 "com/example/tracewarden/tracewarden/engine/SearchTuples" "zones" "[Lcom/example/tracewarden/tracewarden/engine/Zone;" (.ref x_zones)) (F_sameStates : Fld Z h0 a1 "com/example/tracewarden/tracewarden/engine/SearchTuples" "sameStates" "[I" (.ref x_sameStates)) (F_held : Fld Z h0 a1 "com/example/tracewarden/tracewarden/engine/SearchTuples" "held" "[Z" (.ref x_held)) (F_parents : Fld Z h0 a1 "com/example/tracewarden/tracewarden/engine/SearchTuples" "parents" "[I" (.ref x_parents)) (F_events : Fld Z h0 a1 "com/example/tracewarden/tracewarden/engine/SearchTuples" "events" "[Lcom/example/tracewarden/tracewarden/engine/SearchTuples$Event;" (.ref x_events)) (F_ranks : Fld Z h0 a1 "com/example/tracewarden/tracewarden/engine/SearchTuples" "ranks" "[I" (.ref x_ranks)) (F_slots : Fld Z h0 a1 "com/example/tracewarden/tracewarden/engine/SearchTuples" "slots" "[I" (.ref x_slots)) (F_ranked : Fld Z h0 a1 "com/example/tracewarden/tracewarden/engine/SearchTuples" "ranked" "[[I" (.ref x_ranked)) (F_reached : Fld Z h0 a1 "com/example/tracewarden/tracewarden/engine/SearchTuples" "reached" "[I" (.ref x_reached)) (F_budget : Fld Z h0 a1 "com/example/tracewarden/tracewarden/engine/SearchTuples" "budget" "Lcom/example/tracewarden/tracewarden/engine/SearchBudget;" (.ref ab)) (F_left : Fld Z h0 ab "com/example/tracewarden/tracewarden/engine/SearchBudget" "left" "J" (.long (4 : Int64))) (F_width : Fld Z h0 a1 "com/example/tracewarden/tracewarden/engine/SearchTuples" "width" "I" (.int (1 : Int32))) (F_size : Fld Z h0 a1 "com/example/tracewarden/tracewarden/engine/SearchTuples" "size" "I" (.int (0 : Int32))) (F_lowest : Fld Z h0 a1 "com/example/tracewarden/tracewarden/engine/SearchTuples" "lowest" "I" (.int (0 : Int32))) :
    MetFree l (⟨"com/example/tracewarden/tracewarden/engine/SearchTuples", "add", "([IILcom/example/tracewarden/tracewarden/engine/Zone;ILcom/example/tracewarden/tracewarden/engine/SearchTuples$Event;I)V"⟩ : MethodName) (head1 (Jvm.Cond.code (⟨"com/example/tracewarden/tracewarden/engine/SearchTuples", "add", "([IILcom/example/tracewarden/tracewarden/engine/Zone;ILcom/example/tracewarden/tracewarden/engine/SearchTuples$Event;I)V"⟩ : MethodName) prog_86_method_16_code 10 none :: ws) ({ frames := 1, cells := 0, slots := 0, locals := 40 } : Room)) (fun a U => a = #[(.ref a1), (.ref a2), (.int (0 : Int32)), .null, (.int p5), .null, (.int (0 : Int32))] ∧ Z.Warmed39 U.vm ∧ U.heap = h0) (fun _ _ _ _ _ => True) (fun _ U o U' => ∃ v L, o = .returned v ∧ Q_rm9_0 Z a1 a2 p5 ab x_states x_hashes x_zones x_sameStates x_held x_parents x_events x_ranks x_slots x_ranked x_rk0 x_reached k_states k_hashes k_zones k_sameStates k_held k_parents k_events k_ranks k_slots k_ranked k_rk0 k_reached f_states f_hashes f_zones f_sameStates f_held f_parents f_events f_ranks f_slots f_ranked f_rk0 f_reached kt ft h0 n0 v U'.heap L ∧ FrameEnd U o U' L ({ frames := 1, cells := 0, slots := 0, locals := 40 } : Room).cells ({ frames := 1, cells := 0, slots := 0, locals := 40 } : Room).slots) := by
  refine MetFree.of_bodySF (plainFor_of_name pn_95) hisR ?_
  intro p e s m args below meth c s₁ Bd hml0 hP hK
  obtain ⟨rfl, hZ, hh⟩ := hP
  have hx := Bd.exec
  have hby := Bd.bytes
  have hml : c.maxLocals = 10 := hml0
  have hown : s.vm.findClass "com/example/tracewarden/tracewarden/engine/SearchTuples" = some m.cls := findClass_of_methodNamed Bd.named
  have hnm := (name_of_methodNamed Bd.named Bd.method).1
  have X0 : Stand p l e ({ frames := 1, cells := 0, slots := 0, locals := 40 } : Room) s m #[(.ref a1), (.ref a2), (.int (0 : Int32)), .null, (.int p5), .null, (.int (0 : Int32))] below meth c s₁ [] 0 0 := Stand.of_body Bd
  have e0 : s₁.heap = h0 := by rw [← hh, Bd.state]; rfl
  have N0 := Fr.nil n0
  show Go p e below (s₁.setTop (entryFrame m #[(.ref a1), (.ref a2), (.int (0 : Int32)), .null, (.int p5), .null, (.int (0 : Int32))] 10)) (fun o U' => ∃ v L, o = .returned v ∧ Q_rm9_0 Z a1 a2 p5 ab x_states x_hashes x_zones x_sameStates x_held x_parents x_events x_ranks x_slots x_ranked x_rk0 x_reached k_states k_hashes k_zones k_sameStates k_held k_parents k_events k_ranks k_slots k_ranked k_rk0 k_reached f_states f_hashes f_zones f_sameStates f_held f_parents f_events f_ranks f_slots f_ranked f_rk0 f_reached kt ft h0 n0 v U'.heap L ∧ FrameEnd s o U' L ({ frames := 1, cells := 0, slots := 0, locals := 40 } : Room).cells ({ frames := 1, cells := 0, slots := 0, locals := 40 } : Room).slots)
  rw [ef_rm9_0]
  refine Gk.aloadN X0 hx (hb hby d9_0) rfl rfl ?_
  refine Gk.getF X0 hx hZ hown (host := "") (Or.inl (hw _ (List.mem_of_getElem? (i := 61) rfl))) Via.refl e0 F_budget (hb hby d9_1) ?_
  intro T1 X1 e1
  refine Gk.callV (argsL := []) X1 hx hZ hown (rm10_0 l Z a0 hw [] ab h0 n0 Z0 E_ab F_left (Nat.le_trans g_a1 (Nat.le_of_lt lt0))) (hw _ (List.mem_of_getElem? (i := 91) rfl)) (hw _ (List.mem_of_getElem? (i := 92) rfl)) (notFace_of_selects (args := #[]) (mvT hZ (hw _ (List.mem_of_getElem? (i := 94) rfl)))) (hw _ (List.mem_of_getElem? (i := 94) rfl)) (hw _ (List.mem_of_getElem? (i := 93) rfl)) (by decide) (hw _ (List.mem_of_getElem? (i := 95) rfl)) (hw _ (List.mem_of_getElem? (i := 27) rfl)) e1 E_ab pd_0 rfl rfl (by decide) (Nat.le_of_ble_eq_true rfl) (by decide) (by decide) (by rw [hml]; rfl)  rfl (hb hby d9_4) ?_
  intro T2 L2 v2 X2 hQ2
  obtain ⟨rfl, N2q, K2, Fl2⟩ := hQ2
  have N2 := Fr.app N0 N2q
  show Go p e below (T2.setTop (mkF m 7 #[.val (.ref a1), .val (.ref a2), .val (.int (0 : Int32)), .val .null, .val (.int p5), .val .null, .val (.int (0 : Int32)), .unset, .unset, .unset] [])) _
  refine Gk.aloadN X2 hx (hb hby d9_7) rfl rfl ?_
  refine Gk.aloadN X2 hx (hb hby d9_8) rfl rfl ?_
  refine Gk.iloadN X2 hx (hb hby d9_9) rfl ?_
  have ne4 : ab ≠ x_slots := (Nat.ne_of_lt (Nat.lt_trans lt1 (Nat.lt_trans lt2 (Nat.lt_trans lt3 (Nat.lt_trans lt4 (Nat.lt_trans lt5 (Nat.lt_trans lt6 (Nat.lt_trans lt7 (Nat.lt_trans lt8 lt9)))))))))
  have H5 := (V_slots.keep K2 (ninS (Ne.symm ne4) nin0))
  have H6 := (V_hashes.keep K2 (ninS (Ne.symm (Nat.ne_of_lt (Nat.lt_trans lt1 lt2))) nin0))
  have H7 := (F_slots.keep K2 (ninS (Nat.ne_of_lt lt0) nin0))
  have H8 := (F_hashes.keep K2 (ninS (Nat.ne_of_lt lt0) nin0))
  have H9 := (E_st.keep K2)
  refine Gk.callP (argsL := [(.ref a2), (.int (0 : Int32))]) X2 hx hZ hown (rm11_0 l Z a0 hw [] a1 a2 x_slots k_slots f_slots x_hashes k_hashes f_hashes T2.heap n0 (Nat.le_trans Z0 K2.1) H5 H6 H7 H8 h_slots_0) (hw _ (List.mem_of_getElem? (i := 96) rfl)) (hw _ (List.mem_of_getElem? (i := 97) rfl)) (hw _ (List.mem_of_getElem? (i := 23) rfl)) (hw _ (List.mem_of_getElem? (i := 98) rfl)) (by decide) (hw _ (List.mem_of_getElem? (i := 99) rfl)) (hw _ (List.mem_of_getElem? (i := 24) rfl)) rfl H9 pd_3 rfl rfl (by decide) (Nat.le_of_ble_eq_true rfl) (by decide) (by decide) (by rw [hml]; rfl)  rfl (hb hby d9_10) ?_
  intro T3 L3 v3 X3 hQ3
  obtain ⟨rfl, N3q, e3⟩ := hQ3
  have N3 := Fr.app N2 N3q
  show Go p e below (T3.setTop (mkF m 13 #[.val (.ref a1), .val (.ref a2), .val (.int (0 : Int32)), .val .null, .val (.int p5), .val .null, .val (.int (0 : Int32)), .unset, .unset, .unset] [(.int (-1 : Int32))])) _
  refine Gk.istore X3 hx (hb hby d9_13) #[.val (.ref a1), .val (.ref a2), .val (.int (0 : Int32)), .val .null, .val (.int p5), .val .null, .val (.int (0 : Int32)), .val (.int (-1 : Int32)), .unset, .unset] rfl ?_
  refine Gk.aloadN X3 hx (hb hby d9_15) rfl rfl ?_
  refine Gk.iload X3 hx (hb hby d9_16) rfl ?_
  refine Gk.aloadN X3 hx (hb hby d9_18) rfl rfl ?_
  refine Gk.callP (argsL := [(.int (-1 : Int32)), .null]) X3 hx hZ hown (rm12 l Z a0 hw [] a1 T2.heap n0 (Nat.le_trans Z0 K2.1)) (hw _ (List.mem_of_getElem? (i := 100) rfl)) (hw _ (List.mem_of_getElem? (i := 101) rfl)) (hw _ (List.mem_of_getElem? (i := 23) rfl)) (hw _ (List.mem_of_getElem? (i := 102) rfl)) (by decide) (hw _ (List.mem_of_getElem? (i := 103) rfl)) (hw _ (List.mem_of_getElem? (i := 24) rfl)) e3 H9 pd_4 rfl rfl (by decide) (Nat.le_of_ble_eq_true rfl) (by decide) (by decide) (by rw [hml]; rfl)  rfl (hb hby d9_19) ?_
  intro T10 L10 v10 X10 hQ10
  obtain ⟨rfl, N10q, e10⟩ := hQ10
  have N10 := Fr.app N3 N10q
  show Go p e below (T10.setTop (mkF m 22 #[.val (.ref a1), .val (.ref a2), .val (.int (0 : Int32)), .val .null, .val (.int p5), .val .null, .val (.int (0 : Int32)), .val (.int (-1 : Int32)), .unset, .unset] [])) _
  refine Gk.aloadN X10 hx (hb hby d9_22) rfl rfl ?_
  refine Gk.getF X10 hx hZ hown (host := "") (Or.inl (hw _ (List.mem_of_getElem? (i := 59) rfl))) Via.refl e10 H7 (hb hby d9_23) ?_
  intro T11 X11 e11
  refine Gk.alen X11 hx hZ e11 H5 (hb hby d9_26) ?_
  refine Gk.iconst X11 hx (hb hby d9_27) (1 : Int32) rfl ?_
  refine Gk.isub X11 hx (hb hby d9_28) (31 : Int32) (by decide) ?_
  refine Gk.istore X11 hx (hb hby d9_29) #[.val (.ref a1), .val (.ref a2), .val (.int (0 : Int32)), .val .null, .val (.int p5), .val .null, .val (.int (0 : Int32)), .val (.int (-1 : Int32)), .val (.int (31 : Int32)), .unset] rfl ?_
  refine Gk.iloadN X11 hx (hb hby d9_31) rfl ?_
  refine Gk.iload X11 hx (hb hby d9_32) rfl ?_
  refine Gk.iand X11 hx (hb hby d9_34) (0 : Int32) (by decide) ?_
  refine Gk.istore X11 hx (hb hby d9_35) #[.val (.ref a1), .val (.ref a2), .val (.int (0 : Int32)), .val .null, .val (.int p5), .val .null, .val (.int (0 : Int32)), .val (.int (-1 : Int32)), .val (.int (31 : Int32)), .val (.int (0 : Int32))] rfl ?_
  refine Gk.aloadN X11 hx (hb hby d9_37) rfl rfl ?_
  refine Gk.getF X11 hx hZ hown (host := "") (Or.inl (hw _ (List.mem_of_getElem? (i := 59) rfl))) Via.refl e11 H7 (hb hby d9_38) ?_
  intro T12 X12 e12
  refine Gk.iload X12 hx (hb hby d9_41) rfl ?_
  refine Gk.iaload X12 hx hZ e12 H5 ⟨by decide, by decide⟩ (.int (0 : Int32)) h_slots_0 (hb hby d9_43) ?_
  refine Gk.ifYes X12 hx (hb hby d9_44) (teq (by decide : (0 : Int32) = (0 : Int32))).1 73 (by decide) (by decide) ?_
  refine Gk.aloadN X12 hx (hb hby d9_73) rfl rfl ?_
  have H14 := (F_size.keep K2 (ninS (Nat.ne_of_lt lt0) nin0))
  refine Gk.getF X12 hx hZ hown (host := "") (Or.inl (hw _ (List.mem_of_getElem? (i := 104) rfl))) Via.refl e12 H14 (hb hby d9_74) ?_
  intro T15 X15 e15
  refine Gk.aloadN X15 hx (hb hby d9_77) rfl rfl ?_
  have H16 := (F_parents.keep K2 (ninS (Nat.ne_of_lt lt0) nin0))
  refine Gk.getF X15 hx hZ hown (host := "") (Or.inl (hw _ (List.mem_of_getElem? (i := 52) rfl))) Via.refl e15 H16 (hb hby d9_78) ?_
  intro T17 X17 e17
  have ne18 : ab ≠ x_parents := (Nat.ne_of_lt (Nat.lt_trans lt1 (Nat.lt_trans lt2 (Nat.lt_trans lt3 (Nat.lt_trans lt4 (Nat.lt_trans lt5 lt6))))))
  have H19 := (V_parents.keep K2 (ninS (Ne.symm ne18) nin0))
  refine Gk.alen X17 hx hZ e17 H19 (hb hby d9_81) ?_
  refine Gk.icmpYes X17 hx (hb hby d9_82) (feq (by decide : ¬ ((0 : Int32) = (16 : Int32)))).2 210 (by decide) (by decide) ?_
  refine Gk.aloadN X17 hx (hb hby d9_210) rfl rfl ?_
  refine Gk.getF X17 hx hZ hown (host := "") (Or.inl (hw _ (List.mem_of_getElem? (i := 104) rfl))) Via.refl e17 H14 (hb hby d9_211) ?_
  intro T20 X20 e20
  refine Gk.iconst X20 hx (hb hby d9_214) (1 : Int32) rfl ?_
  refine Gk.iadd X20 hx (hb hby d9_215) (1 : Int32) (by decide) ?_
  refine Gk.aloadN X20 hx (hb hby d9_216) rfl rfl ?_
  have H21 := (F_width.keep K2 (ninS (Nat.ne_of_lt lt0) nin0))
  refine Gk.getF X20 hx hZ hown (host := "") (Or.inl (hw _ (List.mem_of_getElem? (i := 63) rfl))) Via.refl e20 H21 (hb hby d9_217) ?_
  intro T22 X22 e22
  refine Gk.imul X22 hx (hb hby d9_220) (1 : Int32) (by decide) ?_
  refine Gk.aloadN X22 hx (hb hby d9_221) rfl rfl ?_
  have H23 := (F_states.keep K2 (ninS (Nat.ne_of_lt lt0) nin0))
  refine Gk.getF X22 hx hZ hown (host := "") (Or.inl (hw _ (List.mem_of_getElem? (i := 39) rfl))) Via.refl e22 H23 (hb hby d9_222) ?_
  intro T24 X24 e24
  have H25 := (V_states.keep K2 (ninS (Ne.symm (Nat.ne_of_lt lt1)) nin0))
  refine Gk.alen X24 hx hZ e24 H25 (hb hby d9_225) ?_
  refine Gk.icmpYes X24 hx (hb hby d9_226) (flt (by decide : ¬ ((64 : Int32) < (1 : Int32)))).2.2.2 261 (by decide) (by decide) ?_
  refine Gk.aloadN X24 hx (hb hby d9_261) rfl rfl ?_
  refine Gk.iconst X24 hx (hb hby d9_262) (0 : Int32) rfl ?_
  refine Gk.aloadN X24 hx (hb hby d9_263) rfl rfl ?_
  refine Gk.getF X24 hx hZ hown (host := "") (Or.inl (hw _ (List.mem_of_getElem? (i := 39) rfl))) Via.refl e24 H23 (hb hby d9_264) ?_
  intro T26 X26 e26
  refine Gk.aloadN X26 hx (hb hby d9_267) rfl rfl ?_
  refine Gk.getF X26 hx hZ hown (host := "") (Or.inl (hw _ (List.mem_of_getElem? (i := 104) rfl))) Via.refl e26 H14 (hb hby d9_268) ?_
  intro T27 X27 e27
  refine Gk.aloadN X27 hx (hb hby d9_271) rfl rfl ?_
  refine Gk.getF X27 hx hZ hown (host := "") (Or.inl (hw _ (List.mem_of_getElem? (i := 63) rfl))) Via.refl e27 H21 (hb hby d9_272) ?_
  intro T28 X28 e28
  refine Gk.imul X28 hx (hb hby d9_275) (0 : Int32) (by decide) ?_
  refine Gk.aloadN X28 hx (hb hby d9_276) rfl rfl ?_
  refine Gk.getF X28 hx hZ hown (host := "") (Or.inl (hw _ (List.mem_of_getElem? (i := 63) rfl))) Via.refl e28 H21 (hb hby d9_277) ?_
  intro T29 X29 e29
  have ne31 : ab ≠ a2 := (Nat.ne_of_lt (Nat.lt_trans lt1 (Nat.lt_trans lt2 (Nat.lt_trans lt3 (Nat.lt_trans lt4 (Nat.lt_trans lt5 (Nat.lt_trans lt6 (Nat.lt_trans lt7 (Nat.lt_trans lt8 (Nat.lt_trans lt9 (Nat.lt_trans lt10 (Nat.lt_trans lt11 (Nat.lt_trans lt12 lt13)))))))))))))
  have H32 := (V_t.keep K2 (ninS (Ne.symm ne31) nin0))
  refine Gk.copy X29 hx hZ hown (hw _ (List.mem_of_getElem? (i := 106) rfl)) (hw _ (List.mem_of_getElem? (i := 109) rfl)) (hw _ (List.mem_of_getElem? (i := 107) rfl)) (hw _ (List.mem_of_getElem? (i := 108) rfl)) e29 H32 H25 rfl (by decide) (by decide) (by decide) (by decide) (by decide) N10 (Nat.le_trans g_a1 (Nat.le_of_lt (Nat.lt_trans lt0 lt1))) (fun i => if 0 ≤ i ∧ i < 0 + 1 then ft (0 + (i - 0)) else f_states i) (fun _ _ => rfl) (by rw [hml]; rfl) (hb hby d9_280) (by decide) (Nat.le_of_ble_eq_true rfl) ?_
  intro T30 h30 L30 X30 e30 N30 K30 V30
  refine Gk.aloadN X30 hx (hb hby d9_283) rfl rfl ?_
  have H33 := (H8.keep K30 (ninS (Nat.ne_of_lt (Nat.lt_trans lt0 lt1)) nin0))
  refine Gk.getF X30 hx hZ hown (host := "") (Or.inl (hw _ (List.mem_of_getElem? (i := 41) rfl))) Via.refl e30 H33 (hb hby d9_284) ?_
  intro T34 X34 e34
  refine Gk.aloadN X34 hx (hb hby d9_287) rfl rfl ?_
  have H35 := (H14.keep K30 (ninS (Nat.ne_of_lt (Nat.lt_trans lt0 lt1)) nin0))
  refine Gk.getF X34 hx hZ hown (host := "") (Or.inl (hw _ (List.mem_of_getElem? (i := 104) rfl))) Via.refl e34 H35 (hb hby d9_288) ?_
  intro T36 X36 e36
  refine Gk.iloadN X36 hx (hb hby d9_291) rfl ?_
  have H38 := (H6.keep K30 (ninS (Ne.symm (Nat.ne_of_lt lt2)) nin0))
  refine Gk.iastore X36 hx hZ e36 H38 0 rfl ⟨by decide, by decide⟩ (.int (0 : Int32)) rfl (hb hby d9_292) ?_
  intro T37 h37 X37 e37 W37 V37
  have N37 := Fr.snoc X37 N30 (Nat.le_trans g_a1 (Nat.le_of_lt (Nat.lt_trans lt0 (Nat.lt_trans lt1 lt2))))
  refine Gk.aloadN X37 hx (hb hby d9_293) rfl rfl ?_
  have ne39 : a1 ≠ x_hashes := (Nat.ne_of_lt (Nat.lt_trans lt0 (Nat.lt_trans lt1 lt2)))
  have H40 := (((F_zones.keep K2 (ninS (Nat.ne_of_lt lt0) nin0)).keep K30 (ninS (Nat.ne_of_lt (Nat.lt_trans lt0 lt1)) nin0)).other W37 (Or.inl ne39))
  refine Gk.getF X37 hx hZ hown (host := "") (Or.inl (hw _ (List.mem_of_getElem? (i := 45) rfl))) Via.refl e37 H40 (hb hby d9_294) ?_
  intro T41 X41 e41
  refine Gk.aloadN X41 hx (hb hby d9_297) rfl rfl ?_
  have H42 := (H35.other W37 (Or.inl ne39))
  refine Gk.getF X41 hx hZ hown (host := "") (Or.inl (hw _ (List.mem_of_getElem? (i := 104) rfl))) Via.refl e41 H42 (hb hby d9_298) ?_
  intro T43 X43 e43
  refine Gk.aloadN X43 hx (hb hby d9_301) rfl rfl ?_
  have ne45 : ab ≠ x_zones := (Nat.ne_of_lt (Nat.lt_trans lt1 (Nat.lt_trans lt2 lt3)))
  have H46 := (((V_zones.keep K2 (ninS (Ne.symm ne45) nin0)).keep K30 (ninS (Ne.symm (Nat.ne_of_lt (Nat.lt_trans lt2 lt3))) nin0)).other W37 (Ne.symm (Nat.ne_of_lt lt3)))
  refine Gk.aastore X43 hx hZ e43 H46 0 rfl ⟨by decide, by decide⟩ rfl rfl (Or.inl rfl) (hb hby d9_302) ?_
  intro T44 h44 X44 e44 W44 V44
  have N44 := Fr.snoc X44 N37 (Nat.le_trans g_a1 (Nat.le_of_lt (Nat.lt_trans lt0 (Nat.lt_trans lt1 (Nat.lt_trans lt2 lt3)))))
  refine Gk.aloadN X44 hx (hb hby d9_303) rfl rfl ?_
  have ne47 : a1 ≠ x_zones := (Nat.ne_of_lt (Nat.lt_trans lt0 (Nat.lt_trans lt1 (Nat.lt_trans lt2 lt3))))
  have H48 := ((((F_held.keep K2 (ninS (Nat.ne_of_lt lt0) nin0)).keep K30 (ninS (Nat.ne_of_lt (Nat.lt_trans lt0 lt1)) nin0)).other W37 (Or.inl ne39)).other W44 (Or.inl ne47))
  refine Gk.getF X44 hx hZ hown (host := "") (Or.inl (hw _ (List.mem_of_getElem? (i := 50) rfl))) Via.refl e44 H48 (hb hby d9_304) ?_
  intro T49 X49 e49
  refine Gk.aloadN X49 hx (hb hby d9_307) rfl rfl ?_
  have H50 := (H42.other W44 (Or.inl ne47))
  refine Gk.getF X49 hx hZ hown (host := "") (Or.inl (hw _ (List.mem_of_getElem? (i := 104) rfl))) Via.refl e49 H50 (hb hby d9_308) ?_
  intro T51 X51 e51
  refine Gk.iconst X51 hx (hb hby d9_311) (0 : Int32) rfl ?_
  have ne53 : ab ≠ x_held := (Nat.ne_of_lt (Nat.lt_trans lt1 (Nat.lt_trans lt2 (Nat.lt_trans lt3 (Nat.lt_trans lt4 lt5)))))
  have ne54 : x_states ≠ x_held := (Nat.ne_of_lt (Nat.lt_trans lt2 (Nat.lt_trans lt3 (Nat.lt_trans lt4 lt5))))
  have ne55 : x_hashes ≠ x_held := (Nat.ne_of_lt (Nat.lt_trans lt3 (Nat.lt_trans lt4 lt5)))
  have H56 := ((((V_held.keep K2 (ninS (Ne.symm ne53) nin0)).keep K30 (ninS (Ne.symm ne54) nin0)).other W37 (Ne.symm ne55)).other W44 (Ne.symm (Nat.ne_of_lt (Nat.lt_trans lt4 lt5))))
  refine Gk.bastoreZ X51 hx hZ e51 H56 0 rfl ⟨by decide, by decide⟩ (.int (0 : Int32)) rfl (hb hby d9_312) ?_
  intro T52 h52 X52 e52 W52 V52
  have N52 := Fr.snoc X52 N44 (Nat.le_trans g_a1 (Nat.le_of_lt (Nat.lt_trans lt0 (Nat.lt_trans lt1 (Nat.lt_trans lt2 (Nat.lt_trans lt3 (Nat.lt_trans lt4 lt5)))))))
  refine Gk.aloadN X52 hx (hb hby d9_313) rfl rfl ?_
  have ne57 : a1 ≠ x_held := (Nat.ne_of_lt (Nat.lt_trans lt0 (Nat.lt_trans lt1 (Nat.lt_trans lt2 (Nat.lt_trans lt3 (Nat.lt_trans lt4 lt5))))))
  have H58 := (((((F_sameStates.keep K2 (ninS (Nat.ne_of_lt lt0) nin0)).keep K30 (ninS (Nat.ne_of_lt (Nat.lt_trans lt0 lt1)) nin0)).other W37 (Or.inl ne39)).other W44 (Or.inl ne47)).other W52 (Or.inl ne57))
  refine Gk.getF X52 hx hZ hown (host := "") (Or.inl (hw _ (List.mem_of_getElem? (i := 47) rfl))) Via.refl e52 H58 (hb hby d9_314) ?_
  intro T59 X59 e59
  refine Gk.aloadN X59 hx (hb hby d9_317) rfl rfl ?_
  have H60 := (H50.other W52 (Or.inl ne57))
  refine Gk.getF X59 hx hZ hown (host := "") (Or.inl (hw _ (List.mem_of_getElem? (i := 104) rfl))) Via.refl e59 H60 (hb hby d9_318) ?_
  intro T61 X61 e61
  refine Gk.iload X61 hx (hb hby d9_321) rfl ?_
  have ne63 : ab ≠ x_sameStates := (Nat.ne_of_lt (Nat.lt_trans lt1 (Nat.lt_trans lt2 (Nat.lt_trans lt3 lt4))))
  have ne64 : x_states ≠ x_sameStates := (Nat.ne_of_lt (Nat.lt_trans lt2 (Nat.lt_trans lt3 lt4)))
  have H65 := (((((V_sameStates.keep K2 (ninS (Ne.symm ne63) nin0)).keep K30 (ninS (Ne.symm ne64) nin0)).other W37 (Ne.symm (Nat.ne_of_lt (Nat.lt_trans lt3 lt4)))).other W44 (Ne.symm (Nat.ne_of_lt lt4))).other W52 (Nat.ne_of_lt lt5))
  refine Gk.iastore X61 hx hZ e61 H65 0 rfl ⟨by decide, by decide⟩ (.int (-1 : Int32)) rfl (hb hby d9_323) ?_
  intro T62 h62 X62 e62 W62 V62
  have N62 := Fr.snoc X62 N52 (Nat.le_trans g_a1 (Nat.le_of_lt (Nat.lt_trans lt0 (Nat.lt_trans lt1 (Nat.lt_trans lt2 (Nat.lt_trans lt3 lt4))))))
  refine Gk.aloadN X62 hx (hb hby d9_324) rfl rfl ?_
  have ne66 : a1 ≠ x_sameStates := (Nat.ne_of_lt (Nat.lt_trans lt0 (Nat.lt_trans lt1 (Nat.lt_trans lt2 (Nat.lt_trans lt3 lt4)))))
  have H67 := (((((H16.keep K30 (ninS (Nat.ne_of_lt (Nat.lt_trans lt0 lt1)) nin0)).other W37 (Or.inl ne39)).other W44 (Or.inl ne47)).other W52 (Or.inl ne57)).other W62 (Or.inl ne66))
  refine Gk.getF X62 hx hZ hown (host := "") (Or.inl (hw _ (List.mem_of_getElem? (i := 52) rfl))) Via.refl e62 H67 (hb hby d9_325) ?_
  intro T68 X68 e68
  refine Gk.aloadN X68 hx (hb hby d9_328) rfl rfl ?_
  have H69 := (H60.other W62 (Or.inl ne66))
  refine Gk.getF X68 hx hZ hown (host := "") (Or.inl (hw _ (List.mem_of_getElem? (i := 104) rfl))) Via.refl e68 H69 (hb hby d9_329) ?_
  intro T70 X70 e70
  refine Gk.iload X70 hx (hb hby d9_332) rfl ?_
  have ne72 : x_states ≠ x_parents := (Nat.ne_of_lt (Nat.lt_trans lt2 (Nat.lt_trans lt3 (Nat.lt_trans lt4 (Nat.lt_trans lt5 lt6)))))
  have ne73 : x_hashes ≠ x_parents := (Nat.ne_of_lt (Nat.lt_trans lt3 (Nat.lt_trans lt4 (Nat.lt_trans lt5 lt6))))
  have ne74 : x_zones ≠ x_parents := (Nat.ne_of_lt (Nat.lt_trans lt4 (Nat.lt_trans lt5 lt6)))
  have H75 := (((((H19.keep K30 (ninS (Ne.symm ne72) nin0)).other W37 (Ne.symm ne73)).other W44 (Ne.symm ne74)).other W52 (Ne.symm (Nat.ne_of_lt lt6))).other W62 (Ne.symm (Nat.ne_of_lt (Nat.lt_trans lt5 lt6))))
  refine Gk.iastore X70 hx hZ e70 H75 0 rfl ⟨by decide, by decide⟩ (.int p5) rfl (hb hby d9_334) ?_
  intro T71 h71 X71 e71 W71 V71
  have N71 := Fr.snoc X71 N62 (Nat.le_trans g_a1 (Nat.le_of_lt (Nat.lt_trans lt0 (Nat.lt_trans lt1 (Nat.lt_trans lt2 (Nat.lt_trans lt3 (Nat.lt_trans lt4 (Nat.lt_trans lt5 lt6))))))))
  refine Gk.aloadN X71 hx (hb hby d9_335) rfl rfl ?_
  have ne76 : a1 ≠ x_parents := (Nat.ne_of_lt (Nat.lt_trans lt0 (Nat.lt_trans lt1 (Nat.lt_trans lt2 (Nat.lt_trans lt3 (Nat.lt_trans lt4 (Nat.lt_trans lt5 lt6)))))))
  have H77 := (((((((F_events.keep K2 (ninS (Nat.ne_of_lt lt0) nin0)).keep K30 (ninS (Nat.ne_of_lt (Nat.lt_trans lt0 lt1)) nin0)).other W37 (Or.inl ne39)).other W44 (Or.inl ne47)).other W52 (Or.inl ne57)).other W62 (Or.inl ne66)).other W71 (Or.inl ne76))
  refine Gk.getF X71 hx hZ hown (host := "") (Or.inl (hw _ (List.mem_of_getElem? (i := 55) rfl))) Via.refl e71 H77 (hb hby d9_336) ?_
  intro T78 X78 e78
  refine Gk.aloadN X78 hx (hb hby d9_339) rfl rfl ?_
  have H79 := (H69.other W71 (Or.inl ne76))
  refine Gk.getF X78 hx hZ hown (host := "") (Or.inl (hw _ (List.mem_of_getElem? (i := 104) rfl))) Via.refl e78 H79 (hb hby d9_340) ?_
  intro T80 X80 e80
  refine Gk.aload X80 hx (hb hby d9_343) rfl rfl ?_
  have ne82 : ab ≠ x_events := (Nat.ne_of_lt (Nat.lt_trans lt1 (Nat.lt_trans lt2 (Nat.lt_trans lt3 (Nat.lt_trans lt4 (Nat.lt_trans lt5 (Nat.lt_trans lt6 lt7)))))))
  have ne83 : x_states ≠ x_events := (Nat.ne_of_lt (Nat.lt_trans lt2 (Nat.lt_trans lt3 (Nat.lt_trans lt4 (Nat.lt_trans lt5 (Nat.lt_trans lt6 lt7))))))
  have ne84 : x_hashes ≠ x_events := (Nat.ne_of_lt (Nat.lt_trans lt3 (Nat.lt_trans lt4 (Nat.lt_trans lt5 (Nat.lt_trans lt6 lt7)))))
  have ne85 : x_zones ≠ x_events := (Nat.ne_of_lt (Nat.lt_trans lt4 (Nat.lt_trans lt5 (Nat.lt_trans lt6 lt7))))
  have ne86 : x_sameStates ≠ x_events := (Nat.ne_of_lt (Nat.lt_trans lt5 (Nat.lt_trans lt6 lt7)))
  have H87 := (((((((V_events.keep K2 (ninS (Ne.symm ne82) nin0)).keep K30 (ninS (Ne.symm ne83) nin0)).other W37 (Ne.symm ne84)).other W44 (Ne.symm ne85)).other W52 (Ne.symm (Nat.ne_of_lt (Nat.lt_trans lt6 lt7)))).other W62 (Ne.symm ne86)).other W71 (Ne.symm (Nat.ne_of_lt lt7)))
  refine Gk.aastore X80 hx hZ e80 H87 0 rfl ⟨by decide, by decide⟩ rfl rfl (Or.inl rfl) (hb hby d9_345) ?_
  intro T81 h81 X81 e81 W81 V81
  have N81 := Fr.snoc X81 N71 (Nat.le_trans g_a1 (Nat.le_of_lt (Nat.lt_trans lt0 (Nat.lt_trans lt1 (Nat.lt_trans lt2 (Nat.lt_trans lt3 (Nat.lt_trans lt4 (Nat.lt_trans lt5 (Nat.lt_trans lt6 lt7)))))))))
  refine Gk.aloadN X81 hx (hb hby d9_346) rfl rfl ?_
  have ne88 : a1 ≠ x_events := (Nat.ne_of_lt (Nat.lt_trans lt0 (Nat.lt_trans lt1 (Nat.lt_trans lt2 (Nat.lt_trans lt3 (Nat.lt_trans lt4 (Nat.lt_trans lt5 (Nat.lt_trans lt6 lt7))))))))
  have H89 := ((((((((F_ranks.keep K2 (ninS (Nat.ne_of_lt lt0) nin0)).keep K30 (ninS (Nat.ne_of_lt (Nat.lt_trans lt0 lt1)) nin0)).other W37 (Or.inl ne39)).other W44 (Or.inl ne47)).other W52 (Or.inl ne57)).other W62 (Or.inl ne66)).other W71 (Or.inl ne76)).other W81 (Or.inl ne88))
  refine Gk.getF X81 hx hZ hown (host := "") (Or.inl (hw _ (List.mem_of_getElem? (i := 57) rfl))) Via.refl e81 H89 (hb hby d9_347) ?_
  intro T90 X90 e90
  refine Gk.aloadN X90 hx (hb hby d9_350) rfl rfl ?_
  have H91 := (H79.other W81 (Or.inl ne88))
  refine Gk.getF X90 hx hZ hown (host := "") (Or.inl (hw _ (List.mem_of_getElem? (i := 104) rfl))) Via.refl e90 H91 (hb hby d9_351) ?_
  intro T92 X92 e92
  refine Gk.iload X92 hx (hb hby d9_354) rfl ?_
  have ne94 : ab ≠ x_ranks := (Nat.ne_of_lt (Nat.lt_trans lt1 (Nat.lt_trans lt2 (Nat.lt_trans lt3 (Nat.lt_trans lt4 (Nat.lt_trans lt5 (Nat.lt_trans lt6 (Nat.lt_trans lt7 lt8))))))))
  have ne95 : x_states ≠ x_ranks := (Nat.ne_of_lt (Nat.lt_trans lt2 (Nat.lt_trans lt3 (Nat.lt_trans lt4 (Nat.lt_trans lt5 (Nat.lt_trans lt6 (Nat.lt_trans lt7 lt8)))))))
  have ne96 : x_hashes ≠ x_ranks := (Nat.ne_of_lt (Nat.lt_trans lt3 (Nat.lt_trans lt4 (Nat.lt_trans lt5 (Nat.lt_trans lt6 (Nat.lt_trans lt7 lt8))))))
  have ne97 : x_zones ≠ x_ranks := (Nat.ne_of_lt (Nat.lt_trans lt4 (Nat.lt_trans lt5 (Nat.lt_trans lt6 (Nat.lt_trans lt7 lt8)))))
  have ne98 : x_held ≠ x_ranks := (Nat.ne_of_lt (Nat.lt_trans lt6 (Nat.lt_trans lt7 lt8)))
  have ne99 : x_sameStates ≠ x_ranks := (Nat.ne_of_lt (Nat.lt_trans lt5 (Nat.lt_trans lt6 (Nat.lt_trans lt7 lt8))))
  have H100 := ((((((((V_ranks.keep K2 (ninS (Ne.symm ne94) nin0)).keep K30 (ninS (Ne.symm ne95) nin0)).other W37 (Ne.symm ne96)).other W44 (Ne.symm ne97)).other W52 (Ne.symm ne98)).other W62 (Ne.symm ne99)).other W71 (Ne.symm (Nat.ne_of_lt (Nat.lt_trans lt7 lt8)))).other W81 (Ne.symm (Nat.ne_of_lt lt8)))
  refine Gk.iastore X92 hx hZ e92 H100 0 rfl ⟨by decide, by decide⟩ (.int (0 : Int32)) rfl (hb hby d9_356) ?_
  intro T93 h93 X93 e93 W93 V93
  have N93 := Fr.snoc X93 N81 (Nat.le_trans g_a1 (Nat.le_of_lt (Nat.lt_trans lt0 (Nat.lt_trans lt1 (Nat.lt_trans lt2 (Nat.lt_trans lt3 (Nat.lt_trans lt4 (Nat.lt_trans lt5 (Nat.lt_trans lt6 (Nat.lt_trans lt7 lt8))))))))))
  refine Gk.aloadN X93 hx (hb hby d9_357) rfl rfl ?_
  have ne101 : a1 ≠ x_ranks := (Nat.ne_of_lt (Nat.lt_trans lt0 (Nat.lt_trans lt1 (Nat.lt_trans lt2 (Nat.lt_trans lt3 (Nat.lt_trans lt4 (Nat.lt_trans lt5 (Nat.lt_trans lt6 (Nat.lt_trans lt7 lt8)))))))))
  have H102 := (((((((((F_reached.keep K2 (ninS (Nat.ne_of_lt lt0) nin0)).keep K30 (ninS (Nat.ne_of_lt (Nat.lt_trans lt0 lt1)) nin0)).other W37 (Or.inl ne39)).other W44 (Or.inl ne47)).other W52 (Or.inl ne57)).other W62 (Or.inl ne66)).other W71 (Or.inl ne76)).other W81 (Or.inl ne88)).other W93 (Or.inl ne101))
  refine Gk.getF X93 hx hZ hown (host := "") (Or.inl (hw _ (List.mem_of_getElem? (i := 69) rfl))) Via.refl e93 H102 (hb hby d9_358) ?_
  intro T103 X103 e103
  refine Gk.iload X103 hx (hb hby d9_361) rfl ?_
  have ne105 : ab ≠ x_reached := (Nat.ne_of_lt (Nat.lt_trans lt1 (Nat.lt_trans lt2 (Nat.lt_trans lt3 (Nat.lt_trans lt4 (Nat.lt_trans lt5 (Nat.lt_trans lt6 (Nat.lt_trans lt7 (Nat.lt_trans lt8 (Nat.lt_trans lt9 (Nat.lt_trans lt10 (Nat.lt_trans lt11 lt12))))))))))))
  have ne106 : x_states ≠ x_reached := (Nat.ne_of_lt (Nat.lt_trans lt2 (Nat.lt_trans lt3 (Nat.lt_trans lt4 (Nat.lt_trans lt5 (Nat.lt_trans lt6 (Nat.lt_trans lt7 (Nat.lt_trans lt8 (Nat.lt_trans lt9 (Nat.lt_trans lt10 (Nat.lt_trans lt11 lt12)))))))))))
  have ne107 : x_hashes ≠ x_reached := (Nat.ne_of_lt (Nat.lt_trans lt3 (Nat.lt_trans lt4 (Nat.lt_trans lt5 (Nat.lt_trans lt6 (Nat.lt_trans lt7 (Nat.lt_trans lt8 (Nat.lt_trans lt9 (Nat.lt_trans lt10 (Nat.lt_trans lt11 lt12))))))))))
  have ne108 : x_zones ≠ x_reached := (Nat.ne_of_lt (Nat.lt_trans lt4 (Nat.lt_trans lt5 (Nat.lt_trans lt6 (Nat.lt_trans lt7 (Nat.lt_trans lt8 (Nat.lt_trans lt9 (Nat.lt_trans lt10 (Nat.lt_trans lt11 lt12)))))))))
  have ne109 : x_held ≠ x_reached := (Nat.ne_of_lt (Nat.lt_trans lt6 (Nat.lt_trans lt7 (Nat.lt_trans lt8 (Nat.lt_trans lt9 (Nat.lt_trans lt10 (Nat.lt_trans lt11 lt12)))))))
  have ne110 : x_sameStates ≠ x_reached := (Nat.ne_of_lt (Nat.lt_trans lt5 (Nat.lt_trans lt6 (Nat.lt_trans lt7 (Nat.lt_trans lt8 (Nat.lt_trans lt9 (Nat.lt_trans lt10 (Nat.lt_trans lt11 lt12))))))))
  have ne111 : x_parents ≠ x_reached := (Nat.ne_of_lt (Nat.lt_trans lt7 (Nat.lt_trans lt8 (Nat.lt_trans lt9 (Nat.lt_trans lt10 (Nat.lt_trans lt11 lt12))))))
  have ne112 : x_events ≠ x_reached := (Nat.ne_of_lt (Nat.lt_trans lt8 (Nat.lt_trans lt9 (Nat.lt_trans lt10 (Nat.lt_trans lt11 lt12)))))
  have ne113 : x_ranks ≠ x_reached := (Nat.ne_of_lt (Nat.lt_trans lt9 (Nat.lt_trans lt10 (Nat.lt_trans lt11 lt12))))
  have H114 := (((((((((V_reached.keep K2 (ninS (Ne.symm ne105) nin0)).keep K30 (ninS (Ne.symm ne106) nin0)).other W37 (Ne.symm ne107)).other W44 (Ne.symm ne108)).other W52 (Ne.symm ne109)).other W62 (Ne.symm ne110)).other W71 (Ne.symm ne111)).other W81 (Ne.symm ne112)).other W93 (Ne.symm ne113))
  refine Gk.iaload X103 hx hZ e103 H114 ⟨by decide, by decide⟩ (.int (0 : Int32)) h_reached_0 (hb hby d9_363) ?_
  refine Gk.aloadN X103 hx (hb hby d9_364) rfl rfl ?_
  have H115 := (((((((((F_ranked.keep K2 (ninS (Nat.ne_of_lt lt0) nin0)).keep K30 (ninS (Nat.ne_of_lt (Nat.lt_trans lt0 lt1)) nin0)).other W37 (Or.inl ne39)).other W44 (Or.inl ne47)).other W52 (Or.inl ne57)).other W62 (Or.inl ne66)).other W71 (Or.inl ne76)).other W81 (Or.inl ne88)).other W93 (Or.inl ne101))
  refine Gk.getF X103 hx hZ hown (host := "") (Or.inl (hw _ (List.mem_of_getElem? (i := 67) rfl))) Via.refl e103 H115 (hb hby d9_365) ?_
  intro T116 X116 e116
  refine Gk.iload X116 hx (hb hby d9_368) rfl ?_
  have ne118 : ab ≠ x_ranked := (Nat.ne_of_lt (Nat.lt_trans lt1 (Nat.lt_trans lt2 (Nat.lt_trans lt3 (Nat.lt_trans lt4 (Nat.lt_trans lt5 (Nat.lt_trans lt6 (Nat.lt_trans lt7 (Nat.lt_trans lt8 (Nat.lt_trans lt9 lt10))))))))))
  have ne119 : x_states ≠ x_ranked := (Nat.ne_of_lt (Nat.lt_trans lt2 (Nat.lt_trans lt3 (Nat.lt_trans lt4 (Nat.lt_trans lt5 (Nat.lt_trans lt6 (Nat.lt_trans lt7 (Nat.lt_trans lt8 (Nat.lt_trans lt9 lt10)))))))))
  have ne120 : x_hashes ≠ x_ranked := (Nat.ne_of_lt (Nat.lt_trans lt3 (Nat.lt_trans lt4 (Nat.lt_trans lt5 (Nat.lt_trans lt6 (Nat.lt_trans lt7 (Nat.lt_trans lt8 (Nat.lt_trans lt9 lt10))))))))
  have ne121 : x_zones ≠ x_ranked := (Nat.ne_of_lt (Nat.lt_trans lt4 (Nat.lt_trans lt5 (Nat.lt_trans lt6 (Nat.lt_trans lt7 (Nat.lt_trans lt8 (Nat.lt_trans lt9 lt10)))))))
  have ne122 : x_held ≠ x_ranked := (Nat.ne_of_lt (Nat.lt_trans lt6 (Nat.lt_trans lt7 (Nat.lt_trans lt8 (Nat.lt_trans lt9 lt10)))))
  have ne123 : x_sameStates ≠ x_ranked := (Nat.ne_of_lt (Nat.lt_trans lt5 (Nat.lt_trans lt6 (Nat.lt_trans lt7 (Nat.lt_trans lt8 (Nat.lt_trans lt9 lt10))))))
  have ne124 : x_parents ≠ x_ranked := (Nat.ne_of_lt (Nat.lt_trans lt7 (Nat.lt_trans lt8 (Nat.lt_trans lt9 lt10))))
  have ne125 : x_events ≠ x_ranked := (Nat.ne_of_lt (Nat.lt_trans lt8 (Nat.lt_trans lt9 lt10)))
  have H126 := (((((((((V_ranked.keep K2 (ninS (Ne.symm ne118) nin0)).keep K30 (ninS (Ne.symm ne119) nin0)).other W37 (Ne.symm ne120)).other W44 (Ne.symm ne121)).other W52 (Ne.symm ne122)).other W62 (Ne.symm ne123)).other W71 (Ne.symm ne124)).other W81 (Ne.symm ne125)).other W93 (Ne.symm (Nat.ne_of_lt (Nat.lt_trans lt9 lt10))))
  refine Gk.aaload X116 hx hZ e116 H126 rfl ⟨by decide, by decide⟩ (.ref x_rk0) h_ranked_0 (hb hby d9_370) ?_
  have ne127 : ab ≠ x_rk0 := (Nat.ne_of_lt (Nat.lt_trans lt1 (Nat.lt_trans lt2 (Nat.lt_trans lt3 (Nat.lt_trans lt4 (Nat.lt_trans lt5 (Nat.lt_trans lt6 (Nat.lt_trans lt7 (Nat.lt_trans lt8 (Nat.lt_trans lt9 (Nat.lt_trans lt10 lt11)))))))))))
  have ne128 : x_states ≠ x_rk0 := (Nat.ne_of_lt (Nat.lt_trans lt2 (Nat.lt_trans lt3 (Nat.lt_trans lt4 (Nat.lt_trans lt5 (Nat.lt_trans lt6 (Nat.lt_trans lt7 (Nat.lt_trans lt8 (Nat.lt_trans lt9 (Nat.lt_trans lt10 lt11))))))))))
  have ne129 : x_hashes ≠ x_rk0 := (Nat.ne_of_lt (Nat.lt_trans lt3 (Nat.lt_trans lt4 (Nat.lt_trans lt5 (Nat.lt_trans lt6 (Nat.lt_trans lt7 (Nat.lt_trans lt8 (Nat.lt_trans lt9 (Nat.lt_trans lt10 lt11)))))))))
  have ne130 : x_zones ≠ x_rk0 := (Nat.ne_of_lt (Nat.lt_trans lt4 (Nat.lt_trans lt5 (Nat.lt_trans lt6 (Nat.lt_trans lt7 (Nat.lt_trans lt8 (Nat.lt_trans lt9 (Nat.lt_trans lt10 lt11))))))))
  have ne131 : x_held ≠ x_rk0 := (Nat.ne_of_lt (Nat.lt_trans lt6 (Nat.lt_trans lt7 (Nat.lt_trans lt8 (Nat.lt_trans lt9 (Nat.lt_trans lt10 lt11))))))
  have ne132 : x_sameStates ≠ x_rk0 := (Nat.ne_of_lt (Nat.lt_trans lt5 (Nat.lt_trans lt6 (Nat.lt_trans lt7 (Nat.lt_trans lt8 (Nat.lt_trans lt9 (Nat.lt_trans lt10 lt11)))))))
  have ne133 : x_parents ≠ x_rk0 := (Nat.ne_of_lt (Nat.lt_trans lt7 (Nat.lt_trans lt8 (Nat.lt_trans lt9 (Nat.lt_trans lt10 lt11)))))
  have ne134 : x_events ≠ x_rk0 := (Nat.ne_of_lt (Nat.lt_trans lt8 (Nat.lt_trans lt9 (Nat.lt_trans lt10 lt11))))
  have ne135 : x_ranks ≠ x_rk0 := (Nat.ne_of_lt (Nat.lt_trans lt9 (Nat.lt_trans lt10 lt11)))
  have H136 := (((((((((V_rk0.keep K2 (ninS (Ne.symm ne127) nin0)).keep K30 (ninS (Ne.symm ne128) nin0)).other W37 (Ne.symm ne129)).other W44 (Ne.symm ne130)).other W52 (Ne.symm ne131)).other W62 (Ne.symm ne132)).other W71 (Ne.symm ne133)).other W81 (Ne.symm ne134)).other W93 (Ne.symm ne135))
  refine Gk.alen X116 hx hZ e116 H136 (hb hby d9_371) ?_
  refine Gk.icmpYes X116 hx (hb hby d9_372) (feq (by decide : ¬ ((0 : Int32) = (8 : Int32)))).2 401 (by decide) (by decide) ?_
  refine Gk.aloadN X116 hx (hb hby d9_401) rfl rfl ?_
  refine Gk.getF X116 hx hZ hown (host := "") (Or.inl (hw _ (List.mem_of_getElem? (i := 67) rfl))) Via.refl e116 H115 (hb hby d9_402) ?_
  intro T137 X137 e137
  refine Gk.iload X137 hx (hb hby d9_405) rfl ?_
  refine Gk.aaload X137 hx hZ e137 H126 rfl ⟨by decide, by decide⟩ (.ref x_rk0) h_ranked_0 (hb hby d9_407) ?_
  refine Gk.aloadN X137 hx (hb hby d9_408) rfl rfl ?_
  refine Gk.getF X137 hx hZ hown (host := "") (Or.inl (hw _ (List.mem_of_getElem? (i := 69) rfl))) Via.refl e137 H102 (hb hby d9_409) ?_
  intro T139 X139 e139
  refine Gk.iload X139 hx (hb hby d9_412) rfl ?_
  refine Gk.dup2 X139 hx (hb hby d9_414) rfl rfl ?_
  refine Gk.iaload X139 hx hZ e139 H114 ⟨by decide, by decide⟩ (.int (0 : Int32)) h_reached_0 (hb hby d9_415) ?_
  refine Gk.dupX2 X139 hx (hb hby d9_416) rfl rfl rfl ?_
  refine Gk.iconst X139 hx (hb hby d9_417) (1 : Int32) rfl ?_
  refine Gk.iadd X139 hx (hb hby d9_418) (1 : Int32) (by decide) ?_
  refine Gk.iastore X139 hx hZ e139 H114 0 rfl ⟨by decide, by decide⟩ (.int (1 : Int32)) rfl (hb hby d9_419) ?_
  intro T141 h141 X141 e141 W141 V141
  have N141 := Fr.snoc X141 N93 (Nat.le_trans g_a1 (Nat.le_of_lt (Nat.lt_trans lt0 (Nat.lt_trans lt1 (Nat.lt_trans lt2 (Nat.lt_trans lt3 (Nat.lt_trans lt4 (Nat.lt_trans lt5 (Nat.lt_trans lt6 (Nat.lt_trans lt7 (Nat.lt_trans lt8 (Nat.lt_trans lt9 (Nat.lt_trans lt10 (Nat.lt_trans lt11 lt12))))))))))))))
  refine Gk.aloadN X141 hx (hb hby d9_420) rfl rfl ?_
  have ne142 : a1 ≠ x_reached := (Nat.ne_of_lt (Nat.lt_trans lt0 (Nat.lt_trans lt1 (Nat.lt_trans lt2 (Nat.lt_trans lt3 (Nat.lt_trans lt4 (Nat.lt_trans lt5 (Nat.lt_trans lt6 (Nat.lt_trans lt7 (Nat.lt_trans lt8 (Nat.lt_trans lt9 (Nat.lt_trans lt10 (Nat.lt_trans lt11 lt12)))))))))))))
  have H143 := ((H91.other W93 (Or.inl ne101)).other W141 (Or.inl ne142))
  refine Gk.getF X141 hx hZ hown (host := "") (Or.inl (hw _ (List.mem_of_getElem? (i := 104) rfl))) Via.refl e141 H143 (hb hby d9_421) ?_
  intro T144 X144 e144
  have H146 := (H136.other W141 (Nat.ne_of_lt lt12))
  refine Gk.iastore X144 hx hZ e144 H146 0 rfl ⟨by decide, by decide⟩ (.int (0 : Int32)) rfl (hb hby d9_424) ?_
  intro T145 h145 X145 e145 W145 V145
  have N145 := Fr.snoc X145 N141 (Nat.le_trans g_a1 (Nat.le_of_lt (Nat.lt_trans lt0 (Nat.lt_trans lt1 (Nat.lt_trans lt2 (Nat.lt_trans lt3 (Nat.lt_trans lt4 (Nat.lt_trans lt5 (Nat.lt_trans lt6 (Nat.lt_trans lt7 (Nat.lt_trans lt8 (Nat.lt_trans lt9 (Nat.lt_trans lt10 lt11)))))))))))))
  refine Gk.aloadN X145 hx (hb hby d9_425) rfl rfl ?_
  refine Gk.aloadN X145 hx (hb hby d9_426) rfl rfl ?_
  have ne147 : a1 ≠ x_rk0 := (Nat.ne_of_lt (Nat.lt_trans lt0 (Nat.lt_trans lt1 (Nat.lt_trans lt2 (Nat.lt_trans lt3 (Nat.lt_trans lt4 (Nat.lt_trans lt5 (Nat.lt_trans lt6 (Nat.lt_trans lt7 (Nat.lt_trans lt8 (Nat.lt_trans lt9 (Nat.lt_trans lt10 lt11))))))))))))
  have H148 := (((((((((((F_lowest.keep K2 (ninS (Nat.ne_of_lt lt0) nin0)).keep K30 (ninS (Nat.ne_of_lt (Nat.lt_trans lt0 lt1)) nin0)).other W37 (Or.inl ne39)).other W44 (Or.inl ne47)).other W52 (Or.inl ne57)).other W62 (Or.inl ne66)).other W71 (Or.inl ne76)).other W81 (Or.inl ne88)).other W93 (Or.inl ne101)).other W141 (Or.inl ne142)).other W145 (Or.inl ne147))
  refine Gk.getF X145 hx hZ hown (host := "") (Or.inl (hw _ (List.mem_of_getElem? (i := 110) rfl))) Via.refl e145 H148 (hb hby d9_427) ?_
  intro T149 X149 e149
  refine Gk.iload X149 hx (hb hby d9_430) rfl ?_
  have gr151 := (Nat.le_trans (Nat.le_trans (Nat.le_trans (Nat.le_trans (Nat.le_trans (Nat.le_trans (Nat.le_trans (Nat.le_trans (Nat.le_trans (Nat.le_trans K2.1 K30.1) (Keep.of_wr W37).1) (Keep.of_wr W44).1) (Keep.of_wr W52).1) (Keep.of_wr W62).1) (Keep.of_wr W71).1) (Keep.of_wr W81).1) (Keep.of_wr W93).1) (Keep.of_wr W141).1) (Keep.of_wr W145).1)
  refine Gk.callS (argsL := [(.int (0 : Int32)), (.int (0 : Int32))]) X149 hx hZ hown (rm13 l Z a0 hw [] (0 : Int32) (0 : Int32) h145 n0 (Nat.le_trans Z0 gr151)) (hw _ (List.mem_of_getElem? (i := 112) rfl)) (hw _ (List.mem_of_getElem? (i := 113) rfl)) (hw _ (List.mem_of_getElem? (i := 114) rfl)) (hw _ (List.mem_of_getElem? (i := 115) rfl)) (by decide) e149 pd_1 rfl rfl (by decide) (Nat.le_of_ble_eq_true rfl) (by decide) (by decide) (by rw [hml]; rfl)  rfl (hb hby d9_432) ?_
  intro T150 L150 v150 X150 hQ150
  obtain ⟨rfl, N150q, e150⟩ := hQ150
  have N150 := Fr.app N145 N150q
  show Go p e below (T150.setTop (mkF m 435 #[.val (.ref a1), .val (.ref a2), .val (.int (0 : Int32)), .val .null, .val (.int p5), .val .null, .val (.int (0 : Int32)), .val (.int (-1 : Int32)), .val (.int (31 : Int32)), .val (.int (0 : Int32))] [(.int (if (0 : Int32) < (0 : Int32) then (0 : Int32) else (0 : Int32))), (.ref a1)])) _
  rw [show (if (0 : Int32) < (0 : Int32) then (0 : Int32) else (0 : Int32)) = (0 : Int32) from by decide]
  have H152 := ((((((((((H9.keep K30).wr W37).wr W44).wr W52).wr W62).wr W71).wr W81).wr W93).wr W141).wr W145)
  refine Gk.putF X150 hx hZ hown (host := "") (Or.inl (hw _ (List.mem_of_getElem? (i := 110) rfl))) Via.refl e150 H148 H152 (Or.inl (hw _ (List.mem_of_getElem? (i := 111) rfl))) (hw _ (List.mem_of_getElem? (i := 23) rfl)) (ty := .int) (by decide) rfl rfl (hb hby d9_435) ?_
  intro T153 h153 X153 e153 W153
  have Fw153 := H148.same W153
  have N153 := Fr.snoc X153 N150 g_a1
  refine Gk.aloadN X153 hx (hb hby d9_438) rfl rfl ?_
  refine Gk.dup X153 hx (hb hby d9_439) rfl ?_
  have H154 := ((H143.other W145 (Or.inl ne147)).other W153 (Or.inr (slot_ne (Or.inl (hw _ (List.mem_of_getElem? (i := 105) rfl))) (Or.inl (hw _ (List.mem_of_getElem? (i := 111) rfl))) (by decide) (t := .int) (t' := .int) (by decide) (by decide))))
  refine Gk.getF X153 hx hZ hown (host := "") (Or.inl (hw _ (List.mem_of_getElem? (i := 104) rfl))) Via.refl e153 H154 (hb hby d9_440) ?_
  intro T155 X155 e155
  refine Gk.iconst X155 hx (hb hby d9_443) (1 : Int32) rfl ?_
  refine Gk.iadd X155 hx (hb hby d9_444) (1 : Int32) (by decide) ?_
  have H156 := (H152.wr W153)
  refine Gk.putF X155 hx hZ hown (host := "") (Or.inl (hw _ (List.mem_of_getElem? (i := 104) rfl))) Via.refl e155 H154 H156 (Or.inl (hw _ (List.mem_of_getElem? (i := 105) rfl))) (hw _ (List.mem_of_getElem? (i := 23) rfl)) (ty := .int) (by decide) rfl rfl (hb hby d9_445) ?_
  intro T157 h157 X157 e157 W157
  have Fw157 := H154.same W157
  have N157 := Fr.snoc X157 N153 g_a1
  refine Gk.aloadN X157 hx (hb hby d9_448) rfl rfl ?_
  have H158 := ((((((((((((H7.keep K30 (ninS (Nat.ne_of_lt (Nat.lt_trans lt0 lt1)) nin0)).other W37 (Or.inl ne39)).other W44 (Or.inl ne47)).other W52 (Or.inl ne57)).other W62 (Or.inl ne66)).other W71 (Or.inl ne76)).other W81 (Or.inl ne88)).other W93 (Or.inl ne101)).other W141 (Or.inl ne142)).other W145 (Or.inl ne147)).other W153 (Or.inr (slot_ne (Or.inl (hw _ (List.mem_of_getElem? (i := 60) rfl))) (Or.inl (hw _ (List.mem_of_getElem? (i := 111) rfl))) (by decide) (t := (.array .int)) (t' := .int) (by decide) (by decide)))).other W157 (Or.inr (slot_ne (Or.inl (hw _ (List.mem_of_getElem? (i := 60) rfl))) (Or.inl (hw _ (List.mem_of_getElem? (i := 105) rfl))) (by decide) (t := (.array .int)) (t' := .int) (by decide) (by decide))))
  refine Gk.getF X157 hx hZ hown (host := "") (Or.inl (hw _ (List.mem_of_getElem? (i := 59) rfl))) Via.refl e157 H158 (hb hby d9_449) ?_
  intro T159 X159 e159
  refine Gk.iload X159 hx (hb hby d9_452) rfl ?_
  refine Gk.aloadN X159 hx (hb hby d9_454) rfl rfl ?_
  refine Gk.getF X159 hx hZ hown (host := "") (Or.inl (hw _ (List.mem_of_getElem? (i := 104) rfl))) Via.refl e159 Fw157 (hb hby d9_455) ?_
  intro T160 X160 e160
  have ne162 : x_states ≠ x_slots := (Nat.ne_of_lt (Nat.lt_trans lt2 (Nat.lt_trans lt3 (Nat.lt_trans lt4 (Nat.lt_trans lt5 (Nat.lt_trans lt6 (Nat.lt_trans lt7 (Nat.lt_trans lt8 lt9))))))))
  have ne163 : x_hashes ≠ x_slots := (Nat.ne_of_lt (Nat.lt_trans lt3 (Nat.lt_trans lt4 (Nat.lt_trans lt5 (Nat.lt_trans lt6 (Nat.lt_trans lt7 (Nat.lt_trans lt8 lt9)))))))
  have ne164 : x_zones ≠ x_slots := (Nat.ne_of_lt (Nat.lt_trans lt4 (Nat.lt_trans lt5 (Nat.lt_trans lt6 (Nat.lt_trans lt7 (Nat.lt_trans lt8 lt9))))))
  have ne165 : x_held ≠ x_slots := (Nat.ne_of_lt (Nat.lt_trans lt6 (Nat.lt_trans lt7 (Nat.lt_trans lt8 lt9))))
  have ne166 : x_sameStates ≠ x_slots := (Nat.ne_of_lt (Nat.lt_trans lt5 (Nat.lt_trans lt6 (Nat.lt_trans lt7 (Nat.lt_trans lt8 lt9)))))
  have ne167 : x_parents ≠ x_slots := (Nat.ne_of_lt (Nat.lt_trans lt7 (Nat.lt_trans lt8 lt9)))
  have ne168 : x_slots ≠ x_reached := (Nat.ne_of_lt (Nat.lt_trans lt10 (Nat.lt_trans lt11 lt12)))
  have ne169 : a1 ≠ x_slots := (Nat.ne_of_lt (Nat.lt_trans lt0 (Nat.lt_trans lt1 (Nat.lt_trans lt2 (Nat.lt_trans lt3 (Nat.lt_trans lt4 (Nat.lt_trans lt5 (Nat.lt_trans lt6 (Nat.lt_trans lt7 (Nat.lt_trans lt8 lt9))))))))))
  have H170 := ((((((((((((H5.keep K30 (ninS (Ne.symm ne162) nin0)).other W37 (Ne.symm ne163)).other W44 (Ne.symm ne164)).other W52 (Ne.symm ne165)).other W62 (Ne.symm ne166)).other W71 (Ne.symm ne167)).other W81 (Ne.symm (Nat.ne_of_lt (Nat.lt_trans lt8 lt9)))).other W93 (Ne.symm (Nat.ne_of_lt lt9))).other W141 ne168).other W145 (Nat.ne_of_lt (Nat.lt_trans lt10 lt11))).other W153 (Ne.symm ne169)).other W157 (Ne.symm ne169))
  refine Gk.iastore X160 hx hZ e160 H170 0 rfl ⟨by decide, by decide⟩ (.int (1 : Int32)) rfl (hb hby d9_458) ?_
  intro T161 h161 X161 e161 W161 V161
  have N161 := Fr.snoc X161 N157 (Nat.le_trans g_a1 (Nat.le_of_lt (Nat.lt_trans lt0 (Nat.lt_trans lt1 (Nat.lt_trans lt2 (Nat.lt_trans lt3 (Nat.lt_trans lt4 (Nat.lt_trans lt5 (Nat.lt_trans lt6 (Nat.lt_trans lt7 (Nat.lt_trans lt8 lt9)))))))))))
  refine Gk.aloadN X161 hx (hb hby d9_459) rfl rfl ?_
  have H171 := (Fw157.other W161 (Or.inl ne169))
  refine Gk.getF X161 hx hZ hown (host := "") (Or.inl (hw _ (List.mem_of_getElem? (i := 104) rfl))) Via.refl e161 H171 (hb hby d9_460) ?_
  intro T172 X172 e172
  refine Gk.iconst X172 hx (hb hby d9_463) (2 : Int32) rfl ?_
  refine Gk.imul X172 hx (hb hby d9_464) (2 : Int32) (by decide) ?_
  refine Gk.aloadN X172 hx (hb hby d9_465) rfl rfl ?_
  have H173 := (H158.other W161 (Or.inl ne169))
  refine Gk.getF X172 hx hZ hown (host := "") (Or.inl (hw _ (List.mem_of_getElem? (i := 59) rfl))) Via.refl e172 H173 (hb hby d9_466) ?_
  intro T174 X174 e174
  refine Gk.alen X174 hx hZ e174 V161 (hb hby d9_469) ?_
  refine Gk.icmpYes X174 hx (hb hby d9_470) (flt (by decide : ¬ ((32 : Int32) < (2 : Int32)))).2.2.2 477 (by decide) (by decide) ?_
  have H175 := (((((((((((((Fl2.keep K30 (ninS (Nat.ne_of_lt lt1) nin0)).other W37 (Or.inl (Nat.ne_of_lt (Nat.lt_trans lt1 lt2)))).other W44 (Or.inl ne45)).other W52 (Or.inl ne53)).other W62 (Or.inl ne63)).other W71 (Or.inl ne18)).other W81 (Or.inl ne82)).other W93 (Or.inl ne94)).other W141 (Or.inl ne105)).other W145 (Or.inl ne127)).other W153 (Or.inl (Ne.symm (Nat.ne_of_lt lt0)))).other W157 (Or.inl (Ne.symm (Nat.ne_of_lt lt0)))).other W161 (Or.inl ne4))
  have H176 := ((Fw153.other W157 (Or.inr (slot_ne (Or.inl (hw _ (List.mem_of_getElem? (i := 111) rfl))) (Or.inl (hw _ (List.mem_of_getElem? (i := 105) rfl))) (by decide) (t := .int) (t' := .int) (by decide) (by decide)))).other W161 (Or.inl ne169))
  have H177 := (((((((((((((H23.keep K30 (ninS (Nat.ne_of_lt (Nat.lt_trans lt0 lt1)) nin0)).other W37 (Or.inl ne39)).other W44 (Or.inl ne47)).other W52 (Or.inl ne57)).other W62 (Or.inl ne66)).other W71 (Or.inl ne76)).other W81 (Or.inl ne88)).other W93 (Or.inl ne101)).other W141 (Or.inl ne142)).other W145 (Or.inl ne147)).other W153 (Or.inr (slot_ne (Or.inl (hw _ (List.mem_of_getElem? (i := 40) rfl))) (Or.inl (hw _ (List.mem_of_getElem? (i := 111) rfl))) (by decide) (t := (.array .int)) (t' := .int) (by decide) (by decide)))).other W157 (Or.inr (slot_ne (Or.inl (hw _ (List.mem_of_getElem? (i := 40) rfl))) (Or.inl (hw _ (List.mem_of_getElem? (i := 105) rfl))) (by decide) (t := (.array .int)) (t' := .int) (by decide) (by decide)))).other W161 (Or.inl ne169))
  have H178 := ((((((((((((H33.other W37 (Or.inl ne39)).other W44 (Or.inl ne47)).other W52 (Or.inl ne57)).other W62 (Or.inl ne66)).other W71 (Or.inl ne76)).other W81 (Or.inl ne88)).other W93 (Or.inl ne101)).other W141 (Or.inl ne142)).other W145 (Or.inl ne147)).other W153 (Or.inr (slot_ne (Or.inl (hw _ (List.mem_of_getElem? (i := 42) rfl))) (Or.inl (hw _ (List.mem_of_getElem? (i := 111) rfl))) (by decide) (t := (.array .int)) (t' := .int) (by decide) (by decide)))).other W157 (Or.inr (slot_ne (Or.inl (hw _ (List.mem_of_getElem? (i := 42) rfl))) (Or.inl (hw _ (List.mem_of_getElem? (i := 105) rfl))) (by decide) (t := (.array .int)) (t' := .int) (by decide) (by decide)))).other W161 (Or.inl ne169))
  have H179 := (((((((((((H40.other W44 (Or.inl ne47)).other W52 (Or.inl ne57)).other W62 (Or.inl ne66)).other W71 (Or.inl ne76)).other W81 (Or.inl ne88)).other W93 (Or.inl ne101)).other W141 (Or.inl ne142)).other W145 (Or.inl ne147)).other W153 (Or.inr (slot_ne (Or.inl (hw _ (List.mem_of_getElem? (i := 46) rfl))) (Or.inl (hw _ (List.mem_of_getElem? (i := 111) rfl))) (by decide) (t := (.array (.object "com/example/tracewarden/tracewarden/engine/Zone"))) (t' := .int) (by decide) (by decide)))).other W157 (Or.inr (slot_ne (Or.inl (hw _ (List.mem_of_getElem? (i := 46) rfl))) (Or.inl (hw _ (List.mem_of_getElem? (i := 105) rfl))) (by decide) (t := (.array (.object "com/example/tracewarden/tracewarden/engine/Zone"))) (t' := .int) (by decide) (by decide)))).other W161 (Or.inl ne169))
  have H180 := (((((((((H58.other W62 (Or.inl ne66)).other W71 (Or.inl ne76)).other W81 (Or.inl ne88)).other W93 (Or.inl ne101)).other W141 (Or.inl ne142)).other W145 (Or.inl ne147)).other W153 (Or.inr (slot_ne (Or.inl (hw _ (List.mem_of_getElem? (i := 48) rfl))) (Or.inl (hw _ (List.mem_of_getElem? (i := 111) rfl))) (by decide) (t := (.array .int)) (t' := .int) (by decide) (by decide)))).other W157 (Or.inr (slot_ne (Or.inl (hw _ (List.mem_of_getElem? (i := 48) rfl))) (Or.inl (hw _ (List.mem_of_getElem? (i := 105) rfl))) (by decide) (t := (.array .int)) (t' := .int) (by decide) (by decide)))).other W161 (Or.inl ne169))
  have H181 := ((((((((((H48.other W52 (Or.inl ne57)).other W62 (Or.inl ne66)).other W71 (Or.inl ne76)).other W81 (Or.inl ne88)).other W93 (Or.inl ne101)).other W141 (Or.inl ne142)).other W145 (Or.inl ne147)).other W153 (Or.inr (slot_ne (Or.inl (hw _ (List.mem_of_getElem? (i := 51) rfl))) (Or.inl (hw _ (List.mem_of_getElem? (i := 111) rfl))) (by decide) (t := (.array .boolean)) (t' := .int) (by decide) (by decide)))).other W157 (Or.inr (slot_ne (Or.inl (hw _ (List.mem_of_getElem? (i := 51) rfl))) (Or.inl (hw _ (List.mem_of_getElem? (i := 105) rfl))) (by decide) (t := (.array .boolean)) (t' := .int) (by decide) (by decide)))).other W161 (Or.inl ne169))
  have H182 := ((((((((H67.other W71 (Or.inl ne76)).other W81 (Or.inl ne88)).other W93 (Or.inl ne101)).other W141 (Or.inl ne142)).other W145 (Or.inl ne147)).other W153 (Or.inr (slot_ne (Or.inl (hw _ (List.mem_of_getElem? (i := 53) rfl))) (Or.inl (hw _ (List.mem_of_getElem? (i := 111) rfl))) (by decide) (t := (.array .int)) (t' := .int) (by decide) (by decide)))).other W157 (Or.inr (slot_ne (Or.inl (hw _ (List.mem_of_getElem? (i := 53) rfl))) (Or.inl (hw _ (List.mem_of_getElem? (i := 105) rfl))) (by decide) (t := (.array .int)) (t' := .int) (by decide) (by decide)))).other W161 (Or.inl ne169))
  have H183 := (((((((H77.other W81 (Or.inl ne88)).other W93 (Or.inl ne101)).other W141 (Or.inl ne142)).other W145 (Or.inl ne147)).other W153 (Or.inr (slot_ne (Or.inl (hw _ (List.mem_of_getElem? (i := 56) rfl))) (Or.inl (hw _ (List.mem_of_getElem? (i := 111) rfl))) (by decide) (t := (.array (.object "com/example/tracewarden/tracewarden/engine/SearchTuples$Event"))) (t' := .int) (by decide) (by decide)))).other W157 (Or.inr (slot_ne (Or.inl (hw _ (List.mem_of_getElem? (i := 56) rfl))) (Or.inl (hw _ (List.mem_of_getElem? (i := 105) rfl))) (by decide) (t := (.array (.object "com/example/tracewarden/tracewarden/engine/SearchTuples$Event"))) (t' := .int) (by decide) (by decide)))).other W161 (Or.inl ne169))
  have H184 := ((((((H89.other W93 (Or.inl ne101)).other W141 (Or.inl ne142)).other W145 (Or.inl ne147)).other W153 (Or.inr (slot_ne (Or.inl (hw _ (List.mem_of_getElem? (i := 58) rfl))) (Or.inl (hw _ (List.mem_of_getElem? (i := 111) rfl))) (by decide) (t := (.array .int)) (t' := .int) (by decide) (by decide)))).other W157 (Or.inr (slot_ne (Or.inl (hw _ (List.mem_of_getElem? (i := 58) rfl))) (Or.inl (hw _ (List.mem_of_getElem? (i := 105) rfl))) (by decide) (t := (.array .int)) (t' := .int) (by decide) (by decide)))).other W161 (Or.inl ne169))
  have H185 := (((((H115.other W141 (Or.inl ne142)).other W145 (Or.inl ne147)).other W153 (Or.inr (slot_ne (Or.inl (hw _ (List.mem_of_getElem? (i := 68) rfl))) (Or.inl (hw _ (List.mem_of_getElem? (i := 111) rfl))) (by decide) (t := (.array (.array .int))) (t' := .int) (by decide) (by decide)))).other W157 (Or.inr (slot_ne (Or.inl (hw _ (List.mem_of_getElem? (i := 68) rfl))) (Or.inl (hw _ (List.mem_of_getElem? (i := 105) rfl))) (by decide) (t := (.array (.array .int))) (t' := .int) (by decide) (by decide)))).other W161 (Or.inl ne169))
  have H186 := (((((H102.other W141 (Or.inl ne142)).other W145 (Or.inl ne147)).other W153 (Or.inr (slot_ne (Or.inl (hw _ (List.mem_of_getElem? (i := 70) rfl))) (Or.inl (hw _ (List.mem_of_getElem? (i := 111) rfl))) (by decide) (t := (.array .int)) (t' := .int) (by decide) (by decide)))).other W157 (Or.inr (slot_ne (Or.inl (hw _ (List.mem_of_getElem? (i := 70) rfl))) (Or.inl (hw _ (List.mem_of_getElem? (i := 105) rfl))) (by decide) (t := (.array .int)) (t' := .int) (by decide) (by decide)))).other W161 (Or.inl ne169))
  have H187 := ((((((((((((((F_budget.keep K2 (ninS (Nat.ne_of_lt lt0) nin0)).keep K30 (ninS (Nat.ne_of_lt (Nat.lt_trans lt0 lt1)) nin0)).other W37 (Or.inl ne39)).other W44 (Or.inl ne47)).other W52 (Or.inl ne57)).other W62 (Or.inl ne66)).other W71 (Or.inl ne76)).other W81 (Or.inl ne88)).other W93 (Or.inl ne101)).other W141 (Or.inl ne142)).other W145 (Or.inl ne147)).other W153 (Or.inr (slot_ne (Or.inr (hw _ (List.mem_of_getElem? (i := 62) rfl))) (Or.inl (hw _ (List.mem_of_getElem? (i := 111) rfl))) (by decide) (t := (.object "com/example/tracewarden/tracewarden/engine/SearchBudget")) (t' := .int) (by decide) (by decide)))).other W157 (Or.inr (slot_ne (Or.inr (hw _ (List.mem_of_getElem? (i := 62) rfl))) (Or.inl (hw _ (List.mem_of_getElem? (i := 105) rfl))) (by decide) (t := (.object "com/example/tracewarden/tracewarden/engine/SearchBudget")) (t' := .int) (by decide) (by decide)))).other W161 (Or.inl ne169))
  have H188 := (((((((((((((H21.keep K30 (ninS (Nat.ne_of_lt (Nat.lt_trans lt0 lt1)) nin0)).other W37 (Or.inl ne39)).other W44 (Or.inl ne47)).other W52 (Or.inl ne57)).other W62 (Or.inl ne66)).other W71 (Or.inl ne76)).other W81 (Or.inl ne88)).other W93 (Or.inl ne101)).other W141 (Or.inl ne142)).other W145 (Or.inl ne147)).other W153 (Or.inr (slot_ne (Or.inl (hw _ (List.mem_of_getElem? (i := 64) rfl))) (Or.inl (hw _ (List.mem_of_getElem? (i := 111) rfl))) (by decide) (t := .int) (t' := .int) (by decide) (by decide)))).other W157 (Or.inr (slot_ne (Or.inl (hw _ (List.mem_of_getElem? (i := 64) rfl))) (Or.inl (hw _ (List.mem_of_getElem? (i := 105) rfl))) (by decide) (t := .int) (t' := .int) (by decide) (by decide)))).other W161 (Or.inl ne169))
  have H189 := (((((((((((V37.other W44 (Nat.ne_of_lt lt3)).other W52 ne55).other W62 (Nat.ne_of_lt (Nat.lt_trans lt3 lt4))).other W71 ne73).other W81 ne84).other W93 ne96).other W141 ne107).other W145 ne129).other W153 (Ne.symm ne39)).other W157 (Ne.symm ne39)).other W161 ne163)
  have H190 := (((((((V71.other W81 (Nat.ne_of_lt lt7)).other W93 (Nat.ne_of_lt (Nat.lt_trans lt7 lt8))).other W141 ne111).other W145 ne133).other W153 (Ne.symm ne76)).other W157 (Ne.symm ne76)).other W161 ne167)
  have H191 := ((((((V81.other W93 (Nat.ne_of_lt lt8)).other W141 ne112).other W145 ne134).other W153 (Ne.symm ne88)).other W157 (Ne.symm ne88)).other W161 (Nat.ne_of_lt (Nat.lt_trans lt8 lt9)))
  have H192 := ((((V141.other W145 (Ne.symm (Nat.ne_of_lt lt12))).other W153 (Ne.symm ne142)).other W157 (Ne.symm ne142)).other W161 (Ne.symm ne168))
  have H193 := ((((((((((((V30.other W37 (Nat.ne_of_lt lt2)).other W44 (Nat.ne_of_lt (Nat.lt_trans lt2 lt3))).other W52 ne54).other W62 ne64).other W71 ne72).other W81 ne83).other W93 ne95).other W141 ne106).other W145 ne128).other W153 (Ne.symm (Nat.ne_of_lt (Nat.lt_trans lt0 lt1)))).other W157 (Ne.symm (Nat.ne_of_lt (Nat.lt_trans lt0 lt1)))).other W161 ne162)
  have H194 := ((((((((((V44.other W52 (Nat.ne_of_lt (Nat.lt_trans lt4 lt5))).other W62 (Nat.ne_of_lt lt4)).other W71 ne74).other W81 ne85).other W93 ne97).other W141 ne108).other W145 ne130).other W153 (Ne.symm ne47)).other W157 (Ne.symm ne47)).other W161 ne164)
  have H195 := ((((((((V62.other W71 (Nat.ne_of_lt (Nat.lt_trans lt5 lt6))).other W81 ne86).other W93 ne99).other W141 ne110).other W145 ne132).other W153 (Ne.symm ne66)).other W157 (Ne.symm ne66)).other W161 ne166)
  have H196 := (((((((((V52.other W62 (Ne.symm (Nat.ne_of_lt lt5))).other W71 (Nat.ne_of_lt lt6)).other W81 (Nat.ne_of_lt (Nat.lt_trans lt6 lt7))).other W93 ne98).other W141 ne109).other W145 ne131).other W153 (Ne.symm ne57)).other W157 (Ne.symm ne57)).other W161 ne165)
  have H197 := (((((V93.other W141 ne113).other W145 ne135).other W153 (Ne.symm ne101)).other W157 (Ne.symm ne101)).other W161 (Nat.ne_of_lt lt9))
  have H198 := (((V145.other W153 (Ne.symm ne147)).other W157 (Ne.symm ne147)).other W161 (Ne.symm (Nat.ne_of_lt (Nat.lt_trans lt10 lt11))))
  refine Go.fin X174 (v := none) (fun _ => rfl) Bd.notSynchronized (fun _ hr => X174.returnOut hx Bd.returns (hb hby d9_477) hr) (fun U' hU hF => ⟨_, _, rfl, ?_, hF.1, hF.2.1, hF.2.2.mono (by decide) (by decide)⟩)
  rw [hU, e174]
  exact ⟨rfl, N161, (((((((((((((((Keep.refl h0 [a1, ab, x_states, x_hashes, x_zones, x_sameStates, x_held, x_parents, x_events, x_ranks, x_slots, x_rk0, x_reached]).trans K2 (allS (Or.inl (List.mem_of_getElem? (i := 1) rfl)) all0)).trans K30 (allS (Or.inl (List.mem_of_getElem? (i := 2) rfl)) all0)).wr W37 (Or.inl (List.mem_of_getElem? (i := 3) rfl))).wr W44 (Or.inl (List.mem_of_getElem? (i := 4) rfl))).wr W52 (Or.inl (List.mem_of_getElem? (i := 6) rfl))).wr W62 (Or.inl (List.mem_of_getElem? (i := 5) rfl))).wr W71 (Or.inl (List.mem_of_getElem? (i := 7) rfl))).wr W81 (Or.inl (List.mem_of_getElem? (i := 8) rfl))).wr W93 (Or.inl (List.mem_of_getElem? (i := 9) rfl))).wr W141 (Or.inl (List.mem_of_getElem? (i := 12) rfl))).wr W145 (Or.inl (List.mem_of_getElem? (i := 11) rfl))).wr W153 (Or.inl (List.mem_of_getElem? (i := 0) rfl))).wr W157 (Or.inl (List.mem_of_getElem? (i := 0) rfl))).wr W161 (Or.inl (List.mem_of_getElem? (i := 10) rfl))), H175, H171, H176, H177, H178, H179, H180, H181, H182, H183, H184, H173, H185, H186, H187, H188, V161, H189, H190, H191, H192, ⟨_, H193⟩, ⟨_, H194⟩, ⟨_, H195⟩, ⟨_, H196⟩, ⟨_, H197⟩, ⟨_, H198⟩⟩
theorem ef_rm9_1 (m : MethodId) (a1 : Addr) (a2 : Addr) (p5 : Int32) (a6 : Addr) : entryFrame m #[(.ref a1), (.ref a2), (.int (-511900244 : Int32)), .null, (.int p5), (.ref a6), (.int (0 : Int32))] 10 = mkF m 0 #[.val (.ref a1), .val (.ref a2), .val (.int (-511900244 : Int32)), .val .null, .val (.int p5), .val (.ref a6), .val (.int (0 : Int32)), .unset, .unset, .unset] [] := by first | (simp [entryFrame, mkF, argsToLocals, Value.category]; done) | rfl
def Q_rm9_1 (Z : State) (a1 : Addr) (a2 : Addr) (p5 : Int32) (a6 : Addr) (ab : Addr) (x_states : Addr) (x_hashes : Addr) (x_zones : Addr) (x_sameStates : Addr) (x_held : Addr) (x_parents : Addr) (x_events : Addr) (x_ranks : Addr) (x_slots : Addr) (x_ranked : Addr) (x_rk0 : Addr) (x_reached : Addr) (k_states : ClassId) (k_hashes : ClassId) (k_zones : ClassId) (k_sameStates : ClassId) (k_held : ClassId) (k_parents : ClassId) (k_events : ClassId) (k_ranks : ClassId) (k_slots : ClassId) (k_ranked : ClassId) (k_rk0 : ClassId) (k_reached : ClassId) (f_states : Nat → Value) (f_hashes : Nat → Value) (f_zones : Nat → Value) (f_sameStates : Nat → Value) (f_held : Nat → Value) (f_parents : Nat → Value) (f_events : Nat → Value) (f_ranks : Nat → Value) (f_slots : Nat → Value) (f_ranked : Nat → Value) (f_rk0 : Nat → Value) (f_reached : Nat → Value) (kt : ClassId) (ft : Nat → Value) (h0 : Heap) (n0 : Nat) (v : Option Value) (h : Heap) (L : List Loc) : Prop := v = none ∧ Fr n0 L ∧ Keep h0 h [a1, ab, x_states, x_hashes, x_zones, x_sameStates, x_held, x_parents, x_events, x_ranks, x_slots, x_rk0, x_reached] ∧ Fld Z h ab "com/example/tracewarden/tracewarden/engine/SearchBudget" "left" "J" (.long (2 : Int64)) ∧ Fld Z h a1 "com/example/tracewarden/tracewarden/engine/SearchTuples" "size" "I" (.int (2 : Int32)) ∧ Fld Z h a1 "com/example/tracewarden/tracewarden/engine/SearchTuples" "lowest" "I" (.int (0 : Int32)) ∧ Fld Z h a1 "com/example/tracewarden/tracewarden/engine/SearchTuples" "states" "[I" (.ref x_states) ∧ Fld Z h a1 "com/example/tracewarden/tracewarden/engine/SearchTuples" "hashes" "[I" (.ref x_hashes) ∧ Fld Z h a1 "com/example/tracewarden/tracewarden/engine/SearchTuples" "zones" "[Lcom/example/tracewarden/tracewarden/engine/Zone;" (.ref x_zones) ∧ Fld Z h a1 "com/example/tracewarden/tracewarden/engine/SearchTuples" "sameStates" "[I" (.ref x_sameStates) ∧ Fld Z h a1 "com/example/tracewarden/tracewarden/engine/SearchTuples" "held" "[Z" (.ref x_held) ∧ Fld Z h a1 "com/example/tracewarden/tracewarden/engine/SearchTuples" "parents" "[I" (.ref x_parents) ∧ Fld Z h a1 "com/example/tracewarden/tracewarden/engine/SearchTuples" "events" "[Lcom/example/tracewarden/tracewarden/engine/SearchTuples$Event;" (.ref x_events) ∧ Fld Z h a1 "com/example/tracewarden/tracewarden/engine/SearchTuples" "ranks" "[I" (.ref x_ranks) ∧ Fld Z h a1 "com/example/tracewarden/tracewarden/engine/SearchTuples" "slots" "[I" (.ref x_slots) ∧ Fld Z h a1 "com/example/tracewarden/tracewarden/engine/SearchTuples" "ranked" "[[I" (.ref x_ranked) ∧ Fld Z h a1 "com/example/tracewarden/tracewarden/engine/SearchTuples" "reached" "[I" (.ref x_reached) ∧ Fld Z h a1 "com/example/tracewarden/tracewarden/engine/SearchTuples" "budget" "Lcom/example/tracewarden/tracewarden/engine/SearchBudget;" (.ref ab) ∧ Fld Z h a1 "com/example/tracewarden/tracewarden/engine/SearchTuples" "width" "I" (.int (1 : Int32)) ∧ Arf Z h x_slots k_slots .int (32 : Int32) (upd f_slots 12 (.int (2 : Int32))) ∧ Arf Z h x_hashes k_hashes .int (16 : Int32) (upd f_hashes 1 (.int (-511900244 : Int32))) ∧ Arf Z h x_parents k_parents .int (16 : Int32) (upd f_parents 1 (.int p5)) ∧ Arf Z h x_events k_events (.object "com/example/tracewarden/tracewarden/engine/SearchTuples$Event") (16 : Int32) (upd f_events 1 (.ref a6)) ∧ Arf Z h x_reached k_reached .int (1 : Int32) (upd f_reached 0 (.int (2 : Int32))) ∧ (∃ f' : Nat → Value, Arf Z h x_states k_states .int (64 : Int32) f') ∧ (∃ f' : Nat → Value, Arf Z h x_zones k_zones (.object "com/example/tracewarden/tracewarden/engine/Zone") (16 : Int32) f') ∧ (∃ f' : Nat → Value, Arf Z h x_sameStates k_sameStates .int (16 : Int32) f') ∧ (∃ f' : Nat → Value, Arf Z h x_held k_held .boolean (16 : Int32) f') ∧ (∃ f' : Nat → Value, Arf Z h x_ranks k_ranks .int (16 : Int32) f') ∧ (∃ f' : Nat → Value, Arf Z h x_rk0 k_rk0 .int (8 : Int32) f')
set_option maxRecDepth 65536 in
set_option maxHeartbeats 40000000 in
theorem rm9_1 (l : Launch) (Z : State) (a0 : Array Value) (hw : ∀ d ∈ tables_1, d.before a0 Z = true) (ws : List Jvm.Cond) (a1 : Addr) (a2 : Addr) (p5 : Int32) (a6 : Addr) (ab : Addr) (x_states : Addr) (x_hashes : Addr) (x_zones : Addr) (x_sameStates : Addr) (x_held : Addr) (x_parents : Addr) (x_events : Addr) (x_ranks : Addr) (x_slots : Addr) (x_ranked : Addr) (x_rk0 : Addr) (x_reached : Addr) (k_states : ClassId) (k_hashes : ClassId) (k_zones : ClassId) (k_sameStates : ClassId) (k_held : ClassId) (k_parents : ClassId) (k_events : ClassId) (k_ranks : ClassId) (k_slots : ClassId) (k_ranked : ClassId) (k_rk0 : ClassId) (k_reached : ClassId) (f_states : Nat → Value) (f_hashes : Nat → Value) (f_zones : Nat → Value) (f_sameStates : Nat → Value) (f_held : Nat → Value) (f_parents : Nat → Value) (f_events : Nat → Value) (f_ranks : Nat → Value) (f_slots : Nat → Value) (f_ranked : Nat → Value) (f_rk0 : Nat → Value) (f_reached : Nat → Value) (kt : ClassId) (ft : Nat → Value) (h0 : Heap) (n0 : Nat) (Z0 : n0 ≤ h0.size) (E_st : Exa Z h0 a1 "com/example/tracewarden/tracewarden/engine/SearchTuples") (E_ab : Exa Z h0 ab "com/example/tracewarden/tracewarden/engine/SearchBudget") (E_ev : Exa Z h0 a6 "com/example/tracewarden/tracewarden/engine/SearchTuples$Event") (g_a1 : n0 ≤ a1) (lt0 : a1 < ab) (lt1 : ab < x_states) (lt2 : x_states < x_hashes) (lt3 : x_hashes < x_zones) (lt4 : x_zones < x_sameStates) (lt5 : x_sameStates < x_held) (lt6 : x_held < x_parents) (lt7 : x_parents < x_events) (lt8 : x_events < x_ranks) (lt9 : x_ranks < x_slots) (lt10 : x_slots < x_ranked) (lt11 : x_ranked < x_rk0) (lt12 : x_rk0 < x_reached) (lt13 : x_reached < a2) (O_ev : Ovr Z k_events "com/example/tracewarden/tracewarden/engine/SearchTuples$Event") (V_states : Arf Z h0 x_states k_states .int (64 : Int32) f_states) (V_hashes : Arf Z h0 x_hashes k_hashes .int (16 : Int32) f_hashes) (V_zones : Arf Z h0 x_zones k_zones (.object "com/example/tracewarden/tracewarden/engine/Zone") (16 : Int32) f_zones) (V_sameStates : Arf Z h0 x_sameStates k_sameStates .int (16 : Int32) f_sameStates) (V_held : Arf Z h0 x_held k_held .boolean (16 : Int32) f_held) (V_parents : Arf Z h0 x_parents k_parents .int (16 : Int32) f_parents) (V_events : Arf Z h0 x_events k_events (.object "com/example/tracewarden/tracewarden/engine/SearchTuples$Event") (16 : Int32) f_events) (V_ranks : Arf Z h0 x_ranks k_ranks .int (16 : Int32) f_ranks) (V_slots : Arf Z h0 x_slots k_slots .int (32 : Int32) f_slots) (V_ranked : Arf Z h0 x_ranked k_ranked (.array .int) (1 : Int32) f_ranked) (V_rk0 : Arf Z h0 x_rk0 k_rk0 .int (8 : Int32) f_rk0) (V_reached : Arf Z h0 x_reached k_reached .int (1 : Int32) f_reached) (V_t : Arf Z h0 a2 kt .int (1 : Int32) ft) (ht0 : ft 0 = (.int (1 : Int32))) (h_slots_12 : f_slots 12 = (.int (0 : Int32))) (h_reached_0 : f_reached 0 = (.int (1 : Int32))) (h_ranked_0 : f_ranked 0 = (.ref x_rk0)) (F_states : Fld Z h0 a1 "com/example/tracewarden/tracewarden/engine/SearchTuples" "states" "[I" (.ref x_states)) (F_hashes : Fld Z h0 a1 "com/example/tracewarden/tracewarden/engine/SearchTuples" "hashes" "[I" (.ref x_hashes)) (F_zones : Fld Z h0 a1 "com/example/tracewarden/tracewarden/engine/SearchTuples" "zones" "[Lcom/example/tracewarden/tracewarden/engine/Zone;" (.ref x_zones)) (F_sameStates : Fld Z h0 a1 "com/example/tracewarden/tracewarden/engine/SearchTuples" "sameStates" "[I" (.ref x_sameStates)) (F_held : Fld Z h0 a1 "com/example/tracewarden/tracewarden/engine/SearchTuples" "held" "[Z" (.ref x_held)) (F_parents : Fld Z h0 a1 "com/example/tracewarden/tracewarden/engine/SearchTuples" "parents" "[I" (.ref x_parents)) (F_events : Fld Z h0 a1 "com/example/tracewarden/tracewarden/engine/SearchTuples" "events" "[Lcom/example/tracewarden/tracewarden/engine/SearchTuples$Event;" (.ref x_events)) (F_ranks : Fld Z h0 a1 "com/example/tracewarden/tracewarden/engine/SearchTuples" "ranks" "[I" (.ref x_ranks)) (F_slots : Fld Z h0 a1 "com/example/tracewarden/tracewarden/engine/SearchTuples" "slots" "[I" (.ref x_slots)) (F_ranked : Fld Z h0 a1 "com/example/tracewarden/tracewarden/engine/SearchTuples" "ranked" "[[I" (.ref x_ranked)) (F_reached : Fld Z h0 a1 "com/example/tracewarden/tracewarden/engine/SearchTuples" "reached" "[I" (.ref x_reached)) (F_budget : Fld Z h0 a1 "com/example/tracewarden/tracewarden/engine/SearchTuples" "budget" "Lcom/example/tracewarden/tracewarden/engine/SearchBudget;" (.ref ab)) (F_left : Fld Z h0 ab "com/example/tracewarden/tracewarden/engine/SearchBudget" "left" "J" (.long (3 : Int64))) (F_width : Fld Z h0 a1 "com/example/tracewarden/tracewarden/engine/SearchTuples" "width" "I" (.int (1 : Int32))) (F_size : Fld Z h0 a1 "com/example/tracewarden/tracewarden/engine/SearchTuples" "size" "I" (.int (1 : Int32))) (F_lowest : Fld Z h0 a1 "com/example/tracewarden/tracewarden/engine/SearchTuples" "lowest" "I" (.int (0 : Int32))) :
    MetFree l (⟨"com/example/tracewarden/tracewarden/engine/SearchTuples", "add", "([IILcom/example/tracewarden/tracewarden/engine/Zone;ILcom/example/tracewarden/tracewarden/engine/SearchTuples$Event;I)V"⟩ : MethodName) (head1 (Jvm.Cond.code (⟨"com/example/tracewarden/tracewarden/engine/SearchTuples", "add", "([IILcom/example/tracewarden/tracewarden/engine/Zone;ILcom/example/tracewarden/tracewarden/engine/SearchTuples$Event;I)V"⟩ : MethodName) prog_86_method_16_code 10 none :: ws) ({ frames := 1, cells := 0, slots := 0, locals := 40 } : Room)) (fun a U => a = #[(.ref a1), (.ref a2), (.int (-511900244 : Int32)), .null, (.int p5), (.ref a6), (.int (0 : Int32))] ∧ Z.Warmed39 U.vm ∧ U.heap = h0) (fun _ _ _ _ _ => True) (fun _ U o U' => ∃ v L, o = .returned v ∧ Q_rm9_1 Z a1 a2 p5 a6 ab x_states x_hashes x_zones x_sameStates x_held x_parents x_events x_ranks x_slots x_ranked x_rk0 x_reached k_states k_hashes k_zones k_sameStates k_held k_parents k_events k_ranks k_slots k_ranked k_rk0 k_reached f_states f_hashes f_zones f_sameStates f_held f_parents f_events f_ranks f_slots f_ranked f_rk0 f_reached kt ft h0 n0 v U'.heap L ∧ FrameEnd U o U' L ({ frames := 1, cells := 0, slots := 0, locals := 40 } : Room).cells ({ frames := 1, cells := 0, slots := 0, locals := 40 } : Room).slots) := by
  refine MetFree.of_bodySF (plainFor_of_name pn_95) hisR ?_
  intro p e s m args below meth c s₁ Bd hml0 hP hK
  obtain ⟨rfl, hZ, hh⟩ := hP
  have hx := Bd.exec
  have hby := Bd.bytes
  have hml : c.maxLocals = 10 := hml0
  have hown : s.vm.findClass "com/example/tracewarden/tracewarden/engine/SearchTuples" = some m.cls := findClass_of_methodNamed Bd.named
  have hnm := (name_of_methodNamed Bd.named Bd.method).1
  have X0 : Stand p l e ({ frames := 1, cells := 0, slots := 0, locals := 40 } : Room) s m #[(.ref a1), (.ref a2), (.int (-511900244 : Int32)), .null, (.int p5), (.ref a6), (.int (0 : Int32))] below meth c s₁ [] 0 0 := Stand.of_body Bd
  have e0 : s₁.heap = h0 := by rw [← hh, Bd.state]; rfl
  have N0 := Fr.nil n0
  show Go p e below (s₁.setTop (entryFrame m #[(.ref a1), (.ref a2), (.int (-511900244 : Int32)), .null, (.int p5), (.ref a6), (.int (0 : Int32))] 10)) (fun o U' => ∃ v L, o = .returned v ∧ Q_rm9_1 Z a1 a2 p5 a6 ab x_states x_hashes x_zones x_sameStates x_held x_parents x_events x_ranks x_slots x_ranked x_rk0 x_reached k_states k_hashes k_zones k_sameStates k_held k_parents k_events k_ranks k_slots k_ranked k_rk0 k_reached f_states f_hashes f_zones f_sameStates f_held f_parents f_events f_ranks f_slots f_ranked f_rk0 f_reached kt ft h0 n0 v U'.heap L ∧ FrameEnd s o U' L ({ frames := 1, cells := 0, slots := 0, locals := 40 } : Room).cells ({ frames := 1, cells := 0, slots := 0, locals := 40 } : Room).slots)
  rw [ef_rm9_1]
  refine Gk.aloadN X0 hx (hb hby d9_0) rfl rfl ?_
  refine Gk.getF X0 hx hZ hown (host := "") (Or.inl (hw _ (List.mem_of_getElem? (i := 61) rfl))) Via.refl e0 F_budget (hb hby d9_1) ?_
  intro T1 X1 e1
  refine Gk.callV (argsL := []) X1 hx hZ hown (rm10_1 l Z a0 hw [] ab h0 n0 Z0 E_ab F_left (Nat.le_trans g_a1 (Nat.le_of_lt lt0))) (hw _ (List.mem_of_getElem? (i := 91) rfl)) (hw _ (List.mem_of_getElem? (i := 92) rfl)) (notFace_of_selects (args := #[]) (mvT hZ (hw _ (List.mem_of_getElem? (i := 94) rfl)))) (hw _ (List.mem_of_getElem? (i := 94) rfl)) (hw _ (List.mem_of_getElem? (i := 93) rfl)) (by decide) (hw _ (List.mem_of_getElem? (i := 95) rfl)) (hw _ (List.mem_of_getElem? (i := 27) rfl)) e1 E_ab pd_0 rfl rfl (by decide) (Nat.le_of_ble_eq_true rfl) (by decide) (by decide) (by rw [hml]; rfl)  rfl (hb hby d9_4) ?_
  intro T2 L2 v2 X2 hQ2
  obtain ⟨rfl, N2q, K2, Fl2⟩ := hQ2
  have N2 := Fr.app N0 N2q
  show Go p e below (T2.setTop (mkF m 7 #[.val (.ref a1), .val (.ref a2), .val (.int (-511900244 : Int32)), .val .null, .val (.int p5), .val (.ref a6), .val (.int (0 : Int32)), .unset, .unset, .unset] [])) _
  refine Gk.aloadN X2 hx (hb hby d9_7) rfl rfl ?_
  refine Gk.aloadN X2 hx (hb hby d9_8) rfl rfl ?_
  refine Gk.iloadN X2 hx (hb hby d9_9) rfl ?_
  have ne4 : ab ≠ x_slots := (Nat.ne_of_lt (Nat.lt_trans lt1 (Nat.lt_trans lt2 (Nat.lt_trans lt3 (Nat.lt_trans lt4 (Nat.lt_trans lt5 (Nat.lt_trans lt6 (Nat.lt_trans lt7 (Nat.lt_trans lt8 lt9)))))))))
  have H5 := (V_slots.keep K2 (ninS (Ne.symm ne4) nin0))
  have H6 := (V_hashes.keep K2 (ninS (Ne.symm (Nat.ne_of_lt (Nat.lt_trans lt1 lt2))) nin0))
  have H7 := (F_slots.keep K2 (ninS (Nat.ne_of_lt lt0) nin0))
  have H8 := (F_hashes.keep K2 (ninS (Nat.ne_of_lt lt0) nin0))
  have H9 := (E_st.keep K2)
  refine Gk.callP (argsL := [(.ref a2), (.int (-511900244 : Int32))]) X2 hx hZ hown (rm11_1 l Z a0 hw [] a1 a2 x_slots k_slots f_slots x_hashes k_hashes f_hashes T2.heap n0 (Nat.le_trans Z0 K2.1) H5 H6 H7 H8 h_slots_12) (hw _ (List.mem_of_getElem? (i := 96) rfl)) (hw _ (List.mem_of_getElem? (i := 97) rfl)) (hw _ (List.mem_of_getElem? (i := 23) rfl)) (hw _ (List.mem_of_getElem? (i := 98) rfl)) (by decide) (hw _ (List.mem_of_getElem? (i := 99) rfl)) (hw _ (List.mem_of_getElem? (i := 24) rfl)) rfl H9 pd_3 rfl rfl (by decide) (Nat.le_of_ble_eq_true rfl) (by decide) (by decide) (by rw [hml]; rfl)  rfl (hb hby d9_10) ?_
  intro T3 L3 v3 X3 hQ3
  obtain ⟨rfl, N3q, e3⟩ := hQ3
  have N3 := Fr.app N2 N3q
  show Go p e below (T3.setTop (mkF m 13 #[.val (.ref a1), .val (.ref a2), .val (.int (-511900244 : Int32)), .val .null, .val (.int p5), .val (.ref a6), .val (.int (0 : Int32)), .unset, .unset, .unset] [(.int (-1 : Int32))])) _
  refine Gk.istore X3 hx (hb hby d9_13) #[.val (.ref a1), .val (.ref a2), .val (.int (-511900244 : Int32)), .val .null, .val (.int p5), .val (.ref a6), .val (.int (0 : Int32)), .val (.int (-1 : Int32)), .unset, .unset] rfl ?_
  refine Gk.aloadN X3 hx (hb hby d9_15) rfl rfl ?_
  refine Gk.iload X3 hx (hb hby d9_16) rfl ?_
  refine Gk.aloadN X3 hx (hb hby d9_18) rfl rfl ?_
  refine Gk.callP (argsL := [(.int (-1 : Int32)), .null]) X3 hx hZ hown (rm12 l Z a0 hw [] a1 T2.heap n0 (Nat.le_trans Z0 K2.1)) (hw _ (List.mem_of_getElem? (i := 100) rfl)) (hw _ (List.mem_of_getElem? (i := 101) rfl)) (hw _ (List.mem_of_getElem? (i := 23) rfl)) (hw _ (List.mem_of_getElem? (i := 102) rfl)) (by decide) (hw _ (List.mem_of_getElem? (i := 103) rfl)) (hw _ (List.mem_of_getElem? (i := 24) rfl)) e3 H9 pd_4 rfl rfl (by decide) (Nat.le_of_ble_eq_true rfl) (by decide) (by decide) (by rw [hml]; rfl)  rfl (hb hby d9_19) ?_
  intro T10 L10 v10 X10 hQ10
  obtain ⟨rfl, N10q, e10⟩ := hQ10
  have N10 := Fr.app N3 N10q
  show Go p e below (T10.setTop (mkF m 22 #[.val (.ref a1), .val (.ref a2), .val (.int (-511900244 : Int32)), .val .null, .val (.int p5), .val (.ref a6), .val (.int (0 : Int32)), .val (.int (-1 : Int32)), .unset, .unset] [])) _
  refine Gk.aloadN X10 hx (hb hby d9_22) rfl rfl ?_
  refine Gk.getF X10 hx hZ hown (host := "") (Or.inl (hw _ (List.mem_of_getElem? (i := 59) rfl))) Via.refl e10 H7 (hb hby d9_23) ?_
  intro T11 X11 e11
  refine Gk.alen X11 hx hZ e11 H5 (hb hby d9_26) ?_
  refine Gk.iconst X11 hx (hb hby d9_27) (1 : Int32) rfl ?_
  refine Gk.isub X11 hx (hb hby d9_28) (31 : Int32) (by decide) ?_
  refine Gk.istore X11 hx (hb hby d9_29) #[.val (.ref a1), .val (.ref a2), .val (.int (-511900244 : Int32)), .val .null, .val (.int p5), .val (.ref a6), .val (.int (0 : Int32)), .val (.int (-1 : Int32)), .val (.int (31 : Int32)), .unset] rfl ?_
  refine Gk.iloadN X11 hx (hb hby d9_31) rfl ?_
  refine Gk.iload X11 hx (hb hby d9_32) rfl ?_
  refine Gk.iand X11 hx (hb hby d9_34) (12 : Int32) (by decide) ?_
  refine Gk.istore X11 hx (hb hby d9_35) #[.val (.ref a1), .val (.ref a2), .val (.int (-511900244 : Int32)), .val .null, .val (.int p5), .val (.ref a6), .val (.int (0 : Int32)), .val (.int (-1 : Int32)), .val (.int (31 : Int32)), .val (.int (12 : Int32))] rfl ?_
  refine Gk.aloadN X11 hx (hb hby d9_37) rfl rfl ?_
  refine Gk.getF X11 hx hZ hown (host := "") (Or.inl (hw _ (List.mem_of_getElem? (i := 59) rfl))) Via.refl e11 H7 (hb hby d9_38) ?_
  intro T12 X12 e12
  refine Gk.iload X12 hx (hb hby d9_41) rfl ?_
  refine Gk.iaload X12 hx hZ e12 H5 ⟨by decide, by decide⟩ (.int (0 : Int32)) h_slots_12 (hb hby d9_43) ?_
  refine Gk.ifYes X12 hx (hb hby d9_44) (teq (by decide : (0 : Int32) = (0 : Int32))).1 73 (by decide) (by decide) ?_
  refine Gk.aloadN X12 hx (hb hby d9_73) rfl rfl ?_
  have H14 := (F_size.keep K2 (ninS (Nat.ne_of_lt lt0) nin0))
  refine Gk.getF X12 hx hZ hown (host := "") (Or.inl (hw _ (List.mem_of_getElem? (i := 104) rfl))) Via.refl e12 H14 (hb hby d9_74) ?_
  intro T15 X15 e15
  refine Gk.aloadN X15 hx (hb hby d9_77) rfl rfl ?_
  have H16 := (F_parents.keep K2 (ninS (Nat.ne_of_lt lt0) nin0))
  refine Gk.getF X15 hx hZ hown (host := "") (Or.inl (hw _ (List.mem_of_getElem? (i := 52) rfl))) Via.refl e15 H16 (hb hby d9_78) ?_
  intro T17 X17 e17
  have ne18 : ab ≠ x_parents := (Nat.ne_of_lt (Nat.lt_trans lt1 (Nat.lt_trans lt2 (Nat.lt_trans lt3 (Nat.lt_trans lt4 (Nat.lt_trans lt5 lt6))))))
  have H19 := (V_parents.keep K2 (ninS (Ne.symm ne18) nin0))
  refine Gk.alen X17 hx hZ e17 H19 (hb hby d9_81) ?_
  refine Gk.icmpYes X17 hx (hb hby d9_82) (feq (by decide : ¬ ((1 : Int32) = (16 : Int32)))).2 210 (by decide) (by decide) ?_
  refine Gk.aloadN X17 hx (hb hby d9_210) rfl rfl ?_
  refine Gk.getF X17 hx hZ hown (host := "") (Or.inl (hw _ (List.mem_of_getElem? (i := 104) rfl))) Via.refl e17 H14 (hb hby d9_211) ?_
  intro T20 X20 e20
  refine Gk.iconst X20 hx (hb hby d9_214) (1 : Int32) rfl ?_
  refine Gk.iadd X20 hx (hb hby d9_215) (2 : Int32) (by decide) ?_
  refine Gk.aloadN X20 hx (hb hby d9_216) rfl rfl ?_
  have H21 := (F_width.keep K2 (ninS (Nat.ne_of_lt lt0) nin0))
  refine Gk.getF X20 hx hZ hown (host := "") (Or.inl (hw _ (List.mem_of_getElem? (i := 63) rfl))) Via.refl e20 H21 (hb hby d9_217) ?_
  intro T22 X22 e22
  refine Gk.imul X22 hx (hb hby d9_220) (2 : Int32) (by decide) ?_
  refine Gk.aloadN X22 hx (hb hby d9_221) rfl rfl ?_
  have H23 := (F_states.keep K2 (ninS (Nat.ne_of_lt lt0) nin0))
  refine Gk.getF X22 hx hZ hown (host := "") (Or.inl (hw _ (List.mem_of_getElem? (i := 39) rfl))) Via.refl e22 H23 (hb hby d9_222) ?_
  intro T24 X24 e24
  have H25 := (V_states.keep K2 (ninS (Ne.symm (Nat.ne_of_lt lt1)) nin0))
  refine Gk.alen X24 hx hZ e24 H25 (hb hby d9_225) ?_
  refine Gk.icmpYes X24 hx (hb hby d9_226) (flt (by decide : ¬ ((64 : Int32) < (2 : Int32)))).2.2.2 261 (by decide) (by decide) ?_
  refine Gk.aloadN X24 hx (hb hby d9_261) rfl rfl ?_
  refine Gk.iconst X24 hx (hb hby d9_262) (0 : Int32) rfl ?_
  refine Gk.aloadN X24 hx (hb hby d9_263) rfl rfl ?_
  refine Gk.getF X24 hx hZ hown (host := "") (Or.inl (hw _ (List.mem_of_getElem? (i := 39) rfl))) Via.refl e24 H23 (hb hby d9_264) ?_
  intro T26 X26 e26
  refine Gk.aloadN X26 hx (hb hby d9_267) rfl rfl ?_
  refine Gk.getF X26 hx hZ hown (host := "") (Or.inl (hw _ (List.mem_of_getElem? (i := 104) rfl))) Via.refl e26 H14 (hb hby d9_268) ?_
  intro T27 X27 e27
  refine Gk.aloadN X27 hx (hb hby d9_271) rfl rfl ?_
  refine Gk.getF X27 hx hZ hown (host := "") (Or.inl (hw _ (List.mem_of_getElem? (i := 63) rfl))) Via.refl e27 H21 (hb hby d9_272) ?_
  intro T28 X28 e28
  refine Gk.imul X28 hx (hb hby d9_275) (1 : Int32) (by decide) ?_
  refine Gk.aloadN X28 hx (hb hby d9_276) rfl rfl ?_
  refine Gk.getF X28 hx hZ hown (host := "") (Or.inl (hw _ (List.mem_of_getElem? (i := 63) rfl))) Via.refl e28 H21 (hb hby d9_277) ?_
  intro T29 X29 e29
  have ne31 : ab ≠ a2 := (Nat.ne_of_lt (Nat.lt_trans lt1 (Nat.lt_trans lt2 (Nat.lt_trans lt3 (Nat.lt_trans lt4 (Nat.lt_trans lt5 (Nat.lt_trans lt6 (Nat.lt_trans lt7 (Nat.lt_trans lt8 (Nat.lt_trans lt9 (Nat.lt_trans lt10 (Nat.lt_trans lt11 (Nat.lt_trans lt12 lt13)))))))))))))
  have H32 := (V_t.keep K2 (ninS (Ne.symm ne31) nin0))
  refine Gk.copy X29 hx hZ hown (hw _ (List.mem_of_getElem? (i := 106) rfl)) (hw _ (List.mem_of_getElem? (i := 109) rfl)) (hw _ (List.mem_of_getElem? (i := 107) rfl)) (hw _ (List.mem_of_getElem? (i := 108) rfl)) e29 H32 H25 rfl (by decide) (by decide) (by decide) (by decide) (by decide) N10 (Nat.le_trans g_a1 (Nat.le_of_lt (Nat.lt_trans lt0 lt1))) (fun i => if 1 ≤ i ∧ i < 1 + 1 then ft (0 + (i - 1)) else f_states i) (fun _ _ => rfl) (by rw [hml]; rfl) (hb hby d9_280) (by decide) (Nat.le_of_ble_eq_true rfl) ?_
  intro T30 h30 L30 X30 e30 N30 K30 V30
  refine Gk.aloadN X30 hx (hb hby d9_283) rfl rfl ?_
  have H33 := (H8.keep K30 (ninS (Nat.ne_of_lt (Nat.lt_trans lt0 lt1)) nin0))
  refine Gk.getF X30 hx hZ hown (host := "") (Or.inl (hw _ (List.mem_of_getElem? (i := 41) rfl))) Via.refl e30 H33 (hb hby d9_284) ?_
  intro T34 X34 e34
  refine Gk.aloadN X34 hx (hb hby d9_287) rfl rfl ?_
  have H35 := (H14.keep K30 (ninS (Nat.ne_of_lt (Nat.lt_trans lt0 lt1)) nin0))
  refine Gk.getF X34 hx hZ hown (host := "") (Or.inl (hw _ (List.mem_of_getElem? (i := 104) rfl))) Via.refl e34 H35 (hb hby d9_288) ?_
  intro T36 X36 e36
  refine Gk.iloadN X36 hx (hb hby d9_291) rfl ?_
  have H38 := (H6.keep K30 (ninS (Ne.symm (Nat.ne_of_lt lt2)) nin0))
  refine Gk.iastore X36 hx hZ e36 H38 1 rfl ⟨by decide, by decide⟩ (.int (-511900244 : Int32)) rfl (hb hby d9_292) ?_
  intro T37 h37 X37 e37 W37 V37
  have N37 := Fr.snoc X37 N30 (Nat.le_trans g_a1 (Nat.le_of_lt (Nat.lt_trans lt0 (Nat.lt_trans lt1 lt2))))
  refine Gk.aloadN X37 hx (hb hby d9_293) rfl rfl ?_
  have ne39 : a1 ≠ x_hashes := (Nat.ne_of_lt (Nat.lt_trans lt0 (Nat.lt_trans lt1 lt2)))
  have H40 := (((F_zones.keep K2 (ninS (Nat.ne_of_lt lt0) nin0)).keep K30 (ninS (Nat.ne_of_lt (Nat.lt_trans lt0 lt1)) nin0)).other W37 (Or.inl ne39))
  refine Gk.getF X37 hx hZ hown (host := "") (Or.inl (hw _ (List.mem_of_getElem? (i := 45) rfl))) Via.refl e37 H40 (hb hby d9_294) ?_
  intro T41 X41 e41
  refine Gk.aloadN X41 hx (hb hby d9_297) rfl rfl ?_
  have H42 := (H35.other W37 (Or.inl ne39))
  refine Gk.getF X41 hx hZ hown (host := "") (Or.inl (hw _ (List.mem_of_getElem? (i := 104) rfl))) Via.refl e41 H42 (hb hby d9_298) ?_
  intro T43 X43 e43
  refine Gk.aloadN X43 hx (hb hby d9_301) rfl rfl ?_
  have ne45 : ab ≠ x_zones := (Nat.ne_of_lt (Nat.lt_trans lt1 (Nat.lt_trans lt2 lt3)))
  have H46 := (((V_zones.keep K2 (ninS (Ne.symm ne45) nin0)).keep K30 (ninS (Ne.symm (Nat.ne_of_lt (Nat.lt_trans lt2 lt3))) nin0)).other W37 (Ne.symm (Nat.ne_of_lt lt3)))
  refine Gk.aastore X43 hx hZ e43 H46 1 rfl ⟨by decide, by decide⟩ rfl rfl (Or.inl rfl) (hb hby d9_302) ?_
  intro T44 h44 X44 e44 W44 V44
  have N44 := Fr.snoc X44 N37 (Nat.le_trans g_a1 (Nat.le_of_lt (Nat.lt_trans lt0 (Nat.lt_trans lt1 (Nat.lt_trans lt2 lt3)))))
  refine Gk.aloadN X44 hx (hb hby d9_303) rfl rfl ?_
  have ne47 : a1 ≠ x_zones := (Nat.ne_of_lt (Nat.lt_trans lt0 (Nat.lt_trans lt1 (Nat.lt_trans lt2 lt3))))
  have H48 := ((((F_held.keep K2 (ninS (Nat.ne_of_lt lt0) nin0)).keep K30 (ninS (Nat.ne_of_lt (Nat.lt_trans lt0 lt1)) nin0)).other W37 (Or.inl ne39)).other W44 (Or.inl ne47))
  refine Gk.getF X44 hx hZ hown (host := "") (Or.inl (hw _ (List.mem_of_getElem? (i := 50) rfl))) Via.refl e44 H48 (hb hby d9_304) ?_
  intro T49 X49 e49
  refine Gk.aloadN X49 hx (hb hby d9_307) rfl rfl ?_
  have H50 := (H42.other W44 (Or.inl ne47))
  refine Gk.getF X49 hx hZ hown (host := "") (Or.inl (hw _ (List.mem_of_getElem? (i := 104) rfl))) Via.refl e49 H50 (hb hby d9_308) ?_
  intro T51 X51 e51
  refine Gk.iconst X51 hx (hb hby d9_311) (0 : Int32) rfl ?_
  have ne53 : ab ≠ x_held := (Nat.ne_of_lt (Nat.lt_trans lt1 (Nat.lt_trans lt2 (Nat.lt_trans lt3 (Nat.lt_trans lt4 lt5)))))
  have ne54 : x_states ≠ x_held := (Nat.ne_of_lt (Nat.lt_trans lt2 (Nat.lt_trans lt3 (Nat.lt_trans lt4 lt5))))
  have ne55 : x_hashes ≠ x_held := (Nat.ne_of_lt (Nat.lt_trans lt3 (Nat.lt_trans lt4 lt5)))
  have H56 := ((((V_held.keep K2 (ninS (Ne.symm ne53) nin0)).keep K30 (ninS (Ne.symm ne54) nin0)).other W37 (Ne.symm ne55)).other W44 (Ne.symm (Nat.ne_of_lt (Nat.lt_trans lt4 lt5))))
  refine Gk.bastoreZ X51 hx hZ e51 H56 1 rfl ⟨by decide, by decide⟩ (.int (0 : Int32)) rfl (hb hby d9_312) ?_
  intro T52 h52 X52 e52 W52 V52
  have N52 := Fr.snoc X52 N44 (Nat.le_trans g_a1 (Nat.le_of_lt (Nat.lt_trans lt0 (Nat.lt_trans lt1 (Nat.lt_trans lt2 (Nat.lt_trans lt3 (Nat.lt_trans lt4 lt5)))))))
  refine Gk.aloadN X52 hx (hb hby d9_313) rfl rfl ?_
  have ne57 : a1 ≠ x_held := (Nat.ne_of_lt (Nat.lt_trans lt0 (Nat.lt_trans lt1 (Nat.lt_trans lt2 (Nat.lt_trans lt3 (Nat.lt_trans lt4 lt5))))))
  have H58 := (((((F_sameStates.keep K2 (ninS (Nat.ne_of_lt lt0) nin0)).keep K30 (ninS (Nat.ne_of_lt (Nat.lt_trans lt0 lt1)) nin0)).other W37 (Or.inl ne39)).other W44 (Or.inl ne47)).other W52 (Or.inl ne57))
  refine Gk.getF X52 hx hZ hown (host := "") (Or.inl (hw _ (List.mem_of_getElem? (i := 47) rfl))) Via.refl e52 H58 (hb hby d9_314) ?_
  intro T59 X59 e59
  refine Gk.aloadN X59 hx (hb hby d9_317) rfl rfl ?_
  have H60 := (H50.other W52 (Or.inl ne57))
  refine Gk.getF X59 hx hZ hown (host := "") (Or.inl (hw _ (List.mem_of_getElem? (i := 104) rfl))) Via.refl e59 H60 (hb hby d9_318) ?_
  intro T61 X61 e61
  refine Gk.iload X61 hx (hb hby d9_321) rfl ?_
  have ne63 : ab ≠ x_sameStates := (Nat.ne_of_lt (Nat.lt_trans lt1 (Nat.lt_trans lt2 (Nat.lt_trans lt3 lt4))))
  have ne64 : x_states ≠ x_sameStates := (Nat.ne_of_lt (Nat.lt_trans lt2 (Nat.lt_trans lt3 lt4)))
  have H65 := (((((V_sameStates.keep K2 (ninS (Ne.symm ne63) nin0)).keep K30 (ninS (Ne.symm ne64) nin0)).other W37 (Ne.symm (Nat.ne_of_lt (Nat.lt_trans lt3 lt4)))).other W44 (Ne.symm (Nat.ne_of_lt lt4))).other W52 (Nat.ne_of_lt lt5))
  refine Gk.iastore X61 hx hZ e61 H65 1 rfl ⟨by decide, by decide⟩ (.int (-1 : Int32)) rfl (hb hby d9_323) ?_
  intro T62 h62 X62 e62 W62 V62
  have N62 := Fr.snoc X62 N52 (Nat.le_trans g_a1 (Nat.le_of_lt (Nat.lt_trans lt0 (Nat.lt_trans lt1 (Nat.lt_trans lt2 (Nat.lt_trans lt3 lt4))))))
  refine Gk.aloadN X62 hx (hb hby d9_324) rfl rfl ?_
  have ne66 : a1 ≠ x_sameStates := (Nat.ne_of_lt (Nat.lt_trans lt0 (Nat.lt_trans lt1 (Nat.lt_trans lt2 (Nat.lt_trans lt3 lt4)))))
  have H67 := (((((H16.keep K30 (ninS (Nat.ne_of_lt (Nat.lt_trans lt0 lt1)) nin0)).other W37 (Or.inl ne39)).other W44 (Or.inl ne47)).other W52 (Or.inl ne57)).other W62 (Or.inl ne66))
  refine Gk.getF X62 hx hZ hown (host := "") (Or.inl (hw _ (List.mem_of_getElem? (i := 52) rfl))) Via.refl e62 H67 (hb hby d9_325) ?_
  intro T68 X68 e68
  refine Gk.aloadN X68 hx (hb hby d9_328) rfl rfl ?_
  have H69 := (H60.other W62 (Or.inl ne66))
  refine Gk.getF X68 hx hZ hown (host := "") (Or.inl (hw _ (List.mem_of_getElem? (i := 104) rfl))) Via.refl e68 H69 (hb hby d9_329) ?_
  intro T70 X70 e70
  refine Gk.iload X70 hx (hb hby d9_332) rfl ?_
  have ne72 : x_states ≠ x_parents := (Nat.ne_of_lt (Nat.lt_trans lt2 (Nat.lt_trans lt3 (Nat.lt_trans lt4 (Nat.lt_trans lt5 lt6)))))
  have ne73 : x_hashes ≠ x_parents := (Nat.ne_of_lt (Nat.lt_trans lt3 (Nat.lt_trans lt4 (Nat.lt_trans lt5 lt6))))
  have ne74 : x_zones ≠ x_parents := (Nat.ne_of_lt (Nat.lt_trans lt4 (Nat.lt_trans lt5 lt6)))
  have H75 := (((((H19.keep K30 (ninS (Ne.symm ne72) nin0)).other W37 (Ne.symm ne73)).other W44 (Ne.symm ne74)).other W52 (Ne.symm (Nat.ne_of_lt lt6))).other W62 (Ne.symm (Nat.ne_of_lt (Nat.lt_trans lt5 lt6))))
  refine Gk.iastore X70 hx hZ e70 H75 1 rfl ⟨by decide, by decide⟩ (.int p5) rfl (hb hby d9_334) ?_
  intro T71 h71 X71 e71 W71 V71
  have N71 := Fr.snoc X71 N62 (Nat.le_trans g_a1 (Nat.le_of_lt (Nat.lt_trans lt0 (Nat.lt_trans lt1 (Nat.lt_trans lt2 (Nat.lt_trans lt3 (Nat.lt_trans lt4 (Nat.lt_trans lt5 lt6))))))))
  refine Gk.aloadN X71 hx (hb hby d9_335) rfl rfl ?_
  have ne76 : a1 ≠ x_parents := (Nat.ne_of_lt (Nat.lt_trans lt0 (Nat.lt_trans lt1 (Nat.lt_trans lt2 (Nat.lt_trans lt3 (Nat.lt_trans lt4 (Nat.lt_trans lt5 lt6)))))))
  have H77 := (((((((F_events.keep K2 (ninS (Nat.ne_of_lt lt0) nin0)).keep K30 (ninS (Nat.ne_of_lt (Nat.lt_trans lt0 lt1)) nin0)).other W37 (Or.inl ne39)).other W44 (Or.inl ne47)).other W52 (Or.inl ne57)).other W62 (Or.inl ne66)).other W71 (Or.inl ne76))
  refine Gk.getF X71 hx hZ hown (host := "") (Or.inl (hw _ (List.mem_of_getElem? (i := 55) rfl))) Via.refl e71 H77 (hb hby d9_336) ?_
  intro T78 X78 e78
  refine Gk.aloadN X78 hx (hb hby d9_339) rfl rfl ?_
  have H79 := (H69.other W71 (Or.inl ne76))
  refine Gk.getF X78 hx hZ hown (host := "") (Or.inl (hw _ (List.mem_of_getElem? (i := 104) rfl))) Via.refl e78 H79 (hb hby d9_340) ?_
  intro T80 X80 e80
  refine Gk.aload X80 hx (hb hby d9_343) rfl rfl ?_
  have ne82 : ab ≠ x_events := (Nat.ne_of_lt (Nat.lt_trans lt1 (Nat.lt_trans lt2 (Nat.lt_trans lt3 (Nat.lt_trans lt4 (Nat.lt_trans lt5 (Nat.lt_trans lt6 lt7)))))))
  have ne83 : x_states ≠ x_events := (Nat.ne_of_lt (Nat.lt_trans lt2 (Nat.lt_trans lt3 (Nat.lt_trans lt4 (Nat.lt_trans lt5 (Nat.lt_trans lt6 lt7))))))
  have ne84 : x_hashes ≠ x_events := (Nat.ne_of_lt (Nat.lt_trans lt3 (Nat.lt_trans lt4 (Nat.lt_trans lt5 (Nat.lt_trans lt6 lt7)))))
  have ne85 : x_zones ≠ x_events := (Nat.ne_of_lt (Nat.lt_trans lt4 (Nat.lt_trans lt5 (Nat.lt_trans lt6 lt7))))
  have ne86 : x_sameStates ≠ x_events := (Nat.ne_of_lt (Nat.lt_trans lt5 (Nat.lt_trans lt6 lt7)))
  have H87 := (((((((V_events.keep K2 (ninS (Ne.symm ne82) nin0)).keep K30 (ninS (Ne.symm ne83) nin0)).other W37 (Ne.symm ne84)).other W44 (Ne.symm ne85)).other W52 (Ne.symm (Nat.ne_of_lt (Nat.lt_trans lt6 lt7)))).other W62 (Ne.symm ne86)).other W71 (Ne.symm (Nat.ne_of_lt lt7)))
  have H88 := (((((((E_ev.keep K2).keep K30).wr W37).wr W44).wr W52).wr W62).wr W71)
  refine Gk.aastore X80 hx hZ e80 H87 1 rfl ⟨by decide, by decide⟩ rfl rfl (Or.inr ⟨_, _, rfl, O_ev, Ins.self H88⟩) (hb hby d9_345) ?_
  intro T81 h81 X81 e81 W81 V81
  have N81 := Fr.snoc X81 N71 (Nat.le_trans g_a1 (Nat.le_of_lt (Nat.lt_trans lt0 (Nat.lt_trans lt1 (Nat.lt_trans lt2 (Nat.lt_trans lt3 (Nat.lt_trans lt4 (Nat.lt_trans lt5 (Nat.lt_trans lt6 lt7)))))))))
  refine Gk.aloadN X81 hx (hb hby d9_346) rfl rfl ?_
  have ne89 : a1 ≠ x_events := (Nat.ne_of_lt (Nat.lt_trans lt0 (Nat.lt_trans lt1 (Nat.lt_trans lt2 (Nat.lt_trans lt3 (Nat.lt_trans lt4 (Nat.lt_trans lt5 (Nat.lt_trans lt6 lt7))))))))
  have H90 := ((((((((F_ranks.keep K2 (ninS (Nat.ne_of_lt lt0) nin0)).keep K30 (ninS (Nat.ne_of_lt (Nat.lt_trans lt0 lt1)) nin0)).other W37 (Or.inl ne39)).other W44 (Or.inl ne47)).other W52 (Or.inl ne57)).other W62 (Or.inl ne66)).other W71 (Or.inl ne76)).other W81 (Or.inl ne89))
  refine Gk.getF X81 hx hZ hown (host := "") (Or.inl (hw _ (List.mem_of_getElem? (i := 57) rfl))) Via.refl e81 H90 (hb hby d9_347) ?_
  intro T91 X91 e91
  refine Gk.aloadN X91 hx (hb hby d9_350) rfl rfl ?_
  have H92 := (H79.other W81 (Or.inl ne89))
  refine Gk.getF X91 hx hZ hown (host := "") (Or.inl (hw _ (List.mem_of_getElem? (i := 104) rfl))) Via.refl e91 H92 (hb hby d9_351) ?_
  intro T93 X93 e93
  refine Gk.iload X93 hx (hb hby d9_354) rfl ?_
  have ne95 : ab ≠ x_ranks := (Nat.ne_of_lt (Nat.lt_trans lt1 (Nat.lt_trans lt2 (Nat.lt_trans lt3 (Nat.lt_trans lt4 (Nat.lt_trans lt5 (Nat.lt_trans lt6 (Nat.lt_trans lt7 lt8))))))))
  have ne96 : x_states ≠ x_ranks := (Nat.ne_of_lt (Nat.lt_trans lt2 (Nat.lt_trans lt3 (Nat.lt_trans lt4 (Nat.lt_trans lt5 (Nat.lt_trans lt6 (Nat.lt_trans lt7 lt8)))))))
  have ne97 : x_hashes ≠ x_ranks := (Nat.ne_of_lt (Nat.lt_trans lt3 (Nat.lt_trans lt4 (Nat.lt_trans lt5 (Nat.lt_trans lt6 (Nat.lt_trans lt7 lt8))))))
  have ne98 : x_zones ≠ x_ranks := (Nat.ne_of_lt (Nat.lt_trans lt4 (Nat.lt_trans lt5 (Nat.lt_trans lt6 (Nat.lt_trans lt7 lt8)))))
  have ne99 : x_held ≠ x_ranks := (Nat.ne_of_lt (Nat.lt_trans lt6 (Nat.lt_trans lt7 lt8)))
  have ne100 : x_sameStates ≠ x_ranks := (Nat.ne_of_lt (Nat.lt_trans lt5 (Nat.lt_trans lt6 (Nat.lt_trans lt7 lt8))))
  have H101 := ((((((((V_ranks.keep K2 (ninS (Ne.symm ne95) nin0)).keep K30 (ninS (Ne.symm ne96) nin0)).other W37 (Ne.symm ne97)).other W44 (Ne.symm ne98)).other W52 (Ne.symm ne99)).other W62 (Ne.symm ne100)).other W71 (Ne.symm (Nat.ne_of_lt (Nat.lt_trans lt7 lt8)))).other W81 (Ne.symm (Nat.ne_of_lt lt8)))
  refine Gk.iastore X93 hx hZ e93 H101 1 rfl ⟨by decide, by decide⟩ (.int (0 : Int32)) rfl (hb hby d9_356) ?_
  intro T94 h94 X94 e94 W94 V94
  have N94 := Fr.snoc X94 N81 (Nat.le_trans g_a1 (Nat.le_of_lt (Nat.lt_trans lt0 (Nat.lt_trans lt1 (Nat.lt_trans lt2 (Nat.lt_trans lt3 (Nat.lt_trans lt4 (Nat.lt_trans lt5 (Nat.lt_trans lt6 (Nat.lt_trans lt7 lt8))))))))))
  refine Gk.aloadN X94 hx (hb hby d9_357) rfl rfl ?_
  have ne102 : a1 ≠ x_ranks := (Nat.ne_of_lt (Nat.lt_trans lt0 (Nat.lt_trans lt1 (Nat.lt_trans lt2 (Nat.lt_trans lt3 (Nat.lt_trans lt4 (Nat.lt_trans lt5 (Nat.lt_trans lt6 (Nat.lt_trans lt7 lt8)))))))))
  have H103 := (((((((((F_reached.keep K2 (ninS (Nat.ne_of_lt lt0) nin0)).keep K30 (ninS (Nat.ne_of_lt (Nat.lt_trans lt0 lt1)) nin0)).other W37 (Or.inl ne39)).other W44 (Or.inl ne47)).other W52 (Or.inl ne57)).other W62 (Or.inl ne66)).other W71 (Or.inl ne76)).other W81 (Or.inl ne89)).other W94 (Or.inl ne102))
  refine Gk.getF X94 hx hZ hown (host := "") (Or.inl (hw _ (List.mem_of_getElem? (i := 69) rfl))) Via.refl e94 H103 (hb hby d9_358) ?_
  intro T104 X104 e104
  refine Gk.iload X104 hx (hb hby d9_361) rfl ?_
  have ne106 : ab ≠ x_reached := (Nat.ne_of_lt (Nat.lt_trans lt1 (Nat.lt_trans lt2 (Nat.lt_trans lt3 (Nat.lt_trans lt4 (Nat.lt_trans lt5 (Nat.lt_trans lt6 (Nat.lt_trans lt7 (Nat.lt_trans lt8 (Nat.lt_trans lt9 (Nat.lt_trans lt10 (Nat.lt_trans lt11 lt12))))))))))))
  have ne107 : x_states ≠ x_reached := (Nat.ne_of_lt (Nat.lt_trans lt2 (Nat.lt_trans lt3 (Nat.lt_trans lt4 (Nat.lt_trans lt5 (Nat.lt_trans lt6 (Nat.lt_trans lt7 (Nat.lt_trans lt8 (Nat.lt_trans lt9 (Nat.lt_trans lt10 (Nat.lt_trans lt11 lt12)))))))))))
  have ne108 : x_hashes ≠ x_reached := (Nat.ne_of_lt (Nat.lt_trans lt3 (Nat.lt_trans lt4 (Nat.lt_trans lt5 (Nat.lt_trans lt6 (Nat.lt_trans lt7 (Nat.lt_trans lt8 (Nat.lt_trans lt9 (Nat.lt_trans lt10 (Nat.lt_trans lt11 lt12))))))))))
  have ne109 : x_zones ≠ x_reached := (Nat.ne_of_lt (Nat.lt_trans lt4 (Nat.lt_trans lt5 (Nat.lt_trans lt6 (Nat.lt_trans lt7 (Nat.lt_trans lt8 (Nat.lt_trans lt9 (Nat.lt_trans lt10 (Nat.lt_trans lt11 lt12)))))))))
  have ne110 : x_held ≠ x_reached := (Nat.ne_of_lt (Nat.lt_trans lt6 (Nat.lt_trans lt7 (Nat.lt_trans lt8 (Nat.lt_trans lt9 (Nat.lt_trans lt10 (Nat.lt_trans lt11 lt12)))))))
  have ne111 : x_sameStates ≠ x_reached := (Nat.ne_of_lt (Nat.lt_trans lt5 (Nat.lt_trans lt6 (Nat.lt_trans lt7 (Nat.lt_trans lt8 (Nat.lt_trans lt9 (Nat.lt_trans lt10 (Nat.lt_trans lt11 lt12))))))))
  have ne112 : x_parents ≠ x_reached := (Nat.ne_of_lt (Nat.lt_trans lt7 (Nat.lt_trans lt8 (Nat.lt_trans lt9 (Nat.lt_trans lt10 (Nat.lt_trans lt11 lt12))))))
  have ne113 : x_events ≠ x_reached := (Nat.ne_of_lt (Nat.lt_trans lt8 (Nat.lt_trans lt9 (Nat.lt_trans lt10 (Nat.lt_trans lt11 lt12)))))
  have ne114 : x_ranks ≠ x_reached := (Nat.ne_of_lt (Nat.lt_trans lt9 (Nat.lt_trans lt10 (Nat.lt_trans lt11 lt12))))
  have H115 := (((((((((V_reached.keep K2 (ninS (Ne.symm ne106) nin0)).keep K30 (ninS (Ne.symm ne107) nin0)).other W37 (Ne.symm ne108)).other W44 (Ne.symm ne109)).other W52 (Ne.symm ne110)).other W62 (Ne.symm ne111)).other W71 (Ne.symm ne112)).other W81 (Ne.symm ne113)).other W94 (Ne.symm ne114))
  refine Gk.iaload X104 hx hZ e104 H115 ⟨by decide, by decide⟩ (.int (1 : Int32)) h_reached_0 (hb hby d9_363) ?_
  refine Gk.aloadN X104 hx (hb hby d9_364) rfl rfl ?_
  have H116 := (((((((((F_ranked.keep K2 (ninS (Nat.ne_of_lt lt0) nin0)).keep K30 (ninS (Nat.ne_of_lt (Nat.lt_trans lt0 lt1)) nin0)).other W37 (Or.inl ne39)).other W44 (Or.inl ne47)).other W52 (Or.inl ne57)).other W62 (Or.inl ne66)).other W71 (Or.inl ne76)).other W81 (Or.inl ne89)).other W94 (Or.inl ne102))
  refine Gk.getF X104 hx hZ hown (host := "") (Or.inl (hw _ (List.mem_of_getElem? (i := 67) rfl))) Via.refl e104 H116 (hb hby d9_365) ?_
  intro T117 X117 e117
  refine Gk.iload X117 hx (hb hby d9_368) rfl ?_
  have ne119 : ab ≠ x_ranked := (Nat.ne_of_lt (Nat.lt_trans lt1 (Nat.lt_trans lt2 (Nat.lt_trans lt3 (Nat.lt_trans lt4 (Nat.lt_trans lt5 (Nat.lt_trans lt6 (Nat.lt_trans lt7 (Nat.lt_trans lt8 (Nat.lt_trans lt9 lt10))))))))))
  have ne120 : x_states ≠ x_ranked := (Nat.ne_of_lt (Nat.lt_trans lt2 (Nat.lt_trans lt3 (Nat.lt_trans lt4 (Nat.lt_trans lt5 (Nat.lt_trans lt6 (Nat.lt_trans lt7 (Nat.lt_trans lt8 (Nat.lt_trans lt9 lt10)))))))))
  have ne121 : x_hashes ≠ x_ranked := (Nat.ne_of_lt (Nat.lt_trans lt3 (Nat.lt_trans lt4 (Nat.lt_trans lt5 (Nat.lt_trans lt6 (Nat.lt_trans lt7 (Nat.lt_trans lt8 (Nat.lt_trans lt9 lt10))))))))
  have ne122 : x_zones ≠ x_ranked := (Nat.ne_of_lt (Nat.lt_trans lt4 (Nat.lt_trans lt5 (Nat.lt_trans lt6 (Nat.lt_trans lt7 (Nat.lt_trans lt8 (Nat.lt_trans lt9 lt10)))))))
  have ne123 : x_held ≠ x_ranked := (Nat.ne_of_lt (Nat.lt_trans lt6 (Nat.lt_trans lt7 (Nat.lt_trans lt8 (Nat.lt_trans lt9 lt10)))))
  have ne124 : x_sameStates ≠ x_ranked := (Nat.ne_of_lt (Nat.lt_trans lt5 (Nat.lt_trans lt6 (Nat.lt_trans lt7 (Nat.lt_trans lt8 (Nat.lt_trans lt9 lt10))))))
  have ne125 : x_parents ≠ x_ranked := (Nat.ne_of_lt (Nat.lt_trans lt7 (Nat.lt_trans lt8 (Nat.lt_trans lt9 lt10))))
  have ne126 : x_events ≠ x_ranked := (Nat.ne_of_lt (Nat.lt_trans lt8 (Nat.lt_trans lt9 lt10)))
  have H127 := (((((((((V_ranked.keep K2 (ninS (Ne.symm ne119) nin0)).keep K30 (ninS (Ne.symm ne120) nin0)).other W37 (Ne.symm ne121)).other W44 (Ne.symm ne122)).other W52 (Ne.symm ne123)).other W62 (Ne.symm ne124)).other W71 (Ne.symm ne125)).other W81 (Ne.symm ne126)).other W94 (Ne.symm (Nat.ne_of_lt (Nat.lt_trans lt9 lt10))))
  refine Gk.aaload X117 hx hZ e117 H127 rfl ⟨by decide, by decide⟩ (.ref x_rk0) h_ranked_0 (hb hby d9_370) ?_
  have ne128 : ab ≠ x_rk0 := (Nat.ne_of_lt (Nat.lt_trans lt1 (Nat.lt_trans lt2 (Nat.lt_trans lt3 (Nat.lt_trans lt4 (Nat.lt_trans lt5 (Nat.lt_trans lt6 (Nat.lt_trans lt7 (Nat.lt_trans lt8 (Nat.lt_trans lt9 (Nat.lt_trans lt10 lt11)))))))))))
  have ne129 : x_states ≠ x_rk0 := (Nat.ne_of_lt (Nat.lt_trans lt2 (Nat.lt_trans lt3 (Nat.lt_trans lt4 (Nat.lt_trans lt5 (Nat.lt_trans lt6 (Nat.lt_trans lt7 (Nat.lt_trans lt8 (Nat.lt_trans lt9 (Nat.lt_trans lt10 lt11))))))))))
  have ne130 : x_hashes ≠ x_rk0 := (Nat.ne_of_lt (Nat.lt_trans lt3 (Nat.lt_trans lt4 (Nat.lt_trans lt5 (Nat.lt_trans lt6 (Nat.lt_trans lt7 (Nat.lt_trans lt8 (Nat.lt_trans lt9 (Nat.lt_trans lt10 lt11)))))))))
  have ne131 : x_zones ≠ x_rk0 := (Nat.ne_of_lt (Nat.lt_trans lt4 (Nat.lt_trans lt5 (Nat.lt_trans lt6 (Nat.lt_trans lt7 (Nat.lt_trans lt8 (Nat.lt_trans lt9 (Nat.lt_trans lt10 lt11))))))))
  have ne132 : x_held ≠ x_rk0 := (Nat.ne_of_lt (Nat.lt_trans lt6 (Nat.lt_trans lt7 (Nat.lt_trans lt8 (Nat.lt_trans lt9 (Nat.lt_trans lt10 lt11))))))
  have ne133 : x_sameStates ≠ x_rk0 := (Nat.ne_of_lt (Nat.lt_trans lt5 (Nat.lt_trans lt6 (Nat.lt_trans lt7 (Nat.lt_trans lt8 (Nat.lt_trans lt9 (Nat.lt_trans lt10 lt11)))))))
  have ne134 : x_parents ≠ x_rk0 := (Nat.ne_of_lt (Nat.lt_trans lt7 (Nat.lt_trans lt8 (Nat.lt_trans lt9 (Nat.lt_trans lt10 lt11)))))
  have ne135 : x_events ≠ x_rk0 := (Nat.ne_of_lt (Nat.lt_trans lt8 (Nat.lt_trans lt9 (Nat.lt_trans lt10 lt11))))
  have ne136 : x_ranks ≠ x_rk0 := (Nat.ne_of_lt (Nat.lt_trans lt9 (Nat.lt_trans lt10 lt11)))
  have H137 := (((((((((V_rk0.keep K2 (ninS (Ne.symm ne128) nin0)).keep K30 (ninS (Ne.symm ne129) nin0)).other W37 (Ne.symm ne130)).other W44 (Ne.symm ne131)).other W52 (Ne.symm ne132)).other W62 (Ne.symm ne133)).other W71 (Ne.symm ne134)).other W81 (Ne.symm ne135)).other W94 (Ne.symm ne136))
  refine Gk.alen X117 hx hZ e117 H137 (hb hby d9_371) ?_
  refine Gk.icmpYes X117 hx (hb hby d9_372) (feq (by decide : ¬ ((1 : Int32) = (8 : Int32)))).2 401 (by decide) (by decide) ?_
  refine Gk.aloadN X117 hx (hb hby d9_401) rfl rfl ?_
  refine Gk.getF X117 hx hZ hown (host := "") (Or.inl (hw _ (List.mem_of_getElem? (i := 67) rfl))) Via.refl e117 H116 (hb hby d9_402) ?_
  intro T138 X138 e138
  refine Gk.iload X138 hx (hb hby d9_405) rfl ?_
  refine Gk.aaload X138 hx hZ e138 H127 rfl ⟨by decide, by decide⟩ (.ref x_rk0) h_ranked_0 (hb hby d9_407) ?_
  refine Gk.aloadN X138 hx (hb hby d9_408) rfl rfl ?_
  refine Gk.getF X138 hx hZ hown (host := "") (Or.inl (hw _ (List.mem_of_getElem? (i := 69) rfl))) Via.refl e138 H103 (hb hby d9_409) ?_
  intro T140 X140 e140
  refine Gk.iload X140 hx (hb hby d9_412) rfl ?_
  refine Gk.dup2 X140 hx (hb hby d9_414) rfl rfl ?_
  refine Gk.iaload X140 hx hZ e140 H115 ⟨by decide, by decide⟩ (.int (1 : Int32)) h_reached_0 (hb hby d9_415) ?_
  refine Gk.dupX2 X140 hx (hb hby d9_416) rfl rfl rfl ?_
  refine Gk.iconst X140 hx (hb hby d9_417) (1 : Int32) rfl ?_
  refine Gk.iadd X140 hx (hb hby d9_418) (2 : Int32) (by decide) ?_
  refine Gk.iastore X140 hx hZ e140 H115 0 rfl ⟨by decide, by decide⟩ (.int (2 : Int32)) rfl (hb hby d9_419) ?_
  intro T142 h142 X142 e142 W142 V142
  have N142 := Fr.snoc X142 N94 (Nat.le_trans g_a1 (Nat.le_of_lt (Nat.lt_trans lt0 (Nat.lt_trans lt1 (Nat.lt_trans lt2 (Nat.lt_trans lt3 (Nat.lt_trans lt4 (Nat.lt_trans lt5 (Nat.lt_trans lt6 (Nat.lt_trans lt7 (Nat.lt_trans lt8 (Nat.lt_trans lt9 (Nat.lt_trans lt10 (Nat.lt_trans lt11 lt12))))))))))))))
  refine Gk.aloadN X142 hx (hb hby d9_420) rfl rfl ?_
  have ne143 : a1 ≠ x_reached := (Nat.ne_of_lt (Nat.lt_trans lt0 (Nat.lt_trans lt1 (Nat.lt_trans lt2 (Nat.lt_trans lt3 (Nat.lt_trans lt4 (Nat.lt_trans lt5 (Nat.lt_trans lt6 (Nat.lt_trans lt7 (Nat.lt_trans lt8 (Nat.lt_trans lt9 (Nat.lt_trans lt10 (Nat.lt_trans lt11 lt12)))))))))))))
  have H144 := ((H92.other W94 (Or.inl ne102)).other W142 (Or.inl ne143))
  refine Gk.getF X142 hx hZ hown (host := "") (Or.inl (hw _ (List.mem_of_getElem? (i := 104) rfl))) Via.refl e142 H144 (hb hby d9_421) ?_
  intro T145 X145 e145
  have H147 := (H137.other W142 (Nat.ne_of_lt lt12))
  refine Gk.iastore X145 hx hZ e145 H147 1 rfl ⟨by decide, by decide⟩ (.int (1 : Int32)) rfl (hb hby d9_424) ?_
  intro T146 h146 X146 e146 W146 V146
  have N146 := Fr.snoc X146 N142 (Nat.le_trans g_a1 (Nat.le_of_lt (Nat.lt_trans lt0 (Nat.lt_trans lt1 (Nat.lt_trans lt2 (Nat.lt_trans lt3 (Nat.lt_trans lt4 (Nat.lt_trans lt5 (Nat.lt_trans lt6 (Nat.lt_trans lt7 (Nat.lt_trans lt8 (Nat.lt_trans lt9 (Nat.lt_trans lt10 lt11)))))))))))))
  refine Gk.aloadN X146 hx (hb hby d9_425) rfl rfl ?_
  refine Gk.aloadN X146 hx (hb hby d9_426) rfl rfl ?_
  have ne148 : a1 ≠ x_rk0 := (Nat.ne_of_lt (Nat.lt_trans lt0 (Nat.lt_trans lt1 (Nat.lt_trans lt2 (Nat.lt_trans lt3 (Nat.lt_trans lt4 (Nat.lt_trans lt5 (Nat.lt_trans lt6 (Nat.lt_trans lt7 (Nat.lt_trans lt8 (Nat.lt_trans lt9 (Nat.lt_trans lt10 lt11))))))))))))
  have H149 := (((((((((((F_lowest.keep K2 (ninS (Nat.ne_of_lt lt0) nin0)).keep K30 (ninS (Nat.ne_of_lt (Nat.lt_trans lt0 lt1)) nin0)).other W37 (Or.inl ne39)).other W44 (Or.inl ne47)).other W52 (Or.inl ne57)).other W62 (Or.inl ne66)).other W71 (Or.inl ne76)).other W81 (Or.inl ne89)).other W94 (Or.inl ne102)).other W142 (Or.inl ne143)).other W146 (Or.inl ne148))
  refine Gk.getF X146 hx hZ hown (host := "") (Or.inl (hw _ (List.mem_of_getElem? (i := 110) rfl))) Via.refl e146 H149 (hb hby d9_427) ?_
  intro T150 X150 e150
  refine Gk.iload X150 hx (hb hby d9_430) rfl ?_
  have gr152 := (Nat.le_trans (Nat.le_trans (Nat.le_trans (Nat.le_trans (Nat.le_trans (Nat.le_trans (Nat.le_trans (Nat.le_trans (Nat.le_trans (Nat.le_trans K2.1 K30.1) (Keep.of_wr W37).1) (Keep.of_wr W44).1) (Keep.of_wr W52).1) (Keep.of_wr W62).1) (Keep.of_wr W71).1) (Keep.of_wr W81).1) (Keep.of_wr W94).1) (Keep.of_wr W142).1) (Keep.of_wr W146).1)
  refine Gk.callS (argsL := [(.int (0 : Int32)), (.int (0 : Int32))]) X150 hx hZ hown (rm13 l Z a0 hw [] (0 : Int32) (0 : Int32) h146 n0 (Nat.le_trans Z0 gr152)) (hw _ (List.mem_of_getElem? (i := 112) rfl)) (hw _ (List.mem_of_getElem? (i := 113) rfl)) (hw _ (List.mem_of_getElem? (i := 114) rfl)) (hw _ (List.mem_of_getElem? (i := 115) rfl)) (by decide) e150 pd_1 rfl rfl (by decide) (Nat.le_of_ble_eq_true rfl) (by decide) (by decide) (by rw [hml]; rfl)  rfl (hb hby d9_432) ?_
  intro T151 L151 v151 X151 hQ151
  obtain ⟨rfl, N151q, e151⟩ := hQ151
  have N151 := Fr.app N146 N151q
  show Go p e below (T151.setTop (mkF m 435 #[.val (.ref a1), .val (.ref a2), .val (.int (-511900244 : Int32)), .val .null, .val (.int p5), .val (.ref a6), .val (.int (0 : Int32)), .val (.int (-1 : Int32)), .val (.int (31 : Int32)), .val (.int (12 : Int32))] [(.int (if (0 : Int32) < (0 : Int32) then (0 : Int32) else (0 : Int32))), (.ref a1)])) _
  rw [show (if (0 : Int32) < (0 : Int32) then (0 : Int32) else (0 : Int32)) = (0 : Int32) from by decide]
  have H153 := ((((((((((H9.keep K30).wr W37).wr W44).wr W52).wr W62).wr W71).wr W81).wr W94).wr W142).wr W146)
  refine Gk.putF X151 hx hZ hown (host := "") (Or.inl (hw _ (List.mem_of_getElem? (i := 110) rfl))) Via.refl e151 H149 H153 (Or.inl (hw _ (List.mem_of_getElem? (i := 111) rfl))) (hw _ (List.mem_of_getElem? (i := 23) rfl)) (ty := .int) (by decide) rfl rfl (hb hby d9_435) ?_
  intro T154 h154 X154 e154 W154
  have Fw154 := H149.same W154
  have N154 := Fr.snoc X154 N151 g_a1
  refine Gk.aloadN X154 hx (hb hby d9_438) rfl rfl ?_
  refine Gk.dup X154 hx (hb hby d9_439) rfl ?_
  have H155 := ((H144.other W146 (Or.inl ne148)).other W154 (Or.inr (slot_ne (Or.inl (hw _ (List.mem_of_getElem? (i := 105) rfl))) (Or.inl (hw _ (List.mem_of_getElem? (i := 111) rfl))) (by decide) (t := .int) (t' := .int) (by decide) (by decide))))
  refine Gk.getF X154 hx hZ hown (host := "") (Or.inl (hw _ (List.mem_of_getElem? (i := 104) rfl))) Via.refl e154 H155 (hb hby d9_440) ?_
  intro T156 X156 e156
  refine Gk.iconst X156 hx (hb hby d9_443) (1 : Int32) rfl ?_
  refine Gk.iadd X156 hx (hb hby d9_444) (2 : Int32) (by decide) ?_
  have H157 := (H153.wr W154)
  refine Gk.putF X156 hx hZ hown (host := "") (Or.inl (hw _ (List.mem_of_getElem? (i := 104) rfl))) Via.refl e156 H155 H157 (Or.inl (hw _ (List.mem_of_getElem? (i := 105) rfl))) (hw _ (List.mem_of_getElem? (i := 23) rfl)) (ty := .int) (by decide) rfl rfl (hb hby d9_445) ?_
  intro T158 h158 X158 e158 W158
  have Fw158 := H155.same W158
  have N158 := Fr.snoc X158 N154 g_a1
  refine Gk.aloadN X158 hx (hb hby d9_448) rfl rfl ?_
  have H159 := ((((((((((((H7.keep K30 (ninS (Nat.ne_of_lt (Nat.lt_trans lt0 lt1)) nin0)).other W37 (Or.inl ne39)).other W44 (Or.inl ne47)).other W52 (Or.inl ne57)).other W62 (Or.inl ne66)).other W71 (Or.inl ne76)).other W81 (Or.inl ne89)).other W94 (Or.inl ne102)).other W142 (Or.inl ne143)).other W146 (Or.inl ne148)).other W154 (Or.inr (slot_ne (Or.inl (hw _ (List.mem_of_getElem? (i := 60) rfl))) (Or.inl (hw _ (List.mem_of_getElem? (i := 111) rfl))) (by decide) (t := (.array .int)) (t' := .int) (by decide) (by decide)))).other W158 (Or.inr (slot_ne (Or.inl (hw _ (List.mem_of_getElem? (i := 60) rfl))) (Or.inl (hw _ (List.mem_of_getElem? (i := 105) rfl))) (by decide) (t := (.array .int)) (t' := .int) (by decide) (by decide))))
  refine Gk.getF X158 hx hZ hown (host := "") (Or.inl (hw _ (List.mem_of_getElem? (i := 59) rfl))) Via.refl e158 H159 (hb hby d9_449) ?_
  intro T160 X160 e160
  refine Gk.iload X160 hx (hb hby d9_452) rfl ?_
  refine Gk.aloadN X160 hx (hb hby d9_454) rfl rfl ?_
  refine Gk.getF X160 hx hZ hown (host := "") (Or.inl (hw _ (List.mem_of_getElem? (i := 104) rfl))) Via.refl e160 Fw158 (hb hby d9_455) ?_
  intro T161 X161 e161
  have ne163 : x_states ≠ x_slots := (Nat.ne_of_lt (Nat.lt_trans lt2 (Nat.lt_trans lt3 (Nat.lt_trans lt4 (Nat.lt_trans lt5 (Nat.lt_trans lt6 (Nat.lt_trans lt7 (Nat.lt_trans lt8 lt9))))))))
  have ne164 : x_hashes ≠ x_slots := (Nat.ne_of_lt (Nat.lt_trans lt3 (Nat.lt_trans lt4 (Nat.lt_trans lt5 (Nat.lt_trans lt6 (Nat.lt_trans lt7 (Nat.lt_trans lt8 lt9)))))))
  have ne165 : x_zones ≠ x_slots := (Nat.ne_of_lt (Nat.lt_trans lt4 (Nat.lt_trans lt5 (Nat.lt_trans lt6 (Nat.lt_trans lt7 (Nat.lt_trans lt8 lt9))))))
  have ne166 : x_held ≠ x_slots := (Nat.ne_of_lt (Nat.lt_trans lt6 (Nat.lt_trans lt7 (Nat.lt_trans lt8 lt9))))
  have ne167 : x_sameStates ≠ x_slots := (Nat.ne_of_lt (Nat.lt_trans lt5 (Nat.lt_trans lt6 (Nat.lt_trans lt7 (Nat.lt_trans lt8 lt9)))))
  have ne168 : x_parents ≠ x_slots := (Nat.ne_of_lt (Nat.lt_trans lt7 (Nat.lt_trans lt8 lt9)))
  have ne169 : x_slots ≠ x_reached := (Nat.ne_of_lt (Nat.lt_trans lt10 (Nat.lt_trans lt11 lt12)))
  have ne170 : a1 ≠ x_slots := (Nat.ne_of_lt (Nat.lt_trans lt0 (Nat.lt_trans lt1 (Nat.lt_trans lt2 (Nat.lt_trans lt3 (Nat.lt_trans lt4 (Nat.lt_trans lt5 (Nat.lt_trans lt6 (Nat.lt_trans lt7 (Nat.lt_trans lt8 lt9))))))))))
  have H171 := ((((((((((((H5.keep K30 (ninS (Ne.symm ne163) nin0)).other W37 (Ne.symm ne164)).other W44 (Ne.symm ne165)).other W52 (Ne.symm ne166)).other W62 (Ne.symm ne167)).other W71 (Ne.symm ne168)).other W81 (Ne.symm (Nat.ne_of_lt (Nat.lt_trans lt8 lt9)))).other W94 (Ne.symm (Nat.ne_of_lt lt9))).other W142 ne169).other W146 (Nat.ne_of_lt (Nat.lt_trans lt10 lt11))).other W154 (Ne.symm ne170)).other W158 (Ne.symm ne170))
  refine Gk.iastore X161 hx hZ e161 H171 12 rfl ⟨by decide, by decide⟩ (.int (2 : Int32)) rfl (hb hby d9_458) ?_
  intro T162 h162 X162 e162 W162 V162
  have N162 := Fr.snoc X162 N158 (Nat.le_trans g_a1 (Nat.le_of_lt (Nat.lt_trans lt0 (Nat.lt_trans lt1 (Nat.lt_trans lt2 (Nat.lt_trans lt3 (Nat.lt_trans lt4 (Nat.lt_trans lt5 (Nat.lt_trans lt6 (Nat.lt_trans lt7 (Nat.lt_trans lt8 lt9)))))))))))
  refine Gk.aloadN X162 hx (hb hby d9_459) rfl rfl ?_
  have H172 := (Fw158.other W162 (Or.inl ne170))
  refine Gk.getF X162 hx hZ hown (host := "") (Or.inl (hw _ (List.mem_of_getElem? (i := 104) rfl))) Via.refl e162 H172 (hb hby d9_460) ?_
  intro T173 X173 e173
  refine Gk.iconst X173 hx (hb hby d9_463) (2 : Int32) rfl ?_
  refine Gk.imul X173 hx (hb hby d9_464) (4 : Int32) (by decide) ?_
  refine Gk.aloadN X173 hx (hb hby d9_465) rfl rfl ?_
  have H174 := (H159.other W162 (Or.inl ne170))
  refine Gk.getF X173 hx hZ hown (host := "") (Or.inl (hw _ (List.mem_of_getElem? (i := 59) rfl))) Via.refl e173 H174 (hb hby d9_466) ?_
  intro T175 X175 e175
  refine Gk.alen X175 hx hZ e175 V162 (hb hby d9_469) ?_
  refine Gk.icmpYes X175 hx (hb hby d9_470) (flt (by decide : ¬ ((32 : Int32) < (4 : Int32)))).2.2.2 477 (by decide) (by decide) ?_
  have H176 := (((((((((((((Fl2.keep K30 (ninS (Nat.ne_of_lt lt1) nin0)).other W37 (Or.inl (Nat.ne_of_lt (Nat.lt_trans lt1 lt2)))).other W44 (Or.inl ne45)).other W52 (Or.inl ne53)).other W62 (Or.inl ne63)).other W71 (Or.inl ne18)).other W81 (Or.inl ne82)).other W94 (Or.inl ne95)).other W142 (Or.inl ne106)).other W146 (Or.inl ne128)).other W154 (Or.inl (Ne.symm (Nat.ne_of_lt lt0)))).other W158 (Or.inl (Ne.symm (Nat.ne_of_lt lt0)))).other W162 (Or.inl ne4))
  have H177 := ((Fw154.other W158 (Or.inr (slot_ne (Or.inl (hw _ (List.mem_of_getElem? (i := 111) rfl))) (Or.inl (hw _ (List.mem_of_getElem? (i := 105) rfl))) (by decide) (t := .int) (t' := .int) (by decide) (by decide)))).other W162 (Or.inl ne170))
  have H178 := (((((((((((((H23.keep K30 (ninS (Nat.ne_of_lt (Nat.lt_trans lt0 lt1)) nin0)).other W37 (Or.inl ne39)).other W44 (Or.inl ne47)).other W52 (Or.inl ne57)).other W62 (Or.inl ne66)).other W71 (Or.inl ne76)).other W81 (Or.inl ne89)).other W94 (Or.inl ne102)).other W142 (Or.inl ne143)).other W146 (Or.inl ne148)).other W154 (Or.inr (slot_ne (Or.inl (hw _ (List.mem_of_getElem? (i := 40) rfl))) (Or.inl (hw _ (List.mem_of_getElem? (i := 111) rfl))) (by decide) (t := (.array .int)) (t' := .int) (by decide) (by decide)))).other W158 (Or.inr (slot_ne (Or.inl (hw _ (List.mem_of_getElem? (i := 40) rfl))) (Or.inl (hw _ (List.mem_of_getElem? (i := 105) rfl))) (by decide) (t := (.array .int)) (t' := .int) (by decide) (by decide)))).other W162 (Or.inl ne170))
  have H179 := ((((((((((((H33.other W37 (Or.inl ne39)).other W44 (Or.inl ne47)).other W52 (Or.inl ne57)).other W62 (Or.inl ne66)).other W71 (Or.inl ne76)).other W81 (Or.inl ne89)).other W94 (Or.inl ne102)).other W142 (Or.inl ne143)).other W146 (Or.inl ne148)).other W154 (Or.inr (slot_ne (Or.inl (hw _ (List.mem_of_getElem? (i := 42) rfl))) (Or.inl (hw _ (List.mem_of_getElem? (i := 111) rfl))) (by decide) (t := (.array .int)) (t' := .int) (by decide) (by decide)))).other W158 (Or.inr (slot_ne (Or.inl (hw _ (List.mem_of_getElem? (i := 42) rfl))) (Or.inl (hw _ (List.mem_of_getElem? (i := 105) rfl))) (by decide) (t := (.array .int)) (t' := .int) (by decide) (by decide)))).other W162 (Or.inl ne170))
  have H180 := (((((((((((H40.other W44 (Or.inl ne47)).other W52 (Or.inl ne57)).other W62 (Or.inl ne66)).other W71 (Or.inl ne76)).other W81 (Or.inl ne89)).other W94 (Or.inl ne102)).other W142 (Or.inl ne143)).other W146 (Or.inl ne148)).other W154 (Or.inr (slot_ne (Or.inl (hw _ (List.mem_of_getElem? (i := 46) rfl))) (Or.inl (hw _ (List.mem_of_getElem? (i := 111) rfl))) (by decide) (t := (.array (.object "com/example/tracewarden/tracewarden/engine/Zone"))) (t' := .int) (by decide) (by decide)))).other W158 (Or.inr (slot_ne (Or.inl (hw _ (List.mem_of_getElem? (i := 46) rfl))) (Or.inl (hw _ (List.mem_of_getElem? (i := 105) rfl))) (by decide) (t := (.array (.object "com/example/tracewarden/tracewarden/engine/Zone"))) (t' := .int) (by decide) (by decide)))).other W162 (Or.inl ne170))
  have H181 := (((((((((H58.other W62 (Or.inl ne66)).other W71 (Or.inl ne76)).other W81 (Or.inl ne89)).other W94 (Or.inl ne102)).other W142 (Or.inl ne143)).other W146 (Or.inl ne148)).other W154 (Or.inr (slot_ne (Or.inl (hw _ (List.mem_of_getElem? (i := 48) rfl))) (Or.inl (hw _ (List.mem_of_getElem? (i := 111) rfl))) (by decide) (t := (.array .int)) (t' := .int) (by decide) (by decide)))).other W158 (Or.inr (slot_ne (Or.inl (hw _ (List.mem_of_getElem? (i := 48) rfl))) (Or.inl (hw _ (List.mem_of_getElem? (i := 105) rfl))) (by decide) (t := (.array .int)) (t' := .int) (by decide) (by decide)))).other W162 (Or.inl ne170))
  have H182 := ((((((((((H48.other W52 (Or.inl ne57)).other W62 (Or.inl ne66)).other W71 (Or.inl ne76)).other W81 (Or.inl ne89)).other W94 (Or.inl ne102)).other W142 (Or.inl ne143)).other W146 (Or.inl ne148)).other W154 (Or.inr (slot_ne (Or.inl (hw _ (List.mem_of_getElem? (i := 51) rfl))) (Or.inl (hw _ (List.mem_of_getElem? (i := 111) rfl))) (by decide) (t := (.array .boolean)) (t' := .int) (by decide) (by decide)))).other W158 (Or.inr (slot_ne (Or.inl (hw _ (List.mem_of_getElem? (i := 51) rfl))) (Or.inl (hw _ (List.mem_of_getElem? (i := 105) rfl))) (by decide) (t := (.array .boolean)) (t' := .int) (by decide) (by decide)))).other W162 (Or.inl ne170))
  have H183 := ((((((((H67.other W71 (Or.inl ne76)).other W81 (Or.inl ne89)).other W94 (Or.inl ne102)).other W142 (Or.inl ne143)).other W146 (Or.inl ne148)).other W154 (Or.inr (slot_ne (Or.inl (hw _ (List.mem_of_getElem? (i := 53) rfl))) (Or.inl (hw _ (List.mem_of_getElem? (i := 111) rfl))) (by decide) (t := (.array .int)) (t' := .int) (by decide) (by decide)))).other W158 (Or.inr (slot_ne (Or.inl (hw _ (List.mem_of_getElem? (i := 53) rfl))) (Or.inl (hw _ (List.mem_of_getElem? (i := 105) rfl))) (by decide) (t := (.array .int)) (t' := .int) (by decide) (by decide)))).other W162 (Or.inl ne170))
  have H184 := (((((((H77.other W81 (Or.inl ne89)).other W94 (Or.inl ne102)).other W142 (Or.inl ne143)).other W146 (Or.inl ne148)).other W154 (Or.inr (slot_ne (Or.inl (hw _ (List.mem_of_getElem? (i := 56) rfl))) (Or.inl (hw _ (List.mem_of_getElem? (i := 111) rfl))) (by decide) (t := (.array (.object "com/example/tracewarden/tracewarden/engine/SearchTuples$Event"))) (t' := .int) (by decide) (by decide)))).other W158 (Or.inr (slot_ne (Or.inl (hw _ (List.mem_of_getElem? (i := 56) rfl))) (Or.inl (hw _ (List.mem_of_getElem? (i := 105) rfl))) (by decide) (t := (.array (.object "com/example/tracewarden/tracewarden/engine/SearchTuples$Event"))) (t' := .int) (by decide) (by decide)))).other W162 (Or.inl ne170))
  have H185 := ((((((H90.other W94 (Or.inl ne102)).other W142 (Or.inl ne143)).other W146 (Or.inl ne148)).other W154 (Or.inr (slot_ne (Or.inl (hw _ (List.mem_of_getElem? (i := 58) rfl))) (Or.inl (hw _ (List.mem_of_getElem? (i := 111) rfl))) (by decide) (t := (.array .int)) (t' := .int) (by decide) (by decide)))).other W158 (Or.inr (slot_ne (Or.inl (hw _ (List.mem_of_getElem? (i := 58) rfl))) (Or.inl (hw _ (List.mem_of_getElem? (i := 105) rfl))) (by decide) (t := (.array .int)) (t' := .int) (by decide) (by decide)))).other W162 (Or.inl ne170))
  have H186 := (((((H116.other W142 (Or.inl ne143)).other W146 (Or.inl ne148)).other W154 (Or.inr (slot_ne (Or.inl (hw _ (List.mem_of_getElem? (i := 68) rfl))) (Or.inl (hw _ (List.mem_of_getElem? (i := 111) rfl))) (by decide) (t := (.array (.array .int))) (t' := .int) (by decide) (by decide)))).other W158 (Or.inr (slot_ne (Or.inl (hw _ (List.mem_of_getElem? (i := 68) rfl))) (Or.inl (hw _ (List.mem_of_getElem? (i := 105) rfl))) (by decide) (t := (.array (.array .int))) (t' := .int) (by decide) (by decide)))).other W162 (Or.inl ne170))
  have H187 := (((((H103.other W142 (Or.inl ne143)).other W146 (Or.inl ne148)).other W154 (Or.inr (slot_ne (Or.inl (hw _ (List.mem_of_getElem? (i := 70) rfl))) (Or.inl (hw _ (List.mem_of_getElem? (i := 111) rfl))) (by decide) (t := (.array .int)) (t' := .int) (by decide) (by decide)))).other W158 (Or.inr (slot_ne (Or.inl (hw _ (List.mem_of_getElem? (i := 70) rfl))) (Or.inl (hw _ (List.mem_of_getElem? (i := 105) rfl))) (by decide) (t := (.array .int)) (t' := .int) (by decide) (by decide)))).other W162 (Or.inl ne170))
  have H188 := ((((((((((((((F_budget.keep K2 (ninS (Nat.ne_of_lt lt0) nin0)).keep K30 (ninS (Nat.ne_of_lt (Nat.lt_trans lt0 lt1)) nin0)).other W37 (Or.inl ne39)).other W44 (Or.inl ne47)).other W52 (Or.inl ne57)).other W62 (Or.inl ne66)).other W71 (Or.inl ne76)).other W81 (Or.inl ne89)).other W94 (Or.inl ne102)).other W142 (Or.inl ne143)).other W146 (Or.inl ne148)).other W154 (Or.inr (slot_ne (Or.inr (hw _ (List.mem_of_getElem? (i := 62) rfl))) (Or.inl (hw _ (List.mem_of_getElem? (i := 111) rfl))) (by decide) (t := (.object "com/example/tracewarden/tracewarden/engine/SearchBudget")) (t' := .int) (by decide) (by decide)))).other W158 (Or.inr (slot_ne (Or.inr (hw _ (List.mem_of_getElem? (i := 62) rfl))) (Or.inl (hw _ (List.mem_of_getElem? (i := 105) rfl))) (by decide) (t := (.object "com/example/tracewarden/tracewarden/engine/SearchBudget")) (t' := .int) (by decide) (by decide)))).other W162 (Or.inl ne170))
  have H189 := (((((((((((((H21.keep K30 (ninS (Nat.ne_of_lt (Nat.lt_trans lt0 lt1)) nin0)).other W37 (Or.inl ne39)).other W44 (Or.inl ne47)).other W52 (Or.inl ne57)).other W62 (Or.inl ne66)).other W71 (Or.inl ne76)).other W81 (Or.inl ne89)).other W94 (Or.inl ne102)).other W142 (Or.inl ne143)).other W146 (Or.inl ne148)).other W154 (Or.inr (slot_ne (Or.inl (hw _ (List.mem_of_getElem? (i := 64) rfl))) (Or.inl (hw _ (List.mem_of_getElem? (i := 111) rfl))) (by decide) (t := .int) (t' := .int) (by decide) (by decide)))).other W158 (Or.inr (slot_ne (Or.inl (hw _ (List.mem_of_getElem? (i := 64) rfl))) (Or.inl (hw _ (List.mem_of_getElem? (i := 105) rfl))) (by decide) (t := .int) (t' := .int) (by decide) (by decide)))).other W162 (Or.inl ne170))
  have H190 := (((((((((((V37.other W44 (Nat.ne_of_lt lt3)).other W52 ne55).other W62 (Nat.ne_of_lt (Nat.lt_trans lt3 lt4))).other W71 ne73).other W81 ne84).other W94 ne97).other W142 ne108).other W146 ne130).other W154 (Ne.symm ne39)).other W158 (Ne.symm ne39)).other W162 ne164)
  have H191 := (((((((V71.other W81 (Nat.ne_of_lt lt7)).other W94 (Nat.ne_of_lt (Nat.lt_trans lt7 lt8))).other W142 ne112).other W146 ne134).other W154 (Ne.symm ne76)).other W158 (Ne.symm ne76)).other W162 ne168)
  have H192 := ((((((V81.other W94 (Nat.ne_of_lt lt8)).other W142 ne113).other W146 ne135).other W154 (Ne.symm ne89)).other W158 (Ne.symm ne89)).other W162 (Nat.ne_of_lt (Nat.lt_trans lt8 lt9)))
  have H193 := ((((V142.other W146 (Ne.symm (Nat.ne_of_lt lt12))).other W154 (Ne.symm ne143)).other W158 (Ne.symm ne143)).other W162 (Ne.symm ne169))
  have H194 := ((((((((((((V30.other W37 (Nat.ne_of_lt lt2)).other W44 (Nat.ne_of_lt (Nat.lt_trans lt2 lt3))).other W52 ne54).other W62 ne64).other W71 ne72).other W81 ne83).other W94 ne96).other W142 ne107).other W146 ne129).other W154 (Ne.symm (Nat.ne_of_lt (Nat.lt_trans lt0 lt1)))).other W158 (Ne.symm (Nat.ne_of_lt (Nat.lt_trans lt0 lt1)))).other W162 ne163)
  have H195 := ((((((((((V44.other W52 (Nat.ne_of_lt (Nat.lt_trans lt4 lt5))).other W62 (Nat.ne_of_lt lt4)).other W71 ne74).other W81 ne85).other W94 ne98).other W142 ne109).other W146 ne131).other W154 (Ne.symm ne47)).other W158 (Ne.symm ne47)).other W162 ne165)
  have H196 := ((((((((V62.other W71 (Nat.ne_of_lt (Nat.lt_trans lt5 lt6))).other W81 ne86).other W94 ne100).other W142 ne111).other W146 ne133).other W154 (Ne.symm ne66)).other W158 (Ne.symm ne66)).other W162 ne167)
  have H197 := (((((((((V52.other W62 (Ne.symm (Nat.ne_of_lt lt5))).other W71 (Nat.ne_of_lt lt6)).other W81 (Nat.ne_of_lt (Nat.lt_trans lt6 lt7))).other W94 ne99).other W142 ne110).other W146 ne132).other W154 (Ne.symm ne57)).other W158 (Ne.symm ne57)).other W162 ne166)
  have H198 := (((((V94.other W142 ne114).other W146 ne136).other W154 (Ne.symm ne102)).other W158 (Ne.symm ne102)).other W162 (Nat.ne_of_lt lt9))
  have H199 := (((V146.other W154 (Ne.symm ne148)).other W158 (Ne.symm ne148)).other W162 (Ne.symm (Nat.ne_of_lt (Nat.lt_trans lt10 lt11))))
  refine Go.fin X175 (v := none) (fun _ => rfl) Bd.notSynchronized (fun _ hr => X175.returnOut hx Bd.returns (hb hby d9_477) hr) (fun U' hU hF => ⟨_, _, rfl, ?_, hF.1, hF.2.1, hF.2.2.mono (by decide) (by decide)⟩)
  rw [hU, e175]
  exact ⟨rfl, N162, (((((((((((((((Keep.refl h0 [a1, ab, x_states, x_hashes, x_zones, x_sameStates, x_held, x_parents, x_events, x_ranks, x_slots, x_rk0, x_reached]).trans K2 (allS (Or.inl (List.mem_of_getElem? (i := 1) rfl)) all0)).trans K30 (allS (Or.inl (List.mem_of_getElem? (i := 2) rfl)) all0)).wr W37 (Or.inl (List.mem_of_getElem? (i := 3) rfl))).wr W44 (Or.inl (List.mem_of_getElem? (i := 4) rfl))).wr W52 (Or.inl (List.mem_of_getElem? (i := 6) rfl))).wr W62 (Or.inl (List.mem_of_getElem? (i := 5) rfl))).wr W71 (Or.inl (List.mem_of_getElem? (i := 7) rfl))).wr W81 (Or.inl (List.mem_of_getElem? (i := 8) rfl))).wr W94 (Or.inl (List.mem_of_getElem? (i := 9) rfl))).wr W142 (Or.inl (List.mem_of_getElem? (i := 12) rfl))).wr W146 (Or.inl (List.mem_of_getElem? (i := 11) rfl))).wr W154 (Or.inl (List.mem_of_getElem? (i := 0) rfl))).wr W158 (Or.inl (List.mem_of_getElem? (i := 0) rfl))).wr W162 (Or.inl (List.mem_of_getElem? (i := 10) rfl))), H176, H172, H177, H178, H179, H180, H181, H182, H183, H184, H185, H174, H186, H187, H188, H189, V162, H190, H191, H192, H193, ⟨_, H194⟩, ⟨_, H195⟩, ⟨_, H196⟩, ⟨_, H197⟩, ⟨_, H198⟩, ⟨_, H199⟩⟩
theorem ef_rm9_2 (m : MethodId) (a1 : Addr) (a2 : Addr) (p5 : Int32) (a6 : Addr) : entryFrame m #[(.ref a1), (.ref a2), (.int (-1023800488 : Int32)), .null, (.int p5), (.ref a6), (.int (0 : Int32))] 10 = mkF m 0 #[.val (.ref a1), .val (.ref a2), .val (.int (-1023800488 : Int32)), .val .null, .val (.int p5), .val (.ref a6), .val (.int (0 : Int32)), .unset, .unset, .unset] [] := by first | (simp [entryFrame, mkF, argsToLocals, Value.category]; done) | rfl
def Q_rm9_2 (Z : State) (a1 : Addr) (a2 : Addr) (p5 : Int32) (a6 : Addr) (ab : Addr) (x_states : Addr) (x_hashes : Addr) (x_zones : Addr) (x_sameStates : Addr) (x_held : Addr) (x_parents : Addr) (x_events : Addr) (x_ranks : Addr) (x_slots : Addr) (x_ranked : Addr) (x_rk0 : Addr) (x_reached : Addr) (k_states : ClassId) (k_hashes : ClassId) (k_zones : ClassId) (k_sameStates : ClassId) (k_held : ClassId) (k_parents : ClassId) (k_events : ClassId) (k_ranks : ClassId) (k_slots : ClassId) (k_ranked : ClassId) (k_rk0 : ClassId) (k_reached : ClassId) (f_states : Nat → Value) (f_hashes : Nat → Value) (f_zones : Nat → Value) (f_sameStates : Nat → Value) (f_held : Nat → Value) (f_parents : Nat → Value) (f_events : Nat → Value) (f_ranks : Nat → Value) (f_slots : Nat → Value) (f_ranked : Nat → Value) (f_rk0 : Nat → Value) (f_reached : Nat → Value) (kt : ClassId) (ft : Nat → Value) (h0 : Heap) (n0 : Nat) (v : Option Value) (h : Heap) (L : List Loc) : Prop := v = none ∧ Fr n0 L ∧ Keep h0 h [a1, ab, x_states, x_hashes, x_zones, x_sameStates, x_held, x_parents, x_events, x_ranks, x_slots, x_rk0, x_reached] ∧ Fld Z h ab "com/example/tracewarden/tracewarden/engine/SearchBudget" "left" "J" (.long (1 : Int64)) ∧ Fld Z h a1 "com/example/tracewarden/tracewarden/engine/SearchTuples" "size" "I" (.int (3 : Int32)) ∧ Fld Z h a1 "com/example/tracewarden/tracewarden/engine/SearchTuples" "lowest" "I" (.int (0 : Int32)) ∧ Fld Z h a1 "com/example/tracewarden/tracewarden/engine/SearchTuples" "states" "[I" (.ref x_states) ∧ Fld Z h a1 "com/example/tracewarden/tracewarden/engine/SearchTuples" "hashes" "[I" (.ref x_hashes) ∧ Fld Z h a1 "com/example/tracewarden/tracewarden/engine/SearchTuples" "zones" "[Lcom/example/tracewarden/tracewarden/engine/Zone;" (.ref x_zones) ∧ Fld Z h a1 "com/example/tracewarden/tracewarden/engine/SearchTuples" "sameStates" "[I" (.ref x_sameStates) ∧ Fld Z h a1 "com/example/tracewarden/tracewarden/engine/SearchTuples" "held" "[Z" (.ref x_held) ∧ Fld Z h a1 "com/example/tracewarden/tracewarden/engine/SearchTuples" "parents" "[I" (.ref x_parents) ∧ Fld Z h a1 "com/example/tracewarden/tracewarden/engine/SearchTuples" "events" "[Lcom/example/tracewarden/tracewarden/engine/SearchTuples$Event;" (.ref x_events) ∧ Fld Z h a1 "com/example/tracewarden/tracewarden/engine/SearchTuples" "ranks" "[I" (.ref x_ranks) ∧ Fld Z h a1 "com/example/tracewarden/tracewarden/engine/SearchTuples" "slots" "[I" (.ref x_slots) ∧ Fld Z h a1 "com/example/tracewarden/tracewarden/engine/SearchTuples" "ranked" "[[I" (.ref x_ranked) ∧ Fld Z h a1 "com/example/tracewarden/tracewarden/engine/SearchTuples" "reached" "[I" (.ref x_reached) ∧ Fld Z h a1 "com/example/tracewarden/tracewarden/engine/SearchTuples" "budget" "Lcom/example/tracewarden/tracewarden/engine/SearchBudget;" (.ref ab) ∧ Fld Z h a1 "com/example/tracewarden/tracewarden/engine/SearchTuples" "width" "I" (.int (1 : Int32)) ∧ Arf Z h x_slots k_slots .int (32 : Int32) (upd f_slots 24 (.int (3 : Int32))) ∧ Arf Z h x_hashes k_hashes .int (16 : Int32) (upd f_hashes 2 (.int (-1023800488 : Int32))) ∧ Arf Z h x_parents k_parents .int (16 : Int32) (upd f_parents 2 (.int p5)) ∧ Arf Z h x_events k_events (.object "com/example/tracewarden/tracewarden/engine/SearchTuples$Event") (16 : Int32) (upd f_events 2 (.ref a6)) ∧ Arf Z h x_reached k_reached .int (1 : Int32) (upd f_reached 0 (.int (3 : Int32))) ∧ (∃ f' : Nat → Value, Arf Z h x_states k_states .int (64 : Int32) f') ∧ (∃ f' : Nat → Value, Arf Z h x_zones k_zones (.object "com/example/tracewarden/tracewarden/engine/Zone") (16 : Int32) f') ∧ (∃ f' : Nat → Value, Arf Z h x_sameStates k_sameStates .int (16 : Int32) f') ∧ (∃ f' : Nat → Value, Arf Z h x_held k_held .boolean (16 : Int32) f') ∧ (∃ f' : Nat → Value, Arf Z h x_ranks k_ranks .int (16 : Int32) f') ∧ (∃ f' : Nat → Value, Arf Z h x_rk0 k_rk0 .int (8 : Int32) f')
set_option maxRecDepth 65536 in
set_option maxHeartbeats 40000000 in
theorem rm9_2 (l : Launch) (Z : State) (a0 : Array Value) (hw : ∀ d ∈ tables_1, d.before a0 Z = true) (ws : List Jvm.Cond) (a1 : Addr) (a2 : Addr) (p5 : Int32) (a6 : Addr) (ab : Addr) (x_states : Addr) (x_hashes : Addr) (x_zones : Addr) (x_sameStates : Addr) (x_held : Addr) (x_parents : Addr) (x_events : Addr) (x_ranks : Addr) (x_slots : Addr) (x_ranked : Addr) (x_rk0 : Addr) (x_reached : Addr) (k_states : ClassId) (k_hashes : ClassId) (k_zones : ClassId) (k_sameStates : ClassId) (k_held : ClassId) (k_parents : ClassId) (k_events : ClassId) (k_ranks : ClassId) (k_slots : ClassId) (k_ranked : ClassId) (k_rk0 : ClassId) (k_reached : ClassId) (f_states : Nat → Value) (f_hashes : Nat → Value) (f_zones : Nat → Value) (f_sameStates : Nat → Value) (f_held : Nat → Value) (f_parents : Nat → Value) (f_events : Nat → Value) (f_ranks : Nat → Value) (f_slots : Nat → Value) (f_ranked : Nat → Value) (f_rk0 : Nat → Value) (f_reached : Nat → Value) (kt : ClassId) (ft : Nat → Value) (h0 : Heap) (n0 : Nat) (Z0 : n0 ≤ h0.size) (E_st : Exa Z h0 a1 "com/example/tracewarden/tracewarden/engine/SearchTuples") (E_ab : Exa Z h0 ab "com/example/tracewarden/tracewarden/engine/SearchBudget") (E_ev : Exa Z h0 a6 "com/example/tracewarden/tracewarden/engine/SearchTuples$Event") (g_a1 : n0 ≤ a1) (lt0 : a1 < ab) (lt1 : ab < x_states) (lt2 : x_states < x_hashes) (lt3 : x_hashes < x_zones) (lt4 : x_zones < x_sameStates) (lt5 : x_sameStates < x_held) (lt6 : x_held < x_parents) (lt7 : x_parents < x_events) (lt8 : x_events < x_ranks) (lt9 : x_ranks < x_slots) (lt10 : x_slots < x_ranked) (lt11 : x_ranked < x_rk0) (lt12 : x_rk0 < x_reached) (lt13 : x_reached < a2) (O_ev : Ovr Z k_events "com/example/tracewarden/tracewarden/engine/SearchTuples$Event") (V_states : Arf Z h0 x_states k_states .int (64 : Int32) f_states) (V_hashes : Arf Z h0 x_hashes k_hashes .int (16 : Int32) f_hashes) (V_zones : Arf Z h0 x_zones k_zones (.object "com/example/tracewarden/tracewarden/engine/Zone") (16 : Int32) f_zones) (V_sameStates : Arf Z h0 x_sameStates k_sameStates .int (16 : Int32) f_sameStates) (V_held : Arf Z h0 x_held k_held .boolean (16 : Int32) f_held) (V_parents : Arf Z h0 x_parents k_parents .int (16 : Int32) f_parents) (V_events : Arf Z h0 x_events k_events (.object "com/example/tracewarden/tracewarden/engine/SearchTuples$Event") (16 : Int32) f_events) (V_ranks : Arf Z h0 x_ranks k_ranks .int (16 : Int32) f_ranks) (V_slots : Arf Z h0 x_slots k_slots .int (32 : Int32) f_slots) (V_ranked : Arf Z h0 x_ranked k_ranked (.array .int) (1 : Int32) f_ranked) (V_rk0 : Arf Z h0 x_rk0 k_rk0 .int (8 : Int32) f_rk0) (V_reached : Arf Z h0 x_reached k_reached .int (1 : Int32) f_reached) (V_t : Arf Z h0 a2 kt .int (1 : Int32) ft) (ht0 : ft 0 = (.int (2 : Int32))) (h_slots_24 : f_slots 24 = (.int (0 : Int32))) (h_reached_0 : f_reached 0 = (.int (2 : Int32))) (h_ranked_0 : f_ranked 0 = (.ref x_rk0)) (F_states : Fld Z h0 a1 "com/example/tracewarden/tracewarden/engine/SearchTuples" "states" "[I" (.ref x_states)) (F_hashes : Fld Z h0 a1 "com/example/tracewarden/tracewarden/engine/SearchTuples" "hashes" "[I" (.ref x_hashes)) (F_zones : Fld Z h0 a1 "com/example/tracewarden/tracewarden/engine/SearchTuples" "zones" "[Lcom/example/tracewarden/tracewarden/engine/Zone;" (.ref x_zones)) (F_sameStates : Fld Z h0 a1 "com/example/tracewarden/tracewarden/engine/SearchTuples" "sameStates" "[I" (.ref x_sameStates)) (F_held : Fld Z h0 a1 "com/example/tracewarden/tracewarden/engine/SearchTuples" "held" "[Z" (.ref x_held)) (F_parents : Fld Z h0 a1 "com/example/tracewarden/tracewarden/engine/SearchTuples" "parents" "[I" (.ref x_parents)) (F_events : Fld Z h0 a1 "com/example/tracewarden/tracewarden/engine/SearchTuples" "events" "[Lcom/example/tracewarden/tracewarden/engine/SearchTuples$Event;" (.ref x_events)) (F_ranks : Fld Z h0 a1 "com/example/tracewarden/tracewarden/engine/SearchTuples" "ranks" "[I" (.ref x_ranks)) (F_slots : Fld Z h0 a1 "com/example/tracewarden/tracewarden/engine/SearchTuples" "slots" "[I" (.ref x_slots)) (F_ranked : Fld Z h0 a1 "com/example/tracewarden/tracewarden/engine/SearchTuples" "ranked" "[[I" (.ref x_ranked)) (F_reached : Fld Z h0 a1 "com/example/tracewarden/tracewarden/engine/SearchTuples" "reached" "[I" (.ref x_reached)) (F_budget : Fld Z h0 a1 "com/example/tracewarden/tracewarden/engine/SearchTuples" "budget" "Lcom/example/tracewarden/tracewarden/engine/SearchBudget;" (.ref ab)) (F_left : Fld Z h0 ab "com/example/tracewarden/tracewarden/engine/SearchBudget" "left" "J" (.long (2 : Int64))) (F_width : Fld Z h0 a1 "com/example/tracewarden/tracewarden/engine/SearchTuples" "width" "I" (.int (1 : Int32))) (F_size : Fld Z h0 a1 "com/example/tracewarden/tracewarden/engine/SearchTuples" "size" "I" (.int (2 : Int32))) (F_lowest : Fld Z h0 a1 "com/example/tracewarden/tracewarden/engine/SearchTuples" "lowest" "I" (.int (0 : Int32))) :
    MetFree l (⟨"com/example/tracewarden/tracewarden/engine/SearchTuples", "add", "([IILcom/example/tracewarden/tracewarden/engine/Zone;ILcom/example/tracewarden/tracewarden/engine/SearchTuples$Event;I)V"⟩ : MethodName) (head1 (Jvm.Cond.code (⟨"com/example/tracewarden/tracewarden/engine/SearchTuples", "add", "([IILcom/example/tracewarden/tracewarden/engine/Zone;ILcom/example/tracewarden/tracewarden/engine/SearchTuples$Event;I)V"⟩ : MethodName) prog_86_method_16_code 10 none :: ws) ({ frames := 1, cells := 0, slots := 0, locals := 40 } : Room)) (fun a U => a = #[(.ref a1), (.ref a2), (.int (-1023800488 : Int32)), .null, (.int p5), (.ref a6), (.int (0 : Int32))] ∧ Z.Warmed39 U.vm ∧ U.heap = h0) (fun _ _ _ _ _ => True) (fun _ U o U' => ∃ v L, o = .returned v ∧ Q_rm9_2 Z a1 a2 p5 a6 ab x_states x_hashes x_zones x_sameStates x_held x_parents x_events x_ranks x_slots x_ranked x_rk0 x_reached k_states k_hashes k_zones k_sameStates k_held k_parents k_events k_ranks k_slots k_ranked k_rk0 k_reached f_states f_hashes f_zones f_sameStates f_held f_parents f_events f_ranks f_slots f_ranked f_rk0 f_reached kt ft h0 n0 v U'.heap L ∧ FrameEnd U o U' L ({ frames := 1, cells := 0, slots := 0, locals := 40 } : Room).cells ({ frames := 1, cells := 0, slots := 0, locals := 40 } : Room).slots) := by
  refine MetFree.of_bodySF (plainFor_of_name pn_95) hisR ?_
  intro p e s m args below meth c s₁ Bd hml0 hP hK
  obtain ⟨rfl, hZ, hh⟩ := hP
  have hx := Bd.exec
  have hby := Bd.bytes
  have hml : c.maxLocals = 10 := hml0
  have hown : s.vm.findClass "com/example/tracewarden/tracewarden/engine/SearchTuples" = some m.cls := findClass_of_methodNamed Bd.named
  have hnm := (name_of_methodNamed Bd.named Bd.method).1
  have X0 : Stand p l e ({ frames := 1, cells := 0, slots := 0, locals := 40 } : Room) s m #[(.ref a1), (.ref a2), (.int (-1023800488 : Int32)), .null, (.int p5), (.ref a6), (.int (0 : Int32))] below meth c s₁ [] 0 0 := Stand.of_body Bd
  have e0 : s₁.heap = h0 := by rw [← hh, Bd.state]; rfl
  have N0 := Fr.nil n0
  show Go p e below (s₁.setTop (entryFrame m #[(.ref a1), (.ref a2), (.int (-1023800488 : Int32)), .null, (.int p5), (.ref a6), (.int (0 : Int32))] 10)) (fun o U' => ∃ v L, o = .returned v ∧ Q_rm9_2 Z a1 a2 p5 a6 ab x_states x_hashes x_zones x_sameStates x_held x_parents x_events x_ranks x_slots x_ranked x_rk0 x_reached k_states k_hashes k_zones k_sameStates k_held k_parents k_events k_ranks k_slots k_ranked k_rk0 k_reached f_states f_hashes f_zones f_sameStates f_held f_parents f_events f_ranks f_slots f_ranked f_rk0 f_reached kt ft h0 n0 v U'.heap L ∧ FrameEnd s o U' L ({ frames := 1, cells := 0, slots := 0, locals := 40 } : Room).cells ({ frames := 1, cells := 0, slots := 0, locals := 40 } : Room).slots)
  rw [ef_rm9_2]
  refine Gk.aloadN X0 hx (hb hby d9_0) rfl rfl ?_
  refine Gk.getF X0 hx hZ hown (host := "") (Or.inl (hw _ (List.mem_of_getElem? (i := 61) rfl))) Via.refl e0 F_budget (hb hby d9_1) ?_
  intro T1 X1 e1
  refine Gk.callV (argsL := []) X1 hx hZ hown (rm10_2 l Z a0 hw [] ab h0 n0 Z0 E_ab F_left (Nat.le_trans g_a1 (Nat.le_of_lt lt0))) (hw _ (List.mem_of_getElem? (i := 91) rfl)) (hw _ (List.mem_of_getElem? (i := 92) rfl)) (notFace_of_selects (args := #[]) (mvT hZ (hw _ (List.mem_of_getElem? (i := 94) rfl)))) (hw _ (List.mem_of_getElem? (i := 94) rfl)) (hw _ (List.mem_of_getElem? (i := 93) rfl)) (by decide) (hw _ (List.mem_of_getElem? (i := 95) rfl)) (hw _ (List.mem_of_getElem? (i := 27) rfl)) e1 E_ab pd_0 rfl rfl (by decide) (Nat.le_of_ble_eq_true rfl) (by decide) (by decide) (by rw [hml]; rfl)  rfl (hb hby d9_4) ?_
  intro T2 L2 v2 X2 hQ2
  obtain ⟨rfl, N2q, K2, Fl2⟩ := hQ2
  have N2 := Fr.app N0 N2q
  show Go p e below (T2.setTop (mkF m 7 #[.val (.ref a1), .val (.ref a2), .val (.int (-1023800488 : Int32)), .val .null, .val (.int p5), .val (.ref a6), .val (.int (0 : Int32)), .unset, .unset, .unset] [])) _
  refine Gk.aloadN X2 hx (hb hby d9_7) rfl rfl ?_
  refine Gk.aloadN X2 hx (hb hby d9_8) rfl rfl ?_
  refine Gk.iloadN X2 hx (hb hby d9_9) rfl ?_
  have ne4 : ab ≠ x_slots := (Nat.ne_of_lt (Nat.lt_trans lt1 (Nat.lt_trans lt2 (Nat.lt_trans lt3 (Nat.lt_trans lt4 (Nat.lt_trans lt5 (Nat.lt_trans lt6 (Nat.lt_trans lt7 (Nat.lt_trans lt8 lt9)))))))))
  have H5 := (V_slots.keep K2 (ninS (Ne.symm ne4) nin0))
  have H6 := (V_hashes.keep K2 (ninS (Ne.symm (Nat.ne_of_lt (Nat.lt_trans lt1 lt2))) nin0))
  have H7 := (F_slots.keep K2 (ninS (Nat.ne_of_lt lt0) nin0))
  have H8 := (F_hashes.keep K2 (ninS (Nat.ne_of_lt lt0) nin0))
  have H9 := (E_st.keep K2)
  refine Gk.callP (argsL := [(.ref a2), (.int (-1023800488 : Int32))]) X2 hx hZ hown (rm11_2 l Z a0 hw [] a1 a2 x_slots k_slots f_slots x_hashes k_hashes f_hashes T2.heap n0 (Nat.le_trans Z0 K2.1) H5 H6 H7 H8 h_slots_24) (hw _ (List.mem_of_getElem? (i := 96) rfl)) (hw _ (List.mem_of_getElem? (i := 97) rfl)) (hw _ (List.mem_of_getElem? (i := 23) rfl)) (hw _ (List.mem_of_getElem? (i := 98) rfl)) (by decide) (hw _ (List.mem_of_getElem? (i := 99) rfl)) (hw _ (List.mem_of_getElem? (i := 24) rfl)) rfl H9 pd_3 rfl rfl (by decide) (Nat.le_of_ble_eq_true rfl) (by decide) (by decide) (by rw [hml]; rfl)  rfl (hb hby d9_10) ?_
  intro T3 L3 v3 X3 hQ3
  obtain ⟨rfl, N3q, e3⟩ := hQ3
  have N3 := Fr.app N2 N3q
  show Go p e below (T3.setTop (mkF m 13 #[.val (.ref a1), .val (.ref a2), .val (.int (-1023800488 : Int32)), .val .null, .val (.int p5), .val (.ref a6), .val (.int (0 : Int32)), .unset, .unset, .unset] [(.int (-1 : Int32))])) _
  refine Gk.istore X3 hx (hb hby d9_13) #[.val (.ref a1), .val (.ref a2), .val (.int (-1023800488 : Int32)), .val .null, .val (.int p5), .val (.ref a6), .val (.int (0 : Int32)), .val (.int (-1 : Int32)), .unset, .unset] rfl ?_
  refine Gk.aloadN X3 hx (hb hby d9_15) rfl rfl ?_
  refine Gk.iload X3 hx (hb hby d9_16) rfl ?_
  refine Gk.aloadN X3 hx (hb hby d9_18) rfl rfl ?_
  refine Gk.callP (argsL := [(.int (-1 : Int32)), .null]) X3 hx hZ hown (rm12 l Z a0 hw [] a1 T2.heap n0 (Nat.le_trans Z0 K2.1)) (hw _ (List.mem_of_getElem? (i := 100) rfl)) (hw _ (List.mem_of_getElem? (i := 101) rfl)) (hw _ (List.mem_of_getElem? (i := 23) rfl)) (hw _ (List.mem_of_getElem? (i := 102) rfl)) (by decide) (hw _ (List.mem_of_getElem? (i := 103) rfl)) (hw _ (List.mem_of_getElem? (i := 24) rfl)) e3 H9 pd_4 rfl rfl (by decide) (Nat.le_of_ble_eq_true rfl) (by decide) (by decide) (by rw [hml]; rfl)  rfl (hb hby d9_19) ?_
  intro T10 L10 v10 X10 hQ10
  obtain ⟨rfl, N10q, e10⟩ := hQ10
  have N10 := Fr.app N3 N10q
  show Go p e below (T10.setTop (mkF m 22 #[.val (.ref a1), .val (.ref a2), .val (.int (-1023800488 : Int32)), .val .null, .val (.int p5), .val (.ref a6), .val (.int (0 : Int32)), .val (.int (-1 : Int32)), .unset, .unset] [])) _
  refine Gk.aloadN X10 hx (hb hby d9_22) rfl rfl ?_
  refine Gk.getF X10 hx hZ hown (host := "") (Or.inl (hw _ (List.mem_of_getElem? (i := 59) rfl))) Via.refl e10 H7 (hb hby d9_23) ?_
  intro T11 X11 e11
  refine Gk.alen X11 hx hZ e11 H5 (hb hby d9_26) ?_
  refine Gk.iconst X11 hx (hb hby d9_27) (1 : Int32) rfl ?_
  refine Gk.isub X11 hx (hb hby d9_28) (31 : Int32) (by decide) ?_
  refine Gk.istore X11 hx (hb hby d9_29) #[.val (.ref a1), .val (.ref a2), .val (.int (-1023800488 : Int32)), .val .null, .val (.int p5), .val (.ref a6), .val (.int (0 : Int32)), .val (.int (-1 : Int32)), .val (.int (31 : Int32)), .unset] rfl ?_
  refine Gk.iloadN X11 hx (hb hby d9_31) rfl ?_
  refine Gk.iload X11 hx (hb hby d9_32) rfl ?_
  refine Gk.iand X11 hx (hb hby d9_34) (24 : Int32) (by decide) ?_
  refine Gk.istore X11 hx (hb hby d9_35) #[.val (.ref a1), .val (.ref a2), .val (.int (-1023800488 : Int32)), .val .null, .val (.int p5), .val (.ref a6), .val (.int (0 : Int32)), .val (.int (-1 : Int32)), .val (.int (31 : Int32)), .val (.int (24 : Int32))] rfl ?_
  refine Gk.aloadN X11 hx (hb hby d9_37) rfl rfl ?_
  refine Gk.getF X11 hx hZ hown (host := "") (Or.inl (hw _ (List.mem_of_getElem? (i := 59) rfl))) Via.refl e11 H7 (hb hby d9_38) ?_
  intro T12 X12 e12
  refine Gk.iload X12 hx (hb hby d9_41) rfl ?_
  refine Gk.iaload X12 hx hZ e12 H5 ⟨by decide, by decide⟩ (.int (0 : Int32)) h_slots_24 (hb hby d9_43) ?_
  refine Gk.ifYes X12 hx (hb hby d9_44) (teq (by decide : (0 : Int32) = (0 : Int32))).1 73 (by decide) (by decide) ?_
  refine Gk.aloadN X12 hx (hb hby d9_73) rfl rfl ?_
  have H14 := (F_size.keep K2 (ninS (Nat.ne_of_lt lt0) nin0))
  refine Gk.getF X12 hx hZ hown (host := "") (Or.inl (hw _ (List.mem_of_getElem? (i := 104) rfl))) Via.refl e12 H14 (hb hby d9_74) ?_
  intro T15 X15 e15
  refine Gk.aloadN X15 hx (hb hby d9_77) rfl rfl ?_
  have H16 := (F_parents.keep K2 (ninS (Nat.ne_of_lt lt0) nin0))
  refine Gk.getF X15 hx hZ hown (host := "") (Or.inl (hw _ (List.mem_of_getElem? (i := 52) rfl))) Via.refl e15 H16 (hb hby d9_78) ?_
  intro T17 X17 e17
  have ne18 : ab ≠ x_parents := (Nat.ne_of_lt (Nat.lt_trans lt1 (Nat.lt_trans lt2 (Nat.lt_trans lt3 (Nat.lt_trans lt4 (Nat.lt_trans lt5 lt6))))))
  have H19 := (V_parents.keep K2 (ninS (Ne.symm ne18) nin0))
  refine Gk.alen X17 hx hZ e17 H19 (hb hby d9_81) ?_
  refine Gk.icmpYes X17 hx (hb hby d9_82) (feq (by decide : ¬ ((2 : Int32) = (16 : Int32)))).2 210 (by decide) (by decide) ?_
  refine Gk.aloadN X17 hx (hb hby d9_210) rfl rfl ?_
  refine Gk.getF X17 hx hZ hown (host := "") (Or.inl (hw _ (List.mem_of_getElem? (i := 104) rfl))) Via.refl e17 H14 (hb hby d9_211) ?_
  intro T20 X20 e20
  refine Gk.iconst X20 hx (hb hby d9_214) (1 : Int32) rfl ?_
  refine Gk.iadd X20 hx (hb hby d9_215) (3 : Int32) (by decide) ?_
  refine Gk.aloadN X20 hx (hb hby d9_216) rfl rfl ?_
  have H21 := (F_width.keep K2 (ninS (Nat.ne_of_lt lt0) nin0))
  refine Gk.getF X20 hx hZ hown (host := "") (Or.inl (hw _ (List.mem_of_getElem? (i := 63) rfl))) Via.refl e20 H21 (hb hby d9_217) ?_
  intro T22 X22 e22
  refine Gk.imul X22 hx (hb hby d9_220) (3 : Int32) (by decide) ?_
  refine Gk.aloadN X22 hx (hb hby d9_221) rfl rfl ?_
  have H23 := (F_states.keep K2 (ninS (Nat.ne_of_lt lt0) nin0))
  refine Gk.getF X22 hx hZ hown (host := "") (Or.inl (hw _ (List.mem_of_getElem? (i := 39) rfl))) Via.refl e22 H23 (hb hby d9_222) ?_
  intro T24 X24 e24
  have H25 := (V_states.keep K2 (ninS (Ne.symm (Nat.ne_of_lt lt1)) nin0))
  refine Gk.alen X24 hx hZ e24 H25 (hb hby d9_225) ?_
  refine Gk.icmpYes X24 hx (hb hby d9_226) (flt (by decide : ¬ ((64 : Int32) < (3 : Int32)))).2.2.2 261 (by decide) (by decide) ?_
  refine Gk.aloadN X24 hx (hb hby d9_261) rfl rfl ?_
  refine Gk.iconst X24 hx (hb hby d9_262) (0 : Int32) rfl ?_
  refine Gk.aloadN X24 hx (hb hby d9_263) rfl rfl ?_
  refine Gk.getF X24 hx hZ hown (host := "") (Or.inl (hw _ (List.mem_of_getElem? (i := 39) rfl))) Via.refl e24 H23 (hb hby d9_264) ?_
  intro T26 X26 e26
  refine Gk.aloadN X26 hx (hb hby d9_267) rfl rfl ?_
  refine Gk.getF X26 hx hZ hown (host := "") (Or.inl (hw _ (List.mem_of_getElem? (i := 104) rfl))) Via.refl e26 H14 (hb hby d9_268) ?_
  intro T27 X27 e27
  refine Gk.aloadN X27 hx (hb hby d9_271) rfl rfl ?_
  refine Gk.getF X27 hx hZ hown (host := "") (Or.inl (hw _ (List.mem_of_getElem? (i := 63) rfl))) Via.refl e27 H21 (hb hby d9_272) ?_
  intro T28 X28 e28
  refine Gk.imul X28 hx (hb hby d9_275) (2 : Int32) (by decide) ?_
  refine Gk.aloadN X28 hx (hb hby d9_276) rfl rfl ?_
  refine Gk.getF X28 hx hZ hown (host := "") (Or.inl (hw _ (List.mem_of_getElem? (i := 63) rfl))) Via.refl e28 H21 (hb hby d9_277) ?_
  intro T29 X29 e29
  have ne31 : ab ≠ a2 := (Nat.ne_of_lt (Nat.lt_trans lt1 (Nat.lt_trans lt2 (Nat.lt_trans lt3 (Nat.lt_trans lt4 (Nat.lt_trans lt5 (Nat.lt_trans lt6 (Nat.lt_trans lt7 (Nat.lt_trans lt8 (Nat.lt_trans lt9 (Nat.lt_trans lt10 (Nat.lt_trans lt11 (Nat.lt_trans lt12 lt13)))))))))))))
  have H32 := (V_t.keep K2 (ninS (Ne.symm ne31) nin0))
  refine Gk.copy X29 hx hZ hown (hw _ (List.mem_of_getElem? (i := 106) rfl)) (hw _ (List.mem_of_getElem? (i := 109) rfl)) (hw _ (List.mem_of_getElem? (i := 107) rfl)) (hw _ (List.mem_of_getElem? (i := 108) rfl)) e29 H32 H25 rfl (by decide) (by decide) (by decide) (by decide) (by decide) N10 (Nat.le_trans g_a1 (Nat.le_of_lt (Nat.lt_trans lt0 lt1))) (fun i => if 2 ≤ i ∧ i < 2 + 1 then ft (0 + (i - 2)) else f_states i) (fun _ _ => rfl) (by rw [hml]; rfl) (hb hby d9_280) (by decide) (Nat.le_of_ble_eq_true rfl) ?_
  intro T30 h30 L30 X30 e30 N30 K30 V30
  refine Gk.aloadN X30 hx (hb hby d9_283) rfl rfl ?_
  have H33 := (H8.keep K30 (ninS (Nat.ne_of_lt (Nat.lt_trans lt0 lt1)) nin0))
  refine Gk.getF X30 hx hZ hown (host := "") (Or.inl (hw _ (List.mem_of_getElem? (i := 41) rfl))) Via.refl e30 H33 (hb hby d9_284) ?_
  intro T34 X34 e34
  refine Gk.aloadN X34 hx (hb hby d9_287) rfl rfl ?_
  have H35 := (H14.keep K30 (ninS (Nat.ne_of_lt (Nat.lt_trans lt0 lt1)) nin0))
  refine Gk.getF X34 hx hZ hown (host := "") (Or.inl (hw _ (List.mem_of_getElem? (i := 104) rfl))) Via.refl e34 H35 (hb hby d9_288) ?_
  intro T36 X36 e36
  refine Gk.iloadN X36 hx (hb hby d9_291) rfl ?_
  have H38 := (H6.keep K30 (ninS (Ne.symm (Nat.ne_of_lt lt2)) nin0))
  refine Gk.iastore X36 hx hZ e36 H38 2 rfl ⟨by decide, by decide⟩ (.int (-1023800488 : Int32)) rfl (hb hby d9_292) ?_
  intro T37 h37 X37 e37 W37 V37
  have N37 := Fr.snoc X37 N30 (Nat.le_trans g_a1 (Nat.le_of_lt (Nat.lt_trans lt0 (Nat.lt_trans lt1 lt2))))
  refine Gk.aloadN X37 hx (hb hby d9_293) rfl rfl ?_
  have ne39 : a1 ≠ x_hashes := (Nat.ne_of_lt (Nat.lt_trans lt0 (Nat.lt_trans lt1 lt2)))
  have H40 := (((F_zones.keep K2 (ninS (Nat.ne_of_lt lt0) nin0)).keep K30 (ninS (Nat.ne_of_lt (Nat.lt_trans lt0 lt1)) nin0)).other W37 (Or.inl ne39))
  refine Gk.getF X37 hx hZ hown (host := "") (Or.inl (hw _ (List.mem_of_getElem? (i := 45) rfl))) Via.refl e37 H40 (hb hby d9_294) ?_
  intro T41 X41 e41
  refine Gk.aloadN X41 hx (hb hby d9_297) rfl rfl ?_
  have H42 := (H35.other W37 (Or.inl ne39))
  refine Gk.getF X41 hx hZ hown (host := "") (Or.inl (hw _ (List.mem_of_getElem? (i := 104) rfl))) Via.refl e41 H42 (hb hby d9_298) ?_
  intro T43 X43 e43
  refine Gk.aloadN X43 hx (hb hby d9_301) rfl rfl ?_
  have ne45 : ab ≠ x_zones := (Nat.ne_of_lt (Nat.lt_trans lt1 (Nat.lt_trans lt2 lt3)))
  have H46 := (((V_zones.keep K2 (ninS (Ne.symm ne45) nin0)).keep K30 (ninS (Ne.symm (Nat.ne_of_lt (Nat.lt_trans lt2 lt3))) nin0)).other W37 (Ne.symm (Nat.ne_of_lt lt3)))
  refine Gk.aastore X43 hx hZ e43 H46 2 rfl ⟨by decide, by decide⟩ rfl rfl (Or.inl rfl) (hb hby d9_302) ?_
  intro T44 h44 X44 e44 W44 V44
  have N44 := Fr.snoc X44 N37 (Nat.le_trans g_a1 (Nat.le_of_lt (Nat.lt_trans lt0 (Nat.lt_trans lt1 (Nat.lt_trans lt2 lt3)))))
  refine Gk.aloadN X44 hx (hb hby d9_303) rfl rfl ?_
  have ne47 : a1 ≠ x_zones := (Nat.ne_of_lt (Nat.lt_trans lt0 (Nat.lt_trans lt1 (Nat.lt_trans lt2 lt3))))
  have H48 := ((((F_held.keep K2 (ninS (Nat.ne_of_lt lt0) nin0)).keep K30 (ninS (Nat.ne_of_lt (Nat.lt_trans lt0 lt1)) nin0)).other W37 (Or.inl ne39)).other W44 (Or.inl ne47))
  refine Gk.getF X44 hx hZ hown (host := "") (Or.inl (hw _ (List.mem_of_getElem? (i := 50) rfl))) Via.refl e44 H48 (hb hby d9_304) ?_
  intro T49 X49 e49
  refine Gk.aloadN X49 hx (hb hby d9_307) rfl rfl ?_
  have H50 := (H42.other W44 (Or.inl ne47))
  refine Gk.getF X49 hx hZ hown (host := "") (Or.inl (hw _ (List.mem_of_getElem? (i := 104) rfl))) Via.refl e49 H50 (hb hby d9_308) ?_
  intro T51 X51 e51
  refine Gk.iconst X51 hx (hb hby d9_311) (0 : Int32) rfl ?_
  have ne53 : ab ≠ x_held := (Nat.ne_of_lt (Nat.lt_trans lt1 (Nat.lt_trans lt2 (Nat.lt_trans lt3 (Nat.lt_trans lt4 lt5)))))
  have ne54 : x_states ≠ x_held := (Nat.ne_of_lt (Nat.lt_trans lt2 (Nat.lt_trans lt3 (Nat.lt_trans lt4 lt5))))
  have ne55 : x_hashes ≠ x_held := (Nat.ne_of_lt (Nat.lt_trans lt3 (Nat.lt_trans lt4 lt5)))
  have H56 := ((((V_held.keep K2 (ninS (Ne.symm ne53) nin0)).keep K30 (ninS (Ne.symm ne54) nin0)).other W37 (Ne.symm ne55)).other W44 (Ne.symm (Nat.ne_of_lt (Nat.lt_trans lt4 lt5))))
  refine Gk.bastoreZ X51 hx hZ e51 H56 2 rfl ⟨by decide, by decide⟩ (.int (0 : Int32)) rfl (hb hby d9_312) ?_
  intro T52 h52 X52 e52 W52 V52
  have N52 := Fr.snoc X52 N44 (Nat.le_trans g_a1 (Nat.le_of_lt (Nat.lt_trans lt0 (Nat.lt_trans lt1 (Nat.lt_trans lt2 (Nat.lt_trans lt3 (Nat.lt_trans lt4 lt5)))))))
  refine Gk.aloadN X52 hx (hb hby d9_313) rfl rfl ?_
  have ne57 : a1 ≠ x_held := (Nat.ne_of_lt (Nat.lt_trans lt0 (Nat.lt_trans lt1 (Nat.lt_trans lt2 (Nat.lt_trans lt3 (Nat.lt_trans lt4 lt5))))))
  have H58 := (((((F_sameStates.keep K2 (ninS (Nat.ne_of_lt lt0) nin0)).keep K30 (ninS (Nat.ne_of_lt (Nat.lt_trans lt0 lt1)) nin0)).other W37 (Or.inl ne39)).other W44 (Or.inl ne47)).other W52 (Or.inl ne57))
  refine Gk.getF X52 hx hZ hown (host := "") (Or.inl (hw _ (List.mem_of_getElem? (i := 47) rfl))) Via.refl e52 H58 (hb hby d9_314) ?_
  intro T59 X59 e59
  refine Gk.aloadN X59 hx (hb hby d9_317) rfl rfl ?_
  have H60 := (H50.other W52 (Or.inl ne57))
  refine Gk.getF X59 hx hZ hown (host := "") (Or.inl (hw _ (List.mem_of_getElem? (i := 104) rfl))) Via.refl e59 H60 (hb hby d9_318) ?_
  intro T61 X61 e61
  refine Gk.iload X61 hx (hb hby d9_321) rfl ?_
  have ne63 : ab ≠ x_sameStates := (Nat.ne_of_lt (Nat.lt_trans lt1 (Nat.lt_trans lt2 (Nat.lt_trans lt3 lt4))))
  have ne64 : x_states ≠ x_sameStates := (Nat.ne_of_lt (Nat.lt_trans lt2 (Nat.lt_trans lt3 lt4)))
  have H65 := (((((V_sameStates.keep K2 (ninS (Ne.symm ne63) nin0)).keep K30 (ninS (Ne.symm ne64) nin0)).other W37 (Ne.symm (Nat.ne_of_lt (Nat.lt_trans lt3 lt4)))).other W44 (Ne.symm (Nat.ne_of_lt lt4))).other W52 (Nat.ne_of_lt lt5))
  refine Gk.iastore X61 hx hZ e61 H65 2 rfl ⟨by decide, by decide⟩ (.int (-1 : Int32)) rfl (hb hby d9_323) ?_
  intro T62 h62 X62 e62 W62 V62
  have N62 := Fr.snoc X62 N52 (Nat.le_trans g_a1 (Nat.le_of_lt (Nat.lt_trans lt0 (Nat.lt_trans lt1 (Nat.lt_trans lt2 (Nat.lt_trans lt3 lt4))))))
  refine Gk.aloadN X62 hx (hb hby d9_324) rfl rfl ?_
  have ne66 : a1 ≠ x_sameStates := (Nat.ne_of_lt (Nat.lt_trans lt0 (Nat.lt_trans lt1 (Nat.lt_trans lt2 (Nat.lt_trans lt3 lt4)))))
  have H67 := (((((H16.keep K30 (ninS (Nat.ne_of_lt (Nat.lt_trans lt0 lt1)) nin0)).other W37 (Or.inl ne39)).other W44 (Or.inl ne47)).other W52 (Or.inl ne57)).other W62 (Or.inl ne66))
  refine Gk.getF X62 hx hZ hown (host := "") (Or.inl (hw _ (List.mem_of_getElem? (i := 52) rfl))) Via.refl e62 H67 (hb hby d9_325) ?_
  intro T68 X68 e68
  refine Gk.aloadN X68 hx (hb hby d9_328) rfl rfl ?_
  have H69 := (H60.other W62 (Or.inl ne66))
  refine Gk.getF X68 hx hZ hown (host := "") (Or.inl (hw _ (List.mem_of_getElem? (i := 104) rfl))) Via.refl e68 H69 (hb hby d9_329) ?_
  intro T70 X70 e70
  refine Gk.iload X70 hx (hb hby d9_332) rfl ?_
  have ne72 : x_states ≠ x_parents := (Nat.ne_of_lt (Nat.lt_trans lt2 (Nat.lt_trans lt3 (Nat.lt_trans lt4 (Nat.lt_trans lt5 lt6)))))
  have ne73 : x_hashes ≠ x_parents := (Nat.ne_of_lt (Nat.lt_trans lt3 (Nat.lt_trans lt4 (Nat.lt_trans lt5 lt6))))
  have ne74 : x_zones ≠ x_parents := (Nat.ne_of_lt (Nat.lt_trans lt4 (Nat.lt_trans lt5 lt6)))
  have H75 := (((((H19.keep K30 (ninS (Ne.symm ne72) nin0)).other W37 (Ne.symm ne73)).other W44 (Ne.symm ne74)).other W52 (Ne.symm (Nat.ne_of_lt lt6))).other W62 (Ne.symm (Nat.ne_of_lt (Nat.lt_trans lt5 lt6))))
  refine Gk.iastore X70 hx hZ e70 H75 2 rfl ⟨by decide, by decide⟩ (.int p5) rfl (hb hby d9_334) ?_
  intro T71 h71 X71 e71 W71 V71
  have N71 := Fr.snoc X71 N62 (Nat.le_trans g_a1 (Nat.le_of_lt (Nat.lt_trans lt0 (Nat.lt_trans lt1 (Nat.lt_trans lt2 (Nat.lt_trans lt3 (Nat.lt_trans lt4 (Nat.lt_trans lt5 lt6))))))))
  refine Gk.aloadN X71 hx (hb hby d9_335) rfl rfl ?_
  have ne76 : a1 ≠ x_parents := (Nat.ne_of_lt (Nat.lt_trans lt0 (Nat.lt_trans lt1 (Nat.lt_trans lt2 (Nat.lt_trans lt3 (Nat.lt_trans lt4 (Nat.lt_trans lt5 lt6)))))))
  have H77 := (((((((F_events.keep K2 (ninS (Nat.ne_of_lt lt0) nin0)).keep K30 (ninS (Nat.ne_of_lt (Nat.lt_trans lt0 lt1)) nin0)).other W37 (Or.inl ne39)).other W44 (Or.inl ne47)).other W52 (Or.inl ne57)).other W62 (Or.inl ne66)).other W71 (Or.inl ne76))
  refine Gk.getF X71 hx hZ hown (host := "") (Or.inl (hw _ (List.mem_of_getElem? (i := 55) rfl))) Via.refl e71 H77 (hb hby d9_336) ?_
  intro T78 X78 e78
  refine Gk.aloadN X78 hx (hb hby d9_339) rfl rfl ?_
  have H79 := (H69.other W71 (Or.inl ne76))
  refine Gk.getF X78 hx hZ hown (host := "") (Or.inl (hw _ (List.mem_of_getElem? (i := 104) rfl))) Via.refl e78 H79 (hb hby d9_340) ?_
  intro T80 X80 e80
  refine Gk.aload X80 hx (hb hby d9_343) rfl rfl ?_
  have ne82 : ab ≠ x_events := (Nat.ne_of_lt (Nat.lt_trans lt1 (Nat.lt_trans lt2 (Nat.lt_trans lt3 (Nat.lt_trans lt4 (Nat.lt_trans lt5 (Nat.lt_trans lt6 lt7)))))))
  have ne83 : x_states ≠ x_events := (Nat.ne_of_lt (Nat.lt_trans lt2 (Nat.lt_trans lt3 (Nat.lt_trans lt4 (Nat.lt_trans lt5 (Nat.lt_trans lt6 lt7))))))
  have ne84 : x_hashes ≠ x_events := (Nat.ne_of_lt (Nat.lt_trans lt3 (Nat.lt_trans lt4 (Nat.lt_trans lt5 (Nat.lt_trans lt6 lt7)))))
  have ne85 : x_zones ≠ x_events := (Nat.ne_of_lt (Nat.lt_trans lt4 (Nat.lt_trans lt5 (Nat.lt_trans lt6 lt7))))
  have ne86 : x_sameStates ≠ x_events := (Nat.ne_of_lt (Nat.lt_trans lt5 (Nat.lt_trans lt6 lt7)))
  have H87 := (((((((V_events.keep K2 (ninS (Ne.symm ne82) nin0)).keep K30 (ninS (Ne.symm ne83) nin0)).other W37 (Ne.symm ne84)).other W44 (Ne.symm ne85)).other W52 (Ne.symm (Nat.ne_of_lt (Nat.lt_trans lt6 lt7)))).other W62 (Ne.symm ne86)).other W71 (Ne.symm (Nat.ne_of_lt lt7)))
  have H88 := (((((((E_ev.keep K2).keep K30).wr W37).wr W44).wr W52).wr W62).wr W71)
  refine Gk.aastore X80 hx hZ e80 H87 2 rfl ⟨by decide, by decide⟩ rfl rfl (Or.inr ⟨_, _, rfl, O_ev, Ins.self H88⟩) (hb hby d9_345) ?_
  intro T81 h81 X81 e81 W81 V81
  have N81 := Fr.snoc X81 N71 (Nat.le_trans g_a1 (Nat.le_of_lt (Nat.lt_trans lt0 (Nat.lt_trans lt1 (Nat.lt_trans lt2 (Nat.lt_trans lt3 (Nat.lt_trans lt4 (Nat.lt_trans lt5 (Nat.lt_trans lt6 lt7)))))))))
  refine Gk.aloadN X81 hx (hb hby d9_346) rfl rfl ?_
  have ne89 : a1 ≠ x_events := (Nat.ne_of_lt (Nat.lt_trans lt0 (Nat.lt_trans lt1 (Nat.lt_trans lt2 (Nat.lt_trans lt3 (Nat.lt_trans lt4 (Nat.lt_trans lt5 (Nat.lt_trans lt6 lt7))))))))
  have H90 := ((((((((F_ranks.keep K2 (ninS (Nat.ne_of_lt lt0) nin0)).keep K30 (ninS (Nat.ne_of_lt (Nat.lt_trans lt0 lt1)) nin0)).other W37 (Or.inl ne39)).other W44 (Or.inl ne47)).other W52 (Or.inl ne57)).other W62 (Or.inl ne66)).other W71 (Or.inl ne76)).other W81 (Or.inl ne89))
  refine Gk.getF X81 hx hZ hown (host := "") (Or.inl (hw _ (List.mem_of_getElem? (i := 57) rfl))) Via.refl e81 H90 (hb hby d9_347) ?_
  intro T91 X91 e91
  refine Gk.aloadN X91 hx (hb hby d9_350) rfl rfl ?_
  have H92 := (H79.other W81 (Or.inl ne89))
  refine Gk.getF X91 hx hZ hown (host := "") (Or.inl (hw _ (List.mem_of_getElem? (i := 104) rfl))) Via.refl e91 H92 (hb hby d9_351) ?_
  intro T93 X93 e93
  refine Gk.iload X93 hx (hb hby d9_354) rfl ?_
  have ne95 : ab ≠ x_ranks := (Nat.ne_of_lt (Nat.lt_trans lt1 (Nat.lt_trans lt2 (Nat.lt_trans lt3 (Nat.lt_trans lt4 (Nat.lt_trans lt5 (Nat.lt_trans lt6 (Nat.lt_trans lt7 lt8))))))))
  have ne96 : x_states ≠ x_ranks := (Nat.ne_of_lt (Nat.lt_trans lt2 (Nat.lt_trans lt3 (Nat.lt_trans lt4 (Nat.lt_trans lt5 (Nat.lt_trans lt6 (Nat.lt_trans lt7 lt8)))))))
  have ne97 : x_hashes ≠ x_ranks := (Nat.ne_of_lt (Nat.lt_trans lt3 (Nat.lt_trans lt4 (Nat.lt_trans lt5 (Nat.lt_trans lt6 (Nat.lt_trans lt7 lt8))))))
  have ne98 : x_zones ≠ x_ranks := (Nat.ne_of_lt (Nat.lt_trans lt4 (Nat.lt_trans lt5 (Nat.lt_trans lt6 (Nat.lt_trans lt7 lt8)))))
  have ne99 : x_held ≠ x_ranks := (Nat.ne_of_lt (Nat.lt_trans lt6 (Nat.lt_trans lt7 lt8)))
  have ne100 : x_sameStates ≠ x_ranks := (Nat.ne_of_lt (Nat.lt_trans lt5 (Nat.lt_trans lt6 (Nat.lt_trans lt7 lt8))))
  have H101 := ((((((((V_ranks.keep K2 (ninS (Ne.symm ne95) nin0)).keep K30 (ninS (Ne.symm ne96) nin0)).other W37 (Ne.symm ne97)).other W44 (Ne.symm ne98)).other W52 (Ne.symm ne99)).other W62 (Ne.symm ne100)).other W71 (Ne.symm (Nat.ne_of_lt (Nat.lt_trans lt7 lt8)))).other W81 (Ne.symm (Nat.ne_of_lt lt8)))
  refine Gk.iastore X93 hx hZ e93 H101 2 rfl ⟨by decide, by decide⟩ (.int (0 : Int32)) rfl (hb hby d9_356) ?_
  intro T94 h94 X94 e94 W94 V94
  have N94 := Fr.snoc X94 N81 (Nat.le_trans g_a1 (Nat.le_of_lt (Nat.lt_trans lt0 (Nat.lt_trans lt1 (Nat.lt_trans lt2 (Nat.lt_trans lt3 (Nat.lt_trans lt4 (Nat.lt_trans lt5 (Nat.lt_trans lt6 (Nat.lt_trans lt7 lt8))))))))))
  refine Gk.aloadN X94 hx (hb hby d9_357) rfl rfl ?_
  have ne102 : a1 ≠ x_ranks := (Nat.ne_of_lt (Nat.lt_trans lt0 (Nat.lt_trans lt1 (Nat.lt_trans lt2 (Nat.lt_trans lt3 (Nat.lt_trans lt4 (Nat.lt_trans lt5 (Nat.lt_trans lt6 (Nat.lt_trans lt7 lt8)))))))))
  have H103 := (((((((((F_reached.keep K2 (ninS (Nat.ne_of_lt lt0) nin0)).keep K30 (ninS (Nat.ne_of_lt (Nat.lt_trans lt0 lt1)) nin0)).other W37 (Or.inl ne39)).other W44 (Or.inl ne47)).other W52 (Or.inl ne57)).other W62 (Or.inl ne66)).other W71 (Or.inl ne76)).other W81 (Or.inl ne89)).other W94 (Or.inl ne102))
  refine Gk.getF X94 hx hZ hown (host := "") (Or.inl (hw _ (List.mem_of_getElem? (i := 69) rfl))) Via.refl e94 H103 (hb hby d9_358) ?_
  intro T104 X104 e104
  refine Gk.iload X104 hx (hb hby d9_361) rfl ?_
  have ne106 : ab ≠ x_reached := (Nat.ne_of_lt (Nat.lt_trans lt1 (Nat.lt_trans lt2 (Nat.lt_trans lt3 (Nat.lt_trans lt4 (Nat.lt_trans lt5 (Nat.lt_trans lt6 (Nat.lt_trans lt7 (Nat.lt_trans lt8 (Nat.lt_trans lt9 (Nat.lt_trans lt10 (Nat.lt_trans lt11 lt12))))))))))))
  have ne107 : x_states ≠ x_reached := (Nat.ne_of_lt (Nat.lt_trans lt2 (Nat.lt_trans lt3 (Nat.lt_trans lt4 (Nat.lt_trans lt5 (Nat.lt_trans lt6 (Nat.lt_trans lt7 (Nat.lt_trans lt8 (Nat.lt_trans lt9 (Nat.lt_trans lt10 (Nat.lt_trans lt11 lt12)))))))))))
  have ne108 : x_hashes ≠ x_reached := (Nat.ne_of_lt (Nat.lt_trans lt3 (Nat.lt_trans lt4 (Nat.lt_trans lt5 (Nat.lt_trans lt6 (Nat.lt_trans lt7 (Nat.lt_trans lt8 (Nat.lt_trans lt9 (Nat.lt_trans lt10 (Nat.lt_trans lt11 lt12))))))))))
  have ne109 : x_zones ≠ x_reached := (Nat.ne_of_lt (Nat.lt_trans lt4 (Nat.lt_trans lt5 (Nat.lt_trans lt6 (Nat.lt_trans lt7 (Nat.lt_trans lt8 (Nat.lt_trans lt9 (Nat.lt_trans lt10 (Nat.lt_trans lt11 lt12)))))))))
  have ne110 : x_held ≠ x_reached := (Nat.ne_of_lt (Nat.lt_trans lt6 (Nat.lt_trans lt7 (Nat.lt_trans lt8 (Nat.lt_trans lt9 (Nat.lt_trans lt10 (Nat.lt_trans lt11 lt12)))))))
  have ne111 : x_sameStates ≠ x_reached := (Nat.ne_of_lt (Nat.lt_trans lt5 (Nat.lt_trans lt6 (Nat.lt_trans lt7 (Nat.lt_trans lt8 (Nat.lt_trans lt9 (Nat.lt_trans lt10 (Nat.lt_trans lt11 lt12))))))))
  have ne112 : x_parents ≠ x_reached := (Nat.ne_of_lt (Nat.lt_trans lt7 (Nat.lt_trans lt8 (Nat.lt_trans lt9 (Nat.lt_trans lt10 (Nat.lt_trans lt11 lt12))))))
  have ne113 : x_events ≠ x_reached := (Nat.ne_of_lt (Nat.lt_trans lt8 (Nat.lt_trans lt9 (Nat.lt_trans lt10 (Nat.lt_trans lt11 lt12)))))
  have ne114 : x_ranks ≠ x_reached := (Nat.ne_of_lt (Nat.lt_trans lt9 (Nat.lt_trans lt10 (Nat.lt_trans lt11 lt12))))
  have H115 := (((((((((V_reached.keep K2 (ninS (Ne.symm ne106) nin0)).keep K30 (ninS (Ne.symm ne107) nin0)).other W37 (Ne.symm ne108)).other W44 (Ne.symm ne109)).other W52 (Ne.symm ne110)).other W62 (Ne.symm ne111)).other W71 (Ne.symm ne112)).other W81 (Ne.symm ne113)).other W94 (Ne.symm ne114))
  refine Gk.iaload X104 hx hZ e104 H115 ⟨by decide, by decide⟩ (.int (2 : Int32)) h_reached_0 (hb hby d9_363) ?_
  refine Gk.aloadN X104 hx (hb hby d9_364) rfl rfl ?_
  have H116 := (((((((((F_ranked.keep K2 (ninS (Nat.ne_of_lt lt0) nin0)).keep K30 (ninS (Nat.ne_of_lt (Nat.lt_trans lt0 lt1)) nin0)).other W37 (Or.inl ne39)).other W44 (Or.inl ne47)).other W52 (Or.inl ne57)).other W62 (Or.inl ne66)).other W71 (Or.inl ne76)).other W81 (Or.inl ne89)).other W94 (Or.inl ne102))
  refine Gk.getF X104 hx hZ hown (host := "") (Or.inl (hw _ (List.mem_of_getElem? (i := 67) rfl))) Via.refl e104 H116 (hb hby d9_365) ?_
  intro T117 X117 e117
  refine Gk.iload X117 hx (hb hby d9_368) rfl ?_
  have ne119 : ab ≠ x_ranked := (Nat.ne_of_lt (Nat.lt_trans lt1 (Nat.lt_trans lt2 (Nat.lt_trans lt3 (Nat.lt_trans lt4 (Nat.lt_trans lt5 (Nat.lt_trans lt6 (Nat.lt_trans lt7 (Nat.lt_trans lt8 (Nat.lt_trans lt9 lt10))))))))))
  have ne120 : x_states ≠ x_ranked := (Nat.ne_of_lt (Nat.lt_trans lt2 (Nat.lt_trans lt3 (Nat.lt_trans lt4 (Nat.lt_trans lt5 (Nat.lt_trans lt6 (Nat.lt_trans lt7 (Nat.lt_trans lt8 (Nat.lt_trans lt9 lt10)))))))))
  have ne121 : x_hashes ≠ x_ranked := (Nat.ne_of_lt (Nat.lt_trans lt3 (Nat.lt_trans lt4 (Nat.lt_trans lt5 (Nat.lt_trans lt6 (Nat.lt_trans lt7 (Nat.lt_trans lt8 (Nat.lt_trans lt9 lt10))))))))
  have ne122 : x_zones ≠ x_ranked := (Nat.ne_of_lt (Nat.lt_trans lt4 (Nat.lt_trans lt5 (Nat.lt_trans lt6 (Nat.lt_trans lt7 (Nat.lt_trans lt8 (Nat.lt_trans lt9 lt10)))))))
  have ne123 : x_held ≠ x_ranked := (Nat.ne_of_lt (Nat.lt_trans lt6 (Nat.lt_trans lt7 (Nat.lt_trans lt8 (Nat.lt_trans lt9 lt10)))))
  have ne124 : x_sameStates ≠ x_ranked := (Nat.ne_of_lt (Nat.lt_trans lt5 (Nat.lt_trans lt6 (Nat.lt_trans lt7 (Nat.lt_trans lt8 (Nat.lt_trans lt9 lt10))))))
  have ne125 : x_parents ≠ x_ranked := (Nat.ne_of_lt (Nat.lt_trans lt7 (Nat.lt_trans lt8 (Nat.lt_trans lt9 lt10))))
  have ne126 : x_events ≠ x_ranked := (Nat.ne_of_lt (Nat.lt_trans lt8 (Nat.lt_trans lt9 lt10)))
  have H127 := (((((((((V_ranked.keep K2 (ninS (Ne.symm ne119) nin0)).keep K30 (ninS (Ne.symm ne120) nin0)).other W37 (Ne.symm ne121)).other W44 (Ne.symm ne122)).other W52 (Ne.symm ne123)).other W62 (Ne.symm ne124)).other W71 (Ne.symm ne125)).other W81 (Ne.symm ne126)).other W94 (Ne.symm (Nat.ne_of_lt (Nat.lt_trans lt9 lt10))))
  refine Gk.aaload X117 hx hZ e117 H127 rfl ⟨by decide, by decide⟩ (.ref x_rk0) h_ranked_0 (hb hby d9_370) ?_
  have ne128 : ab ≠ x_rk0 := (Nat.ne_of_lt (Nat.lt_trans lt1 (Nat.lt_trans lt2 (Nat.lt_trans lt3 (Nat.lt_trans lt4 (Nat.lt_trans lt5 (Nat.lt_trans lt6 (Nat.lt_trans lt7 (Nat.lt_trans lt8 (Nat.lt_trans lt9 (Nat.lt_trans lt10 lt11)))))))))))
  have ne129 : x_states ≠ x_rk0 := (Nat.ne_of_lt (Nat.lt_trans lt2 (Nat.lt_trans lt3 (Nat.lt_trans lt4 (Nat.lt_trans lt5 (Nat.lt_trans lt6 (Nat.lt_trans lt7 (Nat.lt_trans lt8 (Nat.lt_trans lt9 (Nat.lt_trans lt10 lt11))))))))))
  have ne130 : x_hashes ≠ x_rk0 := (Nat.ne_of_lt (Nat.lt_trans lt3 (Nat.lt_trans lt4 (Nat.lt_trans lt5 (Nat.lt_trans lt6 (Nat.lt_trans lt7 (Nat.lt_trans lt8 (Nat.lt_trans lt9 (Nat.lt_trans lt10 lt11)))))))))
  have ne131 : x_zones ≠ x_rk0 := (Nat.ne_of_lt (Nat.lt_trans lt4 (Nat.lt_trans lt5 (Nat.lt_trans lt6 (Nat.lt_trans lt7 (Nat.lt_trans lt8 (Nat.lt_trans lt9 (Nat.lt_trans lt10 lt11))))))))
  have ne132 : x_held ≠ x_rk0 := (Nat.ne_of_lt (Nat.lt_trans lt6 (Nat.lt_trans lt7 (Nat.lt_trans lt8 (Nat.lt_trans lt9 (Nat.lt_trans lt10 lt11))))))
  have ne133 : x_sameStates ≠ x_rk0 := (Nat.ne_of_lt (Nat.lt_trans lt5 (Nat.lt_trans lt6 (Nat.lt_trans lt7 (Nat.lt_trans lt8 (Nat.lt_trans lt9 (Nat.lt_trans lt10 lt11)))))))
  have ne134 : x_parents ≠ x_rk0 := (Nat.ne_of_lt (Nat.lt_trans lt7 (Nat.lt_trans lt8 (Nat.lt_trans lt9 (Nat.lt_trans lt10 lt11)))))
  have ne135 : x_events ≠ x_rk0 := (Nat.ne_of_lt (Nat.lt_trans lt8 (Nat.lt_trans lt9 (Nat.lt_trans lt10 lt11))))
  have ne136 : x_ranks ≠ x_rk0 := (Nat.ne_of_lt (Nat.lt_trans lt9 (Nat.lt_trans lt10 lt11)))
  have H137 := (((((((((V_rk0.keep K2 (ninS (Ne.symm ne128) nin0)).keep K30 (ninS (Ne.symm ne129) nin0)).other W37 (Ne.symm ne130)).other W44 (Ne.symm ne131)).other W52 (Ne.symm ne132)).other W62 (Ne.symm ne133)).other W71 (Ne.symm ne134)).other W81 (Ne.symm ne135)).other W94 (Ne.symm ne136))
  refine Gk.alen X117 hx hZ e117 H137 (hb hby d9_371) ?_
  refine Gk.icmpYes X117 hx (hb hby d9_372) (feq (by decide : ¬ ((2 : Int32) = (8 : Int32)))).2 401 (by decide) (by decide) ?_
  refine Gk.aloadN X117 hx (hb hby d9_401) rfl rfl ?_
  refine Gk.getF X117 hx hZ hown (host := "") (Or.inl (hw _ (List.mem_of_getElem? (i := 67) rfl))) Via.refl e117 H116 (hb hby d9_402) ?_
  intro T138 X138 e138
  refine Gk.iload X138 hx (hb hby d9_405) rfl ?_
  refine Gk.aaload X138 hx hZ e138 H127 rfl ⟨by decide, by decide⟩ (.ref x_rk0) h_ranked_0 (hb hby d9_407) ?_
  refine Gk.aloadN X138 hx (hb hby d9_408) rfl rfl ?_
  refine Gk.getF X138 hx hZ hown (host := "") (Or.inl (hw _ (List.mem_of_getElem? (i := 69) rfl))) Via.refl e138 H103 (hb hby d9_409) ?_
  intro T140 X140 e140
  refine Gk.iload X140 hx (hb hby d9_412) rfl ?_
  refine Gk.dup2 X140 hx (hb hby d9_414) rfl rfl ?_
  refine Gk.iaload X140 hx hZ e140 H115 ⟨by decide, by decide⟩ (.int (2 : Int32)) h_reached_0 (hb hby d9_415) ?_
  refine Gk.dupX2 X140 hx (hb hby d9_416) rfl rfl rfl ?_
  refine Gk.iconst X140 hx (hb hby d9_417) (1 : Int32) rfl ?_
  refine Gk.iadd X140 hx (hb hby d9_418) (3 : Int32) (by decide) ?_
  refine Gk.iastore X140 hx hZ e140 H115 0 rfl ⟨by decide, by decide⟩ (.int (3 : Int32)) rfl (hb hby d9_419) ?_
  intro T142 h142 X142 e142 W142 V142
  have N142 := Fr.snoc X142 N94 (Nat.le_trans g_a1 (Nat.le_of_lt (Nat.lt_trans lt0 (Nat.lt_trans lt1 (Nat.lt_trans lt2 (Nat.lt_trans lt3 (Nat.lt_trans lt4 (Nat.lt_trans lt5 (Nat.lt_trans lt6 (Nat.lt_trans lt7 (Nat.lt_trans lt8 (Nat.lt_trans lt9 (Nat.lt_trans lt10 (Nat.lt_trans lt11 lt12))))))))))))))
  refine Gk.aloadN X142 hx (hb hby d9_420) rfl rfl ?_
  have ne143 : a1 ≠ x_reached := (Nat.ne_of_lt (Nat.lt_trans lt0 (Nat.lt_trans lt1 (Nat.lt_trans lt2 (Nat.lt_trans lt3 (Nat.lt_trans lt4 (Nat.lt_trans lt5 (Nat.lt_trans lt6 (Nat.lt_trans lt7 (Nat.lt_trans lt8 (Nat.lt_trans lt9 (Nat.lt_trans lt10 (Nat.lt_trans lt11 lt12)))))))))))))
  have H144 := ((H92.other W94 (Or.inl ne102)).other W142 (Or.inl ne143))
  refine Gk.getF X142 hx hZ hown (host := "") (Or.inl (hw _ (List.mem_of_getElem? (i := 104) rfl))) Via.refl e142 H144 (hb hby d9_421) ?_
  intro T145 X145 e145
  have H147 := (H137.other W142 (Nat.ne_of_lt lt12))
  refine Gk.iastore X145 hx hZ e145 H147 2 rfl ⟨by decide, by decide⟩ (.int (2 : Int32)) rfl (hb hby d9_424) ?_
  intro T146 h146 X146 e146 W146 V146
  have N146 := Fr.snoc X146 N142 (Nat.le_trans g_a1 (Nat.le_of_lt (Nat.lt_trans lt0 (Nat.lt_trans lt1 (Nat.lt_trans lt2 (Nat.lt_trans lt3 (Nat.lt_trans lt4 (Nat.lt_trans lt5 (Nat.lt_trans lt6 (Nat.lt_trans lt7 (Nat.lt_trans lt8 (Nat.lt_trans lt9 (Nat.lt_trans lt10 lt11)))))))))))))
  refine Gk.aloadN X146 hx (hb hby d9_425) rfl rfl ?_
  refine Gk.aloadN X146 hx (hb hby d9_426) rfl rfl ?_
  have ne148 : a1 ≠ x_rk0 := (Nat.ne_of_lt (Nat.lt_trans lt0 (Nat.lt_trans lt1 (Nat.lt_trans lt2 (Nat.lt_trans lt3 (Nat.lt_trans lt4 (Nat.lt_trans lt5 (Nat.lt_trans lt6 (Nat.lt_trans lt7 (Nat.lt_trans lt8 (Nat.lt_trans lt9 (Nat.lt_trans lt10 lt11))))))))))))
  have H149 := (((((((((((F_lowest.keep K2 (ninS (Nat.ne_of_lt lt0) nin0)).keep K30 (ninS (Nat.ne_of_lt (Nat.lt_trans lt0 lt1)) nin0)).other W37 (Or.inl ne39)).other W44 (Or.inl ne47)).other W52 (Or.inl ne57)).other W62 (Or.inl ne66)).other W71 (Or.inl ne76)).other W81 (Or.inl ne89)).other W94 (Or.inl ne102)).other W142 (Or.inl ne143)).other W146 (Or.inl ne148))
  refine Gk.getF X146 hx hZ hown (host := "") (Or.inl (hw _ (List.mem_of_getElem? (i := 110) rfl))) Via.refl e146 H149 (hb hby d9_427) ?_
  intro T150 X150 e150
  refine Gk.iload X150 hx (hb hby d9_430) rfl ?_
  have gr152 := (Nat.le_trans (Nat.le_trans (Nat.le_trans (Nat.le_trans (Nat.le_trans (Nat.le_trans (Nat.le_trans (Nat.le_trans (Nat.le_trans (Nat.le_trans K2.1 K30.1) (Keep.of_wr W37).1) (Keep.of_wr W44).1) (Keep.of_wr W52).1) (Keep.of_wr W62).1) (Keep.of_wr W71).1) (Keep.of_wr W81).1) (Keep.of_wr W94).1) (Keep.of_wr W142).1) (Keep.of_wr W146).1)
  refine Gk.callS (argsL := [(.int (0 : Int32)), (.int (0 : Int32))]) X150 hx hZ hown (rm13 l Z a0 hw [] (0 : Int32) (0 : Int32) h146 n0 (Nat.le_trans Z0 gr152)) (hw _ (List.mem_of_getElem? (i := 112) rfl)) (hw _ (List.mem_of_getElem? (i := 113) rfl)) (hw _ (List.mem_of_getElem? (i := 114) rfl)) (hw _ (List.mem_of_getElem? (i := 115) rfl)) (by decide) e150 pd_1 rfl rfl (by decide) (Nat.le_of_ble_eq_true rfl) (by decide) (by decide) (by rw [hml]; rfl)  rfl (hb hby d9_432) ?_
  intro T151 L151 v151 X151 hQ151
  obtain ⟨rfl, N151q, e151⟩ := hQ151
  have N151 := Fr.app N146 N151q
  show Go p e below (T151.setTop (mkF m 435 #[.val (.ref a1), .val (.ref a2), .val (.int (-1023800488 : Int32)), .val .null, .val (.int p5), .val (.ref a6), .val (.int (0 : Int32)), .val (.int (-1 : Int32)), .val (.int (31 : Int32)), .val (.int (24 : Int32))] [(.int (if (0 : Int32) < (0 : Int32) then (0 : Int32) else (0 : Int32))), (.ref a1)])) _
  rw [show (if (0 : Int32) < (0 : Int32) then (0 : Int32) else (0 : Int32)) = (0 : Int32) from by decide]
  have H153 := ((((((((((H9.keep K30).wr W37).wr W44).wr W52).wr W62).wr W71).wr W81).wr W94).wr W142).wr W146)
  refine Gk.putF X151 hx hZ hown (host := "") (Or.inl (hw _ (List.mem_of_getElem? (i := 110) rfl))) Via.refl e151 H149 H153 (Or.inl (hw _ (List.mem_of_getElem? (i := 111) rfl))) (hw _ (List.mem_of_getElem? (i := 23) rfl)) (ty := .int) (by decide) rfl rfl (hb hby d9_435) ?_
  intro T154 h154 X154 e154 W154
  have Fw154 := H149.same W154
  have N154 := Fr.snoc X154 N151 g_a1
  refine Gk.aloadN X154 hx (hb hby d9_438) rfl rfl ?_
  refine Gk.dup X154 hx (hb hby d9_439) rfl ?_
  have H155 := ((H144.other W146 (Or.inl ne148)).other W154 (Or.inr (slot_ne (Or.inl (hw _ (List.mem_of_getElem? (i := 105) rfl))) (Or.inl (hw _ (List.mem_of_getElem? (i := 111) rfl))) (by decide) (t := .int) (t' := .int) (by decide) (by decide))))
  refine Gk.getF X154 hx hZ hown (host := "") (Or.inl (hw _ (List.mem_of_getElem? (i := 104) rfl))) Via.refl e154 H155 (hb hby d9_440) ?_
  intro T156 X156 e156
  refine Gk.iconst X156 hx (hb hby d9_443) (1 : Int32) rfl ?_
  refine Gk.iadd X156 hx (hb hby d9_444) (3 : Int32) (by decide) ?_
  have H157 := (H153.wr W154)
  refine Gk.putF X156 hx hZ hown (host := "") (Or.inl (hw _ (List.mem_of_getElem? (i := 104) rfl))) Via.refl e156 H155 H157 (Or.inl (hw _ (List.mem_of_getElem? (i := 105) rfl))) (hw _ (List.mem_of_getElem? (i := 23) rfl)) (ty := .int) (by decide) rfl rfl (hb hby d9_445) ?_
  intro T158 h158 X158 e158 W158
  have Fw158 := H155.same W158
  have N158 := Fr.snoc X158 N154 g_a1
  refine Gk.aloadN X158 hx (hb hby d9_448) rfl rfl ?_
  have H159 := ((((((((((((H7.keep K30 (ninS (Nat.ne_of_lt (Nat.lt_trans lt0 lt1)) nin0)).other W37 (Or.inl ne39)).other W44 (Or.inl ne47)).other W52 (Or.inl ne57)).other W62 (Or.inl ne66)).other W71 (Or.inl ne76)).other W81 (Or.inl ne89)).other W94 (Or.inl ne102)).other W142 (Or.inl ne143)).other W146 (Or.inl ne148)).other W154 (Or.inr (slot_ne (Or.inl (hw _ (List.mem_of_getElem? (i := 60) rfl))) (Or.inl (hw _ (List.mem_of_getElem? (i := 111) rfl))) (by decide) (t := (.array .int)) (t' := .int) (by decide) (by decide)))).other W158 (Or.inr (slot_ne (Or.inl (hw _ (List.mem_of_getElem? (i := 60) rfl))) (Or.inl (hw _ (List.mem_of_getElem? (i := 105) rfl))) (by decide) (t := (.array .int)) (t' := .int) (by decide) (by decide))))
  refine Gk.getF X158 hx hZ hown (host := "") (Or.inl (hw _ (List.mem_of_getElem? (i := 59) rfl))) Via.refl e158 H159 (hb hby d9_449) ?_
  intro T160 X160 e160
  refine Gk.iload X160 hx (hb hby d9_452) rfl ?_
  refine Gk.aloadN X160 hx (hb hby d9_454) rfl rfl ?_
  refine Gk.getF X160 hx hZ hown (host := "") (Or.inl (hw _ (List.mem_of_getElem? (i := 104) rfl))) Via.refl e160 Fw158 (hb hby d9_455) ?_
  intro T161 X161 e161
  have ne163 : x_states ≠ x_slots := (Nat.ne_of_lt (Nat.lt_trans lt2 (Nat.lt_trans lt3 (Nat.lt_trans lt4 (Nat.lt_trans lt5 (Nat.lt_trans lt6 (Nat.lt_trans lt7 (Nat.lt_trans lt8 lt9))))))))
  have ne164 : x_hashes ≠ x_slots := (Nat.ne_of_lt (Nat.lt_trans lt3 (Nat.lt_trans lt4 (Nat.lt_trans lt5 (Nat.lt_trans lt6 (Nat.lt_trans lt7 (Nat.lt_trans lt8 lt9)))))))
  have ne165 : x_zones ≠ x_slots := (Nat.ne_of_lt (Nat.lt_trans lt4 (Nat.lt_trans lt5 (Nat.lt_trans lt6 (Nat.lt_trans lt7 (Nat.lt_trans lt8 lt9))))))
  have ne166 : x_held ≠ x_slots := (Nat.ne_of_lt (Nat.lt_trans lt6 (Nat.lt_trans lt7 (Nat.lt_trans lt8 lt9))))
  have ne167 : x_sameStates ≠ x_slots := (Nat.ne_of_lt (Nat.lt_trans lt5 (Nat.lt_trans lt6 (Nat.lt_trans lt7 (Nat.lt_trans lt8 lt9)))))
  have ne168 : x_parents ≠ x_slots := (Nat.ne_of_lt (Nat.lt_trans lt7 (Nat.lt_trans lt8 lt9)))
  have ne169 : x_slots ≠ x_reached := (Nat.ne_of_lt (Nat.lt_trans lt10 (Nat.lt_trans lt11 lt12)))
  have ne170 : a1 ≠ x_slots := (Nat.ne_of_lt (Nat.lt_trans lt0 (Nat.lt_trans lt1 (Nat.lt_trans lt2 (Nat.lt_trans lt3 (Nat.lt_trans lt4 (Nat.lt_trans lt5 (Nat.lt_trans lt6 (Nat.lt_trans lt7 (Nat.lt_trans lt8 lt9))))))))))
  have H171 := ((((((((((((H5.keep K30 (ninS (Ne.symm ne163) nin0)).other W37 (Ne.symm ne164)).other W44 (Ne.symm ne165)).other W52 (Ne.symm ne166)).other W62 (Ne.symm ne167)).other W71 (Ne.symm ne168)).other W81 (Ne.symm (Nat.ne_of_lt (Nat.lt_trans lt8 lt9)))).other W94 (Ne.symm (Nat.ne_of_lt lt9))).other W142 ne169).other W146 (Nat.ne_of_lt (Nat.lt_trans lt10 lt11))).other W154 (Ne.symm ne170)).other W158 (Ne.symm ne170))
  refine Gk.iastore X161 hx hZ e161 H171 24 rfl ⟨by decide, by decide⟩ (.int (3 : Int32)) rfl (hb hby d9_458) ?_
  intro T162 h162 X162 e162 W162 V162
  have N162 := Fr.snoc X162 N158 (Nat.le_trans g_a1 (Nat.le_of_lt (Nat.lt_trans lt0 (Nat.lt_trans lt1 (Nat.lt_trans lt2 (Nat.lt_trans lt3 (Nat.lt_trans lt4 (Nat.lt_trans lt5 (Nat.lt_trans lt6 (Nat.lt_trans lt7 (Nat.lt_trans lt8 lt9)))))))))))
  refine Gk.aloadN X162 hx (hb hby d9_459) rfl rfl ?_
  have H172 := (Fw158.other W162 (Or.inl ne170))
  refine Gk.getF X162 hx hZ hown (host := "") (Or.inl (hw _ (List.mem_of_getElem? (i := 104) rfl))) Via.refl e162 H172 (hb hby d9_460) ?_
  intro T173 X173 e173
  refine Gk.iconst X173 hx (hb hby d9_463) (2 : Int32) rfl ?_
  refine Gk.imul X173 hx (hb hby d9_464) (6 : Int32) (by decide) ?_
  refine Gk.aloadN X173 hx (hb hby d9_465) rfl rfl ?_
  have H174 := (H159.other W162 (Or.inl ne170))
  refine Gk.getF X173 hx hZ hown (host := "") (Or.inl (hw _ (List.mem_of_getElem? (i := 59) rfl))) Via.refl e173 H174 (hb hby d9_466) ?_
  intro T175 X175 e175
  refine Gk.alen X175 hx hZ e175 V162 (hb hby d9_469) ?_
  refine Gk.icmpYes X175 hx (hb hby d9_470) (flt (by decide : ¬ ((32 : Int32) < (6 : Int32)))).2.2.2 477 (by decide) (by decide) ?_
  have H176 := (((((((((((((Fl2.keep K30 (ninS (Nat.ne_of_lt lt1) nin0)).other W37 (Or.inl (Nat.ne_of_lt (Nat.lt_trans lt1 lt2)))).other W44 (Or.inl ne45)).other W52 (Or.inl ne53)).other W62 (Or.inl ne63)).other W71 (Or.inl ne18)).other W81 (Or.inl ne82)).other W94 (Or.inl ne95)).other W142 (Or.inl ne106)).other W146 (Or.inl ne128)).other W154 (Or.inl (Ne.symm (Nat.ne_of_lt lt0)))).other W158 (Or.inl (Ne.symm (Nat.ne_of_lt lt0)))).other W162 (Or.inl ne4))
  have H177 := ((Fw154.other W158 (Or.inr (slot_ne (Or.inl (hw _ (List.mem_of_getElem? (i := 111) rfl))) (Or.inl (hw _ (List.mem_of_getElem? (i := 105) rfl))) (by decide) (t := .int) (t' := .int) (by decide) (by decide)))).other W162 (Or.inl ne170))
  have H178 := (((((((((((((H23.keep K30 (ninS (Nat.ne_of_lt (Nat.lt_trans lt0 lt1)) nin0)).other W37 (Or.inl ne39)).other W44 (Or.inl ne47)).other W52 (Or.inl ne57)).other W62 (Or.inl ne66)).other W71 (Or.inl ne76)).other W81 (Or.inl ne89)).other W94 (Or.inl ne102)).other W142 (Or.inl ne143)).other W146 (Or.inl ne148)).other W154 (Or.inr (slot_ne (Or.inl (hw _ (List.mem_of_getElem? (i := 40) rfl))) (Or.inl (hw _ (List.mem_of_getElem? (i := 111) rfl))) (by decide) (t := (.array .int)) (t' := .int) (by decide) (by decide)))).other W158 (Or.inr (slot_ne (Or.inl (hw _ (List.mem_of_getElem? (i := 40) rfl))) (Or.inl (hw _ (List.mem_of_getElem? (i := 105) rfl))) (by decide) (t := (.array .int)) (t' := .int) (by decide) (by decide)))).other W162 (Or.inl ne170))
  have H179 := ((((((((((((H33.other W37 (Or.inl ne39)).other W44 (Or.inl ne47)).other W52 (Or.inl ne57)).other W62 (Or.inl ne66)).other W71 (Or.inl ne76)).other W81 (Or.inl ne89)).other W94 (Or.inl ne102)).other W142 (Or.inl ne143)).other W146 (Or.inl ne148)).other W154 (Or.inr (slot_ne (Or.inl (hw _ (List.mem_of_getElem? (i := 42) rfl))) (Or.inl (hw _ (List.mem_of_getElem? (i := 111) rfl))) (by decide) (t := (.array .int)) (t' := .int) (by decide) (by decide)))).other W158 (Or.inr (slot_ne (Or.inl (hw _ (List.mem_of_getElem? (i := 42) rfl))) (Or.inl (hw _ (List.mem_of_getElem? (i := 105) rfl))) (by decide) (t := (.array .int)) (t' := .int) (by decide) (by decide)))).other W162 (Or.inl ne170))
  have H180 := (((((((((((H40.other W44 (Or.inl ne47)).other W52 (Or.inl ne57)).other W62 (Or.inl ne66)).other W71 (Or.inl ne76)).other W81 (Or.inl ne89)).other W94 (Or.inl ne102)).other W142 (Or.inl ne143)).other W146 (Or.inl ne148)).other W154 (Or.inr (slot_ne (Or.inl (hw _ (List.mem_of_getElem? (i := 46) rfl))) (Or.inl (hw _ (List.mem_of_getElem? (i := 111) rfl))) (by decide) (t := (.array (.object "com/example/tracewarden/tracewarden/engine/Zone"))) (t' := .int) (by decide) (by decide)))).other W158 (Or.inr (slot_ne (Or.inl (hw _ (List.mem_of_getElem? (i := 46) rfl))) (Or.inl (hw _ (List.mem_of_getElem? (i := 105) rfl))) (by decide) (t := (.array (.object "com/example/tracewarden/tracewarden/engine/Zone"))) (t' := .int) (by decide) (by decide)))).other W162 (Or.inl ne170))
  have H181 := (((((((((H58.other W62 (Or.inl ne66)).other W71 (Or.inl ne76)).other W81 (Or.inl ne89)).other W94 (Or.inl ne102)).other W142 (Or.inl ne143)).other W146 (Or.inl ne148)).other W154 (Or.inr (slot_ne (Or.inl (hw _ (List.mem_of_getElem? (i := 48) rfl))) (Or.inl (hw _ (List.mem_of_getElem? (i := 111) rfl))) (by decide) (t := (.array .int)) (t' := .int) (by decide) (by decide)))).other W158 (Or.inr (slot_ne (Or.inl (hw _ (List.mem_of_getElem? (i := 48) rfl))) (Or.inl (hw _ (List.mem_of_getElem? (i := 105) rfl))) (by decide) (t := (.array .int)) (t' := .int) (by decide) (by decide)))).other W162 (Or.inl ne170))
  have H182 := ((((((((((H48.other W52 (Or.inl ne57)).other W62 (Or.inl ne66)).other W71 (Or.inl ne76)).other W81 (Or.inl ne89)).other W94 (Or.inl ne102)).other W142 (Or.inl ne143)).other W146 (Or.inl ne148)).other W154 (Or.inr (slot_ne (Or.inl (hw _ (List.mem_of_getElem? (i := 51) rfl))) (Or.inl (hw _ (List.mem_of_getElem? (i := 111) rfl))) (by decide) (t := (.array .boolean)) (t' := .int) (by decide) (by decide)))).other W158 (Or.inr (slot_ne (Or.inl (hw _ (List.mem_of_getElem? (i := 51) rfl))) (Or.inl (hw _ (List.mem_of_getElem? (i := 105) rfl))) (by decide) (t := (.array .boolean)) (t' := .int) (by decide) (by decide)))).other W162 (Or.inl ne170))
  have H183 := ((((((((H67.other W71 (Or.inl ne76)).other W81 (Or.inl ne89)).other W94 (Or.inl ne102)).other W142 (Or.inl ne143)).other W146 (Or.inl ne148)).other W154 (Or.inr (slot_ne (Or.inl (hw _ (List.mem_of_getElem? (i := 53) rfl))) (Or.inl (hw _ (List.mem_of_getElem? (i := 111) rfl))) (by decide) (t := (.array .int)) (t' := .int) (by decide) (by decide)))).other W158 (Or.inr (slot_ne (Or.inl (hw _ (List.mem_of_getElem? (i := 53) rfl))) (Or.inl (hw _ (List.mem_of_getElem? (i := 105) rfl))) (by decide) (t := (.array .int)) (t' := .int) (by decide) (by decide)))).other W162 (Or.inl ne170))
  have H184 := (((((((H77.other W81 (Or.inl ne89)).other W94 (Or.inl ne102)).other W142 (Or.inl ne143)).other W146 (Or.inl ne148)).other W154 (Or.inr (slot_ne (Or.inl (hw _ (List.mem_of_getElem? (i := 56) rfl))) (Or.inl (hw _ (List.mem_of_getElem? (i := 111) rfl))) (by decide) (t := (.array (.object "com/example/tracewarden/tracewarden/engine/SearchTuples$Event"))) (t' := .int) (by decide) (by decide)))).other W158 (Or.inr (slot_ne (Or.inl (hw _ (List.mem_of_getElem? (i := 56) rfl))) (Or.inl (hw _ (List.mem_of_getElem? (i := 105) rfl))) (by decide) (t := (.array (.object "com/example/tracewarden/tracewarden/engine/SearchTuples$Event"))) (t' := .int) (by decide) (by decide)))).other W162 (Or.inl ne170))
  have H185 := ((((((H90.other W94 (Or.inl ne102)).other W142 (Or.inl ne143)).other W146 (Or.inl ne148)).other W154 (Or.inr (slot_ne (Or.inl (hw _ (List.mem_of_getElem? (i := 58) rfl))) (Or.inl (hw _ (List.mem_of_getElem? (i := 111) rfl))) (by decide) (t := (.array .int)) (t' := .int) (by decide) (by decide)))).other W158 (Or.inr (slot_ne (Or.inl (hw _ (List.mem_of_getElem? (i := 58) rfl))) (Or.inl (hw _ (List.mem_of_getElem? (i := 105) rfl))) (by decide) (t := (.array .int)) (t' := .int) (by decide) (by decide)))).other W162 (Or.inl ne170))
  have H186 := (((((H116.other W142 (Or.inl ne143)).other W146 (Or.inl ne148)).other W154 (Or.inr (slot_ne (Or.inl (hw _ (List.mem_of_getElem? (i := 68) rfl))) (Or.inl (hw _ (List.mem_of_getElem? (i := 111) rfl))) (by decide) (t := (.array (.array .int))) (t' := .int) (by decide) (by decide)))).other W158 (Or.inr (slot_ne (Or.inl (hw _ (List.mem_of_getElem? (i := 68) rfl))) (Or.inl (hw _ (List.mem_of_getElem? (i := 105) rfl))) (by decide) (t := (.array (.array .int))) (t' := .int) (by decide) (by decide)))).other W162 (Or.inl ne170))
  have H187 := (((((H103.other W142 (Or.inl ne143)).other W146 (Or.inl ne148)).other W154 (Or.inr (slot_ne (Or.inl (hw _ (List.mem_of_getElem? (i := 70) rfl))) (Or.inl (hw _ (List.mem_of_getElem? (i := 111) rfl))) (by decide) (t := (.array .int)) (t' := .int) (by decide) (by decide)))).other W158 (Or.inr (slot_ne (Or.inl (hw _ (List.mem_of_getElem? (i := 70) rfl))) (Or.inl (hw _ (List.mem_of_getElem? (i := 105) rfl))) (by decide) (t := (.array .int)) (t' := .int) (by decide) (by decide)))).other W162 (Or.inl ne170))
  have H188 := ((((((((((((((F_budget.keep K2 (ninS (Nat.ne_of_lt lt0) nin0)).keep K30 (ninS (Nat.ne_of_lt (Nat.lt_trans lt0 lt1)) nin0)).other W37 (Or.inl ne39)).other W44 (Or.inl ne47)).other W52 (Or.inl ne57)).other W62 (Or.inl ne66)).other W71 (Or.inl ne76)).other W81 (Or.inl ne89)).other W94 (Or.inl ne102)).other W142 (Or.inl ne143)).other W146 (Or.inl ne148)).other W154 (Or.inr (slot_ne (Or.inr (hw _ (List.mem_of_getElem? (i := 62) rfl))) (Or.inl (hw _ (List.mem_of_getElem? (i := 111) rfl))) (by decide) (t := (.object "com/example/tracewarden/tracewarden/engine/SearchBudget")) (t' := .int) (by decide) (by decide)))).other W158 (Or.inr (slot_ne (Or.inr (hw _ (List.mem_of_getElem? (i := 62) rfl))) (Or.inl (hw _ (List.mem_of_getElem? (i := 105) rfl))) (by decide) (t := (.object "com/example/tracewarden/tracewarden/engine/SearchBudget")) (t' := .int) (by decide) (by decide)))).other W162 (Or.inl ne170))
  have H189 := (((((((((((((H21.keep K30 (ninS (Nat.ne_of_lt (Nat.lt_trans lt0 lt1)) nin0)).other W37 (Or.inl ne39)).other W44 (Or.inl ne47)).other W52 (Or.inl ne57)).other W62 (Or.inl ne66)).other W71 (Or.inl ne76)).other W81 (Or.inl ne89)).other W94 (Or.inl ne102)).other W142 (Or.inl ne143)).other W146 (Or.inl ne148)).other W154 (Or.inr (slot_ne (Or.inl (hw _ (List.mem_of_getElem? (i := 64) rfl))) (Or.inl (hw _ (List.mem_of_getElem? (i := 111) rfl))) (by decide) (t := .int) (t' := .int) (by decide) (by decide)))).other W158 (Or.inr (slot_ne (Or.inl (hw _ (List.mem_of_getElem? (i := 64) rfl))) (Or.inl (hw _ (List.mem_of_getElem? (i := 105) rfl))) (by decide) (t := .int) (t' := .int) (by decide) (by decide)))).other W162 (Or.inl ne170))
  have H190 := (((((((((((V37.other W44 (Nat.ne_of_lt lt3)).other W52 ne55).other W62 (Nat.ne_of_lt (Nat.lt_trans lt3 lt4))).other W71 ne73).other W81 ne84).other W94 ne97).other W142 ne108).other W146 ne130).other W154 (Ne.symm ne39)).other W158 (Ne.symm ne39)).other W162 ne164)
  have H191 := (((((((V71.other W81 (Nat.ne_of_lt lt7)).other W94 (Nat.ne_of_lt (Nat.lt_trans lt7 lt8))).other W142 ne112).other W146 ne134).other W154 (Ne.symm ne76)).other W158 (Ne.symm ne76)).other W162 ne168)
  have H192 := ((((((V81.other W94 (Nat.ne_of_lt lt8)).other W142 ne113).other W146 ne135).other W154 (Ne.symm ne89)).other W158 (Ne.symm ne89)).other W162 (Nat.ne_of_lt (Nat.lt_trans lt8 lt9)))
  have H193 := ((((V142.other W146 (Ne.symm (Nat.ne_of_lt lt12))).other W154 (Ne.symm ne143)).other W158 (Ne.symm ne143)).other W162 (Ne.symm ne169))
  have H194 := ((((((((((((V30.other W37 (Nat.ne_of_lt lt2)).other W44 (Nat.ne_of_lt (Nat.lt_trans lt2 lt3))).other W52 ne54).other W62 ne64).other W71 ne72).other W81 ne83).other W94 ne96).other W142 ne107).other W146 ne129).other W154 (Ne.symm (Nat.ne_of_lt (Nat.lt_trans lt0 lt1)))).other W158 (Ne.symm (Nat.ne_of_lt (Nat.lt_trans lt0 lt1)))).other W162 ne163)
  have H195 := ((((((((((V44.other W52 (Nat.ne_of_lt (Nat.lt_trans lt4 lt5))).other W62 (Nat.ne_of_lt lt4)).other W71 ne74).other W81 ne85).other W94 ne98).other W142 ne109).other W146 ne131).other W154 (Ne.symm ne47)).other W158 (Ne.symm ne47)).other W162 ne165)
  have H196 := ((((((((V62.other W71 (Nat.ne_of_lt (Nat.lt_trans lt5 lt6))).other W81 ne86).other W94 ne100).other W142 ne111).other W146 ne133).other W154 (Ne.symm ne66)).other W158 (Ne.symm ne66)).other W162 ne167)
  have H197 := (((((((((V52.other W62 (Ne.symm (Nat.ne_of_lt lt5))).other W71 (Nat.ne_of_lt lt6)).other W81 (Nat.ne_of_lt (Nat.lt_trans lt6 lt7))).other W94 ne99).other W142 ne110).other W146 ne132).other W154 (Ne.symm ne57)).other W158 (Ne.symm ne57)).other W162 ne166)
  have H198 := (((((V94.other W142 ne114).other W146 ne136).other W154 (Ne.symm ne102)).other W158 (Ne.symm ne102)).other W162 (Nat.ne_of_lt lt9))
  have H199 := (((V146.other W154 (Ne.symm ne148)).other W158 (Ne.symm ne148)).other W162 (Ne.symm (Nat.ne_of_lt (Nat.lt_trans lt10 lt11))))
  refine Go.fin X175 (v := none) (fun _ => rfl) Bd.notSynchronized (fun _ hr => X175.returnOut hx Bd.returns (hb hby d9_477) hr) (fun U' hU hF => ⟨_, _, rfl, ?_, hF.1, hF.2.1, hF.2.2.mono (by decide) (by decide)⟩)
  rw [hU, e175]
  exact ⟨rfl, N162, (((((((((((((((Keep.refl h0 [a1, ab, x_states, x_hashes, x_zones, x_sameStates, x_held, x_parents, x_events, x_ranks, x_slots, x_rk0, x_reached]).trans K2 (allS (Or.inl (List.mem_of_getElem? (i := 1) rfl)) all0)).trans K30 (allS (Or.inl (List.mem_of_getElem? (i := 2) rfl)) all0)).wr W37 (Or.inl (List.mem_of_getElem? (i := 3) rfl))).wr W44 (Or.inl (List.mem_of_getElem? (i := 4) rfl))).wr W52 (Or.inl (List.mem_of_getElem? (i := 6) rfl))).wr W62 (Or.inl (List.mem_of_getElem? (i := 5) rfl))).wr W71 (Or.inl (List.mem_of_getElem? (i := 7) rfl))).wr W81 (Or.inl (List.mem_of_getElem? (i := 8) rfl))).wr W94 (Or.inl (List.mem_of_getElem? (i := 9) rfl))).wr W142 (Or.inl (List.mem_of_getElem? (i := 12) rfl))).wr W146 (Or.inl (List.mem_of_getElem? (i := 11) rfl))).wr W154 (Or.inl (List.mem_of_getElem? (i := 0) rfl))).wr W158 (Or.inl (List.mem_of_getElem? (i := 0) rfl))).wr W162 (Or.inl (List.mem_of_getElem? (i := 10) rfl))), H176, H172, H177, H178, H179, H180, H181, H182, H183, H184, H185, H174, H186, H187, H188, H189, V162, H190, H191, H192, H193, ⟨_, H194⟩, ⟨_, H195⟩, ⟨_, H196⟩, ⟨_, H197⟩, ⟨_, H198⟩, ⟨_, H199⟩⟩
theorem ef_rm9_3 (m : MethodId) (a1 : Addr) (a2 : Addr) (p5 : Int32) (a6 : Addr) : entryFrame m #[(.ref a1), (.ref a2), (.int (-1485235949 : Int32)), .null, (.int p5), (.ref a6), (.int (0 : Int32))] 10 = mkF m 0 #[.val (.ref a1), .val (.ref a2), .val (.int (-1485235949 : Int32)), .val .null, .val (.int p5), .val (.ref a6), .val (.int (0 : Int32)), .unset, .unset, .unset] [] := by first | (simp [entryFrame, mkF, argsToLocals, Value.category]; done) | rfl
def Q_rm9_3 (Z : State) (a1 : Addr) (a2 : Addr) (p5 : Int32) (a6 : Addr) (ab : Addr) (x_states : Addr) (x_hashes : Addr) (x_zones : Addr) (x_sameStates : Addr) (x_held : Addr) (x_parents : Addr) (x_events : Addr) (x_ranks : Addr) (x_slots : Addr) (x_ranked : Addr) (x_rk0 : Addr) (x_reached : Addr) (k_states : ClassId) (k_hashes : ClassId) (k_zones : ClassId) (k_sameStates : ClassId) (k_held : ClassId) (k_parents : ClassId) (k_events : ClassId) (k_ranks : ClassId) (k_slots : ClassId) (k_ranked : ClassId) (k_rk0 : ClassId) (k_reached : ClassId) (f_states : Nat → Value) (f_hashes : Nat → Value) (f_zones : Nat → Value) (f_sameStates : Nat → Value) (f_held : Nat → Value) (f_parents : Nat → Value) (f_events : Nat → Value) (f_ranks : Nat → Value) (f_slots : Nat → Value) (f_ranked : Nat → Value) (f_rk0 : Nat → Value) (f_reached : Nat → Value) (kt : ClassId) (ft : Nat → Value) (h0 : Heap) (n0 : Nat) (v : Option Value) (h : Heap) (L : List Loc) : Prop := v = none ∧ Fr n0 L ∧ Keep h0 h [a1, ab, x_states, x_hashes, x_zones, x_sameStates, x_held, x_parents, x_events, x_ranks, x_slots, x_rk0, x_reached] ∧ Fld Z h ab "com/example/tracewarden/tracewarden/engine/SearchBudget" "left" "J" (.long (0 : Int64)) ∧ Fld Z h a1 "com/example/tracewarden/tracewarden/engine/SearchTuples" "size" "I" (.int (4 : Int32)) ∧ Fld Z h a1 "com/example/tracewarden/tracewarden/engine/SearchTuples" "lowest" "I" (.int (0 : Int32)) ∧ Fld Z h a1 "com/example/tracewarden/tracewarden/engine/SearchTuples" "states" "[I" (.ref x_states) ∧ Fld Z h a1 "com/example/tracewarden/tracewarden/engine/SearchTuples" "hashes" "[I" (.ref x_hashes) ∧ Fld Z h a1 "com/example/tracewarden/tracewarden/engine/SearchTuples" "zones" "[Lcom/example/tracewarden/tracewarden/engine/Zone;" (.ref x_zones) ∧ Fld Z h a1 "com/example/tracewarden/tracewarden/engine/SearchTuples" "sameStates" "[I" (.ref x_sameStates) ∧ Fld Z h a1 "com/example/tracewarden/tracewarden/engine/SearchTuples" "held" "[Z" (.ref x_held) ∧ Fld Z h a1 "com/example/tracewarden/tracewarden/engine/SearchTuples" "parents" "[I" (.ref x_parents) ∧ Fld Z h a1 "com/example/tracewarden/tracewarden/engine/SearchTuples" "events" "[Lcom/example/tracewarden/tracewarden/engine/SearchTuples$Event;" (.ref x_events) ∧ Fld Z h a1 "com/example/tracewarden/tracewarden/engine/SearchTuples" "ranks" "[I" (.ref x_ranks) ∧ Fld Z h a1 "com/example/tracewarden/tracewarden/engine/SearchTuples" "slots" "[I" (.ref x_slots) ∧ Fld Z h a1 "com/example/tracewarden/tracewarden/engine/SearchTuples" "ranked" "[[I" (.ref x_ranked) ∧ Fld Z h a1 "com/example/tracewarden/tracewarden/engine/SearchTuples" "reached" "[I" (.ref x_reached) ∧ Fld Z h a1 "com/example/tracewarden/tracewarden/engine/SearchTuples" "budget" "Lcom/example/tracewarden/tracewarden/engine/SearchBudget;" (.ref ab) ∧ Fld Z h a1 "com/example/tracewarden/tracewarden/engine/SearchTuples" "width" "I" (.int (1 : Int32)) ∧ Arf Z h x_slots k_slots .int (32 : Int32) (upd f_slots 19 (.int (4 : Int32))) ∧ Arf Z h x_hashes k_hashes .int (16 : Int32) (upd f_hashes 3 (.int (-1485235949 : Int32))) ∧ Arf Z h x_parents k_parents .int (16 : Int32) (upd f_parents 3 (.int p5)) ∧ Arf Z h x_events k_events (.object "com/example/tracewarden/tracewarden/engine/SearchTuples$Event") (16 : Int32) (upd f_events 3 (.ref a6)) ∧ Arf Z h x_reached k_reached .int (1 : Int32) (upd f_reached 0 (.int (4 : Int32))) ∧ (∃ f' : Nat → Value, Arf Z h x_states k_states .int (64 : Int32) f') ∧ (∃ f' : Nat → Value, Arf Z h x_zones k_zones (.object "com/example/tracewarden/tracewarden/engine/Zone") (16 : Int32) f') ∧ (∃ f' : Nat → Value, Arf Z h x_sameStates k_sameStates .int (16 : Int32) f') ∧ (∃ f' : Nat → Value, Arf Z h x_held k_held .boolean (16 : Int32) f') ∧ (∃ f' : Nat → Value, Arf Z h x_ranks k_ranks .int (16 : Int32) f') ∧ (∃ f' : Nat → Value, Arf Z h x_rk0 k_rk0 .int (8 : Int32) f')
set_option maxRecDepth 65536 in
set_option maxHeartbeats 40000000 in
theorem rm9_3 (l : Launch) (Z : State) (a0 : Array Value) (hw : ∀ d ∈ tables_1, d.before a0 Z = true) (ws : List Jvm.Cond) (a1 : Addr) (a2 : Addr) (p5 : Int32) (a6 : Addr) (ab : Addr) (x_states : Addr) (x_hashes : Addr) (x_zones : Addr) (x_sameStates : Addr) (x_held : Addr) (x_parents : Addr) (x_events : Addr) (x_ranks : Addr) (x_slots : Addr) (x_ranked : Addr) (x_rk0 : Addr) (x_reached : Addr) (k_states : ClassId) (k_hashes : ClassId) (k_zones : ClassId) (k_sameStates : ClassId) (k_held : ClassId) (k_parents : ClassId) (k_events : ClassId) (k_ranks : ClassId) (k_slots : ClassId) (k_ranked : ClassId) (k_rk0 : ClassId) (k_reached : ClassId) (f_states : Nat → Value) (f_hashes : Nat → Value) (f_zones : Nat → Value) (f_sameStates : Nat → Value) (f_held : Nat → Value) (f_parents : Nat → Value) (f_events : Nat → Value) (f_ranks : Nat → Value) (f_slots : Nat → Value) (f_ranked : Nat → Value) (f_rk0 : Nat → Value) (f_reached : Nat → Value) (kt : ClassId) (ft : Nat → Value) (h0 : Heap) (n0 : Nat) (Z0 : n0 ≤ h0.size) (E_st : Exa Z h0 a1 "com/example/tracewarden/tracewarden/engine/SearchTuples") (E_ab : Exa Z h0 ab "com/example/tracewarden/tracewarden/engine/SearchBudget") (E_ev : Exa Z h0 a6 "com/example/tracewarden/tracewarden/engine/SearchTuples$Event") (g_a1 : n0 ≤ a1) (lt0 : a1 < ab) (lt1 : ab < x_states) (lt2 : x_states < x_hashes) (lt3 : x_hashes < x_zones) (lt4 : x_zones < x_sameStates) (lt5 : x_sameStates < x_held) (lt6 : x_held < x_parents) (lt7 : x_parents < x_events) (lt8 : x_events < x_ranks) (lt9 : x_ranks < x_slots) (lt10 : x_slots < x_ranked) (lt11 : x_ranked < x_rk0) (lt12 : x_rk0 < x_reached) (lt13 : x_reached < a2) (O_ev : Ovr Z k_events "com/example/tracewarden/tracewarden/engine/SearchTuples$Event") (V_states : Arf Z h0 x_states k_states .int (64 : Int32) f_states) (V_hashes : Arf Z h0 x_hashes k_hashes .int (16 : Int32) f_hashes) (V_zones : Arf Z h0 x_zones k_zones (.object "com/example/tracewarden/tracewarden/engine/Zone") (16 : Int32) f_zones) (V_sameStates : Arf Z h0 x_sameStates k_sameStates .int (16 : Int32) f_sameStates) (V_held : Arf Z h0 x_held k_held .boolean (16 : Int32) f_held) (V_parents : Arf Z h0 x_parents k_parents .int (16 : Int32) f_parents) (V_events : Arf Z h0 x_events k_events (.object "com/example/tracewarden/tracewarden/engine/SearchTuples$Event") (16 : Int32) f_events) (V_ranks : Arf Z h0 x_ranks k_ranks .int (16 : Int32) f_ranks) (V_slots : Arf Z h0 x_slots k_slots .int (32 : Int32) f_slots) (V_ranked : Arf Z h0 x_ranked k_ranked (.array .int) (1 : Int32) f_ranked) (V_rk0 : Arf Z h0 x_rk0 k_rk0 .int (8 : Int32) f_rk0) (V_reached : Arf Z h0 x_reached k_reached .int (1 : Int32) f_reached) (V_t : Arf Z h0 a2 kt .int (1 : Int32) ft) (ht0 : ft 0 = (.int (3 : Int32))) (h_slots_19 : f_slots 19 = (.int (0 : Int32))) (h_reached_0 : f_reached 0 = (.int (3 : Int32))) (h_ranked_0 : f_ranked 0 = (.ref x_rk0)) (F_states : Fld Z h0 a1 "com/example/tracewarden/tracewarden/engine/SearchTuples" "states" "[I" (.ref x_states)) (F_hashes : Fld Z h0 a1 "com/example/tracewarden/tracewarden/engine/SearchTuples" "hashes" "[I" (.ref x_hashes)) (F_zones : Fld Z h0 a1 "com/example/tracewarden/tracewarden/engine/SearchTuples" "zones" "[Lcom/example/tracewarden/tracewarden/engine/Zone;" (.ref x_zones)) (F_sameStates : Fld Z h0 a1 "com/example/tracewarden/tracewarden/engine/SearchTuples" "sameStates" "[I" (.ref x_sameStates)) (F_held : Fld Z h0 a1 "com/example/tracewarden/tracewarden/engine/SearchTuples" "held" "[Z" (.ref x_held)) (F_parents : Fld Z h0 a1 "com/example/tracewarden/tracewarden/engine/SearchTuples" "parents" "[I" (.ref x_parents)) (F_events : Fld Z h0 a1 "com/example/tracewarden/tracewarden/engine/SearchTuples" "events" "[Lcom/example/tracewarden/tracewarden/engine/SearchTuples$Event;" (.ref x_events)) (F_ranks : Fld Z h0 a1 "com/example/tracewarden/tracewarden/engine/SearchTuples" "ranks" "[I" (.ref x_ranks)) (F_slots : Fld Z h0 a1 "com/example/tracewarden/tracewarden/engine/SearchTuples" "slots" "[I" (.ref x_slots)) (F_ranked : Fld Z h0 a1 "com/example/tracewarden/tracewarden/engine/SearchTuples" "ranked" "[[I" (.ref x_ranked)) (F_reached : Fld Z h0 a1 "com/example/tracewarden/tracewarden/engine/SearchTuples" "reached" "[I" (.ref x_reached)) (F_budget : Fld Z h0 a1 "com/example/tracewarden/tracewarden/engine/SearchTuples" "budget" "Lcom/example/tracewarden/tracewarden/engine/SearchBudget;" (.ref ab)) (F_left : Fld Z h0 ab "com/example/tracewarden/tracewarden/engine/SearchBudget" "left" "J" (.long (1 : Int64))) (F_width : Fld Z h0 a1 "com/example/tracewarden/tracewarden/engine/SearchTuples" "width" "I" (.int (1 : Int32))) (F_size : Fld Z h0 a1 "com/example/tracewarden/tracewarden/engine/SearchTuples" "size" "I" (.int (3 : Int32))) (F_lowest : Fld Z h0 a1 "com/example/tracewarden/tracewarden/engine/SearchTuples" "lowest" "I" (.int (0 : Int32))) :
    MetFree l (⟨"com/example/tracewarden/tracewarden/engine/SearchTuples", "add", "([IILcom/example/tracewarden/tracewarden/engine/Zone;ILcom/example/tracewarden/tracewarden/engine/SearchTuples$Event;I)V"⟩ : MethodName) (head1 (Jvm.Cond.code (⟨"com/example/tracewarden/tracewarden/engine/SearchTuples", "add", "([IILcom/example/tracewarden/tracewarden/engine/Zone;ILcom/example/tracewarden/tracewarden/engine/SearchTuples$Event;I)V"⟩ : MethodName) prog_86_method_16_code 10 none :: ws) ({ frames := 1, cells := 0, slots := 0, locals := 40 } : Room)) (fun a U => a = #[(.ref a1), (.ref a2), (.int (-1485235949 : Int32)), .null, (.int p5), (.ref a6), (.int (0 : Int32))] ∧ Z.Warmed39 U.vm ∧ U.heap = h0) (fun _ _ _ _ _ => True) (fun _ U o U' => ∃ v L, o = .returned v ∧ Q_rm9_3 Z a1 a2 p5 a6 ab x_states x_hashes x_zones x_sameStates x_held x_parents x_events x_ranks x_slots x_ranked x_rk0 x_reached k_states k_hashes k_zones k_sameStates k_held k_parents k_events k_ranks k_slots k_ranked k_rk0 k_reached f_states f_hashes f_zones f_sameStates f_held f_parents f_events f_ranks f_slots f_ranked f_rk0 f_reached kt ft h0 n0 v U'.heap L ∧ FrameEnd U o U' L ({ frames := 1, cells := 0, slots := 0, locals := 40 } : Room).cells ({ frames := 1, cells := 0, slots := 0, locals := 40 } : Room).slots) := by
  refine MetFree.of_bodySF (plainFor_of_name pn_95) hisR ?_
  intro p e s m args below meth c s₁ Bd hml0 hP hK
  obtain ⟨rfl, hZ, hh⟩ := hP
  have hx := Bd.exec
  have hby := Bd.bytes
  have hml : c.maxLocals = 10 := hml0
  have hown : s.vm.findClass "com/example/tracewarden/tracewarden/engine/SearchTuples" = some m.cls := findClass_of_methodNamed Bd.named
  have hnm := (name_of_methodNamed Bd.named Bd.method).1
  have X0 : Stand p l e ({ frames := 1, cells := 0, slots := 0, locals := 40 } : Room) s m #[(.ref a1), (.ref a2), (.int (-1485235949 : Int32)), .null, (.int p5), (.ref a6), (.int (0 : Int32))] below meth c s₁ [] 0 0 := Stand.of_body Bd
  have e0 : s₁.heap = h0 := by rw [← hh, Bd.state]; rfl
  have N0 := Fr.nil n0
  show Go p e below (s₁.setTop (entryFrame m #[(.ref a1), (.ref a2), (.int (-1485235949 : Int32)), .null, (.int p5), (.ref a6), (.int (0 : Int32))] 10)) (fun o U' => ∃ v L, o = .returned v ∧ Q_rm9_3 Z a1 a2 p5 a6 ab x_states x_hashes x_zones x_sameStates x_held x_parents x_events x_ranks x_slots x_ranked x_rk0 x_reached k_states k_hashes k_zones k_sameStates k_held k_parents k_events k_ranks k_slots k_ranked k_rk0 k_reached f_states f_hashes f_zones f_sameStates f_held f_parents f_events f_ranks f_slots f_ranked f_rk0 f_reached kt ft h0 n0 v U'.heap L ∧ FrameEnd s o U' L ({ frames := 1, cells := 0, slots := 0, locals := 40 } : Room).cells ({ frames := 1, cells := 0, slots := 0, locals := 40 } : Room).slots)
  rw [ef_rm9_3]
  refine Gk.aloadN X0 hx (hb hby d9_0) rfl rfl ?_
  refine Gk.getF X0 hx hZ hown (host := "") (Or.inl (hw _ (List.mem_of_getElem? (i := 61) rfl))) Via.refl e0 F_budget (hb hby d9_1) ?_
  intro T1 X1 e1
  refine Gk.callV (argsL := []) X1 hx hZ hown (rm10_3 l Z a0 hw [] ab h0 n0 Z0 E_ab F_left (Nat.le_trans g_a1 (Nat.le_of_lt lt0))) (hw _ (List.mem_of_getElem? (i := 91) rfl)) (hw _ (List.mem_of_getElem? (i := 92) rfl)) (notFace_of_selects (args := #[]) (mvT hZ (hw _ (List.mem_of_getElem? (i := 94) rfl)))) (hw _ (List.mem_of_getElem? (i := 94) rfl)) (hw _ (List.mem_of_getElem? (i := 93) rfl)) (by decide) (hw _ (List.mem_of_getElem? (i := 95) rfl)) (hw _ (List.mem_of_getElem? (i := 27) rfl)) e1 E_ab pd_0 rfl rfl (by decide) (Nat.le_of_ble_eq_true rfl) (by decide) (by decide) (by rw [hml]; rfl)  rfl (hb hby d9_4) ?_
  intro T2 L2 v2 X2 hQ2
  obtain ⟨rfl, N2q, K2, Fl2⟩ := hQ2
  have N2 := Fr.app N0 N2q
  show Go p e below (T2.setTop (mkF m 7 #[.val (.ref a1), .val (.ref a2), .val (.int (-1485235949 : Int32)), .val .null, .val (.int p5), .val (.ref a6), .val (.int (0 : Int32)), .unset, .unset, .unset] [])) _
  refine Gk.aloadN X2 hx (hb hby d9_7) rfl rfl ?_
  refine Gk.aloadN X2 hx (hb hby d9_8) rfl rfl ?_
  refine Gk.iloadN X2 hx (hb hby d9_9) rfl ?_
  have ne4 : ab ≠ x_slots := (Nat.ne_of_lt (Nat.lt_trans lt1 (Nat.lt_trans lt2 (Nat.lt_trans lt3 (Nat.lt_trans lt4 (Nat.lt_trans lt5 (Nat.lt_trans lt6 (Nat.lt_trans lt7 (Nat.lt_trans lt8 lt9)))))))))
  have H5 := (V_slots.keep K2 (ninS (Ne.symm ne4) nin0))
  have H6 := (V_hashes.keep K2 (ninS (Ne.symm (Nat.ne_of_lt (Nat.lt_trans lt1 lt2))) nin0))
  have H7 := (F_slots.keep K2 (ninS (Nat.ne_of_lt lt0) nin0))
  have H8 := (F_hashes.keep K2 (ninS (Nat.ne_of_lt lt0) nin0))
  have H9 := (E_st.keep K2)
  refine Gk.callP (argsL := [(.ref a2), (.int (-1485235949 : Int32))]) X2 hx hZ hown (rm11_3 l Z a0 hw [] a1 a2 x_slots k_slots f_slots x_hashes k_hashes f_hashes T2.heap n0 (Nat.le_trans Z0 K2.1) H5 H6 H7 H8 h_slots_19) (hw _ (List.mem_of_getElem? (i := 96) rfl)) (hw _ (List.mem_of_getElem? (i := 97) rfl)) (hw _ (List.mem_of_getElem? (i := 23) rfl)) (hw _ (List.mem_of_getElem? (i := 98) rfl)) (by decide) (hw _ (List.mem_of_getElem? (i := 99) rfl)) (hw _ (List.mem_of_getElem? (i := 24) rfl)) rfl H9 pd_3 rfl rfl (by decide) (Nat.le_of_ble_eq_true rfl) (by decide) (by decide) (by rw [hml]; rfl)  rfl (hb hby d9_10) ?_
  intro T3 L3 v3 X3 hQ3
  obtain ⟨rfl, N3q, e3⟩ := hQ3
  have N3 := Fr.app N2 N3q
  show Go p e below (T3.setTop (mkF m 13 #[.val (.ref a1), .val (.ref a2), .val (.int (-1485235949 : Int32)), .val .null, .val (.int p5), .val (.ref a6), .val (.int (0 : Int32)), .unset, .unset, .unset] [(.int (-1 : Int32))])) _
  refine Gk.istore X3 hx (hb hby d9_13) #[.val (.ref a1), .val (.ref a2), .val (.int (-1485235949 : Int32)), .val .null, .val (.int p5), .val (.ref a6), .val (.int (0 : Int32)), .val (.int (-1 : Int32)), .unset, .unset] rfl ?_
  refine Gk.aloadN X3 hx (hb hby d9_15) rfl rfl ?_
  refine Gk.iload X3 hx (hb hby d9_16) rfl ?_
  refine Gk.aloadN X3 hx (hb hby d9_18) rfl rfl ?_
  refine Gk.callP (argsL := [(.int (-1 : Int32)), .null]) X3 hx hZ hown (rm12 l Z a0 hw [] a1 T2.heap n0 (Nat.le_trans Z0 K2.1)) (hw _ (List.mem_of_getElem? (i := 100) rfl)) (hw _ (List.mem_of_getElem? (i := 101) rfl)) (hw _ (List.mem_of_getElem? (i := 23) rfl)) (hw _ (List.mem_of_getElem? (i := 102) rfl)) (by decide) (hw _ (List.mem_of_getElem? (i := 103) rfl)) (hw _ (List.mem_of_getElem? (i := 24) rfl)) e3 H9 pd_4 rfl rfl (by decide) (Nat.le_of_ble_eq_true rfl) (by decide) (by decide) (by rw [hml]; rfl)  rfl (hb hby d9_19) ?_
  intro T10 L10 v10 X10 hQ10
  obtain ⟨rfl, N10q, e10⟩ := hQ10
  have N10 := Fr.app N3 N10q
  show Go p e below (T10.setTop (mkF m 22 #[.val (.ref a1), .val (.ref a2), .val (.int (-1485235949 : Int32)), .val .null, .val (.int p5), .val (.ref a6), .val (.int (0 : Int32)), .val (.int (-1 : Int32)), .unset, .unset] [])) _
  refine Gk.aloadN X10 hx (hb hby d9_22) rfl rfl ?_
  refine Gk.getF X10 hx hZ hown (host := "") (Or.inl (hw _ (List.mem_of_getElem? (i := 59) rfl))) Via.refl e10 H7 (hb hby d9_23) ?_
  intro T11 X11 e11
  refine Gk.alen X11 hx hZ e11 H5 (hb hby d9_26) ?_
  refine Gk.iconst X11 hx (hb hby d9_27) (1 : Int32) rfl ?_
  refine Gk.isub X11 hx (hb hby d9_28) (31 : Int32) (by decide) ?_
  refine Gk.istore X11 hx (hb hby d9_29) #[.val (.ref a1), .val (.ref a2), .val (.int (-1485235949 : Int32)), .val .null, .val (.int p5), .val (.ref a6), .val (.int (0 : Int32)), .val (.int (-1 : Int32)), .val (.int (31 : Int32)), .unset] rfl ?_
  refine Gk.iloadN X11 hx (hb hby d9_31) rfl ?_
  refine Gk.iload X11 hx (hb hby d9_32) rfl ?_
  refine Gk.iand X11 hx (hb hby d9_34) (19 : Int32) (by decide) ?_
  refine Gk.istore X11 hx (hb hby d9_35) #[.val (.ref a1), .val (.ref a2), .val (.int (-1485235949 : Int32)), .val .null, .val (.int p5), .val (.ref a6), .val (.int (0 : Int32)), .val (.int (-1 : Int32)), .val (.int (31 : Int32)), .val (.int (19 : Int32))] rfl ?_
  refine Gk.aloadN X11 hx (hb hby d9_37) rfl rfl ?_
  refine Gk.getF X11 hx hZ hown (host := "") (Or.inl (hw _ (List.mem_of_getElem? (i := 59) rfl))) Via.refl e11 H7 (hb hby d9_38) ?_
  intro T12 X12 e12
  refine Gk.iload X12 hx (hb hby d9_41) rfl ?_
  refine Gk.iaload X12 hx hZ e12 H5 ⟨by decide, by decide⟩ (.int (0 : Int32)) h_slots_19 (hb hby d9_43) ?_
  refine Gk.ifYes X12 hx (hb hby d9_44) (teq (by decide : (0 : Int32) = (0 : Int32))).1 73 (by decide) (by decide) ?_
  refine Gk.aloadN X12 hx (hb hby d9_73) rfl rfl ?_
  have H14 := (F_size.keep K2 (ninS (Nat.ne_of_lt lt0) nin0))
  refine Gk.getF X12 hx hZ hown (host := "") (Or.inl (hw _ (List.mem_of_getElem? (i := 104) rfl))) Via.refl e12 H14 (hb hby d9_74) ?_
  intro T15 X15 e15
  refine Gk.aloadN X15 hx (hb hby d9_77) rfl rfl ?_
  have H16 := (F_parents.keep K2 (ninS (Nat.ne_of_lt lt0) nin0))
  refine Gk.getF X15 hx hZ hown (host := "") (Or.inl (hw _ (List.mem_of_getElem? (i := 52) rfl))) Via.refl e15 H16 (hb hby d9_78) ?_
  intro T17 X17 e17
  have ne18 : ab ≠ x_parents := (Nat.ne_of_lt (Nat.lt_trans lt1 (Nat.lt_trans lt2 (Nat.lt_trans lt3 (Nat.lt_trans lt4 (Nat.lt_trans lt5 lt6))))))
  have H19 := (V_parents.keep K2 (ninS (Ne.symm ne18) nin0))
  refine Gk.alen X17 hx hZ e17 H19 (hb hby d9_81) ?_
  refine Gk.icmpYes X17 hx (hb hby d9_82) (feq (by decide : ¬ ((3 : Int32) = (16 : Int32)))).2 210 (by decide) (by decide) ?_
  refine Gk.aloadN X17 hx (hb hby d9_210) rfl rfl ?_
  refine Gk.getF X17 hx hZ hown (host := "") (Or.inl (hw _ (List.mem_of_getElem? (i := 104) rfl))) Via.refl e17 H14 (hb hby d9_211) ?_
  intro T20 X20 e20
  refine Gk.iconst X20 hx (hb hby d9_214) (1 : Int32) rfl ?_
  refine Gk.iadd X20 hx (hb hby d9_215) (4 : Int32) (by decide) ?_
  refine Gk.aloadN X20 hx (hb hby d9_216) rfl rfl ?_
  have H21 := (F_width.keep K2 (ninS (Nat.ne_of_lt lt0) nin0))
  refine Gk.getF X20 hx hZ hown (host := "") (Or.inl (hw _ (List.mem_of_getElem? (i := 63) rfl))) Via.refl e20 H21 (hb hby d9_217) ?_
  intro T22 X22 e22
  refine Gk.imul X22 hx (hb hby d9_220) (4 : Int32) (by decide) ?_
  refine Gk.aloadN X22 hx (hb hby d9_221) rfl rfl ?_
  have H23 := (F_states.keep K2 (ninS (Nat.ne_of_lt lt0) nin0))
  refine Gk.getF X22 hx hZ hown (host := "") (Or.inl (hw _ (List.mem_of_getElem? (i := 39) rfl))) Via.refl e22 H23 (hb hby d9_222) ?_
  intro T24 X24 e24
  have H25 := (V_states.keep K2 (ninS (Ne.symm (Nat.ne_of_lt lt1)) nin0))
  refine Gk.alen X24 hx hZ e24 H25 (hb hby d9_225) ?_
  refine Gk.icmpYes X24 hx (hb hby d9_226) (flt (by decide : ¬ ((64 : Int32) < (4 : Int32)))).2.2.2 261 (by decide) (by decide) ?_
  refine Gk.aloadN X24 hx (hb hby d9_261) rfl rfl ?_
  refine Gk.iconst X24 hx (hb hby d9_262) (0 : Int32) rfl ?_
  refine Gk.aloadN X24 hx (hb hby d9_263) rfl rfl ?_
  refine Gk.getF X24 hx hZ hown (host := "") (Or.inl (hw _ (List.mem_of_getElem? (i := 39) rfl))) Via.refl e24 H23 (hb hby d9_264) ?_
  intro T26 X26 e26
  refine Gk.aloadN X26 hx (hb hby d9_267) rfl rfl ?_
  refine Gk.getF X26 hx hZ hown (host := "") (Or.inl (hw _ (List.mem_of_getElem? (i := 104) rfl))) Via.refl e26 H14 (hb hby d9_268) ?_
  intro T27 X27 e27
  refine Gk.aloadN X27 hx (hb hby d9_271) rfl rfl ?_
  refine Gk.getF X27 hx hZ hown (host := "") (Or.inl (hw _ (List.mem_of_getElem? (i := 63) rfl))) Via.refl e27 H21 (hb hby d9_272) ?_
  intro T28 X28 e28
  refine Gk.imul X28 hx (hb hby d9_275) (3 : Int32) (by decide) ?_
  refine Gk.aloadN X28 hx (hb hby d9_276) rfl rfl ?_
  refine Gk.getF X28 hx hZ hown (host := "") (Or.inl (hw _ (List.mem_of_getElem? (i := 63) rfl))) Via.refl e28 H21 (hb hby d9_277) ?_
  intro T29 X29 e29
  have ne31 : ab ≠ a2 := (Nat.ne_of_lt (Nat.lt_trans lt1 (Nat.lt_trans lt2 (Nat.lt_trans lt3 (Nat.lt_trans lt4 (Nat.lt_trans lt5 (Nat.lt_trans lt6 (Nat.lt_trans lt7 (Nat.lt_trans lt8 (Nat.lt_trans lt9 (Nat.lt_trans lt10 (Nat.lt_trans lt11 (Nat.lt_trans lt12 lt13)))))))))))))
  have H32 := (V_t.keep K2 (ninS (Ne.symm ne31) nin0))
  refine Gk.copy X29 hx hZ hown (hw _ (List.mem_of_getElem? (i := 106) rfl)) (hw _ (List.mem_of_getElem? (i := 109) rfl)) (hw _ (List.mem_of_getElem? (i := 107) rfl)) (hw _ (List.mem_of_getElem? (i := 108) rfl)) e29 H32 H25 rfl (by decide) (by decide) (by decide) (by decide) (by decide) N10 (Nat.le_trans g_a1 (Nat.le_of_lt (Nat.lt_trans lt0 lt1))) (fun i => if 3 ≤ i ∧ i < 3 + 1 then ft (0 + (i - 3)) else f_states i) (fun _ _ => rfl) (by rw [hml]; rfl) (hb hby d9_280) (by decide) (Nat.le_of_ble_eq_true rfl) ?_
  intro T30 h30 L30 X30 e30 N30 K30 V30
  refine Gk.aloadN X30 hx (hb hby d9_283) rfl rfl ?_
  have H33 := (H8.keep K30 (ninS (Nat.ne_of_lt (Nat.lt_trans lt0 lt1)) nin0))
  refine Gk.getF X30 hx hZ hown (host := "") (Or.inl (hw _ (List.mem_of_getElem? (i := 41) rfl))) Via.refl e30 H33 (hb hby d9_284) ?_
  intro T34 X34 e34
  refine Gk.aloadN X34 hx (hb hby d9_287) rfl rfl ?_
  have H35 := (H14.keep K30 (ninS (Nat.ne_of_lt (Nat.lt_trans lt0 lt1)) nin0))
  refine Gk.getF X34 hx hZ hown (host := "") (Or.inl (hw _ (List.mem_of_getElem? (i := 104) rfl))) Via.refl e34 H35 (hb hby d9_288) ?_
  intro T36 X36 e36
  refine Gk.iloadN X36 hx (hb hby d9_291) rfl ?_
  have H38 := (H6.keep K30 (ninS (Ne.symm (Nat.ne_of_lt lt2)) nin0))
  refine Gk.iastore X36 hx hZ e36 H38 3 rfl ⟨by decide, by decide⟩ (.int (-1485235949 : Int32)) rfl (hb hby d9_292) ?_
  intro T37 h37 X37 e37 W37 V37
  have N37 := Fr.snoc X37 N30 (Nat.le_trans g_a1 (Nat.le_of_lt (Nat.lt_trans lt0 (Nat.lt_trans lt1 lt2))))
  refine Gk.aloadN X37 hx (hb hby d9_293) rfl rfl ?_
  have ne39 : a1 ≠ x_hashes := (Nat.ne_of_lt (Nat.lt_trans lt0 (Nat.lt_trans lt1 lt2)))
  have H40 := (((F_zones.keep K2 (ninS (Nat.ne_of_lt lt0) nin0)).keep K30 (ninS (Nat.ne_of_lt (Nat.lt_trans lt0 lt1)) nin0)).other W37 (Or.inl ne39))
  refine Gk.getF X37 hx hZ hown (host := "") (Or.inl (hw _ (List.mem_of_getElem? (i := 45) rfl))) Via.refl e37 H40 (hb hby d9_294) ?_
  intro T41 X41 e41
  refine Gk.aloadN X41 hx (hb hby d9_297) rfl rfl ?_
  have H42 := (H35.other W37 (Or.inl ne39))
  refine Gk.getF X41 hx hZ hown (host := "") (Or.inl (hw _ (List.mem_of_getElem? (i := 104) rfl))) Via.refl e41 H42 (hb hby d9_298) ?_
  intro T43 X43 e43
  refine Gk.aloadN X43 hx (hb hby d9_301) rfl rfl ?_
  have ne45 : ab ≠ x_zones := (Nat.ne_of_lt (Nat.lt_trans lt1 (Nat.lt_trans lt2 lt3)))
  have H46 := (((V_zones.keep K2 (ninS (Ne.symm ne45) nin0)).keep K30 (ninS (Ne.symm (Nat.ne_of_lt (Nat.lt_trans lt2 lt3))) nin0)).other W37 (Ne.symm (Nat.ne_of_lt lt3)))
  refine Gk.aastore X43 hx hZ e43 H46 3 rfl ⟨by decide, by decide⟩ rfl rfl (Or.inl rfl) (hb hby d9_302) ?_
  intro T44 h44 X44 e44 W44 V44
  have N44 := Fr.snoc X44 N37 (Nat.le_trans g_a1 (Nat.le_of_lt (Nat.lt_trans lt0 (Nat.lt_trans lt1 (Nat.lt_trans lt2 lt3)))))
  refine Gk.aloadN X44 hx (hb hby d9_303) rfl rfl ?_
  have ne47 : a1 ≠ x_zones := (Nat.ne_of_lt (Nat.lt_trans lt0 (Nat.lt_trans lt1 (Nat.lt_trans lt2 lt3))))
  have H48 := ((((F_held.keep K2 (ninS (Nat.ne_of_lt lt0) nin0)).keep K30 (ninS (Nat.ne_of_lt (Nat.lt_trans lt0 lt1)) nin0)).other W37 (Or.inl ne39)).other W44 (Or.inl ne47))
  refine Gk.getF X44 hx hZ hown (host := "") (Or.inl (hw _ (List.mem_of_getElem? (i := 50) rfl))) Via.refl e44 H48 (hb hby d9_304) ?_
  intro T49 X49 e49
  refine Gk.aloadN X49 hx (hb hby d9_307) rfl rfl ?_
  have H50 := (H42.other W44 (Or.inl ne47))
  refine Gk.getF X49 hx hZ hown (host := "") (Or.inl (hw _ (List.mem_of_getElem? (i := 104) rfl))) Via.refl e49 H50 (hb hby d9_308) ?_
  intro T51 X51 e51
  refine Gk.iconst X51 hx (hb hby d9_311) (0 : Int32) rfl ?_
  have ne53 : ab ≠ x_held := (Nat.ne_of_lt (Nat.lt_trans lt1 (Nat.lt_trans lt2 (Nat.lt_trans lt3 (Nat.lt_trans lt4 lt5)))))
  have ne54 : x_states ≠ x_held := (Nat.ne_of_lt (Nat.lt_trans lt2 (Nat.lt_trans lt3 (Nat.lt_trans lt4 lt5))))
  have ne55 : x_hashes ≠ x_held := (Nat.ne_of_lt (Nat.lt_trans lt3 (Nat.lt_trans lt4 lt5)))
  have H56 := ((((V_held.keep K2 (ninS (Ne.symm ne53) nin0)).keep K30 (ninS (Ne.symm ne54) nin0)).other W37 (Ne.symm ne55)).other W44 (Ne.symm (Nat.ne_of_lt (Nat.lt_trans lt4 lt5))))
  refine Gk.bastoreZ X51 hx hZ e51 H56 3 rfl ⟨by decide, by decide⟩ (.int (0 : Int32)) rfl (hb hby d9_312) ?_
  intro T52 h52 X52 e52 W52 V52
  have N52 := Fr.snoc X52 N44 (Nat.le_trans g_a1 (Nat.le_of_lt (Nat.lt_trans lt0 (Nat.lt_trans lt1 (Nat.lt_trans lt2 (Nat.lt_trans lt3 (Nat.lt_trans lt4 lt5)))))))
  refine Gk.aloadN X52 hx (hb hby d9_313) rfl rfl ?_
  have ne57 : a1 ≠ x_held := (Nat.ne_of_lt (Nat.lt_trans lt0 (Nat.lt_trans lt1 (Nat.lt_trans lt2 (Nat.lt_trans lt3 (Nat.lt_trans lt4 lt5))))))
  have H58 := (((((F_sameStates.keep K2 (ninS (Nat.ne_of_lt lt0) nin0)).keep K30 (ninS (Nat.ne_of_lt (Nat.lt_trans lt0 lt1)) nin0)).other W37 (Or.inl ne39)).other W44 (Or.inl ne47)).other W52 (Or.inl ne57))
  refine Gk.getF X52 hx hZ hown (host := "") (Or.inl (hw _ (List.mem_of_getElem? (i := 47) rfl))) Via.refl e52 H58 (hb hby d9_314) ?_
  intro T59 X59 e59
  refine Gk.aloadN X59 hx (hb hby d9_317) rfl rfl ?_
  have H60 := (H50.other W52 (Or.inl ne57))
  refine Gk.getF X59 hx hZ hown (host := "") (Or.inl (hw _ (List.mem_of_getElem? (i := 104) rfl))) Via.refl e59 H60 (hb hby d9_318) ?_
  intro T61 X61 e61
  refine Gk.iload X61 hx (hb hby d9_321) rfl ?_
  have ne63 : ab ≠ x_sameStates := (Nat.ne_of_lt (Nat.lt_trans lt1 (Nat.lt_trans lt2 (Nat.lt_trans lt3 lt4))))
  have ne64 : x_states ≠ x_sameStates := (Nat.ne_of_lt (Nat.lt_trans lt2 (Nat.lt_trans lt3 lt4)))
  have H65 := (((((V_sameStates.keep K2 (ninS (Ne.symm ne63) nin0)).keep K30 (ninS (Ne.symm ne64) nin0)).other W37 (Ne.symm (Nat.ne_of_lt (Nat.lt_trans lt3 lt4)))).other W44 (Ne.symm (Nat.ne_of_lt lt4))).other W52 (Nat.ne_of_lt lt5))
  refine Gk.iastore X61 hx hZ e61 H65 3 rfl ⟨by decide, by decide⟩ (.int (-1 : Int32)) rfl (hb hby d9_323) ?_
  intro T62 h62 X62 e62 W62 V62
  have N62 := Fr.snoc X62 N52 (Nat.le_trans g_a1 (Nat.le_of_lt (Nat.lt_trans lt0 (Nat.lt_trans lt1 (Nat.lt_trans lt2 (Nat.lt_trans lt3 lt4))))))
  refine Gk.aloadN X62 hx (hb hby d9_324) rfl rfl ?_
  have ne66 : a1 ≠ x_sameStates := (Nat.ne_of_lt (Nat.lt_trans lt0 (Nat.lt_trans lt1 (Nat.lt_trans lt2 (Nat.lt_trans lt3 lt4)))))
  have H67 := (((((H16.keep K30 (ninS (Nat.ne_of_lt (Nat.lt_trans lt0 lt1)) nin0)).other W37 (Or.inl ne39)).other W44 (Or.inl ne47)).other W52 (Or.inl ne57)).other W62 (Or.inl ne66))
  refine Gk.getF X62 hx hZ hown (host := "") (Or.inl (hw _ (List.mem_of_getElem? (i := 52) rfl))) Via.refl e62 H67 (hb hby d9_325) ?_
  intro T68 X68 e68
  refine Gk.aloadN X68 hx (hb hby d9_328) rfl rfl ?_
  have H69 := (H60.other W62 (Or.inl ne66))
  refine Gk.getF X68 hx hZ hown (host := "") (Or.inl (hw _ (List.mem_of_getElem? (i := 104) rfl))) Via.refl e68 H69 (hb hby d9_329) ?_
  intro T70 X70 e70
  refine Gk.iload X70 hx (hb hby d9_332) rfl ?_
  have ne72 : x_states ≠ x_parents := (Nat.ne_of_lt (Nat.lt_trans lt2 (Nat.lt_trans lt3 (Nat.lt_trans lt4 (Nat.lt_trans lt5 lt6)))))
  have ne73 : x_hashes ≠ x_parents := (Nat.ne_of_lt (Nat.lt_trans lt3 (Nat.lt_trans lt4 (Nat.lt_trans lt5 lt6))))
  have ne74 : x_zones ≠ x_parents := (Nat.ne_of_lt (Nat.lt_trans lt4 (Nat.lt_trans lt5 lt6)))
  have H75 := (((((H19.keep K30 (ninS (Ne.symm ne72) nin0)).other W37 (Ne.symm ne73)).other W44 (Ne.symm ne74)).other W52 (Ne.symm (Nat.ne_of_lt lt6))).other W62 (Ne.symm (Nat.ne_of_lt (Nat.lt_trans lt5 lt6))))
  refine Gk.iastore X70 hx hZ e70 H75 3 rfl ⟨by decide, by decide⟩ (.int p5) rfl (hb hby d9_334) ?_
  intro T71 h71 X71 e71 W71 V71
  have N71 := Fr.snoc X71 N62 (Nat.le_trans g_a1 (Nat.le_of_lt (Nat.lt_trans lt0 (Nat.lt_trans lt1 (Nat.lt_trans lt2 (Nat.lt_trans lt3 (Nat.lt_trans lt4 (Nat.lt_trans lt5 lt6))))))))
  refine Gk.aloadN X71 hx (hb hby d9_335) rfl rfl ?_
  have ne76 : a1 ≠ x_parents := (Nat.ne_of_lt (Nat.lt_trans lt0 (Nat.lt_trans lt1 (Nat.lt_trans lt2 (Nat.lt_trans lt3 (Nat.lt_trans lt4 (Nat.lt_trans lt5 lt6)))))))
  have H77 := (((((((F_events.keep K2 (ninS (Nat.ne_of_lt lt0) nin0)).keep K30 (ninS (Nat.ne_of_lt (Nat.lt_trans lt0 lt1)) nin0)).other W37 (Or.inl ne39)).other W44 (Or.inl ne47)).other W52 (Or.inl ne57)).other W62 (Or.inl ne66)).other W71 (Or.inl ne76))
  refine Gk.getF X71 hx hZ hown (host := "") (Or.inl (hw _ (List.mem_of_getElem? (i := 55) rfl))) Via.refl e71 H77 (hb hby d9_336) ?_
  intro T78 X78 e78
  refine Gk.aloadN X78 hx (hb hby d9_339) rfl rfl ?_
  have H79 := (H69.other W71 (Or.inl ne76))
  refine Gk.getF X78 hx hZ hown (host := "") (Or.inl (hw _ (List.mem_of_getElem? (i := 104) rfl))) Via.refl e78 H79 (hb hby d9_340) ?_
  intro T80 X80 e80
  refine Gk.aload X80 hx (hb hby d9_343) rfl rfl ?_
  have ne82 : ab ≠ x_events := (Nat.ne_of_lt (Nat.lt_trans lt1 (Nat.lt_trans lt2 (Nat.lt_trans lt3 (Nat.lt_trans lt4 (Nat.lt_trans lt5 (Nat.lt_trans lt6 lt7)))))))
  have ne83 : x_states ≠ x_events := (Nat.ne_of_lt (Nat.lt_trans lt2 (Nat.lt_trans lt3 (Nat.lt_trans lt4 (Nat.lt_trans lt5 (Nat.lt_trans lt6 lt7))))))
  have ne84 : x_hashes ≠ x_events := (Nat.ne_of_lt (Nat.lt_trans lt3 (Nat.lt_trans lt4 (Nat.lt_trans lt5 (Nat.lt_trans lt6 lt7)))))
  have ne85 : x_zones ≠ x_events := (Nat.ne_of_lt (Nat.lt_trans lt4 (Nat.lt_trans lt5 (Nat.lt_trans lt6 lt7))))
  have ne86 : x_sameStates ≠ x_events := (Nat.ne_of_lt (Nat.lt_trans lt5 (Nat.lt_trans lt6 lt7)))
  have H87 := (((((((V_events.keep K2 (ninS (Ne.symm ne82) nin0)).keep K30 (ninS (Ne.symm ne83) nin0)).other W37 (Ne.symm ne84)).other W44 (Ne.symm ne85)).other W52 (Ne.symm (Nat.ne_of_lt (Nat.lt_trans lt6 lt7)))).other W62 (Ne.symm ne86)).other W71 (Ne.symm (Nat.ne_of_lt lt7)))
  have H88 := (((((((E_ev.keep K2).keep K30).wr W37).wr W44).wr W52).wr W62).wr W71)
  refine Gk.aastore X80 hx hZ e80 H87 3 rfl ⟨by decide, by decide⟩ rfl rfl (Or.inr ⟨_, _, rfl, O_ev, Ins.self H88⟩) (hb hby d9_345) ?_
  intro T81 h81 X81 e81 W81 V81
  have N81 := Fr.snoc X81 N71 (Nat.le_trans g_a1 (Nat.le_of_lt (Nat.lt_trans lt0 (Nat.lt_trans lt1 (Nat.lt_trans lt2 (Nat.lt_trans lt3 (Nat.lt_trans lt4 (Nat.lt_trans lt5 (Nat.lt_trans lt6 lt7)))))))))
  refine Gk.aloadN X81 hx (hb hby d9_346) rfl rfl ?_
  have ne89 : a1 ≠ x_events := (Nat.ne_of_lt (Nat.lt_trans lt0 (Nat.lt_trans lt1 (Nat.lt_trans lt2 (Nat.lt_trans lt3 (Nat.lt_trans lt4 (Nat.lt_trans lt5 (Nat.lt_trans lt6 lt7))))))))
  have H90 := ((((((((F_ranks.keep K2 (ninS (Nat.ne_of_lt lt0) nin0)).keep K30 (ninS (Nat.ne_of_lt (Nat.lt_trans lt0 lt1)) nin0)).other W37 (Or.inl ne39)).other W44 (Or.inl ne47)).other W52 (Or.inl ne57)).other W62 (Or.inl ne66)).other W71 (Or.inl ne76)).other W81 (Or.inl ne89))
  refine Gk.getF X81 hx hZ hown (host := "") (Or.inl (hw _ (List.mem_of_getElem? (i := 57) rfl))) Via.refl e81 H90 (hb hby d9_347) ?_
  intro T91 X91 e91
  refine Gk.aloadN X91 hx (hb hby d9_350) rfl rfl ?_
  have H92 := (H79.other W81 (Or.inl ne89))
  refine Gk.getF X91 hx hZ hown (host := "") (Or.inl (hw _ (List.mem_of_getElem? (i := 104) rfl))) Via.refl e91 H92 (hb hby d9_351) ?_
  intro T93 X93 e93
  refine Gk.iload X93 hx (hb hby d9_354) rfl ?_
  have ne95 : ab ≠ x_ranks := (Nat.ne_of_lt (Nat.lt_trans lt1 (Nat.lt_trans lt2 (Nat.lt_trans lt3 (Nat.lt_trans lt4 (Nat.lt_trans lt5 (Nat.lt_trans lt6 (Nat.lt_trans lt7 lt8))))))))
  have ne96 : x_states ≠ x_ranks := (Nat.ne_of_lt (Nat.lt_trans lt2 (Nat.lt_trans lt3 (Nat.lt_trans lt4 (Nat.lt_trans lt5 (Nat.lt_trans lt6 (Nat.lt_trans lt7 lt8)))))))
  have ne97 : x_hashes ≠ x_ranks := (Nat.ne_of_lt (Nat.lt_trans lt3 (Nat.lt_trans lt4 (Nat.lt_trans lt5 (Nat.lt_trans lt6 (Nat.lt_trans lt7 lt8))))))
  have ne98 : x_zones ≠ x_ranks := (Nat.ne_of_lt (Nat.lt_trans lt4 (Nat.lt_trans lt5 (Nat.lt_trans lt6 (Nat.lt_trans lt7 lt8)))))
  have ne99 : x_held ≠ x_ranks := (Nat.ne_of_lt (Nat.lt_trans lt6 (Nat.lt_trans lt7 lt8)))
  have ne100 : x_sameStates ≠ x_ranks := (Nat.ne_of_lt (Nat.lt_trans lt5 (Nat.lt_trans lt6 (Nat.lt_trans lt7 lt8))))
  have H101 := ((((((((V_ranks.keep K2 (ninS (Ne.symm ne95) nin0)).keep K30 (ninS (Ne.symm ne96) nin0)).other W37 (Ne.symm ne97)).other W44 (Ne.symm ne98)).other W52 (Ne.symm ne99)).other W62 (Ne.symm ne100)).other W71 (Ne.symm (Nat.ne_of_lt (Nat.lt_trans lt7 lt8)))).other W81 (Ne.symm (Nat.ne_of_lt lt8)))
  refine Gk.iastore X93 hx hZ e93 H101 3 rfl ⟨by decide, by decide⟩ (.int (0 : Int32)) rfl (hb hby d9_356) ?_
  intro T94 h94 X94 e94 W94 V94
  have N94 := Fr.snoc X94 N81 (Nat.le_trans g_a1 (Nat.le_of_lt (Nat.lt_trans lt0 (Nat.lt_trans lt1 (Nat.lt_trans lt2 (Nat.lt_trans lt3 (Nat.lt_trans lt4 (Nat.lt_trans lt5 (Nat.lt_trans lt6 (Nat.lt_trans lt7 lt8))))))))))
  refine Gk.aloadN X94 hx (hb hby d9_357) rfl rfl ?_
  have ne102 : a1 ≠ x_ranks := (Nat.ne_of_lt (Nat.lt_trans lt0 (Nat.lt_trans lt1 (Nat.lt_trans lt2 (Nat.lt_trans lt3 (Nat.lt_trans lt4 (Nat.lt_trans lt5 (Nat.lt_trans lt6 (Nat.lt_trans lt7 lt8)))))))))
  have H103 := (((((((((F_reached.keep K2 (ninS (Nat.ne_of_lt lt0) nin0)).keep K30 (ninS (Nat.ne_of_lt (Nat.lt_trans lt0 lt1)) nin0)).other W37 (Or.inl ne39)).other W44 (Or.inl ne47)).other W52 (Or.inl ne57)).other W62 (Or.inl ne66)).other W71 (Or.inl ne76)).other W81 (Or.inl ne89)).other W94 (Or.inl ne102))
  refine Gk.getF X94 hx hZ hown (host := "") (Or.inl (hw _ (List.mem_of_getElem? (i := 69) rfl))) Via.refl e94 H103 (hb hby d9_358) ?_
  intro T104 X104 e104
  refine Gk.iload X104 hx (hb hby d9_361) rfl ?_
  have ne106 : ab ≠ x_reached := (Nat.ne_of_lt (Nat.lt_trans lt1 (Nat.lt_trans lt2 (Nat.lt_trans lt3 (Nat.lt_trans lt4 (Nat.lt_trans lt5 (Nat.lt_trans lt6 (Nat.lt_trans lt7 (Nat.lt_trans lt8 (Nat.lt_trans lt9 (Nat.lt_trans lt10 (Nat.lt_trans lt11 lt12))))))))))))
  have ne107 : x_states ≠ x_reached := (Nat.ne_of_lt (Nat.lt_trans lt2 (Nat.lt_trans lt3 (Nat.lt_trans lt4 (Nat.lt_trans lt5 (Nat.lt_trans lt6 (Nat.lt_trans lt7 (Nat.lt_trans lt8 (Nat.lt_trans lt9 (Nat.lt_trans lt10 (Nat.lt_trans lt11 lt12)))))))))))
  have ne108 : x_hashes ≠ x_reached := (Nat.ne_of_lt (Nat.lt_trans lt3 (Nat.lt_trans lt4 (Nat.lt_trans lt5 (Nat.lt_trans lt6 (Nat.lt_trans lt7 (Nat.lt_trans lt8 (Nat.lt_trans lt9 (Nat.lt_trans lt10 (Nat.lt_trans lt11 lt12))))))))))
  have ne109 : x_zones ≠ x_reached := (Nat.ne_of_lt (Nat.lt_trans lt4 (Nat.lt_trans lt5 (Nat.lt_trans lt6 (Nat.lt_trans lt7 (Nat.lt_trans lt8 (Nat.lt_trans lt9 (Nat.lt_trans lt10 (Nat.lt_trans lt11 lt12)))))))))
  have ne110 : x_held ≠ x_reached := (Nat.ne_of_lt (Nat.lt_trans lt6 (Nat.lt_trans lt7 (Nat.lt_trans lt8 (Nat.lt_trans lt9 (Nat.lt_trans lt10 (Nat.lt_trans lt11 lt12)))))))
  have ne111 : x_sameStates ≠ x_reached := (Nat.ne_of_lt (Nat.lt_trans lt5 (Nat.lt_trans lt6 (Nat.lt_trans lt7 (Nat.lt_trans lt8 (Nat.lt_trans lt9 (Nat.lt_trans lt10 (Nat.lt_trans lt11 lt12))))))))
  have ne112 : x_parents ≠ x_reached := (Nat.ne_of_lt (Nat.lt_trans lt7 (Nat.lt_trans lt8 (Nat.lt_trans lt9 (Nat.lt_trans lt10 (Nat.lt_trans lt11 lt12))))))
  have ne113 : x_events ≠ x_reached := (Nat.ne_of_lt (Nat.lt_trans lt8 (Nat.lt_trans lt9 (Nat.lt_trans lt10 (Nat.lt_trans lt11 lt12)))))
  have ne114 : x_ranks ≠ x_reached := (Nat.ne_of_lt (Nat.lt_trans lt9 (Nat.lt_trans lt10 (Nat.lt_trans lt11 lt12))))
  have H115 := (((((((((V_reached.keep K2 (ninS (Ne.symm ne106) nin0)).keep K30 (ninS (Ne.symm ne107) nin0)).other W37 (Ne.symm ne108)).other W44 (Ne.symm ne109)).other W52 (Ne.symm ne110)).other W62 (Ne.symm ne111)).other W71 (Ne.symm ne112)).other W81 (Ne.symm ne113)).other W94 (Ne.symm ne114))
  refine Gk.iaload X104 hx hZ e104 H115 ⟨by decide, by decide⟩ (.int (3 : Int32)) h_reached_0 (hb hby d9_363) ?_
  refine Gk.aloadN X104 hx (hb hby d9_364) rfl rfl ?_
  have H116 := (((((((((F_ranked.keep K2 (ninS (Nat.ne_of_lt lt0) nin0)).keep K30 (ninS (Nat.ne_of_lt (Nat.lt_trans lt0 lt1)) nin0)).other W37 (Or.inl ne39)).other W44 (Or.inl ne47)).other W52 (Or.inl ne57)).other W62 (Or.inl ne66)).other W71 (Or.inl ne76)).other W81 (Or.inl ne89)).other W94 (Or.inl ne102))
  refine Gk.getF X104 hx hZ hown (host := "") (Or.inl (hw _ (List.mem_of_getElem? (i := 67) rfl))) Via.refl e104 H116 (hb hby d9_365) ?_
  intro T117 X117 e117
  refine Gk.iload X117 hx (hb hby d9_368) rfl ?_
  have ne119 : ab ≠ x_ranked := (Nat.ne_of_lt (Nat.lt_trans lt1 (Nat.lt_trans lt2 (Nat.lt_trans lt3 (Nat.lt_trans lt4 (Nat.lt_trans lt5 (Nat.lt_trans lt6 (Nat.lt_trans lt7 (Nat.lt_trans lt8 (Nat.lt_trans lt9 lt10))))))))))
  have ne120 : x_states ≠ x_ranked := (Nat.ne_of_lt (Nat.lt_trans lt2 (Nat.lt_trans lt3 (Nat.lt_trans lt4 (Nat.lt_trans lt5 (Nat.lt_trans lt6 (Nat.lt_trans lt7 (Nat.lt_trans lt8 (Nat.lt_trans lt9 lt10)))))))))
  have ne121 : x_hashes ≠ x_ranked := (Nat.ne_of_lt (Nat.lt_trans lt3 (Nat.lt_trans lt4 (Nat.lt_trans lt5 (Nat.lt_trans lt6 (Nat.lt_trans lt7 (Nat.lt_trans lt8 (Nat.lt_trans lt9 lt10))))))))
  have ne122 : x_zones ≠ x_ranked := (Nat.ne_of_lt (Nat.lt_trans lt4 (Nat.lt_trans lt5 (Nat.lt_trans lt6 (Nat.lt_trans lt7 (Nat.lt_trans lt8 (Nat.lt_trans lt9 lt10)))))))
  have ne123 : x_held ≠ x_ranked := (Nat.ne_of_lt (Nat.lt_trans lt6 (Nat.lt_trans lt7 (Nat.lt_trans lt8 (Nat.lt_trans lt9 lt10)))))
  have ne124 : x_sameStates ≠ x_ranked := (Nat.ne_of_lt (Nat.lt_trans lt5 (Nat.lt_trans lt6 (Nat.lt_trans lt7 (Nat.lt_trans lt8 (Nat.lt_trans lt9 lt10))))))
  have ne125 : x_parents ≠ x_ranked := (Nat.ne_of_lt (Nat.lt_trans lt7 (Nat.lt_trans lt8 (Nat.lt_trans lt9 lt10))))
  have ne126 : x_events ≠ x_ranked := (Nat.ne_of_lt (Nat.lt_trans lt8 (Nat.lt_trans lt9 lt10)))
  have H127 := (((((((((V_ranked.keep K2 (ninS (Ne.symm ne119) nin0)).keep K30 (ninS (Ne.symm ne120) nin0)).other W37 (Ne.symm ne121)).other W44 (Ne.symm ne122)).other W52 (Ne.symm ne123)).other W62 (Ne.symm ne124)).other W71 (Ne.symm ne125)).other W81 (Ne.symm ne126)).other W94 (Ne.symm (Nat.ne_of_lt (Nat.lt_trans lt9 lt10))))
  refine Gk.aaload X117 hx hZ e117 H127 rfl ⟨by decide, by decide⟩ (.ref x_rk0) h_ranked_0 (hb hby d9_370) ?_
  have ne128 : ab ≠ x_rk0 := (Nat.ne_of_lt (Nat.lt_trans lt1 (Nat.lt_trans lt2 (Nat.lt_trans lt3 (Nat.lt_trans lt4 (Nat.lt_trans lt5 (Nat.lt_trans lt6 (Nat.lt_trans lt7 (Nat.lt_trans lt8 (Nat.lt_trans lt9 (Nat.lt_trans lt10 lt11)))))))))))
  have ne129 : x_states ≠ x_rk0 := (Nat.ne_of_lt (Nat.lt_trans lt2 (Nat.lt_trans lt3 (Nat.lt_trans lt4 (Nat.lt_trans lt5 (Nat.lt_trans lt6 (Nat.lt_trans lt7 (Nat.lt_trans lt8 (Nat.lt_trans lt9 (Nat.lt_trans lt10 lt11))))))))))
  have ne130 : x_hashes ≠ x_rk0 := (Nat.ne_of_lt (Nat.lt_trans lt3 (Nat.lt_trans lt4 (Nat.lt_trans lt5 (Nat.lt_trans lt6 (Nat.lt_trans lt7 (Nat.lt_trans lt8 (Nat.lt_trans lt9 (Nat.lt_trans lt10 lt11)))))))))
  have ne131 : x_zones ≠ x_rk0 := (Nat.ne_of_lt (Nat.lt_trans lt4 (Nat.lt_trans lt5 (Nat.lt_trans lt6 (Nat.lt_trans lt7 (Nat.lt_trans lt8 (Nat.lt_trans lt9 (Nat.lt_trans lt10 lt11))))))))
  have ne132 : x_held ≠ x_rk0 := (Nat.ne_of_lt (Nat.lt_trans lt6 (Nat.lt_trans lt7 (Nat.lt_trans lt8 (Nat.lt_trans lt9 (Nat.lt_trans lt10 lt11))))))
  have ne133 : x_sameStates ≠ x_rk0 := (Nat.ne_of_lt (Nat.lt_trans lt5 (Nat.lt_trans lt6 (Nat.lt_trans lt7 (Nat.lt_trans lt8 (Nat.lt_trans lt9 (Nat.lt_trans lt10 lt11)))))))
  have ne134 : x_parents ≠ x_rk0 := (Nat.ne_of_lt (Nat.lt_trans lt7 (Nat.lt_trans lt8 (Nat.lt_trans lt9 (Nat.lt_trans lt10 lt11)))))
  have ne135 : x_events ≠ x_rk0 := (Nat.ne_of_lt (Nat.lt_trans lt8 (Nat.lt_trans lt9 (Nat.lt_trans lt10 lt11))))
  have ne136 : x_ranks ≠ x_rk0 := (Nat.ne_of_lt (Nat.lt_trans lt9 (Nat.lt_trans lt10 lt11)))
  have H137 := (((((((((V_rk0.keep K2 (ninS (Ne.symm ne128) nin0)).keep K30 (ninS (Ne.symm ne129) nin0)).other W37 (Ne.symm ne130)).other W44 (Ne.symm ne131)).other W52 (Ne.symm ne132)).other W62 (Ne.symm ne133)).other W71 (Ne.symm ne134)).other W81 (Ne.symm ne135)).other W94 (Ne.symm ne136))
  refine Gk.alen X117 hx hZ e117 H137 (hb hby d9_371) ?_
  refine Gk.icmpYes X117 hx (hb hby d9_372) (feq (by decide : ¬ ((3 : Int32) = (8 : Int32)))).2 401 (by decide) (by decide) ?_
  refine Gk.aloadN X117 hx (hb hby d9_401) rfl rfl ?_
  refine Gk.getF X117 hx hZ hown (host := "") (Or.inl (hw _ (List.mem_of_getElem? (i := 67) rfl))) Via.refl e117 H116 (hb hby d9_402) ?_
  intro T138 X138 e138
  refine Gk.iload X138 hx (hb hby d9_405) rfl ?_
  refine Gk.aaload X138 hx hZ e138 H127 rfl ⟨by decide, by decide⟩ (.ref x_rk0) h_ranked_0 (hb hby d9_407) ?_
  refine Gk.aloadN X138 hx (hb hby d9_408) rfl rfl ?_
  refine Gk.getF X138 hx hZ hown (host := "") (Or.inl (hw _ (List.mem_of_getElem? (i := 69) rfl))) Via.refl e138 H103 (hb hby d9_409) ?_
  intro T140 X140 e140
  refine Gk.iload X140 hx (hb hby d9_412) rfl ?_
  refine Gk.dup2 X140 hx (hb hby d9_414) rfl rfl ?_
  refine Gk.iaload X140 hx hZ e140 H115 ⟨by decide, by decide⟩ (.int (3 : Int32)) h_reached_0 (hb hby d9_415) ?_
  refine Gk.dupX2 X140 hx (hb hby d9_416) rfl rfl rfl ?_
  refine Gk.iconst X140 hx (hb hby d9_417) (1 : Int32) rfl ?_
  refine Gk.iadd X140 hx (hb hby d9_418) (4 : Int32) (by decide) ?_
  refine Gk.iastore X140 hx hZ e140 H115 0 rfl ⟨by decide, by decide⟩ (.int (4 : Int32)) rfl (hb hby d9_419) ?_
  intro T142 h142 X142 e142 W142 V142
  have N142 := Fr.snoc X142 N94 (Nat.le_trans g_a1 (Nat.le_of_lt (Nat.lt_trans lt0 (Nat.lt_trans lt1 (Nat.lt_trans lt2 (Nat.lt_trans lt3 (Nat.lt_trans lt4 (Nat.lt_trans lt5 (Nat.lt_trans lt6 (Nat.lt_trans lt7 (Nat.lt_trans lt8 (Nat.lt_trans lt9 (Nat.lt_trans lt10 (Nat.lt_trans lt11 lt12))))))))))))))
  refine Gk.aloadN X142 hx (hb hby d9_420) rfl rfl ?_
  have ne143 : a1 ≠ x_reached := (Nat.ne_of_lt (Nat.lt_trans lt0 (Nat.lt_trans lt1 (Nat.lt_trans lt2 (Nat.lt_trans lt3 (Nat.lt_trans lt4 (Nat.lt_trans lt5 (Nat.lt_trans lt6 (Nat.lt_trans lt7 (Nat.lt_trans lt8 (Nat.lt_trans lt9 (Nat.lt_trans lt10 (Nat.lt_trans lt11 lt12)))))))))))))
  have H144 := ((H92.other W94 (Or.inl ne102)).other W142 (Or.inl ne143))
  refine Gk.getF X142 hx hZ hown (host := "") (Or.inl (hw _ (List.mem_of_getElem? (i := 104) rfl))) Via.refl e142 H144 (hb hby d9_421) ?_
  intro T145 X145 e145
  have H147 := (H137.other W142 (Nat.ne_of_lt lt12))
  refine Gk.iastore X145 hx hZ e145 H147 3 rfl ⟨by decide, by decide⟩ (.int (3 : Int32)) rfl (hb hby d9_424) ?_
  intro T146 h146 X146 e146 W146 V146
  have N146 := Fr.snoc X146 N142 (Nat.le_trans g_a1 (Nat.le_of_lt (Nat.lt_trans lt0 (Nat.lt_trans lt1 (Nat.lt_trans lt2 (Nat.lt_trans lt3 (Nat.lt_trans lt4 (Nat.lt_trans lt5 (Nat.lt_trans lt6 (Nat.lt_trans lt7 (Nat.lt_trans lt8 (Nat.lt_trans lt9 (Nat.lt_trans lt10 lt11)))))))))))))
  refine Gk.aloadN X146 hx (hb hby d9_425) rfl rfl ?_
  refine Gk.aloadN X146 hx (hb hby d9_426) rfl rfl ?_
  have ne148 : a1 ≠ x_rk0 := (Nat.ne_of_lt (Nat.lt_trans lt0 (Nat.lt_trans lt1 (Nat.lt_trans lt2 (Nat.lt_trans lt3 (Nat.lt_trans lt4 (Nat.lt_trans lt5 (Nat.lt_trans lt6 (Nat.lt_trans lt7 (Nat.lt_trans lt8 (Nat.lt_trans lt9 (Nat.lt_trans lt10 lt11))))))))))))
  have H149 := (((((((((((F_lowest.keep K2 (ninS (Nat.ne_of_lt lt0) nin0)).keep K30 (ninS (Nat.ne_of_lt (Nat.lt_trans lt0 lt1)) nin0)).other W37 (Or.inl ne39)).other W44 (Or.inl ne47)).other W52 (Or.inl ne57)).other W62 (Or.inl ne66)).other W71 (Or.inl ne76)).other W81 (Or.inl ne89)).other W94 (Or.inl ne102)).other W142 (Or.inl ne143)).other W146 (Or.inl ne148))
  refine Gk.getF X146 hx hZ hown (host := "") (Or.inl (hw _ (List.mem_of_getElem? (i := 110) rfl))) Via.refl e146 H149 (hb hby d9_427) ?_
  intro T150 X150 e150
  refine Gk.iload X150 hx (hb hby d9_430) rfl ?_
  have gr152 := (Nat.le_trans (Nat.le_trans (Nat.le_trans (Nat.le_trans (Nat.le_trans (Nat.le_trans (Nat.le_trans (Nat.le_trans (Nat.le_trans (Nat.le_trans K2.1 K30.1) (Keep.of_wr W37).1) (Keep.of_wr W44).1) (Keep.of_wr W52).1) (Keep.of_wr W62).1) (Keep.of_wr W71).1) (Keep.of_wr W81).1) (Keep.of_wr W94).1) (Keep.of_wr W142).1) (Keep.of_wr W146).1)
  refine Gk.callS (argsL := [(.int (0 : Int32)), (.int (0 : Int32))]) X150 hx hZ hown (rm13 l Z a0 hw [] (0 : Int32) (0 : Int32) h146 n0 (Nat.le_trans Z0 gr152)) (hw _ (List.mem_of_getElem? (i := 112) rfl)) (hw _ (List.mem_of_getElem? (i := 113) rfl)) (hw _ (List.mem_of_getElem? (i := 114) rfl)) (hw _ (List.mem_of_getElem? (i := 115) rfl)) (by decide) e150 pd_1 rfl rfl (by decide) (Nat.le_of_ble_eq_true rfl) (by decide) (by decide) (by rw [hml]; rfl)  rfl (hb hby d9_432) ?_
  intro T151 L151 v151 X151 hQ151
  obtain ⟨rfl, N151q, e151⟩ := hQ151
  have N151 := Fr.app N146 N151q
  show Go p e below (T151.setTop (mkF m 435 #[.val (.ref a1), .val (.ref a2), .val (.int (-1485235949 : Int32)), .val .null, .val (.int p5), .val (.ref a6), .val (.int (0 : Int32)), .val (.int (-1 : Int32)), .val (.int (31 : Int32)), .val (.int (19 : Int32))] [(.int (if (0 : Int32) < (0 : Int32) then (0 : Int32) else (0 : Int32))), (.ref a1)])) _
  rw [show (if (0 : Int32) < (0 : Int32) then (0 : Int32) else (0 : Int32)) = (0 : Int32) from by decide]
  have H153 := ((((((((((H9.keep K30).wr W37).wr W44).wr W52).wr W62).wr W71).wr W81).wr W94).wr W142).wr W146)
  refine Gk.putF X151 hx hZ hown (host := "") (Or.inl (hw _ (List.mem_of_getElem? (i := 110) rfl))) Via.refl e151 H149 H153 (Or.inl (hw _ (List.mem_of_getElem? (i := 111) rfl))) (hw _ (List.mem_of_getElem? (i := 23) rfl)) (ty := .int) (by decide) rfl rfl (hb hby d9_435) ?_
  intro T154 h154 X154 e154 W154
  have Fw154 := H149.same W154
  have N154 := Fr.snoc X154 N151 g_a1
  refine Gk.aloadN X154 hx (hb hby d9_438) rfl rfl ?_
  refine Gk.dup X154 hx (hb hby d9_439) rfl ?_
  have H155 := ((H144.other W146 (Or.inl ne148)).other W154 (Or.inr (slot_ne (Or.inl (hw _ (List.mem_of_getElem? (i := 105) rfl))) (Or.inl (hw _ (List.mem_of_getElem? (i := 111) rfl))) (by decide) (t := .int) (t' := .int) (by decide) (by decide))))
  refine Gk.getF X154 hx hZ hown (host := "") (Or.inl (hw _ (List.mem_of_getElem? (i := 104) rfl))) Via.refl e154 H155 (hb hby d9_440) ?_
  intro T156 X156 e156
  refine Gk.iconst X156 hx (hb hby d9_443) (1 : Int32) rfl ?_
  refine Gk.iadd X156 hx (hb hby d9_444) (4 : Int32) (by decide) ?_
  have H157 := (H153.wr W154)
  refine Gk.putF X156 hx hZ hown (host := "") (Or.inl (hw _ (List.mem_of_getElem? (i := 104) rfl))) Via.refl e156 H155 H157 (Or.inl (hw _ (List.mem_of_getElem? (i := 105) rfl))) (hw _ (List.mem_of_getElem? (i := 23) rfl)) (ty := .int) (by decide) rfl rfl (hb hby d9_445) ?_
  intro T158 h158 X158 e158 W158
  have Fw158 := H155.same W158
  have N158 := Fr.snoc X158 N154 g_a1
  refine Gk.aloadN X158 hx (hb hby d9_448) rfl rfl ?_
  have H159 := ((((((((((((H7.keep K30 (ninS (Nat.ne_of_lt (Nat.lt_trans lt0 lt1)) nin0)).other W37 (Or.inl ne39)).other W44 (Or.inl ne47)).other W52 (Or.inl ne57)).other W62 (Or.inl ne66)).other W71 (Or.inl ne76)).other W81 (Or.inl ne89)).other W94 (Or.inl ne102)).other W142 (Or.inl ne143)).other W146 (Or.inl ne148)).other W154 (Or.inr (slot_ne (Or.inl (hw _ (List.mem_of_getElem? (i := 60) rfl))) (Or.inl (hw _ (List.mem_of_getElem? (i := 111) rfl))) (by decide) (t := (.array .int)) (t' := .int) (by decide) (by decide)))).other W158 (Or.inr (slot_ne (Or.inl (hw _ (List.mem_of_getElem? (i := 60) rfl))) (Or.inl (hw _ (List.mem_of_getElem? (i := 105) rfl))) (by decide) (t := (.array .int)) (t' := .int) (by decide) (by decide))))
  refine Gk.getF X158 hx hZ hown (host := "") (Or.inl (hw _ (List.mem_of_getElem? (i := 59) rfl))) Via.refl e158 H159 (hb hby d9_449) ?_
  intro T160 X160 e160
  refine Gk.iload X160 hx (hb hby d9_452) rfl ?_
  refine Gk.aloadN X160 hx (hb hby d9_454) rfl rfl ?_
  refine Gk.getF X160 hx hZ hown (host := "") (Or.inl (hw _ (List.mem_of_getElem? (i := 104) rfl))) Via.refl e160 Fw158 (hb hby d9_455) ?_
  intro T161 X161 e161
  have ne163 : x_states ≠ x_slots := (Nat.ne_of_lt (Nat.lt_trans lt2 (Nat.lt_trans lt3 (Nat.lt_trans lt4 (Nat.lt_trans lt5 (Nat.lt_trans lt6 (Nat.lt_trans lt7 (Nat.lt_trans lt8 lt9))))))))
  have ne164 : x_hashes ≠ x_slots := (Nat.ne_of_lt (Nat.lt_trans lt3 (Nat.lt_trans lt4 (Nat.lt_trans lt5 (Nat.lt_trans lt6 (Nat.lt_trans lt7 (Nat.lt_trans lt8 lt9)))))))
  have ne165 : x_zones ≠ x_slots := (Nat.ne_of_lt (Nat.lt_trans lt4 (Nat.lt_trans lt5 (Nat.lt_trans lt6 (Nat.lt_trans lt7 (Nat.lt_trans lt8 lt9))))))
  have ne166 : x_held ≠ x_slots := (Nat.ne_of_lt (Nat.lt_trans lt6 (Nat.lt_trans lt7 (Nat.lt_trans lt8 lt9))))
  have ne167 : x_sameStates ≠ x_slots := (Nat.ne_of_lt (Nat.lt_trans lt5 (Nat.lt_trans lt6 (Nat.lt_trans lt7 (Nat.lt_trans lt8 lt9)))))
  have ne168 : x_parents ≠ x_slots := (Nat.ne_of_lt (Nat.lt_trans lt7 (Nat.lt_trans lt8 lt9)))
  have ne169 : x_slots ≠ x_reached := (Nat.ne_of_lt (Nat.lt_trans lt10 (Nat.lt_trans lt11 lt12)))
  have ne170 : a1 ≠ x_slots := (Nat.ne_of_lt (Nat.lt_trans lt0 (Nat.lt_trans lt1 (Nat.lt_trans lt2 (Nat.lt_trans lt3 (Nat.lt_trans lt4 (Nat.lt_trans lt5 (Nat.lt_trans lt6 (Nat.lt_trans lt7 (Nat.lt_trans lt8 lt9))))))))))
  have H171 := ((((((((((((H5.keep K30 (ninS (Ne.symm ne163) nin0)).other W37 (Ne.symm ne164)).other W44 (Ne.symm ne165)).other W52 (Ne.symm ne166)).other W62 (Ne.symm ne167)).other W71 (Ne.symm ne168)).other W81 (Ne.symm (Nat.ne_of_lt (Nat.lt_trans lt8 lt9)))).other W94 (Ne.symm (Nat.ne_of_lt lt9))).other W142 ne169).other W146 (Nat.ne_of_lt (Nat.lt_trans lt10 lt11))).other W154 (Ne.symm ne170)).other W158 (Ne.symm ne170))
  refine Gk.iastore X161 hx hZ e161 H171 19 rfl ⟨by decide, by decide⟩ (.int (4 : Int32)) rfl (hb hby d9_458) ?_
  intro T162 h162 X162 e162 W162 V162
  have N162 := Fr.snoc X162 N158 (Nat.le_trans g_a1 (Nat.le_of_lt (Nat.lt_trans lt0 (Nat.lt_trans lt1 (Nat.lt_trans lt2 (Nat.lt_trans lt3 (Nat.lt_trans lt4 (Nat.lt_trans lt5 (Nat.lt_trans lt6 (Nat.lt_trans lt7 (Nat.lt_trans lt8 lt9)))))))))))
  refine Gk.aloadN X162 hx (hb hby d9_459) rfl rfl ?_
  have H172 := (Fw158.other W162 (Or.inl ne170))
  refine Gk.getF X162 hx hZ hown (host := "") (Or.inl (hw _ (List.mem_of_getElem? (i := 104) rfl))) Via.refl e162 H172 (hb hby d9_460) ?_
  intro T173 X173 e173
  refine Gk.iconst X173 hx (hb hby d9_463) (2 : Int32) rfl ?_
  refine Gk.imul X173 hx (hb hby d9_464) (8 : Int32) (by decide) ?_
  refine Gk.aloadN X173 hx (hb hby d9_465) rfl rfl ?_
  have H174 := (H159.other W162 (Or.inl ne170))
  refine Gk.getF X173 hx hZ hown (host := "") (Or.inl (hw _ (List.mem_of_getElem? (i := 59) rfl))) Via.refl e173 H174 (hb hby d9_466) ?_
  intro T175 X175 e175
  refine Gk.alen X175 hx hZ e175 V162 (hb hby d9_469) ?_
  refine Gk.icmpYes X175 hx (hb hby d9_470) (flt (by decide : ¬ ((32 : Int32) < (8 : Int32)))).2.2.2 477 (by decide) (by decide) ?_
  have H176 := (((((((((((((Fl2.keep K30 (ninS (Nat.ne_of_lt lt1) nin0)).other W37 (Or.inl (Nat.ne_of_lt (Nat.lt_trans lt1 lt2)))).other W44 (Or.inl ne45)).other W52 (Or.inl ne53)).other W62 (Or.inl ne63)).other W71 (Or.inl ne18)).other W81 (Or.inl ne82)).other W94 (Or.inl ne95)).other W142 (Or.inl ne106)).other W146 (Or.inl ne128)).other W154 (Or.inl (Ne.symm (Nat.ne_of_lt lt0)))).other W158 (Or.inl (Ne.symm (Nat.ne_of_lt lt0)))).other W162 (Or.inl ne4))
  have H177 := ((Fw154.other W158 (Or.inr (slot_ne (Or.inl (hw _ (List.mem_of_getElem? (i := 111) rfl))) (Or.inl (hw _ (List.mem_of_getElem? (i := 105) rfl))) (by decide) (t := .int) (t' := .int) (by decide) (by decide)))).other W162 (Or.inl ne170))
  have H178 := (((((((((((((H23.keep K30 (ninS (Nat.ne_of_lt (Nat.lt_trans lt0 lt1)) nin0)).other W37 (Or.inl ne39)).other W44 (Or.inl ne47)).other W52 (Or.inl ne57)).other W62 (Or.inl ne66)).other W71 (Or.inl ne76)).other W81 (Or.inl ne89)).other W94 (Or.inl ne102)).other W142 (Or.inl ne143)).other W146 (Or.inl ne148)).other W154 (Or.inr (slot_ne (Or.inl (hw _ (List.mem_of_getElem? (i := 40) rfl))) (Or.inl (hw _ (List.mem_of_getElem? (i := 111) rfl))) (by decide) (t := (.array .int)) (t' := .int) (by decide) (by decide)))).other W158 (Or.inr (slot_ne (Or.inl (hw _ (List.mem_of_getElem? (i := 40) rfl))) (Or.inl (hw _ (List.mem_of_getElem? (i := 105) rfl))) (by decide) (t := (.array .int)) (t' := .int) (by decide) (by decide)))).other W162 (Or.inl ne170))
  have H179 := ((((((((((((H33.other W37 (Or.inl ne39)).other W44 (Or.inl ne47)).other W52 (Or.inl ne57)).other W62 (Or.inl ne66)).other W71 (Or.inl ne76)).other W81 (Or.inl ne89)).other W94 (Or.inl ne102)).other W142 (Or.inl ne143)).other W146 (Or.inl ne148)).other W154 (Or.inr (slot_ne (Or.inl (hw _ (List.mem_of_getElem? (i := 42) rfl))) (Or.inl (hw _ (List.mem_of_getElem? (i := 111) rfl))) (by decide) (t := (.array .int)) (t' := .int) (by decide) (by decide)))).other W158 (Or.inr (slot_ne (Or.inl (hw _ (List.mem_of_getElem? (i := 42) rfl))) (Or.inl (hw _ (List.mem_of_getElem? (i := 105) rfl))) (by decide) (t := (.array .int)) (t' := .int) (by decide) (by decide)))).other W162 (Or.inl ne170))
  have H180 := (((((((((((H40.other W44 (Or.inl ne47)).other W52 (Or.inl ne57)).other W62 (Or.inl ne66)).other W71 (Or.inl ne76)).other W81 (Or.inl ne89)).other W94 (Or.inl ne102)).other W142 (Or.inl ne143)).other W146 (Or.inl ne148)).other W154 (Or.inr (slot_ne (Or.inl (hw _ (List.mem_of_getElem? (i := 46) rfl))) (Or.inl (hw _ (List.mem_of_getElem? (i := 111) rfl))) (by decide) (t := (.array (.object "com/example/tracewarden/tracewarden/engine/Zone"))) (t' := .int) (by decide) (by decide)))).other W158 (Or.inr (slot_ne (Or.inl (hw _ (List.mem_of_getElem? (i := 46) rfl))) (Or.inl (hw _ (List.mem_of_getElem? (i := 105) rfl))) (by decide) (t := (.array (.object "com/example/tracewarden/tracewarden/engine/Zone"))) (t' := .int) (by decide) (by decide)))).other W162 (Or.inl ne170))
  have H181 := (((((((((H58.other W62 (Or.inl ne66)).other W71 (Or.inl ne76)).other W81 (Or.inl ne89)).other W94 (Or.inl ne102)).other W142 (Or.inl ne143)).other W146 (Or.inl ne148)).other W154 (Or.inr (slot_ne (Or.inl (hw _ (List.mem_of_getElem? (i := 48) rfl))) (Or.inl (hw _ (List.mem_of_getElem? (i := 111) rfl))) (by decide) (t := (.array .int)) (t' := .int) (by decide) (by decide)))).other W158 (Or.inr (slot_ne (Or.inl (hw _ (List.mem_of_getElem? (i := 48) rfl))) (Or.inl (hw _ (List.mem_of_getElem? (i := 105) rfl))) (by decide) (t := (.array .int)) (t' := .int) (by decide) (by decide)))).other W162 (Or.inl ne170))
  have H182 := ((((((((((H48.other W52 (Or.inl ne57)).other W62 (Or.inl ne66)).other W71 (Or.inl ne76)).other W81 (Or.inl ne89)).other W94 (Or.inl ne102)).other W142 (Or.inl ne143)).other W146 (Or.inl ne148)).other W154 (Or.inr (slot_ne (Or.inl (hw _ (List.mem_of_getElem? (i := 51) rfl))) (Or.inl (hw _ (List.mem_of_getElem? (i := 111) rfl))) (by decide) (t := (.array .boolean)) (t' := .int) (by decide) (by decide)))).other W158 (Or.inr (slot_ne (Or.inl (hw _ (List.mem_of_getElem? (i := 51) rfl))) (Or.inl (hw _ (List.mem_of_getElem? (i := 105) rfl))) (by decide) (t := (.array .boolean)) (t' := .int) (by decide) (by decide)))).other W162 (Or.inl ne170))
  have H183 := ((((((((H67.other W71 (Or.inl ne76)).other W81 (Or.inl ne89)).other W94 (Or.inl ne102)).other W142 (Or.inl ne143)).other W146 (Or.inl ne148)).other W154 (Or.inr (slot_ne (Or.inl (hw _ (List.mem_of_getElem? (i := 53) rfl))) (Or.inl (hw _ (List.mem_of_getElem? (i := 111) rfl))) (by decide) (t := (.array .int)) (t' := .int) (by decide) (by decide)))).other W158 (Or.inr (slot_ne (Or.inl (hw _ (List.mem_of_getElem? (i := 53) rfl))) (Or.inl (hw _ (List.mem_of_getElem? (i := 105) rfl))) (by decide) (t := (.array .int)) (t' := .int) (by decide) (by decide)))).other W162 (Or.inl ne170))
  have H184 := (((((((H77.other W81 (Or.inl ne89)).other W94 (Or.inl ne102)).other W142 (Or.inl ne143)).other W146 (Or.inl ne148)).other W154 (Or.inr (slot_ne (Or.inl (hw _ (List.mem_of_getElem? (i := 56) rfl))) (Or.inl (hw _ (List.mem_of_getElem? (i := 111) rfl))) (by decide) (t := (.array (.object "com/example/tracewarden/tracewarden/engine/SearchTuples$Event"))) (t' := .int) (by decide) (by decide)))).other W158 (Or.inr (slot_ne (Or.inl (hw _ (List.mem_of_getElem? (i := 56) rfl))) (Or.inl (hw _ (List.mem_of_getElem? (i := 105) rfl))) (by decide) (t := (.array (.object "com/example/tracewarden/tracewarden/engine/SearchTuples$Event"))) (t' := .int) (by decide) (by decide)))).other W162 (Or.inl ne170))
  have H185 := ((((((H90.other W94 (Or.inl ne102)).other W142 (Or.inl ne143)).other W146 (Or.inl ne148)).other W154 (Or.inr (slot_ne (Or.inl (hw _ (List.mem_of_getElem? (i := 58) rfl))) (Or.inl (hw _ (List.mem_of_getElem? (i := 111) rfl))) (by decide) (t := (.array .int)) (t' := .int) (by decide) (by decide)))).other W158 (Or.inr (slot_ne (Or.inl (hw _ (List.mem_of_getElem? (i := 58) rfl))) (Or.inl (hw _ (List.mem_of_getElem? (i := 105) rfl))) (by decide) (t := (.array .int)) (t' := .int) (by decide) (by decide)))).other W162 (Or.inl ne170))
  have H186 := (((((H116.other W142 (Or.inl ne143)).other W146 (Or.inl ne148)).other W154 (Or.inr (slot_ne (Or.inl (hw _ (List.mem_of_getElem? (i := 68) rfl))) (Or.inl (hw _ (List.mem_of_getElem? (i := 111) rfl))) (by decide) (t := (.array (.array .int))) (t' := .int) (by decide) (by decide)))).other W158 (Or.inr (slot_ne (Or.inl (hw _ (List.mem_of_getElem? (i := 68) rfl))) (Or.inl (hw _ (List.mem_of_getElem? (i := 105) rfl))) (by decide) (t := (.array (.array .int))) (t' := .int) (by decide) (by decide)))).other W162 (Or.inl ne170))
  have H187 := (((((H103.other W142 (Or.inl ne143)).other W146 (Or.inl ne148)).other W154 (Or.inr (slot_ne (Or.inl (hw _ (List.mem_of_getElem? (i := 70) rfl))) (Or.inl (hw _ (List.mem_of_getElem? (i := 111) rfl))) (by decide) (t := (.array .int)) (t' := .int) (by decide) (by decide)))).other W158 (Or.inr (slot_ne (Or.inl (hw _ (List.mem_of_getElem? (i := 70) rfl))) (Or.inl (hw _ (List.mem_of_getElem? (i := 105) rfl))) (by decide) (t := (.array .int)) (t' := .int) (by decide) (by decide)))).other W162 (Or.inl ne170))
  have H188 := ((((((((((((((F_budget.keep K2 (ninS (Nat.ne_of_lt lt0) nin0)).keep K30 (ninS (Nat.ne_of_lt (Nat.lt_trans lt0 lt1)) nin0)).other W37 (Or.inl ne39)).other W44 (Or.inl ne47)).other W52 (Or.inl ne57)).other W62 (Or.inl ne66)).other W71 (Or.inl ne76)).other W81 (Or.inl ne89)).other W94 (Or.inl ne102)).other W142 (Or.inl ne143)).other W146 (Or.inl ne148)).other W154 (Or.inr (slot_ne (Or.inr (hw _ (List.mem_of_getElem? (i := 62) rfl))) (Or.inl (hw _ (List.mem_of_getElem? (i := 111) rfl))) (by decide) (t := (.object "com/example/tracewarden/tracewarden/engine/SearchBudget")) (t' := .int) (by decide) (by decide)))).other W158 (Or.inr (slot_ne (Or.inr (hw _ (List.mem_of_getElem? (i := 62) rfl))) (Or.inl (hw _ (List.mem_of_getElem? (i := 105) rfl))) (by decide) (t := (.object "com/example/tracewarden/tracewarden/engine/SearchBudget")) (t' := .int) (by decide) (by decide)))).other W162 (Or.inl ne170))
  have H189 := (((((((((((((H21.keep K30 (ninS (Nat.ne_of_lt (Nat.lt_trans lt0 lt1)) nin0)).other W37 (Or.inl ne39)).other W44 (Or.inl ne47)).other W52 (Or.inl ne57)).other W62 (Or.inl ne66)).other W71 (Or.inl ne76)).other W81 (Or.inl ne89)).other W94 (Or.inl ne102)).other W142 (Or.inl ne143)).other W146 (Or.inl ne148)).other W154 (Or.inr (slot_ne (Or.inl (hw _ (List.mem_of_getElem? (i := 64) rfl))) (Or.inl (hw _ (List.mem_of_getElem? (i := 111) rfl))) (by decide) (t := .int) (t' := .int) (by decide) (by decide)))).other W158 (Or.inr (slot_ne (Or.inl (hw _ (List.mem_of_getElem? (i := 64) rfl))) (Or.inl (hw _ (List.mem_of_getElem? (i := 105) rfl))) (by decide) (t := .int) (t' := .int) (by decide) (by decide)))).other W162 (Or.inl ne170))
  have H190 := (((((((((((V37.other W44 (Nat.ne_of_lt lt3)).other W52 ne55).other W62 (Nat.ne_of_lt (Nat.lt_trans lt3 lt4))).other W71 ne73).other W81 ne84).other W94 ne97).other W142 ne108).other W146 ne130).other W154 (Ne.symm ne39)).other W158 (Ne.symm ne39)).other W162 ne164)
  have H191 := (((((((V71.other W81 (Nat.ne_of_lt lt7)).other W94 (Nat.ne_of_lt (Nat.lt_trans lt7 lt8))).other W142 ne112).other W146 ne134).other W154 (Ne.symm ne76)).other W158 (Ne.symm ne76)).other W162 ne168)
  have H192 := ((((((V81.other W94 (Nat.ne_of_lt lt8)).other W142 ne113).other W146 ne135).other W154 (Ne.symm ne89)).other W158 (Ne.symm ne89)).other W162 (Nat.ne_of_lt (Nat.lt_trans lt8 lt9)))
  have H193 := ((((V142.other W146 (Ne.symm (Nat.ne_of_lt lt12))).other W154 (Ne.symm ne143)).other W158 (Ne.symm ne143)).other W162 (Ne.symm ne169))
  have H194 := ((((((((((((V30.other W37 (Nat.ne_of_lt lt2)).other W44 (Nat.ne_of_lt (Nat.lt_trans lt2 lt3))).other W52 ne54).other W62 ne64).other W71 ne72).other W81 ne83).other W94 ne96).other W142 ne107).other W146 ne129).other W154 (Ne.symm (Nat.ne_of_lt (Nat.lt_trans lt0 lt1)))).other W158 (Ne.symm (Nat.ne_of_lt (Nat.lt_trans lt0 lt1)))).other W162 ne163)
  have H195 := ((((((((((V44.other W52 (Nat.ne_of_lt (Nat.lt_trans lt4 lt5))).other W62 (Nat.ne_of_lt lt4)).other W71 ne74).other W81 ne85).other W94 ne98).other W142 ne109).other W146 ne131).other W154 (Ne.symm ne47)).other W158 (Ne.symm ne47)).other W162 ne165)
  have H196 := ((((((((V62.other W71 (Nat.ne_of_lt (Nat.lt_trans lt5 lt6))).other W81 ne86).other W94 ne100).other W142 ne111).other W146 ne133).other W154 (Ne.symm ne66)).other W158 (Ne.symm ne66)).other W162 ne167)
  have H197 := (((((((((V52.other W62 (Ne.symm (Nat.ne_of_lt lt5))).other W71 (Nat.ne_of_lt lt6)).other W81 (Nat.ne_of_lt (Nat.lt_trans lt6 lt7))).other W94 ne99).other W142 ne110).other W146 ne132).other W154 (Ne.symm ne57)).other W158 (Ne.symm ne57)).other W162 ne166)
  have H198 := (((((V94.other W142 ne114).other W146 ne136).other W154 (Ne.symm ne102)).other W158 (Ne.symm ne102)).other W162 (Nat.ne_of_lt lt9))
  have H199 := (((V146.other W154 (Ne.symm ne148)).other W158 (Ne.symm ne148)).other W162 (Ne.symm (Nat.ne_of_lt (Nat.lt_trans lt10 lt11))))
  refine Go.fin X175 (v := none) (fun _ => rfl) Bd.notSynchronized (fun _ hr => X175.returnOut hx Bd.returns (hb hby d9_477) hr) (fun U' hU hF => ⟨_, _, rfl, ?_, hF.1, hF.2.1, hF.2.2.mono (by decide) (by decide)⟩)
  rw [hU, e175]
  exact ⟨rfl, N162, (((((((((((((((Keep.refl h0 [a1, ab, x_states, x_hashes, x_zones, x_sameStates, x_held, x_parents, x_events, x_ranks, x_slots, x_rk0, x_reached]).trans K2 (allS (Or.inl (List.mem_of_getElem? (i := 1) rfl)) all0)).trans K30 (allS (Or.inl (List.mem_of_getElem? (i := 2) rfl)) all0)).wr W37 (Or.inl (List.mem_of_getElem? (i := 3) rfl))).wr W44 (Or.inl (List.mem_of_getElem? (i := 4) rfl))).wr W52 (Or.inl (List.mem_of_getElem? (i := 6) rfl))).wr W62 (Or.inl (List.mem_of_getElem? (i := 5) rfl))).wr W71 (Or.inl (List.mem_of_getElem? (i := 7) rfl))).wr W81 (Or.inl (List.mem_of_getElem? (i := 8) rfl))).wr W94 (Or.inl (List.mem_of_getElem? (i := 9) rfl))).wr W142 (Or.inl (List.mem_of_getElem? (i := 12) rfl))).wr W146 (Or.inl (List.mem_of_getElem? (i := 11) rfl))).wr W154 (Or.inl (List.mem_of_getElem? (i := 0) rfl))).wr W158 (Or.inl (List.mem_of_getElem? (i := 0) rfl))).wr W162 (Or.inl (List.mem_of_getElem? (i := 10) rfl))), H176, H172, H177, H178, H179, H180, H181, H182, H183, H184, H185, H174, H186, H187, H188, H189, V162, H190, H191, H192, H193, ⟨_, H194⟩, ⟨_, H195⟩, ⟨_, H196⟩, ⟨_, H197⟩, ⟨_, H198⟩, ⟨_, H199⟩⟩
theorem d14_0 : decode prog_86_method_22_code 0 = .ok (.iconst 0, 1) := by decide +kernel
theorem d14_1 : decode prog_86_method_22_code 1 = .ok (.istore_n 2, 1) := by decide +kernel
theorem d14_2 : decode prog_86_method_22_code 2 = .ok (.iload_n 1, 1) := by decide +kernel
theorem d14_3 : decode prog_86_method_22_code 3 = .ok (.istore_n 3, 1) := by decide +kernel
theorem d14_4 : decode prog_86_method_22_code 4 = .ok (.aload_n 0, 1) := by decide +kernel
theorem d14_5 : decode prog_86_method_22_code 5 = .ok (.getfield 29, 3) := by decide +kernel
theorem d14_8 : decode prog_86_method_22_code 8 = .ok (.iload_n 3, 1) := by decide +kernel
theorem d14_9 : decode prog_86_method_22_code 9 = .ok (.iaload, 1) := by decide +kernel
theorem d14_10 : decode prog_86_method_22_code 10 = .ok (.ifCond .lt 16, 3) := by decide +kernel
theorem d14_26 : decode prog_86_method_22_code 26 = .ok (.iload_n 2, 1) := by decide +kernel
theorem d14_27 : decode prog_86_method_22_code 27 = .ok (.anewarray 32, 3) := by decide +kernel
theorem d14_30 : decode prog_86_method_22_code 30 = .ok (.astore_n 3, 1) := by decide +kernel
theorem d14_31 : decode prog_86_method_22_code 31 = .ok (.iload_n 1, 1) := by decide +kernel
theorem d14_32 : decode prog_86_method_22_code 32 = .ok (.istore 4, 2) := by decide +kernel
theorem d14_34 : decode prog_86_method_22_code 34 = .ok (.iload_n 2, 1) := by decide +kernel
theorem d14_35 : decode prog_86_method_22_code 35 = .ok (.iconst 1, 1) := by decide +kernel
theorem d14_36 : decode prog_86_method_22_code 36 = .ok (.isub, 1) := by decide +kernel
theorem d14_37 : decode prog_86_method_22_code 37 = .ok (.istore 5, 2) := by decide +kernel
theorem d14_39 : decode prog_86_method_22_code 39 = .ok (.iload 5, 2) := by decide +kernel
theorem d14_41 : decode prog_86_method_22_code 41 = .ok (.ifCond .lt 29, 3) := by decide +kernel
theorem d14_70 : decode prog_86_method_22_code 70 = .ok (.aload_n 3, 1) := by decide +kernel
theorem d14_71 : decode prog_86_method_22_code 71 = .ok (.areturn, 1) := by decide +kernel
theorem ef_rm14_0 (m : MethodId) (a1 : Addr) : entryFrame m #[(.ref a1), (.int (0 : Int32))] 6 = mkF m 0 #[.val (.ref a1), .val (.int (0 : Int32)), .unset, .unset, .unset, .unset] [] := by first | (simp [entryFrame, mkF, argsToLocals, Value.category]; done) | rfl
def Q_rm14_0 (Z : State) (a1 : Addr) (xp : Addr) (kp : ClassId) (fp : Nat → Value) (xe : Addr) (ke : ClassId) (fe : Nat → Value) (h0 : Heap) (n0 : Nat) (v : Option Value) (h : Heap) (L : List Loc) : Prop := v = some (.ref h0.size) ∧ Fr n0 L ∧ Keep h0 h [] ∧ ∃ kr : ClassId, Arf Z h h0.size kr (.object "com/example/tracewarden/tracewarden/engine/SearchTuples$Event") (0 : Int32) (fun _ => .null)
set_option maxRecDepth 65536 in
set_option maxHeartbeats 40000000 in
theorem rm14_0 (l : Launch) (Z : State) (a0 : Array Value) (hw : ∀ d ∈ tables_1, d.before a0 Z = true) (ws : List Jvm.Cond) (a1 : Addr) (xp : Addr) (kp : ClassId) (fp : Nat → Value) (xe : Addr) (ke : ClassId) (fe : Nat → Value) (h0 : Heap) (n0 : Nat) (Z0 : n0 ≤ h0.size) (V_p : Arf Z h0 xp kp .int (16 : Int32) fp) (V_e : Arf Z h0 xe ke (.object "com/example/tracewarden/tracewarden/engine/SearchTuples$Event") (16 : Int32) fe) (F_parents : Fld Z h0 a1 "com/example/tracewarden/tracewarden/engine/SearchTuples" "parents" "[I" (.ref xp)) (F_events : Fld Z h0 a1 "com/example/tracewarden/tracewarden/engine/SearchTuples" "events" "[Lcom/example/tracewarden/tracewarden/engine/SearchTuples$Event;" (.ref xe)) (hp0 : fp 0 = (.int (-1 : Int32))) :
    MetFree l (⟨"com/example/tracewarden/tracewarden/engine/SearchTuples", "path", "(I)[Lcom/example/tracewarden/tracewarden/engine/SearchTuples$Event;"⟩ : MethodName) (head1 (Jvm.Cond.code (⟨"com/example/tracewarden/tracewarden/engine/SearchTuples", "path", "(I)[Lcom/example/tracewarden/tracewarden/engine/SearchTuples$Event;"⟩ : MethodName) prog_86_method_22_code 6 (some (.array (.object "com/example/tracewarden/tracewarden/engine/SearchTuples$Event"))) :: ws) ({ frames := 0, cells := 1, slots := 0, locals := 0 } : Room)) (fun a U => a = #[(.ref a1), (.int (0 : Int32))] ∧ Z.Warmed39 U.vm ∧ U.heap = h0) (fun _ _ _ _ _ => True) (fun _ U o U' => ∃ v L, o = .returned v ∧ Q_rm14_0 Z a1 xp kp fp xe ke fe h0 n0 v U'.heap L ∧ FrameEnd U o U' L ({ frames := 0, cells := 1, slots := 0, locals := 0 } : Room).cells ({ frames := 0, cells := 1, slots := 0, locals := 0 } : Room).slots) := by
  refine MetFree.of_bodySF (plainFor_of_name pn_95) hisR ?_
  intro p e s m args below meth c s₁ Bd hml0 hP hK
  obtain ⟨rfl, hZ, hh⟩ := hP
  have hx := Bd.exec
  have hby := Bd.bytes
  have hml : c.maxLocals = 6 := hml0
  have hown : s.vm.findClass "com/example/tracewarden/tracewarden/engine/SearchTuples" = some m.cls := findClass_of_methodNamed Bd.named
  have hnm := (name_of_methodNamed Bd.named Bd.method).1
  have X0 : Stand p l e ({ frames := 0, cells := 1, slots := 0, locals := 0 } : Room) s m #[(.ref a1), (.int (0 : Int32))] below meth c s₁ [] 0 0 := Stand.of_body Bd
  have e0 : s₁.heap = h0 := by rw [← hh, Bd.state]; rfl
  have N0 := Fr.nil n0
  show Go p e below (s₁.setTop (entryFrame m #[(.ref a1), (.int (0 : Int32))] 6)) (fun o U' => ∃ v L, o = .returned v ∧ Q_rm14_0 Z a1 xp kp fp xe ke fe h0 n0 v U'.heap L ∧ FrameEnd s o U' L ({ frames := 0, cells := 1, slots := 0, locals := 0 } : Room).cells ({ frames := 0, cells := 1, slots := 0, locals := 0 } : Room).slots)
  rw [ef_rm14_0]
  refine Gk.iconst X0 hx (hb hby d14_0) (0 : Int32) rfl ?_
  refine Gk.istoreN X0 hx (hb hby d14_1) #[.val (.ref a1), .val (.int (0 : Int32)), .val (.int (0 : Int32)), .unset, .unset, .unset] rfl ?_
  refine Gk.iloadN X0 hx (hb hby d14_2) rfl ?_
  refine Gk.istoreN X0 hx (hb hby d14_3) #[.val (.ref a1), .val (.int (0 : Int32)), .val (.int (0 : Int32)), .val (.int (0 : Int32)), .unset, .unset] rfl ?_
  refine Gk.aloadN X0 hx (hb hby d14_4) rfl rfl ?_
  refine Gk.getF X0 hx hZ hown (host := "") (Or.inl (hw _ (List.mem_of_getElem? (i := 52) rfl))) Via.refl e0 F_parents (hb hby d14_5) ?_
  intro T1 X1 e1
  refine Gk.iloadN X1 hx (hb hby d14_8) rfl ?_
  refine Gk.iaload X1 hx hZ e1 V_p ⟨by decide, by decide⟩ (.int (-1 : Int32)) hp0 (hb hby d14_9) ?_
  refine Gk.ifYes X1 hx (hb hby d14_10) (tlt (by decide : (-1 : Int32) < (0 : Int32))).1 26 (by decide) (by decide) ?_
  refine Gk.iloadN X1 hx (hb hby d14_26) rfl ?_
  refine Gk.newR X1 hx hZ hown (hw _ (List.mem_of_getElem? (i := 54) rfl)) (hw _ (List.mem_of_getElem? (i := 3) rfl)) e1 (hb hby d14_27) (by decide) (cap := 0) (by decide) (by decide) (by decide) (by decide) rfl ?_
  intro T3 h3 b3 k3 X3 e3 E3 g3 A3 B3 O3
  have g_b3 : n0 ≤ b3 := Nat.le_trans Z0 (Nat.le_of_eq g3.symm)
  have V_b3 : Arf Z h3 b3 k3 (.object "com/example/tracewarden/tracewarden/engine/SearchTuples$Event") (0 : Int32) (fun _ => .null) := A3
  have lt_b3 := V_b3.lt
  refine Gk.astoreN X3 hx (hb hby d14_30) rfl #[.val (.ref a1), .val (.int (0 : Int32)), .val (.int (0 : Int32)), .val (.ref b3), .unset, .unset] rfl ?_
  refine Gk.iloadN X3 hx (hb hby d14_31) rfl ?_
  refine Gk.istore X3 hx (hb hby d14_32) #[.val (.ref a1), .val (.int (0 : Int32)), .val (.int (0 : Int32)), .val (.ref b3), .val (.int (0 : Int32)), .unset] rfl ?_
  refine Gk.iloadN X3 hx (hb hby d14_34) rfl ?_
  refine Gk.iconst X3 hx (hb hby d14_35) (1 : Int32) rfl ?_
  refine Gk.isub X3 hx (hb hby d14_36) (-1 : Int32) (by decide) ?_
  refine Gk.istore X3 hx (hb hby d14_37) #[.val (.ref a1), .val (.int (0 : Int32)), .val (.int (0 : Int32)), .val (.ref b3), .val (.int (0 : Int32)), .val (.int (-1 : Int32))] rfl ?_
  refine Gk.iload X3 hx (hb hby d14_39) rfl ?_
  refine Gk.ifYes X3 hx (hb hby d14_41) (tlt (by decide : (-1 : Int32) < (0 : Int32))).1 70 (by decide) (by decide) ?_
  refine Gk.aloadN X3 hx (hb hby d14_70) rfl rfl ?_
  refine Go.fin X3 (v := some (.ref b3)) (fun h_ => by rw [Bd.returns] at h_; cases h_) Bd.notSynchronized (fun _ hr => retOut X3 hx Bd.returns rfl (Or.inr (Or.inr (Or.inr (Or.inr ⟨rfl, rfl, rfl⟩)))) (hb hby d14_71) hr) (fun U' hU hF => ⟨_, _, rfl, ?_, hF.1, hF.2.1, hF.2.2.mono (by decide) (by decide)⟩)
  rw [hU, e3]
  exact ⟨(congrArg (fun z_ : Addr => some (Value.ref z_)) (show b3 = h0.size from g3)), N0, ((Keep.refl h0 []).ext E3), _, (g3 ▸ V_b3)⟩
theorem ef_rm14_1 (m : MethodId) (a1 : Addr) : entryFrame m #[(.ref a1), (.int (1 : Int32))] 6 = mkF m 0 #[.val (.ref a1), .val (.int (1 : Int32)), .unset, .unset, .unset, .unset] [] := by first | (simp [entryFrame, mkF, argsToLocals, Value.category]; done) | rfl
def Q_rm14_1 (Z : State) (a1 : Addr) (xp : Addr) (kp : ClassId) (fp : Nat → Value) (xe : Addr) (ke : ClassId) (fe : Nat → Value) (h0 : Heap) (n0 : Nat) (v : Option Value) (h : Heap) (L : List Loc) : Prop := v = some (.ref h0.size) ∧ Fr n0 L ∧ Keep h0 h [] ∧ ∃ kr : ClassId, Arf Z h h0.size kr (.object "com/example/tracewarden/tracewarden/engine/SearchTuples$Event") (0 : Int32) (fun _ => .null)
set_option maxRecDepth 65536 in
set_option maxHeartbeats 40000000 in
theorem rm14_1 (l : Launch) (Z : State) (a0 : Array Value) (hw : ∀ d ∈ tables_1, d.before a0 Z = true) (ws : List Jvm.Cond) (a1 : Addr) (xp : Addr) (kp : ClassId) (fp : Nat → Value) (xe : Addr) (ke : ClassId) (fe : Nat → Value) (h0 : Heap) (n0 : Nat) (Z0 : n0 ≤ h0.size) (V_p : Arf Z h0 xp kp .int (16 : Int32) fp) (V_e : Arf Z h0 xe ke (.object "com/example/tracewarden/tracewarden/engine/SearchTuples$Event") (16 : Int32) fe) (F_parents : Fld Z h0 a1 "com/example/tracewarden/tracewarden/engine/SearchTuples" "parents" "[I" (.ref xp)) (F_events : Fld Z h0 a1 "com/example/tracewarden/tracewarden/engine/SearchTuples" "events" "[Lcom/example/tracewarden/tracewarden/engine/SearchTuples$Event;" (.ref xe)) (hp1 : fp 1 = (.int (-1 : Int32))) :
    MetFree l (⟨"com/example/tracewarden/tracewarden/engine/SearchTuples", "path", "(I)[Lcom/example/tracewarden/tracewarden/engine/SearchTuples$Event;"⟩ : MethodName) (head1 (Jvm.Cond.code (⟨"com/example/tracewarden/tracewarden/engine/SearchTuples", "path", "(I)[Lcom/example/tracewarden/tracewarden/engine/SearchTuples$Event;"⟩ : MethodName) prog_86_method_22_code 6 (some (.array (.object "com/example/tracewarden/tracewarden/engine/SearchTuples$Event"))) :: ws) ({ frames := 0, cells := 1, slots := 0, locals := 0 } : Room)) (fun a U => a = #[(.ref a1), (.int (1 : Int32))] ∧ Z.Warmed39 U.vm ∧ U.heap = h0) (fun _ _ _ _ _ => True) (fun _ U o U' => ∃ v L, o = .returned v ∧ Q_rm14_1 Z a1 xp kp fp xe ke fe h0 n0 v U'.heap L ∧ FrameEnd U o U' L ({ frames := 0, cells := 1, slots := 0, locals := 0 } : Room).cells ({ frames := 0, cells := 1, slots := 0, locals := 0 } : Room).slots) := by
  refine MetFree.of_bodySF (plainFor_of_name pn_95) hisR ?_
  intro p e s m args below meth c s₁ Bd hml0 hP hK
  obtain ⟨rfl, hZ, hh⟩ := hP
  have hx := Bd.exec
  have hby := Bd.bytes
  have hml : c.maxLocals = 6 := hml0
  have hown : s.vm.findClass "com/example/tracewarden/tracewarden/engine/SearchTuples" = some m.cls := findClass_of_methodNamed Bd.named
  have hnm := (name_of_methodNamed Bd.named Bd.method).1
  have X0 : Stand p l e ({ frames := 0, cells := 1, slots := 0, locals := 0 } : Room) s m #[(.ref a1), (.int (1 : Int32))] below meth c s₁ [] 0 0 := Stand.of_body Bd
  have e0 : s₁.heap = h0 := by rw [← hh, Bd.state]; rfl
  have N0 := Fr.nil n0
  show Go p e below (s₁.setTop (entryFrame m #[(.ref a1), (.int (1 : Int32))] 6)) (fun o U' => ∃ v L, o = .returned v ∧ Q_rm14_1 Z a1 xp kp fp xe ke fe h0 n0 v U'.heap L ∧ FrameEnd s o U' L ({ frames := 0, cells := 1, slots := 0, locals := 0 } : Room).cells ({ frames := 0, cells := 1, slots := 0, locals := 0 } : Room).slots)
  rw [ef_rm14_1]
  refine Gk.iconst X0 hx (hb hby d14_0) (0 : Int32) rfl ?_
  refine Gk.istoreN X0 hx (hb hby d14_1) #[.val (.ref a1), .val (.int (1 : Int32)), .val (.int (0 : Int32)), .unset, .unset, .unset] rfl ?_
  refine Gk.iloadN X0 hx (hb hby d14_2) rfl ?_
  refine Gk.istoreN X0 hx (hb hby d14_3) #[.val (.ref a1), .val (.int (1 : Int32)), .val (.int (0 : Int32)), .val (.int (1 : Int32)), .unset, .unset] rfl ?_
  refine Gk.aloadN X0 hx (hb hby d14_4) rfl rfl ?_
  refine Gk.getF X0 hx hZ hown (host := "") (Or.inl (hw _ (List.mem_of_getElem? (i := 52) rfl))) Via.refl e0 F_parents (hb hby d14_5) ?_
  intro T1 X1 e1
  refine Gk.iloadN X1 hx (hb hby d14_8) rfl ?_
  refine Gk.iaload X1 hx hZ e1 V_p ⟨by decide, by decide⟩ (.int (-1 : Int32)) hp1 (hb hby d14_9) ?_
  refine Gk.ifYes X1 hx (hb hby d14_10) (tlt (by decide : (-1 : Int32) < (0 : Int32))).1 26 (by decide) (by decide) ?_
  refine Gk.iloadN X1 hx (hb hby d14_26) rfl ?_
  refine Gk.newR X1 hx hZ hown (hw _ (List.mem_of_getElem? (i := 54) rfl)) (hw _ (List.mem_of_getElem? (i := 3) rfl)) e1 (hb hby d14_27) (by decide) (cap := 0) (by decide) (by decide) (by decide) (by decide) rfl ?_
  intro T3 h3 b3 k3 X3 e3 E3 g3 A3 B3 O3
  have g_b3 : n0 ≤ b3 := Nat.le_trans Z0 (Nat.le_of_eq g3.symm)
  have V_b3 : Arf Z h3 b3 k3 (.object "com/example/tracewarden/tracewarden/engine/SearchTuples$Event") (0 : Int32) (fun _ => .null) := A3
  have lt_b3 := V_b3.lt
  refine Gk.astoreN X3 hx (hb hby d14_30) rfl #[.val (.ref a1), .val (.int (1 : Int32)), .val (.int (0 : Int32)), .val (.ref b3), .unset, .unset] rfl ?_
  refine Gk.iloadN X3 hx (hb hby d14_31) rfl ?_
  refine Gk.istore X3 hx (hb hby d14_32) #[.val (.ref a1), .val (.int (1 : Int32)), .val (.int (0 : Int32)), .val (.ref b3), .val (.int (1 : Int32)), .unset] rfl ?_
  refine Gk.iloadN X3 hx (hb hby d14_34) rfl ?_
  refine Gk.iconst X3 hx (hb hby d14_35) (1 : Int32) rfl ?_
  refine Gk.isub X3 hx (hb hby d14_36) (-1 : Int32) (by decide) ?_
  refine Gk.istore X3 hx (hb hby d14_37) #[.val (.ref a1), .val (.int (1 : Int32)), .val (.int (0 : Int32)), .val (.ref b3), .val (.int (1 : Int32)), .val (.int (-1 : Int32))] rfl ?_
  refine Gk.iload X3 hx (hb hby d14_39) rfl ?_
  refine Gk.ifYes X3 hx (hb hby d14_41) (tlt (by decide : (-1 : Int32) < (0 : Int32))).1 70 (by decide) (by decide) ?_
  refine Gk.aloadN X3 hx (hb hby d14_70) rfl rfl ?_
  refine Go.fin X3 (v := some (.ref b3)) (fun h_ => by rw [Bd.returns] at h_; cases h_) Bd.notSynchronized (fun _ hr => retOut X3 hx Bd.returns rfl (Or.inr (Or.inr (Or.inr (Or.inr ⟨rfl, rfl, rfl⟩)))) (hb hby d14_71) hr) (fun U' hU hF => ⟨_, _, rfl, ?_, hF.1, hF.2.1, hF.2.2.mono (by decide) (by decide)⟩)
  rw [hU, e3]
  exact ⟨(congrArg (fun z_ : Addr => some (Value.ref z_)) (show b3 = h0.size from g3)), N0, ((Keep.refl h0 []).ext E3), _, (g3 ▸ V_b3)⟩
theorem d14_13 : decode prog_86_method_22_code 13 = .ok (.iinc 2 1, 3) := by decide +kernel
theorem d14_16 : decode prog_86_method_22_code 16 = .ok (.aload_n 0, 1) := by decide +kernel
theorem d14_17 : decode prog_86_method_22_code 17 = .ok (.getfield 29, 3) := by decide +kernel
theorem d14_20 : decode prog_86_method_22_code 20 = .ok (.iload_n 3, 1) := by decide +kernel
theorem d14_21 : decode prog_86_method_22_code 21 = .ok (.iaload, 1) := by decide +kernel
theorem d14_22 : decode prog_86_method_22_code 22 = .ok (.istore_n 3, 1) := by decide +kernel
theorem d14_23 : decode prog_86_method_22_code 23 = .ok (.goto (-19), 3) := by decide +kernel
theorem d14_44 : decode prog_86_method_22_code 44 = .ok (.aload_n 3, 1) := by decide +kernel
theorem d14_45 : decode prog_86_method_22_code 45 = .ok (.iload 5, 2) := by decide +kernel
theorem d14_47 : decode prog_86_method_22_code 47 = .ok (.aload_n 0, 1) := by decide +kernel
theorem d14_48 : decode prog_86_method_22_code 48 = .ok (.getfield 34, 3) := by decide +kernel
theorem d14_51 : decode prog_86_method_22_code 51 = .ok (.iload 4, 2) := by decide +kernel
theorem d14_53 : decode prog_86_method_22_code 53 = .ok (.aaload, 1) := by decide +kernel
theorem d14_54 : decode prog_86_method_22_code 54 = .ok (.aastore, 1) := by decide +kernel
theorem d14_55 : decode prog_86_method_22_code 55 = .ok (.aload_n 0, 1) := by decide +kernel
theorem d14_56 : decode prog_86_method_22_code 56 = .ok (.getfield 29, 3) := by decide +kernel
theorem d14_59 : decode prog_86_method_22_code 59 = .ok (.iload 4, 2) := by decide +kernel
theorem d14_61 : decode prog_86_method_22_code 61 = .ok (.iaload, 1) := by decide +kernel
theorem d14_62 : decode prog_86_method_22_code 62 = .ok (.istore 4, 2) := by decide +kernel
theorem d14_64 : decode prog_86_method_22_code 64 = .ok (.iinc 5 (-1), 3) := by decide +kernel
theorem d14_67 : decode prog_86_method_22_code 67 = .ok (.goto (-28), 3) := by decide +kernel
theorem ef_rm14_10 (m : MethodId) (a1 : Addr) : entryFrame m #[(.ref a1), (.int (1 : Int32))] 6 = mkF m 0 #[.val (.ref a1), .val (.int (1 : Int32)), .unset, .unset, .unset, .unset] [] := by first | (simp [entryFrame, mkF, argsToLocals, Value.category]; done) | rfl
def Q_rm14_10 (Z : State) (a1 : Addr) (xp : Addr) (kp : ClassId) (fp : Nat → Value) (xe : Addr) (ke : ClassId) (fe : Nat → Value) (y0 : Addr) (h0 : Heap) (n0 : Nat) (v : Option Value) (h : Heap) (L : List Loc) : Prop := v = some (.ref h0.size) ∧ Fr n0 L ∧ Keep h0 h [] ∧ ∃ kr : ClassId, Arf Z h h0.size kr (.object "com/example/tracewarden/tracewarden/engine/SearchTuples$Event") (1 : Int32) (upd (fun _ => .null) 0 (.ref y0))
set_option maxRecDepth 65536 in
set_option maxHeartbeats 40000000 in
theorem rm14_10 (l : Launch) (Z : State) (a0 : Array Value) (hw : ∀ d ∈ tables_1, d.before a0 Z = true) (ws : List Jvm.Cond) (a1 : Addr) (xp : Addr) (kp : ClassId) (fp : Nat → Value) (xe : Addr) (ke : ClassId) (fe : Nat → Value) (y0 : Addr) (h0 : Heap) (n0 : Nat) (Z0 : n0 ≤ h0.size) (V_p : Arf Z h0 xp kp .int (16 : Int32) fp) (V_e : Arf Z h0 xe ke (.object "com/example/tracewarden/tracewarden/engine/SearchTuples$Event") (16 : Int32) fe) (F_parents : Fld Z h0 a1 "com/example/tracewarden/tracewarden/engine/SearchTuples" "parents" "[I" (.ref xp)) (F_events : Fld Z h0 a1 "com/example/tracewarden/tracewarden/engine/SearchTuples" "events" "[Lcom/example/tracewarden/tracewarden/engine/SearchTuples$Event;" (.ref xe)) (hp1 : fp 1 = (.int (0 : Int32))) (hp0 : fp 0 = (.int (-1 : Int32))) (he1 : fe 1 = (.ref y0)) (E_y0 : Exa Z h0 y0 "com/example/tracewarden/tracewarden/engine/SearchTuples$Event") :
    MetFree l (⟨"com/example/tracewarden/tracewarden/engine/SearchTuples", "path", "(I)[Lcom/example/tracewarden/tracewarden/engine/SearchTuples$Event;"⟩ : MethodName) (head1 (Jvm.Cond.code (⟨"com/example/tracewarden/tracewarden/engine/SearchTuples", "path", "(I)[Lcom/example/tracewarden/tracewarden/engine/SearchTuples$Event;"⟩ : MethodName) prog_86_method_22_code 6 (some (.array (.object "com/example/tracewarden/tracewarden/engine/SearchTuples$Event"))) :: ws) ({ frames := 0, cells := 1, slots := 1, locals := 0 } : Room)) (fun a U => a = #[(.ref a1), (.int (1 : Int32))] ∧ Z.Warmed39 U.vm ∧ U.heap = h0) (fun _ _ _ _ _ => True) (fun _ U o U' => ∃ v L, o = .returned v ∧ Q_rm14_10 Z a1 xp kp fp xe ke fe y0 h0 n0 v U'.heap L ∧ FrameEnd U o U' L ({ frames := 0, cells := 1, slots := 1, locals := 0 } : Room).cells ({ frames := 0, cells := 1, slots := 1, locals := 0 } : Room).slots) := by
  refine MetFree.of_bodySF (plainFor_of_name pn_95) hisR ?_
  intro p e s m args below meth c s₁ Bd hml0 hP hK
  obtain ⟨rfl, hZ, hh⟩ := hP
  have hx := Bd.exec
  have hby := Bd.bytes
  have hml : c.maxLocals = 6 := hml0
  have hown : s.vm.findClass "com/example/tracewarden/tracewarden/engine/SearchTuples" = some m.cls := findClass_of_methodNamed Bd.named
  have hnm := (name_of_methodNamed Bd.named Bd.method).1
  have X0 : Stand p l e ({ frames := 0, cells := 1, slots := 1, locals := 0 } : Room) s m #[(.ref a1), (.int (1 : Int32))] below meth c s₁ [] 0 0 := Stand.of_body Bd
  have e0 : s₁.heap = h0 := by rw [← hh, Bd.state]; rfl
  have N0 := Fr.nil n0
  show Go p e below (s₁.setTop (entryFrame m #[(.ref a1), (.int (1 : Int32))] 6)) (fun o U' => ∃ v L, o = .returned v ∧ Q_rm14_10 Z a1 xp kp fp xe ke fe y0 h0 n0 v U'.heap L ∧ FrameEnd s o U' L ({ frames := 0, cells := 1, slots := 1, locals := 0 } : Room).cells ({ frames := 0, cells := 1, slots := 1, locals := 0 } : Room).slots)
  rw [ef_rm14_10]
  refine Gk.iconst X0 hx (hb hby d14_0) (0 : Int32) rfl ?_
  refine Gk.istoreN X0 hx (hb hby d14_1) #[.val (.ref a1), .val (.int (1 : Int32)), .val (.int (0 : Int32)), .unset, .unset, .unset] rfl ?_
  refine Gk.iloadN X0 hx (hb hby d14_2) rfl ?_
  refine Gk.istoreN X0 hx (hb hby d14_3) #[.val (.ref a1), .val (.int (1 : Int32)), .val (.int (0 : Int32)), .val (.int (1 : Int32)), .unset, .unset] rfl ?_
  refine Gk.aloadN X0 hx (hb hby d14_4) rfl rfl ?_
  refine Gk.getF X0 hx hZ hown (host := "") (Or.inl (hw _ (List.mem_of_getElem? (i := 52) rfl))) Via.refl e0 F_parents (hb hby d14_5) ?_
  intro T1 X1 e1
  refine Gk.iloadN X1 hx (hb hby d14_8) rfl ?_
  refine Gk.iaload X1 hx hZ e1 V_p ⟨by decide, by decide⟩ (.int (0 : Int32)) hp1 (hb hby d14_9) ?_
  refine Gk.ifNo X1 hx (hb hby d14_10) (flt (by decide : ¬ ((0 : Int32) < (0 : Int32)))).1 ?_
  refine Gk.iinc X1 hx (hb hby d14_13) rfl #[.val (.ref a1), .val (.int (1 : Int32)), .val (.int (1 : Int32)), .val (.int (1 : Int32)), .unset, .unset] rfl ?_
  refine Gk.aloadN X1 hx (hb hby d14_16) rfl rfl ?_
  refine Gk.getF X1 hx hZ hown (host := "") (Or.inl (hw _ (List.mem_of_getElem? (i := 52) rfl))) Via.refl e1 F_parents (hb hby d14_17) ?_
  intro T3 X3 e3
  refine Gk.iloadN X3 hx (hb hby d14_20) rfl ?_
  refine Gk.iaload X3 hx hZ e3 V_p ⟨by decide, by decide⟩ (.int (0 : Int32)) hp1 (hb hby d14_21) ?_
  refine Gk.istoreN X3 hx (hb hby d14_22) #[.val (.ref a1), .val (.int (1 : Int32)), .val (.int (1 : Int32)), .val (.int (0 : Int32)), .unset, .unset] rfl ?_
  refine Gk.goto X3 hx (hb hby d14_23) 4 (by decide) (by decide) ?_
  refine Gk.aloadN X3 hx (hb hby d14_4) rfl rfl ?_
  refine Gk.getF X3 hx hZ hown (host := "") (Or.inl (hw _ (List.mem_of_getElem? (i := 52) rfl))) Via.refl e3 F_parents (hb hby d14_5) ?_
  intro T5 X5 e5
  refine Gk.iloadN X5 hx (hb hby d14_8) rfl ?_
  refine Gk.iaload X5 hx hZ e5 V_p ⟨by decide, by decide⟩ (.int (-1 : Int32)) hp0 (hb hby d14_9) ?_
  refine Gk.ifYes X5 hx (hb hby d14_10) (tlt (by decide : (-1 : Int32) < (0 : Int32))).1 26 (by decide) (by decide) ?_
  refine Gk.iloadN X5 hx (hb hby d14_26) rfl ?_
  refine Gk.newR X5 hx hZ hown (hw _ (List.mem_of_getElem? (i := 54) rfl)) (hw _ (List.mem_of_getElem? (i := 3) rfl)) e5 (hb hby d14_27) (by decide) (cap := 1) (by decide) (by decide) (by decide) (by decide) rfl ?_
  intro T7 h7 b7 k7 X7 e7 E7 g7 A7 B7 O7
  have g_b7 : n0 ≤ b7 := Nat.le_trans Z0 (Nat.le_of_eq g7.symm)
  have V_b7 : Arf Z h7 b7 k7 (.object "com/example/tracewarden/tracewarden/engine/SearchTuples$Event") (1 : Int32) (fun _ => .null) := A7
  have lt_b7 := V_b7.lt
  refine Gk.astoreN X7 hx (hb hby d14_30) rfl #[.val (.ref a1), .val (.int (1 : Int32)), .val (.int (1 : Int32)), .val (.ref b7), .unset, .unset] rfl ?_
  refine Gk.iloadN X7 hx (hb hby d14_31) rfl ?_
  refine Gk.istore X7 hx (hb hby d14_32) #[.val (.ref a1), .val (.int (1 : Int32)), .val (.int (1 : Int32)), .val (.ref b7), .val (.int (1 : Int32)), .unset] rfl ?_
  refine Gk.iloadN X7 hx (hb hby d14_34) rfl ?_
  refine Gk.iconst X7 hx (hb hby d14_35) (1 : Int32) rfl ?_
  refine Gk.isub X7 hx (hb hby d14_36) (0 : Int32) (by decide) ?_
  refine Gk.istore X7 hx (hb hby d14_37) #[.val (.ref a1), .val (.int (1 : Int32)), .val (.int (1 : Int32)), .val (.ref b7), .val (.int (1 : Int32)), .val (.int (0 : Int32))] rfl ?_
  refine Gk.iload X7 hx (hb hby d14_39) rfl ?_
  refine Gk.ifNo X7 hx (hb hby d14_41) (flt (by decide : ¬ ((0 : Int32) < (0 : Int32)))).1 ?_
  refine Gk.aloadN X7 hx (hb hby d14_44) rfl rfl ?_
  refine Gk.iload X7 hx (hb hby d14_45) rfl ?_
  refine Gk.aloadN X7 hx (hb hby d14_47) rfl rfl ?_
  have H8 := (F_events.ext E7)
  refine Gk.getF X7 hx hZ hown (host := "") (Or.inl (hw _ (List.mem_of_getElem? (i := 55) rfl))) Via.refl e7 H8 (hb hby d14_48) ?_
  intro T9 X9 e9
  refine Gk.iload X9 hx (hb hby d14_51) rfl ?_
  have H11 := (V_e.ext E7)
  refine Gk.aaload X9 hx hZ e9 H11 rfl ⟨by decide, by decide⟩ (.ref y0) he1 (hb hby d14_53) ?_
  have H13 := (E_y0.ext E7)
  refine Gk.aastore X9 hx hZ e9 V_b7 0 rfl ⟨by decide, by decide⟩ rfl rfl (Or.inr ⟨_, _, rfl, O7, Ins.self H13⟩) (hb hby d14_54) ?_
  intro T12 h12 X12 e12 W12 V12
  have N12 := Fr.snoc X12 N0 g_b7
  refine Gk.aloadN X12 hx (hb hby d14_55) rfl rfl ?_
  have ne14 : a1 ≠ b7 := (Nat.ne_of_lt (Nat.lt_of_lt_of_le F_parents.lt (Nat.le_of_eq g7.symm)))
  have H15 := ((F_parents.ext E7).other W12 (Or.inl ne14))
  refine Gk.getF X12 hx hZ hown (host := "") (Or.inl (hw _ (List.mem_of_getElem? (i := 52) rfl))) Via.refl e12 H15 (hb hby d14_56) ?_
  intro T16 X16 e16
  refine Gk.iload X16 hx (hb hby d14_59) rfl ?_
  have ne18 : xp ≠ b7 := (Nat.ne_of_lt (Nat.lt_of_lt_of_le V_p.lt (Nat.le_trans (Nat.le_refl _) (Nat.le_of_eq g7.symm))))
  have H19 := ((V_p.ext E7).other W12 ne18)
  refine Gk.iaload X16 hx hZ e16 H19 ⟨by decide, by decide⟩ (.int (0 : Int32)) hp1 (hb hby d14_61) ?_
  refine Gk.istore X16 hx (hb hby d14_62) #[.val (.ref a1), .val (.int (1 : Int32)), .val (.int (1 : Int32)), .val (.ref b7), .val (.int (0 : Int32)), .val (.int (0 : Int32))] rfl ?_
  refine Gk.iinc X16 hx (hb hby d14_64) rfl #[.val (.ref a1), .val (.int (1 : Int32)), .val (.int (1 : Int32)), .val (.ref b7), .val (.int (0 : Int32)), .val (.int (-1 : Int32))] rfl ?_
  refine Gk.goto X16 hx (hb hby d14_67) 39 (by decide) (by decide) ?_
  refine Gk.iload X16 hx (hb hby d14_39) rfl ?_
  refine Gk.ifYes X16 hx (hb hby d14_41) (tlt (by decide : (-1 : Int32) < (0 : Int32))).1 70 (by decide) (by decide) ?_
  refine Gk.aloadN X16 hx (hb hby d14_70) rfl rfl ?_
  refine Go.fin X16 (v := some (.ref b7)) (fun h_ => by rw [Bd.returns] at h_; cases h_) Bd.notSynchronized (fun _ hr => retOut X16 hx Bd.returns rfl (Or.inr (Or.inr (Or.inr (Or.inr ⟨rfl, rfl, rfl⟩)))) (hb hby d14_71) hr) (fun U' hU hF => ⟨_, _, rfl, ?_, hF.1, hF.2.1, hF.2.2.mono (by decide) (by decide)⟩)
  rw [hU, e16]
  exact ⟨(congrArg (fun z_ : Addr => some (Value.ref z_)) (show b7 = h0.size from g7)), N12, (((Keep.refl h0 []).ext E7).wr W12 (Or.inr (Nat.le_trans (Nat.le_refl _) (Nat.le_of_eq g7.symm)))), _, (g7 ▸ V12)⟩
theorem ef_rm14_2 (m : MethodId) (a1 : Addr) : entryFrame m #[(.ref a1), (.int (2 : Int32))] 6 = mkF m 0 #[.val (.ref a1), .val (.int (2 : Int32)), .unset, .unset, .unset, .unset] [] := by first | (simp [entryFrame, mkF, argsToLocals, Value.category]; done) | rfl
def Q_rm14_2 (Z : State) (a1 : Addr) (xp : Addr) (kp : ClassId) (fp : Nat → Value) (xe : Addr) (ke : ClassId) (fe : Nat → Value) (h0 : Heap) (n0 : Nat) (v : Option Value) (h : Heap) (L : List Loc) : Prop := v = some (.ref h0.size) ∧ Fr n0 L ∧ Keep h0 h [] ∧ ∃ kr : ClassId, Arf Z h h0.size kr (.object "com/example/tracewarden/tracewarden/engine/SearchTuples$Event") (0 : Int32) (fun _ => .null)
set_option maxRecDepth 65536 in
set_option maxHeartbeats 40000000 in
theorem rm14_2 (l : Launch) (Z : State) (a0 : Array Value) (hw : ∀ d ∈ tables_1, d.before a0 Z = true) (ws : List Jvm.Cond) (a1 : Addr) (xp : Addr) (kp : ClassId) (fp : Nat → Value) (xe : Addr) (ke : ClassId) (fe : Nat → Value) (h0 : Heap) (n0 : Nat) (Z0 : n0 ≤ h0.size) (V_p : Arf Z h0 xp kp .int (16 : Int32) fp) (V_e : Arf Z h0 xe ke (.object "com/example/tracewarden/tracewarden/engine/SearchTuples$Event") (16 : Int32) fe) (F_parents : Fld Z h0 a1 "com/example/tracewarden/tracewarden/engine/SearchTuples" "parents" "[I" (.ref xp)) (F_events : Fld Z h0 a1 "com/example/tracewarden/tracewarden/engine/SearchTuples" "events" "[Lcom/example/tracewarden/tracewarden/engine/SearchTuples$Event;" (.ref xe)) (hp2 : fp 2 = (.int (-1 : Int32))) :
    MetFree l (⟨"com/example/tracewarden/tracewarden/engine/SearchTuples", "path", "(I)[Lcom/example/tracewarden/tracewarden/engine/SearchTuples$Event;"⟩ : MethodName) (head1 (Jvm.Cond.code (⟨"com/example/tracewarden/tracewarden/engine/SearchTuples", "path", "(I)[Lcom/example/tracewarden/tracewarden/engine/SearchTuples$Event;"⟩ : MethodName) prog_86_method_22_code 6 (some (.array (.object "com/example/tracewarden/tracewarden/engine/SearchTuples$Event"))) :: ws) ({ frames := 0, cells := 1, slots := 0, locals := 0 } : Room)) (fun a U => a = #[(.ref a1), (.int (2 : Int32))] ∧ Z.Warmed39 U.vm ∧ U.heap = h0) (fun _ _ _ _ _ => True) (fun _ U o U' => ∃ v L, o = .returned v ∧ Q_rm14_2 Z a1 xp kp fp xe ke fe h0 n0 v U'.heap L ∧ FrameEnd U o U' L ({ frames := 0, cells := 1, slots := 0, locals := 0 } : Room).cells ({ frames := 0, cells := 1, slots := 0, locals := 0 } : Room).slots) := by
  refine MetFree.of_bodySF (plainFor_of_name pn_95) hisR ?_
  intro p e s m args below meth c s₁ Bd hml0 hP hK
  obtain ⟨rfl, hZ, hh⟩ := hP
  have hx := Bd.exec
  have hby := Bd.bytes
  have hml : c.maxLocals = 6 := hml0
  have hown : s.vm.findClass "com/example/tracewarden/tracewarden/engine/SearchTuples" = some m.cls := findClass_of_methodNamed Bd.named
  have hnm := (name_of_methodNamed Bd.named Bd.method).1
  have X0 : Stand p l e ({ frames := 0, cells := 1, slots := 0, locals := 0 } : Room) s m #[(.ref a1), (.int (2 : Int32))] below meth c s₁ [] 0 0 := Stand.of_body Bd
  have e0 : s₁.heap = h0 := by rw [← hh, Bd.state]; rfl
  have N0 := Fr.nil n0
  show Go p e below (s₁.setTop (entryFrame m #[(.ref a1), (.int (2 : Int32))] 6)) (fun o U' => ∃ v L, o = .returned v ∧ Q_rm14_2 Z a1 xp kp fp xe ke fe h0 n0 v U'.heap L ∧ FrameEnd s o U' L ({ frames := 0, cells := 1, slots := 0, locals := 0 } : Room).cells ({ frames := 0, cells := 1, slots := 0, locals := 0 } : Room).slots)
  rw [ef_rm14_2]
  refine Gk.iconst X0 hx (hb hby d14_0) (0 : Int32) rfl ?_
  refine Gk.istoreN X0 hx (hb hby d14_1) #[.val (.ref a1), .val (.int (2 : Int32)), .val (.int (0 : Int32)), .unset, .unset, .unset] rfl ?_
  refine Gk.iloadN X0 hx (hb hby d14_2) rfl ?_
  refine Gk.istoreN X0 hx (hb hby d14_3) #[.val (.ref a1), .val (.int (2 : Int32)), .val (.int (0 : Int32)), .val (.int (2 : Int32)), .unset, .unset] rfl ?_
  refine Gk.aloadN X0 hx (hb hby d14_4) rfl rfl ?_
  refine Gk.getF X0 hx hZ hown (host := "") (Or.inl (hw _ (List.mem_of_getElem? (i := 52) rfl))) Via.refl e0 F_parents (hb hby d14_5) ?_
  intro T1 X1 e1
  refine Gk.iloadN X1 hx (hb hby d14_8) rfl ?_
  refine Gk.iaload X1 hx hZ e1 V_p ⟨by decide, by decide⟩ (.int (-1 : Int32)) hp2 (hb hby d14_9) ?_
  refine Gk.ifYes X1 hx (hb hby d14_10) (tlt (by decide : (-1 : Int32) < (0 : Int32))).1 26 (by decide) (by decide) ?_
  refine Gk.iloadN X1 hx (hb hby d14_26) rfl ?_
  refine Gk.newR X1 hx hZ hown (hw _ (List.mem_of_getElem? (i := 54) rfl)) (hw _ (List.mem_of_getElem? (i := 3) rfl)) e1 (hb hby d14_27) (by decide) (cap := 0) (by decide) (by decide) (by decide) (by decide) rfl ?_
  intro T3 h3 b3 k3 X3 e3 E3 g3 A3 B3 O3
  have g_b3 : n0 ≤ b3 := Nat.le_trans Z0 (Nat.le_of_eq g3.symm)
  have V_b3 : Arf Z h3 b3 k3 (.object "com/example/tracewarden/tracewarden/engine/SearchTuples$Event") (0 : Int32) (fun _ => .null) := A3
  have lt_b3 := V_b3.lt
  refine Gk.astoreN X3 hx (hb hby d14_30) rfl #[.val (.ref a1), .val (.int (2 : Int32)), .val (.int (0 : Int32)), .val (.ref b3), .unset, .unset] rfl ?_
  refine Gk.iloadN X3 hx (hb hby d14_31) rfl ?_
  refine Gk.istore X3 hx (hb hby d14_32) #[.val (.ref a1), .val (.int (2 : Int32)), .val (.int (0 : Int32)), .val (.ref b3), .val (.int (2 : Int32)), .unset] rfl ?_
  refine Gk.iloadN X3 hx (hb hby d14_34) rfl ?_
  refine Gk.iconst X3 hx (hb hby d14_35) (1 : Int32) rfl ?_
  refine Gk.isub X3 hx (hb hby d14_36) (-1 : Int32) (by decide) ?_
  refine Gk.istore X3 hx (hb hby d14_37) #[.val (.ref a1), .val (.int (2 : Int32)), .val (.int (0 : Int32)), .val (.ref b3), .val (.int (2 : Int32)), .val (.int (-1 : Int32))] rfl ?_
  refine Gk.iload X3 hx (hb hby d14_39) rfl ?_
  refine Gk.ifYes X3 hx (hb hby d14_41) (tlt (by decide : (-1 : Int32) < (0 : Int32))).1 70 (by decide) (by decide) ?_
  refine Gk.aloadN X3 hx (hb hby d14_70) rfl rfl ?_
  refine Go.fin X3 (v := some (.ref b3)) (fun h_ => by rw [Bd.returns] at h_; cases h_) Bd.notSynchronized (fun _ hr => retOut X3 hx Bd.returns rfl (Or.inr (Or.inr (Or.inr (Or.inr ⟨rfl, rfl, rfl⟩)))) (hb hby d14_71) hr) (fun U' hU hF => ⟨_, _, rfl, ?_, hF.1, hF.2.1, hF.2.2.mono (by decide) (by decide)⟩)
  rw [hU, e3]
  exact ⟨(congrArg (fun z_ : Addr => some (Value.ref z_)) (show b3 = h0.size from g3)), N0, ((Keep.refl h0 []).ext E3), _, (g3 ▸ V_b3)⟩
theorem ef_rm14_20 (m : MethodId) (a1 : Addr) : entryFrame m #[(.ref a1), (.int (2 : Int32))] 6 = mkF m 0 #[.val (.ref a1), .val (.int (2 : Int32)), .unset, .unset, .unset, .unset] [] := by first | (simp [entryFrame, mkF, argsToLocals, Value.category]; done) | rfl
def Q_rm14_20 (Z : State) (a1 : Addr) (xp : Addr) (kp : ClassId) (fp : Nat → Value) (xe : Addr) (ke : ClassId) (fe : Nat → Value) (y0 : Addr) (h0 : Heap) (n0 : Nat) (v : Option Value) (h : Heap) (L : List Loc) : Prop := v = some (.ref h0.size) ∧ Fr n0 L ∧ Keep h0 h [] ∧ ∃ kr : ClassId, Arf Z h h0.size kr (.object "com/example/tracewarden/tracewarden/engine/SearchTuples$Event") (1 : Int32) (upd (fun _ => .null) 0 (.ref y0))
set_option maxRecDepth 65536 in
set_option maxHeartbeats 40000000 in
theorem rm14_20 (l : Launch) (Z : State) (a0 : Array Value) (hw : ∀ d ∈ tables_1, d.before a0 Z = true) (ws : List Jvm.Cond) (a1 : Addr) (xp : Addr) (kp : ClassId) (fp : Nat → Value) (xe : Addr) (ke : ClassId) (fe : Nat → Value) (y0 : Addr) (h0 : Heap) (n0 : Nat) (Z0 : n0 ≤ h0.size) (V_p : Arf Z h0 xp kp .int (16 : Int32) fp) (V_e : Arf Z h0 xe ke (.object "com/example/tracewarden/tracewarden/engine/SearchTuples$Event") (16 : Int32) fe) (F_parents : Fld Z h0 a1 "com/example/tracewarden/tracewarden/engine/SearchTuples" "parents" "[I" (.ref xp)) (F_events : Fld Z h0 a1 "com/example/tracewarden/tracewarden/engine/SearchTuples" "events" "[Lcom/example/tracewarden/tracewarden/engine/SearchTuples$Event;" (.ref xe)) (hp2 : fp 2 = (.int (0 : Int32))) (hp0 : fp 0 = (.int (-1 : Int32))) (he2 : fe 2 = (.ref y0)) (E_y0 : Exa Z h0 y0 "com/example/tracewarden/tracewarden/engine/SearchTuples$Event") :
    MetFree l (⟨"com/example/tracewarden/tracewarden/engine/SearchTuples", "path", "(I)[Lcom/example/tracewarden/tracewarden/engine/SearchTuples$Event;"⟩ : MethodName) (head1 (Jvm.Cond.code (⟨"com/example/tracewarden/tracewarden/engine/SearchTuples", "path", "(I)[Lcom/example/tracewarden/tracewarden/engine/SearchTuples$Event;"⟩ : MethodName) prog_86_method_22_code 6 (some (.array (.object "com/example/tracewarden/tracewarden/engine/SearchTuples$Event"))) :: ws) ({ frames := 0, cells := 1, slots := 1, locals := 0 } : Room)) (fun a U => a = #[(.ref a1), (.int (2 : Int32))] ∧ Z.Warmed39 U.vm ∧ U.heap = h0) (fun _ _ _ _ _ => True) (fun _ U o U' => ∃ v L, o = .returned v ∧ Q_rm14_20 Z a1 xp kp fp xe ke fe y0 h0 n0 v U'.heap L ∧ FrameEnd U o U' L ({ frames := 0, cells := 1, slots := 1, locals := 0 } : Room).cells ({ frames := 0, cells := 1, slots := 1, locals := 0 } : Room).slots) := by
  refine MetFree.of_bodySF (plainFor_of_name pn_95) hisR ?_
  intro p e s m args below meth c s₁ Bd hml0 hP hK
  obtain ⟨rfl, hZ, hh⟩ := hP
  have hx := Bd.exec
  have hby := Bd.bytes
  have hml : c.maxLocals = 6 := hml0
  have hown : s.vm.findClass "com/example/tracewarden/tracewarden/engine/SearchTuples" = some m.cls := findClass_of_methodNamed Bd.named
  have hnm := (name_of_methodNamed Bd.named Bd.method).1
  have X0 : Stand p l e ({ frames := 0, cells := 1, slots := 1, locals := 0 } : Room) s m #[(.ref a1), (.int (2 : Int32))] below meth c s₁ [] 0 0 := Stand.of_body Bd
  have e0 : s₁.heap = h0 := by rw [← hh, Bd.state]; rfl
  have N0 := Fr.nil n0
  show Go p e below (s₁.setTop (entryFrame m #[(.ref a1), (.int (2 : Int32))] 6)) (fun o U' => ∃ v L, o = .returned v ∧ Q_rm14_20 Z a1 xp kp fp xe ke fe y0 h0 n0 v U'.heap L ∧ FrameEnd s o U' L ({ frames := 0, cells := 1, slots := 1, locals := 0 } : Room).cells ({ frames := 0, cells := 1, slots := 1, locals := 0 } : Room).slots)
  rw [ef_rm14_20]
  refine Gk.iconst X0 hx (hb hby d14_0) (0 : Int32) rfl ?_
  refine Gk.istoreN X0 hx (hb hby d14_1) #[.val (.ref a1), .val (.int (2 : Int32)), .val (.int (0 : Int32)), .unset, .unset, .unset] rfl ?_
  refine Gk.iloadN X0 hx (hb hby d14_2) rfl ?_
  refine Gk.istoreN X0 hx (hb hby d14_3) #[.val (.ref a1), .val (.int (2 : Int32)), .val (.int (0 : Int32)), .val (.int (2 : Int32)), .unset, .unset] rfl ?_
  refine Gk.aloadN X0 hx (hb hby d14_4) rfl rfl ?_
  refine Gk.getF X0 hx hZ hown (host := "") (Or.inl (hw _ (List.mem_of_getElem? (i := 52) rfl))) Via.refl e0 F_parents (hb hby d14_5) ?_
  intro T1 X1 e1
  refine Gk.iloadN X1 hx (hb hby d14_8) rfl ?_
  refine Gk.iaload X1 hx hZ e1 V_p ⟨by decide, by decide⟩ (.int (0 : Int32)) hp2 (hb hby d14_9) ?_
  refine Gk.ifNo X1 hx (hb hby d14_10) (flt (by decide : ¬ ((0 : Int32) < (0 : Int32)))).1 ?_
  refine Gk.iinc X1 hx (hb hby d14_13) rfl #[.val (.ref a1), .val (.int (2 : Int32)), .val (.int (1 : Int32)), .val (.int (2 : Int32)), .unset, .unset] rfl ?_
  refine Gk.aloadN X1 hx (hb hby d14_16) rfl rfl ?_
  refine Gk.getF X1 hx hZ hown (host := "") (Or.inl (hw _ (List.mem_of_getElem? (i := 52) rfl))) Via.refl e1 F_parents (hb hby d14_17) ?_
  intro T3 X3 e3
  refine Gk.iloadN X3 hx (hb hby d14_20) rfl ?_
  refine Gk.iaload X3 hx hZ e3 V_p ⟨by decide, by decide⟩ (.int (0 : Int32)) hp2 (hb hby d14_21) ?_
  refine Gk.istoreN X3 hx (hb hby d14_22) #[.val (.ref a1), .val (.int (2 : Int32)), .val (.int (1 : Int32)), .val (.int (0 : Int32)), .unset, .unset] rfl ?_
  refine Gk.goto X3 hx (hb hby d14_23) 4 (by decide) (by decide) ?_
  refine Gk.aloadN X3 hx (hb hby d14_4) rfl rfl ?_
  refine Gk.getF X3 hx hZ hown (host := "") (Or.inl (hw _ (List.mem_of_getElem? (i := 52) rfl))) Via.refl e3 F_parents (hb hby d14_5) ?_
  intro T5 X5 e5
  refine Gk.iloadN X5 hx (hb hby d14_8) rfl ?_
  refine Gk.iaload X5 hx hZ e5 V_p ⟨by decide, by decide⟩ (.int (-1 : Int32)) hp0 (hb hby d14_9) ?_
  refine Gk.ifYes X5 hx (hb hby d14_10) (tlt (by decide : (-1 : Int32) < (0 : Int32))).1 26 (by decide) (by decide) ?_
  refine Gk.iloadN X5 hx (hb hby d14_26) rfl ?_
  refine Gk.newR X5 hx hZ hown (hw _ (List.mem_of_getElem? (i := 54) rfl)) (hw _ (List.mem_of_getElem? (i := 3) rfl)) e5 (hb hby d14_27) (by decide) (cap := 1) (by decide) (by decide) (by decide) (by decide) rfl ?_
  intro T7 h7 b7 k7 X7 e7 E7 g7 A7 B7 O7
  have g_b7 : n0 ≤ b7 := Nat.le_trans Z0 (Nat.le_of_eq g7.symm)
  have V_b7 : Arf Z h7 b7 k7 (.object "com/example/tracewarden/tracewarden/engine/SearchTuples$Event") (1 : Int32) (fun _ => .null) := A7
  have lt_b7 := V_b7.lt
  refine Gk.astoreN X7 hx (hb hby d14_30) rfl #[.val (.ref a1), .val (.int (2 : Int32)), .val (.int (1 : Int32)), .val (.ref b7), .unset, .unset] rfl ?_
  refine Gk.iloadN X7 hx (hb hby d14_31) rfl ?_
  refine Gk.istore X7 hx (hb hby d14_32) #[.val (.ref a1), .val (.int (2 : Int32)), .val (.int (1 : Int32)), .val (.ref b7), .val (.int (2 : Int32)), .unset] rfl ?_
  refine Gk.iloadN X7 hx (hb hby d14_34) rfl ?_
  refine Gk.iconst X7 hx (hb hby d14_35) (1 : Int32) rfl ?_
  refine Gk.isub X7 hx (hb hby d14_36) (0 : Int32) (by decide) ?_
  refine Gk.istore X7 hx (hb hby d14_37) #[.val (.ref a1), .val (.int (2 : Int32)), .val (.int (1 : Int32)), .val (.ref b7), .val (.int (2 : Int32)), .val (.int (0 : Int32))] rfl ?_
  refine Gk.iload X7 hx (hb hby d14_39) rfl ?_
  refine Gk.ifNo X7 hx (hb hby d14_41) (flt (by decide : ¬ ((0 : Int32) < (0 : Int32)))).1 ?_
  refine Gk.aloadN X7 hx (hb hby d14_44) rfl rfl ?_
  refine Gk.iload X7 hx (hb hby d14_45) rfl ?_
  refine Gk.aloadN X7 hx (hb hby d14_47) rfl rfl ?_
  have H8 := (F_events.ext E7)
  refine Gk.getF X7 hx hZ hown (host := "") (Or.inl (hw _ (List.mem_of_getElem? (i := 55) rfl))) Via.refl e7 H8 (hb hby d14_48) ?_
  intro T9 X9 e9
  refine Gk.iload X9 hx (hb hby d14_51) rfl ?_
  have H11 := (V_e.ext E7)
  refine Gk.aaload X9 hx hZ e9 H11 rfl ⟨by decide, by decide⟩ (.ref y0) he2 (hb hby d14_53) ?_
  have H13 := (E_y0.ext E7)
  refine Gk.aastore X9 hx hZ e9 V_b7 0 rfl ⟨by decide, by decide⟩ rfl rfl (Or.inr ⟨_, _, rfl, O7, Ins.self H13⟩) (hb hby d14_54) ?_
  intro T12 h12 X12 e12 W12 V12
  have N12 := Fr.snoc X12 N0 g_b7
  refine Gk.aloadN X12 hx (hb hby d14_55) rfl rfl ?_
  have ne14 : a1 ≠ b7 := (Nat.ne_of_lt (Nat.lt_of_lt_of_le F_parents.lt (Nat.le_of_eq g7.symm)))
  have H15 := ((F_parents.ext E7).other W12 (Or.inl ne14))
  refine Gk.getF X12 hx hZ hown (host := "") (Or.inl (hw _ (List.mem_of_getElem? (i := 52) rfl))) Via.refl e12 H15 (hb hby d14_56) ?_
  intro T16 X16 e16
  refine Gk.iload X16 hx (hb hby d14_59) rfl ?_
  have ne18 : xp ≠ b7 := (Nat.ne_of_lt (Nat.lt_of_lt_of_le V_p.lt (Nat.le_trans (Nat.le_refl _) (Nat.le_of_eq g7.symm))))
  have H19 := ((V_p.ext E7).other W12 ne18)
  refine Gk.iaload X16 hx hZ e16 H19 ⟨by decide, by decide⟩ (.int (0 : Int32)) hp2 (hb hby d14_61) ?_
  refine Gk.istore X16 hx (hb hby d14_62) #[.val (.ref a1), .val (.int (2 : Int32)), .val (.int (1 : Int32)), .val (.ref b7), .val (.int (0 : Int32)), .val (.int (0 : Int32))] rfl ?_
  refine Gk.iinc X16 hx (hb hby d14_64) rfl #[.val (.ref a1), .val (.int (2 : Int32)), .val (.int (1 : Int32)), .val (.ref b7), .val (.int (0 : Int32)), .val (.int (-1 : Int32))] rfl ?_
  refine Gk.goto X16 hx (hb hby d14_67) 39 (by decide) (by decide) ?_
  refine Gk.iload X16 hx (hb hby d14_39) rfl ?_
  refine Gk.ifYes X16 hx (hb hby d14_41) (tlt (by decide : (-1 : Int32) < (0 : Int32))).1 70 (by decide) (by decide) ?_
  refine Gk.aloadN X16 hx (hb hby d14_70) rfl rfl ?_
  refine Go.fin X16 (v := some (.ref b7)) (fun h_ => by rw [Bd.returns] at h_; cases h_) Bd.notSynchronized (fun _ hr => retOut X16 hx Bd.returns rfl (Or.inr (Or.inr (Or.inr (Or.inr ⟨rfl, rfl, rfl⟩)))) (hb hby d14_71) hr) (fun U' hU hF => ⟨_, _, rfl, ?_, hF.1, hF.2.1, hF.2.2.mono (by decide) (by decide)⟩)
  rw [hU, e16]
  exact ⟨(congrArg (fun z_ : Addr => some (Value.ref z_)) (show b7 = h0.size from g7)), N12, (((Keep.refl h0 []).ext E7).wr W12 (Or.inr (Nat.le_trans (Nat.le_refl _) (Nat.le_of_eq g7.symm)))), _, (g7 ▸ V12)⟩
theorem ef_rm14_21 (m : MethodId) (a1 : Addr) : entryFrame m #[(.ref a1), (.int (2 : Int32))] 6 = mkF m 0 #[.val (.ref a1), .val (.int (2 : Int32)), .unset, .unset, .unset, .unset] [] := by first | (simp [entryFrame, mkF, argsToLocals, Value.category]; done) | rfl
def Q_rm14_21 (Z : State) (a1 : Addr) (xp : Addr) (kp : ClassId) (fp : Nat → Value) (xe : Addr) (ke : ClassId) (fe : Nat → Value) (y0 : Addr) (h0 : Heap) (n0 : Nat) (v : Option Value) (h : Heap) (L : List Loc) : Prop := v = some (.ref h0.size) ∧ Fr n0 L ∧ Keep h0 h [] ∧ ∃ kr : ClassId, Arf Z h h0.size kr (.object "com/example/tracewarden/tracewarden/engine/SearchTuples$Event") (1 : Int32) (upd (fun _ => .null) 0 (.ref y0))
set_option maxRecDepth 65536 in
set_option maxHeartbeats 40000000 in
theorem rm14_21 (l : Launch) (Z : State) (a0 : Array Value) (hw : ∀ d ∈ tables_1, d.before a0 Z = true) (ws : List Jvm.Cond) (a1 : Addr) (xp : Addr) (kp : ClassId) (fp : Nat → Value) (xe : Addr) (ke : ClassId) (fe : Nat → Value) (y0 : Addr) (h0 : Heap) (n0 : Nat) (Z0 : n0 ≤ h0.size) (V_p : Arf Z h0 xp kp .int (16 : Int32) fp) (V_e : Arf Z h0 xe ke (.object "com/example/tracewarden/tracewarden/engine/SearchTuples$Event") (16 : Int32) fe) (F_parents : Fld Z h0 a1 "com/example/tracewarden/tracewarden/engine/SearchTuples" "parents" "[I" (.ref xp)) (F_events : Fld Z h0 a1 "com/example/tracewarden/tracewarden/engine/SearchTuples" "events" "[Lcom/example/tracewarden/tracewarden/engine/SearchTuples$Event;" (.ref xe)) (hp2 : fp 2 = (.int (1 : Int32))) (hp1 : fp 1 = (.int (-1 : Int32))) (he2 : fe 2 = (.ref y0)) (E_y0 : Exa Z h0 y0 "com/example/tracewarden/tracewarden/engine/SearchTuples$Event") :
    MetFree l (⟨"com/example/tracewarden/tracewarden/engine/SearchTuples", "path", "(I)[Lcom/example/tracewarden/tracewarden/engine/SearchTuples$Event;"⟩ : MethodName) (head1 (Jvm.Cond.code (⟨"com/example/tracewarden/tracewarden/engine/SearchTuples", "path", "(I)[Lcom/example/tracewarden/tracewarden/engine/SearchTuples$Event;"⟩ : MethodName) prog_86_method_22_code 6 (some (.array (.object "com/example/tracewarden/tracewarden/engine/SearchTuples$Event"))) :: ws) ({ frames := 0, cells := 1, slots := 1, locals := 0 } : Room)) (fun a U => a = #[(.ref a1), (.int (2 : Int32))] ∧ Z.Warmed39 U.vm ∧ U.heap = h0) (fun _ _ _ _ _ => True) (fun _ U o U' => ∃ v L, o = .returned v ∧ Q_rm14_21 Z a1 xp kp fp xe ke fe y0 h0 n0 v U'.heap L ∧ FrameEnd U o U' L ({ frames := 0, cells := 1, slots := 1, locals := 0 } : Room).cells ({ frames := 0, cells := 1, slots := 1, locals := 0 } : Room).slots) := by
  refine MetFree.of_bodySF (plainFor_of_name pn_95) hisR ?_
  intro p e s m args below meth c s₁ Bd hml0 hP hK
  obtain ⟨rfl, hZ, hh⟩ := hP
  have hx := Bd.exec
  have hby := Bd.bytes
  have hml : c.maxLocals = 6 := hml0
  have hown : s.vm.findClass "com/example/tracewarden/tracewarden/engine/SearchTuples" = some m.cls := findClass_of_methodNamed Bd.named
  have hnm := (name_of_methodNamed Bd.named Bd.method).1
  have X0 : Stand p l e ({ frames := 0, cells := 1, slots := 1, locals := 0 } : Room) s m #[(.ref a1), (.int (2 : Int32))] below meth c s₁ [] 0 0 := Stand.of_body Bd
  have e0 : s₁.heap = h0 := by rw [← hh, Bd.state]; rfl
  have N0 := Fr.nil n0
  show Go p e below (s₁.setTop (entryFrame m #[(.ref a1), (.int (2 : Int32))] 6)) (fun o U' => ∃ v L, o = .returned v ∧ Q_rm14_21 Z a1 xp kp fp xe ke fe y0 h0 n0 v U'.heap L ∧ FrameEnd s o U' L ({ frames := 0, cells := 1, slots := 1, locals := 0 } : Room).cells ({ frames := 0, cells := 1, slots := 1, locals := 0 } : Room).slots)
  rw [ef_rm14_21]
  refine Gk.iconst X0 hx (hb hby d14_0) (0 : Int32) rfl ?_
  refine Gk.istoreN X0 hx (hb hby d14_1) #[.val (.ref a1), .val (.int (2 : Int32)), .val (.int (0 : Int32)), .unset, .unset, .unset] rfl ?_
  refine Gk.iloadN X0 hx (hb hby d14_2) rfl ?_
  refine Gk.istoreN X0 hx (hb hby d14_3) #[.val (.ref a1), .val (.int (2 : Int32)), .val (.int (0 : Int32)), .val (.int (2 : Int32)), .unset, .unset] rfl ?_
  refine Gk.aloadN X0 hx (hb hby d14_4) rfl rfl ?_
  refine Gk.getF X0 hx hZ hown (host := "") (Or.inl (hw _ (List.mem_of_getElem? (i := 52) rfl))) Via.refl e0 F_parents (hb hby d14_5) ?_
  intro T1 X1 e1
  refine Gk.iloadN X1 hx (hb hby d14_8) rfl ?_
  refine Gk.iaload X1 hx hZ e1 V_p ⟨by decide, by decide⟩ (.int (1 : Int32)) hp2 (hb hby d14_9) ?_
  refine Gk.ifNo X1 hx (hb hby d14_10) (flt (by decide : ¬ ((1 : Int32) < (0 : Int32)))).1 ?_
  refine Gk.iinc X1 hx (hb hby d14_13) rfl #[.val (.ref a1), .val (.int (2 : Int32)), .val (.int (1 : Int32)), .val (.int (2 : Int32)), .unset, .unset] rfl ?_
  refine Gk.aloadN X1 hx (hb hby d14_16) rfl rfl ?_
  refine Gk.getF X1 hx hZ hown (host := "") (Or.inl (hw _ (List.mem_of_getElem? (i := 52) rfl))) Via.refl e1 F_parents (hb hby d14_17) ?_
  intro T3 X3 e3
  refine Gk.iloadN X3 hx (hb hby d14_20) rfl ?_
  refine Gk.iaload X3 hx hZ e3 V_p ⟨by decide, by decide⟩ (.int (1 : Int32)) hp2 (hb hby d14_21) ?_
  refine Gk.istoreN X3 hx (hb hby d14_22) #[.val (.ref a1), .val (.int (2 : Int32)), .val (.int (1 : Int32)), .val (.int (1 : Int32)), .unset, .unset] rfl ?_
  refine Gk.goto X3 hx (hb hby d14_23) 4 (by decide) (by decide) ?_
  refine Gk.aloadN X3 hx (hb hby d14_4) rfl rfl ?_
  refine Gk.getF X3 hx hZ hown (host := "") (Or.inl (hw _ (List.mem_of_getElem? (i := 52) rfl))) Via.refl e3 F_parents (hb hby d14_5) ?_
  intro T5 X5 e5
  refine Gk.iloadN X5 hx (hb hby d14_8) rfl ?_
  refine Gk.iaload X5 hx hZ e5 V_p ⟨by decide, by decide⟩ (.int (-1 : Int32)) hp1 (hb hby d14_9) ?_
  refine Gk.ifYes X5 hx (hb hby d14_10) (tlt (by decide : (-1 : Int32) < (0 : Int32))).1 26 (by decide) (by decide) ?_
  refine Gk.iloadN X5 hx (hb hby d14_26) rfl ?_
  refine Gk.newR X5 hx hZ hown (hw _ (List.mem_of_getElem? (i := 54) rfl)) (hw _ (List.mem_of_getElem? (i := 3) rfl)) e5 (hb hby d14_27) (by decide) (cap := 1) (by decide) (by decide) (by decide) (by decide) rfl ?_
  intro T7 h7 b7 k7 X7 e7 E7 g7 A7 B7 O7
  have g_b7 : n0 ≤ b7 := Nat.le_trans Z0 (Nat.le_of_eq g7.symm)
  have V_b7 : Arf Z h7 b7 k7 (.object "com/example/tracewarden/tracewarden/engine/SearchTuples$Event") (1 : Int32) (fun _ => .null) := A7
  have lt_b7 := V_b7.lt
  refine Gk.astoreN X7 hx (hb hby d14_30) rfl #[.val (.ref a1), .val (.int (2 : Int32)), .val (.int (1 : Int32)), .val (.ref b7), .unset, .unset] rfl ?_
  refine Gk.iloadN X7 hx (hb hby d14_31) rfl ?_
  refine Gk.istore X7 hx (hb hby d14_32) #[.val (.ref a1), .val (.int (2 : Int32)), .val (.int (1 : Int32)), .val (.ref b7), .val (.int (2 : Int32)), .unset] rfl ?_
  refine Gk.iloadN X7 hx (hb hby d14_34) rfl ?_
  refine Gk.iconst X7 hx (hb hby d14_35) (1 : Int32) rfl ?_
  refine Gk.isub X7 hx (hb hby d14_36) (0 : Int32) (by decide) ?_
  refine Gk.istore X7 hx (hb hby d14_37) #[.val (.ref a1), .val (.int (2 : Int32)), .val (.int (1 : Int32)), .val (.ref b7), .val (.int (2 : Int32)), .val (.int (0 : Int32))] rfl ?_
  refine Gk.iload X7 hx (hb hby d14_39) rfl ?_
  refine Gk.ifNo X7 hx (hb hby d14_41) (flt (by decide : ¬ ((0 : Int32) < (0 : Int32)))).1 ?_
  refine Gk.aloadN X7 hx (hb hby d14_44) rfl rfl ?_
  refine Gk.iload X7 hx (hb hby d14_45) rfl ?_
  refine Gk.aloadN X7 hx (hb hby d14_47) rfl rfl ?_
  have H8 := (F_events.ext E7)
  refine Gk.getF X7 hx hZ hown (host := "") (Or.inl (hw _ (List.mem_of_getElem? (i := 55) rfl))) Via.refl e7 H8 (hb hby d14_48) ?_
  intro T9 X9 e9
  refine Gk.iload X9 hx (hb hby d14_51) rfl ?_
  have H11 := (V_e.ext E7)
  refine Gk.aaload X9 hx hZ e9 H11 rfl ⟨by decide, by decide⟩ (.ref y0) he2 (hb hby d14_53) ?_
  have H13 := (E_y0.ext E7)
  refine Gk.aastore X9 hx hZ e9 V_b7 0 rfl ⟨by decide, by decide⟩ rfl rfl (Or.inr ⟨_, _, rfl, O7, Ins.self H13⟩) (hb hby d14_54) ?_
  intro T12 h12 X12 e12 W12 V12
  have N12 := Fr.snoc X12 N0 g_b7
  refine Gk.aloadN X12 hx (hb hby d14_55) rfl rfl ?_
  have ne14 : a1 ≠ b7 := (Nat.ne_of_lt (Nat.lt_of_lt_of_le F_parents.lt (Nat.le_of_eq g7.symm)))
  have H15 := ((F_parents.ext E7).other W12 (Or.inl ne14))
  refine Gk.getF X12 hx hZ hown (host := "") (Or.inl (hw _ (List.mem_of_getElem? (i := 52) rfl))) Via.refl e12 H15 (hb hby d14_56) ?_
  intro T16 X16 e16
  refine Gk.iload X16 hx (hb hby d14_59) rfl ?_
  have ne18 : xp ≠ b7 := (Nat.ne_of_lt (Nat.lt_of_lt_of_le V_p.lt (Nat.le_trans (Nat.le_refl _) (Nat.le_of_eq g7.symm))))
  have H19 := ((V_p.ext E7).other W12 ne18)
  refine Gk.iaload X16 hx hZ e16 H19 ⟨by decide, by decide⟩ (.int (1 : Int32)) hp2 (hb hby d14_61) ?_
  refine Gk.istore X16 hx (hb hby d14_62) #[.val (.ref a1), .val (.int (2 : Int32)), .val (.int (1 : Int32)), .val (.ref b7), .val (.int (1 : Int32)), .val (.int (0 : Int32))] rfl ?_
  refine Gk.iinc X16 hx (hb hby d14_64) rfl #[.val (.ref a1), .val (.int (2 : Int32)), .val (.int (1 : Int32)), .val (.ref b7), .val (.int (1 : Int32)), .val (.int (-1 : Int32))] rfl ?_
  refine Gk.goto X16 hx (hb hby d14_67) 39 (by decide) (by decide) ?_
  refine Gk.iload X16 hx (hb hby d14_39) rfl ?_
  refine Gk.ifYes X16 hx (hb hby d14_41) (tlt (by decide : (-1 : Int32) < (0 : Int32))).1 70 (by decide) (by decide) ?_
  refine Gk.aloadN X16 hx (hb hby d14_70) rfl rfl ?_
  refine Go.fin X16 (v := some (.ref b7)) (fun h_ => by rw [Bd.returns] at h_; cases h_) Bd.notSynchronized (fun _ hr => retOut X16 hx Bd.returns rfl (Or.inr (Or.inr (Or.inr (Or.inr ⟨rfl, rfl, rfl⟩)))) (hb hby d14_71) hr) (fun U' hU hF => ⟨_, _, rfl, ?_, hF.1, hF.2.1, hF.2.2.mono (by decide) (by decide)⟩)
  rw [hU, e16]
  exact ⟨(congrArg (fun z_ : Addr => some (Value.ref z_)) (show b7 = h0.size from g7)), N12, (((Keep.refl h0 []).ext E7).wr W12 (Or.inr (Nat.le_trans (Nat.le_refl _) (Nat.le_of_eq g7.symm)))), _, (g7 ▸ V12)⟩
theorem ef_rm14_210 (m : MethodId) (a1 : Addr) : entryFrame m #[(.ref a1), (.int (2 : Int32))] 6 = mkF m 0 #[.val (.ref a1), .val (.int (2 : Int32)), .unset, .unset, .unset, .unset] [] := by first | (simp [entryFrame, mkF, argsToLocals, Value.category]; done) | rfl
def Q_rm14_210 (Z : State) (a1 : Addr) (xp : Addr) (kp : ClassId) (fp : Nat → Value) (xe : Addr) (ke : ClassId) (fe : Nat → Value) (y0 : Addr) (y1 : Addr) (h0 : Heap) (n0 : Nat) (v : Option Value) (h : Heap) (L : List Loc) : Prop := v = some (.ref h0.size) ∧ Fr n0 L ∧ Keep h0 h [] ∧ ∃ kr : ClassId, Arf Z h h0.size kr (.object "com/example/tracewarden/tracewarden/engine/SearchTuples$Event") (2 : Int32) (upd (upd (fun _ => .null) 1 (.ref y0)) 0 (.ref y1))
set_option maxRecDepth 65536 in
set_option maxHeartbeats 40000000 in
theorem rm14_210 (l : Launch) (Z : State) (a0 : Array Value) (hw : ∀ d ∈ tables_1, d.before a0 Z = true) (ws : List Jvm.Cond) (a1 : Addr) (xp : Addr) (kp : ClassId) (fp : Nat → Value) (xe : Addr) (ke : ClassId) (fe : Nat → Value) (y0 : Addr) (y1 : Addr) (h0 : Heap) (n0 : Nat) (Z0 : n0 ≤ h0.size) (V_p : Arf Z h0 xp kp .int (16 : Int32) fp) (V_e : Arf Z h0 xe ke (.object "com/example/tracewarden/tracewarden/engine/SearchTuples$Event") (16 : Int32) fe) (F_parents : Fld Z h0 a1 "com/example/tracewarden/tracewarden/engine/SearchTuples" "parents" "[I" (.ref xp)) (F_events : Fld Z h0 a1 "com/example/tracewarden/tracewarden/engine/SearchTuples" "events" "[Lcom/example/tracewarden/tracewarden/engine/SearchTuples$Event;" (.ref xe)) (hp2 : fp 2 = (.int (1 : Int32))) (hp1 : fp 1 = (.int (0 : Int32))) (hp0 : fp 0 = (.int (-1 : Int32))) (he2 : fe 2 = (.ref y0)) (he1 : fe 1 = (.ref y1)) (E_y0 : Exa Z h0 y0 "com/example/tracewarden/tracewarden/engine/SearchTuples$Event") (E_y1 : Exa Z h0 y1 "com/example/tracewarden/tracewarden/engine/SearchTuples$Event") :
    MetFree l (⟨"com/example/tracewarden/tracewarden/engine/SearchTuples", "path", "(I)[Lcom/example/tracewarden/tracewarden/engine/SearchTuples$Event;"⟩ : MethodName) (head1 (Jvm.Cond.code (⟨"com/example/tracewarden/tracewarden/engine/SearchTuples", "path", "(I)[Lcom/example/tracewarden/tracewarden/engine/SearchTuples$Event;"⟩ : MethodName) prog_86_method_22_code 6 (some (.array (.object "com/example/tracewarden/tracewarden/engine/SearchTuples$Event"))) :: ws) ({ frames := 0, cells := 1, slots := 2, locals := 0 } : Room)) (fun a U => a = #[(.ref a1), (.int (2 : Int32))] ∧ Z.Warmed39 U.vm ∧ U.heap = h0) (fun _ _ _ _ _ => True) (fun _ U o U' => ∃ v L, o = .returned v ∧ Q_rm14_210 Z a1 xp kp fp xe ke fe y0 y1 h0 n0 v U'.heap L ∧ FrameEnd U o U' L ({ frames := 0, cells := 1, slots := 2, locals := 0 } : Room).cells ({ frames := 0, cells := 1, slots := 2, locals := 0 } : Room).slots) := by
  refine MetFree.of_bodySF (plainFor_of_name pn_95) hisR ?_
  intro p e s m args below meth c s₁ Bd hml0 hP hK
  obtain ⟨rfl, hZ, hh⟩ := hP
  have hx := Bd.exec
  have hby := Bd.bytes
  have hml : c.maxLocals = 6 := hml0
  have hown : s.vm.findClass "com/example/tracewarden/tracewarden/engine/SearchTuples" = some m.cls := findClass_of_methodNamed Bd.named
  have hnm := (name_of_methodNamed Bd.named Bd.method).1
  have X0 : Stand p l e ({ frames := 0, cells := 1, slots := 2, locals := 0 } : Room) s m #[(.ref a1), (.int (2 : Int32))] below meth c s₁ [] 0 0 := Stand.of_body Bd
  have e0 : s₁.heap = h0 := by rw [← hh, Bd.state]; rfl
  have N0 := Fr.nil n0
  show Go p e below (s₁.setTop (entryFrame m #[(.ref a1), (.int (2 : Int32))] 6)) (fun o U' => ∃ v L, o = .returned v ∧ Q_rm14_210 Z a1 xp kp fp xe ke fe y0 y1 h0 n0 v U'.heap L ∧ FrameEnd s o U' L ({ frames := 0, cells := 1, slots := 2, locals := 0 } : Room).cells ({ frames := 0, cells := 1, slots := 2, locals := 0 } : Room).slots)
  rw [ef_rm14_210]
  refine Gk.iconst X0 hx (hb hby d14_0) (0 : Int32) rfl ?_
  refine Gk.istoreN X0 hx (hb hby d14_1) #[.val (.ref a1), .val (.int (2 : Int32)), .val (.int (0 : Int32)), .unset, .unset, .unset] rfl ?_
  refine Gk.iloadN X0 hx (hb hby d14_2) rfl ?_
  refine Gk.istoreN X0 hx (hb hby d14_3) #[.val (.ref a1), .val (.int (2 : Int32)), .val (.int (0 : Int32)), .val (.int (2 : Int32)), .unset, .unset] rfl ?_
  refine Gk.aloadN X0 hx (hb hby d14_4) rfl rfl ?_
  refine Gk.getF X0 hx hZ hown (host := "") (Or.inl (hw _ (List.mem_of_getElem? (i := 52) rfl))) Via.refl e0 F_parents (hb hby d14_5) ?_
  intro T1 X1 e1
  refine Gk.iloadN X1 hx (hb hby d14_8) rfl ?_
  refine Gk.iaload X1 hx hZ e1 V_p ⟨by decide, by decide⟩ (.int (1 : Int32)) hp2 (hb hby d14_9) ?_
  refine Gk.ifNo X1 hx (hb hby d14_10) (flt (by decide : ¬ ((1 : Int32) < (0 : Int32)))).1 ?_
  refine Gk.iinc X1 hx (hb hby d14_13) rfl #[.val (.ref a1), .val (.int (2 : Int32)), .val (.int (1 : Int32)), .val (.int (2 : Int32)), .unset, .unset] rfl ?_
  refine Gk.aloadN X1 hx (hb hby d14_16) rfl rfl ?_
  refine Gk.getF X1 hx hZ hown (host := "") (Or.inl (hw _ (List.mem_of_getElem? (i := 52) rfl))) Via.refl e1 F_parents (hb hby d14_17) ?_
  intro T3 X3 e3
  refine Gk.iloadN X3 hx (hb hby d14_20) rfl ?_
  refine Gk.iaload X3 hx hZ e3 V_p ⟨by decide, by decide⟩ (.int (1 : Int32)) hp2 (hb hby d14_21) ?_
  refine Gk.istoreN X3 hx (hb hby d14_22) #[.val (.ref a1), .val (.int (2 : Int32)), .val (.int (1 : Int32)), .val (.int (1 : Int32)), .unset, .unset] rfl ?_
  refine Gk.goto X3 hx (hb hby d14_23) 4 (by decide) (by decide) ?_
  refine Gk.aloadN X3 hx (hb hby d14_4) rfl rfl ?_
  refine Gk.getF X3 hx hZ hown (host := "") (Or.inl (hw _ (List.mem_of_getElem? (i := 52) rfl))) Via.refl e3 F_parents (hb hby d14_5) ?_
  intro T5 X5 e5
  refine Gk.iloadN X5 hx (hb hby d14_8) rfl ?_
  refine Gk.iaload X5 hx hZ e5 V_p ⟨by decide, by decide⟩ (.int (0 : Int32)) hp1 (hb hby d14_9) ?_
  refine Gk.ifNo X5 hx (hb hby d14_10) (flt (by decide : ¬ ((0 : Int32) < (0 : Int32)))).1 ?_
  refine Gk.iinc X5 hx (hb hby d14_13) rfl #[.val (.ref a1), .val (.int (2 : Int32)), .val (.int (2 : Int32)), .val (.int (1 : Int32)), .unset, .unset] rfl ?_
  refine Gk.aloadN X5 hx (hb hby d14_16) rfl rfl ?_
  refine Gk.getF X5 hx hZ hown (host := "") (Or.inl (hw _ (List.mem_of_getElem? (i := 52) rfl))) Via.refl e5 F_parents (hb hby d14_17) ?_
  intro T7 X7 e7
  refine Gk.iloadN X7 hx (hb hby d14_20) rfl ?_
  refine Gk.iaload X7 hx hZ e7 V_p ⟨by decide, by decide⟩ (.int (0 : Int32)) hp1 (hb hby d14_21) ?_
  refine Gk.istoreN X7 hx (hb hby d14_22) #[.val (.ref a1), .val (.int (2 : Int32)), .val (.int (2 : Int32)), .val (.int (0 : Int32)), .unset, .unset] rfl ?_
  refine Gk.goto X7 hx (hb hby d14_23) 4 (by decide) (by decide) ?_
  refine Gk.aloadN X7 hx (hb hby d14_4) rfl rfl ?_
  refine Gk.getF X7 hx hZ hown (host := "") (Or.inl (hw _ (List.mem_of_getElem? (i := 52) rfl))) Via.refl e7 F_parents (hb hby d14_5) ?_
  intro T9 X9 e9
  refine Gk.iloadN X9 hx (hb hby d14_8) rfl ?_
  refine Gk.iaload X9 hx hZ e9 V_p ⟨by decide, by decide⟩ (.int (-1 : Int32)) hp0 (hb hby d14_9) ?_
  refine Gk.ifYes X9 hx (hb hby d14_10) (tlt (by decide : (-1 : Int32) < (0 : Int32))).1 26 (by decide) (by decide) ?_
  refine Gk.iloadN X9 hx (hb hby d14_26) rfl ?_
  refine Gk.newR X9 hx hZ hown (hw _ (List.mem_of_getElem? (i := 54) rfl)) (hw _ (List.mem_of_getElem? (i := 3) rfl)) e9 (hb hby d14_27) (by decide) (cap := 2) (by decide) (by decide) (by decide) (by decide) rfl ?_
  intro T11 h11 b11 k11 X11 e11 E11 g11 A11 B11 O11
  have g_b11 : n0 ≤ b11 := Nat.le_trans Z0 (Nat.le_of_eq g11.symm)
  have V_b11 : Arf Z h11 b11 k11 (.object "com/example/tracewarden/tracewarden/engine/SearchTuples$Event") (2 : Int32) (fun _ => .null) := A11
  have lt_b11 := V_b11.lt
  refine Gk.astoreN X11 hx (hb hby d14_30) rfl #[.val (.ref a1), .val (.int (2 : Int32)), .val (.int (2 : Int32)), .val (.ref b11), .unset, .unset] rfl ?_
  refine Gk.iloadN X11 hx (hb hby d14_31) rfl ?_
  refine Gk.istore X11 hx (hb hby d14_32) #[.val (.ref a1), .val (.int (2 : Int32)), .val (.int (2 : Int32)), .val (.ref b11), .val (.int (2 : Int32)), .unset] rfl ?_
  refine Gk.iloadN X11 hx (hb hby d14_34) rfl ?_
  refine Gk.iconst X11 hx (hb hby d14_35) (1 : Int32) rfl ?_
  refine Gk.isub X11 hx (hb hby d14_36) (1 : Int32) (by decide) ?_
  refine Gk.istore X11 hx (hb hby d14_37) #[.val (.ref a1), .val (.int (2 : Int32)), .val (.int (2 : Int32)), .val (.ref b11), .val (.int (2 : Int32)), .val (.int (1 : Int32))] rfl ?_
  refine Gk.iload X11 hx (hb hby d14_39) rfl ?_
  refine Gk.ifNo X11 hx (hb hby d14_41) (flt (by decide : ¬ ((1 : Int32) < (0 : Int32)))).1 ?_
  refine Gk.aloadN X11 hx (hb hby d14_44) rfl rfl ?_
  refine Gk.iload X11 hx (hb hby d14_45) rfl ?_
  refine Gk.aloadN X11 hx (hb hby d14_47) rfl rfl ?_
  have H12 := (F_events.ext E11)
  refine Gk.getF X11 hx hZ hown (host := "") (Or.inl (hw _ (List.mem_of_getElem? (i := 55) rfl))) Via.refl e11 H12 (hb hby d14_48) ?_
  intro T13 X13 e13
  refine Gk.iload X13 hx (hb hby d14_51) rfl ?_
  have H15 := (V_e.ext E11)
  refine Gk.aaload X13 hx hZ e13 H15 rfl ⟨by decide, by decide⟩ (.ref y0) he2 (hb hby d14_53) ?_
  have H17 := (E_y0.ext E11)
  refine Gk.aastore X13 hx hZ e13 V_b11 1 rfl ⟨by decide, by decide⟩ rfl rfl (Or.inr ⟨_, _, rfl, O11, Ins.self H17⟩) (hb hby d14_54) ?_
  intro T16 h16 X16 e16 W16 V16
  have N16 := Fr.snoc X16 N0 g_b11
  refine Gk.aloadN X16 hx (hb hby d14_55) rfl rfl ?_
  have ne18 : a1 ≠ b11 := (Nat.ne_of_lt (Nat.lt_of_lt_of_le F_parents.lt (Nat.le_of_eq g11.symm)))
  have H19 := ((F_parents.ext E11).other W16 (Or.inl ne18))
  refine Gk.getF X16 hx hZ hown (host := "") (Or.inl (hw _ (List.mem_of_getElem? (i := 52) rfl))) Via.refl e16 H19 (hb hby d14_56) ?_
  intro T20 X20 e20
  refine Gk.iload X20 hx (hb hby d14_59) rfl ?_
  have ne22 : xp ≠ b11 := (Nat.ne_of_lt (Nat.lt_of_lt_of_le V_p.lt (Nat.le_trans (Nat.le_refl _) (Nat.le_of_eq g11.symm))))
  have H23 := ((V_p.ext E11).other W16 ne22)
  refine Gk.iaload X20 hx hZ e20 H23 ⟨by decide, by decide⟩ (.int (1 : Int32)) hp2 (hb hby d14_61) ?_
  refine Gk.istore X20 hx (hb hby d14_62) #[.val (.ref a1), .val (.int (2 : Int32)), .val (.int (2 : Int32)), .val (.ref b11), .val (.int (1 : Int32)), .val (.int (1 : Int32))] rfl ?_
  refine Gk.iinc X20 hx (hb hby d14_64) rfl #[.val (.ref a1), .val (.int (2 : Int32)), .val (.int (2 : Int32)), .val (.ref b11), .val (.int (1 : Int32)), .val (.int (0 : Int32))] rfl ?_
  refine Gk.goto X20 hx (hb hby d14_67) 39 (by decide) (by decide) ?_
  refine Gk.iload X20 hx (hb hby d14_39) rfl ?_
  refine Gk.ifNo X20 hx (hb hby d14_41) (flt (by decide : ¬ ((0 : Int32) < (0 : Int32)))).1 ?_
  refine Gk.aloadN X20 hx (hb hby d14_44) rfl rfl ?_
  refine Gk.iload X20 hx (hb hby d14_45) rfl ?_
  refine Gk.aloadN X20 hx (hb hby d14_47) rfl rfl ?_
  have H24 := (H12.other W16 (Or.inl ne18))
  refine Gk.getF X20 hx hZ hown (host := "") (Or.inl (hw _ (List.mem_of_getElem? (i := 55) rfl))) Via.refl e20 H24 (hb hby d14_48) ?_
  intro T25 X25 e25
  refine Gk.iload X25 hx (hb hby d14_51) rfl ?_
  have ne27 : xe ≠ b11 := (Nat.ne_of_lt (Nat.lt_of_lt_of_le V_e.lt (Nat.le_trans (Nat.le_refl _) (Nat.le_of_eq g11.symm))))
  have H28 := (H15.other W16 ne27)
  refine Gk.aaload X25 hx hZ e25 H28 rfl ⟨by decide, by decide⟩ (.ref y1) he1 (hb hby d14_53) ?_
  have H30 := ((E_y1.ext E11).wr W16)
  refine Gk.aastore X25 hx hZ e25 V16 0 rfl ⟨by decide, by decide⟩ rfl rfl (Or.inr ⟨_, _, rfl, O11, Ins.self H30⟩) (hb hby d14_54) ?_
  intro T29 h29 X29 e29 W29 V29
  have N29 := Fr.snoc X29 N16 g_b11
  refine Gk.aloadN X29 hx (hb hby d14_55) rfl rfl ?_
  have H31 := (H19.other W29 (Or.inl ne18))
  refine Gk.getF X29 hx hZ hown (host := "") (Or.inl (hw _ (List.mem_of_getElem? (i := 52) rfl))) Via.refl e29 H31 (hb hby d14_56) ?_
  intro T32 X32 e32
  refine Gk.iload X32 hx (hb hby d14_59) rfl ?_
  have H34 := (H23.other W29 ne22)
  refine Gk.iaload X32 hx hZ e32 H34 ⟨by decide, by decide⟩ (.int (0 : Int32)) hp1 (hb hby d14_61) ?_
  refine Gk.istore X32 hx (hb hby d14_62) #[.val (.ref a1), .val (.int (2 : Int32)), .val (.int (2 : Int32)), .val (.ref b11), .val (.int (0 : Int32)), .val (.int (0 : Int32))] rfl ?_
  refine Gk.iinc X32 hx (hb hby d14_64) rfl #[.val (.ref a1), .val (.int (2 : Int32)), .val (.int (2 : Int32)), .val (.ref b11), .val (.int (0 : Int32)), .val (.int (-1 : Int32))] rfl ?_
  refine Gk.goto X32 hx (hb hby d14_67) 39 (by decide) (by decide) ?_
  refine Gk.iload X32 hx (hb hby d14_39) rfl ?_
  refine Gk.ifYes X32 hx (hb hby d14_41) (tlt (by decide : (-1 : Int32) < (0 : Int32))).1 70 (by decide) (by decide) ?_
  refine Gk.aloadN X32 hx (hb hby d14_70) rfl rfl ?_
  refine Go.fin X32 (v := some (.ref b11)) (fun h_ => by rw [Bd.returns] at h_; cases h_) Bd.notSynchronized (fun _ hr => retOut X32 hx Bd.returns rfl (Or.inr (Or.inr (Or.inr (Or.inr ⟨rfl, rfl, rfl⟩)))) (hb hby d14_71) hr) (fun U' hU hF => ⟨_, _, rfl, ?_, hF.1, hF.2.1, hF.2.2.mono (by decide) (by decide)⟩)
  rw [hU, e32]
  exact ⟨(congrArg (fun z_ : Addr => some (Value.ref z_)) (show b11 = h0.size from g11)), N29, ((((Keep.refl h0 []).ext E11).wr W16 (Or.inr (Nat.le_trans (Nat.le_refl _) (Nat.le_of_eq g11.symm)))).wr W29 (Or.inr (Nat.le_trans (Nat.le_refl _) (Nat.le_of_eq g11.symm)))), _, (g11 ▸ V29)⟩
theorem ef_rm14_3 (m : MethodId) (a1 : Addr) : entryFrame m #[(.ref a1), (.int (3 : Int32))] 6 = mkF m 0 #[.val (.ref a1), .val (.int (3 : Int32)), .unset, .unset, .unset, .unset] [] := by first | (simp [entryFrame, mkF, argsToLocals, Value.category]; done) | rfl
def Q_rm14_3 (Z : State) (a1 : Addr) (xp : Addr) (kp : ClassId) (fp : Nat → Value) (xe : Addr) (ke : ClassId) (fe : Nat → Value) (h0 : Heap) (n0 : Nat) (v : Option Value) (h : Heap) (L : List Loc) : Prop := v = some (.ref h0.size) ∧ Fr n0 L ∧ Keep h0 h [] ∧ ∃ kr : ClassId, Arf Z h h0.size kr (.object "com/example/tracewarden/tracewarden/engine/SearchTuples$Event") (0 : Int32) (fun _ => .null)
set_option maxRecDepth 65536 in
set_option maxHeartbeats 40000000 in
theorem rm14_3 (l : Launch) (Z : State) (a0 : Array Value) (hw : ∀ d ∈ tables_1, d.before a0 Z = true) (ws : List Jvm.Cond) (a1 : Addr) (xp : Addr) (kp : ClassId) (fp : Nat → Value) (xe : Addr) (ke : ClassId) (fe : Nat → Value) (h0 : Heap) (n0 : Nat) (Z0 : n0 ≤ h0.size) (V_p : Arf Z h0 xp kp .int (16 : Int32) fp) (V_e : Arf Z h0 xe ke (.object "com/example/tracewarden/tracewarden/engine/SearchTuples$Event") (16 : Int32) fe) (F_parents : Fld Z h0 a1 "com/example/tracewarden/tracewarden/engine/SearchTuples" "parents" "[I" (.ref xp)) (F_events : Fld Z h0 a1 "com/example/tracewarden/tracewarden/engine/SearchTuples" "events" "[Lcom/example/tracewarden/tracewarden/engine/SearchTuples$Event;" (.ref xe)) (hp3 : fp 3 = (.int (-1 : Int32))) :
    MetFree l (⟨"com/example/tracewarden/tracewarden/engine/SearchTuples", "path", "(I)[Lcom/example/tracewarden/tracewarden/engine/SearchTuples$Event;"⟩ : MethodName) (head1 (Jvm.Cond.code (⟨"com/example/tracewarden/tracewarden/engine/SearchTuples", "path", "(I)[Lcom/example/tracewarden/tracewarden/engine/SearchTuples$Event;"⟩ : MethodName) prog_86_method_22_code 6 (some (.array (.object "com/example/tracewarden/tracewarden/engine/SearchTuples$Event"))) :: ws) ({ frames := 0, cells := 1, slots := 0, locals := 0 } : Room)) (fun a U => a = #[(.ref a1), (.int (3 : Int32))] ∧ Z.Warmed39 U.vm ∧ U.heap = h0) (fun _ _ _ _ _ => True) (fun _ U o U' => ∃ v L, o = .returned v ∧ Q_rm14_3 Z a1 xp kp fp xe ke fe h0 n0 v U'.heap L ∧ FrameEnd U o U' L ({ frames := 0, cells := 1, slots := 0, locals := 0 } : Room).cells ({ frames := 0, cells := 1, slots := 0, locals := 0 } : Room).slots) := by
  refine MetFree.of_bodySF (plainFor_of_name pn_95) hisR ?_
  intro p e s m args below meth c s₁ Bd hml0 hP hK
  obtain ⟨rfl, hZ, hh⟩ := hP
  have hx := Bd.exec
  have hby := Bd.bytes
  have hml : c.maxLocals = 6 := hml0
  have hown : s.vm.findClass "com/example/tracewarden/tracewarden/engine/SearchTuples" = some m.cls := findClass_of_methodNamed Bd.named
  have hnm := (name_of_methodNamed Bd.named Bd.method).1
  have X0 : Stand p l e ({ frames := 0, cells := 1, slots := 0, locals := 0 } : Room) s m #[(.ref a1), (.int (3 : Int32))] below meth c s₁ [] 0 0 := Stand.of_body Bd
  have e0 : s₁.heap = h0 := by rw [← hh, Bd.state]; rfl
  have N0 := Fr.nil n0
  show Go p e below (s₁.setTop (entryFrame m #[(.ref a1), (.int (3 : Int32))] 6)) (fun o U' => ∃ v L, o = .returned v ∧ Q_rm14_3 Z a1 xp kp fp xe ke fe h0 n0 v U'.heap L ∧ FrameEnd s o U' L ({ frames := 0, cells := 1, slots := 0, locals := 0 } : Room).cells ({ frames := 0, cells := 1, slots := 0, locals := 0 } : Room).slots)
  rw [ef_rm14_3]
  refine Gk.iconst X0 hx (hb hby d14_0) (0 : Int32) rfl ?_
  refine Gk.istoreN X0 hx (hb hby d14_1) #[.val (.ref a1), .val (.int (3 : Int32)), .val (.int (0 : Int32)), .unset, .unset, .unset] rfl ?_
  refine Gk.iloadN X0 hx (hb hby d14_2) rfl ?_
  refine Gk.istoreN X0 hx (hb hby d14_3) #[.val (.ref a1), .val (.int (3 : Int32)), .val (.int (0 : Int32)), .val (.int (3 : Int32)), .unset, .unset] rfl ?_
  refine Gk.aloadN X0 hx (hb hby d14_4) rfl rfl ?_
  refine Gk.getF X0 hx hZ hown (host := "") (Or.inl (hw _ (List.mem_of_getElem? (i := 52) rfl))) Via.refl e0 F_parents (hb hby d14_5) ?_
  intro T1 X1 e1
  refine Gk.iloadN X1 hx (hb hby d14_8) rfl ?_
  refine Gk.iaload X1 hx hZ e1 V_p ⟨by decide, by decide⟩ (.int (-1 : Int32)) hp3 (hb hby d14_9) ?_
  refine Gk.ifYes X1 hx (hb hby d14_10) (tlt (by decide : (-1 : Int32) < (0 : Int32))).1 26 (by decide) (by decide) ?_
  refine Gk.iloadN X1 hx (hb hby d14_26) rfl ?_
  refine Gk.newR X1 hx hZ hown (hw _ (List.mem_of_getElem? (i := 54) rfl)) (hw _ (List.mem_of_getElem? (i := 3) rfl)) e1 (hb hby d14_27) (by decide) (cap := 0) (by decide) (by decide) (by decide) (by decide) rfl ?_
  intro T3 h3 b3 k3 X3 e3 E3 g3 A3 B3 O3
  have g_b3 : n0 ≤ b3 := Nat.le_trans Z0 (Nat.le_of_eq g3.symm)
  have V_b3 : Arf Z h3 b3 k3 (.object "com/example/tracewarden/tracewarden/engine/SearchTuples$Event") (0 : Int32) (fun _ => .null) := A3
  have lt_b3 := V_b3.lt
  refine Gk.astoreN X3 hx (hb hby d14_30) rfl #[.val (.ref a1), .val (.int (3 : Int32)), .val (.int (0 : Int32)), .val (.ref b3), .unset, .unset] rfl ?_
  refine Gk.iloadN X3 hx (hb hby d14_31) rfl ?_
  refine Gk.istore X3 hx (hb hby d14_32) #[.val (.ref a1), .val (.int (3 : Int32)), .val (.int (0 : Int32)), .val (.ref b3), .val (.int (3 : Int32)), .unset] rfl ?_
  refine Gk.iloadN X3 hx (hb hby d14_34) rfl ?_
  refine Gk.iconst X3 hx (hb hby d14_35) (1 : Int32) rfl ?_
  refine Gk.isub X3 hx (hb hby d14_36) (-1 : Int32) (by decide) ?_
  refine Gk.istore X3 hx (hb hby d14_37) #[.val (.ref a1), .val (.int (3 : Int32)), .val (.int (0 : Int32)), .val (.ref b3), .val (.int (3 : Int32)), .val (.int (-1 : Int32))] rfl ?_
  refine Gk.iload X3 hx (hb hby d14_39) rfl ?_
  refine Gk.ifYes X3 hx (hb hby d14_41) (tlt (by decide : (-1 : Int32) < (0 : Int32))).1 70 (by decide) (by decide) ?_
  refine Gk.aloadN X3 hx (hb hby d14_70) rfl rfl ?_
  refine Go.fin X3 (v := some (.ref b3)) (fun h_ => by rw [Bd.returns] at h_; cases h_) Bd.notSynchronized (fun _ hr => retOut X3 hx Bd.returns rfl (Or.inr (Or.inr (Or.inr (Or.inr ⟨rfl, rfl, rfl⟩)))) (hb hby d14_71) hr) (fun U' hU hF => ⟨_, _, rfl, ?_, hF.1, hF.2.1, hF.2.2.mono (by decide) (by decide)⟩)
  rw [hU, e3]
  exact ⟨(congrArg (fun z_ : Addr => some (Value.ref z_)) (show b3 = h0.size from g3)), N0, ((Keep.refl h0 []).ext E3), _, (g3 ▸ V_b3)⟩
theorem ef_rm14_30 (m : MethodId) (a1 : Addr) : entryFrame m #[(.ref a1), (.int (3 : Int32))] 6 = mkF m 0 #[.val (.ref a1), .val (.int (3 : Int32)), .unset, .unset, .unset, .unset] [] := by first | (simp [entryFrame, mkF, argsToLocals, Value.category]; done) | rfl
def Q_rm14_30 (Z : State) (a1 : Addr) (xp : Addr) (kp : ClassId) (fp : Nat → Value) (xe : Addr) (ke : ClassId) (fe : Nat → Value) (y0 : Addr) (h0 : Heap) (n0 : Nat) (v : Option Value) (h : Heap) (L : List Loc) : Prop := v = some (.ref h0.size) ∧ Fr n0 L ∧ Keep h0 h [] ∧ ∃ kr : ClassId, Arf Z h h0.size kr (.object "com/example/tracewarden/tracewarden/engine/SearchTuples$Event") (1 : Int32) (upd (fun _ => .null) 0 (.ref y0))
set_option maxRecDepth 65536 in
set_option maxHeartbeats 40000000 in
theorem rm14_30 (l : Launch) (Z : State) (a0 : Array Value) (hw : ∀ d ∈ tables_1, d.before a0 Z = true) (ws : List Jvm.Cond) (a1 : Addr) (xp : Addr) (kp : ClassId) (fp : Nat → Value) (xe : Addr) (ke : ClassId) (fe : Nat → Value) (y0 : Addr) (h0 : Heap) (n0 : Nat) (Z0 : n0 ≤ h0.size) (V_p : Arf Z h0 xp kp .int (16 : Int32) fp) (V_e : Arf Z h0 xe ke (.object "com/example/tracewarden/tracewarden/engine/SearchTuples$Event") (16 : Int32) fe) (F_parents : Fld Z h0 a1 "com/example/tracewarden/tracewarden/engine/SearchTuples" "parents" "[I" (.ref xp)) (F_events : Fld Z h0 a1 "com/example/tracewarden/tracewarden/engine/SearchTuples" "events" "[Lcom/example/tracewarden/tracewarden/engine/SearchTuples$Event;" (.ref xe)) (hp3 : fp 3 = (.int (0 : Int32))) (hp0 : fp 0 = (.int (-1 : Int32))) (he3 : fe 3 = (.ref y0)) (E_y0 : Exa Z h0 y0 "com/example/tracewarden/tracewarden/engine/SearchTuples$Event") :
    MetFree l (⟨"com/example/tracewarden/tracewarden/engine/SearchTuples", "path", "(I)[Lcom/example/tracewarden/tracewarden/engine/SearchTuples$Event;"⟩ : MethodName) (head1 (Jvm.Cond.code (⟨"com/example/tracewarden/tracewarden/engine/SearchTuples", "path", "(I)[Lcom/example/tracewarden/tracewarden/engine/SearchTuples$Event;"⟩ : MethodName) prog_86_method_22_code 6 (some (.array (.object "com/example/tracewarden/tracewarden/engine/SearchTuples$Event"))) :: ws) ({ frames := 0, cells := 1, slots := 1, locals := 0 } : Room)) (fun a U => a = #[(.ref a1), (.int (3 : Int32))] ∧ Z.Warmed39 U.vm ∧ U.heap = h0) (fun _ _ _ _ _ => True) (fun _ U o U' => ∃ v L, o = .returned v ∧ Q_rm14_30 Z a1 xp kp fp xe ke fe y0 h0 n0 v U'.heap L ∧ FrameEnd U o U' L ({ frames := 0, cells := 1, slots := 1, locals := 0 } : Room).cells ({ frames := 0, cells := 1, slots := 1, locals := 0 } : Room).slots) := by
  refine MetFree.of_bodySF (plainFor_of_name pn_95) hisR ?_
  intro p e s m args below meth c s₁ Bd hml0 hP hK
  obtain ⟨rfl, hZ, hh⟩ := hP
  have hx := Bd.exec
  have hby := Bd.bytes
  have hml : c.maxLocals = 6 := hml0
  have hown : s.vm.findClass "com/example/tracewarden/tracewarden/engine/SearchTuples" = some m.cls := findClass_of_methodNamed Bd.named
  have hnm := (name_of_methodNamed Bd.named Bd.method).1
  have X0 : Stand p l e ({ frames := 0, cells := 1, slots := 1, locals := 0 } : Room) s m #[(.ref a1), (.int (3 : Int32))] below meth c s₁ [] 0 0 := Stand.of_body Bd
  have e0 : s₁.heap = h0 := by rw [← hh, Bd.state]; rfl
  have N0 := Fr.nil n0
  show Go p e below (s₁.setTop (entryFrame m #[(.ref a1), (.int (3 : Int32))] 6)) (fun o U' => ∃ v L, o = .returned v ∧ Q_rm14_30 Z a1 xp kp fp xe ke fe y0 h0 n0 v U'.heap L ∧ FrameEnd s o U' L ({ frames := 0, cells := 1, slots := 1, locals := 0 } : Room).cells ({ frames := 0, cells := 1, slots := 1, locals := 0 } : Room).slots)
  rw [ef_rm14_30]
  refine Gk.iconst X0 hx (hb hby d14_0) (0 : Int32) rfl ?_
  refine Gk.istoreN X0 hx (hb hby d14_1) #[.val (.ref a1), .val (.int (3 : Int32)), .val (.int (0 : Int32)), .unset, .unset, .unset] rfl ?_
  refine Gk.iloadN X0 hx (hb hby d14_2) rfl ?_
  refine Gk.istoreN X0 hx (hb hby d14_3) #[.val (.ref a1), .val (.int (3 : Int32)), .val (.int (0 : Int32)), .val (.int (3 : Int32)), .unset, .unset] rfl ?_
  refine Gk.aloadN X0 hx (hb hby d14_4) rfl rfl ?_
  refine Gk.getF X0 hx hZ hown (host := "") (Or.inl (hw _ (List.mem_of_getElem? (i := 52) rfl))) Via.refl e0 F_parents (hb hby d14_5) ?_
  intro T1 X1 e1
  refine Gk.iloadN X1 hx (hb hby d14_8) rfl ?_
  refine Gk.iaload X1 hx hZ e1 V_p ⟨by decide, by decide⟩ (.int (0 : Int32)) hp3 (hb hby d14_9) ?_
  refine Gk.ifNo X1 hx (hb hby d14_10) (flt (by decide : ¬ ((0 : Int32) < (0 : Int32)))).1 ?_
  refine Gk.iinc X1 hx (hb hby d14_13) rfl #[.val (.ref a1), .val (.int (3 : Int32)), .val (.int (1 : Int32)), .val (.int (3 : Int32)), .unset, .unset] rfl ?_
  refine Gk.aloadN X1 hx (hb hby d14_16) rfl rfl ?_
  refine Gk.getF X1 hx hZ hown (host := "") (Or.inl (hw _ (List.mem_of_getElem? (i := 52) rfl))) Via.refl e1 F_parents (hb hby d14_17) ?_
  intro T3 X3 e3
  refine Gk.iloadN X3 hx (hb hby d14_20) rfl ?_
  refine Gk.iaload X3 hx hZ e3 V_p ⟨by decide, by decide⟩ (.int (0 : Int32)) hp3 (hb hby d14_21) ?_
  refine Gk.istoreN X3 hx (hb hby d14_22) #[.val (.ref a1), .val (.int (3 : Int32)), .val (.int (1 : Int32)), .val (.int (0 : Int32)), .unset, .unset] rfl ?_
  refine Gk.goto X3 hx (hb hby d14_23) 4 (by decide) (by decide) ?_
  refine Gk.aloadN X3 hx (hb hby d14_4) rfl rfl ?_
  refine Gk.getF X3 hx hZ hown (host := "") (Or.inl (hw _ (List.mem_of_getElem? (i := 52) rfl))) Via.refl e3 F_parents (hb hby d14_5) ?_
  intro T5 X5 e5
  refine Gk.iloadN X5 hx (hb hby d14_8) rfl ?_
  refine Gk.iaload X5 hx hZ e5 V_p ⟨by decide, by decide⟩ (.int (-1 : Int32)) hp0 (hb hby d14_9) ?_
  refine Gk.ifYes X5 hx (hb hby d14_10) (tlt (by decide : (-1 : Int32) < (0 : Int32))).1 26 (by decide) (by decide) ?_
  refine Gk.iloadN X5 hx (hb hby d14_26) rfl ?_
  refine Gk.newR X5 hx hZ hown (hw _ (List.mem_of_getElem? (i := 54) rfl)) (hw _ (List.mem_of_getElem? (i := 3) rfl)) e5 (hb hby d14_27) (by decide) (cap := 1) (by decide) (by decide) (by decide) (by decide) rfl ?_
  intro T7 h7 b7 k7 X7 e7 E7 g7 A7 B7 O7
  have g_b7 : n0 ≤ b7 := Nat.le_trans Z0 (Nat.le_of_eq g7.symm)
  have V_b7 : Arf Z h7 b7 k7 (.object "com/example/tracewarden/tracewarden/engine/SearchTuples$Event") (1 : Int32) (fun _ => .null) := A7
  have lt_b7 := V_b7.lt
  refine Gk.astoreN X7 hx (hb hby d14_30) rfl #[.val (.ref a1), .val (.int (3 : Int32)), .val (.int (1 : Int32)), .val (.ref b7), .unset, .unset] rfl ?_
  refine Gk.iloadN X7 hx (hb hby d14_31) rfl ?_
  refine Gk.istore X7 hx (hb hby d14_32) #[.val (.ref a1), .val (.int (3 : Int32)), .val (.int (1 : Int32)), .val (.ref b7), .val (.int (3 : Int32)), .unset] rfl ?_
  refine Gk.iloadN X7 hx (hb hby d14_34) rfl ?_
  refine Gk.iconst X7 hx (hb hby d14_35) (1 : Int32) rfl ?_
  refine Gk.isub X7 hx (hb hby d14_36) (0 : Int32) (by decide) ?_
  refine Gk.istore X7 hx (hb hby d14_37) #[.val (.ref a1), .val (.int (3 : Int32)), .val (.int (1 : Int32)), .val (.ref b7), .val (.int (3 : Int32)), .val (.int (0 : Int32))] rfl ?_
  refine Gk.iload X7 hx (hb hby d14_39) rfl ?_
  refine Gk.ifNo X7 hx (hb hby d14_41) (flt (by decide : ¬ ((0 : Int32) < (0 : Int32)))).1 ?_
  refine Gk.aloadN X7 hx (hb hby d14_44) rfl rfl ?_
  refine Gk.iload X7 hx (hb hby d14_45) rfl ?_
  refine Gk.aloadN X7 hx (hb hby d14_47) rfl rfl ?_
  have H8 := (F_events.ext E7)
  refine Gk.getF X7 hx hZ hown (host := "") (Or.inl (hw _ (List.mem_of_getElem? (i := 55) rfl))) Via.refl e7 H8 (hb hby d14_48) ?_
  intro T9 X9 e9
  refine Gk.iload X9 hx (hb hby d14_51) rfl ?_
  have H11 := (V_e.ext E7)
  refine Gk.aaload X9 hx hZ e9 H11 rfl ⟨by decide, by decide⟩ (.ref y0) he3 (hb hby d14_53) ?_
  have H13 := (E_y0.ext E7)
  refine Gk.aastore X9 hx hZ e9 V_b7 0 rfl ⟨by decide, by decide⟩ rfl rfl (Or.inr ⟨_, _, rfl, O7, Ins.self H13⟩) (hb hby d14_54) ?_
  intro T12 h12 X12 e12 W12 V12
  have N12 := Fr.snoc X12 N0 g_b7
  refine Gk.aloadN X12 hx (hb hby d14_55) rfl rfl ?_
  have ne14 : a1 ≠ b7 := (Nat.ne_of_lt (Nat.lt_of_lt_of_le F_parents.lt (Nat.le_of_eq g7.symm)))
  have H15 := ((F_parents.ext E7).other W12 (Or.inl ne14))
  refine Gk.getF X12 hx hZ hown (host := "") (Or.inl (hw _ (List.mem_of_getElem? (i := 52) rfl))) Via.refl e12 H15 (hb hby d14_56) ?_
  intro T16 X16 e16
  refine Gk.iload X16 hx (hb hby d14_59) rfl ?_
  have ne18 : xp ≠ b7 := (Nat.ne_of_lt (Nat.lt_of_lt_of_le V_p.lt (Nat.le_trans (Nat.le_refl _) (Nat.le_of_eq g7.symm))))
  have H19 := ((V_p.ext E7).other W12 ne18)
  refine Gk.iaload X16 hx hZ e16 H19 ⟨by decide, by decide⟩ (.int (0 : Int32)) hp3 (hb hby d14_61) ?_
  refine Gk.istore X16 hx (hb hby d14_62) #[.val (.ref a1), .val (.int (3 : Int32)), .val (.int (1 : Int32)), .val (.ref b7), .val (.int (0 : Int32)), .val (.int (0 : Int32))] rfl ?_
  refine Gk.iinc X16 hx (hb hby d14_64) rfl #[.val (.ref a1), .val (.int (3 : Int32)), .val (.int (1 : Int32)), .val (.ref b7), .val (.int (0 : Int32)), .val (.int (-1 : Int32))] rfl ?_
  refine Gk.goto X16 hx (hb hby d14_67) 39 (by decide) (by decide) ?_
  refine Gk.iload X16 hx (hb hby d14_39) rfl ?_
  refine Gk.ifYes X16 hx (hb hby d14_41) (tlt (by decide : (-1 : Int32) < (0 : Int32))).1 70 (by decide) (by decide) ?_
  refine Gk.aloadN X16 hx (hb hby d14_70) rfl rfl ?_
  refine Go.fin X16 (v := some (.ref b7)) (fun h_ => by rw [Bd.returns] at h_; cases h_) Bd.notSynchronized (fun _ hr => retOut X16 hx Bd.returns rfl (Or.inr (Or.inr (Or.inr (Or.inr ⟨rfl, rfl, rfl⟩)))) (hb hby d14_71) hr) (fun U' hU hF => ⟨_, _, rfl, ?_, hF.1, hF.2.1, hF.2.2.mono (by decide) (by decide)⟩)
  rw [hU, e16]
  exact ⟨(congrArg (fun z_ : Addr => some (Value.ref z_)) (show b7 = h0.size from g7)), N12, (((Keep.refl h0 []).ext E7).wr W12 (Or.inr (Nat.le_trans (Nat.le_refl _) (Nat.le_of_eq g7.symm)))), _, (g7 ▸ V12)⟩
theorem ef_rm14_31 (m : MethodId) (a1 : Addr) : entryFrame m #[(.ref a1), (.int (3 : Int32))] 6 = mkF m 0 #[.val (.ref a1), .val (.int (3 : Int32)), .unset, .unset, .unset, .unset] [] := by first | (simp [entryFrame, mkF, argsToLocals, Value.category]; done) | rfl
def Q_rm14_31 (Z : State) (a1 : Addr) (xp : Addr) (kp : ClassId) (fp : Nat → Value) (xe : Addr) (ke : ClassId) (fe : Nat → Value) (y0 : Addr) (h0 : Heap) (n0 : Nat) (v : Option Value) (h : Heap) (L : List Loc) : Prop := v = some (.ref h0.size) ∧ Fr n0 L ∧ Keep h0 h [] ∧ ∃ kr : ClassId, Arf Z h h0.size kr (.object "com/example/tracewarden/tracewarden/engine/SearchTuples$Event") (1 : Int32) (upd (fun _ => .null) 0 (.ref y0))
set_option maxRecDepth 65536 in
set_option maxHeartbeats 40000000 in
theorem rm14_31 (l : Launch) (Z : State) (a0 : Array Value) (hw : ∀ d ∈ tables_1, d.before a0 Z = true) (ws : List Jvm.Cond) (a1 : Addr) (xp : Addr) (kp : ClassId) (fp : Nat → Value) (xe : Addr) (ke : ClassId) (fe : Nat → Value) (y0 : Addr) (h0 : Heap) (n0 : Nat) (Z0 : n0 ≤ h0.size) (V_p : Arf Z h0 xp kp .int (16 : Int32) fp) (V_e : Arf Z h0 xe ke (.object "com/example/tracewarden/tracewarden/engine/SearchTuples$Event") (16 : Int32) fe) (F_parents : Fld Z h0 a1 "com/example/tracewarden/tracewarden/engine/SearchTuples" "parents" "[I" (.ref xp)) (F_events : Fld Z h0 a1 "com/example/tracewarden/tracewarden/engine/SearchTuples" "events" "[Lcom/example/tracewarden/tracewarden/engine/SearchTuples$Event;" (.ref xe)) (hp3 : fp 3 = (.int (1 : Int32))) (hp1 : fp 1 = (.int (-1 : Int32))) (he3 : fe 3 = (.ref y0)) (E_y0 : Exa Z h0 y0 "com/example/tracewarden/tracewarden/engine/SearchTuples$Event") :
    MetFree l (⟨"com/example/tracewarden/tracewarden/engine/SearchTuples", "path", "(I)[Lcom/example/tracewarden/tracewarden/engine/SearchTuples$Event;"⟩ : MethodName) (head1 (Jvm.Cond.code (⟨"com/example/tracewarden/tracewarden/engine/SearchTuples", "path", "(I)[Lcom/example/tracewarden/tracewarden/engine/SearchTuples$Event;"⟩ : MethodName) prog_86_method_22_code 6 (some (.array (.object "com/example/tracewarden/tracewarden/engine/SearchTuples$Event"))) :: ws) ({ frames := 0, cells := 1, slots := 1, locals := 0 } : Room)) (fun a U => a = #[(.ref a1), (.int (3 : Int32))] ∧ Z.Warmed39 U.vm ∧ U.heap = h0) (fun _ _ _ _ _ => True) (fun _ U o U' => ∃ v L, o = .returned v ∧ Q_rm14_31 Z a1 xp kp fp xe ke fe y0 h0 n0 v U'.heap L ∧ FrameEnd U o U' L ({ frames := 0, cells := 1, slots := 1, locals := 0 } : Room).cells ({ frames := 0, cells := 1, slots := 1, locals := 0 } : Room).slots) := by
  refine MetFree.of_bodySF (plainFor_of_name pn_95) hisR ?_
  intro p e s m args below meth c s₁ Bd hml0 hP hK
  obtain ⟨rfl, hZ, hh⟩ := hP
  have hx := Bd.exec
  have hby := Bd.bytes
  have hml : c.maxLocals = 6 := hml0
  have hown : s.vm.findClass "com/example/tracewarden/tracewarden/engine/SearchTuples" = some m.cls := findClass_of_methodNamed Bd.named
  have hnm := (name_of_methodNamed Bd.named Bd.method).1
  have X0 : Stand p l e ({ frames := 0, cells := 1, slots := 1, locals := 0 } : Room) s m #[(.ref a1), (.int (3 : Int32))] below meth c s₁ [] 0 0 := Stand.of_body Bd
  have e0 : s₁.heap = h0 := by rw [← hh, Bd.state]; rfl
  have N0 := Fr.nil n0
  show Go p e below (s₁.setTop (entryFrame m #[(.ref a1), (.int (3 : Int32))] 6)) (fun o U' => ∃ v L, o = .returned v ∧ Q_rm14_31 Z a1 xp kp fp xe ke fe y0 h0 n0 v U'.heap L ∧ FrameEnd s o U' L ({ frames := 0, cells := 1, slots := 1, locals := 0 } : Room).cells ({ frames := 0, cells := 1, slots := 1, locals := 0 } : Room).slots)
  rw [ef_rm14_31]
  refine Gk.iconst X0 hx (hb hby d14_0) (0 : Int32) rfl ?_
  refine Gk.istoreN X0 hx (hb hby d14_1) #[.val (.ref a1), .val (.int (3 : Int32)), .val (.int (0 : Int32)), .unset, .unset, .unset] rfl ?_
  refine Gk.iloadN X0 hx (hb hby d14_2) rfl ?_
  refine Gk.istoreN X0 hx (hb hby d14_3) #[.val (.ref a1), .val (.int (3 : Int32)), .val (.int (0 : Int32)), .val (.int (3 : Int32)), .unset, .unset] rfl ?_
  refine Gk.aloadN X0 hx (hb hby d14_4) rfl rfl ?_
  refine Gk.getF X0 hx hZ hown (host := "") (Or.inl (hw _ (List.mem_of_getElem? (i := 52) rfl))) Via.refl e0 F_parents (hb hby d14_5) ?_
  intro T1 X1 e1
  refine Gk.iloadN X1 hx (hb hby d14_8) rfl ?_
  refine Gk.iaload X1 hx hZ e1 V_p ⟨by decide, by decide⟩ (.int (1 : Int32)) hp3 (hb hby d14_9) ?_
  refine Gk.ifNo X1 hx (hb hby d14_10) (flt (by decide : ¬ ((1 : Int32) < (0 : Int32)))).1 ?_
  refine Gk.iinc X1 hx (hb hby d14_13) rfl #[.val (.ref a1), .val (.int (3 : Int32)), .val (.int (1 : Int32)), .val (.int (3 : Int32)), .unset, .unset] rfl ?_
  refine Gk.aloadN X1 hx (hb hby d14_16) rfl rfl ?_
  refine Gk.getF X1 hx hZ hown (host := "") (Or.inl (hw _ (List.mem_of_getElem? (i := 52) rfl))) Via.refl e1 F_parents (hb hby d14_17) ?_
  intro T3 X3 e3
  refine Gk.iloadN X3 hx (hb hby d14_20) rfl ?_
  refine Gk.iaload X3 hx hZ e3 V_p ⟨by decide, by decide⟩ (.int (1 : Int32)) hp3 (hb hby d14_21) ?_
  refine Gk.istoreN X3 hx (hb hby d14_22) #[.val (.ref a1), .val (.int (3 : Int32)), .val (.int (1 : Int32)), .val (.int (1 : Int32)), .unset, .unset] rfl ?_
  refine Gk.goto X3 hx (hb hby d14_23) 4 (by decide) (by decide) ?_
  refine Gk.aloadN X3 hx (hb hby d14_4) rfl rfl ?_
  refine Gk.getF X3 hx hZ hown (host := "") (Or.inl (hw _ (List.mem_of_getElem? (i := 52) rfl))) Via.refl e3 F_parents (hb hby d14_5) ?_
  intro T5 X5 e5
  refine Gk.iloadN X5 hx (hb hby d14_8) rfl ?_
  refine Gk.iaload X5 hx hZ e5 V_p ⟨by decide, by decide⟩ (.int (-1 : Int32)) hp1 (hb hby d14_9) ?_
  refine Gk.ifYes X5 hx (hb hby d14_10) (tlt (by decide : (-1 : Int32) < (0 : Int32))).1 26 (by decide) (by decide) ?_
  refine Gk.iloadN X5 hx (hb hby d14_26) rfl ?_
  refine Gk.newR X5 hx hZ hown (hw _ (List.mem_of_getElem? (i := 54) rfl)) (hw _ (List.mem_of_getElem? (i := 3) rfl)) e5 (hb hby d14_27) (by decide) (cap := 1) (by decide) (by decide) (by decide) (by decide) rfl ?_
  intro T7 h7 b7 k7 X7 e7 E7 g7 A7 B7 O7
  have g_b7 : n0 ≤ b7 := Nat.le_trans Z0 (Nat.le_of_eq g7.symm)
  have V_b7 : Arf Z h7 b7 k7 (.object "com/example/tracewarden/tracewarden/engine/SearchTuples$Event") (1 : Int32) (fun _ => .null) := A7
  have lt_b7 := V_b7.lt
  refine Gk.astoreN X7 hx (hb hby d14_30) rfl #[.val (.ref a1), .val (.int (3 : Int32)), .val (.int (1 : Int32)), .val (.ref b7), .unset, .unset] rfl ?_
  refine Gk.iloadN X7 hx (hb hby d14_31) rfl ?_
  refine Gk.istore X7 hx (hb hby d14_32) #[.val (.ref a1), .val (.int (3 : Int32)), .val (.int (1 : Int32)), .val (.ref b7), .val (.int (3 : Int32)), .unset] rfl ?_
  refine Gk.iloadN X7 hx (hb hby d14_34) rfl ?_
  refine Gk.iconst X7 hx (hb hby d14_35) (1 : Int32) rfl ?_
  refine Gk.isub X7 hx (hb hby d14_36) (0 : Int32) (by decide) ?_
  refine Gk.istore X7 hx (hb hby d14_37) #[.val (.ref a1), .val (.int (3 : Int32)), .val (.int (1 : Int32)), .val (.ref b7), .val (.int (3 : Int32)), .val (.int (0 : Int32))] rfl ?_
  refine Gk.iload X7 hx (hb hby d14_39) rfl ?_
  refine Gk.ifNo X7 hx (hb hby d14_41) (flt (by decide : ¬ ((0 : Int32) < (0 : Int32)))).1 ?_
  refine Gk.aloadN X7 hx (hb hby d14_44) rfl rfl ?_
  refine Gk.iload X7 hx (hb hby d14_45) rfl ?_
  refine Gk.aloadN X7 hx (hb hby d14_47) rfl rfl ?_
  have H8 := (F_events.ext E7)
  refine Gk.getF X7 hx hZ hown (host := "") (Or.inl (hw _ (List.mem_of_getElem? (i := 55) rfl))) Via.refl e7 H8 (hb hby d14_48) ?_
  intro T9 X9 e9
  refine Gk.iload X9 hx (hb hby d14_51) rfl ?_
  have H11 := (V_e.ext E7)
  refine Gk.aaload X9 hx hZ e9 H11 rfl ⟨by decide, by decide⟩ (.ref y0) he3 (hb hby d14_53) ?_
  have H13 := (E_y0.ext E7)
  refine Gk.aastore X9 hx hZ e9 V_b7 0 rfl ⟨by decide, by decide⟩ rfl rfl (Or.inr ⟨_, _, rfl, O7, Ins.self H13⟩) (hb hby d14_54) ?_
  intro T12 h12 X12 e12 W12 V12
  have N12 := Fr.snoc X12 N0 g_b7
  refine Gk.aloadN X12 hx (hb hby d14_55) rfl rfl ?_
  have ne14 : a1 ≠ b7 := (Nat.ne_of_lt (Nat.lt_of_lt_of_le F_parents.lt (Nat.le_of_eq g7.symm)))
  have H15 := ((F_parents.ext E7).other W12 (Or.inl ne14))
  refine Gk.getF X12 hx hZ hown (host := "") (Or.inl (hw _ (List.mem_of_getElem? (i := 52) rfl))) Via.refl e12 H15 (hb hby d14_56) ?_
  intro T16 X16 e16
  refine Gk.iload X16 hx (hb hby d14_59) rfl ?_
  have ne18 : xp ≠ b7 := (Nat.ne_of_lt (Nat.lt_of_lt_of_le V_p.lt (Nat.le_trans (Nat.le_refl _) (Nat.le_of_eq g7.symm))))
  have H19 := ((V_p.ext E7).other W12 ne18)
  refine Gk.iaload X16 hx hZ e16 H19 ⟨by decide, by decide⟩ (.int (1 : Int32)) hp3 (hb hby d14_61) ?_
  refine Gk.istore X16 hx (hb hby d14_62) #[.val (.ref a1), .val (.int (3 : Int32)), .val (.int (1 : Int32)), .val (.ref b7), .val (.int (1 : Int32)), .val (.int (0 : Int32))] rfl ?_
  refine Gk.iinc X16 hx (hb hby d14_64) rfl #[.val (.ref a1), .val (.int (3 : Int32)), .val (.int (1 : Int32)), .val (.ref b7), .val (.int (1 : Int32)), .val (.int (-1 : Int32))] rfl ?_
  refine Gk.goto X16 hx (hb hby d14_67) 39 (by decide) (by decide) ?_
  refine Gk.iload X16 hx (hb hby d14_39) rfl ?_
  refine Gk.ifYes X16 hx (hb hby d14_41) (tlt (by decide : (-1 : Int32) < (0 : Int32))).1 70 (by decide) (by decide) ?_
  refine Gk.aloadN X16 hx (hb hby d14_70) rfl rfl ?_
  refine Go.fin X16 (v := some (.ref b7)) (fun h_ => by rw [Bd.returns] at h_; cases h_) Bd.notSynchronized (fun _ hr => retOut X16 hx Bd.returns rfl (Or.inr (Or.inr (Or.inr (Or.inr ⟨rfl, rfl, rfl⟩)))) (hb hby d14_71) hr) (fun U' hU hF => ⟨_, _, rfl, ?_, hF.1, hF.2.1, hF.2.2.mono (by decide) (by decide)⟩)
  rw [hU, e16]
  exact ⟨(congrArg (fun z_ : Addr => some (Value.ref z_)) (show b7 = h0.size from g7)), N12, (((Keep.refl h0 []).ext E7).wr W12 (Or.inr (Nat.le_trans (Nat.le_refl _) (Nat.le_of_eq g7.symm)))), _, (g7 ▸ V12)⟩
theorem ef_rm14_310 (m : MethodId) (a1 : Addr) : entryFrame m #[(.ref a1), (.int (3 : Int32))] 6 = mkF m 0 #[.val (.ref a1), .val (.int (3 : Int32)), .unset, .unset, .unset, .unset] [] := by first | (simp [entryFrame, mkF, argsToLocals, Value.category]; done) | rfl
def Q_rm14_310 (Z : State) (a1 : Addr) (xp : Addr) (kp : ClassId) (fp : Nat → Value) (xe : Addr) (ke : ClassId) (fe : Nat → Value) (y0 : Addr) (y1 : Addr) (h0 : Heap) (n0 : Nat) (v : Option Value) (h : Heap) (L : List Loc) : Prop := v = some (.ref h0.size) ∧ Fr n0 L ∧ Keep h0 h [] ∧ ∃ kr : ClassId, Arf Z h h0.size kr (.object "com/example/tracewarden/tracewarden/engine/SearchTuples$Event") (2 : Int32) (upd (upd (fun _ => .null) 1 (.ref y0)) 0 (.ref y1))
set_option maxRecDepth 65536 in
set_option maxHeartbeats 40000000 in
theorem rm14_310 (l : Launch) (Z : State) (a0 : Array Value) (hw : ∀ d ∈ tables_1, d.before a0 Z = true) (ws : List Jvm.Cond) (a1 : Addr) (xp : Addr) (kp : ClassId) (fp : Nat → Value) (xe : Addr) (ke : ClassId) (fe : Nat → Value) (y0 : Addr) (y1 : Addr) (h0 : Heap) (n0 : Nat) (Z0 : n0 ≤ h0.size) (V_p : Arf Z h0 xp kp .int (16 : Int32) fp) (V_e : Arf Z h0 xe ke (.object "com/example/tracewarden/tracewarden/engine/SearchTuples$Event") (16 : Int32) fe) (F_parents : Fld Z h0 a1 "com/example/tracewarden/tracewarden/engine/SearchTuples" "parents" "[I" (.ref xp)) (F_events : Fld Z h0 a1 "com/example/tracewarden/tracewarden/engine/SearchTuples" "events" "[Lcom/example/tracewarden/tracewarden/engine/SearchTuples$Event;" (.ref xe)) (hp3 : fp 3 = (.int (1 : Int32))) (hp1 : fp 1 = (.int (0 : Int32))) (hp0 : fp 0 = (.int (-1 : Int32))) (he3 : fe 3 = (.ref y0)) (he1 : fe 1 = (.ref y1)) (E_y0 : Exa Z h0 y0 "com/example/tracewarden/tracewarden/engine/SearchTuples$Event") (E_y1 : Exa Z h0 y1 "com/example/tracewarden/tracewarden/engine/SearchTuples$Event") :
    MetFree l (⟨"com/example/tracewarden/tracewarden/engine/SearchTuples", "path", "(I)[Lcom/example/tracewarden/tracewarden/engine/SearchTuples$Event;"⟩ : MethodName) (head1 (Jvm.Cond.code (⟨"com/example/tracewarden/tracewarden/engine/SearchTuples", "path", "(I)[Lcom/example/tracewarden/tracewarden/engine/SearchTuples$Event;"⟩ : MethodName) prog_86_method_22_code 6 (some (.array (.object "com/example/tracewarden/tracewarden/engine/SearchTuples$Event"))) :: ws) ({ frames := 0, cells := 1, slots := 2, locals := 0 } : Room)) (fun a U => a = #[(.ref a1), (.int (3 : Int32))] ∧ Z.Warmed39 U.vm ∧ U.heap = h0) (fun _ _ _ _ _ => True) (fun _ U o U' => ∃ v L, o = .returned v ∧ Q_rm14_310 Z a1 xp kp fp xe ke fe y0 y1 h0 n0 v U'.heap L ∧ FrameEnd U o U' L ({ frames := 0, cells := 1, slots := 2, locals := 0 } : Room).cells ({ frames := 0, cells := 1, slots := 2, locals := 0 } : Room).slots) := by
  refine MetFree.of_bodySF (plainFor_of_name pn_95) hisR ?_
  intro p e s m args below meth c s₁ Bd hml0 hP hK
  obtain ⟨rfl, hZ, hh⟩ := hP
  have hx := Bd.exec
  have hby := Bd.bytes
  have hml : c.maxLocals = 6 := hml0
  have hown : s.vm.findClass "com/example/tracewarden/tracewarden/engine/SearchTuples" = some m.cls := findClass_of_methodNamed Bd.named
  have hnm := (name_of_methodNamed Bd.named Bd.method).1
  have X0 : Stand p l e ({ frames := 0, cells := 1, slots := 2, locals := 0 } : Room) s m #[(.ref a1), (.int (3 : Int32))] below meth c s₁ [] 0 0 := Stand.of_body Bd
  have e0 : s₁.heap = h0 := by rw [← hh, Bd.state]; rfl
  have N0 := Fr.nil n0
  show Go p e below (s₁.setTop (entryFrame m #[(.ref a1), (.int (3 : Int32))] 6)) (fun o U' => ∃ v L, o = .returned v ∧ Q_rm14_310 Z a1 xp kp fp xe ke fe y0 y1 h0 n0 v U'.heap L ∧ FrameEnd s o U' L ({ frames := 0, cells := 1, slots := 2, locals := 0 } : Room).cells ({ frames := 0, cells := 1, slots := 2, locals := 0 } : Room).slots)
  rw [ef_rm14_310]
  refine Gk.iconst X0 hx (hb hby d14_0) (0 : Int32) rfl ?_
  refine Gk.istoreN X0 hx (hb hby d14_1) #[.val (.ref a1), .val (.int (3 : Int32)), .val (.int (0 : Int32)), .unset, .unset, .unset] rfl ?_
  refine Gk.iloadN X0 hx (hb hby d14_2) rfl ?_
  refine Gk.istoreN X0 hx (hb hby d14_3) #[.val (.ref a1), .val (.int (3 : Int32)), .val (.int (0 : Int32)), .val (.int (3 : Int32)), .unset, .unset] rfl ?_
  refine Gk.aloadN X0 hx (hb hby d14_4) rfl rfl ?_
  refine Gk.getF X0 hx hZ hown (host := "") (Or.inl (hw _ (List.mem_of_getElem? (i := 52) rfl))) Via.refl e0 F_parents (hb hby d14_5) ?_
  intro T1 X1 e1
  refine Gk.iloadN X1 hx (hb hby d14_8) rfl ?_
  refine Gk.iaload X1 hx hZ e1 V_p ⟨by decide, by decide⟩ (.int (1 : Int32)) hp3 (hb hby d14_9) ?_
  refine Gk.ifNo X1 hx (hb hby d14_10) (flt (by decide : ¬ ((1 : Int32) < (0 : Int32)))).1 ?_
  refine Gk.iinc X1 hx (hb hby d14_13) rfl #[.val (.ref a1), .val (.int (3 : Int32)), .val (.int (1 : Int32)), .val (.int (3 : Int32)), .unset, .unset] rfl ?_
  refine Gk.aloadN X1 hx (hb hby d14_16) rfl rfl ?_
  refine Gk.getF X1 hx hZ hown (host := "") (Or.inl (hw _ (List.mem_of_getElem? (i := 52) rfl))) Via.refl e1 F_parents (hb hby d14_17) ?_
  intro T3 X3 e3
  refine Gk.iloadN X3 hx (hb hby d14_20) rfl ?_
  refine Gk.iaload X3 hx hZ e3 V_p ⟨by decide, by decide⟩ (.int (1 : Int32)) hp3 (hb hby d14_21) ?_
  refine Gk.istoreN X3 hx (hb hby d14_22) #[.val (.ref a1), .val (.int (3 : Int32)), .val (.int (1 : Int32)), .val (.int (1 : Int32)), .unset, .unset] rfl ?_
  refine Gk.goto X3 hx (hb hby d14_23) 4 (by decide) (by decide) ?_
  refine Gk.aloadN X3 hx (hb hby d14_4) rfl rfl ?_
  refine Gk.getF X3 hx hZ hown (host := "") (Or.inl (hw _ (List.mem_of_getElem? (i := 52) rfl))) Via.refl e3 F_parents (hb hby d14_5) ?_
  intro T5 X5 e5
  refine Gk.iloadN X5 hx (hb hby d14_8) rfl ?_
  refine Gk.iaload X5 hx hZ e5 V_p ⟨by decide, by decide⟩ (.int (0 : Int32)) hp1 (hb hby d14_9) ?_
  refine Gk.ifNo X5 hx (hb hby d14_10) (flt (by decide : ¬ ((0 : Int32) < (0 : Int32)))).1 ?_
  refine Gk.iinc X5 hx (hb hby d14_13) rfl #[.val (.ref a1), .val (.int (3 : Int32)), .val (.int (2 : Int32)), .val (.int (1 : Int32)), .unset, .unset] rfl ?_
  refine Gk.aloadN X5 hx (hb hby d14_16) rfl rfl ?_
  refine Gk.getF X5 hx hZ hown (host := "") (Or.inl (hw _ (List.mem_of_getElem? (i := 52) rfl))) Via.refl e5 F_parents (hb hby d14_17) ?_
  intro T7 X7 e7
  refine Gk.iloadN X7 hx (hb hby d14_20) rfl ?_
  refine Gk.iaload X7 hx hZ e7 V_p ⟨by decide, by decide⟩ (.int (0 : Int32)) hp1 (hb hby d14_21) ?_
  refine Gk.istoreN X7 hx (hb hby d14_22) #[.val (.ref a1), .val (.int (3 : Int32)), .val (.int (2 : Int32)), .val (.int (0 : Int32)), .unset, .unset] rfl ?_
  refine Gk.goto X7 hx (hb hby d14_23) 4 (by decide) (by decide) ?_
  refine Gk.aloadN X7 hx (hb hby d14_4) rfl rfl ?_
  refine Gk.getF X7 hx hZ hown (host := "") (Or.inl (hw _ (List.mem_of_getElem? (i := 52) rfl))) Via.refl e7 F_parents (hb hby d14_5) ?_
  intro T9 X9 e9
  refine Gk.iloadN X9 hx (hb hby d14_8) rfl ?_
  refine Gk.iaload X9 hx hZ e9 V_p ⟨by decide, by decide⟩ (.int (-1 : Int32)) hp0 (hb hby d14_9) ?_
  refine Gk.ifYes X9 hx (hb hby d14_10) (tlt (by decide : (-1 : Int32) < (0 : Int32))).1 26 (by decide) (by decide) ?_
  refine Gk.iloadN X9 hx (hb hby d14_26) rfl ?_
  refine Gk.newR X9 hx hZ hown (hw _ (List.mem_of_getElem? (i := 54) rfl)) (hw _ (List.mem_of_getElem? (i := 3) rfl)) e9 (hb hby d14_27) (by decide) (cap := 2) (by decide) (by decide) (by decide) (by decide) rfl ?_
  intro T11 h11 b11 k11 X11 e11 E11 g11 A11 B11 O11
  have g_b11 : n0 ≤ b11 := Nat.le_trans Z0 (Nat.le_of_eq g11.symm)
  have V_b11 : Arf Z h11 b11 k11 (.object "com/example/tracewarden/tracewarden/engine/SearchTuples$Event") (2 : Int32) (fun _ => .null) := A11
  have lt_b11 := V_b11.lt
  refine Gk.astoreN X11 hx (hb hby d14_30) rfl #[.val (.ref a1), .val (.int (3 : Int32)), .val (.int (2 : Int32)), .val (.ref b11), .unset, .unset] rfl ?_
  refine Gk.iloadN X11 hx (hb hby d14_31) rfl ?_
  refine Gk.istore X11 hx (hb hby d14_32) #[.val (.ref a1), .val (.int (3 : Int32)), .val (.int (2 : Int32)), .val (.ref b11), .val (.int (3 : Int32)), .unset] rfl ?_
  refine Gk.iloadN X11 hx (hb hby d14_34) rfl ?_
  refine Gk.iconst X11 hx (hb hby d14_35) (1 : Int32) rfl ?_
  refine Gk.isub X11 hx (hb hby d14_36) (1 : Int32) (by decide) ?_
  refine Gk.istore X11 hx (hb hby d14_37) #[.val (.ref a1), .val (.int (3 : Int32)), .val (.int (2 : Int32)), .val (.ref b11), .val (.int (3 : Int32)), .val (.int (1 : Int32))] rfl ?_
  refine Gk.iload X11 hx (hb hby d14_39) rfl ?_
  refine Gk.ifNo X11 hx (hb hby d14_41) (flt (by decide : ¬ ((1 : Int32) < (0 : Int32)))).1 ?_
  refine Gk.aloadN X11 hx (hb hby d14_44) rfl rfl ?_
  refine Gk.iload X11 hx (hb hby d14_45) rfl ?_
  refine Gk.aloadN X11 hx (hb hby d14_47) rfl rfl ?_
  have H12 := (F_events.ext E11)
  refine Gk.getF X11 hx hZ hown (host := "") (Or.inl (hw _ (List.mem_of_getElem? (i := 55) rfl))) Via.refl e11 H12 (hb hby d14_48) ?_
  intro T13 X13 e13
  refine Gk.iload X13 hx (hb hby d14_51) rfl ?_
  have H15 := (V_e.ext E11)
  refine Gk.aaload X13 hx hZ e13 H15 rfl ⟨by decide, by decide⟩ (.ref y0) he3 (hb hby d14_53) ?_
  have H17 := (E_y0.ext E11)
  refine Gk.aastore X13 hx hZ e13 V_b11 1 rfl ⟨by decide, by decide⟩ rfl rfl (Or.inr ⟨_, _, rfl, O11, Ins.self H17⟩) (hb hby d14_54) ?_
  intro T16 h16 X16 e16 W16 V16
  have N16 := Fr.snoc X16 N0 g_b11
  refine Gk.aloadN X16 hx (hb hby d14_55) rfl rfl ?_
  have ne18 : a1 ≠ b11 := (Nat.ne_of_lt (Nat.lt_of_lt_of_le F_parents.lt (Nat.le_of_eq g11.symm)))
  have H19 := ((F_parents.ext E11).other W16 (Or.inl ne18))
  refine Gk.getF X16 hx hZ hown (host := "") (Or.inl (hw _ (List.mem_of_getElem? (i := 52) rfl))) Via.refl e16 H19 (hb hby d14_56) ?_
  intro T20 X20 e20
  refine Gk.iload X20 hx (hb hby d14_59) rfl ?_
  have ne22 : xp ≠ b11 := (Nat.ne_of_lt (Nat.lt_of_lt_of_le V_p.lt (Nat.le_trans (Nat.le_refl _) (Nat.le_of_eq g11.symm))))
  have H23 := ((V_p.ext E11).other W16 ne22)
  refine Gk.iaload X20 hx hZ e20 H23 ⟨by decide, by decide⟩ (.int (1 : Int32)) hp3 (hb hby d14_61) ?_
  refine Gk.istore X20 hx (hb hby d14_62) #[.val (.ref a1), .val (.int (3 : Int32)), .val (.int (2 : Int32)), .val (.ref b11), .val (.int (1 : Int32)), .val (.int (1 : Int32))] rfl ?_
  refine Gk.iinc X20 hx (hb hby d14_64) rfl #[.val (.ref a1), .val (.int (3 : Int32)), .val (.int (2 : Int32)), .val (.ref b11), .val (.int (1 : Int32)), .val (.int (0 : Int32))] rfl ?_
  refine Gk.goto X20 hx (hb hby d14_67) 39 (by decide) (by decide) ?_
  refine Gk.iload X20 hx (hb hby d14_39) rfl ?_
  refine Gk.ifNo X20 hx (hb hby d14_41) (flt (by decide : ¬ ((0 : Int32) < (0 : Int32)))).1 ?_
  refine Gk.aloadN X20 hx (hb hby d14_44) rfl rfl ?_
  refine Gk.iload X20 hx (hb hby d14_45) rfl ?_
  refine Gk.aloadN X20 hx (hb hby d14_47) rfl rfl ?_
  have H24 := (H12.other W16 (Or.inl ne18))
  refine Gk.getF X20 hx hZ hown (host := "") (Or.inl (hw _ (List.mem_of_getElem? (i := 55) rfl))) Via.refl e20 H24 (hb hby d14_48) ?_
  intro T25 X25 e25
  refine Gk.iload X25 hx (hb hby d14_51) rfl ?_
  have ne27 : xe ≠ b11 := (Nat.ne_of_lt (Nat.lt_of_lt_of_le V_e.lt (Nat.le_trans (Nat.le_refl _) (Nat.le_of_eq g11.symm))))
  have H28 := (H15.other W16 ne27)
  refine Gk.aaload X25 hx hZ e25 H28 rfl ⟨by decide, by decide⟩ (.ref y1) he1 (hb hby d14_53) ?_
  have H30 := ((E_y1.ext E11).wr W16)
  refine Gk.aastore X25 hx hZ e25 V16 0 rfl ⟨by decide, by decide⟩ rfl rfl (Or.inr ⟨_, _, rfl, O11, Ins.self H30⟩) (hb hby d14_54) ?_
  intro T29 h29 X29 e29 W29 V29
  have N29 := Fr.snoc X29 N16 g_b11
  refine Gk.aloadN X29 hx (hb hby d14_55) rfl rfl ?_
  have H31 := (H19.other W29 (Or.inl ne18))
  refine Gk.getF X29 hx hZ hown (host := "") (Or.inl (hw _ (List.mem_of_getElem? (i := 52) rfl))) Via.refl e29 H31 (hb hby d14_56) ?_
  intro T32 X32 e32
  refine Gk.iload X32 hx (hb hby d14_59) rfl ?_
  have H34 := (H23.other W29 ne22)
  refine Gk.iaload X32 hx hZ e32 H34 ⟨by decide, by decide⟩ (.int (0 : Int32)) hp1 (hb hby d14_61) ?_
  refine Gk.istore X32 hx (hb hby d14_62) #[.val (.ref a1), .val (.int (3 : Int32)), .val (.int (2 : Int32)), .val (.ref b11), .val (.int (0 : Int32)), .val (.int (0 : Int32))] rfl ?_
  refine Gk.iinc X32 hx (hb hby d14_64) rfl #[.val (.ref a1), .val (.int (3 : Int32)), .val (.int (2 : Int32)), .val (.ref b11), .val (.int (0 : Int32)), .val (.int (-1 : Int32))] rfl ?_
  refine Gk.goto X32 hx (hb hby d14_67) 39 (by decide) (by decide) ?_
  refine Gk.iload X32 hx (hb hby d14_39) rfl ?_
  refine Gk.ifYes X32 hx (hb hby d14_41) (tlt (by decide : (-1 : Int32) < (0 : Int32))).1 70 (by decide) (by decide) ?_
  refine Gk.aloadN X32 hx (hb hby d14_70) rfl rfl ?_
  refine Go.fin X32 (v := some (.ref b11)) (fun h_ => by rw [Bd.returns] at h_; cases h_) Bd.notSynchronized (fun _ hr => retOut X32 hx Bd.returns rfl (Or.inr (Or.inr (Or.inr (Or.inr ⟨rfl, rfl, rfl⟩)))) (hb hby d14_71) hr) (fun U' hU hF => ⟨_, _, rfl, ?_, hF.1, hF.2.1, hF.2.2.mono (by decide) (by decide)⟩)
  rw [hU, e32]
  exact ⟨(congrArg (fun z_ : Addr => some (Value.ref z_)) (show b11 = h0.size from g11)), N29, ((((Keep.refl h0 []).ext E11).wr W16 (Or.inr (Nat.le_trans (Nat.le_refl _) (Nat.le_of_eq g11.symm)))).wr W29 (Or.inr (Nat.le_trans (Nat.le_refl _) (Nat.le_of_eq g11.symm)))), _, (g11 ▸ V29)⟩
theorem ef_rm14_32 (m : MethodId) (a1 : Addr) : entryFrame m #[(.ref a1), (.int (3 : Int32))] 6 = mkF m 0 #[.val (.ref a1), .val (.int (3 : Int32)), .unset, .unset, .unset, .unset] [] := by first | (simp [entryFrame, mkF, argsToLocals, Value.category]; done) | rfl
def Q_rm14_32 (Z : State) (a1 : Addr) (xp : Addr) (kp : ClassId) (fp : Nat → Value) (xe : Addr) (ke : ClassId) (fe : Nat → Value) (y0 : Addr) (h0 : Heap) (n0 : Nat) (v : Option Value) (h : Heap) (L : List Loc) : Prop := v = some (.ref h0.size) ∧ Fr n0 L ∧ Keep h0 h [] ∧ ∃ kr : ClassId, Arf Z h h0.size kr (.object "com/example/tracewarden/tracewarden/engine/SearchTuples$Event") (1 : Int32) (upd (fun _ => .null) 0 (.ref y0))
set_option maxRecDepth 65536 in
set_option maxHeartbeats 40000000 in
theorem rm14_32 (l : Launch) (Z : State) (a0 : Array Value) (hw : ∀ d ∈ tables_1, d.before a0 Z = true) (ws : List Jvm.Cond) (a1 : Addr) (xp : Addr) (kp : ClassId) (fp : Nat → Value) (xe : Addr) (ke : ClassId) (fe : Nat → Value) (y0 : Addr) (h0 : Heap) (n0 : Nat) (Z0 : n0 ≤ h0.size) (V_p : Arf Z h0 xp kp .int (16 : Int32) fp) (V_e : Arf Z h0 xe ke (.object "com/example/tracewarden/tracewarden/engine/SearchTuples$Event") (16 : Int32) fe) (F_parents : Fld Z h0 a1 "com/example/tracewarden/tracewarden/engine/SearchTuples" "parents" "[I" (.ref xp)) (F_events : Fld Z h0 a1 "com/example/tracewarden/tracewarden/engine/SearchTuples" "events" "[Lcom/example/tracewarden/tracewarden/engine/SearchTuples$Event;" (.ref xe)) (hp3 : fp 3 = (.int (2 : Int32))) (hp2 : fp 2 = (.int (-1 : Int32))) (he3 : fe 3 = (.ref y0)) (E_y0 : Exa Z h0 y0 "com/example/tracewarden/tracewarden/engine/SearchTuples$Event") :
    MetFree l (⟨"com/example/tracewarden/tracewarden/engine/SearchTuples", "path", "(I)[Lcom/example/tracewarden/tracewarden/engine/SearchTuples$Event;"⟩ : MethodName) (head1 (Jvm.Cond.code (⟨"com/example/tracewarden/tracewarden/engine/SearchTuples", "path", "(I)[Lcom/example/tracewarden/tracewarden/engine/SearchTuples$Event;"⟩ : MethodName) prog_86_method_22_code 6 (some (.array (.object "com/example/tracewarden/tracewarden/engine/SearchTuples$Event"))) :: ws) ({ frames := 0, cells := 1, slots := 1, locals := 0 } : Room)) (fun a U => a = #[(.ref a1), (.int (3 : Int32))] ∧ Z.Warmed39 U.vm ∧ U.heap = h0) (fun _ _ _ _ _ => True) (fun _ U o U' => ∃ v L, o = .returned v ∧ Q_rm14_32 Z a1 xp kp fp xe ke fe y0 h0 n0 v U'.heap L ∧ FrameEnd U o U' L ({ frames := 0, cells := 1, slots := 1, locals := 0 } : Room).cells ({ frames := 0, cells := 1, slots := 1, locals := 0 } : Room).slots) := by
  refine MetFree.of_bodySF (plainFor_of_name pn_95) hisR ?_
  intro p e s m args below meth c s₁ Bd hml0 hP hK
  obtain ⟨rfl, hZ, hh⟩ := hP
  have hx := Bd.exec
  have hby := Bd.bytes
  have hml : c.maxLocals = 6 := hml0
  have hown : s.vm.findClass "com/example/tracewarden/tracewarden/engine/SearchTuples" = some m.cls := findClass_of_methodNamed Bd.named
  have hnm := (name_of_methodNamed Bd.named Bd.method).1
  have X0 : Stand p l e ({ frames := 0, cells := 1, slots := 1, locals := 0 } : Room) s m #[(.ref a1), (.int (3 : Int32))] below meth c s₁ [] 0 0 := Stand.of_body Bd
  have e0 : s₁.heap = h0 := by rw [← hh, Bd.state]; rfl
  have N0 := Fr.nil n0
  show Go p e below (s₁.setTop (entryFrame m #[(.ref a1), (.int (3 : Int32))] 6)) (fun o U' => ∃ v L, o = .returned v ∧ Q_rm14_32 Z a1 xp kp fp xe ke fe y0 h0 n0 v U'.heap L ∧ FrameEnd s o U' L ({ frames := 0, cells := 1, slots := 1, locals := 0 } : Room).cells ({ frames := 0, cells := 1, slots := 1, locals := 0 } : Room).slots)
  rw [ef_rm14_32]
  refine Gk.iconst X0 hx (hb hby d14_0) (0 : Int32) rfl ?_
  refine Gk.istoreN X0 hx (hb hby d14_1) #[.val (.ref a1), .val (.int (3 : Int32)), .val (.int (0 : Int32)), .unset, .unset, .unset] rfl ?_
  refine Gk.iloadN X0 hx (hb hby d14_2) rfl ?_
  refine Gk.istoreN X0 hx (hb hby d14_3) #[.val (.ref a1), .val (.int (3 : Int32)), .val (.int (0 : Int32)), .val (.int (3 : Int32)), .unset, .unset] rfl ?_
  refine Gk.aloadN X0 hx (hb hby d14_4) rfl rfl ?_
  refine Gk.getF X0 hx hZ hown (host := "") (Or.inl (hw _ (List.mem_of_getElem? (i := 52) rfl))) Via.refl e0 F_parents (hb hby d14_5) ?_
  intro T1 X1 e1
  refine Gk.iloadN X1 hx (hb hby d14_8) rfl ?_
  refine Gk.iaload X1 hx hZ e1 V_p ⟨by decide, by decide⟩ (.int (2 : Int32)) hp3 (hb hby d14_9) ?_
  refine Gk.ifNo X1 hx (hb hby d14_10) (flt (by decide : ¬ ((2 : Int32) < (0 : Int32)))).1 ?_
  refine Gk.iinc X1 hx (hb hby d14_13) rfl #[.val (.ref a1), .val (.int (3 : Int32)), .val (.int (1 : Int32)), .val (.int (3 : Int32)), .unset, .unset] rfl ?_
  refine Gk.aloadN X1 hx (hb hby d14_16) rfl rfl ?_
  refine Gk.getF X1 hx hZ hown (host := "") (Or.inl (hw _ (List.mem_of_getElem? (i := 52) rfl))) Via.refl e1 F_parents (hb hby d14_17) ?_
  intro T3 X3 e3
  refine Gk.iloadN X3 hx (hb hby d14_20) rfl ?_
  refine Gk.iaload X3 hx hZ e3 V_p ⟨by decide, by decide⟩ (.int (2 : Int32)) hp3 (hb hby d14_21) ?_
  refine Gk.istoreN X3 hx (hb hby d14_22) #[.val (.ref a1), .val (.int (3 : Int32)), .val (.int (1 : Int32)), .val (.int (2 : Int32)), .unset, .unset] rfl ?_
  refine Gk.goto X3 hx (hb hby d14_23) 4 (by decide) (by decide) ?_
  refine Gk.aloadN X3 hx (hb hby d14_4) rfl rfl ?_
  refine Gk.getF X3 hx hZ hown (host := "") (Or.inl (hw _ (List.mem_of_getElem? (i := 52) rfl))) Via.refl e3 F_parents (hb hby d14_5) ?_
  intro T5 X5 e5
  refine Gk.iloadN X5 hx (hb hby d14_8) rfl ?_
  refine Gk.iaload X5 hx hZ e5 V_p ⟨by decide, by decide⟩ (.int (-1 : Int32)) hp2 (hb hby d14_9) ?_
  refine Gk.ifYes X5 hx (hb hby d14_10) (tlt (by decide : (-1 : Int32) < (0 : Int32))).1 26 (by decide) (by decide) ?_
  refine Gk.iloadN X5 hx (hb hby d14_26) rfl ?_
  refine Gk.newR X5 hx hZ hown (hw _ (List.mem_of_getElem? (i := 54) rfl)) (hw _ (List.mem_of_getElem? (i := 3) rfl)) e5 (hb hby d14_27) (by decide) (cap := 1) (by decide) (by decide) (by decide) (by decide) rfl ?_
  intro T7 h7 b7 k7 X7 e7 E7 g7 A7 B7 O7
  have g_b7 : n0 ≤ b7 := Nat.le_trans Z0 (Nat.le_of_eq g7.symm)
  have V_b7 : Arf Z h7 b7 k7 (.object "com/example/tracewarden/tracewarden/engine/SearchTuples$Event") (1 : Int32) (fun _ => .null) := A7
  have lt_b7 := V_b7.lt
  refine Gk.astoreN X7 hx (hb hby d14_30) rfl #[.val (.ref a1), .val (.int (3 : Int32)), .val (.int (1 : Int32)), .val (.ref b7), .unset, .unset] rfl ?_
  refine Gk.iloadN X7 hx (hb hby d14_31) rfl ?_
  refine Gk.istore X7 hx (hb hby d14_32) #[.val (.ref a1), .val (.int (3 : Int32)), .val (.int (1 : Int32)), .val (.ref b7), .val (.int (3 : Int32)), .unset] rfl ?_
  refine Gk.iloadN X7 hx (hb hby d14_34) rfl ?_
  refine Gk.iconst X7 hx (hb hby d14_35) (1 : Int32) rfl ?_
  refine Gk.isub X7 hx (hb hby d14_36) (0 : Int32) (by decide) ?_
  refine Gk.istore X7 hx (hb hby d14_37) #[.val (.ref a1), .val (.int (3 : Int32)), .val (.int (1 : Int32)), .val (.ref b7), .val (.int (3 : Int32)), .val (.int (0 : Int32))] rfl ?_
  refine Gk.iload X7 hx (hb hby d14_39) rfl ?_
  refine Gk.ifNo X7 hx (hb hby d14_41) (flt (by decide : ¬ ((0 : Int32) < (0 : Int32)))).1 ?_
  refine Gk.aloadN X7 hx (hb hby d14_44) rfl rfl ?_
  refine Gk.iload X7 hx (hb hby d14_45) rfl ?_
  refine Gk.aloadN X7 hx (hb hby d14_47) rfl rfl ?_
  have H8 := (F_events.ext E7)
  refine Gk.getF X7 hx hZ hown (host := "") (Or.inl (hw _ (List.mem_of_getElem? (i := 55) rfl))) Via.refl e7 H8 (hb hby d14_48) ?_
  intro T9 X9 e9
  refine Gk.iload X9 hx (hb hby d14_51) rfl ?_
  have H11 := (V_e.ext E7)
  refine Gk.aaload X9 hx hZ e9 H11 rfl ⟨by decide, by decide⟩ (.ref y0) he3 (hb hby d14_53) ?_
  have H13 := (E_y0.ext E7)
  refine Gk.aastore X9 hx hZ e9 V_b7 0 rfl ⟨by decide, by decide⟩ rfl rfl (Or.inr ⟨_, _, rfl, O7, Ins.self H13⟩) (hb hby d14_54) ?_
  intro T12 h12 X12 e12 W12 V12
  have N12 := Fr.snoc X12 N0 g_b7
  refine Gk.aloadN X12 hx (hb hby d14_55) rfl rfl ?_
  have ne14 : a1 ≠ b7 := (Nat.ne_of_lt (Nat.lt_of_lt_of_le F_parents.lt (Nat.le_of_eq g7.symm)))
  have H15 := ((F_parents.ext E7).other W12 (Or.inl ne14))
  refine Gk.getF X12 hx hZ hown (host := "") (Or.inl (hw _ (List.mem_of_getElem? (i := 52) rfl))) Via.refl e12 H15 (hb hby d14_56) ?_
  intro T16 X16 e16
  refine Gk.iload X16 hx (hb hby d14_59) rfl ?_
  have ne18 : xp ≠ b7 := (Nat.ne_of_lt (Nat.lt_of_lt_of_le V_p.lt (Nat.le_trans (Nat.le_refl _) (Nat.le_of_eq g7.symm))))
  have H19 := ((V_p.ext E7).other W12 ne18)
  refine Gk.iaload X16 hx hZ e16 H19 ⟨by decide, by decide⟩ (.int (2 : Int32)) hp3 (hb hby d14_61) ?_
  refine Gk.istore X16 hx (hb hby d14_62) #[.val (.ref a1), .val (.int (3 : Int32)), .val (.int (1 : Int32)), .val (.ref b7), .val (.int (2 : Int32)), .val (.int (0 : Int32))] rfl ?_
  refine Gk.iinc X16 hx (hb hby d14_64) rfl #[.val (.ref a1), .val (.int (3 : Int32)), .val (.int (1 : Int32)), .val (.ref b7), .val (.int (2 : Int32)), .val (.int (-1 : Int32))] rfl ?_
  refine Gk.goto X16 hx (hb hby d14_67) 39 (by decide) (by decide) ?_
  refine Gk.iload X16 hx (hb hby d14_39) rfl ?_
  refine Gk.ifYes X16 hx (hb hby d14_41) (tlt (by decide : (-1 : Int32) < (0 : Int32))).1 70 (by decide) (by decide) ?_
  refine Gk.aloadN X16 hx (hb hby d14_70) rfl rfl ?_
  refine Go.fin X16 (v := some (.ref b7)) (fun h_ => by rw [Bd.returns] at h_; cases h_) Bd.notSynchronized (fun _ hr => retOut X16 hx Bd.returns rfl (Or.inr (Or.inr (Or.inr (Or.inr ⟨rfl, rfl, rfl⟩)))) (hb hby d14_71) hr) (fun U' hU hF => ⟨_, _, rfl, ?_, hF.1, hF.2.1, hF.2.2.mono (by decide) (by decide)⟩)
  rw [hU, e16]
  exact ⟨(congrArg (fun z_ : Addr => some (Value.ref z_)) (show b7 = h0.size from g7)), N12, (((Keep.refl h0 []).ext E7).wr W12 (Or.inr (Nat.le_trans (Nat.le_refl _) (Nat.le_of_eq g7.symm)))), _, (g7 ▸ V12)⟩
theorem ef_rm14_320 (m : MethodId) (a1 : Addr) : entryFrame m #[(.ref a1), (.int (3 : Int32))] 6 = mkF m 0 #[.val (.ref a1), .val (.int (3 : Int32)), .unset, .unset, .unset, .unset] [] := by first | (simp [entryFrame, mkF, argsToLocals, Value.category]; done) | rfl
def Q_rm14_320 (Z : State) (a1 : Addr) (xp : Addr) (kp : ClassId) (fp : Nat → Value) (xe : Addr) (ke : ClassId) (fe : Nat → Value) (y0 : Addr) (y1 : Addr) (h0 : Heap) (n0 : Nat) (v : Option Value) (h : Heap) (L : List Loc) : Prop := v = some (.ref h0.size) ∧ Fr n0 L ∧ Keep h0 h [] ∧ ∃ kr : ClassId, Arf Z h h0.size kr (.object "com/example/tracewarden/tracewarden/engine/SearchTuples$Event") (2 : Int32) (upd (upd (fun _ => .null) 1 (.ref y0)) 0 (.ref y1))
set_option maxRecDepth 65536 in
set_option maxHeartbeats 40000000 in
theorem rm14_320 (l : Launch) (Z : State) (a0 : Array Value) (hw : ∀ d ∈ tables_1, d.before a0 Z = true) (ws : List Jvm.Cond) (a1 : Addr) (xp : Addr) (kp : ClassId) (fp : Nat → Value) (xe : Addr) (ke : ClassId) (fe : Nat → Value) (y0 : Addr) (y1 : Addr) (h0 : Heap) (n0 : Nat) (Z0 : n0 ≤ h0.size) (V_p : Arf Z h0 xp kp .int (16 : Int32) fp) (V_e : Arf Z h0 xe ke (.object "com/example/tracewarden/tracewarden/engine/SearchTuples$Event") (16 : Int32) fe) (F_parents : Fld Z h0 a1 "com/example/tracewarden/tracewarden/engine/SearchTuples" "parents" "[I" (.ref xp)) (F_events : Fld Z h0 a1 "com/example/tracewarden/tracewarden/engine/SearchTuples" "events" "[Lcom/example/tracewarden/tracewarden/engine/SearchTuples$Event;" (.ref xe)) (hp3 : fp 3 = (.int (2 : Int32))) (hp2 : fp 2 = (.int (0 : Int32))) (hp0 : fp 0 = (.int (-1 : Int32))) (he3 : fe 3 = (.ref y0)) (he2 : fe 2 = (.ref y1)) (E_y0 : Exa Z h0 y0 "com/example/tracewarden/tracewarden/engine/SearchTuples$Event") (E_y1 : Exa Z h0 y1 "com/example/tracewarden/tracewarden/engine/SearchTuples$Event") :
    MetFree l (⟨"com/example/tracewarden/tracewarden/engine/SearchTuples", "path", "(I)[Lcom/example/tracewarden/tracewarden/engine/SearchTuples$Event;"⟩ : MethodName) (head1 (Jvm.Cond.code (⟨"com/example/tracewarden/tracewarden/engine/SearchTuples", "path", "(I)[Lcom/example/tracewarden/tracewarden/engine/SearchTuples$Event;"⟩ : MethodName) prog_86_method_22_code 6 (some (.array (.object "com/example/tracewarden/tracewarden/engine/SearchTuples$Event"))) :: ws) ({ frames := 0, cells := 1, slots := 2, locals := 0 } : Room)) (fun a U => a = #[(.ref a1), (.int (3 : Int32))] ∧ Z.Warmed39 U.vm ∧ U.heap = h0) (fun _ _ _ _ _ => True) (fun _ U o U' => ∃ v L, o = .returned v ∧ Q_rm14_320 Z a1 xp kp fp xe ke fe y0 y1 h0 n0 v U'.heap L ∧ FrameEnd U o U' L ({ frames := 0, cells := 1, slots := 2, locals := 0 } : Room).cells ({ frames := 0, cells := 1, slots := 2, locals := 0 } : Room).slots) := by
  refine MetFree.of_bodySF (plainFor_of_name pn_95) hisR ?_
  intro p e s m args below meth c s₁ Bd hml0 hP hK
  obtain ⟨rfl, hZ, hh⟩ := hP
  have hx := Bd.exec
  have hby := Bd.bytes
  have hml : c.maxLocals = 6 := hml0
  have hown : s.vm.findClass "com/example/tracewarden/tracewarden/engine/SearchTuples" = some m.cls := findClass_of_methodNamed Bd.named
  have hnm := (name_of_methodNamed Bd.named Bd.method).1
  have X0 : Stand p l e ({ frames := 0, cells := 1, slots := 2, locals := 0 } : Room) s m #[(.ref a1), (.int (3 : Int32))] below meth c s₁ [] 0 0 := Stand.of_body Bd
  have e0 : s₁.heap = h0 := by rw [← hh, Bd.state]; rfl
  have N0 := Fr.nil n0
  show Go p e below (s₁.setTop (entryFrame m #[(.ref a1), (.int (3 : Int32))] 6)) (fun o U' => ∃ v L, o = .returned v ∧ Q_rm14_320 Z a1 xp kp fp xe ke fe y0 y1 h0 n0 v U'.heap L ∧ FrameEnd s o U' L ({ frames := 0, cells := 1, slots := 2, locals := 0 } : Room).cells ({ frames := 0, cells := 1, slots := 2, locals := 0 } : Room).slots)
  rw [ef_rm14_320]
  refine Gk.iconst X0 hx (hb hby d14_0) (0 : Int32) rfl ?_
  refine Gk.istoreN X0 hx (hb hby d14_1) #[.val (.ref a1), .val (.int (3 : Int32)), .val (.int (0 : Int32)), .unset, .unset, .unset] rfl ?_
  refine Gk.iloadN X0 hx (hb hby d14_2) rfl ?_
  refine Gk.istoreN X0 hx (hb hby d14_3) #[.val (.ref a1), .val (.int (3 : Int32)), .val (.int (0 : Int32)), .val (.int (3 : Int32)), .unset, .unset] rfl ?_
  refine Gk.aloadN X0 hx (hb hby d14_4) rfl rfl ?_
  refine Gk.getF X0 hx hZ hown (host := "") (Or.inl (hw _ (List.mem_of_getElem? (i := 52) rfl))) Via.refl e0 F_parents (hb hby d14_5) ?_
  intro T1 X1 e1
  refine Gk.iloadN X1 hx (hb hby d14_8) rfl ?_
  refine Gk.iaload X1 hx hZ e1 V_p ⟨by decide, by decide⟩ (.int (2 : Int32)) hp3 (hb hby d14_9) ?_
  refine Gk.ifNo X1 hx (hb hby d14_10) (flt (by decide : ¬ ((2 : Int32) < (0 : Int32)))).1 ?_
  refine Gk.iinc X1 hx (hb hby d14_13) rfl #[.val (.ref a1), .val (.int (3 : Int32)), .val (.int (1 : Int32)), .val (.int (3 : Int32)), .unset, .unset] rfl ?_
  refine Gk.aloadN X1 hx (hb hby d14_16) rfl rfl ?_
  refine Gk.getF X1 hx hZ hown (host := "") (Or.inl (hw _ (List.mem_of_getElem? (i := 52) rfl))) Via.refl e1 F_parents (hb hby d14_17) ?_
  intro T3 X3 e3
  refine Gk.iloadN X3 hx (hb hby d14_20) rfl ?_
  refine Gk.iaload X3 hx hZ e3 V_p ⟨by decide, by decide⟩ (.int (2 : Int32)) hp3 (hb hby d14_21) ?_
  refine Gk.istoreN X3 hx (hb hby d14_22) #[.val (.ref a1), .val (.int (3 : Int32)), .val (.int (1 : Int32)), .val (.int (2 : Int32)), .unset, .unset] rfl ?_
  refine Gk.goto X3 hx (hb hby d14_23) 4 (by decide) (by decide) ?_
  refine Gk.aloadN X3 hx (hb hby d14_4) rfl rfl ?_
  refine Gk.getF X3 hx hZ hown (host := "") (Or.inl (hw _ (List.mem_of_getElem? (i := 52) rfl))) Via.refl e3 F_parents (hb hby d14_5) ?_
  intro T5 X5 e5
  refine Gk.iloadN X5 hx (hb hby d14_8) rfl ?_
  refine Gk.iaload X5 hx hZ e5 V_p ⟨by decide, by decide⟩ (.int (0 : Int32)) hp2 (hb hby d14_9) ?_
  refine Gk.ifNo X5 hx (hb hby d14_10) (flt (by decide : ¬ ((0 : Int32) < (0 : Int32)))).1 ?_
  refine Gk.iinc X5 hx (hb hby d14_13) rfl #[.val (.ref a1), .val (.int (3 : Int32)), .val (.int (2 : Int32)), .val (.int (2 : Int32)), .unset, .unset] rfl ?_
  refine Gk.aloadN X5 hx (hb hby d14_16) rfl rfl ?_
  refine Gk.getF X5 hx hZ hown (host := "") (Or.inl (hw _ (List.mem_of_getElem? (i := 52) rfl))) Via.refl e5 F_parents (hb hby d14_17) ?_
  intro T7 X7 e7
  refine Gk.iloadN X7 hx (hb hby d14_20) rfl ?_
  refine Gk.iaload X7 hx hZ e7 V_p ⟨by decide, by decide⟩ (.int (0 : Int32)) hp2 (hb hby d14_21) ?_
  refine Gk.istoreN X7 hx (hb hby d14_22) #[.val (.ref a1), .val (.int (3 : Int32)), .val (.int (2 : Int32)), .val (.int (0 : Int32)), .unset, .unset] rfl ?_
  refine Gk.goto X7 hx (hb hby d14_23) 4 (by decide) (by decide) ?_
  refine Gk.aloadN X7 hx (hb hby d14_4) rfl rfl ?_
  refine Gk.getF X7 hx hZ hown (host := "") (Or.inl (hw _ (List.mem_of_getElem? (i := 52) rfl))) Via.refl e7 F_parents (hb hby d14_5) ?_
  intro T9 X9 e9
  refine Gk.iloadN X9 hx (hb hby d14_8) rfl ?_
  refine Gk.iaload X9 hx hZ e9 V_p ⟨by decide, by decide⟩ (.int (-1 : Int32)) hp0 (hb hby d14_9) ?_
  refine Gk.ifYes X9 hx (hb hby d14_10) (tlt (by decide : (-1 : Int32) < (0 : Int32))).1 26 (by decide) (by decide) ?_
  refine Gk.iloadN X9 hx (hb hby d14_26) rfl ?_
  refine Gk.newR X9 hx hZ hown (hw _ (List.mem_of_getElem? (i := 54) rfl)) (hw _ (List.mem_of_getElem? (i := 3) rfl)) e9 (hb hby d14_27) (by decide) (cap := 2) (by decide) (by decide) (by decide) (by decide) rfl ?_
  intro T11 h11 b11 k11 X11 e11 E11 g11 A11 B11 O11
  have g_b11 : n0 ≤ b11 := Nat.le_trans Z0 (Nat.le_of_eq g11.symm)
  have V_b11 : Arf Z h11 b11 k11 (.object "com/example/tracewarden/tracewarden/engine/SearchTuples$Event") (2 : Int32) (fun _ => .null) := A11
  have lt_b11 := V_b11.lt
  refine Gk.astoreN X11 hx (hb hby d14_30) rfl #[.val (.ref a1), .val (.int (3 : Int32)), .val (.int (2 : Int32)), .val (.ref b11), .unset, .unset] rfl ?_
  refine Gk.iloadN X11 hx (hb hby d14_31) rfl ?_
  refine Gk.istore X11 hx (hb hby d14_32) #[.val (.ref a1), .val (.int (3 : Int32)), .val (.int (2 : Int32)), .val (.ref b11), .val (.int (3 : Int32)), .unset] rfl ?_
  refine Gk.iloadN X11 hx (hb hby d14_34) rfl ?_
  refine Gk.iconst X11 hx (hb hby d14_35) (1 : Int32) rfl ?_
  refine Gk.isub X11 hx (hb hby d14_36) (1 : Int32) (by decide) ?_
  refine Gk.istore X11 hx (hb hby d14_37) #[.val (.ref a1), .val (.int (3 : Int32)), .val (.int (2 : Int32)), .val (.ref b11), .val (.int (3 : Int32)), .val (.int (1 : Int32))] rfl ?_
  refine Gk.iload X11 hx (hb hby d14_39) rfl ?_
  refine Gk.ifNo X11 hx (hb hby d14_41) (flt (by decide : ¬ ((1 : Int32) < (0 : Int32)))).1 ?_
  refine Gk.aloadN X11 hx (hb hby d14_44) rfl rfl ?_
  refine Gk.iload X11 hx (hb hby d14_45) rfl ?_
  refine Gk.aloadN X11 hx (hb hby d14_47) rfl rfl ?_
  have H12 := (F_events.ext E11)
  refine Gk.getF X11 hx hZ hown (host := "") (Or.inl (hw _ (List.mem_of_getElem? (i := 55) rfl))) Via.refl e11 H12 (hb hby d14_48) ?_
  intro T13 X13 e13
  refine Gk.iload X13 hx (hb hby d14_51) rfl ?_
  have H15 := (V_e.ext E11)
  refine Gk.aaload X13 hx hZ e13 H15 rfl ⟨by decide, by decide⟩ (.ref y0) he3 (hb hby d14_53) ?_
  have H17 := (E_y0.ext E11)
  refine Gk.aastore X13 hx hZ e13 V_b11 1 rfl ⟨by decide, by decide⟩ rfl rfl (Or.inr ⟨_, _, rfl, O11, Ins.self H17⟩) (hb hby d14_54) ?_
  intro T16 h16 X16 e16 W16 V16
  have N16 := Fr.snoc X16 N0 g_b11
  refine Gk.aloadN X16 hx (hb hby d14_55) rfl rfl ?_
  have ne18 : a1 ≠ b11 := (Nat.ne_of_lt (Nat.lt_of_lt_of_le F_parents.lt (Nat.le_of_eq g11.symm)))
  have H19 := ((F_parents.ext E11).other W16 (Or.inl ne18))
  refine Gk.getF X16 hx hZ hown (host := "") (Or.inl (hw _ (List.mem_of_getElem? (i := 52) rfl))) Via.refl e16 H19 (hb hby d14_56) ?_
  intro T20 X20 e20
  refine Gk.iload X20 hx (hb hby d14_59) rfl ?_
  have ne22 : xp ≠ b11 := (Nat.ne_of_lt (Nat.lt_of_lt_of_le V_p.lt (Nat.le_trans (Nat.le_refl _) (Nat.le_of_eq g11.symm))))
  have H23 := ((V_p.ext E11).other W16 ne22)
  refine Gk.iaload X20 hx hZ e20 H23 ⟨by decide, by decide⟩ (.int (2 : Int32)) hp3 (hb hby d14_61) ?_
  refine Gk.istore X20 hx (hb hby d14_62) #[.val (.ref a1), .val (.int (3 : Int32)), .val (.int (2 : Int32)), .val (.ref b11), .val (.int (2 : Int32)), .val (.int (1 : Int32))] rfl ?_
  refine Gk.iinc X20 hx (hb hby d14_64) rfl #[.val (.ref a1), .val (.int (3 : Int32)), .val (.int (2 : Int32)), .val (.ref b11), .val (.int (2 : Int32)), .val (.int (0 : Int32))] rfl ?_
  refine Gk.goto X20 hx (hb hby d14_67) 39 (by decide) (by decide) ?_
  refine Gk.iload X20 hx (hb hby d14_39) rfl ?_
  refine Gk.ifNo X20 hx (hb hby d14_41) (flt (by decide : ¬ ((0 : Int32) < (0 : Int32)))).1 ?_
  refine Gk.aloadN X20 hx (hb hby d14_44) rfl rfl ?_
  refine Gk.iload X20 hx (hb hby d14_45) rfl ?_
  refine Gk.aloadN X20 hx (hb hby d14_47) rfl rfl ?_
  have H24 := (H12.other W16 (Or.inl ne18))
  refine Gk.getF X20 hx hZ hown (host := "") (Or.inl (hw _ (List.mem_of_getElem? (i := 55) rfl))) Via.refl e20 H24 (hb hby d14_48) ?_
  intro T25 X25 e25
  refine Gk.iload X25 hx (hb hby d14_51) rfl ?_
  have ne27 : xe ≠ b11 := (Nat.ne_of_lt (Nat.lt_of_lt_of_le V_e.lt (Nat.le_trans (Nat.le_refl _) (Nat.le_of_eq g11.symm))))
  have H28 := (H15.other W16 ne27)
  refine Gk.aaload X25 hx hZ e25 H28 rfl ⟨by decide, by decide⟩ (.ref y1) he2 (hb hby d14_53) ?_
  have H30 := ((E_y1.ext E11).wr W16)
  refine Gk.aastore X25 hx hZ e25 V16 0 rfl ⟨by decide, by decide⟩ rfl rfl (Or.inr ⟨_, _, rfl, O11, Ins.self H30⟩) (hb hby d14_54) ?_
  intro T29 h29 X29 e29 W29 V29
  have N29 := Fr.snoc X29 N16 g_b11
  refine Gk.aloadN X29 hx (hb hby d14_55) rfl rfl ?_
  have H31 := (H19.other W29 (Or.inl ne18))
  refine Gk.getF X29 hx hZ hown (host := "") (Or.inl (hw _ (List.mem_of_getElem? (i := 52) rfl))) Via.refl e29 H31 (hb hby d14_56) ?_
  intro T32 X32 e32
  refine Gk.iload X32 hx (hb hby d14_59) rfl ?_
  have H34 := (H23.other W29 ne22)
  refine Gk.iaload X32 hx hZ e32 H34 ⟨by decide, by decide⟩ (.int (0 : Int32)) hp2 (hb hby d14_61) ?_
  refine Gk.istore X32 hx (hb hby d14_62) #[.val (.ref a1), .val (.int (3 : Int32)), .val (.int (2 : Int32)), .val (.ref b11), .val (.int (0 : Int32)), .val (.int (0 : Int32))] rfl ?_
  refine Gk.iinc X32 hx (hb hby d14_64) rfl #[.val (.ref a1), .val (.int (3 : Int32)), .val (.int (2 : Int32)), .val (.ref b11), .val (.int (0 : Int32)), .val (.int (-1 : Int32))] rfl ?_
  refine Gk.goto X32 hx (hb hby d14_67) 39 (by decide) (by decide) ?_
  refine Gk.iload X32 hx (hb hby d14_39) rfl ?_
  refine Gk.ifYes X32 hx (hb hby d14_41) (tlt (by decide : (-1 : Int32) < (0 : Int32))).1 70 (by decide) (by decide) ?_
  refine Gk.aloadN X32 hx (hb hby d14_70) rfl rfl ?_
  refine Go.fin X32 (v := some (.ref b11)) (fun h_ => by rw [Bd.returns] at h_; cases h_) Bd.notSynchronized (fun _ hr => retOut X32 hx Bd.returns rfl (Or.inr (Or.inr (Or.inr (Or.inr ⟨rfl, rfl, rfl⟩)))) (hb hby d14_71) hr) (fun U' hU hF => ⟨_, _, rfl, ?_, hF.1, hF.2.1, hF.2.2.mono (by decide) (by decide)⟩)
  rw [hU, e32]
  exact ⟨(congrArg (fun z_ : Addr => some (Value.ref z_)) (show b11 = h0.size from g11)), N29, ((((Keep.refl h0 []).ext E11).wr W16 (Or.inr (Nat.le_trans (Nat.le_refl _) (Nat.le_of_eq g11.symm)))).wr W29 (Or.inr (Nat.le_trans (Nat.le_refl _) (Nat.le_of_eq g11.symm)))), _, (g11 ▸ V29)⟩
theorem ef_rm14_321 (m : MethodId) (a1 : Addr) : entryFrame m #[(.ref a1), (.int (3 : Int32))] 6 = mkF m 0 #[.val (.ref a1), .val (.int (3 : Int32)), .unset, .unset, .unset, .unset] [] := by first | (simp [entryFrame, mkF, argsToLocals, Value.category]; done) | rfl
def Q_rm14_321 (Z : State) (a1 : Addr) (xp : Addr) (kp : ClassId) (fp : Nat → Value) (xe : Addr) (ke : ClassId) (fe : Nat → Value) (y0 : Addr) (y1 : Addr) (h0 : Heap) (n0 : Nat) (v : Option Value) (h : Heap) (L : List Loc) : Prop := v = some (.ref h0.size) ∧ Fr n0 L ∧ Keep h0 h [] ∧ ∃ kr : ClassId, Arf Z h h0.size kr (.object "com/example/tracewarden/tracewarden/engine/SearchTuples$Event") (2 : Int32) (upd (upd (fun _ => .null) 1 (.ref y0)) 0 (.ref y1))
set_option maxRecDepth 65536 in
set_option maxHeartbeats 40000000 in
theorem rm14_321 (l : Launch) (Z : State) (a0 : Array Value) (hw : ∀ d ∈ tables_1, d.before a0 Z = true) (ws : List Jvm.Cond) (a1 : Addr) (xp : Addr) (kp : ClassId) (fp : Nat → Value) (xe : Addr) (ke : ClassId) (fe : Nat → Value) (y0 : Addr) (y1 : Addr) (h0 : Heap) (n0 : Nat) (Z0 : n0 ≤ h0.size) (V_p : Arf Z h0 xp kp .int (16 : Int32) fp) (V_e : Arf Z h0 xe ke (.object "com/example/tracewarden/tracewarden/engine/SearchTuples$Event") (16 : Int32) fe) (F_parents : Fld Z h0 a1 "com/example/tracewarden/tracewarden/engine/SearchTuples" "parents" "[I" (.ref xp)) (F_events : Fld Z h0 a1 "com/example/tracewarden/tracewarden/engine/SearchTuples" "events" "[Lcom/example/tracewarden/tracewarden/engine/SearchTuples$Event;" (.ref xe)) (hp3 : fp 3 = (.int (2 : Int32))) (hp2 : fp 2 = (.int (1 : Int32))) (hp1 : fp 1 = (.int (-1 : Int32))) (he3 : fe 3 = (.ref y0)) (he2 : fe 2 = (.ref y1)) (E_y0 : Exa Z h0 y0 "com/example/tracewarden/tracewarden/engine/SearchTuples$Event") (E_y1 : Exa Z h0 y1 "com/example/tracewarden/tracewarden/engine/SearchTuples$Event") :
    MetFree l (⟨"com/example/tracewarden/tracewarden/engine/SearchTuples", "path", "(I)[Lcom/example/tracewarden/tracewarden/engine/SearchTuples$Event;"⟩ : MethodName) (head1 (Jvm.Cond.code (⟨"com/example/tracewarden/tracewarden/engine/SearchTuples", "path", "(I)[Lcom/example/tracewarden/tracewarden/engine/SearchTuples$Event;"⟩ : MethodName) prog_86_method_22_code 6 (some (.array (.object "com/example/tracewarden/tracewarden/engine/SearchTuples$Event"))) :: ws) ({ frames := 0, cells := 1, slots := 2, locals := 0 } : Room)) (fun a U => a = #[(.ref a1), (.int (3 : Int32))] ∧ Z.Warmed39 U.vm ∧ U.heap = h0) (fun _ _ _ _ _ => True) (fun _ U o U' => ∃ v L, o = .returned v ∧ Q_rm14_321 Z a1 xp kp fp xe ke fe y0 y1 h0 n0 v U'.heap L ∧ FrameEnd U o U' L ({ frames := 0, cells := 1, slots := 2, locals := 0 } : Room).cells ({ frames := 0, cells := 1, slots := 2, locals := 0 } : Room).slots) := by
  refine MetFree.of_bodySF (plainFor_of_name pn_95) hisR ?_
  intro p e s m args below meth c s₁ Bd hml0 hP hK
  obtain ⟨rfl, hZ, hh⟩ := hP
  have hx := Bd.exec
  have hby := Bd.bytes
  have hml : c.maxLocals = 6 := hml0
  have hown : s.vm.findClass "com/example/tracewarden/tracewarden/engine/SearchTuples" = some m.cls := findClass_of_methodNamed Bd.named
  have hnm := (name_of_methodNamed Bd.named Bd.method).1
  have X0 : Stand p l e ({ frames := 0, cells := 1, slots := 2, locals := 0 } : Room) s m #[(.ref a1), (.int (3 : Int32))] below meth c s₁ [] 0 0 := Stand.of_body Bd
  have e0 : s₁.heap = h0 := by rw [← hh, Bd.state]; rfl
  have N0 := Fr.nil n0
  show Go p e below (s₁.setTop (entryFrame m #[(.ref a1), (.int (3 : Int32))] 6)) (fun o U' => ∃ v L, o = .returned v ∧ Q_rm14_321 Z a1 xp kp fp xe ke fe y0 y1 h0 n0 v U'.heap L ∧ FrameEnd s o U' L ({ frames := 0, cells := 1, slots := 2, locals := 0 } : Room).cells ({ frames := 0, cells := 1, slots := 2, locals := 0 } : Room).slots)
  rw [ef_rm14_321]
  refine Gk.iconst X0 hx (hb hby d14_0) (0 : Int32) rfl ?_
  refine Gk.istoreN X0 hx (hb hby d14_1) #[.val (.ref a1), .val (.int (3 : Int32)), .val (.int (0 : Int32)), .unset, .unset, .unset] rfl ?_
  refine Gk.iloadN X0 hx (hb hby d14_2) rfl ?_
  refine Gk.istoreN X0 hx (hb hby d14_3) #[.val (.ref a1), .val (.int (3 : Int32)), .val (.int (0 : Int32)), .val (.int (3 : Int32)), .unset, .unset] rfl ?_
  refine Gk.aloadN X0 hx (hb hby d14_4) rfl rfl ?_
  refine Gk.getF X0 hx hZ hown (host := "") (Or.inl (hw _ (List.mem_of_getElem? (i := 52) rfl))) Via.refl e0 F_parents (hb hby d14_5) ?_
  intro T1 X1 e1
  refine Gk.iloadN X1 hx (hb hby d14_8) rfl ?_
  refine Gk.iaload X1 hx hZ e1 V_p ⟨by decide, by decide⟩ (.int (2 : Int32)) hp3 (hb hby d14_9) ?_
  refine Gk.ifNo X1 hx (hb hby d14_10) (flt (by decide : ¬ ((2 : Int32) < (0 : Int32)))).1 ?_
  refine Gk.iinc X1 hx (hb hby d14_13) rfl #[.val (.ref a1), .val (.int (3 : Int32)), .val (.int (1 : Int32)), .val (.int (3 : Int32)), .unset, .unset] rfl ?_
  refine Gk.aloadN X1 hx (hb hby d14_16) rfl rfl ?_
  refine Gk.getF X1 hx hZ hown (host := "") (Or.inl (hw _ (List.mem_of_getElem? (i := 52) rfl))) Via.refl e1 F_parents (hb hby d14_17) ?_
  intro T3 X3 e3
  refine Gk.iloadN X3 hx (hb hby d14_20) rfl ?_
  refine Gk.iaload X3 hx hZ e3 V_p ⟨by decide, by decide⟩ (.int (2 : Int32)) hp3 (hb hby d14_21) ?_
  refine Gk.istoreN X3 hx (hb hby d14_22) #[.val (.ref a1), .val (.int (3 : Int32)), .val (.int (1 : Int32)), .val (.int (2 : Int32)), .unset, .unset] rfl ?_
  refine Gk.goto X3 hx (hb hby d14_23) 4 (by decide) (by decide) ?_
  refine Gk.aloadN X3 hx (hb hby d14_4) rfl rfl ?_
  refine Gk.getF X3 hx hZ hown (host := "") (Or.inl (hw _ (List.mem_of_getElem? (i := 52) rfl))) Via.refl e3 F_parents (hb hby d14_5) ?_
  intro T5 X5 e5
  refine Gk.iloadN X5 hx (hb hby d14_8) rfl ?_
  refine Gk.iaload X5 hx hZ e5 V_p ⟨by decide, by decide⟩ (.int (1 : Int32)) hp2 (hb hby d14_9) ?_
  refine Gk.ifNo X5 hx (hb hby d14_10) (flt (by decide : ¬ ((1 : Int32) < (0 : Int32)))).1 ?_
  refine Gk.iinc X5 hx (hb hby d14_13) rfl #[.val (.ref a1), .val (.int (3 : Int32)), .val (.int (2 : Int32)), .val (.int (2 : Int32)), .unset, .unset] rfl ?_
  refine Gk.aloadN X5 hx (hb hby d14_16) rfl rfl ?_
  refine Gk.getF X5 hx hZ hown (host := "") (Or.inl (hw _ (List.mem_of_getElem? (i := 52) rfl))) Via.refl e5 F_parents (hb hby d14_17) ?_
  intro T7 X7 e7
  refine Gk.iloadN X7 hx (hb hby d14_20) rfl ?_
  refine Gk.iaload X7 hx hZ e7 V_p ⟨by decide, by decide⟩ (.int (1 : Int32)) hp2 (hb hby d14_21) ?_
  refine Gk.istoreN X7 hx (hb hby d14_22) #[.val (.ref a1), .val (.int (3 : Int32)), .val (.int (2 : Int32)), .val (.int (1 : Int32)), .unset, .unset] rfl ?_
  refine Gk.goto X7 hx (hb hby d14_23) 4 (by decide) (by decide) ?_
  refine Gk.aloadN X7 hx (hb hby d14_4) rfl rfl ?_
  refine Gk.getF X7 hx hZ hown (host := "") (Or.inl (hw _ (List.mem_of_getElem? (i := 52) rfl))) Via.refl e7 F_parents (hb hby d14_5) ?_
  intro T9 X9 e9
  refine Gk.iloadN X9 hx (hb hby d14_8) rfl ?_
  refine Gk.iaload X9 hx hZ e9 V_p ⟨by decide, by decide⟩ (.int (-1 : Int32)) hp1 (hb hby d14_9) ?_
  refine Gk.ifYes X9 hx (hb hby d14_10) (tlt (by decide : (-1 : Int32) < (0 : Int32))).1 26 (by decide) (by decide) ?_
  refine Gk.iloadN X9 hx (hb hby d14_26) rfl ?_
  refine Gk.newR X9 hx hZ hown (hw _ (List.mem_of_getElem? (i := 54) rfl)) (hw _ (List.mem_of_getElem? (i := 3) rfl)) e9 (hb hby d14_27) (by decide) (cap := 2) (by decide) (by decide) (by decide) (by decide) rfl ?_
  intro T11 h11 b11 k11 X11 e11 E11 g11 A11 B11 O11
  have g_b11 : n0 ≤ b11 := Nat.le_trans Z0 (Nat.le_of_eq g11.symm)
  have V_b11 : Arf Z h11 b11 k11 (.object "com/example/tracewarden/tracewarden/engine/SearchTuples$Event") (2 : Int32) (fun _ => .null) := A11
  have lt_b11 := V_b11.lt
  refine Gk.astoreN X11 hx (hb hby d14_30) rfl #[.val (.ref a1), .val (.int (3 : Int32)), .val (.int (2 : Int32)), .val (.ref b11), .unset, .unset] rfl ?_
  refine Gk.iloadN X11 hx (hb hby d14_31) rfl ?_
  refine Gk.istore X11 hx (hb hby d14_32) #[.val (.ref a1), .val (.int (3 : Int32)), .val (.int (2 : Int32)), .val (.ref b11), .val (.int (3 : Int32)), .unset] rfl ?_
  refine Gk.iloadN X11 hx (hb hby d14_34) rfl ?_
  refine Gk.iconst X11 hx (hb hby d14_35) (1 : Int32) rfl ?_
  refine Gk.isub X11 hx (hb hby d14_36) (1 : Int32) (by decide) ?_
  refine Gk.istore X11 hx (hb hby d14_37) #[.val (.ref a1), .val (.int (3 : Int32)), .val (.int (2 : Int32)), .val (.ref b11), .val (.int (3 : Int32)), .val (.int (1 : Int32))] rfl ?_
  refine Gk.iload X11 hx (hb hby d14_39) rfl ?_
  refine Gk.ifNo X11 hx (hb hby d14_41) (flt (by decide : ¬ ((1 : Int32) < (0 : Int32)))).1 ?_
  refine Gk.aloadN X11 hx (hb hby d14_44) rfl rfl ?_
  refine Gk.iload X11 hx (hb hby d14_45) rfl ?_
  refine Gk.aloadN X11 hx (hb hby d14_47) rfl rfl ?_
  have H12 := (F_events.ext E11)
  refine Gk.getF X11 hx hZ hown (host := "") (Or.inl (hw _ (List.mem_of_getElem? (i := 55) rfl))) Via.refl e11 H12 (hb hby d14_48) ?_
  intro T13 X13 e13
  refine Gk.iload X13 hx (hb hby d14_51) rfl ?_
  have H15 := (V_e.ext E11)
  refine Gk.aaload X13 hx hZ e13 H15 rfl ⟨by decide, by decide⟩ (.ref y0) he3 (hb hby d14_53) ?_
  have H17 := (E_y0.ext E11)
  refine Gk.aastore X13 hx hZ e13 V_b11 1 rfl ⟨by decide, by decide⟩ rfl rfl (Or.inr ⟨_, _, rfl, O11, Ins.self H17⟩) (hb hby d14_54) ?_
  intro T16 h16 X16 e16 W16 V16
  have N16 := Fr.snoc X16 N0 g_b11
  refine Gk.aloadN X16 hx (hb hby d14_55) rfl rfl ?_
  have ne18 : a1 ≠ b11 := (Nat.ne_of_lt (Nat.lt_of_lt_of_le F_parents.lt (Nat.le_of_eq g11.symm)))
  have H19 := ((F_parents.ext E11).other W16 (Or.inl ne18))
  refine Gk.getF X16 hx hZ hown (host := "") (Or.inl (hw _ (List.mem_of_getElem? (i := 52) rfl))) Via.refl e16 H19 (hb hby d14_56) ?_
  intro T20 X20 e20
  refine Gk.iload X20 hx (hb hby d14_59) rfl ?_
  have ne22 : xp ≠ b11 := (Nat.ne_of_lt (Nat.lt_of_lt_of_le V_p.lt (Nat.le_trans (Nat.le_refl _) (Nat.le_of_eq g11.symm))))
  have H23 := ((V_p.ext E11).other W16 ne22)
  refine Gk.iaload X20 hx hZ e20 H23 ⟨by decide, by decide⟩ (.int (2 : Int32)) hp3 (hb hby d14_61) ?_
  refine Gk.istore X20 hx (hb hby d14_62) #[.val (.ref a1), .val (.int (3 : Int32)), .val (.int (2 : Int32)), .val (.ref b11), .val (.int (2 : Int32)), .val (.int (1 : Int32))] rfl ?_
  refine Gk.iinc X20 hx (hb hby d14_64) rfl #[.val (.ref a1), .val (.int (3 : Int32)), .val (.int (2 : Int32)), .val (.ref b11), .val (.int (2 : Int32)), .val (.int (0 : Int32))] rfl ?_
  refine Gk.goto X20 hx (hb hby d14_67) 39 (by decide) (by decide) ?_
  refine Gk.iload X20 hx (hb hby d14_39) rfl ?_
  refine Gk.ifNo X20 hx (hb hby d14_41) (flt (by decide : ¬ ((0 : Int32) < (0 : Int32)))).1 ?_
  refine Gk.aloadN X20 hx (hb hby d14_44) rfl rfl ?_
  refine Gk.iload X20 hx (hb hby d14_45) rfl ?_
  refine Gk.aloadN X20 hx (hb hby d14_47) rfl rfl ?_
  have H24 := (H12.other W16 (Or.inl ne18))
  refine Gk.getF X20 hx hZ hown (host := "") (Or.inl (hw _ (List.mem_of_getElem? (i := 55) rfl))) Via.refl e20 H24 (hb hby d14_48) ?_
  intro T25 X25 e25
  refine Gk.iload X25 hx (hb hby d14_51) rfl ?_
  have ne27 : xe ≠ b11 := (Nat.ne_of_lt (Nat.lt_of_lt_of_le V_e.lt (Nat.le_trans (Nat.le_refl _) (Nat.le_of_eq g11.symm))))
  have H28 := (H15.other W16 ne27)
  refine Gk.aaload X25 hx hZ e25 H28 rfl ⟨by decide, by decide⟩ (.ref y1) he2 (hb hby d14_53) ?_
  have H30 := ((E_y1.ext E11).wr W16)
  refine Gk.aastore X25 hx hZ e25 V16 0 rfl ⟨by decide, by decide⟩ rfl rfl (Or.inr ⟨_, _, rfl, O11, Ins.self H30⟩) (hb hby d14_54) ?_
  intro T29 h29 X29 e29 W29 V29
  have N29 := Fr.snoc X29 N16 g_b11
  refine Gk.aloadN X29 hx (hb hby d14_55) rfl rfl ?_
  have H31 := (H19.other W29 (Or.inl ne18))
  refine Gk.getF X29 hx hZ hown (host := "") (Or.inl (hw _ (List.mem_of_getElem? (i := 52) rfl))) Via.refl e29 H31 (hb hby d14_56) ?_
  intro T32 X32 e32
  refine Gk.iload X32 hx (hb hby d14_59) rfl ?_
  have H34 := (H23.other W29 ne22)
  refine Gk.iaload X32 hx hZ e32 H34 ⟨by decide, by decide⟩ (.int (1 : Int32)) hp2 (hb hby d14_61) ?_
  refine Gk.istore X32 hx (hb hby d14_62) #[.val (.ref a1), .val (.int (3 : Int32)), .val (.int (2 : Int32)), .val (.ref b11), .val (.int (1 : Int32)), .val (.int (0 : Int32))] rfl ?_
  refine Gk.iinc X32 hx (hb hby d14_64) rfl #[.val (.ref a1), .val (.int (3 : Int32)), .val (.int (2 : Int32)), .val (.ref b11), .val (.int (1 : Int32)), .val (.int (-1 : Int32))] rfl ?_
  refine Gk.goto X32 hx (hb hby d14_67) 39 (by decide) (by decide) ?_
  refine Gk.iload X32 hx (hb hby d14_39) rfl ?_
  refine Gk.ifYes X32 hx (hb hby d14_41) (tlt (by decide : (-1 : Int32) < (0 : Int32))).1 70 (by decide) (by decide) ?_
  refine Gk.aloadN X32 hx (hb hby d14_70) rfl rfl ?_
  refine Go.fin X32 (v := some (.ref b11)) (fun h_ => by rw [Bd.returns] at h_; cases h_) Bd.notSynchronized (fun _ hr => retOut X32 hx Bd.returns rfl (Or.inr (Or.inr (Or.inr (Or.inr ⟨rfl, rfl, rfl⟩)))) (hb hby d14_71) hr) (fun U' hU hF => ⟨_, _, rfl, ?_, hF.1, hF.2.1, hF.2.2.mono (by decide) (by decide)⟩)
  rw [hU, e32]
  exact ⟨(congrArg (fun z_ : Addr => some (Value.ref z_)) (show b11 = h0.size from g11)), N29, ((((Keep.refl h0 []).ext E11).wr W16 (Or.inr (Nat.le_trans (Nat.le_refl _) (Nat.le_of_eq g11.symm)))).wr W29 (Or.inr (Nat.le_trans (Nat.le_refl _) (Nat.le_of_eq g11.symm)))), _, (g11 ▸ V29)⟩
theorem ef_rm14_3210 (m : MethodId) (a1 : Addr) : entryFrame m #[(.ref a1), (.int (3 : Int32))] 6 = mkF m 0 #[.val (.ref a1), .val (.int (3 : Int32)), .unset, .unset, .unset, .unset] [] := by first | (simp [entryFrame, mkF, argsToLocals, Value.category]; done) | rfl
def Q_rm14_3210 (Z : State) (a1 : Addr) (xp : Addr) (kp : ClassId) (fp : Nat → Value) (xe : Addr) (ke : ClassId) (fe : Nat → Value) (y0 : Addr) (y1 : Addr) (y2 : Addr) (h0 : Heap) (n0 : Nat) (v : Option Value) (h : Heap) (L : List Loc) : Prop := v = some (.ref h0.size) ∧ Fr n0 L ∧ Keep h0 h [] ∧ ∃ kr : ClassId, Arf Z h h0.size kr (.object "com/example/tracewarden/tracewarden/engine/SearchTuples$Event") (3 : Int32) (upd (upd (upd (fun _ => .null) 2 (.ref y0)) 1 (.ref y1)) 0 (.ref y2))
set_option maxRecDepth 65536 in
set_option maxHeartbeats 40000000 in
theorem rm14_3210 (l : Launch) (Z : State) (a0 : Array Value) (hw : ∀ d ∈ tables_1, d.before a0 Z = true) (ws : List Jvm.Cond) (a1 : Addr) (xp : Addr) (kp : ClassId) (fp : Nat → Value) (xe : Addr) (ke : ClassId) (fe : Nat → Value) (y0 : Addr) (y1 : Addr) (y2 : Addr) (h0 : Heap) (n0 : Nat) (Z0 : n0 ≤ h0.size) (V_p : Arf Z h0 xp kp .int (16 : Int32) fp) (V_e : Arf Z h0 xe ke (.object "com/example/tracewarden/tracewarden/engine/SearchTuples$Event") (16 : Int32) fe) (F_parents : Fld Z h0 a1 "com/example/tracewarden/tracewarden/engine/SearchTuples" "parents" "[I" (.ref xp)) (F_events : Fld Z h0 a1 "com/example/tracewarden/tracewarden/engine/SearchTuples" "events" "[Lcom/example/tracewarden/tracewarden/engine/SearchTuples$Event;" (.ref xe)) (hp3 : fp 3 = (.int (2 : Int32))) (hp2 : fp 2 = (.int (1 : Int32))) (hp1 : fp 1 = (.int (0 : Int32))) (hp0 : fp 0 = (.int (-1 : Int32))) (he3 : fe 3 = (.ref y0)) (he2 : fe 2 = (.ref y1)) (he1 : fe 1 = (.ref y2)) (E_y0 : Exa Z h0 y0 "com/example/tracewarden/tracewarden/engine/SearchTuples$Event") (E_y1 : Exa Z h0 y1 "com/example/tracewarden/tracewarden/engine/SearchTuples$Event") (E_y2 : Exa Z h0 y2 "com/example/tracewarden/tracewarden/engine/SearchTuples$Event") :
    MetFree l (⟨"com/example/tracewarden/tracewarden/engine/SearchTuples", "path", "(I)[Lcom/example/tracewarden/tracewarden/engine/SearchTuples$Event;"⟩ : MethodName) (head1 (Jvm.Cond.code (⟨"com/example/tracewarden/tracewarden/engine/SearchTuples", "path", "(I)[Lcom/example/tracewarden/tracewarden/engine/SearchTuples$Event;"⟩ : MethodName) prog_86_method_22_code 6 (some (.array (.object "com/example/tracewarden/tracewarden/engine/SearchTuples$Event"))) :: ws) ({ frames := 0, cells := 1, slots := 3, locals := 0 } : Room)) (fun a U => a = #[(.ref a1), (.int (3 : Int32))] ∧ Z.Warmed39 U.vm ∧ U.heap = h0) (fun _ _ _ _ _ => True) (fun _ U o U' => ∃ v L, o = .returned v ∧ Q_rm14_3210 Z a1 xp kp fp xe ke fe y0 y1 y2 h0 n0 v U'.heap L ∧ FrameEnd U o U' L ({ frames := 0, cells := 1, slots := 3, locals := 0 } : Room).cells ({ frames := 0, cells := 1, slots := 3, locals := 0 } : Room).slots) := by
  refine MetFree.of_bodySF (plainFor_of_name pn_95) hisR ?_
  intro p e s m args below meth c s₁ Bd hml0 hP hK
  obtain ⟨rfl, hZ, hh⟩ := hP
  have hx := Bd.exec
  have hby := Bd.bytes
  have hml : c.maxLocals = 6 := hml0
  have hown : s.vm.findClass "com/example/tracewarden/tracewarden/engine/SearchTuples" = some m.cls := findClass_of_methodNamed Bd.named
  have hnm := (name_of_methodNamed Bd.named Bd.method).1
  have X0 : Stand p l e ({ frames := 0, cells := 1, slots := 3, locals := 0 } : Room) s m #[(.ref a1), (.int (3 : Int32))] below meth c s₁ [] 0 0 := Stand.of_body Bd
  have e0 : s₁.heap = h0 := by rw [← hh, Bd.state]; rfl
  have N0 := Fr.nil n0
  show Go p e below (s₁.setTop (entryFrame m #[(.ref a1), (.int (3 : Int32))] 6)) (fun o U' => ∃ v L, o = .returned v ∧ Q_rm14_3210 Z a1 xp kp fp xe ke fe y0 y1 y2 h0 n0 v U'.heap L ∧ FrameEnd s o U' L ({ frames := 0, cells := 1, slots := 3, locals := 0 } : Room).cells ({ frames := 0, cells := 1, slots := 3, locals := 0 } : Room).slots)
  rw [ef_rm14_3210]
  refine Gk.iconst X0 hx (hb hby d14_0) (0 : Int32) rfl ?_
  refine Gk.istoreN X0 hx (hb hby d14_1) #[.val (.ref a1), .val (.int (3 : Int32)), .val (.int (0 : Int32)), .unset, .unset, .unset] rfl ?_
  refine Gk.iloadN X0 hx (hb hby d14_2) rfl ?_
  refine Gk.istoreN X0 hx (hb hby d14_3) #[.val (.ref a1), .val (.int (3 : Int32)), .val (.int (0 : Int32)), .val (.int (3 : Int32)), .unset, .unset] rfl ?_
  refine Gk.aloadN X0 hx (hb hby d14_4) rfl rfl ?_
  refine Gk.getF X0 hx hZ hown (host := "") (Or.inl (hw _ (List.mem_of_getElem? (i := 52) rfl))) Via.refl e0 F_parents (hb hby d14_5) ?_
  intro T1 X1 e1
  refine Gk.iloadN X1 hx (hb hby d14_8) rfl ?_
  refine Gk.iaload X1 hx hZ e1 V_p ⟨by decide, by decide⟩ (.int (2 : Int32)) hp3 (hb hby d14_9) ?_
  refine Gk.ifNo X1 hx (hb hby d14_10) (flt (by decide : ¬ ((2 : Int32) < (0 : Int32)))).1 ?_
  refine Gk.iinc X1 hx (hb hby d14_13) rfl #[.val (.ref a1), .val (.int (3 : Int32)), .val (.int (1 : Int32)), .val (.int (3 : Int32)), .unset, .unset] rfl ?_
  refine Gk.aloadN X1 hx (hb hby d14_16) rfl rfl ?_
  refine Gk.getF X1 hx hZ hown (host := "") (Or.inl (hw _ (List.mem_of_getElem? (i := 52) rfl))) Via.refl e1 F_parents (hb hby d14_17) ?_
  intro T3 X3 e3
  refine Gk.iloadN X3 hx (hb hby d14_20) rfl ?_
  refine Gk.iaload X3 hx hZ e3 V_p ⟨by decide, by decide⟩ (.int (2 : Int32)) hp3 (hb hby d14_21) ?_
  refine Gk.istoreN X3 hx (hb hby d14_22) #[.val (.ref a1), .val (.int (3 : Int32)), .val (.int (1 : Int32)), .val (.int (2 : Int32)), .unset, .unset] rfl ?_
  refine Gk.goto X3 hx (hb hby d14_23) 4 (by decide) (by decide) ?_
  refine Gk.aloadN X3 hx (hb hby d14_4) rfl rfl ?_
  refine Gk.getF X3 hx hZ hown (host := "") (Or.inl (hw _ (List.mem_of_getElem? (i := 52) rfl))) Via.refl e3 F_parents (hb hby d14_5) ?_
  intro T5 X5 e5
  refine Gk.iloadN X5 hx (hb hby d14_8) rfl ?_
  refine Gk.iaload X5 hx hZ e5 V_p ⟨by decide, by decide⟩ (.int (1 : Int32)) hp2 (hb hby d14_9) ?_
  refine Gk.ifNo X5 hx (hb hby d14_10) (flt (by decide : ¬ ((1 : Int32) < (0 : Int32)))).1 ?_
  refine Gk.iinc X5 hx (hb hby d14_13) rfl #[.val (.ref a1), .val (.int (3 : Int32)), .val (.int (2 : Int32)), .val (.int (2 : Int32)), .unset, .unset] rfl ?_
  refine Gk.aloadN X5 hx (hb hby d14_16) rfl rfl ?_
  refine Gk.getF X5 hx hZ hown (host := "") (Or.inl (hw _ (List.mem_of_getElem? (i := 52) rfl))) Via.refl e5 F_parents (hb hby d14_17) ?_
  intro T7 X7 e7
  refine Gk.iloadN X7 hx (hb hby d14_20) rfl ?_
  refine Gk.iaload X7 hx hZ e7 V_p ⟨by decide, by decide⟩ (.int (1 : Int32)) hp2 (hb hby d14_21) ?_
  refine Gk.istoreN X7 hx (hb hby d14_22) #[.val (.ref a1), .val (.int (3 : Int32)), .val (.int (2 : Int32)), .val (.int (1 : Int32)), .unset, .unset] rfl ?_
  refine Gk.goto X7 hx (hb hby d14_23) 4 (by decide) (by decide) ?_
  refine Gk.aloadN X7 hx (hb hby d14_4) rfl rfl ?_
  refine Gk.getF X7 hx hZ hown (host := "") (Or.inl (hw _ (List.mem_of_getElem? (i := 52) rfl))) Via.refl e7 F_parents (hb hby d14_5) ?_
  intro T9 X9 e9
  refine Gk.iloadN X9 hx (hb hby d14_8) rfl ?_
  refine Gk.iaload X9 hx hZ e9 V_p ⟨by decide, by decide⟩ (.int (0 : Int32)) hp1 (hb hby d14_9) ?_
  refine Gk.ifNo X9 hx (hb hby d14_10) (flt (by decide : ¬ ((0 : Int32) < (0 : Int32)))).1 ?_
  refine Gk.iinc X9 hx (hb hby d14_13) rfl #[.val (.ref a1), .val (.int (3 : Int32)), .val (.int (3 : Int32)), .val (.int (1 : Int32)), .unset, .unset] rfl ?_
  refine Gk.aloadN X9 hx (hb hby d14_16) rfl rfl ?_
  refine Gk.getF X9 hx hZ hown (host := "") (Or.inl (hw _ (List.mem_of_getElem? (i := 52) rfl))) Via.refl e9 F_parents (hb hby d14_17) ?_
  intro T11 X11 e11
  refine Gk.iloadN X11 hx (hb hby d14_20) rfl ?_
  refine Gk.iaload X11 hx hZ e11 V_p ⟨by decide, by decide⟩ (.int (0 : Int32)) hp1 (hb hby d14_21) ?_
  refine Gk.istoreN X11 hx (hb hby d14_22) #[.val (.ref a1), .val (.int (3 : Int32)), .val (.int (3 : Int32)), .val (.int (0 : Int32)), .unset, .unset] rfl ?_
  refine Gk.goto X11 hx (hb hby d14_23) 4 (by decide) (by decide) ?_
  refine Gk.aloadN X11 hx (hb hby d14_4) rfl rfl ?_
  refine Gk.getF X11 hx hZ hown (host := "") (Or.inl (hw _ (List.mem_of_getElem? (i := 52) rfl))) Via.refl e11 F_parents (hb hby d14_5) ?_
  intro T13 X13 e13
  refine Gk.iloadN X13 hx (hb hby d14_8) rfl ?_
  refine Gk.iaload X13 hx hZ e13 V_p ⟨by decide, by decide⟩ (.int (-1 : Int32)) hp0 (hb hby d14_9) ?_
  refine Gk.ifYes X13 hx (hb hby d14_10) (tlt (by decide : (-1 : Int32) < (0 : Int32))).1 26 (by decide) (by decide) ?_
  refine Gk.iloadN X13 hx (hb hby d14_26) rfl ?_
  refine Gk.newR X13 hx hZ hown (hw _ (List.mem_of_getElem? (i := 54) rfl)) (hw _ (List.mem_of_getElem? (i := 3) rfl)) e13 (hb hby d14_27) (by decide) (cap := 3) (by decide) (by decide) (by decide) (by decide) rfl ?_
  intro T15 h15 b15 k15 X15 e15 E15 g15 A15 B15 O15
  have g_b15 : n0 ≤ b15 := Nat.le_trans Z0 (Nat.le_of_eq g15.symm)
  have V_b15 : Arf Z h15 b15 k15 (.object "com/example/tracewarden/tracewarden/engine/SearchTuples$Event") (3 : Int32) (fun _ => .null) := A15
  have lt_b15 := V_b15.lt
  refine Gk.astoreN X15 hx (hb hby d14_30) rfl #[.val (.ref a1), .val (.int (3 : Int32)), .val (.int (3 : Int32)), .val (.ref b15), .unset, .unset] rfl ?_
  refine Gk.iloadN X15 hx (hb hby d14_31) rfl ?_
  refine Gk.istore X15 hx (hb hby d14_32) #[.val (.ref a1), .val (.int (3 : Int32)), .val (.int (3 : Int32)), .val (.ref b15), .val (.int (3 : Int32)), .unset] rfl ?_
  refine Gk.iloadN X15 hx (hb hby d14_34) rfl ?_
  refine Gk.iconst X15 hx (hb hby d14_35) (1 : Int32) rfl ?_
  refine Gk.isub X15 hx (hb hby d14_36) (2 : Int32) (by decide) ?_
  refine Gk.istore X15 hx (hb hby d14_37) #[.val (.ref a1), .val (.int (3 : Int32)), .val (.int (3 : Int32)), .val (.ref b15), .val (.int (3 : Int32)), .val (.int (2 : Int32))] rfl ?_
  refine Gk.iload X15 hx (hb hby d14_39) rfl ?_
  refine Gk.ifNo X15 hx (hb hby d14_41) (flt (by decide : ¬ ((2 : Int32) < (0 : Int32)))).1 ?_
  refine Gk.aloadN X15 hx (hb hby d14_44) rfl rfl ?_
  refine Gk.iload X15 hx (hb hby d14_45) rfl ?_
  refine Gk.aloadN X15 hx (hb hby d14_47) rfl rfl ?_
  have H16 := (F_events.ext E15)
  refine Gk.getF X15 hx hZ hown (host := "") (Or.inl (hw _ (List.mem_of_getElem? (i := 55) rfl))) Via.refl e15 H16 (hb hby d14_48) ?_
  intro T17 X17 e17
  refine Gk.iload X17 hx (hb hby d14_51) rfl ?_
  have H19 := (V_e.ext E15)
  refine Gk.aaload X17 hx hZ e17 H19 rfl ⟨by decide, by decide⟩ (.ref y0) he3 (hb hby d14_53) ?_
  have H21 := (E_y0.ext E15)
  refine Gk.aastore X17 hx hZ e17 V_b15 2 rfl ⟨by decide, by decide⟩ rfl rfl (Or.inr ⟨_, _, rfl, O15, Ins.self H21⟩) (hb hby d14_54) ?_
  intro T20 h20 X20 e20 W20 V20
  have N20 := Fr.snoc X20 N0 g_b15
  refine Gk.aloadN X20 hx (hb hby d14_55) rfl rfl ?_
  have ne22 : a1 ≠ b15 := (Nat.ne_of_lt (Nat.lt_of_lt_of_le F_parents.lt (Nat.le_of_eq g15.symm)))
  have H23 := ((F_parents.ext E15).other W20 (Or.inl ne22))
  refine Gk.getF X20 hx hZ hown (host := "") (Or.inl (hw _ (List.mem_of_getElem? (i := 52) rfl))) Via.refl e20 H23 (hb hby d14_56) ?_
  intro T24 X24 e24
  refine Gk.iload X24 hx (hb hby d14_59) rfl ?_
  have ne26 : xp ≠ b15 := (Nat.ne_of_lt (Nat.lt_of_lt_of_le V_p.lt (Nat.le_trans (Nat.le_refl _) (Nat.le_of_eq g15.symm))))
  have H27 := ((V_p.ext E15).other W20 ne26)
  refine Gk.iaload X24 hx hZ e24 H27 ⟨by decide, by decide⟩ (.int (2 : Int32)) hp3 (hb hby d14_61) ?_
  refine Gk.istore X24 hx (hb hby d14_62) #[.val (.ref a1), .val (.int (3 : Int32)), .val (.int (3 : Int32)), .val (.ref b15), .val (.int (2 : Int32)), .val (.int (2 : Int32))] rfl ?_
  refine Gk.iinc X24 hx (hb hby d14_64) rfl #[.val (.ref a1), .val (.int (3 : Int32)), .val (.int (3 : Int32)), .val (.ref b15), .val (.int (2 : Int32)), .val (.int (1 : Int32))] rfl ?_
  refine Gk.goto X24 hx (hb hby d14_67) 39 (by decide) (by decide) ?_
  refine Gk.iload X24 hx (hb hby d14_39) rfl ?_
  refine Gk.ifNo X24 hx (hb hby d14_41) (flt (by decide : ¬ ((1 : Int32) < (0 : Int32)))).1 ?_
  refine Gk.aloadN X24 hx (hb hby d14_44) rfl rfl ?_
  refine Gk.iload X24 hx (hb hby d14_45) rfl ?_
  refine Gk.aloadN X24 hx (hb hby d14_47) rfl rfl ?_
  have H28 := (H16.other W20 (Or.inl ne22))
  refine Gk.getF X24 hx hZ hown (host := "") (Or.inl (hw _ (List.mem_of_getElem? (i := 55) rfl))) Via.refl e24 H28 (hb hby d14_48) ?_
  intro T29 X29 e29
  refine Gk.iload X29 hx (hb hby d14_51) rfl ?_
  have ne31 : xe ≠ b15 := (Nat.ne_of_lt (Nat.lt_of_lt_of_le V_e.lt (Nat.le_trans (Nat.le_refl _) (Nat.le_of_eq g15.symm))))
  have H32 := (H19.other W20 ne31)
  refine Gk.aaload X29 hx hZ e29 H32 rfl ⟨by decide, by decide⟩ (.ref y1) he2 (hb hby d14_53) ?_
  have H34 := ((E_y1.ext E15).wr W20)
  refine Gk.aastore X29 hx hZ e29 V20 1 rfl ⟨by decide, by decide⟩ rfl rfl (Or.inr ⟨_, _, rfl, O15, Ins.self H34⟩) (hb hby d14_54) ?_
  intro T33 h33 X33 e33 W33 V33
  have N33 := Fr.snoc X33 N20 g_b15
  refine Gk.aloadN X33 hx (hb hby d14_55) rfl rfl ?_
  have H35 := (H23.other W33 (Or.inl ne22))
  refine Gk.getF X33 hx hZ hown (host := "") (Or.inl (hw _ (List.mem_of_getElem? (i := 52) rfl))) Via.refl e33 H35 (hb hby d14_56) ?_
  intro T36 X36 e36
  refine Gk.iload X36 hx (hb hby d14_59) rfl ?_
  have H38 := (H27.other W33 ne26)
  refine Gk.iaload X36 hx hZ e36 H38 ⟨by decide, by decide⟩ (.int (1 : Int32)) hp2 (hb hby d14_61) ?_
  refine Gk.istore X36 hx (hb hby d14_62) #[.val (.ref a1), .val (.int (3 : Int32)), .val (.int (3 : Int32)), .val (.ref b15), .val (.int (1 : Int32)), .val (.int (1 : Int32))] rfl ?_
  refine Gk.iinc X36 hx (hb hby d14_64) rfl #[.val (.ref a1), .val (.int (3 : Int32)), .val (.int (3 : Int32)), .val (.ref b15), .val (.int (1 : Int32)), .val (.int (0 : Int32))] rfl ?_
  refine Gk.goto X36 hx (hb hby d14_67) 39 (by decide) (by decide) ?_
  refine Gk.iload X36 hx (hb hby d14_39) rfl ?_
  refine Gk.ifNo X36 hx (hb hby d14_41) (flt (by decide : ¬ ((0 : Int32) < (0 : Int32)))).1 ?_
  refine Gk.aloadN X36 hx (hb hby d14_44) rfl rfl ?_
  refine Gk.iload X36 hx (hb hby d14_45) rfl ?_
  refine Gk.aloadN X36 hx (hb hby d14_47) rfl rfl ?_
  have H39 := (H28.other W33 (Or.inl ne22))
  refine Gk.getF X36 hx hZ hown (host := "") (Or.inl (hw _ (List.mem_of_getElem? (i := 55) rfl))) Via.refl e36 H39 (hb hby d14_48) ?_
  intro T40 X40 e40
  refine Gk.iload X40 hx (hb hby d14_51) rfl ?_
  have H42 := (H32.other W33 ne31)
  refine Gk.aaload X40 hx hZ e40 H42 rfl ⟨by decide, by decide⟩ (.ref y2) he1 (hb hby d14_53) ?_
  have H44 := (((E_y2.ext E15).wr W20).wr W33)
  refine Gk.aastore X40 hx hZ e40 V33 0 rfl ⟨by decide, by decide⟩ rfl rfl (Or.inr ⟨_, _, rfl, O15, Ins.self H44⟩) (hb hby d14_54) ?_
  intro T43 h43 X43 e43 W43 V43
  have N43 := Fr.snoc X43 N33 g_b15
  refine Gk.aloadN X43 hx (hb hby d14_55) rfl rfl ?_
  have H45 := (H35.other W43 (Or.inl ne22))
  refine Gk.getF X43 hx hZ hown (host := "") (Or.inl (hw _ (List.mem_of_getElem? (i := 52) rfl))) Via.refl e43 H45 (hb hby d14_56) ?_
  intro T46 X46 e46
  refine Gk.iload X46 hx (hb hby d14_59) rfl ?_
  have H48 := (H38.other W43 ne26)
  refine Gk.iaload X46 hx hZ e46 H48 ⟨by decide, by decide⟩ (.int (0 : Int32)) hp1 (hb hby d14_61) ?_
  refine Gk.istore X46 hx (hb hby d14_62) #[.val (.ref a1), .val (.int (3 : Int32)), .val (.int (3 : Int32)), .val (.ref b15), .val (.int (0 : Int32)), .val (.int (0 : Int32))] rfl ?_
  refine Gk.iinc X46 hx (hb hby d14_64) rfl #[.val (.ref a1), .val (.int (3 : Int32)), .val (.int (3 : Int32)), .val (.ref b15), .val (.int (0 : Int32)), .val (.int (-1 : Int32))] rfl ?_
  refine Gk.goto X46 hx (hb hby d14_67) 39 (by decide) (by decide) ?_
  refine Gk.iload X46 hx (hb hby d14_39) rfl ?_
  refine Gk.ifYes X46 hx (hb hby d14_41) (tlt (by decide : (-1 : Int32) < (0 : Int32))).1 70 (by decide) (by decide) ?_
  refine Gk.aloadN X46 hx (hb hby d14_70) rfl rfl ?_
  refine Go.fin X46 (v := some (.ref b15)) (fun h_ => by rw [Bd.returns] at h_; cases h_) Bd.notSynchronized (fun _ hr => retOut X46 hx Bd.returns rfl (Or.inr (Or.inr (Or.inr (Or.inr ⟨rfl, rfl, rfl⟩)))) (hb hby d14_71) hr) (fun U' hU hF => ⟨_, _, rfl, ?_, hF.1, hF.2.1, hF.2.2.mono (by decide) (by decide)⟩)
  rw [hU, e46]
  exact ⟨(congrArg (fun z_ : Addr => some (Value.ref z_)) (show b15 = h0.size from g15)), N43, (((((Keep.refl h0 []).ext E15).wr W20 (Or.inr (Nat.le_trans (Nat.le_refl _) (Nat.le_of_eq g15.symm)))).wr W33 (Or.inr (Nat.le_trans (Nat.le_refl _) (Nat.le_of_eq g15.symm)))).wr W43 (Or.inr (Nat.le_trans (Nat.le_refl _) (Nat.le_of_eq g15.symm)))), _, (g15 ▸ V43)⟩
theorem pd_5 : parseMethodDescriptor "(ILjava/util/Map;)V" = some ⟨[.int, (.object "java/util/Map")], none⟩ := by decide +kernel
theorem pd_6 : parseMethodDescriptor "(J)V" = some ⟨[.long], none⟩ := by decide +kernel
theorem pd_7 : parseMethodDescriptor "(IILcom/example/tracewarden/tracewarden/engine/SearchBudget;)V" = some ⟨[.int, .int, (.object "com/example/tracewarden/tracewarden/engine/SearchBudget")], none⟩ := by decide +kernel
theorem pd_8 : parseMethodDescriptor "([I)I" = some ⟨[(.array .int)], some .int⟩ := by decide +kernel
theorem pd_9 : parseMethodDescriptor "([IILcom/example/tracewarden/tracewarden/engine/Zone;ILcom/example/tracewarden/tracewarden/engine/SearchTuples$Event;I)V" = some ⟨[(.array .int), .int, (.object "com/example/tracewarden/tracewarden/engine/Zone"), .int, (.object "com/example/tracewarden/tracewarden/engine/SearchTuples$Event"), .int], none⟩ := by decide +kernel
theorem pd_10 : parseMethodDescriptor "(I)[Lcom/example/tracewarden/tracewarden/engine/SearchTuples$Event;" = some ⟨[.int], some (.array (.object "com/example/tracewarden/tracewarden/engine/SearchTuples$Event"))⟩ := by decide +kernel
theorem pn_366 : plainName "com/example/tracewarden/tracewarden/engine/SearchTuplesPathPinLaw" = true := by first | (simp [plainName, overriddenIn]; done) | decide +kernel
theorem ef_rm0 (m : MethodId) (p1 : Int32) (p2 : Int32) (p3 : Int32) (p4 : Int32) : entryFrame m #[(.int p1), (.int p2), (.int p3), (.int p4)] maxLocals = mkF m 0 #[.val (.int p1), .val (.int p2), .val (.int p3), .val (.int p4), .unset, .unset, .unset, .unset, .unset, .unset, .unset, .unset, .unset, .unset, .unset, .unset] [] := by first | (simp [entryFrame, mkF, argsToLocals, Value.category, maxLocals]; done) | rfl
def Q_rm0 (Z : State) (p1 : Int32) (p2 : Int32) (p3 : Int32) (p4 : Int32) (h0 : Heap) (n0 : Nat) (v : Option Value) (h : Heap) (L : List Loc) : Prop := v = some (.int (1 : Int32)) ∧ Fr n0 L
set_option maxRecDepth 65536 in
set_option maxHeartbeats 40000000 in
theorem rm0 (l : Launch) (Z : State) (a0 : Array Value) (hw : ∀ d ∈ tables_1, d.before a0 Z = true) (ws : List Jvm.Cond) (p1 : Int32) (p2 : Int32) (p3 : Int32) (p4 : Int32) (h0 : Heap) (n0 : Nat) (Z0 : n0 ≤ h0.size) :
    MetFree l x (head1 (Jvm.Cond.code x code maxLocals ret :: ws) room_1) (fun a U => a = #[(.int p1), (.int p2), (.int p3), (.int p4)] ∧ Z.Warmed39 U.vm ∧ U.heap = h0) (fun _ _ _ _ _ => True) (fun _ U o U' => ∃ v L, o = .returned v ∧ Q_rm0 Z p1 p2 p3 p4 h0 n0 v U'.heap L ∧ FrameEnd U o U' L room_1.cells room_1.slots) := by
  refine MetFree.of_bodySF (plainFor_of_name pn_366) hisR ?_
  intro p e s m args below meth c s₁ Bd hml0 hP hK
  obtain ⟨rfl, hZ, hh⟩ := hP
  have hx := Bd.exec
  have hby := Bd.bytes
  have hml : c.maxLocals = 16 := hml0
  have hown : s.vm.findClass "com/example/tracewarden/tracewarden/engine/SearchTuplesPathPinLaw" = some m.cls := findClass_of_methodNamed Bd.named
  have hnm := (name_of_methodNamed Bd.named Bd.method).1
  have X0 : Stand p l e room_1 s m #[(.int p1), (.int p2), (.int p3), (.int p4)] below meth c s₁ [] 0 0 := Stand.of_body Bd
  have e0 : s₁.heap = h0 := by rw [← hh, Bd.state]; rfl
  have N0 := Fr.nil n0
  show Go p e below (s₁.setTop (entryFrame m #[(.int p1), (.int p2), (.int p3), (.int p4)] maxLocals)) (fun o U' => ∃ v L, o = .returned v ∧ Q_rm0 Z p1 p2 p3 p4 h0 n0 v U'.heap L ∧ FrameEnd s o U' L room_1.cells room_1.slots)
  rw [ef_rm0]
  refine Gk.iconst X0 hx (hb hby at_0) (4 : Int32) rfl ?_
  refine Gk.newP X0 hx hZ (hw _ (List.mem_of_getElem? (i := 0) rfl)) e0 (hb hby at_1) (by decide) (cap := 4) (by decide) (by decide) (by decide) (by decide) rfl ?_
  intro T1 h1 b1 k1 X1 e1 E1 g1 A1 B1
  have g_b1 : n0 ≤ b1 := Nat.le_trans Z0 (Nat.le_of_eq g1.symm)
  have V_b1 : Arf Z h1 b1 k1 .int (4 : Int32) (fun _ => (.int (0 : Int32))) := A1
  have lt_b1 := V_b1.lt
  refine Gk.astore X1 hx (hb hby at_3) rfl #[.val (.int p1), .val (.int p2), .val (.int p3), .val (.int p4), .val (.ref b1), .unset, .unset, .unset, .unset, .unset, .unset, .unset, .unset, .unset, .unset, .unset] rfl ?_
  refine Gk.aload X1 hx (hb hby at_5) rfl rfl ?_
  refine Gk.iconst X1 hx (hb hby at_7) (0 : Int32) rfl ?_
  refine Gk.iconst X1 hx (hb hby at_8) (-1 : Int32) rfl ?_
  refine Gk.iastore X1 hx hZ e1 V_b1 0 rfl ⟨by decide, by decide⟩ (.int (-1 : Int32)) rfl (hb hby at_9) ?_
  intro T2 h2 X2 e2 W2 V2
  have N2 := Fr.snoc X2 N0 g_b1
  refine Gk.aload X2 hx (hb hby at_10) rfl rfl ?_
  refine Gk.iconst X2 hx (hb hby at_12) (1 : Int32) rfl ?_
  refine Gk.iloadN X2 hx (hb hby at_13) rfl ?_
  refine Gk.ldcI X2 hx hZ hown (hw _ (List.mem_of_getElem? (i := 1) rfl)) (hb hby at_14) ?_
  refine Gk.iand X2 hx (hb hby at_16) _ rfl ?_
  refine Gk.iconst X2 hx (hb hby at_17) (2 : Int32) rfl ?_
  refine Gk.irem X2 hx (hb hby at_18) (by decide) _ rfl ?_
  refine Gk.iconst X2 hx (hb hby at_19) (1 : Int32) rfl ?_
  refine Gk.isub X2 hx (hb hby at_20) _ rfl ?_
  show Go p e below (T2.setTop (mkF m 21 #[.val (.int p1), .val (.int p2), .val (.int p3), .val (.int p4), .val (.ref b1), .unset, .unset, .unset, .unset, .unset, .unset, .unset, .unset, .unset, .unset, .unset] [(.int (((p1 &&& (2147483647 : Int32)) % (2 : Int32)) - (1 : Int32))), (.int (1 : Int32)), (.ref b1)])) _
  obtain ⟨P1, eP1⟩ : ∃ z_ : Int32, z_ = (((p1 &&& (2147483647 : Int32)) % (2 : Int32)) - (1 : Int32)) := ⟨_, rfl⟩
  rw [← eP1]
  refine Gk.iastore X2 hx hZ e2 V2 1 rfl ⟨by decide, by decide⟩ (.int P1) rfl (hb hby at_21) ?_
  intro T3 h3 X3 e3 W3 V3
  have N3 := Fr.snoc X3 N2 g_b1
  refine Gk.aload X3 hx (hb hby at_22) rfl rfl ?_
  refine Gk.iconst X3 hx (hb hby at_24) (2 : Int32) rfl ?_
  refine Gk.iloadN X3 hx (hb hby at_25) rfl ?_
  refine Gk.ldcI X3 hx hZ hown (hw _ (List.mem_of_getElem? (i := 1) rfl)) (hb hby at_26) ?_
  refine Gk.iand X3 hx (hb hby at_28) _ rfl ?_
  refine Gk.iconst X3 hx (hb hby at_29) (3 : Int32) rfl ?_
  refine Gk.irem X3 hx (hb hby at_30) (by decide) _ rfl ?_
  refine Gk.iconst X3 hx (hb hby at_31) (1 : Int32) rfl ?_
  refine Gk.isub X3 hx (hb hby at_32) _ rfl ?_
  show Go p e below (T3.setTop (mkF m 33 #[.val (.int p1), .val (.int p2), .val (.int p3), .val (.int p4), .val (.ref b1), .unset, .unset, .unset, .unset, .unset, .unset, .unset, .unset, .unset, .unset, .unset] [(.int (((p2 &&& (2147483647 : Int32)) % (3 : Int32)) - (1 : Int32))), (.int (2 : Int32)), (.ref b1)])) _
  obtain ⟨P2, eP2⟩ : ∃ z_ : Int32, z_ = (((p2 &&& (2147483647 : Int32)) % (3 : Int32)) - (1 : Int32)) := ⟨_, rfl⟩
  rw [← eP2]
  refine Gk.iastore X3 hx hZ e3 V3 2 rfl ⟨by decide, by decide⟩ (.int P2) rfl (hb hby at_33) ?_
  intro T4 h4 X4 e4 W4 V4
  have N4 := Fr.snoc X4 N3 g_b1
  refine Gk.aload X4 hx (hb hby at_34) rfl rfl ?_
  refine Gk.iconst X4 hx (hb hby at_36) (3 : Int32) rfl ?_
  refine Gk.iloadN X4 hx (hb hby at_37) rfl ?_
  refine Gk.ldcI X4 hx hZ hown (hw _ (List.mem_of_getElem? (i := 1) rfl)) (hb hby at_38) ?_
  refine Gk.iand X4 hx (hb hby at_40) _ rfl ?_
  refine Gk.iconst X4 hx (hb hby at_41) (4 : Int32) rfl ?_
  refine Gk.irem X4 hx (hb hby at_42) (by decide) _ rfl ?_
  refine Gk.iconst X4 hx (hb hby at_43) (1 : Int32) rfl ?_
  refine Gk.isub X4 hx (hb hby at_44) _ rfl ?_
  show Go p e below (T4.setTop (mkF m 45 #[.val (.int p1), .val (.int p2), .val (.int p3), .val (.int p4), .val (.ref b1), .unset, .unset, .unset, .unset, .unset, .unset, .unset, .unset, .unset, .unset, .unset] [(.int (((p3 &&& (2147483647 : Int32)) % (4 : Int32)) - (1 : Int32))), (.int (3 : Int32)), (.ref b1)])) _
  obtain ⟨P3, eP3⟩ : ∃ z_ : Int32, z_ = (((p3 &&& (2147483647 : Int32)) % (4 : Int32)) - (1 : Int32)) := ⟨_, rfl⟩
  rw [← eP3]
  refine Gk.iastore X4 hx hZ e4 V4 3 rfl ⟨by decide, by decide⟩ (.int P3) rfl (hb hby at_45) ?_
  intro T5 h5 X5 e5 W5 V5
  have N5 := Fr.snoc X5 N4 g_b1
  refine Gk.iloadN X5 hx (hb hby at_46) rfl ?_
  refine Gk.iconst X5 hx (hb hby at_47) (3 : Int32) rfl ?_
  refine Gk.iand X5 hx (hb hby at_48) _ rfl ?_
  obtain ⟨kk, ekk⟩ : ∃ z_ : Int32, z_ = (p4 &&& (3 : Int32)) := ⟨_, rfl⟩
  show Go p e below (T5.setTop (mkF m 49 #[.val (.int p1), .val (.int p2), .val (.int p3), .val (.int p4), .val (.ref b1), .unset, .unset, .unset, .unset, .unset, .unset, .unset, .unset, .unset, .unset, .unset] [(.int (p4 &&& (3 : Int32)))])) _
  rw [← ekk]
  refine Gk.istore X5 hx (hb hby at_49) #[.val (.int p1), .val (.int p2), .val (.int p3), .val (.int p4), .val (.ref b1), .val (.int kk), .unset, .unset, .unset, .unset, .unset, .unset, .unset, .unset, .unset, .unset] rfl ?_
  refine Gk.iconst X5 hx (hb hby at_51) (4 : Int32) rfl ?_
  have gr7 := (Nat.le_trans (Nat.le_trans (Nat.le_trans (Nat.le_trans E1.1 (Keep.of_wr W2).1) (Keep.of_wr W3).1) (Keep.of_wr W4).1) (Keep.of_wr W5).1)
  refine Gk.newR X5 hx hZ hown (hw _ (List.mem_of_getElem? (i := 2) rfl)) (hw _ (List.mem_of_getElem? (i := 3) rfl)) e5 (hb hby at_52) (by decide) (cap := 4) (by decide) (by decide) (by decide) (by decide) rfl ?_
  intro T6 h6 b6 k6 X6 e6 E6 g6 A6 B6 O6
  have g_b6 : n0 ≤ b6 := Nat.le_trans (Nat.le_trans Z0 gr7) (Nat.le_of_eq g6.symm)
  have V_b6 : Arf Z h6 b6 k6 (.object "com/example/tracewarden/tracewarden/engine/SearchTuples$Event") (4 : Int32) (fun _ => .null) := A6
  have lt_b6 := V_b6.lt
  refine Gk.astore X6 hx (hb hby at_55) rfl #[.val (.int p1), .val (.int p2), .val (.int p3), .val (.int p4), .val (.ref b1), .val (.int kk), .val (.ref b6), .unset, .unset, .unset, .unset, .unset, .unset, .unset, .unset, .unset] rfl ?_
  refine Gk.aload X6 hx (hb hby at_57) rfl rfl ?_
  refine Gk.iconst X6 hx (hb hby at_59) (1 : Int32) rfl ?_
  refine Gk.newO X6 hx hZ hown (hw _ (List.mem_of_getElem? (i := 2) rfl)) (hw _ (List.mem_of_getElem? (i := 4) rfl)) (hw _ (List.mem_of_getElem? (i := 5) rfl)) e6 (hb hby at_60) (by decide) (by decide) ?_
  intro T8 h8 b8 X8 e8 E8 g8 A8 D8
  have g_b8 : n0 ≤ b8 := Nat.le_trans (Nat.le_trans Z0 (Nat.le_trans gr7 E6.1)) (Nat.le_of_eq g8.symm)
  have lt_b8 := A8.lt
  have F_activity_b8 : Fld Z h8 b8 "com/example/tracewarden/tracewarden/engine/SearchTuples$Event" "activity" "I" (.int (0 : Int32)) := D8 (Or.inr (hw _ (List.mem_of_getElem? (i := 18) rfl))) (ty := .int) (by decide)
  have F_data_b8 : Fld Z h8 b8 "com/example/tracewarden/tracewarden/engine/SearchTuples$Event" "data" "Ljava/util/Map;" .null := D8 (Or.inr (hw _ (List.mem_of_getElem? (i := 20) rfl))) (ty := (.object "java/util/Map")) (by decide)
  refine Gk.dup X8 hx (hb hby at_63) rfl ?_
  refine Gk.iconst X8 hx (hb hby at_64) (1 : Int32) rfl ?_
  refine Gk.aconstNull X8 hx (hb hby at_65) ?_
  have gr10 := (Nat.le_trans (Nat.le_trans gr7 E6.1) E8.1)
  refine Gk.callI (argsL := [(.int (1 : Int32)), .null]) X8 hx hZ hown (rm1 l Z a0 hw [] b8 (1 : Int32) (.int (0 : Int32)) .null h8 n0 (Nat.le_trans Z0 gr10) A8 F_activity_b8 g_b8 F_data_b8) rfl (hw _ (List.mem_of_getElem? (i := 6) rfl)) (hw _ (List.mem_of_getElem? (i := 7) rfl)) (hw _ (List.mem_of_getElem? (i := 8) rfl)) rfl (by decide) (hw _ (List.mem_of_getElem? (i := 5) rfl)) e8 pd_5 rfl rfl (by decide) (Nat.le_of_ble_eq_true rfl) (by decide) (by decide) (by rw [hml]; rfl)  rfl (hb hby at_66) ?_
  intro T9 L9 v9 X9 hQ9
  obtain ⟨rfl, N9q, K9⟩ := hQ9
  have N9 := Fr.app N5 N9q
  show Go p e below (T9.setTop (mkF m 69 #[.val (.int p1), .val (.int p2), .val (.int p3), .val (.int p4), .val (.ref b1), .val (.int kk), .val (.ref b6), .unset, .unset, .unset, .unset, .unset, .unset, .unset, .unset, .unset] [(.ref b8), (.int (1 : Int32)), (.ref b6)])) _
  have ne12 : b6 ≠ b8 := (Nat.ne_of_lt (Nat.lt_of_lt_of_le lt_b6 (Nat.le_trans (Nat.le_refl _) (Nat.le_of_eq g8.symm))))
  have H13 := ((V_b6.ext E8).keep K9 (ninS ne12 nin0))
  have H14 := (A8.keep K9)
  refine Gk.aastore X9 hx hZ rfl H13 1 rfl ⟨by decide, by decide⟩ rfl rfl (Or.inr ⟨_, _, rfl, O6, Ins.self H14⟩) (hb hby at_69) ?_
  intro T11 h11 X11 e11 W11 V11
  have N11 := Fr.snoc X11 N9 g_b6
  refine Gk.aload X11 hx (hb hby at_70) rfl rfl ?_
  refine Gk.iconst X11 hx (hb hby at_72) (2 : Int32) rfl ?_
  have gr16 := (Nat.le_trans (Nat.le_trans gr10 K9.1) (Keep.of_wr W11).1)
  refine Gk.newO X11 hx hZ hown (hw _ (List.mem_of_getElem? (i := 2) rfl)) (hw _ (List.mem_of_getElem? (i := 4) rfl)) (hw _ (List.mem_of_getElem? (i := 5) rfl)) e11 (hb hby at_73) (by decide) (by decide) ?_
  intro T15 h15 b15 X15 e15 E15 g15 A15 D15
  have g_b15 : n0 ≤ b15 := Nat.le_trans (Nat.le_trans Z0 gr16) (Nat.le_of_eq g15.symm)
  have lt_b15 := A15.lt
  have F_activity_b15 : Fld Z h15 b15 "com/example/tracewarden/tracewarden/engine/SearchTuples$Event" "activity" "I" (.int (0 : Int32)) := D15 (Or.inr (hw _ (List.mem_of_getElem? (i := 18) rfl))) (ty := .int) (by decide)
  have F_data_b15 : Fld Z h15 b15 "com/example/tracewarden/tracewarden/engine/SearchTuples$Event" "data" "Ljava/util/Map;" .null := D15 (Or.inr (hw _ (List.mem_of_getElem? (i := 20) rfl))) (ty := (.object "java/util/Map")) (by decide)
  refine Gk.dup X15 hx (hb hby at_76) rfl ?_
  refine Gk.iconst X15 hx (hb hby at_77) (2 : Int32) rfl ?_
  refine Gk.aconstNull X15 hx (hb hby at_78) ?_
  refine Gk.callI (argsL := [(.int (2 : Int32)), .null]) X15 hx hZ hown (rm1 l Z a0 hw [] b15 (2 : Int32) (.int (0 : Int32)) .null h15 n0 (Nat.le_trans Z0 (Nat.le_trans gr16 E15.1)) A15 F_activity_b15 g_b15 F_data_b15) rfl (hw _ (List.mem_of_getElem? (i := 6) rfl)) (hw _ (List.mem_of_getElem? (i := 7) rfl)) (hw _ (List.mem_of_getElem? (i := 8) rfl)) rfl (by decide) (hw _ (List.mem_of_getElem? (i := 5) rfl)) e15 pd_5 rfl rfl (by decide) (Nat.le_of_ble_eq_true rfl) (by decide) (by decide) (by rw [hml]; rfl)  rfl (hb hby at_79) ?_
  intro T17 L17 v17 X17 hQ17
  obtain ⟨rfl, N17q, K17⟩ := hQ17
  have N17 := Fr.app N11 N17q
  show Go p e below (T17.setTop (mkF m 82 #[.val (.int p1), .val (.int p2), .val (.int p3), .val (.int p4), .val (.ref b1), .val (.int kk), .val (.ref b6), .unset, .unset, .unset, .unset, .unset, .unset, .unset, .unset, .unset] [(.ref b15), (.int (2 : Int32)), (.ref b6)])) _
  have gr19 := (Nat.le_trans (Nat.le_trans E8.1 K9.1) (Keep.of_wr W11).1)
  have ne20 : b6 ≠ b15 := (Nat.ne_of_lt (Nat.lt_of_lt_of_le lt_b6 (Nat.le_trans gr19 (Nat.le_of_eq g15.symm))))
  have H21 := ((V11.ext E15).keep K17 (ninS ne20 nin0))
  have H22 := (A15.keep K17)
  refine Gk.aastore X17 hx hZ rfl H21 2 rfl ⟨by decide, by decide⟩ rfl rfl (Or.inr ⟨_, _, rfl, O6, Ins.self H22⟩) (hb hby at_82) ?_
  intro T18 h18 X18 e18 W18 V18
  have N18 := Fr.snoc X18 N17 g_b6
  refine Gk.aload X18 hx (hb hby at_83) rfl rfl ?_
  refine Gk.iconst X18 hx (hb hby at_85) (3 : Int32) rfl ?_
  have gr24 := (Nat.le_trans (Nat.le_trans (Nat.le_trans gr16 E15.1) K17.1) (Keep.of_wr W18).1)
  refine Gk.newO X18 hx hZ hown (hw _ (List.mem_of_getElem? (i := 2) rfl)) (hw _ (List.mem_of_getElem? (i := 4) rfl)) (hw _ (List.mem_of_getElem? (i := 5) rfl)) e18 (hb hby at_86) (by decide) (by decide) ?_
  intro T23 h23 b23 X23 e23 E23 g23 A23 D23
  have g_b23 : n0 ≤ b23 := Nat.le_trans (Nat.le_trans Z0 gr24) (Nat.le_of_eq g23.symm)
  have lt_b23 := A23.lt
  have F_activity_b23 : Fld Z h23 b23 "com/example/tracewarden/tracewarden/engine/SearchTuples$Event" "activity" "I" (.int (0 : Int32)) := D23 (Or.inr (hw _ (List.mem_of_getElem? (i := 18) rfl))) (ty := .int) (by decide)
  have F_data_b23 : Fld Z h23 b23 "com/example/tracewarden/tracewarden/engine/SearchTuples$Event" "data" "Ljava/util/Map;" .null := D23 (Or.inr (hw _ (List.mem_of_getElem? (i := 20) rfl))) (ty := (.object "java/util/Map")) (by decide)
  refine Gk.dup X23 hx (hb hby at_89) rfl ?_
  refine Gk.iconst X23 hx (hb hby at_90) (3 : Int32) rfl ?_
  refine Gk.aconstNull X23 hx (hb hby at_91) ?_
  refine Gk.callI (argsL := [(.int (3 : Int32)), .null]) X23 hx hZ hown (rm1 l Z a0 hw [] b23 (3 : Int32) (.int (0 : Int32)) .null h23 n0 (Nat.le_trans Z0 (Nat.le_trans gr24 E23.1)) A23 F_activity_b23 g_b23 F_data_b23) rfl (hw _ (List.mem_of_getElem? (i := 6) rfl)) (hw _ (List.mem_of_getElem? (i := 7) rfl)) (hw _ (List.mem_of_getElem? (i := 8) rfl)) rfl (by decide) (hw _ (List.mem_of_getElem? (i := 5) rfl)) e23 pd_5 rfl rfl (by decide) (Nat.le_of_ble_eq_true rfl) (by decide) (by decide) (by rw [hml]; rfl)  rfl (hb hby at_92) ?_
  intro T25 L25 v25 X25 hQ25
  obtain ⟨rfl, N25q, K25⟩ := hQ25
  have N25 := Fr.app N18 N25q
  show Go p e below (T25.setTop (mkF m 95 #[.val (.int p1), .val (.int p2), .val (.int p3), .val (.int p4), .val (.ref b1), .val (.int kk), .val (.ref b6), .unset, .unset, .unset, .unset, .unset, .unset, .unset, .unset, .unset] [(.ref b23), (.int (3 : Int32)), (.ref b6)])) _
  have gr27 := (Nat.le_trans (Nat.le_trans (Nat.le_trans gr19 E15.1) K17.1) (Keep.of_wr W18).1)
  have ne28 : b6 ≠ b23 := (Nat.ne_of_lt (Nat.lt_of_lt_of_le lt_b6 (Nat.le_trans gr27 (Nat.le_of_eq g23.symm))))
  have H29 := ((V18.ext E23).keep K25 (ninS ne28 nin0))
  have H30 := (A23.keep K25)
  refine Gk.aastore X25 hx hZ rfl H29 3 rfl ⟨by decide, by decide⟩ rfl rfl (Or.inr ⟨_, _, rfl, O6, Ins.self H30⟩) (hb hby at_95) ?_
  intro T26 h26 X26 e26 W26 V26
  have N26 := Fr.snoc X26 N25 g_b6
  have gr32 := (Nat.le_trans (Nat.le_trans (Nat.le_trans gr24 E23.1) K25.1) (Keep.of_wr W26).1)
  refine Gk.newO X26 hx hZ hown (hw _ (List.mem_of_getElem? (i := 22) rfl)) (hw _ (List.mem_of_getElem? (i := 23) rfl)) (hw _ (List.mem_of_getElem? (i := 24) rfl)) e26 (hb hby at_96) (by decide) (by decide) ?_
  intro T31 h31 b31 X31 e31 E31 g31 A31 D31
  have g_b31 : n0 ≤ b31 := Nat.le_trans (Nat.le_trans Z0 gr32) (Nat.le_of_eq g31.symm)
  have lt_b31 := A31.lt
  have F_states_b31 : Fld Z h31 b31 "com/example/tracewarden/tracewarden/engine/SearchTuples" "states" "[I" .null := D31 (Or.inl (hw _ (List.mem_of_getElem? (i := 40) rfl))) (ty := (.array .int)) (by decide)
  have F_hashes_b31 : Fld Z h31 b31 "com/example/tracewarden/tracewarden/engine/SearchTuples" "hashes" "[I" .null := D31 (Or.inl (hw _ (List.mem_of_getElem? (i := 42) rfl))) (ty := (.array .int)) (by decide)
  have F_zones_b31 : Fld Z h31 b31 "com/example/tracewarden/tracewarden/engine/SearchTuples" "zones" "[Lcom/example/tracewarden/tracewarden/engine/Zone;" .null := D31 (Or.inl (hw _ (List.mem_of_getElem? (i := 46) rfl))) (ty := (.array (.object "com/example/tracewarden/tracewarden/engine/Zone"))) (by decide)
  have F_sameStates_b31 : Fld Z h31 b31 "com/example/tracewarden/tracewarden/engine/SearchTuples" "sameStates" "[I" .null := D31 (Or.inl (hw _ (List.mem_of_getElem? (i := 48) rfl))) (ty := (.array .int)) (by decide)
  have F_held_b31 : Fld Z h31 b31 "com/example/tracewarden/tracewarden/engine/SearchTuples" "held" "[Z" .null := D31 (Or.inl (hw _ (List.mem_of_getElem? (i := 51) rfl))) (ty := (.array .boolean)) (by decide)
  have F_parents_b31 : Fld Z h31 b31 "com/example/tracewarden/tracewarden/engine/SearchTuples" "parents" "[I" .null := D31 (Or.inl (hw _ (List.mem_of_getElem? (i := 53) rfl))) (ty := (.array .int)) (by decide)
  have F_events_b31 : Fld Z h31 b31 "com/example/tracewarden/tracewarden/engine/SearchTuples" "events" "[Lcom/example/tracewarden/tracewarden/engine/SearchTuples$Event;" .null := D31 (Or.inl (hw _ (List.mem_of_getElem? (i := 56) rfl))) (ty := (.array (.object "com/example/tracewarden/tracewarden/engine/SearchTuples$Event"))) (by decide)
  have F_ranks_b31 : Fld Z h31 b31 "com/example/tracewarden/tracewarden/engine/SearchTuples" "ranks" "[I" .null := D31 (Or.inl (hw _ (List.mem_of_getElem? (i := 58) rfl))) (ty := (.array .int)) (by decide)
  have F_slots_b31 : Fld Z h31 b31 "com/example/tracewarden/tracewarden/engine/SearchTuples" "slots" "[I" .null := D31 (Or.inl (hw _ (List.mem_of_getElem? (i := 60) rfl))) (ty := (.array .int)) (by decide)
  have F_budget_b31 : Fld Z h31 b31 "com/example/tracewarden/tracewarden/engine/SearchTuples" "budget" "Lcom/example/tracewarden/tracewarden/engine/SearchBudget;" .null := D31 (Or.inr (hw _ (List.mem_of_getElem? (i := 62) rfl))) (ty := (.object "com/example/tracewarden/tracewarden/engine/SearchBudget")) (by decide)
  have F_width_b31 : Fld Z h31 b31 "com/example/tracewarden/tracewarden/engine/SearchTuples" "width" "I" (.int (0 : Int32)) := D31 (Or.inl (hw _ (List.mem_of_getElem? (i := 64) rfl))) (ty := .int) (by decide)
  have F_ranked_b31 : Fld Z h31 b31 "com/example/tracewarden/tracewarden/engine/SearchTuples" "ranked" "[[I" .null := D31 (Or.inl (hw _ (List.mem_of_getElem? (i := 68) rfl))) (ty := (.array (.array .int))) (by decide)
  have F_reached_b31 : Fld Z h31 b31 "com/example/tracewarden/tracewarden/engine/SearchTuples" "reached" "[I" .null := D31 (Or.inl (hw _ (List.mem_of_getElem? (i := 70) rfl))) (ty := (.array .int)) (by decide)
  have F_taken_b31 : Fld Z h31 b31 "com/example/tracewarden/tracewarden/engine/SearchTuples" "taken" "[I" .null := D31 (Or.inl (hw _ (List.mem_of_getElem? (i := 72) rfl))) (ty := (.array .int)) (by decide)
  have F_size_b31 : Fld Z h31 b31 "com/example/tracewarden/tracewarden/engine/SearchTuples" "size" "I" (.int (0 : Int32)) := D31 (Or.inl (hw _ (List.mem_of_getElem? (i := 105) rfl))) (ty := .int) (by decide)
  have F_lowest_b31 : Fld Z h31 b31 "com/example/tracewarden/tracewarden/engine/SearchTuples" "lowest" "I" (.int (0 : Int32)) := D31 (Or.inl (hw _ (List.mem_of_getElem? (i := 111) rfl))) (ty := .int) (by decide)
  refine Gk.dup X31 hx (hb hby at_99) rfl ?_
  refine Gk.iconst X31 hx (hb hby at_100) (1 : Int32) rfl ?_
  refine Gk.iconst X31 hx (hb hby at_101) (1 : Int32) rfl ?_
  refine Gk.newO X31 hx hZ hown (hw _ (List.mem_of_getElem? (i := 25) rfl)) (hw _ (List.mem_of_getElem? (i := 26) rfl)) (hw _ (List.mem_of_getElem? (i := 27) rfl)) e31 (hb hby at_102) (by decide) (by decide) ?_
  intro T33 h33 b33 X33 e33 E33 g33 A33 D33
  have g_b33 : n0 ≤ b33 := Nat.le_trans (Nat.le_trans Z0 (Nat.le_trans gr32 E31.1)) (Nat.le_of_eq g33.symm)
  have lt_b33 := A33.lt
  have F_left_b33 : Fld Z h33 b33 "com/example/tracewarden/tracewarden/engine/SearchBudget" "left" "J" (.long (0 : Int64)) := D33 (Or.inl (hw _ (List.mem_of_getElem? (i := 34) rfl))) (ty := .long) (by decide)
  refine Gk.dup X33 hx (hb hby at_105) rfl ?_
  refine Gk.ldcL X33 hx hZ hown (hw _ (List.mem_of_getElem? (i := 28) rfl)) (hb hby at_106) ?_
  have gr35 := (Nat.le_trans (Nat.le_trans gr32 E31.1) E33.1)
  refine Gk.callI (argsL := [(.long (4 : Int64))]) X33 hx hZ hown (rm4 l Z a0 hw [] b33 (.long (0 : Int64)) h33 n0 (Nat.le_trans Z0 gr35) A33 F_left_b33 g_b33) rfl (hw _ (List.mem_of_getElem? (i := 29) rfl)) (hw _ (List.mem_of_getElem? (i := 30) rfl)) (hw _ (List.mem_of_getElem? (i := 31) rfl)) rfl (by decide) (hw _ (List.mem_of_getElem? (i := 27) rfl)) e33 pd_6 rfl rfl (by decide) (Nat.le_of_ble_eq_true rfl) (by decide) (by decide) (by rw [hml]; rfl)  rfl (hb hby at_109) ?_
  intro T34 L34 v34 X34 hQ34
  obtain ⟨rfl, N34q, K34, Fl34⟩ := hQ34
  have N34 := Fr.app N26 N34q
  show Go p e below (T34.setTop (mkF m 112 #[.val (.int p1), .val (.int p2), .val (.int p3), .val (.int p4), .val (.ref b1), .val (.int kk), .val (.ref b6), .unset, .unset, .unset, .unset, .unset, .unset, .unset, .unset, .unset] [(.ref b33), (.int (1 : Int32)), (.int (1 : Int32)), (.ref b31), (.ref b31)])) _
  have ne37 : b31 ≠ b33 := (Nat.ne_of_lt (Nat.lt_of_lt_of_le lt_b31 (Nat.le_trans (Nat.le_refl _) (Nat.le_of_eq g33.symm))))
  have H38 := ((F_size_b31.ext E33).keep K34 (ninS ne37 nin0))
  have H39 := ((F_lowest_b31.ext E33).keep K34 (ninS ne37 nin0))
  have H40 := ((F_states_b31.ext E33).keep K34 (ninS ne37 nin0))
  have H41 := ((F_hashes_b31.ext E33).keep K34 (ninS ne37 nin0))
  have H42 := ((F_zones_b31.ext E33).keep K34 (ninS ne37 nin0))
  have H43 := ((F_sameStates_b31.ext E33).keep K34 (ninS ne37 nin0))
  have H44 := ((F_held_b31.ext E33).keep K34 (ninS ne37 nin0))
  have H45 := ((F_parents_b31.ext E33).keep K34 (ninS ne37 nin0))
  have H46 := ((F_events_b31.ext E33).keep K34 (ninS ne37 nin0))
  have H47 := ((F_ranks_b31.ext E33).keep K34 (ninS ne37 nin0))
  have H48 := ((F_slots_b31.ext E33).keep K34 (ninS ne37 nin0))
  have H49 := ((F_budget_b31.ext E33).keep K34 (ninS ne37 nin0))
  have H50 := ((F_width_b31.ext E33).keep K34 (ninS ne37 nin0))
  have H51 := ((F_ranked_b31.ext E33).keep K34 (ninS ne37 nin0))
  have H52 := ((F_reached_b31.ext E33).keep K34 (ninS ne37 nin0))
  have H53 := ((F_taken_b31.ext E33).keep K34 (ninS ne37 nin0))
  have H54 := ((A31.ext E33).keep K34)
  refine Gk.callI (argsL := [(.int (1 : Int32)), (.int (1 : Int32)), (.ref b33)]) X34 hx hZ hown (rm5 l Z a0 hw [] b31 b33 .null .null .null .null .null .null .null .null .null .null (.int (0 : Int32)) .null .null .null T34.heap n0 (Nat.le_trans Z0 (Nat.le_trans gr35 K34.1)) H54 H38 H39 H40 g_b31 H41 H42 H43 H44 H45 H46 H47 H48 H49 H50 H51 H52 H53) rfl (hw _ (List.mem_of_getElem? (i := 35) rfl)) (hw _ (List.mem_of_getElem? (i := 36) rfl)) (hw _ (List.mem_of_getElem? (i := 37) rfl)) rfl (by decide) (hw _ (List.mem_of_getElem? (i := 24) rfl)) rfl pd_7 rfl rfl (by decide) (Nat.le_of_ble_eq_true rfl) (by decide) (by decide) (by rw [hml]; rfl)  rfl (hb hby at_112) ?_
  intro T36 L36 v36 X36 hQ36
  obtain ⟨rfl, N36q, K36, x_states, x_hashes, x_zones, x_sameStates, x_held, x_parents, x_events, x_ranks, x_slots, x_ranked, x_rk0, x_reached, x_taken, kx_states, kx_hashes, kx_zones, kx_sameStates, kx_held, kx_parents, kx_events, kx_ranks, kx_slots, kx_ranked, kx_rk0, kx_reached, kx_taken, lx, lx0, lx1, lx2, lx3, lx4, lx5, lx6, lx7, lx8, lx9, lx10, lx11, Fx_budget, Fx_states, Fx_hashes, Fx_zones, Fx_sameStates, Fx_held, Fx_parents, Fx_events, Fx_ranks, Fx_slots, Fx_ranked, Fx_reached, Fx_taken, Fx_width, Fx_size, Fx_lowest, Vx_states, Vx_hashes, Vx_zones, Vx_sameStates, Vx_held, Vx_parents, Vx_events, Vx_ranks, Vx_slots, Vx_ranked, Vx_rk0, Vx_reached, Vx_taken, Ox⟩ := hQ36
  have N36 := Fr.app N34 N36q
  have lt_x_states := Vx_states.lt
  have g_x_states : n0 ≤ x_states := Nat.le_trans (Nat.le_trans Z0 (Nat.le_trans gr35 K34.1)) lx
  have lt_x_hashes := Vx_hashes.lt
  have g_x_hashes : n0 ≤ x_hashes := Nat.le_trans (Nat.le_trans Z0 (Nat.le_trans gr35 K34.1)) (Nat.le_trans lx (Nat.le_of_lt lx0))
  have lt_x_zones := Vx_zones.lt
  have g_x_zones : n0 ≤ x_zones := Nat.le_trans (Nat.le_trans Z0 (Nat.le_trans gr35 K34.1)) (Nat.le_trans lx (Nat.le_of_lt (Nat.lt_trans lx0 lx1)))
  have lt_x_sameStates := Vx_sameStates.lt
  have g_x_sameStates : n0 ≤ x_sameStates := Nat.le_trans (Nat.le_trans Z0 (Nat.le_trans gr35 K34.1)) (Nat.le_trans lx (Nat.le_of_lt (Nat.lt_trans lx0 (Nat.lt_trans lx1 lx2))))
  have lt_x_held := Vx_held.lt
  have g_x_held : n0 ≤ x_held := Nat.le_trans (Nat.le_trans Z0 (Nat.le_trans gr35 K34.1)) (Nat.le_trans lx (Nat.le_of_lt (Nat.lt_trans lx0 (Nat.lt_trans lx1 (Nat.lt_trans lx2 lx3)))))
  have lt_x_parents := Vx_parents.lt
  have g_x_parents : n0 ≤ x_parents := Nat.le_trans (Nat.le_trans Z0 (Nat.le_trans gr35 K34.1)) (Nat.le_trans lx (Nat.le_of_lt (Nat.lt_trans lx0 (Nat.lt_trans lx1 (Nat.lt_trans lx2 (Nat.lt_trans lx3 lx4))))))
  have lt_x_events := Vx_events.lt
  have g_x_events : n0 ≤ x_events := Nat.le_trans (Nat.le_trans Z0 (Nat.le_trans gr35 K34.1)) (Nat.le_trans lx (Nat.le_of_lt (Nat.lt_trans lx0 (Nat.lt_trans lx1 (Nat.lt_trans lx2 (Nat.lt_trans lx3 (Nat.lt_trans lx4 lx5)))))))
  have lt_x_ranks := Vx_ranks.lt
  have g_x_ranks : n0 ≤ x_ranks := Nat.le_trans (Nat.le_trans Z0 (Nat.le_trans gr35 K34.1)) (Nat.le_trans lx (Nat.le_of_lt (Nat.lt_trans lx0 (Nat.lt_trans lx1 (Nat.lt_trans lx2 (Nat.lt_trans lx3 (Nat.lt_trans lx4 (Nat.lt_trans lx5 lx6))))))))
  have lt_x_slots := Vx_slots.lt
  have g_x_slots : n0 ≤ x_slots := Nat.le_trans (Nat.le_trans Z0 (Nat.le_trans gr35 K34.1)) (Nat.le_trans lx (Nat.le_of_lt (Nat.lt_trans lx0 (Nat.lt_trans lx1 (Nat.lt_trans lx2 (Nat.lt_trans lx3 (Nat.lt_trans lx4 (Nat.lt_trans lx5 (Nat.lt_trans lx6 lx7)))))))))
  have lt_x_ranked := Vx_ranked.lt
  have g_x_ranked : n0 ≤ x_ranked := Nat.le_trans (Nat.le_trans Z0 (Nat.le_trans gr35 K34.1)) (Nat.le_trans lx (Nat.le_of_lt (Nat.lt_trans lx0 (Nat.lt_trans lx1 (Nat.lt_trans lx2 (Nat.lt_trans lx3 (Nat.lt_trans lx4 (Nat.lt_trans lx5 (Nat.lt_trans lx6 (Nat.lt_trans lx7 lx8))))))))))
  have lt_x_rk0 := Vx_rk0.lt
  have g_x_rk0 : n0 ≤ x_rk0 := Nat.le_trans (Nat.le_trans Z0 (Nat.le_trans gr35 K34.1)) (Nat.le_trans lx (Nat.le_of_lt (Nat.lt_trans lx0 (Nat.lt_trans lx1 (Nat.lt_trans lx2 (Nat.lt_trans lx3 (Nat.lt_trans lx4 (Nat.lt_trans lx5 (Nat.lt_trans lx6 (Nat.lt_trans lx7 (Nat.lt_trans lx8 lx9)))))))))))
  have lt_x_reached := Vx_reached.lt
  have g_x_reached : n0 ≤ x_reached := Nat.le_trans (Nat.le_trans Z0 (Nat.le_trans gr35 K34.1)) (Nat.le_trans lx (Nat.le_of_lt (Nat.lt_trans lx0 (Nat.lt_trans lx1 (Nat.lt_trans lx2 (Nat.lt_trans lx3 (Nat.lt_trans lx4 (Nat.lt_trans lx5 (Nat.lt_trans lx6 (Nat.lt_trans lx7 (Nat.lt_trans lx8 (Nat.lt_trans lx9 lx10))))))))))))
  have lt_x_taken := Vx_taken.lt
  have g_x_taken : n0 ≤ x_taken := Nat.le_trans (Nat.le_trans Z0 (Nat.le_trans gr35 K34.1)) (Nat.le_trans lx (Nat.le_of_lt (Nat.lt_trans lx0 (Nat.lt_trans lx1 (Nat.lt_trans lx2 (Nat.lt_trans lx3 (Nat.lt_trans lx4 (Nat.lt_trans lx5 (Nat.lt_trans lx6 (Nat.lt_trans lx7 (Nat.lt_trans lx8 (Nat.lt_trans lx9 (Nat.lt_trans lx10 lx11)))))))))))))
  show Go p e below (T36.setTop (mkF m 115 #[.val (.int p1), .val (.int p2), .val (.int p3), .val (.int p4), .val (.ref b1), .val (.int kk), .val (.ref b6), .unset, .unset, .unset, .unset, .unset, .unset, .unset, .unset, .unset] [(.ref b31)])) _
  refine Gk.astore X36 hx (hb hby at_115) rfl #[.val (.int p1), .val (.int p2), .val (.int p3), .val (.int p4), .val (.ref b1), .val (.int kk), .val (.ref b6), .val (.ref b31), .unset, .unset, .unset, .unset, .unset, .unset, .unset, .unset] rfl ?_
  refine Gk.iconst X36 hx (hb hby at_117) (1 : Int32) rfl ?_
  have gr56 := (Nat.le_trans (Nat.le_trans gr35 K34.1) K36.1)
  refine Gk.newP X36 hx hZ (hw _ (List.mem_of_getElem? (i := 0) rfl)) rfl (hb hby at_118) (by decide) (cap := 1) (by decide) (by decide) (by decide) (by decide) rfl ?_
  intro T55 h55 b55 k55 X55 e55 E55 g55 A55 B55
  have g_b55 : n0 ≤ b55 := Nat.le_trans (Nat.le_trans Z0 gr56) (Nat.le_of_eq g55.symm)
  have V_b55 : Arf Z h55 b55 k55 .int (1 : Int32) (fun _ => (.int (0 : Int32))) := A55
  have lt_b55 := V_b55.lt
  refine Gk.astore X55 hx (hb hby at_120) rfl #[.val (.int p1), .val (.int p2), .val (.int p3), .val (.int p4), .val (.ref b1), .val (.int kk), .val (.ref b6), .val (.ref b31), .val (.ref b55), .unset, .unset, .unset, .unset, .unset, .unset, .unset] rfl ?_
  refine Gk.aload X55 hx (hb hby at_122) rfl rfl ?_
  refine Gk.iconst X55 hx (hb hby at_124) (0 : Int32) rfl ?_
  refine Gk.iconst X55 hx (hb hby at_125) (0 : Int32) rfl ?_
  refine Gk.iastore X55 hx hZ e55 V_b55 0 rfl ⟨by decide, by decide⟩ (.int (0 : Int32)) rfl (hb hby at_126) ?_
  intro T57 h57 X57 e57 W57 V57
  have N57 := Fr.snoc X57 N36 g_b55
  refine Gk.aload X57 hx (hb hby at_127) rfl rfl ?_
  refine Gk.aload X57 hx (hb hby at_129) rfl rfl ?_
  refine Gk.aload X57 hx (hb hby at_131) rfl rfl ?_
  refine Gk.aload X57 hx (hb hby at_133) rfl rfl ?_
  have gr59 := (Nat.le_trans (Nat.le_trans E33.1 K34.1) K36.1)
  have ne60 : b31 ≠ b55 := (Nat.ne_of_lt (Nat.lt_of_lt_of_le lt_b31 (Nat.le_trans gr59 (Nat.le_of_eq g55.symm))))
  have H61 := ((Fx_width.ext E55).other W57 (Or.inl ne60))
  have gr62 := (Nat.le_trans (Nat.le_trans gr56 E55.1) (Keep.of_wr W57).1)
  have H63 := (((H54.keep K36).ext E55).wr W57)
  refine Gk.callV (argsL := [(.ref b55)]) X57 hx hZ hown (rm6_0 l Z a0 hw [] b31 b55 k55 (upd (fun _ => (.int (0 : Int32))) 0 (.int (0 : Int32))) h57 n0 (Nat.le_trans Z0 gr62) V57 rfl H61) (hw _ (List.mem_of_getElem? (i := 73) rfl)) (hw _ (List.mem_of_getElem? (i := 74) rfl)) (notFace_of_selects (args := #[]) (mvT hZ (hw _ (List.mem_of_getElem? (i := 76) rfl)))) (hw _ (List.mem_of_getElem? (i := 76) rfl)) (hw _ (List.mem_of_getElem? (i := 75) rfl)) (by decide) (hw _ (List.mem_of_getElem? (i := 77) rfl)) (hw _ (List.mem_of_getElem? (i := 24) rfl)) e57 H63 pd_8 rfl rfl (by decide) (Nat.le_of_ble_eq_true rfl) (by decide) (by decide) (by rw [hml]; rfl)  rfl (hb hby at_135) ?_
  intro T58 L58 v58 X58 hQ58
  obtain ⟨rfl, N58q, e58⟩ := hQ58
  have N58 := Fr.app N57 N58q
  show Go p e below (T58.setTop (mkF m 138 #[.val (.int p1), .val (.int p2), .val (.int p3), .val (.int p4), .val (.ref b1), .val (.int kk), .val (.ref b6), .val (.ref b31), .val (.ref b55), .unset, .unset, .unset, .unset, .unset, .unset, .unset] [(.int (0 : Int32)), (.ref b55), (.ref b31)])) _
  refine Gk.aconstNull X58 hx (hb hby at_138) ?_
  refine Gk.aload X58 hx (hb hby at_139) rfl rfl ?_
  refine Gk.iconst X58 hx (hb hby at_141) (0 : Int32) rfl ?_
  have gr65 := (Nat.le_trans (Nat.le_trans (Nat.le_trans (Nat.le_trans (Keep.of_wr W2).1 (Keep.of_wr W3).1) (Keep.of_wr W4).1) (Keep.of_wr W5).1) E6.1)
  have ne66 : b1 ≠ b8 := (Nat.ne_of_lt (Nat.lt_of_lt_of_le lt_b1 (Nat.le_trans gr65 (Nat.le_of_eq g8.symm))))
  have gr67 := (Nat.le_trans (Nat.le_trans (Nat.le_trans (Keep.of_wr W2).1 (Keep.of_wr W3).1) (Keep.of_wr W4).1) (Keep.of_wr W5).1)
  have ne68 : b1 ≠ b6 := (Nat.ne_of_lt (Nat.lt_of_lt_of_le lt_b1 (Nat.le_trans gr67 (Nat.le_of_eq g6.symm))))
  have gr69 := (Nat.le_trans (Nat.le_trans (Nat.le_trans gr65 E8.1) K9.1) (Keep.of_wr W11).1)
  have ne70 : b1 ≠ b15 := (Nat.ne_of_lt (Nat.lt_of_lt_of_le lt_b1 (Nat.le_trans gr69 (Nat.le_of_eq g15.symm))))
  have gr71 := (Nat.le_trans (Nat.le_trans (Nat.le_trans gr69 E15.1) K17.1) (Keep.of_wr W18).1)
  have ne72 : b1 ≠ b23 := (Nat.ne_of_lt (Nat.lt_of_lt_of_le lt_b1 (Nat.le_trans gr71 (Nat.le_of_eq g23.symm))))
  have gr73 := (Nat.le_trans (Nat.le_trans (Nat.le_trans (Nat.le_trans gr71 E23.1) K25.1) (Keep.of_wr W26).1) E31.1)
  have ne74 : b1 ≠ b33 := (Nat.ne_of_lt (Nat.lt_of_lt_of_le lt_b1 (Nat.le_trans gr73 (Nat.le_of_eq g33.symm))))
  have gr75 := (Nat.le_trans (Nat.le_trans (Nat.le_trans gr71 E23.1) K25.1) (Keep.of_wr W26).1)
  have ne76 : b1 ≠ b31 := (Nat.ne_of_lt (Nat.lt_of_lt_of_le lt_b1 (Nat.le_trans gr75 (Nat.le_of_eq g31.symm))))
  have gr77 := (Nat.le_trans (Nat.le_trans (Nat.le_trans gr73 E33.1) K34.1) K36.1)
  have ne78 : b1 ≠ b55 := (Nat.ne_of_lt (Nat.lt_of_lt_of_le lt_b1 (Nat.le_trans gr77 (Nat.le_of_eq g55.symm))))
  have H79 := ((((((((((((((((V5.ext E6).ext E8).keep K9 (ninS ne66 nin0)).other W11 ne68).ext E15).keep K17 (ninS ne70 nin0)).other W18 ne68).ext E23).keep K25 (ninS ne72 nin0)).other W26 ne68).ext E31).ext E33).keep K34 (ninS ne74 nin0)).keep K36 (ninS ne76 nin0)).ext E55).other W57 ne78)
  refine Gk.iaload X58 hx hZ e58 H79 ⟨by decide, by decide⟩ (.int (-1 : Int32)) rfl (hb hby at_142) ?_
  refine Gk.aload X58 hx (hb hby at_143) rfl rfl ?_
  refine Gk.iconst X58 hx (hb hby at_145) (0 : Int32) rfl ?_
  have gr81 := (Nat.le_trans (Nat.le_trans (Nat.le_trans (Nat.le_trans gr27 E23.1) K25.1) (Keep.of_wr W26).1) E31.1)
  have ne82 : b6 ≠ b33 := (Nat.ne_of_lt (Nat.lt_of_lt_of_le lt_b6 (Nat.le_trans gr81 (Nat.le_of_eq g33.symm))))
  have gr83 := (Nat.le_trans (Nat.le_trans (Nat.le_trans gr27 E23.1) K25.1) (Keep.of_wr W26).1)
  have ne84 : b6 ≠ b31 := (Nat.ne_of_lt (Nat.lt_of_lt_of_le lt_b6 (Nat.le_trans gr83 (Nat.le_of_eq g31.symm))))
  have gr85 := (Nat.le_trans (Nat.le_trans (Nat.le_trans gr81 E33.1) K34.1) K36.1)
  have ne86 : b6 ≠ b55 := (Nat.ne_of_lt (Nat.lt_of_lt_of_le lt_b6 (Nat.le_trans gr85 (Nat.le_of_eq g55.symm))))
  have H87 := ((((((V26.ext E31).ext E33).keep K34 (ninS ne82 nin0)).keep K36 (ninS ne84 nin0)).ext E55).other W57 ne86)
  refine Gk.aaload X58 hx hZ e58 H87 rfl ⟨by decide, by decide⟩ .null rfl (hb hby at_146) ?_
  refine Gk.iconst X58 hx (hb hby at_147) (0 : Int32) rfl ?_
  have H89 := ((((A33.keep K34).keep K36).ext E55).wr W57)
  have ne90 : x_states ≠ b55 := (Nat.ne_of_lt (Nat.lt_of_lt_of_le lt_x_states (Nat.le_trans (Nat.le_refl _) (Nat.le_of_eq g55.symm))))
  have H91 := ((Vx_states.ext E55).other W57 ne90)
  have ne92 : x_hashes ≠ b55 := (Nat.ne_of_lt (Nat.lt_of_lt_of_le lt_x_hashes (Nat.le_trans (Nat.le_refl _) (Nat.le_of_eq g55.symm))))
  have H93 := ((Vx_hashes.ext E55).other W57 ne92)
  have ne94 : x_zones ≠ b55 := (Nat.ne_of_lt (Nat.lt_of_lt_of_le lt_x_zones (Nat.le_trans (Nat.le_refl _) (Nat.le_of_eq g55.symm))))
  have H95 := ((Vx_zones.ext E55).other W57 ne94)
  have ne96 : x_sameStates ≠ b55 := (Nat.ne_of_lt (Nat.lt_of_lt_of_le lt_x_sameStates (Nat.le_trans (Nat.le_refl _) (Nat.le_of_eq g55.symm))))
  have H97 := ((Vx_sameStates.ext E55).other W57 ne96)
  have ne98 : x_held ≠ b55 := (Nat.ne_of_lt (Nat.lt_of_lt_of_le lt_x_held (Nat.le_trans (Nat.le_refl _) (Nat.le_of_eq g55.symm))))
  have H99 := ((Vx_held.ext E55).other W57 ne98)
  have ne100 : x_parents ≠ b55 := (Nat.ne_of_lt (Nat.lt_of_lt_of_le lt_x_parents (Nat.le_trans (Nat.le_refl _) (Nat.le_of_eq g55.symm))))
  have H101 := ((Vx_parents.ext E55).other W57 ne100)
  have ne102 : x_events ≠ b55 := (Nat.ne_of_lt (Nat.lt_of_lt_of_le lt_x_events (Nat.le_trans (Nat.le_refl _) (Nat.le_of_eq g55.symm))))
  have H103 := ((Vx_events.ext E55).other W57 ne102)
  have ne104 : x_ranks ≠ b55 := (Nat.ne_of_lt (Nat.lt_of_lt_of_le lt_x_ranks (Nat.le_trans (Nat.le_refl _) (Nat.le_of_eq g55.symm))))
  have H105 := ((Vx_ranks.ext E55).other W57 ne104)
  have ne106 : x_slots ≠ b55 := (Nat.ne_of_lt (Nat.lt_of_lt_of_le lt_x_slots (Nat.le_trans (Nat.le_refl _) (Nat.le_of_eq g55.symm))))
  have H107 := ((Vx_slots.ext E55).other W57 ne106)
  have ne108 : x_ranked ≠ b55 := (Nat.ne_of_lt (Nat.lt_of_lt_of_le lt_x_ranked (Nat.le_trans (Nat.le_refl _) (Nat.le_of_eq g55.symm))))
  have H109 := ((Vx_ranked.ext E55).other W57 ne108)
  have ne110 : x_rk0 ≠ b55 := (Nat.ne_of_lt (Nat.lt_of_lt_of_le lt_x_rk0 (Nat.le_trans (Nat.le_refl _) (Nat.le_of_eq g55.symm))))
  have H111 := ((Vx_rk0.ext E55).other W57 ne110)
  have ne112 : x_reached ≠ b55 := (Nat.ne_of_lt (Nat.lt_of_lt_of_le lt_x_reached (Nat.le_trans (Nat.le_refl _) (Nat.le_of_eq g55.symm))))
  have H113 := ((Vx_reached.ext E55).other W57 ne112)
  have H114 := ((Fx_states.ext E55).other W57 (Or.inl ne60))
  have H115 := ((Fx_hashes.ext E55).other W57 (Or.inl ne60))
  have H116 := ((Fx_zones.ext E55).other W57 (Or.inl ne60))
  have H117 := ((Fx_sameStates.ext E55).other W57 (Or.inl ne60))
  have H118 := ((Fx_held.ext E55).other W57 (Or.inl ne60))
  have H119 := ((Fx_parents.ext E55).other W57 (Or.inl ne60))
  have H120 := ((Fx_events.ext E55).other W57 (Or.inl ne60))
  have H121 := ((Fx_ranks.ext E55).other W57 (Or.inl ne60))
  have H122 := ((Fx_slots.ext E55).other W57 (Or.inl ne60))
  have H123 := ((Fx_ranked.ext E55).other W57 (Or.inl ne60))
  have H124 := ((Fx_reached.ext E55).other W57 (Or.inl ne60))
  have H125 := ((Fx_budget.ext E55).other W57 (Or.inl ne60))
  have ne126 : b33 ≠ b55 := (Nat.ne_of_lt (Nat.lt_of_lt_of_le lt_b33 (Nat.le_trans (Nat.le_trans K34.1 K36.1) (Nat.le_of_eq g55.symm))))
  have H127 := (((Fl34.keep K36 (ninS (Ne.symm ne37) nin0)).ext E55).other W57 (Or.inl ne126))
  have H128 := ((Fx_size.ext E55).other W57 (Or.inl ne60))
  have H129 := ((Fx_lowest.ext E55).other W57 (Or.inl ne60))
  refine Gk.callV (argsL := [(.ref b55), (.int (0 : Int32)), .null, (.int (-1 : Int32)), .null, (.int (0 : Int32))]) X58 hx hZ hown (rm9_0 l Z a0 hw [] b31 b55 (-1 : Int32) b33 x_states x_hashes x_zones x_sameStates x_held x_parents x_events x_ranks x_slots x_ranked x_rk0 x_reached kx_states kx_hashes kx_zones kx_sameStates kx_held kx_parents kx_events kx_ranks kx_slots kx_ranked kx_rk0 kx_reached (fun _ => (.int (0 : Int32))) (fun _ => (.int (0 : Int32))) (fun _ => .null) (fun _ => (.int (0 : Int32))) (fun _ => (.int (0 : Int32))) (fun _ => (.int (0 : Int32))) (fun _ => .null) (fun _ => (.int (0 : Int32))) (fun _ => (.int (0 : Int32))) (fun _ => (.ref x_rk0)) (fun _ => (.int (0 : Int32))) (fun _ => (.int (0 : Int32))) k55 (upd (fun _ => (.int (0 : Int32))) 0 (.int (0 : Int32))) h57 n0 (Nat.le_trans Z0 gr62) H63 H89 g_b31 (Nat.lt_of_lt_of_le lt_b31 (Nat.le_trans (Nat.le_refl _) (Nat.le_of_eq g33.symm))) (Nat.lt_of_lt_of_le lt_b33 (Nat.le_trans K34.1 lx)) lx0 lx1 lx2 lx3 lx4 lx5 lx6 lx7 lx8 lx9 lx10 (Nat.lt_of_lt_of_le lt_x_reached (Nat.le_trans (Nat.le_refl _) (Nat.le_of_eq g55.symm))) Ox H91 H93 H95 H97 H99 H101 H103 H105 H107 H109 H111 H113 V57 rfl rfl rfl rfl H114 H115 H116 H117 H118 H119 H120 H121 H122 H123 H124 H125 H127 H61 H128 H129) (hw _ (List.mem_of_getElem? (i := 86) rfl)) (hw _ (List.mem_of_getElem? (i := 87) rfl)) (notFace_of_selects (args := #[]) (mvT hZ (hw _ (List.mem_of_getElem? (i := 89) rfl)))) (hw _ (List.mem_of_getElem? (i := 89) rfl)) (hw _ (List.mem_of_getElem? (i := 88) rfl)) (by decide) (hw _ (List.mem_of_getElem? (i := 90) rfl)) (hw _ (List.mem_of_getElem? (i := 24) rfl)) e58 H63 pd_9 rfl rfl (by decide) (Nat.le_of_ble_eq_true rfl) (by decide) (by decide) (by rw [hml]; rfl)  rfl (hb hby at_148) ?_
  intro T88 L88 v88 X88 hQ88
  obtain ⟨rfl, N88q, K88, Fl88, Fs88, Fo88, Fa88_states, Fa88_hashes, Fa88_zones, Fa88_sameStates, Fa88_held, Fa88_parents, Fa88_events, Fa88_ranks, Fa88_slots, Fa88_ranked, Fa88_reached, Fa88_budget, Fa88_width, Va88_slots, Va88_hashes, Va88_parents, Va88_events, Va88_reached, ⟨fa88_states, Va88_states⟩, ⟨fa88_zones, Va88_zones⟩, ⟨fa88_sameStates, Va88_sameStates⟩, ⟨fa88_held, Va88_held⟩, ⟨fa88_ranks, Va88_ranks⟩, ⟨fa88_rk0, Va88_rk0⟩⟩ := hQ88
  have N88 := Fr.app N58 N88q
  show Go p e below (T88.setTop (mkF m 151 #[.val (.int p1), .val (.int p2), .val (.int p3), .val (.int p4), .val (.ref b1), .val (.int kk), .val (.ref b6), .val (.ref b31), .val (.ref b55), .unset, .unset, .unset, .unset, .unset, .unset, .unset] [])) _
  refine Gk.aload X88 hx (hb hby at_151) rfl rfl ?_
  refine Gk.iconst X88 hx (hb hby at_153) (0 : Int32) rfl ?_
  refine Gk.iconst X88 hx (hb hby at_154) (1 : Int32) rfl ?_
  have ni131 : b55 ∉ [b31, b33, x_states, x_hashes, x_zones, x_sameStates, x_held, x_parents, x_events, x_ranks, x_slots, x_rk0, x_reached] := (ninS (Ne.symm ne60) (ninS (Ne.symm ne126) (ninS (Ne.symm ne90) (ninS (Ne.symm ne92) (ninS (Ne.symm ne94) (ninS (Ne.symm ne96) (ninS (Ne.symm ne98) (ninS (Ne.symm ne100) (ninS (Ne.symm ne102) (ninS (Ne.symm ne104) (ninS (Ne.symm ne106) (ninS (Ne.symm ne110) (ninS (Ne.symm ne112) nin0)))))))))))))
  have H132 := (V57.keep K88 ni131)
  refine Gk.iastore X88 hx hZ rfl H132 0 rfl ⟨by decide, by decide⟩ (.int (1 : Int32)) rfl (hb hby at_155) ?_
  intro T130 h130 X130 e130 W130 V130
  have N130 := Fr.snoc X130 N88 g_b55
  refine Gk.aload X130 hx (hb hby at_156) rfl rfl ?_
  refine Gk.aload X130 hx (hb hby at_158) rfl rfl ?_
  refine Gk.aload X130 hx (hb hby at_160) rfl rfl ?_
  refine Gk.aload X130 hx (hb hby at_162) rfl rfl ?_
  have H134 := (Fa88_width.other W130 (Or.inl ne60))
  have gr135 := (Nat.le_trans (Nat.le_trans gr62 K88.1) (Keep.of_wr W130).1)
  have H136 := ((H63.keep K88).wr W130)
  refine Gk.callV (argsL := [(.ref b55)]) X130 hx hZ hown (rm6_1 l Z a0 hw [] b31 b55 k55 (upd (upd (fun _ => (.int (0 : Int32))) 0 (.int (0 : Int32))) 0 (.int (1 : Int32))) h130 n0 (Nat.le_trans Z0 gr135) V130 rfl H134) (hw _ (List.mem_of_getElem? (i := 73) rfl)) (hw _ (List.mem_of_getElem? (i := 74) rfl)) (notFace_of_selects (args := #[]) (mvT hZ (hw _ (List.mem_of_getElem? (i := 76) rfl)))) (hw _ (List.mem_of_getElem? (i := 76) rfl)) (hw _ (List.mem_of_getElem? (i := 75) rfl)) (by decide) (hw _ (List.mem_of_getElem? (i := 77) rfl)) (hw _ (List.mem_of_getElem? (i := 24) rfl)) e130 H136 pd_8 rfl rfl (by decide) (Nat.le_of_ble_eq_true rfl) (by decide) (by decide) (by rw [hml]; rfl)  rfl (hb hby at_164) ?_
  intro T133 L133 v133 X133 hQ133
  obtain ⟨rfl, N133q, e133⟩ := hQ133
  have N133 := Fr.app N130 N133q
  show Go p e below (T133.setTop (mkF m 167 #[.val (.int p1), .val (.int p2), .val (.int p3), .val (.int p4), .val (.ref b1), .val (.int kk), .val (.ref b6), .val (.ref b31), .val (.ref b55), .unset, .unset, .unset, .unset, .unset, .unset, .unset] [(.int (-511900244 : Int32)), (.ref b55), (.ref b31)])) _
  refine Gk.aconstNull X133 hx (hb hby at_167) ?_
  refine Gk.aload X133 hx (hb hby at_168) rfl rfl ?_
  refine Gk.iconst X133 hx (hb hby at_170) (1 : Int32) rfl ?_
  have gr138 := (Nat.le_trans (Nat.le_trans gr73 E33.1) K34.1)
  have ne139 : b1 ≠ x_reached := (Nat.ne_of_lt (Nat.lt_of_lt_of_le lt_b1 (Nat.le_trans gr138 (Nat.le_trans lx (Nat.le_of_lt (Nat.lt_trans lx0 (Nat.lt_trans lx1 (Nat.lt_trans lx2 (Nat.lt_trans lx3 (Nat.lt_trans lx4 (Nat.lt_trans lx5 (Nat.lt_trans lx6 (Nat.lt_trans lx7 (Nat.lt_trans lx8 (Nat.lt_trans lx9 lx10)))))))))))))))
  have ne140 : b1 ≠ x_rk0 := (Nat.ne_of_lt (Nat.lt_of_lt_of_le lt_b1 (Nat.le_trans gr138 (Nat.le_trans lx (Nat.le_of_lt (Nat.lt_trans lx0 (Nat.lt_trans lx1 (Nat.lt_trans lx2 (Nat.lt_trans lx3 (Nat.lt_trans lx4 (Nat.lt_trans lx5 (Nat.lt_trans lx6 (Nat.lt_trans lx7 (Nat.lt_trans lx8 lx9))))))))))))))
  have ne141 : b1 ≠ x_slots := (Nat.ne_of_lt (Nat.lt_of_lt_of_le lt_b1 (Nat.le_trans gr138 (Nat.le_trans lx (Nat.le_of_lt (Nat.lt_trans lx0 (Nat.lt_trans lx1 (Nat.lt_trans lx2 (Nat.lt_trans lx3 (Nat.lt_trans lx4 (Nat.lt_trans lx5 (Nat.lt_trans lx6 lx7))))))))))))
  have ne142 : b1 ≠ x_ranks := (Nat.ne_of_lt (Nat.lt_of_lt_of_le lt_b1 (Nat.le_trans gr138 (Nat.le_trans lx (Nat.le_of_lt (Nat.lt_trans lx0 (Nat.lt_trans lx1 (Nat.lt_trans lx2 (Nat.lt_trans lx3 (Nat.lt_trans lx4 (Nat.lt_trans lx5 lx6)))))))))))
  have ne143 : b1 ≠ x_events := (Nat.ne_of_lt (Nat.lt_of_lt_of_le lt_b1 (Nat.le_trans gr138 (Nat.le_trans lx (Nat.le_of_lt (Nat.lt_trans lx0 (Nat.lt_trans lx1 (Nat.lt_trans lx2 (Nat.lt_trans lx3 (Nat.lt_trans lx4 lx5))))))))))
  have ne144 : b1 ≠ x_parents := (Nat.ne_of_lt (Nat.lt_of_lt_of_le lt_b1 (Nat.le_trans gr138 (Nat.le_trans lx (Nat.le_of_lt (Nat.lt_trans lx0 (Nat.lt_trans lx1 (Nat.lt_trans lx2 (Nat.lt_trans lx3 lx4)))))))))
  have ne145 : b1 ≠ x_held := (Nat.ne_of_lt (Nat.lt_of_lt_of_le lt_b1 (Nat.le_trans gr138 (Nat.le_trans lx (Nat.le_of_lt (Nat.lt_trans lx0 (Nat.lt_trans lx1 (Nat.lt_trans lx2 lx3))))))))
  have ne146 : b1 ≠ x_sameStates := (Nat.ne_of_lt (Nat.lt_of_lt_of_le lt_b1 (Nat.le_trans gr138 (Nat.le_trans lx (Nat.le_of_lt (Nat.lt_trans lx0 (Nat.lt_trans lx1 lx2)))))))
  have ne147 : b1 ≠ x_zones := (Nat.ne_of_lt (Nat.lt_of_lt_of_le lt_b1 (Nat.le_trans gr138 (Nat.le_trans lx (Nat.le_of_lt (Nat.lt_trans lx0 lx1))))))
  have ne148 : b1 ≠ x_hashes := (Nat.ne_of_lt (Nat.lt_of_lt_of_le lt_b1 (Nat.le_trans gr138 (Nat.le_trans lx (Nat.le_of_lt lx0)))))
  have ne149 : b1 ≠ x_states := (Nat.ne_of_lt (Nat.lt_of_lt_of_le lt_b1 (Nat.le_trans gr138 lx)))
  have ni150 : b1 ∉ [b31, b33, x_states, x_hashes, x_zones, x_sameStates, x_held, x_parents, x_events, x_ranks, x_slots, x_rk0, x_reached] := (ninS ne76 (ninS ne74 (ninS ne149 (ninS ne148 (ninS ne147 (ninS ne146 (ninS ne145 (ninS ne144 (ninS ne143 (ninS ne142 (ninS ne141 (ninS ne140 (ninS ne139 nin0)))))))))))))
  have H151 := ((H79.keep K88 ni150).other W130 ne78)
  refine Gk.iaload X133 hx hZ e133 H151 ⟨by decide, by decide⟩ (.int P1) rfl (hb hby at_171) ?_
  refine Gk.aload X133 hx (hb hby at_172) rfl rfl ?_
  refine Gk.iconst X133 hx (hb hby at_174) (1 : Int32) rfl ?_
  have gr153 := (Nat.le_trans (Nat.le_trans gr81 E33.1) K34.1)
  have ne154 : b6 ≠ x_reached := (Nat.ne_of_lt (Nat.lt_of_lt_of_le lt_b6 (Nat.le_trans gr153 (Nat.le_trans lx (Nat.le_of_lt (Nat.lt_trans lx0 (Nat.lt_trans lx1 (Nat.lt_trans lx2 (Nat.lt_trans lx3 (Nat.lt_trans lx4 (Nat.lt_trans lx5 (Nat.lt_trans lx6 (Nat.lt_trans lx7 (Nat.lt_trans lx8 (Nat.lt_trans lx9 lx10)))))))))))))))
  have ne155 : b6 ≠ x_rk0 := (Nat.ne_of_lt (Nat.lt_of_lt_of_le lt_b6 (Nat.le_trans gr153 (Nat.le_trans lx (Nat.le_of_lt (Nat.lt_trans lx0 (Nat.lt_trans lx1 (Nat.lt_trans lx2 (Nat.lt_trans lx3 (Nat.lt_trans lx4 (Nat.lt_trans lx5 (Nat.lt_trans lx6 (Nat.lt_trans lx7 (Nat.lt_trans lx8 lx9))))))))))))))
  have ne156 : b6 ≠ x_slots := (Nat.ne_of_lt (Nat.lt_of_lt_of_le lt_b6 (Nat.le_trans gr153 (Nat.le_trans lx (Nat.le_of_lt (Nat.lt_trans lx0 (Nat.lt_trans lx1 (Nat.lt_trans lx2 (Nat.lt_trans lx3 (Nat.lt_trans lx4 (Nat.lt_trans lx5 (Nat.lt_trans lx6 lx7))))))))))))
  have ne157 : b6 ≠ x_ranks := (Nat.ne_of_lt (Nat.lt_of_lt_of_le lt_b6 (Nat.le_trans gr153 (Nat.le_trans lx (Nat.le_of_lt (Nat.lt_trans lx0 (Nat.lt_trans lx1 (Nat.lt_trans lx2 (Nat.lt_trans lx3 (Nat.lt_trans lx4 (Nat.lt_trans lx5 lx6)))))))))))
  have ne158 : b6 ≠ x_events := (Nat.ne_of_lt (Nat.lt_of_lt_of_le lt_b6 (Nat.le_trans gr153 (Nat.le_trans lx (Nat.le_of_lt (Nat.lt_trans lx0 (Nat.lt_trans lx1 (Nat.lt_trans lx2 (Nat.lt_trans lx3 (Nat.lt_trans lx4 lx5))))))))))
  have ne159 : b6 ≠ x_parents := (Nat.ne_of_lt (Nat.lt_of_lt_of_le lt_b6 (Nat.le_trans gr153 (Nat.le_trans lx (Nat.le_of_lt (Nat.lt_trans lx0 (Nat.lt_trans lx1 (Nat.lt_trans lx2 (Nat.lt_trans lx3 lx4)))))))))
  have ne160 : b6 ≠ x_held := (Nat.ne_of_lt (Nat.lt_of_lt_of_le lt_b6 (Nat.le_trans gr153 (Nat.le_trans lx (Nat.le_of_lt (Nat.lt_trans lx0 (Nat.lt_trans lx1 (Nat.lt_trans lx2 lx3))))))))
  have ne161 : b6 ≠ x_sameStates := (Nat.ne_of_lt (Nat.lt_of_lt_of_le lt_b6 (Nat.le_trans gr153 (Nat.le_trans lx (Nat.le_of_lt (Nat.lt_trans lx0 (Nat.lt_trans lx1 lx2)))))))
  have ne162 : b6 ≠ x_zones := (Nat.ne_of_lt (Nat.lt_of_lt_of_le lt_b6 (Nat.le_trans gr153 (Nat.le_trans lx (Nat.le_of_lt (Nat.lt_trans lx0 lx1))))))
  have ne163 : b6 ≠ x_hashes := (Nat.ne_of_lt (Nat.lt_of_lt_of_le lt_b6 (Nat.le_trans gr153 (Nat.le_trans lx (Nat.le_of_lt lx0)))))
  have ne164 : b6 ≠ x_states := (Nat.ne_of_lt (Nat.lt_of_lt_of_le lt_b6 (Nat.le_trans gr153 lx)))
  have ni165 : b6 ∉ [b31, b33, x_states, x_hashes, x_zones, x_sameStates, x_held, x_parents, x_events, x_ranks, x_slots, x_rk0, x_reached] := (ninS ne84 (ninS ne82 (ninS ne164 (ninS ne163 (ninS ne162 (ninS ne161 (ninS ne160 (ninS ne159 (ninS ne158 (ninS ne157 (ninS ne156 (ninS ne155 (ninS ne154 nin0)))))))))))))
  have H166 := ((H87.keep K88 ni165).other W130 ne86)
  refine Gk.aaload X133 hx hZ e133 H166 rfl ⟨by decide, by decide⟩ (.ref b8) rfl (hb hby at_175) ?_
  refine Gk.iconst X133 hx (hb hby at_176) (0 : Int32) rfl ?_
  have H168 := ((H89.keep K88).wr W130)
  have H169 := (((((((((((((((H14.wr W11).ext E15).keep K17).wr W18).ext E23).keep K25).wr W26).ext E31).ext E33).keep K34).keep K36).ext E55).wr W57).keep K88).wr W130)
  have H170 := (Va88_states.other W130 ne90)
  have H171 := (Va88_hashes.other W130 ne92)
  have H172 := (Va88_zones.other W130 ne94)
  have H173 := (Va88_sameStates.other W130 ne96)
  have H174 := (Va88_held.other W130 ne98)
  have H175 := (Va88_parents.other W130 ne100)
  have H176 := (Va88_events.other W130 ne102)
  have H177 := (Va88_ranks.other W130 ne104)
  have H178 := (Va88_slots.other W130 ne106)
  have ne179 : x_events ≠ x_ranked := (Nat.ne_of_lt (Nat.lt_trans lx6 (Nat.lt_trans lx7 lx8)))
  have ne180 : x_parents ≠ x_ranked := (Nat.ne_of_lt (Nat.lt_trans lx5 (Nat.lt_trans lx6 (Nat.lt_trans lx7 lx8))))
  have ne181 : x_held ≠ x_ranked := (Nat.ne_of_lt (Nat.lt_trans lx4 (Nat.lt_trans lx5 (Nat.lt_trans lx6 (Nat.lt_trans lx7 lx8)))))
  have ne182 : x_sameStates ≠ x_ranked := (Nat.ne_of_lt (Nat.lt_trans lx3 (Nat.lt_trans lx4 (Nat.lt_trans lx5 (Nat.lt_trans lx6 (Nat.lt_trans lx7 lx8))))))
  have ne183 : x_zones ≠ x_ranked := (Nat.ne_of_lt (Nat.lt_trans lx2 (Nat.lt_trans lx3 (Nat.lt_trans lx4 (Nat.lt_trans lx5 (Nat.lt_trans lx6 (Nat.lt_trans lx7 lx8)))))))
  have ne184 : x_hashes ≠ x_ranked := (Nat.ne_of_lt (Nat.lt_trans lx1 (Nat.lt_trans lx2 (Nat.lt_trans lx3 (Nat.lt_trans lx4 (Nat.lt_trans lx5 (Nat.lt_trans lx6 (Nat.lt_trans lx7 lx8))))))))
  have ne185 : x_states ≠ x_ranked := (Nat.ne_of_lt (Nat.lt_trans lx0 (Nat.lt_trans lx1 (Nat.lt_trans lx2 (Nat.lt_trans lx3 (Nat.lt_trans lx4 (Nat.lt_trans lx5 (Nat.lt_trans lx6 (Nat.lt_trans lx7 lx8)))))))))
  have ne186 : x_ranked ≠ b33 := (Nat.ne_of_gt (Nat.lt_of_lt_of_le lt_b33 (Nat.le_trans K34.1 (Nat.le_trans lx (Nat.le_of_lt (Nat.lt_trans lx0 (Nat.lt_trans lx1 (Nat.lt_trans lx2 (Nat.lt_trans lx3 (Nat.lt_trans lx4 (Nat.lt_trans lx5 (Nat.lt_trans lx6 (Nat.lt_trans lx7 lx8)))))))))))))
  have ne187 : x_ranked ≠ b31 := (Nat.ne_of_gt (Nat.lt_of_lt_of_le lt_b31 (Nat.le_trans (Nat.le_trans E33.1 K34.1) (Nat.le_trans lx (Nat.le_of_lt (Nat.lt_trans lx0 (Nat.lt_trans lx1 (Nat.lt_trans lx2 (Nat.lt_trans lx3 (Nat.lt_trans lx4 (Nat.lt_trans lx5 (Nat.lt_trans lx6 (Nat.lt_trans lx7 lx8)))))))))))))
  have ni188 : x_ranked ∉ [b31, b33, x_states, x_hashes, x_zones, x_sameStates, x_held, x_parents, x_events, x_ranks, x_slots, x_rk0, x_reached] := (ninS ne187 (ninS ne186 (ninS (Ne.symm ne185) (ninS (Ne.symm ne184) (ninS (Ne.symm ne183) (ninS (Ne.symm ne182) (ninS (Ne.symm ne181) (ninS (Ne.symm ne180) (ninS (Ne.symm ne179) (ninS (Ne.symm (Nat.ne_of_lt (Nat.lt_trans lx7 lx8))) (ninS (Ne.symm (Nat.ne_of_lt lx8)) (ninS (Nat.ne_of_lt lx9) (ninS (Nat.ne_of_lt (Nat.lt_trans lx9 lx10)) nin0)))))))))))))
  have H189 := ((H109.keep K88 ni188).other W130 ne108)
  have H190 := (Va88_rk0.other W130 ne110)
  have H191 := (Va88_reached.other W130 ne112)
  have H192 := (Fa88_states.other W130 (Or.inl ne60))
  have H193 := (Fa88_hashes.other W130 (Or.inl ne60))
  have H194 := (Fa88_zones.other W130 (Or.inl ne60))
  have H195 := (Fa88_sameStates.other W130 (Or.inl ne60))
  have H196 := (Fa88_held.other W130 (Or.inl ne60))
  have H197 := (Fa88_parents.other W130 (Or.inl ne60))
  have H198 := (Fa88_events.other W130 (Or.inl ne60))
  have H199 := (Fa88_ranks.other W130 (Or.inl ne60))
  have H200 := (Fa88_slots.other W130 (Or.inl ne60))
  have H201 := (Fa88_ranked.other W130 (Or.inl ne60))
  have H202 := (Fa88_reached.other W130 (Or.inl ne60))
  have H203 := (Fa88_budget.other W130 (Or.inl ne60))
  have H204 := (Fl88.other W130 (Or.inl ne126))
  have H205 := (Fs88.other W130 (Or.inl ne60))
  have H206 := (Fo88.other W130 (Or.inl ne60))
  refine Gk.callV (argsL := [(.ref b55), (.int (-511900244 : Int32)), .null, (.int P1), (.ref b8), (.int (0 : Int32))]) X133 hx hZ hown (rm9_1 l Z a0 hw [] b31 b55 P1 b8 b33 x_states x_hashes x_zones x_sameStates x_held x_parents x_events x_ranks x_slots x_ranked x_rk0 x_reached kx_states kx_hashes kx_zones kx_sameStates kx_held kx_parents kx_events kx_ranks kx_slots kx_ranked kx_rk0 kx_reached fa88_states (upd (fun _ => (.int (0 : Int32))) 0 (.int (0 : Int32))) fa88_zones fa88_sameStates fa88_held (upd (fun _ => (.int (0 : Int32))) 0 (.int (-1 : Int32))) (upd (fun _ => .null) 0 .null) fa88_ranks (upd (fun _ => (.int (0 : Int32))) 0 (.int (1 : Int32))) (fun _ => (.ref x_rk0)) fa88_rk0 (upd (fun _ => (.int (0 : Int32))) 0 (.int (1 : Int32))) k55 (upd (upd (fun _ => (.int (0 : Int32))) 0 (.int (0 : Int32))) 0 (.int (1 : Int32))) h130 n0 (Nat.le_trans Z0 gr135) H136 H168 H169 g_b31 (Nat.lt_of_lt_of_le lt_b31 (Nat.le_trans (Nat.le_refl _) (Nat.le_of_eq g33.symm))) (Nat.lt_of_lt_of_le lt_b33 (Nat.le_trans K34.1 lx)) lx0 lx1 lx2 lx3 lx4 lx5 lx6 lx7 lx8 lx9 lx10 (Nat.lt_of_lt_of_le lt_x_reached (Nat.le_trans (Nat.le_refl _) (Nat.le_of_eq g55.symm))) Ox H170 H171 H172 H173 H174 H175 H176 H177 H178 H189 H190 H191 V130 rfl rfl rfl rfl H192 H193 H194 H195 H196 H197 H198 H199 H200 H201 H202 H203 H204 H134 H205 H206) (hw _ (List.mem_of_getElem? (i := 86) rfl)) (hw _ (List.mem_of_getElem? (i := 87) rfl)) (notFace_of_selects (args := #[]) (mvT hZ (hw _ (List.mem_of_getElem? (i := 89) rfl)))) (hw _ (List.mem_of_getElem? (i := 89) rfl)) (hw _ (List.mem_of_getElem? (i := 88) rfl)) (by decide) (hw _ (List.mem_of_getElem? (i := 90) rfl)) (hw _ (List.mem_of_getElem? (i := 24) rfl)) e133 H136 pd_9 rfl rfl (by decide) (Nat.le_of_ble_eq_true rfl) (by decide) (by decide) (by rw [hml]; rfl)  rfl (hb hby at_177) ?_
  intro T167 L167 v167 X167 hQ167
  obtain ⟨rfl, N167q, K167, Fl167, Fs167, Fo167, Fa167_states, Fa167_hashes, Fa167_zones, Fa167_sameStates, Fa167_held, Fa167_parents, Fa167_events, Fa167_ranks, Fa167_slots, Fa167_ranked, Fa167_reached, Fa167_budget, Fa167_width, Va167_slots, Va167_hashes, Va167_parents, Va167_events, Va167_reached, ⟨fa167_states, Va167_states⟩, ⟨fa167_zones, Va167_zones⟩, ⟨fa167_sameStates, Va167_sameStates⟩, ⟨fa167_held, Va167_held⟩, ⟨fa167_ranks, Va167_ranks⟩, ⟨fa167_rk0, Va167_rk0⟩⟩ := hQ167
  have N167 := Fr.app N133 N167q
  show Go p e below (T167.setTop (mkF m 180 #[.val (.int p1), .val (.int p2), .val (.int p3), .val (.int p4), .val (.ref b1), .val (.int kk), .val (.ref b6), .val (.ref b31), .val (.ref b55), .unset, .unset, .unset, .unset, .unset, .unset, .unset] [])) _
  refine Gk.aload X167 hx (hb hby at_180) rfl rfl ?_
  refine Gk.iconst X167 hx (hb hby at_182) (0 : Int32) rfl ?_
  refine Gk.iconst X167 hx (hb hby at_183) (2 : Int32) rfl ?_
  have H208 := (V130.keep K167 ni131)
  refine Gk.iastore X167 hx hZ rfl H208 0 rfl ⟨by decide, by decide⟩ (.int (2 : Int32)) rfl (hb hby at_184) ?_
  intro T207 h207 X207 e207 W207 V207
  have N207 := Fr.snoc X207 N167 g_b55
  refine Gk.aload X207 hx (hb hby at_185) rfl rfl ?_
  refine Gk.aload X207 hx (hb hby at_187) rfl rfl ?_
  refine Gk.aload X207 hx (hb hby at_189) rfl rfl ?_
  refine Gk.aload X207 hx (hb hby at_191) rfl rfl ?_
  have H210 := (Fa167_width.other W207 (Or.inl ne60))
  have gr211 := (Nat.le_trans (Nat.le_trans gr135 K167.1) (Keep.of_wr W207).1)
  have H212 := ((H136.keep K167).wr W207)
  refine Gk.callV (argsL := [(.ref b55)]) X207 hx hZ hown (rm6_2 l Z a0 hw [] b31 b55 k55 (upd (upd (upd (fun _ => (.int (0 : Int32))) 0 (.int (0 : Int32))) 0 (.int (1 : Int32))) 0 (.int (2 : Int32))) h207 n0 (Nat.le_trans Z0 gr211) V207 rfl H210) (hw _ (List.mem_of_getElem? (i := 73) rfl)) (hw _ (List.mem_of_getElem? (i := 74) rfl)) (notFace_of_selects (args := #[]) (mvT hZ (hw _ (List.mem_of_getElem? (i := 76) rfl)))) (hw _ (List.mem_of_getElem? (i := 76) rfl)) (hw _ (List.mem_of_getElem? (i := 75) rfl)) (by decide) (hw _ (List.mem_of_getElem? (i := 77) rfl)) (hw _ (List.mem_of_getElem? (i := 24) rfl)) e207 H212 pd_8 rfl rfl (by decide) (Nat.le_of_ble_eq_true rfl) (by decide) (by decide) (by rw [hml]; rfl)  rfl (hb hby at_193) ?_
  intro T209 L209 v209 X209 hQ209
  obtain ⟨rfl, N209q, e209⟩ := hQ209
  have N209 := Fr.app N207 N209q
  show Go p e below (T209.setTop (mkF m 196 #[.val (.int p1), .val (.int p2), .val (.int p3), .val (.int p4), .val (.ref b1), .val (.int kk), .val (.ref b6), .val (.ref b31), .val (.ref b55), .unset, .unset, .unset, .unset, .unset, .unset, .unset] [(.int (-1023800488 : Int32)), (.ref b55), (.ref b31)])) _
  refine Gk.aconstNull X209 hx (hb hby at_196) ?_
  refine Gk.aload X209 hx (hb hby at_197) rfl rfl ?_
  refine Gk.iconst X209 hx (hb hby at_199) (2 : Int32) rfl ?_
  have H214 := ((H151.keep K167 ni150).other W207 ne78)
  refine Gk.iaload X209 hx hZ e209 H214 ⟨by decide, by decide⟩ (.int P2) rfl (hb hby at_200) ?_
  refine Gk.aload X209 hx (hb hby at_201) rfl rfl ?_
  refine Gk.iconst X209 hx (hb hby at_203) (2 : Int32) rfl ?_
  have H216 := ((H166.keep K167 ni165).other W207 ne86)
  refine Gk.aaload X209 hx hZ e209 H216 rfl ⟨by decide, by decide⟩ (.ref b15) rfl (hb hby at_204) ?_
  refine Gk.iconst X209 hx (hb hby at_205) (0 : Int32) rfl ?_
  have H218 := ((H168.keep K167).wr W207)
  have H219 := ((((((((((((((H22.wr W18).ext E23).keep K25).wr W26).ext E31).ext E33).keep K34).keep K36).ext E55).wr W57).keep K88).wr W130).keep K167).wr W207)
  have H220 := (Va167_states.other W207 ne90)
  have H221 := (Va167_hashes.other W207 ne92)
  have H222 := (Va167_zones.other W207 ne94)
  have H223 := (Va167_sameStates.other W207 ne96)
  have H224 := (Va167_held.other W207 ne98)
  have H225 := (Va167_parents.other W207 ne100)
  have H226 := (Va167_events.other W207 ne102)
  have H227 := (Va167_ranks.other W207 ne104)
  have H228 := (Va167_slots.other W207 ne106)
  have H229 := ((H189.keep K167 ni188).other W207 ne108)
  have H230 := (Va167_rk0.other W207 ne110)
  have H231 := (Va167_reached.other W207 ne112)
  have H232 := (Fa167_states.other W207 (Or.inl ne60))
  have H233 := (Fa167_hashes.other W207 (Or.inl ne60))
  have H234 := (Fa167_zones.other W207 (Or.inl ne60))
  have H235 := (Fa167_sameStates.other W207 (Or.inl ne60))
  have H236 := (Fa167_held.other W207 (Or.inl ne60))
  have H237 := (Fa167_parents.other W207 (Or.inl ne60))
  have H238 := (Fa167_events.other W207 (Or.inl ne60))
  have H239 := (Fa167_ranks.other W207 (Or.inl ne60))
  have H240 := (Fa167_slots.other W207 (Or.inl ne60))
  have H241 := (Fa167_ranked.other W207 (Or.inl ne60))
  have H242 := (Fa167_reached.other W207 (Or.inl ne60))
  have H243 := (Fa167_budget.other W207 (Or.inl ne60))
  have H244 := (Fl167.other W207 (Or.inl ne126))
  have H245 := (Fs167.other W207 (Or.inl ne60))
  have H246 := (Fo167.other W207 (Or.inl ne60))
  refine Gk.callV (argsL := [(.ref b55), (.int (-1023800488 : Int32)), .null, (.int P2), (.ref b15), (.int (0 : Int32))]) X209 hx hZ hown (rm9_2 l Z a0 hw [] b31 b55 P2 b15 b33 x_states x_hashes x_zones x_sameStates x_held x_parents x_events x_ranks x_slots x_ranked x_rk0 x_reached kx_states kx_hashes kx_zones kx_sameStates kx_held kx_parents kx_events kx_ranks kx_slots kx_ranked kx_rk0 kx_reached fa167_states (upd (upd (fun _ => (.int (0 : Int32))) 0 (.int (0 : Int32))) 1 (.int (-511900244 : Int32))) fa167_zones fa167_sameStates fa167_held (upd (upd (fun _ => (.int (0 : Int32))) 0 (.int (-1 : Int32))) 1 (.int P1)) (upd (upd (fun _ => .null) 0 .null) 1 (.ref b8)) fa167_ranks (upd (upd (fun _ => (.int (0 : Int32))) 0 (.int (1 : Int32))) 12 (.int (2 : Int32))) (fun _ => (.ref x_rk0)) fa167_rk0 (upd (upd (fun _ => (.int (0 : Int32))) 0 (.int (1 : Int32))) 0 (.int (2 : Int32))) k55 (upd (upd (upd (fun _ => (.int (0 : Int32))) 0 (.int (0 : Int32))) 0 (.int (1 : Int32))) 0 (.int (2 : Int32))) h207 n0 (Nat.le_trans Z0 gr211) H212 H218 H219 g_b31 (Nat.lt_of_lt_of_le lt_b31 (Nat.le_trans (Nat.le_refl _) (Nat.le_of_eq g33.symm))) (Nat.lt_of_lt_of_le lt_b33 (Nat.le_trans K34.1 lx)) lx0 lx1 lx2 lx3 lx4 lx5 lx6 lx7 lx8 lx9 lx10 (Nat.lt_of_lt_of_le lt_x_reached (Nat.le_trans (Nat.le_refl _) (Nat.le_of_eq g55.symm))) Ox H220 H221 H222 H223 H224 H225 H226 H227 H228 H229 H230 H231 V207 rfl rfl rfl rfl H232 H233 H234 H235 H236 H237 H238 H239 H240 H241 H242 H243 H244 H210 H245 H246) (hw _ (List.mem_of_getElem? (i := 86) rfl)) (hw _ (List.mem_of_getElem? (i := 87) rfl)) (notFace_of_selects (args := #[]) (mvT hZ (hw _ (List.mem_of_getElem? (i := 89) rfl)))) (hw _ (List.mem_of_getElem? (i := 89) rfl)) (hw _ (List.mem_of_getElem? (i := 88) rfl)) (by decide) (hw _ (List.mem_of_getElem? (i := 90) rfl)) (hw _ (List.mem_of_getElem? (i := 24) rfl)) e209 H212 pd_9 rfl rfl (by decide) (Nat.le_of_ble_eq_true rfl) (by decide) (by decide) (by rw [hml]; rfl)  rfl (hb hby at_206) ?_
  intro T217 L217 v217 X217 hQ217
  obtain ⟨rfl, N217q, K217, Fl217, Fs217, Fo217, Fa217_states, Fa217_hashes, Fa217_zones, Fa217_sameStates, Fa217_held, Fa217_parents, Fa217_events, Fa217_ranks, Fa217_slots, Fa217_ranked, Fa217_reached, Fa217_budget, Fa217_width, Va217_slots, Va217_hashes, Va217_parents, Va217_events, Va217_reached, ⟨fa217_states, Va217_states⟩, ⟨fa217_zones, Va217_zones⟩, ⟨fa217_sameStates, Va217_sameStates⟩, ⟨fa217_held, Va217_held⟩, ⟨fa217_ranks, Va217_ranks⟩, ⟨fa217_rk0, Va217_rk0⟩⟩ := hQ217
  have N217 := Fr.app N209 N217q
  show Go p e below (T217.setTop (mkF m 209 #[.val (.int p1), .val (.int p2), .val (.int p3), .val (.int p4), .val (.ref b1), .val (.int kk), .val (.ref b6), .val (.ref b31), .val (.ref b55), .unset, .unset, .unset, .unset, .unset, .unset, .unset] [])) _
  refine Gk.aload X217 hx (hb hby at_209) rfl rfl ?_
  refine Gk.iconst X217 hx (hb hby at_211) (0 : Int32) rfl ?_
  refine Gk.iconst X217 hx (hb hby at_212) (3 : Int32) rfl ?_
  have H248 := (V207.keep K217 ni131)
  refine Gk.iastore X217 hx hZ rfl H248 0 rfl ⟨by decide, by decide⟩ (.int (3 : Int32)) rfl (hb hby at_213) ?_
  intro T247 h247 X247 e247 W247 V247
  have N247 := Fr.snoc X247 N217 g_b55
  refine Gk.aload X247 hx (hb hby at_214) rfl rfl ?_
  refine Gk.aload X247 hx (hb hby at_216) rfl rfl ?_
  refine Gk.aload X247 hx (hb hby at_218) rfl rfl ?_
  refine Gk.aload X247 hx (hb hby at_220) rfl rfl ?_
  have H250 := (Fa217_width.other W247 (Or.inl ne60))
  have gr251 := (Nat.le_trans (Nat.le_trans gr211 K217.1) (Keep.of_wr W247).1)
  have H252 := ((H212.keep K217).wr W247)
  refine Gk.callV (argsL := [(.ref b55)]) X247 hx hZ hown (rm6_3 l Z a0 hw [] b31 b55 k55 (upd (upd (upd (upd (fun _ => (.int (0 : Int32))) 0 (.int (0 : Int32))) 0 (.int (1 : Int32))) 0 (.int (2 : Int32))) 0 (.int (3 : Int32))) h247 n0 (Nat.le_trans Z0 gr251) V247 rfl H250) (hw _ (List.mem_of_getElem? (i := 73) rfl)) (hw _ (List.mem_of_getElem? (i := 74) rfl)) (notFace_of_selects (args := #[]) (mvT hZ (hw _ (List.mem_of_getElem? (i := 76) rfl)))) (hw _ (List.mem_of_getElem? (i := 76) rfl)) (hw _ (List.mem_of_getElem? (i := 75) rfl)) (by decide) (hw _ (List.mem_of_getElem? (i := 77) rfl)) (hw _ (List.mem_of_getElem? (i := 24) rfl)) e247 H252 pd_8 rfl rfl (by decide) (Nat.le_of_ble_eq_true rfl) (by decide) (by decide) (by rw [hml]; rfl)  rfl (hb hby at_222) ?_
  intro T249 L249 v249 X249 hQ249
  obtain ⟨rfl, N249q, e249⟩ := hQ249
  have N249 := Fr.app N247 N249q
  show Go p e below (T249.setTop (mkF m 225 #[.val (.int p1), .val (.int p2), .val (.int p3), .val (.int p4), .val (.ref b1), .val (.int kk), .val (.ref b6), .val (.ref b31), .val (.ref b55), .unset, .unset, .unset, .unset, .unset, .unset, .unset] [(.int (-1485235949 : Int32)), (.ref b55), (.ref b31)])) _
  refine Gk.aconstNull X249 hx (hb hby at_225) ?_
  refine Gk.aload X249 hx (hb hby at_226) rfl rfl ?_
  refine Gk.iconst X249 hx (hb hby at_228) (3 : Int32) rfl ?_
  have H254 := ((H214.keep K217 ni150).other W247 ne78)
  refine Gk.iaload X249 hx hZ e249 H254 ⟨by decide, by decide⟩ (.int P3) rfl (hb hby at_229) ?_
  refine Gk.aload X249 hx (hb hby at_230) rfl rfl ?_
  refine Gk.iconst X249 hx (hb hby at_232) (3 : Int32) rfl ?_
  have H256 := ((H216.keep K217 ni165).other W247 ne86)
  refine Gk.aaload X249 hx hZ e249 H256 rfl ⟨by decide, by decide⟩ (.ref b23) rfl (hb hby at_233) ?_
  refine Gk.iconst X249 hx (hb hby at_234) (0 : Int32) rfl ?_
  have H258 := ((H218.keep K217).wr W247)
  have H259 := (((((((((((((H30.wr W26).ext E31).ext E33).keep K34).keep K36).ext E55).wr W57).keep K88).wr W130).keep K167).wr W207).keep K217).wr W247)
  have H260 := (Va217_states.other W247 ne90)
  have H261 := (Va217_hashes.other W247 ne92)
  have H262 := (Va217_zones.other W247 ne94)
  have H263 := (Va217_sameStates.other W247 ne96)
  have H264 := (Va217_held.other W247 ne98)
  have H265 := (Va217_parents.other W247 ne100)
  have H266 := (Va217_events.other W247 ne102)
  have H267 := (Va217_ranks.other W247 ne104)
  have H268 := (Va217_slots.other W247 ne106)
  have H269 := ((H229.keep K217 ni188).other W247 ne108)
  have H270 := (Va217_rk0.other W247 ne110)
  have H271 := (Va217_reached.other W247 ne112)
  have H272 := (Fa217_states.other W247 (Or.inl ne60))
  have H273 := (Fa217_hashes.other W247 (Or.inl ne60))
  have H274 := (Fa217_zones.other W247 (Or.inl ne60))
  have H275 := (Fa217_sameStates.other W247 (Or.inl ne60))
  have H276 := (Fa217_held.other W247 (Or.inl ne60))
  have H277 := (Fa217_parents.other W247 (Or.inl ne60))
  have H278 := (Fa217_events.other W247 (Or.inl ne60))
  have H279 := (Fa217_ranks.other W247 (Or.inl ne60))
  have H280 := (Fa217_slots.other W247 (Or.inl ne60))
  have H281 := (Fa217_ranked.other W247 (Or.inl ne60))
  have H282 := (Fa217_reached.other W247 (Or.inl ne60))
  have H283 := (Fa217_budget.other W247 (Or.inl ne60))
  have H284 := (Fl217.other W247 (Or.inl ne126))
  have H285 := (Fs217.other W247 (Or.inl ne60))
  have H286 := (Fo217.other W247 (Or.inl ne60))
  refine Gk.callV (argsL := [(.ref b55), (.int (-1485235949 : Int32)), .null, (.int P3), (.ref b23), (.int (0 : Int32))]) X249 hx hZ hown (rm9_3 l Z a0 hw [] b31 b55 P3 b23 b33 x_states x_hashes x_zones x_sameStates x_held x_parents x_events x_ranks x_slots x_ranked x_rk0 x_reached kx_states kx_hashes kx_zones kx_sameStates kx_held kx_parents kx_events kx_ranks kx_slots kx_ranked kx_rk0 kx_reached fa217_states (upd (upd (upd (fun _ => (.int (0 : Int32))) 0 (.int (0 : Int32))) 1 (.int (-511900244 : Int32))) 2 (.int (-1023800488 : Int32))) fa217_zones fa217_sameStates fa217_held (upd (upd (upd (fun _ => (.int (0 : Int32))) 0 (.int (-1 : Int32))) 1 (.int P1)) 2 (.int P2)) (upd (upd (upd (fun _ => .null) 0 .null) 1 (.ref b8)) 2 (.ref b15)) fa217_ranks (upd (upd (upd (fun _ => (.int (0 : Int32))) 0 (.int (1 : Int32))) 12 (.int (2 : Int32))) 24 (.int (3 : Int32))) (fun _ => (.ref x_rk0)) fa217_rk0 (upd (upd (upd (fun _ => (.int (0 : Int32))) 0 (.int (1 : Int32))) 0 (.int (2 : Int32))) 0 (.int (3 : Int32))) k55 (upd (upd (upd (upd (fun _ => (.int (0 : Int32))) 0 (.int (0 : Int32))) 0 (.int (1 : Int32))) 0 (.int (2 : Int32))) 0 (.int (3 : Int32))) h247 n0 (Nat.le_trans Z0 gr251) H252 H258 H259 g_b31 (Nat.lt_of_lt_of_le lt_b31 (Nat.le_trans (Nat.le_refl _) (Nat.le_of_eq g33.symm))) (Nat.lt_of_lt_of_le lt_b33 (Nat.le_trans K34.1 lx)) lx0 lx1 lx2 lx3 lx4 lx5 lx6 lx7 lx8 lx9 lx10 (Nat.lt_of_lt_of_le lt_x_reached (Nat.le_trans (Nat.le_refl _) (Nat.le_of_eq g55.symm))) Ox H260 H261 H262 H263 H264 H265 H266 H267 H268 H269 H270 H271 V247 rfl rfl rfl rfl H272 H273 H274 H275 H276 H277 H278 H279 H280 H281 H282 H283 H284 H250 H285 H286) (hw _ (List.mem_of_getElem? (i := 86) rfl)) (hw _ (List.mem_of_getElem? (i := 87) rfl)) (notFace_of_selects (args := #[]) (mvT hZ (hw _ (List.mem_of_getElem? (i := 89) rfl)))) (hw _ (List.mem_of_getElem? (i := 89) rfl)) (hw _ (List.mem_of_getElem? (i := 88) rfl)) (by decide) (hw _ (List.mem_of_getElem? (i := 90) rfl)) (hw _ (List.mem_of_getElem? (i := 24) rfl)) e249 H252 pd_9 rfl rfl (by decide) (Nat.le_of_ble_eq_true rfl) (by decide) (by decide) (by rw [hml]; rfl)  rfl (hb hby at_235) ?_
  intro T257 L257 v257 X257 hQ257
  obtain ⟨rfl, N257q, K257, Fl257, Fs257, Fo257, Fa257_states, Fa257_hashes, Fa257_zones, Fa257_sameStates, Fa257_held, Fa257_parents, Fa257_events, Fa257_ranks, Fa257_slots, Fa257_ranked, Fa257_reached, Fa257_budget, Fa257_width, Va257_slots, Va257_hashes, Va257_parents, Va257_events, Va257_reached, ⟨fa257_states, Va257_states⟩, ⟨fa257_zones, Va257_zones⟩, ⟨fa257_sameStates, Va257_sameStates⟩, ⟨fa257_held, Va257_held⟩, ⟨fa257_ranks, Va257_ranks⟩, ⟨fa257_rk0, Va257_rk0⟩⟩ := hQ257
  have N257 := Fr.app N249 N257q
  show Go p e below (T257.setTop (mkF m 238 #[.val (.int p1), .val (.int p2), .val (.int p3), .val (.int p4), .val (.ref b1), .val (.int kk), .val (.ref b6), .val (.ref b31), .val (.ref b55), .unset, .unset, .unset, .unset, .unset, .unset, .unset] [])) _
  rcases own_k ekk with hk_kk | hk_kk | hk_kk | hk_kk
  · subst hk_kk
    refine Gk.aload X257 hx (hb hby at_238) rfl rfl ?_
    refine Gk.iload X257 hx (hb hby at_240) rfl ?_
    have H288 := (H252.keep K257)
    refine Gk.callV (argsL := [(.int (0 : Int32))]) X257 hx hZ hown (rm14_0 l Z a0 hw [] b31 x_parents kx_parents (upd (upd (upd (upd (fun _ => (.int (0 : Int32))) 0 (.int (-1 : Int32))) 1 (.int P1)) 2 (.int P2)) 3 (.int P3)) x_events kx_events (upd (upd (upd (upd (fun _ => .null) 0 .null) 1 (.ref b8)) 2 (.ref b15)) 3 (.ref b23)) T257.heap n0 (Nat.le_trans Z0 (Nat.le_trans gr251 K257.1)) Va257_parents Va257_events Fa257_parents Fa257_events rfl) (hw _ (List.mem_of_getElem? (i := 116) rfl)) (hw _ (List.mem_of_getElem? (i := 117) rfl)) (notFace_of_selects (args := #[]) (mvT hZ (hw _ (List.mem_of_getElem? (i := 119) rfl)))) (hw _ (List.mem_of_getElem? (i := 119) rfl)) (hw _ (List.mem_of_getElem? (i := 118) rfl)) (by decide) (hw _ (List.mem_of_getElem? (i := 120) rfl)) (hw _ (List.mem_of_getElem? (i := 24) rfl)) rfl H288 pd_10 rfl rfl (by decide) (Nat.le_of_ble_eq_true rfl) (by decide) (by decide) (by rw [hml]; rfl)  rfl (hb hby at_242) ?_
    intro T287 L287 v287 X287 hQ287
    obtain ⟨rfl, N287q, K287, k287, A287⟩ := hQ287
    have N287 := Fr.app N257 N287q
    obtain ⟨b287, g287⟩ : ∃ z_, z_ = T257.heap.size := ⟨_, rfl⟩
    rw [← g287] at A287 ⊢
    have g_b287 : n0 ≤ b287 := Nat.le_trans (Nat.le_trans Z0 (Nat.le_trans gr251 K257.1)) (Nat.le_of_eq g287.symm)
    have lt_b287 := A287.lt
    show Go p e below (T287.setTop (mkF m 245 #[.val (.int p1), .val (.int p2), .val (.int p3), .val (.int p4), .val (.ref b1), .val (.int (0 : Int32)), .val (.ref b6), .val (.ref b31), .val (.ref b55), .unset, .unset, .unset, .unset, .unset, .unset, .unset] [(.ref b287)])) _
    refine Gk.astore X287 hx (hb hby at_245) rfl #[.val (.int p1), .val (.int p2), .val (.int p3), .val (.int p4), .val (.ref b1), .val (.int (0 : Int32)), .val (.ref b6), .val (.ref b31), .val (.ref b55), .val (.ref b287), .unset, .unset, .unset, .unset, .unset, .unset] rfl ?_
    refine Gk.iconst X287 hx (hb hby at_247) (0 : Int32) rfl ?_
    refine Gk.istore X287 hx (hb hby at_248) #[.val (.int p1), .val (.int p2), .val (.int p3), .val (.int p4), .val (.ref b1), .val (.int (0 : Int32)), .val (.ref b6), .val (.ref b31), .val (.ref b55), .val (.ref b287), .val (.int (0 : Int32)), .unset, .unset, .unset, .unset, .unset] rfl ?_
    refine Gk.aconstNull X287 hx (hb hby at_250) ?_
    refine Gk.astore X287 hx (hb hby at_251) rfl #[.val (.int p1), .val (.int p2), .val (.int p3), .val (.int p4), .val (.ref b1), .val (.int (0 : Int32)), .val (.ref b6), .val (.ref b31), .val (.ref b55), .val (.ref b287), .val (.int (0 : Int32)), .val .null, .unset, .unset, .unset, .unset] rfl ?_
    refine Gk.aconstNull X287 hx (hb hby at_253) ?_
    refine Gk.astore X287 hx (hb hby at_254) rfl #[.val (.int p1), .val (.int p2), .val (.int p3), .val (.int p4), .val (.ref b1), .val (.int (0 : Int32)), .val (.ref b6), .val (.ref b31), .val (.ref b55), .val (.ref b287), .val (.int (0 : Int32)), .val .null, .val .null, .unset, .unset, .unset] rfl ?_
    refine Gk.aconstNull X287 hx (hb hby at_256) ?_
    refine Gk.astore X287 hx (hb hby at_257) rfl #[.val (.int p1), .val (.int p2), .val (.int p3), .val (.int p4), .val (.ref b1), .val (.int (0 : Int32)), .val (.ref b6), .val (.ref b31), .val (.ref b55), .val (.ref b287), .val (.int (0 : Int32)), .val .null, .val .null, .val .null, .unset, .unset] rfl ?_
    refine Gk.iload X287 hx (hb hby at_259) rfl ?_
    refine Gk.istore X287 hx (hb hby at_261) #[.val (.int p1), .val (.int p2), .val (.int p3), .val (.int p4), .val (.ref b1), .val (.int (0 : Int32)), .val (.ref b6), .val (.ref b31), .val (.ref b55), .val (.ref b287), .val (.int (0 : Int32)), .val .null, .val .null, .val .null, .val (.int (0 : Int32)), .unset] rfl ?_
    refine Gk.aload X287 hx (hb hby at_263) rfl rfl ?_
    refine Gk.iload X287 hx (hb hby at_265) rfl ?_
    have H290 := ((H254.keep K257 ni150).keep K287 nin0)
    refine Gk.iaload X287 hx hZ rfl H290 ⟨by decide, by decide⟩ (.int (-1 : Int32)) rfl (hb hby at_267) ?_
    refine Gk.ifYes X287 hx (hb hby at_268) (tlt (by decide : (-1 : Int32) < (0 : Int32))).1 338 (by decide) (by decide) ?_
    refine Gk.aload X287 hx (hb hby at_338) rfl rfl ?_
    refine Gk.ifnullNo X287 hx (hb hby at_340) ?_
    refine Gk.aload X287 hx (hb hby at_343) rfl rfl ?_
    refine Gk.alen X287 hx hZ rfl A287 (hb hby at_345) ?_
    refine Gk.iload X287 hx (hb hby at_346) rfl ?_
    refine Gk.icmpYes X287 hx (hb hby at_348) (teq (by decide : (0 : Int32) = (0 : Int32))).1 353 (by decide) (by decide) ?_
    refine Gk.iconst X287 hx (hb hby at_353) (1 : Int32) rfl ?_
    refine Gk.istore X287 hx (hb hby at_354) #[.val (.int p1), .val (.int p2), .val (.int p3), .val (.int p4), .val (.ref b1), .val (.int (0 : Int32)), .val (.ref b6), .val (.ref b31), .val (.ref b55), .val (.ref b287), .val (.int (0 : Int32)), .val .null, .val .null, .val .null, .val (.int (0 : Int32)), .val (.int (1 : Int32))] rfl ?_
    refine Gk.iload X287 hx (hb hby at_356) rfl ?_
    refine Gk.iconst X287 hx (hb hby at_358) (1 : Int32) rfl ?_
    refine Gk.icmpYes X287 hx (hb hby at_359) (tlt (by decide : (0 : Int32) < (1 : Int32))).1 386 (by decide) (by decide) ?_
    refine Gk.iload X287 hx (hb hby at_386) rfl ?_
    refine Gk.iconst X287 hx (hb hby at_388) (2 : Int32) rfl ?_
    refine Gk.icmpYes X287 hx (hb hby at_389) (tlt (by decide : (0 : Int32) < (2 : Int32))).1 416 (by decide) (by decide) ?_
    refine Gk.iload X287 hx (hb hby at_416) rfl ?_
    refine Gk.iconst X287 hx (hb hby at_418) (3 : Int32) rfl ?_
    refine Gk.icmpYes X287 hx (hb hby at_419) (tlt (by decide : (0 : Int32) < (3 : Int32))).1 446 (by decide) (by decide) ?_
    refine Gk.iload X287 hx (hb hby at_446) rfl ?_
    refine Go.fin X287 (v := some (.int (1 : Int32))) (fun h_ => by rw [Bd.returns] at h_; cases h_) Bd.notSynchronized (fun _ hr => retN X287 hx (t := .boolean) Bd.returns (by simp) (hb hby at_448) hr) (fun U' hU hF => ⟨_, _, rfl, ?_, hF.1, hF.2.1, hF.2.2.mono (by decide) (by decide)⟩)
    exact ⟨(congrArg (fun z_ : Int32 => some (Value.int z_)) (show (1 : Int32) = (1 : Int32) from rfl)), N287⟩
  · subst hk_kk
    rcases own_P1 eP1 with hk_P1 | hk_P1
    · subst hk_P1
      refine Gk.aload X257 hx (hb hby at_238) rfl rfl ?_
      refine Gk.iload X257 hx (hb hby at_240) rfl ?_
      have H292 := (H252.keep K257)
      refine Gk.callV (argsL := [(.int (1 : Int32))]) X257 hx hZ hown (rm14_1 l Z a0 hw [] b31 x_parents kx_parents (upd (upd (upd (upd (fun _ => (.int (0 : Int32))) 0 (.int (-1 : Int32))) 1 (.int (-1 : Int32))) 2 (.int P2)) 3 (.int P3)) x_events kx_events (upd (upd (upd (upd (fun _ => .null) 0 .null) 1 (.ref b8)) 2 (.ref b15)) 3 (.ref b23)) T257.heap n0 (Nat.le_trans Z0 (Nat.le_trans gr251 K257.1)) Va257_parents Va257_events Fa257_parents Fa257_events rfl) (hw _ (List.mem_of_getElem? (i := 116) rfl)) (hw _ (List.mem_of_getElem? (i := 117) rfl)) (notFace_of_selects (args := #[]) (mvT hZ (hw _ (List.mem_of_getElem? (i := 119) rfl)))) (hw _ (List.mem_of_getElem? (i := 119) rfl)) (hw _ (List.mem_of_getElem? (i := 118) rfl)) (by decide) (hw _ (List.mem_of_getElem? (i := 120) rfl)) (hw _ (List.mem_of_getElem? (i := 24) rfl)) rfl H292 pd_10 rfl rfl (by decide) (Nat.le_of_ble_eq_true rfl) (by decide) (by decide) (by rw [hml]; rfl)  rfl (hb hby at_242) ?_
      intro T291 L291 v291 X291 hQ291
      obtain ⟨rfl, N291q, K291, k291, A291⟩ := hQ291
      have N291 := Fr.app N257 N291q
      obtain ⟨b291, g291⟩ : ∃ z_, z_ = T257.heap.size := ⟨_, rfl⟩
      rw [← g291] at A291 ⊢
      have g_b291 : n0 ≤ b291 := Nat.le_trans (Nat.le_trans Z0 (Nat.le_trans gr251 K257.1)) (Nat.le_of_eq g291.symm)
      have lt_b291 := A291.lt
      show Go p e below (T291.setTop (mkF m 245 #[.val (.int p1), .val (.int p2), .val (.int p3), .val (.int p4), .val (.ref b1), .val (.int (1 : Int32)), .val (.ref b6), .val (.ref b31), .val (.ref b55), .unset, .unset, .unset, .unset, .unset, .unset, .unset] [(.ref b291)])) _
      refine Gk.astore X291 hx (hb hby at_245) rfl #[.val (.int p1), .val (.int p2), .val (.int p3), .val (.int p4), .val (.ref b1), .val (.int (1 : Int32)), .val (.ref b6), .val (.ref b31), .val (.ref b55), .val (.ref b291), .unset, .unset, .unset, .unset, .unset, .unset] rfl ?_
      refine Gk.iconst X291 hx (hb hby at_247) (0 : Int32) rfl ?_
      refine Gk.istore X291 hx (hb hby at_248) #[.val (.int p1), .val (.int p2), .val (.int p3), .val (.int p4), .val (.ref b1), .val (.int (1 : Int32)), .val (.ref b6), .val (.ref b31), .val (.ref b55), .val (.ref b291), .val (.int (0 : Int32)), .unset, .unset, .unset, .unset, .unset] rfl ?_
      refine Gk.aconstNull X291 hx (hb hby at_250) ?_
      refine Gk.astore X291 hx (hb hby at_251) rfl #[.val (.int p1), .val (.int p2), .val (.int p3), .val (.int p4), .val (.ref b1), .val (.int (1 : Int32)), .val (.ref b6), .val (.ref b31), .val (.ref b55), .val (.ref b291), .val (.int (0 : Int32)), .val .null, .unset, .unset, .unset, .unset] rfl ?_
      refine Gk.aconstNull X291 hx (hb hby at_253) ?_
      refine Gk.astore X291 hx (hb hby at_254) rfl #[.val (.int p1), .val (.int p2), .val (.int p3), .val (.int p4), .val (.ref b1), .val (.int (1 : Int32)), .val (.ref b6), .val (.ref b31), .val (.ref b55), .val (.ref b291), .val (.int (0 : Int32)), .val .null, .val .null, .unset, .unset, .unset] rfl ?_
      refine Gk.aconstNull X291 hx (hb hby at_256) ?_
      refine Gk.astore X291 hx (hb hby at_257) rfl #[.val (.int p1), .val (.int p2), .val (.int p3), .val (.int p4), .val (.ref b1), .val (.int (1 : Int32)), .val (.ref b6), .val (.ref b31), .val (.ref b55), .val (.ref b291), .val (.int (0 : Int32)), .val .null, .val .null, .val .null, .unset, .unset] rfl ?_
      refine Gk.iload X291 hx (hb hby at_259) rfl ?_
      refine Gk.istore X291 hx (hb hby at_261) #[.val (.int p1), .val (.int p2), .val (.int p3), .val (.int p4), .val (.ref b1), .val (.int (1 : Int32)), .val (.ref b6), .val (.ref b31), .val (.ref b55), .val (.ref b291), .val (.int (0 : Int32)), .val .null, .val .null, .val .null, .val (.int (1 : Int32)), .unset] rfl ?_
      refine Gk.aload X291 hx (hb hby at_263) rfl rfl ?_
      refine Gk.iload X291 hx (hb hby at_265) rfl ?_
      have H294 := ((H254.keep K257 ni150).keep K291 nin0)
      refine Gk.iaload X291 hx hZ rfl H294 ⟨by decide, by decide⟩ (.int (-1 : Int32)) rfl (hb hby at_267) ?_
      refine Gk.ifYes X291 hx (hb hby at_268) (tlt (by decide : (-1 : Int32) < (0 : Int32))).1 338 (by decide) (by decide) ?_
      refine Gk.aload X291 hx (hb hby at_338) rfl rfl ?_
      refine Gk.ifnullNo X291 hx (hb hby at_340) ?_
      refine Gk.aload X291 hx (hb hby at_343) rfl rfl ?_
      refine Gk.alen X291 hx hZ rfl A291 (hb hby at_345) ?_
      refine Gk.iload X291 hx (hb hby at_346) rfl ?_
      refine Gk.icmpYes X291 hx (hb hby at_348) (teq (by decide : (0 : Int32) = (0 : Int32))).1 353 (by decide) (by decide) ?_
      refine Gk.iconst X291 hx (hb hby at_353) (1 : Int32) rfl ?_
      refine Gk.istore X291 hx (hb hby at_354) #[.val (.int p1), .val (.int p2), .val (.int p3), .val (.int p4), .val (.ref b1), .val (.int (1 : Int32)), .val (.ref b6), .val (.ref b31), .val (.ref b55), .val (.ref b291), .val (.int (0 : Int32)), .val .null, .val .null, .val .null, .val (.int (1 : Int32)), .val (.int (1 : Int32))] rfl ?_
      refine Gk.iload X291 hx (hb hby at_356) rfl ?_
      refine Gk.iconst X291 hx (hb hby at_358) (1 : Int32) rfl ?_
      refine Gk.icmpYes X291 hx (hb hby at_359) (tlt (by decide : (0 : Int32) < (1 : Int32))).1 386 (by decide) (by decide) ?_
      refine Gk.iload X291 hx (hb hby at_386) rfl ?_
      refine Gk.iconst X291 hx (hb hby at_388) (2 : Int32) rfl ?_
      refine Gk.icmpYes X291 hx (hb hby at_389) (tlt (by decide : (0 : Int32) < (2 : Int32))).1 416 (by decide) (by decide) ?_
      refine Gk.iload X291 hx (hb hby at_416) rfl ?_
      refine Gk.iconst X291 hx (hb hby at_418) (3 : Int32) rfl ?_
      refine Gk.icmpYes X291 hx (hb hby at_419) (tlt (by decide : (0 : Int32) < (3 : Int32))).1 446 (by decide) (by decide) ?_
      refine Gk.iload X291 hx (hb hby at_446) rfl ?_
      refine Go.fin X291 (v := some (.int (1 : Int32))) (fun h_ => by rw [Bd.returns] at h_; cases h_) Bd.notSynchronized (fun _ hr => retN X291 hx (t := .boolean) Bd.returns (by simp) (hb hby at_448) hr) (fun U' hU hF => ⟨_, _, rfl, ?_, hF.1, hF.2.1, hF.2.2.mono (by decide) (by decide)⟩)
      exact ⟨(congrArg (fun z_ : Int32 => some (Value.int z_)) (show (1 : Int32) = (1 : Int32) from rfl)), N291⟩
    · subst hk_P1
      refine Gk.aload X257 hx (hb hby at_238) rfl rfl ?_
      refine Gk.iload X257 hx (hb hby at_240) rfl ?_
      have H296 := (((((H169.keep K167).wr W207).keep K217).wr W247).keep K257)
      have H297 := (H252.keep K257)
      refine Gk.callV (argsL := [(.int (1 : Int32))]) X257 hx hZ hown (rm14_10 l Z a0 hw [] b31 x_parents kx_parents (upd (upd (upd (upd (fun _ => (.int (0 : Int32))) 0 (.int (-1 : Int32))) 1 (.int (0 : Int32))) 2 (.int P2)) 3 (.int P3)) x_events kx_events (upd (upd (upd (upd (fun _ => .null) 0 .null) 1 (.ref b8)) 2 (.ref b15)) 3 (.ref b23)) b8 T257.heap n0 (Nat.le_trans Z0 (Nat.le_trans gr251 K257.1)) Va257_parents Va257_events Fa257_parents Fa257_events rfl rfl rfl H296) (hw _ (List.mem_of_getElem? (i := 116) rfl)) (hw _ (List.mem_of_getElem? (i := 117) rfl)) (notFace_of_selects (args := #[]) (mvT hZ (hw _ (List.mem_of_getElem? (i := 119) rfl)))) (hw _ (List.mem_of_getElem? (i := 119) rfl)) (hw _ (List.mem_of_getElem? (i := 118) rfl)) (by decide) (hw _ (List.mem_of_getElem? (i := 120) rfl)) (hw _ (List.mem_of_getElem? (i := 24) rfl)) rfl H297 pd_10 rfl rfl (by decide) (Nat.le_of_ble_eq_true rfl) (by decide) (by decide) (by rw [hml]; rfl)  rfl (hb hby at_242) ?_
      intro T295 L295 v295 X295 hQ295
      obtain ⟨rfl, N295q, K295, k295, A295⟩ := hQ295
      have N295 := Fr.app N257 N295q
      obtain ⟨b295, g295⟩ : ∃ z_, z_ = T257.heap.size := ⟨_, rfl⟩
      rw [← g295] at A295 ⊢
      have g_b295 : n0 ≤ b295 := Nat.le_trans (Nat.le_trans Z0 (Nat.le_trans gr251 K257.1)) (Nat.le_of_eq g295.symm)
      have lt_b295 := A295.lt
      show Go p e below (T295.setTop (mkF m 245 #[.val (.int p1), .val (.int p2), .val (.int p3), .val (.int p4), .val (.ref b1), .val (.int (1 : Int32)), .val (.ref b6), .val (.ref b31), .val (.ref b55), .unset, .unset, .unset, .unset, .unset, .unset, .unset] [(.ref b295)])) _
      refine Gk.astore X295 hx (hb hby at_245) rfl #[.val (.int p1), .val (.int p2), .val (.int p3), .val (.int p4), .val (.ref b1), .val (.int (1 : Int32)), .val (.ref b6), .val (.ref b31), .val (.ref b55), .val (.ref b295), .unset, .unset, .unset, .unset, .unset, .unset] rfl ?_
      refine Gk.iconst X295 hx (hb hby at_247) (0 : Int32) rfl ?_
      refine Gk.istore X295 hx (hb hby at_248) #[.val (.int p1), .val (.int p2), .val (.int p3), .val (.int p4), .val (.ref b1), .val (.int (1 : Int32)), .val (.ref b6), .val (.ref b31), .val (.ref b55), .val (.ref b295), .val (.int (0 : Int32)), .unset, .unset, .unset, .unset, .unset] rfl ?_
      refine Gk.aconstNull X295 hx (hb hby at_250) ?_
      refine Gk.astore X295 hx (hb hby at_251) rfl #[.val (.int p1), .val (.int p2), .val (.int p3), .val (.int p4), .val (.ref b1), .val (.int (1 : Int32)), .val (.ref b6), .val (.ref b31), .val (.ref b55), .val (.ref b295), .val (.int (0 : Int32)), .val .null, .unset, .unset, .unset, .unset] rfl ?_
      refine Gk.aconstNull X295 hx (hb hby at_253) ?_
      refine Gk.astore X295 hx (hb hby at_254) rfl #[.val (.int p1), .val (.int p2), .val (.int p3), .val (.int p4), .val (.ref b1), .val (.int (1 : Int32)), .val (.ref b6), .val (.ref b31), .val (.ref b55), .val (.ref b295), .val (.int (0 : Int32)), .val .null, .val .null, .unset, .unset, .unset] rfl ?_
      refine Gk.aconstNull X295 hx (hb hby at_256) ?_
      refine Gk.astore X295 hx (hb hby at_257) rfl #[.val (.int p1), .val (.int p2), .val (.int p3), .val (.int p4), .val (.ref b1), .val (.int (1 : Int32)), .val (.ref b6), .val (.ref b31), .val (.ref b55), .val (.ref b295), .val (.int (0 : Int32)), .val .null, .val .null, .val .null, .unset, .unset] rfl ?_
      refine Gk.iload X295 hx (hb hby at_259) rfl ?_
      refine Gk.istore X295 hx (hb hby at_261) #[.val (.int p1), .val (.int p2), .val (.int p3), .val (.int p4), .val (.ref b1), .val (.int (1 : Int32)), .val (.ref b6), .val (.ref b31), .val (.ref b55), .val (.ref b295), .val (.int (0 : Int32)), .val .null, .val .null, .val .null, .val (.int (1 : Int32)), .unset] rfl ?_
      refine Gk.aload X295 hx (hb hby at_263) rfl rfl ?_
      refine Gk.iload X295 hx (hb hby at_265) rfl ?_
      have H299 := ((H254.keep K257 ni150).keep K295 nin0)
      refine Gk.iaload X295 hx hZ rfl H299 ⟨by decide, by decide⟩ (.int (0 : Int32)) rfl (hb hby at_267) ?_
      refine Gk.ifNo X295 hx (hb hby at_268) (flt (by decide : ¬ ((0 : Int32) < (0 : Int32)))).1 ?_
      refine Gk.aload X295 hx (hb hby at_271) rfl rfl ?_
      refine Gk.iload X295 hx (hb hby at_273) rfl ?_
      have H301 := ((H256.keep K257 ni165).keep K295 nin0)
      refine Gk.aaload X295 hx hZ rfl H301 rfl ⟨by decide, by decide⟩ (.ref b8) rfl (hb hby at_275) ?_
      refine Gk.astore X295 hx (hb hby at_276) rfl #[.val (.int p1), .val (.int p2), .val (.int p3), .val (.int p4), .val (.ref b1), .val (.int (1 : Int32)), .val (.ref b6), .val (.ref b31), .val (.ref b55), .val (.ref b295), .val (.int (0 : Int32)), .val (.ref b8), .val .null, .val .null, .val (.int (1 : Int32)), .unset] rfl ?_
      refine Gk.iconst X295 hx (hb hby at_278) (1 : Int32) rfl ?_
      refine Gk.istore X295 hx (hb hby at_279) #[.val (.int p1), .val (.int p2), .val (.int p3), .val (.int p4), .val (.ref b1), .val (.int (1 : Int32)), .val (.ref b6), .val (.ref b31), .val (.ref b55), .val (.ref b295), .val (.int (1 : Int32)), .val (.ref b8), .val .null, .val .null, .val (.int (1 : Int32)), .unset] rfl ?_
      refine Gk.aload X295 hx (hb hby at_281) rfl rfl ?_
      refine Gk.iload X295 hx (hb hby at_283) rfl ?_
      refine Gk.iaload X295 hx hZ rfl H299 ⟨by decide, by decide⟩ (.int (0 : Int32)) rfl (hb hby at_285) ?_
      refine Gk.istore X295 hx (hb hby at_286) #[.val (.int p1), .val (.int p2), .val (.int p3), .val (.int p4), .val (.ref b1), .val (.int (1 : Int32)), .val (.ref b6), .val (.ref b31), .val (.ref b55), .val (.ref b295), .val (.int (1 : Int32)), .val (.ref b8), .val .null, .val .null, .val (.int (0 : Int32)), .unset] rfl ?_
      refine Gk.aload X295 hx (hb hby at_288) rfl rfl ?_
      refine Gk.iload X295 hx (hb hby at_290) rfl ?_
      refine Gk.iaload X295 hx hZ rfl H299 ⟨by decide, by decide⟩ (.int (-1 : Int32)) rfl (hb hby at_292) ?_
      refine Gk.ifYes X295 hx (hb hby at_293) (tlt (by decide : (-1 : Int32) < (0 : Int32))).1 338 (by decide) (by decide) ?_
      refine Gk.aload X295 hx (hb hby at_338) rfl rfl ?_
      refine Gk.ifnullNo X295 hx (hb hby at_340) ?_
      refine Gk.aload X295 hx (hb hby at_343) rfl rfl ?_
      refine Gk.alen X295 hx hZ rfl A295 (hb hby at_345) ?_
      refine Gk.iload X295 hx (hb hby at_346) rfl ?_
      refine Gk.icmpYes X295 hx (hb hby at_348) (teq (by decide : (1 : Int32) = (1 : Int32))).1 353 (by decide) (by decide) ?_
      refine Gk.iconst X295 hx (hb hby at_353) (1 : Int32) rfl ?_
      refine Gk.istore X295 hx (hb hby at_354) #[.val (.int p1), .val (.int p2), .val (.int p3), .val (.int p4), .val (.ref b1), .val (.int (1 : Int32)), .val (.ref b6), .val (.ref b31), .val (.ref b55), .val (.ref b295), .val (.int (1 : Int32)), .val (.ref b8), .val .null, .val .null, .val (.int (0 : Int32)), .val (.int (1 : Int32))] rfl ?_
      refine Gk.iload X295 hx (hb hby at_356) rfl ?_
      refine Gk.iconst X295 hx (hb hby at_358) (1 : Int32) rfl ?_
      refine Gk.icmpNo X295 hx (hb hby at_359) (flt (by decide : ¬ ((1 : Int32) < (1 : Int32)))).1 ?_
      refine Gk.iload X295 hx (hb hby at_362) rfl ?_
      refine Gk.ifNo X295 hx (hb hby at_364) (feq (by decide : ¬ ((1 : Int32) = (0 : Int32)))).1 ?_
      refine Gk.aload X295 hx (hb hby at_367) rfl rfl ?_
      refine Gk.iload X295 hx (hb hby at_369) rfl ?_
      refine Gk.iconst X295 hx (hb hby at_371) (1 : Int32) rfl ?_
      refine Gk.isub X295 hx (hb hby at_372) (0 : Int32) (by decide) ?_
      refine Gk.aaload X295 hx hZ rfl A295 rfl ⟨by decide, by decide⟩ (.ref b8) rfl (hb hby at_373) ?_
      refine Gk.aload X295 hx (hb hby at_374) rfl rfl ?_
      refine Gk.acmp X295 hx (hb hby at_376) rfl rfl true (decide_eq_true rfl) 379 (by decide) (by decide) ?_
      refine Gk.iconst X295 hx (hb hby at_379) (1 : Int32) rfl ?_
      refine Gk.goto X295 hx (hb hby at_380) 384 (by decide) (by decide) ?_
      refine Gk.istore X295 hx (hb hby at_384) #[.val (.int p1), .val (.int p2), .val (.int p3), .val (.int p4), .val (.ref b1), .val (.int (1 : Int32)), .val (.ref b6), .val (.ref b31), .val (.ref b55), .val (.ref b295), .val (.int (1 : Int32)), .val (.ref b8), .val .null, .val .null, .val (.int (0 : Int32)), .val (.int (1 : Int32))] rfl ?_
      refine Gk.iload X295 hx (hb hby at_386) rfl ?_
      refine Gk.iconst X295 hx (hb hby at_388) (2 : Int32) rfl ?_
      refine Gk.icmpYes X295 hx (hb hby at_389) (tlt (by decide : (1 : Int32) < (2 : Int32))).1 416 (by decide) (by decide) ?_
      refine Gk.iload X295 hx (hb hby at_416) rfl ?_
      refine Gk.iconst X295 hx (hb hby at_418) (3 : Int32) rfl ?_
      refine Gk.icmpYes X295 hx (hb hby at_419) (tlt (by decide : (1 : Int32) < (3 : Int32))).1 446 (by decide) (by decide) ?_
      refine Gk.iload X295 hx (hb hby at_446) rfl ?_
      refine Go.fin X295 (v := some (.int (1 : Int32))) (fun h_ => by rw [Bd.returns] at h_; cases h_) Bd.notSynchronized (fun _ hr => retN X295 hx (t := .boolean) Bd.returns (by simp) (hb hby at_448) hr) (fun U' hU hF => ⟨_, _, rfl, ?_, hF.1, hF.2.1, hF.2.2.mono (by decide) (by decide)⟩)
      exact ⟨(congrArg (fun z_ : Int32 => some (Value.int z_)) (show (1 : Int32) = (1 : Int32) from rfl)), N295⟩
  · subst hk_kk
    rcases own_P2 eP2 with hk_P2 | hk_P2 | hk_P2
    · subst hk_P2
      refine Gk.aload X257 hx (hb hby at_238) rfl rfl ?_
      refine Gk.iload X257 hx (hb hby at_240) rfl ?_
      have H306 := (H252.keep K257)
      refine Gk.callV (argsL := [(.int (2 : Int32))]) X257 hx hZ hown (rm14_2 l Z a0 hw [] b31 x_parents kx_parents (upd (upd (upd (upd (fun _ => (.int (0 : Int32))) 0 (.int (-1 : Int32))) 1 (.int P1)) 2 (.int (-1 : Int32))) 3 (.int P3)) x_events kx_events (upd (upd (upd (upd (fun _ => .null) 0 .null) 1 (.ref b8)) 2 (.ref b15)) 3 (.ref b23)) T257.heap n0 (Nat.le_trans Z0 (Nat.le_trans gr251 K257.1)) Va257_parents Va257_events Fa257_parents Fa257_events rfl) (hw _ (List.mem_of_getElem? (i := 116) rfl)) (hw _ (List.mem_of_getElem? (i := 117) rfl)) (notFace_of_selects (args := #[]) (mvT hZ (hw _ (List.mem_of_getElem? (i := 119) rfl)))) (hw _ (List.mem_of_getElem? (i := 119) rfl)) (hw _ (List.mem_of_getElem? (i := 118) rfl)) (by decide) (hw _ (List.mem_of_getElem? (i := 120) rfl)) (hw _ (List.mem_of_getElem? (i := 24) rfl)) rfl H306 pd_10 rfl rfl (by decide) (Nat.le_of_ble_eq_true rfl) (by decide) (by decide) (by rw [hml]; rfl)  rfl (hb hby at_242) ?_
      intro T305 L305 v305 X305 hQ305
      obtain ⟨rfl, N305q, K305, k305, A305⟩ := hQ305
      have N305 := Fr.app N257 N305q
      obtain ⟨b305, g305⟩ : ∃ z_, z_ = T257.heap.size := ⟨_, rfl⟩
      rw [← g305] at A305 ⊢
      have g_b305 : n0 ≤ b305 := Nat.le_trans (Nat.le_trans Z0 (Nat.le_trans gr251 K257.1)) (Nat.le_of_eq g305.symm)
      have lt_b305 := A305.lt
      show Go p e below (T305.setTop (mkF m 245 #[.val (.int p1), .val (.int p2), .val (.int p3), .val (.int p4), .val (.ref b1), .val (.int (2 : Int32)), .val (.ref b6), .val (.ref b31), .val (.ref b55), .unset, .unset, .unset, .unset, .unset, .unset, .unset] [(.ref b305)])) _
      refine Gk.astore X305 hx (hb hby at_245) rfl #[.val (.int p1), .val (.int p2), .val (.int p3), .val (.int p4), .val (.ref b1), .val (.int (2 : Int32)), .val (.ref b6), .val (.ref b31), .val (.ref b55), .val (.ref b305), .unset, .unset, .unset, .unset, .unset, .unset] rfl ?_
      refine Gk.iconst X305 hx (hb hby at_247) (0 : Int32) rfl ?_
      refine Gk.istore X305 hx (hb hby at_248) #[.val (.int p1), .val (.int p2), .val (.int p3), .val (.int p4), .val (.ref b1), .val (.int (2 : Int32)), .val (.ref b6), .val (.ref b31), .val (.ref b55), .val (.ref b305), .val (.int (0 : Int32)), .unset, .unset, .unset, .unset, .unset] rfl ?_
      refine Gk.aconstNull X305 hx (hb hby at_250) ?_
      refine Gk.astore X305 hx (hb hby at_251) rfl #[.val (.int p1), .val (.int p2), .val (.int p3), .val (.int p4), .val (.ref b1), .val (.int (2 : Int32)), .val (.ref b6), .val (.ref b31), .val (.ref b55), .val (.ref b305), .val (.int (0 : Int32)), .val .null, .unset, .unset, .unset, .unset] rfl ?_
      refine Gk.aconstNull X305 hx (hb hby at_253) ?_
      refine Gk.astore X305 hx (hb hby at_254) rfl #[.val (.int p1), .val (.int p2), .val (.int p3), .val (.int p4), .val (.ref b1), .val (.int (2 : Int32)), .val (.ref b6), .val (.ref b31), .val (.ref b55), .val (.ref b305), .val (.int (0 : Int32)), .val .null, .val .null, .unset, .unset, .unset] rfl ?_
      refine Gk.aconstNull X305 hx (hb hby at_256) ?_
      refine Gk.astore X305 hx (hb hby at_257) rfl #[.val (.int p1), .val (.int p2), .val (.int p3), .val (.int p4), .val (.ref b1), .val (.int (2 : Int32)), .val (.ref b6), .val (.ref b31), .val (.ref b55), .val (.ref b305), .val (.int (0 : Int32)), .val .null, .val .null, .val .null, .unset, .unset] rfl ?_
      refine Gk.iload X305 hx (hb hby at_259) rfl ?_
      refine Gk.istore X305 hx (hb hby at_261) #[.val (.int p1), .val (.int p2), .val (.int p3), .val (.int p4), .val (.ref b1), .val (.int (2 : Int32)), .val (.ref b6), .val (.ref b31), .val (.ref b55), .val (.ref b305), .val (.int (0 : Int32)), .val .null, .val .null, .val .null, .val (.int (2 : Int32)), .unset] rfl ?_
      refine Gk.aload X305 hx (hb hby at_263) rfl rfl ?_
      refine Gk.iload X305 hx (hb hby at_265) rfl ?_
      have H308 := ((H254.keep K257 ni150).keep K305 nin0)
      refine Gk.iaload X305 hx hZ rfl H308 ⟨by decide, by decide⟩ (.int (-1 : Int32)) rfl (hb hby at_267) ?_
      refine Gk.ifYes X305 hx (hb hby at_268) (tlt (by decide : (-1 : Int32) < (0 : Int32))).1 338 (by decide) (by decide) ?_
      refine Gk.aload X305 hx (hb hby at_338) rfl rfl ?_
      refine Gk.ifnullNo X305 hx (hb hby at_340) ?_
      refine Gk.aload X305 hx (hb hby at_343) rfl rfl ?_
      refine Gk.alen X305 hx hZ rfl A305 (hb hby at_345) ?_
      refine Gk.iload X305 hx (hb hby at_346) rfl ?_
      refine Gk.icmpYes X305 hx (hb hby at_348) (teq (by decide : (0 : Int32) = (0 : Int32))).1 353 (by decide) (by decide) ?_
      refine Gk.iconst X305 hx (hb hby at_353) (1 : Int32) rfl ?_
      refine Gk.istore X305 hx (hb hby at_354) #[.val (.int p1), .val (.int p2), .val (.int p3), .val (.int p4), .val (.ref b1), .val (.int (2 : Int32)), .val (.ref b6), .val (.ref b31), .val (.ref b55), .val (.ref b305), .val (.int (0 : Int32)), .val .null, .val .null, .val .null, .val (.int (2 : Int32)), .val (.int (1 : Int32))] rfl ?_
      refine Gk.iload X305 hx (hb hby at_356) rfl ?_
      refine Gk.iconst X305 hx (hb hby at_358) (1 : Int32) rfl ?_
      refine Gk.icmpYes X305 hx (hb hby at_359) (tlt (by decide : (0 : Int32) < (1 : Int32))).1 386 (by decide) (by decide) ?_
      refine Gk.iload X305 hx (hb hby at_386) rfl ?_
      refine Gk.iconst X305 hx (hb hby at_388) (2 : Int32) rfl ?_
      refine Gk.icmpYes X305 hx (hb hby at_389) (tlt (by decide : (0 : Int32) < (2 : Int32))).1 416 (by decide) (by decide) ?_
      refine Gk.iload X305 hx (hb hby at_416) rfl ?_
      refine Gk.iconst X305 hx (hb hby at_418) (3 : Int32) rfl ?_
      refine Gk.icmpYes X305 hx (hb hby at_419) (tlt (by decide : (0 : Int32) < (3 : Int32))).1 446 (by decide) (by decide) ?_
      refine Gk.iload X305 hx (hb hby at_446) rfl ?_
      refine Go.fin X305 (v := some (.int (1 : Int32))) (fun h_ => by rw [Bd.returns] at h_; cases h_) Bd.notSynchronized (fun _ hr => retN X305 hx (t := .boolean) Bd.returns (by simp) (hb hby at_448) hr) (fun U' hU hF => ⟨_, _, rfl, ?_, hF.1, hF.2.1, hF.2.2.mono (by decide) (by decide)⟩)
      exact ⟨(congrArg (fun z_ : Int32 => some (Value.int z_)) (show (1 : Int32) = (1 : Int32) from rfl)), N305⟩
    · subst hk_P2
      refine Gk.aload X257 hx (hb hby at_238) rfl rfl ?_
      refine Gk.iload X257 hx (hb hby at_240) rfl ?_
      have H310 := (((H219.keep K217).wr W247).keep K257)
      have H311 := (H252.keep K257)
      refine Gk.callV (argsL := [(.int (2 : Int32))]) X257 hx hZ hown (rm14_20 l Z a0 hw [] b31 x_parents kx_parents (upd (upd (upd (upd (fun _ => (.int (0 : Int32))) 0 (.int (-1 : Int32))) 1 (.int P1)) 2 (.int (0 : Int32))) 3 (.int P3)) x_events kx_events (upd (upd (upd (upd (fun _ => .null) 0 .null) 1 (.ref b8)) 2 (.ref b15)) 3 (.ref b23)) b15 T257.heap n0 (Nat.le_trans Z0 (Nat.le_trans gr251 K257.1)) Va257_parents Va257_events Fa257_parents Fa257_events rfl rfl rfl H310) (hw _ (List.mem_of_getElem? (i := 116) rfl)) (hw _ (List.mem_of_getElem? (i := 117) rfl)) (notFace_of_selects (args := #[]) (mvT hZ (hw _ (List.mem_of_getElem? (i := 119) rfl)))) (hw _ (List.mem_of_getElem? (i := 119) rfl)) (hw _ (List.mem_of_getElem? (i := 118) rfl)) (by decide) (hw _ (List.mem_of_getElem? (i := 120) rfl)) (hw _ (List.mem_of_getElem? (i := 24) rfl)) rfl H311 pd_10 rfl rfl (by decide) (Nat.le_of_ble_eq_true rfl) (by decide) (by decide) (by rw [hml]; rfl)  rfl (hb hby at_242) ?_
      intro T309 L309 v309 X309 hQ309
      obtain ⟨rfl, N309q, K309, k309, A309⟩ := hQ309
      have N309 := Fr.app N257 N309q
      obtain ⟨b309, g309⟩ : ∃ z_, z_ = T257.heap.size := ⟨_, rfl⟩
      rw [← g309] at A309 ⊢
      have g_b309 : n0 ≤ b309 := Nat.le_trans (Nat.le_trans Z0 (Nat.le_trans gr251 K257.1)) (Nat.le_of_eq g309.symm)
      have lt_b309 := A309.lt
      show Go p e below (T309.setTop (mkF m 245 #[.val (.int p1), .val (.int p2), .val (.int p3), .val (.int p4), .val (.ref b1), .val (.int (2 : Int32)), .val (.ref b6), .val (.ref b31), .val (.ref b55), .unset, .unset, .unset, .unset, .unset, .unset, .unset] [(.ref b309)])) _
      refine Gk.astore X309 hx (hb hby at_245) rfl #[.val (.int p1), .val (.int p2), .val (.int p3), .val (.int p4), .val (.ref b1), .val (.int (2 : Int32)), .val (.ref b6), .val (.ref b31), .val (.ref b55), .val (.ref b309), .unset, .unset, .unset, .unset, .unset, .unset] rfl ?_
      refine Gk.iconst X309 hx (hb hby at_247) (0 : Int32) rfl ?_
      refine Gk.istore X309 hx (hb hby at_248) #[.val (.int p1), .val (.int p2), .val (.int p3), .val (.int p4), .val (.ref b1), .val (.int (2 : Int32)), .val (.ref b6), .val (.ref b31), .val (.ref b55), .val (.ref b309), .val (.int (0 : Int32)), .unset, .unset, .unset, .unset, .unset] rfl ?_
      refine Gk.aconstNull X309 hx (hb hby at_250) ?_
      refine Gk.astore X309 hx (hb hby at_251) rfl #[.val (.int p1), .val (.int p2), .val (.int p3), .val (.int p4), .val (.ref b1), .val (.int (2 : Int32)), .val (.ref b6), .val (.ref b31), .val (.ref b55), .val (.ref b309), .val (.int (0 : Int32)), .val .null, .unset, .unset, .unset, .unset] rfl ?_
      refine Gk.aconstNull X309 hx (hb hby at_253) ?_
      refine Gk.astore X309 hx (hb hby at_254) rfl #[.val (.int p1), .val (.int p2), .val (.int p3), .val (.int p4), .val (.ref b1), .val (.int (2 : Int32)), .val (.ref b6), .val (.ref b31), .val (.ref b55), .val (.ref b309), .val (.int (0 : Int32)), .val .null, .val .null, .unset, .unset, .unset] rfl ?_
      refine Gk.aconstNull X309 hx (hb hby at_256) ?_
      refine Gk.astore X309 hx (hb hby at_257) rfl #[.val (.int p1), .val (.int p2), .val (.int p3), .val (.int p4), .val (.ref b1), .val (.int (2 : Int32)), .val (.ref b6), .val (.ref b31), .val (.ref b55), .val (.ref b309), .val (.int (0 : Int32)), .val .null, .val .null, .val .null, .unset, .unset] rfl ?_
      refine Gk.iload X309 hx (hb hby at_259) rfl ?_
      refine Gk.istore X309 hx (hb hby at_261) #[.val (.int p1), .val (.int p2), .val (.int p3), .val (.int p4), .val (.ref b1), .val (.int (2 : Int32)), .val (.ref b6), .val (.ref b31), .val (.ref b55), .val (.ref b309), .val (.int (0 : Int32)), .val .null, .val .null, .val .null, .val (.int (2 : Int32)), .unset] rfl ?_
      refine Gk.aload X309 hx (hb hby at_263) rfl rfl ?_
      refine Gk.iload X309 hx (hb hby at_265) rfl ?_
      have H313 := ((H254.keep K257 ni150).keep K309 nin0)
      refine Gk.iaload X309 hx hZ rfl H313 ⟨by decide, by decide⟩ (.int (0 : Int32)) rfl (hb hby at_267) ?_
      refine Gk.ifNo X309 hx (hb hby at_268) (flt (by decide : ¬ ((0 : Int32) < (0 : Int32)))).1 ?_
      refine Gk.aload X309 hx (hb hby at_271) rfl rfl ?_
      refine Gk.iload X309 hx (hb hby at_273) rfl ?_
      have H315 := ((H256.keep K257 ni165).keep K309 nin0)
      refine Gk.aaload X309 hx hZ rfl H315 rfl ⟨by decide, by decide⟩ (.ref b15) rfl (hb hby at_275) ?_
      refine Gk.astore X309 hx (hb hby at_276) rfl #[.val (.int p1), .val (.int p2), .val (.int p3), .val (.int p4), .val (.ref b1), .val (.int (2 : Int32)), .val (.ref b6), .val (.ref b31), .val (.ref b55), .val (.ref b309), .val (.int (0 : Int32)), .val (.ref b15), .val .null, .val .null, .val (.int (2 : Int32)), .unset] rfl ?_
      refine Gk.iconst X309 hx (hb hby at_278) (1 : Int32) rfl ?_
      refine Gk.istore X309 hx (hb hby at_279) #[.val (.int p1), .val (.int p2), .val (.int p3), .val (.int p4), .val (.ref b1), .val (.int (2 : Int32)), .val (.ref b6), .val (.ref b31), .val (.ref b55), .val (.ref b309), .val (.int (1 : Int32)), .val (.ref b15), .val .null, .val .null, .val (.int (2 : Int32)), .unset] rfl ?_
      refine Gk.aload X309 hx (hb hby at_281) rfl rfl ?_
      refine Gk.iload X309 hx (hb hby at_283) rfl ?_
      refine Gk.iaload X309 hx hZ rfl H313 ⟨by decide, by decide⟩ (.int (0 : Int32)) rfl (hb hby at_285) ?_
      refine Gk.istore X309 hx (hb hby at_286) #[.val (.int p1), .val (.int p2), .val (.int p3), .val (.int p4), .val (.ref b1), .val (.int (2 : Int32)), .val (.ref b6), .val (.ref b31), .val (.ref b55), .val (.ref b309), .val (.int (1 : Int32)), .val (.ref b15), .val .null, .val .null, .val (.int (0 : Int32)), .unset] rfl ?_
      refine Gk.aload X309 hx (hb hby at_288) rfl rfl ?_
      refine Gk.iload X309 hx (hb hby at_290) rfl ?_
      refine Gk.iaload X309 hx hZ rfl H313 ⟨by decide, by decide⟩ (.int (-1 : Int32)) rfl (hb hby at_292) ?_
      refine Gk.ifYes X309 hx (hb hby at_293) (tlt (by decide : (-1 : Int32) < (0 : Int32))).1 338 (by decide) (by decide) ?_
      refine Gk.aload X309 hx (hb hby at_338) rfl rfl ?_
      refine Gk.ifnullNo X309 hx (hb hby at_340) ?_
      refine Gk.aload X309 hx (hb hby at_343) rfl rfl ?_
      refine Gk.alen X309 hx hZ rfl A309 (hb hby at_345) ?_
      refine Gk.iload X309 hx (hb hby at_346) rfl ?_
      refine Gk.icmpYes X309 hx (hb hby at_348) (teq (by decide : (1 : Int32) = (1 : Int32))).1 353 (by decide) (by decide) ?_
      refine Gk.iconst X309 hx (hb hby at_353) (1 : Int32) rfl ?_
      refine Gk.istore X309 hx (hb hby at_354) #[.val (.int p1), .val (.int p2), .val (.int p3), .val (.int p4), .val (.ref b1), .val (.int (2 : Int32)), .val (.ref b6), .val (.ref b31), .val (.ref b55), .val (.ref b309), .val (.int (1 : Int32)), .val (.ref b15), .val .null, .val .null, .val (.int (0 : Int32)), .val (.int (1 : Int32))] rfl ?_
      refine Gk.iload X309 hx (hb hby at_356) rfl ?_
      refine Gk.iconst X309 hx (hb hby at_358) (1 : Int32) rfl ?_
      refine Gk.icmpNo X309 hx (hb hby at_359) (flt (by decide : ¬ ((1 : Int32) < (1 : Int32)))).1 ?_
      refine Gk.iload X309 hx (hb hby at_362) rfl ?_
      refine Gk.ifNo X309 hx (hb hby at_364) (feq (by decide : ¬ ((1 : Int32) = (0 : Int32)))).1 ?_
      refine Gk.aload X309 hx (hb hby at_367) rfl rfl ?_
      refine Gk.iload X309 hx (hb hby at_369) rfl ?_
      refine Gk.iconst X309 hx (hb hby at_371) (1 : Int32) rfl ?_
      refine Gk.isub X309 hx (hb hby at_372) (0 : Int32) (by decide) ?_
      refine Gk.aaload X309 hx hZ rfl A309 rfl ⟨by decide, by decide⟩ (.ref b15) rfl (hb hby at_373) ?_
      refine Gk.aload X309 hx (hb hby at_374) rfl rfl ?_
      refine Gk.acmp X309 hx (hb hby at_376) rfl rfl true (decide_eq_true rfl) 379 (by decide) (by decide) ?_
      refine Gk.iconst X309 hx (hb hby at_379) (1 : Int32) rfl ?_
      refine Gk.goto X309 hx (hb hby at_380) 384 (by decide) (by decide) ?_
      refine Gk.istore X309 hx (hb hby at_384) #[.val (.int p1), .val (.int p2), .val (.int p3), .val (.int p4), .val (.ref b1), .val (.int (2 : Int32)), .val (.ref b6), .val (.ref b31), .val (.ref b55), .val (.ref b309), .val (.int (1 : Int32)), .val (.ref b15), .val .null, .val .null, .val (.int (0 : Int32)), .val (.int (1 : Int32))] rfl ?_
      refine Gk.iload X309 hx (hb hby at_386) rfl ?_
      refine Gk.iconst X309 hx (hb hby at_388) (2 : Int32) rfl ?_
      refine Gk.icmpYes X309 hx (hb hby at_389) (tlt (by decide : (1 : Int32) < (2 : Int32))).1 416 (by decide) (by decide) ?_
      refine Gk.iload X309 hx (hb hby at_416) rfl ?_
      refine Gk.iconst X309 hx (hb hby at_418) (3 : Int32) rfl ?_
      refine Gk.icmpYes X309 hx (hb hby at_419) (tlt (by decide : (1 : Int32) < (3 : Int32))).1 446 (by decide) (by decide) ?_
      refine Gk.iload X309 hx (hb hby at_446) rfl ?_
      refine Go.fin X309 (v := some (.int (1 : Int32))) (fun h_ => by rw [Bd.returns] at h_; cases h_) Bd.notSynchronized (fun _ hr => retN X309 hx (t := .boolean) Bd.returns (by simp) (hb hby at_448) hr) (fun U' hU hF => ⟨_, _, rfl, ?_, hF.1, hF.2.1, hF.2.2.mono (by decide) (by decide)⟩)
      exact ⟨(congrArg (fun z_ : Int32 => some (Value.int z_)) (show (1 : Int32) = (1 : Int32) from rfl)), N309⟩
    · subst hk_P2
      rcases own_P1 eP1 with hk_P1 | hk_P1
      · subst hk_P1
        refine Gk.aload X257 hx (hb hby at_238) rfl rfl ?_
        refine Gk.iload X257 hx (hb hby at_240) rfl ?_
        have H320 := (((H219.keep K217).wr W247).keep K257)
        have H321 := (H252.keep K257)
        refine Gk.callV (argsL := [(.int (2 : Int32))]) X257 hx hZ hown (rm14_21 l Z a0 hw [] b31 x_parents kx_parents (upd (upd (upd (upd (fun _ => (.int (0 : Int32))) 0 (.int (-1 : Int32))) 1 (.int (-1 : Int32))) 2 (.int (1 : Int32))) 3 (.int P3)) x_events kx_events (upd (upd (upd (upd (fun _ => .null) 0 .null) 1 (.ref b8)) 2 (.ref b15)) 3 (.ref b23)) b15 T257.heap n0 (Nat.le_trans Z0 (Nat.le_trans gr251 K257.1)) Va257_parents Va257_events Fa257_parents Fa257_events rfl rfl rfl H320) (hw _ (List.mem_of_getElem? (i := 116) rfl)) (hw _ (List.mem_of_getElem? (i := 117) rfl)) (notFace_of_selects (args := #[]) (mvT hZ (hw _ (List.mem_of_getElem? (i := 119) rfl)))) (hw _ (List.mem_of_getElem? (i := 119) rfl)) (hw _ (List.mem_of_getElem? (i := 118) rfl)) (by decide) (hw _ (List.mem_of_getElem? (i := 120) rfl)) (hw _ (List.mem_of_getElem? (i := 24) rfl)) rfl H321 pd_10 rfl rfl (by decide) (Nat.le_of_ble_eq_true rfl) (by decide) (by decide) (by rw [hml]; rfl)  rfl (hb hby at_242) ?_
        intro T319 L319 v319 X319 hQ319
        obtain ⟨rfl, N319q, K319, k319, A319⟩ := hQ319
        have N319 := Fr.app N257 N319q
        obtain ⟨b319, g319⟩ : ∃ z_, z_ = T257.heap.size := ⟨_, rfl⟩
        rw [← g319] at A319 ⊢
        have g_b319 : n0 ≤ b319 := Nat.le_trans (Nat.le_trans Z0 (Nat.le_trans gr251 K257.1)) (Nat.le_of_eq g319.symm)
        have lt_b319 := A319.lt
        show Go p e below (T319.setTop (mkF m 245 #[.val (.int p1), .val (.int p2), .val (.int p3), .val (.int p4), .val (.ref b1), .val (.int (2 : Int32)), .val (.ref b6), .val (.ref b31), .val (.ref b55), .unset, .unset, .unset, .unset, .unset, .unset, .unset] [(.ref b319)])) _
        refine Gk.astore X319 hx (hb hby at_245) rfl #[.val (.int p1), .val (.int p2), .val (.int p3), .val (.int p4), .val (.ref b1), .val (.int (2 : Int32)), .val (.ref b6), .val (.ref b31), .val (.ref b55), .val (.ref b319), .unset, .unset, .unset, .unset, .unset, .unset] rfl ?_
        refine Gk.iconst X319 hx (hb hby at_247) (0 : Int32) rfl ?_
        refine Gk.istore X319 hx (hb hby at_248) #[.val (.int p1), .val (.int p2), .val (.int p3), .val (.int p4), .val (.ref b1), .val (.int (2 : Int32)), .val (.ref b6), .val (.ref b31), .val (.ref b55), .val (.ref b319), .val (.int (0 : Int32)), .unset, .unset, .unset, .unset, .unset] rfl ?_
        refine Gk.aconstNull X319 hx (hb hby at_250) ?_
        refine Gk.astore X319 hx (hb hby at_251) rfl #[.val (.int p1), .val (.int p2), .val (.int p3), .val (.int p4), .val (.ref b1), .val (.int (2 : Int32)), .val (.ref b6), .val (.ref b31), .val (.ref b55), .val (.ref b319), .val (.int (0 : Int32)), .val .null, .unset, .unset, .unset, .unset] rfl ?_
        refine Gk.aconstNull X319 hx (hb hby at_253) ?_
        refine Gk.astore X319 hx (hb hby at_254) rfl #[.val (.int p1), .val (.int p2), .val (.int p3), .val (.int p4), .val (.ref b1), .val (.int (2 : Int32)), .val (.ref b6), .val (.ref b31), .val (.ref b55), .val (.ref b319), .val (.int (0 : Int32)), .val .null, .val .null, .unset, .unset, .unset] rfl ?_
        refine Gk.aconstNull X319 hx (hb hby at_256) ?_
        refine Gk.astore X319 hx (hb hby at_257) rfl #[.val (.int p1), .val (.int p2), .val (.int p3), .val (.int p4), .val (.ref b1), .val (.int (2 : Int32)), .val (.ref b6), .val (.ref b31), .val (.ref b55), .val (.ref b319), .val (.int (0 : Int32)), .val .null, .val .null, .val .null, .unset, .unset] rfl ?_
        refine Gk.iload X319 hx (hb hby at_259) rfl ?_
        refine Gk.istore X319 hx (hb hby at_261) #[.val (.int p1), .val (.int p2), .val (.int p3), .val (.int p4), .val (.ref b1), .val (.int (2 : Int32)), .val (.ref b6), .val (.ref b31), .val (.ref b55), .val (.ref b319), .val (.int (0 : Int32)), .val .null, .val .null, .val .null, .val (.int (2 : Int32)), .unset] rfl ?_
        refine Gk.aload X319 hx (hb hby at_263) rfl rfl ?_
        refine Gk.iload X319 hx (hb hby at_265) rfl ?_
        have H323 := ((H254.keep K257 ni150).keep K319 nin0)
        refine Gk.iaload X319 hx hZ rfl H323 ⟨by decide, by decide⟩ (.int (1 : Int32)) rfl (hb hby at_267) ?_
        refine Gk.ifNo X319 hx (hb hby at_268) (flt (by decide : ¬ ((1 : Int32) < (0 : Int32)))).1 ?_
        refine Gk.aload X319 hx (hb hby at_271) rfl rfl ?_
        refine Gk.iload X319 hx (hb hby at_273) rfl ?_
        have H325 := ((H256.keep K257 ni165).keep K319 nin0)
        refine Gk.aaload X319 hx hZ rfl H325 rfl ⟨by decide, by decide⟩ (.ref b15) rfl (hb hby at_275) ?_
        refine Gk.astore X319 hx (hb hby at_276) rfl #[.val (.int p1), .val (.int p2), .val (.int p3), .val (.int p4), .val (.ref b1), .val (.int (2 : Int32)), .val (.ref b6), .val (.ref b31), .val (.ref b55), .val (.ref b319), .val (.int (0 : Int32)), .val (.ref b15), .val .null, .val .null, .val (.int (2 : Int32)), .unset] rfl ?_
        refine Gk.iconst X319 hx (hb hby at_278) (1 : Int32) rfl ?_
        refine Gk.istore X319 hx (hb hby at_279) #[.val (.int p1), .val (.int p2), .val (.int p3), .val (.int p4), .val (.ref b1), .val (.int (2 : Int32)), .val (.ref b6), .val (.ref b31), .val (.ref b55), .val (.ref b319), .val (.int (1 : Int32)), .val (.ref b15), .val .null, .val .null, .val (.int (2 : Int32)), .unset] rfl ?_
        refine Gk.aload X319 hx (hb hby at_281) rfl rfl ?_
        refine Gk.iload X319 hx (hb hby at_283) rfl ?_
        refine Gk.iaload X319 hx hZ rfl H323 ⟨by decide, by decide⟩ (.int (1 : Int32)) rfl (hb hby at_285) ?_
        refine Gk.istore X319 hx (hb hby at_286) #[.val (.int p1), .val (.int p2), .val (.int p3), .val (.int p4), .val (.ref b1), .val (.int (2 : Int32)), .val (.ref b6), .val (.ref b31), .val (.ref b55), .val (.ref b319), .val (.int (1 : Int32)), .val (.ref b15), .val .null, .val .null, .val (.int (1 : Int32)), .unset] rfl ?_
        refine Gk.aload X319 hx (hb hby at_288) rfl rfl ?_
        refine Gk.iload X319 hx (hb hby at_290) rfl ?_
        refine Gk.iaload X319 hx hZ rfl H323 ⟨by decide, by decide⟩ (.int (-1 : Int32)) rfl (hb hby at_292) ?_
        refine Gk.ifYes X319 hx (hb hby at_293) (tlt (by decide : (-1 : Int32) < (0 : Int32))).1 338 (by decide) (by decide) ?_
        refine Gk.aload X319 hx (hb hby at_338) rfl rfl ?_
        refine Gk.ifnullNo X319 hx (hb hby at_340) ?_
        refine Gk.aload X319 hx (hb hby at_343) rfl rfl ?_
        refine Gk.alen X319 hx hZ rfl A319 (hb hby at_345) ?_
        refine Gk.iload X319 hx (hb hby at_346) rfl ?_
        refine Gk.icmpYes X319 hx (hb hby at_348) (teq (by decide : (1 : Int32) = (1 : Int32))).1 353 (by decide) (by decide) ?_
        refine Gk.iconst X319 hx (hb hby at_353) (1 : Int32) rfl ?_
        refine Gk.istore X319 hx (hb hby at_354) #[.val (.int p1), .val (.int p2), .val (.int p3), .val (.int p4), .val (.ref b1), .val (.int (2 : Int32)), .val (.ref b6), .val (.ref b31), .val (.ref b55), .val (.ref b319), .val (.int (1 : Int32)), .val (.ref b15), .val .null, .val .null, .val (.int (1 : Int32)), .val (.int (1 : Int32))] rfl ?_
        refine Gk.iload X319 hx (hb hby at_356) rfl ?_
        refine Gk.iconst X319 hx (hb hby at_358) (1 : Int32) rfl ?_
        refine Gk.icmpNo X319 hx (hb hby at_359) (flt (by decide : ¬ ((1 : Int32) < (1 : Int32)))).1 ?_
        refine Gk.iload X319 hx (hb hby at_362) rfl ?_
        refine Gk.ifNo X319 hx (hb hby at_364) (feq (by decide : ¬ ((1 : Int32) = (0 : Int32)))).1 ?_
        refine Gk.aload X319 hx (hb hby at_367) rfl rfl ?_
        refine Gk.iload X319 hx (hb hby at_369) rfl ?_
        refine Gk.iconst X319 hx (hb hby at_371) (1 : Int32) rfl ?_
        refine Gk.isub X319 hx (hb hby at_372) (0 : Int32) (by decide) ?_
        refine Gk.aaload X319 hx hZ rfl A319 rfl ⟨by decide, by decide⟩ (.ref b15) rfl (hb hby at_373) ?_
        refine Gk.aload X319 hx (hb hby at_374) rfl rfl ?_
        refine Gk.acmp X319 hx (hb hby at_376) rfl rfl true (decide_eq_true rfl) 379 (by decide) (by decide) ?_
        refine Gk.iconst X319 hx (hb hby at_379) (1 : Int32) rfl ?_
        refine Gk.goto X319 hx (hb hby at_380) 384 (by decide) (by decide) ?_
        refine Gk.istore X319 hx (hb hby at_384) #[.val (.int p1), .val (.int p2), .val (.int p3), .val (.int p4), .val (.ref b1), .val (.int (2 : Int32)), .val (.ref b6), .val (.ref b31), .val (.ref b55), .val (.ref b319), .val (.int (1 : Int32)), .val (.ref b15), .val .null, .val .null, .val (.int (1 : Int32)), .val (.int (1 : Int32))] rfl ?_
        refine Gk.iload X319 hx (hb hby at_386) rfl ?_
        refine Gk.iconst X319 hx (hb hby at_388) (2 : Int32) rfl ?_
        refine Gk.icmpYes X319 hx (hb hby at_389) (tlt (by decide : (1 : Int32) < (2 : Int32))).1 416 (by decide) (by decide) ?_
        refine Gk.iload X319 hx (hb hby at_416) rfl ?_
        refine Gk.iconst X319 hx (hb hby at_418) (3 : Int32) rfl ?_
        refine Gk.icmpYes X319 hx (hb hby at_419) (tlt (by decide : (1 : Int32) < (3 : Int32))).1 446 (by decide) (by decide) ?_
        refine Gk.iload X319 hx (hb hby at_446) rfl ?_
        refine Go.fin X319 (v := some (.int (1 : Int32))) (fun h_ => by rw [Bd.returns] at h_; cases h_) Bd.notSynchronized (fun _ hr => retN X319 hx (t := .boolean) Bd.returns (by simp) (hb hby at_448) hr) (fun U' hU hF => ⟨_, _, rfl, ?_, hF.1, hF.2.1, hF.2.2.mono (by decide) (by decide)⟩)
        exact ⟨(congrArg (fun z_ : Int32 => some (Value.int z_)) (show (1 : Int32) = (1 : Int32) from rfl)), N319⟩
      · subst hk_P1
        refine Gk.aload X257 hx (hb hby at_238) rfl rfl ?_
        refine Gk.iload X257 hx (hb hby at_240) rfl ?_
        have H330 := (((H219.keep K217).wr W247).keep K257)
        have H331 := (((((H169.keep K167).wr W207).keep K217).wr W247).keep K257)
        have H332 := (H252.keep K257)
        refine Gk.callV (argsL := [(.int (2 : Int32))]) X257 hx hZ hown (rm14_210 l Z a0 hw [] b31 x_parents kx_parents (upd (upd (upd (upd (fun _ => (.int (0 : Int32))) 0 (.int (-1 : Int32))) 1 (.int (0 : Int32))) 2 (.int (1 : Int32))) 3 (.int P3)) x_events kx_events (upd (upd (upd (upd (fun _ => .null) 0 .null) 1 (.ref b8)) 2 (.ref b15)) 3 (.ref b23)) b15 b8 T257.heap n0 (Nat.le_trans Z0 (Nat.le_trans gr251 K257.1)) Va257_parents Va257_events Fa257_parents Fa257_events rfl rfl rfl rfl rfl H330 H331) (hw _ (List.mem_of_getElem? (i := 116) rfl)) (hw _ (List.mem_of_getElem? (i := 117) rfl)) (notFace_of_selects (args := #[]) (mvT hZ (hw _ (List.mem_of_getElem? (i := 119) rfl)))) (hw _ (List.mem_of_getElem? (i := 119) rfl)) (hw _ (List.mem_of_getElem? (i := 118) rfl)) (by decide) (hw _ (List.mem_of_getElem? (i := 120) rfl)) (hw _ (List.mem_of_getElem? (i := 24) rfl)) rfl H332 pd_10 rfl rfl (by decide) (Nat.le_of_ble_eq_true rfl) (by decide) (by decide) (by rw [hml]; rfl)  rfl (hb hby at_242) ?_
        intro T329 L329 v329 X329 hQ329
        obtain ⟨rfl, N329q, K329, k329, A329⟩ := hQ329
        have N329 := Fr.app N257 N329q
        obtain ⟨b329, g329⟩ : ∃ z_, z_ = T257.heap.size := ⟨_, rfl⟩
        rw [← g329] at A329 ⊢
        have g_b329 : n0 ≤ b329 := Nat.le_trans (Nat.le_trans Z0 (Nat.le_trans gr251 K257.1)) (Nat.le_of_eq g329.symm)
        have lt_b329 := A329.lt
        show Go p e below (T329.setTop (mkF m 245 #[.val (.int p1), .val (.int p2), .val (.int p3), .val (.int p4), .val (.ref b1), .val (.int (2 : Int32)), .val (.ref b6), .val (.ref b31), .val (.ref b55), .unset, .unset, .unset, .unset, .unset, .unset, .unset] [(.ref b329)])) _
        refine Gk.astore X329 hx (hb hby at_245) rfl #[.val (.int p1), .val (.int p2), .val (.int p3), .val (.int p4), .val (.ref b1), .val (.int (2 : Int32)), .val (.ref b6), .val (.ref b31), .val (.ref b55), .val (.ref b329), .unset, .unset, .unset, .unset, .unset, .unset] rfl ?_
        refine Gk.iconst X329 hx (hb hby at_247) (0 : Int32) rfl ?_
        refine Gk.istore X329 hx (hb hby at_248) #[.val (.int p1), .val (.int p2), .val (.int p3), .val (.int p4), .val (.ref b1), .val (.int (2 : Int32)), .val (.ref b6), .val (.ref b31), .val (.ref b55), .val (.ref b329), .val (.int (0 : Int32)), .unset, .unset, .unset, .unset, .unset] rfl ?_
        refine Gk.aconstNull X329 hx (hb hby at_250) ?_
        refine Gk.astore X329 hx (hb hby at_251) rfl #[.val (.int p1), .val (.int p2), .val (.int p3), .val (.int p4), .val (.ref b1), .val (.int (2 : Int32)), .val (.ref b6), .val (.ref b31), .val (.ref b55), .val (.ref b329), .val (.int (0 : Int32)), .val .null, .unset, .unset, .unset, .unset] rfl ?_
        refine Gk.aconstNull X329 hx (hb hby at_253) ?_
        refine Gk.astore X329 hx (hb hby at_254) rfl #[.val (.int p1), .val (.int p2), .val (.int p3), .val (.int p4), .val (.ref b1), .val (.int (2 : Int32)), .val (.ref b6), .val (.ref b31), .val (.ref b55), .val (.ref b329), .val (.int (0 : Int32)), .val .null, .val .null, .unset, .unset, .unset] rfl ?_
        refine Gk.aconstNull X329 hx (hb hby at_256) ?_
        refine Gk.astore X329 hx (hb hby at_257) rfl #[.val (.int p1), .val (.int p2), .val (.int p3), .val (.int p4), .val (.ref b1), .val (.int (2 : Int32)), .val (.ref b6), .val (.ref b31), .val (.ref b55), .val (.ref b329), .val (.int (0 : Int32)), .val .null, .val .null, .val .null, .unset, .unset] rfl ?_
        refine Gk.iload X329 hx (hb hby at_259) rfl ?_
        refine Gk.istore X329 hx (hb hby at_261) #[.val (.int p1), .val (.int p2), .val (.int p3), .val (.int p4), .val (.ref b1), .val (.int (2 : Int32)), .val (.ref b6), .val (.ref b31), .val (.ref b55), .val (.ref b329), .val (.int (0 : Int32)), .val .null, .val .null, .val .null, .val (.int (2 : Int32)), .unset] rfl ?_
        refine Gk.aload X329 hx (hb hby at_263) rfl rfl ?_
        refine Gk.iload X329 hx (hb hby at_265) rfl ?_
        have H334 := ((H254.keep K257 ni150).keep K329 nin0)
        refine Gk.iaload X329 hx hZ rfl H334 ⟨by decide, by decide⟩ (.int (1 : Int32)) rfl (hb hby at_267) ?_
        refine Gk.ifNo X329 hx (hb hby at_268) (flt (by decide : ¬ ((1 : Int32) < (0 : Int32)))).1 ?_
        refine Gk.aload X329 hx (hb hby at_271) rfl rfl ?_
        refine Gk.iload X329 hx (hb hby at_273) rfl ?_
        have H336 := ((H256.keep K257 ni165).keep K329 nin0)
        refine Gk.aaload X329 hx hZ rfl H336 rfl ⟨by decide, by decide⟩ (.ref b15) rfl (hb hby at_275) ?_
        refine Gk.astore X329 hx (hb hby at_276) rfl #[.val (.int p1), .val (.int p2), .val (.int p3), .val (.int p4), .val (.ref b1), .val (.int (2 : Int32)), .val (.ref b6), .val (.ref b31), .val (.ref b55), .val (.ref b329), .val (.int (0 : Int32)), .val (.ref b15), .val .null, .val .null, .val (.int (2 : Int32)), .unset] rfl ?_
        refine Gk.iconst X329 hx (hb hby at_278) (1 : Int32) rfl ?_
        refine Gk.istore X329 hx (hb hby at_279) #[.val (.int p1), .val (.int p2), .val (.int p3), .val (.int p4), .val (.ref b1), .val (.int (2 : Int32)), .val (.ref b6), .val (.ref b31), .val (.ref b55), .val (.ref b329), .val (.int (1 : Int32)), .val (.ref b15), .val .null, .val .null, .val (.int (2 : Int32)), .unset] rfl ?_
        refine Gk.aload X329 hx (hb hby at_281) rfl rfl ?_
        refine Gk.iload X329 hx (hb hby at_283) rfl ?_
        refine Gk.iaload X329 hx hZ rfl H334 ⟨by decide, by decide⟩ (.int (1 : Int32)) rfl (hb hby at_285) ?_
        refine Gk.istore X329 hx (hb hby at_286) #[.val (.int p1), .val (.int p2), .val (.int p3), .val (.int p4), .val (.ref b1), .val (.int (2 : Int32)), .val (.ref b6), .val (.ref b31), .val (.ref b55), .val (.ref b329), .val (.int (1 : Int32)), .val (.ref b15), .val .null, .val .null, .val (.int (1 : Int32)), .unset] rfl ?_
        refine Gk.aload X329 hx (hb hby at_288) rfl rfl ?_
        refine Gk.iload X329 hx (hb hby at_290) rfl ?_
        refine Gk.iaload X329 hx hZ rfl H334 ⟨by decide, by decide⟩ (.int (0 : Int32)) rfl (hb hby at_292) ?_
        refine Gk.ifNo X329 hx (hb hby at_293) (flt (by decide : ¬ ((0 : Int32) < (0 : Int32)))).1 ?_
        refine Gk.aload X329 hx (hb hby at_296) rfl rfl ?_
        refine Gk.iload X329 hx (hb hby at_298) rfl ?_
        refine Gk.aaload X329 hx hZ rfl H336 rfl ⟨by decide, by decide⟩ (.ref b8) rfl (hb hby at_300) ?_
        refine Gk.astore X329 hx (hb hby at_301) rfl #[.val (.int p1), .val (.int p2), .val (.int p3), .val (.int p4), .val (.ref b1), .val (.int (2 : Int32)), .val (.ref b6), .val (.ref b31), .val (.ref b55), .val (.ref b329), .val (.int (1 : Int32)), .val (.ref b15), .val (.ref b8), .val .null, .val (.int (1 : Int32)), .unset] rfl ?_
        refine Gk.iconst X329 hx (hb hby at_303) (2 : Int32) rfl ?_
        refine Gk.istore X329 hx (hb hby at_304) #[.val (.int p1), .val (.int p2), .val (.int p3), .val (.int p4), .val (.ref b1), .val (.int (2 : Int32)), .val (.ref b6), .val (.ref b31), .val (.ref b55), .val (.ref b329), .val (.int (2 : Int32)), .val (.ref b15), .val (.ref b8), .val .null, .val (.int (1 : Int32)), .unset] rfl ?_
        refine Gk.aload X329 hx (hb hby at_306) rfl rfl ?_
        refine Gk.iload X329 hx (hb hby at_308) rfl ?_
        refine Gk.iaload X329 hx hZ rfl H334 ⟨by decide, by decide⟩ (.int (0 : Int32)) rfl (hb hby at_310) ?_
        refine Gk.istore X329 hx (hb hby at_311) #[.val (.int p1), .val (.int p2), .val (.int p3), .val (.int p4), .val (.ref b1), .val (.int (2 : Int32)), .val (.ref b6), .val (.ref b31), .val (.ref b55), .val (.ref b329), .val (.int (2 : Int32)), .val (.ref b15), .val (.ref b8), .val .null, .val (.int (0 : Int32)), .unset] rfl ?_
        refine Gk.aload X329 hx (hb hby at_313) rfl rfl ?_
        refine Gk.iload X329 hx (hb hby at_315) rfl ?_
        refine Gk.iaload X329 hx hZ rfl H334 ⟨by decide, by decide⟩ (.int (-1 : Int32)) rfl (hb hby at_317) ?_
        refine Gk.ifYes X329 hx (hb hby at_318) (tlt (by decide : (-1 : Int32) < (0 : Int32))).1 338 (by decide) (by decide) ?_
        refine Gk.aload X329 hx (hb hby at_338) rfl rfl ?_
        refine Gk.ifnullNo X329 hx (hb hby at_340) ?_
        refine Gk.aload X329 hx (hb hby at_343) rfl rfl ?_
        refine Gk.alen X329 hx hZ rfl A329 (hb hby at_345) ?_
        refine Gk.iload X329 hx (hb hby at_346) rfl ?_
        refine Gk.icmpYes X329 hx (hb hby at_348) (teq (by decide : (2 : Int32) = (2 : Int32))).1 353 (by decide) (by decide) ?_
        refine Gk.iconst X329 hx (hb hby at_353) (1 : Int32) rfl ?_
        refine Gk.istore X329 hx (hb hby at_354) #[.val (.int p1), .val (.int p2), .val (.int p3), .val (.int p4), .val (.ref b1), .val (.int (2 : Int32)), .val (.ref b6), .val (.ref b31), .val (.ref b55), .val (.ref b329), .val (.int (2 : Int32)), .val (.ref b15), .val (.ref b8), .val .null, .val (.int (0 : Int32)), .val (.int (1 : Int32))] rfl ?_
        refine Gk.iload X329 hx (hb hby at_356) rfl ?_
        refine Gk.iconst X329 hx (hb hby at_358) (1 : Int32) rfl ?_
        refine Gk.icmpNo X329 hx (hb hby at_359) (flt (by decide : ¬ ((2 : Int32) < (1 : Int32)))).1 ?_
        refine Gk.iload X329 hx (hb hby at_362) rfl ?_
        refine Gk.ifNo X329 hx (hb hby at_364) (feq (by decide : ¬ ((1 : Int32) = (0 : Int32)))).1 ?_
        refine Gk.aload X329 hx (hb hby at_367) rfl rfl ?_
        refine Gk.iload X329 hx (hb hby at_369) rfl ?_
        refine Gk.iconst X329 hx (hb hby at_371) (1 : Int32) rfl ?_
        refine Gk.isub X329 hx (hb hby at_372) (1 : Int32) (by decide) ?_
        refine Gk.aaload X329 hx hZ rfl A329 rfl ⟨by decide, by decide⟩ (.ref b15) rfl (hb hby at_373) ?_
        refine Gk.aload X329 hx (hb hby at_374) rfl rfl ?_
        refine Gk.acmp X329 hx (hb hby at_376) rfl rfl true (decide_eq_true rfl) 379 (by decide) (by decide) ?_
        refine Gk.iconst X329 hx (hb hby at_379) (1 : Int32) rfl ?_
        refine Gk.goto X329 hx (hb hby at_380) 384 (by decide) (by decide) ?_
        refine Gk.istore X329 hx (hb hby at_384) #[.val (.int p1), .val (.int p2), .val (.int p3), .val (.int p4), .val (.ref b1), .val (.int (2 : Int32)), .val (.ref b6), .val (.ref b31), .val (.ref b55), .val (.ref b329), .val (.int (2 : Int32)), .val (.ref b15), .val (.ref b8), .val .null, .val (.int (0 : Int32)), .val (.int (1 : Int32))] rfl ?_
        refine Gk.iload X329 hx (hb hby at_386) rfl ?_
        refine Gk.iconst X329 hx (hb hby at_388) (2 : Int32) rfl ?_
        refine Gk.icmpNo X329 hx (hb hby at_389) (flt (by decide : ¬ ((2 : Int32) < (2 : Int32)))).1 ?_
        refine Gk.iload X329 hx (hb hby at_392) rfl ?_
        refine Gk.ifNo X329 hx (hb hby at_394) (feq (by decide : ¬ ((1 : Int32) = (0 : Int32)))).1 ?_
        refine Gk.aload X329 hx (hb hby at_397) rfl rfl ?_
        refine Gk.iload X329 hx (hb hby at_399) rfl ?_
        refine Gk.iconst X329 hx (hb hby at_401) (2 : Int32) rfl ?_
        refine Gk.isub X329 hx (hb hby at_402) (0 : Int32) (by decide) ?_
        refine Gk.aaload X329 hx hZ rfl A329 rfl ⟨by decide, by decide⟩ (.ref b8) rfl (hb hby at_403) ?_
        refine Gk.aload X329 hx (hb hby at_404) rfl rfl ?_
        refine Gk.acmp X329 hx (hb hby at_406) rfl rfl true (decide_eq_true rfl) 409 (by decide) (by decide) ?_
        refine Gk.iconst X329 hx (hb hby at_409) (1 : Int32) rfl ?_
        refine Gk.goto X329 hx (hb hby at_410) 414 (by decide) (by decide) ?_
        refine Gk.istore X329 hx (hb hby at_414) #[.val (.int p1), .val (.int p2), .val (.int p3), .val (.int p4), .val (.ref b1), .val (.int (2 : Int32)), .val (.ref b6), .val (.ref b31), .val (.ref b55), .val (.ref b329), .val (.int (2 : Int32)), .val (.ref b15), .val (.ref b8), .val .null, .val (.int (0 : Int32)), .val (.int (1 : Int32))] rfl ?_
        refine Gk.iload X329 hx (hb hby at_416) rfl ?_
        refine Gk.iconst X329 hx (hb hby at_418) (3 : Int32) rfl ?_
        refine Gk.icmpYes X329 hx (hb hby at_419) (tlt (by decide : (2 : Int32) < (3 : Int32))).1 446 (by decide) (by decide) ?_
        refine Gk.iload X329 hx (hb hby at_446) rfl ?_
        refine Go.fin X329 (v := some (.int (1 : Int32))) (fun h_ => by rw [Bd.returns] at h_; cases h_) Bd.notSynchronized (fun _ hr => retN X329 hx (t := .boolean) Bd.returns (by simp) (hb hby at_448) hr) (fun U' hU hF => ⟨_, _, rfl, ?_, hF.1, hF.2.1, hF.2.2.mono (by decide) (by decide)⟩)
        exact ⟨(congrArg (fun z_ : Int32 => some (Value.int z_)) (show (1 : Int32) = (1 : Int32) from rfl)), N329⟩
  · subst hk_kk
    rcases own_P3 eP3 with hk_P3 | hk_P3 | hk_P3 | hk_P3
    · subst hk_P3
      refine Gk.aload X257 hx (hb hby at_238) rfl rfl ?_
      refine Gk.iload X257 hx (hb hby at_240) rfl ?_
      have H345 := (H252.keep K257)
      refine Gk.callV (argsL := [(.int (3 : Int32))]) X257 hx hZ hown (rm14_3 l Z a0 hw [] b31 x_parents kx_parents (upd (upd (upd (upd (fun _ => (.int (0 : Int32))) 0 (.int (-1 : Int32))) 1 (.int P1)) 2 (.int P2)) 3 (.int (-1 : Int32))) x_events kx_events (upd (upd (upd (upd (fun _ => .null) 0 .null) 1 (.ref b8)) 2 (.ref b15)) 3 (.ref b23)) T257.heap n0 (Nat.le_trans Z0 (Nat.le_trans gr251 K257.1)) Va257_parents Va257_events Fa257_parents Fa257_events rfl) (hw _ (List.mem_of_getElem? (i := 116) rfl)) (hw _ (List.mem_of_getElem? (i := 117) rfl)) (notFace_of_selects (args := #[]) (mvT hZ (hw _ (List.mem_of_getElem? (i := 119) rfl)))) (hw _ (List.mem_of_getElem? (i := 119) rfl)) (hw _ (List.mem_of_getElem? (i := 118) rfl)) (by decide) (hw _ (List.mem_of_getElem? (i := 120) rfl)) (hw _ (List.mem_of_getElem? (i := 24) rfl)) rfl H345 pd_10 rfl rfl (by decide) (Nat.le_of_ble_eq_true rfl) (by decide) (by decide) (by rw [hml]; rfl)  rfl (hb hby at_242) ?_
      intro T344 L344 v344 X344 hQ344
      obtain ⟨rfl, N344q, K344, k344, A344⟩ := hQ344
      have N344 := Fr.app N257 N344q
      obtain ⟨b344, g344⟩ : ∃ z_, z_ = T257.heap.size := ⟨_, rfl⟩
      rw [← g344] at A344 ⊢
      have g_b344 : n0 ≤ b344 := Nat.le_trans (Nat.le_trans Z0 (Nat.le_trans gr251 K257.1)) (Nat.le_of_eq g344.symm)
      have lt_b344 := A344.lt
      show Go p e below (T344.setTop (mkF m 245 #[.val (.int p1), .val (.int p2), .val (.int p3), .val (.int p4), .val (.ref b1), .val (.int (3 : Int32)), .val (.ref b6), .val (.ref b31), .val (.ref b55), .unset, .unset, .unset, .unset, .unset, .unset, .unset] [(.ref b344)])) _
      refine Gk.astore X344 hx (hb hby at_245) rfl #[.val (.int p1), .val (.int p2), .val (.int p3), .val (.int p4), .val (.ref b1), .val (.int (3 : Int32)), .val (.ref b6), .val (.ref b31), .val (.ref b55), .val (.ref b344), .unset, .unset, .unset, .unset, .unset, .unset] rfl ?_
      refine Gk.iconst X344 hx (hb hby at_247) (0 : Int32) rfl ?_
      refine Gk.istore X344 hx (hb hby at_248) #[.val (.int p1), .val (.int p2), .val (.int p3), .val (.int p4), .val (.ref b1), .val (.int (3 : Int32)), .val (.ref b6), .val (.ref b31), .val (.ref b55), .val (.ref b344), .val (.int (0 : Int32)), .unset, .unset, .unset, .unset, .unset] rfl ?_
      refine Gk.aconstNull X344 hx (hb hby at_250) ?_
      refine Gk.astore X344 hx (hb hby at_251) rfl #[.val (.int p1), .val (.int p2), .val (.int p3), .val (.int p4), .val (.ref b1), .val (.int (3 : Int32)), .val (.ref b6), .val (.ref b31), .val (.ref b55), .val (.ref b344), .val (.int (0 : Int32)), .val .null, .unset, .unset, .unset, .unset] rfl ?_
      refine Gk.aconstNull X344 hx (hb hby at_253) ?_
      refine Gk.astore X344 hx (hb hby at_254) rfl #[.val (.int p1), .val (.int p2), .val (.int p3), .val (.int p4), .val (.ref b1), .val (.int (3 : Int32)), .val (.ref b6), .val (.ref b31), .val (.ref b55), .val (.ref b344), .val (.int (0 : Int32)), .val .null, .val .null, .unset, .unset, .unset] rfl ?_
      refine Gk.aconstNull X344 hx (hb hby at_256) ?_
      refine Gk.astore X344 hx (hb hby at_257) rfl #[.val (.int p1), .val (.int p2), .val (.int p3), .val (.int p4), .val (.ref b1), .val (.int (3 : Int32)), .val (.ref b6), .val (.ref b31), .val (.ref b55), .val (.ref b344), .val (.int (0 : Int32)), .val .null, .val .null, .val .null, .unset, .unset] rfl ?_
      refine Gk.iload X344 hx (hb hby at_259) rfl ?_
      refine Gk.istore X344 hx (hb hby at_261) #[.val (.int p1), .val (.int p2), .val (.int p3), .val (.int p4), .val (.ref b1), .val (.int (3 : Int32)), .val (.ref b6), .val (.ref b31), .val (.ref b55), .val (.ref b344), .val (.int (0 : Int32)), .val .null, .val .null, .val .null, .val (.int (3 : Int32)), .unset] rfl ?_
      refine Gk.aload X344 hx (hb hby at_263) rfl rfl ?_
      refine Gk.iload X344 hx (hb hby at_265) rfl ?_
      have H347 := ((H254.keep K257 ni150).keep K344 nin0)
      refine Gk.iaload X344 hx hZ rfl H347 ⟨by decide, by decide⟩ (.int (-1 : Int32)) rfl (hb hby at_267) ?_
      refine Gk.ifYes X344 hx (hb hby at_268) (tlt (by decide : (-1 : Int32) < (0 : Int32))).1 338 (by decide) (by decide) ?_
      refine Gk.aload X344 hx (hb hby at_338) rfl rfl ?_
      refine Gk.ifnullNo X344 hx (hb hby at_340) ?_
      refine Gk.aload X344 hx (hb hby at_343) rfl rfl ?_
      refine Gk.alen X344 hx hZ rfl A344 (hb hby at_345) ?_
      refine Gk.iload X344 hx (hb hby at_346) rfl ?_
      refine Gk.icmpYes X344 hx (hb hby at_348) (teq (by decide : (0 : Int32) = (0 : Int32))).1 353 (by decide) (by decide) ?_
      refine Gk.iconst X344 hx (hb hby at_353) (1 : Int32) rfl ?_
      refine Gk.istore X344 hx (hb hby at_354) #[.val (.int p1), .val (.int p2), .val (.int p3), .val (.int p4), .val (.ref b1), .val (.int (3 : Int32)), .val (.ref b6), .val (.ref b31), .val (.ref b55), .val (.ref b344), .val (.int (0 : Int32)), .val .null, .val .null, .val .null, .val (.int (3 : Int32)), .val (.int (1 : Int32))] rfl ?_
      refine Gk.iload X344 hx (hb hby at_356) rfl ?_
      refine Gk.iconst X344 hx (hb hby at_358) (1 : Int32) rfl ?_
      refine Gk.icmpYes X344 hx (hb hby at_359) (tlt (by decide : (0 : Int32) < (1 : Int32))).1 386 (by decide) (by decide) ?_
      refine Gk.iload X344 hx (hb hby at_386) rfl ?_
      refine Gk.iconst X344 hx (hb hby at_388) (2 : Int32) rfl ?_
      refine Gk.icmpYes X344 hx (hb hby at_389) (tlt (by decide : (0 : Int32) < (2 : Int32))).1 416 (by decide) (by decide) ?_
      refine Gk.iload X344 hx (hb hby at_416) rfl ?_
      refine Gk.iconst X344 hx (hb hby at_418) (3 : Int32) rfl ?_
      refine Gk.icmpYes X344 hx (hb hby at_419) (tlt (by decide : (0 : Int32) < (3 : Int32))).1 446 (by decide) (by decide) ?_
      refine Gk.iload X344 hx (hb hby at_446) rfl ?_
      refine Go.fin X344 (v := some (.int (1 : Int32))) (fun h_ => by rw [Bd.returns] at h_; cases h_) Bd.notSynchronized (fun _ hr => retN X344 hx (t := .boolean) Bd.returns (by simp) (hb hby at_448) hr) (fun U' hU hF => ⟨_, _, rfl, ?_, hF.1, hF.2.1, hF.2.2.mono (by decide) (by decide)⟩)
      exact ⟨(congrArg (fun z_ : Int32 => some (Value.int z_)) (show (1 : Int32) = (1 : Int32) from rfl)), N344⟩
    · subst hk_P3
      refine Gk.aload X257 hx (hb hby at_238) rfl rfl ?_
      refine Gk.iload X257 hx (hb hby at_240) rfl ?_
      have H349 := (H259.keep K257)
      have H350 := (H252.keep K257)
      refine Gk.callV (argsL := [(.int (3 : Int32))]) X257 hx hZ hown (rm14_30 l Z a0 hw [] b31 x_parents kx_parents (upd (upd (upd (upd (fun _ => (.int (0 : Int32))) 0 (.int (-1 : Int32))) 1 (.int P1)) 2 (.int P2)) 3 (.int (0 : Int32))) x_events kx_events (upd (upd (upd (upd (fun _ => .null) 0 .null) 1 (.ref b8)) 2 (.ref b15)) 3 (.ref b23)) b23 T257.heap n0 (Nat.le_trans Z0 (Nat.le_trans gr251 K257.1)) Va257_parents Va257_events Fa257_parents Fa257_events rfl rfl rfl H349) (hw _ (List.mem_of_getElem? (i := 116) rfl)) (hw _ (List.mem_of_getElem? (i := 117) rfl)) (notFace_of_selects (args := #[]) (mvT hZ (hw _ (List.mem_of_getElem? (i := 119) rfl)))) (hw _ (List.mem_of_getElem? (i := 119) rfl)) (hw _ (List.mem_of_getElem? (i := 118) rfl)) (by decide) (hw _ (List.mem_of_getElem? (i := 120) rfl)) (hw _ (List.mem_of_getElem? (i := 24) rfl)) rfl H350 pd_10 rfl rfl (by decide) (Nat.le_of_ble_eq_true rfl) (by decide) (by decide) (by rw [hml]; rfl)  rfl (hb hby at_242) ?_
      intro T348 L348 v348 X348 hQ348
      obtain ⟨rfl, N348q, K348, k348, A348⟩ := hQ348
      have N348 := Fr.app N257 N348q
      obtain ⟨b348, g348⟩ : ∃ z_, z_ = T257.heap.size := ⟨_, rfl⟩
      rw [← g348] at A348 ⊢
      have g_b348 : n0 ≤ b348 := Nat.le_trans (Nat.le_trans Z0 (Nat.le_trans gr251 K257.1)) (Nat.le_of_eq g348.symm)
      have lt_b348 := A348.lt
      show Go p e below (T348.setTop (mkF m 245 #[.val (.int p1), .val (.int p2), .val (.int p3), .val (.int p4), .val (.ref b1), .val (.int (3 : Int32)), .val (.ref b6), .val (.ref b31), .val (.ref b55), .unset, .unset, .unset, .unset, .unset, .unset, .unset] [(.ref b348)])) _
      refine Gk.astore X348 hx (hb hby at_245) rfl #[.val (.int p1), .val (.int p2), .val (.int p3), .val (.int p4), .val (.ref b1), .val (.int (3 : Int32)), .val (.ref b6), .val (.ref b31), .val (.ref b55), .val (.ref b348), .unset, .unset, .unset, .unset, .unset, .unset] rfl ?_
      refine Gk.iconst X348 hx (hb hby at_247) (0 : Int32) rfl ?_
      refine Gk.istore X348 hx (hb hby at_248) #[.val (.int p1), .val (.int p2), .val (.int p3), .val (.int p4), .val (.ref b1), .val (.int (3 : Int32)), .val (.ref b6), .val (.ref b31), .val (.ref b55), .val (.ref b348), .val (.int (0 : Int32)), .unset, .unset, .unset, .unset, .unset] rfl ?_
      refine Gk.aconstNull X348 hx (hb hby at_250) ?_
      refine Gk.astore X348 hx (hb hby at_251) rfl #[.val (.int p1), .val (.int p2), .val (.int p3), .val (.int p4), .val (.ref b1), .val (.int (3 : Int32)), .val (.ref b6), .val (.ref b31), .val (.ref b55), .val (.ref b348), .val (.int (0 : Int32)), .val .null, .unset, .unset, .unset, .unset] rfl ?_
      refine Gk.aconstNull X348 hx (hb hby at_253) ?_
      refine Gk.astore X348 hx (hb hby at_254) rfl #[.val (.int p1), .val (.int p2), .val (.int p3), .val (.int p4), .val (.ref b1), .val (.int (3 : Int32)), .val (.ref b6), .val (.ref b31), .val (.ref b55), .val (.ref b348), .val (.int (0 : Int32)), .val .null, .val .null, .unset, .unset, .unset] rfl ?_
      refine Gk.aconstNull X348 hx (hb hby at_256) ?_
      refine Gk.astore X348 hx (hb hby at_257) rfl #[.val (.int p1), .val (.int p2), .val (.int p3), .val (.int p4), .val (.ref b1), .val (.int (3 : Int32)), .val (.ref b6), .val (.ref b31), .val (.ref b55), .val (.ref b348), .val (.int (0 : Int32)), .val .null, .val .null, .val .null, .unset, .unset] rfl ?_
      refine Gk.iload X348 hx (hb hby at_259) rfl ?_
      refine Gk.istore X348 hx (hb hby at_261) #[.val (.int p1), .val (.int p2), .val (.int p3), .val (.int p4), .val (.ref b1), .val (.int (3 : Int32)), .val (.ref b6), .val (.ref b31), .val (.ref b55), .val (.ref b348), .val (.int (0 : Int32)), .val .null, .val .null, .val .null, .val (.int (3 : Int32)), .unset] rfl ?_
      refine Gk.aload X348 hx (hb hby at_263) rfl rfl ?_
      refine Gk.iload X348 hx (hb hby at_265) rfl ?_
      have H352 := ((H254.keep K257 ni150).keep K348 nin0)
      refine Gk.iaload X348 hx hZ rfl H352 ⟨by decide, by decide⟩ (.int (0 : Int32)) rfl (hb hby at_267) ?_
      refine Gk.ifNo X348 hx (hb hby at_268) (flt (by decide : ¬ ((0 : Int32) < (0 : Int32)))).1 ?_
      refine Gk.aload X348 hx (hb hby at_271) rfl rfl ?_
      refine Gk.iload X348 hx (hb hby at_273) rfl ?_
      have H354 := ((H256.keep K257 ni165).keep K348 nin0)
      refine Gk.aaload X348 hx hZ rfl H354 rfl ⟨by decide, by decide⟩ (.ref b23) rfl (hb hby at_275) ?_
      refine Gk.astore X348 hx (hb hby at_276) rfl #[.val (.int p1), .val (.int p2), .val (.int p3), .val (.int p4), .val (.ref b1), .val (.int (3 : Int32)), .val (.ref b6), .val (.ref b31), .val (.ref b55), .val (.ref b348), .val (.int (0 : Int32)), .val (.ref b23), .val .null, .val .null, .val (.int (3 : Int32)), .unset] rfl ?_
      refine Gk.iconst X348 hx (hb hby at_278) (1 : Int32) rfl ?_
      refine Gk.istore X348 hx (hb hby at_279) #[.val (.int p1), .val (.int p2), .val (.int p3), .val (.int p4), .val (.ref b1), .val (.int (3 : Int32)), .val (.ref b6), .val (.ref b31), .val (.ref b55), .val (.ref b348), .val (.int (1 : Int32)), .val (.ref b23), .val .null, .val .null, .val (.int (3 : Int32)), .unset] rfl ?_
      refine Gk.aload X348 hx (hb hby at_281) rfl rfl ?_
      refine Gk.iload X348 hx (hb hby at_283) rfl ?_
      refine Gk.iaload X348 hx hZ rfl H352 ⟨by decide, by decide⟩ (.int (0 : Int32)) rfl (hb hby at_285) ?_
      refine Gk.istore X348 hx (hb hby at_286) #[.val (.int p1), .val (.int p2), .val (.int p3), .val (.int p4), .val (.ref b1), .val (.int (3 : Int32)), .val (.ref b6), .val (.ref b31), .val (.ref b55), .val (.ref b348), .val (.int (1 : Int32)), .val (.ref b23), .val .null, .val .null, .val (.int (0 : Int32)), .unset] rfl ?_
      refine Gk.aload X348 hx (hb hby at_288) rfl rfl ?_
      refine Gk.iload X348 hx (hb hby at_290) rfl ?_
      refine Gk.iaload X348 hx hZ rfl H352 ⟨by decide, by decide⟩ (.int (-1 : Int32)) rfl (hb hby at_292) ?_
      refine Gk.ifYes X348 hx (hb hby at_293) (tlt (by decide : (-1 : Int32) < (0 : Int32))).1 338 (by decide) (by decide) ?_
      refine Gk.aload X348 hx (hb hby at_338) rfl rfl ?_
      refine Gk.ifnullNo X348 hx (hb hby at_340) ?_
      refine Gk.aload X348 hx (hb hby at_343) rfl rfl ?_
      refine Gk.alen X348 hx hZ rfl A348 (hb hby at_345) ?_
      refine Gk.iload X348 hx (hb hby at_346) rfl ?_
      refine Gk.icmpYes X348 hx (hb hby at_348) (teq (by decide : (1 : Int32) = (1 : Int32))).1 353 (by decide) (by decide) ?_
      refine Gk.iconst X348 hx (hb hby at_353) (1 : Int32) rfl ?_
      refine Gk.istore X348 hx (hb hby at_354) #[.val (.int p1), .val (.int p2), .val (.int p3), .val (.int p4), .val (.ref b1), .val (.int (3 : Int32)), .val (.ref b6), .val (.ref b31), .val (.ref b55), .val (.ref b348), .val (.int (1 : Int32)), .val (.ref b23), .val .null, .val .null, .val (.int (0 : Int32)), .val (.int (1 : Int32))] rfl ?_
      refine Gk.iload X348 hx (hb hby at_356) rfl ?_
      refine Gk.iconst X348 hx (hb hby at_358) (1 : Int32) rfl ?_
      refine Gk.icmpNo X348 hx (hb hby at_359) (flt (by decide : ¬ ((1 : Int32) < (1 : Int32)))).1 ?_
      refine Gk.iload X348 hx (hb hby at_362) rfl ?_
      refine Gk.ifNo X348 hx (hb hby at_364) (feq (by decide : ¬ ((1 : Int32) = (0 : Int32)))).1 ?_
      refine Gk.aload X348 hx (hb hby at_367) rfl rfl ?_
      refine Gk.iload X348 hx (hb hby at_369) rfl ?_
      refine Gk.iconst X348 hx (hb hby at_371) (1 : Int32) rfl ?_
      refine Gk.isub X348 hx (hb hby at_372) (0 : Int32) (by decide) ?_
      refine Gk.aaload X348 hx hZ rfl A348 rfl ⟨by decide, by decide⟩ (.ref b23) rfl (hb hby at_373) ?_
      refine Gk.aload X348 hx (hb hby at_374) rfl rfl ?_
      refine Gk.acmp X348 hx (hb hby at_376) rfl rfl true (decide_eq_true rfl) 379 (by decide) (by decide) ?_
      refine Gk.iconst X348 hx (hb hby at_379) (1 : Int32) rfl ?_
      refine Gk.goto X348 hx (hb hby at_380) 384 (by decide) (by decide) ?_
      refine Gk.istore X348 hx (hb hby at_384) #[.val (.int p1), .val (.int p2), .val (.int p3), .val (.int p4), .val (.ref b1), .val (.int (3 : Int32)), .val (.ref b6), .val (.ref b31), .val (.ref b55), .val (.ref b348), .val (.int (1 : Int32)), .val (.ref b23), .val .null, .val .null, .val (.int (0 : Int32)), .val (.int (1 : Int32))] rfl ?_
      refine Gk.iload X348 hx (hb hby at_386) rfl ?_
      refine Gk.iconst X348 hx (hb hby at_388) (2 : Int32) rfl ?_
      refine Gk.icmpYes X348 hx (hb hby at_389) (tlt (by decide : (1 : Int32) < (2 : Int32))).1 416 (by decide) (by decide) ?_
      refine Gk.iload X348 hx (hb hby at_416) rfl ?_
      refine Gk.iconst X348 hx (hb hby at_418) (3 : Int32) rfl ?_
      refine Gk.icmpYes X348 hx (hb hby at_419) (tlt (by decide : (1 : Int32) < (3 : Int32))).1 446 (by decide) (by decide) ?_
      refine Gk.iload X348 hx (hb hby at_446) rfl ?_
      refine Go.fin X348 (v := some (.int (1 : Int32))) (fun h_ => by rw [Bd.returns] at h_; cases h_) Bd.notSynchronized (fun _ hr => retN X348 hx (t := .boolean) Bd.returns (by simp) (hb hby at_448) hr) (fun U' hU hF => ⟨_, _, rfl, ?_, hF.1, hF.2.1, hF.2.2.mono (by decide) (by decide)⟩)
      exact ⟨(congrArg (fun z_ : Int32 => some (Value.int z_)) (show (1 : Int32) = (1 : Int32) from rfl)), N348⟩
    · subst hk_P3
      rcases own_P1 eP1 with hk_P1 | hk_P1
      · subst hk_P1
        refine Gk.aload X257 hx (hb hby at_238) rfl rfl ?_
        refine Gk.iload X257 hx (hb hby at_240) rfl ?_
        have H359 := (H259.keep K257)
        have H360 := (H252.keep K257)
        refine Gk.callV (argsL := [(.int (3 : Int32))]) X257 hx hZ hown (rm14_31 l Z a0 hw [] b31 x_parents kx_parents (upd (upd (upd (upd (fun _ => (.int (0 : Int32))) 0 (.int (-1 : Int32))) 1 (.int (-1 : Int32))) 2 (.int P2)) 3 (.int (1 : Int32))) x_events kx_events (upd (upd (upd (upd (fun _ => .null) 0 .null) 1 (.ref b8)) 2 (.ref b15)) 3 (.ref b23)) b23 T257.heap n0 (Nat.le_trans Z0 (Nat.le_trans gr251 K257.1)) Va257_parents Va257_events Fa257_parents Fa257_events rfl rfl rfl H359) (hw _ (List.mem_of_getElem? (i := 116) rfl)) (hw _ (List.mem_of_getElem? (i := 117) rfl)) (notFace_of_selects (args := #[]) (mvT hZ (hw _ (List.mem_of_getElem? (i := 119) rfl)))) (hw _ (List.mem_of_getElem? (i := 119) rfl)) (hw _ (List.mem_of_getElem? (i := 118) rfl)) (by decide) (hw _ (List.mem_of_getElem? (i := 120) rfl)) (hw _ (List.mem_of_getElem? (i := 24) rfl)) rfl H360 pd_10 rfl rfl (by decide) (Nat.le_of_ble_eq_true rfl) (by decide) (by decide) (by rw [hml]; rfl)  rfl (hb hby at_242) ?_
        intro T358 L358 v358 X358 hQ358
        obtain ⟨rfl, N358q, K358, k358, A358⟩ := hQ358
        have N358 := Fr.app N257 N358q
        obtain ⟨b358, g358⟩ : ∃ z_, z_ = T257.heap.size := ⟨_, rfl⟩
        rw [← g358] at A358 ⊢
        have g_b358 : n0 ≤ b358 := Nat.le_trans (Nat.le_trans Z0 (Nat.le_trans gr251 K257.1)) (Nat.le_of_eq g358.symm)
        have lt_b358 := A358.lt
        show Go p e below (T358.setTop (mkF m 245 #[.val (.int p1), .val (.int p2), .val (.int p3), .val (.int p4), .val (.ref b1), .val (.int (3 : Int32)), .val (.ref b6), .val (.ref b31), .val (.ref b55), .unset, .unset, .unset, .unset, .unset, .unset, .unset] [(.ref b358)])) _
        refine Gk.astore X358 hx (hb hby at_245) rfl #[.val (.int p1), .val (.int p2), .val (.int p3), .val (.int p4), .val (.ref b1), .val (.int (3 : Int32)), .val (.ref b6), .val (.ref b31), .val (.ref b55), .val (.ref b358), .unset, .unset, .unset, .unset, .unset, .unset] rfl ?_
        refine Gk.iconst X358 hx (hb hby at_247) (0 : Int32) rfl ?_
        refine Gk.istore X358 hx (hb hby at_248) #[.val (.int p1), .val (.int p2), .val (.int p3), .val (.int p4), .val (.ref b1), .val (.int (3 : Int32)), .val (.ref b6), .val (.ref b31), .val (.ref b55), .val (.ref b358), .val (.int (0 : Int32)), .unset, .unset, .unset, .unset, .unset] rfl ?_
        refine Gk.aconstNull X358 hx (hb hby at_250) ?_
        refine Gk.astore X358 hx (hb hby at_251) rfl #[.val (.int p1), .val (.int p2), .val (.int p3), .val (.int p4), .val (.ref b1), .val (.int (3 : Int32)), .val (.ref b6), .val (.ref b31), .val (.ref b55), .val (.ref b358), .val (.int (0 : Int32)), .val .null, .unset, .unset, .unset, .unset] rfl ?_
        refine Gk.aconstNull X358 hx (hb hby at_253) ?_
        refine Gk.astore X358 hx (hb hby at_254) rfl #[.val (.int p1), .val (.int p2), .val (.int p3), .val (.int p4), .val (.ref b1), .val (.int (3 : Int32)), .val (.ref b6), .val (.ref b31), .val (.ref b55), .val (.ref b358), .val (.int (0 : Int32)), .val .null, .val .null, .unset, .unset, .unset] rfl ?_
        refine Gk.aconstNull X358 hx (hb hby at_256) ?_
        refine Gk.astore X358 hx (hb hby at_257) rfl #[.val (.int p1), .val (.int p2), .val (.int p3), .val (.int p4), .val (.ref b1), .val (.int (3 : Int32)), .val (.ref b6), .val (.ref b31), .val (.ref b55), .val (.ref b358), .val (.int (0 : Int32)), .val .null, .val .null, .val .null, .unset, .unset] rfl ?_
        refine Gk.iload X358 hx (hb hby at_259) rfl ?_
        refine Gk.istore X358 hx (hb hby at_261) #[.val (.int p1), .val (.int p2), .val (.int p3), .val (.int p4), .val (.ref b1), .val (.int (3 : Int32)), .val (.ref b6), .val (.ref b31), .val (.ref b55), .val (.ref b358), .val (.int (0 : Int32)), .val .null, .val .null, .val .null, .val (.int (3 : Int32)), .unset] rfl ?_
        refine Gk.aload X358 hx (hb hby at_263) rfl rfl ?_
        refine Gk.iload X358 hx (hb hby at_265) rfl ?_
        have H362 := ((H254.keep K257 ni150).keep K358 nin0)
        refine Gk.iaload X358 hx hZ rfl H362 ⟨by decide, by decide⟩ (.int (1 : Int32)) rfl (hb hby at_267) ?_
        refine Gk.ifNo X358 hx (hb hby at_268) (flt (by decide : ¬ ((1 : Int32) < (0 : Int32)))).1 ?_
        refine Gk.aload X358 hx (hb hby at_271) rfl rfl ?_
        refine Gk.iload X358 hx (hb hby at_273) rfl ?_
        have H364 := ((H256.keep K257 ni165).keep K358 nin0)
        refine Gk.aaload X358 hx hZ rfl H364 rfl ⟨by decide, by decide⟩ (.ref b23) rfl (hb hby at_275) ?_
        refine Gk.astore X358 hx (hb hby at_276) rfl #[.val (.int p1), .val (.int p2), .val (.int p3), .val (.int p4), .val (.ref b1), .val (.int (3 : Int32)), .val (.ref b6), .val (.ref b31), .val (.ref b55), .val (.ref b358), .val (.int (0 : Int32)), .val (.ref b23), .val .null, .val .null, .val (.int (3 : Int32)), .unset] rfl ?_
        refine Gk.iconst X358 hx (hb hby at_278) (1 : Int32) rfl ?_
        refine Gk.istore X358 hx (hb hby at_279) #[.val (.int p1), .val (.int p2), .val (.int p3), .val (.int p4), .val (.ref b1), .val (.int (3 : Int32)), .val (.ref b6), .val (.ref b31), .val (.ref b55), .val (.ref b358), .val (.int (1 : Int32)), .val (.ref b23), .val .null, .val .null, .val (.int (3 : Int32)), .unset] rfl ?_
        refine Gk.aload X358 hx (hb hby at_281) rfl rfl ?_
        refine Gk.iload X358 hx (hb hby at_283) rfl ?_
        refine Gk.iaload X358 hx hZ rfl H362 ⟨by decide, by decide⟩ (.int (1 : Int32)) rfl (hb hby at_285) ?_
        refine Gk.istore X358 hx (hb hby at_286) #[.val (.int p1), .val (.int p2), .val (.int p3), .val (.int p4), .val (.ref b1), .val (.int (3 : Int32)), .val (.ref b6), .val (.ref b31), .val (.ref b55), .val (.ref b358), .val (.int (1 : Int32)), .val (.ref b23), .val .null, .val .null, .val (.int (1 : Int32)), .unset] rfl ?_
        refine Gk.aload X358 hx (hb hby at_288) rfl rfl ?_
        refine Gk.iload X358 hx (hb hby at_290) rfl ?_
        refine Gk.iaload X358 hx hZ rfl H362 ⟨by decide, by decide⟩ (.int (-1 : Int32)) rfl (hb hby at_292) ?_
        refine Gk.ifYes X358 hx (hb hby at_293) (tlt (by decide : (-1 : Int32) < (0 : Int32))).1 338 (by decide) (by decide) ?_
        refine Gk.aload X358 hx (hb hby at_338) rfl rfl ?_
        refine Gk.ifnullNo X358 hx (hb hby at_340) ?_
        refine Gk.aload X358 hx (hb hby at_343) rfl rfl ?_
        refine Gk.alen X358 hx hZ rfl A358 (hb hby at_345) ?_
        refine Gk.iload X358 hx (hb hby at_346) rfl ?_
        refine Gk.icmpYes X358 hx (hb hby at_348) (teq (by decide : (1 : Int32) = (1 : Int32))).1 353 (by decide) (by decide) ?_
        refine Gk.iconst X358 hx (hb hby at_353) (1 : Int32) rfl ?_
        refine Gk.istore X358 hx (hb hby at_354) #[.val (.int p1), .val (.int p2), .val (.int p3), .val (.int p4), .val (.ref b1), .val (.int (3 : Int32)), .val (.ref b6), .val (.ref b31), .val (.ref b55), .val (.ref b358), .val (.int (1 : Int32)), .val (.ref b23), .val .null, .val .null, .val (.int (1 : Int32)), .val (.int (1 : Int32))] rfl ?_
        refine Gk.iload X358 hx (hb hby at_356) rfl ?_
        refine Gk.iconst X358 hx (hb hby at_358) (1 : Int32) rfl ?_
        refine Gk.icmpNo X358 hx (hb hby at_359) (flt (by decide : ¬ ((1 : Int32) < (1 : Int32)))).1 ?_
        refine Gk.iload X358 hx (hb hby at_362) rfl ?_
        refine Gk.ifNo X358 hx (hb hby at_364) (feq (by decide : ¬ ((1 : Int32) = (0 : Int32)))).1 ?_
        refine Gk.aload X358 hx (hb hby at_367) rfl rfl ?_
        refine Gk.iload X358 hx (hb hby at_369) rfl ?_
        refine Gk.iconst X358 hx (hb hby at_371) (1 : Int32) rfl ?_
        refine Gk.isub X358 hx (hb hby at_372) (0 : Int32) (by decide) ?_
        refine Gk.aaload X358 hx hZ rfl A358 rfl ⟨by decide, by decide⟩ (.ref b23) rfl (hb hby at_373) ?_
        refine Gk.aload X358 hx (hb hby at_374) rfl rfl ?_
        refine Gk.acmp X358 hx (hb hby at_376) rfl rfl true (decide_eq_true rfl) 379 (by decide) (by decide) ?_
        refine Gk.iconst X358 hx (hb hby at_379) (1 : Int32) rfl ?_
        refine Gk.goto X358 hx (hb hby at_380) 384 (by decide) (by decide) ?_
        refine Gk.istore X358 hx (hb hby at_384) #[.val (.int p1), .val (.int p2), .val (.int p3), .val (.int p4), .val (.ref b1), .val (.int (3 : Int32)), .val (.ref b6), .val (.ref b31), .val (.ref b55), .val (.ref b358), .val (.int (1 : Int32)), .val (.ref b23), .val .null, .val .null, .val (.int (1 : Int32)), .val (.int (1 : Int32))] rfl ?_
        refine Gk.iload X358 hx (hb hby at_386) rfl ?_
        refine Gk.iconst X358 hx (hb hby at_388) (2 : Int32) rfl ?_
        refine Gk.icmpYes X358 hx (hb hby at_389) (tlt (by decide : (1 : Int32) < (2 : Int32))).1 416 (by decide) (by decide) ?_
        refine Gk.iload X358 hx (hb hby at_416) rfl ?_
        refine Gk.iconst X358 hx (hb hby at_418) (3 : Int32) rfl ?_
        refine Gk.icmpYes X358 hx (hb hby at_419) (tlt (by decide : (1 : Int32) < (3 : Int32))).1 446 (by decide) (by decide) ?_
        refine Gk.iload X358 hx (hb hby at_446) rfl ?_
        refine Go.fin X358 (v := some (.int (1 : Int32))) (fun h_ => by rw [Bd.returns] at h_; cases h_) Bd.notSynchronized (fun _ hr => retN X358 hx (t := .boolean) Bd.returns (by simp) (hb hby at_448) hr) (fun U' hU hF => ⟨_, _, rfl, ?_, hF.1, hF.2.1, hF.2.2.mono (by decide) (by decide)⟩)
        exact ⟨(congrArg (fun z_ : Int32 => some (Value.int z_)) (show (1 : Int32) = (1 : Int32) from rfl)), N358⟩
      · subst hk_P1
        refine Gk.aload X257 hx (hb hby at_238) rfl rfl ?_
        refine Gk.iload X257 hx (hb hby at_240) rfl ?_
        have H369 := (H259.keep K257)
        have H370 := (((((H169.keep K167).wr W207).keep K217).wr W247).keep K257)
        have H371 := (H252.keep K257)
        refine Gk.callV (argsL := [(.int (3 : Int32))]) X257 hx hZ hown (rm14_310 l Z a0 hw [] b31 x_parents kx_parents (upd (upd (upd (upd (fun _ => (.int (0 : Int32))) 0 (.int (-1 : Int32))) 1 (.int (0 : Int32))) 2 (.int P2)) 3 (.int (1 : Int32))) x_events kx_events (upd (upd (upd (upd (fun _ => .null) 0 .null) 1 (.ref b8)) 2 (.ref b15)) 3 (.ref b23)) b23 b8 T257.heap n0 (Nat.le_trans Z0 (Nat.le_trans gr251 K257.1)) Va257_parents Va257_events Fa257_parents Fa257_events rfl rfl rfl rfl rfl H369 H370) (hw _ (List.mem_of_getElem? (i := 116) rfl)) (hw _ (List.mem_of_getElem? (i := 117) rfl)) (notFace_of_selects (args := #[]) (mvT hZ (hw _ (List.mem_of_getElem? (i := 119) rfl)))) (hw _ (List.mem_of_getElem? (i := 119) rfl)) (hw _ (List.mem_of_getElem? (i := 118) rfl)) (by decide) (hw _ (List.mem_of_getElem? (i := 120) rfl)) (hw _ (List.mem_of_getElem? (i := 24) rfl)) rfl H371 pd_10 rfl rfl (by decide) (Nat.le_of_ble_eq_true rfl) (by decide) (by decide) (by rw [hml]; rfl)  rfl (hb hby at_242) ?_
        intro T368 L368 v368 X368 hQ368
        obtain ⟨rfl, N368q, K368, k368, A368⟩ := hQ368
        have N368 := Fr.app N257 N368q
        obtain ⟨b368, g368⟩ : ∃ z_, z_ = T257.heap.size := ⟨_, rfl⟩
        rw [← g368] at A368 ⊢
        have g_b368 : n0 ≤ b368 := Nat.le_trans (Nat.le_trans Z0 (Nat.le_trans gr251 K257.1)) (Nat.le_of_eq g368.symm)
        have lt_b368 := A368.lt
        show Go p e below (T368.setTop (mkF m 245 #[.val (.int p1), .val (.int p2), .val (.int p3), .val (.int p4), .val (.ref b1), .val (.int (3 : Int32)), .val (.ref b6), .val (.ref b31), .val (.ref b55), .unset, .unset, .unset, .unset, .unset, .unset, .unset] [(.ref b368)])) _
        refine Gk.astore X368 hx (hb hby at_245) rfl #[.val (.int p1), .val (.int p2), .val (.int p3), .val (.int p4), .val (.ref b1), .val (.int (3 : Int32)), .val (.ref b6), .val (.ref b31), .val (.ref b55), .val (.ref b368), .unset, .unset, .unset, .unset, .unset, .unset] rfl ?_
        refine Gk.iconst X368 hx (hb hby at_247) (0 : Int32) rfl ?_
        refine Gk.istore X368 hx (hb hby at_248) #[.val (.int p1), .val (.int p2), .val (.int p3), .val (.int p4), .val (.ref b1), .val (.int (3 : Int32)), .val (.ref b6), .val (.ref b31), .val (.ref b55), .val (.ref b368), .val (.int (0 : Int32)), .unset, .unset, .unset, .unset, .unset] rfl ?_
        refine Gk.aconstNull X368 hx (hb hby at_250) ?_
        refine Gk.astore X368 hx (hb hby at_251) rfl #[.val (.int p1), .val (.int p2), .val (.int p3), .val (.int p4), .val (.ref b1), .val (.int (3 : Int32)), .val (.ref b6), .val (.ref b31), .val (.ref b55), .val (.ref b368), .val (.int (0 : Int32)), .val .null, .unset, .unset, .unset, .unset] rfl ?_
        refine Gk.aconstNull X368 hx (hb hby at_253) ?_
        refine Gk.astore X368 hx (hb hby at_254) rfl #[.val (.int p1), .val (.int p2), .val (.int p3), .val (.int p4), .val (.ref b1), .val (.int (3 : Int32)), .val (.ref b6), .val (.ref b31), .val (.ref b55), .val (.ref b368), .val (.int (0 : Int32)), .val .null, .val .null, .unset, .unset, .unset] rfl ?_
        refine Gk.aconstNull X368 hx (hb hby at_256) ?_
        refine Gk.astore X368 hx (hb hby at_257) rfl #[.val (.int p1), .val (.int p2), .val (.int p3), .val (.int p4), .val (.ref b1), .val (.int (3 : Int32)), .val (.ref b6), .val (.ref b31), .val (.ref b55), .val (.ref b368), .val (.int (0 : Int32)), .val .null, .val .null, .val .null, .unset, .unset] rfl ?_
        refine Gk.iload X368 hx (hb hby at_259) rfl ?_
        refine Gk.istore X368 hx (hb hby at_261) #[.val (.int p1), .val (.int p2), .val (.int p3), .val (.int p4), .val (.ref b1), .val (.int (3 : Int32)), .val (.ref b6), .val (.ref b31), .val (.ref b55), .val (.ref b368), .val (.int (0 : Int32)), .val .null, .val .null, .val .null, .val (.int (3 : Int32)), .unset] rfl ?_
        refine Gk.aload X368 hx (hb hby at_263) rfl rfl ?_
        refine Gk.iload X368 hx (hb hby at_265) rfl ?_
        have H373 := ((H254.keep K257 ni150).keep K368 nin0)
        refine Gk.iaload X368 hx hZ rfl H373 ⟨by decide, by decide⟩ (.int (1 : Int32)) rfl (hb hby at_267) ?_
        refine Gk.ifNo X368 hx (hb hby at_268) (flt (by decide : ¬ ((1 : Int32) < (0 : Int32)))).1 ?_
        refine Gk.aload X368 hx (hb hby at_271) rfl rfl ?_
        refine Gk.iload X368 hx (hb hby at_273) rfl ?_
        have H375 := ((H256.keep K257 ni165).keep K368 nin0)
        refine Gk.aaload X368 hx hZ rfl H375 rfl ⟨by decide, by decide⟩ (.ref b23) rfl (hb hby at_275) ?_
        refine Gk.astore X368 hx (hb hby at_276) rfl #[.val (.int p1), .val (.int p2), .val (.int p3), .val (.int p4), .val (.ref b1), .val (.int (3 : Int32)), .val (.ref b6), .val (.ref b31), .val (.ref b55), .val (.ref b368), .val (.int (0 : Int32)), .val (.ref b23), .val .null, .val .null, .val (.int (3 : Int32)), .unset] rfl ?_
        refine Gk.iconst X368 hx (hb hby at_278) (1 : Int32) rfl ?_
        refine Gk.istore X368 hx (hb hby at_279) #[.val (.int p1), .val (.int p2), .val (.int p3), .val (.int p4), .val (.ref b1), .val (.int (3 : Int32)), .val (.ref b6), .val (.ref b31), .val (.ref b55), .val (.ref b368), .val (.int (1 : Int32)), .val (.ref b23), .val .null, .val .null, .val (.int (3 : Int32)), .unset] rfl ?_
        refine Gk.aload X368 hx (hb hby at_281) rfl rfl ?_
        refine Gk.iload X368 hx (hb hby at_283) rfl ?_
        refine Gk.iaload X368 hx hZ rfl H373 ⟨by decide, by decide⟩ (.int (1 : Int32)) rfl (hb hby at_285) ?_
        refine Gk.istore X368 hx (hb hby at_286) #[.val (.int p1), .val (.int p2), .val (.int p3), .val (.int p4), .val (.ref b1), .val (.int (3 : Int32)), .val (.ref b6), .val (.ref b31), .val (.ref b55), .val (.ref b368), .val (.int (1 : Int32)), .val (.ref b23), .val .null, .val .null, .val (.int (1 : Int32)), .unset] rfl ?_
        refine Gk.aload X368 hx (hb hby at_288) rfl rfl ?_
        refine Gk.iload X368 hx (hb hby at_290) rfl ?_
        refine Gk.iaload X368 hx hZ rfl H373 ⟨by decide, by decide⟩ (.int (0 : Int32)) rfl (hb hby at_292) ?_
        refine Gk.ifNo X368 hx (hb hby at_293) (flt (by decide : ¬ ((0 : Int32) < (0 : Int32)))).1 ?_
        refine Gk.aload X368 hx (hb hby at_296) rfl rfl ?_
        refine Gk.iload X368 hx (hb hby at_298) rfl ?_
        refine Gk.aaload X368 hx hZ rfl H375 rfl ⟨by decide, by decide⟩ (.ref b8) rfl (hb hby at_300) ?_
        refine Gk.astore X368 hx (hb hby at_301) rfl #[.val (.int p1), .val (.int p2), .val (.int p3), .val (.int p4), .val (.ref b1), .val (.int (3 : Int32)), .val (.ref b6), .val (.ref b31), .val (.ref b55), .val (.ref b368), .val (.int (1 : Int32)), .val (.ref b23), .val (.ref b8), .val .null, .val (.int (1 : Int32)), .unset] rfl ?_
        refine Gk.iconst X368 hx (hb hby at_303) (2 : Int32) rfl ?_
        refine Gk.istore X368 hx (hb hby at_304) #[.val (.int p1), .val (.int p2), .val (.int p3), .val (.int p4), .val (.ref b1), .val (.int (3 : Int32)), .val (.ref b6), .val (.ref b31), .val (.ref b55), .val (.ref b368), .val (.int (2 : Int32)), .val (.ref b23), .val (.ref b8), .val .null, .val (.int (1 : Int32)), .unset] rfl ?_
        refine Gk.aload X368 hx (hb hby at_306) rfl rfl ?_
        refine Gk.iload X368 hx (hb hby at_308) rfl ?_
        refine Gk.iaload X368 hx hZ rfl H373 ⟨by decide, by decide⟩ (.int (0 : Int32)) rfl (hb hby at_310) ?_
        refine Gk.istore X368 hx (hb hby at_311) #[.val (.int p1), .val (.int p2), .val (.int p3), .val (.int p4), .val (.ref b1), .val (.int (3 : Int32)), .val (.ref b6), .val (.ref b31), .val (.ref b55), .val (.ref b368), .val (.int (2 : Int32)), .val (.ref b23), .val (.ref b8), .val .null, .val (.int (0 : Int32)), .unset] rfl ?_
        refine Gk.aload X368 hx (hb hby at_313) rfl rfl ?_
        refine Gk.iload X368 hx (hb hby at_315) rfl ?_
        refine Gk.iaload X368 hx hZ rfl H373 ⟨by decide, by decide⟩ (.int (-1 : Int32)) rfl (hb hby at_317) ?_
        refine Gk.ifYes X368 hx (hb hby at_318) (tlt (by decide : (-1 : Int32) < (0 : Int32))).1 338 (by decide) (by decide) ?_
        refine Gk.aload X368 hx (hb hby at_338) rfl rfl ?_
        refine Gk.ifnullNo X368 hx (hb hby at_340) ?_
        refine Gk.aload X368 hx (hb hby at_343) rfl rfl ?_
        refine Gk.alen X368 hx hZ rfl A368 (hb hby at_345) ?_
        refine Gk.iload X368 hx (hb hby at_346) rfl ?_
        refine Gk.icmpYes X368 hx (hb hby at_348) (teq (by decide : (2 : Int32) = (2 : Int32))).1 353 (by decide) (by decide) ?_
        refine Gk.iconst X368 hx (hb hby at_353) (1 : Int32) rfl ?_
        refine Gk.istore X368 hx (hb hby at_354) #[.val (.int p1), .val (.int p2), .val (.int p3), .val (.int p4), .val (.ref b1), .val (.int (3 : Int32)), .val (.ref b6), .val (.ref b31), .val (.ref b55), .val (.ref b368), .val (.int (2 : Int32)), .val (.ref b23), .val (.ref b8), .val .null, .val (.int (0 : Int32)), .val (.int (1 : Int32))] rfl ?_
        refine Gk.iload X368 hx (hb hby at_356) rfl ?_
        refine Gk.iconst X368 hx (hb hby at_358) (1 : Int32) rfl ?_
        refine Gk.icmpNo X368 hx (hb hby at_359) (flt (by decide : ¬ ((2 : Int32) < (1 : Int32)))).1 ?_
        refine Gk.iload X368 hx (hb hby at_362) rfl ?_
        refine Gk.ifNo X368 hx (hb hby at_364) (feq (by decide : ¬ ((1 : Int32) = (0 : Int32)))).1 ?_
        refine Gk.aload X368 hx (hb hby at_367) rfl rfl ?_
        refine Gk.iload X368 hx (hb hby at_369) rfl ?_
        refine Gk.iconst X368 hx (hb hby at_371) (1 : Int32) rfl ?_
        refine Gk.isub X368 hx (hb hby at_372) (1 : Int32) (by decide) ?_
        refine Gk.aaload X368 hx hZ rfl A368 rfl ⟨by decide, by decide⟩ (.ref b23) rfl (hb hby at_373) ?_
        refine Gk.aload X368 hx (hb hby at_374) rfl rfl ?_
        refine Gk.acmp X368 hx (hb hby at_376) rfl rfl true (decide_eq_true rfl) 379 (by decide) (by decide) ?_
        refine Gk.iconst X368 hx (hb hby at_379) (1 : Int32) rfl ?_
        refine Gk.goto X368 hx (hb hby at_380) 384 (by decide) (by decide) ?_
        refine Gk.istore X368 hx (hb hby at_384) #[.val (.int p1), .val (.int p2), .val (.int p3), .val (.int p4), .val (.ref b1), .val (.int (3 : Int32)), .val (.ref b6), .val (.ref b31), .val (.ref b55), .val (.ref b368), .val (.int (2 : Int32)), .val (.ref b23), .val (.ref b8), .val .null, .val (.int (0 : Int32)), .val (.int (1 : Int32))] rfl ?_
        refine Gk.iload X368 hx (hb hby at_386) rfl ?_
        refine Gk.iconst X368 hx (hb hby at_388) (2 : Int32) rfl ?_
        refine Gk.icmpNo X368 hx (hb hby at_389) (flt (by decide : ¬ ((2 : Int32) < (2 : Int32)))).1 ?_
        refine Gk.iload X368 hx (hb hby at_392) rfl ?_
        refine Gk.ifNo X368 hx (hb hby at_394) (feq (by decide : ¬ ((1 : Int32) = (0 : Int32)))).1 ?_
        refine Gk.aload X368 hx (hb hby at_397) rfl rfl ?_
        refine Gk.iload X368 hx (hb hby at_399) rfl ?_
        refine Gk.iconst X368 hx (hb hby at_401) (2 : Int32) rfl ?_
        refine Gk.isub X368 hx (hb hby at_402) (0 : Int32) (by decide) ?_
        refine Gk.aaload X368 hx hZ rfl A368 rfl ⟨by decide, by decide⟩ (.ref b8) rfl (hb hby at_403) ?_
        refine Gk.aload X368 hx (hb hby at_404) rfl rfl ?_
        refine Gk.acmp X368 hx (hb hby at_406) rfl rfl true (decide_eq_true rfl) 409 (by decide) (by decide) ?_
        refine Gk.iconst X368 hx (hb hby at_409) (1 : Int32) rfl ?_
        refine Gk.goto X368 hx (hb hby at_410) 414 (by decide) (by decide) ?_
        refine Gk.istore X368 hx (hb hby at_414) #[.val (.int p1), .val (.int p2), .val (.int p3), .val (.int p4), .val (.ref b1), .val (.int (3 : Int32)), .val (.ref b6), .val (.ref b31), .val (.ref b55), .val (.ref b368), .val (.int (2 : Int32)), .val (.ref b23), .val (.ref b8), .val .null, .val (.int (0 : Int32)), .val (.int (1 : Int32))] rfl ?_
        refine Gk.iload X368 hx (hb hby at_416) rfl ?_
        refine Gk.iconst X368 hx (hb hby at_418) (3 : Int32) rfl ?_
        refine Gk.icmpYes X368 hx (hb hby at_419) (tlt (by decide : (2 : Int32) < (3 : Int32))).1 446 (by decide) (by decide) ?_
        refine Gk.iload X368 hx (hb hby at_446) rfl ?_
        refine Go.fin X368 (v := some (.int (1 : Int32))) (fun h_ => by rw [Bd.returns] at h_; cases h_) Bd.notSynchronized (fun _ hr => retN X368 hx (t := .boolean) Bd.returns (by simp) (hb hby at_448) hr) (fun U' hU hF => ⟨_, _, rfl, ?_, hF.1, hF.2.1, hF.2.2.mono (by decide) (by decide)⟩)
        exact ⟨(congrArg (fun z_ : Int32 => some (Value.int z_)) (show (1 : Int32) = (1 : Int32) from rfl)), N368⟩
    · subst hk_P3
      rcases own_P2 eP2 with hk_P2 | hk_P2 | hk_P2
      · subst hk_P2
        refine Gk.aload X257 hx (hb hby at_238) rfl rfl ?_
        refine Gk.iload X257 hx (hb hby at_240) rfl ?_
        have H384 := (H259.keep K257)
        have H385 := (H252.keep K257)
        refine Gk.callV (argsL := [(.int (3 : Int32))]) X257 hx hZ hown (rm14_32 l Z a0 hw [] b31 x_parents kx_parents (upd (upd (upd (upd (fun _ => (.int (0 : Int32))) 0 (.int (-1 : Int32))) 1 (.int P1)) 2 (.int (-1 : Int32))) 3 (.int (2 : Int32))) x_events kx_events (upd (upd (upd (upd (fun _ => .null) 0 .null) 1 (.ref b8)) 2 (.ref b15)) 3 (.ref b23)) b23 T257.heap n0 (Nat.le_trans Z0 (Nat.le_trans gr251 K257.1)) Va257_parents Va257_events Fa257_parents Fa257_events rfl rfl rfl H384) (hw _ (List.mem_of_getElem? (i := 116) rfl)) (hw _ (List.mem_of_getElem? (i := 117) rfl)) (notFace_of_selects (args := #[]) (mvT hZ (hw _ (List.mem_of_getElem? (i := 119) rfl)))) (hw _ (List.mem_of_getElem? (i := 119) rfl)) (hw _ (List.mem_of_getElem? (i := 118) rfl)) (by decide) (hw _ (List.mem_of_getElem? (i := 120) rfl)) (hw _ (List.mem_of_getElem? (i := 24) rfl)) rfl H385 pd_10 rfl rfl (by decide) (Nat.le_of_ble_eq_true rfl) (by decide) (by decide) (by rw [hml]; rfl)  rfl (hb hby at_242) ?_
        intro T383 L383 v383 X383 hQ383
        obtain ⟨rfl, N383q, K383, k383, A383⟩ := hQ383
        have N383 := Fr.app N257 N383q
        obtain ⟨b383, g383⟩ : ∃ z_, z_ = T257.heap.size := ⟨_, rfl⟩
        rw [← g383] at A383 ⊢
        have g_b383 : n0 ≤ b383 := Nat.le_trans (Nat.le_trans Z0 (Nat.le_trans gr251 K257.1)) (Nat.le_of_eq g383.symm)
        have lt_b383 := A383.lt
        show Go p e below (T383.setTop (mkF m 245 #[.val (.int p1), .val (.int p2), .val (.int p3), .val (.int p4), .val (.ref b1), .val (.int (3 : Int32)), .val (.ref b6), .val (.ref b31), .val (.ref b55), .unset, .unset, .unset, .unset, .unset, .unset, .unset] [(.ref b383)])) _
        refine Gk.astore X383 hx (hb hby at_245) rfl #[.val (.int p1), .val (.int p2), .val (.int p3), .val (.int p4), .val (.ref b1), .val (.int (3 : Int32)), .val (.ref b6), .val (.ref b31), .val (.ref b55), .val (.ref b383), .unset, .unset, .unset, .unset, .unset, .unset] rfl ?_
        refine Gk.iconst X383 hx (hb hby at_247) (0 : Int32) rfl ?_
        refine Gk.istore X383 hx (hb hby at_248) #[.val (.int p1), .val (.int p2), .val (.int p3), .val (.int p4), .val (.ref b1), .val (.int (3 : Int32)), .val (.ref b6), .val (.ref b31), .val (.ref b55), .val (.ref b383), .val (.int (0 : Int32)), .unset, .unset, .unset, .unset, .unset] rfl ?_
        refine Gk.aconstNull X383 hx (hb hby at_250) ?_
        refine Gk.astore X383 hx (hb hby at_251) rfl #[.val (.int p1), .val (.int p2), .val (.int p3), .val (.int p4), .val (.ref b1), .val (.int (3 : Int32)), .val (.ref b6), .val (.ref b31), .val (.ref b55), .val (.ref b383), .val (.int (0 : Int32)), .val .null, .unset, .unset, .unset, .unset] rfl ?_
        refine Gk.aconstNull X383 hx (hb hby at_253) ?_
        refine Gk.astore X383 hx (hb hby at_254) rfl #[.val (.int p1), .val (.int p2), .val (.int p3), .val (.int p4), .val (.ref b1), .val (.int (3 : Int32)), .val (.ref b6), .val (.ref b31), .val (.ref b55), .val (.ref b383), .val (.int (0 : Int32)), .val .null, .val .null, .unset, .unset, .unset] rfl ?_
        refine Gk.aconstNull X383 hx (hb hby at_256) ?_
        refine Gk.astore X383 hx (hb hby at_257) rfl #[.val (.int p1), .val (.int p2), .val (.int p3), .val (.int p4), .val (.ref b1), .val (.int (3 : Int32)), .val (.ref b6), .val (.ref b31), .val (.ref b55), .val (.ref b383), .val (.int (0 : Int32)), .val .null, .val .null, .val .null, .unset, .unset] rfl ?_
        refine Gk.iload X383 hx (hb hby at_259) rfl ?_
        refine Gk.istore X383 hx (hb hby at_261) #[.val (.int p1), .val (.int p2), .val (.int p3), .val (.int p4), .val (.ref b1), .val (.int (3 : Int32)), .val (.ref b6), .val (.ref b31), .val (.ref b55), .val (.ref b383), .val (.int (0 : Int32)), .val .null, .val .null, .val .null, .val (.int (3 : Int32)), .unset] rfl ?_
        refine Gk.aload X383 hx (hb hby at_263) rfl rfl ?_
        refine Gk.iload X383 hx (hb hby at_265) rfl ?_
        have H387 := ((H254.keep K257 ni150).keep K383 nin0)
        refine Gk.iaload X383 hx hZ rfl H387 ⟨by decide, by decide⟩ (.int (2 : Int32)) rfl (hb hby at_267) ?_
        refine Gk.ifNo X383 hx (hb hby at_268) (flt (by decide : ¬ ((2 : Int32) < (0 : Int32)))).1 ?_
        refine Gk.aload X383 hx (hb hby at_271) rfl rfl ?_
        refine Gk.iload X383 hx (hb hby at_273) rfl ?_
        have H389 := ((H256.keep K257 ni165).keep K383 nin0)
        refine Gk.aaload X383 hx hZ rfl H389 rfl ⟨by decide, by decide⟩ (.ref b23) rfl (hb hby at_275) ?_
        refine Gk.astore X383 hx (hb hby at_276) rfl #[.val (.int p1), .val (.int p2), .val (.int p3), .val (.int p4), .val (.ref b1), .val (.int (3 : Int32)), .val (.ref b6), .val (.ref b31), .val (.ref b55), .val (.ref b383), .val (.int (0 : Int32)), .val (.ref b23), .val .null, .val .null, .val (.int (3 : Int32)), .unset] rfl ?_
        refine Gk.iconst X383 hx (hb hby at_278) (1 : Int32) rfl ?_
        refine Gk.istore X383 hx (hb hby at_279) #[.val (.int p1), .val (.int p2), .val (.int p3), .val (.int p4), .val (.ref b1), .val (.int (3 : Int32)), .val (.ref b6), .val (.ref b31), .val (.ref b55), .val (.ref b383), .val (.int (1 : Int32)), .val (.ref b23), .val .null, .val .null, .val (.int (3 : Int32)), .unset] rfl ?_
        refine Gk.aload X383 hx (hb hby at_281) rfl rfl ?_
        refine Gk.iload X383 hx (hb hby at_283) rfl ?_
        refine Gk.iaload X383 hx hZ rfl H387 ⟨by decide, by decide⟩ (.int (2 : Int32)) rfl (hb hby at_285) ?_
        refine Gk.istore X383 hx (hb hby at_286) #[.val (.int p1), .val (.int p2), .val (.int p3), .val (.int p4), .val (.ref b1), .val (.int (3 : Int32)), .val (.ref b6), .val (.ref b31), .val (.ref b55), .val (.ref b383), .val (.int (1 : Int32)), .val (.ref b23), .val .null, .val .null, .val (.int (2 : Int32)), .unset] rfl ?_
        refine Gk.aload X383 hx (hb hby at_288) rfl rfl ?_
        refine Gk.iload X383 hx (hb hby at_290) rfl ?_
        refine Gk.iaload X383 hx hZ rfl H387 ⟨by decide, by decide⟩ (.int (-1 : Int32)) rfl (hb hby at_292) ?_
        refine Gk.ifYes X383 hx (hb hby at_293) (tlt (by decide : (-1 : Int32) < (0 : Int32))).1 338 (by decide) (by decide) ?_
        refine Gk.aload X383 hx (hb hby at_338) rfl rfl ?_
        refine Gk.ifnullNo X383 hx (hb hby at_340) ?_
        refine Gk.aload X383 hx (hb hby at_343) rfl rfl ?_
        refine Gk.alen X383 hx hZ rfl A383 (hb hby at_345) ?_
        refine Gk.iload X383 hx (hb hby at_346) rfl ?_
        refine Gk.icmpYes X383 hx (hb hby at_348) (teq (by decide : (1 : Int32) = (1 : Int32))).1 353 (by decide) (by decide) ?_
        refine Gk.iconst X383 hx (hb hby at_353) (1 : Int32) rfl ?_
        refine Gk.istore X383 hx (hb hby at_354) #[.val (.int p1), .val (.int p2), .val (.int p3), .val (.int p4), .val (.ref b1), .val (.int (3 : Int32)), .val (.ref b6), .val (.ref b31), .val (.ref b55), .val (.ref b383), .val (.int (1 : Int32)), .val (.ref b23), .val .null, .val .null, .val (.int (2 : Int32)), .val (.int (1 : Int32))] rfl ?_
        refine Gk.iload X383 hx (hb hby at_356) rfl ?_
        refine Gk.iconst X383 hx (hb hby at_358) (1 : Int32) rfl ?_
        refine Gk.icmpNo X383 hx (hb hby at_359) (flt (by decide : ¬ ((1 : Int32) < (1 : Int32)))).1 ?_
        refine Gk.iload X383 hx (hb hby at_362) rfl ?_
        refine Gk.ifNo X383 hx (hb hby at_364) (feq (by decide : ¬ ((1 : Int32) = (0 : Int32)))).1 ?_
        refine Gk.aload X383 hx (hb hby at_367) rfl rfl ?_
        refine Gk.iload X383 hx (hb hby at_369) rfl ?_
        refine Gk.iconst X383 hx (hb hby at_371) (1 : Int32) rfl ?_
        refine Gk.isub X383 hx (hb hby at_372) (0 : Int32) (by decide) ?_
        refine Gk.aaload X383 hx hZ rfl A383 rfl ⟨by decide, by decide⟩ (.ref b23) rfl (hb hby at_373) ?_
        refine Gk.aload X383 hx (hb hby at_374) rfl rfl ?_
        refine Gk.acmp X383 hx (hb hby at_376) rfl rfl true (decide_eq_true rfl) 379 (by decide) (by decide) ?_
        refine Gk.iconst X383 hx (hb hby at_379) (1 : Int32) rfl ?_
        refine Gk.goto X383 hx (hb hby at_380) 384 (by decide) (by decide) ?_
        refine Gk.istore X383 hx (hb hby at_384) #[.val (.int p1), .val (.int p2), .val (.int p3), .val (.int p4), .val (.ref b1), .val (.int (3 : Int32)), .val (.ref b6), .val (.ref b31), .val (.ref b55), .val (.ref b383), .val (.int (1 : Int32)), .val (.ref b23), .val .null, .val .null, .val (.int (2 : Int32)), .val (.int (1 : Int32))] rfl ?_
        refine Gk.iload X383 hx (hb hby at_386) rfl ?_
        refine Gk.iconst X383 hx (hb hby at_388) (2 : Int32) rfl ?_
        refine Gk.icmpYes X383 hx (hb hby at_389) (tlt (by decide : (1 : Int32) < (2 : Int32))).1 416 (by decide) (by decide) ?_
        refine Gk.iload X383 hx (hb hby at_416) rfl ?_
        refine Gk.iconst X383 hx (hb hby at_418) (3 : Int32) rfl ?_
        refine Gk.icmpYes X383 hx (hb hby at_419) (tlt (by decide : (1 : Int32) < (3 : Int32))).1 446 (by decide) (by decide) ?_
        refine Gk.iload X383 hx (hb hby at_446) rfl ?_
        refine Go.fin X383 (v := some (.int (1 : Int32))) (fun h_ => by rw [Bd.returns] at h_; cases h_) Bd.notSynchronized (fun _ hr => retN X383 hx (t := .boolean) Bd.returns (by simp) (hb hby at_448) hr) (fun U' hU hF => ⟨_, _, rfl, ?_, hF.1, hF.2.1, hF.2.2.mono (by decide) (by decide)⟩)
        exact ⟨(congrArg (fun z_ : Int32 => some (Value.int z_)) (show (1 : Int32) = (1 : Int32) from rfl)), N383⟩
      · subst hk_P2
        refine Gk.aload X257 hx (hb hby at_238) rfl rfl ?_
        refine Gk.iload X257 hx (hb hby at_240) rfl ?_
        have H394 := (H259.keep K257)
        have H395 := (((H219.keep K217).wr W247).keep K257)
        have H396 := (H252.keep K257)
        refine Gk.callV (argsL := [(.int (3 : Int32))]) X257 hx hZ hown (rm14_320 l Z a0 hw [] b31 x_parents kx_parents (upd (upd (upd (upd (fun _ => (.int (0 : Int32))) 0 (.int (-1 : Int32))) 1 (.int P1)) 2 (.int (0 : Int32))) 3 (.int (2 : Int32))) x_events kx_events (upd (upd (upd (upd (fun _ => .null) 0 .null) 1 (.ref b8)) 2 (.ref b15)) 3 (.ref b23)) b23 b15 T257.heap n0 (Nat.le_trans Z0 (Nat.le_trans gr251 K257.1)) Va257_parents Va257_events Fa257_parents Fa257_events rfl rfl rfl rfl rfl H394 H395) (hw _ (List.mem_of_getElem? (i := 116) rfl)) (hw _ (List.mem_of_getElem? (i := 117) rfl)) (notFace_of_selects (args := #[]) (mvT hZ (hw _ (List.mem_of_getElem? (i := 119) rfl)))) (hw _ (List.mem_of_getElem? (i := 119) rfl)) (hw _ (List.mem_of_getElem? (i := 118) rfl)) (by decide) (hw _ (List.mem_of_getElem? (i := 120) rfl)) (hw _ (List.mem_of_getElem? (i := 24) rfl)) rfl H396 pd_10 rfl rfl (by decide) (Nat.le_of_ble_eq_true rfl) (by decide) (by decide) (by rw [hml]; rfl)  rfl (hb hby at_242) ?_
        intro T393 L393 v393 X393 hQ393
        obtain ⟨rfl, N393q, K393, k393, A393⟩ := hQ393
        have N393 := Fr.app N257 N393q
        obtain ⟨b393, g393⟩ : ∃ z_, z_ = T257.heap.size := ⟨_, rfl⟩
        rw [← g393] at A393 ⊢
        have g_b393 : n0 ≤ b393 := Nat.le_trans (Nat.le_trans Z0 (Nat.le_trans gr251 K257.1)) (Nat.le_of_eq g393.symm)
        have lt_b393 := A393.lt
        show Go p e below (T393.setTop (mkF m 245 #[.val (.int p1), .val (.int p2), .val (.int p3), .val (.int p4), .val (.ref b1), .val (.int (3 : Int32)), .val (.ref b6), .val (.ref b31), .val (.ref b55), .unset, .unset, .unset, .unset, .unset, .unset, .unset] [(.ref b393)])) _
        refine Gk.astore X393 hx (hb hby at_245) rfl #[.val (.int p1), .val (.int p2), .val (.int p3), .val (.int p4), .val (.ref b1), .val (.int (3 : Int32)), .val (.ref b6), .val (.ref b31), .val (.ref b55), .val (.ref b393), .unset, .unset, .unset, .unset, .unset, .unset] rfl ?_
        refine Gk.iconst X393 hx (hb hby at_247) (0 : Int32) rfl ?_
        refine Gk.istore X393 hx (hb hby at_248) #[.val (.int p1), .val (.int p2), .val (.int p3), .val (.int p4), .val (.ref b1), .val (.int (3 : Int32)), .val (.ref b6), .val (.ref b31), .val (.ref b55), .val (.ref b393), .val (.int (0 : Int32)), .unset, .unset, .unset, .unset, .unset] rfl ?_
        refine Gk.aconstNull X393 hx (hb hby at_250) ?_
        refine Gk.astore X393 hx (hb hby at_251) rfl #[.val (.int p1), .val (.int p2), .val (.int p3), .val (.int p4), .val (.ref b1), .val (.int (3 : Int32)), .val (.ref b6), .val (.ref b31), .val (.ref b55), .val (.ref b393), .val (.int (0 : Int32)), .val .null, .unset, .unset, .unset, .unset] rfl ?_
        refine Gk.aconstNull X393 hx (hb hby at_253) ?_
        refine Gk.astore X393 hx (hb hby at_254) rfl #[.val (.int p1), .val (.int p2), .val (.int p3), .val (.int p4), .val (.ref b1), .val (.int (3 : Int32)), .val (.ref b6), .val (.ref b31), .val (.ref b55), .val (.ref b393), .val (.int (0 : Int32)), .val .null, .val .null, .unset, .unset, .unset] rfl ?_
        refine Gk.aconstNull X393 hx (hb hby at_256) ?_
        refine Gk.astore X393 hx (hb hby at_257) rfl #[.val (.int p1), .val (.int p2), .val (.int p3), .val (.int p4), .val (.ref b1), .val (.int (3 : Int32)), .val (.ref b6), .val (.ref b31), .val (.ref b55), .val (.ref b393), .val (.int (0 : Int32)), .val .null, .val .null, .val .null, .unset, .unset] rfl ?_
        refine Gk.iload X393 hx (hb hby at_259) rfl ?_
        refine Gk.istore X393 hx (hb hby at_261) #[.val (.int p1), .val (.int p2), .val (.int p3), .val (.int p4), .val (.ref b1), .val (.int (3 : Int32)), .val (.ref b6), .val (.ref b31), .val (.ref b55), .val (.ref b393), .val (.int (0 : Int32)), .val .null, .val .null, .val .null, .val (.int (3 : Int32)), .unset] rfl ?_
        refine Gk.aload X393 hx (hb hby at_263) rfl rfl ?_
        refine Gk.iload X393 hx (hb hby at_265) rfl ?_
        have H398 := ((H254.keep K257 ni150).keep K393 nin0)
        refine Gk.iaload X393 hx hZ rfl H398 ⟨by decide, by decide⟩ (.int (2 : Int32)) rfl (hb hby at_267) ?_
        refine Gk.ifNo X393 hx (hb hby at_268) (flt (by decide : ¬ ((2 : Int32) < (0 : Int32)))).1 ?_
        refine Gk.aload X393 hx (hb hby at_271) rfl rfl ?_
        refine Gk.iload X393 hx (hb hby at_273) rfl ?_
        have H400 := ((H256.keep K257 ni165).keep K393 nin0)
        refine Gk.aaload X393 hx hZ rfl H400 rfl ⟨by decide, by decide⟩ (.ref b23) rfl (hb hby at_275) ?_
        refine Gk.astore X393 hx (hb hby at_276) rfl #[.val (.int p1), .val (.int p2), .val (.int p3), .val (.int p4), .val (.ref b1), .val (.int (3 : Int32)), .val (.ref b6), .val (.ref b31), .val (.ref b55), .val (.ref b393), .val (.int (0 : Int32)), .val (.ref b23), .val .null, .val .null, .val (.int (3 : Int32)), .unset] rfl ?_
        refine Gk.iconst X393 hx (hb hby at_278) (1 : Int32) rfl ?_
        refine Gk.istore X393 hx (hb hby at_279) #[.val (.int p1), .val (.int p2), .val (.int p3), .val (.int p4), .val (.ref b1), .val (.int (3 : Int32)), .val (.ref b6), .val (.ref b31), .val (.ref b55), .val (.ref b393), .val (.int (1 : Int32)), .val (.ref b23), .val .null, .val .null, .val (.int (3 : Int32)), .unset] rfl ?_
        refine Gk.aload X393 hx (hb hby at_281) rfl rfl ?_
        refine Gk.iload X393 hx (hb hby at_283) rfl ?_
        refine Gk.iaload X393 hx hZ rfl H398 ⟨by decide, by decide⟩ (.int (2 : Int32)) rfl (hb hby at_285) ?_
        refine Gk.istore X393 hx (hb hby at_286) #[.val (.int p1), .val (.int p2), .val (.int p3), .val (.int p4), .val (.ref b1), .val (.int (3 : Int32)), .val (.ref b6), .val (.ref b31), .val (.ref b55), .val (.ref b393), .val (.int (1 : Int32)), .val (.ref b23), .val .null, .val .null, .val (.int (2 : Int32)), .unset] rfl ?_
        refine Gk.aload X393 hx (hb hby at_288) rfl rfl ?_
        refine Gk.iload X393 hx (hb hby at_290) rfl ?_
        refine Gk.iaload X393 hx hZ rfl H398 ⟨by decide, by decide⟩ (.int (0 : Int32)) rfl (hb hby at_292) ?_
        refine Gk.ifNo X393 hx (hb hby at_293) (flt (by decide : ¬ ((0 : Int32) < (0 : Int32)))).1 ?_
        refine Gk.aload X393 hx (hb hby at_296) rfl rfl ?_
        refine Gk.iload X393 hx (hb hby at_298) rfl ?_
        refine Gk.aaload X393 hx hZ rfl H400 rfl ⟨by decide, by decide⟩ (.ref b15) rfl (hb hby at_300) ?_
        refine Gk.astore X393 hx (hb hby at_301) rfl #[.val (.int p1), .val (.int p2), .val (.int p3), .val (.int p4), .val (.ref b1), .val (.int (3 : Int32)), .val (.ref b6), .val (.ref b31), .val (.ref b55), .val (.ref b393), .val (.int (1 : Int32)), .val (.ref b23), .val (.ref b15), .val .null, .val (.int (2 : Int32)), .unset] rfl ?_
        refine Gk.iconst X393 hx (hb hby at_303) (2 : Int32) rfl ?_
        refine Gk.istore X393 hx (hb hby at_304) #[.val (.int p1), .val (.int p2), .val (.int p3), .val (.int p4), .val (.ref b1), .val (.int (3 : Int32)), .val (.ref b6), .val (.ref b31), .val (.ref b55), .val (.ref b393), .val (.int (2 : Int32)), .val (.ref b23), .val (.ref b15), .val .null, .val (.int (2 : Int32)), .unset] rfl ?_
        refine Gk.aload X393 hx (hb hby at_306) rfl rfl ?_
        refine Gk.iload X393 hx (hb hby at_308) rfl ?_
        refine Gk.iaload X393 hx hZ rfl H398 ⟨by decide, by decide⟩ (.int (0 : Int32)) rfl (hb hby at_310) ?_
        refine Gk.istore X393 hx (hb hby at_311) #[.val (.int p1), .val (.int p2), .val (.int p3), .val (.int p4), .val (.ref b1), .val (.int (3 : Int32)), .val (.ref b6), .val (.ref b31), .val (.ref b55), .val (.ref b393), .val (.int (2 : Int32)), .val (.ref b23), .val (.ref b15), .val .null, .val (.int (0 : Int32)), .unset] rfl ?_
        refine Gk.aload X393 hx (hb hby at_313) rfl rfl ?_
        refine Gk.iload X393 hx (hb hby at_315) rfl ?_
        refine Gk.iaload X393 hx hZ rfl H398 ⟨by decide, by decide⟩ (.int (-1 : Int32)) rfl (hb hby at_317) ?_
        refine Gk.ifYes X393 hx (hb hby at_318) (tlt (by decide : (-1 : Int32) < (0 : Int32))).1 338 (by decide) (by decide) ?_
        refine Gk.aload X393 hx (hb hby at_338) rfl rfl ?_
        refine Gk.ifnullNo X393 hx (hb hby at_340) ?_
        refine Gk.aload X393 hx (hb hby at_343) rfl rfl ?_
        refine Gk.alen X393 hx hZ rfl A393 (hb hby at_345) ?_
        refine Gk.iload X393 hx (hb hby at_346) rfl ?_
        refine Gk.icmpYes X393 hx (hb hby at_348) (teq (by decide : (2 : Int32) = (2 : Int32))).1 353 (by decide) (by decide) ?_
        refine Gk.iconst X393 hx (hb hby at_353) (1 : Int32) rfl ?_
        refine Gk.istore X393 hx (hb hby at_354) #[.val (.int p1), .val (.int p2), .val (.int p3), .val (.int p4), .val (.ref b1), .val (.int (3 : Int32)), .val (.ref b6), .val (.ref b31), .val (.ref b55), .val (.ref b393), .val (.int (2 : Int32)), .val (.ref b23), .val (.ref b15), .val .null, .val (.int (0 : Int32)), .val (.int (1 : Int32))] rfl ?_
        refine Gk.iload X393 hx (hb hby at_356) rfl ?_
        refine Gk.iconst X393 hx (hb hby at_358) (1 : Int32) rfl ?_
        refine Gk.icmpNo X393 hx (hb hby at_359) (flt (by decide : ¬ ((2 : Int32) < (1 : Int32)))).1 ?_
        refine Gk.iload X393 hx (hb hby at_362) rfl ?_
        refine Gk.ifNo X393 hx (hb hby at_364) (feq (by decide : ¬ ((1 : Int32) = (0 : Int32)))).1 ?_
        refine Gk.aload X393 hx (hb hby at_367) rfl rfl ?_
        refine Gk.iload X393 hx (hb hby at_369) rfl ?_
        refine Gk.iconst X393 hx (hb hby at_371) (1 : Int32) rfl ?_
        refine Gk.isub X393 hx (hb hby at_372) (1 : Int32) (by decide) ?_
        refine Gk.aaload X393 hx hZ rfl A393 rfl ⟨by decide, by decide⟩ (.ref b23) rfl (hb hby at_373) ?_
        refine Gk.aload X393 hx (hb hby at_374) rfl rfl ?_
        refine Gk.acmp X393 hx (hb hby at_376) rfl rfl true (decide_eq_true rfl) 379 (by decide) (by decide) ?_
        refine Gk.iconst X393 hx (hb hby at_379) (1 : Int32) rfl ?_
        refine Gk.goto X393 hx (hb hby at_380) 384 (by decide) (by decide) ?_
        refine Gk.istore X393 hx (hb hby at_384) #[.val (.int p1), .val (.int p2), .val (.int p3), .val (.int p4), .val (.ref b1), .val (.int (3 : Int32)), .val (.ref b6), .val (.ref b31), .val (.ref b55), .val (.ref b393), .val (.int (2 : Int32)), .val (.ref b23), .val (.ref b15), .val .null, .val (.int (0 : Int32)), .val (.int (1 : Int32))] rfl ?_
        refine Gk.iload X393 hx (hb hby at_386) rfl ?_
        refine Gk.iconst X393 hx (hb hby at_388) (2 : Int32) rfl ?_
        refine Gk.icmpNo X393 hx (hb hby at_389) (flt (by decide : ¬ ((2 : Int32) < (2 : Int32)))).1 ?_
        refine Gk.iload X393 hx (hb hby at_392) rfl ?_
        refine Gk.ifNo X393 hx (hb hby at_394) (feq (by decide : ¬ ((1 : Int32) = (0 : Int32)))).1 ?_
        refine Gk.aload X393 hx (hb hby at_397) rfl rfl ?_
        refine Gk.iload X393 hx (hb hby at_399) rfl ?_
        refine Gk.iconst X393 hx (hb hby at_401) (2 : Int32) rfl ?_
        refine Gk.isub X393 hx (hb hby at_402) (0 : Int32) (by decide) ?_
        refine Gk.aaload X393 hx hZ rfl A393 rfl ⟨by decide, by decide⟩ (.ref b15) rfl (hb hby at_403) ?_
        refine Gk.aload X393 hx (hb hby at_404) rfl rfl ?_
        refine Gk.acmp X393 hx (hb hby at_406) rfl rfl true (decide_eq_true rfl) 409 (by decide) (by decide) ?_
        refine Gk.iconst X393 hx (hb hby at_409) (1 : Int32) rfl ?_
        refine Gk.goto X393 hx (hb hby at_410) 414 (by decide) (by decide) ?_
        refine Gk.istore X393 hx (hb hby at_414) #[.val (.int p1), .val (.int p2), .val (.int p3), .val (.int p4), .val (.ref b1), .val (.int (3 : Int32)), .val (.ref b6), .val (.ref b31), .val (.ref b55), .val (.ref b393), .val (.int (2 : Int32)), .val (.ref b23), .val (.ref b15), .val .null, .val (.int (0 : Int32)), .val (.int (1 : Int32))] rfl ?_
        refine Gk.iload X393 hx (hb hby at_416) rfl ?_
        refine Gk.iconst X393 hx (hb hby at_418) (3 : Int32) rfl ?_
        refine Gk.icmpYes X393 hx (hb hby at_419) (tlt (by decide : (2 : Int32) < (3 : Int32))).1 446 (by decide) (by decide) ?_
        refine Gk.iload X393 hx (hb hby at_446) rfl ?_
        refine Go.fin X393 (v := some (.int (1 : Int32))) (fun h_ => by rw [Bd.returns] at h_; cases h_) Bd.notSynchronized (fun _ hr => retN X393 hx (t := .boolean) Bd.returns (by simp) (hb hby at_448) hr) (fun U' hU hF => ⟨_, _, rfl, ?_, hF.1, hF.2.1, hF.2.2.mono (by decide) (by decide)⟩)
        exact ⟨(congrArg (fun z_ : Int32 => some (Value.int z_)) (show (1 : Int32) = (1 : Int32) from rfl)), N393⟩
      · subst hk_P2
        rcases own_P1 eP1 with hk_P1 | hk_P1
        · subst hk_P1
          refine Gk.aload X257 hx (hb hby at_238) rfl rfl ?_
          refine Gk.iload X257 hx (hb hby at_240) rfl ?_
          have H409 := (H259.keep K257)
          have H410 := (((H219.keep K217).wr W247).keep K257)
          have H411 := (H252.keep K257)
          refine Gk.callV (argsL := [(.int (3 : Int32))]) X257 hx hZ hown (rm14_321 l Z a0 hw [] b31 x_parents kx_parents (upd (upd (upd (upd (fun _ => (.int (0 : Int32))) 0 (.int (-1 : Int32))) 1 (.int (-1 : Int32))) 2 (.int (1 : Int32))) 3 (.int (2 : Int32))) x_events kx_events (upd (upd (upd (upd (fun _ => .null) 0 .null) 1 (.ref b8)) 2 (.ref b15)) 3 (.ref b23)) b23 b15 T257.heap n0 (Nat.le_trans Z0 (Nat.le_trans gr251 K257.1)) Va257_parents Va257_events Fa257_parents Fa257_events rfl rfl rfl rfl rfl H409 H410) (hw _ (List.mem_of_getElem? (i := 116) rfl)) (hw _ (List.mem_of_getElem? (i := 117) rfl)) (notFace_of_selects (args := #[]) (mvT hZ (hw _ (List.mem_of_getElem? (i := 119) rfl)))) (hw _ (List.mem_of_getElem? (i := 119) rfl)) (hw _ (List.mem_of_getElem? (i := 118) rfl)) (by decide) (hw _ (List.mem_of_getElem? (i := 120) rfl)) (hw _ (List.mem_of_getElem? (i := 24) rfl)) rfl H411 pd_10 rfl rfl (by decide) (Nat.le_of_ble_eq_true rfl) (by decide) (by decide) (by rw [hml]; rfl)  rfl (hb hby at_242) ?_
          intro T408 L408 v408 X408 hQ408
          obtain ⟨rfl, N408q, K408, k408, A408⟩ := hQ408
          have N408 := Fr.app N257 N408q
          obtain ⟨b408, g408⟩ : ∃ z_, z_ = T257.heap.size := ⟨_, rfl⟩
          rw [← g408] at A408 ⊢
          have g_b408 : n0 ≤ b408 := Nat.le_trans (Nat.le_trans Z0 (Nat.le_trans gr251 K257.1)) (Nat.le_of_eq g408.symm)
          have lt_b408 := A408.lt
          show Go p e below (T408.setTop (mkF m 245 #[.val (.int p1), .val (.int p2), .val (.int p3), .val (.int p4), .val (.ref b1), .val (.int (3 : Int32)), .val (.ref b6), .val (.ref b31), .val (.ref b55), .unset, .unset, .unset, .unset, .unset, .unset, .unset] [(.ref b408)])) _
          refine Gk.astore X408 hx (hb hby at_245) rfl #[.val (.int p1), .val (.int p2), .val (.int p3), .val (.int p4), .val (.ref b1), .val (.int (3 : Int32)), .val (.ref b6), .val (.ref b31), .val (.ref b55), .val (.ref b408), .unset, .unset, .unset, .unset, .unset, .unset] rfl ?_
          refine Gk.iconst X408 hx (hb hby at_247) (0 : Int32) rfl ?_
          refine Gk.istore X408 hx (hb hby at_248) #[.val (.int p1), .val (.int p2), .val (.int p3), .val (.int p4), .val (.ref b1), .val (.int (3 : Int32)), .val (.ref b6), .val (.ref b31), .val (.ref b55), .val (.ref b408), .val (.int (0 : Int32)), .unset, .unset, .unset, .unset, .unset] rfl ?_
          refine Gk.aconstNull X408 hx (hb hby at_250) ?_
          refine Gk.astore X408 hx (hb hby at_251) rfl #[.val (.int p1), .val (.int p2), .val (.int p3), .val (.int p4), .val (.ref b1), .val (.int (3 : Int32)), .val (.ref b6), .val (.ref b31), .val (.ref b55), .val (.ref b408), .val (.int (0 : Int32)), .val .null, .unset, .unset, .unset, .unset] rfl ?_
          refine Gk.aconstNull X408 hx (hb hby at_253) ?_
          refine Gk.astore X408 hx (hb hby at_254) rfl #[.val (.int p1), .val (.int p2), .val (.int p3), .val (.int p4), .val (.ref b1), .val (.int (3 : Int32)), .val (.ref b6), .val (.ref b31), .val (.ref b55), .val (.ref b408), .val (.int (0 : Int32)), .val .null, .val .null, .unset, .unset, .unset] rfl ?_
          refine Gk.aconstNull X408 hx (hb hby at_256) ?_
          refine Gk.astore X408 hx (hb hby at_257) rfl #[.val (.int p1), .val (.int p2), .val (.int p3), .val (.int p4), .val (.ref b1), .val (.int (3 : Int32)), .val (.ref b6), .val (.ref b31), .val (.ref b55), .val (.ref b408), .val (.int (0 : Int32)), .val .null, .val .null, .val .null, .unset, .unset] rfl ?_
          refine Gk.iload X408 hx (hb hby at_259) rfl ?_
          refine Gk.istore X408 hx (hb hby at_261) #[.val (.int p1), .val (.int p2), .val (.int p3), .val (.int p4), .val (.ref b1), .val (.int (3 : Int32)), .val (.ref b6), .val (.ref b31), .val (.ref b55), .val (.ref b408), .val (.int (0 : Int32)), .val .null, .val .null, .val .null, .val (.int (3 : Int32)), .unset] rfl ?_
          refine Gk.aload X408 hx (hb hby at_263) rfl rfl ?_
          refine Gk.iload X408 hx (hb hby at_265) rfl ?_
          have H413 := ((H254.keep K257 ni150).keep K408 nin0)
          refine Gk.iaload X408 hx hZ rfl H413 ⟨by decide, by decide⟩ (.int (2 : Int32)) rfl (hb hby at_267) ?_
          refine Gk.ifNo X408 hx (hb hby at_268) (flt (by decide : ¬ ((2 : Int32) < (0 : Int32)))).1 ?_
          refine Gk.aload X408 hx (hb hby at_271) rfl rfl ?_
          refine Gk.iload X408 hx (hb hby at_273) rfl ?_
          have H415 := ((H256.keep K257 ni165).keep K408 nin0)
          refine Gk.aaload X408 hx hZ rfl H415 rfl ⟨by decide, by decide⟩ (.ref b23) rfl (hb hby at_275) ?_
          refine Gk.astore X408 hx (hb hby at_276) rfl #[.val (.int p1), .val (.int p2), .val (.int p3), .val (.int p4), .val (.ref b1), .val (.int (3 : Int32)), .val (.ref b6), .val (.ref b31), .val (.ref b55), .val (.ref b408), .val (.int (0 : Int32)), .val (.ref b23), .val .null, .val .null, .val (.int (3 : Int32)), .unset] rfl ?_
          refine Gk.iconst X408 hx (hb hby at_278) (1 : Int32) rfl ?_
          refine Gk.istore X408 hx (hb hby at_279) #[.val (.int p1), .val (.int p2), .val (.int p3), .val (.int p4), .val (.ref b1), .val (.int (3 : Int32)), .val (.ref b6), .val (.ref b31), .val (.ref b55), .val (.ref b408), .val (.int (1 : Int32)), .val (.ref b23), .val .null, .val .null, .val (.int (3 : Int32)), .unset] rfl ?_
          refine Gk.aload X408 hx (hb hby at_281) rfl rfl ?_
          refine Gk.iload X408 hx (hb hby at_283) rfl ?_
          refine Gk.iaload X408 hx hZ rfl H413 ⟨by decide, by decide⟩ (.int (2 : Int32)) rfl (hb hby at_285) ?_
          refine Gk.istore X408 hx (hb hby at_286) #[.val (.int p1), .val (.int p2), .val (.int p3), .val (.int p4), .val (.ref b1), .val (.int (3 : Int32)), .val (.ref b6), .val (.ref b31), .val (.ref b55), .val (.ref b408), .val (.int (1 : Int32)), .val (.ref b23), .val .null, .val .null, .val (.int (2 : Int32)), .unset] rfl ?_
          refine Gk.aload X408 hx (hb hby at_288) rfl rfl ?_
          refine Gk.iload X408 hx (hb hby at_290) rfl ?_
          refine Gk.iaload X408 hx hZ rfl H413 ⟨by decide, by decide⟩ (.int (1 : Int32)) rfl (hb hby at_292) ?_
          refine Gk.ifNo X408 hx (hb hby at_293) (flt (by decide : ¬ ((1 : Int32) < (0 : Int32)))).1 ?_
          refine Gk.aload X408 hx (hb hby at_296) rfl rfl ?_
          refine Gk.iload X408 hx (hb hby at_298) rfl ?_
          refine Gk.aaload X408 hx hZ rfl H415 rfl ⟨by decide, by decide⟩ (.ref b15) rfl (hb hby at_300) ?_
          refine Gk.astore X408 hx (hb hby at_301) rfl #[.val (.int p1), .val (.int p2), .val (.int p3), .val (.int p4), .val (.ref b1), .val (.int (3 : Int32)), .val (.ref b6), .val (.ref b31), .val (.ref b55), .val (.ref b408), .val (.int (1 : Int32)), .val (.ref b23), .val (.ref b15), .val .null, .val (.int (2 : Int32)), .unset] rfl ?_
          refine Gk.iconst X408 hx (hb hby at_303) (2 : Int32) rfl ?_
          refine Gk.istore X408 hx (hb hby at_304) #[.val (.int p1), .val (.int p2), .val (.int p3), .val (.int p4), .val (.ref b1), .val (.int (3 : Int32)), .val (.ref b6), .val (.ref b31), .val (.ref b55), .val (.ref b408), .val (.int (2 : Int32)), .val (.ref b23), .val (.ref b15), .val .null, .val (.int (2 : Int32)), .unset] rfl ?_
          refine Gk.aload X408 hx (hb hby at_306) rfl rfl ?_
          refine Gk.iload X408 hx (hb hby at_308) rfl ?_
          refine Gk.iaload X408 hx hZ rfl H413 ⟨by decide, by decide⟩ (.int (1 : Int32)) rfl (hb hby at_310) ?_
          refine Gk.istore X408 hx (hb hby at_311) #[.val (.int p1), .val (.int p2), .val (.int p3), .val (.int p4), .val (.ref b1), .val (.int (3 : Int32)), .val (.ref b6), .val (.ref b31), .val (.ref b55), .val (.ref b408), .val (.int (2 : Int32)), .val (.ref b23), .val (.ref b15), .val .null, .val (.int (1 : Int32)), .unset] rfl ?_
          refine Gk.aload X408 hx (hb hby at_313) rfl rfl ?_
          refine Gk.iload X408 hx (hb hby at_315) rfl ?_
          refine Gk.iaload X408 hx hZ rfl H413 ⟨by decide, by decide⟩ (.int (-1 : Int32)) rfl (hb hby at_317) ?_
          refine Gk.ifYes X408 hx (hb hby at_318) (tlt (by decide : (-1 : Int32) < (0 : Int32))).1 338 (by decide) (by decide) ?_
          refine Gk.aload X408 hx (hb hby at_338) rfl rfl ?_
          refine Gk.ifnullNo X408 hx (hb hby at_340) ?_
          refine Gk.aload X408 hx (hb hby at_343) rfl rfl ?_
          refine Gk.alen X408 hx hZ rfl A408 (hb hby at_345) ?_
          refine Gk.iload X408 hx (hb hby at_346) rfl ?_
          refine Gk.icmpYes X408 hx (hb hby at_348) (teq (by decide : (2 : Int32) = (2 : Int32))).1 353 (by decide) (by decide) ?_
          refine Gk.iconst X408 hx (hb hby at_353) (1 : Int32) rfl ?_
          refine Gk.istore X408 hx (hb hby at_354) #[.val (.int p1), .val (.int p2), .val (.int p3), .val (.int p4), .val (.ref b1), .val (.int (3 : Int32)), .val (.ref b6), .val (.ref b31), .val (.ref b55), .val (.ref b408), .val (.int (2 : Int32)), .val (.ref b23), .val (.ref b15), .val .null, .val (.int (1 : Int32)), .val (.int (1 : Int32))] rfl ?_
          refine Gk.iload X408 hx (hb hby at_356) rfl ?_
          refine Gk.iconst X408 hx (hb hby at_358) (1 : Int32) rfl ?_
          refine Gk.icmpNo X408 hx (hb hby at_359) (flt (by decide : ¬ ((2 : Int32) < (1 : Int32)))).1 ?_
          refine Gk.iload X408 hx (hb hby at_362) rfl ?_
          refine Gk.ifNo X408 hx (hb hby at_364) (feq (by decide : ¬ ((1 : Int32) = (0 : Int32)))).1 ?_
          refine Gk.aload X408 hx (hb hby at_367) rfl rfl ?_
          refine Gk.iload X408 hx (hb hby at_369) rfl ?_
          refine Gk.iconst X408 hx (hb hby at_371) (1 : Int32) rfl ?_
          refine Gk.isub X408 hx (hb hby at_372) (1 : Int32) (by decide) ?_
          refine Gk.aaload X408 hx hZ rfl A408 rfl ⟨by decide, by decide⟩ (.ref b23) rfl (hb hby at_373) ?_
          refine Gk.aload X408 hx (hb hby at_374) rfl rfl ?_
          refine Gk.acmp X408 hx (hb hby at_376) rfl rfl true (decide_eq_true rfl) 379 (by decide) (by decide) ?_
          refine Gk.iconst X408 hx (hb hby at_379) (1 : Int32) rfl ?_
          refine Gk.goto X408 hx (hb hby at_380) 384 (by decide) (by decide) ?_
          refine Gk.istore X408 hx (hb hby at_384) #[.val (.int p1), .val (.int p2), .val (.int p3), .val (.int p4), .val (.ref b1), .val (.int (3 : Int32)), .val (.ref b6), .val (.ref b31), .val (.ref b55), .val (.ref b408), .val (.int (2 : Int32)), .val (.ref b23), .val (.ref b15), .val .null, .val (.int (1 : Int32)), .val (.int (1 : Int32))] rfl ?_
          refine Gk.iload X408 hx (hb hby at_386) rfl ?_
          refine Gk.iconst X408 hx (hb hby at_388) (2 : Int32) rfl ?_
          refine Gk.icmpNo X408 hx (hb hby at_389) (flt (by decide : ¬ ((2 : Int32) < (2 : Int32)))).1 ?_
          refine Gk.iload X408 hx (hb hby at_392) rfl ?_
          refine Gk.ifNo X408 hx (hb hby at_394) (feq (by decide : ¬ ((1 : Int32) = (0 : Int32)))).1 ?_
          refine Gk.aload X408 hx (hb hby at_397) rfl rfl ?_
          refine Gk.iload X408 hx (hb hby at_399) rfl ?_
          refine Gk.iconst X408 hx (hb hby at_401) (2 : Int32) rfl ?_
          refine Gk.isub X408 hx (hb hby at_402) (0 : Int32) (by decide) ?_
          refine Gk.aaload X408 hx hZ rfl A408 rfl ⟨by decide, by decide⟩ (.ref b15) rfl (hb hby at_403) ?_
          refine Gk.aload X408 hx (hb hby at_404) rfl rfl ?_
          refine Gk.acmp X408 hx (hb hby at_406) rfl rfl true (decide_eq_true rfl) 409 (by decide) (by decide) ?_
          refine Gk.iconst X408 hx (hb hby at_409) (1 : Int32) rfl ?_
          refine Gk.goto X408 hx (hb hby at_410) 414 (by decide) (by decide) ?_
          refine Gk.istore X408 hx (hb hby at_414) #[.val (.int p1), .val (.int p2), .val (.int p3), .val (.int p4), .val (.ref b1), .val (.int (3 : Int32)), .val (.ref b6), .val (.ref b31), .val (.ref b55), .val (.ref b408), .val (.int (2 : Int32)), .val (.ref b23), .val (.ref b15), .val .null, .val (.int (1 : Int32)), .val (.int (1 : Int32))] rfl ?_
          refine Gk.iload X408 hx (hb hby at_416) rfl ?_
          refine Gk.iconst X408 hx (hb hby at_418) (3 : Int32) rfl ?_
          refine Gk.icmpYes X408 hx (hb hby at_419) (tlt (by decide : (2 : Int32) < (3 : Int32))).1 446 (by decide) (by decide) ?_
          refine Gk.iload X408 hx (hb hby at_446) rfl ?_
          refine Go.fin X408 (v := some (.int (1 : Int32))) (fun h_ => by rw [Bd.returns] at h_; cases h_) Bd.notSynchronized (fun _ hr => retN X408 hx (t := .boolean) Bd.returns (by simp) (hb hby at_448) hr) (fun U' hU hF => ⟨_, _, rfl, ?_, hF.1, hF.2.1, hF.2.2.mono (by decide) (by decide)⟩)
          exact ⟨(congrArg (fun z_ : Int32 => some (Value.int z_)) (show (1 : Int32) = (1 : Int32) from rfl)), N408⟩
        · subst hk_P1
          refine Gk.aload X257 hx (hb hby at_238) rfl rfl ?_
          refine Gk.iload X257 hx (hb hby at_240) rfl ?_
          have H424 := (H259.keep K257)
          have H425 := (((H219.keep K217).wr W247).keep K257)
          have H426 := (((((H169.keep K167).wr W207).keep K217).wr W247).keep K257)
          have H427 := (H252.keep K257)
          refine Gk.callV (argsL := [(.int (3 : Int32))]) X257 hx hZ hown (rm14_3210 l Z a0 hw [] b31 x_parents kx_parents (upd (upd (upd (upd (fun _ => (.int (0 : Int32))) 0 (.int (-1 : Int32))) 1 (.int (0 : Int32))) 2 (.int (1 : Int32))) 3 (.int (2 : Int32))) x_events kx_events (upd (upd (upd (upd (fun _ => .null) 0 .null) 1 (.ref b8)) 2 (.ref b15)) 3 (.ref b23)) b23 b15 b8 T257.heap n0 (Nat.le_trans Z0 (Nat.le_trans gr251 K257.1)) Va257_parents Va257_events Fa257_parents Fa257_events rfl rfl rfl rfl rfl rfl rfl H424 H425 H426) (hw _ (List.mem_of_getElem? (i := 116) rfl)) (hw _ (List.mem_of_getElem? (i := 117) rfl)) (notFace_of_selects (args := #[]) (mvT hZ (hw _ (List.mem_of_getElem? (i := 119) rfl)))) (hw _ (List.mem_of_getElem? (i := 119) rfl)) (hw _ (List.mem_of_getElem? (i := 118) rfl)) (by decide) (hw _ (List.mem_of_getElem? (i := 120) rfl)) (hw _ (List.mem_of_getElem? (i := 24) rfl)) rfl H427 pd_10 rfl rfl (by decide) (Nat.le_of_ble_eq_true rfl) (by decide) (by decide) (by rw [hml]; rfl)  rfl (hb hby at_242) ?_
          intro T423 L423 v423 X423 hQ423
          obtain ⟨rfl, N423q, K423, k423, A423⟩ := hQ423
          have N423 := Fr.app N257 N423q
          obtain ⟨b423, g423⟩ : ∃ z_, z_ = T257.heap.size := ⟨_, rfl⟩
          rw [← g423] at A423 ⊢
          have g_b423 : n0 ≤ b423 := Nat.le_trans (Nat.le_trans Z0 (Nat.le_trans gr251 K257.1)) (Nat.le_of_eq g423.symm)
          have lt_b423 := A423.lt
          show Go p e below (T423.setTop (mkF m 245 #[.val (.int p1), .val (.int p2), .val (.int p3), .val (.int p4), .val (.ref b1), .val (.int (3 : Int32)), .val (.ref b6), .val (.ref b31), .val (.ref b55), .unset, .unset, .unset, .unset, .unset, .unset, .unset] [(.ref b423)])) _
          refine Gk.astore X423 hx (hb hby at_245) rfl #[.val (.int p1), .val (.int p2), .val (.int p3), .val (.int p4), .val (.ref b1), .val (.int (3 : Int32)), .val (.ref b6), .val (.ref b31), .val (.ref b55), .val (.ref b423), .unset, .unset, .unset, .unset, .unset, .unset] rfl ?_
          refine Gk.iconst X423 hx (hb hby at_247) (0 : Int32) rfl ?_
          refine Gk.istore X423 hx (hb hby at_248) #[.val (.int p1), .val (.int p2), .val (.int p3), .val (.int p4), .val (.ref b1), .val (.int (3 : Int32)), .val (.ref b6), .val (.ref b31), .val (.ref b55), .val (.ref b423), .val (.int (0 : Int32)), .unset, .unset, .unset, .unset, .unset] rfl ?_
          refine Gk.aconstNull X423 hx (hb hby at_250) ?_
          refine Gk.astore X423 hx (hb hby at_251) rfl #[.val (.int p1), .val (.int p2), .val (.int p3), .val (.int p4), .val (.ref b1), .val (.int (3 : Int32)), .val (.ref b6), .val (.ref b31), .val (.ref b55), .val (.ref b423), .val (.int (0 : Int32)), .val .null, .unset, .unset, .unset, .unset] rfl ?_
          refine Gk.aconstNull X423 hx (hb hby at_253) ?_
          refine Gk.astore X423 hx (hb hby at_254) rfl #[.val (.int p1), .val (.int p2), .val (.int p3), .val (.int p4), .val (.ref b1), .val (.int (3 : Int32)), .val (.ref b6), .val (.ref b31), .val (.ref b55), .val (.ref b423), .val (.int (0 : Int32)), .val .null, .val .null, .unset, .unset, .unset] rfl ?_
          refine Gk.aconstNull X423 hx (hb hby at_256) ?_
          refine Gk.astore X423 hx (hb hby at_257) rfl #[.val (.int p1), .val (.int p2), .val (.int p3), .val (.int p4), .val (.ref b1), .val (.int (3 : Int32)), .val (.ref b6), .val (.ref b31), .val (.ref b55), .val (.ref b423), .val (.int (0 : Int32)), .val .null, .val .null, .val .null, .unset, .unset] rfl ?_
          refine Gk.iload X423 hx (hb hby at_259) rfl ?_
          refine Gk.istore X423 hx (hb hby at_261) #[.val (.int p1), .val (.int p2), .val (.int p3), .val (.int p4), .val (.ref b1), .val (.int (3 : Int32)), .val (.ref b6), .val (.ref b31), .val (.ref b55), .val (.ref b423), .val (.int (0 : Int32)), .val .null, .val .null, .val .null, .val (.int (3 : Int32)), .unset] rfl ?_
          refine Gk.aload X423 hx (hb hby at_263) rfl rfl ?_
          refine Gk.iload X423 hx (hb hby at_265) rfl ?_
          have H429 := ((H254.keep K257 ni150).keep K423 nin0)
          refine Gk.iaload X423 hx hZ rfl H429 ⟨by decide, by decide⟩ (.int (2 : Int32)) rfl (hb hby at_267) ?_
          refine Gk.ifNo X423 hx (hb hby at_268) (flt (by decide : ¬ ((2 : Int32) < (0 : Int32)))).1 ?_
          refine Gk.aload X423 hx (hb hby at_271) rfl rfl ?_
          refine Gk.iload X423 hx (hb hby at_273) rfl ?_
          have H431 := ((H256.keep K257 ni165).keep K423 nin0)
          refine Gk.aaload X423 hx hZ rfl H431 rfl ⟨by decide, by decide⟩ (.ref b23) rfl (hb hby at_275) ?_
          refine Gk.astore X423 hx (hb hby at_276) rfl #[.val (.int p1), .val (.int p2), .val (.int p3), .val (.int p4), .val (.ref b1), .val (.int (3 : Int32)), .val (.ref b6), .val (.ref b31), .val (.ref b55), .val (.ref b423), .val (.int (0 : Int32)), .val (.ref b23), .val .null, .val .null, .val (.int (3 : Int32)), .unset] rfl ?_
          refine Gk.iconst X423 hx (hb hby at_278) (1 : Int32) rfl ?_
          refine Gk.istore X423 hx (hb hby at_279) #[.val (.int p1), .val (.int p2), .val (.int p3), .val (.int p4), .val (.ref b1), .val (.int (3 : Int32)), .val (.ref b6), .val (.ref b31), .val (.ref b55), .val (.ref b423), .val (.int (1 : Int32)), .val (.ref b23), .val .null, .val .null, .val (.int (3 : Int32)), .unset] rfl ?_
          refine Gk.aload X423 hx (hb hby at_281) rfl rfl ?_
          refine Gk.iload X423 hx (hb hby at_283) rfl ?_
          refine Gk.iaload X423 hx hZ rfl H429 ⟨by decide, by decide⟩ (.int (2 : Int32)) rfl (hb hby at_285) ?_
          refine Gk.istore X423 hx (hb hby at_286) #[.val (.int p1), .val (.int p2), .val (.int p3), .val (.int p4), .val (.ref b1), .val (.int (3 : Int32)), .val (.ref b6), .val (.ref b31), .val (.ref b55), .val (.ref b423), .val (.int (1 : Int32)), .val (.ref b23), .val .null, .val .null, .val (.int (2 : Int32)), .unset] rfl ?_
          refine Gk.aload X423 hx (hb hby at_288) rfl rfl ?_
          refine Gk.iload X423 hx (hb hby at_290) rfl ?_
          refine Gk.iaload X423 hx hZ rfl H429 ⟨by decide, by decide⟩ (.int (1 : Int32)) rfl (hb hby at_292) ?_
          refine Gk.ifNo X423 hx (hb hby at_293) (flt (by decide : ¬ ((1 : Int32) < (0 : Int32)))).1 ?_
          refine Gk.aload X423 hx (hb hby at_296) rfl rfl ?_
          refine Gk.iload X423 hx (hb hby at_298) rfl ?_
          refine Gk.aaload X423 hx hZ rfl H431 rfl ⟨by decide, by decide⟩ (.ref b15) rfl (hb hby at_300) ?_
          refine Gk.astore X423 hx (hb hby at_301) rfl #[.val (.int p1), .val (.int p2), .val (.int p3), .val (.int p4), .val (.ref b1), .val (.int (3 : Int32)), .val (.ref b6), .val (.ref b31), .val (.ref b55), .val (.ref b423), .val (.int (1 : Int32)), .val (.ref b23), .val (.ref b15), .val .null, .val (.int (2 : Int32)), .unset] rfl ?_
          refine Gk.iconst X423 hx (hb hby at_303) (2 : Int32) rfl ?_
          refine Gk.istore X423 hx (hb hby at_304) #[.val (.int p1), .val (.int p2), .val (.int p3), .val (.int p4), .val (.ref b1), .val (.int (3 : Int32)), .val (.ref b6), .val (.ref b31), .val (.ref b55), .val (.ref b423), .val (.int (2 : Int32)), .val (.ref b23), .val (.ref b15), .val .null, .val (.int (2 : Int32)), .unset] rfl ?_
          refine Gk.aload X423 hx (hb hby at_306) rfl rfl ?_
          refine Gk.iload X423 hx (hb hby at_308) rfl ?_
          refine Gk.iaload X423 hx hZ rfl H429 ⟨by decide, by decide⟩ (.int (1 : Int32)) rfl (hb hby at_310) ?_
          refine Gk.istore X423 hx (hb hby at_311) #[.val (.int p1), .val (.int p2), .val (.int p3), .val (.int p4), .val (.ref b1), .val (.int (3 : Int32)), .val (.ref b6), .val (.ref b31), .val (.ref b55), .val (.ref b423), .val (.int (2 : Int32)), .val (.ref b23), .val (.ref b15), .val .null, .val (.int (1 : Int32)), .unset] rfl ?_
          refine Gk.aload X423 hx (hb hby at_313) rfl rfl ?_
          refine Gk.iload X423 hx (hb hby at_315) rfl ?_
          refine Gk.iaload X423 hx hZ rfl H429 ⟨by decide, by decide⟩ (.int (0 : Int32)) rfl (hb hby at_317) ?_
          refine Gk.ifNo X423 hx (hb hby at_318) (flt (by decide : ¬ ((0 : Int32) < (0 : Int32)))).1 ?_
          refine Gk.aload X423 hx (hb hby at_321) rfl rfl ?_
          refine Gk.iload X423 hx (hb hby at_323) rfl ?_
          refine Gk.aaload X423 hx hZ rfl H431 rfl ⟨by decide, by decide⟩ (.ref b8) rfl (hb hby at_325) ?_
          refine Gk.astore X423 hx (hb hby at_326) rfl #[.val (.int p1), .val (.int p2), .val (.int p3), .val (.int p4), .val (.ref b1), .val (.int (3 : Int32)), .val (.ref b6), .val (.ref b31), .val (.ref b55), .val (.ref b423), .val (.int (2 : Int32)), .val (.ref b23), .val (.ref b15), .val (.ref b8), .val (.int (1 : Int32)), .unset] rfl ?_
          refine Gk.iconst X423 hx (hb hby at_328) (3 : Int32) rfl ?_
          refine Gk.istore X423 hx (hb hby at_329) #[.val (.int p1), .val (.int p2), .val (.int p3), .val (.int p4), .val (.ref b1), .val (.int (3 : Int32)), .val (.ref b6), .val (.ref b31), .val (.ref b55), .val (.ref b423), .val (.int (3 : Int32)), .val (.ref b23), .val (.ref b15), .val (.ref b8), .val (.int (1 : Int32)), .unset] rfl ?_
          refine Gk.aload X423 hx (hb hby at_331) rfl rfl ?_
          refine Gk.iload X423 hx (hb hby at_333) rfl ?_
          refine Gk.iaload X423 hx hZ rfl H429 ⟨by decide, by decide⟩ (.int (0 : Int32)) rfl (hb hby at_335) ?_
          refine Gk.istore X423 hx (hb hby at_336) #[.val (.int p1), .val (.int p2), .val (.int p3), .val (.int p4), .val (.ref b1), .val (.int (3 : Int32)), .val (.ref b6), .val (.ref b31), .val (.ref b55), .val (.ref b423), .val (.int (3 : Int32)), .val (.ref b23), .val (.ref b15), .val (.ref b8), .val (.int (0 : Int32)), .unset] rfl ?_
          refine Gk.aload X423 hx (hb hby at_338) rfl rfl ?_
          refine Gk.ifnullNo X423 hx (hb hby at_340) ?_
          refine Gk.aload X423 hx (hb hby at_343) rfl rfl ?_
          refine Gk.alen X423 hx hZ rfl A423 (hb hby at_345) ?_
          refine Gk.iload X423 hx (hb hby at_346) rfl ?_
          refine Gk.icmpYes X423 hx (hb hby at_348) (teq (by decide : (3 : Int32) = (3 : Int32))).1 353 (by decide) (by decide) ?_
          refine Gk.iconst X423 hx (hb hby at_353) (1 : Int32) rfl ?_
          refine Gk.istore X423 hx (hb hby at_354) #[.val (.int p1), .val (.int p2), .val (.int p3), .val (.int p4), .val (.ref b1), .val (.int (3 : Int32)), .val (.ref b6), .val (.ref b31), .val (.ref b55), .val (.ref b423), .val (.int (3 : Int32)), .val (.ref b23), .val (.ref b15), .val (.ref b8), .val (.int (0 : Int32)), .val (.int (1 : Int32))] rfl ?_
          refine Gk.iload X423 hx (hb hby at_356) rfl ?_
          refine Gk.iconst X423 hx (hb hby at_358) (1 : Int32) rfl ?_
          refine Gk.icmpNo X423 hx (hb hby at_359) (flt (by decide : ¬ ((3 : Int32) < (1 : Int32)))).1 ?_
          refine Gk.iload X423 hx (hb hby at_362) rfl ?_
          refine Gk.ifNo X423 hx (hb hby at_364) (feq (by decide : ¬ ((1 : Int32) = (0 : Int32)))).1 ?_
          refine Gk.aload X423 hx (hb hby at_367) rfl rfl ?_
          refine Gk.iload X423 hx (hb hby at_369) rfl ?_
          refine Gk.iconst X423 hx (hb hby at_371) (1 : Int32) rfl ?_
          refine Gk.isub X423 hx (hb hby at_372) (2 : Int32) (by decide) ?_
          refine Gk.aaload X423 hx hZ rfl A423 rfl ⟨by decide, by decide⟩ (.ref b23) rfl (hb hby at_373) ?_
          refine Gk.aload X423 hx (hb hby at_374) rfl rfl ?_
          refine Gk.acmp X423 hx (hb hby at_376) rfl rfl true (decide_eq_true rfl) 379 (by decide) (by decide) ?_
          refine Gk.iconst X423 hx (hb hby at_379) (1 : Int32) rfl ?_
          refine Gk.goto X423 hx (hb hby at_380) 384 (by decide) (by decide) ?_
          refine Gk.istore X423 hx (hb hby at_384) #[.val (.int p1), .val (.int p2), .val (.int p3), .val (.int p4), .val (.ref b1), .val (.int (3 : Int32)), .val (.ref b6), .val (.ref b31), .val (.ref b55), .val (.ref b423), .val (.int (3 : Int32)), .val (.ref b23), .val (.ref b15), .val (.ref b8), .val (.int (0 : Int32)), .val (.int (1 : Int32))] rfl ?_
          refine Gk.iload X423 hx (hb hby at_386) rfl ?_
          refine Gk.iconst X423 hx (hb hby at_388) (2 : Int32) rfl ?_
          refine Gk.icmpNo X423 hx (hb hby at_389) (flt (by decide : ¬ ((3 : Int32) < (2 : Int32)))).1 ?_
          refine Gk.iload X423 hx (hb hby at_392) rfl ?_
          refine Gk.ifNo X423 hx (hb hby at_394) (feq (by decide : ¬ ((1 : Int32) = (0 : Int32)))).1 ?_
          refine Gk.aload X423 hx (hb hby at_397) rfl rfl ?_
          refine Gk.iload X423 hx (hb hby at_399) rfl ?_
          refine Gk.iconst X423 hx (hb hby at_401) (2 : Int32) rfl ?_
          refine Gk.isub X423 hx (hb hby at_402) (1 : Int32) (by decide) ?_
          refine Gk.aaload X423 hx hZ rfl A423 rfl ⟨by decide, by decide⟩ (.ref b15) rfl (hb hby at_403) ?_
          refine Gk.aload X423 hx (hb hby at_404) rfl rfl ?_
          refine Gk.acmp X423 hx (hb hby at_406) rfl rfl true (decide_eq_true rfl) 409 (by decide) (by decide) ?_
          refine Gk.iconst X423 hx (hb hby at_409) (1 : Int32) rfl ?_
          refine Gk.goto X423 hx (hb hby at_410) 414 (by decide) (by decide) ?_
          refine Gk.istore X423 hx (hb hby at_414) #[.val (.int p1), .val (.int p2), .val (.int p3), .val (.int p4), .val (.ref b1), .val (.int (3 : Int32)), .val (.ref b6), .val (.ref b31), .val (.ref b55), .val (.ref b423), .val (.int (3 : Int32)), .val (.ref b23), .val (.ref b15), .val (.ref b8), .val (.int (0 : Int32)), .val (.int (1 : Int32))] rfl ?_
          refine Gk.iload X423 hx (hb hby at_416) rfl ?_
          refine Gk.iconst X423 hx (hb hby at_418) (3 : Int32) rfl ?_
          refine Gk.icmpNo X423 hx (hb hby at_419) (flt (by decide : ¬ ((3 : Int32) < (3 : Int32)))).1 ?_
          refine Gk.iload X423 hx (hb hby at_422) rfl ?_
          refine Gk.ifNo X423 hx (hb hby at_424) (feq (by decide : ¬ ((1 : Int32) = (0 : Int32)))).1 ?_
          refine Gk.aload X423 hx (hb hby at_427) rfl rfl ?_
          refine Gk.iload X423 hx (hb hby at_429) rfl ?_
          refine Gk.iconst X423 hx (hb hby at_431) (3 : Int32) rfl ?_
          refine Gk.isub X423 hx (hb hby at_432) (0 : Int32) (by decide) ?_
          refine Gk.aaload X423 hx hZ rfl A423 rfl ⟨by decide, by decide⟩ (.ref b8) rfl (hb hby at_433) ?_
          refine Gk.aload X423 hx (hb hby at_434) rfl rfl ?_
          refine Gk.acmp X423 hx (hb hby at_436) rfl rfl true (decide_eq_true rfl) 439 (by decide) (by decide) ?_
          refine Gk.iconst X423 hx (hb hby at_439) (1 : Int32) rfl ?_
          refine Gk.goto X423 hx (hb hby at_440) 444 (by decide) (by decide) ?_
          refine Gk.istore X423 hx (hb hby at_444) #[.val (.int p1), .val (.int p2), .val (.int p3), .val (.int p4), .val (.ref b1), .val (.int (3 : Int32)), .val (.ref b6), .val (.ref b31), .val (.ref b55), .val (.ref b423), .val (.int (3 : Int32)), .val (.ref b23), .val (.ref b15), .val (.ref b8), .val (.int (0 : Int32)), .val (.int (1 : Int32))] rfl ?_
          refine Gk.iload X423 hx (hb hby at_446) rfl ?_
          refine Go.fin X423 (v := some (.int (1 : Int32))) (fun h_ => by rw [Bd.returns] at h_; cases h_) Bd.notSynchronized (fun _ hr => retN X423 hx (t := .boolean) Bd.returns (by simp) (hb hby at_448) hr) (fun U' hU hF => ⟨_, _, rfl, ?_, hF.1, hF.2.1, hF.2.2.mono (by decide) (by decide)⟩)
          exact ⟨(congrArg (fun z_ : Int32 => some (Value.int z_)) (show (1 : Int32) = (1 : Int32) from rfl)), N423⟩
set_option maxRecDepth 65536 in
set_option maxHeartbeats 40000000 in
theorem comes_1 {Post : Tables → Env → Array Value → State → Outcome → State → Prop} (hpost : ∀ tb e args s v u, (limb_1_1.after args s (.returned v) u = true ∧ limb_1_2.after args s (.returned v) u = true ∧ True) → FrameEnd s (.returned v) u (Jvm.fieldLocs frame_1_writes args s ++ Jvm.arrayLocs frame_1_arrays args s ++ Jvm.staticLocs frame_1_statics s) 56 576 → Post tb e args s (.returned v) u) :
    ArmFor flags0 classFile x code maxLocals ret World_1 tables_1 room_1 Calls_1 rest_1 Pre_1 Post := by
  intro l hfl _ _ p e ha hc hk s m args below hf hA hF happ hP
  obtain ⟨hcalls, hrest, hpre⟩ := hP
  obtain ⟨-, -, -, hnamed, -, -, -, hat⟩ := (Spec.applies_iff hf).mp happ
  obtain ⟨hg, hn⟩ := and_e (Cond.before_iff.mp (show (Jvm.Cond.and given_1 narrow_1).before args s = true from hpre))
  obtain ⟨g1, g2⟩ := and_e hg
  obtain ⟨g3, g4⟩ := and_e g2
  obtain ⟨g5, g6⟩ := and_e g4
  obtain ⟨g7, g8⟩ := and_e g6
  obtain ⟨w0, w1, w2, w3, rfl⟩ : ∃ w0 w1 w2 w3 : Value, args = #[w0, w1, w2, w3] := by
    have hs : args.size = 4 := by simpa [Cond.value, given_1] using g1
    obtain ⟨L⟩ := args
    match L, hs with
    | [w0, w1, w2, w3], _ => exact ⟨w0, w1, w2, w3, rfl⟩
  have hw := fun d (hd : d ∈ tables_1) => atoms_spec (ws := Jvm.Cond.code x code maxLocals ret :: tables_1) hat d (List.mem_cons_of_mem _ hd)
  have hfit : Fit s := fun {y c} hc i hi => by
    obtain ⟨ha, rfl⟩ := Array.getElem?_eq_some_iff.mp hc
    have q := List.all_eq_true.mp ((Array.all_eq_true_iff_forall_mem.mp hF) _ (Array.getElem_mem ha)) i (List.mem_range.mpr hi)
    simpa [Array.getElem?_eq_getElem hi] using q
  obtain ⟨i0, ei0⟩ := is_v g3
  obtain rfl : w0 = (.int i0) := Option.some.inj ei0
  obtain ⟨i1, ei1⟩ := is_v g5
  obtain rfl : w1 = (.int i1) := Option.some.inj ei1
  obtain ⟨i2, ei2⟩ := is_v g7
  obtain rfl : w2 = (.int i2) := Option.some.inj ei2
  obtain ⟨i3, ei3⟩ := is_v g8
  obtain rfl : w3 = (.int i3) := Option.some.inj ei3
  obtain ⟨n, o, h1, h2, h3, _, L, rfl, ⟨rfl, N⟩, hq⟩ := rm0 l s _ hw tables_1 i0 i1 i2 i3 s.heap s.heap.size (Nat.le_refl _) p e ha hc hk s m _ below hf ((Spec.applies_iff_loose hf).mp happ).1 ⟨rfl, State.Warmed39.refl s, rfl⟩ trivial
  refine ⟨n, _, h1, h2, h3, hpost _ _ _ _ _ _ ⟨Cond.after_iff.mpr rfl, Cond.after_iff.mpr (eq_i res_at (Term.int_eval (1)) rfl), trivial⟩ ⟨hq.1, hq.2.1, (hq.2.2.sift fun y hy => Or.inr (N y hy)).mono (by decide) (by decide)⟩⟩
theorem main_1_1 : Claimed_1_1 := comes_1 fun _ _ _ _ _ _ h hF => ⟨h.1, hF⟩
theorem main_1_2 : Claimed_1_2 := comes_1 fun _ _ _ _ _ _ h hF => ⟨h.2.1, hF⟩
end Jvm.Pilot.@@N@@
namespace Jvm.Pilot.@@N@@
open Jvm Jvm.ClassFile Sem Op Lib Jvm.Free Jvm.Stand Jvm.Pilot.@@N@@.Jvm.D
/-! MADE BY PROGRAM (witnessworld.py) out of the Statement's table words and the real class files: 19 classes; the members and pool entries that the words name. The judged class is class 1, her method 1. -/
namespace start1
open Jvm.ClassFile
def u (s : String) : CpInfo := .utf8 (stringToUtf16 s)
/-- a pool by its gaps: so many unusable entries, then the entry; so many at the end -/
def gap : Nat → List CpInfo → List CpInfo
  | 0, r => r
  | n + 1, r => .unusable :: gap n r
def poolList (es : List (Nat × CpInfo)) (last : Nat) : List CpInfo := es.foldr (fun e r => gap e.1 (e.2 :: r)) (gap last [])
def pool (es : List (Nat × CpInfo)) (last : Nat) : Array CpInfo := ⟨poolList es last⟩
def fileOf (pool : Array CpInfo) (this : Nat) (attrs : Array Attribute := #[]) (ms : Array MethodInfo := #[]) (fl : Nat := 33) (sup : Nat := 0) (ifs : Array Nat := #[]) (fds : Array FieldInfo := #[]) : ClassFile where
  minorVersion := 0
  majorVersion := 65
  constantPool := pool
  accessFlags := fl
  thisClass := this
  superClass := sup
  interfaces := ifs
  fields := fds
  methods := ms
  attributes := attrs
def plain (name : String) (sup : Option ClassId) : Class where
  name := name
  kind := .ordinary
  loader := none
  accessFlags := 33
  super := sup
  interfaces := #[]
  cf := none
  fields := #[]
  methods := #[]
  instanceTypes := #[]
  staticTypes := #[]
  resolved := #[]
  callSites := []
  init := .initialized
  statics := none
  mirror := none

def pool0 : Array CpInfo := pool [(5, u "<init>"), (0, u "()V"), (1, .class_ 10), (1, u "java/lang/Object")] 113

def k0c0 : Code := { maxStack := 0, maxLocals := 1, code := object_method_1_code, exceptionTable := #[], attributes := #[] }
def k0m0 : Method := { name := "<init>", desc := "()V", sig := { parameters := [], returnType := none }, accessFlags := 1, code := some k0c0 }
/-- java/lang/Object -/
def k0 : Class := { plain "java/lang/Object" none with
  accessFlags := 33
  interfaces := #[]
  cf := some (fileOf pool0 8 #[] #[{ accessFlags := 1, nameIndex := 5, descriptorIndex := 6, attributes := #[] }] 33 0 #[] #[])
  fields := #[]
  methods := #[k0m0]
  instanceTypes := #[]
  staticTypes := #[]
  resolved := Array.replicate 124 none
  statics := none }

def pool1 : Array CpInfo := pool [(2, .class_ 4), (1, u "java/lang/Object"), (0, u "<init>"), (0, u "()V"), (0, .integer 2147483647), (0, .class_ 9), (0, u "com/example/tracewarden/tracewarden/engine/SearchTuples$Event"), (0, .methodref 8 11), (0, .nameAndType 5 12), (0, u "(ILjava/util/Map;)V"), (0, .class_ 14), (0, u "com/example/tracewarden/tracewarden/engine/SearchTuples"), (0, .class_ 16), (0, u "com/example/tracewarden/tracewarden/engine/SearchBudget"), (0, .long 4), (1, .methodref 15 20), (0, .nameAndType 5 21), (0, u "(J)V"), (0, .methodref 13 23), (0, .nameAndType 5 24), (0, u "(IILcom/example/tracewarden/tracewarden/engine/SearchBudget;)V"), (0, .methodref 13 26), (0, .nameAndType 27 28), (0, u "hash"), (0, u "([I)I"), (0, .methodref 13 30), (0, .nameAndType 31 32), (0, u "add"), (0, u "([IILcom/example/tracewarden/tracewarden/engine/Zone;ILcom/example/tracewarden/tracewarden/engine/SearchTuples$Event;I)V"), (0, .methodref 13 34), (0, .nameAndType 35 36), (0, u "path"), (0, u "(I)[Lcom/example/tracewarden/tracewarden/engine/SearchTuples$Event;"), (0, .class_ 38), (0, u "com/example/tracewarden/tracewarden/engine/SearchTuplesPathPinLaw"), (2, u "law"), (0, u "(IIII)Z")] 9

def k1m0 : Method := { name := "<init>", desc := "()V", sig := { parameters := [], returnType := none }, accessFlags := 1, code := none }
def k1c1 : Code := { maxStack := 8, maxLocals := 16, code := code, exceptionTable := #[], attributes := #[] }
def k1m1 : Method := { name := "law", desc := "(IIII)Z", sig := { parameters := [.int, .int, .int, .int], returnType := some .boolean }, accessFlags := 9, code := some k1c1 }
/-- com/example/tracewarden/tracewarden/engine/SearchTuplesPathPinLaw -/
def k1 : Class := { plain "com/example/tracewarden/tracewarden/engine/SearchTuplesPathPinLaw" (some 0) with
  accessFlags := 49
  interfaces := #[]
  cf := some (fileOf pool1 37 #[] #[{ accessFlags := 1, nameIndex := 5, descriptorIndex := 6, attributes := #[] }, { accessFlags := 9, nameIndex := 41, descriptorIndex := 42, attributes := #[] }] 49 2 #[] #[])
  fields := #[]
  methods := #[k1m0, k1m1]
  instanceTypes := #[]
  staticTypes := #[]
  resolved := Array.replicate 52 none
  statics := none }

def pool2 : Array CpInfo := pool [(1, .methodref 2 3), (0, .class_ 4), (0, .nameAndType 5 6), (0, u "java/lang/Object"), (0, u "<init>"), (0, u "()V"), (0, .class_ 8), (0, u "java/lang/Record")] 13

def k2c0 : Code := { maxStack := 1, maxLocals := 1, code := jdk_30_method_1_code, exceptionTable := #[], attributes := #[] }
def k2m0 : Method := { name := "<init>", desc := "()V", sig := { parameters := [], returnType := none }, accessFlags := 4, code := some k2c0 }
/-- java/lang/Record -/
def k2 : Class := { plain "java/lang/Record" (some 0) with
  accessFlags := 1057
  interfaces := #[]
  cf := some (fileOf pool2 7 #[] #[{ accessFlags := 4, nameIndex := 5, descriptorIndex := 6, attributes := #[] }] 1057 2 #[] #[])
  fields := #[]
  methods := #[k2m0]
  instanceTypes := #[]
  staticTypes := #[]
  resolved := Array.replicate 22 none
  statics := none }

def pool3 : Array CpInfo := pool [(1, .methodref 2 3), (0, .class_ 4), (0, .nameAndType 5 6), (0, u "java/lang/Record"), (0, u "<init>"), (0, u "()V"), (0, .fieldref 8 9), (0, .class_ 10), (0, .nameAndType 11 12), (0, u "com/example/tracewarden/tracewarden/engine/SearchTuples$Event"), (0, u "activity"), (0, u "I"), (0, .fieldref 8 14), (0, .nameAndType 15 16), (0, u "data"), (0, u "Ljava/util/Map;"), (14, u "(ILjava/util/Map;)V"), (12, .class_ 45), (0, u "com/example/tracewarden/tracewarden/engine/SearchTuples")] 20

def k3c0 : Code := { maxStack := 2, maxLocals := 3, code := prog_87_method_1_code, exceptionTable := #[], attributes := #[] }
def k3m0 : Method := { name := "<init>", desc := "(ILjava/util/Map;)V", sig := { parameters := [.int, (.object "java/util/Map")], returnType := none }, accessFlags := 0, code := some k3c0 }
/-- com/example/tracewarden/tracewarden/engine/SearchTuples$Event -/
def k3 : Class := { plain "com/example/tracewarden/tracewarden/engine/SearchTuples$Event" (some 2) with
  accessFlags := 48
  interfaces := #[]
  cf := some (fileOf pool3 8 #[.nestHost 44] #[{ accessFlags := 0, nameIndex := 5, descriptorIndex := 31, attributes := #[] }] 48 2 #[] #[{ accessFlags := 18, nameIndex := 11, descriptorIndex := 12, attributes := #[] }, { accessFlags := 18, nameIndex := 15, descriptorIndex := 16, attributes := #[] }])
  fields := #[{ name := "activity", type := .int, accessFlags := 18, slot := 0, constantValue := 0 }, { name := "data", type := (.object "java/util/Map"), accessFlags := 18, slot := 1, constantValue := 0 }]
  methods := #[k3m0]
  instanceTypes := #[.int, (.object "java/util/Map")]
  staticTypes := #[]
  resolved := Array.replicate 66 none
  statics := none }

def pool4 : Array CpInfo := pool [(1, .methodref 2 3), (0, .class_ 4), (0, .nameAndType 5 6), (0, u "java/lang/Object"), (0, u "<init>"), (0, u "()V"), (0, .fieldref 8 9), (0, .class_ 10), (0, .nameAndType 11 12), (0, u "com/example/tracewarden/tracewarden/engine/SearchTuples"), (0, u "states"), (0, u "[I"), (0, .fieldref 8 14), (0, .nameAndType 15 12), (0, u "hashes"), (0, .class_ 17), (0, u "com/example/tracewarden/tracewarden/engine/Zone"), (0, .fieldref 8 19), (0, .nameAndType 20 21), (0, u "zones"), (0, u "[Lcom/example/tracewarden/tracewarden/engine/Zone;"), (0, .fieldref 8 23), (0, .nameAndType 24 12), (0, u "sameStates"), (0, .fieldref 8 26), (0, .nameAndType 27 28), (0, u "held"), (0, u "[Z"), (0, .fieldref 8 30), (0, .nameAndType 31 12), (0, u "parents"), (0, .class_ 33), (0, u "com/example/tracewarden/tracewarden/engine/SearchTuples$Event"), (0, .fieldref 8 35), (0, .nameAndType 36 37), (0, u "events"), (0, u "[Lcom/example/tracewarden/tracewarden/engine/SearchTuples$Event;"), (0, .fieldref 8 39), (0, .nameAndType 40 12), (0, u "ranks"), (0, .fieldref 8 42), (0, .nameAndType 43 12), (0, u "slots"), (0, .fieldref 8 45), (0, .nameAndType 46 47), (0, u "budget"), (0, u "Lcom/example/tracewarden/tracewarden/engine/SearchBudget;"), (0, .fieldref 8 49), (0, .nameAndType 50 51), (0, u "width"), (0, u "I"), (0, .class_ 53), (0, u "[[I"), (0, .fieldref 8 55), (0, .nameAndType 56 53), (0, u "ranked"), (0, .fieldref 8 58), (0, .nameAndType 59 12), (0, u "reached"), (0, .fieldref 8 61), (0, .nameAndType 62 12), (0, u "taken"), (2, u "latestFirst"), (0, u "Z"), (10, .fieldref 8 78), (0, .nameAndType 79 51), (0, u "size"), (3, .fieldref 8 84), (0, .nameAndType 85 51), (0, u "lowest"), (0, .methodref 87 88), (0, .class_ 89), (0, .nameAndType 90 91), (0, u "java/lang/System"), (0, u "arraycopy"), (0, u "(Ljava/lang/Object;ILjava/lang/Object;II)V"), (0, .methodref 8 93), (0, .nameAndType 94 95), (0, u "hash"), (0, u "([III)I"), (0, .methodref 8 97), (0, .nameAndType 98 99), (0, u "code"), (0, u "(II)I"), (2, u "NONE"), (4, .methodref 8 108), (0, .nameAndType 109 110), (0, u "latest"), (0, u "([II)I"), (6, u "([I)I"), (0, .methodref 8 119), (0, .nameAndType 120 121), (0, u "passOver"), (0, u "(ILcom/example/tracewarden/tracewarden/engine/Zone;)V"), (0, .methodref 123 124), (0, .class_ 125), (0, .nameAndType 126 6), (0, u "com/example/tracewarden/tracewarden/engine/SearchBudget"), (0, u "step"), (9, .class_ 138), (1, u "java/lang/Math"), (1, .methodref 136 141), (0, .nameAndType 142 99), (0, u "min"), (7, .long 4294967295), (1, .long 11400714819323198485), (1, u "SETTLED"), (2, u "VIOLATED"), (1, u "MOST_CLEARED_SLOTS"), (1, u "(IILcom/example/tracewarden/tracewarden/engine/SearchBudget;)V"), (20, u "add"), (0, u "([IILcom/example/tracewarden/tracewarden/engine/Zone;ILcom/example/tracewarden/tracewarden/engine/SearchTuples$Event;I)V"), (1, u "path"), (0, u "(I)[Lcom/example/tracewarden/tracewarden/engine/SearchTuples$Event;")] 6

def k4c0 : Code := { maxStack := 3, maxLocals := 4, code := prog_86_method_1_code, exceptionTable := #[], attributes := #[] }
def k4m0 : Method := { name := "<init>", desc := "(IILcom/example/tracewarden/tracewarden/engine/SearchBudget;)V", sig := { parameters := [.int, .int, (.object "com/example/tracewarden/tracewarden/engine/SearchBudget")], returnType := none }, accessFlags := 0, code := some k4c0 }
def k4c1 : Code := { maxStack := 3, maxLocals := 2, code := prog_86_method_7_code, exceptionTable := #[], attributes := #[] }
def k4m1 : Method := { name := "hash", desc := "([I)I", sig := { parameters := [(.array .int)], returnType := some .int }, accessFlags := 0, code := some k4c1 }
def k4c2 : Code := { maxStack := 6, maxLocals := 4, code := prog_86_method_15_code, exceptionTable := #[], attributes := #[] }
def k4m2 : Method := { name := "passOver", desc := "(ILcom/example/tracewarden/tracewarden/engine/Zone;)V", sig := { parameters := [.int, (.object "com/example/tracewarden/tracewarden/engine/Zone")], returnType := none }, accessFlags := 2, code := some k4c2 }
def k4c3 : Code := { maxStack := 6, maxLocals := 10, code := prog_86_method_16_code, exceptionTable := #[], attributes := #[] }
def k4m3 : Method := { name := "add", desc := "([IILcom/example/tracewarden/tracewarden/engine/Zone;ILcom/example/tracewarden/tracewarden/engine/SearchTuples$Event;I)V", sig := { parameters := [(.array .int), .int, (.object "com/example/tracewarden/tracewarden/engine/Zone"), .int, (.object "com/example/tracewarden/tracewarden/engine/SearchTuples$Event"), .int], returnType := none }, accessFlags := 0, code := some k4c3 }
def k4c4 : Code := { maxStack := 6, maxLocals := 6, code := prog_86_method_18_code, exceptionTable := #[], attributes := #[] }
def k4m4 : Method := { name := "latest", desc := "([II)I", sig := { parameters := [(.array .int), .int], returnType := some .int }, accessFlags := 2, code := some k4c4 }
def k4c5 : Code := { maxStack := 5, maxLocals := 5, code := prog_86_method_20_code, exceptionTable := #[], attributes := #[] }
def k4m5 : Method := { name := "hash", desc := "([III)I", sig := { parameters := [(.array .int), .int, .int], returnType := some .int }, accessFlags := 10, code := some k4c5 }
def k4c6 : Code := { maxStack := 6, maxLocals := 4, code := prog_86_method_21_code, exceptionTable := #[], attributes := #[] }
def k4m6 : Method := { name := "code", desc := "(II)I", sig := { parameters := [.int, .int], returnType := some .int }, accessFlags := 10, code := some k4c6 }
def k4c7 : Code := { maxStack := 4, maxLocals := 6, code := prog_86_method_22_code, exceptionTable := #[], attributes := #[] }
def k4m7 : Method := { name := "path", desc := "(I)[Lcom/example/tracewarden/tracewarden/engine/SearchTuples$Event;", sig := { parameters := [.int], returnType := some (.array (.object "com/example/tracewarden/tracewarden/engine/SearchTuples$Event")) }, accessFlags := 0, code := some k4c7 }
/-- com/example/tracewarden/tracewarden/engine/SearchTuples -/
def k4 : Class := { plain "com/example/tracewarden/tracewarden/engine/SearchTuples" (some 0) with
  accessFlags := 48
  interfaces := #[]
  cf := some (fileOf pool4 8 #[.nestMembers #[32]] #[{ accessFlags := 0, nameIndex := 5, descriptorIndex := 161, attributes := #[] }, { accessFlags := 0, nameIndex := 94, descriptorIndex := 117, attributes := #[] }, { accessFlags := 2, nameIndex := 120, descriptorIndex := 121, attributes := #[] }, { accessFlags := 0, nameIndex := 182, descriptorIndex := 183, attributes := #[] }, { accessFlags := 2, nameIndex := 109, descriptorIndex := 110, attributes := #[] }, { accessFlags := 10, nameIndex := 94, descriptorIndex := 95, attributes := #[] }, { accessFlags := 10, nameIndex := 98, descriptorIndex := 99, attributes := #[] }, { accessFlags := 0, nameIndex := 185, descriptorIndex := 186, attributes := #[] }] 48 2 #[] #[{ accessFlags := 24, nameIndex := 154, descriptorIndex := 51, attributes := #[] }, { accessFlags := 24, nameIndex := 157, descriptorIndex := 51, attributes := #[] }, { accessFlags := 26, nameIndex := 159, descriptorIndex := 51, attributes := #[] }, { accessFlags := 26, nameIndex := 102, descriptorIndex := 12, attributes := #[] }, { accessFlags := 18, nameIndex := 46, descriptorIndex := 47, attributes := #[] }, { accessFlags := 2, nameIndex := 50, descriptorIndex := 51, attributes := #[] }, { accessFlags := 2, nameIndex := 11, descriptorIndex := 12, attributes := #[] }, { accessFlags := 2, nameIndex := 15, descriptorIndex := 12, attributes := #[] }, { accessFlags := 2, nameIndex := 20, descriptorIndex := 21, attributes := #[] }, { accessFlags := 2, nameIndex := 24, descriptorIndex := 12, attributes := #[] }, { accessFlags := 2, nameIndex := 27, descriptorIndex := 28, attributes := #[] }, { accessFlags := 2, nameIndex := 31, descriptorIndex := 12, attributes := #[] }, { accessFlags := 2, nameIndex := 36, descriptorIndex := 37, attributes := #[] }, { accessFlags := 2, nameIndex := 40, descriptorIndex := 12, attributes := #[] }, { accessFlags := 2, nameIndex := 79, descriptorIndex := 51, attributes := #[] }, { accessFlags := 2, nameIndex := 43, descriptorIndex := 12, attributes := #[] }, { accessFlags := 2, nameIndex := 56, descriptorIndex := 53, attributes := #[] }, { accessFlags := 2, nameIndex := 59, descriptorIndex := 12, attributes := #[] }, { accessFlags := 2, nameIndex := 62, descriptorIndex := 12, attributes := #[] }, { accessFlags := 2, nameIndex := 85, descriptorIndex := 51, attributes := #[] }, { accessFlags := 2, nameIndex := 65, descriptorIndex := 66, attributes := #[] }])
  fields := #[{ name := "SETTLED", type := .int, accessFlags := 24, slot := 0, constantValue := 0 }, { name := "VIOLATED", type := .int, accessFlags := 24, slot := 1, constantValue := 0 }, { name := "MOST_CLEARED_SLOTS", type := .int, accessFlags := 26, slot := 2, constantValue := 0 }, { name := "NONE", type := (.array .int), accessFlags := 26, slot := 3, constantValue := 0 }, { name := "budget", type := (.object "com/example/tracewarden/tracewarden/engine/SearchBudget"), accessFlags := 18, slot := 0, constantValue := 0 }, { name := "width", type := .int, accessFlags := 2, slot := 1, constantValue := 0 }, { name := "states", type := (.array .int), accessFlags := 2, slot := 2, constantValue := 0 }, { name := "hashes", type := (.array .int), accessFlags := 2, slot := 3, constantValue := 0 }, { name := "zones", type := (.array (.object "com/example/tracewarden/tracewarden/engine/Zone")), accessFlags := 2, slot := 4, constantValue := 0 }, { name := "sameStates", type := (.array .int), accessFlags := 2, slot := 5, constantValue := 0 }, { name := "held", type := (.array .boolean), accessFlags := 2, slot := 6, constantValue := 0 }, { name := "parents", type := (.array .int), accessFlags := 2, slot := 7, constantValue := 0 }, { name := "events", type := (.array (.object "com/example/tracewarden/tracewarden/engine/SearchTuples$Event")), accessFlags := 2, slot := 8, constantValue := 0 }, { name := "ranks", type := (.array .int), accessFlags := 2, slot := 9, constantValue := 0 }, { name := "size", type := .int, accessFlags := 2, slot := 10, constantValue := 0 }, { name := "slots", type := (.array .int), accessFlags := 2, slot := 11, constantValue := 0 }, { name := "ranked", type := (.array (.array .int)), accessFlags := 2, slot := 12, constantValue := 0 }, { name := "reached", type := (.array .int), accessFlags := 2, slot := 13, constantValue := 0 }, { name := "taken", type := (.array .int), accessFlags := 2, slot := 14, constantValue := 0 }, { name := "lowest", type := .int, accessFlags := 2, slot := 15, constantValue := 0 }, { name := "latestFirst", type := .boolean, accessFlags := 2, slot := 16, constantValue := 0 }]
  methods := #[k4m0, k4m1, k4m2, k4m3, k4m4, k4m5, k4m6, k4m7]
  instanceTypes := #[(.object "com/example/tracewarden/tracewarden/engine/SearchBudget"), .int, (.array .int), (.array .int), (.array (.object "com/example/tracewarden/tracewarden/engine/Zone")), (.array .int), (.array .boolean), (.array .int), (.array (.object "com/example/tracewarden/tracewarden/engine/SearchTuples$Event")), (.array .int), .int, (.array .int), (.array (.array .int)), (.array .int), (.array .int), .int, .boolean]
  staticTypes := #[.int, .int, .int, (.array .int)]
  resolved := Array.replicate 193 none
  statics := none }

def pool5 : Array CpInfo := pool [(1, .methodref 2 3), (0, .class_ 4), (0, .nameAndType 5 6), (0, u "java/lang/Object"), (0, u "<init>"), (0, u "()V"), (9, .fieldref 17 18), (0, .class_ 19), (0, .nameAndType 20 21), (0, u "com/example/tracewarden/tracewarden/engine/SearchBudget"), (0, u "left"), (0, u "J"), (0, .class_ 23), (0, u "com/example/tracewarden/tracewarden/engine/SearchBudget$Spent"), (1, u "(J)V"), (3, u "step")] 19

def k5c0 : Code := { maxStack := 4, maxLocals := 3, code := prog_84_method_1_code, exceptionTable := #[], attributes := #[] }
def k5m0 : Method := { name := "<init>", desc := "(J)V", sig := { parameters := [.long], returnType := none }, accessFlags := 0, code := some k5c0 }
def k5c1 : Code := { maxStack := 5, maxLocals := 1, code := prog_84_method_2_code, exceptionTable := #[], attributes := #[] }
def k5m1 : Method := { name := "step", desc := "()V", sig := { parameters := [], returnType := none }, accessFlags := 0, code := some k5c1 }
/-- com/example/tracewarden/tracewarden/engine/SearchBudget -/
def k5 : Class := { plain "com/example/tracewarden/tracewarden/engine/SearchBudget" (some 0) with
  accessFlags := 48
  interfaces := #[]
  cf := some (fileOf pool5 17 #[.nestMembers #[22]] #[{ accessFlags := 0, nameIndex := 5, descriptorIndex := 25, attributes := #[] }, { accessFlags := 0, nameIndex := 29, descriptorIndex := 6, attributes := #[] }] 48 2 #[] #[{ accessFlags := 2, nameIndex := 20, descriptorIndex := 21, attributes := #[] }])
  fields := #[{ name := "left", type := .long, accessFlags := 2, slot := 0, constantValue := 0 }]
  methods := #[k5m0, k5m1]
  instanceTypes := #[.long]
  staticTypes := #[]
  resolved := Array.replicate 49 none
  statics := none }

def pool6 : Array CpInfo := pool [(4, .class_ 6), (1, u "java/lang/Object"), (3, .class_ 12), (1, u "com/example/tracewarden/tracewarden/engine/Zone"), (0, u "size"), (0, u "I"), (2, u "bounds"), (0, u "[J"), (36, u "UNBOUNDED"), (0, u "J"), (1, u "NEW")] 27

/-- com/example/tracewarden/tracewarden/engine/Zone -/
def k6 : Class := { plain "com/example/tracewarden/tracewarden/engine/Zone" (some 0) with
  accessFlags := 48
  interfaces := #[]
  cf := some (fileOf pool6 10 #[] #[] 48 4 #[] #[{ accessFlags := 26, nameIndex := 55, descriptorIndex := 56, attributes := #[] }, { accessFlags := 24, nameIndex := 58, descriptorIndex := 14, attributes := #[] }, { accessFlags := 18, nameIndex := 13, descriptorIndex := 14, attributes := #[] }, { accessFlags := 18, nameIndex := 17, descriptorIndex := 18, attributes := #[] }])
  fields := #[{ name := "UNBOUNDED", type := .long, accessFlags := 26, slot := 0, constantValue := 0 }, { name := "NEW", type := .int, accessFlags := 24, slot := 1, constantValue := 0 }, { name := "size", type := .int, accessFlags := 18, slot := 0, constantValue := 0 }, { name := "bounds", type := (.array .long), accessFlags := 18, slot := 1, constantValue := 0 }]
  methods := #[]
  instanceTypes := #[.int, (.array .long)]
  staticTypes := #[.long, .int]
  resolved := Array.replicate 86 none
  statics := none }

def pool7 : Array CpInfo := pool [(2, .class_ 4), (1, u "java/lang/Object"), (0, u "<init>"), (0, u "()V"), (1, .class_ 10), (1, u "java/lang/System"), (0, u "allowSecurityManager"), (0, u "I"), (16, u "cons"), (0, u "Ljava/io/Console;"), (77, .class_ 110), (1, u "java/lang/System$CallersHolder"), (43, u "initialErrStream"), (0, u "Ljava/io/PrintStream;"), (19, u "security"), (0, u "Ljava/lang/SecurityManager;"), (31, .class_ 209), (0, u "java/lang/System$1"), (7, u "props"), (0, u "Ljava/util/Properties;"), (2, u "lineSeparator"), (0, u "Ljava/lang/String;"), (96, .class_ 321), (1, u "java/lang/System$LoggerFinder"), (5, .class_ 328), (0, u "java/lang/System$Logger"), (67, u "err"), (2, u "out"), (91, u "notSupportedJnuEncoding"), (15, u "in"), (17, u "initialIn"), (0, u "Ljava/io/InputStream;"), (35, u "bootLayer"), (0, u "Ljava/lang/ModuleLayer;"), (99, .class_ 664), (0, u "java/lang/System$2"), (9, u "NEVER"), (2, u "MAYBE"), (49, u "arraycopy"), (0, u "(Ljava/lang/Object;ILjava/lang/Object;II)V"), (72, .class_ 802), (0, u "java/lang/System$Logger$Level")] 31

def k7m0 : Method := { name := "<init>", desc := "()V", sig := { parameters := [], returnType := none }, accessFlags := 2, code := none }
def k7m1 : Method := { name := "arraycopy", desc := "(Ljava/lang/Object;ILjava/lang/Object;II)V", sig := { parameters := [(.object "java/lang/Object"), .int, (.object "java/lang/Object"), .int, .int], returnType := none }, accessFlags := 265, code := none }
/-- java/lang/System -/
def k7 : Class := { plain "java/lang/System" (some 0) with
  accessFlags := 49
  interfaces := #[]
  cf := some (fileOf pool7 8 #[.nestMembers #[319, 327, 801, 108, 663, 208]] #[{ accessFlags := 2, nameIndex := 5, descriptorIndex := 6, attributes := #[] }, { accessFlags := 265, nameIndex := 727, descriptorIndex := 728, attributes := #[] }] 49 2 #[] #[{ accessFlags := 25, nameIndex := 507, descriptorIndex := 526, attributes := #[] }, { accessFlags := 25, nameIndex := 399, descriptorIndex := 155, attributes := #[] }, { accessFlags := 25, nameIndex := 396, descriptorIndex := 155, attributes := #[] }, { accessFlags := 10, nameIndex := 525, descriptorIndex := 526, attributes := #[] }, { accessFlags := 26, nameIndex := 674, descriptorIndex := 12, attributes := #[] }, { accessFlags := 26, nameIndex := 677, descriptorIndex := 12, attributes := #[] }, { accessFlags := 10, nameIndex := 11, descriptorIndex := 12, attributes := #[] }, { accessFlags := 74, nameIndex := 175, descriptorIndex := 176, attributes := #[] }, { accessFlags := 10, nameIndex := 491, descriptorIndex := 222, attributes := #[] }, { accessFlags := 74, nameIndex := 29, descriptorIndex := 30, attributes := #[] }, { accessFlags := 74, nameIndex := 154, descriptorIndex := 155, attributes := #[] }, { accessFlags := 10, nameIndex := 217, descriptorIndex := 218, attributes := #[] }, { accessFlags := 10, nameIndex := 221, descriptorIndex := 222, attributes := #[] }, { accessFlags := 8, nameIndex := 562, descriptorIndex := 563, attributes := #[] }])
  fields := #[{ name := "in", type := (.object "java/io/InputStream"), accessFlags := 25, slot := 0, constantValue := 0 }, { name := "out", type := (.object "java/io/PrintStream"), accessFlags := 25, slot := 1, constantValue := 0 }, { name := "err", type := (.object "java/io/PrintStream"), accessFlags := 25, slot := 2, constantValue := 0 }, { name := "initialIn", type := (.object "java/io/InputStream"), accessFlags := 10, slot := 3, constantValue := 0 }, { name := "NEVER", type := .int, accessFlags := 26, slot := 4, constantValue := 0 }, { name := "MAYBE", type := .int, accessFlags := 26, slot := 5, constantValue := 0 }, { name := "allowSecurityManager", type := .int, accessFlags := 10, slot := 6, constantValue := 0 }, { name := "security", type := (.object "java/lang/SecurityManager"), accessFlags := 74, slot := 7, constantValue := 0 }, { name := "notSupportedJnuEncoding", type := (.object "java/lang/String"), accessFlags := 10, slot := 8, constantValue := 0 }, { name := "cons", type := (.object "java/io/Console"), accessFlags := 74, slot := 9, constantValue := 0 }, { name := "initialErrStream", type := (.object "java/io/PrintStream"), accessFlags := 74, slot := 10, constantValue := 0 }, { name := "props", type := (.object "java/util/Properties"), accessFlags := 10, slot := 11, constantValue := 0 }, { name := "lineSeparator", type := (.object "java/lang/String"), accessFlags := 10, slot := 12, constantValue := 0 }, { name := "bootLayer", type := (.object "java/lang/ModuleLayer"), accessFlags := 8, slot := 13, constantValue := 0 }]
  methods := #[k7m0, k7m1]
  instanceTypes := #[]
  staticTypes := #[(.object "java/io/InputStream"), (.object "java/io/PrintStream"), (.object "java/io/PrintStream"), (.object "java/io/InputStream"), .int, .int, .int, (.object "java/lang/SecurityManager"), (.object "java/lang/String"), (.object "java/io/Console"), (.object "java/io/PrintStream"), (.object "java/util/Properties"), (.object "java/lang/String"), (.object "java/lang/ModuleLayer")]
  resolved := Array.replicate 834 none
  statics := none }

def pool8 : Array CpInfo := pool [(1, .class_ 2), (0, u "java/lang/Math"), (1, .class_ 6), (1, u "java/lang/Object"), (0, u "<init>"), (0, u "()V"), (89, .class_ 100), (1, u "java/lang/Math$RandomNumberGeneratorHolder"), (71, u "negativeZeroFloatBits"), (0, u "J"), (2, u "negativeZeroDoubleBits"), (24, u "min"), (43, u "$assertionsDisabled"), (0, u "Z"), (88, u "(II)I"), (2, u "twoToTheDoubleScaleDown"), (0, u "D"), (4, u "twoToTheDoubleScaleUp"), (9, u "E"), (3, u "PI"), (2, u "TAU"), (2, u "DEGREES_TO_RADIANS"), (0, u "RADIANS_TO_DEGREES")] 94

def k8m0 : Method := { name := "<init>", desc := "()V", sig := { parameters := [], returnType := none }, accessFlags := 2, code := none }
def k8c1 : Code := { maxStack := 2, maxLocals := 2, code := jdk_29_method_69_code, exceptionTable := #[], attributes := #[] }
def k8m1 : Method := { name := "min", desc := "(II)I", sig := { parameters := [.int, .int], returnType := some .int }, accessFlags := 9, code := some k8c1 }
/-- java/lang/Math -/
def k8 : Class := { plain "java/lang/Math" (some 0) with
  accessFlags := 49
  interfaces := #[]
  cf := some (fileOf pool8 1 #[.nestMembers #[98]] #[{ accessFlags := 2, nameIndex := 7, descriptorIndex := 8, attributes := #[] }, { accessFlags := 9, nameIndex := 201, descriptorIndex := 335, attributes := #[] }] 49 4 #[] #[{ accessFlags := 25, nameIndex := 354, descriptorIndex := 339, attributes := #[] }, { accessFlags := 25, nameIndex := 358, descriptorIndex := 339, attributes := #[] }, { accessFlags := 25, nameIndex := 361, descriptorIndex := 339, attributes := #[] }, { accessFlags := 26, nameIndex := 364, descriptorIndex := 339, attributes := #[] }, { accessFlags := 26, nameIndex := 365, descriptorIndex := 339, attributes := #[] }, { accessFlags := 26, nameIndex := 172, descriptorIndex := 173, attributes := #[] }, { accessFlags := 26, nameIndex := 176, descriptorIndex := 173, attributes := #[] }, { accessFlags := 8, nameIndex := 344, descriptorIndex := 339, attributes := #[] }, { accessFlags := 8, nameIndex := 338, descriptorIndex := 339, attributes := #[] }, { accessFlags := 4120, nameIndex := 245, descriptorIndex := 246, attributes := #[] }])
  fields := #[{ name := "E", type := .double, accessFlags := 25, slot := 0, constantValue := 0 }, { name := "PI", type := .double, accessFlags := 25, slot := 1, constantValue := 0 }, { name := "TAU", type := .double, accessFlags := 25, slot := 2, constantValue := 0 }, { name := "DEGREES_TO_RADIANS", type := .double, accessFlags := 26, slot := 3, constantValue := 0 }, { name := "RADIANS_TO_DEGREES", type := .double, accessFlags := 26, slot := 4, constantValue := 0 }, { name := "negativeZeroFloatBits", type := .long, accessFlags := 26, slot := 5, constantValue := 0 }, { name := "negativeZeroDoubleBits", type := .long, accessFlags := 26, slot := 6, constantValue := 0 }, { name := "twoToTheDoubleScaleUp", type := .double, accessFlags := 8, slot := 7, constantValue := 0 }, { name := "twoToTheDoubleScaleDown", type := .double, accessFlags := 8, slot := 8, constantValue := 0 }, { name := "$assertionsDisabled", type := .boolean, accessFlags := 4120, slot := 9, constantValue := 0 }]
  methods := #[k8m0, k8m1]
  instanceTypes := #[]
  staticTypes := #[.double, .double, .double, .double, .double, .long, .long, .double, .double, .boolean]
  resolved := Array.replicate 460 none
  statics := none }

def pool9 : Array CpInfo := pool [(1, u "java/lang/Cloneable"), (0, .class_ 1), (0, u "java/lang/Object"), (0, .class_ 3)] 3

/-- java/lang/Cloneable -/
def k9 : Class := { plain "java/lang/Cloneable" (some 0) with
  accessFlags := 1537
  interfaces := #[]
  cf := some (fileOf pool9 2 #[] #[] 1537 4 #[] #[])
  fields := #[]
  methods := #[]
  instanceTypes := #[]
  staticTypes := #[]
  resolved := Array.replicate 8 none
  statics := none }

def pool10 : Array CpInfo := pool [(1, u "java/io/Serializable"), (0, .class_ 1), (0, u "java/lang/Object"), (0, .class_ 3)] 3

/-- java/io/Serializable -/
def k10 : Class := { plain "java/io/Serializable" (some 0) with
  accessFlags := 1537
  interfaces := #[]
  cf := some (fileOf pool10 2 #[] #[] 1537 4 #[] #[])
  fields := #[]
  methods := #[]
  instanceTypes := #[]
  staticTypes := #[]
  resolved := Array.replicate 8 none
  statics := none }

/-- the primitive boolean -/
def k11 : Class := { plain "boolean" none with kind := .primitive 'Z', accessFlags := 0x411 }
/-- [Z -/
def k12 : Class := { plain "[Z" (some 0) with kind := .array 11 .boolean, interfaces := #[9, 10], accessFlags := 1041 }

/-- the primitive byte -/
def k13 : Class := { plain "byte" none with kind := .primitive 'B', accessFlags := 0x411 }
/-- [B -/
def k14 : Class := { plain "[B" (some 0) with kind := .array 13 .byte, interfaces := #[9, 10], accessFlags := 1041 }

/-- the primitive int -/
def k15 : Class := { plain "int" none with kind := .primitive 'I', accessFlags := 0x411 }
/-- [I -/
def k16 : Class := { plain "[I" (some 0) with kind := .array 15 .int, interfaces := #[9, 10], accessFlags := 1041 }

/-- [Lcom/example/tracewarden/tracewarden/engine/SearchTuples$Event; -/
def k17 : Class := { plain "[Lcom/example/tracewarden/tracewarden/engine/SearchTuples$Event;" (some 0) with kind := .array 3 (.object "com/example/tracewarden/tracewarden/engine/SearchTuples$Event"), interfaces := #[9, 10], accessFlags := 1041 }

/-- [Lcom/example/tracewarden/tracewarden/engine/Zone; -/
def k18 : Class := { plain "[Lcom/example/tracewarden/tracewarden/engine/Zone;" (some 0) with kind := .array 6 (.object "com/example/tracewarden/tracewarden/engine/Zone"), interfaces := #[9, 10], accessFlags := 1041 }

/-- [[I -/
def k19 : Class := { plain "[[I" (some 0) with kind := .array 16 (.array .int), interfaces := #[9, 10], accessFlags := 1041 }

def heap : Heap := #[]
def classes : Array Class := #[k0, k1, k2, k3, k4, k5, k6, k7, k8, k9, k10, k11, k12, k13, k14, k15, k16, k17, k18, k19]
def interned : List (Array UInt16 × Addr) := []
def slotsUsed : Nat := 0
def theMethod : MethodId := ⟨1, 1⟩
def args0 : Array Value := #[.int 5, .int 1, .int 2, .int 3]
def aboutOver (below : List Frame) : State where
  vm := { classes := classes, interned := interned.toArray }
  heap := heap
  slotsUsed := slotsUsed
  threads := #[{ frames := .invoking theMethod args0 :: below }]
def below0 : List Frame := [.native { method := ⟨0, 0⟩, args := #[] }]
def about1 : State := aboutOver below0
def p0 : Program := .bare "" "" ""
def e0 : Env := launch0.env 0 0 0
theorem w_frames : about1.frames = Frame.invoking theMethod args0 :: below0 := rfl
set_option maxRecDepth 65536 in
theorem w_args : argsFit about1.vm theMethod args0 = true := by decide +kernel
set_option maxRecDepth 65536 in
theorem w_heap : heapFits about1 = true := by decide +kernel
set_option maxRecDepth 65536 in
theorem w_runnable : about1.curStatus? = some .runnable := by decide +kernel
set_option maxRecDepth 65536 in
theorem w_alone : about1.alone = true := by decide +kernel
set_option maxRecDepth 65536 in
theorem w_named : about1.methodNamed? x = some theMethod := by decide +kernel
set_option maxRecDepth 65536 in
theorem w_hears : about1.hears theMethod below0 = true := by decide +kernel
set_option maxRecDepth 65536 in
theorem w_ripe : about1.ripe theMethod args0 below0 = true := by decide +kernel
theorem w_running : about1.status = .running := rfl
set_option maxRecDepth 65536 in
theorem w_room : about1.hasRoom e0.platform room_1 = true :=
  launch0.hasRoom_least _ room_1 (by decide +kernel) (by decide +kernel) (by decide +kernel) (by decide +kernel) (by decide +kernel) (by decide +kernel)
theorem allAtoms_all (ts : List Jvm.Cond) (a : Array Jvm.Value) (st : Jvm.State) : (allAtoms ts).before a st = ts.all (fun c => c.before a st) := by
  induction ts with
  | nil => rfl
  | cons c t ih =>
    show (Jvm.Cond.and c (allAtoms t)).before a st = _
    rw [Jvm.Cond.before_and, ih, List.all_cons]
def words1 : List Jvm.Cond := Jvm.Cond.code x code maxLocals ret :: tables_1
/-- a 'code' word, met by the world's own term for the bytes: nothing is compared byte by byte -/
theorem code_word {y : MethodName} {bytes : ByteArray} {mx : Nat} {rt : Option FieldType} {a : Array Value} {s : State} {m : MethodId} {meth : Method} {c : Code} (h1 : s.methodNamed? y = some m) (h2 : s.vm.method? m = some meth) (h3 : meth.code = some c) (h4 : c.code = bytes)
    (h5 : (c.maxLocals == mx && c.exceptionTable.isEmpty && decide (c.maxStack ≤ mostOperands) && decide (meth.sig.returnType = rt) && !meth.locks && decide (parseMethodDescriptor y.desc = some meth.sig)) = true) : (Jvm.Cond.code y bytes mx rt).before a s = true := by
  simp only [Bool.and_eq_true, beq_iff_eq, Bool.not_eq_true', decide_eq_true_eq] at h5
  obtain ⟨⟨⟨⟨⟨g1, g2⟩, g3⟩, g4⟩, g5⟩, g6⟩ := h5
  simp [Cond.before, Cond.holds, Cond.value, h1, h2, h3, h4, g1, g2, g3, g4, g5, g6]
def isCode : Jvm.Cond → Bool
  | .code _ _ _ _ => true
  | _ => false
theorem all_split {L : List Jvm.Cond} {P : Jvm.Cond → Bool} (h1 : L.all (fun c => isCode c || P c) = true) (h2 : ∀ c ∈ L.filter isCode, P c = true) : L.all P = true := by
  refine List.all_eq_true.mpr fun c hc => ?_
  have h := List.all_eq_true.mp h1 c hc
  rcases Bool.eq_false_or_eq_true (isCode c) with hi | hi
  · exact h2 c (List.mem_filter.mpr ⟨hc, hi⟩)
  · simpa [hi] using h
set_option maxRecDepth 65536 in
theorem w_c0 : (Jvm.Cond.code x code maxLocals ret).before args0 about1 = true := code_word (m := ⟨1, 1⟩) (meth := k1m1) (c := k1c1) (by decide +kernel) rfl rfl rfl (by decide +kernel)
set_option maxRecDepth 65536 in
theorem w_c1 : (Jvm.Cond.code ({ cls := "com/example/tracewarden/tracewarden/engine/SearchTuples$Event", name := "<init>", desc := "(ILjava/util/Map;)V" } : Jvm.MethodName) prog_87_method_1_code (3 : Nat) (Option.none : Option Jvm.ClassFile.FieldType)).before args0 about1 = true := code_word (m := ⟨3, 0⟩) (meth := k3m0) (c := k3c0) (by decide +kernel) rfl rfl rfl (by decide +kernel)
set_option maxRecDepth 65536 in
theorem w_c2 : (Jvm.Cond.code ({ cls := "java/lang/Record", name := "<init>", desc := "()V" } : Jvm.MethodName) jdk_30_method_1_code (1 : Nat) (Option.none : Option Jvm.ClassFile.FieldType)).before args0 about1 = true := code_word (m := ⟨2, 0⟩) (meth := k2m0) (c := k2c0) (by decide +kernel) rfl rfl rfl (by decide +kernel)
set_option maxRecDepth 65536 in
theorem w_c3 : (Jvm.Cond.code ({ cls := "java/lang/Object", name := "<init>", desc := "()V" } : Jvm.MethodName) object_method_1_code (1 : Nat) (Option.none : Option Jvm.ClassFile.FieldType)).before args0 about1 = true := code_word (m := ⟨0, 0⟩) (meth := k0m0) (c := k0c0) (by decide +kernel) rfl rfl rfl (by decide +kernel)
set_option maxRecDepth 65536 in
theorem w_c4 : (Jvm.Cond.code ({ cls := "com/example/tracewarden/tracewarden/engine/SearchBudget", name := "<init>", desc := "(J)V" } : Jvm.MethodName) prog_84_method_1_code (3 : Nat) (Option.none : Option Jvm.ClassFile.FieldType)).before args0 about1 = true := code_word (m := ⟨5, 0⟩) (meth := k5m0) (c := k5c0) (by decide +kernel) rfl rfl rfl (by decide +kernel)
set_option maxRecDepth 65536 in
theorem w_c5 : (Jvm.Cond.code ({ cls := "com/example/tracewarden/tracewarden/engine/SearchTuples", name := "<init>", desc := "(IILcom/example/tracewarden/tracewarden/engine/SearchBudget;)V" } : Jvm.MethodName) prog_86_method_1_code (4 : Nat) (Option.none : Option Jvm.ClassFile.FieldType)).before args0 about1 = true := code_word (m := ⟨4, 0⟩) (meth := k4m0) (c := k4c0) (by decide +kernel) rfl rfl rfl (by decide +kernel)
set_option maxRecDepth 65536 in
theorem w_c6 : (Jvm.Cond.code ({ cls := "com/example/tracewarden/tracewarden/engine/SearchTuples", name := "hash", desc := "([I)I" } : Jvm.MethodName) prog_86_method_7_code (2 : Nat) (Option.some Jvm.ClassFile.FieldType.int)).before args0 about1 = true := code_word (m := ⟨4, 1⟩) (meth := k4m1) (c := k4c1) (by decide +kernel) rfl rfl rfl (by decide +kernel)
set_option maxRecDepth 65536 in
theorem w_c7 : (Jvm.Cond.code ({ cls := "com/example/tracewarden/tracewarden/engine/SearchTuples", name := "hash", desc := "([III)I" } : Jvm.MethodName) prog_86_method_20_code (5 : Nat) (Option.some Jvm.ClassFile.FieldType.int)).before args0 about1 = true := code_word (m := ⟨4, 5⟩) (meth := k4m5) (c := k4c5) (by decide +kernel) rfl rfl rfl (by decide +kernel)
set_option maxRecDepth 65536 in
theorem w_c8 : (Jvm.Cond.code ({ cls := "com/example/tracewarden/tracewarden/engine/SearchTuples", name := "code", desc := "(II)I" } : Jvm.MethodName) prog_86_method_21_code (4 : Nat) (Option.some Jvm.ClassFile.FieldType.int)).before args0 about1 = true := code_word (m := ⟨4, 6⟩) (meth := k4m6) (c := k4c6) (by decide +kernel) rfl rfl rfl (by decide +kernel)
set_option maxRecDepth 65536 in
theorem w_c9 : (Jvm.Cond.code ({ cls := "com/example/tracewarden/tracewarden/engine/SearchTuples", name := "add", desc := "([IILcom/example/tracewarden/tracewarden/engine/Zone;ILcom/example/tracewarden/tracewarden/engine/SearchTuples$Event;I)V" } : Jvm.MethodName) prog_86_method_16_code (10 : Nat) (Option.none : Option Jvm.ClassFile.FieldType)).before args0 about1 = true := code_word (m := ⟨4, 3⟩) (meth := k4m3) (c := k4c3) (by decide +kernel) rfl rfl rfl (by decide +kernel)
set_option maxRecDepth 65536 in
theorem w_c10 : (Jvm.Cond.code ({ cls := "com/example/tracewarden/tracewarden/engine/SearchBudget", name := "step", desc := "()V" } : Jvm.MethodName) prog_84_method_2_code (1 : Nat) (Option.none : Option Jvm.ClassFile.FieldType)).before args0 about1 = true := code_word (m := ⟨5, 1⟩) (meth := k5m1) (c := k5c1) (by decide +kernel) rfl rfl rfl (by decide +kernel)
set_option maxRecDepth 65536 in
theorem w_c11 : (Jvm.Cond.code ({ cls := "com/example/tracewarden/tracewarden/engine/SearchTuples", name := "latest", desc := "([II)I" } : Jvm.MethodName) prog_86_method_18_code (6 : Nat) (Option.some Jvm.ClassFile.FieldType.int)).before args0 about1 = true := code_word (m := ⟨4, 4⟩) (meth := k4m4) (c := k4c4) (by decide +kernel) rfl rfl rfl (by decide +kernel)
set_option maxRecDepth 65536 in
theorem w_c12 : (Jvm.Cond.code ({ cls := "com/example/tracewarden/tracewarden/engine/SearchTuples", name := "passOver", desc := "(ILcom/example/tracewarden/tracewarden/engine/Zone;)V" } : Jvm.MethodName) prog_86_method_15_code (4 : Nat) (Option.none : Option Jvm.ClassFile.FieldType)).before args0 about1 = true := code_word (m := ⟨4, 2⟩) (meth := k4m2) (c := k4c2) (by decide +kernel) rfl rfl rfl (by decide +kernel)
set_option maxRecDepth 65536 in
theorem w_c13 : (Jvm.Cond.code ({ cls := "java/lang/Math", name := "min", desc := "(II)I" } : Jvm.MethodName) jdk_29_method_69_code (2 : Nat) (Option.some Jvm.ClassFile.FieldType.int)).before args0 about1 = true := code_word (m := ⟨8, 1⟩) (meth := k8m1) (c := k8c1) (by decide +kernel) rfl rfl rfl (by decide +kernel)
set_option maxRecDepth 65536 in
theorem w_c14 : (Jvm.Cond.code ({ cls := "com/example/tracewarden/tracewarden/engine/SearchTuples", name := "path", desc := "(I)[Lcom/example/tracewarden/tracewarden/engine/SearchTuples$Event;" } : Jvm.MethodName) prog_86_method_22_code (6 : Nat) (Option.some (Jvm.ClassFile.FieldType.array (Jvm.ClassFile.FieldType.object "com/example/tracewarden/tracewarden/engine/SearchTuples$Event")))).before args0 about1 = true := code_word (m := ⟨4, 7⟩) (meth := k4m7) (c := k4c7) (by decide +kernel) rfl rfl rfl (by decide +kernel)
def codes1 : List Jvm.Cond := [Jvm.Cond.code x code maxLocals ret, Jvm.Cond.code ({ cls := "com/example/tracewarden/tracewarden/engine/SearchTuples$Event", name := "<init>", desc := "(ILjava/util/Map;)V" } : Jvm.MethodName) prog_87_method_1_code (3 : Nat) (Option.none : Option Jvm.ClassFile.FieldType), Jvm.Cond.code ({ cls := "java/lang/Record", name := "<init>", desc := "()V" } : Jvm.MethodName) jdk_30_method_1_code (1 : Nat) (Option.none : Option Jvm.ClassFile.FieldType), Jvm.Cond.code ({ cls := "java/lang/Object", name := "<init>", desc := "()V" } : Jvm.MethodName) object_method_1_code (1 : Nat) (Option.none : Option Jvm.ClassFile.FieldType), Jvm.Cond.code ({ cls := "com/example/tracewarden/tracewarden/engine/SearchBudget", name := "<init>", desc := "(J)V" } : Jvm.MethodName) prog_84_method_1_code (3 : Nat) (Option.none : Option Jvm.ClassFile.FieldType), Jvm.Cond.code ({ cls := "com/example/tracewarden/tracewarden/engine/SearchTuples", name := "<init>", desc := "(IILcom/example/tracewarden/tracewarden/engine/SearchBudget;)V" } : Jvm.MethodName) prog_86_method_1_code (4 : Nat) (Option.none : Option Jvm.ClassFile.FieldType), Jvm.Cond.code ({ cls := "com/example/tracewarden/tracewarden/engine/SearchTuples", name := "hash", desc := "([I)I" } : Jvm.MethodName) prog_86_method_7_code (2 : Nat) (Option.some Jvm.ClassFile.FieldType.int), Jvm.Cond.code ({ cls := "com/example/tracewarden/tracewarden/engine/SearchTuples", name := "hash", desc := "([III)I" } : Jvm.MethodName) prog_86_method_20_code (5 : Nat) (Option.some Jvm.ClassFile.FieldType.int), Jvm.Cond.code ({ cls := "com/example/tracewarden/tracewarden/engine/SearchTuples", name := "code", desc := "(II)I" } : Jvm.MethodName) prog_86_method_21_code (4 : Nat) (Option.some Jvm.ClassFile.FieldType.int), Jvm.Cond.code ({ cls := "com/example/tracewarden/tracewarden/engine/SearchTuples", name := "add", desc := "([IILcom/example/tracewarden/tracewarden/engine/Zone;ILcom/example/tracewarden/tracewarden/engine/SearchTuples$Event;I)V" } : Jvm.MethodName) prog_86_method_16_code (10 : Nat) (Option.none : Option Jvm.ClassFile.FieldType), Jvm.Cond.code ({ cls := "com/example/tracewarden/tracewarden/engine/SearchBudget", name := "step", desc := "()V" } : Jvm.MethodName) prog_84_method_2_code (1 : Nat) (Option.none : Option Jvm.ClassFile.FieldType), Jvm.Cond.code ({ cls := "com/example/tracewarden/tracewarden/engine/SearchTuples", name := "latest", desc := "([II)I" } : Jvm.MethodName) prog_86_method_18_code (6 : Nat) (Option.some Jvm.ClassFile.FieldType.int), Jvm.Cond.code ({ cls := "com/example/tracewarden/tracewarden/engine/SearchTuples", name := "passOver", desc := "(ILcom/example/tracewarden/tracewarden/engine/Zone;)V" } : Jvm.MethodName) prog_86_method_15_code (4 : Nat) (Option.none : Option Jvm.ClassFile.FieldType), Jvm.Cond.code ({ cls := "java/lang/Math", name := "min", desc := "(II)I" } : Jvm.MethodName) jdk_29_method_69_code (2 : Nat) (Option.some Jvm.ClassFile.FieldType.int), Jvm.Cond.code ({ cls := "com/example/tracewarden/tracewarden/engine/SearchTuples", name := "path", desc := "(I)[Lcom/example/tracewarden/tracewarden/engine/SearchTuples$Event;" } : Jvm.MethodName) prog_86_method_22_code (6 : Nat) (Option.some (Jvm.ClassFile.FieldType.array (Jvm.ClassFile.FieldType.object "com/example/tracewarden/tracewarden/engine/SearchTuples$Event")))]
set_option maxRecDepth 65536 in
theorem codes_eq : words1.filter isCode = codes1 := rfl
theorem w_codes : ∀ c ∈ words1.filter isCode, c.before args0 about1 = true := by
  rw [codes_eq]
  intro c hc
  simp only [codes1, List.mem_cons, List.not_mem_nil, or_false] at hc
  rcases hc with rfl | rfl | rfl | rfl | rfl | rfl | rfl | rfl | rfl | rfl | rfl | rfl | rfl | rfl | rfl
  · exact w_c0
  · exact w_c1
  · exact w_c2
  · exact w_c3
  · exact w_c4
  · exact w_c5
  · exact w_c6
  · exact w_c7
  · exact w_c8
  · exact w_c9
  · exact w_c10
  · exact w_c11
  · exact w_c12
  · exact w_c13
  · exact w_c14
set_option maxRecDepth 65536 in
theorem w_t1 : (words1.take 24).all (fun c => isCode c || c.before args0 about1) = true := by decide +kernel
set_option maxRecDepth 65536 in
theorem w_t2 : ((words1.drop 24).take 24).all (fun c => isCode c || c.before args0 about1) = true := by decide +kernel
set_option maxRecDepth 65536 in
theorem w_t3 : (((words1.drop 24).drop 24).take 24).all (fun c => isCode c || c.before args0 about1) = true := by decide +kernel
set_option maxRecDepth 65536 in
theorem w_t4 : ((((words1.drop 24).drop 24).drop 24).take 24).all (fun c => isCode c || c.before args0 about1) = true := by decide +kernel
set_option maxRecDepth 65536 in
theorem w_t5 : (((((words1.drop 24).drop 24).drop 24).drop 24).take 24).all (fun c => isCode c || c.before args0 about1) = true := by decide +kernel
set_option maxRecDepth 65536 in
theorem w_t6 : (((((words1.drop 24).drop 24).drop 24).drop 24).drop 24).all (fun c => isCode c || c.before args0 about1) = true := by decide +kernel
theorem w_tables : (allAtoms (Jvm.Cond.code x code maxLocals ret :: tables_1)).before args0 about1 = true := by
  rw [allAtoms_all]
  show words1.all (fun c => c.before args0 about1) = true
  refine all_split ?_ w_codes
  rw [← List.take_append_drop 24 words1, List.all_append, w_t1, ← List.take_append_drop 24 (words1.drop 24), List.all_append, w_t2, ← List.take_append_drop 24 ((words1.drop 24).drop 24), List.all_append, w_t3, ← List.take_append_drop 24 (((words1.drop 24).drop 24).drop 24), List.all_append, w_t4, ← List.take_append_drop 24 ((((words1.drop 24).drop 24).drop 24).drop 24), List.all_append, w_t5, w_t6]
  rfl
set_option maxRecDepth 65536 in
theorem w_case : (Jvm.Cond.and given_1 narrow_1).before args0 about1 = true := by decide +kernel
theorem w_applies : (headSpec (Jvm.Cond.code x code maxLocals ret :: tables_1) room_1).applies x e0.platform about1 = true :=
  (Spec.applies_iff w_frames).mpr ⟨w_running, w_runnable, w_alone, w_named, w_hears, w_ripe, w_room, w_tables⟩
theorem atStart : AtStart classFile x code maxLocals ret World_1 tables_1 room_1 Calls_1 rest_1 Pre_1 launch0 p0 e0 about1 theMethod args0 below0 :=
  ⟨lists_1, trivial, launch0.admits_env _ _ _, launch0.least_env, fairChoices_fair.cas, fairChoices_fair.clock, w_frames, w_args, w_heap, w_applies, trivial, trivial, w_case⟩
end start1
theorem witness_1 : WitnessClaimed_1 := ⟨start1.p0, start1.e0, start1.about1, start1.theMethod, start1.args0, start1.below0, start1.atStart⟩
end Jvm.Pilot.@@N@@
