import JvmDerived
import JvmDerived.Pilot.@@N@@Statement
import JvmDerived.Pilot.@@N@@Code
set_option linter.unusedVariables false
set_option linter.unusedSimpArgs false
@@BLOCK:NumsL.lean.txt@@
namespace Jvm.RoadKit
open Sem ClassFile Op Lib Jvm.Stand Jvm.Free Jvm.LawKit
section Own
variable {p : Program} {l : Launch} {e : Env} {R : Room} {s : State} {m : MethodId} {args : Array Value} {below : List Frame} {meth : Method} {c : Code} {T : State} {locs : List Loc} {cells slots : Nat}
/-- from U the run ends, and P is said of the end -/
def Go (p : Program) (e : Env) (below : List Frame) (U : State) (P : Outcome → State → Prop) : Prop := ∃ s₂ o, Steps p.tables e below U s₂ ∧ s₂.status = .running ∧ Ended s₂ below o ∧ P o s₂
theorem Go.st {U U' : State} {P : Outcome → State → Prop} (k : ∀ t, Steps p.tables e below U' t → Steps p.tables e below U t) (g : Go p e below U' P) : Go p e below U P := by
  obtain ⟨t, o, a, r⟩ := g
  exact ⟨t, o, k t a, r⟩
theorem Go.tr {U U' : State} {P : Outcome → State → Prop} (k : Steps p.tables e below U U') (g : Go p e below U' P) : Go p e below U P := by
  obtain ⟨t, o, a, r⟩ := g
  exact ⟨t, o, k.trans a, r⟩
theorem Go.fin (X : Stand p l e R s m args below meth c T locs cells slots) {v : Option Value} (hv : meth.sig.returnType = none → v = none) (hlocks : meth.locks = false) {U : State} {P : Outcome → State → Prop}
    (st : ∀ fs, (∀ (f : JFrame) (acts : List Action), f.method = m → f.locked = none → f.entered = [] → (doReturn e (T.setTop f) acts v).1 = T.setFrames fs) → Steps p.tables e below U (T.setFrames fs))
    (hP : ∀ U' : State, U'.heap = T.heap → FrameEnd s (.returned v) U' locs cells slots → P (.returned v) U') : Go p e below U P := by
  obtain ⟨fs, hr, hrun, hended, hW, hsame⟩ := X.leave hv hlocks
  exact ⟨_, _, st fs hr, hrun, hended, hP _ rfl ⟨⟨_, rfl⟩, hW, hsame⟩⟩
theorem own_ord {a0 : Array Value} {t : Term} {a : Addr} {C n d : String} {k : Int32} (ev : t.eval a0 s none [] s = some (.ref a)) (h : (Cond.eq (.field t C n d) (.int k)).value a0 s none s [] = some true) : s.fieldOf? a C n d = some (.int k) := by
  have e1 := fld_at (C := C) (n := n) (dd := d) ev
  have e2 : (Term.int k).eval a0 s none [] s = some (.int k) := rfl
  cases hf : s.fieldOf? a C n d with
  | none => rw [hf] at e1; simp [Cond.value, e1] at h
  | some w =>
    rw [hf] at e1
    cases w <;> simp [Cond.value, e1, e2] at h
    rw [h]
theorem own_ne {a b : Addr} {C n d : String} {j k : Int32} (h1 : s.fieldOf? a C n d = some (.int j)) (h2 : s.fieldOf? b C n d = some (.int k)) (hne : j ≠ k) : a ≠ b := fun q => by
  subst q
  rw [h1] at h2
  exact hne (by injection (Option.some.inj h2))
theorem own_lsw {g : JFrame} {target : State} (X : Stand p l e R s m args below meth c T locs cells slots) (hx : p.tables.exec = Jvm.exec) (hg : g.method = m) {dflt : Int} {pairs : Array (Int × Int)} {len : Nat} {pc0 pc' : Nat} (hpc : g.pc = pc0)
    (hd : decode c.code g.pc = .ok (.lookupswitch dflt pairs, len)) {i : Int32} {rest : List Value} (hs : g.stack = .int i :: rest) {o : Int} (ho : lookupswitch.offset pairs.toList dflt i.toInt = o) (hso : ∀ (a b a_1 b_1 : Int), ((a, b), a_1, b_1) ∈ pairs.toList.zip pairs.toList.tail → a < a_1) (h0 : 0 ≤ (pc0 : Int) + o) (hp : ((pc0 : Int) + o).toNat = pc')
    (hr : Steps p.tables e below (T.setTop { g with pc := pc', stack := rest }) target) : Steps p.tables e below (T.setTop g) target := by
  subst hg hpc hp ho
  jvm_step X.here [X.here.top, hx, hd, hs, h0, lookupswitch.wp_chain]
  exact ⟨hso, hr⟩
theorem own_arvlt {Z : State} {h : Heap} {a : Addr} {k : ClassId} {ty : FieldType} {n : Int32} {vs : List Value} {d : Value} (V : Arv Z h a k ty n vs d) : a < h.size := by
  obtain ⟨c, A, -⟩ := V
  exact A.lt
end Own
end Jvm.RoadKit
namespace Jvm.Pilot.@@N@@
open Jvm Jvm.ClassFile Sem Op Lib Jvm.Free Jvm.Stand Jvm.LawKit Jvm.RoadKit Bundle Jvm.Pilot.@@N@@.Jvm.D

section ArfKit
variable {Z : State} {h h' : Heap} {a b : Addr} {k : ClassId} {ty : FieldType} {z : Int32} {f g : Nat → Value} {sl : Nat} {v w dv : Value} {ws : List Addr} {vs : List Value}
def Arf (Z : State) (h : Heap) (a : Addr) (k : ClassId) (ty : FieldType) (n : Int32) (f : Nat → Value) : Prop := ∃ c : Cell, Arr Z h a c ty ∧ c.cls = k ∧ c.slots.size = n.toNatClampNeg ∧ ¬ n < 0 ∧ (∀ i, i < c.slots.size → c.slots[i]? = some (f i)) ∧ ∀ i, i < c.slots.size → fits ty (f i) = true
def upd (f : Nat → Value) (i : Nat) (v : Value) : Nat → Value := fun j => if j = i then v else f j
theorem Arf.lt (F : Arf Z h a k ty z f) : a < h.size := by obtain ⟨c, A, -⟩ := F; exact A.lt
theorem Arf.ext (F : Arf Z h a k ty z f) (E : Ext h h') : Arf Z h' a k ty z f := by obtain ⟨c, A, r⟩ := F; exact ⟨c, A.ext E, r⟩
theorem Arf.other (F : Arf Z h b k ty z f) (W : Wr h h' a sl v) (q : b ≠ a) : Arf Z h' b k ty z f := by obtain ⟨c, A, r⟩ := F; exact ⟨c, A.other W q, r⟩
theorem Arf.keep (F : Arf Z h a k ty z f) (K : Keep h h' ws) (q : a ∉ ws) : Arf Z h' a k ty z f := by obtain ⟨c, A, r⟩ := F; exact ⟨c, ⟨K.2.1 a c A.1 q, A.2⟩, r⟩
theorem Arf.ofArv (F : Arv Z h a k ty z vs dv) (q : ∀ i, i < z.toNatClampNeg → vs.getD i dv = f i) : Arf Z h a k ty z f := by
  obtain ⟨c, A, q1, S, q3, H, G⟩ := F
  exact ⟨c, A, q1, S, q3, fun i hi => by rw [H i hi, q i (by rw [← S]; exact hi)], fun i hi => by rw [← q i (by rw [← S]; exact hi)]; exact G i hi⟩
theorem own_mapD (f : Nat → Value) (dv : Value) (n i : Nat) (hi : i < n) : ((List.range n).map f).getD i dv = f i := by
  simp [List.getD_eq_getElem?_getD, hi]
theorem Arf.arv (F : Arf Z h a k ty z f) (dv : Value) : Arv Z h a k ty z ((List.range z.toNatClampNeg).map f) dv := by
  obtain ⟨c, A, q1, S, q3, H, G⟩ := F
  exact ⟨c, A, q1, S, q3, fun i hi => by rw [H i hi, own_mapD f dv _ i (by rw [← S]; exact hi)], fun i hi => by rw [own_mapD f dv _ i (by rw [← S]; exact hi)]; exact G i hi⟩
theorem Arf.new (A : Arr Z h a (newA k ty z) ty) (q : ¬ z < 0) : Arf Z h a k ty z (fun _ => defaultValue ty) := Arf.ofArv (Arv.new A q) fun i _ => by simp [List.getD_eq_getElem?_getD]
theorem Arf.set {c : Cell} {j : Int32} (A : Arr Z h a c ty) (q1 : c.cls = k) (S : c.slots.size = z.toNatClampNeg) (q3 : ¬ z < 0) (H : ∀ i, i < c.slots.size → c.slots[i]? = some (f i)) (G : ∀ i, i < c.slots.size → fits ty (f i) = true) (hv : fits ty v = true) (W : Wr h h' a j.toNatClampNeg v) (i : Nat) (hj : j.toNatClampNeg = i) (hin : ¬ (j < 0 ∨ c.slots.size ≤ j.toNatClampNeg)) : Arf Z h' a k ty z (upd f i v) := by
  subst hj
  have hlt : j.toNatClampNeg < c.slots.size := Nat.lt_of_not_le fun q => hin (Or.inr q)
  refine ⟨_, A.same W, q1, by rw [sz_set]; exact S, q3, fun x hx => ?_, fun x hx => ?_⟩ <;> rw [sz_set] at hx <;> simp only [upd] <;> split
  · rename_i e
    subst e; simp [Cell.setSlot, hx]
  · rename_i e
    simp only [Cell.setSlot]; rw [Array.getElem?_setIfInBounds_ne (Ne.symm e)]; exact H x hx
  · exact hv
  · exact G x hx
theorem Arf.same (F : Arf Z h a k ty z f) (q : ∀ i, i < z.toNatClampNeg → f i = g i) : Arf Z h a k ty z g := by
  obtain ⟨c, A, q1, S, q3, H, G⟩ := F
  exact ⟨c, A, q1, S, q3, fun i hi => by rw [H i hi, q i (by rw [← S]; exact hi)], fun i hi => by rw [← q i (by rw [← S]; exact hi)]; exact G i hi⟩
/-- arraycopy's list, place by place -/
theorem own_cpD (f g : Nat → Value) (dv dd : Value) (n m sp dp nn : Nat) (h4 : sp + nn ≤ n) (h5 : dp + nn ≤ m) (i : Nat) (hi : i < m) :
    (((List.range m).map g).take dp ++ ((List.range nn).map fun i => ((List.range n).map f).getD (sp + i) dv) ++ ((List.range m).map g).drop (dp + nn)).getD i dd = if dp ≤ i ∧ i < dp + nn then f (sp + (i - dp)) else g i := by
  rw [List.getD_eq_getElem?_getD, List.append_assoc]
  have l1 : (((List.range m).map g).take dp).length = dp := by simp; omega
  have l2 : ((List.range nn).map fun i => ((List.range n).map f).getD (sp + i) dv).length = nn := by simp
  by_cases h1 : i < dp
  · have c : ¬ (dp ≤ i ∧ i < dp + nn) := by omega
    rw [if_neg c, List.getElem?_append_left (by rw [l1]; exact h1), List.getElem?_take]
    simp [h1, hi]
  · rw [List.getElem?_append_right (by rw [l1]; omega), l1]
    by_cases h2 : i < dp + nn
    · have c : dp ≤ i ∧ i < dp + nn := by omega
      rw [if_pos c, List.getElem?_append_left (by rw [l2]; omega)]
      have l : i - dp < nn := by omega
      have l2 : sp + (i - dp) < n := by omega
      simp [List.getD_eq_getElem?_getD, l, l2]
    · have c : ¬ (dp ≤ i ∧ i < dp + nn) := by omega
      rw [if_neg c, List.getElem?_append_right (by rw [l2]; omega), l2, List.getElem?_drop]
      have l : dp + nn + (i - dp - nn) = i := by omega
      rw [l]
      simp [hi]
theorem own_nb (x : Int32) : nar .byte (x.toInt8.toInt32) = x.toInt8.toInt32 := by
  show (x.toInt8.toInt32).toInt8.toInt32 = x.toInt8.toInt32
  simp
end ArfKit
section ArfSteps
variable {p : Program} {l : Launch} {e : Env} {R : Room} {s : State} {m : MethodId} {args : Array Value} {below : List Frame} {meth : Method} {c : Code} {T : State} {locs : List Loc} {cells slots : Nat} {Z : State} {h : Heap} {a b : Addr} {k : ClassId} {ty : FieldType} {z : Int32} {f g0 : Nat → Value}
/-- System.arraycopy of a primitive kind -/
theorem cpF (X : Stand p l e R s m args below meth c T locs cells slots) (hx : p.tables.exec = Jvm.exec) (hZ : Z.Warmed39 s.vm) {a0 : Array Value} {own : String} {index : Nat} (hown : s.vm.findClass own = some m.cls)
    (w1 : (Cond.methodLink own index Jvm.Stand.acN).before a0 Z = true) (w2 : (Cond.native Jvm.Stand.acN).before a0 Z = true) (w3 : (Cond.static Jvm.Stand.acN).before a0 Z = true) (w4 : (Cond.initialized "java/lang/System").before a0 Z = true) (eT : T.heap = h)
    {k' : ClassId} {z' sp dp nn : Int32} (A : Arf Z h a k ty z f) (B : Arf Z h b k' ty z' g0) (hty : refKind ty = false)
    (h1 : ¬ sp < 0) (h2 : ¬ dp < 0) (h3 : ¬ nn < 0) (h4 : sp.toNatClampNeg + nn.toNatClampNeg ≤ z.toNatClampNeg) (h5 : dp.toNatClampNeg + nn.toNatClampNeg ≤ z'.toNatClampNeg)
    {n0 : Nat} (N : Fr n0 locs) (ge : n0 ≤ b)
    {g : JFrame} (hg : g.method = m) (hsize : g.locals.size = c.maxLocals) {rest : List Value} (hs : g.stack = .int nn :: .int dp :: .ref b :: .int sp :: .ref a :: rest) (hd : decode c.code g.pc = .ok (.invokestatic index, 3))
    (hf : 1 ≤ R.frames) {W : Nat} (hW : 2 * g.monitorRoom + (rest.map fun v => v.category).sum ≤ W) (hlo : W + (nativeFrameWords "java/lang/System" "arraycopy" 5 + 11) ≤ R.locals) :
    ∃ T' h' L, Stand p l e R s m args below meth c T' L cells slots ∧ T'.heap = h' ∧ Fr n0 L ∧ Keep h h' [b] ∧ Arf Z h' b k' ty z' (fun i => if dp.toNatClampNeg ≤ i ∧ i < dp.toNatClampNeg + nn.toNatClampNeg then f (sp.toNatClampNeg + (i - dp.toNatClampNeg)) else g0 i) ∧
      ∀ target, Steps p.tables e below (T'.setTop { g with pc := g.pc + 3, stack := rest }) target → Steps p.tables e below (T.setTop g) target := by
  obtain ⟨T', h', L, X', e', N', K', V', st⟩ := cpA X hx hZ hown w1 w2 w3 w4 eT (A.arv .null) (B.arv .null) (Or.inl ⟨rfl, hty⟩) h1 h2 h3 h4 h5 rfl (by simp; omega) N ge hg hsize hs hd hf hW hlo
  exact ⟨T', h', L, X', e', N', K', Arf.ofArv V' fun i hi => own_cpD f g0 .null .null _ _ _ _ _ h4 h5 i hi, st⟩
end ArfSteps
namespace Gk
section GkKit
variable {p : Program} {l : Launch} {e : Env} {R : Room} {s : State} {m : MethodId} {args : Array Value} {below : List Frame} {meth : Method} {c : Code} {T : State} {locs : List Loc} {cells slots : Nat} {Ls : Array Slot} {S : List Value} {pc : Nat} {P : Outcome → State → Prop} {Z : State} {a0 : Array Value} {h : Heap}
theorem iloadN (X : Stand p l e R s m args below meth c T locs cells slots) (hx : p.tables.exec = Jvm.exec) {k : Fin 4} {v : Int32} (hd : decode c.code pc = .ok (.iload_n k, 1)) (hl : Ls[k.val]? = some (.val (.int v))) (K : Go p e below (T.setTop (mkF m (pc + 1) Ls (.int v :: S))) P) : Go p e below (T.setTop (mkF m pc Ls S)) P := Go.st (fun _ q_ => XS.iloadN X.here hx rfl hd hl q_) K
theorem iload (X : Stand p l e R s m args below meth c T locs cells slots) (hx : p.tables.exec = Jvm.exec) {k : Nat} {v : Int32} (hd : decode c.code pc = .ok (.iload k, 2)) (hl : Ls[k]? = some (.val (.int v))) (K : Go p e below (T.setTop (mkF m (pc + 2) Ls (.int v :: S))) P) : Go p e below (T.setTop (mkF m pc Ls S)) P := Go.st (fun _ q_ => XS.iload X.here hx rfl hd hl q_) K
theorem istoreN (X : Stand p l e R s m args below meth c T locs cells slots) (hx : p.tables.exec = Jvm.exec) {k : Fin 4} {v : Int32} (hd : decode c.code pc = .ok (.istore_n k, 1)) (L' : Array Slot) (hl : storeLocals Ls k.val (.int v) = some L') (K : Go p e below (T.setTop (mkF m (pc + 1) L' S)) P) : Go p e below (T.setTop (mkF m pc Ls (.int v :: S))) P := Go.st (fun _ q_ => XS.istoreN X.here hx rfl hd rfl hl q_) K
theorem istore (X : Stand p l e R s m args below meth c T locs cells slots) (hx : p.tables.exec = Jvm.exec) {k : Nat} {v : Int32} (hd : decode c.code pc = .ok (.istore k, 2)) (L' : Array Slot) (hl : storeLocals Ls k (.int v) = some L') (K : Go p e below (T.setTop (mkF m (pc + 2) L' S)) P) : Go p e below (T.setTop (mkF m pc Ls (.int v :: S))) P := Go.st (fun _ q_ => XS.istore X.here hx rfl hd rfl hl q_) K
theorem lloadN (X : Stand p l e R s m args below meth c T locs cells slots) (hx : p.tables.exec = Jvm.exec) {k : Fin 4} {v : Int64} (hd : decode c.code pc = .ok (.lload_n k, 1)) (hl : Ls[k.val]? = some (.val (.long v))) (K : Go p e below (T.setTop (mkF m (pc + 1) Ls (.long v :: S))) P) : Go p e below (T.setTop (mkF m pc Ls S)) P := Go.st (fun _ q_ => XS.lloadN X.here hx rfl hd hl q_) K
theorem lload (X : Stand p l e R s m args below meth c T locs cells slots) (hx : p.tables.exec = Jvm.exec) {k : Nat} {v : Int64} (hd : decode c.code pc = .ok (.lload k, 2)) (hl : Ls[k]? = some (.val (.long v))) (K : Go p e below (T.setTop (mkF m (pc + 2) Ls (.long v :: S))) P) : Go p e below (T.setTop (mkF m pc Ls S)) P := Go.st (fun _ q_ => XS.lload X.here hx rfl hd hl q_) K
theorem lstoreN (X : Stand p l e R s m args below meth c T locs cells slots) (hx : p.tables.exec = Jvm.exec) {k : Fin 4} {v : Int64} (hd : decode c.code pc = .ok (.lstore_n k, 1)) (L' : Array Slot) (hl : storeLocals Ls k.val (.long v) = some L') (K : Go p e below (T.setTop (mkF m (pc + 1) L' S)) P) : Go p e below (T.setTop (mkF m pc Ls (.long v :: S))) P := Go.st (fun _ q_ => XS.lstoreN X.here hx rfl hd rfl hl q_) K
theorem lstore (X : Stand p l e R s m args below meth c T locs cells slots) (hx : p.tables.exec = Jvm.exec) {k : Nat} {v : Int64} (hd : decode c.code pc = .ok (.lstore k, 2)) (L' : Array Slot) (hl : storeLocals Ls k (.long v) = some L') (K : Go p e below (T.setTop (mkF m (pc + 2) L' S)) P) : Go p e below (T.setTop (mkF m pc Ls (.long v :: S))) P := Go.st (fun _ q_ => XS.lstore X.here hx rfl hd rfl hl q_) K
theorem aloadN (X : Stand p l e R s m args below meth c T locs cells slots) (hx : p.tables.exec = Jvm.exec) {k : Fin 4} {v : Value} (hd : decode c.code pc = .ok (.aload_n k, 1)) (hl : Ls[k.val]? = some (.val v)) (hv : v.isRef = true) (K : Go p e below (T.setTop (mkF m (pc + 1) Ls (v :: S))) P) : Go p e below (T.setTop (mkF m pc Ls S)) P := Go.st (fun _ q_ => XS.aloadN X.here hx rfl hd hl hv q_) K
theorem aload (X : Stand p l e R s m args below meth c T locs cells slots) (hx : p.tables.exec = Jvm.exec) {k : Nat} {v : Value} (hd : decode c.code pc = .ok (.aload k, 2)) (hl : Ls[k]? = some (.val v)) (hv : v.isRef = true) (K : Go p e below (T.setTop (mkF m (pc + 2) Ls (v :: S))) P) : Go p e below (T.setTop (mkF m pc Ls S)) P := Go.st (fun _ q_ => XS.aload X.here hx rfl hd hl hv q_) K
theorem astoreN (X : Stand p l e R s m args below meth c T locs cells slots) (hx : p.tables.exec = Jvm.exec) {k : Fin 4} {v : Value} (hd : decode c.code pc = .ok (.astore_n k, 1)) (hv : v.isRef = true) (L' : Array Slot) (hl : storeLocals Ls k.val v = some L') (K : Go p e below (T.setTop (mkF m (pc + 1) L' S)) P) : Go p e below (T.setTop (mkF m pc Ls (v :: S))) P := Go.st (fun _ q_ => XS.astoreN X.here hx rfl hd rfl hv hl q_) K
theorem astore (X : Stand p l e R s m args below meth c T locs cells slots) (hx : p.tables.exec = Jvm.exec) {k : Nat} {v : Value} (hd : decode c.code pc = .ok (.astore k, 2)) (hv : v.isRef = true) (L' : Array Slot) (hl : storeLocals Ls k v = some L') (K : Go p e below (T.setTop (mkF m (pc + 2) L' S)) P) : Go p e below (T.setTop (mkF m pc Ls (v :: S))) P := Go.st (fun _ q_ => XS.astore X.here hx rfl hd rfl hv hl q_) K
theorem iconst (X : Stand p l e R s m args below meth c T locs cells slots) (hx : p.tables.exec = Jvm.exec) {i : Int} (hd : decode c.code pc = .ok (.iconst i, 1)) (z : Int32) (hz : Int32.ofInt i = z) (K : Go p e below (T.setTop (mkF m (pc + 1) Ls (.int z :: S))) P) : Go p e below (T.setTop (mkF m pc Ls S)) P := Go.st (fun _ q_ => XS.iconst X.here hx rfl hd (by subst hz; exact q_)) K
theorem bipush (X : Stand p l e R s m args below meth c T locs cells slots) (hx : p.tables.exec = Jvm.exec) {i : Int} (hd : decode c.code pc = .ok (.bipush i, 2)) (z : Int32) (hz : (Int8.ofInt i).toInt32 = z) (K : Go p e below (T.setTop (mkF m (pc + 2) Ls (.int z :: S))) P) : Go p e below (T.setTop (mkF m pc Ls S)) P := Go.st (fun _ q_ => XS.bipush X.here hx rfl hd (by subst hz; exact q_)) K
theorem sipush (X : Stand p l e R s m args below meth c T locs cells slots) (hx : p.tables.exec = Jvm.exec) {i : Int} (hd : decode c.code pc = .ok (.sipush i, 3)) (z : Int32) (hz : (Int16.ofInt i).toInt32 = z) (K : Go p e below (T.setTop (mkF m (pc + 3) Ls (.int z :: S))) P) : Go p e below (T.setTop (mkF m pc Ls S)) P := Go.st (fun _ q_ => XS.sipush X.here hx rfl hd (by subst hz; exact q_)) K
theorem lconst0 (X : Stand p l e R s m args below meth c T locs cells slots) (hx : p.tables.exec = Jvm.exec) (hd : decode c.code pc = .ok (.lconst 0, 1)) (K : Go p e below (T.setTop (mkF m (pc + 1) Ls (.long (0 : Int64) :: S))) P) : Go p e below (T.setTop (mkF m pc Ls S)) P := Go.st (fun _ q_ => XS.lconst X.here hx rfl hd q_) K
theorem lconst1 (X : Stand p l e R s m args below meth c T locs cells slots) (hx : p.tables.exec = Jvm.exec) (hd : decode c.code pc = .ok (.lconst 1, 1)) (K : Go p e below (T.setTop (mkF m (pc + 1) Ls (.long (1 : Int64) :: S))) P) : Go p e below (T.setTop (mkF m pc Ls S)) P := Go.st (fun _ q_ => XS.lconst X.here hx rfl hd q_) K
theorem aconstNull (X : Stand p l e R s m args below meth c T locs cells slots) (hx : p.tables.exec = Jvm.exec)  (hd : decode c.code pc = .ok (.aconst_null, 1))  (K : Go p e below (T.setTop (mkF m (pc + 1) Ls (.null :: S))) P) : Go p e below (T.setTop (mkF m pc Ls S)) P := Go.st (fun _ q_ => XS.aconstNull X.here hx rfl hd q_) K
theorem iadd (X : Stand p l e R s m args below meth c T locs cells slots) (hx : p.tables.exec = Jvm.exec) {x y : Int32} (hd : decode c.code pc = .ok (.iadd, 1)) (z : Int32) (hz : x + y = z) (K : Go p e below (T.setTop (mkF m (pc + 1) Ls (.int z :: S))) P) : Go p e below (T.setTop (mkF m pc Ls (.int y :: .int x :: S))) P := Go.st (fun _ q_ => XS.iadd X.here hx rfl hd rfl (by subst hz; exact q_)) K
theorem ladd (X : Stand p l e R s m args below meth c T locs cells slots) (hx : p.tables.exec = Jvm.exec) {x y : Int64} (hd : decode c.code pc = .ok (.ladd, 1)) (z : Int64) (hz : x + y = z) (K : Go p e below (T.setTop (mkF m (pc + 1) Ls (.long z :: S))) P) : Go p e below (T.setTop (mkF m pc Ls (.long y :: .long x :: S))) P := Go.st (fun _ q_ => XS.ladd X.here hx rfl hd rfl (by subst hz; exact q_)) K
theorem isub (X : Stand p l e R s m args below meth c T locs cells slots) (hx : p.tables.exec = Jvm.exec) {x y : Int32} (hd : decode c.code pc = .ok (.isub, 1)) (z : Int32) (hz : x - y = z) (K : Go p e below (T.setTop (mkF m (pc + 1) Ls (.int z :: S))) P) : Go p e below (T.setTop (mkF m pc Ls (.int y :: .int x :: S))) P := Go.st (fun _ q_ => XS.isub X.here hx rfl hd rfl (by subst hz; exact q_)) K
theorem lsub (X : Stand p l e R s m args below meth c T locs cells slots) (hx : p.tables.exec = Jvm.exec) {x y : Int64} (hd : decode c.code pc = .ok (.lsub, 1)) (z : Int64) (hz : x - y = z) (K : Go p e below (T.setTop (mkF m (pc + 1) Ls (.long z :: S))) P) : Go p e below (T.setTop (mkF m pc Ls (.long y :: .long x :: S))) P := Go.st (fun _ q_ => XS.lsub X.here hx rfl hd rfl (by subst hz; exact q_)) K
theorem imul (X : Stand p l e R s m args below meth c T locs cells slots) (hx : p.tables.exec = Jvm.exec) {x y : Int32} (hd : decode c.code pc = .ok (.imul, 1)) (z : Int32) (hz : x * y = z) (K : Go p e below (T.setTop (mkF m (pc + 1) Ls (.int z :: S))) P) : Go p e below (T.setTop (mkF m pc Ls (.int y :: .int x :: S))) P := Go.st (fun _ q_ => XS.imul X.here hx rfl hd rfl (by subst hz; exact q_)) K
theorem lmul (X : Stand p l e R s m args below meth c T locs cells slots) (hx : p.tables.exec = Jvm.exec) {x y : Int64} (hd : decode c.code pc = .ok (.lmul, 1)) (z : Int64) (hz : x * y = z) (K : Go p e below (T.setTop (mkF m (pc + 1) Ls (.long z :: S))) P) : Go p e below (T.setTop (mkF m pc Ls (.long y :: .long x :: S))) P := Go.st (fun _ q_ => XS.lmul X.here hx rfl hd rfl (by subst hz; exact q_)) K
theorem iand (X : Stand p l e R s m args below meth c T locs cells slots) (hx : p.tables.exec = Jvm.exec) {x y : Int32} (hd : decode c.code pc = .ok (.iand, 1)) (z : Int32) (hz : x &&& y = z) (K : Go p e below (T.setTop (mkF m (pc + 1) Ls (.int z :: S))) P) : Go p e below (T.setTop (mkF m pc Ls (.int y :: .int x :: S))) P := Go.st (fun _ q_ => XS.iand X.here hx rfl hd rfl (by subst hz; exact q_)) K
theorem land (X : Stand p l e R s m args below meth c T locs cells slots) (hx : p.tables.exec = Jvm.exec) {x y : Int64} (hd : decode c.code pc = .ok (.land, 1)) (z : Int64) (hz : x &&& y = z) (K : Go p e below (T.setTop (mkF m (pc + 1) Ls (.long z :: S))) P) : Go p e below (T.setTop (mkF m pc Ls (.long y :: .long x :: S))) P := Go.st (fun _ q_ => XS.land X.here hx rfl hd rfl (by subst hz; exact q_)) K
theorem ior (X : Stand p l e R s m args below meth c T locs cells slots) (hx : p.tables.exec = Jvm.exec) {x y : Int32} (hd : decode c.code pc = .ok (.ior, 1)) (z : Int32) (hz : x ||| y = z) (K : Go p e below (T.setTop (mkF m (pc + 1) Ls (.int z :: S))) P) : Go p e below (T.setTop (mkF m pc Ls (.int y :: .int x :: S))) P := Go.st (fun _ q_ => XS.ior X.here hx rfl hd rfl (by subst hz; exact q_)) K
theorem lor (X : Stand p l e R s m args below meth c T locs cells slots) (hx : p.tables.exec = Jvm.exec) {x y : Int64} (hd : decode c.code pc = .ok (.lor, 1)) (z : Int64) (hz : x ||| y = z) (K : Go p e below (T.setTop (mkF m (pc + 1) Ls (.long z :: S))) P) : Go p e below (T.setTop (mkF m pc Ls (.long y :: .long x :: S))) P := Go.st (fun _ q_ => XS.lor X.here hx rfl hd rfl (by subst hz; exact q_)) K
theorem ixor (X : Stand p l e R s m args below meth c T locs cells slots) (hx : p.tables.exec = Jvm.exec) {x y : Int32} (hd : decode c.code pc = .ok (.ixor, 1)) (z : Int32) (hz : x ^^^ y = z) (K : Go p e below (T.setTop (mkF m (pc + 1) Ls (.int z :: S))) P) : Go p e below (T.setTop (mkF m pc Ls (.int y :: .int x :: S))) P := Go.st (fun _ q_ => XS.ixor X.here hx rfl hd rfl (by subst hz; exact q_)) K
theorem lxor (X : Stand p l e R s m args below meth c T locs cells slots) (hx : p.tables.exec = Jvm.exec) {x y : Int64} (hd : decode c.code pc = .ok (.lxor, 1)) (z : Int64) (hz : x ^^^ y = z) (K : Go p e below (T.setTop (mkF m (pc + 1) Ls (.long z :: S))) P) : Go p e below (T.setTop (mkF m pc Ls (.long y :: .long x :: S))) P := Go.st (fun _ q_ => XS.lxor X.here hx rfl hd rfl (by subst hz; exact q_)) K
theorem ishl (X : Stand p l e R s m args below meth c T locs cells slots) (hx : p.tables.exec = Jvm.exec) {x y : Int32} (hd : decode c.code pc = .ok (.ishl, 1)) (z : Int32) (hz : (x <<< (y &&& 31)) = z) (K : Go p e below (T.setTop (mkF m (pc + 1) Ls (.int z :: S))) P) : Go p e below (T.setTop (mkF m pc Ls (.int y :: .int x :: S))) P := Go.st (fun _ q_ => XS.ishl X.here hx rfl hd rfl (by subst hz; exact q_)) K
theorem ishr (X : Stand p l e R s m args below meth c T locs cells slots) (hx : p.tables.exec = Jvm.exec) {x y : Int32} (hd : decode c.code pc = .ok (.ishr, 1)) (z : Int32) (hz : (x >>> (y &&& 31)) = z) (K : Go p e below (T.setTop (mkF m (pc + 1) Ls (.int z :: S))) P) : Go p e below (T.setTop (mkF m pc Ls (.int y :: .int x :: S))) P := Go.st (fun _ q_ => XS.ishr X.here hx rfl hd rfl (by subst hz; exact q_)) K
theorem iushr (X : Stand p l e R s m args below meth c T locs cells slots) (hx : p.tables.exec = Jvm.exec) {x y : Int32} (hd : decode c.code pc = .ok (.iushr, 1)) (z : Int32) (hz : ((x.toUInt32 >>> (y &&& 31).toUInt32).toInt32) = z) (K : Go p e below (T.setTop (mkF m (pc + 1) Ls (.int z :: S))) P) : Go p e below (T.setTop (mkF m pc Ls (.int y :: .int x :: S))) P := Go.st (fun _ q_ => XS.iushr X.here hx rfl hd rfl (by subst hz; exact q_)) K
theorem lshl (X : Stand p l e R s m args below meth c T locs cells slots) (hx : p.tables.exec = Jvm.exec) {x : Int64} {y : Int32} (hd : decode c.code pc = .ok (.lshl, 1)) (z : Int64) (hz : (x <<< (y &&& 0x3f).toInt64) = z) (K : Go p e below (T.setTop (mkF m (pc + 1) Ls (.long z :: S))) P) : Go p e below (T.setTop (mkF m pc Ls (.int y :: .long x :: S))) P := Go.st (fun _ q_ => XS.lshl X.here hx rfl hd rfl (by subst hz; exact q_)) K
theorem lshr (X : Stand p l e R s m args below meth c T locs cells slots) (hx : p.tables.exec = Jvm.exec) {x : Int64} {y : Int32} (hd : decode c.code pc = .ok (.lshr, 1)) (z : Int64) (hz : (x >>> (y &&& 0x3f).toInt64) = z) (K : Go p e below (T.setTop (mkF m (pc + 1) Ls (.long z :: S))) P) : Go p e below (T.setTop (mkF m pc Ls (.int y :: .long x :: S))) P := Go.st (fun _ q_ => XS.lshr X.here hx rfl hd rfl (by subst hz; exact q_)) K
theorem lushr (X : Stand p l e R s m args below meth c T locs cells slots) (hx : p.tables.exec = Jvm.exec) {x : Int64} {y : Int32} (hd : decode c.code pc = .ok (.lushr, 1)) (z : Int64) (hz : ((x.toUInt64 >>> (y &&& 0x3f).toInt64.toUInt64).toInt64) = z) (K : Go p e below (T.setTop (mkF m (pc + 1) Ls (.long z :: S))) P) : Go p e below (T.setTop (mkF m pc Ls (.int y :: .long x :: S))) P := Go.st (fun _ q_ => XS.lushr X.here hx rfl hd rfl (by subst hz; exact q_)) K
theorem ineg (X : Stand p l e R s m args below meth c T locs cells slots) (hx : p.tables.exec = Jvm.exec) {x : Int32} (hd : decode c.code pc = .ok (.ineg, 1)) (z : Int32) (hz : -x = z) (K : Go p e below (T.setTop (mkF m (pc + 1) Ls (.int z :: S))) P) : Go p e below (T.setTop (mkF m pc Ls (.int x :: S))) P := Go.st (fun _ q_ => XS.ineg X.here hx rfl hd rfl (by subst hz; exact q_)) K
theorem lneg (X : Stand p l e R s m args below meth c T locs cells slots) (hx : p.tables.exec = Jvm.exec) {x : Int64} (hd : decode c.code pc = .ok (.lneg, 1)) (z : Int64) (hz : -x = z) (K : Go p e below (T.setTop (mkF m (pc + 1) Ls (.long z :: S))) P) : Go p e below (T.setTop (mkF m pc Ls (.long x :: S))) P := Go.st (fun _ q_ => XS.lneg X.here hx rfl hd rfl (by subst hz; exact q_)) K
theorem i2l (X : Stand p l e R s m args below meth c T locs cells slots) (hx : p.tables.exec = Jvm.exec) {x : Int32} (hd : decode c.code pc = .ok (.i2l, 1)) (z : Int64) (hz : x.toInt64 = z) (K : Go p e below (T.setTop (mkF m (pc + 1) Ls (.long z :: S))) P) : Go p e below (T.setTop (mkF m pc Ls (.int x :: S))) P := Go.st (fun _ q_ => XS.i2l X.here hx rfl hd rfl (by subst hz; exact q_)) K
theorem l2i (X : Stand p l e R s m args below meth c T locs cells slots) (hx : p.tables.exec = Jvm.exec) {x : Int64} (hd : decode c.code pc = .ok (.l2i, 1)) (z : Int32) (hz : x.toInt32 = z) (K : Go p e below (T.setTop (mkF m (pc + 1) Ls (.int z :: S))) P) : Go p e below (T.setTop (mkF m pc Ls (.long x :: S))) P := Go.st (fun _ q_ => XS.l2i X.here hx rfl hd rfl (by subst hz; exact q_)) K
theorem i2b (X : Stand p l e R s m args below meth c T locs cells slots) (hx : p.tables.exec = Jvm.exec) {x : Int32} (hd : decode c.code pc = .ok (.i2b, 1)) (z : Int32) (hz : x.toInt8.toInt32 = z) (K : Go p e below (T.setTop (mkF m (pc + 1) Ls (.int z :: S))) P) : Go p e below (T.setTop (mkF m pc Ls (.int x :: S))) P := Go.st (fun _ q_ => XS.i2b X.here hx rfl hd rfl (by subst hz; exact q_)) K
theorem i2s (X : Stand p l e R s m args below meth c T locs cells slots) (hx : p.tables.exec = Jvm.exec) {x : Int32} (hd : decode c.code pc = .ok (.i2s, 1)) (z : Int32) (hz : x.toInt16.toInt32 = z) (K : Go p e below (T.setTop (mkF m (pc + 1) Ls (.int z :: S))) P) : Go p e below (T.setTop (mkF m pc Ls (.int x :: S))) P := Go.st (fun _ q_ => XS.i2s X.here hx rfl hd rfl (by subst hz; exact q_)) K
theorem i2c (X : Stand p l e R s m args below meth c T locs cells slots) (hx : p.tables.exec = Jvm.exec) {x : Int32} (hd : decode c.code pc = .ok (.i2c, 1)) (z : Int32) (hz : x.toUInt32.toUInt16.toUInt32.toInt32 = z) (K : Go p e below (T.setTop (mkF m (pc + 1) Ls (.int z :: S))) P) : Go p e below (T.setTop (mkF m pc Ls (.int x :: S))) P := Go.st (fun _ q_ => XS.i2c X.here hx rfl hd rfl (by subst hz; exact q_)) K
theorem idiv (X : Stand p l e R s m args below meth c T locs cells slots) (hx : p.tables.exec = Jvm.exec) {x y : Int32} (hd : decode c.code pc = .ok (.idiv, 1)) (hy : y ≠ 0) (z : Int32) (hz : x / y = z) (K : Go p e below (T.setTop (mkF m (pc + 1) Ls (.int z :: S))) P) : Go p e below (T.setTop (mkF m pc Ls (.int y :: .int x :: S))) P := Go.st (fun _ q_ => XS.idiv X.here hx rfl hd rfl hy (by subst hz; exact q_)) K
theorem ldiv (X : Stand p l e R s m args below meth c T locs cells slots) (hx : p.tables.exec = Jvm.exec) {x y : Int64} (hd : decode c.code pc = .ok (.ldiv, 1)) (hy : y ≠ 0) (z : Int64) (hz : x / y = z) (K : Go p e below (T.setTop (mkF m (pc + 1) Ls (.long z :: S))) P) : Go p e below (T.setTop (mkF m pc Ls (.long y :: .long x :: S))) P := Go.st (fun _ q_ => XS.ldiv X.here hx rfl hd rfl hy (by subst hz; exact q_)) K
theorem irem (X : Stand p l e R s m args below meth c T locs cells slots) (hx : p.tables.exec = Jvm.exec) {x y : Int32} (hd : decode c.code pc = .ok (.irem, 1)) (hy : y ≠ 0) (z : Int32) (hz : x % y = z) (K : Go p e below (T.setTop (mkF m (pc + 1) Ls (.int z :: S))) P) : Go p e below (T.setTop (mkF m pc Ls (.int y :: .int x :: S))) P := Go.st (fun _ q_ => iremM (g := mkF m pc Ls (.int y :: .int x :: S)) X hx rfl hd rfl hy (by subst hz; exact q_)) K
theorem lcmp (X : Stand p l e R s m args below meth c T locs cells slots) (hx : p.tables.exec = Jvm.exec) {x y : Int64} (hd : decode c.code pc = .ok (.lcmp, 1))  (K : Go p e below (T.setTop (mkF m (pc + 1) Ls (.int (lcmpW x y) :: S))) P) : Go p e below (T.setTop (mkF m pc Ls (.long y :: .long x :: S))) P := Go.st (fun _ q_ => XS.lcmp X.here hx rfl hd rfl q_) K
theorem iinc (X : Stand p l e R s m args below meth c T locs cells slots) (hx : p.tables.exec = Jvm.exec) {k : Nat} {cst : Int} {x : Int32} (hd : decode c.code pc = .ok (.iinc k cst, 3)) (hl : Ls[k]? = some (.val (.int x))) (L' : Array Slot) (hl' : storeLocals Ls k (.int (x + Int32.ofInt cst)) = some L') (K : Go p e below (T.setTop (mkF m (pc + 3) L' S)) P) : Go p e below (T.setTop (mkF m pc Ls S)) P := Go.st (fun _ q_ => XS.iinc X.here hx rfl hd hl hl' q_) K
theorem dup (X : Stand p l e R s m args below meth c T locs cells slots) (hx : p.tables.exec = Jvm.exec) {x : Value} (hd : decode c.code pc = .ok (.dup, 1)) (hc : x.category = 1) (K : Go p e below (T.setTop (mkF m (pc + 1) Ls (x :: x :: S))) P) : Go p e below (T.setTop (mkF m pc Ls (x :: S))) P := Go.st (fun _ q_ => XS.dup X.here hx rfl hd rfl hc q_) K
theorem dupX1 (X : Stand p l e R s m args below meth c T locs cells slots) (hx : p.tables.exec = Jvm.exec) {x y : Value} (hd : decode c.code pc = .ok (.dup_x1, 1)) (hc : x.category = 1) (hc' : y.category = 1) (K : Go p e below (T.setTop (mkF m (pc + 1) Ls (x :: y :: x :: S))) P) : Go p e below (T.setTop (mkF m pc Ls (x :: y :: S))) P := Go.st (fun _ q_ => XS.dupX1 X.here hx rfl hd rfl hc hc' q_) K
theorem dup2 (X : Stand p l e R s m args below meth c T locs cells slots) (hx : p.tables.exec = Jvm.exec) {x y : Value} (hd : decode c.code pc = .ok (.dup2, 1)) (hc : x.category = 1) (hc' : y.category = 1) (K : Go p e below (T.setTop (mkF m (pc + 1) Ls (x :: y :: x :: y :: S))) P) : Go p e below (T.setTop (mkF m pc Ls (x :: y :: S))) P := Go.st (fun _ q_ => XT.dup2 X.here hx rfl hd rfl hc hc' q_) K
theorem pop (X : Stand p l e R s m args below meth c T locs cells slots) (hx : p.tables.exec = Jvm.exec) {x : Value} (hd : decode c.code pc = .ok (.pop, 1)) (hc : x.category = 1) (K : Go p e below (T.setTop (mkF m (pc + 1) Ls S)) P) : Go p e below (T.setTop (mkF m pc Ls (x :: S))) P := Go.st (fun _ q_ => XS.pop X.here hx rfl hd rfl hc q_) K
theorem goto (X : Stand p l e R s m args below meth c T locs cells slots) (hx : p.tables.exec = Jvm.exec)  {o : Int} (hd : decode c.code pc = .ok (.goto o, 3))  (pc' : Nat) (ho : 0 ≤ (pc : Int) + o) (hp : ((pc : Int) + o).toNat = pc') (K : Go p e below (T.setTop (mkF m pc' Ls S)) P) : Go p e below (T.setTop (mkF m pc Ls S)) P := Go.st (fun _ q_ => XS.goto X.here hx rfl rfl hd ho hp q_) K
theorem ifYes (X : Stand p l e R s m args below meth c T locs cells slots) (hx : p.tables.exec = Jvm.exec) {cd : ClassFile.Cond} {x : Int32} {o : Int} (hd : decode c.code pc = .ok (.ifCond cd o, 3)) (hc : if_icmp.holds cd x 0 = true) (pc' : Nat) (ho : 0 ≤ (pc : Int) + o) (hp : ((pc : Int) + o).toNat = pc') (K : Go p e below (T.setTop (mkF m pc' Ls S)) P) : Go p e below (T.setTop (mkF m pc Ls (.int x :: S))) P := Go.st (fun _ q_ => XS.ifYes X.here hx rfl rfl hd rfl ((if0 _ _).trans hc) ho hp q_) K
theorem ifNo (X : Stand p l e R s m args below meth c T locs cells slots) (hx : p.tables.exec = Jvm.exec) {cd : ClassFile.Cond} {x : Int32} {o : Int} (hd : decode c.code pc = .ok (.ifCond cd o, 3)) (hc : if_icmp.holds cd x 0 = false) (K : Go p e below (T.setTop (mkF m (pc + 3) Ls S)) P) : Go p e below (T.setTop (mkF m pc Ls (.int x :: S))) P := Go.st (fun _ q_ => XS.ifNo X.here hx rfl hd rfl ((if0 _ _).trans hc) q_) K
theorem icmpYes (X : Stand p l e R s m args below meth c T locs cells slots) (hx : p.tables.exec = Jvm.exec) {cd : ClassFile.Cond} {x y : Int32} {o : Int} (hd : decode c.code pc = .ok (.if_icmp cd o, 3)) (hc : if_icmp.holds cd x y = true) (pc' : Nat) (ho : 0 ≤ (pc : Int) + o) (hp : ((pc : Int) + o).toNat = pc') (K : Go p e below (T.setTop (mkF m pc' Ls S)) P) : Go p e below (T.setTop (mkF m pc Ls (.int y :: .int x :: S))) P := Go.st (fun _ q_ => XS.icmpYes X.here hx rfl rfl hd rfl hc ho hp q_) K
theorem icmpNo (X : Stand p l e R s m args below meth c T locs cells slots) (hx : p.tables.exec = Jvm.exec) {cd : ClassFile.Cond} {x y : Int32} {o : Int} (hd : decode c.code pc = .ok (.if_icmp cd o, 3)) (hc : if_icmp.holds cd x y = false) (K : Go p e below (T.setTop (mkF m (pc + 3) Ls S)) P) : Go p e below (T.setTop (mkF m pc Ls (.int y :: .int x :: S))) P := Go.st (fun _ q_ => XS.icmpNo X.here hx rfl hd rfl hc q_) K
theorem ifnullYes (X : Stand p l e R s m args below meth c T locs cells slots) (hx : p.tables.exec = Jvm.exec)  {o : Int} (hd : decode c.code pc = .ok (.ifnull o, 3))  (pc' : Nat) (ho : 0 ≤ (pc : Int) + o) (hp : ((pc : Int) + o).toNat = pc') (K : Go p e below (T.setTop (mkF m pc' Ls S)) P) : Go p e below (T.setTop (mkF m pc Ls (.null :: S))) P := Go.st (fun _ q_ => XS.ifnullYes X.here hx rfl rfl hd rfl ho hp q_) K
theorem ifnullNo (X : Stand p l e R s m args below meth c T locs cells slots) (hx : p.tables.exec = Jvm.exec) {o : Int} {b : Addr} (hd : decode c.code pc = .ok (.ifnull o, 3))  (K : Go p e below (T.setTop (mkF m (pc + 3) Ls S)) P) : Go p e below (T.setTop (mkF m pc Ls (.ref b :: S))) P := Go.st (fun _ q_ => XS.ifnullNo X.here hx rfl hd rfl q_) K
theorem ifnonnullYes (X : Stand p l e R s m args below meth c T locs cells slots) (hx : p.tables.exec = Jvm.exec) {b : Addr} {o : Int} (hd : decode c.code pc = .ok (.ifnonnull o, 3))  (pc' : Nat) (ho : 0 ≤ (pc : Int) + o) (hp : ((pc : Int) + o).toNat = pc') (K : Go p e below (T.setTop (mkF m pc' Ls S)) P) : Go p e below (T.setTop (mkF m pc Ls (.ref b :: S))) P := Go.st (fun _ q_ => XS.ifnonnullYes X.here hx rfl rfl hd rfl ho hp q_) K
theorem ifnonnullNo (X : Stand p l e R s m args below meth c T locs cells slots) (hx : p.tables.exec = Jvm.exec) {o : Int} (hd : decode c.code pc = .ok (.ifnonnull o, 3))  (K : Go p e below (T.setTop (mkF m (pc + 3) Ls S)) P) : Go p e below (T.setTop (mkF m pc Ls (.null :: S))) P := Go.st (fun _ q_ => XS.ifnonnullNo X.here hx rfl hd rfl q_) K
theorem acmp (X : Stand p l e R s m args below meth c T locs cells slots) (hx : p.tables.exec = Jvm.exec) {cd : ACond} {x y : Value} {o : Int} (hd : decode c.code pc = .ok (.if_acmp cd o, 3)) (h1 : x.isRef = true) (h2 : y.isRef = true) (same : Bool) (hq : decide (x = y) = same) (pc' : Nat) (ho : 0 ≤ (pc : Int) + o) (hp : pc' = if acV cd same = true then ((pc : Int) + o).toNat else pc + 3) (K : Go p e below (T.setTop (mkF m pc' Ls S)) P) : Go p e below (T.setTop (mkF m pc Ls (y :: x :: S))) P := Go.st (fun _ q_ => Jvm.RoadKit.acmp (g := mkF m pc Ls (y :: x :: S)) X hx rfl h1 h2 rfl hd rfl hq ho hp q_) K
theorem lsw (X : Stand p l e R s m args below meth c T locs cells slots) (hx : p.tables.exec = Jvm.exec) {dflt : Int} {pairs : Array (Int × Int)} {len : Nat} {i : Int32} (hd : decode c.code pc = .ok (.lookupswitch dflt pairs, len)) {o : Int} (ho : lookupswitch.offset pairs.toList dflt i.toInt = o) (hso : ∀ (a b a_1 b_1 : Int), ((a, b), a_1, b_1) ∈ pairs.toList.zip pairs.toList.tail → a < a_1) (pc' : Nat) (h0 : 0 ≤ (pc : Int) + o) (hp : ((pc : Int) + o).toNat = pc') (K : Go p e below (T.setTop (mkF m pc' Ls S)) P) : Go p e below (T.setTop (mkF m pc Ls (.int i :: S))) P := Go.st (fun _ q_ => own_lsw (g := mkF m pc Ls (.int i :: S)) X hx rfl rfl hd rfl ho hso h0 hp q_) K
theorem tsw (X : Stand p l e R s m args below meth c T locs cells slots) (hx : p.tables.exec = Jvm.exec) {dflt low high : Int} {offs : Array Int} {len : Nat} {i : Int32} (hd : decode c.code pc = .ok (.tableswitch dflt low high offs, len)) {o : Int} (hin : ¬ (i.toInt < low ∨ i.toInt > high)) (hoff : offs[(i.toInt - low).toNat]? = some o) (pc' : Nat) (h0 : 0 ≤ (pc : Int) + o) (hp : ((pc : Int) + o).toNat = pc') (K : Go p e below (T.setTop (mkF m pc' Ls S)) P) : Go p e below (T.setTop (mkF m pc Ls (.int i :: S))) P := Go.st (fun _ q_ => XS.tswIn (g := mkF m pc Ls (.int i :: S)) X.here hx rfl rfl hd rfl hin hoff h0 hp q_) K
theorem ldcI (X : Stand p l e R s m args below meth c T locs cells slots) (hx : p.tables.exec = Jvm.exec) (hZ : Z.Warmed39 s.vm) {own : String} {index : Nat} (hown : s.vm.findClass own = some m.cls) {v : Int32} (w : (Cond.constant own index v).before a0 Z = true) (hd : decode c.code pc = .ok (.ldc index, 2)) (K : Go p e below (T.setTop (mkF m (pc + 2) Ls (.int v :: S))) P) : Go p e below (T.setTop (mkF m pc Ls S)) P := Go.st (X.ldcInt hx hown (mvT hZ w) (g := mkF m pc Ls S) rfl hd) K
theorem ldcwI (X : Stand p l e R s m args below meth c T locs cells slots) (hx : p.tables.exec = Jvm.exec) (hZ : Z.Warmed39 s.vm) {own : String} {index : Nat} (hown : s.vm.findClass own = some m.cls) {v : Int32} (w : (Cond.constant own index v).before a0 Z = true) (hd : decode c.code pc = .ok (.ldc_w index, 3)) (K : Go p e below (T.setTop (mkF m (pc + 3) Ls (.int v :: S))) P) : Go p e below (T.setTop (mkF m pc Ls S)) P := Go.st (X.ldcwInt hx hown (mvT hZ w) (g := mkF m pc Ls S) rfl hd) K
theorem ldcL (X : Stand p l e R s m args below meth c T locs cells slots) (hx : p.tables.exec = Jvm.exec) (hZ : Z.Warmed39 s.vm) {own : String} {index : Nat} (hown : s.vm.findClass own = some m.cls) {v : Int64} (w : (Cond.constantLong own index v).before a0 Z = true) (hd : decode c.code pc = .ok (.ldc2_w index, 3)) (K : Go p e below (T.setTop (mkF m (pc + 3) Ls (.long v :: S))) P) : Go p e below (T.setTop (mkF m pc Ls S)) P := Go.st (X.ldc2Long hx hown (mvT hZ w) (g := mkF m pc Ls S) rfl hd) K
theorem getS (X : Stand p l e R s m args below meth c T locs cells slots) (hx : p.tables.exec = Jvm.exec) (hZ : Z.Warmed39 s.vm) {own : String} {index : Nat} (hown : s.vm.findClass own = some m.cls) {R0 O n d host : String} (w : (Cond.fieldLink own index R0 n d).before a0 Z = true ∨ (Cond.fieldLinkNest own index R0 n d host).before a0 Z = true) (via : Via Z R0 O n d) (eT : T.heap = h) {v : Value} (F : Sta Z h O n d v) (hd : decode c.code pc = .ok (.getstatic index, 3))
    (K : ∀ T', Stand p l e R s m args below meth c T' locs cells slots → T'.heap = h → Go p e below (T'.setTop (mkF m (pc + 3) Ls (v :: S))) P) : Go p e below (T.setTop (mkF m pc Ls S)) P := by
  obtain ⟨T', X', e', st⟩ := getS2 X hx hZ hown w via eT F (g := mkF m pc Ls S) rfl hd
  exact Go.st st (K T' X' e')
theorem getF (X : Stand p l e R s m args below meth c T locs cells slots) (hx : p.tables.exec = Jvm.exec) (hZ : Z.Warmed39 s.vm) {own : String} {index : Nat} (hown : s.vm.findClass own = some m.cls) {R0 O n d host : String} (w : (Cond.fieldLink own index R0 n d).before a0 Z = true ∨ (Cond.fieldLinkNest own index R0 n d host).before a0 Z = true) (via : Via Z R0 O n d) (eT : T.heap = h) {a : Addr} {v : Value} (F : Fld Z h a O n d v) (hd : decode c.code pc = .ok (.getfield index, 3))
    (K : ∀ T', Stand p l e R s m args below meth c T' locs cells slots → T'.heap = h → Go p e below (T'.setTop (mkF m (pc + 3) Ls (v :: S))) P) : Go p e below (T.setTop (mkF m pc Ls (.ref a :: S))) P := by
  obtain ⟨T', X', e', st⟩ := RoadKit.getF X hx hZ hown w via eT F (g := mkF m pc Ls (.ref a :: S)) rfl rfl hd
  exact Go.st st (K T' X' e')
theorem putF (X : Stand p l e R s m args below meth c T locs cells slots) (hx : p.tables.exec = Jvm.exec) (hZ : Z.Warmed39 s.vm) {own : String} {index : Nat} (hown : s.vm.findClass own = some m.cls) {R0 O n d host C : String} {kk : Nat} {ty : FieldType} (w : (Cond.fieldLink own index R0 n d).before a0 Z = true ∨ (Cond.fieldLinkNest own index R0 n d host).before a0 Z = true) (via : Via Z R0 O n d) (eT : T.heap = h) {a : Addr} {v old : Value} (F : Fld Z h a O n d old) (E : Exa Z h a C) (Lw : (Cond.lays C O n d).before a0 Z = true ∨ ((Cond.laysFinal C O n d).before a0 Z = true ∧ own = O ∧ meth.name = "<init>")) (wi : (Cond.instantiable C kk).before a0 Z = true)
    (hty : parseFieldDescriptor d = some ty) (hn : narrow ty v = v) (hf : fits ty v = true) (hd : decode c.code pc = .ok (.putfield index, 3))
    (K : ∀ T' h', Stand p l e R s m args below meth c T' (locs ++ [⟨a, Jvm.RoadKit.slotOf Z O n d⟩]) cells slots → T'.heap = h' → Wr h h' a (Jvm.RoadKit.slotOf Z O n d) v → Go p e below (T'.setTop (mkF m (pc + 3) Ls S)) P) : Go p e below (T.setTop (mkF m pc Ls (v :: .ref a :: S))) P := by
  obtain ⟨T', h', X', e', W', st⟩ := RoadKit.putF X hx hZ hown w via eT F E Lw wi hty hn hf (g := mkF m pc Ls (v :: .ref a :: S)) rfl rfl hd
  exact Go.st st (K T' h' X' e' W')
theorem putFN (X : Stand p l e R s m args below meth c T locs cells slots) (hx : p.tables.exec = Jvm.exec) (hZ : Z.Warmed39 s.vm) {own : String} {index : Nat} (hown : s.vm.findClass own = some m.cls) {R0 O n d C : String} {kk : Nat} {ty : FieldType} (w : (Cond.fieldLink own index R0 n d).before a0 Z = true) (via : Via Z R0 O n d) (eT : T.heap = h) {a : Addr} {v v' old : Value} (F : Fld Z h a O n d old) (E : Exa Z h a C) (Lw : (Cond.lays C O n d).before a0 Z = true ∨ ((Cond.laysFinal C O n d).before a0 Z = true ∧ own = O ∧ meth.name = "<init>")) (wi : (Cond.instantiable C kk).before a0 Z = true)
    (hty : parseFieldDescriptor d = some ty) (hn : narrow ty v = v') (hf : fits ty v' = true) (hd : decode c.code pc = .ok (.putfield index, 3))
    (K : ∀ T' h', Stand p l e R s m args below meth c T' (locs ++ [⟨a, Jvm.RoadKit.slotOf Z O n d⟩]) cells slots → T'.heap = h' → Wr h h' a (Jvm.RoadKit.slotOf Z O n d) v' → Go p e below (T'.setTop (mkF m (pc + 3) Ls S)) P) : Go p e below (T.setTop (mkF m pc Ls (v :: .ref a :: S))) P := by
  obtain ⟨T', h', X', e', W', st⟩ := RoadKit.putFN X hx hZ hown w via eT F E Lw wi hty hn hf (g := mkF m pc Ls (v :: .ref a :: S)) rfl rfl hd
  exact Go.st st (K T' h' X' e' W')
theorem newO (X : Stand p l e R s m args below meth c T locs cells slots) (hx : p.tables.exec = Jvm.exec) (hZ : Z.Warmed39 s.vm) {own : String} {index : Nat} (hown : s.vm.findClass own = some m.cls) {C : String} {n : Nat} (w : (Cond.classLink own index C).before a0 Z = true) (wi : (Cond.instantiable C n).before a0 Z = true) (wz : (Cond.initialized C).before a0 Z = true) (eT : T.heap = h) (hd : decode c.code pc = .ok (.new index, 3)) (hc : cells + 1 ≤ R.cells) (hl : slots + n ≤ R.slots)
    (K : ∀ T' h' b, Stand p l e R s m args below meth c T' locs (cells + 1) (slots + n) → T'.heap = h' → Ext h h' → b = h.size → Exa Z h' b C → (∀ {O nm d : String} {ty : FieldType}, Laid Z a0 C O nm d → parseFieldDescriptor d = some ty → Fld Z h' b O nm d (defaultValue ty)) → Go p e below (T'.setTop (mkF m (pc + 3) Ls (.ref b :: S))) P) : Go p e below (T.setTop (mkF m pc Ls S)) P := by
  obtain ⟨T', h', X', e', E', A', D', -, st⟩ := RoadKit.newO X hx hZ hown w wi wz eT (g := mkF m pc Ls S) rfl hd hc hl
  exact Go.st st (K T' h' _ X' e' E' rfl A' D')
theorem initO (X : Stand p l e R s m args below meth c T locs cells slots) (hx : p.tables.exec = Jvm.exec) (hZ : Z.Warmed39 s.vm) {own : String} {index : Nat} (hown : s.vm.findClass own = some m.cls) (w1 : (Cond.methodLink own index Lib.objectInit).before a0 Z = true) (w2 : (Cond.instanceMethod Lib.objectInit).before a0 Z = true) (w3 : (Cond.code Lib.objectInit ⟨#[0xb1]⟩ 1 none).before a0 Z = true) (eT : T.heap = h) (hsize : Ls.size = c.maxLocals) {a : Addr} (hd : decode c.code pc = .ok (.invokespecial index, 3)) (hf : 1 ≤ R.frames) (hl : (S.map fun v => v.category).sum + 12 ≤ R.locals)
    (K : ∀ T', Stand p l e R s m args below meth c T' locs cells slots → T'.heap = h → Go p e below (T'.setTop (mkF m (pc + 3) Ls S)) P) : Go p e below (T.setTop (mkF m pc Ls (.ref a :: S))) P := by
  obtain ⟨T', X', e', st⟩ := RoadKit.initO X hx hZ hown w1 w2 w3 eT (g := mkF m pc Ls (.ref a :: S)) rfl hsize rfl hd hf (W := (S.map fun v => v.category).sum) (by show 2 * 0 + _ ≤ _; omega) hl
  exact Go.st st (K T' X' e')
theorem newP (X : Stand p l e R s m args below meth c T locs cells slots) (hx : p.tables.exec = Jvm.exec) (hZ : Z.Warmed39 s.vm) {aty : ArrayType} (w : (Cond.arrayClass (newarray.typeOf aty)).before a0 Z = true) (eT : T.heap = h) {n : Int32} (hd : decode c.code pc = .ok (.newarray aty, 2)) (hn : ¬ n < 0) {cap : Nat} (hcap : n.toNatClampNeg ≤ cap) (hb : cap * 8 ≤ 536870912) (hc : cells + 1 ≤ R.cells) (hl : slots + cap ≤ R.slots) {ad : String} (had : "[" ++ (newarray.typeOf aty).toString = ad)
    (K : ∀ T' h' b k, Stand p l e R s m args below meth c T' locs (cells + 1) (slots + cap) → T'.heap = h' → Ext h h' → b = h.size → Arf Z h' b k (newarray.typeOf aty) n (fun _ => defaultValue (newarray.typeOf aty)) → Exa Z h' b ad → Go p e below (T'.setTop (mkF m (pc + 2) Ls (.ref b :: S))) P) : Go p e below (T.setTop (mkF m pc Ls (.int n :: S))) P := by
  obtain ⟨T', h', k, X', e', E', A', B', st⟩ := newPE X hx hZ w eT (g := mkF m pc Ls (.int n :: S)) rfl hd rfl hn hcap hb hc hl had
  exact Go.st st (K T' h' _ k X' e' E' rfl (Arf.new A' hn) B')
theorem newR (X : Stand p l e R s m args below meth c T locs cells slots) (hx : p.tables.exec = Jvm.exec) (hZ : Z.Warmed39 s.vm) {own : String} {index : Nat} (hown : s.vm.findClass own = some m.cls) {C : String} (w1 : (Cond.classLink own index C).before a0 Z = true) (w2 : (Cond.arrayOver (.object C)).before a0 Z = true) (eT : T.heap = h) {n : Int32} (hd : decode c.code pc = .ok (.anewarray index, 3)) (hn : ¬ n < 0) {cap : Nat} (hcap : n.toNatClampNeg ≤ cap) (hb : cap * 8 ≤ 536870912) (hc : cells + 1 ≤ R.cells) (hl : slots + cap ≤ R.slots) {ad : String} (had : "[" ++ (FieldType.object C).toString = ad)
    (K : ∀ T' h' b k, Stand p l e R s m args below meth c T' locs (cells + 1) (slots + cap) → T'.heap = h' → Ext h h' → b = h.size → Arf Z h' b k (.object C) n (fun _ => .null) → Exa Z h' b ad → Ovr Z k C → Go p e below (T'.setTop (mkF m (pc + 3) Ls (.ref b :: S))) P) : Go p e below (T.setTop (mkF m pc Ls (.int n :: S))) P := by
  obtain ⟨T', h', k, X', e', E', A', B', O', st⟩ := newRE X hx hZ hown w1 w2 eT (g := mkF m pc Ls (.int n :: S)) rfl hd rfl hn hcap hb hc hl had
  exact Go.st st (K T' h' _ k X' e' E' rfl (Arf.new A' hn) B' O')
theorem iastore (X : Stand p l e R s m args below meth c T locs cells slots) (hx : p.tables.exec = Jvm.exec) (hZ : Z.Warmed39 s.vm) (eT : T.heap = h) {a : Addr} {k : ClassId} {n : Int32} {f : Nat → Value} (F : Arf Z h a k .int n f) {j x : Int32} (i : Nat) (hji : j.toNatClampNeg = i) (hj : ¬ j < 0 ∧ j < n) (v : Value) (hv : .int x = v) (hd : decode c.code pc = .ok (.iastore, 1))
    (K : ∀ T' h', Stand p l e R s m args below meth c T' (locs ++ [⟨a, j.toNatClampNeg⟩]) cells slots → T'.heap = h' → Wr h h' a j.toNatClampNeg v → Arf Z h' a k .int n (upd f i v) → Go p e below (T'.setTop (mkF m (pc + 1) Ls S)) P) : Go p e below (T.setTop (mkF m pc Ls (.int x :: .int j :: .ref a :: S))) P := by
  obtain ⟨cl, A, q, S', q3, H', G'⟩ := F
  have hin := inb_of S' hj
  obtain ⟨T', h', X', e', W', st⟩ := RoadKit.stI X hx hZ eT A (j := j) hin (g := mkF m pc Ls (.int x :: .int j :: .ref a :: S)) rfl rfl hd
  subst hv
  exact Go.st st (K T' h' X' e' W' (Arf.set A q S' q3 H' G' rfl W' i hji hin))
theorem castore (X : Stand p l e R s m args below meth c T locs cells slots) (hx : p.tables.exec = Jvm.exec) (hZ : Z.Warmed39 s.vm) (eT : T.heap = h) {a : Addr} {k : ClassId} {n : Int32} {f : Nat → Value} (F : Arf Z h a k .char n f) {j x : Int32} (i : Nat) (hji : j.toNatClampNeg = i) (hj : ¬ j < 0 ∧ j < n) (v : Value) (hv : .int (nar .char x) = v) (hd : decode c.code pc = .ok (.castore, 1))
    (K : ∀ T' h', Stand p l e R s m args below meth c T' (locs ++ [⟨a, j.toNatClampNeg⟩]) cells slots → T'.heap = h' → Wr h h' a j.toNatClampNeg v → Arf Z h' a k .char n (upd f i v) → Go p e below (T'.setTop (mkF m (pc + 1) Ls S)) P) : Go p e below (T.setTop (mkF m pc Ls (.int x :: .int j :: .ref a :: S))) P := by
  obtain ⟨cl, A, q, S', q3, H', G'⟩ := F
  have hin := inb_of S' hj
  obtain ⟨T', h', X', e', W', st⟩ := RoadKit.stC X hx hZ eT A (j := j) hin (g := mkF m pc Ls (.int x :: .int j :: .ref a :: S)) rfl rfl hd
  subst hv
  exact Go.st st (K T' h' X' e' W' (Arf.set A q S' q3 H' G' (fits_nar_char _) W' i hji hin))
theorem bastoreB (X : Stand p l e R s m args below meth c T locs cells slots) (hx : p.tables.exec = Jvm.exec) (hZ : Z.Warmed39 s.vm) (eT : T.heap = h) {a : Addr} {k : ClassId} {n : Int32} {f : Nat → Value} (F : Arf Z h a k .byte n f) {j x : Int32} (i : Nat) (hji : j.toNatClampNeg = i) (hj : ¬ j < 0 ∧ j < n) (v : Value) (hv : .int (nar .byte x) = v) (hd : decode c.code pc = .ok (.bastore, 1))
    (K : ∀ T' h', Stand p l e R s m args below meth c T' (locs ++ [⟨a, j.toNatClampNeg⟩]) cells slots → T'.heap = h' → Wr h h' a j.toNatClampNeg v → Arf Z h' a k .byte n (upd f i v) → Go p e below (T'.setTop (mkF m (pc + 1) Ls S)) P) : Go p e below (T.setTop (mkF m pc Ls (.int x :: .int j :: .ref a :: S))) P := by
  obtain ⟨cl, A, q, S', q3, H', G'⟩ := F
  have hin := inb_of S' hj
  obtain ⟨T', h', X', e', W', st⟩ := RoadKit.stB X hx hZ eT A (j := j) hin (g := mkF m pc Ls (.int x :: .int j :: .ref a :: S)) rfl rfl hd
  subst hv
  exact Go.st st (K T' h' X' e' W' (Arf.set A q S' q3 H' G' (fits_nar_byte _) W' i hji hin))
theorem bastoreZ (X : Stand p l e R s m args below meth c T locs cells slots) (hx : p.tables.exec = Jvm.exec) (hZ : Z.Warmed39 s.vm) (eT : T.heap = h) {a : Addr} {k : ClassId} {n : Int32} {f : Nat → Value} (F : Arf Z h a k .boolean n f) {j x : Int32} (i : Nat) (hji : j.toNatClampNeg = i) (hj : ¬ j < 0 ∧ j < n) (v : Value) (hv : .int (nar .boolean x) = v) (hd : decode c.code pc = .ok (.bastore, 1))
    (K : ∀ T' h', Stand p l e R s m args below meth c T' (locs ++ [⟨a, j.toNatClampNeg⟩]) cells slots → T'.heap = h' → Wr h h' a j.toNatClampNeg v → Arf Z h' a k .boolean n (upd f i v) → Go p e below (T'.setTop (mkF m (pc + 1) Ls S)) P) : Go p e below (T.setTop (mkF m pc Ls (.int x :: .int j :: .ref a :: S))) P := by
  obtain ⟨cl, A, q, S', q3, H', G'⟩ := F
  have hin := inb_of S' hj
  obtain ⟨T', h', X', e', W', st⟩ := RoadKit.stZ X hx hZ eT A (j := j) hin (g := mkF m pc Ls (.int x :: .int j :: .ref a :: S)) rfl rfl hd
  subst hv
  exact Go.st st (K T' h' X' e' W' (Arf.set A q S' q3 H' G' (fits_nar_bool _) W' i hji hin))
theorem aastore (X : Stand p l e R s m args below meth c T locs cells slots) (hx : p.tables.exec = Jvm.exec) (hZ : Z.Warmed39 s.vm) (eT : T.heap = h) {a : Addr} {k : ClassId} {ty : FieldType} {n : Int32} {f : Nat → Value} (F : Arf Z h a k ty n f) {j : Int32} {v : Value} (i : Nat) (hji : j.toNatClampNeg = i) (hj : ¬ j < 0 ∧ j < n) (hty : ty.isReference = true) (hfit : fits ty v = true) (hst : v = .null ∨ ∃ y C, v = .ref y ∧ Ovr Z k C ∧ Ins Z h y C true) (hd : decode c.code pc = .ok (.aastore, 1))
    (K : ∀ T' h', Stand p l e R s m args below meth c T' (locs ++ [⟨a, j.toNatClampNeg⟩]) cells slots → T'.heap = h' → Wr h h' a j.toNatClampNeg v → Arf Z h' a k ty n (upd f i v) → Go p e below (T'.setTop (mkF m (pc + 1) Ls S)) P) : Go p e below (T.setTop (mkF m pc Ls (v :: .int j :: .ref a :: S))) P := by
  obtain ⟨cl, A, q, S', q3, H', G'⟩ := F
  have hin := inb_of S' hj
  have sto : Sto Z h a v := by
    rcases hst with rfl | ⟨y, C, rfl, O, I⟩
    · exact Or.inl rfl
    · exact Sto.ofV A q O I
  obtain ⟨T', h', X', e', W', st⟩ := stR X hx hZ eT A (j := j) hin hty sto (g := mkF m pc Ls (v :: .int j :: .ref a :: S)) rfl rfl hd
  exact Go.st st (K T' h' X' e' W' (Arf.set A q S' q3 H' G' hfit W' i hji hin))
theorem iaload (X : Stand p l e R s m args below meth c T locs cells slots) (hx : p.tables.exec = Jvm.exec) (hZ : Z.Warmed39 s.vm) (eT : T.heap = h) {a : Addr} {k : ClassId} {n : Int32} {f : Nat → Value} (F : Arf Z h a k .int n f) {j : Int32} (hj : ¬ j < 0 ∧ j < n) (v : Value) (hv : f j.toNatClampNeg = v) (hd : decode c.code pc = .ok (.iaload, 1)) (K : Go p e below (T.setTop (mkF m (pc + 1) Ls (v :: S))) P) : Go p e below (T.setTop (mkF m pc Ls (.int j :: .ref a :: S))) P := by
  obtain ⟨cl, A, q, S', q3, H', G'⟩ := F
  have hin := inb_of S' hj
  exact Go.st (X.iaload hx (j := j) (v := v) (by rw [eT]; exact A.1) (State.isArrayOf_alike hZ.alike A.2.1) A.2.2 hin ((H' _ (Nat.lt_of_not_le fun q_ => hin (Or.inr q_))).trans (congrArg some hv)) (g := mkF m pc Ls (.int j :: .ref a :: S)) rfl rfl hd) K
theorem caload (X : Stand p l e R s m args below meth c T locs cells slots) (hx : p.tables.exec = Jvm.exec) (hZ : Z.Warmed39 s.vm) (eT : T.heap = h) {a : Addr} {k : ClassId} {n : Int32} {f : Nat → Value} (F : Arf Z h a k .char n f) {j : Int32} (hj : ¬ j < 0 ∧ j < n) (v : Value) (hv : f j.toNatClampNeg = v) (hd : decode c.code pc = .ok (.caload, 1)) (K : Go p e below (T.setTop (mkF m (pc + 1) Ls (v :: S))) P) : Go p e below (T.setTop (mkF m pc Ls (.int j :: .ref a :: S))) P := by
  obtain ⟨cl, A, q, S', q3, H', G'⟩ := F
  have hin := inb_of S' hj
  exact Go.st (X.caload hx (j := j) (v := v) (by rw [eT]; exact A.1) (State.isArrayOf_alike hZ.alike A.2.1) A.2.2 hin ((H' _ (Nat.lt_of_not_le fun q_ => hin (Or.inr q_))).trans (congrArg some hv)) (g := mkF m pc Ls (.int j :: .ref a :: S)) rfl rfl hd) K
theorem baloadB (X : Stand p l e R s m args below meth c T locs cells slots) (hx : p.tables.exec = Jvm.exec) (hZ : Z.Warmed39 s.vm) (eT : T.heap = h) {a : Addr} {k : ClassId} {n : Int32} {f : Nat → Value} (F : Arf Z h a k .byte n f) {j : Int32} (hj : ¬ j < 0 ∧ j < n) (v : Value) (hv : f j.toNatClampNeg = v) (hd : decode c.code pc = .ok (.baload, 1)) (K : Go p e below (T.setTop (mkF m (pc + 1) Ls (v :: S))) P) : Go p e below (T.setTop (mkF m pc Ls (.int j :: .ref a :: S))) P := by
  obtain ⟨cl, A, q, S', q3, H', G'⟩ := F
  have hin := inb_of S' hj
  exact Go.st (X.baloadBytes hx (j := j) (v := v) (by rw [eT]; exact A.1) (State.isArrayOf_alike hZ.alike A.2.1) A.2.2 hin ((H' _ (Nat.lt_of_not_le fun q_ => hin (Or.inr q_))).trans (congrArg some hv)) (g := mkF m pc Ls (.int j :: .ref a :: S)) rfl rfl hd) K
theorem baloadZ (X : Stand p l e R s m args below meth c T locs cells slots) (hx : p.tables.exec = Jvm.exec) (hZ : Z.Warmed39 s.vm) (eT : T.heap = h) {a : Addr} {k : ClassId} {n : Int32} {f : Nat → Value} (F : Arf Z h a k .boolean n f) {j : Int32} (hj : ¬ j < 0 ∧ j < n) (v : Value) (hv : f j.toNatClampNeg = v) (hd : decode c.code pc = .ok (.baload, 1)) (K : Go p e below (T.setTop (mkF m (pc + 1) Ls (v :: S))) P) : Go p e below (T.setTop (mkF m pc Ls (.int j :: .ref a :: S))) P := by
  obtain ⟨cl, A, q, S', q3, H', G'⟩ := F
  have hin := inb_of S' hj
  exact Go.st (X.baloadBooleans hx (j := j) (v := v) (by rw [eT]; exact A.1) (State.isArrayOf_alike hZ.alike A.2.1) A.2.2 hin ((H' _ (Nat.lt_of_not_le fun q_ => hin (Or.inr q_))).trans (congrArg some hv)) (g := mkF m pc Ls (.int j :: .ref a :: S)) rfl rfl hd) K
theorem aaload (X : Stand p l e R s m args below meth c T locs cells slots) (hx : p.tables.exec = Jvm.exec) (hZ : Z.Warmed39 s.vm) (eT : T.heap = h) {a : Addr} {k : ClassId} {ty : FieldType} {n : Int32} {f : Nat → Value} (F : Arf Z h a k ty n f) {j : Int32} (hty : ty.isReference = true) (hj : ¬ j < 0 ∧ j < n) (v : Value) (hv : f j.toNatClampNeg = v) (hd : decode c.code pc = .ok (.aaload, 1)) (K : Go p e below (T.setTop (mkF m (pc + 1) Ls (v :: S))) P) : Go p e below (T.setTop (mkF m pc Ls (.int j :: .ref a :: S))) P := by
  obtain ⟨cl, A, q, S', q3, H', G'⟩ := F
  have hin := inb_of S' hj
  exact Go.st (X.aaload hx (j := j) (v := v) (by rw [eT]; exact A.1) (State.isArrayOf_alike hZ.alike A.2.1) hty A.2.2 hin ((H' _ (Nat.lt_of_not_le fun q_ => hin (Or.inr q_))).trans (congrArg some hv)) (g := mkF m pc Ls (.int j :: .ref a :: S)) rfl rfl hd) K
theorem alen (X : Stand p l e R s m args below meth c T locs cells slots) (hx : p.tables.exec = Jvm.exec) (hZ : Z.Warmed39 s.vm) (eT : T.heap = h) {a : Addr} {k : ClassId} {ty : FieldType} {n : Int32} {f : Nat → Value} (F : Arf Z h a k ty n f) (hd : decode c.code pc = .ok (.arraylength, 1)) (K : Go p e below (T.setTop (mkF m (pc + 1) Ls (.int n :: S))) P) : Go p e below (T.setTop (mkF m pc Ls (.ref a :: S))) P := by
  obtain ⟨cl, A, q, S', q3, H', G'⟩ := F
  have K' := K
  rw [← len_of S' q3] at K'
  exact Go.st (X.arraylength hx (by rw [eT]; exact A.1) (State.isArrayOf_alike hZ.alike A.2.1) (g := mkF m pc Ls (.ref a :: S)) rfl rfl hd) K'
theorem castY (X : Stand p l e R s m args below meth c T locs cells slots) (hx : p.tables.exec = Jvm.exec) (hZ : Z.Warmed39 s.vm) {own : String} {index : Nat} (hown : s.vm.findClass own = some m.cls) {K0 : String} (w : (Cond.classLink own index K0).before a0 Z = true) (eT : T.heap = h) {a : Addr} (F : Ins Z h a K0 true) (hd : decode c.code pc = .ok (.checkcast index, 3)) (K : ∀ T', Stand p l e R s m args below meth c T' locs cells slots → T'.heap = h → Go p e below (T'.setTop (mkF m (pc + 3) Ls (.ref a :: S))) P) : Go p e below (T.setTop (mkF m pc Ls (.ref a :: S))) P := by
  obtain ⟨T', X', e', st⟩ := RoadKit.castY X hx hZ hown w eT F (g := mkF m pc Ls (.ref a :: S)) rfl rfl hd
  exact Go.st st (K T' X' e')
theorem clone (X : Stand p l e R s m args below meth c T locs cells slots) (hx : p.tables.exec = Jvm.exec) (hZ : Z.Warmed39 s.vm) {own : String} {index : Nat} (hown : s.vm.findClass own = some m.cls) {ad : String} (w1 : (Cond.methodLink own index ⟨ad, "clone", "()Ljava/lang/Object;"⟩).before a0 Z = true) (w2 : (Cond.sameMethod ad "java/lang/Object" "clone" "()Ljava/lang/Object;").before a0 Z = true) (w3 : (Cond.native ⟨"java/lang/Object", "clone", "()Ljava/lang/Object;"⟩).before a0 Z = true) (w4 : (Cond.instanceMethod ⟨"java/lang/Object", "clone", "()Ljava/lang/Object;"⟩).before a0 Z = true) (w5 : (Cond.selects ad ⟨ad, "clone", "()Ljava/lang/Object;"⟩ ⟨"java/lang/Object", "clone", "()Ljava/lang/Object;"⟩).before a0 Z = true) (w6 : (Cond.castable ad "java/lang/Cloneable").before a0 Z = true)
    (eT : T.heap = h) {a : Addr} {k : ClassId} {ty : FieldType} {n : Int32} {f : Nat → Value} (F : Arf Z h a k ty n f) (E : Exa Z h a ad) (hsize : Ls.size = c.maxLocals) (hd : decode c.code pc = .ok (.invokevirtual index, 3)) (hf : 1 ≤ R.frames) {cap : Nat} (hl : (S.map fun v => v.category).sum + 14 ≤ R.locals) (hcap : n.toNatClampNeg ≤ cap) (hc : cells + 1 ≤ R.cells) (hsl : slots + cap ≤ R.slots)
    (K : ∀ T' h' b, Stand p l e R s m args below meth c T' locs (cells + 1) (slots + cap) → T'.heap = h' → Ext h h' → b = h.size → Arf Z h' b k ty n f → Exa Z h' b ad → Go p e below (T'.setTop (mkF m (pc + 3) Ls (.ref b :: S))) P) : Go p e below (T.setTop (mkF m pc Ls (.ref a :: S))) P := by
  obtain ⟨T', h', X', e', E', A', B', st⟩ := cloneH X hx hZ hown w1 w2 w3 w4 w5 w6 eT (Arv.arh (Arf.arv F .null)) E (g := mkF m pc Ls (.ref a :: S)) rfl hsize rfl hd hf (W := (S.map fun v => v.category).sum) (by show 2 * 0 + _ ≤ _; omega) hl hcap hc hsl
  exact Go.st st (K T' h' _ X' e' E' rfl (Arf.ofArv (show Arv Z h' h.size k ty n ((List.range n.toNatClampNeg).map f) .null from A') fun i hi => own_mapD f .null _ i hi) B')
theorem copy (X : Stand p l e R s m args below meth c T locs cells slots) (hx : p.tables.exec = Jvm.exec) (hZ : Z.Warmed39 s.vm) {own : String} {index : Nat} (hown : s.vm.findClass own = some m.cls) (w1 : (Cond.methodLink own index Jvm.Stand.acN).before a0 Z = true) (w2 : (Cond.native Jvm.Stand.acN).before a0 Z = true) (w3 : (Cond.static Jvm.Stand.acN).before a0 Z = true) (w4 : (Cond.initialized "java/lang/System").before a0 Z = true) (eT : T.heap = h)
    {a b : Addr} {k k' : ClassId} {ty : FieldType} {n n' sp dp nn : Int32} {f g : Nat → Value} (A : Arf Z h a k ty n f) (B : Arf Z h b k' ty n' g) (hty : refKind ty = false) (h1 : ¬ sp < 0) (h2 : ¬ dp < 0) (h3 : ¬ nn < 0) (h4 : sp.toNatClampNeg + nn.toNatClampNeg ≤ n.toNatClampNeg) (h5 : dp.toNatClampNeg + nn.toNatClampNeg ≤ n'.toNatClampNeg) {n0 : Nat} (N : Fr n0 locs) (ge : n0 ≤ b) (g' : Nat → Value) (hg' : ∀ i, i < n'.toNatClampNeg → (if dp.toNatClampNeg ≤ i ∧ i < dp.toNatClampNeg + nn.toNatClampNeg then f (sp.toNatClampNeg + (i - dp.toNatClampNeg)) else g i) = g' i)
    (hsize : Ls.size = c.maxLocals) (hd : decode c.code pc = .ok (.invokestatic index, 3)) (hf : 1 ≤ R.frames) (hlo : (S.map fun v => v.category).sum + (nativeFrameWords "java/lang/System" "arraycopy" 5 + 11) ≤ R.locals)
    (K : ∀ T' h' L, Stand p l e R s m args below meth c T' L cells slots → T'.heap = h' → Fr n0 L → Keep h h' [b] → Arf Z h' b k' ty n' g' → Go p e below (T'.setTop (mkF m (pc + 3) Ls S)) P) : Go p e below (T.setTop (mkF m pc Ls (.int nn :: .int dp :: .ref b :: .int sp :: .ref a :: S))) P := by
  obtain ⟨T', h', L, X', e', N', K', V', st⟩ := cpF X hx hZ hown w1 w2 w3 w4 eT A B hty h1 h2 h3 h4 h5 N ge (g := mkF m pc Ls (.int nn :: .int dp :: .ref b :: .int sp :: .ref a :: S)) rfl hsize rfl hd hf (W := (S.map fun v => v.category).sum) (by show 2 * 0 + _ ≤ _; omega) hlo
  exact Go.st st (K T' h' L X' e' N' K' (Arf.same V' hg'))
theorem callS (X : Stand p l e R s m args below meth c T locs cells slots) (hx : p.tables.exec = Jvm.exec) (hZ : Z.Warmed39 s.vm) {own : String} {index : Nat} (hown : s.vm.findClass own = some m.cls) {y : MethodName} {bytes : ByteArray} {maxL : Nat} {ret : Option FieldType} {rm : Room} {as' : Array Value} {Q : Option Value → Heap → List Loc → Prop} {ps : List FieldType} {r : Option FieldType} {argsL : List Value} (hM : MetFree l y (head1 [Cond.code y bytes maxL ret] rm) (fun a U => a = as' ∧ Z.Warmed39 U.vm ∧ U.heap = h) (fun _ _ _ _ _ => True) (fun _ U o U' => ∃ v L, o = .returned v ∧ Q v U'.heap L ∧ FrameEnd U o U' L rm.cells rm.slots)) (wl : (Cond.methodLink own index y).before a0 Z = true) (ws : (Cond.static y).before a0 Z = true) (wi : (Cond.initialized y.cls).before a0 Z = true) (wc : (Cond.code y bytes maxL ret).before a0 Z = true) (hy : y.cls ≠ "java/lang/invoke/MethodHandle" ∧ y.cls ≠ "java/lang/invoke/VarHandle") (eT : T.heap = h) (hpd : parseMethodDescriptor y.desc = some ⟨ps, r⟩) (hlen : argsL.length = ps.length) (has : argsL.toArray = as') (hfr : rm.frames + 1 ≤ R.frames) (hlo : (S.map fun v => v.category).sum + (maxL + 11) + rm.locals ≤ R.locals) (hc : cells + rm.cells ≤ R.cells) (hs : slots + rm.slots ≤ R.slots) (hsize : Ls.size = c.maxLocals) {st0 : List Value} (hst : st0 = argsL.reverse ++ S) (hd : decode c.code pc = .ok (.invokestatic index, 3))
    (K : ∀ T' Lc v, Stand p l e R s m args below meth c T' (locs ++ Lc) (cells + rm.cells) (slots + rm.slots) → Q v T'.heap Lc → Go p e below (T'.setTop (mkF m (pc + 3) Ls (v.toList ++ S))) P) : Go p e below (T.setTop (mkF m pc Ls st0)) P := by
  subst hst
  obtain ⟨v, _, ⟨T', L', k', n'⟩, -, X', ⟨Lc, hQ, l', k', n'⟩, st⟩ := Jvm.LawKit.callS X hx (y := y) hown (mvT hZ wl) (mvT hZ ws) (mvT hZ wi) (mvT hZ wc) hy (backOf (W := (S.map fun v => v.category).sum) hM hZ wc wi hfr hlo) (g := mkF m pc Ls (argsL.reverse ++ S)) rfl hsize (argsL := argsL) (rest := S) (lenOf hpd hlen) rfl (by show 2 * 0 + _ ≤ _; omega) hd (fun _ _ => ⟨has, eT, hc, hs⟩)
  dsimp only [Pt.U, Pt.locs, Pt.cells, Pt.slots] at X' l' k' n' st hQ
  subst l' k' n'
  exact Go.st st (K T' Lc v X' hQ)
theorem callV (X : Stand p l e R s m args below meth c T locs cells slots) (hx : p.tables.exec = Jvm.exec) (hZ : Z.Warmed39 s.vm) {own : String} {index : Nat} (hown : s.vm.findClass own = some m.cls) {y : MethodName} {bytes : ByteArray} {maxL : Nat} {ret : Option FieldType} {rm : Room} {as' : Array Value} {Q : Option Value → Heap → List Loc → Prop} {ps : List FieldType} {r : Option FieldType} {argsL : List Value} {z : MethodName} {C : String} (hM : MetFree l y (head1 [Cond.code y bytes maxL ret] rm) (fun a U => a = as' ∧ Z.Warmed39 U.vm ∧ U.heap = h) (fun _ _ _ _ _ => True) (fun _ U o U' => ∃ v L, o = .returned v ∧ Q v U'.heap L ∧ FrameEnd U o U' L rm.cells rm.slots)) (wl : (Cond.methodLink own index z).before a0 Z = true) (wd : (Cond.declares z).before a0 Z = true) (hnf : NotFace s z) (wsel : (Cond.selects C z y).before a0 Z = true) (wi : (Cond.instanceMethod y).before a0 Z = true) (hy : z.cls ≠ "java/lang/invoke/MethodHandle" ∧ z.cls ≠ "java/lang/invoke/VarHandle") (wc : (Cond.code y bytes maxL ret).before a0 Z = true) (wz : (Cond.initialized y.cls).before a0 Z = true) (eT : T.heap = h) {o : Addr} (E : Exa Z h o C) (hpd : parseMethodDescriptor z.desc = some ⟨ps, r⟩) (hlen : argsL.length = ps.length) (has : (.ref o :: argsL).toArray = as') (hfr : rm.frames + 1 ≤ R.frames) (hlo : (S.map fun v => v.category).sum + (maxL + 11) + rm.locals ≤ R.locals) (hc : cells + rm.cells ≤ R.cells) (hs : slots + rm.slots ≤ R.slots) (hsize : Ls.size = c.maxLocals) {st0 : List Value} (hst : st0 = argsL.reverse ++ .ref o :: S) (hd : decode c.code pc = .ok (.invokevirtual index, 3))
    (K : ∀ T' Lc v, Stand p l e R s m args below meth c T' (locs ++ Lc) (cells + rm.cells) (slots + rm.slots) → Q v T'.heap Lc → Go p e below (T'.setTop (mkF m (pc + 3) Ls (v.toList ++ S))) P) : Go p e below (T.setTop (mkF m pc Ls st0)) P := by
  subst hst
  obtain ⟨cq, kq, qa, qb, qc⟩ := isOf hZ eT E
  obtain ⟨v, _, ⟨T', L', k', n'⟩, -, X', ⟨Lc, hQ, l', k', n'⟩, st⟩ := X.virtualBack hx (y := z) (z := y) hown (mvT hZ wl) (mvT hZ wd) hnf (mvT hZ wsel) (mvT hZ wi) hy (backOf (W := (S.map fun v => v.category).sum) hM hZ wc wz hfr hlo) qa qc (g := mkF m pc Ls (argsL.reverse ++ .ref o :: S)) rfl hsize (Steps.refl _) (argsL := argsL) (rest := S) (lenOf hpd hlen) rfl (by show 2 * 0 + _ ≤ _; omega) hd (fun _ _ => ⟨has, eT, hc, hs⟩)
  dsimp only [Pt.U, Pt.locs, Pt.cells, Pt.slots] at X' l' k' n' st hQ
  subst l' k' n'
  exact Go.tr st (K T' Lc v X' hQ)
theorem callI (X : Stand p l e R s m args below meth c T locs cells slots) (hx : p.tables.exec = Jvm.exec) (hZ : Z.Warmed39 s.vm) {own : String} {index : Nat} (hown : s.vm.findClass own = some m.cls) {y : MethodName} {bytes : ByteArray} {maxL : Nat} {ret : Option FieldType} {rm : Room} {as' : Array Value} {Q : Option Value → Heap → List Loc → Prop} {ps : List FieldType} {r : Option FieldType} {argsL : List Value} (hM : MetFree l y (head1 [Cond.code y bytes maxL ret] rm) (fun a U => a = as' ∧ Z.Warmed39 U.vm ∧ U.heap = h) (fun _ _ _ _ _ => True) (fun _ U o U' => ∃ v L, o = .returned v ∧ Q v U'.heap L ∧ FrameEnd U o U' L rm.cells rm.slots)) (hyi : y.name = "<init>") (wl : (Cond.methodLink own index y).before a0 Z = true) (wi : (Cond.instanceMethod y).before a0 Z = true) (wc : (Cond.code y bytes maxL none).before a0 Z = true) (hret : ret = none) (hy : y.cls ≠ "java/lang/invoke/MethodHandle" ∧ y.cls ≠ "java/lang/invoke/VarHandle") (wz : (Cond.initialized y.cls).before a0 Z = true) (eT : T.heap = h) {o : Addr} (hpd : parseMethodDescriptor y.desc = some ⟨ps, r⟩) (hlen : argsL.length = ps.length) (has : (.ref o :: argsL).toArray = as') (hfr : rm.frames + 1 ≤ R.frames) (hlo : (S.map fun v => v.category).sum + (maxL + 11) + rm.locals ≤ R.locals) (hc : cells + rm.cells ≤ R.cells) (hs : slots + rm.slots ≤ R.slots) (hsize : Ls.size = c.maxLocals) {st0 : List Value} (hst : st0 = argsL.reverse ++ .ref o :: S) (hd : decode c.code pc = .ok (.invokespecial index, 3))
    (K : ∀ T' Lc v, Stand p l e R s m args below meth c T' (locs ++ Lc) (cells + rm.cells) (slots + rm.slots) → Q v T'.heap Lc → Go p e below (T'.setTop (mkF m (pc + 3) Ls (v.toList ++ S))) P) : Go p e below (T.setTop (mkF m pc Ls st0)) P := by
  subst hst hret
  obtain ⟨v, _, ⟨T', L', k', n'⟩, -, X', ⟨Lc, hQ, l', k', n'⟩, st⟩ := X.specialBack hx (y := y) hyi hown (mvT hZ wl) (mvT hZ wi) (mvT hZ wc) hy (backOf (W := (S.map fun v => v.category).sum) hM hZ wc wz hfr hlo) (g := mkF m pc Ls (argsL.reverse ++ .ref o :: S)) rfl hsize (Steps.refl _) (a := o) (argsL := argsL) (rest := S) (lenOf hpd hlen) rfl (by show 2 * 0 + _ ≤ _; omega) hd (fun _ _ => ⟨has, eT, hc, hs⟩)
  dsimp only [Pt.U, Pt.locs, Pt.cells, Pt.slots] at X' l' k' n' st hQ
  subst l' k' n'
  exact Go.tr st (K T' Lc v X' hQ)
theorem selPriv {st : State} {as : Array Value} {y : MethodName} {n : Nat} (hy : y.cls ≠ "java/lang/invoke/MethodHandle" ∧ y.cls ≠ "java/lang/invoke/VarHandle") (hins : (Cond.instantiable y.cls n).before as st = true) (hpriv : (Cond.privateMethod y).before as st = true) (hinst : (Cond.instanceMethod y).before as st = true) : (Cond.selects y.cls y y).before as st = true := by
  obtain ⟨c, k, hc, hk, -, hniab, -, -⟩ := Cond.instantiable_spec hins
  have hni : k.isInterface = false := (Bool.or_eq_false_iff.mp hniab).1
  obtain ⟨mk, methM, hnamed, hmethM, -, -⟩ := Cond.instanceMethod_spec hinst
  have hfound : st.methodFound? y.cls y.name y.desc = some mk := State.methodFound?_of_named hnamed hy
  have hcls : mk.cls = c := Option.some.inj ((findClass_of_methodNamed hnamed).symm.trans hc)
  have hsel : selectMethod {} st.vm c mk = .method mk := selectMethod_private hmethM (Cond.privateMethod_at hpriv mk methM hnamed hmethM)
  simp only [Cond.before, Cond.holds, Cond.value, hc, hfound, hnamed, hsel, hcls, hk]
  simp; exact hni
theorem callP (X : Stand p l e R s m args below meth c T locs cells slots) (hx : p.tables.exec = Jvm.exec) (hZ : Z.Warmed39 s.vm) {own : String} {index : Nat} (hown : s.vm.findClass own = some m.cls) {y : MethodName} {bytes : ByteArray} {maxL : Nat} {ret : Option FieldType} {rm : Room} {as' : Array Value} {Q : Option Value → Heap → List Loc → Prop} {ps : List FieldType} {r : Option FieldType} {argsL : List Value} {C : String} {kk : Nat} (hM : MetFree l y (head1 [Cond.code y bytes maxL ret] rm) (fun a U => a = as' ∧ Z.Warmed39 U.vm ∧ U.heap = h) (fun _ _ _ _ _ => True) (fun _ U o U' => ∃ v L, o = .returned v ∧ Q v U'.heap L ∧ FrameEnd U o U' L rm.cells rm.slots)) (wl : (Cond.methodLink own index y).before a0 Z = true) (wi : (Cond.instanceMethod y).before a0 Z = true) (wn : (Cond.instantiable y.cls kk).before a0 Z = true) (wp : (Cond.privateMethod y).before a0 Z = true) (hy : y.cls ≠ "java/lang/invoke/MethodHandle" ∧ y.cls ≠ "java/lang/invoke/VarHandle") (wc : (Cond.code y bytes maxL ret).before a0 Z = true) (wz : (Cond.initialized y.cls).before a0 Z = true) (eT : T.heap = h) {o : Addr} (E : Exa Z h o C) (hpd : parseMethodDescriptor y.desc = some ⟨ps, r⟩) (hlen : argsL.length = ps.length) (has : (.ref o :: argsL).toArray = as') (hfr : rm.frames + 1 ≤ R.frames) (hlo : (S.map fun v => v.category).sum + (maxL + 11) + rm.locals ≤ R.locals) (hc : cells + rm.cells ≤ R.cells) (hs : slots + rm.slots ≤ R.slots) (hsize : Ls.size = c.maxLocals) {st0 : List Value} (hst : st0 = argsL.reverse ++ .ref o :: S) (hd : decode c.code pc = .ok (.invokevirtual index, 3))
    (K : ∀ T' Lc v, Stand p l e R s m args below meth c T' (locs ++ Lc) (cells + rm.cells) (slots + rm.slots) → Q v T'.heap Lc → Go p e below (T'.setTop (mkF m (pc + 3) Ls (v.toList ++ S))) P) : Go p e below (T.setTop (mkF m pc Ls st0)) P := by
  subst hst
  obtain ⟨cq, q1, q2⟩ := E.cell
  obtain ⟨v, _, ⟨T', L', k', n'⟩, -, X', ⟨Lc, hQ, l', k', n'⟩, st⟩ := X.privateBack hx (y := y) hown (mvT hZ wl) (mvT hZ wi) (mvT hZ (selPriv hy wn wp wi)) (Cond.privateMethod_at (mvP hZ wp (args := #[]))) (mvT hZ wc) hy (backOf (W := (S.map fun v => v.category).sum) hM hZ wc wz hfr hlo) (g := mkF m pc Ls (argsL.reverse ++ .ref o :: S)) rfl hsize (Steps.refl _) (a := o) (by rw [eT]; exact q1) q2 (argsL := argsL) (rest := S) (lenOf hpd hlen) rfl (by show 2 * 0 + _ ≤ _; omega) hd (fun _ _ => ⟨has, eT, hc, hs⟩)
  dsimp only [Pt.U, Pt.locs, Pt.cells, Pt.slots] at X' l' k' n' st hQ
  subst l' k' n'
  exact Go.tr st (K T' Lc v X' hQ)
theorem grid1 (X : Stand p l e R s m args below meth c T locs cells slots) (hx : p.tables.exec = Jvm.exec) (hZ : Z.Warmed39 s.vm) {own : String} {index : Nat} (hown : s.vm.findClass own = some m.cls) {C ad : String} {ty : FieldType} (hC : (FieldType.array ty).toString = C) (had : "[" ++ C = ad) (w1 : (Cond.classLink own index ad).before a0 Z = true) (w2 : (Cond.arrayOver (.array ty)).before a0 Z = true) (w3 : (Cond.arrayClass ty).before a0 Z = true) (eT : T.heap = h) {k : Int32} (hd : decode c.code pc = .ok (.multianewarray index 2, 4)) (hk : ¬ k < 0) {cap : Nat} (hcap : k.toNatClampNeg ≤ cap) (hb : cap * 8 ≤ 536870912) (hdf : fits ty (defaultValue ty) = true) (hdd : (defaultValue ty).isDefault = true) (hc : cells + (1 + 1) ≤ R.cells) (hl : slots + (1 + 1 * cap) ≤ R.slots)
    (K : ∀ T' h' b b1 cA comp, Stand p l e R s m args below meth c T' locs (cells + (1 + 1)) (slots + (1 + 1 * cap)) → T'.heap = h' → Ext h h' → b = h.size → b1 = h.size + 1 → Arf Z h' b cA (.array ty) (1 : Int32) (fun _ => .ref b1) → Arf Z h' b1 comp ty k (fun _ => defaultValue ty) → Exa Z h' b ad → Exa Z h' b1 C → OvrA Z cA ty C → Go p e below (T'.setTop (mkF m (pc + 4) Ls (.ref b :: S))) P) : Go p e below (T.setTop (mkF m pc Ls (.int k :: .int (1 : Int32) :: S))) P := by
  obtain ⟨T', h', cA, comp, X', e', E', V', O', B', I', st⟩ := gridM X hx hZ hown hC had w1 w2 w3 eT (g := mkF m pc Ls (.int k :: .int (1 : Int32) :: S)) rfl hd rfl (by decide) hk (xs := [h.size + 1]) (N := 1) rfl rfl hcap hb (by decide) hdf hdd hc hl
  obtain ⟨A1, B1⟩ := I' 0 (h.size + 1) rfl
  refine Go.st st (K T' h' _ _ cA comp X' e' E' rfl rfl (Arf.ofArv V' fun i hi => ?_) (Arf.new A1 hk) B' B1 O')
  have hi' : i < 1 := hi
  obtain rfl : i = 0 := by omega
  rfl
theorem dupX2 (X : Stand p l e R s m args below meth c T locs cells slots) (hx : p.tables.exec = Jvm.exec) {x y z : Value} (hd : decode c.code pc = .ok (.dup_x2, 1)) (h1 : x.category = 1) (h2 : y.category = 1) (h3 : z.category = 1) (K : Go p e below (T.setTop (mkF m (pc + 1) Ls (x :: y :: z :: x :: S))) P) : Go p e below (T.setTop (mkF m pc Ls (x :: y :: z :: S))) P := by
  refine Go.st (fun _ q_ => ?_) K
  show Steps p.tables e below (T.setTop { method := m, pc := pc, locals := Ls, stack := x :: y :: z :: S, locked := none }) _
  jvm_step X.here [X.here.top, hx, hd, h1, h2, h3]
  exact q_
end GkKit
end Gk
abbrev own_tag (t : Int32) : Prop := ((t.toInt8.toInt32) &&& (255 : Int32)) = t ∧ ¬ (((t.toInt8.toInt32) &&& (31 : Int32)) = (31 : Int32))
theorem own_tagF : ∀ n : Fin 256, (¬ ((Int32.ofNat n.val &&& (31 : Int32)) = (31 : Int32)) → own_tag (Int32.ofNat n.val)) ∧ ((Int32.ofNat n.val &&& (31 : Int32)) = (31 : Int32) → own_tag (Int32.ofNat n.val ^^^ (1 : Int32))) := by decide +kernel
theorem own_tagG {q t : Int32} (e : t = q &&& (255 : Int32)) : (¬ ((t &&& (31 : Int32)) = (31 : Int32)) → own_tag t) ∧ ((t &&& (31 : Int32)) = (31 : Int32) → own_tag (t ^^^ (1 : Int32))) := by
  have h := Jvm.Kit.i32_mask q 255 (k := 8) (by decide) (by decide)
  rw [← e] at h
  have hb : t = Int32.ofNat t.toInt.toNat := by
    apply Int32.toInt_inj.mp
    rw [Int32.toInt_ofNat_small (by omega)]
    omega
  have r := own_tagF ⟨t.toInt.toNat, by omega⟩
  rw [← hb] at r
  exact r
theorem d9_0 : decode jdk_29_method_69_code 0 = .ok (.iload_n 0, 1) := by decide +kernel
theorem d9_1 : decode jdk_29_method_69_code 1 = .ok (.iload_n 1, 1) := by decide +kernel
theorem d9_2 : decode jdk_29_method_69_code 2 = .ok (.if_icmp .gt 7, 3) := by decide +kernel
theorem d9_5 : decode jdk_29_method_69_code 5 = .ok (.iload_n 0, 1) := by decide +kernel
theorem d9_6 : decode jdk_29_method_69_code 6 = .ok (.goto 4, 3) := by decide +kernel
theorem d9_9 : decode jdk_29_method_69_code 9 = .ok (.iload_n 1, 1) := by decide +kernel
theorem d9_10 : decode jdk_29_method_69_code 10 = .ok (.ireturn, 1) := by decide +kernel
theorem ef_rm9 (m : MethodId) (p1 : Int32) (p2 : Int32) : entryFrame m #[(.int p1), (.int p2)] 2 = mkF m 0 #[.val (.int p1), .val (.int p2)] [] := by first | (simp [entryFrame, mkF, argsToLocals, Value.category]; done) | rfl
def Q_rm9 (Z : State) (p1 : Int32) (p2 : Int32) (h0 : Heap) (n0 : Nat) (v : Option Value) (h : Heap) (L : List Loc) : Prop := v = some (.int (if p2 < p1 then p2 else p1)) ∧ Fr n0 L ∧ h = h0
set_option maxRecDepth 65536 in
set_option maxHeartbeats 40000000 in
theorem rm9 (l : Launch) (Z : State) (a0 : Array Value) (hw : ∀ d ∈ tables_1, d.before a0 Z = true) (ws : List Jvm.Cond) (p1 : Int32) (p2 : Int32) (h0 : Heap) (n0 : Nat) (Z0 : n0 ≤ h0.size) :
    MetFree l (⟨"java/lang/Math", "min", "(II)I"⟩ : MethodName) (head1 (Jvm.Cond.code (⟨"java/lang/Math", "min", "(II)I"⟩ : MethodName) jdk_29_method_69_code 2 (some .int) :: ws) ({ frames := 0, cells := 0, slots := 0, locals := 0 } : Room)) (fun a U => a = #[(.int p1), (.int p2)] ∧ Z.Warmed39 U.vm ∧ U.heap = h0) (fun _ _ _ _ _ => True) (fun _ U o U' => ∃ v L, o = .returned v ∧ Q_rm9 Z p1 p2 h0 n0 v U'.heap L ∧ FrameEnd U o U' L ({ frames := 0, cells := 0, slots := 0, locals := 0 } : Room).cells ({ frames := 0, cells := 0, slots := 0, locals := 0 } : Room).slots) := by
  refine MetFree.of_bodySF (Jvm.Free.JP.mathPlain rfl (by decide +kernel)) hisR ?_
  intro p e s m args below meth c s₁ Bd hml0 hP hK
  obtain ⟨rfl, hZ, hh⟩ := hP
  have hx := Bd.exec
  have hby := Bd.bytes
  have hml : c.maxLocals = 2 := hml0
  have hown : s.vm.findClass "java/lang/Math" = some m.cls := findClass_of_methodNamed Bd.named
  have hnm := (name_of_methodNamed Bd.named Bd.method).1
  have X0 : Stand p l e ({ frames := 0, cells := 0, slots := 0, locals := 0 } : Room) s m #[(.int p1), (.int p2)] below meth c s₁ [] 0 0 := Stand.of_body Bd
  have e0 : s₁.heap = h0 := by rw [← hh, Bd.state]; rfl
  have N0 := Fr.nil n0
  show Go p e below (s₁.setTop (entryFrame m #[(.int p1), (.int p2)] 2)) (fun o U' => ∃ v L, o = .returned v ∧ Q_rm9 Z p1 p2 h0 n0 v U'.heap L ∧ FrameEnd s o U' L ({ frames := 0, cells := 0, slots := 0, locals := 0 } : Room).cells ({ frames := 0, cells := 0, slots := 0, locals := 0 } : Room).slots)
  rw [ef_rm9]
  refine Gk.iloadN X0 hx (hb hby d9_0) rfl ?_
  refine Gk.iloadN X0 hx (hb hby d9_1) rfl ?_
  by_cases hc2 : p2 < p1
  · refine Gk.icmpYes X0 hx (hb hby d9_2) (tlt hc2).2.2.1 9 (by decide) (by decide) ?_
    refine Gk.iloadN X0 hx (hb hby d9_9) rfl ?_
    refine Go.fin X0 (v := some (.int p2)) (fun h_ => by rw [Bd.returns] at h_; cases h_) Bd.notSynchronized (fun _ hr => retOut X0 hx Bd.returns rfl (Or.inl ⟨rfl, Or.inl rfl, _, rfl⟩) (hb hby d9_10) hr) (fun U' hU hF => ⟨_, _, rfl, ?_, hF.1, hF.2.1, hF.2.2.mono (by decide) (by decide)⟩)
    rw [hU, e0]
    exact ⟨(congrArg (fun z_ : Int32 => some (Value.int z_)) (show p2 = (if p2 < p1 then p2 else p1) from by simp [hc2])), N0, rfl⟩
  · refine Gk.icmpNo X0 hx (hb hby d9_2) (flt hc2).2.2.1 ?_
    refine Gk.iloadN X0 hx (hb hby d9_5) rfl ?_
    refine Gk.goto X0 hx (hb hby d9_6) 10 (by decide) (by decide) ?_
    refine Go.fin X0 (v := some (.int p1)) (fun h_ => by rw [Bd.returns] at h_; cases h_) Bd.notSynchronized (fun _ hr => retOut X0 hx Bd.returns rfl (Or.inl ⟨rfl, Or.inl rfl, _, rfl⟩) (hb hby d9_10) hr) (fun U' hU hF => ⟨_, _, rfl, ?_, hF.1, hF.2.1, hF.2.2.mono (by decide) (by decide)⟩)
    rw [hU, e0]
    exact ⟨(congrArg (fun z_ : Int32 => some (Value.int z_)) (show p1 = (if p2 < p1 then p2 else p1) from by simp [hc2])), N0, rfl⟩
theorem d8_0 : decode jdk_65_method_131_code 0 = .ok (.iload_n 1, 1) := by decide +kernel
theorem d8_1 : decode jdk_65_method_131_code 1 = .ok (.iload_n 0, 1) := by decide +kernel
theorem d8_2 : decode jdk_65_method_131_code 2 = .ok (.if_icmp .ge 35, 3) := by decide +kernel
theorem d8_37 : decode jdk_65_method_131_code 37 = .ok (.return_, 1) := by decide +kernel
theorem pn_11 : plainName "java/util/Arrays" = true := by first | (simp [plainName, overriddenIn]; done) | decide +kernel
theorem ef_rm8 (m : MethodId) (p1 : Int32) (p2 : Int32) : entryFrame m #[(.int p1), (.int p2)] 2 = mkF m 0 #[.val (.int p1), .val (.int p2)] [] := by first | (simp [entryFrame, mkF, argsToLocals, Value.category]; done) | rfl
def Q_rm8 (Z : State) (p1 : Int32) (p2 : Int32) (h0 : Heap) (n0 : Nat) (v : Option Value) (h : Heap) (L : List Loc) : Prop := v = none ∧ Fr n0 L ∧ h = h0
set_option maxRecDepth 65536 in
set_option maxHeartbeats 40000000 in
theorem rm8 (l : Launch) (Z : State) (a0 : Array Value) (hw : ∀ d ∈ tables_1, d.before a0 Z = true) (ws : List Jvm.Cond) (p1 : Int32) (p2 : Int32) (h0 : Heap) (n0 : Nat) (Z0 : n0 ≤ h0.size) (hle : ¬ (p2 < p1)) :
    MetFree l (⟨"java/util/Arrays", "checkLength", "(II)V"⟩ : MethodName) (head1 (Jvm.Cond.code (⟨"java/util/Arrays", "checkLength", "(II)V"⟩ : MethodName) jdk_65_method_131_code 2 none :: ws) ({ frames := 0, cells := 0, slots := 0, locals := 0 } : Room)) (fun a U => a = #[(.int p1), (.int p2)] ∧ Z.Warmed39 U.vm ∧ U.heap = h0) (fun _ _ _ _ _ => True) (fun _ U o U' => ∃ v L, o = .returned v ∧ Q_rm8 Z p1 p2 h0 n0 v U'.heap L ∧ FrameEnd U o U' L ({ frames := 0, cells := 0, slots := 0, locals := 0 } : Room).cells ({ frames := 0, cells := 0, slots := 0, locals := 0 } : Room).slots) := by
  refine MetFree.of_bodySF (plainFor_of_name pn_11) hisR ?_
  intro p e s m args below meth c s₁ Bd hml0 hP hK
  obtain ⟨rfl, hZ, hh⟩ := hP
  have hx := Bd.exec
  have hby := Bd.bytes
  have hml : c.maxLocals = 2 := hml0
  have hown : s.vm.findClass "java/util/Arrays" = some m.cls := findClass_of_methodNamed Bd.named
  have hnm := (name_of_methodNamed Bd.named Bd.method).1
  have X0 : Stand p l e ({ frames := 0, cells := 0, slots := 0, locals := 0 } : Room) s m #[(.int p1), (.int p2)] below meth c s₁ [] 0 0 := Stand.of_body Bd
  have e0 : s₁.heap = h0 := by rw [← hh, Bd.state]; rfl
  have N0 := Fr.nil n0
  show Go p e below (s₁.setTop (entryFrame m #[(.int p1), (.int p2)] 2)) (fun o U' => ∃ v L, o = .returned v ∧ Q_rm8 Z p1 p2 h0 n0 v U'.heap L ∧ FrameEnd s o U' L ({ frames := 0, cells := 0, slots := 0, locals := 0 } : Room).cells ({ frames := 0, cells := 0, slots := 0, locals := 0 } : Room).slots)
  rw [ef_rm8]
  refine Gk.iloadN X0 hx (hb hby d8_0) rfl ?_
  refine Gk.iloadN X0 hx (hb hby d8_1) rfl ?_
  have hc2 : ¬ (p2 < p1) := hle
  refine Gk.icmpYes X0 hx (hb hby d8_2) (flt hc2).2.1 37 (by decide) (by decide) ?_
  refine Go.fin X0 (v := none) (fun _ => rfl) Bd.notSynchronized (fun _ hr => X0.returnOut hx Bd.returns (hb hby d8_37) hr) (fun U' hU hF => ⟨_, _, rfl, ?_, hF.1, hF.2.1, hF.2.2.mono (by decide) (by decide)⟩)
  rw [hU, e0]
  exact ⟨rfl, N0, rfl⟩
theorem pd_0 : parseMethodDescriptor "(II)V" = some ⟨[.int, .int], none⟩ := by decide +kernel
theorem pd_1 : parseMethodDescriptor "(II)I" = some ⟨[.int, .int], some .int⟩ := by decide +kernel
theorem d7_0 : decode jdk_65_method_133_code 0 = .ok (.iload_n 1, 1) := by decide +kernel
theorem d7_1 : decode jdk_65_method_133_code 1 = .ok (.iload_n 2, 1) := by decide +kernel
theorem d7_2 : decode jdk_65_method_133_code 2 = .ok (.invokestatic 343, 3) := by decide +kernel
theorem d7_5 : decode jdk_65_method_133_code 5 = .ok (.iload_n 2, 1) := by decide +kernel
theorem d7_6 : decode jdk_65_method_133_code 6 = .ok (.iload_n 1, 1) := by decide +kernel
theorem d7_7 : decode jdk_65_method_133_code 7 = .ok (.isub, 1) := by decide +kernel
theorem d7_8 : decode jdk_65_method_133_code 8 = .ok (.istore_n 3, 1) := by decide +kernel
theorem d7_9 : decode jdk_65_method_133_code 9 = .ok (.iload_n 3, 1) := by decide +kernel
theorem d7_10 : decode jdk_65_method_133_code 10 = .ok (.newarray .byte, 2) := by decide +kernel
theorem d7_12 : decode jdk_65_method_133_code 12 = .ok (.astore 4, 2) := by decide +kernel
theorem d7_14 : decode jdk_65_method_133_code 14 = .ok (.aload_n 0, 1) := by decide +kernel
theorem d7_15 : decode jdk_65_method_133_code 15 = .ok (.iload_n 1, 1) := by decide +kernel
theorem d7_16 : decode jdk_65_method_133_code 16 = .ok (.aload 4, 2) := by decide +kernel
theorem d7_18 : decode jdk_65_method_133_code 18 = .ok (.iconst 0, 1) := by decide +kernel
theorem d7_19 : decode jdk_65_method_133_code 19 = .ok (.aload_n 0, 1) := by decide +kernel
theorem d7_20 : decode jdk_65_method_133_code 20 = .ok (.arraylength, 1) := by decide +kernel
theorem d7_21 : decode jdk_65_method_133_code 21 = .ok (.iload_n 1, 1) := by decide +kernel
theorem d7_22 : decode jdk_65_method_133_code 22 = .ok (.isub, 1) := by decide +kernel
theorem d7_23 : decode jdk_65_method_133_code 23 = .ok (.iload_n 3, 1) := by decide +kernel
theorem d7_24 : decode jdk_65_method_133_code 24 = .ok (.invokestatic 304, 3) := by decide +kernel
theorem d7_27 : decode jdk_65_method_133_code 27 = .ok (.invokestatic 150, 3) := by decide +kernel
theorem d7_30 : decode jdk_65_method_133_code 30 = .ok (.aload 4, 2) := by decide +kernel
theorem d7_32 : decode jdk_65_method_133_code 32 = .ok (.areturn, 1) := by decide +kernel
theorem ef_rm7_0 (m : MethodId) (a1 : Addr) : entryFrame m #[(.ref a1), (.int (2 : Int32)), (.int (2 : Int32))] 5 = mkF m 0 #[.val (.ref a1), .val (.int (2 : Int32)), .val (.int (2 : Int32)), .unset, .unset] [] := by first | (simp [entryFrame, mkF, argsToLocals, Value.category]; done) | rfl
def Q_rm7_0 (Z : State) (a1 : Addr) (kb : ClassId) (f : Nat → Value) (h0 : Heap) (n0 : Nat) (v : Option Value) (h : Heap) (L : List Loc) : Prop := v = some (.ref h0.size) ∧ Fr n0 L ∧ Keep h0 h [] ∧ ∃ kr : ClassId, Arf Z h h0.size kr .byte (0 : Int32) (fun i => if 0 ≤ i ∧ i < 0 + 0 then f (2 + (i - 0)) else (.int (0 : Int32)))
set_option maxRecDepth 65536 in
set_option maxHeartbeats 40000000 in
theorem rm7_0 (l : Launch) (Z : State) (a0 : Array Value) (hw : ∀ d ∈ tables_1, d.before a0 Z = true) (ws : List Jvm.Cond) (a1 : Addr) (kb : ClassId) (f : Nat → Value) (h0 : Heap) (n0 : Nat) (Z0 : n0 ≤ h0.size) (V_a : Arf Z h0 a1 kb .byte (2 : Int32) f) :
    MetFree l (⟨"java/util/Arrays", "copyOfRangeByte", "([BII)[B"⟩ : MethodName) (head1 (Jvm.Cond.code (⟨"java/util/Arrays", "copyOfRangeByte", "([BII)[B"⟩ : MethodName) jdk_65_method_133_code 5 (some (.array .byte)) :: ws) ({ frames := 1, cells := 1, slots := 0, locals := 40 } : Room)) (fun a U => a = #[(.ref a1), (.int (2 : Int32)), (.int (2 : Int32))] ∧ Z.Warmed39 U.vm ∧ U.heap = h0) (fun _ _ _ _ _ => True) (fun _ U o U' => ∃ v L, o = .returned v ∧ Q_rm7_0 Z a1 kb f h0 n0 v U'.heap L ∧ FrameEnd U o U' L ({ frames := 1, cells := 1, slots := 0, locals := 40 } : Room).cells ({ frames := 1, cells := 1, slots := 0, locals := 40 } : Room).slots) := by
  refine MetFree.of_bodySF (plainFor_of_name pn_11) hisR ?_
  intro p e s m args below meth c s₁ Bd hml0 hP hK
  obtain ⟨rfl, hZ, hh⟩ := hP
  have hx := Bd.exec
  have hby := Bd.bytes
  have hml : c.maxLocals = 5 := hml0
  have hown : s.vm.findClass "java/util/Arrays" = some m.cls := findClass_of_methodNamed Bd.named
  have hnm := (name_of_methodNamed Bd.named Bd.method).1
  have X0 : Stand p l e ({ frames := 1, cells := 1, slots := 0, locals := 40 } : Room) s m #[(.ref a1), (.int (2 : Int32)), (.int (2 : Int32))] below meth c s₁ [] 0 0 := Stand.of_body Bd
  have e0 : s₁.heap = h0 := by rw [← hh, Bd.state]; rfl
  have N0 := Fr.nil n0
  show Go p e below (s₁.setTop (entryFrame m #[(.ref a1), (.int (2 : Int32)), (.int (2 : Int32))] 5)) (fun o U' => ∃ v L, o = .returned v ∧ Q_rm7_0 Z a1 kb f h0 n0 v U'.heap L ∧ FrameEnd s o U' L ({ frames := 1, cells := 1, slots := 0, locals := 40 } : Room).cells ({ frames := 1, cells := 1, slots := 0, locals := 40 } : Room).slots)
  rw [ef_rm7_0]
  refine Gk.iloadN X0 hx (hb hby d7_0) rfl ?_
  refine Gk.iloadN X0 hx (hb hby d7_1) rfl ?_
  refine Gk.callS (argsL := [(.int (2 : Int32)), (.int (2 : Int32))]) X0 hx hZ hown (rm8 l Z a0 hw [] (2 : Int32) (2 : Int32) h0 n0 Z0 (by decide)) (hw _ (List.mem_of_getElem? (i := 39) rfl)) (hw _ (List.mem_of_getElem? (i := 40) rfl)) (hw _ (List.mem_of_getElem? (i := 34) rfl)) (hw _ (List.mem_of_getElem? (i := 41) rfl)) (by decide) e0 pd_0 rfl rfl (by decide) (Nat.le_of_ble_eq_true rfl) (by decide) (by decide) (by rw [hml]; rfl)  rfl (hb hby d7_2) ?_
  intro T1 L1 v1 X1 hQ1
  obtain ⟨rfl, N1q, e1⟩ := hQ1
  have N1 := Fr.app N0 N1q
  show Go p e below (T1.setTop (mkF m 5 #[.val (.ref a1), .val (.int (2 : Int32)), .val (.int (2 : Int32)), .unset, .unset] [])) _
  refine Gk.iloadN X1 hx (hb hby d7_5) rfl ?_
  refine Gk.iloadN X1 hx (hb hby d7_6) rfl ?_
  refine Gk.isub X1 hx (hb hby d7_7) (0 : Int32) (by decide) ?_
  refine Gk.istoreN X1 hx (hb hby d7_8) #[.val (.ref a1), .val (.int (2 : Int32)), .val (.int (2 : Int32)), .val (.int (0 : Int32)), .unset] rfl ?_
  refine Gk.iloadN X1 hx (hb hby d7_9) rfl ?_
  refine Gk.newP X1 hx hZ (hw _ (List.mem_of_getElem? (i := 1) rfl)) e1 (hb hby d7_10) (by decide) (cap := 0) (by decide) (by decide) (by decide) (by decide) rfl ?_
  intro T2 h2 b2 k2 X2 e2 E2 g2 A2 B2
  have g_b2 : n0 ≤ b2 := Nat.le_trans Z0 (Nat.le_of_eq g2.symm)
  have V_b2 : Arf Z h2 b2 k2 .byte (0 : Int32) (fun _ => (.int (0 : Int32))) := A2
  have lt_b2 := V_b2.lt
  refine Gk.astore X2 hx (hb hby d7_12) rfl #[.val (.ref a1), .val (.int (2 : Int32)), .val (.int (2 : Int32)), .val (.int (0 : Int32)), .val (.ref b2)] rfl ?_
  refine Gk.aloadN X2 hx (hb hby d7_14) rfl rfl ?_
  refine Gk.iloadN X2 hx (hb hby d7_15) rfl ?_
  refine Gk.aload X2 hx (hb hby d7_16) rfl rfl ?_
  refine Gk.iconst X2 hx (hb hby d7_18) (0 : Int32) rfl ?_
  refine Gk.aloadN X2 hx (hb hby d7_19) rfl rfl ?_
  have H3 := (V_a.ext E2)
  refine Gk.alen X2 hx hZ e2 H3 (hb hby d7_20) ?_
  refine Gk.iloadN X2 hx (hb hby d7_21) rfl ?_
  refine Gk.isub X2 hx (hb hby d7_22) (0 : Int32) (by decide) ?_
  refine Gk.iloadN X2 hx (hb hby d7_23) rfl ?_
  refine Gk.callS (argsL := [(.int (0 : Int32)), (.int (0 : Int32))]) X2 hx hZ hown (rm9 l Z a0 hw [] (0 : Int32) (0 : Int32) h2 n0 (Nat.le_trans Z0 E2.1)) (hw _ (List.mem_of_getElem? (i := 42) rfl)) (hw _ (List.mem_of_getElem? (i := 43) rfl)) (hw _ (List.mem_of_getElem? (i := 44) rfl)) (hw _ (List.mem_of_getElem? (i := 45) rfl)) (by decide) e2 pd_1 rfl rfl (by decide) (Nat.le_of_ble_eq_true rfl) (by decide) (by decide) (by rw [hml]; rfl)  rfl (hb hby d7_24) ?_
  intro T4 L4 v4 X4 hQ4
  obtain ⟨rfl, N4q, e4⟩ := hQ4
  have N4 := Fr.app N1 N4q
  show Go p e below (T4.setTop (mkF m 27 #[.val (.ref a1), .val (.int (2 : Int32)), .val (.int (2 : Int32)), .val (.int (0 : Int32)), .val (.ref b2)] [(.int (if (0 : Int32) < (0 : Int32) then (0 : Int32) else (0 : Int32))), (.int (0 : Int32)), (.ref b2), (.int (2 : Int32)), (.ref a1)])) _
  rw [show (if (0 : Int32) < (0 : Int32) then (0 : Int32) else (0 : Int32)) = (0 : Int32) from by decide]
  refine Gk.copy X4 hx hZ hown (hw _ (List.mem_of_getElem? (i := 46) rfl)) (hw _ (List.mem_of_getElem? (i := 49) rfl)) (hw _ (List.mem_of_getElem? (i := 47) rfl)) (hw _ (List.mem_of_getElem? (i := 48) rfl)) e4 H3 V_b2 rfl (by decide) (by decide) (by decide) (by decide) (by decide) N4 g_b2 (fun i => if 0 ≤ i ∧ i < 0 + 0 then f (2 + (i - 0)) else (fun _ => (.int (0 : Int32))) i) (fun _ _ => rfl) (by rw [hml]; rfl) (hb hby d7_27) (by decide) (Nat.le_of_ble_eq_true rfl) ?_
  intro T5 h5 L5 X5 e5 N5 K5 V5
  refine Gk.aload X5 hx (hb hby d7_30) rfl rfl ?_
  refine Go.fin X5 (v := some (.ref b2)) (fun h_ => by rw [Bd.returns] at h_; cases h_) Bd.notSynchronized (fun _ hr => retOut X5 hx Bd.returns rfl (Or.inr (Or.inr (Or.inr (Or.inr ⟨rfl, rfl, rfl⟩)))) (hb hby d7_32) hr) (fun U' hU hF => ⟨_, _, rfl, ?_, hF.1, hF.2.1, hF.2.2.mono (by decide) (by decide)⟩)
  rw [hU, e5]
  exact ⟨(congrArg (fun z_ : Addr => some (Value.ref z_)) (show b2 = h0.size from g2)), N5, (((Keep.refl h0 []).ext E2).trans K5 (allS (Or.inr (Nat.le_trans (Nat.le_refl _) (Nat.le_of_eq g2.symm))) all0)), _, (g2 ▸ V5)⟩
theorem pd_2 : parseMethodDescriptor "([BII)[B" = some ⟨[(.array .byte), .int, .int], some (.array .byte)⟩ := by decide +kernel
theorem d6_0 : decode jdk_65_method_132_code 0 = .ok (.iload_n 1, 1) := by decide +kernel
theorem d6_1 : decode jdk_65_method_132_code 1 = .ok (.ifCond .ne 9, 3) := by decide +kernel
theorem d6_10 : decode jdk_65_method_132_code 10 = .ok (.aload_n 0, 1) := by decide +kernel
theorem d6_11 : decode jdk_65_method_132_code 11 = .ok (.iload_n 1, 1) := by decide +kernel
theorem d6_12 : decode jdk_65_method_132_code 12 = .ok (.iload_n 2, 1) := by decide +kernel
theorem d6_13 : decode jdk_65_method_132_code 13 = .ok (.invokestatic 339, 3) := by decide +kernel
theorem d6_16 : decode jdk_65_method_132_code 16 = .ok (.areturn, 1) := by decide +kernel
theorem ef_rm6c_0 (m : MethodId) (a1 : Addr) : entryFrame m #[(.ref a1), (.int (2 : Int32)), (.int (2 : Int32))] 3 = mkF m 0 #[.val (.ref a1), .val (.int (2 : Int32)), .val (.int (2 : Int32))] [] := by first | (simp [entryFrame, mkF, argsToLocals, Value.category]; done) | rfl
def Q_rm6c_0 (Z : State) (a1 : Addr) (kb : ClassId) (f : Nat → Value) (h0 : Heap) (n0 : Nat) (v : Option Value) (h : Heap) (L : List Loc) : Prop := v = some (.ref h0.size) ∧ Fr n0 L ∧ Keep h0 h [] ∧ ∃ kr : ClassId, Arf Z h h0.size kr .byte (0 : Int32) (fun i => if 0 ≤ i ∧ i < 0 + 0 then f (2 + (i - 0)) else (.int (0 : Int32)))
set_option maxRecDepth 65536 in
set_option maxHeartbeats 40000000 in
theorem rm6c_0 (l : Launch) (Z : State) (a0 : Array Value) (hw : ∀ d ∈ tables_1, d.before a0 Z = true) (ws : List Jvm.Cond) (a1 : Addr) (kb : ClassId) (f : Nat → Value) (h0 : Heap) (n0 : Nat) (Z0 : n0 ≤ h0.size) (V_a : Arf Z h0 a1 kb .byte (2 : Int32) f) :
    MetFree l (⟨"java/util/Arrays", "copyOfRange", "([BII)[B"⟩ : MethodName) (head1 (Jvm.Cond.code (⟨"java/util/Arrays", "copyOfRange", "([BII)[B"⟩ : MethodName) jdk_65_method_132_code 3 (some (.array .byte)) :: ws) ({ frames := 2, cells := 1, slots := 0, locals := 56 } : Room)) (fun a U => a = #[(.ref a1), (.int (2 : Int32)), (.int (2 : Int32))] ∧ Z.Warmed39 U.vm ∧ U.heap = h0) (fun _ _ _ _ _ => True) (fun _ U o U' => ∃ v L, o = .returned v ∧ Q_rm6c_0 Z a1 kb f h0 n0 v U'.heap L ∧ FrameEnd U o U' L ({ frames := 2, cells := 1, slots := 0, locals := 56 } : Room).cells ({ frames := 2, cells := 1, slots := 0, locals := 56 } : Room).slots) := by
  refine MetFree.of_bodySF (plainFor_of_name pn_11) hisR ?_
  intro p e s m args below meth c s₁ Bd hml0 hP hK
  obtain ⟨rfl, hZ, hh⟩ := hP
  have hx := Bd.exec
  have hby := Bd.bytes
  have hml : c.maxLocals = 3 := hml0
  have hown : s.vm.findClass "java/util/Arrays" = some m.cls := findClass_of_methodNamed Bd.named
  have hnm := (name_of_methodNamed Bd.named Bd.method).1
  have X0 : Stand p l e ({ frames := 2, cells := 1, slots := 0, locals := 56 } : Room) s m #[(.ref a1), (.int (2 : Int32)), (.int (2 : Int32))] below meth c s₁ [] 0 0 := Stand.of_body Bd
  have e0 : s₁.heap = h0 := by rw [← hh, Bd.state]; rfl
  have N0 := Fr.nil n0
  show Go p e below (s₁.setTop (entryFrame m #[(.ref a1), (.int (2 : Int32)), (.int (2 : Int32))] 3)) (fun o U' => ∃ v L, o = .returned v ∧ Q_rm6c_0 Z a1 kb f h0 n0 v U'.heap L ∧ FrameEnd s o U' L ({ frames := 2, cells := 1, slots := 0, locals := 56 } : Room).cells ({ frames := 2, cells := 1, slots := 0, locals := 56 } : Room).slots)
  rw [ef_rm6c_0]
  refine Gk.iloadN X0 hx (hb hby d6_0) rfl ?_
  refine Gk.ifYes X0 hx (hb hby d6_1) (feq (by decide : ¬ ((2 : Int32) = (0 : Int32)))).2 10 (by decide) (by decide) ?_
  refine Gk.aloadN X0 hx (hb hby d6_10) rfl rfl ?_
  refine Gk.iloadN X0 hx (hb hby d6_11) rfl ?_
  refine Gk.iloadN X0 hx (hb hby d6_12) rfl ?_
  refine Gk.callS (argsL := [(.ref a1), (.int (2 : Int32)), (.int (2 : Int32))]) X0 hx hZ hown (rm7_0 l Z a0 hw [] a1 kb f h0 n0 Z0 V_a) (hw _ (List.mem_of_getElem? (i := 36) rfl)) (hw _ (List.mem_of_getElem? (i := 37) rfl)) (hw _ (List.mem_of_getElem? (i := 34) rfl)) (hw _ (List.mem_of_getElem? (i := 38) rfl)) (by decide) e0 pd_2 rfl rfl (by decide) (Nat.le_of_ble_eq_true rfl) (by decide) (by decide) (by rw [hml]; rfl)  rfl (hb hby d6_13) ?_
  intro T1 L1 v1 X1 hQ1
  obtain ⟨rfl, N1q, K1, k1, A1⟩ := hQ1
  have N1 := Fr.app N0 N1q
  obtain ⟨b1, g1⟩ : ∃ z_, z_ = h0.size := ⟨_, rfl⟩
  rw [← g1] at A1 ⊢
  have g_b1 : n0 ≤ b1 := Nat.le_trans Z0 (Nat.le_of_eq g1.symm)
  have lt_b1 : b1 < T1.heap.size := A1.lt
  show Go p e below (T1.setTop (mkF m 16 #[.val (.ref a1), .val (.int (2 : Int32)), .val (.int (2 : Int32))] [(.ref b1)])) _
  refine Go.fin X1 (v := some (.ref b1)) (fun h_ => by rw [Bd.returns] at h_; cases h_) Bd.notSynchronized (fun _ hr => retOut X1 hx Bd.returns rfl (Or.inr (Or.inr (Or.inr (Or.inr ⟨rfl, rfl, rfl⟩)))) (hb hby d6_16) hr) (fun U' hU hF => ⟨_, _, rfl, ?_, hF.1, hF.2.1, hF.2.2.mono (by decide) (by decide)⟩)
  rw [hU]
  exact ⟨(congrArg (fun z_ : Addr => some (Value.ref z_)) (show b1 = h0.size from g1)), N1, ((Keep.refl h0 []).trans K1 all0), _, (g1 ▸ A1)⟩
theorem d6_4 : decode jdk_65_method_132_code 4 = .ok (.iload_n 2, 1) := by decide +kernel
theorem d6_5 : decode jdk_65_method_132_code 5 = .ok (.aload_n 0, 1) := by decide +kernel
theorem d6_6 : decode jdk_65_method_132_code 6 = .ok (.arraylength, 1) := by decide +kernel
theorem d6_7 : decode jdk_65_method_132_code 7 = .ok (.if_icmp .eq 10, 3) := by decide +kernel
theorem d6_17 : decode jdk_65_method_132_code 17 = .ok (.aload_n 0, 1) := by decide +kernel
theorem d6_18 : decode jdk_65_method_132_code 18 = .ok (.invokevirtual 310, 3) := by decide +kernel
theorem d6_21 : decode jdk_65_method_132_code 21 = .ok (.checkcast 311, 3) := by decide +kernel
theorem d6_24 : decode jdk_65_method_132_code 24 = .ok (.areturn, 1) := by decide +kernel
theorem ef_rm6e_0 (m : MethodId) (a1 : Addr) : entryFrame m #[(.ref a1), (.int (0 : Int32)), (.int (2 : Int32))] 3 = mkF m 0 #[.val (.ref a1), .val (.int (0 : Int32)), .val (.int (2 : Int32))] [] := by first | (simp [entryFrame, mkF, argsToLocals, Value.category]; done) | rfl
def Q_rm6e_0 (Z : State) (a1 : Addr) (kb : ClassId) (f : Nat → Value) (h0 : Heap) (n0 : Nat) (v : Option Value) (h : Heap) (L : List Loc) : Prop := v = some (.ref h0.size) ∧ Fr n0 L ∧ Keep h0 h [] ∧ ∃ kr : ClassId, Arf Z h h0.size kr .byte (2 : Int32) f
set_option maxRecDepth 65536 in
set_option maxHeartbeats 40000000 in
theorem rm6e_0 (l : Launch) (Z : State) (a0 : Array Value) (hw : ∀ d ∈ tables_1, d.before a0 Z = true) (ws : List Jvm.Cond) (a1 : Addr) (kb : ClassId) (f : Nat → Value) (h0 : Heap) (n0 : Nat) (Z0 : n0 ≤ h0.size) (V_a : Arf Z h0 a1 kb .byte (2 : Int32) f) (E_a : Exa Z h0 a1 "[B") :
    MetFree l (⟨"java/util/Arrays", "copyOfRange", "([BII)[B"⟩ : MethodName) (head1 (Jvm.Cond.code (⟨"java/util/Arrays", "copyOfRange", "([BII)[B"⟩ : MethodName) jdk_65_method_132_code 3 (some (.array .byte)) :: ws) ({ frames := 1, cells := 1, slots := 2, locals := 14 } : Room)) (fun a U => a = #[(.ref a1), (.int (0 : Int32)), (.int (2 : Int32))] ∧ Z.Warmed39 U.vm ∧ U.heap = h0) (fun _ _ _ _ _ => True) (fun _ U o U' => ∃ v L, o = .returned v ∧ Q_rm6e_0 Z a1 kb f h0 n0 v U'.heap L ∧ FrameEnd U o U' L ({ frames := 1, cells := 1, slots := 2, locals := 14 } : Room).cells ({ frames := 1, cells := 1, slots := 2, locals := 14 } : Room).slots) := by
  refine MetFree.of_bodySF (plainFor_of_name pn_11) hisR ?_
  intro p e s m args below meth c s₁ Bd hml0 hP hK
  obtain ⟨rfl, hZ, hh⟩ := hP
  have hx := Bd.exec
  have hby := Bd.bytes
  have hml : c.maxLocals = 3 := hml0
  have hown : s.vm.findClass "java/util/Arrays" = some m.cls := findClass_of_methodNamed Bd.named
  have hnm := (name_of_methodNamed Bd.named Bd.method).1
  have X0 : Stand p l e ({ frames := 1, cells := 1, slots := 2, locals := 14 } : Room) s m #[(.ref a1), (.int (0 : Int32)), (.int (2 : Int32))] below meth c s₁ [] 0 0 := Stand.of_body Bd
  have e0 : s₁.heap = h0 := by rw [← hh, Bd.state]; rfl
  have N0 := Fr.nil n0
  show Go p e below (s₁.setTop (entryFrame m #[(.ref a1), (.int (0 : Int32)), (.int (2 : Int32))] 3)) (fun o U' => ∃ v L, o = .returned v ∧ Q_rm6e_0 Z a1 kb f h0 n0 v U'.heap L ∧ FrameEnd s o U' L ({ frames := 1, cells := 1, slots := 2, locals := 14 } : Room).cells ({ frames := 1, cells := 1, slots := 2, locals := 14 } : Room).slots)
  rw [ef_rm6e_0]
  refine Gk.iloadN X0 hx (hb hby d6_0) rfl ?_
  refine Gk.ifNo X0 hx (hb hby d6_1) (teq (by decide : (0 : Int32) = (0 : Int32))).2 ?_
  refine Gk.iloadN X0 hx (hb hby d6_4) rfl ?_
  refine Gk.aloadN X0 hx (hb hby d6_5) rfl rfl ?_
  refine Gk.alen X0 hx hZ e0 V_a (hb hby d6_6) ?_
  refine Gk.icmpYes X0 hx (hb hby d6_7) (teq (by decide : (2 : Int32) = (2 : Int32))).1 17 (by decide) (by decide) ?_
  refine Gk.aloadN X0 hx (hb hby d6_17) rfl rfl ?_
  refine Gk.clone X0 hx hZ hown (hw _ (List.mem_of_getElem? (i := 55) rfl)) (hw _ (List.mem_of_getElem? (i := 56) rfl)) (hw _ (List.mem_of_getElem? (i := 60) rfl)) (hw _ (List.mem_of_getElem? (i := 58) rfl)) (hw _ (List.mem_of_getElem? (i := 59) rfl)) (hw _ (List.mem_of_getElem? (i := 61) rfl)) e0 V_a E_a (by rw [hml]; rfl) (hb hby d6_18) (by decide) (cap := 2) (Nat.le_of_ble_eq_true rfl) (by decide) (by decide) (by decide) ?_
  intro T1 h1 b1 X1 e1 E1 g1 V_b1 B1
  have g_b1 : n0 ≤ b1 := Nat.le_trans Z0 (Nat.le_of_eq g1.symm)
  have lt_b1 := V_b1.lt
  refine Gk.castY X1 hx hZ hown (hw _ (List.mem_of_getElem? (i := 62) rfl)) e1 (Ins.self B1) (hb hby d6_21) ?_
  intro T2 X2 e2
  refine Go.fin X2 (v := some (.ref b1)) (fun h_ => by rw [Bd.returns] at h_; cases h_) Bd.notSynchronized (fun _ hr => retOut X2 hx Bd.returns rfl (Or.inr (Or.inr (Or.inr (Or.inr ⟨rfl, rfl, rfl⟩)))) (hb hby d6_24) hr) (fun U' hU hF => ⟨_, _, rfl, ?_, hF.1, hF.2.1, hF.2.2.mono (by decide) (by decide)⟩)
  rw [hU, e2]
  exact ⟨(congrArg (fun z_ : Addr => some (Value.ref z_)) (show b1 = h0.size from g1)), N0, ((Keep.refl h0 []).ext E1), _, (g1 ▸ V_b1)⟩
theorem d2_0 : decode prog_2_method_1_code 0 = .ok (.aload_n 0, 1) := by decide +kernel
theorem d2_1 : decode prog_2_method_1_code 1 = .ok (.invokespecial 1, 3) := by decide +kernel
theorem d2_4 : decode prog_2_method_1_code 4 = .ok (.iload_n 3, 1) := by decide +kernel
theorem d2_5 : decode prog_2_method_1_code 5 = .ok (.iload_n 2, 1) := by decide +kernel
theorem d2_6 : decode prog_2_method_1_code 6 = .ok (.isub, 1) := by decide +kernel
theorem d2_7 : decode prog_2_method_1_code 7 = .ok (.iconst 2, 1) := by decide +kernel
theorem d2_8 : decode prog_2_method_1_code 8 = .ok (.if_icmp .ge 13, 3) := by decide +kernel
theorem d2_21 : decode prog_2_method_1_code 21 = .ok (.aload_n 1, 1) := by decide +kernel
theorem d2_22 : decode prog_2_method_1_code 22 = .ok (.iload_n 2, 1) := by decide +kernel
theorem d2_23 : decode prog_2_method_1_code 23 = .ok (.baload, 1) := by decide +kernel
theorem d2_24 : decode prog_2_method_1_code 24 = .ok (.bipush 31, 2) := by decide +kernel
theorem d2_26 : decode prog_2_method_1_code 26 = .ok (.iand, 1) := by decide +kernel
theorem d2_27 : decode prog_2_method_1_code 27 = .ok (.bipush 31, 2) := by decide +kernel
theorem d2_29 : decode prog_2_method_1_code 29 = .ok (.if_icmp .ne 13, 3) := by decide +kernel
theorem d2_42 : decode prog_2_method_1_code 42 = .ok (.aload_n 1, 1) := by decide +kernel
theorem d2_43 : decode prog_2_method_1_code 43 = .ok (.iload_n 2, 1) := by decide +kernel
theorem d2_44 : decode prog_2_method_1_code 44 = .ok (.iconst 1, 1) := by decide +kernel
theorem d2_45 : decode prog_2_method_1_code 45 = .ok (.iadd, 1) := by decide +kernel
theorem d2_46 : decode prog_2_method_1_code 46 = .ok (.baload, 1) := by decide +kernel
theorem d2_47 : decode prog_2_method_1_code 47 = .ok (.sipush 255, 3) := by decide +kernel
theorem d2_50 : decode prog_2_method_1_code 50 = .ok (.iand, 1) := by decide +kernel
theorem d2_51 : decode prog_2_method_1_code 51 = .ok (.istore 4, 2) := by decide +kernel
theorem d2_53 : decode prog_2_method_1_code 53 = .ok (.iload 4, 2) := by decide +kernel
theorem d2_55 : decode prog_2_method_1_code 55 = .ok (.istore 5, 2) := by decide +kernel
theorem d2_57 : decode prog_2_method_1_code 57 = .ok (.iconst 0, 1) := by decide +kernel
theorem d2_58 : decode prog_2_method_1_code 58 = .ok (.istore 6, 2) := by decide +kernel
theorem d2_60 : decode prog_2_method_1_code 60 = .ok (.iload 4, 2) := by decide +kernel
theorem d2_62 : decode prog_2_method_1_code 62 = .ok (.sipush 128, 3) := by decide +kernel
theorem d2_65 : decode prog_2_method_1_code 65 = .ok (.if_icmp .lt 106, 3) := by decide +kernel
theorem d2_171 : decode prog_2_method_1_code 171 = .ok (.aload_n 0, 1) := by decide +kernel
theorem d2_172 : decode prog_2_method_1_code 172 = .ok (.aload_n 1, 1) := by decide +kernel
theorem d2_173 : decode prog_2_method_1_code 173 = .ok (.putfield 24, 3) := by decide +kernel
theorem d2_176 : decode prog_2_method_1_code 176 = .ok (.aload_n 0, 1) := by decide +kernel
theorem d2_177 : decode prog_2_method_1_code 177 = .ok (.iload_n 2, 1) := by decide +kernel
theorem d2_178 : decode prog_2_method_1_code 178 = .ok (.putfield 28, 3) := by decide +kernel
theorem d2_181 : decode prog_2_method_1_code 181 = .ok (.aload_n 0, 1) := by decide +kernel
theorem d2_182 : decode prog_2_method_1_code 182 = .ok (.iload_n 2, 1) := by decide +kernel
theorem d2_183 : decode prog_2_method_1_code 183 = .ok (.iconst 2, 1) := by decide +kernel
theorem d2_184 : decode prog_2_method_1_code 184 = .ok (.iadd, 1) := by decide +kernel
theorem d2_185 : decode prog_2_method_1_code 185 = .ok (.iload 6, 2) := by decide +kernel
theorem d2_187 : decode prog_2_method_1_code 187 = .ok (.iadd, 1) := by decide +kernel
theorem d2_188 : decode prog_2_method_1_code 188 = .ok (.putfield 32, 3) := by decide +kernel
theorem d2_191 : decode prog_2_method_1_code 191 = .ok (.aload_n 0, 1) := by decide +kernel
theorem d2_192 : decode prog_2_method_1_code 192 = .ok (.aload_n 0, 1) := by decide +kernel
theorem d2_193 : decode prog_2_method_1_code 193 = .ok (.getfield 32, 3) := by decide +kernel
theorem d2_196 : decode prog_2_method_1_code 196 = .ok (.iload 5, 2) := by decide +kernel
theorem d2_198 : decode prog_2_method_1_code 198 = .ok (.iadd, 1) := by decide +kernel
theorem d2_199 : decode prog_2_method_1_code 199 = .ok (.putfield 35, 3) := by decide +kernel
theorem d2_202 : decode prog_2_method_1_code 202 = .ok (.aload_n 0, 1) := by decide +kernel
theorem d2_203 : decode prog_2_method_1_code 203 = .ok (.getfield 35, 3) := by decide +kernel
theorem d2_206 : decode prog_2_method_1_code 206 = .ok (.iload_n 3, 1) := by decide +kernel
theorem d2_207 : decode prog_2_method_1_code 207 = .ok (.if_icmp .le 13, 3) := by decide +kernel
theorem d2_220 : decode prog_2_method_1_code 220 = .ok (.return_, 1) := by decide +kernel
theorem pn_103 : plainName "com/example/mooring/mooring/Der" = true := by first | (simp [plainName, overriddenIn]; done) | decide +kernel
theorem ef_rm2_0 (m : MethodId) (a1 : Addr) (a2 : Addr) : entryFrame m #[(.ref a1), (.ref a2), (.int (0 : Int32)), (.int (2 : Int32))] 8 = mkF m 0 #[.val (.ref a1), .val (.ref a2), .val (.int (0 : Int32)), .val (.int (2 : Int32)), .unset, .unset, .unset, .unset] [] := by first | (simp [entryFrame, mkF, argsToLocals, Value.category]; done) | rfl
def Q_rm2_0 (Z : State) (a1 : Addr) (a2 : Addr) (kb : ClassId) (f : Nat → Value) (tb : Int32) (u_bytes_a1 : Value) (u_start_a1 : Value) (u_contentStart_a1 : Value) (u_end_a1 : Value) (h0 : Heap) (n0 : Nat) (v : Option Value) (h : Heap) (L : List Loc) : Prop := v = none ∧ Fr n0 L ∧ Keep h0 h [a1] ∧ Fld Z h a1 "com/example/mooring/mooring/Der" "bytes" "[B" (.ref a2) ∧ Fld Z h a1 "com/example/mooring/mooring/Der" "start" "I" (.int (0 : Int32)) ∧ Fld Z h a1 "com/example/mooring/mooring/Der" "contentStart" "I" (.int (2 : Int32)) ∧ Fld Z h a1 "com/example/mooring/mooring/Der" "end" "I" (.int (2 : Int32))
set_option maxRecDepth 65536 in
set_option maxHeartbeats 40000000 in
theorem rm2_0 (l : Launch) (Z : State) (a0 : Array Value) (hw : ∀ d ∈ tables_1, d.before a0 Z = true) (ws : List Jvm.Cond) (a1 : Addr) (a2 : Addr) (kb : ClassId) (f : Nat → Value) (tb : Int32) (u_bytes_a1 : Value) (u_start_a1 : Value) (u_contentStart_a1 : Value) (u_end_a1 : Value) (h0 : Heap) (n0 : Nat) (Z0 : n0 ≤ h0.size) (E_a1 : Exa Z h0 a1 "com/example/mooring/mooring/Der") (V_a : Arf Z h0 a2 kb .byte (2 : Int32) f) (hf0 : f 0 = (.int tb)) (hf1 : f 1 = (.int (0 : Int32))) (htb : ¬ ((tb &&& (31 : Int32)) = (31 : Int32))) (hne : a1 ≠ a2) (F_bytes_a1 : Fld Z h0 a1 "com/example/mooring/mooring/Der" "bytes" "[B" u_bytes_a1) (g_a1 : n0 ≤ a1) (F_start_a1 : Fld Z h0 a1 "com/example/mooring/mooring/Der" "start" "I" u_start_a1) (F_contentStart_a1 : Fld Z h0 a1 "com/example/mooring/mooring/Der" "contentStart" "I" u_contentStart_a1) (F_end_a1 : Fld Z h0 a1 "com/example/mooring/mooring/Der" "end" "I" u_end_a1) :
    MetFree l (⟨"com/example/mooring/mooring/Der", "<init>", "([BII)V"⟩ : MethodName) (head1 (Jvm.Cond.code (⟨"com/example/mooring/mooring/Der", "<init>", "([BII)V"⟩ : MethodName) prog_2_method_1_code 8 none :: ws) ({ frames := 1, cells := 0, slots := 0, locals := 12 } : Room)) (fun a U => a = #[(.ref a1), (.ref a2), (.int (0 : Int32)), (.int (2 : Int32))] ∧ Z.Warmed39 U.vm ∧ U.heap = h0) (fun _ _ _ _ _ => True) (fun _ U o U' => ∃ v L, o = .returned v ∧ Q_rm2_0 Z a1 a2 kb f tb u_bytes_a1 u_start_a1 u_contentStart_a1 u_end_a1 h0 n0 v U'.heap L ∧ FrameEnd U o U' L ({ frames := 1, cells := 0, slots := 0, locals := 12 } : Room).cells ({ frames := 1, cells := 0, slots := 0, locals := 12 } : Room).slots) := by
  refine MetFree.of_bodySF (plainFor_of_name pn_103) hisR ?_
  intro p e s m args below meth c s₁ Bd hml0 hP hK
  obtain ⟨rfl, hZ, hh⟩ := hP
  have hx := Bd.exec
  have hby := Bd.bytes
  have hml : c.maxLocals = 8 := hml0
  have hown : s.vm.findClass "com/example/mooring/mooring/Der" = some m.cls := findClass_of_methodNamed Bd.named
  have hnm := (name_of_methodNamed Bd.named Bd.method).1
  have X0 : Stand p l e ({ frames := 1, cells := 0, slots := 0, locals := 12 } : Room) s m #[(.ref a1), (.ref a2), (.int (0 : Int32)), (.int (2 : Int32))] below meth c s₁ [] 0 0 := Stand.of_body Bd
  have e0 : s₁.heap = h0 := by rw [← hh, Bd.state]; rfl
  have N0 := Fr.nil n0
  show Go p e below (s₁.setTop (entryFrame m #[(.ref a1), (.ref a2), (.int (0 : Int32)), (.int (2 : Int32))] 8)) (fun o U' => ∃ v L, o = .returned v ∧ Q_rm2_0 Z a1 a2 kb f tb u_bytes_a1 u_start_a1 u_contentStart_a1 u_end_a1 h0 n0 v U'.heap L ∧ FrameEnd s o U' L ({ frames := 1, cells := 0, slots := 0, locals := 12 } : Room).cells ({ frames := 1, cells := 0, slots := 0, locals := 12 } : Room).slots)
  rw [ef_rm2_0]
  refine Gk.aloadN X0 hx (hb hby d2_0) rfl rfl ?_
  refine Gk.initO X0 hx hZ hown (hw _ (List.mem_of_getElem? (i := 11) rfl)) (hw _ (List.mem_of_getElem? (i := 12) rfl)) (hw _ (List.mem_of_getElem? (i := 13) rfl)) e0 (by rw [hml]; rfl) (hb hby d2_1) (by decide) (Nat.le_of_ble_eq_true rfl) ?_
  intro T1 X1 e1
  refine Gk.iloadN X1 hx (hb hby d2_4) rfl ?_
  refine Gk.iloadN X1 hx (hb hby d2_5) rfl ?_
  refine Gk.isub X1 hx (hb hby d2_6) (2 : Int32) (by decide) ?_
  refine Gk.iconst X1 hx (hb hby d2_7) (2 : Int32) rfl ?_
  refine Gk.icmpYes X1 hx (hb hby d2_8) (flt (by decide : ¬ ((2 : Int32) < (2 : Int32)))).2.1 21 (by decide) (by decide) ?_
  refine Gk.aloadN X1 hx (hb hby d2_21) rfl rfl ?_
  refine Gk.iloadN X1 hx (hb hby d2_22) rfl ?_
  refine Gk.baloadB X1 hx hZ e1 V_a ⟨by decide, by decide⟩ (.int tb) hf0 (hb hby d2_23) ?_
  refine Gk.bipush X1 hx (hb hby d2_24) (31 : Int32) rfl ?_
  refine Gk.iand X1 hx (hb hby d2_26) _ rfl ?_
  refine Gk.bipush X1 hx (hb hby d2_27) (31 : Int32) rfl ?_
  have hc29 : ¬ ((tb &&& (31 : Int32)) = (31 : Int32)) := htb
  refine Gk.icmpYes X1 hx (hb hby d2_29) (feq hc29).2 42 (by decide) (by decide) ?_
  refine Gk.aloadN X1 hx (hb hby d2_42) rfl rfl ?_
  refine Gk.iloadN X1 hx (hb hby d2_43) rfl ?_
  refine Gk.iconst X1 hx (hb hby d2_44) (1 : Int32) rfl ?_
  refine Gk.iadd X1 hx (hb hby d2_45) (1 : Int32) (by decide) ?_
  refine Gk.baloadB X1 hx hZ e1 V_a ⟨by decide, by decide⟩ (.int (0 : Int32)) hf1 (hb hby d2_46) ?_
  refine Gk.sipush X1 hx (hb hby d2_47) (255 : Int32) rfl ?_
  refine Gk.iand X1 hx (hb hby d2_50) (0 : Int32) (by decide) ?_
  refine Gk.istore X1 hx (hb hby d2_51) #[.val (.ref a1), .val (.ref a2), .val (.int (0 : Int32)), .val (.int (2 : Int32)), .val (.int (0 : Int32)), .unset, .unset, .unset] rfl ?_
  refine Gk.iload X1 hx (hb hby d2_53) rfl ?_
  refine Gk.istore X1 hx (hb hby d2_55) #[.val (.ref a1), .val (.ref a2), .val (.int (0 : Int32)), .val (.int (2 : Int32)), .val (.int (0 : Int32)), .val (.int (0 : Int32)), .unset, .unset] rfl ?_
  refine Gk.iconst X1 hx (hb hby d2_57) (0 : Int32) rfl ?_
  refine Gk.istore X1 hx (hb hby d2_58) #[.val (.ref a1), .val (.ref a2), .val (.int (0 : Int32)), .val (.int (2 : Int32)), .val (.int (0 : Int32)), .val (.int (0 : Int32)), .val (.int (0 : Int32)), .unset] rfl ?_
  refine Gk.iload X1 hx (hb hby d2_60) rfl ?_
  refine Gk.sipush X1 hx (hb hby d2_62) (128 : Int32) rfl ?_
  refine Gk.icmpYes X1 hx (hb hby d2_65) (tlt (by decide : (0 : Int32) < (128 : Int32))).1 171 (by decide) (by decide) ?_
  refine Gk.aloadN X1 hx (hb hby d2_171) rfl rfl ?_
  refine Gk.aloadN X1 hx (hb hby d2_172) rfl rfl ?_
  refine Gk.putF X1 hx hZ hown (host := "") (Or.inl (hw _ (List.mem_of_getElem? (i := 14) rfl))) Via.refl e1 F_bytes_a1 E_a1 (Or.inr ⟨(hw _ (List.mem_of_getElem? (i := 15) rfl)), rfl, hnm⟩) (hw _ (List.mem_of_getElem? (i := 7) rfl)) (ty := (.array .byte)) (by decide) rfl rfl (hb hby d2_173) ?_
  intro T4 h4 X4 e4 W4
  have Fw4 := F_bytes_a1.same W4
  have N4 := Fr.snoc X4 N0 g_a1
  refine Gk.aloadN X4 hx (hb hby d2_176) rfl rfl ?_
  refine Gk.iloadN X4 hx (hb hby d2_177) rfl ?_
  have H5 := (E_a1.wr W4)
  have H6 := (F_start_a1.other W4 (Or.inr (slot_ne (Or.inr (hw _ (List.mem_of_getElem? (i := 17) rfl))) (Or.inr (hw _ (List.mem_of_getElem? (i := 15) rfl))) (by decide) (t := .int) (t' := (.array .byte)) (by decide) (by decide))))
  refine Gk.putF X4 hx hZ hown (host := "") (Or.inl (hw _ (List.mem_of_getElem? (i := 16) rfl))) Via.refl e4 H6 H5 (Or.inr ⟨(hw _ (List.mem_of_getElem? (i := 17) rfl)), rfl, hnm⟩) (hw _ (List.mem_of_getElem? (i := 7) rfl)) (ty := .int) (by decide) rfl rfl (hb hby d2_178) ?_
  intro T7 h7 X7 e7 W7
  have Fw7 := H6.same W7
  have N7 := Fr.snoc X7 N4 g_a1
  refine Gk.aloadN X7 hx (hb hby d2_181) rfl rfl ?_
  refine Gk.iloadN X7 hx (hb hby d2_182) rfl ?_
  refine Gk.iconst X7 hx (hb hby d2_183) (2 : Int32) rfl ?_
  refine Gk.iadd X7 hx (hb hby d2_184) (2 : Int32) (by decide) ?_
  refine Gk.iload X7 hx (hb hby d2_185) rfl ?_
  refine Gk.iadd X7 hx (hb hby d2_187) (2 : Int32) (by decide) ?_
  have H8 := (H5.wr W7)
  have H9 := ((F_contentStart_a1.other W4 (Or.inr (slot_ne (Or.inr (hw _ (List.mem_of_getElem? (i := 19) rfl))) (Or.inr (hw _ (List.mem_of_getElem? (i := 15) rfl))) (by decide) (t := .int) (t' := (.array .byte)) (by decide) (by decide)))).other W7 (Or.inr (slot_ne (Or.inr (hw _ (List.mem_of_getElem? (i := 19) rfl))) (Or.inr (hw _ (List.mem_of_getElem? (i := 17) rfl))) (by decide) (t := .int) (t' := .int) (by decide) (by decide))))
  refine Gk.putF X7 hx hZ hown (host := "") (Or.inl (hw _ (List.mem_of_getElem? (i := 18) rfl))) Via.refl e7 H9 H8 (Or.inr ⟨(hw _ (List.mem_of_getElem? (i := 19) rfl)), rfl, hnm⟩) (hw _ (List.mem_of_getElem? (i := 7) rfl)) (ty := .int) (by decide) rfl rfl (hb hby d2_188) ?_
  intro T10 h10 X10 e10 W10
  have Fw10 := H9.same W10
  have N10 := Fr.snoc X10 N7 g_a1
  refine Gk.aloadN X10 hx (hb hby d2_191) rfl rfl ?_
  refine Gk.aloadN X10 hx (hb hby d2_192) rfl rfl ?_
  refine Gk.getF X10 hx hZ hown (host := "") (Or.inl (hw _ (List.mem_of_getElem? (i := 18) rfl))) Via.refl e10 Fw10 (hb hby d2_193) ?_
  intro T11 X11 e11
  refine Gk.iload X11 hx (hb hby d2_196) rfl ?_
  refine Gk.iadd X11 hx (hb hby d2_198) (2 : Int32) (by decide) ?_
  have H12 := (H8.wr W10)
  have H13 := (((F_end_a1.other W4 (Or.inr (slot_ne (Or.inr (hw _ (List.mem_of_getElem? (i := 21) rfl))) (Or.inr (hw _ (List.mem_of_getElem? (i := 15) rfl))) (by decide) (t := .int) (t' := (.array .byte)) (by decide) (by decide)))).other W7 (Or.inr (slot_ne (Or.inr (hw _ (List.mem_of_getElem? (i := 21) rfl))) (Or.inr (hw _ (List.mem_of_getElem? (i := 17) rfl))) (by decide) (t := .int) (t' := .int) (by decide) (by decide)))).other W10 (Or.inr (slot_ne (Or.inr (hw _ (List.mem_of_getElem? (i := 21) rfl))) (Or.inr (hw _ (List.mem_of_getElem? (i := 19) rfl))) (by decide) (t := .int) (t' := .int) (by decide) (by decide))))
  refine Gk.putF X11 hx hZ hown (host := "") (Or.inl (hw _ (List.mem_of_getElem? (i := 20) rfl))) Via.refl e11 H13 H12 (Or.inr ⟨(hw _ (List.mem_of_getElem? (i := 21) rfl)), rfl, hnm⟩) (hw _ (List.mem_of_getElem? (i := 7) rfl)) (ty := .int) (by decide) rfl rfl (hb hby d2_199) ?_
  intro T14 h14 X14 e14 W14
  have Fw14 := H13.same W14
  have N14 := Fr.snoc X14 N10 g_a1
  refine Gk.aloadN X14 hx (hb hby d2_202) rfl rfl ?_
  refine Gk.getF X14 hx hZ hown (host := "") (Or.inl (hw _ (List.mem_of_getElem? (i := 20) rfl))) Via.refl e14 Fw14 (hb hby d2_203) ?_
  intro T15 X15 e15
  refine Gk.iloadN X15 hx (hb hby d2_206) rfl ?_
  refine Gk.icmpYes X15 hx (hb hby d2_207) (flt (by decide : ¬ ((2 : Int32) < (2 : Int32)))).2.2.2 220 (by decide) (by decide) ?_
  have H16 := (((Fw4.other W7 (Or.inr (slot_ne (Or.inr (hw _ (List.mem_of_getElem? (i := 15) rfl))) (Or.inr (hw _ (List.mem_of_getElem? (i := 17) rfl))) (by decide) (t := (.array .byte)) (t' := .int) (by decide) (by decide)))).other W10 (Or.inr (slot_ne (Or.inr (hw _ (List.mem_of_getElem? (i := 15) rfl))) (Or.inr (hw _ (List.mem_of_getElem? (i := 19) rfl))) (by decide) (t := (.array .byte)) (t' := .int) (by decide) (by decide)))).other W14 (Or.inr (slot_ne (Or.inr (hw _ (List.mem_of_getElem? (i := 15) rfl))) (Or.inr (hw _ (List.mem_of_getElem? (i := 21) rfl))) (by decide) (t := (.array .byte)) (t' := .int) (by decide) (by decide))))
  have H17 := ((Fw7.other W10 (Or.inr (slot_ne (Or.inr (hw _ (List.mem_of_getElem? (i := 17) rfl))) (Or.inr (hw _ (List.mem_of_getElem? (i := 19) rfl))) (by decide) (t := .int) (t' := .int) (by decide) (by decide)))).other W14 (Or.inr (slot_ne (Or.inr (hw _ (List.mem_of_getElem? (i := 17) rfl))) (Or.inr (hw _ (List.mem_of_getElem? (i := 21) rfl))) (by decide) (t := .int) (t' := .int) (by decide) (by decide))))
  have H18 := (Fw10.other W14 (Or.inr (slot_ne (Or.inr (hw _ (List.mem_of_getElem? (i := 19) rfl))) (Or.inr (hw _ (List.mem_of_getElem? (i := 21) rfl))) (by decide) (t := .int) (t' := .int) (by decide) (by decide))))
  refine Go.fin X15 (v := none) (fun _ => rfl) Bd.notSynchronized (fun _ hr => X15.returnOut hx Bd.returns (hb hby d2_220) hr) (fun U' hU hF => ⟨_, _, rfl, ?_, hF.1, hF.2.1, hF.2.2.mono (by decide) (by decide)⟩)
  rw [hU, e15]
  exact ⟨rfl, N14, (((((Keep.refl h0 [a1]).wr W4 (Or.inl (List.mem_of_getElem? (i := 0) rfl))).wr W7 (Or.inl (List.mem_of_getElem? (i := 0) rfl))).wr W10 (Or.inl (List.mem_of_getElem? (i := 0) rfl))).wr W14 (Or.inl (List.mem_of_getElem? (i := 0) rfl))), H16, H17, H18, Fw14⟩
theorem pd_3 : parseMethodDescriptor "([BII)V" = some ⟨[(.array .byte), .int, .int], none⟩ := by decide +kernel
theorem d1_0 : decode prog_2_method_2_code 0 = .ok (.new 14, 3) := by decide +kernel
theorem d1_3 : decode prog_2_method_2_code 3 = .ok (.dup, 1) := by decide +kernel
theorem d1_4 : decode prog_2_method_2_code 4 = .ok (.aload_n 0, 1) := by decide +kernel
theorem d1_5 : decode prog_2_method_2_code 5 = .ok (.iconst 0, 1) := by decide +kernel
theorem d1_6 : decode prog_2_method_2_code 6 = .ok (.aload_n 0, 1) := by decide +kernel
theorem d1_7 : decode prog_2_method_2_code 7 = .ok (.arraylength, 1) := by decide +kernel
theorem d1_8 : decode prog_2_method_2_code 8 = .ok (.invokespecial 40, 3) := by decide +kernel
theorem d1_11 : decode prog_2_method_2_code 11 = .ok (.astore_n 1, 1) := by decide +kernel
theorem d1_12 : decode prog_2_method_2_code 12 = .ok (.aload_n 1, 1) := by decide +kernel
theorem d1_13 : decode prog_2_method_2_code 13 = .ok (.getfield 35, 3) := by decide +kernel
theorem d1_16 : decode prog_2_method_2_code 16 = .ok (.aload_n 0, 1) := by decide +kernel
theorem d1_17 : decode prog_2_method_2_code 17 = .ok (.arraylength, 1) := by decide +kernel
theorem d1_18 : decode prog_2_method_2_code 18 = .ok (.if_icmp .eq 13, 3) := by decide +kernel
theorem d1_31 : decode prog_2_method_2_code 31 = .ok (.aload_n 1, 1) := by decide +kernel
theorem d1_32 : decode prog_2_method_2_code 32 = .ok (.areturn, 1) := by decide +kernel
theorem ef_rm1_0 (m : MethodId) (a1 : Addr) : entryFrame m #[(.ref a1)] 2 = mkF m 0 #[.val (.ref a1), .unset] [] := by first | (simp [entryFrame, mkF, argsToLocals, Value.category]; done) | rfl
def Q_rm1_0 (Z : State) (a1 : Addr) (kb : ClassId) (f : Nat → Value) (tb : Int32) (h0 : Heap) (n0 : Nat) (v : Option Value) (h : Heap) (L : List Loc) : Prop := v = some (.ref h0.size) ∧ Fr n0 L ∧ Keep h0 h [] ∧ Exa Z h h0.size "com/example/mooring/mooring/Der" ∧ Fld Z h h0.size "com/example/mooring/mooring/Der" "bytes" "[B" (.ref a1) ∧ Fld Z h h0.size "com/example/mooring/mooring/Der" "start" "I" (.int (0 : Int32)) ∧ Fld Z h h0.size "com/example/mooring/mooring/Der" "contentStart" "I" (.int (2 : Int32)) ∧ Fld Z h h0.size "com/example/mooring/mooring/Der" "end" "I" (.int (2 : Int32))
set_option maxRecDepth 65536 in
set_option maxHeartbeats 40000000 in
theorem rm1_0 (l : Launch) (Z : State) (a0 : Array Value) (hw : ∀ d ∈ tables_1, d.before a0 Z = true) (ws : List Jvm.Cond) (a1 : Addr) (kb : ClassId) (f : Nat → Value) (tb : Int32) (h0 : Heap) (n0 : Nat) (Z0 : n0 ≤ h0.size) (V_a : Arf Z h0 a1 kb .byte (2 : Int32) f) (hf0 : f 0 = (.int tb)) (hf1 : f 1 = (.int (0 : Int32))) (htb : ¬ ((tb &&& (31 : Int32)) = (31 : Int32))) :
    MetFree l (⟨"com/example/mooring/mooring/Der", "parse", "([B)Lcom/example/mooring/mooring/Der;"⟩ : MethodName) (head1 (Jvm.Cond.code (⟨"com/example/mooring/mooring/Der", "parse", "([B)Lcom/example/mooring/mooring/Der;"⟩ : MethodName) prog_2_method_2_code 2 (some (.object "com/example/mooring/mooring/Der")) :: ws) ({ frames := 2, cells := 1, slots := 4, locals := 32 } : Room)) (fun a U => a = #[(.ref a1)] ∧ Z.Warmed39 U.vm ∧ U.heap = h0) (fun _ _ _ _ _ => True) (fun _ U o U' => ∃ v L, o = .returned v ∧ Q_rm1_0 Z a1 kb f tb h0 n0 v U'.heap L ∧ FrameEnd U o U' L ({ frames := 2, cells := 1, slots := 4, locals := 32 } : Room).cells ({ frames := 2, cells := 1, slots := 4, locals := 32 } : Room).slots) := by
  refine MetFree.of_bodySF (plainFor_of_name pn_103) hisR ?_
  intro p e s m args below meth c s₁ Bd hml0 hP hK
  obtain ⟨rfl, hZ, hh⟩ := hP
  have hx := Bd.exec
  have hby := Bd.bytes
  have hml : c.maxLocals = 2 := hml0
  have hown : s.vm.findClass "com/example/mooring/mooring/Der" = some m.cls := findClass_of_methodNamed Bd.named
  have hnm := (name_of_methodNamed Bd.named Bd.method).1
  have X0 : Stand p l e ({ frames := 2, cells := 1, slots := 4, locals := 32 } : Room) s m #[(.ref a1)] below meth c s₁ [] 0 0 := Stand.of_body Bd
  have e0 : s₁.heap = h0 := by rw [← hh, Bd.state]; rfl
  have N0 := Fr.nil n0
  show Go p e below (s₁.setTop (entryFrame m #[(.ref a1)] 2)) (fun o U' => ∃ v L, o = .returned v ∧ Q_rm1_0 Z a1 kb f tb h0 n0 v U'.heap L ∧ FrameEnd s o U' L ({ frames := 2, cells := 1, slots := 4, locals := 32 } : Room).cells ({ frames := 2, cells := 1, slots := 4, locals := 32 } : Room).slots)
  rw [ef_rm1_0]
  refine Gk.newO X0 hx hZ hown (hw _ (List.mem_of_getElem? (i := 6) rfl)) (hw _ (List.mem_of_getElem? (i := 7) rfl)) (hw _ (List.mem_of_getElem? (i := 4) rfl)) e0 (hb hby d1_0) (by decide) (by decide) ?_
  intro T1 h1 b1 X1 e1 E1 g1 A1 D1
  have g_b1 : n0 ≤ b1 := Nat.le_trans Z0 (Nat.le_of_eq g1.symm)
  have lt_b1 := A1.lt
  have F_bytes_b1 : Fld Z h1 b1 "com/example/mooring/mooring/Der" "bytes" "[B" .null := D1 (Or.inr (hw _ (List.mem_of_getElem? (i := 15) rfl))) (ty := (.array .byte)) (by decide)
  have F_start_b1 : Fld Z h1 b1 "com/example/mooring/mooring/Der" "start" "I" (.int (0 : Int32)) := D1 (Or.inr (hw _ (List.mem_of_getElem? (i := 17) rfl))) (ty := .int) (by decide)
  have F_contentStart_b1 : Fld Z h1 b1 "com/example/mooring/mooring/Der" "contentStart" "I" (.int (0 : Int32)) := D1 (Or.inr (hw _ (List.mem_of_getElem? (i := 19) rfl))) (ty := .int) (by decide)
  have F_end_b1 : Fld Z h1 b1 "com/example/mooring/mooring/Der" "end" "I" (.int (0 : Int32)) := D1 (Or.inr (hw _ (List.mem_of_getElem? (i := 21) rfl))) (ty := .int) (by decide)
  refine Gk.dup X1 hx (hb hby d1_3) rfl ?_
  refine Gk.aloadN X1 hx (hb hby d1_4) rfl rfl ?_
  refine Gk.iconst X1 hx (hb hby d1_5) (0 : Int32) rfl ?_
  refine Gk.aloadN X1 hx (hb hby d1_6) rfl rfl ?_
  have H2 := (V_a.ext E1)
  refine Gk.alen X1 hx hZ e1 H2 (hb hby d1_7) ?_
  have ne4 : b1 ≠ a1 := (Nat.ne_of_gt (Nat.lt_of_lt_of_le V_a.lt (Nat.le_trans (Nat.le_refl _) (Nat.le_of_eq g1.symm))))
  refine Gk.callI (argsL := [(.ref a1), (.int (0 : Int32)), (.int (2 : Int32))]) X1 hx hZ hown (rm2_0 l Z a0 hw [] b1 a1 kb f tb .null (.int (0 : Int32)) (.int (0 : Int32)) (.int (0 : Int32)) h1 n0 (Nat.le_trans Z0 E1.1) A1 H2 hf0 hf1 htb ne4 F_bytes_b1 g_b1 F_start_b1 F_contentStart_b1 F_end_b1) rfl (hw _ (List.mem_of_getElem? (i := 8) rfl)) (hw _ (List.mem_of_getElem? (i := 9) rfl)) (hw _ (List.mem_of_getElem? (i := 10) rfl)) rfl (by decide) (hw _ (List.mem_of_getElem? (i := 4) rfl)) e1 pd_3 rfl rfl (by decide) (Nat.le_of_ble_eq_true rfl) (by decide) (by decide) (by rw [hml]; rfl)  rfl (hb hby d1_8) ?_
  intro T3 L3 v3 X3 hQ3
  obtain ⟨rfl, N3q, K3, Fi3_bytes, Fi3_start, Fi3_contentStart, Fi3_end⟩ := hQ3
  have N3 := Fr.app N0 N3q
  show Go p e below (T3.setTop (mkF m 11 #[.val (.ref a1), .unset] [(.ref b1)])) _
  refine Gk.astoreN X3 hx (hb hby d1_11) rfl #[.val (.ref a1), .val (.ref b1)] rfl ?_
  refine Gk.aloadN X3 hx (hb hby d1_12) rfl rfl ?_
  refine Gk.getF X3 hx hZ hown (host := "") (Or.inl (hw _ (List.mem_of_getElem? (i := 20) rfl))) Via.refl rfl Fi3_end (hb hby d1_13) ?_
  intro T5 X5 e5
  refine Gk.aloadN X5 hx (hb hby d1_16) rfl rfl ?_
  have H6 := (H2.keep K3 (ninS (Ne.symm ne4) nin0))
  refine Gk.alen X5 hx hZ e5 H6 (hb hby d1_17) ?_
  refine Gk.icmpYes X5 hx (hb hby d1_18) (teq (by decide : (2 : Int32) = (2 : Int32))).1 31 (by decide) (by decide) ?_
  refine Gk.aloadN X5 hx (hb hby d1_31) rfl rfl ?_
  have H7 := (A1.keep K3)
  refine Go.fin X5 (v := some (.ref b1)) (fun h_ => by rw [Bd.returns] at h_; cases h_) Bd.notSynchronized (fun _ hr => retOut X5 hx Bd.returns rfl (Or.inr (Or.inr (Or.inr (Or.inr ⟨rfl, rfl, rfl⟩)))) (hb hby d1_32) hr) (fun U' hU hF => ⟨_, _, rfl, ?_, hF.1, hF.2.1, hF.2.2.mono (by decide) (by decide)⟩)
  rw [hU, e5]
  exact ⟨(congrArg (fun z_ : Addr => some (Value.ref z_)) (show b1 = h0.size from g1)), N3, (((Keep.refl h0 []).ext E1).trans K3 (allS (Or.inr (Nat.le_trans (Nat.le_refl _) (Nat.le_of_eq g1.symm))) all0)), (g1 ▸ H7), (g1 ▸ Fi3_bytes), (g1 ▸ Fi3_start), (g1 ▸ Fi3_contentStart), (g1 ▸ Fi3_end)⟩
theorem d4_0 : decode prog_2_method_3_code 0 = .ok (.aload_n 0, 1) := by decide +kernel
theorem d4_1 : decode prog_2_method_3_code 1 = .ok (.getfield 24, 3) := by decide +kernel
theorem d4_4 : decode prog_2_method_3_code 4 = .ok (.aload_n 0, 1) := by decide +kernel
theorem d4_5 : decode prog_2_method_3_code 5 = .ok (.getfield 28, 3) := by decide +kernel
theorem d4_8 : decode prog_2_method_3_code 8 = .ok (.baload, 1) := by decide +kernel
theorem d4_9 : decode prog_2_method_3_code 9 = .ok (.sipush 255, 3) := by decide +kernel
theorem d4_12 : decode prog_2_method_3_code 12 = .ok (.iand, 1) := by decide +kernel
theorem d4_13 : decode prog_2_method_3_code 13 = .ok (.ireturn, 1) := by decide +kernel
theorem ef_rm4_0 (m : MethodId) (a1 : Addr) : entryFrame m #[(.ref a1)] 1 = mkF m 0 #[.val (.ref a1)] [] := by first | (simp [entryFrame, mkF, argsToLocals, Value.category]; done) | rfl
def Q_rm4_0 (Z : State) (a1 : Addr) (ar : Addr) (kb : ClassId) (f : Nat → Value) (tb : Int32) (h0 : Heap) (n0 : Nat) (v : Option Value) (h : Heap) (L : List Loc) : Prop := v = some (.int (tb &&& (255 : Int32))) ∧ Fr n0 L ∧ h = h0
set_option maxRecDepth 65536 in
set_option maxHeartbeats 40000000 in
theorem rm4_0 (l : Launch) (Z : State) (a0 : Array Value) (hw : ∀ d ∈ tables_1, d.before a0 Z = true) (ws : List Jvm.Cond) (a1 : Addr) (ar : Addr) (kb : ClassId) (f : Nat → Value) (tb : Int32) (h0 : Heap) (n0 : Nat) (Z0 : n0 ≤ h0.size) (V_a : Arf Z h0 ar kb .byte (2 : Int32) f) (F_bytes : Fld Z h0 a1 "com/example/mooring/mooring/Der" "bytes" "[B" (.ref ar)) (F_start : Fld Z h0 a1 "com/example/mooring/mooring/Der" "start" "I" (.int (0 : Int32))) (F_contentStart : Fld Z h0 a1 "com/example/mooring/mooring/Der" "contentStart" "I" (.int (2 : Int32))) (F_end : Fld Z h0 a1 "com/example/mooring/mooring/Der" "end" "I" (.int (2 : Int32))) (hf0 : f 0 = (.int tb)) :
    MetFree l (⟨"com/example/mooring/mooring/Der", "tag", "()I"⟩ : MethodName) (head1 (Jvm.Cond.code (⟨"com/example/mooring/mooring/Der", "tag", "()I"⟩ : MethodName) prog_2_method_3_code 1 (some .int) :: ws) ({ frames := 0, cells := 0, slots := 0, locals := 0 } : Room)) (fun a U => a = #[(.ref a1)] ∧ Z.Warmed39 U.vm ∧ U.heap = h0) (fun _ _ _ _ _ => True) (fun _ U o U' => ∃ v L, o = .returned v ∧ Q_rm4_0 Z a1 ar kb f tb h0 n0 v U'.heap L ∧ FrameEnd U o U' L ({ frames := 0, cells := 0, slots := 0, locals := 0 } : Room).cells ({ frames := 0, cells := 0, slots := 0, locals := 0 } : Room).slots) := by
  refine MetFree.of_bodySF (plainFor_of_name pn_103) hisR ?_
  intro p e s m args below meth c s₁ Bd hml0 hP hK
  obtain ⟨rfl, hZ, hh⟩ := hP
  have hx := Bd.exec
  have hby := Bd.bytes
  have hml : c.maxLocals = 1 := hml0
  have hown : s.vm.findClass "com/example/mooring/mooring/Der" = some m.cls := findClass_of_methodNamed Bd.named
  have hnm := (name_of_methodNamed Bd.named Bd.method).1
  have X0 : Stand p l e ({ frames := 0, cells := 0, slots := 0, locals := 0 } : Room) s m #[(.ref a1)] below meth c s₁ [] 0 0 := Stand.of_body Bd
  have e0 : s₁.heap = h0 := by rw [← hh, Bd.state]; rfl
  have N0 := Fr.nil n0
  show Go p e below (s₁.setTop (entryFrame m #[(.ref a1)] 1)) (fun o U' => ∃ v L, o = .returned v ∧ Q_rm4_0 Z a1 ar kb f tb h0 n0 v U'.heap L ∧ FrameEnd s o U' L ({ frames := 0, cells := 0, slots := 0, locals := 0 } : Room).cells ({ frames := 0, cells := 0, slots := 0, locals := 0 } : Room).slots)
  rw [ef_rm4_0]
  refine Gk.aloadN X0 hx (hb hby d4_0) rfl rfl ?_
  refine Gk.getF X0 hx hZ hown (host := "") (Or.inl (hw _ (List.mem_of_getElem? (i := 14) rfl))) Via.refl e0 F_bytes (hb hby d4_1) ?_
  intro T1 X1 e1
  refine Gk.aloadN X1 hx (hb hby d4_4) rfl rfl ?_
  refine Gk.getF X1 hx hZ hown (host := "") (Or.inl (hw _ (List.mem_of_getElem? (i := 16) rfl))) Via.refl e1 F_start (hb hby d4_5) ?_
  intro T2 X2 e2
  refine Gk.baloadB X2 hx hZ e2 V_a ⟨by decide, by decide⟩ (.int tb) hf0 (hb hby d4_8) ?_
  refine Gk.sipush X2 hx (hb hby d4_9) (255 : Int32) rfl ?_
  refine Gk.iand X2 hx (hb hby d4_12) _ rfl ?_
  refine Go.fin X2 (v := some (.int (tb &&& (255 : Int32)))) (fun h_ => by rw [Bd.returns] at h_; cases h_) Bd.notSynchronized (fun _ hr => retOut X2 hx Bd.returns rfl (Or.inl ⟨rfl, Or.inl rfl, _, rfl⟩) (hb hby d4_13) hr) (fun U' hU hF => ⟨_, _, rfl, ?_, hF.1, hF.2.1, hF.2.2.mono (by decide) (by decide)⟩)
  rw [hU, e2]
  exact ⟨(congrArg (fun z_ : Int32 => some (Value.int z_)) (show (tb &&& (255 : Int32)) = (tb &&& (255 : Int32)) from rfl)), N0, rfl⟩
theorem d5_0 : decode prog_2_method_4_code 0 = .ok (.aload_n 0, 1) := by decide +kernel
theorem d5_1 : decode prog_2_method_4_code 1 = .ok (.getfield 24, 3) := by decide +kernel
theorem d5_4 : decode prog_2_method_4_code 4 = .ok (.aload_n 0, 1) := by decide +kernel
theorem d5_5 : decode prog_2_method_4_code 5 = .ok (.getfield 32, 3) := by decide +kernel
theorem d5_8 : decode prog_2_method_4_code 8 = .ok (.aload_n 0, 1) := by decide +kernel
theorem d5_9 : decode prog_2_method_4_code 9 = .ok (.getfield 35, 3) := by decide +kernel
theorem d5_12 : decode prog_2_method_4_code 12 = .ok (.invokestatic 45, 3) := by decide +kernel
theorem d5_15 : decode prog_2_method_4_code 15 = .ok (.areturn, 1) := by decide +kernel
theorem ef_rm5_0 (m : MethodId) (a1 : Addr) : entryFrame m #[(.ref a1)] 1 = mkF m 0 #[.val (.ref a1)] [] := by first | (simp [entryFrame, mkF, argsToLocals, Value.category]; done) | rfl
def Q_rm5_0 (Z : State) (a1 : Addr) (ar : Addr) (kb : ClassId) (f : Nat → Value) (h0 : Heap) (n0 : Nat) (v : Option Value) (h : Heap) (L : List Loc) : Prop := v = some (.ref h0.size) ∧ Fr n0 L ∧ Keep h0 h [] ∧ ∃ kr : ClassId, Arf Z h h0.size kr .byte (0 : Int32) (fun i => if 0 ≤ i ∧ i < 0 + 0 then f (2 + (i - 0)) else (.int (0 : Int32)))
set_option maxRecDepth 65536 in
set_option maxHeartbeats 40000000 in
theorem rm5_0 (l : Launch) (Z : State) (a0 : Array Value) (hw : ∀ d ∈ tables_1, d.before a0 Z = true) (ws : List Jvm.Cond) (a1 : Addr) (ar : Addr) (kb : ClassId) (f : Nat → Value) (h0 : Heap) (n0 : Nat) (Z0 : n0 ≤ h0.size) (V_a : Arf Z h0 ar kb .byte (2 : Int32) f) (F_bytes : Fld Z h0 a1 "com/example/mooring/mooring/Der" "bytes" "[B" (.ref ar)) (F_start : Fld Z h0 a1 "com/example/mooring/mooring/Der" "start" "I" (.int (0 : Int32))) (F_contentStart : Fld Z h0 a1 "com/example/mooring/mooring/Der" "contentStart" "I" (.int (2 : Int32))) (F_end : Fld Z h0 a1 "com/example/mooring/mooring/Der" "end" "I" (.int (2 : Int32))) :
    MetFree l (⟨"com/example/mooring/mooring/Der", "content", "()[B"⟩ : MethodName) (head1 (Jvm.Cond.code (⟨"com/example/mooring/mooring/Der", "content", "()[B"⟩ : MethodName) prog_2_method_4_code 1 (some (.array .byte)) :: ws) ({ frames := 3, cells := 1, slots := 0, locals := 70 } : Room)) (fun a U => a = #[(.ref a1)] ∧ Z.Warmed39 U.vm ∧ U.heap = h0) (fun _ _ _ _ _ => True) (fun _ U o U' => ∃ v L, o = .returned v ∧ Q_rm5_0 Z a1 ar kb f h0 n0 v U'.heap L ∧ FrameEnd U o U' L ({ frames := 3, cells := 1, slots := 0, locals := 70 } : Room).cells ({ frames := 3, cells := 1, slots := 0, locals := 70 } : Room).slots) := by
  refine MetFree.of_bodySF (plainFor_of_name pn_103) hisR ?_
  intro p e s m args below meth c s₁ Bd hml0 hP hK
  obtain ⟨rfl, hZ, hh⟩ := hP
  have hx := Bd.exec
  have hby := Bd.bytes
  have hml : c.maxLocals = 1 := hml0
  have hown : s.vm.findClass "com/example/mooring/mooring/Der" = some m.cls := findClass_of_methodNamed Bd.named
  have hnm := (name_of_methodNamed Bd.named Bd.method).1
  have X0 : Stand p l e ({ frames := 3, cells := 1, slots := 0, locals := 70 } : Room) s m #[(.ref a1)] below meth c s₁ [] 0 0 := Stand.of_body Bd
  have e0 : s₁.heap = h0 := by rw [← hh, Bd.state]; rfl
  have N0 := Fr.nil n0
  show Go p e below (s₁.setTop (entryFrame m #[(.ref a1)] 1)) (fun o U' => ∃ v L, o = .returned v ∧ Q_rm5_0 Z a1 ar kb f h0 n0 v U'.heap L ∧ FrameEnd s o U' L ({ frames := 3, cells := 1, slots := 0, locals := 70 } : Room).cells ({ frames := 3, cells := 1, slots := 0, locals := 70 } : Room).slots)
  rw [ef_rm5_0]
  refine Gk.aloadN X0 hx (hb hby d5_0) rfl rfl ?_
  refine Gk.getF X0 hx hZ hown (host := "") (Or.inl (hw _ (List.mem_of_getElem? (i := 14) rfl))) Via.refl e0 F_bytes (hb hby d5_1) ?_
  intro T1 X1 e1
  refine Gk.aloadN X1 hx (hb hby d5_4) rfl rfl ?_
  refine Gk.getF X1 hx hZ hown (host := "") (Or.inl (hw _ (List.mem_of_getElem? (i := 18) rfl))) Via.refl e1 F_contentStart (hb hby d5_5) ?_
  intro T2 X2 e2
  refine Gk.aloadN X2 hx (hb hby d5_8) rfl rfl ?_
  refine Gk.getF X2 hx hZ hown (host := "") (Or.inl (hw _ (List.mem_of_getElem? (i := 20) rfl))) Via.refl e2 F_end (hb hby d5_9) ?_
  intro T3 X3 e3
  refine Gk.callS (argsL := [(.ref ar), (.int (2 : Int32)), (.int (2 : Int32))]) X3 hx hZ hown (rm6c_0 l Z a0 hw [] ar kb f h0 n0 Z0 V_a) (hw _ (List.mem_of_getElem? (i := 32) rfl)) (hw _ (List.mem_of_getElem? (i := 33) rfl)) (hw _ (List.mem_of_getElem? (i := 34) rfl)) (hw _ (List.mem_of_getElem? (i := 35) rfl)) (by decide) e3 pd_2 rfl rfl (by decide) (Nat.le_of_ble_eq_true rfl) (by decide) (by decide) (by rw [hml]; rfl)  rfl (hb hby d5_12) ?_
  intro T4 L4 v4 X4 hQ4
  obtain ⟨rfl, N4q, K4, k4, A4⟩ := hQ4
  have N4 := Fr.app N0 N4q
  obtain ⟨b4, g4⟩ : ∃ z_, z_ = h0.size := ⟨_, rfl⟩
  rw [← g4] at A4 ⊢
  have g_b4 : n0 ≤ b4 := Nat.le_trans Z0 (Nat.le_of_eq g4.symm)
  have lt_b4 : b4 < T4.heap.size := A4.lt
  show Go p e below (T4.setTop (mkF m 15 #[.val (.ref a1)] [(.ref b4)])) _
  refine Go.fin X4 (v := some (.ref b4)) (fun h_ => by rw [Bd.returns] at h_; cases h_) Bd.notSynchronized (fun _ hr => retOut X4 hx Bd.returns rfl (Or.inr (Or.inr (Or.inr (Or.inr ⟨rfl, rfl, rfl⟩)))) (hb hby d5_15) hr) (fun U' hU hF => ⟨_, _, rfl, ?_, hF.1, hF.2.1, hF.2.2.mono (by decide) (by decide)⟩)
  rw [hU]
  exact ⟨(congrArg (fun z_ : Addr => some (Value.ref z_)) (show b4 = h0.size from g4)), N4, ((Keep.refl h0 []).trans K4 all0), _, (g4 ▸ A4)⟩
theorem d10_0 : decode prog_2_method_5_code 0 = .ok (.aload_n 0, 1) := by decide +kernel
theorem d10_1 : decode prog_2_method_5_code 1 = .ok (.getfield 24, 3) := by decide +kernel
theorem d10_4 : decode prog_2_method_5_code 4 = .ok (.aload_n 0, 1) := by decide +kernel
theorem d10_5 : decode prog_2_method_5_code 5 = .ok (.getfield 28, 3) := by decide +kernel
theorem d10_8 : decode prog_2_method_5_code 8 = .ok (.aload_n 0, 1) := by decide +kernel
theorem d10_9 : decode prog_2_method_5_code 9 = .ok (.getfield 35, 3) := by decide +kernel
theorem d10_12 : decode prog_2_method_5_code 12 = .ok (.invokestatic 45, 3) := by decide +kernel
theorem d10_15 : decode prog_2_method_5_code 15 = .ok (.areturn, 1) := by decide +kernel
theorem ef_rm10_0 (m : MethodId) (a1 : Addr) : entryFrame m #[(.ref a1)] 1 = mkF m 0 #[.val (.ref a1)] [] := by first | (simp [entryFrame, mkF, argsToLocals, Value.category]; done) | rfl
def Q_rm10_0 (Z : State) (a1 : Addr) (ar : Addr) (kb : ClassId) (f : Nat → Value) (h0 : Heap) (n0 : Nat) (v : Option Value) (h : Heap) (L : List Loc) : Prop := v = some (.ref h0.size) ∧ Fr n0 L ∧ Keep h0 h [] ∧ ∃ kr : ClassId, Arf Z h h0.size kr .byte (2 : Int32) f
set_option maxRecDepth 65536 in
set_option maxHeartbeats 40000000 in
theorem rm10_0 (l : Launch) (Z : State) (a0 : Array Value) (hw : ∀ d ∈ tables_1, d.before a0 Z = true) (ws : List Jvm.Cond) (a1 : Addr) (ar : Addr) (kb : ClassId) (f : Nat → Value) (h0 : Heap) (n0 : Nat) (Z0 : n0 ≤ h0.size) (V_a : Arf Z h0 ar kb .byte (2 : Int32) f) (F_bytes : Fld Z h0 a1 "com/example/mooring/mooring/Der" "bytes" "[B" (.ref ar)) (F_start : Fld Z h0 a1 "com/example/mooring/mooring/Der" "start" "I" (.int (0 : Int32))) (F_contentStart : Fld Z h0 a1 "com/example/mooring/mooring/Der" "contentStart" "I" (.int (2 : Int32))) (F_end : Fld Z h0 a1 "com/example/mooring/mooring/Der" "end" "I" (.int (2 : Int32))) (E_a : Exa Z h0 ar "[B") :
    MetFree l (⟨"com/example/mooring/mooring/Der", "encoded", "()[B"⟩ : MethodName) (head1 (Jvm.Cond.code (⟨"com/example/mooring/mooring/Der", "encoded", "()[B"⟩ : MethodName) prog_2_method_5_code 1 (some (.array .byte)) :: ws) ({ frames := 2, cells := 1, slots := 2, locals := 28 } : Room)) (fun a U => a = #[(.ref a1)] ∧ Z.Warmed39 U.vm ∧ U.heap = h0) (fun _ _ _ _ _ => True) (fun _ U o U' => ∃ v L, o = .returned v ∧ Q_rm10_0 Z a1 ar kb f h0 n0 v U'.heap L ∧ FrameEnd U o U' L ({ frames := 2, cells := 1, slots := 2, locals := 28 } : Room).cells ({ frames := 2, cells := 1, slots := 2, locals := 28 } : Room).slots) := by
  refine MetFree.of_bodySF (plainFor_of_name pn_103) hisR ?_
  intro p e s m args below meth c s₁ Bd hml0 hP hK
  obtain ⟨rfl, hZ, hh⟩ := hP
  have hx := Bd.exec
  have hby := Bd.bytes
  have hml : c.maxLocals = 1 := hml0
  have hown : s.vm.findClass "com/example/mooring/mooring/Der" = some m.cls := findClass_of_methodNamed Bd.named
  have hnm := (name_of_methodNamed Bd.named Bd.method).1
  have X0 : Stand p l e ({ frames := 2, cells := 1, slots := 2, locals := 28 } : Room) s m #[(.ref a1)] below meth c s₁ [] 0 0 := Stand.of_body Bd
  have e0 : s₁.heap = h0 := by rw [← hh, Bd.state]; rfl
  have N0 := Fr.nil n0
  show Go p e below (s₁.setTop (entryFrame m #[(.ref a1)] 1)) (fun o U' => ∃ v L, o = .returned v ∧ Q_rm10_0 Z a1 ar kb f h0 n0 v U'.heap L ∧ FrameEnd s o U' L ({ frames := 2, cells := 1, slots := 2, locals := 28 } : Room).cells ({ frames := 2, cells := 1, slots := 2, locals := 28 } : Room).slots)
  rw [ef_rm10_0]
  refine Gk.aloadN X0 hx (hb hby d10_0) rfl rfl ?_
  refine Gk.getF X0 hx hZ hown (host := "") (Or.inl (hw _ (List.mem_of_getElem? (i := 14) rfl))) Via.refl e0 F_bytes (hb hby d10_1) ?_
  intro T1 X1 e1
  refine Gk.aloadN X1 hx (hb hby d10_4) rfl rfl ?_
  refine Gk.getF X1 hx hZ hown (host := "") (Or.inl (hw _ (List.mem_of_getElem? (i := 16) rfl))) Via.refl e1 F_start (hb hby d10_5) ?_
  intro T2 X2 e2
  refine Gk.aloadN X2 hx (hb hby d10_8) rfl rfl ?_
  refine Gk.getF X2 hx hZ hown (host := "") (Or.inl (hw _ (List.mem_of_getElem? (i := 20) rfl))) Via.refl e2 F_end (hb hby d10_9) ?_
  intro T3 X3 e3
  refine Gk.callS (argsL := [(.ref ar), (.int (0 : Int32)), (.int (2 : Int32))]) X3 hx hZ hown (rm6e_0 l Z a0 hw [] ar kb f h0 n0 Z0 V_a E_a) (hw _ (List.mem_of_getElem? (i := 32) rfl)) (hw _ (List.mem_of_getElem? (i := 33) rfl)) (hw _ (List.mem_of_getElem? (i := 34) rfl)) (hw _ (List.mem_of_getElem? (i := 35) rfl)) (by decide) e3 pd_2 rfl rfl (by decide) (Nat.le_of_ble_eq_true rfl) (by decide) (by decide) (by rw [hml]; rfl)  rfl (hb hby d10_12) ?_
  intro T4 L4 v4 X4 hQ4
  obtain ⟨rfl, N4q, K4, k4, A4⟩ := hQ4
  have N4 := Fr.app N0 N4q
  obtain ⟨b4, g4⟩ : ∃ z_, z_ = h0.size := ⟨_, rfl⟩
  rw [← g4] at A4 ⊢
  have g_b4 : n0 ≤ b4 := Nat.le_trans Z0 (Nat.le_of_eq g4.symm)
  have lt_b4 : b4 < T4.heap.size := A4.lt
  show Go p e below (T4.setTop (mkF m 15 #[.val (.ref a1)] [(.ref b4)])) _
  refine Go.fin X4 (v := some (.ref b4)) (fun h_ => by rw [Bd.returns] at h_; cases h_) Bd.notSynchronized (fun _ hr => retOut X4 hx Bd.returns rfl (Or.inr (Or.inr (Or.inr (Or.inr ⟨rfl, rfl, rfl⟩)))) (hb hby d10_15) hr) (fun U' hU hF => ⟨_, _, rfl, ?_, hF.1, hF.2.1, hF.2.2.mono (by decide) (by decide)⟩)
  rw [hU]
  exact ⟨(congrArg (fun z_ : Addr => some (Value.ref z_)) (show b4 = h0.size from g4)), N4, ((Keep.refl h0 []).trans K4 all0), _, (g4 ▸ A4)⟩
theorem ef_rm7_1 (m : MethodId) (a1 : Addr) : entryFrame m #[(.ref a1), (.int (2 : Int32)), (.int (3 : Int32))] 5 = mkF m 0 #[.val (.ref a1), .val (.int (2 : Int32)), .val (.int (3 : Int32)), .unset, .unset] [] := by first | (simp [entryFrame, mkF, argsToLocals, Value.category]; done) | rfl
def Q_rm7_1 (Z : State) (a1 : Addr) (kb : ClassId) (f : Nat → Value) (h0 : Heap) (n0 : Nat) (v : Option Value) (h : Heap) (L : List Loc) : Prop := v = some (.ref h0.size) ∧ Fr n0 L ∧ Keep h0 h [] ∧ ∃ kr : ClassId, Arf Z h h0.size kr .byte (1 : Int32) (fun i => if 0 ≤ i ∧ i < 0 + 1 then f (2 + (i - 0)) else (.int (0 : Int32)))
set_option maxRecDepth 65536 in
set_option maxHeartbeats 40000000 in
theorem rm7_1 (l : Launch) (Z : State) (a0 : Array Value) (hw : ∀ d ∈ tables_1, d.before a0 Z = true) (ws : List Jvm.Cond) (a1 : Addr) (kb : ClassId) (f : Nat → Value) (h0 : Heap) (n0 : Nat) (Z0 : n0 ≤ h0.size) (V_a : Arf Z h0 a1 kb .byte (3 : Int32) f) :
    MetFree l (⟨"java/util/Arrays", "copyOfRangeByte", "([BII)[B"⟩ : MethodName) (head1 (Jvm.Cond.code (⟨"java/util/Arrays", "copyOfRangeByte", "([BII)[B"⟩ : MethodName) jdk_65_method_133_code 5 (some (.array .byte)) :: ws) ({ frames := 1, cells := 1, slots := 1, locals := 40 } : Room)) (fun a U => a = #[(.ref a1), (.int (2 : Int32)), (.int (3 : Int32))] ∧ Z.Warmed39 U.vm ∧ U.heap = h0) (fun _ _ _ _ _ => True) (fun _ U o U' => ∃ v L, o = .returned v ∧ Q_rm7_1 Z a1 kb f h0 n0 v U'.heap L ∧ FrameEnd U o U' L ({ frames := 1, cells := 1, slots := 1, locals := 40 } : Room).cells ({ frames := 1, cells := 1, slots := 1, locals := 40 } : Room).slots) := by
  refine MetFree.of_bodySF (plainFor_of_name pn_11) hisR ?_
  intro p e s m args below meth c s₁ Bd hml0 hP hK
  obtain ⟨rfl, hZ, hh⟩ := hP
  have hx := Bd.exec
  have hby := Bd.bytes
  have hml : c.maxLocals = 5 := hml0
  have hown : s.vm.findClass "java/util/Arrays" = some m.cls := findClass_of_methodNamed Bd.named
  have hnm := (name_of_methodNamed Bd.named Bd.method).1
  have X0 : Stand p l e ({ frames := 1, cells := 1, slots := 1, locals := 40 } : Room) s m #[(.ref a1), (.int (2 : Int32)), (.int (3 : Int32))] below meth c s₁ [] 0 0 := Stand.of_body Bd
  have e0 : s₁.heap = h0 := by rw [← hh, Bd.state]; rfl
  have N0 := Fr.nil n0
  show Go p e below (s₁.setTop (entryFrame m #[(.ref a1), (.int (2 : Int32)), (.int (3 : Int32))] 5)) (fun o U' => ∃ v L, o = .returned v ∧ Q_rm7_1 Z a1 kb f h0 n0 v U'.heap L ∧ FrameEnd s o U' L ({ frames := 1, cells := 1, slots := 1, locals := 40 } : Room).cells ({ frames := 1, cells := 1, slots := 1, locals := 40 } : Room).slots)
  rw [ef_rm7_1]
  refine Gk.iloadN X0 hx (hb hby d7_0) rfl ?_
  refine Gk.iloadN X0 hx (hb hby d7_1) rfl ?_
  refine Gk.callS (argsL := [(.int (2 : Int32)), (.int (3 : Int32))]) X0 hx hZ hown (rm8 l Z a0 hw [] (2 : Int32) (3 : Int32) h0 n0 Z0 (by decide)) (hw _ (List.mem_of_getElem? (i := 39) rfl)) (hw _ (List.mem_of_getElem? (i := 40) rfl)) (hw _ (List.mem_of_getElem? (i := 34) rfl)) (hw _ (List.mem_of_getElem? (i := 41) rfl)) (by decide) e0 pd_0 rfl rfl (by decide) (Nat.le_of_ble_eq_true rfl) (by decide) (by decide) (by rw [hml]; rfl)  rfl (hb hby d7_2) ?_
  intro T1 L1 v1 X1 hQ1
  obtain ⟨rfl, N1q, e1⟩ := hQ1
  have N1 := Fr.app N0 N1q
  show Go p e below (T1.setTop (mkF m 5 #[.val (.ref a1), .val (.int (2 : Int32)), .val (.int (3 : Int32)), .unset, .unset] [])) _
  refine Gk.iloadN X1 hx (hb hby d7_5) rfl ?_
  refine Gk.iloadN X1 hx (hb hby d7_6) rfl ?_
  refine Gk.isub X1 hx (hb hby d7_7) (1 : Int32) (by decide) ?_
  refine Gk.istoreN X1 hx (hb hby d7_8) #[.val (.ref a1), .val (.int (2 : Int32)), .val (.int (3 : Int32)), .val (.int (1 : Int32)), .unset] rfl ?_
  refine Gk.iloadN X1 hx (hb hby d7_9) rfl ?_
  refine Gk.newP X1 hx hZ (hw _ (List.mem_of_getElem? (i := 1) rfl)) e1 (hb hby d7_10) (by decide) (cap := 1) (by decide) (by decide) (by decide) (by decide) rfl ?_
  intro T2 h2 b2 k2 X2 e2 E2 g2 A2 B2
  have g_b2 : n0 ≤ b2 := Nat.le_trans Z0 (Nat.le_of_eq g2.symm)
  have V_b2 : Arf Z h2 b2 k2 .byte (1 : Int32) (fun _ => (.int (0 : Int32))) := A2
  have lt_b2 := V_b2.lt
  refine Gk.astore X2 hx (hb hby d7_12) rfl #[.val (.ref a1), .val (.int (2 : Int32)), .val (.int (3 : Int32)), .val (.int (1 : Int32)), .val (.ref b2)] rfl ?_
  refine Gk.aloadN X2 hx (hb hby d7_14) rfl rfl ?_
  refine Gk.iloadN X2 hx (hb hby d7_15) rfl ?_
  refine Gk.aload X2 hx (hb hby d7_16) rfl rfl ?_
  refine Gk.iconst X2 hx (hb hby d7_18) (0 : Int32) rfl ?_
  refine Gk.aloadN X2 hx (hb hby d7_19) rfl rfl ?_
  have H3 := (V_a.ext E2)
  refine Gk.alen X2 hx hZ e2 H3 (hb hby d7_20) ?_
  refine Gk.iloadN X2 hx (hb hby d7_21) rfl ?_
  refine Gk.isub X2 hx (hb hby d7_22) (1 : Int32) (by decide) ?_
  refine Gk.iloadN X2 hx (hb hby d7_23) rfl ?_
  refine Gk.callS (argsL := [(.int (1 : Int32)), (.int (1 : Int32))]) X2 hx hZ hown (rm9 l Z a0 hw [] (1 : Int32) (1 : Int32) h2 n0 (Nat.le_trans Z0 E2.1)) (hw _ (List.mem_of_getElem? (i := 42) rfl)) (hw _ (List.mem_of_getElem? (i := 43) rfl)) (hw _ (List.mem_of_getElem? (i := 44) rfl)) (hw _ (List.mem_of_getElem? (i := 45) rfl)) (by decide) e2 pd_1 rfl rfl (by decide) (Nat.le_of_ble_eq_true rfl) (by decide) (by decide) (by rw [hml]; rfl)  rfl (hb hby d7_24) ?_
  intro T4 L4 v4 X4 hQ4
  obtain ⟨rfl, N4q, e4⟩ := hQ4
  have N4 := Fr.app N1 N4q
  show Go p e below (T4.setTop (mkF m 27 #[.val (.ref a1), .val (.int (2 : Int32)), .val (.int (3 : Int32)), .val (.int (1 : Int32)), .val (.ref b2)] [(.int (if (1 : Int32) < (1 : Int32) then (1 : Int32) else (1 : Int32))), (.int (0 : Int32)), (.ref b2), (.int (2 : Int32)), (.ref a1)])) _
  rw [show (if (1 : Int32) < (1 : Int32) then (1 : Int32) else (1 : Int32)) = (1 : Int32) from by decide]
  refine Gk.copy X4 hx hZ hown (hw _ (List.mem_of_getElem? (i := 46) rfl)) (hw _ (List.mem_of_getElem? (i := 49) rfl)) (hw _ (List.mem_of_getElem? (i := 47) rfl)) (hw _ (List.mem_of_getElem? (i := 48) rfl)) e4 H3 V_b2 rfl (by decide) (by decide) (by decide) (by decide) (by decide) N4 g_b2 (fun i => if 0 ≤ i ∧ i < 0 + 1 then f (2 + (i - 0)) else (fun _ => (.int (0 : Int32))) i) (fun _ _ => rfl) (by rw [hml]; rfl) (hb hby d7_27) (by decide) (Nat.le_of_ble_eq_true rfl) ?_
  intro T5 h5 L5 X5 e5 N5 K5 V5
  refine Gk.aload X5 hx (hb hby d7_30) rfl rfl ?_
  refine Go.fin X5 (v := some (.ref b2)) (fun h_ => by rw [Bd.returns] at h_; cases h_) Bd.notSynchronized (fun _ hr => retOut X5 hx Bd.returns rfl (Or.inr (Or.inr (Or.inr (Or.inr ⟨rfl, rfl, rfl⟩)))) (hb hby d7_32) hr) (fun U' hU hF => ⟨_, _, rfl, ?_, hF.1, hF.2.1, hF.2.2.mono (by decide) (by decide)⟩)
  rw [hU, e5]
  exact ⟨(congrArg (fun z_ : Addr => some (Value.ref z_)) (show b2 = h0.size from g2)), N5, (((Keep.refl h0 []).ext E2).trans K5 (allS (Or.inr (Nat.le_trans (Nat.le_refl _) (Nat.le_of_eq g2.symm))) all0)), _, (g2 ▸ V5)⟩
theorem ef_rm6c_1 (m : MethodId) (a1 : Addr) : entryFrame m #[(.ref a1), (.int (2 : Int32)), (.int (3 : Int32))] 3 = mkF m 0 #[.val (.ref a1), .val (.int (2 : Int32)), .val (.int (3 : Int32))] [] := by first | (simp [entryFrame, mkF, argsToLocals, Value.category]; done) | rfl
def Q_rm6c_1 (Z : State) (a1 : Addr) (kb : ClassId) (f : Nat → Value) (h0 : Heap) (n0 : Nat) (v : Option Value) (h : Heap) (L : List Loc) : Prop := v = some (.ref h0.size) ∧ Fr n0 L ∧ Keep h0 h [] ∧ ∃ kr : ClassId, Arf Z h h0.size kr .byte (1 : Int32) (fun i => if 0 ≤ i ∧ i < 0 + 1 then f (2 + (i - 0)) else (.int (0 : Int32)))
set_option maxRecDepth 65536 in
set_option maxHeartbeats 40000000 in
theorem rm6c_1 (l : Launch) (Z : State) (a0 : Array Value) (hw : ∀ d ∈ tables_1, d.before a0 Z = true) (ws : List Jvm.Cond) (a1 : Addr) (kb : ClassId) (f : Nat → Value) (h0 : Heap) (n0 : Nat) (Z0 : n0 ≤ h0.size) (V_a : Arf Z h0 a1 kb .byte (3 : Int32) f) :
    MetFree l (⟨"java/util/Arrays", "copyOfRange", "([BII)[B"⟩ : MethodName) (head1 (Jvm.Cond.code (⟨"java/util/Arrays", "copyOfRange", "([BII)[B"⟩ : MethodName) jdk_65_method_132_code 3 (some (.array .byte)) :: ws) ({ frames := 2, cells := 1, slots := 1, locals := 56 } : Room)) (fun a U => a = #[(.ref a1), (.int (2 : Int32)), (.int (3 : Int32))] ∧ Z.Warmed39 U.vm ∧ U.heap = h0) (fun _ _ _ _ _ => True) (fun _ U o U' => ∃ v L, o = .returned v ∧ Q_rm6c_1 Z a1 kb f h0 n0 v U'.heap L ∧ FrameEnd U o U' L ({ frames := 2, cells := 1, slots := 1, locals := 56 } : Room).cells ({ frames := 2, cells := 1, slots := 1, locals := 56 } : Room).slots) := by
  refine MetFree.of_bodySF (plainFor_of_name pn_11) hisR ?_
  intro p e s m args below meth c s₁ Bd hml0 hP hK
  obtain ⟨rfl, hZ, hh⟩ := hP
  have hx := Bd.exec
  have hby := Bd.bytes
  have hml : c.maxLocals = 3 := hml0
  have hown : s.vm.findClass "java/util/Arrays" = some m.cls := findClass_of_methodNamed Bd.named
  have hnm := (name_of_methodNamed Bd.named Bd.method).1
  have X0 : Stand p l e ({ frames := 2, cells := 1, slots := 1, locals := 56 } : Room) s m #[(.ref a1), (.int (2 : Int32)), (.int (3 : Int32))] below meth c s₁ [] 0 0 := Stand.of_body Bd
  have e0 : s₁.heap = h0 := by rw [← hh, Bd.state]; rfl
  have N0 := Fr.nil n0
  show Go p e below (s₁.setTop (entryFrame m #[(.ref a1), (.int (2 : Int32)), (.int (3 : Int32))] 3)) (fun o U' => ∃ v L, o = .returned v ∧ Q_rm6c_1 Z a1 kb f h0 n0 v U'.heap L ∧ FrameEnd s o U' L ({ frames := 2, cells := 1, slots := 1, locals := 56 } : Room).cells ({ frames := 2, cells := 1, slots := 1, locals := 56 } : Room).slots)
  rw [ef_rm6c_1]
  refine Gk.iloadN X0 hx (hb hby d6_0) rfl ?_
  refine Gk.ifYes X0 hx (hb hby d6_1) (feq (by decide : ¬ ((2 : Int32) = (0 : Int32)))).2 10 (by decide) (by decide) ?_
  refine Gk.aloadN X0 hx (hb hby d6_10) rfl rfl ?_
  refine Gk.iloadN X0 hx (hb hby d6_11) rfl ?_
  refine Gk.iloadN X0 hx (hb hby d6_12) rfl ?_
  refine Gk.callS (argsL := [(.ref a1), (.int (2 : Int32)), (.int (3 : Int32))]) X0 hx hZ hown (rm7_1 l Z a0 hw [] a1 kb f h0 n0 Z0 V_a) (hw _ (List.mem_of_getElem? (i := 36) rfl)) (hw _ (List.mem_of_getElem? (i := 37) rfl)) (hw _ (List.mem_of_getElem? (i := 34) rfl)) (hw _ (List.mem_of_getElem? (i := 38) rfl)) (by decide) e0 pd_2 rfl rfl (by decide) (Nat.le_of_ble_eq_true rfl) (by decide) (by decide) (by rw [hml]; rfl)  rfl (hb hby d6_13) ?_
  intro T1 L1 v1 X1 hQ1
  obtain ⟨rfl, N1q, K1, k1, A1⟩ := hQ1
  have N1 := Fr.app N0 N1q
  obtain ⟨b1, g1⟩ : ∃ z_, z_ = h0.size := ⟨_, rfl⟩
  rw [← g1] at A1 ⊢
  have g_b1 : n0 ≤ b1 := Nat.le_trans Z0 (Nat.le_of_eq g1.symm)
  have lt_b1 : b1 < T1.heap.size := A1.lt
  show Go p e below (T1.setTop (mkF m 16 #[.val (.ref a1), .val (.int (2 : Int32)), .val (.int (3 : Int32))] [(.ref b1)])) _
  refine Go.fin X1 (v := some (.ref b1)) (fun h_ => by rw [Bd.returns] at h_; cases h_) Bd.notSynchronized (fun _ hr => retOut X1 hx Bd.returns rfl (Or.inr (Or.inr (Or.inr (Or.inr ⟨rfl, rfl, rfl⟩)))) (hb hby d6_16) hr) (fun U' hU hF => ⟨_, _, rfl, ?_, hF.1, hF.2.1, hF.2.2.mono (by decide) (by decide)⟩)
  rw [hU]
  exact ⟨(congrArg (fun z_ : Addr => some (Value.ref z_)) (show b1 = h0.size from g1)), N1, ((Keep.refl h0 []).trans K1 all0), _, (g1 ▸ A1)⟩
theorem ef_rm6e_1 (m : MethodId) (a1 : Addr) : entryFrame m #[(.ref a1), (.int (0 : Int32)), (.int (3 : Int32))] 3 = mkF m 0 #[.val (.ref a1), .val (.int (0 : Int32)), .val (.int (3 : Int32))] [] := by first | (simp [entryFrame, mkF, argsToLocals, Value.category]; done) | rfl
def Q_rm6e_1 (Z : State) (a1 : Addr) (kb : ClassId) (f : Nat → Value) (h0 : Heap) (n0 : Nat) (v : Option Value) (h : Heap) (L : List Loc) : Prop := v = some (.ref h0.size) ∧ Fr n0 L ∧ Keep h0 h [] ∧ ∃ kr : ClassId, Arf Z h h0.size kr .byte (3 : Int32) f
set_option maxRecDepth 65536 in
set_option maxHeartbeats 40000000 in
theorem rm6e_1 (l : Launch) (Z : State) (a0 : Array Value) (hw : ∀ d ∈ tables_1, d.before a0 Z = true) (ws : List Jvm.Cond) (a1 : Addr) (kb : ClassId) (f : Nat → Value) (h0 : Heap) (n0 : Nat) (Z0 : n0 ≤ h0.size) (V_a : Arf Z h0 a1 kb .byte (3 : Int32) f) (E_a : Exa Z h0 a1 "[B") :
    MetFree l (⟨"java/util/Arrays", "copyOfRange", "([BII)[B"⟩ : MethodName) (head1 (Jvm.Cond.code (⟨"java/util/Arrays", "copyOfRange", "([BII)[B"⟩ : MethodName) jdk_65_method_132_code 3 (some (.array .byte)) :: ws) ({ frames := 1, cells := 1, slots := 3, locals := 14 } : Room)) (fun a U => a = #[(.ref a1), (.int (0 : Int32)), (.int (3 : Int32))] ∧ Z.Warmed39 U.vm ∧ U.heap = h0) (fun _ _ _ _ _ => True) (fun _ U o U' => ∃ v L, o = .returned v ∧ Q_rm6e_1 Z a1 kb f h0 n0 v U'.heap L ∧ FrameEnd U o U' L ({ frames := 1, cells := 1, slots := 3, locals := 14 } : Room).cells ({ frames := 1, cells := 1, slots := 3, locals := 14 } : Room).slots) := by
  refine MetFree.of_bodySF (plainFor_of_name pn_11) hisR ?_
  intro p e s m args below meth c s₁ Bd hml0 hP hK
  obtain ⟨rfl, hZ, hh⟩ := hP
  have hx := Bd.exec
  have hby := Bd.bytes
  have hml : c.maxLocals = 3 := hml0
  have hown : s.vm.findClass "java/util/Arrays" = some m.cls := findClass_of_methodNamed Bd.named
  have hnm := (name_of_methodNamed Bd.named Bd.method).1
  have X0 : Stand p l e ({ frames := 1, cells := 1, slots := 3, locals := 14 } : Room) s m #[(.ref a1), (.int (0 : Int32)), (.int (3 : Int32))] below meth c s₁ [] 0 0 := Stand.of_body Bd
  have e0 : s₁.heap = h0 := by rw [← hh, Bd.state]; rfl
  have N0 := Fr.nil n0
  show Go p e below (s₁.setTop (entryFrame m #[(.ref a1), (.int (0 : Int32)), (.int (3 : Int32))] 3)) (fun o U' => ∃ v L, o = .returned v ∧ Q_rm6e_1 Z a1 kb f h0 n0 v U'.heap L ∧ FrameEnd s o U' L ({ frames := 1, cells := 1, slots := 3, locals := 14 } : Room).cells ({ frames := 1, cells := 1, slots := 3, locals := 14 } : Room).slots)
  rw [ef_rm6e_1]
  refine Gk.iloadN X0 hx (hb hby d6_0) rfl ?_
  refine Gk.ifNo X0 hx (hb hby d6_1) (teq (by decide : (0 : Int32) = (0 : Int32))).2 ?_
  refine Gk.iloadN X0 hx (hb hby d6_4) rfl ?_
  refine Gk.aloadN X0 hx (hb hby d6_5) rfl rfl ?_
  refine Gk.alen X0 hx hZ e0 V_a (hb hby d6_6) ?_
  refine Gk.icmpYes X0 hx (hb hby d6_7) (teq (by decide : (3 : Int32) = (3 : Int32))).1 17 (by decide) (by decide) ?_
  refine Gk.aloadN X0 hx (hb hby d6_17) rfl rfl ?_
  refine Gk.clone X0 hx hZ hown (hw _ (List.mem_of_getElem? (i := 55) rfl)) (hw _ (List.mem_of_getElem? (i := 56) rfl)) (hw _ (List.mem_of_getElem? (i := 60) rfl)) (hw _ (List.mem_of_getElem? (i := 58) rfl)) (hw _ (List.mem_of_getElem? (i := 59) rfl)) (hw _ (List.mem_of_getElem? (i := 61) rfl)) e0 V_a E_a (by rw [hml]; rfl) (hb hby d6_18) (by decide) (cap := 3) (Nat.le_of_ble_eq_true rfl) (by decide) (by decide) (by decide) ?_
  intro T1 h1 b1 X1 e1 E1 g1 V_b1 B1
  have g_b1 : n0 ≤ b1 := Nat.le_trans Z0 (Nat.le_of_eq g1.symm)
  have lt_b1 := V_b1.lt
  refine Gk.castY X1 hx hZ hown (hw _ (List.mem_of_getElem? (i := 62) rfl)) e1 (Ins.self B1) (hb hby d6_21) ?_
  intro T2 X2 e2
  refine Go.fin X2 (v := some (.ref b1)) (fun h_ => by rw [Bd.returns] at h_; cases h_) Bd.notSynchronized (fun _ hr => retOut X2 hx Bd.returns rfl (Or.inr (Or.inr (Or.inr (Or.inr ⟨rfl, rfl, rfl⟩)))) (hb hby d6_24) hr) (fun U' hU hF => ⟨_, _, rfl, ?_, hF.1, hF.2.1, hF.2.2.mono (by decide) (by decide)⟩)
  rw [hU, e2]
  exact ⟨(congrArg (fun z_ : Addr => some (Value.ref z_)) (show b1 = h0.size from g1)), N0, ((Keep.refl h0 []).ext E1), _, (g1 ▸ V_b1)⟩
theorem ef_rm2_1 (m : MethodId) (a1 : Addr) (a2 : Addr) : entryFrame m #[(.ref a1), (.ref a2), (.int (0 : Int32)), (.int (3 : Int32))] 8 = mkF m 0 #[.val (.ref a1), .val (.ref a2), .val (.int (0 : Int32)), .val (.int (3 : Int32)), .unset, .unset, .unset, .unset] [] := by first | (simp [entryFrame, mkF, argsToLocals, Value.category]; done) | rfl
def Q_rm2_1 (Z : State) (a1 : Addr) (a2 : Addr) (kb : ClassId) (f : Nat → Value) (tb : Int32) (u_bytes_a1 : Value) (u_start_a1 : Value) (u_contentStart_a1 : Value) (u_end_a1 : Value) (h0 : Heap) (n0 : Nat) (v : Option Value) (h : Heap) (L : List Loc) : Prop := v = none ∧ Fr n0 L ∧ Keep h0 h [a1] ∧ Fld Z h a1 "com/example/mooring/mooring/Der" "bytes" "[B" (.ref a2) ∧ Fld Z h a1 "com/example/mooring/mooring/Der" "start" "I" (.int (0 : Int32)) ∧ Fld Z h a1 "com/example/mooring/mooring/Der" "contentStart" "I" (.int (2 : Int32)) ∧ Fld Z h a1 "com/example/mooring/mooring/Der" "end" "I" (.int (3 : Int32))
set_option maxRecDepth 65536 in
set_option maxHeartbeats 40000000 in
theorem rm2_1 (l : Launch) (Z : State) (a0 : Array Value) (hw : ∀ d ∈ tables_1, d.before a0 Z = true) (ws : List Jvm.Cond) (a1 : Addr) (a2 : Addr) (kb : ClassId) (f : Nat → Value) (tb : Int32) (u_bytes_a1 : Value) (u_start_a1 : Value) (u_contentStart_a1 : Value) (u_end_a1 : Value) (h0 : Heap) (n0 : Nat) (Z0 : n0 ≤ h0.size) (E_a1 : Exa Z h0 a1 "com/example/mooring/mooring/Der") (V_a : Arf Z h0 a2 kb .byte (3 : Int32) f) (hf0 : f 0 = (.int tb)) (hf1 : f 1 = (.int (1 : Int32))) (htb : ¬ ((tb &&& (31 : Int32)) = (31 : Int32))) (hne : a1 ≠ a2) (F_bytes_a1 : Fld Z h0 a1 "com/example/mooring/mooring/Der" "bytes" "[B" u_bytes_a1) (g_a1 : n0 ≤ a1) (F_start_a1 : Fld Z h0 a1 "com/example/mooring/mooring/Der" "start" "I" u_start_a1) (F_contentStart_a1 : Fld Z h0 a1 "com/example/mooring/mooring/Der" "contentStart" "I" u_contentStart_a1) (F_end_a1 : Fld Z h0 a1 "com/example/mooring/mooring/Der" "end" "I" u_end_a1) :
    MetFree l (⟨"com/example/mooring/mooring/Der", "<init>", "([BII)V"⟩ : MethodName) (head1 (Jvm.Cond.code (⟨"com/example/mooring/mooring/Der", "<init>", "([BII)V"⟩ : MethodName) prog_2_method_1_code 8 none :: ws) ({ frames := 1, cells := 0, slots := 0, locals := 12 } : Room)) (fun a U => a = #[(.ref a1), (.ref a2), (.int (0 : Int32)), (.int (3 : Int32))] ∧ Z.Warmed39 U.vm ∧ U.heap = h0) (fun _ _ _ _ _ => True) (fun _ U o U' => ∃ v L, o = .returned v ∧ Q_rm2_1 Z a1 a2 kb f tb u_bytes_a1 u_start_a1 u_contentStart_a1 u_end_a1 h0 n0 v U'.heap L ∧ FrameEnd U o U' L ({ frames := 1, cells := 0, slots := 0, locals := 12 } : Room).cells ({ frames := 1, cells := 0, slots := 0, locals := 12 } : Room).slots) := by
  refine MetFree.of_bodySF (plainFor_of_name pn_103) hisR ?_
  intro p e s m args below meth c s₁ Bd hml0 hP hK
  obtain ⟨rfl, hZ, hh⟩ := hP
  have hx := Bd.exec
  have hby := Bd.bytes
  have hml : c.maxLocals = 8 := hml0
  have hown : s.vm.findClass "com/example/mooring/mooring/Der" = some m.cls := findClass_of_methodNamed Bd.named
  have hnm := (name_of_methodNamed Bd.named Bd.method).1
  have X0 : Stand p l e ({ frames := 1, cells := 0, slots := 0, locals := 12 } : Room) s m #[(.ref a1), (.ref a2), (.int (0 : Int32)), (.int (3 : Int32))] below meth c s₁ [] 0 0 := Stand.of_body Bd
  have e0 : s₁.heap = h0 := by rw [← hh, Bd.state]; rfl
  have N0 := Fr.nil n0
  show Go p e below (s₁.setTop (entryFrame m #[(.ref a1), (.ref a2), (.int (0 : Int32)), (.int (3 : Int32))] 8)) (fun o U' => ∃ v L, o = .returned v ∧ Q_rm2_1 Z a1 a2 kb f tb u_bytes_a1 u_start_a1 u_contentStart_a1 u_end_a1 h0 n0 v U'.heap L ∧ FrameEnd s o U' L ({ frames := 1, cells := 0, slots := 0, locals := 12 } : Room).cells ({ frames := 1, cells := 0, slots := 0, locals := 12 } : Room).slots)
  rw [ef_rm2_1]
  refine Gk.aloadN X0 hx (hb hby d2_0) rfl rfl ?_
  refine Gk.initO X0 hx hZ hown (hw _ (List.mem_of_getElem? (i := 11) rfl)) (hw _ (List.mem_of_getElem? (i := 12) rfl)) (hw _ (List.mem_of_getElem? (i := 13) rfl)) e0 (by rw [hml]; rfl) (hb hby d2_1) (by decide) (Nat.le_of_ble_eq_true rfl) ?_
  intro T1 X1 e1
  refine Gk.iloadN X1 hx (hb hby d2_4) rfl ?_
  refine Gk.iloadN X1 hx (hb hby d2_5) rfl ?_
  refine Gk.isub X1 hx (hb hby d2_6) (3 : Int32) (by decide) ?_
  refine Gk.iconst X1 hx (hb hby d2_7) (2 : Int32) rfl ?_
  refine Gk.icmpYes X1 hx (hb hby d2_8) (flt (by decide : ¬ ((3 : Int32) < (2 : Int32)))).2.1 21 (by decide) (by decide) ?_
  refine Gk.aloadN X1 hx (hb hby d2_21) rfl rfl ?_
  refine Gk.iloadN X1 hx (hb hby d2_22) rfl ?_
  refine Gk.baloadB X1 hx hZ e1 V_a ⟨by decide, by decide⟩ (.int tb) hf0 (hb hby d2_23) ?_
  refine Gk.bipush X1 hx (hb hby d2_24) (31 : Int32) rfl ?_
  refine Gk.iand X1 hx (hb hby d2_26) _ rfl ?_
  refine Gk.bipush X1 hx (hb hby d2_27) (31 : Int32) rfl ?_
  have hc29 : ¬ ((tb &&& (31 : Int32)) = (31 : Int32)) := htb
  refine Gk.icmpYes X1 hx (hb hby d2_29) (feq hc29).2 42 (by decide) (by decide) ?_
  refine Gk.aloadN X1 hx (hb hby d2_42) rfl rfl ?_
  refine Gk.iloadN X1 hx (hb hby d2_43) rfl ?_
  refine Gk.iconst X1 hx (hb hby d2_44) (1 : Int32) rfl ?_
  refine Gk.iadd X1 hx (hb hby d2_45) (1 : Int32) (by decide) ?_
  refine Gk.baloadB X1 hx hZ e1 V_a ⟨by decide, by decide⟩ (.int (1 : Int32)) hf1 (hb hby d2_46) ?_
  refine Gk.sipush X1 hx (hb hby d2_47) (255 : Int32) rfl ?_
  refine Gk.iand X1 hx (hb hby d2_50) (1 : Int32) (by decide) ?_
  refine Gk.istore X1 hx (hb hby d2_51) #[.val (.ref a1), .val (.ref a2), .val (.int (0 : Int32)), .val (.int (3 : Int32)), .val (.int (1 : Int32)), .unset, .unset, .unset] rfl ?_
  refine Gk.iload X1 hx (hb hby d2_53) rfl ?_
  refine Gk.istore X1 hx (hb hby d2_55) #[.val (.ref a1), .val (.ref a2), .val (.int (0 : Int32)), .val (.int (3 : Int32)), .val (.int (1 : Int32)), .val (.int (1 : Int32)), .unset, .unset] rfl ?_
  refine Gk.iconst X1 hx (hb hby d2_57) (0 : Int32) rfl ?_
  refine Gk.istore X1 hx (hb hby d2_58) #[.val (.ref a1), .val (.ref a2), .val (.int (0 : Int32)), .val (.int (3 : Int32)), .val (.int (1 : Int32)), .val (.int (1 : Int32)), .val (.int (0 : Int32)), .unset] rfl ?_
  refine Gk.iload X1 hx (hb hby d2_60) rfl ?_
  refine Gk.sipush X1 hx (hb hby d2_62) (128 : Int32) rfl ?_
  refine Gk.icmpYes X1 hx (hb hby d2_65) (tlt (by decide : (1 : Int32) < (128 : Int32))).1 171 (by decide) (by decide) ?_
  refine Gk.aloadN X1 hx (hb hby d2_171) rfl rfl ?_
  refine Gk.aloadN X1 hx (hb hby d2_172) rfl rfl ?_
  refine Gk.putF X1 hx hZ hown (host := "") (Or.inl (hw _ (List.mem_of_getElem? (i := 14) rfl))) Via.refl e1 F_bytes_a1 E_a1 (Or.inr ⟨(hw _ (List.mem_of_getElem? (i := 15) rfl)), rfl, hnm⟩) (hw _ (List.mem_of_getElem? (i := 7) rfl)) (ty := (.array .byte)) (by decide) rfl rfl (hb hby d2_173) ?_
  intro T4 h4 X4 e4 W4
  have Fw4 := F_bytes_a1.same W4
  have N4 := Fr.snoc X4 N0 g_a1
  refine Gk.aloadN X4 hx (hb hby d2_176) rfl rfl ?_
  refine Gk.iloadN X4 hx (hb hby d2_177) rfl ?_
  have H5 := (E_a1.wr W4)
  have H6 := (F_start_a1.other W4 (Or.inr (slot_ne (Or.inr (hw _ (List.mem_of_getElem? (i := 17) rfl))) (Or.inr (hw _ (List.mem_of_getElem? (i := 15) rfl))) (by decide) (t := .int) (t' := (.array .byte)) (by decide) (by decide))))
  refine Gk.putF X4 hx hZ hown (host := "") (Or.inl (hw _ (List.mem_of_getElem? (i := 16) rfl))) Via.refl e4 H6 H5 (Or.inr ⟨(hw _ (List.mem_of_getElem? (i := 17) rfl)), rfl, hnm⟩) (hw _ (List.mem_of_getElem? (i := 7) rfl)) (ty := .int) (by decide) rfl rfl (hb hby d2_178) ?_
  intro T7 h7 X7 e7 W7
  have Fw7 := H6.same W7
  have N7 := Fr.snoc X7 N4 g_a1
  refine Gk.aloadN X7 hx (hb hby d2_181) rfl rfl ?_
  refine Gk.iloadN X7 hx (hb hby d2_182) rfl ?_
  refine Gk.iconst X7 hx (hb hby d2_183) (2 : Int32) rfl ?_
  refine Gk.iadd X7 hx (hb hby d2_184) (2 : Int32) (by decide) ?_
  refine Gk.iload X7 hx (hb hby d2_185) rfl ?_
  refine Gk.iadd X7 hx (hb hby d2_187) (2 : Int32) (by decide) ?_
  have H8 := (H5.wr W7)
  have H9 := ((F_contentStart_a1.other W4 (Or.inr (slot_ne (Or.inr (hw _ (List.mem_of_getElem? (i := 19) rfl))) (Or.inr (hw _ (List.mem_of_getElem? (i := 15) rfl))) (by decide) (t := .int) (t' := (.array .byte)) (by decide) (by decide)))).other W7 (Or.inr (slot_ne (Or.inr (hw _ (List.mem_of_getElem? (i := 19) rfl))) (Or.inr (hw _ (List.mem_of_getElem? (i := 17) rfl))) (by decide) (t := .int) (t' := .int) (by decide) (by decide))))
  refine Gk.putF X7 hx hZ hown (host := "") (Or.inl (hw _ (List.mem_of_getElem? (i := 18) rfl))) Via.refl e7 H9 H8 (Or.inr ⟨(hw _ (List.mem_of_getElem? (i := 19) rfl)), rfl, hnm⟩) (hw _ (List.mem_of_getElem? (i := 7) rfl)) (ty := .int) (by decide) rfl rfl (hb hby d2_188) ?_
  intro T10 h10 X10 e10 W10
  have Fw10 := H9.same W10
  have N10 := Fr.snoc X10 N7 g_a1
  refine Gk.aloadN X10 hx (hb hby d2_191) rfl rfl ?_
  refine Gk.aloadN X10 hx (hb hby d2_192) rfl rfl ?_
  refine Gk.getF X10 hx hZ hown (host := "") (Or.inl (hw _ (List.mem_of_getElem? (i := 18) rfl))) Via.refl e10 Fw10 (hb hby d2_193) ?_
  intro T11 X11 e11
  refine Gk.iload X11 hx (hb hby d2_196) rfl ?_
  refine Gk.iadd X11 hx (hb hby d2_198) (3 : Int32) (by decide) ?_
  have H12 := (H8.wr W10)
  have H13 := (((F_end_a1.other W4 (Or.inr (slot_ne (Or.inr (hw _ (List.mem_of_getElem? (i := 21) rfl))) (Or.inr (hw _ (List.mem_of_getElem? (i := 15) rfl))) (by decide) (t := .int) (t' := (.array .byte)) (by decide) (by decide)))).other W7 (Or.inr (slot_ne (Or.inr (hw _ (List.mem_of_getElem? (i := 21) rfl))) (Or.inr (hw _ (List.mem_of_getElem? (i := 17) rfl))) (by decide) (t := .int) (t' := .int) (by decide) (by decide)))).other W10 (Or.inr (slot_ne (Or.inr (hw _ (List.mem_of_getElem? (i := 21) rfl))) (Or.inr (hw _ (List.mem_of_getElem? (i := 19) rfl))) (by decide) (t := .int) (t' := .int) (by decide) (by decide))))
  refine Gk.putF X11 hx hZ hown (host := "") (Or.inl (hw _ (List.mem_of_getElem? (i := 20) rfl))) Via.refl e11 H13 H12 (Or.inr ⟨(hw _ (List.mem_of_getElem? (i := 21) rfl)), rfl, hnm⟩) (hw _ (List.mem_of_getElem? (i := 7) rfl)) (ty := .int) (by decide) rfl rfl (hb hby d2_199) ?_
  intro T14 h14 X14 e14 W14
  have Fw14 := H13.same W14
  have N14 := Fr.snoc X14 N10 g_a1
  refine Gk.aloadN X14 hx (hb hby d2_202) rfl rfl ?_
  refine Gk.getF X14 hx hZ hown (host := "") (Or.inl (hw _ (List.mem_of_getElem? (i := 20) rfl))) Via.refl e14 Fw14 (hb hby d2_203) ?_
  intro T15 X15 e15
  refine Gk.iloadN X15 hx (hb hby d2_206) rfl ?_
  refine Gk.icmpYes X15 hx (hb hby d2_207) (flt (by decide : ¬ ((3 : Int32) < (3 : Int32)))).2.2.2 220 (by decide) (by decide) ?_
  have H16 := (((Fw4.other W7 (Or.inr (slot_ne (Or.inr (hw _ (List.mem_of_getElem? (i := 15) rfl))) (Or.inr (hw _ (List.mem_of_getElem? (i := 17) rfl))) (by decide) (t := (.array .byte)) (t' := .int) (by decide) (by decide)))).other W10 (Or.inr (slot_ne (Or.inr (hw _ (List.mem_of_getElem? (i := 15) rfl))) (Or.inr (hw _ (List.mem_of_getElem? (i := 19) rfl))) (by decide) (t := (.array .byte)) (t' := .int) (by decide) (by decide)))).other W14 (Or.inr (slot_ne (Or.inr (hw _ (List.mem_of_getElem? (i := 15) rfl))) (Or.inr (hw _ (List.mem_of_getElem? (i := 21) rfl))) (by decide) (t := (.array .byte)) (t' := .int) (by decide) (by decide))))
  have H17 := ((Fw7.other W10 (Or.inr (slot_ne (Or.inr (hw _ (List.mem_of_getElem? (i := 17) rfl))) (Or.inr (hw _ (List.mem_of_getElem? (i := 19) rfl))) (by decide) (t := .int) (t' := .int) (by decide) (by decide)))).other W14 (Or.inr (slot_ne (Or.inr (hw _ (List.mem_of_getElem? (i := 17) rfl))) (Or.inr (hw _ (List.mem_of_getElem? (i := 21) rfl))) (by decide) (t := .int) (t' := .int) (by decide) (by decide))))
  have H18 := (Fw10.other W14 (Or.inr (slot_ne (Or.inr (hw _ (List.mem_of_getElem? (i := 19) rfl))) (Or.inr (hw _ (List.mem_of_getElem? (i := 21) rfl))) (by decide) (t := .int) (t' := .int) (by decide) (by decide))))
  refine Go.fin X15 (v := none) (fun _ => rfl) Bd.notSynchronized (fun _ hr => X15.returnOut hx Bd.returns (hb hby d2_220) hr) (fun U' hU hF => ⟨_, _, rfl, ?_, hF.1, hF.2.1, hF.2.2.mono (by decide) (by decide)⟩)
  rw [hU, e15]
  exact ⟨rfl, N14, (((((Keep.refl h0 [a1]).wr W4 (Or.inl (List.mem_of_getElem? (i := 0) rfl))).wr W7 (Or.inl (List.mem_of_getElem? (i := 0) rfl))).wr W10 (Or.inl (List.mem_of_getElem? (i := 0) rfl))).wr W14 (Or.inl (List.mem_of_getElem? (i := 0) rfl))), H16, H17, H18, Fw14⟩
theorem ef_rm1_1 (m : MethodId) (a1 : Addr) : entryFrame m #[(.ref a1)] 2 = mkF m 0 #[.val (.ref a1), .unset] [] := by first | (simp [entryFrame, mkF, argsToLocals, Value.category]; done) | rfl
def Q_rm1_1 (Z : State) (a1 : Addr) (kb : ClassId) (f : Nat → Value) (tb : Int32) (h0 : Heap) (n0 : Nat) (v : Option Value) (h : Heap) (L : List Loc) : Prop := v = some (.ref h0.size) ∧ Fr n0 L ∧ Keep h0 h [] ∧ Exa Z h h0.size "com/example/mooring/mooring/Der" ∧ Fld Z h h0.size "com/example/mooring/mooring/Der" "bytes" "[B" (.ref a1) ∧ Fld Z h h0.size "com/example/mooring/mooring/Der" "start" "I" (.int (0 : Int32)) ∧ Fld Z h h0.size "com/example/mooring/mooring/Der" "contentStart" "I" (.int (2 : Int32)) ∧ Fld Z h h0.size "com/example/mooring/mooring/Der" "end" "I" (.int (3 : Int32))
set_option maxRecDepth 65536 in
set_option maxHeartbeats 40000000 in
theorem rm1_1 (l : Launch) (Z : State) (a0 : Array Value) (hw : ∀ d ∈ tables_1, d.before a0 Z = true) (ws : List Jvm.Cond) (a1 : Addr) (kb : ClassId) (f : Nat → Value) (tb : Int32) (h0 : Heap) (n0 : Nat) (Z0 : n0 ≤ h0.size) (V_a : Arf Z h0 a1 kb .byte (3 : Int32) f) (hf0 : f 0 = (.int tb)) (hf1 : f 1 = (.int (1 : Int32))) (htb : ¬ ((tb &&& (31 : Int32)) = (31 : Int32))) :
    MetFree l (⟨"com/example/mooring/mooring/Der", "parse", "([B)Lcom/example/mooring/mooring/Der;"⟩ : MethodName) (head1 (Jvm.Cond.code (⟨"com/example/mooring/mooring/Der", "parse", "([B)Lcom/example/mooring/mooring/Der;"⟩ : MethodName) prog_2_method_2_code 2 (some (.object "com/example/mooring/mooring/Der")) :: ws) ({ frames := 2, cells := 1, slots := 4, locals := 32 } : Room)) (fun a U => a = #[(.ref a1)] ∧ Z.Warmed39 U.vm ∧ U.heap = h0) (fun _ _ _ _ _ => True) (fun _ U o U' => ∃ v L, o = .returned v ∧ Q_rm1_1 Z a1 kb f tb h0 n0 v U'.heap L ∧ FrameEnd U o U' L ({ frames := 2, cells := 1, slots := 4, locals := 32 } : Room).cells ({ frames := 2, cells := 1, slots := 4, locals := 32 } : Room).slots) := by
  refine MetFree.of_bodySF (plainFor_of_name pn_103) hisR ?_
  intro p e s m args below meth c s₁ Bd hml0 hP hK
  obtain ⟨rfl, hZ, hh⟩ := hP
  have hx := Bd.exec
  have hby := Bd.bytes
  have hml : c.maxLocals = 2 := hml0
  have hown : s.vm.findClass "com/example/mooring/mooring/Der" = some m.cls := findClass_of_methodNamed Bd.named
  have hnm := (name_of_methodNamed Bd.named Bd.method).1
  have X0 : Stand p l e ({ frames := 2, cells := 1, slots := 4, locals := 32 } : Room) s m #[(.ref a1)] below meth c s₁ [] 0 0 := Stand.of_body Bd
  have e0 : s₁.heap = h0 := by rw [← hh, Bd.state]; rfl
  have N0 := Fr.nil n0
  show Go p e below (s₁.setTop (entryFrame m #[(.ref a1)] 2)) (fun o U' => ∃ v L, o = .returned v ∧ Q_rm1_1 Z a1 kb f tb h0 n0 v U'.heap L ∧ FrameEnd s o U' L ({ frames := 2, cells := 1, slots := 4, locals := 32 } : Room).cells ({ frames := 2, cells := 1, slots := 4, locals := 32 } : Room).slots)
  rw [ef_rm1_1]
  refine Gk.newO X0 hx hZ hown (hw _ (List.mem_of_getElem? (i := 6) rfl)) (hw _ (List.mem_of_getElem? (i := 7) rfl)) (hw _ (List.mem_of_getElem? (i := 4) rfl)) e0 (hb hby d1_0) (by decide) (by decide) ?_
  intro T1 h1 b1 X1 e1 E1 g1 A1 D1
  have g_b1 : n0 ≤ b1 := Nat.le_trans Z0 (Nat.le_of_eq g1.symm)
  have lt_b1 := A1.lt
  have F_bytes_b1 : Fld Z h1 b1 "com/example/mooring/mooring/Der" "bytes" "[B" .null := D1 (Or.inr (hw _ (List.mem_of_getElem? (i := 15) rfl))) (ty := (.array .byte)) (by decide)
  have F_start_b1 : Fld Z h1 b1 "com/example/mooring/mooring/Der" "start" "I" (.int (0 : Int32)) := D1 (Or.inr (hw _ (List.mem_of_getElem? (i := 17) rfl))) (ty := .int) (by decide)
  have F_contentStart_b1 : Fld Z h1 b1 "com/example/mooring/mooring/Der" "contentStart" "I" (.int (0 : Int32)) := D1 (Or.inr (hw _ (List.mem_of_getElem? (i := 19) rfl))) (ty := .int) (by decide)
  have F_end_b1 : Fld Z h1 b1 "com/example/mooring/mooring/Der" "end" "I" (.int (0 : Int32)) := D1 (Or.inr (hw _ (List.mem_of_getElem? (i := 21) rfl))) (ty := .int) (by decide)
  refine Gk.dup X1 hx (hb hby d1_3) rfl ?_
  refine Gk.aloadN X1 hx (hb hby d1_4) rfl rfl ?_
  refine Gk.iconst X1 hx (hb hby d1_5) (0 : Int32) rfl ?_
  refine Gk.aloadN X1 hx (hb hby d1_6) rfl rfl ?_
  have H2 := (V_a.ext E1)
  refine Gk.alen X1 hx hZ e1 H2 (hb hby d1_7) ?_
  have ne4 : b1 ≠ a1 := (Nat.ne_of_gt (Nat.lt_of_lt_of_le V_a.lt (Nat.le_trans (Nat.le_refl _) (Nat.le_of_eq g1.symm))))
  refine Gk.callI (argsL := [(.ref a1), (.int (0 : Int32)), (.int (3 : Int32))]) X1 hx hZ hown (rm2_1 l Z a0 hw [] b1 a1 kb f tb .null (.int (0 : Int32)) (.int (0 : Int32)) (.int (0 : Int32)) h1 n0 (Nat.le_trans Z0 E1.1) A1 H2 hf0 hf1 htb ne4 F_bytes_b1 g_b1 F_start_b1 F_contentStart_b1 F_end_b1) rfl (hw _ (List.mem_of_getElem? (i := 8) rfl)) (hw _ (List.mem_of_getElem? (i := 9) rfl)) (hw _ (List.mem_of_getElem? (i := 10) rfl)) rfl (by decide) (hw _ (List.mem_of_getElem? (i := 4) rfl)) e1 pd_3 rfl rfl (by decide) (Nat.le_of_ble_eq_true rfl) (by decide) (by decide) (by rw [hml]; rfl)  rfl (hb hby d1_8) ?_
  intro T3 L3 v3 X3 hQ3
  obtain ⟨rfl, N3q, K3, Fi3_bytes, Fi3_start, Fi3_contentStart, Fi3_end⟩ := hQ3
  have N3 := Fr.app N0 N3q
  show Go p e below (T3.setTop (mkF m 11 #[.val (.ref a1), .unset] [(.ref b1)])) _
  refine Gk.astoreN X3 hx (hb hby d1_11) rfl #[.val (.ref a1), .val (.ref b1)] rfl ?_
  refine Gk.aloadN X3 hx (hb hby d1_12) rfl rfl ?_
  refine Gk.getF X3 hx hZ hown (host := "") (Or.inl (hw _ (List.mem_of_getElem? (i := 20) rfl))) Via.refl rfl Fi3_end (hb hby d1_13) ?_
  intro T5 X5 e5
  refine Gk.aloadN X5 hx (hb hby d1_16) rfl rfl ?_
  have H6 := (H2.keep K3 (ninS (Ne.symm ne4) nin0))
  refine Gk.alen X5 hx hZ e5 H6 (hb hby d1_17) ?_
  refine Gk.icmpYes X5 hx (hb hby d1_18) (teq (by decide : (3 : Int32) = (3 : Int32))).1 31 (by decide) (by decide) ?_
  refine Gk.aloadN X5 hx (hb hby d1_31) rfl rfl ?_
  have H7 := (A1.keep K3)
  refine Go.fin X5 (v := some (.ref b1)) (fun h_ => by rw [Bd.returns] at h_; cases h_) Bd.notSynchronized (fun _ hr => retOut X5 hx Bd.returns rfl (Or.inr (Or.inr (Or.inr (Or.inr ⟨rfl, rfl, rfl⟩)))) (hb hby d1_32) hr) (fun U' hU hF => ⟨_, _, rfl, ?_, hF.1, hF.2.1, hF.2.2.mono (by decide) (by decide)⟩)
  rw [hU, e5]
  exact ⟨(congrArg (fun z_ : Addr => some (Value.ref z_)) (show b1 = h0.size from g1)), N3, (((Keep.refl h0 []).ext E1).trans K3 (allS (Or.inr (Nat.le_trans (Nat.le_refl _) (Nat.le_of_eq g1.symm))) all0)), (g1 ▸ H7), (g1 ▸ Fi3_bytes), (g1 ▸ Fi3_start), (g1 ▸ Fi3_contentStart), (g1 ▸ Fi3_end)⟩
theorem ef_rm4_1 (m : MethodId) (a1 : Addr) : entryFrame m #[(.ref a1)] 1 = mkF m 0 #[.val (.ref a1)] [] := by first | (simp [entryFrame, mkF, argsToLocals, Value.category]; done) | rfl
def Q_rm4_1 (Z : State) (a1 : Addr) (ar : Addr) (kb : ClassId) (f : Nat → Value) (tb : Int32) (h0 : Heap) (n0 : Nat) (v : Option Value) (h : Heap) (L : List Loc) : Prop := v = some (.int (tb &&& (255 : Int32))) ∧ Fr n0 L ∧ h = h0
set_option maxRecDepth 65536 in
set_option maxHeartbeats 40000000 in
theorem rm4_1 (l : Launch) (Z : State) (a0 : Array Value) (hw : ∀ d ∈ tables_1, d.before a0 Z = true) (ws : List Jvm.Cond) (a1 : Addr) (ar : Addr) (kb : ClassId) (f : Nat → Value) (tb : Int32) (h0 : Heap) (n0 : Nat) (Z0 : n0 ≤ h0.size) (V_a : Arf Z h0 ar kb .byte (3 : Int32) f) (F_bytes : Fld Z h0 a1 "com/example/mooring/mooring/Der" "bytes" "[B" (.ref ar)) (F_start : Fld Z h0 a1 "com/example/mooring/mooring/Der" "start" "I" (.int (0 : Int32))) (F_contentStart : Fld Z h0 a1 "com/example/mooring/mooring/Der" "contentStart" "I" (.int (2 : Int32))) (F_end : Fld Z h0 a1 "com/example/mooring/mooring/Der" "end" "I" (.int (3 : Int32))) (hf0 : f 0 = (.int tb)) :
    MetFree l (⟨"com/example/mooring/mooring/Der", "tag", "()I"⟩ : MethodName) (head1 (Jvm.Cond.code (⟨"com/example/mooring/mooring/Der", "tag", "()I"⟩ : MethodName) prog_2_method_3_code 1 (some .int) :: ws) ({ frames := 0, cells := 0, slots := 0, locals := 0 } : Room)) (fun a U => a = #[(.ref a1)] ∧ Z.Warmed39 U.vm ∧ U.heap = h0) (fun _ _ _ _ _ => True) (fun _ U o U' => ∃ v L, o = .returned v ∧ Q_rm4_1 Z a1 ar kb f tb h0 n0 v U'.heap L ∧ FrameEnd U o U' L ({ frames := 0, cells := 0, slots := 0, locals := 0 } : Room).cells ({ frames := 0, cells := 0, slots := 0, locals := 0 } : Room).slots) := by
  refine MetFree.of_bodySF (plainFor_of_name pn_103) hisR ?_
  intro p e s m args below meth c s₁ Bd hml0 hP hK
  obtain ⟨rfl, hZ, hh⟩ := hP
  have hx := Bd.exec
  have hby := Bd.bytes
  have hml : c.maxLocals = 1 := hml0
  have hown : s.vm.findClass "com/example/mooring/mooring/Der" = some m.cls := findClass_of_methodNamed Bd.named
  have hnm := (name_of_methodNamed Bd.named Bd.method).1
  have X0 : Stand p l e ({ frames := 0, cells := 0, slots := 0, locals := 0 } : Room) s m #[(.ref a1)] below meth c s₁ [] 0 0 := Stand.of_body Bd
  have e0 : s₁.heap = h0 := by rw [← hh, Bd.state]; rfl
  have N0 := Fr.nil n0
  show Go p e below (s₁.setTop (entryFrame m #[(.ref a1)] 1)) (fun o U' => ∃ v L, o = .returned v ∧ Q_rm4_1 Z a1 ar kb f tb h0 n0 v U'.heap L ∧ FrameEnd s o U' L ({ frames := 0, cells := 0, slots := 0, locals := 0 } : Room).cells ({ frames := 0, cells := 0, slots := 0, locals := 0 } : Room).slots)
  rw [ef_rm4_1]
  refine Gk.aloadN X0 hx (hb hby d4_0) rfl rfl ?_
  refine Gk.getF X0 hx hZ hown (host := "") (Or.inl (hw _ (List.mem_of_getElem? (i := 14) rfl))) Via.refl e0 F_bytes (hb hby d4_1) ?_
  intro T1 X1 e1
  refine Gk.aloadN X1 hx (hb hby d4_4) rfl rfl ?_
  refine Gk.getF X1 hx hZ hown (host := "") (Or.inl (hw _ (List.mem_of_getElem? (i := 16) rfl))) Via.refl e1 F_start (hb hby d4_5) ?_
  intro T2 X2 e2
  refine Gk.baloadB X2 hx hZ e2 V_a ⟨by decide, by decide⟩ (.int tb) hf0 (hb hby d4_8) ?_
  refine Gk.sipush X2 hx (hb hby d4_9) (255 : Int32) rfl ?_
  refine Gk.iand X2 hx (hb hby d4_12) _ rfl ?_
  refine Go.fin X2 (v := some (.int (tb &&& (255 : Int32)))) (fun h_ => by rw [Bd.returns] at h_; cases h_) Bd.notSynchronized (fun _ hr => retOut X2 hx Bd.returns rfl (Or.inl ⟨rfl, Or.inl rfl, _, rfl⟩) (hb hby d4_13) hr) (fun U' hU hF => ⟨_, _, rfl, ?_, hF.1, hF.2.1, hF.2.2.mono (by decide) (by decide)⟩)
  rw [hU, e2]
  exact ⟨(congrArg (fun z_ : Int32 => some (Value.int z_)) (show (tb &&& (255 : Int32)) = (tb &&& (255 : Int32)) from rfl)), N0, rfl⟩
theorem ef_rm5_1 (m : MethodId) (a1 : Addr) : entryFrame m #[(.ref a1)] 1 = mkF m 0 #[.val (.ref a1)] [] := by first | (simp [entryFrame, mkF, argsToLocals, Value.category]; done) | rfl
def Q_rm5_1 (Z : State) (a1 : Addr) (ar : Addr) (kb : ClassId) (f : Nat → Value) (h0 : Heap) (n0 : Nat) (v : Option Value) (h : Heap) (L : List Loc) : Prop := v = some (.ref h0.size) ∧ Fr n0 L ∧ Keep h0 h [] ∧ ∃ kr : ClassId, Arf Z h h0.size kr .byte (1 : Int32) (fun i => if 0 ≤ i ∧ i < 0 + 1 then f (2 + (i - 0)) else (.int (0 : Int32)))
set_option maxRecDepth 65536 in
set_option maxHeartbeats 40000000 in
theorem rm5_1 (l : Launch) (Z : State) (a0 : Array Value) (hw : ∀ d ∈ tables_1, d.before a0 Z = true) (ws : List Jvm.Cond) (a1 : Addr) (ar : Addr) (kb : ClassId) (f : Nat → Value) (h0 : Heap) (n0 : Nat) (Z0 : n0 ≤ h0.size) (V_a : Arf Z h0 ar kb .byte (3 : Int32) f) (F_bytes : Fld Z h0 a1 "com/example/mooring/mooring/Der" "bytes" "[B" (.ref ar)) (F_start : Fld Z h0 a1 "com/example/mooring/mooring/Der" "start" "I" (.int (0 : Int32))) (F_contentStart : Fld Z h0 a1 "com/example/mooring/mooring/Der" "contentStart" "I" (.int (2 : Int32))) (F_end : Fld Z h0 a1 "com/example/mooring/mooring/Der" "end" "I" (.int (3 : Int32))) :
    MetFree l (⟨"com/example/mooring/mooring/Der", "content", "()[B"⟩ : MethodName) (head1 (Jvm.Cond.code (⟨"com/example/mooring/mooring/Der", "content", "()[B"⟩ : MethodName) prog_2_method_4_code 1 (some (.array .byte)) :: ws) ({ frames := 3, cells := 1, slots := 1, locals := 70 } : Room)) (fun a U => a = #[(.ref a1)] ∧ Z.Warmed39 U.vm ∧ U.heap = h0) (fun _ _ _ _ _ => True) (fun _ U o U' => ∃ v L, o = .returned v ∧ Q_rm5_1 Z a1 ar kb f h0 n0 v U'.heap L ∧ FrameEnd U o U' L ({ frames := 3, cells := 1, slots := 1, locals := 70 } : Room).cells ({ frames := 3, cells := 1, slots := 1, locals := 70 } : Room).slots) := by
  refine MetFree.of_bodySF (plainFor_of_name pn_103) hisR ?_
  intro p e s m args below meth c s₁ Bd hml0 hP hK
  obtain ⟨rfl, hZ, hh⟩ := hP
  have hx := Bd.exec
  have hby := Bd.bytes
  have hml : c.maxLocals = 1 := hml0
  have hown : s.vm.findClass "com/example/mooring/mooring/Der" = some m.cls := findClass_of_methodNamed Bd.named
  have hnm := (name_of_methodNamed Bd.named Bd.method).1
  have X0 : Stand p l e ({ frames := 3, cells := 1, slots := 1, locals := 70 } : Room) s m #[(.ref a1)] below meth c s₁ [] 0 0 := Stand.of_body Bd
  have e0 : s₁.heap = h0 := by rw [← hh, Bd.state]; rfl
  have N0 := Fr.nil n0
  show Go p e below (s₁.setTop (entryFrame m #[(.ref a1)] 1)) (fun o U' => ∃ v L, o = .returned v ∧ Q_rm5_1 Z a1 ar kb f h0 n0 v U'.heap L ∧ FrameEnd s o U' L ({ frames := 3, cells := 1, slots := 1, locals := 70 } : Room).cells ({ frames := 3, cells := 1, slots := 1, locals := 70 } : Room).slots)
  rw [ef_rm5_1]
  refine Gk.aloadN X0 hx (hb hby d5_0) rfl rfl ?_
  refine Gk.getF X0 hx hZ hown (host := "") (Or.inl (hw _ (List.mem_of_getElem? (i := 14) rfl))) Via.refl e0 F_bytes (hb hby d5_1) ?_
  intro T1 X1 e1
  refine Gk.aloadN X1 hx (hb hby d5_4) rfl rfl ?_
  refine Gk.getF X1 hx hZ hown (host := "") (Or.inl (hw _ (List.mem_of_getElem? (i := 18) rfl))) Via.refl e1 F_contentStart (hb hby d5_5) ?_
  intro T2 X2 e2
  refine Gk.aloadN X2 hx (hb hby d5_8) rfl rfl ?_
  refine Gk.getF X2 hx hZ hown (host := "") (Or.inl (hw _ (List.mem_of_getElem? (i := 20) rfl))) Via.refl e2 F_end (hb hby d5_9) ?_
  intro T3 X3 e3
  refine Gk.callS (argsL := [(.ref ar), (.int (2 : Int32)), (.int (3 : Int32))]) X3 hx hZ hown (rm6c_1 l Z a0 hw [] ar kb f h0 n0 Z0 V_a) (hw _ (List.mem_of_getElem? (i := 32) rfl)) (hw _ (List.mem_of_getElem? (i := 33) rfl)) (hw _ (List.mem_of_getElem? (i := 34) rfl)) (hw _ (List.mem_of_getElem? (i := 35) rfl)) (by decide) e3 pd_2 rfl rfl (by decide) (Nat.le_of_ble_eq_true rfl) (by decide) (by decide) (by rw [hml]; rfl)  rfl (hb hby d5_12) ?_
  intro T4 L4 v4 X4 hQ4
  obtain ⟨rfl, N4q, K4, k4, A4⟩ := hQ4
  have N4 := Fr.app N0 N4q
  obtain ⟨b4, g4⟩ : ∃ z_, z_ = h0.size := ⟨_, rfl⟩
  rw [← g4] at A4 ⊢
  have g_b4 : n0 ≤ b4 := Nat.le_trans Z0 (Nat.le_of_eq g4.symm)
  have lt_b4 : b4 < T4.heap.size := A4.lt
  show Go p e below (T4.setTop (mkF m 15 #[.val (.ref a1)] [(.ref b4)])) _
  refine Go.fin X4 (v := some (.ref b4)) (fun h_ => by rw [Bd.returns] at h_; cases h_) Bd.notSynchronized (fun _ hr => retOut X4 hx Bd.returns rfl (Or.inr (Or.inr (Or.inr (Or.inr ⟨rfl, rfl, rfl⟩)))) (hb hby d5_15) hr) (fun U' hU hF => ⟨_, _, rfl, ?_, hF.1, hF.2.1, hF.2.2.mono (by decide) (by decide)⟩)
  rw [hU]
  exact ⟨(congrArg (fun z_ : Addr => some (Value.ref z_)) (show b4 = h0.size from g4)), N4, ((Keep.refl h0 []).trans K4 all0), _, (g4 ▸ A4)⟩
theorem ef_rm10_1 (m : MethodId) (a1 : Addr) : entryFrame m #[(.ref a1)] 1 = mkF m 0 #[.val (.ref a1)] [] := by first | (simp [entryFrame, mkF, argsToLocals, Value.category]; done) | rfl
def Q_rm10_1 (Z : State) (a1 : Addr) (ar : Addr) (kb : ClassId) (f : Nat → Value) (h0 : Heap) (n0 : Nat) (v : Option Value) (h : Heap) (L : List Loc) : Prop := v = some (.ref h0.size) ∧ Fr n0 L ∧ Keep h0 h [] ∧ ∃ kr : ClassId, Arf Z h h0.size kr .byte (3 : Int32) f
set_option maxRecDepth 65536 in
set_option maxHeartbeats 40000000 in
theorem rm10_1 (l : Launch) (Z : State) (a0 : Array Value) (hw : ∀ d ∈ tables_1, d.before a0 Z = true) (ws : List Jvm.Cond) (a1 : Addr) (ar : Addr) (kb : ClassId) (f : Nat → Value) (h0 : Heap) (n0 : Nat) (Z0 : n0 ≤ h0.size) (V_a : Arf Z h0 ar kb .byte (3 : Int32) f) (F_bytes : Fld Z h0 a1 "com/example/mooring/mooring/Der" "bytes" "[B" (.ref ar)) (F_start : Fld Z h0 a1 "com/example/mooring/mooring/Der" "start" "I" (.int (0 : Int32))) (F_contentStart : Fld Z h0 a1 "com/example/mooring/mooring/Der" "contentStart" "I" (.int (2 : Int32))) (F_end : Fld Z h0 a1 "com/example/mooring/mooring/Der" "end" "I" (.int (3 : Int32))) (E_a : Exa Z h0 ar "[B") :
    MetFree l (⟨"com/example/mooring/mooring/Der", "encoded", "()[B"⟩ : MethodName) (head1 (Jvm.Cond.code (⟨"com/example/mooring/mooring/Der", "encoded", "()[B"⟩ : MethodName) prog_2_method_5_code 1 (some (.array .byte)) :: ws) ({ frames := 2, cells := 1, slots := 3, locals := 28 } : Room)) (fun a U => a = #[(.ref a1)] ∧ Z.Warmed39 U.vm ∧ U.heap = h0) (fun _ _ _ _ _ => True) (fun _ U o U' => ∃ v L, o = .returned v ∧ Q_rm10_1 Z a1 ar kb f h0 n0 v U'.heap L ∧ FrameEnd U o U' L ({ frames := 2, cells := 1, slots := 3, locals := 28 } : Room).cells ({ frames := 2, cells := 1, slots := 3, locals := 28 } : Room).slots) := by
  refine MetFree.of_bodySF (plainFor_of_name pn_103) hisR ?_
  intro p e s m args below meth c s₁ Bd hml0 hP hK
  obtain ⟨rfl, hZ, hh⟩ := hP
  have hx := Bd.exec
  have hby := Bd.bytes
  have hml : c.maxLocals = 1 := hml0
  have hown : s.vm.findClass "com/example/mooring/mooring/Der" = some m.cls := findClass_of_methodNamed Bd.named
  have hnm := (name_of_methodNamed Bd.named Bd.method).1
  have X0 : Stand p l e ({ frames := 2, cells := 1, slots := 3, locals := 28 } : Room) s m #[(.ref a1)] below meth c s₁ [] 0 0 := Stand.of_body Bd
  have e0 : s₁.heap = h0 := by rw [← hh, Bd.state]; rfl
  have N0 := Fr.nil n0
  show Go p e below (s₁.setTop (entryFrame m #[(.ref a1)] 1)) (fun o U' => ∃ v L, o = .returned v ∧ Q_rm10_1 Z a1 ar kb f h0 n0 v U'.heap L ∧ FrameEnd s o U' L ({ frames := 2, cells := 1, slots := 3, locals := 28 } : Room).cells ({ frames := 2, cells := 1, slots := 3, locals := 28 } : Room).slots)
  rw [ef_rm10_1]
  refine Gk.aloadN X0 hx (hb hby d10_0) rfl rfl ?_
  refine Gk.getF X0 hx hZ hown (host := "") (Or.inl (hw _ (List.mem_of_getElem? (i := 14) rfl))) Via.refl e0 F_bytes (hb hby d10_1) ?_
  intro T1 X1 e1
  refine Gk.aloadN X1 hx (hb hby d10_4) rfl rfl ?_
  refine Gk.getF X1 hx hZ hown (host := "") (Or.inl (hw _ (List.mem_of_getElem? (i := 16) rfl))) Via.refl e1 F_start (hb hby d10_5) ?_
  intro T2 X2 e2
  refine Gk.aloadN X2 hx (hb hby d10_8) rfl rfl ?_
  refine Gk.getF X2 hx hZ hown (host := "") (Or.inl (hw _ (List.mem_of_getElem? (i := 20) rfl))) Via.refl e2 F_end (hb hby d10_9) ?_
  intro T3 X3 e3
  refine Gk.callS (argsL := [(.ref ar), (.int (0 : Int32)), (.int (3 : Int32))]) X3 hx hZ hown (rm6e_1 l Z a0 hw [] ar kb f h0 n0 Z0 V_a E_a) (hw _ (List.mem_of_getElem? (i := 32) rfl)) (hw _ (List.mem_of_getElem? (i := 33) rfl)) (hw _ (List.mem_of_getElem? (i := 34) rfl)) (hw _ (List.mem_of_getElem? (i := 35) rfl)) (by decide) e3 pd_2 rfl rfl (by decide) (Nat.le_of_ble_eq_true rfl) (by decide) (by decide) (by rw [hml]; rfl)  rfl (hb hby d10_12) ?_
  intro T4 L4 v4 X4 hQ4
  obtain ⟨rfl, N4q, K4, k4, A4⟩ := hQ4
  have N4 := Fr.app N0 N4q
  obtain ⟨b4, g4⟩ : ∃ z_, z_ = h0.size := ⟨_, rfl⟩
  rw [← g4] at A4 ⊢
  have g_b4 : n0 ≤ b4 := Nat.le_trans Z0 (Nat.le_of_eq g4.symm)
  have lt_b4 : b4 < T4.heap.size := A4.lt
  show Go p e below (T4.setTop (mkF m 15 #[.val (.ref a1)] [(.ref b4)])) _
  refine Go.fin X4 (v := some (.ref b4)) (fun h_ => by rw [Bd.returns] at h_; cases h_) Bd.notSynchronized (fun _ hr => retOut X4 hx Bd.returns rfl (Or.inr (Or.inr (Or.inr (Or.inr ⟨rfl, rfl, rfl⟩)))) (hb hby d10_15) hr) (fun U' hU hF => ⟨_, _, rfl, ?_, hF.1, hF.2.1, hF.2.2.mono (by decide) (by decide)⟩)
  rw [hU]
  exact ⟨(congrArg (fun z_ : Addr => some (Value.ref z_)) (show b4 = h0.size from g4)), N4, ((Keep.refl h0 []).trans K4 all0), _, (g4 ▸ A4)⟩
theorem ef_rm7_2 (m : MethodId) (a1 : Addr) : entryFrame m #[(.ref a1), (.int (2 : Int32)), (.int (129 : Int32))] 5 = mkF m 0 #[.val (.ref a1), .val (.int (2 : Int32)), .val (.int (129 : Int32)), .unset, .unset] [] := by first | (simp [entryFrame, mkF, argsToLocals, Value.category]; done) | rfl
def Q_rm7_2 (Z : State) (a1 : Addr) (kb : ClassId) (f : Nat → Value) (h0 : Heap) (n0 : Nat) (v : Option Value) (h : Heap) (L : List Loc) : Prop := v = some (.ref h0.size) ∧ Fr n0 L ∧ Keep h0 h [] ∧ ∃ kr : ClassId, Arf Z h h0.size kr .byte (127 : Int32) (fun i => if 0 ≤ i ∧ i < 0 + 127 then f (2 + (i - 0)) else (.int (0 : Int32)))
set_option maxRecDepth 65536 in
set_option maxHeartbeats 40000000 in
theorem rm7_2 (l : Launch) (Z : State) (a0 : Array Value) (hw : ∀ d ∈ tables_1, d.before a0 Z = true) (ws : List Jvm.Cond) (a1 : Addr) (kb : ClassId) (f : Nat → Value) (h0 : Heap) (n0 : Nat) (Z0 : n0 ≤ h0.size) (V_a : Arf Z h0 a1 kb .byte (129 : Int32) f) :
    MetFree l (⟨"java/util/Arrays", "copyOfRangeByte", "([BII)[B"⟩ : MethodName) (head1 (Jvm.Cond.code (⟨"java/util/Arrays", "copyOfRangeByte", "([BII)[B"⟩ : MethodName) jdk_65_method_133_code 5 (some (.array .byte)) :: ws) ({ frames := 1, cells := 1, slots := 127, locals := 40 } : Room)) (fun a U => a = #[(.ref a1), (.int (2 : Int32)), (.int (129 : Int32))] ∧ Z.Warmed39 U.vm ∧ U.heap = h0) (fun _ _ _ _ _ => True) (fun _ U o U' => ∃ v L, o = .returned v ∧ Q_rm7_2 Z a1 kb f h0 n0 v U'.heap L ∧ FrameEnd U o U' L ({ frames := 1, cells := 1, slots := 127, locals := 40 } : Room).cells ({ frames := 1, cells := 1, slots := 127, locals := 40 } : Room).slots) := by
  refine MetFree.of_bodySF (plainFor_of_name pn_11) hisR ?_
  intro p e s m args below meth c s₁ Bd hml0 hP hK
  obtain ⟨rfl, hZ, hh⟩ := hP
  have hx := Bd.exec
  have hby := Bd.bytes
  have hml : c.maxLocals = 5 := hml0
  have hown : s.vm.findClass "java/util/Arrays" = some m.cls := findClass_of_methodNamed Bd.named
  have hnm := (name_of_methodNamed Bd.named Bd.method).1
  have X0 : Stand p l e ({ frames := 1, cells := 1, slots := 127, locals := 40 } : Room) s m #[(.ref a1), (.int (2 : Int32)), (.int (129 : Int32))] below meth c s₁ [] 0 0 := Stand.of_body Bd
  have e0 : s₁.heap = h0 := by rw [← hh, Bd.state]; rfl
  have N0 := Fr.nil n0
  show Go p e below (s₁.setTop (entryFrame m #[(.ref a1), (.int (2 : Int32)), (.int (129 : Int32))] 5)) (fun o U' => ∃ v L, o = .returned v ∧ Q_rm7_2 Z a1 kb f h0 n0 v U'.heap L ∧ FrameEnd s o U' L ({ frames := 1, cells := 1, slots := 127, locals := 40 } : Room).cells ({ frames := 1, cells := 1, slots := 127, locals := 40 } : Room).slots)
  rw [ef_rm7_2]
  refine Gk.iloadN X0 hx (hb hby d7_0) rfl ?_
  refine Gk.iloadN X0 hx (hb hby d7_1) rfl ?_
  refine Gk.callS (argsL := [(.int (2 : Int32)), (.int (129 : Int32))]) X0 hx hZ hown (rm8 l Z a0 hw [] (2 : Int32) (129 : Int32) h0 n0 Z0 (by decide)) (hw _ (List.mem_of_getElem? (i := 39) rfl)) (hw _ (List.mem_of_getElem? (i := 40) rfl)) (hw _ (List.mem_of_getElem? (i := 34) rfl)) (hw _ (List.mem_of_getElem? (i := 41) rfl)) (by decide) e0 pd_0 rfl rfl (by decide) (Nat.le_of_ble_eq_true rfl) (by decide) (by decide) (by rw [hml]; rfl)  rfl (hb hby d7_2) ?_
  intro T1 L1 v1 X1 hQ1
  obtain ⟨rfl, N1q, e1⟩ := hQ1
  have N1 := Fr.app N0 N1q
  show Go p e below (T1.setTop (mkF m 5 #[.val (.ref a1), .val (.int (2 : Int32)), .val (.int (129 : Int32)), .unset, .unset] [])) _
  refine Gk.iloadN X1 hx (hb hby d7_5) rfl ?_
  refine Gk.iloadN X1 hx (hb hby d7_6) rfl ?_
  refine Gk.isub X1 hx (hb hby d7_7) (127 : Int32) (by decide) ?_
  refine Gk.istoreN X1 hx (hb hby d7_8) #[.val (.ref a1), .val (.int (2 : Int32)), .val (.int (129 : Int32)), .val (.int (127 : Int32)), .unset] rfl ?_
  refine Gk.iloadN X1 hx (hb hby d7_9) rfl ?_
  refine Gk.newP X1 hx hZ (hw _ (List.mem_of_getElem? (i := 1) rfl)) e1 (hb hby d7_10) (by decide) (cap := 127) (by decide) (by decide) (by decide) (by decide) rfl ?_
  intro T2 h2 b2 k2 X2 e2 E2 g2 A2 B2
  have g_b2 : n0 ≤ b2 := Nat.le_trans Z0 (Nat.le_of_eq g2.symm)
  have V_b2 : Arf Z h2 b2 k2 .byte (127 : Int32) (fun _ => (.int (0 : Int32))) := A2
  have lt_b2 := V_b2.lt
  refine Gk.astore X2 hx (hb hby d7_12) rfl #[.val (.ref a1), .val (.int (2 : Int32)), .val (.int (129 : Int32)), .val (.int (127 : Int32)), .val (.ref b2)] rfl ?_
  refine Gk.aloadN X2 hx (hb hby d7_14) rfl rfl ?_
  refine Gk.iloadN X2 hx (hb hby d7_15) rfl ?_
  refine Gk.aload X2 hx (hb hby d7_16) rfl rfl ?_
  refine Gk.iconst X2 hx (hb hby d7_18) (0 : Int32) rfl ?_
  refine Gk.aloadN X2 hx (hb hby d7_19) rfl rfl ?_
  have H3 := (V_a.ext E2)
  refine Gk.alen X2 hx hZ e2 H3 (hb hby d7_20) ?_
  refine Gk.iloadN X2 hx (hb hby d7_21) rfl ?_
  refine Gk.isub X2 hx (hb hby d7_22) (127 : Int32) (by decide) ?_
  refine Gk.iloadN X2 hx (hb hby d7_23) rfl ?_
  refine Gk.callS (argsL := [(.int (127 : Int32)), (.int (127 : Int32))]) X2 hx hZ hown (rm9 l Z a0 hw [] (127 : Int32) (127 : Int32) h2 n0 (Nat.le_trans Z0 E2.1)) (hw _ (List.mem_of_getElem? (i := 42) rfl)) (hw _ (List.mem_of_getElem? (i := 43) rfl)) (hw _ (List.mem_of_getElem? (i := 44) rfl)) (hw _ (List.mem_of_getElem? (i := 45) rfl)) (by decide) e2 pd_1 rfl rfl (by decide) (Nat.le_of_ble_eq_true rfl) (by decide) (by decide) (by rw [hml]; rfl)  rfl (hb hby d7_24) ?_
  intro T4 L4 v4 X4 hQ4
  obtain ⟨rfl, N4q, e4⟩ := hQ4
  have N4 := Fr.app N1 N4q
  show Go p e below (T4.setTop (mkF m 27 #[.val (.ref a1), .val (.int (2 : Int32)), .val (.int (129 : Int32)), .val (.int (127 : Int32)), .val (.ref b2)] [(.int (if (127 : Int32) < (127 : Int32) then (127 : Int32) else (127 : Int32))), (.int (0 : Int32)), (.ref b2), (.int (2 : Int32)), (.ref a1)])) _
  rw [show (if (127 : Int32) < (127 : Int32) then (127 : Int32) else (127 : Int32)) = (127 : Int32) from by decide]
  refine Gk.copy X4 hx hZ hown (hw _ (List.mem_of_getElem? (i := 46) rfl)) (hw _ (List.mem_of_getElem? (i := 49) rfl)) (hw _ (List.mem_of_getElem? (i := 47) rfl)) (hw _ (List.mem_of_getElem? (i := 48) rfl)) e4 H3 V_b2 rfl (by decide) (by decide) (by decide) (by decide) (by decide) N4 g_b2 (fun i => if 0 ≤ i ∧ i < 0 + 127 then f (2 + (i - 0)) else (fun _ => (.int (0 : Int32))) i) (fun _ _ => rfl) (by rw [hml]; rfl) (hb hby d7_27) (by decide) (Nat.le_of_ble_eq_true rfl) ?_
  intro T5 h5 L5 X5 e5 N5 K5 V5
  refine Gk.aload X5 hx (hb hby d7_30) rfl rfl ?_
  refine Go.fin X5 (v := some (.ref b2)) (fun h_ => by rw [Bd.returns] at h_; cases h_) Bd.notSynchronized (fun _ hr => retOut X5 hx Bd.returns rfl (Or.inr (Or.inr (Or.inr (Or.inr ⟨rfl, rfl, rfl⟩)))) (hb hby d7_32) hr) (fun U' hU hF => ⟨_, _, rfl, ?_, hF.1, hF.2.1, hF.2.2.mono (by decide) (by decide)⟩)
  rw [hU, e5]
  exact ⟨(congrArg (fun z_ : Addr => some (Value.ref z_)) (show b2 = h0.size from g2)), N5, (((Keep.refl h0 []).ext E2).trans K5 (allS (Or.inr (Nat.le_trans (Nat.le_refl _) (Nat.le_of_eq g2.symm))) all0)), _, (g2 ▸ V5)⟩
theorem ef_rm6c_2 (m : MethodId) (a1 : Addr) : entryFrame m #[(.ref a1), (.int (2 : Int32)), (.int (129 : Int32))] 3 = mkF m 0 #[.val (.ref a1), .val (.int (2 : Int32)), .val (.int (129 : Int32))] [] := by first | (simp [entryFrame, mkF, argsToLocals, Value.category]; done) | rfl
def Q_rm6c_2 (Z : State) (a1 : Addr) (kb : ClassId) (f : Nat → Value) (h0 : Heap) (n0 : Nat) (v : Option Value) (h : Heap) (L : List Loc) : Prop := v = some (.ref h0.size) ∧ Fr n0 L ∧ Keep h0 h [] ∧ ∃ kr : ClassId, Arf Z h h0.size kr .byte (127 : Int32) (fun i => if 0 ≤ i ∧ i < 0 + 127 then f (2 + (i - 0)) else (.int (0 : Int32)))
set_option maxRecDepth 65536 in
set_option maxHeartbeats 40000000 in
theorem rm6c_2 (l : Launch) (Z : State) (a0 : Array Value) (hw : ∀ d ∈ tables_1, d.before a0 Z = true) (ws : List Jvm.Cond) (a1 : Addr) (kb : ClassId) (f : Nat → Value) (h0 : Heap) (n0 : Nat) (Z0 : n0 ≤ h0.size) (V_a : Arf Z h0 a1 kb .byte (129 : Int32) f) :
    MetFree l (⟨"java/util/Arrays", "copyOfRange", "([BII)[B"⟩ : MethodName) (head1 (Jvm.Cond.code (⟨"java/util/Arrays", "copyOfRange", "([BII)[B"⟩ : MethodName) jdk_65_method_132_code 3 (some (.array .byte)) :: ws) ({ frames := 2, cells := 1, slots := 127, locals := 56 } : Room)) (fun a U => a = #[(.ref a1), (.int (2 : Int32)), (.int (129 : Int32))] ∧ Z.Warmed39 U.vm ∧ U.heap = h0) (fun _ _ _ _ _ => True) (fun _ U o U' => ∃ v L, o = .returned v ∧ Q_rm6c_2 Z a1 kb f h0 n0 v U'.heap L ∧ FrameEnd U o U' L ({ frames := 2, cells := 1, slots := 127, locals := 56 } : Room).cells ({ frames := 2, cells := 1, slots := 127, locals := 56 } : Room).slots) := by
  refine MetFree.of_bodySF (plainFor_of_name pn_11) hisR ?_
  intro p e s m args below meth c s₁ Bd hml0 hP hK
  obtain ⟨rfl, hZ, hh⟩ := hP
  have hx := Bd.exec
  have hby := Bd.bytes
  have hml : c.maxLocals = 3 := hml0
  have hown : s.vm.findClass "java/util/Arrays" = some m.cls := findClass_of_methodNamed Bd.named
  have hnm := (name_of_methodNamed Bd.named Bd.method).1
  have X0 : Stand p l e ({ frames := 2, cells := 1, slots := 127, locals := 56 } : Room) s m #[(.ref a1), (.int (2 : Int32)), (.int (129 : Int32))] below meth c s₁ [] 0 0 := Stand.of_body Bd
  have e0 : s₁.heap = h0 := by rw [← hh, Bd.state]; rfl
  have N0 := Fr.nil n0
  show Go p e below (s₁.setTop (entryFrame m #[(.ref a1), (.int (2 : Int32)), (.int (129 : Int32))] 3)) (fun o U' => ∃ v L, o = .returned v ∧ Q_rm6c_2 Z a1 kb f h0 n0 v U'.heap L ∧ FrameEnd s o U' L ({ frames := 2, cells := 1, slots := 127, locals := 56 } : Room).cells ({ frames := 2, cells := 1, slots := 127, locals := 56 } : Room).slots)
  rw [ef_rm6c_2]
  refine Gk.iloadN X0 hx (hb hby d6_0) rfl ?_
  refine Gk.ifYes X0 hx (hb hby d6_1) (feq (by decide : ¬ ((2 : Int32) = (0 : Int32)))).2 10 (by decide) (by decide) ?_
  refine Gk.aloadN X0 hx (hb hby d6_10) rfl rfl ?_
  refine Gk.iloadN X0 hx (hb hby d6_11) rfl ?_
  refine Gk.iloadN X0 hx (hb hby d6_12) rfl ?_
  refine Gk.callS (argsL := [(.ref a1), (.int (2 : Int32)), (.int (129 : Int32))]) X0 hx hZ hown (rm7_2 l Z a0 hw [] a1 kb f h0 n0 Z0 V_a) (hw _ (List.mem_of_getElem? (i := 36) rfl)) (hw _ (List.mem_of_getElem? (i := 37) rfl)) (hw _ (List.mem_of_getElem? (i := 34) rfl)) (hw _ (List.mem_of_getElem? (i := 38) rfl)) (by decide) e0 pd_2 rfl rfl (by decide) (Nat.le_of_ble_eq_true rfl) (by decide) (by decide) (by rw [hml]; rfl)  rfl (hb hby d6_13) ?_
  intro T1 L1 v1 X1 hQ1
  obtain ⟨rfl, N1q, K1, k1, A1⟩ := hQ1
  have N1 := Fr.app N0 N1q
  obtain ⟨b1, g1⟩ : ∃ z_, z_ = h0.size := ⟨_, rfl⟩
  rw [← g1] at A1 ⊢
  have g_b1 : n0 ≤ b1 := Nat.le_trans Z0 (Nat.le_of_eq g1.symm)
  have lt_b1 : b1 < T1.heap.size := A1.lt
  show Go p e below (T1.setTop (mkF m 16 #[.val (.ref a1), .val (.int (2 : Int32)), .val (.int (129 : Int32))] [(.ref b1)])) _
  refine Go.fin X1 (v := some (.ref b1)) (fun h_ => by rw [Bd.returns] at h_; cases h_) Bd.notSynchronized (fun _ hr => retOut X1 hx Bd.returns rfl (Or.inr (Or.inr (Or.inr (Or.inr ⟨rfl, rfl, rfl⟩)))) (hb hby d6_16) hr) (fun U' hU hF => ⟨_, _, rfl, ?_, hF.1, hF.2.1, hF.2.2.mono (by decide) (by decide)⟩)
  rw [hU]
  exact ⟨(congrArg (fun z_ : Addr => some (Value.ref z_)) (show b1 = h0.size from g1)), N1, ((Keep.refl h0 []).trans K1 all0), _, (g1 ▸ A1)⟩
theorem ef_rm6e_2 (m : MethodId) (a1 : Addr) : entryFrame m #[(.ref a1), (.int (0 : Int32)), (.int (129 : Int32))] 3 = mkF m 0 #[.val (.ref a1), .val (.int (0 : Int32)), .val (.int (129 : Int32))] [] := by first | (simp [entryFrame, mkF, argsToLocals, Value.category]; done) | rfl
def Q_rm6e_2 (Z : State) (a1 : Addr) (kb : ClassId) (f : Nat → Value) (h0 : Heap) (n0 : Nat) (v : Option Value) (h : Heap) (L : List Loc) : Prop := v = some (.ref h0.size) ∧ Fr n0 L ∧ Keep h0 h [] ∧ ∃ kr : ClassId, Arf Z h h0.size kr .byte (129 : Int32) f
set_option maxRecDepth 65536 in
set_option maxHeartbeats 40000000 in
theorem rm6e_2 (l : Launch) (Z : State) (a0 : Array Value) (hw : ∀ d ∈ tables_1, d.before a0 Z = true) (ws : List Jvm.Cond) (a1 : Addr) (kb : ClassId) (f : Nat → Value) (h0 : Heap) (n0 : Nat) (Z0 : n0 ≤ h0.size) (V_a : Arf Z h0 a1 kb .byte (129 : Int32) f) (E_a : Exa Z h0 a1 "[B") :
    MetFree l (⟨"java/util/Arrays", "copyOfRange", "([BII)[B"⟩ : MethodName) (head1 (Jvm.Cond.code (⟨"java/util/Arrays", "copyOfRange", "([BII)[B"⟩ : MethodName) jdk_65_method_132_code 3 (some (.array .byte)) :: ws) ({ frames := 1, cells := 1, slots := 129, locals := 14 } : Room)) (fun a U => a = #[(.ref a1), (.int (0 : Int32)), (.int (129 : Int32))] ∧ Z.Warmed39 U.vm ∧ U.heap = h0) (fun _ _ _ _ _ => True) (fun _ U o U' => ∃ v L, o = .returned v ∧ Q_rm6e_2 Z a1 kb f h0 n0 v U'.heap L ∧ FrameEnd U o U' L ({ frames := 1, cells := 1, slots := 129, locals := 14 } : Room).cells ({ frames := 1, cells := 1, slots := 129, locals := 14 } : Room).slots) := by
  refine MetFree.of_bodySF (plainFor_of_name pn_11) hisR ?_
  intro p e s m args below meth c s₁ Bd hml0 hP hK
  obtain ⟨rfl, hZ, hh⟩ := hP
  have hx := Bd.exec
  have hby := Bd.bytes
  have hml : c.maxLocals = 3 := hml0
  have hown : s.vm.findClass "java/util/Arrays" = some m.cls := findClass_of_methodNamed Bd.named
  have hnm := (name_of_methodNamed Bd.named Bd.method).1
  have X0 : Stand p l e ({ frames := 1, cells := 1, slots := 129, locals := 14 } : Room) s m #[(.ref a1), (.int (0 : Int32)), (.int (129 : Int32))] below meth c s₁ [] 0 0 := Stand.of_body Bd
  have e0 : s₁.heap = h0 := by rw [← hh, Bd.state]; rfl
  have N0 := Fr.nil n0
  show Go p e below (s₁.setTop (entryFrame m #[(.ref a1), (.int (0 : Int32)), (.int (129 : Int32))] 3)) (fun o U' => ∃ v L, o = .returned v ∧ Q_rm6e_2 Z a1 kb f h0 n0 v U'.heap L ∧ FrameEnd s o U' L ({ frames := 1, cells := 1, slots := 129, locals := 14 } : Room).cells ({ frames := 1, cells := 1, slots := 129, locals := 14 } : Room).slots)
  rw [ef_rm6e_2]
  refine Gk.iloadN X0 hx (hb hby d6_0) rfl ?_
  refine Gk.ifNo X0 hx (hb hby d6_1) (teq (by decide : (0 : Int32) = (0 : Int32))).2 ?_
  refine Gk.iloadN X0 hx (hb hby d6_4) rfl ?_
  refine Gk.aloadN X0 hx (hb hby d6_5) rfl rfl ?_
  refine Gk.alen X0 hx hZ e0 V_a (hb hby d6_6) ?_
  refine Gk.icmpYes X0 hx (hb hby d6_7) (teq (by decide : (129 : Int32) = (129 : Int32))).1 17 (by decide) (by decide) ?_
  refine Gk.aloadN X0 hx (hb hby d6_17) rfl rfl ?_
  refine Gk.clone X0 hx hZ hown (hw _ (List.mem_of_getElem? (i := 55) rfl)) (hw _ (List.mem_of_getElem? (i := 56) rfl)) (hw _ (List.mem_of_getElem? (i := 60) rfl)) (hw _ (List.mem_of_getElem? (i := 58) rfl)) (hw _ (List.mem_of_getElem? (i := 59) rfl)) (hw _ (List.mem_of_getElem? (i := 61) rfl)) e0 V_a E_a (by rw [hml]; rfl) (hb hby d6_18) (by decide) (cap := 129) (Nat.le_of_ble_eq_true rfl) (by decide) (by decide) (by decide) ?_
  intro T1 h1 b1 X1 e1 E1 g1 V_b1 B1
  have g_b1 : n0 ≤ b1 := Nat.le_trans Z0 (Nat.le_of_eq g1.symm)
  have lt_b1 := V_b1.lt
  refine Gk.castY X1 hx hZ hown (hw _ (List.mem_of_getElem? (i := 62) rfl)) e1 (Ins.self B1) (hb hby d6_21) ?_
  intro T2 X2 e2
  refine Go.fin X2 (v := some (.ref b1)) (fun h_ => by rw [Bd.returns] at h_; cases h_) Bd.notSynchronized (fun _ hr => retOut X2 hx Bd.returns rfl (Or.inr (Or.inr (Or.inr (Or.inr ⟨rfl, rfl, rfl⟩)))) (hb hby d6_24) hr) (fun U' hU hF => ⟨_, _, rfl, ?_, hF.1, hF.2.1, hF.2.2.mono (by decide) (by decide)⟩)
  rw [hU, e2]
  exact ⟨(congrArg (fun z_ : Addr => some (Value.ref z_)) (show b1 = h0.size from g1)), N0, ((Keep.refl h0 []).ext E1), _, (g1 ▸ V_b1)⟩
theorem ef_rm2_2 (m : MethodId) (a1 : Addr) (a2 : Addr) : entryFrame m #[(.ref a1), (.ref a2), (.int (0 : Int32)), (.int (129 : Int32))] 8 = mkF m 0 #[.val (.ref a1), .val (.ref a2), .val (.int (0 : Int32)), .val (.int (129 : Int32)), .unset, .unset, .unset, .unset] [] := by first | (simp [entryFrame, mkF, argsToLocals, Value.category]; done) | rfl
def Q_rm2_2 (Z : State) (a1 : Addr) (a2 : Addr) (kb : ClassId) (f : Nat → Value) (tb : Int32) (u_bytes_a1 : Value) (u_start_a1 : Value) (u_contentStart_a1 : Value) (u_end_a1 : Value) (h0 : Heap) (n0 : Nat) (v : Option Value) (h : Heap) (L : List Loc) : Prop := v = none ∧ Fr n0 L ∧ Keep h0 h [a1] ∧ Fld Z h a1 "com/example/mooring/mooring/Der" "bytes" "[B" (.ref a2) ∧ Fld Z h a1 "com/example/mooring/mooring/Der" "start" "I" (.int (0 : Int32)) ∧ Fld Z h a1 "com/example/mooring/mooring/Der" "contentStart" "I" (.int (2 : Int32)) ∧ Fld Z h a1 "com/example/mooring/mooring/Der" "end" "I" (.int (129 : Int32))
set_option maxRecDepth 65536 in
set_option maxHeartbeats 40000000 in
theorem rm2_2 (l : Launch) (Z : State) (a0 : Array Value) (hw : ∀ d ∈ tables_1, d.before a0 Z = true) (ws : List Jvm.Cond) (a1 : Addr) (a2 : Addr) (kb : ClassId) (f : Nat → Value) (tb : Int32) (u_bytes_a1 : Value) (u_start_a1 : Value) (u_contentStart_a1 : Value) (u_end_a1 : Value) (h0 : Heap) (n0 : Nat) (Z0 : n0 ≤ h0.size) (E_a1 : Exa Z h0 a1 "com/example/mooring/mooring/Der") (V_a : Arf Z h0 a2 kb .byte (129 : Int32) f) (hf0 : f 0 = (.int tb)) (hf1 : f 1 = (.int (127 : Int32))) (htb : ¬ ((tb &&& (31 : Int32)) = (31 : Int32))) (hne : a1 ≠ a2) (F_bytes_a1 : Fld Z h0 a1 "com/example/mooring/mooring/Der" "bytes" "[B" u_bytes_a1) (g_a1 : n0 ≤ a1) (F_start_a1 : Fld Z h0 a1 "com/example/mooring/mooring/Der" "start" "I" u_start_a1) (F_contentStart_a1 : Fld Z h0 a1 "com/example/mooring/mooring/Der" "contentStart" "I" u_contentStart_a1) (F_end_a1 : Fld Z h0 a1 "com/example/mooring/mooring/Der" "end" "I" u_end_a1) :
    MetFree l (⟨"com/example/mooring/mooring/Der", "<init>", "([BII)V"⟩ : MethodName) (head1 (Jvm.Cond.code (⟨"com/example/mooring/mooring/Der", "<init>", "([BII)V"⟩ : MethodName) prog_2_method_1_code 8 none :: ws) ({ frames := 1, cells := 0, slots := 0, locals := 12 } : Room)) (fun a U => a = #[(.ref a1), (.ref a2), (.int (0 : Int32)), (.int (129 : Int32))] ∧ Z.Warmed39 U.vm ∧ U.heap = h0) (fun _ _ _ _ _ => True) (fun _ U o U' => ∃ v L, o = .returned v ∧ Q_rm2_2 Z a1 a2 kb f tb u_bytes_a1 u_start_a1 u_contentStart_a1 u_end_a1 h0 n0 v U'.heap L ∧ FrameEnd U o U' L ({ frames := 1, cells := 0, slots := 0, locals := 12 } : Room).cells ({ frames := 1, cells := 0, slots := 0, locals := 12 } : Room).slots) := by
  refine MetFree.of_bodySF (plainFor_of_name pn_103) hisR ?_
  intro p e s m args below meth c s₁ Bd hml0 hP hK
  obtain ⟨rfl, hZ, hh⟩ := hP
  have hx := Bd.exec
  have hby := Bd.bytes
  have hml : c.maxLocals = 8 := hml0
  have hown : s.vm.findClass "com/example/mooring/mooring/Der" = some m.cls := findClass_of_methodNamed Bd.named
  have hnm := (name_of_methodNamed Bd.named Bd.method).1
  have X0 : Stand p l e ({ frames := 1, cells := 0, slots := 0, locals := 12 } : Room) s m #[(.ref a1), (.ref a2), (.int (0 : Int32)), (.int (129 : Int32))] below meth c s₁ [] 0 0 := Stand.of_body Bd
  have e0 : s₁.heap = h0 := by rw [← hh, Bd.state]; rfl
  have N0 := Fr.nil n0
  show Go p e below (s₁.setTop (entryFrame m #[(.ref a1), (.ref a2), (.int (0 : Int32)), (.int (129 : Int32))] 8)) (fun o U' => ∃ v L, o = .returned v ∧ Q_rm2_2 Z a1 a2 kb f tb u_bytes_a1 u_start_a1 u_contentStart_a1 u_end_a1 h0 n0 v U'.heap L ∧ FrameEnd s o U' L ({ frames := 1, cells := 0, slots := 0, locals := 12 } : Room).cells ({ frames := 1, cells := 0, slots := 0, locals := 12 } : Room).slots)
  rw [ef_rm2_2]
  refine Gk.aloadN X0 hx (hb hby d2_0) rfl rfl ?_
  refine Gk.initO X0 hx hZ hown (hw _ (List.mem_of_getElem? (i := 11) rfl)) (hw _ (List.mem_of_getElem? (i := 12) rfl)) (hw _ (List.mem_of_getElem? (i := 13) rfl)) e0 (by rw [hml]; rfl) (hb hby d2_1) (by decide) (Nat.le_of_ble_eq_true rfl) ?_
  intro T1 X1 e1
  refine Gk.iloadN X1 hx (hb hby d2_4) rfl ?_
  refine Gk.iloadN X1 hx (hb hby d2_5) rfl ?_
  refine Gk.isub X1 hx (hb hby d2_6) (129 : Int32) (by decide) ?_
  refine Gk.iconst X1 hx (hb hby d2_7) (2 : Int32) rfl ?_
  refine Gk.icmpYes X1 hx (hb hby d2_8) (flt (by decide : ¬ ((129 : Int32) < (2 : Int32)))).2.1 21 (by decide) (by decide) ?_
  refine Gk.aloadN X1 hx (hb hby d2_21) rfl rfl ?_
  refine Gk.iloadN X1 hx (hb hby d2_22) rfl ?_
  refine Gk.baloadB X1 hx hZ e1 V_a ⟨by decide, by decide⟩ (.int tb) hf0 (hb hby d2_23) ?_
  refine Gk.bipush X1 hx (hb hby d2_24) (31 : Int32) rfl ?_
  refine Gk.iand X1 hx (hb hby d2_26) _ rfl ?_
  refine Gk.bipush X1 hx (hb hby d2_27) (31 : Int32) rfl ?_
  have hc29 : ¬ ((tb &&& (31 : Int32)) = (31 : Int32)) := htb
  refine Gk.icmpYes X1 hx (hb hby d2_29) (feq hc29).2 42 (by decide) (by decide) ?_
  refine Gk.aloadN X1 hx (hb hby d2_42) rfl rfl ?_
  refine Gk.iloadN X1 hx (hb hby d2_43) rfl ?_
  refine Gk.iconst X1 hx (hb hby d2_44) (1 : Int32) rfl ?_
  refine Gk.iadd X1 hx (hb hby d2_45) (1 : Int32) (by decide) ?_
  refine Gk.baloadB X1 hx hZ e1 V_a ⟨by decide, by decide⟩ (.int (127 : Int32)) hf1 (hb hby d2_46) ?_
  refine Gk.sipush X1 hx (hb hby d2_47) (255 : Int32) rfl ?_
  refine Gk.iand X1 hx (hb hby d2_50) (127 : Int32) (by decide) ?_
  refine Gk.istore X1 hx (hb hby d2_51) #[.val (.ref a1), .val (.ref a2), .val (.int (0 : Int32)), .val (.int (129 : Int32)), .val (.int (127 : Int32)), .unset, .unset, .unset] rfl ?_
  refine Gk.iload X1 hx (hb hby d2_53) rfl ?_
  refine Gk.istore X1 hx (hb hby d2_55) #[.val (.ref a1), .val (.ref a2), .val (.int (0 : Int32)), .val (.int (129 : Int32)), .val (.int (127 : Int32)), .val (.int (127 : Int32)), .unset, .unset] rfl ?_
  refine Gk.iconst X1 hx (hb hby d2_57) (0 : Int32) rfl ?_
  refine Gk.istore X1 hx (hb hby d2_58) #[.val (.ref a1), .val (.ref a2), .val (.int (0 : Int32)), .val (.int (129 : Int32)), .val (.int (127 : Int32)), .val (.int (127 : Int32)), .val (.int (0 : Int32)), .unset] rfl ?_
  refine Gk.iload X1 hx (hb hby d2_60) rfl ?_
  refine Gk.sipush X1 hx (hb hby d2_62) (128 : Int32) rfl ?_
  refine Gk.icmpYes X1 hx (hb hby d2_65) (tlt (by decide : (127 : Int32) < (128 : Int32))).1 171 (by decide) (by decide) ?_
  refine Gk.aloadN X1 hx (hb hby d2_171) rfl rfl ?_
  refine Gk.aloadN X1 hx (hb hby d2_172) rfl rfl ?_
  refine Gk.putF X1 hx hZ hown (host := "") (Or.inl (hw _ (List.mem_of_getElem? (i := 14) rfl))) Via.refl e1 F_bytes_a1 E_a1 (Or.inr ⟨(hw _ (List.mem_of_getElem? (i := 15) rfl)), rfl, hnm⟩) (hw _ (List.mem_of_getElem? (i := 7) rfl)) (ty := (.array .byte)) (by decide) rfl rfl (hb hby d2_173) ?_
  intro T4 h4 X4 e4 W4
  have Fw4 := F_bytes_a1.same W4
  have N4 := Fr.snoc X4 N0 g_a1
  refine Gk.aloadN X4 hx (hb hby d2_176) rfl rfl ?_
  refine Gk.iloadN X4 hx (hb hby d2_177) rfl ?_
  have H5 := (E_a1.wr W4)
  have H6 := (F_start_a1.other W4 (Or.inr (slot_ne (Or.inr (hw _ (List.mem_of_getElem? (i := 17) rfl))) (Or.inr (hw _ (List.mem_of_getElem? (i := 15) rfl))) (by decide) (t := .int) (t' := (.array .byte)) (by decide) (by decide))))
  refine Gk.putF X4 hx hZ hown (host := "") (Or.inl (hw _ (List.mem_of_getElem? (i := 16) rfl))) Via.refl e4 H6 H5 (Or.inr ⟨(hw _ (List.mem_of_getElem? (i := 17) rfl)), rfl, hnm⟩) (hw _ (List.mem_of_getElem? (i := 7) rfl)) (ty := .int) (by decide) rfl rfl (hb hby d2_178) ?_
  intro T7 h7 X7 e7 W7
  have Fw7 := H6.same W7
  have N7 := Fr.snoc X7 N4 g_a1
  refine Gk.aloadN X7 hx (hb hby d2_181) rfl rfl ?_
  refine Gk.iloadN X7 hx (hb hby d2_182) rfl ?_
  refine Gk.iconst X7 hx (hb hby d2_183) (2 : Int32) rfl ?_
  refine Gk.iadd X7 hx (hb hby d2_184) (2 : Int32) (by decide) ?_
  refine Gk.iload X7 hx (hb hby d2_185) rfl ?_
  refine Gk.iadd X7 hx (hb hby d2_187) (2 : Int32) (by decide) ?_
  have H8 := (H5.wr W7)
  have H9 := ((F_contentStart_a1.other W4 (Or.inr (slot_ne (Or.inr (hw _ (List.mem_of_getElem? (i := 19) rfl))) (Or.inr (hw _ (List.mem_of_getElem? (i := 15) rfl))) (by decide) (t := .int) (t' := (.array .byte)) (by decide) (by decide)))).other W7 (Or.inr (slot_ne (Or.inr (hw _ (List.mem_of_getElem? (i := 19) rfl))) (Or.inr (hw _ (List.mem_of_getElem? (i := 17) rfl))) (by decide) (t := .int) (t' := .int) (by decide) (by decide))))
  refine Gk.putF X7 hx hZ hown (host := "") (Or.inl (hw _ (List.mem_of_getElem? (i := 18) rfl))) Via.refl e7 H9 H8 (Or.inr ⟨(hw _ (List.mem_of_getElem? (i := 19) rfl)), rfl, hnm⟩) (hw _ (List.mem_of_getElem? (i := 7) rfl)) (ty := .int) (by decide) rfl rfl (hb hby d2_188) ?_
  intro T10 h10 X10 e10 W10
  have Fw10 := H9.same W10
  have N10 := Fr.snoc X10 N7 g_a1
  refine Gk.aloadN X10 hx (hb hby d2_191) rfl rfl ?_
  refine Gk.aloadN X10 hx (hb hby d2_192) rfl rfl ?_
  refine Gk.getF X10 hx hZ hown (host := "") (Or.inl (hw _ (List.mem_of_getElem? (i := 18) rfl))) Via.refl e10 Fw10 (hb hby d2_193) ?_
  intro T11 X11 e11
  refine Gk.iload X11 hx (hb hby d2_196) rfl ?_
  refine Gk.iadd X11 hx (hb hby d2_198) (129 : Int32) (by decide) ?_
  have H12 := (H8.wr W10)
  have H13 := (((F_end_a1.other W4 (Or.inr (slot_ne (Or.inr (hw _ (List.mem_of_getElem? (i := 21) rfl))) (Or.inr (hw _ (List.mem_of_getElem? (i := 15) rfl))) (by decide) (t := .int) (t' := (.array .byte)) (by decide) (by decide)))).other W7 (Or.inr (slot_ne (Or.inr (hw _ (List.mem_of_getElem? (i := 21) rfl))) (Or.inr (hw _ (List.mem_of_getElem? (i := 17) rfl))) (by decide) (t := .int) (t' := .int) (by decide) (by decide)))).other W10 (Or.inr (slot_ne (Or.inr (hw _ (List.mem_of_getElem? (i := 21) rfl))) (Or.inr (hw _ (List.mem_of_getElem? (i := 19) rfl))) (by decide) (t := .int) (t' := .int) (by decide) (by decide))))
  refine Gk.putF X11 hx hZ hown (host := "") (Or.inl (hw _ (List.mem_of_getElem? (i := 20) rfl))) Via.refl e11 H13 H12 (Or.inr ⟨(hw _ (List.mem_of_getElem? (i := 21) rfl)), rfl, hnm⟩) (hw _ (List.mem_of_getElem? (i := 7) rfl)) (ty := .int) (by decide) rfl rfl (hb hby d2_199) ?_
  intro T14 h14 X14 e14 W14
  have Fw14 := H13.same W14
  have N14 := Fr.snoc X14 N10 g_a1
  refine Gk.aloadN X14 hx (hb hby d2_202) rfl rfl ?_
  refine Gk.getF X14 hx hZ hown (host := "") (Or.inl (hw _ (List.mem_of_getElem? (i := 20) rfl))) Via.refl e14 Fw14 (hb hby d2_203) ?_
  intro T15 X15 e15
  refine Gk.iloadN X15 hx (hb hby d2_206) rfl ?_
  refine Gk.icmpYes X15 hx (hb hby d2_207) (flt (by decide : ¬ ((129 : Int32) < (129 : Int32)))).2.2.2 220 (by decide) (by decide) ?_
  have H16 := (((Fw4.other W7 (Or.inr (slot_ne (Or.inr (hw _ (List.mem_of_getElem? (i := 15) rfl))) (Or.inr (hw _ (List.mem_of_getElem? (i := 17) rfl))) (by decide) (t := (.array .byte)) (t' := .int) (by decide) (by decide)))).other W10 (Or.inr (slot_ne (Or.inr (hw _ (List.mem_of_getElem? (i := 15) rfl))) (Or.inr (hw _ (List.mem_of_getElem? (i := 19) rfl))) (by decide) (t := (.array .byte)) (t' := .int) (by decide) (by decide)))).other W14 (Or.inr (slot_ne (Or.inr (hw _ (List.mem_of_getElem? (i := 15) rfl))) (Or.inr (hw _ (List.mem_of_getElem? (i := 21) rfl))) (by decide) (t := (.array .byte)) (t' := .int) (by decide) (by decide))))
  have H17 := ((Fw7.other W10 (Or.inr (slot_ne (Or.inr (hw _ (List.mem_of_getElem? (i := 17) rfl))) (Or.inr (hw _ (List.mem_of_getElem? (i := 19) rfl))) (by decide) (t := .int) (t' := .int) (by decide) (by decide)))).other W14 (Or.inr (slot_ne (Or.inr (hw _ (List.mem_of_getElem? (i := 17) rfl))) (Or.inr (hw _ (List.mem_of_getElem? (i := 21) rfl))) (by decide) (t := .int) (t' := .int) (by decide) (by decide))))
  have H18 := (Fw10.other W14 (Or.inr (slot_ne (Or.inr (hw _ (List.mem_of_getElem? (i := 19) rfl))) (Or.inr (hw _ (List.mem_of_getElem? (i := 21) rfl))) (by decide) (t := .int) (t' := .int) (by decide) (by decide))))
  refine Go.fin X15 (v := none) (fun _ => rfl) Bd.notSynchronized (fun _ hr => X15.returnOut hx Bd.returns (hb hby d2_220) hr) (fun U' hU hF => ⟨_, _, rfl, ?_, hF.1, hF.2.1, hF.2.2.mono (by decide) (by decide)⟩)
  rw [hU, e15]
  exact ⟨rfl, N14, (((((Keep.refl h0 [a1]).wr W4 (Or.inl (List.mem_of_getElem? (i := 0) rfl))).wr W7 (Or.inl (List.mem_of_getElem? (i := 0) rfl))).wr W10 (Or.inl (List.mem_of_getElem? (i := 0) rfl))).wr W14 (Or.inl (List.mem_of_getElem? (i := 0) rfl))), H16, H17, H18, Fw14⟩
theorem ef_rm1_2 (m : MethodId) (a1 : Addr) : entryFrame m #[(.ref a1)] 2 = mkF m 0 #[.val (.ref a1), .unset] [] := by first | (simp [entryFrame, mkF, argsToLocals, Value.category]; done) | rfl
def Q_rm1_2 (Z : State) (a1 : Addr) (kb : ClassId) (f : Nat → Value) (tb : Int32) (h0 : Heap) (n0 : Nat) (v : Option Value) (h : Heap) (L : List Loc) : Prop := v = some (.ref h0.size) ∧ Fr n0 L ∧ Keep h0 h [] ∧ Exa Z h h0.size "com/example/mooring/mooring/Der" ∧ Fld Z h h0.size "com/example/mooring/mooring/Der" "bytes" "[B" (.ref a1) ∧ Fld Z h h0.size "com/example/mooring/mooring/Der" "start" "I" (.int (0 : Int32)) ∧ Fld Z h h0.size "com/example/mooring/mooring/Der" "contentStart" "I" (.int (2 : Int32)) ∧ Fld Z h h0.size "com/example/mooring/mooring/Der" "end" "I" (.int (129 : Int32))
set_option maxRecDepth 65536 in
set_option maxHeartbeats 40000000 in
theorem rm1_2 (l : Launch) (Z : State) (a0 : Array Value) (hw : ∀ d ∈ tables_1, d.before a0 Z = true) (ws : List Jvm.Cond) (a1 : Addr) (kb : ClassId) (f : Nat → Value) (tb : Int32) (h0 : Heap) (n0 : Nat) (Z0 : n0 ≤ h0.size) (V_a : Arf Z h0 a1 kb .byte (129 : Int32) f) (hf0 : f 0 = (.int tb)) (hf1 : f 1 = (.int (127 : Int32))) (htb : ¬ ((tb &&& (31 : Int32)) = (31 : Int32))) :
    MetFree l (⟨"com/example/mooring/mooring/Der", "parse", "([B)Lcom/example/mooring/mooring/Der;"⟩ : MethodName) (head1 (Jvm.Cond.code (⟨"com/example/mooring/mooring/Der", "parse", "([B)Lcom/example/mooring/mooring/Der;"⟩ : MethodName) prog_2_method_2_code 2 (some (.object "com/example/mooring/mooring/Der")) :: ws) ({ frames := 2, cells := 1, slots := 4, locals := 32 } : Room)) (fun a U => a = #[(.ref a1)] ∧ Z.Warmed39 U.vm ∧ U.heap = h0) (fun _ _ _ _ _ => True) (fun _ U o U' => ∃ v L, o = .returned v ∧ Q_rm1_2 Z a1 kb f tb h0 n0 v U'.heap L ∧ FrameEnd U o U' L ({ frames := 2, cells := 1, slots := 4, locals := 32 } : Room).cells ({ frames := 2, cells := 1, slots := 4, locals := 32 } : Room).slots) := by
  refine MetFree.of_bodySF (plainFor_of_name pn_103) hisR ?_
  intro p e s m args below meth c s₁ Bd hml0 hP hK
  obtain ⟨rfl, hZ, hh⟩ := hP
  have hx := Bd.exec
  have hby := Bd.bytes
  have hml : c.maxLocals = 2 := hml0
  have hown : s.vm.findClass "com/example/mooring/mooring/Der" = some m.cls := findClass_of_methodNamed Bd.named
  have hnm := (name_of_methodNamed Bd.named Bd.method).1
  have X0 : Stand p l e ({ frames := 2, cells := 1, slots := 4, locals := 32 } : Room) s m #[(.ref a1)] below meth c s₁ [] 0 0 := Stand.of_body Bd
  have e0 : s₁.heap = h0 := by rw [← hh, Bd.state]; rfl
  have N0 := Fr.nil n0
  show Go p e below (s₁.setTop (entryFrame m #[(.ref a1)] 2)) (fun o U' => ∃ v L, o = .returned v ∧ Q_rm1_2 Z a1 kb f tb h0 n0 v U'.heap L ∧ FrameEnd s o U' L ({ frames := 2, cells := 1, slots := 4, locals := 32 } : Room).cells ({ frames := 2, cells := 1, slots := 4, locals := 32 } : Room).slots)
  rw [ef_rm1_2]
  refine Gk.newO X0 hx hZ hown (hw _ (List.mem_of_getElem? (i := 6) rfl)) (hw _ (List.mem_of_getElem? (i := 7) rfl)) (hw _ (List.mem_of_getElem? (i := 4) rfl)) e0 (hb hby d1_0) (by decide) (by decide) ?_
  intro T1 h1 b1 X1 e1 E1 g1 A1 D1
  have g_b1 : n0 ≤ b1 := Nat.le_trans Z0 (Nat.le_of_eq g1.symm)
  have lt_b1 := A1.lt
  have F_bytes_b1 : Fld Z h1 b1 "com/example/mooring/mooring/Der" "bytes" "[B" .null := D1 (Or.inr (hw _ (List.mem_of_getElem? (i := 15) rfl))) (ty := (.array .byte)) (by decide)
  have F_start_b1 : Fld Z h1 b1 "com/example/mooring/mooring/Der" "start" "I" (.int (0 : Int32)) := D1 (Or.inr (hw _ (List.mem_of_getElem? (i := 17) rfl))) (ty := .int) (by decide)
  have F_contentStart_b1 : Fld Z h1 b1 "com/example/mooring/mooring/Der" "contentStart" "I" (.int (0 : Int32)) := D1 (Or.inr (hw _ (List.mem_of_getElem? (i := 19) rfl))) (ty := .int) (by decide)
  have F_end_b1 : Fld Z h1 b1 "com/example/mooring/mooring/Der" "end" "I" (.int (0 : Int32)) := D1 (Or.inr (hw _ (List.mem_of_getElem? (i := 21) rfl))) (ty := .int) (by decide)
  refine Gk.dup X1 hx (hb hby d1_3) rfl ?_
  refine Gk.aloadN X1 hx (hb hby d1_4) rfl rfl ?_
  refine Gk.iconst X1 hx (hb hby d1_5) (0 : Int32) rfl ?_
  refine Gk.aloadN X1 hx (hb hby d1_6) rfl rfl ?_
  have H2 := (V_a.ext E1)
  refine Gk.alen X1 hx hZ e1 H2 (hb hby d1_7) ?_
  have ne4 : b1 ≠ a1 := (Nat.ne_of_gt (Nat.lt_of_lt_of_le V_a.lt (Nat.le_trans (Nat.le_refl _) (Nat.le_of_eq g1.symm))))
  refine Gk.callI (argsL := [(.ref a1), (.int (0 : Int32)), (.int (129 : Int32))]) X1 hx hZ hown (rm2_2 l Z a0 hw [] b1 a1 kb f tb .null (.int (0 : Int32)) (.int (0 : Int32)) (.int (0 : Int32)) h1 n0 (Nat.le_trans Z0 E1.1) A1 H2 hf0 hf1 htb ne4 F_bytes_b1 g_b1 F_start_b1 F_contentStart_b1 F_end_b1) rfl (hw _ (List.mem_of_getElem? (i := 8) rfl)) (hw _ (List.mem_of_getElem? (i := 9) rfl)) (hw _ (List.mem_of_getElem? (i := 10) rfl)) rfl (by decide) (hw _ (List.mem_of_getElem? (i := 4) rfl)) e1 pd_3 rfl rfl (by decide) (Nat.le_of_ble_eq_true rfl) (by decide) (by decide) (by rw [hml]; rfl)  rfl (hb hby d1_8) ?_
  intro T3 L3 v3 X3 hQ3
  obtain ⟨rfl, N3q, K3, Fi3_bytes, Fi3_start, Fi3_contentStart, Fi3_end⟩ := hQ3
  have N3 := Fr.app N0 N3q
  show Go p e below (T3.setTop (mkF m 11 #[.val (.ref a1), .unset] [(.ref b1)])) _
  refine Gk.astoreN X3 hx (hb hby d1_11) rfl #[.val (.ref a1), .val (.ref b1)] rfl ?_
  refine Gk.aloadN X3 hx (hb hby d1_12) rfl rfl ?_
  refine Gk.getF X3 hx hZ hown (host := "") (Or.inl (hw _ (List.mem_of_getElem? (i := 20) rfl))) Via.refl rfl Fi3_end (hb hby d1_13) ?_
  intro T5 X5 e5
  refine Gk.aloadN X5 hx (hb hby d1_16) rfl rfl ?_
  have H6 := (H2.keep K3 (ninS (Ne.symm ne4) nin0))
  refine Gk.alen X5 hx hZ e5 H6 (hb hby d1_17) ?_
  refine Gk.icmpYes X5 hx (hb hby d1_18) (teq (by decide : (129 : Int32) = (129 : Int32))).1 31 (by decide) (by decide) ?_
  refine Gk.aloadN X5 hx (hb hby d1_31) rfl rfl ?_
  have H7 := (A1.keep K3)
  refine Go.fin X5 (v := some (.ref b1)) (fun h_ => by rw [Bd.returns] at h_; cases h_) Bd.notSynchronized (fun _ hr => retOut X5 hx Bd.returns rfl (Or.inr (Or.inr (Or.inr (Or.inr ⟨rfl, rfl, rfl⟩)))) (hb hby d1_32) hr) (fun U' hU hF => ⟨_, _, rfl, ?_, hF.1, hF.2.1, hF.2.2.mono (by decide) (by decide)⟩)
  rw [hU, e5]
  exact ⟨(congrArg (fun z_ : Addr => some (Value.ref z_)) (show b1 = h0.size from g1)), N3, (((Keep.refl h0 []).ext E1).trans K3 (allS (Or.inr (Nat.le_trans (Nat.le_refl _) (Nat.le_of_eq g1.symm))) all0)), (g1 ▸ H7), (g1 ▸ Fi3_bytes), (g1 ▸ Fi3_start), (g1 ▸ Fi3_contentStart), (g1 ▸ Fi3_end)⟩
theorem ef_rm4_2 (m : MethodId) (a1 : Addr) : entryFrame m #[(.ref a1)] 1 = mkF m 0 #[.val (.ref a1)] [] := by first | (simp [entryFrame, mkF, argsToLocals, Value.category]; done) | rfl
def Q_rm4_2 (Z : State) (a1 : Addr) (ar : Addr) (kb : ClassId) (f : Nat → Value) (tb : Int32) (h0 : Heap) (n0 : Nat) (v : Option Value) (h : Heap) (L : List Loc) : Prop := v = some (.int (tb &&& (255 : Int32))) ∧ Fr n0 L ∧ h = h0
set_option maxRecDepth 65536 in
set_option maxHeartbeats 40000000 in
theorem rm4_2 (l : Launch) (Z : State) (a0 : Array Value) (hw : ∀ d ∈ tables_1, d.before a0 Z = true) (ws : List Jvm.Cond) (a1 : Addr) (ar : Addr) (kb : ClassId) (f : Nat → Value) (tb : Int32) (h0 : Heap) (n0 : Nat) (Z0 : n0 ≤ h0.size) (V_a : Arf Z h0 ar kb .byte (129 : Int32) f) (F_bytes : Fld Z h0 a1 "com/example/mooring/mooring/Der" "bytes" "[B" (.ref ar)) (F_start : Fld Z h0 a1 "com/example/mooring/mooring/Der" "start" "I" (.int (0 : Int32))) (F_contentStart : Fld Z h0 a1 "com/example/mooring/mooring/Der" "contentStart" "I" (.int (2 : Int32))) (F_end : Fld Z h0 a1 "com/example/mooring/mooring/Der" "end" "I" (.int (129 : Int32))) (hf0 : f 0 = (.int tb)) :
    MetFree l (⟨"com/example/mooring/mooring/Der", "tag", "()I"⟩ : MethodName) (head1 (Jvm.Cond.code (⟨"com/example/mooring/mooring/Der", "tag", "()I"⟩ : MethodName) prog_2_method_3_code 1 (some .int) :: ws) ({ frames := 0, cells := 0, slots := 0, locals := 0 } : Room)) (fun a U => a = #[(.ref a1)] ∧ Z.Warmed39 U.vm ∧ U.heap = h0) (fun _ _ _ _ _ => True) (fun _ U o U' => ∃ v L, o = .returned v ∧ Q_rm4_2 Z a1 ar kb f tb h0 n0 v U'.heap L ∧ FrameEnd U o U' L ({ frames := 0, cells := 0, slots := 0, locals := 0 } : Room).cells ({ frames := 0, cells := 0, slots := 0, locals := 0 } : Room).slots) := by
  refine MetFree.of_bodySF (plainFor_of_name pn_103) hisR ?_
  intro p e s m args below meth c s₁ Bd hml0 hP hK
  obtain ⟨rfl, hZ, hh⟩ := hP
  have hx := Bd.exec
  have hby := Bd.bytes
  have hml : c.maxLocals = 1 := hml0
  have hown : s.vm.findClass "com/example/mooring/mooring/Der" = some m.cls := findClass_of_methodNamed Bd.named
  have hnm := (name_of_methodNamed Bd.named Bd.method).1
  have X0 : Stand p l e ({ frames := 0, cells := 0, slots := 0, locals := 0 } : Room) s m #[(.ref a1)] below meth c s₁ [] 0 0 := Stand.of_body Bd
  have e0 : s₁.heap = h0 := by rw [← hh, Bd.state]; rfl
  have N0 := Fr.nil n0
  show Go p e below (s₁.setTop (entryFrame m #[(.ref a1)] 1)) (fun o U' => ∃ v L, o = .returned v ∧ Q_rm4_2 Z a1 ar kb f tb h0 n0 v U'.heap L ∧ FrameEnd s o U' L ({ frames := 0, cells := 0, slots := 0, locals := 0 } : Room).cells ({ frames := 0, cells := 0, slots := 0, locals := 0 } : Room).slots)
  rw [ef_rm4_2]
  refine Gk.aloadN X0 hx (hb hby d4_0) rfl rfl ?_
  refine Gk.getF X0 hx hZ hown (host := "") (Or.inl (hw _ (List.mem_of_getElem? (i := 14) rfl))) Via.refl e0 F_bytes (hb hby d4_1) ?_
  intro T1 X1 e1
  refine Gk.aloadN X1 hx (hb hby d4_4) rfl rfl ?_
  refine Gk.getF X1 hx hZ hown (host := "") (Or.inl (hw _ (List.mem_of_getElem? (i := 16) rfl))) Via.refl e1 F_start (hb hby d4_5) ?_
  intro T2 X2 e2
  refine Gk.baloadB X2 hx hZ e2 V_a ⟨by decide, by decide⟩ (.int tb) hf0 (hb hby d4_8) ?_
  refine Gk.sipush X2 hx (hb hby d4_9) (255 : Int32) rfl ?_
  refine Gk.iand X2 hx (hb hby d4_12) _ rfl ?_
  refine Go.fin X2 (v := some (.int (tb &&& (255 : Int32)))) (fun h_ => by rw [Bd.returns] at h_; cases h_) Bd.notSynchronized (fun _ hr => retOut X2 hx Bd.returns rfl (Or.inl ⟨rfl, Or.inl rfl, _, rfl⟩) (hb hby d4_13) hr) (fun U' hU hF => ⟨_, _, rfl, ?_, hF.1, hF.2.1, hF.2.2.mono (by decide) (by decide)⟩)
  rw [hU, e2]
  exact ⟨(congrArg (fun z_ : Int32 => some (Value.int z_)) (show (tb &&& (255 : Int32)) = (tb &&& (255 : Int32)) from rfl)), N0, rfl⟩
theorem ef_rm5_2 (m : MethodId) (a1 : Addr) : entryFrame m #[(.ref a1)] 1 = mkF m 0 #[.val (.ref a1)] [] := by first | (simp [entryFrame, mkF, argsToLocals, Value.category]; done) | rfl
def Q_rm5_2 (Z : State) (a1 : Addr) (ar : Addr) (kb : ClassId) (f : Nat → Value) (h0 : Heap) (n0 : Nat) (v : Option Value) (h : Heap) (L : List Loc) : Prop := v = some (.ref h0.size) ∧ Fr n0 L ∧ Keep h0 h [] ∧ ∃ kr : ClassId, Arf Z h h0.size kr .byte (127 : Int32) (fun i => if 0 ≤ i ∧ i < 0 + 127 then f (2 + (i - 0)) else (.int (0 : Int32)))
set_option maxRecDepth 65536 in
set_option maxHeartbeats 40000000 in
theorem rm5_2 (l : Launch) (Z : State) (a0 : Array Value) (hw : ∀ d ∈ tables_1, d.before a0 Z = true) (ws : List Jvm.Cond) (a1 : Addr) (ar : Addr) (kb : ClassId) (f : Nat → Value) (h0 : Heap) (n0 : Nat) (Z0 : n0 ≤ h0.size) (V_a : Arf Z h0 ar kb .byte (129 : Int32) f) (F_bytes : Fld Z h0 a1 "com/example/mooring/mooring/Der" "bytes" "[B" (.ref ar)) (F_start : Fld Z h0 a1 "com/example/mooring/mooring/Der" "start" "I" (.int (0 : Int32))) (F_contentStart : Fld Z h0 a1 "com/example/mooring/mooring/Der" "contentStart" "I" (.int (2 : Int32))) (F_end : Fld Z h0 a1 "com/example/mooring/mooring/Der" "end" "I" (.int (129 : Int32))) :
    MetFree l (⟨"com/example/mooring/mooring/Der", "content", "()[B"⟩ : MethodName) (head1 (Jvm.Cond.code (⟨"com/example/mooring/mooring/Der", "content", "()[B"⟩ : MethodName) prog_2_method_4_code 1 (some (.array .byte)) :: ws) ({ frames := 3, cells := 1, slots := 127, locals := 70 } : Room)) (fun a U => a = #[(.ref a1)] ∧ Z.Warmed39 U.vm ∧ U.heap = h0) (fun _ _ _ _ _ => True) (fun _ U o U' => ∃ v L, o = .returned v ∧ Q_rm5_2 Z a1 ar kb f h0 n0 v U'.heap L ∧ FrameEnd U o U' L ({ frames := 3, cells := 1, slots := 127, locals := 70 } : Room).cells ({ frames := 3, cells := 1, slots := 127, locals := 70 } : Room).slots) := by
  refine MetFree.of_bodySF (plainFor_of_name pn_103) hisR ?_
  intro p e s m args below meth c s₁ Bd hml0 hP hK
  obtain ⟨rfl, hZ, hh⟩ := hP
  have hx := Bd.exec
  have hby := Bd.bytes
  have hml : c.maxLocals = 1 := hml0
  have hown : s.vm.findClass "com/example/mooring/mooring/Der" = some m.cls := findClass_of_methodNamed Bd.named
  have hnm := (name_of_methodNamed Bd.named Bd.method).1
  have X0 : Stand p l e ({ frames := 3, cells := 1, slots := 127, locals := 70 } : Room) s m #[(.ref a1)] below meth c s₁ [] 0 0 := Stand.of_body Bd
  have e0 : s₁.heap = h0 := by rw [← hh, Bd.state]; rfl
  have N0 := Fr.nil n0
  show Go p e below (s₁.setTop (entryFrame m #[(.ref a1)] 1)) (fun o U' => ∃ v L, o = .returned v ∧ Q_rm5_2 Z a1 ar kb f h0 n0 v U'.heap L ∧ FrameEnd s o U' L ({ frames := 3, cells := 1, slots := 127, locals := 70 } : Room).cells ({ frames := 3, cells := 1, slots := 127, locals := 70 } : Room).slots)
  rw [ef_rm5_2]
  refine Gk.aloadN X0 hx (hb hby d5_0) rfl rfl ?_
  refine Gk.getF X0 hx hZ hown (host := "") (Or.inl (hw _ (List.mem_of_getElem? (i := 14) rfl))) Via.refl e0 F_bytes (hb hby d5_1) ?_
  intro T1 X1 e1
  refine Gk.aloadN X1 hx (hb hby d5_4) rfl rfl ?_
  refine Gk.getF X1 hx hZ hown (host := "") (Or.inl (hw _ (List.mem_of_getElem? (i := 18) rfl))) Via.refl e1 F_contentStart (hb hby d5_5) ?_
  intro T2 X2 e2
  refine Gk.aloadN X2 hx (hb hby d5_8) rfl rfl ?_
  refine Gk.getF X2 hx hZ hown (host := "") (Or.inl (hw _ (List.mem_of_getElem? (i := 20) rfl))) Via.refl e2 F_end (hb hby d5_9) ?_
  intro T3 X3 e3
  refine Gk.callS (argsL := [(.ref ar), (.int (2 : Int32)), (.int (129 : Int32))]) X3 hx hZ hown (rm6c_2 l Z a0 hw [] ar kb f h0 n0 Z0 V_a) (hw _ (List.mem_of_getElem? (i := 32) rfl)) (hw _ (List.mem_of_getElem? (i := 33) rfl)) (hw _ (List.mem_of_getElem? (i := 34) rfl)) (hw _ (List.mem_of_getElem? (i := 35) rfl)) (by decide) e3 pd_2 rfl rfl (by decide) (Nat.le_of_ble_eq_true rfl) (by decide) (by decide) (by rw [hml]; rfl)  rfl (hb hby d5_12) ?_
  intro T4 L4 v4 X4 hQ4
  obtain ⟨rfl, N4q, K4, k4, A4⟩ := hQ4
  have N4 := Fr.app N0 N4q
  obtain ⟨b4, g4⟩ : ∃ z_, z_ = h0.size := ⟨_, rfl⟩
  rw [← g4] at A4 ⊢
  have g_b4 : n0 ≤ b4 := Nat.le_trans Z0 (Nat.le_of_eq g4.symm)
  have lt_b4 : b4 < T4.heap.size := A4.lt
  show Go p e below (T4.setTop (mkF m 15 #[.val (.ref a1)] [(.ref b4)])) _
  refine Go.fin X4 (v := some (.ref b4)) (fun h_ => by rw [Bd.returns] at h_; cases h_) Bd.notSynchronized (fun _ hr => retOut X4 hx Bd.returns rfl (Or.inr (Or.inr (Or.inr (Or.inr ⟨rfl, rfl, rfl⟩)))) (hb hby d5_15) hr) (fun U' hU hF => ⟨_, _, rfl, ?_, hF.1, hF.2.1, hF.2.2.mono (by decide) (by decide)⟩)
  rw [hU]
  exact ⟨(congrArg (fun z_ : Addr => some (Value.ref z_)) (show b4 = h0.size from g4)), N4, ((Keep.refl h0 []).trans K4 all0), _, (g4 ▸ A4)⟩
theorem ef_rm10_2 (m : MethodId) (a1 : Addr) : entryFrame m #[(.ref a1)] 1 = mkF m 0 #[.val (.ref a1)] [] := by first | (simp [entryFrame, mkF, argsToLocals, Value.category]; done) | rfl
def Q_rm10_2 (Z : State) (a1 : Addr) (ar : Addr) (kb : ClassId) (f : Nat → Value) (h0 : Heap) (n0 : Nat) (v : Option Value) (h : Heap) (L : List Loc) : Prop := v = some (.ref h0.size) ∧ Fr n0 L ∧ Keep h0 h [] ∧ ∃ kr : ClassId, Arf Z h h0.size kr .byte (129 : Int32) f
set_option maxRecDepth 65536 in
set_option maxHeartbeats 40000000 in
theorem rm10_2 (l : Launch) (Z : State) (a0 : Array Value) (hw : ∀ d ∈ tables_1, d.before a0 Z = true) (ws : List Jvm.Cond) (a1 : Addr) (ar : Addr) (kb : ClassId) (f : Nat → Value) (h0 : Heap) (n0 : Nat) (Z0 : n0 ≤ h0.size) (V_a : Arf Z h0 ar kb .byte (129 : Int32) f) (F_bytes : Fld Z h0 a1 "com/example/mooring/mooring/Der" "bytes" "[B" (.ref ar)) (F_start : Fld Z h0 a1 "com/example/mooring/mooring/Der" "start" "I" (.int (0 : Int32))) (F_contentStart : Fld Z h0 a1 "com/example/mooring/mooring/Der" "contentStart" "I" (.int (2 : Int32))) (F_end : Fld Z h0 a1 "com/example/mooring/mooring/Der" "end" "I" (.int (129 : Int32))) (E_a : Exa Z h0 ar "[B") :
    MetFree l (⟨"com/example/mooring/mooring/Der", "encoded", "()[B"⟩ : MethodName) (head1 (Jvm.Cond.code (⟨"com/example/mooring/mooring/Der", "encoded", "()[B"⟩ : MethodName) prog_2_method_5_code 1 (some (.array .byte)) :: ws) ({ frames := 2, cells := 1, slots := 129, locals := 28 } : Room)) (fun a U => a = #[(.ref a1)] ∧ Z.Warmed39 U.vm ∧ U.heap = h0) (fun _ _ _ _ _ => True) (fun _ U o U' => ∃ v L, o = .returned v ∧ Q_rm10_2 Z a1 ar kb f h0 n0 v U'.heap L ∧ FrameEnd U o U' L ({ frames := 2, cells := 1, slots := 129, locals := 28 } : Room).cells ({ frames := 2, cells := 1, slots := 129, locals := 28 } : Room).slots) := by
  refine MetFree.of_bodySF (plainFor_of_name pn_103) hisR ?_
  intro p e s m args below meth c s₁ Bd hml0 hP hK
  obtain ⟨rfl, hZ, hh⟩ := hP
  have hx := Bd.exec
  have hby := Bd.bytes
  have hml : c.maxLocals = 1 := hml0
  have hown : s.vm.findClass "com/example/mooring/mooring/Der" = some m.cls := findClass_of_methodNamed Bd.named
  have hnm := (name_of_methodNamed Bd.named Bd.method).1
  have X0 : Stand p l e ({ frames := 2, cells := 1, slots := 129, locals := 28 } : Room) s m #[(.ref a1)] below meth c s₁ [] 0 0 := Stand.of_body Bd
  have e0 : s₁.heap = h0 := by rw [← hh, Bd.state]; rfl
  have N0 := Fr.nil n0
  show Go p e below (s₁.setTop (entryFrame m #[(.ref a1)] 1)) (fun o U' => ∃ v L, o = .returned v ∧ Q_rm10_2 Z a1 ar kb f h0 n0 v U'.heap L ∧ FrameEnd s o U' L ({ frames := 2, cells := 1, slots := 129, locals := 28 } : Room).cells ({ frames := 2, cells := 1, slots := 129, locals := 28 } : Room).slots)
  rw [ef_rm10_2]
  refine Gk.aloadN X0 hx (hb hby d10_0) rfl rfl ?_
  refine Gk.getF X0 hx hZ hown (host := "") (Or.inl (hw _ (List.mem_of_getElem? (i := 14) rfl))) Via.refl e0 F_bytes (hb hby d10_1) ?_
  intro T1 X1 e1
  refine Gk.aloadN X1 hx (hb hby d10_4) rfl rfl ?_
  refine Gk.getF X1 hx hZ hown (host := "") (Or.inl (hw _ (List.mem_of_getElem? (i := 16) rfl))) Via.refl e1 F_start (hb hby d10_5) ?_
  intro T2 X2 e2
  refine Gk.aloadN X2 hx (hb hby d10_8) rfl rfl ?_
  refine Gk.getF X2 hx hZ hown (host := "") (Or.inl (hw _ (List.mem_of_getElem? (i := 20) rfl))) Via.refl e2 F_end (hb hby d10_9) ?_
  intro T3 X3 e3
  refine Gk.callS (argsL := [(.ref ar), (.int (0 : Int32)), (.int (129 : Int32))]) X3 hx hZ hown (rm6e_2 l Z a0 hw [] ar kb f h0 n0 Z0 V_a E_a) (hw _ (List.mem_of_getElem? (i := 32) rfl)) (hw _ (List.mem_of_getElem? (i := 33) rfl)) (hw _ (List.mem_of_getElem? (i := 34) rfl)) (hw _ (List.mem_of_getElem? (i := 35) rfl)) (by decide) e3 pd_2 rfl rfl (by decide) (Nat.le_of_ble_eq_true rfl) (by decide) (by decide) (by rw [hml]; rfl)  rfl (hb hby d10_12) ?_
  intro T4 L4 v4 X4 hQ4
  obtain ⟨rfl, N4q, K4, k4, A4⟩ := hQ4
  have N4 := Fr.app N0 N4q
  obtain ⟨b4, g4⟩ : ∃ z_, z_ = h0.size := ⟨_, rfl⟩
  rw [← g4] at A4 ⊢
  have g_b4 : n0 ≤ b4 := Nat.le_trans Z0 (Nat.le_of_eq g4.symm)
  have lt_b4 : b4 < T4.heap.size := A4.lt
  show Go p e below (T4.setTop (mkF m 15 #[.val (.ref a1)] [(.ref b4)])) _
  refine Go.fin X4 (v := some (.ref b4)) (fun h_ => by rw [Bd.returns] at h_; cases h_) Bd.notSynchronized (fun _ hr => retOut X4 hx Bd.returns rfl (Or.inr (Or.inr (Or.inr (Or.inr ⟨rfl, rfl, rfl⟩)))) (hb hby d10_15) hr) (fun U' hU hF => ⟨_, _, rfl, ?_, hF.1, hF.2.1, hF.2.2.mono (by decide) (by decide)⟩)
  rw [hU]
  exact ⟨(congrArg (fun z_ : Addr => some (Value.ref z_)) (show b4 = h0.size from g4)), N4, ((Keep.refl h0 []).trans K4 all0), _, (g4 ▸ A4)⟩
theorem ef_rm7_3 (m : MethodId) (a1 : Addr) : entryFrame m #[(.ref a1), (.int (3 : Int32)), (.int (131 : Int32))] 5 = mkF m 0 #[.val (.ref a1), .val (.int (3 : Int32)), .val (.int (131 : Int32)), .unset, .unset] [] := by first | (simp [entryFrame, mkF, argsToLocals, Value.category]; done) | rfl
def Q_rm7_3 (Z : State) (a1 : Addr) (kb : ClassId) (f : Nat → Value) (h0 : Heap) (n0 : Nat) (v : Option Value) (h : Heap) (L : List Loc) : Prop := v = some (.ref h0.size) ∧ Fr n0 L ∧ Keep h0 h [] ∧ ∃ kr : ClassId, Arf Z h h0.size kr .byte (128 : Int32) (fun i => if 0 ≤ i ∧ i < 0 + 128 then f (3 + (i - 0)) else (.int (0 : Int32)))
set_option maxRecDepth 65536 in
set_option maxHeartbeats 40000000 in
theorem rm7_3 (l : Launch) (Z : State) (a0 : Array Value) (hw : ∀ d ∈ tables_1, d.before a0 Z = true) (ws : List Jvm.Cond) (a1 : Addr) (kb : ClassId) (f : Nat → Value) (h0 : Heap) (n0 : Nat) (Z0 : n0 ≤ h0.size) (V_a : Arf Z h0 a1 kb .byte (131 : Int32) f) :
    MetFree l (⟨"java/util/Arrays", "copyOfRangeByte", "([BII)[B"⟩ : MethodName) (head1 (Jvm.Cond.code (⟨"java/util/Arrays", "copyOfRangeByte", "([BII)[B"⟩ : MethodName) jdk_65_method_133_code 5 (some (.array .byte)) :: ws) ({ frames := 1, cells := 1, slots := 128, locals := 40 } : Room)) (fun a U => a = #[(.ref a1), (.int (3 : Int32)), (.int (131 : Int32))] ∧ Z.Warmed39 U.vm ∧ U.heap = h0) (fun _ _ _ _ _ => True) (fun _ U o U' => ∃ v L, o = .returned v ∧ Q_rm7_3 Z a1 kb f h0 n0 v U'.heap L ∧ FrameEnd U o U' L ({ frames := 1, cells := 1, slots := 128, locals := 40 } : Room).cells ({ frames := 1, cells := 1, slots := 128, locals := 40 } : Room).slots) := by
  refine MetFree.of_bodySF (plainFor_of_name pn_11) hisR ?_
  intro p e s m args below meth c s₁ Bd hml0 hP hK
  obtain ⟨rfl, hZ, hh⟩ := hP
  have hx := Bd.exec
  have hby := Bd.bytes
  have hml : c.maxLocals = 5 := hml0
  have hown : s.vm.findClass "java/util/Arrays" = some m.cls := findClass_of_methodNamed Bd.named
  have hnm := (name_of_methodNamed Bd.named Bd.method).1
  have X0 : Stand p l e ({ frames := 1, cells := 1, slots := 128, locals := 40 } : Room) s m #[(.ref a1), (.int (3 : Int32)), (.int (131 : Int32))] below meth c s₁ [] 0 0 := Stand.of_body Bd
  have e0 : s₁.heap = h0 := by rw [← hh, Bd.state]; rfl
  have N0 := Fr.nil n0
  show Go p e below (s₁.setTop (entryFrame m #[(.ref a1), (.int (3 : Int32)), (.int (131 : Int32))] 5)) (fun o U' => ∃ v L, o = .returned v ∧ Q_rm7_3 Z a1 kb f h0 n0 v U'.heap L ∧ FrameEnd s o U' L ({ frames := 1, cells := 1, slots := 128, locals := 40 } : Room).cells ({ frames := 1, cells := 1, slots := 128, locals := 40 } : Room).slots)
  rw [ef_rm7_3]
  refine Gk.iloadN X0 hx (hb hby d7_0) rfl ?_
  refine Gk.iloadN X0 hx (hb hby d7_1) rfl ?_
  refine Gk.callS (argsL := [(.int (3 : Int32)), (.int (131 : Int32))]) X0 hx hZ hown (rm8 l Z a0 hw [] (3 : Int32) (131 : Int32) h0 n0 Z0 (by decide)) (hw _ (List.mem_of_getElem? (i := 39) rfl)) (hw _ (List.mem_of_getElem? (i := 40) rfl)) (hw _ (List.mem_of_getElem? (i := 34) rfl)) (hw _ (List.mem_of_getElem? (i := 41) rfl)) (by decide) e0 pd_0 rfl rfl (by decide) (Nat.le_of_ble_eq_true rfl) (by decide) (by decide) (by rw [hml]; rfl)  rfl (hb hby d7_2) ?_
  intro T1 L1 v1 X1 hQ1
  obtain ⟨rfl, N1q, e1⟩ := hQ1
  have N1 := Fr.app N0 N1q
  show Go p e below (T1.setTop (mkF m 5 #[.val (.ref a1), .val (.int (3 : Int32)), .val (.int (131 : Int32)), .unset, .unset] [])) _
  refine Gk.iloadN X1 hx (hb hby d7_5) rfl ?_
  refine Gk.iloadN X1 hx (hb hby d7_6) rfl ?_
  refine Gk.isub X1 hx (hb hby d7_7) (128 : Int32) (by decide) ?_
  refine Gk.istoreN X1 hx (hb hby d7_8) #[.val (.ref a1), .val (.int (3 : Int32)), .val (.int (131 : Int32)), .val (.int (128 : Int32)), .unset] rfl ?_
  refine Gk.iloadN X1 hx (hb hby d7_9) rfl ?_
  refine Gk.newP X1 hx hZ (hw _ (List.mem_of_getElem? (i := 1) rfl)) e1 (hb hby d7_10) (by decide) (cap := 128) (by decide) (by decide) (by decide) (by decide) rfl ?_
  intro T2 h2 b2 k2 X2 e2 E2 g2 A2 B2
  have g_b2 : n0 ≤ b2 := Nat.le_trans Z0 (Nat.le_of_eq g2.symm)
  have V_b2 : Arf Z h2 b2 k2 .byte (128 : Int32) (fun _ => (.int (0 : Int32))) := A2
  have lt_b2 := V_b2.lt
  refine Gk.astore X2 hx (hb hby d7_12) rfl #[.val (.ref a1), .val (.int (3 : Int32)), .val (.int (131 : Int32)), .val (.int (128 : Int32)), .val (.ref b2)] rfl ?_
  refine Gk.aloadN X2 hx (hb hby d7_14) rfl rfl ?_
  refine Gk.iloadN X2 hx (hb hby d7_15) rfl ?_
  refine Gk.aload X2 hx (hb hby d7_16) rfl rfl ?_
  refine Gk.iconst X2 hx (hb hby d7_18) (0 : Int32) rfl ?_
  refine Gk.aloadN X2 hx (hb hby d7_19) rfl rfl ?_
  have H3 := (V_a.ext E2)
  refine Gk.alen X2 hx hZ e2 H3 (hb hby d7_20) ?_
  refine Gk.iloadN X2 hx (hb hby d7_21) rfl ?_
  refine Gk.isub X2 hx (hb hby d7_22) (128 : Int32) (by decide) ?_
  refine Gk.iloadN X2 hx (hb hby d7_23) rfl ?_
  refine Gk.callS (argsL := [(.int (128 : Int32)), (.int (128 : Int32))]) X2 hx hZ hown (rm9 l Z a0 hw [] (128 : Int32) (128 : Int32) h2 n0 (Nat.le_trans Z0 E2.1)) (hw _ (List.mem_of_getElem? (i := 42) rfl)) (hw _ (List.mem_of_getElem? (i := 43) rfl)) (hw _ (List.mem_of_getElem? (i := 44) rfl)) (hw _ (List.mem_of_getElem? (i := 45) rfl)) (by decide) e2 pd_1 rfl rfl (by decide) (Nat.le_of_ble_eq_true rfl) (by decide) (by decide) (by rw [hml]; rfl)  rfl (hb hby d7_24) ?_
  intro T4 L4 v4 X4 hQ4
  obtain ⟨rfl, N4q, e4⟩ := hQ4
  have N4 := Fr.app N1 N4q
  show Go p e below (T4.setTop (mkF m 27 #[.val (.ref a1), .val (.int (3 : Int32)), .val (.int (131 : Int32)), .val (.int (128 : Int32)), .val (.ref b2)] [(.int (if (128 : Int32) < (128 : Int32) then (128 : Int32) else (128 : Int32))), (.int (0 : Int32)), (.ref b2), (.int (3 : Int32)), (.ref a1)])) _
  rw [show (if (128 : Int32) < (128 : Int32) then (128 : Int32) else (128 : Int32)) = (128 : Int32) from by decide]
  refine Gk.copy X4 hx hZ hown (hw _ (List.mem_of_getElem? (i := 46) rfl)) (hw _ (List.mem_of_getElem? (i := 49) rfl)) (hw _ (List.mem_of_getElem? (i := 47) rfl)) (hw _ (List.mem_of_getElem? (i := 48) rfl)) e4 H3 V_b2 rfl (by decide) (by decide) (by decide) (by decide) (by decide) N4 g_b2 (fun i => if 0 ≤ i ∧ i < 0 + 128 then f (3 + (i - 0)) else (fun _ => (.int (0 : Int32))) i) (fun _ _ => rfl) (by rw [hml]; rfl) (hb hby d7_27) (by decide) (Nat.le_of_ble_eq_true rfl) ?_
  intro T5 h5 L5 X5 e5 N5 K5 V5
  refine Gk.aload X5 hx (hb hby d7_30) rfl rfl ?_
  refine Go.fin X5 (v := some (.ref b2)) (fun h_ => by rw [Bd.returns] at h_; cases h_) Bd.notSynchronized (fun _ hr => retOut X5 hx Bd.returns rfl (Or.inr (Or.inr (Or.inr (Or.inr ⟨rfl, rfl, rfl⟩)))) (hb hby d7_32) hr) (fun U' hU hF => ⟨_, _, rfl, ?_, hF.1, hF.2.1, hF.2.2.mono (by decide) (by decide)⟩)
  rw [hU, e5]
  exact ⟨(congrArg (fun z_ : Addr => some (Value.ref z_)) (show b2 = h0.size from g2)), N5, (((Keep.refl h0 []).ext E2).trans K5 (allS (Or.inr (Nat.le_trans (Nat.le_refl _) (Nat.le_of_eq g2.symm))) all0)), _, (g2 ▸ V5)⟩
theorem ef_rm6c_3 (m : MethodId) (a1 : Addr) : entryFrame m #[(.ref a1), (.int (3 : Int32)), (.int (131 : Int32))] 3 = mkF m 0 #[.val (.ref a1), .val (.int (3 : Int32)), .val (.int (131 : Int32))] [] := by first | (simp [entryFrame, mkF, argsToLocals, Value.category]; done) | rfl
def Q_rm6c_3 (Z : State) (a1 : Addr) (kb : ClassId) (f : Nat → Value) (h0 : Heap) (n0 : Nat) (v : Option Value) (h : Heap) (L : List Loc) : Prop := v = some (.ref h0.size) ∧ Fr n0 L ∧ Keep h0 h [] ∧ ∃ kr : ClassId, Arf Z h h0.size kr .byte (128 : Int32) (fun i => if 0 ≤ i ∧ i < 0 + 128 then f (3 + (i - 0)) else (.int (0 : Int32)))
set_option maxRecDepth 65536 in
set_option maxHeartbeats 40000000 in
theorem rm6c_3 (l : Launch) (Z : State) (a0 : Array Value) (hw : ∀ d ∈ tables_1, d.before a0 Z = true) (ws : List Jvm.Cond) (a1 : Addr) (kb : ClassId) (f : Nat → Value) (h0 : Heap) (n0 : Nat) (Z0 : n0 ≤ h0.size) (V_a : Arf Z h0 a1 kb .byte (131 : Int32) f) :
    MetFree l (⟨"java/util/Arrays", "copyOfRange", "([BII)[B"⟩ : MethodName) (head1 (Jvm.Cond.code (⟨"java/util/Arrays", "copyOfRange", "([BII)[B"⟩ : MethodName) jdk_65_method_132_code 3 (some (.array .byte)) :: ws) ({ frames := 2, cells := 1, slots := 128, locals := 56 } : Room)) (fun a U => a = #[(.ref a1), (.int (3 : Int32)), (.int (131 : Int32))] ∧ Z.Warmed39 U.vm ∧ U.heap = h0) (fun _ _ _ _ _ => True) (fun _ U o U' => ∃ v L, o = .returned v ∧ Q_rm6c_3 Z a1 kb f h0 n0 v U'.heap L ∧ FrameEnd U o U' L ({ frames := 2, cells := 1, slots := 128, locals := 56 } : Room).cells ({ frames := 2, cells := 1, slots := 128, locals := 56 } : Room).slots) := by
  refine MetFree.of_bodySF (plainFor_of_name pn_11) hisR ?_
  intro p e s m args below meth c s₁ Bd hml0 hP hK
  obtain ⟨rfl, hZ, hh⟩ := hP
  have hx := Bd.exec
  have hby := Bd.bytes
  have hml : c.maxLocals = 3 := hml0
  have hown : s.vm.findClass "java/util/Arrays" = some m.cls := findClass_of_methodNamed Bd.named
  have hnm := (name_of_methodNamed Bd.named Bd.method).1
  have X0 : Stand p l e ({ frames := 2, cells := 1, slots := 128, locals := 56 } : Room) s m #[(.ref a1), (.int (3 : Int32)), (.int (131 : Int32))] below meth c s₁ [] 0 0 := Stand.of_body Bd
  have e0 : s₁.heap = h0 := by rw [← hh, Bd.state]; rfl
  have N0 := Fr.nil n0
  show Go p e below (s₁.setTop (entryFrame m #[(.ref a1), (.int (3 : Int32)), (.int (131 : Int32))] 3)) (fun o U' => ∃ v L, o = .returned v ∧ Q_rm6c_3 Z a1 kb f h0 n0 v U'.heap L ∧ FrameEnd s o U' L ({ frames := 2, cells := 1, slots := 128, locals := 56 } : Room).cells ({ frames := 2, cells := 1, slots := 128, locals := 56 } : Room).slots)
  rw [ef_rm6c_3]
  refine Gk.iloadN X0 hx (hb hby d6_0) rfl ?_
  refine Gk.ifYes X0 hx (hb hby d6_1) (feq (by decide : ¬ ((3 : Int32) = (0 : Int32)))).2 10 (by decide) (by decide) ?_
  refine Gk.aloadN X0 hx (hb hby d6_10) rfl rfl ?_
  refine Gk.iloadN X0 hx (hb hby d6_11) rfl ?_
  refine Gk.iloadN X0 hx (hb hby d6_12) rfl ?_
  refine Gk.callS (argsL := [(.ref a1), (.int (3 : Int32)), (.int (131 : Int32))]) X0 hx hZ hown (rm7_3 l Z a0 hw [] a1 kb f h0 n0 Z0 V_a) (hw _ (List.mem_of_getElem? (i := 36) rfl)) (hw _ (List.mem_of_getElem? (i := 37) rfl)) (hw _ (List.mem_of_getElem? (i := 34) rfl)) (hw _ (List.mem_of_getElem? (i := 38) rfl)) (by decide) e0 pd_2 rfl rfl (by decide) (Nat.le_of_ble_eq_true rfl) (by decide) (by decide) (by rw [hml]; rfl)  rfl (hb hby d6_13) ?_
  intro T1 L1 v1 X1 hQ1
  obtain ⟨rfl, N1q, K1, k1, A1⟩ := hQ1
  have N1 := Fr.app N0 N1q
  obtain ⟨b1, g1⟩ : ∃ z_, z_ = h0.size := ⟨_, rfl⟩
  rw [← g1] at A1 ⊢
  have g_b1 : n0 ≤ b1 := Nat.le_trans Z0 (Nat.le_of_eq g1.symm)
  have lt_b1 : b1 < T1.heap.size := A1.lt
  show Go p e below (T1.setTop (mkF m 16 #[.val (.ref a1), .val (.int (3 : Int32)), .val (.int (131 : Int32))] [(.ref b1)])) _
  refine Go.fin X1 (v := some (.ref b1)) (fun h_ => by rw [Bd.returns] at h_; cases h_) Bd.notSynchronized (fun _ hr => retOut X1 hx Bd.returns rfl (Or.inr (Or.inr (Or.inr (Or.inr ⟨rfl, rfl, rfl⟩)))) (hb hby d6_16) hr) (fun U' hU hF => ⟨_, _, rfl, ?_, hF.1, hF.2.1, hF.2.2.mono (by decide) (by decide)⟩)
  rw [hU]
  exact ⟨(congrArg (fun z_ : Addr => some (Value.ref z_)) (show b1 = h0.size from g1)), N1, ((Keep.refl h0 []).trans K1 all0), _, (g1 ▸ A1)⟩
theorem ef_rm6e_3 (m : MethodId) (a1 : Addr) : entryFrame m #[(.ref a1), (.int (0 : Int32)), (.int (131 : Int32))] 3 = mkF m 0 #[.val (.ref a1), .val (.int (0 : Int32)), .val (.int (131 : Int32))] [] := by first | (simp [entryFrame, mkF, argsToLocals, Value.category]; done) | rfl
def Q_rm6e_3 (Z : State) (a1 : Addr) (kb : ClassId) (f : Nat → Value) (h0 : Heap) (n0 : Nat) (v : Option Value) (h : Heap) (L : List Loc) : Prop := v = some (.ref h0.size) ∧ Fr n0 L ∧ Keep h0 h [] ∧ ∃ kr : ClassId, Arf Z h h0.size kr .byte (131 : Int32) f
set_option maxRecDepth 65536 in
set_option maxHeartbeats 40000000 in
theorem rm6e_3 (l : Launch) (Z : State) (a0 : Array Value) (hw : ∀ d ∈ tables_1, d.before a0 Z = true) (ws : List Jvm.Cond) (a1 : Addr) (kb : ClassId) (f : Nat → Value) (h0 : Heap) (n0 : Nat) (Z0 : n0 ≤ h0.size) (V_a : Arf Z h0 a1 kb .byte (131 : Int32) f) (E_a : Exa Z h0 a1 "[B") :
    MetFree l (⟨"java/util/Arrays", "copyOfRange", "([BII)[B"⟩ : MethodName) (head1 (Jvm.Cond.code (⟨"java/util/Arrays", "copyOfRange", "([BII)[B"⟩ : MethodName) jdk_65_method_132_code 3 (some (.array .byte)) :: ws) ({ frames := 1, cells := 1, slots := 131, locals := 14 } : Room)) (fun a U => a = #[(.ref a1), (.int (0 : Int32)), (.int (131 : Int32))] ∧ Z.Warmed39 U.vm ∧ U.heap = h0) (fun _ _ _ _ _ => True) (fun _ U o U' => ∃ v L, o = .returned v ∧ Q_rm6e_3 Z a1 kb f h0 n0 v U'.heap L ∧ FrameEnd U o U' L ({ frames := 1, cells := 1, slots := 131, locals := 14 } : Room).cells ({ frames := 1, cells := 1, slots := 131, locals := 14 } : Room).slots) := by
  refine MetFree.of_bodySF (plainFor_of_name pn_11) hisR ?_
  intro p e s m args below meth c s₁ Bd hml0 hP hK
  obtain ⟨rfl, hZ, hh⟩ := hP
  have hx := Bd.exec
  have hby := Bd.bytes
  have hml : c.maxLocals = 3 := hml0
  have hown : s.vm.findClass "java/util/Arrays" = some m.cls := findClass_of_methodNamed Bd.named
  have hnm := (name_of_methodNamed Bd.named Bd.method).1
  have X0 : Stand p l e ({ frames := 1, cells := 1, slots := 131, locals := 14 } : Room) s m #[(.ref a1), (.int (0 : Int32)), (.int (131 : Int32))] below meth c s₁ [] 0 0 := Stand.of_body Bd
  have e0 : s₁.heap = h0 := by rw [← hh, Bd.state]; rfl
  have N0 := Fr.nil n0
  show Go p e below (s₁.setTop (entryFrame m #[(.ref a1), (.int (0 : Int32)), (.int (131 : Int32))] 3)) (fun o U' => ∃ v L, o = .returned v ∧ Q_rm6e_3 Z a1 kb f h0 n0 v U'.heap L ∧ FrameEnd s o U' L ({ frames := 1, cells := 1, slots := 131, locals := 14 } : Room).cells ({ frames := 1, cells := 1, slots := 131, locals := 14 } : Room).slots)
  rw [ef_rm6e_3]
  refine Gk.iloadN X0 hx (hb hby d6_0) rfl ?_
  refine Gk.ifNo X0 hx (hb hby d6_1) (teq (by decide : (0 : Int32) = (0 : Int32))).2 ?_
  refine Gk.iloadN X0 hx (hb hby d6_4) rfl ?_
  refine Gk.aloadN X0 hx (hb hby d6_5) rfl rfl ?_
  refine Gk.alen X0 hx hZ e0 V_a (hb hby d6_6) ?_
  refine Gk.icmpYes X0 hx (hb hby d6_7) (teq (by decide : (131 : Int32) = (131 : Int32))).1 17 (by decide) (by decide) ?_
  refine Gk.aloadN X0 hx (hb hby d6_17) rfl rfl ?_
  refine Gk.clone X0 hx hZ hown (hw _ (List.mem_of_getElem? (i := 55) rfl)) (hw _ (List.mem_of_getElem? (i := 56) rfl)) (hw _ (List.mem_of_getElem? (i := 60) rfl)) (hw _ (List.mem_of_getElem? (i := 58) rfl)) (hw _ (List.mem_of_getElem? (i := 59) rfl)) (hw _ (List.mem_of_getElem? (i := 61) rfl)) e0 V_a E_a (by rw [hml]; rfl) (hb hby d6_18) (by decide) (cap := 131) (Nat.le_of_ble_eq_true rfl) (by decide) (by decide) (by decide) ?_
  intro T1 h1 b1 X1 e1 E1 g1 V_b1 B1
  have g_b1 : n0 ≤ b1 := Nat.le_trans Z0 (Nat.le_of_eq g1.symm)
  have lt_b1 := V_b1.lt
  refine Gk.castY X1 hx hZ hown (hw _ (List.mem_of_getElem? (i := 62) rfl)) e1 (Ins.self B1) (hb hby d6_21) ?_
  intro T2 X2 e2
  refine Go.fin X2 (v := some (.ref b1)) (fun h_ => by rw [Bd.returns] at h_; cases h_) Bd.notSynchronized (fun _ hr => retOut X2 hx Bd.returns rfl (Or.inr (Or.inr (Or.inr (Or.inr ⟨rfl, rfl, rfl⟩)))) (hb hby d6_24) hr) (fun U' hU hF => ⟨_, _, rfl, ?_, hF.1, hF.2.1, hF.2.2.mono (by decide) (by decide)⟩)
  rw [hU, e2]
  exact ⟨(congrArg (fun z_ : Addr => some (Value.ref z_)) (show b1 = h0.size from g1)), N0, ((Keep.refl h0 []).ext E1), _, (g1 ▸ V_b1)⟩
theorem d2_68 : decode prog_2_method_1_code 68 = .ok (.iload 4, 2) := by decide +kernel
theorem d2_70 : decode prog_2_method_1_code 70 = .ok (.sipush 128, 3) := by decide +kernel
theorem d2_73 : decode prog_2_method_1_code 73 = .ok (.isub, 1) := by decide +kernel
theorem d2_74 : decode prog_2_method_1_code 74 = .ok (.istore 6, 2) := by decide +kernel
theorem d2_76 : decode prog_2_method_1_code 76 = .ok (.iload 6, 2) := by decide +kernel
theorem d2_78 : decode prog_2_method_1_code 78 = .ok (.iconst 3, 1) := by decide +kernel
theorem d2_79 : decode prog_2_method_1_code 79 = .ok (.if_icmp .gt 13, 3) := by decide +kernel
theorem d2_82 : decode prog_2_method_1_code 82 = .ok (.iload_n 3, 1) := by decide +kernel
theorem d2_83 : decode prog_2_method_1_code 83 = .ok (.iload_n 2, 1) := by decide +kernel
theorem d2_84 : decode prog_2_method_1_code 84 = .ok (.isub, 1) := by decide +kernel
theorem d2_85 : decode prog_2_method_1_code 85 = .ok (.iconst 2, 1) := by decide +kernel
theorem d2_86 : decode prog_2_method_1_code 86 = .ok (.iload 6, 2) := by decide +kernel
theorem d2_88 : decode prog_2_method_1_code 88 = .ok (.iadd, 1) := by decide +kernel
theorem d2_89 : decode prog_2_method_1_code 89 = .ok (.if_icmp .ge 13, 3) := by decide +kernel
theorem d2_102 : decode prog_2_method_1_code 102 = .ok (.iconst 0, 1) := by decide +kernel
theorem d2_103 : decode prog_2_method_1_code 103 = .ok (.istore 5, 2) := by decide +kernel
theorem d2_105 : decode prog_2_method_1_code 105 = .ok (.iconst 0, 1) := by decide +kernel
theorem d2_106 : decode prog_2_method_1_code 106 = .ok (.istore 7, 2) := by decide +kernel
theorem d2_108 : decode prog_2_method_1_code 108 = .ok (.iload 7, 2) := by decide +kernel
theorem d2_110 : decode prog_2_method_1_code 110 = .ok (.iload 6, 2) := by decide +kernel
theorem d2_112 : decode prog_2_method_1_code 112 = .ok (.if_icmp .ge 29, 3) := by decide +kernel
theorem d2_115 : decode prog_2_method_1_code 115 = .ok (.iload 5, 2) := by decide +kernel
theorem d2_117 : decode prog_2_method_1_code 117 = .ok (.bipush 8, 2) := by decide +kernel
theorem d2_119 : decode prog_2_method_1_code 119 = .ok (.ishl, 1) := by decide +kernel
theorem d2_120 : decode prog_2_method_1_code 120 = .ok (.aload_n 1, 1) := by decide +kernel
theorem d2_121 : decode prog_2_method_1_code 121 = .ok (.iload_n 2, 1) := by decide +kernel
theorem d2_122 : decode prog_2_method_1_code 122 = .ok (.iconst 2, 1) := by decide +kernel
theorem d2_123 : decode prog_2_method_1_code 123 = .ok (.iadd, 1) := by decide +kernel
theorem d2_124 : decode prog_2_method_1_code 124 = .ok (.iload 7, 2) := by decide +kernel
theorem d2_126 : decode prog_2_method_1_code 126 = .ok (.iadd, 1) := by decide +kernel
theorem d2_127 : decode prog_2_method_1_code 127 = .ok (.baload, 1) := by decide +kernel
theorem d2_128 : decode prog_2_method_1_code 128 = .ok (.sipush 255, 3) := by decide +kernel
theorem d2_131 : decode prog_2_method_1_code 131 = .ok (.iand, 1) := by decide +kernel
theorem d2_132 : decode prog_2_method_1_code 132 = .ok (.ior, 1) := by decide +kernel
theorem d2_133 : decode prog_2_method_1_code 133 = .ok (.istore 5, 2) := by decide +kernel
theorem d2_135 : decode prog_2_method_1_code 135 = .ok (.iinc 7 1, 3) := by decide +kernel
theorem d2_138 : decode prog_2_method_1_code 138 = .ok (.goto (-30), 3) := by decide +kernel
theorem d2_141 : decode prog_2_method_1_code 141 = .ok (.iload 5, 2) := by decide +kernel
theorem d2_143 : decode prog_2_method_1_code 143 = .ok (.sipush 128, 3) := by decide +kernel
theorem d2_146 : decode prog_2_method_1_code 146 = .ok (.if_icmp .lt 15, 3) := by decide +kernel
theorem d2_149 : decode prog_2_method_1_code 149 = .ok (.aload_n 1, 1) := by decide +kernel
theorem d2_150 : decode prog_2_method_1_code 150 = .ok (.iload_n 2, 1) := by decide +kernel
theorem d2_151 : decode prog_2_method_1_code 151 = .ok (.iconst 2, 1) := by decide +kernel
theorem d2_152 : decode prog_2_method_1_code 152 = .ok (.iadd, 1) := by decide +kernel
theorem d2_153 : decode prog_2_method_1_code 153 = .ok (.baload, 1) := by decide +kernel
theorem d2_154 : decode prog_2_method_1_code 154 = .ok (.sipush 255, 3) := by decide +kernel
theorem d2_157 : decode prog_2_method_1_code 157 = .ok (.iand, 1) := by decide +kernel
theorem d2_158 : decode prog_2_method_1_code 158 = .ok (.ifCond .ne 13, 3) := by decide +kernel
theorem ef_rm2_3 (m : MethodId) (a1 : Addr) (a2 : Addr) : entryFrame m #[(.ref a1), (.ref a2), (.int (0 : Int32)), (.int (131 : Int32))] 8 = mkF m 0 #[.val (.ref a1), .val (.ref a2), .val (.int (0 : Int32)), .val (.int (131 : Int32)), .unset, .unset, .unset, .unset] [] := by first | (simp [entryFrame, mkF, argsToLocals, Value.category]; done) | rfl
def Q_rm2_3 (Z : State) (a1 : Addr) (a2 : Addr) (kb : ClassId) (f : Nat → Value) (tb : Int32) (u_bytes_a1 : Value) (u_start_a1 : Value) (u_contentStart_a1 : Value) (u_end_a1 : Value) (h0 : Heap) (n0 : Nat) (v : Option Value) (h : Heap) (L : List Loc) : Prop := v = none ∧ Fr n0 L ∧ Keep h0 h [a1] ∧ Fld Z h a1 "com/example/mooring/mooring/Der" "bytes" "[B" (.ref a2) ∧ Fld Z h a1 "com/example/mooring/mooring/Der" "start" "I" (.int (0 : Int32)) ∧ Fld Z h a1 "com/example/mooring/mooring/Der" "contentStart" "I" (.int (3 : Int32)) ∧ Fld Z h a1 "com/example/mooring/mooring/Der" "end" "I" (.int (131 : Int32))
set_option maxRecDepth 65536 in
set_option maxHeartbeats 40000000 in
theorem rm2_3 (l : Launch) (Z : State) (a0 : Array Value) (hw : ∀ d ∈ tables_1, d.before a0 Z = true) (ws : List Jvm.Cond) (a1 : Addr) (a2 : Addr) (kb : ClassId) (f : Nat → Value) (tb : Int32) (u_bytes_a1 : Value) (u_start_a1 : Value) (u_contentStart_a1 : Value) (u_end_a1 : Value) (h0 : Heap) (n0 : Nat) (Z0 : n0 ≤ h0.size) (E_a1 : Exa Z h0 a1 "com/example/mooring/mooring/Der") (V_a : Arf Z h0 a2 kb .byte (131 : Int32) f) (hf0 : f 0 = (.int tb)) (hf1 : f 1 = (.int (-127 : Int32))) (hf2 : f 2 = (.int (-128 : Int32))) (htb : ¬ ((tb &&& (31 : Int32)) = (31 : Int32))) (hne : a1 ≠ a2) (F_bytes_a1 : Fld Z h0 a1 "com/example/mooring/mooring/Der" "bytes" "[B" u_bytes_a1) (g_a1 : n0 ≤ a1) (F_start_a1 : Fld Z h0 a1 "com/example/mooring/mooring/Der" "start" "I" u_start_a1) (F_contentStart_a1 : Fld Z h0 a1 "com/example/mooring/mooring/Der" "contentStart" "I" u_contentStart_a1) (F_end_a1 : Fld Z h0 a1 "com/example/mooring/mooring/Der" "end" "I" u_end_a1) :
    MetFree l (⟨"com/example/mooring/mooring/Der", "<init>", "([BII)V"⟩ : MethodName) (head1 (Jvm.Cond.code (⟨"com/example/mooring/mooring/Der", "<init>", "([BII)V"⟩ : MethodName) prog_2_method_1_code 8 none :: ws) ({ frames := 1, cells := 0, slots := 0, locals := 12 } : Room)) (fun a U => a = #[(.ref a1), (.ref a2), (.int (0 : Int32)), (.int (131 : Int32))] ∧ Z.Warmed39 U.vm ∧ U.heap = h0) (fun _ _ _ _ _ => True) (fun _ U o U' => ∃ v L, o = .returned v ∧ Q_rm2_3 Z a1 a2 kb f tb u_bytes_a1 u_start_a1 u_contentStart_a1 u_end_a1 h0 n0 v U'.heap L ∧ FrameEnd U o U' L ({ frames := 1, cells := 0, slots := 0, locals := 12 } : Room).cells ({ frames := 1, cells := 0, slots := 0, locals := 12 } : Room).slots) := by
  refine MetFree.of_bodySF (plainFor_of_name pn_103) hisR ?_
  intro p e s m args below meth c s₁ Bd hml0 hP hK
  obtain ⟨rfl, hZ, hh⟩ := hP
  have hx := Bd.exec
  have hby := Bd.bytes
  have hml : c.maxLocals = 8 := hml0
  have hown : s.vm.findClass "com/example/mooring/mooring/Der" = some m.cls := findClass_of_methodNamed Bd.named
  have hnm := (name_of_methodNamed Bd.named Bd.method).1
  have X0 : Stand p l e ({ frames := 1, cells := 0, slots := 0, locals := 12 } : Room) s m #[(.ref a1), (.ref a2), (.int (0 : Int32)), (.int (131 : Int32))] below meth c s₁ [] 0 0 := Stand.of_body Bd
  have e0 : s₁.heap = h0 := by rw [← hh, Bd.state]; rfl
  have N0 := Fr.nil n0
  show Go p e below (s₁.setTop (entryFrame m #[(.ref a1), (.ref a2), (.int (0 : Int32)), (.int (131 : Int32))] 8)) (fun o U' => ∃ v L, o = .returned v ∧ Q_rm2_3 Z a1 a2 kb f tb u_bytes_a1 u_start_a1 u_contentStart_a1 u_end_a1 h0 n0 v U'.heap L ∧ FrameEnd s o U' L ({ frames := 1, cells := 0, slots := 0, locals := 12 } : Room).cells ({ frames := 1, cells := 0, slots := 0, locals := 12 } : Room).slots)
  rw [ef_rm2_3]
  refine Gk.aloadN X0 hx (hb hby d2_0) rfl rfl ?_
  refine Gk.initO X0 hx hZ hown (hw _ (List.mem_of_getElem? (i := 11) rfl)) (hw _ (List.mem_of_getElem? (i := 12) rfl)) (hw _ (List.mem_of_getElem? (i := 13) rfl)) e0 (by rw [hml]; rfl) (hb hby d2_1) (by decide) (Nat.le_of_ble_eq_true rfl) ?_
  intro T1 X1 e1
  refine Gk.iloadN X1 hx (hb hby d2_4) rfl ?_
  refine Gk.iloadN X1 hx (hb hby d2_5) rfl ?_
  refine Gk.isub X1 hx (hb hby d2_6) (131 : Int32) (by decide) ?_
  refine Gk.iconst X1 hx (hb hby d2_7) (2 : Int32) rfl ?_
  refine Gk.icmpYes X1 hx (hb hby d2_8) (flt (by decide : ¬ ((131 : Int32) < (2 : Int32)))).2.1 21 (by decide) (by decide) ?_
  refine Gk.aloadN X1 hx (hb hby d2_21) rfl rfl ?_
  refine Gk.iloadN X1 hx (hb hby d2_22) rfl ?_
  refine Gk.baloadB X1 hx hZ e1 V_a ⟨by decide, by decide⟩ (.int tb) hf0 (hb hby d2_23) ?_
  refine Gk.bipush X1 hx (hb hby d2_24) (31 : Int32) rfl ?_
  refine Gk.iand X1 hx (hb hby d2_26) _ rfl ?_
  refine Gk.bipush X1 hx (hb hby d2_27) (31 : Int32) rfl ?_
  have hc29 : ¬ ((tb &&& (31 : Int32)) = (31 : Int32)) := htb
  refine Gk.icmpYes X1 hx (hb hby d2_29) (feq hc29).2 42 (by decide) (by decide) ?_
  refine Gk.aloadN X1 hx (hb hby d2_42) rfl rfl ?_
  refine Gk.iloadN X1 hx (hb hby d2_43) rfl ?_
  refine Gk.iconst X1 hx (hb hby d2_44) (1 : Int32) rfl ?_
  refine Gk.iadd X1 hx (hb hby d2_45) (1 : Int32) (by decide) ?_
  refine Gk.baloadB X1 hx hZ e1 V_a ⟨by decide, by decide⟩ (.int (-127 : Int32)) hf1 (hb hby d2_46) ?_
  refine Gk.sipush X1 hx (hb hby d2_47) (255 : Int32) rfl ?_
  refine Gk.iand X1 hx (hb hby d2_50) (129 : Int32) (by decide) ?_
  refine Gk.istore X1 hx (hb hby d2_51) #[.val (.ref a1), .val (.ref a2), .val (.int (0 : Int32)), .val (.int (131 : Int32)), .val (.int (129 : Int32)), .unset, .unset, .unset] rfl ?_
  refine Gk.iload X1 hx (hb hby d2_53) rfl ?_
  refine Gk.istore X1 hx (hb hby d2_55) #[.val (.ref a1), .val (.ref a2), .val (.int (0 : Int32)), .val (.int (131 : Int32)), .val (.int (129 : Int32)), .val (.int (129 : Int32)), .unset, .unset] rfl ?_
  refine Gk.iconst X1 hx (hb hby d2_57) (0 : Int32) rfl ?_
  refine Gk.istore X1 hx (hb hby d2_58) #[.val (.ref a1), .val (.ref a2), .val (.int (0 : Int32)), .val (.int (131 : Int32)), .val (.int (129 : Int32)), .val (.int (129 : Int32)), .val (.int (0 : Int32)), .unset] rfl ?_
  refine Gk.iload X1 hx (hb hby d2_60) rfl ?_
  refine Gk.sipush X1 hx (hb hby d2_62) (128 : Int32) rfl ?_
  refine Gk.icmpNo X1 hx (hb hby d2_65) (flt (by decide : ¬ ((129 : Int32) < (128 : Int32)))).1 ?_
  refine Gk.iload X1 hx (hb hby d2_68) rfl ?_
  refine Gk.sipush X1 hx (hb hby d2_70) (128 : Int32) rfl ?_
  refine Gk.isub X1 hx (hb hby d2_73) (1 : Int32) (by decide) ?_
  refine Gk.istore X1 hx (hb hby d2_74) #[.val (.ref a1), .val (.ref a2), .val (.int (0 : Int32)), .val (.int (131 : Int32)), .val (.int (129 : Int32)), .val (.int (129 : Int32)), .val (.int (1 : Int32)), .unset] rfl ?_
  refine Gk.iload X1 hx (hb hby d2_76) rfl ?_
  refine Gk.iconst X1 hx (hb hby d2_78) (3 : Int32) rfl ?_
  refine Gk.icmpNo X1 hx (hb hby d2_79) (flt (by decide : ¬ ((3 : Int32) < (1 : Int32)))).2.2.1 ?_
  refine Gk.iloadN X1 hx (hb hby d2_82) rfl ?_
  refine Gk.iloadN X1 hx (hb hby d2_83) rfl ?_
  refine Gk.isub X1 hx (hb hby d2_84) (131 : Int32) (by decide) ?_
  refine Gk.iconst X1 hx (hb hby d2_85) (2 : Int32) rfl ?_
  refine Gk.iload X1 hx (hb hby d2_86) rfl ?_
  refine Gk.iadd X1 hx (hb hby d2_88) (3 : Int32) (by decide) ?_
  refine Gk.icmpYes X1 hx (hb hby d2_89) (flt (by decide : ¬ ((131 : Int32) < (3 : Int32)))).2.1 102 (by decide) (by decide) ?_
  refine Gk.iconst X1 hx (hb hby d2_102) (0 : Int32) rfl ?_
  refine Gk.istore X1 hx (hb hby d2_103) #[.val (.ref a1), .val (.ref a2), .val (.int (0 : Int32)), .val (.int (131 : Int32)), .val (.int (129 : Int32)), .val (.int (0 : Int32)), .val (.int (1 : Int32)), .unset] rfl ?_
  refine Gk.iconst X1 hx (hb hby d2_105) (0 : Int32) rfl ?_
  refine Gk.istore X1 hx (hb hby d2_106) #[.val (.ref a1), .val (.ref a2), .val (.int (0 : Int32)), .val (.int (131 : Int32)), .val (.int (129 : Int32)), .val (.int (0 : Int32)), .val (.int (1 : Int32)), .val (.int (0 : Int32))] rfl ?_
  refine Gk.iload X1 hx (hb hby d2_108) rfl ?_
  refine Gk.iload X1 hx (hb hby d2_110) rfl ?_
  refine Gk.icmpNo X1 hx (hb hby d2_112) (tlt (by decide : (0 : Int32) < (1 : Int32))).2.1 ?_
  refine Gk.iload X1 hx (hb hby d2_115) rfl ?_
  refine Gk.bipush X1 hx (hb hby d2_117) (8 : Int32) rfl ?_
  refine Gk.ishl X1 hx (hb hby d2_119) (0 : Int32) (by decide) ?_
  refine Gk.aloadN X1 hx (hb hby d2_120) rfl rfl ?_
  refine Gk.iloadN X1 hx (hb hby d2_121) rfl ?_
  refine Gk.iconst X1 hx (hb hby d2_122) (2 : Int32) rfl ?_
  refine Gk.iadd X1 hx (hb hby d2_123) (2 : Int32) (by decide) ?_
  refine Gk.iload X1 hx (hb hby d2_124) rfl ?_
  refine Gk.iadd X1 hx (hb hby d2_126) (2 : Int32) (by decide) ?_
  refine Gk.baloadB X1 hx hZ e1 V_a ⟨by decide, by decide⟩ (.int (-128 : Int32)) hf2 (hb hby d2_127) ?_
  refine Gk.sipush X1 hx (hb hby d2_128) (255 : Int32) rfl ?_
  refine Gk.iand X1 hx (hb hby d2_131) (128 : Int32) (by decide) ?_
  refine Gk.ior X1 hx (hb hby d2_132) (128 : Int32) (by decide) ?_
  refine Gk.istore X1 hx (hb hby d2_133) #[.val (.ref a1), .val (.ref a2), .val (.int (0 : Int32)), .val (.int (131 : Int32)), .val (.int (129 : Int32)), .val (.int (128 : Int32)), .val (.int (1 : Int32)), .val (.int (0 : Int32))] rfl ?_
  refine Gk.iinc X1 hx (hb hby d2_135) rfl #[.val (.ref a1), .val (.ref a2), .val (.int (0 : Int32)), .val (.int (131 : Int32)), .val (.int (129 : Int32)), .val (.int (128 : Int32)), .val (.int (1 : Int32)), .val (.int (1 : Int32))] rfl ?_
  refine Gk.goto X1 hx (hb hby d2_138) 108 (by decide) (by decide) ?_
  refine Gk.iload X1 hx (hb hby d2_108) rfl ?_
  refine Gk.iload X1 hx (hb hby d2_110) rfl ?_
  refine Gk.icmpYes X1 hx (hb hby d2_112) (flt (by decide : ¬ ((1 : Int32) < (1 : Int32)))).2.1 141 (by decide) (by decide) ?_
  refine Gk.iload X1 hx (hb hby d2_141) rfl ?_
  refine Gk.sipush X1 hx (hb hby d2_143) (128 : Int32) rfl ?_
  refine Gk.icmpNo X1 hx (hb hby d2_146) (flt (by decide : ¬ ((128 : Int32) < (128 : Int32)))).1 ?_
  refine Gk.aloadN X1 hx (hb hby d2_149) rfl rfl ?_
  refine Gk.iloadN X1 hx (hb hby d2_150) rfl ?_
  refine Gk.iconst X1 hx (hb hby d2_151) (2 : Int32) rfl ?_
  refine Gk.iadd X1 hx (hb hby d2_152) (2 : Int32) (by decide) ?_
  refine Gk.baloadB X1 hx hZ e1 V_a ⟨by decide, by decide⟩ (.int (-128 : Int32)) hf2 (hb hby d2_153) ?_
  refine Gk.sipush X1 hx (hb hby d2_154) (255 : Int32) rfl ?_
  refine Gk.iand X1 hx (hb hby d2_157) (128 : Int32) (by decide) ?_
  refine Gk.ifYes X1 hx (hb hby d2_158) (feq (by decide : ¬ ((128 : Int32) = (0 : Int32)))).2 171 (by decide) (by decide) ?_
  refine Gk.aloadN X1 hx (hb hby d2_171) rfl rfl ?_
  refine Gk.aloadN X1 hx (hb hby d2_172) rfl rfl ?_
  refine Gk.putF X1 hx hZ hown (host := "") (Or.inl (hw _ (List.mem_of_getElem? (i := 14) rfl))) Via.refl e1 F_bytes_a1 E_a1 (Or.inr ⟨(hw _ (List.mem_of_getElem? (i := 15) rfl)), rfl, hnm⟩) (hw _ (List.mem_of_getElem? (i := 7) rfl)) (ty := (.array .byte)) (by decide) rfl rfl (hb hby d2_173) ?_
  intro T6 h6 X6 e6 W6
  have Fw6 := F_bytes_a1.same W6
  have N6 := Fr.snoc X6 N0 g_a1
  refine Gk.aloadN X6 hx (hb hby d2_176) rfl rfl ?_
  refine Gk.iloadN X6 hx (hb hby d2_177) rfl ?_
  have H7 := (E_a1.wr W6)
  have H8 := (F_start_a1.other W6 (Or.inr (slot_ne (Or.inr (hw _ (List.mem_of_getElem? (i := 17) rfl))) (Or.inr (hw _ (List.mem_of_getElem? (i := 15) rfl))) (by decide) (t := .int) (t' := (.array .byte)) (by decide) (by decide))))
  refine Gk.putF X6 hx hZ hown (host := "") (Or.inl (hw _ (List.mem_of_getElem? (i := 16) rfl))) Via.refl e6 H8 H7 (Or.inr ⟨(hw _ (List.mem_of_getElem? (i := 17) rfl)), rfl, hnm⟩) (hw _ (List.mem_of_getElem? (i := 7) rfl)) (ty := .int) (by decide) rfl rfl (hb hby d2_178) ?_
  intro T9 h9 X9 e9 W9
  have Fw9 := H8.same W9
  have N9 := Fr.snoc X9 N6 g_a1
  refine Gk.aloadN X9 hx (hb hby d2_181) rfl rfl ?_
  refine Gk.iloadN X9 hx (hb hby d2_182) rfl ?_
  refine Gk.iconst X9 hx (hb hby d2_183) (2 : Int32) rfl ?_
  refine Gk.iadd X9 hx (hb hby d2_184) (2 : Int32) (by decide) ?_
  refine Gk.iload X9 hx (hb hby d2_185) rfl ?_
  refine Gk.iadd X9 hx (hb hby d2_187) (3 : Int32) (by decide) ?_
  have H10 := (H7.wr W9)
  have H11 := ((F_contentStart_a1.other W6 (Or.inr (slot_ne (Or.inr (hw _ (List.mem_of_getElem? (i := 19) rfl))) (Or.inr (hw _ (List.mem_of_getElem? (i := 15) rfl))) (by decide) (t := .int) (t' := (.array .byte)) (by decide) (by decide)))).other W9 (Or.inr (slot_ne (Or.inr (hw _ (List.mem_of_getElem? (i := 19) rfl))) (Or.inr (hw _ (List.mem_of_getElem? (i := 17) rfl))) (by decide) (t := .int) (t' := .int) (by decide) (by decide))))
  refine Gk.putF X9 hx hZ hown (host := "") (Or.inl (hw _ (List.mem_of_getElem? (i := 18) rfl))) Via.refl e9 H11 H10 (Or.inr ⟨(hw _ (List.mem_of_getElem? (i := 19) rfl)), rfl, hnm⟩) (hw _ (List.mem_of_getElem? (i := 7) rfl)) (ty := .int) (by decide) rfl rfl (hb hby d2_188) ?_
  intro T12 h12 X12 e12 W12
  have Fw12 := H11.same W12
  have N12 := Fr.snoc X12 N9 g_a1
  refine Gk.aloadN X12 hx (hb hby d2_191) rfl rfl ?_
  refine Gk.aloadN X12 hx (hb hby d2_192) rfl rfl ?_
  refine Gk.getF X12 hx hZ hown (host := "") (Or.inl (hw _ (List.mem_of_getElem? (i := 18) rfl))) Via.refl e12 Fw12 (hb hby d2_193) ?_
  intro T13 X13 e13
  refine Gk.iload X13 hx (hb hby d2_196) rfl ?_
  refine Gk.iadd X13 hx (hb hby d2_198) (131 : Int32) (by decide) ?_
  have H14 := (H10.wr W12)
  have H15 := (((F_end_a1.other W6 (Or.inr (slot_ne (Or.inr (hw _ (List.mem_of_getElem? (i := 21) rfl))) (Or.inr (hw _ (List.mem_of_getElem? (i := 15) rfl))) (by decide) (t := .int) (t' := (.array .byte)) (by decide) (by decide)))).other W9 (Or.inr (slot_ne (Or.inr (hw _ (List.mem_of_getElem? (i := 21) rfl))) (Or.inr (hw _ (List.mem_of_getElem? (i := 17) rfl))) (by decide) (t := .int) (t' := .int) (by decide) (by decide)))).other W12 (Or.inr (slot_ne (Or.inr (hw _ (List.mem_of_getElem? (i := 21) rfl))) (Or.inr (hw _ (List.mem_of_getElem? (i := 19) rfl))) (by decide) (t := .int) (t' := .int) (by decide) (by decide))))
  refine Gk.putF X13 hx hZ hown (host := "") (Or.inl (hw _ (List.mem_of_getElem? (i := 20) rfl))) Via.refl e13 H15 H14 (Or.inr ⟨(hw _ (List.mem_of_getElem? (i := 21) rfl)), rfl, hnm⟩) (hw _ (List.mem_of_getElem? (i := 7) rfl)) (ty := .int) (by decide) rfl rfl (hb hby d2_199) ?_
  intro T16 h16 X16 e16 W16
  have Fw16 := H15.same W16
  have N16 := Fr.snoc X16 N12 g_a1
  refine Gk.aloadN X16 hx (hb hby d2_202) rfl rfl ?_
  refine Gk.getF X16 hx hZ hown (host := "") (Or.inl (hw _ (List.mem_of_getElem? (i := 20) rfl))) Via.refl e16 Fw16 (hb hby d2_203) ?_
  intro T17 X17 e17
  refine Gk.iloadN X17 hx (hb hby d2_206) rfl ?_
  refine Gk.icmpYes X17 hx (hb hby d2_207) (flt (by decide : ¬ ((131 : Int32) < (131 : Int32)))).2.2.2 220 (by decide) (by decide) ?_
  have H18 := (((Fw6.other W9 (Or.inr (slot_ne (Or.inr (hw _ (List.mem_of_getElem? (i := 15) rfl))) (Or.inr (hw _ (List.mem_of_getElem? (i := 17) rfl))) (by decide) (t := (.array .byte)) (t' := .int) (by decide) (by decide)))).other W12 (Or.inr (slot_ne (Or.inr (hw _ (List.mem_of_getElem? (i := 15) rfl))) (Or.inr (hw _ (List.mem_of_getElem? (i := 19) rfl))) (by decide) (t := (.array .byte)) (t' := .int) (by decide) (by decide)))).other W16 (Or.inr (slot_ne (Or.inr (hw _ (List.mem_of_getElem? (i := 15) rfl))) (Or.inr (hw _ (List.mem_of_getElem? (i := 21) rfl))) (by decide) (t := (.array .byte)) (t' := .int) (by decide) (by decide))))
  have H19 := ((Fw9.other W12 (Or.inr (slot_ne (Or.inr (hw _ (List.mem_of_getElem? (i := 17) rfl))) (Or.inr (hw _ (List.mem_of_getElem? (i := 19) rfl))) (by decide) (t := .int) (t' := .int) (by decide) (by decide)))).other W16 (Or.inr (slot_ne (Or.inr (hw _ (List.mem_of_getElem? (i := 17) rfl))) (Or.inr (hw _ (List.mem_of_getElem? (i := 21) rfl))) (by decide) (t := .int) (t' := .int) (by decide) (by decide))))
  have H20 := (Fw12.other W16 (Or.inr (slot_ne (Or.inr (hw _ (List.mem_of_getElem? (i := 19) rfl))) (Or.inr (hw _ (List.mem_of_getElem? (i := 21) rfl))) (by decide) (t := .int) (t' := .int) (by decide) (by decide))))
  refine Go.fin X17 (v := none) (fun _ => rfl) Bd.notSynchronized (fun _ hr => X17.returnOut hx Bd.returns (hb hby d2_220) hr) (fun U' hU hF => ⟨_, _, rfl, ?_, hF.1, hF.2.1, hF.2.2.mono (by decide) (by decide)⟩)
  rw [hU, e17]
  exact ⟨rfl, N16, (((((Keep.refl h0 [a1]).wr W6 (Or.inl (List.mem_of_getElem? (i := 0) rfl))).wr W9 (Or.inl (List.mem_of_getElem? (i := 0) rfl))).wr W12 (Or.inl (List.mem_of_getElem? (i := 0) rfl))).wr W16 (Or.inl (List.mem_of_getElem? (i := 0) rfl))), H18, H19, H20, Fw16⟩
theorem ef_rm1_3 (m : MethodId) (a1 : Addr) : entryFrame m #[(.ref a1)] 2 = mkF m 0 #[.val (.ref a1), .unset] [] := by first | (simp [entryFrame, mkF, argsToLocals, Value.category]; done) | rfl
def Q_rm1_3 (Z : State) (a1 : Addr) (kb : ClassId) (f : Nat → Value) (tb : Int32) (h0 : Heap) (n0 : Nat) (v : Option Value) (h : Heap) (L : List Loc) : Prop := v = some (.ref h0.size) ∧ Fr n0 L ∧ Keep h0 h [] ∧ Exa Z h h0.size "com/example/mooring/mooring/Der" ∧ Fld Z h h0.size "com/example/mooring/mooring/Der" "bytes" "[B" (.ref a1) ∧ Fld Z h h0.size "com/example/mooring/mooring/Der" "start" "I" (.int (0 : Int32)) ∧ Fld Z h h0.size "com/example/mooring/mooring/Der" "contentStart" "I" (.int (3 : Int32)) ∧ Fld Z h h0.size "com/example/mooring/mooring/Der" "end" "I" (.int (131 : Int32))
set_option maxRecDepth 65536 in
set_option maxHeartbeats 40000000 in
theorem rm1_3 (l : Launch) (Z : State) (a0 : Array Value) (hw : ∀ d ∈ tables_1, d.before a0 Z = true) (ws : List Jvm.Cond) (a1 : Addr) (kb : ClassId) (f : Nat → Value) (tb : Int32) (h0 : Heap) (n0 : Nat) (Z0 : n0 ≤ h0.size) (V_a : Arf Z h0 a1 kb .byte (131 : Int32) f) (hf0 : f 0 = (.int tb)) (hf1 : f 1 = (.int (-127 : Int32))) (hf2 : f 2 = (.int (-128 : Int32))) (htb : ¬ ((tb &&& (31 : Int32)) = (31 : Int32))) :
    MetFree l (⟨"com/example/mooring/mooring/Der", "parse", "([B)Lcom/example/mooring/mooring/Der;"⟩ : MethodName) (head1 (Jvm.Cond.code (⟨"com/example/mooring/mooring/Der", "parse", "([B)Lcom/example/mooring/mooring/Der;"⟩ : MethodName) prog_2_method_2_code 2 (some (.object "com/example/mooring/mooring/Der")) :: ws) ({ frames := 2, cells := 1, slots := 4, locals := 32 } : Room)) (fun a U => a = #[(.ref a1)] ∧ Z.Warmed39 U.vm ∧ U.heap = h0) (fun _ _ _ _ _ => True) (fun _ U o U' => ∃ v L, o = .returned v ∧ Q_rm1_3 Z a1 kb f tb h0 n0 v U'.heap L ∧ FrameEnd U o U' L ({ frames := 2, cells := 1, slots := 4, locals := 32 } : Room).cells ({ frames := 2, cells := 1, slots := 4, locals := 32 } : Room).slots) := by
  refine MetFree.of_bodySF (plainFor_of_name pn_103) hisR ?_
  intro p e s m args below meth c s₁ Bd hml0 hP hK
  obtain ⟨rfl, hZ, hh⟩ := hP
  have hx := Bd.exec
  have hby := Bd.bytes
  have hml : c.maxLocals = 2 := hml0
  have hown : s.vm.findClass "com/example/mooring/mooring/Der" = some m.cls := findClass_of_methodNamed Bd.named
  have hnm := (name_of_methodNamed Bd.named Bd.method).1
  have X0 : Stand p l e ({ frames := 2, cells := 1, slots := 4, locals := 32 } : Room) s m #[(.ref a1)] below meth c s₁ [] 0 0 := Stand.of_body Bd
  have e0 : s₁.heap = h0 := by rw [← hh, Bd.state]; rfl
  have N0 := Fr.nil n0
  show Go p e below (s₁.setTop (entryFrame m #[(.ref a1)] 2)) (fun o U' => ∃ v L, o = .returned v ∧ Q_rm1_3 Z a1 kb f tb h0 n0 v U'.heap L ∧ FrameEnd s o U' L ({ frames := 2, cells := 1, slots := 4, locals := 32 } : Room).cells ({ frames := 2, cells := 1, slots := 4, locals := 32 } : Room).slots)
  rw [ef_rm1_3]
  refine Gk.newO X0 hx hZ hown (hw _ (List.mem_of_getElem? (i := 6) rfl)) (hw _ (List.mem_of_getElem? (i := 7) rfl)) (hw _ (List.mem_of_getElem? (i := 4) rfl)) e0 (hb hby d1_0) (by decide) (by decide) ?_
  intro T1 h1 b1 X1 e1 E1 g1 A1 D1
  have g_b1 : n0 ≤ b1 := Nat.le_trans Z0 (Nat.le_of_eq g1.symm)
  have lt_b1 := A1.lt
  have F_bytes_b1 : Fld Z h1 b1 "com/example/mooring/mooring/Der" "bytes" "[B" .null := D1 (Or.inr (hw _ (List.mem_of_getElem? (i := 15) rfl))) (ty := (.array .byte)) (by decide)
  have F_start_b1 : Fld Z h1 b1 "com/example/mooring/mooring/Der" "start" "I" (.int (0 : Int32)) := D1 (Or.inr (hw _ (List.mem_of_getElem? (i := 17) rfl))) (ty := .int) (by decide)
  have F_contentStart_b1 : Fld Z h1 b1 "com/example/mooring/mooring/Der" "contentStart" "I" (.int (0 : Int32)) := D1 (Or.inr (hw _ (List.mem_of_getElem? (i := 19) rfl))) (ty := .int) (by decide)
  have F_end_b1 : Fld Z h1 b1 "com/example/mooring/mooring/Der" "end" "I" (.int (0 : Int32)) := D1 (Or.inr (hw _ (List.mem_of_getElem? (i := 21) rfl))) (ty := .int) (by decide)
  refine Gk.dup X1 hx (hb hby d1_3) rfl ?_
  refine Gk.aloadN X1 hx (hb hby d1_4) rfl rfl ?_
  refine Gk.iconst X1 hx (hb hby d1_5) (0 : Int32) rfl ?_
  refine Gk.aloadN X1 hx (hb hby d1_6) rfl rfl ?_
  have H2 := (V_a.ext E1)
  refine Gk.alen X1 hx hZ e1 H2 (hb hby d1_7) ?_
  have ne4 : b1 ≠ a1 := (Nat.ne_of_gt (Nat.lt_of_lt_of_le V_a.lt (Nat.le_trans (Nat.le_refl _) (Nat.le_of_eq g1.symm))))
  refine Gk.callI (argsL := [(.ref a1), (.int (0 : Int32)), (.int (131 : Int32))]) X1 hx hZ hown (rm2_3 l Z a0 hw [] b1 a1 kb f tb .null (.int (0 : Int32)) (.int (0 : Int32)) (.int (0 : Int32)) h1 n0 (Nat.le_trans Z0 E1.1) A1 H2 hf0 hf1 hf2 htb ne4 F_bytes_b1 g_b1 F_start_b1 F_contentStart_b1 F_end_b1) rfl (hw _ (List.mem_of_getElem? (i := 8) rfl)) (hw _ (List.mem_of_getElem? (i := 9) rfl)) (hw _ (List.mem_of_getElem? (i := 10) rfl)) rfl (by decide) (hw _ (List.mem_of_getElem? (i := 4) rfl)) e1 pd_3 rfl rfl (by decide) (Nat.le_of_ble_eq_true rfl) (by decide) (by decide) (by rw [hml]; rfl)  rfl (hb hby d1_8) ?_
  intro T3 L3 v3 X3 hQ3
  obtain ⟨rfl, N3q, K3, Fi3_bytes, Fi3_start, Fi3_contentStart, Fi3_end⟩ := hQ3
  have N3 := Fr.app N0 N3q
  show Go p e below (T3.setTop (mkF m 11 #[.val (.ref a1), .unset] [(.ref b1)])) _
  refine Gk.astoreN X3 hx (hb hby d1_11) rfl #[.val (.ref a1), .val (.ref b1)] rfl ?_
  refine Gk.aloadN X3 hx (hb hby d1_12) rfl rfl ?_
  refine Gk.getF X3 hx hZ hown (host := "") (Or.inl (hw _ (List.mem_of_getElem? (i := 20) rfl))) Via.refl rfl Fi3_end (hb hby d1_13) ?_
  intro T5 X5 e5
  refine Gk.aloadN X5 hx (hb hby d1_16) rfl rfl ?_
  have H6 := (H2.keep K3 (ninS (Ne.symm ne4) nin0))
  refine Gk.alen X5 hx hZ e5 H6 (hb hby d1_17) ?_
  refine Gk.icmpYes X5 hx (hb hby d1_18) (teq (by decide : (131 : Int32) = (131 : Int32))).1 31 (by decide) (by decide) ?_
  refine Gk.aloadN X5 hx (hb hby d1_31) rfl rfl ?_
  have H7 := (A1.keep K3)
  refine Go.fin X5 (v := some (.ref b1)) (fun h_ => by rw [Bd.returns] at h_; cases h_) Bd.notSynchronized (fun _ hr => retOut X5 hx Bd.returns rfl (Or.inr (Or.inr (Or.inr (Or.inr ⟨rfl, rfl, rfl⟩)))) (hb hby d1_32) hr) (fun U' hU hF => ⟨_, _, rfl, ?_, hF.1, hF.2.1, hF.2.2.mono (by decide) (by decide)⟩)
  rw [hU, e5]
  exact ⟨(congrArg (fun z_ : Addr => some (Value.ref z_)) (show b1 = h0.size from g1)), N3, (((Keep.refl h0 []).ext E1).trans K3 (allS (Or.inr (Nat.le_trans (Nat.le_refl _) (Nat.le_of_eq g1.symm))) all0)), (g1 ▸ H7), (g1 ▸ Fi3_bytes), (g1 ▸ Fi3_start), (g1 ▸ Fi3_contentStart), (g1 ▸ Fi3_end)⟩
theorem ef_rm4_3 (m : MethodId) (a1 : Addr) : entryFrame m #[(.ref a1)] 1 = mkF m 0 #[.val (.ref a1)] [] := by first | (simp [entryFrame, mkF, argsToLocals, Value.category]; done) | rfl
def Q_rm4_3 (Z : State) (a1 : Addr) (ar : Addr) (kb : ClassId) (f : Nat → Value) (tb : Int32) (h0 : Heap) (n0 : Nat) (v : Option Value) (h : Heap) (L : List Loc) : Prop := v = some (.int (tb &&& (255 : Int32))) ∧ Fr n0 L ∧ h = h0
set_option maxRecDepth 65536 in
set_option maxHeartbeats 40000000 in
theorem rm4_3 (l : Launch) (Z : State) (a0 : Array Value) (hw : ∀ d ∈ tables_1, d.before a0 Z = true) (ws : List Jvm.Cond) (a1 : Addr) (ar : Addr) (kb : ClassId) (f : Nat → Value) (tb : Int32) (h0 : Heap) (n0 : Nat) (Z0 : n0 ≤ h0.size) (V_a : Arf Z h0 ar kb .byte (131 : Int32) f) (F_bytes : Fld Z h0 a1 "com/example/mooring/mooring/Der" "bytes" "[B" (.ref ar)) (F_start : Fld Z h0 a1 "com/example/mooring/mooring/Der" "start" "I" (.int (0 : Int32))) (F_contentStart : Fld Z h0 a1 "com/example/mooring/mooring/Der" "contentStart" "I" (.int (3 : Int32))) (F_end : Fld Z h0 a1 "com/example/mooring/mooring/Der" "end" "I" (.int (131 : Int32))) (hf0 : f 0 = (.int tb)) :
    MetFree l (⟨"com/example/mooring/mooring/Der", "tag", "()I"⟩ : MethodName) (head1 (Jvm.Cond.code (⟨"com/example/mooring/mooring/Der", "tag", "()I"⟩ : MethodName) prog_2_method_3_code 1 (some .int) :: ws) ({ frames := 0, cells := 0, slots := 0, locals := 0 } : Room)) (fun a U => a = #[(.ref a1)] ∧ Z.Warmed39 U.vm ∧ U.heap = h0) (fun _ _ _ _ _ => True) (fun _ U o U' => ∃ v L, o = .returned v ∧ Q_rm4_3 Z a1 ar kb f tb h0 n0 v U'.heap L ∧ FrameEnd U o U' L ({ frames := 0, cells := 0, slots := 0, locals := 0 } : Room).cells ({ frames := 0, cells := 0, slots := 0, locals := 0 } : Room).slots) := by
  refine MetFree.of_bodySF (plainFor_of_name pn_103) hisR ?_
  intro p e s m args below meth c s₁ Bd hml0 hP hK
  obtain ⟨rfl, hZ, hh⟩ := hP
  have hx := Bd.exec
  have hby := Bd.bytes
  have hml : c.maxLocals = 1 := hml0
  have hown : s.vm.findClass "com/example/mooring/mooring/Der" = some m.cls := findClass_of_methodNamed Bd.named
  have hnm := (name_of_methodNamed Bd.named Bd.method).1
  have X0 : Stand p l e ({ frames := 0, cells := 0, slots := 0, locals := 0 } : Room) s m #[(.ref a1)] below meth c s₁ [] 0 0 := Stand.of_body Bd
  have e0 : s₁.heap = h0 := by rw [← hh, Bd.state]; rfl
  have N0 := Fr.nil n0
  show Go p e below (s₁.setTop (entryFrame m #[(.ref a1)] 1)) (fun o U' => ∃ v L, o = .returned v ∧ Q_rm4_3 Z a1 ar kb f tb h0 n0 v U'.heap L ∧ FrameEnd s o U' L ({ frames := 0, cells := 0, slots := 0, locals := 0 } : Room).cells ({ frames := 0, cells := 0, slots := 0, locals := 0 } : Room).slots)
  rw [ef_rm4_3]
  refine Gk.aloadN X0 hx (hb hby d4_0) rfl rfl ?_
  refine Gk.getF X0 hx hZ hown (host := "") (Or.inl (hw _ (List.mem_of_getElem? (i := 14) rfl))) Via.refl e0 F_bytes (hb hby d4_1) ?_
  intro T1 X1 e1
  refine Gk.aloadN X1 hx (hb hby d4_4) rfl rfl ?_
  refine Gk.getF X1 hx hZ hown (host := "") (Or.inl (hw _ (List.mem_of_getElem? (i := 16) rfl))) Via.refl e1 F_start (hb hby d4_5) ?_
  intro T2 X2 e2
  refine Gk.baloadB X2 hx hZ e2 V_a ⟨by decide, by decide⟩ (.int tb) hf0 (hb hby d4_8) ?_
  refine Gk.sipush X2 hx (hb hby d4_9) (255 : Int32) rfl ?_
  refine Gk.iand X2 hx (hb hby d4_12) _ rfl ?_
  refine Go.fin X2 (v := some (.int (tb &&& (255 : Int32)))) (fun h_ => by rw [Bd.returns] at h_; cases h_) Bd.notSynchronized (fun _ hr => retOut X2 hx Bd.returns rfl (Or.inl ⟨rfl, Or.inl rfl, _, rfl⟩) (hb hby d4_13) hr) (fun U' hU hF => ⟨_, _, rfl, ?_, hF.1, hF.2.1, hF.2.2.mono (by decide) (by decide)⟩)
  rw [hU, e2]
  exact ⟨(congrArg (fun z_ : Int32 => some (Value.int z_)) (show (tb &&& (255 : Int32)) = (tb &&& (255 : Int32)) from rfl)), N0, rfl⟩
theorem ef_rm5_3 (m : MethodId) (a1 : Addr) : entryFrame m #[(.ref a1)] 1 = mkF m 0 #[.val (.ref a1)] [] := by first | (simp [entryFrame, mkF, argsToLocals, Value.category]; done) | rfl
def Q_rm5_3 (Z : State) (a1 : Addr) (ar : Addr) (kb : ClassId) (f : Nat → Value) (h0 : Heap) (n0 : Nat) (v : Option Value) (h : Heap) (L : List Loc) : Prop := v = some (.ref h0.size) ∧ Fr n0 L ∧ Keep h0 h [] ∧ ∃ kr : ClassId, Arf Z h h0.size kr .byte (128 : Int32) (fun i => if 0 ≤ i ∧ i < 0 + 128 then f (3 + (i - 0)) else (.int (0 : Int32)))
set_option maxRecDepth 65536 in
set_option maxHeartbeats 40000000 in
theorem rm5_3 (l : Launch) (Z : State) (a0 : Array Value) (hw : ∀ d ∈ tables_1, d.before a0 Z = true) (ws : List Jvm.Cond) (a1 : Addr) (ar : Addr) (kb : ClassId) (f : Nat → Value) (h0 : Heap) (n0 : Nat) (Z0 : n0 ≤ h0.size) (V_a : Arf Z h0 ar kb .byte (131 : Int32) f) (F_bytes : Fld Z h0 a1 "com/example/mooring/mooring/Der" "bytes" "[B" (.ref ar)) (F_start : Fld Z h0 a1 "com/example/mooring/mooring/Der" "start" "I" (.int (0 : Int32))) (F_contentStart : Fld Z h0 a1 "com/example/mooring/mooring/Der" "contentStart" "I" (.int (3 : Int32))) (F_end : Fld Z h0 a1 "com/example/mooring/mooring/Der" "end" "I" (.int (131 : Int32))) :
    MetFree l (⟨"com/example/mooring/mooring/Der", "content", "()[B"⟩ : MethodName) (head1 (Jvm.Cond.code (⟨"com/example/mooring/mooring/Der", "content", "()[B"⟩ : MethodName) prog_2_method_4_code 1 (some (.array .byte)) :: ws) ({ frames := 3, cells := 1, slots := 128, locals := 70 } : Room)) (fun a U => a = #[(.ref a1)] ∧ Z.Warmed39 U.vm ∧ U.heap = h0) (fun _ _ _ _ _ => True) (fun _ U o U' => ∃ v L, o = .returned v ∧ Q_rm5_3 Z a1 ar kb f h0 n0 v U'.heap L ∧ FrameEnd U o U' L ({ frames := 3, cells := 1, slots := 128, locals := 70 } : Room).cells ({ frames := 3, cells := 1, slots := 128, locals := 70 } : Room).slots) := by
  refine MetFree.of_bodySF (plainFor_of_name pn_103) hisR ?_
  intro p e s m args below meth c s₁ Bd hml0 hP hK
  obtain ⟨rfl, hZ, hh⟩ := hP
  have hx := Bd.exec
  have hby := Bd.bytes
  have hml : c.maxLocals = 1 := hml0
  have hown : s.vm.findClass "com/example/mooring/mooring/Der" = some m.cls := findClass_of_methodNamed Bd.named
  have hnm := (name_of_methodNamed Bd.named Bd.method).1
  have X0 : Stand p l e ({ frames := 3, cells := 1, slots := 128, locals := 70 } : Room) s m #[(.ref a1)] below meth c s₁ [] 0 0 := Stand.of_body Bd
  have e0 : s₁.heap = h0 := by rw [← hh, Bd.state]; rfl
  have N0 := Fr.nil n0
  show Go p e below (s₁.setTop (entryFrame m #[(.ref a1)] 1)) (fun o U' => ∃ v L, o = .returned v ∧ Q_rm5_3 Z a1 ar kb f h0 n0 v U'.heap L ∧ FrameEnd s o U' L ({ frames := 3, cells := 1, slots := 128, locals := 70 } : Room).cells ({ frames := 3, cells := 1, slots := 128, locals := 70 } : Room).slots)
  rw [ef_rm5_3]
  refine Gk.aloadN X0 hx (hb hby d5_0) rfl rfl ?_
  refine Gk.getF X0 hx hZ hown (host := "") (Or.inl (hw _ (List.mem_of_getElem? (i := 14) rfl))) Via.refl e0 F_bytes (hb hby d5_1) ?_
  intro T1 X1 e1
  refine Gk.aloadN X1 hx (hb hby d5_4) rfl rfl ?_
  refine Gk.getF X1 hx hZ hown (host := "") (Or.inl (hw _ (List.mem_of_getElem? (i := 18) rfl))) Via.refl e1 F_contentStart (hb hby d5_5) ?_
  intro T2 X2 e2
  refine Gk.aloadN X2 hx (hb hby d5_8) rfl rfl ?_
  refine Gk.getF X2 hx hZ hown (host := "") (Or.inl (hw _ (List.mem_of_getElem? (i := 20) rfl))) Via.refl e2 F_end (hb hby d5_9) ?_
  intro T3 X3 e3
  refine Gk.callS (argsL := [(.ref ar), (.int (3 : Int32)), (.int (131 : Int32))]) X3 hx hZ hown (rm6c_3 l Z a0 hw [] ar kb f h0 n0 Z0 V_a) (hw _ (List.mem_of_getElem? (i := 32) rfl)) (hw _ (List.mem_of_getElem? (i := 33) rfl)) (hw _ (List.mem_of_getElem? (i := 34) rfl)) (hw _ (List.mem_of_getElem? (i := 35) rfl)) (by decide) e3 pd_2 rfl rfl (by decide) (Nat.le_of_ble_eq_true rfl) (by decide) (by decide) (by rw [hml]; rfl)  rfl (hb hby d5_12) ?_
  intro T4 L4 v4 X4 hQ4
  obtain ⟨rfl, N4q, K4, k4, A4⟩ := hQ4
  have N4 := Fr.app N0 N4q
  obtain ⟨b4, g4⟩ : ∃ z_, z_ = h0.size := ⟨_, rfl⟩
  rw [← g4] at A4 ⊢
  have g_b4 : n0 ≤ b4 := Nat.le_trans Z0 (Nat.le_of_eq g4.symm)
  have lt_b4 : b4 < T4.heap.size := A4.lt
  show Go p e below (T4.setTop (mkF m 15 #[.val (.ref a1)] [(.ref b4)])) _
  refine Go.fin X4 (v := some (.ref b4)) (fun h_ => by rw [Bd.returns] at h_; cases h_) Bd.notSynchronized (fun _ hr => retOut X4 hx Bd.returns rfl (Or.inr (Or.inr (Or.inr (Or.inr ⟨rfl, rfl, rfl⟩)))) (hb hby d5_15) hr) (fun U' hU hF => ⟨_, _, rfl, ?_, hF.1, hF.2.1, hF.2.2.mono (by decide) (by decide)⟩)
  rw [hU]
  exact ⟨(congrArg (fun z_ : Addr => some (Value.ref z_)) (show b4 = h0.size from g4)), N4, ((Keep.refl h0 []).trans K4 all0), _, (g4 ▸ A4)⟩
theorem ef_rm10_3 (m : MethodId) (a1 : Addr) : entryFrame m #[(.ref a1)] 1 = mkF m 0 #[.val (.ref a1)] [] := by first | (simp [entryFrame, mkF, argsToLocals, Value.category]; done) | rfl
def Q_rm10_3 (Z : State) (a1 : Addr) (ar : Addr) (kb : ClassId) (f : Nat → Value) (h0 : Heap) (n0 : Nat) (v : Option Value) (h : Heap) (L : List Loc) : Prop := v = some (.ref h0.size) ∧ Fr n0 L ∧ Keep h0 h [] ∧ ∃ kr : ClassId, Arf Z h h0.size kr .byte (131 : Int32) f
set_option maxRecDepth 65536 in
set_option maxHeartbeats 40000000 in
theorem rm10_3 (l : Launch) (Z : State) (a0 : Array Value) (hw : ∀ d ∈ tables_1, d.before a0 Z = true) (ws : List Jvm.Cond) (a1 : Addr) (ar : Addr) (kb : ClassId) (f : Nat → Value) (h0 : Heap) (n0 : Nat) (Z0 : n0 ≤ h0.size) (V_a : Arf Z h0 ar kb .byte (131 : Int32) f) (F_bytes : Fld Z h0 a1 "com/example/mooring/mooring/Der" "bytes" "[B" (.ref ar)) (F_start : Fld Z h0 a1 "com/example/mooring/mooring/Der" "start" "I" (.int (0 : Int32))) (F_contentStart : Fld Z h0 a1 "com/example/mooring/mooring/Der" "contentStart" "I" (.int (3 : Int32))) (F_end : Fld Z h0 a1 "com/example/mooring/mooring/Der" "end" "I" (.int (131 : Int32))) (E_a : Exa Z h0 ar "[B") :
    MetFree l (⟨"com/example/mooring/mooring/Der", "encoded", "()[B"⟩ : MethodName) (head1 (Jvm.Cond.code (⟨"com/example/mooring/mooring/Der", "encoded", "()[B"⟩ : MethodName) prog_2_method_5_code 1 (some (.array .byte)) :: ws) ({ frames := 2, cells := 1, slots := 131, locals := 28 } : Room)) (fun a U => a = #[(.ref a1)] ∧ Z.Warmed39 U.vm ∧ U.heap = h0) (fun _ _ _ _ _ => True) (fun _ U o U' => ∃ v L, o = .returned v ∧ Q_rm10_3 Z a1 ar kb f h0 n0 v U'.heap L ∧ FrameEnd U o U' L ({ frames := 2, cells := 1, slots := 131, locals := 28 } : Room).cells ({ frames := 2, cells := 1, slots := 131, locals := 28 } : Room).slots) := by
  refine MetFree.of_bodySF (plainFor_of_name pn_103) hisR ?_
  intro p e s m args below meth c s₁ Bd hml0 hP hK
  obtain ⟨rfl, hZ, hh⟩ := hP
  have hx := Bd.exec
  have hby := Bd.bytes
  have hml : c.maxLocals = 1 := hml0
  have hown : s.vm.findClass "com/example/mooring/mooring/Der" = some m.cls := findClass_of_methodNamed Bd.named
  have hnm := (name_of_methodNamed Bd.named Bd.method).1
  have X0 : Stand p l e ({ frames := 2, cells := 1, slots := 131, locals := 28 } : Room) s m #[(.ref a1)] below meth c s₁ [] 0 0 := Stand.of_body Bd
  have e0 : s₁.heap = h0 := by rw [← hh, Bd.state]; rfl
  have N0 := Fr.nil n0
  show Go p e below (s₁.setTop (entryFrame m #[(.ref a1)] 1)) (fun o U' => ∃ v L, o = .returned v ∧ Q_rm10_3 Z a1 ar kb f h0 n0 v U'.heap L ∧ FrameEnd s o U' L ({ frames := 2, cells := 1, slots := 131, locals := 28 } : Room).cells ({ frames := 2, cells := 1, slots := 131, locals := 28 } : Room).slots)
  rw [ef_rm10_3]
  refine Gk.aloadN X0 hx (hb hby d10_0) rfl rfl ?_
  refine Gk.getF X0 hx hZ hown (host := "") (Or.inl (hw _ (List.mem_of_getElem? (i := 14) rfl))) Via.refl e0 F_bytes (hb hby d10_1) ?_
  intro T1 X1 e1
  refine Gk.aloadN X1 hx (hb hby d10_4) rfl rfl ?_
  refine Gk.getF X1 hx hZ hown (host := "") (Or.inl (hw _ (List.mem_of_getElem? (i := 16) rfl))) Via.refl e1 F_start (hb hby d10_5) ?_
  intro T2 X2 e2
  refine Gk.aloadN X2 hx (hb hby d10_8) rfl rfl ?_
  refine Gk.getF X2 hx hZ hown (host := "") (Or.inl (hw _ (List.mem_of_getElem? (i := 20) rfl))) Via.refl e2 F_end (hb hby d10_9) ?_
  intro T3 X3 e3
  refine Gk.callS (argsL := [(.ref ar), (.int (0 : Int32)), (.int (131 : Int32))]) X3 hx hZ hown (rm6e_3 l Z a0 hw [] ar kb f h0 n0 Z0 V_a E_a) (hw _ (List.mem_of_getElem? (i := 32) rfl)) (hw _ (List.mem_of_getElem? (i := 33) rfl)) (hw _ (List.mem_of_getElem? (i := 34) rfl)) (hw _ (List.mem_of_getElem? (i := 35) rfl)) (by decide) e3 pd_2 rfl rfl (by decide) (Nat.le_of_ble_eq_true rfl) (by decide) (by decide) (by rw [hml]; rfl)  rfl (hb hby d10_12) ?_
  intro T4 L4 v4 X4 hQ4
  obtain ⟨rfl, N4q, K4, k4, A4⟩ := hQ4
  have N4 := Fr.app N0 N4q
  obtain ⟨b4, g4⟩ : ∃ z_, z_ = h0.size := ⟨_, rfl⟩
  rw [← g4] at A4 ⊢
  have g_b4 : n0 ≤ b4 := Nat.le_trans Z0 (Nat.le_of_eq g4.symm)
  have lt_b4 : b4 < T4.heap.size := A4.lt
  show Go p e below (T4.setTop (mkF m 15 #[.val (.ref a1)] [(.ref b4)])) _
  refine Go.fin X4 (v := some (.ref b4)) (fun h_ => by rw [Bd.returns] at h_; cases h_) Bd.notSynchronized (fun _ hr => retOut X4 hx Bd.returns rfl (Or.inr (Or.inr (Or.inr (Or.inr ⟨rfl, rfl, rfl⟩)))) (hb hby d10_15) hr) (fun U' hU hF => ⟨_, _, rfl, ?_, hF.1, hF.2.1, hF.2.2.mono (by decide) (by decide)⟩)
  rw [hU]
  exact ⟨(congrArg (fun z_ : Addr => some (Value.ref z_)) (show b4 = h0.size from g4)), N4, ((Keep.refl h0 []).trans K4 all0), _, (g4 ▸ A4)⟩
theorem ef_rm7_4 (m : MethodId) (a1 : Addr) : entryFrame m #[(.ref a1), (.int (3 : Int32)), (.int (258 : Int32))] 5 = mkF m 0 #[.val (.ref a1), .val (.int (3 : Int32)), .val (.int (258 : Int32)), .unset, .unset] [] := by first | (simp [entryFrame, mkF, argsToLocals, Value.category]; done) | rfl
def Q_rm7_4 (Z : State) (a1 : Addr) (kb : ClassId) (f : Nat → Value) (h0 : Heap) (n0 : Nat) (v : Option Value) (h : Heap) (L : List Loc) : Prop := v = some (.ref h0.size) ∧ Fr n0 L ∧ Keep h0 h [] ∧ ∃ kr : ClassId, Arf Z h h0.size kr .byte (255 : Int32) (fun i => if 0 ≤ i ∧ i < 0 + 255 then f (3 + (i - 0)) else (.int (0 : Int32)))
set_option maxRecDepth 65536 in
set_option maxHeartbeats 40000000 in
theorem rm7_4 (l : Launch) (Z : State) (a0 : Array Value) (hw : ∀ d ∈ tables_1, d.before a0 Z = true) (ws : List Jvm.Cond) (a1 : Addr) (kb : ClassId) (f : Nat → Value) (h0 : Heap) (n0 : Nat) (Z0 : n0 ≤ h0.size) (V_a : Arf Z h0 a1 kb .byte (258 : Int32) f) :
    MetFree l (⟨"java/util/Arrays", "copyOfRangeByte", "([BII)[B"⟩ : MethodName) (head1 (Jvm.Cond.code (⟨"java/util/Arrays", "copyOfRangeByte", "([BII)[B"⟩ : MethodName) jdk_65_method_133_code 5 (some (.array .byte)) :: ws) ({ frames := 1, cells := 1, slots := 255, locals := 40 } : Room)) (fun a U => a = #[(.ref a1), (.int (3 : Int32)), (.int (258 : Int32))] ∧ Z.Warmed39 U.vm ∧ U.heap = h0) (fun _ _ _ _ _ => True) (fun _ U o U' => ∃ v L, o = .returned v ∧ Q_rm7_4 Z a1 kb f h0 n0 v U'.heap L ∧ FrameEnd U o U' L ({ frames := 1, cells := 1, slots := 255, locals := 40 } : Room).cells ({ frames := 1, cells := 1, slots := 255, locals := 40 } : Room).slots) := by
  refine MetFree.of_bodySF (plainFor_of_name pn_11) hisR ?_
  intro p e s m args below meth c s₁ Bd hml0 hP hK
  obtain ⟨rfl, hZ, hh⟩ := hP
  have hx := Bd.exec
  have hby := Bd.bytes
  have hml : c.maxLocals = 5 := hml0
  have hown : s.vm.findClass "java/util/Arrays" = some m.cls := findClass_of_methodNamed Bd.named
  have hnm := (name_of_methodNamed Bd.named Bd.method).1
  have X0 : Stand p l e ({ frames := 1, cells := 1, slots := 255, locals := 40 } : Room) s m #[(.ref a1), (.int (3 : Int32)), (.int (258 : Int32))] below meth c s₁ [] 0 0 := Stand.of_body Bd
  have e0 : s₁.heap = h0 := by rw [← hh, Bd.state]; rfl
  have N0 := Fr.nil n0
  show Go p e below (s₁.setTop (entryFrame m #[(.ref a1), (.int (3 : Int32)), (.int (258 : Int32))] 5)) (fun o U' => ∃ v L, o = .returned v ∧ Q_rm7_4 Z a1 kb f h0 n0 v U'.heap L ∧ FrameEnd s o U' L ({ frames := 1, cells := 1, slots := 255, locals := 40 } : Room).cells ({ frames := 1, cells := 1, slots := 255, locals := 40 } : Room).slots)
  rw [ef_rm7_4]
  refine Gk.iloadN X0 hx (hb hby d7_0) rfl ?_
  refine Gk.iloadN X0 hx (hb hby d7_1) rfl ?_
  refine Gk.callS (argsL := [(.int (3 : Int32)), (.int (258 : Int32))]) X0 hx hZ hown (rm8 l Z a0 hw [] (3 : Int32) (258 : Int32) h0 n0 Z0 (by decide)) (hw _ (List.mem_of_getElem? (i := 39) rfl)) (hw _ (List.mem_of_getElem? (i := 40) rfl)) (hw _ (List.mem_of_getElem? (i := 34) rfl)) (hw _ (List.mem_of_getElem? (i := 41) rfl)) (by decide) e0 pd_0 rfl rfl (by decide) (Nat.le_of_ble_eq_true rfl) (by decide) (by decide) (by rw [hml]; rfl)  rfl (hb hby d7_2) ?_
  intro T1 L1 v1 X1 hQ1
  obtain ⟨rfl, N1q, e1⟩ := hQ1
  have N1 := Fr.app N0 N1q
  show Go p e below (T1.setTop (mkF m 5 #[.val (.ref a1), .val (.int (3 : Int32)), .val (.int (258 : Int32)), .unset, .unset] [])) _
  refine Gk.iloadN X1 hx (hb hby d7_5) rfl ?_
  refine Gk.iloadN X1 hx (hb hby d7_6) rfl ?_
  refine Gk.isub X1 hx (hb hby d7_7) (255 : Int32) (by decide) ?_
  refine Gk.istoreN X1 hx (hb hby d7_8) #[.val (.ref a1), .val (.int (3 : Int32)), .val (.int (258 : Int32)), .val (.int (255 : Int32)), .unset] rfl ?_
  refine Gk.iloadN X1 hx (hb hby d7_9) rfl ?_
  refine Gk.newP X1 hx hZ (hw _ (List.mem_of_getElem? (i := 1) rfl)) e1 (hb hby d7_10) (by decide) (cap := 255) (by decide) (by decide) (by decide) (by decide) rfl ?_
  intro T2 h2 b2 k2 X2 e2 E2 g2 A2 B2
  have g_b2 : n0 ≤ b2 := Nat.le_trans Z0 (Nat.le_of_eq g2.symm)
  have V_b2 : Arf Z h2 b2 k2 .byte (255 : Int32) (fun _ => (.int (0 : Int32))) := A2
  have lt_b2 := V_b2.lt
  refine Gk.astore X2 hx (hb hby d7_12) rfl #[.val (.ref a1), .val (.int (3 : Int32)), .val (.int (258 : Int32)), .val (.int (255 : Int32)), .val (.ref b2)] rfl ?_
  refine Gk.aloadN X2 hx (hb hby d7_14) rfl rfl ?_
  refine Gk.iloadN X2 hx (hb hby d7_15) rfl ?_
  refine Gk.aload X2 hx (hb hby d7_16) rfl rfl ?_
  refine Gk.iconst X2 hx (hb hby d7_18) (0 : Int32) rfl ?_
  refine Gk.aloadN X2 hx (hb hby d7_19) rfl rfl ?_
  have H3 := (V_a.ext E2)
  refine Gk.alen X2 hx hZ e2 H3 (hb hby d7_20) ?_
  refine Gk.iloadN X2 hx (hb hby d7_21) rfl ?_
  refine Gk.isub X2 hx (hb hby d7_22) (255 : Int32) (by decide) ?_
  refine Gk.iloadN X2 hx (hb hby d7_23) rfl ?_
  refine Gk.callS (argsL := [(.int (255 : Int32)), (.int (255 : Int32))]) X2 hx hZ hown (rm9 l Z a0 hw [] (255 : Int32) (255 : Int32) h2 n0 (Nat.le_trans Z0 E2.1)) (hw _ (List.mem_of_getElem? (i := 42) rfl)) (hw _ (List.mem_of_getElem? (i := 43) rfl)) (hw _ (List.mem_of_getElem? (i := 44) rfl)) (hw _ (List.mem_of_getElem? (i := 45) rfl)) (by decide) e2 pd_1 rfl rfl (by decide) (Nat.le_of_ble_eq_true rfl) (by decide) (by decide) (by rw [hml]; rfl)  rfl (hb hby d7_24) ?_
  intro T4 L4 v4 X4 hQ4
  obtain ⟨rfl, N4q, e4⟩ := hQ4
  have N4 := Fr.app N1 N4q
  show Go p e below (T4.setTop (mkF m 27 #[.val (.ref a1), .val (.int (3 : Int32)), .val (.int (258 : Int32)), .val (.int (255 : Int32)), .val (.ref b2)] [(.int (if (255 : Int32) < (255 : Int32) then (255 : Int32) else (255 : Int32))), (.int (0 : Int32)), (.ref b2), (.int (3 : Int32)), (.ref a1)])) _
  rw [show (if (255 : Int32) < (255 : Int32) then (255 : Int32) else (255 : Int32)) = (255 : Int32) from by decide]
  refine Gk.copy X4 hx hZ hown (hw _ (List.mem_of_getElem? (i := 46) rfl)) (hw _ (List.mem_of_getElem? (i := 49) rfl)) (hw _ (List.mem_of_getElem? (i := 47) rfl)) (hw _ (List.mem_of_getElem? (i := 48) rfl)) e4 H3 V_b2 rfl (by decide) (by decide) (by decide) (by decide) (by decide) N4 g_b2 (fun i => if 0 ≤ i ∧ i < 0 + 255 then f (3 + (i - 0)) else (fun _ => (.int (0 : Int32))) i) (fun _ _ => rfl) (by rw [hml]; rfl) (hb hby d7_27) (by decide) (Nat.le_of_ble_eq_true rfl) ?_
  intro T5 h5 L5 X5 e5 N5 K5 V5
  refine Gk.aload X5 hx (hb hby d7_30) rfl rfl ?_
  refine Go.fin X5 (v := some (.ref b2)) (fun h_ => by rw [Bd.returns] at h_; cases h_) Bd.notSynchronized (fun _ hr => retOut X5 hx Bd.returns rfl (Or.inr (Or.inr (Or.inr (Or.inr ⟨rfl, rfl, rfl⟩)))) (hb hby d7_32) hr) (fun U' hU hF => ⟨_, _, rfl, ?_, hF.1, hF.2.1, hF.2.2.mono (by decide) (by decide)⟩)
  rw [hU, e5]
  exact ⟨(congrArg (fun z_ : Addr => some (Value.ref z_)) (show b2 = h0.size from g2)), N5, (((Keep.refl h0 []).ext E2).trans K5 (allS (Or.inr (Nat.le_trans (Nat.le_refl _) (Nat.le_of_eq g2.symm))) all0)), _, (g2 ▸ V5)⟩
theorem ef_rm6c_4 (m : MethodId) (a1 : Addr) : entryFrame m #[(.ref a1), (.int (3 : Int32)), (.int (258 : Int32))] 3 = mkF m 0 #[.val (.ref a1), .val (.int (3 : Int32)), .val (.int (258 : Int32))] [] := by first | (simp [entryFrame, mkF, argsToLocals, Value.category]; done) | rfl
def Q_rm6c_4 (Z : State) (a1 : Addr) (kb : ClassId) (f : Nat → Value) (h0 : Heap) (n0 : Nat) (v : Option Value) (h : Heap) (L : List Loc) : Prop := v = some (.ref h0.size) ∧ Fr n0 L ∧ Keep h0 h [] ∧ ∃ kr : ClassId, Arf Z h h0.size kr .byte (255 : Int32) (fun i => if 0 ≤ i ∧ i < 0 + 255 then f (3 + (i - 0)) else (.int (0 : Int32)))
set_option maxRecDepth 65536 in
set_option maxHeartbeats 40000000 in
theorem rm6c_4 (l : Launch) (Z : State) (a0 : Array Value) (hw : ∀ d ∈ tables_1, d.before a0 Z = true) (ws : List Jvm.Cond) (a1 : Addr) (kb : ClassId) (f : Nat → Value) (h0 : Heap) (n0 : Nat) (Z0 : n0 ≤ h0.size) (V_a : Arf Z h0 a1 kb .byte (258 : Int32) f) :
    MetFree l (⟨"java/util/Arrays", "copyOfRange", "([BII)[B"⟩ : MethodName) (head1 (Jvm.Cond.code (⟨"java/util/Arrays", "copyOfRange", "([BII)[B"⟩ : MethodName) jdk_65_method_132_code 3 (some (.array .byte)) :: ws) ({ frames := 2, cells := 1, slots := 255, locals := 56 } : Room)) (fun a U => a = #[(.ref a1), (.int (3 : Int32)), (.int (258 : Int32))] ∧ Z.Warmed39 U.vm ∧ U.heap = h0) (fun _ _ _ _ _ => True) (fun _ U o U' => ∃ v L, o = .returned v ∧ Q_rm6c_4 Z a1 kb f h0 n0 v U'.heap L ∧ FrameEnd U o U' L ({ frames := 2, cells := 1, slots := 255, locals := 56 } : Room).cells ({ frames := 2, cells := 1, slots := 255, locals := 56 } : Room).slots) := by
  refine MetFree.of_bodySF (plainFor_of_name pn_11) hisR ?_
  intro p e s m args below meth c s₁ Bd hml0 hP hK
  obtain ⟨rfl, hZ, hh⟩ := hP
  have hx := Bd.exec
  have hby := Bd.bytes
  have hml : c.maxLocals = 3 := hml0
  have hown : s.vm.findClass "java/util/Arrays" = some m.cls := findClass_of_methodNamed Bd.named
  have hnm := (name_of_methodNamed Bd.named Bd.method).1
  have X0 : Stand p l e ({ frames := 2, cells := 1, slots := 255, locals := 56 } : Room) s m #[(.ref a1), (.int (3 : Int32)), (.int (258 : Int32))] below meth c s₁ [] 0 0 := Stand.of_body Bd
  have e0 : s₁.heap = h0 := by rw [← hh, Bd.state]; rfl
  have N0 := Fr.nil n0
  show Go p e below (s₁.setTop (entryFrame m #[(.ref a1), (.int (3 : Int32)), (.int (258 : Int32))] 3)) (fun o U' => ∃ v L, o = .returned v ∧ Q_rm6c_4 Z a1 kb f h0 n0 v U'.heap L ∧ FrameEnd s o U' L ({ frames := 2, cells := 1, slots := 255, locals := 56 } : Room).cells ({ frames := 2, cells := 1, slots := 255, locals := 56 } : Room).slots)
  rw [ef_rm6c_4]
  refine Gk.iloadN X0 hx (hb hby d6_0) rfl ?_
  refine Gk.ifYes X0 hx (hb hby d6_1) (feq (by decide : ¬ ((3 : Int32) = (0 : Int32)))).2 10 (by decide) (by decide) ?_
  refine Gk.aloadN X0 hx (hb hby d6_10) rfl rfl ?_
  refine Gk.iloadN X0 hx (hb hby d6_11) rfl ?_
  refine Gk.iloadN X0 hx (hb hby d6_12) rfl ?_
  refine Gk.callS (argsL := [(.ref a1), (.int (3 : Int32)), (.int (258 : Int32))]) X0 hx hZ hown (rm7_4 l Z a0 hw [] a1 kb f h0 n0 Z0 V_a) (hw _ (List.mem_of_getElem? (i := 36) rfl)) (hw _ (List.mem_of_getElem? (i := 37) rfl)) (hw _ (List.mem_of_getElem? (i := 34) rfl)) (hw _ (List.mem_of_getElem? (i := 38) rfl)) (by decide) e0 pd_2 rfl rfl (by decide) (Nat.le_of_ble_eq_true rfl) (by decide) (by decide) (by rw [hml]; rfl)  rfl (hb hby d6_13) ?_
  intro T1 L1 v1 X1 hQ1
  obtain ⟨rfl, N1q, K1, k1, A1⟩ := hQ1
  have N1 := Fr.app N0 N1q
  obtain ⟨b1, g1⟩ : ∃ z_, z_ = h0.size := ⟨_, rfl⟩
  rw [← g1] at A1 ⊢
  have g_b1 : n0 ≤ b1 := Nat.le_trans Z0 (Nat.le_of_eq g1.symm)
  have lt_b1 : b1 < T1.heap.size := A1.lt
  show Go p e below (T1.setTop (mkF m 16 #[.val (.ref a1), .val (.int (3 : Int32)), .val (.int (258 : Int32))] [(.ref b1)])) _
  refine Go.fin X1 (v := some (.ref b1)) (fun h_ => by rw [Bd.returns] at h_; cases h_) Bd.notSynchronized (fun _ hr => retOut X1 hx Bd.returns rfl (Or.inr (Or.inr (Or.inr (Or.inr ⟨rfl, rfl, rfl⟩)))) (hb hby d6_16) hr) (fun U' hU hF => ⟨_, _, rfl, ?_, hF.1, hF.2.1, hF.2.2.mono (by decide) (by decide)⟩)
  rw [hU]
  exact ⟨(congrArg (fun z_ : Addr => some (Value.ref z_)) (show b1 = h0.size from g1)), N1, ((Keep.refl h0 []).trans K1 all0), _, (g1 ▸ A1)⟩
theorem ef_rm6e_4 (m : MethodId) (a1 : Addr) : entryFrame m #[(.ref a1), (.int (0 : Int32)), (.int (258 : Int32))] 3 = mkF m 0 #[.val (.ref a1), .val (.int (0 : Int32)), .val (.int (258 : Int32))] [] := by first | (simp [entryFrame, mkF, argsToLocals, Value.category]; done) | rfl
def Q_rm6e_4 (Z : State) (a1 : Addr) (kb : ClassId) (f : Nat → Value) (h0 : Heap) (n0 : Nat) (v : Option Value) (h : Heap) (L : List Loc) : Prop := v = some (.ref h0.size) ∧ Fr n0 L ∧ Keep h0 h [] ∧ ∃ kr : ClassId, Arf Z h h0.size kr .byte (258 : Int32) f
set_option maxRecDepth 65536 in
set_option maxHeartbeats 40000000 in
theorem rm6e_4 (l : Launch) (Z : State) (a0 : Array Value) (hw : ∀ d ∈ tables_1, d.before a0 Z = true) (ws : List Jvm.Cond) (a1 : Addr) (kb : ClassId) (f : Nat → Value) (h0 : Heap) (n0 : Nat) (Z0 : n0 ≤ h0.size) (V_a : Arf Z h0 a1 kb .byte (258 : Int32) f) (E_a : Exa Z h0 a1 "[B") :
    MetFree l (⟨"java/util/Arrays", "copyOfRange", "([BII)[B"⟩ : MethodName) (head1 (Jvm.Cond.code (⟨"java/util/Arrays", "copyOfRange", "([BII)[B"⟩ : MethodName) jdk_65_method_132_code 3 (some (.array .byte)) :: ws) ({ frames := 1, cells := 1, slots := 258, locals := 14 } : Room)) (fun a U => a = #[(.ref a1), (.int (0 : Int32)), (.int (258 : Int32))] ∧ Z.Warmed39 U.vm ∧ U.heap = h0) (fun _ _ _ _ _ => True) (fun _ U o U' => ∃ v L, o = .returned v ∧ Q_rm6e_4 Z a1 kb f h0 n0 v U'.heap L ∧ FrameEnd U o U' L ({ frames := 1, cells := 1, slots := 258, locals := 14 } : Room).cells ({ frames := 1, cells := 1, slots := 258, locals := 14 } : Room).slots) := by
  refine MetFree.of_bodySF (plainFor_of_name pn_11) hisR ?_
  intro p e s m args below meth c s₁ Bd hml0 hP hK
  obtain ⟨rfl, hZ, hh⟩ := hP
  have hx := Bd.exec
  have hby := Bd.bytes
  have hml : c.maxLocals = 3 := hml0
  have hown : s.vm.findClass "java/util/Arrays" = some m.cls := findClass_of_methodNamed Bd.named
  have hnm := (name_of_methodNamed Bd.named Bd.method).1
  have X0 : Stand p l e ({ frames := 1, cells := 1, slots := 258, locals := 14 } : Room) s m #[(.ref a1), (.int (0 : Int32)), (.int (258 : Int32))] below meth c s₁ [] 0 0 := Stand.of_body Bd
  have e0 : s₁.heap = h0 := by rw [← hh, Bd.state]; rfl
  have N0 := Fr.nil n0
  show Go p e below (s₁.setTop (entryFrame m #[(.ref a1), (.int (0 : Int32)), (.int (258 : Int32))] 3)) (fun o U' => ∃ v L, o = .returned v ∧ Q_rm6e_4 Z a1 kb f h0 n0 v U'.heap L ∧ FrameEnd s o U' L ({ frames := 1, cells := 1, slots := 258, locals := 14 } : Room).cells ({ frames := 1, cells := 1, slots := 258, locals := 14 } : Room).slots)
  rw [ef_rm6e_4]
  refine Gk.iloadN X0 hx (hb hby d6_0) rfl ?_
  refine Gk.ifNo X0 hx (hb hby d6_1) (teq (by decide : (0 : Int32) = (0 : Int32))).2 ?_
  refine Gk.iloadN X0 hx (hb hby d6_4) rfl ?_
  refine Gk.aloadN X0 hx (hb hby d6_5) rfl rfl ?_
  refine Gk.alen X0 hx hZ e0 V_a (hb hby d6_6) ?_
  refine Gk.icmpYes X0 hx (hb hby d6_7) (teq (by decide : (258 : Int32) = (258 : Int32))).1 17 (by decide) (by decide) ?_
  refine Gk.aloadN X0 hx (hb hby d6_17) rfl rfl ?_
  refine Gk.clone X0 hx hZ hown (hw _ (List.mem_of_getElem? (i := 55) rfl)) (hw _ (List.mem_of_getElem? (i := 56) rfl)) (hw _ (List.mem_of_getElem? (i := 60) rfl)) (hw _ (List.mem_of_getElem? (i := 58) rfl)) (hw _ (List.mem_of_getElem? (i := 59) rfl)) (hw _ (List.mem_of_getElem? (i := 61) rfl)) e0 V_a E_a (by rw [hml]; rfl) (hb hby d6_18) (by decide) (cap := 258) (Nat.le_of_ble_eq_true rfl) (by decide) (by decide) (by decide) ?_
  intro T1 h1 b1 X1 e1 E1 g1 V_b1 B1
  have g_b1 : n0 ≤ b1 := Nat.le_trans Z0 (Nat.le_of_eq g1.symm)
  have lt_b1 := V_b1.lt
  refine Gk.castY X1 hx hZ hown (hw _ (List.mem_of_getElem? (i := 62) rfl)) e1 (Ins.self B1) (hb hby d6_21) ?_
  intro T2 X2 e2
  refine Go.fin X2 (v := some (.ref b1)) (fun h_ => by rw [Bd.returns] at h_; cases h_) Bd.notSynchronized (fun _ hr => retOut X2 hx Bd.returns rfl (Or.inr (Or.inr (Or.inr (Or.inr ⟨rfl, rfl, rfl⟩)))) (hb hby d6_24) hr) (fun U' hU hF => ⟨_, _, rfl, ?_, hF.1, hF.2.1, hF.2.2.mono (by decide) (by decide)⟩)
  rw [hU, e2]
  exact ⟨(congrArg (fun z_ : Addr => some (Value.ref z_)) (show b1 = h0.size from g1)), N0, ((Keep.refl h0 []).ext E1), _, (g1 ▸ V_b1)⟩
theorem ef_rm2_4 (m : MethodId) (a1 : Addr) (a2 : Addr) : entryFrame m #[(.ref a1), (.ref a2), (.int (0 : Int32)), (.int (258 : Int32))] 8 = mkF m 0 #[.val (.ref a1), .val (.ref a2), .val (.int (0 : Int32)), .val (.int (258 : Int32)), .unset, .unset, .unset, .unset] [] := by first | (simp [entryFrame, mkF, argsToLocals, Value.category]; done) | rfl
def Q_rm2_4 (Z : State) (a1 : Addr) (a2 : Addr) (kb : ClassId) (f : Nat → Value) (tb : Int32) (u_bytes_a1 : Value) (u_start_a1 : Value) (u_contentStart_a1 : Value) (u_end_a1 : Value) (h0 : Heap) (n0 : Nat) (v : Option Value) (h : Heap) (L : List Loc) : Prop := v = none ∧ Fr n0 L ∧ Keep h0 h [a1] ∧ Fld Z h a1 "com/example/mooring/mooring/Der" "bytes" "[B" (.ref a2) ∧ Fld Z h a1 "com/example/mooring/mooring/Der" "start" "I" (.int (0 : Int32)) ∧ Fld Z h a1 "com/example/mooring/mooring/Der" "contentStart" "I" (.int (3 : Int32)) ∧ Fld Z h a1 "com/example/mooring/mooring/Der" "end" "I" (.int (258 : Int32))
set_option maxRecDepth 65536 in
set_option maxHeartbeats 40000000 in
theorem rm2_4 (l : Launch) (Z : State) (a0 : Array Value) (hw : ∀ d ∈ tables_1, d.before a0 Z = true) (ws : List Jvm.Cond) (a1 : Addr) (a2 : Addr) (kb : ClassId) (f : Nat → Value) (tb : Int32) (u_bytes_a1 : Value) (u_start_a1 : Value) (u_contentStart_a1 : Value) (u_end_a1 : Value) (h0 : Heap) (n0 : Nat) (Z0 : n0 ≤ h0.size) (E_a1 : Exa Z h0 a1 "com/example/mooring/mooring/Der") (V_a : Arf Z h0 a2 kb .byte (258 : Int32) f) (hf0 : f 0 = (.int tb)) (hf1 : f 1 = (.int (-127 : Int32))) (hf2 : f 2 = (.int (-1 : Int32))) (htb : ¬ ((tb &&& (31 : Int32)) = (31 : Int32))) (hne : a1 ≠ a2) (F_bytes_a1 : Fld Z h0 a1 "com/example/mooring/mooring/Der" "bytes" "[B" u_bytes_a1) (g_a1 : n0 ≤ a1) (F_start_a1 : Fld Z h0 a1 "com/example/mooring/mooring/Der" "start" "I" u_start_a1) (F_contentStart_a1 : Fld Z h0 a1 "com/example/mooring/mooring/Der" "contentStart" "I" u_contentStart_a1) (F_end_a1 : Fld Z h0 a1 "com/example/mooring/mooring/Der" "end" "I" u_end_a1) :
    MetFree l (⟨"com/example/mooring/mooring/Der", "<init>", "([BII)V"⟩ : MethodName) (head1 (Jvm.Cond.code (⟨"com/example/mooring/mooring/Der", "<init>", "([BII)V"⟩ : MethodName) prog_2_method_1_code 8 none :: ws) ({ frames := 1, cells := 0, slots := 0, locals := 12 } : Room)) (fun a U => a = #[(.ref a1), (.ref a2), (.int (0 : Int32)), (.int (258 : Int32))] ∧ Z.Warmed39 U.vm ∧ U.heap = h0) (fun _ _ _ _ _ => True) (fun _ U o U' => ∃ v L, o = .returned v ∧ Q_rm2_4 Z a1 a2 kb f tb u_bytes_a1 u_start_a1 u_contentStart_a1 u_end_a1 h0 n0 v U'.heap L ∧ FrameEnd U o U' L ({ frames := 1, cells := 0, slots := 0, locals := 12 } : Room).cells ({ frames := 1, cells := 0, slots := 0, locals := 12 } : Room).slots) := by
  refine MetFree.of_bodySF (plainFor_of_name pn_103) hisR ?_
  intro p e s m args below meth c s₁ Bd hml0 hP hK
  obtain ⟨rfl, hZ, hh⟩ := hP
  have hx := Bd.exec
  have hby := Bd.bytes
  have hml : c.maxLocals = 8 := hml0
  have hown : s.vm.findClass "com/example/mooring/mooring/Der" = some m.cls := findClass_of_methodNamed Bd.named
  have hnm := (name_of_methodNamed Bd.named Bd.method).1
  have X0 : Stand p l e ({ frames := 1, cells := 0, slots := 0, locals := 12 } : Room) s m #[(.ref a1), (.ref a2), (.int (0 : Int32)), (.int (258 : Int32))] below meth c s₁ [] 0 0 := Stand.of_body Bd
  have e0 : s₁.heap = h0 := by rw [← hh, Bd.state]; rfl
  have N0 := Fr.nil n0
  show Go p e below (s₁.setTop (entryFrame m #[(.ref a1), (.ref a2), (.int (0 : Int32)), (.int (258 : Int32))] 8)) (fun o U' => ∃ v L, o = .returned v ∧ Q_rm2_4 Z a1 a2 kb f tb u_bytes_a1 u_start_a1 u_contentStart_a1 u_end_a1 h0 n0 v U'.heap L ∧ FrameEnd s o U' L ({ frames := 1, cells := 0, slots := 0, locals := 12 } : Room).cells ({ frames := 1, cells := 0, slots := 0, locals := 12 } : Room).slots)
  rw [ef_rm2_4]
  refine Gk.aloadN X0 hx (hb hby d2_0) rfl rfl ?_
  refine Gk.initO X0 hx hZ hown (hw _ (List.mem_of_getElem? (i := 11) rfl)) (hw _ (List.mem_of_getElem? (i := 12) rfl)) (hw _ (List.mem_of_getElem? (i := 13) rfl)) e0 (by rw [hml]; rfl) (hb hby d2_1) (by decide) (Nat.le_of_ble_eq_true rfl) ?_
  intro T1 X1 e1
  refine Gk.iloadN X1 hx (hb hby d2_4) rfl ?_
  refine Gk.iloadN X1 hx (hb hby d2_5) rfl ?_
  refine Gk.isub X1 hx (hb hby d2_6) (258 : Int32) (by decide) ?_
  refine Gk.iconst X1 hx (hb hby d2_7) (2 : Int32) rfl ?_
  refine Gk.icmpYes X1 hx (hb hby d2_8) (flt (by decide : ¬ ((258 : Int32) < (2 : Int32)))).2.1 21 (by decide) (by decide) ?_
  refine Gk.aloadN X1 hx (hb hby d2_21) rfl rfl ?_
  refine Gk.iloadN X1 hx (hb hby d2_22) rfl ?_
  refine Gk.baloadB X1 hx hZ e1 V_a ⟨by decide, by decide⟩ (.int tb) hf0 (hb hby d2_23) ?_
  refine Gk.bipush X1 hx (hb hby d2_24) (31 : Int32) rfl ?_
  refine Gk.iand X1 hx (hb hby d2_26) _ rfl ?_
  refine Gk.bipush X1 hx (hb hby d2_27) (31 : Int32) rfl ?_
  have hc29 : ¬ ((tb &&& (31 : Int32)) = (31 : Int32)) := htb
  refine Gk.icmpYes X1 hx (hb hby d2_29) (feq hc29).2 42 (by decide) (by decide) ?_
  refine Gk.aloadN X1 hx (hb hby d2_42) rfl rfl ?_
  refine Gk.iloadN X1 hx (hb hby d2_43) rfl ?_
  refine Gk.iconst X1 hx (hb hby d2_44) (1 : Int32) rfl ?_
  refine Gk.iadd X1 hx (hb hby d2_45) (1 : Int32) (by decide) ?_
  refine Gk.baloadB X1 hx hZ e1 V_a ⟨by decide, by decide⟩ (.int (-127 : Int32)) hf1 (hb hby d2_46) ?_
  refine Gk.sipush X1 hx (hb hby d2_47) (255 : Int32) rfl ?_
  refine Gk.iand X1 hx (hb hby d2_50) (129 : Int32) (by decide) ?_
  refine Gk.istore X1 hx (hb hby d2_51) #[.val (.ref a1), .val (.ref a2), .val (.int (0 : Int32)), .val (.int (258 : Int32)), .val (.int (129 : Int32)), .unset, .unset, .unset] rfl ?_
  refine Gk.iload X1 hx (hb hby d2_53) rfl ?_
  refine Gk.istore X1 hx (hb hby d2_55) #[.val (.ref a1), .val (.ref a2), .val (.int (0 : Int32)), .val (.int (258 : Int32)), .val (.int (129 : Int32)), .val (.int (129 : Int32)), .unset, .unset] rfl ?_
  refine Gk.iconst X1 hx (hb hby d2_57) (0 : Int32) rfl ?_
  refine Gk.istore X1 hx (hb hby d2_58) #[.val (.ref a1), .val (.ref a2), .val (.int (0 : Int32)), .val (.int (258 : Int32)), .val (.int (129 : Int32)), .val (.int (129 : Int32)), .val (.int (0 : Int32)), .unset] rfl ?_
  refine Gk.iload X1 hx (hb hby d2_60) rfl ?_
  refine Gk.sipush X1 hx (hb hby d2_62) (128 : Int32) rfl ?_
  refine Gk.icmpNo X1 hx (hb hby d2_65) (flt (by decide : ¬ ((129 : Int32) < (128 : Int32)))).1 ?_
  refine Gk.iload X1 hx (hb hby d2_68) rfl ?_
  refine Gk.sipush X1 hx (hb hby d2_70) (128 : Int32) rfl ?_
  refine Gk.isub X1 hx (hb hby d2_73) (1 : Int32) (by decide) ?_
  refine Gk.istore X1 hx (hb hby d2_74) #[.val (.ref a1), .val (.ref a2), .val (.int (0 : Int32)), .val (.int (258 : Int32)), .val (.int (129 : Int32)), .val (.int (129 : Int32)), .val (.int (1 : Int32)), .unset] rfl ?_
  refine Gk.iload X1 hx (hb hby d2_76) rfl ?_
  refine Gk.iconst X1 hx (hb hby d2_78) (3 : Int32) rfl ?_
  refine Gk.icmpNo X1 hx (hb hby d2_79) (flt (by decide : ¬ ((3 : Int32) < (1 : Int32)))).2.2.1 ?_
  refine Gk.iloadN X1 hx (hb hby d2_82) rfl ?_
  refine Gk.iloadN X1 hx (hb hby d2_83) rfl ?_
  refine Gk.isub X1 hx (hb hby d2_84) (258 : Int32) (by decide) ?_
  refine Gk.iconst X1 hx (hb hby d2_85) (2 : Int32) rfl ?_
  refine Gk.iload X1 hx (hb hby d2_86) rfl ?_
  refine Gk.iadd X1 hx (hb hby d2_88) (3 : Int32) (by decide) ?_
  refine Gk.icmpYes X1 hx (hb hby d2_89) (flt (by decide : ¬ ((258 : Int32) < (3 : Int32)))).2.1 102 (by decide) (by decide) ?_
  refine Gk.iconst X1 hx (hb hby d2_102) (0 : Int32) rfl ?_
  refine Gk.istore X1 hx (hb hby d2_103) #[.val (.ref a1), .val (.ref a2), .val (.int (0 : Int32)), .val (.int (258 : Int32)), .val (.int (129 : Int32)), .val (.int (0 : Int32)), .val (.int (1 : Int32)), .unset] rfl ?_
  refine Gk.iconst X1 hx (hb hby d2_105) (0 : Int32) rfl ?_
  refine Gk.istore X1 hx (hb hby d2_106) #[.val (.ref a1), .val (.ref a2), .val (.int (0 : Int32)), .val (.int (258 : Int32)), .val (.int (129 : Int32)), .val (.int (0 : Int32)), .val (.int (1 : Int32)), .val (.int (0 : Int32))] rfl ?_
  refine Gk.iload X1 hx (hb hby d2_108) rfl ?_
  refine Gk.iload X1 hx (hb hby d2_110) rfl ?_
  refine Gk.icmpNo X1 hx (hb hby d2_112) (tlt (by decide : (0 : Int32) < (1 : Int32))).2.1 ?_
  refine Gk.iload X1 hx (hb hby d2_115) rfl ?_
  refine Gk.bipush X1 hx (hb hby d2_117) (8 : Int32) rfl ?_
  refine Gk.ishl X1 hx (hb hby d2_119) (0 : Int32) (by decide) ?_
  refine Gk.aloadN X1 hx (hb hby d2_120) rfl rfl ?_
  refine Gk.iloadN X1 hx (hb hby d2_121) rfl ?_
  refine Gk.iconst X1 hx (hb hby d2_122) (2 : Int32) rfl ?_
  refine Gk.iadd X1 hx (hb hby d2_123) (2 : Int32) (by decide) ?_
  refine Gk.iload X1 hx (hb hby d2_124) rfl ?_
  refine Gk.iadd X1 hx (hb hby d2_126) (2 : Int32) (by decide) ?_
  refine Gk.baloadB X1 hx hZ e1 V_a ⟨by decide, by decide⟩ (.int (-1 : Int32)) hf2 (hb hby d2_127) ?_
  refine Gk.sipush X1 hx (hb hby d2_128) (255 : Int32) rfl ?_
  refine Gk.iand X1 hx (hb hby d2_131) (255 : Int32) (by decide) ?_
  refine Gk.ior X1 hx (hb hby d2_132) (255 : Int32) (by decide) ?_
  refine Gk.istore X1 hx (hb hby d2_133) #[.val (.ref a1), .val (.ref a2), .val (.int (0 : Int32)), .val (.int (258 : Int32)), .val (.int (129 : Int32)), .val (.int (255 : Int32)), .val (.int (1 : Int32)), .val (.int (0 : Int32))] rfl ?_
  refine Gk.iinc X1 hx (hb hby d2_135) rfl #[.val (.ref a1), .val (.ref a2), .val (.int (0 : Int32)), .val (.int (258 : Int32)), .val (.int (129 : Int32)), .val (.int (255 : Int32)), .val (.int (1 : Int32)), .val (.int (1 : Int32))] rfl ?_
  refine Gk.goto X1 hx (hb hby d2_138) 108 (by decide) (by decide) ?_
  refine Gk.iload X1 hx (hb hby d2_108) rfl ?_
  refine Gk.iload X1 hx (hb hby d2_110) rfl ?_
  refine Gk.icmpYes X1 hx (hb hby d2_112) (flt (by decide : ¬ ((1 : Int32) < (1 : Int32)))).2.1 141 (by decide) (by decide) ?_
  refine Gk.iload X1 hx (hb hby d2_141) rfl ?_
  refine Gk.sipush X1 hx (hb hby d2_143) (128 : Int32) rfl ?_
  refine Gk.icmpNo X1 hx (hb hby d2_146) (flt (by decide : ¬ ((255 : Int32) < (128 : Int32)))).1 ?_
  refine Gk.aloadN X1 hx (hb hby d2_149) rfl rfl ?_
  refine Gk.iloadN X1 hx (hb hby d2_150) rfl ?_
  refine Gk.iconst X1 hx (hb hby d2_151) (2 : Int32) rfl ?_
  refine Gk.iadd X1 hx (hb hby d2_152) (2 : Int32) (by decide) ?_
  refine Gk.baloadB X1 hx hZ e1 V_a ⟨by decide, by decide⟩ (.int (-1 : Int32)) hf2 (hb hby d2_153) ?_
  refine Gk.sipush X1 hx (hb hby d2_154) (255 : Int32) rfl ?_
  refine Gk.iand X1 hx (hb hby d2_157) (255 : Int32) (by decide) ?_
  refine Gk.ifYes X1 hx (hb hby d2_158) (feq (by decide : ¬ ((255 : Int32) = (0 : Int32)))).2 171 (by decide) (by decide) ?_
  refine Gk.aloadN X1 hx (hb hby d2_171) rfl rfl ?_
  refine Gk.aloadN X1 hx (hb hby d2_172) rfl rfl ?_
  refine Gk.putF X1 hx hZ hown (host := "") (Or.inl (hw _ (List.mem_of_getElem? (i := 14) rfl))) Via.refl e1 F_bytes_a1 E_a1 (Or.inr ⟨(hw _ (List.mem_of_getElem? (i := 15) rfl)), rfl, hnm⟩) (hw _ (List.mem_of_getElem? (i := 7) rfl)) (ty := (.array .byte)) (by decide) rfl rfl (hb hby d2_173) ?_
  intro T6 h6 X6 e6 W6
  have Fw6 := F_bytes_a1.same W6
  have N6 := Fr.snoc X6 N0 g_a1
  refine Gk.aloadN X6 hx (hb hby d2_176) rfl rfl ?_
  refine Gk.iloadN X6 hx (hb hby d2_177) rfl ?_
  have H7 := (E_a1.wr W6)
  have H8 := (F_start_a1.other W6 (Or.inr (slot_ne (Or.inr (hw _ (List.mem_of_getElem? (i := 17) rfl))) (Or.inr (hw _ (List.mem_of_getElem? (i := 15) rfl))) (by decide) (t := .int) (t' := (.array .byte)) (by decide) (by decide))))
  refine Gk.putF X6 hx hZ hown (host := "") (Or.inl (hw _ (List.mem_of_getElem? (i := 16) rfl))) Via.refl e6 H8 H7 (Or.inr ⟨(hw _ (List.mem_of_getElem? (i := 17) rfl)), rfl, hnm⟩) (hw _ (List.mem_of_getElem? (i := 7) rfl)) (ty := .int) (by decide) rfl rfl (hb hby d2_178) ?_
  intro T9 h9 X9 e9 W9
  have Fw9 := H8.same W9
  have N9 := Fr.snoc X9 N6 g_a1
  refine Gk.aloadN X9 hx (hb hby d2_181) rfl rfl ?_
  refine Gk.iloadN X9 hx (hb hby d2_182) rfl ?_
  refine Gk.iconst X9 hx (hb hby d2_183) (2 : Int32) rfl ?_
  refine Gk.iadd X9 hx (hb hby d2_184) (2 : Int32) (by decide) ?_
  refine Gk.iload X9 hx (hb hby d2_185) rfl ?_
  refine Gk.iadd X9 hx (hb hby d2_187) (3 : Int32) (by decide) ?_
  have H10 := (H7.wr W9)
  have H11 := ((F_contentStart_a1.other W6 (Or.inr (slot_ne (Or.inr (hw _ (List.mem_of_getElem? (i := 19) rfl))) (Or.inr (hw _ (List.mem_of_getElem? (i := 15) rfl))) (by decide) (t := .int) (t' := (.array .byte)) (by decide) (by decide)))).other W9 (Or.inr (slot_ne (Or.inr (hw _ (List.mem_of_getElem? (i := 19) rfl))) (Or.inr (hw _ (List.mem_of_getElem? (i := 17) rfl))) (by decide) (t := .int) (t' := .int) (by decide) (by decide))))
  refine Gk.putF X9 hx hZ hown (host := "") (Or.inl (hw _ (List.mem_of_getElem? (i := 18) rfl))) Via.refl e9 H11 H10 (Or.inr ⟨(hw _ (List.mem_of_getElem? (i := 19) rfl)), rfl, hnm⟩) (hw _ (List.mem_of_getElem? (i := 7) rfl)) (ty := .int) (by decide) rfl rfl (hb hby d2_188) ?_
  intro T12 h12 X12 e12 W12
  have Fw12 := H11.same W12
  have N12 := Fr.snoc X12 N9 g_a1
  refine Gk.aloadN X12 hx (hb hby d2_191) rfl rfl ?_
  refine Gk.aloadN X12 hx (hb hby d2_192) rfl rfl ?_
  refine Gk.getF X12 hx hZ hown (host := "") (Or.inl (hw _ (List.mem_of_getElem? (i := 18) rfl))) Via.refl e12 Fw12 (hb hby d2_193) ?_
  intro T13 X13 e13
  refine Gk.iload X13 hx (hb hby d2_196) rfl ?_
  refine Gk.iadd X13 hx (hb hby d2_198) (258 : Int32) (by decide) ?_
  have H14 := (H10.wr W12)
  have H15 := (((F_end_a1.other W6 (Or.inr (slot_ne (Or.inr (hw _ (List.mem_of_getElem? (i := 21) rfl))) (Or.inr (hw _ (List.mem_of_getElem? (i := 15) rfl))) (by decide) (t := .int) (t' := (.array .byte)) (by decide) (by decide)))).other W9 (Or.inr (slot_ne (Or.inr (hw _ (List.mem_of_getElem? (i := 21) rfl))) (Or.inr (hw _ (List.mem_of_getElem? (i := 17) rfl))) (by decide) (t := .int) (t' := .int) (by decide) (by decide)))).other W12 (Or.inr (slot_ne (Or.inr (hw _ (List.mem_of_getElem? (i := 21) rfl))) (Or.inr (hw _ (List.mem_of_getElem? (i := 19) rfl))) (by decide) (t := .int) (t' := .int) (by decide) (by decide))))
  refine Gk.putF X13 hx hZ hown (host := "") (Or.inl (hw _ (List.mem_of_getElem? (i := 20) rfl))) Via.refl e13 H15 H14 (Or.inr ⟨(hw _ (List.mem_of_getElem? (i := 21) rfl)), rfl, hnm⟩) (hw _ (List.mem_of_getElem? (i := 7) rfl)) (ty := .int) (by decide) rfl rfl (hb hby d2_199) ?_
  intro T16 h16 X16 e16 W16
  have Fw16 := H15.same W16
  have N16 := Fr.snoc X16 N12 g_a1
  refine Gk.aloadN X16 hx (hb hby d2_202) rfl rfl ?_
  refine Gk.getF X16 hx hZ hown (host := "") (Or.inl (hw _ (List.mem_of_getElem? (i := 20) rfl))) Via.refl e16 Fw16 (hb hby d2_203) ?_
  intro T17 X17 e17
  refine Gk.iloadN X17 hx (hb hby d2_206) rfl ?_
  refine Gk.icmpYes X17 hx (hb hby d2_207) (flt (by decide : ¬ ((258 : Int32) < (258 : Int32)))).2.2.2 220 (by decide) (by decide) ?_
  have H18 := (((Fw6.other W9 (Or.inr (slot_ne (Or.inr (hw _ (List.mem_of_getElem? (i := 15) rfl))) (Or.inr (hw _ (List.mem_of_getElem? (i := 17) rfl))) (by decide) (t := (.array .byte)) (t' := .int) (by decide) (by decide)))).other W12 (Or.inr (slot_ne (Or.inr (hw _ (List.mem_of_getElem? (i := 15) rfl))) (Or.inr (hw _ (List.mem_of_getElem? (i := 19) rfl))) (by decide) (t := (.array .byte)) (t' := .int) (by decide) (by decide)))).other W16 (Or.inr (slot_ne (Or.inr (hw _ (List.mem_of_getElem? (i := 15) rfl))) (Or.inr (hw _ (List.mem_of_getElem? (i := 21) rfl))) (by decide) (t := (.array .byte)) (t' := .int) (by decide) (by decide))))
  have H19 := ((Fw9.other W12 (Or.inr (slot_ne (Or.inr (hw _ (List.mem_of_getElem? (i := 17) rfl))) (Or.inr (hw _ (List.mem_of_getElem? (i := 19) rfl))) (by decide) (t := .int) (t' := .int) (by decide) (by decide)))).other W16 (Or.inr (slot_ne (Or.inr (hw _ (List.mem_of_getElem? (i := 17) rfl))) (Or.inr (hw _ (List.mem_of_getElem? (i := 21) rfl))) (by decide) (t := .int) (t' := .int) (by decide) (by decide))))
  have H20 := (Fw12.other W16 (Or.inr (slot_ne (Or.inr (hw _ (List.mem_of_getElem? (i := 19) rfl))) (Or.inr (hw _ (List.mem_of_getElem? (i := 21) rfl))) (by decide) (t := .int) (t' := .int) (by decide) (by decide))))
  refine Go.fin X17 (v := none) (fun _ => rfl) Bd.notSynchronized (fun _ hr => X17.returnOut hx Bd.returns (hb hby d2_220) hr) (fun U' hU hF => ⟨_, _, rfl, ?_, hF.1, hF.2.1, hF.2.2.mono (by decide) (by decide)⟩)
  rw [hU, e17]
  exact ⟨rfl, N16, (((((Keep.refl h0 [a1]).wr W6 (Or.inl (List.mem_of_getElem? (i := 0) rfl))).wr W9 (Or.inl (List.mem_of_getElem? (i := 0) rfl))).wr W12 (Or.inl (List.mem_of_getElem? (i := 0) rfl))).wr W16 (Or.inl (List.mem_of_getElem? (i := 0) rfl))), H18, H19, H20, Fw16⟩
theorem ef_rm1_4 (m : MethodId) (a1 : Addr) : entryFrame m #[(.ref a1)] 2 = mkF m 0 #[.val (.ref a1), .unset] [] := by first | (simp [entryFrame, mkF, argsToLocals, Value.category]; done) | rfl
def Q_rm1_4 (Z : State) (a1 : Addr) (kb : ClassId) (f : Nat → Value) (tb : Int32) (h0 : Heap) (n0 : Nat) (v : Option Value) (h : Heap) (L : List Loc) : Prop := v = some (.ref h0.size) ∧ Fr n0 L ∧ Keep h0 h [] ∧ Exa Z h h0.size "com/example/mooring/mooring/Der" ∧ Fld Z h h0.size "com/example/mooring/mooring/Der" "bytes" "[B" (.ref a1) ∧ Fld Z h h0.size "com/example/mooring/mooring/Der" "start" "I" (.int (0 : Int32)) ∧ Fld Z h h0.size "com/example/mooring/mooring/Der" "contentStart" "I" (.int (3 : Int32)) ∧ Fld Z h h0.size "com/example/mooring/mooring/Der" "end" "I" (.int (258 : Int32))
set_option maxRecDepth 65536 in
set_option maxHeartbeats 40000000 in
theorem rm1_4 (l : Launch) (Z : State) (a0 : Array Value) (hw : ∀ d ∈ tables_1, d.before a0 Z = true) (ws : List Jvm.Cond) (a1 : Addr) (kb : ClassId) (f : Nat → Value) (tb : Int32) (h0 : Heap) (n0 : Nat) (Z0 : n0 ≤ h0.size) (V_a : Arf Z h0 a1 kb .byte (258 : Int32) f) (hf0 : f 0 = (.int tb)) (hf1 : f 1 = (.int (-127 : Int32))) (hf2 : f 2 = (.int (-1 : Int32))) (htb : ¬ ((tb &&& (31 : Int32)) = (31 : Int32))) :
    MetFree l (⟨"com/example/mooring/mooring/Der", "parse", "([B)Lcom/example/mooring/mooring/Der;"⟩ : MethodName) (head1 (Jvm.Cond.code (⟨"com/example/mooring/mooring/Der", "parse", "([B)Lcom/example/mooring/mooring/Der;"⟩ : MethodName) prog_2_method_2_code 2 (some (.object "com/example/mooring/mooring/Der")) :: ws) ({ frames := 2, cells := 1, slots := 4, locals := 32 } : Room)) (fun a U => a = #[(.ref a1)] ∧ Z.Warmed39 U.vm ∧ U.heap = h0) (fun _ _ _ _ _ => True) (fun _ U o U' => ∃ v L, o = .returned v ∧ Q_rm1_4 Z a1 kb f tb h0 n0 v U'.heap L ∧ FrameEnd U o U' L ({ frames := 2, cells := 1, slots := 4, locals := 32 } : Room).cells ({ frames := 2, cells := 1, slots := 4, locals := 32 } : Room).slots) := by
  refine MetFree.of_bodySF (plainFor_of_name pn_103) hisR ?_
  intro p e s m args below meth c s₁ Bd hml0 hP hK
  obtain ⟨rfl, hZ, hh⟩ := hP
  have hx := Bd.exec
  have hby := Bd.bytes
  have hml : c.maxLocals = 2 := hml0
  have hown : s.vm.findClass "com/example/mooring/mooring/Der" = some m.cls := findClass_of_methodNamed Bd.named
  have hnm := (name_of_methodNamed Bd.named Bd.method).1
  have X0 : Stand p l e ({ frames := 2, cells := 1, slots := 4, locals := 32 } : Room) s m #[(.ref a1)] below meth c s₁ [] 0 0 := Stand.of_body Bd
  have e0 : s₁.heap = h0 := by rw [← hh, Bd.state]; rfl
  have N0 := Fr.nil n0
  show Go p e below (s₁.setTop (entryFrame m #[(.ref a1)] 2)) (fun o U' => ∃ v L, o = .returned v ∧ Q_rm1_4 Z a1 kb f tb h0 n0 v U'.heap L ∧ FrameEnd s o U' L ({ frames := 2, cells := 1, slots := 4, locals := 32 } : Room).cells ({ frames := 2, cells := 1, slots := 4, locals := 32 } : Room).slots)
  rw [ef_rm1_4]
  refine Gk.newO X0 hx hZ hown (hw _ (List.mem_of_getElem? (i := 6) rfl)) (hw _ (List.mem_of_getElem? (i := 7) rfl)) (hw _ (List.mem_of_getElem? (i := 4) rfl)) e0 (hb hby d1_0) (by decide) (by decide) ?_
  intro T1 h1 b1 X1 e1 E1 g1 A1 D1
  have g_b1 : n0 ≤ b1 := Nat.le_trans Z0 (Nat.le_of_eq g1.symm)
  have lt_b1 := A1.lt
  have F_bytes_b1 : Fld Z h1 b1 "com/example/mooring/mooring/Der" "bytes" "[B" .null := D1 (Or.inr (hw _ (List.mem_of_getElem? (i := 15) rfl))) (ty := (.array .byte)) (by decide)
  have F_start_b1 : Fld Z h1 b1 "com/example/mooring/mooring/Der" "start" "I" (.int (0 : Int32)) := D1 (Or.inr (hw _ (List.mem_of_getElem? (i := 17) rfl))) (ty := .int) (by decide)
  have F_contentStart_b1 : Fld Z h1 b1 "com/example/mooring/mooring/Der" "contentStart" "I" (.int (0 : Int32)) := D1 (Or.inr (hw _ (List.mem_of_getElem? (i := 19) rfl))) (ty := .int) (by decide)
  have F_end_b1 : Fld Z h1 b1 "com/example/mooring/mooring/Der" "end" "I" (.int (0 : Int32)) := D1 (Or.inr (hw _ (List.mem_of_getElem? (i := 21) rfl))) (ty := .int) (by decide)
  refine Gk.dup X1 hx (hb hby d1_3) rfl ?_
  refine Gk.aloadN X1 hx (hb hby d1_4) rfl rfl ?_
  refine Gk.iconst X1 hx (hb hby d1_5) (0 : Int32) rfl ?_
  refine Gk.aloadN X1 hx (hb hby d1_6) rfl rfl ?_
  have H2 := (V_a.ext E1)
  refine Gk.alen X1 hx hZ e1 H2 (hb hby d1_7) ?_
  have ne4 : b1 ≠ a1 := (Nat.ne_of_gt (Nat.lt_of_lt_of_le V_a.lt (Nat.le_trans (Nat.le_refl _) (Nat.le_of_eq g1.symm))))
  refine Gk.callI (argsL := [(.ref a1), (.int (0 : Int32)), (.int (258 : Int32))]) X1 hx hZ hown (rm2_4 l Z a0 hw [] b1 a1 kb f tb .null (.int (0 : Int32)) (.int (0 : Int32)) (.int (0 : Int32)) h1 n0 (Nat.le_trans Z0 E1.1) A1 H2 hf0 hf1 hf2 htb ne4 F_bytes_b1 g_b1 F_start_b1 F_contentStart_b1 F_end_b1) rfl (hw _ (List.mem_of_getElem? (i := 8) rfl)) (hw _ (List.mem_of_getElem? (i := 9) rfl)) (hw _ (List.mem_of_getElem? (i := 10) rfl)) rfl (by decide) (hw _ (List.mem_of_getElem? (i := 4) rfl)) e1 pd_3 rfl rfl (by decide) (Nat.le_of_ble_eq_true rfl) (by decide) (by decide) (by rw [hml]; rfl)  rfl (hb hby d1_8) ?_
  intro T3 L3 v3 X3 hQ3
  obtain ⟨rfl, N3q, K3, Fi3_bytes, Fi3_start, Fi3_contentStart, Fi3_end⟩ := hQ3
  have N3 := Fr.app N0 N3q
  show Go p e below (T3.setTop (mkF m 11 #[.val (.ref a1), .unset] [(.ref b1)])) _
  refine Gk.astoreN X3 hx (hb hby d1_11) rfl #[.val (.ref a1), .val (.ref b1)] rfl ?_
  refine Gk.aloadN X3 hx (hb hby d1_12) rfl rfl ?_
  refine Gk.getF X3 hx hZ hown (host := "") (Or.inl (hw _ (List.mem_of_getElem? (i := 20) rfl))) Via.refl rfl Fi3_end (hb hby d1_13) ?_
  intro T5 X5 e5
  refine Gk.aloadN X5 hx (hb hby d1_16) rfl rfl ?_
  have H6 := (H2.keep K3 (ninS (Ne.symm ne4) nin0))
  refine Gk.alen X5 hx hZ e5 H6 (hb hby d1_17) ?_
  refine Gk.icmpYes X5 hx (hb hby d1_18) (teq (by decide : (258 : Int32) = (258 : Int32))).1 31 (by decide) (by decide) ?_
  refine Gk.aloadN X5 hx (hb hby d1_31) rfl rfl ?_
  have H7 := (A1.keep K3)
  refine Go.fin X5 (v := some (.ref b1)) (fun h_ => by rw [Bd.returns] at h_; cases h_) Bd.notSynchronized (fun _ hr => retOut X5 hx Bd.returns rfl (Or.inr (Or.inr (Or.inr (Or.inr ⟨rfl, rfl, rfl⟩)))) (hb hby d1_32) hr) (fun U' hU hF => ⟨_, _, rfl, ?_, hF.1, hF.2.1, hF.2.2.mono (by decide) (by decide)⟩)
  rw [hU, e5]
  exact ⟨(congrArg (fun z_ : Addr => some (Value.ref z_)) (show b1 = h0.size from g1)), N3, (((Keep.refl h0 []).ext E1).trans K3 (allS (Or.inr (Nat.le_trans (Nat.le_refl _) (Nat.le_of_eq g1.symm))) all0)), (g1 ▸ H7), (g1 ▸ Fi3_bytes), (g1 ▸ Fi3_start), (g1 ▸ Fi3_contentStart), (g1 ▸ Fi3_end)⟩
theorem ef_rm4_4 (m : MethodId) (a1 : Addr) : entryFrame m #[(.ref a1)] 1 = mkF m 0 #[.val (.ref a1)] [] := by first | (simp [entryFrame, mkF, argsToLocals, Value.category]; done) | rfl
def Q_rm4_4 (Z : State) (a1 : Addr) (ar : Addr) (kb : ClassId) (f : Nat → Value) (tb : Int32) (h0 : Heap) (n0 : Nat) (v : Option Value) (h : Heap) (L : List Loc) : Prop := v = some (.int (tb &&& (255 : Int32))) ∧ Fr n0 L ∧ h = h0
set_option maxRecDepth 65536 in
set_option maxHeartbeats 40000000 in
theorem rm4_4 (l : Launch) (Z : State) (a0 : Array Value) (hw : ∀ d ∈ tables_1, d.before a0 Z = true) (ws : List Jvm.Cond) (a1 : Addr) (ar : Addr) (kb : ClassId) (f : Nat → Value) (tb : Int32) (h0 : Heap) (n0 : Nat) (Z0 : n0 ≤ h0.size) (V_a : Arf Z h0 ar kb .byte (258 : Int32) f) (F_bytes : Fld Z h0 a1 "com/example/mooring/mooring/Der" "bytes" "[B" (.ref ar)) (F_start : Fld Z h0 a1 "com/example/mooring/mooring/Der" "start" "I" (.int (0 : Int32))) (F_contentStart : Fld Z h0 a1 "com/example/mooring/mooring/Der" "contentStart" "I" (.int (3 : Int32))) (F_end : Fld Z h0 a1 "com/example/mooring/mooring/Der" "end" "I" (.int (258 : Int32))) (hf0 : f 0 = (.int tb)) :
    MetFree l (⟨"com/example/mooring/mooring/Der", "tag", "()I"⟩ : MethodName) (head1 (Jvm.Cond.code (⟨"com/example/mooring/mooring/Der", "tag", "()I"⟩ : MethodName) prog_2_method_3_code 1 (some .int) :: ws) ({ frames := 0, cells := 0, slots := 0, locals := 0 } : Room)) (fun a U => a = #[(.ref a1)] ∧ Z.Warmed39 U.vm ∧ U.heap = h0) (fun _ _ _ _ _ => True) (fun _ U o U' => ∃ v L, o = .returned v ∧ Q_rm4_4 Z a1 ar kb f tb h0 n0 v U'.heap L ∧ FrameEnd U o U' L ({ frames := 0, cells := 0, slots := 0, locals := 0 } : Room).cells ({ frames := 0, cells := 0, slots := 0, locals := 0 } : Room).slots) := by
  refine MetFree.of_bodySF (plainFor_of_name pn_103) hisR ?_
  intro p e s m args below meth c s₁ Bd hml0 hP hK
  obtain ⟨rfl, hZ, hh⟩ := hP
  have hx := Bd.exec
  have hby := Bd.bytes
  have hml : c.maxLocals = 1 := hml0
  have hown : s.vm.findClass "com/example/mooring/mooring/Der" = some m.cls := findClass_of_methodNamed Bd.named
  have hnm := (name_of_methodNamed Bd.named Bd.method).1
  have X0 : Stand p l e ({ frames := 0, cells := 0, slots := 0, locals := 0 } : Room) s m #[(.ref a1)] below meth c s₁ [] 0 0 := Stand.of_body Bd
  have e0 : s₁.heap = h0 := by rw [← hh, Bd.state]; rfl
  have N0 := Fr.nil n0
  show Go p e below (s₁.setTop (entryFrame m #[(.ref a1)] 1)) (fun o U' => ∃ v L, o = .returned v ∧ Q_rm4_4 Z a1 ar kb f tb h0 n0 v U'.heap L ∧ FrameEnd s o U' L ({ frames := 0, cells := 0, slots := 0, locals := 0 } : Room).cells ({ frames := 0, cells := 0, slots := 0, locals := 0 } : Room).slots)
  rw [ef_rm4_4]
  refine Gk.aloadN X0 hx (hb hby d4_0) rfl rfl ?_
  refine Gk.getF X0 hx hZ hown (host := "") (Or.inl (hw _ (List.mem_of_getElem? (i := 14) rfl))) Via.refl e0 F_bytes (hb hby d4_1) ?_
  intro T1 X1 e1
  refine Gk.aloadN X1 hx (hb hby d4_4) rfl rfl ?_
  refine Gk.getF X1 hx hZ hown (host := "") (Or.inl (hw _ (List.mem_of_getElem? (i := 16) rfl))) Via.refl e1 F_start (hb hby d4_5) ?_
  intro T2 X2 e2
  refine Gk.baloadB X2 hx hZ e2 V_a ⟨by decide, by decide⟩ (.int tb) hf0 (hb hby d4_8) ?_
  refine Gk.sipush X2 hx (hb hby d4_9) (255 : Int32) rfl ?_
  refine Gk.iand X2 hx (hb hby d4_12) _ rfl ?_
  refine Go.fin X2 (v := some (.int (tb &&& (255 : Int32)))) (fun h_ => by rw [Bd.returns] at h_; cases h_) Bd.notSynchronized (fun _ hr => retOut X2 hx Bd.returns rfl (Or.inl ⟨rfl, Or.inl rfl, _, rfl⟩) (hb hby d4_13) hr) (fun U' hU hF => ⟨_, _, rfl, ?_, hF.1, hF.2.1, hF.2.2.mono (by decide) (by decide)⟩)
  rw [hU, e2]
  exact ⟨(congrArg (fun z_ : Int32 => some (Value.int z_)) (show (tb &&& (255 : Int32)) = (tb &&& (255 : Int32)) from rfl)), N0, rfl⟩
theorem ef_rm5_4 (m : MethodId) (a1 : Addr) : entryFrame m #[(.ref a1)] 1 = mkF m 0 #[.val (.ref a1)] [] := by first | (simp [entryFrame, mkF, argsToLocals, Value.category]; done) | rfl
def Q_rm5_4 (Z : State) (a1 : Addr) (ar : Addr) (kb : ClassId) (f : Nat → Value) (h0 : Heap) (n0 : Nat) (v : Option Value) (h : Heap) (L : List Loc) : Prop := v = some (.ref h0.size) ∧ Fr n0 L ∧ Keep h0 h [] ∧ ∃ kr : ClassId, Arf Z h h0.size kr .byte (255 : Int32) (fun i => if 0 ≤ i ∧ i < 0 + 255 then f (3 + (i - 0)) else (.int (0 : Int32)))
set_option maxRecDepth 65536 in
set_option maxHeartbeats 40000000 in
theorem rm5_4 (l : Launch) (Z : State) (a0 : Array Value) (hw : ∀ d ∈ tables_1, d.before a0 Z = true) (ws : List Jvm.Cond) (a1 : Addr) (ar : Addr) (kb : ClassId) (f : Nat → Value) (h0 : Heap) (n0 : Nat) (Z0 : n0 ≤ h0.size) (V_a : Arf Z h0 ar kb .byte (258 : Int32) f) (F_bytes : Fld Z h0 a1 "com/example/mooring/mooring/Der" "bytes" "[B" (.ref ar)) (F_start : Fld Z h0 a1 "com/example/mooring/mooring/Der" "start" "I" (.int (0 : Int32))) (F_contentStart : Fld Z h0 a1 "com/example/mooring/mooring/Der" "contentStart" "I" (.int (3 : Int32))) (F_end : Fld Z h0 a1 "com/example/mooring/mooring/Der" "end" "I" (.int (258 : Int32))) :
    MetFree l (⟨"com/example/mooring/mooring/Der", "content", "()[B"⟩ : MethodName) (head1 (Jvm.Cond.code (⟨"com/example/mooring/mooring/Der", "content", "()[B"⟩ : MethodName) prog_2_method_4_code 1 (some (.array .byte)) :: ws) ({ frames := 3, cells := 1, slots := 255, locals := 70 } : Room)) (fun a U => a = #[(.ref a1)] ∧ Z.Warmed39 U.vm ∧ U.heap = h0) (fun _ _ _ _ _ => True) (fun _ U o U' => ∃ v L, o = .returned v ∧ Q_rm5_4 Z a1 ar kb f h0 n0 v U'.heap L ∧ FrameEnd U o U' L ({ frames := 3, cells := 1, slots := 255, locals := 70 } : Room).cells ({ frames := 3, cells := 1, slots := 255, locals := 70 } : Room).slots) := by
  refine MetFree.of_bodySF (plainFor_of_name pn_103) hisR ?_
  intro p e s m args below meth c s₁ Bd hml0 hP hK
  obtain ⟨rfl, hZ, hh⟩ := hP
  have hx := Bd.exec
  have hby := Bd.bytes
  have hml : c.maxLocals = 1 := hml0
  have hown : s.vm.findClass "com/example/mooring/mooring/Der" = some m.cls := findClass_of_methodNamed Bd.named
  have hnm := (name_of_methodNamed Bd.named Bd.method).1
  have X0 : Stand p l e ({ frames := 3, cells := 1, slots := 255, locals := 70 } : Room) s m #[(.ref a1)] below meth c s₁ [] 0 0 := Stand.of_body Bd
  have e0 : s₁.heap = h0 := by rw [← hh, Bd.state]; rfl
  have N0 := Fr.nil n0
  show Go p e below (s₁.setTop (entryFrame m #[(.ref a1)] 1)) (fun o U' => ∃ v L, o = .returned v ∧ Q_rm5_4 Z a1 ar kb f h0 n0 v U'.heap L ∧ FrameEnd s o U' L ({ frames := 3, cells := 1, slots := 255, locals := 70 } : Room).cells ({ frames := 3, cells := 1, slots := 255, locals := 70 } : Room).slots)
  rw [ef_rm5_4]
  refine Gk.aloadN X0 hx (hb hby d5_0) rfl rfl ?_
  refine Gk.getF X0 hx hZ hown (host := "") (Or.inl (hw _ (List.mem_of_getElem? (i := 14) rfl))) Via.refl e0 F_bytes (hb hby d5_1) ?_
  intro T1 X1 e1
  refine Gk.aloadN X1 hx (hb hby d5_4) rfl rfl ?_
  refine Gk.getF X1 hx hZ hown (host := "") (Or.inl (hw _ (List.mem_of_getElem? (i := 18) rfl))) Via.refl e1 F_contentStart (hb hby d5_5) ?_
  intro T2 X2 e2
  refine Gk.aloadN X2 hx (hb hby d5_8) rfl rfl ?_
  refine Gk.getF X2 hx hZ hown (host := "") (Or.inl (hw _ (List.mem_of_getElem? (i := 20) rfl))) Via.refl e2 F_end (hb hby d5_9) ?_
  intro T3 X3 e3
  refine Gk.callS (argsL := [(.ref ar), (.int (3 : Int32)), (.int (258 : Int32))]) X3 hx hZ hown (rm6c_4 l Z a0 hw [] ar kb f h0 n0 Z0 V_a) (hw _ (List.mem_of_getElem? (i := 32) rfl)) (hw _ (List.mem_of_getElem? (i := 33) rfl)) (hw _ (List.mem_of_getElem? (i := 34) rfl)) (hw _ (List.mem_of_getElem? (i := 35) rfl)) (by decide) e3 pd_2 rfl rfl (by decide) (Nat.le_of_ble_eq_true rfl) (by decide) (by decide) (by rw [hml]; rfl)  rfl (hb hby d5_12) ?_
  intro T4 L4 v4 X4 hQ4
  obtain ⟨rfl, N4q, K4, k4, A4⟩ := hQ4
  have N4 := Fr.app N0 N4q
  obtain ⟨b4, g4⟩ : ∃ z_, z_ = h0.size := ⟨_, rfl⟩
  rw [← g4] at A4 ⊢
  have g_b4 : n0 ≤ b4 := Nat.le_trans Z0 (Nat.le_of_eq g4.symm)
  have lt_b4 : b4 < T4.heap.size := A4.lt
  show Go p e below (T4.setTop (mkF m 15 #[.val (.ref a1)] [(.ref b4)])) _
  refine Go.fin X4 (v := some (.ref b4)) (fun h_ => by rw [Bd.returns] at h_; cases h_) Bd.notSynchronized (fun _ hr => retOut X4 hx Bd.returns rfl (Or.inr (Or.inr (Or.inr (Or.inr ⟨rfl, rfl, rfl⟩)))) (hb hby d5_15) hr) (fun U' hU hF => ⟨_, _, rfl, ?_, hF.1, hF.2.1, hF.2.2.mono (by decide) (by decide)⟩)
  rw [hU]
  exact ⟨(congrArg (fun z_ : Addr => some (Value.ref z_)) (show b4 = h0.size from g4)), N4, ((Keep.refl h0 []).trans K4 all0), _, (g4 ▸ A4)⟩
theorem ef_rm10_4 (m : MethodId) (a1 : Addr) : entryFrame m #[(.ref a1)] 1 = mkF m 0 #[.val (.ref a1)] [] := by first | (simp [entryFrame, mkF, argsToLocals, Value.category]; done) | rfl
def Q_rm10_4 (Z : State) (a1 : Addr) (ar : Addr) (kb : ClassId) (f : Nat → Value) (h0 : Heap) (n0 : Nat) (v : Option Value) (h : Heap) (L : List Loc) : Prop := v = some (.ref h0.size) ∧ Fr n0 L ∧ Keep h0 h [] ∧ ∃ kr : ClassId, Arf Z h h0.size kr .byte (258 : Int32) f
set_option maxRecDepth 65536 in
set_option maxHeartbeats 40000000 in
theorem rm10_4 (l : Launch) (Z : State) (a0 : Array Value) (hw : ∀ d ∈ tables_1, d.before a0 Z = true) (ws : List Jvm.Cond) (a1 : Addr) (ar : Addr) (kb : ClassId) (f : Nat → Value) (h0 : Heap) (n0 : Nat) (Z0 : n0 ≤ h0.size) (V_a : Arf Z h0 ar kb .byte (258 : Int32) f) (F_bytes : Fld Z h0 a1 "com/example/mooring/mooring/Der" "bytes" "[B" (.ref ar)) (F_start : Fld Z h0 a1 "com/example/mooring/mooring/Der" "start" "I" (.int (0 : Int32))) (F_contentStart : Fld Z h0 a1 "com/example/mooring/mooring/Der" "contentStart" "I" (.int (3 : Int32))) (F_end : Fld Z h0 a1 "com/example/mooring/mooring/Der" "end" "I" (.int (258 : Int32))) (E_a : Exa Z h0 ar "[B") :
    MetFree l (⟨"com/example/mooring/mooring/Der", "encoded", "()[B"⟩ : MethodName) (head1 (Jvm.Cond.code (⟨"com/example/mooring/mooring/Der", "encoded", "()[B"⟩ : MethodName) prog_2_method_5_code 1 (some (.array .byte)) :: ws) ({ frames := 2, cells := 1, slots := 258, locals := 28 } : Room)) (fun a U => a = #[(.ref a1)] ∧ Z.Warmed39 U.vm ∧ U.heap = h0) (fun _ _ _ _ _ => True) (fun _ U o U' => ∃ v L, o = .returned v ∧ Q_rm10_4 Z a1 ar kb f h0 n0 v U'.heap L ∧ FrameEnd U o U' L ({ frames := 2, cells := 1, slots := 258, locals := 28 } : Room).cells ({ frames := 2, cells := 1, slots := 258, locals := 28 } : Room).slots) := by
  refine MetFree.of_bodySF (plainFor_of_name pn_103) hisR ?_
  intro p e s m args below meth c s₁ Bd hml0 hP hK
  obtain ⟨rfl, hZ, hh⟩ := hP
  have hx := Bd.exec
  have hby := Bd.bytes
  have hml : c.maxLocals = 1 := hml0
  have hown : s.vm.findClass "com/example/mooring/mooring/Der" = some m.cls := findClass_of_methodNamed Bd.named
  have hnm := (name_of_methodNamed Bd.named Bd.method).1
  have X0 : Stand p l e ({ frames := 2, cells := 1, slots := 258, locals := 28 } : Room) s m #[(.ref a1)] below meth c s₁ [] 0 0 := Stand.of_body Bd
  have e0 : s₁.heap = h0 := by rw [← hh, Bd.state]; rfl
  have N0 := Fr.nil n0
  show Go p e below (s₁.setTop (entryFrame m #[(.ref a1)] 1)) (fun o U' => ∃ v L, o = .returned v ∧ Q_rm10_4 Z a1 ar kb f h0 n0 v U'.heap L ∧ FrameEnd s o U' L ({ frames := 2, cells := 1, slots := 258, locals := 28 } : Room).cells ({ frames := 2, cells := 1, slots := 258, locals := 28 } : Room).slots)
  rw [ef_rm10_4]
  refine Gk.aloadN X0 hx (hb hby d10_0) rfl rfl ?_
  refine Gk.getF X0 hx hZ hown (host := "") (Or.inl (hw _ (List.mem_of_getElem? (i := 14) rfl))) Via.refl e0 F_bytes (hb hby d10_1) ?_
  intro T1 X1 e1
  refine Gk.aloadN X1 hx (hb hby d10_4) rfl rfl ?_
  refine Gk.getF X1 hx hZ hown (host := "") (Or.inl (hw _ (List.mem_of_getElem? (i := 16) rfl))) Via.refl e1 F_start (hb hby d10_5) ?_
  intro T2 X2 e2
  refine Gk.aloadN X2 hx (hb hby d10_8) rfl rfl ?_
  refine Gk.getF X2 hx hZ hown (host := "") (Or.inl (hw _ (List.mem_of_getElem? (i := 20) rfl))) Via.refl e2 F_end (hb hby d10_9) ?_
  intro T3 X3 e3
  refine Gk.callS (argsL := [(.ref ar), (.int (0 : Int32)), (.int (258 : Int32))]) X3 hx hZ hown (rm6e_4 l Z a0 hw [] ar kb f h0 n0 Z0 V_a E_a) (hw _ (List.mem_of_getElem? (i := 32) rfl)) (hw _ (List.mem_of_getElem? (i := 33) rfl)) (hw _ (List.mem_of_getElem? (i := 34) rfl)) (hw _ (List.mem_of_getElem? (i := 35) rfl)) (by decide) e3 pd_2 rfl rfl (by decide) (Nat.le_of_ble_eq_true rfl) (by decide) (by decide) (by rw [hml]; rfl)  rfl (hb hby d10_12) ?_
  intro T4 L4 v4 X4 hQ4
  obtain ⟨rfl, N4q, K4, k4, A4⟩ := hQ4
  have N4 := Fr.app N0 N4q
  obtain ⟨b4, g4⟩ : ∃ z_, z_ = h0.size := ⟨_, rfl⟩
  rw [← g4] at A4 ⊢
  have g_b4 : n0 ≤ b4 := Nat.le_trans Z0 (Nat.le_of_eq g4.symm)
  have lt_b4 : b4 < T4.heap.size := A4.lt
  show Go p e below (T4.setTop (mkF m 15 #[.val (.ref a1)] [(.ref b4)])) _
  refine Go.fin X4 (v := some (.ref b4)) (fun h_ => by rw [Bd.returns] at h_; cases h_) Bd.notSynchronized (fun _ hr => retOut X4 hx Bd.returns rfl (Or.inr (Or.inr (Or.inr (Or.inr ⟨rfl, rfl, rfl⟩)))) (hb hby d10_15) hr) (fun U' hU hF => ⟨_, _, rfl, ?_, hF.1, hF.2.1, hF.2.2.mono (by decide) (by decide)⟩)
  rw [hU]
  exact ⟨(congrArg (fun z_ : Addr => some (Value.ref z_)) (show b4 = h0.size from g4)), N4, ((Keep.refl h0 []).trans K4 all0), _, (g4 ▸ A4)⟩
theorem ef_rm7_5 (m : MethodId) (a1 : Addr) : entryFrame m #[(.ref a1), (.int (4 : Int32)), (.int (260 : Int32))] 5 = mkF m 0 #[.val (.ref a1), .val (.int (4 : Int32)), .val (.int (260 : Int32)), .unset, .unset] [] := by first | (simp [entryFrame, mkF, argsToLocals, Value.category]; done) | rfl
def Q_rm7_5 (Z : State) (a1 : Addr) (kb : ClassId) (f : Nat → Value) (h0 : Heap) (n0 : Nat) (v : Option Value) (h : Heap) (L : List Loc) : Prop := v = some (.ref h0.size) ∧ Fr n0 L ∧ Keep h0 h [] ∧ ∃ kr : ClassId, Arf Z h h0.size kr .byte (256 : Int32) (fun i => if 0 ≤ i ∧ i < 0 + 256 then f (4 + (i - 0)) else (.int (0 : Int32)))
set_option maxRecDepth 65536 in
set_option maxHeartbeats 40000000 in
theorem rm7_5 (l : Launch) (Z : State) (a0 : Array Value) (hw : ∀ d ∈ tables_1, d.before a0 Z = true) (ws : List Jvm.Cond) (a1 : Addr) (kb : ClassId) (f : Nat → Value) (h0 : Heap) (n0 : Nat) (Z0 : n0 ≤ h0.size) (V_a : Arf Z h0 a1 kb .byte (260 : Int32) f) :
    MetFree l (⟨"java/util/Arrays", "copyOfRangeByte", "([BII)[B"⟩ : MethodName) (head1 (Jvm.Cond.code (⟨"java/util/Arrays", "copyOfRangeByte", "([BII)[B"⟩ : MethodName) jdk_65_method_133_code 5 (some (.array .byte)) :: ws) ({ frames := 1, cells := 1, slots := 256, locals := 40 } : Room)) (fun a U => a = #[(.ref a1), (.int (4 : Int32)), (.int (260 : Int32))] ∧ Z.Warmed39 U.vm ∧ U.heap = h0) (fun _ _ _ _ _ => True) (fun _ U o U' => ∃ v L, o = .returned v ∧ Q_rm7_5 Z a1 kb f h0 n0 v U'.heap L ∧ FrameEnd U o U' L ({ frames := 1, cells := 1, slots := 256, locals := 40 } : Room).cells ({ frames := 1, cells := 1, slots := 256, locals := 40 } : Room).slots) := by
  refine MetFree.of_bodySF (plainFor_of_name pn_11) hisR ?_
  intro p e s m args below meth c s₁ Bd hml0 hP hK
  obtain ⟨rfl, hZ, hh⟩ := hP
  have hx := Bd.exec
  have hby := Bd.bytes
  have hml : c.maxLocals = 5 := hml0
  have hown : s.vm.findClass "java/util/Arrays" = some m.cls := findClass_of_methodNamed Bd.named
  have hnm := (name_of_methodNamed Bd.named Bd.method).1
  have X0 : Stand p l e ({ frames := 1, cells := 1, slots := 256, locals := 40 } : Room) s m #[(.ref a1), (.int (4 : Int32)), (.int (260 : Int32))] below meth c s₁ [] 0 0 := Stand.of_body Bd
  have e0 : s₁.heap = h0 := by rw [← hh, Bd.state]; rfl
  have N0 := Fr.nil n0
  show Go p e below (s₁.setTop (entryFrame m #[(.ref a1), (.int (4 : Int32)), (.int (260 : Int32))] 5)) (fun o U' => ∃ v L, o = .returned v ∧ Q_rm7_5 Z a1 kb f h0 n0 v U'.heap L ∧ FrameEnd s o U' L ({ frames := 1, cells := 1, slots := 256, locals := 40 } : Room).cells ({ frames := 1, cells := 1, slots := 256, locals := 40 } : Room).slots)
  rw [ef_rm7_5]
  refine Gk.iloadN X0 hx (hb hby d7_0) rfl ?_
  refine Gk.iloadN X0 hx (hb hby d7_1) rfl ?_
  refine Gk.callS (argsL := [(.int (4 : Int32)), (.int (260 : Int32))]) X0 hx hZ hown (rm8 l Z a0 hw [] (4 : Int32) (260 : Int32) h0 n0 Z0 (by decide)) (hw _ (List.mem_of_getElem? (i := 39) rfl)) (hw _ (List.mem_of_getElem? (i := 40) rfl)) (hw _ (List.mem_of_getElem? (i := 34) rfl)) (hw _ (List.mem_of_getElem? (i := 41) rfl)) (by decide) e0 pd_0 rfl rfl (by decide) (Nat.le_of_ble_eq_true rfl) (by decide) (by decide) (by rw [hml]; rfl)  rfl (hb hby d7_2) ?_
  intro T1 L1 v1 X1 hQ1
  obtain ⟨rfl, N1q, e1⟩ := hQ1
  have N1 := Fr.app N0 N1q
  show Go p e below (T1.setTop (mkF m 5 #[.val (.ref a1), .val (.int (4 : Int32)), .val (.int (260 : Int32)), .unset, .unset] [])) _
  refine Gk.iloadN X1 hx (hb hby d7_5) rfl ?_
  refine Gk.iloadN X1 hx (hb hby d7_6) rfl ?_
  refine Gk.isub X1 hx (hb hby d7_7) (256 : Int32) (by decide) ?_
  refine Gk.istoreN X1 hx (hb hby d7_8) #[.val (.ref a1), .val (.int (4 : Int32)), .val (.int (260 : Int32)), .val (.int (256 : Int32)), .unset] rfl ?_
  refine Gk.iloadN X1 hx (hb hby d7_9) rfl ?_
  refine Gk.newP X1 hx hZ (hw _ (List.mem_of_getElem? (i := 1) rfl)) e1 (hb hby d7_10) (by decide) (cap := 256) (by decide) (by decide) (by decide) (by decide) rfl ?_
  intro T2 h2 b2 k2 X2 e2 E2 g2 A2 B2
  have g_b2 : n0 ≤ b2 := Nat.le_trans Z0 (Nat.le_of_eq g2.symm)
  have V_b2 : Arf Z h2 b2 k2 .byte (256 : Int32) (fun _ => (.int (0 : Int32))) := A2
  have lt_b2 := V_b2.lt
  refine Gk.astore X2 hx (hb hby d7_12) rfl #[.val (.ref a1), .val (.int (4 : Int32)), .val (.int (260 : Int32)), .val (.int (256 : Int32)), .val (.ref b2)] rfl ?_
  refine Gk.aloadN X2 hx (hb hby d7_14) rfl rfl ?_
  refine Gk.iloadN X2 hx (hb hby d7_15) rfl ?_
  refine Gk.aload X2 hx (hb hby d7_16) rfl rfl ?_
  refine Gk.iconst X2 hx (hb hby d7_18) (0 : Int32) rfl ?_
  refine Gk.aloadN X2 hx (hb hby d7_19) rfl rfl ?_
  have H3 := (V_a.ext E2)
  refine Gk.alen X2 hx hZ e2 H3 (hb hby d7_20) ?_
  refine Gk.iloadN X2 hx (hb hby d7_21) rfl ?_
  refine Gk.isub X2 hx (hb hby d7_22) (256 : Int32) (by decide) ?_
  refine Gk.iloadN X2 hx (hb hby d7_23) rfl ?_
  refine Gk.callS (argsL := [(.int (256 : Int32)), (.int (256 : Int32))]) X2 hx hZ hown (rm9 l Z a0 hw [] (256 : Int32) (256 : Int32) h2 n0 (Nat.le_trans Z0 E2.1)) (hw _ (List.mem_of_getElem? (i := 42) rfl)) (hw _ (List.mem_of_getElem? (i := 43) rfl)) (hw _ (List.mem_of_getElem? (i := 44) rfl)) (hw _ (List.mem_of_getElem? (i := 45) rfl)) (by decide) e2 pd_1 rfl rfl (by decide) (Nat.le_of_ble_eq_true rfl) (by decide) (by decide) (by rw [hml]; rfl)  rfl (hb hby d7_24) ?_
  intro T4 L4 v4 X4 hQ4
  obtain ⟨rfl, N4q, e4⟩ := hQ4
  have N4 := Fr.app N1 N4q
  show Go p e below (T4.setTop (mkF m 27 #[.val (.ref a1), .val (.int (4 : Int32)), .val (.int (260 : Int32)), .val (.int (256 : Int32)), .val (.ref b2)] [(.int (if (256 : Int32) < (256 : Int32) then (256 : Int32) else (256 : Int32))), (.int (0 : Int32)), (.ref b2), (.int (4 : Int32)), (.ref a1)])) _
  rw [show (if (256 : Int32) < (256 : Int32) then (256 : Int32) else (256 : Int32)) = (256 : Int32) from by decide]
  refine Gk.copy X4 hx hZ hown (hw _ (List.mem_of_getElem? (i := 46) rfl)) (hw _ (List.mem_of_getElem? (i := 49) rfl)) (hw _ (List.mem_of_getElem? (i := 47) rfl)) (hw _ (List.mem_of_getElem? (i := 48) rfl)) e4 H3 V_b2 rfl (by decide) (by decide) (by decide) (by decide) (by decide) N4 g_b2 (fun i => if 0 ≤ i ∧ i < 0 + 256 then f (4 + (i - 0)) else (fun _ => (.int (0 : Int32))) i) (fun _ _ => rfl) (by rw [hml]; rfl) (hb hby d7_27) (by decide) (Nat.le_of_ble_eq_true rfl) ?_
  intro T5 h5 L5 X5 e5 N5 K5 V5
  refine Gk.aload X5 hx (hb hby d7_30) rfl rfl ?_
  refine Go.fin X5 (v := some (.ref b2)) (fun h_ => by rw [Bd.returns] at h_; cases h_) Bd.notSynchronized (fun _ hr => retOut X5 hx Bd.returns rfl (Or.inr (Or.inr (Or.inr (Or.inr ⟨rfl, rfl, rfl⟩)))) (hb hby d7_32) hr) (fun U' hU hF => ⟨_, _, rfl, ?_, hF.1, hF.2.1, hF.2.2.mono (by decide) (by decide)⟩)
  rw [hU, e5]
  exact ⟨(congrArg (fun z_ : Addr => some (Value.ref z_)) (show b2 = h0.size from g2)), N5, (((Keep.refl h0 []).ext E2).trans K5 (allS (Or.inr (Nat.le_trans (Nat.le_refl _) (Nat.le_of_eq g2.symm))) all0)), _, (g2 ▸ V5)⟩
theorem ef_rm6c_5 (m : MethodId) (a1 : Addr) : entryFrame m #[(.ref a1), (.int (4 : Int32)), (.int (260 : Int32))] 3 = mkF m 0 #[.val (.ref a1), .val (.int (4 : Int32)), .val (.int (260 : Int32))] [] := by first | (simp [entryFrame, mkF, argsToLocals, Value.category]; done) | rfl
def Q_rm6c_5 (Z : State) (a1 : Addr) (kb : ClassId) (f : Nat → Value) (h0 : Heap) (n0 : Nat) (v : Option Value) (h : Heap) (L : List Loc) : Prop := v = some (.ref h0.size) ∧ Fr n0 L ∧ Keep h0 h [] ∧ ∃ kr : ClassId, Arf Z h h0.size kr .byte (256 : Int32) (fun i => if 0 ≤ i ∧ i < 0 + 256 then f (4 + (i - 0)) else (.int (0 : Int32)))
set_option maxRecDepth 65536 in
set_option maxHeartbeats 40000000 in
theorem rm6c_5 (l : Launch) (Z : State) (a0 : Array Value) (hw : ∀ d ∈ tables_1, d.before a0 Z = true) (ws : List Jvm.Cond) (a1 : Addr) (kb : ClassId) (f : Nat → Value) (h0 : Heap) (n0 : Nat) (Z0 : n0 ≤ h0.size) (V_a : Arf Z h0 a1 kb .byte (260 : Int32) f) :
    MetFree l (⟨"java/util/Arrays", "copyOfRange", "([BII)[B"⟩ : MethodName) (head1 (Jvm.Cond.code (⟨"java/util/Arrays", "copyOfRange", "([BII)[B"⟩ : MethodName) jdk_65_method_132_code 3 (some (.array .byte)) :: ws) ({ frames := 2, cells := 1, slots := 256, locals := 56 } : Room)) (fun a U => a = #[(.ref a1), (.int (4 : Int32)), (.int (260 : Int32))] ∧ Z.Warmed39 U.vm ∧ U.heap = h0) (fun _ _ _ _ _ => True) (fun _ U o U' => ∃ v L, o = .returned v ∧ Q_rm6c_5 Z a1 kb f h0 n0 v U'.heap L ∧ FrameEnd U o U' L ({ frames := 2, cells := 1, slots := 256, locals := 56 } : Room).cells ({ frames := 2, cells := 1, slots := 256, locals := 56 } : Room).slots) := by
  refine MetFree.of_bodySF (plainFor_of_name pn_11) hisR ?_
  intro p e s m args below meth c s₁ Bd hml0 hP hK
  obtain ⟨rfl, hZ, hh⟩ := hP
  have hx := Bd.exec
  have hby := Bd.bytes
  have hml : c.maxLocals = 3 := hml0
  have hown : s.vm.findClass "java/util/Arrays" = some m.cls := findClass_of_methodNamed Bd.named
  have hnm := (name_of_methodNamed Bd.named Bd.method).1
  have X0 : Stand p l e ({ frames := 2, cells := 1, slots := 256, locals := 56 } : Room) s m #[(.ref a1), (.int (4 : Int32)), (.int (260 : Int32))] below meth c s₁ [] 0 0 := Stand.of_body Bd
  have e0 : s₁.heap = h0 := by rw [← hh, Bd.state]; rfl
  have N0 := Fr.nil n0
  show Go p e below (s₁.setTop (entryFrame m #[(.ref a1), (.int (4 : Int32)), (.int (260 : Int32))] 3)) (fun o U' => ∃ v L, o = .returned v ∧ Q_rm6c_5 Z a1 kb f h0 n0 v U'.heap L ∧ FrameEnd s o U' L ({ frames := 2, cells := 1, slots := 256, locals := 56 } : Room).cells ({ frames := 2, cells := 1, slots := 256, locals := 56 } : Room).slots)
  rw [ef_rm6c_5]
  refine Gk.iloadN X0 hx (hb hby d6_0) rfl ?_
  refine Gk.ifYes X0 hx (hb hby d6_1) (feq (by decide : ¬ ((4 : Int32) = (0 : Int32)))).2 10 (by decide) (by decide) ?_
  refine Gk.aloadN X0 hx (hb hby d6_10) rfl rfl ?_
  refine Gk.iloadN X0 hx (hb hby d6_11) rfl ?_
  refine Gk.iloadN X0 hx (hb hby d6_12) rfl ?_
  refine Gk.callS (argsL := [(.ref a1), (.int (4 : Int32)), (.int (260 : Int32))]) X0 hx hZ hown (rm7_5 l Z a0 hw [] a1 kb f h0 n0 Z0 V_a) (hw _ (List.mem_of_getElem? (i := 36) rfl)) (hw _ (List.mem_of_getElem? (i := 37) rfl)) (hw _ (List.mem_of_getElem? (i := 34) rfl)) (hw _ (List.mem_of_getElem? (i := 38) rfl)) (by decide) e0 pd_2 rfl rfl (by decide) (Nat.le_of_ble_eq_true rfl) (by decide) (by decide) (by rw [hml]; rfl)  rfl (hb hby d6_13) ?_
  intro T1 L1 v1 X1 hQ1
  obtain ⟨rfl, N1q, K1, k1, A1⟩ := hQ1
  have N1 := Fr.app N0 N1q
  obtain ⟨b1, g1⟩ : ∃ z_, z_ = h0.size := ⟨_, rfl⟩
  rw [← g1] at A1 ⊢
  have g_b1 : n0 ≤ b1 := Nat.le_trans Z0 (Nat.le_of_eq g1.symm)
  have lt_b1 : b1 < T1.heap.size := A1.lt
  show Go p e below (T1.setTop (mkF m 16 #[.val (.ref a1), .val (.int (4 : Int32)), .val (.int (260 : Int32))] [(.ref b1)])) _
  refine Go.fin X1 (v := some (.ref b1)) (fun h_ => by rw [Bd.returns] at h_; cases h_) Bd.notSynchronized (fun _ hr => retOut X1 hx Bd.returns rfl (Or.inr (Or.inr (Or.inr (Or.inr ⟨rfl, rfl, rfl⟩)))) (hb hby d6_16) hr) (fun U' hU hF => ⟨_, _, rfl, ?_, hF.1, hF.2.1, hF.2.2.mono (by decide) (by decide)⟩)
  rw [hU]
  exact ⟨(congrArg (fun z_ : Addr => some (Value.ref z_)) (show b1 = h0.size from g1)), N1, ((Keep.refl h0 []).trans K1 all0), _, (g1 ▸ A1)⟩
theorem ef_rm6e_5 (m : MethodId) (a1 : Addr) : entryFrame m #[(.ref a1), (.int (0 : Int32)), (.int (260 : Int32))] 3 = mkF m 0 #[.val (.ref a1), .val (.int (0 : Int32)), .val (.int (260 : Int32))] [] := by first | (simp [entryFrame, mkF, argsToLocals, Value.category]; done) | rfl
def Q_rm6e_5 (Z : State) (a1 : Addr) (kb : ClassId) (f : Nat → Value) (h0 : Heap) (n0 : Nat) (v : Option Value) (h : Heap) (L : List Loc) : Prop := v = some (.ref h0.size) ∧ Fr n0 L ∧ Keep h0 h [] ∧ ∃ kr : ClassId, Arf Z h h0.size kr .byte (260 : Int32) f
set_option maxRecDepth 65536 in
set_option maxHeartbeats 40000000 in
theorem rm6e_5 (l : Launch) (Z : State) (a0 : Array Value) (hw : ∀ d ∈ tables_1, d.before a0 Z = true) (ws : List Jvm.Cond) (a1 : Addr) (kb : ClassId) (f : Nat → Value) (h0 : Heap) (n0 : Nat) (Z0 : n0 ≤ h0.size) (V_a : Arf Z h0 a1 kb .byte (260 : Int32) f) (E_a : Exa Z h0 a1 "[B") :
    MetFree l (⟨"java/util/Arrays", "copyOfRange", "([BII)[B"⟩ : MethodName) (head1 (Jvm.Cond.code (⟨"java/util/Arrays", "copyOfRange", "([BII)[B"⟩ : MethodName) jdk_65_method_132_code 3 (some (.array .byte)) :: ws) ({ frames := 1, cells := 1, slots := 260, locals := 14 } : Room)) (fun a U => a = #[(.ref a1), (.int (0 : Int32)), (.int (260 : Int32))] ∧ Z.Warmed39 U.vm ∧ U.heap = h0) (fun _ _ _ _ _ => True) (fun _ U o U' => ∃ v L, o = .returned v ∧ Q_rm6e_5 Z a1 kb f h0 n0 v U'.heap L ∧ FrameEnd U o U' L ({ frames := 1, cells := 1, slots := 260, locals := 14 } : Room).cells ({ frames := 1, cells := 1, slots := 260, locals := 14 } : Room).slots) := by
  refine MetFree.of_bodySF (plainFor_of_name pn_11) hisR ?_
  intro p e s m args below meth c s₁ Bd hml0 hP hK
  obtain ⟨rfl, hZ, hh⟩ := hP
  have hx := Bd.exec
  have hby := Bd.bytes
  have hml : c.maxLocals = 3 := hml0
  have hown : s.vm.findClass "java/util/Arrays" = some m.cls := findClass_of_methodNamed Bd.named
  have hnm := (name_of_methodNamed Bd.named Bd.method).1
  have X0 : Stand p l e ({ frames := 1, cells := 1, slots := 260, locals := 14 } : Room) s m #[(.ref a1), (.int (0 : Int32)), (.int (260 : Int32))] below meth c s₁ [] 0 0 := Stand.of_body Bd
  have e0 : s₁.heap = h0 := by rw [← hh, Bd.state]; rfl
  have N0 := Fr.nil n0
  show Go p e below (s₁.setTop (entryFrame m #[(.ref a1), (.int (0 : Int32)), (.int (260 : Int32))] 3)) (fun o U' => ∃ v L, o = .returned v ∧ Q_rm6e_5 Z a1 kb f h0 n0 v U'.heap L ∧ FrameEnd s o U' L ({ frames := 1, cells := 1, slots := 260, locals := 14 } : Room).cells ({ frames := 1, cells := 1, slots := 260, locals := 14 } : Room).slots)
  rw [ef_rm6e_5]
  refine Gk.iloadN X0 hx (hb hby d6_0) rfl ?_
  refine Gk.ifNo X0 hx (hb hby d6_1) (teq (by decide : (0 : Int32) = (0 : Int32))).2 ?_
  refine Gk.iloadN X0 hx (hb hby d6_4) rfl ?_
  refine Gk.aloadN X0 hx (hb hby d6_5) rfl rfl ?_
  refine Gk.alen X0 hx hZ e0 V_a (hb hby d6_6) ?_
  refine Gk.icmpYes X0 hx (hb hby d6_7) (teq (by decide : (260 : Int32) = (260 : Int32))).1 17 (by decide) (by decide) ?_
  refine Gk.aloadN X0 hx (hb hby d6_17) rfl rfl ?_
  refine Gk.clone X0 hx hZ hown (hw _ (List.mem_of_getElem? (i := 55) rfl)) (hw _ (List.mem_of_getElem? (i := 56) rfl)) (hw _ (List.mem_of_getElem? (i := 60) rfl)) (hw _ (List.mem_of_getElem? (i := 58) rfl)) (hw _ (List.mem_of_getElem? (i := 59) rfl)) (hw _ (List.mem_of_getElem? (i := 61) rfl)) e0 V_a E_a (by rw [hml]; rfl) (hb hby d6_18) (by decide) (cap := 260) (Nat.le_of_ble_eq_true rfl) (by decide) (by decide) (by decide) ?_
  intro T1 h1 b1 X1 e1 E1 g1 V_b1 B1
  have g_b1 : n0 ≤ b1 := Nat.le_trans Z0 (Nat.le_of_eq g1.symm)
  have lt_b1 := V_b1.lt
  refine Gk.castY X1 hx hZ hown (hw _ (List.mem_of_getElem? (i := 62) rfl)) e1 (Ins.self B1) (hb hby d6_21) ?_
  intro T2 X2 e2
  refine Go.fin X2 (v := some (.ref b1)) (fun h_ => by rw [Bd.returns] at h_; cases h_) Bd.notSynchronized (fun _ hr => retOut X2 hx Bd.returns rfl (Or.inr (Or.inr (Or.inr (Or.inr ⟨rfl, rfl, rfl⟩)))) (hb hby d6_24) hr) (fun U' hU hF => ⟨_, _, rfl, ?_, hF.1, hF.2.1, hF.2.2.mono (by decide) (by decide)⟩)
  rw [hU, e2]
  exact ⟨(congrArg (fun z_ : Addr => some (Value.ref z_)) (show b1 = h0.size from g1)), N0, ((Keep.refl h0 []).ext E1), _, (g1 ▸ V_b1)⟩
theorem ef_rm2_5 (m : MethodId) (a1 : Addr) (a2 : Addr) : entryFrame m #[(.ref a1), (.ref a2), (.int (0 : Int32)), (.int (260 : Int32))] 8 = mkF m 0 #[.val (.ref a1), .val (.ref a2), .val (.int (0 : Int32)), .val (.int (260 : Int32)), .unset, .unset, .unset, .unset] [] := by first | (simp [entryFrame, mkF, argsToLocals, Value.category]; done) | rfl
def Q_rm2_5 (Z : State) (a1 : Addr) (a2 : Addr) (kb : ClassId) (f : Nat → Value) (tb : Int32) (u_bytes_a1 : Value) (u_start_a1 : Value) (u_contentStart_a1 : Value) (u_end_a1 : Value) (h0 : Heap) (n0 : Nat) (v : Option Value) (h : Heap) (L : List Loc) : Prop := v = none ∧ Fr n0 L ∧ Keep h0 h [a1] ∧ Fld Z h a1 "com/example/mooring/mooring/Der" "bytes" "[B" (.ref a2) ∧ Fld Z h a1 "com/example/mooring/mooring/Der" "start" "I" (.int (0 : Int32)) ∧ Fld Z h a1 "com/example/mooring/mooring/Der" "contentStart" "I" (.int (4 : Int32)) ∧ Fld Z h a1 "com/example/mooring/mooring/Der" "end" "I" (.int (260 : Int32))
set_option maxRecDepth 65536 in
set_option maxHeartbeats 40000000 in
theorem rm2_5 (l : Launch) (Z : State) (a0 : Array Value) (hw : ∀ d ∈ tables_1, d.before a0 Z = true) (ws : List Jvm.Cond) (a1 : Addr) (a2 : Addr) (kb : ClassId) (f : Nat → Value) (tb : Int32) (u_bytes_a1 : Value) (u_start_a1 : Value) (u_contentStart_a1 : Value) (u_end_a1 : Value) (h0 : Heap) (n0 : Nat) (Z0 : n0 ≤ h0.size) (E_a1 : Exa Z h0 a1 "com/example/mooring/mooring/Der") (V_a : Arf Z h0 a2 kb .byte (260 : Int32) f) (hf0 : f 0 = (.int tb)) (hf1 : f 1 = (.int (-126 : Int32))) (hf2 : f 2 = (.int (1 : Int32))) (hf3 : f 3 = (.int (0 : Int32))) (htb : ¬ ((tb &&& (31 : Int32)) = (31 : Int32))) (hne : a1 ≠ a2) (F_bytes_a1 : Fld Z h0 a1 "com/example/mooring/mooring/Der" "bytes" "[B" u_bytes_a1) (g_a1 : n0 ≤ a1) (F_start_a1 : Fld Z h0 a1 "com/example/mooring/mooring/Der" "start" "I" u_start_a1) (F_contentStart_a1 : Fld Z h0 a1 "com/example/mooring/mooring/Der" "contentStart" "I" u_contentStart_a1) (F_end_a1 : Fld Z h0 a1 "com/example/mooring/mooring/Der" "end" "I" u_end_a1) :
    MetFree l (⟨"com/example/mooring/mooring/Der", "<init>", "([BII)V"⟩ : MethodName) (head1 (Jvm.Cond.code (⟨"com/example/mooring/mooring/Der", "<init>", "([BII)V"⟩ : MethodName) prog_2_method_1_code 8 none :: ws) ({ frames := 1, cells := 0, slots := 0, locals := 12 } : Room)) (fun a U => a = #[(.ref a1), (.ref a2), (.int (0 : Int32)), (.int (260 : Int32))] ∧ Z.Warmed39 U.vm ∧ U.heap = h0) (fun _ _ _ _ _ => True) (fun _ U o U' => ∃ v L, o = .returned v ∧ Q_rm2_5 Z a1 a2 kb f tb u_bytes_a1 u_start_a1 u_contentStart_a1 u_end_a1 h0 n0 v U'.heap L ∧ FrameEnd U o U' L ({ frames := 1, cells := 0, slots := 0, locals := 12 } : Room).cells ({ frames := 1, cells := 0, slots := 0, locals := 12 } : Room).slots) := by
  refine MetFree.of_bodySF (plainFor_of_name pn_103) hisR ?_
  intro p e s m args below meth c s₁ Bd hml0 hP hK
  obtain ⟨rfl, hZ, hh⟩ := hP
  have hx := Bd.exec
  have hby := Bd.bytes
  have hml : c.maxLocals = 8 := hml0
  have hown : s.vm.findClass "com/example/mooring/mooring/Der" = some m.cls := findClass_of_methodNamed Bd.named
  have hnm := (name_of_methodNamed Bd.named Bd.method).1
  have X0 : Stand p l e ({ frames := 1, cells := 0, slots := 0, locals := 12 } : Room) s m #[(.ref a1), (.ref a2), (.int (0 : Int32)), (.int (260 : Int32))] below meth c s₁ [] 0 0 := Stand.of_body Bd
  have e0 : s₁.heap = h0 := by rw [← hh, Bd.state]; rfl
  have N0 := Fr.nil n0
  show Go p e below (s₁.setTop (entryFrame m #[(.ref a1), (.ref a2), (.int (0 : Int32)), (.int (260 : Int32))] 8)) (fun o U' => ∃ v L, o = .returned v ∧ Q_rm2_5 Z a1 a2 kb f tb u_bytes_a1 u_start_a1 u_contentStart_a1 u_end_a1 h0 n0 v U'.heap L ∧ FrameEnd s o U' L ({ frames := 1, cells := 0, slots := 0, locals := 12 } : Room).cells ({ frames := 1, cells := 0, slots := 0, locals := 12 } : Room).slots)
  rw [ef_rm2_5]
  refine Gk.aloadN X0 hx (hb hby d2_0) rfl rfl ?_
  refine Gk.initO X0 hx hZ hown (hw _ (List.mem_of_getElem? (i := 11) rfl)) (hw _ (List.mem_of_getElem? (i := 12) rfl)) (hw _ (List.mem_of_getElem? (i := 13) rfl)) e0 (by rw [hml]; rfl) (hb hby d2_1) (by decide) (Nat.le_of_ble_eq_true rfl) ?_
  intro T1 X1 e1
  refine Gk.iloadN X1 hx (hb hby d2_4) rfl ?_
  refine Gk.iloadN X1 hx (hb hby d2_5) rfl ?_
  refine Gk.isub X1 hx (hb hby d2_6) (260 : Int32) (by decide) ?_
  refine Gk.iconst X1 hx (hb hby d2_7) (2 : Int32) rfl ?_
  refine Gk.icmpYes X1 hx (hb hby d2_8) (flt (by decide : ¬ ((260 : Int32) < (2 : Int32)))).2.1 21 (by decide) (by decide) ?_
  refine Gk.aloadN X1 hx (hb hby d2_21) rfl rfl ?_
  refine Gk.iloadN X1 hx (hb hby d2_22) rfl ?_
  refine Gk.baloadB X1 hx hZ e1 V_a ⟨by decide, by decide⟩ (.int tb) hf0 (hb hby d2_23) ?_
  refine Gk.bipush X1 hx (hb hby d2_24) (31 : Int32) rfl ?_
  refine Gk.iand X1 hx (hb hby d2_26) _ rfl ?_
  refine Gk.bipush X1 hx (hb hby d2_27) (31 : Int32) rfl ?_
  have hc29 : ¬ ((tb &&& (31 : Int32)) = (31 : Int32)) := htb
  refine Gk.icmpYes X1 hx (hb hby d2_29) (feq hc29).2 42 (by decide) (by decide) ?_
  refine Gk.aloadN X1 hx (hb hby d2_42) rfl rfl ?_
  refine Gk.iloadN X1 hx (hb hby d2_43) rfl ?_
  refine Gk.iconst X1 hx (hb hby d2_44) (1 : Int32) rfl ?_
  refine Gk.iadd X1 hx (hb hby d2_45) (1 : Int32) (by decide) ?_
  refine Gk.baloadB X1 hx hZ e1 V_a ⟨by decide, by decide⟩ (.int (-126 : Int32)) hf1 (hb hby d2_46) ?_
  refine Gk.sipush X1 hx (hb hby d2_47) (255 : Int32) rfl ?_
  refine Gk.iand X1 hx (hb hby d2_50) (130 : Int32) (by decide) ?_
  refine Gk.istore X1 hx (hb hby d2_51) #[.val (.ref a1), .val (.ref a2), .val (.int (0 : Int32)), .val (.int (260 : Int32)), .val (.int (130 : Int32)), .unset, .unset, .unset] rfl ?_
  refine Gk.iload X1 hx (hb hby d2_53) rfl ?_
  refine Gk.istore X1 hx (hb hby d2_55) #[.val (.ref a1), .val (.ref a2), .val (.int (0 : Int32)), .val (.int (260 : Int32)), .val (.int (130 : Int32)), .val (.int (130 : Int32)), .unset, .unset] rfl ?_
  refine Gk.iconst X1 hx (hb hby d2_57) (0 : Int32) rfl ?_
  refine Gk.istore X1 hx (hb hby d2_58) #[.val (.ref a1), .val (.ref a2), .val (.int (0 : Int32)), .val (.int (260 : Int32)), .val (.int (130 : Int32)), .val (.int (130 : Int32)), .val (.int (0 : Int32)), .unset] rfl ?_
  refine Gk.iload X1 hx (hb hby d2_60) rfl ?_
  refine Gk.sipush X1 hx (hb hby d2_62) (128 : Int32) rfl ?_
  refine Gk.icmpNo X1 hx (hb hby d2_65) (flt (by decide : ¬ ((130 : Int32) < (128 : Int32)))).1 ?_
  refine Gk.iload X1 hx (hb hby d2_68) rfl ?_
  refine Gk.sipush X1 hx (hb hby d2_70) (128 : Int32) rfl ?_
  refine Gk.isub X1 hx (hb hby d2_73) (2 : Int32) (by decide) ?_
  refine Gk.istore X1 hx (hb hby d2_74) #[.val (.ref a1), .val (.ref a2), .val (.int (0 : Int32)), .val (.int (260 : Int32)), .val (.int (130 : Int32)), .val (.int (130 : Int32)), .val (.int (2 : Int32)), .unset] rfl ?_
  refine Gk.iload X1 hx (hb hby d2_76) rfl ?_
  refine Gk.iconst X1 hx (hb hby d2_78) (3 : Int32) rfl ?_
  refine Gk.icmpNo X1 hx (hb hby d2_79) (flt (by decide : ¬ ((3 : Int32) < (2 : Int32)))).2.2.1 ?_
  refine Gk.iloadN X1 hx (hb hby d2_82) rfl ?_
  refine Gk.iloadN X1 hx (hb hby d2_83) rfl ?_
  refine Gk.isub X1 hx (hb hby d2_84) (260 : Int32) (by decide) ?_
  refine Gk.iconst X1 hx (hb hby d2_85) (2 : Int32) rfl ?_
  refine Gk.iload X1 hx (hb hby d2_86) rfl ?_
  refine Gk.iadd X1 hx (hb hby d2_88) (4 : Int32) (by decide) ?_
  refine Gk.icmpYes X1 hx (hb hby d2_89) (flt (by decide : ¬ ((260 : Int32) < (4 : Int32)))).2.1 102 (by decide) (by decide) ?_
  refine Gk.iconst X1 hx (hb hby d2_102) (0 : Int32) rfl ?_
  refine Gk.istore X1 hx (hb hby d2_103) #[.val (.ref a1), .val (.ref a2), .val (.int (0 : Int32)), .val (.int (260 : Int32)), .val (.int (130 : Int32)), .val (.int (0 : Int32)), .val (.int (2 : Int32)), .unset] rfl ?_
  refine Gk.iconst X1 hx (hb hby d2_105) (0 : Int32) rfl ?_
  refine Gk.istore X1 hx (hb hby d2_106) #[.val (.ref a1), .val (.ref a2), .val (.int (0 : Int32)), .val (.int (260 : Int32)), .val (.int (130 : Int32)), .val (.int (0 : Int32)), .val (.int (2 : Int32)), .val (.int (0 : Int32))] rfl ?_
  refine Gk.iload X1 hx (hb hby d2_108) rfl ?_
  refine Gk.iload X1 hx (hb hby d2_110) rfl ?_
  refine Gk.icmpNo X1 hx (hb hby d2_112) (tlt (by decide : (0 : Int32) < (2 : Int32))).2.1 ?_
  refine Gk.iload X1 hx (hb hby d2_115) rfl ?_
  refine Gk.bipush X1 hx (hb hby d2_117) (8 : Int32) rfl ?_
  refine Gk.ishl X1 hx (hb hby d2_119) (0 : Int32) (by decide) ?_
  refine Gk.aloadN X1 hx (hb hby d2_120) rfl rfl ?_
  refine Gk.iloadN X1 hx (hb hby d2_121) rfl ?_
  refine Gk.iconst X1 hx (hb hby d2_122) (2 : Int32) rfl ?_
  refine Gk.iadd X1 hx (hb hby d2_123) (2 : Int32) (by decide) ?_
  refine Gk.iload X1 hx (hb hby d2_124) rfl ?_
  refine Gk.iadd X1 hx (hb hby d2_126) (2 : Int32) (by decide) ?_
  refine Gk.baloadB X1 hx hZ e1 V_a ⟨by decide, by decide⟩ (.int (1 : Int32)) hf2 (hb hby d2_127) ?_
  refine Gk.sipush X1 hx (hb hby d2_128) (255 : Int32) rfl ?_
  refine Gk.iand X1 hx (hb hby d2_131) (1 : Int32) (by decide) ?_
  refine Gk.ior X1 hx (hb hby d2_132) (1 : Int32) (by decide) ?_
  refine Gk.istore X1 hx (hb hby d2_133) #[.val (.ref a1), .val (.ref a2), .val (.int (0 : Int32)), .val (.int (260 : Int32)), .val (.int (130 : Int32)), .val (.int (1 : Int32)), .val (.int (2 : Int32)), .val (.int (0 : Int32))] rfl ?_
  refine Gk.iinc X1 hx (hb hby d2_135) rfl #[.val (.ref a1), .val (.ref a2), .val (.int (0 : Int32)), .val (.int (260 : Int32)), .val (.int (130 : Int32)), .val (.int (1 : Int32)), .val (.int (2 : Int32)), .val (.int (1 : Int32))] rfl ?_
  refine Gk.goto X1 hx (hb hby d2_138) 108 (by decide) (by decide) ?_
  refine Gk.iload X1 hx (hb hby d2_108) rfl ?_
  refine Gk.iload X1 hx (hb hby d2_110) rfl ?_
  refine Gk.icmpNo X1 hx (hb hby d2_112) (tlt (by decide : (1 : Int32) < (2 : Int32))).2.1 ?_
  refine Gk.iload X1 hx (hb hby d2_115) rfl ?_
  refine Gk.bipush X1 hx (hb hby d2_117) (8 : Int32) rfl ?_
  refine Gk.ishl X1 hx (hb hby d2_119) (256 : Int32) (by decide) ?_
  refine Gk.aloadN X1 hx (hb hby d2_120) rfl rfl ?_
  refine Gk.iloadN X1 hx (hb hby d2_121) rfl ?_
  refine Gk.iconst X1 hx (hb hby d2_122) (2 : Int32) rfl ?_
  refine Gk.iadd X1 hx (hb hby d2_123) (2 : Int32) (by decide) ?_
  refine Gk.iload X1 hx (hb hby d2_124) rfl ?_
  refine Gk.iadd X1 hx (hb hby d2_126) (3 : Int32) (by decide) ?_
  refine Gk.baloadB X1 hx hZ e1 V_a ⟨by decide, by decide⟩ (.int (0 : Int32)) hf3 (hb hby d2_127) ?_
  refine Gk.sipush X1 hx (hb hby d2_128) (255 : Int32) rfl ?_
  refine Gk.iand X1 hx (hb hby d2_131) (0 : Int32) (by decide) ?_
  refine Gk.ior X1 hx (hb hby d2_132) (256 : Int32) (by decide) ?_
  refine Gk.istore X1 hx (hb hby d2_133) #[.val (.ref a1), .val (.ref a2), .val (.int (0 : Int32)), .val (.int (260 : Int32)), .val (.int (130 : Int32)), .val (.int (256 : Int32)), .val (.int (2 : Int32)), .val (.int (1 : Int32))] rfl ?_
  refine Gk.iinc X1 hx (hb hby d2_135) rfl #[.val (.ref a1), .val (.ref a2), .val (.int (0 : Int32)), .val (.int (260 : Int32)), .val (.int (130 : Int32)), .val (.int (256 : Int32)), .val (.int (2 : Int32)), .val (.int (2 : Int32))] rfl ?_
  refine Gk.goto X1 hx (hb hby d2_138) 108 (by decide) (by decide) ?_
  refine Gk.iload X1 hx (hb hby d2_108) rfl ?_
  refine Gk.iload X1 hx (hb hby d2_110) rfl ?_
  refine Gk.icmpYes X1 hx (hb hby d2_112) (flt (by decide : ¬ ((2 : Int32) < (2 : Int32)))).2.1 141 (by decide) (by decide) ?_
  refine Gk.iload X1 hx (hb hby d2_141) rfl ?_
  refine Gk.sipush X1 hx (hb hby d2_143) (128 : Int32) rfl ?_
  refine Gk.icmpNo X1 hx (hb hby d2_146) (flt (by decide : ¬ ((256 : Int32) < (128 : Int32)))).1 ?_
  refine Gk.aloadN X1 hx (hb hby d2_149) rfl rfl ?_
  refine Gk.iloadN X1 hx (hb hby d2_150) rfl ?_
  refine Gk.iconst X1 hx (hb hby d2_151) (2 : Int32) rfl ?_
  refine Gk.iadd X1 hx (hb hby d2_152) (2 : Int32) (by decide) ?_
  refine Gk.baloadB X1 hx hZ e1 V_a ⟨by decide, by decide⟩ (.int (1 : Int32)) hf2 (hb hby d2_153) ?_
  refine Gk.sipush X1 hx (hb hby d2_154) (255 : Int32) rfl ?_
  refine Gk.iand X1 hx (hb hby d2_157) (1 : Int32) (by decide) ?_
  refine Gk.ifYes X1 hx (hb hby d2_158) (feq (by decide : ¬ ((1 : Int32) = (0 : Int32)))).2 171 (by decide) (by decide) ?_
  refine Gk.aloadN X1 hx (hb hby d2_171) rfl rfl ?_
  refine Gk.aloadN X1 hx (hb hby d2_172) rfl rfl ?_
  refine Gk.putF X1 hx hZ hown (host := "") (Or.inl (hw _ (List.mem_of_getElem? (i := 14) rfl))) Via.refl e1 F_bytes_a1 E_a1 (Or.inr ⟨(hw _ (List.mem_of_getElem? (i := 15) rfl)), rfl, hnm⟩) (hw _ (List.mem_of_getElem? (i := 7) rfl)) (ty := (.array .byte)) (by decide) rfl rfl (hb hby d2_173) ?_
  intro T7 h7 X7 e7 W7
  have Fw7 := F_bytes_a1.same W7
  have N7 := Fr.snoc X7 N0 g_a1
  refine Gk.aloadN X7 hx (hb hby d2_176) rfl rfl ?_
  refine Gk.iloadN X7 hx (hb hby d2_177) rfl ?_
  have H8 := (E_a1.wr W7)
  have H9 := (F_start_a1.other W7 (Or.inr (slot_ne (Or.inr (hw _ (List.mem_of_getElem? (i := 17) rfl))) (Or.inr (hw _ (List.mem_of_getElem? (i := 15) rfl))) (by decide) (t := .int) (t' := (.array .byte)) (by decide) (by decide))))
  refine Gk.putF X7 hx hZ hown (host := "") (Or.inl (hw _ (List.mem_of_getElem? (i := 16) rfl))) Via.refl e7 H9 H8 (Or.inr ⟨(hw _ (List.mem_of_getElem? (i := 17) rfl)), rfl, hnm⟩) (hw _ (List.mem_of_getElem? (i := 7) rfl)) (ty := .int) (by decide) rfl rfl (hb hby d2_178) ?_
  intro T10 h10 X10 e10 W10
  have Fw10 := H9.same W10
  have N10 := Fr.snoc X10 N7 g_a1
  refine Gk.aloadN X10 hx (hb hby d2_181) rfl rfl ?_
  refine Gk.iloadN X10 hx (hb hby d2_182) rfl ?_
  refine Gk.iconst X10 hx (hb hby d2_183) (2 : Int32) rfl ?_
  refine Gk.iadd X10 hx (hb hby d2_184) (2 : Int32) (by decide) ?_
  refine Gk.iload X10 hx (hb hby d2_185) rfl ?_
  refine Gk.iadd X10 hx (hb hby d2_187) (4 : Int32) (by decide) ?_
  have H11 := (H8.wr W10)
  have H12 := ((F_contentStart_a1.other W7 (Or.inr (slot_ne (Or.inr (hw _ (List.mem_of_getElem? (i := 19) rfl))) (Or.inr (hw _ (List.mem_of_getElem? (i := 15) rfl))) (by decide) (t := .int) (t' := (.array .byte)) (by decide) (by decide)))).other W10 (Or.inr (slot_ne (Or.inr (hw _ (List.mem_of_getElem? (i := 19) rfl))) (Or.inr (hw _ (List.mem_of_getElem? (i := 17) rfl))) (by decide) (t := .int) (t' := .int) (by decide) (by decide))))
  refine Gk.putF X10 hx hZ hown (host := "") (Or.inl (hw _ (List.mem_of_getElem? (i := 18) rfl))) Via.refl e10 H12 H11 (Or.inr ⟨(hw _ (List.mem_of_getElem? (i := 19) rfl)), rfl, hnm⟩) (hw _ (List.mem_of_getElem? (i := 7) rfl)) (ty := .int) (by decide) rfl rfl (hb hby d2_188) ?_
  intro T13 h13 X13 e13 W13
  have Fw13 := H12.same W13
  have N13 := Fr.snoc X13 N10 g_a1
  refine Gk.aloadN X13 hx (hb hby d2_191) rfl rfl ?_
  refine Gk.aloadN X13 hx (hb hby d2_192) rfl rfl ?_
  refine Gk.getF X13 hx hZ hown (host := "") (Or.inl (hw _ (List.mem_of_getElem? (i := 18) rfl))) Via.refl e13 Fw13 (hb hby d2_193) ?_
  intro T14 X14 e14
  refine Gk.iload X14 hx (hb hby d2_196) rfl ?_
  refine Gk.iadd X14 hx (hb hby d2_198) (260 : Int32) (by decide) ?_
  have H15 := (H11.wr W13)
  have H16 := (((F_end_a1.other W7 (Or.inr (slot_ne (Or.inr (hw _ (List.mem_of_getElem? (i := 21) rfl))) (Or.inr (hw _ (List.mem_of_getElem? (i := 15) rfl))) (by decide) (t := .int) (t' := (.array .byte)) (by decide) (by decide)))).other W10 (Or.inr (slot_ne (Or.inr (hw _ (List.mem_of_getElem? (i := 21) rfl))) (Or.inr (hw _ (List.mem_of_getElem? (i := 17) rfl))) (by decide) (t := .int) (t' := .int) (by decide) (by decide)))).other W13 (Or.inr (slot_ne (Or.inr (hw _ (List.mem_of_getElem? (i := 21) rfl))) (Or.inr (hw _ (List.mem_of_getElem? (i := 19) rfl))) (by decide) (t := .int) (t' := .int) (by decide) (by decide))))
  refine Gk.putF X14 hx hZ hown (host := "") (Or.inl (hw _ (List.mem_of_getElem? (i := 20) rfl))) Via.refl e14 H16 H15 (Or.inr ⟨(hw _ (List.mem_of_getElem? (i := 21) rfl)), rfl, hnm⟩) (hw _ (List.mem_of_getElem? (i := 7) rfl)) (ty := .int) (by decide) rfl rfl (hb hby d2_199) ?_
  intro T17 h17 X17 e17 W17
  have Fw17 := H16.same W17
  have N17 := Fr.snoc X17 N13 g_a1
  refine Gk.aloadN X17 hx (hb hby d2_202) rfl rfl ?_
  refine Gk.getF X17 hx hZ hown (host := "") (Or.inl (hw _ (List.mem_of_getElem? (i := 20) rfl))) Via.refl e17 Fw17 (hb hby d2_203) ?_
  intro T18 X18 e18
  refine Gk.iloadN X18 hx (hb hby d2_206) rfl ?_
  refine Gk.icmpYes X18 hx (hb hby d2_207) (flt (by decide : ¬ ((260 : Int32) < (260 : Int32)))).2.2.2 220 (by decide) (by decide) ?_
  have H19 := (((Fw7.other W10 (Or.inr (slot_ne (Or.inr (hw _ (List.mem_of_getElem? (i := 15) rfl))) (Or.inr (hw _ (List.mem_of_getElem? (i := 17) rfl))) (by decide) (t := (.array .byte)) (t' := .int) (by decide) (by decide)))).other W13 (Or.inr (slot_ne (Or.inr (hw _ (List.mem_of_getElem? (i := 15) rfl))) (Or.inr (hw _ (List.mem_of_getElem? (i := 19) rfl))) (by decide) (t := (.array .byte)) (t' := .int) (by decide) (by decide)))).other W17 (Or.inr (slot_ne (Or.inr (hw _ (List.mem_of_getElem? (i := 15) rfl))) (Or.inr (hw _ (List.mem_of_getElem? (i := 21) rfl))) (by decide) (t := (.array .byte)) (t' := .int) (by decide) (by decide))))
  have H20 := ((Fw10.other W13 (Or.inr (slot_ne (Or.inr (hw _ (List.mem_of_getElem? (i := 17) rfl))) (Or.inr (hw _ (List.mem_of_getElem? (i := 19) rfl))) (by decide) (t := .int) (t' := .int) (by decide) (by decide)))).other W17 (Or.inr (slot_ne (Or.inr (hw _ (List.mem_of_getElem? (i := 17) rfl))) (Or.inr (hw _ (List.mem_of_getElem? (i := 21) rfl))) (by decide) (t := .int) (t' := .int) (by decide) (by decide))))
  have H21 := (Fw13.other W17 (Or.inr (slot_ne (Or.inr (hw _ (List.mem_of_getElem? (i := 19) rfl))) (Or.inr (hw _ (List.mem_of_getElem? (i := 21) rfl))) (by decide) (t := .int) (t' := .int) (by decide) (by decide))))
  refine Go.fin X18 (v := none) (fun _ => rfl) Bd.notSynchronized (fun _ hr => X18.returnOut hx Bd.returns (hb hby d2_220) hr) (fun U' hU hF => ⟨_, _, rfl, ?_, hF.1, hF.2.1, hF.2.2.mono (by decide) (by decide)⟩)
  rw [hU, e18]
  exact ⟨rfl, N17, (((((Keep.refl h0 [a1]).wr W7 (Or.inl (List.mem_of_getElem? (i := 0) rfl))).wr W10 (Or.inl (List.mem_of_getElem? (i := 0) rfl))).wr W13 (Or.inl (List.mem_of_getElem? (i := 0) rfl))).wr W17 (Or.inl (List.mem_of_getElem? (i := 0) rfl))), H19, H20, H21, Fw17⟩
theorem ef_rm1_5 (m : MethodId) (a1 : Addr) : entryFrame m #[(.ref a1)] 2 = mkF m 0 #[.val (.ref a1), .unset] [] := by first | (simp [entryFrame, mkF, argsToLocals, Value.category]; done) | rfl
def Q_rm1_5 (Z : State) (a1 : Addr) (kb : ClassId) (f : Nat → Value) (tb : Int32) (h0 : Heap) (n0 : Nat) (v : Option Value) (h : Heap) (L : List Loc) : Prop := v = some (.ref h0.size) ∧ Fr n0 L ∧ Keep h0 h [] ∧ Exa Z h h0.size "com/example/mooring/mooring/Der" ∧ Fld Z h h0.size "com/example/mooring/mooring/Der" "bytes" "[B" (.ref a1) ∧ Fld Z h h0.size "com/example/mooring/mooring/Der" "start" "I" (.int (0 : Int32)) ∧ Fld Z h h0.size "com/example/mooring/mooring/Der" "contentStart" "I" (.int (4 : Int32)) ∧ Fld Z h h0.size "com/example/mooring/mooring/Der" "end" "I" (.int (260 : Int32))
set_option maxRecDepth 65536 in
set_option maxHeartbeats 40000000 in
theorem rm1_5 (l : Launch) (Z : State) (a0 : Array Value) (hw : ∀ d ∈ tables_1, d.before a0 Z = true) (ws : List Jvm.Cond) (a1 : Addr) (kb : ClassId) (f : Nat → Value) (tb : Int32) (h0 : Heap) (n0 : Nat) (Z0 : n0 ≤ h0.size) (V_a : Arf Z h0 a1 kb .byte (260 : Int32) f) (hf0 : f 0 = (.int tb)) (hf1 : f 1 = (.int (-126 : Int32))) (hf2 : f 2 = (.int (1 : Int32))) (hf3 : f 3 = (.int (0 : Int32))) (htb : ¬ ((tb &&& (31 : Int32)) = (31 : Int32))) :
    MetFree l (⟨"com/example/mooring/mooring/Der", "parse", "([B)Lcom/example/mooring/mooring/Der;"⟩ : MethodName) (head1 (Jvm.Cond.code (⟨"com/example/mooring/mooring/Der", "parse", "([B)Lcom/example/mooring/mooring/Der;"⟩ : MethodName) prog_2_method_2_code 2 (some (.object "com/example/mooring/mooring/Der")) :: ws) ({ frames := 2, cells := 1, slots := 4, locals := 32 } : Room)) (fun a U => a = #[(.ref a1)] ∧ Z.Warmed39 U.vm ∧ U.heap = h0) (fun _ _ _ _ _ => True) (fun _ U o U' => ∃ v L, o = .returned v ∧ Q_rm1_5 Z a1 kb f tb h0 n0 v U'.heap L ∧ FrameEnd U o U' L ({ frames := 2, cells := 1, slots := 4, locals := 32 } : Room).cells ({ frames := 2, cells := 1, slots := 4, locals := 32 } : Room).slots) := by
  refine MetFree.of_bodySF (plainFor_of_name pn_103) hisR ?_
  intro p e s m args below meth c s₁ Bd hml0 hP hK
  obtain ⟨rfl, hZ, hh⟩ := hP
  have hx := Bd.exec
  have hby := Bd.bytes
  have hml : c.maxLocals = 2 := hml0
  have hown : s.vm.findClass "com/example/mooring/mooring/Der" = some m.cls := findClass_of_methodNamed Bd.named
  have hnm := (name_of_methodNamed Bd.named Bd.method).1
  have X0 : Stand p l e ({ frames := 2, cells := 1, slots := 4, locals := 32 } : Room) s m #[(.ref a1)] below meth c s₁ [] 0 0 := Stand.of_body Bd
  have e0 : s₁.heap = h0 := by rw [← hh, Bd.state]; rfl
  have N0 := Fr.nil n0
  show Go p e below (s₁.setTop (entryFrame m #[(.ref a1)] 2)) (fun o U' => ∃ v L, o = .returned v ∧ Q_rm1_5 Z a1 kb f tb h0 n0 v U'.heap L ∧ FrameEnd s o U' L ({ frames := 2, cells := 1, slots := 4, locals := 32 } : Room).cells ({ frames := 2, cells := 1, slots := 4, locals := 32 } : Room).slots)
  rw [ef_rm1_5]
  refine Gk.newO X0 hx hZ hown (hw _ (List.mem_of_getElem? (i := 6) rfl)) (hw _ (List.mem_of_getElem? (i := 7) rfl)) (hw _ (List.mem_of_getElem? (i := 4) rfl)) e0 (hb hby d1_0) (by decide) (by decide) ?_
  intro T1 h1 b1 X1 e1 E1 g1 A1 D1
  have g_b1 : n0 ≤ b1 := Nat.le_trans Z0 (Nat.le_of_eq g1.symm)
  have lt_b1 := A1.lt
  have F_bytes_b1 : Fld Z h1 b1 "com/example/mooring/mooring/Der" "bytes" "[B" .null := D1 (Or.inr (hw _ (List.mem_of_getElem? (i := 15) rfl))) (ty := (.array .byte)) (by decide)
  have F_start_b1 : Fld Z h1 b1 "com/example/mooring/mooring/Der" "start" "I" (.int (0 : Int32)) := D1 (Or.inr (hw _ (List.mem_of_getElem? (i := 17) rfl))) (ty := .int) (by decide)
  have F_contentStart_b1 : Fld Z h1 b1 "com/example/mooring/mooring/Der" "contentStart" "I" (.int (0 : Int32)) := D1 (Or.inr (hw _ (List.mem_of_getElem? (i := 19) rfl))) (ty := .int) (by decide)
  have F_end_b1 : Fld Z h1 b1 "com/example/mooring/mooring/Der" "end" "I" (.int (0 : Int32)) := D1 (Or.inr (hw _ (List.mem_of_getElem? (i := 21) rfl))) (ty := .int) (by decide)
  refine Gk.dup X1 hx (hb hby d1_3) rfl ?_
  refine Gk.aloadN X1 hx (hb hby d1_4) rfl rfl ?_
  refine Gk.iconst X1 hx (hb hby d1_5) (0 : Int32) rfl ?_
  refine Gk.aloadN X1 hx (hb hby d1_6) rfl rfl ?_
  have H2 := (V_a.ext E1)
  refine Gk.alen X1 hx hZ e1 H2 (hb hby d1_7) ?_
  have ne4 : b1 ≠ a1 := (Nat.ne_of_gt (Nat.lt_of_lt_of_le V_a.lt (Nat.le_trans (Nat.le_refl _) (Nat.le_of_eq g1.symm))))
  refine Gk.callI (argsL := [(.ref a1), (.int (0 : Int32)), (.int (260 : Int32))]) X1 hx hZ hown (rm2_5 l Z a0 hw [] b1 a1 kb f tb .null (.int (0 : Int32)) (.int (0 : Int32)) (.int (0 : Int32)) h1 n0 (Nat.le_trans Z0 E1.1) A1 H2 hf0 hf1 hf2 hf3 htb ne4 F_bytes_b1 g_b1 F_start_b1 F_contentStart_b1 F_end_b1) rfl (hw _ (List.mem_of_getElem? (i := 8) rfl)) (hw _ (List.mem_of_getElem? (i := 9) rfl)) (hw _ (List.mem_of_getElem? (i := 10) rfl)) rfl (by decide) (hw _ (List.mem_of_getElem? (i := 4) rfl)) e1 pd_3 rfl rfl (by decide) (Nat.le_of_ble_eq_true rfl) (by decide) (by decide) (by rw [hml]; rfl)  rfl (hb hby d1_8) ?_
  intro T3 L3 v3 X3 hQ3
  obtain ⟨rfl, N3q, K3, Fi3_bytes, Fi3_start, Fi3_contentStart, Fi3_end⟩ := hQ3
  have N3 := Fr.app N0 N3q
  show Go p e below (T3.setTop (mkF m 11 #[.val (.ref a1), .unset] [(.ref b1)])) _
  refine Gk.astoreN X3 hx (hb hby d1_11) rfl #[.val (.ref a1), .val (.ref b1)] rfl ?_
  refine Gk.aloadN X3 hx (hb hby d1_12) rfl rfl ?_
  refine Gk.getF X3 hx hZ hown (host := "") (Or.inl (hw _ (List.mem_of_getElem? (i := 20) rfl))) Via.refl rfl Fi3_end (hb hby d1_13) ?_
  intro T5 X5 e5
  refine Gk.aloadN X5 hx (hb hby d1_16) rfl rfl ?_
  have H6 := (H2.keep K3 (ninS (Ne.symm ne4) nin0))
  refine Gk.alen X5 hx hZ e5 H6 (hb hby d1_17) ?_
  refine Gk.icmpYes X5 hx (hb hby d1_18) (teq (by decide : (260 : Int32) = (260 : Int32))).1 31 (by decide) (by decide) ?_
  refine Gk.aloadN X5 hx (hb hby d1_31) rfl rfl ?_
  have H7 := (A1.keep K3)
  refine Go.fin X5 (v := some (.ref b1)) (fun h_ => by rw [Bd.returns] at h_; cases h_) Bd.notSynchronized (fun _ hr => retOut X5 hx Bd.returns rfl (Or.inr (Or.inr (Or.inr (Or.inr ⟨rfl, rfl, rfl⟩)))) (hb hby d1_32) hr) (fun U' hU hF => ⟨_, _, rfl, ?_, hF.1, hF.2.1, hF.2.2.mono (by decide) (by decide)⟩)
  rw [hU, e5]
  exact ⟨(congrArg (fun z_ : Addr => some (Value.ref z_)) (show b1 = h0.size from g1)), N3, (((Keep.refl h0 []).ext E1).trans K3 (allS (Or.inr (Nat.le_trans (Nat.le_refl _) (Nat.le_of_eq g1.symm))) all0)), (g1 ▸ H7), (g1 ▸ Fi3_bytes), (g1 ▸ Fi3_start), (g1 ▸ Fi3_contentStart), (g1 ▸ Fi3_end)⟩
theorem ef_rm4_5 (m : MethodId) (a1 : Addr) : entryFrame m #[(.ref a1)] 1 = mkF m 0 #[.val (.ref a1)] [] := by first | (simp [entryFrame, mkF, argsToLocals, Value.category]; done) | rfl
def Q_rm4_5 (Z : State) (a1 : Addr) (ar : Addr) (kb : ClassId) (f : Nat → Value) (tb : Int32) (h0 : Heap) (n0 : Nat) (v : Option Value) (h : Heap) (L : List Loc) : Prop := v = some (.int (tb &&& (255 : Int32))) ∧ Fr n0 L ∧ h = h0
set_option maxRecDepth 65536 in
set_option maxHeartbeats 40000000 in
theorem rm4_5 (l : Launch) (Z : State) (a0 : Array Value) (hw : ∀ d ∈ tables_1, d.before a0 Z = true) (ws : List Jvm.Cond) (a1 : Addr) (ar : Addr) (kb : ClassId) (f : Nat → Value) (tb : Int32) (h0 : Heap) (n0 : Nat) (Z0 : n0 ≤ h0.size) (V_a : Arf Z h0 ar kb .byte (260 : Int32) f) (F_bytes : Fld Z h0 a1 "com/example/mooring/mooring/Der" "bytes" "[B" (.ref ar)) (F_start : Fld Z h0 a1 "com/example/mooring/mooring/Der" "start" "I" (.int (0 : Int32))) (F_contentStart : Fld Z h0 a1 "com/example/mooring/mooring/Der" "contentStart" "I" (.int (4 : Int32))) (F_end : Fld Z h0 a1 "com/example/mooring/mooring/Der" "end" "I" (.int (260 : Int32))) (hf0 : f 0 = (.int tb)) :
    MetFree l (⟨"com/example/mooring/mooring/Der", "tag", "()I"⟩ : MethodName) (head1 (Jvm.Cond.code (⟨"com/example/mooring/mooring/Der", "tag", "()I"⟩ : MethodName) prog_2_method_3_code 1 (some .int) :: ws) ({ frames := 0, cells := 0, slots := 0, locals := 0 } : Room)) (fun a U => a = #[(.ref a1)] ∧ Z.Warmed39 U.vm ∧ U.heap = h0) (fun _ _ _ _ _ => True) (fun _ U o U' => ∃ v L, o = .returned v ∧ Q_rm4_5 Z a1 ar kb f tb h0 n0 v U'.heap L ∧ FrameEnd U o U' L ({ frames := 0, cells := 0, slots := 0, locals := 0 } : Room).cells ({ frames := 0, cells := 0, slots := 0, locals := 0 } : Room).slots) := by
  refine MetFree.of_bodySF (plainFor_of_name pn_103) hisR ?_
  intro p e s m args below meth c s₁ Bd hml0 hP hK
  obtain ⟨rfl, hZ, hh⟩ := hP
  have hx := Bd.exec
  have hby := Bd.bytes
  have hml : c.maxLocals = 1 := hml0
  have hown : s.vm.findClass "com/example/mooring/mooring/Der" = some m.cls := findClass_of_methodNamed Bd.named
  have hnm := (name_of_methodNamed Bd.named Bd.method).1
  have X0 : Stand p l e ({ frames := 0, cells := 0, slots := 0, locals := 0 } : Room) s m #[(.ref a1)] below meth c s₁ [] 0 0 := Stand.of_body Bd
  have e0 : s₁.heap = h0 := by rw [← hh, Bd.state]; rfl
  have N0 := Fr.nil n0
  show Go p e below (s₁.setTop (entryFrame m #[(.ref a1)] 1)) (fun o U' => ∃ v L, o = .returned v ∧ Q_rm4_5 Z a1 ar kb f tb h0 n0 v U'.heap L ∧ FrameEnd s o U' L ({ frames := 0, cells := 0, slots := 0, locals := 0 } : Room).cells ({ frames := 0, cells := 0, slots := 0, locals := 0 } : Room).slots)
  rw [ef_rm4_5]
  refine Gk.aloadN X0 hx (hb hby d4_0) rfl rfl ?_
  refine Gk.getF X0 hx hZ hown (host := "") (Or.inl (hw _ (List.mem_of_getElem? (i := 14) rfl))) Via.refl e0 F_bytes (hb hby d4_1) ?_
  intro T1 X1 e1
  refine Gk.aloadN X1 hx (hb hby d4_4) rfl rfl ?_
  refine Gk.getF X1 hx hZ hown (host := "") (Or.inl (hw _ (List.mem_of_getElem? (i := 16) rfl))) Via.refl e1 F_start (hb hby d4_5) ?_
  intro T2 X2 e2
  refine Gk.baloadB X2 hx hZ e2 V_a ⟨by decide, by decide⟩ (.int tb) hf0 (hb hby d4_8) ?_
  refine Gk.sipush X2 hx (hb hby d4_9) (255 : Int32) rfl ?_
  refine Gk.iand X2 hx (hb hby d4_12) _ rfl ?_
  refine Go.fin X2 (v := some (.int (tb &&& (255 : Int32)))) (fun h_ => by rw [Bd.returns] at h_; cases h_) Bd.notSynchronized (fun _ hr => retOut X2 hx Bd.returns rfl (Or.inl ⟨rfl, Or.inl rfl, _, rfl⟩) (hb hby d4_13) hr) (fun U' hU hF => ⟨_, _, rfl, ?_, hF.1, hF.2.1, hF.2.2.mono (by decide) (by decide)⟩)
  rw [hU, e2]
  exact ⟨(congrArg (fun z_ : Int32 => some (Value.int z_)) (show (tb &&& (255 : Int32)) = (tb &&& (255 : Int32)) from rfl)), N0, rfl⟩
theorem ef_rm5_5 (m : MethodId) (a1 : Addr) : entryFrame m #[(.ref a1)] 1 = mkF m 0 #[.val (.ref a1)] [] := by first | (simp [entryFrame, mkF, argsToLocals, Value.category]; done) | rfl
def Q_rm5_5 (Z : State) (a1 : Addr) (ar : Addr) (kb : ClassId) (f : Nat → Value) (h0 : Heap) (n0 : Nat) (v : Option Value) (h : Heap) (L : List Loc) : Prop := v = some (.ref h0.size) ∧ Fr n0 L ∧ Keep h0 h [] ∧ ∃ kr : ClassId, Arf Z h h0.size kr .byte (256 : Int32) (fun i => if 0 ≤ i ∧ i < 0 + 256 then f (4 + (i - 0)) else (.int (0 : Int32)))
set_option maxRecDepth 65536 in
set_option maxHeartbeats 40000000 in
theorem rm5_5 (l : Launch) (Z : State) (a0 : Array Value) (hw : ∀ d ∈ tables_1, d.before a0 Z = true) (ws : List Jvm.Cond) (a1 : Addr) (ar : Addr) (kb : ClassId) (f : Nat → Value) (h0 : Heap) (n0 : Nat) (Z0 : n0 ≤ h0.size) (V_a : Arf Z h0 ar kb .byte (260 : Int32) f) (F_bytes : Fld Z h0 a1 "com/example/mooring/mooring/Der" "bytes" "[B" (.ref ar)) (F_start : Fld Z h0 a1 "com/example/mooring/mooring/Der" "start" "I" (.int (0 : Int32))) (F_contentStart : Fld Z h0 a1 "com/example/mooring/mooring/Der" "contentStart" "I" (.int (4 : Int32))) (F_end : Fld Z h0 a1 "com/example/mooring/mooring/Der" "end" "I" (.int (260 : Int32))) :
    MetFree l (⟨"com/example/mooring/mooring/Der", "content", "()[B"⟩ : MethodName) (head1 (Jvm.Cond.code (⟨"com/example/mooring/mooring/Der", "content", "()[B"⟩ : MethodName) prog_2_method_4_code 1 (some (.array .byte)) :: ws) ({ frames := 3, cells := 1, slots := 256, locals := 70 } : Room)) (fun a U => a = #[(.ref a1)] ∧ Z.Warmed39 U.vm ∧ U.heap = h0) (fun _ _ _ _ _ => True) (fun _ U o U' => ∃ v L, o = .returned v ∧ Q_rm5_5 Z a1 ar kb f h0 n0 v U'.heap L ∧ FrameEnd U o U' L ({ frames := 3, cells := 1, slots := 256, locals := 70 } : Room).cells ({ frames := 3, cells := 1, slots := 256, locals := 70 } : Room).slots) := by
  refine MetFree.of_bodySF (plainFor_of_name pn_103) hisR ?_
  intro p e s m args below meth c s₁ Bd hml0 hP hK
  obtain ⟨rfl, hZ, hh⟩ := hP
  have hx := Bd.exec
  have hby := Bd.bytes
  have hml : c.maxLocals = 1 := hml0
  have hown : s.vm.findClass "com/example/mooring/mooring/Der" = some m.cls := findClass_of_methodNamed Bd.named
  have hnm := (name_of_methodNamed Bd.named Bd.method).1
  have X0 : Stand p l e ({ frames := 3, cells := 1, slots := 256, locals := 70 } : Room) s m #[(.ref a1)] below meth c s₁ [] 0 0 := Stand.of_body Bd
  have e0 : s₁.heap = h0 := by rw [← hh, Bd.state]; rfl
  have N0 := Fr.nil n0
  show Go p e below (s₁.setTop (entryFrame m #[(.ref a1)] 1)) (fun o U' => ∃ v L, o = .returned v ∧ Q_rm5_5 Z a1 ar kb f h0 n0 v U'.heap L ∧ FrameEnd s o U' L ({ frames := 3, cells := 1, slots := 256, locals := 70 } : Room).cells ({ frames := 3, cells := 1, slots := 256, locals := 70 } : Room).slots)
  rw [ef_rm5_5]
  refine Gk.aloadN X0 hx (hb hby d5_0) rfl rfl ?_
  refine Gk.getF X0 hx hZ hown (host := "") (Or.inl (hw _ (List.mem_of_getElem? (i := 14) rfl))) Via.refl e0 F_bytes (hb hby d5_1) ?_
  intro T1 X1 e1
  refine Gk.aloadN X1 hx (hb hby d5_4) rfl rfl ?_
  refine Gk.getF X1 hx hZ hown (host := "") (Or.inl (hw _ (List.mem_of_getElem? (i := 18) rfl))) Via.refl e1 F_contentStart (hb hby d5_5) ?_
  intro T2 X2 e2
  refine Gk.aloadN X2 hx (hb hby d5_8) rfl rfl ?_
  refine Gk.getF X2 hx hZ hown (host := "") (Or.inl (hw _ (List.mem_of_getElem? (i := 20) rfl))) Via.refl e2 F_end (hb hby d5_9) ?_
  intro T3 X3 e3
  refine Gk.callS (argsL := [(.ref ar), (.int (4 : Int32)), (.int (260 : Int32))]) X3 hx hZ hown (rm6c_5 l Z a0 hw [] ar kb f h0 n0 Z0 V_a) (hw _ (List.mem_of_getElem? (i := 32) rfl)) (hw _ (List.mem_of_getElem? (i := 33) rfl)) (hw _ (List.mem_of_getElem? (i := 34) rfl)) (hw _ (List.mem_of_getElem? (i := 35) rfl)) (by decide) e3 pd_2 rfl rfl (by decide) (Nat.le_of_ble_eq_true rfl) (by decide) (by decide) (by rw [hml]; rfl)  rfl (hb hby d5_12) ?_
  intro T4 L4 v4 X4 hQ4
  obtain ⟨rfl, N4q, K4, k4, A4⟩ := hQ4
  have N4 := Fr.app N0 N4q
  obtain ⟨b4, g4⟩ : ∃ z_, z_ = h0.size := ⟨_, rfl⟩
  rw [← g4] at A4 ⊢
  have g_b4 : n0 ≤ b4 := Nat.le_trans Z0 (Nat.le_of_eq g4.symm)
  have lt_b4 : b4 < T4.heap.size := A4.lt
  show Go p e below (T4.setTop (mkF m 15 #[.val (.ref a1)] [(.ref b4)])) _
  refine Go.fin X4 (v := some (.ref b4)) (fun h_ => by rw [Bd.returns] at h_; cases h_) Bd.notSynchronized (fun _ hr => retOut X4 hx Bd.returns rfl (Or.inr (Or.inr (Or.inr (Or.inr ⟨rfl, rfl, rfl⟩)))) (hb hby d5_15) hr) (fun U' hU hF => ⟨_, _, rfl, ?_, hF.1, hF.2.1, hF.2.2.mono (by decide) (by decide)⟩)
  rw [hU]
  exact ⟨(congrArg (fun z_ : Addr => some (Value.ref z_)) (show b4 = h0.size from g4)), N4, ((Keep.refl h0 []).trans K4 all0), _, (g4 ▸ A4)⟩
theorem ef_rm10_5 (m : MethodId) (a1 : Addr) : entryFrame m #[(.ref a1)] 1 = mkF m 0 #[.val (.ref a1)] [] := by first | (simp [entryFrame, mkF, argsToLocals, Value.category]; done) | rfl
def Q_rm10_5 (Z : State) (a1 : Addr) (ar : Addr) (kb : ClassId) (f : Nat → Value) (h0 : Heap) (n0 : Nat) (v : Option Value) (h : Heap) (L : List Loc) : Prop := v = some (.ref h0.size) ∧ Fr n0 L ∧ Keep h0 h [] ∧ ∃ kr : ClassId, Arf Z h h0.size kr .byte (260 : Int32) f
set_option maxRecDepth 65536 in
set_option maxHeartbeats 40000000 in
theorem rm10_5 (l : Launch) (Z : State) (a0 : Array Value) (hw : ∀ d ∈ tables_1, d.before a0 Z = true) (ws : List Jvm.Cond) (a1 : Addr) (ar : Addr) (kb : ClassId) (f : Nat → Value) (h0 : Heap) (n0 : Nat) (Z0 : n0 ≤ h0.size) (V_a : Arf Z h0 ar kb .byte (260 : Int32) f) (F_bytes : Fld Z h0 a1 "com/example/mooring/mooring/Der" "bytes" "[B" (.ref ar)) (F_start : Fld Z h0 a1 "com/example/mooring/mooring/Der" "start" "I" (.int (0 : Int32))) (F_contentStart : Fld Z h0 a1 "com/example/mooring/mooring/Der" "contentStart" "I" (.int (4 : Int32))) (F_end : Fld Z h0 a1 "com/example/mooring/mooring/Der" "end" "I" (.int (260 : Int32))) (E_a : Exa Z h0 ar "[B") :
    MetFree l (⟨"com/example/mooring/mooring/Der", "encoded", "()[B"⟩ : MethodName) (head1 (Jvm.Cond.code (⟨"com/example/mooring/mooring/Der", "encoded", "()[B"⟩ : MethodName) prog_2_method_5_code 1 (some (.array .byte)) :: ws) ({ frames := 2, cells := 1, slots := 260, locals := 28 } : Room)) (fun a U => a = #[(.ref a1)] ∧ Z.Warmed39 U.vm ∧ U.heap = h0) (fun _ _ _ _ _ => True) (fun _ U o U' => ∃ v L, o = .returned v ∧ Q_rm10_5 Z a1 ar kb f h0 n0 v U'.heap L ∧ FrameEnd U o U' L ({ frames := 2, cells := 1, slots := 260, locals := 28 } : Room).cells ({ frames := 2, cells := 1, slots := 260, locals := 28 } : Room).slots) := by
  refine MetFree.of_bodySF (plainFor_of_name pn_103) hisR ?_
  intro p e s m args below meth c s₁ Bd hml0 hP hK
  obtain ⟨rfl, hZ, hh⟩ := hP
  have hx := Bd.exec
  have hby := Bd.bytes
  have hml : c.maxLocals = 1 := hml0
  have hown : s.vm.findClass "com/example/mooring/mooring/Der" = some m.cls := findClass_of_methodNamed Bd.named
  have hnm := (name_of_methodNamed Bd.named Bd.method).1
  have X0 : Stand p l e ({ frames := 2, cells := 1, slots := 260, locals := 28 } : Room) s m #[(.ref a1)] below meth c s₁ [] 0 0 := Stand.of_body Bd
  have e0 : s₁.heap = h0 := by rw [← hh, Bd.state]; rfl
  have N0 := Fr.nil n0
  show Go p e below (s₁.setTop (entryFrame m #[(.ref a1)] 1)) (fun o U' => ∃ v L, o = .returned v ∧ Q_rm10_5 Z a1 ar kb f h0 n0 v U'.heap L ∧ FrameEnd s o U' L ({ frames := 2, cells := 1, slots := 260, locals := 28 } : Room).cells ({ frames := 2, cells := 1, slots := 260, locals := 28 } : Room).slots)
  rw [ef_rm10_5]
  refine Gk.aloadN X0 hx (hb hby d10_0) rfl rfl ?_
  refine Gk.getF X0 hx hZ hown (host := "") (Or.inl (hw _ (List.mem_of_getElem? (i := 14) rfl))) Via.refl e0 F_bytes (hb hby d10_1) ?_
  intro T1 X1 e1
  refine Gk.aloadN X1 hx (hb hby d10_4) rfl rfl ?_
  refine Gk.getF X1 hx hZ hown (host := "") (Or.inl (hw _ (List.mem_of_getElem? (i := 16) rfl))) Via.refl e1 F_start (hb hby d10_5) ?_
  intro T2 X2 e2
  refine Gk.aloadN X2 hx (hb hby d10_8) rfl rfl ?_
  refine Gk.getF X2 hx hZ hown (host := "") (Or.inl (hw _ (List.mem_of_getElem? (i := 20) rfl))) Via.refl e2 F_end (hb hby d10_9) ?_
  intro T3 X3 e3
  refine Gk.callS (argsL := [(.ref ar), (.int (0 : Int32)), (.int (260 : Int32))]) X3 hx hZ hown (rm6e_5 l Z a0 hw [] ar kb f h0 n0 Z0 V_a E_a) (hw _ (List.mem_of_getElem? (i := 32) rfl)) (hw _ (List.mem_of_getElem? (i := 33) rfl)) (hw _ (List.mem_of_getElem? (i := 34) rfl)) (hw _ (List.mem_of_getElem? (i := 35) rfl)) (by decide) e3 pd_2 rfl rfl (by decide) (Nat.le_of_ble_eq_true rfl) (by decide) (by decide) (by rw [hml]; rfl)  rfl (hb hby d10_12) ?_
  intro T4 L4 v4 X4 hQ4
  obtain ⟨rfl, N4q, K4, k4, A4⟩ := hQ4
  have N4 := Fr.app N0 N4q
  obtain ⟨b4, g4⟩ : ∃ z_, z_ = h0.size := ⟨_, rfl⟩
  rw [← g4] at A4 ⊢
  have g_b4 : n0 ≤ b4 := Nat.le_trans Z0 (Nat.le_of_eq g4.symm)
  have lt_b4 : b4 < T4.heap.size := A4.lt
  show Go p e below (T4.setTop (mkF m 15 #[.val (.ref a1)] [(.ref b4)])) _
  refine Go.fin X4 (v := some (.ref b4)) (fun h_ => by rw [Bd.returns] at h_; cases h_) Bd.notSynchronized (fun _ hr => retOut X4 hx Bd.returns rfl (Or.inr (Or.inr (Or.inr (Or.inr ⟨rfl, rfl, rfl⟩)))) (hb hby d10_15) hr) (fun U' hU hF => ⟨_, _, rfl, ?_, hF.1, hF.2.1, hF.2.2.mono (by decide) (by decide)⟩)
  rw [hU]
  exact ⟨(congrArg (fun z_ : Addr => some (Value.ref z_)) (show b4 = h0.size from g4)), N4, ((Keep.refl h0 []).trans K4 all0), _, (g4 ▸ A4)⟩
theorem pd_4 : parseMethodDescriptor "([B)Lcom/example/mooring/mooring/Der;" = some ⟨[(.array .byte)], some (.object "com/example/mooring/mooring/Der")⟩ := by decide +kernel
theorem pd_5 : parseMethodDescriptor "()I" = some ⟨[], some .int⟩ := by decide +kernel
theorem pd_6 : parseMethodDescriptor "()[B" = some ⟨[], some (.array .byte)⟩ := by decide +kernel
theorem pn_191 : plainName "com/example/mooring/mooring/DerParsePinLaw" = true := by first | (simp [plainName, overriddenIn]; done) | decide +kernel
theorem ef_rm0 (m : MethodId) (p1 : Int32) (p2 : Int32) (p3 : Int32) (p4 : Int32) : entryFrame m #[(.int p1), (.int p2), (.int p3), (.int p4)] maxLocals = mkF m 0 #[.val (.int p1), .val (.int p2), .val (.int p3), .val (.int p4), .unset, .unset, .unset, .unset, .unset, .unset, .unset, .unset, .unset, .unset, .unset, .unset] [] := by first | (simp [entryFrame, mkF, argsToLocals, Value.category, maxLocals]; done) | rfl
def Q_rm0 (Z : State) (p1 : Int32) (p2 : Int32) (p3 : Int32) (p4 : Int32) (h0 : Heap) (n0 : Nat) (v : Option Value) (h : Heap) (L : List Loc) : Prop := v = some (.int (1 : Int32)) ∧ Fr n0 L
set_option maxRecDepth 65536 in
set_option maxHeartbeats 40000000 in
theorem rm0 (l : Launch) (Z : State) (a0 : Array Value) (hw : ∀ d ∈ tables_1, d.before a0 Z = true) (ws : List Jvm.Cond) (p1 : Int32) (p2 : Int32) (p3 : Int32) (p4 : Int32) (h0 : Heap) (n0 : Nat) (Z0 : n0 ≤ h0.size) :
    MetFree l x (head1 (Jvm.Cond.code x code maxLocals ret :: ws) room_1) (fun a U => a = #[(.int p1), (.int p2), (.int p3), (.int p4)] ∧ Z.Warmed39 U.vm ∧ U.heap = h0) (fun _ _ _ _ _ => True) (fun _ U o U' => ∃ v L, o = .returned v ∧ Q_rm0 Z p1 p2 p3 p4 h0 n0 v U'.heap L ∧ FrameEnd U o U' L room_1.cells room_1.slots) := by
  refine MetFree.of_bodySF (plainFor_of_name pn_191) hisR ?_
  intro p e s m args below meth c s₁ Bd hml0 hP hK
  obtain ⟨rfl, hZ, hh⟩ := hP
  have hx := Bd.exec
  have hby := Bd.bytes
  have hml : c.maxLocals = 16 := hml0
  have hown : s.vm.findClass "com/example/mooring/mooring/DerParsePinLaw" = some m.cls := findClass_of_methodNamed Bd.named
  have hnm := (name_of_methodNamed Bd.named Bd.method).1
  have X0 : Stand p l e room_1 s m #[(.int p1), (.int p2), (.int p3), (.int p4)] below meth c s₁ [] 0 0 := Stand.of_body Bd
  have e0 : s₁.heap = h0 := by rw [← hh, Bd.state]; rfl
  have N0 := Fr.nil n0
  show Go p e below (s₁.setTop (entryFrame m #[(.int p1), (.int p2), (.int p3), (.int p4)] maxLocals)) (fun o U' => ∃ v L, o = .returned v ∧ Q_rm0 Z p1 p2 p3 p4 h0 n0 v U'.heap L ∧ FrameEnd s o U' L room_1.cells room_1.slots)
  rw [ef_rm0]
  refine Gk.iloadN X0 hx (hb hby at_0) rfl ?_
  refine Gk.sipush X0 hx (hb hby at_1) (255 : Int32) rfl ?_
  refine Gk.iand X0 hx (hb hby at_4) _ rfl ?_
  obtain ⟨t0, et0⟩ : ∃ z_ : Int32, z_ = (p1 &&& (255 : Int32)) := ⟨_, rfl⟩
  show Go p e below (s₁.setTop (mkF m 5 #[.val (.int p1), .val (.int p2), .val (.int p3), .val (.int p4), .unset, .unset, .unset, .unset, .unset, .unset, .unset, .unset, .unset, .unset, .unset, .unset] [(.int (p1 &&& (255 : Int32)))])) _
  rw [← et0]
  refine Gk.istore X0 hx (hb hby at_5) #[.val (.int p1), .val (.int p2), .val (.int p3), .val (.int p4), .val (.int t0), .unset, .unset, .unset, .unset, .unset, .unset, .unset, .unset, .unset, .unset, .unset] rfl ?_
  have key : ∀ tg : Int32, own_tag tg → Go p e below (s₁.setTop (mkF m 23 #[.val (.int p1), .val (.int p2), .val (.int p3), .val (.int p4), .val (.int tg), .unset, .unset, .unset, .unset, .unset, .unset, .unset, .unset, .unset, .unset, .unset] [])) (fun o U' => ∃ v L, o = .returned v ∧ Q_rm0 Z p1 p2 p3 p4 h0 n0 v U'.heap L ∧ FrameEnd s o U' L room_1.cells room_1.slots) := by
    intro tg htg
    refine Gk.iloadN X0 hx (hb hby at_23) rfl ?_
    refine Gk.ldcI X0 hx hZ hown (hw _ (List.mem_of_getElem? (i := 0) rfl)) (hb hby at_24) ?_
    refine Gk.iand X0 hx (hb hby at_26) _ rfl ?_
    refine Gk.bipush X0 hx (hb hby at_27) (6 : Int32) rfl ?_
    refine Gk.irem X0 hx (hb hby at_29) (by decide) _ rfl ?_
    obtain ⟨mm, emm⟩ : ∃ z_ : Int32, z_ = ((p2 &&& (2147483647 : Int32)) % (6 : Int32)) := ⟨_, rfl⟩
    show Go p e below (s₁.setTop (mkF m 30 #[.val (.int p1), .val (.int p2), .val (.int p3), .val (.int p4), .val (.int tg), .unset, .unset, .unset, .unset, .unset, .unset, .unset, .unset, .unset, .unset, .unset] [(.int ((p2 &&& (2147483647 : Int32)) % (6 : Int32)))])) _
    rw [← emm]
    refine Gk.istore X0 hx (hb hby at_30) #[.val (.int p1), .val (.int p2), .val (.int p3), .val (.int p4), .val (.int tg), .val (.int mm), .unset, .unset, .unset, .unset, .unset, .unset, .unset, .unset, .unset, .unset] rfl ?_
    refine Gk.iload X0 hx (hb hby at_32) rfl ?_
    by_cases hc34 : mm = (0 : Int32)
    · refine Gk.ifNo X0 hx (hb hby at_34) (teq hc34).2 ?_
      refine Gk.iconst X0 hx (hb hby at_37) (0 : Int32) rfl ?_
      refine Gk.istore X0 hx (hb hby at_38) #[.val (.int p1), .val (.int p2), .val (.int p3), .val (.int p4), .val (.int tg), .val (.int mm), .val (.int (0 : Int32)), .unset, .unset, .unset, .unset, .unset, .unset, .unset, .unset, .unset] rfl ?_
      refine Gk.iconst X0 hx (hb hby at_40) (2 : Int32) rfl ?_
      refine Gk.istore X0 hx (hb hby at_41) #[.val (.int p1), .val (.int p2), .val (.int p3), .val (.int p4), .val (.int tg), .val (.int mm), .val (.int (0 : Int32)), .val (.int (2 : Int32)), .unset, .unset, .unset, .unset, .unset, .unset, .unset, .unset] rfl ?_
      refine Gk.goto X0 hx (hb hby at_43) 119 (by decide) (by decide) ?_
      refine Gk.iload X0 hx (hb hby at_119) rfl ?_
      refine Gk.iload X0 hx (hb hby at_121) rfl ?_
      refine Gk.iadd X0 hx (hb hby at_123) (2 : Int32) (by decide) ?_
      refine Gk.istore X0 hx (hb hby at_124) #[.val (.int p1), .val (.int p2), .val (.int p3), .val (.int p4), .val (.int tg), .val (.int mm), .val (.int (0 : Int32)), .val (.int (2 : Int32)), .val (.int (2 : Int32)), .unset, .unset, .unset, .unset, .unset, .unset, .unset] rfl ?_
      refine Gk.iload X0 hx (hb hby at_126) rfl ?_
      refine Gk.newP X0 hx hZ (hw _ (List.mem_of_getElem? (i := 1) rfl)) e0 (hb hby at_128) (by decide) (cap := 2) (by decide) (by decide) (by decide) (by decide) rfl ?_
      intro T1 h1 b1 k1 X1 e1 E1 g1 A1 B1
      have g_b1 : n0 ≤ b1 := Nat.le_trans Z0 (Nat.le_of_eq g1.symm)
      have V_b1 : Arf Z h1 b1 k1 .byte (2 : Int32) (fun _ => (.int (0 : Int32))) := A1
      have lt_b1 := V_b1.lt
      refine Gk.astore X1 hx (hb hby at_130) rfl #[.val (.int p1), .val (.int p2), .val (.int p3), .val (.int p4), .val (.int tg), .val (.int mm), .val (.int (0 : Int32)), .val (.int (2 : Int32)), .val (.int (2 : Int32)), .val (.ref b1), .unset, .unset, .unset, .unset, .unset, .unset] rfl ?_
      refine Gk.aload X1 hx (hb hby at_132) rfl rfl ?_
      refine Gk.iconst X1 hx (hb hby at_134) (0 : Int32) rfl ?_
      refine Gk.iload X1 hx (hb hby at_135) rfl ?_
      refine Gk.i2b X1 hx (hb hby at_137) _ rfl ?_
      refine Gk.bastoreB X1 hx hZ e1 V_b1 0 rfl ⟨by decide, by decide⟩ (.int (tg.toInt8.toInt32)) (congrArg Value.int (own_nb _)) (hb hby at_138) ?_
      intro T2 h2 X2 e2 W2 V2
      have N2 := Fr.snoc X2 N0 g_b1
      refine Gk.iload X2 hx (hb hby at_139) rfl ?_
      refine Gk.iconst X2 hx (hb hby at_141) (2 : Int32) rfl ?_
      refine Gk.icmpNo X2 hx (hb hby at_142) (teq (by decide : (2 : Int32) = (2 : Int32))).2 ?_
      refine Gk.aload X2 hx (hb hby at_145) rfl rfl ?_
      refine Gk.iconst X2 hx (hb hby at_147) (1 : Int32) rfl ?_
      refine Gk.iload X2 hx (hb hby at_148) rfl ?_
      refine Gk.i2b X2 hx (hb hby at_150) (0 : Int32) (by decide) ?_
      refine Gk.bastoreB X2 hx hZ e2 V2 1 rfl ⟨by decide, by decide⟩ (.int (0 : Int32)) rfl (hb hby at_151) ?_
      intro T3 h3 X3 e3 W3 V3
      have N3 := Fr.snoc X3 N2 g_b1
      refine Gk.goto X3 hx (hb hby at_152) 204 (by decide) (by decide) ?_
      refine Gk.iload X3 hx (hb hby at_204) rfl ?_
      refine Gk.iconst X3 hx (hb hby at_206) (1 : Int32) rfl ?_
      refine Gk.icmpYes X3 hx (hb hby at_207) (tlt (by decide : (0 : Int32) < (1 : Int32))).1 226 (by decide) (by decide) ?_
      refine Gk.aload X3 hx (hb hby at_226) rfl rfl ?_
      refine Gk.iconst X3 hx (hb hby at_228) (1 : Int32) rfl ?_
      refine Gk.baloadB X3 hx hZ e3 V3 ⟨by decide, by decide⟩ (.int (0 : Int32)) rfl (hb hby at_229) ?_
      refine Gk.istore X3 hx (hb hby at_230) #[.val (.int p1), .val (.int p2), .val (.int p3), .val (.int p4), .val (.int tg), .val (.int mm), .val (.int (0 : Int32)), .val (.int (2 : Int32)), .val (.int (2 : Int32)), .val (.ref b1), .val (.int (0 : Int32)), .unset, .unset, .unset, .unset, .unset] rfl ?_
      refine Gk.aload X3 hx (hb hby at_232) rfl rfl ?_
      refine Gk.iload X3 hx (hb hby at_234) rfl ?_
      refine Gk.iconst X3 hx (hb hby at_236) (1 : Int32) rfl ?_
      refine Gk.isub X3 hx (hb hby at_237) (1 : Int32) (by decide) ?_
      refine Gk.baloadB X3 hx hZ e3 V3 ⟨by decide, by decide⟩ (.int (0 : Int32)) rfl (hb hby at_238) ?_
      refine Gk.istore X3 hx (hb hby at_239) #[.val (.int p1), .val (.int p2), .val (.int p3), .val (.int p4), .val (.int tg), .val (.int mm), .val (.int (0 : Int32)), .val (.int (2 : Int32)), .val (.int (2 : Int32)), .val (.ref b1), .val (.int (0 : Int32)), .val (.int (0 : Int32)), .unset, .unset, .unset, .unset] rfl ?_
      refine Gk.aload X3 hx (hb hby at_241) rfl rfl ?_
      have gr7 := (Nat.le_trans (Nat.le_trans E1.1 (Keep.of_wr W2).1) (Keep.of_wr W3).1)
      refine Gk.callS (argsL := [(.ref b1)]) X3 hx hZ hown (rm1_0 l Z a0 hw [] b1 k1 (upd (upd (fun _ => (.int (0 : Int32))) 0 (.int (tg.toInt8.toInt32))) 1 (.int (0 : Int32))) (tg.toInt8.toInt32) h3 n0 (Nat.le_trans Z0 gr7) V3 rfl rfl htg.2) (hw _ (List.mem_of_getElem? (i := 2) rfl)) (hw _ (List.mem_of_getElem? (i := 3) rfl)) (hw _ (List.mem_of_getElem? (i := 4) rfl)) (hw _ (List.mem_of_getElem? (i := 5) rfl)) (by decide) e3 pd_4 rfl rfl (by decide) (Nat.le_of_ble_eq_true rfl) (by decide) (by decide) (by rw [hml]; rfl)  rfl (hb hby at_243) ?_
      intro T6 L6 v6 X6 hQ6
      obtain ⟨rfl, N6q, K6, E6_, Fp6_bytes, Fp6_start, Fp6_contentStart, Fp6_end⟩ := hQ6
      have N6 := Fr.app N3 N6q
      obtain ⟨b6, g6⟩ : ∃ z_, z_ = h3.size := ⟨_, rfl⟩
      rw [← g6] at E6_ Fp6_bytes Fp6_start Fp6_contentStart Fp6_end ⊢
      have g_b6 : n0 ≤ b6 := Nat.le_trans (Nat.le_trans Z0 gr7) (Nat.le_of_eq g6.symm)
      have lt_b6 : b6 < T6.heap.size := E6_.lt
      show Go p e below (T6.setTop (mkF m 246 #[.val (.int p1), .val (.int p2), .val (.int p3), .val (.int p4), .val (.int tg), .val (.int mm), .val (.int (0 : Int32)), .val (.int (2 : Int32)), .val (.int (2 : Int32)), .val (.ref b1), .val (.int (0 : Int32)), .val (.int (0 : Int32)), .unset, .unset, .unset, .unset] [(.ref b6)])) _
      refine Gk.astore X6 hx (hb hby at_246) rfl #[.val (.int p1), .val (.int p2), .val (.int p3), .val (.int p4), .val (.int tg), .val (.int mm), .val (.int (0 : Int32)), .val (.int (2 : Int32)), .val (.int (2 : Int32)), .val (.ref b1), .val (.int (0 : Int32)), .val (.int (0 : Int32)), .val (.ref b6), .unset, .unset, .unset] rfl ?_
      refine Gk.aload X6 hx (hb hby at_248) rfl rfl ?_
      have H9 := (V3.keep K6 nin0)
      refine Gk.callV (argsL := []) X6 hx hZ hown (rm4_0 l Z a0 hw [] b6 b1 k1 (upd (upd (fun _ => (.int (0 : Int32))) 0 (.int (tg.toInt8.toInt32))) 1 (.int (0 : Int32))) (tg.toInt8.toInt32) T6.heap n0 (Nat.le_trans Z0 (Nat.le_trans gr7 K6.1)) H9 Fp6_bytes Fp6_start Fp6_contentStart Fp6_end rfl) (hw _ (List.mem_of_getElem? (i := 22) rfl)) (hw _ (List.mem_of_getElem? (i := 23) rfl)) (notFace_of_selects (args := #[]) (mvT hZ (hw _ (List.mem_of_getElem? (i := 25) rfl)))) (hw _ (List.mem_of_getElem? (i := 25) rfl)) (hw _ (List.mem_of_getElem? (i := 24) rfl)) (by decide) (hw _ (List.mem_of_getElem? (i := 26) rfl)) (hw _ (List.mem_of_getElem? (i := 4) rfl)) rfl E6_ pd_5 rfl rfl (by decide) (Nat.le_of_ble_eq_true rfl) (by decide) (by decide) (by rw [hml]; rfl)  rfl (hb hby at_250) ?_
      intro T8 L8 v8 X8 hQ8
      obtain ⟨rfl, N8q, e8⟩ := hQ8
      have N8 := Fr.app N6 N8q
      show Go p e below (T8.setTop (mkF m 253 #[.val (.int p1), .val (.int p2), .val (.int p3), .val (.int p4), .val (.int tg), .val (.int mm), .val (.int (0 : Int32)), .val (.int (2 : Int32)), .val (.int (2 : Int32)), .val (.ref b1), .val (.int (0 : Int32)), .val (.int (0 : Int32)), .val (.ref b6), .unset, .unset, .unset] [(.int ((tg.toInt8.toInt32) &&& (255 : Int32)))])) _
      refine Gk.iload X8 hx (hb hby at_253) rfl ?_
      have hc255 : ((tg.toInt8.toInt32) &&& (255 : Int32)) = tg := htg.1
      refine Gk.icmpNo X8 hx (hb hby at_255) (teq hc255).2 ?_
      refine Gk.iconst X8 hx (hb hby at_258) (1 : Int32) rfl ?_
      refine Gk.goto X8 hx (hb hby at_259) 263 (by decide) (by decide) ?_
      refine Gk.istore X8 hx (hb hby at_263) #[.val (.int p1), .val (.int p2), .val (.int p3), .val (.int p4), .val (.int tg), .val (.int mm), .val (.int (0 : Int32)), .val (.int (2 : Int32)), .val (.int (2 : Int32)), .val (.ref b1), .val (.int (0 : Int32)), .val (.int (0 : Int32)), .val (.ref b6), .val (.int (1 : Int32)), .unset, .unset] rfl ?_
      refine Gk.aload X8 hx (hb hby at_265) rfl rfl ?_
      refine Gk.callV (argsL := []) X8 hx hZ hown (rm5_0 l Z a0 hw [] b6 b1 k1 (upd (upd (fun _ => (.int (0 : Int32))) 0 (.int (tg.toInt8.toInt32))) 1 (.int (0 : Int32))) T6.heap n0 (Nat.le_trans Z0 (Nat.le_trans gr7 K6.1)) H9 Fp6_bytes Fp6_start Fp6_contentStart Fp6_end) (hw _ (List.mem_of_getElem? (i := 27) rfl)) (hw _ (List.mem_of_getElem? (i := 28) rfl)) (notFace_of_selects (args := #[]) (mvT hZ (hw _ (List.mem_of_getElem? (i := 30) rfl)))) (hw _ (List.mem_of_getElem? (i := 30) rfl)) (hw _ (List.mem_of_getElem? (i := 29) rfl)) (by decide) (hw _ (List.mem_of_getElem? (i := 31) rfl)) (hw _ (List.mem_of_getElem? (i := 4) rfl)) e8 E6_ pd_6 rfl rfl (by decide) (Nat.le_of_ble_eq_true rfl) (by decide) (by decide) (by rw [hml]; rfl)  rfl (hb hby at_267) ?_
      intro T10 L10 v10 X10 hQ10
      obtain ⟨rfl, N10q, K10, k10, A10⟩ := hQ10
      have N10 := Fr.app N8 N10q
      obtain ⟨b10, g10⟩ : ∃ z_, z_ = T6.heap.size := ⟨_, rfl⟩
      rw [← g10] at A10 ⊢
      have g_b10 : n0 ≤ b10 := Nat.le_trans (Nat.le_trans Z0 (Nat.le_trans gr7 K6.1)) (Nat.le_of_eq g10.symm)
      have lt_b10 : b10 < T10.heap.size := A10.lt
      show Go p e below (T10.setTop (mkF m 270 #[.val (.int p1), .val (.int p2), .val (.int p3), .val (.int p4), .val (.int tg), .val (.int mm), .val (.int (0 : Int32)), .val (.int (2 : Int32)), .val (.int (2 : Int32)), .val (.ref b1), .val (.int (0 : Int32)), .val (.int (0 : Int32)), .val (.ref b6), .val (.int (1 : Int32)), .unset, .unset] [(.ref b10)])) _
      refine Gk.astore X10 hx (hb hby at_270) rfl #[.val (.int p1), .val (.int p2), .val (.int p3), .val (.int p4), .val (.int tg), .val (.int mm), .val (.int (0 : Int32)), .val (.int (2 : Int32)), .val (.int (2 : Int32)), .val (.ref b1), .val (.int (0 : Int32)), .val (.int (0 : Int32)), .val (.ref b6), .val (.int (1 : Int32)), .val (.ref b10), .unset] rfl ?_
      refine Gk.iload X10 hx (hb hby at_272) rfl ?_
      refine Gk.ifNo X10 hx (hb hby at_274) (feq (by decide : ¬ ((1 : Int32) = (0 : Int32)))).1 ?_
      refine Gk.aload X10 hx (hb hby at_277) rfl rfl ?_
      refine Gk.alen X10 hx hZ rfl A10 (hb hby at_279) ?_
      refine Gk.iload X10 hx (hb hby at_280) rfl ?_
      refine Gk.icmpNo X10 hx (hb hby at_282) (teq (by decide : (0 : Int32) = (0 : Int32))).2 ?_
      refine Gk.iconst X10 hx (hb hby at_285) (1 : Int32) rfl ?_
      refine Gk.goto X10 hx (hb hby at_286) 290 (by decide) (by decide) ?_
      refine Gk.istore X10 hx (hb hby at_290) #[.val (.int p1), .val (.int p2), .val (.int p3), .val (.int p4), .val (.int tg), .val (.int mm), .val (.int (0 : Int32)), .val (.int (2 : Int32)), .val (.int (2 : Int32)), .val (.ref b1), .val (.int (0 : Int32)), .val (.int (0 : Int32)), .val (.ref b6), .val (.int (1 : Int32)), .val (.ref b10), .unset] rfl ?_
      refine Gk.iload X10 hx (hb hby at_292) rfl ?_
      refine Gk.iconst X10 hx (hb hby at_294) (1 : Int32) rfl ?_
      refine Gk.icmpYes X10 hx (hb hby at_295) (tlt (by decide : (0 : Int32) < (1 : Int32))).1 346 (by decide) (by decide) ?_
      refine Gk.iload X10 hx (hb hby at_346) rfl ?_
      refine Gk.iconst X10 hx (hb hby at_348) (3 : Int32) rfl ?_
      refine Gk.icmpYes X10 hx (hb hby at_349) (tlt (by decide : (0 : Int32) < (3 : Int32))).1 371 (by decide) (by decide) ?_
      refine Gk.aload X10 hx (hb hby at_371) rfl rfl ?_
      have H12 := (H9.keep K10 nin0)
      have H13 := (Fp6_bytes.keep K10 nin0)
      have H14 := (Fp6_start.keep K10 nin0)
      have H15 := (Fp6_contentStart.keep K10 nin0)
      have H16 := (Fp6_end.keep K10 nin0)
      have H17 := ((((B1.wr W2).wr W3).keep K6).keep K10)
      have gr18 := (Nat.le_trans (Nat.le_trans gr7 K6.1) K10.1)
      have H19 := (E6_.keep K10)
      refine Gk.callV (argsL := []) X10 hx hZ hown (rm10_0 l Z a0 hw [] b6 b1 k1 (upd (upd (fun _ => (.int (0 : Int32))) 0 (.int (tg.toInt8.toInt32))) 1 (.int (0 : Int32))) T10.heap n0 (Nat.le_trans Z0 gr18) H12 H13 H14 H15 H16 H17) (hw _ (List.mem_of_getElem? (i := 50) rfl)) (hw _ (List.mem_of_getElem? (i := 51) rfl)) (notFace_of_selects (args := #[]) (mvT hZ (hw _ (List.mem_of_getElem? (i := 53) rfl)))) (hw _ (List.mem_of_getElem? (i := 53) rfl)) (hw _ (List.mem_of_getElem? (i := 52) rfl)) (by decide) (hw _ (List.mem_of_getElem? (i := 54) rfl)) (hw _ (List.mem_of_getElem? (i := 4) rfl)) rfl H19 pd_6 rfl rfl (by decide) (Nat.le_of_ble_eq_true rfl) (by decide) (by decide) (by rw [hml]; rfl)  rfl (hb hby at_373) ?_
      intro T11 L11 v11 X11 hQ11
      obtain ⟨rfl, N11q, K11, k11, A11⟩ := hQ11
      have N11 := Fr.app N10 N11q
      obtain ⟨b11, g11⟩ : ∃ z_, z_ = T10.heap.size := ⟨_, rfl⟩
      rw [← g11] at A11 ⊢
      have g_b11 : n0 ≤ b11 := Nat.le_trans (Nat.le_trans Z0 gr18) (Nat.le_of_eq g11.symm)
      have lt_b11 : b11 < T11.heap.size := A11.lt
      show Go p e below (T11.setTop (mkF m 376 #[.val (.int p1), .val (.int p2), .val (.int p3), .val (.int p4), .val (.int tg), .val (.int mm), .val (.int (0 : Int32)), .val (.int (2 : Int32)), .val (.int (2 : Int32)), .val (.ref b1), .val (.int (0 : Int32)), .val (.int (0 : Int32)), .val (.ref b6), .val (.int (1 : Int32)), .val (.ref b10), .unset] [(.ref b11)])) _
      refine Gk.astore X11 hx (hb hby at_376) rfl #[.val (.int p1), .val (.int p2), .val (.int p3), .val (.int p4), .val (.int tg), .val (.int mm), .val (.int (0 : Int32)), .val (.int (2 : Int32)), .val (.int (2 : Int32)), .val (.ref b1), .val (.int (0 : Int32)), .val (.int (0 : Int32)), .val (.ref b6), .val (.int (1 : Int32)), .val (.ref b10), .val (.ref b11)] rfl ?_
      refine Gk.iload X11 hx (hb hby at_378) rfl ?_
      refine Gk.ifNo X11 hx (hb hby at_380) (feq (by decide : ¬ ((1 : Int32) = (0 : Int32)))).1 ?_
      refine Gk.aload X11 hx (hb hby at_383) rfl rfl ?_
      refine Gk.alen X11 hx hZ rfl A11 (hb hby at_385) ?_
      refine Gk.iload X11 hx (hb hby at_386) rfl ?_
      refine Gk.icmpNo X11 hx (hb hby at_388) (teq (by decide : (2 : Int32) = (2 : Int32))).2 ?_
      refine Gk.aload X11 hx (hb hby at_391) rfl rfl ?_
      refine Gk.iconst X11 hx (hb hby at_393) (0 : Int32) rfl ?_
      refine Gk.baloadB X11 hx hZ rfl A11 ⟨by decide, by decide⟩ (.int (tg.toInt8.toInt32)) rfl (hb hby at_394) ?_
      refine Gk.iload X11 hx (hb hby at_395) rfl ?_
      refine Gk.i2b X11 hx (hb hby at_397) _ rfl ?_
      refine Gk.icmpNo X11 hx (hb hby at_398) (teq (rfl : (tg.toInt8.toInt32) = (tg.toInt8.toInt32))).2 ?_
      refine Gk.aload X11 hx (hb hby at_401) rfl rfl ?_
      refine Gk.iconst X11 hx (hb hby at_403) (1 : Int32) rfl ?_
      refine Gk.baloadB X11 hx hZ rfl A11 ⟨by decide, by decide⟩ (.int (0 : Int32)) rfl (hb hby at_404) ?_
      refine Gk.iload X11 hx (hb hby at_405) rfl ?_
      refine Gk.icmpNo X11 hx (hb hby at_407) (teq (by decide : (0 : Int32) = (0 : Int32))).2 ?_
      refine Gk.aload X11 hx (hb hby at_410) rfl rfl ?_
      refine Gk.iload X11 hx (hb hby at_412) rfl ?_
      refine Gk.iconst X11 hx (hb hby at_414) (1 : Int32) rfl ?_
      refine Gk.isub X11 hx (hb hby at_415) (1 : Int32) (by decide) ?_
      refine Gk.baloadB X11 hx hZ rfl A11 ⟨by decide, by decide⟩ (.int (0 : Int32)) rfl (hb hby at_416) ?_
      refine Gk.iload X11 hx (hb hby at_417) rfl ?_
      refine Gk.icmpNo X11 hx (hb hby at_419) (teq (by decide : (0 : Int32) = (0 : Int32))).2 ?_
      refine Gk.iconst X11 hx (hb hby at_422) (1 : Int32) rfl ?_
      refine Gk.goto X11 hx (hb hby at_423) 427 (by decide) (by decide) ?_
      refine Gk.istore X11 hx (hb hby at_427) #[.val (.int p1), .val (.int p2), .val (.int p3), .val (.int p4), .val (.int tg), .val (.int mm), .val (.int (0 : Int32)), .val (.int (2 : Int32)), .val (.int (2 : Int32)), .val (.ref b1), .val (.int (0 : Int32)), .val (.int (0 : Int32)), .val (.ref b6), .val (.int (1 : Int32)), .val (.ref b10), .val (.ref b11)] rfl ?_
      refine Gk.iload X11 hx (hb hby at_429) rfl ?_
      refine Go.fin X11 (v := some (.int (1 : Int32))) (fun h_ => by rw [Bd.returns] at h_; cases h_) Bd.notSynchronized (fun _ hr => retN X11 hx (t := .boolean) Bd.returns (by simp) (hb hby at_431) hr) (fun U' hU hF => ⟨_, _, rfl, ?_, hF.1, hF.2.1, hF.2.2.mono (by decide) (by decide)⟩)
      exact ⟨(congrArg (fun z_ : Int32 => some (Value.int z_)) (show (1 : Int32) = (1 : Int32) from rfl)), N11⟩
    · refine Gk.ifYes X0 hx (hb hby at_34) (feq hc34).2 46 (by decide) (by decide) ?_
      refine Gk.iload X0 hx (hb hby at_46) rfl ?_
      refine Gk.iconst X0 hx (hb hby at_48) (1 : Int32) rfl ?_
      by_cases hc49 : mm = (1 : Int32)
      · refine Gk.icmpNo X0 hx (hb hby at_49) (teq hc49).2 ?_
        refine Gk.iconst X0 hx (hb hby at_52) (1 : Int32) rfl ?_
        refine Gk.istore X0 hx (hb hby at_53) #[.val (.int p1), .val (.int p2), .val (.int p3), .val (.int p4), .val (.int tg), .val (.int mm), .val (.int (1 : Int32)), .unset, .unset, .unset, .unset, .unset, .unset, .unset, .unset, .unset] rfl ?_
        refine Gk.iconst X0 hx (hb hby at_55) (2 : Int32) rfl ?_
        refine Gk.istore X0 hx (hb hby at_56) #[.val (.int p1), .val (.int p2), .val (.int p3), .val (.int p4), .val (.int tg), .val (.int mm), .val (.int (1 : Int32)), .val (.int (2 : Int32)), .unset, .unset, .unset, .unset, .unset, .unset, .unset, .unset] rfl ?_
        refine Gk.goto X0 hx (hb hby at_58) 119 (by decide) (by decide) ?_
        refine Gk.iload X0 hx (hb hby at_119) rfl ?_
        refine Gk.iload X0 hx (hb hby at_121) rfl ?_
        refine Gk.iadd X0 hx (hb hby at_123) (3 : Int32) (by decide) ?_
        refine Gk.istore X0 hx (hb hby at_124) #[.val (.int p1), .val (.int p2), .val (.int p3), .val (.int p4), .val (.int tg), .val (.int mm), .val (.int (1 : Int32)), .val (.int (2 : Int32)), .val (.int (3 : Int32)), .unset, .unset, .unset, .unset, .unset, .unset, .unset] rfl ?_
        refine Gk.iload X0 hx (hb hby at_126) rfl ?_
        refine Gk.newP X0 hx hZ (hw _ (List.mem_of_getElem? (i := 1) rfl)) e0 (hb hby at_128) (by decide) (cap := 3) (by decide) (by decide) (by decide) (by decide) rfl ?_
        intro T23 h23 b23 k23 X23 e23 E23 g23 A23 B23
        have g_b23 : n0 ≤ b23 := Nat.le_trans Z0 (Nat.le_of_eq g23.symm)
        have V_b23 : Arf Z h23 b23 k23 .byte (3 : Int32) (fun _ => (.int (0 : Int32))) := A23
        have lt_b23 := V_b23.lt
        refine Gk.astore X23 hx (hb hby at_130) rfl #[.val (.int p1), .val (.int p2), .val (.int p3), .val (.int p4), .val (.int tg), .val (.int mm), .val (.int (1 : Int32)), .val (.int (2 : Int32)), .val (.int (3 : Int32)), .val (.ref b23), .unset, .unset, .unset, .unset, .unset, .unset] rfl ?_
        refine Gk.aload X23 hx (hb hby at_132) rfl rfl ?_
        refine Gk.iconst X23 hx (hb hby at_134) (0 : Int32) rfl ?_
        refine Gk.iload X23 hx (hb hby at_135) rfl ?_
        refine Gk.i2b X23 hx (hb hby at_137) _ rfl ?_
        refine Gk.bastoreB X23 hx hZ e23 V_b23 0 rfl ⟨by decide, by decide⟩ (.int (tg.toInt8.toInt32)) (congrArg Value.int (own_nb _)) (hb hby at_138) ?_
        intro T24 h24 X24 e24 W24 V24
        have N24 := Fr.snoc X24 N0 g_b23
        refine Gk.iload X24 hx (hb hby at_139) rfl ?_
        refine Gk.iconst X24 hx (hb hby at_141) (2 : Int32) rfl ?_
        refine Gk.icmpNo X24 hx (hb hby at_142) (teq (by decide : (2 : Int32) = (2 : Int32))).2 ?_
        refine Gk.aload X24 hx (hb hby at_145) rfl rfl ?_
        refine Gk.iconst X24 hx (hb hby at_147) (1 : Int32) rfl ?_
        refine Gk.iload X24 hx (hb hby at_148) rfl ?_
        refine Gk.i2b X24 hx (hb hby at_150) (1 : Int32) (by decide) ?_
        refine Gk.bastoreB X24 hx hZ e24 V24 1 rfl ⟨by decide, by decide⟩ (.int (1 : Int32)) rfl (hb hby at_151) ?_
        intro T25 h25 X25 e25 W25 V25
        have N25 := Fr.snoc X25 N24 g_b23
        refine Gk.goto X25 hx (hb hby at_152) 204 (by decide) (by decide) ?_
        refine Gk.iload X25 hx (hb hby at_204) rfl ?_
        refine Gk.iconst X25 hx (hb hby at_206) (1 : Int32) rfl ?_
        refine Gk.icmpNo X25 hx (hb hby at_207) (flt (by decide : ¬ ((1 : Int32) < (1 : Int32)))).1 ?_
        refine Gk.aload X25 hx (hb hby at_210) rfl rfl ?_
        refine Gk.iload X25 hx (hb hby at_212) rfl ?_
        refine Gk.iconst X25 hx (hb hby at_214) (1 : Int32) rfl ?_
        refine Gk.isub X25 hx (hb hby at_215) (2 : Int32) (by decide) ?_
        refine Gk.iloadN X25 hx (hb hby at_216) rfl ?_
        refine Gk.i2b X25 hx (hb hby at_217) _ rfl ?_
        refine Gk.bastoreB X25 hx hZ e25 V25 2 rfl ⟨by decide, by decide⟩ (.int (p4.toInt8.toInt32)) (congrArg Value.int (own_nb _)) (hb hby at_218) ?_
        intro T26 h26 X26 e26 W26 V26
        have N26 := Fr.snoc X26 N25 g_b23
        refine Gk.aload X26 hx (hb hby at_219) rfl rfl ?_
        refine Gk.iload X26 hx (hb hby at_221) rfl ?_
        refine Gk.iloadN X26 hx (hb hby at_223) rfl ?_
        refine Gk.i2b X26 hx (hb hby at_224) _ rfl ?_
        refine Gk.bastoreB X26 hx hZ e26 V26 2 rfl ⟨by decide, by decide⟩ (.int (p3.toInt8.toInt32)) (congrArg Value.int (own_nb _)) (hb hby at_225) ?_
        intro T27 h27 X27 e27 W27 V27
        have N27 := Fr.snoc X27 N26 g_b23
        refine Gk.aload X27 hx (hb hby at_226) rfl rfl ?_
        refine Gk.iconst X27 hx (hb hby at_228) (1 : Int32) rfl ?_
        refine Gk.baloadB X27 hx hZ e27 V27 ⟨by decide, by decide⟩ (.int (1 : Int32)) rfl (hb hby at_229) ?_
        refine Gk.istore X27 hx (hb hby at_230) #[.val (.int p1), .val (.int p2), .val (.int p3), .val (.int p4), .val (.int tg), .val (.int mm), .val (.int (1 : Int32)), .val (.int (2 : Int32)), .val (.int (3 : Int32)), .val (.ref b23), .val (.int (1 : Int32)), .unset, .unset, .unset, .unset, .unset] rfl ?_
        refine Gk.aload X27 hx (hb hby at_232) rfl rfl ?_
        refine Gk.iload X27 hx (hb hby at_234) rfl ?_
        refine Gk.iconst X27 hx (hb hby at_236) (1 : Int32) rfl ?_
        refine Gk.isub X27 hx (hb hby at_237) (2 : Int32) (by decide) ?_
        refine Gk.baloadB X27 hx hZ e27 V27 ⟨by decide, by decide⟩ (.int (p3.toInt8.toInt32)) rfl (hb hby at_238) ?_
        refine Gk.istore X27 hx (hb hby at_239) #[.val (.int p1), .val (.int p2), .val (.int p3), .val (.int p4), .val (.int tg), .val (.int mm), .val (.int (1 : Int32)), .val (.int (2 : Int32)), .val (.int (3 : Int32)), .val (.ref b23), .val (.int (1 : Int32)), .val (.int (p3.toInt8.toInt32)), .unset, .unset, .unset, .unset] rfl ?_
        refine Gk.aload X27 hx (hb hby at_241) rfl rfl ?_
        have gr31 := (Nat.le_trans (Nat.le_trans (Nat.le_trans (Nat.le_trans E23.1 (Keep.of_wr W24).1) (Keep.of_wr W25).1) (Keep.of_wr W26).1) (Keep.of_wr W27).1)
        refine Gk.callS (argsL := [(.ref b23)]) X27 hx hZ hown (rm1_1 l Z a0 hw [] b23 k23 (upd (upd (upd (upd (fun _ => (.int (0 : Int32))) 0 (.int (tg.toInt8.toInt32))) 1 (.int (1 : Int32))) 2 (.int (p4.toInt8.toInt32))) 2 (.int (p3.toInt8.toInt32))) (tg.toInt8.toInt32) h27 n0 (Nat.le_trans Z0 gr31) V27 rfl rfl htg.2) (hw _ (List.mem_of_getElem? (i := 2) rfl)) (hw _ (List.mem_of_getElem? (i := 3) rfl)) (hw _ (List.mem_of_getElem? (i := 4) rfl)) (hw _ (List.mem_of_getElem? (i := 5) rfl)) (by decide) e27 pd_4 rfl rfl (by decide) (Nat.le_of_ble_eq_true rfl) (by decide) (by decide) (by rw [hml]; rfl)  rfl (hb hby at_243) ?_
        intro T30 L30 v30 X30 hQ30
        obtain ⟨rfl, N30q, K30, E30_, Fp30_bytes, Fp30_start, Fp30_contentStart, Fp30_end⟩ := hQ30
        have N30 := Fr.app N27 N30q
        obtain ⟨b30, g30⟩ : ∃ z_, z_ = h27.size := ⟨_, rfl⟩
        rw [← g30] at E30_ Fp30_bytes Fp30_start Fp30_contentStart Fp30_end ⊢
        have g_b30 : n0 ≤ b30 := Nat.le_trans (Nat.le_trans Z0 gr31) (Nat.le_of_eq g30.symm)
        have lt_b30 : b30 < T30.heap.size := E30_.lt
        show Go p e below (T30.setTop (mkF m 246 #[.val (.int p1), .val (.int p2), .val (.int p3), .val (.int p4), .val (.int tg), .val (.int mm), .val (.int (1 : Int32)), .val (.int (2 : Int32)), .val (.int (3 : Int32)), .val (.ref b23), .val (.int (1 : Int32)), .val (.int (p3.toInt8.toInt32)), .unset, .unset, .unset, .unset] [(.ref b30)])) _
        refine Gk.astore X30 hx (hb hby at_246) rfl #[.val (.int p1), .val (.int p2), .val (.int p3), .val (.int p4), .val (.int tg), .val (.int mm), .val (.int (1 : Int32)), .val (.int (2 : Int32)), .val (.int (3 : Int32)), .val (.ref b23), .val (.int (1 : Int32)), .val (.int (p3.toInt8.toInt32)), .val (.ref b30), .unset, .unset, .unset] rfl ?_
        refine Gk.aload X30 hx (hb hby at_248) rfl rfl ?_
        have H33 := (V27.keep K30 nin0)
        refine Gk.callV (argsL := []) X30 hx hZ hown (rm4_1 l Z a0 hw [] b30 b23 k23 (upd (upd (upd (upd (fun _ => (.int (0 : Int32))) 0 (.int (tg.toInt8.toInt32))) 1 (.int (1 : Int32))) 2 (.int (p4.toInt8.toInt32))) 2 (.int (p3.toInt8.toInt32))) (tg.toInt8.toInt32) T30.heap n0 (Nat.le_trans Z0 (Nat.le_trans gr31 K30.1)) H33 Fp30_bytes Fp30_start Fp30_contentStart Fp30_end rfl) (hw _ (List.mem_of_getElem? (i := 22) rfl)) (hw _ (List.mem_of_getElem? (i := 23) rfl)) (notFace_of_selects (args := #[]) (mvT hZ (hw _ (List.mem_of_getElem? (i := 25) rfl)))) (hw _ (List.mem_of_getElem? (i := 25) rfl)) (hw _ (List.mem_of_getElem? (i := 24) rfl)) (by decide) (hw _ (List.mem_of_getElem? (i := 26) rfl)) (hw _ (List.mem_of_getElem? (i := 4) rfl)) rfl E30_ pd_5 rfl rfl (by decide) (Nat.le_of_ble_eq_true rfl) (by decide) (by decide) (by rw [hml]; rfl)  rfl (hb hby at_250) ?_
        intro T32 L32 v32 X32 hQ32
        obtain ⟨rfl, N32q, e32⟩ := hQ32
        have N32 := Fr.app N30 N32q
        show Go p e below (T32.setTop (mkF m 253 #[.val (.int p1), .val (.int p2), .val (.int p3), .val (.int p4), .val (.int tg), .val (.int mm), .val (.int (1 : Int32)), .val (.int (2 : Int32)), .val (.int (3 : Int32)), .val (.ref b23), .val (.int (1 : Int32)), .val (.int (p3.toInt8.toInt32)), .val (.ref b30), .unset, .unset, .unset] [(.int ((tg.toInt8.toInt32) &&& (255 : Int32)))])) _
        refine Gk.iload X32 hx (hb hby at_253) rfl ?_
        have hc255 : ((tg.toInt8.toInt32) &&& (255 : Int32)) = tg := htg.1
        refine Gk.icmpNo X32 hx (hb hby at_255) (teq hc255).2 ?_
        refine Gk.iconst X32 hx (hb hby at_258) (1 : Int32) rfl ?_
        refine Gk.goto X32 hx (hb hby at_259) 263 (by decide) (by decide) ?_
        refine Gk.istore X32 hx (hb hby at_263) #[.val (.int p1), .val (.int p2), .val (.int p3), .val (.int p4), .val (.int tg), .val (.int mm), .val (.int (1 : Int32)), .val (.int (2 : Int32)), .val (.int (3 : Int32)), .val (.ref b23), .val (.int (1 : Int32)), .val (.int (p3.toInt8.toInt32)), .val (.ref b30), .val (.int (1 : Int32)), .unset, .unset] rfl ?_
        refine Gk.aload X32 hx (hb hby at_265) rfl rfl ?_
        refine Gk.callV (argsL := []) X32 hx hZ hown (rm5_1 l Z a0 hw [] b30 b23 k23 (upd (upd (upd (upd (fun _ => (.int (0 : Int32))) 0 (.int (tg.toInt8.toInt32))) 1 (.int (1 : Int32))) 2 (.int (p4.toInt8.toInt32))) 2 (.int (p3.toInt8.toInt32))) T30.heap n0 (Nat.le_trans Z0 (Nat.le_trans gr31 K30.1)) H33 Fp30_bytes Fp30_start Fp30_contentStart Fp30_end) (hw _ (List.mem_of_getElem? (i := 27) rfl)) (hw _ (List.mem_of_getElem? (i := 28) rfl)) (notFace_of_selects (args := #[]) (mvT hZ (hw _ (List.mem_of_getElem? (i := 30) rfl)))) (hw _ (List.mem_of_getElem? (i := 30) rfl)) (hw _ (List.mem_of_getElem? (i := 29) rfl)) (by decide) (hw _ (List.mem_of_getElem? (i := 31) rfl)) (hw _ (List.mem_of_getElem? (i := 4) rfl)) e32 E30_ pd_6 rfl rfl (by decide) (Nat.le_of_ble_eq_true rfl) (by decide) (by decide) (by rw [hml]; rfl)  rfl (hb hby at_267) ?_
        intro T34 L34 v34 X34 hQ34
        obtain ⟨rfl, N34q, K34, k34, A34⟩ := hQ34
        have N34 := Fr.app N32 N34q
        obtain ⟨b34, g34⟩ : ∃ z_, z_ = T30.heap.size := ⟨_, rfl⟩
        rw [← g34] at A34 ⊢
        have g_b34 : n0 ≤ b34 := Nat.le_trans (Nat.le_trans Z0 (Nat.le_trans gr31 K30.1)) (Nat.le_of_eq g34.symm)
        have lt_b34 : b34 < T34.heap.size := A34.lt
        show Go p e below (T34.setTop (mkF m 270 #[.val (.int p1), .val (.int p2), .val (.int p3), .val (.int p4), .val (.int tg), .val (.int mm), .val (.int (1 : Int32)), .val (.int (2 : Int32)), .val (.int (3 : Int32)), .val (.ref b23), .val (.int (1 : Int32)), .val (.int (p3.toInt8.toInt32)), .val (.ref b30), .val (.int (1 : Int32)), .unset, .unset] [(.ref b34)])) _
        refine Gk.astore X34 hx (hb hby at_270) rfl #[.val (.int p1), .val (.int p2), .val (.int p3), .val (.int p4), .val (.int tg), .val (.int mm), .val (.int (1 : Int32)), .val (.int (2 : Int32)), .val (.int (3 : Int32)), .val (.ref b23), .val (.int (1 : Int32)), .val (.int (p3.toInt8.toInt32)), .val (.ref b30), .val (.int (1 : Int32)), .val (.ref b34), .unset] rfl ?_
        refine Gk.iload X34 hx (hb hby at_272) rfl ?_
        refine Gk.ifNo X34 hx (hb hby at_274) (feq (by decide : ¬ ((1 : Int32) = (0 : Int32)))).1 ?_
        refine Gk.aload X34 hx (hb hby at_277) rfl rfl ?_
        refine Gk.alen X34 hx hZ rfl A34 (hb hby at_279) ?_
        refine Gk.iload X34 hx (hb hby at_280) rfl ?_
        refine Gk.icmpNo X34 hx (hb hby at_282) (teq (by decide : (1 : Int32) = (1 : Int32))).2 ?_
        refine Gk.iconst X34 hx (hb hby at_285) (1 : Int32) rfl ?_
        refine Gk.goto X34 hx (hb hby at_286) 290 (by decide) (by decide) ?_
        refine Gk.istore X34 hx (hb hby at_290) #[.val (.int p1), .val (.int p2), .val (.int p3), .val (.int p4), .val (.int tg), .val (.int mm), .val (.int (1 : Int32)), .val (.int (2 : Int32)), .val (.int (3 : Int32)), .val (.ref b23), .val (.int (1 : Int32)), .val (.int (p3.toInt8.toInt32)), .val (.ref b30), .val (.int (1 : Int32)), .val (.ref b34), .unset] rfl ?_
        refine Gk.iload X34 hx (hb hby at_292) rfl ?_
        refine Gk.iconst X34 hx (hb hby at_294) (1 : Int32) rfl ?_
        refine Gk.icmpNo X34 hx (hb hby at_295) (flt (by decide : ¬ ((1 : Int32) < (1 : Int32)))).1 ?_
        refine Gk.iload X34 hx (hb hby at_298) rfl ?_
        refine Gk.iconst X34 hx (hb hby at_300) (1 : Int32) rfl ?_
        refine Gk.icmpNo X34 hx (hb hby at_301) (teq (by decide : (1 : Int32) = (1 : Int32))).2 ?_
        refine Gk.iloadN X34 hx (hb hby at_304) rfl ?_
        refine Gk.i2b X34 hx (hb hby at_305) _ rfl ?_
        refine Gk.goto X34 hx (hb hby at_306) 311 (by decide) (by decide) ?_
        refine Gk.istore X34 hx (hb hby at_311) #[.val (.int p1), .val (.int p2), .val (.int p3), .val (.int p4), .val (.int tg), .val (.int mm), .val (.int (1 : Int32)), .val (.int (2 : Int32)), .val (.int (3 : Int32)), .val (.ref b23), .val (.int (1 : Int32)), .val (.int (p3.toInt8.toInt32)), .val (.ref b30), .val (.int (1 : Int32)), .val (.ref b34), .val (.int (p3.toInt8.toInt32))] rfl ?_
        refine Gk.iload X34 hx (hb hby at_313) rfl ?_
        refine Gk.ifNo X34 hx (hb hby at_315) (feq (by decide : ¬ ((1 : Int32) = (0 : Int32)))).1 ?_
        refine Gk.aload X34 hx (hb hby at_318) rfl rfl ?_
        refine Gk.iconst X34 hx (hb hby at_320) (0 : Int32) rfl ?_
        refine Gk.baloadB X34 hx hZ rfl A34 ⟨by decide, by decide⟩ (.int (p3.toInt8.toInt32)) rfl (hb hby at_321) ?_
        refine Gk.iloadN X34 hx (hb hby at_322) rfl ?_
        refine Gk.i2b X34 hx (hb hby at_323) _ rfl ?_
        refine Gk.icmpNo X34 hx (hb hby at_324) (teq (rfl : (p3.toInt8.toInt32) = (p3.toInt8.toInt32))).2 ?_
        refine Gk.aload X34 hx (hb hby at_327) rfl rfl ?_
        refine Gk.iload X34 hx (hb hby at_329) rfl ?_
        refine Gk.iconst X34 hx (hb hby at_331) (1 : Int32) rfl ?_
        refine Gk.isub X34 hx (hb hby at_332) (0 : Int32) (by decide) ?_
        refine Gk.baloadB X34 hx hZ rfl A34 ⟨by decide, by decide⟩ (.int (p3.toInt8.toInt32)) rfl (hb hby at_333) ?_
        refine Gk.iload X34 hx (hb hby at_334) rfl ?_
        refine Gk.icmpNo X34 hx (hb hby at_336) (teq (rfl : (p3.toInt8.toInt32) = (p3.toInt8.toInt32))).2 ?_
        refine Gk.iconst X34 hx (hb hby at_339) (1 : Int32) rfl ?_
        refine Gk.goto X34 hx (hb hby at_340) 344 (by decide) (by decide) ?_
        refine Gk.istore X34 hx (hb hby at_344) #[.val (.int p1), .val (.int p2), .val (.int p3), .val (.int p4), .val (.int tg), .val (.int mm), .val (.int (1 : Int32)), .val (.int (2 : Int32)), .val (.int (3 : Int32)), .val (.ref b23), .val (.int (1 : Int32)), .val (.int (p3.toInt8.toInt32)), .val (.ref b30), .val (.int (1 : Int32)), .val (.ref b34), .val (.int (p3.toInt8.toInt32))] rfl ?_
        refine Gk.iload X34 hx (hb hby at_346) rfl ?_
        refine Gk.iconst X34 hx (hb hby at_348) (3 : Int32) rfl ?_
        refine Gk.icmpYes X34 hx (hb hby at_349) (tlt (by decide : (1 : Int32) < (3 : Int32))).1 371 (by decide) (by decide) ?_
        refine Gk.aload X34 hx (hb hby at_371) rfl rfl ?_
        have H38 := (H33.keep K34 nin0)
        have H39 := (Fp30_bytes.keep K34 nin0)
        have H40 := (Fp30_start.keep K34 nin0)
        have H41 := (Fp30_contentStart.keep K34 nin0)
        have H42 := (Fp30_end.keep K34 nin0)
        have H43 := ((((((B23.wr W24).wr W25).wr W26).wr W27).keep K30).keep K34)
        have gr44 := (Nat.le_trans (Nat.le_trans gr31 K30.1) K34.1)
        have H45 := (E30_.keep K34)
        refine Gk.callV (argsL := []) X34 hx hZ hown (rm10_1 l Z a0 hw [] b30 b23 k23 (upd (upd (upd (upd (fun _ => (.int (0 : Int32))) 0 (.int (tg.toInt8.toInt32))) 1 (.int (1 : Int32))) 2 (.int (p4.toInt8.toInt32))) 2 (.int (p3.toInt8.toInt32))) T34.heap n0 (Nat.le_trans Z0 gr44) H38 H39 H40 H41 H42 H43) (hw _ (List.mem_of_getElem? (i := 50) rfl)) (hw _ (List.mem_of_getElem? (i := 51) rfl)) (notFace_of_selects (args := #[]) (mvT hZ (hw _ (List.mem_of_getElem? (i := 53) rfl)))) (hw _ (List.mem_of_getElem? (i := 53) rfl)) (hw _ (List.mem_of_getElem? (i := 52) rfl)) (by decide) (hw _ (List.mem_of_getElem? (i := 54) rfl)) (hw _ (List.mem_of_getElem? (i := 4) rfl)) rfl H45 pd_6 rfl rfl (by decide) (Nat.le_of_ble_eq_true rfl) (by decide) (by decide) (by rw [hml]; rfl)  rfl (hb hby at_373) ?_
        intro T37 L37 v37 X37 hQ37
        obtain ⟨rfl, N37q, K37, k37, A37⟩ := hQ37
        have N37 := Fr.app N34 N37q
        obtain ⟨b37, g37⟩ : ∃ z_, z_ = T34.heap.size := ⟨_, rfl⟩
        rw [← g37] at A37 ⊢
        have g_b37 : n0 ≤ b37 := Nat.le_trans (Nat.le_trans Z0 gr44) (Nat.le_of_eq g37.symm)
        have lt_b37 : b37 < T37.heap.size := A37.lt
        show Go p e below (T37.setTop (mkF m 376 #[.val (.int p1), .val (.int p2), .val (.int p3), .val (.int p4), .val (.int tg), .val (.int mm), .val (.int (1 : Int32)), .val (.int (2 : Int32)), .val (.int (3 : Int32)), .val (.ref b23), .val (.int (1 : Int32)), .val (.int (p3.toInt8.toInt32)), .val (.ref b30), .val (.int (1 : Int32)), .val (.ref b34), .val (.int (p3.toInt8.toInt32))] [(.ref b37)])) _
        refine Gk.astore X37 hx (hb hby at_376) rfl #[.val (.int p1), .val (.int p2), .val (.int p3), .val (.int p4), .val (.int tg), .val (.int mm), .val (.int (1 : Int32)), .val (.int (2 : Int32)), .val (.int (3 : Int32)), .val (.ref b23), .val (.int (1 : Int32)), .val (.int (p3.toInt8.toInt32)), .val (.ref b30), .val (.int (1 : Int32)), .val (.ref b34), .val (.ref b37)] rfl ?_
        refine Gk.iload X37 hx (hb hby at_378) rfl ?_
        refine Gk.ifNo X37 hx (hb hby at_380) (feq (by decide : ¬ ((1 : Int32) = (0 : Int32)))).1 ?_
        refine Gk.aload X37 hx (hb hby at_383) rfl rfl ?_
        refine Gk.alen X37 hx hZ rfl A37 (hb hby at_385) ?_
        refine Gk.iload X37 hx (hb hby at_386) rfl ?_
        refine Gk.icmpNo X37 hx (hb hby at_388) (teq (by decide : (3 : Int32) = (3 : Int32))).2 ?_
        refine Gk.aload X37 hx (hb hby at_391) rfl rfl ?_
        refine Gk.iconst X37 hx (hb hby at_393) (0 : Int32) rfl ?_
        refine Gk.baloadB X37 hx hZ rfl A37 ⟨by decide, by decide⟩ (.int (tg.toInt8.toInt32)) rfl (hb hby at_394) ?_
        refine Gk.iload X37 hx (hb hby at_395) rfl ?_
        refine Gk.i2b X37 hx (hb hby at_397) _ rfl ?_
        refine Gk.icmpNo X37 hx (hb hby at_398) (teq (rfl : (tg.toInt8.toInt32) = (tg.toInt8.toInt32))).2 ?_
        refine Gk.aload X37 hx (hb hby at_401) rfl rfl ?_
        refine Gk.iconst X37 hx (hb hby at_403) (1 : Int32) rfl ?_
        refine Gk.baloadB X37 hx hZ rfl A37 ⟨by decide, by decide⟩ (.int (1 : Int32)) rfl (hb hby at_404) ?_
        refine Gk.iload X37 hx (hb hby at_405) rfl ?_
        refine Gk.icmpNo X37 hx (hb hby at_407) (teq (by decide : (1 : Int32) = (1 : Int32))).2 ?_
        refine Gk.aload X37 hx (hb hby at_410) rfl rfl ?_
        refine Gk.iload X37 hx (hb hby at_412) rfl ?_
        refine Gk.iconst X37 hx (hb hby at_414) (1 : Int32) rfl ?_
        refine Gk.isub X37 hx (hb hby at_415) (2 : Int32) (by decide) ?_
        refine Gk.baloadB X37 hx hZ rfl A37 ⟨by decide, by decide⟩ (.int (p3.toInt8.toInt32)) rfl (hb hby at_416) ?_
        refine Gk.iload X37 hx (hb hby at_417) rfl ?_
        refine Gk.icmpNo X37 hx (hb hby at_419) (teq (rfl : (p3.toInt8.toInt32) = (p3.toInt8.toInt32))).2 ?_
        refine Gk.iconst X37 hx (hb hby at_422) (1 : Int32) rfl ?_
        refine Gk.goto X37 hx (hb hby at_423) 427 (by decide) (by decide) ?_
        refine Gk.istore X37 hx (hb hby at_427) #[.val (.int p1), .val (.int p2), .val (.int p3), .val (.int p4), .val (.int tg), .val (.int mm), .val (.int (1 : Int32)), .val (.int (2 : Int32)), .val (.int (3 : Int32)), .val (.ref b23), .val (.int (1 : Int32)), .val (.int (p3.toInt8.toInt32)), .val (.ref b30), .val (.int (1 : Int32)), .val (.ref b34), .val (.ref b37)] rfl ?_
        refine Gk.iload X37 hx (hb hby at_429) rfl ?_
        refine Go.fin X37 (v := some (.int (1 : Int32))) (fun h_ => by rw [Bd.returns] at h_; cases h_) Bd.notSynchronized (fun _ hr => retN X37 hx (t := .boolean) Bd.returns (by simp) (hb hby at_431) hr) (fun U' hU hF => ⟨_, _, rfl, ?_, hF.1, hF.2.1, hF.2.2.mono (by decide) (by decide)⟩)
        exact ⟨(congrArg (fun z_ : Int32 => some (Value.int z_)) (show (1 : Int32) = (1 : Int32) from rfl)), N37⟩
      · refine Gk.icmpYes X0 hx (hb hby at_49) (feq hc49).2 61 (by decide) (by decide) ?_
        refine Gk.iload X0 hx (hb hby at_61) rfl ?_
        refine Gk.iconst X0 hx (hb hby at_63) (2 : Int32) rfl ?_
        by_cases hc64 : mm = (2 : Int32)
        · refine Gk.icmpNo X0 hx (hb hby at_64) (teq hc64).2 ?_
          refine Gk.bipush X0 hx (hb hby at_67) (127 : Int32) rfl ?_
          refine Gk.istore X0 hx (hb hby at_69) #[.val (.int p1), .val (.int p2), .val (.int p3), .val (.int p4), .val (.int tg), .val (.int mm), .val (.int (127 : Int32)), .unset, .unset, .unset, .unset, .unset, .unset, .unset, .unset, .unset] rfl ?_
          refine Gk.iconst X0 hx (hb hby at_71) (2 : Int32) rfl ?_
          refine Gk.istore X0 hx (hb hby at_72) #[.val (.int p1), .val (.int p2), .val (.int p3), .val (.int p4), .val (.int tg), .val (.int mm), .val (.int (127 : Int32)), .val (.int (2 : Int32)), .unset, .unset, .unset, .unset, .unset, .unset, .unset, .unset] rfl ?_
          refine Gk.goto X0 hx (hb hby at_74) 119 (by decide) (by decide) ?_
          refine Gk.iload X0 hx (hb hby at_119) rfl ?_
          refine Gk.iload X0 hx (hb hby at_121) rfl ?_
          refine Gk.iadd X0 hx (hb hby at_123) (129 : Int32) (by decide) ?_
          refine Gk.istore X0 hx (hb hby at_124) #[.val (.int p1), .val (.int p2), .val (.int p3), .val (.int p4), .val (.int tg), .val (.int mm), .val (.int (127 : Int32)), .val (.int (2 : Int32)), .val (.int (129 : Int32)), .unset, .unset, .unset, .unset, .unset, .unset, .unset] rfl ?_
          refine Gk.iload X0 hx (hb hby at_126) rfl ?_
          refine Gk.newP X0 hx hZ (hw _ (List.mem_of_getElem? (i := 1) rfl)) e0 (hb hby at_128) (by decide) (cap := 129) (by decide) (by decide) (by decide) (by decide) rfl ?_
          intro T49 h49 b49 k49 X49 e49 E49 g49 A49 B49
          have g_b49 : n0 ≤ b49 := Nat.le_trans Z0 (Nat.le_of_eq g49.symm)
          have V_b49 : Arf Z h49 b49 k49 .byte (129 : Int32) (fun _ => (.int (0 : Int32))) := A49
          have lt_b49 := V_b49.lt
          refine Gk.astore X49 hx (hb hby at_130) rfl #[.val (.int p1), .val (.int p2), .val (.int p3), .val (.int p4), .val (.int tg), .val (.int mm), .val (.int (127 : Int32)), .val (.int (2 : Int32)), .val (.int (129 : Int32)), .val (.ref b49), .unset, .unset, .unset, .unset, .unset, .unset] rfl ?_
          refine Gk.aload X49 hx (hb hby at_132) rfl rfl ?_
          refine Gk.iconst X49 hx (hb hby at_134) (0 : Int32) rfl ?_
          refine Gk.iload X49 hx (hb hby at_135) rfl ?_
          refine Gk.i2b X49 hx (hb hby at_137) _ rfl ?_
          refine Gk.bastoreB X49 hx hZ e49 V_b49 0 rfl ⟨by decide, by decide⟩ (.int (tg.toInt8.toInt32)) (congrArg Value.int (own_nb _)) (hb hby at_138) ?_
          intro T50 h50 X50 e50 W50 V50
          have N50 := Fr.snoc X50 N0 g_b49
          refine Gk.iload X50 hx (hb hby at_139) rfl ?_
          refine Gk.iconst X50 hx (hb hby at_141) (2 : Int32) rfl ?_
          refine Gk.icmpNo X50 hx (hb hby at_142) (teq (by decide : (2 : Int32) = (2 : Int32))).2 ?_
          refine Gk.aload X50 hx (hb hby at_145) rfl rfl ?_
          refine Gk.iconst X50 hx (hb hby at_147) (1 : Int32) rfl ?_
          refine Gk.iload X50 hx (hb hby at_148) rfl ?_
          refine Gk.i2b X50 hx (hb hby at_150) (127 : Int32) (by decide) ?_
          refine Gk.bastoreB X50 hx hZ e50 V50 1 rfl ⟨by decide, by decide⟩ (.int (127 : Int32)) rfl (hb hby at_151) ?_
          intro T51 h51 X51 e51 W51 V51
          have N51 := Fr.snoc X51 N50 g_b49
          refine Gk.goto X51 hx (hb hby at_152) 204 (by decide) (by decide) ?_
          refine Gk.iload X51 hx (hb hby at_204) rfl ?_
          refine Gk.iconst X51 hx (hb hby at_206) (1 : Int32) rfl ?_
          refine Gk.icmpNo X51 hx (hb hby at_207) (flt (by decide : ¬ ((127 : Int32) < (1 : Int32)))).1 ?_
          refine Gk.aload X51 hx (hb hby at_210) rfl rfl ?_
          refine Gk.iload X51 hx (hb hby at_212) rfl ?_
          refine Gk.iconst X51 hx (hb hby at_214) (1 : Int32) rfl ?_
          refine Gk.isub X51 hx (hb hby at_215) (128 : Int32) (by decide) ?_
          refine Gk.iloadN X51 hx (hb hby at_216) rfl ?_
          refine Gk.i2b X51 hx (hb hby at_217) _ rfl ?_
          refine Gk.bastoreB X51 hx hZ e51 V51 128 rfl ⟨by decide, by decide⟩ (.int (p4.toInt8.toInt32)) (congrArg Value.int (own_nb _)) (hb hby at_218) ?_
          intro T52 h52 X52 e52 W52 V52
          have N52 := Fr.snoc X52 N51 g_b49
          refine Gk.aload X52 hx (hb hby at_219) rfl rfl ?_
          refine Gk.iload X52 hx (hb hby at_221) rfl ?_
          refine Gk.iloadN X52 hx (hb hby at_223) rfl ?_
          refine Gk.i2b X52 hx (hb hby at_224) _ rfl ?_
          refine Gk.bastoreB X52 hx hZ e52 V52 2 rfl ⟨by decide, by decide⟩ (.int (p3.toInt8.toInt32)) (congrArg Value.int (own_nb _)) (hb hby at_225) ?_
          intro T53 h53 X53 e53 W53 V53
          have N53 := Fr.snoc X53 N52 g_b49
          refine Gk.aload X53 hx (hb hby at_226) rfl rfl ?_
          refine Gk.iconst X53 hx (hb hby at_228) (1 : Int32) rfl ?_
          refine Gk.baloadB X53 hx hZ e53 V53 ⟨by decide, by decide⟩ (.int (127 : Int32)) rfl (hb hby at_229) ?_
          refine Gk.istore X53 hx (hb hby at_230) #[.val (.int p1), .val (.int p2), .val (.int p3), .val (.int p4), .val (.int tg), .val (.int mm), .val (.int (127 : Int32)), .val (.int (2 : Int32)), .val (.int (129 : Int32)), .val (.ref b49), .val (.int (127 : Int32)), .unset, .unset, .unset, .unset, .unset] rfl ?_
          refine Gk.aload X53 hx (hb hby at_232) rfl rfl ?_
          refine Gk.iload X53 hx (hb hby at_234) rfl ?_
          refine Gk.iconst X53 hx (hb hby at_236) (1 : Int32) rfl ?_
          refine Gk.isub X53 hx (hb hby at_237) (128 : Int32) (by decide) ?_
          refine Gk.baloadB X53 hx hZ e53 V53 ⟨by decide, by decide⟩ (.int (p4.toInt8.toInt32)) rfl (hb hby at_238) ?_
          refine Gk.istore X53 hx (hb hby at_239) #[.val (.int p1), .val (.int p2), .val (.int p3), .val (.int p4), .val (.int tg), .val (.int mm), .val (.int (127 : Int32)), .val (.int (2 : Int32)), .val (.int (129 : Int32)), .val (.ref b49), .val (.int (127 : Int32)), .val (.int (p4.toInt8.toInt32)), .unset, .unset, .unset, .unset] rfl ?_
          refine Gk.aload X53 hx (hb hby at_241) rfl rfl ?_
          have gr57 := (Nat.le_trans (Nat.le_trans (Nat.le_trans (Nat.le_trans E49.1 (Keep.of_wr W50).1) (Keep.of_wr W51).1) (Keep.of_wr W52).1) (Keep.of_wr W53).1)
          refine Gk.callS (argsL := [(.ref b49)]) X53 hx hZ hown (rm1_2 l Z a0 hw [] b49 k49 (upd (upd (upd (upd (fun _ => (.int (0 : Int32))) 0 (.int (tg.toInt8.toInt32))) 1 (.int (127 : Int32))) 128 (.int (p4.toInt8.toInt32))) 2 (.int (p3.toInt8.toInt32))) (tg.toInt8.toInt32) h53 n0 (Nat.le_trans Z0 gr57) V53 rfl rfl htg.2) (hw _ (List.mem_of_getElem? (i := 2) rfl)) (hw _ (List.mem_of_getElem? (i := 3) rfl)) (hw _ (List.mem_of_getElem? (i := 4) rfl)) (hw _ (List.mem_of_getElem? (i := 5) rfl)) (by decide) e53 pd_4 rfl rfl (by decide) (Nat.le_of_ble_eq_true rfl) (by decide) (by decide) (by rw [hml]; rfl)  rfl (hb hby at_243) ?_
          intro T56 L56 v56 X56 hQ56
          obtain ⟨rfl, N56q, K56, E56_, Fp56_bytes, Fp56_start, Fp56_contentStart, Fp56_end⟩ := hQ56
          have N56 := Fr.app N53 N56q
          obtain ⟨b56, g56⟩ : ∃ z_, z_ = h53.size := ⟨_, rfl⟩
          rw [← g56] at E56_ Fp56_bytes Fp56_start Fp56_contentStart Fp56_end ⊢
          have g_b56 : n0 ≤ b56 := Nat.le_trans (Nat.le_trans Z0 gr57) (Nat.le_of_eq g56.symm)
          have lt_b56 : b56 < T56.heap.size := E56_.lt
          show Go p e below (T56.setTop (mkF m 246 #[.val (.int p1), .val (.int p2), .val (.int p3), .val (.int p4), .val (.int tg), .val (.int mm), .val (.int (127 : Int32)), .val (.int (2 : Int32)), .val (.int (129 : Int32)), .val (.ref b49), .val (.int (127 : Int32)), .val (.int (p4.toInt8.toInt32)), .unset, .unset, .unset, .unset] [(.ref b56)])) _
          refine Gk.astore X56 hx (hb hby at_246) rfl #[.val (.int p1), .val (.int p2), .val (.int p3), .val (.int p4), .val (.int tg), .val (.int mm), .val (.int (127 : Int32)), .val (.int (2 : Int32)), .val (.int (129 : Int32)), .val (.ref b49), .val (.int (127 : Int32)), .val (.int (p4.toInt8.toInt32)), .val (.ref b56), .unset, .unset, .unset] rfl ?_
          refine Gk.aload X56 hx (hb hby at_248) rfl rfl ?_
          have H59 := (V53.keep K56 nin0)
          refine Gk.callV (argsL := []) X56 hx hZ hown (rm4_2 l Z a0 hw [] b56 b49 k49 (upd (upd (upd (upd (fun _ => (.int (0 : Int32))) 0 (.int (tg.toInt8.toInt32))) 1 (.int (127 : Int32))) 128 (.int (p4.toInt8.toInt32))) 2 (.int (p3.toInt8.toInt32))) (tg.toInt8.toInt32) T56.heap n0 (Nat.le_trans Z0 (Nat.le_trans gr57 K56.1)) H59 Fp56_bytes Fp56_start Fp56_contentStart Fp56_end rfl) (hw _ (List.mem_of_getElem? (i := 22) rfl)) (hw _ (List.mem_of_getElem? (i := 23) rfl)) (notFace_of_selects (args := #[]) (mvT hZ (hw _ (List.mem_of_getElem? (i := 25) rfl)))) (hw _ (List.mem_of_getElem? (i := 25) rfl)) (hw _ (List.mem_of_getElem? (i := 24) rfl)) (by decide) (hw _ (List.mem_of_getElem? (i := 26) rfl)) (hw _ (List.mem_of_getElem? (i := 4) rfl)) rfl E56_ pd_5 rfl rfl (by decide) (Nat.le_of_ble_eq_true rfl) (by decide) (by decide) (by rw [hml]; rfl)  rfl (hb hby at_250) ?_
          intro T58 L58 v58 X58 hQ58
          obtain ⟨rfl, N58q, e58⟩ := hQ58
          have N58 := Fr.app N56 N58q
          show Go p e below (T58.setTop (mkF m 253 #[.val (.int p1), .val (.int p2), .val (.int p3), .val (.int p4), .val (.int tg), .val (.int mm), .val (.int (127 : Int32)), .val (.int (2 : Int32)), .val (.int (129 : Int32)), .val (.ref b49), .val (.int (127 : Int32)), .val (.int (p4.toInt8.toInt32)), .val (.ref b56), .unset, .unset, .unset] [(.int ((tg.toInt8.toInt32) &&& (255 : Int32)))])) _
          refine Gk.iload X58 hx (hb hby at_253) rfl ?_
          have hc255 : ((tg.toInt8.toInt32) &&& (255 : Int32)) = tg := htg.1
          refine Gk.icmpNo X58 hx (hb hby at_255) (teq hc255).2 ?_
          refine Gk.iconst X58 hx (hb hby at_258) (1 : Int32) rfl ?_
          refine Gk.goto X58 hx (hb hby at_259) 263 (by decide) (by decide) ?_
          refine Gk.istore X58 hx (hb hby at_263) #[.val (.int p1), .val (.int p2), .val (.int p3), .val (.int p4), .val (.int tg), .val (.int mm), .val (.int (127 : Int32)), .val (.int (2 : Int32)), .val (.int (129 : Int32)), .val (.ref b49), .val (.int (127 : Int32)), .val (.int (p4.toInt8.toInt32)), .val (.ref b56), .val (.int (1 : Int32)), .unset, .unset] rfl ?_
          refine Gk.aload X58 hx (hb hby at_265) rfl rfl ?_
          refine Gk.callV (argsL := []) X58 hx hZ hown (rm5_2 l Z a0 hw [] b56 b49 k49 (upd (upd (upd (upd (fun _ => (.int (0 : Int32))) 0 (.int (tg.toInt8.toInt32))) 1 (.int (127 : Int32))) 128 (.int (p4.toInt8.toInt32))) 2 (.int (p3.toInt8.toInt32))) T56.heap n0 (Nat.le_trans Z0 (Nat.le_trans gr57 K56.1)) H59 Fp56_bytes Fp56_start Fp56_contentStart Fp56_end) (hw _ (List.mem_of_getElem? (i := 27) rfl)) (hw _ (List.mem_of_getElem? (i := 28) rfl)) (notFace_of_selects (args := #[]) (mvT hZ (hw _ (List.mem_of_getElem? (i := 30) rfl)))) (hw _ (List.mem_of_getElem? (i := 30) rfl)) (hw _ (List.mem_of_getElem? (i := 29) rfl)) (by decide) (hw _ (List.mem_of_getElem? (i := 31) rfl)) (hw _ (List.mem_of_getElem? (i := 4) rfl)) e58 E56_ pd_6 rfl rfl (by decide) (Nat.le_of_ble_eq_true rfl) (by decide) (by decide) (by rw [hml]; rfl)  rfl (hb hby at_267) ?_
          intro T60 L60 v60 X60 hQ60
          obtain ⟨rfl, N60q, K60, k60, A60⟩ := hQ60
          have N60 := Fr.app N58 N60q
          obtain ⟨b60, g60⟩ : ∃ z_, z_ = T56.heap.size := ⟨_, rfl⟩
          rw [← g60] at A60 ⊢
          have g_b60 : n0 ≤ b60 := Nat.le_trans (Nat.le_trans Z0 (Nat.le_trans gr57 K56.1)) (Nat.le_of_eq g60.symm)
          have lt_b60 : b60 < T60.heap.size := A60.lt
          show Go p e below (T60.setTop (mkF m 270 #[.val (.int p1), .val (.int p2), .val (.int p3), .val (.int p4), .val (.int tg), .val (.int mm), .val (.int (127 : Int32)), .val (.int (2 : Int32)), .val (.int (129 : Int32)), .val (.ref b49), .val (.int (127 : Int32)), .val (.int (p4.toInt8.toInt32)), .val (.ref b56), .val (.int (1 : Int32)), .unset, .unset] [(.ref b60)])) _
          refine Gk.astore X60 hx (hb hby at_270) rfl #[.val (.int p1), .val (.int p2), .val (.int p3), .val (.int p4), .val (.int tg), .val (.int mm), .val (.int (127 : Int32)), .val (.int (2 : Int32)), .val (.int (129 : Int32)), .val (.ref b49), .val (.int (127 : Int32)), .val (.int (p4.toInt8.toInt32)), .val (.ref b56), .val (.int (1 : Int32)), .val (.ref b60), .unset] rfl ?_
          refine Gk.iload X60 hx (hb hby at_272) rfl ?_
          refine Gk.ifNo X60 hx (hb hby at_274) (feq (by decide : ¬ ((1 : Int32) = (0 : Int32)))).1 ?_
          refine Gk.aload X60 hx (hb hby at_277) rfl rfl ?_
          refine Gk.alen X60 hx hZ rfl A60 (hb hby at_279) ?_
          refine Gk.iload X60 hx (hb hby at_280) rfl ?_
          refine Gk.icmpNo X60 hx (hb hby at_282) (teq (by decide : (127 : Int32) = (127 : Int32))).2 ?_
          refine Gk.iconst X60 hx (hb hby at_285) (1 : Int32) rfl ?_
          refine Gk.goto X60 hx (hb hby at_286) 290 (by decide) (by decide) ?_
          refine Gk.istore X60 hx (hb hby at_290) #[.val (.int p1), .val (.int p2), .val (.int p3), .val (.int p4), .val (.int tg), .val (.int mm), .val (.int (127 : Int32)), .val (.int (2 : Int32)), .val (.int (129 : Int32)), .val (.ref b49), .val (.int (127 : Int32)), .val (.int (p4.toInt8.toInt32)), .val (.ref b56), .val (.int (1 : Int32)), .val (.ref b60), .unset] rfl ?_
          refine Gk.iload X60 hx (hb hby at_292) rfl ?_
          refine Gk.iconst X60 hx (hb hby at_294) (1 : Int32) rfl ?_
          refine Gk.icmpNo X60 hx (hb hby at_295) (flt (by decide : ¬ ((127 : Int32) < (1 : Int32)))).1 ?_
          refine Gk.iload X60 hx (hb hby at_298) rfl ?_
          refine Gk.iconst X60 hx (hb hby at_300) (1 : Int32) rfl ?_
          refine Gk.icmpYes X60 hx (hb hby at_301) (feq (by decide : ¬ ((127 : Int32) = (1 : Int32)))).2 309 (by decide) (by decide) ?_
          refine Gk.iloadN X60 hx (hb hby at_309) rfl ?_
          refine Gk.i2b X60 hx (hb hby at_310) _ rfl ?_
          refine Gk.istore X60 hx (hb hby at_311) #[.val (.int p1), .val (.int p2), .val (.int p3), .val (.int p4), .val (.int tg), .val (.int mm), .val (.int (127 : Int32)), .val (.int (2 : Int32)), .val (.int (129 : Int32)), .val (.ref b49), .val (.int (127 : Int32)), .val (.int (p4.toInt8.toInt32)), .val (.ref b56), .val (.int (1 : Int32)), .val (.ref b60), .val (.int (p4.toInt8.toInt32))] rfl ?_
          refine Gk.iload X60 hx (hb hby at_313) rfl ?_
          refine Gk.ifNo X60 hx (hb hby at_315) (feq (by decide : ¬ ((1 : Int32) = (0 : Int32)))).1 ?_
          refine Gk.aload X60 hx (hb hby at_318) rfl rfl ?_
          refine Gk.iconst X60 hx (hb hby at_320) (0 : Int32) rfl ?_
          refine Gk.baloadB X60 hx hZ rfl A60 ⟨by decide, by decide⟩ (.int (p3.toInt8.toInt32)) rfl (hb hby at_321) ?_
          refine Gk.iloadN X60 hx (hb hby at_322) rfl ?_
          refine Gk.i2b X60 hx (hb hby at_323) _ rfl ?_
          refine Gk.icmpNo X60 hx (hb hby at_324) (teq (rfl : (p3.toInt8.toInt32) = (p3.toInt8.toInt32))).2 ?_
          refine Gk.aload X60 hx (hb hby at_327) rfl rfl ?_
          refine Gk.iload X60 hx (hb hby at_329) rfl ?_
          refine Gk.iconst X60 hx (hb hby at_331) (1 : Int32) rfl ?_
          refine Gk.isub X60 hx (hb hby at_332) (126 : Int32) (by decide) ?_
          refine Gk.baloadB X60 hx hZ rfl A60 ⟨by decide, by decide⟩ (.int (p4.toInt8.toInt32)) rfl (hb hby at_333) ?_
          refine Gk.iload X60 hx (hb hby at_334) rfl ?_
          refine Gk.icmpNo X60 hx (hb hby at_336) (teq (rfl : (p4.toInt8.toInt32) = (p4.toInt8.toInt32))).2 ?_
          refine Gk.iconst X60 hx (hb hby at_339) (1 : Int32) rfl ?_
          refine Gk.goto X60 hx (hb hby at_340) 344 (by decide) (by decide) ?_
          refine Gk.istore X60 hx (hb hby at_344) #[.val (.int p1), .val (.int p2), .val (.int p3), .val (.int p4), .val (.int tg), .val (.int mm), .val (.int (127 : Int32)), .val (.int (2 : Int32)), .val (.int (129 : Int32)), .val (.ref b49), .val (.int (127 : Int32)), .val (.int (p4.toInt8.toInt32)), .val (.ref b56), .val (.int (1 : Int32)), .val (.ref b60), .val (.int (p4.toInt8.toInt32))] rfl ?_
          refine Gk.iload X60 hx (hb hby at_346) rfl ?_
          refine Gk.iconst X60 hx (hb hby at_348) (3 : Int32) rfl ?_
          refine Gk.icmpNo X60 hx (hb hby at_349) (flt (by decide : ¬ ((127 : Int32) < (3 : Int32)))).1 ?_
          refine Gk.iload X60 hx (hb hby at_352) rfl ?_
          refine Gk.ifNo X60 hx (hb hby at_354) (feq (by decide : ¬ ((1 : Int32) = (0 : Int32)))).1 ?_
          refine Gk.aload X60 hx (hb hby at_357) rfl rfl ?_
          refine Gk.iconst X60 hx (hb hby at_359) (1 : Int32) rfl ?_
          refine Gk.baloadB X60 hx hZ rfl A60 ⟨by decide, by decide⟩ (.int (0 : Int32)) rfl (hb hby at_360) ?_
          refine Gk.ifNo X60 hx (hb hby at_361) (teq (by decide : (0 : Int32) = (0 : Int32))).2 ?_
          refine Gk.iconst X60 hx (hb hby at_364) (1 : Int32) rfl ?_
          refine Gk.goto X60 hx (hb hby at_365) 369 (by decide) (by decide) ?_
          refine Gk.istore X60 hx (hb hby at_369) #[.val (.int p1), .val (.int p2), .val (.int p3), .val (.int p4), .val (.int tg), .val (.int mm), .val (.int (127 : Int32)), .val (.int (2 : Int32)), .val (.int (129 : Int32)), .val (.ref b49), .val (.int (127 : Int32)), .val (.int (p4.toInt8.toInt32)), .val (.ref b56), .val (.int (1 : Int32)), .val (.ref b60), .val (.int (p4.toInt8.toInt32))] rfl ?_
          refine Gk.aload X60 hx (hb hby at_371) rfl rfl ?_
          have H65 := (H59.keep K60 nin0)
          have H66 := (Fp56_bytes.keep K60 nin0)
          have H67 := (Fp56_start.keep K60 nin0)
          have H68 := (Fp56_contentStart.keep K60 nin0)
          have H69 := (Fp56_end.keep K60 nin0)
          have H70 := ((((((B49.wr W50).wr W51).wr W52).wr W53).keep K56).keep K60)
          have gr71 := (Nat.le_trans (Nat.le_trans gr57 K56.1) K60.1)
          have H72 := (E56_.keep K60)
          refine Gk.callV (argsL := []) X60 hx hZ hown (rm10_2 l Z a0 hw [] b56 b49 k49 (upd (upd (upd (upd (fun _ => (.int (0 : Int32))) 0 (.int (tg.toInt8.toInt32))) 1 (.int (127 : Int32))) 128 (.int (p4.toInt8.toInt32))) 2 (.int (p3.toInt8.toInt32))) T60.heap n0 (Nat.le_trans Z0 gr71) H65 H66 H67 H68 H69 H70) (hw _ (List.mem_of_getElem? (i := 50) rfl)) (hw _ (List.mem_of_getElem? (i := 51) rfl)) (notFace_of_selects (args := #[]) (mvT hZ (hw _ (List.mem_of_getElem? (i := 53) rfl)))) (hw _ (List.mem_of_getElem? (i := 53) rfl)) (hw _ (List.mem_of_getElem? (i := 52) rfl)) (by decide) (hw _ (List.mem_of_getElem? (i := 54) rfl)) (hw _ (List.mem_of_getElem? (i := 4) rfl)) rfl H72 pd_6 rfl rfl (by decide) (Nat.le_of_ble_eq_true rfl) (by decide) (by decide) (by rw [hml]; rfl)  rfl (hb hby at_373) ?_
          intro T64 L64 v64 X64 hQ64
          obtain ⟨rfl, N64q, K64, k64, A64⟩ := hQ64
          have N64 := Fr.app N60 N64q
          obtain ⟨b64, g64⟩ : ∃ z_, z_ = T60.heap.size := ⟨_, rfl⟩
          rw [← g64] at A64 ⊢
          have g_b64 : n0 ≤ b64 := Nat.le_trans (Nat.le_trans Z0 gr71) (Nat.le_of_eq g64.symm)
          have lt_b64 : b64 < T64.heap.size := A64.lt
          show Go p e below (T64.setTop (mkF m 376 #[.val (.int p1), .val (.int p2), .val (.int p3), .val (.int p4), .val (.int tg), .val (.int mm), .val (.int (127 : Int32)), .val (.int (2 : Int32)), .val (.int (129 : Int32)), .val (.ref b49), .val (.int (127 : Int32)), .val (.int (p4.toInt8.toInt32)), .val (.ref b56), .val (.int (1 : Int32)), .val (.ref b60), .val (.int (p4.toInt8.toInt32))] [(.ref b64)])) _
          refine Gk.astore X64 hx (hb hby at_376) rfl #[.val (.int p1), .val (.int p2), .val (.int p3), .val (.int p4), .val (.int tg), .val (.int mm), .val (.int (127 : Int32)), .val (.int (2 : Int32)), .val (.int (129 : Int32)), .val (.ref b49), .val (.int (127 : Int32)), .val (.int (p4.toInt8.toInt32)), .val (.ref b56), .val (.int (1 : Int32)), .val (.ref b60), .val (.ref b64)] rfl ?_
          refine Gk.iload X64 hx (hb hby at_378) rfl ?_
          refine Gk.ifNo X64 hx (hb hby at_380) (feq (by decide : ¬ ((1 : Int32) = (0 : Int32)))).1 ?_
          refine Gk.aload X64 hx (hb hby at_383) rfl rfl ?_
          refine Gk.alen X64 hx hZ rfl A64 (hb hby at_385) ?_
          refine Gk.iload X64 hx (hb hby at_386) rfl ?_
          refine Gk.icmpNo X64 hx (hb hby at_388) (teq (by decide : (129 : Int32) = (129 : Int32))).2 ?_
          refine Gk.aload X64 hx (hb hby at_391) rfl rfl ?_
          refine Gk.iconst X64 hx (hb hby at_393) (0 : Int32) rfl ?_
          refine Gk.baloadB X64 hx hZ rfl A64 ⟨by decide, by decide⟩ (.int (tg.toInt8.toInt32)) rfl (hb hby at_394) ?_
          refine Gk.iload X64 hx (hb hby at_395) rfl ?_
          refine Gk.i2b X64 hx (hb hby at_397) _ rfl ?_
          refine Gk.icmpNo X64 hx (hb hby at_398) (teq (rfl : (tg.toInt8.toInt32) = (tg.toInt8.toInt32))).2 ?_
          refine Gk.aload X64 hx (hb hby at_401) rfl rfl ?_
          refine Gk.iconst X64 hx (hb hby at_403) (1 : Int32) rfl ?_
          refine Gk.baloadB X64 hx hZ rfl A64 ⟨by decide, by decide⟩ (.int (127 : Int32)) rfl (hb hby at_404) ?_
          refine Gk.iload X64 hx (hb hby at_405) rfl ?_
          refine Gk.icmpNo X64 hx (hb hby at_407) (teq (by decide : (127 : Int32) = (127 : Int32))).2 ?_
          refine Gk.aload X64 hx (hb hby at_410) rfl rfl ?_
          refine Gk.iload X64 hx (hb hby at_412) rfl ?_
          refine Gk.iconst X64 hx (hb hby at_414) (1 : Int32) rfl ?_
          refine Gk.isub X64 hx (hb hby at_415) (128 : Int32) (by decide) ?_
          refine Gk.baloadB X64 hx hZ rfl A64 ⟨by decide, by decide⟩ (.int (p4.toInt8.toInt32)) rfl (hb hby at_416) ?_
          refine Gk.iload X64 hx (hb hby at_417) rfl ?_
          refine Gk.icmpNo X64 hx (hb hby at_419) (teq (rfl : (p4.toInt8.toInt32) = (p4.toInt8.toInt32))).2 ?_
          refine Gk.iconst X64 hx (hb hby at_422) (1 : Int32) rfl ?_
          refine Gk.goto X64 hx (hb hby at_423) 427 (by decide) (by decide) ?_
          refine Gk.istore X64 hx (hb hby at_427) #[.val (.int p1), .val (.int p2), .val (.int p3), .val (.int p4), .val (.int tg), .val (.int mm), .val (.int (127 : Int32)), .val (.int (2 : Int32)), .val (.int (129 : Int32)), .val (.ref b49), .val (.int (127 : Int32)), .val (.int (p4.toInt8.toInt32)), .val (.ref b56), .val (.int (1 : Int32)), .val (.ref b60), .val (.ref b64)] rfl ?_
          refine Gk.iload X64 hx (hb hby at_429) rfl ?_
          refine Go.fin X64 (v := some (.int (1 : Int32))) (fun h_ => by rw [Bd.returns] at h_; cases h_) Bd.notSynchronized (fun _ hr => retN X64 hx (t := .boolean) Bd.returns (by simp) (hb hby at_431) hr) (fun U' hU hF => ⟨_, _, rfl, ?_, hF.1, hF.2.1, hF.2.2.mono (by decide) (by decide)⟩)
          exact ⟨(congrArg (fun z_ : Int32 => some (Value.int z_)) (show (1 : Int32) = (1 : Int32) from rfl)), N64⟩
        · refine Gk.icmpYes X0 hx (hb hby at_64) (feq hc64).2 77 (by decide) (by decide) ?_
          refine Gk.iload X0 hx (hb hby at_77) rfl ?_
          refine Gk.iconst X0 hx (hb hby at_79) (3 : Int32) rfl ?_
          by_cases hc80 : mm = (3 : Int32)
          · refine Gk.icmpNo X0 hx (hb hby at_80) (teq hc80).2 ?_
            refine Gk.sipush X0 hx (hb hby at_83) (128 : Int32) rfl ?_
            refine Gk.istore X0 hx (hb hby at_86) #[.val (.int p1), .val (.int p2), .val (.int p3), .val (.int p4), .val (.int tg), .val (.int mm), .val (.int (128 : Int32)), .unset, .unset, .unset, .unset, .unset, .unset, .unset, .unset, .unset] rfl ?_
            refine Gk.iconst X0 hx (hb hby at_88) (3 : Int32) rfl ?_
            refine Gk.istore X0 hx (hb hby at_89) #[.val (.int p1), .val (.int p2), .val (.int p3), .val (.int p4), .val (.int tg), .val (.int mm), .val (.int (128 : Int32)), .val (.int (3 : Int32)), .unset, .unset, .unset, .unset, .unset, .unset, .unset, .unset] rfl ?_
            refine Gk.goto X0 hx (hb hby at_91) 119 (by decide) (by decide) ?_
            refine Gk.iload X0 hx (hb hby at_119) rfl ?_
            refine Gk.iload X0 hx (hb hby at_121) rfl ?_
            refine Gk.iadd X0 hx (hb hby at_123) (131 : Int32) (by decide) ?_
            refine Gk.istore X0 hx (hb hby at_124) #[.val (.int p1), .val (.int p2), .val (.int p3), .val (.int p4), .val (.int tg), .val (.int mm), .val (.int (128 : Int32)), .val (.int (3 : Int32)), .val (.int (131 : Int32)), .unset, .unset, .unset, .unset, .unset, .unset, .unset] rfl ?_
            refine Gk.iload X0 hx (hb hby at_126) rfl ?_
            refine Gk.newP X0 hx hZ (hw _ (List.mem_of_getElem? (i := 1) rfl)) e0 (hb hby at_128) (by decide) (cap := 131) (by decide) (by decide) (by decide) (by decide) rfl ?_
            intro T76 h76 b76 k76 X76 e76 E76 g76 A76 B76
            have g_b76 : n0 ≤ b76 := Nat.le_trans Z0 (Nat.le_of_eq g76.symm)
            have V_b76 : Arf Z h76 b76 k76 .byte (131 : Int32) (fun _ => (.int (0 : Int32))) := A76
            have lt_b76 := V_b76.lt
            refine Gk.astore X76 hx (hb hby at_130) rfl #[.val (.int p1), .val (.int p2), .val (.int p3), .val (.int p4), .val (.int tg), .val (.int mm), .val (.int (128 : Int32)), .val (.int (3 : Int32)), .val (.int (131 : Int32)), .val (.ref b76), .unset, .unset, .unset, .unset, .unset, .unset] rfl ?_
            refine Gk.aload X76 hx (hb hby at_132) rfl rfl ?_
            refine Gk.iconst X76 hx (hb hby at_134) (0 : Int32) rfl ?_
            refine Gk.iload X76 hx (hb hby at_135) rfl ?_
            refine Gk.i2b X76 hx (hb hby at_137) _ rfl ?_
            refine Gk.bastoreB X76 hx hZ e76 V_b76 0 rfl ⟨by decide, by decide⟩ (.int (tg.toInt8.toInt32)) (congrArg Value.int (own_nb _)) (hb hby at_138) ?_
            intro T77 h77 X77 e77 W77 V77
            have N77 := Fr.snoc X77 N0 g_b76
            refine Gk.iload X77 hx (hb hby at_139) rfl ?_
            refine Gk.iconst X77 hx (hb hby at_141) (2 : Int32) rfl ?_
            refine Gk.icmpYes X77 hx (hb hby at_142) (feq (by decide : ¬ ((3 : Int32) = (2 : Int32)))).2 155 (by decide) (by decide) ?_
            refine Gk.iload X77 hx (hb hby at_155) rfl ?_
            refine Gk.iconst X77 hx (hb hby at_157) (3 : Int32) rfl ?_
            refine Gk.icmpNo X77 hx (hb hby at_158) (teq (by decide : (3 : Int32) = (3 : Int32))).2 ?_
            refine Gk.aload X77 hx (hb hby at_161) rfl rfl ?_
            refine Gk.iconst X77 hx (hb hby at_163) (1 : Int32) rfl ?_
            refine Gk.bipush X77 hx (hb hby at_164) (-127 : Int32) rfl ?_
            refine Gk.bastoreB X77 hx hZ e77 V77 1 rfl ⟨by decide, by decide⟩ (.int (-127 : Int32)) rfl (hb hby at_166) ?_
            intro T78 h78 X78 e78 W78 V78
            have N78 := Fr.snoc X78 N77 g_b76
            refine Gk.aload X78 hx (hb hby at_167) rfl rfl ?_
            refine Gk.iconst X78 hx (hb hby at_169) (2 : Int32) rfl ?_
            refine Gk.iload X78 hx (hb hby at_170) rfl ?_
            refine Gk.i2b X78 hx (hb hby at_172) (-128 : Int32) (by decide) ?_
            refine Gk.bastoreB X78 hx hZ e78 V78 2 rfl ⟨by decide, by decide⟩ (.int (-128 : Int32)) rfl (hb hby at_173) ?_
            intro T79 h79 X79 e79 W79 V79
            have N79 := Fr.snoc X79 N78 g_b76
            refine Gk.goto X79 hx (hb hby at_174) 204 (by decide) (by decide) ?_
            refine Gk.iload X79 hx (hb hby at_204) rfl ?_
            refine Gk.iconst X79 hx (hb hby at_206) (1 : Int32) rfl ?_
            refine Gk.icmpNo X79 hx (hb hby at_207) (flt (by decide : ¬ ((128 : Int32) < (1 : Int32)))).1 ?_
            refine Gk.aload X79 hx (hb hby at_210) rfl rfl ?_
            refine Gk.iload X79 hx (hb hby at_212) rfl ?_
            refine Gk.iconst X79 hx (hb hby at_214) (1 : Int32) rfl ?_
            refine Gk.isub X79 hx (hb hby at_215) (130 : Int32) (by decide) ?_
            refine Gk.iloadN X79 hx (hb hby at_216) rfl ?_
            refine Gk.i2b X79 hx (hb hby at_217) _ rfl ?_
            refine Gk.bastoreB X79 hx hZ e79 V79 130 rfl ⟨by decide, by decide⟩ (.int (p4.toInt8.toInt32)) (congrArg Value.int (own_nb _)) (hb hby at_218) ?_
            intro T80 h80 X80 e80 W80 V80
            have N80 := Fr.snoc X80 N79 g_b76
            refine Gk.aload X80 hx (hb hby at_219) rfl rfl ?_
            refine Gk.iload X80 hx (hb hby at_221) rfl ?_
            refine Gk.iloadN X80 hx (hb hby at_223) rfl ?_
            refine Gk.i2b X80 hx (hb hby at_224) _ rfl ?_
            refine Gk.bastoreB X80 hx hZ e80 V80 3 rfl ⟨by decide, by decide⟩ (.int (p3.toInt8.toInt32)) (congrArg Value.int (own_nb _)) (hb hby at_225) ?_
            intro T81 h81 X81 e81 W81 V81
            have N81 := Fr.snoc X81 N80 g_b76
            refine Gk.aload X81 hx (hb hby at_226) rfl rfl ?_
            refine Gk.iconst X81 hx (hb hby at_228) (1 : Int32) rfl ?_
            refine Gk.baloadB X81 hx hZ e81 V81 ⟨by decide, by decide⟩ (.int (-127 : Int32)) rfl (hb hby at_229) ?_
            refine Gk.istore X81 hx (hb hby at_230) #[.val (.int p1), .val (.int p2), .val (.int p3), .val (.int p4), .val (.int tg), .val (.int mm), .val (.int (128 : Int32)), .val (.int (3 : Int32)), .val (.int (131 : Int32)), .val (.ref b76), .val (.int (-127 : Int32)), .unset, .unset, .unset, .unset, .unset] rfl ?_
            refine Gk.aload X81 hx (hb hby at_232) rfl rfl ?_
            refine Gk.iload X81 hx (hb hby at_234) rfl ?_
            refine Gk.iconst X81 hx (hb hby at_236) (1 : Int32) rfl ?_
            refine Gk.isub X81 hx (hb hby at_237) (130 : Int32) (by decide) ?_
            refine Gk.baloadB X81 hx hZ e81 V81 ⟨by decide, by decide⟩ (.int (p4.toInt8.toInt32)) rfl (hb hby at_238) ?_
            refine Gk.istore X81 hx (hb hby at_239) #[.val (.int p1), .val (.int p2), .val (.int p3), .val (.int p4), .val (.int tg), .val (.int mm), .val (.int (128 : Int32)), .val (.int (3 : Int32)), .val (.int (131 : Int32)), .val (.ref b76), .val (.int (-127 : Int32)), .val (.int (p4.toInt8.toInt32)), .unset, .unset, .unset, .unset] rfl ?_
            refine Gk.aload X81 hx (hb hby at_241) rfl rfl ?_
            have gr85 := (Nat.le_trans (Nat.le_trans (Nat.le_trans (Nat.le_trans (Nat.le_trans E76.1 (Keep.of_wr W77).1) (Keep.of_wr W78).1) (Keep.of_wr W79).1) (Keep.of_wr W80).1) (Keep.of_wr W81).1)
            refine Gk.callS (argsL := [(.ref b76)]) X81 hx hZ hown (rm1_3 l Z a0 hw [] b76 k76 (upd (upd (upd (upd (upd (fun _ => (.int (0 : Int32))) 0 (.int (tg.toInt8.toInt32))) 1 (.int (-127 : Int32))) 2 (.int (-128 : Int32))) 130 (.int (p4.toInt8.toInt32))) 3 (.int (p3.toInt8.toInt32))) (tg.toInt8.toInt32) h81 n0 (Nat.le_trans Z0 gr85) V81 rfl rfl rfl htg.2) (hw _ (List.mem_of_getElem? (i := 2) rfl)) (hw _ (List.mem_of_getElem? (i := 3) rfl)) (hw _ (List.mem_of_getElem? (i := 4) rfl)) (hw _ (List.mem_of_getElem? (i := 5) rfl)) (by decide) e81 pd_4 rfl rfl (by decide) (Nat.le_of_ble_eq_true rfl) (by decide) (by decide) (by rw [hml]; rfl)  rfl (hb hby at_243) ?_
            intro T84 L84 v84 X84 hQ84
            obtain ⟨rfl, N84q, K84, E84_, Fp84_bytes, Fp84_start, Fp84_contentStart, Fp84_end⟩ := hQ84
            have N84 := Fr.app N81 N84q
            obtain ⟨b84, g84⟩ : ∃ z_, z_ = h81.size := ⟨_, rfl⟩
            rw [← g84] at E84_ Fp84_bytes Fp84_start Fp84_contentStart Fp84_end ⊢
            have g_b84 : n0 ≤ b84 := Nat.le_trans (Nat.le_trans Z0 gr85) (Nat.le_of_eq g84.symm)
            have lt_b84 : b84 < T84.heap.size := E84_.lt
            show Go p e below (T84.setTop (mkF m 246 #[.val (.int p1), .val (.int p2), .val (.int p3), .val (.int p4), .val (.int tg), .val (.int mm), .val (.int (128 : Int32)), .val (.int (3 : Int32)), .val (.int (131 : Int32)), .val (.ref b76), .val (.int (-127 : Int32)), .val (.int (p4.toInt8.toInt32)), .unset, .unset, .unset, .unset] [(.ref b84)])) _
            refine Gk.astore X84 hx (hb hby at_246) rfl #[.val (.int p1), .val (.int p2), .val (.int p3), .val (.int p4), .val (.int tg), .val (.int mm), .val (.int (128 : Int32)), .val (.int (3 : Int32)), .val (.int (131 : Int32)), .val (.ref b76), .val (.int (-127 : Int32)), .val (.int (p4.toInt8.toInt32)), .val (.ref b84), .unset, .unset, .unset] rfl ?_
            refine Gk.aload X84 hx (hb hby at_248) rfl rfl ?_
            have H87 := (V81.keep K84 nin0)
            refine Gk.callV (argsL := []) X84 hx hZ hown (rm4_3 l Z a0 hw [] b84 b76 k76 (upd (upd (upd (upd (upd (fun _ => (.int (0 : Int32))) 0 (.int (tg.toInt8.toInt32))) 1 (.int (-127 : Int32))) 2 (.int (-128 : Int32))) 130 (.int (p4.toInt8.toInt32))) 3 (.int (p3.toInt8.toInt32))) (tg.toInt8.toInt32) T84.heap n0 (Nat.le_trans Z0 (Nat.le_trans gr85 K84.1)) H87 Fp84_bytes Fp84_start Fp84_contentStart Fp84_end rfl) (hw _ (List.mem_of_getElem? (i := 22) rfl)) (hw _ (List.mem_of_getElem? (i := 23) rfl)) (notFace_of_selects (args := #[]) (mvT hZ (hw _ (List.mem_of_getElem? (i := 25) rfl)))) (hw _ (List.mem_of_getElem? (i := 25) rfl)) (hw _ (List.mem_of_getElem? (i := 24) rfl)) (by decide) (hw _ (List.mem_of_getElem? (i := 26) rfl)) (hw _ (List.mem_of_getElem? (i := 4) rfl)) rfl E84_ pd_5 rfl rfl (by decide) (Nat.le_of_ble_eq_true rfl) (by decide) (by decide) (by rw [hml]; rfl)  rfl (hb hby at_250) ?_
            intro T86 L86 v86 X86 hQ86
            obtain ⟨rfl, N86q, e86⟩ := hQ86
            have N86 := Fr.app N84 N86q
            show Go p e below (T86.setTop (mkF m 253 #[.val (.int p1), .val (.int p2), .val (.int p3), .val (.int p4), .val (.int tg), .val (.int mm), .val (.int (128 : Int32)), .val (.int (3 : Int32)), .val (.int (131 : Int32)), .val (.ref b76), .val (.int (-127 : Int32)), .val (.int (p4.toInt8.toInt32)), .val (.ref b84), .unset, .unset, .unset] [(.int ((tg.toInt8.toInt32) &&& (255 : Int32)))])) _
            refine Gk.iload X86 hx (hb hby at_253) rfl ?_
            have hc255 : ((tg.toInt8.toInt32) &&& (255 : Int32)) = tg := htg.1
            refine Gk.icmpNo X86 hx (hb hby at_255) (teq hc255).2 ?_
            refine Gk.iconst X86 hx (hb hby at_258) (1 : Int32) rfl ?_
            refine Gk.goto X86 hx (hb hby at_259) 263 (by decide) (by decide) ?_
            refine Gk.istore X86 hx (hb hby at_263) #[.val (.int p1), .val (.int p2), .val (.int p3), .val (.int p4), .val (.int tg), .val (.int mm), .val (.int (128 : Int32)), .val (.int (3 : Int32)), .val (.int (131 : Int32)), .val (.ref b76), .val (.int (-127 : Int32)), .val (.int (p4.toInt8.toInt32)), .val (.ref b84), .val (.int (1 : Int32)), .unset, .unset] rfl ?_
            refine Gk.aload X86 hx (hb hby at_265) rfl rfl ?_
            refine Gk.callV (argsL := []) X86 hx hZ hown (rm5_3 l Z a0 hw [] b84 b76 k76 (upd (upd (upd (upd (upd (fun _ => (.int (0 : Int32))) 0 (.int (tg.toInt8.toInt32))) 1 (.int (-127 : Int32))) 2 (.int (-128 : Int32))) 130 (.int (p4.toInt8.toInt32))) 3 (.int (p3.toInt8.toInt32))) T84.heap n0 (Nat.le_trans Z0 (Nat.le_trans gr85 K84.1)) H87 Fp84_bytes Fp84_start Fp84_contentStart Fp84_end) (hw _ (List.mem_of_getElem? (i := 27) rfl)) (hw _ (List.mem_of_getElem? (i := 28) rfl)) (notFace_of_selects (args := #[]) (mvT hZ (hw _ (List.mem_of_getElem? (i := 30) rfl)))) (hw _ (List.mem_of_getElem? (i := 30) rfl)) (hw _ (List.mem_of_getElem? (i := 29) rfl)) (by decide) (hw _ (List.mem_of_getElem? (i := 31) rfl)) (hw _ (List.mem_of_getElem? (i := 4) rfl)) e86 E84_ pd_6 rfl rfl (by decide) (Nat.le_of_ble_eq_true rfl) (by decide) (by decide) (by rw [hml]; rfl)  rfl (hb hby at_267) ?_
            intro T88 L88 v88 X88 hQ88
            obtain ⟨rfl, N88q, K88, k88, A88⟩ := hQ88
            have N88 := Fr.app N86 N88q
            obtain ⟨b88, g88⟩ : ∃ z_, z_ = T84.heap.size := ⟨_, rfl⟩
            rw [← g88] at A88 ⊢
            have g_b88 : n0 ≤ b88 := Nat.le_trans (Nat.le_trans Z0 (Nat.le_trans gr85 K84.1)) (Nat.le_of_eq g88.symm)
            have lt_b88 : b88 < T88.heap.size := A88.lt
            show Go p e below (T88.setTop (mkF m 270 #[.val (.int p1), .val (.int p2), .val (.int p3), .val (.int p4), .val (.int tg), .val (.int mm), .val (.int (128 : Int32)), .val (.int (3 : Int32)), .val (.int (131 : Int32)), .val (.ref b76), .val (.int (-127 : Int32)), .val (.int (p4.toInt8.toInt32)), .val (.ref b84), .val (.int (1 : Int32)), .unset, .unset] [(.ref b88)])) _
            refine Gk.astore X88 hx (hb hby at_270) rfl #[.val (.int p1), .val (.int p2), .val (.int p3), .val (.int p4), .val (.int tg), .val (.int mm), .val (.int (128 : Int32)), .val (.int (3 : Int32)), .val (.int (131 : Int32)), .val (.ref b76), .val (.int (-127 : Int32)), .val (.int (p4.toInt8.toInt32)), .val (.ref b84), .val (.int (1 : Int32)), .val (.ref b88), .unset] rfl ?_
            refine Gk.iload X88 hx (hb hby at_272) rfl ?_
            refine Gk.ifNo X88 hx (hb hby at_274) (feq (by decide : ¬ ((1 : Int32) = (0 : Int32)))).1 ?_
            refine Gk.aload X88 hx (hb hby at_277) rfl rfl ?_
            refine Gk.alen X88 hx hZ rfl A88 (hb hby at_279) ?_
            refine Gk.iload X88 hx (hb hby at_280) rfl ?_
            refine Gk.icmpNo X88 hx (hb hby at_282) (teq (by decide : (128 : Int32) = (128 : Int32))).2 ?_
            refine Gk.iconst X88 hx (hb hby at_285) (1 : Int32) rfl ?_
            refine Gk.goto X88 hx (hb hby at_286) 290 (by decide) (by decide) ?_
            refine Gk.istore X88 hx (hb hby at_290) #[.val (.int p1), .val (.int p2), .val (.int p3), .val (.int p4), .val (.int tg), .val (.int mm), .val (.int (128 : Int32)), .val (.int (3 : Int32)), .val (.int (131 : Int32)), .val (.ref b76), .val (.int (-127 : Int32)), .val (.int (p4.toInt8.toInt32)), .val (.ref b84), .val (.int (1 : Int32)), .val (.ref b88), .unset] rfl ?_
            refine Gk.iload X88 hx (hb hby at_292) rfl ?_
            refine Gk.iconst X88 hx (hb hby at_294) (1 : Int32) rfl ?_
            refine Gk.icmpNo X88 hx (hb hby at_295) (flt (by decide : ¬ ((128 : Int32) < (1 : Int32)))).1 ?_
            refine Gk.iload X88 hx (hb hby at_298) rfl ?_
            refine Gk.iconst X88 hx (hb hby at_300) (1 : Int32) rfl ?_
            refine Gk.icmpYes X88 hx (hb hby at_301) (feq (by decide : ¬ ((128 : Int32) = (1 : Int32)))).2 309 (by decide) (by decide) ?_
            refine Gk.iloadN X88 hx (hb hby at_309) rfl ?_
            refine Gk.i2b X88 hx (hb hby at_310) _ rfl ?_
            refine Gk.istore X88 hx (hb hby at_311) #[.val (.int p1), .val (.int p2), .val (.int p3), .val (.int p4), .val (.int tg), .val (.int mm), .val (.int (128 : Int32)), .val (.int (3 : Int32)), .val (.int (131 : Int32)), .val (.ref b76), .val (.int (-127 : Int32)), .val (.int (p4.toInt8.toInt32)), .val (.ref b84), .val (.int (1 : Int32)), .val (.ref b88), .val (.int (p4.toInt8.toInt32))] rfl ?_
            refine Gk.iload X88 hx (hb hby at_313) rfl ?_
            refine Gk.ifNo X88 hx (hb hby at_315) (feq (by decide : ¬ ((1 : Int32) = (0 : Int32)))).1 ?_
            refine Gk.aload X88 hx (hb hby at_318) rfl rfl ?_
            refine Gk.iconst X88 hx (hb hby at_320) (0 : Int32) rfl ?_
            refine Gk.baloadB X88 hx hZ rfl A88 ⟨by decide, by decide⟩ (.int (p3.toInt8.toInt32)) rfl (hb hby at_321) ?_
            refine Gk.iloadN X88 hx (hb hby at_322) rfl ?_
            refine Gk.i2b X88 hx (hb hby at_323) _ rfl ?_
            refine Gk.icmpNo X88 hx (hb hby at_324) (teq (rfl : (p3.toInt8.toInt32) = (p3.toInt8.toInt32))).2 ?_
            refine Gk.aload X88 hx (hb hby at_327) rfl rfl ?_
            refine Gk.iload X88 hx (hb hby at_329) rfl ?_
            refine Gk.iconst X88 hx (hb hby at_331) (1 : Int32) rfl ?_
            refine Gk.isub X88 hx (hb hby at_332) (127 : Int32) (by decide) ?_
            refine Gk.baloadB X88 hx hZ rfl A88 ⟨by decide, by decide⟩ (.int (p4.toInt8.toInt32)) rfl (hb hby at_333) ?_
            refine Gk.iload X88 hx (hb hby at_334) rfl ?_
            refine Gk.icmpNo X88 hx (hb hby at_336) (teq (rfl : (p4.toInt8.toInt32) = (p4.toInt8.toInt32))).2 ?_
            refine Gk.iconst X88 hx (hb hby at_339) (1 : Int32) rfl ?_
            refine Gk.goto X88 hx (hb hby at_340) 344 (by decide) (by decide) ?_
            refine Gk.istore X88 hx (hb hby at_344) #[.val (.int p1), .val (.int p2), .val (.int p3), .val (.int p4), .val (.int tg), .val (.int mm), .val (.int (128 : Int32)), .val (.int (3 : Int32)), .val (.int (131 : Int32)), .val (.ref b76), .val (.int (-127 : Int32)), .val (.int (p4.toInt8.toInt32)), .val (.ref b84), .val (.int (1 : Int32)), .val (.ref b88), .val (.int (p4.toInt8.toInt32))] rfl ?_
            refine Gk.iload X88 hx (hb hby at_346) rfl ?_
            refine Gk.iconst X88 hx (hb hby at_348) (3 : Int32) rfl ?_
            refine Gk.icmpNo X88 hx (hb hby at_349) (flt (by decide : ¬ ((128 : Int32) < (3 : Int32)))).1 ?_
            refine Gk.iload X88 hx (hb hby at_352) rfl ?_
            refine Gk.ifNo X88 hx (hb hby at_354) (feq (by decide : ¬ ((1 : Int32) = (0 : Int32)))).1 ?_
            refine Gk.aload X88 hx (hb hby at_357) rfl rfl ?_
            refine Gk.iconst X88 hx (hb hby at_359) (1 : Int32) rfl ?_
            refine Gk.baloadB X88 hx hZ rfl A88 ⟨by decide, by decide⟩ (.int (0 : Int32)) rfl (hb hby at_360) ?_
            refine Gk.ifNo X88 hx (hb hby at_361) (teq (by decide : (0 : Int32) = (0 : Int32))).2 ?_
            refine Gk.iconst X88 hx (hb hby at_364) (1 : Int32) rfl ?_
            refine Gk.goto X88 hx (hb hby at_365) 369 (by decide) (by decide) ?_
            refine Gk.istore X88 hx (hb hby at_369) #[.val (.int p1), .val (.int p2), .val (.int p3), .val (.int p4), .val (.int tg), .val (.int mm), .val (.int (128 : Int32)), .val (.int (3 : Int32)), .val (.int (131 : Int32)), .val (.ref b76), .val (.int (-127 : Int32)), .val (.int (p4.toInt8.toInt32)), .val (.ref b84), .val (.int (1 : Int32)), .val (.ref b88), .val (.int (p4.toInt8.toInt32))] rfl ?_
            refine Gk.aload X88 hx (hb hby at_371) rfl rfl ?_
            have H93 := (H87.keep K88 nin0)
            have H94 := (Fp84_bytes.keep K88 nin0)
            have H95 := (Fp84_start.keep K88 nin0)
            have H96 := (Fp84_contentStart.keep K88 nin0)
            have H97 := (Fp84_end.keep K88 nin0)
            have H98 := (((((((B76.wr W77).wr W78).wr W79).wr W80).wr W81).keep K84).keep K88)
            have gr99 := (Nat.le_trans (Nat.le_trans gr85 K84.1) K88.1)
            have H100 := (E84_.keep K88)
            refine Gk.callV (argsL := []) X88 hx hZ hown (rm10_3 l Z a0 hw [] b84 b76 k76 (upd (upd (upd (upd (upd (fun _ => (.int (0 : Int32))) 0 (.int (tg.toInt8.toInt32))) 1 (.int (-127 : Int32))) 2 (.int (-128 : Int32))) 130 (.int (p4.toInt8.toInt32))) 3 (.int (p3.toInt8.toInt32))) T88.heap n0 (Nat.le_trans Z0 gr99) H93 H94 H95 H96 H97 H98) (hw _ (List.mem_of_getElem? (i := 50) rfl)) (hw _ (List.mem_of_getElem? (i := 51) rfl)) (notFace_of_selects (args := #[]) (mvT hZ (hw _ (List.mem_of_getElem? (i := 53) rfl)))) (hw _ (List.mem_of_getElem? (i := 53) rfl)) (hw _ (List.mem_of_getElem? (i := 52) rfl)) (by decide) (hw _ (List.mem_of_getElem? (i := 54) rfl)) (hw _ (List.mem_of_getElem? (i := 4) rfl)) rfl H100 pd_6 rfl rfl (by decide) (Nat.le_of_ble_eq_true rfl) (by decide) (by decide) (by rw [hml]; rfl)  rfl (hb hby at_373) ?_
            intro T92 L92 v92 X92 hQ92
            obtain ⟨rfl, N92q, K92, k92, A92⟩ := hQ92
            have N92 := Fr.app N88 N92q
            obtain ⟨b92, g92⟩ : ∃ z_, z_ = T88.heap.size := ⟨_, rfl⟩
            rw [← g92] at A92 ⊢
            have g_b92 : n0 ≤ b92 := Nat.le_trans (Nat.le_trans Z0 gr99) (Nat.le_of_eq g92.symm)
            have lt_b92 : b92 < T92.heap.size := A92.lt
            show Go p e below (T92.setTop (mkF m 376 #[.val (.int p1), .val (.int p2), .val (.int p3), .val (.int p4), .val (.int tg), .val (.int mm), .val (.int (128 : Int32)), .val (.int (3 : Int32)), .val (.int (131 : Int32)), .val (.ref b76), .val (.int (-127 : Int32)), .val (.int (p4.toInt8.toInt32)), .val (.ref b84), .val (.int (1 : Int32)), .val (.ref b88), .val (.int (p4.toInt8.toInt32))] [(.ref b92)])) _
            refine Gk.astore X92 hx (hb hby at_376) rfl #[.val (.int p1), .val (.int p2), .val (.int p3), .val (.int p4), .val (.int tg), .val (.int mm), .val (.int (128 : Int32)), .val (.int (3 : Int32)), .val (.int (131 : Int32)), .val (.ref b76), .val (.int (-127 : Int32)), .val (.int (p4.toInt8.toInt32)), .val (.ref b84), .val (.int (1 : Int32)), .val (.ref b88), .val (.ref b92)] rfl ?_
            refine Gk.iload X92 hx (hb hby at_378) rfl ?_
            refine Gk.ifNo X92 hx (hb hby at_380) (feq (by decide : ¬ ((1 : Int32) = (0 : Int32)))).1 ?_
            refine Gk.aload X92 hx (hb hby at_383) rfl rfl ?_
            refine Gk.alen X92 hx hZ rfl A92 (hb hby at_385) ?_
            refine Gk.iload X92 hx (hb hby at_386) rfl ?_
            refine Gk.icmpNo X92 hx (hb hby at_388) (teq (by decide : (131 : Int32) = (131 : Int32))).2 ?_
            refine Gk.aload X92 hx (hb hby at_391) rfl rfl ?_
            refine Gk.iconst X92 hx (hb hby at_393) (0 : Int32) rfl ?_
            refine Gk.baloadB X92 hx hZ rfl A92 ⟨by decide, by decide⟩ (.int (tg.toInt8.toInt32)) rfl (hb hby at_394) ?_
            refine Gk.iload X92 hx (hb hby at_395) rfl ?_
            refine Gk.i2b X92 hx (hb hby at_397) _ rfl ?_
            refine Gk.icmpNo X92 hx (hb hby at_398) (teq (rfl : (tg.toInt8.toInt32) = (tg.toInt8.toInt32))).2 ?_
            refine Gk.aload X92 hx (hb hby at_401) rfl rfl ?_
            refine Gk.iconst X92 hx (hb hby at_403) (1 : Int32) rfl ?_
            refine Gk.baloadB X92 hx hZ rfl A92 ⟨by decide, by decide⟩ (.int (-127 : Int32)) rfl (hb hby at_404) ?_
            refine Gk.iload X92 hx (hb hby at_405) rfl ?_
            refine Gk.icmpNo X92 hx (hb hby at_407) (teq (by decide : (-127 : Int32) = (-127 : Int32))).2 ?_
            refine Gk.aload X92 hx (hb hby at_410) rfl rfl ?_
            refine Gk.iload X92 hx (hb hby at_412) rfl ?_
            refine Gk.iconst X92 hx (hb hby at_414) (1 : Int32) rfl ?_
            refine Gk.isub X92 hx (hb hby at_415) (130 : Int32) (by decide) ?_
            refine Gk.baloadB X92 hx hZ rfl A92 ⟨by decide, by decide⟩ (.int (p4.toInt8.toInt32)) rfl (hb hby at_416) ?_
            refine Gk.iload X92 hx (hb hby at_417) rfl ?_
            refine Gk.icmpNo X92 hx (hb hby at_419) (teq (rfl : (p4.toInt8.toInt32) = (p4.toInt8.toInt32))).2 ?_
            refine Gk.iconst X92 hx (hb hby at_422) (1 : Int32) rfl ?_
            refine Gk.goto X92 hx (hb hby at_423) 427 (by decide) (by decide) ?_
            refine Gk.istore X92 hx (hb hby at_427) #[.val (.int p1), .val (.int p2), .val (.int p3), .val (.int p4), .val (.int tg), .val (.int mm), .val (.int (128 : Int32)), .val (.int (3 : Int32)), .val (.int (131 : Int32)), .val (.ref b76), .val (.int (-127 : Int32)), .val (.int (p4.toInt8.toInt32)), .val (.ref b84), .val (.int (1 : Int32)), .val (.ref b88), .val (.ref b92)] rfl ?_
            refine Gk.iload X92 hx (hb hby at_429) rfl ?_
            refine Go.fin X92 (v := some (.int (1 : Int32))) (fun h_ => by rw [Bd.returns] at h_; cases h_) Bd.notSynchronized (fun _ hr => retN X92 hx (t := .boolean) Bd.returns (by simp) (hb hby at_431) hr) (fun U' hU hF => ⟨_, _, rfl, ?_, hF.1, hF.2.1, hF.2.2.mono (by decide) (by decide)⟩)
            exact ⟨(congrArg (fun z_ : Int32 => some (Value.int z_)) (show (1 : Int32) = (1 : Int32) from rfl)), N92⟩
          · refine Gk.icmpYes X0 hx (hb hby at_80) (feq hc80).2 94 (by decide) (by decide) ?_
            refine Gk.iload X0 hx (hb hby at_94) rfl ?_
            refine Gk.iconst X0 hx (hb hby at_96) (4 : Int32) rfl ?_
            by_cases hc97 : mm = (4 : Int32)
            · refine Gk.icmpNo X0 hx (hb hby at_97) (teq hc97).2 ?_
              refine Gk.sipush X0 hx (hb hby at_100) (255 : Int32) rfl ?_
              refine Gk.istore X0 hx (hb hby at_103) #[.val (.int p1), .val (.int p2), .val (.int p3), .val (.int p4), .val (.int tg), .val (.int mm), .val (.int (255 : Int32)), .unset, .unset, .unset, .unset, .unset, .unset, .unset, .unset, .unset] rfl ?_
              refine Gk.iconst X0 hx (hb hby at_105) (3 : Int32) rfl ?_
              refine Gk.istore X0 hx (hb hby at_106) #[.val (.int p1), .val (.int p2), .val (.int p3), .val (.int p4), .val (.int tg), .val (.int mm), .val (.int (255 : Int32)), .val (.int (3 : Int32)), .unset, .unset, .unset, .unset, .unset, .unset, .unset, .unset] rfl ?_
              refine Gk.goto X0 hx (hb hby at_108) 119 (by decide) (by decide) ?_
              refine Gk.iload X0 hx (hb hby at_119) rfl ?_
              refine Gk.iload X0 hx (hb hby at_121) rfl ?_
              refine Gk.iadd X0 hx (hb hby at_123) (258 : Int32) (by decide) ?_
              refine Gk.istore X0 hx (hb hby at_124) #[.val (.int p1), .val (.int p2), .val (.int p3), .val (.int p4), .val (.int tg), .val (.int mm), .val (.int (255 : Int32)), .val (.int (3 : Int32)), .val (.int (258 : Int32)), .unset, .unset, .unset, .unset, .unset, .unset, .unset] rfl ?_
              refine Gk.iload X0 hx (hb hby at_126) rfl ?_
              refine Gk.newP X0 hx hZ (hw _ (List.mem_of_getElem? (i := 1) rfl)) e0 (hb hby at_128) (by decide) (cap := 258) (by decide) (by decide) (by decide) (by decide) rfl ?_
              intro T104 h104 b104 k104 X104 e104 E104 g104 A104 B104
              have g_b104 : n0 ≤ b104 := Nat.le_trans Z0 (Nat.le_of_eq g104.symm)
              have V_b104 : Arf Z h104 b104 k104 .byte (258 : Int32) (fun _ => (.int (0 : Int32))) := A104
              have lt_b104 := V_b104.lt
              refine Gk.astore X104 hx (hb hby at_130) rfl #[.val (.int p1), .val (.int p2), .val (.int p3), .val (.int p4), .val (.int tg), .val (.int mm), .val (.int (255 : Int32)), .val (.int (3 : Int32)), .val (.int (258 : Int32)), .val (.ref b104), .unset, .unset, .unset, .unset, .unset, .unset] rfl ?_
              refine Gk.aload X104 hx (hb hby at_132) rfl rfl ?_
              refine Gk.iconst X104 hx (hb hby at_134) (0 : Int32) rfl ?_
              refine Gk.iload X104 hx (hb hby at_135) rfl ?_
              refine Gk.i2b X104 hx (hb hby at_137) _ rfl ?_
              refine Gk.bastoreB X104 hx hZ e104 V_b104 0 rfl ⟨by decide, by decide⟩ (.int (tg.toInt8.toInt32)) (congrArg Value.int (own_nb _)) (hb hby at_138) ?_
              intro T105 h105 X105 e105 W105 V105
              have N105 := Fr.snoc X105 N0 g_b104
              refine Gk.iload X105 hx (hb hby at_139) rfl ?_
              refine Gk.iconst X105 hx (hb hby at_141) (2 : Int32) rfl ?_
              refine Gk.icmpYes X105 hx (hb hby at_142) (feq (by decide : ¬ ((3 : Int32) = (2 : Int32)))).2 155 (by decide) (by decide) ?_
              refine Gk.iload X105 hx (hb hby at_155) rfl ?_
              refine Gk.iconst X105 hx (hb hby at_157) (3 : Int32) rfl ?_
              refine Gk.icmpNo X105 hx (hb hby at_158) (teq (by decide : (3 : Int32) = (3 : Int32))).2 ?_
              refine Gk.aload X105 hx (hb hby at_161) rfl rfl ?_
              refine Gk.iconst X105 hx (hb hby at_163) (1 : Int32) rfl ?_
              refine Gk.bipush X105 hx (hb hby at_164) (-127 : Int32) rfl ?_
              refine Gk.bastoreB X105 hx hZ e105 V105 1 rfl ⟨by decide, by decide⟩ (.int (-127 : Int32)) rfl (hb hby at_166) ?_
              intro T106 h106 X106 e106 W106 V106
              have N106 := Fr.snoc X106 N105 g_b104
              refine Gk.aload X106 hx (hb hby at_167) rfl rfl ?_
              refine Gk.iconst X106 hx (hb hby at_169) (2 : Int32) rfl ?_
              refine Gk.iload X106 hx (hb hby at_170) rfl ?_
              refine Gk.i2b X106 hx (hb hby at_172) (-1 : Int32) (by decide) ?_
              refine Gk.bastoreB X106 hx hZ e106 V106 2 rfl ⟨by decide, by decide⟩ (.int (-1 : Int32)) rfl (hb hby at_173) ?_
              intro T107 h107 X107 e107 W107 V107
              have N107 := Fr.snoc X107 N106 g_b104
              refine Gk.goto X107 hx (hb hby at_174) 204 (by decide) (by decide) ?_
              refine Gk.iload X107 hx (hb hby at_204) rfl ?_
              refine Gk.iconst X107 hx (hb hby at_206) (1 : Int32) rfl ?_
              refine Gk.icmpNo X107 hx (hb hby at_207) (flt (by decide : ¬ ((255 : Int32) < (1 : Int32)))).1 ?_
              refine Gk.aload X107 hx (hb hby at_210) rfl rfl ?_
              refine Gk.iload X107 hx (hb hby at_212) rfl ?_
              refine Gk.iconst X107 hx (hb hby at_214) (1 : Int32) rfl ?_
              refine Gk.isub X107 hx (hb hby at_215) (257 : Int32) (by decide) ?_
              refine Gk.iloadN X107 hx (hb hby at_216) rfl ?_
              refine Gk.i2b X107 hx (hb hby at_217) _ rfl ?_
              refine Gk.bastoreB X107 hx hZ e107 V107 257 rfl ⟨by decide, by decide⟩ (.int (p4.toInt8.toInt32)) (congrArg Value.int (own_nb _)) (hb hby at_218) ?_
              intro T108 h108 X108 e108 W108 V108
              have N108 := Fr.snoc X108 N107 g_b104
              refine Gk.aload X108 hx (hb hby at_219) rfl rfl ?_
              refine Gk.iload X108 hx (hb hby at_221) rfl ?_
              refine Gk.iloadN X108 hx (hb hby at_223) rfl ?_
              refine Gk.i2b X108 hx (hb hby at_224) _ rfl ?_
              refine Gk.bastoreB X108 hx hZ e108 V108 3 rfl ⟨by decide, by decide⟩ (.int (p3.toInt8.toInt32)) (congrArg Value.int (own_nb _)) (hb hby at_225) ?_
              intro T109 h109 X109 e109 W109 V109
              have N109 := Fr.snoc X109 N108 g_b104
              refine Gk.aload X109 hx (hb hby at_226) rfl rfl ?_
              refine Gk.iconst X109 hx (hb hby at_228) (1 : Int32) rfl ?_
              refine Gk.baloadB X109 hx hZ e109 V109 ⟨by decide, by decide⟩ (.int (-127 : Int32)) rfl (hb hby at_229) ?_
              refine Gk.istore X109 hx (hb hby at_230) #[.val (.int p1), .val (.int p2), .val (.int p3), .val (.int p4), .val (.int tg), .val (.int mm), .val (.int (255 : Int32)), .val (.int (3 : Int32)), .val (.int (258 : Int32)), .val (.ref b104), .val (.int (-127 : Int32)), .unset, .unset, .unset, .unset, .unset] rfl ?_
              refine Gk.aload X109 hx (hb hby at_232) rfl rfl ?_
              refine Gk.iload X109 hx (hb hby at_234) rfl ?_
              refine Gk.iconst X109 hx (hb hby at_236) (1 : Int32) rfl ?_
              refine Gk.isub X109 hx (hb hby at_237) (257 : Int32) (by decide) ?_
              refine Gk.baloadB X109 hx hZ e109 V109 ⟨by decide, by decide⟩ (.int (p4.toInt8.toInt32)) rfl (hb hby at_238) ?_
              refine Gk.istore X109 hx (hb hby at_239) #[.val (.int p1), .val (.int p2), .val (.int p3), .val (.int p4), .val (.int tg), .val (.int mm), .val (.int (255 : Int32)), .val (.int (3 : Int32)), .val (.int (258 : Int32)), .val (.ref b104), .val (.int (-127 : Int32)), .val (.int (p4.toInt8.toInt32)), .unset, .unset, .unset, .unset] rfl ?_
              refine Gk.aload X109 hx (hb hby at_241) rfl rfl ?_
              have gr113 := (Nat.le_trans (Nat.le_trans (Nat.le_trans (Nat.le_trans (Nat.le_trans E104.1 (Keep.of_wr W105).1) (Keep.of_wr W106).1) (Keep.of_wr W107).1) (Keep.of_wr W108).1) (Keep.of_wr W109).1)
              refine Gk.callS (argsL := [(.ref b104)]) X109 hx hZ hown (rm1_4 l Z a0 hw [] b104 k104 (upd (upd (upd (upd (upd (fun _ => (.int (0 : Int32))) 0 (.int (tg.toInt8.toInt32))) 1 (.int (-127 : Int32))) 2 (.int (-1 : Int32))) 257 (.int (p4.toInt8.toInt32))) 3 (.int (p3.toInt8.toInt32))) (tg.toInt8.toInt32) h109 n0 (Nat.le_trans Z0 gr113) V109 rfl rfl rfl htg.2) (hw _ (List.mem_of_getElem? (i := 2) rfl)) (hw _ (List.mem_of_getElem? (i := 3) rfl)) (hw _ (List.mem_of_getElem? (i := 4) rfl)) (hw _ (List.mem_of_getElem? (i := 5) rfl)) (by decide) e109 pd_4 rfl rfl (by decide) (Nat.le_of_ble_eq_true rfl) (by decide) (by decide) (by rw [hml]; rfl)  rfl (hb hby at_243) ?_
              intro T112 L112 v112 X112 hQ112
              obtain ⟨rfl, N112q, K112, E112_, Fp112_bytes, Fp112_start, Fp112_contentStart, Fp112_end⟩ := hQ112
              have N112 := Fr.app N109 N112q
              obtain ⟨b112, g112⟩ : ∃ z_, z_ = h109.size := ⟨_, rfl⟩
              rw [← g112] at E112_ Fp112_bytes Fp112_start Fp112_contentStart Fp112_end ⊢
              have g_b112 : n0 ≤ b112 := Nat.le_trans (Nat.le_trans Z0 gr113) (Nat.le_of_eq g112.symm)
              have lt_b112 : b112 < T112.heap.size := E112_.lt
              show Go p e below (T112.setTop (mkF m 246 #[.val (.int p1), .val (.int p2), .val (.int p3), .val (.int p4), .val (.int tg), .val (.int mm), .val (.int (255 : Int32)), .val (.int (3 : Int32)), .val (.int (258 : Int32)), .val (.ref b104), .val (.int (-127 : Int32)), .val (.int (p4.toInt8.toInt32)), .unset, .unset, .unset, .unset] [(.ref b112)])) _
              refine Gk.astore X112 hx (hb hby at_246) rfl #[.val (.int p1), .val (.int p2), .val (.int p3), .val (.int p4), .val (.int tg), .val (.int mm), .val (.int (255 : Int32)), .val (.int (3 : Int32)), .val (.int (258 : Int32)), .val (.ref b104), .val (.int (-127 : Int32)), .val (.int (p4.toInt8.toInt32)), .val (.ref b112), .unset, .unset, .unset] rfl ?_
              refine Gk.aload X112 hx (hb hby at_248) rfl rfl ?_
              have H115 := (V109.keep K112 nin0)
              refine Gk.callV (argsL := []) X112 hx hZ hown (rm4_4 l Z a0 hw [] b112 b104 k104 (upd (upd (upd (upd (upd (fun _ => (.int (0 : Int32))) 0 (.int (tg.toInt8.toInt32))) 1 (.int (-127 : Int32))) 2 (.int (-1 : Int32))) 257 (.int (p4.toInt8.toInt32))) 3 (.int (p3.toInt8.toInt32))) (tg.toInt8.toInt32) T112.heap n0 (Nat.le_trans Z0 (Nat.le_trans gr113 K112.1)) H115 Fp112_bytes Fp112_start Fp112_contentStart Fp112_end rfl) (hw _ (List.mem_of_getElem? (i := 22) rfl)) (hw _ (List.mem_of_getElem? (i := 23) rfl)) (notFace_of_selects (args := #[]) (mvT hZ (hw _ (List.mem_of_getElem? (i := 25) rfl)))) (hw _ (List.mem_of_getElem? (i := 25) rfl)) (hw _ (List.mem_of_getElem? (i := 24) rfl)) (by decide) (hw _ (List.mem_of_getElem? (i := 26) rfl)) (hw _ (List.mem_of_getElem? (i := 4) rfl)) rfl E112_ pd_5 rfl rfl (by decide) (Nat.le_of_ble_eq_true rfl) (by decide) (by decide) (by rw [hml]; rfl)  rfl (hb hby at_250) ?_
              intro T114 L114 v114 X114 hQ114
              obtain ⟨rfl, N114q, e114⟩ := hQ114
              have N114 := Fr.app N112 N114q
              show Go p e below (T114.setTop (mkF m 253 #[.val (.int p1), .val (.int p2), .val (.int p3), .val (.int p4), .val (.int tg), .val (.int mm), .val (.int (255 : Int32)), .val (.int (3 : Int32)), .val (.int (258 : Int32)), .val (.ref b104), .val (.int (-127 : Int32)), .val (.int (p4.toInt8.toInt32)), .val (.ref b112), .unset, .unset, .unset] [(.int ((tg.toInt8.toInt32) &&& (255 : Int32)))])) _
              refine Gk.iload X114 hx (hb hby at_253) rfl ?_
              have hc255 : ((tg.toInt8.toInt32) &&& (255 : Int32)) = tg := htg.1
              refine Gk.icmpNo X114 hx (hb hby at_255) (teq hc255).2 ?_
              refine Gk.iconst X114 hx (hb hby at_258) (1 : Int32) rfl ?_
              refine Gk.goto X114 hx (hb hby at_259) 263 (by decide) (by decide) ?_
              refine Gk.istore X114 hx (hb hby at_263) #[.val (.int p1), .val (.int p2), .val (.int p3), .val (.int p4), .val (.int tg), .val (.int mm), .val (.int (255 : Int32)), .val (.int (3 : Int32)), .val (.int (258 : Int32)), .val (.ref b104), .val (.int (-127 : Int32)), .val (.int (p4.toInt8.toInt32)), .val (.ref b112), .val (.int (1 : Int32)), .unset, .unset] rfl ?_
              refine Gk.aload X114 hx (hb hby at_265) rfl rfl ?_
              refine Gk.callV (argsL := []) X114 hx hZ hown (rm5_4 l Z a0 hw [] b112 b104 k104 (upd (upd (upd (upd (upd (fun _ => (.int (0 : Int32))) 0 (.int (tg.toInt8.toInt32))) 1 (.int (-127 : Int32))) 2 (.int (-1 : Int32))) 257 (.int (p4.toInt8.toInt32))) 3 (.int (p3.toInt8.toInt32))) T112.heap n0 (Nat.le_trans Z0 (Nat.le_trans gr113 K112.1)) H115 Fp112_bytes Fp112_start Fp112_contentStart Fp112_end) (hw _ (List.mem_of_getElem? (i := 27) rfl)) (hw _ (List.mem_of_getElem? (i := 28) rfl)) (notFace_of_selects (args := #[]) (mvT hZ (hw _ (List.mem_of_getElem? (i := 30) rfl)))) (hw _ (List.mem_of_getElem? (i := 30) rfl)) (hw _ (List.mem_of_getElem? (i := 29) rfl)) (by decide) (hw _ (List.mem_of_getElem? (i := 31) rfl)) (hw _ (List.mem_of_getElem? (i := 4) rfl)) e114 E112_ pd_6 rfl rfl (by decide) (Nat.le_of_ble_eq_true rfl) (by decide) (by decide) (by rw [hml]; rfl)  rfl (hb hby at_267) ?_
              intro T116 L116 v116 X116 hQ116
              obtain ⟨rfl, N116q, K116, k116, A116⟩ := hQ116
              have N116 := Fr.app N114 N116q
              obtain ⟨b116, g116⟩ : ∃ z_, z_ = T112.heap.size := ⟨_, rfl⟩
              rw [← g116] at A116 ⊢
              have g_b116 : n0 ≤ b116 := Nat.le_trans (Nat.le_trans Z0 (Nat.le_trans gr113 K112.1)) (Nat.le_of_eq g116.symm)
              have lt_b116 : b116 < T116.heap.size := A116.lt
              show Go p e below (T116.setTop (mkF m 270 #[.val (.int p1), .val (.int p2), .val (.int p3), .val (.int p4), .val (.int tg), .val (.int mm), .val (.int (255 : Int32)), .val (.int (3 : Int32)), .val (.int (258 : Int32)), .val (.ref b104), .val (.int (-127 : Int32)), .val (.int (p4.toInt8.toInt32)), .val (.ref b112), .val (.int (1 : Int32)), .unset, .unset] [(.ref b116)])) _
              refine Gk.astore X116 hx (hb hby at_270) rfl #[.val (.int p1), .val (.int p2), .val (.int p3), .val (.int p4), .val (.int tg), .val (.int mm), .val (.int (255 : Int32)), .val (.int (3 : Int32)), .val (.int (258 : Int32)), .val (.ref b104), .val (.int (-127 : Int32)), .val (.int (p4.toInt8.toInt32)), .val (.ref b112), .val (.int (1 : Int32)), .val (.ref b116), .unset] rfl ?_
              refine Gk.iload X116 hx (hb hby at_272) rfl ?_
              refine Gk.ifNo X116 hx (hb hby at_274) (feq (by decide : ¬ ((1 : Int32) = (0 : Int32)))).1 ?_
              refine Gk.aload X116 hx (hb hby at_277) rfl rfl ?_
              refine Gk.alen X116 hx hZ rfl A116 (hb hby at_279) ?_
              refine Gk.iload X116 hx (hb hby at_280) rfl ?_
              refine Gk.icmpNo X116 hx (hb hby at_282) (teq (by decide : (255 : Int32) = (255 : Int32))).2 ?_
              refine Gk.iconst X116 hx (hb hby at_285) (1 : Int32) rfl ?_
              refine Gk.goto X116 hx (hb hby at_286) 290 (by decide) (by decide) ?_
              refine Gk.istore X116 hx (hb hby at_290) #[.val (.int p1), .val (.int p2), .val (.int p3), .val (.int p4), .val (.int tg), .val (.int mm), .val (.int (255 : Int32)), .val (.int (3 : Int32)), .val (.int (258 : Int32)), .val (.ref b104), .val (.int (-127 : Int32)), .val (.int (p4.toInt8.toInt32)), .val (.ref b112), .val (.int (1 : Int32)), .val (.ref b116), .unset] rfl ?_
              refine Gk.iload X116 hx (hb hby at_292) rfl ?_
              refine Gk.iconst X116 hx (hb hby at_294) (1 : Int32) rfl ?_
              refine Gk.icmpNo X116 hx (hb hby at_295) (flt (by decide : ¬ ((255 : Int32) < (1 : Int32)))).1 ?_
              refine Gk.iload X116 hx (hb hby at_298) rfl ?_
              refine Gk.iconst X116 hx (hb hby at_300) (1 : Int32) rfl ?_
              refine Gk.icmpYes X116 hx (hb hby at_301) (feq (by decide : ¬ ((255 : Int32) = (1 : Int32)))).2 309 (by decide) (by decide) ?_
              refine Gk.iloadN X116 hx (hb hby at_309) rfl ?_
              refine Gk.i2b X116 hx (hb hby at_310) _ rfl ?_
              refine Gk.istore X116 hx (hb hby at_311) #[.val (.int p1), .val (.int p2), .val (.int p3), .val (.int p4), .val (.int tg), .val (.int mm), .val (.int (255 : Int32)), .val (.int (3 : Int32)), .val (.int (258 : Int32)), .val (.ref b104), .val (.int (-127 : Int32)), .val (.int (p4.toInt8.toInt32)), .val (.ref b112), .val (.int (1 : Int32)), .val (.ref b116), .val (.int (p4.toInt8.toInt32))] rfl ?_
              refine Gk.iload X116 hx (hb hby at_313) rfl ?_
              refine Gk.ifNo X116 hx (hb hby at_315) (feq (by decide : ¬ ((1 : Int32) = (0 : Int32)))).1 ?_
              refine Gk.aload X116 hx (hb hby at_318) rfl rfl ?_
              refine Gk.iconst X116 hx (hb hby at_320) (0 : Int32) rfl ?_
              refine Gk.baloadB X116 hx hZ rfl A116 ⟨by decide, by decide⟩ (.int (p3.toInt8.toInt32)) rfl (hb hby at_321) ?_
              refine Gk.iloadN X116 hx (hb hby at_322) rfl ?_
              refine Gk.i2b X116 hx (hb hby at_323) _ rfl ?_
              refine Gk.icmpNo X116 hx (hb hby at_324) (teq (rfl : (p3.toInt8.toInt32) = (p3.toInt8.toInt32))).2 ?_
              refine Gk.aload X116 hx (hb hby at_327) rfl rfl ?_
              refine Gk.iload X116 hx (hb hby at_329) rfl ?_
              refine Gk.iconst X116 hx (hb hby at_331) (1 : Int32) rfl ?_
              refine Gk.isub X116 hx (hb hby at_332) (254 : Int32) (by decide) ?_
              refine Gk.baloadB X116 hx hZ rfl A116 ⟨by decide, by decide⟩ (.int (p4.toInt8.toInt32)) rfl (hb hby at_333) ?_
              refine Gk.iload X116 hx (hb hby at_334) rfl ?_
              refine Gk.icmpNo X116 hx (hb hby at_336) (teq (rfl : (p4.toInt8.toInt32) = (p4.toInt8.toInt32))).2 ?_
              refine Gk.iconst X116 hx (hb hby at_339) (1 : Int32) rfl ?_
              refine Gk.goto X116 hx (hb hby at_340) 344 (by decide) (by decide) ?_
              refine Gk.istore X116 hx (hb hby at_344) #[.val (.int p1), .val (.int p2), .val (.int p3), .val (.int p4), .val (.int tg), .val (.int mm), .val (.int (255 : Int32)), .val (.int (3 : Int32)), .val (.int (258 : Int32)), .val (.ref b104), .val (.int (-127 : Int32)), .val (.int (p4.toInt8.toInt32)), .val (.ref b112), .val (.int (1 : Int32)), .val (.ref b116), .val (.int (p4.toInt8.toInt32))] rfl ?_
              refine Gk.iload X116 hx (hb hby at_346) rfl ?_
              refine Gk.iconst X116 hx (hb hby at_348) (3 : Int32) rfl ?_
              refine Gk.icmpNo X116 hx (hb hby at_349) (flt (by decide : ¬ ((255 : Int32) < (3 : Int32)))).1 ?_
              refine Gk.iload X116 hx (hb hby at_352) rfl ?_
              refine Gk.ifNo X116 hx (hb hby at_354) (feq (by decide : ¬ ((1 : Int32) = (0 : Int32)))).1 ?_
              refine Gk.aload X116 hx (hb hby at_357) rfl rfl ?_
              refine Gk.iconst X116 hx (hb hby at_359) (1 : Int32) rfl ?_
              refine Gk.baloadB X116 hx hZ rfl A116 ⟨by decide, by decide⟩ (.int (0 : Int32)) rfl (hb hby at_360) ?_
              refine Gk.ifNo X116 hx (hb hby at_361) (teq (by decide : (0 : Int32) = (0 : Int32))).2 ?_
              refine Gk.iconst X116 hx (hb hby at_364) (1 : Int32) rfl ?_
              refine Gk.goto X116 hx (hb hby at_365) 369 (by decide) (by decide) ?_
              refine Gk.istore X116 hx (hb hby at_369) #[.val (.int p1), .val (.int p2), .val (.int p3), .val (.int p4), .val (.int tg), .val (.int mm), .val (.int (255 : Int32)), .val (.int (3 : Int32)), .val (.int (258 : Int32)), .val (.ref b104), .val (.int (-127 : Int32)), .val (.int (p4.toInt8.toInt32)), .val (.ref b112), .val (.int (1 : Int32)), .val (.ref b116), .val (.int (p4.toInt8.toInt32))] rfl ?_
              refine Gk.aload X116 hx (hb hby at_371) rfl rfl ?_
              have H121 := (H115.keep K116 nin0)
              have H122 := (Fp112_bytes.keep K116 nin0)
              have H123 := (Fp112_start.keep K116 nin0)
              have H124 := (Fp112_contentStart.keep K116 nin0)
              have H125 := (Fp112_end.keep K116 nin0)
              have H126 := (((((((B104.wr W105).wr W106).wr W107).wr W108).wr W109).keep K112).keep K116)
              have gr127 := (Nat.le_trans (Nat.le_trans gr113 K112.1) K116.1)
              have H128 := (E112_.keep K116)
              refine Gk.callV (argsL := []) X116 hx hZ hown (rm10_4 l Z a0 hw [] b112 b104 k104 (upd (upd (upd (upd (upd (fun _ => (.int (0 : Int32))) 0 (.int (tg.toInt8.toInt32))) 1 (.int (-127 : Int32))) 2 (.int (-1 : Int32))) 257 (.int (p4.toInt8.toInt32))) 3 (.int (p3.toInt8.toInt32))) T116.heap n0 (Nat.le_trans Z0 gr127) H121 H122 H123 H124 H125 H126) (hw _ (List.mem_of_getElem? (i := 50) rfl)) (hw _ (List.mem_of_getElem? (i := 51) rfl)) (notFace_of_selects (args := #[]) (mvT hZ (hw _ (List.mem_of_getElem? (i := 53) rfl)))) (hw _ (List.mem_of_getElem? (i := 53) rfl)) (hw _ (List.mem_of_getElem? (i := 52) rfl)) (by decide) (hw _ (List.mem_of_getElem? (i := 54) rfl)) (hw _ (List.mem_of_getElem? (i := 4) rfl)) rfl H128 pd_6 rfl rfl (by decide) (Nat.le_of_ble_eq_true rfl) (by decide) (by decide) (by rw [hml]; rfl)  rfl (hb hby at_373) ?_
              intro T120 L120 v120 X120 hQ120
              obtain ⟨rfl, N120q, K120, k120, A120⟩ := hQ120
              have N120 := Fr.app N116 N120q
              obtain ⟨b120, g120⟩ : ∃ z_, z_ = T116.heap.size := ⟨_, rfl⟩
              rw [← g120] at A120 ⊢
              have g_b120 : n0 ≤ b120 := Nat.le_trans (Nat.le_trans Z0 gr127) (Nat.le_of_eq g120.symm)
              have lt_b120 : b120 < T120.heap.size := A120.lt
              show Go p e below (T120.setTop (mkF m 376 #[.val (.int p1), .val (.int p2), .val (.int p3), .val (.int p4), .val (.int tg), .val (.int mm), .val (.int (255 : Int32)), .val (.int (3 : Int32)), .val (.int (258 : Int32)), .val (.ref b104), .val (.int (-127 : Int32)), .val (.int (p4.toInt8.toInt32)), .val (.ref b112), .val (.int (1 : Int32)), .val (.ref b116), .val (.int (p4.toInt8.toInt32))] [(.ref b120)])) _
              refine Gk.astore X120 hx (hb hby at_376) rfl #[.val (.int p1), .val (.int p2), .val (.int p3), .val (.int p4), .val (.int tg), .val (.int mm), .val (.int (255 : Int32)), .val (.int (3 : Int32)), .val (.int (258 : Int32)), .val (.ref b104), .val (.int (-127 : Int32)), .val (.int (p4.toInt8.toInt32)), .val (.ref b112), .val (.int (1 : Int32)), .val (.ref b116), .val (.ref b120)] rfl ?_
              refine Gk.iload X120 hx (hb hby at_378) rfl ?_
              refine Gk.ifNo X120 hx (hb hby at_380) (feq (by decide : ¬ ((1 : Int32) = (0 : Int32)))).1 ?_
              refine Gk.aload X120 hx (hb hby at_383) rfl rfl ?_
              refine Gk.alen X120 hx hZ rfl A120 (hb hby at_385) ?_
              refine Gk.iload X120 hx (hb hby at_386) rfl ?_
              refine Gk.icmpNo X120 hx (hb hby at_388) (teq (by decide : (258 : Int32) = (258 : Int32))).2 ?_
              refine Gk.aload X120 hx (hb hby at_391) rfl rfl ?_
              refine Gk.iconst X120 hx (hb hby at_393) (0 : Int32) rfl ?_
              refine Gk.baloadB X120 hx hZ rfl A120 ⟨by decide, by decide⟩ (.int (tg.toInt8.toInt32)) rfl (hb hby at_394) ?_
              refine Gk.iload X120 hx (hb hby at_395) rfl ?_
              refine Gk.i2b X120 hx (hb hby at_397) _ rfl ?_
              refine Gk.icmpNo X120 hx (hb hby at_398) (teq (rfl : (tg.toInt8.toInt32) = (tg.toInt8.toInt32))).2 ?_
              refine Gk.aload X120 hx (hb hby at_401) rfl rfl ?_
              refine Gk.iconst X120 hx (hb hby at_403) (1 : Int32) rfl ?_
              refine Gk.baloadB X120 hx hZ rfl A120 ⟨by decide, by decide⟩ (.int (-127 : Int32)) rfl (hb hby at_404) ?_
              refine Gk.iload X120 hx (hb hby at_405) rfl ?_
              refine Gk.icmpNo X120 hx (hb hby at_407) (teq (by decide : (-127 : Int32) = (-127 : Int32))).2 ?_
              refine Gk.aload X120 hx (hb hby at_410) rfl rfl ?_
              refine Gk.iload X120 hx (hb hby at_412) rfl ?_
              refine Gk.iconst X120 hx (hb hby at_414) (1 : Int32) rfl ?_
              refine Gk.isub X120 hx (hb hby at_415) (257 : Int32) (by decide) ?_
              refine Gk.baloadB X120 hx hZ rfl A120 ⟨by decide, by decide⟩ (.int (p4.toInt8.toInt32)) rfl (hb hby at_416) ?_
              refine Gk.iload X120 hx (hb hby at_417) rfl ?_
              refine Gk.icmpNo X120 hx (hb hby at_419) (teq (rfl : (p4.toInt8.toInt32) = (p4.toInt8.toInt32))).2 ?_
              refine Gk.iconst X120 hx (hb hby at_422) (1 : Int32) rfl ?_
              refine Gk.goto X120 hx (hb hby at_423) 427 (by decide) (by decide) ?_
              refine Gk.istore X120 hx (hb hby at_427) #[.val (.int p1), .val (.int p2), .val (.int p3), .val (.int p4), .val (.int tg), .val (.int mm), .val (.int (255 : Int32)), .val (.int (3 : Int32)), .val (.int (258 : Int32)), .val (.ref b104), .val (.int (-127 : Int32)), .val (.int (p4.toInt8.toInt32)), .val (.ref b112), .val (.int (1 : Int32)), .val (.ref b116), .val (.ref b120)] rfl ?_
              refine Gk.iload X120 hx (hb hby at_429) rfl ?_
              refine Go.fin X120 (v := some (.int (1 : Int32))) (fun h_ => by rw [Bd.returns] at h_; cases h_) Bd.notSynchronized (fun _ hr => retN X120 hx (t := .boolean) Bd.returns (by simp) (hb hby at_431) hr) (fun U' hU hF => ⟨_, _, rfl, ?_, hF.1, hF.2.1, hF.2.2.mono (by decide) (by decide)⟩)
              exact ⟨(congrArg (fun z_ : Int32 => some (Value.int z_)) (show (1 : Int32) = (1 : Int32) from rfl)), N120⟩
            · refine Gk.icmpYes X0 hx (hb hby at_97) (feq hc97).2 111 (by decide) (by decide) ?_
              refine Gk.sipush X0 hx (hb hby at_111) (256 : Int32) rfl ?_
              refine Gk.istore X0 hx (hb hby at_114) #[.val (.int p1), .val (.int p2), .val (.int p3), .val (.int p4), .val (.int tg), .val (.int mm), .val (.int (256 : Int32)), .unset, .unset, .unset, .unset, .unset, .unset, .unset, .unset, .unset] rfl ?_
              refine Gk.iconst X0 hx (hb hby at_116) (4 : Int32) rfl ?_
              refine Gk.istore X0 hx (hb hby at_117) #[.val (.int p1), .val (.int p2), .val (.int p3), .val (.int p4), .val (.int tg), .val (.int mm), .val (.int (256 : Int32)), .val (.int (4 : Int32)), .unset, .unset, .unset, .unset, .unset, .unset, .unset, .unset] rfl ?_
              refine Gk.iload X0 hx (hb hby at_119) rfl ?_
              refine Gk.iload X0 hx (hb hby at_121) rfl ?_
              refine Gk.iadd X0 hx (hb hby at_123) (260 : Int32) (by decide) ?_
              refine Gk.istore X0 hx (hb hby at_124) #[.val (.int p1), .val (.int p2), .val (.int p3), .val (.int p4), .val (.int tg), .val (.int mm), .val (.int (256 : Int32)), .val (.int (4 : Int32)), .val (.int (260 : Int32)), .unset, .unset, .unset, .unset, .unset, .unset, .unset] rfl ?_
              refine Gk.iload X0 hx (hb hby at_126) rfl ?_
              refine Gk.newP X0 hx hZ (hw _ (List.mem_of_getElem? (i := 1) rfl)) e0 (hb hby at_128) (by decide) (cap := 260) (by decide) (by decide) (by decide) (by decide) rfl ?_
              intro T132 h132 b132 k132 X132 e132 E132 g132 A132 B132
              have g_b132 : n0 ≤ b132 := Nat.le_trans Z0 (Nat.le_of_eq g132.symm)
              have V_b132 : Arf Z h132 b132 k132 .byte (260 : Int32) (fun _ => (.int (0 : Int32))) := A132
              have lt_b132 := V_b132.lt
              refine Gk.astore X132 hx (hb hby at_130) rfl #[.val (.int p1), .val (.int p2), .val (.int p3), .val (.int p4), .val (.int tg), .val (.int mm), .val (.int (256 : Int32)), .val (.int (4 : Int32)), .val (.int (260 : Int32)), .val (.ref b132), .unset, .unset, .unset, .unset, .unset, .unset] rfl ?_
              refine Gk.aload X132 hx (hb hby at_132) rfl rfl ?_
              refine Gk.iconst X132 hx (hb hby at_134) (0 : Int32) rfl ?_
              refine Gk.iload X132 hx (hb hby at_135) rfl ?_
              refine Gk.i2b X132 hx (hb hby at_137) _ rfl ?_
              refine Gk.bastoreB X132 hx hZ e132 V_b132 0 rfl ⟨by decide, by decide⟩ (.int (tg.toInt8.toInt32)) (congrArg Value.int (own_nb _)) (hb hby at_138) ?_
              intro T133 h133 X133 e133 W133 V133
              have N133 := Fr.snoc X133 N0 g_b132
              refine Gk.iload X133 hx (hb hby at_139) rfl ?_
              refine Gk.iconst X133 hx (hb hby at_141) (2 : Int32) rfl ?_
              refine Gk.icmpYes X133 hx (hb hby at_142) (feq (by decide : ¬ ((4 : Int32) = (2 : Int32)))).2 155 (by decide) (by decide) ?_
              refine Gk.iload X133 hx (hb hby at_155) rfl ?_
              refine Gk.iconst X133 hx (hb hby at_157) (3 : Int32) rfl ?_
              refine Gk.icmpYes X133 hx (hb hby at_158) (feq (by decide : ¬ ((4 : Int32) = (3 : Int32)))).2 177 (by decide) (by decide) ?_
              refine Gk.aload X133 hx (hb hby at_177) rfl rfl ?_
              refine Gk.iconst X133 hx (hb hby at_179) (1 : Int32) rfl ?_
              refine Gk.bipush X133 hx (hb hby at_180) (-126 : Int32) rfl ?_
              refine Gk.bastoreB X133 hx hZ e133 V133 1 rfl ⟨by decide, by decide⟩ (.int (-126 : Int32)) rfl (hb hby at_182) ?_
              intro T134 h134 X134 e134 W134 V134
              have N134 := Fr.snoc X134 N133 g_b132
              refine Gk.aload X134 hx (hb hby at_183) rfl rfl ?_
              refine Gk.iconst X134 hx (hb hby at_185) (2 : Int32) rfl ?_
              refine Gk.iload X134 hx (hb hby at_186) rfl ?_
              refine Gk.bipush X134 hx (hb hby at_188) (8 : Int32) rfl ?_
              refine Gk.ishr X134 hx (hb hby at_190) (1 : Int32) (by decide) ?_
              refine Gk.i2b X134 hx (hb hby at_191) (1 : Int32) (by decide) ?_
              refine Gk.bastoreB X134 hx hZ e134 V134 2 rfl ⟨by decide, by decide⟩ (.int (1 : Int32)) rfl (hb hby at_192) ?_
              intro T135 h135 X135 e135 W135 V135
              have N135 := Fr.snoc X135 N134 g_b132
              refine Gk.aload X135 hx (hb hby at_193) rfl rfl ?_
              refine Gk.iconst X135 hx (hb hby at_195) (3 : Int32) rfl ?_
              refine Gk.iload X135 hx (hb hby at_196) rfl ?_
              refine Gk.sipush X135 hx (hb hby at_198) (255 : Int32) rfl ?_
              refine Gk.iand X135 hx (hb hby at_201) (0 : Int32) (by decide) ?_
              refine Gk.i2b X135 hx (hb hby at_202) (0 : Int32) (by decide) ?_
              refine Gk.bastoreB X135 hx hZ e135 V135 3 rfl ⟨by decide, by decide⟩ (.int (0 : Int32)) rfl (hb hby at_203) ?_
              intro T136 h136 X136 e136 W136 V136
              have N136 := Fr.snoc X136 N135 g_b132
              refine Gk.iload X136 hx (hb hby at_204) rfl ?_
              refine Gk.iconst X136 hx (hb hby at_206) (1 : Int32) rfl ?_
              refine Gk.icmpNo X136 hx (hb hby at_207) (flt (by decide : ¬ ((256 : Int32) < (1 : Int32)))).1 ?_
              refine Gk.aload X136 hx (hb hby at_210) rfl rfl ?_
              refine Gk.iload X136 hx (hb hby at_212) rfl ?_
              refine Gk.iconst X136 hx (hb hby at_214) (1 : Int32) rfl ?_
              refine Gk.isub X136 hx (hb hby at_215) (259 : Int32) (by decide) ?_
              refine Gk.iloadN X136 hx (hb hby at_216) rfl ?_
              refine Gk.i2b X136 hx (hb hby at_217) _ rfl ?_
              refine Gk.bastoreB X136 hx hZ e136 V136 259 rfl ⟨by decide, by decide⟩ (.int (p4.toInt8.toInt32)) (congrArg Value.int (own_nb _)) (hb hby at_218) ?_
              intro T137 h137 X137 e137 W137 V137
              have N137 := Fr.snoc X137 N136 g_b132
              refine Gk.aload X137 hx (hb hby at_219) rfl rfl ?_
              refine Gk.iload X137 hx (hb hby at_221) rfl ?_
              refine Gk.iloadN X137 hx (hb hby at_223) rfl ?_
              refine Gk.i2b X137 hx (hb hby at_224) _ rfl ?_
              refine Gk.bastoreB X137 hx hZ e137 V137 4 rfl ⟨by decide, by decide⟩ (.int (p3.toInt8.toInt32)) (congrArg Value.int (own_nb _)) (hb hby at_225) ?_
              intro T138 h138 X138 e138 W138 V138
              have N138 := Fr.snoc X138 N137 g_b132
              refine Gk.aload X138 hx (hb hby at_226) rfl rfl ?_
              refine Gk.iconst X138 hx (hb hby at_228) (1 : Int32) rfl ?_
              refine Gk.baloadB X138 hx hZ e138 V138 ⟨by decide, by decide⟩ (.int (-126 : Int32)) rfl (hb hby at_229) ?_
              refine Gk.istore X138 hx (hb hby at_230) #[.val (.int p1), .val (.int p2), .val (.int p3), .val (.int p4), .val (.int tg), .val (.int mm), .val (.int (256 : Int32)), .val (.int (4 : Int32)), .val (.int (260 : Int32)), .val (.ref b132), .val (.int (-126 : Int32)), .unset, .unset, .unset, .unset, .unset] rfl ?_
              refine Gk.aload X138 hx (hb hby at_232) rfl rfl ?_
              refine Gk.iload X138 hx (hb hby at_234) rfl ?_
              refine Gk.iconst X138 hx (hb hby at_236) (1 : Int32) rfl ?_
              refine Gk.isub X138 hx (hb hby at_237) (259 : Int32) (by decide) ?_
              refine Gk.baloadB X138 hx hZ e138 V138 ⟨by decide, by decide⟩ (.int (p4.toInt8.toInt32)) rfl (hb hby at_238) ?_
              refine Gk.istore X138 hx (hb hby at_239) #[.val (.int p1), .val (.int p2), .val (.int p3), .val (.int p4), .val (.int tg), .val (.int mm), .val (.int (256 : Int32)), .val (.int (4 : Int32)), .val (.int (260 : Int32)), .val (.ref b132), .val (.int (-126 : Int32)), .val (.int (p4.toInt8.toInt32)), .unset, .unset, .unset, .unset] rfl ?_
              refine Gk.aload X138 hx (hb hby at_241) rfl rfl ?_
              have gr142 := (Nat.le_trans (Nat.le_trans (Nat.le_trans (Nat.le_trans (Nat.le_trans (Nat.le_trans E132.1 (Keep.of_wr W133).1) (Keep.of_wr W134).1) (Keep.of_wr W135).1) (Keep.of_wr W136).1) (Keep.of_wr W137).1) (Keep.of_wr W138).1)
              refine Gk.callS (argsL := [(.ref b132)]) X138 hx hZ hown (rm1_5 l Z a0 hw [] b132 k132 (upd (upd (upd (upd (upd (upd (fun _ => (.int (0 : Int32))) 0 (.int (tg.toInt8.toInt32))) 1 (.int (-126 : Int32))) 2 (.int (1 : Int32))) 3 (.int (0 : Int32))) 259 (.int (p4.toInt8.toInt32))) 4 (.int (p3.toInt8.toInt32))) (tg.toInt8.toInt32) h138 n0 (Nat.le_trans Z0 gr142) V138 rfl rfl rfl rfl htg.2) (hw _ (List.mem_of_getElem? (i := 2) rfl)) (hw _ (List.mem_of_getElem? (i := 3) rfl)) (hw _ (List.mem_of_getElem? (i := 4) rfl)) (hw _ (List.mem_of_getElem? (i := 5) rfl)) (by decide) e138 pd_4 rfl rfl (by decide) (Nat.le_of_ble_eq_true rfl) (by decide) (by decide) (by rw [hml]; rfl)  rfl (hb hby at_243) ?_
              intro T141 L141 v141 X141 hQ141
              obtain ⟨rfl, N141q, K141, E141_, Fp141_bytes, Fp141_start, Fp141_contentStart, Fp141_end⟩ := hQ141
              have N141 := Fr.app N138 N141q
              obtain ⟨b141, g141⟩ : ∃ z_, z_ = h138.size := ⟨_, rfl⟩
              rw [← g141] at E141_ Fp141_bytes Fp141_start Fp141_contentStart Fp141_end ⊢
              have g_b141 : n0 ≤ b141 := Nat.le_trans (Nat.le_trans Z0 gr142) (Nat.le_of_eq g141.symm)
              have lt_b141 : b141 < T141.heap.size := E141_.lt
              show Go p e below (T141.setTop (mkF m 246 #[.val (.int p1), .val (.int p2), .val (.int p3), .val (.int p4), .val (.int tg), .val (.int mm), .val (.int (256 : Int32)), .val (.int (4 : Int32)), .val (.int (260 : Int32)), .val (.ref b132), .val (.int (-126 : Int32)), .val (.int (p4.toInt8.toInt32)), .unset, .unset, .unset, .unset] [(.ref b141)])) _
              refine Gk.astore X141 hx (hb hby at_246) rfl #[.val (.int p1), .val (.int p2), .val (.int p3), .val (.int p4), .val (.int tg), .val (.int mm), .val (.int (256 : Int32)), .val (.int (4 : Int32)), .val (.int (260 : Int32)), .val (.ref b132), .val (.int (-126 : Int32)), .val (.int (p4.toInt8.toInt32)), .val (.ref b141), .unset, .unset, .unset] rfl ?_
              refine Gk.aload X141 hx (hb hby at_248) rfl rfl ?_
              have H144 := (V138.keep K141 nin0)
              refine Gk.callV (argsL := []) X141 hx hZ hown (rm4_5 l Z a0 hw [] b141 b132 k132 (upd (upd (upd (upd (upd (upd (fun _ => (.int (0 : Int32))) 0 (.int (tg.toInt8.toInt32))) 1 (.int (-126 : Int32))) 2 (.int (1 : Int32))) 3 (.int (0 : Int32))) 259 (.int (p4.toInt8.toInt32))) 4 (.int (p3.toInt8.toInt32))) (tg.toInt8.toInt32) T141.heap n0 (Nat.le_trans Z0 (Nat.le_trans gr142 K141.1)) H144 Fp141_bytes Fp141_start Fp141_contentStart Fp141_end rfl) (hw _ (List.mem_of_getElem? (i := 22) rfl)) (hw _ (List.mem_of_getElem? (i := 23) rfl)) (notFace_of_selects (args := #[]) (mvT hZ (hw _ (List.mem_of_getElem? (i := 25) rfl)))) (hw _ (List.mem_of_getElem? (i := 25) rfl)) (hw _ (List.mem_of_getElem? (i := 24) rfl)) (by decide) (hw _ (List.mem_of_getElem? (i := 26) rfl)) (hw _ (List.mem_of_getElem? (i := 4) rfl)) rfl E141_ pd_5 rfl rfl (by decide) (Nat.le_of_ble_eq_true rfl) (by decide) (by decide) (by rw [hml]; rfl)  rfl (hb hby at_250) ?_
              intro T143 L143 v143 X143 hQ143
              obtain ⟨rfl, N143q, e143⟩ := hQ143
              have N143 := Fr.app N141 N143q
              show Go p e below (T143.setTop (mkF m 253 #[.val (.int p1), .val (.int p2), .val (.int p3), .val (.int p4), .val (.int tg), .val (.int mm), .val (.int (256 : Int32)), .val (.int (4 : Int32)), .val (.int (260 : Int32)), .val (.ref b132), .val (.int (-126 : Int32)), .val (.int (p4.toInt8.toInt32)), .val (.ref b141), .unset, .unset, .unset] [(.int ((tg.toInt8.toInt32) &&& (255 : Int32)))])) _
              refine Gk.iload X143 hx (hb hby at_253) rfl ?_
              have hc255 : ((tg.toInt8.toInt32) &&& (255 : Int32)) = tg := htg.1
              refine Gk.icmpNo X143 hx (hb hby at_255) (teq hc255).2 ?_
              refine Gk.iconst X143 hx (hb hby at_258) (1 : Int32) rfl ?_
              refine Gk.goto X143 hx (hb hby at_259) 263 (by decide) (by decide) ?_
              refine Gk.istore X143 hx (hb hby at_263) #[.val (.int p1), .val (.int p2), .val (.int p3), .val (.int p4), .val (.int tg), .val (.int mm), .val (.int (256 : Int32)), .val (.int (4 : Int32)), .val (.int (260 : Int32)), .val (.ref b132), .val (.int (-126 : Int32)), .val (.int (p4.toInt8.toInt32)), .val (.ref b141), .val (.int (1 : Int32)), .unset, .unset] rfl ?_
              refine Gk.aload X143 hx (hb hby at_265) rfl rfl ?_
              refine Gk.callV (argsL := []) X143 hx hZ hown (rm5_5 l Z a0 hw [] b141 b132 k132 (upd (upd (upd (upd (upd (upd (fun _ => (.int (0 : Int32))) 0 (.int (tg.toInt8.toInt32))) 1 (.int (-126 : Int32))) 2 (.int (1 : Int32))) 3 (.int (0 : Int32))) 259 (.int (p4.toInt8.toInt32))) 4 (.int (p3.toInt8.toInt32))) T141.heap n0 (Nat.le_trans Z0 (Nat.le_trans gr142 K141.1)) H144 Fp141_bytes Fp141_start Fp141_contentStart Fp141_end) (hw _ (List.mem_of_getElem? (i := 27) rfl)) (hw _ (List.mem_of_getElem? (i := 28) rfl)) (notFace_of_selects (args := #[]) (mvT hZ (hw _ (List.mem_of_getElem? (i := 30) rfl)))) (hw _ (List.mem_of_getElem? (i := 30) rfl)) (hw _ (List.mem_of_getElem? (i := 29) rfl)) (by decide) (hw _ (List.mem_of_getElem? (i := 31) rfl)) (hw _ (List.mem_of_getElem? (i := 4) rfl)) e143 E141_ pd_6 rfl rfl (by decide) (Nat.le_of_ble_eq_true rfl) (by decide) (by decide) (by rw [hml]; rfl)  rfl (hb hby at_267) ?_
              intro T145 L145 v145 X145 hQ145
              obtain ⟨rfl, N145q, K145, k145, A145⟩ := hQ145
              have N145 := Fr.app N143 N145q
              obtain ⟨b145, g145⟩ : ∃ z_, z_ = T141.heap.size := ⟨_, rfl⟩
              rw [← g145] at A145 ⊢
              have g_b145 : n0 ≤ b145 := Nat.le_trans (Nat.le_trans Z0 (Nat.le_trans gr142 K141.1)) (Nat.le_of_eq g145.symm)
              have lt_b145 : b145 < T145.heap.size := A145.lt
              show Go p e below (T145.setTop (mkF m 270 #[.val (.int p1), .val (.int p2), .val (.int p3), .val (.int p4), .val (.int tg), .val (.int mm), .val (.int (256 : Int32)), .val (.int (4 : Int32)), .val (.int (260 : Int32)), .val (.ref b132), .val (.int (-126 : Int32)), .val (.int (p4.toInt8.toInt32)), .val (.ref b141), .val (.int (1 : Int32)), .unset, .unset] [(.ref b145)])) _
              refine Gk.astore X145 hx (hb hby at_270) rfl #[.val (.int p1), .val (.int p2), .val (.int p3), .val (.int p4), .val (.int tg), .val (.int mm), .val (.int (256 : Int32)), .val (.int (4 : Int32)), .val (.int (260 : Int32)), .val (.ref b132), .val (.int (-126 : Int32)), .val (.int (p4.toInt8.toInt32)), .val (.ref b141), .val (.int (1 : Int32)), .val (.ref b145), .unset] rfl ?_
              refine Gk.iload X145 hx (hb hby at_272) rfl ?_
              refine Gk.ifNo X145 hx (hb hby at_274) (feq (by decide : ¬ ((1 : Int32) = (0 : Int32)))).1 ?_
              refine Gk.aload X145 hx (hb hby at_277) rfl rfl ?_
              refine Gk.alen X145 hx hZ rfl A145 (hb hby at_279) ?_
              refine Gk.iload X145 hx (hb hby at_280) rfl ?_
              refine Gk.icmpNo X145 hx (hb hby at_282) (teq (by decide : (256 : Int32) = (256 : Int32))).2 ?_
              refine Gk.iconst X145 hx (hb hby at_285) (1 : Int32) rfl ?_
              refine Gk.goto X145 hx (hb hby at_286) 290 (by decide) (by decide) ?_
              refine Gk.istore X145 hx (hb hby at_290) #[.val (.int p1), .val (.int p2), .val (.int p3), .val (.int p4), .val (.int tg), .val (.int mm), .val (.int (256 : Int32)), .val (.int (4 : Int32)), .val (.int (260 : Int32)), .val (.ref b132), .val (.int (-126 : Int32)), .val (.int (p4.toInt8.toInt32)), .val (.ref b141), .val (.int (1 : Int32)), .val (.ref b145), .unset] rfl ?_
              refine Gk.iload X145 hx (hb hby at_292) rfl ?_
              refine Gk.iconst X145 hx (hb hby at_294) (1 : Int32) rfl ?_
              refine Gk.icmpNo X145 hx (hb hby at_295) (flt (by decide : ¬ ((256 : Int32) < (1 : Int32)))).1 ?_
              refine Gk.iload X145 hx (hb hby at_298) rfl ?_
              refine Gk.iconst X145 hx (hb hby at_300) (1 : Int32) rfl ?_
              refine Gk.icmpYes X145 hx (hb hby at_301) (feq (by decide : ¬ ((256 : Int32) = (1 : Int32)))).2 309 (by decide) (by decide) ?_
              refine Gk.iloadN X145 hx (hb hby at_309) rfl ?_
              refine Gk.i2b X145 hx (hb hby at_310) _ rfl ?_
              refine Gk.istore X145 hx (hb hby at_311) #[.val (.int p1), .val (.int p2), .val (.int p3), .val (.int p4), .val (.int tg), .val (.int mm), .val (.int (256 : Int32)), .val (.int (4 : Int32)), .val (.int (260 : Int32)), .val (.ref b132), .val (.int (-126 : Int32)), .val (.int (p4.toInt8.toInt32)), .val (.ref b141), .val (.int (1 : Int32)), .val (.ref b145), .val (.int (p4.toInt8.toInt32))] rfl ?_
              refine Gk.iload X145 hx (hb hby at_313) rfl ?_
              refine Gk.ifNo X145 hx (hb hby at_315) (feq (by decide : ¬ ((1 : Int32) = (0 : Int32)))).1 ?_
              refine Gk.aload X145 hx (hb hby at_318) rfl rfl ?_
              refine Gk.iconst X145 hx (hb hby at_320) (0 : Int32) rfl ?_
              refine Gk.baloadB X145 hx hZ rfl A145 ⟨by decide, by decide⟩ (.int (p3.toInt8.toInt32)) rfl (hb hby at_321) ?_
              refine Gk.iloadN X145 hx (hb hby at_322) rfl ?_
              refine Gk.i2b X145 hx (hb hby at_323) _ rfl ?_
              refine Gk.icmpNo X145 hx (hb hby at_324) (teq (rfl : (p3.toInt8.toInt32) = (p3.toInt8.toInt32))).2 ?_
              refine Gk.aload X145 hx (hb hby at_327) rfl rfl ?_
              refine Gk.iload X145 hx (hb hby at_329) rfl ?_
              refine Gk.iconst X145 hx (hb hby at_331) (1 : Int32) rfl ?_
              refine Gk.isub X145 hx (hb hby at_332) (255 : Int32) (by decide) ?_
              refine Gk.baloadB X145 hx hZ rfl A145 ⟨by decide, by decide⟩ (.int (p4.toInt8.toInt32)) rfl (hb hby at_333) ?_
              refine Gk.iload X145 hx (hb hby at_334) rfl ?_
              refine Gk.icmpNo X145 hx (hb hby at_336) (teq (rfl : (p4.toInt8.toInt32) = (p4.toInt8.toInt32))).2 ?_
              refine Gk.iconst X145 hx (hb hby at_339) (1 : Int32) rfl ?_
              refine Gk.goto X145 hx (hb hby at_340) 344 (by decide) (by decide) ?_
              refine Gk.istore X145 hx (hb hby at_344) #[.val (.int p1), .val (.int p2), .val (.int p3), .val (.int p4), .val (.int tg), .val (.int mm), .val (.int (256 : Int32)), .val (.int (4 : Int32)), .val (.int (260 : Int32)), .val (.ref b132), .val (.int (-126 : Int32)), .val (.int (p4.toInt8.toInt32)), .val (.ref b141), .val (.int (1 : Int32)), .val (.ref b145), .val (.int (p4.toInt8.toInt32))] rfl ?_
              refine Gk.iload X145 hx (hb hby at_346) rfl ?_
              refine Gk.iconst X145 hx (hb hby at_348) (3 : Int32) rfl ?_
              refine Gk.icmpNo X145 hx (hb hby at_349) (flt (by decide : ¬ ((256 : Int32) < (3 : Int32)))).1 ?_
              refine Gk.iload X145 hx (hb hby at_352) rfl ?_
              refine Gk.ifNo X145 hx (hb hby at_354) (feq (by decide : ¬ ((1 : Int32) = (0 : Int32)))).1 ?_
              refine Gk.aload X145 hx (hb hby at_357) rfl rfl ?_
              refine Gk.iconst X145 hx (hb hby at_359) (1 : Int32) rfl ?_
              refine Gk.baloadB X145 hx hZ rfl A145 ⟨by decide, by decide⟩ (.int (0 : Int32)) rfl (hb hby at_360) ?_
              refine Gk.ifNo X145 hx (hb hby at_361) (teq (by decide : (0 : Int32) = (0 : Int32))).2 ?_
              refine Gk.iconst X145 hx (hb hby at_364) (1 : Int32) rfl ?_
              refine Gk.goto X145 hx (hb hby at_365) 369 (by decide) (by decide) ?_
              refine Gk.istore X145 hx (hb hby at_369) #[.val (.int p1), .val (.int p2), .val (.int p3), .val (.int p4), .val (.int tg), .val (.int mm), .val (.int (256 : Int32)), .val (.int (4 : Int32)), .val (.int (260 : Int32)), .val (.ref b132), .val (.int (-126 : Int32)), .val (.int (p4.toInt8.toInt32)), .val (.ref b141), .val (.int (1 : Int32)), .val (.ref b145), .val (.int (p4.toInt8.toInt32))] rfl ?_
              refine Gk.aload X145 hx (hb hby at_371) rfl rfl ?_
              have H150 := (H144.keep K145 nin0)
              have H151 := (Fp141_bytes.keep K145 nin0)
              have H152 := (Fp141_start.keep K145 nin0)
              have H153 := (Fp141_contentStart.keep K145 nin0)
              have H154 := (Fp141_end.keep K145 nin0)
              have H155 := ((((((((B132.wr W133).wr W134).wr W135).wr W136).wr W137).wr W138).keep K141).keep K145)
              have gr156 := (Nat.le_trans (Nat.le_trans gr142 K141.1) K145.1)
              have H157 := (E141_.keep K145)
              refine Gk.callV (argsL := []) X145 hx hZ hown (rm10_5 l Z a0 hw [] b141 b132 k132 (upd (upd (upd (upd (upd (upd (fun _ => (.int (0 : Int32))) 0 (.int (tg.toInt8.toInt32))) 1 (.int (-126 : Int32))) 2 (.int (1 : Int32))) 3 (.int (0 : Int32))) 259 (.int (p4.toInt8.toInt32))) 4 (.int (p3.toInt8.toInt32))) T145.heap n0 (Nat.le_trans Z0 gr156) H150 H151 H152 H153 H154 H155) (hw _ (List.mem_of_getElem? (i := 50) rfl)) (hw _ (List.mem_of_getElem? (i := 51) rfl)) (notFace_of_selects (args := #[]) (mvT hZ (hw _ (List.mem_of_getElem? (i := 53) rfl)))) (hw _ (List.mem_of_getElem? (i := 53) rfl)) (hw _ (List.mem_of_getElem? (i := 52) rfl)) (by decide) (hw _ (List.mem_of_getElem? (i := 54) rfl)) (hw _ (List.mem_of_getElem? (i := 4) rfl)) rfl H157 pd_6 rfl rfl (by decide) (Nat.le_of_ble_eq_true rfl) (by decide) (by decide) (by rw [hml]; rfl)  rfl (hb hby at_373) ?_
              intro T149 L149 v149 X149 hQ149
              obtain ⟨rfl, N149q, K149, k149, A149⟩ := hQ149
              have N149 := Fr.app N145 N149q
              obtain ⟨b149, g149⟩ : ∃ z_, z_ = T145.heap.size := ⟨_, rfl⟩
              rw [← g149] at A149 ⊢
              have g_b149 : n0 ≤ b149 := Nat.le_trans (Nat.le_trans Z0 gr156) (Nat.le_of_eq g149.symm)
              have lt_b149 : b149 < T149.heap.size := A149.lt
              show Go p e below (T149.setTop (mkF m 376 #[.val (.int p1), .val (.int p2), .val (.int p3), .val (.int p4), .val (.int tg), .val (.int mm), .val (.int (256 : Int32)), .val (.int (4 : Int32)), .val (.int (260 : Int32)), .val (.ref b132), .val (.int (-126 : Int32)), .val (.int (p4.toInt8.toInt32)), .val (.ref b141), .val (.int (1 : Int32)), .val (.ref b145), .val (.int (p4.toInt8.toInt32))] [(.ref b149)])) _
              refine Gk.astore X149 hx (hb hby at_376) rfl #[.val (.int p1), .val (.int p2), .val (.int p3), .val (.int p4), .val (.int tg), .val (.int mm), .val (.int (256 : Int32)), .val (.int (4 : Int32)), .val (.int (260 : Int32)), .val (.ref b132), .val (.int (-126 : Int32)), .val (.int (p4.toInt8.toInt32)), .val (.ref b141), .val (.int (1 : Int32)), .val (.ref b145), .val (.ref b149)] rfl ?_
              refine Gk.iload X149 hx (hb hby at_378) rfl ?_
              refine Gk.ifNo X149 hx (hb hby at_380) (feq (by decide : ¬ ((1 : Int32) = (0 : Int32)))).1 ?_
              refine Gk.aload X149 hx (hb hby at_383) rfl rfl ?_
              refine Gk.alen X149 hx hZ rfl A149 (hb hby at_385) ?_
              refine Gk.iload X149 hx (hb hby at_386) rfl ?_
              refine Gk.icmpNo X149 hx (hb hby at_388) (teq (by decide : (260 : Int32) = (260 : Int32))).2 ?_
              refine Gk.aload X149 hx (hb hby at_391) rfl rfl ?_
              refine Gk.iconst X149 hx (hb hby at_393) (0 : Int32) rfl ?_
              refine Gk.baloadB X149 hx hZ rfl A149 ⟨by decide, by decide⟩ (.int (tg.toInt8.toInt32)) rfl (hb hby at_394) ?_
              refine Gk.iload X149 hx (hb hby at_395) rfl ?_
              refine Gk.i2b X149 hx (hb hby at_397) _ rfl ?_
              refine Gk.icmpNo X149 hx (hb hby at_398) (teq (rfl : (tg.toInt8.toInt32) = (tg.toInt8.toInt32))).2 ?_
              refine Gk.aload X149 hx (hb hby at_401) rfl rfl ?_
              refine Gk.iconst X149 hx (hb hby at_403) (1 : Int32) rfl ?_
              refine Gk.baloadB X149 hx hZ rfl A149 ⟨by decide, by decide⟩ (.int (-126 : Int32)) rfl (hb hby at_404) ?_
              refine Gk.iload X149 hx (hb hby at_405) rfl ?_
              refine Gk.icmpNo X149 hx (hb hby at_407) (teq (by decide : (-126 : Int32) = (-126 : Int32))).2 ?_
              refine Gk.aload X149 hx (hb hby at_410) rfl rfl ?_
              refine Gk.iload X149 hx (hb hby at_412) rfl ?_
              refine Gk.iconst X149 hx (hb hby at_414) (1 : Int32) rfl ?_
              refine Gk.isub X149 hx (hb hby at_415) (259 : Int32) (by decide) ?_
              refine Gk.baloadB X149 hx hZ rfl A149 ⟨by decide, by decide⟩ (.int (p4.toInt8.toInt32)) rfl (hb hby at_416) ?_
              refine Gk.iload X149 hx (hb hby at_417) rfl ?_
              refine Gk.icmpNo X149 hx (hb hby at_419) (teq (rfl : (p4.toInt8.toInt32) = (p4.toInt8.toInt32))).2 ?_
              refine Gk.iconst X149 hx (hb hby at_422) (1 : Int32) rfl ?_
              refine Gk.goto X149 hx (hb hby at_423) 427 (by decide) (by decide) ?_
              refine Gk.istore X149 hx (hb hby at_427) #[.val (.int p1), .val (.int p2), .val (.int p3), .val (.int p4), .val (.int tg), .val (.int mm), .val (.int (256 : Int32)), .val (.int (4 : Int32)), .val (.int (260 : Int32)), .val (.ref b132), .val (.int (-126 : Int32)), .val (.int (p4.toInt8.toInt32)), .val (.ref b141), .val (.int (1 : Int32)), .val (.ref b145), .val (.ref b149)] rfl ?_
              refine Gk.iload X149 hx (hb hby at_429) rfl ?_
              refine Go.fin X149 (v := some (.int (1 : Int32))) (fun h_ => by rw [Bd.returns] at h_; cases h_) Bd.notSynchronized (fun _ hr => retN X149 hx (t := .boolean) Bd.returns (by simp) (hb hby at_431) hr) (fun U' hU hF => ⟨_, _, rfl, ?_, hF.1, hF.2.1, hF.2.2.mono (by decide) (by decide)⟩)
              exact ⟨(congrArg (fun z_ : Int32 => some (Value.int z_)) (show (1 : Int32) = (1 : Int32) from rfl)), N149⟩
  refine Gk.iload X0 hx (hb hby at_7) rfl ?_
  refine Gk.bipush X0 hx (hb hby at_9) (31 : Int32) rfl ?_
  refine Gk.iand X0 hx (hb hby at_11) _ rfl ?_
  refine Gk.bipush X0 hx (hb hby at_12) (31 : Int32) rfl ?_
  by_cases hc14 : (t0 &&& (31 : Int32)) = (31 : Int32)
  · refine Gk.icmpNo X0 hx (hb hby at_14) (teq hc14).2 ?_
    refine Gk.iload X0 hx (hb hby at_17) rfl ?_
    refine Gk.iconst X0 hx (hb hby at_19) (1 : Int32) rfl ?_
    refine Gk.ixor X0 hx (hb hby at_20) _ rfl ?_
    refine Gk.istore X0 hx (hb hby at_21) #[.val (.int p1), .val (.int p2), .val (.int p3), .val (.int p4), .val (.int (t0 ^^^ (1 : Int32))), .unset, .unset, .unset, .unset, .unset, .unset, .unset, .unset, .unset, .unset, .unset] rfl ?_
    exact key _ ((own_tagG et0).2 hc14)
  · refine Gk.icmpYes X0 hx (hb hby at_14) (feq hc14).2 23 (by decide) (by decide) ?_
    exact key _ ((own_tagG et0).1 hc14)
set_option maxRecDepth 65536 in
set_option maxHeartbeats 40000000 in
theorem comes_1 {Post : Tables → Env → Array Value → State → Outcome → State → Prop} (hpost : ∀ tb e args s v u, (limb_1_1.after args s (.returned v) u = true ∧ limb_1_2.after args s (.returned v) u = true ∧ True) → FrameEnd s (.returned v) u (Jvm.fieldLocs frame_1_writes args s ++ Jvm.arrayLocs frame_1_arrays args s ++ Jvm.staticLocs frame_1_statics s) 16 1664 → Post tb e args s (.returned v) u) :
    ArmFor flags0 classFile x code maxLocals ret World_1 tables_1 room_1 Calls_1 rest_1 Pre_1 Post := by
  intro l hfl _ _ p e ha hc hk s m args below hf hA hF happ hP
  obtain ⟨hcalls, hrest, hpre⟩ := hP
  obtain ⟨-, -, -, hnamed, -, -, -, hat⟩ := (Spec.applies_iff hf).mp happ
  obtain ⟨hg, hn⟩ := and_e (Cond.before_iff.mp (show (Jvm.Cond.and given_1 narrow_1).before args s = true from hpre))
  obtain ⟨g1, g2⟩ := and_e hg
  obtain ⟨g3, g4⟩ := and_e g2
  obtain ⟨g5, g6⟩ := and_e g4
  obtain ⟨g7, g8⟩ := and_e g6
  obtain ⟨w0, w1, w2, w3, rfl⟩ : ∃ w0 w1 w2 w3 : Value, args = #[w0, w1, w2, w3] := by
    have hs : args.size = 4 := by simpa [Cond.value, given_1] using g1
    obtain ⟨L⟩ := args
    match L, hs with
    | [w0, w1, w2, w3], _ => exact ⟨w0, w1, w2, w3, rfl⟩
  have hw := fun d (hd : d ∈ tables_1) => atoms_spec (ws := Jvm.Cond.code x code maxLocals ret :: tables_1) hat d (List.mem_cons_of_mem _ hd)
  have hfit : Fit s := fun {y c} hc i hi => by
    obtain ⟨ha, rfl⟩ := Array.getElem?_eq_some_iff.mp hc
    have q := List.all_eq_true.mp ((Array.all_eq_true_iff_forall_mem.mp hF) _ (Array.getElem_mem ha)) i (List.mem_range.mpr hi)
    simpa [Array.getElem?_eq_getElem hi] using q
  obtain ⟨i0, ei0⟩ := is_v g3
  obtain rfl : w0 = (.int i0) := Option.some.inj ei0
  obtain ⟨i1, ei1⟩ := is_v g5
  obtain rfl : w1 = (.int i1) := Option.some.inj ei1
  obtain ⟨i2, ei2⟩ := is_v g7
  obtain rfl : w2 = (.int i2) := Option.some.inj ei2
  obtain ⟨i3, ei3⟩ := is_v g8
  obtain rfl : w3 = (.int i3) := Option.some.inj ei3
  obtain ⟨n, o, h1, h2, h3, _, L, rfl, ⟨rfl, N⟩, hq⟩ := rm0 l s _ hw tables_1 i0 i1 i2 i3 s.heap s.heap.size (Nat.le_refl _) p e ha hc hk s m _ below hf ((Spec.applies_iff_loose hf).mp happ).1 ⟨rfl, State.Warmed39.refl s, rfl⟩ trivial
  refine ⟨n, _, h1, h2, h3, hpost _ _ _ _ _ _ ⟨Cond.after_iff.mpr rfl, Cond.after_iff.mpr (eq_i res_at (Term.int_eval (1)) rfl), trivial⟩ ⟨hq.1, hq.2.1, (hq.2.2.sift fun y hy => Or.inr (N y hy)).mono (by decide) (by decide)⟩⟩
theorem main_1_1 : Claimed_1_1 := comes_1 fun _ _ _ _ _ _ h hF => ⟨h.1, hF⟩
theorem main_1_2 : Claimed_1_2 := comes_1 fun _ _ _ _ _ _ h hF => ⟨h.2.1, hF⟩
end Jvm.Pilot.@@N@@
namespace Jvm.Pilot.@@N@@
open Jvm Jvm.ClassFile Sem Op Lib Jvm.Free Jvm.Stand Jvm.Pilot.@@N@@.Jvm.D
/-! MADE BY PROGRAM (witnessworld.py) out of the Statement's table words and the real class files: 12 classes; the members and pool entries that the words name. The judged class is class 1, her method 1. -/
namespace start1
open Jvm.ClassFile
def u (s : String) : CpInfo := .utf8 (stringToUtf16 s)
/-- a pool by its gaps: so many unusable entries, then the entry; so many at the end -/
def gap : Nat → List CpInfo → List CpInfo
  | 0, r => r
  | n + 1, r => .unusable :: gap n r
def poolList (es : List (Nat × CpInfo)) (last : Nat) : List CpInfo := es.foldr (fun e r => gap e.1 (e.2 :: r)) (gap last [])
def pool (es : List (Nat × CpInfo)) (last : Nat) : Array CpInfo := ⟨poolList es last⟩
def fileOf (pool : Array CpInfo) (this : Nat) (attrs : Array Attribute := #[]) (ms : Array MethodInfo := #[]) (fl : Nat := 33) (sup : Nat := 0) (ifs : Array Nat := #[]) (fds : Array FieldInfo := #[]) : ClassFile where
  minorVersion := 0
  majorVersion := 65
  constantPool := pool
  accessFlags := fl
  thisClass := this
  superClass := sup
  interfaces := ifs
  fields := fds
  methods := ms
  attributes := attrs
def plain (name : String) (sup : Option ClassId) : Class where
  name := name
  kind := .ordinary
  loader := none
  accessFlags := 33
  super := sup
  interfaces := #[]
  cf := none
  fields := #[]
  methods := #[]
  instanceTypes := #[]
  staticTypes := #[]
  resolved := #[]
  callSites := []
  init := .initialized
  statics := none
  mirror := none

def pool0 : Array CpInfo := pool [(5, u "<init>"), (0, u "()V"), (1, .class_ 10), (1, u "java/lang/Object"), (85, u "clone"), (0, u "()Ljava/lang/Object;")] 26

def k0c0 : Code := { maxStack := 0, maxLocals := 1, code := object_method_1_code, exceptionTable := #[], attributes := #[] }
def k0m0 : Method := { name := "<init>", desc := "()V", sig := { parameters := [], returnType := none }, accessFlags := 1, code := some k0c0 }
def k0m1 : Method := { name := "clone", desc := "()Ljava/lang/Object;", sig := { parameters := [], returnType := some (.object "java/lang/Object") }, accessFlags := 260, code := none }
/-- java/lang/Object -/
def k0 : Class := { plain "java/lang/Object" none with
  accessFlags := 33
  interfaces := #[]
  cf := some (fileOf pool0 8 #[] #[{ accessFlags := 1, nameIndex := 5, descriptorIndex := 6, attributes := #[] }, { accessFlags := 260, nameIndex := 96, descriptorIndex := 97, attributes := #[] }] 33 0 #[] #[])
  fields := #[]
  methods := #[k0m0, k0m1]
  instanceTypes := #[]
  staticTypes := #[]
  resolved := Array.replicate 124 none
  statics := none }

def pool1 : Array CpInfo := pool [(2, .class_ 4), (1, u "java/lang/Object"), (0, u "<init>"), (0, u "()V"), (0, .integer 2147483647), (0, .methodref 9 10), (0, .class_ 11), (0, .nameAndType 12 13), (0, u "com/example/mooring/mooring/Der"), (0, u "parse"), (0, u "([B)Lcom/example/mooring/mooring/Der;"), (0, .methodref 9 15), (0, .nameAndType 16 17), (0, u "tag"), (0, u "()I"), (0, .methodref 9 19), (0, .nameAndType 20 21), (0, u "content"), (0, u "()[B"), (0, .methodref 9 23), (0, .nameAndType 24 21), (0, u "encoded"), (0, .class_ 26), (0, u "com/example/mooring/mooring/DerParsePinLaw"), (2, u "law"), (0, u "(IIII)Z")] 5

def k1m0 : Method := { name := "<init>", desc := "()V", sig := { parameters := [], returnType := none }, accessFlags := 1, code := none }
def k1c1 : Code := { maxStack := 4, maxLocals := 16, code := code, exceptionTable := #[], attributes := #[] }
def k1m1 : Method := { name := "law", desc := "(IIII)Z", sig := { parameters := [.int, .int, .int, .int], returnType := some .boolean }, accessFlags := 9, code := some k1c1 }
/-- com/example/mooring/mooring/DerParsePinLaw -/
def k1 : Class := { plain "com/example/mooring/mooring/DerParsePinLaw" (some 0) with
  accessFlags := 49
  interfaces := #[]
  cf := some (fileOf pool1 25 #[] #[{ accessFlags := 1, nameIndex := 5, descriptorIndex := 6, attributes := #[] }, { accessFlags := 9, nameIndex := 29, descriptorIndex := 30, attributes := #[] }] 49 2 #[] #[])
  fields := #[]
  methods := #[k1m0, k1m1]
  instanceTypes := #[]
  staticTypes := #[]
  resolved := Array.replicate 36 none
  statics := none }

def pool2 : Array CpInfo := pool [(1, .methodref 2 3), (0, .class_ 4), (0, .nameAndType 5 6), (0, u "java/lang/Object"), (0, u "<init>"), (0, u "()V"), (7, .class_ 15), (0, u "com/example/mooring/mooring/Der"), (8, .fieldref 14 25), (0, .nameAndType 26 27), (0, u "bytes"), (0, u "[B"), (0, .fieldref 14 29), (0, .nameAndType 30 31), (0, u "start"), (0, u "I"), (0, .fieldref 14 33), (0, .nameAndType 34 31), (0, u "contentStart"), (0, .fieldref 14 36), (0, .nameAndType 37 31), (0, u "end"), (2, .methodref 14 41), (0, .nameAndType 5 42), (0, u "([BII)V"), (2, .methodref 46 47), (0, .class_ 48), (0, .nameAndType 49 50), (0, u "java/util/Arrays"), (0, u "copyOfRange"), (0, u "([BII)[B"), (9, u "INTEGER"), (2, u "BIT_STRING"), (1, u "OCTET_STRING"), (1, u "NULL"), (1, u "SEQUENCE"), (1, u "OCTET"), (1, u "LONG_LENGTH"), (1, u "TAG_NUMBER"), (1, u "MAX_LENGTH_OCTETS"), (4, u "parse"), (0, u "([B)Lcom/example/mooring/mooring/Der;"), (0, u "tag"), (0, u "()I"), (0, u "content"), (0, u "()[B"), (0, u "encoded")] 6

def k2c0 : Code := { maxStack := 4, maxLocals := 8, code := prog_2_method_1_code, exceptionTable := #[], attributes := #[] }
def k2m0 : Method := { name := "<init>", desc := "([BII)V", sig := { parameters := [(.array .byte), .int, .int], returnType := none }, accessFlags := 2, code := some k2c0 }
def k2c1 : Code := { maxStack := 5, maxLocals := 2, code := prog_2_method_2_code, exceptionTable := #[], attributes := #[] }
def k2m1 : Method := { name := "parse", desc := "([B)Lcom/example/mooring/mooring/Der;", sig := { parameters := [(.array .byte)], returnType := some (.object "com/example/mooring/mooring/Der") }, accessFlags := 9, code := some k2c1 }
def k2c2 : Code := { maxStack := 2, maxLocals := 1, code := prog_2_method_3_code, exceptionTable := #[], attributes := #[] }
def k2m2 : Method := { name := "tag", desc := "()I", sig := { parameters := [], returnType := some .int }, accessFlags := 1, code := some k2c2 }
def k2c3 : Code := { maxStack := 3, maxLocals := 1, code := prog_2_method_4_code, exceptionTable := #[], attributes := #[] }
def k2m3 : Method := { name := "content", desc := "()[B", sig := { parameters := [], returnType := some (.array .byte) }, accessFlags := 1, code := some k2c3 }
def k2c4 : Code := { maxStack := 3, maxLocals := 1, code := prog_2_method_5_code, exceptionTable := #[], attributes := #[] }
def k2m4 : Method := { name := "encoded", desc := "()[B", sig := { parameters := [], returnType := some (.array .byte) }, accessFlags := 1, code := some k2c4 }
/-- com/example/mooring/mooring/Der -/
def k2 : Class := { plain "com/example/mooring/mooring/Der" (some 0) with
  accessFlags := 49
  interfaces := #[]
  cf := some (fileOf pool2 14 #[] #[{ accessFlags := 2, nameIndex := 5, descriptorIndex := 42, attributes := #[] }, { accessFlags := 9, nameIndex := 82, descriptorIndex := 83, attributes := #[] }, { accessFlags := 1, nameIndex := 84, descriptorIndex := 85, attributes := #[] }, { accessFlags := 1, nameIndex := 86, descriptorIndex := 87, attributes := #[] }, { accessFlags := 1, nameIndex := 88, descriptorIndex := 87, attributes := #[] }] 49 2 #[] #[{ accessFlags := 25, nameIndex := 60, descriptorIndex := 31, attributes := #[] }, { accessFlags := 25, nameIndex := 63, descriptorIndex := 31, attributes := #[] }, { accessFlags := 25, nameIndex := 65, descriptorIndex := 31, attributes := #[] }, { accessFlags := 25, nameIndex := 67, descriptorIndex := 31, attributes := #[] }, { accessFlags := 25, nameIndex := 69, descriptorIndex := 31, attributes := #[] }, { accessFlags := 26, nameIndex := 71, descriptorIndex := 31, attributes := #[] }, { accessFlags := 26, nameIndex := 73, descriptorIndex := 31, attributes := #[] }, { accessFlags := 26, nameIndex := 75, descriptorIndex := 31, attributes := #[] }, { accessFlags := 26, nameIndex := 77, descriptorIndex := 31, attributes := #[] }, { accessFlags := 18, nameIndex := 26, descriptorIndex := 27, attributes := #[] }, { accessFlags := 18, nameIndex := 30, descriptorIndex := 31, attributes := #[] }, { accessFlags := 18, nameIndex := 34, descriptorIndex := 31, attributes := #[] }, { accessFlags := 18, nameIndex := 37, descriptorIndex := 31, attributes := #[] }])
  fields := #[{ name := "INTEGER", type := .int, accessFlags := 25, slot := 0, constantValue := 0 }, { name := "BIT_STRING", type := .int, accessFlags := 25, slot := 1, constantValue := 0 }, { name := "OCTET_STRING", type := .int, accessFlags := 25, slot := 2, constantValue := 0 }, { name := "NULL", type := .int, accessFlags := 25, slot := 3, constantValue := 0 }, { name := "SEQUENCE", type := .int, accessFlags := 25, slot := 4, constantValue := 0 }, { name := "OCTET", type := .int, accessFlags := 26, slot := 5, constantValue := 0 }, { name := "LONG_LENGTH", type := .int, accessFlags := 26, slot := 6, constantValue := 0 }, { name := "TAG_NUMBER", type := .int, accessFlags := 26, slot := 7, constantValue := 0 }, { name := "MAX_LENGTH_OCTETS", type := .int, accessFlags := 26, slot := 8, constantValue := 0 }, { name := "bytes", type := (.array .byte), accessFlags := 18, slot := 0, constantValue := 0 }, { name := "start", type := .int, accessFlags := 18, slot := 1, constantValue := 0 }, { name := "contentStart", type := .int, accessFlags := 18, slot := 2, constantValue := 0 }, { name := "end", type := .int, accessFlags := 18, slot := 3, constantValue := 0 }]
  methods := #[k2m0, k2m1, k2m2, k2m3, k2m4]
  instanceTypes := #[(.array .byte), .int, .int, .int]
  staticTypes := #[.int, .int, .int, .int, .int, .int, .int, .int, .int]
  resolved := Array.replicate 95 none
  statics := none }

def pool3 : Array CpInfo := pool [(2, .class_ 4), (1, u "java/lang/Object"), (0, u "<init>"), (0, u "()V"), (7, .class_ 16), (1, u "java/util/Arrays"), (57, .class_ 76), (1, u "java/util/Arrays$NaturalOrder"), (32, u "()Ljava/lang/Object;"), (3, .class_ 115), (1, u "java/util/Arrays$LegacyMergeSort"), (1, u "Z"), (10, .nameAndType 129 109), (0, u "clone"), (9, u "copyOfRange"), (10, .methodref 151 152), (0, .class_ 153), (0, .nameAndType 154 155), (0, u "java/lang/System"), (0, u "arraycopy"), (0, u "(Ljava/lang/Object;ILjava/lang/Object;II)V"), (148, .methodref 305 306), (0, .class_ 307), (0, .nameAndType 308 309), (0, u "java/lang/Math"), (0, u "min"), (0, u "(II)I"), (0, .methodref 311 128), (0, .class_ 312), (0, u "[B"), (26, .methodref 14 340), (0, .nameAndType 341 342), (0, u "copyOfRangeByte"), (0, u "([BII)[B"), (0, .methodref 14 344), (0, .nameAndType 345 346), (0, u "checkLength"), (0, u "(II)V"), (28, .class_ 376), (0, u "java/util/Arrays$ArrayList"), (68, u "$assertionsDisabled"), (269, u "MIN_ARRAY_SORT_GRAN"), (0, u "I"), (2, u "INSERTIONSORT_THRESHOLD"), (255, .class_ 976), (0, u "java/util/Arrays$ArrayItr")] 52

def k3m0 : Method := { name := "<init>", desc := "()V", sig := { parameters := [], returnType := none }, accessFlags := 2, code := none }
def k3c1 : Code := { maxStack := 4, maxLocals := 2, code := jdk_65_method_131_code, exceptionTable := #[], attributes := #[] }
def k3m1 : Method := { name := "checkLength", desc := "(II)V", sig := { parameters := [.int, .int], returnType := none }, accessFlags := 10, code := some k3c1 }
def k3c2 : Code := { maxStack := 3, maxLocals := 3, code := jdk_65_method_132_code, exceptionTable := #[], attributes := #[] }
def k3m2 : Method := { name := "copyOfRange", desc := "([BII)[B", sig := { parameters := [(.array .byte), .int, .int], returnType := some (.array .byte) }, accessFlags := 9, code := some k3c2 }
def k3c3 : Code := { maxStack := 6, maxLocals := 5, code := jdk_65_method_133_code, exceptionTable := #[], attributes := #[] }
def k3m3 : Method := { name := "copyOfRangeByte", desc := "([BII)[B", sig := { parameters := [(.array .byte), .int, .int], returnType := some (.array .byte) }, accessFlags := 10, code := some k3c3 }
/-- java/util/Arrays -/
def k3 : Class := { plain "java/util/Arrays" (some 0) with
  accessFlags := 49
  interfaces := #[]
  cf := some (fileOf pool3 14 #[.nestMembers #[975, 375, 113, 74]] #[{ accessFlags := 2, nameIndex := 5, descriptorIndex := 6, attributes := #[] }, { accessFlags := 10, nameIndex := 345, descriptorIndex := 346, attributes := #[] }, { accessFlags := 9, nameIndex := 139, descriptorIndex := 342, attributes := #[] }, { accessFlags := 10, nameIndex := 341, descriptorIndex := 342, attributes := #[] }] 49 2 #[] #[{ accessFlags := 26, nameIndex := 715, descriptorIndex := 716, attributes := #[] }, { accessFlags := 26, nameIndex := 719, descriptorIndex := 716, attributes := #[] }, { accessFlags := 4120, nameIndex := 445, descriptorIndex := 117, attributes := #[] }])
  fields := #[{ name := "MIN_ARRAY_SORT_GRAN", type := .int, accessFlags := 26, slot := 0, constantValue := 0 }, { name := "INSERTIONSORT_THRESHOLD", type := .int, accessFlags := 26, slot := 1, constantValue := 0 }, { name := "$assertionsDisabled", type := .boolean, accessFlags := 4120, slot := 2, constantValue := 0 }]
  methods := #[k3m0, k3m1, k3m2, k3m3]
  instanceTypes := #[]
  staticTypes := #[.int, .int, .boolean]
  resolved := Array.replicate 1029 none
  statics := none }

def pool4 : Array CpInfo := pool [(1, .class_ 2), (0, u "java/lang/Math"), (1, .class_ 6), (1, u "java/lang/Object"), (0, u "<init>"), (0, u "()V"), (89, .class_ 100), (1, u "java/lang/Math$RandomNumberGeneratorHolder"), (71, u "negativeZeroFloatBits"), (0, u "J"), (2, u "negativeZeroDoubleBits"), (24, u "min"), (43, u "$assertionsDisabled"), (0, u "Z"), (88, u "(II)I"), (2, u "twoToTheDoubleScaleDown"), (0, u "D"), (4, u "twoToTheDoubleScaleUp"), (9, u "E"), (3, u "PI"), (2, u "TAU"), (2, u "DEGREES_TO_RADIANS"), (0, u "RADIANS_TO_DEGREES")] 94

def k4m0 : Method := { name := "<init>", desc := "()V", sig := { parameters := [], returnType := none }, accessFlags := 2, code := none }
def k4c1 : Code := { maxStack := 2, maxLocals := 2, code := jdk_29_method_69_code, exceptionTable := #[], attributes := #[] }
def k4m1 : Method := { name := "min", desc := "(II)I", sig := { parameters := [.int, .int], returnType := some .int }, accessFlags := 9, code := some k4c1 }
/-- java/lang/Math -/
def k4 : Class := { plain "java/lang/Math" (some 0) with
  accessFlags := 49
  interfaces := #[]
  cf := some (fileOf pool4 1 #[.nestMembers #[98]] #[{ accessFlags := 2, nameIndex := 7, descriptorIndex := 8, attributes := #[] }, { accessFlags := 9, nameIndex := 201, descriptorIndex := 335, attributes := #[] }] 49 4 #[] #[{ accessFlags := 25, nameIndex := 354, descriptorIndex := 339, attributes := #[] }, { accessFlags := 25, nameIndex := 358, descriptorIndex := 339, attributes := #[] }, { accessFlags := 25, nameIndex := 361, descriptorIndex := 339, attributes := #[] }, { accessFlags := 26, nameIndex := 364, descriptorIndex := 339, attributes := #[] }, { accessFlags := 26, nameIndex := 365, descriptorIndex := 339, attributes := #[] }, { accessFlags := 26, nameIndex := 172, descriptorIndex := 173, attributes := #[] }, { accessFlags := 26, nameIndex := 176, descriptorIndex := 173, attributes := #[] }, { accessFlags := 8, nameIndex := 344, descriptorIndex := 339, attributes := #[] }, { accessFlags := 8, nameIndex := 338, descriptorIndex := 339, attributes := #[] }, { accessFlags := 4120, nameIndex := 245, descriptorIndex := 246, attributes := #[] }])
  fields := #[{ name := "E", type := .double, accessFlags := 25, slot := 0, constantValue := 0 }, { name := "PI", type := .double, accessFlags := 25, slot := 1, constantValue := 0 }, { name := "TAU", type := .double, accessFlags := 25, slot := 2, constantValue := 0 }, { name := "DEGREES_TO_RADIANS", type := .double, accessFlags := 26, slot := 3, constantValue := 0 }, { name := "RADIANS_TO_DEGREES", type := .double, accessFlags := 26, slot := 4, constantValue := 0 }, { name := "negativeZeroFloatBits", type := .long, accessFlags := 26, slot := 5, constantValue := 0 }, { name := "negativeZeroDoubleBits", type := .long, accessFlags := 26, slot := 6, constantValue := 0 }, { name := "twoToTheDoubleScaleUp", type := .double, accessFlags := 8, slot := 7, constantValue := 0 }, { name := "twoToTheDoubleScaleDown", type := .double, accessFlags := 8, slot := 8, constantValue := 0 }, { name := "$assertionsDisabled", type := .boolean, accessFlags := 4120, slot := 9, constantValue := 0 }]
  methods := #[k4m0, k4m1]
  instanceTypes := #[]
  staticTypes := #[.double, .double, .double, .double, .double, .long, .long, .double, .double, .boolean]
  resolved := Array.replicate 460 none
  statics := none }

def pool5 : Array CpInfo := pool [(2, .class_ 4), (1, u "java/lang/Object"), (0, u "<init>"), (0, u "()V"), (1, .class_ 10), (1, u "java/lang/System"), (0, u "allowSecurityManager"), (0, u "I"), (16, u "cons"), (0, u "Ljava/io/Console;"), (77, .class_ 110), (1, u "java/lang/System$CallersHolder"), (43, u "initialErrStream"), (0, u "Ljava/io/PrintStream;"), (19, u "security"), (0, u "Ljava/lang/SecurityManager;"), (31, .class_ 209), (0, u "java/lang/System$1"), (7, u "props"), (0, u "Ljava/util/Properties;"), (2, u "lineSeparator"), (0, u "Ljava/lang/String;"), (96, .class_ 321), (1, u "java/lang/System$LoggerFinder"), (5, .class_ 328), (0, u "java/lang/System$Logger"), (67, u "err"), (2, u "out"), (91, u "notSupportedJnuEncoding"), (15, u "in"), (17, u "initialIn"), (0, u "Ljava/io/InputStream;"), (35, u "bootLayer"), (0, u "Ljava/lang/ModuleLayer;"), (99, .class_ 664), (0, u "java/lang/System$2"), (9, u "NEVER"), (2, u "MAYBE"), (49, u "arraycopy"), (0, u "(Ljava/lang/Object;ILjava/lang/Object;II)V"), (72, .class_ 802), (0, u "java/lang/System$Logger$Level")] 31

def k5m0 : Method := { name := "<init>", desc := "()V", sig := { parameters := [], returnType := none }, accessFlags := 2, code := none }
def k5m1 : Method := { name := "arraycopy", desc := "(Ljava/lang/Object;ILjava/lang/Object;II)V", sig := { parameters := [(.object "java/lang/Object"), .int, (.object "java/lang/Object"), .int, .int], returnType := none }, accessFlags := 265, code := none }
/-- java/lang/System -/
def k5 : Class := { plain "java/lang/System" (some 0) with
  accessFlags := 49
  interfaces := #[]
  cf := some (fileOf pool5 8 #[.nestMembers #[319, 327, 801, 108, 663, 208]] #[{ accessFlags := 2, nameIndex := 5, descriptorIndex := 6, attributes := #[] }, { accessFlags := 265, nameIndex := 727, descriptorIndex := 728, attributes := #[] }] 49 2 #[] #[{ accessFlags := 25, nameIndex := 507, descriptorIndex := 526, attributes := #[] }, { accessFlags := 25, nameIndex := 399, descriptorIndex := 155, attributes := #[] }, { accessFlags := 25, nameIndex := 396, descriptorIndex := 155, attributes := #[] }, { accessFlags := 10, nameIndex := 525, descriptorIndex := 526, attributes := #[] }, { accessFlags := 26, nameIndex := 674, descriptorIndex := 12, attributes := #[] }, { accessFlags := 26, nameIndex := 677, descriptorIndex := 12, attributes := #[] }, { accessFlags := 10, nameIndex := 11, descriptorIndex := 12, attributes := #[] }, { accessFlags := 74, nameIndex := 175, descriptorIndex := 176, attributes := #[] }, { accessFlags := 10, nameIndex := 491, descriptorIndex := 222, attributes := #[] }, { accessFlags := 74, nameIndex := 29, descriptorIndex := 30, attributes := #[] }, { accessFlags := 74, nameIndex := 154, descriptorIndex := 155, attributes := #[] }, { accessFlags := 10, nameIndex := 217, descriptorIndex := 218, attributes := #[] }, { accessFlags := 10, nameIndex := 221, descriptorIndex := 222, attributes := #[] }, { accessFlags := 8, nameIndex := 562, descriptorIndex := 563, attributes := #[] }])
  fields := #[{ name := "in", type := (.object "java/io/InputStream"), accessFlags := 25, slot := 0, constantValue := 0 }, { name := "out", type := (.object "java/io/PrintStream"), accessFlags := 25, slot := 1, constantValue := 0 }, { name := "err", type := (.object "java/io/PrintStream"), accessFlags := 25, slot := 2, constantValue := 0 }, { name := "initialIn", type := (.object "java/io/InputStream"), accessFlags := 10, slot := 3, constantValue := 0 }, { name := "NEVER", type := .int, accessFlags := 26, slot := 4, constantValue := 0 }, { name := "MAYBE", type := .int, accessFlags := 26, slot := 5, constantValue := 0 }, { name := "allowSecurityManager", type := .int, accessFlags := 10, slot := 6, constantValue := 0 }, { name := "security", type := (.object "java/lang/SecurityManager"), accessFlags := 74, slot := 7, constantValue := 0 }, { name := "notSupportedJnuEncoding", type := (.object "java/lang/String"), accessFlags := 10, slot := 8, constantValue := 0 }, { name := "cons", type := (.object "java/io/Console"), accessFlags := 74, slot := 9, constantValue := 0 }, { name := "initialErrStream", type := (.object "java/io/PrintStream"), accessFlags := 74, slot := 10, constantValue := 0 }, { name := "props", type := (.object "java/util/Properties"), accessFlags := 10, slot := 11, constantValue := 0 }, { name := "lineSeparator", type := (.object "java/lang/String"), accessFlags := 10, slot := 12, constantValue := 0 }, { name := "bootLayer", type := (.object "java/lang/ModuleLayer"), accessFlags := 8, slot := 13, constantValue := 0 }]
  methods := #[k5m0, k5m1]
  instanceTypes := #[]
  staticTypes := #[(.object "java/io/InputStream"), (.object "java/io/PrintStream"), (.object "java/io/PrintStream"), (.object "java/io/InputStream"), .int, .int, .int, (.object "java/lang/SecurityManager"), (.object "java/lang/String"), (.object "java/io/Console"), (.object "java/io/PrintStream"), (.object "java/util/Properties"), (.object "java/lang/String"), (.object "java/lang/ModuleLayer")]
  resolved := Array.replicate 834 none
  statics := none }

def pool6 : Array CpInfo := pool [(1, .class_ 2), (0, u "java/lang/Cloneable"), (0, .class_ 4), (0, u "java/lang/Object")] 2

/-- java/lang/Cloneable -/
def k6 : Class := { plain "java/lang/Cloneable" (some 0) with
  accessFlags := 1537
  interfaces := #[]
  cf := some (fileOf pool6 1 #[] #[] 1537 3 #[] #[])
  fields := #[]
  methods := #[]
  instanceTypes := #[]
  staticTypes := #[]
  resolved := Array.replicate 7 none
  statics := none }

def pool7 : Array CpInfo := pool [(1, u "java/io/Serializable"), (0, .class_ 1), (0, u "java/lang/Object"), (0, .class_ 3)] 3

/-- java/io/Serializable -/
def k7 : Class := { plain "java/io/Serializable" (some 0) with
  accessFlags := 1537
  interfaces := #[]
  cf := some (fileOf pool7 2 #[] #[] 1537 4 #[] #[])
  fields := #[]
  methods := #[]
  instanceTypes := #[]
  staticTypes := #[]
  resolved := Array.replicate 8 none
  statics := none }

/-- the primitive byte -/
def k8 : Class := { plain "byte" none with kind := .primitive 'B', accessFlags := 0x411 }
/-- [B -/
def k9 : Class := { plain "[B" (some 0) with kind := .array 8 .byte, interfaces := #[6, 7], accessFlags := 1041 }

/-- the primitive int -/
def k10 : Class := { plain "int" none with kind := .primitive 'I', accessFlags := 0x411 }
/-- [I -/
def k11 : Class := { plain "[I" (some 0) with kind := .array 10 .int, interfaces := #[6, 7], accessFlags := 1041 }

def heap : Heap := #[]
def classes : Array Class := #[k0, k1, k2, k3, k4, k5, k6, k7, k8, k9, k10, k11]
def interned : List (Array UInt16 × Addr) := []
def slotsUsed : Nat := 0
def theMethod : MethodId := ⟨1, 1⟩
def args0 : Array Value := #[.int 5, .int 1, .int 2, .int 3]
def aboutOver (below : List Frame) : State where
  vm := { classes := classes, interned := interned.toArray }
  heap := heap
  slotsUsed := slotsUsed
  threads := #[{ frames := .invoking theMethod args0 :: below }]
def below0 : List Frame := [.native { method := ⟨0, 0⟩, args := #[] }]
def about1 : State := aboutOver below0
def p0 : Program := .bare "" "" ""
def e0 : Env := launch0.env 0 0 0
theorem w_frames : about1.frames = Frame.invoking theMethod args0 :: below0 := rfl
set_option maxRecDepth 65536 in
theorem w_args : argsFit about1.vm theMethod args0 = true := by decide +kernel
set_option maxRecDepth 65536 in
theorem w_heap : heapFits about1 = true := by decide +kernel
set_option maxRecDepth 65536 in
theorem w_runnable : about1.curStatus? = some .runnable := by decide +kernel
set_option maxRecDepth 65536 in
theorem w_alone : about1.alone = true := by decide +kernel
set_option maxRecDepth 65536 in
theorem w_named : about1.methodNamed? x = some theMethod := by decide +kernel
set_option maxRecDepth 65536 in
theorem w_hears : about1.hears theMethod below0 = true := by decide +kernel
set_option maxRecDepth 65536 in
theorem w_ripe : about1.ripe theMethod args0 below0 = true := by decide +kernel
theorem w_running : about1.status = .running := rfl
set_option maxRecDepth 65536 in
theorem w_room : about1.hasRoom e0.platform room_1 = true :=
  launch0.hasRoom_least _ room_1 (by decide +kernel) (by decide +kernel) (by decide +kernel) (by decide +kernel) (by decide +kernel) (by decide +kernel)
theorem allAtoms_all (ts : List Jvm.Cond) (a : Array Jvm.Value) (st : Jvm.State) : (allAtoms ts).before a st = ts.all (fun c => c.before a st) := by
  induction ts with
  | nil => rfl
  | cons c t ih =>
    show (Jvm.Cond.and c (allAtoms t)).before a st = _
    rw [Jvm.Cond.before_and, ih, List.all_cons]
def words1 : List Jvm.Cond := Jvm.Cond.code x code maxLocals ret :: tables_1
/-- a 'code' word, met by the world's own term for the bytes: nothing is compared byte by byte -/
theorem code_word {y : MethodName} {bytes : ByteArray} {mx : Nat} {rt : Option FieldType} {a : Array Value} {s : State} {m : MethodId} {meth : Method} {c : Code} (h1 : s.methodNamed? y = some m) (h2 : s.vm.method? m = some meth) (h3 : meth.code = some c) (h4 : c.code = bytes)
    (h5 : (c.maxLocals == mx && c.exceptionTable.isEmpty && decide (c.maxStack ≤ mostOperands) && decide (meth.sig.returnType = rt) && !meth.locks && decide (parseMethodDescriptor y.desc = some meth.sig)) = true) : (Jvm.Cond.code y bytes mx rt).before a s = true := by
  simp only [Bool.and_eq_true, beq_iff_eq, Bool.not_eq_true', decide_eq_true_eq] at h5
  obtain ⟨⟨⟨⟨⟨g1, g2⟩, g3⟩, g4⟩, g5⟩, g6⟩ := h5
  simp [Cond.before, Cond.holds, Cond.value, h1, h2, h3, h4, g1, g2, g3, g4, g5, g6]
def isCode : Jvm.Cond → Bool
  | .code _ _ _ _ => true
  | _ => false
theorem all_split {L : List Jvm.Cond} {P : Jvm.Cond → Bool} (h1 : L.all (fun c => isCode c || P c) = true) (h2 : ∀ c ∈ L.filter isCode, P c = true) : L.all P = true := by
  refine List.all_eq_true.mpr fun c hc => ?_
  have h := List.all_eq_true.mp h1 c hc
  rcases Bool.eq_false_or_eq_true (isCode c) with hi | hi
  · exact h2 c (List.mem_filter.mpr ⟨hc, hi⟩)
  · simpa [hi] using h
set_option maxRecDepth 65536 in
theorem w_c0 : (Jvm.Cond.code x code maxLocals ret).before args0 about1 = true := code_word (m := ⟨1, 1⟩) (meth := k1m1) (c := k1c1) (by decide +kernel) rfl rfl rfl (by decide +kernel)
set_option maxRecDepth 65536 in
theorem w_c1 : (Jvm.Cond.code ({ cls := "com/example/mooring/mooring/Der", name := "parse", desc := "([B)Lcom/example/mooring/mooring/Der;" } : Jvm.MethodName) prog_2_method_2_code (2 : Nat) (Option.some (Jvm.ClassFile.FieldType.object "com/example/mooring/mooring/Der"))).before args0 about1 = true := code_word (m := ⟨2, 1⟩) (meth := k2m1) (c := k2c1) (by decide +kernel) rfl rfl rfl (by decide +kernel)
set_option maxRecDepth 65536 in
theorem w_c2 : (Jvm.Cond.code ({ cls := "com/example/mooring/mooring/Der", name := "<init>", desc := "([BII)V" } : Jvm.MethodName) prog_2_method_1_code (8 : Nat) (Option.none : Option Jvm.ClassFile.FieldType)).before args0 about1 = true := code_word (m := ⟨2, 0⟩) (meth := k2m0) (c := k2c0) (by decide +kernel) rfl rfl rfl (by decide +kernel)
set_option maxRecDepth 65536 in
theorem w_c3 : (Jvm.Cond.code ({ cls := "java/lang/Object", name := "<init>", desc := "()V" } : Jvm.MethodName) object_method_1_code (1 : Nat) (Option.none : Option Jvm.ClassFile.FieldType)).before args0 about1 = true := code_word (m := ⟨0, 0⟩) (meth := k0m0) (c := k0c0) (by decide +kernel) rfl rfl rfl (by decide +kernel)
set_option maxRecDepth 65536 in
theorem w_c4 : (Jvm.Cond.code ({ cls := "com/example/mooring/mooring/Der", name := "tag", desc := "()I" } : Jvm.MethodName) prog_2_method_3_code (1 : Nat) (Option.some Jvm.ClassFile.FieldType.int)).before args0 about1 = true := code_word (m := ⟨2, 2⟩) (meth := k2m2) (c := k2c2) (by decide +kernel) rfl rfl rfl (by decide +kernel)
set_option maxRecDepth 65536 in
theorem w_c5 : (Jvm.Cond.code ({ cls := "com/example/mooring/mooring/Der", name := "content", desc := "()[B" } : Jvm.MethodName) prog_2_method_4_code (1 : Nat) (Option.some (Jvm.ClassFile.FieldType.array Jvm.ClassFile.FieldType.byte))).before args0 about1 = true := code_word (m := ⟨2, 3⟩) (meth := k2m3) (c := k2c3) (by decide +kernel) rfl rfl rfl (by decide +kernel)
set_option maxRecDepth 65536 in
theorem w_c6 : (Jvm.Cond.code ({ cls := "java/util/Arrays", name := "copyOfRange", desc := "([BII)[B" } : Jvm.MethodName) jdk_65_method_132_code (3 : Nat) (Option.some (Jvm.ClassFile.FieldType.array Jvm.ClassFile.FieldType.byte))).before args0 about1 = true := code_word (m := ⟨3, 2⟩) (meth := k3m2) (c := k3c2) (by decide +kernel) rfl rfl rfl (by decide +kernel)
set_option maxRecDepth 65536 in
theorem w_c7 : (Jvm.Cond.code ({ cls := "java/util/Arrays", name := "copyOfRangeByte", desc := "([BII)[B" } : Jvm.MethodName) jdk_65_method_133_code (5 : Nat) (Option.some (Jvm.ClassFile.FieldType.array Jvm.ClassFile.FieldType.byte))).before args0 about1 = true := code_word (m := ⟨3, 3⟩) (meth := k3m3) (c := k3c3) (by decide +kernel) rfl rfl rfl (by decide +kernel)
set_option maxRecDepth 65536 in
theorem w_c8 : (Jvm.Cond.code ({ cls := "java/util/Arrays", name := "checkLength", desc := "(II)V" } : Jvm.MethodName) jdk_65_method_131_code (2 : Nat) (Option.none : Option Jvm.ClassFile.FieldType)).before args0 about1 = true := code_word (m := ⟨3, 1⟩) (meth := k3m1) (c := k3c1) (by decide +kernel) rfl rfl rfl (by decide +kernel)
set_option maxRecDepth 65536 in
theorem w_c9 : (Jvm.Cond.code ({ cls := "java/lang/Math", name := "min", desc := "(II)I" } : Jvm.MethodName) jdk_29_method_69_code (2 : Nat) (Option.some Jvm.ClassFile.FieldType.int)).before args0 about1 = true := code_word (m := ⟨4, 1⟩) (meth := k4m1) (c := k4c1) (by decide +kernel) rfl rfl rfl (by decide +kernel)
set_option maxRecDepth 65536 in
theorem w_c10 : (Jvm.Cond.code ({ cls := "com/example/mooring/mooring/Der", name := "encoded", desc := "()[B" } : Jvm.MethodName) prog_2_method_5_code (1 : Nat) (Option.some (Jvm.ClassFile.FieldType.array Jvm.ClassFile.FieldType.byte))).before args0 about1 = true := code_word (m := ⟨2, 4⟩) (meth := k2m4) (c := k2c4) (by decide +kernel) rfl rfl rfl (by decide +kernel)
def codes1 : List Jvm.Cond := [Jvm.Cond.code x code maxLocals ret, Jvm.Cond.code ({ cls := "com/example/mooring/mooring/Der", name := "parse", desc := "([B)Lcom/example/mooring/mooring/Der;" } : Jvm.MethodName) prog_2_method_2_code (2 : Nat) (Option.some (Jvm.ClassFile.FieldType.object "com/example/mooring/mooring/Der")), Jvm.Cond.code ({ cls := "com/example/mooring/mooring/Der", name := "<init>", desc := "([BII)V" } : Jvm.MethodName) prog_2_method_1_code (8 : Nat) (Option.none : Option Jvm.ClassFile.FieldType), Jvm.Cond.code ({ cls := "java/lang/Object", name := "<init>", desc := "()V" } : Jvm.MethodName) object_method_1_code (1 : Nat) (Option.none : Option Jvm.ClassFile.FieldType), Jvm.Cond.code ({ cls := "com/example/mooring/mooring/Der", name := "tag", desc := "()I" } : Jvm.MethodName) prog_2_method_3_code (1 : Nat) (Option.some Jvm.ClassFile.FieldType.int), Jvm.Cond.code ({ cls := "com/example/mooring/mooring/Der", name := "content", desc := "()[B" } : Jvm.MethodName) prog_2_method_4_code (1 : Nat) (Option.some (Jvm.ClassFile.FieldType.array Jvm.ClassFile.FieldType.byte)), Jvm.Cond.code ({ cls := "java/util/Arrays", name := "copyOfRange", desc := "([BII)[B" } : Jvm.MethodName) jdk_65_method_132_code (3 : Nat) (Option.some (Jvm.ClassFile.FieldType.array Jvm.ClassFile.FieldType.byte)), Jvm.Cond.code ({ cls := "java/util/Arrays", name := "copyOfRangeByte", desc := "([BII)[B" } : Jvm.MethodName) jdk_65_method_133_code (5 : Nat) (Option.some (Jvm.ClassFile.FieldType.array Jvm.ClassFile.FieldType.byte)), Jvm.Cond.code ({ cls := "java/util/Arrays", name := "checkLength", desc := "(II)V" } : Jvm.MethodName) jdk_65_method_131_code (2 : Nat) (Option.none : Option Jvm.ClassFile.FieldType), Jvm.Cond.code ({ cls := "java/lang/Math", name := "min", desc := "(II)I" } : Jvm.MethodName) jdk_29_method_69_code (2 : Nat) (Option.some Jvm.ClassFile.FieldType.int), Jvm.Cond.code ({ cls := "com/example/mooring/mooring/Der", name := "encoded", desc := "()[B" } : Jvm.MethodName) prog_2_method_5_code (1 : Nat) (Option.some (Jvm.ClassFile.FieldType.array Jvm.ClassFile.FieldType.byte))]
set_option maxRecDepth 65536 in
theorem codes_eq : words1.filter isCode = codes1 := rfl
theorem w_codes : ∀ c ∈ words1.filter isCode, c.before args0 about1 = true := by
  rw [codes_eq]
  intro c hc
  simp only [codes1, List.mem_cons, List.not_mem_nil, or_false] at hc
  rcases hc with rfl | rfl | rfl | rfl | rfl | rfl | rfl | rfl | rfl | rfl | rfl
  · exact w_c0
  · exact w_c1
  · exact w_c2
  · exact w_c3
  · exact w_c4
  · exact w_c5
  · exact w_c6
  · exact w_c7
  · exact w_c8
  · exact w_c9
  · exact w_c10
set_option maxRecDepth 65536 in
theorem w_t1 : (words1.take 24).all (fun c => isCode c || c.before args0 about1) = true := by decide +kernel
set_option maxRecDepth 65536 in
theorem w_t2 : ((words1.drop 24).take 24).all (fun c => isCode c || c.before args0 about1) = true := by decide +kernel
set_option maxRecDepth 65536 in
theorem w_t3 : ((words1.drop 24).drop 24).all (fun c => isCode c || c.before args0 about1) = true := by decide +kernel
theorem w_tables : (allAtoms (Jvm.Cond.code x code maxLocals ret :: tables_1)).before args0 about1 = true := by
  rw [allAtoms_all]
  show words1.all (fun c => c.before args0 about1) = true
  refine all_split ?_ w_codes
  rw [← List.take_append_drop 24 words1, List.all_append, w_t1, ← List.take_append_drop 24 (words1.drop 24), List.all_append, w_t2, w_t3]
  rfl
set_option maxRecDepth 65536 in
theorem w_case : (Jvm.Cond.and given_1 narrow_1).before args0 about1 = true := by decide +kernel
theorem w_applies : (headSpec (Jvm.Cond.code x code maxLocals ret :: tables_1) room_1).applies x e0.platform about1 = true :=
  (Spec.applies_iff w_frames).mpr ⟨w_running, w_runnable, w_alone, w_named, w_hears, w_ripe, w_room, w_tables⟩
theorem atStart : AtStart classFile x code maxLocals ret World_1 tables_1 room_1 Calls_1 rest_1 Pre_1 launch0 p0 e0 about1 theMethod args0 below0 :=
  ⟨lists_1, trivial, launch0.admits_env _ _ _, launch0.least_env, fairChoices_fair.cas, fairChoices_fair.clock, w_frames, w_args, w_heap, w_applies, trivial, trivial, w_case⟩
end start1
theorem witness_1 : WitnessClaimed_1 := ⟨start1.p0, start1.e0, start1.about1, start1.theMethod, start1.args0, start1.below0, start1.atStart⟩
end Jvm.Pilot.@@N@@
