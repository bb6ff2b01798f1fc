import JvmDerived
import JvmDerived.Pilot.@@N@@Statement
import JvmDerived.Pilot.@@N@@Code
set_option linter.unusedVariables false
set_option linter.unusedSimpArgs false
@@BLOCK:NumsL.lean.txt@@
namespace Jvm.RoadKit
open Sem ClassFile Op Lib Jvm.Stand Jvm.Free Jvm.LawKit
section Own
variable {p : Program} {l : Launch} {e : Env} {R : Room} {s : State} {m : MethodId} {args : Array Value} {below : List Frame} {meth : Method} {c : Code} {T : State} {locs : List Loc} {cells slots : Nat}
/-- from U the run ends, and P is said of the end -/
def Go (p : Program) (e : Env) (below : List Frame) (U : State) (P : Outcome → State → Prop) : Prop := ∃ s₂ o, Steps p.tables e below U s₂ ∧ s₂.status = .running ∧ Ended s₂ below o ∧ P o s₂
theorem Go.st {U U' : State} {P : Outcome → State → Prop} (k : ∀ t, Steps p.tables e below U' t → Steps p.tables e below U t) (g : Go p e below U' P) : Go p e below U P := by
  obtain ⟨t, o, a, r⟩ := g
  exact ⟨t, o, k t a, r⟩
theorem Go.tr {U U' : State} {P : Outcome → State → Prop} (k : Steps p.tables e below U U') (g : Go p e below U' P) : Go p e below U P := by
  obtain ⟨t, o, a, r⟩ := g
  exact ⟨t, o, k.trans a, r⟩
theorem Go.fin (X : Stand p l e R s m args below meth c T locs cells slots) {v : Option Value} (hv : meth.sig.returnType = none → v = none) (hlocks : meth.locks = false) {U : State} {P : Outcome → State → Prop}
    (st : ∀ fs, (∀ (f : JFrame) (acts : List Action), f.method = m → f.locked = none → f.entered = [] → (doReturn e (T.setTop f) acts v).1 = T.setFrames fs) → Steps p.tables e below U (T.setFrames fs))
    (hP : ∀ U' : State, U'.heap = T.heap → FrameEnd s (.returned v) U' locs cells slots → P (.returned v) U') : Go p e below U P := by
  obtain ⟨fs, hr, hrun, hended, hW, hsame⟩ := X.leave hv hlocks
  exact ⟨_, _, st fs hr, hrun, hended, hP _ rfl ⟨⟨_, rfl⟩, hW, hsame⟩⟩
theorem own_ord {a0 : Array Value} {t : Term} {a : Addr} {C n d : String} {k : Int32} (ev : t.eval a0 s none [] s = some (.ref a)) (h : (Cond.eq (.field t C n d) (.int k)).value a0 s none s [] = some true) : s.fieldOf? a C n d = some (.int k) := by
  have e1 := fld_at (C := C) (n := n) (dd := d) ev
  have e2 : (Term.int k).eval a0 s none [] s = some (.int k) := rfl
  cases hf : s.fieldOf? a C n d with
  | none => rw [hf] at e1; simp [Cond.value, e1] at h
  | some w =>
    rw [hf] at e1
    cases w <;> simp [Cond.value, e1, e2] at h
    rw [h]
theorem own_ne {a b : Addr} {C n d : String} {j k : Int32} (h1 : s.fieldOf? a C n d = some (.int j)) (h2 : s.fieldOf? b C n d = some (.int k)) (hne : j ≠ k) : a ≠ b := fun q => by
  subst q
  rw [h1] at h2
  exact hne (by injection (Option.some.inj h2))
theorem own_lsw {g : JFrame} {target : State} (X : Stand p l e R s m args below meth c T locs cells slots) (hx : p.tables.exec = Jvm.exec) (hg : g.method = m) {dflt : Int} {pairs : Array (Int × Int)} {len : Nat} {pc0 pc' : Nat} (hpc : g.pc = pc0)
    (hd : decode c.code g.pc = .ok (.lookupswitch dflt pairs, len)) {i : Int32} {rest : List Value} (hs : g.stack = .int i :: rest) {o : Int} (ho : lookupswitch.offset pairs.toList dflt i.toInt = o) (hso : ∀ (a b a_1 b_1 : Int), ((a, b), a_1, b_1) ∈ pairs.toList.zip pairs.toList.tail → a < a_1) (h0 : 0 ≤ (pc0 : Int) + o) (hp : ((pc0 : Int) + o).toNat = pc')
    (hr : Steps p.tables e below (T.setTop { g with pc := pc', stack := rest }) target) : Steps p.tables e below (T.setTop g) target := by
  subst hg hpc hp ho
  jvm_step X.here [X.here.top, hx, hd, hs, h0, lookupswitch.wp_chain]
  exact ⟨hso, hr⟩
theorem own_arvlt {Z : State} {h : Heap} {a : Addr} {k : ClassId} {ty : FieldType} {n : Int32} {vs : List Value} {d : Value} (V : Arv Z h a k ty n vs d) : a < h.size := by
  obtain ⟨c, A, -⟩ := V
  exact A.lt
end Own
end Jvm.RoadKit
namespace Jvm.Pilot.@@N@@
open Jvm Jvm.ClassFile Sem Op Lib Jvm.Free Jvm.Stand Jvm.LawKit Jvm.RoadKit Bundle Jvm.Pilot.@@N@@.Jvm.D

section ArfKit
variable {Z : State} {h h' : Heap} {a b : Addr} {k : ClassId} {ty : FieldType} {z : Int32} {f g : Nat → Value} {sl : Nat} {v w dv : Value} {ws : List Addr} {vs : List Value}
def Arf (Z : State) (h : Heap) (a : Addr) (k : ClassId) (ty : FieldType) (n : Int32) (f : Nat → Value) : Prop := ∃ c : Cell, Arr Z h a c ty ∧ c.cls = k ∧ c.slots.size = n.toNatClampNeg ∧ ¬ n < 0 ∧ (∀ i, i < c.slots.size → c.slots[i]? = some (f i)) ∧ ∀ i, i < c.slots.size → fits ty (f i) = true
def upd (f : Nat → Value) (i : Nat) (v : Value) : Nat → Value := fun j => if j = i then v else f j
theorem Arf.lt (F : Arf Z h a k ty z f) : a < h.size := by obtain ⟨c, A, -⟩ := F; exact A.lt
theorem Arf.ext (F : Arf Z h a k ty z f) (E : Ext h h') : Arf Z h' a k ty z f := by obtain ⟨c, A, r⟩ := F; exact ⟨c, A.ext E, r⟩
theorem Arf.other (F : Arf Z h b k ty z f) (W : Wr h h' a sl v) (q : b ≠ a) : Arf Z h' b k ty z f := by obtain ⟨c, A, r⟩ := F; exact ⟨c, A.other W q, r⟩
theorem Arf.keep (F : Arf Z h a k ty z f) (K : Keep h h' ws) (q : a ∉ ws) : Arf Z h' a k ty z f := by obtain ⟨c, A, r⟩ := F; exact ⟨c, ⟨K.2.1 a c A.1 q, A.2⟩, r⟩
theorem Arf.ofArv (F : Arv Z h a k ty z vs dv) (q : ∀ i, i < z.toNatClampNeg → vs.getD i dv = f i) : Arf Z h a k ty z f := by
  obtain ⟨c, A, q1, S, q3, H, G⟩ := F
  exact ⟨c, A, q1, S, q3, fun i hi => by rw [H i hi, q i (by rw [← S]; exact hi)], fun i hi => by rw [← q i (by rw [← S]; exact hi)]; exact G i hi⟩
theorem own_mapD (f : Nat → Value) (dv : Value) (n i : Nat) (hi : i < n) : ((List.range n).map f).getD i dv = f i := by
  simp [List.getD_eq_getElem?_getD, hi]
theorem Arf.arv (F : Arf Z h a k ty z f) (dv : Value) : Arv Z h a k ty z ((List.range z.toNatClampNeg).map f) dv := by
  obtain ⟨c, A, q1, S, q3, H, G⟩ := F
  exact ⟨c, A, q1, S, q3, fun i hi => by rw [H i hi, own_mapD f dv _ i (by rw [← S]; exact hi)], fun i hi => by rw [own_mapD f dv _ i (by rw [← S]; exact hi)]; exact G i hi⟩
theorem Arf.new (A : Arr Z h a (newA k ty z) ty) (q : ¬ z < 0) : Arf Z h a k ty z (fun _ => defaultValue ty) := Arf.ofArv (Arv.new A q) fun i _ => by simp [List.getD_eq_getElem?_getD]
theorem Arf.set {c : Cell} {j : Int32} (A : Arr Z h a c ty) (q1 : c.cls = k) (S : c.slots.size = z.toNatClampNeg) (q3 : ¬ z < 0) (H : ∀ i, i < c.slots.size → c.slots[i]? = some (f i)) (G : ∀ i, i < c.slots.size → fits ty (f i) = true) (hv : fits ty v = true) (W : Wr h h' a j.toNatClampNeg v) (i : Nat) (hj : j.toNatClampNeg = i) (hin : ¬ (j < 0 ∨ c.slots.size ≤ j.toNatClampNeg)) : Arf Z h' a k ty z (upd f i v) := by
  subst hj
  have hlt : j.toNatClampNeg < c.slots.size := Nat.lt_of_not_le fun q => hin (Or.inr q)
  refine ⟨_, A.same W, q1, by rw [sz_set]; exact S, q3, fun x hx => ?_, fun x hx => ?_⟩ <;> rw [sz_set] at hx <;> simp only [upd] <;> split
  · rename_i e
    subst e; simp [Cell.setSlot, hx]
  · rename_i e
    simp only [Cell.setSlot]; rw [Array.getElem?_setIfInBounds_ne (Ne.symm e)]; exact H x hx
  · exact hv
  · exact G x hx
theorem Arf.same (F : Arf Z h a k ty z f) (q : ∀ i, i < z.toNatClampNeg → f i = g i) : Arf Z h a k ty z g := by
  obtain ⟨c, A, q1, S, q3, H, G⟩ := F
  exact ⟨c, A, q1, S, q3, fun i hi => by rw [H i hi, q i (by rw [← S]; exact hi)], fun i hi => by rw [← q i (by rw [← S]; exact hi)]; exact G i hi⟩
/-- arraycopy's list, place by place -/
theorem own_cpD (f g : Nat → Value) (dv dd : Value) (n m sp dp nn : Nat) (h4 : sp + nn ≤ n) (h5 : dp + nn ≤ m) (i : Nat) (hi : i < m) :
    (((List.range m).map g).take dp ++ ((List.range nn).map fun i => ((List.range n).map f).getD (sp + i) dv) ++ ((List.range m).map g).drop (dp + nn)).getD i dd = if dp ≤ i ∧ i < dp + nn then f (sp + (i - dp)) else g i := by
  rw [List.getD_eq_getElem?_getD, List.append_assoc]
  have l1 : (((List.range m).map g).take dp).length = dp := by simp; omega
  have l2 : ((List.range nn).map fun i => ((List.range n).map f).getD (sp + i) dv).length = nn := by simp
  by_cases h1 : i < dp
  · have c : ¬ (dp ≤ i ∧ i < dp + nn) := by omega
    rw [if_neg c, List.getElem?_append_left (by rw [l1]; exact h1), List.getElem?_take]
    simp [h1, hi]
  · rw [List.getElem?_append_right (by rw [l1]; omega), l1]
    by_cases h2 : i < dp + nn
    · have c : dp ≤ i ∧ i < dp + nn := by omega
      rw [if_pos c, List.getElem?_append_left (by rw [l2]; omega)]
      have l : i - dp < nn := by omega
      have l2 : sp + (i - dp) < n := by omega
      simp [List.getD_eq_getElem?_getD, l, l2]
    · have c : ¬ (dp ≤ i ∧ i < dp + nn) := by omega
      rw [if_neg c, List.getElem?_append_right (by rw [l2]; omega), l2, List.getElem?_drop]
      have l : dp + nn + (i - dp - nn) = i := by omega
      rw [l]
      simp [hi]
theorem own_nb (x : Int32) : nar .byte (x.toInt8.toInt32) = x.toInt8.toInt32 := by
  show (x.toInt8.toInt32).toInt8.toInt32 = x.toInt8.toInt32
  simp
end ArfKit
section ArfSteps
variable {p : Program} {l : Launch} {e : Env} {R : Room} {s : State} {m : MethodId} {args : Array Value} {below : List Frame} {meth : Method} {c : Code} {T : State} {locs : List Loc} {cells slots : Nat} {Z : State} {h : Heap} {a b : Addr} {k : ClassId} {ty : FieldType} {z : Int32} {f g0 : Nat → Value}
/-- System.arraycopy of a primitive kind -/
theorem cpF (X : Stand p l e R s m args below meth c T locs cells slots) (hx : p.tables.exec = Jvm.exec) (hZ : Z.Warmed39 s.vm) {a0 : Array Value} {own : String} {index : Nat} (hown : s.vm.findClass own = some m.cls)
    (w1 : (Cond.methodLink own index Jvm.Stand.acN).before a0 Z = true) (w2 : (Cond.native Jvm.Stand.acN).before a0 Z = true) (w3 : (Cond.static Jvm.Stand.acN).before a0 Z = true) (w4 : (Cond.initialized "java/lang/System").before a0 Z = true) (eT : T.heap = h)
    {k' : ClassId} {z' sp dp nn : Int32} (A : Arf Z h a k ty z f) (B : Arf Z h b k' ty z' g0) (hty : refKind ty = false)
    (h1 : ¬ sp < 0) (h2 : ¬ dp < 0) (h3 : ¬ nn < 0) (h4 : sp.toNatClampNeg + nn.toNatClampNeg ≤ z.toNatClampNeg) (h5 : dp.toNatClampNeg + nn.toNatClampNeg ≤ z'.toNatClampNeg)
    {n0 : Nat} (N : Fr n0 locs) (ge : n0 ≤ b)
    {g : JFrame} (hg : g.method = m) (hsize : g.locals.size = c.maxLocals) {rest : List Value} (hs : g.stack = .int nn :: .int dp :: .ref b :: .int sp :: .ref a :: rest) (hd : decode c.code g.pc = .ok (.invokestatic index, 3))
    (hf : 1 ≤ R.frames) {W : Nat} (hW : 2 * g.monitorRoom + (rest.map fun v => v.category).sum ≤ W) (hlo : W + (nativeFrameWords "java/lang/System" "arraycopy" 5 + 11) ≤ R.locals) :
    ∃ T' h' L, Stand p l e R s m args below meth c T' L cells slots ∧ T'.heap = h' ∧ Fr n0 L ∧ Keep h h' [b] ∧ Arf Z h' b k' ty z' (fun i => if dp.toNatClampNeg ≤ i ∧ i < dp.toNatClampNeg + nn.toNatClampNeg then f (sp.toNatClampNeg + (i - dp.toNatClampNeg)) else g0 i) ∧
      ∀ target, Steps p.tables e below (T'.setTop { g with pc := g.pc + 3, stack := rest }) target → Steps p.tables e below (T.setTop g) target := by
  obtain ⟨T', h', L, X', e', N', K', V', st⟩ := cpA X hx hZ hown w1 w2 w3 w4 eT (A.arv .null) (B.arv .null) (Or.inl ⟨rfl, hty⟩) h1 h2 h3 h4 h5 rfl (by simp; omega) N ge hg hsize hs hd hf hW hlo
  exact ⟨T', h', L, X', e', N', K', Arf.ofArv V' fun i hi => own_cpD f g0 .null .null _ _ _ _ _ h4 h5 i hi, st⟩
end ArfSteps

section StxKit
variable {Z : State} {n0 : Nat} {h h' : Heap} {a : Addr} {C n d : String} {v w : Value} {sl : Nat} {ws : List Addr}
/-- a static whose cell is old -/
def Stx (Z : State) (n0 : Nat) (h : Heap) (C n d : String) (v : Value) : Prop := ∃ (cf i : Nat) (k : Class) (f : Field) (st : Addr) (cell : Cell), Z.fieldFound? C n d = some (cf, k, i, f) ∧ f.isStatic = true ∧ k.init = .initialized ∧ k.statics = some st ∧ h[st]? = some cell ∧ cell.vm.isStatics = true ∧ cell.slots[f.slot]? = some v ∧ st < n0
theorem Stx.sta (F : Stx Z n0 h C n d v) : Sta Z h C n d v := by
  obtain ⟨cf, i, k, f, st, cell, h1, h2, h3, h4, h5, h6, h7, -⟩ := F
  exact ⟨cf, i, k, f, st, cell, h1, h2, h3, h4, h5, h6, h7⟩
theorem Stx.start (F : Sta Z h C n d v) (q : h.size ≤ n0) : Stx Z n0 h C n d v := by
  obtain ⟨cf, i, k, f, st, cell, h1, h2, h3, h4, h5, h6, h7⟩ := F
  exact ⟨cf, i, k, f, st, cell, h1, h2, h3, h4, h5, h6, h7, Nat.lt_of_lt_of_le (Array.getElem?_eq_some_iff.mp h5).1 q⟩
theorem Stx.ext (F : Stx Z n0 h C n d v) (E : Ext h h') : Stx Z n0 h' C n d v := by
  obtain ⟨cf, i, k, f, st, cell, h1, h2, h3, h4, h5, r⟩ := F
  exact ⟨cf, i, k, f, st, cell, h1, h2, h3, h4, E.2 _ _ h5, r⟩
theorem Stx.wr (F : Stx Z n0 h C n d v) (W : Wr h h' a sl w) : Stx Z n0 h' C n d v := by
  obtain ⟨cf, i, k, f, st, cell, h1, h2, h3, h4, h5, h6, h7, h8⟩ := F
  obtain ⟨c', e1, -, -, -, e5, -, e7⟩ := wr_at W h5
  have ne : st ≠ a := fun e => by rw [(e7 e).2.2] at h6; cases h6
  exact ⟨cf, i, k, f, st, cell, h1, h2, h3, h4, by rw [← e5 ne]; exact e1, h6, h7, h8⟩
theorem Stx.keep (F : Stx Z n0 h C n d v) (K : Keep h h' ws) (q : ∀ x ∈ ws, n0 ≤ x) : Stx Z n0 h' C n d v := by
  obtain ⟨cf, i, k, f, st, cell, h1, h2, h3, h4, h5, h6, h7, h8⟩ := F
  exact ⟨cf, i, k, f, st, cell, h1, h2, h3, h4, K.2.1 _ _ h5 fun z => absurd h8 (Nat.not_lt.mpr (q _ z)), h6, h7, h8⟩
end StxKit
namespace Gk
section GkKit
variable {p : Program} {l : Launch} {e : Env} {R : Room} {s : State} {m : MethodId} {args : Array Value} {below : List Frame} {meth : Method} {c : Code} {T : State} {locs : List Loc} {cells slots : Nat} {Ls : Array Slot} {S : List Value} {pc : Nat} {P : Outcome → State → Prop} {Z : State} {a0 : Array Value} {h : Heap}
theorem iloadN (X : Stand p l e R s m args below meth c T locs cells slots) (hx : p.tables.exec = Jvm.exec) {k : Fin 4} {v : Int32} (hd : decode c.code pc = .ok (.iload_n k, 1)) (hl : Ls[k.val]? = some (.val (.int v))) (K : Go p e below (T.setTop (mkF m (pc + 1) Ls (.int v :: S))) P) : Go p e below (T.setTop (mkF m pc Ls S)) P := Go.st (fun _ q_ => XS.iloadN X.here hx rfl hd hl q_) K
theorem iload (X : Stand p l e R s m args below meth c T locs cells slots) (hx : p.tables.exec = Jvm.exec) {k : Nat} {v : Int32} (hd : decode c.code pc = .ok (.iload k, 2)) (hl : Ls[k]? = some (.val (.int v))) (K : Go p e below (T.setTop (mkF m (pc + 2) Ls (.int v :: S))) P) : Go p e below (T.setTop (mkF m pc Ls S)) P := Go.st (fun _ q_ => XS.iload X.here hx rfl hd hl q_) K
theorem istoreN (X : Stand p l e R s m args below meth c T locs cells slots) (hx : p.tables.exec = Jvm.exec) {k : Fin 4} {v : Int32} (hd : decode c.code pc = .ok (.istore_n k, 1)) (L' : Array Slot) (hl : storeLocals Ls k.val (.int v) = some L') (K : Go p e below (T.setTop (mkF m (pc + 1) L' S)) P) : Go p e below (T.setTop (mkF m pc Ls (.int v :: S))) P := Go.st (fun _ q_ => XS.istoreN X.here hx rfl hd rfl hl q_) K
theorem istore (X : Stand p l e R s m args below meth c T locs cells slots) (hx : p.tables.exec = Jvm.exec) {k : Nat} {v : Int32} (hd : decode c.code pc = .ok (.istore k, 2)) (L' : Array Slot) (hl : storeLocals Ls k (.int v) = some L') (K : Go p e below (T.setTop (mkF m (pc + 2) L' S)) P) : Go p e below (T.setTop (mkF m pc Ls (.int v :: S))) P := Go.st (fun _ q_ => XS.istore X.here hx rfl hd rfl hl q_) K
theorem lloadN (X : Stand p l e R s m args below meth c T locs cells slots) (hx : p.tables.exec = Jvm.exec) {k : Fin 4} {v : Int64} (hd : decode c.code pc = .ok (.lload_n k, 1)) (hl : Ls[k.val]? = some (.val (.long v))) (K : Go p e below (T.setTop (mkF m (pc + 1) Ls (.long v :: S))) P) : Go p e below (T.setTop (mkF m pc Ls S)) P := Go.st (fun _ q_ => XS.lloadN X.here hx rfl hd hl q_) K
theorem lload (X : Stand p l e R s m args below meth c T locs cells slots) (hx : p.tables.exec = Jvm.exec) {k : Nat} {v : Int64} (hd : decode c.code pc = .ok (.lload k, 2)) (hl : Ls[k]? = some (.val (.long v))) (K : Go p e below (T.setTop (mkF m (pc + 2) Ls (.long v :: S))) P) : Go p e below (T.setTop (mkF m pc Ls S)) P := Go.st (fun _ q_ => XS.lload X.here hx rfl hd hl q_) K
theorem lstoreN (X : Stand p l e R s m args below meth c T locs cells slots) (hx : p.tables.exec = Jvm.exec) {k : Fin 4} {v : Int64} (hd : decode c.code pc = .ok (.lstore_n k, 1)) (L' : Array Slot) (hl : storeLocals Ls k.val (.long v) = some L') (K : Go p e below (T.setTop (mkF m (pc + 1) L' S)) P) : Go p e below (T.setTop (mkF m pc Ls (.long v :: S))) P := Go.st (fun _ q_ => XS.lstoreN X.here hx rfl hd rfl hl q_) K
theorem lstore (X : Stand p l e R s m args below meth c T locs cells slots) (hx : p.tables.exec = Jvm.exec) {k : Nat} {v : Int64} (hd : decode c.code pc = .ok (.lstore k, 2)) (L' : Array Slot) (hl : storeLocals Ls k (.long v) = some L') (K : Go p e below (T.setTop (mkF m (pc + 2) L' S)) P) : Go p e below (T.setTop (mkF m pc Ls (.long v :: S))) P := Go.st (fun _ q_ => XS.lstore X.here hx rfl hd rfl hl q_) K
theorem aloadN (X : Stand p l e R s m args below meth c T locs cells slots) (hx : p.tables.exec = Jvm.exec) {k : Fin 4} {v : Value} (hd : decode c.code pc = .ok (.aload_n k, 1)) (hl : Ls[k.val]? = some (.val v)) (hv : v.isRef = true) (K : Go p e below (T.setTop (mkF m (pc + 1) Ls (v :: S))) P) : Go p e below (T.setTop (mkF m pc Ls S)) P := Go.st (fun _ q_ => XS.aloadN X.here hx rfl hd hl hv q_) K
theorem aload (X : Stand p l e R s m args below meth c T locs cells slots) (hx : p.tables.exec = Jvm.exec) {k : Nat} {v : Value} (hd : decode c.code pc = .ok (.aload k, 2)) (hl : Ls[k]? = some (.val v)) (hv : v.isRef = true) (K : Go p e below (T.setTop (mkF m (pc + 2) Ls (v :: S))) P) : Go p e below (T.setTop (mkF m pc Ls S)) P := Go.st (fun _ q_ => XS.aload X.here hx rfl hd hl hv q_) K
theorem astoreN (X : Stand p l e R s m args below meth c T locs cells slots) (hx : p.tables.exec = Jvm.exec) {k : Fin 4} {v : Value} (hd : decode c.code pc = .ok (.astore_n k, 1)) (hv : v.isRef = true) (L' : Array Slot) (hl : storeLocals Ls k.val v = some L') (K : Go p e below (T.setTop (mkF m (pc + 1) L' S)) P) : Go p e below (T.setTop (mkF m pc Ls (v :: S))) P := Go.st (fun _ q_ => XS.astoreN X.here hx rfl hd rfl hv hl q_) K
theorem astore (X : Stand p l e R s m args below meth c T locs cells slots) (hx : p.tables.exec = Jvm.exec) {k : Nat} {v : Value} (hd : decode c.code pc = .ok (.astore k, 2)) (hv : v.isRef = true) (L' : Array Slot) (hl : storeLocals Ls k v = some L') (K : Go p e below (T.setTop (mkF m (pc + 2) L' S)) P) : Go p e below (T.setTop (mkF m pc Ls (v :: S))) P := Go.st (fun _ q_ => XS.astore X.here hx rfl hd rfl hv hl q_) K
theorem iconst (X : Stand p l e R s m args below meth c T locs cells slots) (hx : p.tables.exec = Jvm.exec) {i : Int} (hd : decode c.code pc = .ok (.iconst i, 1)) (z : Int32) (hz : Int32.ofInt i = z) (K : Go p e below (T.setTop (mkF m (pc + 1) Ls (.int z :: S))) P) : Go p e below (T.setTop (mkF m pc Ls S)) P := Go.st (fun _ q_ => XS.iconst X.here hx rfl hd (by subst hz; exact q_)) K
theorem bipush (X : Stand p l e R s m args below meth c T locs cells slots) (hx : p.tables.exec = Jvm.exec) {i : Int} (hd : decode c.code pc = .ok (.bipush i, 2)) (z : Int32) (hz : (Int8.ofInt i).toInt32 = z) (K : Go p e below (T.setTop (mkF m (pc + 2) Ls (.int z :: S))) P) : Go p e below (T.setTop (mkF m pc Ls S)) P := Go.st (fun _ q_ => XS.bipush X.here hx rfl hd (by subst hz; exact q_)) K
theorem sipush (X : Stand p l e R s m args below meth c T locs cells slots) (hx : p.tables.exec = Jvm.exec) {i : Int} (hd : decode c.code pc = .ok (.sipush i, 3)) (z : Int32) (hz : (Int16.ofInt i).toInt32 = z) (K : Go p e below (T.setTop (mkF m (pc + 3) Ls (.int z :: S))) P) : Go p e below (T.setTop (mkF m pc Ls S)) P := Go.st (fun _ q_ => XS.sipush X.here hx rfl hd (by subst hz; exact q_)) K
theorem lconst0 (X : Stand p l e R s m args below meth c T locs cells slots) (hx : p.tables.exec = Jvm.exec) (hd : decode c.code pc = .ok (.lconst 0, 1)) (K : Go p e below (T.setTop (mkF m (pc + 1) Ls (.long (0 : Int64) :: S))) P) : Go p e below (T.setTop (mkF m pc Ls S)) P := Go.st (fun _ q_ => XS.lconst X.here hx rfl hd q_) K
theorem lconst1 (X : Stand p l e R s m args below meth c T locs cells slots) (hx : p.tables.exec = Jvm.exec) (hd : decode c.code pc = .ok (.lconst 1, 1)) (K : Go p e below (T.setTop (mkF m (pc + 1) Ls (.long (1 : Int64) :: S))) P) : Go p e below (T.setTop (mkF m pc Ls S)) P := Go.st (fun _ q_ => XS.lconst X.here hx rfl hd q_) K
theorem aconstNull (X : Stand p l e R s m args below meth c T locs cells slots) (hx : p.tables.exec = Jvm.exec)  (hd : decode c.code pc = .ok (.aconst_null, 1))  (K : Go p e below (T.setTop (mkF m (pc + 1) Ls (.null :: S))) P) : Go p e below (T.setTop (mkF m pc Ls S)) P := Go.st (fun _ q_ => XS.aconstNull X.here hx rfl hd q_) K
theorem iadd (X : Stand p l e R s m args below meth c T locs cells slots) (hx : p.tables.exec = Jvm.exec) {x y : Int32} (hd : decode c.code pc = .ok (.iadd, 1)) (z : Int32) (hz : x + y = z) (K : Go p e below (T.setTop (mkF m (pc + 1) Ls (.int z :: S))) P) : Go p e below (T.setTop (mkF m pc Ls (.int y :: .int x :: S))) P := Go.st (fun _ q_ => XS.iadd X.here hx rfl hd rfl (by subst hz; exact q_)) K
theorem ladd (X : Stand p l e R s m args below meth c T locs cells slots) (hx : p.tables.exec = Jvm.exec) {x y : Int64} (hd : decode c.code pc = .ok (.ladd, 1)) (z : Int64) (hz : x + y = z) (K : Go p e below (T.setTop (mkF m (pc + 1) Ls (.long z :: S))) P) : Go p e below (T.setTop (mkF m pc Ls (.long y :: .long x :: S))) P := Go.st (fun _ q_ => XS.ladd X.here hx rfl hd rfl (by subst hz; exact q_)) K
theorem isub (X : Stand p l e R s m args below meth c T locs cells slots) (hx : p.tables.exec = Jvm.exec) {x y : Int32} (hd : decode c.code pc = .ok (.isub, 1)) (z : Int32) (hz : x - y = z) (K : Go p e below (T.setTop (mkF m (pc + 1) Ls (.int z :: S))) P) : Go p e below (T.setTop (mkF m pc Ls (.int y :: .int x :: S))) P := Go.st (fun _ q_ => XS.isub X.here hx rfl hd rfl (by subst hz; exact q_)) K
theorem lsub (X : Stand p l e R s m args below meth c T locs cells slots) (hx : p.tables.exec = Jvm.exec) {x y : Int64} (hd : decode c.code pc = .ok (.lsub, 1)) (z : Int64) (hz : x - y = z) (K : Go p e below (T.setTop (mkF m (pc + 1) Ls (.long z :: S))) P) : Go p e below (T.setTop (mkF m pc Ls (.long y :: .long x :: S))) P := Go.st (fun _ q_ => XS.lsub X.here hx rfl hd rfl (by subst hz; exact q_)) K
theorem imul (X : Stand p l e R s m args below meth c T locs cells slots) (hx : p.tables.exec = Jvm.exec) {x y : Int32} (hd : decode c.code pc = .ok (.imul, 1)) (z : Int32) (hz : x * y = z) (K : Go p e below (T.setTop (mkF m (pc + 1) Ls (.int z :: S))) P) : Go p e below (T.setTop (mkF m pc Ls (.int y :: .int x :: S))) P := Go.st (fun _ q_ => XS.imul X.here hx rfl hd rfl (by subst hz; exact q_)) K
theorem lmul (X : Stand p l e R s m args below meth c T locs cells slots) (hx : p.tables.exec = Jvm.exec) {x y : Int64} (hd : decode c.code pc = .ok (.lmul, 1)) (z : Int64) (hz : x * y = z) (K : Go p e below (T.setTop (mkF m (pc + 1) Ls (.long z :: S))) P) : Go p e below (T.setTop (mkF m pc Ls (.long y :: .long x :: S))) P := Go.st (fun _ q_ => XS.lmul X.here hx rfl hd rfl (by subst hz; exact q_)) K
theorem iand (X : Stand p l e R s m args below meth c T locs cells slots) (hx : p.tables.exec = Jvm.exec) {x y : Int32} (hd : decode c.code pc = .ok (.iand, 1)) (z : Int32) (hz : x &&& y = z) (K : Go p e below (T.setTop (mkF m (pc + 1) Ls (.int z :: S))) P) : Go p e below (T.setTop (mkF m pc Ls (.int y :: .int x :: S))) P := Go.st (fun _ q_ => XS.iand X.here hx rfl hd rfl (by subst hz; exact q_)) K
theorem land (X : Stand p l e R s m args below meth c T locs cells slots) (hx : p.tables.exec = Jvm.exec) {x y : Int64} (hd : decode c.code pc = .ok (.land, 1)) (z : Int64) (hz : x &&& y = z) (K : Go p e below (T.setTop (mkF m (pc + 1) Ls (.long z :: S))) P) : Go p e below (T.setTop (mkF m pc Ls (.long y :: .long x :: S))) P := Go.st (fun _ q_ => XS.land X.here hx rfl hd rfl (by subst hz; exact q_)) K
theorem ior (X : Stand p l e R s m args below meth c T locs cells slots) (hx : p.tables.exec = Jvm.exec) {x y : Int32} (hd : decode c.code pc = .ok (.ior, 1)) (z : Int32) (hz : x ||| y = z) (K : Go p e below (T.setTop (mkF m (pc + 1) Ls (.int z :: S))) P) : Go p e below (T.setTop (mkF m pc Ls (.int y :: .int x :: S))) P := Go.st (fun _ q_ => XS.ior X.here hx rfl hd rfl (by subst hz; exact q_)) K
theorem lor (X : Stand p l e R s m args below meth c T locs cells slots) (hx : p.tables.exec = Jvm.exec) {x y : Int64} (hd : decode c.code pc = .ok (.lor, 1)) (z : Int64) (hz : x ||| y = z) (K : Go p e below (T.setTop (mkF m (pc + 1) Ls (.long z :: S))) P) : Go p e below (T.setTop (mkF m pc Ls (.long y :: .long x :: S))) P := Go.st (fun _ q_ => XS.lor X.here hx rfl hd rfl (by subst hz; exact q_)) K
theorem ixor (X : Stand p l e R s m args below meth c T locs cells slots) (hx : p.tables.exec = Jvm.exec) {x y : Int32} (hd : decode c.code pc = .ok (.ixor, 1)) (z : Int32) (hz : x ^^^ y = z) (K : Go p e below (T.setTop (mkF m (pc + 1) Ls (.int z :: S))) P) : Go p e below (T.setTop (mkF m pc Ls (.int y :: .int x :: S))) P := Go.st (fun _ q_ => XS.ixor X.here hx rfl hd rfl (by subst hz; exact q_)) K
theorem lxor (X : Stand p l e R s m args below meth c T locs cells slots) (hx : p.tables.exec = Jvm.exec) {x y : Int64} (hd : decode c.code pc = .ok (.lxor, 1)) (z : Int64) (hz : x ^^^ y = z) (K : Go p e below (T.setTop (mkF m (pc + 1) Ls (.long z :: S))) P) : Go p e below (T.setTop (mkF m pc Ls (.long y :: .long x :: S))) P := Go.st (fun _ q_ => XS.lxor X.here hx rfl hd rfl (by subst hz; exact q_)) K
theorem ishl (X : Stand p l e R s m args below meth c T locs cells slots) (hx : p.tables.exec = Jvm.exec) {x y : Int32} (hd : decode c.code pc = .ok (.ishl, 1)) (z : Int32) (hz : (x <<< (y &&& 31)) = z) (K : Go p e below (T.setTop (mkF m (pc + 1) Ls (.int z :: S))) P) : Go p e below (T.setTop (mkF m pc Ls (.int y :: .int x :: S))) P := Go.st (fun _ q_ => XS.ishl X.here hx rfl hd rfl (by subst hz; exact q_)) K
theorem ishr (X : Stand p l e R s m args below meth c T locs cells slots) (hx : p.tables.exec = Jvm.exec) {x y : Int32} (hd : decode c.code pc = .ok (.ishr, 1)) (z : Int32) (hz : (x >>> (y &&& 31)) = z) (K : Go p e below (T.setTop (mkF m (pc + 1) Ls (.int z :: S))) P) : Go p e below (T.setTop (mkF m pc Ls (.int y :: .int x :: S))) P := Go.st (fun _ q_ => XS.ishr X.here hx rfl hd rfl (by subst hz; exact q_)) K
theorem iushr (X : Stand p l e R s m args below meth c T locs cells slots) (hx : p.tables.exec = Jvm.exec) {x y : Int32} (hd : decode c.code pc = .ok (.iushr, 1)) (z : Int32) (hz : ((x.toUInt32 >>> (y &&& 31).toUInt32).toInt32) = z) (K : Go p e below (T.setTop (mkF m (pc + 1) Ls (.int z :: S))) P) : Go p e below (T.setTop (mkF m pc Ls (.int y :: .int x :: S))) P := Go.st (fun _ q_ => XS.iushr X.here hx rfl hd rfl (by subst hz; exact q_)) K
theorem lshl (X : Stand p l e R s m args below meth c T locs cells slots) (hx : p.tables.exec = Jvm.exec) {x : Int64} {y : Int32} (hd : decode c.code pc = .ok (.lshl, 1)) (z : Int64) (hz : (x <<< (y &&& 0x3f).toInt64) = z) (K : Go p e below (T.setTop (mkF m (pc + 1) Ls (.long z :: S))) P) : Go p e below (T.setTop (mkF m pc Ls (.int y :: .long x :: S))) P := Go.st (fun _ q_ => XS.lshl X.here hx rfl hd rfl (by subst hz; exact q_)) K
theorem lshr (X : Stand p l e R s m args below meth c T locs cells slots) (hx : p.tables.exec = Jvm.exec) {x : Int64} {y : Int32} (hd : decode c.code pc = .ok (.lshr, 1)) (z : Int64) (hz : (x >>> (y &&& 0x3f).toInt64) = z) (K : Go p e below (T.setTop (mkF m (pc + 1) Ls (.long z :: S))) P) : Go p e below (T.setTop (mkF m pc Ls (.int y :: .long x :: S))) P := Go.st (fun _ q_ => XS.lshr X.here hx rfl hd rfl (by subst hz; exact q_)) K
theorem lushr (X : Stand p l e R s m args below meth c T locs cells slots) (hx : p.tables.exec = Jvm.exec) {x : Int64} {y : Int32} (hd : decode c.code pc = .ok (.lushr, 1)) (z : Int64) (hz : ((x.toUInt64 >>> (y &&& 0x3f).toInt64.toUInt64).toInt64) = z) (K : Go p e below (T.setTop (mkF m (pc + 1) Ls (.long z :: S))) P) : Go p e below (T.setTop (mkF m pc Ls (.int y :: .long x :: S))) P := Go.st (fun _ q_ => XS.lushr X.here hx rfl hd rfl (by subst hz; exact q_)) K
theorem ineg (X : Stand p l e R s m args below meth c T locs cells slots) (hx : p.tables.exec = Jvm.exec) {x : Int32} (hd : decode c.code pc = .ok (.ineg, 1)) (z : Int32) (hz : -x = z) (K : Go p e below (T.setTop (mkF m (pc + 1) Ls (.int z :: S))) P) : Go p e below (T.setTop (mkF m pc Ls (.int x :: S))) P := Go.st (fun _ q_ => XS.ineg X.here hx rfl hd rfl (by subst hz; exact q_)) K
theorem lneg (X : Stand p l e R s m args below meth c T locs cells slots) (hx : p.tables.exec = Jvm.exec) {x : Int64} (hd : decode c.code pc = .ok (.lneg, 1)) (z : Int64) (hz : -x = z) (K : Go p e below (T.setTop (mkF m (pc + 1) Ls (.long z :: S))) P) : Go p e below (T.setTop (mkF m pc Ls (.long x :: S))) P := Go.st (fun _ q_ => XS.lneg X.here hx rfl hd rfl (by subst hz; exact q_)) K
theorem i2l (X : Stand p l e R s m args below meth c T locs cells slots) (hx : p.tables.exec = Jvm.exec) {x : Int32} (hd : decode c.code pc = .ok (.i2l, 1)) (z : Int64) (hz : x.toInt64 = z) (K : Go p e below (T.setTop (mkF m (pc + 1) Ls (.long z :: S))) P) : Go p e below (T.setTop (mkF m pc Ls (.int x :: S))) P := Go.st (fun _ q_ => XS.i2l X.here hx rfl hd rfl (by subst hz; exact q_)) K
theorem l2i (X : Stand p l e R s m args below meth c T locs cells slots) (hx : p.tables.exec = Jvm.exec) {x : Int64} (hd : decode c.code pc = .ok (.l2i, 1)) (z : Int32) (hz : x.toInt32 = z) (K : Go p e below (T.setTop (mkF m (pc + 1) Ls (.int z :: S))) P) : Go p e below (T.setTop (mkF m pc Ls (.long x :: S))) P := Go.st (fun _ q_ => XS.l2i X.here hx rfl hd rfl (by subst hz; exact q_)) K
theorem i2b (X : Stand p l e R s m args below meth c T locs cells slots) (hx : p.tables.exec = Jvm.exec) {x : Int32} (hd : decode c.code pc = .ok (.i2b, 1)) (z : Int32) (hz : x.toInt8.toInt32 = z) (K : Go p e below (T.setTop (mkF m (pc + 1) Ls (.int z :: S))) P) : Go p e below (T.setTop (mkF m pc Ls (.int x :: S))) P := Go.st (fun _ q_ => XS.i2b X.here hx rfl hd rfl (by subst hz; exact q_)) K
theorem i2s (X : Stand p l e R s m args below meth c T locs cells slots) (hx : p.tables.exec = Jvm.exec) {x : Int32} (hd : decode c.code pc = .ok (.i2s, 1)) (z : Int32) (hz : x.toInt16.toInt32 = z) (K : Go p e below (T.setTop (mkF m (pc + 1) Ls (.int z :: S))) P) : Go p e below (T.setTop (mkF m pc Ls (.int x :: S))) P := Go.st (fun _ q_ => XS.i2s X.here hx rfl hd rfl (by subst hz; exact q_)) K
theorem i2c (X : Stand p l e R s m args below meth c T locs cells slots) (hx : p.tables.exec = Jvm.exec) {x : Int32} (hd : decode c.code pc = .ok (.i2c, 1)) (z : Int32) (hz : x.toUInt32.toUInt16.toUInt32.toInt32 = z) (K : Go p e below (T.setTop (mkF m (pc + 1) Ls (.int z :: S))) P) : Go p e below (T.setTop (mkF m pc Ls (.int x :: S))) P := Go.st (fun _ q_ => XS.i2c X.here hx rfl hd rfl (by subst hz; exact q_)) K
theorem idiv (X : Stand p l e R s m args below meth c T locs cells slots) (hx : p.tables.exec = Jvm.exec) {x y : Int32} (hd : decode c.code pc = .ok (.idiv, 1)) (hy : y ≠ 0) (z : Int32) (hz : x / y = z) (K : Go p e below (T.setTop (mkF m (pc + 1) Ls (.int z :: S))) P) : Go p e below (T.setTop (mkF m pc Ls (.int y :: .int x :: S))) P := Go.st (fun _ q_ => XS.idiv X.here hx rfl hd rfl hy (by subst hz; exact q_)) K
theorem ldiv (X : Stand p l e R s m args below meth c T locs cells slots) (hx : p.tables.exec = Jvm.exec) {x y : Int64} (hd : decode c.code pc = .ok (.ldiv, 1)) (hy : y ≠ 0) (z : Int64) (hz : x / y = z) (K : Go p e below (T.setTop (mkF m (pc + 1) Ls (.long z :: S))) P) : Go p e below (T.setTop (mkF m pc Ls (.long y :: .long x :: S))) P := Go.st (fun _ q_ => XS.ldiv X.here hx rfl hd rfl hy (by subst hz; exact q_)) K
theorem irem (X : Stand p l e R s m args below meth c T locs cells slots) (hx : p.tables.exec = Jvm.exec) {x y : Int32} (hd : decode c.code pc = .ok (.irem, 1)) (hy : y ≠ 0) (z : Int32) (hz : x % y = z) (K : Go p e below (T.setTop (mkF m (pc + 1) Ls (.int z :: S))) P) : Go p e below (T.setTop (mkF m pc Ls (.int y :: .int x :: S))) P := Go.st (fun _ q_ => iremM (g := mkF m pc Ls (.int y :: .int x :: S)) X hx rfl hd rfl hy (by subst hz; exact q_)) K
theorem lcmp (X : Stand p l e R s m args below meth c T locs cells slots) (hx : p.tables.exec = Jvm.exec) {x y : Int64} (hd : decode c.code pc = .ok (.lcmp, 1))  (K : Go p e below (T.setTop (mkF m (pc + 1) Ls (.int (lcmpW x y) :: S))) P) : Go p e below (T.setTop (mkF m pc Ls (.long y :: .long x :: S))) P := Go.st (fun _ q_ => XS.lcmp X.here hx rfl hd rfl q_) K
theorem iinc (X : Stand p l e R s m args below meth c T locs cells slots) (hx : p.tables.exec = Jvm.exec) {k : Nat} {cst : Int} {x : Int32} (hd : decode c.code pc = .ok (.iinc k cst, 3)) (hl : Ls[k]? = some (.val (.int x))) (L' : Array Slot) (hl' : storeLocals Ls k (.int (x + Int32.ofInt cst)) = some L') (K : Go p e below (T.setTop (mkF m (pc + 3) L' S)) P) : Go p e below (T.setTop (mkF m pc Ls S)) P := Go.st (fun _ q_ => XS.iinc X.here hx rfl hd hl hl' q_) K
theorem dup (X : Stand p l e R s m args below meth c T locs cells slots) (hx : p.tables.exec = Jvm.exec) {x : Value} (hd : decode c.code pc = .ok (.dup, 1)) (hc : x.category = 1) (K : Go p e below (T.setTop (mkF m (pc + 1) Ls (x :: x :: S))) P) : Go p e below (T.setTop (mkF m pc Ls (x :: S))) P := Go.st (fun _ q_ => XS.dup X.here hx rfl hd rfl hc q_) K
theorem dupX1 (X : Stand p l e R s m args below meth c T locs cells slots) (hx : p.tables.exec = Jvm.exec) {x y : Value} (hd : decode c.code pc = .ok (.dup_x1, 1)) (hc : x.category = 1) (hc' : y.category = 1) (K : Go p e below (T.setTop (mkF m (pc + 1) Ls (x :: y :: x :: S))) P) : Go p e below (T.setTop (mkF m pc Ls (x :: y :: S))) P := Go.st (fun _ q_ => XS.dupX1 X.here hx rfl hd rfl hc hc' q_) K
theorem dup2 (X : Stand p l e R s m args below meth c T locs cells slots) (hx : p.tables.exec = Jvm.exec) {x y : Value} (hd : decode c.code pc = .ok (.dup2, 1)) (hc : x.category = 1) (hc' : y.category = 1) (K : Go p e below (T.setTop (mkF m (pc + 1) Ls (x :: y :: x :: y :: S))) P) : Go p e below (T.setTop (mkF m pc Ls (x :: y :: S))) P := Go.st (fun _ q_ => XT.dup2 X.here hx rfl hd rfl hc hc' q_) K
theorem pop (X : Stand p l e R s m args below meth c T locs cells slots) (hx : p.tables.exec = Jvm.exec) {x : Value} (hd : decode c.code pc = .ok (.pop, 1)) (hc : x.category = 1) (K : Go p e below (T.setTop (mkF m (pc + 1) Ls S)) P) : Go p e below (T.setTop (mkF m pc Ls (x :: S))) P := Go.st (fun _ q_ => XS.pop X.here hx rfl hd rfl hc q_) K
theorem goto (X : Stand p l e R s m args below meth c T locs cells slots) (hx : p.tables.exec = Jvm.exec)  {o : Int} (hd : decode c.code pc = .ok (.goto o, 3))  (pc' : Nat) (ho : 0 ≤ (pc : Int) + o) (hp : ((pc : Int) + o).toNat = pc') (K : Go p e below (T.setTop (mkF m pc' Ls S)) P) : Go p e below (T.setTop (mkF m pc Ls S)) P := Go.st (fun _ q_ => XS.goto X.here hx rfl rfl hd ho hp q_) K
theorem ifYes (X : Stand p l e R s m args below meth c T locs cells slots) (hx : p.tables.exec = Jvm.exec) {cd : ClassFile.Cond} {x : Int32} {o : Int} (hd : decode c.code pc = .ok (.ifCond cd o, 3)) (hc : if_icmp.holds cd x 0 = true) (pc' : Nat) (ho : 0 ≤ (pc : Int) + o) (hp : ((pc : Int) + o).toNat = pc') (K : Go p e below (T.setTop (mkF m pc' Ls S)) P) : Go p e below (T.setTop (mkF m pc Ls (.int x :: S))) P := Go.st (fun _ q_ => XS.ifYes X.here hx rfl rfl hd rfl ((if0 _ _).trans hc) ho hp q_) K
theorem ifNo (X : Stand p l e R s m args below meth c T locs cells slots) (hx : p.tables.exec = Jvm.exec) {cd : ClassFile.Cond} {x : Int32} {o : Int} (hd : decode c.code pc = .ok (.ifCond cd o, 3)) (hc : if_icmp.holds cd x 0 = false) (K : Go p e below (T.setTop (mkF m (pc + 3) Ls S)) P) : Go p e below (T.setTop (mkF m pc Ls (.int x :: S))) P := Go.st (fun _ q_ => XS.ifNo X.here hx rfl hd rfl ((if0 _ _).trans hc) q_) K
theorem icmpYes (X : Stand p l e R s m args below meth c T locs cells slots) (hx : p.tables.exec = Jvm.exec) {cd : ClassFile.Cond} {x y : Int32} {o : Int} (hd : decode c.code pc = .ok (.if_icmp cd o, 3)) (hc : if_icmp.holds cd x y = true) (pc' : Nat) (ho : 0 ≤ (pc : Int) + o) (hp : ((pc : Int) + o).toNat = pc') (K : Go p e below (T.setTop (mkF m pc' Ls S)) P) : Go p e below (T.setTop (mkF m pc Ls (.int y :: .int x :: S))) P := Go.st (fun _ q_ => XS.icmpYes X.here hx rfl rfl hd rfl hc ho hp q_) K
theorem icmpNo (X : Stand p l e R s m args below meth c T locs cells slots) (hx : p.tables.exec = Jvm.exec) {cd : ClassFile.Cond} {x y : Int32} {o : Int} (hd : decode c.code pc = .ok (.if_icmp cd o, 3)) (hc : if_icmp.holds cd x y = false) (K : Go p e below (T.setTop (mkF m (pc + 3) Ls S)) P) : Go p e below (T.setTop (mkF m pc Ls (.int y :: .int x :: S))) P := Go.st (fun _ q_ => XS.icmpNo X.here hx rfl hd rfl hc q_) K
theorem ifnullYes (X : Stand p l e R s m args below meth c T locs cells slots) (hx : p.tables.exec = Jvm.exec)  {o : Int} (hd : decode c.code pc = .ok (.ifnull o, 3))  (pc' : Nat) (ho : 0 ≤ (pc : Int) + o) (hp : ((pc : Int) + o).toNat = pc') (K : Go p e below (T.setTop (mkF m pc' Ls S)) P) : Go p e below (T.setTop (mkF m pc Ls (.null :: S))) P := Go.st (fun _ q_ => XS.ifnullYes X.here hx rfl rfl hd rfl ho hp q_) K
theorem ifnullNo (X : Stand p l e R s m args below meth c T locs cells slots) (hx : p.tables.exec = Jvm.exec) {o : Int} {b : Addr} (hd : decode c.code pc = .ok (.ifnull o, 3))  (K : Go p e below (T.setTop (mkF m (pc + 3) Ls S)) P) : Go p e below (T.setTop (mkF m pc Ls (.ref b :: S))) P := Go.st (fun _ q_ => XS.ifnullNo X.here hx rfl hd rfl q_) K
theorem ifnonnullYes (X : Stand p l e R s m args below meth c T locs cells slots) (hx : p.tables.exec = Jvm.exec) {b : Addr} {o : Int} (hd : decode c.code pc = .ok (.ifnonnull o, 3))  (pc' : Nat) (ho : 0 ≤ (pc : Int) + o) (hp : ((pc : Int) + o).toNat = pc') (K : Go p e below (T.setTop (mkF m pc' Ls S)) P) : Go p e below (T.setTop (mkF m pc Ls (.ref b :: S))) P := Go.st (fun _ q_ => XS.ifnonnullYes X.here hx rfl rfl hd rfl ho hp q_) K
theorem ifnonnullNo (X : Stand p l e R s m args below meth c T locs cells slots) (hx : p.tables.exec = Jvm.exec) {o : Int} (hd : decode c.code pc = .ok (.ifnonnull o, 3))  (K : Go p e below (T.setTop (mkF m (pc + 3) Ls S)) P) : Go p e below (T.setTop (mkF m pc Ls (.null :: S))) P := Go.st (fun _ q_ => XS.ifnonnullNo X.here hx rfl hd rfl q_) K
theorem acmp (X : Stand p l e R s m args below meth c T locs cells slots) (hx : p.tables.exec = Jvm.exec) {cd : ACond} {x y : Value} {o : Int} (hd : decode c.code pc = .ok (.if_acmp cd o, 3)) (h1 : x.isRef = true) (h2 : y.isRef = true) (same : Bool) (hq : decide (x = y) = same) (pc' : Nat) (ho : 0 ≤ (pc : Int) + o) (hp : pc' = if acV cd same = true then ((pc : Int) + o).toNat else pc + 3) (K : Go p e below (T.setTop (mkF m pc' Ls S)) P) : Go p e below (T.setTop (mkF m pc Ls (y :: x :: S))) P := Go.st (fun _ q_ => Jvm.RoadKit.acmp (g := mkF m pc Ls (y :: x :: S)) X hx rfl h1 h2 rfl hd rfl hq ho hp q_) K
theorem lsw (X : Stand p l e R s m args below meth c T locs cells slots) (hx : p.tables.exec = Jvm.exec) {dflt : Int} {pairs : Array (Int × Int)} {len : Nat} {i : Int32} (hd : decode c.code pc = .ok (.lookupswitch dflt pairs, len)) {o : Int} (ho : lookupswitch.offset pairs.toList dflt i.toInt = o) (hso : ∀ (a b a_1 b_1 : Int), ((a, b), a_1, b_1) ∈ pairs.toList.zip pairs.toList.tail → a < a_1) (pc' : Nat) (h0 : 0 ≤ (pc : Int) + o) (hp : ((pc : Int) + o).toNat = pc') (K : Go p e below (T.setTop (mkF m pc' Ls S)) P) : Go p e below (T.setTop (mkF m pc Ls (.int i :: S))) P := Go.st (fun _ q_ => own_lsw (g := mkF m pc Ls (.int i :: S)) X hx rfl rfl hd rfl ho hso h0 hp q_) K
theorem tsw (X : Stand p l e R s m args below meth c T locs cells slots) (hx : p.tables.exec = Jvm.exec) {dflt low high : Int} {offs : Array Int} {len : Nat} {i : Int32} (hd : decode c.code pc = .ok (.tableswitch dflt low high offs, len)) {o : Int} (hin : ¬ (i.toInt < low ∨ i.toInt > high)) (hoff : offs[(i.toInt - low).toNat]? = some o) (pc' : Nat) (h0 : 0 ≤ (pc : Int) + o) (hp : ((pc : Int) + o).toNat = pc') (K : Go p e below (T.setTop (mkF m pc' Ls S)) P) : Go p e below (T.setTop (mkF m pc Ls (.int i :: S))) P := Go.st (fun _ q_ => XS.tswIn (g := mkF m pc Ls (.int i :: S)) X.here hx rfl rfl hd rfl hin hoff h0 hp q_) K
theorem ldcI (X : Stand p l e R s m args below meth c T locs cells slots) (hx : p.tables.exec = Jvm.exec) (hZ : Z.Warmed39 s.vm) {own : String} {index : Nat} (hown : s.vm.findClass own = some m.cls) {v : Int32} (w : (Cond.constant own index v).before a0 Z = true) (hd : decode c.code pc = .ok (.ldc index, 2)) (K : Go p e below (T.setTop (mkF m (pc + 2) Ls (.int v :: S))) P) : Go p e below (T.setTop (mkF m pc Ls S)) P := Go.st (X.ldcInt hx hown (mvT hZ w) (g := mkF m pc Ls S) rfl hd) K
theorem ldcwI (X : Stand p l e R s m args below meth c T locs cells slots) (hx : p.tables.exec = Jvm.exec) (hZ : Z.Warmed39 s.vm) {own : String} {index : Nat} (hown : s.vm.findClass own = some m.cls) {v : Int32} (w : (Cond.constant own index v).before a0 Z = true) (hd : decode c.code pc = .ok (.ldc_w index, 3)) (K : Go p e below (T.setTop (mkF m (pc + 3) Ls (.int v :: S))) P) : Go p e below (T.setTop (mkF m pc Ls S)) P := Go.st (X.ldcwInt hx hown (mvT hZ w) (g := mkF m pc Ls S) rfl hd) K
theorem ldcL (X : Stand p l e R s m args below meth c T locs cells slots) (hx : p.tables.exec = Jvm.exec) (hZ : Z.Warmed39 s.vm) {own : String} {index : Nat} (hown : s.vm.findClass own = some m.cls) {v : Int64} (w : (Cond.constantLong own index v).before a0 Z = true) (hd : decode c.code pc = .ok (.ldc2_w index, 3)) (K : Go p e below (T.setTop (mkF m (pc + 3) Ls (.long v :: S))) P) : Go p e below (T.setTop (mkF m pc Ls S)) P := Go.st (X.ldc2Long hx hown (mvT hZ w) (g := mkF m pc Ls S) rfl hd) K
theorem getS (X : Stand p l e R s m args below meth c T locs cells slots) (hx : p.tables.exec = Jvm.exec) (hZ : Z.Warmed39 s.vm) {own : String} {index : Nat} (hown : s.vm.findClass own = some m.cls) {R0 O n d host : String} (w : (Cond.fieldLink own index R0 n d).before a0 Z = true ∨ (Cond.fieldLinkNest own index R0 n d host).before a0 Z = true) (via : Via Z R0 O n d) (eT : T.heap = h) {v : Value} (F : Sta Z h O n d v) (hd : decode c.code pc = .ok (.getstatic index, 3))
    (K : ∀ T', Stand p l e R s m args below meth c T' locs cells slots → T'.heap = h → Go p e below (T'.setTop (mkF m (pc + 3) Ls (v :: S))) P) : Go p e below (T.setTop (mkF m pc Ls S)) P := by
  obtain ⟨T', X', e', st⟩ := getS2 X hx hZ hown w via eT F (g := mkF m pc Ls S) rfl hd
  exact Go.st st (K T' X' e')
theorem getF (X : Stand p l e R s m args below meth c T locs cells slots) (hx : p.tables.exec = Jvm.exec) (hZ : Z.Warmed39 s.vm) {own : String} {index : Nat} (hown : s.vm.findClass own = some m.cls) {R0 O n d host : String} (w : (Cond.fieldLink own index R0 n d).before a0 Z = true ∨ (Cond.fieldLinkNest own index R0 n d host).before a0 Z = true) (via : Via Z R0 O n d) (eT : T.heap = h) {a : Addr} {v : Value} (F : Fld Z h a O n d v) (hd : decode c.code pc = .ok (.getfield index, 3))
    (K : ∀ T', Stand p l e R s m args below meth c T' locs cells slots → T'.heap = h → Go p e below (T'.setTop (mkF m (pc + 3) Ls (v :: S))) P) : Go p e below (T.setTop (mkF m pc Ls (.ref a :: S))) P := by
  obtain ⟨T', X', e', st⟩ := RoadKit.getF X hx hZ hown w via eT F (g := mkF m pc Ls (.ref a :: S)) rfl rfl hd
  exact Go.st st (K T' X' e')
theorem putF (X : Stand p l e R s m args below meth c T locs cells slots) (hx : p.tables.exec = Jvm.exec) (hZ : Z.Warmed39 s.vm) {own : String} {index : Nat} (hown : s.vm.findClass own = some m.cls) {R0 O n d host C : String} {kk : Nat} {ty : FieldType} (w : (Cond.fieldLink own index R0 n d).before a0 Z = true ∨ (Cond.fieldLinkNest own index R0 n d host).before a0 Z = true) (via : Via Z R0 O n d) (eT : T.heap = h) {a : Addr} {v old : Value} (F : Fld Z h a O n d old) (E : Exa Z h a C) (Lw : (Cond.lays C O n d).before a0 Z = true ∨ ((Cond.laysFinal C O n d).before a0 Z = true ∧ own = O ∧ meth.name = "<init>")) (wi : (Cond.instantiable C kk).before a0 Z = true)
    (hty : parseFieldDescriptor d = some ty) (hn : narrow ty v = v) (hf : fits ty v = true) (hd : decode c.code pc = .ok (.putfield index, 3))
    (K : ∀ T' h', Stand p l e R s m args below meth c T' (locs ++ [⟨a, Jvm.RoadKit.slotOf Z O n d⟩]) cells slots → T'.heap = h' → Wr h h' a (Jvm.RoadKit.slotOf Z O n d) v → Go p e below (T'.setTop (mkF m (pc + 3) Ls S)) P) : Go p e below (T.setTop (mkF m pc Ls (v :: .ref a :: S))) P := by
  obtain ⟨T', h', X', e', W', st⟩ := RoadKit.putF X hx hZ hown w via eT F E Lw wi hty hn hf (g := mkF m pc Ls (v :: .ref a :: S)) rfl rfl hd
  exact Go.st st (K T' h' X' e' W')
theorem putFN (X : Stand p l e R s m args below meth c T locs cells slots) (hx : p.tables.exec = Jvm.exec) (hZ : Z.Warmed39 s.vm) {own : String} {index : Nat} (hown : s.vm.findClass own = some m.cls) {R0 O n d C : String} {kk : Nat} {ty : FieldType} (w : (Cond.fieldLink own index R0 n d).before a0 Z = true) (via : Via Z R0 O n d) (eT : T.heap = h) {a : Addr} {v v' old : Value} (F : Fld Z h a O n d old) (E : Exa Z h a C) (Lw : (Cond.lays C O n d).before a0 Z = true ∨ ((Cond.laysFinal C O n d).before a0 Z = true ∧ own = O ∧ meth.name = "<init>")) (wi : (Cond.instantiable C kk).before a0 Z = true)
    (hty : parseFieldDescriptor d = some ty) (hn : narrow ty v = v') (hf : fits ty v' = true) (hd : decode c.code pc = .ok (.putfield index, 3))
    (K : ∀ T' h', Stand p l e R s m args below meth c T' (locs ++ [⟨a, Jvm.RoadKit.slotOf Z O n d⟩]) cells slots → T'.heap = h' → Wr h h' a (Jvm.RoadKit.slotOf Z O n d) v' → Go p e below (T'.setTop (mkF m (pc + 3) Ls S)) P) : Go p e below (T.setTop (mkF m pc Ls (v :: .ref a :: S))) P := by
  obtain ⟨T', h', X', e', W', st⟩ := RoadKit.putFN X hx hZ hown w via eT F E Lw wi hty hn hf (g := mkF m pc Ls (v :: .ref a :: S)) rfl rfl hd
  exact Go.st st (K T' h' X' e' W')
theorem newO (X : Stand p l e R s m args below meth c T locs cells slots) (hx : p.tables.exec = Jvm.exec) (hZ : Z.Warmed39 s.vm) {own : String} {index : Nat} (hown : s.vm.findClass own = some m.cls) {C : String} {n : Nat} (w : (Cond.classLink own index C).before a0 Z = true) (wi : (Cond.instantiable C n).before a0 Z = true) (wz : (Cond.initialized C).before a0 Z = true) (eT : T.heap = h) (hd : decode c.code pc = .ok (.new index, 3)) (hc : cells + 1 ≤ R.cells) (hl : slots + n ≤ R.slots)
    (K : ∀ T' h' b, Stand p l e R s m args below meth c T' locs (cells + 1) (slots + n) → T'.heap = h' → Ext h h' → b = h.size → Exa Z h' b C → (∀ {O nm d : String} {ty : FieldType}, Laid Z a0 C O nm d → parseFieldDescriptor d = some ty → Fld Z h' b O nm d (defaultValue ty)) → Go p e below (T'.setTop (mkF m (pc + 3) Ls (.ref b :: S))) P) : Go p e below (T.setTop (mkF m pc Ls S)) P := by
  obtain ⟨T', h', X', e', E', A', D', -, st⟩ := RoadKit.newO X hx hZ hown w wi wz eT (g := mkF m pc Ls S) rfl hd hc hl
  exact Go.st st (K T' h' _ X' e' E' rfl A' D')
theorem initO (X : Stand p l e R s m args below meth c T locs cells slots) (hx : p.tables.exec = Jvm.exec) (hZ : Z.Warmed39 s.vm) {own : String} {index : Nat} (hown : s.vm.findClass own = some m.cls) (w1 : (Cond.methodLink own index Lib.objectInit).before a0 Z = true) (w2 : (Cond.instanceMethod Lib.objectInit).before a0 Z = true) (w3 : (Cond.code Lib.objectInit ⟨#[0xb1]⟩ 1 none).before a0 Z = true) (eT : T.heap = h) (hsize : Ls.size = c.maxLocals) {a : Addr} (hd : decode c.code pc = .ok (.invokespecial index, 3)) (hf : 1 ≤ R.frames) (hl : (S.map fun v => v.category).sum + 12 ≤ R.locals)
    (K : ∀ T', Stand p l e R s m args below meth c T' locs cells slots → T'.heap = h → Go p e below (T'.setTop (mkF m (pc + 3) Ls S)) P) : Go p e below (T.setTop (mkF m pc Ls (.ref a :: S))) P := by
  obtain ⟨T', X', e', st⟩ := RoadKit.initO X hx hZ hown w1 w2 w3 eT (g := mkF m pc Ls (.ref a :: S)) rfl hsize rfl hd hf (W := (S.map fun v => v.category).sum) (by show 2 * 0 + _ ≤ _; omega) hl
  exact Go.st st (K T' X' e')
theorem newP (X : Stand p l e R s m args below meth c T locs cells slots) (hx : p.tables.exec = Jvm.exec) (hZ : Z.Warmed39 s.vm) {aty : ArrayType} (w : (Cond.arrayClass (newarray.typeOf aty)).before a0 Z = true) (eT : T.heap = h) {n : Int32} (hd : decode c.code pc = .ok (.newarray aty, 2)) (hn : ¬ n < 0) {cap : Nat} (hcap : n.toNatClampNeg ≤ cap) (hb : cap * 8 ≤ 536870912) (hc : cells + 1 ≤ R.cells) (hl : slots + cap ≤ R.slots) {ad : String} (had : "[" ++ (newarray.typeOf aty).toString = ad)
    (K : ∀ T' h' b k, Stand p l e R s m args below meth c T' locs (cells + 1) (slots + cap) → T'.heap = h' → Ext h h' → b = h.size → Arf Z h' b k (newarray.typeOf aty) n (fun _ => defaultValue (newarray.typeOf aty)) → Exa Z h' b ad → Go p e below (T'.setTop (mkF m (pc + 2) Ls (.ref b :: S))) P) : Go p e below (T.setTop (mkF m pc Ls (.int n :: S))) P := by
  obtain ⟨T', h', k, X', e', E', A', B', st⟩ := newPE X hx hZ w eT (g := mkF m pc Ls (.int n :: S)) rfl hd rfl hn hcap hb hc hl had
  exact Go.st st (K T' h' _ k X' e' E' rfl (Arf.new A' hn) B')
theorem newR (X : Stand p l e R s m args below meth c T locs cells slots) (hx : p.tables.exec = Jvm.exec) (hZ : Z.Warmed39 s.vm) {own : String} {index : Nat} (hown : s.vm.findClass own = some m.cls) {C : String} (w1 : (Cond.classLink own index C).before a0 Z = true) (w2 : (Cond.arrayOver (.object C)).before a0 Z = true) (eT : T.heap = h) {n : Int32} (hd : decode c.code pc = .ok (.anewarray index, 3)) (hn : ¬ n < 0) {cap : Nat} (hcap : n.toNatClampNeg ≤ cap) (hb : cap * 8 ≤ 536870912) (hc : cells + 1 ≤ R.cells) (hl : slots + cap ≤ R.slots) {ad : String} (had : "[" ++ (FieldType.object C).toString = ad)
    (K : ∀ T' h' b k, Stand p l e R s m args below meth c T' locs (cells + 1) (slots + cap) → T'.heap = h' → Ext h h' → b = h.size → Arf Z h' b k (.object C) n (fun _ => .null) → Exa Z h' b ad → Ovr Z k C → Go p e below (T'.setTop (mkF m (pc + 3) Ls (.ref b :: S))) P) : Go p e below (T.setTop (mkF m pc Ls (.int n :: S))) P := by
  obtain ⟨T', h', k, X', e', E', A', B', O', st⟩ := newRE X hx hZ hown w1 w2 eT (g := mkF m pc Ls (.int n :: S)) rfl hd rfl hn hcap hb hc hl had
  exact Go.st st (K T' h' _ k X' e' E' rfl (Arf.new A' hn) B' O')
theorem iastore (X : Stand p l e R s m args below meth c T locs cells slots) (hx : p.tables.exec = Jvm.exec) (hZ : Z.Warmed39 s.vm) (eT : T.heap = h) {a : Addr} {k : ClassId} {n : Int32} {f : Nat → Value} (F : Arf Z h a k .int n f) {j x : Int32} (i : Nat) (hji : j.toNatClampNeg = i) (hj : ¬ j < 0 ∧ j < n) (v : Value) (hv : .int x = v) (hd : decode c.code pc = .ok (.iastore, 1))
    (K : ∀ T' h', Stand p l e R s m args below meth c T' (locs ++ [⟨a, j.toNatClampNeg⟩]) cells slots → T'.heap = h' → Wr h h' a j.toNatClampNeg v → Arf Z h' a k .int n (upd f i v) → Go p e below (T'.setTop (mkF m (pc + 1) Ls S)) P) : Go p e below (T.setTop (mkF m pc Ls (.int x :: .int j :: .ref a :: S))) P := by
  obtain ⟨cl, A, q, S', q3, H', G'⟩ := F
  have hin := inb_of S' hj
  obtain ⟨T', h', X', e', W', st⟩ := RoadKit.stI X hx hZ eT A (j := j) hin (g := mkF m pc Ls (.int x :: .int j :: .ref a :: S)) rfl rfl hd
  subst hv
  exact Go.st st (K T' h' X' e' W' (Arf.set A q S' q3 H' G' rfl W' i hji hin))
theorem castore (X : Stand p l e R s m args below meth c T locs cells slots) (hx : p.tables.exec = Jvm.exec) (hZ : Z.Warmed39 s.vm) (eT : T.heap = h) {a : Addr} {k : ClassId} {n : Int32} {f : Nat → Value} (F : Arf Z h a k .char n f) {j x : Int32} (i : Nat) (hji : j.toNatClampNeg = i) (hj : ¬ j < 0 ∧ j < n) (v : Value) (hv : .int (nar .char x) = v) (hd : decode c.code pc = .ok (.castore, 1))
    (K : ∀ T' h', Stand p l e R s m args below meth c T' (locs ++ [⟨a, j.toNatClampNeg⟩]) cells slots → T'.heap = h' → Wr h h' a j.toNatClampNeg v → Arf Z h' a k .char n (upd f i v) → Go p e below (T'.setTop (mkF m (pc + 1) Ls S)) P) : Go p e below (T.setTop (mkF m pc Ls (.int x :: .int j :: .ref a :: S))) P := by
  obtain ⟨cl, A, q, S', q3, H', G'⟩ := F
  have hin := inb_of S' hj
  obtain ⟨T', h', X', e', W', st⟩ := RoadKit.stC X hx hZ eT A (j := j) hin (g := mkF m pc Ls (.int x :: .int j :: .ref a :: S)) rfl rfl hd
  subst hv
  exact Go.st st (K T' h' X' e' W' (Arf.set A q S' q3 H' G' (fits_nar_char _) W' i hji hin))
theorem bastoreB (X : Stand p l e R s m args below meth c T locs cells slots) (hx : p.tables.exec = Jvm.exec) (hZ : Z.Warmed39 s.vm) (eT : T.heap = h) {a : Addr} {k : ClassId} {n : Int32} {f : Nat → Value} (F : Arf Z h a k .byte n f) {j x : Int32} (i : Nat) (hji : j.toNatClampNeg = i) (hj : ¬ j < 0 ∧ j < n) (v : Value) (hv : .int (nar .byte x) = v) (hd : decode c.code pc = .ok (.bastore, 1))
    (K : ∀ T' h', Stand p l e R s m args below meth c T' (locs ++ [⟨a, j.toNatClampNeg⟩]) cells slots → T'.heap = h' → Wr h h' a j.toNatClampNeg v → Arf Z h' a k .byte n (upd f i v) → Go p e below (T'.setTop (mkF m (pc + 1) Ls S)) P) : Go p e below (T.setTop (mkF m pc Ls (.int x :: .int j :: .ref a :: S))) P := by
  obtain ⟨cl, A, q, S', q3, H', G'⟩ := F
  have hin := inb_of S' hj
  obtain ⟨T', h', X', e', W', st⟩ := RoadKit.stB X hx hZ eT A (j := j) hin (g := mkF m pc Ls (.int x :: .int j :: .ref a :: S)) rfl rfl hd
  subst hv
  exact Go.st st (K T' h' X' e' W' (Arf.set A q S' q3 H' G' (fits_nar_byte _) W' i hji hin))
theorem bastoreZ (X : Stand p l e R s m args below meth c T locs cells slots) (hx : p.tables.exec = Jvm.exec) (hZ : Z.Warmed39 s.vm) (eT : T.heap = h) {a : Addr} {k : ClassId} {n : Int32} {f : Nat → Value} (F : Arf Z h a k .boolean n f) {j x : Int32} (i : Nat) (hji : j.toNatClampNeg = i) (hj : ¬ j < 0 ∧ j < n) (v : Value) (hv : .int (nar .boolean x) = v) (hd : decode c.code pc = .ok (.bastore, 1))
    (K : ∀ T' h', Stand p l e R s m args below meth c T' (locs ++ [⟨a, j.toNatClampNeg⟩]) cells slots → T'.heap = h' → Wr h h' a j.toNatClampNeg v → Arf Z h' a k .boolean n (upd f i v) → Go p e below (T'.setTop (mkF m (pc + 1) Ls S)) P) : Go p e below (T.setTop (mkF m pc Ls (.int x :: .int j :: .ref a :: S))) P := by
  obtain ⟨cl, A, q, S', q3, H', G'⟩ := F
  have hin := inb_of S' hj
  obtain ⟨T', h', X', e', W', st⟩ := RoadKit.stZ X hx hZ eT A (j := j) hin (g := mkF m pc Ls (.int x :: .int j :: .ref a :: S)) rfl rfl hd
  subst hv
  exact Go.st st (K T' h' X' e' W' (Arf.set A q S' q3 H' G' (fits_nar_bool _) W' i hji hin))
theorem aastore (X : Stand p l e R s m args below meth c T locs cells slots) (hx : p.tables.exec = Jvm.exec) (hZ : Z.Warmed39 s.vm) (eT : T.heap = h) {a : Addr} {k : ClassId} {ty : FieldType} {n : Int32} {f : Nat → Value} (F : Arf Z h a k ty n f) {j : Int32} {v : Value} (i : Nat) (hji : j.toNatClampNeg = i) (hj : ¬ j < 0 ∧ j < n) (hty : ty.isReference = true) (hfit : fits ty v = true) (hst : v = .null ∨ ∃ y C, v = .ref y ∧ Ovr Z k C ∧ Ins Z h y C true) (hd : decode c.code pc = .ok (.aastore, 1))
    (K : ∀ T' h', Stand p l e R s m args below meth c T' (locs ++ [⟨a, j.toNatClampNeg⟩]) cells slots → T'.heap = h' → Wr h h' a j.toNatClampNeg v → Arf Z h' a k ty n (upd f i v) → Go p e below (T'.setTop (mkF m (pc + 1) Ls S)) P) : Go p e below (T.setTop (mkF m pc Ls (v :: .int j :: .ref a :: S))) P := by
  obtain ⟨cl, A, q, S', q3, H', G'⟩ := F
  have hin := inb_of S' hj
  have sto : Sto Z h a v := by
    rcases hst with rfl | ⟨y, C, rfl, O, I⟩
    · exact Or.inl rfl
    · exact Sto.ofV A q O I
  obtain ⟨T', h', X', e', W', st⟩ := stR X hx hZ eT A (j := j) hin hty sto (g := mkF m pc Ls (v :: .int j :: .ref a :: S)) rfl rfl hd
  exact Go.st st (K T' h' X' e' W' (Arf.set A q S' q3 H' G' hfit W' i hji hin))
theorem iaload (X : Stand p l e R s m args below meth c T locs cells slots) (hx : p.tables.exec = Jvm.exec) (hZ : Z.Warmed39 s.vm) (eT : T.heap = h) {a : Addr} {k : ClassId} {n : Int32} {f : Nat → Value} (F : Arf Z h a k .int n f) {j : Int32} (hj : ¬ j < 0 ∧ j < n) (v : Value) (hv : f j.toNatClampNeg = v) (hd : decode c.code pc = .ok (.iaload, 1)) (K : Go p e below (T.setTop (mkF m (pc + 1) Ls (v :: S))) P) : Go p e below (T.setTop (mkF m pc Ls (.int j :: .ref a :: S))) P := by
  obtain ⟨cl, A, q, S', q3, H', G'⟩ := F
  have hin := inb_of S' hj
  exact Go.st (X.iaload hx (j := j) (v := v) (by rw [eT]; exact A.1) (State.isArrayOf_alike hZ.alike A.2.1) A.2.2 hin ((H' _ (Nat.lt_of_not_le fun q_ => hin (Or.inr q_))).trans (congrArg some hv)) (g := mkF m pc Ls (.int j :: .ref a :: S)) rfl rfl hd) K
theorem caload (X : Stand p l e R s m args below meth c T locs cells slots) (hx : p.tables.exec = Jvm.exec) (hZ : Z.Warmed39 s.vm) (eT : T.heap = h) {a : Addr} {k : ClassId} {n : Int32} {f : Nat → Value} (F : Arf Z h a k .char n f) {j : Int32} (hj : ¬ j < 0 ∧ j < n) (v : Value) (hv : f j.toNatClampNeg = v) (hd : decode c.code pc = .ok (.caload, 1)) (K : Go p e below (T.setTop (mkF m (pc + 1) Ls (v :: S))) P) : Go p e below (T.setTop (mkF m pc Ls (.int j :: .ref a :: S))) P := by
  obtain ⟨cl, A, q, S', q3, H', G'⟩ := F
  have hin := inb_of S' hj
  exact Go.st (X.caload hx (j := j) (v := v) (by rw [eT]; exact A.1) (State.isArrayOf_alike hZ.alike A.2.1) A.2.2 hin ((H' _ (Nat.lt_of_not_le fun q_ => hin (Or.inr q_))).trans (congrArg some hv)) (g := mkF m pc Ls (.int j :: .ref a :: S)) rfl rfl hd) K
theorem baloadB (X : Stand p l e R s m args below meth c T locs cells slots) (hx : p.tables.exec = Jvm.exec) (hZ : Z.Warmed39 s.vm) (eT : T.heap = h) {a : Addr} {k : ClassId} {n : Int32} {f : Nat → Value} (F : Arf Z h a k .byte n f) {j : Int32} (hj : ¬ j < 0 ∧ j < n) (v : Value) (hv : f j.toNatClampNeg = v) (hd : decode c.code pc = .ok (.baload, 1)) (K : Go p e below (T.setTop (mkF m (pc + 1) Ls (v :: S))) P) : Go p e below (T.setTop (mkF m pc Ls (.int j :: .ref a :: S))) P := by
  obtain ⟨cl, A, q, S', q3, H', G'⟩ := F
  have hin := inb_of S' hj
  exact Go.st (X.baloadBytes hx (j := j) (v := v) (by rw [eT]; exact A.1) (State.isArrayOf_alike hZ.alike A.2.1) A.2.2 hin ((H' _ (Nat.lt_of_not_le fun q_ => hin (Or.inr q_))).trans (congrArg some hv)) (g := mkF m pc Ls (.int j :: .ref a :: S)) rfl rfl hd) K
theorem baloadZ (X : Stand p l e R s m args below meth c T locs cells slots) (hx : p.tables.exec = Jvm.exec) (hZ : Z.Warmed39 s.vm) (eT : T.heap = h) {a : Addr} {k : ClassId} {n : Int32} {f : Nat → Value} (F : Arf Z h a k .boolean n f) {j : Int32} (hj : ¬ j < 0 ∧ j < n) (v : Value) (hv : f j.toNatClampNeg = v) (hd : decode c.code pc = .ok (.baload, 1)) (K : Go p e below (T.setTop (mkF m (pc + 1) Ls (v :: S))) P) : Go p e below (T.setTop (mkF m pc Ls (.int j :: .ref a :: S))) P := by
  obtain ⟨cl, A, q, S', q3, H', G'⟩ := F
  have hin := inb_of S' hj
  exact Go.st (X.baloadBooleans hx (j := j) (v := v) (by rw [eT]; exact A.1) (State.isArrayOf_alike hZ.alike A.2.1) A.2.2 hin ((H' _ (Nat.lt_of_not_le fun q_ => hin (Or.inr q_))).trans (congrArg some hv)) (g := mkF m pc Ls (.int j :: .ref a :: S)) rfl rfl hd) K
theorem aaload (X : Stand p l e R s m args below meth c T locs cells slots) (hx : p.tables.exec = Jvm.exec) (hZ : Z.Warmed39 s.vm) (eT : T.heap = h) {a : Addr} {k : ClassId} {ty : FieldType} {n : Int32} {f : Nat → Value} (F : Arf Z h a k ty n f) {j : Int32} (hty : ty.isReference = true) (hj : ¬ j < 0 ∧ j < n) (v : Value) (hv : f j.toNatClampNeg = v) (hd : decode c.code pc = .ok (.aaload, 1)) (K : Go p e below (T.setTop (mkF m (pc + 1) Ls (v :: S))) P) : Go p e below (T.setTop (mkF m pc Ls (.int j :: .ref a :: S))) P := by
  obtain ⟨cl, A, q, S', q3, H', G'⟩ := F
  have hin := inb_of S' hj
  exact Go.st (X.aaload hx (j := j) (v := v) (by rw [eT]; exact A.1) (State.isArrayOf_alike hZ.alike A.2.1) hty A.2.2 hin ((H' _ (Nat.lt_of_not_le fun q_ => hin (Or.inr q_))).trans (congrArg some hv)) (g := mkF m pc Ls (.int j :: .ref a :: S)) rfl rfl hd) K
theorem alen (X : Stand p l e R s m args below meth c T locs cells slots) (hx : p.tables.exec = Jvm.exec) (hZ : Z.Warmed39 s.vm) (eT : T.heap = h) {a : Addr} {k : ClassId} {ty : FieldType} {n : Int32} {f : Nat → Value} (F : Arf Z h a k ty n f) (hd : decode c.code pc = .ok (.arraylength, 1)) (K : Go p e below (T.setTop (mkF m (pc + 1) Ls (.int n :: S))) P) : Go p e below (T.setTop (mkF m pc Ls (.ref a :: S))) P := by
  obtain ⟨cl, A, q, S', q3, H', G'⟩ := F
  have K' := K
  rw [← len_of S' q3] at K'
  exact Go.st (X.arraylength hx (by rw [eT]; exact A.1) (State.isArrayOf_alike hZ.alike A.2.1) (g := mkF m pc Ls (.ref a :: S)) rfl rfl hd) K'
theorem castY (X : Stand p l e R s m args below meth c T locs cells slots) (hx : p.tables.exec = Jvm.exec) (hZ : Z.Warmed39 s.vm) {own : String} {index : Nat} (hown : s.vm.findClass own = some m.cls) {K0 : String} (w : (Cond.classLink own index K0).before a0 Z = true) (eT : T.heap = h) {a : Addr} (F : Ins Z h a K0 true) (hd : decode c.code pc = .ok (.checkcast index, 3)) (K : ∀ T', Stand p l e R s m args below meth c T' locs cells slots → T'.heap = h → Go p e below (T'.setTop (mkF m (pc + 3) Ls (.ref a :: S))) P) : Go p e below (T.setTop (mkF m pc Ls (.ref a :: S))) P := by
  obtain ⟨T', X', e', st⟩ := RoadKit.castY X hx hZ hown w eT F (g := mkF m pc Ls (.ref a :: S)) rfl rfl hd
  exact Go.st st (K T' X' e')
theorem clone (X : Stand p l e R s m args below meth c T locs cells slots) (hx : p.tables.exec = Jvm.exec) (hZ : Z.Warmed39 s.vm) {own : String} {index : Nat} (hown : s.vm.findClass own = some m.cls) {ad : String} (w1 : (Cond.methodLink own index ⟨ad, "clone", "()Ljava/lang/Object;"⟩).before a0 Z = true) (w2 : (Cond.sameMethod ad "java/lang/Object" "clone" "()Ljava/lang/Object;").before a0 Z = true) (w3 : (Cond.native ⟨"java/lang/Object", "clone", "()Ljava/lang/Object;"⟩).before a0 Z = true) (w4 : (Cond.instanceMethod ⟨"java/lang/Object", "clone", "()Ljava/lang/Object;"⟩).before a0 Z = true) (w5 : (Cond.selects ad ⟨ad, "clone", "()Ljava/lang/Object;"⟩ ⟨"java/lang/Object", "clone", "()Ljava/lang/Object;"⟩).before a0 Z = true) (w6 : (Cond.castable ad "java/lang/Cloneable").before a0 Z = true)
    (eT : T.heap = h) {a : Addr} {k : ClassId} {ty : FieldType} {n : Int32} {f : Nat → Value} (F : Arf Z h a k ty n f) (E : Exa Z h a ad) (hsize : Ls.size = c.maxLocals) (hd : decode c.code pc = .ok (.invokevirtual index, 3)) (hf : 1 ≤ R.frames) {cap : Nat} (hl : (S.map fun v => v.category).sum + 14 ≤ R.locals) (hcap : n.toNatClampNeg ≤ cap) (hc : cells + 1 ≤ R.cells) (hsl : slots + cap ≤ R.slots)
    (K : ∀ T' h' b, Stand p l e R s m args below meth c T' locs (cells + 1) (slots + cap) → T'.heap = h' → Ext h h' → b = h.size → Arf Z h' b k ty n f → Exa Z h' b ad → Go p e below (T'.setTop (mkF m (pc + 3) Ls (.ref b :: S))) P) : Go p e below (T.setTop (mkF m pc Ls (.ref a :: S))) P := by
  obtain ⟨T', h', X', e', E', A', B', st⟩ := cloneH X hx hZ hown w1 w2 w3 w4 w5 w6 eT (Arv.arh (Arf.arv F .null)) E (g := mkF m pc Ls (.ref a :: S)) rfl hsize rfl hd hf (W := (S.map fun v => v.category).sum) (by show 2 * 0 + _ ≤ _; omega) hl hcap hc hsl
  exact Go.st st (K T' h' _ X' e' E' rfl (Arf.ofArv (show Arv Z h' h.size k ty n ((List.range n.toNatClampNeg).map f) .null from A') fun i hi => own_mapD f .null _ i hi) B')
theorem copy (X : Stand p l e R s m args below meth c T locs cells slots) (hx : p.tables.exec = Jvm.exec) (hZ : Z.Warmed39 s.vm) {own : String} {index : Nat} (hown : s.vm.findClass own = some m.cls) (w1 : (Cond.methodLink own index Jvm.Stand.acN).before a0 Z = true) (w2 : (Cond.native Jvm.Stand.acN).before a0 Z = true) (w3 : (Cond.static Jvm.Stand.acN).before a0 Z = true) (w4 : (Cond.initialized "java/lang/System").before a0 Z = true) (eT : T.heap = h)
    {a b : Addr} {k k' : ClassId} {ty : FieldType} {n n' sp dp nn : Int32} {f g : Nat → Value} (A : Arf Z h a k ty n f) (B : Arf Z h b k' ty n' g) (hty : refKind ty = false) (h1 : ¬ sp < 0) (h2 : ¬ dp < 0) (h3 : ¬ nn < 0) (h4 : sp.toNatClampNeg + nn.toNatClampNeg ≤ n.toNatClampNeg) (h5 : dp.toNatClampNeg + nn.toNatClampNeg ≤ n'.toNatClampNeg) {n0 : Nat} (N : Fr n0 locs) (ge : n0 ≤ b) (g' : Nat → Value) (hg' : ∀ i, i < n'.toNatClampNeg → (if dp.toNatClampNeg ≤ i ∧ i < dp.toNatClampNeg + nn.toNatClampNeg then f (sp.toNatClampNeg + (i - dp.toNatClampNeg)) else g i) = g' i)
    (hsize : Ls.size = c.maxLocals) (hd : decode c.code pc = .ok (.invokestatic index, 3)) (hf : 1 ≤ R.frames) (hlo : (S.map fun v => v.category).sum + (nativeFrameWords "java/lang/System" "arraycopy" 5 + 11) ≤ R.locals)
    (K : ∀ T' h' L, Stand p l e R s m args below meth c T' L cells slots → T'.heap = h' → Fr n0 L → Keep h h' [b] → Arf Z h' b k' ty n' g' → Go p e below (T'.setTop (mkF m (pc + 3) Ls S)) P) : Go p e below (T.setTop (mkF m pc Ls (.int nn :: .int dp :: .ref b :: .int sp :: .ref a :: S))) P := by
  obtain ⟨T', h', L, X', e', N', K', V', st⟩ := cpF X hx hZ hown w1 w2 w3 w4 eT A B hty h1 h2 h3 h4 h5 N ge (g := mkF m pc Ls (.int nn :: .int dp :: .ref b :: .int sp :: .ref a :: S)) rfl hsize rfl hd hf (W := (S.map fun v => v.category).sum) (by show 2 * 0 + _ ≤ _; omega) hlo
  exact Go.st st (K T' h' L X' e' N' K' (Arf.same V' hg'))
theorem callS (X : Stand p l e R s m args below meth c T locs cells slots) (hx : p.tables.exec = Jvm.exec) (hZ : Z.Warmed39 s.vm) {own : String} {index : Nat} (hown : s.vm.findClass own = some m.cls) {y : MethodName} {bytes : ByteArray} {maxL : Nat} {ret : Option FieldType} {rm : Room} {as' : Array Value} {Q : Option Value → Heap → List Loc → Prop} {ps : List FieldType} {r : Option FieldType} {argsL : List Value} (hM : MetFree l y (head1 [Cond.code y bytes maxL ret] rm) (fun a U => a = as' ∧ Z.Warmed39 U.vm ∧ U.heap = h) (fun _ _ _ _ _ => True) (fun _ U o U' => ∃ v L, o = .returned v ∧ Q v U'.heap L ∧ FrameEnd U o U' L rm.cells rm.slots)) (wl : (Cond.methodLink own index y).before a0 Z = true) (ws : (Cond.static y).before a0 Z = true) (wi : (Cond.initialized y.cls).before a0 Z = true) (wc : (Cond.code y bytes maxL ret).before a0 Z = true) (hy : y.cls ≠ "java/lang/invoke/MethodHandle" ∧ y.cls ≠ "java/lang/invoke/VarHandle") (eT : T.heap = h) (hpd : parseMethodDescriptor y.desc = some ⟨ps, r⟩) (hlen : argsL.length = ps.length) (has : argsL.toArray = as') (hfr : rm.frames + 1 ≤ R.frames) (hlo : (S.map fun v => v.category).sum + (maxL + 11) + rm.locals ≤ R.locals) (hc : cells + rm.cells ≤ R.cells) (hs : slots + rm.slots ≤ R.slots) (hsize : Ls.size = c.maxLocals) {st0 : List Value} (hst : st0 = argsL.reverse ++ S) (hd : decode c.code pc = .ok (.invokestatic index, 3))
    (K : ∀ T' Lc v, Stand p l e R s m args below meth c T' (locs ++ Lc) (cells + rm.cells) (slots + rm.slots) → Q v T'.heap Lc → Go p e below (T'.setTop (mkF m (pc + 3) Ls (v.toList ++ S))) P) : Go p e below (T.setTop (mkF m pc Ls st0)) P := by
  subst hst
  obtain ⟨v, _, ⟨T', L', k', n'⟩, -, X', ⟨Lc, hQ, l', k', n'⟩, st⟩ := Jvm.LawKit.callS X hx (y := y) hown (mvT hZ wl) (mvT hZ ws) (mvT hZ wi) (mvT hZ wc) hy (backOf (W := (S.map fun v => v.category).sum) hM hZ wc wi hfr hlo) (g := mkF m pc Ls (argsL.reverse ++ S)) rfl hsize (argsL := argsL) (rest := S) (lenOf hpd hlen) rfl (by show 2 * 0 + _ ≤ _; omega) hd (fun _ _ => ⟨has, eT, hc, hs⟩)
  dsimp only [Pt.U, Pt.locs, Pt.cells, Pt.slots] at X' l' k' n' st hQ
  subst l' k' n'
  exact Go.st st (K T' Lc v X' hQ)
theorem callV (X : Stand p l e R s m args below meth c T locs cells slots) (hx : p.tables.exec = Jvm.exec) (hZ : Z.Warmed39 s.vm) {own : String} {index : Nat} (hown : s.vm.findClass own = some m.cls) {y : MethodName} {bytes : ByteArray} {maxL : Nat} {ret : Option FieldType} {rm : Room} {as' : Array Value} {Q : Option Value → Heap → List Loc → Prop} {ps : List FieldType} {r : Option FieldType} {argsL : List Value} {z : MethodName} {C : String} (hM : MetFree l y (head1 [Cond.code y bytes maxL ret] rm) (fun a U => a = as' ∧ Z.Warmed39 U.vm ∧ U.heap = h) (fun _ _ _ _ _ => True) (fun _ U o U' => ∃ v L, o = .returned v ∧ Q v U'.heap L ∧ FrameEnd U o U' L rm.cells rm.slots)) (wl : (Cond.methodLink own index z).before a0 Z = true) (wd : (Cond.declares z).before a0 Z = true) (hnf : NotFace s z) (wsel : (Cond.selects C z y).before a0 Z = true) (wi : (Cond.instanceMethod y).before a0 Z = true) (hy : z.cls ≠ "java/lang/invoke/MethodHandle" ∧ z.cls ≠ "java/lang/invoke/VarHandle") (wc : (Cond.code y bytes maxL ret).before a0 Z = true) (wz : (Cond.initialized y.cls).before a0 Z = true) (eT : T.heap = h) {o : Addr} (E : Exa Z h o C) (hpd : parseMethodDescriptor z.desc = some ⟨ps, r⟩) (hlen : argsL.length = ps.length) (has : (.ref o :: argsL).toArray = as') (hfr : rm.frames + 1 ≤ R.frames) (hlo : (S.map fun v => v.category).sum + (maxL + 11) + rm.locals ≤ R.locals) (hc : cells + rm.cells ≤ R.cells) (hs : slots + rm.slots ≤ R.slots) (hsize : Ls.size = c.maxLocals) {st0 : List Value} (hst : st0 = argsL.reverse ++ .ref o :: S) (hd : decode c.code pc = .ok (.invokevirtual index, 3))
    (K : ∀ T' Lc v, Stand p l e R s m args below meth c T' (locs ++ Lc) (cells + rm.cells) (slots + rm.slots) → Q v T'.heap Lc → Go p e below (T'.setTop (mkF m (pc + 3) Ls (v.toList ++ S))) P) : Go p e below (T.setTop (mkF m pc Ls st0)) P := by
  subst hst
  obtain ⟨cq, kq, qa, qb, qc⟩ := isOf hZ eT E
  obtain ⟨v, _, ⟨T', L', k', n'⟩, -, X', ⟨Lc, hQ, l', k', n'⟩, st⟩ := X.virtualBack hx (y := z) (z := y) hown (mvT hZ wl) (mvT hZ wd) hnf (mvT hZ wsel) (mvT hZ wi) hy (backOf (W := (S.map fun v => v.category).sum) hM hZ wc wz hfr hlo) qa qc (g := mkF m pc Ls (argsL.reverse ++ .ref o :: S)) rfl hsize (Steps.refl _) (argsL := argsL) (rest := S) (lenOf hpd hlen) rfl (by show 2 * 0 + _ ≤ _; omega) hd (fun _ _ => ⟨has, eT, hc, hs⟩)
  dsimp only [Pt.U, Pt.locs, Pt.cells, Pt.slots] at X' l' k' n' st hQ
  subst l' k' n'
  exact Go.tr st (K T' Lc v X' hQ)
theorem callI (X : Stand p l e R s m args below meth c T locs cells slots) (hx : p.tables.exec = Jvm.exec) (hZ : Z.Warmed39 s.vm) {own : String} {index : Nat} (hown : s.vm.findClass own = some m.cls) {y : MethodName} {bytes : ByteArray} {maxL : Nat} {ret : Option FieldType} {rm : Room} {as' : Array Value} {Q : Option Value → Heap → List Loc → Prop} {ps : List FieldType} {r : Option FieldType} {argsL : List Value} (hM : MetFree l y (head1 [Cond.code y bytes maxL ret] rm) (fun a U => a = as' ∧ Z.Warmed39 U.vm ∧ U.heap = h) (fun _ _ _ _ _ => True) (fun _ U o U' => ∃ v L, o = .returned v ∧ Q v U'.heap L ∧ FrameEnd U o U' L rm.cells rm.slots)) (hyi : y.name = "<init>") (wl : (Cond.methodLink own index y).before a0 Z = true) (wi : (Cond.instanceMethod y).before a0 Z = true) (wc : (Cond.code y bytes maxL none).before a0 Z = true) (hret : ret = none) (hy : y.cls ≠ "java/lang/invoke/MethodHandle" ∧ y.cls ≠ "java/lang/invoke/VarHandle") (wz : (Cond.initialized y.cls).before a0 Z = true) (eT : T.heap = h) {o : Addr} (hpd : parseMethodDescriptor y.desc = some ⟨ps, r⟩) (hlen : argsL.length = ps.length) (has : (.ref o :: argsL).toArray = as') (hfr : rm.frames + 1 ≤ R.frames) (hlo : (S.map fun v => v.category).sum + (maxL + 11) + rm.locals ≤ R.locals) (hc : cells + rm.cells ≤ R.cells) (hs : slots + rm.slots ≤ R.slots) (hsize : Ls.size = c.maxLocals) {st0 : List Value} (hst : st0 = argsL.reverse ++ .ref o :: S) (hd : decode c.code pc = .ok (.invokespecial index, 3))
    (K : ∀ T' Lc v, Stand p l e R s m args below meth c T' (locs ++ Lc) (cells + rm.cells) (slots + rm.slots) → Q v T'.heap Lc → Go p e below (T'.setTop (mkF m (pc + 3) Ls (v.toList ++ S))) P) : Go p e below (T.setTop (mkF m pc Ls st0)) P := by
  subst hst hret
  obtain ⟨v, _, ⟨T', L', k', n'⟩, -, X', ⟨Lc, hQ, l', k', n'⟩, st⟩ := X.specialBack hx (y := y) hyi hown (mvT hZ wl) (mvT hZ wi) (mvT hZ wc) hy (backOf (W := (S.map fun v => v.category).sum) hM hZ wc wz hfr hlo) (g := mkF m pc Ls (argsL.reverse ++ .ref o :: S)) rfl hsize (Steps.refl _) (a := o) (argsL := argsL) (rest := S) (lenOf hpd hlen) rfl (by show 2 * 0 + _ ≤ _; omega) hd (fun _ _ => ⟨has, eT, hc, hs⟩)
  dsimp only [Pt.U, Pt.locs, Pt.cells, Pt.slots] at X' l' k' n' st hQ
  subst l' k' n'
  exact Go.tr st (K T' Lc v X' hQ)
theorem selPriv {st : State} {as : Array Value} {y : MethodName} {n : Nat} (hy : y.cls ≠ "java/lang/invoke/MethodHandle" ∧ y.cls ≠ "java/lang/invoke/VarHandle") (hins : (Cond.instantiable y.cls n).before as st = true) (hpriv : (Cond.privateMethod y).before as st = true) (hinst : (Cond.instanceMethod y).before as st = true) : (Cond.selects y.cls y y).before as st = true := by
  obtain ⟨c, k, hc, hk, -, hniab, -, -⟩ := Cond.instantiable_spec hins
  have hni : k.isInterface = false := (Bool.or_eq_false_iff.mp hniab).1
  obtain ⟨mk, methM, hnamed, hmethM, -, -⟩ := Cond.instanceMethod_spec hinst
  have hfound : st.methodFound? y.cls y.name y.desc = some mk := State.methodFound?_of_named hnamed hy
  have hcls : mk.cls = c := Option.some.inj ((findClass_of_methodNamed hnamed).symm.trans hc)
  have hsel : selectMethod {} st.vm c mk = .method mk := selectMethod_private hmethM (Cond.privateMethod_at hpriv mk methM hnamed hmethM)
  simp only [Cond.before, Cond.holds, Cond.value, hc, hfound, hnamed, hsel, hcls, hk]
  simp; exact hni
theorem callP (X : Stand p l e R s m args below meth c T locs cells slots) (hx : p.tables.exec = Jvm.exec) (hZ : Z.Warmed39 s.vm) {own : String} {index : Nat} (hown : s.vm.findClass own = some m.cls) {y : MethodName} {bytes : ByteArray} {maxL : Nat} {ret : Option FieldType} {rm : Room} {as' : Array Value} {Q : Option Value → Heap → List Loc → Prop} {ps : List FieldType} {r : Option FieldType} {argsL : List Value} {C : String} {kk : Nat} (hM : MetFree l y (head1 [Cond.code y bytes maxL ret] rm) (fun a U => a = as' ∧ Z.Warmed39 U.vm ∧ U.heap = h) (fun _ _ _ _ _ => True) (fun _ U o U' => ∃ v L, o = .returned v ∧ Q v U'.heap L ∧ FrameEnd U o U' L rm.cells rm.slots)) (wl : (Cond.methodLink own index y).before a0 Z = true) (wi : (Cond.instanceMethod y).before a0 Z = true) (wn : (Cond.instantiable y.cls kk).before a0 Z = true) (wp : (Cond.privateMethod y).before a0 Z = true) (hy : y.cls ≠ "java/lang/invoke/MethodHandle" ∧ y.cls ≠ "java/lang/invoke/VarHandle") (wc : (Cond.code y bytes maxL ret).before a0 Z = true) (wz : (Cond.initialized y.cls).before a0 Z = true) (eT : T.heap = h) {o : Addr} (E : Exa Z h o C) (hpd : parseMethodDescriptor y.desc = some ⟨ps, r⟩) (hlen : argsL.length = ps.length) (has : (.ref o :: argsL).toArray = as') (hfr : rm.frames + 1 ≤ R.frames) (hlo : (S.map fun v => v.category).sum + (maxL + 11) + rm.locals ≤ R.locals) (hc : cells + rm.cells ≤ R.cells) (hs : slots + rm.slots ≤ R.slots) (hsize : Ls.size = c.maxLocals) {st0 : List Value} (hst : st0 = argsL.reverse ++ .ref o :: S) (hd : decode c.code pc = .ok (.invokevirtual index, 3))
    (K : ∀ T' Lc v, Stand p l e R s m args below meth c T' (locs ++ Lc) (cells + rm.cells) (slots + rm.slots) → Q v T'.heap Lc → Go p e below (T'.setTop (mkF m (pc + 3) Ls (v.toList ++ S))) P) : Go p e below (T.setTop (mkF m pc Ls st0)) P := by
  subst hst
  obtain ⟨cq, q1, q2⟩ := E.cell
  obtain ⟨v, _, ⟨T', L', k', n'⟩, -, X', ⟨Lc, hQ, l', k', n'⟩, st⟩ := X.privateBack hx (y := y) hown (mvT hZ wl) (mvT hZ wi) (mvT hZ (selPriv hy wn wp wi)) (Cond.privateMethod_at (mvP hZ wp (args := #[]))) (mvT hZ wc) hy (backOf (W := (S.map fun v => v.category).sum) hM hZ wc wz hfr hlo) (g := mkF m pc Ls (argsL.reverse ++ .ref o :: S)) rfl hsize (Steps.refl _) (a := o) (by rw [eT]; exact q1) q2 (argsL := argsL) (rest := S) (lenOf hpd hlen) rfl (by show 2 * 0 + _ ≤ _; omega) hd (fun _ _ => ⟨has, eT, hc, hs⟩)
  dsimp only [Pt.U, Pt.locs, Pt.cells, Pt.slots] at X' l' k' n' st hQ
  subst l' k' n'
  exact Go.tr st (K T' Lc v X' hQ)
theorem grid1 (X : Stand p l e R s m args below meth c T locs cells slots) (hx : p.tables.exec = Jvm.exec) (hZ : Z.Warmed39 s.vm) {own : String} {index : Nat} (hown : s.vm.findClass own = some m.cls) {C ad : String} {ty : FieldType} (hC : (FieldType.array ty).toString = C) (had : "[" ++ C = ad) (w1 : (Cond.classLink own index ad).before a0 Z = true) (w2 : (Cond.arrayOver (.array ty)).before a0 Z = true) (w3 : (Cond.arrayClass ty).before a0 Z = true) (eT : T.heap = h) {k : Int32} (hd : decode c.code pc = .ok (.multianewarray index 2, 4)) (hk : ¬ k < 0) {cap : Nat} (hcap : k.toNatClampNeg ≤ cap) (hb : cap * 8 ≤ 536870912) (hdf : fits ty (defaultValue ty) = true) (hdd : (defaultValue ty).isDefault = true) (hc : cells + (1 + 1) ≤ R.cells) (hl : slots + (1 + 1 * cap) ≤ R.slots)
    (K : ∀ T' h' b b1 cA comp, Stand p l e R s m args below meth c T' locs (cells + (1 + 1)) (slots + (1 + 1 * cap)) → T'.heap = h' → Ext h h' → b = h.size → b1 = h.size + 1 → Arf Z h' b cA (.array ty) (1 : Int32) (fun _ => .ref b1) → Arf Z h' b1 comp ty k (fun _ => defaultValue ty) → Exa Z h' b ad → Exa Z h' b1 C → OvrA Z cA ty C → Go p e below (T'.setTop (mkF m (pc + 4) Ls (.ref b :: S))) P) : Go p e below (T.setTop (mkF m pc Ls (.int k :: .int (1 : Int32) :: S))) P := by
  obtain ⟨T', h', cA, comp, X', e', E', V', O', B', I', st⟩ := gridM X hx hZ hown hC had w1 w2 w3 eT (g := mkF m pc Ls (.int k :: .int (1 : Int32) :: S)) rfl hd rfl (by decide) hk (xs := [h.size + 1]) (N := 1) rfl rfl hcap hb (by decide) hdf hdd hc hl
  obtain ⟨A1, B1⟩ := I' 0 (h.size + 1) rfl
  refine Go.st st (K T' h' _ _ cA comp X' e' E' rfl rfl (Arf.ofArv V' fun i hi => ?_) (Arf.new A1 hk) B' B1 O')
  have hi' : i < 1 := hi
  obtain rfl : i = 0 := by omega
  rfl
theorem dupX2 (X : Stand p l e R s m args below meth c T locs cells slots) (hx : p.tables.exec = Jvm.exec) {x y z : Value} (hd : decode c.code pc = .ok (.dup_x2, 1)) (h1 : x.category = 1) (h2 : y.category = 1) (h3 : z.category = 1) (K : Go p e below (T.setTop (mkF m (pc + 1) Ls (x :: y :: z :: x :: S))) P) : Go p e below (T.setTop (mkF m pc Ls (x :: y :: z :: S))) P := by
  refine Go.st (fun _ q_ => ?_) K
  show Steps p.tables e below (T.setTop { method := m, pc := pc, locals := Ls, stack := x :: y :: z :: S, locked := none }) _
  jvm_step X.here [X.here.top, hx, hd, h1, h2, h3]
  exact q_
theorem ldcS {vm0 : Vm} (X : Stand p l e R (s.setVm vm0) m args below meth c T locs cells slots) (hx : p.tables.exec = Jvm.exec) (hZ : Z.Warmed39 (s.setVm vm0).vm) {own text : String} {index : Nat} (hown : (s.setVm vm0).vm.findClass own = some m.cls) (w : (Cond.stringLink own index text).before a0 Z = true) (wS : ∀ a ∈ Bundle.stringAtoms, a.before a0 Z = true) (eT : T.heap = h) {k0 : Nat} (hS : s.Since vm0 k0) (hk : k0 ≤ h.size) (hd : decode c.code pc = .ok (.ldc index, 2)) {n : Nat} (hn : 4 * text.toList.length ≤ n) (hbig : n ≤ 536870912) (hc : cells + 2 ≤ R.cells) (hl : slots + (n + 4) ≤ R.slots)
    (K : ∀ a T' h' k1, Stand p l e R (s.setVm T'.vm) m args below meth c T' locs (cells + 2) (slots + (n + 4)) → T'.heap = h' → Ext h h' → s.Since T'.vm k1 → k1 ≤ h'.size → Z.Warmed39 (s.setVm T'.vm).vm → (s.setVm T'.vm).vm.findClass own = some m.cls → Go p e below (T'.setTop (mkF m (pc + 2) Ls (.ref a :: S))) P) : Go p e below (T.setTop (mkF m pc Ls S)) P := by
  obtain ⟨a, T', h', k1, X', e', E', S', q', Z', o', st⟩ := RoadKit.ldcS X hx hZ hown w wS eT hS hk (g := mkF m pc Ls S) rfl hd hn hbig hc hl
  exact Go.st st (K a T' h' k1 X' e' E' S' q' Z' o')
theorem finW {vm0 : Vm} (X : Stand p l e R (s.setVm vm0) m args below meth c T locs cells slots) (eT : T.heap = h) {k0 : Nat} (hS : s.Since vm0 k0) (hk : k0 ≤ h.size) {v : Option Value} (hv : meth.sig.returnType = none → v = none) (hlocks : meth.locks = false) {U : State}
    (st : ∀ fs, (∀ (f : JFrame) (acts : List Action), f.method = m → f.locked = none → f.entered = [] → (doReturn e (T.setTop f) acts v).1 = T.setFrames fs) → Steps p.tables e below U (T.setFrames fs))
    (hP : ∀ U' : State, U'.heap = T.heap → ReturnedEndW s (.returned v) U' locs cells slots → P (.returned v) U') : Go p e below U P := by
  obtain ⟨fs, hr, hrun, hended, hW⟩ := X.leaveW hS (by rw [eT]; exact hk) hv hlocks
  exact ⟨_, _, st fs hr, hrun, hended, hP _ rfl hW⟩
end GkKit
end Gk
namespace Gk
section HeldKit
variable {p : Program} {l : Launch} {e : Env} {R : Room} {s : State} {m : MethodId} {args : Array Value} {below : List Frame} {meth : Method} {c : Code} {T : State} {locs : List Loc} {cells slots : Nat} {Ls : Array Slot} {S : List Value} {pc : Nat} {P : Outcome → State → Prop} {Z : State} {a0 : Array Value} {h : Heap} {EL : List (String × Nat)}
theorem callSH {vm0 : Vm} (X : Stand p l e R (s.setVm vm0) m args below meth c T locs cells slots) (hx : p.tables.exec = Jvm.exec) (hZ : Z.Warmed39 (s.setVm vm0).vm) {own : String} {index : Nat} (hown : (s.setVm vm0).vm.findClass own = some m.cls) {y : MethodName} {bytes : ByteArray} {maxL : Nat} {ret : Option FieldType} {rm : Room} {as' : Array Value} {Q : Option Value → Heap → List Loc → Prop} {ps : List FieldType} {r : Option FieldType} {argsL : List Value} (hM : MetFree l y (head1 [Cond.code y bytes maxL ret] rm) (fun a U => a = as' ∧ Z.Warmed39 U.vm ∧ U.heap = h ∧ CHv Z EL U.vm h) (fun _ _ _ _ _ => True) (fun _ U o U' => ∃ v L, o = .returned v ∧ Q v U'.heap L ∧ CHr Z EL U.vm U.heap U'.vm U'.heap ∧ ReturnedEndW U o U' L rm.cells rm.slots)) (wl : (Cond.methodLink own index y).before a0 Z = true) (ws : (Cond.static y).before a0 Z = true) (wi : (Cond.initialized y.cls).before a0 Z = true) (wc : (Cond.code y bytes maxL ret).before a0 Z = true) (hy : y.cls ≠ "java/lang/invoke/MethodHandle" ∧ y.cls ≠ "java/lang/invoke/VarHandle") (eT : T.heap = h) {k0 : Nat} (hS : s.Since vm0 k0) (hk : k0 ≤ h.size) (hEL : EW Z a0 EL) (hH : CHv Z EL vm0 h) (hpd : parseMethodDescriptor y.desc = some ⟨ps, r⟩) (hlen : argsL.length = ps.length) (has : argsL.toArray = as') (hfr : rm.frames + 1 ≤ R.frames) (hlo : (S.map fun v => v.category).sum + (maxL + 11) + rm.locals ≤ R.locals) (hc : cells + rm.cells ≤ R.cells) (hs : slots + rm.slots ≤ R.slots) (hsize : Ls.size = c.maxLocals) {st0 : List Value} (hst : st0 = argsL.reverse ++ S) (hd : decode c.code pc = .ok (.invokestatic index, 3))
    (K : ∀ T' Lc v k1, Stand p l e R (s.setVm T'.vm) m args below meth c T' (locs ++ Lc) (cells + rm.cells) (slots + rm.slots) → s.Since T'.vm k1 → k1 ≤ T'.heap.size → Z.Warmed39 (s.setVm T'.vm).vm → (s.setVm T'.vm).vm.findClass own = some m.cls → CHr Z EL vm0 h T'.vm T'.heap → Q v T'.heap Lc → Go p e below (T'.setTop (mkF m (pc + 3) Ls (v.toList ++ S))) P) : Go p e below (T.setTop (mkF m pc Ls st0)) P := by
  subst hst
  obtain ⟨v, _, ⟨T', L', k', n'⟩, -, X', h2, g2, ⟨Lc, hQ, l', k', n', C'⟩, st⟩ := callSS X hx (y := y) hown (mvT hZ wl) (mvT hZ ws) (mvT hZ wi) (mvT hZ wc) hy (backOfSH (W := (S.map fun v => v.category).sum) hM hZ wc wi hfr hlo hEL hH) (g := mkF m pc Ls (argsL.reverse ++ S)) rfl hsize (argsL := argsL) (rest := S) (lenOf hpd hlen) rfl (by show 2 * 0 + _ ≤ _; omega) hd (fun _ _ => ⟨has, eT, hc, hs⟩)
  dsimp only [Pt.U, Pt.locs, Pt.cells, Pt.slots] at X' l' k' n' st hQ C' h2 g2
  subst l' k' n'
  subst eT
  obtain ⟨Y1, Y2, Y3, Y4⟩ := rebS hS hk X' h2 g2 hZ hown
  exact Go.tr st (K T' Lc v _ Y1 Y2 (Nat.le_refl _) Y3 Y4 C' hQ)
theorem callIH {vm0 : Vm} (X : Stand p l e R (s.setVm vm0) m args below meth c T locs cells slots) (hx : p.tables.exec = Jvm.exec) (hZ : Z.Warmed39 (s.setVm vm0).vm) {own : String} {index : Nat} (hown : (s.setVm vm0).vm.findClass own = some m.cls) {y : MethodName} {bytes : ByteArray} {maxL : Nat} {ret : Option FieldType} {rm : Room} {as' : Array Value} {Q : Option Value → Heap → List Loc → Prop} {ps : List FieldType} {r : Option FieldType} {argsL : List Value} (hM : MetFree l y (head1 [Cond.code y bytes maxL ret] rm) (fun a U => a = as' ∧ Z.Warmed39 U.vm ∧ U.heap = h ∧ CHv Z EL U.vm h) (fun _ _ _ _ _ => True) (fun _ U o U' => ∃ v L, o = .returned v ∧ Q v U'.heap L ∧ CHr Z EL U.vm U.heap U'.vm U'.heap ∧ ReturnedEndW U o U' L rm.cells rm.slots)) (hyi : y.name = "<init>") (wl : (Cond.methodLink own index y).before a0 Z = true) (wi : (Cond.instanceMethod y).before a0 Z = true) (wc : (Cond.code y bytes maxL none).before a0 Z = true) (hret : ret = none) (hy : y.cls ≠ "java/lang/invoke/MethodHandle" ∧ y.cls ≠ "java/lang/invoke/VarHandle") (wz : (Cond.initialized y.cls).before a0 Z = true) (eT : T.heap = h) {o : Addr} {k0 : Nat} (hS : s.Since vm0 k0) (hk : k0 ≤ h.size) (hEL : EW Z a0 EL) (hH : CHv Z EL vm0 h) (hpd : parseMethodDescriptor y.desc = some ⟨ps, r⟩) (hlen : argsL.length = ps.length) (has : (.ref o :: argsL).toArray = as') (hfr : rm.frames + 1 ≤ R.frames) (hlo : (S.map fun v => v.category).sum + (maxL + 11) + rm.locals ≤ R.locals) (hc : cells + rm.cells ≤ R.cells) (hs : slots + rm.slots ≤ R.slots) (hsize : Ls.size = c.maxLocals) {st0 : List Value} (hst : st0 = argsL.reverse ++ .ref o :: S) (hd : decode c.code pc = .ok (.invokespecial index, 3))
    (K : ∀ T' Lc v k1, Stand p l e R (s.setVm T'.vm) m args below meth c T' (locs ++ Lc) (cells + rm.cells) (slots + rm.slots) → s.Since T'.vm k1 → k1 ≤ T'.heap.size → Z.Warmed39 (s.setVm T'.vm).vm → (s.setVm T'.vm).vm.findClass own = some m.cls → CHr Z EL vm0 h T'.vm T'.heap → Q v T'.heap Lc → Go p e below (T'.setTop (mkF m (pc + 3) Ls (v.toList ++ S))) P) : Go p e below (T.setTop (mkF m pc Ls st0)) P := by
  subst hst
  subst hret
  obtain ⟨v, _, ⟨T', L', k', n'⟩, -, X', h2, g2, ⟨Lc, hQ, l', k', n', C'⟩, st⟩ := X.specialBackS hx (y := y) hyi hown (mvT hZ wl) (mvT hZ wi) (mvT hZ wc) hy (backOfSH (W := (S.map fun v => v.category).sum) hM hZ wc wz hfr hlo hEL hH) (g := mkF m pc Ls (argsL.reverse ++ .ref o :: S)) rfl hsize (Steps.refl _) (a := o) (argsL := argsL) (rest := S) (lenOf hpd hlen) rfl (by show 2 * 0 + _ ≤ _; omega) hd (fun _ _ => ⟨has, eT, hc, hs⟩)
  dsimp only [Pt.U, Pt.locs, Pt.cells, Pt.slots] at X' l' k' n' st hQ C' h2 g2
  subst l' k' n'
  subst eT
  obtain ⟨Y1, Y2, Y3, Y4⟩ := rebS hS hk X' h2 g2 hZ hown
  exact Go.tr st (K T' Lc v _ Y1 Y2 (Nat.le_refl _) Y3 Y4 C' hQ)
theorem ldcH {vm0 : Vm} (X : Stand p l e R (s.setVm vm0) m args below meth c T locs cells slots) (hx : p.tables.exec = Jvm.exec) (hZ : Z.Warmed39 (s.setVm vm0).vm) {own : String} {index : Nat} (hown : (s.setVm vm0).vm.findClass own = some m.cls) {text : String} (w : (Cond.stringLink own index text).before a0 Z = true) (wS : ∀ a ∈ Bundle.stringAtoms, a.before a0 Z = true) (eT : T.heap = h) {k0 : Nat} (hS : s.Since vm0 k0) (hk : k0 ≤ h.size) (hEL : EW Z a0 EL) (hmem : (own, index) ∈ EL) (hH : CHv Z EL vm0 h) {cs : List Int32} {z : Int32} (ht : (∀ c ∈ text.toList, c.toNat < 256) ∧ text.toList.map (fun c => Value.int (Jvm.Lit.byteI c.toNat.toUInt16)) = cs.map Value.int ∧ ¬ z < 0 ∧ z.toNatClampNeg = cs.length) (hd : decode c.code pc = .ok (.ldc index, 2)) {n : Nat} (hn : 4 * text.toList.length ≤ n) (hbig : n ≤ 536870912) (hc : cells + 2 ≤ R.cells) (hl : slots + (n + 4) ≤ R.slots)
    (K : ∀ a T' h' k1 b kb, Stand p l e R (s.setVm T'.vm) m args below meth c T' locs (cells + 2) (slots + (n + 4)) → T'.heap = h' → Ext h h' → s.Since T'.vm k1 → k1 ≤ h'.size → Z.Warmed39 (s.setVm T'.vm).vm → (s.setVm T'.vm).vm.findClass own = some m.cls →
      Exa Z h' a "java/lang/String" → Fld Z h' a "java/lang/String" "coder" "B" (.int (0 : Int32)) → Fld Z h' a "java/lang/String" "value" "[B" (.ref b) → Arf Z h' b kb .byte z (fun i => .int (cs.getD i 0)) → a < h'.size → b < h'.size → CHr Z EL vm0 h T'.vm h' → Lit (s.setVm T'.vm) own index a → (∀ x, Safe Z EL T'.vm h' x → x ≠ a ∧ x ≠ b) → Go p e below (T'.setTop (mkF m (pc + 2) Ls (.ref a :: S))) P) : Go p e below (T.setTop (mkF m pc Ls S)) P := by
  obtain ⟨a, T', h', k1, b, kb, X', e', E', S', q', Z', o', A', Fc, Fv, V', la, lb, C', Lt', d', st⟩ := ldcCH X hx hZ hown w wS eT hS hk hEL hmem hH ⟨ht.1, ht.2.1⟩ ht.2.2.1 (by rw [List.length_map]; exact ht.2.2.2) (g := mkF m pc Ls S) rfl hd hn hbig hc hl
  refine Go.st st (K a T' h' k1 b kb X' e' E' S' q' Z' o' A' Fc Fv (Arf.ofArv V' fun i hi => ?_) la lb C' Lt' d')
  simp only [List.getD_eq_getElem?_getD, List.getElem?_map]
  cases cs[i]? <;> rfl
theorem ldcA {vm0 : Vm} (X : Stand p l e R (s.setVm vm0) m args below meth c T locs cells slots) (hx : p.tables.exec = Jvm.exec) (hZ : Z.Warmed39 (s.setVm vm0).vm) {own : String} {index : Nat} (hown : (s.setVm vm0).vm.findClass own = some m.cls) {text : String} (w : (Cond.stringLink own index text).before a0 Z = true) {a : Addr} (Lt : Lit (s.setVm vm0) own index a) (hd : decode c.code pc = .ok (.ldc index, 2)) (K : Go p e below (T.setTop (mkF m (pc + 2) Ls (.ref a :: S))) P) : Go p e below (T.setTop (mkF m pc Ls S)) P :=
  Go.st (ldcAgain X hx hZ hown w Lt (g := mkF m pc Ls S) rfl hd) K
theorem instY (X : Stand p l e R s m args below meth c T locs cells slots) (hx : p.tables.exec = Jvm.exec) (hZ : Z.Warmed39 s.vm) {own : String} {index : Nat} (hown : s.vm.findClass own = some m.cls) {K0 : String} (w : (Cond.classLink own index K0).before a0 Z = true) (eT : T.heap = h) {a : Addr} (F : Ins Z h a K0 true) (hd : decode c.code pc = .ok (.instanceof index, 3)) (K : ∀ T', Stand p l e R s m args below meth c T' locs cells slots → T'.heap = h → Go p e below (T'.setTop (mkF m (pc + 3) Ls (.int (1 : Int32) :: S))) P) : Go p e below (T.setTop (mkF m pc Ls (.ref a :: S))) P := by
  obtain ⟨T', X', e', st⟩ := RoadKit.instY X hx hZ hown w eT F (g := mkF m pc Ls (.ref a :: S)) rfl rfl hd
  exact Go.st st (K T' X' e')
theorem finV (X : Stand p l e R s m args below meth c T locs cells slots) {v : Option Value} (hv : meth.sig.returnType = none → v = none) (hlocks : meth.locks = false) {U : State}
    (st : ∀ fs, (∀ (f : JFrame) (acts : List Action), f.method = m → f.locked = none → f.entered = [] → (doReturn e (T.setTop f) acts v).1 = T.setFrames fs) → Steps p.tables e below U (T.setFrames fs))
    (hP : ∀ U' : State, U'.heap = T.heap → U'.vm = T.vm → FrameEnd s (.returned v) U' locs cells slots → P (.returned v) U') : Go p e below U P := by
  obtain ⟨fs, hr, hrun, hended, hW, hsame⟩ := X.leave hv hlocks
  exact ⟨_, _, st fs hr, hrun, hended, hP _ rfl rfl ⟨⟨_, rfl⟩, hW, hsame⟩⟩
theorem finWV {vm0 : Vm} (X : Stand p l e R (s.setVm vm0) m args below meth c T locs cells slots) (eT : T.heap = h) {k0 : Nat} (hS : s.Since vm0 k0) (hk : k0 ≤ h.size) {v : Option Value} (hv : meth.sig.returnType = none → v = none) (hlocks : meth.locks = false) {U : State}
    (st : ∀ fs, (∀ (f : JFrame) (acts : List Action), f.method = m → f.locked = none → f.entered = [] → (doReturn e (T.setTop f) acts v).1 = T.setFrames fs) → Steps p.tables e below U (T.setFrames fs))
    (hP : ∀ U' : State, U'.heap = T.heap → U'.vm = T.vm → ReturnedEndW s (.returned v) U' locs cells slots → P (.returned v) U') : Go p e below U P := by
  obtain ⟨fs, hr, hrun, hended, hW⟩ := X.leaveW hS (by rw [eT]; exact hk) hv hlocks
  exact ⟨_, _, st fs hr, hrun, hended, hP _ rfl rfl hW⟩
end HeldKit
end Gk
section HeldOwn
variable {Z : State} {h h' : Heap} {a a' b b' : Addr} {k k' : ClassId} {ty ty' : FieldType} {z z' : Int32} {f g : Nat → Value} {EL : List (String × Nat)} {vm : Vm}
theorem own_chrOld (H : CHv Z EL vm h) (q : ∀ (b : Addr) (cl : Cell), h[b]? = some cl → h'[b]? = some cl) : CHr Z EL vm h vm h' := by
  have w := H.step (h' := h') fun y _ cell e => q y cell e
  refine ⟨w.1, ?_, fun y B => Or.inl (w.2 y B)⟩
  by_cases h0 : h.size = 0
  · omega
  · have l : h.size - 1 < h.size := by omega
    have e := q _ _ (Array.getElem?_eq_getElem l)
    have := (Array.getElem?_eq_some_iff.mp e).1
    omega
theorem own_safeArf (hal : Z.vm.Alike vm) (V : Arf Z h a k ty z f) (ht : ty ≠ .byte) : Safe Z EL vm h a := by
  obtain ⟨c, A, -⟩ := V
  exact Safe.arr hal A ht
theorem own_safeNull (hal : Z.vm.Alike vm) (E : Exa Z h a "java/lang/String") (F : Fld Z h a "java/lang/String" "value" "[B" .null) : Safe Z EL vm h a := fun B => by
  obtain ⟨p, -, u, x, -, q, -, S, rfl | rfl⟩ := B
  · obtain ⟨cS, ⟨⟨s1, -, -, ⟨c1, k1, i1, f1, -⟩, -, -, -, v1, -⟩, -⟩, -⟩ := S
    obtain ⟨cell, cf, k, i, f, e1, e2, e3, e4, e5, e6, e7⟩ := F
    obtain ⟨k3, e8, -⟩ := State.fieldFound?_setVm (s := ({ Z with heap := h } : State)) hal e2
    have e9 := (show (Wst Z vm h).fieldFound? _ _ _ = _ from e8).symm.trans f1
    simp only [Option.some.injEq, Prod.mk.injEq] at e9
    cases (show h[q.sa]? = some q.sC from s1).symm.trans e1
    rw [e9.2.2.2, v1] at e7
    cases e7
  · obtain ⟨cell, k, e1, e2, e3, -, -⟩ := E
    cases (show h[q.sd]? = some q.SA from S.hd).symm.trans e1
    obtain ⟨cS, -, -, f, -⟩ := S
    have f' : vm.findClass "[B" = some q.SA.cls := f
    rw [hal.findClass] at f'
    obtain ⟨k1, q1, q2⟩ := Vm.findClass_spec f'
    obtain ⟨k2, q3, q4⟩ := Vm.findClass_spec e2
    cases q1.symm.trans q3
    exact absurd (q2.symm.trans q4) (by decide)
theorem own_fldEq {C n d : String} {v w : Value} (F : Fld Z h a C n d v) (G : Fld Z h a C n d w) : v = w := Classical.byContradiction fun q => Fld.ne F G q rfl
theorem own_arfEq (V : Arf Z h b k ty z f) (V' : Arf Z h b k' ty' z' g) : z.toNatClampNeg = z'.toNatClampNeg ∧ ∀ i, i < z.toNatClampNeg → f i = g i := by
  obtain ⟨c, A, -, S, -, H, -⟩ := V
  obtain ⟨c', A', -, S', -, H', -⟩ := V'
  obtain rfl : c = c' := Option.some.inj (A.1.symm.trans A'.1)
  exact ⟨S.symm.trans S', fun i hi => Option.some.inj ((H i (by rw [S]; exact hi)).symm.trans (H' i (by rw [S]; exact hi)))⟩
theorem own_strEq {C n d : String} (F : Fld Z h a C n d (.ref b)) (G : Fld Z h a' C n d (.ref b')) (V : Arf Z h b k ty z f) (V' : Arf Z h b' k' ty' z' g) (e : a = a') : z.toNatClampNeg = z'.toNatClampNeg ∧ ∀ i, i < z.toNatClampNeg → f i = g i := by
  subst e
  obtain rfl : b = b' := by injection own_fldEq F G
  exact own_arfEq V V'
end HeldOwn
def lit0L : List Int32 := [78, 70, 83, 52, 69, 82, 82, 95, 73, 78, 86, 65, 76]
theorem lit0T : (∀ c ∈ ("NFS4ERR_INVAL" : String).toList, c.toNat < 256) ∧ ("NFS4ERR_INVAL" : String).toList.map (fun c => Value.int (Jvm.Lit.byteI c.toNat.toUInt16)) = lit0L.map Value.int ∧ ¬ (13 : Int32) < 0 ∧ (13 : Int32).toNatClampNeg = lit0L.length := by
  refine ⟨by decide, by decide, by decide, by decide⟩
def lit1L : List Int32 := [78, 70, 83, 52, 69, 82, 82, 95, 79, 80, 95, 73, 76, 76, 69, 71, 65, 76]
theorem lit1T : (∀ c ∈ ("NFS4ERR_OP_ILLEGAL" : String).toList, c.toNat < 256) ∧ ("NFS4ERR_OP_ILLEGAL" : String).toList.map (fun c => Value.int (Jvm.Lit.byteI c.toNat.toUInt16)) = lit1L.map Value.int ∧ ¬ (18 : Int32) < 0 ∧ (18 : Int32).toNatClampNeg = lit1L.length := by
  refine ⟨by decide, by decide, by decide, by decide⟩
def lit2L : List Int32 := [78, 70, 83, 52, 69, 82, 82, 95, 78, 79, 84, 83, 85, 80, 80]
theorem lit2T : (∀ c ∈ ("NFS4ERR_NOTSUPP" : String).toList, c.toNat < 256) ∧ ("NFS4ERR_NOTSUPP" : String).toList.map (fun c => Value.int (Jvm.Lit.byteI c.toNat.toUInt16)) = lit2L.map Value.int ∧ ¬ (15 : Int32) < 0 ∧ (15 : Int32).toNatClampNeg = lit2L.length := by
  refine ⟨by decide, by decide, by decide, by decide⟩
def lit3L : List Int32 := [78, 70, 83, 52, 95, 79, 75]
theorem lit3T : (∀ c ∈ ("NFS4_OK" : String).toList, c.toNat < 256) ∧ ("NFS4_OK" : String).toList.map (fun c => Value.int (Jvm.Lit.byteI c.toNat.toUInt16)) = lit3L.map Value.int ∧ ¬ (7 : Int32) < 0 ∧ (7 : Int32).toNatClampNeg = lit3L.length := by
  refine ⟨by decide, by decide, by decide, by decide⟩
def lit4L : List Int32 := []
theorem lit4T : (∀ c ∈ ("" : String).toList, c.toNat < 256) ∧ ("" : String).toList.map (fun c => Value.int (Jvm.Lit.byteI c.toNat.toUInt16)) = lit4L.map Value.int ∧ ¬ (0 : Int32) < 0 ∧ (0 : Int32).toNatClampNeg = lit4L.length := by
  refine ⟨by decide, by decide, by decide, by decide⟩
def lit5L : List Int32 := [71, 65, 82, 66, 65, 71, 69, 95, 65, 82, 71, 83]
theorem lit5T : (∀ c ∈ ("GARBAGE_ARGS" : String).toList, c.toNat < 256) ∧ ("GARBAGE_ARGS" : String).toList.map (fun c => Value.int (Jvm.Lit.byteI c.toNat.toUInt16)) = lit5L.map Value.int ∧ ¬ (12 : Int32) < 0 ∧ (12 : Int32).toNatClampNeg = lit5L.length := by
  refine ⟨by decide, by decide, by decide, by decide⟩
theorem own_EW {Z : State} {a0 : Array Value} (hw : ∀ d ∈ tables_1, d.before a0 Z = true) : EW Z a0 consts_1 := (EW.cons (hw _ (List.mem_of_getElem? (i := 72) rfl)) lit0T.1 (EW.cons (hw _ (List.mem_of_getElem? (i := 47) rfl)) lit0T.1 (EW.cons (hw _ (List.mem_of_getElem? (i := 2) rfl)) lit1T.1 (EW.cons (hw _ (List.mem_of_getElem? (i := 18) rfl)) lit2T.1 (EW.cons (hw _ (List.mem_of_getElem? (i := 87) rfl)) lit3T.1 (EW.cons (hw _ (List.mem_of_getElem? (i := 86) rfl)) lit4T.1 (EW.cons (hw _ (List.mem_of_getElem? (i := 46) rfl)) lit5T.1 EW.nil)))))))
def eq13 (x0 x1 x2 x3 x4 x5 x6 x7 x8 x9 x10 x11 x12 : Int32) : Int32 := if x0 = (78 : Int32) ∧ x1 = (70 : Int32) ∧ x2 = (83 : Int32) ∧ x3 = (52 : Int32) ∧ x4 = (69 : Int32) ∧ x5 = (82 : Int32) ∧ x6 = (82 : Int32) ∧ x7 = (95 : Int32) ∧ x8 = (73 : Int32) ∧ x9 = (78 : Int32) ∧ x10 = (86 : Int32) ∧ x11 = (65 : Int32) ∧ x12 = (76 : Int32) then 1 else 0
theorem eq13_01 (x0 x1 x2 x3 x4 x5 x6 x7 x8 x9 x10 x11 x12 : Int32) : eq13 x0 x1 x2 x3 x4 x5 x6 x7 x8 x9 x10 x11 x12 = 0 ∨ eq13 x0 x1 x2 x3 x4 x5 x6 x7 x8 x9 x10 x11 x12 = 1 := by
  unfold eq13
  split <;> simp
theorem own_sm13 {f : Nat → Value} {x0 x1 x2 x3 x4 x5 x6 x7 x8 x9 x10 x11 x12 : Int32} (q : ∀ i, i < (13 : Int32).toNatClampNeg → f i = .int (lit0L.getD i 0)) (h0 : f 0 = .int x0) (h1 : f 1 = .int x1) (h2 : f 2 = .int x2) (h3 : f 3 = .int x3) (h4 : f 4 = .int x4) (h5 : f 5 = .int x5) (h6 : f 6 = .int x6) (h7 : f 7 = .int x7) (h8 : f 8 = .int x8) (h9 : f 9 = .int x9) (h10 : f 10 = .int x10) (h11 : f 11 = .int x11) (h12 : f 12 = .int x12) : eq13 x0 x1 x2 x3 x4 x5 x6 x7 x8 x9 x10 x11 x12 = 1 := by
  have e0 : x0 = (78 : Int32) := Value.int.inj (h0.symm.trans (q 0 (by decide)))
  have e1 : x1 = (70 : Int32) := Value.int.inj (h1.symm.trans (q 1 (by decide)))
  have e2 : x2 = (83 : Int32) := Value.int.inj (h2.symm.trans (q 2 (by decide)))
  have e3 : x3 = (52 : Int32) := Value.int.inj (h3.symm.trans (q 3 (by decide)))
  have e4 : x4 = (69 : Int32) := Value.int.inj (h4.symm.trans (q 4 (by decide)))
  have e5 : x5 = (82 : Int32) := Value.int.inj (h5.symm.trans (q 5 (by decide)))
  have e6 : x6 = (82 : Int32) := Value.int.inj (h6.symm.trans (q 6 (by decide)))
  have e7 : x7 = (95 : Int32) := Value.int.inj (h7.symm.trans (q 7 (by decide)))
  have e8 : x8 = (73 : Int32) := Value.int.inj (h8.symm.trans (q 8 (by decide)))
  have e9 : x9 = (78 : Int32) := Value.int.inj (h9.symm.trans (q 9 (by decide)))
  have e10 : x10 = (86 : Int32) := Value.int.inj (h10.symm.trans (q 10 (by decide)))
  have e11 : x11 = (65 : Int32) := Value.int.inj (h11.symm.trans (q 11 (by decide)))
  have e12 : x12 = (76 : Int32) := Value.int.inj (h12.symm.trans (q 12 (by decide)))
  simp [eq13, e0, e1, e2, e3, e4, e5, e6, e7, e8, e9, e10, e11, e12]
theorem own_i2c (q : Int32) : ((q &&& (255 : Int32)).toUInt32.toUInt16.toUInt32.toInt32).toInt = q.toInt % 256 := by
  have h := Jvm.Kit.i32_mask q 255 (k := 8) (by decide) (by decide)
  have g := c_i2c (q &&& (255 : Int32))
  omega
theorem own_chN {q ch : Int32} (e : ch = (q &&& (255 : Int32)).toUInt32.toUInt16.toUInt32.toInt32) : (nar .char ch).toInt = ch.toInt ∧ 0 ≤ ch.toInt ∧ ch.toInt < 256 := by
  have h := own_i2c q
  rw [← e] at h
  have g := c_i2c ch
  have e' : (nar .char ch) = ch.toUInt32.toUInt16.toUInt32.toInt32 := rfl
  rw [e']
  omega
theorem own_ch {q ch : Int32} (e : ch = (q &&& (255 : Int32)).toUInt32.toUInt16.toUInt32.toInt32) : ¬ ((255 : Int32) < nar .char ch) := by
  have h := own_chN e
  have z : (255 : Int32).toInt = 255 := by decide
  rw [Int32.lt_iff_toInt_lt, z]
  omega
theorem own_chL {q ch L : Int32} (e : ch = (q &&& (255 : Int32)).toUInt32.toUInt16.toUInt32.toInt32) (h0 : 0 ≤ L.toInt) (h1 : L.toInt < 128) : (nar .char ch).toInt8.toInt32 = L ↔ ch = L := by
  have h := own_chN e
  have g := c_i2b (nar .char ch)
  rw [← Int32.toInt_inj, ← Int32.toInt_inj]
  omega
theorem own_pos {q pos : Int32} (e : pos = (q &&& (2147483647 : Int32)) % (13 : Int32)) : ¬ pos < 0 ∧ pos < (13 : Int32) := by
  have h := Jvm.Kit.i32_mask q 2147483647 (k := 31) (by decide) (by decide)
  have z : (13 : Int32).toInt = 13 := by decide
  have z0 : (0 : Int32).toInt = 0 := by decide
  have p : 0 ≤ (q &&& (2147483647 : Int32)).toInt := by omega
  have t : pos.toInt = (q &&& (2147483647 : Int32)).toInt % 13 := by rw [e, Int32.toInt_mod, z, Int.tmod_eq_emod_of_nonneg p]
  rw [Int32.lt_iff_toInt_lt, Int32.lt_iff_toInt_lt, z, z0]
  omega
theorem own_posN {pos : Int32} (h : ¬ pos < 0 ∧ pos < (13 : Int32)) : pos.toNatClampNeg < 13 := by
  obtain ⟨h0, h1⟩ := h
  have z : (13 : Int32).toInt = 13 := by decide
  rw [Int32.lt_iff_toInt_lt, z] at h1
  show pos.toInt.toNat < 13
  omega
theorem own_updP {f : Nat → Value} {P i : Nat} {v x : Int32} (h : f i = .int x) : upd f P (.int v) i = .int (if i = P then v else x) := by
  unfold upd
  split
  · rfl
  · exact h
theorem own_ite {p : Prop} [Decidable p] {v x : Int32} (h1 : ¬ ((255 : Int32) < v)) (h2 : ¬ ((255 : Int32) < x)) : ¬ ((255 : Int32) < if p then v else x) := by split <;> assumption
theorem own_near {q ch : Int32} (e : ch = (q &&& (255 : Int32)).toUInt32.toUInt16.toUInt32.toInt32) (P : Nat) (hP : P < 13) : ch = nar .char (nar .char (((lit0L.getD P 0) &&& (255 : Int32)).toUInt32.toUInt16.toUInt32.toInt32)) ↔ ¬ eq13 ((if 0 = P then (nar .char ch) else (78 : Int32)).toInt8.toInt32) ((if 1 = P then (nar .char ch) else (70 : Int32)).toInt8.toInt32) ((if 2 = P then (nar .char ch) else (83 : Int32)).toInt8.toInt32) ((if 3 = P then (nar .char ch) else (52 : Int32)).toInt8.toInt32) ((if 4 = P then (nar .char ch) else (69 : Int32)).toInt8.toInt32) ((if 5 = P then (nar .char ch) else (82 : Int32)).toInt8.toInt32) ((if 6 = P then (nar .char ch) else (82 : Int32)).toInt8.toInt32) ((if 7 = P then (nar .char ch) else (95 : Int32)).toInt8.toInt32) ((if 8 = P then (nar .char ch) else (73 : Int32)).toInt8.toInt32) ((if 9 = P then (nar .char ch) else (78 : Int32)).toInt8.toInt32) ((if 10 = P then (nar .char ch) else (86 : Int32)).toInt8.toInt32) ((if 11 = P then (nar .char ch) else (65 : Int32)).toInt8.toInt32) ((if 12 = P then (nar .char ch) else (76 : Int32)).toInt8.toInt32) = 0 := by
  have hh : P = 0 ∨ P = 1 ∨ P = 2 ∨ P = 3 ∨ P = 4 ∨ P = 5 ∨ P = 6 ∨ P = 7 ∨ P = 8 ∨ P = 9 ∨ P = 10 ∨ P = 11 ∨ P = 12 := by omega
  rcases hh with rfl | rfl | rfl | rfl | rfl | rfl | rfl | rfl | rfl | rfl | rfl | rfl | rfl
  · rw [show nar .char (nar .char (((lit0L.getD 0 0) &&& (255 : Int32)).toUInt32.toUInt16.toUInt32.toInt32)) = (78 : Int32) from by decide, ← own_chL (L := 78) e (by decide) (by decide)]
    simp [eq13]
  · rw [show nar .char (nar .char (((lit0L.getD 1 0) &&& (255 : Int32)).toUInt32.toUInt16.toUInt32.toInt32)) = (70 : Int32) from by decide, ← own_chL (L := 70) e (by decide) (by decide)]
    simp [eq13]
  · rw [show nar .char (nar .char (((lit0L.getD 2 0) &&& (255 : Int32)).toUInt32.toUInt16.toUInt32.toInt32)) = (83 : Int32) from by decide, ← own_chL (L := 83) e (by decide) (by decide)]
    simp [eq13]
  · rw [show nar .char (nar .char (((lit0L.getD 3 0) &&& (255 : Int32)).toUInt32.toUInt16.toUInt32.toInt32)) = (52 : Int32) from by decide, ← own_chL (L := 52) e (by decide) (by decide)]
    simp [eq13]
  · rw [show nar .char (nar .char (((lit0L.getD 4 0) &&& (255 : Int32)).toUInt32.toUInt16.toUInt32.toInt32)) = (69 : Int32) from by decide, ← own_chL (L := 69) e (by decide) (by decide)]
    simp [eq13]
  · rw [show nar .char (nar .char (((lit0L.getD 5 0) &&& (255 : Int32)).toUInt32.toUInt16.toUInt32.toInt32)) = (82 : Int32) from by decide, ← own_chL (L := 82) e (by decide) (by decide)]
    simp [eq13]
  · rw [show nar .char (nar .char (((lit0L.getD 6 0) &&& (255 : Int32)).toUInt32.toUInt16.toUInt32.toInt32)) = (82 : Int32) from by decide, ← own_chL (L := 82) e (by decide) (by decide)]
    simp [eq13]
  · rw [show nar .char (nar .char (((lit0L.getD 7 0) &&& (255 : Int32)).toUInt32.toUInt16.toUInt32.toInt32)) = (95 : Int32) from by decide, ← own_chL (L := 95) e (by decide) (by decide)]
    simp [eq13]
  · rw [show nar .char (nar .char (((lit0L.getD 8 0) &&& (255 : Int32)).toUInt32.toUInt16.toUInt32.toInt32)) = (73 : Int32) from by decide, ← own_chL (L := 73) e (by decide) (by decide)]
    simp [eq13]
  · rw [show nar .char (nar .char (((lit0L.getD 9 0) &&& (255 : Int32)).toUInt32.toUInt16.toUInt32.toInt32)) = (78 : Int32) from by decide, ← own_chL (L := 78) e (by decide) (by decide)]
    simp [eq13]
  · rw [show nar .char (nar .char (((lit0L.getD 10 0) &&& (255 : Int32)).toUInt32.toUInt16.toUInt32.toInt32)) = (86 : Int32) from by decide, ← own_chL (L := 86) e (by decide) (by decide)]
    simp [eq13]
  · rw [show nar .char (nar .char (((lit0L.getD 11 0) &&& (255 : Int32)).toUInt32.toUInt16.toUInt32.toInt32)) = (65 : Int32) from by decide, ← own_chL (L := 65) e (by decide) (by decide)]
    simp [eq13]
  · rw [show nar .char (nar .char (((lit0L.getD 12 0) &&& (255 : Int32)).toUInt32.toUInt16.toUInt32.toInt32)) = (76 : Int32) from by decide, ← own_chL (L := 76) e (by decide) (by decide)]
    simp [eq13]
theorem d6_0 : decode jdk_52_method_21_code 0 = .ok (.iconst 0, 1) := by decide +kernel
theorem d6_1 : decode jdk_52_method_21_code 1 = .ok (.istore 5, 2) := by decide +kernel
theorem d6_3 : decode jdk_52_method_21_code 3 = .ok (.iload 5, 2) := by decide +kernel
theorem d6_5 : decode jdk_52_method_21_code 5 = .ok (.iload 4, 2) := by decide +kernel
theorem d6_7 : decode jdk_52_method_21_code 7 = .ok (.if_icmp .ge 37, 3) := by decide +kernel
theorem d6_10 : decode jdk_52_method_21_code 10 = .ok (.aload_n 0, 1) := by decide +kernel
theorem d6_11 : decode jdk_52_method_21_code 11 = .ok (.iload_n 1, 1) := by decide +kernel
theorem d6_12 : decode jdk_52_method_21_code 12 = .ok (.caload, 1) := by decide +kernel
theorem d6_13 : decode jdk_52_method_21_code 13 = .ok (.istore 6, 2) := by decide +kernel
theorem d6_15 : decode jdk_52_method_21_code 15 = .ok (.iload 6, 2) := by decide +kernel
theorem d6_17 : decode jdk_52_method_21_code 17 = .ok (.sipush 255, 3) := by decide +kernel
theorem d6_20 : decode jdk_52_method_21_code 20 = .ok (.if_icmp .le 6, 3) := by decide +kernel
theorem d6_26 : decode jdk_52_method_21_code 26 = .ok (.aload_n 2, 1) := by decide +kernel
theorem d6_27 : decode jdk_52_method_21_code 27 = .ok (.iload_n 3, 1) := by decide +kernel
theorem d6_28 : decode jdk_52_method_21_code 28 = .ok (.iload 6, 2) := by decide +kernel
theorem d6_30 : decode jdk_52_method_21_code 30 = .ok (.i2b, 1) := by decide +kernel
theorem d6_31 : decode jdk_52_method_21_code 31 = .ok (.bastore, 1) := by decide +kernel
theorem d6_32 : decode jdk_52_method_21_code 32 = .ok (.iinc 1 1, 3) := by decide +kernel
theorem d6_35 : decode jdk_52_method_21_code 35 = .ok (.iinc 3 1, 3) := by decide +kernel
theorem d6_38 : decode jdk_52_method_21_code 38 = .ok (.iinc 5 1, 3) := by decide +kernel
theorem d6_41 : decode jdk_52_method_21_code 41 = .ok (.goto (-38), 3) := by decide +kernel
theorem d6_44 : decode jdk_52_method_21_code 44 = .ok (.iload 4, 2) := by decide +kernel
theorem d6_46 : decode jdk_52_method_21_code 46 = .ok (.ireturn, 1) := by decide +kernel
theorem pn_23 : plainName "java/lang/StringUTF16" = true := by first | (simp [plainName, overriddenIn]; done) | decide +kernel
theorem ef_cp2_13 (m : MethodId) (a1 : Addr) (a3 : Addr) : entryFrame m #[(.ref a1), (.int (0 : Int32)), (.ref a3), (.int (0 : Int32)), (.int (13 : Int32))] 7 = mkF m 0 #[.val (.ref a1), .val (.int (0 : Int32)), .val (.ref a3), .val (.int (0 : Int32)), .val (.int (13 : Int32)), .unset, .unset] [] := by first | (simp [entryFrame, mkF, argsToLocals, Value.category]; done) | rfl
def Q_cp2_13 (Z : State) (a1 : Addr) (a3 : Addr) (kc : ClassId) (f : Nat → Value) (c0 : Int32) (c1 : Int32) (c2 : Int32) (c3 : Int32) (c4 : Int32) (c5 : Int32) (c6 : Int32) (c7 : Int32) (c8 : Int32) (c9 : Int32) (c10 : Int32) (c11 : Int32) (c12 : Int32) (kb : ClassId) (fb : Nat → Value) (h0 : Heap) (n0 : Nat) (v : Option Value) (h : Heap) (L : List Loc) : Prop := v = some (.int (13 : Int32)) ∧ Fr n0 L ∧ Keep h0 h [a3] ∧ Arf Z h a3 kb .byte (13 : Int32) (upd (upd (upd (upd (upd (upd (upd (upd (upd (upd (upd (upd (upd fb 0 (.int (c0.toInt8.toInt32))) 1 (.int (c1.toInt8.toInt32))) 2 (.int (c2.toInt8.toInt32))) 3 (.int (c3.toInt8.toInt32))) 4 (.int (c4.toInt8.toInt32))) 5 (.int (c5.toInt8.toInt32))) 6 (.int (c6.toInt8.toInt32))) 7 (.int (c7.toInt8.toInt32))) 8 (.int (c8.toInt8.toInt32))) 9 (.int (c9.toInt8.toInt32))) 10 (.int (c10.toInt8.toInt32))) 11 (.int (c11.toInt8.toInt32))) 12 (.int (c12.toInt8.toInt32)))
set_option maxRecDepth 65536 in
set_option maxHeartbeats 40000000 in
theorem cp2_13 (l : Launch) (Z : State) (a0 : Array Value) (hw : ∀ d ∈ tables_1, d.before a0 Z = true) (ws : List Jvm.Cond) (a1 : Addr) (a3 : Addr) (kc : ClassId) (f : Nat → Value) (c0 : Int32) (c1 : Int32) (c2 : Int32) (c3 : Int32) (c4 : Int32) (c5 : Int32) (c6 : Int32) (c7 : Int32) (c8 : Int32) (c9 : Int32) (c10 : Int32) (c11 : Int32) (c12 : Int32) (kb : ClassId) (fb : Nat → Value) (h0 : Heap) (n0 : Nat) (Z0 : n0 ≤ h0.size) (V_a : Arf Z h0 a1 kc .char (13 : Int32) f) (V_b : Arf Z h0 a3 kb .byte (13 : Int32) fb) (hne : a1 ≠ a3) (hf0 : f 0 = (.int c0)) (hf1 : f 1 = (.int c1)) (hf2 : f 2 = (.int c2)) (hf3 : f 3 = (.int c3)) (hf4 : f 4 = (.int c4)) (hf5 : f 5 = (.int c5)) (hf6 : f 6 = (.int c6)) (hf7 : f 7 = (.int c7)) (hf8 : f 8 = (.int c8)) (hf9 : f 9 = (.int c9)) (hf10 : f 10 = (.int c10)) (hf11 : f 11 = (.int c11)) (hf12 : f 12 = (.int c12)) (hc0 : ¬ ((255 : Int32) < c0)) (hc1 : ¬ ((255 : Int32) < c1)) (hc2 : ¬ ((255 : Int32) < c2)) (hc3 : ¬ ((255 : Int32) < c3)) (hc4 : ¬ ((255 : Int32) < c4)) (hc5 : ¬ ((255 : Int32) < c5)) (hc6 : ¬ ((255 : Int32) < c6)) (hc7 : ¬ ((255 : Int32) < c7)) (hc8 : ¬ ((255 : Int32) < c8)) (hc9 : ¬ ((255 : Int32) < c9)) (hc10 : ¬ ((255 : Int32) < c10)) (hc11 : ¬ ((255 : Int32) < c11)) (hc12 : ¬ ((255 : Int32) < c12)) (g_a3 : n0 ≤ a3) :
    MetFree l (⟨"java/lang/StringUTF16", "compress", "([CI[BII)I"⟩ : MethodName) (head1 (Jvm.Cond.code (⟨"java/lang/StringUTF16", "compress", "([CI[BII)I"⟩ : MethodName) jdk_52_method_21_code 7 (some .int) :: ws) ({ frames := 0, cells := 0, slots := 0, locals := 0 } : Room)) (fun a U => a = #[(.ref a1), (.int (0 : Int32)), (.ref a3), (.int (0 : Int32)), (.int (13 : Int32))] ∧ Z.Warmed39 U.vm ∧ U.heap = h0) (fun _ _ _ _ _ => True) (fun _ U o U' => ∃ v L, o = .returned v ∧ Q_cp2_13 Z a1 a3 kc f c0 c1 c2 c3 c4 c5 c6 c7 c8 c9 c10 c11 c12 kb fb h0 n0 v U'.heap L ∧ FrameEnd U o U' L ({ frames := 0, cells := 0, slots := 0, locals := 0 } : Room).cells ({ frames := 0, cells := 0, slots := 0, locals := 0 } : Room).slots) := by
  refine MetFree.of_bodySF (plainFor_of_name pn_23) hisR ?_
  intro p e s m args below meth c s₁ Bd hml0 hP hK
  obtain ⟨rfl, hZ, hh⟩ := hP
  have hx := Bd.exec
  have hby := Bd.bytes
  have hml : c.maxLocals = 7 := hml0
  have hown : s.vm.findClass "java/lang/StringUTF16" = some m.cls := findClass_of_methodNamed Bd.named
  have hnm := (name_of_methodNamed Bd.named Bd.method).1
  have X0 : Stand p l e ({ frames := 0, cells := 0, slots := 0, locals := 0 } : Room) s m #[(.ref a1), (.int (0 : Int32)), (.ref a3), (.int (0 : Int32)), (.int (13 : Int32))] below meth c s₁ [] 0 0 := Stand.of_body Bd
  have e0 : s₁.heap = h0 := by rw [← hh, Bd.state]; rfl
  have N0 := Fr.nil n0
  show Go p e below (s₁.setTop (entryFrame m #[(.ref a1), (.int (0 : Int32)), (.ref a3), (.int (0 : Int32)), (.int (13 : Int32))] 7)) (fun o U' => ∃ v L, o = .returned v ∧ Q_cp2_13 Z a1 a3 kc f c0 c1 c2 c3 c4 c5 c6 c7 c8 c9 c10 c11 c12 kb fb h0 n0 v U'.heap L ∧ FrameEnd s o U' L ({ frames := 0, cells := 0, slots := 0, locals := 0 } : Room).cells ({ frames := 0, cells := 0, slots := 0, locals := 0 } : Room).slots)
  rw [ef_cp2_13]
  refine Gk.iconst X0 hx (hb hby d6_0) (0 : Int32) rfl ?_
  refine Gk.istore X0 hx (hb hby d6_1) #[.val (.ref a1), .val (.int (0 : Int32)), .val (.ref a3), .val (.int (0 : Int32)), .val (.int (13 : Int32)), .val (.int (0 : Int32)), .unset] rfl ?_
  refine Gk.iload X0 hx (hb hby d6_3) rfl ?_
  refine Gk.iload X0 hx (hb hby d6_5) rfl ?_
  refine Gk.icmpNo X0 hx (hb hby d6_7) (tlt (by decide : (0 : Int32) < (13 : Int32))).2.1 ?_
  refine Gk.aloadN X0 hx (hb hby d6_10) rfl rfl ?_
  refine Gk.iloadN X0 hx (hb hby d6_11) rfl ?_
  refine Gk.caload X0 hx hZ e0 V_a ⟨by decide, by decide⟩ (.int c0) hf0 (hb hby d6_12) ?_
  refine Gk.istore X0 hx (hb hby d6_13) #[.val (.ref a1), .val (.int (0 : Int32)), .val (.ref a3), .val (.int (0 : Int32)), .val (.int (13 : Int32)), .val (.int (0 : Int32)), .val (.int c0)] rfl ?_
  refine Gk.iload X0 hx (hb hby d6_15) rfl ?_
  refine Gk.sipush X0 hx (hb hby d6_17) (255 : Int32) rfl ?_
  have hc20 : ¬ ((255 : Int32) < c0) := hc0
  refine Gk.icmpYes X0 hx (hb hby d6_20) (flt hc20).2.2.2 26 (by decide) (by decide) ?_
  refine Gk.aloadN X0 hx (hb hby d6_26) rfl rfl ?_
  refine Gk.iloadN X0 hx (hb hby d6_27) rfl ?_
  refine Gk.iload X0 hx (hb hby d6_28) rfl ?_
  refine Gk.i2b X0 hx (hb hby d6_30) _ rfl ?_
  refine Gk.bastoreB X0 hx hZ e0 V_b 0 rfl ⟨by decide, by decide⟩ (.int (c0.toInt8.toInt32)) (congrArg Value.int (own_nb _)) (hb hby d6_31) ?_
  intro T2 h2 X2 e2 W2 V2
  have N2 := Fr.snoc X2 N0 g_a3
  refine Gk.iinc X2 hx (hb hby d6_32) rfl #[.val (.ref a1), .val (.int (1 : Int32)), .val (.ref a3), .val (.int (0 : Int32)), .val (.int (13 : Int32)), .val (.int (0 : Int32)), .val (.int c0)] rfl ?_
  refine Gk.iinc X2 hx (hb hby d6_35) rfl #[.val (.ref a1), .val (.int (1 : Int32)), .val (.ref a3), .val (.int (1 : Int32)), .val (.int (13 : Int32)), .val (.int (0 : Int32)), .val (.int c0)] rfl ?_
  refine Gk.iinc X2 hx (hb hby d6_38) rfl #[.val (.ref a1), .val (.int (1 : Int32)), .val (.ref a3), .val (.int (1 : Int32)), .val (.int (13 : Int32)), .val (.int (1 : Int32)), .val (.int c0)] rfl ?_
  refine Gk.goto X2 hx (hb hby d6_41) 3 (by decide) (by decide) ?_
  refine Gk.iload X2 hx (hb hby d6_3) rfl ?_
  refine Gk.iload X2 hx (hb hby d6_5) rfl ?_
  refine Gk.icmpNo X2 hx (hb hby d6_7) (tlt (by decide : (1 : Int32) < (13 : Int32))).2.1 ?_
  refine Gk.aloadN X2 hx (hb hby d6_10) rfl rfl ?_
  refine Gk.iloadN X2 hx (hb hby d6_11) rfl ?_
  have H4 := (V_a.other W2 hne)
  refine Gk.caload X2 hx hZ e2 H4 ⟨by decide, by decide⟩ (.int c1) hf1 (hb hby d6_12) ?_
  refine Gk.istore X2 hx (hb hby d6_13) #[.val (.ref a1), .val (.int (1 : Int32)), .val (.ref a3), .val (.int (1 : Int32)), .val (.int (13 : Int32)), .val (.int (1 : Int32)), .val (.int c1)] rfl ?_
  refine Gk.iload X2 hx (hb hby d6_15) rfl ?_
  refine Gk.sipush X2 hx (hb hby d6_17) (255 : Int32) rfl ?_
  have hc20_1 : ¬ ((255 : Int32) < c1) := hc1
  refine Gk.icmpYes X2 hx (hb hby d6_20) (flt hc20_1).2.2.2 26 (by decide) (by decide) ?_
  refine Gk.aloadN X2 hx (hb hby d6_26) rfl rfl ?_
  refine Gk.iloadN X2 hx (hb hby d6_27) rfl ?_
  refine Gk.iload X2 hx (hb hby d6_28) rfl ?_
  refine Gk.i2b X2 hx (hb hby d6_30) _ rfl ?_
  refine Gk.bastoreB X2 hx hZ e2 V2 1 rfl ⟨by decide, by decide⟩ (.int (c1.toInt8.toInt32)) (congrArg Value.int (own_nb _)) (hb hby d6_31) ?_
  intro T5 h5 X5 e5 W5 V5
  have N5 := Fr.snoc X5 N2 g_a3
  refine Gk.iinc X5 hx (hb hby d6_32) rfl #[.val (.ref a1), .val (.int (2 : Int32)), .val (.ref a3), .val (.int (1 : Int32)), .val (.int (13 : Int32)), .val (.int (1 : Int32)), .val (.int c1)] rfl ?_
  refine Gk.iinc X5 hx (hb hby d6_35) rfl #[.val (.ref a1), .val (.int (2 : Int32)), .val (.ref a3), .val (.int (2 : Int32)), .val (.int (13 : Int32)), .val (.int (1 : Int32)), .val (.int c1)] rfl ?_
  refine Gk.iinc X5 hx (hb hby d6_38) rfl #[.val (.ref a1), .val (.int (2 : Int32)), .val (.ref a3), .val (.int (2 : Int32)), .val (.int (13 : Int32)), .val (.int (2 : Int32)), .val (.int c1)] rfl ?_
  refine Gk.goto X5 hx (hb hby d6_41) 3 (by decide) (by decide) ?_
  refine Gk.iload X5 hx (hb hby d6_3) rfl ?_
  refine Gk.iload X5 hx (hb hby d6_5) rfl ?_
  refine Gk.icmpNo X5 hx (hb hby d6_7) (tlt (by decide : (2 : Int32) < (13 : Int32))).2.1 ?_
  refine Gk.aloadN X5 hx (hb hby d6_10) rfl rfl ?_
  refine Gk.iloadN X5 hx (hb hby d6_11) rfl ?_
  have H7 := (H4.other W5 hne)
  refine Gk.caload X5 hx hZ e5 H7 ⟨by decide, by decide⟩ (.int c2) hf2 (hb hby d6_12) ?_
  refine Gk.istore X5 hx (hb hby d6_13) #[.val (.ref a1), .val (.int (2 : Int32)), .val (.ref a3), .val (.int (2 : Int32)), .val (.int (13 : Int32)), .val (.int (2 : Int32)), .val (.int c2)] rfl ?_
  refine Gk.iload X5 hx (hb hby d6_15) rfl ?_
  refine Gk.sipush X5 hx (hb hby d6_17) (255 : Int32) rfl ?_
  have hc20_2 : ¬ ((255 : Int32) < c2) := hc2
  refine Gk.icmpYes X5 hx (hb hby d6_20) (flt hc20_2).2.2.2 26 (by decide) (by decide) ?_
  refine Gk.aloadN X5 hx (hb hby d6_26) rfl rfl ?_
  refine Gk.iloadN X5 hx (hb hby d6_27) rfl ?_
  refine Gk.iload X5 hx (hb hby d6_28) rfl ?_
  refine Gk.i2b X5 hx (hb hby d6_30) _ rfl ?_
  refine Gk.bastoreB X5 hx hZ e5 V5 2 rfl ⟨by decide, by decide⟩ (.int (c2.toInt8.toInt32)) (congrArg Value.int (own_nb _)) (hb hby d6_31) ?_
  intro T8 h8 X8 e8 W8 V8
  have N8 := Fr.snoc X8 N5 g_a3
  refine Gk.iinc X8 hx (hb hby d6_32) rfl #[.val (.ref a1), .val (.int (3 : Int32)), .val (.ref a3), .val (.int (2 : Int32)), .val (.int (13 : Int32)), .val (.int (2 : Int32)), .val (.int c2)] rfl ?_
  refine Gk.iinc X8 hx (hb hby d6_35) rfl #[.val (.ref a1), .val (.int (3 : Int32)), .val (.ref a3), .val (.int (3 : Int32)), .val (.int (13 : Int32)), .val (.int (2 : Int32)), .val (.int c2)] rfl ?_
  refine Gk.iinc X8 hx (hb hby d6_38) rfl #[.val (.ref a1), .val (.int (3 : Int32)), .val (.ref a3), .val (.int (3 : Int32)), .val (.int (13 : Int32)), .val (.int (3 : Int32)), .val (.int c2)] rfl ?_
  refine Gk.goto X8 hx (hb hby d6_41) 3 (by decide) (by decide) ?_
  refine Gk.iload X8 hx (hb hby d6_3) rfl ?_
  refine Gk.iload X8 hx (hb hby d6_5) rfl ?_
  refine Gk.icmpNo X8 hx (hb hby d6_7) (tlt (by decide : (3 : Int32) < (13 : Int32))).2.1 ?_
  refine Gk.aloadN X8 hx (hb hby d6_10) rfl rfl ?_
  refine Gk.iloadN X8 hx (hb hby d6_11) rfl ?_
  have H10 := (H7.other W8 hne)
  refine Gk.caload X8 hx hZ e8 H10 ⟨by decide, by decide⟩ (.int c3) hf3 (hb hby d6_12) ?_
  refine Gk.istore X8 hx (hb hby d6_13) #[.val (.ref a1), .val (.int (3 : Int32)), .val (.ref a3), .val (.int (3 : Int32)), .val (.int (13 : Int32)), .val (.int (3 : Int32)), .val (.int c3)] rfl ?_
  refine Gk.iload X8 hx (hb hby d6_15) rfl ?_
  refine Gk.sipush X8 hx (hb hby d6_17) (255 : Int32) rfl ?_
  have hc20_3 : ¬ ((255 : Int32) < c3) := hc3
  refine Gk.icmpYes X8 hx (hb hby d6_20) (flt hc20_3).2.2.2 26 (by decide) (by decide) ?_
  refine Gk.aloadN X8 hx (hb hby d6_26) rfl rfl ?_
  refine Gk.iloadN X8 hx (hb hby d6_27) rfl ?_
  refine Gk.iload X8 hx (hb hby d6_28) rfl ?_
  refine Gk.i2b X8 hx (hb hby d6_30) _ rfl ?_
  refine Gk.bastoreB X8 hx hZ e8 V8 3 rfl ⟨by decide, by decide⟩ (.int (c3.toInt8.toInt32)) (congrArg Value.int (own_nb _)) (hb hby d6_31) ?_
  intro T11 h11 X11 e11 W11 V11
  have N11 := Fr.snoc X11 N8 g_a3
  refine Gk.iinc X11 hx (hb hby d6_32) rfl #[.val (.ref a1), .val (.int (4 : Int32)), .val (.ref a3), .val (.int (3 : Int32)), .val (.int (13 : Int32)), .val (.int (3 : Int32)), .val (.int c3)] rfl ?_
  refine Gk.iinc X11 hx (hb hby d6_35) rfl #[.val (.ref a1), .val (.int (4 : Int32)), .val (.ref a3), .val (.int (4 : Int32)), .val (.int (13 : Int32)), .val (.int (3 : Int32)), .val (.int c3)] rfl ?_
  refine Gk.iinc X11 hx (hb hby d6_38) rfl #[.val (.ref a1), .val (.int (4 : Int32)), .val (.ref a3), .val (.int (4 : Int32)), .val (.int (13 : Int32)), .val (.int (4 : Int32)), .val (.int c3)] rfl ?_
  refine Gk.goto X11 hx (hb hby d6_41) 3 (by decide) (by decide) ?_
  refine Gk.iload X11 hx (hb hby d6_3) rfl ?_
  refine Gk.iload X11 hx (hb hby d6_5) rfl ?_
  refine Gk.icmpNo X11 hx (hb hby d6_7) (tlt (by decide : (4 : Int32) < (13 : Int32))).2.1 ?_
  refine Gk.aloadN X11 hx (hb hby d6_10) rfl rfl ?_
  refine Gk.iloadN X11 hx (hb hby d6_11) rfl ?_
  have H13 := (H10.other W11 hne)
  refine Gk.caload X11 hx hZ e11 H13 ⟨by decide, by decide⟩ (.int c4) hf4 (hb hby d6_12) ?_
  refine Gk.istore X11 hx (hb hby d6_13) #[.val (.ref a1), .val (.int (4 : Int32)), .val (.ref a3), .val (.int (4 : Int32)), .val (.int (13 : Int32)), .val (.int (4 : Int32)), .val (.int c4)] rfl ?_
  refine Gk.iload X11 hx (hb hby d6_15) rfl ?_
  refine Gk.sipush X11 hx (hb hby d6_17) (255 : Int32) rfl ?_
  have hc20_4 : ¬ ((255 : Int32) < c4) := hc4
  refine Gk.icmpYes X11 hx (hb hby d6_20) (flt hc20_4).2.2.2 26 (by decide) (by decide) ?_
  refine Gk.aloadN X11 hx (hb hby d6_26) rfl rfl ?_
  refine Gk.iloadN X11 hx (hb hby d6_27) rfl ?_
  refine Gk.iload X11 hx (hb hby d6_28) rfl ?_
  refine Gk.i2b X11 hx (hb hby d6_30) _ rfl ?_
  refine Gk.bastoreB X11 hx hZ e11 V11 4 rfl ⟨by decide, by decide⟩ (.int (c4.toInt8.toInt32)) (congrArg Value.int (own_nb _)) (hb hby d6_31) ?_
  intro T14 h14 X14 e14 W14 V14
  have N14 := Fr.snoc X14 N11 g_a3
  refine Gk.iinc X14 hx (hb hby d6_32) rfl #[.val (.ref a1), .val (.int (5 : Int32)), .val (.ref a3), .val (.int (4 : Int32)), .val (.int (13 : Int32)), .val (.int (4 : Int32)), .val (.int c4)] rfl ?_
  refine Gk.iinc X14 hx (hb hby d6_35) rfl #[.val (.ref a1), .val (.int (5 : Int32)), .val (.ref a3), .val (.int (5 : Int32)), .val (.int (13 : Int32)), .val (.int (4 : Int32)), .val (.int c4)] rfl ?_
  refine Gk.iinc X14 hx (hb hby d6_38) rfl #[.val (.ref a1), .val (.int (5 : Int32)), .val (.ref a3), .val (.int (5 : Int32)), .val (.int (13 : Int32)), .val (.int (5 : Int32)), .val (.int c4)] rfl ?_
  refine Gk.goto X14 hx (hb hby d6_41) 3 (by decide) (by decide) ?_
  refine Gk.iload X14 hx (hb hby d6_3) rfl ?_
  refine Gk.iload X14 hx (hb hby d6_5) rfl ?_
  refine Gk.icmpNo X14 hx (hb hby d6_7) (tlt (by decide : (5 : Int32) < (13 : Int32))).2.1 ?_
  refine Gk.aloadN X14 hx (hb hby d6_10) rfl rfl ?_
  refine Gk.iloadN X14 hx (hb hby d6_11) rfl ?_
  have H16 := (H13.other W14 hne)
  refine Gk.caload X14 hx hZ e14 H16 ⟨by decide, by decide⟩ (.int c5) hf5 (hb hby d6_12) ?_
  refine Gk.istore X14 hx (hb hby d6_13) #[.val (.ref a1), .val (.int (5 : Int32)), .val (.ref a3), .val (.int (5 : Int32)), .val (.int (13 : Int32)), .val (.int (5 : Int32)), .val (.int c5)] rfl ?_
  refine Gk.iload X14 hx (hb hby d6_15) rfl ?_
  refine Gk.sipush X14 hx (hb hby d6_17) (255 : Int32) rfl ?_
  have hc20_5 : ¬ ((255 : Int32) < c5) := hc5
  refine Gk.icmpYes X14 hx (hb hby d6_20) (flt hc20_5).2.2.2 26 (by decide) (by decide) ?_
  refine Gk.aloadN X14 hx (hb hby d6_26) rfl rfl ?_
  refine Gk.iloadN X14 hx (hb hby d6_27) rfl ?_
  refine Gk.iload X14 hx (hb hby d6_28) rfl ?_
  refine Gk.i2b X14 hx (hb hby d6_30) _ rfl ?_
  refine Gk.bastoreB X14 hx hZ e14 V14 5 rfl ⟨by decide, by decide⟩ (.int (c5.toInt8.toInt32)) (congrArg Value.int (own_nb _)) (hb hby d6_31) ?_
  intro T17 h17 X17 e17 W17 V17
  have N17 := Fr.snoc X17 N14 g_a3
  refine Gk.iinc X17 hx (hb hby d6_32) rfl #[.val (.ref a1), .val (.int (6 : Int32)), .val (.ref a3), .val (.int (5 : Int32)), .val (.int (13 : Int32)), .val (.int (5 : Int32)), .val (.int c5)] rfl ?_
  refine Gk.iinc X17 hx (hb hby d6_35) rfl #[.val (.ref a1), .val (.int (6 : Int32)), .val (.ref a3), .val (.int (6 : Int32)), .val (.int (13 : Int32)), .val (.int (5 : Int32)), .val (.int c5)] rfl ?_
  refine Gk.iinc X17 hx (hb hby d6_38) rfl #[.val (.ref a1), .val (.int (6 : Int32)), .val (.ref a3), .val (.int (6 : Int32)), .val (.int (13 : Int32)), .val (.int (6 : Int32)), .val (.int c5)] rfl ?_
  refine Gk.goto X17 hx (hb hby d6_41) 3 (by decide) (by decide) ?_
  refine Gk.iload X17 hx (hb hby d6_3) rfl ?_
  refine Gk.iload X17 hx (hb hby d6_5) rfl ?_
  refine Gk.icmpNo X17 hx (hb hby d6_7) (tlt (by decide : (6 : Int32) < (13 : Int32))).2.1 ?_
  refine Gk.aloadN X17 hx (hb hby d6_10) rfl rfl ?_
  refine Gk.iloadN X17 hx (hb hby d6_11) rfl ?_
  have H19 := (H16.other W17 hne)
  refine Gk.caload X17 hx hZ e17 H19 ⟨by decide, by decide⟩ (.int c6) hf6 (hb hby d6_12) ?_
  refine Gk.istore X17 hx (hb hby d6_13) #[.val (.ref a1), .val (.int (6 : Int32)), .val (.ref a3), .val (.int (6 : Int32)), .val (.int (13 : Int32)), .val (.int (6 : Int32)), .val (.int c6)] rfl ?_
  refine Gk.iload X17 hx (hb hby d6_15) rfl ?_
  refine Gk.sipush X17 hx (hb hby d6_17) (255 : Int32) rfl ?_
  have hc20_6 : ¬ ((255 : Int32) < c6) := hc6
  refine Gk.icmpYes X17 hx (hb hby d6_20) (flt hc20_6).2.2.2 26 (by decide) (by decide) ?_
  refine Gk.aloadN X17 hx (hb hby d6_26) rfl rfl ?_
  refine Gk.iloadN X17 hx (hb hby d6_27) rfl ?_
  refine Gk.iload X17 hx (hb hby d6_28) rfl ?_
  refine Gk.i2b X17 hx (hb hby d6_30) _ rfl ?_
  refine Gk.bastoreB X17 hx hZ e17 V17 6 rfl ⟨by decide, by decide⟩ (.int (c6.toInt8.toInt32)) (congrArg Value.int (own_nb _)) (hb hby d6_31) ?_
  intro T20 h20 X20 e20 W20 V20
  have N20 := Fr.snoc X20 N17 g_a3
  refine Gk.iinc X20 hx (hb hby d6_32) rfl #[.val (.ref a1), .val (.int (7 : Int32)), .val (.ref a3), .val (.int (6 : Int32)), .val (.int (13 : Int32)), .val (.int (6 : Int32)), .val (.int c6)] rfl ?_
  refine Gk.iinc X20 hx (hb hby d6_35) rfl #[.val (.ref a1), .val (.int (7 : Int32)), .val (.ref a3), .val (.int (7 : Int32)), .val (.int (13 : Int32)), .val (.int (6 : Int32)), .val (.int c6)] rfl ?_
  refine Gk.iinc X20 hx (hb hby d6_38) rfl #[.val (.ref a1), .val (.int (7 : Int32)), .val (.ref a3), .val (.int (7 : Int32)), .val (.int (13 : Int32)), .val (.int (7 : Int32)), .val (.int c6)] rfl ?_
  refine Gk.goto X20 hx (hb hby d6_41) 3 (by decide) (by decide) ?_
  refine Gk.iload X20 hx (hb hby d6_3) rfl ?_
  refine Gk.iload X20 hx (hb hby d6_5) rfl ?_
  refine Gk.icmpNo X20 hx (hb hby d6_7) (tlt (by decide : (7 : Int32) < (13 : Int32))).2.1 ?_
  refine Gk.aloadN X20 hx (hb hby d6_10) rfl rfl ?_
  refine Gk.iloadN X20 hx (hb hby d6_11) rfl ?_
  have H22 := (H19.other W20 hne)
  refine Gk.caload X20 hx hZ e20 H22 ⟨by decide, by decide⟩ (.int c7) hf7 (hb hby d6_12) ?_
  refine Gk.istore X20 hx (hb hby d6_13) #[.val (.ref a1), .val (.int (7 : Int32)), .val (.ref a3), .val (.int (7 : Int32)), .val (.int (13 : Int32)), .val (.int (7 : Int32)), .val (.int c7)] rfl ?_
  refine Gk.iload X20 hx (hb hby d6_15) rfl ?_
  refine Gk.sipush X20 hx (hb hby d6_17) (255 : Int32) rfl ?_
  have hc20_7 : ¬ ((255 : Int32) < c7) := hc7
  refine Gk.icmpYes X20 hx (hb hby d6_20) (flt hc20_7).2.2.2 26 (by decide) (by decide) ?_
  refine Gk.aloadN X20 hx (hb hby d6_26) rfl rfl ?_
  refine Gk.iloadN X20 hx (hb hby d6_27) rfl ?_
  refine Gk.iload X20 hx (hb hby d6_28) rfl ?_
  refine Gk.i2b X20 hx (hb hby d6_30) _ rfl ?_
  refine Gk.bastoreB X20 hx hZ e20 V20 7 rfl ⟨by decide, by decide⟩ (.int (c7.toInt8.toInt32)) (congrArg Value.int (own_nb _)) (hb hby d6_31) ?_
  intro T23 h23 X23 e23 W23 V23
  have N23 := Fr.snoc X23 N20 g_a3
  refine Gk.iinc X23 hx (hb hby d6_32) rfl #[.val (.ref a1), .val (.int (8 : Int32)), .val (.ref a3), .val (.int (7 : Int32)), .val (.int (13 : Int32)), .val (.int (7 : Int32)), .val (.int c7)] rfl ?_
  refine Gk.iinc X23 hx (hb hby d6_35) rfl #[.val (.ref a1), .val (.int (8 : Int32)), .val (.ref a3), .val (.int (8 : Int32)), .val (.int (13 : Int32)), .val (.int (7 : Int32)), .val (.int c7)] rfl ?_
  refine Gk.iinc X23 hx (hb hby d6_38) rfl #[.val (.ref a1), .val (.int (8 : Int32)), .val (.ref a3), .val (.int (8 : Int32)), .val (.int (13 : Int32)), .val (.int (8 : Int32)), .val (.int c7)] rfl ?_
  refine Gk.goto X23 hx (hb hby d6_41) 3 (by decide) (by decide) ?_
  refine Gk.iload X23 hx (hb hby d6_3) rfl ?_
  refine Gk.iload X23 hx (hb hby d6_5) rfl ?_
  refine Gk.icmpNo X23 hx (hb hby d6_7) (tlt (by decide : (8 : Int32) < (13 : Int32))).2.1 ?_
  refine Gk.aloadN X23 hx (hb hby d6_10) rfl rfl ?_
  refine Gk.iloadN X23 hx (hb hby d6_11) rfl ?_
  have H25 := (H22.other W23 hne)
  refine Gk.caload X23 hx hZ e23 H25 ⟨by decide, by decide⟩ (.int c8) hf8 (hb hby d6_12) ?_
  refine Gk.istore X23 hx (hb hby d6_13) #[.val (.ref a1), .val (.int (8 : Int32)), .val (.ref a3), .val (.int (8 : Int32)), .val (.int (13 : Int32)), .val (.int (8 : Int32)), .val (.int c8)] rfl ?_
  refine Gk.iload X23 hx (hb hby d6_15) rfl ?_
  refine Gk.sipush X23 hx (hb hby d6_17) (255 : Int32) rfl ?_
  have hc20_8 : ¬ ((255 : Int32) < c8) := hc8
  refine Gk.icmpYes X23 hx (hb hby d6_20) (flt hc20_8).2.2.2 26 (by decide) (by decide) ?_
  refine Gk.aloadN X23 hx (hb hby d6_26) rfl rfl ?_
  refine Gk.iloadN X23 hx (hb hby d6_27) rfl ?_
  refine Gk.iload X23 hx (hb hby d6_28) rfl ?_
  refine Gk.i2b X23 hx (hb hby d6_30) _ rfl ?_
  refine Gk.bastoreB X23 hx hZ e23 V23 8 rfl ⟨by decide, by decide⟩ (.int (c8.toInt8.toInt32)) (congrArg Value.int (own_nb _)) (hb hby d6_31) ?_
  intro T26 h26 X26 e26 W26 V26
  have N26 := Fr.snoc X26 N23 g_a3
  refine Gk.iinc X26 hx (hb hby d6_32) rfl #[.val (.ref a1), .val (.int (9 : Int32)), .val (.ref a3), .val (.int (8 : Int32)), .val (.int (13 : Int32)), .val (.int (8 : Int32)), .val (.int c8)] rfl ?_
  refine Gk.iinc X26 hx (hb hby d6_35) rfl #[.val (.ref a1), .val (.int (9 : Int32)), .val (.ref a3), .val (.int (9 : Int32)), .val (.int (13 : Int32)), .val (.int (8 : Int32)), .val (.int c8)] rfl ?_
  refine Gk.iinc X26 hx (hb hby d6_38) rfl #[.val (.ref a1), .val (.int (9 : Int32)), .val (.ref a3), .val (.int (9 : Int32)), .val (.int (13 : Int32)), .val (.int (9 : Int32)), .val (.int c8)] rfl ?_
  refine Gk.goto X26 hx (hb hby d6_41) 3 (by decide) (by decide) ?_
  refine Gk.iload X26 hx (hb hby d6_3) rfl ?_
  refine Gk.iload X26 hx (hb hby d6_5) rfl ?_
  refine Gk.icmpNo X26 hx (hb hby d6_7) (tlt (by decide : (9 : Int32) < (13 : Int32))).2.1 ?_
  refine Gk.aloadN X26 hx (hb hby d6_10) rfl rfl ?_
  refine Gk.iloadN X26 hx (hb hby d6_11) rfl ?_
  have H28 := (H25.other W26 hne)
  refine Gk.caload X26 hx hZ e26 H28 ⟨by decide, by decide⟩ (.int c9) hf9 (hb hby d6_12) ?_
  refine Gk.istore X26 hx (hb hby d6_13) #[.val (.ref a1), .val (.int (9 : Int32)), .val (.ref a3), .val (.int (9 : Int32)), .val (.int (13 : Int32)), .val (.int (9 : Int32)), .val (.int c9)] rfl ?_
  refine Gk.iload X26 hx (hb hby d6_15) rfl ?_
  refine Gk.sipush X26 hx (hb hby d6_17) (255 : Int32) rfl ?_
  have hc20_9 : ¬ ((255 : Int32) < c9) := hc9
  refine Gk.icmpYes X26 hx (hb hby d6_20) (flt hc20_9).2.2.2 26 (by decide) (by decide) ?_
  refine Gk.aloadN X26 hx (hb hby d6_26) rfl rfl ?_
  refine Gk.iloadN X26 hx (hb hby d6_27) rfl ?_
  refine Gk.iload X26 hx (hb hby d6_28) rfl ?_
  refine Gk.i2b X26 hx (hb hby d6_30) _ rfl ?_
  refine Gk.bastoreB X26 hx hZ e26 V26 9 rfl ⟨by decide, by decide⟩ (.int (c9.toInt8.toInt32)) (congrArg Value.int (own_nb _)) (hb hby d6_31) ?_
  intro T29 h29 X29 e29 W29 V29
  have N29 := Fr.snoc X29 N26 g_a3
  refine Gk.iinc X29 hx (hb hby d6_32) rfl #[.val (.ref a1), .val (.int (10 : Int32)), .val (.ref a3), .val (.int (9 : Int32)), .val (.int (13 : Int32)), .val (.int (9 : Int32)), .val (.int c9)] rfl ?_
  refine Gk.iinc X29 hx (hb hby d6_35) rfl #[.val (.ref a1), .val (.int (10 : Int32)), .val (.ref a3), .val (.int (10 : Int32)), .val (.int (13 : Int32)), .val (.int (9 : Int32)), .val (.int c9)] rfl ?_
  refine Gk.iinc X29 hx (hb hby d6_38) rfl #[.val (.ref a1), .val (.int (10 : Int32)), .val (.ref a3), .val (.int (10 : Int32)), .val (.int (13 : Int32)), .val (.int (10 : Int32)), .val (.int c9)] rfl ?_
  refine Gk.goto X29 hx (hb hby d6_41) 3 (by decide) (by decide) ?_
  refine Gk.iload X29 hx (hb hby d6_3) rfl ?_
  refine Gk.iload X29 hx (hb hby d6_5) rfl ?_
  refine Gk.icmpNo X29 hx (hb hby d6_7) (tlt (by decide : (10 : Int32) < (13 : Int32))).2.1 ?_
  refine Gk.aloadN X29 hx (hb hby d6_10) rfl rfl ?_
  refine Gk.iloadN X29 hx (hb hby d6_11) rfl ?_
  have H31 := (H28.other W29 hne)
  refine Gk.caload X29 hx hZ e29 H31 ⟨by decide, by decide⟩ (.int c10) hf10 (hb hby d6_12) ?_
  refine Gk.istore X29 hx (hb hby d6_13) #[.val (.ref a1), .val (.int (10 : Int32)), .val (.ref a3), .val (.int (10 : Int32)), .val (.int (13 : Int32)), .val (.int (10 : Int32)), .val (.int c10)] rfl ?_
  refine Gk.iload X29 hx (hb hby d6_15) rfl ?_
  refine Gk.sipush X29 hx (hb hby d6_17) (255 : Int32) rfl ?_
  have hc20_10 : ¬ ((255 : Int32) < c10) := hc10
  refine Gk.icmpYes X29 hx (hb hby d6_20) (flt hc20_10).2.2.2 26 (by decide) (by decide) ?_
  refine Gk.aloadN X29 hx (hb hby d6_26) rfl rfl ?_
  refine Gk.iloadN X29 hx (hb hby d6_27) rfl ?_
  refine Gk.iload X29 hx (hb hby d6_28) rfl ?_
  refine Gk.i2b X29 hx (hb hby d6_30) _ rfl ?_
  refine Gk.bastoreB X29 hx hZ e29 V29 10 rfl ⟨by decide, by decide⟩ (.int (c10.toInt8.toInt32)) (congrArg Value.int (own_nb _)) (hb hby d6_31) ?_
  intro T32 h32 X32 e32 W32 V32
  have N32 := Fr.snoc X32 N29 g_a3
  refine Gk.iinc X32 hx (hb hby d6_32) rfl #[.val (.ref a1), .val (.int (11 : Int32)), .val (.ref a3), .val (.int (10 : Int32)), .val (.int (13 : Int32)), .val (.int (10 : Int32)), .val (.int c10)] rfl ?_
  refine Gk.iinc X32 hx (hb hby d6_35) rfl #[.val (.ref a1), .val (.int (11 : Int32)), .val (.ref a3), .val (.int (11 : Int32)), .val (.int (13 : Int32)), .val (.int (10 : Int32)), .val (.int c10)] rfl ?_
  refine Gk.iinc X32 hx (hb hby d6_38) rfl #[.val (.ref a1), .val (.int (11 : Int32)), .val (.ref a3), .val (.int (11 : Int32)), .val (.int (13 : Int32)), .val (.int (11 : Int32)), .val (.int c10)] rfl ?_
  refine Gk.goto X32 hx (hb hby d6_41) 3 (by decide) (by decide) ?_
  refine Gk.iload X32 hx (hb hby d6_3) rfl ?_
  refine Gk.iload X32 hx (hb hby d6_5) rfl ?_
  refine Gk.icmpNo X32 hx (hb hby d6_7) (tlt (by decide : (11 : Int32) < (13 : Int32))).2.1 ?_
  refine Gk.aloadN X32 hx (hb hby d6_10) rfl rfl ?_
  refine Gk.iloadN X32 hx (hb hby d6_11) rfl ?_
  have H34 := (H31.other W32 hne)
  refine Gk.caload X32 hx hZ e32 H34 ⟨by decide, by decide⟩ (.int c11) hf11 (hb hby d6_12) ?_
  refine Gk.istore X32 hx (hb hby d6_13) #[.val (.ref a1), .val (.int (11 : Int32)), .val (.ref a3), .val (.int (11 : Int32)), .val (.int (13 : Int32)), .val (.int (11 : Int32)), .val (.int c11)] rfl ?_
  refine Gk.iload X32 hx (hb hby d6_15) rfl ?_
  refine Gk.sipush X32 hx (hb hby d6_17) (255 : Int32) rfl ?_
  have hc20_11 : ¬ ((255 : Int32) < c11) := hc11
  refine Gk.icmpYes X32 hx (hb hby d6_20) (flt hc20_11).2.2.2 26 (by decide) (by decide) ?_
  refine Gk.aloadN X32 hx (hb hby d6_26) rfl rfl ?_
  refine Gk.iloadN X32 hx (hb hby d6_27) rfl ?_
  refine Gk.iload X32 hx (hb hby d6_28) rfl ?_
  refine Gk.i2b X32 hx (hb hby d6_30) _ rfl ?_
  refine Gk.bastoreB X32 hx hZ e32 V32 11 rfl ⟨by decide, by decide⟩ (.int (c11.toInt8.toInt32)) (congrArg Value.int (own_nb _)) (hb hby d6_31) ?_
  intro T35 h35 X35 e35 W35 V35
  have N35 := Fr.snoc X35 N32 g_a3
  refine Gk.iinc X35 hx (hb hby d6_32) rfl #[.val (.ref a1), .val (.int (12 : Int32)), .val (.ref a3), .val (.int (11 : Int32)), .val (.int (13 : Int32)), .val (.int (11 : Int32)), .val (.int c11)] rfl ?_
  refine Gk.iinc X35 hx (hb hby d6_35) rfl #[.val (.ref a1), .val (.int (12 : Int32)), .val (.ref a3), .val (.int (12 : Int32)), .val (.int (13 : Int32)), .val (.int (11 : Int32)), .val (.int c11)] rfl ?_
  refine Gk.iinc X35 hx (hb hby d6_38) rfl #[.val (.ref a1), .val (.int (12 : Int32)), .val (.ref a3), .val (.int (12 : Int32)), .val (.int (13 : Int32)), .val (.int (12 : Int32)), .val (.int c11)] rfl ?_
  refine Gk.goto X35 hx (hb hby d6_41) 3 (by decide) (by decide) ?_
  refine Gk.iload X35 hx (hb hby d6_3) rfl ?_
  refine Gk.iload X35 hx (hb hby d6_5) rfl ?_
  refine Gk.icmpNo X35 hx (hb hby d6_7) (tlt (by decide : (12 : Int32) < (13 : Int32))).2.1 ?_
  refine Gk.aloadN X35 hx (hb hby d6_10) rfl rfl ?_
  refine Gk.iloadN X35 hx (hb hby d6_11) rfl ?_
  have H37 := (H34.other W35 hne)
  refine Gk.caload X35 hx hZ e35 H37 ⟨by decide, by decide⟩ (.int c12) hf12 (hb hby d6_12) ?_
  refine Gk.istore X35 hx (hb hby d6_13) #[.val (.ref a1), .val (.int (12 : Int32)), .val (.ref a3), .val (.int (12 : Int32)), .val (.int (13 : Int32)), .val (.int (12 : Int32)), .val (.int c12)] rfl ?_
  refine Gk.iload X35 hx (hb hby d6_15) rfl ?_
  refine Gk.sipush X35 hx (hb hby d6_17) (255 : Int32) rfl ?_
  have hc20_12 : ¬ ((255 : Int32) < c12) := hc12
  refine Gk.icmpYes X35 hx (hb hby d6_20) (flt hc20_12).2.2.2 26 (by decide) (by decide) ?_
  refine Gk.aloadN X35 hx (hb hby d6_26) rfl rfl ?_
  refine Gk.iloadN X35 hx (hb hby d6_27) rfl ?_
  refine Gk.iload X35 hx (hb hby d6_28) rfl ?_
  refine Gk.i2b X35 hx (hb hby d6_30) _ rfl ?_
  refine Gk.bastoreB X35 hx hZ e35 V35 12 rfl ⟨by decide, by decide⟩ (.int (c12.toInt8.toInt32)) (congrArg Value.int (own_nb _)) (hb hby d6_31) ?_
  intro T38 h38 X38 e38 W38 V38
  have N38 := Fr.snoc X38 N35 g_a3
  refine Gk.iinc X38 hx (hb hby d6_32) rfl #[.val (.ref a1), .val (.int (13 : Int32)), .val (.ref a3), .val (.int (12 : Int32)), .val (.int (13 : Int32)), .val (.int (12 : Int32)), .val (.int c12)] rfl ?_
  refine Gk.iinc X38 hx (hb hby d6_35) rfl #[.val (.ref a1), .val (.int (13 : Int32)), .val (.ref a3), .val (.int (13 : Int32)), .val (.int (13 : Int32)), .val (.int (12 : Int32)), .val (.int c12)] rfl ?_
  refine Gk.iinc X38 hx (hb hby d6_38) rfl #[.val (.ref a1), .val (.int (13 : Int32)), .val (.ref a3), .val (.int (13 : Int32)), .val (.int (13 : Int32)), .val (.int (13 : Int32)), .val (.int c12)] rfl ?_
  refine Gk.goto X38 hx (hb hby d6_41) 3 (by decide) (by decide) ?_
  refine Gk.iload X38 hx (hb hby d6_3) rfl ?_
  refine Gk.iload X38 hx (hb hby d6_5) rfl ?_
  refine Gk.icmpYes X38 hx (hb hby d6_7) (flt (by decide : ¬ ((13 : Int32) < (13 : Int32)))).2.1 44 (by decide) (by decide) ?_
  refine Gk.iload X38 hx (hb hby d6_44) rfl ?_
  refine Go.fin X38 (v := some (.int (13 : Int32))) (fun h_ => by rw [Bd.returns] at h_; cases h_) Bd.notSynchronized (fun _ hr => retOut X38 hx Bd.returns rfl (Or.inl ⟨rfl, Or.inl rfl, _, rfl⟩) (hb hby d6_46) hr) (fun U' hU hF => ⟨_, _, rfl, ?_, hF.1, hF.2.1, hF.2.2.mono (by decide) (by decide)⟩)
  rw [hU, e38]
  exact ⟨(congrArg (fun z_ : Int32 => some (Value.int z_)) (show (13 : Int32) = (13 : Int32) from rfl)), N38, ((((((((((((((Keep.refl h0 [a3]).wr W2 (Or.inl (List.mem_of_getElem? (i := 0) rfl))).wr W5 (Or.inl (List.mem_of_getElem? (i := 0) rfl))).wr W8 (Or.inl (List.mem_of_getElem? (i := 0) rfl))).wr W11 (Or.inl (List.mem_of_getElem? (i := 0) rfl))).wr W14 (Or.inl (List.mem_of_getElem? (i := 0) rfl))).wr W17 (Or.inl (List.mem_of_getElem? (i := 0) rfl))).wr W20 (Or.inl (List.mem_of_getElem? (i := 0) rfl))).wr W23 (Or.inl (List.mem_of_getElem? (i := 0) rfl))).wr W26 (Or.inl (List.mem_of_getElem? (i := 0) rfl))).wr W29 (Or.inl (List.mem_of_getElem? (i := 0) rfl))).wr W32 (Or.inl (List.mem_of_getElem? (i := 0) rfl))).wr W35 (Or.inl (List.mem_of_getElem? (i := 0) rfl))).wr W38 (Or.inl (List.mem_of_getElem? (i := 0) rfl))), V38⟩
theorem pd_0 : parseMethodDescriptor "([CI[BII)I" = some ⟨[(.array .char), .int, (.array .byte), .int, .int], some .int⟩ := by decide +kernel
theorem d5_0 : decode jdk_52_method_16_code 0 = .ok (.iload_n 2, 1) := by decide +kernel
theorem d5_1 : decode jdk_52_method_16_code 1 = .ok (.newarray .byte, 2) := by decide +kernel
theorem d5_3 : decode jdk_52_method_16_code 3 = .ok (.astore_n 3, 1) := by decide +kernel
theorem d5_4 : decode jdk_52_method_16_code 4 = .ok (.aload_n 0, 1) := by decide +kernel
theorem d5_5 : decode jdk_52_method_16_code 5 = .ok (.iload_n 1, 1) := by decide +kernel
theorem d5_6 : decode jdk_52_method_16_code 6 = .ok (.aload_n 3, 1) := by decide +kernel
theorem d5_7 : decode jdk_52_method_16_code 7 = .ok (.iconst 0, 1) := by decide +kernel
theorem d5_8 : decode jdk_52_method_16_code 8 = .ok (.iload_n 2, 1) := by decide +kernel
theorem d5_9 : decode jdk_52_method_16_code 9 = .ok (.invokestatic 115, 3) := by decide +kernel
theorem d5_12 : decode jdk_52_method_16_code 12 = .ok (.istore 4, 2) := by decide +kernel
theorem d5_14 : decode jdk_52_method_16_code 14 = .ok (.iload 4, 2) := by decide +kernel
theorem d5_16 : decode jdk_52_method_16_code 16 = .ok (.iload_n 2, 1) := by decide +kernel
theorem d5_17 : decode jdk_52_method_16_code 17 = .ok (.if_icmp .eq 40, 3) := by decide +kernel
theorem d5_57 : decode jdk_52_method_16_code 57 = .ok (.aload_n 3, 1) := by decide +kernel
theorem d5_58 : decode jdk_52_method_16_code 58 = .ok (.areturn, 1) := by decide +kernel
theorem ef_cp1_13 (m : MethodId) (a1 : Addr) : entryFrame m #[(.ref a1), (.int (0 : Int32)), (.int (13 : Int32))] 6 = mkF m 0 #[.val (.ref a1), .val (.int (0 : Int32)), .val (.int (13 : Int32)), .unset, .unset, .unset] [] := by first | (simp [entryFrame, mkF, argsToLocals, Value.category]; done) | rfl
def Q_cp1_13 (Z : State) (a1 : Addr) (kc : ClassId) (f : Nat → Value) (c0 : Int32) (c1 : Int32) (c2 : Int32) (c3 : Int32) (c4 : Int32) (c5 : Int32) (c6 : Int32) (c7 : Int32) (c8 : Int32) (c9 : Int32) (c10 : Int32) (c11 : Int32) (c12 : Int32) (h0 : Heap) (n0 : Nat) (v : Option Value) (h : Heap) (L : List Loc) : Prop := v = some (.ref h0.size) ∧ Fr n0 L ∧ Keep h0 h [] ∧ ∃ kb : ClassId, Arf Z h h0.size kb .byte (13 : Int32) (upd (upd (upd (upd (upd (upd (upd (upd (upd (upd (upd (upd (upd (fun _ => (.int (0 : Int32))) 0 (.int (c0.toInt8.toInt32))) 1 (.int (c1.toInt8.toInt32))) 2 (.int (c2.toInt8.toInt32))) 3 (.int (c3.toInt8.toInt32))) 4 (.int (c4.toInt8.toInt32))) 5 (.int (c5.toInt8.toInt32))) 6 (.int (c6.toInt8.toInt32))) 7 (.int (c7.toInt8.toInt32))) 8 (.int (c8.toInt8.toInt32))) 9 (.int (c9.toInt8.toInt32))) 10 (.int (c10.toInt8.toInt32))) 11 (.int (c11.toInt8.toInt32))) 12 (.int (c12.toInt8.toInt32)))
set_option maxRecDepth 65536 in
set_option maxHeartbeats 40000000 in
theorem cp1_13 (l : Launch) (Z : State) (a0 : Array Value) (hw : ∀ d ∈ tables_1, d.before a0 Z = true) (ws : List Jvm.Cond) (a1 : Addr) (kc : ClassId) (f : Nat → Value) (c0 : Int32) (c1 : Int32) (c2 : Int32) (c3 : Int32) (c4 : Int32) (c5 : Int32) (c6 : Int32) (c7 : Int32) (c8 : Int32) (c9 : Int32) (c10 : Int32) (c11 : Int32) (c12 : Int32) (h0 : Heap) (n0 : Nat) (Z0 : n0 ≤ h0.size) (V_a : Arf Z h0 a1 kc .char (13 : Int32) f) (hf0 : f 0 = (.int c0)) (hf1 : f 1 = (.int c1)) (hf2 : f 2 = (.int c2)) (hf3 : f 3 = (.int c3)) (hf4 : f 4 = (.int c4)) (hf5 : f 5 = (.int c5)) (hf6 : f 6 = (.int c6)) (hf7 : f 7 = (.int c7)) (hf8 : f 8 = (.int c8)) (hf9 : f 9 = (.int c9)) (hf10 : f 10 = (.int c10)) (hf11 : f 11 = (.int c11)) (hf12 : f 12 = (.int c12)) (hc0 : ¬ ((255 : Int32) < c0)) (hc1 : ¬ ((255 : Int32) < c1)) (hc2 : ¬ ((255 : Int32) < c2)) (hc3 : ¬ ((255 : Int32) < c3)) (hc4 : ¬ ((255 : Int32) < c4)) (hc5 : ¬ ((255 : Int32) < c5)) (hc6 : ¬ ((255 : Int32) < c6)) (hc7 : ¬ ((255 : Int32) < c7)) (hc8 : ¬ ((255 : Int32) < c8)) (hc9 : ¬ ((255 : Int32) < c9)) (hc10 : ¬ ((255 : Int32) < c10)) (hc11 : ¬ ((255 : Int32) < c11)) (hc12 : ¬ ((255 : Int32) < c12)) :
    MetFree l (⟨"java/lang/StringUTF16", "compress", "([CII)[B"⟩ : MethodName) (head1 (Jvm.Cond.code (⟨"java/lang/StringUTF16", "compress", "([CII)[B"⟩ : MethodName) jdk_52_method_16_code 6 (some (.array .byte)) :: ws) ({ frames := 1, cells := 1, slots := 13, locals := 18 } : Room)) (fun a U => a = #[(.ref a1), (.int (0 : Int32)), (.int (13 : Int32))] ∧ Z.Warmed39 U.vm ∧ U.heap = h0) (fun _ _ _ _ _ => True) (fun _ U o U' => ∃ v L, o = .returned v ∧ Q_cp1_13 Z a1 kc f c0 c1 c2 c3 c4 c5 c6 c7 c8 c9 c10 c11 c12 h0 n0 v U'.heap L ∧ FrameEnd U o U' L ({ frames := 1, cells := 1, slots := 13, locals := 18 } : Room).cells ({ frames := 1, cells := 1, slots := 13, locals := 18 } : Room).slots) := by
  refine MetFree.of_bodySF (plainFor_of_name pn_23) hisR ?_
  intro p e s m args below meth c s₁ Bd hml0 hP hK
  obtain ⟨rfl, hZ, hh⟩ := hP
  have hx := Bd.exec
  have hby := Bd.bytes
  have hml : c.maxLocals = 6 := hml0
  have hown : s.vm.findClass "java/lang/StringUTF16" = some m.cls := findClass_of_methodNamed Bd.named
  have hnm := (name_of_methodNamed Bd.named Bd.method).1
  have X0 : Stand p l e ({ frames := 1, cells := 1, slots := 13, locals := 18 } : Room) s m #[(.ref a1), (.int (0 : Int32)), (.int (13 : Int32))] below meth c s₁ [] 0 0 := Stand.of_body Bd
  have e0 : s₁.heap = h0 := by rw [← hh, Bd.state]; rfl
  have N0 := Fr.nil n0
  show Go p e below (s₁.setTop (entryFrame m #[(.ref a1), (.int (0 : Int32)), (.int (13 : Int32))] 6)) (fun o U' => ∃ v L, o = .returned v ∧ Q_cp1_13 Z a1 kc f c0 c1 c2 c3 c4 c5 c6 c7 c8 c9 c10 c11 c12 h0 n0 v U'.heap L ∧ FrameEnd s o U' L ({ frames := 1, cells := 1, slots := 13, locals := 18 } : Room).cells ({ frames := 1, cells := 1, slots := 13, locals := 18 } : Room).slots)
  rw [ef_cp1_13]
  refine Gk.iloadN X0 hx (hb hby d5_0) rfl ?_
  refine Gk.newP X0 hx hZ (hw _ (List.mem_of_getElem? (i := 5) rfl)) e0 (hb hby d5_1) (by decide) (cap := 13) (by decide) (by decide) (by decide) (by decide) rfl ?_
  intro T1 h1 b1 k1 X1 e1 E1 g1 A1 B1
  have g_b1 : n0 ≤ b1 := Nat.le_trans Z0 (Nat.le_of_eq g1.symm)
  have V_b1 : Arf Z h1 b1 k1 .byte (13 : Int32) (fun _ => (.int (0 : Int32))) := A1
  have lt_b1 := V_b1.lt
  refine Gk.astoreN X1 hx (hb hby d5_3) rfl #[.val (.ref a1), .val (.int (0 : Int32)), .val (.int (13 : Int32)), .val (.ref b1), .unset, .unset] rfl ?_
  refine Gk.aloadN X1 hx (hb hby d5_4) rfl rfl ?_
  refine Gk.iloadN X1 hx (hb hby d5_5) rfl ?_
  refine Gk.aloadN X1 hx (hb hby d5_6) rfl rfl ?_
  refine Gk.iconst X1 hx (hb hby d5_7) (0 : Int32) rfl ?_
  refine Gk.iloadN X1 hx (hb hby d5_8) rfl ?_
  have H3 := (V_a.ext E1)
  have ne4 : a1 ≠ b1 := (Nat.ne_of_lt (Nat.lt_of_lt_of_le V_a.lt (Nat.le_trans (Nat.le_refl _) (Nat.le_of_eq g1.symm))))
  refine Gk.callS (argsL := [(.ref a1), (.int (0 : Int32)), (.ref b1), (.int (0 : Int32)), (.int (13 : Int32))]) X1 hx hZ hown (cp2_13 l Z a0 hw [] a1 b1 kc f c0 c1 c2 c3 c4 c5 c6 c7 c8 c9 c10 c11 c12 k1 (fun _ => (.int (0 : Int32))) h1 n0 (Nat.le_trans Z0 E1.1) H3 V_b1 ne4 hf0 hf1 hf2 hf3 hf4 hf5 hf6 hf7 hf8 hf9 hf10 hf11 hf12 hc0 hc1 hc2 hc3 hc4 hc5 hc6 hc7 hc8 hc9 hc10 hc11 hc12 g_b1) (hw _ (List.mem_of_getElem? (i := 38) rfl)) (hw _ (List.mem_of_getElem? (i := 39) rfl)) (hw _ (List.mem_of_getElem? (i := 36) rfl)) (hw _ (List.mem_of_getElem? (i := 40) rfl)) (by decide) e1 pd_0 rfl rfl (by decide) (Nat.le_of_ble_eq_true rfl) (by decide) (by decide) (by rw [hml]; rfl)  rfl (hb hby d5_9) ?_
  intro T2 L2 v2 X2 hQ2
  obtain ⟨rfl, N2q, K2, V2_⟩ := hQ2
  have N2 := Fr.app N0 N2q
  show Go p e below (T2.setTop (mkF m 12 #[.val (.ref a1), .val (.int (0 : Int32)), .val (.int (13 : Int32)), .val (.ref b1), .unset, .unset] [(.int (13 : Int32))])) _
  refine Gk.istore X2 hx (hb hby d5_12) #[.val (.ref a1), .val (.int (0 : Int32)), .val (.int (13 : Int32)), .val (.ref b1), .val (.int (13 : Int32)), .unset] rfl ?_
  refine Gk.iload X2 hx (hb hby d5_14) rfl ?_
  refine Gk.iloadN X2 hx (hb hby d5_16) rfl ?_
  refine Gk.icmpYes X2 hx (hb hby d5_17) (teq (by decide : (13 : Int32) = (13 : Int32))).1 57 (by decide) (by decide) ?_
  refine Gk.aloadN X2 hx (hb hby d5_57) rfl rfl ?_
  refine Go.fin X2 (v := some (.ref b1)) (fun h_ => by rw [Bd.returns] at h_; cases h_) Bd.notSynchronized (fun _ hr => retOut X2 hx Bd.returns rfl (Or.inr (Or.inr (Or.inr (Or.inr ⟨rfl, rfl, rfl⟩)))) (hb hby d5_58) hr) (fun U' hU hF => ⟨_, _, rfl, ?_, hF.1, hF.2.1, hF.2.2.mono (by decide) (by decide)⟩)
  rw [hU]
  exact ⟨(congrArg (fun z_ : Addr => some (Value.ref z_)) (show b1 = h0.size from g1)), N2, (((Keep.refl h0 []).ext E1).trans K2 (allS (Or.inr (Nat.le_trans (Nat.le_refl _) (Nat.le_of_eq g1.symm))) all0)), _, (g1 ▸ V2_)⟩
theorem d7_0 : decode jdk_52_method_15_code 0 = .ok (.iload_n 1, 1) := by decide +kernel
theorem d7_1 : decode jdk_52_method_15_code 1 = .ok (.aload_n 0, 1) := by decide +kernel
theorem d7_2 : decode jdk_52_method_15_code 2 = .ok (.arraylength, 1) := by decide +kernel
theorem d7_3 : decode jdk_52_method_15_code 3 = .ok (.isub, 1) := by decide +kernel
theorem d7_4 : decode jdk_52_method_15_code 4 = .ok (.bipush 31, 2) := by decide +kernel
theorem d7_6 : decode jdk_52_method_15_code 6 = .ok (.iushr, 1) := by decide +kernel
theorem d7_7 : decode jdk_52_method_15_code 7 = .ok (.i2b, 1) := by decide +kernel
theorem d7_8 : decode jdk_52_method_15_code 8 = .ok (.ireturn, 1) := by decide +kernel
theorem ef_cfl_13 (m : MethodId) (a1 : Addr) : entryFrame m #[(.ref a1), (.int (13 : Int32))] 2 = mkF m 0 #[.val (.ref a1), .val (.int (13 : Int32))] [] := by first | (simp [entryFrame, mkF, argsToLocals, Value.category]; done) | rfl
def Q_cfl_13 (Z : State) (a1 : Addr) (kb : ClassId) (fb : Nat → Value) (h0 : Heap) (n0 : Nat) (v : Option Value) (h : Heap) (L : List Loc) : Prop := v = some (.int (0 : Int32)) ∧ Fr n0 L ∧ h = h0
set_option maxRecDepth 65536 in
set_option maxHeartbeats 40000000 in
theorem cfl_13 (l : Launch) (Z : State) (a0 : Array Value) (hw : ∀ d ∈ tables_1, d.before a0 Z = true) (ws : List Jvm.Cond) (a1 : Addr) (kb : ClassId) (fb : Nat → Value) (h0 : Heap) (n0 : Nat) (Z0 : n0 ≤ h0.size) (V_b : Arf Z h0 a1 kb .byte (13 : Int32) fb) :
    MetFree l (⟨"java/lang/StringUTF16", "coderFromArrayLen", "([BI)B"⟩ : MethodName) (head1 (Jvm.Cond.code (⟨"java/lang/StringUTF16", "coderFromArrayLen", "([BI)B"⟩ : MethodName) jdk_52_method_15_code 2 (some .byte) :: ws) ({ frames := 0, cells := 0, slots := 0, locals := 0 } : Room)) (fun a U => a = #[(.ref a1), (.int (13 : Int32))] ∧ Z.Warmed39 U.vm ∧ U.heap = h0) (fun _ _ _ _ _ => True) (fun _ U o U' => ∃ v L, o = .returned v ∧ Q_cfl_13 Z a1 kb fb h0 n0 v U'.heap L ∧ FrameEnd U o U' L ({ frames := 0, cells := 0, slots := 0, locals := 0 } : Room).cells ({ frames := 0, cells := 0, slots := 0, locals := 0 } : Room).slots) := by
  refine MetFree.of_bodySF (plainFor_of_name pn_23) hisR ?_
  intro p e s m args below meth c s₁ Bd hml0 hP hK
  obtain ⟨rfl, hZ, hh⟩ := hP
  have hx := Bd.exec
  have hby := Bd.bytes
  have hml : c.maxLocals = 2 := hml0
  have hown : s.vm.findClass "java/lang/StringUTF16" = some m.cls := findClass_of_methodNamed Bd.named
  have hnm := (name_of_methodNamed Bd.named Bd.method).1
  have X0 : Stand p l e ({ frames := 0, cells := 0, slots := 0, locals := 0 } : Room) s m #[(.ref a1), (.int (13 : Int32))] below meth c s₁ [] 0 0 := Stand.of_body Bd
  have e0 : s₁.heap = h0 := by rw [← hh, Bd.state]; rfl
  have N0 := Fr.nil n0
  show Go p e below (s₁.setTop (entryFrame m #[(.ref a1), (.int (13 : Int32))] 2)) (fun o U' => ∃ v L, o = .returned v ∧ Q_cfl_13 Z a1 kb fb h0 n0 v U'.heap L ∧ FrameEnd s o U' L ({ frames := 0, cells := 0, slots := 0, locals := 0 } : Room).cells ({ frames := 0, cells := 0, slots := 0, locals := 0 } : Room).slots)
  rw [ef_cfl_13]
  refine Gk.iloadN X0 hx (hb hby d7_0) rfl ?_
  refine Gk.aloadN X0 hx (hb hby d7_1) rfl rfl ?_
  refine Gk.alen X0 hx hZ e0 V_b (hb hby d7_2) ?_
  refine Gk.isub X0 hx (hb hby d7_3) (0 : Int32) (by decide) ?_
  refine Gk.bipush X0 hx (hb hby d7_4) (31 : Int32) rfl ?_
  refine Gk.iushr X0 hx (hb hby d7_6) (0 : Int32) (by decide) ?_
  refine Gk.i2b X0 hx (hb hby d7_7) (0 : Int32) (by decide) ?_
  refine Go.fin X0 (v := some (.int (0 : Int32))) (fun h_ => by rw [Bd.returns] at h_; cases h_) Bd.notSynchronized (fun _ hr => retN X0 hx (t := .byte) Bd.returns (by simp) (hb hby d7_8) hr) (fun U' hU hF => ⟨_, _, rfl, ?_, hF.1, hF.2.1, hF.2.2.mono (by decide) (by decide)⟩)
  rw [hU, e0]
  exact ⟨(congrArg (fun z_ : Int32 => some (Value.int z_)) (show (0 : Int32) = (0 : Int32) from rfl)), N0, rfl⟩
theorem pd_1 : parseMethodDescriptor "([CII)[B" = some ⟨[(.array .char), .int, .int], some (.array .byte)⟩ := by decide +kernel
theorem pd_2 : parseMethodDescriptor "([BI)B" = some ⟨[(.array .byte), .int], some .byte⟩ := by decide +kernel
theorem d3_0 : decode jdk_42_method_149_code 0 = .ok (.aload_n 0, 1) := by decide +kernel
theorem d3_1 : decode jdk_42_method_149_code 1 = .ok (.invokespecial 1, 3) := by decide +kernel
theorem d3_4 : decode jdk_42_method_149_code 4 = .ok (.iload_n 3, 1) := by decide +kernel
theorem d3_5 : decode jdk_42_method_149_code 5 = .ok (.ifCond .ne 22, 3) := by decide +kernel
theorem d3_27 : decode jdk_42_method_149_code 27 = .ok (.getstatic 38, 3) := by decide +kernel
theorem d3_30 : decode jdk_42_method_149_code 30 = .ok (.ifCond .eq 28, 3) := by decide +kernel
theorem d3_33 : decode jdk_42_method_149_code 33 = .ok (.aload_n 1, 1) := by decide +kernel
theorem d3_34 : decode jdk_42_method_149_code 34 = .ok (.iload_n 2, 1) := by decide +kernel
theorem d3_35 : decode jdk_42_method_149_code 35 = .ok (.iload_n 3, 1) := by decide +kernel
theorem d3_36 : decode jdk_42_method_149_code 36 = .ok (.invokestatic 177, 3) := by decide +kernel
theorem d3_39 : decode jdk_42_method_149_code 39 = .ok (.astore 5, 2) := by decide +kernel
theorem d3_41 : decode jdk_42_method_149_code 41 = .ok (.aload_n 0, 1) := by decide +kernel
theorem d3_42 : decode jdk_42_method_149_code 42 = .ok (.aload 5, 2) := by decide +kernel
theorem d3_44 : decode jdk_42_method_149_code 44 = .ok (.iload_n 3, 1) := by decide +kernel
theorem d3_45 : decode jdk_42_method_149_code 45 = .ok (.invokestatic 47, 3) := by decide +kernel
theorem d3_48 : decode jdk_42_method_149_code 48 = .ok (.putfield 15, 3) := by decide +kernel
theorem d3_51 : decode jdk_42_method_149_code 51 = .ok (.aload_n 0, 1) := by decide +kernel
theorem d3_52 : decode jdk_42_method_149_code 52 = .ok (.aload 5, 2) := by decide +kernel
theorem d3_54 : decode jdk_42_method_149_code 54 = .ok (.putfield 9, 3) := by decide +kernel
theorem d3_57 : decode jdk_42_method_149_code 57 = .ok (.return_, 1) := by decide +kernel
theorem pn_67 : plainName "java/lang/String" = true := by first | (simp [plainName, overriddenIn]; done) | decide +kernel
theorem ef_in4_13 (m : MethodId) (a1 : Addr) (a2 : Addr) : entryFrame m #[(.ref a1), (.ref a2), (.int (0 : Int32)), (.int (13 : Int32)), .null] 6 = mkF m 0 #[.val (.ref a1), .val (.ref a2), .val (.int (0 : Int32)), .val (.int (13 : Int32)), .val .null, .unset] [] := by first | (simp [entryFrame, mkF, argsToLocals, Value.category]; done) | rfl
def Q_in4_13 (Z : State) (a1 : Addr) (a2 : Addr) (kc : ClassId) (f : Nat → Value) (c0 : Int32) (c1 : Int32) (c2 : Int32) (c3 : Int32) (c4 : Int32) (c5 : Int32) (c6 : Int32) (c7 : Int32) (c8 : Int32) (c9 : Int32) (c10 : Int32) (c11 : Int32) (c12 : Int32) (u_coder_a1 : Value) (u_value_a1 : Value) (w_COMPACT_STRINGS : Int32) (h0 : Heap) (n0 : Nat) (v : Option Value) (h : Heap) (L : List Loc) : Prop := v = none ∧ Fr n0 L ∧ Keep h0 h [a1] ∧ Fld Z h a1 "java/lang/String" "coder" "B" (.int (0 : Int32)) ∧ ∃ (b : Addr) (kb : ClassId), h0.size ≤ b ∧ Fld Z h a1 "java/lang/String" "value" "[B" (.ref b) ∧ Arf Z h b kb .byte (13 : Int32) (upd (upd (upd (upd (upd (upd (upd (upd (upd (upd (upd (upd (upd (fun _ => (.int (0 : Int32))) 0 (.int (c0.toInt8.toInt32))) 1 (.int (c1.toInt8.toInt32))) 2 (.int (c2.toInt8.toInt32))) 3 (.int (c3.toInt8.toInt32))) 4 (.int (c4.toInt8.toInt32))) 5 (.int (c5.toInt8.toInt32))) 6 (.int (c6.toInt8.toInt32))) 7 (.int (c7.toInt8.toInt32))) 8 (.int (c8.toInt8.toInt32))) 9 (.int (c9.toInt8.toInt32))) 10 (.int (c10.toInt8.toInt32))) 11 (.int (c11.toInt8.toInt32))) 12 (.int (c12.toInt8.toInt32)))
set_option maxRecDepth 65536 in
set_option maxHeartbeats 40000000 in
theorem in4_13 (l : Launch) (Z : State) (a0 : Array Value) (hw : ∀ d ∈ tables_1, d.before a0 Z = true) (ws : List Jvm.Cond) (a1 : Addr) (a2 : Addr) (kc : ClassId) (f : Nat → Value) (c0 : Int32) (c1 : Int32) (c2 : Int32) (c3 : Int32) (c4 : Int32) (c5 : Int32) (c6 : Int32) (c7 : Int32) (c8 : Int32) (c9 : Int32) (c10 : Int32) (c11 : Int32) (c12 : Int32) (u_coder_a1 : Value) (u_value_a1 : Value) (w_COMPACT_STRINGS : Int32) (h0 : Heap) (n0 : Nat) (Z0 : n0 ≤ h0.size) (S_COMPACT_STRINGS : Stx Z n0 h0 "java/lang/String" "COMPACT_STRINGS" "Z" (.int w_COMPACT_STRINGS)) (E_a1 : Exa Z h0 a1 "java/lang/String") (V_a : Arf Z h0 a2 kc .char (13 : Int32) f) (hf0 : f 0 = (.int c0)) (hf1 : f 1 = (.int c1)) (hf2 : f 2 = (.int c2)) (hf3 : f 3 = (.int c3)) (hf4 : f 4 = (.int c4)) (hf5 : f 5 = (.int c5)) (hf6 : f 6 = (.int c6)) (hf7 : f 7 = (.int c7)) (hf8 : f 8 = (.int c8)) (hf9 : f 9 = (.int c9)) (hf10 : f 10 = (.int c10)) (hf11 : f 11 = (.int c11)) (hf12 : f 12 = (.int c12)) (hc0 : ¬ ((255 : Int32) < c0)) (hc1 : ¬ ((255 : Int32) < c1)) (hc2 : ¬ ((255 : Int32) < c2)) (hc3 : ¬ ((255 : Int32) < c3)) (hc4 : ¬ ((255 : Int32) < c4)) (hc5 : ¬ ((255 : Int32) < c5)) (hc6 : ¬ ((255 : Int32) < c6)) (hc7 : ¬ ((255 : Int32) < c7)) (hc8 : ¬ ((255 : Int32) < c8)) (hc9 : ¬ ((255 : Int32) < c9)) (hc10 : ¬ ((255 : Int32) < c10)) (hc11 : ¬ ((255 : Int32) < c11)) (hc12 : ¬ ((255 : Int32) < c12)) (hcs : ¬ (w_COMPACT_STRINGS = (0 : Int32))) (F_coder_a1 : Fld Z h0 a1 "java/lang/String" "coder" "B" u_coder_a1) (g_a1 : n0 ≤ a1) (F_value_a1 : Fld Z h0 a1 "java/lang/String" "value" "[B" u_value_a1) :
    MetFree l (⟨"java/lang/String", "<init>", "([CIILjava/lang/Void;)V"⟩ : MethodName) (head1 (Jvm.Cond.code (⟨"java/lang/String", "<init>", "([CIILjava/lang/Void;)V"⟩ : MethodName) jdk_42_method_149_code 6 none :: ws) ({ frames := 2, cells := 1, slots := 13, locals := 35 } : Room)) (fun a U => a = #[(.ref a1), (.ref a2), (.int (0 : Int32)), (.int (13 : Int32)), .null] ∧ Z.Warmed39 U.vm ∧ U.heap = h0) (fun _ _ _ _ _ => True) (fun _ U o U' => ∃ v L, o = .returned v ∧ Q_in4_13 Z a1 a2 kc f c0 c1 c2 c3 c4 c5 c6 c7 c8 c9 c10 c11 c12 u_coder_a1 u_value_a1 w_COMPACT_STRINGS h0 n0 v U'.heap L ∧ FrameEnd U o U' L ({ frames := 2, cells := 1, slots := 13, locals := 35 } : Room).cells ({ frames := 2, cells := 1, slots := 13, locals := 35 } : Room).slots) := by
  refine MetFree.of_bodySF (plainFor_of_name pn_67) hisR ?_
  intro p e s m args below meth c s₁ Bd hml0 hP hK
  obtain ⟨rfl, hZ, hh⟩ := hP
  have hx := Bd.exec
  have hby := Bd.bytes
  have hml : c.maxLocals = 6 := hml0
  have hown : s.vm.findClass "java/lang/String" = some m.cls := findClass_of_methodNamed Bd.named
  have hnm := (name_of_methodNamed Bd.named Bd.method).1
  have X0 : Stand p l e ({ frames := 2, cells := 1, slots := 13, locals := 35 } : Room) s m #[(.ref a1), (.ref a2), (.int (0 : Int32)), (.int (13 : Int32)), .null] below meth c s₁ [] 0 0 := Stand.of_body Bd
  have e0 : s₁.heap = h0 := by rw [← hh, Bd.state]; rfl
  have N0 := Fr.nil n0
  show Go p e below (s₁.setTop (entryFrame m #[(.ref a1), (.ref a2), (.int (0 : Int32)), (.int (13 : Int32)), .null] 6)) (fun o U' => ∃ v L, o = .returned v ∧ Q_in4_13 Z a1 a2 kc f c0 c1 c2 c3 c4 c5 c6 c7 c8 c9 c10 c11 c12 u_coder_a1 u_value_a1 w_COMPACT_STRINGS h0 n0 v U'.heap L ∧ FrameEnd s o U' L ({ frames := 2, cells := 1, slots := 13, locals := 35 } : Room).cells ({ frames := 2, cells := 1, slots := 13, locals := 35 } : Room).slots)
  rw [ef_in4_13]
  refine Gk.aloadN X0 hx (hb hby d3_0) rfl rfl ?_
  refine Gk.initO X0 hx hZ hown (hw _ (List.mem_of_getElem? (i := 30) rfl)) (hw _ (List.mem_of_getElem? (i := 31) rfl)) (hw _ (List.mem_of_getElem? (i := 32) rfl)) e0 (by rw [hml]; rfl) (hb hby d3_1) (by decide) (Nat.le_of_ble_eq_true rfl) ?_
  intro T1 X1 e1
  refine Gk.iloadN X1 hx (hb hby d3_4) rfl ?_
  refine Gk.ifYes X1 hx (hb hby d3_5) (feq (by decide : ¬ ((13 : Int32) = (0 : Int32)))).2 27 (by decide) (by decide) ?_
  refine Gk.getS X1 hx hZ hown (host := "") (Or.inl (hw _ (List.mem_of_getElem? (i := 33) rfl))) Via.refl e1 S_COMPACT_STRINGS.sta (hb hby d3_27) ?_
  intro T2 X2 e2
  have hc30 : ¬ (w_COMPACT_STRINGS = (0 : Int32)) := hcs
  refine Gk.ifNo X2 hx (hb hby d3_30) (feq hc30).1 ?_
  refine Gk.aloadN X2 hx (hb hby d3_33) rfl rfl ?_
  refine Gk.iloadN X2 hx (hb hby d3_34) rfl ?_
  refine Gk.iloadN X2 hx (hb hby d3_35) rfl ?_
  refine Gk.callS (argsL := [(.ref a2), (.int (0 : Int32)), (.int (13 : Int32))]) X2 hx hZ hown (cp1_13 l Z a0 hw [] a2 kc f c0 c1 c2 c3 c4 c5 c6 c7 c8 c9 c10 c11 c12 h0 n0 Z0 V_a hf0 hf1 hf2 hf3 hf4 hf5 hf6 hf7 hf8 hf9 hf10 hf11 hf12 hc0 hc1 hc2 hc3 hc4 hc5 hc6 hc7 hc8 hc9 hc10 hc11 hc12) (hw _ (List.mem_of_getElem? (i := 34) rfl)) (hw _ (List.mem_of_getElem? (i := 35) rfl)) (hw _ (List.mem_of_getElem? (i := 36) rfl)) (hw _ (List.mem_of_getElem? (i := 37) rfl)) (by decide) e2 pd_1 rfl rfl (by decide) (Nat.le_of_ble_eq_true rfl) (by decide) (by decide) (by rw [hml]; rfl)  rfl (hb hby d3_36) ?_
  intro T3 L3 v3 X3 hQ3
  obtain ⟨rfl, N3q, K3, k3, A3⟩ := hQ3
  have N3 := Fr.app N0 N3q
  obtain ⟨b3, g3⟩ : ∃ z_, z_ = h0.size := ⟨_, rfl⟩
  rw [← g3] at A3 ⊢
  have g_b3 : n0 ≤ b3 := Nat.le_trans Z0 (Nat.le_of_eq g3.symm)
  have lt_b3 := A3.lt
  show Go p e below (T3.setTop (mkF m 39 #[.val (.ref a1), .val (.ref a2), .val (.int (0 : Int32)), .val (.int (13 : Int32)), .val .null, .unset] [(.ref b3)])) _
  refine Gk.astore X3 hx (hb hby d3_39) rfl #[.val (.ref a1), .val (.ref a2), .val (.int (0 : Int32)), .val (.int (13 : Int32)), .val .null, .val (.ref b3)] rfl ?_
  refine Gk.aloadN X3 hx (hb hby d3_41) rfl rfl ?_
  refine Gk.aload X3 hx (hb hby d3_42) rfl rfl ?_
  refine Gk.iloadN X3 hx (hb hby d3_44) rfl ?_
  refine Gk.callS (argsL := [(.ref b3), (.int (13 : Int32))]) X3 hx hZ hown (cfl_13 l Z a0 hw [] b3 k3 (upd (upd (upd (upd (upd (upd (upd (upd (upd (upd (upd (upd (upd (fun _ => (.int (0 : Int32))) 0 (.int (c0.toInt8.toInt32))) 1 (.int (c1.toInt8.toInt32))) 2 (.int (c2.toInt8.toInt32))) 3 (.int (c3.toInt8.toInt32))) 4 (.int (c4.toInt8.toInt32))) 5 (.int (c5.toInt8.toInt32))) 6 (.int (c6.toInt8.toInt32))) 7 (.int (c7.toInt8.toInt32))) 8 (.int (c8.toInt8.toInt32))) 9 (.int (c9.toInt8.toInt32))) 10 (.int (c10.toInt8.toInt32))) 11 (.int (c11.toInt8.toInt32))) 12 (.int (c12.toInt8.toInt32))) T3.heap n0 (Nat.le_trans Z0 K3.1) A3) (hw _ (List.mem_of_getElem? (i := 41) rfl)) (hw _ (List.mem_of_getElem? (i := 42) rfl)) (hw _ (List.mem_of_getElem? (i := 36) rfl)) (hw _ (List.mem_of_getElem? (i := 43) rfl)) (by decide) rfl pd_2 rfl rfl (by decide) (Nat.le_of_ble_eq_true rfl) (by decide) (by decide) (by rw [hml]; rfl)  rfl (hb hby d3_45) ?_
  intro T4 L4 v4 X4 hQ4
  obtain ⟨rfl, N4q, e4⟩ := hQ4
  have N4 := Fr.app N3 N4q
  show Go p e below (T4.setTop (mkF m 48 #[.val (.ref a1), .val (.ref a2), .val (.int (0 : Int32)), .val (.int (13 : Int32)), .val .null, .val (.ref b3)] [(.int (0 : Int32)), (.ref a1)])) _
  have H5 := (E_a1.keep K3)
  have H6 := (F_coder_a1.keep K3 nin0)
  refine Gk.putFN X4 hx hZ hown (hw _ (List.mem_of_getElem? (i := 44) rfl)) Via.refl e4 H6 H5 (Or.inr ⟨(hw _ (List.mem_of_getElem? (i := 7) rfl)), rfl, hnm⟩) (hw _ (List.mem_of_getElem? (i := 4) rfl)) (ty := .byte) (v' := (.int (0 : Int32))) (by decide) rfl rfl (hb hby d3_48) ?_
  intro T7 h7 X7 e7 W7
  have Fw7 := H6.same W7
  have N7 := Fr.snoc X7 N4 g_a1
  refine Gk.aloadN X7 hx (hb hby d3_51) rfl rfl ?_
  refine Gk.aload X7 hx (hb hby d3_52) rfl rfl ?_
  have H8 := (H5.wr W7)
  have H9 := ((F_value_a1.keep K3 nin0).other W7 (Or.inr (slot_ne (Or.inr (hw _ (List.mem_of_getElem? (i := 6) rfl))) (Or.inr (hw _ (List.mem_of_getElem? (i := 7) rfl))) (by decide) (t := (.array .byte)) (t' := .byte) (by decide) (by decide))))
  refine Gk.putF X7 hx hZ hown (host := "") (Or.inl (hw _ (List.mem_of_getElem? (i := 45) rfl))) Via.refl e7 H9 H8 (Or.inr ⟨(hw _ (List.mem_of_getElem? (i := 6) rfl)), rfl, hnm⟩) (hw _ (List.mem_of_getElem? (i := 4) rfl)) (ty := (.array .byte)) (by decide) rfl rfl (hb hby d3_54) ?_
  intro T10 h10 X10 e10 W10
  have Fw10 := H9.same W10
  have N10 := Fr.snoc X10 N7 g_a1
  have H11 := (Fw7.other W10 (Or.inr (slot_ne (Or.inr (hw _ (List.mem_of_getElem? (i := 7) rfl))) (Or.inr (hw _ (List.mem_of_getElem? (i := 6) rfl))) (by decide) (t := .byte) (t' := (.array .byte)) (by decide) (by decide))))
  have ne12 : b3 ≠ a1 := (Nat.ne_of_gt (Nat.lt_of_lt_of_le E_a1.lt (Nat.le_trans (Nat.le_refl _) (Nat.le_of_eq g3.symm))))
  have H13 := ((A3.other W7 ne12).other W10 ne12)
  refine Go.fin X10 (v := none) (fun _ => rfl) Bd.notSynchronized (fun _ hr => X10.returnOut hx Bd.returns (hb hby d3_57) hr) (fun U' hU hF => ⟨_, _, rfl, ?_, hF.1, hF.2.1, hF.2.2.mono (by decide) (by decide)⟩)
  rw [hU, e10]
  exact ⟨rfl, N10, ((((Keep.refl h0 [a1]).trans K3 all0).wr W7 (Or.inl (List.mem_of_getElem? (i := 0) rfl))).wr W10 (Or.inl (List.mem_of_getElem? (i := 0) rfl))), H11, b3, _, (Nat.le_trans (Nat.le_refl _) (Nat.le_of_eq g3.symm)), Fw10, H13⟩
theorem pd_3 : parseMethodDescriptor "([CIILjava/lang/Void;)V" = some ⟨[(.array .char), .int, .int, (.object "java/lang/Void")], none⟩ := by decide +kernel
theorem d2_0 : decode jdk_42_method_3_code 0 = .ok (.aload_n 0, 1) := by decide +kernel
theorem d2_1 : decode jdk_42_method_3_code 1 = .ok (.aload_n 1, 1) := by decide +kernel
theorem d2_2 : decode jdk_42_method_3_code 2 = .ok (.iconst 0, 1) := by decide +kernel
theorem d2_3 : decode jdk_42_method_3_code 3 = .ok (.aload_n 1, 1) := by decide +kernel
theorem d2_4 : decode jdk_42_method_3_code 4 = .ok (.arraylength, 1) := by decide +kernel
theorem d2_5 : decode jdk_42_method_3_code 5 = .ok (.aconst_null, 1) := by decide +kernel
theorem d2_6 : decode jdk_42_method_3_code 6 = .ok (.invokespecial 27, 3) := by decide +kernel
theorem d2_9 : decode jdk_42_method_3_code 9 = .ok (.return_, 1) := by decide +kernel
theorem ef_str_13 (m : MethodId) (a1 : Addr) (a2 : Addr) : entryFrame m #[(.ref a1), (.ref a2)] 2 = mkF m 0 #[.val (.ref a1), .val (.ref a2)] [] := by first | (simp [entryFrame, mkF, argsToLocals, Value.category]; done) | rfl
def Q_str_13 (Z : State) (a1 : Addr) (a2 : Addr) (kc : ClassId) (f : Nat → Value) (c0 : Int32) (c1 : Int32) (c2 : Int32) (c3 : Int32) (c4 : Int32) (c5 : Int32) (c6 : Int32) (c7 : Int32) (c8 : Int32) (c9 : Int32) (c10 : Int32) (c11 : Int32) (c12 : Int32) (u_coder_a1 : Value) (u_value_a1 : Value) (w_COMPACT_STRINGS : Int32) (h0 : Heap) (n0 : Nat) (v : Option Value) (h : Heap) (L : List Loc) : Prop := v = none ∧ Fr n0 L ∧ Keep h0 h [a1] ∧ Fld Z h a1 "java/lang/String" "coder" "B" (.int (0 : Int32)) ∧ ∃ (b : Addr) (kb : ClassId), h0.size ≤ b ∧ Fld Z h a1 "java/lang/String" "value" "[B" (.ref b) ∧ Arf Z h b kb .byte (13 : Int32) (upd (upd (upd (upd (upd (upd (upd (upd (upd (upd (upd (upd (upd (fun _ => (.int (0 : Int32))) 0 (.int (c0.toInt8.toInt32))) 1 (.int (c1.toInt8.toInt32))) 2 (.int (c2.toInt8.toInt32))) 3 (.int (c3.toInt8.toInt32))) 4 (.int (c4.toInt8.toInt32))) 5 (.int (c5.toInt8.toInt32))) 6 (.int (c6.toInt8.toInt32))) 7 (.int (c7.toInt8.toInt32))) 8 (.int (c8.toInt8.toInt32))) 9 (.int (c9.toInt8.toInt32))) 10 (.int (c10.toInt8.toInt32))) 11 (.int (c11.toInt8.toInt32))) 12 (.int (c12.toInt8.toInt32)))
set_option maxRecDepth 65536 in
set_option maxHeartbeats 40000000 in
theorem str_13 (l : Launch) (Z : State) (a0 : Array Value) (hw : ∀ d ∈ tables_1, d.before a0 Z = true) (ws : List Jvm.Cond) (a1 : Addr) (a2 : Addr) (kc : ClassId) (f : Nat → Value) (c0 : Int32) (c1 : Int32) (c2 : Int32) (c3 : Int32) (c4 : Int32) (c5 : Int32) (c6 : Int32) (c7 : Int32) (c8 : Int32) (c9 : Int32) (c10 : Int32) (c11 : Int32) (c12 : Int32) (u_coder_a1 : Value) (u_value_a1 : Value) (w_COMPACT_STRINGS : Int32) (h0 : Heap) (n0 : Nat) (Z0 : n0 ≤ h0.size) (S_COMPACT_STRINGS : Stx Z n0 h0 "java/lang/String" "COMPACT_STRINGS" "Z" (.int w_COMPACT_STRINGS)) (E_a1 : Exa Z h0 a1 "java/lang/String") (V_a : Arf Z h0 a2 kc .char (13 : Int32) f) (hf0 : f 0 = (.int c0)) (hf1 : f 1 = (.int c1)) (hf2 : f 2 = (.int c2)) (hf3 : f 3 = (.int c3)) (hf4 : f 4 = (.int c4)) (hf5 : f 5 = (.int c5)) (hf6 : f 6 = (.int c6)) (hf7 : f 7 = (.int c7)) (hf8 : f 8 = (.int c8)) (hf9 : f 9 = (.int c9)) (hf10 : f 10 = (.int c10)) (hf11 : f 11 = (.int c11)) (hf12 : f 12 = (.int c12)) (hc0 : ¬ ((255 : Int32) < c0)) (hc1 : ¬ ((255 : Int32) < c1)) (hc2 : ¬ ((255 : Int32) < c2)) (hc3 : ¬ ((255 : Int32) < c3)) (hc4 : ¬ ((255 : Int32) < c4)) (hc5 : ¬ ((255 : Int32) < c5)) (hc6 : ¬ ((255 : Int32) < c6)) (hc7 : ¬ ((255 : Int32) < c7)) (hc8 : ¬ ((255 : Int32) < c8)) (hc9 : ¬ ((255 : Int32) < c9)) (hc10 : ¬ ((255 : Int32) < c10)) (hc11 : ¬ ((255 : Int32) < c11)) (hc12 : ¬ ((255 : Int32) < c12)) (hcs : ¬ (w_COMPACT_STRINGS = (0 : Int32))) (F_coder_a1 : Fld Z h0 a1 "java/lang/String" "coder" "B" u_coder_a1) (g_a1 : n0 ≤ a1) (F_value_a1 : Fld Z h0 a1 "java/lang/String" "value" "[B" u_value_a1) :
    MetFree l (⟨"java/lang/String", "<init>", "([C)V"⟩ : MethodName) (head1 (Jvm.Cond.code (⟨"java/lang/String", "<init>", "([C)V"⟩ : MethodName) jdk_42_method_3_code 2 none :: ws) ({ frames := 3, cells := 1, slots := 13, locals := 52 } : Room)) (fun a U => a = #[(.ref a1), (.ref a2)] ∧ Z.Warmed39 U.vm ∧ U.heap = h0) (fun _ _ _ _ _ => True) (fun _ U o U' => ∃ v L, o = .returned v ∧ Q_str_13 Z a1 a2 kc f c0 c1 c2 c3 c4 c5 c6 c7 c8 c9 c10 c11 c12 u_coder_a1 u_value_a1 w_COMPACT_STRINGS h0 n0 v U'.heap L ∧ FrameEnd U o U' L ({ frames := 3, cells := 1, slots := 13, locals := 52 } : Room).cells ({ frames := 3, cells := 1, slots := 13, locals := 52 } : Room).slots) := by
  refine MetFree.of_bodySF (plainFor_of_name pn_67) hisR ?_
  intro p e s m args below meth c s₁ Bd hml0 hP hK
  obtain ⟨rfl, hZ, hh⟩ := hP
  have hx := Bd.exec
  have hby := Bd.bytes
  have hml : c.maxLocals = 2 := hml0
  have hown : s.vm.findClass "java/lang/String" = some m.cls := findClass_of_methodNamed Bd.named
  have hnm := (name_of_methodNamed Bd.named Bd.method).1
  have X0 : Stand p l e ({ frames := 3, cells := 1, slots := 13, locals := 52 } : Room) s m #[(.ref a1), (.ref a2)] below meth c s₁ [] 0 0 := Stand.of_body Bd
  have e0 : s₁.heap = h0 := by rw [← hh, Bd.state]; rfl
  have N0 := Fr.nil n0
  show Go p e below (s₁.setTop (entryFrame m #[(.ref a1), (.ref a2)] 2)) (fun o U' => ∃ v L, o = .returned v ∧ Q_str_13 Z a1 a2 kc f c0 c1 c2 c3 c4 c5 c6 c7 c8 c9 c10 c11 c12 u_coder_a1 u_value_a1 w_COMPACT_STRINGS h0 n0 v U'.heap L ∧ FrameEnd s o U' L ({ frames := 3, cells := 1, slots := 13, locals := 52 } : Room).cells ({ frames := 3, cells := 1, slots := 13, locals := 52 } : Room).slots)
  rw [ef_str_13]
  refine Gk.aloadN X0 hx (hb hby d2_0) rfl rfl ?_
  refine Gk.aloadN X0 hx (hb hby d2_1) rfl rfl ?_
  refine Gk.iconst X0 hx (hb hby d2_2) (0 : Int32) rfl ?_
  refine Gk.aloadN X0 hx (hb hby d2_3) rfl rfl ?_
  refine Gk.alen X0 hx hZ e0 V_a (hb hby d2_4) ?_
  refine Gk.aconstNull X0 hx (hb hby d2_5) ?_
  refine Gk.callI (argsL := [(.ref a2), (.int (0 : Int32)), (.int (13 : Int32)), .null]) X0 hx hZ hown (in4_13 l Z a0 hw [] a1 a2 kc f c0 c1 c2 c3 c4 c5 c6 c7 c8 c9 c10 c11 c12 u_coder_a1 u_value_a1 w_COMPACT_STRINGS h0 n0 Z0 S_COMPACT_STRINGS E_a1 V_a hf0 hf1 hf2 hf3 hf4 hf5 hf6 hf7 hf8 hf9 hf10 hf11 hf12 hc0 hc1 hc2 hc3 hc4 hc5 hc6 hc7 hc8 hc9 hc10 hc11 hc12 hcs F_coder_a1 g_a1 F_value_a1) rfl (hw _ (List.mem_of_getElem? (i := 26) rfl)) (hw _ (List.mem_of_getElem? (i := 27) rfl)) (hw _ (List.mem_of_getElem? (i := 29) rfl)) rfl (by decide) (hw _ (List.mem_of_getElem? (i := 3) rfl)) e0 pd_3 rfl rfl (by decide) (Nat.le_of_ble_eq_true rfl) (by decide) (by decide) (by rw [hml]; rfl)  rfl (hb hby d2_6) ?_
  intro T1 L1 v1 X1 hQ1
  obtain ⟨rfl, N1q, K1, Fc1, x1, k1, le1, Fv1, V1⟩ := hQ1
  have N1 := Fr.app N0 N1q
  show Go p e below (T1.setTop (mkF m 9 #[.val (.ref a1), .val (.ref a2)] [])) _
  refine Go.fin X1 (v := none) (fun _ => rfl) Bd.notSynchronized (fun _ hr => X1.returnOut hx Bd.returns (hb hby d2_9) hr) (fun U' hU hF => ⟨_, _, rfl, ?_, hF.1, hF.2.1, hF.2.2.mono (by decide) (by decide)⟩)
  rw [hU]
  exact ⟨rfl, N1, ((Keep.refl h0 [a1]).trans K1 (allS (Or.inl (List.mem_of_getElem? (i := 0) rfl)) all0)), Fc1, x1, k1, le1, Fv1, V1⟩
theorem ef_cp2_14 (m : MethodId) (a1 : Addr) (a3 : Addr) : entryFrame m #[(.ref a1), (.int (0 : Int32)), (.ref a3), (.int (0 : Int32)), (.int (14 : Int32))] 7 = mkF m 0 #[.val (.ref a1), .val (.int (0 : Int32)), .val (.ref a3), .val (.int (0 : Int32)), .val (.int (14 : Int32)), .unset, .unset] [] := by first | (simp [entryFrame, mkF, argsToLocals, Value.category]; done) | rfl
def Q_cp2_14 (Z : State) (a1 : Addr) (a3 : Addr) (kc : ClassId) (f : Nat → Value) (c0 : Int32) (c1 : Int32) (c2 : Int32) (c3 : Int32) (c4 : Int32) (c5 : Int32) (c6 : Int32) (c7 : Int32) (c8 : Int32) (c9 : Int32) (c10 : Int32) (c11 : Int32) (c12 : Int32) (c13 : Int32) (kb : ClassId) (fb : Nat → Value) (h0 : Heap) (n0 : Nat) (v : Option Value) (h : Heap) (L : List Loc) : Prop := v = some (.int (14 : Int32)) ∧ Fr n0 L ∧ Keep h0 h [a3] ∧ Arf Z h a3 kb .byte (14 : Int32) (upd (upd (upd (upd (upd (upd (upd (upd (upd (upd (upd (upd (upd (upd fb 0 (.int (c0.toInt8.toInt32))) 1 (.int (c1.toInt8.toInt32))) 2 (.int (c2.toInt8.toInt32))) 3 (.int (c3.toInt8.toInt32))) 4 (.int (c4.toInt8.toInt32))) 5 (.int (c5.toInt8.toInt32))) 6 (.int (c6.toInt8.toInt32))) 7 (.int (c7.toInt8.toInt32))) 8 (.int (c8.toInt8.toInt32))) 9 (.int (c9.toInt8.toInt32))) 10 (.int (c10.toInt8.toInt32))) 11 (.int (c11.toInt8.toInt32))) 12 (.int (c12.toInt8.toInt32))) 13 (.int (c13.toInt8.toInt32)))
set_option maxRecDepth 65536 in
set_option maxHeartbeats 40000000 in
theorem cp2_14 (l : Launch) (Z : State) (a0 : Array Value) (hw : ∀ d ∈ tables_1, d.before a0 Z = true) (ws : List Jvm.Cond) (a1 : Addr) (a3 : Addr) (kc : ClassId) (f : Nat → Value) (c0 : Int32) (c1 : Int32) (c2 : Int32) (c3 : Int32) (c4 : Int32) (c5 : Int32) (c6 : Int32) (c7 : Int32) (c8 : Int32) (c9 : Int32) (c10 : Int32) (c11 : Int32) (c12 : Int32) (c13 : Int32) (kb : ClassId) (fb : Nat → Value) (h0 : Heap) (n0 : Nat) (Z0 : n0 ≤ h0.size) (V_a : Arf Z h0 a1 kc .char (14 : Int32) f) (V_b : Arf Z h0 a3 kb .byte (14 : Int32) fb) (hne : a1 ≠ a3) (hf0 : f 0 = (.int c0)) (hf1 : f 1 = (.int c1)) (hf2 : f 2 = (.int c2)) (hf3 : f 3 = (.int c3)) (hf4 : f 4 = (.int c4)) (hf5 : f 5 = (.int c5)) (hf6 : f 6 = (.int c6)) (hf7 : f 7 = (.int c7)) (hf8 : f 8 = (.int c8)) (hf9 : f 9 = (.int c9)) (hf10 : f 10 = (.int c10)) (hf11 : f 11 = (.int c11)) (hf12 : f 12 = (.int c12)) (hf13 : f 13 = (.int c13)) (hc0 : ¬ ((255 : Int32) < c0)) (hc1 : ¬ ((255 : Int32) < c1)) (hc2 : ¬ ((255 : Int32) < c2)) (hc3 : ¬ ((255 : Int32) < c3)) (hc4 : ¬ ((255 : Int32) < c4)) (hc5 : ¬ ((255 : Int32) < c5)) (hc6 : ¬ ((255 : Int32) < c6)) (hc7 : ¬ ((255 : Int32) < c7)) (hc8 : ¬ ((255 : Int32) < c8)) (hc9 : ¬ ((255 : Int32) < c9)) (hc10 : ¬ ((255 : Int32) < c10)) (hc11 : ¬ ((255 : Int32) < c11)) (hc12 : ¬ ((255 : Int32) < c12)) (hc13 : ¬ ((255 : Int32) < c13)) (g_a3 : n0 ≤ a3) :
    MetFree l (⟨"java/lang/StringUTF16", "compress", "([CI[BII)I"⟩ : MethodName) (head1 (Jvm.Cond.code (⟨"java/lang/StringUTF16", "compress", "([CI[BII)I"⟩ : MethodName) jdk_52_method_21_code 7 (some .int) :: ws) ({ frames := 0, cells := 0, slots := 0, locals := 0 } : Room)) (fun a U => a = #[(.ref a1), (.int (0 : Int32)), (.ref a3), (.int (0 : Int32)), (.int (14 : Int32))] ∧ Z.Warmed39 U.vm ∧ U.heap = h0) (fun _ _ _ _ _ => True) (fun _ U o U' => ∃ v L, o = .returned v ∧ Q_cp2_14 Z a1 a3 kc f c0 c1 c2 c3 c4 c5 c6 c7 c8 c9 c10 c11 c12 c13 kb fb h0 n0 v U'.heap L ∧ FrameEnd U o U' L ({ frames := 0, cells := 0, slots := 0, locals := 0 } : Room).cells ({ frames := 0, cells := 0, slots := 0, locals := 0 } : Room).slots) := by
  refine MetFree.of_bodySF (plainFor_of_name pn_23) hisR ?_
  intro p e s m args below meth c s₁ Bd hml0 hP hK
  obtain ⟨rfl, hZ, hh⟩ := hP
  have hx := Bd.exec
  have hby := Bd.bytes
  have hml : c.maxLocals = 7 := hml0
  have hown : s.vm.findClass "java/lang/StringUTF16" = some m.cls := findClass_of_methodNamed Bd.named
  have hnm := (name_of_methodNamed Bd.named Bd.method).1
  have X0 : Stand p l e ({ frames := 0, cells := 0, slots := 0, locals := 0 } : Room) s m #[(.ref a1), (.int (0 : Int32)), (.ref a3), (.int (0 : Int32)), (.int (14 : Int32))] below meth c s₁ [] 0 0 := Stand.of_body Bd
  have e0 : s₁.heap = h0 := by rw [← hh, Bd.state]; rfl
  have N0 := Fr.nil n0
  show Go p e below (s₁.setTop (entryFrame m #[(.ref a1), (.int (0 : Int32)), (.ref a3), (.int (0 : Int32)), (.int (14 : Int32))] 7)) (fun o U' => ∃ v L, o = .returned v ∧ Q_cp2_14 Z a1 a3 kc f c0 c1 c2 c3 c4 c5 c6 c7 c8 c9 c10 c11 c12 c13 kb fb h0 n0 v U'.heap L ∧ FrameEnd s o U' L ({ frames := 0, cells := 0, slots := 0, locals := 0 } : Room).cells ({ frames := 0, cells := 0, slots := 0, locals := 0 } : Room).slots)
  rw [ef_cp2_14]
  refine Gk.iconst X0 hx (hb hby d6_0) (0 : Int32) rfl ?_
  refine Gk.istore X0 hx (hb hby d6_1) #[.val (.ref a1), .val (.int (0 : Int32)), .val (.ref a3), .val (.int (0 : Int32)), .val (.int (14 : Int32)), .val (.int (0 : Int32)), .unset] rfl ?_
  refine Gk.iload X0 hx (hb hby d6_3) rfl ?_
  refine Gk.iload X0 hx (hb hby d6_5) rfl ?_
  refine Gk.icmpNo X0 hx (hb hby d6_7) (tlt (by decide : (0 : Int32) < (14 : Int32))).2.1 ?_
  refine Gk.aloadN X0 hx (hb hby d6_10) rfl rfl ?_
  refine Gk.iloadN X0 hx (hb hby d6_11) rfl ?_
  refine Gk.caload X0 hx hZ e0 V_a ⟨by decide, by decide⟩ (.int c0) hf0 (hb hby d6_12) ?_
  refine Gk.istore X0 hx (hb hby d6_13) #[.val (.ref a1), .val (.int (0 : Int32)), .val (.ref a3), .val (.int (0 : Int32)), .val (.int (14 : Int32)), .val (.int (0 : Int32)), .val (.int c0)] rfl ?_
  refine Gk.iload X0 hx (hb hby d6_15) rfl ?_
  refine Gk.sipush X0 hx (hb hby d6_17) (255 : Int32) rfl ?_
  have hc20 : ¬ ((255 : Int32) < c0) := hc0
  refine Gk.icmpYes X0 hx (hb hby d6_20) (flt hc20).2.2.2 26 (by decide) (by decide) ?_
  refine Gk.aloadN X0 hx (hb hby d6_26) rfl rfl ?_
  refine Gk.iloadN X0 hx (hb hby d6_27) rfl ?_
  refine Gk.iload X0 hx (hb hby d6_28) rfl ?_
  refine Gk.i2b X0 hx (hb hby d6_30) _ rfl ?_
  refine Gk.bastoreB X0 hx hZ e0 V_b 0 rfl ⟨by decide, by decide⟩ (.int (c0.toInt8.toInt32)) (congrArg Value.int (own_nb _)) (hb hby d6_31) ?_
  intro T2 h2 X2 e2 W2 V2
  have N2 := Fr.snoc X2 N0 g_a3
  refine Gk.iinc X2 hx (hb hby d6_32) rfl #[.val (.ref a1), .val (.int (1 : Int32)), .val (.ref a3), .val (.int (0 : Int32)), .val (.int (14 : Int32)), .val (.int (0 : Int32)), .val (.int c0)] rfl ?_
  refine Gk.iinc X2 hx (hb hby d6_35) rfl #[.val (.ref a1), .val (.int (1 : Int32)), .val (.ref a3), .val (.int (1 : Int32)), .val (.int (14 : Int32)), .val (.int (0 : Int32)), .val (.int c0)] rfl ?_
  refine Gk.iinc X2 hx (hb hby d6_38) rfl #[.val (.ref a1), .val (.int (1 : Int32)), .val (.ref a3), .val (.int (1 : Int32)), .val (.int (14 : Int32)), .val (.int (1 : Int32)), .val (.int c0)] rfl ?_
  refine Gk.goto X2 hx (hb hby d6_41) 3 (by decide) (by decide) ?_
  refine Gk.iload X2 hx (hb hby d6_3) rfl ?_
  refine Gk.iload X2 hx (hb hby d6_5) rfl ?_
  refine Gk.icmpNo X2 hx (hb hby d6_7) (tlt (by decide : (1 : Int32) < (14 : Int32))).2.1 ?_
  refine Gk.aloadN X2 hx (hb hby d6_10) rfl rfl ?_
  refine Gk.iloadN X2 hx (hb hby d6_11) rfl ?_
  have H4 := (V_a.other W2 hne)
  refine Gk.caload X2 hx hZ e2 H4 ⟨by decide, by decide⟩ (.int c1) hf1 (hb hby d6_12) ?_
  refine Gk.istore X2 hx (hb hby d6_13) #[.val (.ref a1), .val (.int (1 : Int32)), .val (.ref a3), .val (.int (1 : Int32)), .val (.int (14 : Int32)), .val (.int (1 : Int32)), .val (.int c1)] rfl ?_
  refine Gk.iload X2 hx (hb hby d6_15) rfl ?_
  refine Gk.sipush X2 hx (hb hby d6_17) (255 : Int32) rfl ?_
  have hc20_1 : ¬ ((255 : Int32) < c1) := hc1
  refine Gk.icmpYes X2 hx (hb hby d6_20) (flt hc20_1).2.2.2 26 (by decide) (by decide) ?_
  refine Gk.aloadN X2 hx (hb hby d6_26) rfl rfl ?_
  refine Gk.iloadN X2 hx (hb hby d6_27) rfl ?_
  refine Gk.iload X2 hx (hb hby d6_28) rfl ?_
  refine Gk.i2b X2 hx (hb hby d6_30) _ rfl ?_
  refine Gk.bastoreB X2 hx hZ e2 V2 1 rfl ⟨by decide, by decide⟩ (.int (c1.toInt8.toInt32)) (congrArg Value.int (own_nb _)) (hb hby d6_31) ?_
  intro T5 h5 X5 e5 W5 V5
  have N5 := Fr.snoc X5 N2 g_a3
  refine Gk.iinc X5 hx (hb hby d6_32) rfl #[.val (.ref a1), .val (.int (2 : Int32)), .val (.ref a3), .val (.int (1 : Int32)), .val (.int (14 : Int32)), .val (.int (1 : Int32)), .val (.int c1)] rfl ?_
  refine Gk.iinc X5 hx (hb hby d6_35) rfl #[.val (.ref a1), .val (.int (2 : Int32)), .val (.ref a3), .val (.int (2 : Int32)), .val (.int (14 : Int32)), .val (.int (1 : Int32)), .val (.int c1)] rfl ?_
  refine Gk.iinc X5 hx (hb hby d6_38) rfl #[.val (.ref a1), .val (.int (2 : Int32)), .val (.ref a3), .val (.int (2 : Int32)), .val (.int (14 : Int32)), .val (.int (2 : Int32)), .val (.int c1)] rfl ?_
  refine Gk.goto X5 hx (hb hby d6_41) 3 (by decide) (by decide) ?_
  refine Gk.iload X5 hx (hb hby d6_3) rfl ?_
  refine Gk.iload X5 hx (hb hby d6_5) rfl ?_
  refine Gk.icmpNo X5 hx (hb hby d6_7) (tlt (by decide : (2 : Int32) < (14 : Int32))).2.1 ?_
  refine Gk.aloadN X5 hx (hb hby d6_10) rfl rfl ?_
  refine Gk.iloadN X5 hx (hb hby d6_11) rfl ?_
  have H7 := (H4.other W5 hne)
  refine Gk.caload X5 hx hZ e5 H7 ⟨by decide, by decide⟩ (.int c2) hf2 (hb hby d6_12) ?_
  refine Gk.istore X5 hx (hb hby d6_13) #[.val (.ref a1), .val (.int (2 : Int32)), .val (.ref a3), .val (.int (2 : Int32)), .val (.int (14 : Int32)), .val (.int (2 : Int32)), .val (.int c2)] rfl ?_
  refine Gk.iload X5 hx (hb hby d6_15) rfl ?_
  refine Gk.sipush X5 hx (hb hby d6_17) (255 : Int32) rfl ?_
  have hc20_2 : ¬ ((255 : Int32) < c2) := hc2
  refine Gk.icmpYes X5 hx (hb hby d6_20) (flt hc20_2).2.2.2 26 (by decide) (by decide) ?_
  refine Gk.aloadN X5 hx (hb hby d6_26) rfl rfl ?_
  refine Gk.iloadN X5 hx (hb hby d6_27) rfl ?_
  refine Gk.iload X5 hx (hb hby d6_28) rfl ?_
  refine Gk.i2b X5 hx (hb hby d6_30) _ rfl ?_
  refine Gk.bastoreB X5 hx hZ e5 V5 2 rfl ⟨by decide, by decide⟩ (.int (c2.toInt8.toInt32)) (congrArg Value.int (own_nb _)) (hb hby d6_31) ?_
  intro T8 h8 X8 e8 W8 V8
  have N8 := Fr.snoc X8 N5 g_a3
  refine Gk.iinc X8 hx (hb hby d6_32) rfl #[.val (.ref a1), .val (.int (3 : Int32)), .val (.ref a3), .val (.int (2 : Int32)), .val (.int (14 : Int32)), .val (.int (2 : Int32)), .val (.int c2)] rfl ?_
  refine Gk.iinc X8 hx (hb hby d6_35) rfl #[.val (.ref a1), .val (.int (3 : Int32)), .val (.ref a3), .val (.int (3 : Int32)), .val (.int (14 : Int32)), .val (.int (2 : Int32)), .val (.int c2)] rfl ?_
  refine Gk.iinc X8 hx (hb hby d6_38) rfl #[.val (.ref a1), .val (.int (3 : Int32)), .val (.ref a3), .val (.int (3 : Int32)), .val (.int (14 : Int32)), .val (.int (3 : Int32)), .val (.int c2)] rfl ?_
  refine Gk.goto X8 hx (hb hby d6_41) 3 (by decide) (by decide) ?_
  refine Gk.iload X8 hx (hb hby d6_3) rfl ?_
  refine Gk.iload X8 hx (hb hby d6_5) rfl ?_
  refine Gk.icmpNo X8 hx (hb hby d6_7) (tlt (by decide : (3 : Int32) < (14 : Int32))).2.1 ?_
  refine Gk.aloadN X8 hx (hb hby d6_10) rfl rfl ?_
  refine Gk.iloadN X8 hx (hb hby d6_11) rfl ?_
  have H10 := (H7.other W8 hne)
  refine Gk.caload X8 hx hZ e8 H10 ⟨by decide, by decide⟩ (.int c3) hf3 (hb hby d6_12) ?_
  refine Gk.istore X8 hx (hb hby d6_13) #[.val (.ref a1), .val (.int (3 : Int32)), .val (.ref a3), .val (.int (3 : Int32)), .val (.int (14 : Int32)), .val (.int (3 : Int32)), .val (.int c3)] rfl ?_
  refine Gk.iload X8 hx (hb hby d6_15) rfl ?_
  refine Gk.sipush X8 hx (hb hby d6_17) (255 : Int32) rfl ?_
  have hc20_3 : ¬ ((255 : Int32) < c3) := hc3
  refine Gk.icmpYes X8 hx (hb hby d6_20) (flt hc20_3).2.2.2 26 (by decide) (by decide) ?_
  refine Gk.aloadN X8 hx (hb hby d6_26) rfl rfl ?_
  refine Gk.iloadN X8 hx (hb hby d6_27) rfl ?_
  refine Gk.iload X8 hx (hb hby d6_28) rfl ?_
  refine Gk.i2b X8 hx (hb hby d6_30) _ rfl ?_
  refine Gk.bastoreB X8 hx hZ e8 V8 3 rfl ⟨by decide, by decide⟩ (.int (c3.toInt8.toInt32)) (congrArg Value.int (own_nb _)) (hb hby d6_31) ?_
  intro T11 h11 X11 e11 W11 V11
  have N11 := Fr.snoc X11 N8 g_a3
  refine Gk.iinc X11 hx (hb hby d6_32) rfl #[.val (.ref a1), .val (.int (4 : Int32)), .val (.ref a3), .val (.int (3 : Int32)), .val (.int (14 : Int32)), .val (.int (3 : Int32)), .val (.int c3)] rfl ?_
  refine Gk.iinc X11 hx (hb hby d6_35) rfl #[.val (.ref a1), .val (.int (4 : Int32)), .val (.ref a3), .val (.int (4 : Int32)), .val (.int (14 : Int32)), .val (.int (3 : Int32)), .val (.int c3)] rfl ?_
  refine Gk.iinc X11 hx (hb hby d6_38) rfl #[.val (.ref a1), .val (.int (4 : Int32)), .val (.ref a3), .val (.int (4 : Int32)), .val (.int (14 : Int32)), .val (.int (4 : Int32)), .val (.int c3)] rfl ?_
  refine Gk.goto X11 hx (hb hby d6_41) 3 (by decide) (by decide) ?_
  refine Gk.iload X11 hx (hb hby d6_3) rfl ?_
  refine Gk.iload X11 hx (hb hby d6_5) rfl ?_
  refine Gk.icmpNo X11 hx (hb hby d6_7) (tlt (by decide : (4 : Int32) < (14 : Int32))).2.1 ?_
  refine Gk.aloadN X11 hx (hb hby d6_10) rfl rfl ?_
  refine Gk.iloadN X11 hx (hb hby d6_11) rfl ?_
  have H13 := (H10.other W11 hne)
  refine Gk.caload X11 hx hZ e11 H13 ⟨by decide, by decide⟩ (.int c4) hf4 (hb hby d6_12) ?_
  refine Gk.istore X11 hx (hb hby d6_13) #[.val (.ref a1), .val (.int (4 : Int32)), .val (.ref a3), .val (.int (4 : Int32)), .val (.int (14 : Int32)), .val (.int (4 : Int32)), .val (.int c4)] rfl ?_
  refine Gk.iload X11 hx (hb hby d6_15) rfl ?_
  refine Gk.sipush X11 hx (hb hby d6_17) (255 : Int32) rfl ?_
  have hc20_4 : ¬ ((255 : Int32) < c4) := hc4
  refine Gk.icmpYes X11 hx (hb hby d6_20) (flt hc20_4).2.2.2 26 (by decide) (by decide) ?_
  refine Gk.aloadN X11 hx (hb hby d6_26) rfl rfl ?_
  refine Gk.iloadN X11 hx (hb hby d6_27) rfl ?_
  refine Gk.iload X11 hx (hb hby d6_28) rfl ?_
  refine Gk.i2b X11 hx (hb hby d6_30) _ rfl ?_
  refine Gk.bastoreB X11 hx hZ e11 V11 4 rfl ⟨by decide, by decide⟩ (.int (c4.toInt8.toInt32)) (congrArg Value.int (own_nb _)) (hb hby d6_31) ?_
  intro T14 h14 X14 e14 W14 V14
  have N14 := Fr.snoc X14 N11 g_a3
  refine Gk.iinc X14 hx (hb hby d6_32) rfl #[.val (.ref a1), .val (.int (5 : Int32)), .val (.ref a3), .val (.int (4 : Int32)), .val (.int (14 : Int32)), .val (.int (4 : Int32)), .val (.int c4)] rfl ?_
  refine Gk.iinc X14 hx (hb hby d6_35) rfl #[.val (.ref a1), .val (.int (5 : Int32)), .val (.ref a3), .val (.int (5 : Int32)), .val (.int (14 : Int32)), .val (.int (4 : Int32)), .val (.int c4)] rfl ?_
  refine Gk.iinc X14 hx (hb hby d6_38) rfl #[.val (.ref a1), .val (.int (5 : Int32)), .val (.ref a3), .val (.int (5 : Int32)), .val (.int (14 : Int32)), .val (.int (5 : Int32)), .val (.int c4)] rfl ?_
  refine Gk.goto X14 hx (hb hby d6_41) 3 (by decide) (by decide) ?_
  refine Gk.iload X14 hx (hb hby d6_3) rfl ?_
  refine Gk.iload X14 hx (hb hby d6_5) rfl ?_
  refine Gk.icmpNo X14 hx (hb hby d6_7) (tlt (by decide : (5 : Int32) < (14 : Int32))).2.1 ?_
  refine Gk.aloadN X14 hx (hb hby d6_10) rfl rfl ?_
  refine Gk.iloadN X14 hx (hb hby d6_11) rfl ?_
  have H16 := (H13.other W14 hne)
  refine Gk.caload X14 hx hZ e14 H16 ⟨by decide, by decide⟩ (.int c5) hf5 (hb hby d6_12) ?_
  refine Gk.istore X14 hx (hb hby d6_13) #[.val (.ref a1), .val (.int (5 : Int32)), .val (.ref a3), .val (.int (5 : Int32)), .val (.int (14 : Int32)), .val (.int (5 : Int32)), .val (.int c5)] rfl ?_
  refine Gk.iload X14 hx (hb hby d6_15) rfl ?_
  refine Gk.sipush X14 hx (hb hby d6_17) (255 : Int32) rfl ?_
  have hc20_5 : ¬ ((255 : Int32) < c5) := hc5
  refine Gk.icmpYes X14 hx (hb hby d6_20) (flt hc20_5).2.2.2 26 (by decide) (by decide) ?_
  refine Gk.aloadN X14 hx (hb hby d6_26) rfl rfl ?_
  refine Gk.iloadN X14 hx (hb hby d6_27) rfl ?_
  refine Gk.iload X14 hx (hb hby d6_28) rfl ?_
  refine Gk.i2b X14 hx (hb hby d6_30) _ rfl ?_
  refine Gk.bastoreB X14 hx hZ e14 V14 5 rfl ⟨by decide, by decide⟩ (.int (c5.toInt8.toInt32)) (congrArg Value.int (own_nb _)) (hb hby d6_31) ?_
  intro T17 h17 X17 e17 W17 V17
  have N17 := Fr.snoc X17 N14 g_a3
  refine Gk.iinc X17 hx (hb hby d6_32) rfl #[.val (.ref a1), .val (.int (6 : Int32)), .val (.ref a3), .val (.int (5 : Int32)), .val (.int (14 : Int32)), .val (.int (5 : Int32)), .val (.int c5)] rfl ?_
  refine Gk.iinc X17 hx (hb hby d6_35) rfl #[.val (.ref a1), .val (.int (6 : Int32)), .val (.ref a3), .val (.int (6 : Int32)), .val (.int (14 : Int32)), .val (.int (5 : Int32)), .val (.int c5)] rfl ?_
  refine Gk.iinc X17 hx (hb hby d6_38) rfl #[.val (.ref a1), .val (.int (6 : Int32)), .val (.ref a3), .val (.int (6 : Int32)), .val (.int (14 : Int32)), .val (.int (6 : Int32)), .val (.int c5)] rfl ?_
  refine Gk.goto X17 hx (hb hby d6_41) 3 (by decide) (by decide) ?_
  refine Gk.iload X17 hx (hb hby d6_3) rfl ?_
  refine Gk.iload X17 hx (hb hby d6_5) rfl ?_
  refine Gk.icmpNo X17 hx (hb hby d6_7) (tlt (by decide : (6 : Int32) < (14 : Int32))).2.1 ?_
  refine Gk.aloadN X17 hx (hb hby d6_10) rfl rfl ?_
  refine Gk.iloadN X17 hx (hb hby d6_11) rfl ?_
  have H19 := (H16.other W17 hne)
  refine Gk.caload X17 hx hZ e17 H19 ⟨by decide, by decide⟩ (.int c6) hf6 (hb hby d6_12) ?_
  refine Gk.istore X17 hx (hb hby d6_13) #[.val (.ref a1), .val (.int (6 : Int32)), .val (.ref a3), .val (.int (6 : Int32)), .val (.int (14 : Int32)), .val (.int (6 : Int32)), .val (.int c6)] rfl ?_
  refine Gk.iload X17 hx (hb hby d6_15) rfl ?_
  refine Gk.sipush X17 hx (hb hby d6_17) (255 : Int32) rfl ?_
  have hc20_6 : ¬ ((255 : Int32) < c6) := hc6
  refine Gk.icmpYes X17 hx (hb hby d6_20) (flt hc20_6).2.2.2 26 (by decide) (by decide) ?_
  refine Gk.aloadN X17 hx (hb hby d6_26) rfl rfl ?_
  refine Gk.iloadN X17 hx (hb hby d6_27) rfl ?_
  refine Gk.iload X17 hx (hb hby d6_28) rfl ?_
  refine Gk.i2b X17 hx (hb hby d6_30) _ rfl ?_
  refine Gk.bastoreB X17 hx hZ e17 V17 6 rfl ⟨by decide, by decide⟩ (.int (c6.toInt8.toInt32)) (congrArg Value.int (own_nb _)) (hb hby d6_31) ?_
  intro T20 h20 X20 e20 W20 V20
  have N20 := Fr.snoc X20 N17 g_a3
  refine Gk.iinc X20 hx (hb hby d6_32) rfl #[.val (.ref a1), .val (.int (7 : Int32)), .val (.ref a3), .val (.int (6 : Int32)), .val (.int (14 : Int32)), .val (.int (6 : Int32)), .val (.int c6)] rfl ?_
  refine Gk.iinc X20 hx (hb hby d6_35) rfl #[.val (.ref a1), .val (.int (7 : Int32)), .val (.ref a3), .val (.int (7 : Int32)), .val (.int (14 : Int32)), .val (.int (6 : Int32)), .val (.int c6)] rfl ?_
  refine Gk.iinc X20 hx (hb hby d6_38) rfl #[.val (.ref a1), .val (.int (7 : Int32)), .val (.ref a3), .val (.int (7 : Int32)), .val (.int (14 : Int32)), .val (.int (7 : Int32)), .val (.int c6)] rfl ?_
  refine Gk.goto X20 hx (hb hby d6_41) 3 (by decide) (by decide) ?_
  refine Gk.iload X20 hx (hb hby d6_3) rfl ?_
  refine Gk.iload X20 hx (hb hby d6_5) rfl ?_
  refine Gk.icmpNo X20 hx (hb hby d6_7) (tlt (by decide : (7 : Int32) < (14 : Int32))).2.1 ?_
  refine Gk.aloadN X20 hx (hb hby d6_10) rfl rfl ?_
  refine Gk.iloadN X20 hx (hb hby d6_11) rfl ?_
  have H22 := (H19.other W20 hne)
  refine Gk.caload X20 hx hZ e20 H22 ⟨by decide, by decide⟩ (.int c7) hf7 (hb hby d6_12) ?_
  refine Gk.istore X20 hx (hb hby d6_13) #[.val (.ref a1), .val (.int (7 : Int32)), .val (.ref a3), .val (.int (7 : Int32)), .val (.int (14 : Int32)), .val (.int (7 : Int32)), .val (.int c7)] rfl ?_
  refine Gk.iload X20 hx (hb hby d6_15) rfl ?_
  refine Gk.sipush X20 hx (hb hby d6_17) (255 : Int32) rfl ?_
  have hc20_7 : ¬ ((255 : Int32) < c7) := hc7
  refine Gk.icmpYes X20 hx (hb hby d6_20) (flt hc20_7).2.2.2 26 (by decide) (by decide) ?_
  refine Gk.aloadN X20 hx (hb hby d6_26) rfl rfl ?_
  refine Gk.iloadN X20 hx (hb hby d6_27) rfl ?_
  refine Gk.iload X20 hx (hb hby d6_28) rfl ?_
  refine Gk.i2b X20 hx (hb hby d6_30) _ rfl ?_
  refine Gk.bastoreB X20 hx hZ e20 V20 7 rfl ⟨by decide, by decide⟩ (.int (c7.toInt8.toInt32)) (congrArg Value.int (own_nb _)) (hb hby d6_31) ?_
  intro T23 h23 X23 e23 W23 V23
  have N23 := Fr.snoc X23 N20 g_a3
  refine Gk.iinc X23 hx (hb hby d6_32) rfl #[.val (.ref a1), .val (.int (8 : Int32)), .val (.ref a3), .val (.int (7 : Int32)), .val (.int (14 : Int32)), .val (.int (7 : Int32)), .val (.int c7)] rfl ?_
  refine Gk.iinc X23 hx (hb hby d6_35) rfl #[.val (.ref a1), .val (.int (8 : Int32)), .val (.ref a3), .val (.int (8 : Int32)), .val (.int (14 : Int32)), .val (.int (7 : Int32)), .val (.int c7)] rfl ?_
  refine Gk.iinc X23 hx (hb hby d6_38) rfl #[.val (.ref a1), .val (.int (8 : Int32)), .val (.ref a3), .val (.int (8 : Int32)), .val (.int (14 : Int32)), .val (.int (8 : Int32)), .val (.int c7)] rfl ?_
  refine Gk.goto X23 hx (hb hby d6_41) 3 (by decide) (by decide) ?_
  refine Gk.iload X23 hx (hb hby d6_3) rfl ?_
  refine Gk.iload X23 hx (hb hby d6_5) rfl ?_
  refine Gk.icmpNo X23 hx (hb hby d6_7) (tlt (by decide : (8 : Int32) < (14 : Int32))).2.1 ?_
  refine Gk.aloadN X23 hx (hb hby d6_10) rfl rfl ?_
  refine Gk.iloadN X23 hx (hb hby d6_11) rfl ?_
  have H25 := (H22.other W23 hne)
  refine Gk.caload X23 hx hZ e23 H25 ⟨by decide, by decide⟩ (.int c8) hf8 (hb hby d6_12) ?_
  refine Gk.istore X23 hx (hb hby d6_13) #[.val (.ref a1), .val (.int (8 : Int32)), .val (.ref a3), .val (.int (8 : Int32)), .val (.int (14 : Int32)), .val (.int (8 : Int32)), .val (.int c8)] rfl ?_
  refine Gk.iload X23 hx (hb hby d6_15) rfl ?_
  refine Gk.sipush X23 hx (hb hby d6_17) (255 : Int32) rfl ?_
  have hc20_8 : ¬ ((255 : Int32) < c8) := hc8
  refine Gk.icmpYes X23 hx (hb hby d6_20) (flt hc20_8).2.2.2 26 (by decide) (by decide) ?_
  refine Gk.aloadN X23 hx (hb hby d6_26) rfl rfl ?_
  refine Gk.iloadN X23 hx (hb hby d6_27) rfl ?_
  refine Gk.iload X23 hx (hb hby d6_28) rfl ?_
  refine Gk.i2b X23 hx (hb hby d6_30) _ rfl ?_
  refine Gk.bastoreB X23 hx hZ e23 V23 8 rfl ⟨by decide, by decide⟩ (.int (c8.toInt8.toInt32)) (congrArg Value.int (own_nb _)) (hb hby d6_31) ?_
  intro T26 h26 X26 e26 W26 V26
  have N26 := Fr.snoc X26 N23 g_a3
  refine Gk.iinc X26 hx (hb hby d6_32) rfl #[.val (.ref a1), .val (.int (9 : Int32)), .val (.ref a3), .val (.int (8 : Int32)), .val (.int (14 : Int32)), .val (.int (8 : Int32)), .val (.int c8)] rfl ?_
  refine Gk.iinc X26 hx (hb hby d6_35) rfl #[.val (.ref a1), .val (.int (9 : Int32)), .val (.ref a3), .val (.int (9 : Int32)), .val (.int (14 : Int32)), .val (.int (8 : Int32)), .val (.int c8)] rfl ?_
  refine Gk.iinc X26 hx (hb hby d6_38) rfl #[.val (.ref a1), .val (.int (9 : Int32)), .val (.ref a3), .val (.int (9 : Int32)), .val (.int (14 : Int32)), .val (.int (9 : Int32)), .val (.int c8)] rfl ?_
  refine Gk.goto X26 hx (hb hby d6_41) 3 (by decide) (by decide) ?_
  refine Gk.iload X26 hx (hb hby d6_3) rfl ?_
  refine Gk.iload X26 hx (hb hby d6_5) rfl ?_
  refine Gk.icmpNo X26 hx (hb hby d6_7) (tlt (by decide : (9 : Int32) < (14 : Int32))).2.1 ?_
  refine Gk.aloadN X26 hx (hb hby d6_10) rfl rfl ?_
  refine Gk.iloadN X26 hx (hb hby d6_11) rfl ?_
  have H28 := (H25.other W26 hne)
  refine Gk.caload X26 hx hZ e26 H28 ⟨by decide, by decide⟩ (.int c9) hf9 (hb hby d6_12) ?_
  refine Gk.istore X26 hx (hb hby d6_13) #[.val (.ref a1), .val (.int (9 : Int32)), .val (.ref a3), .val (.int (9 : Int32)), .val (.int (14 : Int32)), .val (.int (9 : Int32)), .val (.int c9)] rfl ?_
  refine Gk.iload X26 hx (hb hby d6_15) rfl ?_
  refine Gk.sipush X26 hx (hb hby d6_17) (255 : Int32) rfl ?_
  have hc20_9 : ¬ ((255 : Int32) < c9) := hc9
  refine Gk.icmpYes X26 hx (hb hby d6_20) (flt hc20_9).2.2.2 26 (by decide) (by decide) ?_
  refine Gk.aloadN X26 hx (hb hby d6_26) rfl rfl ?_
  refine Gk.iloadN X26 hx (hb hby d6_27) rfl ?_
  refine Gk.iload X26 hx (hb hby d6_28) rfl ?_
  refine Gk.i2b X26 hx (hb hby d6_30) _ rfl ?_
  refine Gk.bastoreB X26 hx hZ e26 V26 9 rfl ⟨by decide, by decide⟩ (.int (c9.toInt8.toInt32)) (congrArg Value.int (own_nb _)) (hb hby d6_31) ?_
  intro T29 h29 X29 e29 W29 V29
  have N29 := Fr.snoc X29 N26 g_a3
  refine Gk.iinc X29 hx (hb hby d6_32) rfl #[.val (.ref a1), .val (.int (10 : Int32)), .val (.ref a3), .val (.int (9 : Int32)), .val (.int (14 : Int32)), .val (.int (9 : Int32)), .val (.int c9)] rfl ?_
  refine Gk.iinc X29 hx (hb hby d6_35) rfl #[.val (.ref a1), .val (.int (10 : Int32)), .val (.ref a3), .val (.int (10 : Int32)), .val (.int (14 : Int32)), .val (.int (9 : Int32)), .val (.int c9)] rfl ?_
  refine Gk.iinc X29 hx (hb hby d6_38) rfl #[.val (.ref a1), .val (.int (10 : Int32)), .val (.ref a3), .val (.int (10 : Int32)), .val (.int (14 : Int32)), .val (.int (10 : Int32)), .val (.int c9)] rfl ?_
  refine Gk.goto X29 hx (hb hby d6_41) 3 (by decide) (by decide) ?_
  refine Gk.iload X29 hx (hb hby d6_3) rfl ?_
  refine Gk.iload X29 hx (hb hby d6_5) rfl ?_
  refine Gk.icmpNo X29 hx (hb hby d6_7) (tlt (by decide : (10 : Int32) < (14 : Int32))).2.1 ?_
  refine Gk.aloadN X29 hx (hb hby d6_10) rfl rfl ?_
  refine Gk.iloadN X29 hx (hb hby d6_11) rfl ?_
  have H31 := (H28.other W29 hne)
  refine Gk.caload X29 hx hZ e29 H31 ⟨by decide, by decide⟩ (.int c10) hf10 (hb hby d6_12) ?_
  refine Gk.istore X29 hx (hb hby d6_13) #[.val (.ref a1), .val (.int (10 : Int32)), .val (.ref a3), .val (.int (10 : Int32)), .val (.int (14 : Int32)), .val (.int (10 : Int32)), .val (.int c10)] rfl ?_
  refine Gk.iload X29 hx (hb hby d6_15) rfl ?_
  refine Gk.sipush X29 hx (hb hby d6_17) (255 : Int32) rfl ?_
  have hc20_10 : ¬ ((255 : Int32) < c10) := hc10
  refine Gk.icmpYes X29 hx (hb hby d6_20) (flt hc20_10).2.2.2 26 (by decide) (by decide) ?_
  refine Gk.aloadN X29 hx (hb hby d6_26) rfl rfl ?_
  refine Gk.iloadN X29 hx (hb hby d6_27) rfl ?_
  refine Gk.iload X29 hx (hb hby d6_28) rfl ?_
  refine Gk.i2b X29 hx (hb hby d6_30) _ rfl ?_
  refine Gk.bastoreB X29 hx hZ e29 V29 10 rfl ⟨by decide, by decide⟩ (.int (c10.toInt8.toInt32)) (congrArg Value.int (own_nb _)) (hb hby d6_31) ?_
  intro T32 h32 X32 e32 W32 V32
  have N32 := Fr.snoc X32 N29 g_a3
  refine Gk.iinc X32 hx (hb hby d6_32) rfl #[.val (.ref a1), .val (.int (11 : Int32)), .val (.ref a3), .val (.int (10 : Int32)), .val (.int (14 : Int32)), .val (.int (10 : Int32)), .val (.int c10)] rfl ?_
  refine Gk.iinc X32 hx (hb hby d6_35) rfl #[.val (.ref a1), .val (.int (11 : Int32)), .val (.ref a3), .val (.int (11 : Int32)), .val (.int (14 : Int32)), .val (.int (10 : Int32)), .val (.int c10)] rfl ?_
  refine Gk.iinc X32 hx (hb hby d6_38) rfl #[.val (.ref a1), .val (.int (11 : Int32)), .val (.ref a3), .val (.int (11 : Int32)), .val (.int (14 : Int32)), .val (.int (11 : Int32)), .val (.int c10)] rfl ?_
  refine Gk.goto X32 hx (hb hby d6_41) 3 (by decide) (by decide) ?_
  refine Gk.iload X32 hx (hb hby d6_3) rfl ?_
  refine Gk.iload X32 hx (hb hby d6_5) rfl ?_
  refine Gk.icmpNo X32 hx (hb hby d6_7) (tlt (by decide : (11 : Int32) < (14 : Int32))).2.1 ?_
  refine Gk.aloadN X32 hx (hb hby d6_10) rfl rfl ?_
  refine Gk.iloadN X32 hx (hb hby d6_11) rfl ?_
  have H34 := (H31.other W32 hne)
  refine Gk.caload X32 hx hZ e32 H34 ⟨by decide, by decide⟩ (.int c11) hf11 (hb hby d6_12) ?_
  refine Gk.istore X32 hx (hb hby d6_13) #[.val (.ref a1), .val (.int (11 : Int32)), .val (.ref a3), .val (.int (11 : Int32)), .val (.int (14 : Int32)), .val (.int (11 : Int32)), .val (.int c11)] rfl ?_
  refine Gk.iload X32 hx (hb hby d6_15) rfl ?_
  refine Gk.sipush X32 hx (hb hby d6_17) (255 : Int32) rfl ?_
  have hc20_11 : ¬ ((255 : Int32) < c11) := hc11
  refine Gk.icmpYes X32 hx (hb hby d6_20) (flt hc20_11).2.2.2 26 (by decide) (by decide) ?_
  refine Gk.aloadN X32 hx (hb hby d6_26) rfl rfl ?_
  refine Gk.iloadN X32 hx (hb hby d6_27) rfl ?_
  refine Gk.iload X32 hx (hb hby d6_28) rfl ?_
  refine Gk.i2b X32 hx (hb hby d6_30) _ rfl ?_
  refine Gk.bastoreB X32 hx hZ e32 V32 11 rfl ⟨by decide, by decide⟩ (.int (c11.toInt8.toInt32)) (congrArg Value.int (own_nb _)) (hb hby d6_31) ?_
  intro T35 h35 X35 e35 W35 V35
  have N35 := Fr.snoc X35 N32 g_a3
  refine Gk.iinc X35 hx (hb hby d6_32) rfl #[.val (.ref a1), .val (.int (12 : Int32)), .val (.ref a3), .val (.int (11 : Int32)), .val (.int (14 : Int32)), .val (.int (11 : Int32)), .val (.int c11)] rfl ?_
  refine Gk.iinc X35 hx (hb hby d6_35) rfl #[.val (.ref a1), .val (.int (12 : Int32)), .val (.ref a3), .val (.int (12 : Int32)), .val (.int (14 : Int32)), .val (.int (11 : Int32)), .val (.int c11)] rfl ?_
  refine Gk.iinc X35 hx (hb hby d6_38) rfl #[.val (.ref a1), .val (.int (12 : Int32)), .val (.ref a3), .val (.int (12 : Int32)), .val (.int (14 : Int32)), .val (.int (12 : Int32)), .val (.int c11)] rfl ?_
  refine Gk.goto X35 hx (hb hby d6_41) 3 (by decide) (by decide) ?_
  refine Gk.iload X35 hx (hb hby d6_3) rfl ?_
  refine Gk.iload X35 hx (hb hby d6_5) rfl ?_
  refine Gk.icmpNo X35 hx (hb hby d6_7) (tlt (by decide : (12 : Int32) < (14 : Int32))).2.1 ?_
  refine Gk.aloadN X35 hx (hb hby d6_10) rfl rfl ?_
  refine Gk.iloadN X35 hx (hb hby d6_11) rfl ?_
  have H37 := (H34.other W35 hne)
  refine Gk.caload X35 hx hZ e35 H37 ⟨by decide, by decide⟩ (.int c12) hf12 (hb hby d6_12) ?_
  refine Gk.istore X35 hx (hb hby d6_13) #[.val (.ref a1), .val (.int (12 : Int32)), .val (.ref a3), .val (.int (12 : Int32)), .val (.int (14 : Int32)), .val (.int (12 : Int32)), .val (.int c12)] rfl ?_
  refine Gk.iload X35 hx (hb hby d6_15) rfl ?_
  refine Gk.sipush X35 hx (hb hby d6_17) (255 : Int32) rfl ?_
  have hc20_12 : ¬ ((255 : Int32) < c12) := hc12
  refine Gk.icmpYes X35 hx (hb hby d6_20) (flt hc20_12).2.2.2 26 (by decide) (by decide) ?_
  refine Gk.aloadN X35 hx (hb hby d6_26) rfl rfl ?_
  refine Gk.iloadN X35 hx (hb hby d6_27) rfl ?_
  refine Gk.iload X35 hx (hb hby d6_28) rfl ?_
  refine Gk.i2b X35 hx (hb hby d6_30) _ rfl ?_
  refine Gk.bastoreB X35 hx hZ e35 V35 12 rfl ⟨by decide, by decide⟩ (.int (c12.toInt8.toInt32)) (congrArg Value.int (own_nb _)) (hb hby d6_31) ?_
  intro T38 h38 X38 e38 W38 V38
  have N38 := Fr.snoc X38 N35 g_a3
  refine Gk.iinc X38 hx (hb hby d6_32) rfl #[.val (.ref a1), .val (.int (13 : Int32)), .val (.ref a3), .val (.int (12 : Int32)), .val (.int (14 : Int32)), .val (.int (12 : Int32)), .val (.int c12)] rfl ?_
  refine Gk.iinc X38 hx (hb hby d6_35) rfl #[.val (.ref a1), .val (.int (13 : Int32)), .val (.ref a3), .val (.int (13 : Int32)), .val (.int (14 : Int32)), .val (.int (12 : Int32)), .val (.int c12)] rfl ?_
  refine Gk.iinc X38 hx (hb hby d6_38) rfl #[.val (.ref a1), .val (.int (13 : Int32)), .val (.ref a3), .val (.int (13 : Int32)), .val (.int (14 : Int32)), .val (.int (13 : Int32)), .val (.int c12)] rfl ?_
  refine Gk.goto X38 hx (hb hby d6_41) 3 (by decide) (by decide) ?_
  refine Gk.iload X38 hx (hb hby d6_3) rfl ?_
  refine Gk.iload X38 hx (hb hby d6_5) rfl ?_
  refine Gk.icmpNo X38 hx (hb hby d6_7) (tlt (by decide : (13 : Int32) < (14 : Int32))).2.1 ?_
  refine Gk.aloadN X38 hx (hb hby d6_10) rfl rfl ?_
  refine Gk.iloadN X38 hx (hb hby d6_11) rfl ?_
  have H40 := (H37.other W38 hne)
  refine Gk.caload X38 hx hZ e38 H40 ⟨by decide, by decide⟩ (.int c13) hf13 (hb hby d6_12) ?_
  refine Gk.istore X38 hx (hb hby d6_13) #[.val (.ref a1), .val (.int (13 : Int32)), .val (.ref a3), .val (.int (13 : Int32)), .val (.int (14 : Int32)), .val (.int (13 : Int32)), .val (.int c13)] rfl ?_
  refine Gk.iload X38 hx (hb hby d6_15) rfl ?_
  refine Gk.sipush X38 hx (hb hby d6_17) (255 : Int32) rfl ?_
  have hc20_13 : ¬ ((255 : Int32) < c13) := hc13
  refine Gk.icmpYes X38 hx (hb hby d6_20) (flt hc20_13).2.2.2 26 (by decide) (by decide) ?_
  refine Gk.aloadN X38 hx (hb hby d6_26) rfl rfl ?_
  refine Gk.iloadN X38 hx (hb hby d6_27) rfl ?_
  refine Gk.iload X38 hx (hb hby d6_28) rfl ?_
  refine Gk.i2b X38 hx (hb hby d6_30) _ rfl ?_
  refine Gk.bastoreB X38 hx hZ e38 V38 13 rfl ⟨by decide, by decide⟩ (.int (c13.toInt8.toInt32)) (congrArg Value.int (own_nb _)) (hb hby d6_31) ?_
  intro T41 h41 X41 e41 W41 V41
  have N41 := Fr.snoc X41 N38 g_a3
  refine Gk.iinc X41 hx (hb hby d6_32) rfl #[.val (.ref a1), .val (.int (14 : Int32)), .val (.ref a3), .val (.int (13 : Int32)), .val (.int (14 : Int32)), .val (.int (13 : Int32)), .val (.int c13)] rfl ?_
  refine Gk.iinc X41 hx (hb hby d6_35) rfl #[.val (.ref a1), .val (.int (14 : Int32)), .val (.ref a3), .val (.int (14 : Int32)), .val (.int (14 : Int32)), .val (.int (13 : Int32)), .val (.int c13)] rfl ?_
  refine Gk.iinc X41 hx (hb hby d6_38) rfl #[.val (.ref a1), .val (.int (14 : Int32)), .val (.ref a3), .val (.int (14 : Int32)), .val (.int (14 : Int32)), .val (.int (14 : Int32)), .val (.int c13)] rfl ?_
  refine Gk.goto X41 hx (hb hby d6_41) 3 (by decide) (by decide) ?_
  refine Gk.iload X41 hx (hb hby d6_3) rfl ?_
  refine Gk.iload X41 hx (hb hby d6_5) rfl ?_
  refine Gk.icmpYes X41 hx (hb hby d6_7) (flt (by decide : ¬ ((14 : Int32) < (14 : Int32)))).2.1 44 (by decide) (by decide) ?_
  refine Gk.iload X41 hx (hb hby d6_44) rfl ?_
  refine Go.fin X41 (v := some (.int (14 : Int32))) (fun h_ => by rw [Bd.returns] at h_; cases h_) Bd.notSynchronized (fun _ hr => retOut X41 hx Bd.returns rfl (Or.inl ⟨rfl, Or.inl rfl, _, rfl⟩) (hb hby d6_46) hr) (fun U' hU hF => ⟨_, _, rfl, ?_, hF.1, hF.2.1, hF.2.2.mono (by decide) (by decide)⟩)
  rw [hU, e41]
  exact ⟨(congrArg (fun z_ : Int32 => some (Value.int z_)) (show (14 : Int32) = (14 : Int32) from rfl)), N41, (((((((((((((((Keep.refl h0 [a3]).wr W2 (Or.inl (List.mem_of_getElem? (i := 0) rfl))).wr W5 (Or.inl (List.mem_of_getElem? (i := 0) rfl))).wr W8 (Or.inl (List.mem_of_getElem? (i := 0) rfl))).wr W11 (Or.inl (List.mem_of_getElem? (i := 0) rfl))).wr W14 (Or.inl (List.mem_of_getElem? (i := 0) rfl))).wr W17 (Or.inl (List.mem_of_getElem? (i := 0) rfl))).wr W20 (Or.inl (List.mem_of_getElem? (i := 0) rfl))).wr W23 (Or.inl (List.mem_of_getElem? (i := 0) rfl))).wr W26 (Or.inl (List.mem_of_getElem? (i := 0) rfl))).wr W29 (Or.inl (List.mem_of_getElem? (i := 0) rfl))).wr W32 (Or.inl (List.mem_of_getElem? (i := 0) rfl))).wr W35 (Or.inl (List.mem_of_getElem? (i := 0) rfl))).wr W38 (Or.inl (List.mem_of_getElem? (i := 0) rfl))).wr W41 (Or.inl (List.mem_of_getElem? (i := 0) rfl))), V41⟩
theorem ef_cp1_14 (m : MethodId) (a1 : Addr) : entryFrame m #[(.ref a1), (.int (0 : Int32)), (.int (14 : Int32))] 6 = mkF m 0 #[.val (.ref a1), .val (.int (0 : Int32)), .val (.int (14 : Int32)), .unset, .unset, .unset] [] := by first | (simp [entryFrame, mkF, argsToLocals, Value.category]; done) | rfl
def Q_cp1_14 (Z : State) (a1 : Addr) (kc : ClassId) (f : Nat → Value) (c0 : Int32) (c1 : Int32) (c2 : Int32) (c3 : Int32) (c4 : Int32) (c5 : Int32) (c6 : Int32) (c7 : Int32) (c8 : Int32) (c9 : Int32) (c10 : Int32) (c11 : Int32) (c12 : Int32) (c13 : Int32) (h0 : Heap) (n0 : Nat) (v : Option Value) (h : Heap) (L : List Loc) : Prop := v = some (.ref h0.size) ∧ Fr n0 L ∧ Keep h0 h [] ∧ ∃ kb : ClassId, Arf Z h h0.size kb .byte (14 : Int32) (upd (upd (upd (upd (upd (upd (upd (upd (upd (upd (upd (upd (upd (upd (fun _ => (.int (0 : Int32))) 0 (.int (c0.toInt8.toInt32))) 1 (.int (c1.toInt8.toInt32))) 2 (.int (c2.toInt8.toInt32))) 3 (.int (c3.toInt8.toInt32))) 4 (.int (c4.toInt8.toInt32))) 5 (.int (c5.toInt8.toInt32))) 6 (.int (c6.toInt8.toInt32))) 7 (.int (c7.toInt8.toInt32))) 8 (.int (c8.toInt8.toInt32))) 9 (.int (c9.toInt8.toInt32))) 10 (.int (c10.toInt8.toInt32))) 11 (.int (c11.toInt8.toInt32))) 12 (.int (c12.toInt8.toInt32))) 13 (.int (c13.toInt8.toInt32)))
set_option maxRecDepth 65536 in
set_option maxHeartbeats 40000000 in
theorem cp1_14 (l : Launch) (Z : State) (a0 : Array Value) (hw : ∀ d ∈ tables_1, d.before a0 Z = true) (ws : List Jvm.Cond) (a1 : Addr) (kc : ClassId) (f : Nat → Value) (c0 : Int32) (c1 : Int32) (c2 : Int32) (c3 : Int32) (c4 : Int32) (c5 : Int32) (c6 : Int32) (c7 : Int32) (c8 : Int32) (c9 : Int32) (c10 : Int32) (c11 : Int32) (c12 : Int32) (c13 : Int32) (h0 : Heap) (n0 : Nat) (Z0 : n0 ≤ h0.size) (V_a : Arf Z h0 a1 kc .char (14 : Int32) f) (hf0 : f 0 = (.int c0)) (hf1 : f 1 = (.int c1)) (hf2 : f 2 = (.int c2)) (hf3 : f 3 = (.int c3)) (hf4 : f 4 = (.int c4)) (hf5 : f 5 = (.int c5)) (hf6 : f 6 = (.int c6)) (hf7 : f 7 = (.int c7)) (hf8 : f 8 = (.int c8)) (hf9 : f 9 = (.int c9)) (hf10 : f 10 = (.int c10)) (hf11 : f 11 = (.int c11)) (hf12 : f 12 = (.int c12)) (hf13 : f 13 = (.int c13)) (hc0 : ¬ ((255 : Int32) < c0)) (hc1 : ¬ ((255 : Int32) < c1)) (hc2 : ¬ ((255 : Int32) < c2)) (hc3 : ¬ ((255 : Int32) < c3)) (hc4 : ¬ ((255 : Int32) < c4)) (hc5 : ¬ ((255 : Int32) < c5)) (hc6 : ¬ ((255 : Int32) < c6)) (hc7 : ¬ ((255 : Int32) < c7)) (hc8 : ¬ ((255 : Int32) < c8)) (hc9 : ¬ ((255 : Int32) < c9)) (hc10 : ¬ ((255 : Int32) < c10)) (hc11 : ¬ ((255 : Int32) < c11)) (hc12 : ¬ ((255 : Int32) < c12)) (hc13 : ¬ ((255 : Int32) < c13)) :
    MetFree l (⟨"java/lang/StringUTF16", "compress", "([CII)[B"⟩ : MethodName) (head1 (Jvm.Cond.code (⟨"java/lang/StringUTF16", "compress", "([CII)[B"⟩ : MethodName) jdk_52_method_16_code 6 (some (.array .byte)) :: ws) ({ frames := 1, cells := 1, slots := 14, locals := 18 } : Room)) (fun a U => a = #[(.ref a1), (.int (0 : Int32)), (.int (14 : Int32))] ∧ Z.Warmed39 U.vm ∧ U.heap = h0) (fun _ _ _ _ _ => True) (fun _ U o U' => ∃ v L, o = .returned v ∧ Q_cp1_14 Z a1 kc f c0 c1 c2 c3 c4 c5 c6 c7 c8 c9 c10 c11 c12 c13 h0 n0 v U'.heap L ∧ FrameEnd U o U' L ({ frames := 1, cells := 1, slots := 14, locals := 18 } : Room).cells ({ frames := 1, cells := 1, slots := 14, locals := 18 } : Room).slots) := by
  refine MetFree.of_bodySF (plainFor_of_name pn_23) hisR ?_
  intro p e s m args below meth c s₁ Bd hml0 hP hK
  obtain ⟨rfl, hZ, hh⟩ := hP
  have hx := Bd.exec
  have hby := Bd.bytes
  have hml : c.maxLocals = 6 := hml0
  have hown : s.vm.findClass "java/lang/StringUTF16" = some m.cls := findClass_of_methodNamed Bd.named
  have hnm := (name_of_methodNamed Bd.named Bd.method).1
  have X0 : Stand p l e ({ frames := 1, cells := 1, slots := 14, locals := 18 } : Room) s m #[(.ref a1), (.int (0 : Int32)), (.int (14 : Int32))] below meth c s₁ [] 0 0 := Stand.of_body Bd
  have e0 : s₁.heap = h0 := by rw [← hh, Bd.state]; rfl
  have N0 := Fr.nil n0
  show Go p e below (s₁.setTop (entryFrame m #[(.ref a1), (.int (0 : Int32)), (.int (14 : Int32))] 6)) (fun o U' => ∃ v L, o = .returned v ∧ Q_cp1_14 Z a1 kc f c0 c1 c2 c3 c4 c5 c6 c7 c8 c9 c10 c11 c12 c13 h0 n0 v U'.heap L ∧ FrameEnd s o U' L ({ frames := 1, cells := 1, slots := 14, locals := 18 } : Room).cells ({ frames := 1, cells := 1, slots := 14, locals := 18 } : Room).slots)
  rw [ef_cp1_14]
  refine Gk.iloadN X0 hx (hb hby d5_0) rfl ?_
  refine Gk.newP X0 hx hZ (hw _ (List.mem_of_getElem? (i := 5) rfl)) e0 (hb hby d5_1) (by decide) (cap := 14) (by decide) (by decide) (by decide) (by decide) rfl ?_
  intro T1 h1 b1 k1 X1 e1 E1 g1 A1 B1
  have g_b1 : n0 ≤ b1 := Nat.le_trans Z0 (Nat.le_of_eq g1.symm)
  have V_b1 : Arf Z h1 b1 k1 .byte (14 : Int32) (fun _ => (.int (0 : Int32))) := A1
  have lt_b1 := V_b1.lt
  refine Gk.astoreN X1 hx (hb hby d5_3) rfl #[.val (.ref a1), .val (.int (0 : Int32)), .val (.int (14 : Int32)), .val (.ref b1), .unset, .unset] rfl ?_
  refine Gk.aloadN X1 hx (hb hby d5_4) rfl rfl ?_
  refine Gk.iloadN X1 hx (hb hby d5_5) rfl ?_
  refine Gk.aloadN X1 hx (hb hby d5_6) rfl rfl ?_
  refine Gk.iconst X1 hx (hb hby d5_7) (0 : Int32) rfl ?_
  refine Gk.iloadN X1 hx (hb hby d5_8) rfl ?_
  have H3 := (V_a.ext E1)
  have ne4 : a1 ≠ b1 := (Nat.ne_of_lt (Nat.lt_of_lt_of_le V_a.lt (Nat.le_trans (Nat.le_refl _) (Nat.le_of_eq g1.symm))))
  refine Gk.callS (argsL := [(.ref a1), (.int (0 : Int32)), (.ref b1), (.int (0 : Int32)), (.int (14 : Int32))]) X1 hx hZ hown (cp2_14 l Z a0 hw [] a1 b1 kc f c0 c1 c2 c3 c4 c5 c6 c7 c8 c9 c10 c11 c12 c13 k1 (fun _ => (.int (0 : Int32))) h1 n0 (Nat.le_trans Z0 E1.1) H3 V_b1 ne4 hf0 hf1 hf2 hf3 hf4 hf5 hf6 hf7 hf8 hf9 hf10 hf11 hf12 hf13 hc0 hc1 hc2 hc3 hc4 hc5 hc6 hc7 hc8 hc9 hc10 hc11 hc12 hc13 g_b1) (hw _ (List.mem_of_getElem? (i := 38) rfl)) (hw _ (List.mem_of_getElem? (i := 39) rfl)) (hw _ (List.mem_of_getElem? (i := 36) rfl)) (hw _ (List.mem_of_getElem? (i := 40) rfl)) (by decide) e1 pd_0 rfl rfl (by decide) (Nat.le_of_ble_eq_true rfl) (by decide) (by decide) (by rw [hml]; rfl)  rfl (hb hby d5_9) ?_
  intro T2 L2 v2 X2 hQ2
  obtain ⟨rfl, N2q, K2, V2_⟩ := hQ2
  have N2 := Fr.app N0 N2q
  show Go p e below (T2.setTop (mkF m 12 #[.val (.ref a1), .val (.int (0 : Int32)), .val (.int (14 : Int32)), .val (.ref b1), .unset, .unset] [(.int (14 : Int32))])) _
  refine Gk.istore X2 hx (hb hby d5_12) #[.val (.ref a1), .val (.int (0 : Int32)), .val (.int (14 : Int32)), .val (.ref b1), .val (.int (14 : Int32)), .unset] rfl ?_
  refine Gk.iload X2 hx (hb hby d5_14) rfl ?_
  refine Gk.iloadN X2 hx (hb hby d5_16) rfl ?_
  refine Gk.icmpYes X2 hx (hb hby d5_17) (teq (by decide : (14 : Int32) = (14 : Int32))).1 57 (by decide) (by decide) ?_
  refine Gk.aloadN X2 hx (hb hby d5_57) rfl rfl ?_
  refine Go.fin X2 (v := some (.ref b1)) (fun h_ => by rw [Bd.returns] at h_; cases h_) Bd.notSynchronized (fun _ hr => retOut X2 hx Bd.returns rfl (Or.inr (Or.inr (Or.inr (Or.inr ⟨rfl, rfl, rfl⟩)))) (hb hby d5_58) hr) (fun U' hU hF => ⟨_, _, rfl, ?_, hF.1, hF.2.1, hF.2.2.mono (by decide) (by decide)⟩)
  rw [hU]
  exact ⟨(congrArg (fun z_ : Addr => some (Value.ref z_)) (show b1 = h0.size from g1)), N2, (((Keep.refl h0 []).ext E1).trans K2 (allS (Or.inr (Nat.le_trans (Nat.le_refl _) (Nat.le_of_eq g1.symm))) all0)), _, (g1 ▸ V2_)⟩
theorem ef_cfl_14 (m : MethodId) (a1 : Addr) : entryFrame m #[(.ref a1), (.int (14 : Int32))] 2 = mkF m 0 #[.val (.ref a1), .val (.int (14 : Int32))] [] := by first | (simp [entryFrame, mkF, argsToLocals, Value.category]; done) | rfl
def Q_cfl_14 (Z : State) (a1 : Addr) (kb : ClassId) (fb : Nat → Value) (h0 : Heap) (n0 : Nat) (v : Option Value) (h : Heap) (L : List Loc) : Prop := v = some (.int (0 : Int32)) ∧ Fr n0 L ∧ h = h0
set_option maxRecDepth 65536 in
set_option maxHeartbeats 40000000 in
theorem cfl_14 (l : Launch) (Z : State) (a0 : Array Value) (hw : ∀ d ∈ tables_1, d.before a0 Z = true) (ws : List Jvm.Cond) (a1 : Addr) (kb : ClassId) (fb : Nat → Value) (h0 : Heap) (n0 : Nat) (Z0 : n0 ≤ h0.size) (V_b : Arf Z h0 a1 kb .byte (14 : Int32) fb) :
    MetFree l (⟨"java/lang/StringUTF16", "coderFromArrayLen", "([BI)B"⟩ : MethodName) (head1 (Jvm.Cond.code (⟨"java/lang/StringUTF16", "coderFromArrayLen", "([BI)B"⟩ : MethodName) jdk_52_method_15_code 2 (some .byte) :: ws) ({ frames := 0, cells := 0, slots := 0, locals := 0 } : Room)) (fun a U => a = #[(.ref a1), (.int (14 : Int32))] ∧ Z.Warmed39 U.vm ∧ U.heap = h0) (fun _ _ _ _ _ => True) (fun _ U o U' => ∃ v L, o = .returned v ∧ Q_cfl_14 Z a1 kb fb h0 n0 v U'.heap L ∧ FrameEnd U o U' L ({ frames := 0, cells := 0, slots := 0, locals := 0 } : Room).cells ({ frames := 0, cells := 0, slots := 0, locals := 0 } : Room).slots) := by
  refine MetFree.of_bodySF (plainFor_of_name pn_23) hisR ?_
  intro p e s m args below meth c s₁ Bd hml0 hP hK
  obtain ⟨rfl, hZ, hh⟩ := hP
  have hx := Bd.exec
  have hby := Bd.bytes
  have hml : c.maxLocals = 2 := hml0
  have hown : s.vm.findClass "java/lang/StringUTF16" = some m.cls := findClass_of_methodNamed Bd.named
  have hnm := (name_of_methodNamed Bd.named Bd.method).1
  have X0 : Stand p l e ({ frames := 0, cells := 0, slots := 0, locals := 0 } : Room) s m #[(.ref a1), (.int (14 : Int32))] below meth c s₁ [] 0 0 := Stand.of_body Bd
  have e0 : s₁.heap = h0 := by rw [← hh, Bd.state]; rfl
  have N0 := Fr.nil n0
  show Go p e below (s₁.setTop (entryFrame m #[(.ref a1), (.int (14 : Int32))] 2)) (fun o U' => ∃ v L, o = .returned v ∧ Q_cfl_14 Z a1 kb fb h0 n0 v U'.heap L ∧ FrameEnd s o U' L ({ frames := 0, cells := 0, slots := 0, locals := 0 } : Room).cells ({ frames := 0, cells := 0, slots := 0, locals := 0 } : Room).slots)
  rw [ef_cfl_14]
  refine Gk.iloadN X0 hx (hb hby d7_0) rfl ?_
  refine Gk.aloadN X0 hx (hb hby d7_1) rfl rfl ?_
  refine Gk.alen X0 hx hZ e0 V_b (hb hby d7_2) ?_
  refine Gk.isub X0 hx (hb hby d7_3) (0 : Int32) (by decide) ?_
  refine Gk.bipush X0 hx (hb hby d7_4) (31 : Int32) rfl ?_
  refine Gk.iushr X0 hx (hb hby d7_6) (0 : Int32) (by decide) ?_
  refine Gk.i2b X0 hx (hb hby d7_7) (0 : Int32) (by decide) ?_
  refine Go.fin X0 (v := some (.int (0 : Int32))) (fun h_ => by rw [Bd.returns] at h_; cases h_) Bd.notSynchronized (fun _ hr => retN X0 hx (t := .byte) Bd.returns (by simp) (hb hby d7_8) hr) (fun U' hU hF => ⟨_, _, rfl, ?_, hF.1, hF.2.1, hF.2.2.mono (by decide) (by decide)⟩)
  rw [hU, e0]
  exact ⟨(congrArg (fun z_ : Int32 => some (Value.int z_)) (show (0 : Int32) = (0 : Int32) from rfl)), N0, rfl⟩
theorem ef_in4_14 (m : MethodId) (a1 : Addr) (a2 : Addr) : entryFrame m #[(.ref a1), (.ref a2), (.int (0 : Int32)), (.int (14 : Int32)), .null] 6 = mkF m 0 #[.val (.ref a1), .val (.ref a2), .val (.int (0 : Int32)), .val (.int (14 : Int32)), .val .null, .unset] [] := by first | (simp [entryFrame, mkF, argsToLocals, Value.category]; done) | rfl
def Q_in4_14 (Z : State) (a1 : Addr) (a2 : Addr) (kc : ClassId) (f : Nat → Value) (c0 : Int32) (c1 : Int32) (c2 : Int32) (c3 : Int32) (c4 : Int32) (c5 : Int32) (c6 : Int32) (c7 : Int32) (c8 : Int32) (c9 : Int32) (c10 : Int32) (c11 : Int32) (c12 : Int32) (c13 : Int32) (u_coder_a1 : Value) (u_value_a1 : Value) (w_COMPACT_STRINGS : Int32) (h0 : Heap) (n0 : Nat) (v : Option Value) (h : Heap) (L : List Loc) : Prop := v = none ∧ Fr n0 L ∧ Keep h0 h [a1] ∧ Fld Z h a1 "java/lang/String" "coder" "B" (.int (0 : Int32)) ∧ ∃ (b : Addr) (kb : ClassId), h0.size ≤ b ∧ Fld Z h a1 "java/lang/String" "value" "[B" (.ref b) ∧ Arf Z h b kb .byte (14 : Int32) (upd (upd (upd (upd (upd (upd (upd (upd (upd (upd (upd (upd (upd (upd (fun _ => (.int (0 : Int32))) 0 (.int (c0.toInt8.toInt32))) 1 (.int (c1.toInt8.toInt32))) 2 (.int (c2.toInt8.toInt32))) 3 (.int (c3.toInt8.toInt32))) 4 (.int (c4.toInt8.toInt32))) 5 (.int (c5.toInt8.toInt32))) 6 (.int (c6.toInt8.toInt32))) 7 (.int (c7.toInt8.toInt32))) 8 (.int (c8.toInt8.toInt32))) 9 (.int (c9.toInt8.toInt32))) 10 (.int (c10.toInt8.toInt32))) 11 (.int (c11.toInt8.toInt32))) 12 (.int (c12.toInt8.toInt32))) 13 (.int (c13.toInt8.toInt32)))
set_option maxRecDepth 65536 in
set_option maxHeartbeats 40000000 in
theorem in4_14 (l : Launch) (Z : State) (a0 : Array Value) (hw : ∀ d ∈ tables_1, d.before a0 Z = true) (ws : List Jvm.Cond) (a1 : Addr) (a2 : Addr) (kc : ClassId) (f : Nat → Value) (c0 : Int32) (c1 : Int32) (c2 : Int32) (c3 : Int32) (c4 : Int32) (c5 : Int32) (c6 : Int32) (c7 : Int32) (c8 : Int32) (c9 : Int32) (c10 : Int32) (c11 : Int32) (c12 : Int32) (c13 : Int32) (u_coder_a1 : Value) (u_value_a1 : Value) (w_COMPACT_STRINGS : Int32) (h0 : Heap) (n0 : Nat) (Z0 : n0 ≤ h0.size) (S_COMPACT_STRINGS : Stx Z n0 h0 "java/lang/String" "COMPACT_STRINGS" "Z" (.int w_COMPACT_STRINGS)) (E_a1 : Exa Z h0 a1 "java/lang/String") (V_a : Arf Z h0 a2 kc .char (14 : Int32) f) (hf0 : f 0 = (.int c0)) (hf1 : f 1 = (.int c1)) (hf2 : f 2 = (.int c2)) (hf3 : f 3 = (.int c3)) (hf4 : f 4 = (.int c4)) (hf5 : f 5 = (.int c5)) (hf6 : f 6 = (.int c6)) (hf7 : f 7 = (.int c7)) (hf8 : f 8 = (.int c8)) (hf9 : f 9 = (.int c9)) (hf10 : f 10 = (.int c10)) (hf11 : f 11 = (.int c11)) (hf12 : f 12 = (.int c12)) (hf13 : f 13 = (.int c13)) (hc0 : ¬ ((255 : Int32) < c0)) (hc1 : ¬ ((255 : Int32) < c1)) (hc2 : ¬ ((255 : Int32) < c2)) (hc3 : ¬ ((255 : Int32) < c3)) (hc4 : ¬ ((255 : Int32) < c4)) (hc5 : ¬ ((255 : Int32) < c5)) (hc6 : ¬ ((255 : Int32) < c6)) (hc7 : ¬ ((255 : Int32) < c7)) (hc8 : ¬ ((255 : Int32) < c8)) (hc9 : ¬ ((255 : Int32) < c9)) (hc10 : ¬ ((255 : Int32) < c10)) (hc11 : ¬ ((255 : Int32) < c11)) (hc12 : ¬ ((255 : Int32) < c12)) (hc13 : ¬ ((255 : Int32) < c13)) (hcs : ¬ (w_COMPACT_STRINGS = (0 : Int32))) (F_coder_a1 : Fld Z h0 a1 "java/lang/String" "coder" "B" u_coder_a1) (g_a1 : n0 ≤ a1) (F_value_a1 : Fld Z h0 a1 "java/lang/String" "value" "[B" u_value_a1) :
    MetFree l (⟨"java/lang/String", "<init>", "([CIILjava/lang/Void;)V"⟩ : MethodName) (head1 (Jvm.Cond.code (⟨"java/lang/String", "<init>", "([CIILjava/lang/Void;)V"⟩ : MethodName) jdk_42_method_149_code 6 none :: ws) ({ frames := 2, cells := 1, slots := 14, locals := 35 } : Room)) (fun a U => a = #[(.ref a1), (.ref a2), (.int (0 : Int32)), (.int (14 : Int32)), .null] ∧ Z.Warmed39 U.vm ∧ U.heap = h0) (fun _ _ _ _ _ => True) (fun _ U o U' => ∃ v L, o = .returned v ∧ Q_in4_14 Z a1 a2 kc f c0 c1 c2 c3 c4 c5 c6 c7 c8 c9 c10 c11 c12 c13 u_coder_a1 u_value_a1 w_COMPACT_STRINGS h0 n0 v U'.heap L ∧ FrameEnd U o U' L ({ frames := 2, cells := 1, slots := 14, locals := 35 } : Room).cells ({ frames := 2, cells := 1, slots := 14, locals := 35 } : Room).slots) := by
  refine MetFree.of_bodySF (plainFor_of_name pn_67) hisR ?_
  intro p e s m args below meth c s₁ Bd hml0 hP hK
  obtain ⟨rfl, hZ, hh⟩ := hP
  have hx := Bd.exec
  have hby := Bd.bytes
  have hml : c.maxLocals = 6 := hml0
  have hown : s.vm.findClass "java/lang/String" = some m.cls := findClass_of_methodNamed Bd.named
  have hnm := (name_of_methodNamed Bd.named Bd.method).1
  have X0 : Stand p l e ({ frames := 2, cells := 1, slots := 14, locals := 35 } : Room) s m #[(.ref a1), (.ref a2), (.int (0 : Int32)), (.int (14 : Int32)), .null] below meth c s₁ [] 0 0 := Stand.of_body Bd
  have e0 : s₁.heap = h0 := by rw [← hh, Bd.state]; rfl
  have N0 := Fr.nil n0
  show Go p e below (s₁.setTop (entryFrame m #[(.ref a1), (.ref a2), (.int (0 : Int32)), (.int (14 : Int32)), .null] 6)) (fun o U' => ∃ v L, o = .returned v ∧ Q_in4_14 Z a1 a2 kc f c0 c1 c2 c3 c4 c5 c6 c7 c8 c9 c10 c11 c12 c13 u_coder_a1 u_value_a1 w_COMPACT_STRINGS h0 n0 v U'.heap L ∧ FrameEnd s o U' L ({ frames := 2, cells := 1, slots := 14, locals := 35 } : Room).cells ({ frames := 2, cells := 1, slots := 14, locals := 35 } : Room).slots)
  rw [ef_in4_14]
  refine Gk.aloadN X0 hx (hb hby d3_0) rfl rfl ?_
  refine Gk.initO X0 hx hZ hown (hw _ (List.mem_of_getElem? (i := 30) rfl)) (hw _ (List.mem_of_getElem? (i := 31) rfl)) (hw _ (List.mem_of_getElem? (i := 32) rfl)) e0 (by rw [hml]; rfl) (hb hby d3_1) (by decide) (Nat.le_of_ble_eq_true rfl) ?_
  intro T1 X1 e1
  refine Gk.iloadN X1 hx (hb hby d3_4) rfl ?_
  refine Gk.ifYes X1 hx (hb hby d3_5) (feq (by decide : ¬ ((14 : Int32) = (0 : Int32)))).2 27 (by decide) (by decide) ?_
  refine Gk.getS X1 hx hZ hown (host := "") (Or.inl (hw _ (List.mem_of_getElem? (i := 33) rfl))) Via.refl e1 S_COMPACT_STRINGS.sta (hb hby d3_27) ?_
  intro T2 X2 e2
  have hc30 : ¬ (w_COMPACT_STRINGS = (0 : Int32)) := hcs
  refine Gk.ifNo X2 hx (hb hby d3_30) (feq hc30).1 ?_
  refine Gk.aloadN X2 hx (hb hby d3_33) rfl rfl ?_
  refine Gk.iloadN X2 hx (hb hby d3_34) rfl ?_
  refine Gk.iloadN X2 hx (hb hby d3_35) rfl ?_
  refine Gk.callS (argsL := [(.ref a2), (.int (0 : Int32)), (.int (14 : Int32))]) X2 hx hZ hown (cp1_14 l Z a0 hw [] a2 kc f c0 c1 c2 c3 c4 c5 c6 c7 c8 c9 c10 c11 c12 c13 h0 n0 Z0 V_a hf0 hf1 hf2 hf3 hf4 hf5 hf6 hf7 hf8 hf9 hf10 hf11 hf12 hf13 hc0 hc1 hc2 hc3 hc4 hc5 hc6 hc7 hc8 hc9 hc10 hc11 hc12 hc13) (hw _ (List.mem_of_getElem? (i := 34) rfl)) (hw _ (List.mem_of_getElem? (i := 35) rfl)) (hw _ (List.mem_of_getElem? (i := 36) rfl)) (hw _ (List.mem_of_getElem? (i := 37) rfl)) (by decide) e2 pd_1 rfl rfl (by decide) (Nat.le_of_ble_eq_true rfl) (by decide) (by decide) (by rw [hml]; rfl)  rfl (hb hby d3_36) ?_
  intro T3 L3 v3 X3 hQ3
  obtain ⟨rfl, N3q, K3, k3, A3⟩ := hQ3
  have N3 := Fr.app N0 N3q
  obtain ⟨b3, g3⟩ : ∃ z_, z_ = h0.size := ⟨_, rfl⟩
  rw [← g3] at A3 ⊢
  have g_b3 : n0 ≤ b3 := Nat.le_trans Z0 (Nat.le_of_eq g3.symm)
  have lt_b3 := A3.lt
  show Go p e below (T3.setTop (mkF m 39 #[.val (.ref a1), .val (.ref a2), .val (.int (0 : Int32)), .val (.int (14 : Int32)), .val .null, .unset] [(.ref b3)])) _
  refine Gk.astore X3 hx (hb hby d3_39) rfl #[.val (.ref a1), .val (.ref a2), .val (.int (0 : Int32)), .val (.int (14 : Int32)), .val .null, .val (.ref b3)] rfl ?_
  refine Gk.aloadN X3 hx (hb hby d3_41) rfl rfl ?_
  refine Gk.aload X3 hx (hb hby d3_42) rfl rfl ?_
  refine Gk.iloadN X3 hx (hb hby d3_44) rfl ?_
  refine Gk.callS (argsL := [(.ref b3), (.int (14 : Int32))]) X3 hx hZ hown (cfl_14 l Z a0 hw [] b3 k3 (upd (upd (upd (upd (upd (upd (upd (upd (upd (upd (upd (upd (upd (upd (fun _ => (.int (0 : Int32))) 0 (.int (c0.toInt8.toInt32))) 1 (.int (c1.toInt8.toInt32))) 2 (.int (c2.toInt8.toInt32))) 3 (.int (c3.toInt8.toInt32))) 4 (.int (c4.toInt8.toInt32))) 5 (.int (c5.toInt8.toInt32))) 6 (.int (c6.toInt8.toInt32))) 7 (.int (c7.toInt8.toInt32))) 8 (.int (c8.toInt8.toInt32))) 9 (.int (c9.toInt8.toInt32))) 10 (.int (c10.toInt8.toInt32))) 11 (.int (c11.toInt8.toInt32))) 12 (.int (c12.toInt8.toInt32))) 13 (.int (c13.toInt8.toInt32))) T3.heap n0 (Nat.le_trans Z0 K3.1) A3) (hw _ (List.mem_of_getElem? (i := 41) rfl)) (hw _ (List.mem_of_getElem? (i := 42) rfl)) (hw _ (List.mem_of_getElem? (i := 36) rfl)) (hw _ (List.mem_of_getElem? (i := 43) rfl)) (by decide) rfl pd_2 rfl rfl (by decide) (Nat.le_of_ble_eq_true rfl) (by decide) (by decide) (by rw [hml]; rfl)  rfl (hb hby d3_45) ?_
  intro T4 L4 v4 X4 hQ4
  obtain ⟨rfl, N4q, e4⟩ := hQ4
  have N4 := Fr.app N3 N4q
  show Go p e below (T4.setTop (mkF m 48 #[.val (.ref a1), .val (.ref a2), .val (.int (0 : Int32)), .val (.int (14 : Int32)), .val .null, .val (.ref b3)] [(.int (0 : Int32)), (.ref a1)])) _
  have H5 := (E_a1.keep K3)
  have H6 := (F_coder_a1.keep K3 nin0)
  refine Gk.putFN X4 hx hZ hown (hw _ (List.mem_of_getElem? (i := 44) rfl)) Via.refl e4 H6 H5 (Or.inr ⟨(hw _ (List.mem_of_getElem? (i := 7) rfl)), rfl, hnm⟩) (hw _ (List.mem_of_getElem? (i := 4) rfl)) (ty := .byte) (v' := (.int (0 : Int32))) (by decide) rfl rfl (hb hby d3_48) ?_
  intro T7 h7 X7 e7 W7
  have Fw7 := H6.same W7
  have N7 := Fr.snoc X7 N4 g_a1
  refine Gk.aloadN X7 hx (hb hby d3_51) rfl rfl ?_
  refine Gk.aload X7 hx (hb hby d3_52) rfl rfl ?_
  have H8 := (H5.wr W7)
  have H9 := ((F_value_a1.keep K3 nin0).other W7 (Or.inr (slot_ne (Or.inr (hw _ (List.mem_of_getElem? (i := 6) rfl))) (Or.inr (hw _ (List.mem_of_getElem? (i := 7) rfl))) (by decide) (t := (.array .byte)) (t' := .byte) (by decide) (by decide))))
  refine Gk.putF X7 hx hZ hown (host := "") (Or.inl (hw _ (List.mem_of_getElem? (i := 45) rfl))) Via.refl e7 H9 H8 (Or.inr ⟨(hw _ (List.mem_of_getElem? (i := 6) rfl)), rfl, hnm⟩) (hw _ (List.mem_of_getElem? (i := 4) rfl)) (ty := (.array .byte)) (by decide) rfl rfl (hb hby d3_54) ?_
  intro T10 h10 X10 e10 W10
  have Fw10 := H9.same W10
  have N10 := Fr.snoc X10 N7 g_a1
  have H11 := (Fw7.other W10 (Or.inr (slot_ne (Or.inr (hw _ (List.mem_of_getElem? (i := 7) rfl))) (Or.inr (hw _ (List.mem_of_getElem? (i := 6) rfl))) (by decide) (t := .byte) (t' := (.array .byte)) (by decide) (by decide))))
  have ne12 : b3 ≠ a1 := (Nat.ne_of_gt (Nat.lt_of_lt_of_le E_a1.lt (Nat.le_trans (Nat.le_refl _) (Nat.le_of_eq g3.symm))))
  have H13 := ((A3.other W7 ne12).other W10 ne12)
  refine Go.fin X10 (v := none) (fun _ => rfl) Bd.notSynchronized (fun _ hr => X10.returnOut hx Bd.returns (hb hby d3_57) hr) (fun U' hU hF => ⟨_, _, rfl, ?_, hF.1, hF.2.1, hF.2.2.mono (by decide) (by decide)⟩)
  rw [hU, e10]
  exact ⟨rfl, N10, ((((Keep.refl h0 [a1]).trans K3 all0).wr W7 (Or.inl (List.mem_of_getElem? (i := 0) rfl))).wr W10 (Or.inl (List.mem_of_getElem? (i := 0) rfl))), H11, b3, _, (Nat.le_trans (Nat.le_refl _) (Nat.le_of_eq g3.symm)), Fw10, H13⟩
theorem ef_str_14 (m : MethodId) (a1 : Addr) (a2 : Addr) : entryFrame m #[(.ref a1), (.ref a2)] 2 = mkF m 0 #[.val (.ref a1), .val (.ref a2)] [] := by first | (simp [entryFrame, mkF, argsToLocals, Value.category]; done) | rfl
def Q_str_14 (Z : State) (a1 : Addr) (a2 : Addr) (kc : ClassId) (f : Nat → Value) (c0 : Int32) (c1 : Int32) (c2 : Int32) (c3 : Int32) (c4 : Int32) (c5 : Int32) (c6 : Int32) (c7 : Int32) (c8 : Int32) (c9 : Int32) (c10 : Int32) (c11 : Int32) (c12 : Int32) (c13 : Int32) (u_coder_a1 : Value) (u_value_a1 : Value) (w_COMPACT_STRINGS : Int32) (h0 : Heap) (n0 : Nat) (v : Option Value) (h : Heap) (L : List Loc) : Prop := v = none ∧ Fr n0 L ∧ Keep h0 h [a1] ∧ Fld Z h a1 "java/lang/String" "coder" "B" (.int (0 : Int32)) ∧ ∃ (b : Addr) (kb : ClassId), h0.size ≤ b ∧ Fld Z h a1 "java/lang/String" "value" "[B" (.ref b) ∧ Arf Z h b kb .byte (14 : Int32) (upd (upd (upd (upd (upd (upd (upd (upd (upd (upd (upd (upd (upd (upd (fun _ => (.int (0 : Int32))) 0 (.int (c0.toInt8.toInt32))) 1 (.int (c1.toInt8.toInt32))) 2 (.int (c2.toInt8.toInt32))) 3 (.int (c3.toInt8.toInt32))) 4 (.int (c4.toInt8.toInt32))) 5 (.int (c5.toInt8.toInt32))) 6 (.int (c6.toInt8.toInt32))) 7 (.int (c7.toInt8.toInt32))) 8 (.int (c8.toInt8.toInt32))) 9 (.int (c9.toInt8.toInt32))) 10 (.int (c10.toInt8.toInt32))) 11 (.int (c11.toInt8.toInt32))) 12 (.int (c12.toInt8.toInt32))) 13 (.int (c13.toInt8.toInt32)))
set_option maxRecDepth 65536 in
set_option maxHeartbeats 40000000 in
theorem str_14 (l : Launch) (Z : State) (a0 : Array Value) (hw : ∀ d ∈ tables_1, d.before a0 Z = true) (ws : List Jvm.Cond) (a1 : Addr) (a2 : Addr) (kc : ClassId) (f : Nat → Value) (c0 : Int32) (c1 : Int32) (c2 : Int32) (c3 : Int32) (c4 : Int32) (c5 : Int32) (c6 : Int32) (c7 : Int32) (c8 : Int32) (c9 : Int32) (c10 : Int32) (c11 : Int32) (c12 : Int32) (c13 : Int32) (u_coder_a1 : Value) (u_value_a1 : Value) (w_COMPACT_STRINGS : Int32) (h0 : Heap) (n0 : Nat) (Z0 : n0 ≤ h0.size) (S_COMPACT_STRINGS : Stx Z n0 h0 "java/lang/String" "COMPACT_STRINGS" "Z" (.int w_COMPACT_STRINGS)) (E_a1 : Exa Z h0 a1 "java/lang/String") (V_a : Arf Z h0 a2 kc .char (14 : Int32) f) (hf0 : f 0 = (.int c0)) (hf1 : f 1 = (.int c1)) (hf2 : f 2 = (.int c2)) (hf3 : f 3 = (.int c3)) (hf4 : f 4 = (.int c4)) (hf5 : f 5 = (.int c5)) (hf6 : f 6 = (.int c6)) (hf7 : f 7 = (.int c7)) (hf8 : f 8 = (.int c8)) (hf9 : f 9 = (.int c9)) (hf10 : f 10 = (.int c10)) (hf11 : f 11 = (.int c11)) (hf12 : f 12 = (.int c12)) (hf13 : f 13 = (.int c13)) (hc0 : ¬ ((255 : Int32) < c0)) (hc1 : ¬ ((255 : Int32) < c1)) (hc2 : ¬ ((255 : Int32) < c2)) (hc3 : ¬ ((255 : Int32) < c3)) (hc4 : ¬ ((255 : Int32) < c4)) (hc5 : ¬ ((255 : Int32) < c5)) (hc6 : ¬ ((255 : Int32) < c6)) (hc7 : ¬ ((255 : Int32) < c7)) (hc8 : ¬ ((255 : Int32) < c8)) (hc9 : ¬ ((255 : Int32) < c9)) (hc10 : ¬ ((255 : Int32) < c10)) (hc11 : ¬ ((255 : Int32) < c11)) (hc12 : ¬ ((255 : Int32) < c12)) (hc13 : ¬ ((255 : Int32) < c13)) (hcs : ¬ (w_COMPACT_STRINGS = (0 : Int32))) (F_coder_a1 : Fld Z h0 a1 "java/lang/String" "coder" "B" u_coder_a1) (g_a1 : n0 ≤ a1) (F_value_a1 : Fld Z h0 a1 "java/lang/String" "value" "[B" u_value_a1) :
    MetFree l (⟨"java/lang/String", "<init>", "([C)V"⟩ : MethodName) (head1 (Jvm.Cond.code (⟨"java/lang/String", "<init>", "([C)V"⟩ : MethodName) jdk_42_method_3_code 2 none :: ws) ({ frames := 3, cells := 1, slots := 14, locals := 52 } : Room)) (fun a U => a = #[(.ref a1), (.ref a2)] ∧ Z.Warmed39 U.vm ∧ U.heap = h0) (fun _ _ _ _ _ => True) (fun _ U o U' => ∃ v L, o = .returned v ∧ Q_str_14 Z a1 a2 kc f c0 c1 c2 c3 c4 c5 c6 c7 c8 c9 c10 c11 c12 c13 u_coder_a1 u_value_a1 w_COMPACT_STRINGS h0 n0 v U'.heap L ∧ FrameEnd U o U' L ({ frames := 3, cells := 1, slots := 14, locals := 52 } : Room).cells ({ frames := 3, cells := 1, slots := 14, locals := 52 } : Room).slots) := by
  refine MetFree.of_bodySF (plainFor_of_name pn_67) hisR ?_
  intro p e s m args below meth c s₁ Bd hml0 hP hK
  obtain ⟨rfl, hZ, hh⟩ := hP
  have hx := Bd.exec
  have hby := Bd.bytes
  have hml : c.maxLocals = 2 := hml0
  have hown : s.vm.findClass "java/lang/String" = some m.cls := findClass_of_methodNamed Bd.named
  have hnm := (name_of_methodNamed Bd.named Bd.method).1
  have X0 : Stand p l e ({ frames := 3, cells := 1, slots := 14, locals := 52 } : Room) s m #[(.ref a1), (.ref a2)] below meth c s₁ [] 0 0 := Stand.of_body Bd
  have e0 : s₁.heap = h0 := by rw [← hh, Bd.state]; rfl
  have N0 := Fr.nil n0
  show Go p e below (s₁.setTop (entryFrame m #[(.ref a1), (.ref a2)] 2)) (fun o U' => ∃ v L, o = .returned v ∧ Q_str_14 Z a1 a2 kc f c0 c1 c2 c3 c4 c5 c6 c7 c8 c9 c10 c11 c12 c13 u_coder_a1 u_value_a1 w_COMPACT_STRINGS h0 n0 v U'.heap L ∧ FrameEnd s o U' L ({ frames := 3, cells := 1, slots := 14, locals := 52 } : Room).cells ({ frames := 3, cells := 1, slots := 14, locals := 52 } : Room).slots)
  rw [ef_str_14]
  refine Gk.aloadN X0 hx (hb hby d2_0) rfl rfl ?_
  refine Gk.aloadN X0 hx (hb hby d2_1) rfl rfl ?_
  refine Gk.iconst X0 hx (hb hby d2_2) (0 : Int32) rfl ?_
  refine Gk.aloadN X0 hx (hb hby d2_3) rfl rfl ?_
  refine Gk.alen X0 hx hZ e0 V_a (hb hby d2_4) ?_
  refine Gk.aconstNull X0 hx (hb hby d2_5) ?_
  refine Gk.callI (argsL := [(.ref a2), (.int (0 : Int32)), (.int (14 : Int32)), .null]) X0 hx hZ hown (in4_14 l Z a0 hw [] a1 a2 kc f c0 c1 c2 c3 c4 c5 c6 c7 c8 c9 c10 c11 c12 c13 u_coder_a1 u_value_a1 w_COMPACT_STRINGS h0 n0 Z0 S_COMPACT_STRINGS E_a1 V_a hf0 hf1 hf2 hf3 hf4 hf5 hf6 hf7 hf8 hf9 hf10 hf11 hf12 hf13 hc0 hc1 hc2 hc3 hc4 hc5 hc6 hc7 hc8 hc9 hc10 hc11 hc12 hc13 hcs F_coder_a1 g_a1 F_value_a1) rfl (hw _ (List.mem_of_getElem? (i := 26) rfl)) (hw _ (List.mem_of_getElem? (i := 27) rfl)) (hw _ (List.mem_of_getElem? (i := 29) rfl)) rfl (by decide) (hw _ (List.mem_of_getElem? (i := 3) rfl)) e0 pd_3 rfl rfl (by decide) (Nat.le_of_ble_eq_true rfl) (by decide) (by decide) (by rw [hml]; rfl)  rfl (hb hby d2_6) ?_
  intro T1 L1 v1 X1 hQ1
  obtain ⟨rfl, N1q, K1, Fc1, x1, k1, le1, Fv1, V1⟩ := hQ1
  have N1 := Fr.app N0 N1q
  show Go p e below (T1.setTop (mkF m 9 #[.val (.ref a1), .val (.ref a2)] [])) _
  refine Go.fin X1 (v := none) (fun _ => rfl) Bd.notSynchronized (fun _ hr => X1.returnOut hx Bd.returns (hb hby d2_9) hr) (fun U' hU hF => ⟨_, _, rfl, ?_, hF.1, hF.2.1, hF.2.2.mono (by decide) (by decide)⟩)
  rw [hU]
  exact ⟨rfl, N1, ((Keep.refl h0 [a1]).trans K1 (allS (Or.inl (List.mem_of_getElem? (i := 0) rfl)) all0)), Fc1, x1, k1, le1, Fv1, V1⟩
theorem d12_0 : decode jdk_41_method_11_code 0 = .ok (.iload_n 0, 1) := by decide +kernel
theorem d12_1 : decode jdk_41_method_11_code 1 = .ok (.ifCond .lt 8, 3) := by decide +kernel
theorem d12_4 : decode jdk_41_method_11_code 4 = .ok (.iload_n 0, 1) := by decide +kernel
theorem d12_5 : decode jdk_41_method_11_code 5 = .ok (.iload_n 1, 1) := by decide +kernel
theorem d12_6 : decode jdk_41_method_11_code 6 = .ok (.if_icmp .lt 10, 3) := by decide +kernel
theorem d12_16 : decode jdk_41_method_11_code 16 = .ok (.iload_n 0, 1) := by decide +kernel
theorem d12_17 : decode jdk_41_method_11_code 17 = .ok (.ireturn, 1) := by decide +kernel
theorem pn_83 : plainName "jdk/internal/util/Preconditions" = true := by first | (simp [plainName, overriddenIn]; done) | decide +kernel
theorem ef_pc_n (m : MethodId) (p1 : Int32) (p2 : Int32) : entryFrame m #[(.int p1), (.int p2), .null] 3 = mkF m 0 #[.val (.int p1), .val (.int p2), .val .null] [] := by first | (simp [entryFrame, mkF, argsToLocals, Value.category]; done) | rfl
def Q_pc_n (Z : State) (p1 : Int32) (p2 : Int32) (h0 : Heap) (n0 : Nat) (v : Option Value) (h : Heap) (L : List Loc) : Prop := v = some (.int p1) ∧ Fr n0 L ∧ h = h0
set_option maxRecDepth 65536 in
set_option maxHeartbeats 40000000 in
theorem pc_n (l : Launch) (Z : State) (a0 : Array Value) (hw : ∀ d ∈ tables_1, d.before a0 Z = true) (ws : List Jvm.Cond) (p1 : Int32) (p2 : Int32) (h0 : Heap) (n0 : Nat) (Z0 : n0 ≤ h0.size) (h0i : ¬ (p1 < (0 : Int32))) (h1i : p1 < p2) :
    MetFree l (⟨"jdk/internal/util/Preconditions", "checkIndex", "(IILjava/util/function/BiFunction;)I"⟩ : MethodName) (head1 (Jvm.Cond.code (⟨"jdk/internal/util/Preconditions", "checkIndex", "(IILjava/util/function/BiFunction;)I"⟩ : MethodName) jdk_41_method_11_code 3 (some .int) :: ws) ({ frames := 0, cells := 0, slots := 0, locals := 0 } : Room)) (fun a U => a = #[(.int p1), (.int p2), .null] ∧ Z.Warmed39 U.vm ∧ U.heap = h0) (fun _ _ _ _ _ => True) (fun _ U o U' => ∃ v L, o = .returned v ∧ Q_pc_n Z p1 p2 h0 n0 v U'.heap L ∧ FrameEnd U o U' L ({ frames := 0, cells := 0, slots := 0, locals := 0 } : Room).cells ({ frames := 0, cells := 0, slots := 0, locals := 0 } : Room).slots) := by
  refine MetFree.of_bodySF (plainFor_of_name pn_83) hisR ?_
  intro p e s m args below meth c s₁ Bd hml0 hP hK
  obtain ⟨rfl, hZ, hh⟩ := hP
  have hx := Bd.exec
  have hby := Bd.bytes
  have hml : c.maxLocals = 3 := hml0
  have hown : s.vm.findClass "jdk/internal/util/Preconditions" = some m.cls := findClass_of_methodNamed Bd.named
  have hnm := (name_of_methodNamed Bd.named Bd.method).1
  have X0 : Stand p l e ({ frames := 0, cells := 0, slots := 0, locals := 0 } : Room) s m #[(.int p1), (.int p2), .null] below meth c s₁ [] 0 0 := Stand.of_body Bd
  have e0 : s₁.heap = h0 := by rw [← hh, Bd.state]; rfl
  have N0 := Fr.nil n0
  show Go p e below (s₁.setTop (entryFrame m #[(.int p1), (.int p2), .null] 3)) (fun o U' => ∃ v L, o = .returned v ∧ Q_pc_n Z p1 p2 h0 n0 v U'.heap L ∧ FrameEnd s o U' L ({ frames := 0, cells := 0, slots := 0, locals := 0 } : Room).cells ({ frames := 0, cells := 0, slots := 0, locals := 0 } : Room).slots)
  rw [ef_pc_n]
  refine Gk.iloadN X0 hx (hb hby d12_0) rfl ?_
  have hc1 : ¬ (p1 < (0 : Int32)) := h0i
  refine Gk.ifNo X0 hx (hb hby d12_1) (flt hc1).1 ?_
  refine Gk.iloadN X0 hx (hb hby d12_4) rfl ?_
  refine Gk.iloadN X0 hx (hb hby d12_5) rfl ?_
  have hc6 : p1 < p2 := h1i
  refine Gk.icmpYes X0 hx (hb hby d12_6) (tlt hc6).1 16 (by decide) (by decide) ?_
  refine Gk.iloadN X0 hx (hb hby d12_16) rfl ?_
  refine Go.fin X0 (v := some (.int p1)) (fun h_ => by rw [Bd.returns] at h_; cases h_) Bd.notSynchronized (fun _ hr => retOut X0 hx Bd.returns rfl (Or.inl ⟨rfl, Or.inl rfl, _, rfl⟩) (hb hby d12_17) hr) (fun U' hU hF => ⟨_, _, rfl, ?_, hF.1, hF.2.1, hF.2.2.mono (by decide) (by decide)⟩)
  rw [hU, e0]
  exact ⟨(congrArg (fun z_ : Int32 => some (Value.int z_)) (show p1 = p1 from rfl)), N0, rfl⟩
theorem ef_pc_r (m : MethodId) (p1 : Int32) (p2 : Int32) (a3 : Addr) : entryFrame m #[(.int p1), (.int p2), (.ref a3)] 3 = mkF m 0 #[.val (.int p1), .val (.int p2), .val (.ref a3)] [] := by first | (simp [entryFrame, mkF, argsToLocals, Value.category]; done) | rfl
def Q_pc_r (Z : State) (p1 : Int32) (p2 : Int32) (a3 : Addr) (h0 : Heap) (n0 : Nat) (v : Option Value) (h : Heap) (L : List Loc) : Prop := v = some (.int p1) ∧ Fr n0 L ∧ h = h0
set_option maxRecDepth 65536 in
set_option maxHeartbeats 40000000 in
theorem pc_r (l : Launch) (Z : State) (a0 : Array Value) (hw : ∀ d ∈ tables_1, d.before a0 Z = true) (ws : List Jvm.Cond) (p1 : Int32) (p2 : Int32) (a3 : Addr) (h0 : Heap) (n0 : Nat) (Z0 : n0 ≤ h0.size) (h0i : ¬ (p1 < (0 : Int32))) (h1i : p1 < p2) :
    MetFree l (⟨"jdk/internal/util/Preconditions", "checkIndex", "(IILjava/util/function/BiFunction;)I"⟩ : MethodName) (head1 (Jvm.Cond.code (⟨"jdk/internal/util/Preconditions", "checkIndex", "(IILjava/util/function/BiFunction;)I"⟩ : MethodName) jdk_41_method_11_code 3 (some .int) :: ws) ({ frames := 0, cells := 0, slots := 0, locals := 0 } : Room)) (fun a U => a = #[(.int p1), (.int p2), (.ref a3)] ∧ Z.Warmed39 U.vm ∧ U.heap = h0) (fun _ _ _ _ _ => True) (fun _ U o U' => ∃ v L, o = .returned v ∧ Q_pc_r Z p1 p2 a3 h0 n0 v U'.heap L ∧ FrameEnd U o U' L ({ frames := 0, cells := 0, slots := 0, locals := 0 } : Room).cells ({ frames := 0, cells := 0, slots := 0, locals := 0 } : Room).slots) := by
  refine MetFree.of_bodySF (plainFor_of_name pn_83) hisR ?_
  intro p e s m args below meth c s₁ Bd hml0 hP hK
  obtain ⟨rfl, hZ, hh⟩ := hP
  have hx := Bd.exec
  have hby := Bd.bytes
  have hml : c.maxLocals = 3 := hml0
  have hown : s.vm.findClass "jdk/internal/util/Preconditions" = some m.cls := findClass_of_methodNamed Bd.named
  have hnm := (name_of_methodNamed Bd.named Bd.method).1
  have X0 : Stand p l e ({ frames := 0, cells := 0, slots := 0, locals := 0 } : Room) s m #[(.int p1), (.int p2), (.ref a3)] below meth c s₁ [] 0 0 := Stand.of_body Bd
  have e0 : s₁.heap = h0 := by rw [← hh, Bd.state]; rfl
  have N0 := Fr.nil n0
  show Go p e below (s₁.setTop (entryFrame m #[(.int p1), (.int p2), (.ref a3)] 3)) (fun o U' => ∃ v L, o = .returned v ∧ Q_pc_r Z p1 p2 a3 h0 n0 v U'.heap L ∧ FrameEnd s o U' L ({ frames := 0, cells := 0, slots := 0, locals := 0 } : Room).cells ({ frames := 0, cells := 0, slots := 0, locals := 0 } : Room).slots)
  rw [ef_pc_r]
  refine Gk.iloadN X0 hx (hb hby d12_0) rfl ?_
  have hc1 : ¬ (p1 < (0 : Int32)) := h0i
  refine Gk.ifNo X0 hx (hb hby d12_1) (flt hc1).1 ?_
  refine Gk.iloadN X0 hx (hb hby d12_4) rfl ?_
  refine Gk.iloadN X0 hx (hb hby d12_5) rfl ?_
  have hc6 : p1 < p2 := h1i
  refine Gk.icmpYes X0 hx (hb hby d12_6) (tlt hc6).1 16 (by decide) (by decide) ?_
  refine Gk.iloadN X0 hx (hb hby d12_16) rfl ?_
  refine Go.fin X0 (v := some (.int p1)) (fun h_ => by rw [Bd.returns] at h_; cases h_) Bd.notSynchronized (fun _ hr => retOut X0 hx Bd.returns rfl (Or.inl ⟨rfl, Or.inl rfl, _, rfl⟩) (hb hby d12_17) hr) (fun U' hU hF => ⟨_, _, rfl, ?_, hF.1, hF.2.1, hF.2.2.mono (by decide) (by decide)⟩)
  rw [hU, e0]
  exact ⟨(congrArg (fun z_ : Int32 => some (Value.int z_)) (show p1 = p1 from rfl)), N0, rfl⟩
theorem pd_4 : parseMethodDescriptor "(IILjava/util/function/BiFunction;)I" = some ⟨[.int, .int, (.object "java/util/function/BiFunction")], some .int⟩ := by decide +kernel
theorem d11_0 : decode jdk_42_method_155_code 0 = .ok (.iload_n 0, 1) := by decide +kernel
theorem d11_1 : decode jdk_42_method_155_code 1 = .ok (.iload_n 1, 1) := by decide +kernel
theorem d11_2 : decode jdk_42_method_155_code 2 = .ok (.getstatic 1053, 3) := by decide +kernel
theorem d11_5 : decode jdk_42_method_155_code 5 = .ok (.invokestatic 1059, 3) := by decide +kernel
theorem d11_8 : decode jdk_42_method_155_code 8 = .ok (.pop, 1) := by decide +kernel
theorem d11_9 : decode jdk_42_method_155_code 9 = .ok (.return_, 1) := by decide +kernel
theorem ef_rm11 (m : MethodId) (p1 : Int32) (p2 : Int32) : entryFrame m #[(.int p1), (.int p2)] 2 = mkF m 0 #[.val (.int p1), .val (.int p2)] [] := by first | (simp [entryFrame, mkF, argsToLocals, Value.category]; done) | rfl
def Q_rm11 (Z : State) (p1 : Int32) (p2 : Int32) (w_SIOOBE_FORMATTER : Value) (h0 : Heap) (n0 : Nat) (v : Option Value) (h : Heap) (L : List Loc) : Prop := v = none ∧ Fr n0 L ∧ h = h0
set_option maxRecDepth 65536 in
set_option maxHeartbeats 40000000 in
theorem rm11 (l : Launch) (Z : State) (a0 : Array Value) (hw : ∀ d ∈ tables_1, d.before a0 Z = true) (ws : List Jvm.Cond) (p1 : Int32) (p2 : Int32) (w_SIOOBE_FORMATTER : Value) (h0 : Heap) (n0 : Nat) (Z0 : n0 ≤ h0.size) (S_SIOOBE_FORMATTER : Stx Z n0 h0 "jdk/internal/util/Preconditions" "SIOOBE_FORMATTER" "Ljava/util/function/BiFunction;" w_SIOOBE_FORMATTER) (h0i : ¬ (p1 < (0 : Int32))) (h1i : p1 < p2) (hsf : w_SIOOBE_FORMATTER.isRef = true) :
    MetFree l (⟨"java/lang/String", "checkIndex", "(II)V"⟩ : MethodName) (head1 (Jvm.Cond.code (⟨"java/lang/String", "checkIndex", "(II)V"⟩ : MethodName) jdk_42_method_155_code 2 none :: ws) ({ frames := 1, cells := 0, slots := 0, locals := 14 } : Room)) (fun a U => a = #[(.int p1), (.int p2)] ∧ Z.Warmed39 U.vm ∧ U.heap = h0) (fun _ _ _ _ _ => True) (fun _ U o U' => ∃ v L, o = .returned v ∧ Q_rm11 Z p1 p2 w_SIOOBE_FORMATTER h0 n0 v U'.heap L ∧ FrameEnd U o U' L ({ frames := 1, cells := 0, slots := 0, locals := 14 } : Room).cells ({ frames := 1, cells := 0, slots := 0, locals := 14 } : Room).slots) := by
  refine MetFree.of_bodySF (plainFor_of_name pn_67) hisR ?_
  intro p e s m args below meth c s₁ Bd hml0 hP hK
  obtain ⟨rfl, hZ, hh⟩ := hP
  have hx := Bd.exec
  have hby := Bd.bytes
  have hml : c.maxLocals = 2 := hml0
  have hown : s.vm.findClass "java/lang/String" = some m.cls := findClass_of_methodNamed Bd.named
  have hnm := (name_of_methodNamed Bd.named Bd.method).1
  have X0 : Stand p l e ({ frames := 1, cells := 0, slots := 0, locals := 14 } : Room) s m #[(.int p1), (.int p2)] below meth c s₁ [] 0 0 := Stand.of_body Bd
  have e0 : s₁.heap = h0 := by rw [← hh, Bd.state]; rfl
  have N0 := Fr.nil n0
  show Go p e below (s₁.setTop (entryFrame m #[(.int p1), (.int p2)] 2)) (fun o U' => ∃ v L, o = .returned v ∧ Q_rm11 Z p1 p2 w_SIOOBE_FORMATTER h0 n0 v U'.heap L ∧ FrameEnd s o U' L ({ frames := 1, cells := 0, slots := 0, locals := 14 } : Room).cells ({ frames := 1, cells := 0, slots := 0, locals := 14 } : Room).slots)
  rw [ef_rm11]
  refine Gk.iloadN X0 hx (hb hby d11_0) rfl ?_
  refine Gk.iloadN X0 hx (hb hby d11_1) rfl ?_
  refine Gk.getS X0 hx hZ hown (host := "") (Or.inl (hw _ (List.mem_of_getElem? (i := 65) rfl))) Via.refl e0 S_SIOOBE_FORMATTER.sta (hb hby d11_2) ?_
  intro T1 X1 e1
  rcases ref_cases hsf with rfl | ⟨fa, rfl⟩
  · show Go p e below (T1.setTop (mkF m 5 #[.val (.int p1), .val (.int p2)] [.null, (.int p2), (.int p1)])) _
    refine Gk.callS (argsL := [(.int p1), (.int p2), .null]) X1 hx hZ hown (pc_n l Z a0 hw [] p1 p2 h0 n0 Z0 h0i h1i) (hw _ (List.mem_of_getElem? (i := 67) rfl)) (hw _ (List.mem_of_getElem? (i := 68) rfl)) (hw _ (List.mem_of_getElem? (i := 66) rfl)) (hw _ (List.mem_of_getElem? (i := 69) rfl)) (by decide) e1 pd_4 rfl rfl (by decide) (Nat.le_of_ble_eq_true rfl) (by decide) (by decide) (by rw [hml]; rfl)  rfl (hb hby d11_5) ?_
    intro T2 L2 v2 X2 hQ2
    obtain ⟨rfl, N2q, e2⟩ := hQ2
    have N2 := Fr.app N0 N2q
    show Go p e below (T2.setTop (mkF m 8 #[.val (.int p1), .val (.int p2)] [(.int p1)])) _
    refine Gk.pop X2 hx (hb hby d11_8) rfl ?_
    refine Go.fin X2 (v := none) (fun _ => rfl) Bd.notSynchronized (fun _ hr => X2.returnOut hx Bd.returns (hb hby d11_9) hr) (fun U' hU hF => ⟨_, _, rfl, ?_, hF.1, hF.2.1, hF.2.2.mono (by decide) (by decide)⟩)
    rw [hU, e2]
    exact ⟨rfl, N2, rfl⟩
  · show Go p e below (T1.setTop (mkF m 5 #[.val (.int p1), .val (.int p2)] [(.ref fa), (.int p2), (.int p1)])) _
    refine Gk.callS (argsL := [(.int p1), (.int p2), (.ref fa)]) X1 hx hZ hown (pc_r l Z a0 hw [] p1 p2 fa h0 n0 Z0 h0i h1i) (hw _ (List.mem_of_getElem? (i := 67) rfl)) (hw _ (List.mem_of_getElem? (i := 68) rfl)) (hw _ (List.mem_of_getElem? (i := 66) rfl)) (hw _ (List.mem_of_getElem? (i := 69) rfl)) (by decide) e1 pd_4 rfl rfl (by decide) (Nat.le_of_ble_eq_true rfl) (by decide) (by decide) (by rw [hml]; rfl)  rfl (hb hby d11_5) ?_
    intro T3 L3 v3 X3 hQ3
    obtain ⟨rfl, N3q, e3⟩ := hQ3
    have N3 := Fr.app N0 N3q
    show Go p e below (T3.setTop (mkF m 8 #[.val (.int p1), .val (.int p2)] [(.int p1)])) _
    refine Gk.pop X3 hx (hb hby d11_8) rfl ?_
    refine Go.fin X3 (v := none) (fun _ => rfl) Bd.notSynchronized (fun _ hr => X3.returnOut hx Bd.returns (hb hby d11_9) hr) (fun U' hU hF => ⟨_, _, rfl, ?_, hF.1, hF.2.1, hF.2.2.mono (by decide) (by decide)⟩)
    rw [hU, e3]
    exact ⟨rfl, N3, rfl⟩
theorem pd_5 : parseMethodDescriptor "(II)V" = some ⟨[.int, .int], none⟩ := by decide +kernel
theorem d10_0 : decode jdk_43_method_2_code 0 = .ok (.iload_n 1, 1) := by decide +kernel
theorem d10_1 : decode jdk_43_method_2_code 1 = .ok (.aload_n 0, 1) := by decide +kernel
theorem d10_2 : decode jdk_43_method_2_code 2 = .ok (.arraylength, 1) := by decide +kernel
theorem d10_3 : decode jdk_43_method_2_code 3 = .ok (.invokestatic 9, 3) := by decide +kernel
theorem d10_6 : decode jdk_43_method_2_code 6 = .ok (.aload_n 0, 1) := by decide +kernel
theorem d10_7 : decode jdk_43_method_2_code 7 = .ok (.iload_n 1, 1) := by decide +kernel
theorem d10_8 : decode jdk_43_method_2_code 8 = .ok (.baload, 1) := by decide +kernel
theorem d10_9 : decode jdk_43_method_2_code 9 = .ok (.sipush 255, 3) := by decide +kernel
theorem d10_12 : decode jdk_43_method_2_code 12 = .ok (.iand, 1) := by decide +kernel
theorem d10_13 : decode jdk_43_method_2_code 13 = .ok (.i2c, 1) := by decide +kernel
theorem d10_14 : decode jdk_43_method_2_code 14 = .ok (.ireturn, 1) := by decide +kernel
theorem pn_101 : plainName "java/lang/StringLatin1" = true := by first | (simp [plainName, overriddenIn]; done) | decide +kernel
theorem ef_rm10 (m : MethodId) (a1 : Addr) (p2 : Int32) : entryFrame m #[(.ref a1), (.int p2)] 2 = mkF m 0 #[.val (.ref a1), .val (.int p2)] [] := by first | (simp [entryFrame, mkF, argsToLocals, Value.category]; done) | rfl
def Q_rm10 (Z : State) (a1 : Addr) (p2 : Int32) (kb : ClassId) (f : Nat → Value) (n1 : Int32) (x : Int32) (w_SIOOBE_FORMATTER : Value) (h0 : Heap) (n0 : Nat) (v : Option Value) (h : Heap) (L : List Loc) : Prop := v = some (.int (nar .char ((x &&& (255 : Int32)).toUInt32.toUInt16.toUInt32.toInt32))) ∧ Fr n0 L ∧ h = h0
set_option maxRecDepth 65536 in
set_option maxHeartbeats 40000000 in
theorem rm10 (l : Launch) (Z : State) (a0 : Array Value) (hw : ∀ d ∈ tables_1, d.before a0 Z = true) (ws : List Jvm.Cond) (a1 : Addr) (p2 : Int32) (kb : ClassId) (f : Nat → Value) (n1 : Int32) (x : Int32) (w_SIOOBE_FORMATTER : Value) (h0 : Heap) (n0 : Nat) (Z0 : n0 ≤ h0.size) (S_SIOOBE_FORMATTER : Stx Z n0 h0 "jdk/internal/util/Preconditions" "SIOOBE_FORMATTER" "Ljava/util/function/BiFunction;" w_SIOOBE_FORMATTER) (V_b : Arf Z h0 a1 kb .byte n1 f) (h0i : ¬ (p2 < (0 : Int32))) (h1i : p2 < n1) (hv : f p2.toNatClampNeg = .int x) (hsf : w_SIOOBE_FORMATTER.isRef = true) :
    MetFree l (⟨"java/lang/StringLatin1", "charAt", "([BI)C"⟩ : MethodName) (head1 (Jvm.Cond.code (⟨"java/lang/StringLatin1", "charAt", "([BI)C"⟩ : MethodName) jdk_43_method_2_code 2 (some .char) :: ws) ({ frames := 2, cells := 0, slots := 0, locals := 27 } : Room)) (fun a U => a = #[(.ref a1), (.int p2)] ∧ Z.Warmed39 U.vm ∧ U.heap = h0) (fun _ _ _ _ _ => True) (fun _ U o U' => ∃ v L, o = .returned v ∧ Q_rm10 Z a1 p2 kb f n1 x w_SIOOBE_FORMATTER h0 n0 v U'.heap L ∧ FrameEnd U o U' L ({ frames := 2, cells := 0, slots := 0, locals := 27 } : Room).cells ({ frames := 2, cells := 0, slots := 0, locals := 27 } : Room).slots) := by
  refine MetFree.of_bodySF (plainFor_of_name pn_101) hisR ?_
  intro p e s m args below meth c s₁ Bd hml0 hP hK
  obtain ⟨rfl, hZ, hh⟩ := hP
  have hx := Bd.exec
  have hby := Bd.bytes
  have hml : c.maxLocals = 2 := hml0
  have hown : s.vm.findClass "java/lang/StringLatin1" = some m.cls := findClass_of_methodNamed Bd.named
  have hnm := (name_of_methodNamed Bd.named Bd.method).1
  have X0 : Stand p l e ({ frames := 2, cells := 0, slots := 0, locals := 27 } : Room) s m #[(.ref a1), (.int p2)] below meth c s₁ [] 0 0 := Stand.of_body Bd
  have e0 : s₁.heap = h0 := by rw [← hh, Bd.state]; rfl
  have N0 := Fr.nil n0
  show Go p e below (s₁.setTop (entryFrame m #[(.ref a1), (.int p2)] 2)) (fun o U' => ∃ v L, o = .returned v ∧ Q_rm10 Z a1 p2 kb f n1 x w_SIOOBE_FORMATTER h0 n0 v U'.heap L ∧ FrameEnd s o U' L ({ frames := 2, cells := 0, slots := 0, locals := 27 } : Room).cells ({ frames := 2, cells := 0, slots := 0, locals := 27 } : Room).slots)
  rw [ef_rm10]
  refine Gk.iloadN X0 hx (hb hby d10_0) rfl ?_
  refine Gk.aloadN X0 hx (hb hby d10_1) rfl rfl ?_
  refine Gk.alen X0 hx hZ e0 V_b (hb hby d10_2) ?_
  refine Gk.callS (argsL := [(.int p2), (.int n1)]) X0 hx hZ hown (rm11 l Z a0 hw [] p2 n1 w_SIOOBE_FORMATTER h0 n0 Z0 S_SIOOBE_FORMATTER h0i h1i hsf) (hw _ (List.mem_of_getElem? (i := 62) rfl)) (hw _ (List.mem_of_getElem? (i := 63) rfl)) (hw _ (List.mem_of_getElem? (i := 3) rfl)) (hw _ (List.mem_of_getElem? (i := 64) rfl)) (by decide) e0 pd_5 rfl rfl (by decide) (Nat.le_of_ble_eq_true rfl) (by decide) (by decide) (by rw [hml]; rfl)  rfl (hb hby d10_3) ?_
  intro T1 L1 v1 X1 hQ1
  obtain ⟨rfl, N1q, e1⟩ := hQ1
  have N1 := Fr.app N0 N1q
  show Go p e below (T1.setTop (mkF m 6 #[.val (.ref a1), .val (.int p2)] [])) _
  refine Gk.aloadN X1 hx (hb hby d10_6) rfl rfl ?_
  refine Gk.iloadN X1 hx (hb hby d10_7) rfl ?_
  refine Gk.baloadB X1 hx hZ e1 V_b ⟨h0i, h1i⟩ (.int x) hv (hb hby d10_8) ?_
  refine Gk.sipush X1 hx (hb hby d10_9) (255 : Int32) rfl ?_
  refine Gk.iand X1 hx (hb hby d10_12) _ rfl ?_
  refine Gk.i2c X1 hx (hb hby d10_13) _ rfl ?_
  refine Go.fin X1 (v := some (.int (nar .char ((x &&& (255 : Int32)).toUInt32.toUInt16.toUInt32.toInt32)))) (fun h_ => by rw [Bd.returns] at h_; cases h_) Bd.notSynchronized (fun _ hr => retN X1 hx (t := .char) Bd.returns (by simp) (hb hby d10_14) hr) (fun U' hU hF => ⟨_, _, rfl, ?_, hF.1, hF.2.1, hF.2.2.mono (by decide) (by decide)⟩)
  rw [hU, e1]
  exact ⟨(congrArg (fun z_ : Int32 => some (Value.int z_)) (show (nar .char ((x &&& (255 : Int32)).toUInt32.toUInt16.toUInt32.toInt32)) = (nar .char ((x &&& (255 : Int32)).toUInt32.toUInt16.toUInt32.toInt32)) from rfl)), N1, rfl⟩
theorem d9_0 : decode jdk_42_method_154_code 0 = .ok (.getstatic 38, 3) := by decide +kernel
theorem d9_3 : decode jdk_42_method_154_code 3 = .ok (.ifCond .eq 14, 3) := by decide +kernel
theorem d9_6 : decode jdk_42_method_154_code 6 = .ok (.aload_n 0, 1) := by decide +kernel
theorem d9_7 : decode jdk_42_method_154_code 7 = .ok (.getfield 15, 3) := by decide +kernel
theorem d9_10 : decode jdk_42_method_154_code 10 = .ok (.ifCond .ne 7, 3) := by decide +kernel
theorem d9_13 : decode jdk_42_method_154_code 13 = .ok (.iconst 1, 1) := by decide +kernel
theorem d9_14 : decode jdk_42_method_154_code 14 = .ok (.goto 4, 3) := by decide +kernel
theorem d9_18 : decode jdk_42_method_154_code 18 = .ok (.ireturn, 1) := by decide +kernel
theorem ef_rm9 (m : MethodId) (a1 : Addr) : entryFrame m #[(.ref a1)] 1 = mkF m 0 #[.val (.ref a1)] [] := by first | (simp [entryFrame, mkF, argsToLocals, Value.category]; done) | rfl
def Q_rm9 (Z : State) (a1 : Addr) (w_COMPACT_STRINGS : Int32) (h0 : Heap) (n0 : Nat) (v : Option Value) (h : Heap) (L : List Loc) : Prop := v = some (.int (1 : Int32)) ∧ Fr n0 L ∧ h = h0
set_option maxRecDepth 65536 in
set_option maxHeartbeats 40000000 in
theorem rm9 (l : Launch) (Z : State) (a0 : Array Value) (hw : ∀ d ∈ tables_1, d.before a0 Z = true) (ws : List Jvm.Cond) (a1 : Addr) (w_COMPACT_STRINGS : Int32) (h0 : Heap) (n0 : Nat) (Z0 : n0 ≤ h0.size) (S_COMPACT_STRINGS : Stx Z n0 h0 "java/lang/String" "COMPACT_STRINGS" "Z" (.int w_COMPACT_STRINGS)) (Fc1 : Fld Z h0 a1 "java/lang/String" "coder" "B" (.int (0 : Int32))) (hcs : ¬ (w_COMPACT_STRINGS = (0 : Int32))) :
    MetFree l (⟨"java/lang/String", "isLatin1", "()Z"⟩ : MethodName) (head1 (Jvm.Cond.code (⟨"java/lang/String", "isLatin1", "()Z"⟩ : MethodName) jdk_42_method_154_code 1 (some .boolean) :: ws) ({ frames := 0, cells := 0, slots := 0, locals := 0 } : Room)) (fun a U => a = #[(.ref a1)] ∧ Z.Warmed39 U.vm ∧ U.heap = h0) (fun _ _ _ _ _ => True) (fun _ U o U' => ∃ v L, o = .returned v ∧ Q_rm9 Z a1 w_COMPACT_STRINGS h0 n0 v U'.heap L ∧ FrameEnd U o U' L ({ frames := 0, cells := 0, slots := 0, locals := 0 } : Room).cells ({ frames := 0, cells := 0, slots := 0, locals := 0 } : Room).slots) := by
  refine MetFree.of_bodySF (plainFor_of_name pn_67) hisR ?_
  intro p e s m args below meth c s₁ Bd hml0 hP hK
  obtain ⟨rfl, hZ, hh⟩ := hP
  have hx := Bd.exec
  have hby := Bd.bytes
  have hml : c.maxLocals = 1 := hml0
  have hown : s.vm.findClass "java/lang/String" = some m.cls := findClass_of_methodNamed Bd.named
  have hnm := (name_of_methodNamed Bd.named Bd.method).1
  have X0 : Stand p l e ({ frames := 0, cells := 0, slots := 0, locals := 0 } : Room) s m #[(.ref a1)] below meth c s₁ [] 0 0 := Stand.of_body Bd
  have e0 : s₁.heap = h0 := by rw [← hh, Bd.state]; rfl
  have N0 := Fr.nil n0
  show Go p e below (s₁.setTop (entryFrame m #[(.ref a1)] 1)) (fun o U' => ∃ v L, o = .returned v ∧ Q_rm9 Z a1 w_COMPACT_STRINGS h0 n0 v U'.heap L ∧ FrameEnd s o U' L ({ frames := 0, cells := 0, slots := 0, locals := 0 } : Room).cells ({ frames := 0, cells := 0, slots := 0, locals := 0 } : Room).slots)
  rw [ef_rm9]
  refine Gk.getS X0 hx hZ hown (host := "") (Or.inl (hw _ (List.mem_of_getElem? (i := 33) rfl))) Via.refl e0 S_COMPACT_STRINGS.sta (hb hby d9_0) ?_
  intro T1 X1 e1
  have hc3 : ¬ (w_COMPACT_STRINGS = (0 : Int32)) := hcs
  refine Gk.ifNo X1 hx (hb hby d9_3) (feq hc3).1 ?_
  refine Gk.aloadN X1 hx (hb hby d9_6) rfl rfl ?_
  refine Gk.getF X1 hx hZ hown (host := "") (Or.inl (hw _ (List.mem_of_getElem? (i := 44) rfl))) Via.refl e1 Fc1 (hb hby d9_7) ?_
  intro T2 X2 e2
  refine Gk.ifNo X2 hx (hb hby d9_10) (teq (by decide : (0 : Int32) = (0 : Int32))).2 ?_
  refine Gk.iconst X2 hx (hb hby d9_13) (1 : Int32) rfl ?_
  refine Gk.goto X2 hx (hb hby d9_14) 18 (by decide) (by decide) ?_
  refine Go.fin X2 (v := some (.int (1 : Int32))) (fun h_ => by rw [Bd.returns] at h_; cases h_) Bd.notSynchronized (fun _ hr => retN X2 hx (t := .boolean) Bd.returns (by simp) (hb hby d9_18) hr) (fun U' hU hF => ⟨_, _, rfl, ?_, hF.1, hF.2.1, hF.2.2.mono (by decide) (by decide)⟩)
  rw [hU, e2]
  exact ⟨(congrArg (fun z_ : Int32 => some (Value.int z_)) (show (1 : Int32) = (1 : Int32) from rfl)), N0, rfl⟩
theorem pd_6 : parseMethodDescriptor "()Z" = some ⟨[], some .boolean⟩ := by decide +kernel
theorem pd_7 : parseMethodDescriptor "([BI)C" = some ⟨[(.array .byte), .int], some .char⟩ := by decide +kernel
theorem d8_0 : decode jdk_42_method_56_code 0 = .ok (.aload_n 0, 1) := by decide +kernel
theorem d8_1 : decode jdk_42_method_56_code 1 = .ok (.invokevirtual 492, 3) := by decide +kernel
theorem d8_4 : decode jdk_42_method_56_code 4 = .ok (.ifCond .eq 12, 3) := by decide +kernel
theorem d8_7 : decode jdk_42_method_56_code 7 = .ok (.aload_n 0, 1) := by decide +kernel
theorem d8_8 : decode jdk_42_method_56_code 8 = .ok (.getfield 9, 3) := by decide +kernel
theorem d8_11 : decode jdk_42_method_56_code 11 = .ok (.iload_n 1, 1) := by decide +kernel
theorem d8_12 : decode jdk_42_method_56_code 12 = .ok (.invokestatic 495, 3) := by decide +kernel
theorem d8_15 : decode jdk_42_method_56_code 15 = .ok (.ireturn, 1) := by decide +kernel
theorem ef_rm8 (m : MethodId) (a1 : Addr) (p2 : Int32) : entryFrame m #[(.ref a1), (.int p2)] 2 = mkF m 0 #[.val (.ref a1), .val (.int p2)] [] := by first | (simp [entryFrame, mkF, argsToLocals, Value.category]; done) | rfl
def Q_rm8 (Z : State) (a1 : Addr) (p2 : Int32) (b1 : Addr) (kb : ClassId) (f : Nat → Value) (n1 : Int32) (x : Int32) (w_COMPACT_STRINGS : Int32) (w_SIOOBE_FORMATTER : Value) (h0 : Heap) (n0 : Nat) (v : Option Value) (h : Heap) (L : List Loc) : Prop := v = some (.int (nar .char (nar .char ((x &&& (255 : Int32)).toUInt32.toUInt16.toUInt32.toInt32)))) ∧ Fr n0 L ∧ h = h0
set_option maxRecDepth 65536 in
set_option maxHeartbeats 40000000 in
theorem rm8 (l : Launch) (Z : State) (a0 : Array Value) (hw : ∀ d ∈ tables_1, d.before a0 Z = true) (ws : List Jvm.Cond) (a1 : Addr) (p2 : Int32) (b1 : Addr) (kb : ClassId) (f : Nat → Value) (n1 : Int32) (x : Int32) (w_COMPACT_STRINGS : Int32) (w_SIOOBE_FORMATTER : Value) (h0 : Heap) (n0 : Nat) (Z0 : n0 ≤ h0.size) (S_COMPACT_STRINGS : Stx Z n0 h0 "java/lang/String" "COMPACT_STRINGS" "Z" (.int w_COMPACT_STRINGS)) (S_SIOOBE_FORMATTER : Stx Z n0 h0 "jdk/internal/util/Preconditions" "SIOOBE_FORMATTER" "Ljava/util/function/BiFunction;" w_SIOOBE_FORMATTER) (E_a1 : Exa Z h0 a1 "java/lang/String") (Fc1 : Fld Z h0 a1 "java/lang/String" "coder" "B" (.int (0 : Int32))) (Fv1 : Fld Z h0 a1 "java/lang/String" "value" "[B" (.ref b1)) (V_b : Arf Z h0 b1 kb .byte n1 f) (h0i : ¬ (p2 < (0 : Int32))) (h1i : p2 < n1) (hv : f p2.toNatClampNeg = .int x) (hcs : ¬ (w_COMPACT_STRINGS = (0 : Int32))) (hsf : w_SIOOBE_FORMATTER.isRef = true) :
    MetFree l (⟨"java/lang/String", "charAt", "(I)C"⟩ : MethodName) (head1 (Jvm.Cond.code (⟨"java/lang/String", "charAt", "(I)C"⟩ : MethodName) jdk_42_method_56_code 2 (some .char) :: ws) ({ frames := 3, cells := 0, slots := 0, locals := 40 } : Room)) (fun a U => a = #[(.ref a1), (.int p2)] ∧ Z.Warmed39 U.vm ∧ U.heap = h0) (fun _ _ _ _ _ => True) (fun _ U o U' => ∃ v L, o = .returned v ∧ Q_rm8 Z a1 p2 b1 kb f n1 x w_COMPACT_STRINGS w_SIOOBE_FORMATTER h0 n0 v U'.heap L ∧ FrameEnd U o U' L ({ frames := 3, cells := 0, slots := 0, locals := 40 } : Room).cells ({ frames := 3, cells := 0, slots := 0, locals := 40 } : Room).slots) := by
  refine MetFree.of_bodySF (plainFor_of_name pn_67) hisR ?_
  intro p e s m args below meth c s₁ Bd hml0 hP hK
  obtain ⟨rfl, hZ, hh⟩ := hP
  have hx := Bd.exec
  have hby := Bd.bytes
  have hml : c.maxLocals = 2 := hml0
  have hown : s.vm.findClass "java/lang/String" = some m.cls := findClass_of_methodNamed Bd.named
  have hnm := (name_of_methodNamed Bd.named Bd.method).1
  have X0 : Stand p l e ({ frames := 3, cells := 0, slots := 0, locals := 40 } : Room) s m #[(.ref a1), (.int p2)] below meth c s₁ [] 0 0 := Stand.of_body Bd
  have e0 : s₁.heap = h0 := by rw [← hh, Bd.state]; rfl
  have N0 := Fr.nil n0
  show Go p e below (s₁.setTop (entryFrame m #[(.ref a1), (.int p2)] 2)) (fun o U' => ∃ v L, o = .returned v ∧ Q_rm8 Z a1 p2 b1 kb f n1 x w_COMPACT_STRINGS w_SIOOBE_FORMATTER h0 n0 v U'.heap L ∧ FrameEnd s o U' L ({ frames := 3, cells := 0, slots := 0, locals := 40 } : Room).cells ({ frames := 3, cells := 0, slots := 0, locals := 40 } : Room).slots)
  rw [ef_rm8]
  refine Gk.aloadN X0 hx (hb hby d8_0) rfl rfl ?_
  refine Gk.callV (argsL := []) X0 hx hZ hown (rm9 l Z a0 hw [] a1 w_COMPACT_STRINGS h0 n0 Z0 S_COMPACT_STRINGS Fc1 hcs) (hw _ (List.mem_of_getElem? (i := 53) rfl)) (hw _ (List.mem_of_getElem? (i := 54) rfl)) (notFace_of_selects (args := #[]) (mvT hZ (hw _ (List.mem_of_getElem? (i := 56) rfl)))) (hw _ (List.mem_of_getElem? (i := 56) rfl)) (hw _ (List.mem_of_getElem? (i := 55) rfl)) (by decide) (hw _ (List.mem_of_getElem? (i := 57) rfl)) (hw _ (List.mem_of_getElem? (i := 3) rfl)) e0 E_a1 pd_6 rfl rfl (by decide) (Nat.le_of_ble_eq_true rfl) (by decide) (by decide) (by rw [hml]; rfl)  rfl (hb hby d8_1) ?_
  intro T1 L1 v1 X1 hQ1
  obtain ⟨rfl, N1q, e1⟩ := hQ1
  have N1 := Fr.app N0 N1q
  show Go p e below (T1.setTop (mkF m 4 #[.val (.ref a1), .val (.int p2)] [(.int (1 : Int32))])) _
  refine Gk.ifNo X1 hx (hb hby d8_4) (feq (by decide : ¬ ((1 : Int32) = (0 : Int32)))).1 ?_
  refine Gk.aloadN X1 hx (hb hby d8_7) rfl rfl ?_
  refine Gk.getF X1 hx hZ hown (host := "") (Or.inl (hw _ (List.mem_of_getElem? (i := 45) rfl))) Via.refl e1 Fv1 (hb hby d8_8) ?_
  intro T2 X2 e2
  refine Gk.iloadN X2 hx (hb hby d8_11) rfl ?_
  refine Gk.callS (argsL := [(.ref b1), (.int p2)]) X2 hx hZ hown (rm10 l Z a0 hw [] b1 p2 kb f n1 x w_SIOOBE_FORMATTER h0 n0 Z0 S_SIOOBE_FORMATTER V_b h0i h1i hv hsf) (hw _ (List.mem_of_getElem? (i := 58) rfl)) (hw _ (List.mem_of_getElem? (i := 59) rfl)) (hw _ (List.mem_of_getElem? (i := 60) rfl)) (hw _ (List.mem_of_getElem? (i := 61) rfl)) (by decide) e2 pd_7 rfl rfl (by decide) (Nat.le_of_ble_eq_true rfl) (by decide) (by decide) (by rw [hml]; rfl)  rfl (hb hby d8_12) ?_
  intro T3 L3 v3 X3 hQ3
  obtain ⟨rfl, N3q, e3⟩ := hQ3
  have N3 := Fr.app N1 N3q
  show Go p e below (T3.setTop (mkF m 15 #[.val (.ref a1), .val (.int p2)] [(.int (nar .char ((x &&& (255 : Int32)).toUInt32.toUInt16.toUInt32.toInt32)))])) _
  refine Go.fin X3 (v := some (.int (nar .char (nar .char ((x &&& (255 : Int32)).toUInt32.toUInt16.toUInt32.toInt32))))) (fun h_ => by rw [Bd.returns] at h_; cases h_) Bd.notSynchronized (fun _ hr => retN X3 hx (t := .char) Bd.returns (by simp) (hb hby d8_15) hr) (fun U' hU hF => ⟨_, _, rfl, ?_, hF.1, hF.2.1, hF.2.2.mono (by decide) (by decide)⟩)
  rw [hU, e3]
  exact ⟨(congrArg (fun z_ : Int32 => some (Value.int z_)) (show (nar .char (nar .char ((x &&& (255 : Int32)).toUInt32.toUInt16.toUInt32.toInt32))) = (nar .char (nar .char ((x &&& (255 : Int32)).toUInt32.toUInt16.toUInt32.toInt32))) from rfl)), N3, rfl⟩
theorem d14_0 : decode jdk_43_method_13_code 0 = .ok (.aload_n 0, 1) := by decide +kernel
theorem d14_1 : decode jdk_43_method_13_code 1 = .ok (.arraylength, 1) := by decide +kernel
theorem d14_2 : decode jdk_43_method_13_code 2 = .ok (.aload_n 1, 1) := by decide +kernel
theorem d14_3 : decode jdk_43_method_13_code 3 = .ok (.arraylength, 1) := by decide +kernel
theorem d14_4 : decode jdk_43_method_13_code 4 = .ok (.if_icmp .ne 30, 3) := by decide +kernel
theorem d14_7 : decode jdk_43_method_13_code 7 = .ok (.iconst 0, 1) := by decide +kernel
theorem d14_8 : decode jdk_43_method_13_code 8 = .ok (.istore_n 2, 1) := by decide +kernel
theorem d14_9 : decode jdk_43_method_13_code 9 = .ok (.iload_n 2, 1) := by decide +kernel
theorem d14_10 : decode jdk_43_method_13_code 10 = .ok (.aload_n 0, 1) := by decide +kernel
theorem d14_11 : decode jdk_43_method_13_code 11 = .ok (.arraylength, 1) := by decide +kernel
theorem d14_12 : decode jdk_43_method_13_code 12 = .ok (.if_icmp .ge 20, 3) := by decide +kernel
theorem d14_15 : decode jdk_43_method_13_code 15 = .ok (.aload_n 0, 1) := by decide +kernel
theorem d14_16 : decode jdk_43_method_13_code 16 = .ok (.iload_n 2, 1) := by decide +kernel
theorem d14_17 : decode jdk_43_method_13_code 17 = .ok (.baload, 1) := by decide +kernel
theorem d14_18 : decode jdk_43_method_13_code 18 = .ok (.aload_n 1, 1) := by decide +kernel
theorem d14_19 : decode jdk_43_method_13_code 19 = .ok (.iload_n 2, 1) := by decide +kernel
theorem d14_20 : decode jdk_43_method_13_code 20 = .ok (.baload, 1) := by decide +kernel
theorem d14_21 : decode jdk_43_method_13_code 21 = .ok (.if_icmp .eq 5, 3) := by decide +kernel
theorem d14_24 : decode jdk_43_method_13_code 24 = .ok (.iconst 0, 1) := by decide +kernel
theorem d14_25 : decode jdk_43_method_13_code 25 = .ok (.ireturn, 1) := by decide +kernel
theorem d14_26 : decode jdk_43_method_13_code 26 = .ok (.iinc 2 1, 3) := by decide +kernel
theorem d14_29 : decode jdk_43_method_13_code 29 = .ok (.goto (-20), 3) := by decide +kernel
theorem d14_32 : decode jdk_43_method_13_code 32 = .ok (.iconst 1, 1) := by decide +kernel
theorem d14_33 : decode jdk_43_method_13_code 33 = .ok (.ireturn, 1) := by decide +kernel
theorem ef_le_e (m : MethodId) (a1 : Addr) (a2 : Addr) : entryFrame m #[(.ref a1), (.ref a2)] 3 = mkF m 0 #[.val (.ref a1), .val (.ref a2), .unset] [] := by first | (simp [entryFrame, mkF, argsToLocals, Value.category]; done) | rfl
def Q_le_e (Z : State) (a1 : Addr) (a2 : Addr) (k1 : ClassId) (f1 : Nat → Value) (x0 : Int32) (x1 : Int32) (x2 : Int32) (x3 : Int32) (x4 : Int32) (x5 : Int32) (x6 : Int32) (x7 : Int32) (x8 : Int32) (x9 : Int32) (x10 : Int32) (x11 : Int32) (x12 : Int32) (k2 : ClassId) (g1 : Nat → Value) (h0 : Heap) (n0 : Nat) (v : Option Value) (h : Heap) (L : List Loc) : Prop := v = some (.int (eq13 x0 x1 x2 x3 x4 x5 x6 x7 x8 x9 x10 x11 x12)) ∧ Fr n0 L ∧ h = h0
set_option maxRecDepth 65536 in
set_option maxHeartbeats 40000000 in
theorem le_e (l : Launch) (Z : State) (a0 : Array Value) (hw : ∀ d ∈ tables_1, d.before a0 Z = true) (ws : List Jvm.Cond) (a1 : Addr) (a2 : Addr) (k1 : ClassId) (f1 : Nat → Value) (x0 : Int32) (x1 : Int32) (x2 : Int32) (x3 : Int32) (x4 : Int32) (x5 : Int32) (x6 : Int32) (x7 : Int32) (x8 : Int32) (x9 : Int32) (x10 : Int32) (x11 : Int32) (x12 : Int32) (k2 : ClassId) (g1 : Nat → Value) (h0 : Heap) (n0 : Nat) (Z0 : n0 ≤ h0.size) (V1 : Arf Z h0 a1 k1 .byte (13 : Int32) f1) (V2 : Arf Z h0 a2 k2 .byte (13 : Int32) g1) (hx0 : f1 0 = .int x0) (hx1 : f1 1 = .int x1) (hx2 : f1 2 = .int x2) (hx3 : f1 3 = .int x3) (hx4 : f1 4 = .int x4) (hx5 : f1 5 = .int x5) (hx6 : f1 6 = .int x6) (hx7 : f1 7 = .int x7) (hx8 : f1 8 = .int x8) (hx9 : f1 9 = .int x9) (hx10 : f1 10 = .int x10) (hx11 : f1 11 = .int x11) (hx12 : f1 12 = .int x12) (hy0 : g1 0 = .int (78 : Int32)) (hy1 : g1 1 = .int (70 : Int32)) (hy2 : g1 2 = .int (83 : Int32)) (hy3 : g1 3 = .int (52 : Int32)) (hy4 : g1 4 = .int (69 : Int32)) (hy5 : g1 5 = .int (82 : Int32)) (hy6 : g1 6 = .int (82 : Int32)) (hy7 : g1 7 = .int (95 : Int32)) (hy8 : g1 8 = .int (73 : Int32)) (hy9 : g1 9 = .int (78 : Int32)) (hy10 : g1 10 = .int (86 : Int32)) (hy11 : g1 11 = .int (65 : Int32)) (hy12 : g1 12 = .int (76 : Int32)) :
    MetFree l (⟨"java/lang/StringLatin1", "equals", "([B[B)Z"⟩ : MethodName) (head1 (Jvm.Cond.code (⟨"java/lang/StringLatin1", "equals", "([B[B)Z"⟩ : MethodName) jdk_43_method_13_code 3 (some .boolean) :: ws) ({ frames := 0, cells := 0, slots := 0, locals := 0 } : Room)) (fun a U => a = #[(.ref a1), (.ref a2)] ∧ Z.Warmed39 U.vm ∧ U.heap = h0) (fun _ _ _ _ _ => True) (fun _ U o U' => ∃ v L, o = .returned v ∧ Q_le_e Z a1 a2 k1 f1 x0 x1 x2 x3 x4 x5 x6 x7 x8 x9 x10 x11 x12 k2 g1 h0 n0 v U'.heap L ∧ FrameEnd U o U' L ({ frames := 0, cells := 0, slots := 0, locals := 0 } : Room).cells ({ frames := 0, cells := 0, slots := 0, locals := 0 } : Room).slots) := by
  refine MetFree.of_bodySF (plainFor_of_name pn_101) hisR ?_
  intro p e s m args below meth c s₁ Bd hml0 hP hK
  obtain ⟨rfl, hZ, hh⟩ := hP
  have hx := Bd.exec
  have hby := Bd.bytes
  have hml : c.maxLocals = 3 := hml0
  have hown : s.vm.findClass "java/lang/StringLatin1" = some m.cls := findClass_of_methodNamed Bd.named
  have hnm := (name_of_methodNamed Bd.named Bd.method).1
  have X0 : Stand p l e ({ frames := 0, cells := 0, slots := 0, locals := 0 } : Room) s m #[(.ref a1), (.ref a2)] below meth c s₁ [] 0 0 := Stand.of_body Bd
  have e0 : s₁.heap = h0 := by rw [← hh, Bd.state]; rfl
  have N0 := Fr.nil n0
  show Go p e below (s₁.setTop (entryFrame m #[(.ref a1), (.ref a2)] 3)) (fun o U' => ∃ v L, o = .returned v ∧ Q_le_e Z a1 a2 k1 f1 x0 x1 x2 x3 x4 x5 x6 x7 x8 x9 x10 x11 x12 k2 g1 h0 n0 v U'.heap L ∧ FrameEnd s o U' L ({ frames := 0, cells := 0, slots := 0, locals := 0 } : Room).cells ({ frames := 0, cells := 0, slots := 0, locals := 0 } : Room).slots)
  rw [ef_le_e]
  refine Gk.aloadN X0 hx (hb hby d14_0) rfl rfl ?_
  refine Gk.alen X0 hx hZ e0 V1 (hb hby d14_1) ?_
  refine Gk.aloadN X0 hx (hb hby d14_2) rfl rfl ?_
  refine Gk.alen X0 hx hZ e0 V2 (hb hby d14_3) ?_
  refine Gk.icmpNo X0 hx (hb hby d14_4) (teq (by decide : (13 : Int32) = (13 : Int32))).2 ?_
  refine Gk.iconst X0 hx (hb hby d14_7) (0 : Int32) rfl ?_
  refine Gk.istoreN X0 hx (hb hby d14_8) #[.val (.ref a1), .val (.ref a2), .val (.int (0 : Int32))] rfl ?_
  refine Gk.iloadN X0 hx (hb hby d14_9) rfl ?_
  refine Gk.aloadN X0 hx (hb hby d14_10) rfl rfl ?_
  refine Gk.alen X0 hx hZ e0 V1 (hb hby d14_11) ?_
  refine Gk.icmpNo X0 hx (hb hby d14_12) (tlt (by decide : (0 : Int32) < (13 : Int32))).2.1 ?_
  refine Gk.aloadN X0 hx (hb hby d14_15) rfl rfl ?_
  refine Gk.iloadN X0 hx (hb hby d14_16) rfl ?_
  refine Gk.baloadB X0 hx hZ e0 V1 ⟨by decide, by decide⟩ (.int x0) hx0 (hb hby d14_17) ?_
  refine Gk.aloadN X0 hx (hb hby d14_18) rfl rfl ?_
  refine Gk.iloadN X0 hx (hb hby d14_19) rfl ?_
  refine Gk.baloadB X0 hx hZ e0 V2 ⟨by decide, by decide⟩ (.int (78 : Int32)) hy0 (hb hby d14_20) ?_
  by_cases hc21 : x0 = (78 : Int32)
  · refine Gk.icmpYes X0 hx (hb hby d14_21) (teq hc21).1 26 (by decide) (by decide) ?_
    refine Gk.iinc X0 hx (hb hby d14_26) rfl #[.val (.ref a1), .val (.ref a2), .val (.int (1 : Int32))] rfl ?_
    refine Gk.goto X0 hx (hb hby d14_29) 9 (by decide) (by decide) ?_
    refine Gk.iloadN X0 hx (hb hby d14_9) rfl ?_
    refine Gk.aloadN X0 hx (hb hby d14_10) rfl rfl ?_
    refine Gk.alen X0 hx hZ e0 V1 (hb hby d14_11) ?_
    refine Gk.icmpNo X0 hx (hb hby d14_12) (tlt (by decide : (1 : Int32) < (13 : Int32))).2.1 ?_
    refine Gk.aloadN X0 hx (hb hby d14_15) rfl rfl ?_
    refine Gk.iloadN X0 hx (hb hby d14_16) rfl ?_
    refine Gk.baloadB X0 hx hZ e0 V1 ⟨by decide, by decide⟩ (.int x1) hx1 (hb hby d14_17) ?_
    refine Gk.aloadN X0 hx (hb hby d14_18) rfl rfl ?_
    refine Gk.iloadN X0 hx (hb hby d14_19) rfl ?_
    refine Gk.baloadB X0 hx hZ e0 V2 ⟨by decide, by decide⟩ (.int (70 : Int32)) hy1 (hb hby d14_20) ?_
    by_cases hc21_1 : x1 = (70 : Int32)
    · refine Gk.icmpYes X0 hx (hb hby d14_21) (teq hc21_1).1 26 (by decide) (by decide) ?_
      refine Gk.iinc X0 hx (hb hby d14_26) rfl #[.val (.ref a1), .val (.ref a2), .val (.int (2 : Int32))] rfl ?_
      refine Gk.goto X0 hx (hb hby d14_29) 9 (by decide) (by decide) ?_
      refine Gk.iloadN X0 hx (hb hby d14_9) rfl ?_
      refine Gk.aloadN X0 hx (hb hby d14_10) rfl rfl ?_
      refine Gk.alen X0 hx hZ e0 V1 (hb hby d14_11) ?_
      refine Gk.icmpNo X0 hx (hb hby d14_12) (tlt (by decide : (2 : Int32) < (13 : Int32))).2.1 ?_
      refine Gk.aloadN X0 hx (hb hby d14_15) rfl rfl ?_
      refine Gk.iloadN X0 hx (hb hby d14_16) rfl ?_
      refine Gk.baloadB X0 hx hZ e0 V1 ⟨by decide, by decide⟩ (.int x2) hx2 (hb hby d14_17) ?_
      refine Gk.aloadN X0 hx (hb hby d14_18) rfl rfl ?_
      refine Gk.iloadN X0 hx (hb hby d14_19) rfl ?_
      refine Gk.baloadB X0 hx hZ e0 V2 ⟨by decide, by decide⟩ (.int (83 : Int32)) hy2 (hb hby d14_20) ?_
      by_cases hc21_2 : x2 = (83 : Int32)
      · refine Gk.icmpYes X0 hx (hb hby d14_21) (teq hc21_2).1 26 (by decide) (by decide) ?_
        refine Gk.iinc X0 hx (hb hby d14_26) rfl #[.val (.ref a1), .val (.ref a2), .val (.int (3 : Int32))] rfl ?_
        refine Gk.goto X0 hx (hb hby d14_29) 9 (by decide) (by decide) ?_
        refine Gk.iloadN X0 hx (hb hby d14_9) rfl ?_
        refine Gk.aloadN X0 hx (hb hby d14_10) rfl rfl ?_
        refine Gk.alen X0 hx hZ e0 V1 (hb hby d14_11) ?_
        refine Gk.icmpNo X0 hx (hb hby d14_12) (tlt (by decide : (3 : Int32) < (13 : Int32))).2.1 ?_
        refine Gk.aloadN X0 hx (hb hby d14_15) rfl rfl ?_
        refine Gk.iloadN X0 hx (hb hby d14_16) rfl ?_
        refine Gk.baloadB X0 hx hZ e0 V1 ⟨by decide, by decide⟩ (.int x3) hx3 (hb hby d14_17) ?_
        refine Gk.aloadN X0 hx (hb hby d14_18) rfl rfl ?_
        refine Gk.iloadN X0 hx (hb hby d14_19) rfl ?_
        refine Gk.baloadB X0 hx hZ e0 V2 ⟨by decide, by decide⟩ (.int (52 : Int32)) hy3 (hb hby d14_20) ?_
        by_cases hc21_3 : x3 = (52 : Int32)
        · refine Gk.icmpYes X0 hx (hb hby d14_21) (teq hc21_3).1 26 (by decide) (by decide) ?_
          refine Gk.iinc X0 hx (hb hby d14_26) rfl #[.val (.ref a1), .val (.ref a2), .val (.int (4 : Int32))] rfl ?_
          refine Gk.goto X0 hx (hb hby d14_29) 9 (by decide) (by decide) ?_
          refine Gk.iloadN X0 hx (hb hby d14_9) rfl ?_
          refine Gk.aloadN X0 hx (hb hby d14_10) rfl rfl ?_
          refine Gk.alen X0 hx hZ e0 V1 (hb hby d14_11) ?_
          refine Gk.icmpNo X0 hx (hb hby d14_12) (tlt (by decide : (4 : Int32) < (13 : Int32))).2.1 ?_
          refine Gk.aloadN X0 hx (hb hby d14_15) rfl rfl ?_
          refine Gk.iloadN X0 hx (hb hby d14_16) rfl ?_
          refine Gk.baloadB X0 hx hZ e0 V1 ⟨by decide, by decide⟩ (.int x4) hx4 (hb hby d14_17) ?_
          refine Gk.aloadN X0 hx (hb hby d14_18) rfl rfl ?_
          refine Gk.iloadN X0 hx (hb hby d14_19) rfl ?_
          refine Gk.baloadB X0 hx hZ e0 V2 ⟨by decide, by decide⟩ (.int (69 : Int32)) hy4 (hb hby d14_20) ?_
          by_cases hc21_4 : x4 = (69 : Int32)
          · refine Gk.icmpYes X0 hx (hb hby d14_21) (teq hc21_4).1 26 (by decide) (by decide) ?_
            refine Gk.iinc X0 hx (hb hby d14_26) rfl #[.val (.ref a1), .val (.ref a2), .val (.int (5 : Int32))] rfl ?_
            refine Gk.goto X0 hx (hb hby d14_29) 9 (by decide) (by decide) ?_
            refine Gk.iloadN X0 hx (hb hby d14_9) rfl ?_
            refine Gk.aloadN X0 hx (hb hby d14_10) rfl rfl ?_
            refine Gk.alen X0 hx hZ e0 V1 (hb hby d14_11) ?_
            refine Gk.icmpNo X0 hx (hb hby d14_12) (tlt (by decide : (5 : Int32) < (13 : Int32))).2.1 ?_
            refine Gk.aloadN X0 hx (hb hby d14_15) rfl rfl ?_
            refine Gk.iloadN X0 hx (hb hby d14_16) rfl ?_
            refine Gk.baloadB X0 hx hZ e0 V1 ⟨by decide, by decide⟩ (.int x5) hx5 (hb hby d14_17) ?_
            refine Gk.aloadN X0 hx (hb hby d14_18) rfl rfl ?_
            refine Gk.iloadN X0 hx (hb hby d14_19) rfl ?_
            refine Gk.baloadB X0 hx hZ e0 V2 ⟨by decide, by decide⟩ (.int (82 : Int32)) hy5 (hb hby d14_20) ?_
            by_cases hc21_5 : x5 = (82 : Int32)
            · refine Gk.icmpYes X0 hx (hb hby d14_21) (teq hc21_5).1 26 (by decide) (by decide) ?_
              refine Gk.iinc X0 hx (hb hby d14_26) rfl #[.val (.ref a1), .val (.ref a2), .val (.int (6 : Int32))] rfl ?_
              refine Gk.goto X0 hx (hb hby d14_29) 9 (by decide) (by decide) ?_
              refine Gk.iloadN X0 hx (hb hby d14_9) rfl ?_
              refine Gk.aloadN X0 hx (hb hby d14_10) rfl rfl ?_
              refine Gk.alen X0 hx hZ e0 V1 (hb hby d14_11) ?_
              refine Gk.icmpNo X0 hx (hb hby d14_12) (tlt (by decide : (6 : Int32) < (13 : Int32))).2.1 ?_
              refine Gk.aloadN X0 hx (hb hby d14_15) rfl rfl ?_
              refine Gk.iloadN X0 hx (hb hby d14_16) rfl ?_
              refine Gk.baloadB X0 hx hZ e0 V1 ⟨by decide, by decide⟩ (.int x6) hx6 (hb hby d14_17) ?_
              refine Gk.aloadN X0 hx (hb hby d14_18) rfl rfl ?_
              refine Gk.iloadN X0 hx (hb hby d14_19) rfl ?_
              refine Gk.baloadB X0 hx hZ e0 V2 ⟨by decide, by decide⟩ (.int (82 : Int32)) hy6 (hb hby d14_20) ?_
              by_cases hc21_6 : x6 = (82 : Int32)
              · refine Gk.icmpYes X0 hx (hb hby d14_21) (teq hc21_6).1 26 (by decide) (by decide) ?_
                refine Gk.iinc X0 hx (hb hby d14_26) rfl #[.val (.ref a1), .val (.ref a2), .val (.int (7 : Int32))] rfl ?_
                refine Gk.goto X0 hx (hb hby d14_29) 9 (by decide) (by decide) ?_
                refine Gk.iloadN X0 hx (hb hby d14_9) rfl ?_
                refine Gk.aloadN X0 hx (hb hby d14_10) rfl rfl ?_
                refine Gk.alen X0 hx hZ e0 V1 (hb hby d14_11) ?_
                refine Gk.icmpNo X0 hx (hb hby d14_12) (tlt (by decide : (7 : Int32) < (13 : Int32))).2.1 ?_
                refine Gk.aloadN X0 hx (hb hby d14_15) rfl rfl ?_
                refine Gk.iloadN X0 hx (hb hby d14_16) rfl ?_
                refine Gk.baloadB X0 hx hZ e0 V1 ⟨by decide, by decide⟩ (.int x7) hx7 (hb hby d14_17) ?_
                refine Gk.aloadN X0 hx (hb hby d14_18) rfl rfl ?_
                refine Gk.iloadN X0 hx (hb hby d14_19) rfl ?_
                refine Gk.baloadB X0 hx hZ e0 V2 ⟨by decide, by decide⟩ (.int (95 : Int32)) hy7 (hb hby d14_20) ?_
                by_cases hc21_7 : x7 = (95 : Int32)
                · refine Gk.icmpYes X0 hx (hb hby d14_21) (teq hc21_7).1 26 (by decide) (by decide) ?_
                  refine Gk.iinc X0 hx (hb hby d14_26) rfl #[.val (.ref a1), .val (.ref a2), .val (.int (8 : Int32))] rfl ?_
                  refine Gk.goto X0 hx (hb hby d14_29) 9 (by decide) (by decide) ?_
                  refine Gk.iloadN X0 hx (hb hby d14_9) rfl ?_
                  refine Gk.aloadN X0 hx (hb hby d14_10) rfl rfl ?_
                  refine Gk.alen X0 hx hZ e0 V1 (hb hby d14_11) ?_
                  refine Gk.icmpNo X0 hx (hb hby d14_12) (tlt (by decide : (8 : Int32) < (13 : Int32))).2.1 ?_
                  refine Gk.aloadN X0 hx (hb hby d14_15) rfl rfl ?_
                  refine Gk.iloadN X0 hx (hb hby d14_16) rfl ?_
                  refine Gk.baloadB X0 hx hZ e0 V1 ⟨by decide, by decide⟩ (.int x8) hx8 (hb hby d14_17) ?_
                  refine Gk.aloadN X0 hx (hb hby d14_18) rfl rfl ?_
                  refine Gk.iloadN X0 hx (hb hby d14_19) rfl ?_
                  refine Gk.baloadB X0 hx hZ e0 V2 ⟨by decide, by decide⟩ (.int (73 : Int32)) hy8 (hb hby d14_20) ?_
                  by_cases hc21_8 : x8 = (73 : Int32)
                  · refine Gk.icmpYes X0 hx (hb hby d14_21) (teq hc21_8).1 26 (by decide) (by decide) ?_
                    refine Gk.iinc X0 hx (hb hby d14_26) rfl #[.val (.ref a1), .val (.ref a2), .val (.int (9 : Int32))] rfl ?_
                    refine Gk.goto X0 hx (hb hby d14_29) 9 (by decide) (by decide) ?_
                    refine Gk.iloadN X0 hx (hb hby d14_9) rfl ?_
                    refine Gk.aloadN X0 hx (hb hby d14_10) rfl rfl ?_
                    refine Gk.alen X0 hx hZ e0 V1 (hb hby d14_11) ?_
                    refine Gk.icmpNo X0 hx (hb hby d14_12) (tlt (by decide : (9 : Int32) < (13 : Int32))).2.1 ?_
                    refine Gk.aloadN X0 hx (hb hby d14_15) rfl rfl ?_
                    refine Gk.iloadN X0 hx (hb hby d14_16) rfl ?_
                    refine Gk.baloadB X0 hx hZ e0 V1 ⟨by decide, by decide⟩ (.int x9) hx9 (hb hby d14_17) ?_
                    refine Gk.aloadN X0 hx (hb hby d14_18) rfl rfl ?_
                    refine Gk.iloadN X0 hx (hb hby d14_19) rfl ?_
                    refine Gk.baloadB X0 hx hZ e0 V2 ⟨by decide, by decide⟩ (.int (78 : Int32)) hy9 (hb hby d14_20) ?_
                    by_cases hc21_9 : x9 = (78 : Int32)
                    · refine Gk.icmpYes X0 hx (hb hby d14_21) (teq hc21_9).1 26 (by decide) (by decide) ?_
                      refine Gk.iinc X0 hx (hb hby d14_26) rfl #[.val (.ref a1), .val (.ref a2), .val (.int (10 : Int32))] rfl ?_
                      refine Gk.goto X0 hx (hb hby d14_29) 9 (by decide) (by decide) ?_
                      refine Gk.iloadN X0 hx (hb hby d14_9) rfl ?_
                      refine Gk.aloadN X0 hx (hb hby d14_10) rfl rfl ?_
                      refine Gk.alen X0 hx hZ e0 V1 (hb hby d14_11) ?_
                      refine Gk.icmpNo X0 hx (hb hby d14_12) (tlt (by decide : (10 : Int32) < (13 : Int32))).2.1 ?_
                      refine Gk.aloadN X0 hx (hb hby d14_15) rfl rfl ?_
                      refine Gk.iloadN X0 hx (hb hby d14_16) rfl ?_
                      refine Gk.baloadB X0 hx hZ e0 V1 ⟨by decide, by decide⟩ (.int x10) hx10 (hb hby d14_17) ?_
                      refine Gk.aloadN X0 hx (hb hby d14_18) rfl rfl ?_
                      refine Gk.iloadN X0 hx (hb hby d14_19) rfl ?_
                      refine Gk.baloadB X0 hx hZ e0 V2 ⟨by decide, by decide⟩ (.int (86 : Int32)) hy10 (hb hby d14_20) ?_
                      by_cases hc21_10 : x10 = (86 : Int32)
                      · refine Gk.icmpYes X0 hx (hb hby d14_21) (teq hc21_10).1 26 (by decide) (by decide) ?_
                        refine Gk.iinc X0 hx (hb hby d14_26) rfl #[.val (.ref a1), .val (.ref a2), .val (.int (11 : Int32))] rfl ?_
                        refine Gk.goto X0 hx (hb hby d14_29) 9 (by decide) (by decide) ?_
                        refine Gk.iloadN X0 hx (hb hby d14_9) rfl ?_
                        refine Gk.aloadN X0 hx (hb hby d14_10) rfl rfl ?_
                        refine Gk.alen X0 hx hZ e0 V1 (hb hby d14_11) ?_
                        refine Gk.icmpNo X0 hx (hb hby d14_12) (tlt (by decide : (11 : Int32) < (13 : Int32))).2.1 ?_
                        refine Gk.aloadN X0 hx (hb hby d14_15) rfl rfl ?_
                        refine Gk.iloadN X0 hx (hb hby d14_16) rfl ?_
                        refine Gk.baloadB X0 hx hZ e0 V1 ⟨by decide, by decide⟩ (.int x11) hx11 (hb hby d14_17) ?_
                        refine Gk.aloadN X0 hx (hb hby d14_18) rfl rfl ?_
                        refine Gk.iloadN X0 hx (hb hby d14_19) rfl ?_
                        refine Gk.baloadB X0 hx hZ e0 V2 ⟨by decide, by decide⟩ (.int (65 : Int32)) hy11 (hb hby d14_20) ?_
                        by_cases hc21_11 : x11 = (65 : Int32)
                        · refine Gk.icmpYes X0 hx (hb hby d14_21) (teq hc21_11).1 26 (by decide) (by decide) ?_
                          refine Gk.iinc X0 hx (hb hby d14_26) rfl #[.val (.ref a1), .val (.ref a2), .val (.int (12 : Int32))] rfl ?_
                          refine Gk.goto X0 hx (hb hby d14_29) 9 (by decide) (by decide) ?_
                          refine Gk.iloadN X0 hx (hb hby d14_9) rfl ?_
                          refine Gk.aloadN X0 hx (hb hby d14_10) rfl rfl ?_
                          refine Gk.alen X0 hx hZ e0 V1 (hb hby d14_11) ?_
                          refine Gk.icmpNo X0 hx (hb hby d14_12) (tlt (by decide : (12 : Int32) < (13 : Int32))).2.1 ?_
                          refine Gk.aloadN X0 hx (hb hby d14_15) rfl rfl ?_
                          refine Gk.iloadN X0 hx (hb hby d14_16) rfl ?_
                          refine Gk.baloadB X0 hx hZ e0 V1 ⟨by decide, by decide⟩ (.int x12) hx12 (hb hby d14_17) ?_
                          refine Gk.aloadN X0 hx (hb hby d14_18) rfl rfl ?_
                          refine Gk.iloadN X0 hx (hb hby d14_19) rfl ?_
                          refine Gk.baloadB X0 hx hZ e0 V2 ⟨by decide, by decide⟩ (.int (76 : Int32)) hy12 (hb hby d14_20) ?_
                          by_cases hc21_12 : x12 = (76 : Int32)
                          · refine Gk.icmpYes X0 hx (hb hby d14_21) (teq hc21_12).1 26 (by decide) (by decide) ?_
                            refine Gk.iinc X0 hx (hb hby d14_26) rfl #[.val (.ref a1), .val (.ref a2), .val (.int (13 : Int32))] rfl ?_
                            refine Gk.goto X0 hx (hb hby d14_29) 9 (by decide) (by decide) ?_
                            refine Gk.iloadN X0 hx (hb hby d14_9) rfl ?_
                            refine Gk.aloadN X0 hx (hb hby d14_10) rfl rfl ?_
                            refine Gk.alen X0 hx hZ e0 V1 (hb hby d14_11) ?_
                            refine Gk.icmpYes X0 hx (hb hby d14_12) (flt (by decide : ¬ ((13 : Int32) < (13 : Int32)))).2.1 32 (by decide) (by decide) ?_
                            refine Gk.iconst X0 hx (hb hby d14_32) (1 : Int32) rfl ?_
                            refine Go.fin X0 (v := some (.int (1 : Int32))) (fun h_ => by rw [Bd.returns] at h_; cases h_) Bd.notSynchronized (fun _ hr => retN X0 hx (t := .boolean) Bd.returns (by simp) (hb hby d14_33) hr) (fun U' hU hF => ⟨_, _, rfl, ?_, hF.1, hF.2.1, hF.2.2.mono (by decide) (by decide)⟩)
                            rw [hU, e0]
                            exact ⟨(congrArg (fun z_ : Int32 => some (Value.int z_)) (show (1 : Int32) = (eq13 x0 x1 x2 x3 x4 x5 x6 x7 x8 x9 x10 x11 x12) from (by simp [eq13, hc21, hc21_1, hc21_2, hc21_3, hc21_4, hc21_5, hc21_6, hc21_7, hc21_8, hc21_9, hc21_10, hc21_11, hc21_12]))), N0, rfl⟩
                          · refine Gk.icmpNo X0 hx (hb hby d14_21) (feq hc21_12).1 ?_
                            refine Gk.iconst X0 hx (hb hby d14_24) (0 : Int32) rfl ?_
                            refine Go.fin X0 (v := some (.int (0 : Int32))) (fun h_ => by rw [Bd.returns] at h_; cases h_) Bd.notSynchronized (fun _ hr => retN X0 hx (t := .boolean) Bd.returns (by simp) (hb hby d14_25) hr) (fun U' hU hF => ⟨_, _, rfl, ?_, hF.1, hF.2.1, hF.2.2.mono (by decide) (by decide)⟩)
                            rw [hU, e0]
                            exact ⟨(congrArg (fun z_ : Int32 => some (Value.int z_)) (show (0 : Int32) = (eq13 x0 x1 x2 x3 x4 x5 x6 x7 x8 x9 x10 x11 x12) from (by simp [eq13, hc21, hc21_1, hc21_2, hc21_3, hc21_4, hc21_5, hc21_6, hc21_7, hc21_8, hc21_9, hc21_10, hc21_11, hc21_12]))), N0, rfl⟩
                        · refine Gk.icmpNo X0 hx (hb hby d14_21) (feq hc21_11).1 ?_
                          refine Gk.iconst X0 hx (hb hby d14_24) (0 : Int32) rfl ?_
                          refine Go.fin X0 (v := some (.int (0 : Int32))) (fun h_ => by rw [Bd.returns] at h_; cases h_) Bd.notSynchronized (fun _ hr => retN X0 hx (t := .boolean) Bd.returns (by simp) (hb hby d14_25) hr) (fun U' hU hF => ⟨_, _, rfl, ?_, hF.1, hF.2.1, hF.2.2.mono (by decide) (by decide)⟩)
                          rw [hU, e0]
                          exact ⟨(congrArg (fun z_ : Int32 => some (Value.int z_)) (show (0 : Int32) = (eq13 x0 x1 x2 x3 x4 x5 x6 x7 x8 x9 x10 x11 x12) from (by simp [eq13, hc21, hc21_1, hc21_2, hc21_3, hc21_4, hc21_5, hc21_6, hc21_7, hc21_8, hc21_9, hc21_10, hc21_11]))), N0, rfl⟩
                      · refine Gk.icmpNo X0 hx (hb hby d14_21) (feq hc21_10).1 ?_
                        refine Gk.iconst X0 hx (hb hby d14_24) (0 : Int32) rfl ?_
                        refine Go.fin X0 (v := some (.int (0 : Int32))) (fun h_ => by rw [Bd.returns] at h_; cases h_) Bd.notSynchronized (fun _ hr => retN X0 hx (t := .boolean) Bd.returns (by simp) (hb hby d14_25) hr) (fun U' hU hF => ⟨_, _, rfl, ?_, hF.1, hF.2.1, hF.2.2.mono (by decide) (by decide)⟩)
                        rw [hU, e0]
                        exact ⟨(congrArg (fun z_ : Int32 => some (Value.int z_)) (show (0 : Int32) = (eq13 x0 x1 x2 x3 x4 x5 x6 x7 x8 x9 x10 x11 x12) from (by simp [eq13, hc21, hc21_1, hc21_2, hc21_3, hc21_4, hc21_5, hc21_6, hc21_7, hc21_8, hc21_9, hc21_10]))), N0, rfl⟩
                    · refine Gk.icmpNo X0 hx (hb hby d14_21) (feq hc21_9).1 ?_
                      refine Gk.iconst X0 hx (hb hby d14_24) (0 : Int32) rfl ?_
                      refine Go.fin X0 (v := some (.int (0 : Int32))) (fun h_ => by rw [Bd.returns] at h_; cases h_) Bd.notSynchronized (fun _ hr => retN X0 hx (t := .boolean) Bd.returns (by simp) (hb hby d14_25) hr) (fun U' hU hF => ⟨_, _, rfl, ?_, hF.1, hF.2.1, hF.2.2.mono (by decide) (by decide)⟩)
                      rw [hU, e0]
                      exact ⟨(congrArg (fun z_ : Int32 => some (Value.int z_)) (show (0 : Int32) = (eq13 x0 x1 x2 x3 x4 x5 x6 x7 x8 x9 x10 x11 x12) from (by simp [eq13, hc21, hc21_1, hc21_2, hc21_3, hc21_4, hc21_5, hc21_6, hc21_7, hc21_8, hc21_9]))), N0, rfl⟩
                  · refine Gk.icmpNo X0 hx (hb hby d14_21) (feq hc21_8).1 ?_
                    refine Gk.iconst X0 hx (hb hby d14_24) (0 : Int32) rfl ?_
                    refine Go.fin X0 (v := some (.int (0 : Int32))) (fun h_ => by rw [Bd.returns] at h_; cases h_) Bd.notSynchronized (fun _ hr => retN X0 hx (t := .boolean) Bd.returns (by simp) (hb hby d14_25) hr) (fun U' hU hF => ⟨_, _, rfl, ?_, hF.1, hF.2.1, hF.2.2.mono (by decide) (by decide)⟩)
                    rw [hU, e0]
                    exact ⟨(congrArg (fun z_ : Int32 => some (Value.int z_)) (show (0 : Int32) = (eq13 x0 x1 x2 x3 x4 x5 x6 x7 x8 x9 x10 x11 x12) from (by simp [eq13, hc21, hc21_1, hc21_2, hc21_3, hc21_4, hc21_5, hc21_6, hc21_7, hc21_8]))), N0, rfl⟩
                · refine Gk.icmpNo X0 hx (hb hby d14_21) (feq hc21_7).1 ?_
                  refine Gk.iconst X0 hx (hb hby d14_24) (0 : Int32) rfl ?_
                  refine Go.fin X0 (v := some (.int (0 : Int32))) (fun h_ => by rw [Bd.returns] at h_; cases h_) Bd.notSynchronized (fun _ hr => retN X0 hx (t := .boolean) Bd.returns (by simp) (hb hby d14_25) hr) (fun U' hU hF => ⟨_, _, rfl, ?_, hF.1, hF.2.1, hF.2.2.mono (by decide) (by decide)⟩)
                  rw [hU, e0]
                  exact ⟨(congrArg (fun z_ : Int32 => some (Value.int z_)) (show (0 : Int32) = (eq13 x0 x1 x2 x3 x4 x5 x6 x7 x8 x9 x10 x11 x12) from (by simp [eq13, hc21, hc21_1, hc21_2, hc21_3, hc21_4, hc21_5, hc21_6, hc21_7]))), N0, rfl⟩
              · refine Gk.icmpNo X0 hx (hb hby d14_21) (feq hc21_6).1 ?_
                refine Gk.iconst X0 hx (hb hby d14_24) (0 : Int32) rfl ?_
                refine Go.fin X0 (v := some (.int (0 : Int32))) (fun h_ => by rw [Bd.returns] at h_; cases h_) Bd.notSynchronized (fun _ hr => retN X0 hx (t := .boolean) Bd.returns (by simp) (hb hby d14_25) hr) (fun U' hU hF => ⟨_, _, rfl, ?_, hF.1, hF.2.1, hF.2.2.mono (by decide) (by decide)⟩)
                rw [hU, e0]
                exact ⟨(congrArg (fun z_ : Int32 => some (Value.int z_)) (show (0 : Int32) = (eq13 x0 x1 x2 x3 x4 x5 x6 x7 x8 x9 x10 x11 x12) from (by simp [eq13, hc21, hc21_1, hc21_2, hc21_3, hc21_4, hc21_5, hc21_6]))), N0, rfl⟩
            · refine Gk.icmpNo X0 hx (hb hby d14_21) (feq hc21_5).1 ?_
              refine Gk.iconst X0 hx (hb hby d14_24) (0 : Int32) rfl ?_
              refine Go.fin X0 (v := some (.int (0 : Int32))) (fun h_ => by rw [Bd.returns] at h_; cases h_) Bd.notSynchronized (fun _ hr => retN X0 hx (t := .boolean) Bd.returns (by simp) (hb hby d14_25) hr) (fun U' hU hF => ⟨_, _, rfl, ?_, hF.1, hF.2.1, hF.2.2.mono (by decide) (by decide)⟩)
              rw [hU, e0]
              exact ⟨(congrArg (fun z_ : Int32 => some (Value.int z_)) (show (0 : Int32) = (eq13 x0 x1 x2 x3 x4 x5 x6 x7 x8 x9 x10 x11 x12) from (by simp [eq13, hc21, hc21_1, hc21_2, hc21_3, hc21_4, hc21_5]))), N0, rfl⟩
          · refine Gk.icmpNo X0 hx (hb hby d14_21) (feq hc21_4).1 ?_
            refine Gk.iconst X0 hx (hb hby d14_24) (0 : Int32) rfl ?_
            refine Go.fin X0 (v := some (.int (0 : Int32))) (fun h_ => by rw [Bd.returns] at h_; cases h_) Bd.notSynchronized (fun _ hr => retN X0 hx (t := .boolean) Bd.returns (by simp) (hb hby d14_25) hr) (fun U' hU hF => ⟨_, _, rfl, ?_, hF.1, hF.2.1, hF.2.2.mono (by decide) (by decide)⟩)
            rw [hU, e0]
            exact ⟨(congrArg (fun z_ : Int32 => some (Value.int z_)) (show (0 : Int32) = (eq13 x0 x1 x2 x3 x4 x5 x6 x7 x8 x9 x10 x11 x12) from (by simp [eq13, hc21, hc21_1, hc21_2, hc21_3, hc21_4]))), N0, rfl⟩
        · refine Gk.icmpNo X0 hx (hb hby d14_21) (feq hc21_3).1 ?_
          refine Gk.iconst X0 hx (hb hby d14_24) (0 : Int32) rfl ?_
          refine Go.fin X0 (v := some (.int (0 : Int32))) (fun h_ => by rw [Bd.returns] at h_; cases h_) Bd.notSynchronized (fun _ hr => retN X0 hx (t := .boolean) Bd.returns (by simp) (hb hby d14_25) hr) (fun U' hU hF => ⟨_, _, rfl, ?_, hF.1, hF.2.1, hF.2.2.mono (by decide) (by decide)⟩)
          rw [hU, e0]
          exact ⟨(congrArg (fun z_ : Int32 => some (Value.int z_)) (show (0 : Int32) = (eq13 x0 x1 x2 x3 x4 x5 x6 x7 x8 x9 x10 x11 x12) from (by simp [eq13, hc21, hc21_1, hc21_2, hc21_3]))), N0, rfl⟩
      · refine Gk.icmpNo X0 hx (hb hby d14_21) (feq hc21_2).1 ?_
        refine Gk.iconst X0 hx (hb hby d14_24) (0 : Int32) rfl ?_
        refine Go.fin X0 (v := some (.int (0 : Int32))) (fun h_ => by rw [Bd.returns] at h_; cases h_) Bd.notSynchronized (fun _ hr => retN X0 hx (t := .boolean) Bd.returns (by simp) (hb hby d14_25) hr) (fun U' hU hF => ⟨_, _, rfl, ?_, hF.1, hF.2.1, hF.2.2.mono (by decide) (by decide)⟩)
        rw [hU, e0]
        exact ⟨(congrArg (fun z_ : Int32 => some (Value.int z_)) (show (0 : Int32) = (eq13 x0 x1 x2 x3 x4 x5 x6 x7 x8 x9 x10 x11 x12) from (by simp [eq13, hc21, hc21_1, hc21_2]))), N0, rfl⟩
    · refine Gk.icmpNo X0 hx (hb hby d14_21) (feq hc21_1).1 ?_
      refine Gk.iconst X0 hx (hb hby d14_24) (0 : Int32) rfl ?_
      refine Go.fin X0 (v := some (.int (0 : Int32))) (fun h_ => by rw [Bd.returns] at h_; cases h_) Bd.notSynchronized (fun _ hr => retN X0 hx (t := .boolean) Bd.returns (by simp) (hb hby d14_25) hr) (fun U' hU hF => ⟨_, _, rfl, ?_, hF.1, hF.2.1, hF.2.2.mono (by decide) (by decide)⟩)
      rw [hU, e0]
      exact ⟨(congrArg (fun z_ : Int32 => some (Value.int z_)) (show (0 : Int32) = (eq13 x0 x1 x2 x3 x4 x5 x6 x7 x8 x9 x10 x11 x12) from (by simp [eq13, hc21, hc21_1]))), N0, rfl⟩
  · refine Gk.icmpNo X0 hx (hb hby d14_21) (feq hc21).1 ?_
    refine Gk.iconst X0 hx (hb hby d14_24) (0 : Int32) rfl ?_
    refine Go.fin X0 (v := some (.int (0 : Int32))) (fun h_ => by rw [Bd.returns] at h_; cases h_) Bd.notSynchronized (fun _ hr => retN X0 hx (t := .boolean) Bd.returns (by simp) (hb hby d14_25) hr) (fun U' hU hF => ⟨_, _, rfl, ?_, hF.1, hF.2.1, hF.2.2.mono (by decide) (by decide)⟩)
    rw [hU, e0]
    exact ⟨(congrArg (fun z_ : Int32 => some (Value.int z_)) (show (0 : Int32) = (eq13 x0 x1 x2 x3 x4 x5 x6 x7 x8 x9 x10 x11 x12) from (by simp [eq13, hc21]))), N0, rfl⟩
theorem d14_34 : decode jdk_43_method_13_code 34 = .ok (.iconst 0, 1) := by decide +kernel
theorem d14_35 : decode jdk_43_method_13_code 35 = .ok (.ireturn, 1) := by decide +kernel
theorem ef_le_n (m : MethodId) (a1 : Addr) (a2 : Addr) : entryFrame m #[(.ref a1), (.ref a2)] 3 = mkF m 0 #[.val (.ref a1), .val (.ref a2), .unset] [] := by first | (simp [entryFrame, mkF, argsToLocals, Value.category]; done) | rfl
def Q_le_n (Z : State) (a1 : Addr) (a2 : Addr) (k1 : ClassId) (f1 : Nat → Value) (n1 : Int32) (k2 : ClassId) (g1 : Nat → Value) (h0 : Heap) (n0 : Nat) (v : Option Value) (h : Heap) (L : List Loc) : Prop := v = some (.int (0 : Int32)) ∧ Fr n0 L ∧ h = h0
set_option maxRecDepth 65536 in
set_option maxHeartbeats 40000000 in
theorem le_n (l : Launch) (Z : State) (a0 : Array Value) (hw : ∀ d ∈ tables_1, d.before a0 Z = true) (ws : List Jvm.Cond) (a1 : Addr) (a2 : Addr) (k1 : ClassId) (f1 : Nat → Value) (n1 : Int32) (k2 : ClassId) (g1 : Nat → Value) (h0 : Heap) (n0 : Nat) (Z0 : n0 ≤ h0.size) (V1 : Arf Z h0 a1 k1 .byte n1 f1) (V2 : Arf Z h0 a2 k2 .byte (13 : Int32) g1) (hne : ¬ (n1 = (13 : Int32))) :
    MetFree l (⟨"java/lang/StringLatin1", "equals", "([B[B)Z"⟩ : MethodName) (head1 (Jvm.Cond.code (⟨"java/lang/StringLatin1", "equals", "([B[B)Z"⟩ : MethodName) jdk_43_method_13_code 3 (some .boolean) :: ws) ({ frames := 0, cells := 0, slots := 0, locals := 0 } : Room)) (fun a U => a = #[(.ref a1), (.ref a2)] ∧ Z.Warmed39 U.vm ∧ U.heap = h0) (fun _ _ _ _ _ => True) (fun _ U o U' => ∃ v L, o = .returned v ∧ Q_le_n Z a1 a2 k1 f1 n1 k2 g1 h0 n0 v U'.heap L ∧ FrameEnd U o U' L ({ frames := 0, cells := 0, slots := 0, locals := 0 } : Room).cells ({ frames := 0, cells := 0, slots := 0, locals := 0 } : Room).slots) := by
  refine MetFree.of_bodySF (plainFor_of_name pn_101) hisR ?_
  intro p e s m args below meth c s₁ Bd hml0 hP hK
  obtain ⟨rfl, hZ, hh⟩ := hP
  have hx := Bd.exec
  have hby := Bd.bytes
  have hml : c.maxLocals = 3 := hml0
  have hown : s.vm.findClass "java/lang/StringLatin1" = some m.cls := findClass_of_methodNamed Bd.named
  have hnm := (name_of_methodNamed Bd.named Bd.method).1
  have X0 : Stand p l e ({ frames := 0, cells := 0, slots := 0, locals := 0 } : Room) s m #[(.ref a1), (.ref a2)] below meth c s₁ [] 0 0 := Stand.of_body Bd
  have e0 : s₁.heap = h0 := by rw [← hh, Bd.state]; rfl
  have N0 := Fr.nil n0
  show Go p e below (s₁.setTop (entryFrame m #[(.ref a1), (.ref a2)] 3)) (fun o U' => ∃ v L, o = .returned v ∧ Q_le_n Z a1 a2 k1 f1 n1 k2 g1 h0 n0 v U'.heap L ∧ FrameEnd s o U' L ({ frames := 0, cells := 0, slots := 0, locals := 0 } : Room).cells ({ frames := 0, cells := 0, slots := 0, locals := 0 } : Room).slots)
  rw [ef_le_n]
  refine Gk.aloadN X0 hx (hb hby d14_0) rfl rfl ?_
  refine Gk.alen X0 hx hZ e0 V1 (hb hby d14_1) ?_
  refine Gk.aloadN X0 hx (hb hby d14_2) rfl rfl ?_
  refine Gk.alen X0 hx hZ e0 V2 (hb hby d14_3) ?_
  have hc4 : ¬ (n1 = (13 : Int32)) := hne
  refine Gk.icmpYes X0 hx (hb hby d14_4) (feq hc4).2 34 (by decide) (by decide) ?_
  refine Gk.iconst X0 hx (hb hby d14_34) (0 : Int32) rfl ?_
  refine Go.fin X0 (v := some (.int (0 : Int32))) (fun h_ => by rw [Bd.returns] at h_; cases h_) Bd.notSynchronized (fun _ hr => retN X0 hx (t := .boolean) Bd.returns (by simp) (hb hby d14_35) hr) (fun U' hU hF => ⟨_, _, rfl, ?_, hF.1, hF.2.1, hF.2.2.mono (by decide) (by decide)⟩)
  rw [hU, e0]
  exact ⟨(congrArg (fun z_ : Int32 => some (Value.int z_)) (show (0 : Int32) = (0 : Int32) from rfl)), N0, rfl⟩
theorem pd_8 : parseMethodDescriptor "([B[B)Z" = some ⟨[(.array .byte), (.array .byte)], some .boolean⟩ := by decide +kernel
theorem d13_0 : decode jdk_42_method_66_code 0 = .ok (.aload_n 0, 1) := by decide +kernel
theorem d13_1 : decode jdk_42_method_66_code 1 = .ok (.aload_n 1, 1) := by decide +kernel
theorem d13_2 : decode jdk_42_method_66_code 2 = .ok (.if_acmp .ne 5, 3) := by decide +kernel
theorem d13_5 : decode jdk_42_method_66_code 5 = .ok (.iconst 1, 1) := by decide +kernel
theorem d13_6 : decode jdk_42_method_66_code 6 = .ok (.ireturn, 1) := by decide +kernel
theorem d13_7 : decode jdk_42_method_66_code 7 = .ok (.aload_n 1, 1) := by decide +kernel
theorem d13_8 : decode jdk_42_method_66_code 8 = .ok (.instanceof 10, 3) := by decide +kernel
theorem d13_11 : decode jdk_42_method_66_code 11 = .ok (.ifCond .eq 43, 3) := by decide +kernel
theorem d13_14 : decode jdk_42_method_66_code 14 = .ok (.aload_n 1, 1) := by decide +kernel
theorem d13_15 : decode jdk_42_method_66_code 15 = .ok (.checkcast 10, 3) := by decide +kernel
theorem d13_18 : decode jdk_42_method_66_code 18 = .ok (.astore_n 2, 1) := by decide +kernel
theorem d13_19 : decode jdk_42_method_66_code 19 = .ok (.getstatic 38, 3) := by decide +kernel
theorem d13_22 : decode jdk_42_method_66_code 22 = .ok (.ifCond .eq 14, 3) := by decide +kernel
theorem d13_25 : decode jdk_42_method_66_code 25 = .ok (.aload_n 0, 1) := by decide +kernel
theorem d13_26 : decode jdk_42_method_66_code 26 = .ok (.getfield 15, 3) := by decide +kernel
theorem d13_29 : decode jdk_42_method_66_code 29 = .ok (.aload_n 2, 1) := by decide +kernel
theorem d13_30 : decode jdk_42_method_66_code 30 = .ok (.getfield 15, 3) := by decide +kernel
theorem d13_33 : decode jdk_42_method_66_code 33 = .ok (.if_icmp .ne 21, 3) := by decide +kernel
theorem d13_36 : decode jdk_42_method_66_code 36 = .ok (.aload_n 0, 1) := by decide +kernel
theorem d13_37 : decode jdk_42_method_66_code 37 = .ok (.getfield 9, 3) := by decide +kernel
theorem d13_40 : decode jdk_42_method_66_code 40 = .ok (.aload_n 2, 1) := by decide +kernel
theorem d13_41 : decode jdk_42_method_66_code 41 = .ok (.getfield 9, 3) := by decide +kernel
theorem d13_44 : decode jdk_42_method_66_code 44 = .ok (.invokestatic 541, 3) := by decide +kernel
theorem d13_47 : decode jdk_42_method_66_code 47 = .ok (.ifCond .eq 7, 3) := by decide +kernel
theorem d13_50 : decode jdk_42_method_66_code 50 = .ok (.iconst 1, 1) := by decide +kernel
theorem d13_51 : decode jdk_42_method_66_code 51 = .ok (.goto 4, 3) := by decide +kernel
theorem d13_54 : decode jdk_42_method_66_code 54 = .ok (.iconst 0, 1) := by decide +kernel
theorem d13_55 : decode jdk_42_method_66_code 55 = .ok (.ireturn, 1) := by decide +kernel
theorem ef_se_e (m : MethodId) (a1 : Addr) (a2 : Addr) : entryFrame m #[(.ref a1), (.ref a2)] 3 = mkF m 0 #[.val (.ref a1), .val (.ref a2), .unset] [] := by first | (simp [entryFrame, mkF, argsToLocals, Value.category]; done) | rfl
def Q_se_e (Z : State) (a1 : Addr) (a2 : Addr) (b1 : Addr) (k1 : ClassId) (f1 : Nat → Value) (x0 : Int32) (x1 : Int32) (x2 : Int32) (x3 : Int32) (x4 : Int32) (x5 : Int32) (x6 : Int32) (x7 : Int32) (x8 : Int32) (x9 : Int32) (x10 : Int32) (x11 : Int32) (x12 : Int32) (b2 : Addr) (k2 : ClassId) (g1 : Nat → Value) (w_COMPACT_STRINGS : Int32) (h0 : Heap) (n0 : Nat) (v : Option Value) (h : Heap) (L : List Loc) : Prop := v = some (.int (eq13 x0 x1 x2 x3 x4 x5 x6 x7 x8 x9 x10 x11 x12)) ∧ Fr n0 L ∧ h = h0
set_option maxRecDepth 65536 in
set_option maxHeartbeats 40000000 in
theorem se_e (l : Launch) (Z : State) (a0 : Array Value) (hw : ∀ d ∈ tables_1, d.before a0 Z = true) (ws : List Jvm.Cond) (a1 : Addr) (a2 : Addr) (b1 : Addr) (k1 : ClassId) (f1 : Nat → Value) (x0 : Int32) (x1 : Int32) (x2 : Int32) (x3 : Int32) (x4 : Int32) (x5 : Int32) (x6 : Int32) (x7 : Int32) (x8 : Int32) (x9 : Int32) (x10 : Int32) (x11 : Int32) (x12 : Int32) (b2 : Addr) (k2 : ClassId) (g1 : Nat → Value) (w_COMPACT_STRINGS : Int32) (h0 : Heap) (n0 : Nat) (Z0 : n0 ≤ h0.size) (S_COMPACT_STRINGS : Stx Z n0 h0 "java/lang/String" "COMPACT_STRINGS" "Z" (.int w_COMPACT_STRINGS)) (E_a2 : Exa Z h0 a2 "java/lang/String") (Fc1 : Fld Z h0 a1 "java/lang/String" "coder" "B" (.int (0 : Int32))) (Fv1 : Fld Z h0 a1 "java/lang/String" "value" "[B" (.ref b1)) (Fc2 : Fld Z h0 a2 "java/lang/String" "coder" "B" (.int (0 : Int32))) (Fv2 : Fld Z h0 a2 "java/lang/String" "value" "[B" (.ref b2)) (V1 : Arf Z h0 b1 k1 .byte (13 : Int32) f1) (V2 : Arf Z h0 b2 k2 .byte (13 : Int32) g1) (hx0 : f1 0 = .int x0) (hx1 : f1 1 = .int x1) (hx2 : f1 2 = .int x2) (hx3 : f1 3 = .int x3) (hx4 : f1 4 = .int x4) (hx5 : f1 5 = .int x5) (hx6 : f1 6 = .int x6) (hx7 : f1 7 = .int x7) (hx8 : f1 8 = .int x8) (hx9 : f1 9 = .int x9) (hx10 : f1 10 = .int x10) (hx11 : f1 11 = .int x11) (hx12 : f1 12 = .int x12) (hy0 : g1 0 = .int (78 : Int32)) (hy1 : g1 1 = .int (70 : Int32)) (hy2 : g1 2 = .int (83 : Int32)) (hy3 : g1 3 = .int (52 : Int32)) (hy4 : g1 4 = .int (69 : Int32)) (hy5 : g1 5 = .int (82 : Int32)) (hy6 : g1 6 = .int (82 : Int32)) (hy7 : g1 7 = .int (95 : Int32)) (hy8 : g1 8 = .int (73 : Int32)) (hy9 : g1 9 = .int (78 : Int32)) (hy10 : g1 10 = .int (86 : Int32)) (hy11 : g1 11 = .int (65 : Int32)) (hy12 : g1 12 = .int (76 : Int32)) (hsm : a1 = a2 → eq13 x0 x1 x2 x3 x4 x5 x6 x7 x8 x9 x10 x11 x12 = 1) (hcs : ¬ (w_COMPACT_STRINGS = (0 : Int32))) :
    MetFree l (⟨"java/lang/String", "equals", "(Ljava/lang/Object;)Z"⟩ : MethodName) (head1 (Jvm.Cond.code (⟨"java/lang/String", "equals", "(Ljava/lang/Object;)Z"⟩ : MethodName) jdk_42_method_66_code 3 (some .boolean) :: ws) ({ frames := 1, cells := 0, slots := 0, locals := 14 } : Room)) (fun a U => a = #[(.ref a1), (.ref a2)] ∧ Z.Warmed39 U.vm ∧ U.heap = h0) (fun _ _ _ _ _ => True) (fun _ U o U' => ∃ v L, o = .returned v ∧ Q_se_e Z a1 a2 b1 k1 f1 x0 x1 x2 x3 x4 x5 x6 x7 x8 x9 x10 x11 x12 b2 k2 g1 w_COMPACT_STRINGS h0 n0 v U'.heap L ∧ FrameEnd U o U' L ({ frames := 1, cells := 0, slots := 0, locals := 14 } : Room).cells ({ frames := 1, cells := 0, slots := 0, locals := 14 } : Room).slots) := by
  refine MetFree.of_bodySF (plainFor_of_name pn_67) hisR ?_
  intro p e s m args below meth c s₁ Bd hml0 hP hK
  obtain ⟨rfl, hZ, hh⟩ := hP
  have hx := Bd.exec
  have hby := Bd.bytes
  have hml : c.maxLocals = 3 := hml0
  have hown : s.vm.findClass "java/lang/String" = some m.cls := findClass_of_methodNamed Bd.named
  have hnm := (name_of_methodNamed Bd.named Bd.method).1
  have X0 : Stand p l e ({ frames := 1, cells := 0, slots := 0, locals := 14 } : Room) s m #[(.ref a1), (.ref a2)] below meth c s₁ [] 0 0 := Stand.of_body Bd
  have e0 : s₁.heap = h0 := by rw [← hh, Bd.state]; rfl
  have N0 := Fr.nil n0
  show Go p e below (s₁.setTop (entryFrame m #[(.ref a1), (.ref a2)] 3)) (fun o U' => ∃ v L, o = .returned v ∧ Q_se_e Z a1 a2 b1 k1 f1 x0 x1 x2 x3 x4 x5 x6 x7 x8 x9 x10 x11 x12 b2 k2 g1 w_COMPACT_STRINGS h0 n0 v U'.heap L ∧ FrameEnd s o U' L ({ frames := 1, cells := 0, slots := 0, locals := 14 } : Room).cells ({ frames := 1, cells := 0, slots := 0, locals := 14 } : Room).slots)
  rw [ef_se_e]
  refine Gk.aloadN X0 hx (hb hby d13_0) rfl rfl ?_
  refine Gk.aloadN X0 hx (hb hby d13_1) rfl rfl ?_
  by_cases hc2 : a1 = a2
  · refine Gk.acmp X0 hx (hb hby d13_2) rfl rfl true (decide_eq_true (congrArg Value.ref hc2)) 5 (by decide) (by decide) ?_
    refine Gk.iconst X0 hx (hb hby d13_5) (1 : Int32) rfl ?_
    refine Go.fin X0 (v := some (.int (1 : Int32))) (fun h_ => by rw [Bd.returns] at h_; cases h_) Bd.notSynchronized (fun _ hr => retN X0 hx (t := .boolean) Bd.returns (by simp) (hb hby d13_6) hr) (fun U' hU hF => ⟨_, _, rfl, ?_, hF.1, hF.2.1, hF.2.2.mono (by decide) (by decide)⟩)
    rw [hU, e0]
    exact ⟨(congrArg (fun z_ : Int32 => some (Value.int z_)) (show (1 : Int32) = (eq13 x0 x1 x2 x3 x4 x5 x6 x7 x8 x9 x10 x11 x12) from (hsm hc2).symm)), N0, rfl⟩
  · refine Gk.acmp X0 hx (hb hby d13_2) rfl rfl false (decide_eq_false fun q_ => hc2 (Value.ref.inj q_)) 7 (by decide) (by decide) ?_
    refine Gk.aloadN X0 hx (hb hby d13_7) rfl rfl ?_
    refine Gk.instY X0 hx hZ hown (hw _ (List.mem_of_getElem? (i := 78) rfl)) e0 (Ins.self E_a2) (hb hby d13_8) ?_
    intro T1 X1 e1
    refine Gk.ifNo X1 hx (hb hby d13_11) (feq (by decide : ¬ ((1 : Int32) = (0 : Int32)))).1 ?_
    refine Gk.aloadN X1 hx (hb hby d13_14) rfl rfl ?_
    refine Gk.castY X1 hx hZ hown (hw _ (List.mem_of_getElem? (i := 78) rfl)) e1 (Ins.self E_a2) (hb hby d13_15) ?_
    intro T2 X2 e2
    refine Gk.astoreN X2 hx (hb hby d13_18) rfl #[.val (.ref a1), .val (.ref a2), .val (.ref a2)] rfl ?_
    refine Gk.getS X2 hx hZ hown (host := "") (Or.inl (hw _ (List.mem_of_getElem? (i := 33) rfl))) Via.refl e2 S_COMPACT_STRINGS.sta (hb hby d13_19) ?_
    intro T3 X3 e3
    have hc22 : ¬ (w_COMPACT_STRINGS = (0 : Int32)) := hcs
    refine Gk.ifNo X3 hx (hb hby d13_22) (feq hc22).1 ?_
    refine Gk.aloadN X3 hx (hb hby d13_25) rfl rfl ?_
    refine Gk.getF X3 hx hZ hown (host := "") (Or.inl (hw _ (List.mem_of_getElem? (i := 44) rfl))) Via.refl e3 Fc1 (hb hby d13_26) ?_
    intro T4 X4 e4
    refine Gk.aloadN X4 hx (hb hby d13_29) rfl rfl ?_
    refine Gk.getF X4 hx hZ hown (host := "") (Or.inl (hw _ (List.mem_of_getElem? (i := 44) rfl))) Via.refl e4 Fc2 (hb hby d13_30) ?_
    intro T5 X5 e5
    refine Gk.icmpNo X5 hx (hb hby d13_33) (teq (by decide : (0 : Int32) = (0 : Int32))).2 ?_
    refine Gk.aloadN X5 hx (hb hby d13_36) rfl rfl ?_
    refine Gk.getF X5 hx hZ hown (host := "") (Or.inl (hw _ (List.mem_of_getElem? (i := 45) rfl))) Via.refl e5 Fv1 (hb hby d13_37) ?_
    intro T6 X6 e6
    refine Gk.aloadN X6 hx (hb hby d13_40) rfl rfl ?_
    refine Gk.getF X6 hx hZ hown (host := "") (Or.inl (hw _ (List.mem_of_getElem? (i := 45) rfl))) Via.refl e6 Fv2 (hb hby d13_41) ?_
    intro T7 X7 e7
    refine Gk.callS (argsL := [(.ref b1), (.ref b2)]) X7 hx hZ hown (le_e l Z a0 hw [] b1 b2 k1 f1 x0 x1 x2 x3 x4 x5 x6 x7 x8 x9 x10 x11 x12 k2 g1 h0 n0 Z0 V1 V2 hx0 hx1 hx2 hx3 hx4 hx5 hx6 hx7 hx8 hx9 hx10 hx11 hx12 hy0 hy1 hy2 hy3 hy4 hy5 hy6 hy7 hy8 hy9 hy10 hy11 hy12) (hw _ (List.mem_of_getElem? (i := 79) rfl)) (hw _ (List.mem_of_getElem? (i := 80) rfl)) (hw _ (List.mem_of_getElem? (i := 60) rfl)) (hw _ (List.mem_of_getElem? (i := 81) rfl)) (by decide) e7 pd_8 rfl rfl (by decide) (Nat.le_of_ble_eq_true rfl) (by decide) (by decide) (by rw [hml]; rfl)  rfl (hb hby d13_44) ?_
    intro T8 L8 v8 X8 hQ8
    obtain ⟨rfl, N8q, e8⟩ := hQ8
    have N8 := Fr.app N0 N8q
    show Go p e below (T8.setTop (mkF m 47 #[.val (.ref a1), .val (.ref a2), .val (.ref a2)] [(.int (eq13 x0 x1 x2 x3 x4 x5 x6 x7 x8 x9 x10 x11 x12))])) _
    by_cases hc47 : (eq13 x0 x1 x2 x3 x4 x5 x6 x7 x8 x9 x10 x11 x12) = (0 : Int32)
    · refine Gk.ifYes X8 hx (hb hby d13_47) (teq hc47).1 54 (by decide) (by decide) ?_
      refine Gk.iconst X8 hx (hb hby d13_54) (0 : Int32) rfl ?_
      refine Go.fin X8 (v := some (.int (0 : Int32))) (fun h_ => by rw [Bd.returns] at h_; cases h_) Bd.notSynchronized (fun _ hr => retN X8 hx (t := .boolean) Bd.returns (by simp) (hb hby d13_55) hr) (fun U' hU hF => ⟨_, _, rfl, ?_, hF.1, hF.2.1, hF.2.2.mono (by decide) (by decide)⟩)
      rw [hU, e8]
      exact ⟨(congrArg (fun z_ : Int32 => some (Value.int z_)) (show (0 : Int32) = (eq13 x0 x1 x2 x3 x4 x5 x6 x7 x8 x9 x10 x11 x12) from hc47.symm)), N8, rfl⟩
    · refine Gk.ifNo X8 hx (hb hby d13_47) (feq hc47).1 ?_
      refine Gk.iconst X8 hx (hb hby d13_50) (1 : Int32) rfl ?_
      refine Gk.goto X8 hx (hb hby d13_51) 55 (by decide) (by decide) ?_
      refine Go.fin X8 (v := some (.int (1 : Int32))) (fun h_ => by rw [Bd.returns] at h_; cases h_) Bd.notSynchronized (fun _ hr => retN X8 hx (t := .boolean) Bd.returns (by simp) (hb hby d13_55) hr) (fun U' hU hF => ⟨_, _, rfl, ?_, hF.1, hF.2.1, hF.2.2.mono (by decide) (by decide)⟩)
      rw [hU, e8]
      exact ⟨(congrArg (fun z_ : Int32 => some (Value.int z_)) (show (1 : Int32) = (eq13 x0 x1 x2 x3 x4 x5 x6 x7 x8 x9 x10 x11 x12) from ((eq13_01 _ _ _ _ _ _ _ _ _ _ _ _ _).resolve_left hc47).symm)), N8, rfl⟩
theorem ef_se_n (m : MethodId) (a1 : Addr) (a2 : Addr) : entryFrame m #[(.ref a1), (.ref a2)] 3 = mkF m 0 #[.val (.ref a1), .val (.ref a2), .unset] [] := by first | (simp [entryFrame, mkF, argsToLocals, Value.category]; done) | rfl
def Q_se_n (Z : State) (a1 : Addr) (a2 : Addr) (b1 : Addr) (k1 : ClassId) (f1 : Nat → Value) (n1 : Int32) (b2 : Addr) (k2 : ClassId) (g1 : Nat → Value) (w_COMPACT_STRINGS : Int32) (h0 : Heap) (n0 : Nat) (v : Option Value) (h : Heap) (L : List Loc) : Prop := v = some (.int (0 : Int32)) ∧ Fr n0 L ∧ h = h0
set_option maxRecDepth 65536 in
set_option maxHeartbeats 40000000 in
theorem se_n (l : Launch) (Z : State) (a0 : Array Value) (hw : ∀ d ∈ tables_1, d.before a0 Z = true) (ws : List Jvm.Cond) (a1 : Addr) (a2 : Addr) (b1 : Addr) (k1 : ClassId) (f1 : Nat → Value) (n1 : Int32) (b2 : Addr) (k2 : ClassId) (g1 : Nat → Value) (w_COMPACT_STRINGS : Int32) (h0 : Heap) (n0 : Nat) (Z0 : n0 ≤ h0.size) (S_COMPACT_STRINGS : Stx Z n0 h0 "java/lang/String" "COMPACT_STRINGS" "Z" (.int w_COMPACT_STRINGS)) (E_a2 : Exa Z h0 a2 "java/lang/String") (Fc1 : Fld Z h0 a1 "java/lang/String" "coder" "B" (.int (0 : Int32))) (Fv1 : Fld Z h0 a1 "java/lang/String" "value" "[B" (.ref b1)) (Fc2 : Fld Z h0 a2 "java/lang/String" "coder" "B" (.int (0 : Int32))) (Fv2 : Fld Z h0 a2 "java/lang/String" "value" "[B" (.ref b2)) (V1 : Arf Z h0 b1 k1 .byte n1 f1) (V2 : Arf Z h0 b2 k2 .byte (13 : Int32) g1) (hne : ¬ (n1 = (13 : Int32))) (hsm : ¬ (a1 = a2)) (hcs : ¬ (w_COMPACT_STRINGS = (0 : Int32))) :
    MetFree l (⟨"java/lang/String", "equals", "(Ljava/lang/Object;)Z"⟩ : MethodName) (head1 (Jvm.Cond.code (⟨"java/lang/String", "equals", "(Ljava/lang/Object;)Z"⟩ : MethodName) jdk_42_method_66_code 3 (some .boolean) :: ws) ({ frames := 1, cells := 0, slots := 0, locals := 14 } : Room)) (fun a U => a = #[(.ref a1), (.ref a2)] ∧ Z.Warmed39 U.vm ∧ U.heap = h0) (fun _ _ _ _ _ => True) (fun _ U o U' => ∃ v L, o = .returned v ∧ Q_se_n Z a1 a2 b1 k1 f1 n1 b2 k2 g1 w_COMPACT_STRINGS h0 n0 v U'.heap L ∧ FrameEnd U o U' L ({ frames := 1, cells := 0, slots := 0, locals := 14 } : Room).cells ({ frames := 1, cells := 0, slots := 0, locals := 14 } : Room).slots) := by
  refine MetFree.of_bodySF (plainFor_of_name pn_67) hisR ?_
  intro p e s m args below meth c s₁ Bd hml0 hP hK
  obtain ⟨rfl, hZ, hh⟩ := hP
  have hx := Bd.exec
  have hby := Bd.bytes
  have hml : c.maxLocals = 3 := hml0
  have hown : s.vm.findClass "java/lang/String" = some m.cls := findClass_of_methodNamed Bd.named
  have hnm := (name_of_methodNamed Bd.named Bd.method).1
  have X0 : Stand p l e ({ frames := 1, cells := 0, slots := 0, locals := 14 } : Room) s m #[(.ref a1), (.ref a2)] below meth c s₁ [] 0 0 := Stand.of_body Bd
  have e0 : s₁.heap = h0 := by rw [← hh, Bd.state]; rfl
  have N0 := Fr.nil n0
  show Go p e below (s₁.setTop (entryFrame m #[(.ref a1), (.ref a2)] 3)) (fun o U' => ∃ v L, o = .returned v ∧ Q_se_n Z a1 a2 b1 k1 f1 n1 b2 k2 g1 w_COMPACT_STRINGS h0 n0 v U'.heap L ∧ FrameEnd s o U' L ({ frames := 1, cells := 0, slots := 0, locals := 14 } : Room).cells ({ frames := 1, cells := 0, slots := 0, locals := 14 } : Room).slots)
  rw [ef_se_n]
  refine Gk.aloadN X0 hx (hb hby d13_0) rfl rfl ?_
  refine Gk.aloadN X0 hx (hb hby d13_1) rfl rfl ?_
  have hc2 : ¬ (a1 = a2) := hsm
  refine Gk.acmp X0 hx (hb hby d13_2) rfl rfl false (decide_eq_false fun q_ => hc2 (Value.ref.inj q_)) 7 (by decide) (by decide) ?_
  refine Gk.aloadN X0 hx (hb hby d13_7) rfl rfl ?_
  refine Gk.instY X0 hx hZ hown (hw _ (List.mem_of_getElem? (i := 78) rfl)) e0 (Ins.self E_a2) (hb hby d13_8) ?_
  intro T1 X1 e1
  refine Gk.ifNo X1 hx (hb hby d13_11) (feq (by decide : ¬ ((1 : Int32) = (0 : Int32)))).1 ?_
  refine Gk.aloadN X1 hx (hb hby d13_14) rfl rfl ?_
  refine Gk.castY X1 hx hZ hown (hw _ (List.mem_of_getElem? (i := 78) rfl)) e1 (Ins.self E_a2) (hb hby d13_15) ?_
  intro T2 X2 e2
  refine Gk.astoreN X2 hx (hb hby d13_18) rfl #[.val (.ref a1), .val (.ref a2), .val (.ref a2)] rfl ?_
  refine Gk.getS X2 hx hZ hown (host := "") (Or.inl (hw _ (List.mem_of_getElem? (i := 33) rfl))) Via.refl e2 S_COMPACT_STRINGS.sta (hb hby d13_19) ?_
  intro T3 X3 e3
  have hc22 : ¬ (w_COMPACT_STRINGS = (0 : Int32)) := hcs
  refine Gk.ifNo X3 hx (hb hby d13_22) (feq hc22).1 ?_
  refine Gk.aloadN X3 hx (hb hby d13_25) rfl rfl ?_
  refine Gk.getF X3 hx hZ hown (host := "") (Or.inl (hw _ (List.mem_of_getElem? (i := 44) rfl))) Via.refl e3 Fc1 (hb hby d13_26) ?_
  intro T4 X4 e4
  refine Gk.aloadN X4 hx (hb hby d13_29) rfl rfl ?_
  refine Gk.getF X4 hx hZ hown (host := "") (Or.inl (hw _ (List.mem_of_getElem? (i := 44) rfl))) Via.refl e4 Fc2 (hb hby d13_30) ?_
  intro T5 X5 e5
  refine Gk.icmpNo X5 hx (hb hby d13_33) (teq (by decide : (0 : Int32) = (0 : Int32))).2 ?_
  refine Gk.aloadN X5 hx (hb hby d13_36) rfl rfl ?_
  refine Gk.getF X5 hx hZ hown (host := "") (Or.inl (hw _ (List.mem_of_getElem? (i := 45) rfl))) Via.refl e5 Fv1 (hb hby d13_37) ?_
  intro T6 X6 e6
  refine Gk.aloadN X6 hx (hb hby d13_40) rfl rfl ?_
  refine Gk.getF X6 hx hZ hown (host := "") (Or.inl (hw _ (List.mem_of_getElem? (i := 45) rfl))) Via.refl e6 Fv2 (hb hby d13_41) ?_
  intro T7 X7 e7
  refine Gk.callS (argsL := [(.ref b1), (.ref b2)]) X7 hx hZ hown (le_n l Z a0 hw [] b1 b2 k1 f1 n1 k2 g1 h0 n0 Z0 V1 V2 hne) (hw _ (List.mem_of_getElem? (i := 79) rfl)) (hw _ (List.mem_of_getElem? (i := 80) rfl)) (hw _ (List.mem_of_getElem? (i := 60) rfl)) (hw _ (List.mem_of_getElem? (i := 81) rfl)) (by decide) e7 pd_8 rfl rfl (by decide) (Nat.le_of_ble_eq_true rfl) (by decide) (by decide) (by rw [hml]; rfl)  rfl (hb hby d13_44) ?_
  intro T8 L8 v8 X8 hQ8
  obtain ⟨rfl, N8q, e8⟩ := hQ8
  have N8 := Fr.app N0 N8q
  show Go p e below (T8.setTop (mkF m 47 #[.val (.ref a1), .val (.ref a2), .val (.ref a2)] [(.int (0 : Int32))])) _
  refine Gk.ifYes X8 hx (hb hby d13_47) (teq (by decide : (0 : Int32) = (0 : Int32))).1 54 (by decide) (by decide) ?_
  refine Gk.iconst X8 hx (hb hby d13_54) (0 : Int32) rfl ?_
  refine Go.fin X8 (v := some (.int (0 : Int32))) (fun h_ => by rw [Bd.returns] at h_; cases h_) Bd.notSynchronized (fun _ hr => retN X8 hx (t := .boolean) Bd.returns (by simp) (hb hby d13_55) hr) (fun U' hU hF => ⟨_, _, rfl, ?_, hF.1, hF.2.1, hF.2.2.mono (by decide) (by decide)⟩)
  rw [hU, e8]
  exact ⟨(congrArg (fun z_ : Int32 => some (Value.int z_)) (show (0 : Int32) = (0 : Int32) from rfl)), N8, rfl⟩
theorem d1_0 : decode prog_22_method_14_code 0 = .ok (.iload_n 0, 1) := by decide +kernel
theorem d1_1 : decode prog_22_method_14_code 1 = .ok (.ifCond .eq 7, 3) := by decide +kernel
theorem d1_4 : decode prog_22_method_14_code 4 = .ok (.getstatic 426, 3) := by decide +kernel
theorem d1_7 : decode prog_22_method_14_code 7 = .ok (.areturn, 1) := by decide +kernel
theorem pn_176 : plainName "com/example/addenda/addenda/nfsv4/Probe" = true := by first | (simp [plainName, overriddenIn]; done) | decide +kernel
theorem ef_ats_1 (m : MethodId) (a2 : Addr) (p3 : Int32) : entryFrame m #[(.int (1 : Int32)), (.ref a2), (.int p3)] 3 = mkF m 0 #[.val (.int (1 : Int32)), .val (.ref a2), .val (.int p3)] [] := by first | (simp [entryFrame, mkF, argsToLocals, Value.category]; done) | rfl
def Q_ats_1 (Z : State) (a2 : Addr) (p3 : Int32) (w_SUPPORTED : Addr) (h0 : Heap) (n0 : Nat) (v : Option Value) (h : Heap) (L : List Loc) : Prop := v = some (.ref w_SUPPORTED) ∧ Fr n0 L ∧ h = h0
set_option maxRecDepth 65536 in
set_option maxHeartbeats 40000000 in
theorem ats_1 (l : Launch) (Z : State) (a0 : Array Value) (hw : ∀ d ∈ tables_1, d.before a0 Z = true) (ws : List Jvm.Cond) (a2 : Addr) (p3 : Int32) (w_SUPPORTED : Addr) (h0 : Heap) (n0 : Nat) (Z0 : n0 ≤ h0.size) (S_SUPPORTED : Stx Z n0 h0 "com/example/addenda/addenda/nfsv4/Probe$State" "SUPPORTED" "Lcom/example/addenda/addenda/nfsv4/Probe$State;" (.ref w_SUPPORTED)) :
    MetFree l (⟨"com/example/addenda/addenda/nfsv4/Probe", "attributeState", "(ZLjava/lang/String;Z)Lcom/example/addenda/addenda/nfsv4/Probe$State;"⟩ : MethodName) (head1 (Jvm.Cond.code (⟨"com/example/addenda/addenda/nfsv4/Probe", "attributeState", "(ZLjava/lang/String;Z)Lcom/example/addenda/addenda/nfsv4/Probe$State;"⟩ : MethodName) prog_22_method_14_code 3 (some (.object "com/example/addenda/addenda/nfsv4/Probe$State")) :: ws) ({ frames := 0, cells := 0, slots := 0, locals := 0 } : Room)) (fun a U => a = #[(.int (1 : Int32)), (.ref a2), (.int p3)] ∧ Z.Warmed39 U.vm ∧ U.heap = h0) (fun _ _ _ _ _ => True) (fun _ U o U' => ∃ v L, o = .returned v ∧ Q_ats_1 Z a2 p3 w_SUPPORTED h0 n0 v U'.heap L ∧ FrameEnd U o U' L ({ frames := 0, cells := 0, slots := 0, locals := 0 } : Room).cells ({ frames := 0, cells := 0, slots := 0, locals := 0 } : Room).slots) := by
  refine MetFree.of_bodySF (plainFor_of_name pn_176) hisR ?_
  intro p e s m args below meth c s₁ Bd hml0 hP hK
  obtain ⟨rfl, hZ, hh⟩ := hP
  have hx := Bd.exec
  have hby := Bd.bytes
  have hml : c.maxLocals = 3 := hml0
  have hown : s.vm.findClass "com/example/addenda/addenda/nfsv4/Probe" = some m.cls := findClass_of_methodNamed Bd.named
  have hnm := (name_of_methodNamed Bd.named Bd.method).1
  have X0 : Stand p l e ({ frames := 0, cells := 0, slots := 0, locals := 0 } : Room) s m #[(.int (1 : Int32)), (.ref a2), (.int p3)] below meth c s₁ [] 0 0 := Stand.of_body Bd
  have e0 : s₁.heap = h0 := by rw [← hh, Bd.state]; rfl
  have N0 := Fr.nil n0
  show Go p e below (s₁.setTop (entryFrame m #[(.int (1 : Int32)), (.ref a2), (.int p3)] 3)) (fun o U' => ∃ v L, o = .returned v ∧ Q_ats_1 Z a2 p3 w_SUPPORTED h0 n0 v U'.heap L ∧ FrameEnd s o U' L ({ frames := 0, cells := 0, slots := 0, locals := 0 } : Room).cells ({ frames := 0, cells := 0, slots := 0, locals := 0 } : Room).slots)
  rw [ef_ats_1]
  refine Gk.iloadN X0 hx (hb hby d1_0) rfl ?_
  refine Gk.ifNo X0 hx (hb hby d1_1) (feq (by decide : ¬ ((1 : Int32) = (0 : Int32)))).1 ?_
  refine Gk.getS X0 hx hZ hown (host := "") (Or.inl (hw _ (List.mem_of_getElem? (i := 21) rfl))) Via.refl e0 S_SUPPORTED.sta (hb hby d1_4) ?_
  intro T1 X1 e1
  refine Go.fin X1 (v := some (.ref w_SUPPORTED)) (fun h_ => by rw [Bd.returns] at h_; cases h_) Bd.notSynchronized (fun _ hr => retOut X1 hx Bd.returns rfl (Or.inr (Or.inr (Or.inr (Or.inr ⟨rfl, rfl, rfl⟩)))) (hb hby d1_7) hr) (fun U' hU hF => ⟨_, _, rfl, ?_, hF.1, hF.2.1, hF.2.2.mono (by decide) (by decide)⟩)
  rw [hU, e1]
  exact ⟨(congrArg (fun z_ : Addr => some (Value.ref z_)) (show w_SUPPORTED = w_SUPPORTED from rfl)), N0, rfl⟩
theorem d1_8 : decode prog_22_method_14_code 8 = .ok (.iload_n 2, 1) := by decide +kernel
theorem d1_9 : decode prog_22_method_14_code 9 = .ok (.ifCond .ne 7, 3) := by decide +kernel
theorem d1_12 : decode prog_22_method_14_code 12 = .ok (.getstatic 497, 3) := by decide +kernel
theorem d1_15 : decode prog_22_method_14_code 15 = .ok (.areturn, 1) := by decide +kernel
theorem ef_ats_2 (m : MethodId) (a2 : Addr) : entryFrame m #[(.int (0 : Int32)), (.ref a2), (.int (0 : Int32))] 3 = mkF m 0 #[.val (.int (0 : Int32)), .val (.ref a2), .val (.int (0 : Int32))] [] := by first | (simp [entryFrame, mkF, argsToLocals, Value.category]; done) | rfl
def Q_ats_2 (Z : State) (a2 : Addr) (w_UNDETERMINED : Addr) (h0 : Heap) (n0 : Nat) (v : Option Value) (h : Heap) (L : List Loc) : Prop := v = some (.ref w_UNDETERMINED) ∧ Fr n0 L ∧ h = h0
set_option maxRecDepth 65536 in
set_option maxHeartbeats 40000000 in
theorem ats_2 (l : Launch) (Z : State) (a0 : Array Value) (hw : ∀ d ∈ tables_1, d.before a0 Z = true) (ws : List Jvm.Cond) (a2 : Addr) (w_UNDETERMINED : Addr) (h0 : Heap) (n0 : Nat) (Z0 : n0 ≤ h0.size) (S_UNDETERMINED : Stx Z n0 h0 "com/example/addenda/addenda/nfsv4/Probe$State" "UNDETERMINED" "Lcom/example/addenda/addenda/nfsv4/Probe$State;" (.ref w_UNDETERMINED)) :
    MetFree l (⟨"com/example/addenda/addenda/nfsv4/Probe", "attributeState", "(ZLjava/lang/String;Z)Lcom/example/addenda/addenda/nfsv4/Probe$State;"⟩ : MethodName) (head1 (Jvm.Cond.code (⟨"com/example/addenda/addenda/nfsv4/Probe", "attributeState", "(ZLjava/lang/String;Z)Lcom/example/addenda/addenda/nfsv4/Probe$State;"⟩ : MethodName) prog_22_method_14_code 3 (some (.object "com/example/addenda/addenda/nfsv4/Probe$State")) :: ws) ({ frames := 0, cells := 0, slots := 0, locals := 0 } : Room)) (fun a U => a = #[(.int (0 : Int32)), (.ref a2), (.int (0 : Int32))] ∧ Z.Warmed39 U.vm ∧ U.heap = h0) (fun _ _ _ _ _ => True) (fun _ U o U' => ∃ v L, o = .returned v ∧ Q_ats_2 Z a2 w_UNDETERMINED h0 n0 v U'.heap L ∧ FrameEnd U o U' L ({ frames := 0, cells := 0, slots := 0, locals := 0 } : Room).cells ({ frames := 0, cells := 0, slots := 0, locals := 0 } : Room).slots) := by
  refine MetFree.of_bodySF (plainFor_of_name pn_176) hisR ?_
  intro p e s m args below meth c s₁ Bd hml0 hP hK
  obtain ⟨rfl, hZ, hh⟩ := hP
  have hx := Bd.exec
  have hby := Bd.bytes
  have hml : c.maxLocals = 3 := hml0
  have hown : s.vm.findClass "com/example/addenda/addenda/nfsv4/Probe" = some m.cls := findClass_of_methodNamed Bd.named
  have hnm := (name_of_methodNamed Bd.named Bd.method).1
  have X0 : Stand p l e ({ frames := 0, cells := 0, slots := 0, locals := 0 } : Room) s m #[(.int (0 : Int32)), (.ref a2), (.int (0 : Int32))] below meth c s₁ [] 0 0 := Stand.of_body Bd
  have e0 : s₁.heap = h0 := by rw [← hh, Bd.state]; rfl
  have N0 := Fr.nil n0
  show Go p e below (s₁.setTop (entryFrame m #[(.int (0 : Int32)), (.ref a2), (.int (0 : Int32))] 3)) (fun o U' => ∃ v L, o = .returned v ∧ Q_ats_2 Z a2 w_UNDETERMINED h0 n0 v U'.heap L ∧ FrameEnd s o U' L ({ frames := 0, cells := 0, slots := 0, locals := 0 } : Room).cells ({ frames := 0, cells := 0, slots := 0, locals := 0 } : Room).slots)
  rw [ef_ats_2]
  refine Gk.iloadN X0 hx (hb hby d1_0) rfl ?_
  refine Gk.ifYes X0 hx (hb hby d1_1) (teq (by decide : (0 : Int32) = (0 : Int32))).1 8 (by decide) (by decide) ?_
  refine Gk.iloadN X0 hx (hb hby d1_8) rfl ?_
  refine Gk.ifNo X0 hx (hb hby d1_9) (teq (by decide : (0 : Int32) = (0 : Int32))).2 ?_
  refine Gk.getS X0 hx hZ hown (host := "") (Or.inl (hw _ (List.mem_of_getElem? (i := 17) rfl))) Via.refl e0 S_UNDETERMINED.sta (hb hby d1_12) ?_
  intro T1 X1 e1
  refine Go.fin X1 (v := some (.ref w_UNDETERMINED)) (fun h_ => by rw [Bd.returns] at h_; cases h_) Bd.notSynchronized (fun _ hr => retOut X1 hx Bd.returns rfl (Or.inr (Or.inr (Or.inr (Or.inr ⟨rfl, rfl, rfl⟩)))) (hb hby d1_15) hr) (fun U' hU hF => ⟨_, _, rfl, ?_, hF.1, hF.2.1, hF.2.2.mono (by decide) (by decide)⟩)
  rw [hU, e1]
  exact ⟨(congrArg (fun z_ : Addr => some (Value.ref z_)) (show w_UNDETERMINED = w_UNDETERMINED from rfl)), N0, rfl⟩
theorem own_wS {Z : State} {a0 : Array Value} (hw : ∀ d ∈ tables_1, d.before a0 Z = true) : ∀ a ∈ Bundle.stringAtoms, a.before a0 Z = true := by
  intro d hd
  simp only [Bundle.stringAtoms, List.mem_cons, List.not_mem_nil, or_false] at hd
  rcases hd with rfl | rfl | rfl | rfl | rfl | rfl | rfl
  · exact (hw _ (List.mem_of_getElem? (i := 3) rfl))
  · exact (hw _ (List.mem_of_getElem? (i := 4) rfl))
  · exact (hw _ (List.mem_of_getElem? (i := 5) rfl))
  · exact (hw _ (List.mem_of_getElem? (i := 6) rfl))
  · exact (hw _ (List.mem_of_getElem? (i := 7) rfl))
  · exact (hw _ (List.mem_of_getElem? (i := 8) rfl))
  · exact (hw _ (List.mem_of_getElem? (i := 9) rfl))
theorem pd_9 : parseMethodDescriptor "(Ljava/lang/Object;)Z" = some ⟨[(.object "java/lang/Object")], some .boolean⟩ := by decide +kernel
theorem d1_16 : decode prog_22_method_14_code 16 = .ok (.aload_n 1, 1) := by decide +kernel
theorem d1_17 : decode prog_22_method_14_code 17 = .ok (.ldc 103, 2) := by decide +kernel
theorem d1_19 : decode prog_22_method_14_code 19 = .ok (.invokevirtual 193, 3) := by decide +kernel
theorem d1_22 : decode prog_22_method_14_code 22 = .ok (.ifCond .eq 9, 3) := by decide +kernel
theorem d1_25 : decode prog_22_method_14_code 25 = .ok (.getstatic 500, 3) := by decide +kernel
theorem d1_28 : decode prog_22_method_14_code 28 = .ok (.goto 6, 3) := by decide +kernel
theorem d1_31 : decode prog_22_method_14_code 31 = .ok (.getstatic 503, 3) := by decide +kernel
theorem d1_34 : decode prog_22_method_14_code 34 = .ok (.areturn, 1) := by decide +kernel
theorem ef_ats_e (m : MethodId) (a2 : Addr) : entryFrame m #[(.int (0 : Int32)), (.ref a2), (.int (1 : Int32))] 3 = mkF m 0 #[.val (.int (0 : Int32)), .val (.ref a2), .val (.int (1 : Int32))] [] := by first | (simp [entryFrame, mkF, argsToLocals, Value.category]; done) | rfl
def Q_ats_e (Z : State) (a2 : Addr) (b1 : Addr) (k1 : ClassId) (f1 : Nat → Value) (x0 : Int32) (x1 : Int32) (x2 : Int32) (x3 : Int32) (x4 : Int32) (x5 : Int32) (x6 : Int32) (x7 : Int32) (x8 : Int32) (x9 : Int32) (x10 : Int32) (x11 : Int32) (x12 : Int32) (w_UNKNOWN : Addr) (w_KNOWN_UNSUPPORTED : Addr) (w_COMPACT_STRINGS : Int32) (h0 : Heap) (n0 : Nat) (v : Option Value) (h : Heap) (L : List Loc) : Prop := v = some (.ref (if eq13 x0 x1 x2 x3 x4 x5 x6 x7 x8 x9 x10 x11 x12 = (0 : Int32) then w_KNOWN_UNSUPPORTED else w_UNKNOWN)) ∧ Fr n0 L ∧ Keep h0 h []
set_option maxRecDepth 65536 in
set_option maxHeartbeats 40000000 in
theorem ats_e (l : Launch) (Z : State) (a0 : Array Value) (hw : ∀ d ∈ tables_1, d.before a0 Z = true) (ws : List Jvm.Cond) (a2 : Addr) (b1 : Addr) (k1 : ClassId) (f1 : Nat → Value) (x0 : Int32) (x1 : Int32) (x2 : Int32) (x3 : Int32) (x4 : Int32) (x5 : Int32) (x6 : Int32) (x7 : Int32) (x8 : Int32) (x9 : Int32) (x10 : Int32) (x11 : Int32) (x12 : Int32) (w_UNKNOWN : Addr) (w_KNOWN_UNSUPPORTED : Addr) (w_COMPACT_STRINGS : Int32) (h0 : Heap) (n0 : Nat) (Z0 : n0 ≤ h0.size) (S_UNKNOWN : Stx Z n0 h0 "com/example/addenda/addenda/nfsv4/Probe$State" "UNKNOWN" "Lcom/example/addenda/addenda/nfsv4/Probe$State;" (.ref w_UNKNOWN)) (S_KNOWN_UNSUPPORTED : Stx Z n0 h0 "com/example/addenda/addenda/nfsv4/Probe$State" "KNOWN_UNSUPPORTED" "Lcom/example/addenda/addenda/nfsv4/Probe$State;" (.ref w_KNOWN_UNSUPPORTED)) (S_COMPACT_STRINGS : Stx Z n0 h0 "java/lang/String" "COMPACT_STRINGS" "Z" (.int w_COMPACT_STRINGS)) (E_a2 : Exa Z h0 a2 "java/lang/String") (Fc1 : Fld Z h0 a2 "java/lang/String" "coder" "B" (.int (0 : Int32))) (Fv1 : Fld Z h0 a2 "java/lang/String" "value" "[B" (.ref b1)) (V1 : Arf Z h0 b1 k1 .byte (13 : Int32) f1) (hx0 : f1 0 = .int x0) (hx1 : f1 1 = .int x1) (hx2 : f1 2 = .int x2) (hx3 : f1 3 = .int x3) (hx4 : f1 4 = .int x4) (hx5 : f1 5 = .int x5) (hx6 : f1 6 = .int x6) (hx7 : f1 7 = .int x7) (hx8 : f1 8 = .int x8) (hx9 : f1 9 = .int x9) (hx10 : f1 10 = .int x10) (hx11 : f1 11 = .int x11) (hx12 : f1 12 = .int x12) (hcs : ¬ (w_COMPACT_STRINGS = (0 : Int32))) :
    MetFree l (⟨"com/example/addenda/addenda/nfsv4/Probe", "attributeState", "(ZLjava/lang/String;Z)Lcom/example/addenda/addenda/nfsv4/Probe$State;"⟩ : MethodName) (head1 (Jvm.Cond.code (⟨"com/example/addenda/addenda/nfsv4/Probe", "attributeState", "(ZLjava/lang/String;Z)Lcom/example/addenda/addenda/nfsv4/Probe$State;"⟩ : MethodName) prog_22_method_14_code 3 (some (.object "com/example/addenda/addenda/nfsv4/Probe$State")) :: ws) ({ frames := 2, cells := 2, slots := 56, locals := 28 } : Room)) (fun a U => a = #[(.int (0 : Int32)), (.ref a2), (.int (1 : Int32))] ∧ Z.Warmed39 U.vm ∧ U.heap = h0 ∧ CHv Z consts_1 U.vm h0) (fun _ _ _ _ _ => True) (fun _ U o U' => ∃ v L, o = .returned v ∧ Q_ats_e Z a2 b1 k1 f1 x0 x1 x2 x3 x4 x5 x6 x7 x8 x9 x10 x11 x12 w_UNKNOWN w_KNOWN_UNSUPPORTED w_COMPACT_STRINGS h0 n0 v U'.heap L ∧ CHr Z consts_1 U.vm U.heap U'.vm U'.heap ∧ ReturnedEndW U o U' L ({ frames := 2, cells := 2, slots := 56, locals := 28 } : Room).cells ({ frames := 2, cells := 2, slots := 56, locals := 28 } : Room).slots) := by
  refine MetFree.of_bodySF (plainFor_of_name pn_176) hisR ?_
  intro p e s m args below meth c s₁ Bd hml0 hP hK
  obtain ⟨rfl, hZ, hh, hCH⟩ := hP
  have hx := Bd.exec
  have hby := Bd.bytes
  have hml : c.maxLocals = 3 := hml0
  have hown : s.vm.findClass "com/example/addenda/addenda/nfsv4/Probe" = some m.cls := findClass_of_methodNamed Bd.named
  have hnm := (name_of_methodNamed Bd.named Bd.method).1
  have X0 : Stand p l e ({ frames := 2, cells := 2, slots := 56, locals := 28 } : Room) s m #[(.int (0 : Int32)), (.ref a2), (.int (1 : Int32))] below meth c s₁ [] 0 0 := Stand.of_body Bd
  have e0 : s₁.heap = h0 := by rw [← hh, Bd.state]; rfl
  have N0 := Fr.nil n0
  show Go p e below (s₁.setTop (entryFrame m #[(.int (0 : Int32)), (.ref a2), (.int (1 : Int32))] 3)) (fun o U' => ∃ v L, o = .returned v ∧ Q_ats_e Z a2 b1 k1 f1 x0 x1 x2 x3 x4 x5 x6 x7 x8 x9 x10 x11 x12 w_UNKNOWN w_KNOWN_UNSUPPORTED w_COMPACT_STRINGS h0 n0 v U'.heap L ∧ CHr Z consts_1 s.vm s.heap U'.vm U'.heap ∧ ReturnedEndW s o U' L ({ frames := 2, cells := 2, slots := 56, locals := 28 } : Room).cells ({ frames := 2, cells := 2, slots := 56, locals := 28 } : Room).slots)
  rw [ef_ats_e]
  refine Gk.iloadN X0 hx (hb hby d1_0) rfl ?_
  refine Gk.ifYes X0 hx (hb hby d1_1) (teq (by decide : (0 : Int32) = (0 : Int32))).1 8 (by decide) (by decide) ?_
  refine Gk.iloadN X0 hx (hb hby d1_8) rfl ?_
  refine Gk.ifYes X0 hx (hb hby d1_9) (feq (by decide : ¬ ((1 : Int32) = (0 : Int32)))).2 16 (by decide) (by decide) ?_
  refine Gk.aloadN X0 hx (hb hby d1_16) rfl rfl ?_
  have R2_ := CHr.refl hCH
  refine Gk.ldcH (s := s) (show Stand p l e _ (s.setVm s.vm) m _ below meth c _ _ _ _ from X0) hx hZ hown (hw _ (List.mem_of_getElem? (i := 72) rfl)) (own_wS hw) e0 ((State.WarmedH.refl s).since 0) (Nat.zero_le _) (own_EW hw) (List.mem_of_getElem? (i := 0) rfl) R2_.1 lit0T (hb hby d1_17) (n := 52) (by decide) (by decide) (by decide) (by decide) ?_
  intro la1 T1 h1 kS1 lb1 lk1 X1 e1 E1 S1_ q1_ Z1_ o1_ lA1 lFc1 lFv1 lV1 llt1 lltb1 C1_ Lt1_ d1_
  have R1_ := R2_.trans C1_
  have H4 := (Fv1.ext E1)
  have H5 := (V1.ext E1)
  have H6 := (Fc1.ext E1)
  have H7 := (S_COMPACT_STRINGS.ext E1)
  have H8 := (E_a2.ext E1)
  refine Gk.callV (argsL := [(.ref la1)]) X1 hx Z1_ o1_ (se_e l Z a0 hw [] a2 la1 b1 k1 f1 x0 x1 x2 x3 x4 x5 x6 x7 x8 x9 x10 x11 x12 lb1 lk1 (fun i => .int ((fun j_ => lit0L.getD j_ 0) i)) w_COMPACT_STRINGS h1 n0 (Nat.le_trans Z0 E1.1) H7 lA1 H6 H4 lFc1 lFv1 H5 lV1 hx0 hx1 hx2 hx3 hx4 hx5 hx6 hx7 hx8 hx9 hx10 hx11 hx12 rfl rfl rfl rfl rfl rfl rfl rfl rfl rfl rfl rfl rfl (fun e_ => own_sm13 (own_strEq H4 lFv1 H5 lV1 e_).2 hx0 hx1 hx2 hx3 hx4 hx5 hx6 hx7 hx8 hx9 hx10 hx11 hx12) hcs) (hw _ (List.mem_of_getElem? (i := 73) rfl)) (hw _ (List.mem_of_getElem? (i := 74) rfl)) (notFace_of_selects (args := #[]) (mvT Z1_ (hw _ (List.mem_of_getElem? (i := 76) rfl)))) (hw _ (List.mem_of_getElem? (i := 76) rfl)) (hw _ (List.mem_of_getElem? (i := 75) rfl)) (by decide) (hw _ (List.mem_of_getElem? (i := 77) rfl)) (hw _ (List.mem_of_getElem? (i := 3) rfl)) e1 H8 pd_9 rfl rfl (by decide) (Nat.le_of_ble_eq_true rfl) (by decide) (by decide) (by rw [hml]; rfl)  rfl (hb hby d1_19) ?_
  intro T3 L3 v3 X3 hQ3
  obtain ⟨rfl, N3q, e3⟩ := hQ3
  have N3 := Fr.app N0 N3q
  show Go p e below (T3.setTop (mkF m 22 #[.val (.int (0 : Int32)), .val (.ref a2), .val (.int (1 : Int32))] [(.int (eq13 x0 x1 x2 x3 x4 x5 x6 x7 x8 x9 x10 x11 x12))])) _
  by_cases hc22 : (eq13 x0 x1 x2 x3 x4 x5 x6 x7 x8 x9 x10 x11 x12) = (0 : Int32)
  · refine Gk.ifYes X3 hx (hb hby d1_22) (teq hc22).1 31 (by decide) (by decide) ?_
    have H9 := (S_KNOWN_UNSUPPORTED.ext E1)
    refine Gk.getS X3 hx Z1_ o1_ (host := "") (Or.inl (hw _ (List.mem_of_getElem? (i := 82) rfl))) Via.refl e3 H9.sta (hb hby d1_31) ?_
    intro T10 X10 e10
    refine Gk.finWV (s := s) X10 e10 S1_ (Nat.le_trans q1_ (Nat.le_refl _)) (v := some (.ref w_KNOWN_UNSUPPORTED)) (fun h_ => by rw [Bd.returns] at h_; cases h_) Bd.notSynchronized (fun _ hr => retOut X10 hx Bd.returns rfl (Or.inr (Or.inr (Or.inr (Or.inr ⟨rfl, rfl, rfl⟩)))) (hb hby d1_34) hr) (fun U' hU hV_ hF => ⟨_, _, rfl, ?_, ?_, hF.1, hF.2.1, hF.2.2.1, hF.2.2.2.mono (by decide) (by decide)⟩)
    · rw [hU, e10]; exact ⟨(congrArg (fun z_ : Addr => some (Value.ref z_)) (show w_KNOWN_UNSUPPORTED = (if eq13 x0 x1 x2 x3 x4 x5 x6 x7 x8 x9 x10 x11 x12 = (0 : Int32) then w_KNOWN_UNSUPPORTED else w_UNKNOWN) from (if_pos hc22).symm)), N3, ((Keep.refl h0 []).ext E1)⟩
    · rw [hU, hV_, hh, e10]; exact R1_.trans (CHv.at X10 Z1_ (own_EW hw) R1_.1)
  · refine Gk.ifNo X3 hx (hb hby d1_22) (feq hc22).1 ?_
    have H12 := (S_UNKNOWN.ext E1)
    refine Gk.getS X3 hx Z1_ o1_ (host := "") (Or.inl (hw _ (List.mem_of_getElem? (i := 85) rfl))) Via.refl e3 H12.sta (hb hby d1_25) ?_
    intro T13 X13 e13
    refine Gk.goto X13 hx (hb hby d1_28) 34 (by decide) (by decide) ?_
    refine Gk.finWV (s := s) X13 e13 S1_ (Nat.le_trans q1_ (Nat.le_refl _)) (v := some (.ref w_UNKNOWN)) (fun h_ => by rw [Bd.returns] at h_; cases h_) Bd.notSynchronized (fun _ hr => retOut X13 hx Bd.returns rfl (Or.inr (Or.inr (Or.inr (Or.inr ⟨rfl, rfl, rfl⟩)))) (hb hby d1_34) hr) (fun U' hU hV_ hF => ⟨_, _, rfl, ?_, ?_, hF.1, hF.2.1, hF.2.2.1, hF.2.2.2.mono (by decide) (by decide)⟩)
    · rw [hU, e13]; exact ⟨(congrArg (fun z_ : Addr => some (Value.ref z_)) (show w_UNKNOWN = (if eq13 x0 x1 x2 x3 x4 x5 x6 x7 x8 x9 x10 x11 x12 = (0 : Int32) then w_KNOWN_UNSUPPORTED else w_UNKNOWN) from (if_neg hc22).symm)), N3, ((Keep.refl h0 []).ext E1)⟩
    · rw [hU, hV_, hh, e13]; exact R1_.trans (CHv.at X13 Z1_ (own_EW hw) R1_.1)
theorem ef_ats_n (m : MethodId) (a2 : Addr) : entryFrame m #[(.int (0 : Int32)), (.ref a2), (.int (1 : Int32))] 3 = mkF m 0 #[.val (.int (0 : Int32)), .val (.ref a2), .val (.int (1 : Int32))] [] := by first | (simp [entryFrame, mkF, argsToLocals, Value.category]; done) | rfl
def Q_ats_n (Z : State) (a2 : Addr) (b1 : Addr) (k1 : ClassId) (f1 : Nat → Value) (n1 : Int32) (w_COMPACT_STRINGS : Int32) (w_KNOWN_UNSUPPORTED : Addr) (h0 : Heap) (n0 : Nat) (v : Option Value) (h : Heap) (L : List Loc) : Prop := v = some (.ref w_KNOWN_UNSUPPORTED) ∧ Fr n0 L ∧ Keep h0 h []
set_option maxRecDepth 65536 in
set_option maxHeartbeats 40000000 in
theorem ats_n (l : Launch) (Z : State) (a0 : Array Value) (hw : ∀ d ∈ tables_1, d.before a0 Z = true) (ws : List Jvm.Cond) (a2 : Addr) (b1 : Addr) (k1 : ClassId) (f1 : Nat → Value) (n1 : Int32) (w_COMPACT_STRINGS : Int32) (w_KNOWN_UNSUPPORTED : Addr) (h0 : Heap) (n0 : Nat) (Z0 : n0 ≤ h0.size) (S_COMPACT_STRINGS : Stx Z n0 h0 "java/lang/String" "COMPACT_STRINGS" "Z" (.int w_COMPACT_STRINGS)) (S_KNOWN_UNSUPPORTED : Stx Z n0 h0 "com/example/addenda/addenda/nfsv4/Probe$State" "KNOWN_UNSUPPORTED" "Lcom/example/addenda/addenda/nfsv4/Probe$State;" (.ref w_KNOWN_UNSUPPORTED)) (E_a2 : Exa Z h0 a2 "java/lang/String") (Fc1 : Fld Z h0 a2 "java/lang/String" "coder" "B" (.int (0 : Int32))) (Fv1 : Fld Z h0 a2 "java/lang/String" "value" "[B" (.ref b1)) (V1 : Arf Z h0 b1 k1 .byte n1 f1) (hne : ¬ (n1 = (13 : Int32))) (hnn : ¬ (n1.toNatClampNeg = (13 : Int32).toNatClampNeg)) (hcs : ¬ (w_COMPACT_STRINGS = (0 : Int32))) :
    MetFree l (⟨"com/example/addenda/addenda/nfsv4/Probe", "attributeState", "(ZLjava/lang/String;Z)Lcom/example/addenda/addenda/nfsv4/Probe$State;"⟩ : MethodName) (head1 (Jvm.Cond.code (⟨"com/example/addenda/addenda/nfsv4/Probe", "attributeState", "(ZLjava/lang/String;Z)Lcom/example/addenda/addenda/nfsv4/Probe$State;"⟩ : MethodName) prog_22_method_14_code 3 (some (.object "com/example/addenda/addenda/nfsv4/Probe$State")) :: ws) ({ frames := 2, cells := 2, slots := 56, locals := 28 } : Room)) (fun a U => a = #[(.int (0 : Int32)), (.ref a2), (.int (1 : Int32))] ∧ Z.Warmed39 U.vm ∧ U.heap = h0 ∧ CHv Z consts_1 U.vm h0) (fun _ _ _ _ _ => True) (fun _ U o U' => ∃ v L, o = .returned v ∧ Q_ats_n Z a2 b1 k1 f1 n1 w_COMPACT_STRINGS w_KNOWN_UNSUPPORTED h0 n0 v U'.heap L ∧ CHr Z consts_1 U.vm U.heap U'.vm U'.heap ∧ ReturnedEndW U o U' L ({ frames := 2, cells := 2, slots := 56, locals := 28 } : Room).cells ({ frames := 2, cells := 2, slots := 56, locals := 28 } : Room).slots) := by
  refine MetFree.of_bodySF (plainFor_of_name pn_176) hisR ?_
  intro p e s m args below meth c s₁ Bd hml0 hP hK
  obtain ⟨rfl, hZ, hh, hCH⟩ := hP
  have hx := Bd.exec
  have hby := Bd.bytes
  have hml : c.maxLocals = 3 := hml0
  have hown : s.vm.findClass "com/example/addenda/addenda/nfsv4/Probe" = some m.cls := findClass_of_methodNamed Bd.named
  have hnm := (name_of_methodNamed Bd.named Bd.method).1
  have X0 : Stand p l e ({ frames := 2, cells := 2, slots := 56, locals := 28 } : Room) s m #[(.int (0 : Int32)), (.ref a2), (.int (1 : Int32))] below meth c s₁ [] 0 0 := Stand.of_body Bd
  have e0 : s₁.heap = h0 := by rw [← hh, Bd.state]; rfl
  have N0 := Fr.nil n0
  show Go p e below (s₁.setTop (entryFrame m #[(.int (0 : Int32)), (.ref a2), (.int (1 : Int32))] 3)) (fun o U' => ∃ v L, o = .returned v ∧ Q_ats_n Z a2 b1 k1 f1 n1 w_COMPACT_STRINGS w_KNOWN_UNSUPPORTED h0 n0 v U'.heap L ∧ CHr Z consts_1 s.vm s.heap U'.vm U'.heap ∧ ReturnedEndW s o U' L ({ frames := 2, cells := 2, slots := 56, locals := 28 } : Room).cells ({ frames := 2, cells := 2, slots := 56, locals := 28 } : Room).slots)
  rw [ef_ats_n]
  refine Gk.iloadN X0 hx (hb hby d1_0) rfl ?_
  refine Gk.ifYes X0 hx (hb hby d1_1) (teq (by decide : (0 : Int32) = (0 : Int32))).1 8 (by decide) (by decide) ?_
  refine Gk.iloadN X0 hx (hb hby d1_8) rfl ?_
  refine Gk.ifYes X0 hx (hb hby d1_9) (feq (by decide : ¬ ((1 : Int32) = (0 : Int32)))).2 16 (by decide) (by decide) ?_
  refine Gk.aloadN X0 hx (hb hby d1_16) rfl rfl ?_
  have R2_ := CHr.refl hCH
  refine Gk.ldcH (s := s) (show Stand p l e _ (s.setVm s.vm) m _ below meth c _ _ _ _ from X0) hx hZ hown (hw _ (List.mem_of_getElem? (i := 72) rfl)) (own_wS hw) e0 ((State.WarmedH.refl s).since 0) (Nat.zero_le _) (own_EW hw) (List.mem_of_getElem? (i := 0) rfl) R2_.1 lit0T (hb hby d1_17) (n := 52) (by decide) (by decide) (by decide) (by decide) ?_
  intro la1 T1 h1 kS1 lb1 lk1 X1 e1 E1 S1_ q1_ Z1_ o1_ lA1 lFc1 lFv1 lV1 llt1 lltb1 C1_ Lt1_ d1_
  have R1_ := R2_.trans C1_
  have H4 := (Fv1.ext E1)
  have H5 := (V1.ext E1)
  have H6 := (Fc1.ext E1)
  have H7 := (S_COMPACT_STRINGS.ext E1)
  have H8 := (E_a2.ext E1)
  refine Gk.callV (argsL := [(.ref la1)]) X1 hx Z1_ o1_ (se_n l Z a0 hw [] a2 la1 b1 k1 f1 n1 lb1 lk1 (fun i => .int ((fun j_ => lit0L.getD j_ 0) i)) w_COMPACT_STRINGS h1 n0 (Nat.le_trans Z0 E1.1) H7 lA1 H6 H4 lFc1 lFv1 H5 lV1 hne (fun e_ => hnn (own_strEq H4 lFv1 H5 lV1 e_).1) hcs) (hw _ (List.mem_of_getElem? (i := 73) rfl)) (hw _ (List.mem_of_getElem? (i := 74) rfl)) (notFace_of_selects (args := #[]) (mvT Z1_ (hw _ (List.mem_of_getElem? (i := 76) rfl)))) (hw _ (List.mem_of_getElem? (i := 76) rfl)) (hw _ (List.mem_of_getElem? (i := 75) rfl)) (by decide) (hw _ (List.mem_of_getElem? (i := 77) rfl)) (hw _ (List.mem_of_getElem? (i := 3) rfl)) e1 H8 pd_9 rfl rfl (by decide) (Nat.le_of_ble_eq_true rfl) (by decide) (by decide) (by rw [hml]; rfl)  rfl (hb hby d1_19) ?_
  intro T3 L3 v3 X3 hQ3
  obtain ⟨rfl, N3q, e3⟩ := hQ3
  have N3 := Fr.app N0 N3q
  show Go p e below (T3.setTop (mkF m 22 #[.val (.int (0 : Int32)), .val (.ref a2), .val (.int (1 : Int32))] [(.int (0 : Int32))])) _
  refine Gk.ifYes X3 hx (hb hby d1_22) (teq (by decide : (0 : Int32) = (0 : Int32))).1 31 (by decide) (by decide) ?_
  have H9 := (S_KNOWN_UNSUPPORTED.ext E1)
  refine Gk.getS X3 hx Z1_ o1_ (host := "") (Or.inl (hw _ (List.mem_of_getElem? (i := 82) rfl))) Via.refl e3 H9.sta (hb hby d1_31) ?_
  intro T10 X10 e10
  refine Gk.finWV (s := s) X10 e10 S1_ (Nat.le_trans q1_ (Nat.le_refl _)) (v := some (.ref w_KNOWN_UNSUPPORTED)) (fun h_ => by rw [Bd.returns] at h_; cases h_) Bd.notSynchronized (fun _ hr => retOut X10 hx Bd.returns rfl (Or.inr (Or.inr (Or.inr (Or.inr ⟨rfl, rfl, rfl⟩)))) (hb hby d1_34) hr) (fun U' hU hV_ hF => ⟨_, _, rfl, ?_, ?_, hF.1, hF.2.1, hF.2.2.1, hF.2.2.2.mono (by decide) (by decide)⟩)
  · rw [hU, e10]; exact ⟨(congrArg (fun z_ : Addr => some (Value.ref z_)) (show w_KNOWN_UNSUPPORTED = w_KNOWN_UNSUPPORTED from rfl)), N3, ((Keep.refl h0 []).ext E1)⟩
  · rw [hU, hV_, hh, e10]; exact R1_.trans (CHv.at X10 Z1_ (own_EW hw) R1_.1)
theorem pd_10 : parseMethodDescriptor "(ZLjava/lang/String;Z)Lcom/example/addenda/addenda/nfsv4/Probe$State;" = some ⟨[.boolean, (.object "java/lang/String"), .boolean], some (.object "com/example/addenda/addenda/nfsv4/Probe$State")⟩ := by decide +kernel
theorem pd_11 : parseMethodDescriptor "([C)V" = some ⟨[(.array .char)], none⟩ := by decide +kernel
theorem pd_12 : parseMethodDescriptor "(I)C" = some ⟨[.int], some .char⟩ := by decide +kernel
theorem pn_190 : plainName "com/example/addenda/addenda/nfsv4/ProbeAttributeStatePinLaw" = true := by first | (simp [plainName, overriddenIn]; done) | decide +kernel
theorem ef_rm0 (m : MethodId) (p1 : Int32) (p2 : Int32) (p3 : Int32) (p4 : Int32) (p5 : Int32) : entryFrame m #[(.int p1), (.int p2), (.int p3), (.int p4), (.int p5)] maxLocals = mkF m 0 #[.val (.int p1), .val (.int p2), .val (.int p3), .val (.int p4), .val (.int p5), .unset, .unset, .unset, .unset, .unset, .unset, .unset, .unset, .unset, .unset, .unset] [] := by first | (simp [entryFrame, mkF, argsToLocals, Value.category, maxLocals]; done) | rfl
def Q_rm0 (Z : State) (p1 : Int32) (p2 : Int32) (p3 : Int32) (p4 : Int32) (p5 : Int32) (w_SUPPORTED : Addr) (w_UNDETERMINED : Addr) (w_UNKNOWN : Addr) (w_KNOWN_UNSUPPORTED : Addr) (w_COMPACT_STRINGS : Int32) (w_SIOOBE_FORMATTER : Value) (h0 : Heap) (n0 : Nat) (v : Option Value) (h : Heap) (L : List Loc) : Prop := v = some (.int (1 : Int32)) ∧ Fr n0 L
set_option maxRecDepth 65536 in
set_option maxHeartbeats 40000000 in
theorem rm0 (l : Launch) (Z : State) (a0 : Array Value) (hw : ∀ d ∈ tables_1, d.before a0 Z = true) (ws : List Jvm.Cond) (p1 : Int32) (p2 : Int32) (p3 : Int32) (p4 : Int32) (p5 : Int32) (w_SUPPORTED : Addr) (w_UNDETERMINED : Addr) (w_UNKNOWN : Addr) (w_KNOWN_UNSUPPORTED : Addr) (w_COMPACT_STRINGS : Int32) (w_SIOOBE_FORMATTER : Value) (h0 : Heap) (n0 : Nat) (Z0 : n0 ≤ h0.size) (S_SUPPORTED : Stx Z n0 h0 "com/example/addenda/addenda/nfsv4/Probe$State" "SUPPORTED" "Lcom/example/addenda/addenda/nfsv4/Probe$State;" (.ref w_SUPPORTED)) (S_UNDETERMINED : Stx Z n0 h0 "com/example/addenda/addenda/nfsv4/Probe$State" "UNDETERMINED" "Lcom/example/addenda/addenda/nfsv4/Probe$State;" (.ref w_UNDETERMINED)) (S_UNKNOWN : Stx Z n0 h0 "com/example/addenda/addenda/nfsv4/Probe$State" "UNKNOWN" "Lcom/example/addenda/addenda/nfsv4/Probe$State;" (.ref w_UNKNOWN)) (S_KNOWN_UNSUPPORTED : Stx Z n0 h0 "com/example/addenda/addenda/nfsv4/Probe$State" "KNOWN_UNSUPPORTED" "Lcom/example/addenda/addenda/nfsv4/Probe$State;" (.ref w_KNOWN_UNSUPPORTED)) (S_COMPACT_STRINGS : Stx Z n0 h0 "java/lang/String" "COMPACT_STRINGS" "Z" (.int w_COMPACT_STRINGS)) (S_SIOOBE_FORMATTER : Stx Z n0 h0 "jdk/internal/util/Preconditions" "SIOOBE_FORMATTER" "Ljava/util/function/BiFunction;" w_SIOOBE_FORMATTER) (hcs : ¬ (w_COMPACT_STRINGS = (0 : Int32))) (hsf : w_SIOOBE_FORMATTER.isRef = true) (hn0 : n0 = h0.size) :
    MetFree l x (head1 (Jvm.Cond.code x code maxLocals ret :: ws) room_1) (fun a U => a = #[(.int p1), (.int p2), (.int p3), (.int p4), (.int p5)] ∧ Z.Warmed39 U.vm ∧ U.heap = h0 ∧ CHv Z consts_1 U.vm h0) (fun _ _ _ _ _ => True) (fun _ U o U' => ∃ v L, o = .returned v ∧ Q_rm0 Z p1 p2 p3 p4 p5 w_SUPPORTED w_UNDETERMINED w_UNKNOWN w_KNOWN_UNSUPPORTED w_COMPACT_STRINGS w_SIOOBE_FORMATTER h0 n0 v U'.heap L ∧ ReturnedEndW U o U' L room_1.cells room_1.slots) := by
  refine MetFree.of_bodySF (plainFor_of_name pn_190) hisR ?_
  intro p e s m args below meth c s₁ Bd hml0 hP hK
  obtain ⟨rfl, hZ, hh, hCH⟩ := hP
  have hx := Bd.exec
  have hby := Bd.bytes
  have hml : c.maxLocals = 16 := hml0
  have hown : s.vm.findClass "com/example/addenda/addenda/nfsv4/ProbeAttributeStatePinLaw" = some m.cls := findClass_of_methodNamed Bd.named
  have hnm := (name_of_methodNamed Bd.named Bd.method).1
  have X0 : Stand p l e room_1 s m #[(.int p1), (.int p2), (.int p3), (.int p4), (.int p5)] below meth c s₁ [] 0 0 := Stand.of_body Bd
  have e0 : s₁.heap = h0 := by rw [← hh, Bd.state]; rfl
  have N0 := Fr.nil n0
  show Go p e below (s₁.setTop (entryFrame m #[(.int p1), (.int p2), (.int p3), (.int p4), (.int p5)] maxLocals)) (fun o U' => ∃ v L, o = .returned v ∧ Q_rm0 Z p1 p2 p3 p4 p5 w_SUPPORTED w_UNDETERMINED w_UNKNOWN w_KNOWN_UNSUPPORTED w_COMPACT_STRINGS w_SIOOBE_FORMATTER h0 n0 v U'.heap L ∧ ReturnedEndW s o U' L room_1.cells room_1.slots)
  rw [ef_rm0]
  refine Gk.iloadN X0 hx (hb hby at_0) rfl ?_
  refine Gk.iconst X0 hx (hb hby at_1) (1 : Int32) rfl ?_
  refine Gk.iand X0 hx (hb hby at_2) _ rfl ?_
  by_cases hc3 : (p1 &&& (1 : Int32)) = (0 : Int32)
  · refine Gk.ifYes X0 hx (hb hby at_3) (teq hc3).1 10 (by decide) (by decide) ?_
    refine Gk.iconst X0 hx (hb hby at_10) (0 : Int32) rfl ?_
    refine Gk.istore X0 hx (hb hby at_11) #[.val (.int p1), .val (.int p2), .val (.int p3), .val (.int p4), .val (.int p5), .val (.int (0 : Int32)), .unset, .unset, .unset, .unset, .unset, .unset, .unset, .unset, .unset, .unset] rfl ?_
    refine Gk.iloadN X0 hx (hb hby at_13) rfl ?_
    refine Gk.iconst X0 hx (hb hby at_14) (2 : Int32) rfl ?_
    refine Gk.iand X0 hx (hb hby at_15) _ rfl ?_
    by_cases hc16 : (p1 &&& (2 : Int32)) = (0 : Int32)
    · refine Gk.ifYes X0 hx (hb hby at_16) (teq hc16).1 23 (by decide) (by decide) ?_
      refine Gk.iconst X0 hx (hb hby at_23) (0 : Int32) rfl ?_
      refine Gk.istore X0 hx (hb hby at_24) #[.val (.int p1), .val (.int p2), .val (.int p3), .val (.int p4), .val (.int p5), .val (.int (0 : Int32)), .val (.int (0 : Int32)), .unset, .unset, .unset, .unset, .unset, .unset, .unset, .unset, .unset] rfl ?_
      refine Gk.iloadN X0 hx (hb hby at_26) rfl ?_
      refine Gk.bipush X0 hx (hb hby at_27) (7 : Int32) rfl ?_
      refine Gk.iand X0 hx (hb hby at_29) _ rfl ?_
      obtain ⟨kk, ekk⟩ : ∃ z_ : Int32, z_ = (p2 &&& (7 : Int32)) := ⟨_, rfl⟩
      show Go p e below (s₁.setTop (mkF m 30 #[.val (.int p1), .val (.int p2), .val (.int p3), .val (.int p4), .val (.int p5), .val (.int (0 : Int32)), .val (.int (0 : Int32)), .unset, .unset, .unset, .unset, .unset, .unset, .unset, .unset, .unset] [(.int (p2 &&& (7 : Int32)))])) _
      rw [← ekk]
      refine Gk.istore X0 hx (hb hby at_30) #[.val (.int p1), .val (.int p2), .val (.int p3), .val (.int p4), .val (.int p5), .val (.int (0 : Int32)), .val (.int (0 : Int32)), .val (.int kk), .unset, .unset, .unset, .unset, .unset, .unset, .unset, .unset] rfl ?_
      refine Gk.iloadN X0 hx (hb hby at_32) rfl ?_
      refine Gk.ldcI X0 hx hZ hown (hw _ (List.mem_of_getElem? (i := 0) rfl)) (hb hby at_33) ?_
      refine Gk.iand X0 hx (hb hby at_35) _ rfl ?_
      refine Gk.bipush X0 hx (hb hby at_36) (13 : Int32) rfl ?_
      refine Gk.irem X0 hx (hb hby at_38) (by decide) _ rfl ?_
      obtain ⟨pos, epos⟩ : ∃ z_ : Int32, z_ = ((p3 &&& (2147483647 : Int32)) % (13 : Int32)) := ⟨_, rfl⟩
      show Go p e below (s₁.setTop (mkF m 39 #[.val (.int p1), .val (.int p2), .val (.int p3), .val (.int p4), .val (.int p5), .val (.int (0 : Int32)), .val (.int (0 : Int32)), .val (.int kk), .unset, .unset, .unset, .unset, .unset, .unset, .unset, .unset] [(.int ((p3 &&& (2147483647 : Int32)) % (13 : Int32)))])) _
      rw [← epos]
      refine Gk.istore X0 hx (hb hby at_39) #[.val (.int p1), .val (.int p2), .val (.int p3), .val (.int p4), .val (.int p5), .val (.int (0 : Int32)), .val (.int (0 : Int32)), .val (.int kk), .val (.int pos), .unset, .unset, .unset, .unset, .unset, .unset, .unset] rfl ?_
      refine Gk.iloadN X0 hx (hb hby at_41) rfl ?_
      refine Gk.sipush X0 hx (hb hby at_42) (255 : Int32) rfl ?_
      refine Gk.iand X0 hx (hb hby at_45) _ rfl ?_
      refine Gk.i2c X0 hx (hb hby at_46) _ rfl ?_
      obtain ⟨ch, ech⟩ : ∃ z_ : Int32, z_ = ((p4 &&& (255 : Int32)).toUInt32.toUInt16.toUInt32.toInt32) := ⟨_, rfl⟩
      show Go p e below (s₁.setTop (mkF m 47 #[.val (.int p1), .val (.int p2), .val (.int p3), .val (.int p4), .val (.int p5), .val (.int (0 : Int32)), .val (.int (0 : Int32)), .val (.int kk), .val (.int pos), .unset, .unset, .unset, .unset, .unset, .unset, .unset] [(.int ((p4 &&& (255 : Int32)).toUInt32.toUInt16.toUInt32.toInt32))])) _
      rw [← ech]
      refine Gk.istore X0 hx (hb hby at_47) #[.val (.int p1), .val (.int p2), .val (.int p3), .val (.int p4), .val (.int p5), .val (.int (0 : Int32)), .val (.int (0 : Int32)), .val (.int kk), .val (.int pos), .val (.int ch), .unset, .unset, .unset, .unset, .unset, .unset] rfl ?_
      refine Gk.iload X0 hx (hb hby at_49) rfl ?_
      refine Gk.sipush X0 hx (hb hby at_51) (255 : Int32) rfl ?_
      refine Gk.iand X0 hx (hb hby at_54) _ rfl ?_
      refine Gk.i2c X0 hx (hb hby at_55) _ rfl ?_
      obtain ⟨tail, etail⟩ : ∃ z_ : Int32, z_ = ((p5 &&& (255 : Int32)).toUInt32.toUInt16.toUInt32.toInt32) := ⟨_, rfl⟩
      show Go p e below (s₁.setTop (mkF m 56 #[.val (.int p1), .val (.int p2), .val (.int p3), .val (.int p4), .val (.int p5), .val (.int (0 : Int32)), .val (.int (0 : Int32)), .val (.int kk), .val (.int pos), .val (.int ch), .unset, .unset, .unset, .unset, .unset, .unset] [(.int ((p5 &&& (255 : Int32)).toUInt32.toUInt16.toUInt32.toInt32))])) _
      rw [← etail]
      refine Gk.istore X0 hx (hb hby at_56) #[.val (.int p1), .val (.int p2), .val (.int p3), .val (.int p4), .val (.int p5), .val (.int (0 : Int32)), .val (.int (0 : Int32)), .val (.int kk), .val (.int pos), .val (.int ch), .val (.int tail), .unset, .unset, .unset, .unset, .unset] rfl ?_
      refine Gk.bipush X0 hx (hb hby at_58) (13 : Int32) rfl ?_
      refine Gk.newP X0 hx hZ (hw _ (List.mem_of_getElem? (i := 1) rfl)) e0 (hb hby at_60) (by decide) (cap := 13) (by decide) (by decide) (by decide) (by decide) rfl ?_
      intro T1 h1 b1 k1 X1 e1 E1 g1 A1 B1
      have g_b1 : n0 ≤ b1 := Nat.le_trans Z0 (Nat.le_of_eq g1.symm)
      have V_b1 : Arf Z h1 b1 k1 .char (13 : Int32) (fun _ => (.int (0 : Int32))) := A1
      have lt_b1 := V_b1.lt
      refine Gk.dup X1 hx (hb hby at_62) rfl ?_
      refine Gk.iconst X1 hx (hb hby at_63) (0 : Int32) rfl ?_
      refine Gk.bipush X1 hx (hb hby at_64) (78 : Int32) rfl ?_
      refine Gk.castore X1 hx hZ e1 V_b1 0 rfl ⟨by decide, by decide⟩ (.int (78 : Int32)) rfl (hb hby at_66) ?_
      intro T2 h2 X2 e2 W2 V2
      have N2 := Fr.snoc X2 N0 g_b1
      refine Gk.dup X2 hx (hb hby at_67) rfl ?_
      refine Gk.iconst X2 hx (hb hby at_68) (1 : Int32) rfl ?_
      refine Gk.bipush X2 hx (hb hby at_69) (70 : Int32) rfl ?_
      refine Gk.castore X2 hx hZ e2 V2 1 rfl ⟨by decide, by decide⟩ (.int (70 : Int32)) rfl (hb hby at_71) ?_
      intro T3 h3 X3 e3 W3 V3
      have N3 := Fr.snoc X3 N2 g_b1
      refine Gk.dup X3 hx (hb hby at_72) rfl ?_
      refine Gk.iconst X3 hx (hb hby at_73) (2 : Int32) rfl ?_
      refine Gk.bipush X3 hx (hb hby at_74) (83 : Int32) rfl ?_
      refine Gk.castore X3 hx hZ e3 V3 2 rfl ⟨by decide, by decide⟩ (.int (83 : Int32)) rfl (hb hby at_76) ?_
      intro T4 h4 X4 e4 W4 V4
      have N4 := Fr.snoc X4 N3 g_b1
      refine Gk.dup X4 hx (hb hby at_77) rfl ?_
      refine Gk.iconst X4 hx (hb hby at_78) (3 : Int32) rfl ?_
      refine Gk.bipush X4 hx (hb hby at_79) (52 : Int32) rfl ?_
      refine Gk.castore X4 hx hZ e4 V4 3 rfl ⟨by decide, by decide⟩ (.int (52 : Int32)) rfl (hb hby at_81) ?_
      intro T5 h5 X5 e5 W5 V5
      have N5 := Fr.snoc X5 N4 g_b1
      refine Gk.dup X5 hx (hb hby at_82) rfl ?_
      refine Gk.iconst X5 hx (hb hby at_83) (4 : Int32) rfl ?_
      refine Gk.bipush X5 hx (hb hby at_84) (69 : Int32) rfl ?_
      refine Gk.castore X5 hx hZ e5 V5 4 rfl ⟨by decide, by decide⟩ (.int (69 : Int32)) rfl (hb hby at_86) ?_
      intro T6 h6 X6 e6 W6 V6
      have N6 := Fr.snoc X6 N5 g_b1
      refine Gk.dup X6 hx (hb hby at_87) rfl ?_
      refine Gk.iconst X6 hx (hb hby at_88) (5 : Int32) rfl ?_
      refine Gk.bipush X6 hx (hb hby at_89) (82 : Int32) rfl ?_
      refine Gk.castore X6 hx hZ e6 V6 5 rfl ⟨by decide, by decide⟩ (.int (82 : Int32)) rfl (hb hby at_91) ?_
      intro T7 h7 X7 e7 W7 V7
      have N7 := Fr.snoc X7 N6 g_b1
      refine Gk.dup X7 hx (hb hby at_92) rfl ?_
      refine Gk.bipush X7 hx (hb hby at_93) (6 : Int32) rfl ?_
      refine Gk.bipush X7 hx (hb hby at_95) (82 : Int32) rfl ?_
      refine Gk.castore X7 hx hZ e7 V7 6 rfl ⟨by decide, by decide⟩ (.int (82 : Int32)) rfl (hb hby at_97) ?_
      intro T8 h8 X8 e8 W8 V8
      have N8 := Fr.snoc X8 N7 g_b1
      refine Gk.dup X8 hx (hb hby at_98) rfl ?_
      refine Gk.bipush X8 hx (hb hby at_99) (7 : Int32) rfl ?_
      refine Gk.bipush X8 hx (hb hby at_101) (95 : Int32) rfl ?_
      refine Gk.castore X8 hx hZ e8 V8 7 rfl ⟨by decide, by decide⟩ (.int (95 : Int32)) rfl (hb hby at_103) ?_
      intro T9 h9 X9 e9 W9 V9
      have N9 := Fr.snoc X9 N8 g_b1
      refine Gk.dup X9 hx (hb hby at_104) rfl ?_
      refine Gk.bipush X9 hx (hb hby at_105) (8 : Int32) rfl ?_
      refine Gk.bipush X9 hx (hb hby at_107) (73 : Int32) rfl ?_
      refine Gk.castore X9 hx hZ e9 V9 8 rfl ⟨by decide, by decide⟩ (.int (73 : Int32)) rfl (hb hby at_109) ?_
      intro T10 h10 X10 e10 W10 V10
      have N10 := Fr.snoc X10 N9 g_b1
      refine Gk.dup X10 hx (hb hby at_110) rfl ?_
      refine Gk.bipush X10 hx (hb hby at_111) (9 : Int32) rfl ?_
      refine Gk.bipush X10 hx (hb hby at_113) (78 : Int32) rfl ?_
      refine Gk.castore X10 hx hZ e10 V10 9 rfl ⟨by decide, by decide⟩ (.int (78 : Int32)) rfl (hb hby at_115) ?_
      intro T11 h11 X11 e11 W11 V11
      have N11 := Fr.snoc X11 N10 g_b1
      refine Gk.dup X11 hx (hb hby at_116) rfl ?_
      refine Gk.bipush X11 hx (hb hby at_117) (10 : Int32) rfl ?_
      refine Gk.bipush X11 hx (hb hby at_119) (86 : Int32) rfl ?_
      refine Gk.castore X11 hx hZ e11 V11 10 rfl ⟨by decide, by decide⟩ (.int (86 : Int32)) rfl (hb hby at_121) ?_
      intro T12 h12 X12 e12 W12 V12
      have N12 := Fr.snoc X12 N11 g_b1
      refine Gk.dup X12 hx (hb hby at_122) rfl ?_
      refine Gk.bipush X12 hx (hb hby at_123) (11 : Int32) rfl ?_
      refine Gk.bipush X12 hx (hb hby at_125) (65 : Int32) rfl ?_
      refine Gk.castore X12 hx hZ e12 V12 11 rfl ⟨by decide, by decide⟩ (.int (65 : Int32)) rfl (hb hby at_127) ?_
      intro T13 h13 X13 e13 W13 V13
      have N13 := Fr.snoc X13 N12 g_b1
      refine Gk.dup X13 hx (hb hby at_128) rfl ?_
      refine Gk.bipush X13 hx (hb hby at_129) (12 : Int32) rfl ?_
      refine Gk.bipush X13 hx (hb hby at_131) (76 : Int32) rfl ?_
      refine Gk.castore X13 hx hZ e13 V13 12 rfl ⟨by decide, by decide⟩ (.int (76 : Int32)) rfl (hb hby at_133) ?_
      intro T14 h14 X14 e14 W14 V14
      have N14 := Fr.snoc X14 N13 g_b1
      refine Gk.astore X14 hx (hb hby at_134) rfl #[.val (.int p1), .val (.int p2), .val (.int p3), .val (.int p4), .val (.int p5), .val (.int (0 : Int32)), .val (.int (0 : Int32)), .val (.int kk), .val (.int pos), .val (.int ch), .val (.int tail), .val (.ref b1), .unset, .unset, .unset, .unset] rfl ?_
      refine Gk.aload X14 hx (hb hby at_136) rfl rfl ?_
      refine Gk.iload X14 hx (hb hby at_138) rfl ?_
      refine Gk.iload X14 hx (hb hby at_140) rfl ?_
      refine Gk.castore X14 hx hZ e14 V14 pos.toNatClampNeg rfl (own_pos epos) (.int (nar .char ch)) rfl (hb hby at_142) ?_
      intro T15 h15 X15 e15 W15 V15
      have N15 := Fr.snoc X15 N14 g_b1
      refine Gk.bipush X15 hx (hb hby at_143) (14 : Int32) rfl ?_
      have gr17 := (Nat.le_trans (Nat.le_trans (Nat.le_trans (Nat.le_trans (Nat.le_trans (Nat.le_trans (Nat.le_trans (Nat.le_trans (Nat.le_trans (Nat.le_trans (Nat.le_trans (Nat.le_trans (Nat.le_trans (Nat.le_trans E1.1 (Keep.of_wr W2).1) (Keep.of_wr W3).1) (Keep.of_wr W4).1) (Keep.of_wr W5).1) (Keep.of_wr W6).1) (Keep.of_wr W7).1) (Keep.of_wr W8).1) (Keep.of_wr W9).1) (Keep.of_wr W10).1) (Keep.of_wr W11).1) (Keep.of_wr W12).1) (Keep.of_wr W13).1) (Keep.of_wr W14).1) (Keep.of_wr W15).1)
      refine Gk.newP X15 hx hZ (hw _ (List.mem_of_getElem? (i := 1) rfl)) e15 (hb hby at_145) (by decide) (cap := 14) (by decide) (by decide) (by decide) (by decide) rfl ?_
      intro T16 h16 b16 k16 X16 e16 E16 g16 A16 B16
      have g_b16 : n0 ≤ b16 := Nat.le_trans (Nat.le_trans Z0 gr17) (Nat.le_of_eq g16.symm)
      have V_b16 : Arf Z h16 b16 k16 .char (14 : Int32) (fun _ => (.int (0 : Int32))) := A16
      have lt_b16 := V_b16.lt
      refine Gk.dup X16 hx (hb hby at_147) rfl ?_
      refine Gk.iconst X16 hx (hb hby at_148) (0 : Int32) rfl ?_
      refine Gk.bipush X16 hx (hb hby at_149) (78 : Int32) rfl ?_
      refine Gk.castore X16 hx hZ e16 V_b16 0 rfl ⟨by decide, by decide⟩ (.int (78 : Int32)) rfl (hb hby at_151) ?_
      intro T18 h18 X18 e18 W18 V18
      have N18 := Fr.snoc X18 N15 g_b16
      refine Gk.dup X18 hx (hb hby at_152) rfl ?_
      refine Gk.iconst X18 hx (hb hby at_153) (1 : Int32) rfl ?_
      refine Gk.bipush X18 hx (hb hby at_154) (70 : Int32) rfl ?_
      refine Gk.castore X18 hx hZ e18 V18 1 rfl ⟨by decide, by decide⟩ (.int (70 : Int32)) rfl (hb hby at_156) ?_
      intro T19 h19 X19 e19 W19 V19
      have N19 := Fr.snoc X19 N18 g_b16
      refine Gk.dup X19 hx (hb hby at_157) rfl ?_
      refine Gk.iconst X19 hx (hb hby at_158) (2 : Int32) rfl ?_
      refine Gk.bipush X19 hx (hb hby at_159) (83 : Int32) rfl ?_
      refine Gk.castore X19 hx hZ e19 V19 2 rfl ⟨by decide, by decide⟩ (.int (83 : Int32)) rfl (hb hby at_161) ?_
      intro T20 h20 X20 e20 W20 V20
      have N20 := Fr.snoc X20 N19 g_b16
      refine Gk.dup X20 hx (hb hby at_162) rfl ?_
      refine Gk.iconst X20 hx (hb hby at_163) (3 : Int32) rfl ?_
      refine Gk.bipush X20 hx (hb hby at_164) (52 : Int32) rfl ?_
      refine Gk.castore X20 hx hZ e20 V20 3 rfl ⟨by decide, by decide⟩ (.int (52 : Int32)) rfl (hb hby at_166) ?_
      intro T21 h21 X21 e21 W21 V21
      have N21 := Fr.snoc X21 N20 g_b16
      refine Gk.dup X21 hx (hb hby at_167) rfl ?_
      refine Gk.iconst X21 hx (hb hby at_168) (4 : Int32) rfl ?_
      refine Gk.bipush X21 hx (hb hby at_169) (69 : Int32) rfl ?_
      refine Gk.castore X21 hx hZ e21 V21 4 rfl ⟨by decide, by decide⟩ (.int (69 : Int32)) rfl (hb hby at_171) ?_
      intro T22 h22 X22 e22 W22 V22
      have N22 := Fr.snoc X22 N21 g_b16
      refine Gk.dup X22 hx (hb hby at_172) rfl ?_
      refine Gk.iconst X22 hx (hb hby at_173) (5 : Int32) rfl ?_
      refine Gk.bipush X22 hx (hb hby at_174) (82 : Int32) rfl ?_
      refine Gk.castore X22 hx hZ e22 V22 5 rfl ⟨by decide, by decide⟩ (.int (82 : Int32)) rfl (hb hby at_176) ?_
      intro T23 h23 X23 e23 W23 V23
      have N23 := Fr.snoc X23 N22 g_b16
      refine Gk.dup X23 hx (hb hby at_177) rfl ?_
      refine Gk.bipush X23 hx (hb hby at_178) (6 : Int32) rfl ?_
      refine Gk.bipush X23 hx (hb hby at_180) (82 : Int32) rfl ?_
      refine Gk.castore X23 hx hZ e23 V23 6 rfl ⟨by decide, by decide⟩ (.int (82 : Int32)) rfl (hb hby at_182) ?_
      intro T24 h24 X24 e24 W24 V24
      have N24 := Fr.snoc X24 N23 g_b16
      refine Gk.dup X24 hx (hb hby at_183) rfl ?_
      refine Gk.bipush X24 hx (hb hby at_184) (7 : Int32) rfl ?_
      refine Gk.bipush X24 hx (hb hby at_186) (95 : Int32) rfl ?_
      refine Gk.castore X24 hx hZ e24 V24 7 rfl ⟨by decide, by decide⟩ (.int (95 : Int32)) rfl (hb hby at_188) ?_
      intro T25 h25 X25 e25 W25 V25
      have N25 := Fr.snoc X25 N24 g_b16
      refine Gk.dup X25 hx (hb hby at_189) rfl ?_
      refine Gk.bipush X25 hx (hb hby at_190) (8 : Int32) rfl ?_
      refine Gk.bipush X25 hx (hb hby at_192) (73 : Int32) rfl ?_
      refine Gk.castore X25 hx hZ e25 V25 8 rfl ⟨by decide, by decide⟩ (.int (73 : Int32)) rfl (hb hby at_194) ?_
      intro T26 h26 X26 e26 W26 V26
      have N26 := Fr.snoc X26 N25 g_b16
      refine Gk.dup X26 hx (hb hby at_195) rfl ?_
      refine Gk.bipush X26 hx (hb hby at_196) (9 : Int32) rfl ?_
      refine Gk.bipush X26 hx (hb hby at_198) (78 : Int32) rfl ?_
      refine Gk.castore X26 hx hZ e26 V26 9 rfl ⟨by decide, by decide⟩ (.int (78 : Int32)) rfl (hb hby at_200) ?_
      intro T27 h27 X27 e27 W27 V27
      have N27 := Fr.snoc X27 N26 g_b16
      refine Gk.dup X27 hx (hb hby at_201) rfl ?_
      refine Gk.bipush X27 hx (hb hby at_202) (10 : Int32) rfl ?_
      refine Gk.bipush X27 hx (hb hby at_204) (86 : Int32) rfl ?_
      refine Gk.castore X27 hx hZ e27 V27 10 rfl ⟨by decide, by decide⟩ (.int (86 : Int32)) rfl (hb hby at_206) ?_
      intro T28 h28 X28 e28 W28 V28
      have N28 := Fr.snoc X28 N27 g_b16
      refine Gk.dup X28 hx (hb hby at_207) rfl ?_
      refine Gk.bipush X28 hx (hb hby at_208) (11 : Int32) rfl ?_
      refine Gk.bipush X28 hx (hb hby at_210) (65 : Int32) rfl ?_
      refine Gk.castore X28 hx hZ e28 V28 11 rfl ⟨by decide, by decide⟩ (.int (65 : Int32)) rfl (hb hby at_212) ?_
      intro T29 h29 X29 e29 W29 V29
      have N29 := Fr.snoc X29 N28 g_b16
      refine Gk.dup X29 hx (hb hby at_213) rfl ?_
      refine Gk.bipush X29 hx (hb hby at_214) (12 : Int32) rfl ?_
      refine Gk.bipush X29 hx (hb hby at_216) (76 : Int32) rfl ?_
      refine Gk.castore X29 hx hZ e29 V29 12 rfl ⟨by decide, by decide⟩ (.int (76 : Int32)) rfl (hb hby at_218) ?_
      intro T30 h30 X30 e30 W30 V30
      have N30 := Fr.snoc X30 N29 g_b16
      refine Gk.dup X30 hx (hb hby at_219) rfl ?_
      refine Gk.bipush X30 hx (hb hby at_220) (13 : Int32) rfl ?_
      refine Gk.iload X30 hx (hb hby at_222) rfl ?_
      refine Gk.castore X30 hx hZ e30 V30 13 rfl ⟨by decide, by decide⟩ (.int (nar .char tail)) rfl (hb hby at_224) ?_
      intro T31 h31 X31 e31 W31 V31
      have N31 := Fr.snoc X31 N30 g_b16
      refine Gk.astore X31 hx (hb hby at_225) rfl #[.val (.int p1), .val (.int p2), .val (.int p3), .val (.int p4), .val (.int p5), .val (.int (0 : Int32)), .val (.int (0 : Int32)), .val (.int kk), .val (.int pos), .val (.int ch), .val (.int tail), .val (.ref b1), .val (.ref b16), .unset, .unset, .unset] rfl ?_
      have H32 := ((((((((((((((((((((((((((((((S_SUPPORTED.ext E1).wr W2).wr W3).wr W4).wr W5).wr W6).wr W7).wr W8).wr W9).wr W10).wr W11).wr W12).wr W13).wr W14).wr W15).ext E16).wr W18).wr W19).wr W20).wr W21).wr W22).wr W23).wr W24).wr W25).wr W26).wr W27).wr W28).wr W29).wr W30).wr W31)
      have H33 := ((((((((((((((((((((((((((((((S_UNDETERMINED.ext E1).wr W2).wr W3).wr W4).wr W5).wr W6).wr W7).wr W8).wr W9).wr W10).wr W11).wr W12).wr W13).wr W14).wr W15).ext E16).wr W18).wr W19).wr W20).wr W21).wr W22).wr W23).wr W24).wr W25).wr W26).wr W27).wr W28).wr W29).wr W30).wr W31)
      have H34 := ((((((((((((((((((((((((((((((S_UNKNOWN.ext E1).wr W2).wr W3).wr W4).wr W5).wr W6).wr W7).wr W8).wr W9).wr W10).wr W11).wr W12).wr W13).wr W14).wr W15).ext E16).wr W18).wr W19).wr W20).wr W21).wr W22).wr W23).wr W24).wr W25).wr W26).wr W27).wr W28).wr W29).wr W30).wr W31)
      have H35 := ((((((((((((((((((((((((((((((S_KNOWN_UNSUPPORTED.ext E1).wr W2).wr W3).wr W4).wr W5).wr W6).wr W7).wr W8).wr W9).wr W10).wr W11).wr W12).wr W13).wr W14).wr W15).ext E16).wr W18).wr W19).wr W20).wr W21).wr W22).wr W23).wr W24).wr W25).wr W26).wr W27).wr W28).wr W29).wr W30).wr W31)
      have H36 := ((((((((((((((((((((((((((((((S_COMPACT_STRINGS.ext E1).wr W2).wr W3).wr W4).wr W5).wr W6).wr W7).wr W8).wr W9).wr W10).wr W11).wr W12).wr W13).wr W14).wr W15).ext E16).wr W18).wr W19).wr W20).wr W21).wr W22).wr W23).wr W24).wr W25).wr W26).wr W27).wr W28).wr W29).wr W30).wr W31)
      have H37 := ((((((((((((((((((((((((((((((S_SIOOBE_FORMATTER.ext E1).wr W2).wr W3).wr W4).wr W5).wr W6).wr W7).wr W8).wr W9).wr W10).wr W11).wr W12).wr W13).wr W14).wr W15).ext E16).wr W18).wr W19).wr W20).wr W21).wr W22).wr W23).wr W24).wr W25).wr W26).wr W27).wr W28).wr W29).wr W30).wr W31)
      have gr38 := (Nat.le_trans (Nat.le_trans (Nat.le_trans (Nat.le_trans (Nat.le_trans (Nat.le_trans (Nat.le_trans (Nat.le_trans (Nat.le_trans (Nat.le_trans (Nat.le_trans (Nat.le_trans (Nat.le_trans (Nat.le_trans (Nat.le_trans gr17 E16.1) (Keep.of_wr W18).1) (Keep.of_wr W19).1) (Keep.of_wr W20).1) (Keep.of_wr W21).1) (Keep.of_wr W22).1) (Keep.of_wr W23).1) (Keep.of_wr W24).1) (Keep.of_wr W25).1) (Keep.of_wr W26).1) (Keep.of_wr W27).1) (Keep.of_wr W28).1) (Keep.of_wr W29).1) (Keep.of_wr W30).1) (Keep.of_wr W31).1)
      refine Gk.iload X31 hx (hb hby at_227) rfl ?_
      by_cases hc229 : kk = (0 : Int32)
      · refine Gk.ifNo X31 hx (hb hby at_229) (teq hc229).2 ?_
        have R40_ := own_chrOld (h' := h31) hCH (by rw [← hh]; exact fun b_ cl_ q_ => e31 ▸ oldF X31 (by rw [hh, ← hn0]; exact N31) b_ cl_ q_)
        refine Gk.ldcH (s := s) (show Stand p l e room_1 (s.setVm s.vm) m _ below meth c _ _ _ _ from X31) hx hZ hown (hw _ (List.mem_of_getElem? (i := 47) rfl)) (own_wS hw) e31 ((State.WarmedH.refl s).since 0) (Nat.zero_le _) (own_EW hw) (List.mem_of_getElem? (i := 1) rfl) R40_.1 lit0T (hb hby at_232) (n := 52) (by decide) (by decide) (by decide) (by decide) ?_
        intro la39 T39 h39 kS39 lb39 lk39 X39 e39 E39 S39_ q39_ Z39_ o39_ lA39 lFc39 lFv39 lV39 llt39 lltb39 C39_ Lt39_ d39_
        have R39_ := R40_.trans C39_
        refine Gk.astore X39 hx (hb hby at_234) rfl #[.val (.int p1), .val (.int p2), .val (.int p3), .val (.int p4), .val (.int p5), .val (.int (0 : Int32)), .val (.int (0 : Int32)), .val (.int kk), .val (.int pos), .val (.int ch), .val (.int tail), .val (.ref b1), .val (.ref b16), .val (.ref la39), .unset, .unset] rfl ?_
        refine Gk.iconst X39 hx (hb hby at_236) (1 : Int32) rfl ?_
        refine Gk.istore X39 hx (hb hby at_237) #[.val (.int p1), .val (.int p2), .val (.int p3), .val (.int p4), .val (.int p5), .val (.int (0 : Int32)), .val (.int (0 : Int32)), .val (.int kk), .val (.int pos), .val (.int ch), .val (.int tail), .val (.ref b1), .val (.ref b16), .val (.ref la39), .val (.int (1 : Int32)), .unset] rfl ?_
        refine Gk.goto X39 hx (hb hby at_239) 376 (by decide) (by decide) ?_
        refine Gk.iload X39 hx (hb hby at_376) rfl ?_
        refine Gk.ifYes X39 hx (hb hby at_378) (teq (by decide : (0 : Int32) = (0 : Int32))).1 389 (by decide) (by decide) ?_
        refine Gk.iload X39 hx (hb hby at_389) rfl ?_
        refine Gk.ifNo X39 hx (hb hby at_391) (teq (by decide : (0 : Int32) = (0 : Int32))).2 ?_
        have H41 := (H33.ext E39)
        refine Gk.getS X39 hx Z39_ o39_ (host := "") (Or.inl (hw _ (List.mem_of_getElem? (i := 10) rfl))) Via.refl e39 H41.sta (hb hby at_394) ?_
        intro T42 X42 e42
        refine Gk.astore X42 hx (hb hby at_397) rfl #[.val (.int p1), .val (.int p2), .val (.int p3), .val (.int p4), .val (.int p5), .val (.int (0 : Int32)), .val (.int (0 : Int32)), .val (.int kk), .val (.int pos), .val (.int ch), .val (.int tail), .val (.ref b1), .val (.ref b16), .val (.ref la39), .val (.int (1 : Int32)), .val (.ref w_UNDETERMINED)] rfl ?_
        refine Gk.goto X42 hx (hb hby at_399) 420 (by decide) (by decide) ?_
        refine Gk.iload X42 hx (hb hby at_420) rfl ?_
        refine Gk.aload X42 hx (hb hby at_422) rfl rfl ?_
        refine Gk.iload X42 hx (hb hby at_424) rfl ?_
        refine Gk.callS (argsL := [(.int (0 : Int32)), (.ref la39), (.int (0 : Int32))]) X42 hx Z39_ o39_ (ats_2 l Z a0 hw [] la39 w_UNDETERMINED h39 n0 (Nat.le_trans Z0 (Nat.le_trans gr38 E39.1)) H41) (hw _ (List.mem_of_getElem? (i := 13) rfl)) (hw _ (List.mem_of_getElem? (i := 14) rfl)) (hw _ (List.mem_of_getElem? (i := 15) rfl)) (hw _ (List.mem_of_getElem? (i := 16) rfl)) (by decide) e42 pd_10 rfl rfl (by decide) (Nat.le_of_ble_eq_true rfl) (by decide) (by decide) (by rw [hml]; rfl)  rfl (hb hby at_426) ?_
        intro T43 L43 v43 X43 hQ43
        obtain ⟨rfl, N43q, e43⟩ := hQ43
        have N43 := Fr.app N31 N43q
        show Go p e below (T43.setTop (mkF m 429 #[.val (.int p1), .val (.int p2), .val (.int p3), .val (.int p4), .val (.int p5), .val (.int (0 : Int32)), .val (.int (0 : Int32)), .val (.int kk), .val (.int pos), .val (.int ch), .val (.int tail), .val (.ref b1), .val (.ref b16), .val (.ref la39), .val (.int (1 : Int32)), .val (.ref w_UNDETERMINED)] [(.ref w_UNDETERMINED)])) _
        refine Gk.aload X43 hx (hb hby at_429) rfl rfl ?_
        refine Gk.acmp X43 hx (hb hby at_431) rfl rfl true (decide_eq_true rfl) 434 (by decide) (by decide) ?_
        refine Gk.iconst X43 hx (hb hby at_434) (1 : Int32) rfl ?_
        refine Gk.goto X43 hx (hb hby at_435) 439 (by decide) (by decide) ?_
        refine Gk.finW (s := s) X43 e43 S39_ (Nat.le_trans q39_ (Nat.le_refl _)) (v := some (.int (1 : Int32))) (fun h_ => by rw [Bd.returns] at h_; cases h_) Bd.notSynchronized (fun _ hr => retN X43 hx (t := .boolean) Bd.returns (by simp) (hb hby at_439) hr) (fun U' hU hF => ⟨_, _, rfl, ?_, hF.1, hF.2.1, hF.2.2.1, hF.2.2.2.mono (by decide) (by decide)⟩)
        exact ⟨(congrArg (fun z_ : Int32 => some (Value.int z_)) (show (1 : Int32) = (1 : Int32) from rfl)), N43⟩
      · refine Gk.ifYes X31 hx (hb hby at_229) (feq hc229).2 242 (by decide) (by decide) ?_
        refine Gk.iload X31 hx (hb hby at_242) rfl ?_
        refine Gk.iconst X31 hx (hb hby at_244) (1 : Int32) rfl ?_
        by_cases hc245 : kk = (1 : Int32)
        · refine Gk.icmpNo X31 hx (hb hby at_245) (teq hc245).2 ?_
          refine Gk.newO X31 hx hZ hown (hw _ (List.mem_of_getElem? (i := 22) rfl)) (hw _ (List.mem_of_getElem? (i := 4) rfl)) (hw _ (List.mem_of_getElem? (i := 3) rfl)) e31 (hb hby at_248) (by decide) (by decide) ?_
          intro T44 h44 b44 X44 e44 E44 g44 A44 D44
          have g_b44 : n0 ≤ b44 := Nat.le_trans (Nat.le_trans Z0 gr38) (Nat.le_of_eq g44.symm)
          have lt_b44 := A44.lt
          have F_value_b44 : Fld Z h44 b44 "java/lang/String" "value" "[B" .null := D44 (Or.inr (hw _ (List.mem_of_getElem? (i := 6) rfl))) (ty := (.array .byte)) (by decide)
          have F_coder_b44 : Fld Z h44 b44 "java/lang/String" "coder" "B" (.int (0 : Int32)) := D44 (Or.inr (hw _ (List.mem_of_getElem? (i := 7) rfl))) (ty := .byte) (by decide)
          refine Gk.dup X44 hx (hb hby at_251) rfl ?_
          refine Gk.aload X44 hx (hb hby at_252) rfl rfl ?_
          have gr46 := (Nat.le_trans (Nat.le_trans (Nat.le_trans (Nat.le_trans (Nat.le_trans (Nat.le_trans (Nat.le_trans (Nat.le_trans (Nat.le_trans (Nat.le_trans (Nat.le_trans (Nat.le_trans (Nat.le_trans (Keep.of_wr W2).1 (Keep.of_wr W3).1) (Keep.of_wr W4).1) (Keep.of_wr W5).1) (Keep.of_wr W6).1) (Keep.of_wr W7).1) (Keep.of_wr W8).1) (Keep.of_wr W9).1) (Keep.of_wr W10).1) (Keep.of_wr W11).1) (Keep.of_wr W12).1) (Keep.of_wr W13).1) (Keep.of_wr W14).1) (Keep.of_wr W15).1)
          have ne47 : b1 ≠ b16 := (Nat.ne_of_lt (Nat.lt_of_lt_of_le lt_b1 (Nat.le_trans gr46 (Nat.le_of_eq g16.symm))))
          have H48 := ((((((((((((((((V15.ext E16).other W18 ne47).other W19 ne47).other W20 ne47).other W21 ne47).other W22 ne47).other W23 ne47).other W24 ne47).other W25 ne47).other W26 ne47).other W27 ne47).other W28 ne47).other W29 ne47).other W30 ne47).other W31 ne47).ext E44)
          have H49 := (H36.ext E44)
          refine Gk.callI (argsL := [(.ref b1)]) X44 hx hZ hown (str_13 l Z a0 hw [] b44 b1 k1 (upd (upd (upd (upd (upd (upd (upd (upd (upd (upd (upd (upd (upd (upd (fun _ => (.int (0 : Int32))) 0 (.int (78 : Int32))) 1 (.int (70 : Int32))) 2 (.int (83 : Int32))) 3 (.int (52 : Int32))) 4 (.int (69 : Int32))) 5 (.int (82 : Int32))) 6 (.int (82 : Int32))) 7 (.int (95 : Int32))) 8 (.int (73 : Int32))) 9 (.int (78 : Int32))) 10 (.int (86 : Int32))) 11 (.int (65 : Int32))) 12 (.int (76 : Int32))) pos.toNatClampNeg (.int (nar .char ch))) (if 0 = pos.toNatClampNeg then (nar .char ch) else (78 : Int32)) (if 1 = pos.toNatClampNeg then (nar .char ch) else (70 : Int32)) (if 2 = pos.toNatClampNeg then (nar .char ch) else (83 : Int32)) (if 3 = pos.toNatClampNeg then (nar .char ch) else (52 : Int32)) (if 4 = pos.toNatClampNeg then (nar .char ch) else (69 : Int32)) (if 5 = pos.toNatClampNeg then (nar .char ch) else (82 : Int32)) (if 6 = pos.toNatClampNeg then (nar .char ch) else (82 : Int32)) (if 7 = pos.toNatClampNeg then (nar .char ch) else (95 : Int32)) (if 8 = pos.toNatClampNeg then (nar .char ch) else (73 : Int32)) (if 9 = pos.toNatClampNeg then (nar .char ch) else (78 : Int32)) (if 10 = pos.toNatClampNeg then (nar .char ch) else (86 : Int32)) (if 11 = pos.toNatClampNeg then (nar .char ch) else (65 : Int32)) (if 12 = pos.toNatClampNeg then (nar .char ch) else (76 : Int32)) (.int (0 : Int32)) .null w_COMPACT_STRINGS h44 n0 (Nat.le_trans Z0 (Nat.le_trans gr38 E44.1)) H49 A44 H48 (own_updP rfl) (own_updP rfl) (own_updP rfl) (own_updP rfl) (own_updP rfl) (own_updP rfl) (own_updP rfl) (own_updP rfl) (own_updP rfl) (own_updP rfl) (own_updP rfl) (own_updP rfl) (own_updP rfl) (own_ite (own_ch ech) (by decide)) (own_ite (own_ch ech) (by decide)) (own_ite (own_ch ech) (by decide)) (own_ite (own_ch ech) (by decide)) (own_ite (own_ch ech) (by decide)) (own_ite (own_ch ech) (by decide)) (own_ite (own_ch ech) (by decide)) (own_ite (own_ch ech) (by decide)) (own_ite (own_ch ech) (by decide)) (own_ite (own_ch ech) (by decide)) (own_ite (own_ch ech) (by decide)) (own_ite (own_ch ech) (by decide)) (own_ite (own_ch ech) (by decide)) hcs F_coder_b44 g_b44 F_value_b44) rfl (hw _ (List.mem_of_getElem? (i := 23) rfl)) (hw _ (List.mem_of_getElem? (i := 24) rfl)) (hw _ (List.mem_of_getElem? (i := 25) rfl)) rfl (by decide) (hw _ (List.mem_of_getElem? (i := 3) rfl)) e44 pd_11 rfl rfl (by decide) (Nat.le_of_ble_eq_true rfl) (by decide) (by decide) (by rw [hml]; rfl)  rfl (hb hby at_254) ?_
          intro T45 L45 v45 X45 hQ45
          obtain ⟨rfl, N45q, K45, Fc45, y45, k45_, le45, Fv45, V45⟩ := hQ45
          have N45 := Fr.app N31 N45q
          show Go p e below (T45.setTop (mkF m 257 #[.val (.int p1), .val (.int p2), .val (.int p3), .val (.int p4), .val (.int p5), .val (.int (0 : Int32)), .val (.int (0 : Int32)), .val (.int kk), .val (.int pos), .val (.int ch), .val (.int tail), .val (.ref b1), .val (.ref b16), .unset, .unset, .unset] [(.ref b44)])) _
          refine Gk.astore X45 hx (hb hby at_257) rfl #[.val (.int p1), .val (.int p2), .val (.int p3), .val (.int p4), .val (.int p5), .val (.int (0 : Int32)), .val (.int (0 : Int32)), .val (.int kk), .val (.int pos), .val (.int ch), .val (.int tail), .val (.ref b1), .val (.ref b16), .val (.ref b44), .unset, .unset] rfl ?_
          refine Gk.iload X45 hx (hb hby at_259) rfl ?_
          have R51_ := own_chrOld (h' := T45.heap) hCH (by rw [← hh]; exact fun b_ cl_ q_ => oldF X45 (by rw [hh, ← hn0]; exact N45) b_ cl_ q_)
          refine Gk.ldcH (s := s) (show Stand p l e room_1 (s.setVm s.vm) m _ below meth c _ _ _ _ from X45) hx hZ hown (hw _ (List.mem_of_getElem? (i := 47) rfl)) (own_wS hw) rfl ((State.WarmedH.refl s).since 0) (Nat.zero_le _) (own_EW hw) (List.mem_of_getElem? (i := 1) rfl) R51_.1 lit0T (hb hby at_261) (n := 52) (by decide) (by decide) (by decide) (by decide) ?_
          have gr52 := (Nat.le_trans (Nat.le_trans gr38 E44.1) K45.1)
          intro la50 T50 h50 kS50 lb50 lk50 X50 e50 E50 S50_ q50_ Z50_ o50_ lA50 lFc50 lFv50 lV50 llt50 lltb50 C50_ Lt50_ d50_
          have R50_ := R51_.trans C50_
          refine Gk.iload X50 hx (hb hby at_263) rfl ?_
          have H54 := ((H49.keep K45 (allS g_b44 all0)).ext E50)
          have H55 := (((H37.ext E44).keep K45 (allS g_b44 all0)).ext E50)
          refine Gk.callV (argsL := [(.int pos)]) X50 hx Z50_ o50_ (rm8 l Z a0 hw [] la50 pos lb50 lk50 (fun i => .int ((fun j_ => lit0L.getD j_ 0) i)) (13 : Int32) (lit0L.getD pos.toNatClampNeg 0) w_COMPACT_STRINGS w_SIOOBE_FORMATTER h50 n0 (Nat.le_trans Z0 (Nat.le_trans gr52 E50.1)) H54 H55 lA50 lFc50 lFv50 lV50 (own_pos epos).1 (own_pos epos).2 rfl hcs hsf) (hw _ (List.mem_of_getElem? (i := 48) rfl)) (hw _ (List.mem_of_getElem? (i := 49) rfl)) (notFace_of_selects (args := #[]) (mvT Z50_ (hw _ (List.mem_of_getElem? (i := 51) rfl)))) (hw _ (List.mem_of_getElem? (i := 51) rfl)) (hw _ (List.mem_of_getElem? (i := 50) rfl)) (by decide) (hw _ (List.mem_of_getElem? (i := 52) rfl)) (hw _ (List.mem_of_getElem? (i := 3) rfl)) e50 lA50 pd_12 rfl rfl (by decide) (Nat.le_of_ble_eq_true rfl) (by decide) (by decide) (by rw [hml]; rfl)  rfl (hb hby at_265) ?_
          intro T53 L53 v53 X53 hQ53
          obtain ⟨rfl, N53q, e53⟩ := hQ53
          have N53 := Fr.app N45 N53q
          show Go p e below (T53.setTop (mkF m 268 #[.val (.int p1), .val (.int p2), .val (.int p3), .val (.int p4), .val (.int p5), .val (.int (0 : Int32)), .val (.int (0 : Int32)), .val (.int kk), .val (.int pos), .val (.int ch), .val (.int tail), .val (.ref b1), .val (.ref b16), .val (.ref b44), .unset, .unset] [(.int (nar .char (nar .char (((lit0L.getD pos.toNatClampNeg 0) &&& (255 : Int32)).toUInt32.toUInt16.toUInt32.toInt32)))), (.int ch)])) _
          by_cases hc268 : ch = (nar .char (nar .char (((lit0L.getD pos.toNatClampNeg 0) &&& (255 : Int32)).toUInt32.toUInt16.toUInt32.toInt32)))
          · refine Gk.icmpNo X53 hx (hb hby at_268) (teq hc268).2 ?_
            refine Gk.iconst X53 hx (hb hby at_271) (1 : Int32) rfl ?_
            refine Gk.goto X53 hx (hb hby at_272) 276 (by decide) (by decide) ?_
            refine Gk.istore X53 hx (hb hby at_276) #[.val (.int p1), .val (.int p2), .val (.int p3), .val (.int p4), .val (.int p5), .val (.int (0 : Int32)), .val (.int (0 : Int32)), .val (.int kk), .val (.int pos), .val (.int ch), .val (.int tail), .val (.ref b1), .val (.ref b16), .val (.ref b44), .val (.int (1 : Int32)), .unset] rfl ?_
            refine Gk.goto X53 hx (hb hby at_278) 376 (by decide) (by decide) ?_
            refine Gk.iload X53 hx (hb hby at_376) rfl ?_
            refine Gk.ifYes X53 hx (hb hby at_378) (teq (by decide : (0 : Int32) = (0 : Int32))).1 389 (by decide) (by decide) ?_
            refine Gk.iload X53 hx (hb hby at_389) rfl ?_
            refine Gk.ifNo X53 hx (hb hby at_391) (teq (by decide : (0 : Int32) = (0 : Int32))).2 ?_
            have H56 := (((H33.ext E44).keep K45 (allS g_b44 all0)).ext E50)
            refine Gk.getS X53 hx Z50_ o50_ (host := "") (Or.inl (hw _ (List.mem_of_getElem? (i := 10) rfl))) Via.refl e53 H56.sta (hb hby at_394) ?_
            intro T57 X57 e57
            refine Gk.astore X57 hx (hb hby at_397) rfl #[.val (.int p1), .val (.int p2), .val (.int p3), .val (.int p4), .val (.int p5), .val (.int (0 : Int32)), .val (.int (0 : Int32)), .val (.int kk), .val (.int pos), .val (.int ch), .val (.int tail), .val (.ref b1), .val (.ref b16), .val (.ref b44), .val (.int (1 : Int32)), .val (.ref w_UNDETERMINED)] rfl ?_
            refine Gk.goto X57 hx (hb hby at_399) 420 (by decide) (by decide) ?_
            refine Gk.iload X57 hx (hb hby at_420) rfl ?_
            refine Gk.aload X57 hx (hb hby at_422) rfl rfl ?_
            refine Gk.iload X57 hx (hb hby at_424) rfl ?_
            refine Gk.callS (argsL := [(.int (0 : Int32)), (.ref b44), (.int (0 : Int32))]) X57 hx Z50_ o50_ (ats_2 l Z a0 hw [] b44 w_UNDETERMINED h50 n0 (Nat.le_trans Z0 (Nat.le_trans gr52 E50.1)) H56) (hw _ (List.mem_of_getElem? (i := 13) rfl)) (hw _ (List.mem_of_getElem? (i := 14) rfl)) (hw _ (List.mem_of_getElem? (i := 15) rfl)) (hw _ (List.mem_of_getElem? (i := 16) rfl)) (by decide) e57 pd_10 rfl rfl (by decide) (Nat.le_of_ble_eq_true rfl) (by decide) (by decide) (by rw [hml]; rfl)  rfl (hb hby at_426) ?_
            intro T58 L58 v58 X58 hQ58
            obtain ⟨rfl, N58q, e58⟩ := hQ58
            have N58 := Fr.app N53 N58q
            show Go p e below (T58.setTop (mkF m 429 #[.val (.int p1), .val (.int p2), .val (.int p3), .val (.int p4), .val (.int p5), .val (.int (0 : Int32)), .val (.int (0 : Int32)), .val (.int kk), .val (.int pos), .val (.int ch), .val (.int tail), .val (.ref b1), .val (.ref b16), .val (.ref b44), .val (.int (1 : Int32)), .val (.ref w_UNDETERMINED)] [(.ref w_UNDETERMINED)])) _
            refine Gk.aload X58 hx (hb hby at_429) rfl rfl ?_
            refine Gk.acmp X58 hx (hb hby at_431) rfl rfl true (decide_eq_true rfl) 434 (by decide) (by decide) ?_
            refine Gk.iconst X58 hx (hb hby at_434) (1 : Int32) rfl ?_
            refine Gk.goto X58 hx (hb hby at_435) 439 (by decide) (by decide) ?_
            refine Gk.finW (s := s) X58 e58 S50_ (Nat.le_trans q50_ (Nat.le_refl _)) (v := some (.int (1 : Int32))) (fun h_ => by rw [Bd.returns] at h_; cases h_) Bd.notSynchronized (fun _ hr => retN X58 hx (t := .boolean) Bd.returns (by simp) (hb hby at_439) hr) (fun U' hU hF => ⟨_, _, rfl, ?_, hF.1, hF.2.1, hF.2.2.1, hF.2.2.2.mono (by decide) (by decide)⟩)
            exact ⟨(congrArg (fun z_ : Int32 => some (Value.int z_)) (show (1 : Int32) = (1 : Int32) from rfl)), N58⟩
          · refine Gk.icmpYes X53 hx (hb hby at_268) (feq hc268).2 275 (by decide) (by decide) ?_
            refine Gk.iconst X53 hx (hb hby at_275) (0 : Int32) rfl ?_
            refine Gk.istore X53 hx (hb hby at_276) #[.val (.int p1), .val (.int p2), .val (.int p3), .val (.int p4), .val (.int p5), .val (.int (0 : Int32)), .val (.int (0 : Int32)), .val (.int kk), .val (.int pos), .val (.int ch), .val (.int tail), .val (.ref b1), .val (.ref b16), .val (.ref b44), .val (.int (0 : Int32)), .unset] rfl ?_
            refine Gk.goto X53 hx (hb hby at_278) 376 (by decide) (by decide) ?_
            refine Gk.iload X53 hx (hb hby at_376) rfl ?_
            refine Gk.ifYes X53 hx (hb hby at_378) (teq (by decide : (0 : Int32) = (0 : Int32))).1 389 (by decide) (by decide) ?_
            refine Gk.iload X53 hx (hb hby at_389) rfl ?_
            refine Gk.ifNo X53 hx (hb hby at_391) (teq (by decide : (0 : Int32) = (0 : Int32))).2 ?_
            have H59 := (((H33.ext E44).keep K45 (allS g_b44 all0)).ext E50)
            refine Gk.getS X53 hx Z50_ o50_ (host := "") (Or.inl (hw _ (List.mem_of_getElem? (i := 10) rfl))) Via.refl e53 H59.sta (hb hby at_394) ?_
            intro T60 X60 e60
            refine Gk.astore X60 hx (hb hby at_397) rfl #[.val (.int p1), .val (.int p2), .val (.int p3), .val (.int p4), .val (.int p5), .val (.int (0 : Int32)), .val (.int (0 : Int32)), .val (.int kk), .val (.int pos), .val (.int ch), .val (.int tail), .val (.ref b1), .val (.ref b16), .val (.ref b44), .val (.int (0 : Int32)), .val (.ref w_UNDETERMINED)] rfl ?_
            refine Gk.goto X60 hx (hb hby at_399) 420 (by decide) (by decide) ?_
            refine Gk.iload X60 hx (hb hby at_420) rfl ?_
            refine Gk.aload X60 hx (hb hby at_422) rfl rfl ?_
            refine Gk.iload X60 hx (hb hby at_424) rfl ?_
            refine Gk.callS (argsL := [(.int (0 : Int32)), (.ref b44), (.int (0 : Int32))]) X60 hx Z50_ o50_ (ats_2 l Z a0 hw [] b44 w_UNDETERMINED h50 n0 (Nat.le_trans Z0 (Nat.le_trans gr52 E50.1)) H59) (hw _ (List.mem_of_getElem? (i := 13) rfl)) (hw _ (List.mem_of_getElem? (i := 14) rfl)) (hw _ (List.mem_of_getElem? (i := 15) rfl)) (hw _ (List.mem_of_getElem? (i := 16) rfl)) (by decide) e60 pd_10 rfl rfl (by decide) (Nat.le_of_ble_eq_true rfl) (by decide) (by decide) (by rw [hml]; rfl)  rfl (hb hby at_426) ?_
            intro T61 L61 v61 X61 hQ61
            obtain ⟨rfl, N61q, e61⟩ := hQ61
            have N61 := Fr.app N53 N61q
            show Go p e below (T61.setTop (mkF m 429 #[.val (.int p1), .val (.int p2), .val (.int p3), .val (.int p4), .val (.int p5), .val (.int (0 : Int32)), .val (.int (0 : Int32)), .val (.int kk), .val (.int pos), .val (.int ch), .val (.int tail), .val (.ref b1), .val (.ref b16), .val (.ref b44), .val (.int (0 : Int32)), .val (.ref w_UNDETERMINED)] [(.ref w_UNDETERMINED)])) _
            refine Gk.aload X61 hx (hb hby at_429) rfl rfl ?_
            refine Gk.acmp X61 hx (hb hby at_431) rfl rfl true (decide_eq_true rfl) 434 (by decide) (by decide) ?_
            refine Gk.iconst X61 hx (hb hby at_434) (1 : Int32) rfl ?_
            refine Gk.goto X61 hx (hb hby at_435) 439 (by decide) (by decide) ?_
            refine Gk.finW (s := s) X61 e61 S50_ (Nat.le_trans q50_ (Nat.le_refl _)) (v := some (.int (1 : Int32))) (fun h_ => by rw [Bd.returns] at h_; cases h_) Bd.notSynchronized (fun _ hr => retN X61 hx (t := .boolean) Bd.returns (by simp) (hb hby at_439) hr) (fun U' hU hF => ⟨_, _, rfl, ?_, hF.1, hF.2.1, hF.2.2.1, hF.2.2.2.mono (by decide) (by decide)⟩)
            exact ⟨(congrArg (fun z_ : Int32 => some (Value.int z_)) (show (1 : Int32) = (1 : Int32) from rfl)), N61⟩
        · refine Gk.icmpYes X31 hx (hb hby at_245) (feq hc245).2 281 (by decide) (by decide) ?_
          refine Gk.iload X31 hx (hb hby at_281) rfl ?_
          refine Gk.iconst X31 hx (hb hby at_283) (2 : Int32) rfl ?_
          by_cases hc284 : kk = (2 : Int32)
          · refine Gk.icmpNo X31 hx (hb hby at_284) (teq hc284).2 ?_
            refine Gk.newO X31 hx hZ hown (hw _ (List.mem_of_getElem? (i := 22) rfl)) (hw _ (List.mem_of_getElem? (i := 4) rfl)) (hw _ (List.mem_of_getElem? (i := 3) rfl)) e31 (hb hby at_287) (by decide) (by decide) ?_
            intro T62 h62 b62 X62 e62 E62 g62 A62 D62
            have g_b62 : n0 ≤ b62 := Nat.le_trans (Nat.le_trans Z0 gr38) (Nat.le_of_eq g62.symm)
            have lt_b62 := A62.lt
            have F_value_b62 : Fld Z h62 b62 "java/lang/String" "value" "[B" .null := D62 (Or.inr (hw _ (List.mem_of_getElem? (i := 6) rfl))) (ty := (.array .byte)) (by decide)
            have F_coder_b62 : Fld Z h62 b62 "java/lang/String" "coder" "B" (.int (0 : Int32)) := D62 (Or.inr (hw _ (List.mem_of_getElem? (i := 7) rfl))) (ty := .byte) (by decide)
            refine Gk.dup X62 hx (hb hby at_290) rfl ?_
            refine Gk.aload X62 hx (hb hby at_291) rfl rfl ?_
            have H64 := (V31.ext E62)
            have H65 := (H36.ext E62)
            refine Gk.callI (argsL := [(.ref b16)]) X62 hx hZ hown (str_14 l Z a0 hw [] b62 b16 k16 (upd (upd (upd (upd (upd (upd (upd (upd (upd (upd (upd (upd (upd (upd (fun _ => (.int (0 : Int32))) 0 (.int (78 : Int32))) 1 (.int (70 : Int32))) 2 (.int (83 : Int32))) 3 (.int (52 : Int32))) 4 (.int (69 : Int32))) 5 (.int (82 : Int32))) 6 (.int (82 : Int32))) 7 (.int (95 : Int32))) 8 (.int (73 : Int32))) 9 (.int (78 : Int32))) 10 (.int (86 : Int32))) 11 (.int (65 : Int32))) 12 (.int (76 : Int32))) 13 (.int (nar .char tail))) (78 : Int32) (70 : Int32) (83 : Int32) (52 : Int32) (69 : Int32) (82 : Int32) (82 : Int32) (95 : Int32) (73 : Int32) (78 : Int32) (86 : Int32) (65 : Int32) (76 : Int32) (nar .char tail) (.int (0 : Int32)) .null w_COMPACT_STRINGS h62 n0 (Nat.le_trans Z0 (Nat.le_trans gr38 E62.1)) H65 A62 H64 rfl rfl rfl rfl rfl rfl rfl rfl rfl rfl rfl rfl rfl rfl (by decide) (by decide) (by decide) (by decide) (by decide) (by decide) (by decide) (by decide) (by decide) (by decide) (by decide) (by decide) (by decide) (own_ch etail) hcs F_coder_b62 g_b62 F_value_b62) rfl (hw _ (List.mem_of_getElem? (i := 23) rfl)) (hw _ (List.mem_of_getElem? (i := 24) rfl)) (hw _ (List.mem_of_getElem? (i := 25) rfl)) rfl (by decide) (hw _ (List.mem_of_getElem? (i := 3) rfl)) e62 pd_11 rfl rfl (by decide) (Nat.le_of_ble_eq_true rfl) (by decide) (by decide) (by rw [hml]; rfl)  rfl (hb hby at_293) ?_
            intro T63 L63 v63 X63 hQ63
            obtain ⟨rfl, N63q, K63, Fc63, y63, k63_, le63, Fv63, V63⟩ := hQ63
            have N63 := Fr.app N31 N63q
            show Go p e below (T63.setTop (mkF m 296 #[.val (.int p1), .val (.int p2), .val (.int p3), .val (.int p4), .val (.int p5), .val (.int (0 : Int32)), .val (.int (0 : Int32)), .val (.int kk), .val (.int pos), .val (.int ch), .val (.int tail), .val (.ref b1), .val (.ref b16), .unset, .unset, .unset] [(.ref b62)])) _
            refine Gk.astore X63 hx (hb hby at_296) rfl #[.val (.int p1), .val (.int p2), .val (.int p3), .val (.int p4), .val (.int p5), .val (.int (0 : Int32)), .val (.int (0 : Int32)), .val (.int kk), .val (.int pos), .val (.int ch), .val (.int tail), .val (.ref b1), .val (.ref b16), .val (.ref b62), .unset, .unset] rfl ?_
            refine Gk.iconst X63 hx (hb hby at_298) (0 : Int32) rfl ?_
            refine Gk.istore X63 hx (hb hby at_299) #[.val (.int p1), .val (.int p2), .val (.int p3), .val (.int p4), .val (.int p5), .val (.int (0 : Int32)), .val (.int (0 : Int32)), .val (.int kk), .val (.int pos), .val (.int ch), .val (.int tail), .val (.ref b1), .val (.ref b16), .val (.ref b62), .val (.int (0 : Int32)), .unset] rfl ?_
            refine Gk.goto X63 hx (hb hby at_301) 376 (by decide) (by decide) ?_
            refine Gk.iload X63 hx (hb hby at_376) rfl ?_
            refine Gk.ifYes X63 hx (hb hby at_378) (teq (by decide : (0 : Int32) = (0 : Int32))).1 389 (by decide) (by decide) ?_
            refine Gk.iload X63 hx (hb hby at_389) rfl ?_
            refine Gk.ifNo X63 hx (hb hby at_391) (teq (by decide : (0 : Int32) = (0 : Int32))).2 ?_
            have H66 := ((H33.ext E62).keep K63 (allS g_b62 all0))
            refine Gk.getS X63 hx hZ hown (host := "") (Or.inl (hw _ (List.mem_of_getElem? (i := 10) rfl))) Via.refl rfl H66.sta (hb hby at_394) ?_
            intro T67 X67 e67
            refine Gk.astore X67 hx (hb hby at_397) rfl #[.val (.int p1), .val (.int p2), .val (.int p3), .val (.int p4), .val (.int p5), .val (.int (0 : Int32)), .val (.int (0 : Int32)), .val (.int kk), .val (.int pos), .val (.int ch), .val (.int tail), .val (.ref b1), .val (.ref b16), .val (.ref b62), .val (.int (0 : Int32)), .val (.ref w_UNDETERMINED)] rfl ?_
            refine Gk.goto X67 hx (hb hby at_399) 420 (by decide) (by decide) ?_
            refine Gk.iload X67 hx (hb hby at_420) rfl ?_
            refine Gk.aload X67 hx (hb hby at_422) rfl rfl ?_
            refine Gk.iload X67 hx (hb hby at_424) rfl ?_
            have gr69 := (Nat.le_trans (Nat.le_trans gr38 E62.1) K63.1)
            refine Gk.callS (argsL := [(.int (0 : Int32)), (.ref b62), (.int (0 : Int32))]) X67 hx hZ hown (ats_2 l Z a0 hw [] b62 w_UNDETERMINED T63.heap n0 (Nat.le_trans Z0 gr69) H66) (hw _ (List.mem_of_getElem? (i := 13) rfl)) (hw _ (List.mem_of_getElem? (i := 14) rfl)) (hw _ (List.mem_of_getElem? (i := 15) rfl)) (hw _ (List.mem_of_getElem? (i := 16) rfl)) (by decide) e67 pd_10 rfl rfl (by decide) (Nat.le_of_ble_eq_true rfl) (by decide) (by decide) (by rw [hml]; rfl)  rfl (hb hby at_426) ?_
            intro T68 L68 v68 X68 hQ68
            obtain ⟨rfl, N68q, e68⟩ := hQ68
            have N68 := Fr.app N63 N68q
            show Go p e below (T68.setTop (mkF m 429 #[.val (.int p1), .val (.int p2), .val (.int p3), .val (.int p4), .val (.int p5), .val (.int (0 : Int32)), .val (.int (0 : Int32)), .val (.int kk), .val (.int pos), .val (.int ch), .val (.int tail), .val (.ref b1), .val (.ref b16), .val (.ref b62), .val (.int (0 : Int32)), .val (.ref w_UNDETERMINED)] [(.ref w_UNDETERMINED)])) _
            refine Gk.aload X68 hx (hb hby at_429) rfl rfl ?_
            refine Gk.acmp X68 hx (hb hby at_431) rfl rfl true (decide_eq_true rfl) 434 (by decide) (by decide) ?_
            refine Gk.iconst X68 hx (hb hby at_434) (1 : Int32) rfl ?_
            refine Gk.goto X68 hx (hb hby at_435) 439 (by decide) (by decide) ?_
            refine Go.fin X68 (v := some (.int (1 : Int32))) (fun h_ => by rw [Bd.returns] at h_; cases h_) Bd.notSynchronized (fun _ hr => retN X68 hx (t := .boolean) Bd.returns (by simp) (hb hby at_439) hr) (fun U' hU hF => ⟨_, _, rfl, ?_, ReturnedEndW.of_narrow hF.1 hF.2.1 (hF.2.2.mono (by decide) (by decide))⟩)
            exact ⟨(congrArg (fun z_ : Int32 => some (Value.int z_)) (show (1 : Int32) = (1 : Int32) from rfl)), N68⟩
          · refine Gk.icmpYes X31 hx (hb hby at_284) (feq hc284).2 304 (by decide) (by decide) ?_
            refine Gk.iload X31 hx (hb hby at_304) rfl ?_
            refine Gk.iconst X31 hx (hb hby at_306) (3 : Int32) rfl ?_
            by_cases hc307 : kk = (3 : Int32)
            · refine Gk.icmpNo X31 hx (hb hby at_307) (teq hc307).2 ?_
              have R71_ := own_chrOld (h' := h31) hCH (by rw [← hh]; exact fun b_ cl_ q_ => e31 ▸ oldF X31 (by rw [hh, ← hn0]; exact N31) b_ cl_ q_)
              refine Gk.ldcH (s := s) (show Stand p l e room_1 (s.setVm s.vm) m _ below meth c _ _ _ _ from X31) hx hZ hown (hw _ (List.mem_of_getElem? (i := 2) rfl)) (own_wS hw) e31 ((State.WarmedH.refl s).since 0) (Nat.zero_le _) (own_EW hw) (List.mem_of_getElem? (i := 2) rfl) R71_.1 lit1T (hb hby at_310) (n := 72) (by decide) (by decide) (by decide) (by decide) ?_
              intro la70 T70 h70 kS70 lb70 lk70 X70 e70 E70 S70_ q70_ Z70_ o70_ lA70 lFc70 lFv70 lV70 llt70 lltb70 C70_ Lt70_ d70_
              have R70_ := R71_.trans C70_
              refine Gk.astore X70 hx (hb hby at_312) rfl #[.val (.int p1), .val (.int p2), .val (.int p3), .val (.int p4), .val (.int p5), .val (.int (0 : Int32)), .val (.int (0 : Int32)), .val (.int kk), .val (.int pos), .val (.int ch), .val (.int tail), .val (.ref b1), .val (.ref b16), .val (.ref la70), .unset, .unset] rfl ?_
              refine Gk.iconst X70 hx (hb hby at_314) (0 : Int32) rfl ?_
              refine Gk.istore X70 hx (hb hby at_315) #[.val (.int p1), .val (.int p2), .val (.int p3), .val (.int p4), .val (.int p5), .val (.int (0 : Int32)), .val (.int (0 : Int32)), .val (.int kk), .val (.int pos), .val (.int ch), .val (.int tail), .val (.ref b1), .val (.ref b16), .val (.ref la70), .val (.int (0 : Int32)), .unset] rfl ?_
              refine Gk.goto X70 hx (hb hby at_317) 376 (by decide) (by decide) ?_
              refine Gk.iload X70 hx (hb hby at_376) rfl ?_
              refine Gk.ifYes X70 hx (hb hby at_378) (teq (by decide : (0 : Int32) = (0 : Int32))).1 389 (by decide) (by decide) ?_
              refine Gk.iload X70 hx (hb hby at_389) rfl ?_
              refine Gk.ifNo X70 hx (hb hby at_391) (teq (by decide : (0 : Int32) = (0 : Int32))).2 ?_
              have H72 := (H33.ext E70)
              refine Gk.getS X70 hx Z70_ o70_ (host := "") (Or.inl (hw _ (List.mem_of_getElem? (i := 10) rfl))) Via.refl e70 H72.sta (hb hby at_394) ?_
              intro T73 X73 e73
              refine Gk.astore X73 hx (hb hby at_397) rfl #[.val (.int p1), .val (.int p2), .val (.int p3), .val (.int p4), .val (.int p5), .val (.int (0 : Int32)), .val (.int (0 : Int32)), .val (.int kk), .val (.int pos), .val (.int ch), .val (.int tail), .val (.ref b1), .val (.ref b16), .val (.ref la70), .val (.int (0 : Int32)), .val (.ref w_UNDETERMINED)] rfl ?_
              refine Gk.goto X73 hx (hb hby at_399) 420 (by decide) (by decide) ?_
              refine Gk.iload X73 hx (hb hby at_420) rfl ?_
              refine Gk.aload X73 hx (hb hby at_422) rfl rfl ?_
              refine Gk.iload X73 hx (hb hby at_424) rfl ?_
              refine Gk.callS (argsL := [(.int (0 : Int32)), (.ref la70), (.int (0 : Int32))]) X73 hx Z70_ o70_ (ats_2 l Z a0 hw [] la70 w_UNDETERMINED h70 n0 (Nat.le_trans Z0 (Nat.le_trans gr38 E70.1)) H72) (hw _ (List.mem_of_getElem? (i := 13) rfl)) (hw _ (List.mem_of_getElem? (i := 14) rfl)) (hw _ (List.mem_of_getElem? (i := 15) rfl)) (hw _ (List.mem_of_getElem? (i := 16) rfl)) (by decide) e73 pd_10 rfl rfl (by decide) (Nat.le_of_ble_eq_true rfl) (by decide) (by decide) (by rw [hml]; rfl)  rfl (hb hby at_426) ?_
              intro T74 L74 v74 X74 hQ74
              obtain ⟨rfl, N74q, e74⟩ := hQ74
              have N74 := Fr.app N31 N74q
              show Go p e below (T74.setTop (mkF m 429 #[.val (.int p1), .val (.int p2), .val (.int p3), .val (.int p4), .val (.int p5), .val (.int (0 : Int32)), .val (.int (0 : Int32)), .val (.int kk), .val (.int pos), .val (.int ch), .val (.int tail), .val (.ref b1), .val (.ref b16), .val (.ref la70), .val (.int (0 : Int32)), .val (.ref w_UNDETERMINED)] [(.ref w_UNDETERMINED)])) _
              refine Gk.aload X74 hx (hb hby at_429) rfl rfl ?_
              refine Gk.acmp X74 hx (hb hby at_431) rfl rfl true (decide_eq_true rfl) 434 (by decide) (by decide) ?_
              refine Gk.iconst X74 hx (hb hby at_434) (1 : Int32) rfl ?_
              refine Gk.goto X74 hx (hb hby at_435) 439 (by decide) (by decide) ?_
              refine Gk.finW (s := s) X74 e74 S70_ (Nat.le_trans q70_ (Nat.le_refl _)) (v := some (.int (1 : Int32))) (fun h_ => by rw [Bd.returns] at h_; cases h_) Bd.notSynchronized (fun _ hr => retN X74 hx (t := .boolean) Bd.returns (by simp) (hb hby at_439) hr) (fun U' hU hF => ⟨_, _, rfl, ?_, hF.1, hF.2.1, hF.2.2.1, hF.2.2.2.mono (by decide) (by decide)⟩)
              exact ⟨(congrArg (fun z_ : Int32 => some (Value.int z_)) (show (1 : Int32) = (1 : Int32) from rfl)), N74⟩
            · refine Gk.icmpYes X31 hx (hb hby at_307) (feq hc307).2 320 (by decide) (by decide) ?_
              refine Gk.iload X31 hx (hb hby at_320) rfl ?_
              refine Gk.iconst X31 hx (hb hby at_322) (4 : Int32) rfl ?_
              by_cases hc323 : kk = (4 : Int32)
              · refine Gk.icmpNo X31 hx (hb hby at_323) (teq hc323).2 ?_
                have R76_ := own_chrOld (h' := h31) hCH (by rw [← hh]; exact fun b_ cl_ q_ => e31 ▸ oldF X31 (by rw [hh, ← hn0]; exact N31) b_ cl_ q_)
                refine Gk.ldcH (s := s) (show Stand p l e room_1 (s.setVm s.vm) m _ below meth c _ _ _ _ from X31) hx hZ hown (hw _ (List.mem_of_getElem? (i := 18) rfl)) (own_wS hw) e31 ((State.WarmedH.refl s).since 0) (Nat.zero_le _) (own_EW hw) (List.mem_of_getElem? (i := 3) rfl) R76_.1 lit2T (hb hby at_326) (n := 60) (by decide) (by decide) (by decide) (by decide) ?_
                intro la75 T75 h75 kS75 lb75 lk75 X75 e75 E75 S75_ q75_ Z75_ o75_ lA75 lFc75 lFv75 lV75 llt75 lltb75 C75_ Lt75_ d75_
                have R75_ := R76_.trans C75_
                refine Gk.astore X75 hx (hb hby at_328) rfl #[.val (.int p1), .val (.int p2), .val (.int p3), .val (.int p4), .val (.int p5), .val (.int (0 : Int32)), .val (.int (0 : Int32)), .val (.int kk), .val (.int pos), .val (.int ch), .val (.int tail), .val (.ref b1), .val (.ref b16), .val (.ref la75), .unset, .unset] rfl ?_
                refine Gk.iconst X75 hx (hb hby at_330) (0 : Int32) rfl ?_
                refine Gk.istore X75 hx (hb hby at_331) #[.val (.int p1), .val (.int p2), .val (.int p3), .val (.int p4), .val (.int p5), .val (.int (0 : Int32)), .val (.int (0 : Int32)), .val (.int kk), .val (.int pos), .val (.int ch), .val (.int tail), .val (.ref b1), .val (.ref b16), .val (.ref la75), .val (.int (0 : Int32)), .unset] rfl ?_
                refine Gk.goto X75 hx (hb hby at_333) 376 (by decide) (by decide) ?_
                refine Gk.iload X75 hx (hb hby at_376) rfl ?_
                refine Gk.ifYes X75 hx (hb hby at_378) (teq (by decide : (0 : Int32) = (0 : Int32))).1 389 (by decide) (by decide) ?_
                refine Gk.iload X75 hx (hb hby at_389) rfl ?_
                refine Gk.ifNo X75 hx (hb hby at_391) (teq (by decide : (0 : Int32) = (0 : Int32))).2 ?_
                have H77 := (H33.ext E75)
                refine Gk.getS X75 hx Z75_ o75_ (host := "") (Or.inl (hw _ (List.mem_of_getElem? (i := 10) rfl))) Via.refl e75 H77.sta (hb hby at_394) ?_
                intro T78 X78 e78
                refine Gk.astore X78 hx (hb hby at_397) rfl #[.val (.int p1), .val (.int p2), .val (.int p3), .val (.int p4), .val (.int p5), .val (.int (0 : Int32)), .val (.int (0 : Int32)), .val (.int kk), .val (.int pos), .val (.int ch), .val (.int tail), .val (.ref b1), .val (.ref b16), .val (.ref la75), .val (.int (0 : Int32)), .val (.ref w_UNDETERMINED)] rfl ?_
                refine Gk.goto X78 hx (hb hby at_399) 420 (by decide) (by decide) ?_
                refine Gk.iload X78 hx (hb hby at_420) rfl ?_
                refine Gk.aload X78 hx (hb hby at_422) rfl rfl ?_
                refine Gk.iload X78 hx (hb hby at_424) rfl ?_
                refine Gk.callS (argsL := [(.int (0 : Int32)), (.ref la75), (.int (0 : Int32))]) X78 hx Z75_ o75_ (ats_2 l Z a0 hw [] la75 w_UNDETERMINED h75 n0 (Nat.le_trans Z0 (Nat.le_trans gr38 E75.1)) H77) (hw _ (List.mem_of_getElem? (i := 13) rfl)) (hw _ (List.mem_of_getElem? (i := 14) rfl)) (hw _ (List.mem_of_getElem? (i := 15) rfl)) (hw _ (List.mem_of_getElem? (i := 16) rfl)) (by decide) e78 pd_10 rfl rfl (by decide) (Nat.le_of_ble_eq_true rfl) (by decide) (by decide) (by rw [hml]; rfl)  rfl (hb hby at_426) ?_
                intro T79 L79 v79 X79 hQ79
                obtain ⟨rfl, N79q, e79⟩ := hQ79
                have N79 := Fr.app N31 N79q
                show Go p e below (T79.setTop (mkF m 429 #[.val (.int p1), .val (.int p2), .val (.int p3), .val (.int p4), .val (.int p5), .val (.int (0 : Int32)), .val (.int (0 : Int32)), .val (.int kk), .val (.int pos), .val (.int ch), .val (.int tail), .val (.ref b1), .val (.ref b16), .val (.ref la75), .val (.int (0 : Int32)), .val (.ref w_UNDETERMINED)] [(.ref w_UNDETERMINED)])) _
                refine Gk.aload X79 hx (hb hby at_429) rfl rfl ?_
                refine Gk.acmp X79 hx (hb hby at_431) rfl rfl true (decide_eq_true rfl) 434 (by decide) (by decide) ?_
                refine Gk.iconst X79 hx (hb hby at_434) (1 : Int32) rfl ?_
                refine Gk.goto X79 hx (hb hby at_435) 439 (by decide) (by decide) ?_
                refine Gk.finW (s := s) X79 e79 S75_ (Nat.le_trans q75_ (Nat.le_refl _)) (v := some (.int (1 : Int32))) (fun h_ => by rw [Bd.returns] at h_; cases h_) Bd.notSynchronized (fun _ hr => retN X79 hx (t := .boolean) Bd.returns (by simp) (hb hby at_439) hr) (fun U' hU hF => ⟨_, _, rfl, ?_, hF.1, hF.2.1, hF.2.2.1, hF.2.2.2.mono (by decide) (by decide)⟩)
                exact ⟨(congrArg (fun z_ : Int32 => some (Value.int z_)) (show (1 : Int32) = (1 : Int32) from rfl)), N79⟩
              · refine Gk.icmpYes X31 hx (hb hby at_323) (feq hc323).2 336 (by decide) (by decide) ?_
                refine Gk.iload X31 hx (hb hby at_336) rfl ?_
                refine Gk.iconst X31 hx (hb hby at_338) (5 : Int32) rfl ?_
                by_cases hc339 : kk = (5 : Int32)
                · refine Gk.icmpNo X31 hx (hb hby at_339) (teq hc339).2 ?_
                  have R81_ := own_chrOld (h' := h31) hCH (by rw [← hh]; exact fun b_ cl_ q_ => e31 ▸ oldF X31 (by rw [hh, ← hn0]; exact N31) b_ cl_ q_)
                  refine Gk.ldcH (s := s) (show Stand p l e room_1 (s.setVm s.vm) m _ below meth c _ _ _ _ from X31) hx hZ hown (hw _ (List.mem_of_getElem? (i := 87) rfl)) (own_wS hw) e31 ((State.WarmedH.refl s).since 0) (Nat.zero_le _) (own_EW hw) (List.mem_of_getElem? (i := 4) rfl) R81_.1 lit3T (hb hby at_342) (n := 28) (by decide) (by decide) (by decide) (by decide) ?_
                  intro la80 T80 h80 kS80 lb80 lk80 X80 e80 E80 S80_ q80_ Z80_ o80_ lA80 lFc80 lFv80 lV80 llt80 lltb80 C80_ Lt80_ d80_
                  have R80_ := R81_.trans C80_
                  refine Gk.astore X80 hx (hb hby at_344) rfl #[.val (.int p1), .val (.int p2), .val (.int p3), .val (.int p4), .val (.int p5), .val (.int (0 : Int32)), .val (.int (0 : Int32)), .val (.int kk), .val (.int pos), .val (.int ch), .val (.int tail), .val (.ref b1), .val (.ref b16), .val (.ref la80), .unset, .unset] rfl ?_
                  refine Gk.iconst X80 hx (hb hby at_346) (0 : Int32) rfl ?_
                  refine Gk.istore X80 hx (hb hby at_347) #[.val (.int p1), .val (.int p2), .val (.int p3), .val (.int p4), .val (.int p5), .val (.int (0 : Int32)), .val (.int (0 : Int32)), .val (.int kk), .val (.int pos), .val (.int ch), .val (.int tail), .val (.ref b1), .val (.ref b16), .val (.ref la80), .val (.int (0 : Int32)), .unset] rfl ?_
                  refine Gk.goto X80 hx (hb hby at_349) 376 (by decide) (by decide) ?_
                  refine Gk.iload X80 hx (hb hby at_376) rfl ?_
                  refine Gk.ifYes X80 hx (hb hby at_378) (teq (by decide : (0 : Int32) = (0 : Int32))).1 389 (by decide) (by decide) ?_
                  refine Gk.iload X80 hx (hb hby at_389) rfl ?_
                  refine Gk.ifNo X80 hx (hb hby at_391) (teq (by decide : (0 : Int32) = (0 : Int32))).2 ?_
                  have H82 := (H33.ext E80)
                  refine Gk.getS X80 hx Z80_ o80_ (host := "") (Or.inl (hw _ (List.mem_of_getElem? (i := 10) rfl))) Via.refl e80 H82.sta (hb hby at_394) ?_
                  intro T83 X83 e83
                  refine Gk.astore X83 hx (hb hby at_397) rfl #[.val (.int p1), .val (.int p2), .val (.int p3), .val (.int p4), .val (.int p5), .val (.int (0 : Int32)), .val (.int (0 : Int32)), .val (.int kk), .val (.int pos), .val (.int ch), .val (.int tail), .val (.ref b1), .val (.ref b16), .val (.ref la80), .val (.int (0 : Int32)), .val (.ref w_UNDETERMINED)] rfl ?_
                  refine Gk.goto X83 hx (hb hby at_399) 420 (by decide) (by decide) ?_
                  refine Gk.iload X83 hx (hb hby at_420) rfl ?_
                  refine Gk.aload X83 hx (hb hby at_422) rfl rfl ?_
                  refine Gk.iload X83 hx (hb hby at_424) rfl ?_
                  refine Gk.callS (argsL := [(.int (0 : Int32)), (.ref la80), (.int (0 : Int32))]) X83 hx Z80_ o80_ (ats_2 l Z a0 hw [] la80 w_UNDETERMINED h80 n0 (Nat.le_trans Z0 (Nat.le_trans gr38 E80.1)) H82) (hw _ (List.mem_of_getElem? (i := 13) rfl)) (hw _ (List.mem_of_getElem? (i := 14) rfl)) (hw _ (List.mem_of_getElem? (i := 15) rfl)) (hw _ (List.mem_of_getElem? (i := 16) rfl)) (by decide) e83 pd_10 rfl rfl (by decide) (Nat.le_of_ble_eq_true rfl) (by decide) (by decide) (by rw [hml]; rfl)  rfl (hb hby at_426) ?_
                  intro T84 L84 v84 X84 hQ84
                  obtain ⟨rfl, N84q, e84⟩ := hQ84
                  have N84 := Fr.app N31 N84q
                  show Go p e below (T84.setTop (mkF m 429 #[.val (.int p1), .val (.int p2), .val (.int p3), .val (.int p4), .val (.int p5), .val (.int (0 : Int32)), .val (.int (0 : Int32)), .val (.int kk), .val (.int pos), .val (.int ch), .val (.int tail), .val (.ref b1), .val (.ref b16), .val (.ref la80), .val (.int (0 : Int32)), .val (.ref w_UNDETERMINED)] [(.ref w_UNDETERMINED)])) _
                  refine Gk.aload X84 hx (hb hby at_429) rfl rfl ?_
                  refine Gk.acmp X84 hx (hb hby at_431) rfl rfl true (decide_eq_true rfl) 434 (by decide) (by decide) ?_
                  refine Gk.iconst X84 hx (hb hby at_434) (1 : Int32) rfl ?_
                  refine Gk.goto X84 hx (hb hby at_435) 439 (by decide) (by decide) ?_
                  refine Gk.finW (s := s) X84 e84 S80_ (Nat.le_trans q80_ (Nat.le_refl _)) (v := some (.int (1 : Int32))) (fun h_ => by rw [Bd.returns] at h_; cases h_) Bd.notSynchronized (fun _ hr => retN X84 hx (t := .boolean) Bd.returns (by simp) (hb hby at_439) hr) (fun U' hU hF => ⟨_, _, rfl, ?_, hF.1, hF.2.1, hF.2.2.1, hF.2.2.2.mono (by decide) (by decide)⟩)
                  exact ⟨(congrArg (fun z_ : Int32 => some (Value.int z_)) (show (1 : Int32) = (1 : Int32) from rfl)), N84⟩
                · refine Gk.icmpYes X31 hx (hb hby at_339) (feq hc339).2 352 (by decide) (by decide) ?_
                  refine Gk.iload X31 hx (hb hby at_352) rfl ?_
                  refine Gk.bipush X31 hx (hb hby at_354) (6 : Int32) rfl ?_
                  by_cases hc356 : kk = (6 : Int32)
                  · refine Gk.icmpNo X31 hx (hb hby at_356) (teq hc356).2 ?_
                    have R86_ := own_chrOld (h' := h31) hCH (by rw [← hh]; exact fun b_ cl_ q_ => e31 ▸ oldF X31 (by rw [hh, ← hn0]; exact N31) b_ cl_ q_)
                    refine Gk.ldcH (s := s) (show Stand p l e room_1 (s.setVm s.vm) m _ below meth c _ _ _ _ from X31) hx hZ hown (hw _ (List.mem_of_getElem? (i := 86) rfl)) (own_wS hw) e31 ((State.WarmedH.refl s).since 0) (Nat.zero_le _) (own_EW hw) (List.mem_of_getElem? (i := 5) rfl) R86_.1 lit4T (hb hby at_359) (n := 0) (by decide) (by decide) (by decide) (by decide) ?_
                    intro la85 T85 h85 kS85 lb85 lk85 X85 e85 E85 S85_ q85_ Z85_ o85_ lA85 lFc85 lFv85 lV85 llt85 lltb85 C85_ Lt85_ d85_
                    have R85_ := R86_.trans C85_
                    refine Gk.astore X85 hx (hb hby at_361) rfl #[.val (.int p1), .val (.int p2), .val (.int p3), .val (.int p4), .val (.int p5), .val (.int (0 : Int32)), .val (.int (0 : Int32)), .val (.int kk), .val (.int pos), .val (.int ch), .val (.int tail), .val (.ref b1), .val (.ref b16), .val (.ref la85), .unset, .unset] rfl ?_
                    refine Gk.iconst X85 hx (hb hby at_363) (0 : Int32) rfl ?_
                    refine Gk.istore X85 hx (hb hby at_364) #[.val (.int p1), .val (.int p2), .val (.int p3), .val (.int p4), .val (.int p5), .val (.int (0 : Int32)), .val (.int (0 : Int32)), .val (.int kk), .val (.int pos), .val (.int ch), .val (.int tail), .val (.ref b1), .val (.ref b16), .val (.ref la85), .val (.int (0 : Int32)), .unset] rfl ?_
                    refine Gk.goto X85 hx (hb hby at_366) 376 (by decide) (by decide) ?_
                    refine Gk.iload X85 hx (hb hby at_376) rfl ?_
                    refine Gk.ifYes X85 hx (hb hby at_378) (teq (by decide : (0 : Int32) = (0 : Int32))).1 389 (by decide) (by decide) ?_
                    refine Gk.iload X85 hx (hb hby at_389) rfl ?_
                    refine Gk.ifNo X85 hx (hb hby at_391) (teq (by decide : (0 : Int32) = (0 : Int32))).2 ?_
                    have H87 := (H33.ext E85)
                    refine Gk.getS X85 hx Z85_ o85_ (host := "") (Or.inl (hw _ (List.mem_of_getElem? (i := 10) rfl))) Via.refl e85 H87.sta (hb hby at_394) ?_
                    intro T88 X88 e88
                    refine Gk.astore X88 hx (hb hby at_397) rfl #[.val (.int p1), .val (.int p2), .val (.int p3), .val (.int p4), .val (.int p5), .val (.int (0 : Int32)), .val (.int (0 : Int32)), .val (.int kk), .val (.int pos), .val (.int ch), .val (.int tail), .val (.ref b1), .val (.ref b16), .val (.ref la85), .val (.int (0 : Int32)), .val (.ref w_UNDETERMINED)] rfl ?_
                    refine Gk.goto X88 hx (hb hby at_399) 420 (by decide) (by decide) ?_
                    refine Gk.iload X88 hx (hb hby at_420) rfl ?_
                    refine Gk.aload X88 hx (hb hby at_422) rfl rfl ?_
                    refine Gk.iload X88 hx (hb hby at_424) rfl ?_
                    refine Gk.callS (argsL := [(.int (0 : Int32)), (.ref la85), (.int (0 : Int32))]) X88 hx Z85_ o85_ (ats_2 l Z a0 hw [] la85 w_UNDETERMINED h85 n0 (Nat.le_trans Z0 (Nat.le_trans gr38 E85.1)) H87) (hw _ (List.mem_of_getElem? (i := 13) rfl)) (hw _ (List.mem_of_getElem? (i := 14) rfl)) (hw _ (List.mem_of_getElem? (i := 15) rfl)) (hw _ (List.mem_of_getElem? (i := 16) rfl)) (by decide) e88 pd_10 rfl rfl (by decide) (Nat.le_of_ble_eq_true rfl) (by decide) (by decide) (by rw [hml]; rfl)  rfl (hb hby at_426) ?_
                    intro T89 L89 v89 X89 hQ89
                    obtain ⟨rfl, N89q, e89⟩ := hQ89
                    have N89 := Fr.app N31 N89q
                    show Go p e below (T89.setTop (mkF m 429 #[.val (.int p1), .val (.int p2), .val (.int p3), .val (.int p4), .val (.int p5), .val (.int (0 : Int32)), .val (.int (0 : Int32)), .val (.int kk), .val (.int pos), .val (.int ch), .val (.int tail), .val (.ref b1), .val (.ref b16), .val (.ref la85), .val (.int (0 : Int32)), .val (.ref w_UNDETERMINED)] [(.ref w_UNDETERMINED)])) _
                    refine Gk.aload X89 hx (hb hby at_429) rfl rfl ?_
                    refine Gk.acmp X89 hx (hb hby at_431) rfl rfl true (decide_eq_true rfl) 434 (by decide) (by decide) ?_
                    refine Gk.iconst X89 hx (hb hby at_434) (1 : Int32) rfl ?_
                    refine Gk.goto X89 hx (hb hby at_435) 439 (by decide) (by decide) ?_
                    refine Gk.finW (s := s) X89 e89 S85_ (Nat.le_trans q85_ (Nat.le_refl _)) (v := some (.int (1 : Int32))) (fun h_ => by rw [Bd.returns] at h_; cases h_) Bd.notSynchronized (fun _ hr => retN X89 hx (t := .boolean) Bd.returns (by simp) (hb hby at_439) hr) (fun U' hU hF => ⟨_, _, rfl, ?_, hF.1, hF.2.1, hF.2.2.1, hF.2.2.2.mono (by decide) (by decide)⟩)
                    exact ⟨(congrArg (fun z_ : Int32 => some (Value.int z_)) (show (1 : Int32) = (1 : Int32) from rfl)), N89⟩
                  · refine Gk.icmpYes X31 hx (hb hby at_356) (feq hc356).2 369 (by decide) (by decide) ?_
                    have R91_ := own_chrOld (h' := h31) hCH (by rw [← hh]; exact fun b_ cl_ q_ => e31 ▸ oldF X31 (by rw [hh, ← hn0]; exact N31) b_ cl_ q_)
                    refine Gk.ldcH (s := s) (show Stand p l e room_1 (s.setVm s.vm) m _ below meth c _ _ _ _ from X31) hx hZ hown (hw _ (List.mem_of_getElem? (i := 46) rfl)) (own_wS hw) e31 ((State.WarmedH.refl s).since 0) (Nat.zero_le _) (own_EW hw) (List.mem_of_getElem? (i := 6) rfl) R91_.1 lit5T (hb hby at_369) (n := 48) (by decide) (by decide) (by decide) (by decide) ?_
                    intro la90 T90 h90 kS90 lb90 lk90 X90 e90 E90 S90_ q90_ Z90_ o90_ lA90 lFc90 lFv90 lV90 llt90 lltb90 C90_ Lt90_ d90_
                    have R90_ := R91_.trans C90_
                    refine Gk.astore X90 hx (hb hby at_371) rfl #[.val (.int p1), .val (.int p2), .val (.int p3), .val (.int p4), .val (.int p5), .val (.int (0 : Int32)), .val (.int (0 : Int32)), .val (.int kk), .val (.int pos), .val (.int ch), .val (.int tail), .val (.ref b1), .val (.ref b16), .val (.ref la90), .unset, .unset] rfl ?_
                    refine Gk.iconst X90 hx (hb hby at_373) (0 : Int32) rfl ?_
                    refine Gk.istore X90 hx (hb hby at_374) #[.val (.int p1), .val (.int p2), .val (.int p3), .val (.int p4), .val (.int p5), .val (.int (0 : Int32)), .val (.int (0 : Int32)), .val (.int kk), .val (.int pos), .val (.int ch), .val (.int tail), .val (.ref b1), .val (.ref b16), .val (.ref la90), .val (.int (0 : Int32)), .unset] rfl ?_
                    refine Gk.iload X90 hx (hb hby at_376) rfl ?_
                    refine Gk.ifYes X90 hx (hb hby at_378) (teq (by decide : (0 : Int32) = (0 : Int32))).1 389 (by decide) (by decide) ?_
                    refine Gk.iload X90 hx (hb hby at_389) rfl ?_
                    refine Gk.ifNo X90 hx (hb hby at_391) (teq (by decide : (0 : Int32) = (0 : Int32))).2 ?_
                    have H92 := (H33.ext E90)
                    refine Gk.getS X90 hx Z90_ o90_ (host := "") (Or.inl (hw _ (List.mem_of_getElem? (i := 10) rfl))) Via.refl e90 H92.sta (hb hby at_394) ?_
                    intro T93 X93 e93
                    refine Gk.astore X93 hx (hb hby at_397) rfl #[.val (.int p1), .val (.int p2), .val (.int p3), .val (.int p4), .val (.int p5), .val (.int (0 : Int32)), .val (.int (0 : Int32)), .val (.int kk), .val (.int pos), .val (.int ch), .val (.int tail), .val (.ref b1), .val (.ref b16), .val (.ref la90), .val (.int (0 : Int32)), .val (.ref w_UNDETERMINED)] rfl ?_
                    refine Gk.goto X93 hx (hb hby at_399) 420 (by decide) (by decide) ?_
                    refine Gk.iload X93 hx (hb hby at_420) rfl ?_
                    refine Gk.aload X93 hx (hb hby at_422) rfl rfl ?_
                    refine Gk.iload X93 hx (hb hby at_424) rfl ?_
                    refine Gk.callS (argsL := [(.int (0 : Int32)), (.ref la90), (.int (0 : Int32))]) X93 hx Z90_ o90_ (ats_2 l Z a0 hw [] la90 w_UNDETERMINED h90 n0 (Nat.le_trans Z0 (Nat.le_trans gr38 E90.1)) H92) (hw _ (List.mem_of_getElem? (i := 13) rfl)) (hw _ (List.mem_of_getElem? (i := 14) rfl)) (hw _ (List.mem_of_getElem? (i := 15) rfl)) (hw _ (List.mem_of_getElem? (i := 16) rfl)) (by decide) e93 pd_10 rfl rfl (by decide) (Nat.le_of_ble_eq_true rfl) (by decide) (by decide) (by rw [hml]; rfl)  rfl (hb hby at_426) ?_
                    intro T94 L94 v94 X94 hQ94
                    obtain ⟨rfl, N94q, e94⟩ := hQ94
                    have N94 := Fr.app N31 N94q
                    show Go p e below (T94.setTop (mkF m 429 #[.val (.int p1), .val (.int p2), .val (.int p3), .val (.int p4), .val (.int p5), .val (.int (0 : Int32)), .val (.int (0 : Int32)), .val (.int kk), .val (.int pos), .val (.int ch), .val (.int tail), .val (.ref b1), .val (.ref b16), .val (.ref la90), .val (.int (0 : Int32)), .val (.ref w_UNDETERMINED)] [(.ref w_UNDETERMINED)])) _
                    refine Gk.aload X94 hx (hb hby at_429) rfl rfl ?_
                    refine Gk.acmp X94 hx (hb hby at_431) rfl rfl true (decide_eq_true rfl) 434 (by decide) (by decide) ?_
                    refine Gk.iconst X94 hx (hb hby at_434) (1 : Int32) rfl ?_
                    refine Gk.goto X94 hx (hb hby at_435) 439 (by decide) (by decide) ?_
                    refine Gk.finW (s := s) X94 e94 S90_ (Nat.le_trans q90_ (Nat.le_refl _)) (v := some (.int (1 : Int32))) (fun h_ => by rw [Bd.returns] at h_; cases h_) Bd.notSynchronized (fun _ hr => retN X94 hx (t := .boolean) Bd.returns (by simp) (hb hby at_439) hr) (fun U' hU hF => ⟨_, _, rfl, ?_, hF.1, hF.2.1, hF.2.2.1, hF.2.2.2.mono (by decide) (by decide)⟩)
                    exact ⟨(congrArg (fun z_ : Int32 => some (Value.int z_)) (show (1 : Int32) = (1 : Int32) from rfl)), N94⟩
    · refine Gk.ifNo X0 hx (hb hby at_16) (feq hc16).1 ?_
      refine Gk.iconst X0 hx (hb hby at_19) (1 : Int32) rfl ?_
      refine Gk.goto X0 hx (hb hby at_20) 24 (by decide) (by decide) ?_
      refine Gk.istore X0 hx (hb hby at_24) #[.val (.int p1), .val (.int p2), .val (.int p3), .val (.int p4), .val (.int p5), .val (.int (0 : Int32)), .val (.int (1 : Int32)), .unset, .unset, .unset, .unset, .unset, .unset, .unset, .unset, .unset] rfl ?_
      refine Gk.iloadN X0 hx (hb hby at_26) rfl ?_
      refine Gk.bipush X0 hx (hb hby at_27) (7 : Int32) rfl ?_
      refine Gk.iand X0 hx (hb hby at_29) _ rfl ?_
      obtain ⟨kk, ekk⟩ : ∃ z_ : Int32, z_ = (p2 &&& (7 : Int32)) := ⟨_, rfl⟩
      show Go p e below (s₁.setTop (mkF m 30 #[.val (.int p1), .val (.int p2), .val (.int p3), .val (.int p4), .val (.int p5), .val (.int (0 : Int32)), .val (.int (1 : Int32)), .unset, .unset, .unset, .unset, .unset, .unset, .unset, .unset, .unset] [(.int (p2 &&& (7 : Int32)))])) _
      rw [← ekk]
      refine Gk.istore X0 hx (hb hby at_30) #[.val (.int p1), .val (.int p2), .val (.int p3), .val (.int p4), .val (.int p5), .val (.int (0 : Int32)), .val (.int (1 : Int32)), .val (.int kk), .unset, .unset, .unset, .unset, .unset, .unset, .unset, .unset] rfl ?_
      refine Gk.iloadN X0 hx (hb hby at_32) rfl ?_
      refine Gk.ldcI X0 hx hZ hown (hw _ (List.mem_of_getElem? (i := 0) rfl)) (hb hby at_33) ?_
      refine Gk.iand X0 hx (hb hby at_35) _ rfl ?_
      refine Gk.bipush X0 hx (hb hby at_36) (13 : Int32) rfl ?_
      refine Gk.irem X0 hx (hb hby at_38) (by decide) _ rfl ?_
      obtain ⟨pos, epos⟩ : ∃ z_ : Int32, z_ = ((p3 &&& (2147483647 : Int32)) % (13 : Int32)) := ⟨_, rfl⟩
      show Go p e below (s₁.setTop (mkF m 39 #[.val (.int p1), .val (.int p2), .val (.int p3), .val (.int p4), .val (.int p5), .val (.int (0 : Int32)), .val (.int (1 : Int32)), .val (.int kk), .unset, .unset, .unset, .unset, .unset, .unset, .unset, .unset] [(.int ((p3 &&& (2147483647 : Int32)) % (13 : Int32)))])) _
      rw [← epos]
      refine Gk.istore X0 hx (hb hby at_39) #[.val (.int p1), .val (.int p2), .val (.int p3), .val (.int p4), .val (.int p5), .val (.int (0 : Int32)), .val (.int (1 : Int32)), .val (.int kk), .val (.int pos), .unset, .unset, .unset, .unset, .unset, .unset, .unset] rfl ?_
      refine Gk.iloadN X0 hx (hb hby at_41) rfl ?_
      refine Gk.sipush X0 hx (hb hby at_42) (255 : Int32) rfl ?_
      refine Gk.iand X0 hx (hb hby at_45) _ rfl ?_
      refine Gk.i2c X0 hx (hb hby at_46) _ rfl ?_
      obtain ⟨ch, ech⟩ : ∃ z_ : Int32, z_ = ((p4 &&& (255 : Int32)).toUInt32.toUInt16.toUInt32.toInt32) := ⟨_, rfl⟩
      show Go p e below (s₁.setTop (mkF m 47 #[.val (.int p1), .val (.int p2), .val (.int p3), .val (.int p4), .val (.int p5), .val (.int (0 : Int32)), .val (.int (1 : Int32)), .val (.int kk), .val (.int pos), .unset, .unset, .unset, .unset, .unset, .unset, .unset] [(.int ((p4 &&& (255 : Int32)).toUInt32.toUInt16.toUInt32.toInt32))])) _
      rw [← ech]
      refine Gk.istore X0 hx (hb hby at_47) #[.val (.int p1), .val (.int p2), .val (.int p3), .val (.int p4), .val (.int p5), .val (.int (0 : Int32)), .val (.int (1 : Int32)), .val (.int kk), .val (.int pos), .val (.int ch), .unset, .unset, .unset, .unset, .unset, .unset] rfl ?_
      refine Gk.iload X0 hx (hb hby at_49) rfl ?_
      refine Gk.sipush X0 hx (hb hby at_51) (255 : Int32) rfl ?_
      refine Gk.iand X0 hx (hb hby at_54) _ rfl ?_
      refine Gk.i2c X0 hx (hb hby at_55) _ rfl ?_
      obtain ⟨tail, etail⟩ : ∃ z_ : Int32, z_ = ((p5 &&& (255 : Int32)).toUInt32.toUInt16.toUInt32.toInt32) := ⟨_, rfl⟩
      show Go p e below (s₁.setTop (mkF m 56 #[.val (.int p1), .val (.int p2), .val (.int p3), .val (.int p4), .val (.int p5), .val (.int (0 : Int32)), .val (.int (1 : Int32)), .val (.int kk), .val (.int pos), .val (.int ch), .unset, .unset, .unset, .unset, .unset, .unset] [(.int ((p5 &&& (255 : Int32)).toUInt32.toUInt16.toUInt32.toInt32))])) _
      rw [← etail]
      refine Gk.istore X0 hx (hb hby at_56) #[.val (.int p1), .val (.int p2), .val (.int p3), .val (.int p4), .val (.int p5), .val (.int (0 : Int32)), .val (.int (1 : Int32)), .val (.int kk), .val (.int pos), .val (.int ch), .val (.int tail), .unset, .unset, .unset, .unset, .unset] rfl ?_
      refine Gk.bipush X0 hx (hb hby at_58) (13 : Int32) rfl ?_
      refine Gk.newP X0 hx hZ (hw _ (List.mem_of_getElem? (i := 1) rfl)) e0 (hb hby at_60) (by decide) (cap := 13) (by decide) (by decide) (by decide) (by decide) rfl ?_
      intro T95 h95 b95 k95 X95 e95 E95 g95 A95 B95
      have g_b95 : n0 ≤ b95 := Nat.le_trans Z0 (Nat.le_of_eq g95.symm)
      have V_b95 : Arf Z h95 b95 k95 .char (13 : Int32) (fun _ => (.int (0 : Int32))) := A95
      have lt_b95 := V_b95.lt
      refine Gk.dup X95 hx (hb hby at_62) rfl ?_
      refine Gk.iconst X95 hx (hb hby at_63) (0 : Int32) rfl ?_
      refine Gk.bipush X95 hx (hb hby at_64) (78 : Int32) rfl ?_
      refine Gk.castore X95 hx hZ e95 V_b95 0 rfl ⟨by decide, by decide⟩ (.int (78 : Int32)) rfl (hb hby at_66) ?_
      intro T96 h96 X96 e96 W96 V96
      have N96 := Fr.snoc X96 N0 g_b95
      refine Gk.dup X96 hx (hb hby at_67) rfl ?_
      refine Gk.iconst X96 hx (hb hby at_68) (1 : Int32) rfl ?_
      refine Gk.bipush X96 hx (hb hby at_69) (70 : Int32) rfl ?_
      refine Gk.castore X96 hx hZ e96 V96 1 rfl ⟨by decide, by decide⟩ (.int (70 : Int32)) rfl (hb hby at_71) ?_
      intro T97 h97 X97 e97 W97 V97
      have N97 := Fr.snoc X97 N96 g_b95
      refine Gk.dup X97 hx (hb hby at_72) rfl ?_
      refine Gk.iconst X97 hx (hb hby at_73) (2 : Int32) rfl ?_
      refine Gk.bipush X97 hx (hb hby at_74) (83 : Int32) rfl ?_
      refine Gk.castore X97 hx hZ e97 V97 2 rfl ⟨by decide, by decide⟩ (.int (83 : Int32)) rfl (hb hby at_76) ?_
      intro T98 h98 X98 e98 W98 V98
      have N98 := Fr.snoc X98 N97 g_b95
      refine Gk.dup X98 hx (hb hby at_77) rfl ?_
      refine Gk.iconst X98 hx (hb hby at_78) (3 : Int32) rfl ?_
      refine Gk.bipush X98 hx (hb hby at_79) (52 : Int32) rfl ?_
      refine Gk.castore X98 hx hZ e98 V98 3 rfl ⟨by decide, by decide⟩ (.int (52 : Int32)) rfl (hb hby at_81) ?_
      intro T99 h99 X99 e99 W99 V99
      have N99 := Fr.snoc X99 N98 g_b95
      refine Gk.dup X99 hx (hb hby at_82) rfl ?_
      refine Gk.iconst X99 hx (hb hby at_83) (4 : Int32) rfl ?_
      refine Gk.bipush X99 hx (hb hby at_84) (69 : Int32) rfl ?_
      refine Gk.castore X99 hx hZ e99 V99 4 rfl ⟨by decide, by decide⟩ (.int (69 : Int32)) rfl (hb hby at_86) ?_
      intro T100 h100 X100 e100 W100 V100
      have N100 := Fr.snoc X100 N99 g_b95
      refine Gk.dup X100 hx (hb hby at_87) rfl ?_
      refine Gk.iconst X100 hx (hb hby at_88) (5 : Int32) rfl ?_
      refine Gk.bipush X100 hx (hb hby at_89) (82 : Int32) rfl ?_
      refine Gk.castore X100 hx hZ e100 V100 5 rfl ⟨by decide, by decide⟩ (.int (82 : Int32)) rfl (hb hby at_91) ?_
      intro T101 h101 X101 e101 W101 V101
      have N101 := Fr.snoc X101 N100 g_b95
      refine Gk.dup X101 hx (hb hby at_92) rfl ?_
      refine Gk.bipush X101 hx (hb hby at_93) (6 : Int32) rfl ?_
      refine Gk.bipush X101 hx (hb hby at_95) (82 : Int32) rfl ?_
      refine Gk.castore X101 hx hZ e101 V101 6 rfl ⟨by decide, by decide⟩ (.int (82 : Int32)) rfl (hb hby at_97) ?_
      intro T102 h102 X102 e102 W102 V102
      have N102 := Fr.snoc X102 N101 g_b95
      refine Gk.dup X102 hx (hb hby at_98) rfl ?_
      refine Gk.bipush X102 hx (hb hby at_99) (7 : Int32) rfl ?_
      refine Gk.bipush X102 hx (hb hby at_101) (95 : Int32) rfl ?_
      refine Gk.castore X102 hx hZ e102 V102 7 rfl ⟨by decide, by decide⟩ (.int (95 : Int32)) rfl (hb hby at_103) ?_
      intro T103 h103 X103 e103 W103 V103
      have N103 := Fr.snoc X103 N102 g_b95
      refine Gk.dup X103 hx (hb hby at_104) rfl ?_
      refine Gk.bipush X103 hx (hb hby at_105) (8 : Int32) rfl ?_
      refine Gk.bipush X103 hx (hb hby at_107) (73 : Int32) rfl ?_
      refine Gk.castore X103 hx hZ e103 V103 8 rfl ⟨by decide, by decide⟩ (.int (73 : Int32)) rfl (hb hby at_109) ?_
      intro T104 h104 X104 e104 W104 V104
      have N104 := Fr.snoc X104 N103 g_b95
      refine Gk.dup X104 hx (hb hby at_110) rfl ?_
      refine Gk.bipush X104 hx (hb hby at_111) (9 : Int32) rfl ?_
      refine Gk.bipush X104 hx (hb hby at_113) (78 : Int32) rfl ?_
      refine Gk.castore X104 hx hZ e104 V104 9 rfl ⟨by decide, by decide⟩ (.int (78 : Int32)) rfl (hb hby at_115) ?_
      intro T105 h105 X105 e105 W105 V105
      have N105 := Fr.snoc X105 N104 g_b95
      refine Gk.dup X105 hx (hb hby at_116) rfl ?_
      refine Gk.bipush X105 hx (hb hby at_117) (10 : Int32) rfl ?_
      refine Gk.bipush X105 hx (hb hby at_119) (86 : Int32) rfl ?_
      refine Gk.castore X105 hx hZ e105 V105 10 rfl ⟨by decide, by decide⟩ (.int (86 : Int32)) rfl (hb hby at_121) ?_
      intro T106 h106 X106 e106 W106 V106
      have N106 := Fr.snoc X106 N105 g_b95
      refine Gk.dup X106 hx (hb hby at_122) rfl ?_
      refine Gk.bipush X106 hx (hb hby at_123) (11 : Int32) rfl ?_
      refine Gk.bipush X106 hx (hb hby at_125) (65 : Int32) rfl ?_
      refine Gk.castore X106 hx hZ e106 V106 11 rfl ⟨by decide, by decide⟩ (.int (65 : Int32)) rfl (hb hby at_127) ?_
      intro T107 h107 X107 e107 W107 V107
      have N107 := Fr.snoc X107 N106 g_b95
      refine Gk.dup X107 hx (hb hby at_128) rfl ?_
      refine Gk.bipush X107 hx (hb hby at_129) (12 : Int32) rfl ?_
      refine Gk.bipush X107 hx (hb hby at_131) (76 : Int32) rfl ?_
      refine Gk.castore X107 hx hZ e107 V107 12 rfl ⟨by decide, by decide⟩ (.int (76 : Int32)) rfl (hb hby at_133) ?_
      intro T108 h108 X108 e108 W108 V108
      have N108 := Fr.snoc X108 N107 g_b95
      refine Gk.astore X108 hx (hb hby at_134) rfl #[.val (.int p1), .val (.int p2), .val (.int p3), .val (.int p4), .val (.int p5), .val (.int (0 : Int32)), .val (.int (1 : Int32)), .val (.int kk), .val (.int pos), .val (.int ch), .val (.int tail), .val (.ref b95), .unset, .unset, .unset, .unset] rfl ?_
      refine Gk.aload X108 hx (hb hby at_136) rfl rfl ?_
      refine Gk.iload X108 hx (hb hby at_138) rfl ?_
      refine Gk.iload X108 hx (hb hby at_140) rfl ?_
      refine Gk.castore X108 hx hZ e108 V108 pos.toNatClampNeg rfl (own_pos epos) (.int (nar .char ch)) rfl (hb hby at_142) ?_
      intro T109 h109 X109 e109 W109 V109
      have N109 := Fr.snoc X109 N108 g_b95
      refine Gk.bipush X109 hx (hb hby at_143) (14 : Int32) rfl ?_
      have gr111 := (Nat.le_trans (Nat.le_trans (Nat.le_trans (Nat.le_trans (Nat.le_trans (Nat.le_trans (Nat.le_trans (Nat.le_trans (Nat.le_trans (Nat.le_trans (Nat.le_trans (Nat.le_trans (Nat.le_trans (Nat.le_trans E95.1 (Keep.of_wr W96).1) (Keep.of_wr W97).1) (Keep.of_wr W98).1) (Keep.of_wr W99).1) (Keep.of_wr W100).1) (Keep.of_wr W101).1) (Keep.of_wr W102).1) (Keep.of_wr W103).1) (Keep.of_wr W104).1) (Keep.of_wr W105).1) (Keep.of_wr W106).1) (Keep.of_wr W107).1) (Keep.of_wr W108).1) (Keep.of_wr W109).1)
      refine Gk.newP X109 hx hZ (hw _ (List.mem_of_getElem? (i := 1) rfl)) e109 (hb hby at_145) (by decide) (cap := 14) (by decide) (by decide) (by decide) (by decide) rfl ?_
      intro T110 h110 b110 k110 X110 e110 E110 g110 A110 B110
      have g_b110 : n0 ≤ b110 := Nat.le_trans (Nat.le_trans Z0 gr111) (Nat.le_of_eq g110.symm)
      have V_b110 : Arf Z h110 b110 k110 .char (14 : Int32) (fun _ => (.int (0 : Int32))) := A110
      have lt_b110 := V_b110.lt
      refine Gk.dup X110 hx (hb hby at_147) rfl ?_
      refine Gk.iconst X110 hx (hb hby at_148) (0 : Int32) rfl ?_
      refine Gk.bipush X110 hx (hb hby at_149) (78 : Int32) rfl ?_
      refine Gk.castore X110 hx hZ e110 V_b110 0 rfl ⟨by decide, by decide⟩ (.int (78 : Int32)) rfl (hb hby at_151) ?_
      intro T112 h112 X112 e112 W112 V112
      have N112 := Fr.snoc X112 N109 g_b110
      refine Gk.dup X112 hx (hb hby at_152) rfl ?_
      refine Gk.iconst X112 hx (hb hby at_153) (1 : Int32) rfl ?_
      refine Gk.bipush X112 hx (hb hby at_154) (70 : Int32) rfl ?_
      refine Gk.castore X112 hx hZ e112 V112 1 rfl ⟨by decide, by decide⟩ (.int (70 : Int32)) rfl (hb hby at_156) ?_
      intro T113 h113 X113 e113 W113 V113
      have N113 := Fr.snoc X113 N112 g_b110
      refine Gk.dup X113 hx (hb hby at_157) rfl ?_
      refine Gk.iconst X113 hx (hb hby at_158) (2 : Int32) rfl ?_
      refine Gk.bipush X113 hx (hb hby at_159) (83 : Int32) rfl ?_
      refine Gk.castore X113 hx hZ e113 V113 2 rfl ⟨by decide, by decide⟩ (.int (83 : Int32)) rfl (hb hby at_161) ?_
      intro T114 h114 X114 e114 W114 V114
      have N114 := Fr.snoc X114 N113 g_b110
      refine Gk.dup X114 hx (hb hby at_162) rfl ?_
      refine Gk.iconst X114 hx (hb hby at_163) (3 : Int32) rfl ?_
      refine Gk.bipush X114 hx (hb hby at_164) (52 : Int32) rfl ?_
      refine Gk.castore X114 hx hZ e114 V114 3 rfl ⟨by decide, by decide⟩ (.int (52 : Int32)) rfl (hb hby at_166) ?_
      intro T115 h115 X115 e115 W115 V115
      have N115 := Fr.snoc X115 N114 g_b110
      refine Gk.dup X115 hx (hb hby at_167) rfl ?_
      refine Gk.iconst X115 hx (hb hby at_168) (4 : Int32) rfl ?_
      refine Gk.bipush X115 hx (hb hby at_169) (69 : Int32) rfl ?_
      refine Gk.castore X115 hx hZ e115 V115 4 rfl ⟨by decide, by decide⟩ (.int (69 : Int32)) rfl (hb hby at_171) ?_
      intro T116 h116 X116 e116 W116 V116
      have N116 := Fr.snoc X116 N115 g_b110
      refine Gk.dup X116 hx (hb hby at_172) rfl ?_
      refine Gk.iconst X116 hx (hb hby at_173) (5 : Int32) rfl ?_
      refine Gk.bipush X116 hx (hb hby at_174) (82 : Int32) rfl ?_
      refine Gk.castore X116 hx hZ e116 V116 5 rfl ⟨by decide, by decide⟩ (.int (82 : Int32)) rfl (hb hby at_176) ?_
      intro T117 h117 X117 e117 W117 V117
      have N117 := Fr.snoc X117 N116 g_b110
      refine Gk.dup X117 hx (hb hby at_177) rfl ?_
      refine Gk.bipush X117 hx (hb hby at_178) (6 : Int32) rfl ?_
      refine Gk.bipush X117 hx (hb hby at_180) (82 : Int32) rfl ?_
      refine Gk.castore X117 hx hZ e117 V117 6 rfl ⟨by decide, by decide⟩ (.int (82 : Int32)) rfl (hb hby at_182) ?_
      intro T118 h118 X118 e118 W118 V118
      have N118 := Fr.snoc X118 N117 g_b110
      refine Gk.dup X118 hx (hb hby at_183) rfl ?_
      refine Gk.bipush X118 hx (hb hby at_184) (7 : Int32) rfl ?_
      refine Gk.bipush X118 hx (hb hby at_186) (95 : Int32) rfl ?_
      refine Gk.castore X118 hx hZ e118 V118 7 rfl ⟨by decide, by decide⟩ (.int (95 : Int32)) rfl (hb hby at_188) ?_
      intro T119 h119 X119 e119 W119 V119
      have N119 := Fr.snoc X119 N118 g_b110
      refine Gk.dup X119 hx (hb hby at_189) rfl ?_
      refine Gk.bipush X119 hx (hb hby at_190) (8 : Int32) rfl ?_
      refine Gk.bipush X119 hx (hb hby at_192) (73 : Int32) rfl ?_
      refine Gk.castore X119 hx hZ e119 V119 8 rfl ⟨by decide, by decide⟩ (.int (73 : Int32)) rfl (hb hby at_194) ?_
      intro T120 h120 X120 e120 W120 V120
      have N120 := Fr.snoc X120 N119 g_b110
      refine Gk.dup X120 hx (hb hby at_195) rfl ?_
      refine Gk.bipush X120 hx (hb hby at_196) (9 : Int32) rfl ?_
      refine Gk.bipush X120 hx (hb hby at_198) (78 : Int32) rfl ?_
      refine Gk.castore X120 hx hZ e120 V120 9 rfl ⟨by decide, by decide⟩ (.int (78 : Int32)) rfl (hb hby at_200) ?_
      intro T121 h121 X121 e121 W121 V121
      have N121 := Fr.snoc X121 N120 g_b110
      refine Gk.dup X121 hx (hb hby at_201) rfl ?_
      refine Gk.bipush X121 hx (hb hby at_202) (10 : Int32) rfl ?_
      refine Gk.bipush X121 hx (hb hby at_204) (86 : Int32) rfl ?_
      refine Gk.castore X121 hx hZ e121 V121 10 rfl ⟨by decide, by decide⟩ (.int (86 : Int32)) rfl (hb hby at_206) ?_
      intro T122 h122 X122 e122 W122 V122
      have N122 := Fr.snoc X122 N121 g_b110
      refine Gk.dup X122 hx (hb hby at_207) rfl ?_
      refine Gk.bipush X122 hx (hb hby at_208) (11 : Int32) rfl ?_
      refine Gk.bipush X122 hx (hb hby at_210) (65 : Int32) rfl ?_
      refine Gk.castore X122 hx hZ e122 V122 11 rfl ⟨by decide, by decide⟩ (.int (65 : Int32)) rfl (hb hby at_212) ?_
      intro T123 h123 X123 e123 W123 V123
      have N123 := Fr.snoc X123 N122 g_b110
      refine Gk.dup X123 hx (hb hby at_213) rfl ?_
      refine Gk.bipush X123 hx (hb hby at_214) (12 : Int32) rfl ?_
      refine Gk.bipush X123 hx (hb hby at_216) (76 : Int32) rfl ?_
      refine Gk.castore X123 hx hZ e123 V123 12 rfl ⟨by decide, by decide⟩ (.int (76 : Int32)) rfl (hb hby at_218) ?_
      intro T124 h124 X124 e124 W124 V124
      have N124 := Fr.snoc X124 N123 g_b110
      refine Gk.dup X124 hx (hb hby at_219) rfl ?_
      refine Gk.bipush X124 hx (hb hby at_220) (13 : Int32) rfl ?_
      refine Gk.iload X124 hx (hb hby at_222) rfl ?_
      refine Gk.castore X124 hx hZ e124 V124 13 rfl ⟨by decide, by decide⟩ (.int (nar .char tail)) rfl (hb hby at_224) ?_
      intro T125 h125 X125 e125 W125 V125
      have N125 := Fr.snoc X125 N124 g_b110
      refine Gk.astore X125 hx (hb hby at_225) rfl #[.val (.int p1), .val (.int p2), .val (.int p3), .val (.int p4), .val (.int p5), .val (.int (0 : Int32)), .val (.int (1 : Int32)), .val (.int kk), .val (.int pos), .val (.int ch), .val (.int tail), .val (.ref b95), .val (.ref b110), .unset, .unset, .unset] rfl ?_
      have H126 := ((((((((((((((((((((((((((((((S_SUPPORTED.ext E95).wr W96).wr W97).wr W98).wr W99).wr W100).wr W101).wr W102).wr W103).wr W104).wr W105).wr W106).wr W107).wr W108).wr W109).ext E110).wr W112).wr W113).wr W114).wr W115).wr W116).wr W117).wr W118).wr W119).wr W120).wr W121).wr W122).wr W123).wr W124).wr W125)
      have H127 := ((((((((((((((((((((((((((((((S_UNDETERMINED.ext E95).wr W96).wr W97).wr W98).wr W99).wr W100).wr W101).wr W102).wr W103).wr W104).wr W105).wr W106).wr W107).wr W108).wr W109).ext E110).wr W112).wr W113).wr W114).wr W115).wr W116).wr W117).wr W118).wr W119).wr W120).wr W121).wr W122).wr W123).wr W124).wr W125)
      have H128 := ((((((((((((((((((((((((((((((S_UNKNOWN.ext E95).wr W96).wr W97).wr W98).wr W99).wr W100).wr W101).wr W102).wr W103).wr W104).wr W105).wr W106).wr W107).wr W108).wr W109).ext E110).wr W112).wr W113).wr W114).wr W115).wr W116).wr W117).wr W118).wr W119).wr W120).wr W121).wr W122).wr W123).wr W124).wr W125)
      have H129 := ((((((((((((((((((((((((((((((S_KNOWN_UNSUPPORTED.ext E95).wr W96).wr W97).wr W98).wr W99).wr W100).wr W101).wr W102).wr W103).wr W104).wr W105).wr W106).wr W107).wr W108).wr W109).ext E110).wr W112).wr W113).wr W114).wr W115).wr W116).wr W117).wr W118).wr W119).wr W120).wr W121).wr W122).wr W123).wr W124).wr W125)
      have H130 := ((((((((((((((((((((((((((((((S_COMPACT_STRINGS.ext E95).wr W96).wr W97).wr W98).wr W99).wr W100).wr W101).wr W102).wr W103).wr W104).wr W105).wr W106).wr W107).wr W108).wr W109).ext E110).wr W112).wr W113).wr W114).wr W115).wr W116).wr W117).wr W118).wr W119).wr W120).wr W121).wr W122).wr W123).wr W124).wr W125)
      have H131 := ((((((((((((((((((((((((((((((S_SIOOBE_FORMATTER.ext E95).wr W96).wr W97).wr W98).wr W99).wr W100).wr W101).wr W102).wr W103).wr W104).wr W105).wr W106).wr W107).wr W108).wr W109).ext E110).wr W112).wr W113).wr W114).wr W115).wr W116).wr W117).wr W118).wr W119).wr W120).wr W121).wr W122).wr W123).wr W124).wr W125)
      have gr132 := (Nat.le_trans (Nat.le_trans (Nat.le_trans (Nat.le_trans (Nat.le_trans (Nat.le_trans (Nat.le_trans (Nat.le_trans (Nat.le_trans (Nat.le_trans (Nat.le_trans (Nat.le_trans (Nat.le_trans (Nat.le_trans (Nat.le_trans gr111 E110.1) (Keep.of_wr W112).1) (Keep.of_wr W113).1) (Keep.of_wr W114).1) (Keep.of_wr W115).1) (Keep.of_wr W116).1) (Keep.of_wr W117).1) (Keep.of_wr W118).1) (Keep.of_wr W119).1) (Keep.of_wr W120).1) (Keep.of_wr W121).1) (Keep.of_wr W122).1) (Keep.of_wr W123).1) (Keep.of_wr W124).1) (Keep.of_wr W125).1)
      refine Gk.iload X125 hx (hb hby at_227) rfl ?_
      by_cases hc229 : kk = (0 : Int32)
      · refine Gk.ifNo X125 hx (hb hby at_229) (teq hc229).2 ?_
        have R134_ := own_chrOld (h' := h125) hCH (by rw [← hh]; exact fun b_ cl_ q_ => e125 ▸ oldF X125 (by rw [hh, ← hn0]; exact N125) b_ cl_ q_)
        refine Gk.ldcH (s := s) (show Stand p l e room_1 (s.setVm s.vm) m _ below meth c _ _ _ _ from X125) hx hZ hown (hw _ (List.mem_of_getElem? (i := 47) rfl)) (own_wS hw) e125 ((State.WarmedH.refl s).since 0) (Nat.zero_le _) (own_EW hw) (List.mem_of_getElem? (i := 1) rfl) R134_.1 lit0T (hb hby at_232) (n := 52) (by decide) (by decide) (by decide) (by decide) ?_
        intro la133 T133 h133 kS133 lb133 lk133 X133 e133 E133 S133_ q133_ Z133_ o133_ lA133 lFc133 lFv133 lV133 llt133 lltb133 C133_ Lt133_ d133_
        have R133_ := R134_.trans C133_
        refine Gk.astore X133 hx (hb hby at_234) rfl #[.val (.int p1), .val (.int p2), .val (.int p3), .val (.int p4), .val (.int p5), .val (.int (0 : Int32)), .val (.int (1 : Int32)), .val (.int kk), .val (.int pos), .val (.int ch), .val (.int tail), .val (.ref b95), .val (.ref b110), .val (.ref la133), .unset, .unset] rfl ?_
        refine Gk.iconst X133 hx (hb hby at_236) (1 : Int32) rfl ?_
        refine Gk.istore X133 hx (hb hby at_237) #[.val (.int p1), .val (.int p2), .val (.int p3), .val (.int p4), .val (.int p5), .val (.int (0 : Int32)), .val (.int (1 : Int32)), .val (.int kk), .val (.int pos), .val (.int ch), .val (.int tail), .val (.ref b95), .val (.ref b110), .val (.ref la133), .val (.int (1 : Int32)), .unset] rfl ?_
        refine Gk.goto X133 hx (hb hby at_239) 376 (by decide) (by decide) ?_
        refine Gk.iload X133 hx (hb hby at_376) rfl ?_
        refine Gk.ifYes X133 hx (hb hby at_378) (teq (by decide : (0 : Int32) = (0 : Int32))).1 389 (by decide) (by decide) ?_
        refine Gk.iload X133 hx (hb hby at_389) rfl ?_
        refine Gk.ifYes X133 hx (hb hby at_391) (feq (by decide : ¬ ((1 : Int32) = (0 : Int32)))).2 402 (by decide) (by decide) ?_
        refine Gk.iload X133 hx (hb hby at_402) rfl ?_
        refine Gk.ifNo X133 hx (hb hby at_404) (feq (by decide : ¬ ((1 : Int32) = (0 : Int32)))).1 ?_
        have H135 := (H128.ext E133)
        refine Gk.getS X133 hx Z133_ o133_ (host := "") (Or.inl (hw _ (List.mem_of_getElem? (i := 83) rfl))) Via.refl e133 H135.sta (hb hby at_407) ?_
        intro T136 X136 e136
        refine Gk.astore X136 hx (hb hby at_410) rfl #[.val (.int p1), .val (.int p2), .val (.int p3), .val (.int p4), .val (.int p5), .val (.int (0 : Int32)), .val (.int (1 : Int32)), .val (.int kk), .val (.int pos), .val (.int ch), .val (.int tail), .val (.ref b95), .val (.ref b110), .val (.ref la133), .val (.int (1 : Int32)), .val (.ref w_UNKNOWN)] rfl ?_
        refine Gk.goto X136 hx (hb hby at_412) 420 (by decide) (by decide) ?_
        refine Gk.iload X136 hx (hb hby at_420) rfl ?_
        refine Gk.aload X136 hx (hb hby at_422) rfl rfl ?_
        refine Gk.iload X136 hx (hb hby at_424) rfl ?_
        have H138 := (H129.ext E133)
        have H139 := (H130.ext E133)
        refine Gk.callSH (s := s) (argsL := [(.int (0 : Int32)), (.ref la133), (.int (1 : Int32))]) X136 hx Z133_ o133_ (ats_e l Z a0 hw [] la133 lb133 lk133 (fun i => .int ((fun j_ => lit0L.getD j_ 0) i)) (78 : Int32) (70 : Int32) (83 : Int32) (52 : Int32) (69 : Int32) (82 : Int32) (82 : Int32) (95 : Int32) (73 : Int32) (78 : Int32) (86 : Int32) (65 : Int32) (76 : Int32) w_UNKNOWN w_KNOWN_UNSUPPORTED w_COMPACT_STRINGS h133 n0 (Nat.le_trans Z0 (Nat.le_trans gr132 E133.1)) H135 H138 H139 lA133 lFc133 lFv133 lV133 rfl rfl rfl rfl rfl rfl rfl rfl rfl rfl rfl rfl rfl hcs) (hw _ (List.mem_of_getElem? (i := 13) rfl)) (hw _ (List.mem_of_getElem? (i := 14) rfl)) (hw _ (List.mem_of_getElem? (i := 15) rfl)) (hw _ (List.mem_of_getElem? (i := 16) rfl)) (by decide) e136 S133_ (Nat.le_trans q133_ (Nat.le_refl _)) (own_EW hw) R133_.1 pd_10 rfl rfl (by decide) (Nat.le_of_ble_eq_true rfl) (by decide) (by decide) (by rw [hml]; rfl) rfl (hb hby at_426) ?_
        intro T137 L137 v137 kS137 X137 S137_ q137_ Z137_ o137_ C137_ hQ137
        have R137_ := R133_.trans C137_
        obtain ⟨rfl, N137q, K137⟩ := hQ137
        have N137 := Fr.app N125 N137q
        rw [show (if eq13 (78 : Int32) (70 : Int32) (83 : Int32) (52 : Int32) (69 : Int32) (82 : Int32) (82 : Int32) (95 : Int32) (73 : Int32) (78 : Int32) (86 : Int32) (65 : Int32) (76 : Int32) = (0 : Int32) then w_KNOWN_UNSUPPORTED else w_UNKNOWN) = w_UNKNOWN from if_neg (by decide)]
        show Go p e below (T137.setTop (mkF m 429 #[.val (.int p1), .val (.int p2), .val (.int p3), .val (.int p4), .val (.int p5), .val (.int (0 : Int32)), .val (.int (1 : Int32)), .val (.int kk), .val (.int pos), .val (.int ch), .val (.int tail), .val (.ref b95), .val (.ref b110), .val (.ref la133), .val (.int (1 : Int32)), .val (.ref w_UNKNOWN)] [(.ref w_UNKNOWN)])) _
        refine Gk.aload X137 hx (hb hby at_429) rfl rfl ?_
        refine Gk.acmp X137 hx (hb hby at_431) rfl rfl true (decide_eq_true rfl) 434 (by decide) (by decide) ?_
        refine Gk.iconst X137 hx (hb hby at_434) (1 : Int32) rfl ?_
        refine Gk.goto X137 hx (hb hby at_435) 439 (by decide) (by decide) ?_
        refine Gk.finW (s := s) X137 rfl S137_ (Nat.le_trans q137_ (Nat.le_refl _)) (v := some (.int (1 : Int32))) (fun h_ => by rw [Bd.returns] at h_; cases h_) Bd.notSynchronized (fun _ hr => retN X137 hx (t := .boolean) Bd.returns (by simp) (hb hby at_439) hr) (fun U' hU hF => ⟨_, _, rfl, ?_, hF.1, hF.2.1, hF.2.2.1, hF.2.2.2.mono (by decide) (by decide)⟩)
        exact ⟨(congrArg (fun z_ : Int32 => some (Value.int z_)) (show (1 : Int32) = (1 : Int32) from rfl)), N137⟩
      · refine Gk.ifYes X125 hx (hb hby at_229) (feq hc229).2 242 (by decide) (by decide) ?_
        refine Gk.iload X125 hx (hb hby at_242) rfl ?_
        refine Gk.iconst X125 hx (hb hby at_244) (1 : Int32) rfl ?_
        by_cases hc245 : kk = (1 : Int32)
        · refine Gk.icmpNo X125 hx (hb hby at_245) (teq hc245).2 ?_
          refine Gk.newO X125 hx hZ hown (hw _ (List.mem_of_getElem? (i := 22) rfl)) (hw _ (List.mem_of_getElem? (i := 4) rfl)) (hw _ (List.mem_of_getElem? (i := 3) rfl)) e125 (hb hby at_248) (by decide) (by decide) ?_
          intro T141 h141 b141 X141 e141 E141 g141 A141 D141
          have g_b141 : n0 ≤ b141 := Nat.le_trans (Nat.le_trans Z0 gr132) (Nat.le_of_eq g141.symm)
          have lt_b141 := A141.lt
          have F_value_b141 : Fld Z h141 b141 "java/lang/String" "value" "[B" .null := D141 (Or.inr (hw _ (List.mem_of_getElem? (i := 6) rfl))) (ty := (.array .byte)) (by decide)
          have F_coder_b141 : Fld Z h141 b141 "java/lang/String" "coder" "B" (.int (0 : Int32)) := D141 (Or.inr (hw _ (List.mem_of_getElem? (i := 7) rfl))) (ty := .byte) (by decide)
          refine Gk.dup X141 hx (hb hby at_251) rfl ?_
          refine Gk.aload X141 hx (hb hby at_252) rfl rfl ?_
          have gr143 := (Nat.le_trans (Nat.le_trans (Nat.le_trans (Nat.le_trans (Nat.le_trans (Nat.le_trans (Nat.le_trans (Nat.le_trans (Nat.le_trans (Nat.le_trans (Nat.le_trans (Nat.le_trans (Nat.le_trans (Keep.of_wr W96).1 (Keep.of_wr W97).1) (Keep.of_wr W98).1) (Keep.of_wr W99).1) (Keep.of_wr W100).1) (Keep.of_wr W101).1) (Keep.of_wr W102).1) (Keep.of_wr W103).1) (Keep.of_wr W104).1) (Keep.of_wr W105).1) (Keep.of_wr W106).1) (Keep.of_wr W107).1) (Keep.of_wr W108).1) (Keep.of_wr W109).1)
          have ne144 : b95 ≠ b110 := (Nat.ne_of_lt (Nat.lt_of_lt_of_le lt_b95 (Nat.le_trans gr143 (Nat.le_of_eq g110.symm))))
          have H145 := ((((((((((((((((V109.ext E110).other W112 ne144).other W113 ne144).other W114 ne144).other W115 ne144).other W116 ne144).other W117 ne144).other W118 ne144).other W119 ne144).other W120 ne144).other W121 ne144).other W122 ne144).other W123 ne144).other W124 ne144).other W125 ne144).ext E141)
          have H146 := (H130.ext E141)
          refine Gk.callI (argsL := [(.ref b95)]) X141 hx hZ hown (str_13 l Z a0 hw [] b141 b95 k95 (upd (upd (upd (upd (upd (upd (upd (upd (upd (upd (upd (upd (upd (upd (fun _ => (.int (0 : Int32))) 0 (.int (78 : Int32))) 1 (.int (70 : Int32))) 2 (.int (83 : Int32))) 3 (.int (52 : Int32))) 4 (.int (69 : Int32))) 5 (.int (82 : Int32))) 6 (.int (82 : Int32))) 7 (.int (95 : Int32))) 8 (.int (73 : Int32))) 9 (.int (78 : Int32))) 10 (.int (86 : Int32))) 11 (.int (65 : Int32))) 12 (.int (76 : Int32))) pos.toNatClampNeg (.int (nar .char ch))) (if 0 = pos.toNatClampNeg then (nar .char ch) else (78 : Int32)) (if 1 = pos.toNatClampNeg then (nar .char ch) else (70 : Int32)) (if 2 = pos.toNatClampNeg then (nar .char ch) else (83 : Int32)) (if 3 = pos.toNatClampNeg then (nar .char ch) else (52 : Int32)) (if 4 = pos.toNatClampNeg then (nar .char ch) else (69 : Int32)) (if 5 = pos.toNatClampNeg then (nar .char ch) else (82 : Int32)) (if 6 = pos.toNatClampNeg then (nar .char ch) else (82 : Int32)) (if 7 = pos.toNatClampNeg then (nar .char ch) else (95 : Int32)) (if 8 = pos.toNatClampNeg then (nar .char ch) else (73 : Int32)) (if 9 = pos.toNatClampNeg then (nar .char ch) else (78 : Int32)) (if 10 = pos.toNatClampNeg then (nar .char ch) else (86 : Int32)) (if 11 = pos.toNatClampNeg then (nar .char ch) else (65 : Int32)) (if 12 = pos.toNatClampNeg then (nar .char ch) else (76 : Int32)) (.int (0 : Int32)) .null w_COMPACT_STRINGS h141 n0 (Nat.le_trans Z0 (Nat.le_trans gr132 E141.1)) H146 A141 H145 (own_updP rfl) (own_updP rfl) (own_updP rfl) (own_updP rfl) (own_updP rfl) (own_updP rfl) (own_updP rfl) (own_updP rfl) (own_updP rfl) (own_updP rfl) (own_updP rfl) (own_updP rfl) (own_updP rfl) (own_ite (own_ch ech) (by decide)) (own_ite (own_ch ech) (by decide)) (own_ite (own_ch ech) (by decide)) (own_ite (own_ch ech) (by decide)) (own_ite (own_ch ech) (by decide)) (own_ite (own_ch ech) (by decide)) (own_ite (own_ch ech) (by decide)) (own_ite (own_ch ech) (by decide)) (own_ite (own_ch ech) (by decide)) (own_ite (own_ch ech) (by decide)) (own_ite (own_ch ech) (by decide)) (own_ite (own_ch ech) (by decide)) (own_ite (own_ch ech) (by decide)) hcs F_coder_b141 g_b141 F_value_b141) rfl (hw _ (List.mem_of_getElem? (i := 23) rfl)) (hw _ (List.mem_of_getElem? (i := 24) rfl)) (hw _ (List.mem_of_getElem? (i := 25) rfl)) rfl (by decide) (hw _ (List.mem_of_getElem? (i := 3) rfl)) e141 pd_11 rfl rfl (by decide) (Nat.le_of_ble_eq_true rfl) (by decide) (by decide) (by rw [hml]; rfl)  rfl (hb hby at_254) ?_
          intro T142 L142 v142 X142 hQ142
          obtain ⟨rfl, N142q, K142, Fc142, y142, k142_, le142, Fv142, V142⟩ := hQ142
          have N142 := Fr.app N125 N142q
          show Go p e below (T142.setTop (mkF m 257 #[.val (.int p1), .val (.int p2), .val (.int p3), .val (.int p4), .val (.int p5), .val (.int (0 : Int32)), .val (.int (1 : Int32)), .val (.int kk), .val (.int pos), .val (.int ch), .val (.int tail), .val (.ref b95), .val (.ref b110), .unset, .unset, .unset] [(.ref b141)])) _
          refine Gk.astore X142 hx (hb hby at_257) rfl #[.val (.int p1), .val (.int p2), .val (.int p3), .val (.int p4), .val (.int p5), .val (.int (0 : Int32)), .val (.int (1 : Int32)), .val (.int kk), .val (.int pos), .val (.int ch), .val (.int tail), .val (.ref b95), .val (.ref b110), .val (.ref b141), .unset, .unset] rfl ?_
          refine Gk.iload X142 hx (hb hby at_259) rfl ?_
          have R148_ := own_chrOld (h' := T142.heap) hCH (by rw [← hh]; exact fun b_ cl_ q_ => oldF X142 (by rw [hh, ← hn0]; exact N142) b_ cl_ q_)
          refine Gk.ldcH (s := s) (show Stand p l e room_1 (s.setVm s.vm) m _ below meth c _ _ _ _ from X142) hx hZ hown (hw _ (List.mem_of_getElem? (i := 47) rfl)) (own_wS hw) rfl ((State.WarmedH.refl s).since 0) (Nat.zero_le _) (own_EW hw) (List.mem_of_getElem? (i := 1) rfl) R148_.1 lit0T (hb hby at_261) (n := 52) (by decide) (by decide) (by decide) (by decide) ?_
          have gr149 := (Nat.le_trans (Nat.le_trans gr132 E141.1) K142.1)
          intro la147 T147 h147 kS147 lb147 lk147 X147 e147 E147 S147_ q147_ Z147_ o147_ lA147 lFc147 lFv147 lV147 llt147 lltb147 C147_ Lt147_ d147_
          have R147_ := R148_.trans C147_
          refine Gk.iload X147 hx (hb hby at_263) rfl ?_
          have H151 := ((H146.keep K142 (allS g_b141 all0)).ext E147)
          have H152 := (((H131.ext E141).keep K142 (allS g_b141 all0)).ext E147)
          refine Gk.callV (argsL := [(.int pos)]) X147 hx Z147_ o147_ (rm8 l Z a0 hw [] la147 pos lb147 lk147 (fun i => .int ((fun j_ => lit0L.getD j_ 0) i)) (13 : Int32) (lit0L.getD pos.toNatClampNeg 0) w_COMPACT_STRINGS w_SIOOBE_FORMATTER h147 n0 (Nat.le_trans Z0 (Nat.le_trans gr149 E147.1)) H151 H152 lA147 lFc147 lFv147 lV147 (own_pos epos).1 (own_pos epos).2 rfl hcs hsf) (hw _ (List.mem_of_getElem? (i := 48) rfl)) (hw _ (List.mem_of_getElem? (i := 49) rfl)) (notFace_of_selects (args := #[]) (mvT Z147_ (hw _ (List.mem_of_getElem? (i := 51) rfl)))) (hw _ (List.mem_of_getElem? (i := 51) rfl)) (hw _ (List.mem_of_getElem? (i := 50) rfl)) (by decide) (hw _ (List.mem_of_getElem? (i := 52) rfl)) (hw _ (List.mem_of_getElem? (i := 3) rfl)) e147 lA147 pd_12 rfl rfl (by decide) (Nat.le_of_ble_eq_true rfl) (by decide) (by decide) (by rw [hml]; rfl)  rfl (hb hby at_265) ?_
          intro T150 L150 v150 X150 hQ150
          obtain ⟨rfl, N150q, e150⟩ := hQ150
          have N150 := Fr.app N142 N150q
          show Go p e below (T150.setTop (mkF m 268 #[.val (.int p1), .val (.int p2), .val (.int p3), .val (.int p4), .val (.int p5), .val (.int (0 : Int32)), .val (.int (1 : Int32)), .val (.int kk), .val (.int pos), .val (.int ch), .val (.int tail), .val (.ref b95), .val (.ref b110), .val (.ref b141), .unset, .unset] [(.int (nar .char (nar .char (((lit0L.getD pos.toNatClampNeg 0) &&& (255 : Int32)).toUInt32.toUInt16.toUInt32.toInt32)))), (.int ch)])) _
          by_cases hc268 : ch = (nar .char (nar .char (((lit0L.getD pos.toNatClampNeg 0) &&& (255 : Int32)).toUInt32.toUInt16.toUInt32.toInt32)))
          · refine Gk.icmpNo X150 hx (hb hby at_268) (teq hc268).2 ?_
            refine Gk.iconst X150 hx (hb hby at_271) (1 : Int32) rfl ?_
            refine Gk.goto X150 hx (hb hby at_272) 276 (by decide) (by decide) ?_
            refine Gk.istore X150 hx (hb hby at_276) #[.val (.int p1), .val (.int p2), .val (.int p3), .val (.int p4), .val (.int p5), .val (.int (0 : Int32)), .val (.int (1 : Int32)), .val (.int kk), .val (.int pos), .val (.int ch), .val (.int tail), .val (.ref b95), .val (.ref b110), .val (.ref b141), .val (.int (1 : Int32)), .unset] rfl ?_
            refine Gk.goto X150 hx (hb hby at_278) 376 (by decide) (by decide) ?_
            refine Gk.iload X150 hx (hb hby at_376) rfl ?_
            refine Gk.ifYes X150 hx (hb hby at_378) (teq (by decide : (0 : Int32) = (0 : Int32))).1 389 (by decide) (by decide) ?_
            refine Gk.iload X150 hx (hb hby at_389) rfl ?_
            refine Gk.ifYes X150 hx (hb hby at_391) (feq (by decide : ¬ ((1 : Int32) = (0 : Int32)))).2 402 (by decide) (by decide) ?_
            refine Gk.iload X150 hx (hb hby at_402) rfl ?_
            refine Gk.ifNo X150 hx (hb hby at_404) (feq (by decide : ¬ ((1 : Int32) = (0 : Int32)))).1 ?_
            have H153 := (((H128.ext E141).keep K142 (allS g_b141 all0)).ext E147)
            refine Gk.getS X150 hx Z147_ o147_ (host := "") (Or.inl (hw _ (List.mem_of_getElem? (i := 83) rfl))) Via.refl e150 H153.sta (hb hby at_407) ?_
            intro T154 X154 e154
            refine Gk.astore X154 hx (hb hby at_410) rfl #[.val (.int p1), .val (.int p2), .val (.int p3), .val (.int p4), .val (.int p5), .val (.int (0 : Int32)), .val (.int (1 : Int32)), .val (.int kk), .val (.int pos), .val (.int ch), .val (.int tail), .val (.ref b95), .val (.ref b110), .val (.ref b141), .val (.int (1 : Int32)), .val (.ref w_UNKNOWN)] rfl ?_
            refine Gk.goto X154 hx (hb hby at_412) 420 (by decide) (by decide) ?_
            refine Gk.iload X154 hx (hb hby at_420) rfl ?_
            refine Gk.aload X154 hx (hb hby at_422) rfl rfl ?_
            refine Gk.iload X154 hx (hb hby at_424) rfl ?_
            have H156 := ((A141.keep K142).ext E147)
            have H157 := (Fc142.ext E147)
            have H158 := (Fv142.ext E147)
            have H159 := (V142.ext E147)
            have H160 := (((H129.ext E141).keep K142 (allS g_b141 all0)).ext E147)
            refine Gk.callSH (s := s) (argsL := [(.int (0 : Int32)), (.ref b141), (.int (1 : Int32))]) X154 hx Z147_ o147_ (ats_e l Z a0 hw [] b141 y142 k142_ (upd (upd (upd (upd (upd (upd (upd (upd (upd (upd (upd (upd (upd (fun _ => (.int (0 : Int32))) 0 (.int ((if 0 = pos.toNatClampNeg then (nar .char ch) else (78 : Int32)).toInt8.toInt32))) 1 (.int ((if 1 = pos.toNatClampNeg then (nar .char ch) else (70 : Int32)).toInt8.toInt32))) 2 (.int ((if 2 = pos.toNatClampNeg then (nar .char ch) else (83 : Int32)).toInt8.toInt32))) 3 (.int ((if 3 = pos.toNatClampNeg then (nar .char ch) else (52 : Int32)).toInt8.toInt32))) 4 (.int ((if 4 = pos.toNatClampNeg then (nar .char ch) else (69 : Int32)).toInt8.toInt32))) 5 (.int ((if 5 = pos.toNatClampNeg then (nar .char ch) else (82 : Int32)).toInt8.toInt32))) 6 (.int ((if 6 = pos.toNatClampNeg then (nar .char ch) else (82 : Int32)).toInt8.toInt32))) 7 (.int ((if 7 = pos.toNatClampNeg then (nar .char ch) else (95 : Int32)).toInt8.toInt32))) 8 (.int ((if 8 = pos.toNatClampNeg then (nar .char ch) else (73 : Int32)).toInt8.toInt32))) 9 (.int ((if 9 = pos.toNatClampNeg then (nar .char ch) else (78 : Int32)).toInt8.toInt32))) 10 (.int ((if 10 = pos.toNatClampNeg then (nar .char ch) else (86 : Int32)).toInt8.toInt32))) 11 (.int ((if 11 = pos.toNatClampNeg then (nar .char ch) else (65 : Int32)).toInt8.toInt32))) 12 (.int ((if 12 = pos.toNatClampNeg then (nar .char ch) else (76 : Int32)).toInt8.toInt32))) ((if 0 = pos.toNatClampNeg then (nar .char ch) else (78 : Int32)).toInt8.toInt32) ((if 1 = pos.toNatClampNeg then (nar .char ch) else (70 : Int32)).toInt8.toInt32) ((if 2 = pos.toNatClampNeg then (nar .char ch) else (83 : Int32)).toInt8.toInt32) ((if 3 = pos.toNatClampNeg then (nar .char ch) else (52 : Int32)).toInt8.toInt32) ((if 4 = pos.toNatClampNeg then (nar .char ch) else (69 : Int32)).toInt8.toInt32) ((if 5 = pos.toNatClampNeg then (nar .char ch) else (82 : Int32)).toInt8.toInt32) ((if 6 = pos.toNatClampNeg then (nar .char ch) else (82 : Int32)).toInt8.toInt32) ((if 7 = pos.toNatClampNeg then (nar .char ch) else (95 : Int32)).toInt8.toInt32) ((if 8 = pos.toNatClampNeg then (nar .char ch) else (73 : Int32)).toInt8.toInt32) ((if 9 = pos.toNatClampNeg then (nar .char ch) else (78 : Int32)).toInt8.toInt32) ((if 10 = pos.toNatClampNeg then (nar .char ch) else (86 : Int32)).toInt8.toInt32) ((if 11 = pos.toNatClampNeg then (nar .char ch) else (65 : Int32)).toInt8.toInt32) ((if 12 = pos.toNatClampNeg then (nar .char ch) else (76 : Int32)).toInt8.toInt32) w_UNKNOWN w_KNOWN_UNSUPPORTED w_COMPACT_STRINGS h147 n0 (Nat.le_trans Z0 (Nat.le_trans gr149 E147.1)) H153 H160 H151 H156 H157 H158 H159 rfl rfl rfl rfl rfl rfl rfl rfl rfl rfl rfl rfl rfl hcs) (hw _ (List.mem_of_getElem? (i := 13) rfl)) (hw _ (List.mem_of_getElem? (i := 14) rfl)) (hw _ (List.mem_of_getElem? (i := 15) rfl)) (hw _ (List.mem_of_getElem? (i := 16) rfl)) (by decide) e154 S147_ (Nat.le_trans q147_ (Nat.le_refl _)) (own_EW hw) R147_.1 pd_10 rfl rfl (by decide) (Nat.le_of_ble_eq_true rfl) (by decide) (by decide) (by rw [hml]; rfl) rfl (hb hby at_426) ?_
            intro T155 L155 v155 kS155 X155 S155_ q155_ Z155_ o155_ C155_ hQ155
            have R155_ := R147_.trans C155_
            obtain ⟨rfl, N155q, K155⟩ := hQ155
            have N155 := Fr.app N150 N155q
            rw [show (if eq13 ((if 0 = pos.toNatClampNeg then (nar .char ch) else (78 : Int32)).toInt8.toInt32) ((if 1 = pos.toNatClampNeg then (nar .char ch) else (70 : Int32)).toInt8.toInt32) ((if 2 = pos.toNatClampNeg then (nar .char ch) else (83 : Int32)).toInt8.toInt32) ((if 3 = pos.toNatClampNeg then (nar .char ch) else (52 : Int32)).toInt8.toInt32) ((if 4 = pos.toNatClampNeg then (nar .char ch) else (69 : Int32)).toInt8.toInt32) ((if 5 = pos.toNatClampNeg then (nar .char ch) else (82 : Int32)).toInt8.toInt32) ((if 6 = pos.toNatClampNeg then (nar .char ch) else (82 : Int32)).toInt8.toInt32) ((if 7 = pos.toNatClampNeg then (nar .char ch) else (95 : Int32)).toInt8.toInt32) ((if 8 = pos.toNatClampNeg then (nar .char ch) else (73 : Int32)).toInt8.toInt32) ((if 9 = pos.toNatClampNeg then (nar .char ch) else (78 : Int32)).toInt8.toInt32) ((if 10 = pos.toNatClampNeg then (nar .char ch) else (86 : Int32)).toInt8.toInt32) ((if 11 = pos.toNatClampNeg then (nar .char ch) else (65 : Int32)).toInt8.toInt32) ((if 12 = pos.toNatClampNeg then (nar .char ch) else (76 : Int32)).toInt8.toInt32) = (0 : Int32) then w_KNOWN_UNSUPPORTED else w_UNKNOWN) = w_UNKNOWN from if_neg ((own_near ech _ (own_posN (own_pos epos))).mp hc268)]
            show Go p e below (T155.setTop (mkF m 429 #[.val (.int p1), .val (.int p2), .val (.int p3), .val (.int p4), .val (.int p5), .val (.int (0 : Int32)), .val (.int (1 : Int32)), .val (.int kk), .val (.int pos), .val (.int ch), .val (.int tail), .val (.ref b95), .val (.ref b110), .val (.ref b141), .val (.int (1 : Int32)), .val (.ref w_UNKNOWN)] [(.ref w_UNKNOWN)])) _
            refine Gk.aload X155 hx (hb hby at_429) rfl rfl ?_
            refine Gk.acmp X155 hx (hb hby at_431) rfl rfl true (decide_eq_true rfl) 434 (by decide) (by decide) ?_
            refine Gk.iconst X155 hx (hb hby at_434) (1 : Int32) rfl ?_
            refine Gk.goto X155 hx (hb hby at_435) 439 (by decide) (by decide) ?_
            refine Gk.finW (s := s) X155 rfl S155_ (Nat.le_trans q155_ (Nat.le_refl _)) (v := some (.int (1 : Int32))) (fun h_ => by rw [Bd.returns] at h_; cases h_) Bd.notSynchronized (fun _ hr => retN X155 hx (t := .boolean) Bd.returns (by simp) (hb hby at_439) hr) (fun U' hU hF => ⟨_, _, rfl, ?_, hF.1, hF.2.1, hF.2.2.1, hF.2.2.2.mono (by decide) (by decide)⟩)
            exact ⟨(congrArg (fun z_ : Int32 => some (Value.int z_)) (show (1 : Int32) = (1 : Int32) from rfl)), N155⟩
          · refine Gk.icmpYes X150 hx (hb hby at_268) (feq hc268).2 275 (by decide) (by decide) ?_
            refine Gk.iconst X150 hx (hb hby at_275) (0 : Int32) rfl ?_
            refine Gk.istore X150 hx (hb hby at_276) #[.val (.int p1), .val (.int p2), .val (.int p3), .val (.int p4), .val (.int p5), .val (.int (0 : Int32)), .val (.int (1 : Int32)), .val (.int kk), .val (.int pos), .val (.int ch), .val (.int tail), .val (.ref b95), .val (.ref b110), .val (.ref b141), .val (.int (0 : Int32)), .unset] rfl ?_
            refine Gk.goto X150 hx (hb hby at_278) 376 (by decide) (by decide) ?_
            refine Gk.iload X150 hx (hb hby at_376) rfl ?_
            refine Gk.ifYes X150 hx (hb hby at_378) (teq (by decide : (0 : Int32) = (0 : Int32))).1 389 (by decide) (by decide) ?_
            refine Gk.iload X150 hx (hb hby at_389) rfl ?_
            refine Gk.ifYes X150 hx (hb hby at_391) (feq (by decide : ¬ ((1 : Int32) = (0 : Int32)))).2 402 (by decide) (by decide) ?_
            refine Gk.iload X150 hx (hb hby at_402) rfl ?_
            refine Gk.ifYes X150 hx (hb hby at_404) (teq (by decide : (0 : Int32) = (0 : Int32))).1 415 (by decide) (by decide) ?_
            have H162 := (((H129.ext E141).keep K142 (allS g_b141 all0)).ext E147)
            refine Gk.getS X150 hx Z147_ o147_ (host := "") (Or.inl (hw _ (List.mem_of_getElem? (i := 70) rfl))) Via.refl e150 H162.sta (hb hby at_415) ?_
            intro T163 X163 e163
            refine Gk.astore X163 hx (hb hby at_418) rfl #[.val (.int p1), .val (.int p2), .val (.int p3), .val (.int p4), .val (.int p5), .val (.int (0 : Int32)), .val (.int (1 : Int32)), .val (.int kk), .val (.int pos), .val (.int ch), .val (.int tail), .val (.ref b95), .val (.ref b110), .val (.ref b141), .val (.int (0 : Int32)), .val (.ref w_KNOWN_UNSUPPORTED)] rfl ?_
            refine Gk.iload X163 hx (hb hby at_420) rfl ?_
            refine Gk.aload X163 hx (hb hby at_422) rfl rfl ?_
            refine Gk.iload X163 hx (hb hby at_424) rfl ?_
            have H165 := ((A141.keep K142).ext E147)
            have H166 := (Fc142.ext E147)
            have H167 := (Fv142.ext E147)
            have H168 := (V142.ext E147)
            have H169 := (((H128.ext E141).keep K142 (allS g_b141 all0)).ext E147)
            refine Gk.callSH (s := s) (argsL := [(.int (0 : Int32)), (.ref b141), (.int (1 : Int32))]) X163 hx Z147_ o147_ (ats_e l Z a0 hw [] b141 y142 k142_ (upd (upd (upd (upd (upd (upd (upd (upd (upd (upd (upd (upd (upd (fun _ => (.int (0 : Int32))) 0 (.int ((if 0 = pos.toNatClampNeg then (nar .char ch) else (78 : Int32)).toInt8.toInt32))) 1 (.int ((if 1 = pos.toNatClampNeg then (nar .char ch) else (70 : Int32)).toInt8.toInt32))) 2 (.int ((if 2 = pos.toNatClampNeg then (nar .char ch) else (83 : Int32)).toInt8.toInt32))) 3 (.int ((if 3 = pos.toNatClampNeg then (nar .char ch) else (52 : Int32)).toInt8.toInt32))) 4 (.int ((if 4 = pos.toNatClampNeg then (nar .char ch) else (69 : Int32)).toInt8.toInt32))) 5 (.int ((if 5 = pos.toNatClampNeg then (nar .char ch) else (82 : Int32)).toInt8.toInt32))) 6 (.int ((if 6 = pos.toNatClampNeg then (nar .char ch) else (82 : Int32)).toInt8.toInt32))) 7 (.int ((if 7 = pos.toNatClampNeg then (nar .char ch) else (95 : Int32)).toInt8.toInt32))) 8 (.int ((if 8 = pos.toNatClampNeg then (nar .char ch) else (73 : Int32)).toInt8.toInt32))) 9 (.int ((if 9 = pos.toNatClampNeg then (nar .char ch) else (78 : Int32)).toInt8.toInt32))) 10 (.int ((if 10 = pos.toNatClampNeg then (nar .char ch) else (86 : Int32)).toInt8.toInt32))) 11 (.int ((if 11 = pos.toNatClampNeg then (nar .char ch) else (65 : Int32)).toInt8.toInt32))) 12 (.int ((if 12 = pos.toNatClampNeg then (nar .char ch) else (76 : Int32)).toInt8.toInt32))) ((if 0 = pos.toNatClampNeg then (nar .char ch) else (78 : Int32)).toInt8.toInt32) ((if 1 = pos.toNatClampNeg then (nar .char ch) else (70 : Int32)).toInt8.toInt32) ((if 2 = pos.toNatClampNeg then (nar .char ch) else (83 : Int32)).toInt8.toInt32) ((if 3 = pos.toNatClampNeg then (nar .char ch) else (52 : Int32)).toInt8.toInt32) ((if 4 = pos.toNatClampNeg then (nar .char ch) else (69 : Int32)).toInt8.toInt32) ((if 5 = pos.toNatClampNeg then (nar .char ch) else (82 : Int32)).toInt8.toInt32) ((if 6 = pos.toNatClampNeg then (nar .char ch) else (82 : Int32)).toInt8.toInt32) ((if 7 = pos.toNatClampNeg then (nar .char ch) else (95 : Int32)).toInt8.toInt32) ((if 8 = pos.toNatClampNeg then (nar .char ch) else (73 : Int32)).toInt8.toInt32) ((if 9 = pos.toNatClampNeg then (nar .char ch) else (78 : Int32)).toInt8.toInt32) ((if 10 = pos.toNatClampNeg then (nar .char ch) else (86 : Int32)).toInt8.toInt32) ((if 11 = pos.toNatClampNeg then (nar .char ch) else (65 : Int32)).toInt8.toInt32) ((if 12 = pos.toNatClampNeg then (nar .char ch) else (76 : Int32)).toInt8.toInt32) w_UNKNOWN w_KNOWN_UNSUPPORTED w_COMPACT_STRINGS h147 n0 (Nat.le_trans Z0 (Nat.le_trans gr149 E147.1)) H169 H162 H151 H165 H166 H167 H168 rfl rfl rfl rfl rfl rfl rfl rfl rfl rfl rfl rfl rfl hcs) (hw _ (List.mem_of_getElem? (i := 13) rfl)) (hw _ (List.mem_of_getElem? (i := 14) rfl)) (hw _ (List.mem_of_getElem? (i := 15) rfl)) (hw _ (List.mem_of_getElem? (i := 16) rfl)) (by decide) e163 S147_ (Nat.le_trans q147_ (Nat.le_refl _)) (own_EW hw) R147_.1 pd_10 rfl rfl (by decide) (Nat.le_of_ble_eq_true rfl) (by decide) (by decide) (by rw [hml]; rfl) rfl (hb hby at_426) ?_
            intro T164 L164 v164 kS164 X164 S164_ q164_ Z164_ o164_ C164_ hQ164
            have R164_ := R147_.trans C164_
            obtain ⟨rfl, N164q, K164⟩ := hQ164
            have N164 := Fr.app N150 N164q
            rw [show (if eq13 ((if 0 = pos.toNatClampNeg then (nar .char ch) else (78 : Int32)).toInt8.toInt32) ((if 1 = pos.toNatClampNeg then (nar .char ch) else (70 : Int32)).toInt8.toInt32) ((if 2 = pos.toNatClampNeg then (nar .char ch) else (83 : Int32)).toInt8.toInt32) ((if 3 = pos.toNatClampNeg then (nar .char ch) else (52 : Int32)).toInt8.toInt32) ((if 4 = pos.toNatClampNeg then (nar .char ch) else (69 : Int32)).toInt8.toInt32) ((if 5 = pos.toNatClampNeg then (nar .char ch) else (82 : Int32)).toInt8.toInt32) ((if 6 = pos.toNatClampNeg then (nar .char ch) else (82 : Int32)).toInt8.toInt32) ((if 7 = pos.toNatClampNeg then (nar .char ch) else (95 : Int32)).toInt8.toInt32) ((if 8 = pos.toNatClampNeg then (nar .char ch) else (73 : Int32)).toInt8.toInt32) ((if 9 = pos.toNatClampNeg then (nar .char ch) else (78 : Int32)).toInt8.toInt32) ((if 10 = pos.toNatClampNeg then (nar .char ch) else (86 : Int32)).toInt8.toInt32) ((if 11 = pos.toNatClampNeg then (nar .char ch) else (65 : Int32)).toInt8.toInt32) ((if 12 = pos.toNatClampNeg then (nar .char ch) else (76 : Int32)).toInt8.toInt32) = (0 : Int32) then w_KNOWN_UNSUPPORTED else w_UNKNOWN) = w_KNOWN_UNSUPPORTED from if_pos (Classical.not_not.mp fun q_ => hc268 ((own_near ech _ (own_posN (own_pos epos))).mpr q_))]
            show Go p e below (T164.setTop (mkF m 429 #[.val (.int p1), .val (.int p2), .val (.int p3), .val (.int p4), .val (.int p5), .val (.int (0 : Int32)), .val (.int (1 : Int32)), .val (.int kk), .val (.int pos), .val (.int ch), .val (.int tail), .val (.ref b95), .val (.ref b110), .val (.ref b141), .val (.int (0 : Int32)), .val (.ref w_KNOWN_UNSUPPORTED)] [(.ref w_KNOWN_UNSUPPORTED)])) _
            refine Gk.aload X164 hx (hb hby at_429) rfl rfl ?_
            refine Gk.acmp X164 hx (hb hby at_431) rfl rfl true (decide_eq_true rfl) 434 (by decide) (by decide) ?_
            refine Gk.iconst X164 hx (hb hby at_434) (1 : Int32) rfl ?_
            refine Gk.goto X164 hx (hb hby at_435) 439 (by decide) (by decide) ?_
            refine Gk.finW (s := s) X164 rfl S164_ (Nat.le_trans q164_ (Nat.le_refl _)) (v := some (.int (1 : Int32))) (fun h_ => by rw [Bd.returns] at h_; cases h_) Bd.notSynchronized (fun _ hr => retN X164 hx (t := .boolean) Bd.returns (by simp) (hb hby at_439) hr) (fun U' hU hF => ⟨_, _, rfl, ?_, hF.1, hF.2.1, hF.2.2.1, hF.2.2.2.mono (by decide) (by decide)⟩)
            exact ⟨(congrArg (fun z_ : Int32 => some (Value.int z_)) (show (1 : Int32) = (1 : Int32) from rfl)), N164⟩
        · refine Gk.icmpYes X125 hx (hb hby at_245) (feq hc245).2 281 (by decide) (by decide) ?_
          refine Gk.iload X125 hx (hb hby at_281) rfl ?_
          refine Gk.iconst X125 hx (hb hby at_283) (2 : Int32) rfl ?_
          by_cases hc284 : kk = (2 : Int32)
          · refine Gk.icmpNo X125 hx (hb hby at_284) (teq hc284).2 ?_
            refine Gk.newO X125 hx hZ hown (hw _ (List.mem_of_getElem? (i := 22) rfl)) (hw _ (List.mem_of_getElem? (i := 4) rfl)) (hw _ (List.mem_of_getElem? (i := 3) rfl)) e125 (hb hby at_287) (by decide) (by decide) ?_
            intro T171 h171 b171 X171 e171 E171 g171 A171 D171
            have g_b171 : n0 ≤ b171 := Nat.le_trans (Nat.le_trans Z0 gr132) (Nat.le_of_eq g171.symm)
            have lt_b171 := A171.lt
            have F_value_b171 : Fld Z h171 b171 "java/lang/String" "value" "[B" .null := D171 (Or.inr (hw _ (List.mem_of_getElem? (i := 6) rfl))) (ty := (.array .byte)) (by decide)
            have F_coder_b171 : Fld Z h171 b171 "java/lang/String" "coder" "B" (.int (0 : Int32)) := D171 (Or.inr (hw _ (List.mem_of_getElem? (i := 7) rfl))) (ty := .byte) (by decide)
            refine Gk.dup X171 hx (hb hby at_290) rfl ?_
            refine Gk.aload X171 hx (hb hby at_291) rfl rfl ?_
            have H173 := (V125.ext E171)
            have H174 := (H130.ext E171)
            refine Gk.callI (argsL := [(.ref b110)]) X171 hx hZ hown (str_14 l Z a0 hw [] b171 b110 k110 (upd (upd (upd (upd (upd (upd (upd (upd (upd (upd (upd (upd (upd (upd (fun _ => (.int (0 : Int32))) 0 (.int (78 : Int32))) 1 (.int (70 : Int32))) 2 (.int (83 : Int32))) 3 (.int (52 : Int32))) 4 (.int (69 : Int32))) 5 (.int (82 : Int32))) 6 (.int (82 : Int32))) 7 (.int (95 : Int32))) 8 (.int (73 : Int32))) 9 (.int (78 : Int32))) 10 (.int (86 : Int32))) 11 (.int (65 : Int32))) 12 (.int (76 : Int32))) 13 (.int (nar .char tail))) (78 : Int32) (70 : Int32) (83 : Int32) (52 : Int32) (69 : Int32) (82 : Int32) (82 : Int32) (95 : Int32) (73 : Int32) (78 : Int32) (86 : Int32) (65 : Int32) (76 : Int32) (nar .char tail) (.int (0 : Int32)) .null w_COMPACT_STRINGS h171 n0 (Nat.le_trans Z0 (Nat.le_trans gr132 E171.1)) H174 A171 H173 rfl rfl rfl rfl rfl rfl rfl rfl rfl rfl rfl rfl rfl rfl (by decide) (by decide) (by decide) (by decide) (by decide) (by decide) (by decide) (by decide) (by decide) (by decide) (by decide) (by decide) (by decide) (own_ch etail) hcs F_coder_b171 g_b171 F_value_b171) rfl (hw _ (List.mem_of_getElem? (i := 23) rfl)) (hw _ (List.mem_of_getElem? (i := 24) rfl)) (hw _ (List.mem_of_getElem? (i := 25) rfl)) rfl (by decide) (hw _ (List.mem_of_getElem? (i := 3) rfl)) e171 pd_11 rfl rfl (by decide) (Nat.le_of_ble_eq_true rfl) (by decide) (by decide) (by rw [hml]; rfl)  rfl (hb hby at_293) ?_
            intro T172 L172 v172 X172 hQ172
            obtain ⟨rfl, N172q, K172, Fc172, y172, k172_, le172, Fv172, V172⟩ := hQ172
            have N172 := Fr.app N125 N172q
            show Go p e below (T172.setTop (mkF m 296 #[.val (.int p1), .val (.int p2), .val (.int p3), .val (.int p4), .val (.int p5), .val (.int (0 : Int32)), .val (.int (1 : Int32)), .val (.int kk), .val (.int pos), .val (.int ch), .val (.int tail), .val (.ref b95), .val (.ref b110), .unset, .unset, .unset] [(.ref b171)])) _
            refine Gk.astore X172 hx (hb hby at_296) rfl #[.val (.int p1), .val (.int p2), .val (.int p3), .val (.int p4), .val (.int p5), .val (.int (0 : Int32)), .val (.int (1 : Int32)), .val (.int kk), .val (.int pos), .val (.int ch), .val (.int tail), .val (.ref b95), .val (.ref b110), .val (.ref b171), .unset, .unset] rfl ?_
            refine Gk.iconst X172 hx (hb hby at_298) (0 : Int32) rfl ?_
            refine Gk.istore X172 hx (hb hby at_299) #[.val (.int p1), .val (.int p2), .val (.int p3), .val (.int p4), .val (.int p5), .val (.int (0 : Int32)), .val (.int (1 : Int32)), .val (.int kk), .val (.int pos), .val (.int ch), .val (.int tail), .val (.ref b95), .val (.ref b110), .val (.ref b171), .val (.int (0 : Int32)), .unset] rfl ?_
            refine Gk.goto X172 hx (hb hby at_301) 376 (by decide) (by decide) ?_
            refine Gk.iload X172 hx (hb hby at_376) rfl ?_
            refine Gk.ifYes X172 hx (hb hby at_378) (teq (by decide : (0 : Int32) = (0 : Int32))).1 389 (by decide) (by decide) ?_
            refine Gk.iload X172 hx (hb hby at_389) rfl ?_
            refine Gk.ifYes X172 hx (hb hby at_391) (feq (by decide : ¬ ((1 : Int32) = (0 : Int32)))).2 402 (by decide) (by decide) ?_
            refine Gk.iload X172 hx (hb hby at_402) rfl ?_
            refine Gk.ifYes X172 hx (hb hby at_404) (teq (by decide : (0 : Int32) = (0 : Int32))).1 415 (by decide) (by decide) ?_
            have H175 := ((H129.ext E171).keep K172 (allS g_b171 all0))
            refine Gk.getS X172 hx hZ hown (host := "") (Or.inl (hw _ (List.mem_of_getElem? (i := 70) rfl))) Via.refl rfl H175.sta (hb hby at_415) ?_
            intro T176 X176 e176
            refine Gk.astore X176 hx (hb hby at_418) rfl #[.val (.int p1), .val (.int p2), .val (.int p3), .val (.int p4), .val (.int p5), .val (.int (0 : Int32)), .val (.int (1 : Int32)), .val (.int kk), .val (.int pos), .val (.int ch), .val (.int tail), .val (.ref b95), .val (.ref b110), .val (.ref b171), .val (.int (0 : Int32)), .val (.ref w_KNOWN_UNSUPPORTED)] rfl ?_
            refine Gk.iload X176 hx (hb hby at_420) rfl ?_
            refine Gk.aload X176 hx (hb hby at_422) rfl rfl ?_
            refine Gk.iload X176 hx (hb hby at_424) rfl ?_
            have H178 := (A171.keep K172)
            have H179 := (H174.keep K172 (allS g_b171 all0))
            have gr180 := (Nat.le_trans (Nat.le_trans gr132 E171.1) K172.1)
            have R181_ := own_chrOld (h' := T172.heap) hCH (by rw [← hh]; exact fun b_ cl_ q_ => e176 ▸ oldF X176 (by rw [hh, ← hn0]; exact N172) b_ cl_ q_)
            refine Gk.callSH (s := s) (argsL := [(.int (0 : Int32)), (.ref b171), (.int (1 : Int32))]) (show Stand p l e room_1 (s.setVm s.vm) m _ below meth c _ _ _ _ from X176) hx hZ hown (ats_n l Z a0 hw [] b171 y172 k172_ (upd (upd (upd (upd (upd (upd (upd (upd (upd (upd (upd (upd (upd (upd (fun _ => (.int (0 : Int32))) 0 (.int ((78 : Int32).toInt8.toInt32))) 1 (.int ((70 : Int32).toInt8.toInt32))) 2 (.int ((83 : Int32).toInt8.toInt32))) 3 (.int ((52 : Int32).toInt8.toInt32))) 4 (.int ((69 : Int32).toInt8.toInt32))) 5 (.int ((82 : Int32).toInt8.toInt32))) 6 (.int ((82 : Int32).toInt8.toInt32))) 7 (.int ((95 : Int32).toInt8.toInt32))) 8 (.int ((73 : Int32).toInt8.toInt32))) 9 (.int ((78 : Int32).toInt8.toInt32))) 10 (.int ((86 : Int32).toInt8.toInt32))) 11 (.int ((65 : Int32).toInt8.toInt32))) 12 (.int ((76 : Int32).toInt8.toInt32))) 13 (.int ((nar .char tail).toInt8.toInt32))) (14 : Int32) w_COMPACT_STRINGS w_KNOWN_UNSUPPORTED T172.heap n0 (Nat.le_trans Z0 gr180) H179 H175 H178 Fc172 Fv172 V172 (by decide) (by decide) hcs) (hw _ (List.mem_of_getElem? (i := 13) rfl)) (hw _ (List.mem_of_getElem? (i := 14) rfl)) (hw _ (List.mem_of_getElem? (i := 15) rfl)) (hw _ (List.mem_of_getElem? (i := 16) rfl)) (by decide) e176 ((State.WarmedH.refl s).since 0) (Nat.zero_le _) (own_EW hw) R181_.1 pd_10 rfl rfl (by decide) (Nat.le_of_ble_eq_true rfl) (by decide) (by decide) (by rw [hml]; rfl) rfl (hb hby at_426) ?_
            intro T177 L177 v177 kS177 X177 S177_ q177_ Z177_ o177_ C177_ hQ177
            have R177_ := R181_.trans C177_
            obtain ⟨rfl, N177q, K177⟩ := hQ177
            have N177 := Fr.app N172 N177q
            show Go p e below (T177.setTop (mkF m 429 #[.val (.int p1), .val (.int p2), .val (.int p3), .val (.int p4), .val (.int p5), .val (.int (0 : Int32)), .val (.int (1 : Int32)), .val (.int kk), .val (.int pos), .val (.int ch), .val (.int tail), .val (.ref b95), .val (.ref b110), .val (.ref b171), .val (.int (0 : Int32)), .val (.ref w_KNOWN_UNSUPPORTED)] [(.ref w_KNOWN_UNSUPPORTED)])) _
            refine Gk.aload X177 hx (hb hby at_429) rfl rfl ?_
            refine Gk.acmp X177 hx (hb hby at_431) rfl rfl true (decide_eq_true rfl) 434 (by decide) (by decide) ?_
            refine Gk.iconst X177 hx (hb hby at_434) (1 : Int32) rfl ?_
            refine Gk.goto X177 hx (hb hby at_435) 439 (by decide) (by decide) ?_
            refine Gk.finW (s := s) X177 rfl S177_ (Nat.le_trans q177_ (Nat.le_refl _)) (v := some (.int (1 : Int32))) (fun h_ => by rw [Bd.returns] at h_; cases h_) Bd.notSynchronized (fun _ hr => retN X177 hx (t := .boolean) Bd.returns (by simp) (hb hby at_439) hr) (fun U' hU hF => ⟨_, _, rfl, ?_, hF.1, hF.2.1, hF.2.2.1, hF.2.2.2.mono (by decide) (by decide)⟩)
            exact ⟨(congrArg (fun z_ : Int32 => some (Value.int z_)) (show (1 : Int32) = (1 : Int32) from rfl)), N177⟩
          · refine Gk.icmpYes X125 hx (hb hby at_284) (feq hc284).2 304 (by decide) (by decide) ?_
            refine Gk.iload X125 hx (hb hby at_304) rfl ?_
            refine Gk.iconst X125 hx (hb hby at_306) (3 : Int32) rfl ?_
            by_cases hc307 : kk = (3 : Int32)
            · refine Gk.icmpNo X125 hx (hb hby at_307) (teq hc307).2 ?_
              have R183_ := own_chrOld (h' := h125) hCH (by rw [← hh]; exact fun b_ cl_ q_ => e125 ▸ oldF X125 (by rw [hh, ← hn0]; exact N125) b_ cl_ q_)
              refine Gk.ldcH (s := s) (show Stand p l e room_1 (s.setVm s.vm) m _ below meth c _ _ _ _ from X125) hx hZ hown (hw _ (List.mem_of_getElem? (i := 2) rfl)) (own_wS hw) e125 ((State.WarmedH.refl s).since 0) (Nat.zero_le _) (own_EW hw) (List.mem_of_getElem? (i := 2) rfl) R183_.1 lit1T (hb hby at_310) (n := 72) (by decide) (by decide) (by decide) (by decide) ?_
              intro la182 T182 h182 kS182 lb182 lk182 X182 e182 E182 S182_ q182_ Z182_ o182_ lA182 lFc182 lFv182 lV182 llt182 lltb182 C182_ Lt182_ d182_
              have R182_ := R183_.trans C182_
              refine Gk.astore X182 hx (hb hby at_312) rfl #[.val (.int p1), .val (.int p2), .val (.int p3), .val (.int p4), .val (.int p5), .val (.int (0 : Int32)), .val (.int (1 : Int32)), .val (.int kk), .val (.int pos), .val (.int ch), .val (.int tail), .val (.ref b95), .val (.ref b110), .val (.ref la182), .unset, .unset] rfl ?_
              refine Gk.iconst X182 hx (hb hby at_314) (0 : Int32) rfl ?_
              refine Gk.istore X182 hx (hb hby at_315) #[.val (.int p1), .val (.int p2), .val (.int p3), .val (.int p4), .val (.int p5), .val (.int (0 : Int32)), .val (.int (1 : Int32)), .val (.int kk), .val (.int pos), .val (.int ch), .val (.int tail), .val (.ref b95), .val (.ref b110), .val (.ref la182), .val (.int (0 : Int32)), .unset] rfl ?_
              refine Gk.goto X182 hx (hb hby at_317) 376 (by decide) (by decide) ?_
              refine Gk.iload X182 hx (hb hby at_376) rfl ?_
              refine Gk.ifYes X182 hx (hb hby at_378) (teq (by decide : (0 : Int32) = (0 : Int32))).1 389 (by decide) (by decide) ?_
              refine Gk.iload X182 hx (hb hby at_389) rfl ?_
              refine Gk.ifYes X182 hx (hb hby at_391) (feq (by decide : ¬ ((1 : Int32) = (0 : Int32)))).2 402 (by decide) (by decide) ?_
              refine Gk.iload X182 hx (hb hby at_402) rfl ?_
              refine Gk.ifYes X182 hx (hb hby at_404) (teq (by decide : (0 : Int32) = (0 : Int32))).1 415 (by decide) (by decide) ?_
              have H184 := (H129.ext E182)
              refine Gk.getS X182 hx Z182_ o182_ (host := "") (Or.inl (hw _ (List.mem_of_getElem? (i := 70) rfl))) Via.refl e182 H184.sta (hb hby at_415) ?_
              intro T185 X185 e185
              refine Gk.astore X185 hx (hb hby at_418) rfl #[.val (.int p1), .val (.int p2), .val (.int p3), .val (.int p4), .val (.int p5), .val (.int (0 : Int32)), .val (.int (1 : Int32)), .val (.int kk), .val (.int pos), .val (.int ch), .val (.int tail), .val (.ref b95), .val (.ref b110), .val (.ref la182), .val (.int (0 : Int32)), .val (.ref w_KNOWN_UNSUPPORTED)] rfl ?_
              refine Gk.iload X185 hx (hb hby at_420) rfl ?_
              refine Gk.aload X185 hx (hb hby at_422) rfl rfl ?_
              refine Gk.iload X185 hx (hb hby at_424) rfl ?_
              have H187 := (H130.ext E182)
              refine Gk.callSH (s := s) (argsL := [(.int (0 : Int32)), (.ref la182), (.int (1 : Int32))]) X185 hx Z182_ o182_ (ats_n l Z a0 hw [] la182 lb182 lk182 (fun i => .int ((fun j_ => lit1L.getD j_ 0) i)) (18 : Int32) w_COMPACT_STRINGS w_KNOWN_UNSUPPORTED h182 n0 (Nat.le_trans Z0 (Nat.le_trans gr132 E182.1)) H187 H184 lA182 lFc182 lFv182 lV182 (by decide) (by decide) hcs) (hw _ (List.mem_of_getElem? (i := 13) rfl)) (hw _ (List.mem_of_getElem? (i := 14) rfl)) (hw _ (List.mem_of_getElem? (i := 15) rfl)) (hw _ (List.mem_of_getElem? (i := 16) rfl)) (by decide) e185 S182_ (Nat.le_trans q182_ (Nat.le_refl _)) (own_EW hw) R182_.1 pd_10 rfl rfl (by decide) (Nat.le_of_ble_eq_true rfl) (by decide) (by decide) (by rw [hml]; rfl) rfl (hb hby at_426) ?_
              intro T186 L186 v186 kS186 X186 S186_ q186_ Z186_ o186_ C186_ hQ186
              have R186_ := R182_.trans C186_
              obtain ⟨rfl, N186q, K186⟩ := hQ186
              have N186 := Fr.app N125 N186q
              show Go p e below (T186.setTop (mkF m 429 #[.val (.int p1), .val (.int p2), .val (.int p3), .val (.int p4), .val (.int p5), .val (.int (0 : Int32)), .val (.int (1 : Int32)), .val (.int kk), .val (.int pos), .val (.int ch), .val (.int tail), .val (.ref b95), .val (.ref b110), .val (.ref la182), .val (.int (0 : Int32)), .val (.ref w_KNOWN_UNSUPPORTED)] [(.ref w_KNOWN_UNSUPPORTED)])) _
              refine Gk.aload X186 hx (hb hby at_429) rfl rfl ?_
              refine Gk.acmp X186 hx (hb hby at_431) rfl rfl true (decide_eq_true rfl) 434 (by decide) (by decide) ?_
              refine Gk.iconst X186 hx (hb hby at_434) (1 : Int32) rfl ?_
              refine Gk.goto X186 hx (hb hby at_435) 439 (by decide) (by decide) ?_
              refine Gk.finW (s := s) X186 rfl S186_ (Nat.le_trans q186_ (Nat.le_refl _)) (v := some (.int (1 : Int32))) (fun h_ => by rw [Bd.returns] at h_; cases h_) Bd.notSynchronized (fun _ hr => retN X186 hx (t := .boolean) Bd.returns (by simp) (hb hby at_439) hr) (fun U' hU hF => ⟨_, _, rfl, ?_, hF.1, hF.2.1, hF.2.2.1, hF.2.2.2.mono (by decide) (by decide)⟩)
              exact ⟨(congrArg (fun z_ : Int32 => some (Value.int z_)) (show (1 : Int32) = (1 : Int32) from rfl)), N186⟩
            · refine Gk.icmpYes X125 hx (hb hby at_307) (feq hc307).2 320 (by decide) (by decide) ?_
              refine Gk.iload X125 hx (hb hby at_320) rfl ?_
              refine Gk.iconst X125 hx (hb hby at_322) (4 : Int32) rfl ?_
              by_cases hc323 : kk = (4 : Int32)
              · refine Gk.icmpNo X125 hx (hb hby at_323) (teq hc323).2 ?_
                have R190_ := own_chrOld (h' := h125) hCH (by rw [← hh]; exact fun b_ cl_ q_ => e125 ▸ oldF X125 (by rw [hh, ← hn0]; exact N125) b_ cl_ q_)
                refine Gk.ldcH (s := s) (show Stand p l e room_1 (s.setVm s.vm) m _ below meth c _ _ _ _ from X125) hx hZ hown (hw _ (List.mem_of_getElem? (i := 18) rfl)) (own_wS hw) e125 ((State.WarmedH.refl s).since 0) (Nat.zero_le _) (own_EW hw) (List.mem_of_getElem? (i := 3) rfl) R190_.1 lit2T (hb hby at_326) (n := 60) (by decide) (by decide) (by decide) (by decide) ?_
                intro la189 T189 h189 kS189 lb189 lk189 X189 e189 E189 S189_ q189_ Z189_ o189_ lA189 lFc189 lFv189 lV189 llt189 lltb189 C189_ Lt189_ d189_
                have R189_ := R190_.trans C189_
                refine Gk.astore X189 hx (hb hby at_328) rfl #[.val (.int p1), .val (.int p2), .val (.int p3), .val (.int p4), .val (.int p5), .val (.int (0 : Int32)), .val (.int (1 : Int32)), .val (.int kk), .val (.int pos), .val (.int ch), .val (.int tail), .val (.ref b95), .val (.ref b110), .val (.ref la189), .unset, .unset] rfl ?_
                refine Gk.iconst X189 hx (hb hby at_330) (0 : Int32) rfl ?_
                refine Gk.istore X189 hx (hb hby at_331) #[.val (.int p1), .val (.int p2), .val (.int p3), .val (.int p4), .val (.int p5), .val (.int (0 : Int32)), .val (.int (1 : Int32)), .val (.int kk), .val (.int pos), .val (.int ch), .val (.int tail), .val (.ref b95), .val (.ref b110), .val (.ref la189), .val (.int (0 : Int32)), .unset] rfl ?_
                refine Gk.goto X189 hx (hb hby at_333) 376 (by decide) (by decide) ?_
                refine Gk.iload X189 hx (hb hby at_376) rfl ?_
                refine Gk.ifYes X189 hx (hb hby at_378) (teq (by decide : (0 : Int32) = (0 : Int32))).1 389 (by decide) (by decide) ?_
                refine Gk.iload X189 hx (hb hby at_389) rfl ?_
                refine Gk.ifYes X189 hx (hb hby at_391) (feq (by decide : ¬ ((1 : Int32) = (0 : Int32)))).2 402 (by decide) (by decide) ?_
                refine Gk.iload X189 hx (hb hby at_402) rfl ?_
                refine Gk.ifYes X189 hx (hb hby at_404) (teq (by decide : (0 : Int32) = (0 : Int32))).1 415 (by decide) (by decide) ?_
                have H191 := (H129.ext E189)
                refine Gk.getS X189 hx Z189_ o189_ (host := "") (Or.inl (hw _ (List.mem_of_getElem? (i := 70) rfl))) Via.refl e189 H191.sta (hb hby at_415) ?_
                intro T192 X192 e192
                refine Gk.astore X192 hx (hb hby at_418) rfl #[.val (.int p1), .val (.int p2), .val (.int p3), .val (.int p4), .val (.int p5), .val (.int (0 : Int32)), .val (.int (1 : Int32)), .val (.int kk), .val (.int pos), .val (.int ch), .val (.int tail), .val (.ref b95), .val (.ref b110), .val (.ref la189), .val (.int (0 : Int32)), .val (.ref w_KNOWN_UNSUPPORTED)] rfl ?_
                refine Gk.iload X192 hx (hb hby at_420) rfl ?_
                refine Gk.aload X192 hx (hb hby at_422) rfl rfl ?_
                refine Gk.iload X192 hx (hb hby at_424) rfl ?_
                have H194 := (H130.ext E189)
                refine Gk.callSH (s := s) (argsL := [(.int (0 : Int32)), (.ref la189), (.int (1 : Int32))]) X192 hx Z189_ o189_ (ats_n l Z a0 hw [] la189 lb189 lk189 (fun i => .int ((fun j_ => lit2L.getD j_ 0) i)) (15 : Int32) w_COMPACT_STRINGS w_KNOWN_UNSUPPORTED h189 n0 (Nat.le_trans Z0 (Nat.le_trans gr132 E189.1)) H194 H191 lA189 lFc189 lFv189 lV189 (by decide) (by decide) hcs) (hw _ (List.mem_of_getElem? (i := 13) rfl)) (hw _ (List.mem_of_getElem? (i := 14) rfl)) (hw _ (List.mem_of_getElem? (i := 15) rfl)) (hw _ (List.mem_of_getElem? (i := 16) rfl)) (by decide) e192 S189_ (Nat.le_trans q189_ (Nat.le_refl _)) (own_EW hw) R189_.1 pd_10 rfl rfl (by decide) (Nat.le_of_ble_eq_true rfl) (by decide) (by decide) (by rw [hml]; rfl) rfl (hb hby at_426) ?_
                intro T193 L193 v193 kS193 X193 S193_ q193_ Z193_ o193_ C193_ hQ193
                have R193_ := R189_.trans C193_
                obtain ⟨rfl, N193q, K193⟩ := hQ193
                have N193 := Fr.app N125 N193q
                show Go p e below (T193.setTop (mkF m 429 #[.val (.int p1), .val (.int p2), .val (.int p3), .val (.int p4), .val (.int p5), .val (.int (0 : Int32)), .val (.int (1 : Int32)), .val (.int kk), .val (.int pos), .val (.int ch), .val (.int tail), .val (.ref b95), .val (.ref b110), .val (.ref la189), .val (.int (0 : Int32)), .val (.ref w_KNOWN_UNSUPPORTED)] [(.ref w_KNOWN_UNSUPPORTED)])) _
                refine Gk.aload X193 hx (hb hby at_429) rfl rfl ?_
                refine Gk.acmp X193 hx (hb hby at_431) rfl rfl true (decide_eq_true rfl) 434 (by decide) (by decide) ?_
                refine Gk.iconst X193 hx (hb hby at_434) (1 : Int32) rfl ?_
                refine Gk.goto X193 hx (hb hby at_435) 439 (by decide) (by decide) ?_
                refine Gk.finW (s := s) X193 rfl S193_ (Nat.le_trans q193_ (Nat.le_refl _)) (v := some (.int (1 : Int32))) (fun h_ => by rw [Bd.returns] at h_; cases h_) Bd.notSynchronized (fun _ hr => retN X193 hx (t := .boolean) Bd.returns (by simp) (hb hby at_439) hr) (fun U' hU hF => ⟨_, _, rfl, ?_, hF.1, hF.2.1, hF.2.2.1, hF.2.2.2.mono (by decide) (by decide)⟩)
                exact ⟨(congrArg (fun z_ : Int32 => some (Value.int z_)) (show (1 : Int32) = (1 : Int32) from rfl)), N193⟩
              · refine Gk.icmpYes X125 hx (hb hby at_323) (feq hc323).2 336 (by decide) (by decide) ?_
                refine Gk.iload X125 hx (hb hby at_336) rfl ?_
                refine Gk.iconst X125 hx (hb hby at_338) (5 : Int32) rfl ?_
                by_cases hc339 : kk = (5 : Int32)
                · refine Gk.icmpNo X125 hx (hb hby at_339) (teq hc339).2 ?_
                  have R197_ := own_chrOld (h' := h125) hCH (by rw [← hh]; exact fun b_ cl_ q_ => e125 ▸ oldF X125 (by rw [hh, ← hn0]; exact N125) b_ cl_ q_)
                  refine Gk.ldcH (s := s) (show Stand p l e room_1 (s.setVm s.vm) m _ below meth c _ _ _ _ from X125) hx hZ hown (hw _ (List.mem_of_getElem? (i := 87) rfl)) (own_wS hw) e125 ((State.WarmedH.refl s).since 0) (Nat.zero_le _) (own_EW hw) (List.mem_of_getElem? (i := 4) rfl) R197_.1 lit3T (hb hby at_342) (n := 28) (by decide) (by decide) (by decide) (by decide) ?_
                  intro la196 T196 h196 kS196 lb196 lk196 X196 e196 E196 S196_ q196_ Z196_ o196_ lA196 lFc196 lFv196 lV196 llt196 lltb196 C196_ Lt196_ d196_
                  have R196_ := R197_.trans C196_
                  refine Gk.astore X196 hx (hb hby at_344) rfl #[.val (.int p1), .val (.int p2), .val (.int p3), .val (.int p4), .val (.int p5), .val (.int (0 : Int32)), .val (.int (1 : Int32)), .val (.int kk), .val (.int pos), .val (.int ch), .val (.int tail), .val (.ref b95), .val (.ref b110), .val (.ref la196), .unset, .unset] rfl ?_
                  refine Gk.iconst X196 hx (hb hby at_346) (0 : Int32) rfl ?_
                  refine Gk.istore X196 hx (hb hby at_347) #[.val (.int p1), .val (.int p2), .val (.int p3), .val (.int p4), .val (.int p5), .val (.int (0 : Int32)), .val (.int (1 : Int32)), .val (.int kk), .val (.int pos), .val (.int ch), .val (.int tail), .val (.ref b95), .val (.ref b110), .val (.ref la196), .val (.int (0 : Int32)), .unset] rfl ?_
                  refine Gk.goto X196 hx (hb hby at_349) 376 (by decide) (by decide) ?_
                  refine Gk.iload X196 hx (hb hby at_376) rfl ?_
                  refine Gk.ifYes X196 hx (hb hby at_378) (teq (by decide : (0 : Int32) = (0 : Int32))).1 389 (by decide) (by decide) ?_
                  refine Gk.iload X196 hx (hb hby at_389) rfl ?_
                  refine Gk.ifYes X196 hx (hb hby at_391) (feq (by decide : ¬ ((1 : Int32) = (0 : Int32)))).2 402 (by decide) (by decide) ?_
                  refine Gk.iload X196 hx (hb hby at_402) rfl ?_
                  refine Gk.ifYes X196 hx (hb hby at_404) (teq (by decide : (0 : Int32) = (0 : Int32))).1 415 (by decide) (by decide) ?_
                  have H198 := (H129.ext E196)
                  refine Gk.getS X196 hx Z196_ o196_ (host := "") (Or.inl (hw _ (List.mem_of_getElem? (i := 70) rfl))) Via.refl e196 H198.sta (hb hby at_415) ?_
                  intro T199 X199 e199
                  refine Gk.astore X199 hx (hb hby at_418) rfl #[.val (.int p1), .val (.int p2), .val (.int p3), .val (.int p4), .val (.int p5), .val (.int (0 : Int32)), .val (.int (1 : Int32)), .val (.int kk), .val (.int pos), .val (.int ch), .val (.int tail), .val (.ref b95), .val (.ref b110), .val (.ref la196), .val (.int (0 : Int32)), .val (.ref w_KNOWN_UNSUPPORTED)] rfl ?_
                  refine Gk.iload X199 hx (hb hby at_420) rfl ?_
                  refine Gk.aload X199 hx (hb hby at_422) rfl rfl ?_
                  refine Gk.iload X199 hx (hb hby at_424) rfl ?_
                  have H201 := (H130.ext E196)
                  refine Gk.callSH (s := s) (argsL := [(.int (0 : Int32)), (.ref la196), (.int (1 : Int32))]) X199 hx Z196_ o196_ (ats_n l Z a0 hw [] la196 lb196 lk196 (fun i => .int ((fun j_ => lit3L.getD j_ 0) i)) (7 : Int32) w_COMPACT_STRINGS w_KNOWN_UNSUPPORTED h196 n0 (Nat.le_trans Z0 (Nat.le_trans gr132 E196.1)) H201 H198 lA196 lFc196 lFv196 lV196 (by decide) (by decide) hcs) (hw _ (List.mem_of_getElem? (i := 13) rfl)) (hw _ (List.mem_of_getElem? (i := 14) rfl)) (hw _ (List.mem_of_getElem? (i := 15) rfl)) (hw _ (List.mem_of_getElem? (i := 16) rfl)) (by decide) e199 S196_ (Nat.le_trans q196_ (Nat.le_refl _)) (own_EW hw) R196_.1 pd_10 rfl rfl (by decide) (Nat.le_of_ble_eq_true rfl) (by decide) (by decide) (by rw [hml]; rfl) rfl (hb hby at_426) ?_
                  intro T200 L200 v200 kS200 X200 S200_ q200_ Z200_ o200_ C200_ hQ200
                  have R200_ := R196_.trans C200_
                  obtain ⟨rfl, N200q, K200⟩ := hQ200
                  have N200 := Fr.app N125 N200q
                  show Go p e below (T200.setTop (mkF m 429 #[.val (.int p1), .val (.int p2), .val (.int p3), .val (.int p4), .val (.int p5), .val (.int (0 : Int32)), .val (.int (1 : Int32)), .val (.int kk), .val (.int pos), .val (.int ch), .val (.int tail), .val (.ref b95), .val (.ref b110), .val (.ref la196), .val (.int (0 : Int32)), .val (.ref w_KNOWN_UNSUPPORTED)] [(.ref w_KNOWN_UNSUPPORTED)])) _
                  refine Gk.aload X200 hx (hb hby at_429) rfl rfl ?_
                  refine Gk.acmp X200 hx (hb hby at_431) rfl rfl true (decide_eq_true rfl) 434 (by decide) (by decide) ?_
                  refine Gk.iconst X200 hx (hb hby at_434) (1 : Int32) rfl ?_
                  refine Gk.goto X200 hx (hb hby at_435) 439 (by decide) (by decide) ?_
                  refine Gk.finW (s := s) X200 rfl S200_ (Nat.le_trans q200_ (Nat.le_refl _)) (v := some (.int (1 : Int32))) (fun h_ => by rw [Bd.returns] at h_; cases h_) Bd.notSynchronized (fun _ hr => retN X200 hx (t := .boolean) Bd.returns (by simp) (hb hby at_439) hr) (fun U' hU hF => ⟨_, _, rfl, ?_, hF.1, hF.2.1, hF.2.2.1, hF.2.2.2.mono (by decide) (by decide)⟩)
                  exact ⟨(congrArg (fun z_ : Int32 => some (Value.int z_)) (show (1 : Int32) = (1 : Int32) from rfl)), N200⟩
                · refine Gk.icmpYes X125 hx (hb hby at_339) (feq hc339).2 352 (by decide) (by decide) ?_
                  refine Gk.iload X125 hx (hb hby at_352) rfl ?_
                  refine Gk.bipush X125 hx (hb hby at_354) (6 : Int32) rfl ?_
                  by_cases hc356 : kk = (6 : Int32)
                  · refine Gk.icmpNo X125 hx (hb hby at_356) (teq hc356).2 ?_
                    have R204_ := own_chrOld (h' := h125) hCH (by rw [← hh]; exact fun b_ cl_ q_ => e125 ▸ oldF X125 (by rw [hh, ← hn0]; exact N125) b_ cl_ q_)
                    refine Gk.ldcH (s := s) (show Stand p l e room_1 (s.setVm s.vm) m _ below meth c _ _ _ _ from X125) hx hZ hown (hw _ (List.mem_of_getElem? (i := 86) rfl)) (own_wS hw) e125 ((State.WarmedH.refl s).since 0) (Nat.zero_le _) (own_EW hw) (List.mem_of_getElem? (i := 5) rfl) R204_.1 lit4T (hb hby at_359) (n := 0) (by decide) (by decide) (by decide) (by decide) ?_
                    intro la203 T203 h203 kS203 lb203 lk203 X203 e203 E203 S203_ q203_ Z203_ o203_ lA203 lFc203 lFv203 lV203 llt203 lltb203 C203_ Lt203_ d203_
                    have R203_ := R204_.trans C203_
                    refine Gk.astore X203 hx (hb hby at_361) rfl #[.val (.int p1), .val (.int p2), .val (.int p3), .val (.int p4), .val (.int p5), .val (.int (0 : Int32)), .val (.int (1 : Int32)), .val (.int kk), .val (.int pos), .val (.int ch), .val (.int tail), .val (.ref b95), .val (.ref b110), .val (.ref la203), .unset, .unset] rfl ?_
                    refine Gk.iconst X203 hx (hb hby at_363) (0 : Int32) rfl ?_
                    refine Gk.istore X203 hx (hb hby at_364) #[.val (.int p1), .val (.int p2), .val (.int p3), .val (.int p4), .val (.int p5), .val (.int (0 : Int32)), .val (.int (1 : Int32)), .val (.int kk), .val (.int pos), .val (.int ch), .val (.int tail), .val (.ref b95), .val (.ref b110), .val (.ref la203), .val (.int (0 : Int32)), .unset] rfl ?_
                    refine Gk.goto X203 hx (hb hby at_366) 376 (by decide) (by decide) ?_
                    refine Gk.iload X203 hx (hb hby at_376) rfl ?_
                    refine Gk.ifYes X203 hx (hb hby at_378) (teq (by decide : (0 : Int32) = (0 : Int32))).1 389 (by decide) (by decide) ?_
                    refine Gk.iload X203 hx (hb hby at_389) rfl ?_
                    refine Gk.ifYes X203 hx (hb hby at_391) (feq (by decide : ¬ ((1 : Int32) = (0 : Int32)))).2 402 (by decide) (by decide) ?_
                    refine Gk.iload X203 hx (hb hby at_402) rfl ?_
                    refine Gk.ifYes X203 hx (hb hby at_404) (teq (by decide : (0 : Int32) = (0 : Int32))).1 415 (by decide) (by decide) ?_
                    have H205 := (H129.ext E203)
                    refine Gk.getS X203 hx Z203_ o203_ (host := "") (Or.inl (hw _ (List.mem_of_getElem? (i := 70) rfl))) Via.refl e203 H205.sta (hb hby at_415) ?_
                    intro T206 X206 e206
                    refine Gk.astore X206 hx (hb hby at_418) rfl #[.val (.int p1), .val (.int p2), .val (.int p3), .val (.int p4), .val (.int p5), .val (.int (0 : Int32)), .val (.int (1 : Int32)), .val (.int kk), .val (.int pos), .val (.int ch), .val (.int tail), .val (.ref b95), .val (.ref b110), .val (.ref la203), .val (.int (0 : Int32)), .val (.ref w_KNOWN_UNSUPPORTED)] rfl ?_
                    refine Gk.iload X206 hx (hb hby at_420) rfl ?_
                    refine Gk.aload X206 hx (hb hby at_422) rfl rfl ?_
                    refine Gk.iload X206 hx (hb hby at_424) rfl ?_
                    have H208 := (H130.ext E203)
                    refine Gk.callSH (s := s) (argsL := [(.int (0 : Int32)), (.ref la203), (.int (1 : Int32))]) X206 hx Z203_ o203_ (ats_n l Z a0 hw [] la203 lb203 lk203 (fun i => .int ((fun j_ => lit4L.getD j_ 0) i)) (0 : Int32) w_COMPACT_STRINGS w_KNOWN_UNSUPPORTED h203 n0 (Nat.le_trans Z0 (Nat.le_trans gr132 E203.1)) H208 H205 lA203 lFc203 lFv203 lV203 (by decide) (by decide) hcs) (hw _ (List.mem_of_getElem? (i := 13) rfl)) (hw _ (List.mem_of_getElem? (i := 14) rfl)) (hw _ (List.mem_of_getElem? (i := 15) rfl)) (hw _ (List.mem_of_getElem? (i := 16) rfl)) (by decide) e206 S203_ (Nat.le_trans q203_ (Nat.le_refl _)) (own_EW hw) R203_.1 pd_10 rfl rfl (by decide) (Nat.le_of_ble_eq_true rfl) (by decide) (by decide) (by rw [hml]; rfl) rfl (hb hby at_426) ?_
                    intro T207 L207 v207 kS207 X207 S207_ q207_ Z207_ o207_ C207_ hQ207
                    have R207_ := R203_.trans C207_
                    obtain ⟨rfl, N207q, K207⟩ := hQ207
                    have N207 := Fr.app N125 N207q
                    show Go p e below (T207.setTop (mkF m 429 #[.val (.int p1), .val (.int p2), .val (.int p3), .val (.int p4), .val (.int p5), .val (.int (0 : Int32)), .val (.int (1 : Int32)), .val (.int kk), .val (.int pos), .val (.int ch), .val (.int tail), .val (.ref b95), .val (.ref b110), .val (.ref la203), .val (.int (0 : Int32)), .val (.ref w_KNOWN_UNSUPPORTED)] [(.ref w_KNOWN_UNSUPPORTED)])) _
                    refine Gk.aload X207 hx (hb hby at_429) rfl rfl ?_
                    refine Gk.acmp X207 hx (hb hby at_431) rfl rfl true (decide_eq_true rfl) 434 (by decide) (by decide) ?_
                    refine Gk.iconst X207 hx (hb hby at_434) (1 : Int32) rfl ?_
                    refine Gk.goto X207 hx (hb hby at_435) 439 (by decide) (by decide) ?_
                    refine Gk.finW (s := s) X207 rfl S207_ (Nat.le_trans q207_ (Nat.le_refl _)) (v := some (.int (1 : Int32))) (fun h_ => by rw [Bd.returns] at h_; cases h_) Bd.notSynchronized (fun _ hr => retN X207 hx (t := .boolean) Bd.returns (by simp) (hb hby at_439) hr) (fun U' hU hF => ⟨_, _, rfl, ?_, hF.1, hF.2.1, hF.2.2.1, hF.2.2.2.mono (by decide) (by decide)⟩)
                    exact ⟨(congrArg (fun z_ : Int32 => some (Value.int z_)) (show (1 : Int32) = (1 : Int32) from rfl)), N207⟩
                  · refine Gk.icmpYes X125 hx (hb hby at_356) (feq hc356).2 369 (by decide) (by decide) ?_
                    have R211_ := own_chrOld (h' := h125) hCH (by rw [← hh]; exact fun b_ cl_ q_ => e125 ▸ oldF X125 (by rw [hh, ← hn0]; exact N125) b_ cl_ q_)
                    refine Gk.ldcH (s := s) (show Stand p l e room_1 (s.setVm s.vm) m _ below meth c _ _ _ _ from X125) hx hZ hown (hw _ (List.mem_of_getElem? (i := 46) rfl)) (own_wS hw) e125 ((State.WarmedH.refl s).since 0) (Nat.zero_le _) (own_EW hw) (List.mem_of_getElem? (i := 6) rfl) R211_.1 lit5T (hb hby at_369) (n := 48) (by decide) (by decide) (by decide) (by decide) ?_
                    intro la210 T210 h210 kS210 lb210 lk210 X210 e210 E210 S210_ q210_ Z210_ o210_ lA210 lFc210 lFv210 lV210 llt210 lltb210 C210_ Lt210_ d210_
                    have R210_ := R211_.trans C210_
                    refine Gk.astore X210 hx (hb hby at_371) rfl #[.val (.int p1), .val (.int p2), .val (.int p3), .val (.int p4), .val (.int p5), .val (.int (0 : Int32)), .val (.int (1 : Int32)), .val (.int kk), .val (.int pos), .val (.int ch), .val (.int tail), .val (.ref b95), .val (.ref b110), .val (.ref la210), .unset, .unset] rfl ?_
                    refine Gk.iconst X210 hx (hb hby at_373) (0 : Int32) rfl ?_
                    refine Gk.istore X210 hx (hb hby at_374) #[.val (.int p1), .val (.int p2), .val (.int p3), .val (.int p4), .val (.int p5), .val (.int (0 : Int32)), .val (.int (1 : Int32)), .val (.int kk), .val (.int pos), .val (.int ch), .val (.int tail), .val (.ref b95), .val (.ref b110), .val (.ref la210), .val (.int (0 : Int32)), .unset] rfl ?_
                    refine Gk.iload X210 hx (hb hby at_376) rfl ?_
                    refine Gk.ifYes X210 hx (hb hby at_378) (teq (by decide : (0 : Int32) = (0 : Int32))).1 389 (by decide) (by decide) ?_
                    refine Gk.iload X210 hx (hb hby at_389) rfl ?_
                    refine Gk.ifYes X210 hx (hb hby at_391) (feq (by decide : ¬ ((1 : Int32) = (0 : Int32)))).2 402 (by decide) (by decide) ?_
                    refine Gk.iload X210 hx (hb hby at_402) rfl ?_
                    refine Gk.ifYes X210 hx (hb hby at_404) (teq (by decide : (0 : Int32) = (0 : Int32))).1 415 (by decide) (by decide) ?_
                    have H212 := (H129.ext E210)
                    refine Gk.getS X210 hx Z210_ o210_ (host := "") (Or.inl (hw _ (List.mem_of_getElem? (i := 70) rfl))) Via.refl e210 H212.sta (hb hby at_415) ?_
                    intro T213 X213 e213
                    refine Gk.astore X213 hx (hb hby at_418) rfl #[.val (.int p1), .val (.int p2), .val (.int p3), .val (.int p4), .val (.int p5), .val (.int (0 : Int32)), .val (.int (1 : Int32)), .val (.int kk), .val (.int pos), .val (.int ch), .val (.int tail), .val (.ref b95), .val (.ref b110), .val (.ref la210), .val (.int (0 : Int32)), .val (.ref w_KNOWN_UNSUPPORTED)] rfl ?_
                    refine Gk.iload X213 hx (hb hby at_420) rfl ?_
                    refine Gk.aload X213 hx (hb hby at_422) rfl rfl ?_
                    refine Gk.iload X213 hx (hb hby at_424) rfl ?_
                    have H215 := (H130.ext E210)
                    refine Gk.callSH (s := s) (argsL := [(.int (0 : Int32)), (.ref la210), (.int (1 : Int32))]) X213 hx Z210_ o210_ (ats_n l Z a0 hw [] la210 lb210 lk210 (fun i => .int ((fun j_ => lit5L.getD j_ 0) i)) (12 : Int32) w_COMPACT_STRINGS w_KNOWN_UNSUPPORTED h210 n0 (Nat.le_trans Z0 (Nat.le_trans gr132 E210.1)) H215 H212 lA210 lFc210 lFv210 lV210 (by decide) (by decide) hcs) (hw _ (List.mem_of_getElem? (i := 13) rfl)) (hw _ (List.mem_of_getElem? (i := 14) rfl)) (hw _ (List.mem_of_getElem? (i := 15) rfl)) (hw _ (List.mem_of_getElem? (i := 16) rfl)) (by decide) e213 S210_ (Nat.le_trans q210_ (Nat.le_refl _)) (own_EW hw) R210_.1 pd_10 rfl rfl (by decide) (Nat.le_of_ble_eq_true rfl) (by decide) (by decide) (by rw [hml]; rfl) rfl (hb hby at_426) ?_
                    intro T214 L214 v214 kS214 X214 S214_ q214_ Z214_ o214_ C214_ hQ214
                    have R214_ := R210_.trans C214_
                    obtain ⟨rfl, N214q, K214⟩ := hQ214
                    have N214 := Fr.app N125 N214q
                    show Go p e below (T214.setTop (mkF m 429 #[.val (.int p1), .val (.int p2), .val (.int p3), .val (.int p4), .val (.int p5), .val (.int (0 : Int32)), .val (.int (1 : Int32)), .val (.int kk), .val (.int pos), .val (.int ch), .val (.int tail), .val (.ref b95), .val (.ref b110), .val (.ref la210), .val (.int (0 : Int32)), .val (.ref w_KNOWN_UNSUPPORTED)] [(.ref w_KNOWN_UNSUPPORTED)])) _
                    refine Gk.aload X214 hx (hb hby at_429) rfl rfl ?_
                    refine Gk.acmp X214 hx (hb hby at_431) rfl rfl true (decide_eq_true rfl) 434 (by decide) (by decide) ?_
                    refine Gk.iconst X214 hx (hb hby at_434) (1 : Int32) rfl ?_
                    refine Gk.goto X214 hx (hb hby at_435) 439 (by decide) (by decide) ?_
                    refine Gk.finW (s := s) X214 rfl S214_ (Nat.le_trans q214_ (Nat.le_refl _)) (v := some (.int (1 : Int32))) (fun h_ => by rw [Bd.returns] at h_; cases h_) Bd.notSynchronized (fun _ hr => retN X214 hx (t := .boolean) Bd.returns (by simp) (hb hby at_439) hr) (fun U' hU hF => ⟨_, _, rfl, ?_, hF.1, hF.2.1, hF.2.2.1, hF.2.2.2.mono (by decide) (by decide)⟩)
                    exact ⟨(congrArg (fun z_ : Int32 => some (Value.int z_)) (show (1 : Int32) = (1 : Int32) from rfl)), N214⟩
  · refine Gk.ifNo X0 hx (hb hby at_3) (feq hc3).1 ?_
    refine Gk.iconst X0 hx (hb hby at_6) (1 : Int32) rfl ?_
    refine Gk.goto X0 hx (hb hby at_7) 11 (by decide) (by decide) ?_
    refine Gk.istore X0 hx (hb hby at_11) #[.val (.int p1), .val (.int p2), .val (.int p3), .val (.int p4), .val (.int p5), .val (.int (1 : Int32)), .unset, .unset, .unset, .unset, .unset, .unset, .unset, .unset, .unset, .unset] rfl ?_
    refine Gk.iloadN X0 hx (hb hby at_13) rfl ?_
    refine Gk.iconst X0 hx (hb hby at_14) (2 : Int32) rfl ?_
    refine Gk.iand X0 hx (hb hby at_15) _ rfl ?_
    by_cases hc16 : (p1 &&& (2 : Int32)) = (0 : Int32)
    · refine Gk.ifYes X0 hx (hb hby at_16) (teq hc16).1 23 (by decide) (by decide) ?_
      refine Gk.iconst X0 hx (hb hby at_23) (0 : Int32) rfl ?_
      refine Gk.istore X0 hx (hb hby at_24) #[.val (.int p1), .val (.int p2), .val (.int p3), .val (.int p4), .val (.int p5), .val (.int (1 : Int32)), .val (.int (0 : Int32)), .unset, .unset, .unset, .unset, .unset, .unset, .unset, .unset, .unset] rfl ?_
      refine Gk.iloadN X0 hx (hb hby at_26) rfl ?_
      refine Gk.bipush X0 hx (hb hby at_27) (7 : Int32) rfl ?_
      refine Gk.iand X0 hx (hb hby at_29) _ rfl ?_
      obtain ⟨kk, ekk⟩ : ∃ z_ : Int32, z_ = (p2 &&& (7 : Int32)) := ⟨_, rfl⟩
      show Go p e below (s₁.setTop (mkF m 30 #[.val (.int p1), .val (.int p2), .val (.int p3), .val (.int p4), .val (.int p5), .val (.int (1 : Int32)), .val (.int (0 : Int32)), .unset, .unset, .unset, .unset, .unset, .unset, .unset, .unset, .unset] [(.int (p2 &&& (7 : Int32)))])) _
      rw [← ekk]
      refine Gk.istore X0 hx (hb hby at_30) #[.val (.int p1), .val (.int p2), .val (.int p3), .val (.int p4), .val (.int p5), .val (.int (1 : Int32)), .val (.int (0 : Int32)), .val (.int kk), .unset, .unset, .unset, .unset, .unset, .unset, .unset, .unset] rfl ?_
      refine Gk.iloadN X0 hx (hb hby at_32) rfl ?_
      refine Gk.ldcI X0 hx hZ hown (hw _ (List.mem_of_getElem? (i := 0) rfl)) (hb hby at_33) ?_
      refine Gk.iand X0 hx (hb hby at_35) _ rfl ?_
      refine Gk.bipush X0 hx (hb hby at_36) (13 : Int32) rfl ?_
      refine Gk.irem X0 hx (hb hby at_38) (by decide) _ rfl ?_
      obtain ⟨pos, epos⟩ : ∃ z_ : Int32, z_ = ((p3 &&& (2147483647 : Int32)) % (13 : Int32)) := ⟨_, rfl⟩
      show Go p e below (s₁.setTop (mkF m 39 #[.val (.int p1), .val (.int p2), .val (.int p3), .val (.int p4), .val (.int p5), .val (.int (1 : Int32)), .val (.int (0 : Int32)), .val (.int kk), .unset, .unset, .unset, .unset, .unset, .unset, .unset, .unset] [(.int ((p3 &&& (2147483647 : Int32)) % (13 : Int32)))])) _
      rw [← epos]
      refine Gk.istore X0 hx (hb hby at_39) #[.val (.int p1), .val (.int p2), .val (.int p3), .val (.int p4), .val (.int p5), .val (.int (1 : Int32)), .val (.int (0 : Int32)), .val (.int kk), .val (.int pos), .unset, .unset, .unset, .unset, .unset, .unset, .unset] rfl ?_
      refine Gk.iloadN X0 hx (hb hby at_41) rfl ?_
      refine Gk.sipush X0 hx (hb hby at_42) (255 : Int32) rfl ?_
      refine Gk.iand X0 hx (hb hby at_45) _ rfl ?_
      refine Gk.i2c X0 hx (hb hby at_46) _ rfl ?_
      obtain ⟨ch, ech⟩ : ∃ z_ : Int32, z_ = ((p4 &&& (255 : Int32)).toUInt32.toUInt16.toUInt32.toInt32) := ⟨_, rfl⟩
      show Go p e below (s₁.setTop (mkF m 47 #[.val (.int p1), .val (.int p2), .val (.int p3), .val (.int p4), .val (.int p5), .val (.int (1 : Int32)), .val (.int (0 : Int32)), .val (.int kk), .val (.int pos), .unset, .unset, .unset, .unset, .unset, .unset, .unset] [(.int ((p4 &&& (255 : Int32)).toUInt32.toUInt16.toUInt32.toInt32))])) _
      rw [← ech]
      refine Gk.istore X0 hx (hb hby at_47) #[.val (.int p1), .val (.int p2), .val (.int p3), .val (.int p4), .val (.int p5), .val (.int (1 : Int32)), .val (.int (0 : Int32)), .val (.int kk), .val (.int pos), .val (.int ch), .unset, .unset, .unset, .unset, .unset, .unset] rfl ?_
      refine Gk.iload X0 hx (hb hby at_49) rfl ?_
      refine Gk.sipush X0 hx (hb hby at_51) (255 : Int32) rfl ?_
      refine Gk.iand X0 hx (hb hby at_54) _ rfl ?_
      refine Gk.i2c X0 hx (hb hby at_55) _ rfl ?_
      obtain ⟨tail, etail⟩ : ∃ z_ : Int32, z_ = ((p5 &&& (255 : Int32)).toUInt32.toUInt16.toUInt32.toInt32) := ⟨_, rfl⟩
      show Go p e below (s₁.setTop (mkF m 56 #[.val (.int p1), .val (.int p2), .val (.int p3), .val (.int p4), .val (.int p5), .val (.int (1 : Int32)), .val (.int (0 : Int32)), .val (.int kk), .val (.int pos), .val (.int ch), .unset, .unset, .unset, .unset, .unset, .unset] [(.int ((p5 &&& (255 : Int32)).toUInt32.toUInt16.toUInt32.toInt32))])) _
      rw [← etail]
      refine Gk.istore X0 hx (hb hby at_56) #[.val (.int p1), .val (.int p2), .val (.int p3), .val (.int p4), .val (.int p5), .val (.int (1 : Int32)), .val (.int (0 : Int32)), .val (.int kk), .val (.int pos), .val (.int ch), .val (.int tail), .unset, .unset, .unset, .unset, .unset] rfl ?_
      refine Gk.bipush X0 hx (hb hby at_58) (13 : Int32) rfl ?_
      refine Gk.newP X0 hx hZ (hw _ (List.mem_of_getElem? (i := 1) rfl)) e0 (hb hby at_60) (by decide) (cap := 13) (by decide) (by decide) (by decide) (by decide) rfl ?_
      intro T217 h217 b217 k217 X217 e217 E217 g217 A217 B217
      have g_b217 : n0 ≤ b217 := Nat.le_trans Z0 (Nat.le_of_eq g217.symm)
      have V_b217 : Arf Z h217 b217 k217 .char (13 : Int32) (fun _ => (.int (0 : Int32))) := A217
      have lt_b217 := V_b217.lt
      refine Gk.dup X217 hx (hb hby at_62) rfl ?_
      refine Gk.iconst X217 hx (hb hby at_63) (0 : Int32) rfl ?_
      refine Gk.bipush X217 hx (hb hby at_64) (78 : Int32) rfl ?_
      refine Gk.castore X217 hx hZ e217 V_b217 0 rfl ⟨by decide, by decide⟩ (.int (78 : Int32)) rfl (hb hby at_66) ?_
      intro T218 h218 X218 e218 W218 V218
      have N218 := Fr.snoc X218 N0 g_b217
      refine Gk.dup X218 hx (hb hby at_67) rfl ?_
      refine Gk.iconst X218 hx (hb hby at_68) (1 : Int32) rfl ?_
      refine Gk.bipush X218 hx (hb hby at_69) (70 : Int32) rfl ?_
      refine Gk.castore X218 hx hZ e218 V218 1 rfl ⟨by decide, by decide⟩ (.int (70 : Int32)) rfl (hb hby at_71) ?_
      intro T219 h219 X219 e219 W219 V219
      have N219 := Fr.snoc X219 N218 g_b217
      refine Gk.dup X219 hx (hb hby at_72) rfl ?_
      refine Gk.iconst X219 hx (hb hby at_73) (2 : Int32) rfl ?_
      refine Gk.bipush X219 hx (hb hby at_74) (83 : Int32) rfl ?_
      refine Gk.castore X219 hx hZ e219 V219 2 rfl ⟨by decide, by decide⟩ (.int (83 : Int32)) rfl (hb hby at_76) ?_
      intro T220 h220 X220 e220 W220 V220
      have N220 := Fr.snoc X220 N219 g_b217
      refine Gk.dup X220 hx (hb hby at_77) rfl ?_
      refine Gk.iconst X220 hx (hb hby at_78) (3 : Int32) rfl ?_
      refine Gk.bipush X220 hx (hb hby at_79) (52 : Int32) rfl ?_
      refine Gk.castore X220 hx hZ e220 V220 3 rfl ⟨by decide, by decide⟩ (.int (52 : Int32)) rfl (hb hby at_81) ?_
      intro T221 h221 X221 e221 W221 V221
      have N221 := Fr.snoc X221 N220 g_b217
      refine Gk.dup X221 hx (hb hby at_82) rfl ?_
      refine Gk.iconst X221 hx (hb hby at_83) (4 : Int32) rfl ?_
      refine Gk.bipush X221 hx (hb hby at_84) (69 : Int32) rfl ?_
      refine Gk.castore X221 hx hZ e221 V221 4 rfl ⟨by decide, by decide⟩ (.int (69 : Int32)) rfl (hb hby at_86) ?_
      intro T222 h222 X222 e222 W222 V222
      have N222 := Fr.snoc X222 N221 g_b217
      refine Gk.dup X222 hx (hb hby at_87) rfl ?_
      refine Gk.iconst X222 hx (hb hby at_88) (5 : Int32) rfl ?_
      refine Gk.bipush X222 hx (hb hby at_89) (82 : Int32) rfl ?_
      refine Gk.castore X222 hx hZ e222 V222 5 rfl ⟨by decide, by decide⟩ (.int (82 : Int32)) rfl (hb hby at_91) ?_
      intro T223 h223 X223 e223 W223 V223
      have N223 := Fr.snoc X223 N222 g_b217
      refine Gk.dup X223 hx (hb hby at_92) rfl ?_
      refine Gk.bipush X223 hx (hb hby at_93) (6 : Int32) rfl ?_
      refine Gk.bipush X223 hx (hb hby at_95) (82 : Int32) rfl ?_
      refine Gk.castore X223 hx hZ e223 V223 6 rfl ⟨by decide, by decide⟩ (.int (82 : Int32)) rfl (hb hby at_97) ?_
      intro T224 h224 X224 e224 W224 V224
      have N224 := Fr.snoc X224 N223 g_b217
      refine Gk.dup X224 hx (hb hby at_98) rfl ?_
      refine Gk.bipush X224 hx (hb hby at_99) (7 : Int32) rfl ?_
      refine Gk.bipush X224 hx (hb hby at_101) (95 : Int32) rfl ?_
      refine Gk.castore X224 hx hZ e224 V224 7 rfl ⟨by decide, by decide⟩ (.int (95 : Int32)) rfl (hb hby at_103) ?_
      intro T225 h225 X225 e225 W225 V225
      have N225 := Fr.snoc X225 N224 g_b217
      refine Gk.dup X225 hx (hb hby at_104) rfl ?_
      refine Gk.bipush X225 hx (hb hby at_105) (8 : Int32) rfl ?_
      refine Gk.bipush X225 hx (hb hby at_107) (73 : Int32) rfl ?_
      refine Gk.castore X225 hx hZ e225 V225 8 rfl ⟨by decide, by decide⟩ (.int (73 : Int32)) rfl (hb hby at_109) ?_
      intro T226 h226 X226 e226 W226 V226
      have N226 := Fr.snoc X226 N225 g_b217
      refine Gk.dup X226 hx (hb hby at_110) rfl ?_
      refine Gk.bipush X226 hx (hb hby at_111) (9 : Int32) rfl ?_
      refine Gk.bipush X226 hx (hb hby at_113) (78 : Int32) rfl ?_
      refine Gk.castore X226 hx hZ e226 V226 9 rfl ⟨by decide, by decide⟩ (.int (78 : Int32)) rfl (hb hby at_115) ?_
      intro T227 h227 X227 e227 W227 V227
      have N227 := Fr.snoc X227 N226 g_b217
      refine Gk.dup X227 hx (hb hby at_116) rfl ?_
      refine Gk.bipush X227 hx (hb hby at_117) (10 : Int32) rfl ?_
      refine Gk.bipush X227 hx (hb hby at_119) (86 : Int32) rfl ?_
      refine Gk.castore X227 hx hZ e227 V227 10 rfl ⟨by decide, by decide⟩ (.int (86 : Int32)) rfl (hb hby at_121) ?_
      intro T228 h228 X228 e228 W228 V228
      have N228 := Fr.snoc X228 N227 g_b217
      refine Gk.dup X228 hx (hb hby at_122) rfl ?_
      refine Gk.bipush X228 hx (hb hby at_123) (11 : Int32) rfl ?_
      refine Gk.bipush X228 hx (hb hby at_125) (65 : Int32) rfl ?_
      refine Gk.castore X228 hx hZ e228 V228 11 rfl ⟨by decide, by decide⟩ (.int (65 : Int32)) rfl (hb hby at_127) ?_
      intro T229 h229 X229 e229 W229 V229
      have N229 := Fr.snoc X229 N228 g_b217
      refine Gk.dup X229 hx (hb hby at_128) rfl ?_
      refine Gk.bipush X229 hx (hb hby at_129) (12 : Int32) rfl ?_
      refine Gk.bipush X229 hx (hb hby at_131) (76 : Int32) rfl ?_
      refine Gk.castore X229 hx hZ e229 V229 12 rfl ⟨by decide, by decide⟩ (.int (76 : Int32)) rfl (hb hby at_133) ?_
      intro T230 h230 X230 e230 W230 V230
      have N230 := Fr.snoc X230 N229 g_b217
      refine Gk.astore X230 hx (hb hby at_134) rfl #[.val (.int p1), .val (.int p2), .val (.int p3), .val (.int p4), .val (.int p5), .val (.int (1 : Int32)), .val (.int (0 : Int32)), .val (.int kk), .val (.int pos), .val (.int ch), .val (.int tail), .val (.ref b217), .unset, .unset, .unset, .unset] rfl ?_
      refine Gk.aload X230 hx (hb hby at_136) rfl rfl ?_
      refine Gk.iload X230 hx (hb hby at_138) rfl ?_
      refine Gk.iload X230 hx (hb hby at_140) rfl ?_
      refine Gk.castore X230 hx hZ e230 V230 pos.toNatClampNeg rfl (own_pos epos) (.int (nar .char ch)) rfl (hb hby at_142) ?_
      intro T231 h231 X231 e231 W231 V231
      have N231 := Fr.snoc X231 N230 g_b217
      refine Gk.bipush X231 hx (hb hby at_143) (14 : Int32) rfl ?_
      have gr233 := (Nat.le_trans (Nat.le_trans (Nat.le_trans (Nat.le_trans (Nat.le_trans (Nat.le_trans (Nat.le_trans (Nat.le_trans (Nat.le_trans (Nat.le_trans (Nat.le_trans (Nat.le_trans (Nat.le_trans (Nat.le_trans E217.1 (Keep.of_wr W218).1) (Keep.of_wr W219).1) (Keep.of_wr W220).1) (Keep.of_wr W221).1) (Keep.of_wr W222).1) (Keep.of_wr W223).1) (Keep.of_wr W224).1) (Keep.of_wr W225).1) (Keep.of_wr W226).1) (Keep.of_wr W227).1) (Keep.of_wr W228).1) (Keep.of_wr W229).1) (Keep.of_wr W230).1) (Keep.of_wr W231).1)
      refine Gk.newP X231 hx hZ (hw _ (List.mem_of_getElem? (i := 1) rfl)) e231 (hb hby at_145) (by decide) (cap := 14) (by decide) (by decide) (by decide) (by decide) rfl ?_
      intro T232 h232 b232 k232 X232 e232 E232 g232 A232 B232
      have g_b232 : n0 ≤ b232 := Nat.le_trans (Nat.le_trans Z0 gr233) (Nat.le_of_eq g232.symm)
      have V_b232 : Arf Z h232 b232 k232 .char (14 : Int32) (fun _ => (.int (0 : Int32))) := A232
      have lt_b232 := V_b232.lt
      refine Gk.dup X232 hx (hb hby at_147) rfl ?_
      refine Gk.iconst X232 hx (hb hby at_148) (0 : Int32) rfl ?_
      refine Gk.bipush X232 hx (hb hby at_149) (78 : Int32) rfl ?_
      refine Gk.castore X232 hx hZ e232 V_b232 0 rfl ⟨by decide, by decide⟩ (.int (78 : Int32)) rfl (hb hby at_151) ?_
      intro T234 h234 X234 e234 W234 V234
      have N234 := Fr.snoc X234 N231 g_b232
      refine Gk.dup X234 hx (hb hby at_152) rfl ?_
      refine Gk.iconst X234 hx (hb hby at_153) (1 : Int32) rfl ?_
      refine Gk.bipush X234 hx (hb hby at_154) (70 : Int32) rfl ?_
      refine Gk.castore X234 hx hZ e234 V234 1 rfl ⟨by decide, by decide⟩ (.int (70 : Int32)) rfl (hb hby at_156) ?_
      intro T235 h235 X235 e235 W235 V235
      have N235 := Fr.snoc X235 N234 g_b232
      refine Gk.dup X235 hx (hb hby at_157) rfl ?_
      refine Gk.iconst X235 hx (hb hby at_158) (2 : Int32) rfl ?_
      refine Gk.bipush X235 hx (hb hby at_159) (83 : Int32) rfl ?_
      refine Gk.castore X235 hx hZ e235 V235 2 rfl ⟨by decide, by decide⟩ (.int (83 : Int32)) rfl (hb hby at_161) ?_
      intro T236 h236 X236 e236 W236 V236
      have N236 := Fr.snoc X236 N235 g_b232
      refine Gk.dup X236 hx (hb hby at_162) rfl ?_
      refine Gk.iconst X236 hx (hb hby at_163) (3 : Int32) rfl ?_
      refine Gk.bipush X236 hx (hb hby at_164) (52 : Int32) rfl ?_
      refine Gk.castore X236 hx hZ e236 V236 3 rfl ⟨by decide, by decide⟩ (.int (52 : Int32)) rfl (hb hby at_166) ?_
      intro T237 h237 X237 e237 W237 V237
      have N237 := Fr.snoc X237 N236 g_b232
      refine Gk.dup X237 hx (hb hby at_167) rfl ?_
      refine Gk.iconst X237 hx (hb hby at_168) (4 : Int32) rfl ?_
      refine Gk.bipush X237 hx (hb hby at_169) (69 : Int32) rfl ?_
      refine Gk.castore X237 hx hZ e237 V237 4 rfl ⟨by decide, by decide⟩ (.int (69 : Int32)) rfl (hb hby at_171) ?_
      intro T238 h238 X238 e238 W238 V238
      have N238 := Fr.snoc X238 N237 g_b232
      refine Gk.dup X238 hx (hb hby at_172) rfl ?_
      refine Gk.iconst X238 hx (hb hby at_173) (5 : Int32) rfl ?_
      refine Gk.bipush X238 hx (hb hby at_174) (82 : Int32) rfl ?_
      refine Gk.castore X238 hx hZ e238 V238 5 rfl ⟨by decide, by decide⟩ (.int (82 : Int32)) rfl (hb hby at_176) ?_
      intro T239 h239 X239 e239 W239 V239
      have N239 := Fr.snoc X239 N238 g_b232
      refine Gk.dup X239 hx (hb hby at_177) rfl ?_
      refine Gk.bipush X239 hx (hb hby at_178) (6 : Int32) rfl ?_
      refine Gk.bipush X239 hx (hb hby at_180) (82 : Int32) rfl ?_
      refine Gk.castore X239 hx hZ e239 V239 6 rfl ⟨by decide, by decide⟩ (.int (82 : Int32)) rfl (hb hby at_182) ?_
      intro T240 h240 X240 e240 W240 V240
      have N240 := Fr.snoc X240 N239 g_b232
      refine Gk.dup X240 hx (hb hby at_183) rfl ?_
      refine Gk.bipush X240 hx (hb hby at_184) (7 : Int32) rfl ?_
      refine Gk.bipush X240 hx (hb hby at_186) (95 : Int32) rfl ?_
      refine Gk.castore X240 hx hZ e240 V240 7 rfl ⟨by decide, by decide⟩ (.int (95 : Int32)) rfl (hb hby at_188) ?_
      intro T241 h241 X241 e241 W241 V241
      have N241 := Fr.snoc X241 N240 g_b232
      refine Gk.dup X241 hx (hb hby at_189) rfl ?_
      refine Gk.bipush X241 hx (hb hby at_190) (8 : Int32) rfl ?_
      refine Gk.bipush X241 hx (hb hby at_192) (73 : Int32) rfl ?_
      refine Gk.castore X241 hx hZ e241 V241 8 rfl ⟨by decide, by decide⟩ (.int (73 : Int32)) rfl (hb hby at_194) ?_
      intro T242 h242 X242 e242 W242 V242
      have N242 := Fr.snoc X242 N241 g_b232
      refine Gk.dup X242 hx (hb hby at_195) rfl ?_
      refine Gk.bipush X242 hx (hb hby at_196) (9 : Int32) rfl ?_
      refine Gk.bipush X242 hx (hb hby at_198) (78 : Int32) rfl ?_
      refine Gk.castore X242 hx hZ e242 V242 9 rfl ⟨by decide, by decide⟩ (.int (78 : Int32)) rfl (hb hby at_200) ?_
      intro T243 h243 X243 e243 W243 V243
      have N243 := Fr.snoc X243 N242 g_b232
      refine Gk.dup X243 hx (hb hby at_201) rfl ?_
      refine Gk.bipush X243 hx (hb hby at_202) (10 : Int32) rfl ?_
      refine Gk.bipush X243 hx (hb hby at_204) (86 : Int32) rfl ?_
      refine Gk.castore X243 hx hZ e243 V243 10 rfl ⟨by decide, by decide⟩ (.int (86 : Int32)) rfl (hb hby at_206) ?_
      intro T244 h244 X244 e244 W244 V244
      have N244 := Fr.snoc X244 N243 g_b232
      refine Gk.dup X244 hx (hb hby at_207) rfl ?_
      refine Gk.bipush X244 hx (hb hby at_208) (11 : Int32) rfl ?_
      refine Gk.bipush X244 hx (hb hby at_210) (65 : Int32) rfl ?_
      refine Gk.castore X244 hx hZ e244 V244 11 rfl ⟨by decide, by decide⟩ (.int (65 : Int32)) rfl (hb hby at_212) ?_
      intro T245 h245 X245 e245 W245 V245
      have N245 := Fr.snoc X245 N244 g_b232
      refine Gk.dup X245 hx (hb hby at_213) rfl ?_
      refine Gk.bipush X245 hx (hb hby at_214) (12 : Int32) rfl ?_
      refine Gk.bipush X245 hx (hb hby at_216) (76 : Int32) rfl ?_
      refine Gk.castore X245 hx hZ e245 V245 12 rfl ⟨by decide, by decide⟩ (.int (76 : Int32)) rfl (hb hby at_218) ?_
      intro T246 h246 X246 e246 W246 V246
      have N246 := Fr.snoc X246 N245 g_b232
      refine Gk.dup X246 hx (hb hby at_219) rfl ?_
      refine Gk.bipush X246 hx (hb hby at_220) (13 : Int32) rfl ?_
      refine Gk.iload X246 hx (hb hby at_222) rfl ?_
      refine Gk.castore X246 hx hZ e246 V246 13 rfl ⟨by decide, by decide⟩ (.int (nar .char tail)) rfl (hb hby at_224) ?_
      intro T247 h247 X247 e247 W247 V247
      have N247 := Fr.snoc X247 N246 g_b232
      refine Gk.astore X247 hx (hb hby at_225) rfl #[.val (.int p1), .val (.int p2), .val (.int p3), .val (.int p4), .val (.int p5), .val (.int (1 : Int32)), .val (.int (0 : Int32)), .val (.int kk), .val (.int pos), .val (.int ch), .val (.int tail), .val (.ref b217), .val (.ref b232), .unset, .unset, .unset] rfl ?_
      have H248 := ((((((((((((((((((((((((((((((S_SUPPORTED.ext E217).wr W218).wr W219).wr W220).wr W221).wr W222).wr W223).wr W224).wr W225).wr W226).wr W227).wr W228).wr W229).wr W230).wr W231).ext E232).wr W234).wr W235).wr W236).wr W237).wr W238).wr W239).wr W240).wr W241).wr W242).wr W243).wr W244).wr W245).wr W246).wr W247)
      have H249 := ((((((((((((((((((((((((((((((S_UNDETERMINED.ext E217).wr W218).wr W219).wr W220).wr W221).wr W222).wr W223).wr W224).wr W225).wr W226).wr W227).wr W228).wr W229).wr W230).wr W231).ext E232).wr W234).wr W235).wr W236).wr W237).wr W238).wr W239).wr W240).wr W241).wr W242).wr W243).wr W244).wr W245).wr W246).wr W247)
      have H250 := ((((((((((((((((((((((((((((((S_UNKNOWN.ext E217).wr W218).wr W219).wr W220).wr W221).wr W222).wr W223).wr W224).wr W225).wr W226).wr W227).wr W228).wr W229).wr W230).wr W231).ext E232).wr W234).wr W235).wr W236).wr W237).wr W238).wr W239).wr W240).wr W241).wr W242).wr W243).wr W244).wr W245).wr W246).wr W247)
      have H251 := ((((((((((((((((((((((((((((((S_KNOWN_UNSUPPORTED.ext E217).wr W218).wr W219).wr W220).wr W221).wr W222).wr W223).wr W224).wr W225).wr W226).wr W227).wr W228).wr W229).wr W230).wr W231).ext E232).wr W234).wr W235).wr W236).wr W237).wr W238).wr W239).wr W240).wr W241).wr W242).wr W243).wr W244).wr W245).wr W246).wr W247)
      have H252 := ((((((((((((((((((((((((((((((S_COMPACT_STRINGS.ext E217).wr W218).wr W219).wr W220).wr W221).wr W222).wr W223).wr W224).wr W225).wr W226).wr W227).wr W228).wr W229).wr W230).wr W231).ext E232).wr W234).wr W235).wr W236).wr W237).wr W238).wr W239).wr W240).wr W241).wr W242).wr W243).wr W244).wr W245).wr W246).wr W247)
      have H253 := ((((((((((((((((((((((((((((((S_SIOOBE_FORMATTER.ext E217).wr W218).wr W219).wr W220).wr W221).wr W222).wr W223).wr W224).wr W225).wr W226).wr W227).wr W228).wr W229).wr W230).wr W231).ext E232).wr W234).wr W235).wr W236).wr W237).wr W238).wr W239).wr W240).wr W241).wr W242).wr W243).wr W244).wr W245).wr W246).wr W247)
      have gr254 := (Nat.le_trans (Nat.le_trans (Nat.le_trans (Nat.le_trans (Nat.le_trans (Nat.le_trans (Nat.le_trans (Nat.le_trans (Nat.le_trans (Nat.le_trans (Nat.le_trans (Nat.le_trans (Nat.le_trans (Nat.le_trans (Nat.le_trans gr233 E232.1) (Keep.of_wr W234).1) (Keep.of_wr W235).1) (Keep.of_wr W236).1) (Keep.of_wr W237).1) (Keep.of_wr W238).1) (Keep.of_wr W239).1) (Keep.of_wr W240).1) (Keep.of_wr W241).1) (Keep.of_wr W242).1) (Keep.of_wr W243).1) (Keep.of_wr W244).1) (Keep.of_wr W245).1) (Keep.of_wr W246).1) (Keep.of_wr W247).1)
      refine Gk.iload X247 hx (hb hby at_227) rfl ?_
      by_cases hc229 : kk = (0 : Int32)
      · refine Gk.ifNo X247 hx (hb hby at_229) (teq hc229).2 ?_
        have R256_ := own_chrOld (h' := h247) hCH (by rw [← hh]; exact fun b_ cl_ q_ => e247 ▸ oldF X247 (by rw [hh, ← hn0]; exact N247) b_ cl_ q_)
        refine Gk.ldcH (s := s) (show Stand p l e room_1 (s.setVm s.vm) m _ below meth c _ _ _ _ from X247) hx hZ hown (hw _ (List.mem_of_getElem? (i := 47) rfl)) (own_wS hw) e247 ((State.WarmedH.refl s).since 0) (Nat.zero_le _) (own_EW hw) (List.mem_of_getElem? (i := 1) rfl) R256_.1 lit0T (hb hby at_232) (n := 52) (by decide) (by decide) (by decide) (by decide) ?_
        intro la255 T255 h255 kS255 lb255 lk255 X255 e255 E255 S255_ q255_ Z255_ o255_ lA255 lFc255 lFv255 lV255 llt255 lltb255 C255_ Lt255_ d255_
        have R255_ := R256_.trans C255_
        refine Gk.astore X255 hx (hb hby at_234) rfl #[.val (.int p1), .val (.int p2), .val (.int p3), .val (.int p4), .val (.int p5), .val (.int (1 : Int32)), .val (.int (0 : Int32)), .val (.int kk), .val (.int pos), .val (.int ch), .val (.int tail), .val (.ref b217), .val (.ref b232), .val (.ref la255), .unset, .unset] rfl ?_
        refine Gk.iconst X255 hx (hb hby at_236) (1 : Int32) rfl ?_
        refine Gk.istore X255 hx (hb hby at_237) #[.val (.int p1), .val (.int p2), .val (.int p3), .val (.int p4), .val (.int p5), .val (.int (1 : Int32)), .val (.int (0 : Int32)), .val (.int kk), .val (.int pos), .val (.int ch), .val (.int tail), .val (.ref b217), .val (.ref b232), .val (.ref la255), .val (.int (1 : Int32)), .unset] rfl ?_
        refine Gk.goto X255 hx (hb hby at_239) 376 (by decide) (by decide) ?_
        refine Gk.iload X255 hx (hb hby at_376) rfl ?_
        refine Gk.ifNo X255 hx (hb hby at_378) (feq (by decide : ¬ ((1 : Int32) = (0 : Int32)))).1 ?_
        have H257 := (H248.ext E255)
        refine Gk.getS X255 hx Z255_ o255_ (host := "") (Or.inl (hw _ (List.mem_of_getElem? (i := 19) rfl))) Via.refl e255 H257.sta (hb hby at_381) ?_
        intro T258 X258 e258
        refine Gk.astore X258 hx (hb hby at_384) rfl #[.val (.int p1), .val (.int p2), .val (.int p3), .val (.int p4), .val (.int p5), .val (.int (1 : Int32)), .val (.int (0 : Int32)), .val (.int kk), .val (.int pos), .val (.int ch), .val (.int tail), .val (.ref b217), .val (.ref b232), .val (.ref la255), .val (.int (1 : Int32)), .val (.ref w_SUPPORTED)] rfl ?_
        refine Gk.goto X258 hx (hb hby at_386) 420 (by decide) (by decide) ?_
        refine Gk.iload X258 hx (hb hby at_420) rfl ?_
        refine Gk.aload X258 hx (hb hby at_422) rfl rfl ?_
        refine Gk.iload X258 hx (hb hby at_424) rfl ?_
        refine Gk.callS (argsL := [(.int (1 : Int32)), (.ref la255), (.int (0 : Int32))]) X258 hx Z255_ o255_ (ats_1 l Z a0 hw [] la255 (0 : Int32) w_SUPPORTED h255 n0 (Nat.le_trans Z0 (Nat.le_trans gr254 E255.1)) H257) (hw _ (List.mem_of_getElem? (i := 13) rfl)) (hw _ (List.mem_of_getElem? (i := 14) rfl)) (hw _ (List.mem_of_getElem? (i := 15) rfl)) (hw _ (List.mem_of_getElem? (i := 16) rfl)) (by decide) e258 pd_10 rfl rfl (by decide) (Nat.le_of_ble_eq_true rfl) (by decide) (by decide) (by rw [hml]; rfl)  rfl (hb hby at_426) ?_
        intro T259 L259 v259 X259 hQ259
        obtain ⟨rfl, N259q, e259⟩ := hQ259
        have N259 := Fr.app N247 N259q
        show Go p e below (T259.setTop (mkF m 429 #[.val (.int p1), .val (.int p2), .val (.int p3), .val (.int p4), .val (.int p5), .val (.int (1 : Int32)), .val (.int (0 : Int32)), .val (.int kk), .val (.int pos), .val (.int ch), .val (.int tail), .val (.ref b217), .val (.ref b232), .val (.ref la255), .val (.int (1 : Int32)), .val (.ref w_SUPPORTED)] [(.ref w_SUPPORTED)])) _
        refine Gk.aload X259 hx (hb hby at_429) rfl rfl ?_
        refine Gk.acmp X259 hx (hb hby at_431) rfl rfl true (decide_eq_true rfl) 434 (by decide) (by decide) ?_
        refine Gk.iconst X259 hx (hb hby at_434) (1 : Int32) rfl ?_
        refine Gk.goto X259 hx (hb hby at_435) 439 (by decide) (by decide) ?_
        refine Gk.finW (s := s) X259 e259 S255_ (Nat.le_trans q255_ (Nat.le_refl _)) (v := some (.int (1 : Int32))) (fun h_ => by rw [Bd.returns] at h_; cases h_) Bd.notSynchronized (fun _ hr => retN X259 hx (t := .boolean) Bd.returns (by simp) (hb hby at_439) hr) (fun U' hU hF => ⟨_, _, rfl, ?_, hF.1, hF.2.1, hF.2.2.1, hF.2.2.2.mono (by decide) (by decide)⟩)
        exact ⟨(congrArg (fun z_ : Int32 => some (Value.int z_)) (show (1 : Int32) = (1 : Int32) from rfl)), N259⟩
      · refine Gk.ifYes X247 hx (hb hby at_229) (feq hc229).2 242 (by decide) (by decide) ?_
        refine Gk.iload X247 hx (hb hby at_242) rfl ?_
        refine Gk.iconst X247 hx (hb hby at_244) (1 : Int32) rfl ?_
        by_cases hc245 : kk = (1 : Int32)
        · refine Gk.icmpNo X247 hx (hb hby at_245) (teq hc245).2 ?_
          refine Gk.newO X247 hx hZ hown (hw _ (List.mem_of_getElem? (i := 22) rfl)) (hw _ (List.mem_of_getElem? (i := 4) rfl)) (hw _ (List.mem_of_getElem? (i := 3) rfl)) e247 (hb hby at_248) (by decide) (by decide) ?_
          intro T260 h260 b260 X260 e260 E260 g260 A260 D260
          have g_b260 : n0 ≤ b260 := Nat.le_trans (Nat.le_trans Z0 gr254) (Nat.le_of_eq g260.symm)
          have lt_b260 := A260.lt
          have F_value_b260 : Fld Z h260 b260 "java/lang/String" "value" "[B" .null := D260 (Or.inr (hw _ (List.mem_of_getElem? (i := 6) rfl))) (ty := (.array .byte)) (by decide)
          have F_coder_b260 : Fld Z h260 b260 "java/lang/String" "coder" "B" (.int (0 : Int32)) := D260 (Or.inr (hw _ (List.mem_of_getElem? (i := 7) rfl))) (ty := .byte) (by decide)
          refine Gk.dup X260 hx (hb hby at_251) rfl ?_
          refine Gk.aload X260 hx (hb hby at_252) rfl rfl ?_
          have gr262 := (Nat.le_trans (Nat.le_trans (Nat.le_trans (Nat.le_trans (Nat.le_trans (Nat.le_trans (Nat.le_trans (Nat.le_trans (Nat.le_trans (Nat.le_trans (Nat.le_trans (Nat.le_trans (Nat.le_trans (Keep.of_wr W218).1 (Keep.of_wr W219).1) (Keep.of_wr W220).1) (Keep.of_wr W221).1) (Keep.of_wr W222).1) (Keep.of_wr W223).1) (Keep.of_wr W224).1) (Keep.of_wr W225).1) (Keep.of_wr W226).1) (Keep.of_wr W227).1) (Keep.of_wr W228).1) (Keep.of_wr W229).1) (Keep.of_wr W230).1) (Keep.of_wr W231).1)
          have ne263 : b217 ≠ b232 := (Nat.ne_of_lt (Nat.lt_of_lt_of_le lt_b217 (Nat.le_trans gr262 (Nat.le_of_eq g232.symm))))
          have H264 := ((((((((((((((((V231.ext E232).other W234 ne263).other W235 ne263).other W236 ne263).other W237 ne263).other W238 ne263).other W239 ne263).other W240 ne263).other W241 ne263).other W242 ne263).other W243 ne263).other W244 ne263).other W245 ne263).other W246 ne263).other W247 ne263).ext E260)
          have H265 := (H252.ext E260)
          refine Gk.callI (argsL := [(.ref b217)]) X260 hx hZ hown (str_13 l Z a0 hw [] b260 b217 k217 (upd (upd (upd (upd (upd (upd (upd (upd (upd (upd (upd (upd (upd (upd (fun _ => (.int (0 : Int32))) 0 (.int (78 : Int32))) 1 (.int (70 : Int32))) 2 (.int (83 : Int32))) 3 (.int (52 : Int32))) 4 (.int (69 : Int32))) 5 (.int (82 : Int32))) 6 (.int (82 : Int32))) 7 (.int (95 : Int32))) 8 (.int (73 : Int32))) 9 (.int (78 : Int32))) 10 (.int (86 : Int32))) 11 (.int (65 : Int32))) 12 (.int (76 : Int32))) pos.toNatClampNeg (.int (nar .char ch))) (if 0 = pos.toNatClampNeg then (nar .char ch) else (78 : Int32)) (if 1 = pos.toNatClampNeg then (nar .char ch) else (70 : Int32)) (if 2 = pos.toNatClampNeg then (nar .char ch) else (83 : Int32)) (if 3 = pos.toNatClampNeg then (nar .char ch) else (52 : Int32)) (if 4 = pos.toNatClampNeg then (nar .char ch) else (69 : Int32)) (if 5 = pos.toNatClampNeg then (nar .char ch) else (82 : Int32)) (if 6 = pos.toNatClampNeg then (nar .char ch) else (82 : Int32)) (if 7 = pos.toNatClampNeg then (nar .char ch) else (95 : Int32)) (if 8 = pos.toNatClampNeg then (nar .char ch) else (73 : Int32)) (if 9 = pos.toNatClampNeg then (nar .char ch) else (78 : Int32)) (if 10 = pos.toNatClampNeg then (nar .char ch) else (86 : Int32)) (if 11 = pos.toNatClampNeg then (nar .char ch) else (65 : Int32)) (if 12 = pos.toNatClampNeg then (nar .char ch) else (76 : Int32)) (.int (0 : Int32)) .null w_COMPACT_STRINGS h260 n0 (Nat.le_trans Z0 (Nat.le_trans gr254 E260.1)) H265 A260 H264 (own_updP rfl) (own_updP rfl) (own_updP rfl) (own_updP rfl) (own_updP rfl) (own_updP rfl) (own_updP rfl) (own_updP rfl) (own_updP rfl) (own_updP rfl) (own_updP rfl) (own_updP rfl) (own_updP rfl) (own_ite (own_ch ech) (by decide)) (own_ite (own_ch ech) (by decide)) (own_ite (own_ch ech) (by decide)) (own_ite (own_ch ech) (by decide)) (own_ite (own_ch ech) (by decide)) (own_ite (own_ch ech) (by decide)) (own_ite (own_ch ech) (by decide)) (own_ite (own_ch ech) (by decide)) (own_ite (own_ch ech) (by decide)) (own_ite (own_ch ech) (by decide)) (own_ite (own_ch ech) (by decide)) (own_ite (own_ch ech) (by decide)) (own_ite (own_ch ech) (by decide)) hcs F_coder_b260 g_b260 F_value_b260) rfl (hw _ (List.mem_of_getElem? (i := 23) rfl)) (hw _ (List.mem_of_getElem? (i := 24) rfl)) (hw _ (List.mem_of_getElem? (i := 25) rfl)) rfl (by decide) (hw _ (List.mem_of_getElem? (i := 3) rfl)) e260 pd_11 rfl rfl (by decide) (Nat.le_of_ble_eq_true rfl) (by decide) (by decide) (by rw [hml]; rfl)  rfl (hb hby at_254) ?_
          intro T261 L261 v261 X261 hQ261
          obtain ⟨rfl, N261q, K261, Fc261, y261, k261_, le261, Fv261, V261⟩ := hQ261
          have N261 := Fr.app N247 N261q
          show Go p e below (T261.setTop (mkF m 257 #[.val (.int p1), .val (.int p2), .val (.int p3), .val (.int p4), .val (.int p5), .val (.int (1 : Int32)), .val (.int (0 : Int32)), .val (.int kk), .val (.int pos), .val (.int ch), .val (.int tail), .val (.ref b217), .val (.ref b232), .unset, .unset, .unset] [(.ref b260)])) _
          refine Gk.astore X261 hx (hb hby at_257) rfl #[.val (.int p1), .val (.int p2), .val (.int p3), .val (.int p4), .val (.int p5), .val (.int (1 : Int32)), .val (.int (0 : Int32)), .val (.int kk), .val (.int pos), .val (.int ch), .val (.int tail), .val (.ref b217), .val (.ref b232), .val (.ref b260), .unset, .unset] rfl ?_
          refine Gk.iload X261 hx (hb hby at_259) rfl ?_
          have R267_ := own_chrOld (h' := T261.heap) hCH (by rw [← hh]; exact fun b_ cl_ q_ => oldF X261 (by rw [hh, ← hn0]; exact N261) b_ cl_ q_)
          refine Gk.ldcH (s := s) (show Stand p l e room_1 (s.setVm s.vm) m _ below meth c _ _ _ _ from X261) hx hZ hown (hw _ (List.mem_of_getElem? (i := 47) rfl)) (own_wS hw) rfl ((State.WarmedH.refl s).since 0) (Nat.zero_le _) (own_EW hw) (List.mem_of_getElem? (i := 1) rfl) R267_.1 lit0T (hb hby at_261) (n := 52) (by decide) (by decide) (by decide) (by decide) ?_
          have gr268 := (Nat.le_trans (Nat.le_trans gr254 E260.1) K261.1)
          intro la266 T266 h266 kS266 lb266 lk266 X266 e266 E266 S266_ q266_ Z266_ o266_ lA266 lFc266 lFv266 lV266 llt266 lltb266 C266_ Lt266_ d266_
          have R266_ := R267_.trans C266_
          refine Gk.iload X266 hx (hb hby at_263) rfl ?_
          have H270 := ((H265.keep K261 (allS g_b260 all0)).ext E266)
          have H271 := (((H253.ext E260).keep K261 (allS g_b260 all0)).ext E266)
          refine Gk.callV (argsL := [(.int pos)]) X266 hx Z266_ o266_ (rm8 l Z a0 hw [] la266 pos lb266 lk266 (fun i => .int ((fun j_ => lit0L.getD j_ 0) i)) (13 : Int32) (lit0L.getD pos.toNatClampNeg 0) w_COMPACT_STRINGS w_SIOOBE_FORMATTER h266 n0 (Nat.le_trans Z0 (Nat.le_trans gr268 E266.1)) H270 H271 lA266 lFc266 lFv266 lV266 (own_pos epos).1 (own_pos epos).2 rfl hcs hsf) (hw _ (List.mem_of_getElem? (i := 48) rfl)) (hw _ (List.mem_of_getElem? (i := 49) rfl)) (notFace_of_selects (args := #[]) (mvT Z266_ (hw _ (List.mem_of_getElem? (i := 51) rfl)))) (hw _ (List.mem_of_getElem? (i := 51) rfl)) (hw _ (List.mem_of_getElem? (i := 50) rfl)) (by decide) (hw _ (List.mem_of_getElem? (i := 52) rfl)) (hw _ (List.mem_of_getElem? (i := 3) rfl)) e266 lA266 pd_12 rfl rfl (by decide) (Nat.le_of_ble_eq_true rfl) (by decide) (by decide) (by rw [hml]; rfl)  rfl (hb hby at_265) ?_
          intro T269 L269 v269 X269 hQ269
          obtain ⟨rfl, N269q, e269⟩ := hQ269
          have N269 := Fr.app N261 N269q
          show Go p e below (T269.setTop (mkF m 268 #[.val (.int p1), .val (.int p2), .val (.int p3), .val (.int p4), .val (.int p5), .val (.int (1 : Int32)), .val (.int (0 : Int32)), .val (.int kk), .val (.int pos), .val (.int ch), .val (.int tail), .val (.ref b217), .val (.ref b232), .val (.ref b260), .unset, .unset] [(.int (nar .char (nar .char (((lit0L.getD pos.toNatClampNeg 0) &&& (255 : Int32)).toUInt32.toUInt16.toUInt32.toInt32)))), (.int ch)])) _
          by_cases hc268 : ch = (nar .char (nar .char (((lit0L.getD pos.toNatClampNeg 0) &&& (255 : Int32)).toUInt32.toUInt16.toUInt32.toInt32)))
          · refine Gk.icmpNo X269 hx (hb hby at_268) (teq hc268).2 ?_
            refine Gk.iconst X269 hx (hb hby at_271) (1 : Int32) rfl ?_
            refine Gk.goto X269 hx (hb hby at_272) 276 (by decide) (by decide) ?_
            refine Gk.istore X269 hx (hb hby at_276) #[.val (.int p1), .val (.int p2), .val (.int p3), .val (.int p4), .val (.int p5), .val (.int (1 : Int32)), .val (.int (0 : Int32)), .val (.int kk), .val (.int pos), .val (.int ch), .val (.int tail), .val (.ref b217), .val (.ref b232), .val (.ref b260), .val (.int (1 : Int32)), .unset] rfl ?_
            refine Gk.goto X269 hx (hb hby at_278) 376 (by decide) (by decide) ?_
            refine Gk.iload X269 hx (hb hby at_376) rfl ?_
            refine Gk.ifNo X269 hx (hb hby at_378) (feq (by decide : ¬ ((1 : Int32) = (0 : Int32)))).1 ?_
            have H272 := (((H248.ext E260).keep K261 (allS g_b260 all0)).ext E266)
            refine Gk.getS X269 hx Z266_ o266_ (host := "") (Or.inl (hw _ (List.mem_of_getElem? (i := 19) rfl))) Via.refl e269 H272.sta (hb hby at_381) ?_
            intro T273 X273 e273
            refine Gk.astore X273 hx (hb hby at_384) rfl #[.val (.int p1), .val (.int p2), .val (.int p3), .val (.int p4), .val (.int p5), .val (.int (1 : Int32)), .val (.int (0 : Int32)), .val (.int kk), .val (.int pos), .val (.int ch), .val (.int tail), .val (.ref b217), .val (.ref b232), .val (.ref b260), .val (.int (1 : Int32)), .val (.ref w_SUPPORTED)] rfl ?_
            refine Gk.goto X273 hx (hb hby at_386) 420 (by decide) (by decide) ?_
            refine Gk.iload X273 hx (hb hby at_420) rfl ?_
            refine Gk.aload X273 hx (hb hby at_422) rfl rfl ?_
            refine Gk.iload X273 hx (hb hby at_424) rfl ?_
            refine Gk.callS (argsL := [(.int (1 : Int32)), (.ref b260), (.int (0 : Int32))]) X273 hx Z266_ o266_ (ats_1 l Z a0 hw [] b260 (0 : Int32) w_SUPPORTED h266 n0 (Nat.le_trans Z0 (Nat.le_trans gr268 E266.1)) H272) (hw _ (List.mem_of_getElem? (i := 13) rfl)) (hw _ (List.mem_of_getElem? (i := 14) rfl)) (hw _ (List.mem_of_getElem? (i := 15) rfl)) (hw _ (List.mem_of_getElem? (i := 16) rfl)) (by decide) e273 pd_10 rfl rfl (by decide) (Nat.le_of_ble_eq_true rfl) (by decide) (by decide) (by rw [hml]; rfl)  rfl (hb hby at_426) ?_
            intro T274 L274 v274 X274 hQ274
            obtain ⟨rfl, N274q, e274⟩ := hQ274
            have N274 := Fr.app N269 N274q
            show Go p e below (T274.setTop (mkF m 429 #[.val (.int p1), .val (.int p2), .val (.int p3), .val (.int p4), .val (.int p5), .val (.int (1 : Int32)), .val (.int (0 : Int32)), .val (.int kk), .val (.int pos), .val (.int ch), .val (.int tail), .val (.ref b217), .val (.ref b232), .val (.ref b260), .val (.int (1 : Int32)), .val (.ref w_SUPPORTED)] [(.ref w_SUPPORTED)])) _
            refine Gk.aload X274 hx (hb hby at_429) rfl rfl ?_
            refine Gk.acmp X274 hx (hb hby at_431) rfl rfl true (decide_eq_true rfl) 434 (by decide) (by decide) ?_
            refine Gk.iconst X274 hx (hb hby at_434) (1 : Int32) rfl ?_
            refine Gk.goto X274 hx (hb hby at_435) 439 (by decide) (by decide) ?_
            refine Gk.finW (s := s) X274 e274 S266_ (Nat.le_trans q266_ (Nat.le_refl _)) (v := some (.int (1 : Int32))) (fun h_ => by rw [Bd.returns] at h_; cases h_) Bd.notSynchronized (fun _ hr => retN X274 hx (t := .boolean) Bd.returns (by simp) (hb hby at_439) hr) (fun U' hU hF => ⟨_, _, rfl, ?_, hF.1, hF.2.1, hF.2.2.1, hF.2.2.2.mono (by decide) (by decide)⟩)
            exact ⟨(congrArg (fun z_ : Int32 => some (Value.int z_)) (show (1 : Int32) = (1 : Int32) from rfl)), N274⟩
          · refine Gk.icmpYes X269 hx (hb hby at_268) (feq hc268).2 275 (by decide) (by decide) ?_
            refine Gk.iconst X269 hx (hb hby at_275) (0 : Int32) rfl ?_
            refine Gk.istore X269 hx (hb hby at_276) #[.val (.int p1), .val (.int p2), .val (.int p3), .val (.int p4), .val (.int p5), .val (.int (1 : Int32)), .val (.int (0 : Int32)), .val (.int kk), .val (.int pos), .val (.int ch), .val (.int tail), .val (.ref b217), .val (.ref b232), .val (.ref b260), .val (.int (0 : Int32)), .unset] rfl ?_
            refine Gk.goto X269 hx (hb hby at_278) 376 (by decide) (by decide) ?_
            refine Gk.iload X269 hx (hb hby at_376) rfl ?_
            refine Gk.ifNo X269 hx (hb hby at_378) (feq (by decide : ¬ ((1 : Int32) = (0 : Int32)))).1 ?_
            have H275 := (((H248.ext E260).keep K261 (allS g_b260 all0)).ext E266)
            refine Gk.getS X269 hx Z266_ o266_ (host := "") (Or.inl (hw _ (List.mem_of_getElem? (i := 19) rfl))) Via.refl e269 H275.sta (hb hby at_381) ?_
            intro T276 X276 e276
            refine Gk.astore X276 hx (hb hby at_384) rfl #[.val (.int p1), .val (.int p2), .val (.int p3), .val (.int p4), .val (.int p5), .val (.int (1 : Int32)), .val (.int (0 : Int32)), .val (.int kk), .val (.int pos), .val (.int ch), .val (.int tail), .val (.ref b217), .val (.ref b232), .val (.ref b260), .val (.int (0 : Int32)), .val (.ref w_SUPPORTED)] rfl ?_
            refine Gk.goto X276 hx (hb hby at_386) 420 (by decide) (by decide) ?_
            refine Gk.iload X276 hx (hb hby at_420) rfl ?_
            refine Gk.aload X276 hx (hb hby at_422) rfl rfl ?_
            refine Gk.iload X276 hx (hb hby at_424) rfl ?_
            refine Gk.callS (argsL := [(.int (1 : Int32)), (.ref b260), (.int (0 : Int32))]) X276 hx Z266_ o266_ (ats_1 l Z a0 hw [] b260 (0 : Int32) w_SUPPORTED h266 n0 (Nat.le_trans Z0 (Nat.le_trans gr268 E266.1)) H275) (hw _ (List.mem_of_getElem? (i := 13) rfl)) (hw _ (List.mem_of_getElem? (i := 14) rfl)) (hw _ (List.mem_of_getElem? (i := 15) rfl)) (hw _ (List.mem_of_getElem? (i := 16) rfl)) (by decide) e276 pd_10 rfl rfl (by decide) (Nat.le_of_ble_eq_true rfl) (by decide) (by decide) (by rw [hml]; rfl)  rfl (hb hby at_426) ?_
            intro T277 L277 v277 X277 hQ277
            obtain ⟨rfl, N277q, e277⟩ := hQ277
            have N277 := Fr.app N269 N277q
            show Go p e below (T277.setTop (mkF m 429 #[.val (.int p1), .val (.int p2), .val (.int p3), .val (.int p4), .val (.int p5), .val (.int (1 : Int32)), .val (.int (0 : Int32)), .val (.int kk), .val (.int pos), .val (.int ch), .val (.int tail), .val (.ref b217), .val (.ref b232), .val (.ref b260), .val (.int (0 : Int32)), .val (.ref w_SUPPORTED)] [(.ref w_SUPPORTED)])) _
            refine Gk.aload X277 hx (hb hby at_429) rfl rfl ?_
            refine Gk.acmp X277 hx (hb hby at_431) rfl rfl true (decide_eq_true rfl) 434 (by decide) (by decide) ?_
            refine Gk.iconst X277 hx (hb hby at_434) (1 : Int32) rfl ?_
            refine Gk.goto X277 hx (hb hby at_435) 439 (by decide) (by decide) ?_
            refine Gk.finW (s := s) X277 e277 S266_ (Nat.le_trans q266_ (Nat.le_refl _)) (v := some (.int (1 : Int32))) (fun h_ => by rw [Bd.returns] at h_; cases h_) Bd.notSynchronized (fun _ hr => retN X277 hx (t := .boolean) Bd.returns (by simp) (hb hby at_439) hr) (fun U' hU hF => ⟨_, _, rfl, ?_, hF.1, hF.2.1, hF.2.2.1, hF.2.2.2.mono (by decide) (by decide)⟩)
            exact ⟨(congrArg (fun z_ : Int32 => some (Value.int z_)) (show (1 : Int32) = (1 : Int32) from rfl)), N277⟩
        · refine Gk.icmpYes X247 hx (hb hby at_245) (feq hc245).2 281 (by decide) (by decide) ?_
          refine Gk.iload X247 hx (hb hby at_281) rfl ?_
          refine Gk.iconst X247 hx (hb hby at_283) (2 : Int32) rfl ?_
          by_cases hc284 : kk = (2 : Int32)
          · refine Gk.icmpNo X247 hx (hb hby at_284) (teq hc284).2 ?_
            refine Gk.newO X247 hx hZ hown (hw _ (List.mem_of_getElem? (i := 22) rfl)) (hw _ (List.mem_of_getElem? (i := 4) rfl)) (hw _ (List.mem_of_getElem? (i := 3) rfl)) e247 (hb hby at_287) (by decide) (by decide) ?_
            intro T278 h278 b278 X278 e278 E278 g278 A278 D278
            have g_b278 : n0 ≤ b278 := Nat.le_trans (Nat.le_trans Z0 gr254) (Nat.le_of_eq g278.symm)
            have lt_b278 := A278.lt
            have F_value_b278 : Fld Z h278 b278 "java/lang/String" "value" "[B" .null := D278 (Or.inr (hw _ (List.mem_of_getElem? (i := 6) rfl))) (ty := (.array .byte)) (by decide)
            have F_coder_b278 : Fld Z h278 b278 "java/lang/String" "coder" "B" (.int (0 : Int32)) := D278 (Or.inr (hw _ (List.mem_of_getElem? (i := 7) rfl))) (ty := .byte) (by decide)
            refine Gk.dup X278 hx (hb hby at_290) rfl ?_
            refine Gk.aload X278 hx (hb hby at_291) rfl rfl ?_
            have H280 := (V247.ext E278)
            have H281 := (H252.ext E278)
            refine Gk.callI (argsL := [(.ref b232)]) X278 hx hZ hown (str_14 l Z a0 hw [] b278 b232 k232 (upd (upd (upd (upd (upd (upd (upd (upd (upd (upd (upd (upd (upd (upd (fun _ => (.int (0 : Int32))) 0 (.int (78 : Int32))) 1 (.int (70 : Int32))) 2 (.int (83 : Int32))) 3 (.int (52 : Int32))) 4 (.int (69 : Int32))) 5 (.int (82 : Int32))) 6 (.int (82 : Int32))) 7 (.int (95 : Int32))) 8 (.int (73 : Int32))) 9 (.int (78 : Int32))) 10 (.int (86 : Int32))) 11 (.int (65 : Int32))) 12 (.int (76 : Int32))) 13 (.int (nar .char tail))) (78 : Int32) (70 : Int32) (83 : Int32) (52 : Int32) (69 : Int32) (82 : Int32) (82 : Int32) (95 : Int32) (73 : Int32) (78 : Int32) (86 : Int32) (65 : Int32) (76 : Int32) (nar .char tail) (.int (0 : Int32)) .null w_COMPACT_STRINGS h278 n0 (Nat.le_trans Z0 (Nat.le_trans gr254 E278.1)) H281 A278 H280 rfl rfl rfl rfl rfl rfl rfl rfl rfl rfl rfl rfl rfl rfl (by decide) (by decide) (by decide) (by decide) (by decide) (by decide) (by decide) (by decide) (by decide) (by decide) (by decide) (by decide) (by decide) (own_ch etail) hcs F_coder_b278 g_b278 F_value_b278) rfl (hw _ (List.mem_of_getElem? (i := 23) rfl)) (hw _ (List.mem_of_getElem? (i := 24) rfl)) (hw _ (List.mem_of_getElem? (i := 25) rfl)) rfl (by decide) (hw _ (List.mem_of_getElem? (i := 3) rfl)) e278 pd_11 rfl rfl (by decide) (Nat.le_of_ble_eq_true rfl) (by decide) (by decide) (by rw [hml]; rfl)  rfl (hb hby at_293) ?_
            intro T279 L279 v279 X279 hQ279
            obtain ⟨rfl, N279q, K279, Fc279, y279, k279_, le279, Fv279, V279⟩ := hQ279
            have N279 := Fr.app N247 N279q
            show Go p e below (T279.setTop (mkF m 296 #[.val (.int p1), .val (.int p2), .val (.int p3), .val (.int p4), .val (.int p5), .val (.int (1 : Int32)), .val (.int (0 : Int32)), .val (.int kk), .val (.int pos), .val (.int ch), .val (.int tail), .val (.ref b217), .val (.ref b232), .unset, .unset, .unset] [(.ref b278)])) _
            refine Gk.astore X279 hx (hb hby at_296) rfl #[.val (.int p1), .val (.int p2), .val (.int p3), .val (.int p4), .val (.int p5), .val (.int (1 : Int32)), .val (.int (0 : Int32)), .val (.int kk), .val (.int pos), .val (.int ch), .val (.int tail), .val (.ref b217), .val (.ref b232), .val (.ref b278), .unset, .unset] rfl ?_
            refine Gk.iconst X279 hx (hb hby at_298) (0 : Int32) rfl ?_
            refine Gk.istore X279 hx (hb hby at_299) #[.val (.int p1), .val (.int p2), .val (.int p3), .val (.int p4), .val (.int p5), .val (.int (1 : Int32)), .val (.int (0 : Int32)), .val (.int kk), .val (.int pos), .val (.int ch), .val (.int tail), .val (.ref b217), .val (.ref b232), .val (.ref b278), .val (.int (0 : Int32)), .unset] rfl ?_
            refine Gk.goto X279 hx (hb hby at_301) 376 (by decide) (by decide) ?_
            refine Gk.iload X279 hx (hb hby at_376) rfl ?_
            refine Gk.ifNo X279 hx (hb hby at_378) (feq (by decide : ¬ ((1 : Int32) = (0 : Int32)))).1 ?_
            have H282 := ((H248.ext E278).keep K279 (allS g_b278 all0))
            refine Gk.getS X279 hx hZ hown (host := "") (Or.inl (hw _ (List.mem_of_getElem? (i := 19) rfl))) Via.refl rfl H282.sta (hb hby at_381) ?_
            intro T283 X283 e283
            refine Gk.astore X283 hx (hb hby at_384) rfl #[.val (.int p1), .val (.int p2), .val (.int p3), .val (.int p4), .val (.int p5), .val (.int (1 : Int32)), .val (.int (0 : Int32)), .val (.int kk), .val (.int pos), .val (.int ch), .val (.int tail), .val (.ref b217), .val (.ref b232), .val (.ref b278), .val (.int (0 : Int32)), .val (.ref w_SUPPORTED)] rfl ?_
            refine Gk.goto X283 hx (hb hby at_386) 420 (by decide) (by decide) ?_
            refine Gk.iload X283 hx (hb hby at_420) rfl ?_
            refine Gk.aload X283 hx (hb hby at_422) rfl rfl ?_
            refine Gk.iload X283 hx (hb hby at_424) rfl ?_
            have gr285 := (Nat.le_trans (Nat.le_trans gr254 E278.1) K279.1)
            refine Gk.callS (argsL := [(.int (1 : Int32)), (.ref b278), (.int (0 : Int32))]) X283 hx hZ hown (ats_1 l Z a0 hw [] b278 (0 : Int32) w_SUPPORTED T279.heap n0 (Nat.le_trans Z0 gr285) H282) (hw _ (List.mem_of_getElem? (i := 13) rfl)) (hw _ (List.mem_of_getElem? (i := 14) rfl)) (hw _ (List.mem_of_getElem? (i := 15) rfl)) (hw _ (List.mem_of_getElem? (i := 16) rfl)) (by decide) e283 pd_10 rfl rfl (by decide) (Nat.le_of_ble_eq_true rfl) (by decide) (by decide) (by rw [hml]; rfl)  rfl (hb hby at_426) ?_
            intro T284 L284 v284 X284 hQ284
            obtain ⟨rfl, N284q, e284⟩ := hQ284
            have N284 := Fr.app N279 N284q
            show Go p e below (T284.setTop (mkF m 429 #[.val (.int p1), .val (.int p2), .val (.int p3), .val (.int p4), .val (.int p5), .val (.int (1 : Int32)), .val (.int (0 : Int32)), .val (.int kk), .val (.int pos), .val (.int ch), .val (.int tail), .val (.ref b217), .val (.ref b232), .val (.ref b278), .val (.int (0 : Int32)), .val (.ref w_SUPPORTED)] [(.ref w_SUPPORTED)])) _
            refine Gk.aload X284 hx (hb hby at_429) rfl rfl ?_
            refine Gk.acmp X284 hx (hb hby at_431) rfl rfl true (decide_eq_true rfl) 434 (by decide) (by decide) ?_
            refine Gk.iconst X284 hx (hb hby at_434) (1 : Int32) rfl ?_
            refine Gk.goto X284 hx (hb hby at_435) 439 (by decide) (by decide) ?_
            refine Go.fin X284 (v := some (.int (1 : Int32))) (fun h_ => by rw [Bd.returns] at h_; cases h_) Bd.notSynchronized (fun _ hr => retN X284 hx (t := .boolean) Bd.returns (by simp) (hb hby at_439) hr) (fun U' hU hF => ⟨_, _, rfl, ?_, ReturnedEndW.of_narrow hF.1 hF.2.1 (hF.2.2.mono (by decide) (by decide))⟩)
            exact ⟨(congrArg (fun z_ : Int32 => some (Value.int z_)) (show (1 : Int32) = (1 : Int32) from rfl)), N284⟩
          · refine Gk.icmpYes X247 hx (hb hby at_284) (feq hc284).2 304 (by decide) (by decide) ?_
            refine Gk.iload X247 hx (hb hby at_304) rfl ?_
            refine Gk.iconst X247 hx (hb hby at_306) (3 : Int32) rfl ?_
            by_cases hc307 : kk = (3 : Int32)
            · refine Gk.icmpNo X247 hx (hb hby at_307) (teq hc307).2 ?_
              have R287_ := own_chrOld (h' := h247) hCH (by rw [← hh]; exact fun b_ cl_ q_ => e247 ▸ oldF X247 (by rw [hh, ← hn0]; exact N247) b_ cl_ q_)
              refine Gk.ldcH (s := s) (show Stand p l e room_1 (s.setVm s.vm) m _ below meth c _ _ _ _ from X247) hx hZ hown (hw _ (List.mem_of_getElem? (i := 2) rfl)) (own_wS hw) e247 ((State.WarmedH.refl s).since 0) (Nat.zero_le _) (own_EW hw) (List.mem_of_getElem? (i := 2) rfl) R287_.1 lit1T (hb hby at_310) (n := 72) (by decide) (by decide) (by decide) (by decide) ?_
              intro la286 T286 h286 kS286 lb286 lk286 X286 e286 E286 S286_ q286_ Z286_ o286_ lA286 lFc286 lFv286 lV286 llt286 lltb286 C286_ Lt286_ d286_
              have R286_ := R287_.trans C286_
              refine Gk.astore X286 hx (hb hby at_312) rfl #[.val (.int p1), .val (.int p2), .val (.int p3), .val (.int p4), .val (.int p5), .val (.int (1 : Int32)), .val (.int (0 : Int32)), .val (.int kk), .val (.int pos), .val (.int ch), .val (.int tail), .val (.ref b217), .val (.ref b232), .val (.ref la286), .unset, .unset] rfl ?_
              refine Gk.iconst X286 hx (hb hby at_314) (0 : Int32) rfl ?_
              refine Gk.istore X286 hx (hb hby at_315) #[.val (.int p1), .val (.int p2), .val (.int p3), .val (.int p4), .val (.int p5), .val (.int (1 : Int32)), .val (.int (0 : Int32)), .val (.int kk), .val (.int pos), .val (.int ch), .val (.int tail), .val (.ref b217), .val (.ref b232), .val (.ref la286), .val (.int (0 : Int32)), .unset] rfl ?_
              refine Gk.goto X286 hx (hb hby at_317) 376 (by decide) (by decide) ?_
              refine Gk.iload X286 hx (hb hby at_376) rfl ?_
              refine Gk.ifNo X286 hx (hb hby at_378) (feq (by decide : ¬ ((1 : Int32) = (0 : Int32)))).1 ?_
              have H288 := (H248.ext E286)
              refine Gk.getS X286 hx Z286_ o286_ (host := "") (Or.inl (hw _ (List.mem_of_getElem? (i := 19) rfl))) Via.refl e286 H288.sta (hb hby at_381) ?_
              intro T289 X289 e289
              refine Gk.astore X289 hx (hb hby at_384) rfl #[.val (.int p1), .val (.int p2), .val (.int p3), .val (.int p4), .val (.int p5), .val (.int (1 : Int32)), .val (.int (0 : Int32)), .val (.int kk), .val (.int pos), .val (.int ch), .val (.int tail), .val (.ref b217), .val (.ref b232), .val (.ref la286), .val (.int (0 : Int32)), .val (.ref w_SUPPORTED)] rfl ?_
              refine Gk.goto X289 hx (hb hby at_386) 420 (by decide) (by decide) ?_
              refine Gk.iload X289 hx (hb hby at_420) rfl ?_
              refine Gk.aload X289 hx (hb hby at_422) rfl rfl ?_
              refine Gk.iload X289 hx (hb hby at_424) rfl ?_
              refine Gk.callS (argsL := [(.int (1 : Int32)), (.ref la286), (.int (0 : Int32))]) X289 hx Z286_ o286_ (ats_1 l Z a0 hw [] la286 (0 : Int32) w_SUPPORTED h286 n0 (Nat.le_trans Z0 (Nat.le_trans gr254 E286.1)) H288) (hw _ (List.mem_of_getElem? (i := 13) rfl)) (hw _ (List.mem_of_getElem? (i := 14) rfl)) (hw _ (List.mem_of_getElem? (i := 15) rfl)) (hw _ (List.mem_of_getElem? (i := 16) rfl)) (by decide) e289 pd_10 rfl rfl (by decide) (Nat.le_of_ble_eq_true rfl) (by decide) (by decide) (by rw [hml]; rfl)  rfl (hb hby at_426) ?_
              intro T290 L290 v290 X290 hQ290
              obtain ⟨rfl, N290q, e290⟩ := hQ290
              have N290 := Fr.app N247 N290q
              show Go p e below (T290.setTop (mkF m 429 #[.val (.int p1), .val (.int p2), .val (.int p3), .val (.int p4), .val (.int p5), .val (.int (1 : Int32)), .val (.int (0 : Int32)), .val (.int kk), .val (.int pos), .val (.int ch), .val (.int tail), .val (.ref b217), .val (.ref b232), .val (.ref la286), .val (.int (0 : Int32)), .val (.ref w_SUPPORTED)] [(.ref w_SUPPORTED)])) _
              refine Gk.aload X290 hx (hb hby at_429) rfl rfl ?_
              refine Gk.acmp X290 hx (hb hby at_431) rfl rfl true (decide_eq_true rfl) 434 (by decide) (by decide) ?_
              refine Gk.iconst X290 hx (hb hby at_434) (1 : Int32) rfl ?_
              refine Gk.goto X290 hx (hb hby at_435) 439 (by decide) (by decide) ?_
              refine Gk.finW (s := s) X290 e290 S286_ (Nat.le_trans q286_ (Nat.le_refl _)) (v := some (.int (1 : Int32))) (fun h_ => by rw [Bd.returns] at h_; cases h_) Bd.notSynchronized (fun _ hr => retN X290 hx (t := .boolean) Bd.returns (by simp) (hb hby at_439) hr) (fun U' hU hF => ⟨_, _, rfl, ?_, hF.1, hF.2.1, hF.2.2.1, hF.2.2.2.mono (by decide) (by decide)⟩)
              exact ⟨(congrArg (fun z_ : Int32 => some (Value.int z_)) (show (1 : Int32) = (1 : Int32) from rfl)), N290⟩
            · refine Gk.icmpYes X247 hx (hb hby at_307) (feq hc307).2 320 (by decide) (by decide) ?_
              refine Gk.iload X247 hx (hb hby at_320) rfl ?_
              refine Gk.iconst X247 hx (hb hby at_322) (4 : Int32) rfl ?_
              by_cases hc323 : kk = (4 : Int32)
              · refine Gk.icmpNo X247 hx (hb hby at_323) (teq hc323).2 ?_
                have R292_ := own_chrOld (h' := h247) hCH (by rw [← hh]; exact fun b_ cl_ q_ => e247 ▸ oldF X247 (by rw [hh, ← hn0]; exact N247) b_ cl_ q_)
                refine Gk.ldcH (s := s) (show Stand p l e room_1 (s.setVm s.vm) m _ below meth c _ _ _ _ from X247) hx hZ hown (hw _ (List.mem_of_getElem? (i := 18) rfl)) (own_wS hw) e247 ((State.WarmedH.refl s).since 0) (Nat.zero_le _) (own_EW hw) (List.mem_of_getElem? (i := 3) rfl) R292_.1 lit2T (hb hby at_326) (n := 60) (by decide) (by decide) (by decide) (by decide) ?_
                intro la291 T291 h291 kS291 lb291 lk291 X291 e291 E291 S291_ q291_ Z291_ o291_ lA291 lFc291 lFv291 lV291 llt291 lltb291 C291_ Lt291_ d291_
                have R291_ := R292_.trans C291_
                refine Gk.astore X291 hx (hb hby at_328) rfl #[.val (.int p1), .val (.int p2), .val (.int p3), .val (.int p4), .val (.int p5), .val (.int (1 : Int32)), .val (.int (0 : Int32)), .val (.int kk), .val (.int pos), .val (.int ch), .val (.int tail), .val (.ref b217), .val (.ref b232), .val (.ref la291), .unset, .unset] rfl ?_
                refine Gk.iconst X291 hx (hb hby at_330) (0 : Int32) rfl ?_
                refine Gk.istore X291 hx (hb hby at_331) #[.val (.int p1), .val (.int p2), .val (.int p3), .val (.int p4), .val (.int p5), .val (.int (1 : Int32)), .val (.int (0 : Int32)), .val (.int kk), .val (.int pos), .val (.int ch), .val (.int tail), .val (.ref b217), .val (.ref b232), .val (.ref la291), .val (.int (0 : Int32)), .unset] rfl ?_
                refine Gk.goto X291 hx (hb hby at_333) 376 (by decide) (by decide) ?_
                refine Gk.iload X291 hx (hb hby at_376) rfl ?_
                refine Gk.ifNo X291 hx (hb hby at_378) (feq (by decide : ¬ ((1 : Int32) = (0 : Int32)))).1 ?_
                have H293 := (H248.ext E291)
                refine Gk.getS X291 hx Z291_ o291_ (host := "") (Or.inl (hw _ (List.mem_of_getElem? (i := 19) rfl))) Via.refl e291 H293.sta (hb hby at_381) ?_
                intro T294 X294 e294
                refine Gk.astore X294 hx (hb hby at_384) rfl #[.val (.int p1), .val (.int p2), .val (.int p3), .val (.int p4), .val (.int p5), .val (.int (1 : Int32)), .val (.int (0 : Int32)), .val (.int kk), .val (.int pos), .val (.int ch), .val (.int tail), .val (.ref b217), .val (.ref b232), .val (.ref la291), .val (.int (0 : Int32)), .val (.ref w_SUPPORTED)] rfl ?_
                refine Gk.goto X294 hx (hb hby at_386) 420 (by decide) (by decide) ?_
                refine Gk.iload X294 hx (hb hby at_420) rfl ?_
                refine Gk.aload X294 hx (hb hby at_422) rfl rfl ?_
                refine Gk.iload X294 hx (hb hby at_424) rfl ?_
                refine Gk.callS (argsL := [(.int (1 : Int32)), (.ref la291), (.int (0 : Int32))]) X294 hx Z291_ o291_ (ats_1 l Z a0 hw [] la291 (0 : Int32) w_SUPPORTED h291 n0 (Nat.le_trans Z0 (Nat.le_trans gr254 E291.1)) H293) (hw _ (List.mem_of_getElem? (i := 13) rfl)) (hw _ (List.mem_of_getElem? (i := 14) rfl)) (hw _ (List.mem_of_getElem? (i := 15) rfl)) (hw _ (List.mem_of_getElem? (i := 16) rfl)) (by decide) e294 pd_10 rfl rfl (by decide) (Nat.le_of_ble_eq_true rfl) (by decide) (by decide) (by rw [hml]; rfl)  rfl (hb hby at_426) ?_
                intro T295 L295 v295 X295 hQ295
                obtain ⟨rfl, N295q, e295⟩ := hQ295
                have N295 := Fr.app N247 N295q
                show Go p e below (T295.setTop (mkF m 429 #[.val (.int p1), .val (.int p2), .val (.int p3), .val (.int p4), .val (.int p5), .val (.int (1 : Int32)), .val (.int (0 : Int32)), .val (.int kk), .val (.int pos), .val (.int ch), .val (.int tail), .val (.ref b217), .val (.ref b232), .val (.ref la291), .val (.int (0 : Int32)), .val (.ref w_SUPPORTED)] [(.ref w_SUPPORTED)])) _
                refine Gk.aload X295 hx (hb hby at_429) rfl rfl ?_
                refine Gk.acmp X295 hx (hb hby at_431) rfl rfl true (decide_eq_true rfl) 434 (by decide) (by decide) ?_
                refine Gk.iconst X295 hx (hb hby at_434) (1 : Int32) rfl ?_
                refine Gk.goto X295 hx (hb hby at_435) 439 (by decide) (by decide) ?_
                refine Gk.finW (s := s) X295 e295 S291_ (Nat.le_trans q291_ (Nat.le_refl _)) (v := some (.int (1 : Int32))) (fun h_ => by rw [Bd.returns] at h_; cases h_) Bd.notSynchronized (fun _ hr => retN X295 hx (t := .boolean) Bd.returns (by simp) (hb hby at_439) hr) (fun U' hU hF => ⟨_, _, rfl, ?_, hF.1, hF.2.1, hF.2.2.1, hF.2.2.2.mono (by decide) (by decide)⟩)
                exact ⟨(congrArg (fun z_ : Int32 => some (Value.int z_)) (show (1 : Int32) = (1 : Int32) from rfl)), N295⟩
              · refine Gk.icmpYes X247 hx (hb hby at_323) (feq hc323).2 336 (by decide) (by decide) ?_
                refine Gk.iload X247 hx (hb hby at_336) rfl ?_
                refine Gk.iconst X247 hx (hb hby at_338) (5 : Int32) rfl ?_
                by_cases hc339 : kk = (5 : Int32)
                · refine Gk.icmpNo X247 hx (hb hby at_339) (teq hc339).2 ?_
                  have R297_ := own_chrOld (h' := h247) hCH (by rw [← hh]; exact fun b_ cl_ q_ => e247 ▸ oldF X247 (by rw [hh, ← hn0]; exact N247) b_ cl_ q_)
                  refine Gk.ldcH (s := s) (show Stand p l e room_1 (s.setVm s.vm) m _ below meth c _ _ _ _ from X247) hx hZ hown (hw _ (List.mem_of_getElem? (i := 87) rfl)) (own_wS hw) e247 ((State.WarmedH.refl s).since 0) (Nat.zero_le _) (own_EW hw) (List.mem_of_getElem? (i := 4) rfl) R297_.1 lit3T (hb hby at_342) (n := 28) (by decide) (by decide) (by decide) (by decide) ?_
                  intro la296 T296 h296 kS296 lb296 lk296 X296 e296 E296 S296_ q296_ Z296_ o296_ lA296 lFc296 lFv296 lV296 llt296 lltb296 C296_ Lt296_ d296_
                  have R296_ := R297_.trans C296_
                  refine Gk.astore X296 hx (hb hby at_344) rfl #[.val (.int p1), .val (.int p2), .val (.int p3), .val (.int p4), .val (.int p5), .val (.int (1 : Int32)), .val (.int (0 : Int32)), .val (.int kk), .val (.int pos), .val (.int ch), .val (.int tail), .val (.ref b217), .val (.ref b232), .val (.ref la296), .unset, .unset] rfl ?_
                  refine Gk.iconst X296 hx (hb hby at_346) (0 : Int32) rfl ?_
                  refine Gk.istore X296 hx (hb hby at_347) #[.val (.int p1), .val (.int p2), .val (.int p3), .val (.int p4), .val (.int p5), .val (.int (1 : Int32)), .val (.int (0 : Int32)), .val (.int kk), .val (.int pos), .val (.int ch), .val (.int tail), .val (.ref b217), .val (.ref b232), .val (.ref la296), .val (.int (0 : Int32)), .unset] rfl ?_
                  refine Gk.goto X296 hx (hb hby at_349) 376 (by decide) (by decide) ?_
                  refine Gk.iload X296 hx (hb hby at_376) rfl ?_
                  refine Gk.ifNo X296 hx (hb hby at_378) (feq (by decide : ¬ ((1 : Int32) = (0 : Int32)))).1 ?_
                  have H298 := (H248.ext E296)
                  refine Gk.getS X296 hx Z296_ o296_ (host := "") (Or.inl (hw _ (List.mem_of_getElem? (i := 19) rfl))) Via.refl e296 H298.sta (hb hby at_381) ?_
                  intro T299 X299 e299
                  refine Gk.astore X299 hx (hb hby at_384) rfl #[.val (.int p1), .val (.int p2), .val (.int p3), .val (.int p4), .val (.int p5), .val (.int (1 : Int32)), .val (.int (0 : Int32)), .val (.int kk), .val (.int pos), .val (.int ch), .val (.int tail), .val (.ref b217), .val (.ref b232), .val (.ref la296), .val (.int (0 : Int32)), .val (.ref w_SUPPORTED)] rfl ?_
                  refine Gk.goto X299 hx (hb hby at_386) 420 (by decide) (by decide) ?_
                  refine Gk.iload X299 hx (hb hby at_420) rfl ?_
                  refine Gk.aload X299 hx (hb hby at_422) rfl rfl ?_
                  refine Gk.iload X299 hx (hb hby at_424) rfl ?_
                  refine Gk.callS (argsL := [(.int (1 : Int32)), (.ref la296), (.int (0 : Int32))]) X299 hx Z296_ o296_ (ats_1 l Z a0 hw [] la296 (0 : Int32) w_SUPPORTED h296 n0 (Nat.le_trans Z0 (Nat.le_trans gr254 E296.1)) H298) (hw _ (List.mem_of_getElem? (i := 13) rfl)) (hw _ (List.mem_of_getElem? (i := 14) rfl)) (hw _ (List.mem_of_getElem? (i := 15) rfl)) (hw _ (List.mem_of_getElem? (i := 16) rfl)) (by decide) e299 pd_10 rfl rfl (by decide) (Nat.le_of_ble_eq_true rfl) (by decide) (by decide) (by rw [hml]; rfl)  rfl (hb hby at_426) ?_
                  intro T300 L300 v300 X300 hQ300
                  obtain ⟨rfl, N300q, e300⟩ := hQ300
                  have N300 := Fr.app N247 N300q
                  show Go p e below (T300.setTop (mkF m 429 #[.val (.int p1), .val (.int p2), .val (.int p3), .val (.int p4), .val (.int p5), .val (.int (1 : Int32)), .val (.int (0 : Int32)), .val (.int kk), .val (.int pos), .val (.int ch), .val (.int tail), .val (.ref b217), .val (.ref b232), .val (.ref la296), .val (.int (0 : Int32)), .val (.ref w_SUPPORTED)] [(.ref w_SUPPORTED)])) _
                  refine Gk.aload X300 hx (hb hby at_429) rfl rfl ?_
                  refine Gk.acmp X300 hx (hb hby at_431) rfl rfl true (decide_eq_true rfl) 434 (by decide) (by decide) ?_
                  refine Gk.iconst X300 hx (hb hby at_434) (1 : Int32) rfl ?_
                  refine Gk.goto X300 hx (hb hby at_435) 439 (by decide) (by decide) ?_
                  refine Gk.finW (s := s) X300 e300 S296_ (Nat.le_trans q296_ (Nat.le_refl _)) (v := some (.int (1 : Int32))) (fun h_ => by rw [Bd.returns] at h_; cases h_) Bd.notSynchronized (fun _ hr => retN X300 hx (t := .boolean) Bd.returns (by simp) (hb hby at_439) hr) (fun U' hU hF => ⟨_, _, rfl, ?_, hF.1, hF.2.1, hF.2.2.1, hF.2.2.2.mono (by decide) (by decide)⟩)
                  exact ⟨(congrArg (fun z_ : Int32 => some (Value.int z_)) (show (1 : Int32) = (1 : Int32) from rfl)), N300⟩
                · refine Gk.icmpYes X247 hx (hb hby at_339) (feq hc339).2 352 (by decide) (by decide) ?_
                  refine Gk.iload X247 hx (hb hby at_352) rfl ?_
                  refine Gk.bipush X247 hx (hb hby at_354) (6 : Int32) rfl ?_
                  by_cases hc356 : kk = (6 : Int32)
                  · refine Gk.icmpNo X247 hx (hb hby at_356) (teq hc356).2 ?_
                    have R302_ := own_chrOld (h' := h247) hCH (by rw [← hh]; exact fun b_ cl_ q_ => e247 ▸ oldF X247 (by rw [hh, ← hn0]; exact N247) b_ cl_ q_)
                    refine Gk.ldcH (s := s) (show Stand p l e room_1 (s.setVm s.vm) m _ below meth c _ _ _ _ from X247) hx hZ hown (hw _ (List.mem_of_getElem? (i := 86) rfl)) (own_wS hw) e247 ((State.WarmedH.refl s).since 0) (Nat.zero_le _) (own_EW hw) (List.mem_of_getElem? (i := 5) rfl) R302_.1 lit4T (hb hby at_359) (n := 0) (by decide) (by decide) (by decide) (by decide) ?_
                    intro la301 T301 h301 kS301 lb301 lk301 X301 e301 E301 S301_ q301_ Z301_ o301_ lA301 lFc301 lFv301 lV301 llt301 lltb301 C301_ Lt301_ d301_
                    have R301_ := R302_.trans C301_
                    refine Gk.astore X301 hx (hb hby at_361) rfl #[.val (.int p1), .val (.int p2), .val (.int p3), .val (.int p4), .val (.int p5), .val (.int (1 : Int32)), .val (.int (0 : Int32)), .val (.int kk), .val (.int pos), .val (.int ch), .val (.int tail), .val (.ref b217), .val (.ref b232), .val (.ref la301), .unset, .unset] rfl ?_
                    refine Gk.iconst X301 hx (hb hby at_363) (0 : Int32) rfl ?_
                    refine Gk.istore X301 hx (hb hby at_364) #[.val (.int p1), .val (.int p2), .val (.int p3), .val (.int p4), .val (.int p5), .val (.int (1 : Int32)), .val (.int (0 : Int32)), .val (.int kk), .val (.int pos), .val (.int ch), .val (.int tail), .val (.ref b217), .val (.ref b232), .val (.ref la301), .val (.int (0 : Int32)), .unset] rfl ?_
                    refine Gk.goto X301 hx (hb hby at_366) 376 (by decide) (by decide) ?_
                    refine Gk.iload X301 hx (hb hby at_376) rfl ?_
                    refine Gk.ifNo X301 hx (hb hby at_378) (feq (by decide : ¬ ((1 : Int32) = (0 : Int32)))).1 ?_
                    have H303 := (H248.ext E301)
                    refine Gk.getS X301 hx Z301_ o301_ (host := "") (Or.inl (hw _ (List.mem_of_getElem? (i := 19) rfl))) Via.refl e301 H303.sta (hb hby at_381) ?_
                    intro T304 X304 e304
                    refine Gk.astore X304 hx (hb hby at_384) rfl #[.val (.int p1), .val (.int p2), .val (.int p3), .val (.int p4), .val (.int p5), .val (.int (1 : Int32)), .val (.int (0 : Int32)), .val (.int kk), .val (.int pos), .val (.int ch), .val (.int tail), .val (.ref b217), .val (.ref b232), .val (.ref la301), .val (.int (0 : Int32)), .val (.ref w_SUPPORTED)] rfl ?_
                    refine Gk.goto X304 hx (hb hby at_386) 420 (by decide) (by decide) ?_
                    refine Gk.iload X304 hx (hb hby at_420) rfl ?_
                    refine Gk.aload X304 hx (hb hby at_422) rfl rfl ?_
                    refine Gk.iload X304 hx (hb hby at_424) rfl ?_
                    refine Gk.callS (argsL := [(.int (1 : Int32)), (.ref la301), (.int (0 : Int32))]) X304 hx Z301_ o301_ (ats_1 l Z a0 hw [] la301 (0 : Int32) w_SUPPORTED h301 n0 (Nat.le_trans Z0 (Nat.le_trans gr254 E301.1)) H303) (hw _ (List.mem_of_getElem? (i := 13) rfl)) (hw _ (List.mem_of_getElem? (i := 14) rfl)) (hw _ (List.mem_of_getElem? (i := 15) rfl)) (hw _ (List.mem_of_getElem? (i := 16) rfl)) (by decide) e304 pd_10 rfl rfl (by decide) (Nat.le_of_ble_eq_true rfl) (by decide) (by decide) (by rw [hml]; rfl)  rfl (hb hby at_426) ?_
                    intro T305 L305 v305 X305 hQ305
                    obtain ⟨rfl, N305q, e305⟩ := hQ305
                    have N305 := Fr.app N247 N305q
                    show Go p e below (T305.setTop (mkF m 429 #[.val (.int p1), .val (.int p2), .val (.int p3), .val (.int p4), .val (.int p5), .val (.int (1 : Int32)), .val (.int (0 : Int32)), .val (.int kk), .val (.int pos), .val (.int ch), .val (.int tail), .val (.ref b217), .val (.ref b232), .val (.ref la301), .val (.int (0 : Int32)), .val (.ref w_SUPPORTED)] [(.ref w_SUPPORTED)])) _
                    refine Gk.aload X305 hx (hb hby at_429) rfl rfl ?_
                    refine Gk.acmp X305 hx (hb hby at_431) rfl rfl true (decide_eq_true rfl) 434 (by decide) (by decide) ?_
                    refine Gk.iconst X305 hx (hb hby at_434) (1 : Int32) rfl ?_
                    refine Gk.goto X305 hx (hb hby at_435) 439 (by decide) (by decide) ?_
                    refine Gk.finW (s := s) X305 e305 S301_ (Nat.le_trans q301_ (Nat.le_refl _)) (v := some (.int (1 : Int32))) (fun h_ => by rw [Bd.returns] at h_; cases h_) Bd.notSynchronized (fun _ hr => retN X305 hx (t := .boolean) Bd.returns (by simp) (hb hby at_439) hr) (fun U' hU hF => ⟨_, _, rfl, ?_, hF.1, hF.2.1, hF.2.2.1, hF.2.2.2.mono (by decide) (by decide)⟩)
                    exact ⟨(congrArg (fun z_ : Int32 => some (Value.int z_)) (show (1 : Int32) = (1 : Int32) from rfl)), N305⟩
                  · refine Gk.icmpYes X247 hx (hb hby at_356) (feq hc356).2 369 (by decide) (by decide) ?_
                    have R307_ := own_chrOld (h' := h247) hCH (by rw [← hh]; exact fun b_ cl_ q_ => e247 ▸ oldF X247 (by rw [hh, ← hn0]; exact N247) b_ cl_ q_)
                    refine Gk.ldcH (s := s) (show Stand p l e room_1 (s.setVm s.vm) m _ below meth c _ _ _ _ from X247) hx hZ hown (hw _ (List.mem_of_getElem? (i := 46) rfl)) (own_wS hw) e247 ((State.WarmedH.refl s).since 0) (Nat.zero_le _) (own_EW hw) (List.mem_of_getElem? (i := 6) rfl) R307_.1 lit5T (hb hby at_369) (n := 48) (by decide) (by decide) (by decide) (by decide) ?_
                    intro la306 T306 h306 kS306 lb306 lk306 X306 e306 E306 S306_ q306_ Z306_ o306_ lA306 lFc306 lFv306 lV306 llt306 lltb306 C306_ Lt306_ d306_
                    have R306_ := R307_.trans C306_
                    refine Gk.astore X306 hx (hb hby at_371) rfl #[.val (.int p1), .val (.int p2), .val (.int p3), .val (.int p4), .val (.int p5), .val (.int (1 : Int32)), .val (.int (0 : Int32)), .val (.int kk), .val (.int pos), .val (.int ch), .val (.int tail), .val (.ref b217), .val (.ref b232), .val (.ref la306), .unset, .unset] rfl ?_
                    refine Gk.iconst X306 hx (hb hby at_373) (0 : Int32) rfl ?_
                    refine Gk.istore X306 hx (hb hby at_374) #[.val (.int p1), .val (.int p2), .val (.int p3), .val (.int p4), .val (.int p5), .val (.int (1 : Int32)), .val (.int (0 : Int32)), .val (.int kk), .val (.int pos), .val (.int ch), .val (.int tail), .val (.ref b217), .val (.ref b232), .val (.ref la306), .val (.int (0 : Int32)), .unset] rfl ?_
                    refine Gk.iload X306 hx (hb hby at_376) rfl ?_
                    refine Gk.ifNo X306 hx (hb hby at_378) (feq (by decide : ¬ ((1 : Int32) = (0 : Int32)))).1 ?_
                    have H308 := (H248.ext E306)
                    refine Gk.getS X306 hx Z306_ o306_ (host := "") (Or.inl (hw _ (List.mem_of_getElem? (i := 19) rfl))) Via.refl e306 H308.sta (hb hby at_381) ?_
                    intro T309 X309 e309
                    refine Gk.astore X309 hx (hb hby at_384) rfl #[.val (.int p1), .val (.int p2), .val (.int p3), .val (.int p4), .val (.int p5), .val (.int (1 : Int32)), .val (.int (0 : Int32)), .val (.int kk), .val (.int pos), .val (.int ch), .val (.int tail), .val (.ref b217), .val (.ref b232), .val (.ref la306), .val (.int (0 : Int32)), .val (.ref w_SUPPORTED)] rfl ?_
                    refine Gk.goto X309 hx (hb hby at_386) 420 (by decide) (by decide) ?_
                    refine Gk.iload X309 hx (hb hby at_420) rfl ?_
                    refine Gk.aload X309 hx (hb hby at_422) rfl rfl ?_
                    refine Gk.iload X309 hx (hb hby at_424) rfl ?_
                    refine Gk.callS (argsL := [(.int (1 : Int32)), (.ref la306), (.int (0 : Int32))]) X309 hx Z306_ o306_ (ats_1 l Z a0 hw [] la306 (0 : Int32) w_SUPPORTED h306 n0 (Nat.le_trans Z0 (Nat.le_trans gr254 E306.1)) H308) (hw _ (List.mem_of_getElem? (i := 13) rfl)) (hw _ (List.mem_of_getElem? (i := 14) rfl)) (hw _ (List.mem_of_getElem? (i := 15) rfl)) (hw _ (List.mem_of_getElem? (i := 16) rfl)) (by decide) e309 pd_10 rfl rfl (by decide) (Nat.le_of_ble_eq_true rfl) (by decide) (by decide) (by rw [hml]; rfl)  rfl (hb hby at_426) ?_
                    intro T310 L310 v310 X310 hQ310
                    obtain ⟨rfl, N310q, e310⟩ := hQ310
                    have N310 := Fr.app N247 N310q
                    show Go p e below (T310.setTop (mkF m 429 #[.val (.int p1), .val (.int p2), .val (.int p3), .val (.int p4), .val (.int p5), .val (.int (1 : Int32)), .val (.int (0 : Int32)), .val (.int kk), .val (.int pos), .val (.int ch), .val (.int tail), .val (.ref b217), .val (.ref b232), .val (.ref la306), .val (.int (0 : Int32)), .val (.ref w_SUPPORTED)] [(.ref w_SUPPORTED)])) _
                    refine Gk.aload X310 hx (hb hby at_429) rfl rfl ?_
                    refine Gk.acmp X310 hx (hb hby at_431) rfl rfl true (decide_eq_true rfl) 434 (by decide) (by decide) ?_
                    refine Gk.iconst X310 hx (hb hby at_434) (1 : Int32) rfl ?_
                    refine Gk.goto X310 hx (hb hby at_435) 439 (by decide) (by decide) ?_
                    refine Gk.finW (s := s) X310 e310 S306_ (Nat.le_trans q306_ (Nat.le_refl _)) (v := some (.int (1 : Int32))) (fun h_ => by rw [Bd.returns] at h_; cases h_) Bd.notSynchronized (fun _ hr => retN X310 hx (t := .boolean) Bd.returns (by simp) (hb hby at_439) hr) (fun U' hU hF => ⟨_, _, rfl, ?_, hF.1, hF.2.1, hF.2.2.1, hF.2.2.2.mono (by decide) (by decide)⟩)
                    exact ⟨(congrArg (fun z_ : Int32 => some (Value.int z_)) (show (1 : Int32) = (1 : Int32) from rfl)), N310⟩
    · refine Gk.ifNo X0 hx (hb hby at_16) (feq hc16).1 ?_
      refine Gk.iconst X0 hx (hb hby at_19) (1 : Int32) rfl ?_
      refine Gk.goto X0 hx (hb hby at_20) 24 (by decide) (by decide) ?_
      refine Gk.istore X0 hx (hb hby at_24) #[.val (.int p1), .val (.int p2), .val (.int p3), .val (.int p4), .val (.int p5), .val (.int (1 : Int32)), .val (.int (1 : Int32)), .unset, .unset, .unset, .unset, .unset, .unset, .unset, .unset, .unset] rfl ?_
      refine Gk.iloadN X0 hx (hb hby at_26) rfl ?_
      refine Gk.bipush X0 hx (hb hby at_27) (7 : Int32) rfl ?_
      refine Gk.iand X0 hx (hb hby at_29) _ rfl ?_
      obtain ⟨kk, ekk⟩ : ∃ z_ : Int32, z_ = (p2 &&& (7 : Int32)) := ⟨_, rfl⟩
      show Go p e below (s₁.setTop (mkF m 30 #[.val (.int p1), .val (.int p2), .val (.int p3), .val (.int p4), .val (.int p5), .val (.int (1 : Int32)), .val (.int (1 : Int32)), .unset, .unset, .unset, .unset, .unset, .unset, .unset, .unset, .unset] [(.int (p2 &&& (7 : Int32)))])) _
      rw [← ekk]
      refine Gk.istore X0 hx (hb hby at_30) #[.val (.int p1), .val (.int p2), .val (.int p3), .val (.int p4), .val (.int p5), .val (.int (1 : Int32)), .val (.int (1 : Int32)), .val (.int kk), .unset, .unset, .unset, .unset, .unset, .unset, .unset, .unset] rfl ?_
      refine Gk.iloadN X0 hx (hb hby at_32) rfl ?_
      refine Gk.ldcI X0 hx hZ hown (hw _ (List.mem_of_getElem? (i := 0) rfl)) (hb hby at_33) ?_
      refine Gk.iand X0 hx (hb hby at_35) _ rfl ?_
      refine Gk.bipush X0 hx (hb hby at_36) (13 : Int32) rfl ?_
      refine Gk.irem X0 hx (hb hby at_38) (by decide) _ rfl ?_
      obtain ⟨pos, epos⟩ : ∃ z_ : Int32, z_ = ((p3 &&& (2147483647 : Int32)) % (13 : Int32)) := ⟨_, rfl⟩
      show Go p e below (s₁.setTop (mkF m 39 #[.val (.int p1), .val (.int p2), .val (.int p3), .val (.int p4), .val (.int p5), .val (.int (1 : Int32)), .val (.int (1 : Int32)), .val (.int kk), .unset, .unset, .unset, .unset, .unset, .unset, .unset, .unset] [(.int ((p3 &&& (2147483647 : Int32)) % (13 : Int32)))])) _
      rw [← epos]
      refine Gk.istore X0 hx (hb hby at_39) #[.val (.int p1), .val (.int p2), .val (.int p3), .val (.int p4), .val (.int p5), .val (.int (1 : Int32)), .val (.int (1 : Int32)), .val (.int kk), .val (.int pos), .unset, .unset, .unset, .unset, .unset, .unset, .unset] rfl ?_
      refine Gk.iloadN X0 hx (hb hby at_41) rfl ?_
      refine Gk.sipush X0 hx (hb hby at_42) (255 : Int32) rfl ?_
      refine Gk.iand X0 hx (hb hby at_45) _ rfl ?_
      refine Gk.i2c X0 hx (hb hby at_46) _ rfl ?_
      obtain ⟨ch, ech⟩ : ∃ z_ : Int32, z_ = ((p4 &&& (255 : Int32)).toUInt32.toUInt16.toUInt32.toInt32) := ⟨_, rfl⟩
      show Go p e below (s₁.setTop (mkF m 47 #[.val (.int p1), .val (.int p2), .val (.int p3), .val (.int p4), .val (.int p5), .val (.int (1 : Int32)), .val (.int (1 : Int32)), .val (.int kk), .val (.int pos), .unset, .unset, .unset, .unset, .unset, .unset, .unset] [(.int ((p4 &&& (255 : Int32)).toUInt32.toUInt16.toUInt32.toInt32))])) _
      rw [← ech]
      refine Gk.istore X0 hx (hb hby at_47) #[.val (.int p1), .val (.int p2), .val (.int p3), .val (.int p4), .val (.int p5), .val (.int (1 : Int32)), .val (.int (1 : Int32)), .val (.int kk), .val (.int pos), .val (.int ch), .unset, .unset, .unset, .unset, .unset, .unset] rfl ?_
      refine Gk.iload X0 hx (hb hby at_49) rfl ?_
      refine Gk.sipush X0 hx (hb hby at_51) (255 : Int32) rfl ?_
      refine Gk.iand X0 hx (hb hby at_54) _ rfl ?_
      refine Gk.i2c X0 hx (hb hby at_55) _ rfl ?_
      obtain ⟨tail, etail⟩ : ∃ z_ : Int32, z_ = ((p5 &&& (255 : Int32)).toUInt32.toUInt16.toUInt32.toInt32) := ⟨_, rfl⟩
      show Go p e below (s₁.setTop (mkF m 56 #[.val (.int p1), .val (.int p2), .val (.int p3), .val (.int p4), .val (.int p5), .val (.int (1 : Int32)), .val (.int (1 : Int32)), .val (.int kk), .val (.int pos), .val (.int ch), .unset, .unset, .unset, .unset, .unset, .unset] [(.int ((p5 &&& (255 : Int32)).toUInt32.toUInt16.toUInt32.toInt32))])) _
      rw [← etail]
      refine Gk.istore X0 hx (hb hby at_56) #[.val (.int p1), .val (.int p2), .val (.int p3), .val (.int p4), .val (.int p5), .val (.int (1 : Int32)), .val (.int (1 : Int32)), .val (.int kk), .val (.int pos), .val (.int ch), .val (.int tail), .unset, .unset, .unset, .unset, .unset] rfl ?_
      refine Gk.bipush X0 hx (hb hby at_58) (13 : Int32) rfl ?_
      refine Gk.newP X0 hx hZ (hw _ (List.mem_of_getElem? (i := 1) rfl)) e0 (hb hby at_60) (by decide) (cap := 13) (by decide) (by decide) (by decide) (by decide) rfl ?_
      intro T311 h311 b311 k311 X311 e311 E311 g311 A311 B311
      have g_b311 : n0 ≤ b311 := Nat.le_trans Z0 (Nat.le_of_eq g311.symm)
      have V_b311 : Arf Z h311 b311 k311 .char (13 : Int32) (fun _ => (.int (0 : Int32))) := A311
      have lt_b311 := V_b311.lt
      refine Gk.dup X311 hx (hb hby at_62) rfl ?_
      refine Gk.iconst X311 hx (hb hby at_63) (0 : Int32) rfl ?_
      refine Gk.bipush X311 hx (hb hby at_64) (78 : Int32) rfl ?_
      refine Gk.castore X311 hx hZ e311 V_b311 0 rfl ⟨by decide, by decide⟩ (.int (78 : Int32)) rfl (hb hby at_66) ?_
      intro T312 h312 X312 e312 W312 V312
      have N312 := Fr.snoc X312 N0 g_b311
      refine Gk.dup X312 hx (hb hby at_67) rfl ?_
      refine Gk.iconst X312 hx (hb hby at_68) (1 : Int32) rfl ?_
      refine Gk.bipush X312 hx (hb hby at_69) (70 : Int32) rfl ?_
      refine Gk.castore X312 hx hZ e312 V312 1 rfl ⟨by decide, by decide⟩ (.int (70 : Int32)) rfl (hb hby at_71) ?_
      intro T313 h313 X313 e313 W313 V313
      have N313 := Fr.snoc X313 N312 g_b311
      refine Gk.dup X313 hx (hb hby at_72) rfl ?_
      refine Gk.iconst X313 hx (hb hby at_73) (2 : Int32) rfl ?_
      refine Gk.bipush X313 hx (hb hby at_74) (83 : Int32) rfl ?_
      refine Gk.castore X313 hx hZ e313 V313 2 rfl ⟨by decide, by decide⟩ (.int (83 : Int32)) rfl (hb hby at_76) ?_
      intro T314 h314 X314 e314 W314 V314
      have N314 := Fr.snoc X314 N313 g_b311
      refine Gk.dup X314 hx (hb hby at_77) rfl ?_
      refine Gk.iconst X314 hx (hb hby at_78) (3 : Int32) rfl ?_
      refine Gk.bipush X314 hx (hb hby at_79) (52 : Int32) rfl ?_
      refine Gk.castore X314 hx hZ e314 V314 3 rfl ⟨by decide, by decide⟩ (.int (52 : Int32)) rfl (hb hby at_81) ?_
      intro T315 h315 X315 e315 W315 V315
      have N315 := Fr.snoc X315 N314 g_b311
      refine Gk.dup X315 hx (hb hby at_82) rfl ?_
      refine Gk.iconst X315 hx (hb hby at_83) (4 : Int32) rfl ?_
      refine Gk.bipush X315 hx (hb hby at_84) (69 : Int32) rfl ?_
      refine Gk.castore X315 hx hZ e315 V315 4 rfl ⟨by decide, by decide⟩ (.int (69 : Int32)) rfl (hb hby at_86) ?_
      intro T316 h316 X316 e316 W316 V316
      have N316 := Fr.snoc X316 N315 g_b311
      refine Gk.dup X316 hx (hb hby at_87) rfl ?_
      refine Gk.iconst X316 hx (hb hby at_88) (5 : Int32) rfl ?_
      refine Gk.bipush X316 hx (hb hby at_89) (82 : Int32) rfl ?_
      refine Gk.castore X316 hx hZ e316 V316 5 rfl ⟨by decide, by decide⟩ (.int (82 : Int32)) rfl (hb hby at_91) ?_
      intro T317 h317 X317 e317 W317 V317
      have N317 := Fr.snoc X317 N316 g_b311
      refine Gk.dup X317 hx (hb hby at_92) rfl ?_
      refine Gk.bipush X317 hx (hb hby at_93) (6 : Int32) rfl ?_
      refine Gk.bipush X317 hx (hb hby at_95) (82 : Int32) rfl ?_
      refine Gk.castore X317 hx hZ e317 V317 6 rfl ⟨by decide, by decide⟩ (.int (82 : Int32)) rfl (hb hby at_97) ?_
      intro T318 h318 X318 e318 W318 V318
      have N318 := Fr.snoc X318 N317 g_b311
      refine Gk.dup X318 hx (hb hby at_98) rfl ?_
      refine Gk.bipush X318 hx (hb hby at_99) (7 : Int32) rfl ?_
      refine Gk.bipush X318 hx (hb hby at_101) (95 : Int32) rfl ?_
      refine Gk.castore X318 hx hZ e318 V318 7 rfl ⟨by decide, by decide⟩ (.int (95 : Int32)) rfl (hb hby at_103) ?_
      intro T319 h319 X319 e319 W319 V319
      have N319 := Fr.snoc X319 N318 g_b311
      refine Gk.dup X319 hx (hb hby at_104) rfl ?_
      refine Gk.bipush X319 hx (hb hby at_105) (8 : Int32) rfl ?_
      refine Gk.bipush X319 hx (hb hby at_107) (73 : Int32) rfl ?_
      refine Gk.castore X319 hx hZ e319 V319 8 rfl ⟨by decide, by decide⟩ (.int (73 : Int32)) rfl (hb hby at_109) ?_
      intro T320 h320 X320 e320 W320 V320
      have N320 := Fr.snoc X320 N319 g_b311
      refine Gk.dup X320 hx (hb hby at_110) rfl ?_
      refine Gk.bipush X320 hx (hb hby at_111) (9 : Int32) rfl ?_
      refine Gk.bipush X320 hx (hb hby at_113) (78 : Int32) rfl ?_
      refine Gk.castore X320 hx hZ e320 V320 9 rfl ⟨by decide, by decide⟩ (.int (78 : Int32)) rfl (hb hby at_115) ?_
      intro T321 h321 X321 e321 W321 V321
      have N321 := Fr.snoc X321 N320 g_b311
      refine Gk.dup X321 hx (hb hby at_116) rfl ?_
      refine Gk.bipush X321 hx (hb hby at_117) (10 : Int32) rfl ?_
      refine Gk.bipush X321 hx (hb hby at_119) (86 : Int32) rfl ?_
      refine Gk.castore X321 hx hZ e321 V321 10 rfl ⟨by decide, by decide⟩ (.int (86 : Int32)) rfl (hb hby at_121) ?_
      intro T322 h322 X322 e322 W322 V322
      have N322 := Fr.snoc X322 N321 g_b311
      refine Gk.dup X322 hx (hb hby at_122) rfl ?_
      refine Gk.bipush X322 hx (hb hby at_123) (11 : Int32) rfl ?_
      refine Gk.bipush X322 hx (hb hby at_125) (65 : Int32) rfl ?_
      refine Gk.castore X322 hx hZ e322 V322 11 rfl ⟨by decide, by decide⟩ (.int (65 : Int32)) rfl (hb hby at_127) ?_
      intro T323 h323 X323 e323 W323 V323
      have N323 := Fr.snoc X323 N322 g_b311
      refine Gk.dup X323 hx (hb hby at_128) rfl ?_
      refine Gk.bipush X323 hx (hb hby at_129) (12 : Int32) rfl ?_
      refine Gk.bipush X323 hx (hb hby at_131) (76 : Int32) rfl ?_
      refine Gk.castore X323 hx hZ e323 V323 12 rfl ⟨by decide, by decide⟩ (.int (76 : Int32)) rfl (hb hby at_133) ?_
      intro T324 h324 X324 e324 W324 V324
      have N324 := Fr.snoc X324 N323 g_b311
      refine Gk.astore X324 hx (hb hby at_134) rfl #[.val (.int p1), .val (.int p2), .val (.int p3), .val (.int p4), .val (.int p5), .val (.int (1 : Int32)), .val (.int (1 : Int32)), .val (.int kk), .val (.int pos), .val (.int ch), .val (.int tail), .val (.ref b311), .unset, .unset, .unset, .unset] rfl ?_
      refine Gk.aload X324 hx (hb hby at_136) rfl rfl ?_
      refine Gk.iload X324 hx (hb hby at_138) rfl ?_
      refine Gk.iload X324 hx (hb hby at_140) rfl ?_
      refine Gk.castore X324 hx hZ e324 V324 pos.toNatClampNeg rfl (own_pos epos) (.int (nar .char ch)) rfl (hb hby at_142) ?_
      intro T325 h325 X325 e325 W325 V325
      have N325 := Fr.snoc X325 N324 g_b311
      refine Gk.bipush X325 hx (hb hby at_143) (14 : Int32) rfl ?_
      have gr327 := (Nat.le_trans (Nat.le_trans (Nat.le_trans (Nat.le_trans (Nat.le_trans (Nat.le_trans (Nat.le_trans (Nat.le_trans (Nat.le_trans (Nat.le_trans (Nat.le_trans (Nat.le_trans (Nat.le_trans (Nat.le_trans E311.1 (Keep.of_wr W312).1) (Keep.of_wr W313).1) (Keep.of_wr W314).1) (Keep.of_wr W315).1) (Keep.of_wr W316).1) (Keep.of_wr W317).1) (Keep.of_wr W318).1) (Keep.of_wr W319).1) (Keep.of_wr W320).1) (Keep.of_wr W321).1) (Keep.of_wr W322).1) (Keep.of_wr W323).1) (Keep.of_wr W324).1) (Keep.of_wr W325).1)
      refine Gk.newP X325 hx hZ (hw _ (List.mem_of_getElem? (i := 1) rfl)) e325 (hb hby at_145) (by decide) (cap := 14) (by decide) (by decide) (by decide) (by decide) rfl ?_
      intro T326 h326 b326 k326 X326 e326 E326 g326 A326 B326
      have g_b326 : n0 ≤ b326 := Nat.le_trans (Nat.le_trans Z0 gr327) (Nat.le_of_eq g326.symm)
      have V_b326 : Arf Z h326 b326 k326 .char (14 : Int32) (fun _ => (.int (0 : Int32))) := A326
      have lt_b326 := V_b326.lt
      refine Gk.dup X326 hx (hb hby at_147) rfl ?_
      refine Gk.iconst X326 hx (hb hby at_148) (0 : Int32) rfl ?_
      refine Gk.bipush X326 hx (hb hby at_149) (78 : Int32) rfl ?_
      refine Gk.castore X326 hx hZ e326 V_b326 0 rfl ⟨by decide, by decide⟩ (.int (78 : Int32)) rfl (hb hby at_151) ?_
      intro T328 h328 X328 e328 W328 V328
      have N328 := Fr.snoc X328 N325 g_b326
      refine Gk.dup X328 hx (hb hby at_152) rfl ?_
      refine Gk.iconst X328 hx (hb hby at_153) (1 : Int32) rfl ?_
      refine Gk.bipush X328 hx (hb hby at_154) (70 : Int32) rfl ?_
      refine Gk.castore X328 hx hZ e328 V328 1 rfl ⟨by decide, by decide⟩ (.int (70 : Int32)) rfl (hb hby at_156) ?_
      intro T329 h329 X329 e329 W329 V329
      have N329 := Fr.snoc X329 N328 g_b326
      refine Gk.dup X329 hx (hb hby at_157) rfl ?_
      refine Gk.iconst X329 hx (hb hby at_158) (2 : Int32) rfl ?_
      refine Gk.bipush X329 hx (hb hby at_159) (83 : Int32) rfl ?_
      refine Gk.castore X329 hx hZ e329 V329 2 rfl ⟨by decide, by decide⟩ (.int (83 : Int32)) rfl (hb hby at_161) ?_
      intro T330 h330 X330 e330 W330 V330
      have N330 := Fr.snoc X330 N329 g_b326
      refine Gk.dup X330 hx (hb hby at_162) rfl ?_
      refine Gk.iconst X330 hx (hb hby at_163) (3 : Int32) rfl ?_
      refine Gk.bipush X330 hx (hb hby at_164) (52 : Int32) rfl ?_
      refine Gk.castore X330 hx hZ e330 V330 3 rfl ⟨by decide, by decide⟩ (.int (52 : Int32)) rfl (hb hby at_166) ?_
      intro T331 h331 X331 e331 W331 V331
      have N331 := Fr.snoc X331 N330 g_b326
      refine Gk.dup X331 hx (hb hby at_167) rfl ?_
      refine Gk.iconst X331 hx (hb hby at_168) (4 : Int32) rfl ?_
      refine Gk.bipush X331 hx (hb hby at_169) (69 : Int32) rfl ?_
      refine Gk.castore X331 hx hZ e331 V331 4 rfl ⟨by decide, by decide⟩ (.int (69 : Int32)) rfl (hb hby at_171) ?_
      intro T332 h332 X332 e332 W332 V332
      have N332 := Fr.snoc X332 N331 g_b326
      refine Gk.dup X332 hx (hb hby at_172) rfl ?_
      refine Gk.iconst X332 hx (hb hby at_173) (5 : Int32) rfl ?_
      refine Gk.bipush X332 hx (hb hby at_174) (82 : Int32) rfl ?_
      refine Gk.castore X332 hx hZ e332 V332 5 rfl ⟨by decide, by decide⟩ (.int (82 : Int32)) rfl (hb hby at_176) ?_
      intro T333 h333 X333 e333 W333 V333
      have N333 := Fr.snoc X333 N332 g_b326
      refine Gk.dup X333 hx (hb hby at_177) rfl ?_
      refine Gk.bipush X333 hx (hb hby at_178) (6 : Int32) rfl ?_
      refine Gk.bipush X333 hx (hb hby at_180) (82 : Int32) rfl ?_
      refine Gk.castore X333 hx hZ e333 V333 6 rfl ⟨by decide, by decide⟩ (.int (82 : Int32)) rfl (hb hby at_182) ?_
      intro T334 h334 X334 e334 W334 V334
      have N334 := Fr.snoc X334 N333 g_b326
      refine Gk.dup X334 hx (hb hby at_183) rfl ?_
      refine Gk.bipush X334 hx (hb hby at_184) (7 : Int32) rfl ?_
      refine Gk.bipush X334 hx (hb hby at_186) (95 : Int32) rfl ?_
      refine Gk.castore X334 hx hZ e334 V334 7 rfl ⟨by decide, by decide⟩ (.int (95 : Int32)) rfl (hb hby at_188) ?_
      intro T335 h335 X335 e335 W335 V335
      have N335 := Fr.snoc X335 N334 g_b326
      refine Gk.dup X335 hx (hb hby at_189) rfl ?_
      refine Gk.bipush X335 hx (hb hby at_190) (8 : Int32) rfl ?_
      refine Gk.bipush X335 hx (hb hby at_192) (73 : Int32) rfl ?_
      refine Gk.castore X335 hx hZ e335 V335 8 rfl ⟨by decide, by decide⟩ (.int (73 : Int32)) rfl (hb hby at_194) ?_
      intro T336 h336 X336 e336 W336 V336
      have N336 := Fr.snoc X336 N335 g_b326
      refine Gk.dup X336 hx (hb hby at_195) rfl ?_
      refine Gk.bipush X336 hx (hb hby at_196) (9 : Int32) rfl ?_
      refine Gk.bipush X336 hx (hb hby at_198) (78 : Int32) rfl ?_
      refine Gk.castore X336 hx hZ e336 V336 9 rfl ⟨by decide, by decide⟩ (.int (78 : Int32)) rfl (hb hby at_200) ?_
      intro T337 h337 X337 e337 W337 V337
      have N337 := Fr.snoc X337 N336 g_b326
      refine Gk.dup X337 hx (hb hby at_201) rfl ?_
      refine Gk.bipush X337 hx (hb hby at_202) (10 : Int32) rfl ?_
      refine Gk.bipush X337 hx (hb hby at_204) (86 : Int32) rfl ?_
      refine Gk.castore X337 hx hZ e337 V337 10 rfl ⟨by decide, by decide⟩ (.int (86 : Int32)) rfl (hb hby at_206) ?_
      intro T338 h338 X338 e338 W338 V338
      have N338 := Fr.snoc X338 N337 g_b326
      refine Gk.dup X338 hx (hb hby at_207) rfl ?_
      refine Gk.bipush X338 hx (hb hby at_208) (11 : Int32) rfl ?_
      refine Gk.bipush X338 hx (hb hby at_210) (65 : Int32) rfl ?_
      refine Gk.castore X338 hx hZ e338 V338 11 rfl ⟨by decide, by decide⟩ (.int (65 : Int32)) rfl (hb hby at_212) ?_
      intro T339 h339 X339 e339 W339 V339
      have N339 := Fr.snoc X339 N338 g_b326
      refine Gk.dup X339 hx (hb hby at_213) rfl ?_
      refine Gk.bipush X339 hx (hb hby at_214) (12 : Int32) rfl ?_
      refine Gk.bipush X339 hx (hb hby at_216) (76 : Int32) rfl ?_
      refine Gk.castore X339 hx hZ e339 V339 12 rfl ⟨by decide, by decide⟩ (.int (76 : Int32)) rfl (hb hby at_218) ?_
      intro T340 h340 X340 e340 W340 V340
      have N340 := Fr.snoc X340 N339 g_b326
      refine Gk.dup X340 hx (hb hby at_219) rfl ?_
      refine Gk.bipush X340 hx (hb hby at_220) (13 : Int32) rfl ?_
      refine Gk.iload X340 hx (hb hby at_222) rfl ?_
      refine Gk.castore X340 hx hZ e340 V340 13 rfl ⟨by decide, by decide⟩ (.int (nar .char tail)) rfl (hb hby at_224) ?_
      intro T341 h341 X341 e341 W341 V341
      have N341 := Fr.snoc X341 N340 g_b326
      refine Gk.astore X341 hx (hb hby at_225) rfl #[.val (.int p1), .val (.int p2), .val (.int p3), .val (.int p4), .val (.int p5), .val (.int (1 : Int32)), .val (.int (1 : Int32)), .val (.int kk), .val (.int pos), .val (.int ch), .val (.int tail), .val (.ref b311), .val (.ref b326), .unset, .unset, .unset] rfl ?_
      have H342 := ((((((((((((((((((((((((((((((S_SUPPORTED.ext E311).wr W312).wr W313).wr W314).wr W315).wr W316).wr W317).wr W318).wr W319).wr W320).wr W321).wr W322).wr W323).wr W324).wr W325).ext E326).wr W328).wr W329).wr W330).wr W331).wr W332).wr W333).wr W334).wr W335).wr W336).wr W337).wr W338).wr W339).wr W340).wr W341)
      have H343 := ((((((((((((((((((((((((((((((S_UNDETERMINED.ext E311).wr W312).wr W313).wr W314).wr W315).wr W316).wr W317).wr W318).wr W319).wr W320).wr W321).wr W322).wr W323).wr W324).wr W325).ext E326).wr W328).wr W329).wr W330).wr W331).wr W332).wr W333).wr W334).wr W335).wr W336).wr W337).wr W338).wr W339).wr W340).wr W341)
      have H344 := ((((((((((((((((((((((((((((((S_UNKNOWN.ext E311).wr W312).wr W313).wr W314).wr W315).wr W316).wr W317).wr W318).wr W319).wr W320).wr W321).wr W322).wr W323).wr W324).wr W325).ext E326).wr W328).wr W329).wr W330).wr W331).wr W332).wr W333).wr W334).wr W335).wr W336).wr W337).wr W338).wr W339).wr W340).wr W341)
      have H345 := ((((((((((((((((((((((((((((((S_KNOWN_UNSUPPORTED.ext E311).wr W312).wr W313).wr W314).wr W315).wr W316).wr W317).wr W318).wr W319).wr W320).wr W321).wr W322).wr W323).wr W324).wr W325).ext E326).wr W328).wr W329).wr W330).wr W331).wr W332).wr W333).wr W334).wr W335).wr W336).wr W337).wr W338).wr W339).wr W340).wr W341)
      have H346 := ((((((((((((((((((((((((((((((S_COMPACT_STRINGS.ext E311).wr W312).wr W313).wr W314).wr W315).wr W316).wr W317).wr W318).wr W319).wr W320).wr W321).wr W322).wr W323).wr W324).wr W325).ext E326).wr W328).wr W329).wr W330).wr W331).wr W332).wr W333).wr W334).wr W335).wr W336).wr W337).wr W338).wr W339).wr W340).wr W341)
      have H347 := ((((((((((((((((((((((((((((((S_SIOOBE_FORMATTER.ext E311).wr W312).wr W313).wr W314).wr W315).wr W316).wr W317).wr W318).wr W319).wr W320).wr W321).wr W322).wr W323).wr W324).wr W325).ext E326).wr W328).wr W329).wr W330).wr W331).wr W332).wr W333).wr W334).wr W335).wr W336).wr W337).wr W338).wr W339).wr W340).wr W341)
      have gr348 := (Nat.le_trans (Nat.le_trans (Nat.le_trans (Nat.le_trans (Nat.le_trans (Nat.le_trans (Nat.le_trans (Nat.le_trans (Nat.le_trans (Nat.le_trans (Nat.le_trans (Nat.le_trans (Nat.le_trans (Nat.le_trans (Nat.le_trans gr327 E326.1) (Keep.of_wr W328).1) (Keep.of_wr W329).1) (Keep.of_wr W330).1) (Keep.of_wr W331).1) (Keep.of_wr W332).1) (Keep.of_wr W333).1) (Keep.of_wr W334).1) (Keep.of_wr W335).1) (Keep.of_wr W336).1) (Keep.of_wr W337).1) (Keep.of_wr W338).1) (Keep.of_wr W339).1) (Keep.of_wr W340).1) (Keep.of_wr W341).1)
      refine Gk.iload X341 hx (hb hby at_227) rfl ?_
      by_cases hc229 : kk = (0 : Int32)
      · refine Gk.ifNo X341 hx (hb hby at_229) (teq hc229).2 ?_
        have R350_ := own_chrOld (h' := h341) hCH (by rw [← hh]; exact fun b_ cl_ q_ => e341 ▸ oldF X341 (by rw [hh, ← hn0]; exact N341) b_ cl_ q_)
        refine Gk.ldcH (s := s) (show Stand p l e room_1 (s.setVm s.vm) m _ below meth c _ _ _ _ from X341) hx hZ hown (hw _ (List.mem_of_getElem? (i := 47) rfl)) (own_wS hw) e341 ((State.WarmedH.refl s).since 0) (Nat.zero_le _) (own_EW hw) (List.mem_of_getElem? (i := 1) rfl) R350_.1 lit0T (hb hby at_232) (n := 52) (by decide) (by decide) (by decide) (by decide) ?_
        intro la349 T349 h349 kS349 lb349 lk349 X349 e349 E349 S349_ q349_ Z349_ o349_ lA349 lFc349 lFv349 lV349 llt349 lltb349 C349_ Lt349_ d349_
        have R349_ := R350_.trans C349_
        refine Gk.astore X349 hx (hb hby at_234) rfl #[.val (.int p1), .val (.int p2), .val (.int p3), .val (.int p4), .val (.int p5), .val (.int (1 : Int32)), .val (.int (1 : Int32)), .val (.int kk), .val (.int pos), .val (.int ch), .val (.int tail), .val (.ref b311), .val (.ref b326), .val (.ref la349), .unset, .unset] rfl ?_
        refine Gk.iconst X349 hx (hb hby at_236) (1 : Int32) rfl ?_
        refine Gk.istore X349 hx (hb hby at_237) #[.val (.int p1), .val (.int p2), .val (.int p3), .val (.int p4), .val (.int p5), .val (.int (1 : Int32)), .val (.int (1 : Int32)), .val (.int kk), .val (.int pos), .val (.int ch), .val (.int tail), .val (.ref b311), .val (.ref b326), .val (.ref la349), .val (.int (1 : Int32)), .unset] rfl ?_
        refine Gk.goto X349 hx (hb hby at_239) 376 (by decide) (by decide) ?_
        refine Gk.iload X349 hx (hb hby at_376) rfl ?_
        refine Gk.ifNo X349 hx (hb hby at_378) (feq (by decide : ¬ ((1 : Int32) = (0 : Int32)))).1 ?_
        have H351 := (H342.ext E349)
        refine Gk.getS X349 hx Z349_ o349_ (host := "") (Or.inl (hw _ (List.mem_of_getElem? (i := 19) rfl))) Via.refl e349 H351.sta (hb hby at_381) ?_
        intro T352 X352 e352
        refine Gk.astore X352 hx (hb hby at_384) rfl #[.val (.int p1), .val (.int p2), .val (.int p3), .val (.int p4), .val (.int p5), .val (.int (1 : Int32)), .val (.int (1 : Int32)), .val (.int kk), .val (.int pos), .val (.int ch), .val (.int tail), .val (.ref b311), .val (.ref b326), .val (.ref la349), .val (.int (1 : Int32)), .val (.ref w_SUPPORTED)] rfl ?_
        refine Gk.goto X352 hx (hb hby at_386) 420 (by decide) (by decide) ?_
        refine Gk.iload X352 hx (hb hby at_420) rfl ?_
        refine Gk.aload X352 hx (hb hby at_422) rfl rfl ?_
        refine Gk.iload X352 hx (hb hby at_424) rfl ?_
        refine Gk.callS (argsL := [(.int (1 : Int32)), (.ref la349), (.int (1 : Int32))]) X352 hx Z349_ o349_ (ats_1 l Z a0 hw [] la349 (1 : Int32) w_SUPPORTED h349 n0 (Nat.le_trans Z0 (Nat.le_trans gr348 E349.1)) H351) (hw _ (List.mem_of_getElem? (i := 13) rfl)) (hw _ (List.mem_of_getElem? (i := 14) rfl)) (hw _ (List.mem_of_getElem? (i := 15) rfl)) (hw _ (List.mem_of_getElem? (i := 16) rfl)) (by decide) e352 pd_10 rfl rfl (by decide) (Nat.le_of_ble_eq_true rfl) (by decide) (by decide) (by rw [hml]; rfl)  rfl (hb hby at_426) ?_
        intro T353 L353 v353 X353 hQ353
        obtain ⟨rfl, N353q, e353⟩ := hQ353
        have N353 := Fr.app N341 N353q
        show Go p e below (T353.setTop (mkF m 429 #[.val (.int p1), .val (.int p2), .val (.int p3), .val (.int p4), .val (.int p5), .val (.int (1 : Int32)), .val (.int (1 : Int32)), .val (.int kk), .val (.int pos), .val (.int ch), .val (.int tail), .val (.ref b311), .val (.ref b326), .val (.ref la349), .val (.int (1 : Int32)), .val (.ref w_SUPPORTED)] [(.ref w_SUPPORTED)])) _
        refine Gk.aload X353 hx (hb hby at_429) rfl rfl ?_
        refine Gk.acmp X353 hx (hb hby at_431) rfl rfl true (decide_eq_true rfl) 434 (by decide) (by decide) ?_
        refine Gk.iconst X353 hx (hb hby at_434) (1 : Int32) rfl ?_
        refine Gk.goto X353 hx (hb hby at_435) 439 (by decide) (by decide) ?_
        refine Gk.finW (s := s) X353 e353 S349_ (Nat.le_trans q349_ (Nat.le_refl _)) (v := some (.int (1 : Int32))) (fun h_ => by rw [Bd.returns] at h_; cases h_) Bd.notSynchronized (fun _ hr => retN X353 hx (t := .boolean) Bd.returns (by simp) (hb hby at_439) hr) (fun U' hU hF => ⟨_, _, rfl, ?_, hF.1, hF.2.1, hF.2.2.1, hF.2.2.2.mono (by decide) (by decide)⟩)
        exact ⟨(congrArg (fun z_ : Int32 => some (Value.int z_)) (show (1 : Int32) = (1 : Int32) from rfl)), N353⟩
      · refine Gk.ifYes X341 hx (hb hby at_229) (feq hc229).2 242 (by decide) (by decide) ?_
        refine Gk.iload X341 hx (hb hby at_242) rfl ?_
        refine Gk.iconst X341 hx (hb hby at_244) (1 : Int32) rfl ?_
        by_cases hc245 : kk = (1 : Int32)
        · refine Gk.icmpNo X341 hx (hb hby at_245) (teq hc245).2 ?_
          refine Gk.newO X341 hx hZ hown (hw _ (List.mem_of_getElem? (i := 22) rfl)) (hw _ (List.mem_of_getElem? (i := 4) rfl)) (hw _ (List.mem_of_getElem? (i := 3) rfl)) e341 (hb hby at_248) (by decide) (by decide) ?_
          intro T354 h354 b354 X354 e354 E354 g354 A354 D354
          have g_b354 : n0 ≤ b354 := Nat.le_trans (Nat.le_trans Z0 gr348) (Nat.le_of_eq g354.symm)
          have lt_b354 := A354.lt
          have F_value_b354 : Fld Z h354 b354 "java/lang/String" "value" "[B" .null := D354 (Or.inr (hw _ (List.mem_of_getElem? (i := 6) rfl))) (ty := (.array .byte)) (by decide)
          have F_coder_b354 : Fld Z h354 b354 "java/lang/String" "coder" "B" (.int (0 : Int32)) := D354 (Or.inr (hw _ (List.mem_of_getElem? (i := 7) rfl))) (ty := .byte) (by decide)
          refine Gk.dup X354 hx (hb hby at_251) rfl ?_
          refine Gk.aload X354 hx (hb hby at_252) rfl rfl ?_
          have gr356 := (Nat.le_trans (Nat.le_trans (Nat.le_trans (Nat.le_trans (Nat.le_trans (Nat.le_trans (Nat.le_trans (Nat.le_trans (Nat.le_trans (Nat.le_trans (Nat.le_trans (Nat.le_trans (Nat.le_trans (Keep.of_wr W312).1 (Keep.of_wr W313).1) (Keep.of_wr W314).1) (Keep.of_wr W315).1) (Keep.of_wr W316).1) (Keep.of_wr W317).1) (Keep.of_wr W318).1) (Keep.of_wr W319).1) (Keep.of_wr W320).1) (Keep.of_wr W321).1) (Keep.of_wr W322).1) (Keep.of_wr W323).1) (Keep.of_wr W324).1) (Keep.of_wr W325).1)
          have ne357 : b311 ≠ b326 := (Nat.ne_of_lt (Nat.lt_of_lt_of_le lt_b311 (Nat.le_trans gr356 (Nat.le_of_eq g326.symm))))
          have H358 := ((((((((((((((((V325.ext E326).other W328 ne357).other W329 ne357).other W330 ne357).other W331 ne357).other W332 ne357).other W333 ne357).other W334 ne357).other W335 ne357).other W336 ne357).other W337 ne357).other W338 ne357).other W339 ne357).other W340 ne357).other W341 ne357).ext E354)
          have H359 := (H346.ext E354)
          refine Gk.callI (argsL := [(.ref b311)]) X354 hx hZ hown (str_13 l Z a0 hw [] b354 b311 k311 (upd (upd (upd (upd (upd (upd (upd (upd (upd (upd (upd (upd (upd (upd (fun _ => (.int (0 : Int32))) 0 (.int (78 : Int32))) 1 (.int (70 : Int32))) 2 (.int (83 : Int32))) 3 (.int (52 : Int32))) 4 (.int (69 : Int32))) 5 (.int (82 : Int32))) 6 (.int (82 : Int32))) 7 (.int (95 : Int32))) 8 (.int (73 : Int32))) 9 (.int (78 : Int32))) 10 (.int (86 : Int32))) 11 (.int (65 : Int32))) 12 (.int (76 : Int32))) pos.toNatClampNeg (.int (nar .char ch))) (if 0 = pos.toNatClampNeg then (nar .char ch) else (78 : Int32)) (if 1 = pos.toNatClampNeg then (nar .char ch) else (70 : Int32)) (if 2 = pos.toNatClampNeg then (nar .char ch) else (83 : Int32)) (if 3 = pos.toNatClampNeg then (nar .char ch) else (52 : Int32)) (if 4 = pos.toNatClampNeg then (nar .char ch) else (69 : Int32)) (if 5 = pos.toNatClampNeg then (nar .char ch) else (82 : Int32)) (if 6 = pos.toNatClampNeg then (nar .char ch) else (82 : Int32)) (if 7 = pos.toNatClampNeg then (nar .char ch) else (95 : Int32)) (if 8 = pos.toNatClampNeg then (nar .char ch) else (73 : Int32)) (if 9 = pos.toNatClampNeg then (nar .char ch) else (78 : Int32)) (if 10 = pos.toNatClampNeg then (nar .char ch) else (86 : Int32)) (if 11 = pos.toNatClampNeg then (nar .char ch) else (65 : Int32)) (if 12 = pos.toNatClampNeg then (nar .char ch) else (76 : Int32)) (.int (0 : Int32)) .null w_COMPACT_STRINGS h354 n0 (Nat.le_trans Z0 (Nat.le_trans gr348 E354.1)) H359 A354 H358 (own_updP rfl) (own_updP rfl) (own_updP rfl) (own_updP rfl) (own_updP rfl) (own_updP rfl) (own_updP rfl) (own_updP rfl) (own_updP rfl) (own_updP rfl) (own_updP rfl) (own_updP rfl) (own_updP rfl) (own_ite (own_ch ech) (by decide)) (own_ite (own_ch ech) (by decide)) (own_ite (own_ch ech) (by decide)) (own_ite (own_ch ech) (by decide)) (own_ite (own_ch ech) (by decide)) (own_ite (own_ch ech) (by decide)) (own_ite (own_ch ech) (by decide)) (own_ite (own_ch ech) (by decide)) (own_ite (own_ch ech) (by decide)) (own_ite (own_ch ech) (by decide)) (own_ite (own_ch ech) (by decide)) (own_ite (own_ch ech) (by decide)) (own_ite (own_ch ech) (by decide)) hcs F_coder_b354 g_b354 F_value_b354) rfl (hw _ (List.mem_of_getElem? (i := 23) rfl)) (hw _ (List.mem_of_getElem? (i := 24) rfl)) (hw _ (List.mem_of_getElem? (i := 25) rfl)) rfl (by decide) (hw _ (List.mem_of_getElem? (i := 3) rfl)) e354 pd_11 rfl rfl (by decide) (Nat.le_of_ble_eq_true rfl) (by decide) (by decide) (by rw [hml]; rfl)  rfl (hb hby at_254) ?_
          intro T355 L355 v355 X355 hQ355
          obtain ⟨rfl, N355q, K355, Fc355, y355, k355_, le355, Fv355, V355⟩ := hQ355
          have N355 := Fr.app N341 N355q
          show Go p e below (T355.setTop (mkF m 257 #[.val (.int p1), .val (.int p2), .val (.int p3), .val (.int p4), .val (.int p5), .val (.int (1 : Int32)), .val (.int (1 : Int32)), .val (.int kk), .val (.int pos), .val (.int ch), .val (.int tail), .val (.ref b311), .val (.ref b326), .unset, .unset, .unset] [(.ref b354)])) _
          refine Gk.astore X355 hx (hb hby at_257) rfl #[.val (.int p1), .val (.int p2), .val (.int p3), .val (.int p4), .val (.int p5), .val (.int (1 : Int32)), .val (.int (1 : Int32)), .val (.int kk), .val (.int pos), .val (.int ch), .val (.int tail), .val (.ref b311), .val (.ref b326), .val (.ref b354), .unset, .unset] rfl ?_
          refine Gk.iload X355 hx (hb hby at_259) rfl ?_
          have R361_ := own_chrOld (h' := T355.heap) hCH (by rw [← hh]; exact fun b_ cl_ q_ => oldF X355 (by rw [hh, ← hn0]; exact N355) b_ cl_ q_)
          refine Gk.ldcH (s := s) (show Stand p l e room_1 (s.setVm s.vm) m _ below meth c _ _ _ _ from X355) hx hZ hown (hw _ (List.mem_of_getElem? (i := 47) rfl)) (own_wS hw) rfl ((State.WarmedH.refl s).since 0) (Nat.zero_le _) (own_EW hw) (List.mem_of_getElem? (i := 1) rfl) R361_.1 lit0T (hb hby at_261) (n := 52) (by decide) (by decide) (by decide) (by decide) ?_
          have gr362 := (Nat.le_trans (Nat.le_trans gr348 E354.1) K355.1)
          intro la360 T360 h360 kS360 lb360 lk360 X360 e360 E360 S360_ q360_ Z360_ o360_ lA360 lFc360 lFv360 lV360 llt360 lltb360 C360_ Lt360_ d360_
          have R360_ := R361_.trans C360_
          refine Gk.iload X360 hx (hb hby at_263) rfl ?_
          have H364 := ((H359.keep K355 (allS g_b354 all0)).ext E360)
          have H365 := (((H347.ext E354).keep K355 (allS g_b354 all0)).ext E360)
          refine Gk.callV (argsL := [(.int pos)]) X360 hx Z360_ o360_ (rm8 l Z a0 hw [] la360 pos lb360 lk360 (fun i => .int ((fun j_ => lit0L.getD j_ 0) i)) (13 : Int32) (lit0L.getD pos.toNatClampNeg 0) w_COMPACT_STRINGS w_SIOOBE_FORMATTER h360 n0 (Nat.le_trans Z0 (Nat.le_trans gr362 E360.1)) H364 H365 lA360 lFc360 lFv360 lV360 (own_pos epos).1 (own_pos epos).2 rfl hcs hsf) (hw _ (List.mem_of_getElem? (i := 48) rfl)) (hw _ (List.mem_of_getElem? (i := 49) rfl)) (notFace_of_selects (args := #[]) (mvT Z360_ (hw _ (List.mem_of_getElem? (i := 51) rfl)))) (hw _ (List.mem_of_getElem? (i := 51) rfl)) (hw _ (List.mem_of_getElem? (i := 50) rfl)) (by decide) (hw _ (List.mem_of_getElem? (i := 52) rfl)) (hw _ (List.mem_of_getElem? (i := 3) rfl)) e360 lA360 pd_12 rfl rfl (by decide) (Nat.le_of_ble_eq_true rfl) (by decide) (by decide) (by rw [hml]; rfl)  rfl (hb hby at_265) ?_
          intro T363 L363 v363 X363 hQ363
          obtain ⟨rfl, N363q, e363⟩ := hQ363
          have N363 := Fr.app N355 N363q
          show Go p e below (T363.setTop (mkF m 268 #[.val (.int p1), .val (.int p2), .val (.int p3), .val (.int p4), .val (.int p5), .val (.int (1 : Int32)), .val (.int (1 : Int32)), .val (.int kk), .val (.int pos), .val (.int ch), .val (.int tail), .val (.ref b311), .val (.ref b326), .val (.ref b354), .unset, .unset] [(.int (nar .char (nar .char (((lit0L.getD pos.toNatClampNeg 0) &&& (255 : Int32)).toUInt32.toUInt16.toUInt32.toInt32)))), (.int ch)])) _
          by_cases hc268 : ch = (nar .char (nar .char (((lit0L.getD pos.toNatClampNeg 0) &&& (255 : Int32)).toUInt32.toUInt16.toUInt32.toInt32)))
          · refine Gk.icmpNo X363 hx (hb hby at_268) (teq hc268).2 ?_
            refine Gk.iconst X363 hx (hb hby at_271) (1 : Int32) rfl ?_
            refine Gk.goto X363 hx (hb hby at_272) 276 (by decide) (by decide) ?_
            refine Gk.istore X363 hx (hb hby at_276) #[.val (.int p1), .val (.int p2), .val (.int p3), .val (.int p4), .val (.int p5), .val (.int (1 : Int32)), .val (.int (1 : Int32)), .val (.int kk), .val (.int pos), .val (.int ch), .val (.int tail), .val (.ref b311), .val (.ref b326), .val (.ref b354), .val (.int (1 : Int32)), .unset] rfl ?_
            refine Gk.goto X363 hx (hb hby at_278) 376 (by decide) (by decide) ?_
            refine Gk.iload X363 hx (hb hby at_376) rfl ?_
            refine Gk.ifNo X363 hx (hb hby at_378) (feq (by decide : ¬ ((1 : Int32) = (0 : Int32)))).1 ?_
            have H366 := (((H342.ext E354).keep K355 (allS g_b354 all0)).ext E360)
            refine Gk.getS X363 hx Z360_ o360_ (host := "") (Or.inl (hw _ (List.mem_of_getElem? (i := 19) rfl))) Via.refl e363 H366.sta (hb hby at_381) ?_
            intro T367 X367 e367
            refine Gk.astore X367 hx (hb hby at_384) rfl #[.val (.int p1), .val (.int p2), .val (.int p3), .val (.int p4), .val (.int p5), .val (.int (1 : Int32)), .val (.int (1 : Int32)), .val (.int kk), .val (.int pos), .val (.int ch), .val (.int tail), .val (.ref b311), .val (.ref b326), .val (.ref b354), .val (.int (1 : Int32)), .val (.ref w_SUPPORTED)] rfl ?_
            refine Gk.goto X367 hx (hb hby at_386) 420 (by decide) (by decide) ?_
            refine Gk.iload X367 hx (hb hby at_420) rfl ?_
            refine Gk.aload X367 hx (hb hby at_422) rfl rfl ?_
            refine Gk.iload X367 hx (hb hby at_424) rfl ?_
            refine Gk.callS (argsL := [(.int (1 : Int32)), (.ref b354), (.int (1 : Int32))]) X367 hx Z360_ o360_ (ats_1 l Z a0 hw [] b354 (1 : Int32) w_SUPPORTED h360 n0 (Nat.le_trans Z0 (Nat.le_trans gr362 E360.1)) H366) (hw _ (List.mem_of_getElem? (i := 13) rfl)) (hw _ (List.mem_of_getElem? (i := 14) rfl)) (hw _ (List.mem_of_getElem? (i := 15) rfl)) (hw _ (List.mem_of_getElem? (i := 16) rfl)) (by decide) e367 pd_10 rfl rfl (by decide) (Nat.le_of_ble_eq_true rfl) (by decide) (by decide) (by rw [hml]; rfl)  rfl (hb hby at_426) ?_
            intro T368 L368 v368 X368 hQ368
            obtain ⟨rfl, N368q, e368⟩ := hQ368
            have N368 := Fr.app N363 N368q
            show Go p e below (T368.setTop (mkF m 429 #[.val (.int p1), .val (.int p2), .val (.int p3), .val (.int p4), .val (.int p5), .val (.int (1 : Int32)), .val (.int (1 : Int32)), .val (.int kk), .val (.int pos), .val (.int ch), .val (.int tail), .val (.ref b311), .val (.ref b326), .val (.ref b354), .val (.int (1 : Int32)), .val (.ref w_SUPPORTED)] [(.ref w_SUPPORTED)])) _
            refine Gk.aload X368 hx (hb hby at_429) rfl rfl ?_
            refine Gk.acmp X368 hx (hb hby at_431) rfl rfl true (decide_eq_true rfl) 434 (by decide) (by decide) ?_
            refine Gk.iconst X368 hx (hb hby at_434) (1 : Int32) rfl ?_
            refine Gk.goto X368 hx (hb hby at_435) 439 (by decide) (by decide) ?_
            refine Gk.finW (s := s) X368 e368 S360_ (Nat.le_trans q360_ (Nat.le_refl _)) (v := some (.int (1 : Int32))) (fun h_ => by rw [Bd.returns] at h_; cases h_) Bd.notSynchronized (fun _ hr => retN X368 hx (t := .boolean) Bd.returns (by simp) (hb hby at_439) hr) (fun U' hU hF => ⟨_, _, rfl, ?_, hF.1, hF.2.1, hF.2.2.1, hF.2.2.2.mono (by decide) (by decide)⟩)
            exact ⟨(congrArg (fun z_ : Int32 => some (Value.int z_)) (show (1 : Int32) = (1 : Int32) from rfl)), N368⟩
          · refine Gk.icmpYes X363 hx (hb hby at_268) (feq hc268).2 275 (by decide) (by decide) ?_
            refine Gk.iconst X363 hx (hb hby at_275) (0 : Int32) rfl ?_
            refine Gk.istore X363 hx (hb hby at_276) #[.val (.int p1), .val (.int p2), .val (.int p3), .val (.int p4), .val (.int p5), .val (.int (1 : Int32)), .val (.int (1 : Int32)), .val (.int kk), .val (.int pos), .val (.int ch), .val (.int tail), .val (.ref b311), .val (.ref b326), .val (.ref b354), .val (.int (0 : Int32)), .unset] rfl ?_
            refine Gk.goto X363 hx (hb hby at_278) 376 (by decide) (by decide) ?_
            refine Gk.iload X363 hx (hb hby at_376) rfl ?_
            refine Gk.ifNo X363 hx (hb hby at_378) (feq (by decide : ¬ ((1 : Int32) = (0 : Int32)))).1 ?_
            have H369 := (((H342.ext E354).keep K355 (allS g_b354 all0)).ext E360)
            refine Gk.getS X363 hx Z360_ o360_ (host := "") (Or.inl (hw _ (List.mem_of_getElem? (i := 19) rfl))) Via.refl e363 H369.sta (hb hby at_381) ?_
            intro T370 X370 e370
            refine Gk.astore X370 hx (hb hby at_384) rfl #[.val (.int p1), .val (.int p2), .val (.int p3), .val (.int p4), .val (.int p5), .val (.int (1 : Int32)), .val (.int (1 : Int32)), .val (.int kk), .val (.int pos), .val (.int ch), .val (.int tail), .val (.ref b311), .val (.ref b326), .val (.ref b354), .val (.int (0 : Int32)), .val (.ref w_SUPPORTED)] rfl ?_
            refine Gk.goto X370 hx (hb hby at_386) 420 (by decide) (by decide) ?_
            refine Gk.iload X370 hx (hb hby at_420) rfl ?_
            refine Gk.aload X370 hx (hb hby at_422) rfl rfl ?_
            refine Gk.iload X370 hx (hb hby at_424) rfl ?_
            refine Gk.callS (argsL := [(.int (1 : Int32)), (.ref b354), (.int (1 : Int32))]) X370 hx Z360_ o360_ (ats_1 l Z a0 hw [] b354 (1 : Int32) w_SUPPORTED h360 n0 (Nat.le_trans Z0 (Nat.le_trans gr362 E360.1)) H369) (hw _ (List.mem_of_getElem? (i := 13) rfl)) (hw _ (List.mem_of_getElem? (i := 14) rfl)) (hw _ (List.mem_of_getElem? (i := 15) rfl)) (hw _ (List.mem_of_getElem? (i := 16) rfl)) (by decide) e370 pd_10 rfl rfl (by decide) (Nat.le_of_ble_eq_true rfl) (by decide) (by decide) (by rw [hml]; rfl)  rfl (hb hby at_426) ?_
            intro T371 L371 v371 X371 hQ371
            obtain ⟨rfl, N371q, e371⟩ := hQ371
            have N371 := Fr.app N363 N371q
            show Go p e below (T371.setTop (mkF m 429 #[.val (.int p1), .val (.int p2), .val (.int p3), .val (.int p4), .val (.int p5), .val (.int (1 : Int32)), .val (.int (1 : Int32)), .val (.int kk), .val (.int pos), .val (.int ch), .val (.int tail), .val (.ref b311), .val (.ref b326), .val (.ref b354), .val (.int (0 : Int32)), .val (.ref w_SUPPORTED)] [(.ref w_SUPPORTED)])) _
            refine Gk.aload X371 hx (hb hby at_429) rfl rfl ?_
            refine Gk.acmp X371 hx (hb hby at_431) rfl rfl true (decide_eq_true rfl) 434 (by decide) (by decide) ?_
            refine Gk.iconst X371 hx (hb hby at_434) (1 : Int32) rfl ?_
            refine Gk.goto X371 hx (hb hby at_435) 439 (by decide) (by decide) ?_
            refine Gk.finW (s := s) X371 e371 S360_ (Nat.le_trans q360_ (Nat.le_refl _)) (v := some (.int (1 : Int32))) (fun h_ => by rw [Bd.returns] at h_; cases h_) Bd.notSynchronized (fun _ hr => retN X371 hx (t := .boolean) Bd.returns (by simp) (hb hby at_439) hr) (fun U' hU hF => ⟨_, _, rfl, ?_, hF.1, hF.2.1, hF.2.2.1, hF.2.2.2.mono (by decide) (by decide)⟩)
            exact ⟨(congrArg (fun z_ : Int32 => some (Value.int z_)) (show (1 : Int32) = (1 : Int32) from rfl)), N371⟩
        · refine Gk.icmpYes X341 hx (hb hby at_245) (feq hc245).2 281 (by decide) (by decide) ?_
          refine Gk.iload X341 hx (hb hby at_281) rfl ?_
          refine Gk.iconst X341 hx (hb hby at_283) (2 : Int32) rfl ?_
          by_cases hc284 : kk = (2 : Int32)
          · refine Gk.icmpNo X341 hx (hb hby at_284) (teq hc284).2 ?_
            refine Gk.newO X341 hx hZ hown (hw _ (List.mem_of_getElem? (i := 22) rfl)) (hw _ (List.mem_of_getElem? (i := 4) rfl)) (hw _ (List.mem_of_getElem? (i := 3) rfl)) e341 (hb hby at_287) (by decide) (by decide) ?_
            intro T372 h372 b372 X372 e372 E372 g372 A372 D372
            have g_b372 : n0 ≤ b372 := Nat.le_trans (Nat.le_trans Z0 gr348) (Nat.le_of_eq g372.symm)
            have lt_b372 := A372.lt
            have F_value_b372 : Fld Z h372 b372 "java/lang/String" "value" "[B" .null := D372 (Or.inr (hw _ (List.mem_of_getElem? (i := 6) rfl))) (ty := (.array .byte)) (by decide)
            have F_coder_b372 : Fld Z h372 b372 "java/lang/String" "coder" "B" (.int (0 : Int32)) := D372 (Or.inr (hw _ (List.mem_of_getElem? (i := 7) rfl))) (ty := .byte) (by decide)
            refine Gk.dup X372 hx (hb hby at_290) rfl ?_
            refine Gk.aload X372 hx (hb hby at_291) rfl rfl ?_
            have H374 := (V341.ext E372)
            have H375 := (H346.ext E372)
            refine Gk.callI (argsL := [(.ref b326)]) X372 hx hZ hown (str_14 l Z a0 hw [] b372 b326 k326 (upd (upd (upd (upd (upd (upd (upd (upd (upd (upd (upd (upd (upd (upd (fun _ => (.int (0 : Int32))) 0 (.int (78 : Int32))) 1 (.int (70 : Int32))) 2 (.int (83 : Int32))) 3 (.int (52 : Int32))) 4 (.int (69 : Int32))) 5 (.int (82 : Int32))) 6 (.int (82 : Int32))) 7 (.int (95 : Int32))) 8 (.int (73 : Int32))) 9 (.int (78 : Int32))) 10 (.int (86 : Int32))) 11 (.int (65 : Int32))) 12 (.int (76 : Int32))) 13 (.int (nar .char tail))) (78 : Int32) (70 : Int32) (83 : Int32) (52 : Int32) (69 : Int32) (82 : Int32) (82 : Int32) (95 : Int32) (73 : Int32) (78 : Int32) (86 : Int32) (65 : Int32) (76 : Int32) (nar .char tail) (.int (0 : Int32)) .null w_COMPACT_STRINGS h372 n0 (Nat.le_trans Z0 (Nat.le_trans gr348 E372.1)) H375 A372 H374 rfl rfl rfl rfl rfl rfl rfl rfl rfl rfl rfl rfl rfl rfl (by decide) (by decide) (by decide) (by decide) (by decide) (by decide) (by decide) (by decide) (by decide) (by decide) (by decide) (by decide) (by decide) (own_ch etail) hcs F_coder_b372 g_b372 F_value_b372) rfl (hw _ (List.mem_of_getElem? (i := 23) rfl)) (hw _ (List.mem_of_getElem? (i := 24) rfl)) (hw _ (List.mem_of_getElem? (i := 25) rfl)) rfl (by decide) (hw _ (List.mem_of_getElem? (i := 3) rfl)) e372 pd_11 rfl rfl (by decide) (Nat.le_of_ble_eq_true rfl) (by decide) (by decide) (by rw [hml]; rfl)  rfl (hb hby at_293) ?_
            intro T373 L373 v373 X373 hQ373
            obtain ⟨rfl, N373q, K373, Fc373, y373, k373_, le373, Fv373, V373⟩ := hQ373
            have N373 := Fr.app N341 N373q
            show Go p e below (T373.setTop (mkF m 296 #[.val (.int p1), .val (.int p2), .val (.int p3), .val (.int p4), .val (.int p5), .val (.int (1 : Int32)), .val (.int (1 : Int32)), .val (.int kk), .val (.int pos), .val (.int ch), .val (.int tail), .val (.ref b311), .val (.ref b326), .unset, .unset, .unset] [(.ref b372)])) _
            refine Gk.astore X373 hx (hb hby at_296) rfl #[.val (.int p1), .val (.int p2), .val (.int p3), .val (.int p4), .val (.int p5), .val (.int (1 : Int32)), .val (.int (1 : Int32)), .val (.int kk), .val (.int pos), .val (.int ch), .val (.int tail), .val (.ref b311), .val (.ref b326), .val (.ref b372), .unset, .unset] rfl ?_
            refine Gk.iconst X373 hx (hb hby at_298) (0 : Int32) rfl ?_
            refine Gk.istore X373 hx (hb hby at_299) #[.val (.int p1), .val (.int p2), .val (.int p3), .val (.int p4), .val (.int p5), .val (.int (1 : Int32)), .val (.int (1 : Int32)), .val (.int kk), .val (.int pos), .val (.int ch), .val (.int tail), .val (.ref b311), .val (.ref b326), .val (.ref b372), .val (.int (0 : Int32)), .unset] rfl ?_
            refine Gk.goto X373 hx (hb hby at_301) 376 (by decide) (by decide) ?_
            refine Gk.iload X373 hx (hb hby at_376) rfl ?_
            refine Gk.ifNo X373 hx (hb hby at_378) (feq (by decide : ¬ ((1 : Int32) = (0 : Int32)))).1 ?_
            have H376 := ((H342.ext E372).keep K373 (allS g_b372 all0))
            refine Gk.getS X373 hx hZ hown (host := "") (Or.inl (hw _ (List.mem_of_getElem? (i := 19) rfl))) Via.refl rfl H376.sta (hb hby at_381) ?_
            intro T377 X377 e377
            refine Gk.astore X377 hx (hb hby at_384) rfl #[.val (.int p1), .val (.int p2), .val (.int p3), .val (.int p4), .val (.int p5), .val (.int (1 : Int32)), .val (.int (1 : Int32)), .val (.int kk), .val (.int pos), .val (.int ch), .val (.int tail), .val (.ref b311), .val (.ref b326), .val (.ref b372), .val (.int (0 : Int32)), .val (.ref w_SUPPORTED)] rfl ?_
            refine Gk.goto X377 hx (hb hby at_386) 420 (by decide) (by decide) ?_
            refine Gk.iload X377 hx (hb hby at_420) rfl ?_
            refine Gk.aload X377 hx (hb hby at_422) rfl rfl ?_
            refine Gk.iload X377 hx (hb hby at_424) rfl ?_
            have gr379 := (Nat.le_trans (Nat.le_trans gr348 E372.1) K373.1)
            refine Gk.callS (argsL := [(.int (1 : Int32)), (.ref b372), (.int (1 : Int32))]) X377 hx hZ hown (ats_1 l Z a0 hw [] b372 (1 : Int32) w_SUPPORTED T373.heap n0 (Nat.le_trans Z0 gr379) H376) (hw _ (List.mem_of_getElem? (i := 13) rfl)) (hw _ (List.mem_of_getElem? (i := 14) rfl)) (hw _ (List.mem_of_getElem? (i := 15) rfl)) (hw _ (List.mem_of_getElem? (i := 16) rfl)) (by decide) e377 pd_10 rfl rfl (by decide) (Nat.le_of_ble_eq_true rfl) (by decide) (by decide) (by rw [hml]; rfl)  rfl (hb hby at_426) ?_
            intro T378 L378 v378 X378 hQ378
            obtain ⟨rfl, N378q, e378⟩ := hQ378
            have N378 := Fr.app N373 N378q
            show Go p e below (T378.setTop (mkF m 429 #[.val (.int p1), .val (.int p2), .val (.int p3), .val (.int p4), .val (.int p5), .val (.int (1 : Int32)), .val (.int (1 : Int32)), .val (.int kk), .val (.int pos), .val (.int ch), .val (.int tail), .val (.ref b311), .val (.ref b326), .val (.ref b372), .val (.int (0 : Int32)), .val (.ref w_SUPPORTED)] [(.ref w_SUPPORTED)])) _
            refine Gk.aload X378 hx (hb hby at_429) rfl rfl ?_
            refine Gk.acmp X378 hx (hb hby at_431) rfl rfl true (decide_eq_true rfl) 434 (by decide) (by decide) ?_
            refine Gk.iconst X378 hx (hb hby at_434) (1 : Int32) rfl ?_
            refine Gk.goto X378 hx (hb hby at_435) 439 (by decide) (by decide) ?_
            refine Go.fin X378 (v := some (.int (1 : Int32))) (fun h_ => by rw [Bd.returns] at h_; cases h_) Bd.notSynchronized (fun _ hr => retN X378 hx (t := .boolean) Bd.returns (by simp) (hb hby at_439) hr) (fun U' hU hF => ⟨_, _, rfl, ?_, ReturnedEndW.of_narrow hF.1 hF.2.1 (hF.2.2.mono (by decide) (by decide))⟩)
            exact ⟨(congrArg (fun z_ : Int32 => some (Value.int z_)) (show (1 : Int32) = (1 : Int32) from rfl)), N378⟩
          · refine Gk.icmpYes X341 hx (hb hby at_284) (feq hc284).2 304 (by decide) (by decide) ?_
            refine Gk.iload X341 hx (hb hby at_304) rfl ?_
            refine Gk.iconst X341 hx (hb hby at_306) (3 : Int32) rfl ?_
            by_cases hc307 : kk = (3 : Int32)
            · refine Gk.icmpNo X341 hx (hb hby at_307) (teq hc307).2 ?_
              have R381_ := own_chrOld (h' := h341) hCH (by rw [← hh]; exact fun b_ cl_ q_ => e341 ▸ oldF X341 (by rw [hh, ← hn0]; exact N341) b_ cl_ q_)
              refine Gk.ldcH (s := s) (show Stand p l e room_1 (s.setVm s.vm) m _ below meth c _ _ _ _ from X341) hx hZ hown (hw _ (List.mem_of_getElem? (i := 2) rfl)) (own_wS hw) e341 ((State.WarmedH.refl s).since 0) (Nat.zero_le _) (own_EW hw) (List.mem_of_getElem? (i := 2) rfl) R381_.1 lit1T (hb hby at_310) (n := 72) (by decide) (by decide) (by decide) (by decide) ?_
              intro la380 T380 h380 kS380 lb380 lk380 X380 e380 E380 S380_ q380_ Z380_ o380_ lA380 lFc380 lFv380 lV380 llt380 lltb380 C380_ Lt380_ d380_
              have R380_ := R381_.trans C380_
              refine Gk.astore X380 hx (hb hby at_312) rfl #[.val (.int p1), .val (.int p2), .val (.int p3), .val (.int p4), .val (.int p5), .val (.int (1 : Int32)), .val (.int (1 : Int32)), .val (.int kk), .val (.int pos), .val (.int ch), .val (.int tail), .val (.ref b311), .val (.ref b326), .val (.ref la380), .unset, .unset] rfl ?_
              refine Gk.iconst X380 hx (hb hby at_314) (0 : Int32) rfl ?_
              refine Gk.istore X380 hx (hb hby at_315) #[.val (.int p1), .val (.int p2), .val (.int p3), .val (.int p4), .val (.int p5), .val (.int (1 : Int32)), .val (.int (1 : Int32)), .val (.int kk), .val (.int pos), .val (.int ch), .val (.int tail), .val (.ref b311), .val (.ref b326), .val (.ref la380), .val (.int (0 : Int32)), .unset] rfl ?_
              refine Gk.goto X380 hx (hb hby at_317) 376 (by decide) (by decide) ?_
              refine Gk.iload X380 hx (hb hby at_376) rfl ?_
              refine Gk.ifNo X380 hx (hb hby at_378) (feq (by decide : ¬ ((1 : Int32) = (0 : Int32)))).1 ?_
              have H382 := (H342.ext E380)
              refine Gk.getS X380 hx Z380_ o380_ (host := "") (Or.inl (hw _ (List.mem_of_getElem? (i := 19) rfl))) Via.refl e380 H382.sta (hb hby at_381) ?_
              intro T383 X383 e383
              refine Gk.astore X383 hx (hb hby at_384) rfl #[.val (.int p1), .val (.int p2), .val (.int p3), .val (.int p4), .val (.int p5), .val (.int (1 : Int32)), .val (.int (1 : Int32)), .val (.int kk), .val (.int pos), .val (.int ch), .val (.int tail), .val (.ref b311), .val (.ref b326), .val (.ref la380), .val (.int (0 : Int32)), .val (.ref w_SUPPORTED)] rfl ?_
              refine Gk.goto X383 hx (hb hby at_386) 420 (by decide) (by decide) ?_
              refine Gk.iload X383 hx (hb hby at_420) rfl ?_
              refine Gk.aload X383 hx (hb hby at_422) rfl rfl ?_
              refine Gk.iload X383 hx (hb hby at_424) rfl ?_
              refine Gk.callS (argsL := [(.int (1 : Int32)), (.ref la380), (.int (1 : Int32))]) X383 hx Z380_ o380_ (ats_1 l Z a0 hw [] la380 (1 : Int32) w_SUPPORTED h380 n0 (Nat.le_trans Z0 (Nat.le_trans gr348 E380.1)) H382) (hw _ (List.mem_of_getElem? (i := 13) rfl)) (hw _ (List.mem_of_getElem? (i := 14) rfl)) (hw _ (List.mem_of_getElem? (i := 15) rfl)) (hw _ (List.mem_of_getElem? (i := 16) rfl)) (by decide) e383 pd_10 rfl rfl (by decide) (Nat.le_of_ble_eq_true rfl) (by decide) (by decide) (by rw [hml]; rfl)  rfl (hb hby at_426) ?_
              intro T384 L384 v384 X384 hQ384
              obtain ⟨rfl, N384q, e384⟩ := hQ384
              have N384 := Fr.app N341 N384q
              show Go p e below (T384.setTop (mkF m 429 #[.val (.int p1), .val (.int p2), .val (.int p3), .val (.int p4), .val (.int p5), .val (.int (1 : Int32)), .val (.int (1 : Int32)), .val (.int kk), .val (.int pos), .val (.int ch), .val (.int tail), .val (.ref b311), .val (.ref b326), .val (.ref la380), .val (.int (0 : Int32)), .val (.ref w_SUPPORTED)] [(.ref w_SUPPORTED)])) _
              refine Gk.aload X384 hx (hb hby at_429) rfl rfl ?_
              refine Gk.acmp X384 hx (hb hby at_431) rfl rfl true (decide_eq_true rfl) 434 (by decide) (by decide) ?_
              refine Gk.iconst X384 hx (hb hby at_434) (1 : Int32) rfl ?_
              refine Gk.goto X384 hx (hb hby at_435) 439 (by decide) (by decide) ?_
              refine Gk.finW (s := s) X384 e384 S380_ (Nat.le_trans q380_ (Nat.le_refl _)) (v := some (.int (1 : Int32))) (fun h_ => by rw [Bd.returns] at h_; cases h_) Bd.notSynchronized (fun _ hr => retN X384 hx (t := .boolean) Bd.returns (by simp) (hb hby at_439) hr) (fun U' hU hF => ⟨_, _, rfl, ?_, hF.1, hF.2.1, hF.2.2.1, hF.2.2.2.mono (by decide) (by decide)⟩)
              exact ⟨(congrArg (fun z_ : Int32 => some (Value.int z_)) (show (1 : Int32) = (1 : Int32) from rfl)), N384⟩
            · refine Gk.icmpYes X341 hx (hb hby at_307) (feq hc307).2 320 (by decide) (by decide) ?_
              refine Gk.iload X341 hx (hb hby at_320) rfl ?_
              refine Gk.iconst X341 hx (hb hby at_322) (4 : Int32) rfl ?_
              by_cases hc323 : kk = (4 : Int32)
              · refine Gk.icmpNo X341 hx (hb hby at_323) (teq hc323).2 ?_
                have R386_ := own_chrOld (h' := h341) hCH (by rw [← hh]; exact fun b_ cl_ q_ => e341 ▸ oldF X341 (by rw [hh, ← hn0]; exact N341) b_ cl_ q_)
                refine Gk.ldcH (s := s) (show Stand p l e room_1 (s.setVm s.vm) m _ below meth c _ _ _ _ from X341) hx hZ hown (hw _ (List.mem_of_getElem? (i := 18) rfl)) (own_wS hw) e341 ((State.WarmedH.refl s).since 0) (Nat.zero_le _) (own_EW hw) (List.mem_of_getElem? (i := 3) rfl) R386_.1 lit2T (hb hby at_326) (n := 60) (by decide) (by decide) (by decide) (by decide) ?_
                intro la385 T385 h385 kS385 lb385 lk385 X385 e385 E385 S385_ q385_ Z385_ o385_ lA385 lFc385 lFv385 lV385 llt385 lltb385 C385_ Lt385_ d385_
                have R385_ := R386_.trans C385_
                refine Gk.astore X385 hx (hb hby at_328) rfl #[.val (.int p1), .val (.int p2), .val (.int p3), .val (.int p4), .val (.int p5), .val (.int (1 : Int32)), .val (.int (1 : Int32)), .val (.int kk), .val (.int pos), .val (.int ch), .val (.int tail), .val (.ref b311), .val (.ref b326), .val (.ref la385), .unset, .unset] rfl ?_
                refine Gk.iconst X385 hx (hb hby at_330) (0 : Int32) rfl ?_
                refine Gk.istore X385 hx (hb hby at_331) #[.val (.int p1), .val (.int p2), .val (.int p3), .val (.int p4), .val (.int p5), .val (.int (1 : Int32)), .val (.int (1 : Int32)), .val (.int kk), .val (.int pos), .val (.int ch), .val (.int tail), .val (.ref b311), .val (.ref b326), .val (.ref la385), .val (.int (0 : Int32)), .unset] rfl ?_
                refine Gk.goto X385 hx (hb hby at_333) 376 (by decide) (by decide) ?_
                refine Gk.iload X385 hx (hb hby at_376) rfl ?_
                refine Gk.ifNo X385 hx (hb hby at_378) (feq (by decide : ¬ ((1 : Int32) = (0 : Int32)))).1 ?_
                have H387 := (H342.ext E385)
                refine Gk.getS X385 hx Z385_ o385_ (host := "") (Or.inl (hw _ (List.mem_of_getElem? (i := 19) rfl))) Via.refl e385 H387.sta (hb hby at_381) ?_
                intro T388 X388 e388
                refine Gk.astore X388 hx (hb hby at_384) rfl #[.val (.int p1), .val (.int p2), .val (.int p3), .val (.int p4), .val (.int p5), .val (.int (1 : Int32)), .val (.int (1 : Int32)), .val (.int kk), .val (.int pos), .val (.int ch), .val (.int tail), .val (.ref b311), .val (.ref b326), .val (.ref la385), .val (.int (0 : Int32)), .val (.ref w_SUPPORTED)] rfl ?_
                refine Gk.goto X388 hx (hb hby at_386) 420 (by decide) (by decide) ?_
                refine Gk.iload X388 hx (hb hby at_420) rfl ?_
                refine Gk.aload X388 hx (hb hby at_422) rfl rfl ?_
                refine Gk.iload X388 hx (hb hby at_424) rfl ?_
                refine Gk.callS (argsL := [(.int (1 : Int32)), (.ref la385), (.int (1 : Int32))]) X388 hx Z385_ o385_ (ats_1 l Z a0 hw [] la385 (1 : Int32) w_SUPPORTED h385 n0 (Nat.le_trans Z0 (Nat.le_trans gr348 E385.1)) H387) (hw _ (List.mem_of_getElem? (i := 13) rfl)) (hw _ (List.mem_of_getElem? (i := 14) rfl)) (hw _ (List.mem_of_getElem? (i := 15) rfl)) (hw _ (List.mem_of_getElem? (i := 16) rfl)) (by decide) e388 pd_10 rfl rfl (by decide) (Nat.le_of_ble_eq_true rfl) (by decide) (by decide) (by rw [hml]; rfl)  rfl (hb hby at_426) ?_
                intro T389 L389 v389 X389 hQ389
                obtain ⟨rfl, N389q, e389⟩ := hQ389
                have N389 := Fr.app N341 N389q
                show Go p e below (T389.setTop (mkF m 429 #[.val (.int p1), .val (.int p2), .val (.int p3), .val (.int p4), .val (.int p5), .val (.int (1 : Int32)), .val (.int (1 : Int32)), .val (.int kk), .val (.int pos), .val (.int ch), .val (.int tail), .val (.ref b311), .val (.ref b326), .val (.ref la385), .val (.int (0 : Int32)), .val (.ref w_SUPPORTED)] [(.ref w_SUPPORTED)])) _
                refine Gk.aload X389 hx (hb hby at_429) rfl rfl ?_
                refine Gk.acmp X389 hx (hb hby at_431) rfl rfl true (decide_eq_true rfl) 434 (by decide) (by decide) ?_
                refine Gk.iconst X389 hx (hb hby at_434) (1 : Int32) rfl ?_
                refine Gk.goto X389 hx (hb hby at_435) 439 (by decide) (by decide) ?_
                refine Gk.finW (s := s) X389 e389 S385_ (Nat.le_trans q385_ (Nat.le_refl _)) (v := some (.int (1 : Int32))) (fun h_ => by rw [Bd.returns] at h_; cases h_) Bd.notSynchronized (fun _ hr => retN X389 hx (t := .boolean) Bd.returns (by simp) (hb hby at_439) hr) (fun U' hU hF => ⟨_, _, rfl, ?_, hF.1, hF.2.1, hF.2.2.1, hF.2.2.2.mono (by decide) (by decide)⟩)
                exact ⟨(congrArg (fun z_ : Int32 => some (Value.int z_)) (show (1 : Int32) = (1 : Int32) from rfl)), N389⟩
              · refine Gk.icmpYes X341 hx (hb hby at_323) (feq hc323).2 336 (by decide) (by decide) ?_
                refine Gk.iload X341 hx (hb hby at_336) rfl ?_
                refine Gk.iconst X341 hx (hb hby at_338) (5 : Int32) rfl ?_
                by_cases hc339 : kk = (5 : Int32)
                · refine Gk.icmpNo X341 hx (hb hby at_339) (teq hc339).2 ?_
                  have R391_ := own_chrOld (h' := h341) hCH (by rw [← hh]; exact fun b_ cl_ q_ => e341 ▸ oldF X341 (by rw [hh, ← hn0]; exact N341) b_ cl_ q_)
                  refine Gk.ldcH (s := s) (show Stand p l e room_1 (s.setVm s.vm) m _ below meth c _ _ _ _ from X341) hx hZ hown (hw _ (List.mem_of_getElem? (i := 87) rfl)) (own_wS hw) e341 ((State.WarmedH.refl s).since 0) (Nat.zero_le _) (own_EW hw) (List.mem_of_getElem? (i := 4) rfl) R391_.1 lit3T (hb hby at_342) (n := 28) (by decide) (by decide) (by decide) (by decide) ?_
                  intro la390 T390 h390 kS390 lb390 lk390 X390 e390 E390 S390_ q390_ Z390_ o390_ lA390 lFc390 lFv390 lV390 llt390 lltb390 C390_ Lt390_ d390_
                  have R390_ := R391_.trans C390_
                  refine Gk.astore X390 hx (hb hby at_344) rfl #[.val (.int p1), .val (.int p2), .val (.int p3), .val (.int p4), .val (.int p5), .val (.int (1 : Int32)), .val (.int (1 : Int32)), .val (.int kk), .val (.int pos), .val (.int ch), .val (.int tail), .val (.ref b311), .val (.ref b326), .val (.ref la390), .unset, .unset] rfl ?_
                  refine Gk.iconst X390 hx (hb hby at_346) (0 : Int32) rfl ?_
                  refine Gk.istore X390 hx (hb hby at_347) #[.val (.int p1), .val (.int p2), .val (.int p3), .val (.int p4), .val (.int p5), .val (.int (1 : Int32)), .val (.int (1 : Int32)), .val (.int kk), .val (.int pos), .val (.int ch), .val (.int tail), .val (.ref b311), .val (.ref b326), .val (.ref la390), .val (.int (0 : Int32)), .unset] rfl ?_
                  refine Gk.goto X390 hx (hb hby at_349) 376 (by decide) (by decide) ?_
                  refine Gk.iload X390 hx (hb hby at_376) rfl ?_
                  refine Gk.ifNo X390 hx (hb hby at_378) (feq (by decide : ¬ ((1 : Int32) = (0 : Int32)))).1 ?_
                  have H392 := (H342.ext E390)
                  refine Gk.getS X390 hx Z390_ o390_ (host := "") (Or.inl (hw _ (List.mem_of_getElem? (i := 19) rfl))) Via.refl e390 H392.sta (hb hby at_381) ?_
                  intro T393 X393 e393
                  refine Gk.astore X393 hx (hb hby at_384) rfl #[.val (.int p1), .val (.int p2), .val (.int p3), .val (.int p4), .val (.int p5), .val (.int (1 : Int32)), .val (.int (1 : Int32)), .val (.int kk), .val (.int pos), .val (.int ch), .val (.int tail), .val (.ref b311), .val (.ref b326), .val (.ref la390), .val (.int (0 : Int32)), .val (.ref w_SUPPORTED)] rfl ?_
                  refine Gk.goto X393 hx (hb hby at_386) 420 (by decide) (by decide) ?_
                  refine Gk.iload X393 hx (hb hby at_420) rfl ?_
                  refine Gk.aload X393 hx (hb hby at_422) rfl rfl ?_
                  refine Gk.iload X393 hx (hb hby at_424) rfl ?_
                  refine Gk.callS (argsL := [(.int (1 : Int32)), (.ref la390), (.int (1 : Int32))]) X393 hx Z390_ o390_ (ats_1 l Z a0 hw [] la390 (1 : Int32) w_SUPPORTED h390 n0 (Nat.le_trans Z0 (Nat.le_trans gr348 E390.1)) H392) (hw _ (List.mem_of_getElem? (i := 13) rfl)) (hw _ (List.mem_of_getElem? (i := 14) rfl)) (hw _ (List.mem_of_getElem? (i := 15) rfl)) (hw _ (List.mem_of_getElem? (i := 16) rfl)) (by decide) e393 pd_10 rfl rfl (by decide) (Nat.le_of_ble_eq_true rfl) (by decide) (by decide) (by rw [hml]; rfl)  rfl (hb hby at_426) ?_
                  intro T394 L394 v394 X394 hQ394
                  obtain ⟨rfl, N394q, e394⟩ := hQ394
                  have N394 := Fr.app N341 N394q
                  show Go p e below (T394.setTop (mkF m 429 #[.val (.int p1), .val (.int p2), .val (.int p3), .val (.int p4), .val (.int p5), .val (.int (1 : Int32)), .val (.int (1 : Int32)), .val (.int kk), .val (.int pos), .val (.int ch), .val (.int tail), .val (.ref b311), .val (.ref b326), .val (.ref la390), .val (.int (0 : Int32)), .val (.ref w_SUPPORTED)] [(.ref w_SUPPORTED)])) _
                  refine Gk.aload X394 hx (hb hby at_429) rfl rfl ?_
                  refine Gk.acmp X394 hx (hb hby at_431) rfl rfl true (decide_eq_true rfl) 434 (by decide) (by decide) ?_
                  refine Gk.iconst X394 hx (hb hby at_434) (1 : Int32) rfl ?_
                  refine Gk.goto X394 hx (hb hby at_435) 439 (by decide) (by decide) ?_
                  refine Gk.finW (s := s) X394 e394 S390_ (Nat.le_trans q390_ (Nat.le_refl _)) (v := some (.int (1 : Int32))) (fun h_ => by rw [Bd.returns] at h_; cases h_) Bd.notSynchronized (fun _ hr => retN X394 hx (t := .boolean) Bd.returns (by simp) (hb hby at_439) hr) (fun U' hU hF => ⟨_, _, rfl, ?_, hF.1, hF.2.1, hF.2.2.1, hF.2.2.2.mono (by decide) (by decide)⟩)
                  exact ⟨(congrArg (fun z_ : Int32 => some (Value.int z_)) (show (1 : Int32) = (1 : Int32) from rfl)), N394⟩
                · refine Gk.icmpYes X341 hx (hb hby at_339) (feq hc339).2 352 (by decide) (by decide) ?_
                  refine Gk.iload X341 hx (hb hby at_352) rfl ?_
                  refine Gk.bipush X341 hx (hb hby at_354) (6 : Int32) rfl ?_
                  by_cases hc356 : kk = (6 : Int32)
                  · refine Gk.icmpNo X341 hx (hb hby at_356) (teq hc356).2 ?_
                    have R396_ := own_chrOld (h' := h341) hCH (by rw [← hh]; exact fun b_ cl_ q_ => e341 ▸ oldF X341 (by rw [hh, ← hn0]; exact N341) b_ cl_ q_)
                    refine Gk.ldcH (s := s) (show Stand p l e room_1 (s.setVm s.vm) m _ below meth c _ _ _ _ from X341) hx hZ hown (hw _ (List.mem_of_getElem? (i := 86) rfl)) (own_wS hw) e341 ((State.WarmedH.refl s).since 0) (Nat.zero_le _) (own_EW hw) (List.mem_of_getElem? (i := 5) rfl) R396_.1 lit4T (hb hby at_359) (n := 0) (by decide) (by decide) (by decide) (by decide) ?_
                    intro la395 T395 h395 kS395 lb395 lk395 X395 e395 E395 S395_ q395_ Z395_ o395_ lA395 lFc395 lFv395 lV395 llt395 lltb395 C395_ Lt395_ d395_
                    have R395_ := R396_.trans C395_
                    refine Gk.astore X395 hx (hb hby at_361) rfl #[.val (.int p1), .val (.int p2), .val (.int p3), .val (.int p4), .val (.int p5), .val (.int (1 : Int32)), .val (.int (1 : Int32)), .val (.int kk), .val (.int pos), .val (.int ch), .val (.int tail), .val (.ref b311), .val (.ref b326), .val (.ref la395), .unset, .unset] rfl ?_
                    refine Gk.iconst X395 hx (hb hby at_363) (0 : Int32) rfl ?_
                    refine Gk.istore X395 hx (hb hby at_364) #[.val (.int p1), .val (.int p2), .val (.int p3), .val (.int p4), .val (.int p5), .val (.int (1 : Int32)), .val (.int (1 : Int32)), .val (.int kk), .val (.int pos), .val (.int ch), .val (.int tail), .val (.ref b311), .val (.ref b326), .val (.ref la395), .val (.int (0 : Int32)), .unset] rfl ?_
                    refine Gk.goto X395 hx (hb hby at_366) 376 (by decide) (by decide) ?_
                    refine Gk.iload X395 hx (hb hby at_376) rfl ?_
                    refine Gk.ifNo X395 hx (hb hby at_378) (feq (by decide : ¬ ((1 : Int32) = (0 : Int32)))).1 ?_
                    have H397 := (H342.ext E395)
                    refine Gk.getS X395 hx Z395_ o395_ (host := "") (Or.inl (hw _ (List.mem_of_getElem? (i := 19) rfl))) Via.refl e395 H397.sta (hb hby at_381) ?_
                    intro T398 X398 e398
                    refine Gk.astore X398 hx (hb hby at_384) rfl #[.val (.int p1), .val (.int p2), .val (.int p3), .val (.int p4), .val (.int p5), .val (.int (1 : Int32)), .val (.int (1 : Int32)), .val (.int kk), .val (.int pos), .val (.int ch), .val (.int tail), .val (.ref b311), .val (.ref b326), .val (.ref la395), .val (.int (0 : Int32)), .val (.ref w_SUPPORTED)] rfl ?_
                    refine Gk.goto X398 hx (hb hby at_386) 420 (by decide) (by decide) ?_
                    refine Gk.iload X398 hx (hb hby at_420) rfl ?_
                    refine Gk.aload X398 hx (hb hby at_422) rfl rfl ?_
                    refine Gk.iload X398 hx (hb hby at_424) rfl ?_
                    refine Gk.callS (argsL := [(.int (1 : Int32)), (.ref la395), (.int (1 : Int32))]) X398 hx Z395_ o395_ (ats_1 l Z a0 hw [] la395 (1 : Int32) w_SUPPORTED h395 n0 (Nat.le_trans Z0 (Nat.le_trans gr348 E395.1)) H397) (hw _ (List.mem_of_getElem? (i := 13) rfl)) (hw _ (List.mem_of_getElem? (i := 14) rfl)) (hw _ (List.mem_of_getElem? (i := 15) rfl)) (hw _ (List.mem_of_getElem? (i := 16) rfl)) (by decide) e398 pd_10 rfl rfl (by decide) (Nat.le_of_ble_eq_true rfl) (by decide) (by decide) (by rw [hml]; rfl)  rfl (hb hby at_426) ?_
                    intro T399 L399 v399 X399 hQ399
                    obtain ⟨rfl, N399q, e399⟩ := hQ399
                    have N399 := Fr.app N341 N399q
                    show Go p e below (T399.setTop (mkF m 429 #[.val (.int p1), .val (.int p2), .val (.int p3), .val (.int p4), .val (.int p5), .val (.int (1 : Int32)), .val (.int (1 : Int32)), .val (.int kk), .val (.int pos), .val (.int ch), .val (.int tail), .val (.ref b311), .val (.ref b326), .val (.ref la395), .val (.int (0 : Int32)), .val (.ref w_SUPPORTED)] [(.ref w_SUPPORTED)])) _
                    refine Gk.aload X399 hx (hb hby at_429) rfl rfl ?_
                    refine Gk.acmp X399 hx (hb hby at_431) rfl rfl true (decide_eq_true rfl) 434 (by decide) (by decide) ?_
                    refine Gk.iconst X399 hx (hb hby at_434) (1 : Int32) rfl ?_
                    refine Gk.goto X399 hx (hb hby at_435) 439 (by decide) (by decide) ?_
                    refine Gk.finW (s := s) X399 e399 S395_ (Nat.le_trans q395_ (Nat.le_refl _)) (v := some (.int (1 : Int32))) (fun h_ => by rw [Bd.returns] at h_; cases h_) Bd.notSynchronized (fun _ hr => retN X399 hx (t := .boolean) Bd.returns (by simp) (hb hby at_439) hr) (fun U' hU hF => ⟨_, _, rfl, ?_, hF.1, hF.2.1, hF.2.2.1, hF.2.2.2.mono (by decide) (by decide)⟩)
                    exact ⟨(congrArg (fun z_ : Int32 => some (Value.int z_)) (show (1 : Int32) = (1 : Int32) from rfl)), N399⟩
                  · refine Gk.icmpYes X341 hx (hb hby at_356) (feq hc356).2 369 (by decide) (by decide) ?_
                    have R401_ := own_chrOld (h' := h341) hCH (by rw [← hh]; exact fun b_ cl_ q_ => e341 ▸ oldF X341 (by rw [hh, ← hn0]; exact N341) b_ cl_ q_)
                    refine Gk.ldcH (s := s) (show Stand p l e room_1 (s.setVm s.vm) m _ below meth c _ _ _ _ from X341) hx hZ hown (hw _ (List.mem_of_getElem? (i := 46) rfl)) (own_wS hw) e341 ((State.WarmedH.refl s).since 0) (Nat.zero_le _) (own_EW hw) (List.mem_of_getElem? (i := 6) rfl) R401_.1 lit5T (hb hby at_369) (n := 48) (by decide) (by decide) (by decide) (by decide) ?_
                    intro la400 T400 h400 kS400 lb400 lk400 X400 e400 E400 S400_ q400_ Z400_ o400_ lA400 lFc400 lFv400 lV400 llt400 lltb400 C400_ Lt400_ d400_
                    have R400_ := R401_.trans C400_
                    refine Gk.astore X400 hx (hb hby at_371) rfl #[.val (.int p1), .val (.int p2), .val (.int p3), .val (.int p4), .val (.int p5), .val (.int (1 : Int32)), .val (.int (1 : Int32)), .val (.int kk), .val (.int pos), .val (.int ch), .val (.int tail), .val (.ref b311), .val (.ref b326), .val (.ref la400), .unset, .unset] rfl ?_
                    refine Gk.iconst X400 hx (hb hby at_373) (0 : Int32) rfl ?_
                    refine Gk.istore X400 hx (hb hby at_374) #[.val (.int p1), .val (.int p2), .val (.int p3), .val (.int p4), .val (.int p5), .val (.int (1 : Int32)), .val (.int (1 : Int32)), .val (.int kk), .val (.int pos), .val (.int ch), .val (.int tail), .val (.ref b311), .val (.ref b326), .val (.ref la400), .val (.int (0 : Int32)), .unset] rfl ?_
                    refine Gk.iload X400 hx (hb hby at_376) rfl ?_
                    refine Gk.ifNo X400 hx (hb hby at_378) (feq (by decide : ¬ ((1 : Int32) = (0 : Int32)))).1 ?_
                    have H402 := (H342.ext E400)
                    refine Gk.getS X400 hx Z400_ o400_ (host := "") (Or.inl (hw _ (List.mem_of_getElem? (i := 19) rfl))) Via.refl e400 H402.sta (hb hby at_381) ?_
                    intro T403 X403 e403
                    refine Gk.astore X403 hx (hb hby at_384) rfl #[.val (.int p1), .val (.int p2), .val (.int p3), .val (.int p4), .val (.int p5), .val (.int (1 : Int32)), .val (.int (1 : Int32)), .val (.int kk), .val (.int pos), .val (.int ch), .val (.int tail), .val (.ref b311), .val (.ref b326), .val (.ref la400), .val (.int (0 : Int32)), .val (.ref w_SUPPORTED)] rfl ?_
                    refine Gk.goto X403 hx (hb hby at_386) 420 (by decide) (by decide) ?_
                    refine Gk.iload X403 hx (hb hby at_420) rfl ?_
                    refine Gk.aload X403 hx (hb hby at_422) rfl rfl ?_
                    refine Gk.iload X403 hx (hb hby at_424) rfl ?_
                    refine Gk.callS (argsL := [(.int (1 : Int32)), (.ref la400), (.int (1 : Int32))]) X403 hx Z400_ o400_ (ats_1 l Z a0 hw [] la400 (1 : Int32) w_SUPPORTED h400 n0 (Nat.le_trans Z0 (Nat.le_trans gr348 E400.1)) H402) (hw _ (List.mem_of_getElem? (i := 13) rfl)) (hw _ (List.mem_of_getElem? (i := 14) rfl)) (hw _ (List.mem_of_getElem? (i := 15) rfl)) (hw _ (List.mem_of_getElem? (i := 16) rfl)) (by decide) e403 pd_10 rfl rfl (by decide) (Nat.le_of_ble_eq_true rfl) (by decide) (by decide) (by rw [hml]; rfl)  rfl (hb hby at_426) ?_
                    intro T404 L404 v404 X404 hQ404
                    obtain ⟨rfl, N404q, e404⟩ := hQ404
                    have N404 := Fr.app N341 N404q
                    show Go p e below (T404.setTop (mkF m 429 #[.val (.int p1), .val (.int p2), .val (.int p3), .val (.int p4), .val (.int p5), .val (.int (1 : Int32)), .val (.int (1 : Int32)), .val (.int kk), .val (.int pos), .val (.int ch), .val (.int tail), .val (.ref b311), .val (.ref b326), .val (.ref la400), .val (.int (0 : Int32)), .val (.ref w_SUPPORTED)] [(.ref w_SUPPORTED)])) _
                    refine Gk.aload X404 hx (hb hby at_429) rfl rfl ?_
                    refine Gk.acmp X404 hx (hb hby at_431) rfl rfl true (decide_eq_true rfl) 434 (by decide) (by decide) ?_
                    refine Gk.iconst X404 hx (hb hby at_434) (1 : Int32) rfl ?_
                    refine Gk.goto X404 hx (hb hby at_435) 439 (by decide) (by decide) ?_
                    refine Gk.finW (s := s) X404 e404 S400_ (Nat.le_trans q400_ (Nat.le_refl _)) (v := some (.int (1 : Int32))) (fun h_ => by rw [Bd.returns] at h_; cases h_) Bd.notSynchronized (fun _ hr => retN X404 hx (t := .boolean) Bd.returns (by simp) (hb hby at_439) hr) (fun U' hU hF => ⟨_, _, rfl, ?_, hF.1, hF.2.1, hF.2.2.1, hF.2.2.2.mono (by decide) (by decide)⟩)
                    exact ⟨(congrArg (fun z_ : Int32 => some (Value.int z_)) (show (1 : Int32) = (1 : Int32) from rfl)), N404⟩
set_option maxRecDepth 65536 in
set_option maxHeartbeats 40000000 in
theorem comes_1 {Post : Tables → Env → Array Value → State → Outcome → State → Prop} (hpost : ∀ tb e args s v u, (limb_1_1.after args s (.returned v) u = true ∧ limb_1_2.after args s (.returned v) u = true ∧ True) → ReturnedEndW s (.returned v) u (Jvm.fieldLocs frame_1_writes args s ++ Jvm.arrayLocs frame_1_arrays args s ++ Jvm.staticLocs frame_1_statics s) 32 7360 → Post tb e args s (.returned v) u) :
    ArmFor flags0 classFile x code maxLocals ret World_1 tables_1 room_1 Calls_1 rest_1 Pre_1 Post := by
  intro l hfl _ _ p e ha hc hk s m args below hf hA hF happ hP
  obtain ⟨hcalls, hrest, hpre⟩ := hP
  obtain ⟨-, -, -, hnamed, -, -, -, hat⟩ := (Spec.applies_iff hf).mp happ
  obtain ⟨hg, hn⟩ := and_e (Cond.before_iff.mp (show (Jvm.Cond.and given_1 narrow_1).before args s = true from hpre))
  obtain ⟨g1, g2⟩ := and_e hg
  obtain ⟨g3, g4⟩ := and_e g2
  obtain ⟨g5, g6⟩ := and_e g4
  obtain ⟨g7, g8⟩ := and_e g6
  obtain ⟨g9, g10⟩ := and_e g8
  obtain ⟨g11, g12⟩ := and_e hn
  obtain ⟨g13, g14⟩ := and_e g12
  obtain ⟨g15, g16⟩ := and_e g14
  obtain ⟨w0, w1, w2, w3, w4, rfl⟩ : ∃ w0 w1 w2 w3 w4 : Value, args = #[w0, w1, w2, w3, w4] := by
    have hs : args.size = 5 := by simpa [Cond.value, given_1] using g1
    obtain ⟨L⟩ := args
    match L, hs with
    | [w0, w1, w2, w3, w4], _ => exact ⟨w0, w1, w2, w3, w4, rfl⟩
  have hw := fun d (hd : d ∈ tables_1) => atoms_spec (ws := Jvm.Cond.code x code maxLocals ret :: tables_1) hat d (List.mem_cons_of_mem _ hd)
  have hfit : Fit s := fun {y c} hc i hi => by
    obtain ⟨ha, rfl⟩ := Array.getElem?_eq_some_iff.mp hc
    have q := List.all_eq_true.mp ((Array.all_eq_true_iff_forall_mem.mp hF) _ (Array.getElem_mem ha)) i (List.mem_range.mpr hi)
    simpa [Array.getElem?_eq_getElem hi] using q
  obtain ⟨hsets, hown0⟩ := atoms_of _ (rest_1_c_eq ▸ (show rest_1_c.before _ s = true from hrest))
  have hr0 := Cond.before_iff.mp hown0
  obtain ⟨i0, ei0⟩ := is_v g3
  obtain rfl : w0 = (.int i0) := Option.some.inj ei0
  obtain ⟨i1, ei1⟩ := is_v g5
  obtain rfl : w1 = (.int i1) := Option.some.inj ei1
  obtain ⟨i2, ei2⟩ := is_v g7
  obtain rfl : w2 = (.int i2) := Option.some.inj ei2
  obtain ⟨i3, ei3⟩ := is_v g9
  obtain rfl : w3 = (.int i3) := Option.some.inj ei3
  obtain ⟨i4, ei4⟩ := is_v g10
  obtain rfl : w4 = (.int i4) := Option.some.inj ei4
  obtain ⟨w_UNDETERMINED, ew_UNDETERMINED⟩ := exa_v g11
  have E_w_UNDETERMINED := Exa.start ew_UNDETERMINED g11
  have S_UNDETERMINED := Sta.start ew_UNDETERMINED (Or.inr ⟨(hw _ (List.mem_of_getElem? (i := 11) rfl)), (hw _ (List.mem_of_getElem? (i := 12) rfl))⟩)
  obtain ⟨w_SUPPORTED, ew_SUPPORTED⟩ := exa_v g13
  have E_w_SUPPORTED := Exa.start ew_SUPPORTED g13
  have S_SUPPORTED := Sta.start ew_SUPPORTED (Or.inr ⟨(hw _ (List.mem_of_getElem? (i := 11) rfl)), (hw _ (List.mem_of_getElem? (i := 20) rfl))⟩)
  obtain ⟨w_KNOWN_UNSUPPORTED, ew_KNOWN_UNSUPPORTED⟩ := exa_v g15
  have E_w_KNOWN_UNSUPPORTED := Exa.start ew_KNOWN_UNSUPPORTED g15
  have S_KNOWN_UNSUPPORTED := Sta.start ew_KNOWN_UNSUPPORTED (Or.inr ⟨(hw _ (List.mem_of_getElem? (i := 11) rfl)), (hw _ (List.mem_of_getElem? (i := 71) rfl))⟩)
  obtain ⟨w_UNKNOWN, ew_UNKNOWN⟩ := exa_v g16
  have E_w_UNKNOWN := Exa.start ew_UNKNOWN g16
  have S_UNKNOWN := Sta.start ew_UNKNOWN (Or.inr ⟨(hw _ (List.mem_of_getElem? (i := 11) rfl)), (hw _ (List.mem_of_getElem? (i := 84) rfl))⟩)
  obtain ⟨w_COMPACT_STRINGS, ew_CS⟩ := is_v (Cond.before_iff.mp (hsets _ (List.mem_of_getElem? (i := 1) rfl)))
  have S_COMPACT_STRINGS := Sta.start ew_CS (Or.inl (hsets _ (List.mem_of_getElem? (i := 0) rfl)))
  have hcs : ¬ (w_COMPACT_STRINGS = (0 : Int32)) := by
    intro q_
    have z_ := not_v (Cond.before_iff.mp (hsets _ (List.mem_of_getElem? (i := 2) rfl)))
    subst q_
    rw [eq_i ew_CS (Term.int_eval (0)) rfl] at z_
    cases z_
  
  obtain ⟨w_SIOOBE_FORMATTER, ew_SF, hsf⟩ := isR_v (Cond.before_iff.mp (hsets _ (List.mem_of_getElem? (i := 8) rfl)))
  have S_SIOOBE_FORMATTER := Sta.start ew_SF (Or.inl (hsets _ (List.mem_of_getElem? (i := 7) rfl)))
  
  have hn0 : s.heap.size = s.heap.size := rfl
  have hCH := CHv.start (own_EW hw) (fun p_ hp_ => hcalls.1 p_ hp_) (hsets _ (List.mem_of_getElem? (i := 2) rfl)) (hw _ (List.mem_of_getElem? (i := 5) rfl)) (hw _ (List.mem_of_getElem? (i := 4) rfl))
  obtain ⟨n, o, h1, h2, h3, _, L, rfl, ⟨rfl, N⟩, hq⟩ := rm0 l s _ hw tables_1 i0 i1 i2 i3 i4 w_SUPPORTED w_UNDETERMINED w_UNKNOWN w_KNOWN_UNSUPPORTED w_COMPACT_STRINGS w_SIOOBE_FORMATTER s.heap s.heap.size (Nat.le_refl _) (Stx.start S_SUPPORTED (Nat.le_refl _)) (Stx.start S_UNDETERMINED (Nat.le_refl _)) (Stx.start S_UNKNOWN (Nat.le_refl _)) (Stx.start S_KNOWN_UNSUPPORTED (Nat.le_refl _)) (Stx.start S_COMPACT_STRINGS (Nat.le_refl _)) (Stx.start S_SIOOBE_FORMATTER (Nat.le_refl _)) hcs hsf hn0 p e ha hc hk s m _ below hf ((Spec.applies_iff_loose hf).mp happ).1 ⟨rfl, State.Warmed39.refl s, rfl, hCH⟩ trivial
  refine ⟨n, _, h1, h2, h3, hpost _ _ _ _ _ _ ⟨Cond.after_iff.mpr rfl, Cond.after_iff.mpr (eq_i res_at (Term.int_eval (1)) rfl), trivial⟩ ⟨hq.1, hq.2.1, hq.2.2.1, (hq.2.2.2.sift fun y hy => Or.inr (N y hy)).mono (by decide) (by decide)⟩⟩
theorem main_1_1 : Claimed_1_1 := comes_1 fun _ _ _ _ _ _ h hF => ⟨h.1, hF⟩
theorem main_1_2 : Claimed_1_2 := comes_1 fun _ _ _ _ _ _ h hF => ⟨h.2.1, hF⟩
end Jvm.Pilot.@@N@@
namespace Jvm.Pilot.@@N@@
open Jvm Jvm.ClassFile Sem Op Lib Jvm.Free Jvm.Stand Jvm.Pilot.@@N@@.Jvm.D
/-! MADE BY PROGRAM (witnessworld.py) out of the Statement's table words and the real class files: 22 classes; the members and pool entries that the words name. The judged class is class 1, her method 1. -/
namespace start1
open Jvm.ClassFile
def u (s : String) : CpInfo := .utf8 (stringToUtf16 s)
/-- a pool by its gaps: so many unusable entries, then the entry; so many at the end -/
def gap : Nat → List CpInfo → List CpInfo
  | 0, r => r
  | n + 1, r => .unusable :: gap n r
def poolList (es : List (Nat × CpInfo)) (last : Nat) : List CpInfo := es.foldr (fun e r => gap e.1 (e.2 :: r)) (gap last [])
def pool (es : List (Nat × CpInfo)) (last : Nat) : Array CpInfo := ⟨poolList es last⟩
def fileOf (pool : Array CpInfo) (this : Nat) (attrs : Array Attribute := #[]) (ms : Array MethodInfo := #[]) (fl : Nat := 33) (sup : Nat := 0) (ifs : Array Nat := #[]) (fds : Array FieldInfo := #[]) : ClassFile where
  minorVersion := 0
  majorVersion := 65
  constantPool := pool
  accessFlags := fl
  thisClass := this
  superClass := sup
  interfaces := ifs
  fields := fds
  methods := ms
  attributes := attrs
def plain (name : String) (sup : Option ClassId) : Class where
  name := name
  kind := .ordinary
  loader := none
  accessFlags := 33
  super := sup
  interfaces := #[]
  cf := none
  fields := #[]
  methods := #[]
  instanceTypes := #[]
  staticTypes := #[]
  resolved := #[]
  callSites := []
  init := .initialized
  statics := none
  mirror := none

def pool0 : Array CpInfo := pool [(5, u "<init>"), (0, u "()V"), (1, .class_ 10), (1, u "java/lang/Object")] 113

def k0c0 : Code := { maxStack := 0, maxLocals := 1, code := object_method_1_code, exceptionTable := #[], attributes := #[] }
def k0m0 : Method := { name := "<init>", desc := "()V", sig := { parameters := [], returnType := none }, accessFlags := 1, code := some k0c0 }
/-- java/lang/Object -/
def k0 : Class := { plain "java/lang/Object" none with
  accessFlags := 33
  interfaces := #[]
  cf := some (fileOf pool0 8 #[] #[{ accessFlags := 1, nameIndex := 5, descriptorIndex := 6, attributes := #[] }] 33 0 #[] #[])
  fields := #[]
  methods := #[k0m0]
  instanceTypes := #[]
  staticTypes := #[]
  resolved := Array.replicate 124 none
  statics := none }

def pool1 : Array CpInfo := pool [(2, .class_ 4), (1, u "java/lang/Object"), (0, u "<init>"), (0, u "()V"), (0, .integer 2147483647), (0, .string 9), (0, u "NFS4ERR_INVAL"), (0, .class_ 11), (0, u "java/lang/String"), (0, .methodref 10 13), (0, .nameAndType 5 14), (0, u "([C)V"), (0, .methodref 10 16), (0, .nameAndType 17 18), (0, u "charAt"), (0, u "(I)C"), (0, .string 20), (0, u "NFS4ERR_OP_ILLEGAL"), (0, .string 22), (0, u "NFS4ERR_NOTSUPP"), (0, .string 24), (0, u "NFS4_OK"), (0, .string 26), (0, u ""), (0, .string 28), (0, u "GARBAGE_ARGS"), (0, .fieldref 30 31), (0, .class_ 32), (0, .nameAndType 33 34), (0, u "com/example/addenda/addenda/nfsv4/Probe$State"), (0, u "SUPPORTED"), (0, u "Lcom/example/addenda/addenda/nfsv4/Probe$State;"), (0, .fieldref 30 36), (0, .nameAndType 37 34), (0, u "UNDETERMINED"), (0, .fieldref 30 39), (0, .nameAndType 40 34), (0, u "UNKNOWN"), (0, .fieldref 30 42), (0, .nameAndType 43 34), (0, u "KNOWN_UNSUPPORTED"), (0, .methodref 45 46), (0, .class_ 47), (0, .nameAndType 48 49), (0, u "com/example/addenda/addenda/nfsv4/Probe"), (0, u "attributeState"), (0, u "(ZLjava/lang/String;Z)Lcom/example/addenda/addenda/nfsv4/Probe$State;"), (0, .class_ 51), (0, u "com/example/addenda/addenda/nfsv4/ProbeAttributeStatePinLaw"), (2, u "law"), (0, u "(IIIII)Z")] 7

def k1m0 : Method := { name := "<init>", desc := "()V", sig := { parameters := [], returnType := none }, accessFlags := 2, code := none }
def k1c1 : Code := { maxStack := 4, maxLocals := 16, code := code, exceptionTable := #[], attributes := #[] }
def k1m1 : Method := { name := "law", desc := "(IIIII)Z", sig := { parameters := [.int, .int, .int, .int, .int], returnType := some .boolean }, accessFlags := 9, code := some k1c1 }
/-- com/example/addenda/addenda/nfsv4/ProbeAttributeStatePinLaw -/
def k1 : Class := { plain "com/example/addenda/addenda/nfsv4/ProbeAttributeStatePinLaw" (some 0) with
  accessFlags := 49
  interfaces := #[]
  cf := some (fileOf pool1 50 #[] #[{ accessFlags := 2, nameIndex := 5, descriptorIndex := 6, attributes := #[] }, { accessFlags := 9, nameIndex := 54, descriptorIndex := 55, attributes := #[] }] 49 2 #[] #[])
  fields := #[]
  methods := #[k1m0, k1m1]
  instanceTypes := #[]
  staticTypes := #[]
  resolved := Array.replicate 63 none
  statics := none }

def pool2 : Array CpInfo := pool [(1, .class_ 2), (0, u "java/io/Serializable"), (0, .class_ 4), (0, u "java/lang/Object")] 2

/-- java/io/Serializable -/
def k2 : Class := { plain "java/io/Serializable" (some 0) with
  accessFlags := 1537
  interfaces := #[]
  cf := some (fileOf pool2 1 #[] #[] 1537 3 #[] #[])
  fields := #[]
  methods := #[]
  instanceTypes := #[]
  staticTypes := #[]
  resolved := Array.replicate 7 none
  statics := none }

def pool3 : Array CpInfo := pool [(1, .class_ 2), (0, u "java/lang/Comparable"), (0, .class_ 4), (0, u "java/lang/Object")] 7

/-- java/lang/Comparable -/
def k3 : Class := { plain "java/lang/Comparable" (some 0) with
  accessFlags := 1537
  interfaces := #[]
  cf := some (fileOf pool3 1 #[] #[] 1537 3 #[] #[])
  fields := #[]
  methods := #[]
  instanceTypes := #[]
  staticTypes := #[]
  resolved := Array.replicate 12 none
  statics := none }

def pool4 : Array CpInfo := pool [(2, .class_ 4), (1, u "java/lang/CharSequence"), (42, .class_ 48), (0, u "java/lang/CharSequence$1CodePointIterator"), (10, .class_ 60), (0, u "java/lang/CharSequence$1CharIterator"), (5, .class_ 67), (0, u "java/lang/Object")] 63

/-- java/lang/CharSequence -/
def k4 : Class := { plain "java/lang/CharSequence" (some 0) with
  accessFlags := 1537
  interfaces := #[]
  cf := some (fileOf pool4 2 #[.nestMembers #[47, 59]] #[] 1537 66 #[] #[])
  fields := #[]
  methods := #[]
  instanceTypes := #[]
  staticTypes := #[]
  resolved := Array.replicate 131 none
  statics := none }

def pool5 : Array CpInfo := pool [(1, .class_ 2), (0, u "java/lang/constant/Constable"), (0, .class_ 4), (0, u "java/lang/Object")] 6

/-- java/lang/constant/Constable -/
def k5 : Class := { plain "java/lang/constant/Constable" (some 0) with
  accessFlags := 1537
  interfaces := #[]
  cf := some (fileOf pool5 1 #[] #[] 1537 3 #[] #[])
  fields := #[]
  methods := #[]
  instanceTypes := #[]
  staticTypes := #[]
  resolved := Array.replicate 11 none
  statics := none }

def pool6 : Array CpInfo := pool [(1, .class_ 2), (0, u "java/lang/constant/ConstantDesc"), (0, .class_ 4), (0, u "java/lang/Object")] 32

/-- java/lang/constant/ConstantDesc -/
def k6 : Class := { plain "java/lang/constant/ConstantDesc" (some 0) with
  accessFlags := 1537
  interfaces := #[]
  cf := some (fileOf pool6 1 #[] #[] 1537 3 #[] #[])
  fields := #[]
  methods := #[]
  instanceTypes := #[]
  staticTypes := #[]
  resolved := Array.replicate 37 none
  statics := none }

def pool7 : Array CpInfo := pool [(1, .methodref 2 3), (0, .class_ 4), (0, .nameAndType 5 6), (0, u "java/lang/Object"), (0, u "<init>"), (0, u "()V"), (2, .fieldref 10 11), (0, .class_ 12), (0, .nameAndType 13 14), (0, u "java/lang/String"), (0, u "value"), (0, u "[B"), (0, .fieldref 10 16), (0, .nameAndType 17 18), (0, u "coder"), (0, u "B"), (2, u "hash"), (0, u "I"), (2, u "hashIsZero"), (0, u "Z"), (0, .methodref 10 28), (0, .nameAndType 5 29), (0, u "([CIILjava/lang/Void;)V"), (8, .fieldref 10 39), (0, .nameAndType 40 26), (0, u "COMPACT_STRINGS"), (1, .class_ 44), (1, u "java/lang/StringUTF16"), (0, u "compress"), (1, .methodref 42 48), (0, .nameAndType 49 50), (0, u "coderFromArrayLen"), (0, u "([BI)B"), (56, .class_ 109), (1, u "java/lang/StringLatin1"), (32, u "()Z"), (34, .methodref 42 178), (0, .nameAndType 45 179), (0, u "([CII)[B"), (183, u "([BI)C"), (27, u "(II)V"), (35, u "(I)C"), (64, .methodref 10 493), (0, .nameAndType 494 142), (0, u "isLatin1"), (0, .methodref 107 496), (0, .nameAndType 497 363), (0, u "charAt"), (3, u "checkIndex"), (39, .methodref 107 542), (0, .nameAndType 543 544), (0, u "equals"), (0, u "([B[B)Z"), (28, u "(Ljava/lang/Object;)Z"), (1, .class_ 576), (0, u "java/lang/CharSequence"), (22, u "CASE_INSENSITIVE_ORDER"), (0, u "Ljava/util/Comparator;"), (409, u "([C)V"), (42, .fieldref 1054 1055), (0, .class_ 1056), (0, .nameAndType 1057 1058), (0, u "jdk/internal/util/Preconditions"), (0, u "SIOOBE_FORMATTER"), (0, u "Ljava/util/function/BiFunction;"), (0, .methodref 1054 1060), (0, .nameAndType 501 1061), (0, u "(IILjava/util/function/BiFunction;)I"), (39, u "serialPersistentFields"), (0, u "[Ljava/io/ObjectStreamField;"), (0, .class_ 1104), (0, u "java/lang/String$CaseInsensitiveComparator"), (1, .class_ 1107), (0, u "java/io/Serializable"), (0, .class_ 1109), (0, u "java/lang/Comparable"), (0, .class_ 1111), (0, u "java/lang/constant/Constable"), (0, .class_ 1113), (0, u "java/lang/constant/ConstantDesc"), (2, u "serialVersionUID"), (0, u "J"), (3, u "REPL"), (0, u "C"), (2, u "LATIN1"), (1, u "UTF16")] 323

def k7m0 : Method := { name := "<init>", desc := "()V", sig := { parameters := [], returnType := none }, accessFlags := 1, code := none }
def k7c1 : Code := { maxStack := 5, maxLocals := 2, code := jdk_42_method_3_code, exceptionTable := #[], attributes := #[] }
def k7m1 : Method := { name := "<init>", desc := "([C)V", sig := { parameters := [(.array .char)], returnType := none }, accessFlags := 1, code := some k7c1 }
def k7c2 : Code := { maxStack := 2, maxLocals := 2, code := jdk_42_method_56_code, exceptionTable := #[], attributes := #[] }
def k7m2 : Method := { name := "charAt", desc := "(I)C", sig := { parameters := [.int], returnType := some .char }, accessFlags := 1, code := some k7c2 }
def k7c3 : Code := { maxStack := 2, maxLocals := 3, code := jdk_42_method_66_code, exceptionTable := #[], attributes := #[] }
def k7m3 : Method := { name := "equals", desc := "(Ljava/lang/Object;)Z", sig := { parameters := [(.object "java/lang/Object")], returnType := some .boolean }, accessFlags := 1, code := some k7c3 }
def k7c4 : Code := { maxStack := 4, maxLocals := 6, code := jdk_42_method_149_code, exceptionTable := #[], attributes := #[] }
def k7m4 : Method := { name := "<init>", desc := "([CIILjava/lang/Void;)V", sig := { parameters := [(.array .char), .int, .int, (.object "java/lang/Void")], returnType := none }, accessFlags := 2, code := some k7c4 }
def k7c5 : Code := { maxStack := 1, maxLocals := 1, code := jdk_42_method_154_code, exceptionTable := #[], attributes := #[] }
def k7m5 : Method := { name := "isLatin1", desc := "()Z", sig := { parameters := [], returnType := some .boolean }, accessFlags := 0, code := some k7c5 }
def k7c6 : Code := { maxStack := 3, maxLocals := 2, code := jdk_42_method_155_code, exceptionTable := #[], attributes := #[] }
def k7m6 : Method := { name := "checkIndex", desc := "(II)V", sig := { parameters := [.int, .int], returnType := none }, accessFlags := 8, code := some k7c6 }
/-- java/lang/String -/
def k7 : Class := { plain "java/lang/String" (some 0) with
  accessFlags := 49
  interfaces := #[2, 3, 4, 5, 6]
  cf := some (fileOf pool7 10 #[.nestMembers #[1103]] #[{ accessFlags := 1, nameIndex := 5, descriptorIndex := 6, attributes := #[] }, { accessFlags := 1, nameIndex := 5, descriptorIndex := 1010, attributes := #[] }, { accessFlags := 1, nameIndex := 497, descriptorIndex := 427, attributes := #[] }, { accessFlags := 1, nameIndex := 543, descriptorIndex := 573, attributes := #[] }, { accessFlags := 2, nameIndex := 5, descriptorIndex := 29, attributes := #[] }, { accessFlags := 0, nameIndex := 494, descriptorIndex := 142, attributes := #[] }, { accessFlags := 8, nameIndex := 501, descriptorIndex := 391, attributes := #[] }] 49 2 #[1106, 1108, 575, 1110, 1112] #[{ accessFlags := 18, nameIndex := 13, descriptorIndex := 14, attributes := #[] }, { accessFlags := 18, nameIndex := 17, descriptorIndex := 18, attributes := #[] }, { accessFlags := 2, nameIndex := 21, descriptorIndex := 22, attributes := #[] }, { accessFlags := 2, nameIndex := 25, descriptorIndex := 26, attributes := #[] }, { accessFlags := 26, nameIndex := 1116, descriptorIndex := 1117, attributes := #[] }, { accessFlags := 24, nameIndex := 40, descriptorIndex := 26, attributes := #[] }, { accessFlags := 26, nameIndex := 1101, descriptorIndex := 1102, attributes := #[] }, { accessFlags := 26, nameIndex := 1121, descriptorIndex := 1122, attributes := #[] }, { accessFlags := 25, nameIndex := 599, descriptorIndex := 600, attributes := #[] }, { accessFlags := 24, nameIndex := 1125, descriptorIndex := 18, attributes := #[] }, { accessFlags := 24, nameIndex := 1127, descriptorIndex := 18, attributes := #[] }])
  fields := #[{ name := "value", type := (.array .byte), accessFlags := 18, slot := 0, constantValue := 0 }, { name := "coder", type := .byte, accessFlags := 18, slot := 1, constantValue := 0 }, { name := "hash", type := .int, accessFlags := 2, slot := 2, constantValue := 0 }, { name := "hashIsZero", type := .boolean, accessFlags := 2, slot := 3, constantValue := 0 }, { name := "serialVersionUID", type := .long, accessFlags := 26, slot := 0, constantValue := 0 }, { name := "COMPACT_STRINGS", type := .boolean, accessFlags := 24, slot := 1, constantValue := 0 }, { name := "serialPersistentFields", type := (.array (.object "java/io/ObjectStreamField")), accessFlags := 26, slot := 2, constantValue := 0 }, { name := "REPL", type := .char, accessFlags := 26, slot := 3, constantValue := 0 }, { name := "CASE_INSENSITIVE_ORDER", type := (.object "java/util/Comparator"), accessFlags := 25, slot := 4, constantValue := 0 }, { name := "LATIN1", type := .byte, accessFlags := 24, slot := 5, constantValue := 0 }, { name := "UTF16", type := .byte, accessFlags := 24, slot := 6, constantValue := 0 }]
  methods := #[k7m0, k7m1, k7m2, k7m3, k7m4, k7m5, k7m6]
  instanceTypes := #[(.array .byte), .byte, .int, .boolean]
  staticTypes := #[.long, .boolean, (.array (.object "java/io/ObjectStreamField")), .char, (.object "java/util/Comparator"), .byte, .byte]
  resolved := Array.replicate 1451 none
  statics := some 0 }

def pool8 : Array CpInfo := pool [(2, .class_ 4), (1, u "java/lang/Enum"), (0, u "name"), (0, u "Ljava/lang/String;"), (2, u "ordinal"), (0, u "I"), (1, .class_ 14), (1, u "java/lang/Object"), (4, u "hash"), (86, .class_ 108), (1, u "java/lang/Enum$EnumDesc"), (2, .class_ 112), (0, u "java/lang/constant/Constable"), (0, .class_ 114), (0, u "java/lang/Comparable"), (0, .class_ 116), (0, u "java/io/Serializable")] 87

/-- java/lang/Enum -/
def k8 : Class := { plain "java/lang/Enum" (some 0) with
  accessFlags := 1057
  interfaces := #[5, 3, 2]
  cf := some (fileOf pool8 2 #[.nestMembers #[106]] #[] 1057 12 #[111, 113, 115] #[{ accessFlags := 18, nameIndex := 5, descriptorIndex := 6, attributes := #[] }, { accessFlags := 18, nameIndex := 9, descriptorIndex := 10, attributes := #[] }, { accessFlags := 2, nameIndex := 19, descriptorIndex := 10, attributes := #[] }])
  fields := #[{ name := "name", type := (.object "java/lang/String"), accessFlags := 18, slot := 0, constantValue := 0 }, { name := "ordinal", type := .int, accessFlags := 18, slot := 1, constantValue := 0 }, { name := "hash", type := .int, accessFlags := 2, slot := 2, constantValue := 0 }]
  methods := #[]
  instanceTypes := #[(.object "java/lang/String"), .int, .int]
  staticTypes := #[]
  resolved := Array.replicate 204 none
  statics := none }

def pool9 : Array CpInfo := pool [(1, .class_ 2), (0, u "com/example/addenda/addenda/nfsv4/Probe$State"), (2, u "UNKNOWN"), (0, u "Lcom/example/addenda/addenda/nfsv4/Probe$State;"), (2, u "KNOWN_UNSUPPORTED"), (2, u "SUPPORTED"), (2, u "UNDETERMINED"), (2, u "NOT_SUPPORTED"), (2, u "$VALUES"), (0, u "[Lcom/example/addenda/addenda/nfsv4/Probe$State;"), (6, .class_ 31), (1, u "java/lang/Enum"), (49, .class_ 82), (0, u "com/example/addenda/addenda/nfsv4/Probe")] 2

/-- com/example/addenda/addenda/nfsv4/Probe$State -/
def k9 : Class := { plain "com/example/addenda/addenda/nfsv4/Probe$State" (some 8) with
  accessFlags := 16433
  interfaces := #[]
  cf := some (fileOf pool9 1 #[.nestHost 81] #[] 16433 29 #[] #[{ accessFlags := 16409, nameIndex := 5, descriptorIndex := 6, attributes := #[] }, { accessFlags := 16409, nameIndex := 9, descriptorIndex := 6, attributes := #[] }, { accessFlags := 16409, nameIndex := 12, descriptorIndex := 6, attributes := #[] }, { accessFlags := 16409, nameIndex := 15, descriptorIndex := 6, attributes := #[] }, { accessFlags := 16409, nameIndex := 18, descriptorIndex := 6, attributes := #[] }, { accessFlags := 4122, nameIndex := 21, descriptorIndex := 22, attributes := #[] }])
  fields := #[{ name := "UNKNOWN", type := (.object "com/example/addenda/addenda/nfsv4/Probe$State"), accessFlags := 16409, slot := 0, constantValue := 0 }, { name := "KNOWN_UNSUPPORTED", type := (.object "com/example/addenda/addenda/nfsv4/Probe$State"), accessFlags := 16409, slot := 1, constantValue := 0 }, { name := "SUPPORTED", type := (.object "com/example/addenda/addenda/nfsv4/Probe$State"), accessFlags := 16409, slot := 2, constantValue := 0 }, { name := "UNDETERMINED", type := (.object "com/example/addenda/addenda/nfsv4/Probe$State"), accessFlags := 16409, slot := 3, constantValue := 0 }, { name := "NOT_SUPPORTED", type := (.object "com/example/addenda/addenda/nfsv4/Probe$State"), accessFlags := 16409, slot := 4, constantValue := 0 }, { name := "$VALUES", type := (.array (.object "com/example/addenda/addenda/nfsv4/Probe$State")), accessFlags := 4122, slot := 5, constantValue := 0 }]
  methods := #[]
  instanceTypes := #[(.object "java/lang/String"), .int, .int]
  staticTypes := #[(.object "com/example/addenda/addenda/nfsv4/Probe$State"), (.object "com/example/addenda/addenda/nfsv4/Probe$State"), (.object "com/example/addenda/addenda/nfsv4/Probe$State"), (.object "com/example/addenda/addenda/nfsv4/Probe$State"), (.object "com/example/addenda/addenda/nfsv4/Probe$State"), (.array (.object "com/example/addenda/addenda/nfsv4/Probe$State"))]
  resolved := Array.replicate 85 none
  statics := some 1 }

def pool10 : Array CpInfo := pool [(4, .class_ 6), (1, u "java/lang/Object"), (3, .class_ 12), (1, u "com/example/addenda/addenda/nfsv4/Probe"), (0, u "description"), (0, u "Lcom/example/addenda/addenda/xdr/Description;"), (2, u "compound"), (0, u "Lcom/example/addenda/addenda/nfsv4/Compound;"), (8, u "elements"), (0, u "Ljava/util/List;"), (2, u "controlOperation"), (0, u "Ljava/math/BigInteger;"), (2, u "controlAttribute"), (67, .string 104), (0, u "NFS4ERR_INVAL"), (19, .class_ 125), (0, u "java/lang/String"), (53, .class_ 181), (1, u "com/example/addenda/addenda/nfsv4/Probe$Kind"), (10, u "Ljava/lang/String;"), (0, .methodref 124 194), (0, .nameAndType 195 196), (0, u "equals"), (0, u "(Ljava/lang/Object;)Z"), (0, .class_ 198), (0, u "com/example/addenda/addenda/nfsv4/Probe$Element"), (60, .class_ 261), (1, u "com/example/addenda/addenda/nfsv4/Probe$Probing"), (22, .class_ 285), (0, u "com/example/addenda/addenda/nfsv4/Probe$NotServed"), (85, u "UNKNOWN_OPERATION"), (0, u "Ljava/util/Set;"), (10, u "attributeState"), (0, u "(ZLjava/lang/String;Z)Lcom/example/addenda/addenda/nfsv4/Probe$State;"), (0, .class_ 386), (0, u "com/example/addenda/addenda/nfsv4/Probe$Finding"), (3, .class_ 391), (0, u "com/example/addenda/addenda/nfsv4/Probe$Report"), (34, .fieldref 427 428), (0, .class_ 429), (0, .nameAndType 430 431), (0, u "com/example/addenda/addenda/nfsv4/Probe$State"), (0, u "SUPPORTED"), (0, u "Lcom/example/addenda/addenda/nfsv4/Probe$State;"), (3, .class_ 436), (0, u "com/example/addenda/addenda/nfsv4/Probe$PackageReport"), (60, .fieldref 427 498), (0, .nameAndType 499 431), (0, u "UNDETERMINED"), (0, .fieldref 427 501), (0, .nameAndType 502 431), (0, u "UNKNOWN"), (0, .fieldref 427 504), (0, .nameAndType 505 431), (0, u "KNOWN_UNSUPPORTED"), (34, u "OK"), (1, u "INVAL"), (0, u "NOTSUPP"), (2, u "GETATTR"), (0, u "SUPPORTED_ATTRS"), (15, .class_ 564), (0, u "com/example/addenda/addenda/nfsv4/Probe$Outcome")] 140

def k10c0 : Code := { maxStack := 2, maxLocals := 3, code := prog_22_method_14_code, exceptionTable := #[], attributes := #[] }
def k10m0 : Method := { name := "attributeState", desc := "(ZLjava/lang/String;Z)Lcom/example/addenda/addenda/nfsv4/Probe$State;", sig := { parameters := [.boolean, (.object "java/lang/String"), .boolean], returnType := some (.object "com/example/addenda/addenda/nfsv4/Probe$State") }, accessFlags := 8, code := some k10c0 }
/-- com/example/addenda/addenda/nfsv4/Probe -/
def k10 : Class := { plain "com/example/addenda/addenda/nfsv4/Probe" (some 0) with
  accessFlags := 49
  interfaces := #[]
  cf := some (fileOf pool10 10 #[.nestMembers #[259, 284, 435, 390, 563, 385, 197, 179, 427]] #[{ accessFlags := 8, nameIndex := 383, descriptorIndex := 384, attributes := #[] }] 49 4 #[] #[{ accessFlags := 26, nameIndex := 540, descriptorIndex := 192, attributes := #[] }, { accessFlags := 26, nameIndex := 542, descriptorIndex := 192, attributes := #[] }, { accessFlags := 26, nameIndex := 543, descriptorIndex := 192, attributes := #[] }, { accessFlags := 26, nameIndex := 371, descriptorIndex := 372, attributes := #[] }, { accessFlags := 26, nameIndex := 546, descriptorIndex := 192, attributes := #[] }, { accessFlags := 26, nameIndex := 547, descriptorIndex := 192, attributes := #[] }, { accessFlags := 18, nameIndex := 13, descriptorIndex := 14, attributes := #[] }, { accessFlags := 18, nameIndex := 17, descriptorIndex := 18, attributes := #[] }, { accessFlags := 18, nameIndex := 27, descriptorIndex := 28, attributes := #[] }, { accessFlags := 18, nameIndex := 31, descriptorIndex := 32, attributes := #[] }, { accessFlags := 18, nameIndex := 35, descriptorIndex := 32, attributes := #[] }])
  fields := #[{ name := "OK", type := (.object "java/lang/String"), accessFlags := 26, slot := 0, constantValue := 0 }, { name := "INVAL", type := (.object "java/lang/String"), accessFlags := 26, slot := 1, constantValue := 0 }, { name := "NOTSUPP", type := (.object "java/lang/String"), accessFlags := 26, slot := 2, constantValue := 0 }, { name := "UNKNOWN_OPERATION", type := (.object "java/util/Set"), accessFlags := 26, slot := 3, constantValue := 0 }, { name := "GETATTR", type := (.object "java/lang/String"), accessFlags := 26, slot := 4, constantValue := 0 }, { name := "SUPPORTED_ATTRS", type := (.object "java/lang/String"), accessFlags := 26, slot := 5, constantValue := 0 }, { name := "description", type := (.object "com/example/addenda/addenda/xdr/Description"), accessFlags := 18, slot := 0, constantValue := 0 }, { name := "compound", type := (.object "com/example/addenda/addenda/nfsv4/Compound"), accessFlags := 18, slot := 1, constantValue := 0 }, { name := "elements", type := (.object "java/util/List"), accessFlags := 18, slot := 2, constantValue := 0 }, { name := "controlOperation", type := (.object "java/math/BigInteger"), accessFlags := 18, slot := 3, constantValue := 0 }, { name := "controlAttribute", type := (.object "java/math/BigInteger"), accessFlags := 18, slot := 4, constantValue := 0 }]
  methods := #[k10m0]
  instanceTypes := #[(.object "com/example/addenda/addenda/xdr/Description"), (.object "com/example/addenda/addenda/nfsv4/Compound"), (.object "java/util/List"), (.object "java/math/BigInteger"), (.object "java/math/BigInteger")]
  staticTypes := #[(.object "java/lang/String"), (.object "java/lang/String"), (.object "java/lang/String"), (.object "java/util/Set"), (.object "java/lang/String"), (.object "java/lang/String")]
  resolved := Array.replicate 705 none
  statics := none }

def pool11 : Array CpInfo := pool [(6, .class_ 8), (1, u "java/lang/Object"), (0, u "<init>"), (0, u "()V"), (1, .class_ 14), (1, u "java/lang/StringUTF16"), (31, u "$assertionsDisabled"), (0, u "Z"), (13, u "HI_BYTE_SHIFT"), (0, u "I"), (2, u "LO_BYTE_SHIFT"), (49, .methodref 12 116), (0, .nameAndType 117 118), (0, u "compress"), (0, u "([CI[BII)I"), (3, u "([CII)[B"), (138, u "coderFromArrayLen"), (0, u "([BI)B"), (106, .class_ 371), (1, u "java/lang/StringUTF16$LinesSpliterator"), (58, u "MAX_LENGTH"), (196, .class_ 628), (0, u "java/lang/StringUTF16$CodePointsSpliterator"), (0, .class_ 630), (0, u "java/lang/StringUTF16$CharsSpliterator")] 4

def k11m0 : Method := { name := "<init>", desc := "()V", sig := { parameters := [], returnType := none }, accessFlags := 0, code := none }
def k11c1 : Code := { maxStack := 2, maxLocals := 2, code := jdk_52_method_15_code, exceptionTable := #[], attributes := #[] }
def k11m1 : Method := { name := "coderFromArrayLen", desc := "([BI)B", sig := { parameters := [(.array .byte), .int], returnType := some .byte }, accessFlags := 8, code := some k11c1 }
def k11c2 : Code := { maxStack := 5, maxLocals := 6, code := jdk_52_method_16_code, exceptionTable := #[], attributes := #[] }
def k11m2 : Method := { name := "compress", desc := "([CII)[B", sig := { parameters := [(.array .char), .int, .int], returnType := some (.array .byte) }, accessFlags := 9, code := some k11c2 }
def k11c3 : Code := { maxStack := 3, maxLocals := 7, code := jdk_52_method_21_code, exceptionTable := #[], attributes := #[] }
def k11m3 : Method := { name := "compress", desc := "([CI[BII)I", sig := { parameters := [(.array .char), .int, (.array .byte), .int, .int], returnType := some .int }, accessFlags := 9, code := some k11c3 }
/-- java/lang/StringUTF16 -/
def k11 : Class := { plain "java/lang/StringUTF16" (some 0) with
  accessFlags := 48
  interfaces := #[]
  cf := some (fileOf pool11 12 #[.nestMembers #[627, 629, 369]] #[{ accessFlags := 0, nameIndex := 9, descriptorIndex := 10, attributes := #[] }, { accessFlags := 8, nameIndex := 261, descriptorIndex := 262, attributes := #[] }, { accessFlags := 9, nameIndex := 117, descriptorIndex := 122, attributes := #[] }, { accessFlags := 9, nameIndex := 117, descriptorIndex := 118, attributes := #[] }] 48 6 #[] #[{ accessFlags := 26, nameIndex := 61, descriptorIndex := 62, attributes := #[] }, { accessFlags := 26, nameIndex := 65, descriptorIndex := 62, attributes := #[] }, { accessFlags := 24, nameIndex := 430, descriptorIndex := 62, attributes := #[] }, { accessFlags := 4120, nameIndex := 46, descriptorIndex := 47, attributes := #[] }])
  fields := #[{ name := "HI_BYTE_SHIFT", type := .int, accessFlags := 26, slot := 0, constantValue := 0 }, { name := "LO_BYTE_SHIFT", type := .int, accessFlags := 26, slot := 1, constantValue := 0 }, { name := "MAX_LENGTH", type := .int, accessFlags := 24, slot := 2, constantValue := 0 }, { name := "$assertionsDisabled", type := .boolean, accessFlags := 4120, slot := 3, constantValue := 0 }]
  methods := #[k11m0, k11m1, k11m2, k11m3]
  instanceTypes := #[]
  staticTypes := #[.int, .int, .int, .boolean]
  resolved := Array.replicate 635 none
  statics := none }

def pool12 : Array CpInfo := pool [(1, .class_ 2), (0, u "java/lang/String"), (1, .class_ 6), (1, u "java/lang/Object"), (0, u "<init>"), (0, u "()V"), (0, .methodref 1 10), (0, .nameAndType 11 12), (0, u "checkIndex"), (0, u "(II)V"), (1, .class_ 16), (1, u "java/lang/StringLatin1"), (36, u "([BI)C"), (67, u "$assertionsDisabled"), (0, u "Z"), (98, .class_ 223), (1, u "java/lang/StringLatin1$LinesSpliterator"), (28, u "charAt"), (28, u "equals"), (0, u "([B[B)Z"), (107, .class_ 391), (0, u "java/lang/StringLatin1$CharsSpliterator")] 3

def k12m0 : Method := { name := "<init>", desc := "()V", sig := { parameters := [], returnType := none }, accessFlags := 0, code := none }
def k12c1 : Code := { maxStack := 2, maxLocals := 2, code := jdk_43_method_2_code, exceptionTable := #[], attributes := #[] }
def k12m1 : Method := { name := "charAt", desc := "([BI)C", sig := { parameters := [(.array .byte), .int], returnType := some .char }, accessFlags := 9, code := some k12c1 }
def k12c2 : Code := { maxStack := 3, maxLocals := 3, code := jdk_43_method_13_code, exceptionTable := #[], attributes := #[] }
def k12m2 : Method := { name := "equals", desc := "([B[B)Z", sig := { parameters := [(.array .byte), (.array .byte)], returnType := some .boolean }, accessFlags := 9, code := some k12c2 }
/-- java/lang/StringLatin1 -/
def k12 : Class := { plain "java/lang/StringLatin1" (some 0) with
  accessFlags := 48
  interfaces := #[]
  cf := some (fileOf pool12 14 #[.nestMembers #[390, 221]] #[{ accessFlags := 0, nameIndex := 7, descriptorIndex := 8, attributes := #[] }, { accessFlags := 9, nameIndex := 252, descriptorIndex := 53, attributes := #[] }, { accessFlags := 9, nameIndex := 281, descriptorIndex := 282, attributes := #[] }] 48 4 #[] #[{ accessFlags := 4120, nameIndex := 121, descriptorIndex := 122, attributes := #[] }])
  fields := #[{ name := "$assertionsDisabled", type := .boolean, accessFlags := 4120, slot := 0, constantValue := 0 }]
  methods := #[k12m0, k12m1, k12m2]
  instanceTypes := #[]
  staticTypes := #[.boolean]
  resolved := Array.replicate 395 none
  statics := none }

def pool13 : Array CpInfo := pool [(2, .class_ 4), (1, u "java/lang/Object"), (0, u "<init>"), (0, u "()V"), (17, .class_ 26), (1, u "jdk/internal/util/Preconditions"), (6, u "checkIndex"), (21, .class_ 56), (0, u "jdk/internal/util/Preconditions$4"), (57, .class_ 115), (0, u "jdk/internal/util/Preconditions$1"), (7, u "SIOOBE_FORMATTER"), (0, u "Ljava/util/function/BiFunction;"), (0, .class_ 126), (0, u "jdk/internal/util/Preconditions$2"), (3, u "AIOOBE_FORMATTER"), (0, .class_ 132), (0, u "jdk/internal/util/Preconditions$3"), (3, u "IOOBE_FORMATTER"), (41, u "(IILjava/util/function/BiFunction;)I")] 15

def k13m0 : Method := { name := "<init>", desc := "()V", sig := { parameters := [], returnType := none }, accessFlags := 1, code := none }
def k13c1 : Code := { maxStack := 3, maxLocals := 3, code := jdk_41_method_11_code, exceptionTable := #[], attributes := #[] }
def k13m1 : Method := { name := "checkIndex", desc := "(IILjava/util/function/BiFunction;)I", sig := { parameters := [.int, .int, (.object "java/util/function/BiFunction")], returnType := some .int }, accessFlags := 9, code := some k13c1 }
/-- jdk/internal/util/Preconditions -/
def k13 : Class := { plain "jdk/internal/util/Preconditions" (some 0) with
  accessFlags := 33
  interfaces := #[]
  cf := some (fileOf pool13 24 #[.nestMembers #[55, 131, 125, 114]] #[{ accessFlags := 1, nameIndex := 5, descriptorIndex := 6, attributes := #[] }, { accessFlags := 9, nameIndex := 33, descriptorIndex := 178, attributes := #[] }] 33 2 #[] #[{ accessFlags := 25, nameIndex := 123, descriptorIndex := 124, attributes := #[] }, { accessFlags := 25, nameIndex := 130, descriptorIndex := 124, attributes := #[] }, { accessFlags := 25, nameIndex := 136, descriptorIndex := 124, attributes := #[] }])
  fields := #[{ name := "SIOOBE_FORMATTER", type := (.object "java/util/function/BiFunction"), accessFlags := 25, slot := 0, constantValue := 0 }, { name := "AIOOBE_FORMATTER", type := (.object "java/util/function/BiFunction"), accessFlags := 25, slot := 1, constantValue := 0 }, { name := "IOOBE_FORMATTER", type := (.object "java/util/function/BiFunction"), accessFlags := 25, slot := 2, constantValue := 0 }]
  methods := #[k13m0, k13m1]
  instanceTypes := #[]
  staticTypes := #[(.object "java/util/function/BiFunction"), (.object "java/util/function/BiFunction"), (.object "java/util/function/BiFunction")]
  resolved := Array.replicate 194 none
  statics := some 2 }

def pool14 : Array CpInfo := pool [(9, u "<init>"), (6, .class_ 18), (1, u "java/lang/Object"), (0, u "()V"), (1, .class_ 23), (1, u "jdk/internal/util/ArraysSupport"), (0, u "LOG2_ARRAY_LONG_INDEX_SCALE"), (0, u "I"), (2, u "U"), (0, u "Ljdk/internal/misc/Unsafe;"), (8, u "BIG_ENDIAN"), (0, u "Z"), (8, u "LOG2_BYTE_BIT_SIZE"), (4, u "LOG2_ARRAY_INT_INDEX_SCALE"), (54, u "JLA"), (0, u "Ljdk/internal/access/JavaLangAccess;"), (11, u "LOG2_ARRAY_BOOLEAN_INDEX_SCALE"), (9, u "LOG2_ARRAY_BYTE_INDEX_SCALE"), (5, u "LOG2_ARRAY_CHAR_INDEX_SCALE"), (5, u "LOG2_ARRAY_SHORT_INDEX_SCALE"), (18, u "LOG2_ARRAY_FLOAT_INDEX_SCALE"), (24, u "LOG2_ARRAY_DOUBLE_INDEX_SCALE"), (89, u "T_BOOLEAN"), (2, u "T_CHAR"), (1, u "T_FLOAT"), (1, u "T_DOUBLE"), (1, u "T_BYTE"), (1, u "T_SHORT"), (1, u "T_INT"), (1, u "T_LONG"), (1, u "SOFT_MAX_ARRAY_LENGTH")] 83

def k14m0 : Method := { name := "<init>", desc := "()V", sig := { parameters := [], returnType := none }, accessFlags := 2, code := none }
/-- jdk/internal/util/ArraysSupport -/
def k14 : Class := { plain "jdk/internal/util/ArraysSupport" (some 0) with
  accessFlags := 33
  interfaces := #[]
  cf := some (fileOf pool14 21 #[] #[{ accessFlags := 2, nameIndex := 9, descriptorIndex := 19, attributes := #[] }] 33 16 #[] #[{ accessFlags := 24, nameIndex := 28, descriptorIndex := 29, attributes := #[] }, { accessFlags := 26, nameIndex := 38, descriptorIndex := 39, attributes := #[] }, { accessFlags := 25, nameIndex := 121, descriptorIndex := 25, attributes := #[] }, { accessFlags := 25, nameIndex := 131, descriptorIndex := 25, attributes := #[] }, { accessFlags := 25, nameIndex := 137, descriptorIndex := 25, attributes := #[] }, { accessFlags := 25, nameIndex := 143, descriptorIndex := 25, attributes := #[] }, { accessFlags := 25, nameIndex := 53, descriptorIndex := 25, attributes := #[] }, { accessFlags := 25, nameIndex := 24, descriptorIndex := 25, attributes := #[] }, { accessFlags := 25, nameIndex := 162, descriptorIndex := 25, attributes := #[] }, { accessFlags := 25, nameIndex := 187, descriptorIndex := 25, attributes := #[] }, { accessFlags := 26, nameIndex := 48, descriptorIndex := 25, attributes := #[] }, { accessFlags := 25, nameIndex := 277, descriptorIndex := 25, attributes := #[] }, { accessFlags := 25, nameIndex := 280, descriptorIndex := 25, attributes := #[] }, { accessFlags := 25, nameIndex := 282, descriptorIndex := 25, attributes := #[] }, { accessFlags := 25, nameIndex := 284, descriptorIndex := 25, attributes := #[] }, { accessFlags := 25, nameIndex := 286, descriptorIndex := 25, attributes := #[] }, { accessFlags := 25, nameIndex := 288, descriptorIndex := 25, attributes := #[] }, { accessFlags := 25, nameIndex := 290, descriptorIndex := 25, attributes := #[] }, { accessFlags := 25, nameIndex := 292, descriptorIndex := 25, attributes := #[] }, { accessFlags := 26, nameIndex := 108, descriptorIndex := 109, attributes := #[] }, { accessFlags := 25, nameIndex := 294, descriptorIndex := 25, attributes := #[] }])
  fields := #[{ name := "U", type := (.object "jdk/internal/misc/Unsafe"), accessFlags := 24, slot := 0, constantValue := 0 }, { name := "BIG_ENDIAN", type := .boolean, accessFlags := 26, slot := 1, constantValue := 0 }, { name := "LOG2_ARRAY_BOOLEAN_INDEX_SCALE", type := .int, accessFlags := 25, slot := 2, constantValue := 0 }, { name := "LOG2_ARRAY_BYTE_INDEX_SCALE", type := .int, accessFlags := 25, slot := 3, constantValue := 0 }, { name := "LOG2_ARRAY_CHAR_INDEX_SCALE", type := .int, accessFlags := 25, slot := 4, constantValue := 0 }, { name := "LOG2_ARRAY_SHORT_INDEX_SCALE", type := .int, accessFlags := 25, slot := 5, constantValue := 0 }, { name := "LOG2_ARRAY_INT_INDEX_SCALE", type := .int, accessFlags := 25, slot := 6, constantValue := 0 }, { name := "LOG2_ARRAY_LONG_INDEX_SCALE", type := .int, accessFlags := 25, slot := 7, constantValue := 0 }, { name := "LOG2_ARRAY_FLOAT_INDEX_SCALE", type := .int, accessFlags := 25, slot := 8, constantValue := 0 }, { name := "LOG2_ARRAY_DOUBLE_INDEX_SCALE", type := .int, accessFlags := 25, slot := 9, constantValue := 0 }, { name := "LOG2_BYTE_BIT_SIZE", type := .int, accessFlags := 26, slot := 10, constantValue := 0 }, { name := "T_BOOLEAN", type := .int, accessFlags := 25, slot := 11, constantValue := 0 }, { name := "T_CHAR", type := .int, accessFlags := 25, slot := 12, constantValue := 0 }, { name := "T_FLOAT", type := .int, accessFlags := 25, slot := 13, constantValue := 0 }, { name := "T_DOUBLE", type := .int, accessFlags := 25, slot := 14, constantValue := 0 }, { name := "T_BYTE", type := .int, accessFlags := 25, slot := 15, constantValue := 0 }, { name := "T_SHORT", type := .int, accessFlags := 25, slot := 16, constantValue := 0 }, { name := "T_INT", type := .int, accessFlags := 25, slot := 17, constantValue := 0 }, { name := "T_LONG", type := .int, accessFlags := 25, slot := 18, constantValue := 0 }, { name := "JLA", type := (.object "jdk/internal/access/JavaLangAccess"), accessFlags := 26, slot := 19, constantValue := 0 }, { name := "SOFT_MAX_ARRAY_LENGTH", type := .int, accessFlags := 25, slot := 20, constantValue := 0 }]
  methods := #[k14m0]
  instanceTypes := #[]
  staticTypes := #[(.object "jdk/internal/misc/Unsafe"), .boolean, .int, .int, .int, .int, .int, .int, .int, .int, .int, .int, .int, .int, .int, .int, .int, .int, .int, (.object "jdk/internal/access/JavaLangAccess"), .int]
  resolved := Array.replicate 378 none
  statics := none }

def pool15 : Array CpInfo := pool [(1, u "java/lang/Cloneable"), (0, .class_ 1), (0, u "java/lang/Object"), (0, .class_ 3)] 3

/-- java/lang/Cloneable -/
def k15 : Class := { plain "java/lang/Cloneable" (some 0) with
  accessFlags := 1537
  interfaces := #[]
  cf := some (fileOf pool15 2 #[] #[] 1537 4 #[] #[])
  fields := #[]
  methods := #[]
  instanceTypes := #[]
  staticTypes := #[]
  resolved := Array.replicate 8 none
  statics := none }

/-- the primitive byte -/
def k16 : Class := { plain "byte" none with kind := .primitive 'B', accessFlags := 0x411 }
/-- [B -/
def k17 : Class := { plain "[B" (some 0) with kind := .array 16 .byte, interfaces := #[15, 2], accessFlags := 1041 }

/-- the primitive char -/
def k18 : Class := { plain "char" none with kind := .primitive 'C', accessFlags := 0x411 }
/-- [C -/
def k19 : Class := { plain "[C" (some 0) with kind := .array 18 .char, interfaces := #[15, 2], accessFlags := 1041 }

/-- the primitive int -/
def k20 : Class := { plain "int" none with kind := .primitive 'I', accessFlags := 0x411 }
/-- [I -/
def k21 : Class := { plain "[I" (some 0) with kind := .array 20 .int, interfaces := #[15, 2], accessFlags := 1041 }

def heap : Heap := #[{ cls := 7, slots := #[.long 0, .int 1, .null, .int 0, .null, .int 0, .int 0], vm := .statics 7 },
  { cls := 9, slots := #[.ref 6, .ref 5, .ref 4, .ref 3, .null, .null], vm := .statics 9 },
  { cls := 13, slots := #[.null, .null, .null], vm := .statics 13 },
  { cls := 9, slots := #[.null, .int 0, .int 0], vm := .none },
  { cls := 9, slots := #[.null, .int 1, .int 0], vm := .none },
  { cls := 9, slots := #[.null, .int 2, .int 0], vm := .none },
  { cls := 9, slots := #[.null, .int 3, .int 0], vm := .none }]
def classes : Array Class := #[k0, k1, k2, k3, k4, k5, k6, k7, k8, k9, k10, k11, k12, k13, k14, k15, k16, k17, k18, k19, k20, k21]
def interned : List (Array UInt16 × Addr) := []
def slotsUsed : Nat := 28
def theMethod : MethodId := ⟨1, 1⟩
def args0 : Array Value := #[.int 2, .int 1, .int 3, .int 52, .int 9]
def aboutOver (below : List Frame) : State where
  vm := { classes := classes, interned := interned.toArray }
  heap := heap
  slotsUsed := slotsUsed
  threads := #[{ frames := .invoking theMethod args0 :: below }]
def below0 : List Frame := [.native { method := ⟨0, 0⟩, args := #[] }]
def about1 : State := aboutOver below0
def p0 : Program := .bare "" "" ""
def e0 : Env := launch0.env 0 0 0
theorem w_frames : about1.frames = Frame.invoking theMethod args0 :: below0 := rfl
set_option maxRecDepth 65536 in
theorem w_args : argsFit about1.vm theMethod args0 = true := by decide +kernel
set_option maxRecDepth 65536 in
theorem w_heap : heapFits about1 = true := by decide +kernel
set_option maxRecDepth 65536 in
theorem w_runnable : about1.curStatus? = some .runnable := by decide +kernel
set_option maxRecDepth 65536 in
theorem w_alone : about1.alone = true := by decide +kernel
set_option maxRecDepth 65536 in
theorem w_named : about1.methodNamed? x = some theMethod := by decide +kernel
set_option maxRecDepth 65536 in
theorem w_hears : about1.hears theMethod below0 = true := by decide +kernel
set_option maxRecDepth 65536 in
theorem w_ripe : about1.ripe theMethod args0 below0 = true := by decide +kernel
theorem w_running : about1.status = .running := rfl
set_option maxRecDepth 65536 in
theorem w_room : about1.hasRoom e0.platform room_1 = true :=
  launch0.hasRoom_least _ room_1 (by decide +kernel) (by decide +kernel) (by decide +kernel) (by decide +kernel) (by decide +kernel) (by decide +kernel)
theorem allAtoms_all (ts : List Jvm.Cond) (a : Array Jvm.Value) (st : Jvm.State) : (allAtoms ts).before a st = ts.all (fun c => c.before a st) := by
  induction ts with
  | nil => rfl
  | cons c t ih =>
    show (Jvm.Cond.and c (allAtoms t)).before a st = _
    rw [Jvm.Cond.before_and, ih, List.all_cons]
def words1 : List Jvm.Cond := Jvm.Cond.code x code maxLocals ret :: tables_1
/-- a 'code' word, met by the world's own term for the bytes: nothing is compared byte by byte -/
theorem code_word {y : MethodName} {bytes : ByteArray} {mx : Nat} {rt : Option FieldType} {a : Array Value} {s : State} {m : MethodId} {meth : Method} {c : Code} (h1 : s.methodNamed? y = some m) (h2 : s.vm.method? m = some meth) (h3 : meth.code = some c) (h4 : c.code = bytes)
    (h5 : (c.maxLocals == mx && c.exceptionTable.isEmpty && decide (c.maxStack ≤ mostOperands) && decide (meth.sig.returnType = rt) && !meth.locks && decide (parseMethodDescriptor y.desc = some meth.sig)) = true) : (Jvm.Cond.code y bytes mx rt).before a s = true := by
  simp only [Bool.and_eq_true, beq_iff_eq, Bool.not_eq_true', decide_eq_true_eq] at h5
  obtain ⟨⟨⟨⟨⟨g1, g2⟩, g3⟩, g4⟩, g5⟩, g6⟩ := h5
  simp [Cond.before, Cond.holds, Cond.value, h1, h2, h3, h4, g1, g2, g3, g4, g5, g6]
def isCode : Jvm.Cond → Bool
  | .code _ _ _ _ => true
  | _ => false
theorem all_split {L : List Jvm.Cond} {P : Jvm.Cond → Bool} (h1 : L.all (fun c => isCode c || P c) = true) (h2 : ∀ c ∈ L.filter isCode, P c = true) : L.all P = true := by
  refine List.all_eq_true.mpr fun c hc => ?_
  have h := List.all_eq_true.mp h1 c hc
  rcases Bool.eq_false_or_eq_true (isCode c) with hi | hi
  · exact h2 c (List.mem_filter.mpr ⟨hc, hi⟩)
  · simpa [hi] using h
set_option maxRecDepth 65536 in
theorem w_c0 : (Jvm.Cond.code x code maxLocals ret).before args0 about1 = true := code_word (m := ⟨1, 1⟩) (meth := k1m1) (c := k1c1) (by decide +kernel) rfl rfl rfl (by decide +kernel)
set_option maxRecDepth 65536 in
theorem w_c1 : (Jvm.Cond.code ({ cls := "com/example/addenda/addenda/nfsv4/Probe", name := "attributeState", desc := "(ZLjava/lang/String;Z)Lcom/example/addenda/addenda/nfsv4/Probe$State;" } : Jvm.MethodName) prog_22_method_14_code (3 : Nat) (Option.some (Jvm.ClassFile.FieldType.object "com/example/addenda/addenda/nfsv4/Probe$State"))).before args0 about1 = true := code_word (m := ⟨10, 0⟩) (meth := k10m0) (c := k10c0) (by decide +kernel) rfl rfl rfl (by decide +kernel)
set_option maxRecDepth 65536 in
theorem w_c2 : (Jvm.Cond.code ({ cls := "java/lang/String", name := "<init>", desc := "([C)V" } : Jvm.MethodName) jdk_42_method_3_code (2 : Nat) (Option.none : Option Jvm.ClassFile.FieldType)).before args0 about1 = true := code_word (m := ⟨7, 1⟩) (meth := k7m1) (c := k7c1) (by decide +kernel) rfl rfl rfl (by decide +kernel)
set_option maxRecDepth 65536 in
theorem w_c3 : (Jvm.Cond.code ({ cls := "java/lang/String", name := "<init>", desc := "([CIILjava/lang/Void;)V" } : Jvm.MethodName) jdk_42_method_149_code (6 : Nat) (Option.none : Option Jvm.ClassFile.FieldType)).before args0 about1 = true := code_word (m := ⟨7, 4⟩) (meth := k7m4) (c := k7c4) (by decide +kernel) rfl rfl rfl (by decide +kernel)
set_option maxRecDepth 65536 in
theorem w_c4 : (Jvm.Cond.code ({ cls := "java/lang/Object", name := "<init>", desc := "()V" } : Jvm.MethodName) object_method_1_code (1 : Nat) (Option.none : Option Jvm.ClassFile.FieldType)).before args0 about1 = true := code_word (m := ⟨0, 0⟩) (meth := k0m0) (c := k0c0) (by decide +kernel) rfl rfl rfl (by decide +kernel)
set_option maxRecDepth 65536 in
theorem w_c5 : (Jvm.Cond.code ({ cls := "java/lang/StringUTF16", name := "compress", desc := "([CII)[B" } : Jvm.MethodName) jdk_52_method_16_code (6 : Nat) (Option.some (Jvm.ClassFile.FieldType.array Jvm.ClassFile.FieldType.byte))).before args0 about1 = true := code_word (m := ⟨11, 2⟩) (meth := k11m2) (c := k11c2) (by decide +kernel) rfl rfl rfl (by decide +kernel)
set_option maxRecDepth 65536 in
theorem w_c6 : (Jvm.Cond.code ({ cls := "java/lang/StringUTF16", name := "compress", desc := "([CI[BII)I" } : Jvm.MethodName) jdk_52_method_21_code (7 : Nat) (Option.some Jvm.ClassFile.FieldType.int)).before args0 about1 = true := code_word (m := ⟨11, 3⟩) (meth := k11m3) (c := k11c3) (by decide +kernel) rfl rfl rfl (by decide +kernel)
set_option maxRecDepth 65536 in
theorem w_c7 : (Jvm.Cond.code ({ cls := "java/lang/StringUTF16", name := "coderFromArrayLen", desc := "([BI)B" } : Jvm.MethodName) jdk_52_method_15_code (2 : Nat) (Option.some Jvm.ClassFile.FieldType.byte)).before args0 about1 = true := code_word (m := ⟨11, 1⟩) (meth := k11m1) (c := k11c1) (by decide +kernel) rfl rfl rfl (by decide +kernel)
set_option maxRecDepth 65536 in
theorem w_c8 : (Jvm.Cond.code ({ cls := "java/lang/String", name := "charAt", desc := "(I)C" } : Jvm.MethodName) jdk_42_method_56_code (2 : Nat) (Option.some Jvm.ClassFile.FieldType.char)).before args0 about1 = true := code_word (m := ⟨7, 2⟩) (meth := k7m2) (c := k7c2) (by decide +kernel) rfl rfl rfl (by decide +kernel)
set_option maxRecDepth 65536 in
theorem w_c9 : (Jvm.Cond.code ({ cls := "java/lang/String", name := "isLatin1", desc := "()Z" } : Jvm.MethodName) jdk_42_method_154_code (1 : Nat) (Option.some Jvm.ClassFile.FieldType.boolean)).before args0 about1 = true := code_word (m := ⟨7, 5⟩) (meth := k7m5) (c := k7c5) (by decide +kernel) rfl rfl rfl (by decide +kernel)
set_option maxRecDepth 65536 in
theorem w_c10 : (Jvm.Cond.code ({ cls := "java/lang/StringLatin1", name := "charAt", desc := "([BI)C" } : Jvm.MethodName) jdk_43_method_2_code (2 : Nat) (Option.some Jvm.ClassFile.FieldType.char)).before args0 about1 = true := code_word (m := ⟨12, 1⟩) (meth := k12m1) (c := k12c1) (by decide +kernel) rfl rfl rfl (by decide +kernel)
set_option maxRecDepth 65536 in
theorem w_c11 : (Jvm.Cond.code ({ cls := "java/lang/String", name := "checkIndex", desc := "(II)V" } : Jvm.MethodName) jdk_42_method_155_code (2 : Nat) (Option.none : Option Jvm.ClassFile.FieldType)).before args0 about1 = true := code_word (m := ⟨7, 6⟩) (meth := k7m6) (c := k7c6) (by decide +kernel) rfl rfl rfl (by decide +kernel)
set_option maxRecDepth 65536 in
theorem w_c12 : (Jvm.Cond.code ({ cls := "jdk/internal/util/Preconditions", name := "checkIndex", desc := "(IILjava/util/function/BiFunction;)I" } : Jvm.MethodName) jdk_41_method_11_code (3 : Nat) (Option.some Jvm.ClassFile.FieldType.int)).before args0 about1 = true := code_word (m := ⟨13, 1⟩) (meth := k13m1) (c := k13c1) (by decide +kernel) rfl rfl rfl (by decide +kernel)
set_option maxRecDepth 65536 in
theorem w_c13 : (Jvm.Cond.code ({ cls := "java/lang/String", name := "equals", desc := "(Ljava/lang/Object;)Z" } : Jvm.MethodName) jdk_42_method_66_code (3 : Nat) (Option.some Jvm.ClassFile.FieldType.boolean)).before args0 about1 = true := code_word (m := ⟨7, 3⟩) (meth := k7m3) (c := k7c3) (by decide +kernel) rfl rfl rfl (by decide +kernel)
set_option maxRecDepth 65536 in
theorem w_c14 : (Jvm.Cond.code ({ cls := "java/lang/StringLatin1", name := "equals", desc := "([B[B)Z" } : Jvm.MethodName) jdk_43_method_13_code (3 : Nat) (Option.some Jvm.ClassFile.FieldType.boolean)).before args0 about1 = true := code_word (m := ⟨12, 2⟩) (meth := k12m2) (c := k12c2) (by decide +kernel) rfl rfl rfl (by decide +kernel)
def codes1 : List Jvm.Cond := [Jvm.Cond.code x code maxLocals ret, Jvm.Cond.code ({ cls := "com/example/addenda/addenda/nfsv4/Probe", name := "attributeState", desc := "(ZLjava/lang/String;Z)Lcom/example/addenda/addenda/nfsv4/Probe$State;" } : Jvm.MethodName) prog_22_method_14_code (3 : Nat) (Option.some (Jvm.ClassFile.FieldType.object "com/example/addenda/addenda/nfsv4/Probe$State")), Jvm.Cond.code ({ cls := "java/lang/String", name := "<init>", desc := "([C)V" } : Jvm.MethodName) jdk_42_method_3_code (2 : Nat) (Option.none : Option Jvm.ClassFile.FieldType), Jvm.Cond.code ({ cls := "java/lang/String", name := "<init>", desc := "([CIILjava/lang/Void;)V" } : Jvm.MethodName) jdk_42_method_149_code (6 : Nat) (Option.none : Option Jvm.ClassFile.FieldType), Jvm.Cond.code ({ cls := "java/lang/Object", name := "<init>", desc := "()V" } : Jvm.MethodName) object_method_1_code (1 : Nat) (Option.none : Option Jvm.ClassFile.FieldType), Jvm.Cond.code ({ cls := "java/lang/StringUTF16", name := "compress", desc := "([CII)[B" } : Jvm.MethodName) jdk_52_method_16_code (6 : Nat) (Option.some (Jvm.ClassFile.FieldType.array Jvm.ClassFile.FieldType.byte)), Jvm.Cond.code ({ cls := "java/lang/StringUTF16", name := "compress", desc := "([CI[BII)I" } : Jvm.MethodName) jdk_52_method_21_code (7 : Nat) (Option.some Jvm.ClassFile.FieldType.int), Jvm.Cond.code ({ cls := "java/lang/StringUTF16", name := "coderFromArrayLen", desc := "([BI)B" } : Jvm.MethodName) jdk_52_method_15_code (2 : Nat) (Option.some Jvm.ClassFile.FieldType.byte), Jvm.Cond.code ({ cls := "java/lang/String", name := "charAt", desc := "(I)C" } : Jvm.MethodName) jdk_42_method_56_code (2 : Nat) (Option.some Jvm.ClassFile.FieldType.char), Jvm.Cond.code ({ cls := "java/lang/String", name := "isLatin1", desc := "()Z" } : Jvm.MethodName) jdk_42_method_154_code (1 : Nat) (Option.some Jvm.ClassFile.FieldType.boolean), Jvm.Cond.code ({ cls := "java/lang/StringLatin1", name := "charAt", desc := "([BI)C" } : Jvm.MethodName) jdk_43_method_2_code (2 : Nat) (Option.some Jvm.ClassFile.FieldType.char), Jvm.Cond.code ({ cls := "java/lang/String", name := "checkIndex", desc := "(II)V" } : Jvm.MethodName) jdk_42_method_155_code (2 : Nat) (Option.none : Option Jvm.ClassFile.FieldType), Jvm.Cond.code ({ cls := "jdk/internal/util/Preconditions", name := "checkIndex", desc := "(IILjava/util/function/BiFunction;)I" } : Jvm.MethodName) jdk_41_method_11_code (3 : Nat) (Option.some Jvm.ClassFile.FieldType.int), Jvm.Cond.code ({ cls := "java/lang/String", name := "equals", desc := "(Ljava/lang/Object;)Z" } : Jvm.MethodName) jdk_42_method_66_code (3 : Nat) (Option.some Jvm.ClassFile.FieldType.boolean), Jvm.Cond.code ({ cls := "java/lang/StringLatin1", name := "equals", desc := "([B[B)Z" } : Jvm.MethodName) jdk_43_method_13_code (3 : Nat) (Option.some Jvm.ClassFile.FieldType.boolean)]
set_option maxRecDepth 65536 in
theorem codes_eq : words1.filter isCode = codes1 := rfl
theorem w_codes : ∀ c ∈ words1.filter isCode, c.before args0 about1 = true := by
  rw [codes_eq]
  intro c hc
  simp only [codes1, List.mem_cons, List.not_mem_nil, or_false] at hc
  rcases hc with rfl | rfl | rfl | rfl | rfl | rfl | rfl | rfl | rfl | rfl | rfl | rfl | rfl | rfl | rfl
  · exact w_c0
  · exact w_c1
  · exact w_c2
  · exact w_c3
  · exact w_c4
  · exact w_c5
  · exact w_c6
  · exact w_c7
  · exact w_c8
  · exact w_c9
  · exact w_c10
  · exact w_c11
  · exact w_c12
  · exact w_c13
  · exact w_c14
set_option maxRecDepth 65536 in
theorem w_t1 : (words1.take 24).all (fun c => isCode c || c.before args0 about1) = true := by decide +kernel
set_option maxRecDepth 65536 in
theorem w_t2 : ((words1.drop 24).take 24).all (fun c => isCode c || c.before args0 about1) = true := by decide +kernel
set_option maxRecDepth 65536 in
theorem w_t3 : (((words1.drop 24).drop 24).take 24).all (fun c => isCode c || c.before args0 about1) = true := by decide +kernel
set_option maxRecDepth 65536 in
theorem w_t4 : (((words1.drop 24).drop 24).drop 24).all (fun c => isCode c || c.before args0 about1) = true := by decide +kernel
theorem w_tables : (allAtoms (Jvm.Cond.code x code maxLocals ret :: tables_1)).before args0 about1 = true := by
  rw [allAtoms_all]
  show words1.all (fun c => c.before args0 about1) = true
  refine all_split ?_ w_codes
  rw [← List.take_append_drop 24 words1, List.all_append, w_t1, ← List.take_append_drop 24 (words1.drop 24), List.all_append, w_t2, ← List.take_append_drop 24 ((words1.drop 24).drop 24), List.all_append, w_t3, w_t4]
  rfl
set_option maxRecDepth 65536 in
theorem w_rest : rest_1_c.before args0 about1 = true := by decide +kernel
set_option maxRecDepth 65536 in
theorem w_case : (Jvm.Cond.and given_1 narrow_1).before args0 about1 = true := by decide +kernel
set_option maxRecDepth 65536 in
theorem w_consts : constsHeld consts_1 about1 := Jvm.Lit.constsHeldB_iff.mp (by decide +kernel)
theorem w_applies : (headSpec (Jvm.Cond.code x code maxLocals ret :: tables_1) room_1).applies x e0.platform about1 = true :=
  (Spec.applies_iff w_frames).mpr ⟨w_running, w_runnable, w_alone, w_named, w_hears, w_ripe, w_room, w_tables⟩
theorem atStart : AtStart classFile x code maxLocals ret World_1 tables_1 room_1 Calls_1 rest_1 Pre_1 launch0 p0 e0 about1 theMethod args0 below0 :=
  ⟨lists_1, trivial, launch0.admits_env _ _ _, launch0.least_env, fairChoices_fair.cas, fairChoices_fair.clock, w_frames, w_args, w_heap, w_applies, ⟨w_consts, trivial⟩, w_rest, w_case⟩
end start1
theorem witness_1 : WitnessClaimed_1 := ⟨start1.p0, start1.e0, start1.about1, start1.theMethod, start1.args0, start1.below0, start1.atStart⟩
end Jvm.Pilot.@@N@@
