import JvmDerived
import JvmDerived.Pilot.@@N@@Statement
import JvmDerived.Pilot.@@N@@Code
set_option linter.unusedVariables false
set_option linter.unusedSimpArgs false
@@BLOCK:NumsL.lean.txt@@
namespace Jvm.RoadKit
open Sem ClassFile Op Lib Jvm.Stand Jvm.Free Jvm.LawKit
section Own
variable {p : Program} {l : Launch} {e : Env} {R : Room} {s : State} {m : MethodId} {args : Array Value} {below : List Frame} {meth : Method} {c : Code} {T : State} {locs : List Loc} {cells slots : Nat}
/-- from U the run ends, and P is said of the end -/
def Go (p : Program) (e : Env) (below : List Frame) (U : State) (P : Outcome → State → Prop) : Prop := ∃ s₂ o, Steps p.tables e below U s₂ ∧ s₂.status = .running ∧ Ended s₂ below o ∧ P o s₂
theorem Go.st {U U' : State} {P : Outcome → State → Prop} (k : ∀ t, Steps p.tables e below U' t → Steps p.tables e below U t) (g : Go p e below U' P) : Go p e below U P := by
  obtain ⟨t, o, a, r⟩ := g
  exact ⟨t, o, k t a, r⟩
theorem Go.tr {U U' : State} {P : Outcome → State → Prop} (k : Steps p.tables e below U U') (g : Go p e below U' P) : Go p e below U P := by
  obtain ⟨t, o, a, r⟩ := g
  exact ⟨t, o, k.trans a, r⟩
theorem Go.fin (X : Stand p l e R s m args below meth c T locs cells slots) {v : Option Value} (hv : meth.sig.returnType = none → v = none) (hlocks : meth.locks = false) {U : State} {P : Outcome → State → Prop}
    (st : ∀ fs, (∀ (f : JFrame) (acts : List Action), f.method = m → f.locked = none → f.entered = [] → (doReturn e (T.setTop f) acts v).1 = T.setFrames fs) → Steps p.tables e below U (T.setFrames fs))
    (hP : ∀ U' : State, U'.heap = T.heap → FrameEnd s (.returned v) U' locs cells slots → P (.returned v) U') : Go p e below U P := by
  obtain ⟨fs, hr, hrun, hended, hW, hsame⟩ := X.leave hv hlocks
  exact ⟨_, _, st fs hr, hrun, hended, hP _ rfl ⟨⟨_, rfl⟩, hW, hsame⟩⟩
theorem own_ord {a0 : Array Value} {t : Term} {a : Addr} {C n d : String} {k : Int32} (ev : t.eval a0 s none [] s = some (.ref a)) (h : (Cond.eq (.field t C n d) (.int k)).value a0 s none s [] = some true) : s.fieldOf? a C n d = some (.int k) := by
  have e1 := fld_at (C := C) (n := n) (dd := d) ev
  have e2 : (Term.int k).eval a0 s none [] s = some (.int k) := rfl
  cases hf : s.fieldOf? a C n d with
  | none => rw [hf] at e1; simp [Cond.value, e1] at h
  | some w =>
    rw [hf] at e1
    cases w <;> simp [Cond.value, e1, e2] at h
    rw [h]
theorem own_ne {a b : Addr} {C n d : String} {j k : Int32} (h1 : s.fieldOf? a C n d = some (.int j)) (h2 : s.fieldOf? b C n d = some (.int k)) (hne : j ≠ k) : a ≠ b := fun q => by
  subst q
  rw [h1] at h2
  exact hne (by injection (Option.some.inj h2))
theorem own_lsw {g : JFrame} {target : State} (X : Stand p l e R s m args below meth c T locs cells slots) (hx : p.tables.exec = Jvm.exec) (hg : g.method = m) {dflt : Int} {pairs : Array (Int × Int)} {len : Nat} {pc0 pc' : Nat} (hpc : g.pc = pc0)
    (hd : decode c.code g.pc = .ok (.lookupswitch dflt pairs, len)) {i : Int32} {rest : List Value} (hs : g.stack = .int i :: rest) {o : Int} (ho : lookupswitch.offset pairs.toList dflt i.toInt = o) (hso : ∀ (a b a_1 b_1 : Int), ((a, b), a_1, b_1) ∈ pairs.toList.zip pairs.toList.tail → a < a_1) (h0 : 0 ≤ (pc0 : Int) + o) (hp : ((pc0 : Int) + o).toNat = pc')
    (hr : Steps p.tables e below (T.setTop { g with pc := pc', stack := rest }) target) : Steps p.tables e below (T.setTop g) target := by
  subst hg hpc hp ho
  jvm_step X.here [X.here.top, hx, hd, hs, h0, lookupswitch.wp_chain]
  exact ⟨hso, hr⟩
theorem own_arvlt {Z : State} {h : Heap} {a : Addr} {k : ClassId} {ty : FieldType} {n : Int32} {vs : List Value} {d : Value} (V : Arv Z h a k ty n vs d) : a < h.size := by
  obtain ⟨c, A, -⟩ := V
  exact A.lt
end Own
end Jvm.RoadKit
namespace Jvm.Pilot.@@N@@
open Jvm Jvm.ClassFile Sem Op Lib Jvm.Free Jvm.Stand Jvm.LawKit Jvm.RoadKit Bundle Jvm.Pilot.@@N@@.Jvm.D

section ArfKit
variable {Z : State} {h h' : Heap} {a b : Addr} {k : ClassId} {ty : FieldType} {z : Int32} {f g : Nat → Value} {sl : Nat} {v w dv : Value} {ws : List Addr} {vs : List Value}
def Arf (Z : State) (h : Heap) (a : Addr) (k : ClassId) (ty : FieldType) (n : Int32) (f : Nat → Value) : Prop := ∃ c : Cell, Arr Z h a c ty ∧ c.cls = k ∧ c.slots.size = n.toNatClampNeg ∧ ¬ n < 0 ∧ (∀ i, i < c.slots.size → c.slots[i]? = some (f i)) ∧ ∀ i, i < c.slots.size → fits ty (f i) = true
def upd (f : Nat → Value) (i : Nat) (v : Value) : Nat → Value := fun j => if j = i then v else f j
theorem Arf.lt (F : Arf Z h a k ty z f) : a < h.size := by obtain ⟨c, A, -⟩ := F; exact A.lt
theorem Arf.ext (F : Arf Z h a k ty z f) (E : Ext h h') : Arf Z h' a k ty z f := by obtain ⟨c, A, r⟩ := F; exact ⟨c, A.ext E, r⟩
theorem Arf.other (F : Arf Z h b k ty z f) (W : Wr h h' a sl v) (q : b ≠ a) : Arf Z h' b k ty z f := by obtain ⟨c, A, r⟩ := F; exact ⟨c, A.other W q, r⟩
theorem Arf.keep (F : Arf Z h a k ty z f) (K : Keep h h' ws) (q : a ∉ ws) : Arf Z h' a k ty z f := by obtain ⟨c, A, r⟩ := F; exact ⟨c, ⟨K.2.1 a c A.1 q, A.2⟩, r⟩
theorem Arf.ofArv (F : Arv Z h a k ty z vs dv) (q : ∀ i, i < z.toNatClampNeg → vs.getD i dv = f i) : Arf Z h a k ty z f := by
  obtain ⟨c, A, q1, S, q3, H, G⟩ := F
  exact ⟨c, A, q1, S, q3, fun i hi => by rw [H i hi, q i (by rw [← S]; exact hi)], fun i hi => by rw [← q i (by rw [← S]; exact hi)]; exact G i hi⟩
theorem own_mapD (f : Nat → Value) (dv : Value) (n i : Nat) (hi : i < n) : ((List.range n).map f).getD i dv = f i := by
  simp [List.getD_eq_getElem?_getD, hi]
theorem Arf.arv (F : Arf Z h a k ty z f) (dv : Value) : Arv Z h a k ty z ((List.range z.toNatClampNeg).map f) dv := by
  obtain ⟨c, A, q1, S, q3, H, G⟩ := F
  exact ⟨c, A, q1, S, q3, fun i hi => by rw [H i hi, own_mapD f dv _ i (by rw [← S]; exact hi)], fun i hi => by rw [own_mapD f dv _ i (by rw [← S]; exact hi)]; exact G i hi⟩
theorem Arf.new (A : Arr Z h a (newA k ty z) ty) (q : ¬ z < 0) : Arf Z h a k ty z (fun _ => defaultValue ty) := Arf.ofArv (Arv.new A q) fun i _ => by simp [List.getD_eq_getElem?_getD]
theorem Arf.set {c : Cell} {j : Int32} (A : Arr Z h a c ty) (q1 : c.cls = k) (S : c.slots.size = z.toNatClampNeg) (q3 : ¬ z < 0) (H : ∀ i, i < c.slots.size → c.slots[i]? = some (f i)) (G : ∀ i, i < c.slots.size → fits ty (f i) = true) (hv : fits ty v = true) (W : Wr h h' a j.toNatClampNeg v) (i : Nat) (hj : j.toNatClampNeg = i) (hin : ¬ (j < 0 ∨ c.slots.size ≤ j.toNatClampNeg)) : Arf Z h' a k ty z (upd f i v) := by
  subst hj
  have hlt : j.toNatClampNeg < c.slots.size := Nat.lt_of_not_le fun q => hin (Or.inr q)
  refine ⟨_, A.same W, q1, by rw [sz_set]; exact S, q3, fun x hx => ?_, fun x hx => ?_⟩ <;> rw [sz_set] at hx <;> simp only [upd] <;> split
  · rename_i e
    subst e; simp [Cell.setSlot, hx]
  · rename_i e
    simp only [Cell.setSlot]; rw [Array.getElem?_setIfInBounds_ne (Ne.symm e)]; exact H x hx
  · exact hv
  · exact G x hx
theorem Arf.same (F : Arf Z h a k ty z f) (q : ∀ i, i < z.toNatClampNeg → f i = g i) : Arf Z h a k ty z g := by
  obtain ⟨c, A, q1, S, q3, H, G⟩ := F
  exact ⟨c, A, q1, S, q3, fun i hi => by rw [H i hi, q i (by rw [← S]; exact hi)], fun i hi => by rw [← q i (by rw [← S]; exact hi)]; exact G i hi⟩
/-- arraycopy's list, place by place -/
theorem own_cpD (f g : Nat → Value) (dv dd : Value) (n m sp dp nn : Nat) (h4 : sp + nn ≤ n) (h5 : dp + nn ≤ m) (i : Nat) (hi : i < m) :
    (((List.range m).map g).take dp ++ ((List.range nn).map fun i => ((List.range n).map f).getD (sp + i) dv) ++ ((List.range m).map g).drop (dp + nn)).getD i dd = if dp ≤ i ∧ i < dp + nn then f (sp + (i - dp)) else g i := by
  rw [List.getD_eq_getElem?_getD, List.append_assoc]
  have l1 : (((List.range m).map g).take dp).length = dp := by simp; omega
  have l2 : ((List.range nn).map fun i => ((List.range n).map f).getD (sp + i) dv).length = nn := by simp
  by_cases h1 : i < dp
  · have c : ¬ (dp ≤ i ∧ i < dp + nn) := by omega
    rw [if_neg c, List.getElem?_append_left (by rw [l1]; exact h1), List.getElem?_take]
    simp [h1, hi]
  · rw [List.getElem?_append_right (by rw [l1]; omega), l1]
    by_cases h2 : i < dp + nn
    · have c : dp ≤ i ∧ i < dp + nn := by omega
      rw [if_pos c, List.getElem?_append_left (by rw [l2]; omega)]
      have l : i - dp < nn := by omega
      have l2 : sp + (i - dp) < n := by omega
      simp [List.getD_eq_getElem?_getD, l, l2]
    · have c : ¬ (dp ≤ i ∧ i < dp + nn) := by omega
      rw [if_neg c, List.getElem?_append_right (by rw [l2]; omega), l2, List.getElem?_drop]
      have l : dp + nn + (i - dp - nn) = i := by omega
      rw [l]
      simp [hi]
theorem own_nb (x : Int32) : nar .byte (x.toInt8.toInt32) = x.toInt8.toInt32 := by
  show (x.toInt8.toInt32).toInt8.toInt32 = x.toInt8.toInt32
  simp
end ArfKit
section ArfSteps
variable {p : Program} {l : Launch} {e : Env} {R : Room} {s : State} {m : MethodId} {args : Array Value} {below : List Frame} {meth : Method} {c : Code} {T : State} {locs : List Loc} {cells slots : Nat} {Z : State} {h : Heap} {a b : Addr} {k : ClassId} {ty : FieldType} {z : Int32} {f g0 : Nat → Value}
/-- System.arraycopy of a primitive kind -/
theorem cpF (X : Stand p l e R s m args below meth c T locs cells slots) (hx : p.tables.exec = Jvm.exec) (hZ : Z.Warmed39 s.vm) {a0 : Array Value} {own : String} {index : Nat} (hown : s.vm.findClass own = some m.cls)
    (w1 : (Cond.methodLink own index Jvm.Stand.acN).before a0 Z = true) (w2 : (Cond.native Jvm.Stand.acN).before a0 Z = true) (w3 : (Cond.static Jvm.Stand.acN).before a0 Z = true) (w4 : (Cond.initialized "java/lang/System").before a0 Z = true) (eT : T.heap = h)
    {k' : ClassId} {z' sp dp nn : Int32} (A : Arf Z h a k ty z f) (B : Arf Z h b k' ty z' g0) (hty : refKind ty = false)
    (h1 : ¬ sp < 0) (h2 : ¬ dp < 0) (h3 : ¬ nn < 0) (h4 : sp.toNatClampNeg + nn.toNatClampNeg ≤ z.toNatClampNeg) (h5 : dp.toNatClampNeg + nn.toNatClampNeg ≤ z'.toNatClampNeg)
    {n0 : Nat} (N : Fr n0 locs) (ge : n0 ≤ b)
    {g : JFrame} (hg : g.method = m) (hsize : g.locals.size = c.maxLocals) {rest : List Value} (hs : g.stack = .int nn :: .int dp :: .ref b :: .int sp :: .ref a :: rest) (hd : decode c.code g.pc = .ok (.invokestatic index, 3))
    (hf : 1 ≤ R.frames) {W : Nat} (hW : 2 * g.monitorRoom + (rest.map fun v => v.category).sum ≤ W) (hlo : W + (nativeFrameWords "java/lang/System" "arraycopy" 5 + 11) ≤ R.locals) :
    ∃ T' h' L, Stand p l e R s m args below meth c T' L cells slots ∧ T'.heap = h' ∧ Fr n0 L ∧ Keep h h' [b] ∧ Arf Z h' b k' ty z' (fun i => if dp.toNatClampNeg ≤ i ∧ i < dp.toNatClampNeg + nn.toNatClampNeg then f (sp.toNatClampNeg + (i - dp.toNatClampNeg)) else g0 i) ∧
      ∀ target, Steps p.tables e below (T'.setTop { g with pc := g.pc + 3, stack := rest }) target → Steps p.tables e below (T.setTop g) target := by
  obtain ⟨T', h', L, X', e', N', K', V', st⟩ := cpA X hx hZ hown w1 w2 w3 w4 eT (A.arv .null) (B.arv .null) (Or.inl ⟨rfl, hty⟩) h1 h2 h3 h4 h5 rfl (by simp; omega) N ge hg hsize hs hd hf hW hlo
  exact ⟨T', h', L, X', e', N', K', Arf.ofArv V' fun i hi => own_cpD f g0 .null .null _ _ _ _ _ h4 h5 i hi, st⟩
end ArfSteps

section StxKit
variable {Z : State} {n0 : Nat} {h h' : Heap} {a : Addr} {C n d : String} {v w : Value} {sl : Nat} {ws : List Addr}
/-- a static whose cell is old -/
def Stx (Z : State) (n0 : Nat) (h : Heap) (C n d : String) (v : Value) : Prop := ∃ (cf i : Nat) (k : Class) (f : Field) (st : Addr) (cell : Cell), Z.fieldFound? C n d = some (cf, k, i, f) ∧ f.isStatic = true ∧ k.init = .initialized ∧ k.statics = some st ∧ h[st]? = some cell ∧ cell.vm.isStatics = true ∧ cell.slots[f.slot]? = some v ∧ st < n0
theorem Stx.sta (F : Stx Z n0 h C n d v) : Sta Z h C n d v := by
  obtain ⟨cf, i, k, f, st, cell, h1, h2, h3, h4, h5, h6, h7, -⟩ := F
  exact ⟨cf, i, k, f, st, cell, h1, h2, h3, h4, h5, h6, h7⟩
theorem Stx.start (F : Sta Z h C n d v) (q : h.size ≤ n0) : Stx Z n0 h C n d v := by
  obtain ⟨cf, i, k, f, st, cell, h1, h2, h3, h4, h5, h6, h7⟩ := F
  exact ⟨cf, i, k, f, st, cell, h1, h2, h3, h4, h5, h6, h7, Nat.lt_of_lt_of_le (Array.getElem?_eq_some_iff.mp h5).1 q⟩
theorem Stx.ext (F : Stx Z n0 h C n d v) (E : Ext h h') : Stx Z n0 h' C n d v := by
  obtain ⟨cf, i, k, f, st, cell, h1, h2, h3, h4, h5, r⟩ := F
  exact ⟨cf, i, k, f, st, cell, h1, h2, h3, h4, E.2 _ _ h5, r⟩
theorem Stx.wr (F : Stx Z n0 h C n d v) (W : Wr h h' a sl w) : Stx Z n0 h' C n d v := by
  obtain ⟨cf, i, k, f, st, cell, h1, h2, h3, h4, h5, h6, h7, h8⟩ := F
  obtain ⟨c', e1, -, -, -, e5, -, e7⟩ := wr_at W h5
  have ne : st ≠ a := fun e => by rw [(e7 e).2.2] at h6; cases h6
  exact ⟨cf, i, k, f, st, cell, h1, h2, h3, h4, by rw [← e5 ne]; exact e1, h6, h7, h8⟩
theorem Stx.keep (F : Stx Z n0 h C n d v) (K : Keep h h' ws) (q : ∀ x ∈ ws, n0 ≤ x) : Stx Z n0 h' C n d v := by
  obtain ⟨cf, i, k, f, st, cell, h1, h2, h3, h4, h5, h6, h7, h8⟩ := F
  exact ⟨cf, i, k, f, st, cell, h1, h2, h3, h4, K.2.1 _ _ h5 fun z => absurd h8 (Nat.not_lt.mpr (q _ z)), h6, h7, h8⟩
end StxKit
namespace Gk
section GkKit
variable {p : Program} {l : Launch} {e : Env} {R : Room} {s : State} {m : MethodId} {args : Array Value} {below : List Frame} {meth : Method} {c : Code} {T : State} {locs : List Loc} {cells slots : Nat} {Ls : Array Slot} {S : List Value} {pc : Nat} {P : Outcome → State → Prop} {Z : State} {a0 : Array Value} {h : Heap}
theorem iloadN (X : Stand p l e R s m args below meth c T locs cells slots) (hx : p.tables.exec = Jvm.exec) {k : Fin 4} {v : Int32} (hd : decode c.code pc = .ok (.iload_n k, 1)) (hl : Ls[k.val]? = some (.val (.int v))) (K : Go p e below (T.setTop (mkF m (pc + 1) Ls (.int v :: S))) P) : Go p e below (T.setTop (mkF m pc Ls S)) P := Go.st (fun _ q_ => XS.iloadN X.here hx rfl hd hl q_) K
theorem iload (X : Stand p l e R s m args below meth c T locs cells slots) (hx : p.tables.exec = Jvm.exec) {k : Nat} {v : Int32} (hd : decode c.code pc = .ok (.iload k, 2)) (hl : Ls[k]? = some (.val (.int v))) (K : Go p e below (T.setTop (mkF m (pc + 2) Ls (.int v :: S))) P) : Go p e below (T.setTop (mkF m pc Ls S)) P := Go.st (fun _ q_ => XS.iload X.here hx rfl hd hl q_) K
theorem istoreN (X : Stand p l e R s m args below meth c T locs cells slots) (hx : p.tables.exec = Jvm.exec) {k : Fin 4} {v : Int32} (hd : decode c.code pc = .ok (.istore_n k, 1)) (L' : Array Slot) (hl : storeLocals Ls k.val (.int v) = some L') (K : Go p e below (T.setTop (mkF m (pc + 1) L' S)) P) : Go p e below (T.setTop (mkF m pc Ls (.int v :: S))) P := Go.st (fun _ q_ => XS.istoreN X.here hx rfl hd rfl hl q_) K
theorem istore (X : Stand p l e R s m args below meth c T locs cells slots) (hx : p.tables.exec = Jvm.exec) {k : Nat} {v : Int32} (hd : decode c.code pc = .ok (.istore k, 2)) (L' : Array Slot) (hl : storeLocals Ls k (.int v) = some L') (K : Go p e below (T.setTop (mkF m (pc + 2) L' S)) P) : Go p e below (T.setTop (mkF m pc Ls (.int v :: S))) P := Go.st (fun _ q_ => XS.istore X.here hx rfl hd rfl hl q_) K
theorem lloadN (X : Stand p l e R s m args below meth c T locs cells slots) (hx : p.tables.exec = Jvm.exec) {k : Fin 4} {v : Int64} (hd : decode c.code pc = .ok (.lload_n k, 1)) (hl : Ls[k.val]? = some (.val (.long v))) (K : Go p e below (T.setTop (mkF m (pc + 1) Ls (.long v :: S))) P) : Go p e below (T.setTop (mkF m pc Ls S)) P := Go.st (fun _ q_ => XS.lloadN X.here hx rfl hd hl q_) K
theorem lload (X : Stand p l e R s m args below meth c T locs cells slots) (hx : p.tables.exec = Jvm.exec) {k : Nat} {v : Int64} (hd : decode c.code pc = .ok (.lload k, 2)) (hl : Ls[k]? = some (.val (.long v))) (K : Go p e below (T.setTop (mkF m (pc + 2) Ls (.long v :: S))) P) : Go p e below (T.setTop (mkF m pc Ls S)) P := Go.st (fun _ q_ => XS.lload X.here hx rfl hd hl q_) K
theorem lstoreN (X : Stand p l e R s m args below meth c T locs cells slots) (hx : p.tables.exec = Jvm.exec) {k : Fin 4} {v : Int64} (hd : decode c.code pc = .ok (.lstore_n k, 1)) (L' : Array Slot) (hl : storeLocals Ls k.val (.long v) = some L') (K : Go p e below (T.setTop (mkF m (pc + 1) L' S)) P) : Go p e below (T.setTop (mkF m pc Ls (.long v :: S))) P := Go.st (fun _ q_ => XS.lstoreN X.here hx rfl hd rfl hl q_) K
theorem lstore (X : Stand p l e R s m args below meth c T locs cells slots) (hx : p.tables.exec = Jvm.exec) {k : Nat} {v : Int64} (hd : decode c.code pc = .ok (.lstore k, 2)) (L' : Array Slot) (hl : storeLocals Ls k (.long v) = some L') (K : Go p e below (T.setTop (mkF m (pc + 2) L' S)) P) : Go p e below (T.setTop (mkF m pc Ls (.long v :: S))) P := Go.st (fun _ q_ => XS.lstore X.here hx rfl hd rfl hl q_) K
theorem aloadN (X : Stand p l e R s m args below meth c T locs cells slots) (hx : p.tables.exec = Jvm.exec) {k : Fin 4} {v : Value} (hd : decode c.code pc = .ok (.aload_n k, 1)) (hl : Ls[k.val]? = some (.val v)) (hv : v.isRef = true) (K : Go p e below (T.setTop (mkF m (pc + 1) Ls (v :: S))) P) : Go p e below (T.setTop (mkF m pc Ls S)) P := Go.st (fun _ q_ => XS.aloadN X.here hx rfl hd hl hv q_) K
theorem aload (X : Stand p l e R s m args below meth c T locs cells slots) (hx : p.tables.exec = Jvm.exec) {k : Nat} {v : Value} (hd : decode c.code pc = .ok (.aload k, 2)) (hl : Ls[k]? = some (.val v)) (hv : v.isRef = true) (K : Go p e below (T.setTop (mkF m (pc + 2) Ls (v :: S))) P) : Go p e below (T.setTop (mkF m pc Ls S)) P := Go.st (fun _ q_ => XS.aload X.here hx rfl hd hl hv q_) K
theorem astoreN (X : Stand p l e R s m args below meth c T locs cells slots) (hx : p.tables.exec = Jvm.exec) {k : Fin 4} {v : Value} (hd : decode c.code pc = .ok (.astore_n k, 1)) (hv : v.isRef = true) (L' : Array Slot) (hl : storeLocals Ls k.val v = some L') (K : Go p e below (T.setTop (mkF m (pc + 1) L' S)) P) : Go p e below (T.setTop (mkF m pc Ls (v :: S))) P := Go.st (fun _ q_ => XS.astoreN X.here hx rfl hd rfl hv hl q_) K
theorem astore (X : Stand p l e R s m args below meth c T locs cells slots) (hx : p.tables.exec = Jvm.exec) {k : Nat} {v : Value} (hd : decode c.code pc = .ok (.astore k, 2)) (hv : v.isRef = true) (L' : Array Slot) (hl : storeLocals Ls k v = some L') (K : Go p e below (T.setTop (mkF m (pc + 2) L' S)) P) : Go p e below (T.setTop (mkF m pc Ls (v :: S))) P := Go.st (fun _ q_ => XS.astore X.here hx rfl hd rfl hv hl q_) K
theorem iconst (X : Stand p l e R s m args below meth c T locs cells slots) (hx : p.tables.exec = Jvm.exec) {i : Int} (hd : decode c.code pc = .ok (.iconst i, 1)) (z : Int32) (hz : Int32.ofInt i = z) (K : Go p e below (T.setTop (mkF m (pc + 1) Ls (.int z :: S))) P) : Go p e below (T.setTop (mkF m pc Ls S)) P := Go.st (fun _ q_ => XS.iconst X.here hx rfl hd (by subst hz; exact q_)) K
theorem bipush (X : Stand p l e R s m args below meth c T locs cells slots) (hx : p.tables.exec = Jvm.exec) {i : Int} (hd : decode c.code pc = .ok (.bipush i, 2)) (z : Int32) (hz : (Int8.ofInt i).toInt32 = z) (K : Go p e below (T.setTop (mkF m (pc + 2) Ls (.int z :: S))) P) : Go p e below (T.setTop (mkF m pc Ls S)) P := Go.st (fun _ q_ => XS.bipush X.here hx rfl hd (by subst hz; exact q_)) K
theorem sipush (X : Stand p l e R s m args below meth c T locs cells slots) (hx : p.tables.exec = Jvm.exec) {i : Int} (hd : decode c.code pc = .ok (.sipush i, 3)) (z : Int32) (hz : (Int16.ofInt i).toInt32 = z) (K : Go p e below (T.setTop (mkF m (pc + 3) Ls (.int z :: S))) P) : Go p e below (T.setTop (mkF m pc Ls S)) P := Go.st (fun _ q_ => XS.sipush X.here hx rfl hd (by subst hz; exact q_)) K
theorem lconst0 (X : Stand p l e R s m args below meth c T locs cells slots) (hx : p.tables.exec = Jvm.exec) (hd : decode c.code pc = .ok (.lconst 0, 1)) (K : Go p e below (T.setTop (mkF m (pc + 1) Ls (.long (0 : Int64) :: S))) P) : Go p e below (T.setTop (mkF m pc Ls S)) P := Go.st (fun _ q_ => XS.lconst X.here hx rfl hd q_) K
theorem lconst1 (X : Stand p l e R s m args below meth c T locs cells slots) (hx : p.tables.exec = Jvm.exec) (hd : decode c.code pc = .ok (.lconst 1, 1)) (K : Go p e below (T.setTop (mkF m (pc + 1) Ls (.long (1 : Int64) :: S))) P) : Go p e below (T.setTop (mkF m pc Ls S)) P := Go.st (fun _ q_ => XS.lconst X.here hx rfl hd q_) K
theorem aconstNull (X : Stand p l e R s m args below meth c T locs cells slots) (hx : p.tables.exec = Jvm.exec)  (hd : decode c.code pc = .ok (.aconst_null, 1))  (K : Go p e below (T.setTop (mkF m (pc + 1) Ls (.null :: S))) P) : Go p e below (T.setTop (mkF m pc Ls S)) P := Go.st (fun _ q_ => XS.aconstNull X.here hx rfl hd q_) K
theorem iadd (X : Stand p l e R s m args below meth c T locs cells slots) (hx : p.tables.exec = Jvm.exec) {x y : Int32} (hd : decode c.code pc = .ok (.iadd, 1)) (z : Int32) (hz : x + y = z) (K : Go p e below (T.setTop (mkF m (pc + 1) Ls (.int z :: S))) P) : Go p e below (T.setTop (mkF m pc Ls (.int y :: .int x :: S))) P := Go.st (fun _ q_ => XS.iadd X.here hx rfl hd rfl (by subst hz; exact q_)) K
theorem ladd (X : Stand p l e R s m args below meth c T locs cells slots) (hx : p.tables.exec = Jvm.exec) {x y : Int64} (hd : decode c.code pc = .ok (.ladd, 1)) (z : Int64) (hz : x + y = z) (K : Go p e below (T.setTop (mkF m (pc + 1) Ls (.long z :: S))) P) : Go p e below (T.setTop (mkF m pc Ls (.long y :: .long x :: S))) P := Go.st (fun _ q_ => XS.ladd X.here hx rfl hd rfl (by subst hz; exact q_)) K
theorem isub (X : Stand p l e R s m args below meth c T locs cells slots) (hx : p.tables.exec = Jvm.exec) {x y : Int32} (hd : decode c.code pc = .ok (.isub, 1)) (z : Int32) (hz : x - y = z) (K : Go p e below (T.setTop (mkF m (pc + 1) Ls (.int z :: S))) P) : Go p e below (T.setTop (mkF m pc Ls (.int y :: .int x :: S))) P := Go.st (fun _ q_ => XS.isub X.here hx rfl hd rfl (by subst hz; exact q_)) K
theorem lsub (X : Stand p l e R s m args below meth c T locs cells slots) (hx : p.tables.exec = Jvm.exec) {x y : Int64} (hd : decode c.code pc = .ok (.lsub, 1)) (z : Int64) (hz : x - y = z) (K : Go p e below (T.setTop (mkF m (pc + 1) Ls (.long z :: S))) P) : Go p e below (T.setTop (mkF m pc Ls (.long y :: .long x :: S))) P := Go.st (fun _ q_ => XS.lsub X.here hx rfl hd rfl (by subst hz; exact q_)) K
theorem imul (X : Stand p l e R s m args below meth c T locs cells slots) (hx : p.tables.exec = Jvm.exec) {x y : Int32} (hd : decode c.code pc = .ok (.imul, 1)) (z : Int32) (hz : x * y = z) (K : Go p e below (T.setTop (mkF m (pc + 1) Ls (.int z :: S))) P) : Go p e below (T.setTop (mkF m pc Ls (.int y :: .int x :: S))) P := Go.st (fun _ q_ => XS.imul X.here hx rfl hd rfl (by subst hz; exact q_)) K
theorem lmul (X : Stand p l e R s m args below meth c T locs cells slots) (hx : p.tables.exec = Jvm.exec) {x y : Int64} (hd : decode c.code pc = .ok (.lmul, 1)) (z : Int64) (hz : x * y = z) (K : Go p e below (T.setTop (mkF m (pc + 1) Ls (.long z :: S))) P) : Go p e below (T.setTop (mkF m pc Ls (.long y :: .long x :: S))) P := Go.st (fun _ q_ => XS.lmul X.here hx rfl hd rfl (by subst hz; exact q_)) K
theorem iand (X : Stand p l e R s m args below meth c T locs cells slots) (hx : p.tables.exec = Jvm.exec) {x y : Int32} (hd : decode c.code pc = .ok (.iand, 1)) (z : Int32) (hz : x &&& y = z) (K : Go p e below (T.setTop (mkF m (pc + 1) Ls (.int z :: S))) P) : Go p e below (T.setTop (mkF m pc Ls (.int y :: .int x :: S))) P := Go.st (fun _ q_ => XS.iand X.here hx rfl hd rfl (by subst hz; exact q_)) K
theorem land (X : Stand p l e R s m args below meth c T locs cells slots) (hx : p.tables.exec = Jvm.exec) {x y : Int64} (hd : decode c.code pc = .ok (.land, 1)) (z : Int64) (hz : x &&& y = z) (K : Go p e below (T.setTop (mkF m (pc + 1) Ls (.long z :: S))) P) : Go p e below (T.setTop (mkF m pc Ls (.long y :: .long x :: S))) P := Go.st (fun _ q_ => XS.land X.here hx rfl hd rfl (by subst hz; exact q_)) K
theorem ior (X : Stand p l e R s m args below meth c T locs cells slots) (hx : p.tables.exec = Jvm.exec) {x y : Int32} (hd : decode c.code pc = .ok (.ior, 1)) (z : Int32) (hz : x ||| y = z) (K : Go p e below (T.setTop (mkF m (pc + 1) Ls (.int z :: S))) P) : Go p e below (T.setTop (mkF m pc Ls (.int y :: .int x :: S))) P := Go.st (fun _ q_ => XS.ior X.here hx rfl hd rfl (by subst hz; exact q_)) K
theorem lor (X : Stand p l e R s m args below meth c T locs cells slots) (hx : p.tables.exec = Jvm.exec) {x y : Int64} (hd : decode c.code pc = .ok (.lor, 1)) (z : Int64) (hz : x ||| y = z) (K : Go p e below (T.setTop (mkF m (pc + 1) Ls (.long z :: S))) P) : Go p e below (T.setTop (mkF m pc Ls (.long y :: .long x :: S))) P := Go.st (fun _ q_ => XS.lor X.here hx rfl hd rfl (by subst hz; exact q_)) K
theorem ixor (X : Stand p l e R s m args below meth c T locs cells slots) (hx : p.tables.exec = Jvm.exec) {x y : Int32} (hd : decode c.code pc = .ok (.ixor, 1)) (z : Int32) (hz : x ^^^ y = z) (K : Go p e below (T.setTop (mkF m (pc + 1) Ls (.int z :: S))) P) : Go p e below (T.setTop (mkF m pc Ls (.int y :: .int x :: S))) P := Go.st (fun _ q_ => XS.ixor X.here hx rfl hd rfl (by subst hz; exact q_)) K
theorem lxor (X : Stand p l e R s m args below meth c T locs cells slots) (hx : p.tables.exec = Jvm.exec) {x y : Int64} (hd : decode c.code pc = .ok (.lxor, 1)) (z : Int64) (hz : x ^^^ y = z) (K : Go p e below (T.setTop (mkF m (pc + 1) Ls (.long z :: S))) P) : Go p e below (T.setTop (mkF m pc Ls (.long y :: .long x :: S))) P := Go.st (fun _ q_ => XS.lxor X.here hx rfl hd rfl (by subst hz; exact q_)) K
theorem ishl (X : Stand p l e R s m args below meth c T locs cells slots) (hx : p.tables.exec = Jvm.exec) {x y : Int32} (hd : decode c.code pc = .ok (.ishl, 1)) (z : Int32) (hz : (x <<< (y &&& 31)) = z) (K : Go p e below (T.setTop (mkF m (pc + 1) Ls (.int z :: S))) P) : Go p e below (T.setTop (mkF m pc Ls (.int y :: .int x :: S))) P := Go.st (fun _ q_ => XS.ishl X.here hx rfl hd rfl (by subst hz; exact q_)) K
theorem ishr (X : Stand p l e R s m args below meth c T locs cells slots) (hx : p.tables.exec = Jvm.exec) {x y : Int32} (hd : decode c.code pc = .ok (.ishr, 1)) (z : Int32) (hz : (x >>> (y &&& 31)) = z) (K : Go p e below (T.setTop (mkF m (pc + 1) Ls (.int z :: S))) P) : Go p e below (T.setTop (mkF m pc Ls (.int y :: .int x :: S))) P := Go.st (fun _ q_ => XS.ishr X.here hx rfl hd rfl (by subst hz; exact q_)) K
theorem iushr (X : Stand p l e R s m args below meth c T locs cells slots) (hx : p.tables.exec = Jvm.exec) {x y : Int32} (hd : decode c.code pc = .ok (.iushr, 1)) (z : Int32) (hz : ((x.toUInt32 >>> (y &&& 31).toUInt32).toInt32) = z) (K : Go p e below (T.setTop (mkF m (pc + 1) Ls (.int z :: S))) P) : Go p e below (T.setTop (mkF m pc Ls (.int y :: .int x :: S))) P := Go.st (fun _ q_ => XS.iushr X.here hx rfl hd rfl (by subst hz; exact q_)) K
theorem lshl (X : Stand p l e R s m args below meth c T locs cells slots) (hx : p.tables.exec = Jvm.exec) {x : Int64} {y : Int32} (hd : decode c.code pc = .ok (.lshl, 1)) (z : Int64) (hz : (x <<< (y &&& 0x3f).toInt64) = z) (K : Go p e below (T.setTop (mkF m (pc + 1) Ls (.long z :: S))) P) : Go p e below (T.setTop (mkF m pc Ls (.int y :: .long x :: S))) P := Go.st (fun _ q_ => XS.lshl X.here hx rfl hd rfl (by subst hz; exact q_)) K
theorem lshr (X : Stand p l e R s m args below meth c T locs cells slots) (hx : p.tables.exec = Jvm.exec) {x : Int64} {y : Int32} (hd : decode c.code pc = .ok (.lshr, 1)) (z : Int64) (hz : (x >>> (y &&& 0x3f).toInt64) = z) (K : Go p e below (T.setTop (mkF m (pc + 1) Ls (.long z :: S))) P) : Go p e below (T.setTop (mkF m pc Ls (.int y :: .long x :: S))) P := Go.st (fun _ q_ => XS.lshr X.here hx rfl hd rfl (by subst hz; exact q_)) K
theorem lushr (X : Stand p l e R s m args below meth c T locs cells slots) (hx : p.tables.exec = Jvm.exec) {x : Int64} {y : Int32} (hd : decode c.code pc = .ok (.lushr, 1)) (z : Int64) (hz : ((x.toUInt64 >>> (y &&& 0x3f).toInt64.toUInt64).toInt64) = z) (K : Go p e below (T.setTop (mkF m (pc + 1) Ls (.long z :: S))) P) : Go p e below (T.setTop (mkF m pc Ls (.int y :: .long x :: S))) P := Go.st (fun _ q_ => XS.lushr X.here hx rfl hd rfl (by subst hz; exact q_)) K
theorem ineg (X : Stand p l e R s m args below meth c T locs cells slots) (hx : p.tables.exec = Jvm.exec) {x : Int32} (hd : decode c.code pc = .ok (.ineg, 1)) (z : Int32) (hz : -x = z) (K : Go p e below (T.setTop (mkF m (pc + 1) Ls (.int z :: S))) P) : Go p e below (T.setTop (mkF m pc Ls (.int x :: S))) P := Go.st (fun _ q_ => XS.ineg X.here hx rfl hd rfl (by subst hz; exact q_)) K
theorem lneg (X : Stand p l e R s m args below meth c T locs cells slots) (hx : p.tables.exec = Jvm.exec) {x : Int64} (hd : decode c.code pc = .ok (.lneg, 1)) (z : Int64) (hz : -x = z) (K : Go p e below (T.setTop (mkF m (pc + 1) Ls (.long z :: S))) P) : Go p e below (T.setTop (mkF m pc Ls (.long x :: S))) P := Go.st (fun _ q_ => XS.lneg X.here hx rfl hd rfl (by subst hz; exact q_)) K
theorem i2l (X : Stand p l e R s m args below meth c T locs cells slots) (hx : p.tables.exec = Jvm.exec) {x : Int32} (hd : decode c.code pc = .ok (.i2l, 1)) (z : Int64) (hz : x.toInt64 = z) (K : Go p e below (T.setTop (mkF m (pc + 1) Ls (.long z :: S))) P) : Go p e below (T.setTop (mkF m pc Ls (.int x :: S))) P := Go.st (fun _ q_ => XS.i2l X.here hx rfl hd rfl (by subst hz; exact q_)) K
theorem l2i (X : Stand p l e R s m args below meth c T locs cells slots) (hx : p.tables.exec = Jvm.exec) {x : Int64} (hd : decode c.code pc = .ok (.l2i, 1)) (z : Int32) (hz : x.toInt32 = z) (K : Go p e below (T.setTop (mkF m (pc + 1) Ls (.int z :: S))) P) : Go p e below (T.setTop (mkF m pc Ls (.long x :: S))) P := Go.st (fun _ q_ => XS.l2i X.here hx rfl hd rfl (by subst hz; exact q_)) K
theorem i2b (X : Stand p l e R s m args below meth c T locs cells slots) (hx : p.tables.exec = Jvm.exec) {x : Int32} (hd : decode c.code pc = .ok (.i2b, 1)) (z : Int32) (hz : x.toInt8.toInt32 = z) (K : Go p e below (T.setTop (mkF m (pc + 1) Ls (.int z :: S))) P) : Go p e below (T.setTop (mkF m pc Ls (.int x :: S))) P := Go.st (fun _ q_ => XS.i2b X.here hx rfl hd rfl (by subst hz; exact q_)) K
theorem i2s (X : Stand p l e R s m args below meth c T locs cells slots) (hx : p.tables.exec = Jvm.exec) {x : Int32} (hd : decode c.code pc = .ok (.i2s, 1)) (z : Int32) (hz : x.toInt16.toInt32 = z) (K : Go p e below (T.setTop (mkF m (pc + 1) Ls (.int z :: S))) P) : Go p e below (T.setTop (mkF m pc Ls (.int x :: S))) P := Go.st (fun _ q_ => XS.i2s X.here hx rfl hd rfl (by subst hz; exact q_)) K
theorem i2c (X : Stand p l e R s m args below meth c T locs cells slots) (hx : p.tables.exec = Jvm.exec) {x : Int32} (hd : decode c.code pc = .ok (.i2c, 1)) (z : Int32) (hz : x.toUInt32.toUInt16.toUInt32.toInt32 = z) (K : Go p e below (T.setTop (mkF m (pc + 1) Ls (.int z :: S))) P) : Go p e below (T.setTop (mkF m pc Ls (.int x :: S))) P := Go.st (fun _ q_ => XS.i2c X.here hx rfl hd rfl (by subst hz; exact q_)) K
theorem idiv (X : Stand p l e R s m args below meth c T locs cells slots) (hx : p.tables.exec = Jvm.exec) {x y : Int32} (hd : decode c.code pc = .ok (.idiv, 1)) (hy : y ≠ 0) (z : Int32) (hz : x / y = z) (K : Go p e below (T.setTop (mkF m (pc + 1) Ls (.int z :: S))) P) : Go p e below (T.setTop (mkF m pc Ls (.int y :: .int x :: S))) P := Go.st (fun _ q_ => XS.idiv X.here hx rfl hd rfl hy (by subst hz; exact q_)) K
theorem ldiv (X : Stand p l e R s m args below meth c T locs cells slots) (hx : p.tables.exec = Jvm.exec) {x y : Int64} (hd : decode c.code pc = .ok (.ldiv, 1)) (hy : y ≠ 0) (z : Int64) (hz : x / y = z) (K : Go p e below (T.setTop (mkF m (pc + 1) Ls (.long z :: S))) P) : Go p e below (T.setTop (mkF m pc Ls (.long y :: .long x :: S))) P := Go.st (fun _ q_ => XS.ldiv X.here hx rfl hd rfl hy (by subst hz; exact q_)) K
theorem irem (X : Stand p l e R s m args below meth c T locs cells slots) (hx : p.tables.exec = Jvm.exec) {x y : Int32} (hd : decode c.code pc = .ok (.irem, 1)) (hy : y ≠ 0) (z : Int32) (hz : x % y = z) (K : Go p e below (T.setTop (mkF m (pc + 1) Ls (.int z :: S))) P) : Go p e below (T.setTop (mkF m pc Ls (.int y :: .int x :: S))) P := Go.st (fun _ q_ => iremM (g := mkF m pc Ls (.int y :: .int x :: S)) X hx rfl hd rfl hy (by subst hz; exact q_)) K
theorem lcmp (X : Stand p l e R s m args below meth c T locs cells slots) (hx : p.tables.exec = Jvm.exec) {x y : Int64} (hd : decode c.code pc = .ok (.lcmp, 1))  (K : Go p e below (T.setTop (mkF m (pc + 1) Ls (.int (lcmpW x y) :: S))) P) : Go p e below (T.setTop (mkF m pc Ls (.long y :: .long x :: S))) P := Go.st (fun _ q_ => XS.lcmp X.here hx rfl hd rfl q_) K
theorem iinc (X : Stand p l e R s m args below meth c T locs cells slots) (hx : p.tables.exec = Jvm.exec) {k : Nat} {cst : Int} {x : Int32} (hd : decode c.code pc = .ok (.iinc k cst, 3)) (hl : Ls[k]? = some (.val (.int x))) (L' : Array Slot) (hl' : storeLocals Ls k (.int (x + Int32.ofInt cst)) = some L') (K : Go p e below (T.setTop (mkF m (pc + 3) L' S)) P) : Go p e below (T.setTop (mkF m pc Ls S)) P := Go.st (fun _ q_ => XS.iinc X.here hx rfl hd hl hl' q_) K
theorem dup (X : Stand p l e R s m args below meth c T locs cells slots) (hx : p.tables.exec = Jvm.exec) {x : Value} (hd : decode c.code pc = .ok (.dup, 1)) (hc : x.category = 1) (K : Go p e below (T.setTop (mkF m (pc + 1) Ls (x :: x :: S))) P) : Go p e below (T.setTop (mkF m pc Ls (x :: S))) P := Go.st (fun _ q_ => XS.dup X.here hx rfl hd rfl hc q_) K
theorem dupX1 (X : Stand p l e R s m args below meth c T locs cells slots) (hx : p.tables.exec = Jvm.exec) {x y : Value} (hd : decode c.code pc = .ok (.dup_x1, 1)) (hc : x.category = 1) (hc' : y.category = 1) (K : Go p e below (T.setTop (mkF m (pc + 1) Ls (x :: y :: x :: S))) P) : Go p e below (T.setTop (mkF m pc Ls (x :: y :: S))) P := Go.st (fun _ q_ => XS.dupX1 X.here hx rfl hd rfl hc hc' q_) K
theorem dup2 (X : Stand p l e R s m args below meth c T locs cells slots) (hx : p.tables.exec = Jvm.exec) {x y : Value} (hd : decode c.code pc = .ok (.dup2, 1)) (hc : x.category = 1) (hc' : y.category = 1) (K : Go p e below (T.setTop (mkF m (pc + 1) Ls (x :: y :: x :: y :: S))) P) : Go p e below (T.setTop (mkF m pc Ls (x :: y :: S))) P := Go.st (fun _ q_ => XT.dup2 X.here hx rfl hd rfl hc hc' q_) K
theorem pop (X : Stand p l e R s m args below meth c T locs cells slots) (hx : p.tables.exec = Jvm.exec) {x : Value} (hd : decode c.code pc = .ok (.pop, 1)) (hc : x.category = 1) (K : Go p e below (T.setTop (mkF m (pc + 1) Ls S)) P) : Go p e below (T.setTop (mkF m pc Ls (x :: S))) P := Go.st (fun _ q_ => XS.pop X.here hx rfl hd rfl hc q_) K
theorem goto (X : Stand p l e R s m args below meth c T locs cells slots) (hx : p.tables.exec = Jvm.exec)  {o : Int} (hd : decode c.code pc = .ok (.goto o, 3))  (pc' : Nat) (ho : 0 ≤ (pc : Int) + o) (hp : ((pc : Int) + o).toNat = pc') (K : Go p e below (T.setTop (mkF m pc' Ls S)) P) : Go p e below (T.setTop (mkF m pc Ls S)) P := Go.st (fun _ q_ => XS.goto X.here hx rfl rfl hd ho hp q_) K
theorem ifYes (X : Stand p l e R s m args below meth c T locs cells slots) (hx : p.tables.exec = Jvm.exec) {cd : ClassFile.Cond} {x : Int32} {o : Int} (hd : decode c.code pc = .ok (.ifCond cd o, 3)) (hc : if_icmp.holds cd x 0 = true) (pc' : Nat) (ho : 0 ≤ (pc : Int) + o) (hp : ((pc : Int) + o).toNat = pc') (K : Go p e below (T.setTop (mkF m pc' Ls S)) P) : Go p e below (T.setTop (mkF m pc Ls (.int x :: S))) P := Go.st (fun _ q_ => XS.ifYes X.here hx rfl rfl hd rfl ((if0 _ _).trans hc) ho hp q_) K
theorem ifNo (X : Stand p l e R s m args below meth c T locs cells slots) (hx : p.tables.exec = Jvm.exec) {cd : ClassFile.Cond} {x : Int32} {o : Int} (hd : decode c.code pc = .ok (.ifCond cd o, 3)) (hc : if_icmp.holds cd x 0 = false) (K : Go p e below (T.setTop (mkF m (pc + 3) Ls S)) P) : Go p e below (T.setTop (mkF m pc Ls (.int x :: S))) P := Go.st (fun _ q_ => XS.ifNo X.here hx rfl hd rfl ((if0 _ _).trans hc) q_) K
theorem icmpYes (X : Stand p l e R s m args below meth c T locs cells slots) (hx : p.tables.exec = Jvm.exec) {cd : ClassFile.Cond} {x y : Int32} {o : Int} (hd : decode c.code pc = .ok (.if_icmp cd o, 3)) (hc : if_icmp.holds cd x y = true) (pc' : Nat) (ho : 0 ≤ (pc : Int) + o) (hp : ((pc : Int) + o).toNat = pc') (K : Go p e below (T.setTop (mkF m pc' Ls S)) P) : Go p e below (T.setTop (mkF m pc Ls (.int y :: .int x :: S))) P := Go.st (fun _ q_ => XS.icmpYes X.here hx rfl rfl hd rfl hc ho hp q_) K
theorem icmpNo (X : Stand p l e R s m args below meth c T locs cells slots) (hx : p.tables.exec = Jvm.exec) {cd : ClassFile.Cond} {x y : Int32} {o : Int} (hd : decode c.code pc = .ok (.if_icmp cd o, 3)) (hc : if_icmp.holds cd x y = false) (K : Go p e below (T.setTop (mkF m (pc + 3) Ls S)) P) : Go p e below (T.setTop (mkF m pc Ls (.int y :: .int x :: S))) P := Go.st (fun _ q_ => XS.icmpNo X.here hx rfl hd rfl hc q_) K
theorem ifnullYes (X : Stand p l e R s m args below meth c T locs cells slots) (hx : p.tables.exec = Jvm.exec)  {o : Int} (hd : decode c.code pc = .ok (.ifnull o, 3))  (pc' : Nat) (ho : 0 ≤ (pc : Int) + o) (hp : ((pc : Int) + o).toNat = pc') (K : Go p e below (T.setTop (mkF m pc' Ls S)) P) : Go p e below (T.setTop (mkF m pc Ls (.null :: S))) P := Go.st (fun _ q_ => XS.ifnullYes X.here hx rfl rfl hd rfl ho hp q_) K
theorem ifnullNo (X : Stand p l e R s m args below meth c T locs cells slots) (hx : p.tables.exec = Jvm.exec) {o : Int} {b : Addr} (hd : decode c.code pc = .ok (.ifnull o, 3))  (K : Go p e below (T.setTop (mkF m (pc + 3) Ls S)) P) : Go p e below (T.setTop (mkF m pc Ls (.ref b :: S))) P := Go.st (fun _ q_ => XS.ifnullNo X.here hx rfl hd rfl q_) K
theorem ifnonnullYes (X : Stand p l e R s m args below meth c T locs cells slots) (hx : p.tables.exec = Jvm.exec) {b : Addr} {o : Int} (hd : decode c.code pc = .ok (.ifnonnull o, 3))  (pc' : Nat) (ho : 0 ≤ (pc : Int) + o) (hp : ((pc : Int) + o).toNat = pc') (K : Go p e below (T.setTop (mkF m pc' Ls S)) P) : Go p e below (T.setTop (mkF m pc Ls (.ref b :: S))) P := Go.st (fun _ q_ => XS.ifnonnullYes X.here hx rfl rfl hd rfl ho hp q_) K
theorem ifnonnullNo (X : Stand p l e R s m args below meth c T locs cells slots) (hx : p.tables.exec = Jvm.exec) {o : Int} (hd : decode c.code pc = .ok (.ifnonnull o, 3))  (K : Go p e below (T.setTop (mkF m (pc + 3) Ls S)) P) : Go p e below (T.setTop (mkF m pc Ls (.null :: S))) P := Go.st (fun _ q_ => XS.ifnonnullNo X.here hx rfl hd rfl q_) K
theorem acmp (X : Stand p l e R s m args below meth c T locs cells slots) (hx : p.tables.exec = Jvm.exec) {cd : ACond} {x y : Value} {o : Int} (hd : decode c.code pc = .ok (.if_acmp cd o, 3)) (h1 : x.isRef = true) (h2 : y.isRef = true) (same : Bool) (hq : decide (x = y) = same) (pc' : Nat) (ho : 0 ≤ (pc : Int) + o) (hp : pc' = if acV cd same = true then ((pc : Int) + o).toNat else pc + 3) (K : Go p e below (T.setTop (mkF m pc' Ls S)) P) : Go p e below (T.setTop (mkF m pc Ls (y :: x :: S))) P := Go.st (fun _ q_ => Jvm.RoadKit.acmp (g := mkF m pc Ls (y :: x :: S)) X hx rfl h1 h2 rfl hd rfl hq ho hp q_) K
theorem lsw (X : Stand p l e R s m args below meth c T locs cells slots) (hx : p.tables.exec = Jvm.exec) {dflt : Int} {pairs : Array (Int × Int)} {len : Nat} {i : Int32} (hd : decode c.code pc = .ok (.lookupswitch dflt pairs, len)) {o : Int} (ho : lookupswitch.offset pairs.toList dflt i.toInt = o) (hso : ∀ (a b a_1 b_1 : Int), ((a, b), a_1, b_1) ∈ pairs.toList.zip pairs.toList.tail → a < a_1) (pc' : Nat) (h0 : 0 ≤ (pc : Int) + o) (hp : ((pc : Int) + o).toNat = pc') (K : Go p e below (T.setTop (mkF m pc' Ls S)) P) : Go p e below (T.setTop (mkF m pc Ls (.int i :: S))) P := Go.st (fun _ q_ => own_lsw (g := mkF m pc Ls (.int i :: S)) X hx rfl rfl hd rfl ho hso h0 hp q_) K
theorem tsw (X : Stand p l e R s m args below meth c T locs cells slots) (hx : p.tables.exec = Jvm.exec) {dflt low high : Int} {offs : Array Int} {len : Nat} {i : Int32} (hd : decode c.code pc = .ok (.tableswitch dflt low high offs, len)) {o : Int} (hin : ¬ (i.toInt < low ∨ i.toInt > high)) (hoff : offs[(i.toInt - low).toNat]? = some o) (pc' : Nat) (h0 : 0 ≤ (pc : Int) + o) (hp : ((pc : Int) + o).toNat = pc') (K : Go p e below (T.setTop (mkF m pc' Ls S)) P) : Go p e below (T.setTop (mkF m pc Ls (.int i :: S))) P := Go.st (fun _ q_ => XS.tswIn (g := mkF m pc Ls (.int i :: S)) X.here hx rfl rfl hd rfl hin hoff h0 hp q_) K
theorem ldcI (X : Stand p l e R s m args below meth c T locs cells slots) (hx : p.tables.exec = Jvm.exec) (hZ : Z.Warmed39 s.vm) {own : String} {index : Nat} (hown : s.vm.findClass own = some m.cls) {v : Int32} (w : (Cond.constant own index v).before a0 Z = true) (hd : decode c.code pc = .ok (.ldc index, 2)) (K : Go p e below (T.setTop (mkF m (pc + 2) Ls (.int v :: S))) P) : Go p e below (T.setTop (mkF m pc Ls S)) P := Go.st (X.ldcInt hx hown (mvT hZ w) (g := mkF m pc Ls S) rfl hd) K
theorem ldcwI (X : Stand p l e R s m args below meth c T locs cells slots) (hx : p.tables.exec = Jvm.exec) (hZ : Z.Warmed39 s.vm) {own : String} {index : Nat} (hown : s.vm.findClass own = some m.cls) {v : Int32} (w : (Cond.constant own index v).before a0 Z = true) (hd : decode c.code pc = .ok (.ldc_w index, 3)) (K : Go p e below (T.setTop (mkF m (pc + 3) Ls (.int v :: S))) P) : Go p e below (T.setTop (mkF m pc Ls S)) P := Go.st (X.ldcwInt hx hown (mvT hZ w) (g := mkF m pc Ls S) rfl hd) K
theorem ldcL (X : Stand p l e R s m args below meth c T locs cells slots) (hx : p.tables.exec = Jvm.exec) (hZ : Z.Warmed39 s.vm) {own : String} {index : Nat} (hown : s.vm.findClass own = some m.cls) {v : Int64} (w : (Cond.constantLong own index v).before a0 Z = true) (hd : decode c.code pc = .ok (.ldc2_w index, 3)) (K : Go p e below (T.setTop (mkF m (pc + 3) Ls (.long v :: S))) P) : Go p e below (T.setTop (mkF m pc Ls S)) P := Go.st (X.ldc2Long hx hown (mvT hZ w) (g := mkF m pc Ls S) rfl hd) K
theorem getS (X : Stand p l e R s m args below meth c T locs cells slots) (hx : p.tables.exec = Jvm.exec) (hZ : Z.Warmed39 s.vm) {own : String} {index : Nat} (hown : s.vm.findClass own = some m.cls) {R0 O n d host : String} (w : (Cond.fieldLink own index R0 n d).before a0 Z = true ∨ (Cond.fieldLinkNest own index R0 n d host).before a0 Z = true) (via : Via Z R0 O n d) (eT : T.heap = h) {v : Value} (F : Sta Z h O n d v) (hd : decode c.code pc = .ok (.getstatic index, 3))
    (K : ∀ T', Stand p l e R s m args below meth c T' locs cells slots → T'.heap = h → Go p e below (T'.setTop (mkF m (pc + 3) Ls (v :: S))) P) : Go p e below (T.setTop (mkF m pc Ls S)) P := by
  obtain ⟨T', X', e', st⟩ := getS2 X hx hZ hown w via eT F (g := mkF m pc Ls S) rfl hd
  exact Go.st st (K T' X' e')
theorem getF (X : Stand p l e R s m args below meth c T locs cells slots) (hx : p.tables.exec = Jvm.exec) (hZ : Z.Warmed39 s.vm) {own : String} {index : Nat} (hown : s.vm.findClass own = some m.cls) {R0 O n d host : String} (w : (Cond.fieldLink own index R0 n d).before a0 Z = true ∨ (Cond.fieldLinkNest own index R0 n d host).before a0 Z = true) (via : Via Z R0 O n d) (eT : T.heap = h) {a : Addr} {v : Value} (F : Fld Z h a O n d v) (hd : decode c.code pc = .ok (.getfield index, 3))
    (K : ∀ T', Stand p l e R s m args below meth c T' locs cells slots → T'.heap = h → Go p e below (T'.setTop (mkF m (pc + 3) Ls (v :: S))) P) : Go p e below (T.setTop (mkF m pc Ls (.ref a :: S))) P := by
  obtain ⟨T', X', e', st⟩ := RoadKit.getF X hx hZ hown w via eT F (g := mkF m pc Ls (.ref a :: S)) rfl rfl hd
  exact Go.st st (K T' X' e')
theorem putF (X : Stand p l e R s m args below meth c T locs cells slots) (hx : p.tables.exec = Jvm.exec) (hZ : Z.Warmed39 s.vm) {own : String} {index : Nat} (hown : s.vm.findClass own = some m.cls) {R0 O n d host C : String} {kk : Nat} {ty : FieldType} (w : (Cond.fieldLink own index R0 n d).before a0 Z = true ∨ (Cond.fieldLinkNest own index R0 n d host).before a0 Z = true) (via : Via Z R0 O n d) (eT : T.heap = h) {a : Addr} {v old : Value} (F : Fld Z h a O n d old) (E : Exa Z h a C) (Lw : (Cond.lays C O n d).before a0 Z = true ∨ ((Cond.laysFinal C O n d).before a0 Z = true ∧ own = O ∧ meth.name = "<init>")) (wi : (Cond.instantiable C kk).before a0 Z = true)
    (hty : parseFieldDescriptor d = some ty) (hn : narrow ty v = v) (hf : fits ty v = true) (hd : decode c.code pc = .ok (.putfield index, 3))
    (K : ∀ T' h', Stand p l e R s m args below meth c T' (locs ++ [⟨a, Jvm.RoadKit.slotOf Z O n d⟩]) cells slots → T'.heap = h' → Wr h h' a (Jvm.RoadKit.slotOf Z O n d) v → Go p e below (T'.setTop (mkF m (pc + 3) Ls S)) P) : Go p e below (T.setTop (mkF m pc Ls (v :: .ref a :: S))) P := by
  obtain ⟨T', h', X', e', W', st⟩ := RoadKit.putF X hx hZ hown w via eT F E Lw wi hty hn hf (g := mkF m pc Ls (v :: .ref a :: S)) rfl rfl hd
  exact Go.st st (K T' h' X' e' W')
theorem putFN (X : Stand p l e R s m args below meth c T locs cells slots) (hx : p.tables.exec = Jvm.exec) (hZ : Z.Warmed39 s.vm) {own : String} {index : Nat} (hown : s.vm.findClass own = some m.cls) {R0 O n d C : String} {kk : Nat} {ty : FieldType} (w : (Cond.fieldLink own index R0 n d).before a0 Z = true) (via : Via Z R0 O n d) (eT : T.heap = h) {a : Addr} {v v' old : Value} (F : Fld Z h a O n d old) (E : Exa Z h a C) (Lw : (Cond.lays C O n d).before a0 Z = true ∨ ((Cond.laysFinal C O n d).before a0 Z = true ∧ own = O ∧ meth.name = "<init>")) (wi : (Cond.instantiable C kk).before a0 Z = true)
    (hty : parseFieldDescriptor d = some ty) (hn : narrow ty v = v') (hf : fits ty v' = true) (hd : decode c.code pc = .ok (.putfield index, 3))
    (K : ∀ T' h', Stand p l e R s m args below meth c T' (locs ++ [⟨a, Jvm.RoadKit.slotOf Z O n d⟩]) cells slots → T'.heap = h' → Wr h h' a (Jvm.RoadKit.slotOf Z O n d) v' → Go p e below (T'.setTop (mkF m (pc + 3) Ls S)) P) : Go p e below (T.setTop (mkF m pc Ls (v :: .ref a :: S))) P := by
  obtain ⟨T', h', X', e', W', st⟩ := RoadKit.putFN X hx hZ hown w via eT F E Lw wi hty hn hf (g := mkF m pc Ls (v :: .ref a :: S)) rfl rfl hd
  exact Go.st st (K T' h' X' e' W')
theorem newO (X : Stand p l e R s m args below meth c T locs cells slots) (hx : p.tables.exec = Jvm.exec) (hZ : Z.Warmed39 s.vm) {own : String} {index : Nat} (hown : s.vm.findClass own = some m.cls) {C : String} {n : Nat} (w : (Cond.classLink own index C).before a0 Z = true) (wi : (Cond.instantiable C n).before a0 Z = true) (wz : (Cond.initialized C).before a0 Z = true) (eT : T.heap = h) (hd : decode c.code pc = .ok (.new index, 3)) (hc : cells + 1 ≤ R.cells) (hl : slots + n ≤ R.slots)
    (K : ∀ T' h' b, Stand p l e R s m args below meth c T' locs (cells + 1) (slots + n) → T'.heap = h' → Ext h h' → b = h.size → Exa Z h' b C → (∀ {O nm d : String} {ty : FieldType}, Laid Z a0 C O nm d → parseFieldDescriptor d = some ty → Fld Z h' b O nm d (defaultValue ty)) → Go p e below (T'.setTop (mkF m (pc + 3) Ls (.ref b :: S))) P) : Go p e below (T.setTop (mkF m pc Ls S)) P := by
  obtain ⟨T', h', X', e', E', A', D', -, st⟩ := RoadKit.newO X hx hZ hown w wi wz eT (g := mkF m pc Ls S) rfl hd hc hl
  exact Go.st st (K T' h' _ X' e' E' rfl A' D')
theorem initO (X : Stand p l e R s m args below meth c T locs cells slots) (hx : p.tables.exec = Jvm.exec) (hZ : Z.Warmed39 s.vm) {own : String} {index : Nat} (hown : s.vm.findClass own = some m.cls) (w1 : (Cond.methodLink own index Lib.objectInit).before a0 Z = true) (w2 : (Cond.instanceMethod Lib.objectInit).before a0 Z = true) (w3 : (Cond.code Lib.objectInit ⟨#[0xb1]⟩ 1 none).before a0 Z = true) (eT : T.heap = h) (hsize : Ls.size = c.maxLocals) {a : Addr} (hd : decode c.code pc = .ok (.invokespecial index, 3)) (hf : 1 ≤ R.frames) (hl : (S.map fun v => v.category).sum + 12 ≤ R.locals)
    (K : ∀ T', Stand p l e R s m args below meth c T' locs cells slots → T'.heap = h → Go p e below (T'.setTop (mkF m (pc + 3) Ls S)) P) : Go p e below (T.setTop (mkF m pc Ls (.ref a :: S))) P := by
  obtain ⟨T', X', e', st⟩ := RoadKit.initO X hx hZ hown w1 w2 w3 eT (g := mkF m pc Ls (.ref a :: S)) rfl hsize rfl hd hf (W := (S.map fun v => v.category).sum) (by show 2 * 0 + _ ≤ _; omega) hl
  exact Go.st st (K T' X' e')
theorem newP (X : Stand p l e R s m args below meth c T locs cells slots) (hx : p.tables.exec = Jvm.exec) (hZ : Z.Warmed39 s.vm) {aty : ArrayType} (w : (Cond.arrayClass (newarray.typeOf aty)).before a0 Z = true) (eT : T.heap = h) {n : Int32} (hd : decode c.code pc = .ok (.newarray aty, 2)) (hn : ¬ n < 0) {cap : Nat} (hcap : n.toNatClampNeg ≤ cap) (hb : cap * 8 ≤ 536870912) (hc : cells + 1 ≤ R.cells) (hl : slots + cap ≤ R.slots) {ad : String} (had : "[" ++ (newarray.typeOf aty).toString = ad)
    (K : ∀ T' h' b k, Stand p l e R s m args below meth c T' locs (cells + 1) (slots + cap) → T'.heap = h' → Ext h h' → b = h.size → Arf Z h' b k (newarray.typeOf aty) n (fun _ => defaultValue (newarray.typeOf aty)) → Exa Z h' b ad → Go p e below (T'.setTop (mkF m (pc + 2) Ls (.ref b :: S))) P) : Go p e below (T.setTop (mkF m pc Ls (.int n :: S))) P := by
  obtain ⟨T', h', k, X', e', E', A', B', st⟩ := newPE X hx hZ w eT (g := mkF m pc Ls (.int n :: S)) rfl hd rfl hn hcap hb hc hl had
  exact Go.st st (K T' h' _ k X' e' E' rfl (Arf.new A' hn) B')
theorem newR (X : Stand p l e R s m args below meth c T locs cells slots) (hx : p.tables.exec = Jvm.exec) (hZ : Z.Warmed39 s.vm) {own : String} {index : Nat} (hown : s.vm.findClass own = some m.cls) {C : String} (w1 : (Cond.classLink own index C).before a0 Z = true) (w2 : (Cond.arrayOver (.object C)).before a0 Z = true) (eT : T.heap = h) {n : Int32} (hd : decode c.code pc = .ok (.anewarray index, 3)) (hn : ¬ n < 0) {cap : Nat} (hcap : n.toNatClampNeg ≤ cap) (hb : cap * 8 ≤ 536870912) (hc : cells + 1 ≤ R.cells) (hl : slots + cap ≤ R.slots) {ad : String} (had : "[" ++ (FieldType.object C).toString = ad)
    (K : ∀ T' h' b k, Stand p l e R s m args below meth c T' locs (cells + 1) (slots + cap) → T'.heap = h' → Ext h h' → b = h.size → Arf Z h' b k (.object C) n (fun _ => .null) → Exa Z h' b ad → Ovr Z k C → Go p e below (T'.setTop (mkF m (pc + 3) Ls (.ref b :: S))) P) : Go p e below (T.setTop (mkF m pc Ls (.int n :: S))) P := by
  obtain ⟨T', h', k, X', e', E', A', B', O', st⟩ := newRE X hx hZ hown w1 w2 eT (g := mkF m pc Ls (.int n :: S)) rfl hd rfl hn hcap hb hc hl had
  exact Go.st st (K T' h' _ k X' e' E' rfl (Arf.new A' hn) B' O')
theorem iastore (X : Stand p l e R s m args below meth c T locs cells slots) (hx : p.tables.exec = Jvm.exec) (hZ : Z.Warmed39 s.vm) (eT : T.heap = h) {a : Addr} {k : ClassId} {n : Int32} {f : Nat → Value} (F : Arf Z h a k .int n f) {j x : Int32} (i : Nat) (hji : j.toNatClampNeg = i) (hj : ¬ j < 0 ∧ j < n) (v : Value) (hv : .int x = v) (hd : decode c.code pc = .ok (.iastore, 1))
    (K : ∀ T' h', Stand p l e R s m args below meth c T' (locs ++ [⟨a, j.toNatClampNeg⟩]) cells slots → T'.heap = h' → Wr h h' a j.toNatClampNeg v → Arf Z h' a k .int n (upd f i v) → Go p e below (T'.setTop (mkF m (pc + 1) Ls S)) P) : Go p e below (T.setTop (mkF m pc Ls (.int x :: .int j :: .ref a :: S))) P := by
  obtain ⟨cl, A, q, S', q3, H', G'⟩ := F
  have hin := inb_of S' hj
  obtain ⟨T', h', X', e', W', st⟩ := RoadKit.stI X hx hZ eT A (j := j) hin (g := mkF m pc Ls (.int x :: .int j :: .ref a :: S)) rfl rfl hd
  subst hv
  exact Go.st st (K T' h' X' e' W' (Arf.set A q S' q3 H' G' rfl W' i hji hin))
theorem castore (X : Stand p l e R s m args below meth c T locs cells slots) (hx : p.tables.exec = Jvm.exec) (hZ : Z.Warmed39 s.vm) (eT : T.heap = h) {a : Addr} {k : ClassId} {n : Int32} {f : Nat → Value} (F : Arf Z h a k .char n f) {j x : Int32} (i : Nat) (hji : j.toNatClampNeg = i) (hj : ¬ j < 0 ∧ j < n) (v : Value) (hv : .int (nar .char x) = v) (hd : decode c.code pc = .ok (.castore, 1))
    (K : ∀ T' h', Stand p l e R s m args below meth c T' (locs ++ [⟨a, j.toNatClampNeg⟩]) cells slots → T'.heap = h' → Wr h h' a j.toNatClampNeg v → Arf Z h' a k .char n (upd f i v) → Go p e below (T'.setTop (mkF m (pc + 1) Ls S)) P) : Go p e below (T.setTop (mkF m pc Ls (.int x :: .int j :: .ref a :: S))) P := by
  obtain ⟨cl, A, q, S', q3, H', G'⟩ := F
  have hin := inb_of S' hj
  obtain ⟨T', h', X', e', W', st⟩ := RoadKit.stC X hx hZ eT A (j := j) hin (g := mkF m pc Ls (.int x :: .int j :: .ref a :: S)) rfl rfl hd
  subst hv
  exact Go.st st (K T' h' X' e' W' (Arf.set A q S' q3 H' G' (fits_nar_char _) W' i hji hin))
theorem bastoreB (X : Stand p l e R s m args below meth c T locs cells slots) (hx : p.tables.exec = Jvm.exec) (hZ : Z.Warmed39 s.vm) (eT : T.heap = h) {a : Addr} {k : ClassId} {n : Int32} {f : Nat → Value} (F : Arf Z h a k .byte n f) {j x : Int32} (i : Nat) (hji : j.toNatClampNeg = i) (hj : ¬ j < 0 ∧ j < n) (v : Value) (hv : .int (nar .byte x) = v) (hd : decode c.code pc = .ok (.bastore, 1))
    (K : ∀ T' h', Stand p l e R s m args below meth c T' (locs ++ [⟨a, j.toNatClampNeg⟩]) cells slots → T'.heap = h' → Wr h h' a j.toNatClampNeg v → Arf Z h' a k .byte n (upd f i v) → Go p e below (T'.setTop (mkF m (pc + 1) Ls S)) P) : Go p e below (T.setTop (mkF m pc Ls (.int x :: .int j :: .ref a :: S))) P := by
  obtain ⟨cl, A, q, S', q3, H', G'⟩ := F
  have hin := inb_of S' hj
  obtain ⟨T', h', X', e', W', st⟩ := RoadKit.stB X hx hZ eT A (j := j) hin (g := mkF m pc Ls (.int x :: .int j :: .ref a :: S)) rfl rfl hd
  subst hv
  exact Go.st st (K T' h' X' e' W' (Arf.set A q S' q3 H' G' (fits_nar_byte _) W' i hji hin))
theorem bastoreZ (X : Stand p l e R s m args below meth c T locs cells slots) (hx : p.tables.exec = Jvm.exec) (hZ : Z.Warmed39 s.vm) (eT : T.heap = h) {a : Addr} {k : ClassId} {n : Int32} {f : Nat → Value} (F : Arf Z h a k .boolean n f) {j x : Int32} (i : Nat) (hji : j.toNatClampNeg = i) (hj : ¬ j < 0 ∧ j < n) (v : Value) (hv : .int (nar .boolean x) = v) (hd : decode c.code pc = .ok (.bastore, 1))
    (K : ∀ T' h', Stand p l e R s m args below meth c T' (locs ++ [⟨a, j.toNatClampNeg⟩]) cells slots → T'.heap = h' → Wr h h' a j.toNatClampNeg v → Arf Z h' a k .boolean n (upd f i v) → Go p e below (T'.setTop (mkF m (pc + 1) Ls S)) P) : Go p e below (T.setTop (mkF m pc Ls (.int x :: .int j :: .ref a :: S))) P := by
  obtain ⟨cl, A, q, S', q3, H', G'⟩ := F
  have hin := inb_of S' hj
  obtain ⟨T', h', X', e', W', st⟩ := RoadKit.stZ X hx hZ eT A (j := j) hin (g := mkF m pc Ls (.int x :: .int j :: .ref a :: S)) rfl rfl hd
  subst hv
  exact Go.st st (K T' h' X' e' W' (Arf.set A q S' q3 H' G' (fits_nar_bool _) W' i hji hin))
theorem aastore (X : Stand p l e R s m args below meth c T locs cells slots) (hx : p.tables.exec = Jvm.exec) (hZ : Z.Warmed39 s.vm) (eT : T.heap = h) {a : Addr} {k : ClassId} {ty : FieldType} {n : Int32} {f : Nat → Value} (F : Arf Z h a k ty n f) {j : Int32} {v : Value} (i : Nat) (hji : j.toNatClampNeg = i) (hj : ¬ j < 0 ∧ j < n) (hty : ty.isReference = true) (hfit : fits ty v = true) (hst : v = .null ∨ ∃ y C, v = .ref y ∧ Ovr Z k C ∧ Ins Z h y C true) (hd : decode c.code pc = .ok (.aastore, 1))
    (K : ∀ T' h', Stand p l e R s m args below meth c T' (locs ++ [⟨a, j.toNatClampNeg⟩]) cells slots → T'.heap = h' → Wr h h' a j.toNatClampNeg v → Arf Z h' a k ty n (upd f i v) → Go p e below (T'.setTop (mkF m (pc + 1) Ls S)) P) : Go p e below (T.setTop (mkF m pc Ls (v :: .int j :: .ref a :: S))) P := by
  obtain ⟨cl, A, q, S', q3, H', G'⟩ := F
  have hin := inb_of S' hj
  have sto : Sto Z h a v := by
    rcases hst with rfl | ⟨y, C, rfl, O, I⟩
    · exact Or.inl rfl
    · exact Sto.ofV A q O I
  obtain ⟨T', h', X', e', W', st⟩ := stR X hx hZ eT A (j := j) hin hty sto (g := mkF m pc Ls (v :: .int j :: .ref a :: S)) rfl rfl hd
  exact Go.st st (K T' h' X' e' W' (Arf.set A q S' q3 H' G' hfit W' i hji hin))
theorem iaload (X : Stand p l e R s m args below meth c T locs cells slots) (hx : p.tables.exec = Jvm.exec) (hZ : Z.Warmed39 s.vm) (eT : T.heap = h) {a : Addr} {k : ClassId} {n : Int32} {f : Nat → Value} (F : Arf Z h a k .int n f) {j : Int32} (hj : ¬ j < 0 ∧ j < n) (v : Value) (hv : f j.toNatClampNeg = v) (hd : decode c.code pc = .ok (.iaload, 1)) (K : Go p e below (T.setTop (mkF m (pc + 1) Ls (v :: S))) P) : Go p e below (T.setTop (mkF m pc Ls (.int j :: .ref a :: S))) P := by
  obtain ⟨cl, A, q, S', q3, H', G'⟩ := F
  have hin := inb_of S' hj
  exact Go.st (X.iaload hx (j := j) (v := v) (by rw [eT]; exact A.1) (State.isArrayOf_alike hZ.alike A.2.1) A.2.2 hin ((H' _ (Nat.lt_of_not_le fun q_ => hin (Or.inr q_))).trans (congrArg some hv)) (g := mkF m pc Ls (.int j :: .ref a :: S)) rfl rfl hd) K
theorem caload (X : Stand p l e R s m args below meth c T locs cells slots) (hx : p.tables.exec = Jvm.exec) (hZ : Z.Warmed39 s.vm) (eT : T.heap = h) {a : Addr} {k : ClassId} {n : Int32} {f : Nat → Value} (F : Arf Z h a k .char n f) {j : Int32} (hj : ¬ j < 0 ∧ j < n) (v : Value) (hv : f j.toNatClampNeg = v) (hd : decode c.code pc = .ok (.caload, 1)) (K : Go p e below (T.setTop (mkF m (pc + 1) Ls (v :: S))) P) : Go p e below (T.setTop (mkF m pc Ls (.int j :: .ref a :: S))) P := by
  obtain ⟨cl, A, q, S', q3, H', G'⟩ := F
  have hin := inb_of S' hj
  exact Go.st (X.caload hx (j := j) (v := v) (by rw [eT]; exact A.1) (State.isArrayOf_alike hZ.alike A.2.1) A.2.2 hin ((H' _ (Nat.lt_of_not_le fun q_ => hin (Or.inr q_))).trans (congrArg some hv)) (g := mkF m pc Ls (.int j :: .ref a :: S)) rfl rfl hd) K
theorem baloadB (X : Stand p l e R s m args below meth c T locs cells slots) (hx : p.tables.exec = Jvm.exec) (hZ : Z.Warmed39 s.vm) (eT : T.heap = h) {a : Addr} {k : ClassId} {n : Int32} {f : Nat → Value} (F : Arf Z h a k .byte n f) {j : Int32} (hj : ¬ j < 0 ∧ j < n) (v : Value) (hv : f j.toNatClampNeg = v) (hd : decode c.code pc = .ok (.baload, 1)) (K : Go p e below (T.setTop (mkF m (pc + 1) Ls (v :: S))) P) : Go p e below (T.setTop (mkF m pc Ls (.int j :: .ref a :: S))) P := by
  obtain ⟨cl, A, q, S', q3, H', G'⟩ := F
  have hin := inb_of S' hj
  exact Go.st (X.baloadBytes hx (j := j) (v := v) (by rw [eT]; exact A.1) (State.isArrayOf_alike hZ.alike A.2.1) A.2.2 hin ((H' _ (Nat.lt_of_not_le fun q_ => hin (Or.inr q_))).trans (congrArg some hv)) (g := mkF m pc Ls (.int j :: .ref a :: S)) rfl rfl hd) K
theorem baloadZ (X : Stand p l e R s m args below meth c T locs cells slots) (hx : p.tables.exec = Jvm.exec) (hZ : Z.Warmed39 s.vm) (eT : T.heap = h) {a : Addr} {k : ClassId} {n : Int32} {f : Nat → Value} (F : Arf Z h a k .boolean n f) {j : Int32} (hj : ¬ j < 0 ∧ j < n) (v : Value) (hv : f j.toNatClampNeg = v) (hd : decode c.code pc = .ok (.baload, 1)) (K : Go p e below (T.setTop (mkF m (pc + 1) Ls (v :: S))) P) : Go p e below (T.setTop (mkF m pc Ls (.int j :: .ref a :: S))) P := by
  obtain ⟨cl, A, q, S', q3, H', G'⟩ := F
  have hin := inb_of S' hj
  exact Go.st (X.baloadBooleans hx (j := j) (v := v) (by rw [eT]; exact A.1) (State.isArrayOf_alike hZ.alike A.2.1) A.2.2 hin ((H' _ (Nat.lt_of_not_le fun q_ => hin (Or.inr q_))).trans (congrArg some hv)) (g := mkF m pc Ls (.int j :: .ref a :: S)) rfl rfl hd) K
theorem aaload (X : Stand p l e R s m args below meth c T locs cells slots) (hx : p.tables.exec = Jvm.exec) (hZ : Z.Warmed39 s.vm) (eT : T.heap = h) {a : Addr} {k : ClassId} {ty : FieldType} {n : Int32} {f : Nat → Value} (F : Arf Z h a k ty n f) {j : Int32} (hty : ty.isReference = true) (hj : ¬ j < 0 ∧ j < n) (v : Value) (hv : f j.toNatClampNeg = v) (hd : decode c.code pc = .ok (.aaload, 1)) (K : Go p e below (T.setTop (mkF m (pc + 1) Ls (v :: S))) P) : Go p e below (T.setTop (mkF m pc Ls (.int j :: .ref a :: S))) P := by
  obtain ⟨cl, A, q, S', q3, H', G'⟩ := F
  have hin := inb_of S' hj
  exact Go.st (X.aaload hx (j := j) (v := v) (by rw [eT]; exact A.1) (State.isArrayOf_alike hZ.alike A.2.1) hty A.2.2 hin ((H' _ (Nat.lt_of_not_le fun q_ => hin (Or.inr q_))).trans (congrArg some hv)) (g := mkF m pc Ls (.int j :: .ref a :: S)) rfl rfl hd) K
theorem alen (X : Stand p l e R s m args below meth c T locs cells slots) (hx : p.tables.exec = Jvm.exec) (hZ : Z.Warmed39 s.vm) (eT : T.heap = h) {a : Addr} {k : ClassId} {ty : FieldType} {n : Int32} {f : Nat → Value} (F : Arf Z h a k ty n f) (hd : decode c.code pc = .ok (.arraylength, 1)) (K : Go p e below (T.setTop (mkF m (pc + 1) Ls (.int n :: S))) P) : Go p e below (T.setTop (mkF m pc Ls (.ref a :: S))) P := by
  obtain ⟨cl, A, q, S', q3, H', G'⟩ := F
  have K' := K
  rw [← len_of S' q3] at K'
  exact Go.st (X.arraylength hx (by rw [eT]; exact A.1) (State.isArrayOf_alike hZ.alike A.2.1) (g := mkF m pc Ls (.ref a :: S)) rfl rfl hd) K'
theorem castY (X : Stand p l e R s m args below meth c T locs cells slots) (hx : p.tables.exec = Jvm.exec) (hZ : Z.Warmed39 s.vm) {own : String} {index : Nat} (hown : s.vm.findClass own = some m.cls) {K0 : String} (w : (Cond.classLink own index K0).before a0 Z = true) (eT : T.heap = h) {a : Addr} (F : Ins Z h a K0 true) (hd : decode c.code pc = .ok (.checkcast index, 3)) (K : ∀ T', Stand p l e R s m args below meth c T' locs cells slots → T'.heap = h → Go p e below (T'.setTop (mkF m (pc + 3) Ls (.ref a :: S))) P) : Go p e below (T.setTop (mkF m pc Ls (.ref a :: S))) P := by
  obtain ⟨T', X', e', st⟩ := RoadKit.castY X hx hZ hown w eT F (g := mkF m pc Ls (.ref a :: S)) rfl rfl hd
  exact Go.st st (K T' X' e')
theorem clone (X : Stand p l e R s m args below meth c T locs cells slots) (hx : p.tables.exec = Jvm.exec) (hZ : Z.Warmed39 s.vm) {own : String} {index : Nat} (hown : s.vm.findClass own = some m.cls) {ad : String} (w1 : (Cond.methodLink own index ⟨ad, "clone", "()Ljava/lang/Object;"⟩).before a0 Z = true) (w2 : (Cond.sameMethod ad "java/lang/Object" "clone" "()Ljava/lang/Object;").before a0 Z = true) (w3 : (Cond.native ⟨"java/lang/Object", "clone", "()Ljava/lang/Object;"⟩).before a0 Z = true) (w4 : (Cond.instanceMethod ⟨"java/lang/Object", "clone", "()Ljava/lang/Object;"⟩).before a0 Z = true) (w5 : (Cond.selects ad ⟨ad, "clone", "()Ljava/lang/Object;"⟩ ⟨"java/lang/Object", "clone", "()Ljava/lang/Object;"⟩).before a0 Z = true) (w6 : (Cond.castable ad "java/lang/Cloneable").before a0 Z = true)
    (eT : T.heap = h) {a : Addr} {k : ClassId} {ty : FieldType} {n : Int32} {f : Nat → Value} (F : Arf Z h a k ty n f) (E : Exa Z h a ad) (hsize : Ls.size = c.maxLocals) (hd : decode c.code pc = .ok (.invokevirtual index, 3)) (hf : 1 ≤ R.frames) {cap : Nat} (hl : (S.map fun v => v.category).sum + 14 ≤ R.locals) (hcap : n.toNatClampNeg ≤ cap) (hc : cells + 1 ≤ R.cells) (hsl : slots + cap ≤ R.slots)
    (K : ∀ T' h' b, Stand p l e R s m args below meth c T' locs (cells + 1) (slots + cap) → T'.heap = h' → Ext h h' → b = h.size → Arf Z h' b k ty n f → Exa Z h' b ad → Go p e below (T'.setTop (mkF m (pc + 3) Ls (.ref b :: S))) P) : Go p e below (T.setTop (mkF m pc Ls (.ref a :: S))) P := by
  obtain ⟨T', h', X', e', E', A', B', st⟩ := cloneH X hx hZ hown w1 w2 w3 w4 w5 w6 eT (Arv.arh (Arf.arv F .null)) E (g := mkF m pc Ls (.ref a :: S)) rfl hsize rfl hd hf (W := (S.map fun v => v.category).sum) (by show 2 * 0 + _ ≤ _; omega) hl hcap hc hsl
  exact Go.st st (K T' h' _ X' e' E' rfl (Arf.ofArv (show Arv Z h' h.size k ty n ((List.range n.toNatClampNeg).map f) .null from A') fun i hi => own_mapD f .null _ i hi) B')
theorem copy (X : Stand p l e R s m args below meth c T locs cells slots) (hx : p.tables.exec = Jvm.exec) (hZ : Z.Warmed39 s.vm) {own : String} {index : Nat} (hown : s.vm.findClass own = some m.cls) (w1 : (Cond.methodLink own index Jvm.Stand.acN).before a0 Z = true) (w2 : (Cond.native Jvm.Stand.acN).before a0 Z = true) (w3 : (Cond.static Jvm.Stand.acN).before a0 Z = true) (w4 : (Cond.initialized "java/lang/System").before a0 Z = true) (eT : T.heap = h)
    {a b : Addr} {k k' : ClassId} {ty : FieldType} {n n' sp dp nn : Int32} {f g : Nat → Value} (A : Arf Z h a k ty n f) (B : Arf Z h b k' ty n' g) (hty : refKind ty = false) (h1 : ¬ sp < 0) (h2 : ¬ dp < 0) (h3 : ¬ nn < 0) (h4 : sp.toNatClampNeg + nn.toNatClampNeg ≤ n.toNatClampNeg) (h5 : dp.toNatClampNeg + nn.toNatClampNeg ≤ n'.toNatClampNeg) {n0 : Nat} (N : Fr n0 locs) (ge : n0 ≤ b) (g' : Nat → Value) (hg' : ∀ i, i < n'.toNatClampNeg → (if dp.toNatClampNeg ≤ i ∧ i < dp.toNatClampNeg + nn.toNatClampNeg then f (sp.toNatClampNeg + (i - dp.toNatClampNeg)) else g i) = g' i)
    (hsize : Ls.size = c.maxLocals) (hd : decode c.code pc = .ok (.invokestatic index, 3)) (hf : 1 ≤ R.frames) (hlo : (S.map fun v => v.category).sum + (nativeFrameWords "java/lang/System" "arraycopy" 5 + 11) ≤ R.locals)
    (K : ∀ T' h' L, Stand p l e R s m args below meth c T' L cells slots → T'.heap = h' → Fr n0 L → Keep h h' [b] → Arf Z h' b k' ty n' g' → Go p e below (T'.setTop (mkF m (pc + 3) Ls S)) P) : Go p e below (T.setTop (mkF m pc Ls (.int nn :: .int dp :: .ref b :: .int sp :: .ref a :: S))) P := by
  obtain ⟨T', h', L, X', e', N', K', V', st⟩ := cpF X hx hZ hown w1 w2 w3 w4 eT A B hty h1 h2 h3 h4 h5 N ge (g := mkF m pc Ls (.int nn :: .int dp :: .ref b :: .int sp :: .ref a :: S)) rfl hsize rfl hd hf (W := (S.map fun v => v.category).sum) (by show 2 * 0 + _ ≤ _; omega) hlo
  exact Go.st st (K T' h' L X' e' N' K' (Arf.same V' hg'))
theorem callS (X : Stand p l e R s m args below meth c T locs cells slots) (hx : p.tables.exec = Jvm.exec) (hZ : Z.Warmed39 s.vm) {own : String} {index : Nat} (hown : s.vm.findClass own = some m.cls) {y : MethodName} {bytes : ByteArray} {maxL : Nat} {ret : Option FieldType} {rm : Room} {as' : Array Value} {Q : Option Value → Heap → List Loc → Prop} {ps : List FieldType} {r : Option FieldType} {argsL : List Value} (hM : MetFree l y (head1 [Cond.code y bytes maxL ret] rm) (fun a U => a = as' ∧ Z.Warmed39 U.vm ∧ U.heap = h) (fun _ _ _ _ _ => True) (fun _ U o U' => ∃ v L, o = .returned v ∧ Q v U'.heap L ∧ FrameEnd U o U' L rm.cells rm.slots)) (wl : (Cond.methodLink own index y).before a0 Z = true) (ws : (Cond.static y).before a0 Z = true) (wi : (Cond.initialized y.cls).before a0 Z = true) (wc : (Cond.code y bytes maxL ret).before a0 Z = true) (hy : y.cls ≠ "java/lang/invoke/MethodHandle" ∧ y.cls ≠ "java/lang/invoke/VarHandle") (eT : T.heap = h) (hpd : parseMethodDescriptor y.desc = some ⟨ps, r⟩) (hlen : argsL.length = ps.length) (has : argsL.toArray = as') (hfr : rm.frames + 1 ≤ R.frames) (hlo : (S.map fun v => v.category).sum + (maxL + 11) + rm.locals ≤ R.locals) (hc : cells + rm.cells ≤ R.cells) (hs : slots + rm.slots ≤ R.slots) (hsize : Ls.size = c.maxLocals) {st0 : List Value} (hst : st0 = argsL.reverse ++ S) (hd : decode c.code pc = .ok (.invokestatic index, 3))
    (K : ∀ T' Lc v, Stand p l e R s m args below meth c T' (locs ++ Lc) (cells + rm.cells) (slots + rm.slots) → Q v T'.heap Lc → Go p e below (T'.setTop (mkF m (pc + 3) Ls (v.toList ++ S))) P) : Go p e below (T.setTop (mkF m pc Ls st0)) P := by
  subst hst
  obtain ⟨v, _, ⟨T', L', k', n'⟩, -, X', ⟨Lc, hQ, l', k', n'⟩, st⟩ := Jvm.LawKit.callS X hx (y := y) hown (mvT hZ wl) (mvT hZ ws) (mvT hZ wi) (mvT hZ wc) hy (backOf (W := (S.map fun v => v.category).sum) hM hZ wc wi hfr hlo) (g := mkF m pc Ls (argsL.reverse ++ S)) rfl hsize (argsL := argsL) (rest := S) (lenOf hpd hlen) rfl (by show 2 * 0 + _ ≤ _; omega) hd (fun _ _ => ⟨has, eT, hc, hs⟩)
  dsimp only [Pt.U, Pt.locs, Pt.cells, Pt.slots] at X' l' k' n' st hQ
  subst l' k' n'
  exact Go.st st (K T' Lc v X' hQ)
theorem callV (X : Stand p l e R s m args below meth c T locs cells slots) (hx : p.tables.exec = Jvm.exec) (hZ : Z.Warmed39 s.vm) {own : String} {index : Nat} (hown : s.vm.findClass own = some m.cls) {y : MethodName} {bytes : ByteArray} {maxL : Nat} {ret : Option FieldType} {rm : Room} {as' : Array Value} {Q : Option Value → Heap → List Loc → Prop} {ps : List FieldType} {r : Option FieldType} {argsL : List Value} {z : MethodName} {C : String} (hM : MetFree l y (head1 [Cond.code y bytes maxL ret] rm) (fun a U => a = as' ∧ Z.Warmed39 U.vm ∧ U.heap = h) (fun _ _ _ _ _ => True) (fun _ U o U' => ∃ v L, o = .returned v ∧ Q v U'.heap L ∧ FrameEnd U o U' L rm.cells rm.slots)) (wl : (Cond.methodLink own index z).before a0 Z = true) (wd : (Cond.declares z).before a0 Z = true) (hnf : NotFace s z) (wsel : (Cond.selects C z y).before a0 Z = true) (wi : (Cond.instanceMethod y).before a0 Z = true) (hy : z.cls ≠ "java/lang/invoke/MethodHandle" ∧ z.cls ≠ "java/lang/invoke/VarHandle") (wc : (Cond.code y bytes maxL ret).before a0 Z = true) (wz : (Cond.initialized y.cls).before a0 Z = true) (eT : T.heap = h) {o : Addr} (E : Exa Z h o C) (hpd : parseMethodDescriptor z.desc = some ⟨ps, r⟩) (hlen : argsL.length = ps.length) (has : (.ref o :: argsL).toArray = as') (hfr : rm.frames + 1 ≤ R.frames) (hlo : (S.map fun v => v.category).sum + (maxL + 11) + rm.locals ≤ R.locals) (hc : cells + rm.cells ≤ R.cells) (hs : slots + rm.slots ≤ R.slots) (hsize : Ls.size = c.maxLocals) {st0 : List Value} (hst : st0 = argsL.reverse ++ .ref o :: S) (hd : decode c.code pc = .ok (.invokevirtual index, 3))
    (K : ∀ T' Lc v, Stand p l e R s m args below meth c T' (locs ++ Lc) (cells + rm.cells) (slots + rm.slots) → Q v T'.heap Lc → Go p e below (T'.setTop (mkF m (pc + 3) Ls (v.toList ++ S))) P) : Go p e below (T.setTop (mkF m pc Ls st0)) P := by
  subst hst
  obtain ⟨cq, kq, qa, qb, qc⟩ := isOf hZ eT E
  obtain ⟨v, _, ⟨T', L', k', n'⟩, -, X', ⟨Lc, hQ, l', k', n'⟩, st⟩ := X.virtualBack hx (y := z) (z := y) hown (mvT hZ wl) (mvT hZ wd) hnf (mvT hZ wsel) (mvT hZ wi) hy (backOf (W := (S.map fun v => v.category).sum) hM hZ wc wz hfr hlo) qa qc (g := mkF m pc Ls (argsL.reverse ++ .ref o :: S)) rfl hsize (Steps.refl _) (argsL := argsL) (rest := S) (lenOf hpd hlen) rfl (by show 2 * 0 + _ ≤ _; omega) hd (fun _ _ => ⟨has, eT, hc, hs⟩)
  dsimp only [Pt.U, Pt.locs, Pt.cells, Pt.slots] at X' l' k' n' st hQ
  subst l' k' n'
  exact Go.tr st (K T' Lc v X' hQ)
theorem callI (X : Stand p l e R s m args below meth c T locs cells slots) (hx : p.tables.exec = Jvm.exec) (hZ : Z.Warmed39 s.vm) {own : String} {index : Nat} (hown : s.vm.findClass own = some m.cls) {y : MethodName} {bytes : ByteArray} {maxL : Nat} {ret : Option FieldType} {rm : Room} {as' : Array Value} {Q : Option Value → Heap → List Loc → Prop} {ps : List FieldType} {r : Option FieldType} {argsL : List Value} (hM : MetFree l y (head1 [Cond.code y bytes maxL ret] rm) (fun a U => a = as' ∧ Z.Warmed39 U.vm ∧ U.heap = h) (fun _ _ _ _ _ => True) (fun _ U o U' => ∃ v L, o = .returned v ∧ Q v U'.heap L ∧ FrameEnd U o U' L rm.cells rm.slots)) (hyi : y.name = "<init>") (wl : (Cond.methodLink own index y).before a0 Z = true) (wi : (Cond.instanceMethod y).before a0 Z = true) (wc : (Cond.code y bytes maxL none).before a0 Z = true) (hret : ret = none) (hy : y.cls ≠ "java/lang/invoke/MethodHandle" ∧ y.cls ≠ "java/lang/invoke/VarHandle") (wz : (Cond.initialized y.cls).before a0 Z = true) (eT : T.heap = h) {o : Addr} (hpd : parseMethodDescriptor y.desc = some ⟨ps, r⟩) (hlen : argsL.length = ps.length) (has : (.ref o :: argsL).toArray = as') (hfr : rm.frames + 1 ≤ R.frames) (hlo : (S.map fun v => v.category).sum + (maxL + 11) + rm.locals ≤ R.locals) (hc : cells + rm.cells ≤ R.cells) (hs : slots + rm.slots ≤ R.slots) (hsize : Ls.size = c.maxLocals) {st0 : List Value} (hst : st0 = argsL.reverse ++ .ref o :: S) (hd : decode c.code pc = .ok (.invokespecial index, 3))
    (K : ∀ T' Lc v, Stand p l e R s m args below meth c T' (locs ++ Lc) (cells + rm.cells) (slots + rm.slots) → Q v T'.heap Lc → Go p e below (T'.setTop (mkF m (pc + 3) Ls (v.toList ++ S))) P) : Go p e below (T.setTop (mkF m pc Ls st0)) P := by
  subst hst hret
  obtain ⟨v, _, ⟨T', L', k', n'⟩, -, X', ⟨Lc, hQ, l', k', n'⟩, st⟩ := X.specialBack hx (y := y) hyi hown (mvT hZ wl) (mvT hZ wi) (mvT hZ wc) hy (backOf (W := (S.map fun v => v.category).sum) hM hZ wc wz hfr hlo) (g := mkF m pc Ls (argsL.reverse ++ .ref o :: S)) rfl hsize (Steps.refl _) (a := o) (argsL := argsL) (rest := S) (lenOf hpd hlen) rfl (by show 2 * 0 + _ ≤ _; omega) hd (fun _ _ => ⟨has, eT, hc, hs⟩)
  dsimp only [Pt.U, Pt.locs, Pt.cells, Pt.slots] at X' l' k' n' st hQ
  subst l' k' n'
  exact Go.tr st (K T' Lc v X' hQ)
theorem selPriv {st : State} {as : Array Value} {y : MethodName} {n : Nat} (hy : y.cls ≠ "java/lang/invoke/MethodHandle" ∧ y.cls ≠ "java/lang/invoke/VarHandle") (hins : (Cond.instantiable y.cls n).before as st = true) (hpriv : (Cond.privateMethod y).before as st = true) (hinst : (Cond.instanceMethod y).before as st = true) : (Cond.selects y.cls y y).before as st = true := by
  obtain ⟨c, k, hc, hk, -, hniab, -, -⟩ := Cond.instantiable_spec hins
  have hni : k.isInterface = false := (Bool.or_eq_false_iff.mp hniab).1
  obtain ⟨mk, methM, hnamed, hmethM, -, -⟩ := Cond.instanceMethod_spec hinst
  have hfound : st.methodFound? y.cls y.name y.desc = some mk := State.methodFound?_of_named hnamed hy
  have hcls : mk.cls = c := Option.some.inj ((findClass_of_methodNamed hnamed).symm.trans hc)
  have hsel : selectMethod {} st.vm c mk = .method mk := selectMethod_private hmethM (Cond.privateMethod_at hpriv mk methM hnamed hmethM)
  simp only [Cond.before, Cond.holds, Cond.value, hc, hfound, hnamed, hsel, hcls, hk]
  simp; exact hni
theorem callP (X : Stand p l e R s m args below meth c T locs cells slots) (hx : p.tables.exec = Jvm.exec) (hZ : Z.Warmed39 s.vm) {own : String} {index : Nat} (hown : s.vm.findClass own = some m.cls) {y : MethodName} {bytes : ByteArray} {maxL : Nat} {ret : Option FieldType} {rm : Room} {as' : Array Value} {Q : Option Value → Heap → List Loc → Prop} {ps : List FieldType} {r : Option FieldType} {argsL : List Value} {C : String} {kk : Nat} (hM : MetFree l y (head1 [Cond.code y bytes maxL ret] rm) (fun a U => a = as' ∧ Z.Warmed39 U.vm ∧ U.heap = h) (fun _ _ _ _ _ => True) (fun _ U o U' => ∃ v L, o = .returned v ∧ Q v U'.heap L ∧ FrameEnd U o U' L rm.cells rm.slots)) (wl : (Cond.methodLink own index y).before a0 Z = true) (wi : (Cond.instanceMethod y).before a0 Z = true) (wn : (Cond.instantiable y.cls kk).before a0 Z = true) (wp : (Cond.privateMethod y).before a0 Z = true) (hy : y.cls ≠ "java/lang/invoke/MethodHandle" ∧ y.cls ≠ "java/lang/invoke/VarHandle") (wc : (Cond.code y bytes maxL ret).before a0 Z = true) (wz : (Cond.initialized y.cls).before a0 Z = true) (eT : T.heap = h) {o : Addr} (E : Exa Z h o C) (hpd : parseMethodDescriptor y.desc = some ⟨ps, r⟩) (hlen : argsL.length = ps.length) (has : (.ref o :: argsL).toArray = as') (hfr : rm.frames + 1 ≤ R.frames) (hlo : (S.map fun v => v.category).sum + (maxL + 11) + rm.locals ≤ R.locals) (hc : cells + rm.cells ≤ R.cells) (hs : slots + rm.slots ≤ R.slots) (hsize : Ls.size = c.maxLocals) {st0 : List Value} (hst : st0 = argsL.reverse ++ .ref o :: S) (hd : decode c.code pc = .ok (.invokevirtual index, 3))
    (K : ∀ T' Lc v, Stand p l e R s m args below meth c T' (locs ++ Lc) (cells + rm.cells) (slots + rm.slots) → Q v T'.heap Lc → Go p e below (T'.setTop (mkF m (pc + 3) Ls (v.toList ++ S))) P) : Go p e below (T.setTop (mkF m pc Ls st0)) P := by
  subst hst
  obtain ⟨cq, q1, q2⟩ := E.cell
  obtain ⟨v, _, ⟨T', L', k', n'⟩, -, X', ⟨Lc, hQ, l', k', n'⟩, st⟩ := X.privateBack hx (y := y) hown (mvT hZ wl) (mvT hZ wi) (mvT hZ (selPriv hy wn wp wi)) (Cond.privateMethod_at (mvP hZ wp (args := #[]))) (mvT hZ wc) hy (backOf (W := (S.map fun v => v.category).sum) hM hZ wc wz hfr hlo) (g := mkF m pc Ls (argsL.reverse ++ .ref o :: S)) rfl hsize (Steps.refl _) (a := o) (by rw [eT]; exact q1) q2 (argsL := argsL) (rest := S) (lenOf hpd hlen) rfl (by show 2 * 0 + _ ≤ _; omega) hd (fun _ _ => ⟨has, eT, hc, hs⟩)
  dsimp only [Pt.U, Pt.locs, Pt.cells, Pt.slots] at X' l' k' n' st hQ
  subst l' k' n'
  exact Go.tr st (K T' Lc v X' hQ)
theorem grid1 (X : Stand p l e R s m args below meth c T locs cells slots) (hx : p.tables.exec = Jvm.exec) (hZ : Z.Warmed39 s.vm) {own : String} {index : Nat} (hown : s.vm.findClass own = some m.cls) {C ad : String} {ty : FieldType} (hC : (FieldType.array ty).toString = C) (had : "[" ++ C = ad) (w1 : (Cond.classLink own index ad).before a0 Z = true) (w2 : (Cond.arrayOver (.array ty)).before a0 Z = true) (w3 : (Cond.arrayClass ty).before a0 Z = true) (eT : T.heap = h) {k : Int32} (hd : decode c.code pc = .ok (.multianewarray index 2, 4)) (hk : ¬ k < 0) {cap : Nat} (hcap : k.toNatClampNeg ≤ cap) (hb : cap * 8 ≤ 536870912) (hdf : fits ty (defaultValue ty) = true) (hdd : (defaultValue ty).isDefault = true) (hc : cells + (1 + 1) ≤ R.cells) (hl : slots + (1 + 1 * cap) ≤ R.slots)
    (K : ∀ T' h' b b1 cA comp, Stand p l e R s m args below meth c T' locs (cells + (1 + 1)) (slots + (1 + 1 * cap)) → T'.heap = h' → Ext h h' → b = h.size → b1 = h.size + 1 → Arf Z h' b cA (.array ty) (1 : Int32) (fun _ => .ref b1) → Arf Z h' b1 comp ty k (fun _ => defaultValue ty) → Exa Z h' b ad → Exa Z h' b1 C → OvrA Z cA ty C → Go p e below (T'.setTop (mkF m (pc + 4) Ls (.ref b :: S))) P) : Go p e below (T.setTop (mkF m pc Ls (.int k :: .int (1 : Int32) :: S))) P := by
  obtain ⟨T', h', cA, comp, X', e', E', V', O', B', I', st⟩ := gridM X hx hZ hown hC had w1 w2 w3 eT (g := mkF m pc Ls (.int k :: .int (1 : Int32) :: S)) rfl hd rfl (by decide) hk (xs := [h.size + 1]) (N := 1) rfl rfl hcap hb (by decide) hdf hdd hc hl
  obtain ⟨A1, B1⟩ := I' 0 (h.size + 1) rfl
  refine Go.st st (K T' h' _ _ cA comp X' e' E' rfl rfl (Arf.ofArv V' fun i hi => ?_) (Arf.new A1 hk) B' B1 O')
  have hi' : i < 1 := hi
  obtain rfl : i = 0 := by omega
  rfl
theorem dupX2 (X : Stand p l e R s m args below meth c T locs cells slots) (hx : p.tables.exec = Jvm.exec) {x y z : Value} (hd : decode c.code pc = .ok (.dup_x2, 1)) (h1 : x.category = 1) (h2 : y.category = 1) (h3 : z.category = 1) (K : Go p e below (T.setTop (mkF m (pc + 1) Ls (x :: y :: z :: x :: S))) P) : Go p e below (T.setTop (mkF m pc Ls (x :: y :: z :: S))) P := by
  refine Go.st (fun _ q_ => ?_) K
  show Steps p.tables e below (T.setTop { method := m, pc := pc, locals := Ls, stack := x :: y :: z :: S, locked := none }) _
  jvm_step X.here [X.here.top, hx, hd, h1, h2, h3]
  exact q_
theorem ldcS {vm0 : Vm} (X : Stand p l e R (s.setVm vm0) m args below meth c T locs cells slots) (hx : p.tables.exec = Jvm.exec) (hZ : Z.Warmed39 (s.setVm vm0).vm) {own text : String} {index : Nat} (hown : (s.setVm vm0).vm.findClass own = some m.cls) (w : (Cond.stringLink own index text).before a0 Z = true) (wS : ∀ a ∈ Bundle.stringAtoms, a.before a0 Z = true) (eT : T.heap = h) {k0 : Nat} (hS : s.Since vm0 k0) (hk : k0 ≤ h.size) (hd : decode c.code pc = .ok (.ldc index, 2)) {n : Nat} (hn : 4 * text.toList.length ≤ n) (hbig : n ≤ 536870912) (hc : cells + 2 ≤ R.cells) (hl : slots + (n + 4) ≤ R.slots)
    (K : ∀ a T' h' k1, Stand p l e R (s.setVm T'.vm) m args below meth c T' locs (cells + 2) (slots + (n + 4)) → T'.heap = h' → Ext h h' → s.Since T'.vm k1 → k1 ≤ h'.size → Z.Warmed39 (s.setVm T'.vm).vm → (s.setVm T'.vm).vm.findClass own = some m.cls → Go p e below (T'.setTop (mkF m (pc + 2) Ls (.ref a :: S))) P) : Go p e below (T.setTop (mkF m pc Ls S)) P := by
  obtain ⟨a, T', h', k1, X', e', E', S', q', Z', o', st⟩ := RoadKit.ldcS X hx hZ hown w wS eT hS hk (g := mkF m pc Ls S) rfl hd hn hbig hc hl
  exact Go.st st (K a T' h' k1 X' e' E' S' q' Z' o')
theorem finW {vm0 : Vm} (X : Stand p l e R (s.setVm vm0) m args below meth c T locs cells slots) (eT : T.heap = h) {k0 : Nat} (hS : s.Since vm0 k0) (hk : k0 ≤ h.size) {v : Option Value} (hv : meth.sig.returnType = none → v = none) (hlocks : meth.locks = false) {U : State}
    (st : ∀ fs, (∀ (f : JFrame) (acts : List Action), f.method = m → f.locked = none → f.entered = [] → (doReturn e (T.setTop f) acts v).1 = T.setFrames fs) → Steps p.tables e below U (T.setFrames fs))
    (hP : ∀ U' : State, U'.heap = T.heap → ReturnedEndW s (.returned v) U' locs cells slots → P (.returned v) U') : Go p e below U P := by
  obtain ⟨fs, hr, hrun, hended, hW⟩ := X.leaveW hS (by rw [eT]; exact hk) hv hlocks
  exact ⟨_, _, st fs hr, hrun, hended, hP _ rfl hW⟩
end GkKit
end Gk
theorem own_i2c (q : Int32) : ((q &&& (255 : Int32)).toUInt32.toUInt16.toUInt32.toInt32).toInt = q.toInt % 256 := by
  have h := Jvm.Kit.i32_mask q 255 (k := 8) (by decide) (by decide)
  have g := c_i2c (q &&& (255 : Int32))
  omega
theorem own_ch {q x : Int32} (e : x = nar .char ((q &&& (255 : Int32)).toUInt32.toUInt16.toUInt32.toInt32)) : ¬ ((255 : Int32) < x) := by
  have h := own_i2c q
  have g := c_i2c ((q &&& (255 : Int32)).toUInt32.toUInt16.toUInt32.toInt32)
  have z : (255 : Int32).toInt = 255 := by decide
  have e' : x = ((q &&& (255 : Int32)).toUInt32.toUInt16.toUInt32.toInt32).toUInt32.toUInt16.toUInt32.toInt32 := e
  rw [Int32.lt_iff_toInt_lt, z, e']
  omega
theorem own_vb {q x : Int32} (e : x = q &&& (255 : Int32)) : ¬ (x < (0 : Int32)) ∧ ¬ ((255 : Int32) < x) := by
  have h := Jvm.Kit.i32_mask q 255 (k := 8) (by decide) (by decide)
  rw [← e] at h
  have z : (255 : Int32).toInt = 255 := by decide
  have z0 : (0 : Int32).toInt = 0 := by decide
  rw [Int32.lt_iff_toInt_lt, Int32.lt_iff_toInt_lt, z, z0]
  omega
theorem d5_0 : decode jdk_52_method_21_code 0 = .ok (.iconst 0, 1) := by decide +kernel
theorem d5_1 : decode jdk_52_method_21_code 1 = .ok (.istore 5, 2) := by decide +kernel
theorem d5_3 : decode jdk_52_method_21_code 3 = .ok (.iload 5, 2) := by decide +kernel
theorem d5_5 : decode jdk_52_method_21_code 5 = .ok (.iload 4, 2) := by decide +kernel
theorem d5_7 : decode jdk_52_method_21_code 7 = .ok (.if_icmp .ge 37, 3) := by decide +kernel
theorem d5_10 : decode jdk_52_method_21_code 10 = .ok (.aload_n 0, 1) := by decide +kernel
theorem d5_11 : decode jdk_52_method_21_code 11 = .ok (.iload_n 1, 1) := by decide +kernel
theorem d5_12 : decode jdk_52_method_21_code 12 = .ok (.caload, 1) := by decide +kernel
theorem d5_13 : decode jdk_52_method_21_code 13 = .ok (.istore 6, 2) := by decide +kernel
theorem d5_15 : decode jdk_52_method_21_code 15 = .ok (.iload 6, 2) := by decide +kernel
theorem d5_17 : decode jdk_52_method_21_code 17 = .ok (.sipush 255, 3) := by decide +kernel
theorem d5_20 : decode jdk_52_method_21_code 20 = .ok (.if_icmp .le 6, 3) := by decide +kernel
theorem d5_26 : decode jdk_52_method_21_code 26 = .ok (.aload_n 2, 1) := by decide +kernel
theorem d5_27 : decode jdk_52_method_21_code 27 = .ok (.iload_n 3, 1) := by decide +kernel
theorem d5_28 : decode jdk_52_method_21_code 28 = .ok (.iload 6, 2) := by decide +kernel
theorem d5_30 : decode jdk_52_method_21_code 30 = .ok (.i2b, 1) := by decide +kernel
theorem d5_31 : decode jdk_52_method_21_code 31 = .ok (.bastore, 1) := by decide +kernel
theorem d5_32 : decode jdk_52_method_21_code 32 = .ok (.iinc 1 1, 3) := by decide +kernel
theorem d5_35 : decode jdk_52_method_21_code 35 = .ok (.iinc 3 1, 3) := by decide +kernel
theorem d5_38 : decode jdk_52_method_21_code 38 = .ok (.iinc 5 1, 3) := by decide +kernel
theorem d5_41 : decode jdk_52_method_21_code 41 = .ok (.goto (-38), 3) := by decide +kernel
theorem d5_44 : decode jdk_52_method_21_code 44 = .ok (.iload 4, 2) := by decide +kernel
theorem d5_46 : decode jdk_52_method_21_code 46 = .ok (.ireturn, 1) := by decide +kernel
theorem pn_23 : plainName "java/lang/StringUTF16" = true := by first | (simp [plainName, overriddenIn]; done) | decide +kernel
theorem ef_cp2_2 (m : MethodId) (a1 : Addr) (a3 : Addr) : entryFrame m #[(.ref a1), (.int (0 : Int32)), (.ref a3), (.int (0 : Int32)), (.int (2 : Int32))] 7 = mkF m 0 #[.val (.ref a1), .val (.int (0 : Int32)), .val (.ref a3), .val (.int (0 : Int32)), .val (.int (2 : Int32)), .unset, .unset] [] := by first | (simp [entryFrame, mkF, argsToLocals, Value.category]; done) | rfl
def Q_cp2_2 (Z : State) (a1 : Addr) (a3 : Addr) (kc : ClassId) (f : Nat → Value) (c0 : Int32) (c1 : Int32) (kb : ClassId) (fb : Nat → Value) (h0 : Heap) (n0 : Nat) (v : Option Value) (h : Heap) (L : List Loc) : Prop := v = some (.int (2 : Int32)) ∧ Fr n0 L ∧ Keep h0 h [a3] ∧ Arf Z h a3 kb .byte (2 : Int32) (upd (upd fb 0 (.int (c0.toInt8.toInt32))) 1 (.int (c1.toInt8.toInt32)))
set_option maxRecDepth 65536 in
set_option maxHeartbeats 40000000 in
theorem cp2_2 (l : Launch) (Z : State) (a0 : Array Value) (hw : ∀ d ∈ tables_1, d.before a0 Z = true) (ws : List Jvm.Cond) (a1 : Addr) (a3 : Addr) (kc : ClassId) (f : Nat → Value) (c0 : Int32) (c1 : Int32) (kb : ClassId) (fb : Nat → Value) (h0 : Heap) (n0 : Nat) (Z0 : n0 ≤ h0.size) (V_a : Arf Z h0 a1 kc .char (2 : Int32) f) (V_b : Arf Z h0 a3 kb .byte (2 : Int32) fb) (hne : a1 ≠ a3) (hf0 : f 0 = (.int c0)) (hf1 : f 1 = (.int c1)) (hc0 : ¬ ((255 : Int32) < c0)) (hc1 : ¬ ((255 : Int32) < c1)) (g_a3 : n0 ≤ a3) :
    MetFree l (⟨"java/lang/StringUTF16", "compress", "([CI[BII)I"⟩ : MethodName) (head1 (Jvm.Cond.code (⟨"java/lang/StringUTF16", "compress", "([CI[BII)I"⟩ : MethodName) jdk_52_method_21_code 7 (some .int) :: ws) ({ frames := 0, cells := 0, slots := 0, locals := 0 } : Room)) (fun a U => a = #[(.ref a1), (.int (0 : Int32)), (.ref a3), (.int (0 : Int32)), (.int (2 : Int32))] ∧ Z.Warmed39 U.vm ∧ U.heap = h0) (fun _ _ _ _ _ => True) (fun _ U o U' => ∃ v L, o = .returned v ∧ Q_cp2_2 Z a1 a3 kc f c0 c1 kb fb h0 n0 v U'.heap L ∧ FrameEnd U o U' L ({ frames := 0, cells := 0, slots := 0, locals := 0 } : Room).cells ({ frames := 0, cells := 0, slots := 0, locals := 0 } : Room).slots) := by
  refine MetFree.of_bodySF (plainFor_of_name pn_23) hisR ?_
  intro p e s m args below meth c s₁ Bd hml0 hP hK
  obtain ⟨rfl, hZ, hh⟩ := hP
  have hx := Bd.exec
  have hby := Bd.bytes
  have hml : c.maxLocals = 7 := hml0
  have hown : s.vm.findClass "java/lang/StringUTF16" = some m.cls := findClass_of_methodNamed Bd.named
  have hnm := (name_of_methodNamed Bd.named Bd.method).1
  have X0 : Stand p l e ({ frames := 0, cells := 0, slots := 0, locals := 0 } : Room) s m #[(.ref a1), (.int (0 : Int32)), (.ref a3), (.int (0 : Int32)), (.int (2 : Int32))] below meth c s₁ [] 0 0 := Stand.of_body Bd
  have e0 : s₁.heap = h0 := by rw [← hh, Bd.state]; rfl
  have N0 := Fr.nil n0
  show Go p e below (s₁.setTop (entryFrame m #[(.ref a1), (.int (0 : Int32)), (.ref a3), (.int (0 : Int32)), (.int (2 : Int32))] 7)) (fun o U' => ∃ v L, o = .returned v ∧ Q_cp2_2 Z a1 a3 kc f c0 c1 kb fb h0 n0 v U'.heap L ∧ FrameEnd s o U' L ({ frames := 0, cells := 0, slots := 0, locals := 0 } : Room).cells ({ frames := 0, cells := 0, slots := 0, locals := 0 } : Room).slots)
  rw [ef_cp2_2]
  refine Gk.iconst X0 hx (hb hby d5_0) (0 : Int32) rfl ?_
  refine Gk.istore X0 hx (hb hby d5_1) #[.val (.ref a1), .val (.int (0 : Int32)), .val (.ref a3), .val (.int (0 : Int32)), .val (.int (2 : Int32)), .val (.int (0 : Int32)), .unset] rfl ?_
  refine Gk.iload X0 hx (hb hby d5_3) rfl ?_
  refine Gk.iload X0 hx (hb hby d5_5) rfl ?_
  refine Gk.icmpNo X0 hx (hb hby d5_7) (tlt (by decide : (0 : Int32) < (2 : Int32))).2.1 ?_
  refine Gk.aloadN X0 hx (hb hby d5_10) rfl rfl ?_
  refine Gk.iloadN X0 hx (hb hby d5_11) rfl ?_
  refine Gk.caload X0 hx hZ e0 V_a ⟨by decide, by decide⟩ (.int c0) hf0 (hb hby d5_12) ?_
  refine Gk.istore X0 hx (hb hby d5_13) #[.val (.ref a1), .val (.int (0 : Int32)), .val (.ref a3), .val (.int (0 : Int32)), .val (.int (2 : Int32)), .val (.int (0 : Int32)), .val (.int c0)] rfl ?_
  refine Gk.iload X0 hx (hb hby d5_15) rfl ?_
  refine Gk.sipush X0 hx (hb hby d5_17) (255 : Int32) rfl ?_
  have hc20 : ¬ ((255 : Int32) < c0) := hc0
  refine Gk.icmpYes X0 hx (hb hby d5_20) (flt hc20).2.2.2 26 (by decide) (by decide) ?_
  refine Gk.aloadN X0 hx (hb hby d5_26) rfl rfl ?_
  refine Gk.iloadN X0 hx (hb hby d5_27) rfl ?_
  refine Gk.iload X0 hx (hb hby d5_28) rfl ?_
  refine Gk.i2b X0 hx (hb hby d5_30) _ rfl ?_
  refine Gk.bastoreB X0 hx hZ e0 V_b 0 rfl ⟨by decide, by decide⟩ (.int (c0.toInt8.toInt32)) (congrArg Value.int (own_nb _)) (hb hby d5_31) ?_
  intro T2 h2 X2 e2 W2 V2
  have N2 := Fr.snoc X2 N0 g_a3
  refine Gk.iinc X2 hx (hb hby d5_32) rfl #[.val (.ref a1), .val (.int (1 : Int32)), .val (.ref a3), .val (.int (0 : Int32)), .val (.int (2 : Int32)), .val (.int (0 : Int32)), .val (.int c0)] rfl ?_
  refine Gk.iinc X2 hx (hb hby d5_35) rfl #[.val (.ref a1), .val (.int (1 : Int32)), .val (.ref a3), .val (.int (1 : Int32)), .val (.int (2 : Int32)), .val (.int (0 : Int32)), .val (.int c0)] rfl ?_
  refine Gk.iinc X2 hx (hb hby d5_38) rfl #[.val (.ref a1), .val (.int (1 : Int32)), .val (.ref a3), .val (.int (1 : Int32)), .val (.int (2 : Int32)), .val (.int (1 : Int32)), .val (.int c0)] rfl ?_
  refine Gk.goto X2 hx (hb hby d5_41) 3 (by decide) (by decide) ?_
  refine Gk.iload X2 hx (hb hby d5_3) rfl ?_
  refine Gk.iload X2 hx (hb hby d5_5) rfl ?_
  refine Gk.icmpNo X2 hx (hb hby d5_7) (tlt (by decide : (1 : Int32) < (2 : Int32))).2.1 ?_
  refine Gk.aloadN X2 hx (hb hby d5_10) rfl rfl ?_
  refine Gk.iloadN X2 hx (hb hby d5_11) rfl ?_
  have H4 := (V_a.other W2 hne)
  refine Gk.caload X2 hx hZ e2 H4 ⟨by decide, by decide⟩ (.int c1) hf1 (hb hby d5_12) ?_
  refine Gk.istore X2 hx (hb hby d5_13) #[.val (.ref a1), .val (.int (1 : Int32)), .val (.ref a3), .val (.int (1 : Int32)), .val (.int (2 : Int32)), .val (.int (1 : Int32)), .val (.int c1)] rfl ?_
  refine Gk.iload X2 hx (hb hby d5_15) rfl ?_
  refine Gk.sipush X2 hx (hb hby d5_17) (255 : Int32) rfl ?_
  have hc20_1 : ¬ ((255 : Int32) < c1) := hc1
  refine Gk.icmpYes X2 hx (hb hby d5_20) (flt hc20_1).2.2.2 26 (by decide) (by decide) ?_
  refine Gk.aloadN X2 hx (hb hby d5_26) rfl rfl ?_
  refine Gk.iloadN X2 hx (hb hby d5_27) rfl ?_
  refine Gk.iload X2 hx (hb hby d5_28) rfl ?_
  refine Gk.i2b X2 hx (hb hby d5_30) _ rfl ?_
  refine Gk.bastoreB X2 hx hZ e2 V2 1 rfl ⟨by decide, by decide⟩ (.int (c1.toInt8.toInt32)) (congrArg Value.int (own_nb _)) (hb hby d5_31) ?_
  intro T5 h5 X5 e5 W5 V5
  have N5 := Fr.snoc X5 N2 g_a3
  refine Gk.iinc X5 hx (hb hby d5_32) rfl #[.val (.ref a1), .val (.int (2 : Int32)), .val (.ref a3), .val (.int (1 : Int32)), .val (.int (2 : Int32)), .val (.int (1 : Int32)), .val (.int c1)] rfl ?_
  refine Gk.iinc X5 hx (hb hby d5_35) rfl #[.val (.ref a1), .val (.int (2 : Int32)), .val (.ref a3), .val (.int (2 : Int32)), .val (.int (2 : Int32)), .val (.int (1 : Int32)), .val (.int c1)] rfl ?_
  refine Gk.iinc X5 hx (hb hby d5_38) rfl #[.val (.ref a1), .val (.int (2 : Int32)), .val (.ref a3), .val (.int (2 : Int32)), .val (.int (2 : Int32)), .val (.int (2 : Int32)), .val (.int c1)] rfl ?_
  refine Gk.goto X5 hx (hb hby d5_41) 3 (by decide) (by decide) ?_
  refine Gk.iload X5 hx (hb hby d5_3) rfl ?_
  refine Gk.iload X5 hx (hb hby d5_5) rfl ?_
  refine Gk.icmpYes X5 hx (hb hby d5_7) (flt (by decide : ¬ ((2 : Int32) < (2 : Int32)))).2.1 44 (by decide) (by decide) ?_
  refine Gk.iload X5 hx (hb hby d5_44) rfl ?_
  refine Go.fin X5 (v := some (.int (2 : Int32))) (fun h_ => by rw [Bd.returns] at h_; cases h_) Bd.notSynchronized (fun _ hr => retOut X5 hx Bd.returns rfl (Or.inl ⟨rfl, Or.inl rfl, _, rfl⟩) (hb hby d5_46) hr) (fun U' hU hF => ⟨_, _, rfl, ?_, hF.1, hF.2.1, hF.2.2.mono (by decide) (by decide)⟩)
  rw [hU, e5]
  exact ⟨(congrArg (fun z_ : Int32 => some (Value.int z_)) (show (2 : Int32) = (2 : Int32) from rfl)), N5, (((Keep.refl h0 [a3]).wr W2 (Or.inl (List.mem_of_getElem? (i := 0) rfl))).wr W5 (Or.inl (List.mem_of_getElem? (i := 0) rfl))), V5⟩
theorem pd_0 : parseMethodDescriptor "([CI[BII)I" = some ⟨[(.array .char), .int, (.array .byte), .int, .int], some .int⟩ := by decide +kernel
theorem d4_0 : decode jdk_52_method_16_code 0 = .ok (.iload_n 2, 1) := by decide +kernel
theorem d4_1 : decode jdk_52_method_16_code 1 = .ok (.newarray .byte, 2) := by decide +kernel
theorem d4_3 : decode jdk_52_method_16_code 3 = .ok (.astore_n 3, 1) := by decide +kernel
theorem d4_4 : decode jdk_52_method_16_code 4 = .ok (.aload_n 0, 1) := by decide +kernel
theorem d4_5 : decode jdk_52_method_16_code 5 = .ok (.iload_n 1, 1) := by decide +kernel
theorem d4_6 : decode jdk_52_method_16_code 6 = .ok (.aload_n 3, 1) := by decide +kernel
theorem d4_7 : decode jdk_52_method_16_code 7 = .ok (.iconst 0, 1) := by decide +kernel
theorem d4_8 : decode jdk_52_method_16_code 8 = .ok (.iload_n 2, 1) := by decide +kernel
theorem d4_9 : decode jdk_52_method_16_code 9 = .ok (.invokestatic 115, 3) := by decide +kernel
theorem d4_12 : decode jdk_52_method_16_code 12 = .ok (.istore 4, 2) := by decide +kernel
theorem d4_14 : decode jdk_52_method_16_code 14 = .ok (.iload 4, 2) := by decide +kernel
theorem d4_16 : decode jdk_52_method_16_code 16 = .ok (.iload_n 2, 1) := by decide +kernel
theorem d4_17 : decode jdk_52_method_16_code 17 = .ok (.if_icmp .eq 40, 3) := by decide +kernel
theorem d4_57 : decode jdk_52_method_16_code 57 = .ok (.aload_n 3, 1) := by decide +kernel
theorem d4_58 : decode jdk_52_method_16_code 58 = .ok (.areturn, 1) := by decide +kernel
theorem ef_cp1_2 (m : MethodId) (a1 : Addr) : entryFrame m #[(.ref a1), (.int (0 : Int32)), (.int (2 : Int32))] 6 = mkF m 0 #[.val (.ref a1), .val (.int (0 : Int32)), .val (.int (2 : Int32)), .unset, .unset, .unset] [] := by first | (simp [entryFrame, mkF, argsToLocals, Value.category]; done) | rfl
def Q_cp1_2 (Z : State) (a1 : Addr) (kc : ClassId) (f : Nat → Value) (c0 : Int32) (c1 : Int32) (h0 : Heap) (n0 : Nat) (v : Option Value) (h : Heap) (L : List Loc) : Prop := v = some (.ref h0.size) ∧ Fr n0 L ∧ Keep h0 h [] ∧ ∃ kb : ClassId, Arf Z h h0.size kb .byte (2 : Int32) (upd (upd (fun _ => (.int (0 : Int32))) 0 (.int (c0.toInt8.toInt32))) 1 (.int (c1.toInt8.toInt32)))
set_option maxRecDepth 65536 in
set_option maxHeartbeats 40000000 in
theorem cp1_2 (l : Launch) (Z : State) (a0 : Array Value) (hw : ∀ d ∈ tables_1, d.before a0 Z = true) (ws : List Jvm.Cond) (a1 : Addr) (kc : ClassId) (f : Nat → Value) (c0 : Int32) (c1 : Int32) (h0 : Heap) (n0 : Nat) (Z0 : n0 ≤ h0.size) (V_a : Arf Z h0 a1 kc .char (2 : Int32) f) (hf0 : f 0 = (.int c0)) (hf1 : f 1 = (.int c1)) (hc0 : ¬ ((255 : Int32) < c0)) (hc1 : ¬ ((255 : Int32) < c1)) :
    MetFree l (⟨"java/lang/StringUTF16", "compress", "([CII)[B"⟩ : MethodName) (head1 (Jvm.Cond.code (⟨"java/lang/StringUTF16", "compress", "([CII)[B"⟩ : MethodName) jdk_52_method_16_code 6 (some (.array .byte)) :: ws) ({ frames := 1, cells := 1, slots := 2, locals := 18 } : Room)) (fun a U => a = #[(.ref a1), (.int (0 : Int32)), (.int (2 : Int32))] ∧ Z.Warmed39 U.vm ∧ U.heap = h0) (fun _ _ _ _ _ => True) (fun _ U o U' => ∃ v L, o = .returned v ∧ Q_cp1_2 Z a1 kc f c0 c1 h0 n0 v U'.heap L ∧ FrameEnd U o U' L ({ frames := 1, cells := 1, slots := 2, locals := 18 } : Room).cells ({ frames := 1, cells := 1, slots := 2, locals := 18 } : Room).slots) := by
  refine MetFree.of_bodySF (plainFor_of_name pn_23) hisR ?_
  intro p e s m args below meth c s₁ Bd hml0 hP hK
  obtain ⟨rfl, hZ, hh⟩ := hP
  have hx := Bd.exec
  have hby := Bd.bytes
  have hml : c.maxLocals = 6 := hml0
  have hown : s.vm.findClass "java/lang/StringUTF16" = some m.cls := findClass_of_methodNamed Bd.named
  have hnm := (name_of_methodNamed Bd.named Bd.method).1
  have X0 : Stand p l e ({ frames := 1, cells := 1, slots := 2, locals := 18 } : Room) s m #[(.ref a1), (.int (0 : Int32)), (.int (2 : Int32))] below meth c s₁ [] 0 0 := Stand.of_body Bd
  have e0 : s₁.heap = h0 := by rw [← hh, Bd.state]; rfl
  have N0 := Fr.nil n0
  show Go p e below (s₁.setTop (entryFrame m #[(.ref a1), (.int (0 : Int32)), (.int (2 : Int32))] 6)) (fun o U' => ∃ v L, o = .returned v ∧ Q_cp1_2 Z a1 kc f c0 c1 h0 n0 v U'.heap L ∧ FrameEnd s o U' L ({ frames := 1, cells := 1, slots := 2, locals := 18 } : Room).cells ({ frames := 1, cells := 1, slots := 2, locals := 18 } : Room).slots)
  rw [ef_cp1_2]
  refine Gk.iloadN X0 hx (hb hby d4_0) rfl ?_
  refine Gk.newP X0 hx hZ (hw _ (List.mem_of_getElem? (i := 19) rfl)) e0 (hb hby d4_1) (by decide) (cap := 2) (by decide) (by decide) (by decide) (by decide) rfl ?_
  intro T1 h1 b1 k1 X1 e1 E1 g1 A1 B1
  have g_b1 : n0 ≤ b1 := Nat.le_trans Z0 (Nat.le_of_eq g1.symm)
  have V_b1 : Arf Z h1 b1 k1 .byte (2 : Int32) (fun _ => (.int (0 : Int32))) := A1
  have lt_b1 := V_b1.lt
  refine Gk.astoreN X1 hx (hb hby d4_3) rfl #[.val (.ref a1), .val (.int (0 : Int32)), .val (.int (2 : Int32)), .val (.ref b1), .unset, .unset] rfl ?_
  refine Gk.aloadN X1 hx (hb hby d4_4) rfl rfl ?_
  refine Gk.iloadN X1 hx (hb hby d4_5) rfl ?_
  refine Gk.aloadN X1 hx (hb hby d4_6) rfl rfl ?_
  refine Gk.iconst X1 hx (hb hby d4_7) (0 : Int32) rfl ?_
  refine Gk.iloadN X1 hx (hb hby d4_8) rfl ?_
  have H3 := (V_a.ext E1)
  have ne4 : a1 ≠ b1 := (Nat.ne_of_lt (Nat.lt_of_lt_of_le V_a.lt (Nat.le_trans (Nat.le_refl _) (Nat.le_of_eq g1.symm))))
  refine Gk.callS (argsL := [(.ref a1), (.int (0 : Int32)), (.ref b1), (.int (0 : Int32)), (.int (2 : Int32))]) X1 hx hZ hown (cp2_2 l Z a0 hw [] a1 b1 kc f c0 c1 k1 (fun _ => (.int (0 : Int32))) h1 n0 (Nat.le_trans Z0 E1.1) H3 V_b1 ne4 hf0 hf1 hc0 hc1 g_b1) (hw _ (List.mem_of_getElem? (i := 20) rfl)) (hw _ (List.mem_of_getElem? (i := 21) rfl)) (hw _ (List.mem_of_getElem? (i := 17) rfl)) (hw _ (List.mem_of_getElem? (i := 22) rfl)) (by decide) e1 pd_0 rfl rfl (by decide) (Nat.le_of_ble_eq_true rfl) (by decide) (by decide) (by rw [hml]; rfl)  rfl (hb hby d4_9) ?_
  intro T2 L2 v2 X2 hQ2
  obtain ⟨rfl, N2q, K2, V2_⟩ := hQ2
  have N2 := Fr.app N0 N2q
  show Go p e below (T2.setTop (mkF m 12 #[.val (.ref a1), .val (.int (0 : Int32)), .val (.int (2 : Int32)), .val (.ref b1), .unset, .unset] [(.int (2 : Int32))])) _
  refine Gk.istore X2 hx (hb hby d4_12) #[.val (.ref a1), .val (.int (0 : Int32)), .val (.int (2 : Int32)), .val (.ref b1), .val (.int (2 : Int32)), .unset] rfl ?_
  refine Gk.iload X2 hx (hb hby d4_14) rfl ?_
  refine Gk.iloadN X2 hx (hb hby d4_16) rfl ?_
  refine Gk.icmpYes X2 hx (hb hby d4_17) (teq (by decide : (2 : Int32) = (2 : Int32))).1 57 (by decide) (by decide) ?_
  refine Gk.aloadN X2 hx (hb hby d4_57) rfl rfl ?_
  refine Go.fin X2 (v := some (.ref b1)) (fun h_ => by rw [Bd.returns] at h_; cases h_) Bd.notSynchronized (fun _ hr => retOut X2 hx Bd.returns rfl (Or.inr (Or.inr (Or.inr (Or.inr ⟨rfl, rfl, rfl⟩)))) (hb hby d4_58) hr) (fun U' hU hF => ⟨_, _, rfl, ?_, hF.1, hF.2.1, hF.2.2.mono (by decide) (by decide)⟩)
  rw [hU]
  exact ⟨(congrArg (fun z_ : Addr => some (Value.ref z_)) (show b1 = h0.size from g1)), N2, (((Keep.refl h0 []).ext E1).trans K2 (allS (Or.inr (Nat.le_trans (Nat.le_refl _) (Nat.le_of_eq g1.symm))) all0)), _, (g1 ▸ V2_)⟩
theorem d6_0 : decode jdk_52_method_15_code 0 = .ok (.iload_n 1, 1) := by decide +kernel
theorem d6_1 : decode jdk_52_method_15_code 1 = .ok (.aload_n 0, 1) := by decide +kernel
theorem d6_2 : decode jdk_52_method_15_code 2 = .ok (.arraylength, 1) := by decide +kernel
theorem d6_3 : decode jdk_52_method_15_code 3 = .ok (.isub, 1) := by decide +kernel
theorem d6_4 : decode jdk_52_method_15_code 4 = .ok (.bipush 31, 2) := by decide +kernel
theorem d6_6 : decode jdk_52_method_15_code 6 = .ok (.iushr, 1) := by decide +kernel
theorem d6_7 : decode jdk_52_method_15_code 7 = .ok (.i2b, 1) := by decide +kernel
theorem d6_8 : decode jdk_52_method_15_code 8 = .ok (.ireturn, 1) := by decide +kernel
theorem ef_cfl_2 (m : MethodId) (a1 : Addr) : entryFrame m #[(.ref a1), (.int (2 : Int32))] 2 = mkF m 0 #[.val (.ref a1), .val (.int (2 : Int32))] [] := by first | (simp [entryFrame, mkF, argsToLocals, Value.category]; done) | rfl
def Q_cfl_2 (Z : State) (a1 : Addr) (kb : ClassId) (fb : Nat → Value) (h0 : Heap) (n0 : Nat) (v : Option Value) (h : Heap) (L : List Loc) : Prop := v = some (.int (0 : Int32)) ∧ Fr n0 L ∧ h = h0
set_option maxRecDepth 65536 in
set_option maxHeartbeats 40000000 in
theorem cfl_2 (l : Launch) (Z : State) (a0 : Array Value) (hw : ∀ d ∈ tables_1, d.before a0 Z = true) (ws : List Jvm.Cond) (a1 : Addr) (kb : ClassId) (fb : Nat → Value) (h0 : Heap) (n0 : Nat) (Z0 : n0 ≤ h0.size) (V_b : Arf Z h0 a1 kb .byte (2 : Int32) fb) :
    MetFree l (⟨"java/lang/StringUTF16", "coderFromArrayLen", "([BI)B"⟩ : MethodName) (head1 (Jvm.Cond.code (⟨"java/lang/StringUTF16", "coderFromArrayLen", "([BI)B"⟩ : MethodName) jdk_52_method_15_code 2 (some .byte) :: ws) ({ frames := 0, cells := 0, slots := 0, locals := 0 } : Room)) (fun a U => a = #[(.ref a1), (.int (2 : Int32))] ∧ Z.Warmed39 U.vm ∧ U.heap = h0) (fun _ _ _ _ _ => True) (fun _ U o U' => ∃ v L, o = .returned v ∧ Q_cfl_2 Z a1 kb fb h0 n0 v U'.heap L ∧ FrameEnd U o U' L ({ frames := 0, cells := 0, slots := 0, locals := 0 } : Room).cells ({ frames := 0, cells := 0, slots := 0, locals := 0 } : Room).slots) := by
  refine MetFree.of_bodySF (plainFor_of_name pn_23) hisR ?_
  intro p e s m args below meth c s₁ Bd hml0 hP hK
  obtain ⟨rfl, hZ, hh⟩ := hP
  have hx := Bd.exec
  have hby := Bd.bytes
  have hml : c.maxLocals = 2 := hml0
  have hown : s.vm.findClass "java/lang/StringUTF16" = some m.cls := findClass_of_methodNamed Bd.named
  have hnm := (name_of_methodNamed Bd.named Bd.method).1
  have X0 : Stand p l e ({ frames := 0, cells := 0, slots := 0, locals := 0 } : Room) s m #[(.ref a1), (.int (2 : Int32))] below meth c s₁ [] 0 0 := Stand.of_body Bd
  have e0 : s₁.heap = h0 := by rw [← hh, Bd.state]; rfl
  have N0 := Fr.nil n0
  show Go p e below (s₁.setTop (entryFrame m #[(.ref a1), (.int (2 : Int32))] 2)) (fun o U' => ∃ v L, o = .returned v ∧ Q_cfl_2 Z a1 kb fb h0 n0 v U'.heap L ∧ FrameEnd s o U' L ({ frames := 0, cells := 0, slots := 0, locals := 0 } : Room).cells ({ frames := 0, cells := 0, slots := 0, locals := 0 } : Room).slots)
  rw [ef_cfl_2]
  refine Gk.iloadN X0 hx (hb hby d6_0) rfl ?_
  refine Gk.aloadN X0 hx (hb hby d6_1) rfl rfl ?_
  refine Gk.alen X0 hx hZ e0 V_b (hb hby d6_2) ?_
  refine Gk.isub X0 hx (hb hby d6_3) (0 : Int32) (by decide) ?_
  refine Gk.bipush X0 hx (hb hby d6_4) (31 : Int32) rfl ?_
  refine Gk.iushr X0 hx (hb hby d6_6) (0 : Int32) (by decide) ?_
  refine Gk.i2b X0 hx (hb hby d6_7) (0 : Int32) (by decide) ?_
  refine Go.fin X0 (v := some (.int (0 : Int32))) (fun h_ => by rw [Bd.returns] at h_; cases h_) Bd.notSynchronized (fun _ hr => retN X0 hx (t := .byte) Bd.returns (by simp) (hb hby d6_8) hr) (fun U' hU hF => ⟨_, _, rfl, ?_, hF.1, hF.2.1, hF.2.2.mono (by decide) (by decide)⟩)
  rw [hU, e0]
  exact ⟨(congrArg (fun z_ : Int32 => some (Value.int z_)) (show (0 : Int32) = (0 : Int32) from rfl)), N0, rfl⟩
theorem pd_1 : parseMethodDescriptor "([CII)[B" = some ⟨[(.array .char), .int, .int], some (.array .byte)⟩ := by decide +kernel
theorem pd_2 : parseMethodDescriptor "([BI)B" = some ⟨[(.array .byte), .int], some .byte⟩ := by decide +kernel
theorem d2_0 : decode jdk_42_method_149_code 0 = .ok (.aload_n 0, 1) := by decide +kernel
theorem d2_1 : decode jdk_42_method_149_code 1 = .ok (.invokespecial 1, 3) := by decide +kernel
theorem d2_4 : decode jdk_42_method_149_code 4 = .ok (.iload_n 3, 1) := by decide +kernel
theorem d2_5 : decode jdk_42_method_149_code 5 = .ok (.ifCond .ne 22, 3) := by decide +kernel
theorem d2_27 : decode jdk_42_method_149_code 27 = .ok (.getstatic 38, 3) := by decide +kernel
theorem d2_30 : decode jdk_42_method_149_code 30 = .ok (.ifCond .eq 28, 3) := by decide +kernel
theorem d2_33 : decode jdk_42_method_149_code 33 = .ok (.aload_n 1, 1) := by decide +kernel
theorem d2_34 : decode jdk_42_method_149_code 34 = .ok (.iload_n 2, 1) := by decide +kernel
theorem d2_35 : decode jdk_42_method_149_code 35 = .ok (.iload_n 3, 1) := by decide +kernel
theorem d2_36 : decode jdk_42_method_149_code 36 = .ok (.invokestatic 177, 3) := by decide +kernel
theorem d2_39 : decode jdk_42_method_149_code 39 = .ok (.astore 5, 2) := by decide +kernel
theorem d2_41 : decode jdk_42_method_149_code 41 = .ok (.aload_n 0, 1) := by decide +kernel
theorem d2_42 : decode jdk_42_method_149_code 42 = .ok (.aload 5, 2) := by decide +kernel
theorem d2_44 : decode jdk_42_method_149_code 44 = .ok (.iload_n 3, 1) := by decide +kernel
theorem d2_45 : decode jdk_42_method_149_code 45 = .ok (.invokestatic 47, 3) := by decide +kernel
theorem d2_48 : decode jdk_42_method_149_code 48 = .ok (.putfield 15, 3) := by decide +kernel
theorem d2_51 : decode jdk_42_method_149_code 51 = .ok (.aload_n 0, 1) := by decide +kernel
theorem d2_52 : decode jdk_42_method_149_code 52 = .ok (.aload 5, 2) := by decide +kernel
theorem d2_54 : decode jdk_42_method_149_code 54 = .ok (.putfield 9, 3) := by decide +kernel
theorem d2_57 : decode jdk_42_method_149_code 57 = .ok (.return_, 1) := by decide +kernel
theorem pn_67 : plainName "java/lang/String" = true := by first | (simp [plainName, overriddenIn]; done) | decide +kernel
theorem ef_in4_2 (m : MethodId) (a1 : Addr) (a2 : Addr) : entryFrame m #[(.ref a1), (.ref a2), (.int (0 : Int32)), (.int (2 : Int32)), .null] 6 = mkF m 0 #[.val (.ref a1), .val (.ref a2), .val (.int (0 : Int32)), .val (.int (2 : Int32)), .val .null, .unset] [] := by first | (simp [entryFrame, mkF, argsToLocals, Value.category]; done) | rfl
def Q_in4_2 (Z : State) (a1 : Addr) (a2 : Addr) (kc : ClassId) (f : Nat → Value) (c0 : Int32) (c1 : Int32) (u_coder_a1 : Value) (u_value_a1 : Value) (w_COMPACT_STRINGS : Int32) (h0 : Heap) (n0 : Nat) (v : Option Value) (h : Heap) (L : List Loc) : Prop := v = none ∧ Fr n0 L ∧ Keep h0 h [a1] ∧ Fld Z h a1 "java/lang/String" "coder" "B" (.int (0 : Int32)) ∧ ∃ (b : Addr) (kb : ClassId), h0.size ≤ b ∧ Fld Z h a1 "java/lang/String" "value" "[B" (.ref b) ∧ Arf Z h b kb .byte (2 : Int32) (upd (upd (fun _ => (.int (0 : Int32))) 0 (.int (c0.toInt8.toInt32))) 1 (.int (c1.toInt8.toInt32)))
set_option maxRecDepth 65536 in
set_option maxHeartbeats 40000000 in
theorem in4_2 (l : Launch) (Z : State) (a0 : Array Value) (hw : ∀ d ∈ tables_1, d.before a0 Z = true) (ws : List Jvm.Cond) (a1 : Addr) (a2 : Addr) (kc : ClassId) (f : Nat → Value) (c0 : Int32) (c1 : Int32) (u_coder_a1 : Value) (u_value_a1 : Value) (w_COMPACT_STRINGS : Int32) (h0 : Heap) (n0 : Nat) (Z0 : n0 ≤ h0.size) (S_COMPACT_STRINGS : Stx Z n0 h0 "java/lang/String" "COMPACT_STRINGS" "Z" (.int w_COMPACT_STRINGS)) (E_a1 : Exa Z h0 a1 "java/lang/String") (V_a : Arf Z h0 a2 kc .char (2 : Int32) f) (hf0 : f 0 = (.int c0)) (hf1 : f 1 = (.int c1)) (hc0 : ¬ ((255 : Int32) < c0)) (hc1 : ¬ ((255 : Int32) < c1)) (hcs : ¬ (w_COMPACT_STRINGS = (0 : Int32))) (F_coder_a1 : Fld Z h0 a1 "java/lang/String" "coder" "B" u_coder_a1) (g_a1 : n0 ≤ a1) (F_value_a1 : Fld Z h0 a1 "java/lang/String" "value" "[B" u_value_a1) :
    MetFree l (⟨"java/lang/String", "<init>", "([CIILjava/lang/Void;)V"⟩ : MethodName) (head1 (Jvm.Cond.code (⟨"java/lang/String", "<init>", "([CIILjava/lang/Void;)V"⟩ : MethodName) jdk_42_method_149_code 6 none :: ws) ({ frames := 2, cells := 1, slots := 2, locals := 35 } : Room)) (fun a U => a = #[(.ref a1), (.ref a2), (.int (0 : Int32)), (.int (2 : Int32)), .null] ∧ Z.Warmed39 U.vm ∧ U.heap = h0) (fun _ _ _ _ _ => True) (fun _ U o U' => ∃ v L, o = .returned v ∧ Q_in4_2 Z a1 a2 kc f c0 c1 u_coder_a1 u_value_a1 w_COMPACT_STRINGS h0 n0 v U'.heap L ∧ FrameEnd U o U' L ({ frames := 2, cells := 1, slots := 2, locals := 35 } : Room).cells ({ frames := 2, cells := 1, slots := 2, locals := 35 } : Room).slots) := by
  refine MetFree.of_bodySF (plainFor_of_name pn_67) hisR ?_
  intro p e s m args below meth c s₁ Bd hml0 hP hK
  obtain ⟨rfl, hZ, hh⟩ := hP
  have hx := Bd.exec
  have hby := Bd.bytes
  have hml : c.maxLocals = 6 := hml0
  have hown : s.vm.findClass "java/lang/String" = some m.cls := findClass_of_methodNamed Bd.named
  have hnm := (name_of_methodNamed Bd.named Bd.method).1
  have X0 : Stand p l e ({ frames := 2, cells := 1, slots := 2, locals := 35 } : Room) s m #[(.ref a1), (.ref a2), (.int (0 : Int32)), (.int (2 : Int32)), .null] below meth c s₁ [] 0 0 := Stand.of_body Bd
  have e0 : s₁.heap = h0 := by rw [← hh, Bd.state]; rfl
  have N0 := Fr.nil n0
  show Go p e below (s₁.setTop (entryFrame m #[(.ref a1), (.ref a2), (.int (0 : Int32)), (.int (2 : Int32)), .null] 6)) (fun o U' => ∃ v L, o = .returned v ∧ Q_in4_2 Z a1 a2 kc f c0 c1 u_coder_a1 u_value_a1 w_COMPACT_STRINGS h0 n0 v U'.heap L ∧ FrameEnd s o U' L ({ frames := 2, cells := 1, slots := 2, locals := 35 } : Room).cells ({ frames := 2, cells := 1, slots := 2, locals := 35 } : Room).slots)
  rw [ef_in4_2]
  refine Gk.aloadN X0 hx (hb hby d2_0) rfl rfl ?_
  refine Gk.initO X0 hx hZ hown (hw _ (List.mem_of_getElem? (i := 11) rfl)) (hw _ (List.mem_of_getElem? (i := 12) rfl)) (hw _ (List.mem_of_getElem? (i := 13) rfl)) e0 (by rw [hml]; rfl) (hb hby d2_1) (by decide) (Nat.le_of_ble_eq_true rfl) ?_
  intro T1 X1 e1
  refine Gk.iloadN X1 hx (hb hby d2_4) rfl ?_
  refine Gk.ifYes X1 hx (hb hby d2_5) (feq (by decide : ¬ ((2 : Int32) = (0 : Int32)))).2 27 (by decide) (by decide) ?_
  refine Gk.getS X1 hx hZ hown (host := "") (Or.inl (hw _ (List.mem_of_getElem? (i := 14) rfl))) Via.refl e1 S_COMPACT_STRINGS.sta (hb hby d2_27) ?_
  intro T2 X2 e2
  have hc30 : ¬ (w_COMPACT_STRINGS = (0 : Int32)) := hcs
  refine Gk.ifNo X2 hx (hb hby d2_30) (feq hc30).1 ?_
  refine Gk.aloadN X2 hx (hb hby d2_33) rfl rfl ?_
  refine Gk.iloadN X2 hx (hb hby d2_34) rfl ?_
  refine Gk.iloadN X2 hx (hb hby d2_35) rfl ?_
  refine Gk.callS (argsL := [(.ref a2), (.int (0 : Int32)), (.int (2 : Int32))]) X2 hx hZ hown (cp1_2 l Z a0 hw [] a2 kc f c0 c1 h0 n0 Z0 V_a hf0 hf1 hc0 hc1) (hw _ (List.mem_of_getElem? (i := 15) rfl)) (hw _ (List.mem_of_getElem? (i := 16) rfl)) (hw _ (List.mem_of_getElem? (i := 17) rfl)) (hw _ (List.mem_of_getElem? (i := 18) rfl)) (by decide) e2 pd_1 rfl rfl (by decide) (Nat.le_of_ble_eq_true rfl) (by decide) (by decide) (by rw [hml]; rfl)  rfl (hb hby d2_36) ?_
  intro T3 L3 v3 X3 hQ3
  obtain ⟨rfl, N3q, K3, k3, A3⟩ := hQ3
  have N3 := Fr.app N0 N3q
  obtain ⟨b3, g3⟩ : ∃ z_, z_ = h0.size := ⟨_, rfl⟩
  rw [← g3] at A3 ⊢
  have g_b3 : n0 ≤ b3 := Nat.le_trans Z0 (Nat.le_of_eq g3.symm)
  have lt_b3 := A3.lt
  show Go p e below (T3.setTop (mkF m 39 #[.val (.ref a1), .val (.ref a2), .val (.int (0 : Int32)), .val (.int (2 : Int32)), .val .null, .unset] [(.ref b3)])) _
  refine Gk.astore X3 hx (hb hby d2_39) rfl #[.val (.ref a1), .val (.ref a2), .val (.int (0 : Int32)), .val (.int (2 : Int32)), .val .null, .val (.ref b3)] rfl ?_
  refine Gk.aloadN X3 hx (hb hby d2_41) rfl rfl ?_
  refine Gk.aload X3 hx (hb hby d2_42) rfl rfl ?_
  refine Gk.iloadN X3 hx (hb hby d2_44) rfl ?_
  refine Gk.callS (argsL := [(.ref b3), (.int (2 : Int32))]) X3 hx hZ hown (cfl_2 l Z a0 hw [] b3 k3 (upd (upd (fun _ => (.int (0 : Int32))) 0 (.int (c0.toInt8.toInt32))) 1 (.int (c1.toInt8.toInt32))) T3.heap n0 (Nat.le_trans Z0 K3.1) A3) (hw _ (List.mem_of_getElem? (i := 23) rfl)) (hw _ (List.mem_of_getElem? (i := 24) rfl)) (hw _ (List.mem_of_getElem? (i := 17) rfl)) (hw _ (List.mem_of_getElem? (i := 25) rfl)) (by decide) rfl pd_2 rfl rfl (by decide) (Nat.le_of_ble_eq_true rfl) (by decide) (by decide) (by rw [hml]; rfl)  rfl (hb hby d2_45) ?_
  intro T4 L4 v4 X4 hQ4
  obtain ⟨rfl, N4q, e4⟩ := hQ4
  have N4 := Fr.app N3 N4q
  show Go p e below (T4.setTop (mkF m 48 #[.val (.ref a1), .val (.ref a2), .val (.int (0 : Int32)), .val (.int (2 : Int32)), .val .null, .val (.ref b3)] [(.int (0 : Int32)), (.ref a1)])) _
  have H5 := (E_a1.keep K3)
  have H6 := (F_coder_a1.keep K3 nin0)
  refine Gk.putFN X4 hx hZ hown (hw _ (List.mem_of_getElem? (i := 26) rfl)) Via.refl e4 H6 H5 (Or.inr ⟨(hw _ (List.mem_of_getElem? (i := 27) rfl)), rfl, hnm⟩) (hw _ (List.mem_of_getElem? (i := 2) rfl)) (ty := .byte) (v' := (.int (0 : Int32))) (by decide) rfl rfl (hb hby d2_48) ?_
  intro T7 h7 X7 e7 W7
  have Fw7 := H6.same W7
  have N7 := Fr.snoc X7 N4 g_a1
  refine Gk.aloadN X7 hx (hb hby d2_51) rfl rfl ?_
  refine Gk.aload X7 hx (hb hby d2_52) rfl rfl ?_
  have H8 := (H5.wr W7)
  have H9 := ((F_value_a1.keep K3 nin0).other W7 (Or.inr (slot_ne (Or.inr (hw _ (List.mem_of_getElem? (i := 29) rfl))) (Or.inr (hw _ (List.mem_of_getElem? (i := 27) rfl))) (by decide) (t := (.array .byte)) (t' := .byte) (by decide) (by decide))))
  refine Gk.putF X7 hx hZ hown (host := "") (Or.inl (hw _ (List.mem_of_getElem? (i := 28) rfl))) Via.refl e7 H9 H8 (Or.inr ⟨(hw _ (List.mem_of_getElem? (i := 29) rfl)), rfl, hnm⟩) (hw _ (List.mem_of_getElem? (i := 2) rfl)) (ty := (.array .byte)) (by decide) rfl rfl (hb hby d2_54) ?_
  intro T10 h10 X10 e10 W10
  have Fw10 := H9.same W10
  have N10 := Fr.snoc X10 N7 g_a1
  have H11 := (Fw7.other W10 (Or.inr (slot_ne (Or.inr (hw _ (List.mem_of_getElem? (i := 27) rfl))) (Or.inr (hw _ (List.mem_of_getElem? (i := 29) rfl))) (by decide) (t := .byte) (t' := (.array .byte)) (by decide) (by decide))))
  have ne12 : b3 ≠ a1 := (Nat.ne_of_gt (Nat.lt_of_lt_of_le E_a1.lt (Nat.le_trans (Nat.le_refl _) (Nat.le_of_eq g3.symm))))
  have H13 := ((A3.other W7 ne12).other W10 ne12)
  refine Go.fin X10 (v := none) (fun _ => rfl) Bd.notSynchronized (fun _ hr => X10.returnOut hx Bd.returns (hb hby d2_57) hr) (fun U' hU hF => ⟨_, _, rfl, ?_, hF.1, hF.2.1, hF.2.2.mono (by decide) (by decide)⟩)
  rw [hU, e10]
  exact ⟨rfl, N10, ((((Keep.refl h0 [a1]).trans K3 all0).wr W7 (Or.inl (List.mem_of_getElem? (i := 0) rfl))).wr W10 (Or.inl (List.mem_of_getElem? (i := 0) rfl))), H11, b3, _, (Nat.le_trans (Nat.le_refl _) (Nat.le_of_eq g3.symm)), Fw10, H13⟩
theorem pd_3 : parseMethodDescriptor "([CIILjava/lang/Void;)V" = some ⟨[(.array .char), .int, .int, (.object "java/lang/Void")], none⟩ := by decide +kernel
theorem d1_0 : decode jdk_42_method_3_code 0 = .ok (.aload_n 0, 1) := by decide +kernel
theorem d1_1 : decode jdk_42_method_3_code 1 = .ok (.aload_n 1, 1) := by decide +kernel
theorem d1_2 : decode jdk_42_method_3_code 2 = .ok (.iconst 0, 1) := by decide +kernel
theorem d1_3 : decode jdk_42_method_3_code 3 = .ok (.aload_n 1, 1) := by decide +kernel
theorem d1_4 : decode jdk_42_method_3_code 4 = .ok (.arraylength, 1) := by decide +kernel
theorem d1_5 : decode jdk_42_method_3_code 5 = .ok (.aconst_null, 1) := by decide +kernel
theorem d1_6 : decode jdk_42_method_3_code 6 = .ok (.invokespecial 27, 3) := by decide +kernel
theorem d1_9 : decode jdk_42_method_3_code 9 = .ok (.return_, 1) := by decide +kernel
theorem ef_str_2 (m : MethodId) (a1 : Addr) (a2 : Addr) : entryFrame m #[(.ref a1), (.ref a2)] 2 = mkF m 0 #[.val (.ref a1), .val (.ref a2)] [] := by first | (simp [entryFrame, mkF, argsToLocals, Value.category]; done) | rfl
def Q_str_2 (Z : State) (a1 : Addr) (a2 : Addr) (kc : ClassId) (f : Nat → Value) (c0 : Int32) (c1 : Int32) (u_coder_a1 : Value) (u_value_a1 : Value) (w_COMPACT_STRINGS : Int32) (h0 : Heap) (n0 : Nat) (v : Option Value) (h : Heap) (L : List Loc) : Prop := v = none ∧ Fr n0 L ∧ Keep h0 h [a1] ∧ Fld Z h a1 "java/lang/String" "coder" "B" (.int (0 : Int32)) ∧ ∃ (b : Addr) (kb : ClassId), h0.size ≤ b ∧ Fld Z h a1 "java/lang/String" "value" "[B" (.ref b) ∧ Arf Z h b kb .byte (2 : Int32) (upd (upd (fun _ => (.int (0 : Int32))) 0 (.int (c0.toInt8.toInt32))) 1 (.int (c1.toInt8.toInt32)))
set_option maxRecDepth 65536 in
set_option maxHeartbeats 40000000 in
theorem str_2 (l : Launch) (Z : State) (a0 : Array Value) (hw : ∀ d ∈ tables_1, d.before a0 Z = true) (ws : List Jvm.Cond) (a1 : Addr) (a2 : Addr) (kc : ClassId) (f : Nat → Value) (c0 : Int32) (c1 : Int32) (u_coder_a1 : Value) (u_value_a1 : Value) (w_COMPACT_STRINGS : Int32) (h0 : Heap) (n0 : Nat) (Z0 : n0 ≤ h0.size) (S_COMPACT_STRINGS : Stx Z n0 h0 "java/lang/String" "COMPACT_STRINGS" "Z" (.int w_COMPACT_STRINGS)) (E_a1 : Exa Z h0 a1 "java/lang/String") (V_a : Arf Z h0 a2 kc .char (2 : Int32) f) (hf0 : f 0 = (.int c0)) (hf1 : f 1 = (.int c1)) (hc0 : ¬ ((255 : Int32) < c0)) (hc1 : ¬ ((255 : Int32) < c1)) (hcs : ¬ (w_COMPACT_STRINGS = (0 : Int32))) (F_coder_a1 : Fld Z h0 a1 "java/lang/String" "coder" "B" u_coder_a1) (g_a1 : n0 ≤ a1) (F_value_a1 : Fld Z h0 a1 "java/lang/String" "value" "[B" u_value_a1) :
    MetFree l (⟨"java/lang/String", "<init>", "([C)V"⟩ : MethodName) (head1 (Jvm.Cond.code (⟨"java/lang/String", "<init>", "([C)V"⟩ : MethodName) jdk_42_method_3_code 2 none :: ws) ({ frames := 3, cells := 1, slots := 2, locals := 52 } : Room)) (fun a U => a = #[(.ref a1), (.ref a2)] ∧ Z.Warmed39 U.vm ∧ U.heap = h0) (fun _ _ _ _ _ => True) (fun _ U o U' => ∃ v L, o = .returned v ∧ Q_str_2 Z a1 a2 kc f c0 c1 u_coder_a1 u_value_a1 w_COMPACT_STRINGS h0 n0 v U'.heap L ∧ FrameEnd U o U' L ({ frames := 3, cells := 1, slots := 2, locals := 52 } : Room).cells ({ frames := 3, cells := 1, slots := 2, locals := 52 } : Room).slots) := by
  refine MetFree.of_bodySF (plainFor_of_name pn_67) hisR ?_
  intro p e s m args below meth c s₁ Bd hml0 hP hK
  obtain ⟨rfl, hZ, hh⟩ := hP
  have hx := Bd.exec
  have hby := Bd.bytes
  have hml : c.maxLocals = 2 := hml0
  have hown : s.vm.findClass "java/lang/String" = some m.cls := findClass_of_methodNamed Bd.named
  have hnm := (name_of_methodNamed Bd.named Bd.method).1
  have X0 : Stand p l e ({ frames := 3, cells := 1, slots := 2, locals := 52 } : Room) s m #[(.ref a1), (.ref a2)] below meth c s₁ [] 0 0 := Stand.of_body Bd
  have e0 : s₁.heap = h0 := by rw [← hh, Bd.state]; rfl
  have N0 := Fr.nil n0
  show Go p e below (s₁.setTop (entryFrame m #[(.ref a1), (.ref a2)] 2)) (fun o U' => ∃ v L, o = .returned v ∧ Q_str_2 Z a1 a2 kc f c0 c1 u_coder_a1 u_value_a1 w_COMPACT_STRINGS h0 n0 v U'.heap L ∧ FrameEnd s o U' L ({ frames := 3, cells := 1, slots := 2, locals := 52 } : Room).cells ({ frames := 3, cells := 1, slots := 2, locals := 52 } : Room).slots)
  rw [ef_str_2]
  refine Gk.aloadN X0 hx (hb hby d1_0) rfl rfl ?_
  refine Gk.aloadN X0 hx (hb hby d1_1) rfl rfl ?_
  refine Gk.iconst X0 hx (hb hby d1_2) (0 : Int32) rfl ?_
  refine Gk.aloadN X0 hx (hb hby d1_3) rfl rfl ?_
  refine Gk.alen X0 hx hZ e0 V_a (hb hby d1_4) ?_
  refine Gk.aconstNull X0 hx (hb hby d1_5) ?_
  refine Gk.callI (argsL := [(.ref a2), (.int (0 : Int32)), (.int (2 : Int32)), .null]) X0 hx hZ hown (in4_2 l Z a0 hw [] a1 a2 kc f c0 c1 u_coder_a1 u_value_a1 w_COMPACT_STRINGS h0 n0 Z0 S_COMPACT_STRINGS E_a1 V_a hf0 hf1 hc0 hc1 hcs F_coder_a1 g_a1 F_value_a1) rfl (hw _ (List.mem_of_getElem? (i := 7) rfl)) (hw _ (List.mem_of_getElem? (i := 8) rfl)) (hw _ (List.mem_of_getElem? (i := 10) rfl)) rfl (by decide) (hw _ (List.mem_of_getElem? (i := 3) rfl)) e0 pd_3 rfl rfl (by decide) (Nat.le_of_ble_eq_true rfl) (by decide) (by decide) (by rw [hml]; rfl)  rfl (hb hby d1_6) ?_
  intro T1 L1 v1 X1 hQ1
  obtain ⟨rfl, N1q, K1, Fc1, x1, k1, le1, Fv1, V1⟩ := hQ1
  have N1 := Fr.app N0 N1q
  show Go p e below (T1.setTop (mkF m 9 #[.val (.ref a1), .val (.ref a2)] [])) _
  refine Go.fin X1 (v := none) (fun _ => rfl) Bd.notSynchronized (fun _ hr => X1.returnOut hx Bd.returns (hb hby d1_9) hr) (fun U' hU hF => ⟨_, _, rfl, ?_, hF.1, hF.2.1, hF.2.2.mono (by decide) (by decide)⟩)
  rw [hU]
  exact ⟨rfl, N1, ((Keep.refl h0 [a1]).trans K1 (allS (Or.inl (List.mem_of_getElem? (i := 0) rfl)) all0)), Fc1, x1, k1, le1, Fv1, V1⟩
theorem d7_0 : decode prog_26_method_14_code 0 = .ok (.iload_n 1, 1) := by decide +kernel
theorem d7_1 : decode prog_26_method_14_code 1 = .ok (.ifCond .lt 10, 3) := by decide +kernel
theorem d7_4 : decode prog_26_method_14_code 4 = .ok (.iload_n 1, 1) := by decide +kernel
theorem d7_5 : decode prog_26_method_14_code 5 = .ok (.sipush 255, 3) := by decide +kernel
theorem d7_8 : decode prog_26_method_14_code 8 = .ok (.if_icmp .le 18, 3) := by decide +kernel
theorem d7_26 : decode prog_26_method_14_code 26 = .ok (.return_, 1) := by decide +kernel
theorem pn_82 : plainName "com/example/inkwire/inkwire/habitat/QLinkFrame" = true := by first | (simp [plainName, overriddenIn]; done) | decide +kernel
theorem ef_rm7 (m : MethodId) (a1 : Addr) (p2 : Int32) : entryFrame m #[(.ref a1), (.int p2)] 2 = mkF m 0 #[.val (.ref a1), .val (.int p2)] [] := by first | (simp [entryFrame, mkF, argsToLocals, Value.category]; done) | rfl
def Q_rm7 (Z : State) (a1 : Addr) (p2 : Int32) (h0 : Heap) (n0 : Nat) (v : Option Value) (h : Heap) (L : List Loc) : Prop := v = none ∧ Fr n0 L ∧ h = h0
set_option maxRecDepth 65536 in
set_option maxHeartbeats 40000000 in
theorem rm7 (l : Launch) (Z : State) (a0 : Array Value) (hw : ∀ d ∈ tables_1, d.before a0 Z = true) (ws : List Jvm.Cond) (a1 : Addr) (p2 : Int32) (h0 : Heap) (n0 : Nat) (Z0 : n0 ≤ h0.size) (h0v : ¬ (p2 < (0 : Int32))) (h1v : ¬ ((255 : Int32) < p2)) :
    MetFree l (⟨"com/example/inkwire/inkwire/habitat/QLinkFrame", "requireByte", "(Ljava/lang/String;I)V"⟩ : MethodName) (head1 (Jvm.Cond.code (⟨"com/example/inkwire/inkwire/habitat/QLinkFrame", "requireByte", "(Ljava/lang/String;I)V"⟩ : MethodName) prog_26_method_14_code 2 none :: ws) ({ frames := 0, cells := 0, slots := 0, locals := 0 } : Room)) (fun a U => a = #[(.ref a1), (.int p2)] ∧ Z.Warmed39 U.vm ∧ U.heap = h0) (fun _ _ _ _ _ => True) (fun _ U o U' => ∃ v L, o = .returned v ∧ Q_rm7 Z a1 p2 h0 n0 v U'.heap L ∧ FrameEnd U o U' L ({ frames := 0, cells := 0, slots := 0, locals := 0 } : Room).cells ({ frames := 0, cells := 0, slots := 0, locals := 0 } : Room).slots) := by
  refine MetFree.of_bodySF (plainFor_of_name pn_82) hisR ?_
  intro p e s m args below meth c s₁ Bd hml0 hP hK
  obtain ⟨rfl, hZ, hh⟩ := hP
  have hx := Bd.exec
  have hby := Bd.bytes
  have hml : c.maxLocals = 2 := hml0
  have hown : s.vm.findClass "com/example/inkwire/inkwire/habitat/QLinkFrame" = some m.cls := findClass_of_methodNamed Bd.named
  have hnm := (name_of_methodNamed Bd.named Bd.method).1
  have X0 : Stand p l e ({ frames := 0, cells := 0, slots := 0, locals := 0 } : Room) s m #[(.ref a1), (.int p2)] below meth c s₁ [] 0 0 := Stand.of_body Bd
  have e0 : s₁.heap = h0 := by rw [← hh, Bd.state]; rfl
  have N0 := Fr.nil n0
  show Go p e below (s₁.setTop (entryFrame m #[(.ref a1), (.int p2)] 2)) (fun o U' => ∃ v L, o = .returned v ∧ Q_rm7 Z a1 p2 h0 n0 v U'.heap L ∧ FrameEnd s o U' L ({ frames := 0, cells := 0, slots := 0, locals := 0 } : Room).cells ({ frames := 0, cells := 0, slots := 0, locals := 0 } : Room).slots)
  rw [ef_rm7]
  refine Gk.iloadN X0 hx (hb hby d7_0) rfl ?_
  have hc1 : ¬ (p2 < (0 : Int32)) := h0v
  refine Gk.ifNo X0 hx (hb hby d7_1) (flt hc1).1 ?_
  refine Gk.iloadN X0 hx (hb hby d7_4) rfl ?_
  refine Gk.sipush X0 hx (hb hby d7_5) (255 : Int32) rfl ?_
  have hc8 : ¬ ((255 : Int32) < p2) := h1v
  refine Gk.icmpYes X0 hx (hb hby d7_8) (flt hc8).2.2.2 26 (by decide) (by decide) ?_
  refine Go.fin X0 (v := none) (fun _ => rfl) Bd.notSynchronized (fun _ hr => X0.returnOut hx Bd.returns (hb hby d7_26) hr) (fun U' hU hF => ⟨_, _, rfl, ?_, hF.1, hF.2.1, hF.2.2.mono (by decide) (by decide)⟩)
  rw [hU, e0]
  exact ⟨rfl, N0, rfl⟩
theorem d9_0 : decode jdk_43_method_3_code 0 = .ok (.iload_n 0, 1) := by decide +kernel
theorem d9_1 : decode jdk_43_method_3_code 1 = .ok (.sipush 255, 3) := by decide +kernel
theorem d9_4 : decode jdk_43_method_3_code 4 = .ok (.if_icmp .gt 7, 3) := by decide +kernel
theorem d9_7 : decode jdk_43_method_3_code 7 = .ok (.iconst 1, 1) := by decide +kernel
theorem d9_8 : decode jdk_43_method_3_code 8 = .ok (.goto 4, 3) := by decide +kernel
theorem d9_12 : decode jdk_43_method_3_code 12 = .ok (.ireturn, 1) := by decide +kernel
theorem pn_89 : plainName "java/lang/StringLatin1" = true := by first | (simp [plainName, overriddenIn]; done) | decide +kernel
theorem ef_rm9 (m : MethodId) (p1 : Int32) : entryFrame m #[(.int p1)] 1 = mkF m 0 #[.val (.int p1)] [] := by first | (simp [entryFrame, mkF, argsToLocals, Value.category]; done) | rfl
def Q_rm9 (Z : State) (p1 : Int32) (h0 : Heap) (n0 : Nat) (v : Option Value) (h : Heap) (L : List Loc) : Prop := v = some (.int (1 : Int32)) ∧ Fr n0 L ∧ h = h0
set_option maxRecDepth 65536 in
set_option maxHeartbeats 40000000 in
theorem rm9 (l : Launch) (Z : State) (a0 : Array Value) (hw : ∀ d ∈ tables_1, d.before a0 Z = true) (ws : List Jvm.Cond) (p1 : Int32) (h0 : Heap) (n0 : Nat) (Z0 : n0 ≤ h0.size) (h1v : ¬ ((255 : Int32) < p1)) :
    MetFree l (⟨"java/lang/StringLatin1", "canEncode", "(C)Z"⟩ : MethodName) (head1 (Jvm.Cond.code (⟨"java/lang/StringLatin1", "canEncode", "(C)Z"⟩ : MethodName) jdk_43_method_3_code 1 (some .boolean) :: ws) ({ frames := 0, cells := 0, slots := 0, locals := 0 } : Room)) (fun a U => a = #[(.int p1)] ∧ Z.Warmed39 U.vm ∧ U.heap = h0) (fun _ _ _ _ _ => True) (fun _ U o U' => ∃ v L, o = .returned v ∧ Q_rm9 Z p1 h0 n0 v U'.heap L ∧ FrameEnd U o U' L ({ frames := 0, cells := 0, slots := 0, locals := 0 } : Room).cells ({ frames := 0, cells := 0, slots := 0, locals := 0 } : Room).slots) := by
  refine MetFree.of_bodySF (plainFor_of_name pn_89) hisR ?_
  intro p e s m args below meth c s₁ Bd hml0 hP hK
  obtain ⟨rfl, hZ, hh⟩ := hP
  have hx := Bd.exec
  have hby := Bd.bytes
  have hml : c.maxLocals = 1 := hml0
  have hown : s.vm.findClass "java/lang/StringLatin1" = some m.cls := findClass_of_methodNamed Bd.named
  have hnm := (name_of_methodNamed Bd.named Bd.method).1
  have X0 : Stand p l e ({ frames := 0, cells := 0, slots := 0, locals := 0 } : Room) s m #[(.int p1)] below meth c s₁ [] 0 0 := Stand.of_body Bd
  have e0 : s₁.heap = h0 := by rw [← hh, Bd.state]; rfl
  have N0 := Fr.nil n0
  show Go p e below (s₁.setTop (entryFrame m #[(.int p1)] 1)) (fun o U' => ∃ v L, o = .returned v ∧ Q_rm9 Z p1 h0 n0 v U'.heap L ∧ FrameEnd s o U' L ({ frames := 0, cells := 0, slots := 0, locals := 0 } : Room).cells ({ frames := 0, cells := 0, slots := 0, locals := 0 } : Room).slots)
  rw [ef_rm9]
  refine Gk.iloadN X0 hx (hb hby d9_0) rfl ?_
  refine Gk.sipush X0 hx (hb hby d9_1) (255 : Int32) rfl ?_
  have hc4 : ¬ ((255 : Int32) < p1) := h1v
  refine Gk.icmpNo X0 hx (hb hby d9_4) (flt hc4).2.2.1 ?_
  refine Gk.iconst X0 hx (hb hby d9_7) (1 : Int32) rfl ?_
  refine Gk.goto X0 hx (hb hby d9_8) 12 (by decide) (by decide) ?_
  refine Go.fin X0 (v := some (.int (1 : Int32))) (fun h_ => by rw [Bd.returns] at h_; cases h_) Bd.notSynchronized (fun _ hr => retN X0 hx (t := .boolean) Bd.returns (by simp) (hb hby d9_12) hr) (fun U' hU hF => ⟨_, _, rfl, ?_, hF.1, hF.2.1, hF.2.2.mono (by decide) (by decide)⟩)
  rw [hU, e0]
  exact ⟨(congrArg (fun z_ : Int32 => some (Value.int z_)) (show (1 : Int32) = (1 : Int32) from rfl)), N0, rfl⟩
theorem d10_0 : decode jdk_43_method_46_code 0 = .ok (.iconst 1, 1) := by decide +kernel
theorem d10_1 : decode jdk_43_method_46_code 1 = .ok (.newarray .byte, 2) := by decide +kernel
theorem d10_3 : decode jdk_43_method_46_code 3 = .ok (.dup, 1) := by decide +kernel
theorem d10_4 : decode jdk_43_method_46_code 4 = .ok (.iconst 0, 1) := by decide +kernel
theorem d10_5 : decode jdk_43_method_46_code 5 = .ok (.iload_n 0, 1) := by decide +kernel
theorem d10_6 : decode jdk_43_method_46_code 6 = .ok (.i2b, 1) := by decide +kernel
theorem d10_7 : decode jdk_43_method_46_code 7 = .ok (.bastore, 1) := by decide +kernel
theorem d10_8 : decode jdk_43_method_46_code 8 = .ok (.areturn, 1) := by decide +kernel
theorem ef_rm10 (m : MethodId) (p1 : Int32) : entryFrame m #[(.int p1)] 1 = mkF m 0 #[.val (.int p1)] [] := by first | (simp [entryFrame, mkF, argsToLocals, Value.category]; done) | rfl
def Q_rm10 (Z : State) (p1 : Int32) (h0 : Heap) (n0 : Nat) (v : Option Value) (h : Heap) (L : List Loc) : Prop := v = some (.ref h0.size) ∧ Fr n0 L ∧ Keep h0 h [] ∧ h0.size < h.size
set_option maxRecDepth 65536 in
set_option maxHeartbeats 40000000 in
theorem rm10 (l : Launch) (Z : State) (a0 : Array Value) (hw : ∀ d ∈ tables_1, d.before a0 Z = true) (ws : List Jvm.Cond) (p1 : Int32) (h0 : Heap) (n0 : Nat) (Z0 : n0 ≤ h0.size) :
    MetFree l (⟨"java/lang/StringLatin1", "toBytes", "(C)[B"⟩ : MethodName) (head1 (Jvm.Cond.code (⟨"java/lang/StringLatin1", "toBytes", "(C)[B"⟩ : MethodName) jdk_43_method_46_code 1 (some (.array .byte)) :: ws) ({ frames := 0, cells := 1, slots := 1, locals := 0 } : Room)) (fun a U => a = #[(.int p1)] ∧ Z.Warmed39 U.vm ∧ U.heap = h0) (fun _ _ _ _ _ => True) (fun _ U o U' => ∃ v L, o = .returned v ∧ Q_rm10 Z p1 h0 n0 v U'.heap L ∧ FrameEnd U o U' L ({ frames := 0, cells := 1, slots := 1, locals := 0 } : Room).cells ({ frames := 0, cells := 1, slots := 1, locals := 0 } : Room).slots) := by
  refine MetFree.of_bodySF (plainFor_of_name pn_89) hisR ?_
  intro p e s m args below meth c s₁ Bd hml0 hP hK
  obtain ⟨rfl, hZ, hh⟩ := hP
  have hx := Bd.exec
  have hby := Bd.bytes
  have hml : c.maxLocals = 1 := hml0
  have hown : s.vm.findClass "java/lang/StringLatin1" = some m.cls := findClass_of_methodNamed Bd.named
  have hnm := (name_of_methodNamed Bd.named Bd.method).1
  have X0 : Stand p l e ({ frames := 0, cells := 1, slots := 1, locals := 0 } : Room) s m #[(.int p1)] below meth c s₁ [] 0 0 := Stand.of_body Bd
  have e0 : s₁.heap = h0 := by rw [← hh, Bd.state]; rfl
  have N0 := Fr.nil n0
  show Go p e below (s₁.setTop (entryFrame m #[(.int p1)] 1)) (fun o U' => ∃ v L, o = .returned v ∧ Q_rm10 Z p1 h0 n0 v U'.heap L ∧ FrameEnd s o U' L ({ frames := 0, cells := 1, slots := 1, locals := 0 } : Room).cells ({ frames := 0, cells := 1, slots := 1, locals := 0 } : Room).slots)
  rw [ef_rm10]
  refine Gk.iconst X0 hx (hb hby d10_0) (1 : Int32) rfl ?_
  refine Gk.newP X0 hx hZ (hw _ (List.mem_of_getElem? (i := 19) rfl)) e0 (hb hby d10_1) (by decide) (cap := 1) (by decide) (by decide) (by decide) (by decide) rfl ?_
  intro T1 h1 b1 k1 X1 e1 E1 g1 A1 B1
  have g_b1 : n0 ≤ b1 := Nat.le_trans Z0 (Nat.le_of_eq g1.symm)
  have V_b1 : Arf Z h1 b1 k1 .byte (1 : Int32) (fun _ => (.int (0 : Int32))) := A1
  have lt_b1 := V_b1.lt
  refine Gk.dup X1 hx (hb hby d10_3) rfl ?_
  refine Gk.iconst X1 hx (hb hby d10_4) (0 : Int32) rfl ?_
  refine Gk.iloadN X1 hx (hb hby d10_5) rfl ?_
  refine Gk.i2b X1 hx (hb hby d10_6) _ rfl ?_
  refine Gk.bastoreB X1 hx hZ e1 V_b1 0 rfl ⟨by decide, by decide⟩ (.int (p1.toInt8.toInt32)) (congrArg Value.int (own_nb _)) (hb hby d10_7) ?_
  intro T2 h2 X2 e2 W2 V2
  have N2 := Fr.snoc X2 N0 g_b1
  refine Go.fin X2 (v := some (.ref b1)) (fun h_ => by rw [Bd.returns] at h_; cases h_) Bd.notSynchronized (fun _ hr => retOut X2 hx Bd.returns rfl (Or.inr (Or.inr (Or.inr (Or.inr ⟨rfl, rfl, rfl⟩)))) (hb hby d10_8) hr) (fun U' hU hF => ⟨_, _, rfl, ?_, hF.1, hF.2.1, hF.2.2.mono (by decide) (by decide)⟩)
  rw [hU, e2]
  exact ⟨(congrArg (fun z_ : Addr => some (Value.ref z_)) (show b1 = h0.size from g1)), N2, (((Keep.refl h0 []).ext E1).wr W2 (Or.inr (Nat.le_trans (Nat.le_refl _) (Nat.le_of_eq g1.symm)))), (g1 ▸ (V2).lt)⟩
theorem d11_0 : decode jdk_42_method_151_code 0 = .ok (.aload_n 0, 1) := by decide +kernel
theorem d11_1 : decode jdk_42_method_151_code 1 = .ok (.invokespecial 1, 3) := by decide +kernel
theorem d11_4 : decode jdk_42_method_151_code 4 = .ok (.aload_n 0, 1) := by decide +kernel
theorem d11_5 : decode jdk_42_method_151_code 5 = .ok (.aload_n 1, 1) := by decide +kernel
theorem d11_6 : decode jdk_42_method_151_code 6 = .ok (.putfield 9, 3) := by decide +kernel
theorem d11_9 : decode jdk_42_method_151_code 9 = .ok (.aload_n 0, 1) := by decide +kernel
theorem d11_10 : decode jdk_42_method_151_code 10 = .ok (.iload_n 2, 1) := by decide +kernel
theorem d11_11 : decode jdk_42_method_151_code 11 = .ok (.putfield 15, 3) := by decide +kernel
theorem d11_14 : decode jdk_42_method_151_code 14 = .ok (.return_, 1) := by decide +kernel
theorem ef_rm11 (m : MethodId) (a1 : Addr) (a2 : Addr) : entryFrame m #[(.ref a1), (.ref a2), (.int (0 : Int32))] 3 = mkF m 0 #[.val (.ref a1), .val (.ref a2), .val (.int (0 : Int32))] [] := by first | (simp [entryFrame, mkF, argsToLocals, Value.category]; done) | rfl
def Q_rm11 (Z : State) (a1 : Addr) (a2 : Addr) (u_value_a1 : Value) (u_coder_a1 : Value) (h0 : Heap) (n0 : Nat) (v : Option Value) (h : Heap) (L : List Loc) : Prop := v = none ∧ Fr n0 L ∧ Keep h0 h [a1]
set_option maxRecDepth 65536 in
set_option maxHeartbeats 40000000 in
theorem rm11 (l : Launch) (Z : State) (a0 : Array Value) (hw : ∀ d ∈ tables_1, d.before a0 Z = true) (ws : List Jvm.Cond) (a1 : Addr) (a2 : Addr) (u_value_a1 : Value) (u_coder_a1 : Value) (h0 : Heap) (n0 : Nat) (Z0 : n0 ≤ h0.size) (E_a1 : Exa Z h0 a1 "java/lang/String") (F_value_a1 : Fld Z h0 a1 "java/lang/String" "value" "[B" u_value_a1) (g_a1 : n0 ≤ a1) (F_coder_a1 : Fld Z h0 a1 "java/lang/String" "coder" "B" u_coder_a1) :
    MetFree l (⟨"java/lang/String", "<init>", "([BB)V"⟩ : MethodName) (head1 (Jvm.Cond.code (⟨"java/lang/String", "<init>", "([BB)V"⟩ : MethodName) jdk_42_method_151_code 3 none :: ws) ({ frames := 1, cells := 0, slots := 0, locals := 12 } : Room)) (fun a U => a = #[(.ref a1), (.ref a2), (.int (0 : Int32))] ∧ Z.Warmed39 U.vm ∧ U.heap = h0) (fun _ _ _ _ _ => True) (fun _ U o U' => ∃ v L, o = .returned v ∧ Q_rm11 Z a1 a2 u_value_a1 u_coder_a1 h0 n0 v U'.heap L ∧ FrameEnd U o U' L ({ frames := 1, cells := 0, slots := 0, locals := 12 } : Room).cells ({ frames := 1, cells := 0, slots := 0, locals := 12 } : Room).slots) := by
  refine MetFree.of_bodySF (plainFor_of_name pn_67) hisR ?_
  intro p e s m args below meth c s₁ Bd hml0 hP hK
  obtain ⟨rfl, hZ, hh⟩ := hP
  have hx := Bd.exec
  have hby := Bd.bytes
  have hml : c.maxLocals = 3 := hml0
  have hown : s.vm.findClass "java/lang/String" = some m.cls := findClass_of_methodNamed Bd.named
  have hnm := (name_of_methodNamed Bd.named Bd.method).1
  have X0 : Stand p l e ({ frames := 1, cells := 0, slots := 0, locals := 12 } : Room) s m #[(.ref a1), (.ref a2), (.int (0 : Int32))] below meth c s₁ [] 0 0 := Stand.of_body Bd
  have e0 : s₁.heap = h0 := by rw [← hh, Bd.state]; rfl
  have N0 := Fr.nil n0
  show Go p e below (s₁.setTop (entryFrame m #[(.ref a1), (.ref a2), (.int (0 : Int32))] 3)) (fun o U' => ∃ v L, o = .returned v ∧ Q_rm11 Z a1 a2 u_value_a1 u_coder_a1 h0 n0 v U'.heap L ∧ FrameEnd s o U' L ({ frames := 1, cells := 0, slots := 0, locals := 12 } : Room).cells ({ frames := 1, cells := 0, slots := 0, locals := 12 } : Room).slots)
  rw [ef_rm11]
  refine Gk.aloadN X0 hx (hb hby d11_0) rfl rfl ?_
  refine Gk.initO X0 hx hZ hown (hw _ (List.mem_of_getElem? (i := 11) rfl)) (hw _ (List.mem_of_getElem? (i := 12) rfl)) (hw _ (List.mem_of_getElem? (i := 13) rfl)) e0 (by rw [hml]; rfl) (hb hby d11_1) (by decide) (Nat.le_of_ble_eq_true rfl) ?_
  intro T1 X1 e1
  refine Gk.aloadN X1 hx (hb hby d11_4) rfl rfl ?_
  refine Gk.aloadN X1 hx (hb hby d11_5) rfl rfl ?_
  refine Gk.putF X1 hx hZ hown (host := "") (Or.inl (hw _ (List.mem_of_getElem? (i := 28) rfl))) Via.refl e1 F_value_a1 E_a1 (Or.inr ⟨(hw _ (List.mem_of_getElem? (i := 29) rfl)), rfl, hnm⟩) (hw _ (List.mem_of_getElem? (i := 2) rfl)) (ty := (.array .byte)) (by decide) rfl rfl (hb hby d11_6) ?_
  intro T2 h2 X2 e2 W2
  have Fw2 := F_value_a1.same W2
  have N2 := Fr.snoc X2 N0 g_a1
  refine Gk.aloadN X2 hx (hb hby d11_9) rfl rfl ?_
  refine Gk.iloadN X2 hx (hb hby d11_10) rfl ?_
  have H3 := (E_a1.wr W2)
  have H4 := (F_coder_a1.other W2 (Or.inr (slot_ne (Or.inr (hw _ (List.mem_of_getElem? (i := 27) rfl))) (Or.inr (hw _ (List.mem_of_getElem? (i := 29) rfl))) (by decide) (t := .byte) (t' := (.array .byte)) (by decide) (by decide))))
  refine Gk.putFN X2 hx hZ hown (hw _ (List.mem_of_getElem? (i := 26) rfl)) Via.refl e2 H4 H3 (Or.inr ⟨(hw _ (List.mem_of_getElem? (i := 27) rfl)), rfl, hnm⟩) (hw _ (List.mem_of_getElem? (i := 2) rfl)) (ty := .byte) (v' := (.int (0 : Int32))) (by decide) rfl rfl (hb hby d11_11) ?_
  intro T5 h5 X5 e5 W5
  have Fw5 := H4.same W5
  have N5 := Fr.snoc X5 N2 g_a1
  refine Go.fin X5 (v := none) (fun _ => rfl) Bd.notSynchronized (fun _ hr => X5.returnOut hx Bd.returns (hb hby d11_14) hr) (fun U' hU hF => ⟨_, _, rfl, ?_, hF.1, hF.2.1, hF.2.2.mono (by decide) (by decide)⟩)
  rw [hU, e5]
  exact ⟨rfl, N5, (((Keep.refl h0 [a1]).wr W2 (Or.inl (List.mem_of_getElem? (i := 0) rfl))).wr W5 (Or.inl (List.mem_of_getElem? (i := 0) rfl)))⟩
theorem pd_4 : parseMethodDescriptor "(C)Z" = some ⟨[.char], some .boolean⟩ := by decide +kernel
theorem pd_5 : parseMethodDescriptor "(C)[B" = some ⟨[.char], some (.array .byte)⟩ := by decide +kernel
theorem pd_6 : parseMethodDescriptor "([BB)V" = some ⟨[(.array .byte), .byte], none⟩ := by decide +kernel
theorem d8_0 : decode jdk_42_method_139_code 0 = .ok (.getstatic 38, 3) := by decide +kernel
theorem d8_3 : decode jdk_42_method_139_code 3 = .ok (.ifCond .eq 23, 3) := by decide +kernel
theorem d8_6 : decode jdk_42_method_139_code 6 = .ok (.iload_n 0, 1) := by decide +kernel
theorem d8_7 : decode jdk_42_method_139_code 7 = .ok (.invokestatic 1015, 3) := by decide +kernel
theorem d8_10 : decode jdk_42_method_139_code 10 = .ok (.ifCond .eq 16, 3) := by decide +kernel
theorem d8_13 : decode jdk_42_method_139_code 13 = .ok (.new 10, 3) := by decide +kernel
theorem d8_16 : decode jdk_42_method_139_code 16 = .ok (.dup, 1) := by decide +kernel
theorem d8_17 : decode jdk_42_method_139_code 17 = .ok (.iload_n 0, 1) := by decide +kernel
theorem d8_18 : decode jdk_42_method_139_code 18 = .ok (.invokestatic 1018, 3) := by decide +kernel
theorem d8_21 : decode jdk_42_method_139_code 21 = .ok (.iconst 0, 1) := by decide +kernel
theorem d8_22 : decode jdk_42_method_139_code 22 = .ok (.invokespecial 209, 3) := by decide +kernel
theorem d8_25 : decode jdk_42_method_139_code 25 = .ok (.areturn, 1) := by decide +kernel
theorem ef_rm8 (m : MethodId) (p1 : Int32) : entryFrame m #[(.int p1)] 1 = mkF m 0 #[.val (.int p1)] [] := by first | (simp [entryFrame, mkF, argsToLocals, Value.category]; done) | rfl
def Q_rm8 (Z : State) (p1 : Int32) (w_COMPACT_STRINGS : Int32) (h0 : Heap) (n0 : Nat) (v : Option Value) (h : Heap) (L : List Loc) : Prop := v = some (.ref h0.size) ∧ Fr n0 L ∧ Keep h0 h []
set_option maxRecDepth 65536 in
set_option maxHeartbeats 40000000 in
theorem rm8 (l : Launch) (Z : State) (a0 : Array Value) (hw : ∀ d ∈ tables_1, d.before a0 Z = true) (ws : List Jvm.Cond) (p1 : Int32) (w_COMPACT_STRINGS : Int32) (h0 : Heap) (n0 : Nat) (Z0 : n0 ≤ h0.size) (S_COMPACT_STRINGS : Stx Z n0 h0 "java/lang/String" "COMPACT_STRINGS" "Z" (.int w_COMPACT_STRINGS)) (h1v : ¬ ((255 : Int32) < p1)) (hcs : ¬ (w_COMPACT_STRINGS = (0 : Int32))) :
    MetFree l (⟨"java/lang/String", "valueOf", "(C)Ljava/lang/String;"⟩ : MethodName) (head1 (Jvm.Cond.code (⟨"java/lang/String", "valueOf", "(C)Ljava/lang/String;"⟩ : MethodName) jdk_42_method_139_code 1 (some (.object "java/lang/String")) :: ws) ({ frames := 2, cells := 2, slots := 5, locals := 27 } : Room)) (fun a U => a = #[(.int p1)] ∧ Z.Warmed39 U.vm ∧ U.heap = h0) (fun _ _ _ _ _ => True) (fun _ U o U' => ∃ v L, o = .returned v ∧ Q_rm8 Z p1 w_COMPACT_STRINGS h0 n0 v U'.heap L ∧ FrameEnd U o U' L ({ frames := 2, cells := 2, slots := 5, locals := 27 } : Room).cells ({ frames := 2, cells := 2, slots := 5, locals := 27 } : Room).slots) := by
  refine MetFree.of_bodySF (plainFor_of_name pn_67) hisR ?_
  intro p e s m args below meth c s₁ Bd hml0 hP hK
  obtain ⟨rfl, hZ, hh⟩ := hP
  have hx := Bd.exec
  have hby := Bd.bytes
  have hml : c.maxLocals = 1 := hml0
  have hown : s.vm.findClass "java/lang/String" = some m.cls := findClass_of_methodNamed Bd.named
  have hnm := (name_of_methodNamed Bd.named Bd.method).1
  have X0 : Stand p l e ({ frames := 2, cells := 2, slots := 5, locals := 27 } : Room) s m #[(.int p1)] below meth c s₁ [] 0 0 := Stand.of_body Bd
  have e0 : s₁.heap = h0 := by rw [← hh, Bd.state]; rfl
  have N0 := Fr.nil n0
  show Go p e below (s₁.setTop (entryFrame m #[(.int p1)] 1)) (fun o U' => ∃ v L, o = .returned v ∧ Q_rm8 Z p1 w_COMPACT_STRINGS h0 n0 v U'.heap L ∧ FrameEnd s o U' L ({ frames := 2, cells := 2, slots := 5, locals := 27 } : Room).cells ({ frames := 2, cells := 2, slots := 5, locals := 27 } : Room).slots)
  rw [ef_rm8]
  refine Gk.getS X0 hx hZ hown (host := "") (Or.inl (hw _ (List.mem_of_getElem? (i := 14) rfl))) Via.refl e0 S_COMPACT_STRINGS.sta (hb hby d8_0) ?_
  intro T1 X1 e1
  have hc3 : ¬ (w_COMPACT_STRINGS = (0 : Int32)) := hcs
  refine Gk.ifNo X1 hx (hb hby d8_3) (feq hc3).1 ?_
  refine Gk.iloadN X1 hx (hb hby d8_6) rfl ?_
  refine Gk.callS (argsL := [(.int p1)]) X1 hx hZ hown (rm9 l Z a0 hw [] p1 h0 n0 Z0 h1v) (hw _ (List.mem_of_getElem? (i := 37) rfl)) (hw _ (List.mem_of_getElem? (i := 38) rfl)) (hw _ (List.mem_of_getElem? (i := 39) rfl)) (hw _ (List.mem_of_getElem? (i := 40) rfl)) (by decide) e1 pd_4 rfl rfl (by decide) (Nat.le_of_ble_eq_true rfl) (by decide) (by decide) (by rw [hml]; rfl)  rfl (hb hby d8_7) ?_
  intro T2 L2 v2 X2 hQ2
  obtain ⟨rfl, N2q, e2⟩ := hQ2
  have N2 := Fr.app N0 N2q
  show Go p e below (T2.setTop (mkF m 10 #[.val (.int p1)] [(.int (1 : Int32))])) _
  refine Gk.ifNo X2 hx (hb hby d8_10) (feq (by decide : ¬ ((1 : Int32) = (0 : Int32)))).1 ?_
  refine Gk.newO X2 hx hZ hown (hw _ (List.mem_of_getElem? (i := 41) rfl)) (hw _ (List.mem_of_getElem? (i := 2) rfl)) (hw _ (List.mem_of_getElem? (i := 3) rfl)) e2 (hb hby d8_13) (by decide) (by decide) ?_
  intro T3 h3 b3 X3 e3 E3 g3 A3 D3
  have g_b3 : n0 ≤ b3 := Nat.le_trans Z0 (Nat.le_of_eq g3.symm)
  have lt_b3 := A3.lt
  have F_coder_b3 : Fld Z h3 b3 "java/lang/String" "coder" "B" (.int (0 : Int32)) := D3 (Or.inr (hw _ (List.mem_of_getElem? (i := 27) rfl))) (ty := .byte) (by decide)
  have F_value_b3 : Fld Z h3 b3 "java/lang/String" "value" "[B" .null := D3 (Or.inr (hw _ (List.mem_of_getElem? (i := 29) rfl))) (ty := (.array .byte)) (by decide)
  refine Gk.dup X3 hx (hb hby d8_16) rfl ?_
  refine Gk.iloadN X3 hx (hb hby d8_17) rfl ?_
  refine Gk.callS (argsL := [(.int p1)]) X3 hx hZ hown (rm10 l Z a0 hw [] p1 h3 n0 (Nat.le_trans Z0 E3.1)) (hw _ (List.mem_of_getElem? (i := 42) rfl)) (hw _ (List.mem_of_getElem? (i := 43) rfl)) (hw _ (List.mem_of_getElem? (i := 39) rfl)) (hw _ (List.mem_of_getElem? (i := 44) rfl)) (by decide) e3 pd_5 rfl rfl (by decide) (Nat.le_of_ble_eq_true rfl) (by decide) (by decide) (by rw [hml]; rfl)  rfl (hb hby d8_18) ?_
  intro T4 L4 v4 X4 hQ4
  obtain ⟨rfl, N4q, K4, lt4_⟩ := hQ4
  have N4 := Fr.app N2 N4q
  obtain ⟨b4, g4⟩ : ∃ z_, z_ = h3.size := ⟨_, rfl⟩
  rw [← g4] at lt4_ ⊢
  have g_b4 : n0 ≤ b4 := Nat.le_trans (Nat.le_trans Z0 E3.1) (Nat.le_of_eq g4.symm)
  have lt_b4 := lt4_
  show Go p e below (T4.setTop (mkF m 21 #[.val (.int p1)] [(.ref b4), (.ref b3), (.ref b3)])) _
  refine Gk.iconst X4 hx (hb hby d8_21) (0 : Int32) rfl ?_
  have H6 := (F_value_b3.keep K4 nin0)
  have H7 := (F_coder_b3.keep K4 nin0)
  have H8 := (A3.keep K4)
  refine Gk.callI (argsL := [(.ref b4), (.int (0 : Int32))]) X4 hx hZ hown (rm11 l Z a0 hw [] b3 b4 .null (.int (0 : Int32)) T4.heap n0 (Nat.le_trans Z0 (Nat.le_trans E3.1 K4.1)) H8 H6 g_b3 H7) rfl (hw _ (List.mem_of_getElem? (i := 45) rfl)) (hw _ (List.mem_of_getElem? (i := 46) rfl)) (hw _ (List.mem_of_getElem? (i := 47) rfl)) rfl (by decide) (hw _ (List.mem_of_getElem? (i := 3) rfl)) rfl pd_6 rfl rfl (by decide) (Nat.le_of_ble_eq_true rfl) (by decide) (by decide) (by rw [hml]; rfl)  rfl (hb hby d8_22) ?_
  intro T5 L5 v5 X5 hQ5
  obtain ⟨rfl, N5q, K5⟩ := hQ5
  have N5 := Fr.app N4 N5q
  show Go p e below (T5.setTop (mkF m 25 #[.val (.int p1)] [(.ref b3)])) _
  refine Go.fin X5 (v := some (.ref b3)) (fun h_ => by rw [Bd.returns] at h_; cases h_) Bd.notSynchronized (fun _ hr => retOut X5 hx Bd.returns rfl (Or.inr (Or.inr (Or.inr (Or.inr ⟨rfl, rfl, rfl⟩)))) (hb hby d8_25) hr) (fun U' hU hF => ⟨_, _, rfl, ?_, hF.1, hF.2.1, hF.2.2.mono (by decide) (by decide)⟩)
  rw [hU]
  exact ⟨(congrArg (fun z_ : Addr => some (Value.ref z_)) (show b3 = h0.size from g3)), N5, ((((Keep.refl h0 []).ext E3).trans K4 all0).trans K5 (allS (Or.inr (Nat.le_trans (Nat.le_refl _) (Nat.le_of_eq g3.symm))) all0))⟩
theorem own_wS {Z : State} {a0 : Array Value} (hw : ∀ d ∈ tables_1, d.before a0 Z = true) : ∀ a ∈ Bundle.stringAtoms, a.before a0 Z = true := by
  intro d hd
  simp only [Bundle.stringAtoms, List.mem_cons, List.not_mem_nil, or_false] at hd
  rcases hd with rfl | rfl | rfl | rfl | rfl | rfl | rfl
  · exact (hw _ (List.mem_of_getElem? (i := 3) rfl))
  · exact (hw _ (List.mem_of_getElem? (i := 2) rfl))
  · exact (hw _ (List.mem_of_getElem? (i := 19) rfl))
  · exact (hw _ (List.mem_of_getElem? (i := 29) rfl))
  · exact (hw _ (List.mem_of_getElem? (i := 27) rfl))
  · exact (hw _ (List.mem_of_getElem? (i := 49) rfl))
  · exact (hw _ (List.mem_of_getElem? (i := 50) rfl))
theorem pd_7 : parseMethodDescriptor "(Ljava/lang/String;I)V" = some ⟨[(.object "java/lang/String"), .int], none⟩ := by decide +kernel
theorem pd_8 : parseMethodDescriptor "(C)Ljava/lang/String;" = some ⟨[.char], some (.object "java/lang/String")⟩ := by decide +kernel
theorem pd_9 : parseMethodDescriptor "([C)V" = some ⟨[(.array .char)], none⟩ := by decide +kernel
theorem pn_120 : plainName "com/example/inkwire/inkwire/habitat/QLinkFrameRequireBytePinLaw" = true := by first | (simp [plainName, overriddenIn]; done) | decide +kernel
theorem ef_rm0 (m : MethodId) (p1 : Int32) (p2 : Int32) (p3 : Int32) (p4 : Int32) : entryFrame m #[(.int p1), (.int p2), (.int p3), (.int p4)] maxLocals = mkF m 0 #[.val (.int p1), .val (.int p2), .val (.int p3), .val (.int p4), .unset, .unset, .unset] [] := by first | (simp [entryFrame, mkF, argsToLocals, Value.category, maxLocals]; done) | rfl
def Q_rm0 (Z : State) (p1 : Int32) (p2 : Int32) (p3 : Int32) (p4 : Int32) (w_COMPACT_STRINGS : Int32) (h0 : Heap) (n0 : Nat) (v : Option Value) (h : Heap) (L : List Loc) : Prop := v = some (.int (1 : Int32)) ∧ Fr n0 L
set_option maxRecDepth 65536 in
set_option maxHeartbeats 40000000 in
theorem rm0 (l : Launch) (Z : State) (a0 : Array Value) (hw : ∀ d ∈ tables_1, d.before a0 Z = true) (ws : List Jvm.Cond) (p1 : Int32) (p2 : Int32) (p3 : Int32) (p4 : Int32) (w_COMPACT_STRINGS : Int32) (h0 : Heap) (n0 : Nat) (Z0 : n0 ≤ h0.size) (S_COMPACT_STRINGS : Stx Z n0 h0 "java/lang/String" "COMPACT_STRINGS" "Z" (.int w_COMPACT_STRINGS)) (hcs : ¬ (w_COMPACT_STRINGS = (0 : Int32))) :
    MetFree l x (head1 (Jvm.Cond.code x code maxLocals ret :: ws) room_1) (fun a U => a = #[(.int p1), (.int p2), (.int p3), (.int p4)] ∧ Z.Warmed39 U.vm ∧ U.heap = h0) (fun _ _ _ _ _ => True) (fun _ U o U' => ∃ v L, o = .returned v ∧ Q_rm0 Z p1 p2 p3 p4 w_COMPACT_STRINGS h0 n0 v U'.heap L ∧ ReturnedEndW U o U' L room_1.cells room_1.slots) := by
  refine MetFree.of_bodySF (plainFor_of_name pn_120) hisR ?_
  intro p e s m args below meth c s₁ Bd hml0 hP hK
  obtain ⟨rfl, hZ, hh⟩ := hP
  have hx := Bd.exec
  have hby := Bd.bytes
  have hml : c.maxLocals = 7 := hml0
  have hown : s.vm.findClass "com/example/inkwire/inkwire/habitat/QLinkFrameRequireBytePinLaw" = some m.cls := findClass_of_methodNamed Bd.named
  have hnm := (name_of_methodNamed Bd.named Bd.method).1
  have X0 : Stand p l e room_1 s m #[(.int p1), (.int p2), (.int p3), (.int p4)] below meth c s₁ [] 0 0 := Stand.of_body Bd
  have e0 : s₁.heap = h0 := by rw [← hh, Bd.state]; rfl
  have N0 := Fr.nil n0
  show Go p e below (s₁.setTop (entryFrame m #[(.int p1), (.int p2), (.int p3), (.int p4)] maxLocals)) (fun o U' => ∃ v L, o = .returned v ∧ Q_rm0 Z p1 p2 p3 p4 w_COMPACT_STRINGS h0 n0 v U'.heap L ∧ ReturnedEndW s o U' L room_1.cells room_1.slots)
  rw [ef_rm0]
  refine Gk.iloadN X0 hx (hb hby at_0) rfl ?_
  refine Gk.sipush X0 hx (hb hby at_1) (255 : Int32) rfl ?_
  refine Gk.iand X0 hx (hb hby at_4) _ rfl ?_
  obtain ⟨vv, evv⟩ : ∃ z_ : Int32, z_ = (p1 &&& (255 : Int32)) := ⟨_, rfl⟩
  show Go p e below (s₁.setTop (mkF m 5 #[.val (.int p1), .val (.int p2), .val (.int p3), .val (.int p4), .unset, .unset, .unset] [(.int (p1 &&& (255 : Int32)))])) _
  rw [← evv]
  refine Gk.istore X0 hx (hb hby at_5) #[.val (.int p1), .val (.int p2), .val (.int p3), .val (.int p4), .val (.int vv), .unset, .unset] rfl ?_
  refine Gk.iconst X0 hx (hb hby at_7) (2 : Int32) rfl ?_
  refine Gk.newP X0 hx hZ (hw _ (List.mem_of_getElem? (i := 0) rfl)) e0 (hb hby at_8) (by decide) (cap := 2) (by decide) (by decide) (by decide) (by decide) rfl ?_
  intro T1 h1 b1 k1 X1 e1 E1 g1 A1 B1
  have g_b1 : n0 ≤ b1 := Nat.le_trans Z0 (Nat.le_of_eq g1.symm)
  have V_b1 : Arf Z h1 b1 k1 .char (2 : Int32) (fun _ => (.int (0 : Int32))) := A1
  have lt_b1 := V_b1.lt
  refine Gk.astore X1 hx (hb hby at_10) rfl #[.val (.int p1), .val (.int p2), .val (.int p3), .val (.int p4), .val (.int vv), .val (.ref b1), .unset] rfl ?_
  refine Gk.aload X1 hx (hb hby at_12) rfl rfl ?_
  refine Gk.iconst X1 hx (hb hby at_14) (0 : Int32) rfl ?_
  refine Gk.iloadN X1 hx (hb hby at_15) rfl ?_
  refine Gk.sipush X1 hx (hb hby at_16) (255 : Int32) rfl ?_
  refine Gk.iand X1 hx (hb hby at_19) _ rfl ?_
  refine Gk.i2c X1 hx (hb hby at_20) _ rfl ?_
  refine Gk.castore X1 hx hZ e1 V_b1 0 rfl ⟨by decide, by decide⟩ (.int (nar .char ((p2 &&& (255 : Int32)).toUInt32.toUInt16.toUInt32.toInt32))) rfl (hb hby at_21) ?_
  intro T2 h2 X2 e2 W2 V2
  have N2 := Fr.snoc X2 N0 g_b1
  refine Gk.aload X2 hx (hb hby at_22) rfl rfl ?_
  refine Gk.iconst X2 hx (hb hby at_24) (1 : Int32) rfl ?_
  refine Gk.iloadN X2 hx (hb hby at_25) rfl ?_
  refine Gk.sipush X2 hx (hb hby at_26) (255 : Int32) rfl ?_
  refine Gk.iand X2 hx (hb hby at_29) _ rfl ?_
  refine Gk.i2c X2 hx (hb hby at_30) _ rfl ?_
  refine Gk.castore X2 hx hZ e2 V2 1 rfl ⟨by decide, by decide⟩ (.int (nar .char ((p3 &&& (255 : Int32)).toUInt32.toUInt16.toUInt32.toInt32))) rfl (hb hby at_31) ?_
  intro T3 h3 X3 e3 W3 V3
  have N3 := Fr.snoc X3 N2 g_b1
  refine Gk.iloadN X3 hx (hb hby at_32) rfl ?_
  refine Gk.iconst X3 hx (hb hby at_33) (1 : Int32) rfl ?_
  refine Gk.iand X3 hx (hb hby at_34) _ rfl ?_
  by_cases hc35 : (p4 &&& (1 : Int32)) = (0 : Int32)
  · refine Gk.ifYes X3 hx (hb hby at_35) (teq hc35).1 52 (by decide) (by decide) ?_
    refine Gk.iloadN X3 hx (hb hby at_52) rfl ?_
    refine Gk.iconst X3 hx (hb hby at_53) (2 : Int32) rfl ?_
    refine Gk.iand X3 hx (hb hby at_54) _ rfl ?_
    by_cases hc55 : (p4 &&& (2 : Int32)) = (0 : Int32)
    · refine Gk.ifYes X3 hx (hb hby at_55) (teq hc55).1 70 (by decide) (by decide) ?_
      refine Gk.ldcS (s := s) (show Stand p l e room_1 (s.setVm s.vm) m _ below meth c _ _ _ _ from X3) hx hZ hown (hw _ (List.mem_of_getElem? (i := 48) rfl)) (own_wS hw) e3 ((State.WarmedH.refl s).since 0) (Nat.zero_le _) (hb hby at_70) (n := 0) (by decide) (by decide) (by decide) (by decide) ?_
      intro a4 T4 h4 k4 X4 e4 E4 S4_ q4_ Z4_ o4_
      refine Gk.astore X4 hx (hb hby at_72) rfl #[.val (.int p1), .val (.int p2), .val (.int p3), .val (.int p4), .val (.int vv), .val (.ref b1), .val (.ref a4)] rfl ?_
      refine Gk.aload X4 hx (hb hby at_74) rfl rfl ?_
      refine Gk.iload X4 hx (hb hby at_76) rfl ?_
      have gr6 := (Nat.le_trans (Nat.le_trans (Nat.le_trans E1.1 (Keep.of_wr W2).1) (Keep.of_wr W3).1) E4.1)
      refine Gk.callS (argsL := [(.ref a4), (.int vv)]) X4 hx Z4_ o4_ (rm7 l Z a0 hw [] a4 vv h4 n0 (Nat.le_trans Z0 gr6) (own_vb evv).1 (own_vb evv).2) (hw _ (List.mem_of_getElem? (i := 30) rfl)) (hw _ (List.mem_of_getElem? (i := 31) rfl)) (hw _ (List.mem_of_getElem? (i := 32) rfl)) (hw _ (List.mem_of_getElem? (i := 33) rfl)) (by decide) e4 pd_7 rfl rfl (by decide) (Nat.le_of_ble_eq_true rfl) (by decide) (by decide) (by rw [hml]; rfl)  rfl (hb hby at_78) ?_
      intro T5 L5 v5 X5 hQ5
      obtain ⟨rfl, N5q, e5⟩ := hQ5
      have N5 := Fr.app N3 N5q
      show Go p e below (T5.setTop (mkF m 81 #[.val (.int p1), .val (.int p2), .val (.int p3), .val (.int p4), .val (.int vv), .val (.ref b1), .val (.ref a4)] [])) _
      refine Gk.iload X5 hx (hb hby at_81) rfl ?_
      have hc83 : ¬ (vv < (0 : Int32)) := (own_vb evv).1
      refine Gk.ifNo X5 hx (hb hby at_83) (flt hc83).1 ?_
      refine Gk.iload X5 hx (hb hby at_86) rfl ?_
      refine Gk.sipush X5 hx (hb hby at_88) (255 : Int32) rfl ?_
      have hc91 : ¬ ((255 : Int32) < vv) := (own_vb evv).2
      refine Gk.icmpNo X5 hx (hb hby at_91) (flt hc91).2.2.1 ?_
      refine Gk.iconst X5 hx (hb hby at_94) (1 : Int32) rfl ?_
      refine Gk.goto X5 hx (hb hby at_95) 99 (by decide) (by decide) ?_
      refine Gk.finW (s := s) X5 e5 S4_ (Nat.le_trans q4_ (Nat.le_refl _)) (v := some (.int (1 : Int32))) (fun h_ => by rw [Bd.returns] at h_; cases h_) Bd.notSynchronized (fun _ hr => retN X5 hx (t := .boolean) Bd.returns (by simp) (hb hby at_99) hr) (fun U' hU hF => ⟨_, _, rfl, ?_, hF.1, hF.2.1, hF.2.2.1, hF.2.2.2.mono (by decide) (by decide)⟩)
      exact ⟨(congrArg (fun z_ : Int32 => some (Value.int z_)) (show (1 : Int32) = (1 : Int32) from rfl)), N5⟩
    · refine Gk.ifNo X3 hx (hb hby at_55) (feq hc55).1 ?_
      refine Gk.aload X3 hx (hb hby at_58) rfl rfl ?_
      refine Gk.iconst X3 hx (hb hby at_60) (0 : Int32) rfl ?_
      refine Gk.caload X3 hx hZ e3 V3 ⟨by decide, by decide⟩ (.int (nar .char ((p2 &&& (255 : Int32)).toUInt32.toUInt16.toUInt32.toInt32))) rfl (hb hby at_61) ?_
      have H9 := (((S_COMPACT_STRINGS.ext E1).wr W2).wr W3)
      have gr10 := (Nat.le_trans (Nat.le_trans E1.1 (Keep.of_wr W2).1) (Keep.of_wr W3).1)
      refine Gk.callS (argsL := [(.int (nar .char ((p2 &&& (255 : Int32)).toUInt32.toUInt16.toUInt32.toInt32)))]) X3 hx hZ hown (rm8 l Z a0 hw [] (nar .char ((p2 &&& (255 : Int32)).toUInt32.toUInt16.toUInt32.toInt32)) w_COMPACT_STRINGS h3 n0 (Nat.le_trans Z0 gr10) H9 (own_ch rfl) hcs) (hw _ (List.mem_of_getElem? (i := 34) rfl)) (hw _ (List.mem_of_getElem? (i := 35) rfl)) (hw _ (List.mem_of_getElem? (i := 3) rfl)) (hw _ (List.mem_of_getElem? (i := 36) rfl)) (by decide) e3 pd_8 rfl rfl (by decide) (Nat.le_of_ble_eq_true rfl) (by decide) (by decide) (by rw [hml]; rfl)  rfl (hb hby at_62) ?_
      intro T8 L8 v8 X8 hQ8
      obtain ⟨rfl, N8q, K8⟩ := hQ8
      have N8 := Fr.app N3 N8q
      show Go p e below (T8.setTop (mkF m 65 #[.val (.int p1), .val (.int p2), .val (.int p3), .val (.int p4), .val (.int vv), .val (.ref b1), .unset] [(.ref h3.size)])) _
      refine Gk.astore X8 hx (hb hby at_65) rfl #[.val (.int p1), .val (.int p2), .val (.int p3), .val (.int p4), .val (.int vv), .val (.ref b1), .val (.ref h3.size)] rfl ?_
      refine Gk.goto X8 hx (hb hby at_67) 74 (by decide) (by decide) ?_
      refine Gk.aload X8 hx (hb hby at_74) rfl rfl ?_
      refine Gk.iload X8 hx (hb hby at_76) rfl ?_
      refine Gk.callS (argsL := [(.ref h3.size), (.int vv)]) X8 hx hZ hown (rm7 l Z a0 hw [] h3.size vv T8.heap n0 (Nat.le_trans Z0 (Nat.le_trans gr10 K8.1)) (own_vb evv).1 (own_vb evv).2) (hw _ (List.mem_of_getElem? (i := 30) rfl)) (hw _ (List.mem_of_getElem? (i := 31) rfl)) (hw _ (List.mem_of_getElem? (i := 32) rfl)) (hw _ (List.mem_of_getElem? (i := 33) rfl)) (by decide) rfl pd_7 rfl rfl (by decide) (Nat.le_of_ble_eq_true rfl) (by decide) (by decide) (by rw [hml]; rfl)  rfl (hb hby at_78) ?_
      intro T11 L11 v11 X11 hQ11
      obtain ⟨rfl, N11q, e11⟩ := hQ11
      have N11 := Fr.app N8 N11q
      show Go p e below (T11.setTop (mkF m 81 #[.val (.int p1), .val (.int p2), .val (.int p3), .val (.int p4), .val (.int vv), .val (.ref b1), .val (.ref h3.size)] [])) _
      refine Gk.iload X11 hx (hb hby at_81) rfl ?_
      have hc83 : ¬ (vv < (0 : Int32)) := (own_vb evv).1
      refine Gk.ifNo X11 hx (hb hby at_83) (flt hc83).1 ?_
      refine Gk.iload X11 hx (hb hby at_86) rfl ?_
      refine Gk.sipush X11 hx (hb hby at_88) (255 : Int32) rfl ?_
      have hc91 : ¬ ((255 : Int32) < vv) := (own_vb evv).2
      refine Gk.icmpNo X11 hx (hb hby at_91) (flt hc91).2.2.1 ?_
      refine Gk.iconst X11 hx (hb hby at_94) (1 : Int32) rfl ?_
      refine Gk.goto X11 hx (hb hby at_95) 99 (by decide) (by decide) ?_
      refine Go.fin X11 (v := some (.int (1 : Int32))) (fun h_ => by rw [Bd.returns] at h_; cases h_) Bd.notSynchronized (fun _ hr => retN X11 hx (t := .boolean) Bd.returns (by simp) (hb hby at_99) hr) (fun U' hU hF => ⟨_, _, rfl, ?_, ReturnedEndW.of_narrow hF.1 hF.2.1 (hF.2.2.mono (by decide) (by decide))⟩)
      exact ⟨(congrArg (fun z_ : Int32 => some (Value.int z_)) (show (1 : Int32) = (1 : Int32) from rfl)), N11⟩
  · refine Gk.ifNo X3 hx (hb hby at_35) (feq hc35).1 ?_
    have gr13 := (Nat.le_trans (Nat.le_trans E1.1 (Keep.of_wr W2).1) (Keep.of_wr W3).1)
    refine Gk.newO X3 hx hZ hown (hw _ (List.mem_of_getElem? (i := 1) rfl)) (hw _ (List.mem_of_getElem? (i := 2) rfl)) (hw _ (List.mem_of_getElem? (i := 3) rfl)) e3 (hb hby at_38) (by decide) (by decide) ?_
    intro T12 h12 b12 X12 e12 E12 g12 A12 D12
    have g_b12 : n0 ≤ b12 := Nat.le_trans (Nat.le_trans Z0 gr13) (Nat.le_of_eq g12.symm)
    have lt_b12 := A12.lt
    have F_coder_b12 : Fld Z h12 b12 "java/lang/String" "coder" "B" (.int (0 : Int32)) := D12 (Or.inr (hw _ (List.mem_of_getElem? (i := 27) rfl))) (ty := .byte) (by decide)
    have F_value_b12 : Fld Z h12 b12 "java/lang/String" "value" "[B" .null := D12 (Or.inr (hw _ (List.mem_of_getElem? (i := 29) rfl))) (ty := (.array .byte)) (by decide)
    refine Gk.dup X12 hx (hb hby at_41) rfl ?_
    refine Gk.aload X12 hx (hb hby at_42) rfl rfl ?_
    have H15 := (V3.ext E12)
    have H16 := ((((S_COMPACT_STRINGS.ext E1).wr W2).wr W3).ext E12)
    refine Gk.callI (argsL := [(.ref b1)]) X12 hx hZ hown (str_2 l Z a0 hw [] b12 b1 k1 (upd (upd (fun _ => (.int (0 : Int32))) 0 (.int (nar .char ((p2 &&& (255 : Int32)).toUInt32.toUInt16.toUInt32.toInt32)))) 1 (.int (nar .char ((p3 &&& (255 : Int32)).toUInt32.toUInt16.toUInt32.toInt32)))) (nar .char ((p2 &&& (255 : Int32)).toUInt32.toUInt16.toUInt32.toInt32)) (nar .char ((p3 &&& (255 : Int32)).toUInt32.toUInt16.toUInt32.toInt32)) (.int (0 : Int32)) .null w_COMPACT_STRINGS h12 n0 (Nat.le_trans Z0 (Nat.le_trans gr13 E12.1)) H16 A12 H15 rfl rfl (own_ch rfl) (own_ch rfl) hcs F_coder_b12 g_b12 F_value_b12) rfl (hw _ (List.mem_of_getElem? (i := 4) rfl)) (hw _ (List.mem_of_getElem? (i := 5) rfl)) (hw _ (List.mem_of_getElem? (i := 6) rfl)) rfl (by decide) (hw _ (List.mem_of_getElem? (i := 3) rfl)) e12 pd_9 rfl rfl (by decide) (Nat.le_of_ble_eq_true rfl) (by decide) (by decide) (by rw [hml]; rfl)  rfl (hb hby at_44) ?_
    intro T14 L14 v14 X14 hQ14
    obtain ⟨rfl, N14q, K14, -⟩ := hQ14
    have N14 := Fr.app N3 N14q
    show Go p e below (T14.setTop (mkF m 47 #[.val (.int p1), .val (.int p2), .val (.int p3), .val (.int p4), .val (.int vv), .val (.ref b1), .unset] [(.ref b12)])) _
    refine Gk.astore X14 hx (hb hby at_47) rfl #[.val (.int p1), .val (.int p2), .val (.int p3), .val (.int p4), .val (.int vv), .val (.ref b1), .val (.ref b12)] rfl ?_
    refine Gk.goto X14 hx (hb hby at_49) 74 (by decide) (by decide) ?_
    refine Gk.aload X14 hx (hb hby at_74) rfl rfl ?_
    refine Gk.iload X14 hx (hb hby at_76) rfl ?_
    have gr18 := (Nat.le_trans (Nat.le_trans gr13 E12.1) K14.1)
    refine Gk.callS (argsL := [(.ref b12), (.int vv)]) X14 hx hZ hown (rm7 l Z a0 hw [] b12 vv T14.heap n0 (Nat.le_trans Z0 gr18) (own_vb evv).1 (own_vb evv).2) (hw _ (List.mem_of_getElem? (i := 30) rfl)) (hw _ (List.mem_of_getElem? (i := 31) rfl)) (hw _ (List.mem_of_getElem? (i := 32) rfl)) (hw _ (List.mem_of_getElem? (i := 33) rfl)) (by decide) rfl pd_7 rfl rfl (by decide) (Nat.le_of_ble_eq_true rfl) (by decide) (by decide) (by rw [hml]; rfl)  rfl (hb hby at_78) ?_
    intro T17 L17 v17 X17 hQ17
    obtain ⟨rfl, N17q, e17⟩ := hQ17
    have N17 := Fr.app N14 N17q
    show Go p e below (T17.setTop (mkF m 81 #[.val (.int p1), .val (.int p2), .val (.int p3), .val (.int p4), .val (.int vv), .val (.ref b1), .val (.ref b12)] [])) _
    refine Gk.iload X17 hx (hb hby at_81) rfl ?_
    have hc83 : ¬ (vv < (0 : Int32)) := (own_vb evv).1
    refine Gk.ifNo X17 hx (hb hby at_83) (flt hc83).1 ?_
    refine Gk.iload X17 hx (hb hby at_86) rfl ?_
    refine Gk.sipush X17 hx (hb hby at_88) (255 : Int32) rfl ?_
    have hc91 : ¬ ((255 : Int32) < vv) := (own_vb evv).2
    refine Gk.icmpNo X17 hx (hb hby at_91) (flt hc91).2.2.1 ?_
    refine Gk.iconst X17 hx (hb hby at_94) (1 : Int32) rfl ?_
    refine Gk.goto X17 hx (hb hby at_95) 99 (by decide) (by decide) ?_
    refine Go.fin X17 (v := some (.int (1 : Int32))) (fun h_ => by rw [Bd.returns] at h_; cases h_) Bd.notSynchronized (fun _ hr => retN X17 hx (t := .boolean) Bd.returns (by simp) (hb hby at_99) hr) (fun U' hU hF => ⟨_, _, rfl, ?_, ReturnedEndW.of_narrow hF.1 hF.2.1 (hF.2.2.mono (by decide) (by decide))⟩)
    exact ⟨(congrArg (fun z_ : Int32 => some (Value.int z_)) (show (1 : Int32) = (1 : Int32) from rfl)), N17⟩
set_option maxRecDepth 65536 in
set_option maxHeartbeats 40000000 in
theorem comes_1 {Post : Tables → Env → Array Value → State → Outcome → State → Prop} (hpost : ∀ tb e args s v u, (limb_1_1.after args s (.returned v) u = true ∧ limb_1_2.after args s (.returned v) u = true ∧ True) → ReturnedEndW s (.returned v) u (Jvm.fieldLocs frame_1_writes args s ++ Jvm.arrayLocs frame_1_arrays args s ++ Jvm.staticLocs frame_1_statics s) 16 1152 → Post tb e args s (.returned v) u) :
    ArmFor flags0 classFile x code maxLocals ret World_1 tables_1 room_1 Calls_1 rest_1 Pre_1 Post := by
  intro l hfl _ _ p e ha hc hk s m args below hf hA hF happ hP
  obtain ⟨hcalls, hrest, hpre⟩ := hP
  obtain ⟨-, -, -, hnamed, -, -, -, hat⟩ := (Spec.applies_iff hf).mp happ
  obtain ⟨hg, hn⟩ := and_e (Cond.before_iff.mp (show (Jvm.Cond.and given_1 narrow_1).before args s = true from hpre))
  obtain ⟨g1, g2⟩ := and_e hg
  obtain ⟨g3, g4⟩ := and_e g2
  obtain ⟨g5, g6⟩ := and_e g4
  obtain ⟨g7, g8⟩ := and_e g6
  obtain ⟨w0, w1, w2, w3, rfl⟩ : ∃ w0 w1 w2 w3 : Value, args = #[w0, w1, w2, w3] := by
    have hs : args.size = 4 := by simpa [Cond.value, given_1] using g1
    obtain ⟨L⟩ := args
    match L, hs with
    | [w0, w1, w2, w3], _ => exact ⟨w0, w1, w2, w3, rfl⟩
  have hw := fun d (hd : d ∈ tables_1) => atoms_spec (ws := Jvm.Cond.code x code maxLocals ret :: tables_1) hat d (List.mem_cons_of_mem _ hd)
  have hfit : Fit s := fun {y c} hc i hi => by
    obtain ⟨ha, rfl⟩ := Array.getElem?_eq_some_iff.mp hc
    have q := List.all_eq_true.mp ((Array.all_eq_true_iff_forall_mem.mp hF) _ (Array.getElem_mem ha)) i (List.mem_range.mpr hi)
    simpa [Array.getElem?_eq_getElem hi] using q
  obtain ⟨hsets, hown0⟩ := atoms_of _ (rest_1_c_eq ▸ (show rest_1_c.before _ s = true from hrest))
  have hr0 := Cond.before_iff.mp hown0
  obtain ⟨i0, ei0⟩ := is_v g3
  obtain rfl : w0 = (.int i0) := Option.some.inj ei0
  obtain ⟨i1, ei1⟩ := is_v g5
  obtain rfl : w1 = (.int i1) := Option.some.inj ei1
  obtain ⟨i2, ei2⟩ := is_v g7
  obtain rfl : w2 = (.int i2) := Option.some.inj ei2
  obtain ⟨i3, ei3⟩ := is_v g8
  obtain rfl : w3 = (.int i3) := Option.some.inj ei3
  obtain ⟨w_COMPACT_STRINGS, ew_CS⟩ := is_v (Cond.before_iff.mp (hsets _ (List.mem_of_getElem? (i := 1) rfl)))
  have S_COMPACT_STRINGS := Sta.start ew_CS (Or.inl (hsets _ (List.mem_of_getElem? (i := 0) rfl)))
  have hcs : ¬ (w_COMPACT_STRINGS = (0 : Int32)) := by
    intro q_
    have z_ := not_v (Cond.before_iff.mp (hsets _ (List.mem_of_getElem? (i := 2) rfl)))
    subst q_
    rw [eq_i ew_CS (Term.int_eval (0)) rfl] at z_
    cases z_
  obtain ⟨n, o, h1, h2, h3, _, L, rfl, ⟨rfl, N⟩, hq⟩ := rm0 l s _ hw tables_1 i0 i1 i2 i3 w_COMPACT_STRINGS s.heap s.heap.size (Nat.le_refl _) (Stx.start S_COMPACT_STRINGS (Nat.le_refl _)) hcs p e ha hc hk s m _ below hf ((Spec.applies_iff_loose hf).mp happ).1 ⟨rfl, State.Warmed39.refl s, rfl⟩ trivial
  refine ⟨n, _, h1, h2, h3, hpost _ _ _ _ _ _ ⟨Cond.after_iff.mpr rfl, Cond.after_iff.mpr (eq_i res_at (Term.int_eval (1)) rfl), trivial⟩ ⟨hq.1, hq.2.1, hq.2.2.1, (hq.2.2.2.sift fun y hy => Or.inr (N y hy)).mono (by decide) (by decide)⟩⟩
theorem main_1_1 : Claimed_1_1 := comes_1 fun _ _ _ _ _ _ h hF => ⟨h.1, hF⟩
theorem main_1_2 : Claimed_1_2 := comes_1 fun _ _ _ _ _ _ h hF => ⟨h.2.1, hF⟩
end Jvm.Pilot.@@N@@
namespace Jvm.Pilot.@@N@@
open Jvm Jvm.ClassFile Sem Op Lib Jvm.Free Jvm.Stand Jvm.Pilot.@@N@@.Jvm.D
/-! MADE BY PROGRAM (witnessworld.py) out of the Statement's table words and the real class files: 20 classes; the members and pool entries that the words name. The judged class is class 1, her method 1. -/
namespace start1
open Jvm.ClassFile
def u (s : String) : CpInfo := .utf8 (stringToUtf16 s)
/-- a pool by its gaps: so many unusable entries, then the entry; so many at the end -/
def gap : Nat → List CpInfo → List CpInfo
  | 0, r => r
  | n + 1, r => .unusable :: gap n r
def poolList (es : List (Nat × CpInfo)) (last : Nat) : List CpInfo := es.foldr (fun e r => gap e.1 (e.2 :: r)) (gap last [])
def pool (es : List (Nat × CpInfo)) (last : Nat) : Array CpInfo := ⟨poolList es last⟩
def fileOf (pool : Array CpInfo) (this : Nat) (attrs : Array Attribute := #[]) (ms : Array MethodInfo := #[]) (fl : Nat := 33) (sup : Nat := 0) (ifs : Array Nat := #[]) (fds : Array FieldInfo := #[]) : ClassFile where
  minorVersion := 0
  majorVersion := 65
  constantPool := pool
  accessFlags := fl
  thisClass := this
  superClass := sup
  interfaces := ifs
  fields := fds
  methods := ms
  attributes := attrs
def plain (name : String) (sup : Option ClassId) : Class where
  name := name
  kind := .ordinary
  loader := none
  accessFlags := 33
  super := sup
  interfaces := #[]
  cf := none
  fields := #[]
  methods := #[]
  instanceTypes := #[]
  staticTypes := #[]
  resolved := #[]
  callSites := []
  init := .initialized
  statics := none
  mirror := none

def pool0 : Array CpInfo := pool [(5, u "<init>"), (0, u "()V"), (1, .class_ 10), (1, u "java/lang/Object")] 113

def k0c0 : Code := { maxStack := 0, maxLocals := 1, code := object_method_1_code, exceptionTable := #[], attributes := #[] }
def k0m0 : Method := { name := "<init>", desc := "()V", sig := { parameters := [], returnType := none }, accessFlags := 1, code := some k0c0 }
/-- java/lang/Object -/
def k0 : Class := { plain "java/lang/Object" none with
  accessFlags := 33
  interfaces := #[]
  cf := some (fileOf pool0 8 #[] #[{ accessFlags := 1, nameIndex := 5, descriptorIndex := 6, attributes := #[] }] 33 0 #[] #[])
  fields := #[]
  methods := #[k0m0]
  instanceTypes := #[]
  staticTypes := #[]
  resolved := Array.replicate 124 none
  statics := none }

def pool1 : Array CpInfo := pool [(2, .class_ 4), (1, u "java/lang/Object"), (0, u "<init>"), (0, u "()V"), (0, .class_ 8), (0, u "java/lang/String"), (0, .methodref 7 10), (0, .nameAndType 5 11), (0, u "([C)V"), (0, .methodref 7 13), (0, .nameAndType 14 15), (0, u "valueOf"), (0, u "(C)Ljava/lang/String;"), (0, .string 17), (0, u ""), (0, .methodref 19 20), (0, .class_ 21), (0, .nameAndType 22 23), (0, u "com/example/inkwire/inkwire/habitat/QLinkFrame"), (0, u "requireByte"), (0, u "(Ljava/lang/String;I)V"), (0, .class_ 25), (0, u "com/example/inkwire/inkwire/habitat/QLinkFrameRequireBytePinLaw"), (2, u "law"), (0, u "(IIII)Z")] 5

def k1m0 : Method := { name := "<init>", desc := "()V", sig := { parameters := [], returnType := none }, accessFlags := 2, code := none }
def k1c1 : Code := { maxStack := 4, maxLocals := 7, code := code, exceptionTable := #[], attributes := #[] }
def k1m1 : Method := { name := "law", desc := "(IIII)Z", sig := { parameters := [.int, .int, .int, .int], returnType := some .boolean }, accessFlags := 9, code := some k1c1 }
/-- com/example/inkwire/inkwire/habitat/QLinkFrameRequireBytePinLaw -/
def k1 : Class := { plain "com/example/inkwire/inkwire/habitat/QLinkFrameRequireBytePinLaw" (some 0) with
  accessFlags := 49
  interfaces := #[]
  cf := some (fileOf pool1 24 #[] #[{ accessFlags := 2, nameIndex := 5, descriptorIndex := 6, attributes := #[] }, { accessFlags := 9, nameIndex := 28, descriptorIndex := 29, attributes := #[] }] 49 2 #[] #[])
  fields := #[]
  methods := #[k1m0, k1m1]
  instanceTypes := #[]
  staticTypes := #[]
  resolved := Array.replicate 35 none
  statics := none }

def pool2 : Array CpInfo := pool [(1, .class_ 2), (0, u "java/io/Serializable"), (0, .class_ 4), (0, u "java/lang/Object")] 2

/-- java/io/Serializable -/
def k2 : Class := { plain "java/io/Serializable" (some 0) with
  accessFlags := 1537
  interfaces := #[]
  cf := some (fileOf pool2 1 #[] #[] 1537 3 #[] #[])
  fields := #[]
  methods := #[]
  instanceTypes := #[]
  staticTypes := #[]
  resolved := Array.replicate 7 none
  statics := none }

def pool3 : Array CpInfo := pool [(1, .class_ 2), (0, u "java/lang/Comparable"), (0, .class_ 4), (0, u "java/lang/Object")] 7

/-- java/lang/Comparable -/
def k3 : Class := { plain "java/lang/Comparable" (some 0) with
  accessFlags := 1537
  interfaces := #[]
  cf := some (fileOf pool3 1 #[] #[] 1537 3 #[] #[])
  fields := #[]
  methods := #[]
  instanceTypes := #[]
  staticTypes := #[]
  resolved := Array.replicate 12 none
  statics := none }

def pool4 : Array CpInfo := pool [(2, .class_ 4), (1, u "java/lang/CharSequence"), (42, .class_ 48), (0, u "java/lang/CharSequence$1CodePointIterator"), (10, .class_ 60), (0, u "java/lang/CharSequence$1CharIterator"), (5, .class_ 67), (0, u "java/lang/Object")] 63

/-- java/lang/CharSequence -/
def k4 : Class := { plain "java/lang/CharSequence" (some 0) with
  accessFlags := 1537
  interfaces := #[]
  cf := some (fileOf pool4 2 #[.nestMembers #[47, 59]] #[] 1537 66 #[] #[])
  fields := #[]
  methods := #[]
  instanceTypes := #[]
  staticTypes := #[]
  resolved := Array.replicate 131 none
  statics := none }

def pool5 : Array CpInfo := pool [(1, .class_ 2), (0, u "java/lang/constant/Constable"), (0, .class_ 4), (0, u "java/lang/Object")] 6

/-- java/lang/constant/Constable -/
def k5 : Class := { plain "java/lang/constant/Constable" (some 0) with
  accessFlags := 1537
  interfaces := #[]
  cf := some (fileOf pool5 1 #[] #[] 1537 3 #[] #[])
  fields := #[]
  methods := #[]
  instanceTypes := #[]
  staticTypes := #[]
  resolved := Array.replicate 11 none
  statics := none }

def pool6 : Array CpInfo := pool [(1, .class_ 2), (0, u "java/lang/constant/ConstantDesc"), (0, .class_ 4), (0, u "java/lang/Object")] 32

/-- java/lang/constant/ConstantDesc -/
def k6 : Class := { plain "java/lang/constant/ConstantDesc" (some 0) with
  accessFlags := 1537
  interfaces := #[]
  cf := some (fileOf pool6 1 #[] #[] 1537 3 #[] #[])
  fields := #[]
  methods := #[]
  instanceTypes := #[]
  staticTypes := #[]
  resolved := Array.replicate 37 none
  statics := none }

def pool7 : Array CpInfo := pool [(1, .methodref 2 3), (0, .class_ 4), (0, .nameAndType 5 6), (0, u "java/lang/Object"), (0, u "<init>"), (0, u "()V"), (2, .fieldref 10 11), (0, .class_ 12), (0, .nameAndType 13 14), (0, u "java/lang/String"), (0, u "value"), (0, u "[B"), (0, .fieldref 10 16), (0, .nameAndType 17 18), (0, u "coder"), (0, u "B"), (2, u "hash"), (0, u "I"), (2, u "hashIsZero"), (0, u "Z"), (0, .methodref 10 28), (0, .nameAndType 5 29), (0, u "([CIILjava/lang/Void;)V"), (8, .fieldref 10 39), (0, .nameAndType 40 26), (0, u "COMPACT_STRINGS"), (1, .class_ 44), (1, u "java/lang/StringUTF16"), (0, u "compress"), (1, .methodref 42 48), (0, .nameAndType 49 50), (0, u "coderFromArrayLen"), (0, u "([BI)B"), (2, u "toBytes"), (53, .class_ 109), (1, u "java/lang/StringLatin1"), (67, .methodref 42 178), (0, .nameAndType 45 179), (0, u "([CII)[B"), (29, .methodref 10 210), (0, .nameAndType 5 211), (0, u "([BB)V"), (157, u "(C)Z"), (205, .class_ 576), (0, u "java/lang/CharSequence"), (22, u "CASE_INSENSITIVE_ORDER"), (0, u "Ljava/util/Comparator;"), (181, u "valueOf"), (0, u "(C)Ljava/lang/String;"), (226, u "([C)V"), (4, .methodref 107 1016), (0, .nameAndType 1017 369), (0, u "canEncode"), (0, .methodref 107 1019), (0, .nameAndType 53 1020), (0, u "(C)[B"), (80, u "serialPersistentFields"), (0, u "[Ljava/io/ObjectStreamField;"), (0, .class_ 1104), (0, u "java/lang/String$CaseInsensitiveComparator"), (1, .class_ 1107), (0, u "java/io/Serializable"), (0, .class_ 1109), (0, u "java/lang/Comparable"), (0, .class_ 1111), (0, u "java/lang/constant/Constable"), (0, .class_ 1113), (0, u "java/lang/constant/ConstantDesc"), (2, u "serialVersionUID"), (0, u "J"), (3, u "REPL"), (0, u "C"), (2, u "LATIN1"), (1, u "UTF16")] 323

def k7m0 : Method := { name := "<init>", desc := "()V", sig := { parameters := [], returnType := none }, accessFlags := 1, code := none }
def k7c1 : Code := { maxStack := 5, maxLocals := 2, code := jdk_42_method_3_code, exceptionTable := #[], attributes := #[] }
def k7m1 : Method := { name := "<init>", desc := "([C)V", sig := { parameters := [(.array .char)], returnType := none }, accessFlags := 1, code := some k7c1 }
def k7c2 : Code := { maxStack := 4, maxLocals := 1, code := jdk_42_method_139_code, exceptionTable := #[], attributes := #[] }
def k7m2 : Method := { name := "valueOf", desc := "(C)Ljava/lang/String;", sig := { parameters := [.char], returnType := some (.object "java/lang/String") }, accessFlags := 9, code := some k7c2 }
def k7c3 : Code := { maxStack := 4, maxLocals := 6, code := jdk_42_method_149_code, exceptionTable := #[], attributes := #[] }
def k7m3 : Method := { name := "<init>", desc := "([CIILjava/lang/Void;)V", sig := { parameters := [(.array .char), .int, .int, (.object "java/lang/Void")], returnType := none }, accessFlags := 2, code := some k7c3 }
def k7c4 : Code := { maxStack := 2, maxLocals := 3, code := jdk_42_method_151_code, exceptionTable := #[], attributes := #[] }
def k7m4 : Method := { name := "<init>", desc := "([BB)V", sig := { parameters := [(.array .byte), .byte], returnType := none }, accessFlags := 0, code := some k7c4 }
/-- java/lang/String -/
def k7 : Class := { plain "java/lang/String" (some 0) with
  accessFlags := 49
  interfaces := #[2, 3, 4, 5, 6]
  cf := some (fileOf pool7 10 #[.nestMembers #[1103]] #[{ accessFlags := 1, nameIndex := 5, descriptorIndex := 6, attributes := #[] }, { accessFlags := 1, nameIndex := 5, descriptorIndex := 1010, attributes := #[] }, { accessFlags := 9, nameIndex := 782, descriptorIndex := 783, attributes := #[] }, { accessFlags := 2, nameIndex := 5, descriptorIndex := 29, attributes := #[] }, { accessFlags := 0, nameIndex := 5, descriptorIndex := 211, attributes := #[] }] 49 2 #[1106, 1108, 575, 1110, 1112] #[{ accessFlags := 18, nameIndex := 13, descriptorIndex := 14, attributes := #[] }, { accessFlags := 18, nameIndex := 17, descriptorIndex := 18, attributes := #[] }, { accessFlags := 2, nameIndex := 21, descriptorIndex := 22, attributes := #[] }, { accessFlags := 2, nameIndex := 25, descriptorIndex := 26, attributes := #[] }, { accessFlags := 26, nameIndex := 1116, descriptorIndex := 1117, attributes := #[] }, { accessFlags := 24, nameIndex := 40, descriptorIndex := 26, attributes := #[] }, { accessFlags := 26, nameIndex := 1101, descriptorIndex := 1102, attributes := #[] }, { accessFlags := 26, nameIndex := 1121, descriptorIndex := 1122, attributes := #[] }, { accessFlags := 25, nameIndex := 599, descriptorIndex := 600, attributes := #[] }, { accessFlags := 24, nameIndex := 1125, descriptorIndex := 18, attributes := #[] }, { accessFlags := 24, nameIndex := 1127, descriptorIndex := 18, attributes := #[] }])
  fields := #[{ name := "value", type := (.array .byte), accessFlags := 18, slot := 0, constantValue := 0 }, { name := "coder", type := .byte, accessFlags := 18, slot := 1, constantValue := 0 }, { name := "hash", type := .int, accessFlags := 2, slot := 2, constantValue := 0 }, { name := "hashIsZero", type := .boolean, accessFlags := 2, slot := 3, constantValue := 0 }, { name := "serialVersionUID", type := .long, accessFlags := 26, slot := 0, constantValue := 0 }, { name := "COMPACT_STRINGS", type := .boolean, accessFlags := 24, slot := 1, constantValue := 0 }, { name := "serialPersistentFields", type := (.array (.object "java/io/ObjectStreamField")), accessFlags := 26, slot := 2, constantValue := 0 }, { name := "REPL", type := .char, accessFlags := 26, slot := 3, constantValue := 0 }, { name := "CASE_INSENSITIVE_ORDER", type := (.object "java/util/Comparator"), accessFlags := 25, slot := 4, constantValue := 0 }, { name := "LATIN1", type := .byte, accessFlags := 24, slot := 5, constantValue := 0 }, { name := "UTF16", type := .byte, accessFlags := 24, slot := 6, constantValue := 0 }]
  methods := #[k7m0, k7m1, k7m2, k7m3, k7m4]
  instanceTypes := #[(.array .byte), .byte, .int, .boolean]
  staticTypes := #[.long, .boolean, (.array (.object "java/io/ObjectStreamField")), .char, (.object "java/util/Comparator"), .byte, .byte]
  resolved := Array.replicate 1451 none
  statics := some 0 }

def pool8 : Array CpInfo := pool [(6, .class_ 8), (1, u "java/lang/Object"), (0, u "<init>"), (0, u "()V"), (1, .class_ 14), (1, u "java/lang/StringUTF16"), (31, u "$assertionsDisabled"), (0, u "Z"), (13, u "HI_BYTE_SHIFT"), (0, u "I"), (2, u "LO_BYTE_SHIFT"), (49, .methodref 12 116), (0, .nameAndType 117 118), (0, u "compress"), (0, u "([CI[BII)I"), (3, u "([CII)[B"), (138, u "coderFromArrayLen"), (0, u "([BI)B"), (106, .class_ 371), (1, u "java/lang/StringUTF16$LinesSpliterator"), (58, u "MAX_LENGTH"), (196, .class_ 628), (0, u "java/lang/StringUTF16$CodePointsSpliterator"), (0, .class_ 630), (0, u "java/lang/StringUTF16$CharsSpliterator")] 4

def k8m0 : Method := { name := "<init>", desc := "()V", sig := { parameters := [], returnType := none }, accessFlags := 0, code := none }
def k8c1 : Code := { maxStack := 2, maxLocals := 2, code := jdk_52_method_15_code, exceptionTable := #[], attributes := #[] }
def k8m1 : Method := { name := "coderFromArrayLen", desc := "([BI)B", sig := { parameters := [(.array .byte), .int], returnType := some .byte }, accessFlags := 8, code := some k8c1 }
def k8c2 : Code := { maxStack := 5, maxLocals := 6, code := jdk_52_method_16_code, exceptionTable := #[], attributes := #[] }
def k8m2 : Method := { name := "compress", desc := "([CII)[B", sig := { parameters := [(.array .char), .int, .int], returnType := some (.array .byte) }, accessFlags := 9, code := some k8c2 }
def k8c3 : Code := { maxStack := 3, maxLocals := 7, code := jdk_52_method_21_code, exceptionTable := #[], attributes := #[] }
def k8m3 : Method := { name := "compress", desc := "([CI[BII)I", sig := { parameters := [(.array .char), .int, (.array .byte), .int, .int], returnType := some .int }, accessFlags := 9, code := some k8c3 }
/-- java/lang/StringUTF16 -/
def k8 : Class := { plain "java/lang/StringUTF16" (some 0) with
  accessFlags := 48
  interfaces := #[]
  cf := some (fileOf pool8 12 #[.nestMembers #[627, 629, 369]] #[{ accessFlags := 0, nameIndex := 9, descriptorIndex := 10, attributes := #[] }, { accessFlags := 8, nameIndex := 261, descriptorIndex := 262, attributes := #[] }, { accessFlags := 9, nameIndex := 117, descriptorIndex := 122, attributes := #[] }, { accessFlags := 9, nameIndex := 117, descriptorIndex := 118, attributes := #[] }] 48 6 #[] #[{ accessFlags := 26, nameIndex := 61, descriptorIndex := 62, attributes := #[] }, { accessFlags := 26, nameIndex := 65, descriptorIndex := 62, attributes := #[] }, { accessFlags := 24, nameIndex := 430, descriptorIndex := 62, attributes := #[] }, { accessFlags := 4120, nameIndex := 46, descriptorIndex := 47, attributes := #[] }])
  fields := #[{ name := "HI_BYTE_SHIFT", type := .int, accessFlags := 26, slot := 0, constantValue := 0 }, { name := "LO_BYTE_SHIFT", type := .int, accessFlags := 26, slot := 1, constantValue := 0 }, { name := "MAX_LENGTH", type := .int, accessFlags := 24, slot := 2, constantValue := 0 }, { name := "$assertionsDisabled", type := .boolean, accessFlags := 4120, slot := 3, constantValue := 0 }]
  methods := #[k8m0, k8m1, k8m2, k8m3]
  instanceTypes := #[]
  staticTypes := #[.int, .int, .int, .boolean]
  resolved := Array.replicate 635 none
  statics := none }

def pool9 : Array CpInfo := pool [(4, .class_ 6), (1, u "java/lang/Object"), (3, .class_ 12), (1, u "com/example/inkwire/inkwire/habitat/QLinkFrame"), (0, u "crc"), (0, u "I"), (2, u "tx"), (2, u "rx"), (2, u "type"), (2, u "payload"), (0, u "[B"), (2, u "length"), (127, u "(Ljava/lang/String;I)V"), (6, u "requireByte"), (24, u "OBJECT_TYPE"), (2, u "SYNC"), (1, u "END"), (1, u "ESCAPE"), (1, u "ESCAPE_XOR"), (1, u "CRC_OFFSET"), (1, u "TX_OFFSET"), (1, u "RX_OFFSET"), (1, u "TYPE_OFFSET"), (1, u "PAYLOAD_OFFSET"), (1, u "MAX_OBJECT_LENGTH")] 34

def k9c0 : Code := { maxStack := 4, maxLocals := 2, code := prog_26_method_14_code, exceptionTable := #[], attributes := #[] }
def k9m0 : Method := { name := "requireByte", desc := "(Ljava/lang/String;I)V", sig := { parameters := [(.object "java/lang/String"), .int], returnType := none }, accessFlags := 8, code := some k9c0 }
/-- com/example/inkwire/inkwire/habitat/QLinkFrame -/
def k9 : Class := { plain "com/example/inkwire/inkwire/habitat/QLinkFrame" (some 0) with
  accessFlags := 49
  interfaces := #[]
  cf := some (fileOf pool9 10 #[] #[{ accessFlags := 8, nameIndex := 165, descriptorIndex := 158, attributes := #[] }] 49 4 #[] #[{ accessFlags := 25, nameIndex := 190, descriptorIndex := 14, attributes := #[] }, { accessFlags := 26, nameIndex := 193, descriptorIndex := 14, attributes := #[] }, { accessFlags := 26, nameIndex := 195, descriptorIndex := 14, attributes := #[] }, { accessFlags := 26, nameIndex := 197, descriptorIndex := 14, attributes := #[] }, { accessFlags := 26, nameIndex := 199, descriptorIndex := 14, attributes := #[] }, { accessFlags := 26, nameIndex := 201, descriptorIndex := 14, attributes := #[] }, { accessFlags := 26, nameIndex := 203, descriptorIndex := 14, attributes := #[] }, { accessFlags := 26, nameIndex := 205, descriptorIndex := 14, attributes := #[] }, { accessFlags := 26, nameIndex := 207, descriptorIndex := 14, attributes := #[] }, { accessFlags := 26, nameIndex := 209, descriptorIndex := 14, attributes := #[] }, { accessFlags := 26, nameIndex := 211, descriptorIndex := 14, attributes := #[] }, { accessFlags := 18, nameIndex := 13, descriptorIndex := 14, attributes := #[] }, { accessFlags := 18, nameIndex := 17, descriptorIndex := 14, attributes := #[] }, { accessFlags := 18, nameIndex := 20, descriptorIndex := 14, attributes := #[] }, { accessFlags := 18, nameIndex := 23, descriptorIndex := 14, attributes := #[] }, { accessFlags := 18, nameIndex := 26, descriptorIndex := 27, attributes := #[] }, { accessFlags := 18, nameIndex := 30, descriptorIndex := 14, attributes := #[] }])
  fields := #[{ name := "OBJECT_TYPE", type := .int, accessFlags := 25, slot := 0, constantValue := 0 }, { name := "SYNC", type := .int, accessFlags := 26, slot := 1, constantValue := 0 }, { name := "END", type := .int, accessFlags := 26, slot := 2, constantValue := 0 }, { name := "ESCAPE", type := .int, accessFlags := 26, slot := 3, constantValue := 0 }, { name := "ESCAPE_XOR", type := .int, accessFlags := 26, slot := 4, constantValue := 0 }, { name := "CRC_OFFSET", type := .int, accessFlags := 26, slot := 5, constantValue := 0 }, { name := "TX_OFFSET", type := .int, accessFlags := 26, slot := 6, constantValue := 0 }, { name := "RX_OFFSET", type := .int, accessFlags := 26, slot := 7, constantValue := 0 }, { name := "TYPE_OFFSET", type := .int, accessFlags := 26, slot := 8, constantValue := 0 }, { name := "PAYLOAD_OFFSET", type := .int, accessFlags := 26, slot := 9, constantValue := 0 }, { name := "MAX_OBJECT_LENGTH", type := .int, accessFlags := 26, slot := 10, constantValue := 0 }, { name := "crc", type := .int, accessFlags := 18, slot := 0, constantValue := 0 }, { name := "tx", type := .int, accessFlags := 18, slot := 1, constantValue := 0 }, { name := "rx", type := .int, accessFlags := 18, slot := 2, constantValue := 0 }, { name := "type", type := .int, accessFlags := 18, slot := 3, constantValue := 0 }, { name := "payload", type := (.array .byte), accessFlags := 18, slot := 4, constantValue := 0 }, { name := "length", type := .int, accessFlags := 18, slot := 5, constantValue := 0 }]
  methods := #[k9m0]
  instanceTypes := #[.int, .int, .int, .int, (.array .byte), .int]
  staticTypes := #[.int, .int, .int, .int, .int, .int, .int, .int, .int, .int, .int]
  resolved := Array.replicate 246 none
  statics := none }

def pool10 : Array CpInfo := pool [(4, .class_ 6), (1, u "java/lang/Object"), (0, u "<init>"), (0, u "()V"), (5, .class_ 16), (1, u "java/lang/StringLatin1"), (73, u "canEncode"), (14, u "(C)Z"), (15, u "$assertionsDisabled"), (0, u "Z"), (98, .class_ 223), (1, u "java/lang/StringLatin1$LinesSpliterator"), (156, u "toBytes"), (1, u "(C)[B"), (7, .class_ 391), (0, u "java/lang/StringLatin1$CharsSpliterator")] 3

def k10m0 : Method := { name := "<init>", desc := "()V", sig := { parameters := [], returnType := none }, accessFlags := 0, code := none }
def k10c1 : Code := { maxStack := 2, maxLocals := 1, code := jdk_43_method_3_code, exceptionTable := #[], attributes := #[] }
def k10m1 : Method := { name := "canEncode", desc := "(C)Z", sig := { parameters := [.char], returnType := some .boolean }, accessFlags := 9, code := some k10c1 }
def k10c2 : Code := { maxStack := 4, maxLocals := 1, code := jdk_43_method_46_code, exceptionTable := #[], attributes := #[] }
def k10m2 : Method := { name := "toBytes", desc := "(C)[B", sig := { parameters := [.char], returnType := some (.array .byte) }, accessFlags := 9, code := some k10c2 }
/-- java/lang/StringLatin1 -/
def k10 : Class := { plain "java/lang/StringLatin1" (some 0) with
  accessFlags := 48
  interfaces := #[]
  cf := some (fileOf pool10 14 #[.nestMembers #[390, 221]] #[{ accessFlags := 0, nameIndex := 7, descriptorIndex := 8, attributes := #[] }, { accessFlags := 9, nameIndex := 90, descriptorIndex := 105, attributes := #[] }, { accessFlags := 9, nameIndex := 380, descriptorIndex := 382, attributes := #[] }] 48 4 #[] #[{ accessFlags := 4120, nameIndex := 121, descriptorIndex := 122, attributes := #[] }])
  fields := #[{ name := "$assertionsDisabled", type := .boolean, accessFlags := 4120, slot := 0, constantValue := 0 }]
  methods := #[k10m0, k10m1, k10m2]
  instanceTypes := #[]
  staticTypes := #[.boolean]
  resolved := Array.replicate 395 none
  statics := none }

def pool11 : Array CpInfo := pool [(2, .class_ 4), (1, u "java/lang/Object"), (0, u "<init>"), (0, u "()V"), (17, .class_ 26), (1, u "jdk/internal/util/Preconditions"), (28, .class_ 56), (0, u "jdk/internal/util/Preconditions$4"), (57, .class_ 115), (0, u "jdk/internal/util/Preconditions$1"), (7, u "SIOOBE_FORMATTER"), (0, u "Ljava/util/function/BiFunction;"), (0, .class_ 126), (0, u "jdk/internal/util/Preconditions$2"), (3, u "AIOOBE_FORMATTER"), (0, .class_ 132), (0, u "jdk/internal/util/Preconditions$3"), (3, u "IOOBE_FORMATTER")] 57

def k11m0 : Method := { name := "<init>", desc := "()V", sig := { parameters := [], returnType := none }, accessFlags := 1, code := none }
/-- jdk/internal/util/Preconditions -/
def k11 : Class := { plain "jdk/internal/util/Preconditions" (some 0) with
  accessFlags := 33
  interfaces := #[]
  cf := some (fileOf pool11 24 #[.nestMembers #[55, 131, 125, 114]] #[{ accessFlags := 1, nameIndex := 5, descriptorIndex := 6, attributes := #[] }] 33 2 #[] #[{ accessFlags := 25, nameIndex := 123, descriptorIndex := 124, attributes := #[] }, { accessFlags := 25, nameIndex := 130, descriptorIndex := 124, attributes := #[] }, { accessFlags := 25, nameIndex := 136, descriptorIndex := 124, attributes := #[] }])
  fields := #[{ name := "SIOOBE_FORMATTER", type := (.object "java/util/function/BiFunction"), accessFlags := 25, slot := 0, constantValue := 0 }, { name := "AIOOBE_FORMATTER", type := (.object "java/util/function/BiFunction"), accessFlags := 25, slot := 1, constantValue := 0 }, { name := "IOOBE_FORMATTER", type := (.object "java/util/function/BiFunction"), accessFlags := 25, slot := 2, constantValue := 0 }]
  methods := #[k11m0]
  instanceTypes := #[]
  staticTypes := #[(.object "java/util/function/BiFunction"), (.object "java/util/function/BiFunction"), (.object "java/util/function/BiFunction")]
  resolved := Array.replicate 194 none
  statics := some 1 }

def pool12 : Array CpInfo := pool [(9, u "<init>"), (6, .class_ 18), (1, u "java/lang/Object"), (0, u "()V"), (1, .class_ 23), (1, u "jdk/internal/util/ArraysSupport"), (0, u "LOG2_ARRAY_LONG_INDEX_SCALE"), (0, u "I"), (2, u "U"), (0, u "Ljdk/internal/misc/Unsafe;"), (8, u "BIG_ENDIAN"), (0, u "Z"), (8, u "LOG2_BYTE_BIT_SIZE"), (4, u "LOG2_ARRAY_INT_INDEX_SCALE"), (54, u "JLA"), (0, u "Ljdk/internal/access/JavaLangAccess;"), (11, u "LOG2_ARRAY_BOOLEAN_INDEX_SCALE"), (9, u "LOG2_ARRAY_BYTE_INDEX_SCALE"), (5, u "LOG2_ARRAY_CHAR_INDEX_SCALE"), (5, u "LOG2_ARRAY_SHORT_INDEX_SCALE"), (18, u "LOG2_ARRAY_FLOAT_INDEX_SCALE"), (24, u "LOG2_ARRAY_DOUBLE_INDEX_SCALE"), (89, u "T_BOOLEAN"), (2, u "T_CHAR"), (1, u "T_FLOAT"), (1, u "T_DOUBLE"), (1, u "T_BYTE"), (1, u "T_SHORT"), (1, u "T_INT"), (1, u "T_LONG"), (1, u "SOFT_MAX_ARRAY_LENGTH")] 83

def k12m0 : Method := { name := "<init>", desc := "()V", sig := { parameters := [], returnType := none }, accessFlags := 2, code := none }
/-- jdk/internal/util/ArraysSupport -/
def k12 : Class := { plain "jdk/internal/util/ArraysSupport" (some 0) with
  accessFlags := 33
  interfaces := #[]
  cf := some (fileOf pool12 21 #[] #[{ accessFlags := 2, nameIndex := 9, descriptorIndex := 19, attributes := #[] }] 33 16 #[] #[{ accessFlags := 24, nameIndex := 28, descriptorIndex := 29, attributes := #[] }, { accessFlags := 26, nameIndex := 38, descriptorIndex := 39, attributes := #[] }, { accessFlags := 25, nameIndex := 121, descriptorIndex := 25, attributes := #[] }, { accessFlags := 25, nameIndex := 131, descriptorIndex := 25, attributes := #[] }, { accessFlags := 25, nameIndex := 137, descriptorIndex := 25, attributes := #[] }, { accessFlags := 25, nameIndex := 143, descriptorIndex := 25, attributes := #[] }, { accessFlags := 25, nameIndex := 53, descriptorIndex := 25, attributes := #[] }, { accessFlags := 25, nameIndex := 24, descriptorIndex := 25, attributes := #[] }, { accessFlags := 25, nameIndex := 162, descriptorIndex := 25, attributes := #[] }, { accessFlags := 25, nameIndex := 187, descriptorIndex := 25, attributes := #[] }, { accessFlags := 26, nameIndex := 48, descriptorIndex := 25, attributes := #[] }, { accessFlags := 25, nameIndex := 277, descriptorIndex := 25, attributes := #[] }, { accessFlags := 25, nameIndex := 280, descriptorIndex := 25, attributes := #[] }, { accessFlags := 25, nameIndex := 282, descriptorIndex := 25, attributes := #[] }, { accessFlags := 25, nameIndex := 284, descriptorIndex := 25, attributes := #[] }, { accessFlags := 25, nameIndex := 286, descriptorIndex := 25, attributes := #[] }, { accessFlags := 25, nameIndex := 288, descriptorIndex := 25, attributes := #[] }, { accessFlags := 25, nameIndex := 290, descriptorIndex := 25, attributes := #[] }, { accessFlags := 25, nameIndex := 292, descriptorIndex := 25, attributes := #[] }, { accessFlags := 26, nameIndex := 108, descriptorIndex := 109, attributes := #[] }, { accessFlags := 25, nameIndex := 294, descriptorIndex := 25, attributes := #[] }])
  fields := #[{ name := "U", type := (.object "jdk/internal/misc/Unsafe"), accessFlags := 24, slot := 0, constantValue := 0 }, { name := "BIG_ENDIAN", type := .boolean, accessFlags := 26, slot := 1, constantValue := 0 }, { name := "LOG2_ARRAY_BOOLEAN_INDEX_SCALE", type := .int, accessFlags := 25, slot := 2, constantValue := 0 }, { name := "LOG2_ARRAY_BYTE_INDEX_SCALE", type := .int, accessFlags := 25, slot := 3, constantValue := 0 }, { name := "LOG2_ARRAY_CHAR_INDEX_SCALE", type := .int, accessFlags := 25, slot := 4, constantValue := 0 }, { name := "LOG2_ARRAY_SHORT_INDEX_SCALE", type := .int, accessFlags := 25, slot := 5, constantValue := 0 }, { name := "LOG2_ARRAY_INT_INDEX_SCALE", type := .int, accessFlags := 25, slot := 6, constantValue := 0 }, { name := "LOG2_ARRAY_LONG_INDEX_SCALE", type := .int, accessFlags := 25, slot := 7, constantValue := 0 }, { name := "LOG2_ARRAY_FLOAT_INDEX_SCALE", type := .int, accessFlags := 25, slot := 8, constantValue := 0 }, { name := "LOG2_ARRAY_DOUBLE_INDEX_SCALE", type := .int, accessFlags := 25, slot := 9, constantValue := 0 }, { name := "LOG2_BYTE_BIT_SIZE", type := .int, accessFlags := 26, slot := 10, constantValue := 0 }, { name := "T_BOOLEAN", type := .int, accessFlags := 25, slot := 11, constantValue := 0 }, { name := "T_CHAR", type := .int, accessFlags := 25, slot := 12, constantValue := 0 }, { name := "T_FLOAT", type := .int, accessFlags := 25, slot := 13, constantValue := 0 }, { name := "T_DOUBLE", type := .int, accessFlags := 25, slot := 14, constantValue := 0 }, { name := "T_BYTE", type := .int, accessFlags := 25, slot := 15, constantValue := 0 }, { name := "T_SHORT", type := .int, accessFlags := 25, slot := 16, constantValue := 0 }, { name := "T_INT", type := .int, accessFlags := 25, slot := 17, constantValue := 0 }, { name := "T_LONG", type := .int, accessFlags := 25, slot := 18, constantValue := 0 }, { name := "JLA", type := (.object "jdk/internal/access/JavaLangAccess"), accessFlags := 26, slot := 19, constantValue := 0 }, { name := "SOFT_MAX_ARRAY_LENGTH", type := .int, accessFlags := 25, slot := 20, constantValue := 0 }]
  methods := #[k12m0]
  instanceTypes := #[]
  staticTypes := #[(.object "jdk/internal/misc/Unsafe"), .boolean, .int, .int, .int, .int, .int, .int, .int, .int, .int, .int, .int, .int, .int, .int, .int, .int, .int, (.object "jdk/internal/access/JavaLangAccess"), .int]
  resolved := Array.replicate 378 none
  statics := none }

def pool13 : Array CpInfo := pool [(1, u "java/lang/Cloneable"), (0, .class_ 1), (0, u "java/lang/Object"), (0, .class_ 3)] 3

/-- java/lang/Cloneable -/
def k13 : Class := { plain "java/lang/Cloneable" (some 0) with
  accessFlags := 1537
  interfaces := #[]
  cf := some (fileOf pool13 2 #[] #[] 1537 4 #[] #[])
  fields := #[]
  methods := #[]
  instanceTypes := #[]
  staticTypes := #[]
  resolved := Array.replicate 8 none
  statics := none }

/-- the primitive byte -/
def k14 : Class := { plain "byte" none with kind := .primitive 'B', accessFlags := 0x411 }
/-- [B -/
def k15 : Class := { plain "[B" (some 0) with kind := .array 14 .byte, interfaces := #[13, 2], accessFlags := 1041 }

/-- the primitive char -/
def k16 : Class := { plain "char" none with kind := .primitive 'C', accessFlags := 0x411 }
/-- [C -/
def k17 : Class := { plain "[C" (some 0) with kind := .array 16 .char, interfaces := #[13, 2], accessFlags := 1041 }

/-- the primitive int -/
def k18 : Class := { plain "int" none with kind := .primitive 'I', accessFlags := 0x411 }
/-- [I -/
def k19 : Class := { plain "[I" (some 0) with kind := .array 18 .int, interfaces := #[13, 2], accessFlags := 1041 }

def heap : Heap := #[{ cls := 7, slots := #[.long 0, .int 1, .null, .int 0, .null, .int 0, .int 0], vm := .statics 7 },
  { cls := 11, slots := #[.null, .null, .null], vm := .statics 11 }]
def classes : Array Class := #[k0, k1, k2, k3, k4, k5, k6, k7, k8, k9, k10, k11, k12, k13, k14, k15, k16, k17, k18, k19]
def interned : List (Array UInt16 × Addr) := []
def slotsUsed : Nat := 10
def theMethod : MethodId := ⟨1, 1⟩
def args0 : Array Value := #[.int 5, .int 65, .int 66, .int 1]
def aboutOver (below : List Frame) : State where
  vm := { classes := classes, interned := interned.toArray }
  heap := heap
  slotsUsed := slotsUsed
  threads := #[{ frames := .invoking theMethod args0 :: below }]
def below0 : List Frame := [.native { method := ⟨0, 0⟩, args := #[] }]
def about1 : State := aboutOver below0
def p0 : Program := .bare "" "" ""
def e0 : Env := launch0.env 0 0 0
theorem w_frames : about1.frames = Frame.invoking theMethod args0 :: below0 := rfl
set_option maxRecDepth 65536 in
theorem w_args : argsFit about1.vm theMethod args0 = true := by decide +kernel
set_option maxRecDepth 65536 in
theorem w_heap : heapFits about1 = true := by decide +kernel
set_option maxRecDepth 65536 in
theorem w_runnable : about1.curStatus? = some .runnable := by decide +kernel
set_option maxRecDepth 65536 in
theorem w_alone : about1.alone = true := by decide +kernel
set_option maxRecDepth 65536 in
theorem w_named : about1.methodNamed? x = some theMethod := by decide +kernel
set_option maxRecDepth 65536 in
theorem w_hears : about1.hears theMethod below0 = true := by decide +kernel
set_option maxRecDepth 65536 in
theorem w_ripe : about1.ripe theMethod args0 below0 = true := by decide +kernel
theorem w_running : about1.status = .running := rfl
set_option maxRecDepth 65536 in
theorem w_room : about1.hasRoom e0.platform room_1 = true :=
  launch0.hasRoom_least _ room_1 (by decide +kernel) (by decide +kernel) (by decide +kernel) (by decide +kernel) (by decide +kernel) (by decide +kernel)
theorem allAtoms_all (ts : List Jvm.Cond) (a : Array Jvm.Value) (st : Jvm.State) : (allAtoms ts).before a st = ts.all (fun c => c.before a st) := by
  induction ts with
  | nil => rfl
  | cons c t ih =>
    show (Jvm.Cond.and c (allAtoms t)).before a st = _
    rw [Jvm.Cond.before_and, ih, List.all_cons]
def words1 : List Jvm.Cond := Jvm.Cond.code x code maxLocals ret :: tables_1
/-- a 'code' word, met by the world's own term for the bytes: nothing is compared byte by byte -/
theorem code_word {y : MethodName} {bytes : ByteArray} {mx : Nat} {rt : Option FieldType} {a : Array Value} {s : State} {m : MethodId} {meth : Method} {c : Code} (h1 : s.methodNamed? y = some m) (h2 : s.vm.method? m = some meth) (h3 : meth.code = some c) (h4 : c.code = bytes)
    (h5 : (c.maxLocals == mx && c.exceptionTable.isEmpty && decide (c.maxStack ≤ mostOperands) && decide (meth.sig.returnType = rt) && !meth.locks && decide (parseMethodDescriptor y.desc = some meth.sig)) = true) : (Jvm.Cond.code y bytes mx rt).before a s = true := by
  simp only [Bool.and_eq_true, beq_iff_eq, Bool.not_eq_true', decide_eq_true_eq] at h5
  obtain ⟨⟨⟨⟨⟨g1, g2⟩, g3⟩, g4⟩, g5⟩, g6⟩ := h5
  simp [Cond.before, Cond.holds, Cond.value, h1, h2, h3, h4, g1, g2, g3, g4, g5, g6]
def isCode : Jvm.Cond → Bool
  | .code _ _ _ _ => true
  | _ => false
theorem all_split {L : List Jvm.Cond} {P : Jvm.Cond → Bool} (h1 : L.all (fun c => isCode c || P c) = true) (h2 : ∀ c ∈ L.filter isCode, P c = true) : L.all P = true := by
  refine List.all_eq_true.mpr fun c hc => ?_
  have h := List.all_eq_true.mp h1 c hc
  rcases Bool.eq_false_or_eq_true (isCode c) with hi | hi
  · exact h2 c (List.mem_filter.mpr ⟨hc, hi⟩)
  · simpa [hi] using h
set_option maxRecDepth 65536 in
theorem w_c0 : (Jvm.Cond.code x code maxLocals ret).before args0 about1 = true := code_word (m := ⟨1, 1⟩) (meth := k1m1) (c := k1c1) (by decide +kernel) rfl rfl rfl (by decide +kernel)
set_option maxRecDepth 65536 in
theorem w_c1 : (Jvm.Cond.code ({ cls := "java/lang/String", name := "<init>", desc := "([C)V" } : Jvm.MethodName) jdk_42_method_3_code (2 : Nat) (Option.none : Option Jvm.ClassFile.FieldType)).before args0 about1 = true := code_word (m := ⟨7, 1⟩) (meth := k7m1) (c := k7c1) (by decide +kernel) rfl rfl rfl (by decide +kernel)
set_option maxRecDepth 65536 in
theorem w_c2 : (Jvm.Cond.code ({ cls := "java/lang/String", name := "<init>", desc := "([CIILjava/lang/Void;)V" } : Jvm.MethodName) jdk_42_method_149_code (6 : Nat) (Option.none : Option Jvm.ClassFile.FieldType)).before args0 about1 = true := code_word (m := ⟨7, 3⟩) (meth := k7m3) (c := k7c3) (by decide +kernel) rfl rfl rfl (by decide +kernel)
set_option maxRecDepth 65536 in
theorem w_c3 : (Jvm.Cond.code ({ cls := "java/lang/Object", name := "<init>", desc := "()V" } : Jvm.MethodName) object_method_1_code (1 : Nat) (Option.none : Option Jvm.ClassFile.FieldType)).before args0 about1 = true := code_word (m := ⟨0, 0⟩) (meth := k0m0) (c := k0c0) (by decide +kernel) rfl rfl rfl (by decide +kernel)
set_option maxRecDepth 65536 in
theorem w_c4 : (Jvm.Cond.code ({ cls := "java/lang/StringUTF16", name := "compress", desc := "([CII)[B" } : Jvm.MethodName) jdk_52_method_16_code (6 : Nat) (Option.some (Jvm.ClassFile.FieldType.array Jvm.ClassFile.FieldType.byte))).before args0 about1 = true := code_word (m := ⟨8, 2⟩) (meth := k8m2) (c := k8c2) (by decide +kernel) rfl rfl rfl (by decide +kernel)
set_option maxRecDepth 65536 in
theorem w_c5 : (Jvm.Cond.code ({ cls := "java/lang/StringUTF16", name := "compress", desc := "([CI[BII)I" } : Jvm.MethodName) jdk_52_method_21_code (7 : Nat) (Option.some Jvm.ClassFile.FieldType.int)).before args0 about1 = true := code_word (m := ⟨8, 3⟩) (meth := k8m3) (c := k8c3) (by decide +kernel) rfl rfl rfl (by decide +kernel)
set_option maxRecDepth 65536 in
theorem w_c6 : (Jvm.Cond.code ({ cls := "java/lang/StringUTF16", name := "coderFromArrayLen", desc := "([BI)B" } : Jvm.MethodName) jdk_52_method_15_code (2 : Nat) (Option.some Jvm.ClassFile.FieldType.byte)).before args0 about1 = true := code_word (m := ⟨8, 1⟩) (meth := k8m1) (c := k8c1) (by decide +kernel) rfl rfl rfl (by decide +kernel)
set_option maxRecDepth 65536 in
theorem w_c7 : (Jvm.Cond.code ({ cls := "com/example/inkwire/inkwire/habitat/QLinkFrame", name := "requireByte", desc := "(Ljava/lang/String;I)V" } : Jvm.MethodName) prog_26_method_14_code (2 : Nat) (Option.none : Option Jvm.ClassFile.FieldType)).before args0 about1 = true := code_word (m := ⟨9, 0⟩) (meth := k9m0) (c := k9c0) (by decide +kernel) rfl rfl rfl (by decide +kernel)
set_option maxRecDepth 65536 in
theorem w_c8 : (Jvm.Cond.code ({ cls := "java/lang/String", name := "valueOf", desc := "(C)Ljava/lang/String;" } : Jvm.MethodName) jdk_42_method_139_code (1 : Nat) (Option.some (Jvm.ClassFile.FieldType.object "java/lang/String"))).before args0 about1 = true := code_word (m := ⟨7, 2⟩) (meth := k7m2) (c := k7c2) (by decide +kernel) rfl rfl rfl (by decide +kernel)
set_option maxRecDepth 65536 in
theorem w_c9 : (Jvm.Cond.code ({ cls := "java/lang/StringLatin1", name := "canEncode", desc := "(C)Z" } : Jvm.MethodName) jdk_43_method_3_code (1 : Nat) (Option.some Jvm.ClassFile.FieldType.boolean)).before args0 about1 = true := code_word (m := ⟨10, 1⟩) (meth := k10m1) (c := k10c1) (by decide +kernel) rfl rfl rfl (by decide +kernel)
set_option maxRecDepth 65536 in
theorem w_c10 : (Jvm.Cond.code ({ cls := "java/lang/StringLatin1", name := "toBytes", desc := "(C)[B" } : Jvm.MethodName) jdk_43_method_46_code (1 : Nat) (Option.some (Jvm.ClassFile.FieldType.array Jvm.ClassFile.FieldType.byte))).before args0 about1 = true := code_word (m := ⟨10, 2⟩) (meth := k10m2) (c := k10c2) (by decide +kernel) rfl rfl rfl (by decide +kernel)
set_option maxRecDepth 65536 in
theorem w_c11 : (Jvm.Cond.code ({ cls := "java/lang/String", name := "<init>", desc := "([BB)V" } : Jvm.MethodName) jdk_42_method_151_code (3 : Nat) (Option.none : Option Jvm.ClassFile.FieldType)).before args0 about1 = true := code_word (m := ⟨7, 4⟩) (meth := k7m4) (c := k7c4) (by decide +kernel) rfl rfl rfl (by decide +kernel)
def codes1 : List Jvm.Cond := [Jvm.Cond.code x code maxLocals ret, Jvm.Cond.code ({ cls := "java/lang/String", name := "<init>", desc := "([C)V" } : Jvm.MethodName) jdk_42_method_3_code (2 : Nat) (Option.none : Option Jvm.ClassFile.FieldType), Jvm.Cond.code ({ cls := "java/lang/String", name := "<init>", desc := "([CIILjava/lang/Void;)V" } : Jvm.MethodName) jdk_42_method_149_code (6 : Nat) (Option.none : Option Jvm.ClassFile.FieldType), Jvm.Cond.code ({ cls := "java/lang/Object", name := "<init>", desc := "()V" } : Jvm.MethodName) object_method_1_code (1 : Nat) (Option.none : Option Jvm.ClassFile.FieldType), Jvm.Cond.code ({ cls := "java/lang/StringUTF16", name := "compress", desc := "([CII)[B" } : Jvm.MethodName) jdk_52_method_16_code (6 : Nat) (Option.some (Jvm.ClassFile.FieldType.array Jvm.ClassFile.FieldType.byte)), Jvm.Cond.code ({ cls := "java/lang/StringUTF16", name := "compress", desc := "([CI[BII)I" } : Jvm.MethodName) jdk_52_method_21_code (7 : Nat) (Option.some Jvm.ClassFile.FieldType.int), Jvm.Cond.code ({ cls := "java/lang/StringUTF16", name := "coderFromArrayLen", desc := "([BI)B" } : Jvm.MethodName) jdk_52_method_15_code (2 : Nat) (Option.some Jvm.ClassFile.FieldType.byte), Jvm.Cond.code ({ cls := "com/example/inkwire/inkwire/habitat/QLinkFrame", name := "requireByte", desc := "(Ljava/lang/String;I)V" } : Jvm.MethodName) prog_26_method_14_code (2 : Nat) (Option.none : Option Jvm.ClassFile.FieldType), Jvm.Cond.code ({ cls := "java/lang/String", name := "valueOf", desc := "(C)Ljava/lang/String;" } : Jvm.MethodName) jdk_42_method_139_code (1 : Nat) (Option.some (Jvm.ClassFile.FieldType.object "java/lang/String")), Jvm.Cond.code ({ cls := "java/lang/StringLatin1", name := "canEncode", desc := "(C)Z" } : Jvm.MethodName) jdk_43_method_3_code (1 : Nat) (Option.some Jvm.ClassFile.FieldType.boolean), Jvm.Cond.code ({ cls := "java/lang/StringLatin1", name := "toBytes", desc := "(C)[B" } : Jvm.MethodName) jdk_43_method_46_code (1 : Nat) (Option.some (Jvm.ClassFile.FieldType.array Jvm.ClassFile.FieldType.byte)), Jvm.Cond.code ({ cls := "java/lang/String", name := "<init>", desc := "([BB)V" } : Jvm.MethodName) jdk_42_method_151_code (3 : Nat) (Option.none : Option Jvm.ClassFile.FieldType)]
set_option maxRecDepth 65536 in
theorem codes_eq : words1.filter isCode = codes1 := rfl
theorem w_codes : ∀ c ∈ words1.filter isCode, c.before args0 about1 = true := by
  rw [codes_eq]
  intro c hc
  simp only [codes1, List.mem_cons, List.not_mem_nil, or_false] at hc
  rcases hc with rfl | rfl | rfl | rfl | rfl | rfl | rfl | rfl | rfl | rfl | rfl | rfl
  · exact w_c0
  · exact w_c1
  · exact w_c2
  · exact w_c3
  · exact w_c4
  · exact w_c5
  · exact w_c6
  · exact w_c7
  · exact w_c8
  · exact w_c9
  · exact w_c10
  · exact w_c11
set_option maxRecDepth 65536 in
theorem w_t1 : (words1.take 24).all (fun c => isCode c || c.before args0 about1) = true := by decide +kernel
set_option maxRecDepth 65536 in
theorem w_t2 : ((words1.drop 24).take 24).all (fun c => isCode c || c.before args0 about1) = true := by decide +kernel
set_option maxRecDepth 65536 in
theorem w_t3 : ((words1.drop 24).drop 24).all (fun c => isCode c || c.before args0 about1) = true := by decide +kernel
theorem w_tables : (allAtoms (Jvm.Cond.code x code maxLocals ret :: tables_1)).before args0 about1 = true := by
  rw [allAtoms_all]
  show words1.all (fun c => c.before args0 about1) = true
  refine all_split ?_ w_codes
  rw [← List.take_append_drop 24 words1, List.all_append, w_t1, ← List.take_append_drop 24 (words1.drop 24), List.all_append, w_t2, w_t3]
  rfl
set_option maxRecDepth 65536 in
theorem w_rest : rest_1_c.before args0 about1 = true := by decide +kernel
set_option maxRecDepth 65536 in
theorem w_case : (Jvm.Cond.and given_1 narrow_1).before args0 about1 = true := by decide +kernel
theorem w_applies : (headSpec (Jvm.Cond.code x code maxLocals ret :: tables_1) room_1).applies x e0.platform about1 = true :=
  (Spec.applies_iff w_frames).mpr ⟨w_running, w_runnable, w_alone, w_named, w_hears, w_ripe, w_room, w_tables⟩
theorem atStart : AtStart classFile x code maxLocals ret World_1 tables_1 room_1 Calls_1 rest_1 Pre_1 launch0 p0 e0 about1 theMethod args0 below0 :=
  ⟨lists_1, trivial, launch0.admits_env _ _ _, launch0.least_env, fairChoices_fair.cas, fairChoices_fair.clock, w_frames, w_args, w_heap, w_applies, trivial, w_rest, w_case⟩
end start1
theorem witness_1 : WitnessClaimed_1 := ⟨start1.p0, start1.e0, start1.about1, start1.theMethod, start1.args0, start1.below0, start1.atStart⟩
end Jvm.Pilot.@@N@@
