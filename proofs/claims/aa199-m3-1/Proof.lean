import JvmDerived
import JvmDerived.Pilot.@@N@@Statement
import JvmDerived.Pilot.@@N@@Code
set_option linter.unusedVariables false
set_option linter.unusedSimpArgs false
@@BLOCK:NumsL.lean.txt@@
namespace Jvm.RoadKit
open Sem ClassFile Op Lib Jvm.Stand Jvm.Free Jvm.LawKit
section Own
variable {p : Program} {l : Launch} {e : Env} {R : Room} {s : State} {m : MethodId} {args : Array Value} {below : List Frame} {meth : Method} {c : Code} {T : State} {locs : List Loc} {cells slots : Nat} {Z : State} {h h' : Heap} {Q : Option Value → Heap → List Loc → Prop} {kc ks : Nat}
/-- from the state S the run comes to an end of which Q holds -/
def OGo (p : Program) (e : Env) (below : List Frame) (s : State) (Q : Option Value → Heap → List Loc → Prop) (kc ks : Nat) (S : State) : Prop :=
  ∃ s₂ o, Steps p.tables e below S s₂ ∧ s₂.status = .running ∧ Ended s₂ below o ∧ ∃ v L, o = .returned v ∧ Q v s₂.heap L ∧ FrameEnd s o s₂ L kc ks
theorem OGo.on {C N : State} (st : ∀ t, Steps p.tables e below N t → Steps p.tables e below C t) (h : OGo p e below s Q kc ks N) : OGo p e below s Q kc ks C := by
  obtain ⟨s₂, o, h1, h2⟩ := h
  exact ⟨s₂, o, st _ h1, h2⟩
theorem OGo.fin (X : Stand p l e R s m args below meth c T locs cells slots) {v : Option Value} (hv : meth.sig.returnType = none → v = none) (hlocks : meth.locks = false) {C : State}
    (st : ∀ fs, (∀ (f : JFrame) (acts : List Action), f.method = m → f.locked = none → f.entered = [] → (doReturn e (T.setTop f) acts v).1 = T.setFrames fs) → Steps p.tables e below C (T.setFrames fs)) (hq : Q v T.heap locs) (hc : cells ≤ kc) (hs : slots ≤ ks) : OGo p e below s Q kc ks C := by
  obtain ⟨fs, hr, hrun, hended, hW, hsame⟩ := X.leave hv hlocks
  exact ⟨_, _, st fs hr, hrun, hended, v, locs, rfl, hq, ⟨_, rfl⟩, hW, hsame.mono hc hs⟩
theorem OGo.retN (X : Stand p l e R s m args below meth c T locs cells slots) (hx : p.tables.exec = Jvm.exec) {pc : Nat} {Ls : Array Slot} {z : Int32} {t : FieldType} {rest : List Value} (hret : meth.sig.returnType = some t) (hlocks : meth.locks = false) (ht : t = .boolean ∨ t = .byte ∨ t = .char ∨ t = .short)
    (hd : decode c.code pc = .ok (.ireturn, 1)) (hq : Q (some (.int (nar t z))) T.heap locs) (hc : cells ≤ kc) (hs : slots ≤ ks) : OGo p e below s Q kc ks (T.setTop (mkF m pc Ls (.int z :: rest))) :=
  OGo.fin X (fun h => by rw [hret] at h; cases h) hlocks (fun fs hr => Jvm.RoadKit.retN X hx hret ht hd hr) hq hc hs
theorem OGo.retI (X : Stand p l e R s m args below meth c T locs cells slots) (hx : p.tables.exec = Jvm.exec) {pc : Nat} {Ls : Array Slot} {z : Int32} {rest : List Value} (hret : meth.sig.returnType = some .int) (hlocks : meth.locks = false)
    (hd : decode c.code pc = .ok (.ireturn, 1)) (hq : Q (some (.int z)) T.heap locs) (hc : cells ≤ kc) (hs : slots ≤ ks) : OGo p e below s Q kc ks (T.setTop (mkF m pc Ls (.int z :: rest))) :=
  OGo.fin X (fun h => by rw [hret] at h; cases h) hlocks (fun fs hr => retOut X hx hret rfl (Or.inl ⟨rfl, Or.inl rfl, _, rfl⟩) hd hr) hq hc hs
theorem OGo.retJ (X : Stand p l e R s m args below meth c T locs cells slots) (hx : p.tables.exec = Jvm.exec) {pc : Nat} {Ls : Array Slot} {z : Int64} {rest : List Value} (hret : meth.sig.returnType = some .long) (hlocks : meth.locks = false)
    (hd : decode c.code pc = .ok (.lreturn, 1)) (hq : Q (some (.long z)) T.heap locs) (hc : cells ≤ kc) (hs : slots ≤ ks) : OGo p e below s Q kc ks (T.setTop (mkF m pc Ls (.long z :: rest))) :=
  OGo.fin X (fun h => by rw [hret] at h; cases h) hlocks (fun fs hr => retOut X hx hret rfl (Or.inr (Or.inl ⟨rfl, rfl, _, rfl⟩)) hd hr) hq hc hs
theorem OGo.retA (X : Stand p l e R s m args below meth c T locs cells slots) (hx : p.tables.exec = Jvm.exec) {pc : Nat} {Ls : Array Slot} {a : Addr} {t : FieldType} {rest : List Value} (hret : meth.sig.returnType = some t) (ht : t.isReference = true) (hn : narrow t (.ref a) = .ref a) (hlocks : meth.locks = false)
    (hd : decode c.code pc = .ok (.areturn, 1)) (hq : Q (some (.ref a)) T.heap locs) (hc : cells ≤ kc) (hs : slots ≤ ks) : OGo p e below s Q kc ks (T.setTop (mkF m pc Ls (.ref a :: rest))) :=
  OGo.fin X (fun h => by rw [hret] at h; cases h) hlocks (fun fs hr => retOut X hx hret hn (Or.inr (Or.inr (Or.inr (Or.inr ⟨rfl, ht, rfl⟩)))) hd hr) hq hc hs
theorem OGo.ret0 (X : Stand p l e R s m args below meth c T locs cells slots) (hx : p.tables.exec = Jvm.exec) {pc : Nat} {Ls : Array Slot} (hret : meth.sig.returnType = none) (hlocks : meth.locks = false)
    (hd : decode c.code pc = .ok (.return_, 1)) (hq : Q none T.heap locs) (hc : cells ≤ kc) (hs : slots ≤ ks) : OGo p e below s Q kc ks (T.setTop (mkF m pc Ls [])) :=
  OGo.fin X (fun _ => rfl) hlocks (fun fs hr => X.returnOut hx hret hd hr) hq hc hs
/-- what a body that writes nothing leaves -/
def OPure (n0 : Nat) (h0 : Heap) (r : Option Value) (v : Option Value) (h : Heap) (L : List Loc) : Prop := v = r ∧ Fr n0 L ∧ h = h0
theorem opI {n0 : Nat} {h0 : Heap} {x y : Int32} {L : List Loc} (q : x = y) (N : Fr n0 L) (E : h = h0) : OPure n0 h0 (some (.int y)) (some (.int x)) h L := ⟨by rw [q], N, E⟩
theorem opJ {n0 : Nat} {h0 : Heap} {x y : Int64} {L : List Loc} (q : x = y) (N : Fr n0 L) (E : h = h0) : OPure n0 h0 (some (.long y)) (some (.long x)) h L := ⟨by rw [q], N, E⟩
theorem own_nz1 : nar .boolean 1 = 1 := rfl
theorem own_nz0 : nar .boolean 0 = 0 := rfl
theorem own_irem {C : State} {x y : Int32} {g : JFrame} (X : Stand p l e R s m args below meth c T locs cells slots) (hx : p.tables.exec = Jvm.exec) (hg : g.method = m) {rest : List Value} (hd : decode c.code g.pc = .ok (.irem, 1)) (hs : g.stack = .int y :: .int x :: rest) (hy : y ≠ 0) :
    ∀ t, Steps p.tables e below (T.setTop { g with pc := g.pc + 1, stack := .int (x % y) :: rest }) t → Steps p.tables e below (T.setTop g) t := fun t k => iremM X hx hg hd hs hy k
/-! lcmp and the branch behind it -/
theorem own_lc (cd : ClassFile.Cond) (a b : Int64) : ifCond.holds cd (lcmpW a b) = (match cd with | .eq => decide (a = b) | .ne => !decide (a = b) | .lt => decide (a < b) | .ge => !decide (a < b) | .gt => decide (b < a) | .le => !decide (b < a)) := by
  have h1 : a = b ↔ a.toInt = b.toInt := (Int64.toInt_inj).symm
  by_cases g : a > b
  · have g' : b.toInt < a.toInt := Int64.lt_iff_toInt_lt.mp g
    have e1 : lcmpW a b = 1 := if_pos g
    have e2 : ¬ a = b := fun q => by rw [h1] at q; omega
    have e3 : ¬ a < b := fun q => by rw [Int64.lt_iff_toInt_lt] at q; omega
    have e4 : b < a := g
    rw [e1]; cases cd <;> simp [e2, e3, e4] <;> decide
  · by_cases q : a = b
    · have e1 : lcmpW a b = 0 := by rw [lcmpW, if_neg g, if_pos q]
      subst q
      have e3 : ¬ a < a := fun q => by rw [Int64.lt_iff_toInt_lt] at q; omega
      rw [e1]; cases cd <;> simp [e3] <;> decide
    · have e1 : lcmpW a b = -1 := by rw [lcmpW, if_neg g, if_neg q]
      have g1 : ¬ b < a := g
      have g2 : a < b := by rw [Int64.lt_iff_toInt_lt] at g1 ⊢; rw [h1] at q; omega
      rw [e1]; cases cd <;> simp [q, g1, g2] <;> decide
theorem lc_tlt {a b : Int64} (h : a < b) : ifCond.holds .lt (lcmpW a b) = true ∧ ifCond.holds .ge (lcmpW a b) = false ∧ ifCond.holds .gt (lcmpW b a) = true ∧ ifCond.holds .le (lcmpW b a) = false := by simp only [own_lc]; simp [h]
theorem lc_flt {a b : Int64} (h : ¬ a < b) : ifCond.holds .lt (lcmpW a b) = false ∧ ifCond.holds .ge (lcmpW a b) = true ∧ ifCond.holds .gt (lcmpW b a) = false ∧ ifCond.holds .le (lcmpW b a) = true := by simp only [own_lc]; simp [h]
theorem lc_teq {a b : Int64} (h : a = b) : ifCond.holds .eq (lcmpW a b) = true ∧ ifCond.holds .ne (lcmpW a b) = false := by simp only [own_lc]; simp [h]
theorem lc_feq {a b : Int64} (h : ¬ a = b) : ifCond.holds .eq (lcmpW a b) = false ∧ ifCond.holds .ne (lcmpW a b) = true := by simp only [own_lc]; simp [h]
theorem own_nm0 {a : Addr} : a ∉ ([] : List Addr) := fun q => nomatch q
theorem own_nm1 {a b : Addr} (h : a ≠ b) : a ∉ [b] := fun q => h (List.mem_singleton.mp q)
theorem own_nm2 {a b d : Addr} (h : a ≠ b) (h' : a ≠ d) : a ∉ [b, d] := fun q => (List.mem_cons.mp q).elim h fun q => h' (List.mem_singleton.mp q)
theorem own_nm3 {a b d f : Addr} (h : a ≠ b) (h' : a ≠ d) (h'' : a ≠ f) : a ∉ [b, d, f] := fun q => (List.mem_cons.mp q).elim h fun q => (own_nm2 h' h'') q
/-! arrays of numbers, known whole -/
/-- the array at a holds just the ints vs -/
def OAL (Z : State) (h : Heap) (a : Addr) (ty : FieldType) (vs : List Int32) : Prop := ∃ c : Cell, Arr Z h a c ty ∧ c.slots = (vs.map Value.int).toArray
/-- the array at a holds just the longs vs -/
def OAJ (Z : State) (h : Heap) (a : Addr) (vs : List Int64) : Prop := ∃ c : Cell, Arr Z h a c .long ∧ c.slots = (vs.map Value.long).toArray
/-- the place j lies inside and holds v -/
def OAt {α : Type} (vs : List α) (j : Int32) (v : α) : Prop := ¬ j < 0 ∧ vs[j.toNatClampNeg]? = some v
variable {a b : Addr} {ty : FieldType} {vs : List Int32} {us : List Int64} {ws : List Addr} {sl : Nat} {w : Value}
theorem OAL.lt (A : OAL Z h a ty vs) : a < h.size := by obtain ⟨c, A, -⟩ := A; exact A.lt
theorem OAJ.lt (A : OAJ Z h a us) : a < h.size := by obtain ⟨c, A, -⟩ := A; exact A.lt
theorem OAL.ext (A : OAL Z h a ty vs) (E : Ext h h') : OAL Z h' a ty vs := by obtain ⟨c, A, r⟩ := A; exact ⟨c, A.ext E, r⟩
theorem OAJ.ext (A : OAJ Z h a us) (E : Ext h h') : OAJ Z h' a us := by obtain ⟨c, A, r⟩ := A; exact ⟨c, A.ext E, r⟩
theorem OAL.keep (A : OAL Z h a ty vs) (K : Keep h h' ws) (q : a ∉ ws) : OAL Z h' a ty vs := by obtain ⟨c, A, r⟩ := A; exact ⟨c, ⟨K.2.1 a c A.1 q, A.2⟩, r⟩
theorem OAJ.keep (A : OAJ Z h a us) (K : Keep h h' ws) (q : a ∉ ws) : OAJ Z h' a us := by obtain ⟨c, A, r⟩ := A; exact ⟨c, ⟨K.2.1 a c A.1 q, A.2⟩, r⟩
theorem OAL.other (A : OAL Z h b ty vs) (W : Wr h h' a sl w) (q : b ≠ a) : OAL Z h' b ty vs := by obtain ⟨c, A, r⟩ := A; exact ⟨c, A.other W q, r⟩
theorem OAJ.other (A : OAJ Z h b us) (W : Wr h h' a sl w) (q : b ≠ a) : OAJ Z h' b us := by obtain ⟨c, A, r⟩ := A; exact ⟨c, A.other W q, r⟩
theorem own_slots (cl : Cell) (i : Nat) (v : Value) : (cl.setSlot i v).slots = cl.slots.setIfInBounds i v := rfl
theorem OAL.same (A : OAL Z h a ty vs) {i : Nat} {x : Int32} (W : Wr h h' a i (.int x)) : OAL Z h' a ty (vs.set i x) := by
  obtain ⟨c, A, r⟩ := A
  exact ⟨_, A.same W, by rw [own_slots, r]; simp [List.map_set]⟩
theorem OAJ.same (A : OAJ Z h a us) {i : Nat} {x : Int64} (W : Wr h h' a i (.long x)) : OAJ Z h' a (us.set i x) := by
  obtain ⟨c, A, r⟩ := A
  exact ⟨_, A.same W, by rw [own_slots, r]; simp [List.map_set]⟩
theorem OAL.new {cA : ClassId} {n : Int32} (A : Arr Z h a (newA cA ty n) ty) (q : defaultValue ty = .int 0) : OAL Z h a ty (List.replicate n.toNatClampNeg 0) := ⟨_, A, by
  show Array.replicate n.toNatClampNeg (defaultValue ty) = _
  rw [q]; simp⟩
theorem OAJ.new {cA : ClassId} {n : Int32} (A : Arr Z h a (newA cA .long n) .long) : OAJ Z h a (List.replicate n.toNatClampNeg 0) := ⟨_, A, by
  show Array.replicate n.toNatClampNeg (Value.long 0) = _
  simp⟩
theorem own_in {α : Type} {vs : List α} {f : α → Value} {j : Int32} {v : α} {cl : Cell} (r : cl.slots = (vs.map f).toArray) (q : OAt vs j v) : ¬ (j < 0 ∨ cl.slots.size ≤ j.toNatClampNeg) ∧ cl.slots[j.toNatClampNeg]? = some (f v) := by
  obtain ⟨q1, q2⟩ := q
  have hl := (List.getElem?_eq_some_iff.mp q2).1
  rw [r]
  refine ⟨fun z => z.elim q1 fun y => ?_, ?_⟩
  · simp at y; omega
  · simp [q2]
theorem OAL.baB (X : Stand p l e R s m args below meth c T locs cells slots) (hx : p.tables.exec = Jvm.exec) (hZ : Z.Warmed39 s.vm) (eT : T.heap = h) (A : OAL Z h a .byte vs) {j v : Int32} (q : OAt vs j v) {pc : Nat} {Ls : Array Slot} {rest : List Value} (hd : decode c.code pc = .ok (.baload, 1)) {t : State}
    (k : Steps p.tables e below (T.setTop (mkF m (pc + 1) Ls (.int v :: rest))) t) : Steps p.tables e below (T.setTop (mkF m pc Ls (.int j :: .ref a :: rest))) t := by
  obtain ⟨cl, A, r⟩ := A
  exact X.baloadBytes hx (j := j) (v := .int v) (by rw [eT]; exact A.1) (State.isArrayOf_alike hZ.alike A.2.1) A.2.2 (own_in r q).1 (own_in r q).2 (g := mkF m pc Ls (.int j :: .ref a :: rest)) rfl rfl hd _ k
theorem OAL.baZ (X : Stand p l e R s m args below meth c T locs cells slots) (hx : p.tables.exec = Jvm.exec) (hZ : Z.Warmed39 s.vm) (eT : T.heap = h) (A : OAL Z h a .boolean vs) {j v : Int32} (q : OAt vs j v) {pc : Nat} {Ls : Array Slot} {rest : List Value} (hd : decode c.code pc = .ok (.baload, 1)) {t : State}
    (k : Steps p.tables e below (T.setTop (mkF m (pc + 1) Ls (.int v :: rest))) t) : Steps p.tables e below (T.setTop (mkF m pc Ls (.int j :: .ref a :: rest))) t := by
  obtain ⟨cl, A, r⟩ := A
  exact X.baloadBooleans hx (j := j) (v := .int v) (by rw [eT]; exact A.1) (State.isArrayOf_alike hZ.alike A.2.1) A.2.2 (own_in r q).1 (own_in r q).2 (g := mkF m pc Ls (.int j :: .ref a :: rest)) rfl rfl hd _ k
theorem OAL.ia (X : Stand p l e R s m args below meth c T locs cells slots) (hx : p.tables.exec = Jvm.exec) (hZ : Z.Warmed39 s.vm) (eT : T.heap = h) (A : OAL Z h a .int vs) {j v : Int32} (q : OAt vs j v) {pc : Nat} {Ls : Array Slot} {rest : List Value} (hd : decode c.code pc = .ok (.iaload, 1)) {t : State}
    (k : Steps p.tables e below (T.setTop (mkF m (pc + 1) Ls (.int v :: rest))) t) : Steps p.tables e below (T.setTop (mkF m pc Ls (.int j :: .ref a :: rest))) t := by
  obtain ⟨cl, A, r⟩ := A
  exact X.iaload hx (j := j) (v := .int v) (by rw [eT]; exact A.1) (State.isArrayOf_alike hZ.alike A.2.1) A.2.2 (own_in r q).1 (own_in r q).2 (g := mkF m pc Ls (.int j :: .ref a :: rest)) rfl rfl hd _ k
theorem OAJ.la (X : Stand p l e R s m args below meth c T locs cells slots) (hx : p.tables.exec = Jvm.exec) (hZ : Z.Warmed39 s.vm) (eT : T.heap = h) (A : OAJ Z h a us) {j : Int32} {v : Int64} (q : OAt us j v) {pc : Nat} {Ls : Array Slot} {rest : List Value} (hd : decode c.code pc = .ok (.laload, 1)) {t : State}
    (k : Steps p.tables e below (T.setTop (mkF m (pc + 1) Ls (.long v :: rest))) t) : Steps p.tables e below (T.setTop (mkF m pc Ls (.int j :: .ref a :: rest))) t := by
  obtain ⟨cl, A, r⟩ := A
  exact X.laload hx (j := j) (v := .long v) (by rw [eT]; exact A.1) (State.isArrayOf_alike hZ.alike A.2.1) A.2.2 (own_in r q).1 (own_in r q).2 (g := mkF m pc Ls (.int j :: .ref a :: rest)) rfl rfl hd _ k
theorem OAL.len (X : Stand p l e R s m args below meth c T locs cells slots) (hx : p.tables.exec = Jvm.exec) (hZ : Z.Warmed39 s.vm) (eT : T.heap = h) (A : OAL Z h a ty vs) {n : Int32} (q : vs.length.toInt32 = n) {pc : Nat} {Ls : Array Slot} {rest : List Value} (hd : decode c.code pc = .ok (.arraylength, 1)) {t : State}
    (k : Steps p.tables e below (T.setTop (mkF m (pc + 1) Ls (.int n :: rest))) t) : Steps p.tables e below (T.setTop (mkF m pc Ls (.ref a :: rest))) t := by
  obtain ⟨cl, A, r⟩ := A
  have z : cl.slots.size = vs.length := by rw [r]; simp
  exact X.arraylength hx (by rw [eT]; exact A.1) (State.isArrayOf_alike hZ.alike A.2.1) (g := mkF m pc Ls (.ref a :: rest)) rfl rfl hd _ (by rw [z, q]; exact k)
theorem OAJ.len (X : Stand p l e R s m args below meth c T locs cells slots) (hx : p.tables.exec = Jvm.exec) (hZ : Z.Warmed39 s.vm) (eT : T.heap = h) (A : OAJ Z h a us) {n : Int32} (q : us.length.toInt32 = n) {pc : Nat} {Ls : Array Slot} {rest : List Value} (hd : decode c.code pc = .ok (.arraylength, 1)) {t : State}
    (k : Steps p.tables e below (T.setTop (mkF m (pc + 1) Ls (.int n :: rest))) t) : Steps p.tables e below (T.setTop (mkF m pc Ls (.ref a :: rest))) t := by
  obtain ⟨cl, A, r⟩ := A
  have z : cl.slots.size = us.length := by rw [r]; simp
  exact X.arraylength hx (by rw [eT]; exact A.1) (State.isArrayOf_alike hZ.alike A.2.1) (g := mkF m pc Ls (.ref a :: rest)) rfl rfl hd _ (by rw [z, q]; exact k)
theorem own_into {α : Type} {vs : List α} {f : α → Value} {j : Int32} {cl : Cell} (r : cl.slots = (vs.map f).toArray) (q1 : ¬ j < 0) (q2 : j.toNatClampNeg < vs.length) : ¬ (j < 0 ∨ cl.slots.size ≤ j.toNatClampNeg) := by
  rw [r]
  exact fun z => z.elim q1 fun y => by simp at y; omega
theorem OAL.stB (X : Stand p l e R s m args below meth c T locs cells slots) (hx : p.tables.exec = Jvm.exec) (hZ : Z.Warmed39 s.vm) (eT : T.heap = h) (A : OAL Z h a .byte vs) {j x : Int32} (q1 : ¬ j < 0) (q2 : j.toNatClampNeg < vs.length) {pc : Nat} {Ls : Array Slot} {rest : List Value} (hd : decode c.code pc = .ok (.bastore, 1)) :
    ∃ T' h', Stand p l e R s m args below meth c T' (locs ++ [⟨a, j.toNatClampNeg⟩]) cells slots ∧ T'.heap = h' ∧ Wr h h' a j.toNatClampNeg (.int (nar .byte x)) ∧ OAL Z h' a .byte (vs.set j.toNatClampNeg (nar .byte x)) ∧ ∀ t, Steps p.tables e below (T'.setTop (mkF m (pc + 1) Ls rest)) t → Steps p.tables e below (T.setTop (mkF m pc Ls (.int x :: .int j :: .ref a :: rest))) t := by
  obtain ⟨cl, A', r⟩ := A
  obtain ⟨T', h', X', e', W', st⟩ := Jvm.RoadKit.stB X hx hZ eT A' (j := j) (x := x) (own_into r q1 q2) (g := mkF m pc Ls (.int x :: .int j :: .ref a :: rest)) rfl rfl hd
  exact ⟨T', h', X', e', W', OAL.same ⟨cl, A', r⟩ W', st⟩
theorem OAL.stZ (X : Stand p l e R s m args below meth c T locs cells slots) (hx : p.tables.exec = Jvm.exec) (hZ : Z.Warmed39 s.vm) (eT : T.heap = h) (A : OAL Z h a .boolean vs) {j x : Int32} (q1 : ¬ j < 0) (q2 : j.toNatClampNeg < vs.length) {pc : Nat} {Ls : Array Slot} {rest : List Value} (hd : decode c.code pc = .ok (.bastore, 1)) :
    ∃ T' h', Stand p l e R s m args below meth c T' (locs ++ [⟨a, j.toNatClampNeg⟩]) cells slots ∧ T'.heap = h' ∧ Wr h h' a j.toNatClampNeg (.int (nar .boolean x)) ∧ OAL Z h' a .boolean (vs.set j.toNatClampNeg (nar .boolean x)) ∧ ∀ t, Steps p.tables e below (T'.setTop (mkF m (pc + 1) Ls rest)) t → Steps p.tables e below (T.setTop (mkF m pc Ls (.int x :: .int j :: .ref a :: rest))) t := by
  obtain ⟨cl, A', r⟩ := A
  obtain ⟨T', h', X', e', W', st⟩ := Jvm.RoadKit.stZ X hx hZ eT A' (j := j) (x := x) (own_into r q1 q2) (g := mkF m pc Ls (.int x :: .int j :: .ref a :: rest)) rfl rfl hd
  exact ⟨T', h', X', e', W', OAL.same ⟨cl, A', r⟩ W', st⟩
theorem OAL.stI (X : Stand p l e R s m args below meth c T locs cells slots) (hx : p.tables.exec = Jvm.exec) (hZ : Z.Warmed39 s.vm) (eT : T.heap = h) (A : OAL Z h a .int vs) {j x : Int32} (q1 : ¬ j < 0) (q2 : j.toNatClampNeg < vs.length) {pc : Nat} {Ls : Array Slot} {rest : List Value} (hd : decode c.code pc = .ok (.iastore, 1)) :
    ∃ T' h', Stand p l e R s m args below meth c T' (locs ++ [⟨a, j.toNatClampNeg⟩]) cells slots ∧ T'.heap = h' ∧ Wr h h' a j.toNatClampNeg (.int x) ∧ OAL Z h' a .int (vs.set j.toNatClampNeg x) ∧ ∀ t, Steps p.tables e below (T'.setTop (mkF m (pc + 1) Ls rest)) t → Steps p.tables e below (T.setTop (mkF m pc Ls (.int x :: .int j :: .ref a :: rest))) t := by
  obtain ⟨cl, A', r⟩ := A
  obtain ⟨T', h', X', e', W', st⟩ := Jvm.RoadKit.stI X hx hZ eT A' (j := j) (x := x) (own_into r q1 q2) (g := mkF m pc Ls (.int x :: .int j :: .ref a :: rest)) rfl rfl hd
  exact ⟨T', h', X', e', W', OAL.same ⟨cl, A', r⟩ W', st⟩
theorem OAJ.stJ (X : Stand p l e R s m args below meth c T locs cells slots) (hx : p.tables.exec = Jvm.exec) (hZ : Z.Warmed39 s.vm) (eT : T.heap = h) (A : OAJ Z h a us) {j : Int32} {x : Int64} (q1 : ¬ j < 0) (q2 : j.toNatClampNeg < us.length) {pc : Nat} {Ls : Array Slot} {rest : List Value} (hd : decode c.code pc = .ok (.lastore, 1)) :
    ∃ T' h', Stand p l e R s m args below meth c T' (locs ++ [⟨a, j.toNatClampNeg⟩]) cells slots ∧ T'.heap = h' ∧ Wr h h' a j.toNatClampNeg (.long x) ∧ OAJ Z h' a (us.set j.toNatClampNeg x) ∧ ∀ t, Steps p.tables e below (T'.setTop (mkF m (pc + 1) Ls rest)) t → Steps p.tables e below (T.setTop (mkF m pc Ls (.long x :: .int j :: .ref a :: rest))) t := by
  obtain ⟨cl, A', r⟩ := A
  obtain ⟨T', h', X', e', W', st⟩ := Jvm.RoadKit.stJ X hx hZ eT A' (j := j) (x := x) (own_into r q1 q2) (g := mkF m pc Ls (.long x :: .int j :: .ref a :: rest)) rfl rfl hd
  exact ⟨T', h', X', e', W', OAJ.same ⟨cl, A', r⟩ W', st⟩
end Own
end Jvm.RoadKit
namespace Jvm.Pilot.@@N@@
open Jvm Jvm.ClassFile Sem Op Lib Jvm.Free Jvm.Stand Jvm.LawKit Jvm.RoadKit Bundle Jvm.Pilot.@@N@@.Jvm.D
theorem own_fin (b k : Int32) {m : Nat} (hm : m < 32) (hk : k.toBitVec.toNat = 2 ^ m - 1) : ∃ n : Nat, n < 2 ^ m ∧ b &&& k = Int32.ofNat n := by
  have e := Jvm.Kit.i32_mask b k hm hk
  have p : (0 : Int) < 2 ^ m := Int.pow_pos (by decide)
  have h1 := Int.emod_nonneg b.toInt (b := 2 ^ m) (by omega)
  have h2 := Int.emod_lt_of_pos b.toInt p
  have h3 : (2 : Nat) ^ m ≤ 2 ^ 31 := Nat.pow_le_pow_right (by decide) (by omega)
  have h4 : ((2 ^ m : Nat) : Int) = (2 : Int) ^ m := by simp
  refine ⟨(b.toInt % 2 ^ m).toNat, by omega, ?_⟩
  rw [← Int32.toInt_inj, e, Int32.toInt_ofNat_of_lt (by omega)]; omega
theorem own_x {m : Nat} {P : Int32 → Prop} {o : Int32} (h : ∃ n : Fin m, o = Int32.ofNat n.val) (k : ∀ n : Fin m, P (Int32.ofNat n.val)) : P o := by obtain ⟨n, rfl⟩ := h; exact k n
theorem own_mod (a k : Int32) {m : Nat} (hk : k.toInt = m) (h0 : 0 < m) (h1 : m < 2 ^ 31) : ∃ n : Fin m, (a &&& 2147483647) % k = Int32.ofNat n.val := by
  have e : 0 ≤ (a &&& 2147483647).toInt := by
    rw [Jvm.Kit.i32_mask a 2147483647 (k := 31) (by decide) (by decide)]; exact Int.emod_nonneg _ (by decide)
  have e2 := Jvm.Kit.i32_rem_nonneg (x := a &&& 2147483647) (y := k) e
  rw [hk] at e2
  have m1 := Int.emod_nonneg (a &&& 2147483647).toInt (b := (m : Int)) (by omega)
  have m2 := Int.emod_lt_of_pos (a &&& 2147483647).toInt (b := (m : Int)) (by omega)
  refine ⟨⟨((a &&& 2147483647).toInt % m).toNat, by omega⟩, ?_⟩
  rw [← Int32.toInt_inj, e2, Int32.toInt_ofNat_of_lt (by show ((a &&& 2147483647).toInt % m).toNat < _; omega)]
  show _ = ((((a &&& 2147483647).toInt % m).toNat : Nat) : Int)
  omega
theorem own_y {m : Nat} {P : Int32 → Prop} {b : Int32} (h : ∃ n : Fin m, b = Int32.ofNat (n.val + 1)) (k : ∀ n : Fin m, P (Int32.ofNat (n.val + 1))) : P b := by obtain ⟨n, rfl⟩ := h; exact k n
theorem own_bs (a : Int32) : ∃ n : Fin 64, (a &&& 63) + 1 = Int32.ofNat (n.val + 1) := by
  obtain ⟨n, hn, q⟩ := own_fin a 63 (m := 6) (by decide) (by decide)
  exact ⟨⟨n, hn⟩, by rw [q, Int32.ofNat_add]; rfl⟩
theorem own_bu (a : Int32) : ∃ n : Fin 63, (a &&& 2147483647) % 63 + 1 = Int32.ofNat (n.val + 1) := by
  obtain ⟨n, q⟩ := own_mod a 63 (m := 63) (by decide) (by decide) (by decide)
  exact ⟨n, by rw [q, Int32.ofNat_add]; rfl⟩
theorem own_pn0 : plainName "java/lang/Record" = true := by first | (simp [plainName, overriddenIn]; done) | decide +kernel
theorem own_pd0 : parseMethodDescriptor "()V" = some ⟨[], none⟩ := by decide +kernel
theorem ef_own_rec (m : MethodId) (x0 : Addr) : entryFrame m #[(.ref x0)] 1 = mkF m 0 #[.val (.ref x0)] [] := by first | (simp [entryFrame, mkF, argsToLocals, Value.category]; done) | rfl
theorem d2_0 : decode jdk_30_method_1_code 0 = .ok (.aload_n 0, 1) := by decide +kernel
theorem d2_1 : decode jdk_30_method_1_code 1 = .ok (.invokespecial 1, 3) := by decide +kernel
theorem d2_4 : decode jdk_30_method_1_code 4 = .ok (.return_, 1) := by decide +kernel
set_option maxRecDepth 65536 in
set_option maxHeartbeats 40000000 in
theorem own_rec (l : Launch) (Z : State) (a0 : Array Value) (hw : ∀ d ∈ tables_1, d.before a0 Z = true) (ws : List Jvm.Cond) (ra : Addr) (h0 : Heap) (n0 : Nat) (Z0 : n0 ≤ h0.size)  :
    MetFree l (⟨"java/lang/Record", "<init>", "()V"⟩ : MethodName) (head1 (Jvm.Cond.code (⟨"java/lang/Record", "<init>", "()V"⟩ : MethodName) jdk_30_method_1_code 1 none :: ws) ({ frames := 1, cells := 0, slots := 0, locals := 12 } : Room)) (fun a U => a = #[(.ref ra)] ∧ Z.Warmed39 U.vm ∧ U.heap = h0) (fun _ _ _ _ _ => True) (fun _ U o U' => ∃ v L, o = .returned v ∧ (OPure n0 h0 none) v U'.heap L ∧ FrameEnd U o U' L ({ frames := 1, cells := 0, slots := 0, locals := 12 } : Room).cells ({ frames := 1, cells := 0, slots := 0, locals := 12 } : Room).slots) := by
  refine MetFree.of_bodySF (plainFor_of_name own_pn0) hisR ?_
  intro p e s m args below meth c s₁ Bd hml0 hP hK
  obtain ⟨rfl, hZ, hh⟩ := hP
  have hx := Bd.exec
  have hby := Bd.bytes
  have hret := Bd.returns
  have hlk : meth.locks = false := Bd.notSynchronized
  have hml : c.maxLocals = 1 := hml0
  have hown : s.vm.findClass "java/lang/Record" = some m.cls := findClass_of_methodNamed Bd.named
  have hnm := (name_of_methodNamed Bd.named Bd.method).1
  have X0 : Stand p l e ({ frames := 1, cells := 0, slots := 0, locals := 12 } : Room) s m #[(.ref ra)] below meth c s₁ [] 0 0 := Stand.of_body Bd
  have e0 : s₁.heap = h0 := by rw [← hh, Bd.state]; rfl
  have N0 := Fr.nil n0
  have pre0 : ∀ t, Steps p.tables e below (s₁.setTop (mkF m 0 #[.val (.ref ra)] [])) t → Steps p.tables e below (s₁.setTop (entryFrame m #[(.ref ra)] 1)) t := fun t k => castTop (ef_own_rec m ra) k
  show OGo p e below s (OPure n0 h0 none) ({ frames := 1, cells := 0, slots := 0, locals := 12 } : Room).cells ({ frames := 1, cells := 0, slots := 0, locals := 12 } : Room).slots (s₁.setTop (entryFrame m #[(.ref ra)] 1))
  refine OGo.on pre0 ?_
  show OGo p e below s _ _ _ (s₁.setTop (mkF m 0 #[.val (.ref ra)] []))
  refine OGo.on (fun t k => XS.aloadN X0.here hx rfl (hb hby d2_0) rfl rfl k) ?_
  show OGo p e below s _ _ _ (s₁.setTop (mkF m 1 #[.val (.ref ra)] [(.ref ra)]))
  obtain ⟨T1, X1, e1, st1⟩ := initO X0 hx hZ hown (hw _ (List.mem_of_getElem? (i := 11) rfl)) (hw _ (List.mem_of_getElem? (i := 12) rfl)) (hw _ (List.mem_of_getElem? (i := 13) rfl)) e0 (g := (mkF m 1 #[.val (.ref ra)] [(.ref ra)])) rfl (by rw [hml]; rfl) rfl (hb hby d2_1) (by decide) (W := 0) (by show 2 * 0 + _ ≤ _; exact Nat.le_of_eq rfl) (by decide)
  refine OGo.on st1 ?_
  show OGo p e below s _ _ _ (T1.setTop (mkF m 4 #[.val (.ref ra)] []))
  exact OGo.ret0 X1 hx hret hlk (hb hby d2_4) ⟨rfl, N0, e1⟩ (by decide) (by decide)
def Q_own_init (Z : State) (ra : Addr) (vb vs : Int32) (h0 : Heap) (n0 : Nat) (v : Option Value) (h : Heap) (L : List Loc) : Prop := v = none ∧ Fr n0 L ∧ Keep h0 h [ra] ∧ Fld Z h ra "com/example/libkripke/libkripke/model/IntType" "bits" "I" (.int vb) ∧ Fld Z h ra "com/example/libkripke/libkripke/model/IntType" "signed" "Z" (.int (nar .boolean vs))
theorem own_pn1 : plainName "com/example/libkripke/libkripke/model/IntType" = true := by first | (simp [plainName, overriddenIn]; done) | decide +kernel
theorem ef_own_init (m : MethodId) (x0 : Addr) (x1 : Int32) (x2 : Int32) : entryFrame m #[(.ref x0), (.int x1), (.int x2)] 4 = mkF m 0 #[.val (.ref x0), .val (.int x1), .val (.int x2), .unset] [] := by first | (simp [entryFrame, mkF, argsToLocals, Value.category]; done) | rfl
theorem d1_0 : decode prog_78_method_1_code 0 = .ok (.aload_n 0, 1) := by decide +kernel
theorem d1_1 : decode prog_78_method_1_code 1 = .ok (.invokespecial 3, 3) := by decide +kernel
theorem d1_4 : decode prog_78_method_1_code 4 = .ok (.iload_n 2, 1) := by decide +kernel
theorem d1_5 : decode prog_78_method_1_code 5 = .ok (.ifCond .eq 8, 3) := by decide +kernel
theorem d1_8 : decode prog_78_method_1_code 8 = .ok (.bipush 64, 2) := by decide +kernel
theorem d1_10 : decode prog_78_method_1_code 10 = .ok (.goto 5, 3) := by decide +kernel
theorem d1_13 : decode prog_78_method_1_code 13 = .ok (.bipush 63, 2) := by decide +kernel
theorem d1_15 : decode prog_78_method_1_code 15 = .ok (.istore_n 3, 1) := by decide +kernel
theorem d1_16 : decode prog_78_method_1_code 16 = .ok (.iload_n 1, 1) := by decide +kernel
theorem d1_17 : decode prog_78_method_1_code 17 = .ok (.iconst 1, 1) := by decide +kernel
theorem d1_18 : decode prog_78_method_1_code 18 = .ok (.if_icmp .lt 8, 3) := by decide +kernel
theorem d1_21 : decode prog_78_method_1_code 21 = .ok (.iload_n 1, 1) := by decide +kernel
theorem d1_22 : decode prog_78_method_1_code 22 = .ok (.iload_n 3, 1) := by decide +kernel
theorem d1_23 : decode prog_78_method_1_code 23 = .ok (.if_icmp .le 48, 3) := by decide +kernel
theorem d1_71 : decode prog_78_method_1_code 71 = .ok (.aload_n 0, 1) := by decide +kernel
theorem d1_72 : decode prog_78_method_1_code 72 = .ok (.iload_n 1, 1) := by decide +kernel
theorem d1_73 : decode prog_78_method_1_code 73 = .ok (.putfield 36, 3) := by decide +kernel
theorem d1_76 : decode prog_78_method_1_code 76 = .ok (.aload_n 0, 1) := by decide +kernel
theorem d1_77 : decode prog_78_method_1_code 77 = .ok (.iload_n 2, 1) := by decide +kernel
theorem d1_78 : decode prog_78_method_1_code 78 = .ok (.putfield 40, 3) := by decide +kernel
theorem d1_81 : decode prog_78_method_1_code 81 = .ok (.return_, 1) := by decide +kernel
set_option maxRecDepth 65536 in
set_option maxHeartbeats 40000000 in
theorem own_init (l : Launch) (Z : State) (a0 : Array Value) (hw : ∀ d ∈ tables_1, d.before a0 Z = true) (ws : List Jvm.Cond) (ra : Addr) (vb vs : Int32) (h0 : Heap) (n0 : Nat) (Z0 : n0 ≤ h0.size) (g0 : n0 ≤ ra) (E0 : Exa Z h0 ra "com/example/libkripke/libkripke/model/IntType") (F0 : Fld Z h0 ra "com/example/libkripke/libkripke/model/IntType" "bits" "I" (.int (0 : Int32))) (F1 : Fld Z h0 ra "com/example/libkripke/libkripke/model/IntType" "signed" "Z" (.int (0 : Int32))) (hb1 : ¬ vb < 1) (hb2 : vs = 0 → ¬ 63 < vb) (hb3 : ¬ vs = 0 → ¬ 64 < vb) :
    MetFree l (⟨"com/example/libkripke/libkripke/model/IntType", "<init>", "(IZ)V"⟩ : MethodName) (head1 (Jvm.Cond.code (⟨"com/example/libkripke/libkripke/model/IntType", "<init>", "(IZ)V"⟩ : MethodName) prog_78_method_1_code 4 none :: ws) ({ frames := 2, cells := 0, slots := 0, locals := 24 } : Room)) (fun a U => a = #[(.ref ra), (.int vb), (.int vs)] ∧ Z.Warmed39 U.vm ∧ U.heap = h0) (fun _ _ _ _ _ => True) (fun _ U o U' => ∃ v L, o = .returned v ∧ (Q_own_init Z ra vb vs h0 n0) v U'.heap L ∧ FrameEnd U o U' L ({ frames := 2, cells := 0, slots := 0, locals := 24 } : Room).cells ({ frames := 2, cells := 0, slots := 0, locals := 24 } : Room).slots) := by
  refine MetFree.of_bodySF (plainFor_of_name own_pn1) hisR ?_
  intro p e s m args below meth c s₁ Bd hml0 hP hK
  obtain ⟨rfl, hZ, hh⟩ := hP
  have hx := Bd.exec
  have hby := Bd.bytes
  have hret := Bd.returns
  have hlk : meth.locks = false := Bd.notSynchronized
  have hml : c.maxLocals = 4 := hml0
  have hown : s.vm.findClass "com/example/libkripke/libkripke/model/IntType" = some m.cls := findClass_of_methodNamed Bd.named
  have hnm := (name_of_methodNamed Bd.named Bd.method).1
  have X0 : Stand p l e ({ frames := 2, cells := 0, slots := 0, locals := 24 } : Room) s m #[(.ref ra), (.int vb), (.int vs)] below meth c s₁ [] 0 0 := Stand.of_body Bd
  have e0 : s₁.heap = h0 := by rw [← hh, Bd.state]; rfl
  have N0 := Fr.nil n0
  have pre0 : ∀ t, Steps p.tables e below (s₁.setTop (mkF m 0 #[.val (.ref ra), .val (.int vb), .val (.int vs), .unset] [])) t → Steps p.tables e below (s₁.setTop (entryFrame m #[(.ref ra), (.int vb), (.int vs)] 4)) t := fun t k => castTop (ef_own_init m ra vb vs) k
  have K0 : Keep h0 h0 [ra] := Keep.refl _ _
  show OGo p e below s (Q_own_init Z ra vb vs h0 n0) ({ frames := 2, cells := 0, slots := 0, locals := 24 } : Room).cells ({ frames := 2, cells := 0, slots := 0, locals := 24 } : Room).slots (s₁.setTop (entryFrame m #[(.ref ra), (.int vb), (.int vs)] 4))
  refine OGo.on pre0 ?_
  show OGo p e below s _ _ _ (s₁.setTop (mkF m 0 #[.val (.ref ra), .val (.int vb), .val (.int vs), .unset] []))
  refine OGo.on (fun t k => XS.aloadN X0.here hx rfl (hb hby d1_0) rfl rfl k) ?_
  show OGo p e below s _ _ _ (s₁.setTop (mkF m 1 #[.val (.ref ra), .val (.int vb), .val (.int vs), .unset] [(.ref ra)]))
  obtain ⟨_, _, ⟨T2, L2, k2, n2⟩, -, X2, ⟨Lc2, hQ2, l2, y2, z2⟩, st2⟩ := X0.specialBack hx (y := (⟨"java/lang/Record", "<init>", "()V"⟩ : MethodName)) rfl hown (mvT hZ (hw _ (List.mem_of_getElem? (i := 6) rfl))) (mvT hZ (hw _ (List.mem_of_getElem? (i := 7) rfl))) (mvT hZ (hw _ (List.mem_of_getElem? (i := 10) rfl))) (by decide) (backOf (W := 0) (own_rec l Z a0 hw [] ra h0 n0 Z0) hZ (hw _ (List.mem_of_getElem? (i := 10) rfl)) (hw _ (List.mem_of_getElem? (i := 9) rfl)) (by decide) (by decide)) (g := (mkF m 1 #[.val (.ref ra), .val (.int vb), .val (.int vs), .unset] [(.ref ra)])) rfl (by rw [hml]; rfl) (Steps.refl _) (a := ra) (argsL := []) (rest := []) (lenOf own_pd0 rfl) rfl (by show 2 * 0 + _ ≤ _; exact Nat.le_of_eq rfl) (hb hby d1_1) (fun _ _ => ⟨rfl, e0, (by decide : 0 + 0 ≤ _), (by decide : 0 + 0 ≤ _)⟩)
  dsimp only [Pt.U, Pt.locs, Pt.cells, Pt.slots] at X2 l2 y2 z2 st2 hQ2
  subst l2 y2 z2
  obtain ⟨rfl, N2q, e2⟩ := hQ2
  have N2 := Fr.app N0 N2q
  refine OGo.on (fun t k => st2.trans k) ?_
  show OGo p e below s _ _ _ (T2.setTop (mkF m 4 #[.val (.ref ra), .val (.int vb), .val (.int vs), .unset] []))
  refine OGo.on (fun t k => XS.iloadN X2.here hx rfl (hb hby d1_4) rfl k) ?_
  show OGo p e below s _ _ _ (T2.setTop (mkF m 5 #[.val (.ref ra), .val (.int vb), .val (.int vs), .unset] [(.int vs)]))
  by_cases hc3 : vs = (0 : Int32)
  · refine OGo.on (fun t k => XS.ifYes X2.here hx rfl (pc0 := 5) (pc' := 13) rfl (hb hby d1_5) rfl ((if0 _ _).trans (teq hc3).1) (by decide) (by decide) k) ?_
    show OGo p e below s _ _ _ (T2.setTop (mkF m 13 #[.val (.ref ra), .val (.int vb), .val (.int vs), .unset] []))
    refine OGo.on (fun t k => XS.bipush X2.here hx rfl (hb hby d1_13) k) ?_
    show OGo p e below s _ _ _ (T2.setTop (mkF m 15 #[.val (.ref ra), .val (.int vb), .val (.int vs), .unset] [(.int (63 : Int32))]))
    refine OGo.on (fun t k => XS.istoreN X2.here hx rfl (hb hby d1_15) rfl (l' := #[.val (.ref ra), .val (.int vb), .val (.int vs), .val (.int (63 : Int32))]) rfl k) ?_
    show OGo p e below s _ _ _ (T2.setTop (mkF m 16 #[.val (.ref ra), .val (.int vb), .val (.int vs), .val (.int (63 : Int32))] []))
    refine OGo.on (fun t k => XS.iloadN X2.here hx rfl (hb hby d1_16) rfl k) ?_
    show OGo p e below s _ _ _ (T2.setTop (mkF m 17 #[.val (.ref ra), .val (.int vb), .val (.int vs), .val (.int (63 : Int32))] [(.int vb)]))
    refine OGo.on (fun t k => XS.iconst X2.here hx rfl (hb hby d1_17) k) ?_
    show OGo p e below s _ _ _ (T2.setTop (mkF m 18 #[.val (.ref ra), .val (.int vb), .val (.int vs), .val (.int (63 : Int32))] [(.int (1 : Int32)), (.int vb)]))
    refine OGo.on (fun t k => XS.icmpNo X2.here hx rfl (hb hby d1_18) rfl (flt hb1).1 k) ?_
    show OGo p e below s _ _ _ (T2.setTop (mkF m 21 #[.val (.ref ra), .val (.int vb), .val (.int vs), .val (.int (63 : Int32))] []))
    refine OGo.on (fun t k => XS.iloadN X2.here hx rfl (hb hby d1_21) rfl k) ?_
    show OGo p e below s _ _ _ (T2.setTop (mkF m 22 #[.val (.ref ra), .val (.int vb), .val (.int vs), .val (.int (63 : Int32))] [(.int vb)]))
    refine OGo.on (fun t k => XS.iloadN X2.here hx rfl (hb hby d1_22) rfl k) ?_
    show OGo p e below s _ _ _ (T2.setTop (mkF m 23 #[.val (.ref ra), .val (.int vb), .val (.int vs), .val (.int (63 : Int32))] [(.int (63 : Int32)), (.int vb)]))
    refine OGo.on (fun t k => XS.icmpYes X2.here hx rfl (pc0 := 23) (pc' := 71) rfl (hb hby d1_23) rfl (flt (hb2 hc3)).2.2.2 (by decide) (by decide) k) ?_
    show OGo p e below s _ _ _ (T2.setTop (mkF m 71 #[.val (.ref ra), .val (.int vb), .val (.int vs), .val (.int (63 : Int32))] []))
    refine OGo.on (fun t k => XS.aloadN X2.here hx rfl (hb hby d1_71) rfl rfl k) ?_
    show OGo p e below s _ _ _ (T2.setTop (mkF m 72 #[.val (.ref ra), .val (.int vb), .val (.int vs), .val (.int (63 : Int32))] [(.ref ra)]))
    refine OGo.on (fun t k => XS.iloadN X2.here hx rfl (hb hby d1_72) rfl k) ?_
    show OGo p e below s _ _ _ (T2.setTop (mkF m 73 #[.val (.ref ra), .val (.int vb), .val (.int vs), .val (.int (63 : Int32))] [(.int vb), (.ref ra)]))
    obtain ⟨T4, h4, X4, e4, W4, st4⟩ := putF X2 hx hZ hown (host := "") (Or.inl (hw _ (List.mem_of_getElem? (i := 14) rfl))) Via.refl e2 F0 E0 (Or.inr ⟨(hw _ (List.mem_of_getElem? (i := 15) rfl)), rfl, hnm⟩) (hw _ (List.mem_of_getElem? (i := 1) rfl)) (ty := .int) (by decide) rfl rfl (g := (mkF m 73 #[.val (.ref ra), .val (.int vb), .val (.int vs), .val (.int (63 : Int32))] [(.int vb), (.ref ra)])) rfl rfl (hb hby d1_73)
    have f5 : Exa Z h4 ra "com/example/libkripke/libkripke/model/IntType" := E0.wr W4
    have f6 : Fld Z h4 ra "com/example/libkripke/libkripke/model/IntType" "signed" "Z" (.int (0 : Int32)) := F1.other W4 (Or.inr (slot_ne (Or.inr (hw _ (List.mem_of_getElem? (i := 17) rfl))) (Or.inr (hw _ (List.mem_of_getElem? (i := 15) rfl))) (by decide) (t := .boolean) (t' := .int) (by decide) (by decide)))
    have Z7 : n0 ≤ h4.size := Nat.le_trans Z0 (Nat.le_of_eq W4.size.symm)
    have N8 := Fr.snoc X4 N2 g0
    have K9 : Keep h0 h4 [ra] := K0.wr W4 (Or.inl (List.mem_of_getElem? (i := 0) rfl))
    have f10 : Fld Z h4 ra "com/example/libkripke/libkripke/model/IntType" "bits" "I" (.int vb) := F0.same W4
    refine OGo.on st4 ?_
    show OGo p e below s _ _ _ (T4.setTop (mkF m 76 #[.val (.ref ra), .val (.int vb), .val (.int vs), .val (.int (63 : Int32))] []))
    refine OGo.on (fun t k => XS.aloadN X4.here hx rfl (hb hby d1_76) rfl rfl k) ?_
    show OGo p e below s _ _ _ (T4.setTop (mkF m 77 #[.val (.ref ra), .val (.int vb), .val (.int vs), .val (.int (63 : Int32))] [(.ref ra)]))
    refine OGo.on (fun t k => XS.iloadN X4.here hx rfl (hb hby d1_77) rfl k) ?_
    show OGo p e below s _ _ _ (T4.setTop (mkF m 78 #[.val (.ref ra), .val (.int vb), .val (.int vs), .val (.int (63 : Int32))] [(.int vs), (.ref ra)]))
    obtain ⟨T11, h11, X11, e11, W11, st11⟩ := putFN X4 hx hZ hown (hw _ (List.mem_of_getElem? (i := 16) rfl)) Via.refl e4 f6 f5 (Or.inr ⟨(hw _ (List.mem_of_getElem? (i := 17) rfl)), rfl, hnm⟩) (hw _ (List.mem_of_getElem? (i := 1) rfl)) (ty := .boolean) (v' := (.int (nar .boolean vs))) (by decide) rfl (fits_nar_bool _) (g := (mkF m 78 #[.val (.ref ra), .val (.int vb), .val (.int vs), .val (.int (63 : Int32))] [(.int vs), (.ref ra)])) rfl rfl (hb hby d1_78)
    have f12 : Exa Z h11 ra "com/example/libkripke/libkripke/model/IntType" := f5.wr W11
    have f13 : Fld Z h11 ra "com/example/libkripke/libkripke/model/IntType" "bits" "I" (.int vb) := f10.other W11 (Or.inr (slot_ne (Or.inr (hw _ (List.mem_of_getElem? (i := 15) rfl))) (Or.inr (hw _ (List.mem_of_getElem? (i := 17) rfl))) (by decide) (t := .int) (t' := .boolean) (by decide) (by decide)))
    have Z14 : n0 ≤ h11.size := Nat.le_trans Z7 (Nat.le_of_eq W11.size.symm)
    have N15 := Fr.snoc X11 N8 g0
    have K16 : Keep h0 h11 [ra] := K9.wr W11 (Or.inl (List.mem_of_getElem? (i := 0) rfl))
    have f17 : Fld Z h11 ra "com/example/libkripke/libkripke/model/IntType" "signed" "Z" (.int (nar .boolean vs)) := f6.same W11
    refine OGo.on st11 ?_
    show OGo p e below s _ _ _ (T11.setTop (mkF m 81 #[.val (.ref ra), .val (.int vb), .val (.int vs), .val (.int (63 : Int32))] []))
    exact OGo.ret0 X11 hx hret hlk (hb hby d1_81) ⟨rfl, N15, by rw [e11]; exact K16, by rw [e11]; exact f13, by rw [e11]; exact f17⟩ (by decide) (by decide)
  · refine OGo.on (fun t k => XS.ifNo X2.here hx rfl (hb hby d1_5) rfl ((if0 _ _).trans (feq hc3).1) k) ?_
    show OGo p e below s _ _ _ (T2.setTop (mkF m 8 #[.val (.ref ra), .val (.int vb), .val (.int vs), .unset] []))
    refine OGo.on (fun t k => XS.bipush X2.here hx rfl (hb hby d1_8) k) ?_
    show OGo p e below s _ _ _ (T2.setTop (mkF m 10 #[.val (.ref ra), .val (.int vb), .val (.int vs), .unset] [(.int (64 : Int32))]))
    refine OGo.on (fun t k => XS.goto X2.here hx rfl (pc0 := 10) (pc' := 15) rfl (hb hby d1_10) (by decide) (by decide) k) ?_
    show OGo p e below s _ _ _ (T2.setTop (mkF m 15 #[.val (.ref ra), .val (.int vb), .val (.int vs), .unset] [(.int (64 : Int32))]))
    refine OGo.on (fun t k => XS.istoreN X2.here hx rfl (hb hby d1_15) rfl (l' := #[.val (.ref ra), .val (.int vb), .val (.int vs), .val (.int (64 : Int32))]) rfl k) ?_
    show OGo p e below s _ _ _ (T2.setTop (mkF m 16 #[.val (.ref ra), .val (.int vb), .val (.int vs), .val (.int (64 : Int32))] []))
    refine OGo.on (fun t k => XS.iloadN X2.here hx rfl (hb hby d1_16) rfl k) ?_
    show OGo p e below s _ _ _ (T2.setTop (mkF m 17 #[.val (.ref ra), .val (.int vb), .val (.int vs), .val (.int (64 : Int32))] [(.int vb)]))
    refine OGo.on (fun t k => XS.iconst X2.here hx rfl (hb hby d1_17) k) ?_
    show OGo p e below s _ _ _ (T2.setTop (mkF m 18 #[.val (.ref ra), .val (.int vb), .val (.int vs), .val (.int (64 : Int32))] [(.int (1 : Int32)), (.int vb)]))
    refine OGo.on (fun t k => XS.icmpNo X2.here hx rfl (hb hby d1_18) rfl (flt hb1).1 k) ?_
    show OGo p e below s _ _ _ (T2.setTop (mkF m 21 #[.val (.ref ra), .val (.int vb), .val (.int vs), .val (.int (64 : Int32))] []))
    refine OGo.on (fun t k => XS.iloadN X2.here hx rfl (hb hby d1_21) rfl k) ?_
    show OGo p e below s _ _ _ (T2.setTop (mkF m 22 #[.val (.ref ra), .val (.int vb), .val (.int vs), .val (.int (64 : Int32))] [(.int vb)]))
    refine OGo.on (fun t k => XS.iloadN X2.here hx rfl (hb hby d1_22) rfl k) ?_
    show OGo p e below s _ _ _ (T2.setTop (mkF m 23 #[.val (.ref ra), .val (.int vb), .val (.int vs), .val (.int (64 : Int32))] [(.int (64 : Int32)), (.int vb)]))
    refine OGo.on (fun t k => XS.icmpYes X2.here hx rfl (pc0 := 23) (pc' := 71) rfl (hb hby d1_23) rfl (flt (hb3 hc3)).2.2.2 (by decide) (by decide) k) ?_
    show OGo p e below s _ _ _ (T2.setTop (mkF m 71 #[.val (.ref ra), .val (.int vb), .val (.int vs), .val (.int (64 : Int32))] []))
    refine OGo.on (fun t k => XS.aloadN X2.here hx rfl (hb hby d1_71) rfl rfl k) ?_
    show OGo p e below s _ _ _ (T2.setTop (mkF m 72 #[.val (.ref ra), .val (.int vb), .val (.int vs), .val (.int (64 : Int32))] [(.ref ra)]))
    refine OGo.on (fun t k => XS.iloadN X2.here hx rfl (hb hby d1_72) rfl k) ?_
    show OGo p e below s _ _ _ (T2.setTop (mkF m 73 #[.val (.ref ra), .val (.int vb), .val (.int vs), .val (.int (64 : Int32))] [(.int vb), (.ref ra)]))
    obtain ⟨T18, h18, X18, e18, W18, st18⟩ := putF X2 hx hZ hown (host := "") (Or.inl (hw _ (List.mem_of_getElem? (i := 14) rfl))) Via.refl e2 F0 E0 (Or.inr ⟨(hw _ (List.mem_of_getElem? (i := 15) rfl)), rfl, hnm⟩) (hw _ (List.mem_of_getElem? (i := 1) rfl)) (ty := .int) (by decide) rfl rfl (g := (mkF m 73 #[.val (.ref ra), .val (.int vb), .val (.int vs), .val (.int (64 : Int32))] [(.int vb), (.ref ra)])) rfl rfl (hb hby d1_73)
    have f19 : Exa Z h18 ra "com/example/libkripke/libkripke/model/IntType" := E0.wr W18
    have f20 : Fld Z h18 ra "com/example/libkripke/libkripke/model/IntType" "signed" "Z" (.int (0 : Int32)) := F1.other W18 (Or.inr (slot_ne (Or.inr (hw _ (List.mem_of_getElem? (i := 17) rfl))) (Or.inr (hw _ (List.mem_of_getElem? (i := 15) rfl))) (by decide) (t := .boolean) (t' := .int) (by decide) (by decide)))
    have Z21 : n0 ≤ h18.size := Nat.le_trans Z0 (Nat.le_of_eq W18.size.symm)
    have N22 := Fr.snoc X18 N2 g0
    have K23 : Keep h0 h18 [ra] := K0.wr W18 (Or.inl (List.mem_of_getElem? (i := 0) rfl))
    have f24 : Fld Z h18 ra "com/example/libkripke/libkripke/model/IntType" "bits" "I" (.int vb) := F0.same W18
    refine OGo.on st18 ?_
    show OGo p e below s _ _ _ (T18.setTop (mkF m 76 #[.val (.ref ra), .val (.int vb), .val (.int vs), .val (.int (64 : Int32))] []))
    refine OGo.on (fun t k => XS.aloadN X18.here hx rfl (hb hby d1_76) rfl rfl k) ?_
    show OGo p e below s _ _ _ (T18.setTop (mkF m 77 #[.val (.ref ra), .val (.int vb), .val (.int vs), .val (.int (64 : Int32))] [(.ref ra)]))
    refine OGo.on (fun t k => XS.iloadN X18.here hx rfl (hb hby d1_77) rfl k) ?_
    show OGo p e below s _ _ _ (T18.setTop (mkF m 78 #[.val (.ref ra), .val (.int vb), .val (.int vs), .val (.int (64 : Int32))] [(.int vs), (.ref ra)]))
    obtain ⟨T25, h25, X25, e25, W25, st25⟩ := putFN X18 hx hZ hown (hw _ (List.mem_of_getElem? (i := 16) rfl)) Via.refl e18 f20 f19 (Or.inr ⟨(hw _ (List.mem_of_getElem? (i := 17) rfl)), rfl, hnm⟩) (hw _ (List.mem_of_getElem? (i := 1) rfl)) (ty := .boolean) (v' := (.int (nar .boolean vs))) (by decide) rfl (fits_nar_bool _) (g := (mkF m 78 #[.val (.ref ra), .val (.int vb), .val (.int vs), .val (.int (64 : Int32))] [(.int vs), (.ref ra)])) rfl rfl (hb hby d1_78)
    have f26 : Exa Z h25 ra "com/example/libkripke/libkripke/model/IntType" := f19.wr W25
    have f27 : Fld Z h25 ra "com/example/libkripke/libkripke/model/IntType" "bits" "I" (.int vb) := f24.other W25 (Or.inr (slot_ne (Or.inr (hw _ (List.mem_of_getElem? (i := 15) rfl))) (Or.inr (hw _ (List.mem_of_getElem? (i := 17) rfl))) (by decide) (t := .int) (t' := .boolean) (by decide) (by decide)))
    have Z28 : n0 ≤ h25.size := Nat.le_trans Z21 (Nat.le_of_eq W25.size.symm)
    have N29 := Fr.snoc X25 N22 g0
    have K30 : Keep h0 h25 [ra] := K23.wr W25 (Or.inl (List.mem_of_getElem? (i := 0) rfl))
    have f31 : Fld Z h25 ra "com/example/libkripke/libkripke/model/IntType" "signed" "Z" (.int (nar .boolean vs)) := f20.same W25
    refine OGo.on st25 ?_
    show OGo p e below s _ _ _ (T25.setTop (mkF m 81 #[.val (.ref ra), .val (.int vb), .val (.int vs), .val (.int (64 : Int32))] []))
    exact OGo.ret0 X25 hx hret hlk (hb hby d1_81) ⟨rfl, N29, by rw [e25]; exact K30, by rw [e25]; exact f27, by rw [e25]; exact f31⟩ (by decide) (by decide)
def own_min (b s : Int32) : Int64 := if s = 0 then 0 else -((1 : Int64) <<< ((b - 1) &&& 0x3f).toInt64)
theorem ef_own_meth (m : MethodId) (x0 : Addr) : entryFrame m #[(.ref x0)] 1 = mkF m 0 #[.val (.ref x0)] [] := by first | (simp [entryFrame, mkF, argsToLocals, Value.category]; done) | rfl
theorem d4_0 : decode prog_78_method_4_code 0 = .ok (.aload_n 0, 1) := by decide +kernel
theorem d4_1 : decode prog_78_method_4_code 1 = .ok (.getfield 40, 3) := by decide +kernel
theorem d4_4 : decode prog_78_method_4_code 4 = .ok (.ifCond .eq 15, 3) := by decide +kernel
theorem d4_7 : decode prog_78_method_4_code 7 = .ok (.lconst 1, 1) := by decide +kernel
theorem d4_8 : decode prog_78_method_4_code 8 = .ok (.aload_n 0, 1) := by decide +kernel
theorem d4_9 : decode prog_78_method_4_code 9 = .ok (.getfield 36, 3) := by decide +kernel
theorem d4_12 : decode prog_78_method_4_code 12 = .ok (.iconst 1, 1) := by decide +kernel
theorem d4_13 : decode prog_78_method_4_code 13 = .ok (.isub, 1) := by decide +kernel
theorem d4_14 : decode prog_78_method_4_code 14 = .ok (.lshl, 1) := by decide +kernel
theorem d4_15 : decode prog_78_method_4_code 15 = .ok (.lneg, 1) := by decide +kernel
theorem d4_16 : decode prog_78_method_4_code 16 = .ok (.goto 4, 3) := by decide +kernel
theorem d4_19 : decode prog_78_method_4_code 19 = .ok (.lconst 0, 1) := by decide +kernel
theorem d4_20 : decode prog_78_method_4_code 20 = .ok (.lreturn, 1) := by decide +kernel
set_option maxRecDepth 65536 in
set_option maxHeartbeats 40000000 in
theorem own_meth (l : Launch) (Z : State) (a0 : Array Value) (hw : ∀ d ∈ tables_1, d.before a0 Z = true) (ws : List Jvm.Cond) (ra : Addr) (vb vs : Int32) (h0 : Heap) (n0 : Nat) (Z0 : n0 ≤ h0.size) (F0 : Fld Z h0 ra "com/example/libkripke/libkripke/model/IntType" "bits" "I" (.int vb)) (F1 : Fld Z h0 ra "com/example/libkripke/libkripke/model/IntType" "signed" "Z" (.int vs)) :
    MetFree l (⟨"com/example/libkripke/libkripke/model/IntType", "min", "()J"⟩ : MethodName) (head1 (Jvm.Cond.code (⟨"com/example/libkripke/libkripke/model/IntType", "min", "()J"⟩ : MethodName) prog_78_method_4_code 1 (some .long) :: ws) ({ frames := 0, cells := 0, slots := 0, locals := 0 } : Room)) (fun a U => a = #[(.ref ra)] ∧ Z.Warmed39 U.vm ∧ U.heap = h0) (fun _ _ _ _ _ => True) (fun _ U o U' => ∃ v L, o = .returned v ∧ (OPure n0 h0 (some (.long (own_min vb vs)))) v U'.heap L ∧ FrameEnd U o U' L ({ frames := 0, cells := 0, slots := 0, locals := 0 } : Room).cells ({ frames := 0, cells := 0, slots := 0, locals := 0 } : Room).slots) := by
  refine MetFree.of_bodySF (plainFor_of_name own_pn1) hisR ?_
  intro p e s m args below meth c s₁ Bd hml0 hP hK
  obtain ⟨rfl, hZ, hh⟩ := hP
  have hx := Bd.exec
  have hby := Bd.bytes
  have hret := Bd.returns
  have hlk : meth.locks = false := Bd.notSynchronized
  have hml : c.maxLocals = 1 := hml0
  have hown : s.vm.findClass "com/example/libkripke/libkripke/model/IntType" = some m.cls := findClass_of_methodNamed Bd.named
  have hnm := (name_of_methodNamed Bd.named Bd.method).1
  have X0 : Stand p l e ({ frames := 0, cells := 0, slots := 0, locals := 0 } : Room) s m #[(.ref ra)] below meth c s₁ [] 0 0 := Stand.of_body Bd
  have e0 : s₁.heap = h0 := by rw [← hh, Bd.state]; rfl
  have N0 := Fr.nil n0
  have pre0 : ∀ t, Steps p.tables e below (s₁.setTop (mkF m 0 #[.val (.ref ra)] [])) t → Steps p.tables e below (s₁.setTop (entryFrame m #[(.ref ra)] 1)) t := fun t k => castTop (ef_own_meth m ra) k
  show OGo p e below s (OPure n0 h0 (some (.long (own_min vb vs)))) ({ frames := 0, cells := 0, slots := 0, locals := 0 } : Room).cells ({ frames := 0, cells := 0, slots := 0, locals := 0 } : Room).slots (s₁.setTop (entryFrame m #[(.ref ra)] 1))
  refine OGo.on pre0 ?_
  show OGo p e below s _ _ _ (s₁.setTop (mkF m 0 #[.val (.ref ra)] []))
  refine OGo.on (fun t k => XS.aloadN X0.here hx rfl (hb hby d4_0) rfl rfl k) ?_
  show OGo p e below s _ _ _ (s₁.setTop (mkF m 1 #[.val (.ref ra)] [(.ref ra)]))
  obtain ⟨T32, X32, e32, st32⟩ := getF X0 hx hZ hown (host := "") (Or.inl (hw _ (List.mem_of_getElem? (i := 16) rfl))) Via.refl e0 F1 (g := (mkF m 1 #[.val (.ref ra)] [(.ref ra)])) rfl rfl (hb hby d4_1)
  refine OGo.on st32 ?_
  show OGo p e below s _ _ _ (T32.setTop (mkF m 4 #[.val (.ref ra)] [(.int vs)]))
  by_cases hc33 : vs = (0 : Int32)
  · refine OGo.on (fun t k => XS.ifYes X32.here hx rfl (pc0 := 4) (pc' := 19) rfl (hb hby d4_4) rfl ((if0 _ _).trans (teq hc33).1) (by decide) (by decide) k) ?_
    show OGo p e below s _ _ _ (T32.setTop (mkF m 19 #[.val (.ref ra)] []))
    refine OGo.on (fun t k => XS.lconst X32.here hx rfl (hb hby d4_19) k) ?_
    show OGo p e below s _ _ _ (T32.setTop (mkF m 20 #[.val (.ref ra)] [(.long (0 : Int64))]))
    exact OGo.retJ X32 hx hret hlk (hb hby d4_20) (opJ (by simp [own_min, hc33]) N0 e32) (by decide) (by decide)
  · refine OGo.on (fun t k => XS.ifNo X32.here hx rfl (hb hby d4_4) rfl ((if0 _ _).trans (feq hc33).1) k) ?_
    show OGo p e below s _ _ _ (T32.setTop (mkF m 7 #[.val (.ref ra)] []))
    refine OGo.on (fun t k => XS.lconst X32.here hx rfl (hb hby d4_7) k) ?_
    show OGo p e below s _ _ _ (T32.setTop (mkF m 8 #[.val (.ref ra)] [(.long (1 : Int64))]))
    refine OGo.on (fun t k => XS.aloadN X32.here hx rfl (hb hby d4_8) rfl rfl k) ?_
    show OGo p e below s _ _ _ (T32.setTop (mkF m 9 #[.val (.ref ra)] [(.ref ra), (.long (1 : Int64))]))
    obtain ⟨T34, X34, e34, st34⟩ := getF X32 hx hZ hown (host := "") (Or.inl (hw _ (List.mem_of_getElem? (i := 14) rfl))) Via.refl e32 F0 (g := (mkF m 9 #[.val (.ref ra)] [(.ref ra), (.long (1 : Int64))])) rfl rfl (hb hby d4_9)
    refine OGo.on st34 ?_
    show OGo p e below s _ _ _ (T34.setTop (mkF m 12 #[.val (.ref ra)] [(.int vb), (.long (1 : Int64))]))
    refine OGo.on (fun t k => XS.iconst X34.here hx rfl (hb hby d4_12) k) ?_
    show OGo p e below s _ _ _ (T34.setTop (mkF m 13 #[.val (.ref ra)] [(.int (1 : Int32)), (.int vb), (.long (1 : Int64))]))
    refine OGo.on (fun t k => XS.isub X34.here hx rfl (hb hby d4_13) rfl k) ?_
    show OGo p e below s _ _ _ (T34.setTop (mkF m 14 #[.val (.ref ra)] [(.int (vb - (1 : Int32))), (.long (1 : Int64))]))
    refine OGo.on (fun t k => XS.lshl X34.here hx rfl (hb hby d4_14) rfl k) ?_
    show OGo p e below s _ _ _ (T34.setTop (mkF m 15 #[.val (.ref ra)] [(.long ((1 : Int64) <<< ((vb - (1 : Int32)) &&& 0x3f).toInt64))]))
    refine OGo.on (fun t k => XS.lneg X34.here hx rfl (hb hby d4_15) rfl k) ?_
    show OGo p e below s _ _ _ (T34.setTop (mkF m 16 #[.val (.ref ra)] [(.long (-((1 : Int64) <<< ((vb - (1 : Int32)) &&& 0x3f).toInt64)))]))
    refine OGo.on (fun t k => XS.goto X34.here hx rfl (pc0 := 16) (pc' := 20) rfl (hb hby d4_16) (by decide) (by decide) k) ?_
    show OGo p e below s _ _ _ (T34.setTop (mkF m 20 #[.val (.ref ra)] [(.long (-((1 : Int64) <<< ((vb - (1 : Int32)) &&& 0x3f).toInt64)))]))
    exact OGo.retJ X34 hx hret hlk (hb hby d4_20) (opJ (by simp [own_min, hc33]) N0 e34) (by decide) (by decide)
theorem own_pn2 : plainName "com/example/libkripke/libkripke/model/IntTypeMinPinLaw" = true := by first | (simp [plainName, overriddenIn]; done) | decide +kernel
theorem own_pd1 : parseMethodDescriptor "(IZ)V" = some ⟨[.int, .boolean], none⟩ := by decide +kernel
theorem own_pd2 : parseMethodDescriptor "()J" = some ⟨[], some .long⟩ := by decide +kernel
theorem ef_own_law (m : MethodId) (x0 : Int32) (x1 : Int32) : entryFrame m #[(.int x0), (.int x1)] maxLocals = mkF m 0 #[.val (.int x0), .val (.int x1), .unset, .unset, .unset, .unset, .unset, .unset, .unset] [] := by first | (simp [entryFrame, mkF, argsToLocals, Value.category, maxLocals]; done) | rfl
set_option maxRecDepth 65536 in
set_option maxHeartbeats 40000000 in
theorem own_law (l : Launch) (Z : State) (a0 : Array Value) (hw : ∀ d ∈ tables_1, d.before a0 Z = true) (ws : List Jvm.Cond) (vw vf : Int32) (h0 : Heap) (n0 : Nat) (Z0 : n0 ≤ h0.size)  :
    MetFree l x (head1 (Jvm.Cond.code x code maxLocals ret :: ws) room_1) (fun a U => a = #[(.int vw), (.int vf)] ∧ Z.Warmed39 U.vm ∧ U.heap = h0) (fun _ _ _ _ _ => True) (fun _ U o U' => ∃ v L, o = .returned v ∧ (fun v h L => v = some (.int 1) ∧ Fr n0 L) v U'.heap L ∧ FrameEnd U o U' L 16 128) := by
  refine MetFree.of_bodySF (plainFor_of_name own_pn2) hisR ?_
  intro p e s m args below meth c s₁ Bd hml0 hP hK
  obtain ⟨rfl, hZ, hh⟩ := hP
  have hx := Bd.exec
  have hby := Bd.bytes
  have hret := Bd.returns
  have hlk : meth.locks = false := Bd.notSynchronized
  have hml : c.maxLocals = 9 := hml0
  have hown : s.vm.findClass "com/example/libkripke/libkripke/model/IntTypeMinPinLaw" = some m.cls := findClass_of_methodNamed Bd.named
  have hnm := (name_of_methodNamed Bd.named Bd.method).1
  have X0 : Stand p l e room_1 s m #[(.int vw), (.int vf)] below meth c s₁ [] 0 0 := Stand.of_body Bd
  have e0 : s₁.heap = h0 := by rw [← hh, Bd.state]; rfl
  have N0 := Fr.nil n0
  have pre0 : ∀ t, Steps p.tables e below (s₁.setTop (mkF m 0 #[.val (.int vw), .val (.int vf), .unset, .unset, .unset, .unset, .unset, .unset, .unset] [])) t → Steps p.tables e below (s₁.setTop (entryFrame m #[(.int vw), (.int vf)] maxLocals)) t := fun t k => castTop (ef_own_law m vw vf) k
  show OGo p e below s (fun v h L => v = some (.int 1) ∧ Fr n0 L) 16 128 (s₁.setTop (entryFrame m #[(.int vw), (.int vf)] maxLocals))
  refine OGo.on pre0 ?_
  show OGo p e below s _ _ _ (s₁.setTop (mkF m 0 #[.val (.int vw), .val (.int vf), .unset, .unset, .unset, .unset, .unset, .unset, .unset] []))
  refine OGo.on (fun t k => XS.iloadN X0.here hx rfl (hb hby at_0) rfl k) ?_
  show OGo p e below s _ _ _ (s₁.setTop (mkF m 1 #[.val (.int vw), .val (.int vf), .unset, .unset, .unset, .unset, .unset, .unset, .unset] [(.int vf)]))
  refine OGo.on (fun t k => XS.iconst X0.here hx rfl (hb hby at_1) k) ?_
  show OGo p e below s _ _ _ (s₁.setTop (mkF m 2 #[.val (.int vw), .val (.int vf), .unset, .unset, .unset, .unset, .unset, .unset, .unset] [(.int (1 : Int32)), (.int vf)]))
  refine OGo.on (fun t k => XS.iand X0.here hx rfl (hb hby at_2) rfl k) ?_
  show OGo p e below s _ _ _ (s₁.setTop (mkF m 3 #[.val (.int vw), .val (.int vf), .unset, .unset, .unset, .unset, .unset, .unset, .unset] [(.int (vf &&& (1 : Int32)))]))
  by_cases hc35 : (vf &&& (1 : Int32)) = (0 : Int32)
  · refine OGo.on (fun t k => XS.ifYes X0.here hx rfl (pc0 := 3) (pc' := 10) rfl (hb hby at_3) rfl ((if0 _ _).trans (teq hc35).1) (by decide) (by decide) k) ?_
    show OGo p e below s _ _ _ (s₁.setTop (mkF m 10 #[.val (.int vw), .val (.int vf), .unset, .unset, .unset, .unset, .unset, .unset, .unset] []))
    refine OGo.on (fun t k => XS.iconst X0.here hx rfl (hb hby at_10) k) ?_
    show OGo p e below s _ _ _ (s₁.setTop (mkF m 11 #[.val (.int vw), .val (.int vf), .unset, .unset, .unset, .unset, .unset, .unset, .unset] [(.int (0 : Int32))]))
    refine OGo.on (fun t k => XS.istoreN X0.here hx rfl (hb hby at_11) rfl (l' := #[.val (.int vw), .val (.int vf), .val (.int (0 : Int32)), .unset, .unset, .unset, .unset, .unset, .unset]) rfl k) ?_
    show OGo p e below s _ _ _ (s₁.setTop (mkF m 12 #[.val (.int vw), .val (.int vf), .val (.int (0 : Int32)), .unset, .unset, .unset, .unset, .unset, .unset] []))
    refine OGo.on (fun t k => XS.iloadN X0.here hx rfl (hb hby at_12) rfl k) ?_
    show OGo p e below s _ _ _ (s₁.setTop (mkF m 13 #[.val (.int vw), .val (.int vf), .val (.int (0 : Int32)), .unset, .unset, .unset, .unset, .unset, .unset] [(.int (0 : Int32))]))
    refine OGo.on (fun t k => XS.ifYes X0.here hx rfl (pc0 := 13) (pc' := 25) rfl (hb hby at_13) rfl ((if0 _ _).trans (teq (by decide)).1) (by decide) (by decide) k) ?_
    show OGo p e below s _ _ _ (s₁.setTop (mkF m 25 #[.val (.int vw), .val (.int vf), .val (.int (0 : Int32)), .unset, .unset, .unset, .unset, .unset, .unset] []))
    refine OGo.on (fun t k => XS.iloadN X0.here hx rfl (hb hby at_25) rfl k) ?_
    show OGo p e below s _ _ _ (s₁.setTop (mkF m 26 #[.val (.int vw), .val (.int vf), .val (.int (0 : Int32)), .unset, .unset, .unset, .unset, .unset, .unset] [(.int vw)]))
    refine OGo.on (fun t k => X0.ldcI hx hown (mvT hZ (hw _ (List.mem_of_getElem? (i := 24) rfl))) (g := (mkF m 26 #[.val (.int vw), .val (.int vf), .val (.int (0 : Int32)), .unset, .unset, .unset, .unset, .unset, .unset] [(.int vw)])) rfl (hb hby at_26) k) ?_
    show OGo p e below s _ _ _ (s₁.setTop (mkF m 28 #[.val (.int vw), .val (.int vf), .val (.int (0 : Int32)), .unset, .unset, .unset, .unset, .unset, .unset] [(.int (2147483647 : Int32)), (.int vw)]))
    refine OGo.on (fun t k => XS.iand X0.here hx rfl (hb hby at_28) rfl k) ?_
    show OGo p e below s _ _ _ (s₁.setTop (mkF m 29 #[.val (.int vw), .val (.int vf), .val (.int (0 : Int32)), .unset, .unset, .unset, .unset, .unset, .unset] [(.int (vw &&& (2147483647 : Int32)))]))
    refine OGo.on (fun t k => XS.bipush X0.here hx rfl (hb hby at_29) k) ?_
    show OGo p e below s _ _ _ (s₁.setTop (mkF m 31 #[.val (.int vw), .val (.int vf), .val (.int (0 : Int32)), .unset, .unset, .unset, .unset, .unset, .unset] [(.int (63 : Int32)), (.int (vw &&& (2147483647 : Int32)))]))
    refine OGo.on (fun t k => iremM X0 hx rfl (hb hby at_31) rfl (by decide) k) ?_
    show OGo p e below s _ _ _ (s₁.setTop (mkF m 32 #[.val (.int vw), .val (.int vf), .val (.int (0 : Int32)), .unset, .unset, .unset, .unset, .unset, .unset] [(.int ((vw &&& (2147483647 : Int32)) % (63 : Int32)))]))
    refine OGo.on (fun t k => XS.iconst X0.here hx rfl (hb hby at_32) k) ?_
    show OGo p e below s _ _ _ (s₁.setTop (mkF m 33 #[.val (.int vw), .val (.int vf), .val (.int (0 : Int32)), .unset, .unset, .unset, .unset, .unset, .unset] [(.int (1 : Int32)), (.int ((vw &&& (2147483647 : Int32)) % (63 : Int32)))]))
    refine OGo.on (fun t k => XS.iadd X0.here hx rfl (hb hby at_33) rfl k) ?_
    show OGo p e below s _ _ _ (s₁.setTop (mkF m 34 #[.val (.int vw), .val (.int vf), .val (.int (0 : Int32)), .unset, .unset, .unset, .unset, .unset, .unset] [(.int (((vw &&& (2147483647 : Int32)) % (63 : Int32)) + (1 : Int32)))]))
    refine OGo.on (fun t k => XS.istoreN X0.here hx rfl (hb hby at_34) rfl (l' := #[.val (.int vw), .val (.int vf), .val (.int (0 : Int32)), .val (.int (((vw &&& (2147483647 : Int32)) % (63 : Int32)) + (1 : Int32))), .unset, .unset, .unset, .unset, .unset]) rfl k) ?_
    show OGo p e below s _ _ _ (s₁.setTop (mkF m 35 #[.val (.int vw), .val (.int vf), .val (.int (0 : Int32)), .val (.int (((vw &&& (2147483647 : Int32)) % (63 : Int32)) + (1 : Int32))), .unset, .unset, .unset, .unset, .unset] []))
    generalize hv_vb : (((vw &&& (2147483647 : Int32)) % (63 : Int32)) + (1 : Int32)) = vb
    show OGo p e below s _ _ _ (s₁.setTop (mkF m 35 #[.val (.int vw), .val (.int vf), .val (.int (0 : Int32)), .val (.int vb), .unset, .unset, .unset, .unset, .unset] []))
    have hbn : ∃ n : Fin 63, vb = Int32.ofNat (n.val + 1) := by rw [← hv_vb]; exact own_bu _
    obtain ⟨T36, h36, X36, e36, E36, A36, D36, -, st36⟩ := newO X0 hx hZ hown (hw _ (List.mem_of_getElem? (i := 0) rfl)) (hw _ (List.mem_of_getElem? (i := 1) rfl)) (hw _ (List.mem_of_getElem? (i := 2) rfl)) e0 (g := (mkF m 35 #[.val (.int vw), .val (.int vf), .val (.int (0 : Int32)), .val (.int vb), .unset, .unset, .unset, .unset, .unset] [])) rfl (hb hby at_35) (by decide) (by decide)
    obtain ⟨b36, g36⟩ : ∃ z, z = h0.size := ⟨_, rfl⟩
    rw [← g36] at A36 D36 st36
    have ge37 : n0 ≤ b36 := Nat.le_trans Z0 (Nat.le_of_eq g36.symm)
    have Z38 : n0 ≤ h36.size := Nat.le_trans Z0 E36.1
    have f39 : Fld Z h36 b36 "com/example/libkripke/libkripke/model/IntType" "bits" "I" (.int (0 : Int32)) := D36 (Or.inr (hw _ (List.mem_of_getElem? (i := 15) rfl))) (ty := .int) (by decide)
    have f40 : Fld Z h36 b36 "com/example/libkripke/libkripke/model/IntType" "signed" "Z" (.int (0 : Int32)) := D36 (Or.inr (hw _ (List.mem_of_getElem? (i := 17) rfl))) (ty := .boolean) (by decide)
    refine OGo.on st36 ?_
    show OGo p e below s _ _ _ (T36.setTop (mkF m 38 #[.val (.int vw), .val (.int vf), .val (.int (0 : Int32)), .val (.int vb), .unset, .unset, .unset, .unset, .unset] [(.ref b36)]))
    refine OGo.on (fun t k => XS.dup X36.here hx rfl (hb hby at_38) rfl rfl k) ?_
    show OGo p e below s _ _ _ (T36.setTop (mkF m 39 #[.val (.int vw), .val (.int vf), .val (.int (0 : Int32)), .val (.int vb), .unset, .unset, .unset, .unset, .unset] [(.ref b36), (.ref b36)]))
    refine OGo.on (fun t k => XS.iloadN X36.here hx rfl (hb hby at_39) rfl k) ?_
    show OGo p e below s _ _ _ (T36.setTop (mkF m 40 #[.val (.int vw), .val (.int vf), .val (.int (0 : Int32)), .val (.int vb), .unset, .unset, .unset, .unset, .unset] [(.int vb), (.ref b36), (.ref b36)]))
    refine OGo.on (fun t k => XS.iloadN X36.here hx rfl (hb hby at_40) rfl k) ?_
    show OGo p e below s _ _ _ (T36.setTop (mkF m 41 #[.val (.int vw), .val (.int vf), .val (.int (0 : Int32)), .val (.int vb), .unset, .unset, .unset, .unset, .unset] [(.int (0 : Int32)), (.int vb), (.ref b36), (.ref b36)]))
    obtain ⟨_, _, ⟨T41, L41, k41, n41⟩, -, X41, ⟨Lc41, hQ41, l41, y41, z41⟩, st41⟩ := X36.specialBack hx (y := (⟨"com/example/libkripke/libkripke/model/IntType", "<init>", "(IZ)V"⟩ : MethodName)) rfl hown (mvT hZ (hw _ (List.mem_of_getElem? (i := 3) rfl))) (mvT hZ (hw _ (List.mem_of_getElem? (i := 4) rfl))) (mvT hZ (hw _ (List.mem_of_getElem? (i := 5) rfl))) (by decide) (backOf (W := 1) (own_init l Z a0 hw [] b36 vb (0 : Int32) h36 n0 Z38 ge37 A36 f39 f40 (own_y (P := fun b => ¬ b < 1) hbn (by decide)) (fun _ => own_y (P := fun b => ¬ 63 < b) hbn (by decide)) (fun q => absurd rfl q)) hZ (hw _ (List.mem_of_getElem? (i := 5) rfl)) (hw _ (List.mem_of_getElem? (i := 2) rfl)) (by decide) (by decide)) (g := (mkF m 41 #[.val (.int vw), .val (.int vf), .val (.int (0 : Int32)), .val (.int vb), .unset, .unset, .unset, .unset, .unset] [(.int (0 : Int32)), (.int vb), (.ref b36), (.ref b36)])) rfl (by rw [hml]; rfl) (Steps.refl _) (a := b36) (argsL := [(.int vb), (.int (0 : Int32))]) (rest := [(.ref b36)]) (lenOf own_pd1 rfl) rfl (by show 2 * 0 + _ ≤ _; exact Nat.le_of_eq rfl) (hb hby at_41) (fun _ _ => ⟨rfl, e36, (by decide : 1 + 0 ≤ _), (by decide : 2 + 0 ≤ _)⟩)
    dsimp only [Pt.U, Pt.locs, Pt.cells, Pt.slots] at X41 l41 y41 z41 st41 hQ41
    subst l41 y41 z41
    obtain ⟨rfl, N41q, K41, Fb41, Fs41⟩ := hQ41
    have N41 := Fr.app N0 N41q
    have Fz41 : Fld Z T41.heap b36 "com/example/libkripke/libkripke/model/IntType" "signed" "Z" (.int (0 : Int32)) := Fs41
    have f42 : Exa Z T41.heap b36 "com/example/libkripke/libkripke/model/IntType" := A36.keep K41
    have Z43 : n0 ≤ T41.heap.size := Nat.le_trans Z38 K41.1
    refine OGo.on (fun t k => st41.trans k) ?_
    show OGo p e below s _ _ _ (T41.setTop (mkF m 44 #[.val (.int vw), .val (.int vf), .val (.int (0 : Int32)), .val (.int vb), .unset, .unset, .unset, .unset, .unset] [(.ref b36)]))
    refine OGo.on (fun t k => XS.astore X41.here hx rfl (hb hby at_44) rfl rfl (l' := #[.val (.int vw), .val (.int vf), .val (.int (0 : Int32)), .val (.int vb), .val (.ref b36), .unset, .unset, .unset, .unset]) rfl k) ?_
    show OGo p e below s _ _ _ (T41.setTop (mkF m 46 #[.val (.int vw), .val (.int vf), .val (.int (0 : Int32)), .val (.int vb), .val (.ref b36), .unset, .unset, .unset, .unset] []))
    refine OGo.on (fun t k => XS.aload X41.here hx rfl (hb hby at_46) rfl rfl k) ?_
    show OGo p e below s _ _ _ (T41.setTop (mkF m 48 #[.val (.int vw), .val (.int vf), .val (.int (0 : Int32)), .val (.int vb), .val (.ref b36), .unset, .unset, .unset, .unset] [(.ref b36)]))
    obtain ⟨cq44, kq44, q44a, q44b, q44c⟩ := isOf hZ rfl f42
    obtain ⟨_, _, ⟨T44, L44, k44, n44⟩, -, X44, ⟨Lc44, hQ44, l44, y44, z44⟩, st44⟩ := X41.virtualBack hx (y := (⟨"com/example/libkripke/libkripke/model/IntType", "min", "()J"⟩ : MethodName)) (z := (⟨"com/example/libkripke/libkripke/model/IntType", "min", "()J"⟩ : MethodName)) hown (mvT hZ (hw _ (List.mem_of_getElem? (i := 18) rfl))) (mvT hZ (hw _ (List.mem_of_getElem? (i := 19) rfl))) (notFace_of_selects (args := #[]) (mvT hZ (hw _ (List.mem_of_getElem? (i := 21) rfl)))) (mvT hZ (hw _ (List.mem_of_getElem? (i := 21) rfl))) (mvT hZ (hw _ (List.mem_of_getElem? (i := 20) rfl))) (by decide) (backOf (W := 0) (own_meth l Z a0 hw [] b36 vb (0 : Int32)  T41.heap n0 Z43 Fb41 Fz41) hZ (hw _ (List.mem_of_getElem? (i := 22) rfl)) (hw _ (List.mem_of_getElem? (i := 2) rfl)) (by decide) (by decide)) q44a q44c (g := (mkF m 48 #[.val (.int vw), .val (.int vf), .val (.int (0 : Int32)), .val (.int vb), .val (.ref b36), .unset, .unset, .unset, .unset] [(.ref b36)])) rfl (by rw [hml]; rfl) (Steps.refl _) (argsL := []) (rest := []) (lenOf own_pd2 rfl) rfl (by show 2 * 0 + _ ≤ _; exact Nat.le_of_eq rfl) (hb hby at_48) (fun _ _ => ⟨rfl, rfl, (by decide : 1 + 0 ≤ _), (by decide : 2 + 0 ≤ _)⟩)
    dsimp only [Pt.U, Pt.locs, Pt.cells, Pt.slots] at X44 l44 y44 z44 st44 hQ44
    subst l44 y44 z44
    obtain ⟨rfl, N44q, e44⟩ := hQ44
    have N44 := Fr.app N41 N44q
    refine OGo.on (fun t k => st44.trans k) ?_
    show OGo p e below s _ _ _ (T44.setTop (mkF m 51 #[.val (.int vw), .val (.int vf), .val (.int (0 : Int32)), .val (.int vb), .val (.ref b36), .unset, .unset, .unset, .unset] [(.long (own_min vb (0 : Int32)))]))
    refine OGo.on (fun t k => XS.lstore X44.here hx rfl (hb hby at_51) rfl (l' := #[.val (.int vw), .val (.int vf), .val (.int (0 : Int32)), .val (.int vb), .val (.ref b36), .val (.long (own_min vb (0 : Int32))), .second, .unset, .unset]) rfl k) ?_
    show OGo p e below s _ _ _ (T44.setTop (mkF m 53 #[.val (.int vw), .val (.int vf), .val (.int (0 : Int32)), .val (.int vb), .val (.ref b36), .val (.long (own_min vb (0 : Int32))), .second, .unset, .unset] []))
    refine OGo.on (fun t k => XS.iloadN X44.here hx rfl (hb hby at_53) rfl k) ?_
    show OGo p e below s _ _ _ (T44.setTop (mkF m 54 #[.val (.int vw), .val (.int vf), .val (.int (0 : Int32)), .val (.int vb), .val (.ref b36), .val (.long (own_min vb (0 : Int32))), .second, .unset, .unset] [(.int (0 : Int32))]))
    refine OGo.on (fun t k => XS.ifYes X44.here hx rfl (pc0 := 54) (pc' := 68) rfl (hb hby at_54) rfl ((if0 _ _).trans (teq (by decide)).1) (by decide) (by decide) k) ?_
    show OGo p e below s _ _ _ (T44.setTop (mkF m 68 #[.val (.int vw), .val (.int vf), .val (.int (0 : Int32)), .val (.int vb), .val (.ref b36), .val (.long (own_min vb (0 : Int32))), .second, .unset, .unset] []))
    refine OGo.on (fun t k => XS.lconst X44.here hx rfl (hb hby at_68) k) ?_
    show OGo p e below s _ _ _ (T44.setTop (mkF m 69 #[.val (.int vw), .val (.int vf), .val (.int (0 : Int32)), .val (.int vb), .val (.ref b36), .val (.long (own_min vb (0 : Int32))), .second, .unset, .unset] [(.long (0 : Int64))]))
    refine OGo.on (fun t k => XS.lstore X44.here hx rfl (hb hby at_69) rfl (l' := #[.val (.int vw), .val (.int vf), .val (.int (0 : Int32)), .val (.int vb), .val (.ref b36), .val (.long (own_min vb (0 : Int32))), .second, .val (.long (0 : Int64)), .second]) rfl k) ?_
    show OGo p e below s _ _ _ (T44.setTop (mkF m 71 #[.val (.int vw), .val (.int vf), .val (.int (0 : Int32)), .val (.int vb), .val (.ref b36), .val (.long (own_min vb (0 : Int32))), .second, .val (.long (0 : Int64)), .second] []))
    refine OGo.on (fun t k => XS.lload X44.here hx rfl (hb hby at_71) rfl k) ?_
    show OGo p e below s _ _ _ (T44.setTop (mkF m 73 #[.val (.int vw), .val (.int vf), .val (.int (0 : Int32)), .val (.int vb), .val (.ref b36), .val (.long (own_min vb (0 : Int32))), .second, .val (.long (0 : Int64)), .second] [(.long (own_min vb (0 : Int32)))]))
    refine OGo.on (fun t k => XS.lload X44.here hx rfl (hb hby at_73) rfl k) ?_
    show OGo p e below s _ _ _ (T44.setTop (mkF m 75 #[.val (.int vw), .val (.int vf), .val (.int (0 : Int32)), .val (.int vb), .val (.ref b36), .val (.long (own_min vb (0 : Int32))), .second, .val (.long (0 : Int64)), .second] [(.long (0 : Int64)), (.long (own_min vb (0 : Int32)))]))
    refine OGo.on (fun t k => XS.lcmp X44.here hx rfl (hb hby at_75) rfl k) ?_
    show OGo p e below s _ _ _ (T44.setTop (mkF m 76 #[.val (.int vw), .val (.int vf), .val (.int (0 : Int32)), .val (.int vb), .val (.ref b36), .val (.long (own_min vb (0 : Int32))), .second, .val (.long (0 : Int64)), .second] [(.int (lcmpW (own_min vb (0 : Int32)) (0 : Int64)))]))
    refine OGo.on (fun t k => XS.ifNo X44.here hx rfl (hb hby at_76) rfl (lc_teq (own_y (P := fun b => (own_min b (0 : Int32)) = (0 : Int64)) hbn (by decide +kernel))).2 k) ?_
    show OGo p e below s _ _ _ (T44.setTop (mkF m 79 #[.val (.int vw), .val (.int vf), .val (.int (0 : Int32)), .val (.int vb), .val (.ref b36), .val (.long (own_min vb (0 : Int32))), .second, .val (.long (0 : Int64)), .second] []))
    refine OGo.on (fun t k => XS.iconst X44.here hx rfl (hb hby at_79) k) ?_
    show OGo p e below s _ _ _ (T44.setTop (mkF m 80 #[.val (.int vw), .val (.int vf), .val (.int (0 : Int32)), .val (.int vb), .val (.ref b36), .val (.long (own_min vb (0 : Int32))), .second, .val (.long (0 : Int64)), .second] [(.int (1 : Int32))]))
    refine OGo.on (fun t k => XS.goto X44.here hx rfl (pc0 := 80) (pc' := 84) rfl (hb hby at_80) (by decide) (by decide) k) ?_
    show OGo p e below s _ _ _ (T44.setTop (mkF m 84 #[.val (.int vw), .val (.int vf), .val (.int (0 : Int32)), .val (.int vb), .val (.ref b36), .val (.long (own_min vb (0 : Int32))), .second, .val (.long (0 : Int64)), .second] [(.int (1 : Int32))]))
    exact OGo.retN X44 hx (t := .boolean) hret hlk (by simp) (hb hby at_84) ⟨rfl, N44⟩ (by decide) (by decide)
  · refine OGo.on (fun t k => XS.ifNo X0.here hx rfl (hb hby at_3) rfl ((if0 _ _).trans (feq hc35).1) k) ?_
    show OGo p e below s _ _ _ (s₁.setTop (mkF m 6 #[.val (.int vw), .val (.int vf), .unset, .unset, .unset, .unset, .unset, .unset, .unset] []))
    refine OGo.on (fun t k => XS.iconst X0.here hx rfl (hb hby at_6) k) ?_
    show OGo p e below s _ _ _ (s₁.setTop (mkF m 7 #[.val (.int vw), .val (.int vf), .unset, .unset, .unset, .unset, .unset, .unset, .unset] [(.int (1 : Int32))]))
    refine OGo.on (fun t k => XS.goto X0.here hx rfl (pc0 := 7) (pc' := 11) rfl (hb hby at_7) (by decide) (by decide) k) ?_
    show OGo p e below s _ _ _ (s₁.setTop (mkF m 11 #[.val (.int vw), .val (.int vf), .unset, .unset, .unset, .unset, .unset, .unset, .unset] [(.int (1 : Int32))]))
    refine OGo.on (fun t k => XS.istoreN X0.here hx rfl (hb hby at_11) rfl (l' := #[.val (.int vw), .val (.int vf), .val (.int (1 : Int32)), .unset, .unset, .unset, .unset, .unset, .unset]) rfl k) ?_
    show OGo p e below s _ _ _ (s₁.setTop (mkF m 12 #[.val (.int vw), .val (.int vf), .val (.int (1 : Int32)), .unset, .unset, .unset, .unset, .unset, .unset] []))
    refine OGo.on (fun t k => XS.iloadN X0.here hx rfl (hb hby at_12) rfl k) ?_
    show OGo p e below s _ _ _ (s₁.setTop (mkF m 13 #[.val (.int vw), .val (.int vf), .val (.int (1 : Int32)), .unset, .unset, .unset, .unset, .unset, .unset] [(.int (1 : Int32))]))
    refine OGo.on (fun t k => XS.ifNo X0.here hx rfl (hb hby at_13) rfl ((if0 _ _).trans (feq (by decide)).1) k) ?_
    show OGo p e below s _ _ _ (s₁.setTop (mkF m 16 #[.val (.int vw), .val (.int vf), .val (.int (1 : Int32)), .unset, .unset, .unset, .unset, .unset, .unset] []))
    refine OGo.on (fun t k => XS.iloadN X0.here hx rfl (hb hby at_16) rfl k) ?_
    show OGo p e below s _ _ _ (s₁.setTop (mkF m 17 #[.val (.int vw), .val (.int vf), .val (.int (1 : Int32)), .unset, .unset, .unset, .unset, .unset, .unset] [(.int vw)]))
    refine OGo.on (fun t k => XS.bipush X0.here hx rfl (hb hby at_17) k) ?_
    show OGo p e below s _ _ _ (s₁.setTop (mkF m 19 #[.val (.int vw), .val (.int vf), .val (.int (1 : Int32)), .unset, .unset, .unset, .unset, .unset, .unset] [(.int (63 : Int32)), (.int vw)]))
    refine OGo.on (fun t k => XS.iand X0.here hx rfl (hb hby at_19) rfl k) ?_
    show OGo p e below s _ _ _ (s₁.setTop (mkF m 20 #[.val (.int vw), .val (.int vf), .val (.int (1 : Int32)), .unset, .unset, .unset, .unset, .unset, .unset] [(.int (vw &&& (63 : Int32)))]))
    refine OGo.on (fun t k => XS.iconst X0.here hx rfl (hb hby at_20) k) ?_
    show OGo p e below s _ _ _ (s₁.setTop (mkF m 21 #[.val (.int vw), .val (.int vf), .val (.int (1 : Int32)), .unset, .unset, .unset, .unset, .unset, .unset] [(.int (1 : Int32)), (.int (vw &&& (63 : Int32)))]))
    refine OGo.on (fun t k => XS.iadd X0.here hx rfl (hb hby at_21) rfl k) ?_
    show OGo p e below s _ _ _ (s₁.setTop (mkF m 22 #[.val (.int vw), .val (.int vf), .val (.int (1 : Int32)), .unset, .unset, .unset, .unset, .unset, .unset] [(.int ((vw &&& (63 : Int32)) + (1 : Int32)))]))
    refine OGo.on (fun t k => XS.goto X0.here hx rfl (pc0 := 22) (pc' := 34) rfl (hb hby at_22) (by decide) (by decide) k) ?_
    show OGo p e below s _ _ _ (s₁.setTop (mkF m 34 #[.val (.int vw), .val (.int vf), .val (.int (1 : Int32)), .unset, .unset, .unset, .unset, .unset, .unset] [(.int ((vw &&& (63 : Int32)) + (1 : Int32)))]))
    refine OGo.on (fun t k => XS.istoreN X0.here hx rfl (hb hby at_34) rfl (l' := #[.val (.int vw), .val (.int vf), .val (.int (1 : Int32)), .val (.int ((vw &&& (63 : Int32)) + (1 : Int32))), .unset, .unset, .unset, .unset, .unset]) rfl k) ?_
    show OGo p e below s _ _ _ (s₁.setTop (mkF m 35 #[.val (.int vw), .val (.int vf), .val (.int (1 : Int32)), .val (.int ((vw &&& (63 : Int32)) + (1 : Int32))), .unset, .unset, .unset, .unset, .unset] []))
    generalize hv_vb : ((vw &&& (63 : Int32)) + (1 : Int32)) = vb
    show OGo p e below s _ _ _ (s₁.setTop (mkF m 35 #[.val (.int vw), .val (.int vf), .val (.int (1 : Int32)), .val (.int vb), .unset, .unset, .unset, .unset, .unset] []))
    have hbn : ∃ n : Fin 64, vb = Int32.ofNat (n.val + 1) := by rw [← hv_vb]; exact own_bs _
    obtain ⟨T45, h45, X45, e45, E45, A45, D45, -, st45⟩ := newO X0 hx hZ hown (hw _ (List.mem_of_getElem? (i := 0) rfl)) (hw _ (List.mem_of_getElem? (i := 1) rfl)) (hw _ (List.mem_of_getElem? (i := 2) rfl)) e0 (g := (mkF m 35 #[.val (.int vw), .val (.int vf), .val (.int (1 : Int32)), .val (.int vb), .unset, .unset, .unset, .unset, .unset] [])) rfl (hb hby at_35) (by decide) (by decide)
    obtain ⟨b45, g45⟩ : ∃ z, z = h0.size := ⟨_, rfl⟩
    rw [← g45] at A45 D45 st45
    have ge46 : n0 ≤ b45 := Nat.le_trans Z0 (Nat.le_of_eq g45.symm)
    have Z47 : n0 ≤ h45.size := Nat.le_trans Z0 E45.1
    have f48 : Fld Z h45 b45 "com/example/libkripke/libkripke/model/IntType" "bits" "I" (.int (0 : Int32)) := D45 (Or.inr (hw _ (List.mem_of_getElem? (i := 15) rfl))) (ty := .int) (by decide)
    have f49 : Fld Z h45 b45 "com/example/libkripke/libkripke/model/IntType" "signed" "Z" (.int (0 : Int32)) := D45 (Or.inr (hw _ (List.mem_of_getElem? (i := 17) rfl))) (ty := .boolean) (by decide)
    refine OGo.on st45 ?_
    show OGo p e below s _ _ _ (T45.setTop (mkF m 38 #[.val (.int vw), .val (.int vf), .val (.int (1 : Int32)), .val (.int vb), .unset, .unset, .unset, .unset, .unset] [(.ref b45)]))
    refine OGo.on (fun t k => XS.dup X45.here hx rfl (hb hby at_38) rfl rfl k) ?_
    show OGo p e below s _ _ _ (T45.setTop (mkF m 39 #[.val (.int vw), .val (.int vf), .val (.int (1 : Int32)), .val (.int vb), .unset, .unset, .unset, .unset, .unset] [(.ref b45), (.ref b45)]))
    refine OGo.on (fun t k => XS.iloadN X45.here hx rfl (hb hby at_39) rfl k) ?_
    show OGo p e below s _ _ _ (T45.setTop (mkF m 40 #[.val (.int vw), .val (.int vf), .val (.int (1 : Int32)), .val (.int vb), .unset, .unset, .unset, .unset, .unset] [(.int vb), (.ref b45), (.ref b45)]))
    refine OGo.on (fun t k => XS.iloadN X45.here hx rfl (hb hby at_40) rfl k) ?_
    show OGo p e below s _ _ _ (T45.setTop (mkF m 41 #[.val (.int vw), .val (.int vf), .val (.int (1 : Int32)), .val (.int vb), .unset, .unset, .unset, .unset, .unset] [(.int (1 : Int32)), (.int vb), (.ref b45), (.ref b45)]))
    obtain ⟨_, _, ⟨T50, L50, k50, n50⟩, -, X50, ⟨Lc50, hQ50, l50, y50, z50⟩, st50⟩ := X45.specialBack hx (y := (⟨"com/example/libkripke/libkripke/model/IntType", "<init>", "(IZ)V"⟩ : MethodName)) rfl hown (mvT hZ (hw _ (List.mem_of_getElem? (i := 3) rfl))) (mvT hZ (hw _ (List.mem_of_getElem? (i := 4) rfl))) (mvT hZ (hw _ (List.mem_of_getElem? (i := 5) rfl))) (by decide) (backOf (W := 1) (own_init l Z a0 hw [] b45 vb (1 : Int32) h45 n0 Z47 ge46 A45 f48 f49 (own_y (P := fun b => ¬ b < 1) hbn (by decide)) (fun q => absurd q (by decide)) (fun _ => own_y (P := fun b => ¬ 64 < b) hbn (by decide))) hZ (hw _ (List.mem_of_getElem? (i := 5) rfl)) (hw _ (List.mem_of_getElem? (i := 2) rfl)) (by decide) (by decide)) (g := (mkF m 41 #[.val (.int vw), .val (.int vf), .val (.int (1 : Int32)), .val (.int vb), .unset, .unset, .unset, .unset, .unset] [(.int (1 : Int32)), (.int vb), (.ref b45), (.ref b45)])) rfl (by rw [hml]; rfl) (Steps.refl _) (a := b45) (argsL := [(.int vb), (.int (1 : Int32))]) (rest := [(.ref b45)]) (lenOf own_pd1 rfl) rfl (by show 2 * 0 + _ ≤ _; exact Nat.le_of_eq rfl) (hb hby at_41) (fun _ _ => ⟨rfl, e45, (by decide : 1 + 0 ≤ _), (by decide : 2 + 0 ≤ _)⟩)
    dsimp only [Pt.U, Pt.locs, Pt.cells, Pt.slots] at X50 l50 y50 z50 st50 hQ50
    subst l50 y50 z50
    obtain ⟨rfl, N50q, K50, Fb50, Fs50⟩ := hQ50
    have N50 := Fr.app N0 N50q
    have Fz50 : Fld Z T50.heap b45 "com/example/libkripke/libkripke/model/IntType" "signed" "Z" (.int (1 : Int32)) := Fs50
    have f51 : Exa Z T50.heap b45 "com/example/libkripke/libkripke/model/IntType" := A45.keep K50
    have Z52 : n0 ≤ T50.heap.size := Nat.le_trans Z47 K50.1
    refine OGo.on (fun t k => st50.trans k) ?_
    show OGo p e below s _ _ _ (T50.setTop (mkF m 44 #[.val (.int vw), .val (.int vf), .val (.int (1 : Int32)), .val (.int vb), .unset, .unset, .unset, .unset, .unset] [(.ref b45)]))
    refine OGo.on (fun t k => XS.astore X50.here hx rfl (hb hby at_44) rfl rfl (l' := #[.val (.int vw), .val (.int vf), .val (.int (1 : Int32)), .val (.int vb), .val (.ref b45), .unset, .unset, .unset, .unset]) rfl k) ?_
    show OGo p e below s _ _ _ (T50.setTop (mkF m 46 #[.val (.int vw), .val (.int vf), .val (.int (1 : Int32)), .val (.int vb), .val (.ref b45), .unset, .unset, .unset, .unset] []))
    refine OGo.on (fun t k => XS.aload X50.here hx rfl (hb hby at_46) rfl rfl k) ?_
    show OGo p e below s _ _ _ (T50.setTop (mkF m 48 #[.val (.int vw), .val (.int vf), .val (.int (1 : Int32)), .val (.int vb), .val (.ref b45), .unset, .unset, .unset, .unset] [(.ref b45)]))
    obtain ⟨cq53, kq53, q53a, q53b, q53c⟩ := isOf hZ rfl f51
    obtain ⟨_, _, ⟨T53, L53, k53, n53⟩, -, X53, ⟨Lc53, hQ53, l53, y53, z53⟩, st53⟩ := X50.virtualBack hx (y := (⟨"com/example/libkripke/libkripke/model/IntType", "min", "()J"⟩ : MethodName)) (z := (⟨"com/example/libkripke/libkripke/model/IntType", "min", "()J"⟩ : MethodName)) hown (mvT hZ (hw _ (List.mem_of_getElem? (i := 18) rfl))) (mvT hZ (hw _ (List.mem_of_getElem? (i := 19) rfl))) (notFace_of_selects (args := #[]) (mvT hZ (hw _ (List.mem_of_getElem? (i := 21) rfl)))) (mvT hZ (hw _ (List.mem_of_getElem? (i := 21) rfl))) (mvT hZ (hw _ (List.mem_of_getElem? (i := 20) rfl))) (by decide) (backOf (W := 0) (own_meth l Z a0 hw [] b45 vb (1 : Int32)  T50.heap n0 Z52 Fb50 Fz50) hZ (hw _ (List.mem_of_getElem? (i := 22) rfl)) (hw _ (List.mem_of_getElem? (i := 2) rfl)) (by decide) (by decide)) q53a q53c (g := (mkF m 48 #[.val (.int vw), .val (.int vf), .val (.int (1 : Int32)), .val (.int vb), .val (.ref b45), .unset, .unset, .unset, .unset] [(.ref b45)])) rfl (by rw [hml]; rfl) (Steps.refl _) (argsL := []) (rest := []) (lenOf own_pd2 rfl) rfl (by show 2 * 0 + _ ≤ _; exact Nat.le_of_eq rfl) (hb hby at_48) (fun _ _ => ⟨rfl, rfl, (by decide : 1 + 0 ≤ _), (by decide : 2 + 0 ≤ _)⟩)
    dsimp only [Pt.U, Pt.locs, Pt.cells, Pt.slots] at X53 l53 y53 z53 st53 hQ53
    subst l53 y53 z53
    obtain ⟨rfl, N53q, e53⟩ := hQ53
    have N53 := Fr.app N50 N53q
    refine OGo.on (fun t k => st53.trans k) ?_
    show OGo p e below s _ _ _ (T53.setTop (mkF m 51 #[.val (.int vw), .val (.int vf), .val (.int (1 : Int32)), .val (.int vb), .val (.ref b45), .unset, .unset, .unset, .unset] [(.long (own_min vb (1 : Int32)))]))
    refine OGo.on (fun t k => XS.lstore X53.here hx rfl (hb hby at_51) rfl (l' := #[.val (.int vw), .val (.int vf), .val (.int (1 : Int32)), .val (.int vb), .val (.ref b45), .val (.long (own_min vb (1 : Int32))), .second, .unset, .unset]) rfl k) ?_
    show OGo p e below s _ _ _ (T53.setTop (mkF m 53 #[.val (.int vw), .val (.int vf), .val (.int (1 : Int32)), .val (.int vb), .val (.ref b45), .val (.long (own_min vb (1 : Int32))), .second, .unset, .unset] []))
    refine OGo.on (fun t k => XS.iloadN X53.here hx rfl (hb hby at_53) rfl k) ?_
    show OGo p e below s _ _ _ (T53.setTop (mkF m 54 #[.val (.int vw), .val (.int vf), .val (.int (1 : Int32)), .val (.int vb), .val (.ref b45), .val (.long (own_min vb (1 : Int32))), .second, .unset, .unset] [(.int (1 : Int32))]))
    refine OGo.on (fun t k => XS.ifNo X53.here hx rfl (hb hby at_54) rfl ((if0 _ _).trans (feq (by decide)).1) k) ?_
    show OGo p e below s _ _ _ (T53.setTop (mkF m 57 #[.val (.int vw), .val (.int vf), .val (.int (1 : Int32)), .val (.int vb), .val (.ref b45), .val (.long (own_min vb (1 : Int32))), .second, .unset, .unset] []))
    refine OGo.on (fun t k => X53.ldc2J hx hown (mvT hZ (hw _ (List.mem_of_getElem? (i := 23) rfl))) (g := (mkF m 57 #[.val (.int vw), .val (.int vf), .val (.int (1 : Int32)), .val (.int vb), .val (.ref b45), .val (.long (own_min vb (1 : Int32))), .second, .unset, .unset] [])) rfl (hb hby at_57) k) ?_
    show OGo p e below s _ _ _ (T53.setTop (mkF m 60 #[.val (.int vw), .val (.int vf), .val (.int (1 : Int32)), .val (.int vb), .val (.ref b45), .val (.long (own_min vb (1 : Int32))), .second, .unset, .unset] [(.long (-9223372036854775808 : Int64))]))
    refine OGo.on (fun t k => XS.bipush X53.here hx rfl (hb hby at_60) k) ?_
    show OGo p e below s _ _ _ (T53.setTop (mkF m 62 #[.val (.int vw), .val (.int vf), .val (.int (1 : Int32)), .val (.int vb), .val (.ref b45), .val (.long (own_min vb (1 : Int32))), .second, .unset, .unset] [(.int (64 : Int32)), (.long (-9223372036854775808 : Int64))]))
    refine OGo.on (fun t k => XS.iloadN X53.here hx rfl (hb hby at_62) rfl k) ?_
    show OGo p e below s _ _ _ (T53.setTop (mkF m 63 #[.val (.int vw), .val (.int vf), .val (.int (1 : Int32)), .val (.int vb), .val (.ref b45), .val (.long (own_min vb (1 : Int32))), .second, .unset, .unset] [(.int vb), (.int (64 : Int32)), (.long (-9223372036854775808 : Int64))]))
    refine OGo.on (fun t k => XS.isub X53.here hx rfl (hb hby at_63) rfl k) ?_
    show OGo p e below s _ _ _ (T53.setTop (mkF m 64 #[.val (.int vw), .val (.int vf), .val (.int (1 : Int32)), .val (.int vb), .val (.ref b45), .val (.long (own_min vb (1 : Int32))), .second, .unset, .unset] [(.int ((64 : Int32) - vb)), (.long (-9223372036854775808 : Int64))]))
    refine OGo.on (fun t k => XS.lshr X53.here hx rfl (hb hby at_64) rfl k) ?_
    show OGo p e below s _ _ _ (T53.setTop (mkF m 65 #[.val (.int vw), .val (.int vf), .val (.int (1 : Int32)), .val (.int vb), .val (.ref b45), .val (.long (own_min vb (1 : Int32))), .second, .unset, .unset] [(.long ((-9223372036854775808 : Int64) >>> (((64 : Int32) - vb) &&& 0x3f).toInt64))]))
    refine OGo.on (fun t k => XS.goto X53.here hx rfl (pc0 := 65) (pc' := 69) rfl (hb hby at_65) (by decide) (by decide) k) ?_
    show OGo p e below s _ _ _ (T53.setTop (mkF m 69 #[.val (.int vw), .val (.int vf), .val (.int (1 : Int32)), .val (.int vb), .val (.ref b45), .val (.long (own_min vb (1 : Int32))), .second, .unset, .unset] [(.long ((-9223372036854775808 : Int64) >>> (((64 : Int32) - vb) &&& 0x3f).toInt64))]))
    refine OGo.on (fun t k => XS.lstore X53.here hx rfl (hb hby at_69) rfl (l' := #[.val (.int vw), .val (.int vf), .val (.int (1 : Int32)), .val (.int vb), .val (.ref b45), .val (.long (own_min vb (1 : Int32))), .second, .val (.long ((-9223372036854775808 : Int64) >>> (((64 : Int32) - vb) &&& 0x3f).toInt64)), .second]) rfl k) ?_
    show OGo p e below s _ _ _ (T53.setTop (mkF m 71 #[.val (.int vw), .val (.int vf), .val (.int (1 : Int32)), .val (.int vb), .val (.ref b45), .val (.long (own_min vb (1 : Int32))), .second, .val (.long ((-9223372036854775808 : Int64) >>> (((64 : Int32) - vb) &&& 0x3f).toInt64)), .second] []))
    refine OGo.on (fun t k => XS.lload X53.here hx rfl (hb hby at_71) rfl k) ?_
    show OGo p e below s _ _ _ (T53.setTop (mkF m 73 #[.val (.int vw), .val (.int vf), .val (.int (1 : Int32)), .val (.int vb), .val (.ref b45), .val (.long (own_min vb (1 : Int32))), .second, .val (.long ((-9223372036854775808 : Int64) >>> (((64 : Int32) - vb) &&& 0x3f).toInt64)), .second] [(.long (own_min vb (1 : Int32)))]))
    refine OGo.on (fun t k => XS.lload X53.here hx rfl (hb hby at_73) rfl k) ?_
    show OGo p e below s _ _ _ (T53.setTop (mkF m 75 #[.val (.int vw), .val (.int vf), .val (.int (1 : Int32)), .val (.int vb), .val (.ref b45), .val (.long (own_min vb (1 : Int32))), .second, .val (.long ((-9223372036854775808 : Int64) >>> (((64 : Int32) - vb) &&& 0x3f).toInt64)), .second] [(.long ((-9223372036854775808 : Int64) >>> (((64 : Int32) - vb) &&& 0x3f).toInt64)), (.long (own_min vb (1 : Int32)))]))
    refine OGo.on (fun t k => XS.lcmp X53.here hx rfl (hb hby at_75) rfl k) ?_
    show OGo p e below s _ _ _ (T53.setTop (mkF m 76 #[.val (.int vw), .val (.int vf), .val (.int (1 : Int32)), .val (.int vb), .val (.ref b45), .val (.long (own_min vb (1 : Int32))), .second, .val (.long ((-9223372036854775808 : Int64) >>> (((64 : Int32) - vb) &&& 0x3f).toInt64)), .second] [(.int (lcmpW (own_min vb (1 : Int32)) ((-9223372036854775808 : Int64) >>> (((64 : Int32) - vb) &&& 0x3f).toInt64)))]))
    refine OGo.on (fun t k => XS.ifNo X53.here hx rfl (hb hby at_76) rfl (lc_teq (own_y (P := fun b => (own_min b (1 : Int32)) = ((-9223372036854775808 : Int64) >>> (((64 : Int32) - b) &&& 0x3f).toInt64)) hbn (by decide +kernel))).2 k) ?_
    show OGo p e below s _ _ _ (T53.setTop (mkF m 79 #[.val (.int vw), .val (.int vf), .val (.int (1 : Int32)), .val (.int vb), .val (.ref b45), .val (.long (own_min vb (1 : Int32))), .second, .val (.long ((-9223372036854775808 : Int64) >>> (((64 : Int32) - vb) &&& 0x3f).toInt64)), .second] []))
    refine OGo.on (fun t k => XS.iconst X53.here hx rfl (hb hby at_79) k) ?_
    show OGo p e below s _ _ _ (T53.setTop (mkF m 80 #[.val (.int vw), .val (.int vf), .val (.int (1 : Int32)), .val (.int vb), .val (.ref b45), .val (.long (own_min vb (1 : Int32))), .second, .val (.long ((-9223372036854775808 : Int64) >>> (((64 : Int32) - vb) &&& 0x3f).toInt64)), .second] [(.int (1 : Int32))]))
    refine OGo.on (fun t k => XS.goto X53.here hx rfl (pc0 := 80) (pc' := 84) rfl (hb hby at_80) (by decide) (by decide) k) ?_
    show OGo p e below s _ _ _ (T53.setTop (mkF m 84 #[.val (.int vw), .val (.int vf), .val (.int (1 : Int32)), .val (.int vb), .val (.ref b45), .val (.long (own_min vb (1 : Int32))), .second, .val (.long ((-9223372036854775808 : Int64) >>> (((64 : Int32) - vb) &&& 0x3f).toInt64)), .second] [(.int (1 : Int32))]))
    exact OGo.retN X53 hx (t := .boolean) hret hlk (by simp) (hb hby at_84) ⟨rfl, N53⟩ (by decide) (by decide)
set_option maxRecDepth 65536 in
set_option maxHeartbeats 40000000 in
theorem comes_1 {Post : Tables → Env → Array Value → State → Outcome → State → Prop} (hpost : ∀ tb e args s v u, (limb_1_1.after args s (.returned v) u = true ∧ limb_1_2.after args s (.returned v) u = true ∧ True) → FrameEnd s (.returned v) u (Jvm.fieldLocs frame_1_writes args s ++ Jvm.arrayLocs frame_1_arrays args s ++ Jvm.staticLocs frame_1_statics s) 16 128 → Post tb e args s (.returned v) u) :
    ArmFor flags0 classFile x code maxLocals ret World_1 tables_1 room_1 Calls_1 rest_1 Pre_1 Post := by
  intro l hfl _ _ p e ha hc hk s m args below hf hA hF happ hP
  obtain ⟨hcalls, hrest, hpre⟩ := hP
  obtain ⟨-, -, -, hnamed, -, -, -, hat⟩ := (Spec.applies_iff hf).mp happ
  obtain ⟨hg, hn⟩ := and_e (Cond.before_iff.mp (show (Jvm.Cond.and given_1 narrow_1).before args s = true from hpre))
  obtain ⟨gg54, gg55⟩ := and_e hg
  obtain ⟨gg56, gg57⟩ := and_e gg55
  obtain ⟨w0, w1, rfl⟩ : ∃ w0 w1 : Value, args = #[w0, w1] := by
    have hs : args.size = 2 := by simpa [Cond.value, given_1] using gg54
    obtain ⟨L⟩ := args
    match L, hs with
    | [w0, w1], _ => exact ⟨w0, w1, rfl⟩
  have hw := fun d (hd : d ∈ tables_1) => atoms_spec (ws := Jvm.Cond.code x code maxLocals ret :: tables_1) hat d (List.mem_cons_of_mem _ hd)
  obtain ⟨i0, ei0⟩ := is_v gg56
  obtain rfl : w0 = (.int i0) := Option.some.inj ei0
  obtain ⟨i1, ei1⟩ := is_v gg57
  obtain rfl : w1 = (.int i1) := Option.some.inj ei1
  obtain ⟨n, o, h1, h2, h3, _, L, rfl, ⟨rfl, N⟩, hq⟩ := own_law l s _ hw tables_1 i0 i1 s.heap s.heap.size (Nat.le_refl _)  p e ha hc hk s m _ below hf ((Spec.applies_iff_loose hf).mp happ).1 ⟨rfl, State.Warmed39.refl s, rfl⟩ trivial
  refine ⟨n, _, h1, h2, h3, hpost _ _ _ _ _ _ ⟨Cond.after_iff.mpr rfl, Cond.after_iff.mpr (eq_i res_at (Term.int_eval (1)) rfl), trivial⟩ ⟨hq.1, hq.2.1, (hq.2.2.sift fun y hy => Or.inr (N y hy)).mono (by decide) (by decide)⟩⟩
theorem main_1_1 : Claimed_1_1 := comes_1 fun _ _ _ _ _ _ h hF => ⟨h.1, hF⟩
theorem main_1_2 : Claimed_1_2 := comes_1 fun _ _ _ _ _ _ h hF => ⟨h.2.1, hF⟩
end Jvm.Pilot.@@N@@
namespace Jvm.Pilot.@@N@@
open Jvm Jvm.ClassFile Sem Op Lib Jvm.Free Jvm.Stand Jvm.Pilot.@@N@@.Jvm.D
/-! MADE BY PROGRAM (witnessworld.py) out of the Statement's table words and the real class files: 10 classes; the members and pool entries that the words name. The judged class is class 1, her method 1. -/
namespace start1
open Jvm.ClassFile
def u (s : String) : CpInfo := .utf8 (stringToUtf16 s)
/-- a pool by its gaps: so many unusable entries, then the entry; so many at the end -/
def gap : Nat → List CpInfo → List CpInfo
  | 0, r => r
  | n + 1, r => .unusable :: gap n r
def poolList (es : List (Nat × CpInfo)) (last : Nat) : List CpInfo := es.foldr (fun e r => gap e.1 (e.2 :: r)) (gap last [])
def pool (es : List (Nat × CpInfo)) (last : Nat) : Array CpInfo := ⟨poolList es last⟩
def fileOf (pool : Array CpInfo) (this : Nat) (attrs : Array Attribute := #[]) (ms : Array MethodInfo := #[]) (fl : Nat := 33) (sup : Nat := 0) (ifs : Array Nat := #[]) (fds : Array FieldInfo := #[]) : ClassFile where
  minorVersion := 0
  majorVersion := 65
  constantPool := pool
  accessFlags := fl
  thisClass := this
  superClass := sup
  interfaces := ifs
  fields := fds
  methods := ms
  attributes := attrs
def plain (name : String) (sup : Option ClassId) : Class where
  name := name
  kind := .ordinary
  loader := none
  accessFlags := 33
  super := sup
  interfaces := #[]
  cf := none
  fields := #[]
  methods := #[]
  instanceTypes := #[]
  staticTypes := #[]
  resolved := #[]
  callSites := []
  init := .initialized
  statics := none
  mirror := none

def pool0 : Array CpInfo := pool [(5, u "<init>"), (0, u "()V"), (1, .class_ 10), (1, u "java/lang/Object")] 113

def k0c0 : Code := { maxStack := 0, maxLocals := 1, code := object_method_1_code, exceptionTable := #[], attributes := #[] }
def k0m0 : Method := { name := "<init>", desc := "()V", sig := { parameters := [], returnType := none }, accessFlags := 1, code := some k0c0 }
/-- java/lang/Object -/
def k0 : Class := { plain "java/lang/Object" none with
  accessFlags := 33
  interfaces := #[]
  cf := some (fileOf pool0 8 #[] #[{ accessFlags := 1, nameIndex := 5, descriptorIndex := 6, attributes := #[] }] 33 0 #[] #[])
  fields := #[]
  methods := #[k0m0]
  instanceTypes := #[]
  staticTypes := #[]
  resolved := Array.replicate 124 none
  statics := none }

def pool1 : Array CpInfo := pool [(2, .class_ 4), (1, u "java/lang/Object"), (0, u "<init>"), (0, u "()V"), (0, .integer 2147483647), (0, .class_ 9), (0, u "com/example/libkripke/libkripke/model/IntType"), (0, .methodref 8 11), (0, .nameAndType 5 12), (0, u "(IZ)V"), (0, .methodref 8 14), (0, .nameAndType 15 16), (0, u "min"), (0, u "()J"), (0, .long 9223372036854775808), (1, .class_ 20), (0, u "com/example/libkripke/libkripke/model/IntTypeMinPinLaw"), (2, u "law"), (0, u "(II)Z")] 3

def k1m0 : Method := { name := "<init>", desc := "()V", sig := { parameters := [], returnType := none }, accessFlags := 1, code := none }
def k1c1 : Code := { maxStack := 4, maxLocals := 9, code := code, exceptionTable := #[], attributes := #[] }
def k1m1 : Method := { name := "law", desc := "(II)Z", sig := { parameters := [.int, .int], returnType := some .boolean }, accessFlags := 9, code := some k1c1 }
/-- com/example/libkripke/libkripke/model/IntTypeMinPinLaw -/
def k1 : Class := { plain "com/example/libkripke/libkripke/model/IntTypeMinPinLaw" (some 0) with
  accessFlags := 49
  interfaces := #[]
  cf := some (fileOf pool1 19 #[] #[{ accessFlags := 1, nameIndex := 5, descriptorIndex := 6, attributes := #[] }, { accessFlags := 9, nameIndex := 23, descriptorIndex := 24, attributes := #[] }] 49 2 #[] #[])
  fields := #[]
  methods := #[k1m0, k1m1]
  instanceTypes := #[]
  staticTypes := #[]
  resolved := Array.replicate 28 none
  statics := none }

def pool2 : Array CpInfo := pool [(1, .methodref 2 3), (0, .class_ 4), (0, .nameAndType 5 6), (0, u "java/lang/Object"), (0, u "<init>"), (0, u "()V"), (0, .class_ 8), (0, u "java/lang/Record")] 13

def k2c0 : Code := { maxStack := 1, maxLocals := 1, code := jdk_30_method_1_code, exceptionTable := #[], attributes := #[] }
def k2m0 : Method := { name := "<init>", desc := "()V", sig := { parameters := [], returnType := none }, accessFlags := 4, code := some k2c0 }
/-- java/lang/Record -/
def k2 : Class := { plain "java/lang/Record" (some 0) with
  accessFlags := 1057
  interfaces := #[]
  cf := some (fileOf pool2 7 #[] #[{ accessFlags := 4, nameIndex := 5, descriptorIndex := 6, attributes := #[] }] 1057 2 #[] #[])
  fields := #[]
  methods := #[k2m0]
  instanceTypes := #[]
  staticTypes := #[]
  resolved := Array.replicate 22 none
  statics := none }

def pool3 : Array CpInfo := pool [(3, .methodref 4 5), (0, .class_ 6), (0, .nameAndType 7 8), (0, u "java/lang/Record"), (0, u "<init>"), (0, u "()V"), (0, .class_ 10), (0, u "com/example/libkripke/libkripke/model/IntType"), (25, .fieldref 9 37), (0, .nameAndType 38 39), (0, u "bits"), (0, u "I"), (0, .fieldref 9 41), (0, .nameAndType 42 43), (0, u "signed"), (0, u "Z"), (2, u "(IZ)V"), (12, u "MAX_BITS"), (10, u "min"), (0, u "()J")] 28

def k3c0 : Code := { maxStack := 7, maxLocals := 4, code := prog_78_method_1_code, exceptionTable := #[], attributes := #[] }
def k3m0 : Method := { name := "<init>", desc := "(IZ)V", sig := { parameters := [.int, .boolean], returnType := none }, accessFlags := 1, code := some k3c0 }
def k3c1 : Code := { maxStack := 4, maxLocals := 1, code := prog_78_method_4_code, exceptionTable := #[], attributes := #[] }
def k3m1 : Method := { name := "min", desc := "()J", sig := { parameters := [], returnType := some .long }, accessFlags := 1, code := some k3c1 }
/-- com/example/libkripke/libkripke/model/IntType -/
def k3 : Class := { plain "com/example/libkripke/libkripke/model/IntType" (some 2) with
  accessFlags := 49
  interfaces := #[]
  cf := some (fileOf pool3 9 #[] #[{ accessFlags := 1, nameIndex := 7, descriptorIndex := 46, attributes := #[] }, { accessFlags := 1, nameIndex := 70, descriptorIndex := 71, attributes := #[] }] 49 4 #[] #[{ accessFlags := 18, nameIndex := 38, descriptorIndex := 39, attributes := #[] }, { accessFlags := 18, nameIndex := 42, descriptorIndex := 43, attributes := #[] }, { accessFlags := 26, nameIndex := 59, descriptorIndex := 39, attributes := #[] }])
  fields := #[{ name := "bits", type := .int, accessFlags := 18, slot := 0, constantValue := 0 }, { name := "signed", type := .boolean, accessFlags := 18, slot := 1, constantValue := 0 }, { name := "MAX_BITS", type := .int, accessFlags := 26, slot := 0, constantValue := 0 }]
  methods := #[k3m0, k3m1]
  instanceTypes := #[.int, .boolean]
  staticTypes := #[.int]
  resolved := Array.replicate 100 none
  statics := none }

def pool4 : Array CpInfo := pool [(1, u "java/lang/Cloneable"), (0, .class_ 1), (0, u "java/lang/Object"), (0, .class_ 3)] 3

/-- java/lang/Cloneable -/
def k4 : Class := { plain "java/lang/Cloneable" (some 0) with
  accessFlags := 1537
  interfaces := #[]
  cf := some (fileOf pool4 2 #[] #[] 1537 4 #[] #[])
  fields := #[]
  methods := #[]
  instanceTypes := #[]
  staticTypes := #[]
  resolved := Array.replicate 8 none
  statics := none }

def pool5 : Array CpInfo := pool [(1, u "java/io/Serializable"), (0, .class_ 1), (0, u "java/lang/Object"), (0, .class_ 3)] 3

/-- java/io/Serializable -/
def k5 : Class := { plain "java/io/Serializable" (some 0) with
  accessFlags := 1537
  interfaces := #[]
  cf := some (fileOf pool5 2 #[] #[] 1537 4 #[] #[])
  fields := #[]
  methods := #[]
  instanceTypes := #[]
  staticTypes := #[]
  resolved := Array.replicate 8 none
  statics := none }

/-- the primitive byte -/
def k6 : Class := { plain "byte" none with kind := .primitive 'B', accessFlags := 0x411 }
/-- [B -/
def k7 : Class := { plain "[B" (some 0) with kind := .array 6 .byte, interfaces := #[4, 5], accessFlags := 1041 }

/-- the primitive int -/
def k8 : Class := { plain "int" none with kind := .primitive 'I', accessFlags := 0x411 }
/-- [I -/
def k9 : Class := { plain "[I" (some 0) with kind := .array 8 .int, interfaces := #[4, 5], accessFlags := 1041 }

def heap : Heap := #[]
def classes : Array Class := #[k0, k1, k2, k3, k4, k5, k6, k7, k8, k9]
def interned : List (Array UInt16 × Addr) := []
def slotsUsed : Nat := 0
def theMethod : MethodId := ⟨1, 1⟩
def args0 : Array Value := #[.int 5, .int 3]
def aboutOver (below : List Frame) : State where
  vm := { classes := classes, interned := interned.toArray }
  heap := heap
  slotsUsed := slotsUsed
  threads := #[{ frames := .invoking theMethod args0 :: below }]
def below0 : List Frame := [.native { method := ⟨0, 0⟩, args := #[] }]
def about1 : State := aboutOver below0
def p0 : Program := .bare "" "" ""
def e0 : Env := launch0.env 0 0 0
theorem w_frames : about1.frames = Frame.invoking theMethod args0 :: below0 := rfl
set_option maxRecDepth 65536 in
theorem w_args : argsFit about1.vm theMethod args0 = true := by decide +kernel
set_option maxRecDepth 65536 in
theorem w_heap : heapFits about1 = true := by decide +kernel
set_option maxRecDepth 65536 in
theorem w_runnable : about1.curStatus? = some .runnable := by decide +kernel
set_option maxRecDepth 65536 in
theorem w_alone : about1.alone = true := by decide +kernel
set_option maxRecDepth 65536 in
theorem w_named : about1.methodNamed? x = some theMethod := by decide +kernel
set_option maxRecDepth 65536 in
theorem w_hears : about1.hears theMethod below0 = true := by decide +kernel
set_option maxRecDepth 65536 in
theorem w_ripe : about1.ripe theMethod args0 below0 = true := by decide +kernel
theorem w_running : about1.status = .running := rfl
set_option maxRecDepth 65536 in
theorem w_room : about1.hasRoom e0.platform room_1 = true :=
  launch0.hasRoom_least _ room_1 (by decide +kernel) (by decide +kernel) (by decide +kernel) (by decide +kernel) (by decide +kernel) (by decide +kernel)
theorem allAtoms_all (ts : List Jvm.Cond) (a : Array Jvm.Value) (st : Jvm.State) : (allAtoms ts).before a st = ts.all (fun c => c.before a st) := by
  induction ts with
  | nil => rfl
  | cons c t ih =>
    show (Jvm.Cond.and c (allAtoms t)).before a st = _
    rw [Jvm.Cond.before_and, ih, List.all_cons]
def words1 : List Jvm.Cond := Jvm.Cond.code x code maxLocals ret :: tables_1
/-- a 'code' word, met by the world's own term for the bytes: nothing is compared byte by byte -/
theorem code_word {y : MethodName} {bytes : ByteArray} {mx : Nat} {rt : Option FieldType} {a : Array Value} {s : State} {m : MethodId} {meth : Method} {c : Code} (h1 : s.methodNamed? y = some m) (h2 : s.vm.method? m = some meth) (h3 : meth.code = some c) (h4 : c.code = bytes)
    (h5 : (c.maxLocals == mx && c.exceptionTable.isEmpty && decide (c.maxStack ≤ mostOperands) && decide (meth.sig.returnType = rt) && !meth.locks && decide (parseMethodDescriptor y.desc = some meth.sig)) = true) : (Jvm.Cond.code y bytes mx rt).before a s = true := by
  simp only [Bool.and_eq_true, beq_iff_eq, Bool.not_eq_true', decide_eq_true_eq] at h5
  obtain ⟨⟨⟨⟨⟨g1, g2⟩, g3⟩, g4⟩, g5⟩, g6⟩ := h5
  simp [Cond.before, Cond.holds, Cond.value, h1, h2, h3, h4, g1, g2, g3, g4, g5, g6]
def isCode : Jvm.Cond → Bool
  | .code _ _ _ _ => true
  | _ => false
theorem all_split {L : List Jvm.Cond} {P : Jvm.Cond → Bool} (h1 : L.all (fun c => isCode c || P c) = true) (h2 : ∀ c ∈ L.filter isCode, P c = true) : L.all P = true := by
  refine List.all_eq_true.mpr fun c hc => ?_
  have h := List.all_eq_true.mp h1 c hc
  rcases Bool.eq_false_or_eq_true (isCode c) with hi | hi
  · exact h2 c (List.mem_filter.mpr ⟨hc, hi⟩)
  · simpa [hi] using h
set_option maxRecDepth 65536 in
theorem w_c0 : (Jvm.Cond.code x code maxLocals ret).before args0 about1 = true := code_word (m := ⟨1, 1⟩) (meth := k1m1) (c := k1c1) (by decide +kernel) rfl rfl rfl (by decide +kernel)
set_option maxRecDepth 65536 in
theorem w_c1 : (Jvm.Cond.code ({ cls := "com/example/libkripke/libkripke/model/IntType", name := "<init>", desc := "(IZ)V" } : Jvm.MethodName) prog_78_method_1_code (4 : Nat) (Option.none : Option Jvm.ClassFile.FieldType)).before args0 about1 = true := code_word (m := ⟨3, 0⟩) (meth := k3m0) (c := k3c0) (by decide +kernel) rfl rfl rfl (by decide +kernel)
set_option maxRecDepth 65536 in
theorem w_c2 : (Jvm.Cond.code ({ cls := "java/lang/Record", name := "<init>", desc := "()V" } : Jvm.MethodName) jdk_30_method_1_code (1 : Nat) (Option.none : Option Jvm.ClassFile.FieldType)).before args0 about1 = true := code_word (m := ⟨2, 0⟩) (meth := k2m0) (c := k2c0) (by decide +kernel) rfl rfl rfl (by decide +kernel)
set_option maxRecDepth 65536 in
theorem w_c3 : (Jvm.Cond.code ({ cls := "java/lang/Object", name := "<init>", desc := "()V" } : Jvm.MethodName) object_method_1_code (1 : Nat) (Option.none : Option Jvm.ClassFile.FieldType)).before args0 about1 = true := code_word (m := ⟨0, 0⟩) (meth := k0m0) (c := k0c0) (by decide +kernel) rfl rfl rfl (by decide +kernel)
set_option maxRecDepth 65536 in
theorem w_c4 : (Jvm.Cond.code ({ cls := "com/example/libkripke/libkripke/model/IntType", name := "min", desc := "()J" } : Jvm.MethodName) prog_78_method_4_code (1 : Nat) (Option.some Jvm.ClassFile.FieldType.long)).before args0 about1 = true := code_word (m := ⟨3, 1⟩) (meth := k3m1) (c := k3c1) (by decide +kernel) rfl rfl rfl (by decide +kernel)
def codes1 : List Jvm.Cond := [Jvm.Cond.code x code maxLocals ret, Jvm.Cond.code ({ cls := "com/example/libkripke/libkripke/model/IntType", name := "<init>", desc := "(IZ)V" } : Jvm.MethodName) prog_78_method_1_code (4 : Nat) (Option.none : Option Jvm.ClassFile.FieldType), Jvm.Cond.code ({ cls := "java/lang/Record", name := "<init>", desc := "()V" } : Jvm.MethodName) jdk_30_method_1_code (1 : Nat) (Option.none : Option Jvm.ClassFile.FieldType), Jvm.Cond.code ({ cls := "java/lang/Object", name := "<init>", desc := "()V" } : Jvm.MethodName) object_method_1_code (1 : Nat) (Option.none : Option Jvm.ClassFile.FieldType), Jvm.Cond.code ({ cls := "com/example/libkripke/libkripke/model/IntType", name := "min", desc := "()J" } : Jvm.MethodName) prog_78_method_4_code (1 : Nat) (Option.some Jvm.ClassFile.FieldType.long)]
set_option maxRecDepth 65536 in
theorem codes_eq : words1.filter isCode = codes1 := rfl
theorem w_codes : ∀ c ∈ words1.filter isCode, c.before args0 about1 = true := by
  rw [codes_eq]
  intro c hc
  simp only [codes1, List.mem_cons, List.not_mem_nil, or_false] at hc
  rcases hc with rfl | rfl | rfl | rfl | rfl
  · exact w_c0
  · exact w_c1
  · exact w_c2
  · exact w_c3
  · exact w_c4
set_option maxRecDepth 65536 in
theorem w_t1 : (words1.take 24).all (fun c => isCode c || c.before args0 about1) = true := by decide +kernel
set_option maxRecDepth 65536 in
theorem w_t2 : (words1.drop 24).all (fun c => isCode c || c.before args0 about1) = true := by decide +kernel
theorem w_tables : (allAtoms (Jvm.Cond.code x code maxLocals ret :: tables_1)).before args0 about1 = true := by
  rw [allAtoms_all]
  show words1.all (fun c => c.before args0 about1) = true
  refine all_split ?_ w_codes
  rw [← List.take_append_drop 24 words1, List.all_append, w_t1, w_t2]
  rfl
set_option maxRecDepth 65536 in
theorem w_case : (Jvm.Cond.and given_1 narrow_1).before args0 about1 = true := by decide +kernel
theorem w_applies : (headSpec (Jvm.Cond.code x code maxLocals ret :: tables_1) room_1).applies x e0.platform about1 = true :=
  (Spec.applies_iff w_frames).mpr ⟨w_running, w_runnable, w_alone, w_named, w_hears, w_ripe, w_room, w_tables⟩
theorem atStart : AtStart classFile x code maxLocals ret World_1 tables_1 room_1 Calls_1 rest_1 Pre_1 launch0 p0 e0 about1 theMethod args0 below0 :=
  ⟨lists_1, trivial, launch0.admits_env _ _ _, launch0.least_env, fairChoices_fair.cas, fairChoices_fair.clock, w_frames, w_args, w_heap, w_applies, trivial, trivial, w_case⟩
end start1
theorem witness_1 : WitnessClaimed_1 := ⟨start1.p0, start1.e0, start1.about1, start1.theMethod, start1.args0, start1.below0, start1.atStart⟩
end Jvm.Pilot.@@N@@
